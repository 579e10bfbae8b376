import PyProof.Rows.All
import Wide.All
import OpenK.AllK
import Wide.FinOn
import PySem.Challenge.RW_tc0069_01
set_option Elab.async false
set_option maxRecDepth 100000
set_option linter.all false
noncomputable section
namespace Mine
variable {α : Type _} {a b c d e x : α} {l : List α} {P : α → Prop}
theorem ni0 : ¬ a ∈ ([] : List α) := List.not_mem_nil
theorem niC (h : a ≠ b) (h' : ¬ a ∈ l) : ¬ a ∈ b :: l := fun q => by cases q with | head => exact h rfl | tail _ q => exact h' q
theorem ni1 (h : a ≠ b) : ¬ a ∈ [b] := niC h ni0
theorem ni2 (h : a ≠ b) (h2 : a ≠ c) : ¬ a ∈ [b, c] := niC h (ni1 h2)
theorem ni3 (h : a ≠ b) (h2 : a ≠ c) (h3 : a ≠ d) : ¬ a ∈ [b, c, d] := niC h (ni2 h2 h3)
theorem al0 : ∀ x, x ∈ ([] : List α) → P x := fun _ q => by cases q
theorem alC (h : P a) (h' : ∀ x, x ∈ l → P x) : ∀ x, x ∈ a :: l → P x := fun _ q => by cases q with | head => exact h | tail _ q => exact h' _ q
theorem al1 (h : P a) : ∀ x, x ∈ [a] → P x := alC h al0
theorem al2 (h : P a) (h2 : P b) : ∀ x, x ∈ [a, b] → P x := alC h (al1 h2)
theorem al3 (h : P a) (h2 : P b) (h3 : P c) : ∀ x, x ∈ [a, b, c] → P x := alC h (al2 h2 h3)
theorem m1 : a ∈ a :: l := .head _
theorem m2 : b ∈ a :: b :: l := .tail _ (.head _)
theorem m3 : c ∈ a :: b :: c :: l := .tail _ m2
theorem m4 : d ∈ a :: b :: c :: d :: l := .tail _ m3
theorem m5 : e ∈ a :: b :: c :: d :: e :: l := .tail _ m4
theorem mS (h : x ∈ l) : x ∈ a :: l := .tail _ h
theorem mE (q : x = a) : x ∈ a :: l := q ▸ m1
theorem nd1 {β : Type _} {p : α × β} : (List.map (fun q => q.1) [p]).Nodup := by simp
theorem sn : some a ≠ none := nofun
theorem tnL : PySem.Value.type "list" ≠ .type "tuple" := by simp
theorem tnD : PySem.Value.type "dict" ≠ .type "tuple" := by simp
theorem tnA {a} : PySem.Value.ref a ≠ .type "tuple" := nofun
theorem dlt {n i k : Nat} (h : n - i = k + 1) : i < n := by omega
theorem dst {n i k : Nat} (h : n - i = k + 1) : n - (i + 1) = k := by omega
theorem de0 {n i : Nat} (h : n - i = 0) (h' : i ≤ n) : i = n := by omega
theorem de1 {n i : Nat} (h : n - i = 0) (h' : i ≤ n) : n = i := by omega
theorem dlt2 {n i k m : Nat} (h : n - i = k + 1) (h' : n ≤ m) : i < m := by omega
theorem dlt3 {n i k m : Nat} (h : n - i = k + 1) (h' : n = m) : i < m := by omega
theorem dlt4 {n i k m : Nat} (h : n - i = k + 1) (h' : m = n) : i < m := by omega
theorem lenat {a b : Nat} (h : a ≤ b) : (a : Int) ≤ b := by omega
theorem ltnat {a b : Nat} (h : a < b) : (a : Int) < b := by omega
open PySem in
theorem qcut {α : Type} {M : Model} {A : Around} {m : Sem α} {Q : α → Shared → Prop} {E : Value → Shared → Prop} {s : Shared} (h : ∀ Q' : α → Shared → Prop, Q' = Q → wpAny M A m Q' E s) : wpAny M A m Q E s := h Q rfl
open PySem in
theorem xc {M : Model} {A : Around} {st : Stmt} {rest : List Stmt} {env : Env} {Q : Flow → Shared → Prop} {E : Value → Shared → Prop} {s : Shared} (h : ∀ Q' : Flow → Shared → Prop, (∀ s', wpAny M A (execs rest env) Q E s' → Q' .next s') → wpAny M A (exec st env) Q' E s) : wpAny M A (execs (st :: rest) env) Q E s := wpAny_execs_cons (h _ fun _ q => q)
open PySem in
theorem vc {α : Type} {M : Model} {A : Around} {m : Sem α} {Q : α → Shared → Prop} {E : Value → Shared → Prop} {s : Shared} (h : ∀ Q' : α → Shared → Prop, (∀ v s', Q v s' → Q' v s') → wpAny M A m Q' E s) : wpAny M A m Q E s := h Q fun _ _ q => q
end Mine
end
noncomputable section
open PySem PySem.W PySem.Calls PyProof.Rows
namespace Mine
abbrev Tabs := List (Addr × Addr)
structure Gb (T : Tabs) (K : Frag) (mg mb : Str → Option Value) (g : Heap) : Prop where
  X : K.In g
  mgN : g.Ns mainGlobals mg
  mbN : g.Ns builtinsNs mb
  nolim : g.NoLimit
  boot : ∀ x : Str, x ≠ "__name__" → mb x = bootBuiltins x
  kt : ∀ p ∈ T, K.lookup p.2 = none
  k1 : mainGlobals ∉ T.map (·.2)
  k2 : builtinsNs ∉ T.map (·.2)
  k3 : cStatics ∉ T.map (·.2)
  bm : ∃ bm d sl, mg "__builtins__" = some (.ref bm) ∧ bm ≠ builtinsNs ∧ K.lookup bm = some ⟨.type "module", some builtinsNs, d, sl⟩ ∧ d = .plain
structure St (T : Tabs) (g h : Heap) : Prop where
  old : OldK g h
  keep : ∀ b o, g.get? b = some o → b ∉ T.map (·.2) → h.get? b = some o
  tab : ∀ p ∈ T, ∃ ps ps₀, h.IsCode p.1 p.2 ps ∧ h.TableAt p.1 p.2 ps ∧ g.TableAt p.1 p.2 ps₀
  le : g.objs.size ≤ h.objs.size
def isTup (o : Obj) : Prop := o.cls = .type "tuple" ∧ ∃ its n, o.data = .seq its n
structure Mv (T : Tabs) (g : Heap) (W : List Addr) (h h' : Heap) : Prop where
  st : St T g h'
  keep : ∀ b o, h.get? b = some o → b ∉ T.map (·.2) → (b ∉ W ∨ isTup o) → h'.get? b = some o
  there : ∀ b o, h.get? b = some o → ∃ o', h'.get? b = some o'
theorem St.In {T : Tabs} {K : Frag} {mg mb : Str → Option Value} {g h : Heap} (G : Gb T K mg mb g) (S : St T g h) : K.In h := by
  intro a o e
  refine S.keep a o (G.X a o e) fun hm => ?_
  obtain ⟨p, hp, rfl⟩ := List.mem_map.mp hm
  rw [G.kt p hp] at e; cases e
theorem St.ns {T : Tabs} {g h : Heap} {a : Addr} {m : Str → Option Value} (S : St T g h) (hn : g.Ns a m) (ha : a ∉ T.map (·.2)) : h.Ns a m := by
  obtain ⟨o, es, n, ho, r⟩ := hn
  exact ⟨o, es, n, S.keep a o ho ha, r⟩
theorem Mv.refl {T : Tabs} {g h : Heap} {W : List Addr} (S : St T g h) : Mv T g W h h := ⟨S, fun _ _ e _ _ => e, fun _ o e => ⟨o, e⟩⟩
theorem Mv.trans {T : Tabs} {g h h₁ h₂ : Heap} {W W' : List Addr} (x : Mv T g W h h₁) (y : Mv T g W' h₁ h₂) (hw : ∀ b ∈ W', b ∈ W ∨ h.get? b = none) : Mv T g W h h₂ := by
  refine ⟨y.st, fun b o e ht hb => ?_, fun b o e => let ⟨o', e'⟩ := x.there b o e; y.there b o' e'⟩
  refine y.keep b o (x.keep b o e ht hb) ht ?_
  rcases hb with hb | hb
  · left
    intro hm
    rcases hw b hm with q | q
    · exact hb q
    · rw [q] at e; cases e
  · exact .inr hb
structure J (T : Tabs) (g : Heap) (W : List Addr) (h₀ : Heap) (L : Addr) (h : Heap) (m : Str → Option Value) (kn : List (Addr × Obj)) : Prop where
  mv : Mv T g W h₀ h
  ns : h.Ns L m
  Lt : L ∉ T.map (·.2)
  Ln : h₀.get? L = none
  Lg : g.objs.size ≤ L
  has : ∀ p ∈ kn, h.get? p.1 = some p.2 ∧ p.1 ≠ L ∧ p.1 ∉ T.map (·.2) ∧ g.objs.size ≤ p.1
  nd : (kn.map (·.1)).Nodup
  s0 : St T g h₀
section
variable {T : Tabs} {g h₀ h h' : Heap} {W : List Addr} {L : Addr} {m m' : Str → Option Value} {kn kn' : List (Addr × Obj)}
theorem St.push (S : St T g h) (o : Obj) : St T g (h.push o) := by
  refine ⟨S.old.step_keeps fun b o' e => Heap.get?_push_of_some _ e, fun b o' e ht => Heap.get?_push_of_some _ (S.keep b o' e ht), fun p hp => ?_, ?_⟩
  · obtain ⟨ps, ps₀, a, b, c⟩ := S.tab p hp
    exact ⟨ps, ps₀, a.push o, b.push o, c⟩
  · rw [Heap.size_push]; exact Nat.le_succ_of_le S.le
theorem St.keeps (S : St T g h) (k : ∀ b o, h.get? b = some o → h'.get? b = some o) (hl : h.objs.size ≤ h'.objs.size) : St T g h' := by
  refine ⟨S.old.step_keeps k, fun b o' e ht => k _ _ (S.keep b o' e ht), fun p hp => ?_, Nat.le_trans S.le hl⟩
  obtain ⟨ps, ps₀, a, b, c⟩ := S.tab p hp
  exact ⟨ps, ps₀, a.keeps k, b.keeps k, c⟩
theorem St.same (S : St T g h) {a : Addr} (ha : g.objs.size ≤ a) (hs : Heap.SameBut a h h') : St T g h' := by
  refine ⟨S.old.step_same ha hs, fun b o' e ht => (hs.2 b fun q => ?_).trans (S.keep b o' e ht), fun p hp => ?_, Nat.le_trans S.le (Nat.le_of_eq hs.1.symm)⟩
  · subst q; exact absurd (Heap.lt_size e) (Nat.not_lt.mpr ha)
  · obtain ⟨ps, ps₀, x, y, z⟩ := S.tab p hp
    have hP : p.2 ≠ a := fun q => absurd (Heap.lt_size z.2) (Nat.not_lt.mpr (q ▸ ha))
    obtain ⟨⟨o₁, vs, e₁, r⟩, _⟩ := id z
    have hc : p.1 ≠ a := fun q => absurd (Heap.lt_size e₁) (Nat.not_lt.mpr (q ▸ ha))
    exact ⟨ps, ps₀, x.sameBut hs hc hP, y.sameBut hs hc hP, z⟩
theorem St.notTab (S : St T g h) {b : Addr} {o : Obj} (e : h.get? b = some o) (hc : o.cls ≠ .none) : b ∉ T.map (·.2) := fun hm => by
  obtain ⟨q, hq, rfl⟩ := List.mem_map.mp hm
  obtain ⟨ps, ps₀, x, y, z⟩ := S.tab q hq
  rw [y.2] at e
  cases e
  exact hc rfl
theorem J.old (j : J T g W h₀ L h m kn) {b : Addr} {o : Obj} (e : h₀.get? b = some o) (hb : b ∉ W ∨ isTup o) (hc : o.cls ≠ .none := by nofun) : h.get? b = some o := j.mv.keep b o e (j.s0.notTab e hc) hb
theorem J.get (j : J T g W h₀ L h m kn) {a : Addr} {o : Obj} (hm : (a, o) ∈ kn) : h.get? a = some o := (j.has _ hm).1
theorem J.store (j : J T g W h₀ L h m kn) (hn : h'.Ns L m') (hs : Heap.SameBut L h h') : J T g W h₀ L h' m' kn := by
  have keep : ∀ b o, h₀.get? b = some o → b ∉ T.map (·.2) → (b ∉ W ∨ isTup o) → h'.get? b = some o := fun b o e ht hb => (hs.2 b fun q => by rw [q, j.Ln] at e; cases e).trans (j.mv.keep b o e ht hb)
  have there : ∀ b o, h₀.get? b = some o → ∃ o', h'.get? b = some o' := fun b o e => by
    obtain ⟨o', e'⟩ := j.mv.there b o e
    exact ⟨o', (hs.2 b fun q => by rw [q, j.Ln] at e; cases e).trans e'⟩
  exact ⟨⟨j.mv.st.same j.Lg hs, keep, there⟩, hn, j.Lt, j.Ln, j.Lg, fun p hp => ⟨(hs.2 p.1 (j.has p hp).2.1).trans (j.has p hp).1, (j.has p hp).2⟩, j.nd, j.s0⟩
theorem J.storeMv (j : J T g W h₀ L h m kn) (hn : h'.Ns L m') (hs : Heap.SameBut L h h') : Mv T g [L] h h' := by
  refine ⟨j.mv.st.same j.Lg hs, fun b o e ht hb => (hs.2 b fun q => ?_).trans e, fun b o e => ?_⟩
  · subst q
    rcases hb with hb | hb
    · exact hb (.head _)
    · obtain ⟨o', es, n, e', d, _⟩ := j.ns
      obtain ⟨_, its, k, d'⟩ := hb
      rw [e'] at e
      cases e
      rw [d] at d'
      cases d'
  · by_cases q : b = L
    · subst q
      obtain ⟨o', es, n, e', _⟩ := hn
      exact ⟨o', e'⟩
    · exact ⟨o, (hs.2 b q).trans e⟩
theorem J.push (j : J T g W h₀ L h m kn) (o : Obj) (hf : o.isFreed = false) : J T g W h₀ L (h.push o) m ((h.objs.size, o) :: kn) := by
  have keep : ∀ b o', h.get? b = some o' → (h.push o).get? b = some o' := fun b o' e => Heap.get?_push_of_some _ e
  obtain ⟨oL, es, n, hL, r⟩ := j.ns
  refine ⟨⟨j.mv.st.push o, fun b o' e ht hb => keep _ _ (j.mv.keep b o' e ht hb), fun b o' e => let ⟨o₁, e₁⟩ := j.mv.there b o' e; ⟨o₁, keep _ _ e₁⟩⟩, ⟨oL, es, n, keep _ _ hL, r⟩, j.Lt, j.Ln, j.Lg, fun p hp => ?_, ?_, j.s0⟩
  · rcases List.mem_cons.mp hp with rfl | hp
    · refine ⟨Heap.get?_push_size _ hf, Nat.ne_of_gt (Heap.lt_size hL), fun hm => ?_, j.mv.st.le⟩
      obtain ⟨q, hq, e⟩ := List.mem_map.mp hm
      obtain ⟨ps, ps₀, x, y, z⟩ := j.mv.st.tab q hq
      have := Heap.lt_size y.2
      rw [e] at this
      exact absurd this (Nat.lt_irrefl _)
    · exact ⟨keep _ _ (j.has p hp).1, (j.has p hp).2⟩
  · rw [List.map_cons]
    refine List.nodup_cons.mpr ⟨fun hm => ?_, j.nd⟩
    obtain ⟨q, hq, e⟩ := List.mem_map.mp hm
    have := Heap.lt_size (j.has q hq).1
    rw [e] at this
    exact absurd this (Nat.lt_irrefl _)
theorem J.new (j : J T g W h₀ L h m kn) : h₀.get? h.objs.size = none := by
  cases q : h₀.get? h.objs.size with
  | none => rfl
  | some o =>
    obtain ⟨o', e'⟩ := j.mv.there _ _ q
    exact absurd (Heap.lt_size e') (Nat.lt_irrefl _)
theorem J.update (j : J T g W h₀ L h m kn) {a : Addr} {o o' : Obj} {f : Obj → Obj} (i : Nat) (hi : kn[i]? = some (a, o)) (hw : a ∈ W ∨ h₀.get? a = none) (hc : o.cls ≠ .type "tuple") (e : f o = o') (hf : o'.isFreed = false) :
    J T g W h₀ L (h.update a f) m (kn.set i (a, o')) := by
  have hm : (a, o) ∈ kn := List.mem_of_getElem? hi
  have z := j.has _ hm
  have hs : Heap.SameBut a h (h.update a f) := Heap.SameBut.update ..
  have ge : (h.update a f).get? a = some o' := by
    have := Heap.get?_update_self f z.1 (by rw [e]; exact hf)
    rw [this, e]
  obtain ⟨oL, es, n, hL, r⟩ := j.ns
  refine ⟨⟨j.mv.st.same z.2.2.2 hs, fun b ob eb ht hb => ?_, fun b ob eb => ?_⟩, ⟨oL, es, n, (hs.2 L (Ne.symm z.2.1)).trans hL, r⟩, j.Lt, j.Ln, j.Lg, fun p hp => ?_, ?_, j.s0⟩
  · have := j.mv.keep b ob eb ht hb
    refine (hs.2 b fun q => ?_).trans this
    subst q
    rw [z.1] at this
    cases this
    rcases hw with hw | hw
    · rcases hb with hb | hb
      · exact hb hw
      · exact hc hb.1
    · rw [hw] at eb; cases eb
  · obtain ⟨o₁, e₁⟩ := j.mv.there b ob eb
    by_cases q : b = a
    · subst q; exact ⟨_, ge⟩
    · exact ⟨o₁, (hs.2 b q).trans e₁⟩
  · rcases List.mem_or_eq_of_mem_set hp with hp' | rfl
    · by_cases q : p.1 = a
      · -- the same address: by Nodup it is the i-th, which was replaced
        obtain ⟨k, hk⟩ := List.getElem?_of_mem hp
        by_cases hki : k = i
        · subst hki
          have hl : k < kn.length := (List.getElem?_eq_some_iff.mp hi).1
          rw [List.getElem?_set_self hl] at hk
          cases hk
          exact ⟨ge, z.2⟩
        · exfalso
          rw [List.getElem?_set_ne (fun q => hki q.symm)] at hk
          have hk' : (kn.map (·.1))[k]? = some a := by rw [List.getElem?_map, hk, ← q]; rfl
          have hi' : (kn.map (·.1))[i]? = some a := by rw [List.getElem?_map, hi]; rfl
          have hlk := (List.getElem?_eq_some_iff.mp hk').1
          exact hki ((List.getElem?_inj hlk j.nd).mp (hk'.trans hi'.symm))
      · exact ⟨(hs.2 p.1 q).trans (j.has p hp').1, (j.has p hp').2⟩
    · exact ⟨ge, z.2⟩
  · rw [List.map_set]
    have hi' : (kn.map (·.1))[i]? = some a := by rw [List.getElem?_map, hi]; rfl
    obtain ⟨hl, he⟩ := List.getElem?_eq_some_iff.mp hi'
    have : (kn.map (·.1)).set i a = kn.map (·.1) := by
      rw [← he]; exact List.set_getElem_self hl
    rw [show (a, o').1 = a from rfl, this]
    exact j.nd
theorem J.moved {ha : Heap} {s₁ s₂ : Shared} {wr : List Addr} {Gs : Array GenState → Array GenState → Prop} (ja : J T g W h₀ L ha m kn) (j : J T g W h₀ L s₁.heap m kn) (mv : Moved wr Gs s₁ s₂) (hwr : ∀ b ∈ wr, ha.objs.size ≤ b) : J T g W h₀ L s₂.heap m kn := by
  have nw : ∀ {b o}, ha.get? b = some o → b ∉ wr := fun e hb => absurd (Heap.lt_size e) (Nat.not_lt.mpr (hwr _ hb))
  have nw0 : ∀ {b o}, h₀.get? b = some o → b ∉ wr := fun e => let ⟨_, e'⟩ := ja.mv.there _ _ e; nw e'
  have nwt : ∀ p ∈ T, p.2 ∉ wr ∧ p.1 ∉ wr := fun p hp => by
    obtain ⟨ps, ps₀, x, y, z⟩ := ja.mv.st.tab p hp
    obtain ⟨⟨o₁, vs, e₁, r⟩, _⟩ := id y
    exact ⟨nw y.2, nw e₁⟩
  obtain ⟨oL, es, n, eL, r⟩ := j.ns
  obtain ⟨oL', es', n', eL', r'⟩ := ja.ns
  have hL := mv.heap _ _ (nw eL') eL
  have ngw : ∀ {b o}, g.get? b = some o → b ∉ wr := fun e => let ⟨_, e'⟩ := ja.mv.st.old.there _ _ e; nw e'
  refine ⟨⟨⟨?_, fun b o e ht => mv.heap _ _ (ngw e) (j.mv.st.keep b o e ht), fun p hp => ?_, Nat.le_of_lt (Nat.lt_of_le_of_lt j.Lg (Heap.lt_size hL))⟩, fun b o e ht hb => mv.heap _ _ (nw0 e) (j.mv.keep b o e ht hb), fun b o e => ?_⟩, ⟨oL, es, n, hL, r⟩, j.Lt, j.Ln, j.Lg, fun p hp => ⟨mv.heap _ _ (nw (ja.has p hp).1) (j.has p hp).1, (j.has p hp).2⟩, j.nd, j.s0⟩
  · have K := j.mv.st.old
    refine ⟨fun b o e => ?_, fun b o e => let ⟨o', ho'⟩ := K.there b o e; ⟨o', mv.heap _ _ (ngw e) ho'⟩⟩
    rcases K.old b o e with x | ⟨t, hc, vs, more, hv, x⟩ | ⟨rfl, hc, ⟨o', es, n, ho', r⟩, z⟩
    · exact .inl (mv.heap _ _ (ngw e) x)
    · exact .inr (.inl ⟨t, hc, vs, more, hv, mv.heap _ _ (ngw e) x⟩)
    · exact .inr (.inr ⟨rfl, hc, ⟨o', es, n, mv.heap _ _ (ngw e) ho', r⟩, fun key => by rw [OldK.staticOf_congr ((mv.heap _ _ (ngw e) ho').trans ho'.symm) key]; exact z key⟩)
  · obtain ⟨ps, ps₀, x, y, z⟩ := j.mv.st.tab p hp
    obtain ⟨n2, n1⟩ := nwt p hp
    refine ⟨ps, ps₀, ?_, ?_, z⟩
    · obtain ⟨o, vs, file, tf, flags, tg, inF, text, tt, op, a1, a2, a3, a4, a5, a6, a7, a8, a9, a10, a11⟩ := x
      exact ⟨o, vs, file, tf, flags, tg, inF, text, tt, op, mv.heap _ _ n1 a1, a2, a3, a4, a5, a6, a7, mv.heap _ _ n2 a8, a9, a10, a11⟩
    · obtain ⟨⟨o, vs, a1, a2⟩, b⟩ := y
      exact ⟨⟨o, vs, mv.heap _ _ n1 a1, a2⟩, mv.heap _ _ n2 b⟩
  · obtain ⟨o', e'⟩ := j.mv.there b o e
    exact ⟨o', mv.heap _ _ (nw0 e) e'⟩
end
end Mine
end
noncomputable section
open PySem PySem.W PySem.Calls PyProof.Rows
namespace Mine
structure Rm (A : Around) (n : Nat) : Prop where
  d : A.depth + n ≤ 900
  h : A.handled = none
  u : A.units + 10 * n ≤ 9000
theorem Rm.lt {A : Around} {n : Nat} (r : Rm A n) : A.depth < recursionLimit := by have := r.d; unfold recursionLimit; lia
theorem Rm.mono {A : Around} {n k : Nat} (r : Rm A n) (h : k ≤ n) : Rm A k := ⟨by have := r.d; lia, r.h, by have := r.u; lia⟩
theorem Rm.deeper {A : Around} {n : Nat} {env : Env} (r : Rm A (n + 1)) : Rm (A.deeper env) n := ⟨by have := r.d; show A.depth + 1 + n ≤ 900; lia, r.h, by have := r.u; show A.units + 3 + 10 * n ≤ 9000; lia⟩
theorem Rm.in1 {A : Around} {n : Nat} (r : Rm A (n + 1)) : Rm A.in1 n := ⟨by have := r.d; show A.depth + n ≤ 900; exact Nat.le_of_lt this, r.h, by have := r.u; show A.units + 1 + 10 * n ≤ 9000; lia⟩
theorem Rm.room {A : Around} {n : Nat} (r : Rm A n) : A.units < cLine := by have := r.u; unfold cLine; lia
def Ok (s s' : Shared) : Prop := s'.os = s.os ∧ (AllBare s.gens → AllBare s'.gens)
theorem Ok.refl (s : Shared) : Ok s s := ⟨rfl, id⟩
theorem Ok.trans {a b c : Shared} (x : Ok a b) (y : Ok b c) : Ok a c := ⟨y.1.trans x.1, fun h => y.2 (x.2 h)⟩
theorem Ok.heap {s : Shared} {h : Heap} {t : Nat} : Ok s { s with heap := h, toks := t } := ⟨rfl, id⟩
section
variable {T : Tabs} {K : Frag} {mg mb : Str → Option Value} {prog : Program} {w : World} {A : Around} {s : Shared} {g h₀ h h' : Heap} {W : List Addr} {L : Addr} {m m' : Str → Option Value} {kn kn' : List (Addr × Obj)}
  {R : Result → Shared → Prop} {E : Value → Shared → Prop}
def Kn (T : Tabs) (g h : Heap) (kn : List (Addr × Obj)) : Prop := (∀ p ∈ kn, h.get? p.1 = some p.2 ∧ p.1 ∉ T.map (·.2) ∧ g.objs.size ≤ p.1) ∧ (kn.map (·.1)).Nodup
theorem Kn.nil : Kn T g h [] := ⟨fun _ hp => (nomatch hp), List.nodup_nil⟩
theorem j_call {name qual : Str} {params : Arguments} {body : List Stmt} {scope : Scope} {cl : List (Str × Addr)} {dV kV doc pm cdv ct oc : Value} {an od : Option Addr} {osl : Array (Option Value)} {f : Addr} {args : Args} {binds : List (Str × Value)}
    (W : List Addr) (kn : List (Addr × Obj)) (G : Gb T K mg mb g) (S : St T g s.heap) (hkn : Kn T g s.heap kn)
    (ho : K.lookup f = some ⟨oc, od, .func (fnX name qual params body scope cl dV kV doc pm an cdv ct), osl⟩) (hcd : codeIn K cdv qual = true) (hroom : A.depth < recursionLimit)
    (hbind : BindsTo s (fnX name qual params body scope cl dV kV doc pm an cdv ct) args binds) (hloc : ∀ y ∈ binds, scope.names.lookup y.1 = some .local)
    (hcell : ∀ x ∈ scope.names, x.2 ≠ .cell)
    (h : ∀ L h₁ tk, J T g W s.heap L h₁ (fun y => binds.reverse.lookup y) kn →
      wpAny (model prog w) (A.deeper (envX qual scope L f cdv cl)) (execs body (envX qual scope L f cdv cl))
        (fun fl s' => R (.ok (.ret (match fl with | .ret v => v | _ => .none))) s') (fun _ _ => False) { s with heap := h₁, toks := tk })
    (hco : scope.isCoroutine = false) (hgen : scope.isGenerator = false) (hk : scope.kind = .function) : codeAny (model prog w) A (.call (.ref f) args) R s := by
  have X := S.In G
  refine codeAny_call_def (fd := fnX name qual params body scope cl dV kV doc pm an cdv ct) (body := body) (binds := binds) hroom (X _ _ ho) rfl (G.nolim.elim fun mc x => ⟨mc, S.ns x.1 G.k3, x.2⟩) (codeRec_of X hcd) rfl hbind hcell hloc (fun h₁ hns hk₁ => ?_) hco hgen hk
  obtain ⟨oL, es, n, hL, r⟩ := id hns
  have hle : s.heap.objs.size ≤ h₁.objs.size := Nat.le_of_lt (Heap.lt_size hL)
  have notT : ∀ {b : Addr}, s.heap.objs.size ≤ b → b ∉ T.map (·.2) := fun {b} hb hm => by
    obtain ⟨q, hq, e⟩ := List.mem_map.mp hm
    obtain ⟨ps, ps₀, x, y, z⟩ := S.tab q hq
    have := Heap.lt_size y.2
    rw [e] at this
    exact absurd this (Nat.not_lt.mpr hb)
  refine wpAny_mono (h s.heap.objs.size h₁ _ ⟨⟨S.keeps hk₁ hle, fun b o e _ _ => hk₁ b o e, fun b o e => ⟨o, hk₁ b o e⟩⟩, hns, notT (Nat.le_refl _), ?_, S.le, fun p hp => ⟨hk₁ _ _ (hkn.1 p hp).1, Nat.ne_of_lt (Heap.lt_size (hkn.1 p hp).1), (hkn.1 p hp).2⟩, hkn.2, S⟩) (fun _ _ x => x) fun _ _ x => x.elim
  cases q : s.heap.get? s.heap.objs.size with
  | none => rfl
  | some o => exact absurd (Heap.lt_size q) (Nat.lt_irrefl _)
theorem J.call (j : J T g W h₀ L h m kn) {W' : List Addr} (mv : Mv T g W' h h') (hL : L ∉ W') (hW : ∀ b ∈ W', b ∈ W ∨ h₀.get? b = none) (kn' : List (Addr × Obj))
    (hkn : Kn T g h' kn') (hne : ∀ p ∈ kn', p.1 ≠ L) : J T g W h₀ L h' m kn' := by
  obtain ⟨oL, es, n, e, r⟩ := j.ns
  exact ⟨j.mv.trans mv hW, ⟨oL, es, n, mv.keep L oL e j.Lt (.inl hL), r⟩, j.Lt, j.Ln, j.Lg, fun p hp => ⟨(hkn.1 p hp).1, hne p hp, (hkn.1 p hp).2⟩, hkn.2, j.s0⟩
theorem J.call0 (j : J T g W h₀ L h m kn) (mv : Mv T g [] h h') : J T g W h₀ L h' m kn := by
  refine j.call mv (fun hm => nomatch hm) (fun b hb => nomatch hb) kn ⟨fun p hp => ⟨mv.keep _ _ (j.has p hp).1 (j.has p hp).2.2.1 (.inl fun hm => nomatch hm), (j.has p hp).2.2⟩, j.nd⟩ fun p hp => (j.has p hp).2.1
theorem J.sub (j : J T g W h₀ L h m kn) (hs : kn'.Sublist kn) : J T g W h₀ L h m kn' := ⟨j.mv, j.ns, j.Lt, j.Ln, j.Lg, fun p hp => j.has p (hs.subset hp), (hs.map _).nodup j.nd, j.s0⟩
variable {qual x : Str} {scope : Scope} {f : Addr} {cdv : Value} {cl : List (Str × Addr)} {pos : Pos} {v : Value}
theorem j_local {Q : Value → Shared → Prop} (j : J T g W h₀ L s.heap m kn) (hv : m x = some v) (h : Q v s)
    (hk : scope.kind = .function := by rfl) (hl : (envX qual scope L f cdv cl).kindOf x = some .local := by rfl) (hd : (x == ("__debug__" : Str)) = false := by decide) :
    wpAny (model prog w) A (eval (.Name x pos) (envX qual scope L f cdv cl)) Q E s := wpAny_Name (wpAny_loadName_local hk hl j.ns hv h) hd
theorem j_global {Q : Value → Shared → Prop} (G : Gb T K mg mb g) (j : J T g W h₀ L s.heap m kn) (hv : mg x = some v) (h : Q v s)
    (hk : scope.kind = .function := by rfl) (hl : (envX qual scope L f cdv cl).kindOf x = some .globalImplicit := by rfl) (hd : (x == ("__debug__" : Str)) = false := by decide) :
    wpAny (model prog w) A (eval (.Name x pos) (envX qual scope L f cdv cl)) Q E s :=
  Name_function_global hk hl (loadGlobal_global (env := envX qual scope L f cdv cl) (j.mv.st.ns G.mgN G.k1) hv h) hd
theorem j_builtin {Q : Value → Shared → Prop} (G : Gb T K mg mb g) (j : J T g W h₀ L s.heap m kn) (hv : mg x = none) (hb : bootBuiltins x = some v) (h : Q v s)
    (hn : x ≠ "__name__" := by decide)
    (hk : scope.kind = .function := by rfl) (hl : (envX qual scope L f cdv cl).kindOf x = some .globalImplicit := by rfl) (hd : (x == ("__debug__" : Str)) = false := by decide) :
    wpAny (model prog w) A (eval (.Name x pos) (envX qual scope L f cdv cl)) Q E s :=
  Name_function_global hk hl (loadGlobal_builtin (env := envX qual scope L f cdv cl) (j.mv.st.ns G.mgN G.k1) hv (j.mv.st.ns G.mbN G.k2) ((G.boot x hn).trans hb) h) hd
theorem j_store {Q : Unit → Shared → Prop} (j : J T g W h₀ L s.heap m kn)
    (h : ∀ h' tk, J T g W h₀ L h' (fun y => if y = x then some v else m y) kn → Q () { s with heap := h', toks := tk })
    (hk : scope.kind = .function := by rfl) (hl : (envX qual scope L f cdv cl).kindOf x = some .local := by rfl) :
    wpAny (model prog w) A (storeName (envX qual scope L f cdv cl) x v) Q E s :=
  wpAny_storeName_local hl j.ns (fun h' hn hs => h h' _ (j.store hn hs)) (by show (scope.kind == .class || (scope.kind == .module && L != mainGlobals)) = false; rw [hk]; rfl)
theorem j_storeK {Q : Unit → Shared → Prop} (j : J T g W h₀ L s.heap m kn)
    (h : ∀ h' tk, J T g W h₀ L h' (fun y => if y = x then some v else m y) kn → Mv T g [L] s.heap h' → Q () { s with heap := h', toks := tk })
    (hk : scope.kind = .function := by rfl) (hl : (envX qual scope L f cdv cl).kindOf x = some .local := by rfl) :
    wpAny (model prog w) A (storeName (envX qual scope L f cdv cl) x v) Q E s :=
  wpAny_storeName_local hl j.ns (fun h' hn hs => h h' _ (j.store hn hs) (j.storeMv hn hs)) (by show (scope.kind == .class || (scope.kind == .module && L != mainGlobals)) = false; rw [hk]; rfl)
theorem j_newTuple {vs : List Value} {Q : Value → Shared → Prop} (j : J T g W h₀ L s.heap m kn)
    (h : ∀ a h', J T g W h₀ L h' m ((a, ({ cls := .type "tuple", data := .seq vs.toArray } : Obj)) :: kn) → h₀.get? a = none → s.heap.get? a = none → Q (.ref a) { s with heap := h' }) (hsz : vs.length ≤ sizeLine := by size_fits) :
    wpAny (model prog w) A (newTuple vs) Q E s := wpAny_newObj_type (h _ _ (j.push _ rfl) j.new (by
      cases q : s.heap.get? s.heap.objs.size with
      | none => rfl
      | some o => exact absurd (Heap.lt_size q) (Nat.lt_irrefl _))) (by show vs.toArray.size ≤ sizeLine; rw [List.size_toArray]; exact hsz)
theorem j_newList {vs : List Value} {Q : Value → Shared → Prop} (j : J T g W h₀ L s.heap m kn)
    (h : ∀ a h', J T g W h₀ L h' m ((a, ({ cls := .type "list", data := .seq vs.toArray } : Obj)) :: kn) → h₀.get? a = none → s.heap.get? a = none → Q (.ref a) { s with heap := h' }) (hsz : vs.length ≤ sizeLine := by size_fits) :
    wpAny (model prog w) A (newList vs) Q E s := wpAny_newObj_type (h _ _ (j.push _ rfl) j.new (by
      cases q : s.heap.get? s.heap.objs.size with
      | none => rfl
      | some o => exact absurd (Heap.lt_size q) (Nat.lt_irrefl _))) (by show vs.toArray.size ≤ sizeLine; rw [List.size_toArray]; exact hsz)
theorem j_attr {expr : Bool} {C xa : Addr} {ox : Obj} {es : List DictEntry} {n : Nat} {name : Str} {attr : Option Value} {Q : Value → Shared → Prop} (G : Gb T K mg mb g) (S : St T g s.heap) (I : InstAt s.heap xa ox C (some (dictOf es n)))
    (hg : plainGet K C "" = true) (hh : hasDictIn K C = true) (ha : findIn K (.ref C) name = some attr) (hn : noGet K attr = true) (hl : getL name es = some (some v)) (hv : handedIn v = true) (h : Q v { s with toks := s.toks + 1 }) :
    wpAny (model prog w) A (getAttr (.ref xa) name expr) Q E s :=
  get_value (S.In G) I (plainGet_of (name := "") hg).1 (findObj_own hh ha hn hl) hv h
theorem j_meth {pl : Sem Bool} {C xa : Addr} {ox : Obj} {es : List DictEntry} {n : Nat} {name : Str} {f : Addr} {Q : Value × List Value → Shared → Prop} (G : Gb T K mg mb g) (S : St T g s.heap) (I : InstAt s.heap xa ox C (some (dictOf es n)))
    (hg : plainGet K C "" = true) (hf : findIn K (.ref C) name = some (some (.ref f))) (ht : isFn K (.ref f) = true) (hl : getL name es = some none) (h : Q (.ref f, [.ref xa]) s) : wpAny (model prog w) A (getMethod (.ref xa) name pl) Q E s :=
  method_fn (S.In G) I (plainGet_of (name := "") hg).1 (plainGet_of (name := "") hg).2 hf (beq_iff_eq.mp ht) (by show (lookIn name (dictOf es n)).map _ = _; rw [lookIn_dict, hl]; rfl) h
theorem j_callWith {env : Env} {fv : Value} {first : List Value} {e : Expr} {rest : List Expr} {Q : Value → Shared → Prop} (hk : keepIn K fv = true)
    (h : wpAny (model prog w) A (spliced (backTo pos (starEach (e :: rest) env))) (fun vs s₁ => K.In s₁.heap ∧ wpAny (model prog w) A (call fv (first ++ vs)) Q E s₁) E s)
    (he : starEach (e :: rest) env = (false, eval e env) :: starEach rest env := by rfl) (hplain : (backTo pos (starEach rest env)).any (·.1) = false := by rfl) :
    wpAny (model prog w) A (callWith pos fv first (backTo pos (starEach (e :: rest) env)) []) Q E s := by
  rw [he] at h ⊢
  exact callWith_of (by show ((false || (backTo pos (starEach rest env)).any (·.1)) || false) = false; rw [hplain]; rfl) (keeps_K hk) (evalArgs_plain h)
theorem j_callWith0 {env : Env} {fv : Value} {first : List Value} {Q : Value → Shared → Prop} (G : Gb T K mg mb g) (S : St T g s.heap) (hk : keepIn K fv = true) (h : wpAny (model prog w) A (call fv (first ++ [])) Q E s) : wpAny (model prog w) A (callWith pos fv first (backTo pos (starEach [] env)) []) Q E s :=
  callWith_of rfl (keeps_K hk) (evalArgs_nil3 ⟨S.In G, h⟩)
end
end Mine
end
noncomputable section
open PySem PySem.W PySem.Calls PyProof.Rows
namespace Mine
abbrev PR : Program := PySem.Challenge.rw_tc0069_01.row.toRowW.prog
def topSt (i : Nat) : Stmt := PySem.Challenge.pw_tc0069_01.main.body.getD i (.Pass default)
def clsBody : Stmt → List Stmt | .ClassDef _ _ _ b .. => b | _ => []
def inCls (i j : Nat) : Stmt := (clsBody (topSt i)).getD j (.Pass default)
def fBody : Stmt → List Stmt | .FunctionDef _ _ b .. => b | _ => []
def fArgs : Stmt → Arguments | .FunctionDef _ a .. => a | _ => default
def fScope : Stmt → Scope | .FunctionDef _ _ _ _ _ _ sc .. => sc | _ => default
def FnAt (K : Frag) (a : Addr) (s : Stmt) (qual : Str) (cl : List (Str × Addr)) (dV : Value) (cd : Addr) : Prop :=
  ∃ oc od osl name kV doc pm an ct, K.lookup a = some ⟨oc, od, .func (fnX name qual (fArgs s) (fBody s) (fScope s) cl dV kV doc pm an (.ref cd) ct), osl⟩ ∧ codeIn K (.ref cd) qual = true
abbrev accObj (C d : Addr) (its : Array Value) (ep : Nat) : Obj := { cls := .ref C, dict := some d, data := .seq its ep }
abbrev tupObj (vs : List Value) : Obj := { cls := .type "tuple", data := .seq vs.toArray }
end Mine
end
noncomputable section
open PySem PySem.W PySem.Calls PyProof.Rows Builtin
namespace Mine
section
variable {prog : Program} {w : World} {A : Around} {E : Value → Shared → Prop} {s : Shared}
theorem check_meth {M : Model} {i owner n : String} {self : Value} {rest : List Value} {kw : List (Str × Value)} {Q : Unit → Shared → Prop}
    (hk : builtinKind i = some .method) (hs : splitId i = some (owner, n)) (hi : Looks M s.heap (isInstance self (.type owner)) true) (ha : argsOk i ⟨self :: rest, kw⟩) (q : Q () s) :
    wpAny M A (checkBuiltinCall i ⟨self :: rest, kw⟩) Q E s := by
  simp only [checkBuiltinCall, hk, hs]
  refine wpAny_bind (hi.here ?_)
  simp only [Bool.not_true, Bool.false_eq_true, if_false]
  cases hsig : Manifest.signature? i with
  | none => exact wpAny_pure q
  | some sig =>
    simp only [argsOk, hsig] at ha
    have h2 : Bind.checkArgs i sig ⟨self :: rest, kw⟩ = pure () := ha
    show wpAny M A (Bind.checkArgs i sig ⟨self :: rest, kw⟩) Q E s
    rw [h2]; exact wpAny_pure q
structure LstAt (M : Model) (h : Heap) (a : Addr) (o : Obj) (its : Array Value) (ep : Nat) : Prop where
  at_ : h.get? a = some o
  data : o.data = .seq its ep
  inst : Looks M h (isInstance (.ref a) (.type "list")) true
theorem LstAt.exact {M : Model} {h : Heap} {a : Addr} {its : Array Value} {ep : Nat} (e : h.get? a = some { cls := .type "list", data := .seq its ep }) : LstAt M h a { cls := .type "list", data := .seq its ep } its ep :=
  ⟨e, rfl, ((Looks.ld e).andThen .now : Looks M h (typeOf (.ref a)) (.type "list")).andThen (Looks.of_pure (by rw [isSubtype_type]; kernel_rfl))⟩
theorem LstAt.acc {M : Model} {K : Frag} {h : Heap} (X : K.In h) {C d a : Addr} {its : Array Value} {ep : Nat} (hl : mroIn K C (.type "list") = some true) (e : h.get? a = some (accObj C d its ep)) : LstAt M h a (accObj C d its ep) its ep :=
  ⟨e, rfl, ((Looks.ld e).andThen .now : Looks M h (typeOf (.ref a)) (.ref C)).andThen (looks_mroIn X hl)⟩
theorem seqIndex_last (n : Nat) : seqIndex? (-1) (n + 1) = some n := by
  have h : (-1 + ((n + 1 : Nat) : Int)) = (n : Int) := by lia
  unfold seqIndex?
  simp only [show (-1 : Int) < 0 from by decide, if_true, h]
  rw [if_pos (by simp only [Bool.and_eq_true, decide_eq_true_eq]; lia)]
  simp
theorem kind_append : builtinKind "list.append" = some .method := by rw [builtinKind_eq_fast]; kernel_rfl
theorem kind_pop : builtinKind "list.pop" = some .method := by rw [builtinKind_eq_fast]; kernel_rfl
theorem split_append : splitId "list.append" = some ("list", "append") := by kernel_rfl
theorem list_append_any {a : Addr} {o : Obj} {its : Array Value} {ep : Nat} {x : Value} {Q : Value → Shared → Prop} (L : LstAt (model prog w) s.heap a o its ep) (hsz : its.size ≤ sizeLine)
    (h : Q .none { s with heap := s.heap.update a (Obj.mapSeq (·.push x)) }) : wpAny (model prog w) A (call (.builtin "list.append") [.ref a, x]) Q E s := by
  refine wpAny_call (codeAny_call_builtin PySem.F.slot_list_append.plain PySem.F.entry_list_append (check_meth kind_append split_append L.inst (PySem.F.args_list_append_2 _ _) ?_))
  show wpAny _ _ (updateSeq a (·.push x) >>= fun _ => ret .none) _ _ s
  exact wpAny_bind (wpAny_updateSeq L.at_ L.data (wpAny_pure h) hsz (by rw [Array.size_push]; exact Nat.lt_succ_of_le hsz))
theorem pop_eq (self : Value) : Builtin.«list.pop» ⟨[self], []⟩ = (do
    let xs ← List.listItems self
    if xs.isEmpty then rule "list.pop.empty"; raiseError "IndexError" "pop from empty list"
    match (seqIndex? (-1) xs.size).bind fun k => xs[k]?.map (k, ·) with
    | some (k, x) => List.listUpdate self (·.eraseIdxIfInBounds k); ret x
    | none => rule "list.pop.out-of-range"; raiseError "IndexError" "pop index out of range") := by kernel_rfl
end
end Mine
end
noncomputable section
open PySem PySem.W PySem.Calls PyProof.Rows Builtin
namespace Mine
section
variable {prog : Program} {w : World} {M : Model} {A : Around} {E : Value → Shared → Prop} {h : Heap} {g : Array GenState} {d : Drawn} {t : Nat} {os : OsState}
theorem slot_md_get : Slot "method_descriptor" "__get__" "method_descriptor.__get__" := .of (owner := "method_descriptor") (n := "__get__") (by rw [typeLookup_type, builtinLookup_eq_fast]; kernel_rfl) (by decide +kernel) (by decide +kernel) (by decide +kernel)
  (by first | exact .inl (by decide +kernel) | exact .inr (by decide +kernel)) (by rw [isSubtype_type]; kernel_rfl)
theorem slot_wd_get : Slot "wrapper_descriptor" "__get__" "wrapper_descriptor.__get__" := .of (owner := "wrapper_descriptor") (n := "__get__") (by rw [typeLookup_type, builtinLookup_eq_fast]; kernel_rfl) (by decide +kernel) (by decide +kernel) (by decide +kernel)
  (by first | exact .inl (by decide +kernel) | exact .inr (by decide +kernel)) (by rw [isSubtype_type]; kernel_rfl)
theorem entry_md_get : entryFor table "method_descriptor.__get__" = some Builtin.«method_descriptor.__get__» := entryFor_of_tree (by kernel_rfl)
theorem entry_wd_get : entryFor table "wrapper_descriptor.__get__" = some Builtin.«wrapper_descriptor.__get__» := entryFor_of_tree (by kernel_rfl)
theorem args_md_get (a b c : Value) : argsOk "method_descriptor.__get__" ⟨[a, b, c], []⟩ := by unfold argsOk; kernel_rfl
theorem args_wd_get (a b c : Value) : argsOk "wrapper_descriptor.__get__" ⟨[a, b, c], []⟩ := by unfold argsOk; kernel_rfl
theorem type_pop : typeOf (.builtin "list.pop") = pure (.type "method_descriptor") := PySem.F.type_list_pop
theorem type_len : typeOf (.builtin "list.__len__") = pure (.type "wrapper_descriptor") := by show builtinType _ = _; rw [builtinType_eq_fast]; kernel_rfl
theorem type_init : typeOf (.builtin "list.__init__") = pure (.type "wrapper_descriptor") := by show builtinType _ = _; rw [builtinType_eq_fast]; kernel_rfl
def Gets (M : Model) (h : Heap) (id dt gid bt : String) : Prop :=
  typeOf (.builtin id) = pure (.type dt) ∧ typeLookup (.type dt) "__get__" = pure (some (.builtin gid)) ∧
    ∀ (A : Around) (E : Value → Shared → Prop) (x C : Addr) (g : Array GenState) (d : Drawn) (t : Nat) (os : OsState) (Q : Value → Shared → Prop), Looks M h (isInstance (.ref x) (.type "list")) true →
      Q (.ref h.objs.size) ⟨h.push { cls := .type bt, data := .fields #[.builtin id, .ref x] }, g, d, t, os⟩ → wpAny M A (call (.builtin gid) [.builtin id, .ref x, .ref C]) Q E ⟨h, g, d, t, os⟩
def chk (x : Addr) (n : String) : Sem Unit := do
  if !(← isInstance (.ref x) (.type "list")) then
    rule "descr.get.wrong-instance"
    raiseError "TypeError" s!"descriptor '{(Str.ofString n).toString}' for '{← typeName (.type "list")}' objects doesn't apply to a '{← typeNameOf (.ref x)}' object"
theorem chk_ok {x : Addr} {n : String} {Q : Unit → Shared → Prop} (hi : Looks M h (isInstance (.ref x) (.type "list")) true) (hq : Q () ⟨h, g, d, t, os⟩) : wpAny M A (chk x n) Q E ⟨h, g, d, t, os⟩ := by
  unfold chk
  refine wpAny_bind (hi.at ?_)
  simp only [Bool.not_true, Bool.false_eq_true, if_false]
  exact wpAny_pure hq
theorem md_pop_eq (x C : Addr) : Builtin.«method_descriptor.__get__» ⟨[.builtin "list.pop", .ref x, .ref C], []⟩ = (do
      chk x "pop"
      ret (← newFields "builtin_function_or_method" [.builtin "list.pop", .ref x])) := by kernel_rfl
theorem wd_len_eq (x C : Addr) : Builtin.«wrapper_descriptor.__get__» ⟨[.builtin "list.__len__", .ref x, .ref C], []⟩ = (do
      chk x "__len__"
      ret (← newFields "method-wrapper" [.builtin "list.__len__", .ref x])) := by kernel_rfl
theorem wd_init_eq (x C : Addr) : Builtin.«wrapper_descriptor.__get__» ⟨[.builtin "list.__init__", .ref x, .ref C], []⟩ = (do
      chk x "__init__"
      ret (← newFields "method-wrapper" [.builtin "list.__init__", .ref x])) := by kernel_rfl
theorem gets_pop : Gets (model prog w) h "list.pop" "method_descriptor" "method_descriptor.__get__" "builtin_function_or_method" := by
  refine ⟨type_pop, slot_md_get.lookup, fun A E x C g d t os Q hi hq => ?_⟩
  refine wpAny_call_entry slot_md_get (s := ⟨h, g, d, t, os⟩) (show typeOf _ = _ from type_pop) entry_md_get ?_ (args_md_get _ _ _)
  rw [md_pop_eq]
  refine wpAny_bind (chk_ok hi (wpAny_bind ?_))
  unfold newFields
  exact wpAny_newObj_type (wpAny_pure ⟨_, rfl, hq⟩) (by size_fits)
theorem gets_len : Gets (model prog w) h "list.__len__" "wrapper_descriptor" "wrapper_descriptor.__get__" "method-wrapper" := by
  refine ⟨type_len, slot_wd_get.lookup, fun A E x C g d t os Q hi hq => ?_⟩
  refine wpAny_call_entry slot_wd_get (s := ⟨h, g, d, t, os⟩) (show typeOf _ = _ from type_len) entry_wd_get ?_ (args_wd_get _ _ _)
  rw [wd_len_eq]
  refine wpAny_bind (chk_ok hi (wpAny_bind ?_))
  unfold newFields
  exact wpAny_newObj_type (wpAny_pure ⟨_, rfl, hq⟩) (by size_fits)
theorem gets_init : Gets (model prog w) h "list.__init__" "wrapper_descriptor" "wrapper_descriptor.__get__" "method-wrapper" := by
  refine ⟨type_init, slot_wd_get.lookup, fun A E x C g d t os Q hi hq => ?_⟩
  refine wpAny_call_entry slot_wd_get (s := ⟨h, g, d, t, os⟩) (show typeOf _ = _ from type_init) entry_wd_get ?_ (args_wd_get _ _ _)
  rw [wd_init_eq]
  refine wpAny_bind (chk_ok hi (wpAny_bind ?_))
  unfold newFields
  exact wpAny_newObj_type (wpAny_pure ⟨_, rfl, hq⟩) (by size_fits)
abbrev supObj (D x C : Addr) : Obj := { cls := .type "super", dict := none, data := .fields #[.ref D, .ref x, .ref C], slots := #[] }
theorem sup_ga {so D x C : Addr} {id dt gid bt : String} {l₀ l : List Value} {K : Frag} {name : Str} {tk : Tok} {Q : Fin → Shared → Prop}
    (hso : h.get? so = some (supObj D x C)) (hno : Looks (model prog w) h (opaqueClassAbove (.ref C)) none)
    (hC : Looks (model prog w) h (mroOf (.ref C)) l₀) (hl : (l₀.dropWhile (· != .ref D)).drop 1 = l) (X : K.In h)
    (hf : alongIn K name l = some (some (.builtin id))) (hg : Gets (model prog w) h id dt gid bt) (hi : Looks (model prog w) h (isInstance (.ref x) (.type "list")) true) (hxC : x ≠ C) (hn : (name == ("__class__" : Str)) = false)
    (hq : Q (.done (.ret (.ref h.objs.size))) ⟨h.push { cls := .type bt, data := .fields #[.builtin id, .ref x] }, g, d, t, os⟩) :
    wpAny (model prog w) A (Builtin.«super.__getattribute__» ⟨[.ref so, .str name tk], []⟩) Q E ⟨h, g, d, t, os⟩ := by
  obtain ⟨hty, hlk, hget⟩ := hg
  have hne : (Value.ref x == Value.ref C) = false := by simp [hxC]
  have hdt : (supObj D x C).data = .fields #[.ref D, .ref x, .ref C] := rfl
  have f0 : (#[.ref D, .ref x, .ref C] : Array Value)[0]? = some (.ref D) := rfl
  have f1 : (#[.ref D, .ref x, .ref C] : Array Value)[1]? = some (.ref x) := rfl
  have f2 : (#[.ref D, .ref x, .ref C] : Array Value)[2]? = some (.ref C) := rfl
  unfold Builtin.«super.__getattribute__»
  repeat (first
    | (with_reducible refine wpAny_field hso hdt f0 ?_) | (with_reducible refine wpAny_field hso hdt f1 ?_) | (with_reducible refine wpAny_field hso hdt f2 ?_)
    | (with_reducible refine ks_wpAny_notOpaque hno ?_)
    | (with_reducible refine Looks.at hC ?_; rw [hl])
    | (refine ks_forIn_along X (fun _ _ => rfl) rfl ?_ hf)
    | (with_reducible refine wpAny_of_eq hty ?_)
    | (with_reducible refine wpAny_of_eq hlk ?_)
    | (with_reducible refine hget _ _ _ _ _ _ _ _ _ hi ?_)
    | (simp only [hn, hne, Bool.or_false, Bool.false_eq_true, if_false])
    | wp_step
    | dsimp only)
  all_goals exact hq
theorem sup_getMethod {so D x C : Addr} {id dt gid bt : String} {l₀ l : List Value} {K : Frag} {name : Str} {pl : Sem Bool} {Q : Value × List Value → Shared → Prop}
    (hso : h.get? so = some (supObj D x C)) (hno : Looks (model prog w) h (opaqueClassAbove (.ref C)) none)
    (hC : Looks (model prog w) h (mroOf (.ref C)) l₀) (hl : (l₀.dropWhile (· != .ref D)).drop 1 = l) (X : K.In h)
    (hf : alongIn K name l = some (some (.builtin id))) (hg : Gets (model prog w) h id dt gid bt) (hi : Looks (model prog w) h (isInstance (.ref x) (.type "list")) true) (hxC : x ≠ C) (hn : (name == ("__class__" : Str)) = false)
    (hq : Q (.ref h.objs.size, []) ⟨h.push { cls := .type bt, data := .fields #[.builtin id, .ref x] }, g, d, t + 1, os⟩) :
    wpAny (model prog w) A (getMethod (.ref so) name pl) Q E ⟨h, g, d, t, os⟩ := by
  have hlk := F.ks_slot_super_ga.lookup
  have hcan := F.ks_canon_super_ga
  have hT : ∀ t', (⟨h, g, d, t', os⟩ : Shared).TypeIs (.ref so) "super" := fun _ => ⟨_, hso, rfl⟩
  unfold getMethod
  refine wpAny_bind (wpAny_specialOf (hT _) hlk ?_)
  show wpAny _ _ (if (Manifest.canonical "super.__getattribute__" != "object.__getattribute__") = true then _ else _) _ _ _
  rw [if_pos hcan]
  unfold getAttr getAttrBy
  refine wpAny_bind (wpAny_bind (wpAny_mkText (wpAny_holding (wpAny_bind (wpAny_typeOf (hT _) (wpAny_bind (wpAny_of_eq hlk ?_)))))))
  show wpAny _ _ (getAttrByItsOwn (.ref so) (.str name t) (.type "super") (.builtin "super.__getattribute__") true false) _ _ _
  unfold getAttrByItsOwn hookBefore callGetattribute boundAndCalled
  refine wpAny_bind (wpAny_of_eq (show (if onTheHeap (.type "super") then typeLookup (.type "super") "__getattr__" else pure none) = pure none from rfl) ?_)
  refine wpAny_bind (wpAny_attempt (wpAny_holding ?_))
  show wpAny _ _ (bindSpecial (.builtin "super.__getattribute__") (.ref so) >>= _) _ _ _
  refine wpAny_bind (wpAny_of_eq (F.ks_slot_super_ga.bind _) ?_)
  refine wpAny_mono (Q := fun v s' => v = .ref h.objs.size ∧ s' = ⟨h.push { cls := .type bt, data := .fields #[.builtin id, .ref x] }, g, d, t + 1, os⟩) (E := fun _ _ => False)
    (wpAny_call_entry F.ks_slot_super_ga (hT _) F.ks_entry_super_ga (sup_ga hso hno hC hl X hf hg hi hxC hn ⟨_, rfl, rfl, rfl⟩) (F.ks_gaArgs_super _ _)) (fun v s' hv => ?_) fun _ _ z => z.elim
  obtain ⟨rfl, rfl⟩ := hv
  exact wpAny_pure (wpAny_pure hq)
end
end Mine
end
noncomputable section
open PySem PySem.W PySem.Calls PyProof.Rows Builtin
namespace Mine
section
variable {prog : Program} {w : World} {M : Model} {A : Around} {E : Value → Shared → Prop} {s : Shared} {R : Result → Shared → Prop}
abbrev bndObj (bt id : String) (x : Addr) : Obj := { cls := .type bt, data := .fields #[.builtin id, .ref x] }
theorem bound_call {q x : Addr} {id bt : String} (hq : s.heap.get? q = some (bndObj bt id x)) (hbt : bt = "builtin_function_or_method" ∨ bt = "method-wrapper")
    (hck : ∀ (A : Around) (E : Value → Shared → Prop) (Q : Unit → Shared → Prop), Q () s → wpAny (model prog w) A (checkBoundCall id ⟨[.ref x], []⟩) Q E s) (hpl : plainId id = true)
    (h : codeAny (model prog w) A (.builtin id ⟨[.ref x], []⟩) R s) : codeAny (model prog w) A (.call (.ref q) ⟨[], []⟩) R s := by
  refine codeAny_of_tree ?_
  show wpAny _ A.in1 (callAny (.ref q) ⟨[], []⟩) _ _ _
  unfold callAny
  refine wpAny_bind (wpAny_load hq ?_)
  rcases hbt with rfl | rfl
  · exact wpAny_bind (hck _ _ _ (wpAny_bind (wpAny_pure (wpAny_pure ⟨plainId_quiet hpl _, h⟩))))
  · exact wpAny_bind (hck _ _ _ (wpAny_bind (wpAny_pure (wpAny_pure ⟨plainId_quiet hpl _, h⟩))))
theorem ck_len (x : Addr) : checkBoundCall "list.__len__" ⟨[.ref x], []⟩ = pure () := by kernel_rfl
theorem ck_init (x : Addr) : checkBoundCall "list.__init__" ⟨[.ref x], []⟩ = pure () := by kernel_rfl
def accPop : String := s!"{(Str.ofString "_Accumulator").toString}.{Bind.lastOf "list.pop"}"
theorem sig_pop : ∃ sig, Manifest.signature? "list.pop" = some sig ∧ ∀ (x : Addr), Bind.checkArgs "list.pop" { sig with full := accPop } ⟨[.ref x], []⟩ = pure () :=
  ⟨_, by rw [PySem.signature?_of (id := "list.pop") (n := ['p', 'o', 'p']) (o := ['t', 's', 'i', 'l']) (by kernel_rfl) PySem.F.owner_list]; exact rfl, fun x => by kernel_rfl⟩
theorem vm_pop : Manifest.varargsMethods.contains "list.pop" = false := by decide +kernel
theorem ck_pop {K : Frag} {x C : Addr} {ox : Obj} {cd : ClassData} (X : K.In s.heap) (hx : s.heap.get? x = some ox) (hc : ox.cls = .ref C) (hn : notCls ox = true) (hcd : clsIn K C = some cd) (hq : cd.qualname = "_Accumulator")
    (hm : mroIn K C (.type "module") = some false) (hty : typeIn K (.ref C) = some (.type "type")) {Q : Unit → Shared → Prop} (h : Q () s) : wpAny M A (checkBoundCall "list.pop" ⟨[.ref x], []⟩) Q E s := by
  obtain ⟨sig, h1, h2⟩ := sig_pop
  have T : Looks M s.heap (typeOf (.ref x)) (.ref C) := hc ▸ (Looks.ld hx).andThen .now
  have LM : Looks M s.heap (isInstance (.ref x) (.type "module")) false := T.andThen (looks_mroIn X hm)
  have LT : Looks M s.heap (isType (.ref x)) false := by
    unfold isType
    obtain ⟨_, _, dt, _⟩ := ox
    refine (show Looks M s.heap (loadHead x) _ from Looks.ld hx).andThen ?_
    cases dt <;> first | exact .now | cases hn
  have LC := looks_clsIn (M := M) X hcd
  have LTT := looks_typeIn (M := M) X hty
  unfold checkBoundCall
  rw [h1, kind_pop]
  dsimp only
  rw [if_neg (by decide)]
  refine wpAny_bind (LM.here ?_)
  rw [vm_pop]
  rw [if_neg (by decide)]
  refine wpAny_bind (LT.here ?_)
  simp only [Bool.false_eq_true, if_false]
  refine wpAny_bind (T.here ?_)
  dsimp only
  refine wpAny_bind (LC.here (wpAny_bind (LTT.here ?_)))
  rw [if_pos (by decide), hq]
  have := h2 x
  unfold accPop at this
  rw [this]
  exact wpAny_pure h
end
end Mine
end
noncomputable section
open PySem PySem.W PySem.Calls PyProof.Rows Builtin
namespace Mine
section
variable {T : Tabs} {K : Frag} {mg mb : Str → Option Value} {prog : Program} {w : World} {A : Around} {s : Shared} {g h₀ h h' : Heap} {W : List Addr} {L : Addr} {m m' : Str → Option Value} {kn kn' : List (Addr × Obj)}
  {R : Result → Shared → Prop} {E : Value → Shared → Prop}
theorem J.keeps (j : J T g W h₀ L h m kn) (k : ∀ b o, h.get? b = some o → h'.get? b = some o) (hl : h.objs.size ≤ h'.objs.size) : J T g W h₀ L h' m kn := by
  obtain ⟨oL, es, n, e, r⟩ := j.ns
  exact ⟨⟨j.mv.st.keeps k hl, fun b o e ht hb => k _ _ (j.mv.keep b o e ht hb), fun b o e => let ⟨o₁, e₁⟩ := j.mv.there b o e; ⟨o₁, k _ _ e₁⟩⟩, ⟨oL, es, n, k _ _ e, r⟩, j.Lt, j.Ln, j.Lg, fun p hp => ⟨k _ _ (j.has p hp).1, (j.has p hp).2⟩, j.nd, j.s0⟩
theorem j_callAt {name qual : Str} {params : Arguments} {body : List Stmt} {scope : Scope} {cl : List (Str × Addr)} {dV kV doc pm cdv ct oc : Value} {an od : Option Addr} {osl : Array (Option Value)} {f : Addr} {args : Args} {binds : List (Str × Value)}
    (W : List Addr) (kn : List (Addr × Obj)) (G : Gb T K mg mb g) (S : St T g s.heap) (hkn : Kn T g s.heap kn)
    (ho : K.lookup f = some ⟨oc, od, .func (fnX name qual params body scope cl dV kV doc pm an cdv ct), osl⟩) (hcd : codeIn K cdv qual = true) (hroom : A.depth < recursionLimit)
    (hbind : BindsTo s (fnX name qual params body scope cl dV kV doc pm an cdv ct) args binds) (hloc : ∀ y ∈ binds, scope.names.lookup y.1 = some .local)
    (hcell : ∀ x ∈ scope.names, x.2 ≠ .cell)
    (h : ∀ L h₁ tk, J T g W s.heap L h₁ (fun y => binds.reverse.lookup y) kn →
      _root_.PySem.wpAt (model prog w) (A.deeper (envX qual scope L f cdv cl)) (.func body (envX qual scope L f cdv cl)) (execs body (envX qual scope L f cdv cl))
        (fun fl s' => R (.ok (.ret (match fl with | .ret v => v | _ => .none))) s') (fun _ _ => False) { s with heap := h₁, toks := tk })
    (hco : scope.isCoroutine = false) (hgen : scope.isGenerator = false) (hk : scope.kind = .function) : codeAny (model prog w) A (.call (.ref f) args) R s := by
  have X := S.In G
  refine ks_codeAny_call_defAt (fd := fnX name qual params body scope cl dV kV doc pm an cdv ct) (body := body) (binds := binds) hroom (X _ _ ho) rfl (G.nolim.elim fun mc x => ⟨mc, S.ns x.1 G.k3, x.2⟩) (codeRec_of X hcd) rfl hbind hcell hloc (fun h₁ hns hk₁ => ?_) hco hgen hk
  obtain ⟨oL, es, n, hL, r⟩ := id hns
  have hle : s.heap.objs.size ≤ h₁.objs.size := Nat.le_of_lt (Heap.lt_size hL)
  have notT : ∀ {b : Addr}, s.heap.objs.size ≤ b → b ∉ T.map (·.2) := fun {b} hb hm => by
    obtain ⟨q, hq, e⟩ := List.mem_map.mp hm
    obtain ⟨ps, ps₀, x, y, z⟩ := S.tab q hq
    have := Heap.lt_size y.2
    rw [e] at this
    exact absurd this (Nat.not_lt.mpr hb)
  refine ks_wpAt_mono (h s.heap.objs.size h₁ _ ⟨⟨S.keeps hk₁ hle, fun b o e _ _ => hk₁ b o e, fun b o e => ⟨o, hk₁ b o e⟩⟩, hns, notT (Nat.le_refl _), ?_, S.le, fun p hp => ⟨hk₁ _ _ (hkn.1 p hp).1, Nat.ne_of_lt (Heap.lt_size (hkn.1 p hp).1), (hkn.1 p hp).2⟩, hkn.2, S⟩) (fun _ _ x => x) fun _ _ x => x.elim
  cases q : s.heap.get? s.heap.objs.size with
  | none => rfl
  | some o => exact absurd (Heap.lt_size q) (Nat.lt_irrefl _)
theorem isType_clsIn {M : Model} {D : Addr} {cd : ClassData} {Q : Bool → Shared → Prop} (X : K.In s.heap) (hD : clsIn K D = some cd) (h : Q true s) : wpAny M A (isType (.ref D)) Q E s := by
  unfold clsIn at hD
  split at hD
  · rename_i c d cd' sl ho
    exact wpAny_bind (wpAny_loadPart (X _ _ ho) (wpAny_pure h))
  · cases hD
structure SupFx (K : Frag) (prog : Program) (f cda cc C : Addr) (cd : ClassData) : Prop where
  code : ∃ ccl cdd vs ccs file tf, K.lookup cda = some ⟨ccl, cdd, .fields vs, ccs⟩ ∧ vs[2]? = some (.str file tf) ∧ ((prog.main.file : Str) == file) = true
  cell : ∃ cl cld csl, K.lookup cc = some ⟨cl, cld, .cell (some (.ref C)), csl⟩
  cls : clsIn K C = some cd
  sub : mroIn K C (.ref C) = some true
  lst : mroIn K C (.type "list") = some true
  sup : nsIn K mainGlobals "super" = some none
  top : (prog.main.scope.names.lookup ("super" : Str)).isSome = false
  any : nsIn K cStatics "thirdparty.any" = some none
theorem boot_super : bootBuiltins "super" = some (.type "super") := by kernel_rfl
theorem j_super {qual name : Str} {scope : Scope} {f cda cc C x : Addr} {cd : ClassData} {body : List Stmt} {fd : FuncData} {oc : Value} {od : Option Addr} {osl : Array (Option Value)} {ar : Arg} {ox : Obj} {id dt gid bt : String} {p0 p1 apos pos : Pos} {Q : Value → Shared → Prop}
    (G : Gb T K mg mb g) (j : J T g W h₀ L s.heap m kn) (U : SupFx K prog f cda cc C cd)
    (hf : K.lookup f = some ⟨oc, od, .func fd, osl⟩) (hp : (fd.params.posonlyargs ++ fd.params.args).head? = some ar) (hv : m ar.arg = some (.ref x)) (hx : s.heap.get? x = some ox) (hox : ox.cls = .ref C) (hno : notCls ox = true)
    (hal : alongIn K name ((cd.mro.dropWhile (· != .ref C)).drop 1) = some (some (.builtin id))) (hg : ∀ h, Gets (model prog w) h id dt gid bt) (hbt : bt = "builtin_function_or_method" ∨ bt = "method-wrapper")
    (hck : ∀ (s : Shared), K.In s.heap → s.heap.get? x = some ox → ∀ (A : Around) (E : Value → Shared → Prop) (Q : Unit → Shared → Prop), Q () s → wpAny (model prog w) A (checkBoundCall id ⟨[.ref x], []⟩) Q E s) (hpl : plainId id = true) (hxC : x ≠ C)
    (h : ∀ h' tk, J T g W h₀ L h' m kn → (∀ b o, s.heap.get? b = some o → h'.get? b = some o) →
      codeAny (model prog w) A (.builtin id ⟨[.ref x], []⟩) (fun r s' => match r with | .ok (.ret v) => Q v s' | .ok _ => False | .error e => E e s') { s with heap := h', toks := tk })
    (hks : scope.names.lookup ("super" : Str) = some .globalImplicit) (hkc : scope.names.lookup ("__class__" : Str) = some .free) (hka : scope.names.lookup ar.arg = some .local) (hk : scope.kind = .function)
    (hat : (name == ("__class__" : Str)) = false := by decide)
    (he : ∀ env, eval (.Call (.Attribute (.Call (.Name "super" p0) [] [] p1) name apos) [] [] pos) env = (do
      let ov ← attributeBase (.Call (.Name "super" p0) [] [] p1) name env (eval (.Call (.Name "super" p0) [] [] p1) env)
      standAt apos.atName
      let (f, first) ← holding [ov] (getMethod ov name (pure false))
      callWith pos f first (backTo pos (starEach [] env)) []) := by intro _; rfl) :
    _root_.PySem.wpAt (model prog w) A (.func body (envX qual scope L f (.ref cda) [("__class__", cc)])) (eval (.Call (.Attribute (.Call (.Name "super" p0) [] [] p1) name apos) [] [] pos) (envX qual scope L f (.ref cda) [("__class__", cc)])) Q E s := by
  obtain ⟨ccl, cdd, vs, ccs, file, tf, hcode, hvs, hfile⟩ := U.code
  obtain ⟨cl, cld, csl, hcell⟩ := U.cell
  have X : K.In s.heap := j.mv.st.In G
  refine ks_wpAt_MethodCall (pl := pure false) ?_ (he _)
  refine ks_wpAt_super_base (env := envX qual scope L f (.ref cda) [("__class__", cc)]) hks hkc hat rfl (X _ _ hf) rfl hp rfl (X _ _ hcode) rfl hvs hfile U.top ?_
  refine ks_loadName_global hk hks (loadGlobal_builtin (env := envX qual scope L f (.ref cda) [("__class__", cc)]) (j.mv.st.ns G.mgN G.k1) (mg_none_of G.X G.mgN U.sup) (j.mv.st.ns G.mbN G.k2) ((G.boot _ (by decide +kernel)).trans boot_super) ⟨rfl, ?_⟩)
  refine wpAny_loadName_free hk hkc rfl ⟨_, X _ _ hcell, rfl⟩ ?_
  refine wpAny_loadName_local hk hka j.ns hv ?_
  refine isType_clsIn X U.cls ⟨rfl, ?_⟩
  obtain ⟨oD, hD1, hD2⟩ : ∃ oD, s.heap.get? C = some oD ∧ oD.data = .cls cd := by
    have hD := U.cls
    unfold clsIn at hD
    split at hD
    · rename_i c d cd' sl ho
      cases hD
      exact ⟨_, X _ _ ho, rfl⟩
    · cases hD
  obtain ⟨hh, gg, dd, tt, os⟩ := s
  refine ks_wpAny_call_super hD1 hD2 hx hox (fun c e => ?_) (looks_mroIn X U.sub) (fun h' e k => ?_)
  · unfold notCls at hno
    rw [e] at hno
    exact Bool.noConfusion hno
  have hle : hh.objs.size ≤ h'.objs.size := Nat.le_of_lt (Heap.lt_size e)
  have j' : J T g W h₀ L h' m kn := j.keeps k hle
  have X' : K.In h' := j'.mv.st.In G
  have hi : Looks (model prog w) h' (isInstance (.ref x) (.type "list")) true := (hox ▸ (Looks.ld (k _ _ hx)).andThen .now : Looks (model prog w) h' (typeOf (.ref x)) (.ref C)).andThen (looks_mroIn X' U.lst)
  refine sup_getMethod e (looks_opaque X' U.any) (l₀ := cd.mro) (fun A Q E s k q => wpAny_bind ((looks_clsIn X' U.cls) A _ E s k (wpAny_pure q))) rfl X' hal (hg h') hi hxC hat ?_
  have j2 := j'.push (bndObj bt id x) rfl
  have k2 : ∀ b o, h'.get? b = some o → (h'.push (bndObj bt id x)).get? b = some o := fun b o e => Heap.get?_push_of_some _ e
  have hq : (h'.push (bndObj bt id x)).get? h'.objs.size = some (bndObj bt id x) := Heap.get?_push_size _ rfl
  refine callWith_of (P := fun h => h.get? h'.objs.size = some (bndObj bt id x)) rfl (fun h hb => ⟨.machine, .inr (.inl rfl), ?_⟩) (evalArgs_nil3 ⟨hq, ?_⟩)
  · refine (Looks.ld (part := none) hb).andThen ?_
    rcases hbt with rfl | rfl <;> exact Looks.now
  refine wpAny_call ?_
  refine bound_call hq hbt (fun A E Q hq' => hck _ (fun a o e => k2 _ _ (X' a o e)) (k2 _ _ (k _ _ hx)) A E Q hq') hpl ?_
  exact h _ _ (j2.sub (List.sublist_cons_self _ _)) fun b o e => k2 _ _ (k _ _ e)
end
end Mine
end
noncomputable section
open PySem PySem.W PySem.Calls PyProof.Rows Builtin
namespace Mine
structure Fx (K : Frag) (cd : ClassData) : Prop where
  init : FnAt K 132 (inCls 6 0) "_Accumulator.__init__" [("__class__", 119)] (.ref 124) 131
  push : FnAt K 139 (inCls 6 1) "_Accumulator.push" [] .none 138
  popf : FnAt K 147 (inCls 6 2) "_Accumulator.pop_from" [] (.ref 140) 146
  pop : FnAt K 155 (inCls 6 3) "_Accumulator.pop" [("__class__", 119)] .none 154
  len : FnAt K 162 (inCls 6 4) "_Accumulator.__len__" [] .none 161
  str : FnAt K 169 (inCls 6 5) "_Accumulator.__str__" [] .none 168
  reset : FnAt K 177 (inCls 6 6) "_Accumulator.reset" [] (.ref 170) 176
  only : FnAt K 184 (inCls 6 7) "_Accumulator.is_onlyws" [] .none 183
  count : FnAt K 192 (inCls 6 8) "_Accumulator.part_count" [("__class__", 119)] .none 191
  supI : SupFx K PR 132 131 119 195 cd
  supP : SupFx K PR 155 154 119 195 cd
  supC : SupFx K PR 192 191 119 195 cd
  alP : alongIn K "pop" ((cd.mro.dropWhile (· != .ref 195)).drop 1) = some (some (.builtin "list.pop"))
  alC : alongIn K "__len__" ((cd.mro.dropWhile (· != .ref 195)).drop 1) = some (some (.builtin "list.__len__"))
  alI : alongIn K "__init__" ((cd.mro.dropWhile (· != .ref 195)).drop 1) = some (some (.builtin "list.__init__"))
  qn : cd.qualname = "_Accumulator"
  hd : cd.hasDict = true
  noMod : mroIn K 195 (.type "module") = some false
  ty : typeIn K (.ref 195) = some (.type "type")
  ga : findIn K (.ref 195) "__getattribute__" = some (some (.builtin "list.__getattribute__"))
  gt : findIn K (.ref 195) "__getattr__" = some none
  seq : noSeq K 195 = true
  fAppend : findIn K (.ref 195) "append" = some (some (.builtin "list.append"))
  tAppend : typeIn K (.builtin "list.append") = some (.type "method_descriptor")
  fCount : findIn K (.ref 195) "part_count" = some (some (.ref 192))
  fPush : findIn K (.ref 195) "push" = some (some (.ref 139))
  fPop : findIn K (.ref 195) "pop" = some (some (.ref 155))
  fPopf : findIn K (.ref 195) "pop_from" = some (some (.ref 147))
  fReset : findIn K (.ref 195) "reset" = some (some (.ref 177))
  fOnly : findIn K (.ref 195) "is_onlyws" = some (some (.ref 184))
  fLen : findIn K (.ref 195) "__len__" = some (some (.ref 162))
  fStr : findIn K (.ref 195) "__str__" = some (some (.ref 169))
  fGet : findIn K (.ref 195) "__getitem__" = some (some (.builtin "list.__getitem__"))
  fSet : findIn K (.ref 195) "__setitem__" = some (some (.builtin "list.__setitem__"))
  fIter : findIn K (.ref 195) "__iter__" = some (some (.builtin "list.__iter__"))
  fSize : findIn K (.ref 195) "_initial_size" = some none
  fInit : findIn K (.ref 195) "__init__" = some (some (.ref 132))
  fNew : findIn K (.ref 195) "__new__" = some (some (.builtin "list.__new__"))
  fBool : findIn K (.ref 195) "__bool__" = some none
  fSetattr : findIn K (.ref 195) "__setattr__" = some (some (.builtin "object.__setattr__"))
  mro : cd.mro = [.ref 195, .type "list", .type "object"]
  d140 : ∃ d n sl tk, K.lookup 140 = some ⟨.type "tuple", d, .seq #[.int 0 tk] n, sl⟩
  d124 : ∃ d n sl tk, K.lookup 124 = some ⟨.type "tuple", d, .seq #[.int 0 tk] n, sl⟩
  d170 : ∃ d n sl, K.lookup 170 = some ⟨.type "tuple", d, .seq #[.none] n, sl⟩
  keep : ∀ f ∈ [(132 : Addr), 139, 147, 155, 162, 169, 177, 184, 192], keepIn K (.ref f) = true ∧ isFn K (.ref f) = true
section
variable {T : Tabs} {K : Frag} {cd : ClassData} {mg mb : Str → Option Value} {w : World} {A : Around} {s : Shared} {g : Heap} {R : Result → Shared → Prop}
theorem len_code {prog : Program} {a : Addr} {o : Obj} {its : Array Value} {ep : Nat} (ho : s.heap.get? a = some o) (hd : o.data = .seq its ep) (h : ∀ tk tk', R (.ok (.ret (.int its.size tk))) { s with toks := tk' }) :
    codeAny (model prog w) A (.builtin "list.__len__" ⟨[.ref a], []⟩) R s := by
  refine codeAny_builtin PySem.F.entry_list_len ?_
  show wpAny _ _ (seqSize a >>= fun n => retInt n) _ _ s
  refine wpAny_bind ?_
  unfold seqSize
  refine wpAny_bind (wpAny_loadPart ho ?_)
  rw [hd]
  exact wpAny_pure (wpAny_bind (wpAny_mkInt (wpAny_pure (h _ _))))
theorem ne_cls (G : Gb T K mg mb g) (S : St T g s.heap) {x C : Addr} {cd : ClassData} {ox : Obj} (hx : s.heap.get? x = some ox) (hn : notCls ox = true) (hc : clsIn K C = some cd) : x ≠ C := by
  rintro rfl
  unfold clsIn at hc
  split at hc
  · rename_i c d cd' sl ho
    have e := S.In G _ _ ho
    rw [hx] at e
    cases e
    exact Bool.noConfusion hn
  · cases hc
set_option maxHeartbeats 1000000 in
theorem count_spec {x d : Addr} {its : Array Value} {ep : Nat} (G : Gb T K mg mb g) (X : Fx K cd) (S : St T g s.heap) (r : Rm A 1)
   (hc : s.heap.get? x = some (accObj 195 d its ep))
   (hR : ∀ h' tk tk', Mv T g [] s.heap h' → R (.ok (.ret (.int its.size tk))) { s with heap := h', toks := tk' }) :
   codeAny (model PR w) A (.call (.ref 192) ⟨[.ref x], []⟩) R s := by
  obtain ⟨oc, od, osl, name, kV, doc, pm, an, ct, ho, hcd⟩ := X.count
  refine' j_callAt (binds := [("self", .ref x)]) [] [] G S Kn.nil ho hcd r.lt (BindsTo.of_eq rfl) (locs rfl) (by decide) ?_ rfl rfl rfl
  intro L h₁ tk j
  refine ks_wpAt_execs_cons (ks_wpAt_Return_some ?_)
  have hx : h₁.get? x = some (accObj 195 d its ep) := j.old hc (.inl (by exact ni0))
  exact j_super (s := { s with heap := h₁, toks := tk }) (id := "list.__len__") G j X.supC ho rfl rfl hx rfl rfl X.alC (fun h => gets_len) (.inr rfl)
    (fun s _ _ A E Q hq => by rw [ck_len]; exact wpAny_pure hq) PySem.F.slot_list_len.plain (ne_cls (s := s) G S hc rfl X.supC.cls)
    (fun h' tk' j' k' => len_code (k' _ _ hx) rfl fun t t' => hR _ _ _ j'.mv) rfl rfl rfl rfl
end
end Mine
end
noncomputable section
open PySem PySem.W PySem.Calls PyProof.Rows Builtin
namespace Mine
section
variable {T : Tabs} {K : Frag} {cd : ClassData} {mg mb : Str → Option Value} {w : World} {A : Around} {s : Shared} {g : Heap} {R : Result → Shared → Prop} {E : Value → Shared → Prop} {prog : Program}
abbrev szD (w : World) (tk : Tok) (iv : Value) : Obj := dictOf [⟨PyData.keyHash w.params "_initial_size", .str "_initial_size" tk, iv⟩] 1
structure AccAt (w : World) (h : Heap) (x d : Addr) (its : Array Value) (ep : Nat) (tk : Tok) (iv : Value) : Prop where
  o : h.get? x = some (accObj 195 d its ep)
  d : h.get? d = some (szD w tk iv)
theorem AccAt.inst {h : Heap} {x d : Addr} {its : Array Value} {ep : Nat} {tk : Tok} {iv : Value} (a : AccAt w h x d its ep tk iv) : InstAt h x (accObj 195 d its ep) 195 (some (szD w tk iv)) := ⟨a.o, rfl, rfl, a.d⟩
theorem canon_list_ga : (Manifest.canonical "list.__getattribute__" != "object.__getattribute__") = false := by decide +kernel
theorem a_meth {pl : Sem Bool} {x d : Addr} {its : Array Value} {ep : Nat} {tk : Tok} {iv : Value} {name : Str} {f : Addr} {Q : Value × List Value → Shared → Prop} (G : Gb T K mg mb g) (X : Fx K cd) (S : St T g s.heap) (a : AccAt w s.heap x d its ep tk iv)
    (hf : findIn K (.ref 195) name = some (some (.ref f))) (ht : isFn K (.ref f) = true) (h : Q (.ref f, [.ref x]) s) (hl : getL name [⟨PyData.keyHash w.params "_initial_size", .str "_initial_size" tk, iv⟩] = some none := by rfl) : wpAny (model prog w) A (getMethod (.ref x) name pl) Q E s := by
  have I := a.inst
  have Y := S.In G
  unfold getMethod specialOf
  refine wpAny_bind (wpAny_bind (I.type.here ((looks_findIn Y X.ga).here ?_)))
  dsimp only
  rw [canon_list_ga, if_neg (by decide)]
  refine wpAny_bind (wpAny_bind (I.type.here ((looks_findIn Y X.gt).here ?_)))
  refine wpAny_bind (wpAny_bind (I.type.here ((looks_findIn Y hf).here (wpAny_bind ((looks_typeIn Y (beq_iff_eq.mp ht)).here ?_)))))
  rw [if_neg (by decide +kernel)]
  refine wpAny_bind (wpAny_loadPart I.at_ ?_)
  have e : lookIn name (szD w tk iv) = some none := by rw [lookIn_dict, hl]
  refine wpAny_bind (wpAny_bind (wpAny_loadPart a.d ?_))
  rw [nsLook_of e]
  exact wpAny_pure (wpAny_bind (wpAny_rule (wpAny_pure h)))
theorem a_methB {pl : Sem Bool} {x d : Addr} {its : Array Value} {ep : Nat} {tk : Tok} {iv : Value} {name : Str} {id : String} {Q : Value × List Value → Shared → Prop} (G : Gb T K mg mb g) (X : Fx K cd) (S : St T g s.heap) (a : AccAt w s.heap x d its ep tk iv)
    (hf : findIn K (.ref 195) name = some (some (.builtin id))) (ht : typeIn K (.builtin id) = some (.type "method_descriptor")) (h : Q (.builtin id, [.ref x]) s) (hl : getL name [⟨PyData.keyHash w.params "_initial_size", .str "_initial_size" tk, iv⟩] = some none := by rfl) : wpAny (model prog w) A (getMethod (.ref x) name pl) Q E s := by
  have I := a.inst
  have Y := S.In G
  unfold getMethod specialOf
  refine wpAny_bind (wpAny_bind (I.type.here ((looks_findIn Y X.ga).here ?_)))
  dsimp only
  rw [canon_list_ga, if_neg (by decide)]
  refine wpAny_bind (wpAny_bind (I.type.here ((looks_findIn Y X.gt).here ?_)))
  refine wpAny_bind (wpAny_bind (I.type.here ((looks_findIn Y hf).here (wpAny_bind ((looks_typeIn Y ht).here ?_)))))
  rw [if_neg (by decide +kernel)]
  refine wpAny_bind (wpAny_loadPart I.at_ ?_)
  have e : lookIn name (szD w tk iv) = some none := by rw [lookIn_dict, hl]
  refine wpAny_bind (wpAny_bind (wpAny_loadPart a.d ?_))
  rw [nsLook_of e]
  exact wpAny_pure (wpAny_bind (wpAny_rule (wpAny_pure h)))
theorem mapSeq_push (C d : Addr) (its : Array Value) (ep : Nat) (x : Value) : Obj.mapSeq (·.push x) (accObj C d its ep) = accObj C d (its.push x) (ep + 1) := by
  unfold accObj Obj.mapSeq
  simp
set_option maxHeartbeats 1000000 in
theorem push_spec {x d : Addr} {its : Array Value} {ep : Nat} {tk0 : Tok} {iv : Value} {a b : Str} {ta tb : Tok} (G : Gb T K mg mb g) (X : Fx K cd) (S : St T g s.heap) (r : Rm A 1)
   (ha : AccAt w s.heap x d its ep tk0 iv) (hxg : g.objs.size ≤ x) (hsz : its.size ≤ 1000)
   (hR : ∀ t h' tk, Mv T g [x] s.heap h' → h'.get? x = some (accObj 195 d (its.push (.ref t)) (ep + 1)) → h'.get? t = some (tupObj [.str a ta, .str b tb]) → s.heap.get? t = none → R (.ok (.ret .none)) { s with heap := h', toks := tk }) :
   codeAny (model PR w) A (.call (.ref 139) ⟨[.ref x, .str a ta, .str b tb], []⟩) R s := by
  obtain ⟨oc, od, osl, name, kV, doc, pm, an, ct, ho, hcd⟩ := X.push
  refine' j_call (binds := [("self", .ref x), ("fws", .str a ta), ("string", .str b tb)]) [x] [(x, accObj 195 d its ep)] G S ?hkn ho hcd r.lt (BindsTo.of_eq rfl) (locs rfl) (by decide) ?_ rfl rfl rfl
  case hkn => exact ⟨fun p hp => by rw [List.mem_singleton.mp hp]; exact ⟨ha.o, S.notTab ha.o (by nofun), hxg⟩, by exact nd1⟩
  intro L h₁ tk j
  have hne : x ≠ d := by
    intro q
    have := ha.o
    rw [q, ha.d] at this
    cases this
  refine wpAny_execs_cons (wpAny_Expr ?_)
  refine MethodCall_ ?_
  refine j_local (s := { s with heap := h₁, toks := tk }) j rfl ?_
  refine a_methB G X j.mv.st ⟨j.get (.head _), j.old ha.d (.inl (by exact ni1 hne.symm))⟩ X.fAppend X.tAppend ?_
  refine callWith_method1 (args_cons ?_)
  refine Tuple_ (args_cons (j_local (s := { s with heap := h₁, toks := tk }) j rfl (args_cons (j_local (s := { s with heap := h₁, toks := tk }) j rfl (args_nil ?_)))))
  refine j_newTuple (s := { s with heap := h₁, toks := tk }) j (fun t h₂ j₂ n₂ _ => args_nil ?_)
  have j₃ := j₂.update (f := Obj.mapSeq (·.push (.ref t))) 1 rfl (.inl (.head _)) (by nofun) (mapSeq_push _ _ _ _ _) rfl
  refine list_append_any (s := { s with heap := h₂, toks := tk }) (LstAt.acc (j₂.mv.st.In G) X.supC.lst (j₂.get (.tail _ (.head _)))) (by rw [sizeLine_eq]; exact Nat.le_trans (by assumption) (by decide)) ?_
  exact wpAny_execs_nil (hR t _ _ j₃.mv (j₃.get (.tail _ (.head _))) (j₃.get (.head _)) n₂)
end
end Mine
end
noncomputable section
open PySem PySem.W PySem.Calls PyProof.Rows Builtin
namespace Mine
section
variable {T : Tabs} {K : Frag} {cd : ClassData} {mg mb : Str → Option Value} {w : World} {A : Around} {s : Shared} {g : Heap} {R : Result → Shared → Prop} {E : Value → Shared → Prop} {prog : Program}
theorem mapSeq_pop (C d : Addr) (its : Array Value) (ep : Nat) (v : Value) : Obj.mapSeq (·.eraseIdxIfInBounds its.size) (accObj C d (its.push v) ep) = accObj C d its (ep + 1) := by
  unfold accObj Obj.mapSeq
  have e : (its.push v).eraseIdxIfInBounds its.size = its := by
    unfold Array.eraseIdxIfInBounds
    rw [dif_pos (by simp)]
    apply Array.ext'
    rw [Array.toList_eraseIdx]
    simp [List.eraseIdx_append_of_length_le]
  simp only [e]
  simp
theorem pop_code {a : Addr} {o : Obj} {its : Array Value} {ep : Nat} {x : Value} (L : LstAt (model prog w) s.heap a o (its.push x) ep) (hsz : its.size < sizeLine)
    (h : R (.ok (.ret x)) { s with heap := s.heap.update a (Obj.mapSeq (·.eraseIdxIfInBounds its.size)) }) : codeAny (model prog w) A (.builtin "list.pop" ⟨[.ref a], []⟩) R s := by
  refine codeAny_builtin PySem.F.entry_list_pop ?_
  rw [pop_eq]
  refine wpAny_bind (m := List.listItems (.ref a)) ?_
  unfold List.listItems
  refine wpAny_bind (wpAny_seqItems L.at_ L.data (wpAny_pure ?_))
  have e1 : (its.push x).isEmpty = false := by simp
  have e2 : (seqIndex? (-1) (its.push x).size).bind (fun k => (its.push x)[k]?.map (k, ·)) = some (its.size, x) := by
    rw [Array.size_push, seqIndex_last]
    simp
  simp only [e1, e2, Bool.false_eq_true, if_false]
  refine wpAny_bind (m := updateSeq a _) (wpAny_updateSeq L.at_ L.data (wpAny_pure h) (by rw [Array.size_push]; assumption) ?_)
  simp only [Array.eraseIdxIfInBounds]
  split <;> simp <;> lia
theorem AccAt.ne {h : Heap} {x d : Addr} {its : Array Value} {ep : Nat} {tk : Tok} {iv : Value} (a : AccAt w h x d its ep tk iv) : x ≠ d := by
  intro q
  have := a.o
  rw [q, a.d] at this
  cases this
theorem AccAt.mv {h h' : Heap} {x d : Addr} {its : Array Value} {ep : Nat} {tk : Tok} {iv : Value} {W : List Addr} (a : AccAt w h x d its ep tk iv) (S : St T g h) (m : Mv T g W h h') (hx : x ∉ W) (hd : d ∉ W) : AccAt w h' x d its ep tk iv :=
  ⟨m.keep _ _ a.o (S.notTab a.o (by nofun)) (.inl hx), m.keep _ _ a.d (S.notTab a.d (by nofun)) (.inl hd)⟩
set_option maxHeartbeats 1000000 in
theorem pop_spec {x d : Addr} {its : Array Value} {ep : Nat} {tk0 : Tok} {iv v : Value} (G : Gb T K mg mb g) (X : Fx K cd) (S : St T g s.heap) (r : Rm A 3)
   (ha : AccAt w s.heap x d (its.push v) ep tk0 iv) (hxg : g.objs.size ≤ x) (hsz : its.size ≤ 1000)
   (hR : ∀ h' tk, Mv T g [x] s.heap h' → h'.get? x = some (accObj 195 d its (ep + 1)) → R (.ok (.ret v)) { s with heap := h', toks := tk }) :
   codeAny (model PR w) A (.call (.ref 155) ⟨[.ref x], []⟩) R s := by
  obtain ⟨oc, od, osl, name, kV, doc, pm, an, ct, ho, hcd⟩ := X.pop
  refine' j_callAt (binds := [("self", .ref x)]) [x] [(x, accObj 195 d (its.push v) ep)] G S ?hkn ho hcd r.lt (BindsTo.of_eq rfl) (locs rfl) (by decide) ?_ rfl rfl rfl
  case hkn => exact ⟨fun p hp => by rw [List.mem_singleton.mp hp]; exact ⟨ha.o, S.notTab ha.o (by nofun), hxg⟩, by exact nd1⟩
  intro L h₁ tk j
  have hne := ha.ne
  have a₁ : AccAt w h₁ x d (its.push v) ep tk0 iv := ⟨j.get (.head _), j.old ha.d (.inl (by exact ni1 hne.symm))⟩
  refine ks_wpAt_execs_cons (ks_wpAt_If (wpAt_of_wpAny (wpAny_isTrue_Compare1 ?_)))
  refine MethodCall_ (j_local (s := { s with heap := h₁, toks := tk }) j rfl ?_)
  refine a_meth G X j.mv.st a₁ X.fCount (X.keep 192 (by decide)).2 ?_
  refine j_callWith0 (s := { s with heap := h₁, toks := tk }) G j.mv.st (X.keep 192 (by decide)).1 (wpAny_call ?_)
  refine count_spec (s := { s with heap := h₁, toks := tk }) G X j.mv.st (r.deeper.mono (by decide)) a₁.o fun h₂ t₂ t₃ mv₂ => ?_
  have j₂ := j.call0 mv₂
  refine wpAny_Constant_int (eq_int (wpAny_truthy_bool ?_))
  rw [show (((its.push v).size : Int) == 0) = false from by simp; lia]
  rw [if_neg (by decide)]
  refine wpAt_of_wpAny (wpAny_execs_nil ?_)
  refine ks_wpAt_execs_cons (ks_wpAt_Return_some ?_)
  have a₂ : AccAt w h₂ x d (its.push v) ep tk0 iv := a₁.mv j.mv.st mv₂ (by exact ni0) (by exact ni0)
  refine j_super (s := { s with heap := h₂, toks := t₃ + 1 }) (id := "list.pop") G j₂ X.supP ho rfl rfl a₂.o rfl rfl X.alP (fun h => gets_pop) (.inl rfl)
    (fun s Y e A E Q hq => ck_pop Y e rfl rfl X.supC.cls X.qn X.noMod X.ty hq) PySem.F.slot_list_pop.plain (ne_cls (s := s) G S ha.o rfl X.supC.cls)
    (fun h' tk' j' k' => ?_) rfl rfl rfl rfl
  have j₃ := j'.update (f := Obj.mapSeq (·.eraseIdxIfInBounds its.size)) 0 rfl (.inl (.head _)) (by nofun) (mapSeq_pop _ _ _ _ _) rfl
  exact pop_code (s := { s with heap := h', toks := tk' }) (LstAt.acc (j'.mv.st.In G) X.supC.lst (k' _ _ a₂.o)) (by rw [sizeLine_eq]; exact Nat.lt_of_le_of_lt (by assumption) (by decide)) (hR _ _ j₃.mv (j₃.get (.head _)))
end
end Mine
end
noncomputable section
open PySem PySem.W PySem.Calls PyProof.Rows Builtin
namespace Mine
section
variable {T : Tabs} {K : Frag} {cd : ClassData} {mg mb : Str → Option Value} {w : World} {A : Around} {s : Shared} {g : Heap} {R : Result → Shared → Prop} {E : Value → Shared → Prop} {prog : Program}
theorem kind_getitem : builtinKind "list.__getitem__" = some .method := by rw [builtinKind_eq_fast]; kernel_rfl
theorem kind_setitem : builtinKind "list.__setitem__" = some .slot := by rw [builtinKind_eq_fast]; kernel_rfl
theorem split_getitem : splitId "list.__getitem__" = some ("list", "__getitem__") := by kernel_rfl
theorem split_setitem : splitId "list.__setitem__" = some ("list", "__setitem__") := by kernel_rfl
theorem listSlice_no {sl : Addr} {vl vu vs : Value} {Q : Option Int → Shared → Prop} (hs : s.heap.IsSliceOf sl vl vu vs) (h : Q none s) : wpAny (model prog w) A (Builtin.List.listSubscript? (.ref sl)) Q E s := by
  obtain ⟨os, hos, hcs, hds⟩ := id hs
  have hTs : s.TypeIs (.ref sl) "slice" := ⟨os, hos, hcs⟩
  unfold Builtin.List.listSubscript?
  refine wpAny_bind (wpAny_specialOf hTs slice_no_index ?_)
  simp only [Option.isNone_none, if_true]
  exact wpAny_pure h
theorem listParts {sl : Addr} {vl vu : Value} {lo hi : Option Int} {Q : Value × Value × Value → Shared → Prop} (hs : s.heap.IsSliceOf sl vl vu .none) (pl : IsPart vl lo) (pu : IsPart vu hi)
    (h : Q (rawPart lo, rawPart hi, .none) s) : wpAny (model prog w) A (Builtin.List.listSliceParts (.ref sl)) Q E s := by
  obtain ⟨os, hos, hcs, hds⟩ := id hs
  rw [listSliceParts_eq]
  refine wpAny_bind (wpAny_field hos hds (x := .none) rfl (wpAny_bind (wpAny_listPart .none ?_)))
  rw [if_neg (show ¬ ((rawPart none == rawInt 0) = true) from Bool.false_ne_true)]
  refine wpAny_bind (wpAny_field hos hds (x := vl) rfl (wpAny_bind (wpAny_listPart pl ?_)))
  exact wpAny_bind (wpAny_field hos hds (x := vu) rfl (wpAny_bind (wpAny_listPart pu (wpAny_pure h))))
set_option maxHeartbeats 1000000 in
theorem list_getSlice {a sl : Addr} {o : Obj} {its : Array Value} {ep : Nat} {vl vu : Value} {lo hi : Option Int} {Q : Value → Shared → Prop} (L : LstAt (model prog w) s.heap a o its ep) (hs : s.heap.IsSliceOf sl vl vu .none) (pl : IsPart vl lo) (pu : IsPart vu hi)
    (hsz : its.size ≤ sizeLine) (h : Q (.ref s.heap.objs.size) { s with heap := s.heap.push { cls := .type "list", data := .seq (slicePick its lo hi none) } }) :
    wpAny (model prog w) A (call (.builtin "list.__getitem__") [.ref a, .ref sl]) Q E s := by
  obtain ⟨os, hos, hcs, hds⟩ := id hs
  have hTs : s.TypeIs (.ref sl) "slice" := ⟨os, hos, hcs⟩
  refine wpAny_call (codeAny_call_builtin PySem.F.slot_list_getitem.plain PySem.F.entry_list_getitem (check_meth (i := "list.__getitem__") (owner := "list") (n := "__getitem__") (self := .ref a) (rest := [.ref sl]) (kw := []) kind_getitem split_getitem L.inst (by exact PySem.F.args_list_getitem_2 _ _) ?_))
  show wpAny _ _ (Builtin.List.listSubscript? (.ref sl) >>= _) _ _ s
  refine wpAny_bind (listSlice_no hs ?_)
  show wpAny _ _ (typeOf (.ref sl) >>= _) _ _ s
  refine wpAny_bind (wpAny_typeOf hTs ?_)
  rw [if_neg (by decide)]
  refine wpAny_bind (listParts hs pl pu ?_)
  refine wpAny_bind (m := Builtin.List.listItems (.ref a)) ?_
  unfold Builtin.List.listItems
  refine wpAny_bind (wpAny_seqItems L.at_ L.data (wpAny_pure ?_))
  refine wpAny_bind (wpAny_of_eq (sliceIndices_raw lo hi none its.size (by simp)) ?_)
  exact wpAny_bind (wpAny_newObj_type (wpAny_pure h) (Nat.le_trans (slicePick_size_le its lo hi none) hsz))
def sliceSet (xs new : Array Value) (a b : Int) : Array Value := xs.extract 0 a.toNat ++ new ++ xs.extract (max a b).toNat xs.size
set_option maxHeartbeats 1000000 in
theorem list_setSlice {a sl b : Addr} {o : Obj} {its new : Array Value} {ep en : Nat} {vl vu : Value} {lo hi : Option Int} {Q : Value → Shared → Prop} (L : LstAt (model prog w) s.heap a o its ep) (hs : s.heap.IsSliceOf sl vl vu .none) (pl : IsPart vl lo) (pu : IsPart vu hi)
    (hb : s.heap.get? b = some { cls := .type "list", data := .seq new en }) (hne : a ≠ b) (hsz : its.size + new.size ≤ 100000)
    (h : Q .none { s with heap := s.heap.update a (Obj.mapSeq fun xs => sliceSet xs new (sliceBounds lo hi none its.size).1 (sliceBounds lo hi none its.size).2.1) }) :
    wpAny (model prog w) A (call (.builtin "list.__setitem__") [.ref a, .ref sl, .ref b]) Q E s := by
  obtain ⟨os, hos, hcs, hds⟩ := id hs
  have hTs : s.TypeIs (.ref sl) "slice" := ⟨os, hos, hcs⟩
  have hTb : s.TypeIs (.ref b) "list" := ⟨_, hb, rfl⟩
  refine wpAny_call (codeAny_call_builtin PySem.F.slot_list_setitem.plain PySem.F.entry_list_setitem (check_slot (i := "list.__setitem__") (owner := "list") (n := "__setitem__") (self := .ref a) (rest := [.ref sl, .ref b]) (kw := []) kind_setitem split_setitem L.inst (by exact PySem.F.args_list_setitem_3 _ _ _) ?_))
  show wpAny _ _ (Builtin.List.listSubscript? (.ref sl) >>= _) _ _ s
  refine wpAny_bind (listSlice_no hs ?_)
  show wpAny _ _ (typeOf (.ref sl) >>= _) _ _ s
  refine wpAny_bind (wpAny_typeOf hTs ?_)
  rw [if_neg (by decide)]
  refine wpAny_bind (listParts hs pl pu ?_)
  dsimp only
  have hsame : Builtin.List.listSameRef (.ref a) (.ref b) = false := by
    show (a == b) = false
    simpa using hne
  rw [hsame]
  simp only [Bool.false_eq_true, if_false]
  unfold Builtin.List.listAllItems
  refine wpAny_bind (wpAny_bind (wpAny_typeOf hTb ?_))
  rw [if_pos (by decide)]
  unfold Builtin.List.listItems
  refine wpAny_bind (wpAny_seqItems hb rfl (wpAny_pure ?_))
  refine wpAny_bind (wpAny_bind (wpAny_seqItems L.at_ L.data (wpAny_pure ?_)))
  refine wpAny_bind (wpAny_of_eq (sliceIndices_raw lo hi none its.size (by simp)) ?_)
  rw [if_pos (by rfl)]
  refine wpAny_bind (wpAny_rule ?_)
  have hl : Builtin.List.listTooLong (its.size + new.size) = false := by
    unfold Builtin.List.listTooLong
    rw [sizeLine_eq]
    simp; exact Nat.le_trans (by assumption) (by decide)
  rw [hl]
  simp only [Bool.false_eq_true, if_false]
  refine wpAny_bind (m := updateSeq a _) (wpAny_updateSeq L.at_ L.data ?_ (by rw [sizeLine_eq]; lia) ?_)
  · exact wpAny_bind (wpAny_letGo (wpAny_pure h))
  · simp only [Array.size_append, Array.size_extract]
    rw [sizeLine_eq]
    exact Nat.le_trans (Nat.add_le_add (Nat.add_le_add (Nat.le_trans (Nat.sub_le ..) (Nat.min_le_right ..)) (Nat.le_refl _)) (Nat.le_trans (Nat.sub_le ..) (Nat.min_le_right ..))) (Nat.le_trans (Nat.add_le_add hsz (Nat.le_trans (Nat.le_add_right ..) hsz)) (by decide))
end
end Mine
end
noncomputable section
open PySem PySem.W PySem.Calls PyProof.Rows Builtin
namespace Mine
section
variable {T : Tabs} {K : Frag} {cd : ClassData} {mg mb : Str → Option Value} {w : World} {A : Around} {s : Shared} {g : Heap} {R : Result → Shared → Prop} {E : Value → Shared → Prop} {prog : Program}
theorem special_B {M : Model} {x C : Addr} {ox : Obj} {od : Option Obj} {T : String} {name : Str} {id : String} {args : List Value} {Q : Option Value → Shared → Prop} (Y : K.In s.heap) (I : InstAt s.heap x ox C od)
    (hs : findIn K (.ref C) name = some (some (.builtin id))) (sl : Slot T name id) (h : wpAny M A (call (.builtin id) (.ref x :: args)) (fun v => Q (some v)) E s) :
    wpAny M A (callSpecial? (.ref x) name args) Q E s := by
  refine wpAny_bind (wpAny_bind (I.type.here ((looks_findIn Y hs).here (wpAny_holding ?_))))
  rw [sl.bind]
  exact wpAny_bind (wpAny_pure (wpAny_bind (wpAny_mono h (fun _ _ z => wpAny_pure z) fun _ _ z => z)))
theorem a_getItem {x d : Addr} {its : Array Value} {ep : Nat} {tk : Tok} {iv i : Value} {Q : Value → Shared → Prop} (G : Gb T K mg mb g) (X : Fx K cd) (S : St T g s.heap) (a : AccAt w s.heap x d its ep tk iv)
    (h : wpAny (model prog w) A (call (.builtin "list.__getitem__") [.ref x, i]) Q E s) : wpAny (model prog w) A (getItem (.ref x) i) Q E s := by
  have Y := S.In G
  have I := a.inst
  unfold getItem sequenceKey
  refine wpAny_holding (wpAny_bind (wpAny_bind (I.type.here ?_)))
  refine wpAny_bind ((anyM_none Y X.seq).here ?_)
  rw [if_pos (show (!false) = true from rfl)]
  exact wpAny_pure (wpAny_bind (special_B Y I X.fGet PySem.F.slot_list_getitem (wpAny_mono h (fun _ _ z => wpAny_pure z) fun _ _ z => z)))
theorem a_setItem {x d : Addr} {its : Array Value} {ep : Nat} {tk : Tok} {iv i v : Value} {Q : Unit → Shared → Prop} (G : Gb T K mg mb g) (X : Fx K cd) (S : St T g s.heap) (a : AccAt w s.heap x d its ep tk iv)
    (h : wpAny (model prog w) A (call (.builtin "list.__setitem__") [.ref x, i, v]) (fun _ => Q ()) E s) : wpAny (model prog w) A (setItem (.ref x) i v) Q E s := by
  have Y := S.In G
  have I := a.inst
  unfold setItem sequenceKey
  refine wpAny_holding (wpAny_bind (wpAny_bind (I.type.here ?_)))
  refine wpAny_bind ((anyM_none Y X.seq).here ?_)
  rw [if_pos (show (!false) = true from rfl)]
  exact wpAny_pure (wpAny_bind (special_B Y I X.fSet PySem.F.slot_list_setitem (wpAny_mono h (fun _ _ z => wpAny_pure z) fun _ _ z => z)))
theorem a_sub {value slice : Expr} {x d : Addr} {its : Array Value} {ep : Nat} {tk : Tok} {iv i : Value} {Q : Value → Shared → Prop} (G : Gb T K mg mb g) (X : Fx K cd) (S : St T g s.heap) (a : AccAt w s.heap x d its ep tk iv)
    (h : wpAny (model prog w) A (call (.builtin "list.__getitem__") [.ref x, i]) Q E s)
    (hs : (subscripted slice false (.ref x) i = operate [.ref x, i] (getItem (.ref x) i)) ∨ (subscripted slice false (.ref x) i = operate [i, .ref x] (getItem (.ref x) i))) :
    wpAny (model prog w) A (subscriptTail value slice (.ref x) i) Q E s := by
  have Y := S.In G
  have I := a.inst
  unfold subscriptTail getitemInPython
  refine wpAny_bind (wpAny_bind (wpAny_bind (I.type.here ((looks_findIn Y X.fGet).here ?_))))
  refine wpAny_pure (wpAny_bind ?_)
  have fin := a_getItem (A := A) (E := E) (Q := fun r s₃ => wpAny (model prog w) A (letTemporaryGo value (.ref x) r >>= fun _ => pure r) Q E s₃) G X S a
    (wpAny_mono h (fun r s₃ h₃ => wpAny_bind (wpAny_letTemporaryGo (wpAny_pure h₃))) fun _ _ z => z)
  rcases hs with hs | hs <;> · rw [hs]; exact wpAny_operating fin
end
end Mine
end
noncomputable section
open PySem PySem.W PySem.Calls PyProof.Rows Builtin
namespace Mine
section
variable {T : Tabs} {K : Frag} {cd : ClassData} {mg mb : Str → Option Value} {w : World} {A : Around} {s : Shared} {g : Heap} {R : Result → Shared → Prop} {E : Value → Shared → Prop} {prog : Program}
inductive All2 {α β : Type} (P : α → β → Prop) : List α → List β → Prop where
  | nil : All2 P [] []
  | cons {a : α} {b : β} {l : List α} {l' : List β} (h : P a b) (t : All2 P l l') : All2 P (a :: l) (b :: l')
theorem All2.len {α β : Type} {P : α → β → Prop} {l : List α} {l' : List β} (p : All2 P l l') : l.length = l'.length := by
  induction p with
  | nil => rfl
  | cons a _ ih => simp [ih]
theorem All2.imp {α β : Type} {P P' : α → β → Prop} {l : List α} {l' : List β} (p : All2 P l l') (h : ∀ a b, P a b → P' a b) : All2 P' l l' := by
  induction p with
  | nil => exact .nil
  | cons a _ ih => exact .cons (h _ _ a) ih
theorem All2.drop {α β : Type} {P : α → β → Prop} {l : List α} {l' : List β} (p : All2 P l l') (k : Nat) : All2 P (l.drop k) (l'.drop k) := by
  induction p generalizing k with
  | nil => simpa using All2.nil
  | cons a q ih =>
    cases k with
    | zero => exact .cons a q
    | succ k => simpa using ih k
theorem All2.take {α β : Type} {P : α → β → Prop} {l : List α} {l' : List β} (p : All2 P l l') (k : Nat) : All2 P (l.take k) (l'.take k) := by
  induction p generalizing k with
  | nil => simpa using All2.nil
  | cons a q ih =>
    cases k with
    | zero => exact .nil
    | succ k => simpa using All2.cons a (ih k)
theorem All2.append {α β : Type} {P : α → β → Prop} {l₁ l₂ : List α} {l₁' l₂' : List β} (p : All2 P l₁ l₁') (q : All2 P l₂ l₂') : All2 P (l₁ ++ l₂) (l₁' ++ l₂') := by
  induction p with
  | nil => exact q
  | cons a _ ih => exact .cons a ih
def IsPair (h : Heap) (v : Value) (p : Str × Str) : Prop := ∃ t ta tb, v = .ref t ∧ h.get? t = some (tupObj [.str p.1 ta, .str p.2 tb])
theorem IsPair.mv {h h' : Heap} {v : Value} {p : Str × Str} {W : List Addr} (a : IsPair h v p) (S : St T g h) (m : Mv T g W h h') : IsPair h' v p := by
  obtain ⟨t, ta, tb, e, b⟩ := a
  exact ⟨t, ta, tb, e, m.keep _ _ b (S.notTab b (by nofun)) (.inr ⟨rfl, _, _, rfl⟩)⟩
abbrev Parts (h : Heap) (its : List Value) (ps : List (Str × Str)) : Prop := All2 (IsPair h) its ps
theorem Parts.mv {h h' : Heap} {its : List Value} {ps : List (Str × Str)} {W : List Addr} (p : Parts h its ps) (S : St T g h) (m : Mv T g W h h') : Parts h' its ps := p.imp fun _ _ a => a.mv S m
def Acc (w : World) (h : Heap) (x d : Addr) (ps : List (Str × Str)) (n : Int) : Prop := ∃ its ep tk tn, AccAt w h x d its ep tk (.int n tn) ∧ Parts h its.toList ps
theorem Acc.mv {h h' : Heap} {x d : Addr} {ps : List (Str × Str)} {n : Int} {W : List Addr} (a : Acc w h x d ps n) (S : St T g h) (m : Mv T g W h h') (hx : x ∉ W) (hd : d ∉ W) : Acc w h' x d ps n := by
  obtain ⟨its, ep, tk, tn, a, p⟩ := a
  exact ⟨its, ep, tk, tn, a.mv S m hx hd, p.mv S m⟩
def PLst (h : Heap) (l : Addr) (ps : List (Str × Str)) : Prop := ∃ its ep, h.get? l = some { cls := .type "list", data := .seq its ep } ∧ Parts h its.toList ps
theorem PLst.mv {h h' : Heap} {x : Addr} {ps : List (Str × Str)} {W : List Addr} (a : PLst h x ps) (S : St T g h) (m : Mv T g W h h') (hx : x ∉ W) : PLst h' x ps := by
  obtain ⟨its, ep, a, p⟩ := a
  exact ⟨its, ep, m.keep _ _ a (S.notTab a (by nofun)) (.inl hx), p.mv S m⟩
theorem sb_from (its : Array Value) (k : Nat) : sliceBounds (some (k : Int)) none none its.size = (((min k its.size : Nat) : Int), ((its.size : Nat) : Int), 1) := by
    simp only [sliceBounds, Option.getD_none, show (1 : Int) > 0 by decide, if_true, if_neg (show ¬ ((k : Int) < 0) by lia)]
    congr 1
    lia
theorem pick_from (its : Array Value) (k : Nat) : slicePick its (some (k : Int)) none none = (its.toList.drop k).toArray := by
  have e : sliceBounds (some (k : Int)) none none its.size = (((min k its.size : Nat) : Int), ((its.size : Nat) : Int), 1) := sb_from its k
  rw [kmk_pick_nat _ e]
  have h1 : min k its.size = min k its.toList.length := by simp
  rw [h1, kmk_drop_min, List.take_of_length_le (by rw [List.length_drop]; simp; (clear h1; omega))]
theorem set_from (its : Array Value) (k : Nat) : sliceSet its #[] (sliceBounds (some (k : Int)) none none its.size).1 (sliceBounds (some (k : Int)) none none its.size).2.1 = (its.toList.take k).toArray := by
  have e : sliceBounds (some (k : Int)) none none its.size = (((min k its.size : Nat) : Int), ((its.size : Nat) : Int), 1) := sb_from its k
  rw [e]
  unfold sliceSet
  apply Array.ext'
  simp
  rcases its with ⟨l⟩
  simp
  rw [kmk_take_min]
  have h : (Max.max (↑(Min.min k l.length) : Int) ↑l.length).toNat = l.length := by rw [Int.max_eq_right (lenat (Nat.min_le_right _ _))]; rfl
  rw [h]
  simp
theorem mapSeq_acc (C d : Addr) (its new : Array Value) (ep : Nat) (f : Array Value → Array Value) (e : f its = new) : ∃ ep', Obj.mapSeq f (accObj C d its ep) = accObj C d new ep' := by
  subst e
  exact ⟨_, rfl⟩
end
end Mine
end
noncomputable section
open PySem PySem.W PySem.Calls PyProof.Rows Builtin
namespace Mine
section
variable {T : Tabs} {K : Frag} {cd : ClassData} {mg mb : Str → Option Value} {w : World} {A : Around} {s : Shared} {g h₀ : Heap} {W : List Addr} {L : Addr} {m : Str → Option Value} {kn : List (Addr × Obj)} {R : Result → Shared → Prop} {E : Value → Shared → Prop} {prog : Program}
abbrev slObj (vl vu : Value) : Obj := { cls := .type "slice", data := .fields #[vl, vu, .none] }
theorem j_Slice {lower upper : Option Expr} {p : Pos} {env : Env} {Q : Value → Shared → Prop}
    (h : wpAny (model prog w) A (evalPart lower env) (fun l s₁ => wpAny (model prog w) A (evalPart upper env) (fun u s₂ => J T g W h₀ L s₂.heap m kn ∧ ∀ sl h', J T g W h₀ L h' m ((sl, slObj l u) :: kn) → Q (.ref sl) { s₂ with heap := h' }) E s₁) E s) :
    wpAny (model prog w) A (eval (.Slice lower upper none p) env) Q E s :=
  wpAny_Slice (wpAny_mono h (fun l s₁ h₁ => wpAny_mono h₁ (fun u s₂ h₂ => wpAny_pure (h₂.2 _ _ (h₂.1.push _ rfl))) fun _ _ x => x) fun _ _ x => x)
theorem J.know {h : Heap} (j : J T g W h₀ L h m kn) {a : Addr} {o : Obj} (e0 : h₀.get? a = some o) (hw : a ∉ W ∨ isTup o) (ha : a ∉ kn.map (·.1)) (hg : g.objs.size ≤ a) (hc : o.cls ≠ .none := by nofun) : J T g W h₀ L h m ((a, o) :: kn) :=
  ⟨j.mv, j.ns, j.Lt, j.Ln, j.Lg, fun p hp => by
    rcases List.mem_cons.mp hp with rfl | hp
    · refine ⟨j.old e0 hw hc, ?_, j.s0.notTab e0 hc, hg⟩
      rintro rfl
      rw [j.Ln] at e0
      cases e0
    · exact j.has p hp, by rw [List.map_cons]; exact List.nodup_cons.mpr ⟨ha, j.nd⟩, j.s0⟩
set_option maxHeartbeats 1000000 in
theorem popf_spec {x d : Addr} {ps : List (Str × Str)} {n : Int} {k : Nat} {args : Args} {tk : Tok} (G : Gb T K mg mb g) (X : Fx K cd) (S : St T g s.heap) (r : Rm A 1)
   (ha : Acc w s.heap x d ps n) (hxg : g.objs.size ≤ x) (hsz : ps.length ≤ 1000)
   (hb : ∀ fd, fd.params = fArgs (inCls 6 2) → fd.defaults = .ref 140 → BindsTo s fd args [("self", .ref x), ("i", .int k tk)])
   (hR : ∀ l h' tk, Mv T g [x] s.heap h' → Acc w h' x d (ps.take k) n → PLst h' l (ps.drop k) → s.heap.get? l = none → g.objs.size ≤ l → R (.ok (.ret (.ref l))) { s with heap := h', toks := tk }) :
   codeAny (model PR w) A (.call (.ref 147) args) R s := by
  obtain ⟨oc, od, osl, name, kV, doc, pm, an, ct, ho, hcd⟩ := X.popf
  obtain ⟨its, ep, tk0, tn, ha, hp⟩ := ha
  have hlen : its.size = ps.length := by rw [← hp.len, Array.length_toList]
  refine' j_call (binds := [("self", .ref x), ("i", .int k tk)]) [x] [(x, accObj 195 d its ep)] G S ?hkn ho hcd r.lt (hb _ rfl rfl) (locs rfl) (by decide) ?_ rfl rfl rfl
  case hkn => exact ⟨fun p hp => by rw [List.mem_singleton.mp hp]; exact ⟨ha.o, S.notTab ha.o (by nofun), hxg⟩, by exact nd1⟩
  intro L h₁ t₁ j
  have hne := ha.ne
  have a₁ : AccAt w h₁ x d its ep tk0 (.int n tn) := ⟨j.get (.head _), j.old ha.d (.inl (by exact ni1 hne.symm))⟩
  refine wpAny_execs_cons (wpAny_Assign_Name (Subscript_ (j_local (s := { s with heap := h₁, toks := t₁ }) j rfl ?_)))
  refine j_Slice (j_local (s := { s with heap := h₁, toks := t₁ }) j rfl (wpAny_pure ⟨j, fun sl h₂ j₂ => ?_⟩))
  have a₂ : AccAt w h₂ x d its ep tk0 (.int n tn) := ⟨j₂.get (.tail _ (.head _)), j₂.old ha.d (.inl (by exact ni1 hne.symm))⟩
  have hsl : h₂.IsSliceOf sl (.int k tk) .none .none := ⟨_, j₂.get (.head _), rfl, rfl⟩
  refine a_sub (s := { s with heap := h₂, toks := t₁ }) G X j₂.mv.st a₂ ?_ (.inr rfl)
  refine list_getSlice (s := { s with heap := h₂, toks := t₁ }) (lo := some (k : Int)) (hi := none) (LstAt.acc (j₂.mv.st.In G) X.supC.lst a₂.o) hsl (by constructor) (by constructor) (by rw [sizeLine_eq]; lia) ?_
  have j₃ := j₂.push { cls := .type "list", data := .seq (slicePick its (some (k : Int)) none none) } rfl
  have nl : s.heap.get? h₂.objs.size = none := j₂.new
  have nl2 : h₂.get? h₂.objs.size = none := by
    cases q : h₂.get? h₂.objs.size with
    | none => rfl
    | some o => exact absurd (Heap.lt_size q) (Nat.lt_irrefl _)
  rw [pick_from] at j₃ ⊢
  revert j₃ nl nl2
  generalize h₂.objs.size = l
  generalize h₂.push _ = h₃
  intro j₃ nl nl2
  dsimp only
  refine j_store (s := { s with heap := h₃, toks := t₁ }) j₃ (fun h₄ t₄ j₄ => ?_)
  refine wpAny_execs_cons (wpAny_Assign_Subscript (List_ (args_nil ?_)))
  refine j_newList (s := { s with heap := h₄, toks := t₄ }) j₄ (fun e h₅ j₅ _ _ => ?_)
  refine j_local (s := { s with heap := h₅, toks := t₄ }) j₅ rfl ?_
  refine j_Slice (j_local (s := { s with heap := h₅, toks := t₄ }) j₅ rfl (wpAny_pure ⟨j₅, fun sl₂ h₆ j₆ => ?_⟩))
  have a₆ : AccAt w h₆ x d its ep tk0 (.int n tn) := ⟨j₆.get (.tail _ (.tail _ (.tail _ (.tail _ (.head _))))), j₆.old ha.d (.inl (by exact ni1 hne.symm))⟩
  refine a_setItem (s := { s with heap := h₆, toks := t₄ }) G X j₆.mv.st a₆ ?_
  have hsl₂ : h₆.IsSliceOf sl₂ (.int k tk) .none .none := ⟨_, j₆.get (.head _), rfl, rfl⟩
  refine list_setSlice (s := { s with heap := h₆, toks := t₄ }) (lo := some (k : Int)) (hi := none) (LstAt.acc (j₆.mv.st.In G) X.supC.lst a₆.o) hsl₂ (by constructor) (by constructor) (j₆.get (.tail _ (.head _))) ?hxe (by simp; lia) ?_
  case hxe =>
    rintro rfl
    have e1 := j₆.get (.tail _ (.head _))
    rw [a₆.o] at e1
    cases e1
  obtain ⟨ep', ee⟩ := mapSeq_acc 195 d its _ ep (fun xs => sliceSet xs #[] (sliceBounds (some (k : Int)) none none its.size).1 (sliceBounds (some (k : Int)) none none its.size).2.1) (set_from its k)
  have j₇ := j₆.update 4 rfl (.inl (.head _)) (by nofun) ee rfl
  revert j₇
  generalize h₆.update x _ = h₇
  intro j₇
  refine wpAny_execs_cons (wpAny_Return_some (j_local (s := { s with heap := h₇, toks := t₄ }) j₇ rfl ?_))
  have q := hp.mv S j₇.mv
  refine hR l _ _ j₇.mv ⟨_, _, _, _, ⟨j₇.get (.tail _ (.tail _ (.tail _ (.tail _ (.head _))))), j₇.old ha.d (.inl (by exact ni1 hne.symm))⟩, ?_⟩ ⟨_, _, j₇.get (.tail _ (.tail _ (.head _))), ?_⟩ nl (j₇.has _ (.tail _ (.tail _ (.head _)))).2.2.2
  · simpa using q.take k
  · simpa using q.drop k
end
end Mine
end
noncomputable section
open PySem PySem.W PySem.Calls PyProof.Rows Builtin Builtin.ObjectAttr
namespace Mine
section
variable {T : Tabs} {K : Frag} {cd : ClassData} {mg mb : Str → Option Value} {w : World} {A : Around} {s : Shared} {g h₀ : Heap} {W : List Addr} {L : Addr} {m : Str → Option Value} {kn : List (Addr × Obj)} {R : Result → Shared → Prop} {E : Value → Shared → Prop} {prog : Program}
theorem refuse_list (self : Value) (C : Addr) : refuseLoop self "__setattr__" [.ref C, .type "list", .type "object"] = pure () := by
  rw [refuseLoop_ref]
  kernel_rfl
def OverOk (K : Frag) (C : Addr) : Prop := ∃ cd, clsIn K C = some cd ∧ (∀ self, refuseLoop self "__setattr__" cd.mro = pure ()) ∧ cd.mro.isEmpty = false ∧ cd.mro.contains (.type "object") = true ∧ cd.hasDict = true
theorem OverOk.plain {C : Addr} (h : plainOver K C = true) (hh : (clsIn K C).any (·.hasDict) = true) : OverOk K C := by
  obtain ⟨cd, hc, ho⟩ := any_some h
  obtain ⟨cd', hc', hd⟩ := any_some hh
  rw [hc] at hc'
  cases hc'
  exact ⟨cd, hc, fun self => refuse_only self ho, by cases q : cd.mro with | nil => rw [q] at ho; cases ho | cons _ _ => rfl, only_has ho, hd⟩
set_option maxHeartbeats 1000000 in
theorem j_osa {x dx C : Addr} {ox od : Obj} {name : Str} {v : Value} {tk : Tok} (X : K.In s.heap) (I : InstAt s.heap x ox C (some od)) (hd : ox.dict = some dx)
    (hp : OverOk K C) (ht : takerIn K C name = some none)
    (hl : (lookIn name od).isSome = true)
    (e : ∀ tk, ∃ od' es n, Obj.putName name (PyData.keyHash w.params name) (.str name tk) v od = od' ∧ od'.data = .dict es n ∧ es.size ≤ 1000 ∧ od'.isFreed = false)
    (h : R (.ok (.ret .none)) { s with heap := s.heap.update dx (Obj.putName name (PyData.keyHash w.params name) (.str name s.toks) v), toks := s.toks + 1 }) : codeAny (model prog w) A (.call (.builtin "object.__setattr__") ⟨[.ref x, .str name tk, v], []⟩) R s := by
  have SF := PySem.F.store_object
  obtain ⟨cd, hc, ho, ne, hob, hhd⟩ := hp
  have sub : Looks (model prog w) s.heap (isInstance (.ref x) (.type "object")) true := I.type.andThen (looks_mroIn X (by unfold mroIn; rw [hc, Option.bind_some, if_neg (by rw [ne]; decide), hob]))
  refine codeAny_call_builtin SF.slot.plain SF.entry (@check_slot (model prog w) _ _ s "object.__setattr__" "object" "__setattr__" (.ref x) [.str name tk, v] [] _ SF.kind SF.split sub (SF.args (.ref x) (.str name tk) v) ?_)
  obtain ⟨attr, ha, hr⟩ := Option.bind_eq_some_iff.mp ht
  have hm : Looks (model prog w) s.heap (mroOf (.ref C)) cd.mro := (looks_clsIn X hc).andThen .now
  have L3 : Looks (model prog w) s.heap (storeTaker? attr) none := by
    cases attr with
    | none => exact .now
    | some a =>
      obtain ⟨b, hb, hb2⟩ := Option.map_eq_some_iff.mp hr
      refine (looks_takesIn X hb).andThen ?_
      cases b
      · exact .now
      · cases hb2
  rw [osa_eq, refuse_eq]
  refine wpAny_bind (wpAny_bind (I.type.here (wpAny_bind (hm.here ?_))))
  rw [ho]
  refine wpAny_pure (wpAny_bind (I.type.here (wpAny_bind ((looks_findIn X ha).here (wpAny_bind (L3.here ?_))))))
  obtain ⟨hx, hcl, hn, D⟩ := I
  obtain ⟨oc, odi, oda, osl⟩ := ox
  dsimp only at hcl hd D
  subst hcl hd
  dsimp only at D
  obtain ⟨od', es', n', e1, e2, e3, e4⟩ := e s.toks
  have D' : (s.heap.update dx (Obj.putName name (PyData.keyHash w.params name) (.str name s.toks) v)).get? dx = some od' := by
    have := Heap.get?_update_self (Obj.putName name (PyData.keyHash w.params name) (.str name s.toks) v) D (by rw [e1]; exact e4)
    rw [this, e1]
  refine wpAny_bind (wpAny_pure (wpAny_bind (wpAny_bind (wpAny_loadPart hx (wpAny_bind ((looks_clsIn X hc).here ?_))))))
  rw [hhd]
  refine wpAny_pure (a := some dx) (wpAny_bind (wpAny_pure (wpAny_bind ?_)))
  unfold nsSet
  refine wpAny_bind (wpAny_bind (wpAny_askSetting (wpAny_pure (wpAny_bind (wpAny_mkText (wpAny_bind (wpAny_loadPart D ?_)))))))
  unfold lookIn at hl
  split at hl
  · rename_i es₀ n₀ q
    rw [q]
    dsimp only
    have c : (!es₀.any (·.key.isStr name) && es₀.any (·.refKey)) = false := by
      rw [← Array.any_toList, ← Array.any_toList]
      split at hl
      · rename_i en he
        rw [List.any_eq_true.mpr ⟨en, List.mem_of_find?_eq_some he, List.find?_some he⟩]; rfl
      · split at hl
        · cases hl
        · rename_i z; rw [Bool.not_eq_true] at z; rw [z, Bool.and_false]
    rw [aRefKeyMayBeTheName_at, c]
    refine wpAny_updatePart D ?_
    refine wpAny_bind (wpAny_lookBehind D' (by rw [e2]; exact pastItsLine_dict (by rw [sizeLine_eq]; exact Nat.le_trans (by assumption) (by decide))) ?_)
    exact wpAny_pure h
  · cases hl
theorem j_setattr {x dx C : Addr} {ox od : Obj} {name : Str} {v : Value} {Q : Unit → Shared → Prop} (X : K.In s.heap) (I : InstAt s.heap x ox C (some od)) (hd : ox.dict = some dx)
    (hs : findIn K (.ref C) "__setattr__" = some (some (.builtin "object.__setattr__"))) (hp : OverOk K C) (ht : takerIn K C name = some none)
    (hl : (lookIn name od).isSome = true)
    (e : ∀ tk, ∃ od' es n, Obj.putName name (PyData.keyHash w.params name) (.str name tk) v od = od' ∧ od'.data = .dict es n ∧ es.size ≤ 1000 ∧ od'.isFreed = false)
    (h : ∀ tk t', Q () { s with heap := s.heap.update dx (Obj.putName name (PyData.keyHash w.params name) (.str name tk) v), toks := t' }) : wpAny (model prog w) A (setAttr (.ref x) name v) Q E s :=
  set_plain X I hs (j_osa (s := { s with toks := s.toks + 1 }) X I hd hp ht hl e (h _ _))
end
end Mine
end
noncomputable section
open PySem PySem.W PySem.Calls PyProof.Rows Builtin Builtin.ObjectAttr
namespace Mine
section
variable {T : Tabs} {K : Frag} {cd : ClassData} {mg mb : Str → Option Value} {w : World} {A : Around} {s : Shared} {g h₀ : Heap} {W : List Addr} {L : Addr} {m : Str → Option Value} {kn : List (Addr × Obj)} {R : Result → Shared → Prop} {E : Value → Shared → Prop} {prog : Program}
theorem Fx.over (X : Fx K cd) : OverOk K 195 := ⟨cd, X.supC.cls, fun self => by rw [X.mro]; exact refuse_list self 195, by rw [X.mro]; rfl, by rw [X.mro]; decide, X.hd⟩
theorem Fx.taker (X : Fx K cd) : takerIn K 195 "_initial_size" = some none := by unfold takerIn; rw [X.fSize]; rfl
theorem put_size (h : Int) (key : Value) (tk tk' : Tok) (iv v : Value) : ∃ tk'', Obj.putName "_initial_size" (PyData.keyHash w.params "_initial_size") (.str "_initial_size" tk') v (szD w tk iv) = szD w tk'' v := by
  refine ⟨tk, ?_⟩
  rw [putName_dict]
  rfl
theorem set_all (its new : Array Value) : sliceSet its new (sliceBounds none none none its.size).1 (sliceBounds none none none its.size).2.1 = new := by
  have e : sliceBounds none none none its.size = (((0 : Nat) : Int), ((its.size : Nat) : Int), 1) := by
    simp only [sliceBounds, Option.getD_none, show (1 : Int) > 0 by decide, if_true]
    rfl
  rw [e]
  unfold sliceSet
  apply Array.ext'
  simp
set_option maxHeartbeats 2000000 in
theorem reset_spec {x d : Addr} {ps qs : List (Str × Str)} {n : Int} {args : Args} {v : Value} (G : Gb T K mg mb g) (X : Fx K cd) (S : St T g s.heap) (r : Rm A 1)
   (ha : Acc w s.heap x d ps n) (hxg : g.objs.size ≤ x) (hdg : g.objs.size ≤ d) (hsz : ps.length ≤ 1000) (hsq : qs.length ≤ 1000)
   (hv : (v = .none ∧ qs = []) ∨ ∃ l, v = .ref l ∧ PLst s.heap l qs ∧ g.objs.size ≤ l)
   (hb : ∀ fd, fd.params = fArgs (inCls 6 6) → fd.defaults = .ref 170 → BindsTo s fd args [("self", .ref x), ("startval", v)])
   (hR : ∀ h' tk, Mv T g [x, d] s.heap h' → Acc w h' x d qs 0 → R (.ok (.ret .none)) { s with heap := h', toks := tk }) :
   codeAny (model PR w) A (.call (.ref 177) args) R s := by
  obtain ⟨oc, od, osl, name, kV, doc, pm, an, ct, ho, hcd⟩ := X.reset
  obtain ⟨its, ep, tk0, tn, ha, hp⟩ := ha
  have hlen : its.size = ps.length := by rw [← hp.len, Array.length_toList]
  have hne := ha.ne
  refine' j_call (binds := [("self", .ref x), ("startval", v)]) [x, d] [(x, accObj 195 d its ep), (d, szD w tk0 (.int n tn))] G S ?hkn ho hcd r.lt (hb _ rfl rfl) (locs rfl) (by decide) ?_ rfl rfl rfl
  case hkn =>
    refine ⟨fun p hp => ?_, by simp [hne]⟩
    rcases List.mem_cons.mp hp with rfl | hp
    · exact ⟨ha.o, S.notTab ha.o (by nofun), hxg⟩
    · rw [List.mem_singleton.mp hp]; exact ⟨ha.d, S.notTab ha.d (by nofun), hdg⟩
  intro L h₁ t₁ j
  have key : ∀ (h₂ : Heap) (t₂ : Tok) (l : Addr) (m' : Str → Option Value) (new : Array Value) (en : Nat) (j₂ : J T g [x, d] s.heap L h₂ m' ((l, ({ cls := .type "list", data := .seq new en } : Obj)) :: (x, accObj 195 d its ep) :: (d, szD w tk0 (.int n tn)) :: [])), m' "self" = some (.ref x) → m' "startval" = some (.ref l) → new.size = qs.length → (∀ h', Mv T g [x, d] s.heap h' → Parts h' new.toList qs) →
      wpAny (model PR w) (A.deeper (envX "_Accumulator.reset" (fScope (inCls 6 6)) L 177 (.ref 176) [])) (execs ((fBody (inCls 6 6)).drop 1) (envX "_Accumulator.reset" (fScope (inCls 6 6)) L 177 (.ref 176) []))
        (fun fl s' => R (.ok (.ret (match fl with | .ret v => v | _ => .none))) s') (fun _ _ => False) { s with heap := h₂, toks := t₂ } := by
    intro h₂ t₂ l m' new en j₂ m1 m2 hnl hq
    refine wpAny_execs_cons (wpAny_Assign_Subscript ?_)
    refine j_local (s := { s with heap := h₂, toks := t₂ }) j₂ m2 ?_
    refine j_local (s := { s with heap := h₂, toks := t₂ }) j₂ m1 ?_
    refine j_Slice (wpAny_pure (wpAny_pure ⟨j₂, fun sl h₃ j₃ => ?_⟩))
    have k₃ : h₃.get? l = some { cls := .type "list", data := .seq new en } := j₃.get (.tail _ (.head _))
    have a₃ : AccAt w h₃ x d its ep tk0 (.int n tn) := ⟨j₃.get (.tail _ (.tail _ (.head _))), j₃.get (.tail _ (.tail _ (.tail _ (.head _))))⟩
    refine a_setItem (s := { s with heap := h₃, toks := t₂ }) G X j₃.mv.st a₃ ?_
    have hsl : h₃.IsSliceOf sl .none .none .none := ⟨_, j₃.get (.head _), rfl, rfl⟩
    refine list_setSlice (s := { s with heap := h₃, toks := t₂ }) (lo := none) (hi := none) (LstAt.acc (j₃.mv.st.In G) X.supC.lst a₃.o) hsl (by constructor) (by constructor) k₃ ?hxe (by lia) ?_
    case hxe =>
      rintro rfl
      rw [a₃.o] at k₃
      cases k₃
    obtain ⟨ep', ee⟩ := mapSeq_acc 195 d its _ ep (fun xs => sliceSet xs new (sliceBounds none none none its.size).1 (sliceBounds none none none its.size).2.1) (set_all its new)
    have j₄ := j₃.update 2 rfl (.inl (.head _)) (by nofun) ee rfl
    revert j₄
    generalize h₃.update x _ = h₄
    intro j₄
    have a₄ : AccAt w h₄ x d new ep' tk0 (.int n tn) := ⟨j₄.get (.tail _ (.tail _ (.head _))), j₄.get (.tail _ (.tail _ (.tail _ (.head _))))⟩
    refine wpAny_execs_cons (plainObj_wpAny_Assign_Attribute (wpAny_Constant_int ?_))
    refine j_local (s := { s with heap := h₄, toks := t₂ + 1 }) j₄ m1 ?_
    refine j_setattr (s := { s with heap := h₄, toks := t₂ + 1 }) (dx := d) (j₄.mv.st.In G) a₄.inst rfl X.fSetattr X.over X.taker (by rw [lookIn_dict]; rfl) ?_ ?_
    · intro tk
      obtain ⟨tk'', e⟩ := put_size (w := w) 0 .none tk0 tk (.int n tn) (.int 0 t₂)
      exact ⟨_, _, _, e, rfl, by simp, rfl⟩
    · intro tk t'
      obtain ⟨tk'', e⟩ := put_size (w := w) 0 .none tk0 tk (.int n tn) (.int 0 t₂)
      have j₅ := j₄.update 3 rfl (.inl (.tail _ (.head _))) (by exact tnD) e rfl
      refine wpAny_execs_nil (hR _ _ j₅.mv ⟨_, _, _, _, ⟨j₅.get (.tail _ (.tail _ (.head _))), j₅.get (.tail _ (.tail _ (.tail _ (.head _))))⟩, hq _ j₅.mv⟩)
  refine wpAny_execs_cons (wpAny_If (wpAny_isTrue_Compare1 (j_local (s := { s with heap := h₁, toks := t₁ }) j rfl (wpAny_Constant_none ?_))))
  rcases hv with ⟨rfl, rfl⟩ | ⟨l, rfl, ⟨new, en, hl, hq⟩, hlg⟩
  · refine wpAny_is_plain rfl (wpAny_truthy_bool ?_)
    rw [show (Value.none == Value.none) = true from rfl, if_pos rfl]
    refine wpAny_execs_cons (wpAny_Assign_Name (List_ (args_nil ?_)))
    refine j_newList (s := { s with heap := h₁, toks := t₁ }) j (fun l h₂ j₂ n₂ _ => ?_)
    refine j_store (s := { s with heap := h₂, toks := t₁ }) j₂ (fun h₃ t₃ j₃ => ?_)
    refine wpAny_execs_nil ?_
    exact key h₃ t₃ l _ _ _ j₃ rfl rfl rfl fun _ _ => .nil
  · refine is_ref_none (wpAny_truthy_bool ?_)
    rw [if_neg (by decide)]
    refine wpAny_execs_nil ?_
    have lx : l ≠ x := by rintro rfl; rw [ha.o] at hl; cases hl
    have ld : l ≠ d := by rintro rfl; rw [ha.d] at hl; have := congrArg Obj.cls (Option.some.inj hl); simp [dictOf] at this
    exact key h₁ t₁ l _ _ _ (j.know hl (.inl (by exact ni2 lx ld)) (by simp [lx, ld]) hlg) rfl rfl (by rw [← hq.len, Array.length_toList]) fun _ mv => hq.mv S mv
end
end Mine
end
noncomputable section
open PySem PySem.W PySem.Calls PyProof.Rows Builtin Builtin.ObjectAttr
namespace Mine
section
variable {T : Tabs} {K : Frag} {cd : ClassData} {mg mb : Str → Option Value} {w : World} {A : Around} {s : Shared} {g h₀ h h' : Heap} {W : List Addr} {L : Addr} {m : Str → Option Value} {kn : List (Addr × Obj)} {R : Result → Shared → Prop} {E : Value → Shared → Prop} {prog : Program}
theorem St.table (S : St T g h) {c P : Addr} {ps more : Array Value} (hm : (c, P) ∈ T) (hx : Heap.ExtBut P h h') (ht : h.TableAt c P ps) (hc : h'.IsCode c P (ps ++ more)) (ht' : h'.TableAt c P (ps ++ more)) (hP : P ≠ cStatics) (hl : h.objs.size ≤ h'.objs.size) : St T g h' := by
  have hPt : P ∈ T.map (·.2) := List.mem_map.mpr ⟨_, hm, rfl⟩
  obtain ⟨p1, p2, _, _, t0⟩ := S.tab _ hm
  refine ⟨S.old.step_table t0 ht ht' hx hP, fun b o e hb => hx _ _ (fun q => hb (q ▸ hPt)) (S.keep b o e hb), fun p hp => ?_, Nat.le_trans S.le hl⟩
  obtain ⟨q1, q2, ic, it, ig⟩ := S.tab p hp
  by_cases q : p.2 = P
  · refine ⟨ps ++ more, q2, ?_, ?_, ig⟩
    · obtain ⟨o, vs, file, tf, flags, tg, inF, text, tt, op, a1, a2, a3, a4, a5, a6, a7, a8, a9, a10, a11⟩ := ic
      obtain ⟨o', vs', file', tf', flags', tg', inF', text', tt', op', b1, b2, b3, b4, b5, b6, b7, b8, b9, b10, b11⟩ := hc
      exact ⟨o, vs, file, tf, flags, tg, inF, text, tt, op', hx _ _ (q ▸ a11) a1, a2, a3, a4, a5, a6, a7, q ▸ b8, b9, b10, a11⟩
    · obtain ⟨⟨o, vs, a1, a2, a3, a4⟩, _⟩ := it
      refine ⟨⟨o, vs, hx _ _ ?_ a1, a2, a3, a4⟩, q ▸ ht'.2⟩
      rintro rfl
      obtain ⟨ob, vs', a1', _⟩ := ic
      rw [ht.2] at a1
      cases a1
      cases a2
  · exact ⟨q1, q2, ic.extBut hx (by
      rintro rfl
      obtain ⟨⟨o, vs, a1, a2, a3, a4⟩, _⟩ := it
      rw [ht.2] at a1
      cases a1
      cases a2) q, it.extBut hx (by
      rintro rfl
      obtain ⟨⟨o, vs, a1, a2, a3, a4⟩, _⟩ := it
      rw [ht.2] at a1
      cases a1
      cases a2) q, ig⟩
theorem J.table (j : J T g W h₀ L h m kn) {c P : Addr} {ps more : Array Value} (hm : (c, P) ∈ T) (hx : Heap.ExtBut P h h') (ht : h.TableAt c P ps) (hc : h'.IsCode c P (ps ++ more)) (ht' : h'.TableAt c P (ps ++ more)) (hP : P ≠ cStatics) (hl : h.objs.size ≤ h'.objs.size) : J T g W h₀ L h' m kn := by
  have hPt : P ∈ T.map (·.2) := List.mem_map.mpr ⟨_, hm, rfl⟩
  have k : ∀ b o, h.get? b = some o → b ∉ T.map (·.2) → h'.get? b = some o := fun b o e hb => hx _ _ (fun q => hb (q ▸ hPt)) e
  obtain ⟨oL, es, n, e, r⟩ := j.ns
  exact ⟨⟨j.mv.st.table hm hx ht hc ht' hP hl, fun b o e hb hw => k _ _ (j.mv.keep b o e hb hw) hb, fun b o e => by
      obtain ⟨o₁, e₁⟩ := j.mv.there b o e
      by_cases q : b = P
      · exact ⟨_, q ▸ ht'.2⟩
      · exact ⟨o₁, hx _ _ q e₁⟩⟩, ⟨oL, es, n, k _ _ e j.Lt, r⟩, j.Lt, j.Ln, j.Lg,
    fun p hp => ⟨k _ _ (j.has p hp).1 (j.has p hp).2.2.1, (j.has p hp).2⟩, j.nd, j.s0⟩
theorem j_genCode {env : Env} {c P : Addr} {pos : Pos} {qualname : Str} {scope : Scope} {Q : Value → Shared → Prop} (G : Gb T K mg mb g) (j : J T g W h₀ L s.heap m kn) (hm : (c, P) ∈ T) (hc : env.code = .ref c)
    (h : ∀ code h' tk, J T g W h₀ L h' m kn → (∀ b o, s.heap.get? b = some o → b ∉ T.map (·.2) → h'.get? b = some o) → s.heap.objs.size ≤ h'.objs.size → Q code { s with heap := h', toks := tk }) :
    wpAny (model prog w) A (genexprCode env pos qualname scope) Q E s := by
  obtain ⟨ps, ps₀, ic, it, _⟩ := j.mv.st.tab _ hm
  have hPt : P ∈ T.map (·.2) := List.mem_map.mpr ⟨_, hm, rfl⟩
  cases q : codeAmong pos ps.toList with
  | some c' => exact wpAny_genexprCode_hit hc ic q (h c' s.heap s.toks j (fun _ _ e _ => e) (Nat.le_refl _))
  | none =>
    refine wpAny_genexprCodeX hc ic it q fun c' h' tk hx h1 h2 h3 h4 h5 h6 => ?_
    have hl : s.heap.objs.size ≤ h'.objs.size := Nat.le_trans h1 (Nat.le_of_lt h2)
    exact h _ h' tk (j.table hm hx it h3 h5 (fun q => G.k3 (q ▸ hPt)) hl) (fun b o e hb => hx _ _ (fun q => hb (q ▸ hPt)) e) hl
theorem j_builtinsFor {Q : Addr → Shared → Prop} (G : Gb T K mg mb g) (S : St T g s.heap) {running : Addr} (h : Q builtinsNs s) : wpAny (model prog w) A (builtinsFor mainGlobals running) Q E s := by
  obtain ⟨bm, d, sl, e1, e2, e3, e4⟩ := G.bm
  subst e4
  exact wpAny_builtinsFor (S.ns G.mgN G.k1) e1 e2 (S.In G _ _ e3) rfl rfl rfl h
def Sq (h : Heap) (a : Addr) (items : Array Value) : Prop := ∃ o n, h.get? a = some o ∧ o.data = .seq items n
theorem Sq.at {a : Addr} {items : Array Value} (x : Sq h a items) (k : ∀ o, h.get? a = some o → h'.get? a = some o) : Sq h' a items := let ⟨o, n, e, d⟩ := x; ⟨o, n, k _ e, d⟩
theorem next_item {it l : Addr} {i : Nat} {items : Array Value} {x : Value} {Q : Option Value → Shared → Prop} (hit : s.heap.IsListIter it l i)
    (hl : Sq s.heap l items) (hx : items[i]? = some x)
    (hQ : ∀ h', h'.IsListIter it l (i + 1) → Heap.SameBut it s.heap h' → Q (some x) { s with heap := h' }) :
    wpAny (model prog w) A (pyNext (.ref it)) Q E s := by
  obtain ⟨o, ho, hc, hd⟩ := id hit
  obtain ⟨ol, nl, hol, hdl⟩ := hl
  unfold pyNext
  refine wpAny_bind (wpAny_attempt (wpAny_callSpecial?_slot (name := Str.ofString "__next__") hit.typeIs slot_listiter_next
    (wpAny_call_entry slot_listiter_next hit.typeIs entry_listiter_next ?_ (args_listiter_next _))))
  show wpAny _ _ (field (.ref it) 0 >>= _) _ _ s
  refine wpAny_bind (wpAny_field ho hd (x := .ref l) rfl ?_)
  show wpAny _ _ (if (Value.ref l == Value.none) = true then _ else _) _ _ s
  rw [if_neg (show ¬ ((Value.ref l == Value.none) = true) from Bool.false_ne_true)]
  show wpAny _ _ (field (.ref it) 1 >>= _) _ _ s
  refine wpAny_bind (wpAny_field ho hd (x := .int i 0) rfl ?_)
  show wpAny _ _ (seqItems? (.ref l) >>= _) _ _ s
  refine wpAny_bind (wpAny_seqItems hol hdl ?_)
  simp only [Int.toNat_natCast, hx]
  refine wpAny_bind (wpAny_setField ho hd (by exact Nat.le_refl _) (wpAny_pure ⟨x, rfl, wpAny_pure (hQ _ ?_ (Heap.SameBut.update ..))⟩))
  exact ⟨_, Heap.get?_update_self _ ho (Obj.isFreed_of_fields (Obj.data_mapFields hd _)), (Obj.cls_mapFields ..).trans hc, by
    rw [Obj.data_mapFields hd]; exact rfl⟩
theorem next_end {it l : Addr} {i : Nat} {items : Array Value} {Q : Option Value → Shared → Prop} (hh : A.handled = none)
    (hit : s.heap.IsListIter it l i) (hl : Sq s.heap l items) (hx : items[i]? = none)
    (hQ : ∀ h', Heap.ExtBut it s.heap h' → Q none { s with heap := h' }) : wpAny (model prog w) A (pyNext (.ref it)) Q E s := by
  obtain ⟨o, ho, hc, hd⟩ := id hit
  obtain ⟨ol, nl, hol, hdl⟩ := hl
  unfold pyNext
  refine wpAny_bind (wpAny_attempt (wpAny_callSpecial?_slot (name := Str.ofString "__next__") hit.typeIs slot_listiter_next
    (wpAny_call_entry slot_listiter_next hit.typeIs entry_listiter_next ?_ (args_listiter_next _))))
  show wpAny _ _ (field (.ref it) 0 >>= _) _ _ s
  refine wpAny_bind (wpAny_field ho hd (x := .ref l) rfl ?_)
  show wpAny _ _ (if (Value.ref l == Value.none) = true then _ else _) _ _ s
  rw [if_neg (show ¬ ((Value.ref l == Value.none) = true) from Bool.false_ne_true)]
  show wpAny _ _ (field (.ref it) 1 >>= _) _ _ s
  refine wpAny_bind (wpAny_field ho hd (x := .int i 0) rfl ?_)
  show wpAny _ _ (seqItems? (.ref l) >>= _) _ _ s
  refine wpAny_bind (wpAny_seqItems hol hdl ?_)
  simp only [Int.toNat_natCast, hx]
  refine wpAny_bind (wpAny_rule (wpAny_bind (wpAny_setField ho hd (by simp) ?_)))
  show wpAny _ _ (newExc (.type "StopIteration") [] >>= _) _ _ _
  refine wpAny_bind ?_
  simp only [newExc, newTuple]
  refine wpAny_bind (wpAny_newObj_type ?_ (by size_fits))
  refine wpAny_bind (m := firstArgMember _ _) (wpAny_of_eq (a := Value.none) (by first | rfl | (simp only [firstArgMember]; rfl)) ?_)
  refine wpAny_newObj_type ?_ (by size_fits)
  simp only [raiseNew]
  refine wpAny_bind (wpAny_handled ?_)
  rw [show A.in1.handled = none from hh]
  refine wpAny_bind (wpAny_pure (wpAny_throw ?_))
  refine wpAny_bind (wpAny_isInstance (T := "StopIteration") (b := true) ⟨_, Heap.get?_push_size _ rfl, rfl⟩ isSubtype_stop ?_)
  exact wpAny_pure (hQ _ (((Heap.SameBut.update ..).extBut.push _).push _))
theorem walkTups (hh : A.handled = none) (I ax : Addr) (hne : ax ≠ I) (items : Array Value) (Ts : Nat → Addr) (vals : Nat → Array Value)
    (hit : ∀ j, j < items.size → items[j]? = some (.ref (Ts j))) (hTI : ∀ j, j < items.size → Ts j ≠ I) :
    WalksU prog w A I (I :: ax :: (List.range items.size).map Ts) [I] items.size (fun j v => v = vals j ∧ j < items.size)
      (fun j h => h.IsListIter I ax j ∧ Sq h ax items ∧ ∀ k, k < items.size → h.IsTuple (Ts k) (vals k))
      (fun j T h => (j < items.size ∧ T = Ts j) ∧ h.IsListIter I ax (j + 1) ∧ Sq h ax items ∧ ∀ k, k < items.size → h.IsTuple (Ts k) (vals k)) where
  sub := fun b hb => by simp at hb; exact mE hb
  frame := fun _ _ _ st hk => ⟨st.1.at fun o e => hk I (by exact m1) o e, st.2.1.at fun o e => hk ax (by exact m2) o e,
    fun k hk' => (st.2.2 k hk').at fun o e => hk (Ts k) (List.mem_cons_of_mem _ (List.mem_cons_of_mem _ (List.mem_map.mpr ⟨k, List.mem_range.mpr hk', rfl⟩))) o e⟩
  item := fun i s Q E hi st hQ => by
    refine next_item st.1 st.2.1 (x := .ref (Ts i)) (hit i hi) fun h' hit' hs' => ?_
    have tup : ∀ k, k < items.size → h'.IsTuple (Ts k) (vals k) := fun k hk' => (st.2.2 k hk').extBut hs'.extBut (hTI k hk')
    exact hQ (Ts i) (vals i) h' s.toks ⟨rfl, hi⟩ (tup i hi) ⟨⟨hi, rfl⟩, hit', st.2.1.at fun o e => hs'.extBut _ _ hne e, tup⟩ fun b o hb e => hs'.extBut b o (fun h => hb (by exact mE h)) e
  go := fun _ _ _ _ _ s Q _ hm hQ => wpAny_letOwnedTupleGo_listiter hm.2.1 (hQ s.heap hm.2 fun _ _ _ e => e)
  apart := fun j T _ hm hmem => by
    rcases List.mem_cons.mp hmem with e | e
    · exact hTI j hm.1.1 (hm.1.2 ▸ e)
    · cases e
  done := fun s Q E st hQ => next_end hh st.1 st.2.1 (by simp) fun h' he' => hQ h' s.toks fun b o hb e => he' b o (fun h => hb (by exact mE h)) e
  self := fun _ _ _ _ st hQ => wpAny_pyIter_listiter st.1 hQ
end
end Mine
end
noncomputable section
open PySem PySem.W PySem.Calls PyProof.Rows Builtin Builtin.ObjectAttr
namespace Mine
section
variable {T : Tabs} {K : Frag} {cd : ClassData} {mg mb : Str → Option Value} {w : World} {A : Around} {s : Shared} {g h₀ h h' : Heap} {W : List Addr} {L : Addr} {m : Str → Option Value} {kn : List (Addr × Obj)} {R : Result → Shared → Prop} {E : Value → Shared → Prop} {prog : Program}
theorem kind_iter : builtinKind "list.__iter__" = some .slot := by rw [builtinKind_eq_fast]; kernel_rfl
theorem split_iter : splitId "list.__iter__" = some ("list", "__iter__") := by kernel_rfl
theorem a_pyIter {x d : Addr} {its : Array Value} {ep : Nat} {Q : Value → Shared → Prop} (G : Gb T K mg mb g) (X : Fx K cd) (S : St T g s.heap) (e : s.heap.get? x = some (accObj 195 d its ep))
    (hQ : Q (.ref s.heap.objs.size) { s with heap := s.heap.push { cls := .type "list_iterator", data := .fields #[.ref x, .int 0 0] } }) : wpAny (model prog w) A (pyIter (.ref x)) Q E s := by
  have Y := S.In G
  have LA := LstAt.acc (M := model prog w) Y X.supC.lst e
  have ty : Looks (model prog w) s.heap (typeOf (.ref x)) (.ref 195) := (Looks.ld e).andThen .now
  have sp : Looks (model prog w) s.heap (specialOf (.ref x) "__iter__") (some (.builtin "list.__iter__")) := ty.andThen (looks_findIn Y X.fIter)
  unfold pyIter
  refine wpAny_bind (sp.here ?_)
  show wpAny _ A (callSpecialIfBoundUnlessNone? _ "__iter__" _ >>= _) Q E s
  refine wpAny_bind ?_
  unfold callSpecialIfBoundUnlessNone? bindSpecialIfBound?
  have call1 : ∀ {Q' : Value → Shared → Prop}, Q' (.ref s.heap.objs.size) { s with heap := s.heap.push { cls := .type "list_iterator", data := .fields #[.ref x, .int 0 0] } } → wpAny (model prog w) A (call (.builtin "list.__iter__") [.ref x]) Q' E s := by
    intro Q' q
    refine wpAny_call (codeAny_call_builtin slot_list_iter.plain entry_list_iter (check_slot (i := "list.__iter__") (owner := "list") (n := "__iter__") (self := .ref x) (rest := []) (kw := []) kind_iter split_iter LA.inst (by exact args_list_iter _) ?_))
    show wpAny _ _ (do ret (← newFields "list_iterator" [.ref x, rawInt 0])) _ _ s
    exact wpAny_bind (wpAny_newObj_type (wpAny_pure q))
  refine wpAny_holding (wpAny_bind (wpAny_bind (sp.here ?_)))
  dsimp only
  rw [slot_list_iter.bind]
  refine wpAny_bind (wpAny_askSetting (wpAny_ite ?_))
  have fin : wpAny (model prog w) A (call (.builtin "list.__iter__") [.ref x] >>= fun v => pure (some v)) (fun r s' => ∃ it, r = some it ∧ it = .ref s.heap.objs.size ∧ s' = { s with heap := s.heap.push { cls := .type "list_iterator", data := .fields #[.ref x, .int 0 0] } }) E s :=
    wpAny_bind (call1 (wpAny_pure ⟨_, rfl, rfl, rfl⟩))
  have fin2 : wpAny (model prog w) A (if (Value.builtin "list.__iter__" == Value.none) = true then ((do rule "iter.none"; raiseError "TypeError" s!"'{← typeNameOf (.ref x)}' object is not iterable") >>= fun v => pure (some v)) else (call (.builtin "list.__iter__") [.ref x] >>= fun v => pure (some v)))
     (fun r s' => ∃ it, r = some it ∧ it = .ref s.heap.objs.size ∧ s' = { s with heap := s.heap.push { cls := .type "list_iterator", data := .fields #[.ref x, .int 0 0] } }) E s := by
    simp only [builtin_beq_none, Bool.false_eq_true, if_false]
    exact fin
  have fin3 := wpAny_mono (Q' := fun (r : Option Value) (s' : Shared) => wpAny (model prog w) A (match r with
      | some it => (do
        match ← specialOf it "__next__" with
        | none => rule "iter.non-iterator"; raiseError "TypeError" s!"iter() returned non-iterator of type '{← typeNameOf it}'"
        | some _ => pure it)
      | none => (do
        match ← bindSpecialIfBound? (.ref x) "__getitem__" with
        | none => rule "iter.not-iterable"; raiseError "TypeError" s!"'{← typeNameOf (.ref x)}' object is not iterable"
        | some _ => rule "iter.getitem-fallback"; newFields "iterator" [.ref x, ← mkInt 0])) Q E s') fin2 (fun r s' h => by
    obtain ⟨it, rfl, rfl, rfl⟩ := h
    exact wpAny_bind (wpAny_specialOf (T := "list_iterator") ⟨_, Heap.get?_push_size _ rfl, rfl⟩ slot_listiter_next.lookup (wpAny_pure hQ))) fun _ _ z => z
  split
  · exact wpAny_bind (wpAny_pure (wpAny_pure fin3))
  · exact wpAny_tryCatch (wpAny_bind (wpAny_pure (wpAny_pure fin3)))
theorem All2.get {α β : Type} {P : α → β → Prop} {l : List α} {l' : List β} (p : All2 P l l') (j : Nat) (hj : j < l.length) : ∃ a b, l[j]? = some a ∧ l'[j]? = some b ∧ P a b := by
  induction p generalizing j with
  | nil => cases hj
  | cons a q ih =>
    cases j with
    | zero => exact ⟨_, _, rfl, rfl, a⟩
    | succ j => simpa using ih j (by simpa using hj)
theorem Parts.tups {its : Array Value} {ps : List (Str × Str)} (p : Parts h its.toList ps) : ∃ (Ts : Nat → Addr) (vals : Nat → Array Value), ∀ j, j < its.size → its[j]? = some (.ref (Ts j)) ∧ h.IsTuple (Ts j) (vals j) ∧
    ∃ q ta tb, ps[j]? = some q ∧ vals j = #[.str q.1 ta, .str q.2 tb] := by
  have : ∀ j, ∃ (t : Addr) (v : Array Value), j < its.size → its[j]? = some (.ref t) ∧ h.IsTuple t v ∧ ∃ q ta tb, ps[j]? = some q ∧ v = #[.str q.1 ta, .str q.2 tb] := by
    intro j
    by_cases hj : j < its.size
    · obtain ⟨a, b, e1, e2, t, ta, tb, e3, e4⟩ := All2.get p j (by simpa using hj)
      refine ⟨t, _, fun _ => ⟨?_, ⟨_, e4, rfl, 0, rfl⟩, b, ta, tb, e2, rfl⟩⟩
      rw [← Array.getElem?_toList, e1, e3]
    · exact ⟨0, #[], fun h => absurd h hj⟩
  exact ⟨fun j => (this j).choose, fun j => (this j).choose_spec.choose, fun j => (this j).choose_spec.choose_spec⟩
theorem passing_all (n : Nat) : passing (fun _ => true) n 0 = List.range n := by
  unfold passing
  simp
end
end Mine
end
noncomputable section
open PySem PySem.W PySem.Calls PyProof.Rows Builtin Builtin.ObjectAttr
namespace Mine
section
variable {T : Tabs} {K : Frag} {cd : ClassData} {mg mb : Str → Option Value} {w : World} {A : Around} {s : Shared} {g h₀ h h' : Heap} {W : List Addr} {L : Addr} {m : Str → Option Value} {kn : List (Addr × Obj)} {R : Result → Shared → Prop} {E : Value → Shared → Prop} {prog : Program}
def GenJ (prog : Program) (w : World) (A : Around) (z a : Addr) (n : Nat) (F : Nat → Value → Prop) (s : Shared) : Prop :=
  ∃ fp wr gi St, WalksS prog w A.in4 a fp wr (GenOnlyQ gi) n F St ∧ St 0 s ∧ (∀ i s', St i s' → s'.TypeIs (.ref a) "generator") ∧ a ∈ fp ∧ (∀ b ∈ fp, b < s.heap.objs.size) ∧ ∀ b ∈ wr, z ≤ b
theorem WalksS.weak {I : Addr} {fp wr : List Addr} {Gs : Array GenState → Array GenState → Prop} {n : Nat} {P P' : Nat → Value → Prop} {St : Nat → Shared → Prop} (W : WalksS prog w A I fp wr Gs n P St) (h : ∀ i v, P i v → P' i v) : WalksS prog w A I fp wr Gs n P' St where
  sub := W.sub
  grefl := W.grefl
  gtrans := W.gtrans
  frame := W.frame
  item := fun i s Q E hi st hQ => W.item i s Q E hi st fun v s' p => hQ v s' (h i v p)
  done := W.done
  self := W.self
set_option maxHeartbeats 2000000 in
theorem j_genT {qual : Str} {fscope : Scope} {f c P : Addr} {fcl : List (Str × Addr)} {elt : Expr} {xa xb : Str} {pa pb pt ip : Pos} {kt : Nat} {scope : Scope} {pos : Pos} {x d : Addr} {its : Array Value} {ep : Nat} {ps : List (Str × Str)} {F : Str × Str → Value → Prop} {Q : Value → Shared → Prop}
    (G : Gb T K mg mb g) (X : Fx K cd) (j : J T g W h₀ L s.heap m kn) (r : Rm A 1) (hm : (c, P) ∈ T) (hx : s.heap.get? x = some (accObj 195 d its ep)) (hp : Parts s.heap its.toList ps)
    (hself : m "self" = some (.ref x))
    (helt : ∀ (A' : Around) E' C code (s₂ : Shared) m₂ (p : Str × Str) ta tb, A'.handled = none → p ∈ ps → K.In s₂.heap → s₂.heap.Ns mainGlobals mg → s₂.heap.Ns builtinsNs mb → s₂.heap.Ns C m₂ → m₂ xa = some (.str p.1 ta) → m₂ xb = some (.str p.2 tb) →
      wpAny (model prog w) A' (eval elt (genEnv scope [] C code builtinsNs (envX qual fscope L f (.ref c) fcl))) (fun y s₃ => F p y ∧ Keeps s₂ s₃) E' s₂)
    (h : ∀ a s', J T g W h₀ L s'.heap m kn → (∀ b o, s.heap.get? b = some o → b ∉ T.map (·.2) → s'.heap.get? b = some o) → Ok s s' → s.heap.objs.size ≤ s'.heap.objs.size →
      GenJ prog w A s.heap.objs.size a ps.length (fun i y => ∃ p, ps[i]? = some p ∧ F p y) s' → Q (.ref a) s')
    (hco : scope.isCoroutine = false := by rfl) (hclos : closureFor scope (envX qual fscope L f (.ref c) fcl) = pure [] := by rfl) (hcell : ∀ y ∈ scope.names, y.2 ≠ .cell := by decide) (h0 : scope.names.lookup (".0" : Str) = some NameKind.local := by rfl)
    (hxa : scope.names.lookup xa = some .local := by rfl) (hxb : scope.names.lookup xb = some .local := by rfl) (hab : xa ≠ xb := by decide) (hkind : scope.kind = .function := by rfl) (hfk : fscope.kind = .function := by rfl)
    (hks : (envX qual fscope L f (.ref c) fcl).kindOf "self" = some .local := by rfl)
    (hs : ∀ x, genFold (.Name "self" ip) (envX qual fscope L f (.ref c) fcl) x = pure x := by intro _; rfl) :
    wpAny (model prog w) A (eval (.GeneratorExp elt [⟨.Tuple [.Name xa pa, .Name xb pb] kt pt, .Name "self" ip, [], 0⟩] scope pos) (envX qual fscope L f (.ref c) fcl)) Q E s := by
  refine wpAny_GeneratorExp_walksQT r.h hco hclos hcell h0 hxa hxb hab hkind r.lt ?_ hs
  refine j_local j hself ?_ hfk hks
  refine a_pyIter G X j.mv.st hx ?_
  have j₂ := j.push { cls := .type "list_iterator", data := .fields #[.ref x, .int 0 0] } rfl
  have hI : (s.heap.push { cls := .type "list_iterator", data := .fields #[.ref x, .int 0 0] }).get? s.heap.objs.size = some { cls := .type "list_iterator", data := .fields #[.ref x, .int 0 0] } := Heap.get?_push_size _ rfl
  have k₂ : ∀ b o, s.heap.get? b = some o → (s.heap.push { cls := .type "list_iterator", data := .fields #[.ref x, .int 0 0] }).get? b = some o := fun b o e => Heap.get?_push_of_some _ e
  have z₂ : (s.heap.push { cls := .type "list_iterator", data := .fields #[.ref x, .int 0 0] }).objs.size = s.heap.objs.size + 1 := Heap.size_push ..
  revert j₂ hI k₂ z₂
  generalize s.heap.push _ = h₂
  generalize hId : s.heap.objs.size = I
  intro j₂ hI k₂ z₂
  have nolim : ∀ {h : Heap}, St T g h → h.NoLimit := fun {h} S => G.nolim.elim fun mc x => ⟨mc, S.ns x.1 G.k3, x.2⟩
  refine ⟨nolim j₂.mv.st, ?_⟩
  refine j_genCode (s := { s with heap := h₂ }) G j₂ hm rfl fun code h₃ t₃ j₃ k₃ l₃ => ?_
  refine j_builtinsFor (s := { s with heap := h₃, toks := t₃ }) G j₃.mv.st ?_
  have hT : ∀ {b : Addr} {o : Obj}, s.heap.get? b = some o → o.cls ≠ .none → b ∉ T.map (·.2) := fun e hc => j.mv.st.notTab e hc
  have kk : ∀ b o, s.heap.get? b = some o → b ∉ T.map (·.2) → h₃.get? b = some o := fun b o e hb => k₃ _ _ (k₂ _ _ e) hb
  have hx₃ : h₃.get? x = some (accObj 195 d its ep) := kk _ _ hx (hT hx (by nofun))
  have hp₃ : Parts h₃ its.toList ps := hp.imp fun v q a => by
    obtain ⟨t, ta, tb, e1, e2⟩ := a
    exact ⟨t, ta, tb, e1, kk _ _ e2 (hT e2 (by nofun))⟩
  obtain ⟨Ts, vals, htv⟩ := Parts.tups hp₃
  have hxI : x ≠ I := by rw [← hId]; exact Nat.ne_of_lt (Heap.lt_size hx)
  have hTI : ∀ j, j < its.size → Ts j ≠ I := by
    intro j hj
    obtain ⟨a, b, e1, e2, t, ta, tb, e3, e4⟩ := All2.get hp j (by simpa using hj)
    have e5 := (htv j hj).1
    rw [← Array.getElem?_toList, e1, e3] at e5
    have : t = Ts j := by cases e5; rfl
    rw [← this, ← hId]
    exact Nat.ne_of_lt (Heap.lt_size e4)
  have hI₃ : h₃.get? I = some { cls := .type "list_iterator", data := .fields #[.ref x, .int 0 0] } := k₃ _ _ hI (j₂.mv.st.notTab hI (by nofun))
  have hlt₃ : ∀ {b o}, h₃.get? b = some o → b < h₃.objs.size := fun e => Heap.lt_size e
  have hlen : its.size = ps.length := by rw [← hp.len, Array.length_toList]
  refine ⟨I, _, _, its.size, _, _, _, (fun _ => true), (fun i y => ∃ p, ps[i]? = some p ∧ F p y), rfl, (fun A' hA => walkTups hA I x hxI its Ts vals (fun j hj => (htv j hj).1) hTI), ?_, ⟨⟨_, hI₃, rfl, rfl⟩, ⟨_, _, hx₃, rfl⟩, fun k hk => (htv k hk).2.1⟩, ?_, nolim j₃.mv.st, ?_, ?_, ?_⟩
  · rintro i v ⟨rfl, hi⟩
    obtain ⟨_, _, q, ta, tb, _, e⟩ := htv i hi
    exact ⟨_, _, e⟩
  · intro b hb
    rcases List.mem_cons.mp hb with rfl | hb
    · exact hlt₃ hI₃
    rcases List.mem_cons.mp hb with rfl | hb
    · exact hlt₃ hx₃
    obtain ⟨k, hk, rfl⟩ := List.mem_map.mp hb
    obtain ⟨o, e, _⟩ := (htv k (List.mem_range.mp hk)).2.1
    exact hlt₃ e
  · intro hb
    have e1 := List.mem_singleton.mp hb
    obtain ⟨mc, ⟨o, es, n, e, _⟩, _⟩ := nolim j.mv.st
    have := Heap.lt_size e
    rw [e1, hId] at this
    exact absurd this (Nat.lt_irrefl _)
  · intro href hk
    have hIb : ∀ {b o}, s.heap.get? b = some o → b ≠ I := fun e => by rw [← hId]; exact Nat.ne_of_lt (Heap.lt_size e)
    have old : ∀ (s₂ : Shared), (∀ b ∈ List.range h₃.objs.size, b ∉ [I] → ∀ o, href.get? b = some o → s₂.heap.get? b = some o) → ∀ b o, s.heap.get? b = some o → b ∉ T.map (·.2) → s₂.heap.get? b = some o := by
      intro s₂ hh b o e hb
      have e3 := kk b o e hb
      exact hh b (List.mem_range.mpr (hlt₃ e3)) (by exact ni1 (hIb e)) o (hk _ _ e3)
    refine ⟨fun A' E' i va vb s₂ m₂ hA hPt hns e1 e2 hh => ?_, fun A' E' i va vb s₂ m₂ hA hPt _ hns e1 e2 hh => ?_⟩
    · exact wpAny_pure ⟨rfl, s₂.heap, s₂.toks, rfl, fun _ _ e => e⟩
    · obtain ⟨hv, hi⟩ := hPt
      obtain ⟨_, _, q, ta, tb, hq, e⟩ := htv i hi
      rw [e] at hv
      have ev : va = .str q.1 ta ∧ vb = .str q.2 tb := by
        have := congrArg Array.toList hv
        simp at this
        exact this
      have O := old s₂ hh
      have nsK : ∀ {a mm}, s.heap.Ns a mm → a ∉ T.map (·.2) → s₂.heap.Ns a mm := by
        intro a mm ⟨o, es, n, e, r⟩ hb
        exact ⟨o, es, n, O _ _ e hb, r⟩
      refine wpAny_mono (helt A' E' _ _ s₂ m₂ q ta tb hA (List.mem_of_getElem? hq) ?_ (nsK (j.mv.st.ns G.mgN G.k1) G.k1) (nsK (j.mv.st.ns G.mbN G.k2) G.k2) hns (by rw [e1, ev.1]) (by rw [e2, ev.2])) (fun y s₃ hy => ⟨⟨q, hq, hy.1⟩, hy.2⟩) fun _ _ z => z
      intro a o e
      refine O a o (j.mv.st.In G a o e) fun hm' => ?_
      obtain ⟨p, hp', rfl⟩ := List.mem_map.mp hm'
      rw [G.kt p hp'] at e; cases e
  · intro a h₅ tk gs hgs ha hz hk₅ W₅ hat
    rw [passing_all] at W₅
    have l₃' : h₂.objs.size ≤ h₃.objs.size := l₃
    have ha' : h₃.objs.size < a := ha
    have z3 : I ≤ h₃.objs.size := by (clear ha' hz ha hlen hxI l₃ hId; lia)
    have kkk : ∀ b o, s.heap.get? b = some o → b ∉ T.map (·.2) → h₅.get? b = some o := fun b o e hb => hk₅ _ _ (kk b o e hb)
    have j₅ : J T g W h₀ L h₅ m kn := (j₃.sub (List.sublist_cons_self _ _)).keeps hk₅ (by (clear z3 l₃' ha hlen hxI l₃ z₂ hId; lia))
    refine h a _ j₅ kkk ⟨rfl, fun ab => AllBare.push (show AllBare s.gens from ab) hgs⟩ (by rw [hId]; show I ≤ h₅.objs.size; (clear z3 ha hlen hxI l₃ hId; lia)) ?_
    rw [hId]
    have W₆ := WalksS.weak (P' := fun i y => ∃ p, ps[i]? = some p ∧ F p y) W₅ (by
      rintro i y ⟨i', e1, e2⟩
      have : i' = i := by
        obtain ⟨hl, e⟩ := List.getElem?_eq_some_iff.mp e1
        simpa using e.symm
      subst this
      exact e2)
    rw [List.length_range, hlen] at W₆
    refine ⟨_, _, _, _, W₆, hlen ▸ hat, (fun i s' st => st.1.typeIs), List.mem_cons_self, ?_, ?_⟩
    · intro b hb
      have key : ∀ b : Nat, b < h₃.objs.size ∨ b = h₃.objs.size ∨ b = a → b < h₅.objs.size := by
        have hz' : h₅.objs.size = a + 1 := hz
        intro b hb
        rcases hb with hb | hb | hb <;> lia
      refine key b ?_
      rcases List.mem_cons.mp hb with e | hb
      · exact .inr (.inr e)
      · rcases List.mem_cons.mp hb with e | hb
        · exact .inr (.inl e)
        · exact .inl (List.mem_range.mp hb)
    · intro b hb
      rcases List.mem_cons.mp hb with rfl | hb
      · exact z3
      · rw [List.mem_singleton.mp hb]; exact Nat.le_refl _
end
end Mine
end
noncomputable section
open PySem PySem.W PySem.Calls PyProof.Rows Builtin Builtin.ObjectAttr
namespace Mine
section
variable {T : Tabs} {K : Frag} {cd : ClassData} {mg mb : Str → Option Value} {w : World} {A : Around} {s : Shared} {g h₀ h h' : Heap} {W : List Addr} {L : Addr} {m : Str → Option Value} {kn : List (Addr × Obj)} {R : Result → Shared → Prop} {E : Value → Shared → Prop} {prog : Program}
theorem slot_lga : Slot "list" "__getattribute__" "list.__getattribute__" :=
  .of (owner := "list") (n := "__getattribute__") (by rw [typeLookup_type, builtinLookup_eq_fast]; kernel_rfl) (by decide +kernel) (by decide +kernel) (by decide +kernel)
    (by first | exact .inl (by decide +kernel) | exact .inr (by decide +kernel)) (by rw [isSubtype_type]; kernel_rfl)
theorem entry_lga : entryFor table "list.__getattribute__" = some Builtin.«object.__getattribute__» :=
  entryFor_alias (id' := "object.__getattribute__") (by kernel_rfl) rfl (by decide +kernel) (by kernel_rfl)
theorem kind_lga : builtinKind "list.__getattribute__" = some .slot := by rw [builtinKind_eq_fast]; kernel_rfl
theorem split_lga : splitId "list.__getattribute__" = some ("list", "__getattribute__") := by kernel_rfl
theorem args_lga (a b : Value) : argsOk "list.__getattribute__" ⟨[a, b], []⟩ := by unfold argsOk; kernel_rfl
theorem oga_eq (self : Value) (name : Str) (tk : Tok) : ∃ k : Builtin.ObjectAttr.Found → Value → Sem Fin, (∀ v tp, k (.value v) tp = ret v) ∧ Builtin.«object.__getattribute__» ⟨[self, .str name tk], []⟩ = (typeOf self >>= fun tp => find self tp name >>= fun r => k r tp) :=
  ⟨_, fun _ _ => rfl, rfl⟩
end
end Mine
end
noncomputable section
open PySem PySem.W PySem.Calls PyProof.Rows Builtin Builtin.ObjectAttr
namespace Mine
section
variable {T : Tabs} {K : Frag} {cd : ClassData} {mg mb : Str → Option Value} {w : World} {A : Around} {s : Shared} {g h₀ h h' : Heap} {W : List Addr} {L : Addr} {m : Str → Option Value} {kn : List (Addr × Obj)} {R : Result → Shared → Prop} {E : Value → Shared → Prop} {prog : Program}
theorem a_attr {expr : Bool} {x d : Addr} {its : Array Value} {ep : Nat} {tk : Tok} {iv : Value} {Q : Value → Shared → Prop} (G : Gb T K mg mb g) (X : Fx K cd) (S : St T g s.heap) (a : AccAt w s.heap x d its ep tk iv) (hv : handedIn iv = true)
    (h : ∀ t', s.toks ≤ t' → Q iv { s with toks := t' }) : wpAny (model prog w) A (getAttr (.ref x) "_initial_size" expr) Q E s := by
  have Y := S.In G
  have I := a.inst
  have f0 : findObj K 195 (some (szD w tk iv)) "_initial_size" = some (.value iv) := findObj_own (by unfold hasDictIn; rw [X.supC.cls]; exact X.hd) X.fSize rfl (by rfl)
  have LL := LstAt.acc (M := model prog w) Y X.supC.lst a.o
  have hi := LL.inst
  obtain ⟨hh, gg, dd, t, os⟩ := s
  dsimp only at Y I hi
  have L0 := I.type (M := model prog w)
  have L1 := looks_findIn (M := model prog w) Y X.ga
  have L2 := looks_findIn (M := model prog w) Y X.gt
  have L3 := looks_find (M := model prog w) Y I f0
  unfold getAttr getAttrBy
  refine wpAny_bind (wpAny_mkText (wpAny_holding (wpAny_bind (L0.at (wpAny_bind (L1.at ?_))))))
  show wpAny _ _ (getAttrByItsOwn _ _ (.ref 195) (.builtin "list.__getattribute__") true expr) _ _ _
  unfold getAttrByItsOwn
  refine wpAny_bind (m := hookBefore (.ref 195)) ?_
  show wpAny _ _ (typeLookup (.ref 195) "__getattr__") _ _ _
  refine L2.at ?_
  refine wpAny_bind (wpAny_attempt (wpAny_holding ?_))
  have e1 : callGetattribute (.ref x) (.str "_initial_size" t) (.builtin "list.__getattribute__") expr = boundAndCalled (.builtin "list.__getattribute__") (.ref x) (.str "_initial_size" t) := by
    cases expr <;> rfl
  rw [e1]
  unfold boundAndCalled
  rw [slot_lga.bind]
  refine wpAny_bind (wpAny_pure ?_)
  refine wpAny_call (codeAny_call_builtin slot_lga.plain entry_lga (check_slot (s := ⟨hh, gg, dd, t + 1, os⟩) (i := "list.__getattribute__") (owner := "list") (n := "__getattribute__") (self := .ref x) (rest := [.str "_initial_size" t]) (kw := []) kind_lga split_lga hi (by exact args_lga _ _) ?_))
  obtain ⟨k, hk, e⟩ := oga_eq (.ref x) "_initial_size" t
  rw [show ([Value.ref x] ++ [Value.str "_initial_size" t]) = [.ref x, .str "_initial_size" t] from rfl, e]
  refine wpAny_bind (L0.at (wpAny_bind (L3.at ?_)))
  rw [hk]
  refine wpAny_pure ?_
  show wpAny _ _ (handedOut iv) _ _ _
  rw [handedOut_of hv]
  exact wpAny_pure (h _ (Nat.le_succ _))
theorem args_sum2 (a b : Value) : argsOk "sum" ⟨[a, b], []⟩ := by unfold argsOk; kernel_rfl
def shiftVal (n0 : Int) (val : Nat → Int) : Nat → Int
  | 0 => n0
  | i + 1 => val i
theorem preSum_shift (n0 : Int) (val : Nat → Int) : ∀ n, preSum (shiftVal n0 val) (n + 1) = n0 + preSum val n
  | 0 => by show (0 : Int) + n0 = n0 + 0; lia
  | n + 1 => by
    show preSum (shiftVal n0 val) (n + 1) + val n = n0 + (preSum val n + val n)
    rw [preSum_shift n0 val n]
    lia
theorem WalksS.shift {I : Addr} {fp wr : List Addr} {Gs : Array GenState → Array GenState → Prop} {n : Nat} {P : Nat → Value → Prop} {St : Nat → Shared → Prop} (W : WalksS prog w A I fp wr Gs n P St) :
    WalksS prog w A I fp wr Gs (n + 1) (fun i v => ∃ j, i = j + 1 ∧ P j v) (fun i s => ∃ j, i = j + 1 ∧ St j s) where
  sub := W.sub
  grefl := W.grefl
  gtrans := W.gtrans
  frame := fun i s h' tk st ht hk => let ⟨j, e, st⟩ := st; ⟨j, e, W.frame j s h' tk st ht hk⟩
  item := fun i s Q E hi st hQ => by
    obtain ⟨j, rfl, st⟩ := st
    exact W.item j s Q E (by exact Nat.le_of_lt_succ hi) st fun v s' p st' mv => hQ v s' ⟨j, rfl, p⟩ ⟨j + 1, rfl, st'⟩ mv
  done := fun s Q E st hQ => by
    obtain ⟨j, e, st⟩ := st
    have : j = n := by lia
    subst this
    exact W.done s Q E st hQ
  self := fun i s Q E st hQ => by
    obtain ⟨j, rfl, st⟩ := st
    exact W.self j s Q E st hQ
theorem call_sum2 {a : Addr} {n : Nat} {z : Addr} {F : Nat → Value → Prop} {n0 : Int} {tk0 : Tok} {Q : Value → Shared → Prop} (Gn : GenJ prog w A z a n F s) (val : Nat → Int) (hval : ∀ i v, F i v → ∃ t, v = .int (val i) t)
    (hQ : ∀ s' t' wr gi, Moved wr (GenOnlyQ gi) s s' → (∀ b ∈ wr, z ≤ b) → Q (.int (n0 + preSum val n) t') s') :
    wpAny (model prog w) A (call (.builtin "sum") [.ref a, .int n0 tk0]) Q E s := by
  obtain ⟨fp, wr, gi, St, W, hst, hty, ha, hfp, hwr⟩ := Gn
  have W := W.in4_1
  refine call_function_tree PySem.F.kind_sum PySem.F.plain_sum PySem.F.entry_sum (args_sum2 _ _) ?_
  unfold Builtin.«sum»
  simp only [List.length_cons, List.length_nil]
  rw [if_neg (by decide)]
  refine wpAny_bind (wpAny_of_eq (show Builtin.Builtins.bindParams "sum" ["start"] 0 ⟨[.int n0 tk0], []⟩ = pure [some (.int n0 tk0)] from rfl) ?_)
  refine wpAny_bind (W.self 0 _ _ _ hst ?_)
  dsimp only
  have hSf : s.heap.objs.size ∉ fp := fun hm => Nat.lt_irrefl _ (hfp _ hm)
  split
  · refine wpAny_bind (wpAny_rule (wpAny_bind (wpAny_mkInt ?_)))
    refine wpAny_bind (wpAny_pure ?_)
    simp only [List.forIn_cons, List.forIn_nil]
    refine wpAny_bind (wpAny_bind (wpAny_bind (wpAny_isInstance (T := "int") (b := false) (typeIs_int _ _ _) PySem.sub_int_str ?_)))
    simp only [Bool.false_eq_true, if_false]
    refine wpAny_pure (wpAny_bind (wpAny_bind (wpAny_isInstance (T := "int") (b := false) (typeIs_int _ _ _) PySem.sub_int_bytes ?_)))
    simp only [Bool.false_eq_true, if_false]
    refine wpAny_pure (wpAny_bind (wpAny_bind (wpAny_isInstance (T := "int") (b := false) (typeIs_int _ _ _) PySem.sub_int_bytearray ?_)))
    simp only [Bool.false_eq_true, if_false]
    refine wpAny_pure (wpAny_pure ?_)
    refine wpAny_bind (wpAny_newObj_type ?_)
    refine wpAny_pure ⟨plainId_quiet PySem.F.plain_sum_loop _, codeAny_sum_loopAnyS (Mine.WalksS.shift W) (shiftVal n0 val) (by rintro i v ⟨j, rfl, p⟩; exact hval j v p) s.heap.objs.size hSf n 1 _ s.toks 0 0 (.inl rfl) (by exact Nat.add_sub_cancel _ _) (by exact Nat.succ_pos _)
      ⟨0, rfl, W.frame 0 s _ _ hst (Nat.le_succ _) fun b _ o e => Heap.get?_push_of_some _ e⟩ ?_ fun s' t' hm => ?_⟩
    · have : preSum (shiftVal n0 val) 1 = n0 := by rw [preSum_shift]; show n0 + 0 = n0; lia
      rw [this]
      exact Heap.get?_push_size _ rfl
    · rw [preSum_shift]
      exact hQ s' t' wr gi (hm.drop_new (Nat.le_succ _)) hwr
  · refine wpAny_bind (wpAny_pure ?_)
    simp only [List.forIn_cons, List.forIn_nil]
    refine wpAny_bind (wpAny_bind (wpAny_bind (wpAny_isInstance (T := "int") (b := false) (typeIs_int _ _ _) PySem.sub_int_str ?_)))
    simp only [Bool.false_eq_true, if_false]
    refine wpAny_pure (wpAny_bind (wpAny_bind (wpAny_isInstance (T := "int") (b := false) (typeIs_int _ _ _) PySem.sub_int_bytes ?_)))
    simp only [Bool.false_eq_true, if_false]
    refine wpAny_pure (wpAny_bind (wpAny_bind (wpAny_isInstance (T := "int") (b := false) (typeIs_int _ _ _) PySem.sub_int_bytearray ?_)))
    simp only [Bool.false_eq_true, if_false]
    refine wpAny_pure (wpAny_pure ?_)
    refine wpAny_bind (wpAny_newObj_type ?_)
    refine wpAny_pure ⟨plainId_quiet PySem.F.plain_sum_loop _, codeAny_sum_loopAnyS (Mine.WalksS.shift W) (shiftVal n0 val) (by rintro i v ⟨j, rfl, p⟩; exact hval j v p) s.heap.objs.size hSf n 1 _ tk0 0 2 (.inr rfl) (by exact Nat.add_sub_cancel _ _) (by exact Nat.succ_pos _)
      ⟨0, rfl, W.frame 0 s _ _ hst (Nat.le_refl _) fun b _ o e => Heap.get?_push_of_some _ e⟩ ?_ fun s' t' hm => ?_⟩
    · have : preSum (shiftVal n0 val) 1 = n0 := by rw [preSum_shift]; show n0 + 0 = n0; lia
      rw [this]
      exact Heap.get?_push_size _ rfl
    · rw [preSum_shift]
      exact hQ s' t' wr gi (hm.drop_new (Nat.le_refl _)) hwr
end
end Mine
end
noncomputable section
open PySem PySem.W PySem.Calls PyProof.Rows Builtin Builtin.ObjectAttr
namespace Mine
section
variable {T : Tabs} {K : Frag} {cd : ClassData} {mg mb : Str → Option Value} {w : World} {A : Around} {s : Shared} {g h₀ h h' : Heap} {W : List Addr} {L : Addr} {m : Str → Option Value} {kn : List (Addr × Obj)} {R : Result → Shared → Prop} {E : Value → Shared → Prop} {prog : Program}
theorem boot_sum' : bootBuiltins "sum" = some (.builtin "sum") := by kernel_rfl
theorem boot_len : bootBuiltins "len" = some (.builtin "len") := by kernel_rfl
def plen (ps : List (Str × Str)) : Int := (ps.map fun p => (p.1.length : Int) + p.2.length).sum
def Small (ps : List (Str × Str)) : Prop := (ps.map fun p => p.1.length + p.2.length).sum ≤ 1000000 ∧ ps.length ≤ 1000
theorem sum_mem {l : List Nat} {a : Nat} (h : a ∈ l) : a ≤ l.sum := by
  induction l with
  | nil => cases h
  | cons b l ih =>
    rw [List.sum_cons]
    rcases List.mem_cons.mp h with rfl | h
    · exact Nat.le_add_right _ _
    · have := ih h; (clear ih; lia)
theorem Small.mem {ps : List (Str × Str)} (z : Small ps) {p : Str × Str} (h : p ∈ ps) : p.1.length + p.2.length ≤ 1000000 :=
  Nat.le_trans (sum_mem (List.mem_map.mpr ⟨p, h, rfl⟩)) z.1
structure Gm (mg : Str → Option Value) : Prop where
  sum : mg "sum" = none
  len : mg "len" = none
  empty : ∃ t, mg "EMPTYSTRING" = some (.str "" t)
  str : mg "str" = none
  range : mg "range" = none
theorem GenJ.later {z a : Addr} {n : Nat} {F : Nat → Value → Prop} {tk : Tok} (x : GenJ prog w A z a n F s) (ht : s.toks ≤ tk) : GenJ prog w A z a n F { s with toks := tk } := by
  obtain ⟨fp, wr, gi, St, W, hst, r⟩ := x
  exact ⟨fp, wr, gi, St, W, W.frame 0 s s.heap tk hst ht fun _ _ _ e => e, r⟩
theorem g_local {C : Addr} {code : Value} {bi : Addr} {env : Env} {scope : Scope} {x : Str} {v : Value} {pos : Pos} {m₂ : Str → Option Value} {Q : Value → Shared → Prop} (hns : s.heap.Ns C m₂) (hv : m₂ x = some v) (h : Q v s)
    (hk : scope.kind = .function := by rfl) (hl : (genEnv scope [] C code bi env).kindOf x = some .local := by rfl) (hd : (x == ("__debug__" : Str)) = false := by decide) :
    wpAny (model prog w) A (eval (.Name x pos) (genEnv scope [] C code bi env)) Q E s := wpAny_Name (wpAny_loadName_local hk hl hns hv h) hd
theorem g_builtin {C : Addr} {code : Value} {env : Env} {scope : Scope} {x : Str} {v : Value} {pos : Pos} {Q : Value → Shared → Prop} (G : Gb T K mg mb g) (hg : s.heap.Ns mainGlobals mg) (hb : s.heap.Ns builtinsNs mb) (hm : mg x = none) (hv : bootBuiltins x = some v) (h : Q v s)
    (hn : x ≠ "__name__" := by decide)
    (hgl : env.globals = mainGlobals := by rfl)
    (hk : scope.kind = .function := by rfl) (hl : (genEnv scope [] C code builtinsNs env).kindOf x = some .globalImplicit := by rfl) (hd : (x == ("__debug__" : Str)) = false := by decide) :
    wpAny (model prog w) A (eval (.Name x pos) (genEnv scope [] C code builtinsNs env)) Q E s := by
  refine Name_function_global hk hl (loadGlobal_builtin (env := genEnv scope [] C code builtinsNs env) (by show s.heap.Ns env.globals mg; rw [hgl]; exact hg) hm hb ((G.boot x hn).trans hv) h) hd
theorem g_global {C : Addr} {code : Value} {env : Env} {scope : Scope} {x : Str} {v : Value} {pos : Pos} {Q : Value → Shared → Prop} (hg : s.heap.Ns mainGlobals mg) (hm : mg x = some v) (h : Q v s)
    (hgl : env.globals = mainGlobals := by rfl)
    (hk : scope.kind = .function := by rfl) (hl : (genEnv scope [] C code builtinsNs env).kindOf x = some .globalImplicit := by rfl) (hd : (x == ("__debug__" : Str)) = false := by decide) :
    wpAny (model prog w) A (eval (.Name x pos) (genEnv scope [] C code builtinsNs env)) Q E s := by
  refine Name_function_global hk hl (loadGlobal_global (env := genEnv scope [] C code builtinsNs env) (by show s.heap.Ns env.globals mg; rw [hgl]; exact hg) hm h) hd
set_option maxHeartbeats 2000000 in
theorem len_spec {x d : Addr} {ps : List (Str × Str)} {n : Int} (G : Gb T K mg mb g) (X : Fx K cd) (GM : Gm mg) (S : St T g s.heap) (r : Rm A 2) (hT : (161, 157) ∈ T)
   (ha : Acc w s.heap x d ps n) (hz : Small ps)
   (hR : ∀ s' tk, Mv T g [] s.heap s'.heap → Ok s s' → R (.ok (.ret (.int (n + plen ps) tk))) s') :
   codeAny (model PR w) A (.call (.ref 162) ⟨[.ref x], []⟩) R s := by
  obtain ⟨oc, od, osl, name, kV, doc, pm, an, ct, ho, hcd⟩ := X.len
  obtain ⟨its, ep, tk0, tn, ha, hp⟩ := ha
  refine' j_call (binds := [("self", .ref x)]) [] [] G S Kn.nil ho hcd r.lt (BindsTo.of_eq rfl) (locs rfl) (by decide) ?_ rfl rfl rfl
  intro L h₁ t₁ j
  have a₁ : AccAt w h₁ x d its ep tk0 (.int n tn) := ⟨j.old ha.o (.inl (by exact ni0)), j.old ha.d (.inl (by exact ni0))⟩
  have p₁ : Parts h₁ its.toList ps := hp.mv S j.mv
  refine wpAny_execs_cons (wpAny_Return_some (Call_ ?_))
  refine j_builtin (s := { s with heap := h₁, toks := t₁ }) G j GM.sum boot_sum' ?_
  refine callWith_method1 (first := []) (args_cons ?_)
  refine j_genT (s := { s with heap := h₁, toks := t₁ }) (F := fun p y => ∃ t, y = .int ((p.1.length : Int) + p.2.length) t) G X j r.deeper hT a₁.o p₁ rfl ?_ ?_
  · intro A' E' C code s₂ m₂ p ta tb hA hmem hK hg hb hns e1 e2
    have hzz := hz.mem hmem
    have hm := GM.len
    refine wpAny_BinOp ?_
    refine Call_ (g_builtin G hg hb hm boot_len ?_)
    refine callWith_method1 (first := []) (args_cons (g_local hns e1 (args_nil ?_)))
    refine PySem.P.len_str (by lia) ?_
    refine Call_ (g_builtin G hg hb hm boot_len ?_)
    refine callWith_method1 (first := []) (args_cons (g_local hns e2 (args_nil ?_)))
    refine PySem.P.len_str (by lia) ?_
    refine PyProof.Rows.add_int ⟨⟨_, rfl⟩, _, _, rfl, fun _ _ e => e⟩
  · intro a s₂ j₂ k₂ ok₂ l₂ gn
    have a₂ : AccAt w s₂.heap x d its ep tk0 (.int n tn) := ⟨j₂.old ha.o (.inl (by exact ni0)), j₂.old ha.d (.inl (by exact ni0))⟩
    refine args_cons (Attribute_name (j_local j₂ rfl ?_))
    refine a_attr G X j₂.mv.st a₂ rfl fun t₃ ht => args_nil ?_
    refine call_sum2 (s := { s₂ with toks := t₃ }) (n0 := n) (z := h₁.objs.size) (gn.later ht) (fun i => ((ps.map fun p => (p.1.length : Int) + p.2.length)).getD i 0) ?_ ?_
    · rintro i v ⟨p, hp1, t, rfl⟩
      exact ⟨t, by simp [List.getD_eq_getElem?_getD, hp1]⟩
    · intro s₃ t₄ wr gi mv hwr
      have j₃ := j.moved (s₁ := { s₂ with toks := t₃ }) j₂ mv hwr
      have := preSum_getD (ps.map fun p => (p.1.length : Int) + p.2.length) ps.length
      rw [List.take_of_length_le (by simp)] at this
      rw [this]
      exact hR _ _ j₃.mv ⟨mv.os.trans ok₂.1, fun ab => mv.gens.bare (ok₂.2 ab)⟩
end
end Mine
end
noncomputable section
open PySem PySem.W PySem.Calls PyProof.Rows Builtin Builtin.ObjectAttr
namespace Mine
section
variable {T : Tabs} {K : Frag} {cd : ClassData} {mg mb : Str → Option Value} {w : World} {A : Around} {s : Shared} {g h₀ h h' : Heap} {W : List Addr} {L : Addr} {m : Str → Option Value} {kn : List (Addr × Obj)} {R : Result → Shared → Prop} {E : Value → Shared → Prop} {prog : Program}
theorem s_meth {name : Str} {id : String} {x : Str} {t : Tok} {pl : Sem Bool} {Q : Value × List Value → Shared → Prop} (slot : Slot "str" name id) (ty : typeOf (.builtin id) = pure (.type "method_descriptor")) (h : Q (.builtin id, [.str x t]) s) :
    wpAny (model prog w) A (getMethod (.str x t) name pl) Q E s := getMethod_builtin (typeIs_str _ _ _) PySem.F.plainAttrs_str slot ty (fun _ e => nomatch e) h
theorem ty_join : typeOf (.builtin "str.join") = pure (.type "method_descriptor") := by show builtinType _ = _; rw [builtinType_eq_fast]; kernel_rfl
theorem Txt_join (sep : Str) (l : List Str) : Txt.join sep l = Str.join sep l := StrLaws.glued_eq_join sep l
def ptext (ps : List (Str × Str)) : Str := Str.join "" (ps.map fun p => Str.join "" [p.1, p.2])
theorem length_empty : ("" : Str).length = 0 := by decide
theorem join2_len (a b : Str) : (Str.join "" [a, b]).length = a.length + b.length := by
  show (a ++ "" ++ b).length = _
  rw [Str.length_append, Str.length_append, length_empty]
  lia
theorem g_newTuple {vs : List Value} {Q : Value → Shared → Prop} (h : ∀ a h', (∀ b o, s.heap.get? b = some o → h'.get? b = some o) → h'.get? a = some (tupObj vs) → Q (.ref a) { s with heap := h' }) (hsz : vs.length ≤ sizeLine := by size_fits) :
    wpAny (model prog w) A (newTuple vs) Q E s := wpAny_newObj_type (h _ _ (fun b o e => Heap.get?_push_of_some _ e) (Heap.get?_push_size _ rfl)) (by show vs.toArray.size ≤ sizeLine; rw [List.size_toArray]; exact hsz)
set_option maxHeartbeats 2000000 in
theorem str_spec {x d : Addr} {ps : List (Str × Str)} {n : Int} (G : Gb T K mg mb g) (X : Fx K cd) (GM : Gm mg) (S : St T g s.heap) (r : Rm A 2) (hT : (168, 164) ∈ T)
   (ha : Acc w s.heap x d ps n) (hz : Small ps)
   (hR : ∀ s' tk, Mv T g [] s.heap s'.heap → Ok s s' → R (.ok (.ret (.str (ptext ps) tk))) s') :
   codeAny (model PR w) A (.call (.ref 169) ⟨[.ref x], []⟩) R s := by
  obtain ⟨oc, od, osl, name, kV, doc, pm, an, ct, ho, hcd⟩ := X.str
  obtain ⟨its, ep, tk0, tn, ha, hp⟩ := ha
  obtain ⟨te, hE⟩ := GM.empty
  refine' j_call (binds := [("self", .ref x)]) [] [] G S Kn.nil ho hcd r.lt (BindsTo.of_eq rfl) (locs rfl) (by decide) ?_ rfl rfl rfl
  intro L h₁ t₁ j
  have a₁ : AccAt w h₁ x d its ep tk0 (.int n tn) := ⟨j.old ha.o (.inl (by exact ni0)), j.old ha.d (.inl (by exact ni0))⟩
  have p₁ : Parts h₁ its.toList ps := hp.mv S j.mv
  refine wpAny_execs_cons (wpAny_Return_some (MethodCall_ ?_))
  refine j_global (s := { s with heap := h₁, toks := t₁ }) G j hE ?_
  refine s_meth PySem.F.slot_str_join ty_join ?_
  refine callWith_method1 (args_cons ?_)
  refine j_genT (s := { s with heap := h₁, toks := t₁ }) (F := fun p y => ∃ t, y = .str (Str.join "" [p.1, p.2]) t) G X j r.deeper hT a₁.o p₁ rfl ?_ ?_
  · intro A' E' C code s₂ m₂ p ta tb hA hmem hK hg hb hns e1 e2
    have hzz := hz.mem hmem
    refine MethodCall_ ?_
    refine g_global hg hE ?_
    refine s_meth PySem.F.slot_str_join ty_join ?_
    refine callWith_method1 (args_cons ?_)
    refine Tuple_ (args_cons (g_local hns e1 (args_cons (g_local hns e2 (args_nil ?_)))))
    refine g_newTuple fun t h₃ k₃ e₃ => args_nil ?_
    refine join_tuple (s := { s₂ with heap := h₃ }) (D := t) (items := #[.str p.1 ta, .str p.2 tb]) (ys := [p.1, p.2]) ⟨_, e₃, rfl, 0, rfl⟩ (.cons _ _ (.cons _ _ .nil)) ?_ ?_
    · rw [length_empty]; simp; exact Nat.le_trans (by assumption) (by decide)
    · intro t' k
      rw [Txt_join]
      exact ⟨⟨_, rfl⟩, _, _, rfl, k₃⟩
  · intro a s₂ j₂ k₂ ok₂ l₂ gn
    refine args_nil ?_
    obtain ⟨fp, wr, gi, St, W, hst, hty, haf, hfp, hwr⟩ := gn
    refine SC.joinGen W.in4_2 hty hst hfp haf ?_ ?_ (by rw [sizeLine_eq]; have := hz.2; exact Nat.le_trans (by assumption) (by decide))
    · rintro i v ⟨p, hp1, t, rfl⟩
      exact ⟨_, _, rfl⟩
    · intro s₃ l mv hl
      have e1 : l.map (·.1) = ps.map fun p => Str.join "" [p.1, p.2] := by
        apply List.ext_getElem?
        intro i
        rw [List.getElem?_map, List.getElem?_map]
        have hsz : l.length = ps.length := by simpa [strValues] using hl.1
        cases q : l[i]? with
        | none =>
          have : ps[i]? = none := by rw [List.getElem?_eq_none_iff] at q ⊢; lia
          rw [this]; rfl
        | some p =>
          obtain ⟨p', hp1, t, e⟩ := hl.2 i (.str p.1 p.2) (by simp [strValues, q])
          rw [hp1]
          injection e with h1 _
          exact congrArg some h1
      have hw : (ps.map fun p => (Str.join "" [p.1, p.2]).length) = ps.map fun p => p.1.length + p.2.length := by
        congr 1; funext p; exact join2_len _ _
      refine ⟨joinOk_of ?_, fun t' k => ?_⟩
      · rw [e1, List.map_map, length_empty, show ((fun (x : Str) => x.length) ∘ fun (p : Str × Str) => Str.join "" [p.1, p.2]) = fun p => (Str.join "" [p.1, p.2]).length from rfl, hw]
        have := hz.1
        exact Nat.le_trans (by assumption) (by decide)
      · rw [e1, Txt_join]
        have j₃ := j.moved j₂ mv hwr
        exact hR _ _ j₃.mv ⟨mv.os.trans ok₂.1, fun ab => mv.gens.bare (ok₂.2 ab)⟩
end
end Mine
end
noncomputable section
open PySem PySem.W PySem.Calls PyProof.Rows Builtin Builtin.ObjectAttr
namespace Mine
section
variable {T : Tabs} {K : Frag} {cd : ClassData} {mg mb : Str → Option Value} {w : World} {A : Around} {s : Shared} {g h₀ h h' : Heap} {W : List Addr} {L : Addr} {m : Str → Option Value} {kn : List (Addr × Obj)} {R : Result → Shared → Prop} {E : Value → Shared → Prop} {prog : Program}
theorem Acc.inst {h : Heap} {x d : Addr} {n : Int} {ps : List (Str × Str)} (a : Acc w h x d ps n) : ∃ ox od, InstAt h x ox 195 (some od) := let ⟨_, _, _, _, a, _⟩ := a; ⟨_, _, a.inst⟩
theorem a_lenB {B : Around} {x d : Addr} {ps : List (Str × Str)} {n : Int} {Q : Fin → Shared → Prop} (G : Gb T K mg mb g) (X : Fx K cd) (GM : Gm mg) (S : St T g s.heap) (r : Rm B 3) (hT : (161, 157) ∈ T)
   (ha : Acc w s.heap x d ps n) (hz : Small ps) (h0 : 0 ≤ n + plen ps) (h1 : n + plen ps ≤ 100000000)
   (hQ : ∀ s' tk, Mv T g [] s.heap s'.heap → Ok s s' → Q (.done (.ret (.int (n + plen ps) tk))) s') : wpAny (model PR w) B (Builtin.«len» ⟨[.ref x], []⟩) Q E s := by
  obtain ⟨ox, od, I⟩ := ha.inst
  unfold Builtin.«len»
  refine wpAny_bind (m := oneArg "len" _) (wpAny_pure ?_)
  refine wpAny_bind (m := callSpecial? (.ref x) (Str.ofString "__len__")) (special_fn (S.In G) I X.fLen (beq_iff_eq.mp (X.keep 162 (by decide)).2) (wpAny_call (len_spec G X GM S (r.mono (by decide)) hT ha hz fun s' tk mv ok => ?_)))
  refine wpAny_bind (wpAny_holding (wpAny_pure ?_))
  refine wpAny_bind (wpAny_letGo ?_)
  show wpAny _ _ (if (n + plen ps) < 0 then _ else _) _ _ _
  rw [if_neg (by exact Int.not_lt.mpr h0)]
  show wpAny _ _ (if (n + plen ps) ≥ 2 ^ 63 then _ else _) _ _ _
  rw [if_neg (by lia)]
  exact wpAny_bind (wpAny_mkInt (wpAny_pure (hQ _ _ mv ok)))
theorem a_len {x d : Addr} {ps : List (Str × Str)} {n : Int} {Q : Value → Shared → Prop} (G : Gb T K mg mb g) (X : Fx K cd) (GM : Gm mg) (S : St T g s.heap) (r : Rm A 4) (hT : (161, 157) ∈ T)
   (ha : Acc w s.heap x d ps n) (hz : Small ps) (h0 : 0 ≤ n + plen ps) (h1 : n + plen ps ≤ 100000000)
   (hQ : ∀ s' tk, Mv T g [] s.heap s'.heap → Ok s s' → Q (.int (n + plen ps) tk) s') : wpAny (model PR w) A (call (.builtin "len") [.ref x]) Q E s := by
  refine Calls.call_function_entry kind_len plain_len entry_len (args_len1 _) ?_
  exact a_lenB G X GM S (r.in1.mono (by decide)) hT ha hz h0 h1 fun s' tk mv ok => ⟨_, rfl, hQ _ _ mv ok⟩
theorem a_truthy (X : Fx K cd) {x d : Addr} {ps : List (Str × Str)} {n : Int} {Q : Bool → Shared → Prop} (G : Gb T K mg mb g) (GM : Gm mg) (S : St T g s.heap) (r : Rm A 4) (hT : (161, 157) ∈ T)
   (ha : Acc w s.heap x d ps n) (hz : Small ps) (h0 : 0 ≤ n + plen ps) (h1 : n + plen ps ≤ 100000000)
   (hQ : ∀ s', Mv T g [] s.heap s'.heap → Ok s s' → Q (n + plen ps != 0) s') : wpAny (model PR w) A (truthy (.ref x)) Q E s := by
  obtain ⟨ox, od, I⟩ := ha.inst
  have Y := S.In G
  unfold truthy
  refine wpAny_bind (m := callSpecial? (.ref x) (Str.ofString "__bool__")) (wpAny_bind (wpAny_bind (I.type.here ((looks_findIn Y X.fBool).here (wpAny_pure ?_)))))
  refine wpAny_bind (wpAny_bind (I.type.here ((looks_findIn Y X.fLen).here ?_)))
  refine wpAny_bind (wpAny_runValue (codeAny_builtin entry_len ?_))
  rw [Around.under_plainId plain_len _]
  exact a_lenB G X GM S (r.in1.mono (by decide)) hT ha hz h0 h1 fun s' tk mv ok => wpAny_pure (hQ _ mv ok)
theorem a_strcall {x d : Addr} {ps : List (Str × Str)} {n : Int} {Q : Value → Shared → Prop} (G : Gb T K mg mb g) (X : Fx K cd) (GM : Gm mg) (S : St T g s.heap) (r : Rm A 4) (hT : (168, 164) ∈ T)
   (ha : Acc w s.heap x d ps n) (hz : Small ps)
   (hQ : ∀ s' tk, Mv T g [] s.heap s'.heap → Ok s s' → Q (.str (ptext ps) tk) s') : wpAny (model PR w) A (call (.type "str") [.ref x]) Q E s := by
  obtain ⟨ox, od, I⟩ := ha.inst
  exact kso_call r.in1.in1.room (S.In G) I X.fStr (X.keep 169 (by decide)).2 (wpAny_call (str_spec G X GM S (r.in1.in1.mono (by decide)) hT ha hz fun s' tk mv ok => hQ _ _ mv ok))
theorem boot_str : bootBuiltins "str" = some (.type "str") := by kernel_rfl
def onlyB (ps : List (Str × Str)) (n : Int) : Bool := n == 0 && (plen ps == 0 || Txt.isspace (ptext ps))
set_option maxHeartbeats 2000000 in
theorem only_spec {x d : Addr} {ps : List (Str × Str)} {n : Int} (G : Gb T K mg mb g) (X : Fx K cd) (GM : Gm mg) (S : St T g s.heap) (r : Rm A 6) (hT : (161, 157) ∈ T) (hT2 : (168, 164) ∈ T)
   (ha : Acc w s.heap x d ps n) (hz : Small ps) (h0 : 0 ≤ n + plen ps) (h1 : n + plen ps ≤ 100000000)
   (hR : ∀ s', Mv T g [] s.heap s'.heap → Ok s s' → R (.ok (.ret (.bool (onlyB ps n)))) s') :
   codeAny (model PR w) A (.call (.ref 184) ⟨[.ref x], []⟩) R s := by
  obtain ⟨oc, od, osl, name, kV, doc, pm, an, ct, ho, hcd⟩ := X.only
  refine' j_call (binds := [("self", .ref x)]) [] [] G S Kn.nil ho hcd r.lt (BindsTo.of_eq rfl) (locs rfl) (by decide) ?_ rfl rfl rfl
  intro L h₁ t₁ j
  have a₁ : Acc w h₁ x d ps n := ha.mv S j.mv (by exact ni0) (by exact ni0)
  obtain ⟨its, ep, tk0, tn, a₁', p₁⟩ := id a₁
  refine wpAny_execs_cons (wpAny_Return_some (BoolOp_and (wpAny_Compare1 ?_)))
  refine Attribute_name (j_local (s := { s with heap := h₁, toks := t₁ }) j rfl ?_)
  refine a_attr (s := { s with heap := h₁, toks := t₁ }) G X j.mv.st a₁' rfl fun t₂ ht => ?_
  refine wpAny_Constant_int (eq_int (wpAny_truthy_bool ?_))
  cases hn : n == 0 with
  | false =>
    rw [if_neg (by simp)]
    have := hR { s with heap := h₁, toks := t₂ + 1 } j.mv (Ok.heap)
    unfold onlyB at this
    rw [hn, Bool.false_and] at this
    exact this
  | true =>
    rw [if_pos rfl]
    refine BoolOp_one (BoolOp_or (wpAny_UnaryOp ?_))
    refine j_local (s := { s with heap := h₁, toks := t₂ + 1 }) j rfl ?_
    refine not_of ?_
    refine a_truthy (s := { s with heap := h₁, toks := t₂ + 1 }) X G GM j.mv.st (r.deeper.mono (by decide)) hT a₁ hz h0 h1 fun s₃ mv₃ ok₃ => wpAny_truthy_bool ?_
    have j₃ : J T g [] s.heap L s₃.heap _ [] := j.call0 mv₃
    have a₃ : Acc w s₃.heap x d ps n := a₁.mv j.mv.st mv₃ (by exact ni0) (by exact ni0)
    have ok₃' : Ok s s₃ := ⟨ok₃.1, ok₃.2⟩
    have n0 : n = 0 := by simpa using hn
    cases hp : plen ps == 0 with
    | true =>
      have e1 : (!(n + plen ps != 0)) = true := by
        have : plen ps = 0 := by simpa using hp
        rw [n0, this]; rfl
      rw [e1, if_pos rfl]
      have := hR s₃ j₃.mv ok₃'
      unfold onlyB at this
      rw [hn, hp] at this
      exact this
    | false =>
      have e1 : (!(n + plen ps != 0)) = false := by
        have : plen ps ≠ 0 := by simpa using hp
        simp [n0, this]
      rw [e1, if_neg (by simp)]
      refine BoolOp_one (MethodCall_ (Call_ ?_))
      refine j_builtin (s := s₃) G j₃ GM.str boot_str ?_
      refine PyProof.Rows.callWith_type1 (args_cons (j_local (s := s₃) j₃ rfl (args_nil ?_)))
      refine a_strcall G X GM j₃.mv.st (r.deeper.mono (by decide)) hT2 a₃ hz fun s₄ t₄ mv₄ ok₄ => ?_
      refine s_meth PySem.F.slot_str_isspace PySem.F.type_str_isspace (callWith_method0 (SC.isspace ?_))
      have := hR s₄ (j₃.call0 mv₄).mv (ok₃'.trans ok₄)
      unfold onlyB at this
      rw [hn, hp] at this
      exact this
end
end Mine
end
noncomputable section
open PySem PySem.W PySem.Calls PyProof.Rows Builtin Builtin.ObjectAttr
namespace Mine
section
variable {T : Tabs} {K : Frag} {cd : ClassData} {mg mb : Str → Option Value} {w : World} {A : Around} {s : Shared} {g₀ h₀ h' : Heap} {W : List Addr} {L C : Addr} {m : Str → Option Value} {kn : List (Addr × Obj)} {R : Result → Shared → Prop} {E : Value → Shared → Prop} {prog : Program}
  {h : Heap} {g : Array GenState} {d : Drawn} {t : Nat} {os : OsState}
def makesL (K : Frag) (C : Addr) : Bool := match K.lookup C with
  | some ⟨_, _, .cls cd, sl⟩ => !cd.abstract && !cd.hasDel && (sl.toList[4]?).join == some (.builtin "list.__new__") && cd.mro == [.ref C, .type "list", .type "object"] &&
      specialIn K (.ref C) "__call__" == some (some (.builtin "type.__call__")) && instIn K (.ref C) (.type "type") == some true
  | _ => false
structure MakesL (M : Model) (h : Heap) (C : Addr) : Prop where
  obj : ∃ oc od cd sl, h.get? C = some ⟨oc, od, .cls cd, sl⟩ ∧ cd.abstract = false ∧ cd.hasDel = false ∧ cd.mro.isEmpty = false
  made : Looks M h (Bind.madeBy (.ref C)) (some "list.__new__")
  base : Looks M h (Bind.staticBase (.ref C)) (.ref C)
  self : Looks M h (isSubtype (.ref C) (.ref C)) true
  lst : Looks M h (isSubtype (.ref C) (.type "list")) true
  call : Looks M h (specialOf (.ref C) "__call__") (some (.builtin "type.__call__"))
  typ : Looks M h (isInstance (.ref C) (.type "type")) true
theorem makesL_of {M : Model} (X : K.In h) (e : makesL K C = true) : MakesL M h C := by
  unfold makesL at e
  split at e
  · rename_i oc od cd sl ho
    simp only [Bool.and_eq_true, Bool.not_eq_true', beq_iff_eq] at e
    obtain ⟨⟨⟨⟨⟨e1, e2⟩, e3⟩, e4⟩, e7⟩, e8⟩ := e
    have hc : clsIn K C = some cd := by unfold clsIn; rw [ho]
    have hm : Looks M h (mroOf (.ref C)) cd.mro := (looks_clsIn X hc).andThen .now
    have ne : cd.mro.isEmpty = false := by rw [e4]; rfl
    have made : Looks M h (Bind.madeBy (.ref C)) (some "list.__new__") := by
      intro A Q E s k q
      unfold Bind.madeBy
      refine wpAny_bind (hm A _ E s k ?_)
      rw [e4, List.forIn_cons]
      refine wpAny_bind (wpAny_bind (wpAny_bind (wpAny_bind (wpAny_loadPart (k _ _ (X _ _ ho)) (wpAny_pure ?_)))))
      dsimp only
      rw [← Array.getElem?_toList, e3]
      exact wpAny_pure (wpAny_pure (wpAny_pure q))
    refine ⟨⟨oc, od, cd, sl, X _ _ ho, e1, e2, ne⟩, made, ?_, looks_mroIn X ?_, looks_mroIn X ?_, looks_specialIn X e7, looks_instIn X e8⟩
    · intro A Q E s k q
      unfold Bind.staticBase
      refine wpAny_bind (hm A _ E s k ?_)
      rw [e4, List.forIn_cons]
      exact wpAny_bind (wpAny_bind (wpAny_bind (made A _ E s k (wpAny_pure (wpAny_pure (wpAny_pure q))))))
    · unfold mroIn; rw [hc, Option.bind_some, if_neg (by rw [ne]; decide), e4]; simp
    · unfold mroIn; rw [hc, Option.bind_some, if_neg (by rw [ne]; decide), e4]; exact rfl
  · cases e
theorem ln_kind : builtinKind "list.__new__" = some .builtinFn := by rw [builtinKind_eq_fast]; kernel_rfl
theorem ln_split : splitId "list.__new__" = some ("list", "__new__") := by kernel_rfl
theorem ln_args (C : Addr) (rest : List Value) (kw : List (Str × Value)) : ∃ sig, Manifest.signature? "list.__new__" = some sig ∧ Bind.checkArgs "list.__new__" sig ⟨.ref C :: rest, kw⟩ = pure () :=
  ⟨⟨.any, "list", "list", .cls, [⟨"args", .varPos, false⟩, ⟨"kwargs", .varKw, false⟩]⟩, by kernel_rfl, by kernel_rfl⟩
theorem new_L {rest : List Value} {kw : List (Str × Value)} (Y : MakesL (model prog w) h C)
    (hq : R (.ok (.ret (.ref (h.objs.size + 1)))) ⟨(h.push emptyDict).push (accObj C h.objs.size #[] 0), g, d, t, os⟩) :
    codeAny (model prog w) A (.call (.builtin "list.__new__") ⟨.ref C :: rest, kw⟩) R ⟨h, g, d, t, os⟩ := by
  obtain ⟨⟨oc, od, cd, sl, hC, e1, e2, e4⟩, made, base, self, lst, call, typ⟩ := Y
  obtain ⟨sig, hsig, hargs⟩ := ln_args C rest kw
  have ty : Looks (model prog w) h (isType (.ref C)) true := (Looks.ld (part := none) hC).andThen .now
  refine codeAny_call_builtin_code (Code.quiet_builtin _ (by decide +kernel)) ?_
  simp only [checkBuiltinCall, ln_kind, ln_split, hsig]
  rw [hargs]
  repeat (first | simp only [bne_self_eq_false, Bool.false_eq_true, if_false] | lk)
  refine codeAny_builtin_stack PySem.F.entry_list_new rfl fun p st => ?_
  rw [Around.under_plainId PySem.F.plain_list_new _]
  have hown := owner_list_new
  simp only [hown]
  refine wpAny_bind (ty.at ?_)
  refine wpAny_bind (lst.at ?_)
  refine wpAny_bind (wpAny_pure ?_)
  show wpAny _ _ (newDict >>= _) _ _ _
  unfold newDict
  refine wpAny_bind (wpAny_newObj_type ?_ (by size_fits))
  show wpAny _ _ (newObj (.ref C) (.seq #[]) (some h.objs.size) >>= _) _ _ _
  refine wpAny_bind ?_
  show wpAny _ _ (newObjAsIs (.ref C) (.seq #[]) (some h.objs.size)) _ _ _
  unfold newObjAsIs classHasDel
  refine wpAny_bind (wpAny_alloc (wpAny_bind (wpAny_bind (wpAny_load (Heap.get?_push_of_some _ (Heap.get?_push_of_some _ hC)) (wpAny_pure ?_)))))
  rw [e2]
  refine wpAny_pure (wpAny_pure ?_)
  show R _ _
  rw [Heap.size_push]
  exact hq
theorem make_L {rest : List Value} {kw : List (Str × Value)} {init : Value} (Y : MakesL (model prog w) h C) (hi : Looks (model prog w) h (typeLookup (.ref C) "__init__") (some init))
    (hb : ∀ self, Looks (model prog w) h (bindSpecial init self) (init, [self])) (hnw : Looks (model prog w) h (typeLookup (.ref C) "__new__") (some (.builtin "list.__new__")))
    (hq : codeAny (model prog w) (A.under (.builtin "type.__call__" ⟨.ref C :: rest, kw⟩)) (.call init ⟨.ref (h.objs.size + 1) :: rest, kw⟩) (InitBack (h.objs.size + 1) R) ⟨(h.push emptyDict).push (accObj C h.objs.size #[] 0), g, d, t, os⟩) :
    codeAny (model prog w) A (.call (.ref C) ⟨rest, kw⟩) R ⟨h, g, d, t, os⟩ := by
  have Y' := Y
  obtain ⟨⟨oc, od, cd, sl, hC, e1, e2, e4⟩, made, base, self, top, call, typ⟩ := Y
  refine codeAny_of_tree ?_
  show wpAny _ _ (callAny (.ref C) _) _ _ _
  refine nd_load hC ?_
  show wpAny _ _ (callAny.viaDunder (.ref C) _) _ _ _
  unfold callAny.viaDunder
  refine wpAny_bind (call.at ?_)
  dsimp only
  rw [tc_bind]
  refine wpAny_bind (wpAny_pure (wpAny_bind (wpAny_pure ?_)))
  refine wpAny_pure (a := Fin.again (.call (.builtin "type.__call__") ⟨.ref C :: rest, kw⟩)) (And.intro rfl ?_)
  refine codeAny_call_builtin_at (Code.quiet_builtin _ (by decide +kernel)) entry_typeCall (check_slot tc_kind tc_split typ (tc_args _ _ _) ?_)
  unfold Builtin.«type.__call__»
  have hm : Looks (model prog w) h (mroOf (.ref C)) cd.mro := ((Looks.ld (part := none) hC).andThen .now).andThen .now
  repeat (first | simp only [e4, Bool.false_eq_true, if_false] | with_reducible refine wpAny_call ?_ | lk)
  refine new_L Y' ?_
  have k : ∀ b o, h.get? b = some o → ((h.push emptyDict).push (accObj C h.objs.size #[] 0)).get? b = some o := fun b o e => Heap.get?_push_of_some _ (Heap.get?_push_of_some _ e)
  have hx : ((h.push emptyDict).push (accObj C h.objs.size #[] 0)).get? (h.objs.size + 1) = some (accObj C h.objs.size #[] 0) := by heap_get
  have t1 : Looks (model prog w) ((h.push emptyDict).push (accObj C h.objs.size #[] 0)) (typeOf (.ref (h.objs.size + 1))) (.ref C) := (Looks.ld hx).andThen .now
  have s1 := self.keeps k
  have i1 := hi.keeps k
  have b1 := (hb (.ref (h.objs.size + 1))).keeps k
  unfold isInstance callSpecial? specialOf
  repeat (first | with_reducible refine wpAny_call ?_ | lk)
  refine codeAny_mono hq fun r s' z => ?_
  rcases r with e | (v | _ | _ | _) <;> first | exact z | exact z.elim | skip
  obtain ⟨rfl, z⟩ := z
  exact wpAny_pure (wpAny_pure z)
end
end Mine
end
noncomputable section
open PySem PySem.W PySem.Calls PyProof.Rows Builtin Builtin.ObjectAttr
namespace Mine
section
variable {T : Tabs} {K : Frag} {cd : ClassData} {mg mb : Str → Option Value} {w : World} {A : Around} {s : Shared} {g h₀ h h' : Heap} {W : List Addr} {L C : Addr} {m : Str → Option Value} {kn : List (Addr × Obj)} {R : Result → Shared → Prop} {E : Value → Shared → Prop} {prog : Program}
theorem init_code {a : Addr} {o : Obj} {its : Array Value} {ep : Nat} (ho : s.heap.get? a = some o) (hd : o.data = .seq its ep) (hsz : its.size ≤ sizeLine)
    (h : R (.ok (.ret .none)) { s with heap := s.heap.update a (Obj.mapSeq fun _ => #[]) }) : codeAny (model prog w) A (.builtin "list.__init__" ⟨[.ref a], []⟩) R s := by
  refine codeAny_builtin PySem.F.entry_list_init ?_
  show wpAny _ _ (List.listItems (.ref a) >>= _) _ _ s
  unfold List.listItems
  refine wpAny_bind (wpAny_bind (wpAny_seqItems ho hd (wpAny_pure ?_)))
  refine wpAny_bind (m := updateSeq a _) (wpAny_updateSeq ho hd (wpAny_bind (wpAny_letGo (wpAny_pure h))) hsz ?_)
  simp
theorem lookIn_empty {name : Str} : lookIn name emptyDict = some none := rfl
theorem put_empty (tk : Tok) (v : Value) : Obj.putName "_initial_size" (PyData.keyHash w.params "_initial_size") (.str "_initial_size" tk) v emptyDict = szD w tk v := rfl
set_option maxHeartbeats 2000000 in
theorem init_spec {x d : Addr} {n : Int} {args : Args} {tk : Tok} (G : Gb T K mg mb g) (X : Fx K cd) (S : St T g s.heap) (r : Rm A 2)
   (hx : s.heap.get? x = some (accObj 195 d #[] 0)) (hd : s.heap.get? d = some emptyDict) (hne : x ≠ d) (hxg : g.objs.size ≤ x) (hdg : g.objs.size ≤ d)
   (hb : ∀ fd, fd.params = fArgs (inCls 6 0) → fd.defaults = .ref 124 → BindsTo s fd args [("self", .ref x), ("initial_size", .int n tk)])
   (hR : ∀ h' tk, Mv T g [x, d] s.heap h' → Acc w h' x d [] n → R (.ok (.ret .none)) { s with heap := h', toks := tk }) :
   codeAny (model PR w) A (.call (.ref 132) args) R s := by
  obtain ⟨oc, od, osl, name, kV, doc, pm, an, ct, ho, hcd⟩ := X.init
  refine' j_callAt (binds := [("self", .ref x), ("initial_size", .int n tk)]) [x, d] [(x, accObj 195 d #[] 0), (d, emptyDict)] G S ?hkn ho hcd r.lt (hb _ rfl rfl) (locs rfl) (by decide) ?_ rfl rfl rfl
  case hkn =>
    refine ⟨fun p hp => ?_, by simp [hne]⟩
    rcases List.mem_cons.mp hp with rfl | hp
    · exact ⟨hx, S.notTab hx (by nofun), hxg⟩
    · rw [List.mem_singleton.mp hp]; exact ⟨hd, S.notTab hd (by nofun), hdg⟩
  intro L h₁ t₁ j
  refine ks_wpAt_execs_cons (ks_wpAt_Assign_Attr (wpAt_of_wpAny ?_))
  refine j_local (s := { s with heap := h₁, toks := t₁ }) j rfl ?_
  refine j_local (s := { s with heap := h₁, toks := t₁ }) j rfl ?_
  have I : InstAt h₁ x (accObj 195 d #[] 0) 195 (some emptyDict) := ⟨j.get (.head _), rfl, rfl, j.get (.tail _ (.head _))⟩
  refine j_setattr (s := { s with heap := h₁, toks := t₁ }) (dx := d) (j.mv.st.In G) I rfl X.fSetattr X.over X.taker (by rw [lookIn_empty]; rfl) ?_ ?_
  · intro tk
    exact ⟨_, _, _, put_empty (w := w) tk _, rfl, by simp, rfl⟩
  intro tk2 t'
  have j₂ := j.update 1 rfl (.inl (.tail _ (.head _))) (by exact tnD) (put_empty (w := w) tk2 (.int n tk)) rfl
  revert j₂
  generalize h₁.update d _ = h₂
  intro j₂
  refine ks_wpAt_execs_cons (ks_wpAt_Expr_any ?_)
  refine j_super (s := { s with heap := h₂, toks := t' }) (id := "list.__init__") G j₂ X.supI ho rfl rfl (j₂.get (.head _)) rfl rfl X.alI (fun h => gets_init) (.inr rfl)
    (fun s _ _ A E Q hq => by rw [ck_init]; exact wpAny_pure hq) PySem.F.slot_list_init.plain (ne_cls (s := s) G S hx rfl X.supC.cls)
    (fun h₃ t₃ j₃ k₃ => ?_) rfl rfl rfl rfl
  obtain ⟨ep', ee⟩ := mapSeq_acc 195 d #[] #[] 0 (fun _ => #[]) rfl
  have j₄ := j₃.update 0 rfl (.inl (.head _)) (by exact tnA) ee rfl
  refine init_code (s := { s with heap := h₃, toks := t₃ }) (j₃.get (.head _)) rfl (by simp) ?_
  exact wpAt_of_wpAny (wpAny_execs_nil (hR _ _ j₄.mv ⟨_, _, _, _, ⟨j₄.get (.head _), j₄.get (.tail _ (.head _))⟩, .nil⟩))
end
end Mine
end
noncomputable section
open PySem PySem.W PySem.Calls PyProof.Rows Builtin Builtin.ObjectAttr
namespace Mine
section
variable {T : Tabs} {K : Frag} {cd : ClassData} {mg mb : Str → Option Value} {w : World} {A : Around} {s : Shared} {g h₀ h h' : Heap} {W : List Addr} {L C : Addr} {m : Str → Option Value} {kn : List (Addr × Obj)} {R : Result → Shared → Prop} {E : Value → Shared → Prop} {prog : Program}
theorem mk_weight (C : Addr) (rest : List Value) (kw : List (Str × Value)) : (Code.builtin "type.__call__" ⟨.ref C :: rest, kw⟩).weight = 1 := by kernel_rfl
theorem mk_units (C : Addr) (rest : List Value) (kw : List (Str × Value)) : (Code.builtin "type.__call__" ⟨.ref C :: rest, kw⟩).cUnits ≤ 10 := by
  have : (Code.builtin "type.__call__" ⟨.ref C :: rest, kw⟩).cUnits = 1 := by kernel_rfl
  exact Nat.succ_pos _
theorem Rm.make {n : Nat} {rest : List Value} {kw : List (Str × Value)} (r : Rm A (n + 1)) : Rm (A.under (.builtin "type.__call__" ⟨.ref C :: rest, kw⟩)) n := by
  refine ⟨?_, r.h, ?_⟩
  · have := r.d
    show A.depth + (Code.builtin "type.__call__" ⟨.ref C :: rest, kw⟩).weight + n ≤ 900
    rw [mk_weight]
    lia
  · have := r.u
    have := mk_units C rest kw
    show A.units + (Code.builtin "type.__call__" ⟨.ref C :: rest, kw⟩).cUnits + 10 * n ≤ 9000
    lia
theorem acc_new {rest : List Value} {n : Int} {tk : Tok} (G : Gb T K mg mb g) (X : Fx K cd) (XM : makesL K 195 = true) (S : St T g s.heap) (r : Rm A 3)
   (hb : ∀ x (s' : Shared) fd, K.In s'.heap → fd.params = fArgs (inCls 6 0) → fd.defaults = .ref 124 → BindsTo s' fd ⟨.ref x :: rest, []⟩ [("self", .ref x), ("initial_size", .int n tk)])
   (hR : ∀ x d h' tk, Mv T g [] s.heap h' → Acc w h' x d [] n → s.heap.get? x = none → s.heap.get? d = none → g.objs.size ≤ x → g.objs.size ≤ d → R (.ok (.ret (.ref x))) { s with heap := h', toks := tk }) :
   codeAny (model PR w) A (.call (.ref 195) ⟨rest, []⟩) R s := by
  obtain ⟨hh, gg, dd, tt, os⟩ := s
  dsimp only at S
  have Y := S.In G
  refine make_L (makesL_of Y XM) (looks_findIn Y X.fInit) (fun self => bind_fn Y self (beq_iff_eq.mp (X.keep 132 (by decide)).2)) (looks_findIn Y X.fNew) ?_
  have S₂ : St T g ((hh.push emptyDict).push (accObj 195 hh.objs.size #[] 0)) := (S.push _).push _
  have hx : ((hh.push emptyDict).push (accObj 195 hh.objs.size #[] 0)).get? (hh.objs.size + 1) = some (accObj 195 hh.objs.size #[] 0) := by heap_get
  have hd : ((hh.push emptyDict).push (accObj 195 hh.objs.size #[] 0)).get? hh.objs.size = some emptyDict := by heap_get
  have nn : ∀ b, hh.objs.size ≤ b → hh.get? b = none := fun b hb => Heap.get?_none_of_le hb
  refine init_spec (s := ⟨_, gg, dd, tt, os⟩) G X S₂ (r.make.mono (by decide)) hx hd (Nat.succ_ne_self _) (Nat.le_succ_of_le S.le) S.le (fun fd h1 h2 => hb _ _ fd (S₂.In G) h1 h2) fun h' tk mv a => ?_
  refine ⟨rfl, ?_⟩
  have mv0 : Mv T g [] hh ((hh.push emptyDict).push (accObj 195 hh.objs.size #[] 0)) := ⟨S₂, fun b o e _ _ => Heap.get?_push_of_some _ (Heap.get?_push_of_some _ e), fun b o e => ⟨o, Heap.get?_push_of_some _ (Heap.get?_push_of_some _ e)⟩⟩
  refine hR _ _ h' tk (mv0.trans mv fun b hb => ?_) a (nn _ (Nat.le_succ _)) (nn _ (Nat.le_refl _)) (Nat.le_succ_of_le S.le) S.le
  rcases List.mem_cons.mp hb with rfl | hb
  · exact .inr (nn _ (Nat.le_succ _))
  · rw [List.mem_singleton.mp hb]; exact .inr (nn _ (Nat.le_refl _))
end
end Mine
end
noncomputable section
open PySem PySem.W PySem.Calls PyProof.Rows Builtin Builtin.ObjectAttr
namespace Mine
section
variable {T : Tabs} {K : Frag} {cd : ClassData} {mg mb : Str → Option Value} {w : World} {A : Around} {s : Shared} {g h₀ h h' : Heap} {W : List Addr} {L C : Addr} {m : Str → Option Value} {kn : List (Addr × Obj)} {R : Result → Shared → Prop} {E : Value → Shared → Prop} {prog : Program}
end
end Mine
end
noncomputable section
open PySem PySem.W PySem.Calls PyProof.Rows Builtin Builtin.ObjectAttr
namespace Mine
structure Fv (K : Frag) : Prop where
  init : FnAt K 52 (inCls 5 0) "_ValueFormatter.__init__" [] .none 51
  str : FnAt K 59 (inCls 5 1) "_ValueFormatter._str" [] .none 58
  newline : FnAt K 73 (inCls 5 3) "_ValueFormatter.newline" [] .none 72
  chunk : FnAt K 108 (inCls 5 8) "_ValueFormatter._append_chunk" [] .none 107
  plain : plainGet K 111 "" = true
  hd : hasDictIn K 111 = true
  over : plainOver K 111 = true
  hdc : (clsIn K 111).any (·.hasDict) = true
  sa : findIn K (.ref 111) "__setattr__" = some (some (.builtin "object.__setattr__"))
  no : ∀ n ∈ [("_maxlen" : Str), "_continuation_ws", "_continuation_ws_len", "_splitchars", "_lines", "_current_line"], findIn K (.ref 111) n = some none
  fInit : findIn K (.ref 111) "__init__" = some (some (.ref 52))
  fStr : findIn K (.ref 111) "_str" = some (some (.ref 59))
  fNewline : findIn K (.ref 111) "newline" = some (some (.ref 73))
  fChunk : findIn K (.ref 111) "_append_chunk" = some (some (.ref 108))
  keep : ∀ f ∈ [(52 : Addr), 59, 73, 108], keepIn K (.ref f) = true ∧ isFn K (.ref f) = true
  makes : makesIn K 111 = true
section
variable {T : Tabs} {K : Frag} {cd : ClassData} {mg mb : Str → Option Value} {w : World} {A : Around} {s : Shared} {g h₀ h h' : Heap} {W : List Addr} {L C : Addr} {m : Str → Option Value} {kn : List (Addr × Obj)} {R : Result → Shared → Prop} {E : Value → Shared → Prop} {prog : Program}
def FmtEs (w : World) (es : List DictEntry) (width : Int) (l x : Addr) : Prop := ∃ (t1 t2 t3 t4 t5 t6 tm tc tcl ts : Tok), es =
  [⟨PyData.keyHash w.params "_maxlen", .str "_maxlen" t1, .int width tm⟩, ⟨PyData.keyHash w.params "_continuation_ws", .str "_continuation_ws" t2, .str " " tc⟩,
   ⟨PyData.keyHash w.params "_continuation_ws_len", .str "_continuation_ws_len" t3, .int 1 tcl⟩, ⟨PyData.keyHash w.params "_splitchars", .str "_splitchars" t4, .str " " ts⟩,
   ⟨PyData.keyHash w.params "_lines", .str "_lines" t5, .ref l⟩, ⟨PyData.keyHash w.params "_current_line", .str "_current_line" t6, .ref x⟩]
structure FmtAt (w : World) (g h : Heap) (f df l x d : Addr) (width : Int) (lines : List Str) (ps : List (Str × Str)) (n : Int) : Prop where
  o : h.get? f = some (instObj 111 df)
  dd : ∃ es, h.get? df = some (dictOf es 6) ∧ FmtEs w es width l x
  lst : ∃ its ep, h.get? l = some { cls := .type "list", data := .seq its ep } ∧ StrsAre its.toList lines
  acc : Acc w h x d ps n
  zl : g.objs.size ≤ l
  zx : g.objs.size ≤ x
  zd : g.objs.size ≤ d
theorem Acc.d {h : Heap} {x d : Addr} {ps : List (Str × Str)} {n : Int} (a : Acc w h x d ps n) : ∃ tk tn, h.get? d = some (szD w tk (.int n tn)) := let ⟨_, _, _, _, a, _⟩ := a; ⟨_, _, a.d⟩
theorem Acc.o {h : Heap} {x d : Addr} {ps : List (Str × Str)} {n : Int} (a : Acc w h x d ps n) : ∃ its ep, h.get? x = some (accObj 195 d its ep) := let ⟨_, _, _, _, a, _⟩ := a; ⟨_, _, a.o⟩
variable {f df l x d : Addr} {width : Int} {lines lines' : List Str} {ps ps' : List (Str × Str)} {n n' : Int}
theorem FmtAt.ne (F : FmtAt w g h f df l x d width lines ps n) : f ≠ x ∧ f ≠ d ∧ f ≠ l ∧ df ≠ x ∧ df ≠ d ∧ df ≠ l ∧ l ≠ x ∧ l ≠ d := by
  obtain ⟨es, e1, e2⟩ := F.dd
  obtain ⟨its, ep, e3, _⟩ := F.lst
  obtain ⟨tk, tn, e4⟩ := F.acc.d
  obtain ⟨its', ep', e5⟩ := F.acc.o
  have e0 := F.o
  refine ⟨?_, ?_, ?_, ?_, ?_, ?_, ?_, ?_⟩
  · rintro rfl; rw [e5] at e0; cases e0
  · rintro rfl; rw [e4] at e0; cases e0
  · rintro rfl; rw [e3] at e0; cases e0
  · rintro rfl; rw [e5] at e1; cases e1
  · rintro rfl
    obtain ⟨t1, t2, t3, t4, t5, t6, tm, tc, tcl, ts, rfl⟩ := e2
    rw [e4] at e1
    have := congrArg Obj.data (Option.some.inj e1)
    simp at this
  · rintro rfl; rw [e3] at e1
    have := congrArg Obj.cls (Option.some.inj e1)
    simp at this
  · rintro rfl; rw [e5] at e3; cases e3
  · rintro rfl; rw [e4] at e3
    have := congrArg Obj.cls (Option.some.inj e3)
    simp at this
theorem FmtAt.line (F : FmtAt w g h f df l x d width lines ps n) (S : St T g h) (mv : Mv T g W h h') (hW : ∀ b ∈ W, b = x ∨ b = d) (a : Acc w h' x d ps' n') : FmtAt w g h' f df l x d width lines ps' n' := by
  obtain ⟨n1, n2, n3, n4, n5, n6, n7, n8⟩ := F.ne
  obtain ⟨es, e1, e2⟩ := F.dd
  obtain ⟨its, ep, e3, e4⟩ := F.lst
  have no : ∀ b, b ≠ x → b ≠ d → b ∉ W := fun b h1 h2 hb => (hW b hb).elim h1 h2
  exact ⟨mv.keep _ _ F.o (S.notTab F.o (by nofun)) (.inl (no _ n1 n2)), ⟨es, mv.keep _ _ e1 (S.notTab e1 (by nofun)) (.inl (no _ n4 n5)), e2⟩,
    ⟨its, ep, mv.keep _ _ e3 (S.notTab e3 (by nofun)) (.inl (no _ n7 n8)), e4⟩, a, F.zl, F.zx, F.zd⟩
theorem FmtAt.mv0 (F : FmtAt w g h f df l x d width lines ps n) (S : St T g h) (mv : Mv T g [] h h') : FmtAt w g h' f df l x d width lines ps n :=
  F.line S mv (by exact al0) (F.acc.mv S mv (by exact ni0) (by exact ni0))
theorem FmtAt.all (F : FmtAt w g h f df l x d width lines ps n) (S : St T g h) (mv : Mv T g W h h') (hW : ∀ b ∈ W, b = l ∨ b = x ∨ b = d) (hl : ∃ its ep, h'.get? l = some { cls := .type "list", data := .seq its ep } ∧ StrsAre its.toList lines')
    (a : Acc w h' x d ps' n') : FmtAt w g h' f df l x d width lines' ps' n' := by
  obtain ⟨n1, n2, n3, n4, n5, n6, n7, n8⟩ := F.ne
  obtain ⟨es, e1, e2⟩ := F.dd
  have no : ∀ b, b ≠ l → b ≠ x → b ≠ d → b ∉ W := fun b h0 h1 h2 hb => (hW b hb).elim h0 fun z => z.elim h1 h2
  exact ⟨mv.keep _ _ F.o (S.notTab F.o (by nofun)) (.inl (no _ n3 n1 n2)), ⟨es, mv.keep _ _ e1 (S.notTab e1 (by nofun)) (.inl (no _ n6 n4 n5)), e2⟩, hl, a, F.zl, F.zx, F.zd⟩
theorem FmtAt.inst (F : FmtAt w g h f df l x d width lines ps n) : ∃ es, InstAt h f (instObj 111 df) 111 (some (dictOf es 6)) ∧ FmtEs w es width l x :=
  let ⟨es, e1, e2⟩ := F.dd; ⟨es, ⟨F.o, rfl, rfl, e1⟩, e2⟩
theorem f_line {expr : Bool} {Q : Value → Shared → Prop} (V : Fv K) (G : Gb T K mg mb g) (S : St T g s.heap) (F : FmtAt w g s.heap f df l x d width lines ps n) (h : ∀ tk, Q (.ref x) { s with toks := tk }) :
    wpAny (model prog w) A (getAttr (.ref f) "_current_line" expr) Q E s := by
  obtain ⟨es, I, t1, t2, t3, t4, t5, t6, tm, tc, tcl, ts, rfl⟩ := F.inst
  exact j_attr G S I V.plain V.hd (V.no _ (by exact (mS m5))) (by rfl) (by rfl) (by rfl) (h _)
theorem f_lines {expr : Bool} {Q : Value → Shared → Prop} (V : Fv K) (G : Gb T K mg mb g) (S : St T g s.heap) (F : FmtAt w g s.heap f df l x d width lines ps n) (h : ∀ tk, Q (.ref l) { s with toks := tk }) :
    wpAny (model prog w) A (getAttr (.ref f) "_lines" expr) Q E s := by
  obtain ⟨es, I, t1, t2, t3, t4, t5, t6, tm, tc, tcl, ts, rfl⟩ := F.inst
  exact j_attr G S I V.plain V.hd (V.no _ (by exact m5)) (by rfl) (by rfl) (by rfl) (h _)
theorem f_max {expr : Bool} {Q : Value → Shared → Prop} (V : Fv K) (G : Gb T K mg mb g) (S : St T g s.heap) (F : FmtAt w g s.heap f df l x d width lines ps n) (h : ∀ t tk, Q (.int width t) { s with toks := tk }) :
    wpAny (model prog w) A (getAttr (.ref f) "_maxlen" expr) Q E s := by
  obtain ⟨es, I, t1, t2, t3, t4, t5, t6, tm, tc, tcl, ts, rfl⟩ := F.inst
  exact j_attr G S I V.plain V.hd (V.no _ (by exact m1)) (by rfl) (by rfl) (by rfl) (h _ _)
theorem f_split {expr : Bool} {Q : Value → Shared → Prop} (V : Fv K) (G : Gb T K mg mb g) (S : St T g s.heap) (F : FmtAt w g s.heap f df l x d width lines ps n) (h : ∀ t tk, Q (.str " " t) { s with toks := tk }) :
    wpAny (model prog w) A (getAttr (.ref f) "_splitchars" expr) Q E s := by
  obtain ⟨es, I, t1, t2, t3, t4, t5, t6, tm, tc, tcl, ts, rfl⟩ := F.inst
  exact j_attr G S I V.plain V.hd (V.no _ (by exact m4)) (by rfl) (by rfl) (by rfl) (h _ _)
theorem f_meth {pl : Sem Bool} {name : Str} {a : Addr} {Q : Value × List Value → Shared → Prop} (V : Fv K) (G : Gb T K mg mb g) (S : St T g s.heap) (F : FmtAt w g s.heap f df l x d width lines ps n)
    (hf : findIn K (.ref 111) name = some (some (.ref a))) (ht : isFn K (.ref a) = true) (hl : ∀ t1 t2 t3 t4 t5 t6 tm tc tcl ts, getL name
  [⟨PyData.keyHash w.params "_maxlen", .str "_maxlen" t1, .int width tm⟩, ⟨PyData.keyHash w.params "_continuation_ws", .str "_continuation_ws" t2, .str " " tc⟩,
   ⟨PyData.keyHash w.params "_continuation_ws_len", .str "_continuation_ws_len" t3, .int 1 tcl⟩, ⟨PyData.keyHash w.params "_splitchars", .str "_splitchars" t4, .str " " ts⟩,
   ⟨PyData.keyHash w.params "_lines", .str "_lines" t5, .ref l⟩, ⟨PyData.keyHash w.params "_current_line", .str "_current_line" t6, .ref x⟩] = some none) (h : Q (.ref a, [.ref f]) s) : wpAny (model prog w) A (getMethod (.ref f) name pl) Q E s := by
  obtain ⟨es, I, t1, t2, t3, t4, t5, t6, tm, tc, tcl, ts, rfl⟩ := F.inst
  exact j_meth G S I V.plain hf ht (hl _ _ _ _ _ _ _ _ _ _) h
theorem ne_pair {t₁ t₂ : Addr} {a b c e : Str} {ta tb tc te : Tok} {Q : Value → Shared → Prop} (r : Rm A 0) (h1 : s.heap.get? t₁ = some (tupObj [.str a ta, .str b tb])) (h2 : s.heap.get? t₂ = some (tupObj [.str c tc, .str e te]))
    (h : Q (.bool (!(a == c && b == e))) s) : wpAny (model prog w) A (compareOp .NotEq (.ref t₁) (.ref t₂)) Q E s := by
  have h1' : s.heap.IsTuple t₁ #[.str a ta, .str b tb] := ⟨_, h1, rfl, 0, rfl⟩
  have h2' : s.heap.IsTuple t₂ #[.str c tc, .str e te] := ⟨_, h2, rfl, 0, rfl⟩
  refine PySem.SeqAt.RcNeAt.tuples (e := fun j => if j = 0 then a == c else b == e) h1' h2' r.room (fun j j1 j2 => ?_) prog w E Q ?_
  · match j with
    | 0 => exact PySem.SeqAt.EqAt.str_str a ta c tc
    | 1 => exact PySem.SeqAt.EqAt.str_str b tb e te
    | j + 2 => exact absurd j1 (by simp)
  · have : ((List.range (min (#[Value.str a ta, .str b tb] : Array Value).size (#[Value.str c tc, .str e te] : Array Value).size)).all (fun j => if j = 0 then a == c else b == e) && (#[Value.str a ta, .str b tb] : Array Value).size == (#[Value.str c tc, .str e te] : Array Value).size) = (a == c && b == e) := by
      simp [List.range_succ]
    rw [this]
    exact h
end
end Mine
end
noncomputable section
open PySem PySem.W PySem.Calls PyProof.Rows Builtin Builtin.ObjectAttr
namespace Mine
section
variable {T : Tabs} {K : Frag} {cd : ClassData} {mg mb : Str → Option Value} {w : World} {A : Around} {s : Shared} {g h₀ h h' : Heap} {W : List Addr} {L C : Addr} {m : Str → Option Value} {kn : List (Addr × Obj)} {R : Result → Shared → Prop} {E : Value → Shared → Prop} {prog : Program}
variable {f df l x d : Addr} {width : Int} {lines lines' : List Str} {ps ps' : List (Str × Str)} {n n' : Int}
theorem All2.snoc {α β : Type} {P : α → β → Prop} {l : List α} {l' : List β} {b : β} (p : All2 P l (l' ++ [b])) : ∃ l₀ a, l = l₀ ++ [a] ∧ All2 P l₀ l' ∧ P a b := by
  induction l' generalizing l with
  | nil =>
    cases p with
    | cons h t => cases t; exact ⟨[], _, rfl, .nil, h⟩
  | cons c l' ih =>
    cases p with
    | cons h t =>
      obtain ⟨l₀, a, e, q, r⟩ := ih t
      exact ⟨_ :: l₀, a, by rw [e]; rfl, .cons h q, r⟩
theorem acc_meth {pl : Sem Bool} {name : Str} {a : Addr} {Q : Value × List Value → Shared → Prop} (G : Gb T K mg mb g) (X : Fx K cd) (S : St T g s.heap) (ha : Acc w s.heap x d ps n)
    (hf : findIn K (.ref 195) name = some (some (.ref a))) (ht : isFn K (.ref a) = true) (h : Q (.ref a, [.ref x]) s) (hl : ∀ tk tn, getL name [⟨PyData.keyHash w.params "_initial_size", .str "_initial_size" tk, .int n tn⟩] = some none := by intro _ _; rfl) : wpAny (model prog w) A (getMethod (.ref x) name pl) Q E s := by
  obtain ⟨its, ep, tk, tn, a', _⟩ := ha
  exact a_meth G X S a' hf ht h (hl _ _)
theorem pop_acc {p : Str × Str} (G : Gb T K mg mb g) (X : Fx K cd) (S : St T g s.heap) (r : Rm A 3) (ha : Acc w s.heap x d (ps ++ [p]) n) (hxg : g.objs.size ≤ x) (hsz : ps.length ≤ 1000)
   (hR : ∀ v h' tk, Mv T g [x] s.heap h' → Acc w h' x d ps n → IsPair h' v p → R (.ok (.ret v)) { s with heap := h', toks := tk }) :
   codeAny (model PR w) A (.call (.ref 155) ⟨[.ref x], []⟩) R s := by
  obtain ⟨its, ep, tk, tn, a, hp⟩ := ha
  obtain ⟨l₀, v, e, q, r'⟩ := All2.snoc hp
  have ei : its = l₀.toArray.push v := by
    apply Array.ext'
    rw [e]
    simp
  subst ei
  have hlen : l₀.toArray.size = ps.length := by rw [List.size_toArray, q.len]
  refine pop_spec G X S r a hxg (by lia) fun h' t' mv e' => ?_
  have hd := mv.keep _ _ a.d (S.notTab a.d (by nofun)) (.inl (by simpa using a.ne.symm))
  exact hR v h' t' mv ⟨_, _, _, _, ⟨e', hd⟩, by simpa using Parts.mv q S mv⟩ (r'.mv S mv)
theorem push_acc {a b : Str} {ta tb : Tok} (G : Gb T K mg mb g) (X : Fx K cd) (S : St T g s.heap) (r : Rm A 1) (ha : Acc w s.heap x d ps n) (hxg : g.objs.size ≤ x) (hsz : ps.length ≤ 1000)
   (hR : ∀ h' tk, Mv T g [x] s.heap h' → Acc w h' x d (ps ++ [(a, b)]) n → R (.ok (.ret .none)) { s with heap := h', toks := tk }) :
   codeAny (model PR w) A (.call (.ref 139) ⟨[.ref x, .str a ta, .str b tb], []⟩) R s := by
  obtain ⟨its, ep, tk, tn, ac, hp⟩ := ha
  have hlen : its.size = ps.length := by rw [← hp.len, Array.length_toList]
  refine push_spec G X S r ac hxg (by lia) fun t h' t' mv e' e2 _ => ?_
  have hd := mv.keep _ _ ac.d (S.notTab ac.d (by nofun)) (.inl (by simpa using ac.ne.symm))
  refine hR h' t' mv ⟨_, _, _, _, ⟨e', hd⟩, ?_⟩
  rw [Array.toList_push]
  exact All2.append (Parts.mv hp S mv) (.cons ⟨t, ta, tb, rfl, e2⟩ .nil)
theorem count_acc (G : Gb T K mg mb g) (X : Fx K cd) (S : St T g s.heap) (r : Rm A 1) (ha : Acc w s.heap x d ps n)
   (hR : ∀ h' tk tk', Mv T g [] s.heap h' → R (.ok (.ret (.int ps.length tk))) { s with heap := h', toks := tk' }) :
   codeAny (model PR w) A (.call (.ref 192) ⟨[.ref x], []⟩) R s := by
  obtain ⟨its, ep, tk, tn, ac, hp⟩ := ha
  have hlen : its.size = ps.length := by rw [← hp.len, Array.length_toList]
  exact count_spec G X S r ac.o fun h' t t' mv => by rw [hlen]; exact hR h' t t' mv
end
end Mine
end
noncomputable section
open PySem PySem.W PySem.Calls PyProof.Rows Builtin Builtin.ObjectAttr
namespace Mine
section
variable {T : Tabs} {K : Frag} {cd : ClassData} {mg mb : Str → Option Value} {w : World} {A : Around} {s : Shared} {g h₀ h h' : Heap} {W W' : List Addr} {L C : Addr} {m : Str → Option Value} {kn : List (Addr × Obj)} {R : Result → Shared → Prop} {E : Value → Shared → Prop} {prog : Program}
variable {f df l x d : Addr} {width : Int} {lines lines' : List Str} {ps ps' : List (Str × Str)} {n n' : Int}
theorem oga_eq2 (self : Value) (name : Str) (tk : Tok) : ∃ k : Builtin.ObjectAttr.Found → Value → Sem Fin, (∀ g a tp, k (.bind g a) tp = bindTo g a self tp) ∧ Builtin.«object.__getattribute__» ⟨[self, .str name tk], []⟩ = (typeOf self >>= fun tp => find self tp name >>= fun r => k r tp) :=
  ⟨_, fun _ _ _ => rfl, rfl⟩
theorem bindTo_eq (g : String) (a x C : Addr) : bindTo (.builtin g) (.ref a) (.ref x) (.ref C) = (holding [.ref a] (call (.builtin g) [.ref a, .ref x, .ref C]) >>= ret) := rfl
theorem a_bound {expr : Bool} {name : Str} {p : Addr} {Q : Value → Shared → Prop} (G : Gb T K mg mb g) (X : Fx K cd) (S : St T g s.heap) (ha : Acc w s.heap x d ps n)
    (hf : findIn K (.ref 195) name = some (some (.ref p))) (ht : isFn K (.ref p) = true) (hfo : ∀ od, findObj K 195 od name = findObj K 195 od name)
    (hb : ∀ tk tn, findObj K 195 (some (szD w tk (.int n tn))) name = some (.bind (.builtin "function.__get__") (.ref p)))
    (h : ∀ q h' t', (h' = s.heap.push (methodObj (.ref p) (.ref x))) → q = s.heap.objs.size → Q (.ref q) { s with heap := h', toks := t' }) : wpAny (model prog w) A (getAttr (.ref x) name expr) Q E s := by
  obtain ⟨its, ep, tk, tn, a, _⟩ := ha
  have Y := S.In G
  have I := a.inst
  have f0 := hb tk tn
  have LL := LstAt.acc (M := model prog w) Y X.supC.lst a.o
  have hi := LL.inst
  obtain ⟨hh, gg, dd, t, os⟩ := s
  dsimp only at Y I hi
  have L0 := I.type (M := model prog w)
  have L1 := looks_findIn (M := model prog w) Y X.ga
  have L2 := looks_findIn (M := model prog w) Y X.gt
  have L3 := looks_find (M := model prog w) Y I f0
  unfold getAttr getAttrBy
  refine wpAny_bind (wpAny_mkText (wpAny_holding (wpAny_bind (L0.at (wpAny_bind (L1.at ?_))))))
  show wpAny _ _ (getAttrByItsOwn _ _ (.ref 195) (.builtin "list.__getattribute__") true expr) _ _ _
  unfold getAttrByItsOwn
  refine wpAny_bind (m := hookBefore (.ref 195)) ?_
  show wpAny _ _ (typeLookup (.ref 195) "__getattr__") _ _ _
  refine L2.at ?_
  refine wpAny_bind (wpAny_attempt (wpAny_holding ?_))
  have e1 : callGetattribute (.ref x) (.str name t) (.builtin "list.__getattribute__") expr = boundAndCalled (.builtin "list.__getattribute__") (.ref x) (.str name t) := by
    cases expr <;> rfl
  rw [e1]
  unfold boundAndCalled
  rw [slot_lga.bind]
  refine wpAny_bind (wpAny_pure ?_)
  refine wpAny_call (codeAny_call_builtin slot_lga.plain entry_lga (check_slot (s := ⟨hh, gg, dd, t + 1, os⟩) (i := "list.__getattribute__") (owner := "list") (n := "__getattribute__") (self := .ref x) (rest := [.str name t]) (kw := []) kind_lga split_lga hi (by exact args_lga _ _) ?_))
  obtain ⟨k, hk, e⟩ := oga_eq2 (.ref x) name t
  rw [show ([Value.ref x] ++ [Value.str name t]) = [.ref x, .str name t] from rfl, e]
  refine wpAny_bind (L0.at (wpAny_bind (L3.at ?_)))
  rw [hk, bindTo_eq]
  refine wpAny_bind (wpAny_holding (wpAny_call (fn_get (s := ⟨hh, gg, dd, t + 1, os⟩) Y (beq_iff_eq.mp ht) ?_)))
  refine wpAny_pure ?_
  show wpAny _ _ (handedOut (.ref _)) _ _ _
  rw [handedOut_of rfl]
  exact wpAny_pure (h _ _ _ rfl rfl)
end
end Mine
end
noncomputable section
open PySem PySem.W PySem.Calls PyProof.Rows Builtin Builtin.ObjectAttr
namespace Mine
structure Fx2 (K : Frag) : Prop where
  makes : makesL K 195 = true
  sgPush : specialIn K (.ref 139) "__get__" = some (some (.builtin "function.__get__"))
  tkPush : takesIn K (.ref 139) = some false
section
variable {T : Tabs} {K : Frag} {cd : ClassData} {mg mb : Str → Option Value} {w : World} {A : Around} {s : Shared} {g h₀ h h' : Heap} {W W' : List Addr} {L C : Addr} {m : Str → Option Value} {kn : List (Addr × Obj)} {R : Result → Shared → Prop} {E : Value → Shared → Prop} {prog : Program}
variable {f df l x d : Addr} {width : Int} {lines lines' : List Str} {ps ps' : List (Str × Str)} {n n' : Int}
theorem bind_push (X : Fx K cd) (Y : Fx2 K) (tk tn : Tok) : findObj K 195 (some (szD w tk (.int n tn))) "push" = some (.bind (.builtin "function.__get__") (.ref 139)) := by
  unfold findObj
  rw [X.supC.cls, Option.bind_some, X.fPush, Option.bind_some]
  dsimp only
  rw [Y.sgPush, Option.bind_some]
  dsimp only
  rw [Y.tkPush, Option.bind_some]
  dsimp only
  have e : PySem.W.ownOf cd (some (szD w tk (.int n tn))) "push" = some none := by
    unfold PySem.W.ownOf
    rw [X.hd]
    first | rfl | (rw [lookIn_dict]; rfl) | (simp; rw [lookIn_dict]; rfl)
  rw [e, Option.bind_some]
  dsimp only
  rw [X.mro]
  rfl
theorem fnIn_of {a : Addr} {st : Stmt} {qual : Str} {cl : List (Str × Addr)} {dV : Value} {cda : Addr} (h : FnAt K a st qual cl dV cda) : fnIn K a = true := by
  obtain ⟨oc, od, osl, name, kV, doc, pm, an, ct, ho, _⟩ := h
  unfold fnIn
  rw [ho]
theorem callWith_star {P : Heap → Prop} {f : Value} {pos : Pos} {first : List Value} {x : Sem Value} {Q : Value → Shared → Prop} (hk : ∀ h, P h → ∃ k, (k = Keeper.frame ∨ k = Keeper.machine ∨ k = Keeper.boundFrame) ∧ Looks (model prog w) h (keeperOf f) k)
    (h : wpAny (model prog w) A x (fun v s₁ => ∃ t items, v = .ref t ∧ s₁.heap.get? t = some (tupObj items) ∧ items.length ≤ 1000 ∧
      ∀ h', (∀ b o, s₁.heap.get? b = some o → h'.get? b = some o) → P h' ∧ wpAny (model prog w) A (call f (first ++ items)) Q E { s₁ with heap := h' }) E s) :
    wpAny (model prog w) A (callWith pos f first [(true, x)] []) Q E s := by
  unfold callWith evalArgs
  refine wpAny_bind (wpAny_holding (wpAny_bind (wpAny_mono h (fun v s₁ h₁ => ?_) fun _ _ z => z)))
  obtain ⟨t, items, rfl, ht, hl, h₂⟩ := h₁
  have hT : s₁.TypeIs (.ref t) "tuple" := ⟨_, ht, rfl⟩
  refine wpAny_bind (wpAny_pure (wpAny_holding ?_))
  refine wpAny_bind (wpAny_pure ?_)
  refine wpAny_bind (wpAny_bind ?_)
  show wpAny _ _ (notIterableAtAll (.ref t)) _ _ s₁
  unfold notIterableAtAll
  refine wpAny_bind (wpAny_specialOf hT PySem.F.slot_tuple_iter.lookup ?_)
  refine wpAny_pure ?_
  dsimp only
  rw [if_neg (by decide)]
  refine wpAny_holding (wpAny_collect_seq t (.inr rfl) ht rfl rfl (fun h' k => ?_) (by rw [List.size_toArray, sizeLine_eq]; exact Nat.le_trans (by assumption) (by decide)))
  obtain ⟨hK, hc⟩ := h₂ h' k
  refine wpAny_pure (wpAny_bind (wpAny_standAt ?_))
  obtain ⟨k, hkk, LK⟩ := hk _ hK
  refine wpAny_bind (LK.here (s := { s₁ with heap := h' }) ?_)
  have tail : ∀ {t : Sem Value}, wpAny (model prog w) A t Q E { s₁ with heap := h' } → wpAny (model prog w) A (t >>= fun r => holding [r] point >>= fun _ => pure r) Q E { s₁ with heap := h' } :=
    fun ht => wpAny_bind (wpAny_mono ht (fun r s₂ hr => wpAny_bind (wpAny_holding (wpAny_point (wpAny_pure hr)))) fun _ _ x => x)
  have marked (mk : Value) : wpAny (model prog w) A (callMarked mk f (first ++ items) []) Q E { s₁ with heap := h' } := by unfold callMarked; exact Calls.wpAny_keep hc
  rcases hkk with rfl | rfl | rfl
  · exact tail (marked _)
  · exact tail (wpAny_operateT hc)
  · exact tail (wpAny_operateT hc)
theorem StarCall_ {env : Env} {o e : Expr} {name : Str} {apos pos sp : Pos} {Q : Value → Shared → Prop}
    (h : wpAny (model prog w) A (eval o env) (fun ov s₁ => wpAny (model prog w) A (getAttr ov name true) (fun fv s₂ => wpAny (model prog w) A (callWith pos fv [] (backTo pos [(true, eval e env)]) []) Q E s₂) E s₁) E s)
    (he : eval (.Call (.Attribute o name apos) [.Starred e sp] [] pos) env = (do
      let ov ← eval o env
      standAt apos.atName
      let (f, first) ← holding [ov] (do pure (← getAttr ov name true, []))
      callWith pos f first (backTo pos [(true, eval e env)]) []) := by rfl) :
    wpAny (model prog w) A (eval (.Call (.Attribute o name apos) [.Starred e sp] [] pos) env) Q E s := by
  rw [he]
  refine wpAny_bind (wpAny_mono h (fun ov s₁ h₁ => wpAny_bind (wpAny_standAt (wpAny_bind (wpAny_holding (wpAny_bind (wpAny_mono h₁ (fun fx s₂ h₂ => wpAny_pure ?_) fun _ _ x => x)))))) fun _ _ x => x)
  exact h₂
end
end Mine
end
noncomputable section
open PySem PySem.W PySem.Calls PyProof.Rows Builtin Builtin.ObjectAttr
namespace Mine
section
variable {T : Tabs} {K : Frag} {cd : ClassData} {mg mb : Str → Option Value} {w : World} {A : Around} {s : Shared} {g h₀ h h' : Heap} {W W' : List Addr} {L C : Addr} {m : Str → Option Value} {kn : List (Addr × Obj)} {R : Result → Shared → Prop} {E : Value → Shared → Prop} {prog : Program}
variable {f df l x d : Addr} {width : Int} {lines lines' : List Str} {ps ps' : List (Str × Str)} {n n' : Int}
theorem J.callK (j : J T g W h₀ L h m kn) (mv : Mv T g W' h h') (hL : L ∉ W') (hW : ∀ b ∈ W', b ∈ W ∨ h₀.get? b = none) (hk : ∀ p ∈ kn, p.1 ∉ W') : J T g W h₀ L h' m kn :=
  j.call mv hL hW kn ⟨fun p hp => ⟨mv.keep _ _ (j.has p hp).1 (j.has p hp).2.2.1 (.inl (hk p hp)), (j.has p hp).2.2⟩, j.nd⟩ fun p hp => (j.has p hp).2.1
theorem J.neL (j : J T g W h₀ L h m kn) {b : Addr} {o : Obj} (e : h₀.get? b = some o) : b ≠ L := by
  rintro rfl
  rw [j.Ln] at e
  cases e
theorem j_callK {name qual : Str} {params : Arguments} {body : List Stmt} {scope : Scope} {cl : List (Str × Addr)} {dV kV doc pm cdv ct oc : Value} {an od : Option Addr} {osl : Array (Option Value)} {f : Addr} {args : Args} {binds : List (Str × Value)}
    (W : List Addr) (kn : List (Addr × Obj)) (G : Gb T K mg mb g) (S : St T g s.heap) (hkn : Kn T g s.heap kn)
    (ho : K.lookup f = some ⟨oc, od, .func (fnX name qual params body scope cl dV kV doc pm an cdv ct), osl⟩) (hcd : codeIn K cdv qual = true) (hroom : A.depth < recursionLimit)
    (hbind : BindsTo s (fnX name qual params body scope cl dV kV doc pm an cdv ct) args binds) (hloc : ∀ y ∈ binds, scope.names.lookup y.1 = some .local)
    (hcell : ∀ x ∈ scope.names, x.2 ≠ .cell)
    (h : ∀ L h₁ tk, J T g W s.heap L h₁ (fun y => binds.reverse.lookup y) kn → Mv T g [] s.heap h₁ →
      wpAny (model prog w) (A.deeper (envX qual scope L f cdv cl)) (execs body (envX qual scope L f cdv cl))
        (fun fl s' => R (.ok (.ret (match fl with | .ret v => v | _ => .none))) s') (fun _ _ => False) { s with heap := h₁, toks := tk })
    (hco : scope.isCoroutine = false) (hgen : scope.isGenerator = false) (hk : scope.kind = .function) : codeAny (model prog w) A (.call (.ref f) args) R s := by
  have X := S.In G
  refine codeAny_call_def (fd := fnX name qual params body scope cl dV kV doc pm an cdv ct) (body := body) (binds := binds) hroom (X _ _ ho) rfl (G.nolim.elim fun mc x => ⟨mc, S.ns x.1 G.k3, x.2⟩) (codeRec_of X hcd) rfl hbind hcell hloc (fun h₁ hns hk₁ => ?_) hco hgen hk
  obtain ⟨oL, es, n, hL, r⟩ := id hns
  have hle : s.heap.objs.size ≤ h₁.objs.size := Nat.le_of_lt (Heap.lt_size hL)
  have notT : ∀ {b : Addr}, s.heap.objs.size ≤ b → b ∉ T.map (·.2) := fun {b} hb hm => by
    obtain ⟨q, hq, e⟩ := List.mem_map.mp hm
    obtain ⟨ps, ps₀, x, y, z⟩ := S.tab q hq
    have := Heap.lt_size y.2
    rw [e] at this
    exact absurd this (Nat.not_lt.mpr hb)
  refine wpAny_mono (h s.heap.objs.size h₁ _ ⟨⟨S.keeps hk₁ hle, fun b o e _ _ => hk₁ b o e, fun b o e => ⟨o, hk₁ b o e⟩⟩, hns, notT (Nat.le_refl _), ?_, S.le, fun p hp => ⟨hk₁ _ _ (hkn.1 p hp).1, Nat.ne_of_lt (Heap.lt_size (hkn.1 p hp).1), (hkn.1 p hp).2⟩, hkn.2, S⟩ ⟨S.keeps hk₁ hle, fun b o e _ _ => hk₁ b o e, fun b o e => ⟨o, hk₁ b o e⟩⟩) (fun _ _ x => x) fun _ _ x => x.elim
  cases q : s.heap.get? s.heap.objs.size with
  | none => rfl
  | some o => exact absurd (Heap.lt_size q) (Nat.lt_irrefl _)
theorem gt_int' {a b : Int} {t u : Tok} {Q : Value → Shared → Prop} (h : Q (.bool (decide (a > b))) s) : wpAny (model prog w) A (compareOp .Gt (.int a t) (.int b u)) Q E s := by
  exact PySem.P.gt_int h
theorem FmtAt.out (F : FmtAt w g h f df l x d width lines ps n) (S : St T g h) (mv : Mv T g W h h') (hW : ∀ b ∈ W, b ≠ f ∧ b ≠ df ∧ b ≠ l ∧ b ≠ x ∧ b ≠ d) : FmtAt w g h' f df l x d width lines ps n := by
  have no : ∀ b, (b = f ∨ b = df ∨ b = l ∨ b = x ∨ b = d) → b ∉ W := fun b hb hm => by
    obtain ⟨a1, a2, a3, a4, a5⟩ := hW b hm
    rcases hb with q | q | q | q | q
    · exact a1 q
    · exact a2 q
    · exact a3 q
    · exact a4 q
    · exact a5 q
  obtain ⟨es, e1, e2⟩ := F.dd
  obtain ⟨its, ep, e3, e4⟩ := F.lst
  exact ⟨mv.keep _ _ F.o (S.notTab F.o (by nofun)) (.inl (no _ (by exact .inl rfl))), ⟨es, mv.keep _ _ e1 (S.notTab e1 (by nofun)) (.inl (no _ (by exact .inr (.inl rfl)))), e2⟩,
    ⟨its, ep, mv.keep _ _ e3 (S.notTab e3 (by nofun)) (.inl (no _ (by exact .inr (.inr (.inl rfl))))), e4⟩, F.acc.mv S mv (no _ (by exact .inr (.inr (.inr (.inl rfl))))) (no _ (by exact .inr (.inr (.inr (.inr rfl))))), F.zl, F.zx, F.zd⟩
theorem St.keepsL (S : St T g h) (k : ∀ b o, h.get? b = some o → h'.get? b = some o) (hl : g.objs.size ≤ h'.objs.size) : St T g h' := by
  refine ⟨S.old.step_keeps k, fun b o' e ht => k _ _ (S.keep b o' e ht), fun p hp => ?_, hl⟩
  obtain ⟨ps, ps₀, a, b, c⟩ := S.tab p hp
  exact ⟨ps, ps₀, a.keeps k, b.keeps k, c⟩
theorem J.keepsL (j : J T g W h₀ L h m kn) (k : ∀ b o, h.get? b = some o → h'.get? b = some o) : J T g W h₀ L h' m kn ∧ Mv T g [] h h' := by
  obtain ⟨oL, es, n, e, r⟩ := j.ns
  have S' := j.mv.st.keepsL k (Nat.le_of_lt (Nat.lt_of_le_of_lt j.Lg (Heap.lt_size (k _ _ e))))
  exact ⟨⟨⟨S', fun b o e ht hb => k _ _ (j.mv.keep b o e ht hb), fun b o e => let ⟨o₁, e₁⟩ := j.mv.there b o e; ⟨o₁, k _ _ e₁⟩⟩, ⟨oL, es, n, k _ _ e, r⟩, j.Lt, j.Ln, j.Lg, fun p hp => ⟨k _ _ (j.has p hp).1, (j.has p hp).2⟩, j.nd, j.s0⟩,
    S', fun b o e _ _ => k _ _ e, fun b o e => ⟨o, k _ _ e⟩⟩
theorem Mv.push (S : St T g h) (o : Obj) : Mv T g [] h (h.push o) := ⟨S.push o, fun b o' e _ _ => Heap.get?_push_of_some _ e, fun b o' e => ⟨o', Heap.get?_push_of_some _ e⟩⟩
theorem j_newTupleK {vs : List Value} {Q : Value → Shared → Prop} (j : J T g W h₀ L s.heap m kn)
    (h : ∀ a h', J T g W h₀ L h' m ((a, tupObj vs) :: kn) → Mv T g [] s.heap h' → Q (.ref a) { s with heap := h' }) (hsz : vs.length ≤ sizeLine := by size_fits) :
    wpAny (model prog w) A (newTuple vs) Q E s := wpAny_newObj_type (h _ _ (j.push _ rfl) (Mv.push j.mv.st _)) (by show vs.toArray.size ≤ sizeLine; rw [List.size_toArray]; exact hsz)
theorem j_newListK {vs : List Value} {Q : Value → Shared → Prop} (j : J T g W h₀ L s.heap m kn)
    (h : ∀ a h', J T g W h₀ L h' m ((a, ({ cls := .type "list", data := .seq vs.toArray } : Obj)) :: kn) → Mv T g [] s.heap h' → h₀.get? a = none → Q (.ref a) { s with heap := h' }) (hsz : vs.length ≤ sizeLine := by size_fits) :
    wpAny (model prog w) A (newList vs) Q E s := wpAny_newObj_type (h _ _ (j.push _ rfl) (Mv.push j.mv.st _) j.new) (by show vs.toArray.size ≤ sizeLine; rw [List.size_toArray]; exact hsz)
theorem mapSeq_lst (its new : Array Value) (ep : Nat) (f : Array Value → Array Value) (e : f its = new) : ∃ ep', Obj.mapSeq f ({ cls := .type "list", data := .seq its ep } : Obj) = { cls := .type "list", data := .seq new ep' } := by
  subst e
  exact ⟨_, rfl⟩
theorem J.updMv (j : J T g W h₀ L h m kn) {a : Addr} {o o' : Obj} {f : Obj → Obj} (hm : (a, o) ∈ kn) (hc : o.cls ≠ .type "tuple") (e : f o = o') (hf : o'.isFreed = false) : Mv T g [a] h (h.update a f) := by
  have z := j.has _ hm
  have hs : Heap.SameBut a h (h.update a f) := Heap.SameBut.update ..
  refine ⟨j.mv.st.same z.2.2.2 hs, fun b ob eb ht hb => (hs.2 b fun q => ?_).trans eb, fun b ob eb => ?_⟩
  · subst q
    rw [z.1] at eb
    cases eb
    rcases hb with hb | hb
    · exact hb (.head _)
    · exact hc hb.1
  · by_cases q : b = a
    · subst q
      refine ⟨o', ?_⟩
      have := Heap.get?_update_self f z.1 (by rw [e]; exact hf)
      rw [this, e]
    · exact ⟨ob, (hs.2 b q).trans eb⟩
theorem strs_snoc {vs : List Value} {ys : List Str} {y : Str} {t : Tok} (h : StrsAre vs ys) : StrsAre (vs ++ [.str y t]) (ys ++ [y]) := by
  induction h with
  | nil => exact .cons _ _ .nil
  | cons y t _ ih => exact .cons y t ih
theorem StrsAre.len {vs : List Value} {ys : List Str} (h : StrsAre vs ys) : vs.length = ys.length := by
  induction h with
  | nil => rfl
  | cons y t _ ih => simp [ih]
theorem bind_reset0 {s : Shared} {K : Frag} {cd : ClassData} (X : Fx K cd) (Y : K.In s.heap) (x : Addr) (fd : FuncData) (h1 : fd.params = fArgs (inCls 6 6)) (h2 : fd.defaults = .ref 170) : BindsTo s fd ⟨[.ref x], []⟩ [("self", .ref x), ("startval", .none)] := by
  obtain ⟨d, n, sl, e⟩ := X.d170
  obtain ⟨a1, a2, a3, a4, a5, a6, a7, a8, a9, a10, a11, a12, a13, a14⟩ := fd
  dsimp only at h1 h2
  subst h1 h2
  exact BindsTo.of_defaults rfl (Y _ _ e) rfl rfl rfl
set_option maxHeartbeats 4000000 in
theorem newline_spec {p : Str × Str} (V : Fv K) (X : Fx K cd) (X2 : Fx2 K) (G : Gb T K mg mb g) (GM : Gm mg) (S : St T g s.heap) (r : Rm A 8) (hT : (161, 157) ∈ T) (hT2 : (168, 164) ∈ T)
   (F : FmtAt w g s.heap f df l x d width lines (ps ++ [p]) n) (hz : Small (ps ++ [p])) (hn0 : 0 ≤ n) (hn1 : n ≤ 1000000) (hll : lines.length ≤ 1000)
   (hp : (p.1 == " " && p.2 == "") = false) (ho : onlyB (ps ++ [p]) n = false) (hpos : 0 < n + plen (ps ++ [p])) (hup : plen (ps ++ [p]) ≤ 10000000)
   (hR : ∀ s', Mv T g [l, x, d] s.heap s'.heap → Ok s s' → FmtAt w g s'.heap f df l x d width (lines ++ [ptext (ps ++ [p])]) [] 0 → R (.ok (.ret .none)) s') :
   codeAny (model PR w) A (.call (.ref 73) ⟨[.ref f], []⟩) R s := by
  obtain ⟨oc, od, osl, name, kV, doc, pm, an, ct, hob, hcd⟩ := V.newline
  obtain ⟨its, ep, hl, hli⟩ := F.lst
  have hpsl : ps.length ≤ 999 := by have := hz.2; simp at this; omega
  have N := F.ne
  refine' j_callK (binds := [("self", .ref f)]) [l, x, d] [(l, ({ cls := .type "list", data := .seq its ep } : Obj))] G S ?hkn hob hcd r.lt (BindsTo.of_eq rfl) (locs rfl) (by decide) ?_ rfl rfl rfl
  case hkn => exact ⟨fun q hq => by rw [List.mem_singleton.mp hq]; exact ⟨hl, S.notTab hl (by nofun), F.zl⟩, by exact nd1⟩
  intro L h₁ t₁ j mv₁
  obtain ⟨ix, epx, hx0⟩ := F.acc.o
  obtain ⟨tkd, tnd, hd0⟩ := F.acc.d
  have xL : x ≠ L := j.neL hx0
  have dL : d ≠ L := j.neL hd0
  have lL : l ≠ L := j.neL hl
  have rr := r.deeper (env := envX "_ValueFormatter.newline" (fScope (inCls 5 3)) L 73 (.ref 72) [])
  have F₁ := F.mv0 S mv₁
  obtain ⟨N1, N2, N3, N4, N5, N6, N7, N8⟩ := N
  refine xc fun _ hn => wpAny_Assign_Name (vc fun _ hv => MethodCall_ (Attribute_name ?_))
  refine j_local (s := { s with heap := h₁, toks := t₁ }) j rfl ?_
  refine f_line (s := { s with heap := h₁, toks := t₁ }) V G j.mv.st F₁ fun t₂ => ?_
  refine acc_meth (s := { s with heap := h₁, toks := t₂ }) G X j.mv.st F₁.acc X.fPop (X.keep 155 (by decide)).2 ?_
  refine j_callWith0 (s := { s with heap := h₁, toks := t₂ }) G j.mv.st (X.keep 155 (by decide)).1 (wpAny_call ?_)
  refine pop_acc (s := { s with heap := h₁, toks := t₂ }) G X j.mv.st (rr.mono (by decide)) F₁.acc F.zx (by exact Nat.le_succ_of_le hpsl) fun v h₂ t₃ mv₂ a₂ ip => ?_
  have j₂ := j.callK mv₂ (by exact ni1 xL.symm) (by exact al1 (.inl m2)) (by exact al1 (ni1 N7))
  have F₂ := F₁.line j.mv.st mv₂ (by exact al1 (.inl rfl)) a₂
  obtain ⟨es₀, dfe, _⟩ := F.dd
  have fL : f ≠ L := j.neL F.o
  have dfL : df ≠ L := j.neL dfe
  refine hv _ { s with heap := h₂, toks := t₃ } ?_
  refine j_storeK (s := { s with heap := h₂, toks := t₃ }) j₂ fun h₃ t₄ j₃ mv₃ => ?_
  have F₃ := F₂.out j₂.mv.st mv₃ (by exact al1 ⟨fL.symm, dfL.symm, lL.symm, xL.symm, dL.symm⟩)
  obtain ⟨t, ta, tb, rfl, ht⟩ := ip.mv j₂.mv.st mv₃
  refine hn { s with heap := h₃, toks := t₄ } ?_
  refine xc fun _ hn => wpAny_If (wpAny_isTrue_Compare1 ?_)
  refine j_local (s := { s with heap := h₃, toks := t₄ }) j₃ rfl ?_
  refine Tuple_ (args_cons (Constant_str (args_cons (Constant_str (args_nil ?_)))))
  refine j_newTupleK (s := { s with heap := h₃, toks := t₄ + 1 + 1 }) j₃ fun q h₄ j₄ mv₄ => ?_
  have F₄ := F₃.mv0 j₃.mv.st mv₄
  have ht₄ := mv₄.keep _ _ ht (j₃.mv.st.notTab ht (by nofun)) (.inl (by exact ni0))
  refine ne_pair (s := { s with heap := h₄, toks := t₄ + 1 + 1 }) (rr.mono (by decide)) ht₄ (j₄.get (.head _)) (wpAny_truthy_bool ?_)
  rw [hp, Bool.not_false, if_pos rfl]
  have j₄' := j₄.sub (List.sublist_cons_self _ _)
  clear j₄
  refine xc fun _ hn2 => wpAny_Expr ?_
  refine StarCall_ (Attribute_name ?_)
  refine j_local (s := { s with heap := h₄, toks := t₄ + 1 + 1 }) j₄' rfl ?_
  refine f_line (s := { s with heap := h₄, toks := t₄ + 1 + 1 }) V G j₄'.mv.st F₄ fun t₅ => ?_
  refine a_bound (s := { s with heap := h₄, toks := t₅ }) (p := 139) G X j₄'.mv.st F₄.acc X.fPush (X.keep 139 (by decide)).2 (fun _ => rfl) (bind_push X X2) fun q h₅ t₆ e₅ eq₅ => ?_
  have j₅ := j₄'.push (methodObj (.ref 139) (.ref x)) rfl
  have mv₅ : Mv T g [] h₄ h₅ := e₅ ▸ Mv.push j₄'.mv.st _
  have hq₅ : h₅.get? q = some (methodObj (.ref 139) (.ref x)) := by rw [e₅, eq₅]; exact Heap.get?_push_size _ rfl
  rw [show ({ s with heap := h₄, toks := t₅ } : Shared).heap = h₄ from rfl] at e₅ eq₅
  rw [← e₅, ← eq₅] at j₅
  have F₅ := F₄.mv0 j₄'.mv.st mv₅
  have ht₅ := mv₅.keep _ _ ht₄ (j₄'.mv.st.notTab ht₄ (by nofun)) (.inl (by exact ni0))
  refine callWith_star (P := MethP K q 139 (.ref x)) (x := do let v ← eval (.Name "end_of_line" _) _; standAt _; pure v) (keeps_M (fnIn_of X.push)) ?_
  refine wpAny_bind (j_local (s := { s with heap := h₅, toks := t₆ }) j₅ rfl (wpAny_bind (wpAny_standAt (wpAny_pure ⟨t, _, rfl, ht₅, by simp, fun h₆ k₆ => ?_⟩))))
  obtain ⟨j₆, mv₆⟩ := j₅.keepsL k₆
  have F₆ := F₅.mv0 j₅.mv.st mv₆
  refine ⟨⟨k₆ _ _ hq₅, j₆.mv.st.In G⟩, wpAny_call (ks_codeAny_call_bound (s := { s with heap := h₆, toks := t₆ }) (k₆ _ _ hq₅) ?_)⟩
  refine push_acc (s := { s with heap := h₆, toks := t₆ }) G X j₆.mv.st (rr.mono (by decide)) F₆.acc F.zx (by exact Nat.le_succ_of_le hpsl) fun h₇ t₇ mv₇ a₇ => ?_
  replace a₇ : Acc w h₇ x d (ps ++ [p]) n := a₇
  have j₇ := (j₆.sub (List.sublist_cons_self _ _)).callK mv₇ (by exact ni1 xL.symm) (by exact al1 (.inl m2)) (by exact al1 (ni1 N7))
  have F₇ := F₆.line j₆.mv.st mv₇ (by exact al1 (.inl rfl)) a₇
  refine hn2 { s with heap := h₇, toks := t₇ } (wpAny_execs_nil ?_)
  refine hn { s with heap := h₇, toks := t₇ } ?_
  refine xc fun _ hn => wpAny_If (wpAny_isTrue_Compare1 (vc fun _ hv => Call_ ?_))
  refine j_builtin (s := { s with heap := h₇, toks := t₇ }) G j₇ GM.len boot_len ?_
  refine callWith_method1 (first := []) (args_cons (Attribute_name ?_))
  refine j_local (s := { s with heap := h₇, toks := t₇ }) j₇ rfl ?_
  refine f_line (s := { s with heap := h₇, toks := t₇ }) V G j₇.mv.st F₇ fun t₈ => args_nil ?_
  refine a_len (s := { s with heap := h₇, toks := t₈ }) G X GM j₇.mv.st (rr.mono (by decide)) hT F₇.acc hz (by exact Int.le_of_lt hpos) (by lia) fun s₈ t₉ mv₈ ok₈ => ?_
  have j₈ : J T g [l, x, d] s.heap L s₈.heap _ _ := j₇.call0 mv₈
  have F₈ := F₇.mv0 j₇.mv.st mv₈
  refine hv _ s₈ ?_
  refine wpAny_Constant_int (gt_int' (wpAny_truthy_bool ?_))
  rw [show decide (n + plen (ps ++ [p]) > 0) = true from decide_eq_true (by omega), if_pos rfl]
  have ok₈' : Ok s s₈ := ⟨ok₈.1, ok₈.2⟩
  refine xc fun _ hn2 => wpAny_If (wpAny_isTrue_BoolOp (vc fun _ hv => wpAny_allTrue_And_cons (wpAny_isTrue_value (MethodCall_ (Attribute_name ?_)))))
  refine j_local (s := { s₈ with toks := s₈.toks + 1 }) j₈ rfl ?_
  refine f_line (s := { s₈ with toks := s₈.toks + 1 }) V G j₈.mv.st F₈ fun t₁₀ => ?_
  refine acc_meth (s := { s₈ with toks := t₁₀ }) G X j₈.mv.st F₈.acc X.fOnly (X.keep 184 (by decide)).2 ?_
  refine j_callWith0 (s := { s₈ with toks := t₁₀ }) G j₈.mv.st (X.keep 184 (by decide)).1 (wpAny_call ?_)
  refine only_spec (s := { s₈ with toks := t₁₀ }) G X GM j₈.mv.st (rr.mono (by decide)) hT hT2 F₈.acc hz (by exact Int.le_of_lt hpos) (by lia) fun s₉ mv₉ ok₉ => ?_
  have j₉ : J T g [l, x, d] s.heap L s₉.heap _ _ := j₈.call0 mv₉
  have F₉ := F₈.mv0 j₈.mv.st mv₉
  have ok₉' : Ok s s₉ := ⟨ok₉.1.trans ok₈'.1, fun a => ok₉.2 (ok₈'.2 a)⟩
  rw [ho]
  refine wpAny_truthy_bool ?_
  rw [if_neg (by decide)]
  refine hv _ s₉ ?_
  rw [if_neg (by decide)]
  refine xc fun _ hn3 => wpAny_Expr (MethodCall_ (Attribute_name ?_))
  refine j_local (s := s₉) j₉ rfl ?_
  refine f_lines (s := s₉) V G j₉.mv.st F₉ fun t₁₁ => ?_
  refine getMethod_list_append (s := { s₉ with toks := t₁₁ }) (j₉.get (.head _)) rfl rfl ?_
  refine callWith_method1 (args_cons (vc fun _ hv => Call_ ?_))
  refine j_builtin (s := { s₉ with toks := t₁₁ }) G j₉ GM.str boot_str ?_
  refine PyProof.Rows.callWith_type1 (args_cons (Attribute_name ?_))
  refine j_local (s := { s₉ with toks := t₁₁ }) j₉ rfl ?_
  refine f_line (s := { s₉ with toks := t₁₁ }) V G j₉.mv.st F₉ fun t₁₂ => args_nil ?_
  refine a_strcall (s := { s₉ with toks := t₁₂ }) G X GM j₉.mv.st (rr.mono (by decide)) hT2 F₉.acc hz fun s₁₀ t₁₃ mv₁₀ ok₁₀ => hv _ _ (args_nil ?_)
  have j₁₀ : J T g [l, x, d] s.heap L s₁₀.heap _ _ := j₉.call0 mv₁₀
  have F₁₀ := F₉.mv0 j₉.mv.st mv₁₀
  have ok₁₀' : Ok s s₁₀ := ⟨ok₁₀.1.trans ok₉'.1, fun a => ok₁₀.2 (ok₉'.2 a)⟩
  have hil : its.size = lines.length := by rw [← StrsAre.len hli, Array.length_toList]
  refine list_append_any (LstAt.exact (j₁₀.get (.head _))) (by rw [sizeLine_eq]; lia) ?_
  obtain ⟨ep', ee⟩ := mapSeq_lst its (its.push (.str (ptext (ps ++ [p])) t₁₃)) ep (·.push (.str (ptext (ps ++ [p])) t₁₃)) rfl
  have j₁₁ := j₁₀.update 0 rfl (.inl (by exact m1)) (by exact tnL) ee rfl
  have mv₁₁ := j₁₀.updMv (.head _) (by exact tnL) ee rfl
  revert j₁₁ mv₁₁
  generalize s₁₀.heap.update l _ = h₁₁
  intro j₁₁ mv₁₁
  have F₁₁ : FmtAt w g h₁₁ f df l x d width (lines ++ [ptext (ps ++ [p])]) (ps ++ [p]) n :=
    F₁₀.all j₁₀.mv.st mv₁₁ (by exact al1 (.inl rfl)) ⟨_, _, j₁₁.get (.head _), by rw [Array.toList_push]; exact strs_snoc hli⟩ (F₁₀.acc.mv j₁₀.mv.st mv₁₁ (by exact ni1 N7.symm) (by exact ni1 N8.symm))
  refine hn3 { s₁₀ with heap := h₁₁ } (wpAny_execs_nil ?_)
  refine hn2 { s₁₀ with heap := h₁₁ } (wpAny_execs_nil ?_)
  refine hn { s₁₀ with heap := h₁₁ } ?_
  refine xc fun _ hn => wpAny_Expr (MethodCall_ (Attribute_name ?_))
  refine j_local (s := { s₁₀ with heap := h₁₁ }) j₁₁ rfl ?_
  refine f_line (s := { s₁₀ with heap := h₁₁ }) V G j₁₁.mv.st F₁₁ fun t₁₄ => ?_
  refine acc_meth (s := { s₁₀ with heap := h₁₁, toks := t₁₄ }) G X j₁₁.mv.st F₁₁.acc X.fReset (X.keep 177 (by decide)).2 ?_
  refine j_callWith0 (s := { s₁₀ with heap := h₁₁, toks := t₁₄ }) G j₁₁.mv.st (X.keep 177 (by decide)).1 (wpAny_call ?_)
  refine reset_spec (s := { s₁₀ with heap := h₁₁, toks := t₁₄ }) (qs := []) (v := .none) G X j₁₁.mv.st (rr.mono (by decide)) F₁₁.acc F.zx F.zd (by simp; omega) (by simp) (.inl ⟨rfl, rfl⟩) (bind_reset0 X (j₁₁.mv.st.In G) x) fun h₁₂ t₁₅ mv₁₂ a₁₂ => ?_
  have j₁₂ := j₁₁.callK mv₁₂ (by exact ni2 xL.symm dL.symm) (by exact al2 (.inl m2) (.inl m3)) (by simp [N7, N8])
  have F₁₂ := F₁₁.line j₁₁.mv.st mv₁₂ (by exact al2 (.inl rfl) (.inr rfl)) a₁₂
  exact hn _ (wpAny_execs_nil (hR _ j₁₂.mv ⟨ok₁₀'.1, ok₁₀'.2⟩ F₁₂))
end
end Mine
end
noncomputable section
open PySem PySem.W PySem.Calls PyProof.Rows Builtin Builtin.ObjectAttr
namespace Mine
section
variable {T : Tabs} {K : Frag} {cd : ClassData} {mg mb : Str → Option Value} {w : World} {A : Around} {s : Shared} {g h₀ h h' : Heap} {W W' : List Addr} {L C : Addr} {m : Str → Option Value} {kn : List (Addr × Obj)} {R : Result → Shared → Prop} {E : Value → Shared → Prop} {prog : Program}
theorem for_turn {target : Expr} {it : Value} {body orelse : List Stmt} {env : Env}
    (h : wpAny (model prog w) A (pyNext it) (fun r s₁ => match r with
      | none => wpAny (model prog w) A (execs orelse env) (fun f s₃ => R (.ok f) s₃) (fun _ _ => False) s₁
      | some v => wpAny (model prog w) A (letOwnedTupleGo target it v) (fun _ s₁' => wpAny (model prog w) A (assign target env v) (fun _ s₂ => wpAny (model prog w) A (execs body env) (fun f s₃ => match f with
          | .next | .cont => codeAny (model prog w) A (.forLoop target it body orelse env) R s₃
          | .brk => R (.ok .next) s₃
          | .ret v => R (.ok (.ret v)) s₃) (fun _ _ => False) s₂) (fun _ _ => False) s₁') (fun _ _ => False) s₁) (fun _ _ => False) s) : codeAny (model prog w) A (.forLoop target it body orelse env) R s := by
  refine codeAny_of_tree ?_
  show wpAny _ _ ((forTurn target it body orelse env).onRaise (fun x => do noteFrame x env; theTreesLotGoes x)) _ _ s
  refine wpAny_noted ?_
  simp only [forTurn]
  refine wpAny_bind (wpAny_standAt (wpAny_bind (wpAny_onRaise (wpAny_mono h (fun r s₁ h₁ => ?_) fun _ _ h' => h'.elim))))
  cases r with
  | none => exact wpAny_pure ⟨rfl, codeAny_block (wpAny_mono h₁ (fun _ _ x => x) fun _ _ x => x.elim)⟩
  | some v =>
    refine wpAny_bind (wpAny_mono h₁ (fun _ s₁' h₁' => ?_) fun _ _ h' => h'.elim)
    refine wpAny_bind (wpAny_mono h₁' (fun _ s₂ h₂ => wpAny_bind (wpAny_mono h₂ (fun f s₃ h₃ => ?_) fun _ _ h' => h'.elim)) fun _ _ h' => h'.elim)
    cases f with
    | next => exact wpAny_pure ⟨rfl, h₃⟩
    | cont => exact wpAny_pure ⟨rfl, h₃⟩
    | brk => exact wpAny_pure h₃
    | ret v => exact wpAny_pure h₃
theorem J.iter (j : J T g W h₀ L h m kn) {a : Addr} {o o' : Obj} (i : Nat) (hi : kn[i]? = some (a, o)) (hw : a ∈ W ∨ h₀.get? a = none) (hc : ¬ isTup o) (hs : Heap.SameBut a h h') (ge : h'.get? a = some o') :
    J T g W h₀ L h' m (kn.set i (a, o')) ∧ Mv T g [a] h h' := by
  have hm : (a, o) ∈ kn := List.mem_of_getElem? hi
  have z := j.has _ hm
  obtain ⟨oL, es, n, hL, r⟩ := j.ns
  refine ⟨⟨⟨j.mv.st.same z.2.2.2 hs, fun b ob eb ht hb => ?_, fun b ob eb => ?_⟩, ⟨oL, es, n, (hs.2 L (Ne.symm z.2.1)).trans hL, r⟩, j.Lt, j.Ln, j.Lg, fun p hp => ?_, ?_, j.s0⟩, j.mv.st.same z.2.2.2 hs, fun b ob eb ht hb => (hs.2 b fun q => ?_).trans eb, fun b ob eb => ?_⟩
  · have := j.mv.keep b ob eb ht hb
    refine (hs.2 b fun q => ?_).trans this
    subst q
    rw [z.1] at this
    cases this
    rcases hw with hw | hw
    · rcases hb with hb | hb
      · exact hb hw
      · exact hc hb
    · rw [hw] at eb; cases eb
  · obtain ⟨o₁, e₁⟩ := j.mv.there b ob eb
    by_cases q : b = a
    · subst q; exact ⟨_, ge⟩
    · exact ⟨o₁, (hs.2 b q).trans e₁⟩
  · rcases List.mem_or_eq_of_mem_set hp with hp' | rfl
    · by_cases q : p.1 = a
      · obtain ⟨k, hk⟩ := List.getElem?_of_mem hp
        by_cases hki : k = i
        · subst hki
          have hl : k < kn.length := (List.getElem?_eq_some_iff.mp hi).1
          rw [List.getElem?_set_self hl] at hk
          cases hk
          exact ⟨ge, z.2⟩
        · exfalso
          rw [List.getElem?_set_ne (fun q => hki q.symm)] at hk
          have hk' : (kn.map (·.1))[k]? = some a := by rw [List.getElem?_map, hk, ← q]; rfl
          have hi' : (kn.map (·.1))[i]? = some a := by rw [List.getElem?_map, hi]; rfl
          have hlk := (List.getElem?_eq_some_iff.mp hk').1
          exact hki ((List.getElem?_inj hlk j.nd).mp (hk'.trans hi'.symm))
      · exact ⟨(hs.2 p.1 q).trans (j.has p hp').1, (j.has p hp').2⟩
    · exact ⟨ge, z.2⟩
  · rw [List.map_set]
    have hi' : (kn.map (·.1))[i]? = some a := by rw [List.getElem?_map, hi]; rfl
    obtain ⟨hl, he⟩ := List.getElem?_eq_some_iff.mp hi'
    have : (kn.map (·.1)).set i a = kn.map (·.1) := by
      rw [← he]; exact List.set_getElem_self hl
    rw [show (a, o').1 = a from rfl, this]
    exact j.nd
  · subst q
    rw [z.1] at eb
    cases eb
    rcases hb with hb | hb
    · exact hb (.head _)
    · exact hc hb
  · by_cases q : b = a
    · subst q; exact ⟨o', ge⟩
    · exact ⟨ob, (hs.2 b q).trans eb⟩
def Kp (T : Tabs) (W : List Addr) (h h' : Heap) : Prop := ∀ b o, h.get? b = some o → b ∉ T.map (·.2) → (b ∉ W ∨ isTup o) → h'.get? b = some o
theorem IsPair.kp {v : Value} {p : Str × Str} (a : IsPair h v p) (S : St T g h) (k : Kp T W h h') : IsPair h' v p := by
  obtain ⟨t, ta, tb, e, b⟩ := a
  exact ⟨t, ta, tb, e, k _ _ b (S.notTab b (by nofun)) (.inr ⟨rfl, _, _, rfl⟩)⟩
theorem Acc.kp {x d : Addr} {ps : List (Str × Str)} {n : Int} (a : Acc w h x d ps n) (S : St T g h) (k : Kp T W h h') (hx : x ∉ W) (hd : d ∉ W) : Acc w h' x d ps n := by
  obtain ⟨its, ep, tk, tn, a, p⟩ := a
  exact ⟨its, ep, tk, tn, ⟨k _ _ a.o (S.notTab a.o (by nofun)) (.inl hx), k _ _ a.d (S.notTab a.d (by nofun)) (.inl hd)⟩, p.imp fun _ _ q => q.kp S k⟩
theorem FmtAt.kp {f df l x d : Addr} {width : Int} {lines : List Str} {ps : List (Str × Str)} {n : Int} (F : FmtAt w g h f df l x d width lines ps n) (S : St T g h) (k : Kp T W h h') (hW : ∀ b ∈ W, b ≠ f ∧ b ≠ df ∧ b ≠ l ∧ b ≠ x ∧ b ≠ d) : FmtAt w g h' f df l x d width lines ps n := by
  have no : ∀ b, (b = f ∨ b = df ∨ b = l ∨ b = x ∨ b = d) → b ∉ W := fun b hb hm => by
    obtain ⟨a1, a2, a3, a4, a5⟩ := hW b hm
    rcases hb with q | q | q | q | q
    · exact a1 q
    · exact a2 q
    · exact a3 q
    · exact a4 q
    · exact a5 q
  obtain ⟨es, e1, e2⟩ := F.dd
  obtain ⟨its, ep, e3, e4⟩ := F.lst
  exact ⟨k _ _ F.o (S.notTab F.o (by nofun)) (.inl (no _ (by exact .inl rfl))), ⟨es, k _ _ e1 (S.notTab e1 (by nofun)) (.inl (no _ (by exact .inr (.inl rfl)))), e2⟩,
    ⟨its, ep, k _ _ e3 (S.notTab e3 (by nofun)) (.inl (no _ (by exact .inr (.inr (.inl rfl))))), e4⟩, F.acc.kp S k (no _ (by exact .inr (.inr (.inr (.inl rfl))))) (no _ (by exact .inr (.inr (.inr (.inr rfl))))), F.zl, F.zx, F.zd⟩
theorem J.used (ja : J T g W h₀ L s.heap m kn) {I : Addr} {o : Obj} {s₁ : Shared} {m₁ : Str → Option Value} {kn₁ : List (Addr × Obj)} (j : J T g W h₀ L s₁.heap m₁ ((I, o) :: kn₁)) (hI : s.heap.objs.size ≤ I) (hk : ∀ p ∈ kn₁, p.1 < s.heap.objs.size) (ho : ¬ isTup o) (hx : Heap.ExtBut I s₁.heap h') (hLs : L < s.heap.objs.size) :
    J T g W h₀ L h' m₁ kn₁ ∧ Kp T [I] s₁.heap h' := by
  refine ⟨?_, fun b ob e ht hb => ?_⟩
  · have h0 : ∀ {b o'}, h₀.get? b = some o' → b ≠ I := fun e q => by
      obtain ⟨_, e'⟩ := ja.mv.there _ _ e
      subst q
      exact absurd (Heap.lt_size e') (Nat.not_lt.mpr hI)
    have hg : ∀ {b o'}, g.get? b = some o' → b ≠ I := fun e q => by
      obtain ⟨_, e'⟩ := ja.mv.st.old.there _ _ e
      subst q
      exact absurd (Heap.lt_size e') (Nat.not_lt.mpr hI)
    have hT : ∀ p ∈ T, p.2 ≠ I ∧ p.1 ≠ I := fun p hp => by
      obtain ⟨ps, ps₀, x, y, z⟩ := ja.mv.st.tab p hp
      obtain ⟨⟨o₁, vs, e₁, r⟩, _⟩ := id y
      exact ⟨fun q => absurd (Heap.lt_size y.2) (q ▸ Nat.not_lt.mpr hI), fun q => absurd (Heap.lt_size e₁) (q ▸ Nat.not_lt.mpr hI)⟩
    obtain ⟨oL, es, n, eL, r⟩ := j.ns
    have hLI : L ≠ I := fun q => absurd hLs (q ▸ Nat.not_lt.mpr hI)
    have eL' := hx _ _ hLI eL
    refine ⟨⟨⟨?_, fun b o e ht => hx _ _ (hg e) (j.mv.st.keep b o e ht), fun p hp => ?_, Nat.le_of_lt (Nat.lt_of_le_of_lt j.Lg (Heap.lt_size eL'))⟩, fun b o e ht hb => hx _ _ (h0 e) (j.mv.keep b o e ht hb), fun b o e => ?_⟩, ⟨oL, es, n, eL', r⟩, j.Lt, j.Ln, j.Lg, fun p hp => ⟨hx _ _ (fun q => absurd (hk p hp) (q ▸ Nat.not_lt.mpr hI)) (j.has p (.tail _ hp)).1, (j.has p (.tail _ hp)).2⟩, (List.nodup_cons.mp j.nd).2, j.s0⟩
    · have K := j.mv.st.old
      refine ⟨fun b o e => ?_, fun b o e => let ⟨o', ho'⟩ := K.there b o e; ⟨o', hx _ _ (hg e) ho'⟩⟩
      rcases K.old b o e with x | ⟨t, hc, vs, more, hv, x⟩ | ⟨rfl, hc, ⟨o', es, n, ho', r⟩, z⟩
      · exact .inl (hx _ _ (hg e) x)
      · exact .inr (.inl ⟨t, hc, vs, more, hv, hx _ _ (hg e) x⟩)
      · exact .inr (.inr ⟨rfl, hc, ⟨o', es, n, hx _ _ (hg e) ho', r⟩, fun key => by rw [OldK.staticOf_congr ((hx _ _ (hg e) ho').trans ho'.symm) key]; exact z key⟩)
    · obtain ⟨ps, ps₀, x, y, z⟩ := j.mv.st.tab p hp
      exact ⟨ps, ps₀, x.extBut hx (hT p hp).2 (hT p hp).1, y.extBut hx (hT p hp).2 (hT p hp).1, z⟩
    · obtain ⟨o', e'⟩ := j.mv.there b o e
      exact ⟨o', hx _ _ (h0 e) e'⟩
  · by_cases q : b = I
    · subst q
      rw [(j.has _ (.head _)).1] at e
      cases e
      rcases hb with hb | hb
      · exact absurd (.head _) hb
      · exact absurd hb ho
    · exact hx _ _ q e
end
end Mine
end
noncomputable section
open PySem PySem.W PySem.Calls PyProof.Rows Builtin Builtin.ObjectAttr
namespace Mine
section
variable {T : Tabs} {K : Frag} {cd : ClassData} {mg mb : Str → Option Value} {w : World} {A : Around} {s : Shared} {g h₀ h h' : Heap} {W W' : List Addr} {L C : Addr} {m : Str → Option Value} {kn : List (Addr × Obj)} {R : Result → Shared → Prop} {E : Value → Shared → Prop} {prog : Program}
variable {f df l x d : Addr} {width : Int} {lines lines' : List Str} {ps ps' : List (Str × Str)} {n n' : Int}
theorem subTail_builtin {value slice : Expr} {o i : Value} {T id : String} {Q : Value → Shared → Prop} (hT : s.TypeIs o T)
    (hl : typeLookup (.type T) "__getitem__" = pure (some (.builtin id))) (h : wpAny (model prog w) A (getItem o i) Q E s)
    (hs : (subscripted slice false o i = operate [o, i] (getItem o i)) ∨ (subscripted slice false o i = operate [i, o] (getItem o i))) : wpAny (model prog w) A (subscriptTail value slice o i) Q E s := by
  unfold subscriptTail
  refine wpAny_bind ?_
  rw [getitemInPython_of_ne hT.not_modules]
  refine wpAny_bind (wpAny_specialOf hT hl ?_)
  have fin : wpAny (model prog w) A (subscripted slice false o i) (fun r s₃ => wpAny (model prog w) A (letTemporaryGo value o r >>= fun _ => pure r) Q E s₃) E s := by
    rcases hs with hs | hs <;>
    · rw [hs]
      exact wpAny_operating (wpAny_mono h (fun r s₃ h₃ => wpAny_bind (wpAny_letTemporaryGo (wpAny_pure h₃))) fun _ _ x => x)
  first
    | exact wpAny_pure (wpAny_bind fin)
    | exact wpAny_bind (wpAny_pure (wpAny_bind fin))
    | exact wpAny_bind fin
set_option maxHeartbeats 1000000 in
theorem list_getInt {a : Addr} {o : Obj} {its : Array Value} {ep : Nat} {k : Int} {tk : Tok} {v : Value} {Q : Value → Shared → Prop} (LA : LstAt (model prog w) s.heap a o its ep) (h0 : 0 ≤ k) (hk : k < 2 ^ 63) (hv : its[k.toNat]? = some v) (h : Q v s) :
    wpAny (model prog w) A (call (.builtin "list.__getitem__") [.ref a, .int k tk]) Q E s := by
  refine wpAny_call (codeAny_call_builtin PySem.F.slot_list_getitem.plain PySem.F.entry_list_getitem (check_meth (i := "list.__getitem__") (owner := "list") (n := "__getitem__") (self := .ref a) (rest := [.int k tk]) (kw := []) kind_getitem split_getitem LA.inst (by exact PySem.F.args_list_getitem_2 _ _) ?_))
  show wpAny _ _ (Builtin.List.listSubscript? (.int k tk) >>= _) _ _ s
  refine wpAny_bind (wpAny_listSubscript_int (fitsIndex_of h0 hk) ?_)
  clear hk
  obtain ⟨j, rfl⟩ := Int.eq_ofNat_of_zero_le h0
  have hx' : its[j]? = some v := hv
  show wpAny _ _ ((seqItemAt a j >>= fun r => pure (r.map (j, ·))) >>= _) _ _ s
  refine wpAny_bind (wpAny_bind (wpAny_seqItemAt LA.at_ LA.data (wpAny_pure ?_)))
  rw [hx']
  first
    | exact wpAny_bind (wpAny_pure (wpAny_pure h))
    | exact wpAny_pure h
end
end Mine
end
noncomputable section
open PySem PySem.W PySem.Calls PyProof.Rows Builtin Builtin.ObjectAttr
namespace Mine
section
variable {T : Tabs} {K : Frag} {cd : ClassData} {mg mb : Str → Option Value} {w : World} {A : Around} {s : Shared} {g h₀ h h' : Heap} {W W' : List Addr} {L C : Addr} {m : Str → Option Value} {kn : List (Addr × Obj)} {R : Result → Shared → Prop} {E : Value → Shared → Prop} {prog : Program}
variable {f df l x d : Addr} {width : Int} {lines lines' : List Str} {ps ps' : List (Str × Str)} {n n' : Int}
abbrev sp (b : Str) : Str × Str := ((" " : Str), b)
theorem Small.left {ps qs : List (Str × Str)} (z : Small (ps ++ qs)) : Small ps := by
  obtain ⟨a, b⟩ := z
  rw [List.map_append, List.sum_append] at a
  rw [List.length_append] at b
  exact ⟨by lia, by lia⟩
def chunkF (width : Int) (st : List Str × List (Str × Str)) (b : Str) : List Str × List (Str × Str) :=
  if plen (st.2 ++ [sp b]) > width then (if st.2 = [] then (st.1, [sp b]) else (st.1 ++ [ptext st.2], [sp b])) else (st.1, st.2 ++ [sp b])
theorem bind_popf1 {s : Shared} (X : Fx K cd) (Y : K.In s.heap) (x : Addr) (k : Int) (tk : Tok) (fd : FuncData) (h1 : fd.params = fArgs (inCls 6 2)) (h2 : fd.defaults = .ref 140) : BindsTo s fd ⟨[.ref x, .int k tk], []⟩ [("self", .ref x), ("i", .int k tk)] := by
  obtain ⟨d, n, sl, tk', e⟩ := X.d140
  obtain ⟨a1, a2, a3, a4, a5, a6, a7, a8, a9, a10, a11, a12, a13, a14⟩ := fd
  dsimp only at h1 h2
  subst h1 h2
  exact BindsTo.of_defaults rfl (Y _ _ e) rfl rfl rfl
theorem bind_reset1 {s : Shared} (X : Fx K cd) (Y : K.In s.heap) (x l : Addr) (fd : FuncData) (h1 : fd.params = fArgs (inCls 6 6)) (h2 : fd.defaults = .ref 170) : BindsTo s fd ⟨[.ref x, .ref l], []⟩ [("self", .ref x), ("startval", .ref l)] := by
  obtain ⟨d, n, sl, e⟩ := X.d170
  obtain ⟨a1, a2, a3, a4, a5, a6, a7, a8, a9, a10, a11, a12, a13, a14⟩ := fd
  dsimp only at h1 h2
  subst h1 h2
  exact BindsTo.of_defaults rfl (Y _ _ e) rfl rfl rfl
theorem acc_size {expr : Bool} {Q : Value → Shared → Prop} (G : Gb T K mg mb g) (X : Fx K cd) (S : St T g s.heap) (a : Acc w s.heap x d ps n) (h : ∀ tn t', Q (.int n tn) { s with toks := t' }) : wpAny (model prog w) A (getAttr (.ref x) "_initial_size" expr) Q E s := by
  obtain ⟨its, ep, tk, tn, a', p⟩ := a
  exact a_attr G X S a' rfl fun t' _ => h tn t'
theorem boot_range' : bootBuiltins "range" = some (.type "range") := by kernel_rfl
theorem rsize (a : Nat) : Builtin.Range.rangeSize (a : Int) 0 (-1) = a := by
  unfold Builtin.Range.rangeSize
  simp
  lia
theorem rsmall (a : Nat) (h : a ≤ 100000) : Builtin.Range.small (a : Int) 0 (-1) = true := by
  unfold Builtin.Range.small
  rw [rsize]
  simp [Builtin.Range.rangeFitsLong]
  lia
set_option maxHeartbeats 4000000 in
theorem chunk_spec {b : Str} {ta tb : Tok} (V : Fv K) (X : Fx K cd) (X2 : Fx2 K) (G : Gb T K mg mb g) (GM : Gm mg) (S : St T g s.heap) (r : Rm A 10) (hT : (161, 157) ∈ T) (hT2 : (168, 164) ∈ T)
   (F : FmtAt w g s.heap f df l x d width lines ps 0) (hz : Small (ps ++ [sp b])) (hll : lines.length ≤ 1000) (hpos : 0 ≤ plen (ps ++ [sp b])) (hup : plen (ps ++ [sp b]) ≤ 10000000)
   (hR : ∀ s', Mv T g [l, x, d] s.heap s'.heap → Ok s s' → FmtAt w g s'.heap f df l x d width (chunkF width (lines, ps) b).1 (chunkF width (lines, ps) b).2 0 → R (.ok (.ret .none)) s') :
   codeAny (model PR w) A (.call (.ref 108) ⟨[.ref f, .str " " ta, .str b tb], []⟩) R s := by
  obtain ⟨oc, od, osl, name, kV, doc, pm, an, ct, hob, hcd⟩ := V.chunk
  obtain ⟨its, ep, hl, hli⟩ := F.lst
  have hpsl : ps.length ≤ 999 := by have := hz.2; simp at this; omega
  have N := F.ne
  refine' j_callK (binds := [("self", .ref f), ("fws", .str " " ta), ("string", .str b tb)]) [l, x, d] [(l, ({ cls := .type "list", data := .seq its ep } : Obj))] G S ?hkn hob hcd r.lt (BindsTo.of_eq rfl) (locs rfl) (by decide) ?_ rfl rfl rfl
  case hkn => exact ⟨fun q hq => by rw [List.mem_singleton.mp hq]; exact ⟨hl, S.notTab hl (by nofun), F.zl⟩, by exact nd1⟩
  intro L h₁ t₁ j mv₁
  obtain ⟨ix, epx, hx0⟩ := F.acc.o
  obtain ⟨tkd, tnd, hd0⟩ := F.acc.d
  obtain ⟨es₀, dfe, _⟩ := F.dd
  have fL : f ≠ L := j.neL F.o
  have dfL : df ≠ L := j.neL dfe
  have xL : x ≠ L := j.neL hx0
  have dL : d ≠ L := j.neL hd0
  have lL : l ≠ L := j.neL hl
  have rr := r.deeper (env := envX "_ValueFormatter._append_chunk" (fScope (inCls 5 8)) L 108 (.ref 107) [])
  have F₁ := F.mv0 S mv₁
  obtain ⟨N1, N2, N3, N4, N5, N6, N7, N8⟩ := N
  refine wpAny_execs_cons (qcut fun Q1 hQ1 => wpAny_Expr (MethodCall_ (Attribute_name ?_)))
  refine j_local (s := { s with heap := h₁, toks := t₁ }) j rfl ?_
  refine f_line (s := { s with heap := h₁, toks := t₁ }) V G j.mv.st F₁ fun t₂ => ?_
  refine acc_meth (s := { s with heap := h₁, toks := t₂ }) G X j.mv.st F₁.acc X.fPush (X.keep 139 (by decide)).2 ?_
  refine j_callWith (X.keep 139 (by decide)).1 (args_cons ?_)
  refine j_local (s := { s with heap := h₁, toks := t₂ }) j rfl (args_cons ?_)
  refine j_local (s := { s with heap := h₁, toks := t₂ }) j rfl (args_nil ⟨j.mv.st.In G, wpAny_call ?_⟩)
  refine push_acc (s := { s with heap := h₁, toks := t₂ }) G X j.mv.st (rr.mono (by decide)) F₁.acc F.zx (by exact Nat.le_succ_of_le hpsl) fun h₂ t₃ mv₂ a₂ => ?_
  replace a₂ : Acc w h₂ x d (ps ++ [sp b]) 0 := a₂
  have j₂ := j.callK mv₂ (by exact ni1 xL.symm) (by exact al1 (.inl m2)) (by exact al1 (ni1 N7))
  have F₂ := F₁.line j.mv.st mv₂ (by exact al1 (.inl rfl)) a₂
  subst hQ1
  dsimp only
  refine wpAny_execs_cons (qcut fun Q2 hQ2 => wpAny_If (wpAny_isTrue_Compare1 (Call_ ?_)))
  refine j_builtin (s := { s with heap := h₂, toks := t₃ }) G j₂ GM.len boot_len ?_
  refine callWith_method1 (first := []) (args_cons (Attribute_name ?_))
  refine j_local (s := { s with heap := h₂, toks := t₃ }) j₂ rfl ?_
  refine f_line (s := { s with heap := h₂, toks := t₃ }) V G j₂.mv.st F₂ fun t₄ => args_nil ?_
  refine a_len (s := { s with heap := h₂, toks := t₄ }) G X GM j₂.mv.st (rr.mono (by decide)) hT F₂.acc hz (by lia) (by lia) fun s₃ t₅ mv₃ ok₃ => ?_
  have j₃ : J T g [l, x, d] s.heap L s₃.heap _ _ := j₂.call0 mv₃
  have F₃ := F₂.mv0 j₂.mv.st mv₃
  have ok₃' : Ok s s₃ := ⟨ok₃.1, ok₃.2⟩
  refine Attribute_name (j_local (s := s₃) j₃ rfl ?_)
  refine f_max (s := s₃) V G j₃.mv.st F₃ fun t₆ t₇ => gt_int' (wpAny_truthy_bool ?_)
  by_cases hw : plen (ps ++ [sp b]) > width
  · rw [show decide (0 + plen (ps ++ [sp b]) > width) = true from decide_eq_true (by lia), if_pos rfl]
    refine wpAny_execs_cons (qcut fun Q3 hQ3 => wpAny_For (Attribute_name ?_))
    refine j_local (s := { s₃ with toks := t₇ }) j₃ rfl ?_
    refine f_split (s := { s₃ with toks := t₇ }) V G j₃.mv.st F₃ fun ts t₈ => ?_
    refine wpAny_pyIter_ascii (by decide +kernel) ?_
    have j₄ := j₃.push { cls := .type "str_ascii_iterator", data := .fields #[.str " " ts, .int 0 0] } rfl
    have nI : s.heap.get? s₃.heap.objs.size = none := j₃.new
    have mv₄ := Mv.push j₃.mv.st { cls := .type "str_ascii_iterator", data := .fields #[.str " " ts, .int 0 0] }
    have hI : s₃.heap.objs.size ≤ s₃.heap.objs.size := Nat.le_refl _
    revert j₄ nI mv₄ hI
    dsimp only
    generalize s₃.heap.push _ = h₄
    generalize hId : s₃.heap.objs.size = I
    intro j₄ nI mv₄ hI
    have F₄ := F₃.mv0 j₃.mv.st mv₄
    have nF : ∀ {b o}, s₃.heap.get? b = some o → b ≠ I := fun e => by rw [← hId]; exact Nat.ne_of_lt (Heap.lt_size e)
    obtain ⟨es₃, dfe₃, _⟩ := F₃.dd
    obtain ⟨its₃, ep₃, hl₃, hli₃⟩ := F₃.lst
    obtain ⟨ix₃, epx₃, hx₃⟩ := F₃.acc.o
    obtain ⟨tkd₃, tnd₃, hd₃⟩ := F₃.acc.d
    have fI := nF F₃.o
    have dfI := nF dfe₃
    have lI := nF hl₃
    have xI := nF hx₃
    have dI := nF hd₃
    refine for_turn ?_
    refine wpAny_pyNext_ascii_item (s := { s₃ with heap := h₄, toks := t₈ }) (x := " ") (t := ts) (i := 0) (c := 32) ⟨_, j₄.get (.head _), rfl, rfl⟩ (by decide +kernel) fun h₅ hit₅ sb₅ => ?_
    obtain ⟨o₅, e₅, c₅, d₅⟩ := hit₅
    obtain ⟨j₅, mv₅⟩ := j₄.iter 0 rfl (.inr nI) (by rintro ⟨q, _⟩; simp at q) sb₅ e₅
    have F₅ := F₄.out j₄.mv.st mv₅ (by exact al1 ⟨fI.symm, dfI.symm, lI.symm, xI.symm, dI.symm⟩)
    refine wpAny_of_eq rfl ?_
    refine wpAny_assign_Name ?_
    refine j_storeK (s := { s₃ with heap := h₅, toks := t₈ + 1 }) j₅ fun h₆ t₉ j₆ mv₆ => ?_
    have F₆ := F₅.out j₅.mv.st mv₆ (by exact al1 ⟨fL.symm, dfL.symm, lL.symm, xL.symm, dL.symm⟩)
    refine wpAny_execs_cons (qcut fun Q4 hQ4 => wpAny_For (Call_ ?_))
    refine j_builtin (s := { s₃ with heap := h₆, toks := t₉ }) G j₆ GM.range boot_range' ?_
    refine PyProof.Rows.callWith_type1 (args_cons (wpAny_BinOp (MethodCall_ (Attribute_name ?_))))
    refine j_local (s := { s₃ with heap := h₆, toks := t₉ }) j₆ rfl ?_
    refine f_line (s := { s₃ with heap := h₆, toks := t₉ }) V G j₆.mv.st F₆ fun t₁₀ => ?_
    refine acc_meth (s := { s₃ with heap := h₆, toks := t₁₀ }) G X j₆.mv.st F₆.acc X.fCount (X.keep 192 (by decide)).2 ?_
    refine j_callWith0 (s := { s₃ with heap := h₆, toks := t₁₀ }) G j₆.mv.st (X.keep 192 (by decide)).1 (wpAny_call ?_)
    refine count_acc (s := { s₃ with heap := h₆, toks := t₁₀ }) G X j₆.mv.st (rr.mono (by decide)) F₆.acc fun h₇ t₁₁ t₁₂ mv₇ => ?_
    have j₇ := j₆.call0 mv₇
    have F₇ := F₆.mv0 j₆.mv.st mv₇
    refine wpAny_Constant_int (PySem.P.sub_int ?_)
    refine args_cons (wpAny_Constant_int (args_cons ?_))
    refine wpAny_UnaryOp (wpAny_Constant_int (PySem.P.neg_int (args_nil ?_)))
    dsimp only
    rw [show (((ps ++ [sp b]).length : Int) - 1) = (ps.length : Int) from by simp]
    show wpAny _ _ (call (.type "range") [.int (ps.length : Int) _, .int 0 _, .int (-1) _]) _ _ _
    refine call_range_3 (by decide) ?_ (.inl (PyProof.noPylong_small (by exact Nat.le_add_left _ _)))
    generalize hrg : ({ cls := .type "range", data := .fields #[.int (ps.length : Int) _, .int 0 _, .int (-1) _] } : Obj) = rg
    have nR : s.heap.get? h₇.objs.size = none := j₇.new
    have j₈ := j₇.push rg (by rw [← hrg]; rfl)
    have mv₈ := Mv.push j₇.mv.st rg
    have F₈ := F₇.mv0 j₇.mv.st mv₈
    have e₈ : (h₇.push rg).get? h₇.objs.size = some rg := j₈.get (.head _)
    rw [← hrg] at e₈
    refine wpAny_pyIter_range (by rw [← hrg]; exact e₈) (rsmall _ (by exact Nat.le_trans (by assumption) (by decide))) ?_
    have j₉ := j₈.push { cls := .type "range_iterator", data := .fields #[rawInt (ps.length : Int), rawInt (Builtin.Range.rangeSize (ps.length : Int) 0 (-1)), rawInt (-1)] } rfl
    have mv₉ := Mv.push j₈.mv.st { cls := .type "range_iterator", data := .fields #[rawInt (ps.length : Int), rawInt (Builtin.Range.rangeSize (ps.length : Int) 0 (-1)), rawInt (-1)] }
    have nJ : s.heap.get? (h₇.push rg).objs.size = none := j₈.new
    have F₉ := F₈.mv0 j₈.mv.st mv₉
    rw [rsize] at j₉ mv₉ F₉ ⊢
    dsimp only
    have klt : ∀ p ∈ [((h₇.objs.size : Addr), rg), (I, o₅), (l, ({ cls := .type "list", data := .seq its ep } : Obj))], p.1 < (h₇.push rg).objs.size := fun p hp => Heap.lt_size (j₈.has p hp).1
    have Llt : L < (h₇.push rg).objs.size := by
      obtain ⟨_, _, _, e, _⟩ := j₈.ns
      exact Heap.lt_size e
    have nF₈ : ∀ {b o}, (h₇.push rg).get? b = some o → b ≠ (h₇.push rg).objs.size := fun e => Nat.ne_of_lt (Heap.lt_size e)
    generalize h₇.push rg = h₈ at *
    generalize h₈.push _ = h₉ at *
    by_cases hps : ps = []
    · subst hps
      refine for_turn ?_
      refine wpAny_pyNext_range_end (s := { s₃ with heap := h₉, toks := _ }) (x := 0) (left := 0) (step := -1) rr.h (j₉.get (.head _)) (by decide) fun h₁₀ ex₁₀ => ?_
      obtain ⟨j₁₀, kp₁₀⟩ := J.used (s := { s₃ with heap := h₈ }) (s₁ := { s₃ with heap := h₉ }) j₈ j₉ (Nat.le_refl _) klt (by rintro ⟨q, _⟩; simp at q) ex₁₀ Llt
      obtain ⟨es₈, dfe₈, _⟩ := F₈.dd
      obtain ⟨its₈, ep₈, hl₈, _⟩ := F₈.lst
      obtain ⟨ix₈, epx₈, hx₈⟩ := F₈.acc.o
      obtain ⟨tkd₈, tnd₈, hd₈⟩ := F₈.acc.d
      have F₁₀ := F₉.kp j₉.mv.st kp₁₀ (by exact al1 ⟨(nF₈ F₈.o).symm, (nF₈ dfe₈).symm, (nF₈ hl₈).symm, (nF₈ hx₈).symm, (nF₈ hd₈).symm⟩)
      dsimp only
      refine wpAny_execs_cons (wpAny_Continue ?_)
      subst hQ4
      dsimp only
      refine for_turn ?_
      have j₁₁ := j₁₀.sub (List.sublist_cons_self _ _)
      refine wpAny_pyNext_ascii_end (s := { s₃ with heap := h₁₀, toks := _ }) (x := " ") (t := ts) (i := 1) rr.h ⟨_, j₁₁.get (.head _), c₅, d₅⟩ (by decide +kernel) fun h₁₂ ex₁₂ => ?_
      obtain ⟨j₁₂, kp₁₂⟩ := J.used (s := s₃) (s₁ := { s₃ with heap := h₁₀ }) j₃ j₁₁ (Nat.le_of_eq hId) (fun p hp => Heap.lt_size (j₃.has p hp).1) (by rintro ⟨q, _⟩; rw [c₅] at q; simp at q) ex₁₂ (by obtain ⟨_, _, _, e, _⟩ := j₃.ns; exact Heap.lt_size e)
      have F₁₂ := F₁₀.kp j₁₁.mv.st kp₁₂ (by exact al1 ⟨fI.symm, dfI.symm, lI.symm, xI.symm, dI.symm⟩)
      dsimp only
      refine wpAny_execs_cons (qcut fun Q5 hQ5 => Assign_Tuple (MethodCall_ (Attribute_name ?_)))
      refine j_local (s := { s₃ with heap := h₁₂, toks := _ }) j₁₂ rfl ?_
      refine f_line (s := { s₃ with heap := h₁₂, toks := _ }) V G j₁₂.mv.st F₁₂ fun t₁₃ => ?_
      refine acc_meth (s := { s₃ with heap := h₁₂, toks := t₁₃ }) G X j₁₂.mv.st F₁₂.acc X.fPop (X.keep 155 (by decide)).2 ?_
      refine j_callWith0 (s := { s₃ with heap := h₁₂, toks := t₁₃ }) G j₁₂.mv.st (X.keep 155 (by decide)).1 (wpAny_call ?_)
      refine pop_acc (s := { s₃ with heap := h₁₂, toks := t₁₃ }) (ps := []) (p := sp b) G X j₁₂.mv.st (rr.mono (by decide)) F₁₂.acc F.zx (by simp) fun v h₁₃ t₁₄ mv₁₃ a₁₃ ip => ?_
      have j₁₃ := j₁₂.callK mv₁₃ (by exact ni1 xL.symm) (by exact al1 (.inl m2)) (by exact al1 (ni1 N7))
      have F₁₃ := F₁₂.line j₁₂.mv.st mv₁₃ (by exact al1 (.inl rfl)) a₁₃
      obtain ⟨t, ta', tb', rfl, ht⟩ := ip
      dsimp only
      refine wpAny_assign_Tuple (s := { s₃ with heap := h₁₃, toks := t₁₄ }) rr.h ⟨_, ht, rfl, 0, rfl⟩ (by rfl) (by rfl) fun h₁₄ ex₁₄ => ?_
      obtain ⟨j₁₄, mv₁₄⟩ := j₁₃.keepsL fun b o e => ex₁₄ b o (Nat.ne_of_lt (Heap.lt_size e)) e
      have F₁₄ := F₁₃.mv0 j₁₃.mv.st mv₁₄
      refine wpAny_bind (wpAny_holding (wpAny_assign_Name ?_))
      refine j_storeK (s := { s₃ with heap := h₁₄, toks := t₁₄ }) j₁₄ fun h₁₅ t₁₅ j₁₅ mv₁₅ => ?_
      have F₁₅ := F₁₄.out j₁₄.mv.st mv₁₅ (by exact al1 ⟨fL.symm, dfL.symm, lL.symm, xL.symm, dL.symm⟩)
      refine wpAny_bind (wpAny_holding (wpAny_assign_Name ?_))
      refine j_storeK (s := { s₃ with heap := h₁₅, toks := t₁₅ }) j₁₅ fun h₁₆ t₁₆ j₁₆ mv₁₆ => ?_
      have F₁₆ := F₁₅.out j₁₅.mv.st mv₁₆ (by exact al1 ⟨fL.symm, dfL.symm, lL.symm, xL.symm, dL.symm⟩)
      refine wpAny_pure ?_
      subst hQ5
      dsimp only
      refine wpAny_execs_cons (qcut fun Q6 hQ6 => wpAny_If (wpAny_isTrue_Compare1 (Attribute_any_ (Attribute_name ?_))))
      refine j_local (s := { s₃ with heap := h₁₆, toks := t₁₆ }) j₁₆ rfl ?_
      refine f_line (s := { s₃ with heap := h₁₆, toks := t₁₆ }) V G j₁₆.mv.st F₁₆ fun t₁₇ => ?_
      refine acc_size (s := { s₃ with heap := h₁₆, toks := t₁₇ }) G X j₁₆.mv.st F₁₆.acc fun tn₁₈ t₁₈ => ?_
      refine wpAny_Constant_int (gt_int' (wpAny_truthy_bool ?_))
      rw [show decide ((0 : Int) > 0) = false from by decide, if_neg (by decide)]
      refine wpAny_execs_nil ?_
      subst hQ6
      dsimp only
      refine wpAny_execs_cons (qcut fun Q7 hQ7 => wpAny_Expr (MethodCall_ (Attribute_name ?_)))
      refine j_local (s := { s₃ with heap := h₁₆, toks := t₁₈ + 1 }) j₁₆ rfl ?_
      refine f_line (s := { s₃ with heap := h₁₆, toks := t₁₈ + 1 }) V G j₁₆.mv.st F₁₆ fun t₁₉ => ?_
      refine acc_meth (s := { s₃ with heap := h₁₆, toks := t₁₉ }) G X j₁₆.mv.st F₁₆.acc X.fPush (X.keep 139 (by decide)).2 ?_
      refine j_callWith (X.keep 139 (by decide)).1 (args_cons ?_)
      refine j_local (s := { s₃ with heap := h₁₆, toks := t₁₉ }) j₁₆ rfl (args_cons ?_)
      refine j_local (s := { s₃ with heap := h₁₆, toks := t₁₉ }) j₁₆ rfl (args_nil ⟨j₁₆.mv.st.In G, wpAny_call ?_⟩)
      refine push_acc (s := { s₃ with heap := h₁₆, toks := t₁₉ }) G X j₁₆.mv.st (rr.mono (by decide)) F₁₆.acc F.zx (by simp) fun h₁₇ t₂₀ mv₁₇ a₁₇ => ?_
      have j₁₇ := j₁₆.callK mv₁₇ (by exact ni1 xL.symm) (by exact al1 (.inl m2)) (by exact al1 (ni1 N7))
      have F₁₇ := F₁₆.line j₁₆.mv.st mv₁₇ (by exact al1 (.inl rfl)) a₁₇
      subst hQ7
      dsimp only
      refine wpAny_execs_cons (wpAny_Return_none ?_)
      subst hQ3 hQ2
      refine hR _ j₁₇.mv ⟨ok₃'.1, ok₃'.2⟩ ?_
      unfold chunkF
      rw [if_pos hw, if_pos rfl]
      exact F₁₇
    · have hpl : 0 < ps.length := List.length_pos_iff.mpr hps
      refine for_turn ?_
      refine wpAny_pyNext_range_item (s := { s₃ with heap := h₉, toks := _ }) (x := (ps.length : Int)) (left := (ps.length : Int)) (step := -1) (j₉.get (.head _)) (by exact ltnat hpl) fun h₁₀ hit₁₀ sb₁₀ => ?_
      obtain ⟨j₁₀, mv₁₀⟩ := j₉.iter 0 rfl (.inr nJ) (by rintro ⟨q, _⟩; simp at q) sb₁₀ hit₁₀
      obtain ⟨es₈, dfe₈, _⟩ := F₈.dd
      obtain ⟨its₈, ep₈, hl₈, _⟩ := F₈.lst
      obtain ⟨ix₈, epx₈, hx₈⟩ := F₈.acc.o
      obtain ⟨tkd₈, tnd₈, hd₈⟩ := F₈.acc.d
      have F₁₀ := F₉.out j₉.mv.st mv₁₀ (by exact al1 ⟨(nF₈ F₈.o).symm, (nF₈ dfe₈).symm, (nF₈ hl₈).symm, (nF₈ hx₈).symm, (nF₈ hd₈).symm⟩)
      refine wpAny_of_eq rfl ?_
      refine wpAny_assign_Name ?_
      refine j_storeK (s := { s₃ with heap := h₁₀, toks := _ }) j₁₀ fun h₁₁ t₁₁' j₁₁ mv₁₁ => ?_
      have F₁₁ := F₁₀.out j₁₀.mv.st mv₁₁ (by exact al1 ⟨fL.symm, dfL.symm, lL.symm, xL.symm, dL.symm⟩)
      dsimp only
      refine wpAny_execs_cons (qcut fun Q8 hQ8 => wpAny_If (wpAny_isTrue_value (MethodCall_ ?_)))
      refine j_local (s := { s₃ with heap := h₁₁, toks := t₁₁' }) j₁₁ rfl ?_
      refine s_meth PySem.F.slot_str_isspace PySem.F.type_str_isspace (callWith_method0 (SC.isspace (wpAny_truthy_bool ?_)))
      rw [show Txt.isspace ⟨#[32]⟩ = true from by decide +kernel, if_pos rfl]
      refine wpAny_execs_cons (qcut fun Q9 hQ9 => wpAny_Assign_Name (Subscript_ (Subscript_ (Attribute_name ?_))))
      refine j_local (s := { s₃ with heap := h₁₁, toks := t₁₁' }) j₁₁ rfl ?_
      refine f_line (s := { s₃ with heap := h₁₁, toks := t₁₁' }) V G j₁₁.mv.st F₁₁ fun t₁₃ => ?_
      refine j_local (s := { s₃ with heap := h₁₁, toks := t₁₃ }) j₁₁ rfl ?_
      obtain ⟨itx, epx, tkx, tnx, ax, px⟩ := F₁₁.acc
      obtain ⟨v₁, q₁, ev₁, eq₁, ip₁⟩ := All2.get px ps.length (by rw [px.len]; simp)
      have eq₁' : q₁ = sp b := by
        rw [List.getElem?_append_right (Nat.le_refl _), Nat.sub_self] at eq₁
        exact (Option.some.inj eq₁).symm
      subst eq₁'
      obtain ⟨tt, tta, ttb, rfl, htt⟩ := ip₁
      refine a_sub (s := { s₃ with heap := h₁₁, toks := t₁₃ }) G X j₁₁.mv.st ax ?_ (.inl rfl)
      refine list_getInt (s := { s₃ with heap := h₁₁, toks := t₁₃ }) (LstAt.acc (j₁₁.mv.st.In G) X.supC.lst ax.o) (by exact Int.natCast_nonneg _) (by lia) (by rw [Int.toNat_natCast, ← Array.getElem?_toList]; exact ev₁) ?_
      refine wpAny_Constant_int ?_
      refine subTail_builtin (s := { s₃ with heap := h₁₁, toks := t₁₃ + 1 }) (T := "tuple") ⟨_, htt, rfl⟩ PySem.F.slot_tuple_getitem.lookup (PyProof.Rows.getItem_tuple (s := { s₃ with heap := h₁₁, toks := t₁₃ + 1 }) ⟨_, htt, rfl, 0, rfl⟩ (by decide) (by decide) (j := 0) (by rfl) rfl ?_) (.inl rfl)
      refine j_storeK (s := { s₃ with heap := h₁₁, toks := t₁₃ + 1 }) j₁₁ fun h₁₂ t₁₄ j₁₂ mv₁₂ => ?_
      have F₁₂ := F₁₁.out j₁₁.mv.st mv₁₂ (by exact al1 ⟨fL.symm, dfL.symm, lL.symm, xL.symm, dL.symm⟩)
      subst hQ9
      dsimp only
      refine wpAny_execs_cons (qcut fun Q10 hQ10 => wpAny_If (wpAny_isTrue_BoolOp (wpAny_allTrue_And_cons (wpAny_isTrue_value ?_))))
      refine j_local (s := { s₃ with heap := h₁₂, toks := t₁₄ }) j₁₂ rfl ?_
      refine PySem.W.KXt.truthy_pos (K := 1) (show 1 ≤ (" " : Str).length from by decide +kernel) (show (" " : Str).length ≤ 1 from by decide +kernel) (by decide) fun t₁₅ => ?_
      rw [if_pos rfl]
      refine wpAny_allTrue_And_cons (wpAny_isTrue_Compare1 (Subscript_ ?_))
      refine j_local (s := { s₃ with heap := h₁₂, toks := t₁₅ }) j₁₂ rfl (wpAny_Constant_int ?_)
      refine subTail_builtin (T := "str") (typeIs_str _ _ _) PySem.F.slot_str_getitem.lookup (PySem.P.getItem_str (c := 32) (by decide) (show ((seqIndex? 0 (" " : Str).length).bind fun x => (" " : Str).cps[x]?) = some 32 from by decide +kernel) ?_) (.inl rfl)
      refine j_local (s := { s₃ with heap := h₁₂, toks := _ }) j₁₂ rfl ?_
      refine PySem.P.eq_str (wpAny_truthy_bool ?_)
      rw [show (((⟨#[32]⟩ : Str).cps.toList == (⟨#[32]⟩ : Str).cps.toList)) = true from by decide, if_pos rfl]
      refine wpAny_allTrue_And_nil ?_
      rw [if_pos rfl]
      refine wpAny_execs_cons (wpAny_Break ?_)
      subst hQ10 hQ8 hQ4
      dsimp only
      refine wpAny_execs_cons (wpAny_Break ?_)
      subst hQ3
      dsimp only
      have j₁₃ := j₁₂.sub ((List.sublist_cons_self _ _).trans ((List.sublist_cons_self _ _).trans (List.sublist_cons_self _ _)) : [(l, ({ cls := .type "list", data := .seq its ep } : Obj))].Sublist _)
      refine wpAny_execs_cons (qcut fun Q11 hQ11 => wpAny_Assign_Name (MethodCall_ (Attribute_name ?_)))
      refine j_local (s := { s₃ with heap := h₁₂, toks := _ }) j₁₃ rfl ?_
      refine f_line (s := { s₃ with heap := h₁₂, toks := _ }) V G j₁₃.mv.st F₁₂ fun t₁₆ => ?_
      refine acc_meth (s := { s₃ with heap := h₁₂, toks := t₁₆ }) G X j₁₃.mv.st F₁₂.acc X.fPopf (X.keep 147 (by decide)).2 ?_
      refine j_callWith (X.keep 147 (by decide)).1 (args_cons ?_)
      refine j_local (s := { s₃ with heap := h₁₂, toks := t₁₆ }) j₁₃ rfl (args_nil ⟨j₁₃.mv.st.In G, wpAny_call ?_⟩)
      refine popf_spec (s := { s₃ with heap := h₁₂, toks := t₁₆ }) (k := ps.length) G X j₁₃.mv.st (rr.mono (by decide)) F₁₂.acc F.zx hz.2 (bind_popf1 X (j₁₃.mv.st.In G) _ _ _) fun lr h₁₃ t₁₇ mv₁₃ a₁₃ pl₁₃ nl₁₃ gl₁₃ => ?_
      rw [List.take_left' rfl] at a₁₃
      rw [List.drop_left' rfl] at pl₁₃
      have lrL : lr ≠ L := by
        rintro rfl
        obtain ⟨_, _, _, e, _⟩ := j₁₃.ns
        rw [e] at nl₁₃
        cases nl₁₃
      have lrl : lr ≠ l := by
        rintro rfl
        have e := j₁₃.get (.head _)
        rw [e] at nl₁₃
        cases nl₁₃
      have j₁₄ := j₁₃.callK mv₁₃ (by exact ni1 xL.symm) (by exact al1 (.inl m2)) (by exact al1 (ni1 N7))
      have F₁₄ := F₁₂.line j₁₃.mv.st mv₁₃ (by exact al1 (.inl rfl)) a₁₃
      dsimp only
      refine j_storeK (s := { s₃ with heap := h₁₃, toks := t₁₇ }) j₁₄ fun h₁₅ t₁₈ j₁₅ mv₁₅ => ?_
      have F₁₅ := F₁₄.out j₁₄.mv.st mv₁₅ (by exact al1 ⟨fL.symm, dfL.symm, lL.symm, xL.symm, dL.symm⟩)
      have pl₁₅ := pl₁₃.mv j₁₄.mv.st mv₁₅ (by exact ni1 lrL)
      subst hQ11
      dsimp only
      refine wpAny_execs_cons (qcut fun Q12 hQ12 => wpAny_Expr (MethodCall_ (Attribute_name ?_)))
      refine j_local (s := { s₃ with heap := h₁₅, toks := t₁₈ }) j₁₅ rfl ?_
      refine f_lines (s := { s₃ with heap := h₁₅, toks := t₁₈ }) V G j₁₅.mv.st F₁₅ fun t₁₉ => ?_
      refine getMethod_list_append (s := { s₃ with heap := h₁₅, toks := t₁₉ }) (j₁₅.get (.head _)) rfl rfl ?_
      refine callWith_method1 (args_cons (Call_ ?_))
      refine j_builtin (s := { s₃ with heap := h₁₅, toks := t₁₉ }) G j₁₅ GM.str boot_str ?_
      refine PyProof.Rows.callWith_type1 (args_cons (Attribute_name ?_))
      refine j_local (s := { s₃ with heap := h₁₅, toks := t₁₉ }) j₁₅ rfl ?_
      refine f_line (s := { s₃ with heap := h₁₅, toks := t₁₉ }) V G j₁₅.mv.st F₁₅ fun t₂₀ => args_nil ?_
      refine a_strcall (s := { s₃ with heap := h₁₅, toks := t₂₀ }) G X GM j₁₅.mv.st (rr.mono (by decide)) hT2 F₁₅.acc (hz.left) fun s₁₆ t₂₁ mv₁₆ ok₁₆ => args_nil ?_
      have j₁₆ : J T g [l, x, d] s.heap L s₁₆.heap _ _ := j₁₅.call0 mv₁₆
      have F₁₆ := F₁₅.mv0 j₁₅.mv.st mv₁₆
      have pl₁₆ := pl₁₅.mv j₁₅.mv.st mv₁₆ (by exact ni0)
      have ok₁₆' : Ok s s₁₆ := ⟨ok₁₆.1.trans ok₃'.1, fun a => ok₁₆.2 (ok₃'.2 a)⟩
      have hil : its.size = lines.length := by rw [← StrsAre.len hli, Array.length_toList]
      refine list_append_any (LstAt.exact (j₁₆.get (.head _))) (by rw [sizeLine_eq]; lia) ?_
      obtain ⟨ep', ee⟩ := mapSeq_lst its (its.push (.str (ptext ps) t₂₁)) ep (·.push (.str (ptext ps) t₂₁)) rfl
      have j₁₇ := j₁₆.update 0 rfl (.inl (by exact m1)) (by exact tnL) ee rfl
      have mv₁₇ := j₁₆.updMv (.head _) (by exact tnL) ee rfl
      revert j₁₇ mv₁₇
      generalize s₁₆.heap.update l _ = h₁₇
      intro j₁₇ mv₁₇
      have F₁₇ : FmtAt w g h₁₇ f df l x d width (lines ++ [ptext ps]) ps 0 :=
        F₁₆.all j₁₆.mv.st mv₁₇ (by exact al1 (.inl rfl)) ⟨_, _, j₁₇.get (.head _), by rw [Array.toList_push]; exact strs_snoc hli⟩ (F₁₆.acc.mv j₁₆.mv.st mv₁₇ (by exact ni1 N7.symm) (by exact ni1 N8.symm))
      have pl₁₇ := pl₁₆.mv j₁₆.mv.st mv₁₇ (by exact ni1 lrl)
      subst hQ12
      show wpAny _ _ (execs _ _) _ _ _
      refine wpAny_execs_cons (qcut fun Q13 hQ13 => wpAny_Expr (MethodCall_ (Attribute_name ?_)))
      refine j_local (s := { s₁₆ with heap := h₁₇ }) j₁₇ rfl ?_
      refine f_line (s := { s₁₆ with heap := h₁₇ }) V G j₁₇.mv.st F₁₇ fun t₂₂ => ?_
      refine acc_meth (s := { s₁₆ with heap := h₁₇, toks := t₂₂ }) G X j₁₇.mv.st F₁₇.acc X.fReset (X.keep 177 (by decide)).2 ?_
      refine j_callWith (X.keep 177 (by decide)).1 (args_cons ?_)
      refine j_local (s := { s₁₆ with heap := h₁₇, toks := t₂₂ }) j₁₇ rfl (args_nil ⟨j₁₇.mv.st.In G, wpAny_call ?_⟩)
      refine reset_spec (s := { s₁₆ with heap := h₁₇, toks := t₂₂ }) (qs := [sp b]) (v := .ref lr) G X j₁₇.mv.st (rr.mono (by decide)) F₁₇.acc F.zx F.zd (by exact Nat.le_succ_of_le hpsl) (by simp) (.inr ⟨lr, rfl, pl₁₇, gl₁₃⟩) (bind_reset1 X (j₁₇.mv.st.In G) x lr) fun h₁₈ t₂₃ mv₁₈ a₁₈ => ?_
      have j₁₈ := j₁₇.callK mv₁₈ (by exact ni2 xL.symm dL.symm) (by exact al2 (.inl m2) (.inl m3)) (by simp [N7, N8])
      have F₁₈ := F₁₇.line j₁₇.mv.st mv₁₈ (by exact al2 (.inl rfl) (.inr rfl)) a₁₈
      subst hQ13
      refine wpAny_execs_nil ?_
      subst hQ2
      dsimp only
      refine wpAny_execs_nil (hR _ j₁₈.mv ⟨ok₁₆'.1, ok₁₆'.2⟩ ?_)
      unfold chunkF
      rw [if_pos hw, if_neg hps]
      exact F₁₈
  · rw [show decide (0 + plen (ps ++ [sp b]) > width) = false from decide_eq_false (by lia), if_neg (by decide)]
    refine wpAny_execs_nil ?_
    subst hQ2
    show wpAny _ _ (execs [] _) _ _ _
    refine wpAny_execs_nil (hR _ j₃.mv ⟨ok₃'.1, ok₃'.2⟩ ?_)
    unfold chunkF
    rw [if_neg hw]
    exact F₃
end
end Mine
end
noncomputable section
open PySem PySem.W PySem.Calls PyProof.Rows Builtin Builtin.ObjectAttr
namespace Mine
section
variable {T : Tabs} {K : Frag} {cd : ClassData} {mg mb : Str → Option Value} {w : World} {A : Around} {s : Shared} {g h₀ h h' : Heap} {W W' : List Addr} {L C : Addr} {m : Str → Option Value} {kn : List (Addr × Obj)} {R : Result → Shared → Prop} {E : Value → Shared → Prop} {prog : Program}
variable {f df l x d : Addr} {width : Int} {lines lines' : List Str} {ps ps' : List (Str × Str)} {n n' : Int}
set_option maxHeartbeats 4000000 in
theorem fstr_spec {p : Str × Str} {sep : Str} {ts : Tok} (V : Fv K) (X : Fx K cd) (X2 : Fx2 K) (G : Gb T K mg mb g) (GM : Gm mg) (S : St T g s.heap) (r : Rm A 10) (hT : (161, 157) ∈ T) (hT2 : (168, 164) ∈ T)
   (F : FmtAt w g s.heap f df l x d width lines (ps ++ [p]) n) (hz : Small (ps ++ [p])) (hn0 : 0 ≤ n) (hn1 : n ≤ 1000000) (hll : lines.length ≤ 1000)
   (hp : (p.1 == " " && p.2 == "") = false) (ho : onlyB (ps ++ [p]) n = false) (hpos : 0 < n + plen (ps ++ [p])) (hup : plen (ps ++ [p]) ≤ 10000000)
   (hj : ((lines ++ [ptext (ps ++ [p])]).map (·.length)).sum + (lines ++ [ptext (ps ++ [p])]).length * sep.length ≤ 16777216)
   (hR : ∀ s' t', Mv T g [l, x, d] s.heap s'.heap → Ok s s' → R (.ok (.ret (.str (Str.join sep (lines ++ [ptext (ps ++ [p])])) t'))) s') :
   codeAny (model PR w) A (.call (.ref 59) ⟨[.ref f, .str sep ts], []⟩) R s := by
  obtain ⟨oc, od, osl, name, kV, doc, pm, an, ct, hob, hcd⟩ := V.str
  obtain ⟨N1, N2, N3, N4, N5, N6, N7, N8⟩ := F.ne
  refine' j_callK (binds := [("self", .ref f), ("linesep", .str sep ts)]) [l, x, d] [] G S Kn.nil hob hcd r.lt (BindsTo.of_eq rfl) (locs rfl) (by decide) ?_ rfl rfl rfl
  intro L h₁ t₁ j mv₁
  obtain ⟨ix, epx, hx0⟩ := F.acc.o
  obtain ⟨tkd, tnd, hd0⟩ := F.acc.d
  obtain ⟨its, ep, hl, hli⟩ := F.lst
  have xL : x ≠ L := j.neL hx0
  have dL : d ≠ L := j.neL hd0
  have lL : l ≠ L := j.neL hl
  have rr := r.deeper (env := envX "_ValueFormatter._str" (fScope (inCls 5 1)) L 59 (.ref 58) [])
  have F₁ := F.mv0 S mv₁
  refine wpAny_execs_cons (wpAny_Expr (MethodCall_ ?_))
  refine j_local (s := { s with heap := h₁, toks := t₁ }) j rfl ?_
  refine f_meth (s := { s with heap := h₁, toks := t₁ }) V G j.mv.st F₁ V.fNewline (V.keep 73 (by decide)).2 (by intros; rfl) ?_
  refine j_callWith0 (s := { s with heap := h₁, toks := t₁ }) G j.mv.st (V.keep 73 (by decide)).1 (wpAny_call ?_)
  refine newline_spec (s := { s with heap := h₁, toks := t₁ }) V X X2 G GM j.mv.st (rr.mono (by decide)) hT hT2 F₁ hz hn0 hn1 hll hp ho hpos hup fun s₂ mv₂ ok₂ F₂ => ?_
  have j₂ : J T g [l, x, d] s.heap L s₂.heap _ [] := j.callK mv₂ (by exact ni3 lL.symm xL.symm dL.symm) (by exact al3 (.inl m1) (.inl m2) (.inl m3)) (by exact al0)
  dsimp only
  refine wpAny_execs_cons (wpAny_Return_some (MethodCall_ ?_))
  refine j_local (s := s₂) j₂ rfl ?_
  refine s_meth PySem.F.slot_str_join ty_join ?_
  refine callWith_method1 (args_cons (Attribute_name ?_))
  refine j_local (s := s₂) j₂ rfl ?_
  refine f_lines (s := s₂) V G j₂.mv.st F₂ fun t₃ => args_nil ?_
  obtain ⟨its₂, ep₂, hl₂, hli₂⟩ := F₂.lst
  refine join_list (s := { s₂ with toks := t₃ }) (D := l) ⟨_, hl₂, rfl, _, rfl⟩ hli₂ hj fun t' k => ?_
  rw [Txt_join]
  exact hR _ _ j₂.mv ⟨ok₂.1, ok₂.2⟩
end
end Mine
end
noncomputable section
open PySem PySem.W PySem.Calls PyProof.Rows Builtin Builtin.ObjectAttr
namespace Mine
section
variable {T : Tabs} {K : Frag} {cd : ClassData} {mg mb : Str → Option Value} {w : World} {A : Around} {s : Shared} {g h₀ h h' : Heap} {W W' : List Addr} {L C : Addr} {m : Str → Option Value} {kn : List (Addr × Obj)} {R : Result → Shared → Prop} {E : Value → Shared → Prop} {prog : Program}
variable {f df l x d : Addr} {width : Int} {lines lines' : List Str} {ps ps' : List (Str × Str)} {n n' : Int}
theorem j_setD {es : List DictEntry} {k : Nat} {name : Str} {v : Value} {ox : Obj} {Q : Unit → Shared → Prop} (G : Gb T K mg mb g) (j : J T g W h₀ L s.heap m ((df, dictOf es k) :: (f, ox) :: kn)) (hdW : df ∈ W ∨ h₀.get? df = none)
    (hox : ox.cls = .ref C) (hod : ox.dict = some df) (hoi : InstAt s.heap f ox C (some (dictOf es k)))
    (hs : findIn K (.ref C) "__setattr__" = some (some (.builtin "object.__setattr__"))) (hp : OverOk K C) (ht : takerIn K C name = some none)
    (hl : getL name es = some none) (he : ∀ key, putL name (PyData.keyHash w.params name) key v es = es ++ [⟨PyData.keyHash w.params name, key, v⟩]) (hn : putN name es k = k + 1) (hz : es.length ≤ 900)
    (h : ∀ h' tk t', J T g W h₀ L h' m ((df, dictOf (es ++ [⟨PyData.keyHash w.params name, .str name tk, v⟩]) (k + 1)) :: (f, ox) :: kn) → Mv T g [df] s.heap h' → Q () { s with heap := h', toks := t' }) :
    wpAny (model prog w) A (setAttr (.ref f) name v) Q E s := by
  have e : ∀ tk, Obj.putName name (PyData.keyHash w.params name) (.str name tk) v (dictOf es k) = dictOf (es ++ [⟨PyData.keyHash w.params name, .str name tk, v⟩]) (k + 1) := fun tk => by
    rw [putName_dict, he, hn]
  refine j_setattr (j.mv.st.In G) hoi hod hs hp ht (by rw [lookIn_dict, hl]; rfl) (fun tk => ⟨_, _, _, e tk, rfl, by simp; exact Nat.le_trans (by assumption) (by decide), rfl⟩) fun tk t' => ?_
  have j' := j.update 0 rfl hdW (by exact tnD) (e tk) rfl
  have mv' := j.updMv (.head _) (by exact tnD) (e tk) rfl
  exact h _ tk t' j' mv'
end
end Mine
end
noncomputable section
open PySem PySem.W PySem.Calls PyProof.Rows Builtin Builtin.ObjectAttr
namespace Mine
section
variable {T : Tabs} {K : Frag} {cd : ClassData} {mg mb : Str → Option Value} {w : World} {A : Around} {s : Shared} {g h₀ h h' : Heap} {W W' : List Addr} {L C : Addr} {m : Str → Option Value} {kn : List (Addr × Obj)} {R : Result → Shared → Prop} {E : Value → Shared → Prop} {prog : Program}
variable {f df l x d : Addr} {width : Int} {lines lines' : List Str} {ps ps' : List (Str × Str)} {n n' : Int}
theorem none_back {b : Addr} (mv : Mv T g W h h') (e : h'.get? b = none) : h.get? b = none := by
  cases q : h.get? b with
  | none => rfl
  | some o =>
    obtain ⟨o', e'⟩ := mv.there b o q
    rw [e] at e'
    cases e'
theorem Fv.taker (V : Fv K) {name : Str} (h : findIn K (.ref 111) name = some none) : takerIn K 111 name = some none := by unfold takerIn; rw [h]; rfl
theorem bind_init1 (X : Fx K cd) (x : Addr) (s' : Shared) (k : Int) (tk : Tok) (fd : FuncData) (Y : K.In s'.heap) (h1 : fd.params = fArgs (inCls 6 0)) (h2 : fd.defaults = .ref 124) : BindsTo s' fd ⟨.ref x :: [.int k tk], []⟩ [("self", .ref x), ("initial_size", .int k tk)] := by
  obtain ⟨d, n, sl, tk', e⟩ := X.d124
  obtain ⟨a1, a2, a3, a4, a5, a6, a7, a8, a9, a10, a11, a12, a13, a14⟩ := fd
  dsimp only at h1 h2
  subst h1 h2
  exact BindsTo.of_defaults rfl (Y _ _ e) rfl rfl rfl
set_option maxHeartbeats 4000000 in
theorem finit_spec {th tw tc ts : Tok} (V : Fv K) (X : Fx K cd) (X2 : Fx2 K) (G : Gb T K mg mb g) (GM : Gm mg) (hAcc : mg "_Accumulator" = some (.ref 195)) (hKeep : keepIn K (.ref 195) = true) (S : St T g s.heap) (r : Rm A 10)
   (hf : s.heap.get? f = some (instObj 111 df)) (hdf : s.heap.get? df = some emptyDict) (hne : df ≠ f) (hfg : g.objs.size ≤ f) (hdg : g.objs.size ≤ df)
   (hR : ∀ l x d h' tk, Mv T g [df] s.heap h' → FmtAt w g h' f df l x d width [] [] n → s.heap.get? l = none → s.heap.get? x = none → s.heap.get? d = none → R (.ok (.ret .none)) { s with heap := h', toks := tk }) :
   codeAny (model PR w) A (.call (.ref 52) ⟨[.ref f, .int n th, .int width tw, .str " " tc, .str " " ts], []⟩) R s := by
  obtain ⟨oc, od, osl, name, kV, doc, pm, an, ct, hob, hcd⟩ := V.init
  refine' j_callK (binds := [("self", .ref f), ("headerlen", .int n th), ("maxlen", .int width tw), ("continuation_ws", .str " " tc), ("splitchars", .str " " ts)]) [df] [(df, dictOf [] 0), (f, instObj 111 df)] G S ?hkn hob hcd r.lt (BindsTo.of_eq rfl) (locs rfl) (by decide) ?_ rfl rfl rfl
  case hkn =>
    refine ⟨fun p hp => ?_, by simp [hne]⟩
    rcases List.mem_cons.mp hp with rfl | hp
    · exact ⟨hdf, S.notTab hdf (by nofun), hdg⟩
    · rw [List.mem_singleton.mp hp]; exact ⟨hf, S.notTab hf (by nofun), hfg⟩
  intro L h₁ t₁ j mv₁
  have over : OverOk K 111 := OverOk.plain V.over V.hdc
  refine wpAny_execs_cons (plainObj_wpAny_Assign_Attribute ?_)
  refine j_local (s := { s with heap := h₁, toks := t₁ }) j rfl ?_
  refine j_local (s := { s with heap := h₁, toks := t₁ }) j rfl ?_
  refine j_setD (s := { s with heap := h₁, toks := t₁ }) (es := []) (k := 0) G j (.inl (by exact m1)) rfl rfl ⟨j.get (.tail _ (.head _)), rfl, rfl, j.get (.head _)⟩ V.sa over (V.taker (V.no _ (by exact m1))) rfl (fun _ => rfl) rfl (by simp) fun h₂ k₂ t₂ j₂ mv₂ => ?_
  dsimp only
  refine wpAny_execs_cons (plainObj_wpAny_Assign_Attribute ?_)
  refine j_local (s := { s with heap := h₂, toks := t₂ }) j₂ rfl ?_
  refine j_local (s := { s with heap := h₂, toks := t₂ }) j₂ rfl ?_
  refine j_setD (s := { s with heap := h₂, toks := t₂ }) G j₂ (.inl (by exact m1)) rfl rfl ⟨j₂.get (.tail _ (.head _)), rfl, rfl, j₂.get (.head _)⟩ V.sa over (V.taker (V.no _ (by exact m2))) (by rfl) (fun _ => by rfl) (by rfl) (by simp) fun h₃ k₃ t₃ j₃ mv₃ => ?_
  dsimp only
  refine wpAny_execs_cons (plainObj_wpAny_Assign_Attribute (Call_ ?_))
  refine j_builtin (s := { s with heap := h₃, toks := t₃ }) G j₃ GM.len boot_len ?_
  refine callWith_method1 (first := []) (args_cons (j_local (s := { s with heap := h₃, toks := t₃ }) j₃ rfl (args_nil ?_)))
  refine PySem.P.len_str (x := " ") (by decide +kernel) ?_
  refine j_local (s := { s with heap := h₃, toks := t₃ + 1 + 1 }) j₃ rfl ?_
  rw [show (((" " : Str).length : Nat) : Int) = 1 from by decide +kernel]
  refine j_setD (s := { s with heap := h₃, toks := t₃ + 1 + 1 }) G j₃ (.inl (by exact m1)) rfl rfl ⟨j₃.get (.tail _ (.head _)), rfl, rfl, j₃.get (.head _)⟩ V.sa over (V.taker (V.no _ (by exact m3))) (by rfl) (fun _ => by rfl) (by rfl) (by simp) fun h₄ k₄ t₄ j₄ mv₄ => ?_
  dsimp only
  refine wpAny_execs_cons (plainObj_wpAny_Assign_Attribute ?_)
  refine j_local (s := { s with heap := h₄, toks := t₄ }) j₄ rfl ?_
  refine j_local (s := { s with heap := h₄, toks := t₄ }) j₄ rfl ?_
  refine j_setD (s := { s with heap := h₄, toks := t₄ }) G j₄ (.inl (by exact m1)) rfl rfl ⟨j₄.get (.tail _ (.head _)), rfl, rfl, j₄.get (.head _)⟩ V.sa over (V.taker (V.no _ (by exact m4))) (by rfl) (fun _ => by rfl) (by rfl) (by simp) fun h₅ k₅ t₅ j₅ mv₅ => ?_
  dsimp only
  refine wpAny_execs_cons (plainObj_wpAny_Assign_Attribute (List_ (args_nil ?_)))
  refine j_newListK (s := { s with heap := h₅, toks := t₅ }) j₅ fun l h₆ j₆ mv₆ nl => ?_
  have hl₆ := j₆.get (.head _)
  have gl : g.objs.size ≤ l := (j₆.has _ (.head _)).2.2.2
  have ldf : l ≠ df := by
    rintro rfl
    rw [hdf] at nl
    cases nl
  have lL : l ≠ L := (j₆.has _ (.head _)).2.1
  have j₆' := j₆.sub (List.sublist_cons_self _ _)
  refine j_local (s := { s with heap := h₆, toks := t₅ }) j₆' rfl ?_
  refine j_setD (s := { s with heap := h₆, toks := t₅ }) G j₆' (.inl (by exact m1)) rfl rfl ⟨j₆'.get (.tail _ (.head _)), rfl, rfl, j₆'.get (.head _)⟩ V.sa over (V.taker (V.no _ (by exact m5))) (by rfl) (fun _ => by rfl) (by rfl) (by simp) fun h₇ k₇ t₇ j₇ mv₇ => ?_
  have hl₇ := mv₇.keep _ _ hl₆ (j₆'.mv.st.notTab hl₆ (by nofun)) (.inl (by exact ni1 ldf))
  dsimp only
  refine wpAny_execs_cons (plainObj_wpAny_Assign_Attribute (Call_ ?_))
  refine j_global (s := { s with heap := h₇, toks := t₇ }) G j₇ hAcc ?_
  refine j_callWith hKeep (args_cons ?_)
  refine j_local (s := { s with heap := h₇, toks := t₇ }) j₇ rfl (args_nil ⟨j₇.mv.st.In G, wpAny_call ?_⟩)
  refine acc_new (s := { s with heap := h₇, toks := t₇ }) (rest := [.int n th]) (n := n) (tk := th) G X X2.makes j₇.mv.st ((r.deeper).mono (by decide)) (fun x s' fd Y a b => bind_init1 X x s' n th fd Y a b) fun x d h₈ t₈ mv₈ a₈ nx nd gx gd => ?_
  have j₈ := j₇.call0 mv₈
  have hl₈ := mv₈.keep _ _ hl₇ (j₇.mv.st.notTab hl₇ (by nofun)) (.inl (by exact ni0))
  refine j_local (s := { s with heap := h₈, toks := t₈ }) j₈ rfl ?_
  have xdf : df ≠ x := by
    rintro rfl
    rw [j₇.get (.head _)] at nx
    cases nx
  have ddf : df ≠ d := by
    rintro rfl
    rw [j₇.get (.head _)] at nd
    cases nd
  refine j_setD (s := { s with heap := h₈, toks := t₈ }) G j₈ (.inl (by exact m1)) rfl rfl ⟨j₈.get (.tail _ (.head _)), rfl, rfl, j₈.get (.head _)⟩ V.sa over (V.taker (V.no _ (by exact (mS m5)))) (by rfl) (fun _ => by rfl) (by rfl) (by simp) fun h₉ k₉ t₉ j₉ mv₉ => ?_
  have hl₉ := mv₉.keep _ _ hl₈ (j₈.mv.st.notTab hl₈ (by nofun)) (.inl (by exact ni1 ldf))
  have a₉ := a₈.mv j₈.mv.st mv₉ (by exact ni1 xdf.symm) (by exact ni1 ddf.symm)
  refine wpAny_execs_nil (hR l x d h₉ t₉ j₉.mv ⟨j₉.get (.tail _ (.head _)), ⟨_, j₉.get (.head _), ?_⟩, ⟨_, _, hl₉, .nil⟩, a₉, gl, gx, gd⟩ nl (none_back j₇.mv nx) (none_back j₇.mv nd))
  exact ⟨_, _, _, _, _, _, _, _, _, _, rfl⟩
end
end Mine
end
noncomputable section
open PySem PySem.W PySem.Calls PyProof.Rows Builtin Builtin.ObjectAttr
namespace Mine
section
variable {T : Tabs} {K : Frag} {cd : ClassData} {mg mb : Str → Option Value} {w : World} {A : Around} {s : Shared} {g h₀ h h' : Heap} {W W' : List Addr} {L C : Addr} {m : Str → Option Value} {kn : List (Addr × Obj)} {R : Result → Shared → Prop} {E : Value → Shared → Prop} {prog : Program}
variable {f df l x d : Addr} {width : Int} {lines lines' : List Str} {ps ps' : List (Str × Str)} {n n' : Int}
theorem fmt_new {th tw tc ts : Tok} (V : Fv K) (X : Fx K cd) (X2 : Fx2 K) (G : Gb T K mg mb g) (GM : Gm mg) (hAcc : mg "_Accumulator" = some (.ref 195)) (hKeep : keepIn K (.ref 195) = true) (S : St T g s.heap) (r : Rm A 11)
   (hR : ∀ f df l x d h' tk, Mv T g [] s.heap h' → FmtAt w g h' f df l x d width [] [] n → s.heap.get? f = none → s.heap.get? df = none → s.heap.get? l = none → s.heap.get? x = none → s.heap.get? d = none → R (.ok (.ret (.ref f))) { s with heap := h', toks := tk }) :
   codeAny (model PR w) A (.call (.ref 111) ⟨[.int n th, .int width tw, .str " " tc, .str " " ts], []⟩) R s := by
  obtain ⟨hh, gg, dd, tt, os⟩ := s
  dsimp only at S
  have Y := S.In G
  refine make_core (makes_of Y V.makes) (looks_findIn Y V.fInit) (fun self => bind_fn Y self (beq_iff_eq.mp (V.keep 52 (by decide)).2)) (.inl rfl) ?_
  have S₂ : St T g ((hh.push emptyDict).push (instObj 111 hh.objs.size)) := (S.push _).push _
  have hx : ((hh.push emptyDict).push (instObj 111 hh.objs.size)).get? (hh.objs.size + 1) = some (instObj 111 hh.objs.size) := by heap_get
  have hd : ((hh.push emptyDict).push (instObj 111 hh.objs.size)).get? hh.objs.size = some emptyDict := by heap_get
  have nn : ∀ b, hh.objs.size ≤ b → hh.get? b = none := fun b hb => Heap.get?_none_of_le hb
  refine finit_spec (s := ⟨_, gg, dd, tt, os⟩) V X X2 G GM hAcc hKeep S₂ r.make hx hd (Ne.symm (Nat.succ_ne_self _)) (Nat.le_succ_of_le S.le) S.le fun l x d h' tk mv F nl nx nd => ?_
  refine ⟨rfl, ?_⟩
  have mv0 : Mv T g [] hh ((hh.push emptyDict).push (instObj 111 hh.objs.size)) := ⟨S₂, fun b o e _ _ => Heap.get?_push_of_some _ (Heap.get?_push_of_some _ e), fun b o e => ⟨o, Heap.get?_push_of_some _ (Heap.get?_push_of_some _ e)⟩⟩
  refine hR _ _ l x d h' tk (mv0.trans mv fun b hb => ?_) F (nn _ (Nat.le_succ _)) (nn _ (Nat.le_refl _)) (none_back mv0 nl) (none_back mv0 nx) (none_back mv0 nd)
  rw [List.mem_singleton.mp hb]; exact .inr (nn _ (Nat.le_refl _))
end
end Mine
end
noncomputable section
open PySem PySem.W PySem.Calls PyProof.Rows Builtin Builtin.ObjectAttr
namespace Mine
section
variable {width : Int}
def Modest (ps : List (Str × Str)) : Prop := ∀ p ∈ ps, p.1.length + p.2.length ≤ 1000
theorem Modest.sum {ps : List (Str × Str)} (h : Modest ps) : (ps.map fun p => p.1.length + p.2.length).sum ≤ ps.length * 1000 := by
  induction ps with
  | nil => exact Nat.le_refl _
  | cons p ps ih =>
    have h1 := h p (.head _)
    have h2 := ih fun q hq => h q (.tail _ hq)
    simp only [List.map_cons, List.sum_cons, List.length_cons]
    lia
theorem Modest.small {ps : List (Str × Str)} (h : Modest ps) (hl : ps.length ≤ 500) : Small ps := ⟨by have := h.sum; lia, by exact Nat.le_trans (by assumption) (by decide)⟩
theorem plen_nat (ps : List (Str × Str)) : plen ps = (((ps.map fun p => p.1.length + p.2.length).sum : Nat) : Int) := by
  unfold plen
  induction ps with
  | nil => rfl
  | cons p ps ih =>
    simp only [List.map_cons, List.sum_cons]
    rw [ih]
    push_cast
    lia
theorem Modest.snoc {ps : List (Str × Str)} {b : Str} (h : Modest ps) (hb : b.length ≤ 900) : Modest (ps ++ [sp b]) := fun p hp => by
  rcases List.mem_append.mp hp with hp | hp
  · exact h p hp
  · rw [List.mem_singleton.mp hp]
    have : (" " : Str).length = 1 := by decide +kernel
    show (" " : Str).length + b.length ≤ 1000
    lia
theorem chunkF_modest {st : List Str × List (Str × Str)} {b : Str} (h : Modest st.2) (hb : b.length ≤ 900) : Modest (chunkF width st b).2 := by
  have one : Modest [sp b] := by have := Modest.snoc (ps := []) (fun _ hp => nomatch hp) hb; simpa using this
  unfold chunkF
  split
  · split
    · exact one
    · exact one
  · exact h.snoc hb
theorem chunkF_len {st : List Str × List (Str × Str)} {b : Str} : (chunkF width st b).1.length + (chunkF width st b).2.length ≤ st.1.length + st.2.length + 1 := by
  unfold chunkF
  split
  · split
    · simp
    · rename_i hne
      have : 0 < st.2.length := List.length_pos_iff.mpr hne
      simp
      assumption
  · simp
    exact Nat.lt_succ_self _
end
end Mine
end
noncomputable section
open PySem PySem.W PySem.Calls PyProof.Rows Builtin Builtin.ObjectAttr
namespace Mine
def forBody : Stmt → List Stmt | .For _ _ b .. => b | _ => []
def stAt (b : List Stmt) (i : Nat) : Stmt := b.getD i (.Pass default)
section
variable {T : Tabs} {K : Frag} {cd : ClassData} {mg mb : Str → Option Value} {w : World} {A : Around} {s : Shared} {g h₀ h h' : Heap} {W W' : List Addr} {L C : Addr} {m : Str → Option Value} {kn : List (Addr × Obj)} {R : Result → Shared → Prop} {E : Value → Shared → Prop} {prog : Program}
variable {f df l x d : Addr} {width : Int} {lines lines' : List Str} {ps ps' : List (Str × Str)} {n n' : Int}
abbrev fenv (L : Addr) : Env := envX "_law_folded" (fScope (topSt 17)) L 358 (.ref 357) []
abbrev fbody : List Stmt := forBody (stAt (fBody (topSt 17)) 1)
theorem StrsAre.get {vs : List Value} {ys : List Str} (h : StrsAre vs ys) (i : Nat) (hi : i < ys.length) : ∃ t, vs[i]? = some (.str ys[i] t) := by
  induction h generalizing i with
  | nil => cases hi
  | cons y t _ ih =>
    cases i with
    | zero => exact ⟨t, rfl⟩
    | succ i => simpa using ih i (by simpa using hi)
set_option maxHeartbeats 4000000 in
theorem folded_loop {wl I : Addr} {its : Array Value} {ep : Nat} {ws : List Str} {px : Pos} {ma : Str → Option Value} {Rf : Result → Shared → Prop} (V : Fv K) (X : Fx K cd) (X2 : Fx2 K) (G : Gb T K mg mb g) (GM : Gm mg) (r : Rm A 12) (hT : (161, 157) ∈ T) (hT2 : (168, 164) ∈ T)
   (hws : StrsAre its.toList ws) (hw : ∀ b ∈ ws, b.length ≤ 900) (s₀ sa : Shared) (hwl : s₀.heap.get? wl = some { cls := .type "list", data := .seq its ep }) (ja : J T g [] s₀.heap L sa.heap ma []) (hIa : sa.heap.objs.size ≤ I) (hLa : L < sa.heap.objs.size)
   (hI0 : s₀.heap.get? I = none) (hl0 : s₀.heap.get? l = none) (hx0 : s₀.heap.get? x = none) (hd0 : s₀.heap.get? d = none) (hfL : f ≠ L) (hdfL : df ≠ L) (hlL : l ≠ L) (hxL : x ≠ L) (hdL : d ≠ L) (hfI : f ≠ I) (hdfI : df ≠ I) (hlI : l ≠ I) (hxI : x ≠ I) (hdI : d ≠ I)
   :
   ∀ (k i : Nat) (s : Shared) (st : List Str × List (Str × Str)) (m : Str → Option Value), ws.length - i = k → i ≤ ws.length →
     (∃ o, J T g [] s₀.heap L s.heap m [(I, o)] ∧ o.cls = .type "list_iterator" ∧ o.data = .fields #[.ref wl, .int i 0]) → m "lines" = some (.ref f) →
     FmtAt w g s.heap f df l x d width st.1 st.2 0 → Modest st.2 → st.1.length + st.2.length + k ≤ 100 → Ok s₀ s →
     (∀ s' m', J T g [] s₀.heap L s'.heap m' [] → m' "lines" = some (.ref f) → FmtAt w g s'.heap f df l x d width ((ws.drop i).foldl (chunkF width) st).1 ((ws.drop i).foldl (chunkF width) st).2 0 → Ok s₀ s' → Rf (.ok .next) s') →
     codeAny (model PR w) A (.forLoop (.Name "word" px) (.ref I) fbody [] (fenv L)) Rf s := by
  intro k
  induction k with
  | zero =>
    intro i s st m hk hi ⟨o, j, co, do_⟩ hm F hmod hlen ok hR
    have hin : i = ws.length := by exact de0 hk hi
    have hlen' : its.size = ws.length := by rw [← StrsAre.len hws, Array.length_toList]
    refine for_turn ?_
    refine next_end (l := wl) (i := i) r.h ⟨o, j.get (.head _), co, do_⟩ ⟨_, _, j.old hwl (.inl (by exact ni0)), rfl⟩ (Array.getElem?_eq_none (by lia)) fun h' ex => ?_
    obtain ⟨j', kp⟩ := J.used (s := sa) (s₁ := s) ja j hIa (by exact al0) (by rintro ⟨q, _⟩; rw [co] at q; simp at q) ex hLa
    have F' := F.kp j.mv.st kp (by exact al1 ⟨hfI.symm, hdfI.symm, hlI.symm, hxI.symm, hdI.symm⟩)
    refine wpAny_execs_nil (hR _ m j' hm ?_ ⟨ok.1, ok.2⟩)
    rw [hin, List.drop_of_length_le (Nat.le_refl _)]
    exact F'
  | succ k ih =>
    intro i s st m hk hi ⟨o, j, co, do_⟩ hm F hmod hlen ok hR
    have hin : i < ws.length := by exact dlt hk
    obtain ⟨tw, hv⟩ := StrsAre.get hws i hin
    have hb := hw ws[i] (List.getElem_mem _)
    refine for_turn ?_
    refine next_item (l := wl) (i := i) ⟨o, j.get (.head _), co, do_⟩ ⟨_, _, j.old hwl (.inl (by exact ni0)), rfl⟩ (by rw [← Array.getElem?_toList]; exact hv) fun h₂ hit₂ sb₂ => ?_
    obtain ⟨o₂, e₂, c₂, d₂⟩ := hit₂
    obtain ⟨j₂, mv₂⟩ := j.iter 0 rfl (.inr hI0) (by rintro ⟨q, _⟩; rw [co] at q; simp at q) sb₂ e₂
    have F₂ := F.out j.mv.st mv₂ (by exact al1 ⟨hfI.symm, hdfI.symm, hlI.symm, hxI.symm, hdI.symm⟩)
    refine wpAny_of_eq rfl ?_
    refine wpAny_assign_Name ?_
    refine j_storeK (s := { s with heap := h₂ }) j₂ fun h₃ t₃ j₃ mv₃ => ?_
    have F₃ := F₂.out j₂.mv.st mv₃ (by exact al1 ⟨hfL.symm, hdfL.symm, hlL.symm, hxL.symm, hdL.symm⟩)
    refine wpAny_execs_cons (wpAny_Expr (MethodCall_ ?_))
    refine j_local (s := { s with heap := h₃, toks := t₃ }) j₃ hm ?_
    refine f_meth (s := { s with heap := h₃, toks := t₃ }) V G j₃.mv.st F₃ V.fChunk (V.keep 108 (by decide)).2 (by intros; rfl) ?_
    refine j_callWith (V.keep 108 (by decide)).1 (args_cons (Constant_str (args_cons ?_)))
    refine j_local (s := { s with heap := h₃, toks := t₃ + 1 }) j₃ rfl (args_nil ⟨j₃.mv.st.In G, wpAny_call ?_⟩)
    have hsm : Small (st.2 ++ [sp ws[i]]) := (hmod.snoc hb).small (by simp; (clear hb hi hk hdI hxI hlI hdfI hfI hdL hxL hlL hdfL hfL hLa hIa; lia))
    have hsum := (hmod.snoc hb).sum
    have hpl := plen_nat (st.2 ++ [sp ws[i]])
    have hle : (st.2 ++ [sp ws[i]]).length = st.2.length + 1 := by simp
    refine chunk_spec (s := { s with heap := h₃, toks := t₃ + 1 }) (b := ws[i]) V X X2 G GM j₃.mv.st (r.mono (by decide)) hT hT2 F₃ hsm (by (clear hle hpl hsum hb hi hk hdI hxI hlI hdfI hfI hdL hxL hlL hdfL hfL hLa hIa; lia)) (by lia) (by (clear hb hi hk hdI hxI hlI hdfI hfI hdL hxL hlL hdfL hfL hLa hIa; lia)) fun s₄ mv₄ ok₄ F₄ => ?_
    have j₄ : J T g [] s₀.heap L s₄.heap _ _ := j₃.callK mv₄ (by exact ni3 hlL.symm hxL.symm hdL.symm) (by
      intro b hb'
      rcases List.mem_cons.mp hb' with rfl | hb'
      · exact .inr hl0
      rcases List.mem_cons.mp hb' with rfl | hb'
      · exact .inr hx0
      · rw [List.mem_singleton.mp hb']; exact .inr hd0) (by simp [hlI.symm, hxI.symm, hdI.symm])
    dsimp only
    refine wpAny_execs_nil ?_
    dsimp only
    refine ih (i + 1) s₄ (chunkF width (st.1, st.2) ws[i]) _ (by exact dst hk) (by assumption) ⟨o₂, j₄, c₂, d₂⟩ hm F₄ (chunkF_modest hmod hb) (by have := chunkF_len (width := width) (st := (st.1, st.2)) (b := ws[i]); simp at this ⊢; (clear hle hpl hsum hb hi hk hdI hxI hlI hdfI hfI hdL hxL hlL hdfL hfL hLa hIa; lia)) ⟨ok₄.1.trans ok.1, fun a => ok₄.2 (ok.2 a)⟩ ?_
    rw [List.drop_eq_getElem_cons hin, List.foldl_cons] at hR
    exact hR
end
end Mine
end
noncomputable section
open PySem PySem.Sre
namespace Mine
def Ends (n : Nat) (m : M) (P : M → Prop) : Prop := (M.runFor n m).outcome.isSome ∧ P (M.runFor n m)
theorem Ends.done {n : Nat} {m : M} {P : M → Prop} (h : m.outcome.isSome) (hp : P m) : Ends n m P := by
  cases n with
  | zero => exact ⟨h, hp⟩
  | succ n => unfold Ends M.runFor; rw [if_pos h]; exact ⟨h, hp⟩
theorem Ends.step {n : Nat} {m m' : M} {P : M → Prop} (h : m.outcome = none) (e : m.step = m') (k : Ends n m' P) : Ends (n + 1) m P := by
  unfold Ends M.runFor
  rw [h, e]
  exact k
theorem runFor_some {m : M} (h : m.outcome.isSome) : ∀ n, M.runFor n m = m := fun n => by
  cases n with
  | zero => rfl
  | succ n => unfold M.runFor; rw [if_pos h]
theorem runFor_add (a b : Nat) : ∀ m : M, M.runFor (a + b) m = M.runFor b (M.runFor a m) := by
  induction a with
  | zero => intro m; rw [Nat.zero_add]; rfl
  | succ a ih =>
    intro m
    rw [Nat.succ_add]
    cases h : m.outcome.isSome
    · show (if m.outcome.isSome then m else M.runFor (a + b) m.step) = M.runFor b (if m.outcome.isSome then m else M.runFor a m.step)
      rw [h]
      exact ih _
    · rw [runFor_some h, runFor_some h, runFor_some h]
theorem Ends.mono {n k : Nat} {m : M} {P : M → Prop} (h : Ends n m P) (hk : n ≤ k) : Ends k m P := by
  obtain ⟨d, rfl⟩ := Nat.le.dest hk
  unfold Ends
  rw [runFor_add, runFor_some h.1]
  exact h
theorem step_lit {m : M} {c : Nat} (h0 : m.outcome = none) (ha : m.answer = none) (hw : m.code.getD m.pc 0 = 16) (hc : m.code.getD (m.pc + 1) 0 = c) (hpc : m.pc < m.code.size) :
    m.step = if m.pos ≥ m.lim then ({ m with seen := m.seen.add 16 } : M).say false else if m.text.getD m.pos 0 = c then { m with seen := m.seen.add 16, pc := m.pc + 2, pos := m.pos + 1 } else ({ m with seen := m.seen.add 16 } : M).say false := by
  obtain ⟨code, text, lim, start, lastStart, wholeText, mustAdvance, pc, pos, handed, outermost, marks, lastmark, lastindex, loops, inner, frames, weight, answer, seen, outcome⟩ := m
  dsimp only at *
  subst h0 ha
  unfold M.step
  rw [if_neg (by simp)]
  dsimp only
  rw [if_pos hpc]
  unfold M.exec
  have e0 : (M.word { code, text, lim, start, lastStart, wholeText, mustAdvance, pc, pos, handed, outermost, marks, lastmark, lastindex, loops, inner, frames, weight, answer := none, seen, outcome := none } 0) = 16 := hw
  rw [e0]
  have e1 : ops[16]? = some Op.LITERAL := rfl
  rw [e1]
  dsimp only
  have e2 : ∀ sn ch, accepts code pc ch sn = .ok (ch == c, sn) := fun sn ch => by
    unfold accepts
    rw [hw, e1, hc]
  rw [e2]
  split
  · rfl
  · cases hb : (text.getD pos 0 == c)
    · rw [if_neg (by simpa using hb)]
    · rw [if_pos (by simpa using hb)]
      have : itemWidth code pc = 2 := by unfold itemWidth; rw [hw, e1]
      dsimp only
      rw [this]
theorem step_bol {m : M} (h0 : m.outcome = none) (ha : m.answer = none) (hw : m.code.getD m.pc 0 = 6) (hc : m.code.getD (m.pc + 1) 0 = 1) (hpc : m.pc < m.code.size) :
    ∃ sn, m.step = if m.pos = 0 ∨ m.text.getD (m.pos - 1) 0 = 10 then { m with seen := sn, pc := m.pc + 2 } else ({ m with seen := sn } : M).say false := by
  obtain ⟨code, text, lim, start, lastStart, wholeText, mustAdvance, pc, pos, handed, outermost, marks, lastmark, lastindex, loops, inner, frames, weight, answer, seen, outcome⟩ := m
  dsimp only at *
  subst h0 ha
  unfold M.step
  rw [if_neg (by simp)]
  dsimp only
  rw [if_pos hpc]
  unfold M.exec
  have e0 : (M.word { code, text, lim, start, lastStart, wholeText, mustAdvance, pc, pos, handed, outermost, marks, lastmark, lastindex, loops, inner, frames, weight, answer := none, seen, outcome := none } 0) = 6 := hw
  rw [e0]
  have e1 : ops[6]? = some Op.AT := rfl
  rw [e1]
  dsimp only
  have e2 : ∀ sn, (M.word { code, text, lim, start, lastStart, wholeText, mustAdvance, pc, pos, handed, outermost, marks, lastmark, lastindex, loops, inner, frames, weight, answer := none, seen := sn, outcome := none } 1) = 1 := fun _ => hc
  rw [e2]
  unfold M.isAt
  dsimp only
  refine ⟨(seen.add 6).add (43 + 1), ?_⟩
  cases hb : (pos == 0 || text.getD (pos - 1) 0 == 10)
  · rw [if_neg (by simpa using hb)]; rfl
  · rw [if_pos (by simpa using hb)]; rfl
end Mine
end
noncomputable section
open PySem PySem.Sre
namespace Mine
def c2 : Array Nat := #[14, 9, 4, 1, 2, 16, 10, 16, 13, 0, 7, 7, 16, 13, 16, 10, 15, 18, 5, 16, 10, 15, 13, 11, 16, 13, 5, 5, 0, 16, 10, 1, 15, 2, 0, 1]
def c1 : Array Nat := #[14, 4, 0, 1, 1, 6, 1, 16, 46, 1]
def mk (code text : Array Nat) (lim : Nat) (sn : Seen) (ma : Bool) (start pc pos handed : Nat) (outer : Bool) (frames : List Sre.Frame) (weight : Nat) (answer : Option Bool) (outcome : Option Sre.Outcome) : M :=
  { code, text, lim, start, lastStart := lim, wholeText := false, mustAdvance := ma, pc, pos, handed, outermost := outer, marks := #[], lastmark := -1, lastindex := -1, loops := #[], inner := none, frames, weight, answer, seen := sn, outcome }
abbrev f0 (pc s : Nat) (first : Bool) : Sre.Frame := { wait := .nextStart, pc, pos := s, outermost := first }
abbrev fb (pc s : Nat) : Sre.Frame := { wait := .nextBranch, pc, pos := s, outermost := true }
abbrev fl (pc s : Nat) : Sre.Frame := { wait := .lookNot, pc, pos := s, outermost := true }
def Hit (s e : Nat) (m : M) : Prop := m.outcome = some .matched ∧ m.start = s ∧ m.handed = e
def Miss (m : M) : Prop := m.outcome = some .failed
section
variable {text : Array Nat} {lim s pos n : Nat} {sn : Seen} {ma : Bool} {P : M → Prop}
theorem inSet2 (c : Nat) (sn : Seen) : ∃ sn', inSet c2 c 36 5 true sn = .ok (c == 10 || c == 13, sn') := by
  have e : inSet c2 c 36 5 true sn = if c == 10 then .ok (true, sn.add 16) else if c == 13 then .ok (true, (sn.add 16).add 16) else .ok (false, ((sn.add 16).add 16).add 0) := by
    rfl
  rw [e]
  cases h1 : c == 10
  · cases h2 : c == 13
    · exact ⟨_, rfl⟩
    · exact ⟨_, rfl⟩
  · exact ⟨_, rfl⟩
def firstAt (text : Array Nat) (lim : Nat) (f : Nat → Bool) : Nat → Nat → Option Nat
  | 0, _ => none
  | k + 1, s => if s ≥ lim then none else if f (text.getD s 0) then some s else firstAt text lim f k (s + 1)
theorem firstAt_some {f : Nat → Bool} : ∀ {k s r : Nat}, firstAt text lim f k s = some r → r < lim ∧ f (text.getD r 0) = true := by
  intro k
  induction k with
  | zero => intro s r h; cases h
  | succ k ih =>
    intro s r h
    unfold firstAt at h
    split at h
    · cases h
    · split at h
      · cases h; exact ⟨by exact Nat.lt_of_not_le (by assumption), by assumption⟩
      · exact ih h
theorem admitted_at {code : Array Nat} {f : Nat → Bool} (hf : ∀ c sn, ∃ sn', inSet code c code.size 5 true sn = .ok (f c, sn')) (m : M) (hc : m.code = code) (ht : m.text = text) (hl : m.lim = lim) : ∀ (k s : Nat) (sn : Seen), ∃ sn', M.admitted m k s sn = .ok (firstAt text lim f k s, sn') := by
  intro k
  induction k with
  | zero => exact fun s sn => ⟨sn, rfl⟩
  | succ k ih =>
    intro s sn
    unfold M.admitted firstAt
    rw [hc, ht, hl]
    split
    · exact ⟨_, rfl⟩
    · obtain ⟨sn', e⟩ := hf (text.getD s 0) sn
      rw [e]
      cases hb : f (text.getD s 0)
      · exact ih _ _
      · exact ⟨_, rfl⟩
theorem lit_no {code : Array Nat} {c start pc pos handed w : Nat} {outer : Bool} {frames : List Sre.Frame} (hw : code.getD pc 0 = 16) (hc : code.getD (pc + 1) 0 = c) (hpc : pc < code.size) (h : pos < lim → text.getD pos 0 ≠ c)
    (k : Ends n (mk code text lim (sn.add 16) ma start pc pos handed outer frames w (some false) none) P) : Ends (n + 1) (mk code text lim sn ma start pc pos handed outer frames w none none) P := by
  refine Ends.step rfl ?_ k
  rw [step_lit (c := c) rfl rfl hw hc hpc]
  show (if pos ≥ lim then _ else if text.getD pos 0 = c then _ else _) = _
  split
  · rfl
  · rw [if_neg (h (by exact Nat.lt_of_not_le (by assumption)))]; rfl
theorem lit_yes {code : Array Nat} {c start pc pos handed w : Nat} {outer : Bool} {frames : List Sre.Frame} (hw : code.getD pc 0 = 16) (hc : code.getD (pc + 1) 0 = c) (hpc : pc < code.size) (hl : pos < lim) (h : text.getD pos 0 = c)
    (k : Ends n (mk code text lim (sn.add 16) ma start (pc + 2) (pos + 1) handed outer frames w none none) P) : Ends (n + 1) (mk code text lim sn ma start pc pos handed outer frames w none none) P := by
  refine Ends.step rfl ?_ k
  rw [step_lit (c := c) rfl rfl hw hc hpc]
  show (if pos ≥ lim then _ else if text.getD pos 0 = c then _ else _) = _
  rw [if_neg (by exact Nat.not_le_of_lt hl), if_pos h]; rfl
theorem hit_mk {code : Array Nat} {e e' pc pos w : Nat} {o : Bool} {fs : List Sre.Frame} {an : Option Bool} (h : e' = e) : Hit s e (mk code text lim sn ma s pc pos e' o fs w an (some .matched)) := ⟨rfl, rfl, h⟩
def nxt2 (text : Array Nat) (lim s : Nat) : Nat := if text.getD s 0 = 13 ∧ s + 1 < lim ∧ text.getD (s + 1) 0 = 10 then s + 2 else s + 1
set_option maxHeartbeats 1000000 in
theorem run2 (first : Bool) (hs : s < lim) (hit : text.getD s 0 = 10 ∨ text.getD s 0 = 13) : Ends 22 (mk c2 text lim sn false s 10 s s true [f0 10 s true] 1 none none) (Hit s (nxt2 text lim s)) := by
  refine Ends.step (m' := mk c2 text lim _ false s 12 s s true [fb 11 s, f0 10 s true] 2 none none) rfl rfl ?_
  by_cases h13 : text.getD s 0 = 13
  · refine lit_yes rfl rfl (by decide) hs h13 ?_
    by_cases h2 : s + 1 < lim ∧ text.getD (s + 1) 0 = 10
    · refine lit_yes rfl rfl (by decide) h2.1 h2.2 ?_
      refine Ends.step (m' := mk c2 text lim _ false s 35 (s + 2) s true [fb 11 s, f0 10 s true] 2 none none) rfl rfl ?_
      refine Ends.step (m' := mk c2 text lim _ false s 35 (s + 2) (s + 2) true [fb 11 s, f0 10 s true] 2 (some true) none) rfl rfl ?_
      refine Ends.step (m' := mk c2 text lim _ false s 11 s (s + 2) true [f0 10 s true] 1 (some true) none) rfl rfl ?_
      refine Ends.step (m' := mk c2 text lim _ false s 10 s (s + 2) true [] 0 (some true) none) rfl rfl ?_
      refine Ends.step (m' := mk c2 text lim _ false s 10 s (s + 2) true [] 0 (some true) (some .matched)) rfl rfl ?_
      exact Ends.done rfl (hit_mk (if_pos ⟨h13, h2⟩).symm)
    · refine lit_no (c := 10) rfl rfl (by decide) (fun hl e => h2 ⟨hl, e⟩) ?_
      refine Ends.step (m' := mk c2 text lim _ false s 19 s s true [fb 18 s, f0 10 s true] 2 none none) rfl rfl ?_
      refine lit_no (c := 10) rfl rfl (by decide) (fun _ => by rw [h13]; decide) ?_
      refine Ends.step (m' := mk c2 text lim _ false s 24 s s true [fb 23 s, f0 10 s true] 2 none none) rfl rfl ?_
      refine lit_yes rfl rfl (by decide) hs h13 ?_
      refine Ends.step (m' := mk c2 text lim _ false s 29 (s + 1) (s + 1) false [fl 26 (s + 1), fb 23 s, f0 10 s true] 3 none none) rfl rfl ?_
      refine lit_no (c := 10) rfl rfl (by decide) (fun hl e => h2 ⟨hl, e⟩) ?_
      refine Ends.step (m' := mk c2 text lim _ false s 32 (s + 1) (s + 1) true [fb 23 s, f0 10 s true] 2 none none) rfl rfl ?_
      refine Ends.step (m' := mk c2 text lim _ false s 35 (s + 1) (s + 1) true [fb 23 s, f0 10 s true] 2 none none) rfl rfl ?_
      refine Ends.step (m' := mk c2 text lim _ false s 35 (s + 1) (s + 1) true [fb 23 s, f0 10 s true] 2 (some true) none) rfl rfl ?_
      refine Ends.step (m' := mk c2 text lim _ false s 23 s (s + 1) true [f0 10 s true] 1 (some true) none) rfl rfl ?_
      refine Ends.step (m' := mk c2 text lim _ false s 10 s (s + 1) true [] 0 (some true) none) rfl rfl ?_
      refine Ends.step (m' := mk c2 text lim _ false s 10 s (s + 1) true [] 0 (some true) (some .matched)) rfl rfl ?_
      exact Ends.done rfl (hit_mk (if_neg fun h => h2 h.2).symm)
  · have h10 : text.getD s 0 = 10 := hit.resolve_right h13
    refine lit_no (c := 13) rfl rfl (by decide) (fun _ => h13) ?_
    refine Ends.step (m' := mk c2 text lim _ false s 19 s s true [fb 18 s, f0 10 s true] 2 none none) rfl rfl ?_
    refine lit_yes rfl rfl (by decide) hs h10 ?_
    refine Ends.step (m' := mk c2 text lim _ false s 35 (s + 1) s true [fb 18 s, f0 10 s true] 2 none none) rfl rfl ?_
    refine Ends.step (m' := mk c2 text lim _ false s 35 (s + 1) (s + 1) true [fb 18 s, f0 10 s true] 2 (some true) none) rfl rfl ?_
    refine Ends.step (m' := mk c2 text lim _ false s 18 s (s + 1) true [f0 10 s true] 1 (some true) none) rfl rfl ?_
    refine Ends.step (m' := mk c2 text lim _ false s 10 s (s + 1) true [] 0 (some true) none) rfl rfl ?_
    refine Ends.step (m' := mk c2 text lim _ false s 10 s (s + 1) true [] 0 (some true) (some .matched)) rfl rfl ?_
    exact Ends.done rfl (hit_mk (if_neg fun h => h13 h.1).symm)
theorem attemptFrom_none {m : M} {sn' : Seen} {first : Bool} (h : M.hasFirstSet m = true) (ha : M.admitted m (m.lim + 1 - s) s m.seen = .ok (none, sn')) : m.attemptFrom s first = ({ m with seen := sn' } : M).say false := by
  unfold M.attemptFrom
  rw [h, ha]
  rfl
theorem attemptFrom_some {m : M} {sn' : Seen} {r : Nat} {first : Bool} (h : M.hasFirstSet m = true) (ha : M.admitted m (m.lim + 1 - s) s m.seen = .ok (some r, sn')) : m.attemptFrom s first = ({ m with mustAdvance := false, seen := sn' } : M).attemptAt r first := by
  unfold M.attemptFrom
  rw [h, ha]
  rfl
theorem search2 (pos : Nat) (hpos : pos ≤ lim) : Ends 30 (forSearch c2 text 0 pos lim ma) fun m =>
    match firstAt text lim (fun c => c == 10 || c == 13) (lim + 1 - pos) pos with
    | some s => Hit s (nxt2 text lim s) m
    | none => Miss m := by
  have e : forSearch c2 text 0 pos lim ma = if (decide (pos > lim) || decide (lim - pos < 1)) = true then (mk c2 text 0 (({} : Seen).add 14) ma pos 10 pos pos true [] 0 (some false) none : M) |> fun m => { m with lim, lastStart := 0 } else (mk c2 text lim (({} : Seen).add 14) ma pos 10 pos pos true [] 0 none none).attemptFrom pos true := rfl
  rw [e]
  by_cases hp : pos < lim
  · rw [if_neg (by simp; lia)]
    obtain ⟨sn', ea⟩ := admitted_at (text := text) (lim := lim) (code := c2) (f := fun c => c == 10 || c == 13) inSet2 (mk c2 text lim (({} : Seen).add 14) ma pos 10 pos pos true [] 0 none none) rfl rfl rfl (lim + 1 - pos) pos (({} : Seen).add 14)
    generalize hfi : firstAt text lim (fun c => c == 10 || c == 13) (lim + 1 - pos) pos = r at ea
    cases r with
    | none =>
      dsimp only
      rw [attemptFrom_none (m := mk c2 text lim (({} : Seen).add 14) ma pos 10 pos pos true [] 0 none none) rfl ea]
      refine Ends.step (n := 29) (m' := mk c2 text lim _ ma pos 10 pos pos true [] 0 (some false) (some .failed)) rfl rfl ?_
      exact Ends.done rfl rfl
    | some s =>
      dsimp only
      have := firstAt_some hfi
      rw [attemptFrom_some (m := mk c2 text lim (({} : Seen).add 14) ma pos 10 pos pos true [] 0 none none) rfl ea]
      exact (run2 (text := text) (lim := lim) (sn := sn') true this.1 (by simpa using this.2)).mono (by decide)
  · have : firstAt text lim (fun c => c == 10 || c == 13) (lim + 1 - pos) pos = none := by
      have : lim + 1 - pos = 1 := by omega
      rw [this]
      unfold firstAt
      rw [if_pos (by exact Nat.le_of_not_lt hp)]
    rw [this, if_pos (by simp; lia)]
    exact Ends.step (n := 29) rfl rfl (Ends.done rfl rfl)
end
end Mine
end
noncomputable section
open PySem PySem.Sre
namespace Mine
section
variable {text : Array Nat} {lim s pos n : Nat} {sn : Seen} {ma : Bool} {P : M → Prop}
def dotAt (text : Array Nat) (s : Nat) : Prop := (s = 0 ∨ text.getD (s - 1) 0 = 10) ∧ text.getD s 0 = 46
abbrev dotD (text : Array Nat) (s : Nat) : Decidable (dotAt text s) := inferInstanceAs (Decidable (_ ∧ _))
def dotFrom (text : Array Nat) (lim : Nat) : Nat → Nat → Option Nat
  | 0, _ => none
  | k + 1, s => if s ≥ lim then none else @ite _ (dotAt text s) (dotD text s) (some s) (dotFrom text lim k (s + 1))
theorem bol_no {code : Array Nat} {start pc pos handed w : Nat} {outer : Bool} {frames : List Sre.Frame} (hw : code.getD pc 0 = 6) (hc : code.getD (pc + 1) 0 = 1) (hpc : pc < code.size) (h : ¬ (pos = 0 ∨ text.getD (pos - 1) 0 = 10))
    (k : ∀ sn, Ends n (mk code text lim sn ma start pc pos handed outer frames w (some false) none) P) : Ends (n + 1) (mk code text lim sn ma start pc pos handed outer frames w none none) P := by
  obtain ⟨sn', e⟩ := step_bol (m := mk code text lim sn ma start pc pos handed outer frames w none none) rfl rfl hw hc hpc
  refine Ends.step rfl (e.trans (if_neg h)) (k sn')
theorem bol_yes {code : Array Nat} {start pc pos handed w : Nat} {outer : Bool} {frames : List Sre.Frame} (hw : code.getD pc 0 = 6) (hc : code.getD (pc + 1) 0 = 1) (hpc : pc < code.size) (h : pos = 0 ∨ text.getD (pos - 1) 0 = 10)
    (k : ∀ sn, Ends n (mk code text lim sn ma start (pc + 2) pos handed outer frames w none none) P) : Ends (n + 1) (mk code text lim sn ma start pc pos handed outer frames w none none) P := by
  obtain ⟨sn', e⟩ := step_bol (m := mk code text lim sn ma start pc pos handed outer frames w none none) rfl rfl hw hc hpc
  refine Ends.step rfl (e.trans (if_pos h)) (k sn')
/-
theorem resume1 {h : Nat} {first : Bool} (hd : Ends (n + 1) (mk c1 text lim sn ma s 5 s h first [f0 5 s first] 1 (some false) none) P ) : Ends (n + 1) (mk c1 text lim sn ma s 5 s h first [f0 5 s first] 1 (some false) none) P := hd
-/
theorem succ1 (first : Bool) {h : Nat} : Ends 4 (mk c1 text lim sn ma s 9 (s + 1) h first [f0 5 s first] 1 none none) (Hit s (s + 1)) := by
  refine Ends.step (m' := mk c1 text lim (sn.add 1) ma s 9 (s + 1) (s + 1) first [f0 5 s first] 1 (some true) none) rfl ?_ ?_
  · have e : M.step (mk c1 text lim sn ma s 9 (s + 1) h first [f0 5 s first] 1 none none) = if (first && ((false && s + 1 != lim) || (ma && s + 1 == s))) = true then (mk c1 text lim (sn.add 1) ma s 9 (s + 1) h first [f0 5 s first] 1 (some false) none) else (mk c1 text lim (sn.add 1) ma s 9 (s + 1) (s + 1) first [f0 5 s first] 1 (some true) none) := rfl
    rw [e, if_neg (by simp)]
  refine Ends.step (m' := mk c1 text lim _ ma s 5 s (s + 1) first [] 0 (some true) none) rfl rfl ?_
  refine Ends.step (m' := mk c1 text lim _ ma s 5 s (s + 1) first [] 0 (some true) (some .matched)) rfl rfl ?_
  exact Ends.done rfl (hit_mk rfl)
theorem again1 {h : Nat} {first : Bool} (hs : s < lim) (hk : ∀ sn, Ends n (mk c1 text lim sn false (s + 1) 5 (s + 1) (s + 1) false [f0 5 (s + 1) false] 1 none none) P) : Ends (n + 1) (mk c1 text lim sn ma s 5 s h first [f0 5 s first] 1 (some false) none) P := by
  refine Ends.step rfl ?_ (hk sn)
  have e : M.step (mk c1 text lim sn ma s 5 s h first [f0 5 s first] 1 (some false) none) = if s < lim then M.attemptFrom (mk c1 text lim sn false s 5 s h first [] 0 none none) (s + 1) false else M.say (mk c1 text lim sn ma s 5 s h first [] 0 none none) false := rfl
  rw [e, if_pos hs]
  rfl
theorem stop1 {h : Nat} {first : Bool} (hs : ¬ s < lim) : Ends 2 (mk c1 text lim sn ma s 5 s h first [f0 5 s first] 1 (some false) none) Miss := by
  have e : M.step (mk c1 text lim sn ma s 5 s h first [f0 5 s first] 1 (some false) none) = if s < lim then M.attemptFrom (mk c1 text lim sn false s 5 s h first [] 0 none none) (s + 1) false else M.say (mk c1 text lim sn ma s 5 s h first [] 0 none none) false := rfl
  refine Ends.step (m' := mk c1 text lim _ ma s 5 s h first [] 0 (some false) none) rfl (e.trans (if_neg hs)) ?_
  exact Ends.step (n := 0) (m' := mk c1 text lim _ ma s 5 s h first [] 0 (some false) (some .failed)) rfl rfl (Ends.done rfl rfl)
theorem run1 : ∀ (k s : Nat) (first : Bool) (sn : Seen) (ma : Bool), k = lim + 1 - s → s ≤ lim → Ends (3 * k + 10) (mk c1 text lim sn ma s 5 s s first [f0 5 s first] 1 none none) fun m =>
    match dotFrom text lim k s with
    | some r => Hit r (r + 1) m
    | none => Miss m := by
  intro k
  induction k with
  | zero => intro s first sn ma hk hs; omega
  | succ k ih =>
    intro s first sn ma hk hs
    by_cases hl : s < lim
    · by_cases hd : dotAt text s
      · have ed : dotFrom text lim (k + 1) s = some s := by unfold dotFrom; rw [if_neg (by exact Nat.not_le_of_lt hl), if_pos hd]
        rw [ed]
        refine Ends.mono (n := 6) ?_ (by exact Nat.le_add_left _ _)
        refine bol_yes rfl rfl (by decide) hd.1 fun sn => ?_
        refine lit_yes rfl rfl (by decide) hl hd.2 ?_
        exact succ1 first
      · have ed : dotFrom text lim (k + 1) s = dotFrom text lim k (s + 1) := by rw [dotFrom]; rw [if_neg (by exact Nat.not_le_of_lt hl), if_neg hd]
        rw [ed]
        have rest := fun (sn : Seen) => again1 (sn := sn) (ma := ma) (h := s) (first := first) hl fun sn => ih (s + 1) false sn false (by lia) (by assumption)
        by_cases hb : s = 0 ∨ text.getD (s - 1) 0 = 10
        · refine Ends.mono (n := 3 * k + 13) ?_ (by exact Nat.le_refl _)
          refine bol_yes rfl rfl (by decide) hb fun sn => ?_
          exact lit_no (c := 46) rfl rfl (by decide) (fun _ h => hd ⟨hb, h⟩) (rest _)
        · refine Ends.mono (n := 3 * k + 12) ?_ (by exact Nat.le_succ _)
          exact bol_no rfl rfl (by decide) hb fun sn => rest _
    · have ed : dotFrom text lim (k + 1) s = none := by unfold dotFrom; rw [if_pos (by exact Nat.le_of_not_lt hl)]
      rw [ed]
      refine Ends.mono (n := 4) ?_ (by exact Nat.le_add_left _ _)
      by_cases hb : s = 0 ∨ text.getD (s - 1) 0 = 10
      · refine bol_yes rfl rfl (by decide) hb fun sn => ?_
        exact lit_no (c := 46) rfl rfl (by decide) (fun h => absurd h hl) (stop1 hl)
      · exact (bol_no (n := 2) rfl rfl (by decide) hb fun sn => stop1 hl).mono (by decide)
theorem search1 (pos : Nat) (hpos : pos ≤ lim) : Ends (3 * (lim + 1) + 10) (forSearch c1 text 0 pos lim ma) fun m =>
    match dotFrom text lim (lim + 1 - pos) pos with
    | some s => Hit s (s + 1) m
    | none => Miss m := by
  have e : forSearch c1 text 0 pos lim ma = if (decide (pos > lim) || decide (lim - pos < 1)) = true then (mk c1 text 0 (({} : Seen).add 14) ma pos 5 pos pos true [] 0 (some false) none : M) |> fun m => { m with lim, lastStart := 0 } else (mk c1 text lim (({} : Seen).add 14) ma pos 5 pos pos true [f0 5 pos true] 1 none none) := rfl
  rw [e]
  by_cases hp : pos < lim
  · rw [if_neg (by simp; lia)]
    exact (run1 (lim + 1 - pos) pos true _ ma rfl hpos).mono (by lia)
  · have : dotFrom text lim (lim + 1 - pos) pos = none := by
      have : lim + 1 - pos = 1 := by omega
      rw [this]
      unfold dotFrom
      rw [if_pos (by exact Nat.le_of_not_lt hp)]
    rw [this, if_pos (by simp; lia)]
    exact Ends.mono (n := 2) (Ends.step (n := 1) rfl rfl (Ends.done rfl rfl)) (by exact Nat.le_add_left _ _)
end
end Mine
end
noncomputable section
open PySem PySem.Sre
namespace Mine
def cN : Array Nat := #[14, 10, 4, 1, 1, 22, 0, 31, 16, 127, 0, 13, 7, 22, 0, 31, 16, 127, 0, 1]
def cV : Array Nat := #[14, 14, 4, 1, 1, 9, 4294966783, 0, 0, 2147483648, 0, 0, 0, 0, 0, 13, 11, 9, 4294966783, 0, 0, 2147483648, 0, 0, 0, 0, 0, 1]
section
variable {text : Array Nat} {lim s pos n : Nat} {sn : Seen} {ma : Bool} {P : M → Prop}
theorem inSetN (c : Nat) (sn : Seen) : ∃ sn', inSet cN c 20 5 true sn = .ok (decide (c ≤ 31) || c == 127, sn') := by
  have e : inSet cN c 20 5 true sn = if (decide (0 ≤ c) && decide (c ≤ 31)) = true then .ok (true, sn.add 22) else if c == 127 then .ok (true, (sn.add 22).add 16) else .ok (false, ((sn.add 22).add 16).add 0) := by
    rfl
  rw [e]
  have z : decide (0 ≤ c) = true := by exact rfl
  rw [z]
  cases h1 : decide (c ≤ 31)
  · cases h2 : c == 127
    · exact ⟨_, rfl⟩
    · exact ⟨_, rfl⟩
  · exact ⟨_, rfl⟩
abbrev badV (c : Nat) : Bool := decide (c < 256) && (cV.getD (5 + (1 + c / 32)) 0).testBit (c % 32)
theorem inSetV (c : Nat) (sn : Seen) : ∃ sn', inSet cV c 28 5 true sn = .ok (badV c, sn') := by
  have e : inSet cV c 28 5 true sn = if badV c = true then .ok (true, sn.add 9) else .ok (false, (sn.add 9).add 0) := by
    rfl
  rw [e]
  cases h1 : badV c
  · exact ⟨_, rfl⟩
  · exact ⟨_, rfl⟩
theorem firstAt_none {f : Nat → Bool} (h : ∀ j, j < lim → f (text.getD j 0) = false) : ∀ (k s : Nat), firstAt text lim f k s = none := by
  intro k
  induction k with
  | zero => intro s; rfl
  | succ k ih =>
    intro s
    unfold firstAt
    split
    · rfl
    · rw [h s (by exact Nat.lt_of_not_le (by assumption))]; exact ih _
theorem searchN (h : ∀ j, j < lim → 31 < text.getD j 0 ∧ text.getD j 0 < 127) : Ends 30 (forSearch cN text 0 0 lim false) Miss := by
  have e : forSearch cN text 0 0 lim false = if (decide (0 > lim) || decide (lim - 0 < 1)) = true then (mk cN text 0 (({} : Seen).add 14) false 0 11 0 0 true [] 0 (some false) none : M) |> fun m => { m with lim, lastStart := 0 } else (mk cN text lim (({} : Seen).add 14) false 0 11 0 0 true [] 0 none none).attemptFrom 0 true := rfl
  rw [e]
  by_cases hp : 0 < lim
  · rw [if_neg (by simp; exact Nat.ne_of_gt hp)]
    obtain ⟨sn', ea⟩ := admitted_at (text := text) (lim := lim) (code := cN) (f := fun c => decide (c ≤ 31) || c == 127) inSetN (mk cN text lim (({} : Seen).add 14) false 0 11 0 0 true [] 0 none none) rfl rfl rfl (lim + 1 - 0) 0 (({} : Seen).add 14)
    rw [firstAt_none (fun j hj => by have := h j hj; simp only [Bool.or_eq_false_iff, decide_eq_false_iff_not, beq_eq_false_iff_ne]; (clear hj hp; omega))] at ea
    rw [attemptFrom_none (m := mk cN text lim (({} : Seen).add 14) false 0 11 0 0 true [] 0 none none) rfl ea]
    exact Ends.step (n := 29) (m' := mk cN text lim _ false 0 11 0 0 true [] 0 (some false) (some .failed)) rfl rfl (Ends.done rfl rfl)
  · rw [if_pos (by simp; lia)]
    exact Ends.step (n := 29) rfl rfl (Ends.done rfl rfl)
theorem badV_no {c : Nat} (h : 31 < c ∧ c < 127) : badV c = false := by
  have : ∀ c, c < 127 → 31 < c → badV c = false := by decide +kernel
  exact this c h.2 h.1
theorem searchV (h : ∀ j, j < lim → 31 < text.getD j 0 ∧ text.getD j 0 < 127) : Ends 30 (forSearch cV text 0 0 lim false) Miss := by
  have e : forSearch cV text 0 0 lim false = if (decide (0 > lim) || decide (lim - 0 < 1)) = true then (mk cV text 0 (({} : Seen).add 14) false 0 15 0 0 true [] 0 (some false) none : M) |> fun m => { m with lim, lastStart := 0 } else (mk cV text lim (({} : Seen).add 14) false 0 15 0 0 true [] 0 none none).attemptFrom 0 true := rfl
  rw [e]
  by_cases hp : 0 < lim
  · rw [if_neg (by simp; exact Nat.ne_of_gt hp)]
    obtain ⟨sn', ea⟩ := admitted_at (text := text) (lim := lim) (code := cV) (f := badV) inSetV (mk cV text lim (({} : Seen).add 14) false 0 15 0 0 true [] 0 none none) rfl rfl rfl (lim + 1 - 0) 0 (({} : Seen).add 14)
    rw [firstAt_none (fun j hj => badV_no (h j hj))] at ea
    rw [attemptFrom_none (m := mk cV text lim (({} : Seen).add 14) false 0 15 0 0 true [] 0 none none) rfl ea]
    exact Ends.step (n := 29) (m' := mk cV text lim _ false 0 15 0 0 true [] 0 (some false) (some .failed)) rfl rfl (Ends.done rfl rfl)
  · rw [if_pos (by simp; lia)]
    exact Ends.step (n := 29) rfl rfl (Ends.done rfl rfl)
end
end Mine
end
noncomputable section
open PySem PySem.Builtin PySem.Builtin.Re
namespace Mine
structure PatAt (h : Heap) (pat : Addr) (code : Array Nat) : Prop where
  ex : ∃ o fs tb o2 its n t1 t2, h.get? pat = some o ∧ o.cls = .type "re.Pattern" ∧ o.data = .fields fs ∧ fs.getD 6 .none = .int 0 t1 ∧ fs.getD 2 .none = .int 0 t2 ∧ fs.getD 5 .none = .ref tb ∧ h.get? tb = some o2 ∧ o2.cls = .type "tuple" ∧ o2.data = .seq its n ∧ (its.map reRawOf).map (·.toNat) = code
theorem PatAt.keeps {h h' : Heap} {pat : Addr} {code : Array Nat} (p : PatAt h pat code) (k : ∀ b o, h.get? b = some o → h'.get? b = some o) : PatAt h' pat code := by
  obtain ⟨o, fs, tb, o2, its, n, t1, t2, e1, e2, e3, e4, e5, e6, e7, e7', e8, e9⟩ := p.ex
  exact ⟨o, fs, tb, o2, its, n, t1, t2, k _ _ e1, e2, e3, e4, e5, e6, k _ _ e7, e7', e8, e9⟩
theorem PatAt.but {h h' : Heap} {pat D : Addr} {oD : Obj} {code : Array Nat} (p : PatAt h pat code) (hD : h.get? D = some oD) (hc : oD.cls = .type "list") (k : ∀ b o, b ≠ D → h.get? b = some o → h'.get? b = some o) : PatAt h' pat code := by
  obtain ⟨o, fs, tb, o2, its, n, t1, t2, e1, e2, e3, e4, e5, e6, e7, e7', e8, e9⟩ := p.ex
  refine ⟨o, fs, tb, o2, its, n, t1, t2, k _ _ (fun q => ?_) e1, e2, e3, e4, e5, e6, k _ _ (fun q => ?_) e7, e7', e8, e9⟩
  · subst q; rw [e1] at hD; cases hD; rw [e2] at hc; simp at hc
  · subst q; rw [e7] at hD; cases hD; rw [e7'] at hc; simp at hc
section
variable {prog : Program} {w : World} {A : Around} {s : Shared} {R : Result → Shared → Prop} {E : Value → Shared → Prop}
theorem wpAny_drive {P : Sre.M → Prop} {Q : Sre.M → Shared → Prop} : ∀ (k : Nat) (n : Nat) (m : Sre.M), n < 4 * k → Ends n m P → (∀ m', m'.outcome.isSome → P m' → Q m' s) → wpAny (model prog w) A (reDrive k m) Q E s := by
  intro k
  induction k with
  | zero => intro n m hn; lia
  | succ k ih =>
    intro n m hn he hQ
    unfold reDrive
    show wpAny _ _ (if (Sre.M.runFor reTurnSteps m).outcome.isSome then pure _ else (do rule "sre.turn"; reDrive k _)) _ _ _
    split
    · rename_i h
      refine wpAny_pure ?_
      have e4 : Ends (reTurnSteps + n) m P := he.mono (by exact Nat.le_add_left _ _)
      unfold Ends at e4
      rw [runFor_add, runFor_some h] at e4
      exact hQ _ h e4.2
    · refine wpAny_bind (wpAny_rule ?_)
      have h4 : 4 ≤ n := by
        rcases Nat.lt_or_ge n 4 with q | q
        · exact absurd (he.mono (Nat.le_of_lt q) : Ends 4 m P).1 (by assumption)
        · exact q
      have e : Ends (n - 4) (Sre.M.runFor reTurnSteps m) P := by
        unfold Ends
        rw [← runFor_add]
        have : reTurnSteps + (n - 4) = n := by show 4 + (n - 4) = n; exact Nat.add_sub_of_le h4
        rw [this]
        exact he
      exact ih (n - 4) _ (by omega) e hQ
theorem wpAny_rules (m : Sre.M) : ∀ (l : List Nat) (Q : PUnit → Shared → Prop), Q ⟨⟩ s → wpAny (model prog w) A (forIn l PUnit.unit fun i _ => do
      if m.seen.has i then rule (Sre.names.getD i "")
      pure (ForInStep.yield PUnit.unit)) Q E s := by
  intro l
  induction l with
  | nil => intro Q h; rw [List.forIn_nil]; exact wpAny_pure h
  | cons i l ih =>
    intro Q h
    rw [List.forIn_cons]
    refine wpAny_bind ?_
    split
    · refine wpAny_bind (wpAny_rule (wpAny_pure ?_))
      exact ih Q h
    · refine wpAny_pure ?_
      exact ih Q h
theorem wpAny_hit {n a e : Nat} {m : Sre.M} {Q : Option Sre.M → Shared → Prop} (he : Ends n m (Hit a e)) (hn : n < 4 * 2 ^ 64) (hQ : ∀ m', m'.start = a → m'.handed = e → Q (some m') s) : wpAny (model prog w) A (reRunToEnd m) Q E s := by
  unfold reRunToEnd
  refine wpAny_bind (wpAny_drive (2 ^ 64) n m hn he fun m' _ hp => ?_)
  refine wpAny_bind (wpAny_rules m' _ _ ?_)
  rw [hp.1]
  exact wpAny_pure (hQ m' hp.2.1 hp.2.2)
theorem wpAny_miss {n : Nat} {m : Sre.M} {Q : Option Sre.M → Shared → Prop} (he : Ends n m Miss) (hn : n < 4 * 2 ^ 64) (hQ : Q none s) : wpAny (model prog w) A (reRunToEnd m) Q E s := by
  unfold reRunToEnd
  refine wpAny_bind (wpAny_drive (2 ^ 64) n m hn he fun m' _ hp => ?_)
  refine wpAny_bind (wpAny_rules m' _ _ ?_)
  rw [show m'.outcome = some .failed from hp]
  exact wpAny_pure hQ
theorem wpAny_textOf {x : Str} {t : Tok} {Q : Array Nat × Nat → Shared → Prop} (h : Q (x.cps, 0) s) : wpAny (model prog w) A (reTextOf (.str x t)) Q E s := by
  unfold reTextOf asStr?
  exact wpAny_bind (wpAny_pure (wpAny_pure h))
theorem wpAny_whole {pat : Addr} {code : Array Nat} {x : Str} {t : Tok} {Q : ReTarget → Shared → Prop} (p : PatAt s.heap pat code)
    (h : Q { pattern := .ref pat, string := .str x t, code, text := x.cps, kind := 0, groups := 0, pos := 0, lim := x.cps.size } s) : wpAny (model prog w) A (reWholeTarget (.ref pat) (.str x t)) Q E s := by
  obtain ⟨o, fs, tb, o2, its, n, t1, t2, e1, e2, e3, e4, e5, e6, e7, e7', e8, e9⟩ := p.ex
  unfold reWholeTarget
  refine wpAny_bind (wpAny_fieldsOf e1 e3 ?_)
  refine wpAny_bind (wpAny_textOf ?_)
  dsimp only
  rw [e4, e5, e6]
  dsimp only [reRawNat]
  show wpAny (model prog w) A (reNoCollectionInside (.str x t) 0 >>= fun _ => _) Q E s
  refine wpAny_bind (wpAny_of_eq (show reNoCollectionInside (.str x t) 0 = pure () from rfl) ?_)
  unfold reRawItems
  refine wpAny_bind (wpAny_bind (wpAny_seqItems e7 e8 (wpAny_pure ?_)))
  refine wpAny_pure ?_
  subst e9
  exact h
end
end Mine
end
noncomputable section
open PySem PySem.Builtin PySem.Builtin.Re
namespace Mine
theorem slot_sub : Slot "re.Pattern" "sub" "re.Pattern.sub" :=
  .of (owner := "re.Pattern") (n := "sub") (by rw [typeLookup_type, builtinLookup_eq_fast]; kernel_rfl) (by decide +kernel) (by decide +kernel) (by decide +kernel)
    (by first | exact .inl (by decide +kernel) | exact .inr (by decide +kernel)) (by rw [isSubtype_type]; kernel_rfl)
theorem entry_sub : entryFor table "re.Pattern.sub" = some Builtin.«re.Pattern.sub» := entryFor_of_fast (by kernel_rfl)
theorem entry_subloop : entryFor table "re.Pattern.sub.loop" = some Builtin.«re.Pattern.sub.loop» := entryFor_of_fast (by kernel_rfl)
theorem plain_subloop : plainId "re.Pattern.sub.loop" = true := by decide +kernel
theorem args_sub (a b c : Value) : argsOk "re.Pattern.sub" ⟨[a, b, c], []⟩ := by unfold argsOk; kernel_rfl
theorem slot_search : Slot "re.Pattern" "search" "re.Pattern.search" :=
  .of (owner := "re.Pattern") (n := "search") (by rw [typeLookup_type, builtinLookup_eq_fast]; kernel_rfl) (by decide +kernel) (by decide +kernel) (by decide +kernel)
    (by first | exact .inl (by decide +kernel) | exact .inr (by decide +kernel)) (by rw [isSubtype_type]; kernel_rfl)
theorem entry_search : entryFor table "re.Pattern.search" = some Builtin.«re.Pattern.search» := entryFor_of_fast (by kernel_rfl)
theorem args_search (a b : Value) : argsOk "re.Pattern.search" ⟨[a, b], []⟩ := by unfold argsOk; kernel_rfl
end Mine
end
noncomputable section
open PySem PySem.Builtin PySem.Builtin.Re
namespace Mine
def slice (x : Str) (a b : Nat) : Str := ⟨x.cps.extract a b⟩
structure Finds (code : Array Nat) (x : Str) (find : Nat → Option (Nat × Nat)) : Prop where
  hit : ∀ p ma a e, p ≤ x.cps.size → find p = some (a, e) → ∃ n, n < 4 * 2 ^ 64 ∧ Ends n (Sre.forSearch code x.cps 0 p x.cps.size ma) (Hit a e)
  miss : ∀ p ma, p ≤ x.cps.size → find p = none → ∃ n, n < 4 * 2 ^ 64 ∧ Ends n (Sre.forSearch code x.cps 0 p x.cps.size ma) Miss
  lo : ∀ p a e, find p = some (a, e) → p ≤ a ∧ a < e ∧ e ≤ x.cps.size
def subP (find : Nat → Option (Nat × Nat)) (repl x : Str) : Nat → Nat → List Str
  | 0, _ => []
  | k + 1, p => match find p with
    | some (a, e) => (if p < a then [slice x p a] else []) ++ repl :: subP find repl x k e
    | none => if p < x.cps.size then [slice x p x.cps.size] else []
section
variable {prog : Program} {w : World} {A : Around} {s : Shared} {R : Result → Shared → Prop} {E : Value → Shared → Prop}
theorem slice_len (x : Str) (a b : Nat) (hb : b ≤ x.cps.size) : (slice x a b).length = b - a := by
  show (x.cps.extract a b).size = _
  rw [Array.size_extract]
  lia
theorem foldl_len (l : List Str) : ∀ n : Nat, l.foldl (fun a (y : Str) => a + y.length + 0) n = n + (l.map (·.length)).sum := by
  induction l with
  | nil => intro n; rfl
  | cons y l ih => intro n; rw [List.foldl_cons, ih, List.map_cons, List.sum_cons]; lia
set_option maxHeartbeats 1000000 in
theorem sub_loop {pat : Addr} {code : Array Nat} {x repl : Str} {t tr : Tok} {find : Nat → Option (Nat × Nat)} (F : Finds code x find) (hx : x.cps.size ≤ 1000000) (hr : repl.length ≤ 2) :
    ∀ (k p : Nat) (ma : Bool) (n : Int) (s : Shared) (D : Addr) (c : Nat) (done : List (Str × Tok)), x.cps.size - p < k → p ≤ x.cps.size → PatAt s.heap pat code →
    s.heap.get? D = some { cls := .type "list", dict := none, data := .seq (strValues done).toArray c, slots := #[] } → done.length ≤ 2 * p → ((done.map (·.1)).map (·.length)).sum ≤ 3 * p →
    (∀ h' u tk, (∀ b o, b ≠ D → s.heap.get? b = some o → h'.get? b = some o) → R (.ok (.ret (.str (Str.join ⟨#[]⟩ (done.map (·.1) ++ subP find repl x k p)) u))) { s with heap := h', toks := tk }) →
    codeAny (model prog w) A (.builtin "re.Pattern.sub.loop" ⟨[.ref pat, .str x t, .str repl tr, rawInt 0, rawInt 0, rawInt n, rawInt p, rawInt p, .bool ma, .ref D, .bool false], []⟩) R s := by
  intro k
  induction k with
  | zero => intro p ma n s D c done hk; lia
  | succ k ih =>
    intro p ma n s D c done hk hp hpat hD hd1 hd2 hR
    refine codeAny_builtin entry_subloop ?_
    rw [Around.under_plainId plain_subloop _]
    show wpAny _ A.in1 (reWholeTarget (.ref pat) (.str x t) >>= _) _ _ s
    refine wpAny_bind (wpAny_whole hpat ?_)
    unfold subP at hR
    dsimp only
    rw [if_pos (by decide)]
    refine wpAny_bind (wpAny_of_eq (show reLiteralCannotBeTurned (.str repl tr) = pure () from rfl) ?_)
    refine wpAny_bind ?_
    rw [if_neg (by simp)]
    unfold reNextFound
    rw [Int.toNat_natCast]
    have hsz : (strValues done).toArray.size = done.length := by exact List.length_map _
    have hsl : sizeLine = 16777216 := by decide
    cases hf : find p with
    | some ae =>
      obtain ⟨a, e⟩ := ae
      rw [hf] at hR
      dsimp only at hR
      obtain ⟨n0, hn0, hE⟩ := F.hit p ma a e hp hf
      obtain ⟨l1, l2, l3⟩ := F.lo p a e hf
      refine wpAny_hit hE hn0 fun m' hs he => ?_
      dsimp only
      rw [hs, he]
      have fin : ∀ (h₁ : Heap) (u₁ : Nat) (c₁ : Nat) (done₁ : List (Str × Tok)), (∀ b o, b ≠ D → s.heap.get? b = some o → h₁.get? b = some o) →
          h₁.get? D = some { cls := .type "list", dict := none, data := .seq (strValues done₁).toArray c₁, slots := #[] } → done₁.map (·.1) = done.map (·.1) ++ (if p < a then [slice x p a] else []) → done₁.length ≤ 2 * p + (if p < a then 1 else 0) →
          wpAny (model prog w) A.in1 (do
            let item ← (if ((0 : Int) == 0) = true then pure (Value.str repl tr) else (do
              let found ← reNewMatch (.ref pat) (.str x t) 0 0 x.cps.size m'
              holding [found] (if ((0 : Int) == 1) = true then call (.str repl tr) [found] else do reExpand (.str repl tr) (← reFound found))))
            if item != .none then updateSeq D (·.push item)
            again (.builtin "re.Pattern.sub.loop" ⟨[.ref pat, .str x t, .str repl tr, rawInt 0, rawInt 0, rawInt (n + 1), rawInt e, rawInt e, .bool (e == a), .ref D, .bool false], []⟩))
            (fun fin s' => match fin with | .done f => R (.ok f) s' | .again c' => c'.quiet = true ∧ codeAny (model prog w) A c' R s') (fun e s' => R (.error e) s') { s with heap := h₁, toks := u₁ } := by
        intro h₁ u₁ c₁ done₁ k₁ hD₁ hm₁ hl₁
        obtain ⟨c₂, ec₂⟩ := mapSeq_lst (strValues done₁).toArray (strValues (done₁ ++ [(repl, tr)])).toArray c₁ (·.push (.str repl tr)) (by simp [strValues])
        have k₂ : ∀ b o, b ≠ D → s.heap.get? b = some o → (h₁.update D (Obj.mapSeq (·.push (.str repl tr)))).get? b = some o := fun b o hb e => (Heap.get?_update_other _ _ (fun h : D = b => hb h.symm)).trans (k₁ b o hb e)
        rw [if_pos (by decide)]
        refine wpAny_bind (wpAny_pure ?_)
        rw [if_pos (by rfl)]
        have hsz₁ : (strValues done₁).toArray.size = done₁.length := by exact List.length_map _
        have hb : (if p < a then 1 else 0) ≤ 1 := by split <;> omega
        refine wpAny_bind (wpAny_updateSeq (s := { s with heap := h₁, toks := u₁ }) hD₁ rfl ?_ (by rw [hsz₁]; lia) (by rw [Array.size_push, hsz₁]; lia))
        refine wpAny_pure ⟨plainId_quiet plain_subloop _, ?_⟩
        have hsum : ((done₁.map (·.1)).map (·.length)).sum ≤ 3 * p + (a - p) := by
          rw [hm₁, List.map_append, List.sum_append]
          split
          · have := slice_len x p a (by (clear hb hsz₁ hl₁ he hs l1 hn0 hsl hsz hd2 hd1 hp hk hr hx; lia))
            simp only [List.map_cons, List.map_nil, List.sum_cons, List.sum_nil]
            lia
          · simp only [List.map_nil, List.sum_nil]; omega
        refine ih e (e == a) (n + 1) _ D c₂ (done₁ ++ [(repl, tr)]) (by (clear hsum hb hsz₁ hl₁ he hs hn0 hsl hsz hd2 hd1 hp hr hx; omega)) l3 (hpat.but hD rfl k₂) ((Heap.get?_update_self _ hD₁ rfl).trans (congrArg some ec₂)) ?_ ?_ fun h' u tk hk => ?_
        · rw [List.length_append]
          simp only [List.length_cons, List.length_nil]
          lia
        · rw [List.map_append, List.map_append, List.sum_append]
          simp only [List.map_cons, List.map_nil, List.sum_cons, List.sum_nil]
          lia
        · have := hR h' u tk fun b o hb e => hk b o hb (k₂ b o hb e)
          rw [List.map_append, hm₁]
          simp only [List.map_cons, List.map_nil, List.append_assoc, List.cons_append, List.nil_append] at this ⊢
          exact this
      split
      · rename_i hpa
        unfold reSlice
        rw [if_pos (by decide)]
        refine wpAny_bind (wpAny_mkStr ?_ (by have := slice_len x p a (by (clear hpa he hs l1 hn0 hsl hsz hd2 hd1 hp hk hr hx; lia)); show (slice x p a).length ≤ _; (clear hpa he hs l1 hn0 hsz hd2 hd1 hp hk hr; lia)))
        obtain ⟨c₂, ec₂⟩ := mapSeq_lst (strValues done).toArray (strValues (done ++ [(slice x p a, s.toks)])).toArray c (·.push (.str (slice x p a) s.toks)) (by simp [strValues])
        refine wpAny_bind (wpAny_updateSeq (s := { s with toks := s.toks + 1 }) hD rfl ?_ (by rw [hsz]; lia) (by rw [Array.size_push, hsz]; lia))
        exact fin _ _ c₂ (done ++ [(slice x p a, s.toks)]) (fun b o hb e => (Heap.get?_update_other _ _ (fun h : D = b => hb h.symm)).trans e) ((Heap.get?_update_self _ hD rfl).trans (congrArg some ec₂)) (by simp [hpa]) (by simp [hpa]; omega)
      · rename_i hpa
        exact fin s.heap s.toks c done (fun b o hb e => e) hD (by simp [hpa]) (by simp [hpa]; omega)
    | none =>
      rw [hf] at hR
      dsimp only at hR
      obtain ⟨n0, hn0, hE⟩ := F.miss p ma hp hf
      refine wpAny_miss hE hn0 ?_
      dsimp only
      have fin : ∀ (h₁ : Heap) (u₁ : Nat) (c₁ : Nat) (done₁ : List (Str × Tok)), (∀ b o, b ≠ D → s.heap.get? b = some o → h₁.get? b = some o) →
          h₁.get? D = some { cls := .type "list", dict := none, data := .seq (strValues done₁).toArray c₁, slots := #[] } → done₁.map (·.1) = done.map (·.1) ++ (if p < x.cps.size then [slice x p x.cps.size] else []) →
          wpAny (model prog w) A.in1 (do
            let joiner ← reSlice x.cps 0 0 0
            let its ← seqItems? (.ref D)
            if (its.getD #[]).isEmpty = true then (do
              let text ← pure joiner
              if false = true then (do ret (← holding [text] (do newTuple [text, ← mkInt n]))) else ret text)
            else (do
              let text ← call (.builtin (if ((0 : Nat) == 0) = true then "str.join" else "bytes.join")) [joiner, .ref D]
              if false = true then (do ret (← holding [text] (do newTuple [text, ← mkInt n]))) else ret text))
            (fun fin s' => match fin with | .done f => R (.ok f) s' | .again c' => c'.quiet = true ∧ codeAny (model prog w) A c' R s') (fun e s' => R (.error e) s') { s with heap := h₁, toks := u₁ } := by
        intro h₁ u₁ c₁ done₁ k₁ hD₁ hm₁
        have hsum : ((done₁.map (·.1)).map (·.length)).sum ≤ 3 * x.cps.size := by
          rw [hm₁, List.map_append, List.sum_append]
          split
          · have := slice_len x p x.cps.size (by exact Nat.le_refl _)
            simp only [List.map_cons, List.map_nil, List.sum_cons, List.sum_nil]
            (clear hn0 hsl hsz hd1 hp hk hr hx; lia)
          · simp only [List.map_nil, List.sum_nil]; lia
        have e00 : x.cps.extract 0 0 = #[] := by simp
        unfold reSlice
        rw [if_pos (by decide), e00]
        refine wpAny_bind (wpAny_mkStr ?_ (by show (0 : Nat) ≤ _; exact Nat.zero_le _))
        refine wpAny_bind (wpAny_seqItems hD₁ rfl ?_)
        split
        · rename_i hemp
          have : done₁ = [] := by
            cases done₁ with
            | nil => rfl
            | cons a b => simp [strValues] at hemp
          subst this
          refine wpAny_bind (wpAny_pure ?_)
          refine wpAny_pure ?_
          have := hR h₁ u₁ (u₁ + 1) k₁
          rw [← hm₁] at this
          exact this
        · rw [if_pos (by decide)]
          refine wpAny_bind ?_
          refine SC.join (l := done₁) (texts := done₁.map (·.1)) ⟨_, hD₁, rfl, _, rfl⟩ rfl ?_ fun t' k' => ?_
          · unfold JoinOk Builtin.Str.tooLong
            rw [List.foldl_toArray]
            have := foldl_len (done₁.map (·.1)) 0
            simp only [show (({ cps := #[] } : Str).length) = 0 from rfl]
            rw [this]
            simp only [Bool.not_eq_true', decide_eq_false_iff_not]
            lia
          · refine wpAny_pure ?_
            have := hR h₁ t' k' k₁
            rw [← hm₁, ← Txt_join] at this
            exact this
      split
      · rename_i hpa
        unfold reSlice
        rw [if_pos (by decide)]
        refine wpAny_bind (wpAny_mkStr ?_ (by have := slice_len x p x.cps.size (by exact Nat.le_refl _); show (slice x p x.cps.size).length ≤ _; lia))
        obtain ⟨c₂, ec₂⟩ := mapSeq_lst (strValues done).toArray (strValues (done ++ [(slice x p x.cps.size, s.toks)])).toArray c (·.push (.str (slice x p x.cps.size) s.toks)) (by simp [strValues])
        refine wpAny_bind (wpAny_updateSeq (s := { s with toks := s.toks + 1 }) hD rfl ?_ (by rw [hsz]; (clear hpa hn0 hsz hd2 hk hr; lia)) (by rw [Array.size_push, hsz]; (clear hpa hn0 hsz hd2 hk hr; lia)))
        exact fin _ _ c₂ (done ++ [(slice x p x.cps.size, s.toks)]) (fun b o hb e => (Heap.get?_update_other _ _ (fun h : D = b => hb h.symm)).trans e) ((Heap.get?_update_self _ hD rfl).trans (congrArg some ec₂)) (by simp [hpa])
      · rename_i hpa
        exact fin s.heap s.toks c done (fun b o hb e => e) hD (by simp [hpa])
end
end Mine
end
noncomputable section
open PySem PySem.Builtin PySem.Builtin.Re
namespace Mine
theorem str_nocall : typeLookup (.type "str") "__call__" = pure none := by rw [typeLookup_type, builtinLookup_eq_fast]; kernel_rfl
section
variable {prog : Program} {w : World} {A : Around} {s : Shared} {Q : Value → Shared → Prop} {E : Value → Shared → Prop}
theorem call_sub {pat : Addr} {code : Array Nat} {x repl : Str} {t tr : Tok} {find : Nat → Option (Nat × Nat)} (p : PatAt s.heap pat code) (F : Finds code x find) (hx : x.cps.size ≤ 1000000) (hr : repl.length ≤ 2) (hb : repl.cps.contains 92 = false)
    (hQ : ∀ h' u tk, (∀ b o, s.heap.get? b = some o → h'.get? b = some o) → Q (.str (Str.join ⟨#[]⟩ (subP find repl x (x.cps.size + 1) 0)) u) { s with heap := h', toks := tk }) :
    wpAny (model prog w) A (call (.builtin "re.Pattern.sub") [.ref pat, .str repl tr, .str x t]) Q E s := by
  obtain ⟨o, fs, tb, o2, its, n, t1, t2, e1, e2, e3, e4, e5, e6, e7, e7', e8, e9⟩ := id p.ex
  refine wpAny_call (codeAny_call_builtin slot_sub.plain entry_sub (slot_sub.check _ _ _ _ _ _ _ _ ⟨o, e1, e2⟩ (args_sub _ _ _) ?_))
  show wpAny _ A.in1 (reNamed "re.Pattern.sub" "sub" ["repl", "string", "count"] 2 [.str repl tr, .str x t] [] >>= _) _ _ _
  refine wpAny_bind (wpAny_of_eq (show reNamed "re.Pattern.sub" "sub" ["repl", "string", "count"] 2 [.str repl tr, .str x t] [] = pure [some (.str repl tr), some (.str x t), none] from rfl) ?_)
  dsimp only
  refine wpAny_bind (wpAny_pure ?_)
  refine wpAny_bind (wpAny_specialOf (typeIs_str _ _ _) str_nocall ?_)
  show wpAny _ A.in1 (_ >>= _) _ _ _
  refine wpAny_bind (wpAny_of_eq (show asStr? (.str repl tr) = pure (some repl) from rfl) ?_)
  show wpAny _ A.in1 (pure (!repl.cps.contains 92) >>= _) _ _ _
  refine wpAny_bind (wpAny_pure ?_)
  rw [hb]
  show wpAny _ A.in1 (pure (Value.str repl tr, 0) >>= _) _ _ _
  refine wpAny_bind (wpAny_pure ?_)
  refine wpAny_bind (wpAny_holding (wpAny_whole p ?_))
  show wpAny _ A.in1 (newList [] >>= _) _ _ _
  refine wpAny_bind (wpAny_newList ?_)
  refine wpAny_pure ⟨plainId_quiet plain_subloop _, ?_⟩
  have k : ∀ b o, s.heap.get? b = some o → (s.heap.push { cls := .type "list", data := .seq ([] : List Value).toArray }).get? b = some o := fun b o e => Heap.get?_push_of_some _ e
  refine sub_loop F hx hr (x.cps.size + 1) 0 false 0 _ s.heap.objs.size 0 [] (by exact Nat.sub_lt_succ _ _) (Nat.zero_le _) (p.keeps k) (Heap.get?_push_size _ rfl) (Nat.zero_le _) (Nat.zero_le _) fun h' u tk hk => ?_
  exact hQ h' u tk fun b o e => hk b o (Nat.ne_of_lt (Heap.lt_size e)) (k b o e)
end
end Mine
end
noncomputable section
open PySem PySem.Builtin PySem.Builtin.Re
namespace Mine
section
variable {prog : Program} {w : World} {A : Around} {s : Shared} {Q : Value → Shared → Prop} {E : Value → Shared → Prop}
theorem call_search_miss {pat : Addr} {code : Array Nat} {x : Str} {t : Tok} {n : Nat} (p : PatAt s.heap pat code) (hx : x.cps.size ≤ 1000000)
    (he : Ends n (Sre.forSearch code x.cps 0 0 x.cps.size false) Miss) (hn : n < 4 * 2 ^ 64) (hQ : Q .none s) :
    wpAny (model prog w) A (call (.builtin "re.Pattern.search") [.ref pat, .str x t]) Q E s := by
  obtain ⟨o, fs, tb, o2, its, n', t1, t2, e1, e2, e3, e4, e5, e6, e7, e7', e8, e9⟩ := id p.ex
  refine wpAny_call (codeAny_call_builtin slot_search.plain entry_search (slot_search.check _ _ _ _ _ _ _ _ ⟨o, e1, e2⟩ (args_search _ _) ?_))
  unfold Builtin.«re.Pattern.search»
  refine wpAny_bind ?_
  unfold reTarget
  show wpAny _ A.in1 (reNamed "re.Pattern.search" "search" ["string", "pos", "endpos"] 1 [.str x t] [] >>= _) _ _ _
  refine wpAny_bind (wpAny_of_eq (show reNamed "re.Pattern.search" "search" ["string", "pos", "endpos"] 1 [.str x t] [] = pure [some (.str x t), none, none] from rfl) ?_)
  dsimp only
  refine wpAny_bind (wpAny_pure (wpAny_bind (wpAny_pure ?_)))
  refine wpAny_bind (wpAny_fieldsOf e1 e3 ?_)
  refine wpAny_bind (wpAny_textOf ?_)
  dsimp only
  rw [e4, e5, e6]
  dsimp only [reRawNat]
  show wpAny (model prog w) _ (reNoCollectionInside (.str x t) 0 >>= fun _ => _) _ E s
  refine wpAny_bind (wpAny_of_eq (show reNoCollectionInside (.str x t) 0 = pure () from rfl) ?_)
  unfold reRawItems
  refine wpAny_bind (wpAny_bind (wpAny_seqItems e7 e8 (wpAny_pure ?_)))
  refine wpAny_pure ?_
  subst e9
  unfold reAnswer
  dsimp only
  have hlim : min ((2 : Int) ^ 63 - 1).toNat x.cps.size = x.cps.size := by
    have : ((2 : Int) ^ 63 - 1).toNat = 9223372036854775807 := by decide
    rw [this]; lia
  rw [hlim, show min (Int.toNat 0) x.cps.size = 0 by exact rfl]
  refine wpAny_bind (wpAny_miss he hn ?_)
  exact wpAny_pure hQ
end
section
def norm : List Nat → List Nat
  | [] => []
  | [c] => if c = 13 then [13, 10] else if c = 10 then [13, 10] else [c]
  | c :: d :: l => if c = 13 then (if d = 10 then 13 :: 10 :: norm l else 13 :: 10 :: norm (d :: l)) else if c = 10 then 13 :: 10 :: norm (d :: l) else c :: norm (d :: l)
def dots : Bool → List Nat → List Nat
  | _, [] => []
  | b, c :: l => if b = true ∧ c = 46 then 46 :: 46 :: dots false l else c :: dots (c == 10) l
def find2 (x : Str) (p : Nat) : Option (Nat × Nat) := (firstAt x.cps x.cps.size (fun c => c == 10 || c == 13) (x.cps.size + 1 - p) p).map fun a => (a, nxt2 x.cps x.cps.size a)
def find1 (x : Str) (p : Nat) : Option (Nat × Nat) := (dotFrom x.cps x.cps.size (x.cps.size + 1 - p) p).map fun a => (a, a + 1)
theorem firstAt_spec {text : Array Nat} {lim : Nat} {f : Nat → Bool} : ∀ {k p : Nat}, lim + 1 - p ≤ k → match firstAt text lim f k p with
    | some r => p ≤ r ∧ r < lim ∧ f (text.getD r 0) = true ∧ ∀ j, p ≤ j → j < r → f (text.getD j 0) = false
    | none => ∀ j, p ≤ j → j < lim → f (text.getD j 0) = false := by
  intro k
  induction k with
  | zero => intro p h; unfold firstAt; intro j h1 h2; omega
  | succ k ih =>
    intro p h
    unfold firstAt
    by_cases hp : p ≥ lim
    · rw [if_pos hp]; intro j h1 h2; lia
    · rw [if_neg hp]
      by_cases hf : f (text.getD p 0) = true
      · rw [if_pos hf]; exact ⟨Nat.le_refl _, by exact Nat.lt_of_not_le hp, hf, fun j h1 h2 => by (clear hp h; omega)⟩
      · rw [if_neg hf]
        have := ih (p := p + 1) (by (clear hp; omega))
        revert this
        cases firstAt text lim f k (p + 1) with
        | none =>
          intro h j h1 h2
          rcases Nat.eq_or_lt_of_le h1 with q | q
          · subst q; simpa using hf
          · exact h j q h2
        | some r =>
          rintro ⟨a, b, c, d⟩
          refine ⟨by exact Nat.le_of_lt a, b, c, fun j h1 h2 => ?_⟩
          rcases Nat.eq_or_lt_of_le h1 with q | q
          · subst q; simpa using hf
          · exact d j q h2
theorem dotFrom_spec {text : Array Nat} {lim : Nat} : ∀ {k p : Nat}, lim + 1 - p ≤ k → match dotFrom text lim k p with
    | some r => p ≤ r ∧ r < lim ∧ dotAt text r ∧ ∀ j, p ≤ j → j < r → ¬ dotAt text j
    | none => ∀ j, p ≤ j → j < lim → ¬ dotAt text j := by
  intro k
  induction k with
  | zero => intro p h; unfold dotFrom; intro j h1 h2; omega
  | succ k ih =>
    intro p h
    unfold dotFrom
    by_cases hp : p ≥ lim
    · rw [if_pos hp]; intro j h1 h2; lia
    · rw [if_neg hp]
      by_cases hf : dotAt text p
      · rw [if_pos hf]; exact ⟨Nat.le_refl _, by exact Nat.lt_of_not_le hp, hf, fun j h1 h2 => by lia⟩
      · rw [if_neg hf]
        have := ih (p := p + 1) (by (clear hp; omega))
        revert this
        cases dotFrom text lim k (p + 1) with
        | none =>
          intro h j h1 h2
          rcases Nat.eq_or_lt_of_le h1 with q | q
          · subst q; exact hf
          · exact h j q h2
        | some r =>
          rintro ⟨a, b, c, d⟩
          refine ⟨by exact Nat.le_of_lt a, b, c, fun j h1 h2 => ?_⟩
          rcases Nat.eq_or_lt_of_le h1 with q | q
          · subst q; exact hf
          · exact d j q h2
theorem nxt2_b {text : Array Nat} {lim a : Nat} (h : a < lim) : a < nxt2 text lim a ∧ nxt2 text lim a ≤ lim := by
  unfold nxt2
  by_cases q : text.getD a 0 = 13 ∧ a + 1 < lim ∧ text.getD (a + 1) 0 = 10
  · rw [if_pos q]; omega
  · rw [if_neg q]; lia
theorem finds2 (x : Str) (hx : x.cps.size ≤ 1000000) : Finds c2 x (find2 x) := by
  refine ⟨fun p ma a e hp h => ?_, fun p ma hp h => ?_, fun p a e h => ?_⟩
  · unfold find2 at h
    have := search2 (text := x.cps) (lim := x.cps.size) (ma := ma) p hp
    cases q : firstAt x.cps x.cps.size (fun c => c == 10 || c == 13) (x.cps.size + 1 - p) p with
    | none => rw [q] at h; cases h
    | some r =>
      rw [q] at h this
      cases h
      exact ⟨30, by decide, this⟩
  · unfold find2 at h
    have := search2 (text := x.cps) (lim := x.cps.size) (ma := ma) p hp
    cases q : firstAt x.cps x.cps.size (fun c => c == 10 || c == 13) (x.cps.size + 1 - p) p with
    | none => rw [q] at this; exact ⟨30, by decide, this⟩
    | some r => rw [q] at h; cases h
  · unfold find2 at h
    have := firstAt_spec (text := x.cps) (lim := x.cps.size) (f := fun c => c == 10 || c == 13) (Nat.le_refl (x.cps.size + 1 - p))
    cases q : firstAt x.cps x.cps.size (fun c => c == 10 || c == 13) (x.cps.size + 1 - p) p with
    | none => rw [q] at h; cases h
    | some r =>
      rw [q] at h this
      cases h
      obtain ⟨a1, a2, a3, a4⟩ := this
      exact ⟨a1, nxt2_b a2⟩
theorem finds1 (x : Str) (hx : x.cps.size ≤ 1000000) : Finds c1 x (find1 x) := by
  refine ⟨fun p ma a e hp h => ?_, fun p ma hp h => ?_, fun p a e h => ?_⟩
  · unfold find1 at h
    have := search1 (text := x.cps) (lim := x.cps.size) (ma := ma) p hp
    cases q : dotFrom x.cps x.cps.size (x.cps.size + 1 - p) p with
    | none => rw [q] at h; cases h
    | some r =>
      rw [q] at h this
      cases h
      exact ⟨_, by lia, this⟩
  · unfold find1 at h
    have := search1 (text := x.cps) (lim := x.cps.size) (ma := ma) p hp
    cases q : dotFrom x.cps x.cps.size (x.cps.size + 1 - p) p with
    | none => rw [q] at this; exact ⟨_, by lia, this⟩
    | some r => rw [q] at h; cases h
  · unfold find1 at h
    have := dotFrom_spec (text := x.cps) (lim := x.cps.size) (Nat.le_refl (x.cps.size + 1 - p))
    cases q : dotFrom x.cps x.cps.size (x.cps.size + 1 - p) p with
    | none => rw [q] at h; cases h
    | some r =>
      rw [q] at h this
      cases h
      obtain ⟨a1, a2, a3, a4⟩ := this
      exact ⟨a1, by exact Nat.lt_succ_self _, by assumption⟩
end
end Mine
end
noncomputable section
open PySem
namespace Mine
theorem join_cps (sep : Str) (h : sep.cps = #[]) : ∀ l : List Str, (Str.join sep l).cps.toList = (l.map (·.cps.toList)).flatten
  | [] => rfl
  | [x] => by show x.cps.toList = _; simp
  | x :: y :: r => by
    have ih := join_cps sep h (y :: r)
    show (x ++ sep ++ Str.join sep (y :: r)).cps.toList = _
    have e : (x ++ sep ++ Str.join sep (y :: r)).cps = x.cps ++ sep.cps ++ (Str.join sep (y :: r)).cps := rfl
    rw [e, h]
    simp [ih]
def isBrk (c : Nat) : Bool := c == 10 || c == 13
theorem norm_ne {c : Nat} {l : List Nat} (h : c ≠ 13) : norm (c :: l) = if c = 10 then 13 :: 10 :: norm l else c :: norm l := by
  cases l with
  | nil => simp [norm, h]
  | cons d l => simp [norm, h]
theorem norm_crlf {r : List Nat} : norm (13 :: 10 :: r) = 13 :: 10 :: norm r := by exact rfl
theorem norm_cr {l : List Nat} (h : ∀ r, l ≠ 10 :: r) : norm (13 :: l) = 13 :: 10 :: norm l := by
  cases l with
  | nil => exact rfl
  | cons d l =>
    have : d ≠ 10 := fun e => h l (by rw [e])
    simp [norm, this]
theorem norm_app : ∀ (a b : List Nat), (∀ c ∈ a, isBrk c = false) → norm (a ++ b) = a ++ norm b
  | [], b, _ => rfl
  | c :: a, b, h => by
    have hc := h c (.head _)
    unfold isBrk at hc
    simp only [Bool.or_eq_false_iff, beq_eq_false_iff_ne] at hc
    rw [List.cons_append, norm_ne hc.2, if_neg hc.1, norm_app a b fun c hc => h c (.tail _ hc)]
    rfl
theorem norm_none (a : List Nat) (h : ∀ c ∈ a, isBrk c = false) : norm a = a := by
  have := norm_app a [] h
  simpa [norm] using this
theorem drop_split (l : List Nat) (p a : Nat) (h : p ≤ a) : l.drop p = (l.drop p).take (a - p) ++ l.drop a := by
  have : l.drop a = (l.drop p).drop (a - p) := by rw [List.drop_drop]; congr 1; lia
  rw [this, List.take_append_drop]
theorem slice_list (x : Str) (a b : Nat) : (slice x a b).cps.toList = (x.cps.toList.drop a).take (b - a) := by
  show (x.cps.extract a b).toList = _
  rw [Array.toList_extract, List.extract_eq_take_drop]
theorem getD_list (x : Str) (j : Nat) : x.cps.getD j 0 = x.cps.toList.getD j 0 := by
  simp [Array.getD_eq_getD_getElem?, List.getD_eq_getElem?_getD]
theorem mem_gap {x : Str} {p a : Nat} {c : Nat} (ha : a ≤ x.cps.size) (h : c ∈ (x.cps.toList.drop p).take (a - p)) : ∃ j, p ≤ j ∧ j < a ∧ x.cps.getD j 0 = c := by
  obtain ⟨i, hi, e⟩ := List.mem_iff_getElem.mp h
  rw [List.length_take, List.length_drop, Array.length_toList] at hi
  refine ⟨p + i, by exact Nat.le_add_right _ _, by exact Nat.add_lt_of_lt_sub' (Nat.lt_of_lt_of_le hi (Nat.min_le_left ..)), ?_⟩
  rw [List.getElem_take, List.getElem_drop] at e
  rw [getD_list, List.getD_eq_getElem?_getD, List.getElem?_eq_getElem (by rw [Array.length_toList]; exact Nat.add_lt_of_lt_sub' (Nat.lt_of_lt_of_le hi (Nat.min_le_right ..))), e]
  rfl
theorem drop_at {x : Str} {a : Nat} (ha : a < x.cps.size) : x.cps.toList.drop a = x.cps.getD a 0 :: x.cps.toList.drop (a + 1) := by
  rw [List.drop_eq_getElem_cons (by rw [Array.length_toList]; exact ha)]
  congr 1
  simp [Array.getD_eq_getD_getElem?, ha]
theorem sub2_list (x crlf : Str) (hc : crlf.cps.toList = [13, 10]) : ∀ (k p : Nat), x.cps.size - p < k → p ≤ x.cps.size → ((subP (find2 x) crlf x k p).map (·.cps.toList)).flatten = norm (x.cps.toList.drop p) := by
  intro k
  induction k with
  | zero => intro p h; lia
  | succ k ih =>
    intro p h hp
    unfold subP
    have sp := firstAt_spec (text := x.cps) (lim := x.cps.size) (f := fun c => c == 10 || c == 13) (Nat.le_refl (x.cps.size + 1 - p))
    have ef : find2 x p = (firstAt x.cps x.cps.size (fun c => c == 10 || c == 13) (x.cps.size + 1 - p) p).map fun a => (a, nxt2 x.cps x.cps.size a) := rfl
    rw [ef]
    cases q : firstAt x.cps x.cps.size (fun c => c == 10 || c == 13) (x.cps.size + 1 - p) p with
    | none =>
      rw [q] at sp
      have hn : norm (x.cps.toList.drop p) = x.cps.toList.drop p := by
        refine norm_none _ fun c hm => ?_
        have hm' : c ∈ (x.cps.toList.drop p).take (x.cps.size - p) := by rw [List.take_of_length_le (by rw [List.length_drop, Array.length_toList]; exact Nat.le_refl _)]; exact hm
        obtain ⟨j, h1, h2, e⟩ := mem_gap (Nat.le_refl _) hm'
        rw [← e]
        exact sp j h1 h2
      rw [hn]
      dsimp only [Option.map]
      by_cases hl : p < x.cps.size
      · rw [if_pos hl]
        simp only [List.map_cons, List.map_nil, List.flatten_cons, List.flatten_nil, List.append_nil]
        rw [slice_list, List.take_of_length_le (by rw [List.length_drop, Array.length_toList]; exact Nat.le_refl _)]
      · rw [if_neg hl]
        rw [List.drop_of_length_le (by rw [Array.length_toList]; exact Nat.le_of_not_lt hl)]
        rfl
    | some a =>
      rw [q] at sp
      obtain ⟨a1, a2, a3, a4⟩ := sp
      dsimp only [Option.map]
      have nb := nxt2_b (text := x.cps) a2
      rw [List.map_append, List.flatten_append, List.map_cons, List.flatten_cons, hc]
      have ih' := ih (nxt2 x.cps x.cps.size a) (by lia) nb.2
      rw [ih']
      have e0 : ((if p < a then [slice x p a] else []).map (·.cps.toList)).flatten = (x.cps.toList.drop p).take (a - p) := by
        by_cases hl : p < a
        · rw [if_pos hl]
          simp only [List.map_cons, List.map_nil, List.flatten_cons, List.flatten_nil, List.append_nil]
          exact slice_list x p a
        · rw [if_neg hl]
          rw [show a - p = 0 by lia]
          rfl
      rw [e0]
      conv => rhs; rw [drop_split _ p a a1]
      rw [norm_app _ _ fun c hm => ?_]
      · congr 1
        rw [drop_at a2]
        unfold nxt2
        by_cases h13 : x.cps.getD a 0 = 13
        · by_cases hl : a + 1 < x.cps.size ∧ x.cps.getD (a + 1) 0 = 10
          · rw [if_pos ⟨h13, hl⟩, h13, drop_at hl.1, hl.2, norm_crlf]
            rfl
          · rw [if_neg fun h => hl h.2, h13, norm_cr]
            · rfl
            · intro r e
              by_cases hl' : a + 1 < x.cps.size
              · rw [drop_at hl'] at e
                exact hl ⟨hl', (List.cons.inj e).1⟩
              · rw [List.drop_of_length_le (by rw [Array.length_toList]; exact Nat.le_of_not_lt hl')] at e
                cases e
        · have h10 : x.cps.getD a 0 = 10 := by
            simp only [Bool.or_eq_true, beq_iff_eq] at a3
            exact a3.resolve_right h13
          rw [if_neg fun h => h13 h.1, norm_ne h13, if_pos h10]
          rfl
      · obtain ⟨j, h1, h2, e⟩ := mem_gap (Nat.le_of_lt a2) hm
        rw [← e]
        exact a4 j h1 h2
end Mine
end
noncomputable section
open PySem
namespace Mine
def bol (x : Str) (p : Nat) : Bool := decide (p = 0 ∨ x.cps.getD (p - 1) 0 = 10)
theorem bol_succ (x : Str) (p : Nat) : bol x (p + 1) = (x.cps.getD p 0 == 10) := by
  unfold bol
  rw [Nat.add_sub_cancel, Bool.eq_iff_iff]
  simp
theorem dotAt_iff (x : Str) (p : Nat) : dotAt x.cps p ↔ (bol x p = true ∧ x.cps.getD p 0 = 46) := by
  unfold dotAt bol
  rw [decide_eq_true_iff]
theorem dots_gap (x : Str) : ∀ (n p a : Nat), a - p = n → p ≤ a → a ≤ x.cps.size → (∀ j, p ≤ j → j < a → ¬ dotAt x.cps j) → dots (bol x p) (x.cps.toList.drop p) = (x.cps.toList.drop p).take (a - p) ++ dots (bol x a) (x.cps.toList.drop a) := by
  intro n
  induction n with
  | zero =>
    intro p a h1 h2 h3 h4
    have : p = a := by exact de0 h1 h2
    subst this
    rw [Nat.sub_self]
    rfl
  | succ n ih =>
    intro p a h1 h2 h3 h4
    have hp : p < x.cps.size := by exact dlt2 h1 h3
    have hd := h4 p (Nat.le_refl _) (by exact dlt h1)
    rw [dotAt_iff] at hd
    rw [drop_at hp]
    rw [dots, if_neg hd, ← bol_succ, ih (p + 1) a (by exact dst h1) (by exact dlt h1) h3 fun j q1 q2 => h4 j (by exact Nat.le_of_lt q1) q2]
    have : a - p = (a - (p + 1)) + 1 := by rw [dst h1, h1]
    rw [this, List.take_succ_cons]
    rfl
theorem rk {n p a k : Nat} (h : n - p < k + 1) (h1 : p ≤ a) (h2 : a < n) : n - (a + 1) < k := by omega
theorem sub1_list (x dd : Str) (hc : dd.cps.toList = [46, 46]) : ∀ (k p : Nat), x.cps.size - p < k → p ≤ x.cps.size → ((subP (find1 x) dd x k p).map (·.cps.toList)).flatten = dots (bol x p) (x.cps.toList.drop p) := by
  intro k
  induction k with
  | zero => intro p h; lia
  | succ k ih =>
    intro p h hp
    unfold subP
    have sp := dotFrom_spec (text := x.cps) (lim := x.cps.size) (Nat.le_refl (x.cps.size + 1 - p))
    have ef : find1 x p = (dotFrom x.cps x.cps.size (x.cps.size + 1 - p) p).map fun a => (a, a + 1) := rfl
    rw [ef]
    cases q : dotFrom x.cps x.cps.size (x.cps.size + 1 - p) p with
    | none =>
      rw [q] at sp
      rw [dots_gap x _ p x.cps.size rfl hp (Nat.le_refl _) sp]
      dsimp only [Option.map]
      rw [List.drop_of_length_le (i := x.cps.size) (by rw [Array.length_toList]; exact Nat.le_refl _)]
      by_cases hl : p < x.cps.size
      · rw [if_pos hl]
        simp only [List.map_cons, List.map_nil, List.flatten_cons, List.flatten_nil, List.append_nil]
        rw [slice_list, dots]
        simp
      · rw [if_neg hl]
        rw [List.drop_of_length_le (by rw [Array.length_toList]; exact Nat.le_of_not_lt hl), dots]
        simp
    | some a =>
      rw [q] at sp
      obtain ⟨a1, a2, a3, a4⟩ := sp
      dsimp only [Option.map]
      rw [List.map_append, List.flatten_append, List.map_cons, List.flatten_cons, hc, ih (a + 1) (rk h a1 a2) (by assumption)]
      have e0 : ((if p < a then [slice x p a] else []).map (·.cps.toList)).flatten = (x.cps.toList.drop p).take (a - p) := by
        by_cases hl : p < a
        · rw [if_pos hl]
          simp only [List.map_cons, List.map_nil, List.flatten_cons, List.flatten_nil, List.append_nil]
          exact slice_list x p a
        · rw [if_neg hl]
          rw [show a - p = 0 by lia]
          rfl
      rw [e0, dots_gap x _ p a rfl a1 (Nat.le_of_lt a2) a4]
      congr 1
      rw [dotAt_iff] at a3
      rw [drop_at a2, dots, if_pos a3, bol_succ, a3.2]
      rfl
def quoteF (x : Str) : Str := ⟨(dots true (norm x.cps.toList)).toArray⟩
theorem sub2_str (x crlf : Str) (hc : crlf.cps.toList = [13, 10]) : Str.join ⟨#[]⟩ (subP (find2 x) crlf x (x.cps.size + 1) 0) = ⟨(norm x.cps.toList).toArray⟩ := by
  have h := join_cps ⟨#[]⟩ rfl (subP (find2 x) crlf x (x.cps.size + 1) 0)
  rw [sub2_list x crlf hc _ 0 (by exact Nat.sub_lt_succ _ _) (Nat.zero_le _), List.drop_zero] at h
  generalize Str.join ⟨#[]⟩ (subP (find2 x) crlf x (x.cps.size + 1) 0) = y at h
  obtain ⟨y⟩ := y
  rw [← h]
theorem sub1_str (x dd : Str) (hc : dd.cps.toList = [46, 46]) : Str.join ⟨#[]⟩ (subP (find1 x) dd x (x.cps.size + 1) 0) = ⟨(dots true x.cps.toList).toArray⟩ := by
  have h := join_cps ⟨#[]⟩ rfl (subP (find1 x) dd x (x.cps.size + 1) 0)
  rw [sub1_list x dd hc _ 0 (by exact Nat.sub_lt_succ _ _) (Nat.zero_le _), List.drop_zero] at h
  have b : bol x 0 = true := by exact rfl
  rw [b] at h
  generalize Str.join ⟨#[]⟩ (subP (find1 x) dd x (x.cps.size + 1) 0) = y at h
  obtain ⟨y⟩ := y
  rw [← h]
theorem norm_len : ∀ n (l : List Nat), l.length = n → (norm l).length ≤ 2 * l.length := by
  intro n
  induction n using Nat.strongRecOn with
  | _ n ih =>
    intro l hl
    match l, hl with
    | [], _ => simp [norm]
    | [c], _ => unfold norm; split <;> (try split) <;> simp
    | c :: d :: l, hl =>
      unfold norm
      have h1 := ih l.length (by simp at hl; lia) l rfl
      have h2 := ih (l.length + 1) (by simp at hl; exact Nat.le_of_eq hl) (d :: l) rfl
      simp only [List.length_cons] at h2 ⊢
      split
      · split <;> simp <;> lia
      · split <;> simp <;> lia
end Mine
end
noncomputable section
open PySem PySem.W PySem.Calls PyProof.Rows Builtin Builtin.ObjectAttr
namespace Mine
theorem plainAttrs_pat : PlainAttrs "re.Pattern" :=
  ⟨⟨"object.__getattribute__", by rw [typeLookup_type, builtinLookup_eq_fast]; kernel_rfl, by decide +kernel⟩, by rw [typeLookup_type, builtinLookup_eq_fast]; kernel_rfl⟩
theorem ty_sub : typeOf (.builtin "re.Pattern.sub") = pure (.type "method_descriptor") := by kernel_rfl
theorem ty_search : typeOf (.builtin "re.Pattern.search") = pure (.type "method_descriptor") := by kernel_rfl
end Mine
end
noncomputable section
open PySem PySem.W PySem.Calls PyProof.Rows Builtin Builtin.ObjectAttr
namespace Mine
def PatK (K : Frag) (pat tb : Addr) (code : Array Nat) : Prop :=
  ∃ fs its n t1 t2 o sl o2 sl2, K.lookup pat = some ⟨.type "re.Pattern", o, .fields fs, sl⟩ ∧ o = none ∧ fs.getD 6 .none = .int 0 t1 ∧ fs.getD 2 .none = .int 0 t2 ∧ fs.getD 5 .none = .ref tb ∧ K.lookup tb = some ⟨.type "tuple", o2, .seq its n, sl2⟩ ∧ (its.map Re.reRawOf).map (·.toNat) = code
theorem PatK.at {K : Frag} {pat tb : Addr} {code : Array Nat} {h : Heap} (p : PatK K pat tb code) (Y : K.In h) : PatAt h pat code ∧ ∃ o, h.get? pat = some o ∧ o.cls = .type "re.Pattern" ∧ o.dict = none := by
  obtain ⟨fs, its, n, t1, t2, o, sl, o2, sl2, e1, e2, e3, e4, e5, e6, e7⟩ := p
  exact ⟨⟨_, fs, tb, _, its, n, t1, t2, Y _ _ e1, rfl, rfl, e3, e4, e5, Y _ _ e6, rfl, rfl, e7⟩, _, Y _ _ e1, rfl, e2⟩
structure Fq (K : Frag) (mg : Str → Option Value) : Prop where
  q : FnAt K 216 (topSt 11) "quotedata" [] .none 215
  p1 : PatK K 204 203 c1
  p2 : PatK K 209 208 c2
  g1 : mg "_twin_re_1" = some (.ref 204)
  g2 : mg "_twin_re_2" = some (.ref 209)
  gc : ∃ t, mg "CRLF" = some (.str "\r\n" t)
section
variable {T : Tabs} {K : Frag} {cd : ClassData} {mg mb : Str → Option Value} {w : World} {A : Around} {s : Shared} {g h₀ h h' : Heap} {W W' : List Addr} {L C : Addr} {m : Str → Option Value} {kn : List (Addr × Obj)} {R : Result → Shared → Prop} {E : Value → Shared → Prop} {prog : Program}
theorem pat_meth {pat tb : Addr} {code : Array Nat} {name : Str} {id : String} {pl : Sem Bool} {Q : Value × List Value → Shared → Prop} (p : PatK K pat tb code) (Y : K.In s.heap) (slot : Slot "re.Pattern" name id) (ty : typeOf (.builtin id) = pure (.type "method_descriptor")) (h : Q (.builtin id, [.ref pat]) s) :
    wpAny (model prog w) A (getMethod (.ref pat) name pl) Q E s := by
  obtain ⟨_, o, e1, e2, e3⟩ := p.at Y
  exact getMethod_builtin ⟨o, e1, e2⟩ plainAttrs_pat slot ty (fun a e => by cases e; exact ⟨o, e1, e3⟩) h
theorem quote_spec {x : Str} {t : Tok} (FQ : Fq K mg) (G : Gb T K mg mb g) (S : St T g s.heap) (r : Rm A 3) (hx : x.cps.size ≤ 100000)
   (hR : ∀ s' t', Mv T g [] s.heap s'.heap → Ok s s' → R (.ok (.ret (.str (quoteF x) t'))) s') :
   codeAny (model PR w) A (.call (.ref 216) ⟨[.str x t], []⟩) R s := by
  obtain ⟨oc, od, osl, name, kV, doc, pm, an, ct, hob, hcd⟩ := FQ.q
  obtain ⟨tc, gc⟩ := FQ.gc
  refine' j_callK (binds := [("data", .str x t)]) [] [] G S Kn.nil hob hcd r.lt (BindsTo.of_eq rfl) (locs rfl) (by decide) ?_ rfl rfl rfl
  intro L h₁ t₁ j mv₁
  refine wpAny_execs_cons (wpAny_Return_some (MethodCall_ ?_))
  refine j_global (s := { s with heap := h₁, toks := t₁ }) G j FQ.g1 ?_
  refine pat_meth (s := { s with heap := h₁, toks := t₁ }) FQ.p1 (j.mv.st.In G) slot_sub ty_sub ?_
  refine callWith_method1 (args_cons (Constant_str (args_cons (MethodCall_ ?_))))
  refine j_global (s := { s with heap := h₁, toks := t₁ + 1 }) G j FQ.g2 ?_
  refine pat_meth (s := { s with heap := h₁, toks := t₁ + 1 }) FQ.p2 (j.mv.st.In G) slot_sub ty_sub ?_
  refine callWith_method1 (args_cons ?_)
  refine j_global (s := { s with heap := h₁, toks := t₁ + 1 }) G j gc (args_cons ?_)
  refine j_local (s := { s with heap := h₁, toks := t₁ + 1 }) j rfl (args_nil ?_)
  refine call_sub (s := { s with heap := h₁, toks := t₁ + 1 }) (FQ.p2.at (j.mv.st.In G)).1 (finds2 x (by exact Nat.le_trans (by assumption) (by decide))) (by exact Nat.le_trans (by assumption) (by decide)) (by decide +kernel) (by decide +kernel) fun h₂ u₂ t₂ k₂ => ?_
  obtain ⟨j₂, mv₂⟩ := j.keepsL k₂
  rw [sub2_str x _ (by decide +kernel)]
  refine args_nil ?_
  have hn := norm_len _ x.cps.toList rfl
  have hxl : x.cps.toList.length = x.cps.size := Array.length_toList
  refine call_sub (s := { s with heap := h₂, toks := t₂ }) (FQ.p1.at (j₂.mv.st.In G)).1 (finds1 _ (by rw [List.size_toArray]; lia)) (by rw [List.size_toArray]; lia) (by decide +kernel) (by decide +kernel) fun h₃ u₃ t₃ k₃ => ?_
  obtain ⟨j₃, mv₃⟩ := j₂.keepsL k₃
  rw [sub1_str _ _ (by decide +kernel)]
  exact hR { s with heap := h₃, toks := t₃ } u₃ j₃.mv Ok.heap
end
end Mine
end
noncomputable section
open PySem
namespace Mine
def GoodW (b : Str) : Prop := b.length ≤ 100 ∧ 0 < b.length ∧ ∀ c ∈ b.cps.toList, 97 ≤ c ∧ c ≤ 102
theorem empty_cps : ("" : Str).cps = #[] := by decide +kernel
theorem blank_cps : (" " : Str).cps.toList = [32] := by decide +kernel
theorem blank_len : (" " : Str).length = 1 := by decide +kernel
theorem ptext_list (ps : List (Str × Str)) : (ptext ps).cps.toList = (ps.map fun p => p.1.cps.toList ++ p.2.cps.toList).flatten := by
  unfold ptext
  rw [join_cps _ empty_cps]
  simp only [List.map_map]
  congr 1
  apply List.map_congr_left
  intro p _
  show (Str.join "" [p.1, p.2]).cps.toList = _
  rw [join_cps _ empty_cps]
  simp
theorem str_len (x : Str) : x.cps.toList.length = x.length := Array.length_toList
theorem ptext_len (ps : List (Str × Str)) : (ptext ps).length = (ps.map fun p => p.1.length + p.2.length).sum := by
  rw [← str_len, ptext_list, List.length_flatten, List.map_map]
  congr 1
  apply List.map_congr_left
  intro p _
  show (p.1.cps.toList ++ p.2.cps.toList).length = _
  rw [List.length_append, str_len, str_len]
def GoodP (ps : List (Str × Str)) : Prop := ∀ p ∈ ps, ∃ b, GoodW b ∧ p = sp b
theorem GoodP.sum {ps : List (Str × Str)} (h : GoodP ps) : (ps.map fun p => p.1.length + p.2.length).sum ≤ 101 * ps.length := by
  induction ps with
  | nil => exact Nat.le_refl _
  | cons p ps ih =>
    obtain ⟨b, hb, rfl⟩ := h p (.head _)
    have h2 := ih fun q hq => h q (.tail _ hq)
    have := hb.1
    have := blank_len
    simp only [List.map_cons, List.sum_cons, List.length_cons]
    show (" " : Str).length + b.length + _ ≤ _
    lia
structure FInv (k : Nat) (st : List Str × List (Str × Str)) : Prop where
  n : st.1.length + st.2.length ≤ k
  p : GoodP st.2
  l : ∀ x ∈ st.1, x.length ≤ 2020
theorem FInv.step {k : Nat} {st : List Str × List (Str × Str)} {b : Str} {width : Int} (h : FInv k st) (hk : k ≤ 20) (hb : GoodW b) : FInv (k + 1) (chunkF width st b) := by
  have one : GoodP [sp b] := fun p hp => ⟨b, hb, List.mem_singleton.mp hp⟩
  unfold chunkF
  split
  · split
    · refine ⟨?_, one, h.l⟩
      have := h.n
      simp only [List.length_cons, List.length_nil]
      lia
    · refine ⟨?_, one, fun x hx => ?_⟩
      · rename_i hne
        have := List.length_pos_iff.mpr hne
        have := h.n
        simp only [List.length_append, List.length_cons, List.length_nil]
        (clear hk; lia)
      · rcases List.mem_append.mp hx with hx | hx
        · exact h.l x hx
        · rw [List.mem_singleton.mp hx, ptext_len]
          have := h.p.sum
          have := h.n
          lia
  · refine ⟨?_, fun p hp => ?_, h.l⟩
    · have := h.n
      simp only [List.length_append, List.length_cons, List.length_nil]
      exact Nat.lt_succ_of_le this
    · rcases List.mem_append.mp hp with hp | hp
      · exact h.p p hp
      · exact one p hp
theorem FInv.fold {width : Int} : ∀ (ws : List Str) (k : Nat) (st : List Str × List (Str × Str)), FInv k st → k + ws.length ≤ 20 → (∀ b ∈ ws, GoodW b) → FInv (k + ws.length) (ws.foldl (chunkF width) st)
  | [], k, st, h, _, _ => h
  | b :: ws, k, st, h, hk, hg => by
    simp only [List.length_cons] at hk ⊢
    rw [show k + (ws.length + 1) = k + 1 + ws.length by lia]
    exact FInv.fold ws (k + 1) _ (h.step (by lia) (hg b (.head _))) (by lia) fun c hc => hg c (.tail _ hc)
theorem chunkF_last {width : Int} {st : List Str × List (Str × Str)} {b : Str} : ∃ qs, (chunkF width st b).2 = qs ++ [sp b] := by
  unfold chunkF
  split
  · split
    · exact ⟨[], rfl⟩
    · exact ⟨[], rfl⟩
  · exact ⟨_, rfl⟩
def foldSt (width : Int) (ws : List Str) : List Str × List (Str × Str) := ws.foldl (chunkF width) ([], [])
def foldTxt (width : Int) (ws : List Str) : Str := Str.join "\n" ((foldSt width ws).1 ++ [ptext (foldSt width ws).2])
def foldF (width : Int) (ws : List Str) : List Str := Txt.split (foldTxt width ws) "\n"
theorem foldSt_inv (width : Int) {ws : List Str} (hn : ws.length ≤ 20) (hg : ∀ b ∈ ws, GoodW b) : FInv 20 (foldSt width ws) := by
  have := FInv.fold (width := width) ws 0 ([], []) ⟨by simp, fun _ hp => (nomatch hp), fun _ hx => (nomatch hx)⟩ (by lia) hg
  exact ⟨by have := this.n; unfold foldSt; lia, this.p, this.l⟩
theorem foldSt_last (width : Int) {ws : List Str} (hne : ws ≠ []) : ∃ qs b, b ∈ ws ∧ (foldSt width ws).2 = qs ++ [sp b] := by
  obtain ⟨ws', b, rfl⟩ : ∃ ws' b, ws = ws' ++ [b] := ⟨ws.dropLast, ws.getLast hne, (List.dropLast_concat_getLast hne).symm⟩
  unfold foldSt
  rw [List.foldl_append]
  obtain ⟨qs, e⟩ := chunkF_last (width := width) (st := ws'.foldl (chunkF width) ([], [])) (b := b)
  exact ⟨qs, b, by simp, e⟩
theorem not_space {c : Nat} (h : 97 ≤ c ∧ c ≤ 102) : Unicode.isSpace c = false := by
  have : ∀ c, c < 103 → 97 ≤ c → Unicode.isSpace c = false := by decide +kernel
  exact this c (by lia) h.1
theorem goodP_only {ps : List (Str × Str)} {b : Str} (hb : GoodW b) (hp : GoodP (ps ++ [sp b])) : onlyB (ps ++ [sp b]) 0 = false ∧ 0 < plen (ps ++ [sp b]) := by
  have hpos : 0 < plen (ps ++ [sp b]) := by
    rw [plen_nat]
    simp only [List.map_append, List.map_cons, List.map_nil, List.sum_append, List.sum_cons, List.sum_nil]
    have := hb.2.1
    show (0 : Int) < ((_ + ((" " : Str).length + b.length + 0) : Nat) : Int)
    lia
  refine ⟨?_, hpos⟩
  unfold onlyB
  have h1 : (plen (ps ++ [sp b]) == 0) = false := by
    rw [beq_eq_false_iff_ne]; lia
  rw [h1]
  have h2 : Txt.isspace (ptext (ps ++ [sp b])) = false := by
    unfold Txt.isspace
    rw [Bool.and_eq_false_iff]
    right
    rw [← Array.all_toList, ptext_list]
    obtain ⟨c, hc⟩ : ∃ c, c ∈ b.cps.toList := List.exists_mem_of_length_pos (by rw [str_len]; exact hb.2.1)
    rw [List.all_eq_false]
    refine ⟨c, ?_, by rw [not_space (hb.2.2 c hc)]; decide⟩
    rw [List.mem_flatten]
    refine ⟨(" " : Str).cps.toList ++ b.cps.toList, ?_, List.mem_append_right _ hc⟩
    rw [List.mem_map]
    exact ⟨sp b, by simp, rfl⟩
  rw [h2]
  rfl
theorem sp_ne {b : Str} (hb : GoodW b) : ((sp b).1 == " " && (sp b).2 == "") = false := by
  rw [Bool.and_eq_false_iff]
  right
  rw [beq_eq_false_iff_ne]
  intro e
  have := hb.2.1
  have e' : b = "" := e
  rw [e'] at this
  exact absurd this (by decide +kernel)
end Mine
end
noncomputable section
open PySem PySem.W PySem.Calls PyProof.Rows Builtin Builtin.ObjectAttr Builtin.Str
namespace Mine
section
variable {T : Tabs} {K : Frag} {cd : ClassData} {mg mb : Str → Option Value} {w : World} {A : Around} {s : Shared} {g h₀ h h' : Heap} {W W' : List Addr} {L C : Addr} {m : Str → Option Value} {kn : List (Addr × Obj)} {R : Result → Shared → Prop} {E : Value → Shared → Prop} {prog : Program}
abbrev lstObj (vs : List Value) : Obj := { cls := .type "list", data := .seq vs.toArray }
theorem partsFrom_len (x : Str) (w : Nat) : ∀ (cuts : List Nat) (a : Nat), (StrLaws.partsFrom x w a cuts).length = cuts.length + 1
  | [], _ => rfl
  | c :: r, a => by show (StrLaws.partsFrom x w (c + w) r).length + 1 = _; rw [partsFrom_len x w r]; rfl
theorem parts_len (x y : Str) (hy : (y.length == 0) = false) : (partsBetween x (occurrences x y 0 x.length (x.length + 1)) y.length).length ≤ x.length + 2 := by
  rw [StrLaws.partsBetween_eq, partsFrom_len]
  have := StrLaws.occ_length_le x y 0 x.length (x.length + 1)
  exact Nat.lt_succ_of_le this
theorem g_split {x y : Str} {t u : Tok} {Q : Value → Shared → Prop} (hy : (y.length == 0) = false) (hx : x.length ≤ 1000000)
    (hq : ∀ l k, l.map (·.1) = Txt.split x y → Q (.ref s.heap.objs.size) { s with heap := s.heap.push (lstObj (strValues l)), toks := k }) :
    wpAny (model prog w) A (call (.builtin "str.split") [.str x t, .str y u]) Q E s := by
  have hsl : sizeLine = 16777216 := by decide
  have hpl := parts_len x y hy
  cases h1 : (decide (x.length < y.length) || decide (strKind x < strKind y))
  · cases hf : (occurrences x y 0 x.length (x.length + 1)).isEmpty
    · refine call_meets F.slot_str_split (typeIs_str _ _ _) F.entry_str_split (F.args_str_split_2 _ _) (meets_str_split_sep x y t u h1 hy hf (by exact Nat.le_trans (by assumption) (by decide)) (by lia)) ?_
      show wants Q E _ { s with toks := _, heap := s.heap.push { cls := .type "list", data := .seq (strsFrom s.toks (partsBetween x (occurrences x y 0 x.length (x.length + 1)) y.length)).toArray } }
      rw [strsFrom_eq]
      exact hq (numbered s.toks _) _ ((numbered_texts _ _).trans ((if_neg (ne_true_of_eq_false h1)).trans (if_neg (ne_true_of_eq_false hf))).symm)
    · exact call_meets F.slot_str_split (typeIs_str _ _ _) F.entry_str_split (F.args_str_split_2 _ _) (meets_str_split_not_found x y t u h1 hy hf)
        (hq [(x, t)] _ ((if_neg (ne_true_of_eq_false h1)).trans (if_pos hf)).symm)
  · exact call_meets F.slot_str_split (typeIs_str _ _ _) F.entry_str_split (F.args_str_split_2 _ _) (meets_str_split_cannot_occur x y t u h1)
      (hq [(x, t)] _ (if_pos h1).symm)
theorem j_pyIterList {wl : Addr} {ol : Obj} {its : Array Value} {n : Nat} {Q : Value → Shared → Prop} (j : J T g W h₀ L s.heap m kn) (ho : s.heap.get? wl = some ol) (hc : ol.cls = .type "list") (hd : ol.data = .seq its n)
    (h : ∀ I h', I = s.heap.objs.size → J T g W h₀ L h' m ((I, ({ cls := .type "list_iterator", data := .fields #[.ref wl, .int ((0 : Nat) : Int) 0] } : Obj)) :: kn) → Mv T g [] s.heap h' → h₀.get? I = none → s.heap.get? I = none → Q (.ref I) { s with heap := h' }) :
    wpAny (model prog w) A (pyIter (.ref wl)) Q E s :=
  wpAny_pyIter_list ⟨ol, ho, hc, n, hd⟩ (h _ _ rfl (j.push _ rfl) (Mv.push j.mv.st _) j.new (Heap.get?_none_of_le (Nat.le_refl _)))
theorem ty_split : typeOf (.builtin "str.split") = pure (.type "method_descriptor") := by show builtinType _ = _; rw [builtinType_eq_fast]; kernel_rfl
set_option maxHeartbeats 4000000 in
theorem folded_spec {wl : Addr} {its : Array Value} {ep : Nat} {ws : List Str} {width : Int} {tw : Tok} (F358 : FnAt K 358 (topSt 17) "_law_folded" [] .none 357) (V : Fv K) (X : Fx K cd) (X2 : Fx2 K) (G : Gb T K mg mb g) (GM : Gm mg) (hAcc : mg "_Accumulator" = some (.ref 195)) (hKeep : keepIn K (.ref 195) = true) (hFmt : mg "_ValueFormatter" = some (.ref 111)) (hKeepF : keepIn K (.ref 111) = true)
   (S : St T g s.heap) (r : Rm A 14) (hT : (161, 157) ∈ T) (hT2 : (168, 164) ∈ T)
   (hwl : s.heap.get? wl = some { cls := .type "list", data := .seq its ep }) (hws : StrsAre its.toList ws) (hg : ∀ b ∈ ws, GoodW b) (hne : ws ≠ []) (hlen : ws.length ≤ 20)
   (hR : ∀ s' D l, Mv T g [] s.heap s'.heap → Ok s s' → s.heap.get? D = none → g.objs.size ≤ D → s'.heap.get? D = some (lstObj (strValues l)) → l.map (·.1) = foldF width ws → R (.ok (.ret (.ref D))) s') :
   codeAny (model PR w) A (.call (.ref 358) ⟨[.ref wl, .int width tw], []⟩) R s := by
  obtain ⟨oc, od, osl, name, kV, doc, pm, an, ct, hob, hcd⟩ := F358
  refine' j_callK (binds := [("words", .ref wl), ("width", .int width tw)]) [] [] G S Kn.nil hob hcd r.lt (BindsTo.of_eq rfl) (locs rfl) (by decide) ?_ rfl rfl rfl
  intro L h₁ t₁ j mv₁
  have wL : wl ≠ L := j.neL hwl
  have rr := r.deeper (env := envX "_law_folded" (fScope (topSt 17)) L 358 (.ref 357) [])
  refine wpAny_execs_cons (wpAny_Assign_Name (Call_ ?_))
  refine j_global (s := { s with heap := h₁, toks := t₁ }) G j hFmt ?_
  refine j_callWith hKeepF (args_cons (wpAny_Constant_int (args_cons ?_)))
  refine j_local (s := { s with heap := h₁, toks := t₁ + 1 }) j rfl (args_cons (Constant_str (args_cons (Constant_str (args_nil ⟨j.mv.st.In G, wpAny_call ?_⟩)))))
  refine fmt_new (s := { s with heap := h₁, toks := t₁ + 1 + 1 + 1 }) V X X2 G GM hAcc hKeep j.mv.st (rr.mono (by decide)) fun f df l x d h₂ t₂ mv₂ F₂ nf ndf nl nx nd => ?_
  have j₂ := j.call0 mv₂
  refine j_storeK (s := { s with heap := h₂, toks := t₂ }) j₂ fun h₃ t₃ j₃ mv₃ => ?_
  have neL : ∀ b, h₁.get? b = none → b ≠ L := fun b hb => by
    rintro rfl
    obtain ⟨o, es, n, e, _⟩ := j.ns
    rw [hb] at e; cases e
  have fL := neL f nf
  have dfL := neL df ndf
  have lL := neL l nl
  have xL := neL x nx
  have dL := neL d nd
  have bk : ∀ b, h₁.get? b = none → s.heap.get? b = none := fun b hb => none_back mv₁ hb
  have F₃ := F₂.out j₂.mv.st mv₃ (by exact al1 ⟨fL.symm, dfL.symm, lL.symm, xL.symm, dL.symm⟩)
  refine wpAny_execs_cons (wpAny_For ?_)
  refine j_local (s := { s with heap := h₃, toks := t₃ }) j₃ rfl ?_
  refine j_pyIterList (s := { s with heap := h₃, toks := t₃ }) j₃ (j₃.old hwl (.inl (by exact ni0))) rfl rfl fun I h₄ hI j₄ mv₄ nI nI₃ => ?_
  have F₄ := F₃.mv0 j₃.mv.st mv₄
  have nF : ∀ {b o}, h₃.get? b = some o → b ≠ I := fun e q => by rw [q, nI₃] at e; cases e
  obtain ⟨es₃, dfe₃, _⟩ := F₃.dd
  obtain ⟨its₃, ep₃, hl₃, hli₃⟩ := F₃.lst
  obtain ⟨ix₃, epx₃, hx₃⟩ := F₃.acc.o
  obtain ⟨tkd₃, tnd₃, hd₃⟩ := F₃.acc.d
  obtain ⟨oL₃, esL₃, nL₃, hL₃, _⟩ := j₃.ns
  refine folded_loop (s₀ := s) (sa := { s with heap := h₃, toks := t₃ }) V X X2 G GM (rr.mono (by decide)) hT hT2 hws (fun b hb => Nat.le_trans (hg b hb).1 (by decide)) hwl j₃ (Nat.le_of_eq hI.symm) (Heap.lt_size hL₃) nI (bk l nl) (bk x nx) (bk d nd)
    fL dfL lL xL dL (nF F₃.o) (nF dfe₃) (nF hl₃) (nF hx₃) (nF hd₃) ws.length 0 { s with heap := h₄, toks := t₃ } ([], []) _ rfl (Nat.zero_le _) ⟨_, j₄, rfl, rfl⟩ rfl F₄ (fun _ hp => nomatch hp) (by simp; exact Nat.le_trans (by assumption) (by decide)) Ok.heap fun s₅ m₅ j₅ hm₅ F₅ ok₅ => ?_
  rw [List.drop_zero] at F₅
  dsimp only
  refine wpAny_execs_cons (wpAny_Return_some (MethodCall_ (MethodCall_ ?_)))
  refine j_local (s := s₅) j₅ hm₅ ?_
  refine f_meth (s := s₅) V G j₅.mv.st F₅ V.fStr (V.keep 59 (by decide)).2 (by intros; rfl) ?_
  refine j_callWith (V.keep 59 (by decide)).1 (args_cons (Constant_str (args_nil ⟨j₅.mv.st.In G, wpAny_call ?_⟩)))
  have inv := foldSt_inv width hlen hg
  obtain ⟨qs, b, hbw, eqs⟩ := foldSt_last width hne
  have hp := inv.p
  rw [eqs] at hp
  have F₅' : FmtAt w g s₅.heap f df l x d width (foldSt width ws).1 (qs ++ [sp b]) 0 := by rw [← eqs]; exact F₅
  have hn := inv.n
  rw [eqs] at hn
  have hsum := hp.sum
  obtain ⟨ho, hpos⟩ := goodP_only (hg b hbw) hp
  have hpl := plen_nat (qs ++ [sp b])
  have hl2 : ∀ (ls : List Str), (∀ y ∈ ls, y.length ≤ 2020) → (ls.map (·.length)).sum ≤ 2020 * ls.length := fun ls => by
    induction ls with
    | nil => intro _; exact Nat.le_refl _
    | cons y ls ih =>
      intro h
      have h1 := h y (.head _)
      have h2 := ih fun z hz => h z (.tail _ hz)
      simp only [List.map_cons, List.sum_cons, List.length_cons]
      lia
  have hl3 := hl2 ((foldSt width ws).1 ++ [ptext (qs ++ [sp b])]) (fun y hy => by
    rcases List.mem_append.mp hy with hy | hy
    · exact inv.l y hy
    · rw [List.mem_singleton.mp hy, ptext_len]; lia)
  have hnl : ("\n" : Str).length = 1 := by decide +kernel
  have hle : ((foldSt width ws).1 ++ [ptext (qs ++ [sp b])]).length = (foldSt width ws).1.length + 1 := by simp
  have hjb : (((foldSt width ws).1 ++ [ptext (qs ++ [sp b])]).map (·.length)).sum + ((foldSt width ws).1 ++ [ptext (qs ++ [sp b])]).length * ("\n" : Str).length ≤ 100000 := by
    rw [hnl, Nat.mul_one]
    (clear hnl hpl hpos hsum hI dL xL lL dfL fL wL hlen; lia)
  refine fstr_spec (s := { s₅ with toks := s₅.toks + 1 }) (p := sp b) V X X2 G GM j₅.mv.st (rr.mono (by decide)) hT hT2 F₅' ⟨by lia, by lia⟩ (Int.le_refl 0) (by decide) (by lia) (sp_ne (hg b hbw)) ho (by (clear hjb hle hnl hl3 hpl hsum hn hI dL xL lL dfL fL wL hlen; lia)) (by lia) (by exact Nat.le_trans (by assumption) (by decide)) fun s₆ t₆ mv₆ ok₆ => ?_
  have j₆ : J T g [] s.heap L s₆.heap _ [] := j₅.callK mv₆ (by exact ni3 lL.symm xL.symm dL.symm) (by
      intro b' hb'
      rcases List.mem_cons.mp hb' with rfl | hb'
      · exact .inr (bk _ nl)
      rcases List.mem_cons.mp hb' with rfl | hb'
      · exact .inr (bk _ nx)
      · rw [List.mem_singleton.mp hb']; exact .inr (bk _ nd)) (by exact al0)
  refine s_meth PySem.F.slot_str_split ty_split ?_
  have htx : Str.join "\n" ((foldSt width ws).1 ++ [ptext (qs ++ [sp b])]) = foldTxt width ws := by unfold foldTxt; rw [eqs]
  rw [htx]
  refine callWith_method1 (args_cons (Constant_str (args_nil ?_)))
  have hxl : (foldTxt width ws).length ≤ 100000 := by
    rw [← htx]
    exact Nat.le_trans (StrLaws.join_length_le _ _) hjb
  refine g_split (s := { s₆ with toks := s₆.toks + 1 }) (by rw [hnl]; rfl) (by exact Nat.le_trans (by assumption) (by decide)) fun l' k' hl' => ?_
  have j₇ := j₆.push (lstObj (strValues l')) rfl
  exact hR { s₆ with heap := s₆.heap.push (lstObj (strValues l')), toks := k' } s₆.heap.objs.size l' j₇.mv ⟨ok₆.1.trans ok₅.1, fun a => ok₆.2 (ok₅.2 a)⟩ j₆.new j₆.mv.st.le (Heap.get?_push_size _ rfl) hl'
end
end Mine
end
noncomputable section
open PySem PySem.W PySem.Calls PyProof.Rows Builtin Builtin.ObjectAttr
namespace Mine
section
variable {T : Tabs} {K : Frag} {cd : ClassData} {mg mb : Str → Option Value} {w : World} {A : Around} {s : Shared} {g h₀ h h' : Heap} {W W' : List Addr} {L C : Addr} {m : Str → Option Value} {kn : List (Addr × Obj)} {R : Result → Shared → Prop} {E : Value → Shared → Prop} {prog : Program}
theorem J.turn (j : J T g W h₀ L h m kn) {wr : List Addr} (k : ∀ b o, b ∉ wr → h.get? b = some o → h'.get? b = some o) (hw : ∀ b ∈ wr, h₀.get? b = none ∧ b ≠ L) (hkn : ∀ p ∈ kn, p.1 ∉ wr) : J T g W h₀ L h' m kn := by
  have n0 : ∀ {b o}, h₀.get? b = some o → b ∉ wr := fun e hb => by rw [(hw _ hb).1] at e; cases e
  have ng : ∀ {b o}, g.get? b = some o → b ∉ wr := fun e hb => by
    obtain ⟨o', e'⟩ := j.s0.old.there _ _ e
    exact n0 e' hb
  have nL : L ∉ wr := fun hb => (hw _ hb).2 rfl
  obtain ⟨oL, es, n, hL, r⟩ := j.ns
  have hL' := k _ _ nL hL
  have nT : ∀ p ∈ T, p.2 ∉ wr ∧ p.1 ∉ wr := fun p hp => by
    obtain ⟨ps, ps₀, x, y, z⟩ := j.s0.tab p hp
    obtain ⟨⟨o₁, vs, e₁, r⟩, _⟩ := id y
    exact ⟨n0 y.2, n0 e₁⟩
  refine ⟨⟨⟨?_, fun b o e ht => k _ _ (ng e) (j.mv.st.keep b o e ht), fun p hp => ?_, Nat.le_of_lt (Nat.lt_of_le_of_lt j.Lg (Heap.lt_size hL'))⟩, fun b o e ht hb => k _ _ (n0 e) (j.mv.keep b o e ht hb), fun b o e => ?_⟩, ⟨oL, es, n, hL', r⟩, j.Lt, j.Ln, j.Lg, fun p hp => ⟨k _ _ (hkn p hp) (j.has p hp).1, (j.has p hp).2⟩, j.nd, j.s0⟩
  · have O := j.mv.st.old
    refine ⟨fun b o e => ?_, fun b o e => let ⟨o', ho'⟩ := O.there b o e; ⟨o', k _ _ (ng e) ho'⟩⟩
    rcases O.old b o e with x | ⟨t, hc, vs, more, hv, x⟩ | ⟨rfl, hc, ⟨o', es, n, ho', r⟩, z⟩
    · exact .inl (k _ _ (ng e) x)
    · exact .inr (.inl ⟨t, hc, vs, more, hv, k _ _ (ng e) x⟩)
    · exact .inr (.inr ⟨rfl, hc, ⟨o', es, n, k _ _ (ng e) ho', r⟩, fun key => by rw [OldK.staticOf_congr ((k _ _ (ng e) ho').trans ho'.symm) key]; exact z key⟩)
  · obtain ⟨ps, ps₀, x, y, z⟩ := j.mv.st.tab p hp
    obtain ⟨n2, n1⟩ := nT p hp
    refine ⟨ps, ps₀, ?_, ?_, z⟩
    · obtain ⟨o, vs, file, tf, flags, tg, inF, text, tt, op, a1, a2, a3, a4, a5, a6, a7, a8, a9, a10, a11⟩ := x
      exact ⟨o, vs, file, tf, flags, tg, inF, text, tt, op, k _ _ n1 a1, a2, a3, a4, a5, a6, a7, k _ _ n2 a8, a9, a10, a11⟩
    · obtain ⟨⟨o, vs, a1, a2⟩, b⟩ := y
      exact ⟨⟨o, vs, k _ _ n1 a1, a2⟩, k _ _ n2 b⟩
  · obtain ⟨o', e'⟩ := j.mv.there b o e
    exact ⟨o', k _ _ (n0 e) e'⟩
section
variable {env : Env} {x : Str} {v : Value} {pos : Pos}
theorem e_local {Q : Value → Shared → Prop} (j : J T g W h₀ env.locals s.heap m kn) (hv : m x = some v) (h : Q v s)
    (hk : env.scope.kind = .function := by rfl) (hl : env.kindOf x = some .local := by rfl) (hd : (x == ("__debug__" : Str)) = false := by decide) :
    wpAny (model prog w) A (eval (.Name x pos) env) Q E s := wpAny_Name (wpAny_loadName_local hk hl j.ns hv h) hd
theorem e_global {Q : Value → Shared → Prop} (G : Gb T K mg mb g) (S : St T g s.heap) (hv : mg x = some v) (h : Q v s)
    (hg : env.globals = mainGlobals := by rfl) (hk : env.scope.kind = .function := by rfl) (hl : env.kindOf x = some .globalImplicit := by rfl) (hd : (x == ("__debug__" : Str)) = false := by decide) :
    wpAny (model prog w) A (eval (.Name x pos) env) Q E s :=
  Name_function_global hk hl (loadGlobal_global (by rw [hg]; exact S.ns G.mgN G.k1) hv h) hd
theorem e_builtin {Q : Value → Shared → Prop} (G : Gb T K mg mb g) (S : St T g s.heap) (hv : mg x = none) (hb : bootBuiltins x = some v) (h : Q v s)
    (hn : x ≠ "__name__" := by decide) (hg : env.globals = mainGlobals := by rfl) (hbi : env.builtins = builtinsNs := by rfl)
    (hk : env.scope.kind = .function := by rfl) (hl : env.kindOf x = some .globalImplicit := by rfl) (hd : (x == ("__debug__" : Str)) = false := by decide) :
    wpAny (model prog w) A (eval (.Name x pos) env) Q E s :=
  Name_function_global hk hl (loadGlobal_builtin (by rw [hg]; exact S.ns G.mgN G.k1) hv (by rw [hbi]; exact S.ns G.mbN G.k2) ((G.boot x hn).trans hb) h) hd
theorem e_cell {c : Addr} {o : Obj} {Q : Value → Shared → Prop} (ho : s.heap.get? c = some o) (hd' : o.data = .cell (some v)) (hc : env.cells.lookup x = some c) (h : Q v s)
    (hk : env.scope.kind = .function := by rfl) (hl : env.kindOf x = some .cell := by rfl) (hd : (x == ("__debug__" : Str)) = false := by decide) :
    wpAny (model prog w) A (eval (.Name x pos) env) Q E s := wpAny_Name (wpAny_loadName_cell hk hl hc ⟨o, ho, hd'⟩ h) hd
theorem e_storeK {Q : Unit → Shared → Prop} (j : J T g W h₀ env.locals s.heap m kn)
    (h : ∀ h' tk, J T g W h₀ env.locals h' (fun y => if y = x then some v else m y) kn → Mv T g [env.locals] s.heap h' → Q () { s with heap := h', toks := tk })
    (hk : env.scope.kind = .function := by rfl) (hl : env.kindOf x = some .local := by rfl) :
    wpAny (model prog w) A (storeName env x v) Q E s :=
  wpAny_storeName_local hl j.ns (fun h' hn hs => h h' _ (j.store hn hs) (j.storeMv hn hs)) (by rw [hk]; rfl)
end
structure Turns (prog : Program) (w : World) (A : Around) (T : Tabs) (g : Heap) (W : List Addr) (h₀ : Heap) (target : Expr) (env : Env) (I : Addr) (fp wr : List Addr) (n : Nat) (upd : Nat → (Str → Option Value) → (Str → Option Value) → Prop) (S : Nat → Heap → Prop) : Prop where
  sub : ∀ b ∈ wr, b ∈ fp
  stable : ∀ i h h', S i h → (∀ b ∈ fp, ∀ o, h.get? b = some o → h'.get? b = some o) → S i h'
  item : ∀ i (s : Shared) m kn (B : Shared → Prop) (E : Value → Shared → Prop), i < n → S i s.heap → J T g W h₀ env.locals s.heap m kn → (∀ p ∈ kn, p.1 ∉ wr) →
    (∀ h' tk m', upd i m m' → J T g W h₀ env.locals h' m' kn → S (i + 1) h' → (∀ b o, b ∉ wr → b ≠ env.locals → s.heap.get? b = some o → h'.get? b = some o) → B { s with heap := h', toks := tk }) →
    wpAny (model prog w) A (pyNext (.ref I)) (fun r s₁ => match r with
      | none => False
      | some v => wpAny (model prog w) A (letOwnedTupleGo target (.ref I) v) (fun _ s₂ => wpAny (model prog w) A (assign target env v) (fun _ s₃ => B s₃) E s₂) E s₁) E s
  done : ∀ (s : Shared) m kn (B : Shared → Prop) (E : Value → Shared → Prop), S n s.heap → J T g W h₀ env.locals s.heap m kn → (∀ p ∈ kn, p.1 ∉ wr) →
    (∀ h' tk, J T g W h₀ env.locals h' m kn → (∀ b o, b ∉ wr → s.heap.get? b = some o → h'.get? b = some o) → B { s with heap := h', toks := tk }) →
    wpAny (model prog w) A (pyNext (.ref I)) (fun r s₁ => match r with
      | none => B s₁
      | some _ => False) E s
  self : ∀ i (s : Shared) (Q : Value → Shared → Prop) (E : Value → Shared → Prop), S i s.heap → Q (.ref I) s → wpAny (model prog w) A (pyIter (.ref I)) Q E s
theorem Turns.name {env : Env} {I : Addr} {fp wr : List Addr} {n : Nat} {P : Nat → Value → Prop} {Sx : Nat → Heap → Prop} {x : Str} {px : Pos} (Wk : Walks prog w A I fp wr n P Sx)
    (hw : ∀ b ∈ wr, h₀.get? b = none) (hL : env.locals ∉ fp) (hk : env.scope.kind = .function := by rfl) (hl : env.kindOf x = some .local := by rfl) :
    Turns prog w A T g W h₀ (.Name x px) env I fp wr n (fun i m m' => ∃ v, P i v ∧ m' = fun y => if y = x then some v else m y) Sx where
  sub := Wk.sub
  stable := Wk.frame
  item := fun i s m kn B E hi hs j hkn hB => by
    have hLw : env.locals ∉ wr := fun hm => hL (Wk.sub _ hm)
    refine Wk.item i s _ E hi hs fun v h' tk hp hs' k => ?_
    refine wpAny_of_eq rfl ?_
    have j' := j.turn k (fun b hb => ⟨hw b hb, fun q => hLw (q ▸ hb)⟩) hkn
    refine wpAny_assign_Name ?_
    refine wpAny_storeName_local hl j'.ns (fun h₂ hn₂ hs₂ => ?_) (by rw [hk]; rfl)
    exact hB _ _ _ ⟨v, hp, rfl⟩ (j'.store hn₂ hs₂) (Wk.frame _ _ _ hs' fun b hb o e => (hs₂.2 b fun q => hL (q ▸ hb)).trans e) fun b o hb hbL e => (hs₂.2 b hbL).trans (k b o hb e)
  done := fun s m kn B E hs j hkn hB => by
    have hLw : env.locals ∉ wr := fun hm => hL (Wk.sub _ hm)
    refine Wk.done s _ E hs fun h' tk k => ?_
    exact hB _ _ (j.turn k (fun b hb => ⟨hw b hb, fun q => hLw (q ▸ hb)⟩) hkn) k
  self := Wk.self
end
end Mine
end
noncomputable section
open PySem PySem.W PySem.Calls PyProof.Rows Builtin Builtin.ObjectAttr
namespace Mine
section
variable {T : Tabs} {K : Frag} {cd : ClassData} {mg mb : Str → Option Value} {w : World} {A : Around} {s : Shared} {g h₀ h h' : Heap} {W W' : List Addr} {L C : Addr} {m : Str → Option Value} {kn : List (Addr × Obj)} {R : Result → Shared → Prop} {E : Value → Shared → Prop} {prog : Program}
theorem comp_turn {elt target iter : Expr} {ifs : List Expr} {scope : Scope} {pos : Pos} {it acc : Value} {env : Env}
    (h : wpAny (model prog w) A (pyNext it) (fun r s₁ => match r with
      | none => R (.ok .next) s₁
      | some v => wpAny (model prog w) A (letOwnedTupleGo target it v) (fun _ s₁' => wpAny (model prog w) A (assign target env v) (fun _ s₂ =>
          wpAny (model prog w) A (forIn ifs true fun c r => if r = true then do let ok ← isTrue c env (eval c env); pure (ForInStep.yield ok) else pure (ForInStep.yield r)) (fun ok s₃ =>
            if ok = true then wpAny (model prog w) A (eval elt env) (fun x s₄ =>
              wpAny (model prog w) A (call (.builtin "list.append") [acc, x]) (fun _ s₅ => codeAny (model prog w) A (.compLoop (.ListComp elt [⟨target, iter, ifs, 0⟩] scope pos) 0 it acc env) R s₅) (fun _ _ => False) s₄) (fun _ _ => False) s₃
            else codeAny (model prog w) A (.compLoop (.ListComp elt [⟨target, iter, ifs, 0⟩] scope pos) 0 it acc env) R s₃) (fun _ _ => False) s₂) (fun _ _ => False) s₁') (fun _ _ => False) s₁) (fun _ _ => False) s) :
    codeAny (model prog w) A (.compLoop (.ListComp elt [⟨target, iter, ifs, 0⟩] scope pos) 0 it acc env) R s := by
  refine codeAny_of_tree ?_
  show wpAny _ A ((compTurn (.ListComp elt [⟨target, iter, ifs, 0⟩] scope pos) 0 it acc env).onRaise (fun x => do noteFrame x env; theTreesLotGoes x)) _ _ s
  refine wpAny_noted ?_
  rw [compTurn_list]
  refine wpAny_bind (wpAny_standAt (wpAny_bind (wpAny_mono h (fun r s₁ h₁ => ?_) fun _ _ h' => h'.elim)))
  cases r with
  | none => exact wpAny_pure h₁
  | some v =>
    refine wpAny_bind (wpAny_mono h₁ (fun _ s₁' h₁' => ?_) fun _ _ h' => h'.elim)
    refine wpAny_bind (wpAny_mono h₁' (fun _ s₂ h₂ => wpAny_bind (wpAny_mono h₂ (fun ok s₃ h₃ => ?_) fun _ _ h' => h'.elim)) fun _ _ h' => h'.elim)
    cases ok with
    | false => exact wpAny_pure ⟨rfl, h₃⟩
    | true =>
      exact wpAny_bind (wpAny_bind (wpAny_mono h₃ (fun x s₄ h₄ => wpAny_bind (wpAny_mono h₄ (fun _ s₅ h₅ => wpAny_pure (wpAny_pure ⟨rfl, h₅⟩)) fun _ _ h' => h'.elim)) fun _ _ h' => h'.elim))
theorem Paired.imp {α β : Type} {F F' : α → β → Prop} (h : ∀ a b, F a b → F' a b) : ∀ {l₁ : List α} {l₂ : List β}, Paired F l₁ l₂ → Paired F' l₁ l₂
  | _, _, .nil => .nil
  | _, _, .cons f t => .cons (h _ _ f) (Paired.imp h t)
theorem range_filter_succ (p : Nat → Bool) (i : Nat) : (List.range (i + 1)).filter p = (List.range i).filter p ++ (if p i then [i] else []) := by
  rw [List.range_succ, List.filter_append]
  cases hp : p i <;> simp [hp]
abbrev lstO (its : Array Value) (ep : Nat) : Obj := { cls := .type "list", data := .seq its ep }
def Stays (T : Tabs) (ws : List Addr) (F : Nat → Value → Heap → Prop) : Prop := ∀ i y h h', F i y h → (∀ b o, h.get? b = some o → b ∉ T.map (·.2) → b ∉ ws → h'.get? b = some o) → F i y h'
theorem comp_loop {target : Expr} {env : Env} {I D : Addr} {fp wr : List Addr} {n : Nat} {upd : Nat → (Str → Option Value) → (Str → Option Value) → Prop} {S : Nat → Heap → Prop} {elt iter : Expr} {ifs : List Expr} {scope : Scope} {pos : Pos}
    (Tn : Turns prog w A T g W h₀ target env I fp wr n upd S) (p : Nat → Bool) (F : Nat → Value → Heap → Prop) (s₀ : Shared)
    (hF : Stays T (D :: env.locals :: wr) F) (hD : h₀.get? D = none) (hDf : D ∉ fp) (hfT : ∀ b ∈ fp, b ∉ T.map (·.2)) (hn : n ≤ 100000)
    (body : ∀ i (s : Shared) m m' its ep, i < n → upd i m m' → J T g W h₀ env.locals s.heap m' [(D, lstO its ep)] → S (i + 1) s.heap → Ok s₀ s →
      wpAny (model prog w) A (forIn ifs true fun c r => if r = true then do let ok ← isTrue c env (eval c env); pure (ForInStep.yield ok) else pure (ForInStep.yield r))
        (fun ok s₃ => ok = p i ∧ Mv T g [] s.heap s₃.heap ∧ Ok s s₃ ∧ (p i = true → wpAny (model prog w) A (eval elt env) (fun y s₄ => F i y s₄.heap ∧ Mv T g [] s₃.heap s₄.heap ∧ Ok s₃ s₄) (fun _ _ => False) s₃)) (fun _ _ => False) s)
    (hR : ∀ (s : Shared) m its ep, J T g W h₀ env.locals s.heap m [(D, lstO its ep)] → Paired (fun i y => F i y s.heap) ((List.range n).filter p) its.toList → Ok s₀ s → R (.ok .next) s) :
    ∀ (k i : Nat) (s : Shared) m (its : Array Value) ep, n - i = k → i ≤ n → J T g W h₀ env.locals s.heap m [(D, lstO its ep)] → S i s.heap → Paired (fun i y => F i y s.heap) ((List.range i).filter p) its.toList → its.size ≤ i → Ok s₀ s →
    codeAny (model prog w) A (.compLoop (.ListComp elt [⟨target, iter, ifs, 0⟩] scope pos) 0 (.ref I) (.ref D) env) R s := by
  intro k
  have kw : ∀ {its ep}, ∀ p ∈ [(D, lstO its ep)], p.1 ∉ wr := fun p hp => by
    rw [List.mem_singleton.mp hp]
    exact fun hm => hDf (Tn.sub _ hm)
  induction k with
  | zero =>
    intro i s m its ep hk hi j hs hP hsz ok
    have hin : i = n := by exact de0 hk hi
    subst hin
    refine comp_turn ?_
    refine wpAny_mono (Tn.done s m _ (fun s₁ => R (.ok .next) s₁) _ hs j kw fun h' tk j' kp => ?_) (fun r s₁ h₁ => ?_) fun _ _ f => f
    · refine hR _ m its ep j' (Paired.imp (fun a b f => hF _ _ _ _ f fun c o e _ hc => kp _ _ (fun hm => hc (.tail _ (.tail _ hm))) e) hP) ⟨ok.1, ok.2⟩
    · cases r with
      | none => exact h₁
      | some v => exact h₁.elim
  | succ k ih =>
    intro i s m its ep hk hi j hs hP hsz ok
    have hin : i < n := by exact dlt hk
    refine comp_turn ?_
    refine wpAny_mono (Tn.item i s m _ (fun s₂ => wpAny (model prog w) A (forIn ifs true fun c r => if r = true then do let ok ← isTrue c env (eval c env); pure (ForInStep.yield ok) else pure (ForInStep.yield r)) (fun ok s₃ =>
            if ok = true then wpAny (model prog w) A (eval elt env) (fun x s₄ =>
              wpAny (model prog w) A (call (.builtin "list.append") [.ref D, x]) (fun _ s₅ => codeAny (model prog w) A (.compLoop (.ListComp elt [⟨target, iter, ifs, 0⟩] scope pos) 0 (.ref I) (.ref D) env) R s₅) (fun _ _ => False) s₄) (fun _ _ => False) s₃
            else codeAny (model prog w) A (.compLoop (.ListComp elt [⟨target, iter, ifs, 0⟩] scope pos) 0 (.ref I) (.ref D) env) R s₃) (fun _ _ => False) s₂) (fun _ _ => False) hin hs j kw fun h₁ tk₁ m₁ hu j₁ hs₁ k₁ => ?_) (fun r s₁ h₁ => ?_) fun _ _ f => f
    · have ok₁ : Ok s₀ { s with heap := h₁, toks := tk₁ } := ⟨ok.1, ok.2⟩
      have P₁ := Paired.imp (fun a b f => hF _ _ _ h₁ f fun c o e _ hc => k₁ _ _ (fun hm => hc (.tail _ (.tail _ hm))) (fun q => hc (by exact mS (mE q))) e) hP
      refine wpAny_mono (body i _ m m₁ its ep hin hu j₁ hs₁ ok₁) (fun ok' s₃ h₃ => ?_) fun _ _ f => f
      obtain ⟨rfl, mv₃, ok₃, he⟩ := h₃
      have j₃ := j₁.call0 mv₃
      have st : ∀ {h h'}, Mv T g [] h h' → ∀ i, S i h → S i h' := fun mv i hs => Tn.stable i _ _ hs fun b hb o e => mv.keep b o e (hfT b hb) (.inl (by exact ni0))
      have sF : ∀ {h h'}, Mv T g [] h h' → ∀ a b, F a b h → F a b h' := fun mv a b f => hF _ _ _ _ f fun c o e hT _ => mv.keep c o e hT (.inl (by exact ni0))
      have hs₃ := st mv₃ _ hs₁
      have P₃ := Paired.imp (sF mv₃) P₁
      have okk : Ok s₀ s₃ := ⟨ok₃.1.trans ok₁.1, fun a => ok₃.2 (ok₁.2 a)⟩
      cases hp : p i with
      | false =>
        rw [if_neg (by simp)]
        refine ih (i + 1) s₃ m₁ its ep (by exact dst hk) hin j₃ hs₃ ?_ (by exact Nat.le_succ_of_le hsz) okk
        rw [range_filter_succ, hp]
        simpa using P₃
      | true =>
        rw [if_pos rfl]
        refine wpAny_mono (he hp) (fun y s₄ h₄ => ?_) fun _ _ f => f
        obtain ⟨hy, mv₄, ok₄⟩ := h₄
        have j₄ := j₃.call0 mv₄
        refine wpAny_list_append_plain (items := its) ⟨ep, j₄.get (.head _)⟩ (fun h₅ hl₅ hs₅ => ?_) (by rw [sizeLine_eq]; lia)
        obtain ⟨ep₅, e₅⟩ := hl₅
        obtain ⟨j₅, mv₅⟩ := j₄.iter 0 rfl (.inr hD) (by rintro ⟨q, _⟩; simp at q) hs₅ e₅
        refine ih (i + 1) _ m₁ (its.push y) ep₅ (by exact dst hk) hin j₅ (Tn.stable _ _ _ (st mv₄ _ hs₃) fun b hb o e => (hs₅.2 b fun q => hDf (q ▸ hb)).trans e) ?_ (by rw [Array.size_push]; exact Nat.lt_succ_of_le hsz) ⟨ok₄.1.trans okk.1, fun a => ok₄.2 (okk.2 a)⟩
        have nD : ∀ a b, F a b s₄.heap → F a b h₅ := fun a b f => hF _ _ _ _ f fun c o e _ hc => (hs₅.2 c fun q => hc (by exact mE q)).trans e
        rw [range_filter_succ, hp, if_pos rfl, Array.toList_push]
        exact Paired.snoc (Paired.imp (fun a b f => nD a b (sF mv₄ a b f)) P₃) (nD _ _ hy)
    · cases r with
      | none => exact h₁.elim
      | some v => exact h₁
end
end Mine
end
noncomputable section
open PySem PySem.W PySem.Calls PyProof.Rows Builtin Builtin.ObjectAttr
namespace Mine
section
variable {T : Tabs} {K : Frag} {cd : ClassData} {mg mb : Str → Option Value} {w : World} {A : Around} {s : Shared} {g h₀ h h' h₁ h₂ : Heap} {W W' : List Addr} {L C : Addr} {m : Str → Option Value} {kn : List (Addr × Obj)} {R : Result → Shared → Prop} {E : Value → Shared → Prop} {prog : Program}
theorem Mv.same (mv : Mv T g W h h₁) (hs : Heap.SameBut C h₁ h₂) (hn : h.get? C = none) (hg : g.objs.size ≤ C) : Mv T g W h h₂ := by
  have ne : ∀ {b o}, h.get? b = some o → b ≠ C := fun e q => by rw [q, hn] at e; cases e
  exact ⟨mv.st.same hg hs, fun b o e ht hb => (hs.2 b (ne e)).trans (mv.keep b o e ht hb), fun b o e => let ⟨o', e'⟩ := mv.there b o e; ⟨o', (hs.2 b (ne e)).trans e'⟩⟩
theorem Mv.keeps (mv : Mv T g W h h₁) (k : ∀ b o, h₁.get? b = some o → h₂.get? b = some o) (hl : g.objs.size ≤ h₂.objs.size) : Mv T g W h h₂ :=
  ⟨mv.st.keepsL k hl, fun b o e ht hb => k _ _ (mv.keep b o e ht hb), fun b o e => let ⟨o', e'⟩ := mv.there b o e; ⟨o', k _ _ e'⟩⟩
theorem Mv.weak (mv : Mv T g W h h₁) (hw : ∀ b ∈ W, b ∈ W') : Mv T g W' h h₁ :=
  ⟨mv.st, fun b o e ht hb => mv.keep b o e ht (hb.imp (fun x y => x (hw _ y)) id), mv.there⟩
def Src (prog : Program) (w : World) (A : Around) (T : Tabs) (g : Heap) (s : Shared) (elt target : Expr) (ifs : List Expr) (env : Env) (scope : Scope) (cl : List (Str × Addr)) (n : Nat) (p : Nat → Bool) (F : List Addr → Nat → Value → Heap → Prop) (it : Value) (s₂ : Shared) : Prop :=
  Mv T g [] s.heap s₂.heap ∧ Ok s s₂ ∧ ∃ I fp wr upd S, it = .ref I ∧ S 0 s₂.heap ∧ (∀ b ∈ fp, b < s₂.heap.objs.size ∧ b ∉ T.map (·.2)) ∧
    (∀ C, C ∉ fp → Turns prog w A T g [] s.heap target (compEnvC scope cl C env) I fp wr n upd S) ∧
    (∀ D C, Stays T (D :: C :: wr) (F (D :: C :: wr))) ∧
    (∀ D C i (s₃ : Shared) m m' its ep, i < n → upd i m m' → J T g [] s.heap C s₃.heap m' [(D, lstO its ep)] → Mv T g [] s.heap s₃.heap → S (i + 1) s₃.heap → Ok s₂ s₃ →
      wpAny (model prog w) A (forIn ifs true fun c r => if r = true then do let ok ← isTrue c (compEnvC scope cl C env) (eval c (compEnvC scope cl C env)); pure (ForInStep.yield ok) else pure (ForInStep.yield r))
        (fun ok s₄ => ok = p i ∧ Mv T g [] s₃.heap s₄.heap ∧ Ok s₃ s₄ ∧ (p i = true → wpAny (model prog w) A (eval elt (compEnvC scope cl C env)) (fun y s₅ => F (D :: C :: wr) i y s₅.heap ∧ Mv T g [] s₄.heap s₅.heap ∧ Ok s₄ s₅) (fun _ _ => False) s₄)) (fun _ _ => False) s₃)
theorem comp_core {env : Env} {elt target iter : Expr} {ifs : List Expr} {scope : Scope} {cl : List (Str × Addr)} {pos : Pos} {n : Nat} {p : Nat → Bool} {F : List Addr → Nat → Value → Heap → Prop} {RR : Value → Addr → Result → Shared → Prop} {it : Value} {s₂ : Shared}
    (hcell : ∀ y ∈ scope.names, y.2 ≠ .cell) (hkind : scope.kind = .function) (S₀ : St T g s.heap) (hn : n ≤ 100000)
    (src : Src prog w A T g s elt target ifs env scope cl n p F it s₂)
    (hRR : ∀ D C (s' : Shared) its ep ws m, Mv T g [] s.heap s'.heap → Ok s s' → s'.heap.Ns C m → s.heap.get? D = none → s.heap.get? C = none → D ≠ C → g.objs.size ≤ C → g.objs.size ≤ D → s'.heap.get? D = some (lstO its ep) → C ∈ ws → Stays T ws (F ws) → Paired (fun i y => F ws i y s'.heap) ((List.range n).filter p) its.toList → RR (.ref D) C (.ok .next) s') :
    wpAny (model prog w) A (newList []) (fun acc s₃ => wpAny (model prog w) A (newFunctionEnv scope env.globals cl [] env.qual none .none (some env)) (fun cenv s₄ =>
      codeAny (model prog w) A (.compStart (.ListComp elt [⟨target, iter, ifs, 0⟩] scope pos) 0 it acc { cenv with scope := relabel scope env }) (RR acc cenv.locals) s₄) E s₃) E s₂ := by
  obtain ⟨mv₂, ok₂, I, fp, wr, upd, Sx, rfl, hS, hfp, hT, hF, hb⟩ := src
  refine wpAny_newObj_type (wpAny_newFunctionEnv hcell (by intro y hy; simp at hy) (fun h₁ hns₁ hsb₁ => ?_) hkind)
  dsimp only at hns₁ hsb₁ ⊢
  generalize hH2 : s₂.heap.push { cls := .type "list", dict := none, data := .seq ([] : List Value).toArray } = H2 at hns₁ hsb₁ ⊢
  have hC : H2.objs.size = s₂.heap.objs.size + 1 := by rw [← hH2, Heap.size_push]
  have hDC : s₂.heap.objs.size ≠ H2.objs.size := by rw [hC]; exact Nat.ne_of_lt (Nat.lt_succ_self _)
  have old : ∀ b o, s₂.heap.get? b = some o → h₁.get? b = some o := fun b o e => hsb₁.extBut b o (by rw [hC]; exact Nat.ne_of_lt (Nat.lt_succ_of_lt (Heap.lt_size e))) (Heap.get?_push_of_some _ (hH2 ▸ Heap.get?_push_of_some _ e))
  have hacc : h₁.get? s₂.heap.objs.size = some (lstO #[] 0) := hsb₁.extBut _ _ hDC (Heap.get?_push_of_some _ (hH2 ▸ Heap.get?_push_size _ rfl))
  have fresh : ∀ a, s₂.heap.objs.size ≤ a → s₂.heap.get? a = none := fun a ha => Heap.get?_none_of_le ha
  have bk : ∀ a, s₂.heap.get? a = none → s.heap.get? a = none := fun a ha => none_back mv₂ ha
  have gD : g.objs.size ≤ s₂.heap.objs.size := mv₂.st.le
  have gC : g.objs.size ≤ H2.objs.size := by rw [hC]; exact Nat.le_succ_of_le gD
  have hCn : s.heap.get? H2.objs.size = none := bk _ (fresh _ (by rw [hC]; exact Nat.le_succ _))
  have hDn : s.heap.get? s₂.heap.objs.size = none := bk _ (fresh _ (Nat.le_refl _))
  have noT : ∀ a, s.heap.get? a = none → a ∉ T.map (·.2) := fun a ha hm => by
    obtain ⟨q, hq, rfl⟩ := List.mem_map.mp hm
    obtain ⟨ps, ps₀, x, y, z⟩ := S₀.tab q hq
    have := y.2
    rw [ha] at this
    cases this
  have jc : J T g [] s.heap H2.objs.size h₁ (fun x => ([] : List (Str × Value)).reverse.lookup x) [(s₂.heap.objs.size, lstO #[] 0)] :=
    ⟨mv₂.keeps old (by obtain ⟨oL, _, _, e, _⟩ := hns₁; exact Nat.le_trans gC (Nat.le_of_lt (Heap.lt_size e))), hns₁, noT _ hCn, hCn, gC, fun q hq => by
      rw [List.mem_singleton.mp hq]
      exact ⟨hacc, hDC, noT _ hDn, gD⟩, by exact nd1, S₀⟩
  have hCf : H2.objs.size ∉ fp := fun hm => by have := (hfp _ hm).1; rw [hC] at this; lia
  have hDf : s₂.heap.objs.size ∉ fp := fun hm => Nat.lt_irrefl _ (hfp _ hm).1
  have Tn := hT H2.objs.size hCf
  have hS₁ : Sx 0 h₁ := Tn.stable _ _ _ hS fun b _ o e => old b o e
  have loop : ∀ s₃ : Shared, s₃ = { s₂ with heap := h₁, toks := s₂.toks + ([] : List (Str × Value)).length } →
      codeAny (model prog w) A (.compLoop (.ListComp elt [⟨target, iter, ifs, 0⟩] scope pos) 0 (.ref I) (.ref s₂.heap.objs.size) (compEnvC scope cl H2.objs.size env))
        (RR (.ref s₂.heap.objs.size) H2.objs.size) s₃ := by
    rintro s₃ rfl
    refine comp_loop Tn p (F (s₂.heap.objs.size :: H2.objs.size :: wr)) s₂ (hF _ _) hDn hDf (fun b hb => (hfp b hb).2) hn (fun i s₄ m m' its ep hi hu j₄ hs₄ ok₄ => hb _ _ i s₄ m m' its ep hi hu j₄ j₄.mv hs₄ ok₄)
      (fun s₄ m its ep j₄ hP ok₄ => ?_) n 0 _ _ #[] 0 (by lia) (Nat.zero_le _) jc hS₁ .nil (Nat.le_refl _) ⟨rfl, id⟩
    exact hRR _ _ s₄ its ep (s₂.heap.objs.size :: H2.objs.size :: wr) _ j₄.mv ⟨ok₄.1.trans ok₂.1, fun a => ok₄.2 (ok₂.2 a)⟩ j₄.ns hDn hCn hDC gC gD (j₄.get (.head _)) (by exact m2) (hF _ _) hP
  exact codeAny_compStart_list (loop _ rfl) (Tn.self 0 _ _ _ hS₁ (loop _ rfl))
theorem j_listComp {env : Env} {elt target iter : Expr} {ifs : List Expr} {scope : Scope} {cl : List (Str × Addr)} {pos : Pos} {n : Nat} {p : Nat → Bool} {F : List Addr → Nat → Value → Heap → Prop} {Q : Value → Shared → Prop}
    (j : J T g W h₀ env.locals s.heap m kn) (hn : n ≤ 100000) (hclos : closureFor scope env = pure cl)
    (hiter : wpAny (model prog w) A (eval iter env) (fun xv s₁ => wpAny (model prog w) A (pyIter xv) (Src prog w A T g s elt target ifs env scope cl n p F) E s₁) E s)
    (hQ : ∀ (s' : Shared) D its ep ws, J T g W h₀ env.locals s'.heap m kn → Mv T g [] s.heap s'.heap → Ok s s' → s.heap.get? D = none → g.objs.size ≤ D → s'.heap.get? D = some (lstO its ep) → Paired (fun i y => F ws i y s'.heap) ((List.range n).filter p) its.toList → Q (.ref D) s')
    (hcell : ∀ y ∈ scope.names, y.2 ≠ .cell := by decide) (hkind : scope.kind = .function := by rfl)
    (hnames : ∀ y ∈ scope.names, y.2 = .local → scope.names.lookup y.1 = some .local := by decide)
    (hs : ∀ x, foldedSetIterable iter env x = pure x := by intro _; rfl) :
    wpAny (model prog w) A (eval (.ListComp elt [⟨target, iter, ifs, 0⟩] scope pos) env) Q E s := by
  rw [eval_ListComp]
  refine wpAny_comprehension_free (use := none) rfl hs hclos hkind hnames (wpAny_mono hiter (fun xv s₁ h₁ => wpAny_mono h₁ (fun it s₂ src => ?_) fun _ _ e => e) fun _ _ e => e)
  refine comp_core (RR := fun acc C => compPost (model prog w) A E none Q acc C) hcell hkind j.mv.st hn src ?_
  intro D C s' its ep ws m' mv ok hns hD hC hDC gC gD eD hCw hF hP
  refine ⟨m', hns, fun h' hs' => ?_⟩
  have mv' := mv.same hs' hC gC
  exact hQ { s' with heap := h' } D its ep ws (j.call0 mv') mv' ⟨ok.1, ok.2⟩ hD gD ((hs'.2 D hDC).trans eD) (Paired.imp (fun a b f => hF _ _ _ h' f fun c o e _ hc => (hs'.2 c fun q => hc (q ▸ hCw)).trans e) hP)
theorem j_assignComp {env : Env} {elt target iter : Expr} {ifs : List Expr} {scope : Scope} {cl : List (Str × Addr)} {pos spos py : Pos} {y : Str} {n : Nat} {p : Nat → Bool} {F : List Addr → Nat → Value → Heap → Prop} {Q : Flow → Shared → Prop}
    (j : J T g W h₀ env.locals s.heap m kn) (hn : n ≤ 100000) (hclos : closureFor scope env = pure cl)
    (hiter : wpAny (model prog w) A (eval iter env) (fun xv s₁ => wpAny (model prog w) A (pyIter xv) (Src prog w A T g s elt target ifs env scope cl n p F) E s₁) E s)
    (hQ : ∀ (s' : Shared) D its ep ws, J T g W h₀ env.locals s'.heap (fun z => if z = y then some (.ref D) else m z) kn → Mv T g [env.locals] s.heap s'.heap → Ok s s' → s.heap.get? D = none → g.objs.size ≤ D → s'.heap.get? D = some (lstO its ep) → Paired (fun i y => ∃ h, F ws i y h ∧ ∀ b o, h.get? b = some o → b ≠ env.locals → b ∉ ws → s'.heap.get? b = some o) ((List.range n).filter p) its.toList → Q .next s')
    (hsw : swapsWith (.ListComp elt [⟨target, iter, ifs, 0⟩] scope pos) (some (.Name y py)) spos.line env = pure true := by rfl) (hy : env.kindOf y = some .local := by rfl) (hek : env.scope.kind = .function := by rfl)
    (hcell : ∀ y ∈ scope.names, y.2 ≠ .cell := by decide) (hkind : scope.kind = .function := by rfl)
    (hnames : ∀ y ∈ scope.names, y.2 = .local → scope.names.lookup y.1 = some .local := by decide)
    (hs : ∀ x, foldedSetIterable iter env x = pure x := by intro _; rfl) :
    wpAny (model prog w) A (exec (.Assign [.Name y py] (.ListComp elt [⟨target, iter, ifs, 0⟩] scope pos) spos) env) Q E s := by
  rw [exec_Assign_Name_used _ _ _ _ hsw]
  refine wpAny_bind (wpAny_standAt (wpAny_bind ?_))
  show wpAny _ A (do let _ ← comprehension (.ListComp elt [⟨target, iter, ifs, 0⟩] scope pos) scope env _ (newList []) false (eval iter env) (some (assign (.Name y py) env))) _ _ s
  refine wpAny_bind (wpAny_mono (wpAny_comprehension_free (use := some (assign (.Name y py) env)) (Q := fun _ s' => Q .next s') rfl hs hclos hkind hnames
    (wpAny_mono hiter (fun xv s₁ h₁ => wpAny_mono h₁ (fun it s₂ src => ?_) fun _ _ e => e) fun _ _ e => e)) (fun _ s' hq => wpAny_pure (wpAny_pure hq)) fun _ _ e => e)
  refine comp_core (RR := fun acc C => compPost (model prog w) A E (some (assign (.Name y py) env)) (fun _ s' => Q .next s') acc C) hcell hkind j.mv.st hn src ?_
  intro D C s' its ep ws m' mv ok hns hD hC hDC gC gD eD hCw hF hP
  have LC : env.locals ≠ C := by rintro e; obtain ⟨o, _, _, e', _⟩ := j.ns; rw [e, hC] at e'; cases e'
  have LD : env.locals ≠ D := by rintro e; obtain ⟨o, _, _, e', _⟩ := j.ns; rw [e, hD] at e'; cases e'
  have j' := j.call0 mv
  show wpAny _ A (assign (.Name y py) env (.ref D)) _ _ _
  refine wpAny_assign_Name ?_
  refine wpAny_storeName_local hy j'.ns (fun h₂ hn₂ hs₂ => ?_) (by rw [hek]; rfl)
  refine ⟨m', hns.sameBut hs₂ LC.symm, fun h₃ hs₃ => ?_⟩
  have jn : ∀ {b o}, s.heap.get? b = some o → b ≠ C := fun e q => by rw [q, hC] at e; cases e
  have h0C : h₀.get? C = none := none_back j.mv hC
  have j₂ := j'.store hn₂ hs₂
  have j₃ := j₂.turn (wr := [C]) (h' := h₃) (fun b o hb e => (hs₃.2 b fun q => hb (by exact mE q)).trans e) (fun b hb => by rw [List.mem_singleton.mp hb]; exact ⟨h0C, LC.symm⟩) (fun q hq hm => by
    have := (j.has q hq).1
    exact jn this (List.mem_singleton.mp hm))
  have mvL := (mv.weak (W' := [env.locals]) (by exact al0)).trans (j'.storeMv hn₂ hs₂) (fun b hb => .inl hb)
  exact hQ _ D its ep ws j₃ (mvL.same hs₃ hC gC) ⟨ok.1, ok.2⟩ hD gD ((hs₃.2 D hDC).trans ((hs₂.2 D LD.symm).trans eD))
    (Paired.imp (fun a b f => ⟨s'.heap, f, fun c o e h1 h2 => (hs₃.2 c fun q => h2 (q ▸ hCw)).trans ((hs₂.2 c h1).trans e)⟩) hP)
end
end Mine
end
noncomputable section
open PySem PySem.W PySem.Calls PyProof.Rows Builtin Builtin.ObjectAttr
namespace Mine
section
variable {T : Tabs} {K : Frag} {cd : ClassData} {mg mb : Str → Option Value} {w : World} {A : Around} {s : Shared} {g h₀ h h' h₁ h₂ : Heap} {W W' : List Addr} {L C : Addr} {m : Str → Option Value} {kn : List (Addr × Obj)} {R : Result → Shared → Prop} {E : Value → Shared → Prop} {prog : Program}
theorem j_callC {name qual : Str} {params : Arguments} {body : List Stmt} {scope : Scope} {dV kV doc pm cdv ct oc : Value} {an od : Option Addr} {osl : Array (Option Value)} {f : Addr} {vals : List Value} {binds : List (Str × Value)}
    (W : List Addr) (cells : Addr → List (Str × Addr)) (G : Gb T K mg mb g) (S : St T g s.heap)
    (ho : K.lookup f = some ⟨oc, od, .func (fnX name qual params body scope [] dV kV doc pm an cdv ct), osl⟩) (hcd : codeIn K cdv qual = true) (hroom : A.depth < recursionLimit)
    (hbind : bindArgs (fnX name qual params body scope [] dV kV doc pm an cdv ct) ⟨vals, []⟩ = pure binds)
    (hcs : ∀ L, cellsFrom (L + 1) scope.names [] = cells L) (hlk : ∀ L, ∀ p ∈ cells L, (cells L).lookup p.1 = some p.2)
    (hkind : ∀ L, ∀ x ∈ binds, scope.names.lookup x.1 = some .local ∨ (scope.names.lookup x.1 = some .cell ∧ ((cells L).lookup x.1).isSome = true))
    (h : ∀ L h₁ tk (ob : Addr → Obj), (∀ p ∈ cells L, (ob p.2).data = .cell (bindC (fun n => scope.names.lookup n) binds (fun _ => none) p.1)) →
      J T g W s.heap L h₁ (bindL (fun n => scope.names.lookup n) binds fun _ => none) ((cells L).map fun p => (p.2, ob p.2)) → Mv T g [] s.heap h₁ → (∀ p ∈ cells L, s.heap.get? p.2 = none) →
      wpAny (model prog w) (A.deeper (envX qual scope L f cdv (cells L))) (execs body (envX qual scope L f cdv (cells L)))
        (fun fl s' => R (.ok (.ret (match fl with | .ret v => v | _ => .none))) s') (fun _ _ => False) { s with heap := h₁, toks := tk })
    (hco : scope.isCoroutine = false) (hgen : scope.isGenerator = false) (hk : scope.kind = .function) : codeAny (model prog w) A (.call (.ref f) ⟨vals, []⟩) R s := by
  have X := S.In G
  refine codeAny_call_cells (fd := fnX name qual params body scope [] dV kV doc pm an cdv ct) (body := body) (binds := binds) hroom (X _ _ ho) rfl (G.nolim.elim fun mc x => ⟨mc, S.ns x.1 G.k3, x.2⟩) (codeRec_of X hcd) rfl hbind rfl (fun x hx => by
    have := hkind s.heap.objs.size x hx
    show scope.names.lookup x.1 = some .local ∨ (scope.names.lookup x.1 = some .cell ∧ ((cellsFrom (s.heap.objs.size + 1) scope.names []).lookup x.1).isSome = true)
    rw [hcs]; exact this) (fun s₁ x => ?_) hco hgen hk
  have ecs : (callEnvC (fnX name qual params body scope [] dV kV doc pm an cdv ct) s.heap.objs.size f) = envX qual scope s.heap.objs.size f cdv (cells s.heap.objs.size) := by
    rw [← hcs]; rfl
  rw [ecs] at x ⊢
  obtain ⟨hin, hcell, hap, hab⟩ := x
  obtain ⟨⟨h₁, tk, rfl⟩, hns, hkeep, hfr⟩ := hin
  have hex : ∀ p ∈ cells s.heap.objs.size, ∃ o, h₁.get? p.2 = some o ∧ o.data = .cell (bindC (fun n => scope.names.lookup n) binds (fun _ => none) p.1) := fun p hp => hcell p.1 p.2 (hlk _ p hp)
  let ob : Addr → Obj := fun c => (h₁.get? c).getD default
  have hob : ∀ p ∈ cells s.heap.objs.size, h₁.get? p.2 = some (ob p.2) ∧ (ob p.2).data = .cell (bindC (fun n => scope.names.lookup n) binds (fun _ => none) p.1) := fun p hp => by
    obtain ⟨o, e, d⟩ := hex p hp
    have : ob p.2 = o := by show (h₁.get? p.2).getD default = o; rw [e]; rfl
    rw [this]; exact ⟨e, d⟩
  obtain ⟨oL, es, n, hL, r⟩ := id hns
  have hle : s.heap.objs.size ≤ h₁.objs.size := Nat.le_of_lt (Heap.lt_size hL)
  have notT : ∀ {b : Addr}, s.heap.objs.size ≤ b → b ∉ T.map (·.2) := fun {b} hb hm => by
    obtain ⟨q, hq, e⟩ := List.mem_map.mp hm
    obtain ⟨ps, ps₀, x, y, z⟩ := S.tab q hq
    have := Heap.lt_size y.2
    rw [e] at this
    exact absurd this (Nat.not_lt.mpr hb)
  have mv : ∀ W, Mv T g W s.heap h₁ := fun W => ⟨S.keeps hkeep hle, fun b o e _ _ => hkeep b o e, fun b o e => ⟨o, hkeep b o e⟩⟩
  have habv : ∀ p ∈ cells s.heap.objs.size, s.heap.objs.size < p.2 := fun p hp => hab p.1 p.2 hp
  have jj : J T g W s.heap s.heap.objs.size h₁ (bindL (fun n => scope.names.lookup n) binds fun _ => none) ((cells s.heap.objs.size).map fun p => (p.2, ob p.2)) :=
    ⟨mv W, hns, notT (Nat.le_refl _), Heap.get?_none_of_le (Nat.le_refl _), S.le, fun q hq => by
      obtain ⟨p, hp, rfl⟩ := List.mem_map.mp hq
      have := habv p hp
      exact ⟨(hob p hp).1, Nat.ne_of_gt this, notT (Nat.le_of_lt this), Nat.le_of_lt (Nat.lt_of_le_of_lt S.le this)⟩, by
      rw [List.map_map]
      rw [List.nodup_iff_pairwise_ne, List.pairwise_map]
      exact hap, S⟩
  exact wpAny_mono (h s.heap.objs.size h₁ tk ob (fun p hp => (hob p hp).2) jj (mv []) fun p hp => Heap.get?_none_of_le (Nat.le_of_lt (habv p hp))) (fun _ _ x => x) fun _ _ x => x.elim
theorem e_storeCell {env : Env} {x : Str} {v : Value} {c : Addr} {o : Obj} {u : Option Value} {Q : Unit → Shared → Prop} (j : J T g W h₀ L s.heap m kn) (i : Nat) (hi : kn[i]? = some (c, o)) (ho : o.data = .cell u) (hw : c ∈ W ∨ h₀.get? c = none) (hc : env.cells.lookup x = some c)
    (h : ∀ h' o', o'.data = .cell (some v) → J T g W h₀ L h' m (kn.set i (c, o')) → Mv T g [c] s.heap h' → Q () { s with heap := h' })
    (hk : env.scope.kind = .function := by rfl) (hl : env.kindOf x = some .cell := by rfl) :
    wpAny (model prog w) A (storeName env x v) Q E s := by
  refine wpAny_storeName_cell hk hl hc ⟨o, j.get (List.mem_of_getElem? hi), ho⟩ fun h' hc' hs => ?_
  obtain ⟨o', e', d'⟩ := hc'
  obtain ⟨j', mv'⟩ := j.iter i hi hw (by rintro ⟨_, its, n, e⟩; rw [ho] at e; cases e) hs e'
  exact h h' o' d' j' mv'
end
end Mine
end
noncomputable section
open PySem PySem.W PySem.Calls PyProof.Rows Builtin Builtin.ObjectAttr
namespace Mine
structure Fh (K : Frag) (mg : Str → Option Value) : Prop where
  init : FnAt K 241 (inCls 15 0) "Headers.__init__" [] (.ref 234) 240
  conv : FnAt K 248 (inCls 15 1) "Headers._convert_string_type" [] .none 247
  getAll : FnAt K 286 (inCls 15 7) "Headers.get_all" [] .none 285
  d234 : ∃ d n sl, K.lookup 234 = some ⟨.type "tuple", d, .seq #[.none] n, sl⟩
  pN : PatK K 221 220 cN
  pV : PatK K 226 225 cV
  gN : mg "_name_disallowed_re" = some (.ref 221)
  gV : mg "_value_disallowed_re" = some (.ref 226)
  gt : mg "type" = none
  gs : mg "str" = none
  gl : mg "list" = none
  plain : plainGet K 347 "" = true
  hd : hasDictIn K 347 = true
  over : plainOver K 347 = true
  hdc : (clsIn K 347).any (·.hasDict) = true
  sa : findIn K (.ref 347) "__setattr__" = some (some (.builtin "object.__setattr__"))
  nH : findIn K (.ref 347) "_headers" = some none
  fInit : findIn K (.ref 347) "__init__" = some (some (.ref 241))
  fConv : findIn K (.ref 347) "_convert_string_type" = some (some (.ref 248))
  fGet : findIn K (.ref 347) "get_all" = some (some (.ref 286))
  keep : ∀ f ∈ [(241 : Addr), 248, 286], keepIn K (.ref f) = true ∧ isFn K (.ref f) = true
  makes : makesIn K 347 = true
def Printable (x : Str) : Prop := ∀ c ∈ x.cps.toList, 31 < c ∧ c < 127
section
variable {T : Tabs} {K : Frag} {cd : ClassData} {mg mb : Str → Option Value} {w : World} {A : Around} {s : Shared} {g h₀ h h' : Heap} {W W' : List Addr} {L C : Addr} {m : Str → Option Value} {kn : List (Addr × Obj)} {R : Result → Shared → Prop} {E : Value → Shared → Prop} {prog : Program}
def ifBody : Stmt → List Stmt | .If _ b _ _ => b | _ => []
theorem boot_type' : bootBuiltins "type" = some (.type "type") := by decide +kernel
theorem boot_str' : bootBuiltins "str" = some (.type "str") := by decide +kernel
theorem boot_list' : bootBuiltins "list" = some (.type "list") := by decide +kernel
theorem Printable.at {x : Str} (h : Printable x) : ∀ j, j < x.cps.size → 31 < x.cps.getD j 0 ∧ x.cps.getD j 0 < 127 := fun j hj => h _ (by
  rw [getD_list, List.getD_eq_getElem?_getD, List.getElem?_eq_getElem (by rw [Array.length_toList]; exact hj)]
  exact List.getElem_mem _)
set_option maxHeartbeats 1000000 in
theorem conv_spec {self : Value} {x : Str} {t : Tok} {b : Bool} (FH : Fh K mg) (G : Gb T K mg mb g) (S : St T g s.heap) (r : Rm A 3) (hx : Printable x) (hz : x.cps.size ≤ 100000)
   (hR : ∀ h' tk, Mv T g [] s.heap h' → R (.ok (.ret (.str x t))) { s with heap := h', toks := tk }) :
   codeAny (model PR w) A (.call (.ref 248) ⟨[self, .str x t], [("name", .bool b)]⟩) R s := by
  obtain ⟨oc, od, osl, name, kV, doc, pm, an, ct, hob, hcd⟩ := FH.conv
  refine' j_callK (binds := [("self", self), ("value", .str x t), ("name", .bool b)]) [] [] G S Kn.nil hob hcd r.lt (BindsTo.of_eq rfl) (locs rfl) (by decide) ?_ rfl rfl rfl
  intro L h₁ t₁ j mv₁
  refine wpAny_execs_cons (wpAny_If (wpAny_isTrue_Compare1 (Call_ ?_)))
  refine j_builtin (s := { s with heap := h₁, toks := t₁ }) G j FH.gt boot_type' ?_
  refine PyProof.Rows.callWith_type1 (args_cons ?_)
  refine j_local (s := { s with heap := h₁, toks := t₁ }) j rfl (args_nil ?_)
  refine call_type_of (typeIs_str _ _ _) (by rfl) ?_
  refine j_builtin (s := { s with heap := h₁, toks := t₁ }) G j FH.gs boot_str' ?_
  refine wpAny_pure ?_
  refine wpAny_truthy_bool ?_
  rw [show (Value.type "str" == Value.type "str") = true from by exact rfl, if_pos rfl]
  refine wpAny_execs_cons (wpAny_Assign_Name (IfExp_ (wpAny_isTrue_value ?_)))
  refine j_local (s := { s with heap := h₁, toks := t₁ }) j rfl (wpAny_truthy_bool ?_)
  have tail : ∀ pat tb code, PatK K pat tb code → (∃ n, n < 4 * 2 ^ 64 ∧ Ends n (Sre.forSearch code x.cps 0 0 x.cps.size false) Miss) → ∀ h₂ t₂, J T g [] s.heap L h₂ (fun y => if y = "regex" then some (.ref pat) else ([("self", self), ("value", .str x t), ("name", .bool b)] : List (Str × Value)).reverse.lookup y) [] → ∀ Qf : Flow → Shared → Prop, (∀ tk, Qf (.ret (.str x t)) { s with heap := h₂, toks := tk }) →
      wpAny (model PR w) (A.deeper (envX "Headers._convert_string_type" (fScope (inCls 15 1)) L 248 (.ref 247) [])) (execs (ifBody (stAt (fBody (inCls 15 1)) 0)).tail (envX "Headers._convert_string_type" (fScope (inCls 15 1)) L 248 (.ref 247) []))
        Qf (fun _ _ => False) { s with heap := h₂, toks := t₂ } := by
    intro pat tb code pk hE h₂ t₂ j₂ Qf hQf
    obtain ⟨n, hn, hE⟩ := hE
    refine wpAny_execs_cons (wpAny_If (wpAny_isTrue_value (MethodCall_ ?_)))
    refine j_local (s := { s with heap := h₂, toks := t₂ }) j₂ rfl ?_
    refine pat_meth (s := { s with heap := h₂, toks := t₂ }) pk (j₂.mv.st.In G) slot_search ty_search ?_
    refine callWith_method1 (args_cons ?_)
    refine j_local (s := { s with heap := h₂, toks := t₂ }) j₂ rfl (args_nil ?_)
    refine call_search_miss (s := { s with heap := h₂, toks := t₂ }) (pk.at (j₂.mv.st.In G)).1 (by exact Nat.le_trans (by assumption) (by decide)) hE hn ?_
    refine truthy_none ?_
    rw [if_neg (by decide)]
    refine wpAny_execs_nil ?_
    dsimp only
    refine wpAny_execs_cons (wpAny_Return_some ?_)
    refine j_local (s := { s with heap := h₂, toks := t₂ }) j₂ rfl ?_
    exact hQf t₂
  cases b with
  | true =>
    rw [if_pos rfl]
    refine j_global (s := { s with heap := h₁, toks := t₁ }) G j FH.gN ?_
    refine j_storeK (s := { s with heap := h₁, toks := t₁ }) j fun h₂ t₂ j₂ mv₂ => ?_
    exact tail _ _ _ FH.pN ⟨30, by decide, searchN hx.at⟩ h₂ t₂ j₂ _ fun tk => hR h₂ tk j₂.mv
  | false =>
    rw [if_neg (by decide)]
    refine j_global (s := { s with heap := h₁, toks := t₁ }) G j FH.gV ?_
    refine j_storeK (s := { s with heap := h₁, toks := t₁ }) j fun h₂ t₂ j₂ mv₂ => ?_
    exact tail _ _ _ FH.pV ⟨30, by decide, searchV hx.at⟩ h₂ t₂ j₂ _ fun tk => hR h₂ tk j₂.mv
end
end Mine
end
noncomputable section
open PySem PySem.W PySem.Calls PyProof.Rows Builtin Builtin.ObjectAttr
namespace Mine
section
variable {T : Tabs} {K : Frag} {cd : ClassData} {mg mb : Str → Option Value} {w : World} {A : Around} {s : Shared} {g h₀ h h' : Heap} {W W' : List Addr} {L C : Addr} {m : Str → Option Value} {kn : List (Addr × Obj)} {R : Result → Shared → Prop} {E : Value → Shared → Prop} {prog : Program}
theorem Turns.pairU {env : Env} {I : Addr} {fp wr : List Addr} {n : Nat} {Pt : Nat → Array Value → Prop} {Sx : Nat → Heap → Prop} {Mid : Nat → Addr → Heap → Prop} {x y : Str} {px py pt : Pos} {kt : Nat} (Wk : WalksU prog w A I fp wr n Pt Sx Mid) (hh : A.handled = none)
    (hP : ∀ i vals, Pt i vals → vals.size = 2)
    (hw : ∀ b ∈ wr, h₀.get? b = none) (hL : env.locals ∉ fp) (hk : env.scope.kind = .function := by rfl) (hl : env.kindOf x = some .local := by rfl) (hl' : env.kindOf y = some .local := by rfl) :
    Turns prog w A T g W h₀ (.Tuple [.Name x px, .Name y py] kt pt) env I fp wr n (fun i m m' => ∃ v v', Pt i #[v, v'] ∧ m' = fun z => if z = y then some v' else if z = x then some v else m z) Sx where
  sub := Wk.sub
  stable := Wk.frame
  item := fun i s m kn B E hi hs j hkn hB => by
    have hLw : env.locals ∉ wr := fun hm => hL (Wk.sub _ hm)
    have hw' : ∀ b ∈ wr, h₀.get? b = none ∧ b ≠ env.locals := fun b hb => ⟨hw b hb, fun q => hLw (q ▸ hb)⟩
    refine Wk.item i s _ E hi hs fun t vals h' tk hp ht hm k => ?_
    have j' := j.turn k hw' hkn
    refine Wk.go _ _ _ i t { s with heap := h', toks := tk } _ E hm fun h₂ hs₂ k₂ => ?_
    have j₂ := j'.turn k₂ hw' hkn
    have ht₂ : h₂.IsTuple t vals := by
      obtain ⟨o, e, r⟩ := ht
      exact ⟨o, k₂ _ _ (Wk.apart _ _ _ hm) e, r⟩
    have h2 := hP _ _ hp
    obtain ⟨v, v', rfl⟩ : ∃ v v', vals = #[v, v'] := by
      obtain ⟨l⟩ := vals
      match l, h2 with
      | [a, b], _ => exact ⟨a, b, rfl⟩
    refine wpAny_assign_Tuple (s := { s with heap := h₂, toks := tk }) hh ht₂ (by rfl) (by rfl) fun h₃ ex₃ => ?_
    have k₃ : ∀ b o, h₂.get? b = some o → h₃.get? b = some o := fun b o e => ex₃ b o (Nat.ne_of_lt (Heap.lt_size e)) e
    obtain ⟨j₃, mv₃⟩ := j₂.keepsL k₃
    refine wpAny_bind (wpAny_holding (wpAny_assign_Name ?_))
    refine wpAny_storeName_local hl j₃.ns (fun h₄ hn₄ hs₄ => ?_) (by rw [hk]; rfl)
    have j₄ := j₃.store hn₄ hs₄
    refine wpAny_bind (wpAny_holding (wpAny_assign_Name ?_))
    refine wpAny_storeName_local hl' j₄.ns (fun h₅ hn₅ hs₅ => ?_) (by rw [hk]; rfl)
    refine wpAny_pure ?_
    have up : ∀ b o, b ≠ env.locals → h₂.get? b = some o → h₅.get? b = some o := fun b o hb e => (hs₅.2 b hb).trans ((hs₄.2 b hb).trans (k₃ b o e))
    exact hB _ _ _ ⟨v, v', hp, rfl⟩ (j₄.store hn₅ hs₅) (Wk.frame _ _ _ hs₂ fun b hb o e => up b o (fun q => hL (q ▸ hb)) e) fun b o hb hbL e => up b o hbL (k₂ b o hb (k b o hb e))
  done := fun s m kn B E hs j hkn hB => by
    have hLw : env.locals ∉ wr := fun hm => hL (Wk.sub _ hm)
    refine Wk.done s _ E hs fun h' tk k => ?_
    exact hB _ _ (j.turn k (fun b hb => ⟨hw b hb, fun q => hLw (q ▸ hb)⟩) hkn) k
  self := Wk.self
theorem for_step {target : Expr} {env : Env} {I : Addr} {fp wr : List Addr} {n i : Nat} {upd : Nat → (Str → Option Value) → (Str → Option Value) → Prop} {S : Nat → Heap → Prop} {body orelse : List Stmt}
    (Tn : Turns prog w A T g W h₀ target env I fp wr n upd S) (hi : i < n) (hs : S i s.heap) (j : J T g W h₀ env.locals s.heap m kn) (hkn : ∀ p ∈ kn, p.1 ∉ wr)
    (h : ∀ h' tk m', upd i m m' → J T g W h₀ env.locals h' m' kn → S (i + 1) h' → (∀ b o, b ∉ wr → b ≠ env.locals → s.heap.get? b = some o → h'.get? b = some o) →
      wpAny (model prog w) A (execs body env) (fun f s₃ => match f with
          | .next | .cont => codeAny (model prog w) A (.forLoop target (.ref I) body orelse env) R s₃
          | .brk => R (.ok .next) s₃
          | .ret v => R (.ok (.ret v)) s₃) (fun _ _ => False) { s with heap := h', toks := tk }) :
    codeAny (model prog w) A (.forLoop target (.ref I) body orelse env) R s := by
  refine for_turn ?_
  refine wpAny_mono (Tn.item i s m kn (fun s₂ => wpAny (model prog w) A (execs body env) (fun f s₃ => match f with
          | .next | .cont => codeAny (model prog w) A (.forLoop target (.ref I) body orelse env) R s₃
          | .brk => R (.ok .next) s₃
          | .ret v => R (.ok (.ret v)) s₃) (fun _ _ => False) s₂) (fun _ _ => False) hi hs j hkn h) (fun r s₁ h₁ => ?_) fun _ _ f => f
  cases r with
  | none => exact h₁.elim
  | some v => exact h₁
theorem for_done {target : Expr} {env : Env} {I : Addr} {fp wr : List Addr} {n : Nat} {upd : Nat → (Str → Option Value) → (Str → Option Value) → Prop} {S : Nat → Heap → Prop} {body : List Stmt}
    (Tn : Turns prog w A T g W h₀ target env I fp wr n upd S) (hs : S n s.heap) (j : J T g W h₀ env.locals s.heap m kn) (hkn : ∀ p ∈ kn, p.1 ∉ wr)
    (h : ∀ h' tk, J T g W h₀ env.locals h' m kn → (∀ b o, b ∉ wr → s.heap.get? b = some o → h'.get? b = some o) → R (.ok .next) { s with heap := h', toks := tk }) :
    codeAny (model prog w) A (.forLoop target (.ref I) body [] env) R s := by
  refine for_turn ?_
  refine wpAny_mono (Tn.done s m kn (fun s₁ => R (.ok .next) s₁) (fun _ _ => False) hs j hkn h) (fun r s₁ h₁ => ?_) fun _ _ f => f
  cases r with
  | none => exact wpAny_execs_nil h₁
  | some v => exact h₁.elim
end
end Mine
end
noncomputable section
open PySem PySem.W PySem.Calls PyProof.Rows Builtin Builtin.ObjectAttr
namespace Mine
def HdrAt (w : World) (h : Heap) (x d pl : Addr) : Prop := h.get? x = some (instObj 347 d) ∧ ∃ tk, h.get? d = some (dictOf [⟨PyData.keyHash w.params "_headers", .str "_headers" tk, .ref pl⟩] 1)
section
variable {T : Tabs} {K : Frag} {cd : ClassData} {mg mb : Str → Option Value} {w : World} {A : Around} {s : Shared} {g h₀ h h' : Heap} {W W' : List Addr} {L C : Addr} {m : Str → Option Value} {kn : List (Addr × Obj)} {R : Result → Shared → Prop} {E : Value → Shared → Prop} {prog : Program}
variable {x d pl : Addr}
theorem bind_hinit (FH : Fh K mg) {s : Shared} (Y : K.In s.heap) (x pl : Addr) (fd : FuncData) (h1 : fd.params = fArgs (inCls 15 0)) (h2 : fd.defaults = .ref 234) : BindsTo s fd ⟨[.ref x, .ref pl], []⟩ [("self", .ref x), ("headers", .ref pl)] := by
  obtain ⟨d, n, sl, e⟩ := FH.d234
  obtain ⟨a1, a2, a3, a4, a5, a6, a7, a8, a9, a10, a11, a12, a13, a14⟩ := fd
  dsimp only at h1 h2
  subst h1 h2
  exact BindsTo.of_defaults rfl (Y _ _ e) rfl rfl rfl
theorem e_bool {env : Env} {b : Bool} {k : Nat} {pos : Pos} {Q : Value → Shared → Prop} (h : Q (.bool b) s) : wpAny (model prog w) A (eval (.Constant (.bool b) k pos) env) Q E s := fun _ _ _ => h
set_option maxHeartbeats 2000000 in
theorem hinit_spec {its : Array Value} {ep : Nat} {ps : List (Str × Str)} (FH : Fh K mg) (G : Gb T K mg mb g) (S : St T g s.heap) (r : Rm A 6)
   (hx : s.heap.get? x = some (instObj 347 d)) (hd : s.heap.get? d = some emptyDict) (hne : d ≠ x) (hxg : g.objs.size ≤ x) (hdg : g.objs.size ≤ d)
   (hpl : s.heap.get? pl = some (lstO its ep)) (hps : Parts s.heap its.toList ps) (hpr : ∀ p ∈ ps, (Printable p.1 ∧ p.1.cps.size ≤ 10000) ∧ Printable p.2 ∧ p.2.cps.size ≤ 10000)
   (hR : ∀ h' tk, Mv T g [d] s.heap h' → HdrAt w h' x d pl → R (.ok (.ret .none)) { s with heap := h', toks := tk }) :
   codeAny (model PR w) A (.call (.ref 241) ⟨[.ref x, .ref pl], []⟩) R s := by
  obtain ⟨oc, od, osl, name, kV, doc, pm, an, ct, hob, hcd⟩ := FH.init
  refine' j_callK (binds := [("self", .ref x), ("headers", .ref pl)]) [d] [(d, dictOf [] 0), (x, instObj 347 d)] G S ?hkn hob hcd r.lt (bind_hinit FH (S.In G) x pl _ rfl rfl) (locs rfl) (by decide) ?_ rfl rfl rfl
  case hkn =>
    refine ⟨fun p hp => ?_, by simp [hne]⟩
    rcases List.mem_cons.mp hp with rfl | hp
    · exact ⟨hd, S.notTab hd (by nofun), hdg⟩
    · rw [List.mem_singleton.mp hp]; exact ⟨hx, S.notTab hx (by nofun), hxg⟩
  intro L h₁ t₁ j mv₁
  have over : OverOk K 347 := OverOk.plain FH.over FH.hdc
  have rr := r.deeper (env := envX "Headers.__init__" (fScope (inCls 15 0)) L 241 (.ref 240) [])
  have pld : pl ≠ d := by rintro rfl; rw [hpl] at hd; simp [emptyDict] at hd
  have plL : pl ≠ L := j.neL hpl
  refine wpAny_execs_cons (wpAny_Assign_Name (IfExp_ (wpAny_isTrue_Compare1 ?_)))
  refine j_local (s := { s with heap := h₁, toks := t₁ }) j rfl ?_
  refine wpAny_pure (PyProof.Rows.isnot_ref_none (wpAny_truthy_bool ?_))
  rw [if_pos rfl]
  refine j_local (s := { s with heap := h₁, toks := t₁ }) j rfl ?_
  refine j_storeK (s := { s with heap := h₁, toks := t₁ }) j fun h₂ t₂ j₂ mv₂ => ?_
  dsimp only
  have hpl₂ : h₂.get? pl = some (lstO its ep) := j₂.old hpl (.inl (by exact ni1 pld))
  refine wpAny_execs_cons (wpAny_If (wpAny_isTrue_Compare1 (Call_ ?_)))
  refine j_builtin (s := { s with heap := h₂, toks := t₂ }) G j₂ FH.gt boot_type' ?_
  refine PyProof.Rows.callWith_type1 (args_cons ?_)
  refine j_local (s := { s with heap := h₂, toks := t₂ }) j₂ rfl (args_nil ?_)
  refine call_type_of (s := { s with heap := h₂, toks := t₂ }) (Tx := "list") ⟨_, hpl₂, rfl⟩ (by rfl) ?_
  refine j_builtin (s := { s with heap := h₂, toks := t₂ }) G j₂ FH.gl boot_list' ?_
  refine isnot_type_same (wpAny_truthy_bool ?_)
  rw [if_neg (by decide)]
  refine wpAny_execs_nil ?_
  dsimp only
  refine wpAny_execs_cons (plainObj_wpAny_Assign_Attribute ?_)
  refine j_local (s := { s with heap := h₂, toks := t₂ }) j₂ rfl ?_
  refine j_local (s := { s with heap := h₂, toks := t₂ }) j₂ rfl ?_
  refine j_setD (s := { s with heap := h₂, toks := t₂ }) (es := []) (k := 0) G j₂ (.inl (by exact m1)) rfl rfl ⟨j₂.get (.tail _ (.head _)), rfl, rfl, j₂.get (.head _)⟩ FH.sa over (by unfold takerIn; rw [FH.nH]; rfl) rfl (fun _ => rfl) rfl (by simp) fun h₃ k₃ t₃ j₃ mv₃ => ?_
  dsimp only
  have hpl₃ : h₃.get? pl = some (lstO its ep) := j₃.old hpl (.inl (by exact ni1 pld))
  refine wpAny_execs_cons (wpAny_If (wpAny_isTrue_value (e_bool (wpAny_truthy_bool ?_))))
  rw [if_pos rfl]
  refine wpAny_execs_cons (wpAny_For ?_)
  refine j_local (s := { s with heap := h₃, toks := t₃ }) j₃ rfl ?_
  refine j_pyIterList (s := { s with heap := h₃, toks := t₃ }) j₃ hpl₃ rfl rfl fun I h₄ hI j₄ mv₄ nI nI₃ => ?_
  obtain ⟨Ts, vals, htv⟩ := Parts.tups hps
  have hTI : ∀ q, q < its.size → Ts q ≠ I := fun q hq e => by
    obtain ⟨_, ⟨o, e', _⟩, _⟩ := htv q hq
    rw [e, nI] at e'; cases e'
  have hTL : ∀ q, q < its.size → Ts q ≠ L := fun q hq => by
    obtain ⟨_, ⟨o, e', _⟩, _⟩ := htv q hq
    exact j.neL e'
  have plI : pl ≠ I := fun q => by rw [q, nI] at hpl; cases hpl
  have LI : L ≠ I := fun q => by obtain ⟨o, es, n, e', _⟩ := j₃.ns; rw [q, nI₃] at e'; cases e'
  have hsz : its.size = ps.length := by have := hps.len; rw [Array.length_toList] at this; exact this
  have j₄' := j₄.sub (List.sublist_cons_self _ _)
  have Tn := fun (px py pt : Pos) (kt : Nat) => Turns.pairU (px := px) (py := py) (pt := pt) (kt := kt) (T := T) (g := g) (W := [d]) (h₀ := s.heap) (x := "k") (y := "v") (env := envX "Headers.__init__" (fScope (inCls 15 0)) L 241 (.ref 240) [])
    (walkTups (prog := PR) (w := w) (A := A.deeper (envX "Headers.__init__" (fScope (inCls 15 0)) L 241 (.ref 240) [])) rr.h I pl plI its Ts vals (fun q hq => (htv q hq).1) hTI) rr.h
    (fun q vs e => by
      obtain ⟨_, _, _, _, _, _, e'⟩ := htv q e.2
      rw [e.1, e']; rfl) (fun b hb => by rw [List.mem_singleton.mp hb]; exact nI) (fun hm => by
      rcases List.mem_cons.mp hm with q | hm
      · exact LI q
      rcases List.mem_cons.mp hm with q | hm
      · exact plL q.symm
      · obtain ⟨q, hq, e⟩ := List.mem_map.mp hm
        exact hTL q (List.mem_range.mp hq) e)
  have tup : ∀ {h' : Heap} {m'}, J T g [d] s.heap L h' m' [(d, dictOf [⟨PyData.keyHash w.params "_headers", .str "_headers" k₃, .ref pl⟩] 1), (x, instObj 347 d)] → ∀ q, q < its.size → h'.IsTuple (Ts q) (vals q) := fun j' q hq => by
    obtain ⟨_, ⟨o, e1, e2, n, e3⟩, _⟩ := htv q hq
    exact ⟨o, j'.old e1 (.inr ⟨e2, _, _, e3⟩) (by rw [e2]; nofun), e2, n, e3⟩
  have knI : ∀ p ∈ [(d, dictOf [⟨PyData.keyHash w.params "_headers", .str "_headers" k₃, .ref pl⟩] 1), (x, instObj 347 d)], p.1 ∉ [I] := fun p hp hm => by
    rw [List.mem_singleton] at hm
    rcases List.mem_cons.mp hp with rfl | hp
    · dsimp only at hm
      rw [hm, nI] at hd; cases hd
    · rw [List.mem_singleton.mp hp] at hm
      dsimp only at hm
      rw [hm, nI] at hx; cases hx
  have loop : ∀ (k i : Nat) (h' : Heap) (tk : Nat) m', its.size - i = k → i ≤ its.size → J T g [d] s.heap L h' m' [(d, dictOf [⟨PyData.keyHash w.params "_headers", .str "_headers" k₃, .ref pl⟩] 1), (x, instObj 347 d)] → m' "self" = some (.ref x) →
      (h'.IsListIter I pl i ∧ Sq h' pl its ∧ ∀ k, k < its.size → h'.IsTuple (Ts k) (vals k)) → ∀ (px py pt : Pos) (kt : Nat), ∀ RR : Result → Shared → Prop, (∀ h' tk, Mv T g [d] s.heap h' → HdrAt w h' x d pl → RR (.ok .next) { s with heap := h', toks := tk }) →
      codeAny (model PR w) (A.deeper (envX "Headers.__init__" (fScope (inCls 15 0)) L 241 (.ref 240) [])) (.forLoop (.Tuple [.Name "k" px, .Name "v" py] kt pt) (.ref I) (forBody (stAt (ifBody (stAt (fBody (inCls 15 0)) 3)) 0)) [] (envX "Headers.__init__" (fScope (inCls 15 0)) L 241 (.ref 240) [])) RR { s with heap := h', toks := tk } := by
    intro k
    induction k with
    | zero =>
      intro i h' tk m' hk hi j' hself hs px py pt kt RR hRR
      have : i = its.size := by exact de0 hk hi
      subst this
      refine for_done (Tn px py pt kt) hs j' knI fun h'' tk' j'' _ => hRR h'' tk' j''.mv ⟨j''.get (.tail _ (.head _)), _, j''.get (.head _)⟩
    | succ k ih =>
      intro i h' tk m' hk hi j' hself hs px py pt kt RR hRR
      refine for_step (s := { s with heap := h', toks := tk }) (Tn px py pt kt) (by exact dlt hk) hs j' knI fun h₅ t₅ m₅ hu j₅ hs₅ _ => ?_
      obtain ⟨v, v', ⟨e1, hi'⟩, rfl⟩ := hu
      obtain ⟨_, _, q, ta, tb, e2, e3⟩ := htv i hi'
      rw [e3] at e1
      obtain ⟨rfl, rfl⟩ : v = .str q.1 ta ∧ v' = .str q.2 tb := by simpa using e1
      obtain ⟨⟨hq1, hq2⟩, hq3, hq4⟩ := hpr q (List.mem_of_getElem? e2)
      have hs5 : (if ("self" : Str) = "v" then some (.str q.2 tb) else if ("self" : Str) = "k" then some (.str q.1 ta) else m' "self") = some (Value.ref x) := by
        rw [if_neg (by decide), if_neg (by decide)]; exact hself
      refine wpAny_execs_cons (wpAny_Expr (methodCall_KW ?_))
      refine j_local (s := { s with heap := h₅, toks := t₅ }) j₅ hs5 ?_
      refine j_meth (s := { s with heap := h₅, toks := t₅ }) G j₅.mv.st ⟨j₅.get (.tail _ (.head _)), rfl, rfl, j₅.get (.head _)⟩ FH.plain FH.fConv (FH.keep 248 (by exact m2)).2 (by rfl) ?_
      refine callWith_KW (K := K) (h₀ := s.heap) (S.In G) (FH.keep 248 (by exact m2)).1 (by rfl) (args_cons ?_)
      refine j_local (s := { s with heap := h₅, toks := t₅ }) j₅ (v := .str q.1 ta) (by rw [if_neg (by decide), if_pos rfl]) (args_nil (kwAll_cons (e_bool (kwAll_nil ⟨j₅.mv.st.In G, wpAny_call ?_⟩))))
      refine conv_spec (s := { s with heap := h₅, toks := t₅ }) FH G j₅.mv.st (rr.mono (by decide)) hq1 (by exact Nat.le_trans (by assumption) (by decide)) fun h₆ t₆ mv₆ => ?_
      have j₆ := j₅.call0 mv₆
      dsimp only
      refine wpAny_execs_cons (wpAny_Expr (methodCall_KW ?_))
      refine j_local (s := { s with heap := h₆, toks := t₆ }) j₆ hs5 ?_
      refine j_meth (s := { s with heap := h₆, toks := t₆ }) G j₆.mv.st ⟨j₆.get (.tail _ (.head _)), rfl, rfl, j₆.get (.head _)⟩ FH.plain FH.fConv (FH.keep 248 (by exact m2)).2 (by rfl) ?_
      refine callWith_KW (K := K) (h₀ := s.heap) (S.In G) (FH.keep 248 (by exact m2)).1 (by rfl) (args_cons ?_)
      refine j_local (s := { s with heap := h₆, toks := t₆ }) j₆ (v := .str q.2 tb) (by rw [if_pos rfl]) (args_nil (kwAll_cons (e_bool (kwAll_nil ⟨j₆.mv.st.In G, wpAny_call ?_⟩))))
      refine conv_spec (s := { s with heap := h₆, toks := t₆ }) FH G j₆.mv.st (rr.mono (by decide)) hq3 (by exact Nat.le_trans (by assumption) (by decide)) fun h₇ t₇ mv₇ => ?_
      have j₇ := j₆.call0 mv₇
      dsimp only
      refine wpAny_execs_nil ?_
      refine ih (i + 1) h₇ t₇ _ (by exact dst hk) (by assumption) j₇ hs5 ?_ px py pt kt RR hRR
      have keepI : ∀ o, h₅.get? I = some o → o.cls ≠ .none → h₇.get? I = some o := fun o e hc => mv₇.keep _ _ (mv₆.keep _ _ e (j₅.mv.st.notTab e hc) (.inl (by exact ni0))) (j₆.mv.st.notTab (mv₆.keep _ _ e (j₅.mv.st.notTab e hc) (.inl (by exact ni0))) hc) (.inl (by exact ni0))
      obtain ⟨⟨o, e, c, dd⟩, sq, _⟩ := hs₅
      exact ⟨⟨o, keepI o e (by rw [c]; nofun), c, dd⟩, ⟨_, _, j₇.old hpl (.inl (by exact ni1 pld)), rfl⟩, tup j₇⟩
  refine loop its.size 0 h₄ t₃ _ rfl (Nat.zero_le _) j₄' rfl ⟨⟨_, j₄.get (.head _), rfl, rfl⟩, ⟨_, _, j₄.old hpl (.inl (by exact ni1 pld)), rfl⟩, tup j₄'⟩ _ _ _ _ _ fun h' tk mv' hdr => ?_
  refine wpAny_execs_nil ?_
  dsimp only
  exact wpAny_execs_nil (hR h' tk mv' hdr)
end
end Mine
end
noncomputable section
open PySem PySem.W PySem.Calls PyProof.Rows Builtin Builtin.ObjectAttr
namespace Mine
section
variable {T : Tabs} {K : Frag} {cd : ClassData} {mg mb : Str → Option Value} {w : World} {A : Around} {s : Shared} {g h₀ h h' : Heap} {W W' : List Addr} {L C : Addr} {m : Str → Option Value} {kn : List (Addr × Obj)} {R : Result → Shared → Prop} {E : Value → Shared → Prop} {prog : Program}
theorem Stays.pure {ws : List Addr} (F : Nat → Value → Prop) : Stays T ws (fun i y _ => F i y) := fun _ _ _ _ f _ => f
def Body (prog : Program) (w : World) (A : Around) (T : Tabs) (g : Heap) (s s₂ : Shared) (elt : Expr) (ifs : List Expr) (env : Env) (scope : Scope) (cl : List (Str × Addr)) (n : Nat) (p : Nat → Bool) (F : Nat → Value → Prop) (upd : Nat → (Str → Option Value) → (Str → Option Value) → Prop) : Prop :=
  ∀ D C i (s₃ : Shared) m m' its ep, i < n → upd i m m' → J T g [] s.heap C s₃.heap m' [(D, lstO its ep)] → Mv T g [] s.heap s₃.heap → Ok s₂ s₃ →
      wpAny (model prog w) A (forIn ifs true fun c r => if r = true then do let ok ← isTrue c (compEnvC scope cl C env) (eval c (compEnvC scope cl C env)); pure (ForInStep.yield ok) else pure (ForInStep.yield r))
        (fun ok s₄ => ok = p i ∧ Mv T g [] s₃.heap s₄.heap ∧ Ok s₃ s₄ ∧ (p i = true → wpAny (model prog w) A (eval elt (compEnvC scope cl C env)) (fun y s₅ => F i y ∧ Mv T g [] s₄.heap s₅.heap ∧ Ok s₄ s₅) (fun _ _ => False) s₄)) (fun _ _ => False) s₃
theorem src_list {elt : Expr} {ifs : List Expr} {env : Env} {scope : Scope} {cl : List (Str × Addr)} {n : Nat} {p : Nat → Bool} {F : Nat → Value → Prop} {s₁ : Shared} {ax : Addr} {o : Obj} {its : Array Value} {ep : Nat} {x : Str} {px : Pos}
    (hh : A.handled = none) (mv₁ : Mv T g [] s.heap s₁.heap) (ok₁ : Ok s s₁) (S₁ : St T g s₁.heap) (hax : s₁.heap.get? ax = some o) (hc : o.cls = .type "list") (hd : o.data = .seq its ep) (hn : its.size = n)
    (hx : scope.names.lookup x = some .local) (hk : scope.kind = .function)
    (body : ∀ s₂, Ok s₁ s₂ → Body prog w A T g s s₂ elt ifs env scope cl n p F (fun i m m' => ∃ v, its[i]? = some v ∧ m' = fun y => if y = x then some v else m y)) :
    wpAny (model prog w) A (pyIter (.ref ax)) (Src prog w A T g s elt (.Name x px) ifs env scope cl n p (fun _ i y _ => F i y)) E s₁ := by
  subst hn
  refine wpAny_pyIter_list ⟨o, hax, hc, ep, hd⟩ ?_
  have nI : s₁.heap.get? s₁.heap.objs.size = none := Heap.get?_none_of_le (Nat.le_refl _)
  have hne : ax ≠ s₁.heap.objs.size := Nat.ne_of_lt (Heap.lt_size hax)
  have mv₂ : Mv T g [] s.heap (s₁.heap.push { cls := .type "list_iterator", data := .fields #[.ref ax, .int 0 0] }) := mv₁.keeps (fun b o e => Heap.get?_push_of_some _ e) (by rw [Heap.size_push]; exact Nat.le_succ_of_le S₁.le)
  have noT : s₁.heap.objs.size ∉ T.map (·.2) := fun hm => by
    obtain ⟨q, hq, e⟩ := List.mem_map.mp hm
    obtain ⟨ps, ps₀, x, y, z⟩ := S₁.tab q hq
    have := Heap.lt_size y.2
    rw [e] at this
    exact absurd this (Nat.lt_irrefl _)
  have Wk := Walks.list (prog := prog) (w := w) hh s₁.heap.objs.size ax hne its
  refine ⟨mv₂, ⟨ok₁.1, ok₁.2⟩, s₁.heap.objs.size, _, _, _, _, rfl, ⟨⟨_, Heap.get?_push_size _ rfl, rfl, rfl⟩, ⟨o, Heap.get?_push_of_some _ hax, hc, ep, hd⟩⟩, ?_, fun C hC => Turns.name Wk (fun b hb => ?_) hC hk (lookup_relabel_local hx), fun D C => Stays.pure F, ?_⟩
  · intro b hb
    show b < (s₁.heap.push _).objs.size ∧ _
    rw [Heap.size_push]
    rcases List.mem_cons.mp hb with rfl | hb
    · exact ⟨Nat.lt_succ_self _, noT⟩
    · rw [List.mem_singleton.mp hb]
      exact ⟨Nat.lt_succ_of_lt (Heap.lt_size hax), S₁.notTab hax (by rw [hc]; nofun)⟩
  · rw [List.mem_singleton.mp hb]
    exact none_back mv₁ nI
  · intro D C i s₃ m m' its' ep' hi hu j mv hs ok
    exact body _ ⟨rfl, id⟩ D C i s₃ m m' its' ep' hi hu j mv ok
theorem src_range {elt : Expr} {ifs : List Expr} {env : Env} {scope : Scope} {cl : List (Str × Addr)} {n : Nat} {p : Nat → Bool} {F : Nat → Value → Prop} {s₁ : Shared} {ax : Addr} {a b c : Int} {t u v : Tok} {x : Str} {px : Pos}
    (hh : A.handled = none) (mv₁ : Mv T g [] s.heap s₁.heap) (ok₁ : Ok s s₁) (S₁ : St T g s₁.heap) (hr : IsRange s₁.heap ax a b c t u v) (hsm : Builtin.Range.small a b c = true) (hn : Builtin.Range.rangeSize a b c = n)
    (hx : scope.names.lookup x = some .local) (hk : scope.kind = .function)
    (body : ∀ s₂, Ok s₁ s₂ → Body prog w A T g s s₂ elt ifs env scope cl n p F (fun i m m' => ∃ v, (∃ t, v = .int (a + i * c) t) ∧ m' = fun y => if y = x then some v else m y)) :
    wpAny (model prog w) A (pyIter (.ref ax)) (Src prog w A T g s elt (.Name x px) ifs env scope cl n p (fun _ i y _ => F i y)) E s₁ := by
  refine wpAny_pyIter_range hr hsm ?_
  rw [hn]
  have nI : s₁.heap.get? s₁.heap.objs.size = none := Heap.get?_none_of_le (Nat.le_refl _)
  have mv₂ : Mv T g [] s.heap (s₁.heap.push { cls := .type "range_iterator", data := .fields #[rawInt a, rawInt (n : Int), rawInt c] }) := mv₁.keeps (fun b o e => Heap.get?_push_of_some _ e) (by rw [Heap.size_push]; exact Nat.le_succ_of_le S₁.le)
  have noT : s₁.heap.objs.size ∉ T.map (·.2) := fun hm => by
    obtain ⟨q, hq, e⟩ := List.mem_map.mp hm
    obtain ⟨ps, ps₀, x, y, z⟩ := S₁.tab q hq
    have := Heap.lt_size y.2
    rw [e] at this
    exact absurd this (Nat.lt_irrefl _)
  have Wk := Walks.range (prog := prog) (w := w) hh s₁.heap.objs.size a c n
  refine ⟨mv₂, ⟨ok₁.1, ok₁.2⟩, s₁.heap.objs.size, _, _, _, _, rfl, ?_, ?_, fun C hC => Turns.name Wk (fun b hb => ?_) hC hk (lookup_relabel_local hx), fun D C => Stays.pure F, ?_⟩
  · have e1 : a + ((0 : Nat) : Int) * c = a := by simp
    have e2 : (n : Int) - ((0 : Nat) : Int) = n := by exact rfl
    rw [e1, e2]
    exact Heap.get?_push_size _ rfl
  · intro b hb
    show b < (s₁.heap.push _).objs.size ∧ _
    rw [Heap.size_push]
    rw [List.mem_singleton.mp hb]
    exact ⟨Nat.lt_succ_self _, noT⟩
  · rw [List.mem_singleton.mp hb]
    exact none_back mv₁ nI
  · intro D C i s₃ m m' its' ep' hi hu j mv hs ok
    exact body _ ⟨rfl, id⟩ D C i s₃ m m' its' ep' hi hu j mv ok
end
end Mine
end
noncomputable section
open PySem PySem.W PySem.Calls PyProof.Rows Builtin Builtin.ObjectAttr
namespace Mine
section
variable {T : Tabs} {K : Frag} {cd : ClassData} {mg mb : Str → Option Value} {w : World} {A : Around} {s : Shared} {g h₀ h h' : Heap} {W W' : List Addr} {L C : Addr} {m : Str → Option Value} {kn : List (Addr × Obj)} {R : Result → Shared → Prop} {E : Value → Shared → Prop} {prog : Program}
variable {x d pl : Addr}
theorem Body.all {s₂ : Shared} {elt : Expr} {env : Env} {scope : Scope} {cl : List (Str × Addr)} {n : Nat} {F : Nat → Value → Prop} {upd : Nat → (Str → Option Value) → (Str → Option Value) → Prop}
    (h : ∀ D C i (s₃ : Shared) m m' its ep, i < n → upd i m m' → J T g [] s.heap C s₃.heap m' [(D, lstO its ep)] → Mv T g [] s.heap s₃.heap → Ok s₂ s₃ →
      wpAny (model prog w) A (eval elt (compEnvC scope cl C env)) (fun y s₅ => F i y ∧ Mv T g [] s₃.heap s₅.heap ∧ Ok s₃ s₅) (fun _ _ => False) s₃) : Body prog w A T g s s₂ elt [] env scope cl n (fun _ => true) F upd := by
  intro D C i s₃ m m' its ep hi hu j mv ok
  exact wpAny_tests_nil ⟨rfl, Mv.refl j.mv.st, Ok.refl _, fun _ => h D C i s₃ m m' its ep hi hu j mv ok⟩
theorem Body.one {s₂ : Shared} {elt c : Expr} {env : Env} {scope : Scope} {cl : List (Str × Addr)} {n : Nat} {p : Nat → Bool} {F : Nat → Value → Prop} {upd : Nat → (Str → Option Value) → (Str → Option Value) → Prop}
    (h : ∀ D C i (s₃ : Shared) m m' its ep, i < n → upd i m m' → J T g [] s.heap C s₃.heap m' [(D, lstO its ep)] → Mv T g [] s.heap s₃.heap → Ok s₂ s₃ →
      wpAny (model prog w) A (isTrue c (compEnvC scope cl C env) (eval c (compEnvC scope cl C env))) (fun ok s₄ => ok = p i ∧ Mv T g [] s₃.heap s₄.heap ∧ Ok s₃ s₄ ∧ (p i = true → wpAny (model prog w) A (eval elt (compEnvC scope cl C env)) (fun y s₅ => F i y ∧ Mv T g [] s₄.heap s₅.heap ∧ Ok s₄ s₅) (fun _ _ => False) s₄)) (fun _ _ => False) s₃) : Body prog w A T g s s₂ elt [c] env scope cl n p F upd := by
  intro D C i s₃ m m' its ep hi hu j mv ok
  exact wpAny_tests_one (h D C i s₃ m m' its ep hi hu j mv ok)
def getAllF (ps : List (Str × Str)) (nm : Str) : List Str := (ps.filter fun p => Txt.lower p.1 == Txt.lower nm).map (·.2)
theorem hdr_new {its : Array Value} {ep : Nat} {ps : List (Str × Str)} (FH : Fh K mg) (G : Gb T K mg mb g) (S : St T g s.heap) (r : Rm A 7)
   (hpl : s.heap.get? pl = some (lstO its ep)) (hps : Parts s.heap its.toList ps) (hpr : ∀ p ∈ ps, (Printable p.1 ∧ p.1.cps.size ≤ 10000) ∧ Printable p.2 ∧ p.2.cps.size ≤ 10000)
   (hR : ∀ x d h' tk, Mv T g [] s.heap h' → HdrAt w h' x d pl → s.heap.get? x = none → s.heap.get? d = none → g.objs.size ≤ x → g.objs.size ≤ d → R (.ok (.ret (.ref x))) { s with heap := h', toks := tk }) :
   codeAny (model PR w) A (.call (.ref 347) ⟨[.ref pl], []⟩) R s := by
  obtain ⟨hh, gg, dd, tt, os⟩ := s
  dsimp only at S hpl hps
  have Y := S.In G
  refine make_core (makes_of Y FH.makes) (looks_findIn Y FH.fInit) (fun self => bind_fn Y self (beq_iff_eq.mp (FH.keep 241 (by exact m1)).2)) (.inl rfl) ?_
  have S₂ : St T g ((hh.push emptyDict).push (instObj 347 hh.objs.size)) := (S.push _).push _
  have hx : ((hh.push emptyDict).push (instObj 347 hh.objs.size)).get? (hh.objs.size + 1) = some (instObj 347 hh.objs.size) := by heap_get
  have hd : ((hh.push emptyDict).push (instObj 347 hh.objs.size)).get? hh.objs.size = some emptyDict := by heap_get
  have kp : ∀ b o, hh.get? b = some o → ((hh.push emptyDict).push (instObj 347 hh.objs.size)).get? b = some o := fun b o e => Heap.get?_push_of_some _ (Heap.get?_push_of_some _ e)
  have nn : ∀ b, hh.objs.size ≤ b → hh.get? b = none := fun b hb => Heap.get?_none_of_le hb
  have mv0 : Mv T g [] hh ((hh.push emptyDict).push (instObj 347 hh.objs.size)) := ⟨S₂, fun b o e _ _ => kp _ _ e, fun b o e => ⟨o, kp _ _ e⟩⟩
  refine hinit_spec (s := ⟨_, gg, dd, tt, os⟩) FH G S₂ r.make hx hd (Ne.symm (Nat.succ_ne_self _)) (Nat.le_succ_of_le S.le) S.le (kp _ _ hpl) (hps.mv S mv0) hpr fun h' tk mv hdr => ?_
  refine ⟨rfl, ?_⟩
  refine hR _ _ h' tk (mv0.trans mv fun b hb => ?_) hdr (nn _ (Nat.le_succ _)) (nn _ (Nat.le_refl _)) (Nat.le_succ_of_le S.le) S.le
  rw [List.mem_singleton.mp hb]; exact .inr (nn _ (Nat.le_refl _))
def pickP {α : Type} (ps : List α) (f : α → Bool) (i : Nat) : Bool := match ps[i]? with | some q => f q | none => false
theorem picks {α : Type} (ps : List α) (f : α → Bool) : ∀ k, k ≤ ps.length → Paired (fun i q => ps[i]? = some q) ((List.range k).filter (pickP ps f)) ((ps.take k).filter f) := by
  intro k
  induction k with
  | zero => intro _; exact .nil
  | succ k ih =>
    intro hk
    have e : ps[k]? = some ps[k] := List.getElem?_eq_getElem hk
    rw [range_filter_succ, take_succ_filter f ps k _ e]
    have h := ih (by exact Nat.le_of_lt hk)
    have ep : pickP ps f k = f ps[k] := by unfold pickP; rw [e]
    rw [ep]
    by_cases hf : f ps[k] = true
    · rw [if_pos hf, if_pos hf]
      exact Paired.snoc h e
    · rw [if_neg hf, if_neg hf, List.append_nil, List.append_nil]
      exact h
theorem strs_of_picks {α : Type} {F : Nat → Value → Prop} {Gp : Nat → α → Prop} (val : α → Str) {l : List Nat} {vs : List Value} {qs : List α} (h : Paired F l vs) (hg : Paired Gp l qs) (hF : ∀ i v q, F i v → Gp i q → ∃ t, v = .str (val q) t) : StrsAre vs (qs.map val) := by
  induction h generalizing qs with
  | nil => cases hg; exact .nil
  | cons f t ih =>
    cases hg with
    | cons g tg =>
      obtain ⟨u, rfl⟩ := hF _ _ _ f g
      exact .cons _ _ (ih tg)
set_option maxHeartbeats 2000000 in
theorem getall_spec {its : Array Value} {ep : Nat} {ps : List (Str × Str)} {nm : Str} {tn : Tok} (FH : Fh K mg) (G : Gb T K mg mb g) (S : St T g s.heap) (r : Rm A 6)
   (hdr : HdrAt w s.heap x d pl) (hpl : s.heap.get? pl = some (lstO its ep)) (hps : Parts s.heap its.toList ps) (hn1 : Printable (Txt.lower nm)) (hn2 : (Txt.lower nm).length ≤ 10000) (hlo : ∀ p ∈ ps, (Txt.lower p.1).length ≤ 10000) (hln : ps.length ≤ 1000)
   (hR : ∀ (s' : Shared) D its' ep', Mv T g [] s.heap s'.heap → Ok s s' → s.heap.get? D = none → g.objs.size ≤ D → s'.heap.get? D = some (lstO its' ep') → StrsAre its'.toList (getAllF ps nm) → R (.ok (.ret (.ref D))) s') :
   codeAny (model PR w) A (.call (.ref 286) ⟨[.ref x, .str nm tn], []⟩) R s := by
  obtain ⟨oc, od, osl, name, kV, doc, pm, an, ct, hob, hcd⟩ := FH.getAll
  obtain ⟨hx, tkh, hd⟩ := hdr
  refine' j_callC (binds := [("self", .ref x), ("name", .str nm tn)]) [] (fun L => [("name", L + 1)]) G S hob hcd r.lt rfl (fun L => rfl) (fun L p hp => by rw [List.mem_singleton.mp hp]; rfl) (fun L y hy => by
    rcases List.mem_cons.mp hy with rfl | hy
    · exact .inl rfl
    · rw [List.mem_singleton.mp hy]; exact .inr ⟨rfl, rfl⟩) ?_ rfl rfl rfl
  intro L h₁ t₁ ob hob' j mv₁ hnew
  have rr := r.deeper (env := envX "Headers.get_all" (fScope (inCls 15 7)) L 286 (.ref 285) [("name", L + 1)])
  have hcell : (ob (L + 1)).data = .cell (some (.str nm tn)) := hob' ("name", L + 1) (.head _)
  have j : J T g [] s.heap L h₁ (bindL (fun n => List.lookup n (fScope (inCls 15 7)).names) [("self", Value.ref x), ("name", Value.str nm tn)] fun x => none) [(L + 1, ob (L + 1))] := j
  have jI : ∀ {h' m' kn'}, J T g [] s.heap L h' m' kn' → InstAt h' x (instObj 347 d) 347 (some (dictOf [⟨PyData.keyHash w.params "_headers", .str "_headers" tkh, .ref pl⟩] 1)) := fun j' => ⟨j'.old hx (.inl (by exact ni0)), rfl, rfl, j'.old hd (.inl (by exact ni0))⟩
  refine wpAny_execs_cons (wpAny_Assign_Name (methodCall_KW ?_))
  refine j_local (s := { s with heap := h₁, toks := t₁ }) j (v := .ref x) (by rfl) ?_
  refine j_meth (s := { s with heap := h₁, toks := t₁ }) G j.mv.st (jI j) FH.plain FH.fConv (FH.keep 248 (by exact m2)).2 (by rfl) ?_
  refine callWith_KW (K := K) (h₀ := s.heap) (S.In G) (FH.keep 248 (by exact m2)).1 (by rfl) (args_cons (MethodCall_ ?_))
  refine e_cell (s := { s with heap := h₁, toks := t₁ }) (j.get (.head _)) hcell rfl ?_
  have fitL : ∀ {y : Str}, y.length ≤ 10000 → Builtin.Str.tooLong y.length = false := fun {y} h => by
    unfold Builtin.Str.tooLong
    rw [decide_eq_false_iff_not, sizeLine_eq]; lia
  refine s_meth PySem.F.slot_str_lower PySem.F.type_str_lower (callWith_method0 (SC.lower (fitL hn2) ?_))
  refine args_nil (kwAll_cons (e_bool (kwAll_nil ⟨j.mv.st.In G, wpAny_call ?_⟩)))
  refine conv_spec (s := { s with heap := h₁, toks := t₁ + 1 }) FH G j.mv.st (rr.mono (by decide)) hn1 (Nat.le_trans hn2 (by decide)) fun h₂ t₂ mv₂ => ?_
  have j₂ := j.call0 mv₂
  refine e_storeCell (s := { s with heap := h₂, toks := t₂ }) j₂ 0 rfl hcell (.inr (hnew ("name", L + 1) (.head _))) rfl fun h₃ oc₃ hoc₃ j₃ mv₃ => ?_
  replace j₃ : J T g [] s.heap L h₃ (bindL (fun n => List.lookup n (fScope (inCls 15 7)).names) [("self", Value.ref x), ("name", Value.str nm tn)] fun x => none) [(L + 1, oc₃)] := j₃
  dsimp only
  have S₃ := j₃.mv.st
  have hps₃ : Parts h₃ its.toList ps := hps.mv S j₃.mv
  have hpl₃ : h₃.get? pl = some (lstO its ep) := j₃.old hpl (.inl (by exact ni0))
  have hlen : its.size = ps.length := by have := hps.len; rw [Array.length_toList] at this; exact this
  have cT := (j₃.has _ (.head _)).2.2.1
  refine wpAny_execs_cons (wpAny_Return_some ?_)
  refine j_listComp (s := { s with heap := h₃, toks := t₂ }) (n := ps.length) (p := pickP ps fun q => Txt.lower q.1 == Txt.lower nm) (F := fun _ i y _ => ∃ q t, ps[i]? = some q ∧ y = .str q.2 t) (cl := [("name", L + 1)]) j₃ (by exact Nat.le_trans (by assumption) (by decide)) (by rfl) ?_ ?_
  · refine Attribute_name ?_
    refine j_local (s := { s with heap := h₃, toks := t₂ }) j₃ (v := .ref x) (by rfl) ?_
    refine j_attr (s := { s with heap := h₃, toks := t₂ }) G S₃ (jI j₃) FH.plain FH.hd FH.nH (by rfl) (by rfl) (by rfl) ?_
    refine src_list (s := { s with heap := h₃, toks := t₂ }) rr.h (Mv.refl S₃) ⟨rfl, id⟩ S₃ hpl₃ rfl rfl hlen (by rfl) (by rfl) fun s₂ ok₂ => Body.one fun D C i s₄ m m' its' ep' hi hu j₄ mv₄ ok₄ => ?_
    obtain ⟨v, ev, rfl⟩ := hu
    obtain ⟨v', q, e1, e2, tt, ta, tb, rfl, htt⟩ := All2.get hps₃ i (by rw [hps₃.len]; exact hi)
    rw [← Array.getElem?_toList, e1] at ev
    cases ev
    have htt₄ : s₄.heap.get? tt = some (tupObj [.str q.1 ta, .str q.2 tb]) := j₄.old htt (.inl (by exact ni0))
    have hc₄ : s₄.heap.get? (L + 1) = some oc₃ := j₄.mv.keep _ _ (j₃.get (.head _)) cT (.inl (by exact ni0))
    refine wpAny_isTrue_Compare1 (MethodCall_ (Subscript_ ?_))
    refine e_local j₄ (v := .ref tt) (by rw [if_pos rfl]) (wpAny_Constant_int ?_)
    refine subTail_builtin (s := { s₄ with toks := s₄.toks + 1 }) (T := "tuple") ⟨_, htt₄, rfl⟩ PySem.F.slot_tuple_getitem.lookup (PyProof.Rows.getItem_tuple (s := { s₄ with toks := s₄.toks + 1 }) ⟨_, htt₄, rfl, 0, rfl⟩ (by decide) (by decide) (j := 0) (by rfl) rfl ?_) (.inl rfl)
    refine s_meth PySem.F.slot_str_lower PySem.F.type_str_lower (callWith_method0 (SC.lower (fitL (hlo q (List.mem_of_getElem? e2))) ?_))
    refine e_cell hc₄ hoc₃ rfl ?_
    refine PyProof.Rows.eq_str (wpAny_truthy_bool ⟨by unfold pickP; rw [e2], Mv.refl j₄.mv.st, ⟨rfl, id⟩, fun _ => ?_⟩)
    refine Subscript_ ?_
    refine e_local (s := { s₄ with toks := s₄.toks + 1 + 1 }) j₄ (v := .ref tt) (by rw [if_pos rfl]) (wpAny_Constant_int ?_)
    refine subTail_builtin (s := { s₄ with toks := s₄.toks + 1 + 1 + 1 }) (T := "tuple") ⟨_, htt₄, rfl⟩ PySem.F.slot_tuple_getitem.lookup (PyProof.Rows.getItem_tuple (s := { s₄ with toks := s₄.toks + 1 + 1 + 1 }) ⟨_, htt₄, rfl, 0, rfl⟩ (by decide) (by decide) (j := 1) (by rfl) rfl ?_) (.inl rfl)
    exact ⟨⟨q, tb, e2, rfl⟩, Mv.refl j₄.mv.st, ⟨rfl, id⟩⟩
  · intro s₅ D its' ep' ws j₅ mv₅ ok₅ hD gD eD hP
    refine hR s₅ D its' ep' j₅.mv ⟨ok₅.1, ok₅.2⟩ ?_ gD eD ?_
    · exact none_back j₃.mv hD
    · have pk := picks ps (fun q => Txt.lower q.1 == Txt.lower nm) ps.length (Nat.le_refl _)
      rw [List.take_length] at pk
      exact strs_of_picks (Gp := fun i q => ps[i]? = some q) (fun q : Str × Str => q.2) hP pk fun i v q f g => by
        obtain ⟨q', t, e, rfl⟩ := f
        rw [g] at e
        cases e
        exact ⟨t, rfl⟩
end
end Mine
end
noncomputable section
open PySem PySem.W PySem.Calls PyProof.Rows Builtin Builtin.ObjectAttr
namespace Mine
section
variable {T : Tabs} {K : Frag} {cd : ClassData} {mg mb : Str → Option Value} {w : World} {A : Around} {s : Shared} {g h₀ h h' : Heap} {W W' : List Addr} {L C : Addr} {m : Str → Option Value} {kn : List (Addr × Obj)} {R : Result → Shared → Prop} {E : Value → Shared → Prop} {prog : Program}
theorem g_sum {l : Addr} {its : Array Value} {ns : List Int} {Q : Value → Shared → Prop} (hh : A.handled = none) (hl : s.heap.IsList l its) (hi : IntsAre its.toList ns)
    (h : ∀ h' tk t', (∀ b o, s.heap.get? b = some o → h'.get? b = some o) → Q (.int ns.sum t') { s with heap := h', toks := tk }) : wpAny (model prog w) A (call (.builtin "sum") [.ref l]) Q E s := by
  obtain ⟨xs, e⟩ := hi.allInts.items
  rw [Array.toArray_toList] at e
  subst e
  refine sum_intListG hh hl fun h' tk t' k => ?_
  have e1 : numsOf (intItems xs).toList = xs.toList.map (·.1) := nums_intItems xs
  rw [hi.numsOf] at e1
  rw [preSum_eq, ← e1, List.take_of_length_le (by rw [e1]; simp)]
  exact h h' tk t' k
theorem e_Slice {lower upper : Option Expr} {p : Pos} {env : Env} {Q : Value → Shared → Prop}
    (h : wpAny (model prog w) A (evalPart lower env) (fun l s₁ => wpAny (model prog w) A (evalPart upper env) (fun u s₂ => Q (.ref s₂.heap.objs.size) { s₂ with heap := s₂.heap.push (slObj l u) }) E s₁) E s) :
    wpAny (model prog w) A (eval (.Slice lower upper none p) env) Q E s :=
  wpAny_Slice (wpAny_mono h (fun l s₁ h₁ => wpAny_mono h₁ (fun u s₂ h₂ => wpAny_pure h₂) fun _ _ x => x) fun _ _ x => x)
theorem J.pushK (j : J T g W h₀ L h m kn) (o : Obj) (hf : o.isFreed = false) : ∃ a h', a = h.objs.size ∧ h' = h.push o ∧ J T g W h₀ L h' m ((a, o) :: kn) ∧ Mv T g [] h h' ∧ h₀.get? a = none ∧ h.get? a = none :=
  ⟨_, _, rfl, rfl, j.push o hf, Mv.push j.mv.st o, j.new, Heap.get?_none_of_le (Nat.le_refl _)⟩
theorem sub_slice {value slice : Expr} {l sl : Addr} {its : Array Value} {vl vu : Value} {lo hi : Option Int} {Q : Value → Shared → Prop} (hl : s.heap.IsList l its) (hs : s.heap.IsSliceOf sl vl vu .none) (pl : IsPart vl lo) (pu : IsPart vu hi) (hz : its.size ≤ 100000)
    (h : Q (.ref s.heap.objs.size) { s with heap := s.heap.push (lstO (slicePick its lo hi none) 0) })
    (hs' : subscripted slice false (.ref l) (.ref sl) = operate [.ref sl, .ref l] (getItem (.ref l) (.ref sl)) := by with_unfolding_all rfl)
    (ht : ∀ r, letTemporaryGo value (.ref l) r = pure () := by intro _; with_unfolding_all rfl) :
    wpAny (model prog w) A (subscriptTail value slice (.ref l) (.ref sl)) Q E s :=
  subscriptTail_ops hl.typeIs list_getitem_lookup (wpAny_getItem_list_slice hl hs pl pu .none (by simp) h (by rw [sizeLine_eq]; exact Nat.le_trans (by assumption) (by decide))) hs' ht
structure LetAt (x : Str) (a : Nat) : Prop where
  at_ : ∃ r, Builtin.Str.occurrences "abcdef" x 0 ("abcdef" : Str).length 1 = a :: r
theorem let_index {x : Str} {a : Nat} {t u : Tok} {Q : Value → Shared → Prop} (h : LetAt x a) (hq : Q (.int a s.toks) { s with toks := s.toks + 1 }) : wpAny (model prog w) A (call (.builtin "str.index") ([.str "abcdef" t] ++ [.str x u])) Q E s := by
  obtain ⟨r, e⟩ := h.at_
  exact SC.index e hq
def fitsB (sizes : List Int) (width : Int) (a b : Nat) : Bool :=
  ((sizes.drop a).take (b + 1 - a)).length == 1 || decide (((sizes.drop a).take (b + 1 - a)).sum + (((sizes.drop a).take (b + 1 - a)).length : Int) ≤ width)
structure Ft (K : Frag) (mg : Str → Option Value) : Prop where
  fits : FnAt K 375 (topSt 20) "_law_fits" [] .none 374
set_option maxHeartbeats 2000000 in
theorem fits_spec {sl : Addr} {its : Array Value} {ep : Nat} {sizes : List Int} {width : Int} {tw t1 t2 : Tok} {x1 x2 : Str} {a b : Nat} (FT : Ft K mg) (GM : Gm mg) (G : Gb T K mg mb g) (S : St T g s.heap) (r : Rm A 3)
   (hsl : s.heap.get? sl = some (lstO its ep)) (hi : IntsAre its.toList sizes) (hn : sizes.length = 6) (ha : LetAt x1 a) (hb : LetAt x2 b) (hab : a ≤ b) (hb6 : b < 6)
   (hR : ∀ h' tk, Mv T g [] s.heap h' → R (.ok (.ret (.bool (fitsB sizes width a b)))) { s with heap := h', toks := tk }) :
   codeAny (model PR w) A (.call (.ref 375) ⟨[.ref sl, .int width tw, .str x1 t1, .str x2 t2], []⟩) R s := by
  obtain ⟨oc, od, osl, name, kV, doc, pm, an, ct, hob, hcd⟩ := FT.fits
  refine' j_callK (binds := [("sizes", .ref sl), ("width", .int width tw), ("first", .str x1 t1), ("last", .str x2 t2)]) [] [] G S Kn.nil hob hcd r.lt (BindsTo.of_eq rfl) (locs rfl) (by decide) ?_ rfl rfl rfl
  intro L h₁ t₁ j mv₁
  have rr := r.deeper (env := envX "_law_fits" (fScope (topSt 20)) L 375 (.ref 374) [])
  refine wpAny_execs_cons (wpAny_Assign_Name (Subscript_ (j_local (s := { s with heap := h₁, toks := t₁ }) j rfl ?_)))
  refine e_Slice ?_
  refine MethodCall_ ?_
  refine Constant_str ?_
  refine PySem.GM.index ?_
  refine callWith_method1 (args_cons ?_)
  refine j_local (s := { s with heap := h₁, toks := t₁ + 1 }) j rfl (args_nil (let_index ha ?_))
  refine wpAny_BinOp ?_
  refine MethodCall_ ?_
  refine Constant_str ?_
  refine PySem.GM.index ?_
  refine callWith_method1 (args_cons ?_)
  refine j_local (s := { s with heap := h₁, toks := t₁ + 1 + 1 + 1 }) j rfl (args_nil (let_index hb ?_))
  refine wpAny_Constant_int (PySem.P.add_int ?_)
  obtain ⟨sl₂, h₂, ea₂, eh₂, j₂, mv₂, _, _⟩ := J.pushK j (slObj (.int a (t₁ + 1)) (.int ((b : Int) + 1) (t₁ + 1 + 1 + 1 + 1 + 1))) rfl
  show wpAny _ _ (subscriptTail _ _ (.ref sl) (.ref h₁.objs.size)) _ _ _
  dsimp only
  rw [← ea₂, ← eh₂]
  have hsl₂ : h₂.get? sl = some (lstO its ep) := j₂.old hsl (.inl (by exact ni0))
  have hsz : its.size = 6 := by have := hi.length; rw [Array.length_toList] at this; lia
  refine sub_slice (s := { s with heap := h₂, toks := _ }) (lo := some (a : Int)) (hi := some ((b : Int) + 1)) ⟨_, hsl₂, rfl, _, rfl⟩ ⟨_, j₂.get (.head _), rfl, rfl⟩ (by constructor) (by constructor) (by lia) ?_
  have hst := slice_ints (vs := its.toList) hi (x := (a : Int)) (y := (b : Int) + 1) (by exact Int.natCast_nonneg _) (by lia) (by lia)
  rw [Array.toArray_toList] at hst
  have e1 : ((a : Int)).toNat = a := by lia
  have e2 : ((b : Int) + 1 - a).toNat = b + 1 - a := by lia
  rw [e1, e2] at hst
  generalize slicePick its _ _ none = st at hst ⊢
  obtain ⟨D, h₃, eD, eh₃, j₃, mv₃, _, _⟩ := J.pushK j₂ (lstO st 0) rfl
  dsimp only
  rw [← eD, ← eh₃]
  replace j₃ := j₃.sub (List.Sublist.cons_cons _ (List.nil_sublist _) : [(D, lstO st 0)].Sublist _)
  refine j_storeK (s := { s with heap := h₃, toks := _ }) j₃ fun h₄ t₄ j₄ mv₄ => ?_
  dsimp only
  have hl₄ : h₄.IsList D st := ⟨_, j₄.get (.head _), rfl, _, rfl⟩
  have hlen : (st.size : Int) = (((sizes.drop a).take (b + 1 - a)).length : Int) := by have := hst.length; rw [Array.length_toList] at this; lia
  have hlb : ((sizes.drop a).take (b + 1 - a)).length ≤ 6 := by rw [List.length_take, List.length_drop]; omega
  refine wpAny_execs_cons (wpAny_Return_some (BoolOp_or (wpAny_Compare1 (Call_ ?_))))
  refine j_builtin (s := { s with heap := h₄, toks := t₄ }) G j₄ GM.len boot_len ?_
  refine callWith_method1 (first := []) (args_cons (j_local (s := { s with heap := h₄, toks := t₄ }) j₄ rfl (args_nil ?_)))
  refine PyProof.Rows.len_list (s := { s with heap := h₄, toks := t₄ }) hl₄ (by lia) ?_
  refine wpAny_Constant_int (PySem.P.eq_int (wpAny_truthy_bool ?_))
  rw [hlen]
  by_cases h1 : ((sizes.drop a).take (b + 1 - a)).length = 1
  · rw [show ((((sizes.drop a).take (b + 1 - a)).length : Int) == 1) = true by rw [h1]; rfl, if_pos rfl]
    have := hR h₄ (t₄ + 1 + 1 + 1) j₄.mv
    rw [show fitsB sizes width a b = true by unfold fitsB; rw [h1]; rfl] at this
    exact this
  · rw [show ((((sizes.drop a).take (b + 1 - a)).length : Int) == 1) = false by rw [beq_eq_false_iff_ne]; (clear hlb hlen eD e2 e1 hsz ea₂ hb6 hab hn; lia), if_neg (by decide)]
    refine BoolOp_one (wpAny_Compare1 (wpAny_BinOp (Call_ ?_)))
    refine j_builtin (s := { s with heap := h₄, toks := _ }) G j₄ GM.sum boot_sum ?_
    refine callWith_method1 (first := []) (args_cons (j_local (s := { s with heap := h₄, toks := _ }) j₄ rfl (args_nil ?_)))
    refine g_sum (s := { s with heap := h₄, toks := _ }) rr.h hl₄ hst fun h₅ t₅ t₅' k₅ => ?_
    obtain ⟨j₅, mv₅⟩ := j₄.keepsL k₅
    refine Call_ ?_
    refine j_builtin (s := { s with heap := h₅, toks := t₅ }) G j₅ GM.len boot_len ?_
    refine callWith_method1 (first := []) (args_cons (j_local (s := { s with heap := h₅, toks := t₅ }) j₅ rfl (args_nil ?_)))
    refine PyProof.Rows.len_list (s := { s with heap := h₅, toks := t₅ }) (items := st) ⟨_, j₅.get (.head _), rfl, _, rfl⟩ (by lia) ?_
    rw [hlen]
    refine PySem.P.add_int ?_
    refine j_local (s := { s with heap := h₅, toks := _ }) j₅ rfl ?_
    refine PySem.P.le_int ?_
    have := hR h₅ (t₅ + 1 + 1 + 1) j₅.mv
    rw [show fitsB sizes width a b = decide (((sizes.drop a).take (b + 1 - a)).sum + (((sizes.drop a).take (b + 1 - a)).length : Int) ≤ width) by
      unfold fitsB
      rw [show (((sizes.drop a).take (b + 1 - a)).length == 1) = false from by rw [beq_eq_false_iff_ne]; exact h1]
      rfl] at this
    exact this
end
end Mine
end
noncomputable section
open PySem PySem.W PySem.Calls PyProof.Rows Builtin Builtin.ObjectAttr
namespace Mine
def brkF (p : Nat) : Str := match p % 3 with | 0 => "\n" | 1 => "\r" | _ => "\r\n"
def rowF (p : Nat) : Str := ((".x: " : Str) ++ ⟨#[97 + p]⟩) ++ brkF p
def nestStep (ps : List (Str × Str)) (c p : Nat) : List (Str × Str) := (rowF p, quoteF (ptext (ps.drop (ps.length - c)))) :: ps.take (ps.length - c)
structure Fn (K : Frag) (mg : Str → Option Value) : Prop where
  nested : FnAt K 363 (topSt 18) "_law_nested" [] .none 362
  gA : mg "_Accumulator" = some (.ref 195)
  kA : keepIn K (.ref 195) = true
  gQ : mg "quotedata" = some (.ref 216)
  kQ : keepIn K (.ref 216) = true
section
variable {T : Tabs} {K : Frag} {cd : ClassData} {mg mb : Str → Option Value} {w : World} {A : Around} {s : Shared} {g h₀ h h' : Heap} {W W' : List Addr} {L C : Addr} {m : Str → Option Value} {kn : List (Addr × Obj)} {R : Result → Shared → Prop} {E : Value → Shared → Prop} {prog : Program}
variable {x d : Addr}
theorem bind_init0 (X : Fx K cd) {tk' : Tok} {dd n sl} (e : K.lookup 124 = some ⟨.type "tuple", dd, .seq #[.int 0 tk'] n, sl⟩) (x : Addr) (s' : Shared) (fd : FuncData) (Y : K.In s'.heap) (h1 : fd.params = fArgs (inCls 6 0)) (h2 : fd.defaults = .ref 124) : BindsTo s' fd ⟨.ref x :: [], []⟩ [("self", .ref x), ("initial_size", .int 0 tk')] := by
  obtain ⟨a1, a2, a3, a4, a5, a6, a7, a8, a9, a10, a11, a12, a13, a14⟩ := fd
  dsimp only at h1 h2
  subst h1 h2
  exact BindsTo.of_defaults rfl (Y _ _ e) rfl rfl rfl
theorem bind_popf0 (X : Fx K cd) {s' : Shared} (Y : K.In s'.heap) (x : Addr) : ∃ tk', ∀ (fd : FuncData) (h1 : fd.params = fArgs (inCls 6 2)) (h2 : fd.defaults = .ref 140), BindsTo s' fd ⟨[.ref x], []⟩ [("self", .ref x), ("i", .int ((0 : Nat) : Int) tk')] := by
  obtain ⟨d, n, sl, tk', e⟩ := X.d140
  refine ⟨tk', fun fd h1 h2 => ?_⟩
  obtain ⟨a1, a2, a3, a4, a5, a6, a7, a8, a9, a10, a11, a12, a13, a14⟩ := fd
  dsimp only at h1 h2
  subst h1 h2
  exact BindsTo.of_defaults rfl (Y _ _ e) rfl rfl rfl
theorem brk_at (p : Nat) (t1 t2 t3 : Tok) : (0 : Int) ≤ (p : Int).fmod 3 ∧ (p : Int).fmod 3 < 2 ^ 63 ∧ ∃ t, ([Value.str "\n" t1, .str "\r" t2, .str "\r\n" t3].toArray)[((p : Int).fmod 3).toNat]? = some (.str (brkF p) t) := by
  have e : (p : Int).fmod 3 = ((p % 3 : Nat) : Int) := by rw [Int.fmod_eq_emod_of_nonneg _ (by decide)]; lia
  rw [e, Int.toNat_natCast]
  have h3 : p % 3 = 0 ∨ p % 3 = 1 ∨ p % 3 = 2 := by lia
  refine ⟨by exact Int.natCast_nonneg _, by lia, ?_⟩
  unfold brkF
  rcases h3 with h | h | h <;> rw [h] <;> exact ⟨_, rfl⟩
theorem brk_len (p : Nat) : (brkF p).length ≤ 2 := by
  unfold brkF
  split <;> decide +kernel
theorem abc_at {p : Nat} (hp : p < 6) : ((seqIndex? (p : Int) ("abcdef" : Str).length).bind fun x => ("abcdef" : Str).cps[x]?) = some (97 + p) := by
  have : ∀ p, p < 6 → ((seqIndex? ((p : Nat) : Int) ("abcdef" : Str).length).bind fun x => ("abcdef" : Str).cps[x]?) = some (97 + p) := by decide +kernel
  exact this p hp
theorem Acc.none_ne {a b : Addr} {o : Obj} {h : Heap} (e : h.get? a = some o) (n : h.get? b = none) : a ≠ b := fun q => by rw [q, n] at e; cases e
abbrev nestEnv (L c : Addr) : Env := envX "_law_nested" (fScope (topSt 18)) L 363 (.ref 362) [("ends", c)]
abbrev nestBody : List Stmt := forBody (stAt (fBody (topSt 18)) 2)
set_option maxHeartbeats 4000000 in
theorem nest_turn {c hl : Addr} {hits : Array Value} {hep : Nat} {hangs : List Int} {ps : List (Str × Str)} {p : Nat} {tp : Tok} {Qf : Flow → Shared → Prop} (FN : Fn K mg) (FQ : Fq K mg) (X : Fx K cd) (X2 : Fx2 K) (G : Gb T K mg mb g) (GM : Gm mg) (r : Rm A 8) (hT : (161, 157) ∈ T) (hT2 : (168, 164) ∈ T)
   (hp : p < 6) (hc : hangs.count (p : Int) ≤ ps.length) (hz : Small ps) (hz9 : ps.length ≤ 900) (hq : (ptext (ps.drop (ps.length - hangs.count (p : Int)))).cps.size ≤ 100000)
   (j : J T g [] h₀ L s.heap m kn) (hm1 : m "line" = some (.ref x)) (hm2 : m "hangs" = some (.ref hl)) (hm3 : m "place" = some (.int p tp))
   (a : Acc w s.heap x d ps 0) (nx : h₀.get? x = none) (nd : h₀.get? d = none) (gx : g.objs.size ≤ x) (gd : g.objs.size ≤ d) (xL : x ≠ L) (dL : d ≠ L) (hkn : ∀ q ∈ kn, q.1 ≠ x ∧ q.1 ≠ d)
   (hhl : s.heap.get? hl = some (lstO hits hep)) (hi : IntsAre hits.toList hangs) (hhL : hl ≠ L) (hhx : hl ≠ x) (hhd : hl ≠ d)
   (hQ : ∀ s' m', J T g [] h₀ L s'.heap m' kn → Ok s s' → m' "line" = some (.ref x) → m' "hangs" = some (.ref hl) → Acc w s'.heap x d (nestStep ps (hangs.count (p : Int)) p) 0 → s'.heap.get? hl = some (lstO hits hep) → Qf .next s') :
   wpAny (model PR w) A (execs nestBody (nestEnv L c)) Qf (fun _ _ => False) s := by
  obtain ⟨d0, n0, sl0, tk0, e124⟩ := X.d124
  refine xc fun _ hn => wpAny_Assign_Name (vc fun _ hv => Call_ ?_)
  refine j_global G j FN.gA ?_
  refine j_callWith0 G j.mv.st FN.kA (wpAny_call ?_)
  refine acc_new (rest := []) (n := 0) (tk := tk0) G X X2.makes j.mv.st (r.mono (by decide)) (fun x s' fd Y a b => bind_init0 X e124 x s' fd Y a b) fun y e h₁ t₁ mv₁ b₁ ny ne gy ge => ?_
  have j₁ := j.call0 mv₁
  have a₁ := a.mv j.mv.st mv₁ (by exact ni0) (by exact ni0)
  have hhl₁ := mv₁.keep _ _ hhl (j.mv.st.notTab hhl (by nofun)) (.inl (by exact ni0))
  refine hv _ _ ?_
  refine j_storeK (s := { s with heap := h₁, toks := t₁ }) j₁ fun h₂ t₂ j₂ mv₂ => ?_
  refine hn { s with heap := h₂, toks := t₂ } ?_
  obtain ⟨oL, _, _, eL, _⟩ := j.ns
  obtain ⟨ix, epx, hx0⟩ := a.o
  obtain ⟨tkd, tnd, hd0⟩ := a.d
  have yL : y ≠ L := (Acc.none_ne eL ny).symm
  have eL' : e ≠ L := (Acc.none_ne eL ne).symm
  have xy : x ≠ y := Acc.none_ne hx0 ny
  have xe : x ≠ e := Acc.none_ne hx0 ne
  have dy : d ≠ y := Acc.none_ne hd0 ny
  have de : d ≠ e := Acc.none_ne hd0 ne
  have hy : hl ≠ y := Acc.none_ne hhl ny
  have he : hl ≠ e := Acc.none_ne hhl ne
  have ny0 : h₀.get? y = none := none_back j.mv ny
  have ne0 : h₀.get? e = none := none_back j.mv ne
  have kny : ∀ q ∈ kn, q.1 ≠ y ∧ q.1 ≠ e := fun q hq => ⟨Acc.none_ne (j.has q hq).1 ny, Acc.none_ne (j.has q hq).1 ne⟩
  have a₂ := a₁.mv j₁.mv.st mv₂ (by exact ni1 xL) (by exact ni1 dL)
  have b₂ := b₁.mv j₁.mv.st mv₂ (by exact ni1 yL) (by exact ni1 eL')
  have hhl₂ := mv₂.keep _ _ hhl₁ (j₁.mv.st.notTab hhl₁ (by nofun)) (.inl (by exact ni1 hhL))
  refine xc fun _ hn => wpAny_Expr (MethodCall_ ?_)
  refine j_local (s := { s with heap := h₂, toks := t₂ }) j₂ (v := .ref y) (by rw [if_pos rfl]) ?_
  refine acc_meth (s := { s with heap := h₂, toks := t₂ }) G X j₂.mv.st b₂ X.fReset (X.keep 177 (by decide)).2 ?_
  refine j_callWith (X.keep 177 (by decide)).1 (args_cons (vc fun _ hv2 => MethodCall_ ?_))
  have ml : ∀ {z : Str} {v : Value}, m z = some v → z ≠ "inner" → (fun z => if z = ("inner" : Str) then some (Value.ref y) else m z) z = some v := fun h1 h2 => by dsimp only; rw [if_neg h2]; exact h1
  refine j_local (s := { s with heap := h₂, toks := t₂ }) j₂ (ml hm1 (by decide)) ?_
  refine acc_meth (s := { s with heap := h₂, toks := t₂ }) G X j₂.mv.st a₂ X.fPopf (X.keep 147 (by decide)).2 ?_
  refine j_callWith (X.keep 147 (by decide)).1 (args_cons (vc fun _ hv3 => wpAny_BinOp (vc fun _ hv4 => MethodCall_ ?_)))
  refine j_local (s := { s with heap := h₂, toks := t₂ }) j₂ (ml hm1 (by decide)) ?_
  refine acc_meth (s := { s with heap := h₂, toks := t₂ }) G X j₂.mv.st a₂ X.fCount (X.keep 192 (by decide)).2 ?_
  refine j_callWith0 (s := { s with heap := h₂, toks := t₂ }) G j₂.mv.st (X.keep 192 (by decide)).1 (wpAny_call ?_)
  refine count_acc (s := { s with heap := h₂, toks := t₂ }) G X j₂.mv.st (r.mono (by decide)) a₂ fun h₃ tk₃ t₃ mv₃ => ?_
  have j₃ := j₂.call0 mv₃
  have a₃ := a₂.mv j₂.mv.st mv₃ (by exact ni0) (by exact ni0)
  have b₃ := b₂.mv j₂.mv.st mv₃ (by exact ni0) (by exact ni0)
  have hhl₃ := mv₃.keep _ _ hhl₂ (j₂.mv.st.notTab hhl₂ (by nofun)) (.inl (by exact ni0))
  refine hv4 _ { s with heap := h₃, toks := t₃ } ?_
  refine vc fun _ hv5 => MethodCall_ ?_
  refine j_local (s := { s with heap := h₃, toks := t₃ }) j₃ (ml hm2 (by decide)) ?_
  refine PyProof.Rows.getMethod_list_of (s := { s with heap := h₃, toks := t₃ }) PySem.F.slot_list_count PySem.F.type_list_count (items := hits) ⟨_, hhl₃, rfl, _, rfl⟩ ⟨_, hhl₃, rfl⟩ ?_
  refine callWith_method1 (args_cons ?_)
  refine j_local (s := { s with heap := h₃, toks := t₃ }) j₃ (ml hm3 (by decide)) (args_nil ?_)
  refine PyProof.Rows.count_list_ints (s := { s with heap := h₃, toks := t₃ }) (vs := hits.toList) (ns := hangs) ⟨_, hhl₃, rfl, _, by rw [Array.toArray_toList]⟩ hi ?_
  refine hv5 _ _ ?_
  refine PySem.P.sub_int ?_
  rw [show (ps.length : Int) - (hangs.count (p : Int) : Nat) = ((ps.length - hangs.count (p : Int) : Nat) : Int) by lia]
  refine hv3 _ { s with heap := h₃, toks := t₃ + 1 + 1 } ?_
  refine args_nil ⟨j₃.mv.st.In G, wpAny_call ?_⟩
  generalize hk : ps.length - hangs.count (p : Int) = k at *
  refine popf_spec (s := { s with heap := h₃, toks := _ }) (k := k) G X j₃.mv.st (r.mono (by decide)) a₃ gx hz.2 (bind_popf1 X (j₃.mv.st.In G) _ _ _) fun lr h₄ t₄ mv₄ a₄ pl₄ nl₄ gl₄ => ?_
  have lrL : lr ≠ L := fun q => by obtain ⟨_, _, _, e', _⟩ := j₃.ns; rw [← q, nl₄] at e'; cases e'
  have j₄ := j₃.callK mv₄ (by exact ni1 xL.symm) (by exact al1 (.inr nx)) (fun q hq => by exact ni1 (hkn q hq).1)
  have b₄ := b₃.mv j₃.mv.st mv₄ (by exact ni1 xy.symm) (by exact ni1 xe.symm)
  have hhl₄ := mv₄.keep _ _ hhl₃ (j₃.mv.st.notTab hhl₃ (by nofun)) (.inl (by exact ni1 hhx))
  refine hv2 _ { s with heap := h₄, toks := t₄ } ?_
  refine args_nil ⟨j₄.mv.st.In G, wpAny_call ?_⟩
  refine reset_spec (s := { s with heap := h₄, toks := t₄ }) (v := .ref lr) G X j₄.mv.st (r.mono (by decide)) b₄ gy ge (by simp) (by rw [List.length_drop]; have := hz.2; (clear this lrL gl₄ hq hk he hy de dy xe xy eL' yL ge gy hhd hhx hhL dL xL gd gx hc hp; lia)) (.inr ⟨lr, rfl, pl₄, gl₄⟩) (bind_reset1 X (j₄.mv.st.In G) y lr) fun h₅ t₅ mv₅ b₅ => ?_
  have j₅ := j₄.callK mv₅ (by exact ni2 yL.symm eL'.symm) (by exact al2 (.inr ny0) (.inr ne0)) (fun q hq => by exact ni2 (kny q hq).1 (kny q hq).2)
  have a₅ := a₄.mv j₄.mv.st mv₅ (by exact ni2 xy xe) (by exact ni2 dy de)
  have hhl₅ := mv₅.keep _ _ hhl₄ (j₄.mv.st.notTab hhl₄ (by nofun)) (.inl (by exact ni2 hy he))
  refine hn { s with heap := h₅, toks := t₅ } ?_
  refine xc fun _ hn => wpAny_Assign_Name (vc fun _ hv => wpAny_BinOp (vc fun _ hv2 => wpAny_BinOp ?_))
  refine Constant_str ?_
  refine Subscript_ ?_
  refine Constant_str ?_
  refine j_local (s := { s with heap := h₅, toks := t₅ + 1 + 1 }) j₅ (ml hm3 (by decide)) ?_
  refine subTail_builtin (T := "str") (typeIs_str _ _ _) PySem.F.slot_str_getitem.lookup (PySem.P.getItem_str (c := 97 + p) (by simp; lia) (abc_at hp) ?_) (.inl rfl)
  refine PyProof.Rows.add_str (fun t₆' t₆ => ?_) (by rw [show (".x: " : Str).length = 4 by decide +kernel, sizeLine_eq]; show 4 + 1 ≤ _; exact Nat.le_add_left _ _)
  refine hv2 _ _ ?_
  refine vc fun _ hv3 => Subscript_ ?_
  refine List_ (args_cons (Constant_str (args_cons (Constant_str (args_cons (Constant_str (args_nil ?_)))))))
  refine j_newListK (s := { s with heap := h₅, toks := _ }) j₅ (fun rl h₆ j₆ mv₆ nrl => ?_)
  have hrl := j₆.get (.head _)
  replace j₆ := j₆.sub (List.sublist_cons_self _ _)
  have a₆ := a₅.mv j₅.mv.st mv₆ (by exact ni0) (by exact ni0)
  have b₆ := b₅.mv j₅.mv.st mv₆ (by exact ni0) (by exact ni0)
  have hhl₆ := mv₆.keep _ _ hhl₅ (j₅.mv.st.notTab hhl₅ (by nofun)) (.inl (by exact ni0))
  refine wpAny_BinOp (j_local (s := { s with heap := h₆, toks := _ }) j₆ (ml hm3 (by decide)) ?_)
  refine wpAny_Constant_int (PyProof.Rows.mod_int (by decide) ?_)
  have hbr := brk_at p (t₆) (t₆ + 1) (t₆ + 1 + 1)
  obtain ⟨q1, q2, t₇, q3⟩ := hbr
  have mv₆' : Mv T g [] h₅ h₆ := mv₆
  refine subTail_builtin (T := "list") ⟨_, hrl, rfl⟩ list_getitem_lookup (wpAny_getItem_list ⟨_, hrl, rfl, _, rfl⟩ q1 q2 q3 ?_) (.inl rfl)
  refine hv3 _ _ ?_
  refine PyProof.Rows.add_str (fun t₈' t₈ => ?_) (by
    have := brk_len p
    rw [Str.length_append, show (".x: " : Str).length = 4 by decide +kernel, sizeLine_eq]
    show 4 + 1 + _ ≤ _; lia)
  refine hv _ { s with heap := h₆, toks := t₈ } ?_
  refine j_storeK (s := { s with heap := h₆, toks := t₈ }) j₆ fun h₇ t₉ j₇ mv₇ => ?_
  have a₇ := a₆.mv j₆.mv.st mv₇ (by exact ni1 xL) (by exact ni1 dL)
  have b₇ := b₆.mv j₆.mv.st mv₇ (by exact ni1 yL) (by exact ni1 eL')
  have hhl₇ := mv₇.keep _ _ hhl₆ (j₆.mv.st.notTab hhl₆ (by nofun)) (.inl (by exact ni1 hhL))
  refine hn { s with heap := h₇, toks := t₉ } ?_
  refine xc fun _ hn => wpAny_Expr (MethodCall_ ?_)
  have ml2 : ∀ {z : Str} {v : Value}, m z = some v → z ≠ "inner" → z ≠ "row" → (if z = ("row" : Str) then some (Value.str (rowF p) t₈') else if z = ("inner" : Str) then some (Value.ref y) else m z) = some v := fun h1 h2 h3 => by rw [if_neg h3, if_neg h2]; exact h1
  refine j_local (s := { s with heap := h₇, toks := t₉ }) j₇ (ml2 hm1 (by decide) (by decide)) ?_
  refine acc_meth (s := { s with heap := h₇, toks := t₉ }) G X j₇.mv.st a₇ X.fReset (X.keep 177 (by decide)).2 ?_
  refine j_callWith (X.keep 177 (by decide)).1 (args_cons (vc fun _ hv => wpAny_BinOp (vc fun _ hv2 => List_ (args_cons (vc fun _ hv3 => Tuple_ (args_cons ?_))))))
  refine j_local (s := { s with heap := h₇, toks := t₉ }) j₇ (v := .str (rowF p) t₈') (by rw [if_pos rfl]; rfl) (args_cons (vc fun _ hv4 => Call_ ?_))
  refine j_global (s := { s with heap := h₇, toks := t₉ }) G j₇ FN.gQ ?_
  refine j_callWith FN.kQ (args_cons (vc fun _ hv5 => Call_ ?_))
  refine j_builtin (s := { s with heap := h₇, toks := t₉ }) G j₇ GM.str boot_str ?_
  refine PyProof.Rows.callWith_type1 (args_cons ?_)
  refine j_local (s := { s with heap := h₇, toks := t₉ }) j₇ (v := .ref y) (by rw [if_neg (by decide), if_pos rfl]) (args_nil ?_)
  have zd : Small (ps.drop k) := by
    have : Small (ps.take k ++ ps.drop k) := by rw [List.take_append_drop]; exact hz
    obtain ⟨a1, a2⟩ := this
    rw [List.map_append, List.sum_append] at a1
    rw [List.length_append] at a2
    exact ⟨by lia, by lia⟩
  refine a_strcall (s := { s with heap := h₇, toks := t₉ }) G X GM j₇.mv.st (r.mono (by decide)) hT2 b₇ zd fun s₈ t₁₀ mv₈ ok₈ => ?_
  have j₈ : J T g [] h₀ L s₈.heap _ kn := j₇.call0 mv₈
  have a₈ := a₇.mv j₇.mv.st mv₈ (by exact ni0) (by exact ni0)
  have hhl₈ := mv₈.keep _ _ hhl₇ (j₇.mv.st.notTab hhl₇ (by nofun)) (.inl (by exact ni0))
  refine hv5 _ _ ?_
  refine args_nil ⟨j₈.mv.st.In G, wpAny_call ?_⟩
  refine quote_spec FQ G j₈.mv.st (r.mono (by decide)) hq fun s₉ t₁₁ mv₉ ok₉ => ?_
  have j₉ : J T g [] h₀ L s₉.heap _ kn := j₈.call0 mv₉
  have a₉ := a₈.mv j₈.mv.st mv₉ (by exact ni0) (by exact ni0)
  have hhl₉ := mv₉.keep _ _ hhl₈ (j₈.mv.st.notTab hhl₈ (by nofun)) (.inl (by exact ni0))
  refine hv4 _ _ ?_
  refine args_nil ?_
  refine j_newTupleK (s := s₉) j₉ (fun tt h₁₀ j₁₀ mv₁₀ => hv3 _ { s₉ with heap := h₁₀ } ?_)
  refine args_nil ?_
  have htt₁₀ := j₁₀.get (.head _)
  replace j₁₀ := j₁₀.sub (List.sublist_cons_self _ _)
  have a₁₀ := a₉.mv j₉.mv.st mv₁₀ (by exact ni0) (by exact ni0)
  have hhl₁₀ := mv₁₀.keep _ _ hhl₉ (j₉.mv.st.notTab hhl₉ (by nofun)) (.inl (by exact ni0))
  refine j_newListK (s := { s₉ with heap := h₁₀ }) j₁₀ (fun ll h₁₁ j₁₁ mv₁₁ nll => ?_)
  have hll₁₁ := j₁₁.get (.head _)
  have a₁₁ := a₁₀.mv j₁₀.mv.st mv₁₁ (by exact ni0) (by exact ni0)
  have htt₁₁ := mv₁₁.keep _ _ htt₁₀ (j₁₀.mv.st.notTab htt₁₀ (by nofun)) (.inl (by exact ni0))
  have hhl₁₁ := mv₁₁.keep _ _ hhl₁₀ (j₁₀.mv.st.notTab hhl₁₀ (by nofun)) (.inl (by exact ni0))
  have hllx : ll ≠ x ∧ ll ≠ d := by
    obtain ⟨ix', epx', hx'⟩ := a₁₁.o
    obtain ⟨tkd', tnd', hd'⟩ := a₁₁.d
    refine ⟨fun q => ?_, fun q => ?_⟩
    · rw [q, hx'] at hll₁₁; simp at hll₁₁
    · rw [q, hd'] at hll₁₁
      have := congrArg Obj.data (Option.some.inj hll₁₁)
      simp at this
  refine hv2 _ { s₉ with heap := h₁₁ } ?_
  refine vc fun _ hv3 => MethodCall_ ?_
  refine j_local (s := { s₉ with heap := h₁₁ }) j₁₁ (ml2 hm1 (by decide) (by decide)) ?_
  refine acc_meth (s := { s₉ with heap := h₁₁ }) G X j₁₁.mv.st a₁₁ X.fPopf (X.keep 147 (by decide)).2 ?_
  refine j_callWith0 (s := { s₉ with heap := h₁₁ }) G j₁₁.mv.st (X.keep 147 (by decide)).1 (wpAny_call ?_)
  obtain ⟨tkp, hbp⟩ := bind_popf0 X (s' := { s₉ with heap := h₁₁ }) (j₁₁.mv.st.In G) x
  refine popf_spec (s := { s₉ with heap := h₁₁ }) (k := 0) G X j₁₁.mv.st (r.mono (by decide)) a₁₁ gx (by rw [List.length_take]; have := hz.2; (clear this hllx q2 q1 lrL gl₄ hq hk he hy de dy xe xy eL' yL ge gy hhd hhx hhL dL xL gd gx hc hp; lia)) hbp fun l2 h₁₂ t₁₂ mv₁₂ a₁₂ pl₁₂ nl₁₂ gl₁₂ => ?_
  rw [List.take_zero] at a₁₂
  rw [List.drop_zero] at pl₁₂
  have j₁₂ := j₁₁.callK mv₁₂ (by exact ni1 xL.symm) (by exact al1 (.inr nx)) (fun q hq => by
    rcases List.mem_cons.mp hq with rfl | hq
    · exact ni1 hllx.1
    · exact ni1 (hkn q hq).1)
  have htt₁₂ := mv₁₂.keep _ _ htt₁₁ (j₁₁.mv.st.notTab htt₁₁ (by nofun)) (.inr ⟨rfl, _, _, rfl⟩)
  have hll₁₂ := j₁₂.get (.head _)
  have hhl₁₂ := mv₁₂.keep _ _ hhl₁₁ (j₁₁.mv.st.notTab hhl₁₁ (by nofun)) (.inl (by exact ni1 hhx))
  obtain ⟨its2, ep2, e2, p2⟩ := pl₁₂
  have hl2 : its2.size ≤ 1000 := by
    have := p2.len
    rw [Array.length_toList, List.length_take] at this
    have := hz.2; omega
  refine hv3 _ _ ?_
  refine PySem.P.add_list (s := { s₉ with heap := h₁₂, toks := t₁₂ }) (l := ll) (b := l2) (items := #[.ref tt]) (items2 := its2) (n := 0) (n2 := ep2) hll₁₂ e2 ?_ (by rw [sizeLine_eq]; show 1 + its2.size ≤ _; lia)
  obtain ⟨nl, h₁₃, enl, eh₁₃, j₁₃, mv₁₃, nnl, nnl'⟩ := J.pushK j₁₂ (lstO (#[.ref tt] ++ its2) 0) rfl
  rw [← enl, ← eh₁₃]
  have a₁₃ := a₁₂.mv j₁₂.mv.st mv₁₃ (by exact ni0) (by exact ni0)
  have hhl₁₃ := mv₁₃.keep _ _ hhl₁₂ (j₁₂.mv.st.notTab hhl₁₂ (by nofun)) (.inl (by exact ni0))
  have p13 : PLst h₁₃ nl (nestStep ps (hangs.count (p : Int)) p) := by
    refine ⟨_, _, j₁₃.get (.head _), ?_⟩
    have e : nestStep ps (hangs.count (p : Int)) p = (rowF p, quoteF (ptext (ps.drop k))) :: ps.take k := by unfold nestStep; rw [hk]
    rw [e, Array.toList_append]
    refine All2.cons ⟨tt, t₈', t₁₁, rfl, mv₁₃.keep _ _ htt₁₂ (j₁₂.mv.st.notTab htt₁₂ (by nofun)) (.inl (by exact ni0))⟩ ?_
    exact p2.mv j₁₂.mv.st mv₁₃
  have gnl := (j₁₃.has _ (.head _)).2.2.2
  refine hv _ { s₉ with heap := h₁₃, toks := t₁₂ } ?_
  refine args_nil ⟨j₁₃.mv.st.In G, wpAny_call ?_⟩
  have nsl : (nestStep ps (hangs.count (p : Int)) p).length ≤ 1000 := by
    have := p13
    obtain ⟨_, _, e', p'⟩ := this
    rw [← p'.len]
    rw [j₁₃.get (.head _)] at e'
    cases e'
    rw [Array.toList_append, List.length_append]
    have : its2.toList.length = (ps.take k).length := p2.len
    rw [List.length_take] at this
    show 1 + its2.toList.length ≤ _
    (clear gnl enl hl2 gl₁₂ hllx q2 q1 lrL gl₄ hq hk he hy de dy xe xy eL' yL ge gy hhd hhx hhL dL xL gd gx hc hp; lia)
  refine reset_spec (s := { s₉ with heap := h₁₃, toks := t₁₂ }) (v := .ref nl) G X j₁₃.mv.st (r.mono (by decide)) a₁₃ gx gd (by simp) nsl (.inr ⟨nl, rfl, p13, gnl⟩) (bind_reset1 X (j₁₃.mv.st.In G) x nl) fun h₁₄ t₁₄ mv₁₄ a₁₄ => ?_
  have j₁₄ := (j₁₃.sub ((List.sublist_cons_self _ _).trans (List.sublist_cons_self _ _) : kn.Sublist _)).callK mv₁₄ (by exact ni2 xL.symm dL.symm) (by exact al2 (.inr nx) (.inr nd)) (fun q hq => by exact ni2 (hkn q hq).1 (hkn q hq).2)
  have hhl₁₄ := mv₁₄.keep _ _ hhl₁₃ (j₁₃.mv.st.notTab hhl₁₃ (by nofun)) (.inl (by exact ni2 hhx hhd))
  refine hn { s₉ with heap := h₁₄, toks := t₁₄ } ?_
  refine wpAny_execs_nil ?_
  exact hQ { s₉ with heap := h₁₄, toks := t₁₄ } _ j₁₄ ⟨ok₉.1.trans ok₈.1, fun ab => ok₉.2 (ok₈.2 ab)⟩ (ml2 hm1 (by decide) (by decide)) (ml2 hm2 (by decide) (by decide)) a₁₄ hhl₁₄
end
end Mine
end
noncomputable section
open PySem PySem.W PySem.Calls PyProof.Rows Builtin Builtin.ObjectAttr
namespace Mine
section
variable {T : Tabs} {K : Frag} {cd : ClassData} {mg mb : Str → Option Value} {w : World} {A : Around} {s : Shared} {g h₀ h h' : Heap} {W W' : List Addr} {L C : Addr} {m : Str → Option Value} {kn : List (Addr × Obj)} {R : Result → Shared → Prop} {E : Value → Shared → Prop} {prog : Program}
theorem comp_loopC {env : Env} {I D c : Addr} {fp wr : List Addr} {n : Nat} {P : Nat → Value → Prop} {S : Nat → Heap → Prop} {elt iter : Expr} {x : Str} {px : Pos} {scope : Scope} {pos : Pos}
    (Wk : Walks prog w A I fp wr n P S) (F : Nat → Value → Prop) (s₀ : Shared)
    (hw : ∀ b ∈ wr, h₀.get? b = none) (hL : env.locals ∉ fp) (hD : h₀.get? D = none) (hDf : D ∉ fp) (hc : h₀.get? c = none) (hcf : c ∉ fp) (hfT : ∀ b ∈ fp, b ∉ T.map (·.2)) (hn : n ≤ 100000)
    (hcl : env.cells.lookup x = some c) (hk : env.scope.kind = .function) (hl : env.kindOf x = some .cell)
    (body : ∀ i (s : Shared) m v o its ep, i < n → P i v → o.data = .cell (some v) → J T g [] h₀ env.locals s.heap m [(D, lstO its ep), (c, o)] → Ok s₀ s →
      wpAny (model prog w) A (eval elt env) (fun y s₄ => F i y ∧ Mv T g [] s.heap s₄.heap ∧ Ok s s₄) (fun _ _ => False) s)
    (hR : ∀ (s : Shared) m its ep o, J T g [] h₀ env.locals s.heap m [(D, lstO its ep), (c, o)] → Paired F (List.range n) its.toList → Ok s₀ s → R (.ok .next) s) :
    ∀ (k i : Nat) (s : Shared) m (its : Array Value) ep o u, n - i = k → i ≤ n → J T g [] h₀ env.locals s.heap m [(D, lstO its ep), (c, o)] → o.data = .cell u → S i s.heap → Paired F (List.range i) its.toList → its.size ≤ i → Ok s₀ s →
    codeAny (model prog w) A (.compLoop (.ListComp elt [⟨.Name x px, iter, [], 0⟩] scope pos) 0 (.ref I) (.ref D) env) R s := by
  intro k
  have hLw : env.locals ∉ wr := fun hm => hL (Wk.sub _ hm)
  have hw' : ∀ b ∈ wr, h₀.get? b = none ∧ b ≠ env.locals := fun b hb => ⟨hw b hb, fun q => hLw (q ▸ hb)⟩
  have kw : ∀ {its ep o}, ∀ p ∈ [(D, lstO its ep), (c, o)], p.1 ∉ wr := fun p hp => by
    rcases List.mem_cons.mp hp with rfl | hp
    · exact fun hm => hDf (Wk.sub _ hm)
    · rw [List.mem_singleton.mp hp]
      exact fun hm => hcf (Wk.sub _ hm)
  induction k with
  | zero =>
    intro i s m its ep o u hk hi j ho hs hP hsz ok
    have hin : i = n := by exact de0 hk hi
    subst hin
    refine comp_turn ?_
    refine Wk.done s _ _ hs fun h' tk kp => ?_
    exact hR _ m its ep o (j.turn kp hw' kw) hP ⟨ok.1, ok.2⟩
  | succ k ih =>
    intro i s m its ep o u hk' hi j ho hs hP hsz ok
    have hin : i < n := by exact dlt hk'
    refine comp_turn ?_
    refine Wk.item i s _ _ hin hs fun v h₁ tk₁ hv hs₁ k₁ => ?_
    refine wpAny_of_eq rfl ?_
    have j₁ := j.turn k₁ hw' kw
    refine wpAny_assign_Name ?_
    refine e_storeCell (s := { s with heap := h₁, toks := tk₁ }) j₁ 1 rfl ho (.inr hc) hcl (fun h₂ o₂ ho₂ j₂ mv₂ => ?_) hk hl
    replace j₂ : J T g [] h₀ env.locals h₂ m [(D, lstO its ep), (c, o₂)] := j₂
    have cT := (j₁.has _ (.tail _ (.head _))).2.2.1
    have hs₂ : S (i + 1) h₂ := Wk.frame _ _ _ hs₁ fun b hb o e => mv₂.keep b o e (hfT b hb) (.inl (by simp; rintro rfl; exact hcf hb))
    refine wpAny_tests_nil ?_
    rw [if_pos rfl]
    refine wpAny_mono (body i { s with heap := h₂, toks := tk₁ } m v o₂ its ep hin hv ho₂ j₂ ⟨ok.1, ok.2⟩) (fun y s₄ h₄ => ?_) fun _ _ f => f
    obtain ⟨hy, mv₄, ok₄⟩ := h₄
    have j₄ := j₂.call0 mv₄
    refine wpAny_list_append_plain (items := its) ⟨ep, j₄.get (.head _)⟩ (fun h₅ hl₅ hs₅ => ?_) (by rw [sizeLine_eq]; lia)
    obtain ⟨ep₅, e₅⟩ := hl₅
    obtain ⟨j₅, mv₅⟩ := j₄.iter 0 rfl (.inr hD) (by rintro ⟨q, _⟩; simp at q) hs₅ e₅
    refine ih (i + 1) _ m (its.push y) ep₅ o₂ _ (by exact dst hk') hin j₅ ho₂ (Wk.frame _ _ _ hs₂ fun b hb o e => (hs₅.2 b fun q => hDf (q ▸ hb)).trans (mv₄.keep b o e (hfT b hb) (.inl (by exact ni0)))) ?_ (by rw [Array.size_push]; exact Nat.lt_succ_of_le hsz) ⟨ok₄.1.trans ok.1, fun a => ok₄.2 (ok.2 a)⟩
    rw [List.range_succ, Array.toList_push]
    exact Paired.snoc hP hy
end
end Mine
end
noncomputable section
open PySem PySem.W PySem.Calls PyProof.Rows Builtin Builtin.ObjectAttr
namespace Mine
section
variable {T : Tabs} {K : Frag} {cd : ClassData} {mg mb : Str → Option Value} {w : World} {A : Around} {s : Shared} {g h₀ h h' : Heap} {W W' : List Addr} {L C : Addr} {m : Str → Option Value} {kn : List (Addr × Obj)} {R : Result → Shared → Prop} {E : Value → Shared → Prop} {prog : Program}
theorem newEnv_cell {M : Model} {scope : Scope} {globals : Addr} {cl : List (Str × Addr)} {qual : Str} {env : Env} {x : Str} {Q : Env → Shared → Prop}
    (hc : ∀ n, cellsFrom n scope.names cl = (x, n) :: cl) (hp : ∀ h : Heap, pushCells h scope.names = h.push { cls := .type "cell", data := .cell none })
    (hQ : Q { scope, locals := s.heap.objs.size, globals, cells := (x, s.heap.objs.size + 1) :: cl, qual, func := none, code := env.code, frame := env.frame, builtins := env.builtins } { s with heap := (s.heap.push { cls := .type "dict", data := .dict #[] }).push { cls := .type "cell", data := .cell none } }) :
    wpAny M A (newFunctionEnv scope globals cl [] qual none .none (some env)) Q E s := by
  simp only [newFunctionEnv, Option.isSome_some, if_true]
  refine wpAny_bind (wpAny_alloc ?_)
  refine wpAny_bind (wpAny_layCells _ (fun name kind cells => by cases hkc : kind == NameKind.cell <;> exact rfl) _ _ _ _ ?_)
  rw [show ({ s with heap := s.heap.push { cls := .type "dict", data := .dict #[] } } : Shared).heap.objs.size = s.heap.objs.size + 1 from Heap.size_push .., hc, hp]
  rw [List.forIn_nil]
  refine wpAny_bind (wpAny_pure ?_)
  exact wpAny_pure hQ
theorem comp_coreC {env : Env} {elt iter : Expr} {x : Str} {px : Pos} {scope : Scope} {cl : List (Str × Addr)} {pos : Pos} {n : Nat} {F : Nat → Value → Prop} {RR : Value → Addr → Result → Shared → Prop} {s₂ : Shared} {I : Addr} {fp wr : List Addr} {P : Nat → Value → Prop} {Sx : Nat → Heap → Prop}
    (hc : ∀ n, cellsFrom n scope.names cl = (x, n) :: cl) (hp : ∀ h : Heap, pushCells h scope.names = h.push { cls := .type "cell", data := .cell none })
    (hkind : scope.kind = .function) (hx : ∀ C, (compEnvC scope ((x, C + 1) :: cl) C env).kindOf x = some .cell) (S₀ : St T g s.heap) (hn : n ≤ 100000)
    (mv₂ : Mv T g [] s.heap s₂.heap) (ok₂ : Ok s s₂) (Wk : Walks prog w A I fp wr n P Sx) (hS : Sx 0 s₂.heap) (hfp : ∀ b ∈ fp, b < s₂.heap.objs.size ∧ b ∉ T.map (·.2)) (hw : ∀ b ∈ wr, s.heap.get? b = none)
    (body : ∀ D C i (s₃ : Shared) m v o its ep, i < n → P i v → o.data = .cell (some v) → J T g [] s.heap C s₃.heap m [(D, lstO its ep), (C + 1, o)] → Ok s s₃ →
      wpAny (model prog w) A (eval elt (compEnvC scope ((x, C + 1) :: cl) C env)) (fun y s₄ => F i y ∧ Mv T g [] s₃.heap s₄.heap ∧ Ok s₃ s₄) (fun _ _ => False) s₃)
    (hRR : ∀ D C (s' : Shared) its ep m, Mv T g [] s.heap s'.heap → Ok s s' → s'.heap.Ns C m → s.heap.get? D = none → s.heap.get? C = none → D ≠ C → g.objs.size ≤ C → g.objs.size ≤ D → s'.heap.get? D = some (lstO its ep) → Paired F (List.range n) its.toList → RR (.ref D) C (.ok .next) s') :
    wpAny (model prog w) A (newList []) (fun acc s₃ => wpAny (model prog w) A (newFunctionEnv scope env.globals cl [] env.qual none .none (some env)) (fun cenv s₄ =>
      codeAny (model prog w) A (.compStart (.ListComp elt [⟨.Name x px, iter, [], 0⟩] scope pos) 0 (.ref I) acc { cenv with scope := relabel scope env }) (RR acc cenv.locals) s₄) E s₃) E s₂ := by
  refine wpAny_newObj_type (newEnv_cell hc hp ?_)
  generalize hH2 : s₂.heap.push { cls := .type "list", dict := none, data := .seq ([] : List Value).toArray } = H2
  dsimp only
  have hC : H2.objs.size = s₂.heap.objs.size + 1 := by rw [← hH2, Heap.size_push]
  have hDC : s₂.heap.objs.size ≠ H2.objs.size := by rw [hC]; exact Nat.ne_of_lt (Nat.lt_succ_self _)
  generalize hH3 : (H2.push { cls := .type "dict", data := .dict #[] }).push { cls := .type "cell", data := .cell none } = h₁
  have up : ∀ b o, H2.get? b = some o → h₁.get? b = some o := fun b o e => hH3 ▸ Heap.get?_push_of_some _ (Heap.get?_push_of_some _ e)
  have old : ∀ b o, s₂.heap.get? b = some o → h₁.get? b = some o := fun b o e => up b o (hH2 ▸ Heap.get?_push_of_some _ e)
  have hacc : h₁.get? s₂.heap.objs.size = some (lstO #[] 0) := up _ _ (hH2 ▸ Heap.get?_push_size _ rfl)
  have hns : h₁.Ns H2.objs.size (fun _ => none) := by
    rw [← hH3]
    exact ((Heap.Ns.new H2 (.type "dict")).push _)
  have hcc : h₁.get? (H2.objs.size + 1) = some { cls := .type "cell", data := .cell none } := by
    rw [← hH3]
    have : ((H2.push { cls := .type "dict", data := .dict #[] }).push { cls := .type "cell", data := .cell none }).get? (H2.push { cls := .type "dict", data := .dict #[] }).objs.size = some { cls := .type "cell", data := .cell none } := Heap.get?_push_size _ rfl
    rwa [Heap.size_push] at this
  have fresh : ∀ a, s₂.heap.objs.size ≤ a → s₂.heap.get? a = none := fun a ha => Heap.get?_none_of_le ha
  have bk : ∀ a, s₂.heap.get? a = none → s.heap.get? a = none := fun a ha => none_back mv₂ ha
  have gD : g.objs.size ≤ s₂.heap.objs.size := mv₂.st.le
  have gC : g.objs.size ≤ H2.objs.size := by rw [hC]; exact Nat.le_succ_of_le gD
  have hCn : s.heap.get? H2.objs.size = none := bk _ (fresh _ (by rw [hC]; exact Nat.le_succ _))
  have hcn : s.heap.get? (H2.objs.size + 1) = none := bk _ (fresh _ (by rw [hC]; exact Nat.le_trans (Nat.le_succ _) (Nat.le_succ _)))
  have hDn : s.heap.get? s₂.heap.objs.size = none := bk _ (fresh _ (Nat.le_refl _))
  have noT : ∀ a, s.heap.get? a = none → a ∉ T.map (·.2) := fun a ha hm => by
    obtain ⟨q, hq, rfl⟩ := List.mem_map.mp hm
    obtain ⟨ps, ps₀, x, y, z⟩ := S₀.tab q hq
    have := y.2
    rw [ha] at this
    cases this
  have jc : J T g [] s.heap H2.objs.size h₁ (fun _ => none) [(s₂.heap.objs.size, lstO #[] 0), (H2.objs.size + 1, { cls := .type "cell", data := .cell none })] :=
    ⟨mv₂.keeps old (by obtain ⟨oL, _, _, e, _⟩ := hns; exact Nat.le_trans gC (Nat.le_of_lt (Heap.lt_size e))), hns, noT _ hCn, hCn, gC, fun q hq => by
      rcases List.mem_cons.mp hq with rfl | hq
      · exact ⟨hacc, hDC, noT _ hDn, gD⟩
      · rw [List.mem_singleton.mp hq]
        exact ⟨hcc, Nat.succ_ne_self _, noT _ hcn, Nat.le_succ_of_le gC⟩, by
      simp only [List.map_cons, List.map_nil, List.nodup_cons, List.mem_singleton, List.not_mem_nil, not_false_iff, List.nodup_nil, and_self, and_true]
      rw [hC]; exact Nat.ne_of_lt (Nat.lt_of_lt_of_le (Nat.lt_succ_self _) (Nat.le_succ _)), S₀⟩
  have hCf : H2.objs.size ∉ fp := fun hm => by have := (hfp _ hm).1; rw [hC] at this; exact absurd this (Nat.not_lt.mpr (Nat.le_succ _))
  have hcf : H2.objs.size + 1 ∉ fp := fun hm => by have := (hfp _ hm).1; rw [hC] at this; exact absurd this (Nat.not_lt.mpr (Nat.le_trans (Nat.le_succ _) (Nat.le_succ _)))
  have hDf : s₂.heap.objs.size ∉ fp := fun hm => Nat.lt_irrefl _ (hfp _ hm).1
  have hS₁ : Sx 0 h₁ := Wk.frame _ _ _ hS fun b _ o e => old b o e
  have loop : ∀ s₃ : Shared, s₃ = { s₂ with heap := h₁ } →
      codeAny (model prog w) A (.compLoop (.ListComp elt [⟨.Name x px, iter, [], 0⟩] scope pos) 0 (.ref I) (.ref s₂.heap.objs.size) (compEnvC scope ((x, H2.objs.size + 1) :: cl) H2.objs.size env))
        (RR (.ref s₂.heap.objs.size) H2.objs.size) s₃ := by
    rintro s₃ rfl
    refine comp_loopC (c := H2.objs.size + 1) (env := compEnvC scope ((x, H2.objs.size + 1) :: cl) H2.objs.size env) Wk F s hw hCf hDn hDf hcn hcf (fun b hb => (hfp b hb).2) hn (by show List.lookup x ((x, H2.objs.size + 1) :: cl) = _; rw [List.lookup_cons, beq_self_eq_true]) hkind (hx _) (fun i s₄ m v o its ep hi hv ho j₄ ok₄ => body _ _ i s₄ m v o its ep hi hv ho j₄ ok₄)
      (fun s₄ m its ep o j₄ hP ok₄ => ?_) n 0 _ _ #[] 0 _ none (by lia) (Nat.zero_le _) jc rfl hS₁ .nil (Nat.le_refl _) ok₂
    exact hRR _ _ s₄ its ep _ j₄.mv ok₄ j₄.ns hDn hCn hDC gC gD (j₄.get (.head _)) hP
  exact codeAny_compStart_list (loop _ rfl) (Wk.self 0 _ _ _ hS₁ (loop _ rfl))
end
end Mine
end
noncomputable section
open PySem PySem.W PySem.Calls PyProof.Rows Builtin Builtin.ObjectAttr
namespace Mine
section
variable {T : Tabs} {K : Frag} {cd : ClassData} {mg mb : Str → Option Value} {w : World} {A : Around} {s : Shared} {g h₀ h h' : Heap} {W W' : List Addr} {L C : Addr} {m : Str → Option Value} {kn : List (Addr × Obj)} {R : Result → Shared → Prop} {E : Value → Shared → Prop} {prog : Program}
theorem j_assignCompC {env : Env} {elt iter : Expr} {x : Str} {px : Pos} {scope : Scope} {cl : List (Str × Addr)} {pos spos py : Pos} {y : Str} {n : Nat} {F : Nat → Value → Prop} {Q : Flow → Shared → Prop}
    (j : J T g W h₀ env.locals s.heap m kn) (hn : n ≤ 100000) (hclos : closureFor scope env = pure cl)
    (hc : ∀ n, cellsFrom n scope.names cl = (x, n) :: cl) (hp : ∀ h : Heap, pushCells h scope.names = h.push { cls := .type "cell", data := .cell none })
    (hx : ∀ C, (compEnvC scope ((x, C + 1) :: cl) C env).kindOf x = some .cell)
    (hiter : wpAny (model prog w) A (eval iter env) (fun xv s₁ => wpAny (model prog w) A (pyIter xv) (fun it s₂ => Mv T g [] s.heap s₂.heap ∧ Ok s s₂ ∧ ∃ I fp wr P Sx, it = .ref I ∧ Walks prog w A I fp wr n P Sx ∧ Sx 0 s₂.heap ∧ (∀ b ∈ fp, b < s₂.heap.objs.size ∧ b ∉ T.map (·.2)) ∧ (∀ b ∈ wr, s.heap.get? b = none) ∧
      (∀ D C i (s₃ : Shared) m v o its ep, i < n → P i v → o.data = .cell (some v) → J T g [] s.heap C s₃.heap m [(D, lstO its ep), (C + 1, o)] → Ok s s₃ →
        wpAny (model prog w) A (eval elt (compEnvC scope ((x, C + 1) :: cl) C env)) (fun y s₄ => F i y ∧ Mv T g [] s₃.heap s₄.heap ∧ Ok s₃ s₄) (fun _ _ => False) s₃)) E s₁) E s)
    (hQ : ∀ (s' : Shared) D its ep, J T g W h₀ env.locals s'.heap (fun z => if z = y then some (.ref D) else m z) kn → Mv T g [env.locals] s.heap s'.heap → Ok s s' → s.heap.get? D = none → g.objs.size ≤ D → s'.heap.get? D = some (lstO its ep) → Paired F (List.range n) its.toList → Q .next s')
    (hsw : swapsWith (.ListComp elt [⟨.Name x px, iter, [], 0⟩] scope pos) (some (.Name y py)) spos.line env = pure true := by rfl) (hy : env.kindOf y = some .local := by rfl) (hek : env.scope.kind = .function := by rfl)
    (hkind : scope.kind = .function := by rfl)
    (hnames : ∀ y ∈ scope.names, y.2 = .local → scope.names.lookup y.1 = some .local := by decide)
    (hs : ∀ x, foldedSetIterable iter env x = pure x := by intro _; rfl) :
    wpAny (model prog w) A (exec (.Assign [.Name y py] (.ListComp elt [⟨.Name x px, iter, [], 0⟩] scope pos) spos) env) Q E s := by
  rw [exec_Assign_Name_used _ _ _ _ hsw]
  refine wpAny_bind (wpAny_standAt (wpAny_bind ?_))
  show wpAny _ A (do let _ ← comprehension (.ListComp elt [⟨.Name x px, iter, [], 0⟩] scope pos) scope env _ (newList []) false (eval iter env) (some (assign (.Name y py) env))) _ _ s
  refine wpAny_bind (wpAny_mono (wpAny_comprehension_free (use := some (assign (.Name y py) env)) (Q := fun _ s' => Q .next s') rfl hs hclos hkind hnames
    (wpAny_mono hiter (fun xv s₁ h₁ => wpAny_mono h₁ (fun it s₂ src => ?_) fun _ _ e => e) fun _ _ e => e)) (fun _ s' hq => wpAny_pure (wpAny_pure hq)) fun _ _ e => e)
  obtain ⟨mv₂, ok₂, I, fp, wr, P, Sx, rfl, Wk, hS, hfp, hw, hb⟩ := src
  refine comp_coreC (RR := fun acc C => compPost (model prog w) A E (some (assign (.Name y py) env)) (fun _ s' => Q .next s') acc C) hc hp hkind hx j.mv.st hn mv₂ ok₂ Wk hS hfp hw hb ?_
  intro D C s' its ep m' mv ok hns hD hC hDC gC gD eD hP
  have LC : env.locals ≠ C := by rintro e; obtain ⟨o, _, _, e', _⟩ := j.ns; rw [e, hC] at e'; cases e'
  have LD : env.locals ≠ D := by rintro e; obtain ⟨o, _, _, e', _⟩ := j.ns; rw [e, hD] at e'; cases e'
  have j' := j.call0 mv
  show wpAny _ A (assign (.Name y py) env (.ref D)) _ _ _
  refine wpAny_assign_Name ?_
  refine wpAny_storeName_local hy j'.ns (fun h₂ hn₂ hs₂ => ?_) (by rw [hek]; rfl)
  refine ⟨m', hns.sameBut hs₂ LC.symm, fun h₃ hs₃ => ?_⟩
  have jn : ∀ {b o}, s.heap.get? b = some o → b ≠ C := fun e q => by rw [q, hC] at e; cases e
  have h0C : h₀.get? C = none := none_back j.mv hC
  have j₂ := j'.store hn₂ hs₂
  have j₃ := j₂.turn (wr := [C]) (h' := h₃) (fun b o hb e => (hs₃.2 b fun q => hb (by exact mE q)).trans e) (fun b hb => by rw [List.mem_singleton.mp hb]; exact ⟨h0C, LC.symm⟩) (fun q hq hm => by
    have := (j.has q hq).1
    exact jn this (List.mem_singleton.mp hm))
  have mvL := (mv.weak (W' := [env.locals]) (by exact al0)).trans (j'.storeMv hn₂ hs₂) (fun b hb => .inl hb)
  exact hQ _ D its ep j₃ (mvL.same hs₃ hC gC) ⟨ok.1, ok.2⟩ hD gD ((hs₃.2 D hDC).trans ((hs₂.2 D LD.symm).trans eD)) hP
end
end Mine
end
noncomputable section
open PySem PySem.W PySem.Calls PyProof.Rows Builtin Builtin.ObjectAttr
namespace Mine
def hangsF (ends : List Int) : List Int := (List.range 6).map fun p => ((ends.filter fun e => decide (e ≤ ((p : Nat) : Int))).length : Int) - 1
section
variable {T : Tabs} {K : Frag} {cd : ClassData} {mg mb : Str → Option Value} {w : World} {A : Around} {s : Shared} {g h₀ h h' : Heap} {W W' : List Addr} {L C : Addr} {m : Str → Option Value} {kn : List (Addr × Obj)} {R : Result → Shared → Prop} {E : Value → Shared → Prop} {prog : Program}
theorem smallR (n : Nat) (h : n ≤ 100000) : Builtin.Range.small 0 (n : Int) 1 = true ∧ Builtin.Range.rangeSize 0 (n : Int) 1 = n := by
  have e : Builtin.Range.rangeSize 0 (n : Int) 1 = n := by unfold Builtin.Range.rangeSize; simp; (clear h; lia)
  refine ⟨?_, e⟩
  unfold Builtin.Range.small
  rw [e]
  simp [Builtin.Range.rangeFitsLong]
  (clear e; omega)
theorem e_rangeN {env : Env} {q pc pos : Pos} {kk : Nat} {n : Nat} {Q : Value → Shared → Prop} (G : Gb T K mg mb g) (GM : Gm mg) (j : J T g W h₀ L s.heap m kn) (hn : n ≤ 100000)
    (h : ∀ rg h' tk, J T g W h₀ L h' m kn → Mv T g [] s.heap h' → (∃ t u v, IsRange h' rg 0 n 1 t u v) → s.heap.get? rg = none → Q (.ref rg) { s with heap := h', toks := tk })
    (hg : env.globals = mainGlobals := by rfl) (hbi : env.builtins = builtinsNs := by rfl) (hk : env.scope.kind = .function := by rfl) (hl : env.kindOf "range" = some .globalImplicit := by rfl) :
    wpAny (model prog w) A (eval (.Call (.Name "range" q) [.Constant (.int n) kk pc] [] pos) env) Q E s := by
  refine Call_ ?_
  refine e_builtin G j.mv.st GM.range boot_range' ?_ (by decide) hg hbi hk hl (by decide)
  refine PyProof.Rows.callWith_type1 (args_cons (wpAny_Constant_int (args_nil ?_)))
  refine call_range_1 ?_
  obtain ⟨rg, h', e1, e2, j', mv', _, n'⟩ := J.pushK j { cls := .type "range", data := .fields #[.int 0 (s.toks + 1), .int n s.toks, .int 1 (s.toks + 1 + 1)] } rfl
  show Q (.ref s.heap.objs.size) { s with heap := s.heap.push _, toks := _ }
  rw [← e1]
  have := h rg h' (s.toks + 1 + 1 + 1) (j'.sub (List.sublist_cons_self _ _)) mv' ⟨_, _, _, j'.get (.head _)⟩ n'
  rw [e2] at this
  exact this
end
end Mine
end
noncomputable section
open PySem PySem.W PySem.Calls PyProof.Rows Builtin Builtin.ObjectAttr
namespace Mine
section
variable {T : Tabs} {K : Frag} {cd : ClassData} {mg mb : Str → Option Value} {w : World} {A : Around} {s : Shared} {g h₀ h h' : Heap} {W W' : List Addr} {L C : Addr} {m : Str → Option Value} {kn : List (Addr × Obj)} {R : Result → Shared → Prop} {E : Value → Shared → Prop} {prog : Program}
theorem IntsAre.get' {vs : List Value} {ns : List Int} (h : IntsAre vs ns) (i : Nat) {v : Value} (e : vs[i]? = some v) : ∃ n t, ns[i]? = some n ∧ v = .int n t := by
  induction h generalizing i with
  | nil => cases e
  | cons n t _ ih =>
    cases i with
    | zero => cases e; exact ⟨n, t, rfl, rfl⟩
    | succ i => exact ih i e
theorem ints_of_paired {f : Nat → Int} {l : List Nat} {vs : List Value} (h : Paired (fun i y => ∃ t, y = .int (f i) t) l vs) : IntsAre vs (l.map f) := by
  induction h with
  | nil => exact .nil
  | cons f t ih =>
    obtain ⟨u, rfl⟩ := f
    exact .cons _ _ ih
set_option maxHeartbeats 4000000 in
theorem hangs_stmt {el c : Addr} {its : Array Value} {ep : Nat} {ends : List Int} {Qf : Flow → Shared → Prop} {oc : Obj} (GM : Gm mg) (G : Gb T K mg mb g) (r : Rm A 3)
   (j : J T g [] h₀ L s.heap m kn) (hc : (c, oc) ∈ kn) (hoc : oc.data = .cell (some (.ref el))) (hel : h₀.get? el = some (lstO its ep)) (hi : IntsAre its.toList ends) (hn : ends.length ≤ 1000)
   (hQ : ∀ (s' : Shared) D its' ep', J T g [] h₀ L s'.heap (fun z => if z = "hangs" then some (.ref D) else m z) kn → Mv T g [L] s.heap s'.heap → Ok s s' → s.heap.get? D = none → g.objs.size ≤ D → s'.heap.get? D = some (lstO its' ep') → IntsAre its'.toList (hangsF ends) → Qf .next s') :
   wpAny (model PR w) A (exec (stAt (fBody (topSt 18)) 1) (nestEnv L c)) Qf (fun _ _ => False) s := by
  have cT := (j.has _ hc).2.2.1
  refine j_assignCompC (env := nestEnv L c) (cl := [("ends", c)]) (n := 6) (F := fun i y => ∃ t, y = .int (((ends.filter fun e => decide (e ≤ ((i : Nat) : Int))).length : Int) - 1) t) j (by decide) (by rfl) (fun n => rfl) (fun h => rfl) (fun C => rfl) ?_ ?_
  · refine e_rangeN G GM j (by decide) fun rg h₁ t₁ j₁ mv₁ hr n₁ => ?_
    obtain ⟨q1, q2, q3, hr⟩ := hr
    obtain ⟨sm1, sm2⟩ := smallR 6 (by decide)
    refine wpAny_pyIter_range (s := { s with heap := h₁, toks := t₁ }) hr sm1 ?_
    rw [sm2]
    obtain ⟨I, h₂, eI, e2, j₂, mv₂, nI0, nI⟩ := J.pushK j₁ { cls := .type "range_iterator", data := .fields #[rawInt 0, rawInt ((6 : Nat) : Int), rawInt 1] } rfl
    dsimp only
    rw [← eI, ← e2]
    have hIo := j₂.get (.head _)
    have hIT := (j₂.has _ (.head _)).2.2.1
    have mv12 : Mv T g [] s.heap h₂ := mv₁.trans mv₂ (by exact al0)
    refine ⟨mv12, ⟨rfl, id⟩, I, [I], [I], _, _, rfl, Walks.range r.h I 0 1 6, ?_, fun b hb => ?_, fun b hb => ?_, ?_⟩
    · exact hIo
    · rw [List.mem_singleton.mp hb]; exact ⟨Heap.lt_size hIo, hIT⟩
    · rw [List.mem_singleton.mp hb]; exact none_back mv₁ nI
    · intro D C i s₃ m₃ v o its₃ ep₃ hi3 hv ho j₃ ok₃
      obtain ⟨tv, rfl⟩ := hv
      have ei : (0 : Int) + ((i : Nat) : Int) * 1 = (i : Int) := by lia
      rw [ei] at ho
      have hoc₃ : s₃.heap.get? c = some oc := j₃.mv.keep _ _ (j.has _ hc).1 cT (.inl (by exact ni0))
      have hel₃ : s₃.heap.get? el = some (lstO its ep) := j₃.mv.keep _ _ (j.old hel (.inl (by exact ni0))) (j.mv.st.notTab (j.old hel (.inl (by exact ni0))) (by nofun)) (.inl (by exact ni0))
      have hplace := j₃.get (.tail _ (.head _))
      have pT := (j₃.has _ (.tail _ (.head _))).2.2.1
      refine wpAny_BinOp (Call_ ?_)
      refine e_builtin G j₃.mv.st GM.len boot_len ?_
      refine callWith_method1 (first := []) (args_cons ?_)
      refine j_listComp (kn := [(D, lstO its₃ ep₃), (C + 1, o)]) (n := ends.length) (p := pickP ends fun e => decide (e ≤ (i : Int))) (F := fun _ _ _ _ => True) j₃ (by exact Nat.le_trans (by assumption) (by decide)) (by rfl) ?_ ?_
      · refine e_cell hoc₃ hoc rfl ?_
        refine src_list r.h (Mv.refl j₃.mv.st) ⟨rfl, id⟩ j₃.mv.st hel₃ rfl rfl (by have := hi.length; rw [Array.length_toList] at this; exact this) (by rfl) (by rfl) fun s₂ ok₂ => Body.one fun D' C' i' s₄ m₄ m₄' its₄ ep₄ hi4 hu j₄ mv₄ ok₄ => ?_
        obtain ⟨v', ev', rfl⟩ := hu
        obtain ⟨n', t', e1, rfl⟩ := IntsAre.get' hi i' (by rw [Array.getElem?_toList]; exact ev')
        have hpl₄ : s₄.heap.get? (C + 1) = some o := j₄.mv.keep _ _ hplace pT (.inl (by exact ni0))
        refine wpAny_isTrue_Compare1 ?_
        refine e_local j₄ (v := .int n' t') (by rw [if_pos rfl]) ?_
        refine e_cell hpl₄ ho rfl ?_
        refine PySem.P.le_int (wpAny_truthy_bool ⟨by unfold pickP; rw [e1], Mv.refl j₄.mv.st, ⟨rfl, id⟩, fun _ => ?_⟩)
        refine e_local j₄ (v := .int n' t') (by rw [if_pos rfl]) ?_
        exact ⟨trivial, Mv.refl j₄.mv.st, ⟨rfl, id⟩⟩
      · intro s₅ D' its₅ ep₅ ws j₅ mv₅ ok₅ hD gD eD hP
        refine args_nil ?_
        have hlen : its₅.size = (ends.filter fun e => decide (e ≤ (i : Int))).length := by
          have h1 := hP.length
          have h2 := (picks ends (fun e => decide (e ≤ (i : Int))) ends.length (Nat.le_refl _)).length
          rw [List.take_length] at h2
          exact (Array.length_toList (xs := its₅)).symm.trans (h1.symm.trans h2)
        have hle : (ends.filter fun e => decide (e ≤ (i : Int))).length ≤ ends.length := List.length_filter_le _ _
        refine PyProof.Rows.len_list (items := its₅) ⟨_, eD, rfl, _, rfl⟩ (by lia) ?_
        rw [hlen]
        refine wpAny_Constant_int (PySem.P.sub_int ?_)
        exact ⟨⟨_, rfl⟩, mv₅, ⟨ok₅.1, ok₅.2⟩⟩
  · intro s' D its' ep' j' mv' ok' hD gD eD hP
    refine hQ s' D its' ep' j' mv' ok' hD gD eD ?_
    exact ints_of_paired hP
end
end Mine
end
noncomputable section
open PySem PySem.W PySem.Calls PyProof.Rows Builtin Builtin.ObjectAttr
namespace Mine
def nestGo (hangs : List Int) : List Nat → List (Str × Str) → List (Str × Str)
  | [], ps => ps
  | p :: r, ps => nestGo hangs r (nestStep ps (hangs.count (p : Int)) p)
def smallB (ps : List (Str × Str)) : Bool := decide ((ps.map fun p => p.1.length + p.2.length).sum ≤ 1000000) && decide (ps.length ≤ 900)
def nestOk (hangs : List Int) : List Nat → List (Str × Str) → Bool
  | [], ps => smallB ps && decide ((ptext ps).cps.size ≤ 100000)
  | p :: r, ps => decide (p < 6) && decide (hangs.count (p : Int) ≤ ps.length) && smallB ps && decide ((ptext (ps.drop (ps.length - hangs.count (p : Int)))).cps.size ≤ 100000) && nestOk hangs r (nestStep ps (hangs.count (p : Int)) p)
theorem smallB.small {ps : List (Str × Str)} (h : smallB ps = true) : Small ps ∧ ps.length ≤ 900 := by
  unfold smallB at h
  rw [Bool.and_eq_true, decide_eq_true_eq, decide_eq_true_eq] at h
  exact ⟨⟨h.1, by lia⟩, h.2⟩
section
variable {T : Tabs} {K : Frag} {cd : ClassData} {mg mb : Str → Option Value} {w : World} {A : Around} {s : Shared} {g h₀ h h' : Heap} {W W' : List Addr} {L C : Addr} {m : Str → Option Value} {kn : List (Addr × Obj)} {R : Result → Shared → Prop} {E : Value → Shared → Prop} {prog : Program}
theorem J.add (j : J T g W h₀ L h m kn) {a : Addr} {o : Obj} (e : h.get? a = some o) (hL : a ≠ L) (hT : a ∉ T.map (·.2)) (hg : g.objs.size ≤ a) (ha : a ∉ kn.map (·.1)) : J T g W h₀ L h m ((a, o) :: kn) :=
  ⟨j.mv, j.ns, j.Lt, j.Ln, j.Lg, fun p hp => by
    rcases List.mem_cons.mp hp with rfl | hp
    · exact ⟨e, hL, hT, hg⟩
    · exact j.has p hp, by rw [List.map_cons]; exact List.nodup_cons.mpr ⟨ha, j.nd⟩, j.s0⟩
set_option maxHeartbeats 4000000 in
theorem nest_loop {x d c hl I pl : Addr} {hits pits : Array Value} {hep pep : Nat} {hangs : List Int} {places : List Nat} {px : Pos} {Rf : Result → Shared → Prop} (FN : Fn K mg) (FQ : Fq K mg) (X : Fx K cd) (X2 : Fx2 K) (G : Gb T K mg mb g) (GM : Gm mg) (r : Rm A 8) (hT : (161, 157) ∈ T) (hT2 : (168, 164) ∈ T)
   (nx : h₀.get? x = none) (nd : h₀.get? d = none) (gx : g.objs.size ≤ x) (gd : g.objs.size ≤ d) (xL : x ≠ L) (dL : d ≠ L) (hkn : ∀ q ∈ kn, q.1 ≠ x ∧ q.1 ≠ d ∧ q.1 ≠ I ∧ q.1 ≠ pl)
   (hi : IntsAre hits.toList hangs) (hhL : hl ≠ L) (hhx : hl ≠ x) (hhd : hl ≠ d) (hhI : hl ≠ I)
   (hpl : IntsAre pits.toList (List.map (fun p : Nat => (p : Int)) places)) (nI : h₀.get? I = none) (npl : h₀.get? pl = none) (IL : I ≠ L) (plL : pl ≠ L) (Ix : I ≠ x) (Id : I ≠ d) (px' : pl ≠ x) (pd : pl ≠ d) (pI : pl ≠ I) (gI : g.objs.size ≤ I) (gpl : g.objs.size ≤ pl) (IT : I ∉ T.map (·.2)) (plT : pl ∉ T.map (·.2)) (s₀ : Shared)
   (hR : ∀ s' m', J T g [] h₀ L s'.heap m' kn → Ok s₀ s' → m' "line" = some (.ref x) → Acc w s'.heap x d (nestGo hangs places []) 0 → Rf (.ok .next) s') :
   ∀ (k i : Nat) (s : Shared) (ps : List (Str × Str)) (m : Str → Option Value), places.length - i = k → i ≤ places.length → J T g [] h₀ L s.heap m kn → m "line" = some (.ref x) → m "hangs" = some (.ref hl) → Acc w s.heap x d ps 0 → s.heap.get? hl = some (lstO hits hep) →
     nestOk hangs (places.drop i) ps = true → nestGo hangs (places.drop i) ps = nestGo hangs places [] → (s.heap.IsListIter I pl i ∧ s.heap.get? pl = some (lstO pits pep)) → Ok s₀ s →
     codeAny (model PR w) A (.forLoop (.Name "place" px) (.ref I) nestBody [] (nestEnv L c)) Rf s := by
  have Tn := Turns.name (T := T) (g := g) (W := []) (h₀ := h₀) (x := "place") (px := px) (env := nestEnv L c) (Walks.list (prog := PR) (w := w) r.h I pl pI pits) (fun b hb => by rw [List.mem_singleton.mp hb]; exact nI) (fun hm => by
    rcases List.mem_cons.mp hm with q | hm
    · exact IL q.symm
    · exact plL (List.mem_singleton.mp hm).symm)
  have hps : pits.size = places.length := by have := hpl.length; rw [Array.length_toList, List.length_map] at this; exact this
  have knI : ∀ q ∈ kn, q.1 ∉ [I] := fun q hq hm => (hkn q hq).2.2.1 (List.mem_singleton.mp hm)
  intro k
  induction k with
  | zero =>
    intro i s ps m hk hi' j hm1 hm2 a hhl hok hgo hs ok
    have : i = places.length := by exact de0 hk hi'
    subst this
    refine for_done Tn (by rw [hps]; exact ⟨hs.1, ⟨_, hs.2, rfl, _, rfl⟩⟩) j knI fun h' tk j' kp => ?_
    refine hR _ m j' ⟨ok.1, ok.2⟩ hm1 ?_
    rw [← hgo, List.drop_of_length_le (Nat.le_refl _)]
    have st := j.mv.st
    obtain ⟨its, ep, tk', tn, ac, pp⟩ := a
    refine ⟨its, ep, tk', tn, ⟨kp _ _ (by exact ni1 Ix.symm) ac.o, kp _ _ (by exact ni1 Id.symm) ac.d⟩, pp.imp fun v q ip => ?_⟩
    obtain ⟨t, ta, tb, e1, e2⟩ := ip
    refine ⟨t, ta, tb, e1, kp _ _ (fun hm => ?_) e2⟩
    obtain ⟨o, eo, co, _⟩ := hs.1
    rw [List.mem_singleton.mp hm, eo] at e2
    cases e2
    simp at co
  | succ k ih =>
    intro i s ps m hk hi' j hm1 hm2 a hhl hok hgo hs ok
    have hin : i < places.length := by exact dlt hk
    rw [List.drop_eq_getElem_cons hin] at hok hgo
    unfold nestOk at hok
    replace hgo : nestGo hangs (places.drop (i + 1)) (nestStep ps (hangs.count ((places[i] : Nat) : Int)) places[i]) = nestGo hangs places [] := hgo
    simp only [Bool.and_eq_true, decide_eq_true_eq] at hok
    obtain ⟨⟨⟨⟨o1, o2⟩, o3⟩, o4⟩, o5⟩ := hok
    obtain ⟨zs, z9⟩ := smallB.small o3
    refine for_step Tn (by rw [hps]; exact hin) ⟨hs.1, ⟨_, hs.2, rfl, _, rfl⟩⟩ j knI fun h₁ t₁ m₁ hu j₁ hs₁ k₁ => ?_
    obtain ⟨v, ev, rfl⟩ := hu
    obtain ⟨n', t', e1, rfl⟩ := IntsAre.get' hpl i (by rw [Array.getElem?_toList]; exact ev)
    rw [List.getElem?_map, List.getElem?_eq_getElem hin] at e1
    cases e1
    obtain ⟨oI, eI, cI, dI⟩ := hs₁.1
    have epl : h₁.get? pl = some (lstO pits pep) := k₁ _ _ (by exact ni1 pI) (by show pl ≠ L; exact plL) hs.2
    have hhl₁ : h₁.get? hl = some (lstO hits hep) := k₁ _ _ (by exact ni1 hhI) (by show hl ≠ L; exact hhL) hhl
    have a₁ : Acc w h₁ x d ps 0 := by
      obtain ⟨its, ep, tk', tn, ac, pp⟩ := a
      refine ⟨its, ep, tk', tn, ⟨k₁ _ _ (by exact ni1 Ix.symm) (by show x ≠ L; exact xL) ac.o, k₁ _ _ (by exact ni1 Id.symm) (by show d ≠ L; exact dL) ac.d⟩, pp.imp fun v q ip => ?_⟩
      obtain ⟨t, ta, tb, e1, e2⟩ := ip
      refine ⟨t, ta, tb, e1, k₁ _ _ (fun hm => ?_) (fun q => ?_) e2⟩
      · obtain ⟨o, eo, co, _⟩ := hs.1
        rw [List.mem_singleton.mp hm, eo] at e2
        cases e2
        simp at co
      · obtain ⟨o, es, n, eo, do_, _⟩ := j.ns
        have q' : t = L := q
        rw [q', eo] at e2
        cases e2
        simp at do_
    have j₁' := (j₁.add (a := pl) epl plL plT gpl (by
      intro hm
      obtain ⟨q, hq, e⟩ := List.mem_map.mp hm
      exact (hkn q hq).2.2.2 e)).add (a := I) eI IL IT gI (by
      intro hm
      rw [List.map_cons] at hm
      rcases List.mem_cons.mp hm with q | hm
      · exact pI q.symm
      · obtain ⟨q, hq, e⟩ := List.mem_map.mp hm
        exact (hkn q hq).2.2.1 e)
    refine nest_turn (s := { s with heap := h₁, toks := t₁ }) (kn := (I, oI) :: (pl, lstO pits pep) :: kn) (p := places[i]) (ps := ps) (hangs := hangs) FN FQ X X2 G GM r hT hT2 o1 o2 zs z9 o4 j₁' (by rw [if_neg (by decide)]; exact hm1) (by rw [if_neg (by decide)]; exact hm2) (by rw [if_pos rfl]) a₁ nx nd gx gd xL dL (fun q hq => by
      rcases List.mem_cons.mp hq with rfl | hq
      · exact ⟨Ix, Id⟩
      rcases List.mem_cons.mp hq with rfl | hq
      · exact ⟨px', pd⟩
      · exact ⟨(hkn q hq).1, (hkn q hq).2.1⟩) hhl₁ hi hhL hhx hhd fun s₂ m₂ j₂ ok₂ hm1' hm2' a₂ hhl₂ => ?_
    refine ih (i + 1) s₂ _ m₂ (by exact dst hk) hin (j₂.sub ((List.sublist_cons_self _ _).trans (List.sublist_cons_self _ _))) hm1' hm2' a₂ hhl₂ o5 hgo ⟨⟨oI, j₂.get (.head _), cI, dI⟩, j₂.get (.tail _ (.head _))⟩ ⟨ok₂.1.trans ok.1, fun ab => ok₂.2 (ok.2 ab)⟩
end
end Mine
end
noncomputable section
open PySem PySem.W PySem.Calls PyProof.Rows Builtin Builtin.ObjectAttr
namespace Mine
def nestTxt (ends : List Int) : Str := quoteF (ptext (nestGo (hangsF ends) [5, 4, 3, 2, 1, 0] []))
section
variable {T : Tabs} {K : Frag} {cd : ClassData} {mg mb : Str → Option Value} {w : World} {A : Around} {s : Shared} {g h₀ h h' : Heap} {W W' : List Addr} {L C : Addr} {m : Str → Option Value} {kn : List (Addr × Obj)} {R : Result → Shared → Prop} {E : Value → Shared → Prop} {prog : Program}
theorem nestOk_end {hangs : List Int} : ∀ (l : List Nat) (ps : List (Str × Str)), nestOk hangs l ps = true → Small (nestGo hangs l ps) ∧ (ptext (nestGo hangs l ps)).cps.size ≤ 100000
  | [], ps, h => by
    unfold nestOk at h
    rw [Bool.and_eq_true, decide_eq_true_eq] at h
    exact ⟨(smallB.small h.1).1, h.2⟩
  | p :: r, ps, h => by
    unfold nestOk at h
    simp only [Bool.and_eq_true] at h
    exact nestOk_end r _ h.2
set_option maxHeartbeats 4000000 in
theorem nested_spec {el : Addr} {its : Array Value} {ep : Nat} {ends : List Int} (FN : Fn K mg) (FQ : Fq K mg) (X : Fx K cd) (X2 : Fx2 K) (G : Gb T K mg mb g) (GM : Gm mg) (S : St T g s.heap) (r : Rm A 9) (hT : (161, 157) ∈ T) (hT2 : (168, 164) ∈ T)
   (hel : s.heap.get? el = some (lstO its ep)) (hi : IntsAre its.toList ends) (hn : ends.length ≤ 1000) (hok : nestOk (hangsF ends) [5, 4, 3, 2, 1, 0] [] = true)
   (hR : ∀ s' t', Mv T g [] s.heap s'.heap → Ok s s' → R (.ok (.ret (.str (nestTxt ends) t'))) s') :
   codeAny (model PR w) A (.call (.ref 363) ⟨[.ref el], []⟩) R s := by
  obtain ⟨oc, od, osl, name, kV, doc, pm, an, ct, hob, hcd⟩ := FN.nested
  obtain ⟨d0, n0, sl0, tk0, e124⟩ := X.d124
  refine' j_callC (binds := [("ends", .ref el)]) [] (fun L => [("ends", L + 1)]) G S hob hcd r.lt rfl (fun L => rfl) (fun L p hp => by rw [List.mem_singleton.mp hp]; rfl) (fun L y hy => by
    rw [List.mem_singleton.mp hy]; exact .inr ⟨rfl, rfl⟩) ?_ rfl rfl rfl
  intro L h₁ t₁ ob hob' j mv₁ hnew
  have rr := r.deeper (env := nestEnv L (L + 1))
  have hcell : (ob (L + 1)).data = .cell (some (.ref el)) := hob' ("ends", L + 1) (.head _)
  have j : J T g [] s.heap L h₁ (bindL (fun n => List.lookup n (fScope (topSt 18)).names) [("ends", .ref el)] fun _ => none) [(L + 1, ob (L + 1))] := j
  have cn := hnew ("ends", L + 1) (.head _)
  refine wpAny_execs_cons (wpAny_Assign_Name (Call_ ?_))
  refine e_global (s := { s with heap := h₁, toks := t₁ }) G j.mv.st FN.gA ?_
  refine j_callWith0 (s := { s with heap := h₁, toks := t₁ }) G j.mv.st FN.kA (wpAny_call ?_)
  refine acc_new (s := { s with heap := h₁, toks := t₁ }) (rest := []) (n := 0) (tk := tk0) G X X2.makes j.mv.st (rr.mono (by decide)) (fun x s' fd Y a b => bind_init0 X e124 x s' fd Y a b) fun x d h₂ t₂ mv₂ a₂ nx nd gx gd => ?_
  have j₂ := j.call0 mv₂
  obtain ⟨oL, _, _, eL, _⟩ := id j.ns
  have xL : x ≠ L := (Acc.none_ne eL nx).symm
  have dL : d ≠ L := (Acc.none_ne eL nd).symm
  have cx : L + 1 ≠ x := Acc.none_ne (j.get (.head _)) nx
  have cd' : L + 1 ≠ d := Acc.none_ne (j.get (.head _)) nd
  refine j_storeK (s := { s with heap := h₂, toks := t₂ }) j₂ fun h₃ t₃ j₃ mv₃ => ?_
  have a₃ := a₂.mv j₂.mv.st mv₃ (by exact ni1 xL) (by exact ni1 dL)
  dsimp only
  refine wpAny_execs_cons (hangs_stmt (s := { s with heap := h₃, toks := t₃ }) (kn := [(L + 1, ob (L + 1))]) GM G (rr.mono (by decide)) j₃ (.head _) hcell hel hi hn fun s₄ hl hits hep j₄ mv₄ ok₄ nhl ghl ehl hhi => ?_)
  have a₄ := a₃.mv j₃.mv.st mv₄ (by exact ni1 xL) (by exact ni1 dL)
  obtain ⟨ix, epx, hx0⟩ := a₃.o
  obtain ⟨tkd, tnd, hd0⟩ := a₃.d
  obtain ⟨oL₃, _, _, eL₃, _⟩ := id j₃.ns
  have hhL : hl ≠ L := (Acc.none_ne eL₃ nhl).symm
  have hhx : hl ≠ x := (Acc.none_ne hx0 nhl).symm
  have hhd : hl ≠ d := (Acc.none_ne hd0 nhl).symm
  dsimp only
  refine wpAny_execs_cons (wpAny_For ?_)
  refine List_ ?_
  refine args_cons (wpAny_Constant_int ?_)
  refine args_cons (wpAny_Constant_int ?_)
  refine args_cons (wpAny_Constant_int ?_)
  refine args_cons (wpAny_Constant_int ?_)
  refine args_cons (wpAny_Constant_int ?_)
  refine args_cons (wpAny_Constant_int ?_)
  refine args_nil ?_
  refine j_newListK (s := { s₄ with toks := _ }) j₄ (fun pl h₅ j₅ mv₅ npl => ?_)
  have epl := j₅.get (.head _)
  have plL := (j₅.has _ (.head _)).2.1
  have plT := (j₅.has _ (.head _)).2.2.1
  have gpl := (j₅.has _ (.head _)).2.2.2
  have plc : pl ≠ L + 1 := fun q => by have := j₅.nd; simp [q] at this
  have a₅ := a₄.mv j₄.mv.st mv₅ (by exact ni0) (by exact ni0)
  have ehl₅ := mv₅.keep _ _ ehl (j₄.mv.st.notTab ehl (by nofun)) (.inl (by exact ni0))
  have plx : pl ≠ x := fun q => by
    obtain ⟨_, _, hx'⟩ := a₅.o
    rw [q, hx'] at epl; simp at epl
  have pld : pl ≠ d := fun q => by
    obtain ⟨_, _, hd'⟩ := a₅.d
    rw [q, hd'] at epl
    have := congrArg Obj.data (Option.some.inj epl)
    simp at this
  refine j_pyIterList (s := { s₄ with heap := h₅, toks := _ }) j₅ epl rfl rfl fun I h₆ hI j₆ mv₆ nI nI₅ => ?_
  have eI := j₆.get (.head _)
  have IL := (j₆.has _ (.head _)).2.1
  have IT := (j₆.has _ (.head _)).2.2.1
  have gI := (j₆.has _ (.head _)).2.2.2
  have a₆ := a₅.mv j₅.mv.st mv₆ (by exact ni0) (by exact ni0)
  have ehl₆ := mv₆.keep _ _ ehl₅ (j₅.mv.st.notTab ehl₅ (by nofun)) (.inl (by exact ni0))
  have epl₆ := j₆.get (.tail _ (.head _))
  obtain ⟨_, _, hx5⟩ := a₅.o
  obtain ⟨_, _, hd5⟩ := a₅.d
  have nx0 : s.heap.get? x = none := none_back mv₁ nx
  have nd0 : s.heap.get? d = none := none_back mv₁ nd
  have hints : IntsAre ([Value.int 5 s₄.toks, .int 4 (s₄.toks + 1), .int 3 (s₄.toks + 1 + 1), .int 2 (s₄.toks + 1 + 1 + 1), .int 1 (s₄.toks + 1 + 1 + 1 + 1), .int 0 (s₄.toks + 1 + 1 + 1 + 1 + 1)].toArray).toList (List.map (fun p : Nat => (p : Int)) [5, 4, 3, 2, 1, 0]) :=
    .cons _ _ (.cons _ _ (.cons _ _ (.cons _ _ (.cons _ _ (.cons _ _ .nil)))))
  refine nest_loop (h₀ := s.heap) (kn := [(L + 1, ob (L + 1))]) (places := [5, 4, 3, 2, 1, 0]) (hangs := hangsF ends) (pep := 0) (hep := hep) FN FQ X X2 G GM (rr.mono (by decide)) hT hT2 nx0 nd0 gx gd xL dL (fun q hq => by
    rw [List.mem_singleton.mp hq]
    exact ⟨cx, cd', Acc.none_ne (j₅.get (.tail _ (.head _))) nI₅, plc.symm⟩) hhi hhL hhx hhd (Acc.none_ne ehl₅ nI₅) hints nI npl IL plL (Acc.none_ne hx5 nI₅).symm (Acc.none_ne hd5 nI₅).symm plx pld (Acc.none_ne epl nI₅) gI gpl IT plT s
    (fun s₇ m₇ j₇ ok₇ hm₇ a₇ => ?_) 6 0 _ [] _ rfl (Nat.zero_le _) (j₆.sub ((List.sublist_cons_self _ _).trans (List.sublist_cons_self _ _))) ?_ ?_ a₆ ehl₆ hok rfl ⟨⟨_, eI, rfl, rfl⟩, epl₆⟩ ⟨ok₄.1, ok₄.2⟩
  · dsimp only
    obtain ⟨zs, zq⟩ := nestOk_end _ _ hok
    refine wpAny_execs_cons (wpAny_Return_some (Call_ ?_))
    refine j_global (s := s₇) G j₇ FN.gQ ?_
    refine j_callWith FN.kQ (args_cons (Call_ ?_))
    refine j_builtin (s := s₇) G j₇ GM.str boot_str ?_
    refine PyProof.Rows.callWith_type1 (args_cons ?_)
    refine j_local (s := s₇) j₇ hm₇ (args_nil ?_)
    refine a_strcall (s := s₇) G X GM j₇.mv.st (rr.mono (by decide)) hT2 a₇ zs fun s₈ t₈ mv₈ ok₈ => ?_
    have j₈ : J T g [] s.heap L s₈.heap _ _ := j₇.call0 mv₈
    refine args_nil ⟨j₈.mv.st.In G, wpAny_call ?_⟩
    refine quote_spec FQ G j₈.mv.st (rr.mono (by decide)) zq fun s₉ t₉ mv₉ ok₉ => ?_
    have j₉ : J T g [] s.heap L s₉.heap _ _ := j₈.call0 mv₉
    exact hR s₉ t₉ j₉.mv ⟨ok₉.1.trans (ok₈.1.trans ok₇.1), fun ab => ok₉.2 (ok₈.2 (ok₇.2 ab))⟩
  · rw [if_neg (by decide), if_pos rfl]
  · rw [if_pos rfl]
end
end Mine
end
noncomputable section
open PySem PySem.W PySem.Calls PyProof.Rows Builtin Builtin.ObjectAttr Builtin.Str
namespace Mine
section
variable {T : Tabs} {K : Frag} {cd : ClassData} {mg mb : Str → Option Value} {w : World} {A : Around} {s : Shared} {g h₀ h h' : Heap} {W W' : List Addr} {L C : Addr} {m : Str → Option Value} {kn : List (Addr × Obj)} {R : Result → Shared → Prop} {E : Value → Shared → Prop} {prog : Program}
theorem seqi_list : seqSlot? (.type "list") (dunderI "add") = pure (some (.builtin "list.__iadd__")) := PyProof.Rows.seqSlot_of PySem.F.slot_list_iadd.lookup (by decide +kernel)
theorem fillsi_list : fillsInplaceSlot (.type "list") "add" (Operator.Add == .Add) = pure false := by
  unfold fillsInplaceSlot
  show (typeLookup (.type "list") (dunderI "add") >>= fun fi => pure (fi.isSome && !isSeqSlot fi)) = pure false
  rw [PySem.F.slot_list_iadd.lookup]
  show (pure _ : Sem Bool) = pure false
  rw [show isSeqSlot (some (.builtin "list.__iadd__")) = true by decide +kernel]
  rfl
theorem iadd_list {l b : Addr} {xs ys : Array Value} {n n2 : Nat} {Q : Value → Shared → Prop} (hl : s.heap.get? l = some (lstO xs n)) (hb : s.heap.get? b = some (lstO ys n2)) (hz : xs.size + ys.size ≤ 100000)
    (h : Q (.ref l) { s with heap := s.heap.update l (Obj.mapSeq fun x => x ++ ys) }) : wpAny (model prog w) A (inplaceOp .Add (.ref l) (.ref b)) Q E s := by
  have ha : s.TypeIs (.ref l) "list" := ⟨_, hl, rfl⟩
  have hb' : s.TypeIs (.ref b) "list" := ⟨_, hb, rfl⟩
  unfold inplaceOp
  refine wpAny_holding ?_
  refine wpAny_bind (wpAny_typeOf ha (wpAny_bind (wpAny_of_eq fillsi_list ?_)))
  show wpAny _ A (if false = true then _ else _) Q E s
  rw [if_neg Bool.false_ne_true]
  refine wpAny_bind (PyProof.Rows.binaryOp1_none (nm := "add") ha hb' PySem.noFill_list_add ?_)
  refine wpAny_bind (wpAny_of_eq seqi_list ?_)
  refine wpAny_bind (wpAny_rule ?_)
  refine call_meets PySem.F.slot_list_iadd ha PySem.F.entry_list_iadd (PySem.F.args_list_iadd_2 _ _) (AutoSeq1.list___iadd___list_list_0 l xs n b ys n2 ?_ (by rw [sizeLine_eq]; lia) (by rw [sizeLine_eq]; exact Nat.le_trans (by assumption) (by decide))) ⟨hl, hb, h⟩
  have : Builtin.List.listTooLong (xs.size + ys.size) = false := by
    unfold Builtin.List.listTooLong
    simp [sizeLine_eq]; exact Nat.le_trans (by assumption) (by decide)
  rw [this]
  simp
def partP (x y : Str) : Str × Str := match occurrences x y 0 x.length 1 with | i :: _ => (strSub x 0 i, strSub x (i + y.length) x.length) | [] => (x, Str.empty)
theorem g_partition {x y : Str} {t u : Tok} {Q : Value → Shared → Prop} (hy : (y.length == 0) = false) (hx : x.length ≤ 100000)
    (h : ∀ t1 t2 t3 mid tk, Q (.ref s.heap.objs.size) { s with heap := s.heap.push (tupObj [.str (partP x y).1 t1, .str mid t2, .str (partP x y).2 t3]), toks := tk }) : wpAny (model prog w) A (call (.builtin "str.partition") [.str x t, .str y u]) Q E s := by
  refine call_meets PySem.F.slot_str_partition (typeIs_str _ _ _) PySem.F.entry_str_partition (PySem.F.args_str_partition_2 _ _) (meets_str_partition x y t u hy (by rw [sizeLine_eq]; exact Nat.le_trans (by assumption) (by decide))) ?_
  unfold partP at h
  revert h
  cases occurrences x y 0 x.length 1 with
  | nil => intro h; exact h _ _ _ _ _
  | cons i r => intro h; exact h _ _ _ _ _
theorem e_Slice3 {lower upper step : Option Expr} {p : Pos} {env : Env} {Q : Value → Shared → Prop}
    (h : wpAny (model prog w) A (evalPart lower env) (fun l s₁ => wpAny (model prog w) A (evalPart upper env) (fun u s₂ => wpAny (model prog w) A (evalPart step env) (fun v s₃ => Q (.ref s₃.heap.objs.size) { s₃ with heap := s₃.heap.push { cls := .type "slice", data := .fields #[l, u, v] } }) E s₂) E s₁) E s) :
    wpAny (model prog w) A (eval (.Slice lower upper step p) env) Q E s := wpAny_Slice h
theorem tup_step2 {t sl : Addr} {a b c : Value} {u : Tok} {n : Nat} {Q : Value → Shared → Prop} (ht : s.heap.get? t = some { cls := .type "tuple", data := .seq #[a, b, c] n }) (hs : s.heap.get? sl = some { cls := .type "slice", data := .fields #[.none, .none, .int 2 u] })
    (h : Q (.ref s.heap.objs.size) { s with heap := s.heap.push (tupObj [a, c]) }) : wpAny (model prog w) A (getItem (.ref t) (.ref sl)) Q E s := by
  have hT : s.TypeIs (.ref t) "tuple" := ⟨_, ht, rfl⟩
  have hTs : s.TypeIs (.ref sl) "slice" := ⟨_, hs, rfl⟩
  have hIT : IsTup s.heap t #[a, b, c] := ⟨_, ht, rfl, _, rfl⟩
  unfold getItem
  try with_reducible refine wpAny_holding ?_
  first | refine wpAny_bind (wpAny_pure ?_) | skip
  refine wpAny_bind (wpAny_sequenceKey hT (by decide) ?_)
  refine wpAny_bind (wpAny_callSpecial?_slot (name := Str.ofString "__getitem__") hT PyProof.Rows.slot_tuple_getitem
    (wpAny_call_entry PyProof.Rows.slot_tuple_getitem hT PyProof.Rows.entry_tuple_getitem ?_ (PyProof.Rows.args_tuple_getitem _ _)))
  show wpAny _ _ (Builtin.Tuple.tupleItemsOf (.ref t) >>= _) _ _ s
  refine wpAny_bind (PyProof.Rows.tupleItemsOf_ hIT ?_)
  refine wpAny_bind (wpAny_typeOf hTs ?_)
  rw [if_pos (by decide)]
  refine wpAny_bind ?_
  show wpAny _ _ (Builtin.Slice.sliceApplied (.ref sl) (pure ((3 : Nat) : Int))) _ _ s
  unfold Builtin.Slice.sliceApplied Builtin.Slice.sliceFields
  refine wpAny_bind (wpAny_bind (wpAny_field hs rfl (x := .none) rfl (wpAny_bind (wpAny_field hs rfl (x := .none) rfl (wpAny_bind (wpAny_field hs rfl (x := .int 2 u) rfl (wpAny_pure ?_)))))))
  refine wpAny_bind (PyProof.Rows.slicePart_int ?_)
  show wpAny _ _ (if ((2 : Int) == 0) = true then _ else _) _ _ s
  rw [if_neg (by decide)]
  refine wpAny_bind (PyProof.Rows.slicePart_none (wpAny_bind (PyProof.Rows.slicePart_none (wpAny_bind (wpAny_pure ?_)))))
  show wpAny _ _ (pure ((0 : Int), (2 : Int), 2)) _ _ s
  refine wpAny_pure ?_
  show wpAny _ _ (if ((0 : Int) == 0 && (2 : Int) == 1 && 2 == 3) = true then _ else _) _ _ s
  rw [if_neg (by decide)]
  have e : ((List.range 2).filterMap fun (k : Nat) => (#[a, b, c] : Array Value)[((0 : Int) + (k : Int) * 2).toNat]?).toArray = #[a, c] := rfl
  show wpAny _ _ (Builtin.Tuple.tupleExact ((List.range 2).filterMap fun (k : Nat) => (#[a, b, c] : Array Value)[((0 : Int) + (k : Int) * 2).toNat]?).toArray >>= _) _ _ s
  rw [e]
  first
    | exact wpAny_bind (m := Builtin.Tuple.tupleExact _) (wpAny_newObj_type (wpAny_pure ⟨_, rfl, wpAny_pure h⟩) (by show 2 ≤ sizeLine; decide))
    | exact wpAny_bind (m := Builtin.Tuple.tupleExact _) (wpAny_newObj_type (wpAny_bind (wpAny_pure (wpAny_pure ⟨_, rfl, wpAny_pure h⟩))) (by show 2 ≤ sizeLine; decide))
    | exact wpAny_bind (wpAny_bind (m := Builtin.Tuple.tupleExact _) (wpAny_newObj_type (wpAny_pure (wpAny_pure ⟨_, rfl, wpAny_pure h⟩)) (by show 2 ≤ sizeLine; decide)))
    | exact wpAny_bind (wpAny_bind (m := Builtin.Tuple.tupleExact _) (wpAny_newObj_type (wpAny_pure ⟨_, rfl, wpAny_pure h⟩) (by show 2 ≤ sizeLine; decide)))
end
end Mine
end
noncomputable section
open PySem PySem.W PySem.Calls PyProof.Rows Builtin Builtin.ObjectAttr Builtin.Str
namespace Mine
def pairsF : List (Str × Str) → List (Str × Str)
  | [] => []
  | (r, a) :: l => partP r ": " :: partP a ": " :: pairsF l
abbrev levEnv (L : Addr) : Env := envX "_law_levels" (fScope (topSt 19)) L 368 (.ref 367) [("table", L + 1)]
abbrev levBody : List Stmt := forBody (stAt (fBody (topSt 19)) 1)
section
variable {T : Tabs} {K : Frag} {cd : ClassData} {mg mb : Str → Option Value} {w : World} {A : Around} {s : Shared} {g h₀ h h' : Heap} {W W' : List Addr} {L C : Addr} {m : Str → Option Value} {kn : List (Addr × Obj)} {R : Result → Shared → Prop} {E : Value → Shared → Prop} {prog : Program}
theorem All2.app {α β : Type} {P : α → β → Prop} {a b : List α} {c d : List β} (x : All2 P a c) (y : All2 P b d) : All2 P (a ++ b) (c ++ d) := by
  induction x with
  | nil => exact y
  | cons h _ ih => exact .cons h ih
set_option maxHeartbeats 4000000 in
theorem lev_turn {pl : Addr} {its : Array Value} {ep : Nat} {ps : List (Str × Str)} {row again : Str} {t1 t2 : Tok} {Qf : Flow → Shared → Prop} (G : Gb T K mg mb g) (r : Rm A 3)
   (j : J T g [] h₀ L s.heap m ((pl, lstO its ep) :: kn)) (npl : h₀.get? pl = none) (hm1 : m "pairs" = some (.ref pl)) (hm2 : m "row" = some (.str row t1)) (hm3 : m "again" = some (.str again t2)) (hr1 : row.length ≤ 10000) (hr2 : again.length ≤ 10000) (hz : its.size ≤ 1000) (hp : Parts s.heap its.toList ps)
   (hQ : ∀ (h' : Heap) (tk : Nat) (m' : Str → Option Value) (q1 q2 : Addr) (ep' : Nat), J T g [] h₀ L h' m' ((pl, lstO (its ++ #[Value.ref q1, Value.ref q2]) ep') :: kn) → Mv T g [L, pl] s.heap h' → Parts h' (its ++ #[Value.ref q1, Value.ref q2]).toList (ps ++ [partP row ": ", partP again ": "]) → s.heap.get? q1 = none → s.heap.get? q2 = none → m' "pairs" = some (.ref pl) → Qf .next { s with heap := h', toks := tk }) :
   wpAny (model PR w) A (execs levBody (levEnv L)) Qf (fun _ _ => False) s := by
  have hcl : ((": " : Str).length == 0) = false := by decide +kernel
  refine wpAny_execs_cons (wpAny_AugAssign_Name ?_)
  refine wpAny_loadName_local rfl rfl j.ns hm1 ?_
  refine vc fun _ hv => List_ (args_cons (vc fun _ hv2 => Subscript_ (vc fun _ hv3 => MethodCall_ ?_)))
  refine j_local j hm2 ?_
  refine PySem.GM.partition ?_
  refine callWith_method1 (args_cons ?_)
  refine Constant_str ?_
  refine args_nil ?_
  refine g_partition hcl (by exact Nat.le_trans (by assumption) (by decide)) fun ta tb tc mid tk₁ => ?_
  dsimp only
  obtain ⟨p1, h₁, e1, eh1, j₁, mv₁, _, n1⟩ := J.pushK j (tupObj [.str (partP row ": ").1 ta, .str mid tb, .str (partP row ": ").2 tc]) rfl
  rw [← e1, ← eh1]
  refine hv3 _ { s with heap := h₁, toks := tk₁ } ?_
  refine e_Slice3 ?_
  refine wpAny_pure ?_
  refine wpAny_pure ?_
  refine wpAny_Constant_int (i := 2) (k := 0) (pos := ⟨0, 0, 0, 0⟩) ?_
  dsimp only
  obtain ⟨sl1, h₂, e2, eh2, j₂, mv₂, _, n2⟩ := J.pushK j₁ { cls := .type "slice", data := .fields #[.none, .none, .int 2 tk₁] } rfl
  rw [← e2, ← eh2]
  refine subTail_builtin (T := "tuple") ⟨_, j₂.get (.tail _ (.head _)), rfl⟩ PySem.F.slot_tuple_getitem.lookup (tup_step2 (j₂.get (.tail _ (.head _))) (j₂.get (.head _)) ?_) (.inl rfl)
  dsimp only
  obtain ⟨q1, h₃, e3, eh3, j₃, mv₃, _, n3⟩ := J.pushK j₂ (tupObj [.str (partP row ": ").1 ta, .str (partP row ": ").2 tc]) rfl
  rw [← e3, ← eh3]
  refine hv2 _ { s with heap := h₃, toks := _ } ?_
  refine args_cons (vc fun _ hv2 => Subscript_ (vc fun _ hv3 => MethodCall_ ?_))
  refine j_local (s := { s with heap := h₃, toks := _ }) j₃ hm3 ?_
  refine PySem.GM.partition ?_
  refine callWith_method1 (args_cons ?_)
  refine Constant_str ?_
  refine args_nil ?_
  refine g_partition (s := { s with heap := h₃, toks := _ }) hcl (by exact Nat.le_trans (by assumption) (by decide)) fun ta' tb' tc' mid' tk₂ => ?_
  dsimp only
  obtain ⟨p2, h₄, e4, eh4, j₄, mv₄, _, n4⟩ := J.pushK j₃ (tupObj [.str (partP again ": ").1 ta', .str mid' tb', .str (partP again ": ").2 tc']) rfl
  rw [← e4, ← eh4]
  refine hv3 _ { s with heap := h₄, toks := tk₂ } ?_
  refine e_Slice3 ?_
  refine wpAny_pure ?_
  refine wpAny_pure ?_
  refine wpAny_Constant_int (i := 2) (k := 0) (pos := ⟨0, 0, 0, 0⟩) ?_
  dsimp only
  obtain ⟨sl2, h₅, e5, eh5, j₅, mv₅, _, n5⟩ := J.pushK j₄ { cls := .type "slice", data := .fields #[.none, .none, .int 2 tk₂] } rfl
  rw [← e5, ← eh5]
  refine subTail_builtin (s := { s with heap := h₅, toks := _ }) (T := "tuple") ⟨_, j₅.get (.tail _ (.head _)), rfl⟩ PySem.F.slot_tuple_getitem.lookup (tup_step2 (s := { s with heap := h₅, toks := _ }) (j₅.get (.tail _ (.head _))) (j₅.get (.head _)) ?_) (.inl rfl)
  dsimp only
  obtain ⟨q2, h₆, e6, eh6, j₆, mv₆, _, n6⟩ := J.pushK j₅ (tupObj [.str (partP again ": ").1 ta', .str (partP again ": ").2 tc']) rfl
  rw [← e6, ← eh6]
  refine hv2 _ { s with heap := h₆, toks := _ } ?_
  refine args_nil ?_
  refine j_newListK (s := { s with heap := h₆, toks := _ }) j₆ (fun ll h₇ j₇ mv₇ nll => ?_)
  refine hv _ { s with heap := h₇, toks := _ } ?_
  obtain ⟨ep', ec⟩ := mapSeq_lst its (its ++ #[.ref q1, .ref q2]) ep (fun x => x ++ #[.ref q1, .ref q2]) rfl
  refine iadd_list (s := { s with heap := h₇, toks := _ }) (j₇.get (.tail _ (.tail _ (.tail _ (.tail _ (.tail _ (.tail _ (.tail _ (.head _)))))))))  (j₇.get (.head _)) (by show its.size + 2 ≤ _; lia) ?_
  have j₈ := (j₇.update 7 rfl (.inr npl) (by exact tnL) ec rfl).sub (List.drop_sublist 7 _)
  have mv₈ : Mv T g [pl] h₇ _ := j₇.updMv (.tail _ (.tail _ (.tail _ (.tail _ (.tail _ (.tail _ (.tail _ (.head _)))))))) (by exact tnL) ec rfl
  replace j₈ : J T g [] h₀ L _ m ((pl, lstO (its ++ #[.ref q1, .ref q2]) ep') :: kn) := j₈
  revert mv₈ j₈
  dsimp only
  show ∀ _ _, _
  generalize h₇.update pl _ = h₈
  intro mv₈ j₈
  refine j_storeK (s := { s with heap := h₈, toks := _ }) j₈ fun h₉ t₉ j₉ mv₉ => ?_
  refine wpAny_execs_nil ?_
  have mva : Mv T g [] s.heap h₇ := ((((((mv₁.trans mv₂ (by exact al0)).trans mv₃ (by exact al0)).trans mv₄ (by exact al0)).trans mv₅ (by exact al0)).trans mv₆ (by exact al0)).trans mv₇ (by exact al0))
  have mvb : Mv T g [L, pl] s.heap h₉ := ((mva.weak (W' := [L, pl]) (by exact al0)).trans mv₈ (by exact al1 (.inl m2))).trans mv₉ (by exact al1 (.inl m1))
  refine hQ h₉ t₉ _ q1 q2 _ j₉ mvb ?_ (none_back (mv₁.trans mv₂ (by exact al0)) n3) (none_back ((((mv₁.trans mv₂ (by exact al0)).trans mv₃ (by exact al0)).trans mv₄ (by exact al0)).trans mv₅ (by exact al0)) n6) (by rw [if_pos rfl])
  rw [Array.toList_append]
  have k9 : ∀ {a : Addr} {vs : List Value}, h₆.get? a = some (tupObj vs) → h₉.get? a = some (tupObj vs) := fun {a vs} e => by
    have e7 := mv₇.keep _ _ e (j₆.mv.st.notTab e (by nofun)) (.inr ⟨rfl, _, _, rfl⟩)
    have e8 := mv₈.keep _ _ e7 (j₇.mv.st.notTab e7 (by nofun)) (.inr ⟨rfl, _, _, rfl⟩)
    exact mv₉.keep _ _ e8 (j₈.mv.st.notTab e8 (by nofun)) (.inr ⟨rfl, _, _, rfl⟩)
  have pq1 : h₉.get? q1 = some (tupObj [.str (partP row ": ").1 ta, .str (partP row ": ").2 tc]) := k9 (j₆.get (.tail _ (.tail _ (.tail _ (.head _)))))
  have pq2 : h₉.get? q2 = some (tupObj [.str (partP again ": ").1 ta', .str (partP again ": ").2 tc']) := k9 (j₆.get (.head _))
  exact All2.app (hp.mv j.mv.st mvb) (.cons ⟨q1, ta, tc, rfl, pq1⟩ (.cons ⟨q2, ta', tc', rfl, pq2⟩ .nil))
end
end Mine
end
noncomputable section
open PySem PySem.W PySem.Calls PyProof.Rows Builtin Builtin.ObjectAttr Builtin.Str
namespace Mine
theorem pick_init (items : Array Value) (h : 0 < items.size) : slicePick items none (some (-1)) none = (items.toList.dropLast).toArray := by
  have e : slicePick items none (some (-1)) none = slicePick items (some ((0 : Nat) : Int)) (some ((items.size - 1 : Nat) : Int)) none := by
    unfold slicePick
    have eb : sliceBounds none (some (-1)) none items.size = sliceBounds (some ((0 : Nat) : Int)) (some ((items.size - 1 : Nat) : Int)) none items.size := by
      simp only [sliceBounds, Option.getD_none]
      simp
      lia
    rw [eb]
  rw [e, slicePick_run items 0 (items.size - 1) (by exact Nat.sub_le _ _) (by exact Nat.le_add_left _ _)]
  rw [List.drop_zero, Nat.sub_zero, List.dropLast_eq_take, Array.length_toList]
section
variable {T : Tabs} {K : Frag} {cd : ClassData} {mg mb : Str → Option Value} {w : World} {A : Around} {s : Shared} {g h₀ h h' : Heap} {W W' : List Addr} {L C : Addr} {m : Str → Option Value} {kn : List (Addr × Obj)} {R : Result → Shared → Prop} {E : Value → Shared → Prop} {prog : Program}
theorem strValues_dropLast (l : List (Str × Tok)) : (strValues l).dropLast = strValues l.dropLast := by
  unfold strValues
  rw [List.map_dropLast]
theorem strs_at {l : List (Str × Tok)} {i : Nat} {v : Value} (e : (strValues l).toArray[i]? = some v) : ∃ q, l[i]? = some q ∧ v = .str q.1 q.2 := by
  rw [List.getElem?_toArray] at e
  unfold strValues at e
  rw [List.getElem?_map] at e
  cases q : l[i]? with
  | none => rw [q] at e; cases e
  | some p => rw [q] at e; cases e; exact ⟨p, rfl, rfl⟩
set_option maxHeartbeats 4000000 in
theorem lev_loop {pl z TI TO i1 i2 l1 l2 : Addr} {la lb : List (Str × Tok)} {px py pt : Pos} {kt : Nat} {Rf : Result → Shared → Prop} (G : Gb T K mg mb g) (r : Rm A 3) (D : ZipApart z TI TO i1 i2 l1 l2)
   (npl : h₀.get? pl = none) (hw : ∀ b ∈ [z, TO, i1, i2], h₀.get? b = none) (hL : L ∉ [z, TI, TO, i1, i2, l1, l2]) (hplf : pl ∉ [z, TI, TO, i1, i2, l1, l2]) (hfT : ∀ b ∈ [z, TI, TO, i1, i2, l1, l2], b ∉ T.map (·.2)) (hkn : ∀ q ∈ kn, q.1 ∉ [z, TO, i1, i2]) (hlen : min la.length lb.length ≤ 300) (hr : ∀ q ∈ la, q.1.length ≤ 10000) (hr' : ∀ q ∈ lb, q.1.length ≤ 10000) (s₀ : Shared)
   (hR : ∀ h' tk m' its ep, J T g [] h₀ L h' m' ((pl, lstO its ep) :: kn) → Parts h' its.toList (pairsF ((la.map (·.1)).zip (lb.map (·.1)))) → m' "pairs" = some (.ref pl) → Rf (.ok .next) { s₀ with heap := h', toks := tk }) :
   ∀ (k i : Nat) (h : Heap) (tk : Nat) (m : Str → Option Value) (its : Array Value) (ep : Nat) (ps : List (Str × Str)), min la.length lb.length - i = k → i ≤ min la.length lb.length → J T g [] h₀ L h m ((pl, lstO its ep) :: kn) → m "pairs" = some (.ref pl) → Parts h its.toList ps → (∀ v ∈ its.toList, ∀ t, v = .ref t → t ∉ [z, TO, i1, i2]) → its.size = 2 * i → ps ++ pairsF (((la.map (·.1)).zip (lb.map (·.1))).drop i) = pairsF ((la.map (·.1)).zip (lb.map (·.1))) →
     (IsZip h z TI TO .none ∧ PySem.IsPair h TI (.ref i1) (.ref i2) ∧ (∃ a b, PySem.IsPair h TO a b) ∧ h.IsListIter i1 l1 i ∧ h.IsListIter i2 l2 i ∧ h.IsList l1 (strValues la).toArray ∧ h.IsList l2 (strValues lb).toArray) →
     codeAny (model PR w) A (.forLoop (.Tuple [.Name "row" px, .Name "again" py] kt pt) (.ref z) levBody [] (levEnv L)) Rf { s₀ with heap := h, toks := tk } := by
  have sz : ∀ l : List (Str × Tok), (strValues l).toArray.size = l.length := fun l => by exact List.length_map _
  have Tn := Turns.pairU (T := T) (g := g) (W := []) (h₀ := h₀) (x := "row") (y := "again") (px := px) (py := py) (pt := pt) (kt := kt) (env := levEnv L)
    (WalksT.zip2 (prog := PR) (w := w) r.h z TI TO i1 i2 l1 l2 D (strValues la).toArray (strValues lb).toArray).toU r.h
    (fun q vs e => by obtain ⟨x, y, _, _, rfl⟩ := e; rfl) hw hL
  have knw : ∀ {its ep}, ∀ q ∈ (pl, lstO its ep) :: kn, q.1 ∉ [z, TO, i1, i2] := fun q hq => by
    rcases List.mem_cons.mp hq with rfl | hq
    · intro hm
      refine hplf ?_
      simp at hm ⊢
      rcases hm with q | q | q | q <;> simp [q]
    · exact hkn q hq
  have keepP : ∀ {h h' : Heap} {m : Str → Option Value} {its : Array Value} {ep : Nat} {ps : List (Str × Str)}, J T g [] h₀ L h m ((pl, lstO its ep) :: kn) → Parts h its.toList ps → (∀ v ∈ its.toList, ∀ t, v = .ref t → t ∉ [z, TO, i1, i2]) → (∀ b o, b ∉ [z, TO, i1, i2] → b ≠ L → h.get? b = some o → h'.get? b = some o) → Parts h' its.toList ps := by
    intro h h' m its ep ps j hp hN k
    have : ∀ {l : List Value} {qs : List (Str × Str)}, All2 (Mine.IsPair h) l qs → (∀ v ∈ l, ∀ t, v = .ref t → t ∉ [z, TO, i1, i2]) → All2 (Mine.IsPair h') l qs := by
      intro l qs hp hN
      induction hp with
      | nil => exact .nil
      | cons a t ih =>
        refine .cons ?_ (ih fun v hv => hN v (.tail _ hv))
        obtain ⟨t, ta, tb, e1, e2⟩ := a
        refine ⟨t, ta, tb, e1, k _ _ (hN _ (.head _) t e1) (fun q => ?_) e2⟩
        obtain ⟨o, es, n, eo, do_, _⟩ := j.ns
        rw [q, eo] at e2
        cases e2
        simp at do_
    exact this hp hN
  intro k
  induction k with
  | zero =>
    intro i h tk m its ep ps hk hi j hm hp hN hsz hps hs
    have : i = min la.length lb.length := by exact de0 hk hi
    subst this
    refine for_done (s := { s₀ with heap := h, toks := tk }) Tn (by rw [sz, sz]; exact hs) j knw fun h' tk' j' kp => ?_
    refine hR h' tk' m its ep j' ?_ hm
    have e : ((la.map (·.1)).zip (lb.map (·.1))).drop (min la.length lb.length) = [] := List.drop_of_length_le (by rw [List.length_zip, List.length_map, List.length_map]; exact Nat.le_refl _)
    rw [e] at hps
    rw [← hps]
    show Parts h' its.toList (ps ++ [])
    rw [List.append_nil]
    exact keepP j hp hN fun b o hb _ e => kp b o hb e
  | succ k ih =>
    intro i h tk m its ep ps hk hi j hm hp hN hsz hps hs
    have hin : i < min la.length lb.length := by exact dlt hk
    refine for_step (s := { s₀ with heap := h, toks := tk }) Tn (by rw [sz, sz]; exact hin) hs j knw fun h₁ t₁ m₁ hu j₁ hs₁ k₁ => ?_
    obtain ⟨v, v', ⟨x, y, ex, ey, exy⟩, rfl⟩ := hu
    obtain ⟨qa, ea, rfl⟩ := strs_at ex
    obtain ⟨qb, eb, rfl⟩ := strs_at ey
    obtain ⟨rfl, rfl⟩ : v = .str qa.1 qa.2 ∧ v' = .str qb.1 qb.2 := by simpa using exy
    have p₁ : Parts h₁ its.toList ps := keepP j hp hN k₁
    refine lev_turn (s := { s₀ with heap := h₁, toks := t₁ }) G r j₁ npl (by rw [if_neg (by decide), if_neg (by decide)]; exact hm) (by rw [if_neg (by decide), if_pos rfl]) (by rw [if_pos rfl]) (hr qa (List.mem_of_getElem? ea)) (hr' qb (List.mem_of_getElem? eb)) (by lia) p₁ fun h₂ t₂ m₂ q1 q2 ep₂ j₂ mv₂ p₂ n1 n2 hm₂ => ?_
    obtain ⟨z1, z2, ⟨za, zb, z3⟩, z4, z5, z6, z7⟩ := hs₁
    refine ih (i + 1) h₂ t₂ m₂ _ ep₂ _ (by exact dst hk) (by assumption) j₂ hm₂ p₂ ?_ (by rw [Array.size_append]; show its.size + 2 = _; lia) ?_ ?_
    · intro v hv t et
      rw [Array.toList_append] at hv
      rcases List.mem_append.mp hv with hv | hv
      · exact hN v hv t et
      · have alive : ∀ {q}, h₁.get? q = none → q ∉ [z, TO, i1, i2] := fun {q} hq hm' => by
          have c1 : h₁.get? z ≠ none := by rw [show h₁.get? z = _ from z1]; exact sn
          have c2 : h₁.get? TO ≠ none := by rw [show h₁.get? TO = _ from z3]; exact sn
          have c3 : h₁.get? i1 ≠ none := by obtain ⟨o, e, _⟩ := z4; rw [e]; exact sn
          have c4 : h₁.get? i2 ≠ none := by obtain ⟨o, e, _⟩ := z5; rw [e]; exact sn
          simp at hm'
          rcases hm' with rfl | rfl | rfl | rfl
          · exact c1 hq
          · exact c2 hq
          · exact c3 hq
          · exact c4 hq
        have hv' : v = .ref q1 ∨ v = .ref q2 := by simpa using hv
        rcases hv' with rfl | rfl
        · cases et; exact alive n1
        · cases et; exact alive n2
    · have hz : i < ((la.map (·.1)).zip (lb.map (·.1))).length := by rw [List.length_zip, List.length_map, List.length_map]; exact hin
      rw [List.drop_eq_getElem_cons hz] at hps
      have eg : ((la.map (·.1)).zip (lb.map (·.1)))[i] = (qa.1, qb.1) := by
        rw [List.getElem_zip, List.getElem_map, List.getElem_map]
        have a1 : i < la.length := (List.getElem?_eq_some_iff.mp ea).1
        have b1 : i < lb.length := (List.getElem?_eq_some_iff.mp eb).1
        rw [(List.getElem?_eq_some_iff.mp ea).2, (List.getElem?_eq_some_iff.mp eb).2]
      rw [eg] at hps
      rw [← hps]
      show _ = ps ++ (partP qa.1 ": " :: partP qb.1 ": " :: pairsF _)
      simp
    · refine Tn.stable (i + 1) h₁ h₂ ⟨z1, z2, ⟨za, zb, z3⟩, z4, z5, z6, z7⟩ fun b hb o e => mv₂.keep b o e (hfT b hb) (.inl fun hm' => ?_)
      simp only [List.mem_cons, List.not_mem_nil, or_false] at hm'
      rcases hm' with rfl | rfl
      · exact hL hb
      · exact hplf hb
end
end Mine
end
noncomputable section
open PySem PySem.W PySem.Calls PyProof.Rows Builtin Builtin.ObjectAttr Builtin.Str
namespace Mine
def repS (x : Str) (n : Nat) : Str := ⟨(List.replicate n x.cps).foldl (· ++ ·) #[]⟩
theorem repS_len (x : Str) (n : Nat) : (repS x n).length = n * x.length := by
  have : ∀ (n : Nat) (a : Array Nat), ((List.replicate n x.cps).foldl (· ++ ·) a).size = a.size + n * x.cps.size := by
    intro n
    induction n with
    | zero => intro a; simp
    | succ n ih => intro a; rw [List.replicate_succ, List.foldl_cons, ih, Array.size_append, Nat.succ_mul]; lia
  show ((List.replicate n x.cps).foldl (· ++ ·) #[]).size = _
  rw [this]; simp; rfl
theorem pairsF_len : ∀ l : List (Str × Str), (pairsF l).length = 2 * l.length
  | [] => rfl
  | (r, a) :: l => by show (pairsF l).length + 1 + 1 = 2 * (l.length + 1); rw [pairsF_len l]; lia
def levRows (sent : Str) : List Str := (Txt.split sent "\r\n").dropLast
def levAgains (sent : Str) : List Str := Txt.split (quoteF (Txt.upper sent)) "\r\n"
def levPairs (sent : Str) : List (Str × Str) := pairsF ((levRows sent).zip (levAgains sent))
structure LevOk (sent : Str) : Prop where
  n1 : sent.length ≤ 10000
  n2 : (Txt.upper sent).length ≤ 10000
  n3 : (quoteF (Txt.upper sent)).length ≤ 10000
  r1 : ∀ x ∈ levRows sent, x.length ≤ 10000
  r2 : ∀ x ∈ levAgains sent, x.length ≤ 10000
  k : min (levRows sent).length (levAgains sent).length ≤ 300
  p : ∀ p ∈ levPairs sent, (Printable p.1 ∧ p.1.cps.size ≤ 10000) ∧ Printable p.2 ∧ p.2.cps.size ≤ 10000
  q : ∀ p ∈ levPairs sent, (Txt.lower p.1).length ≤ 10000
  pos : 0 < (Txt.split sent "\r\n").length
structure Fl (K : Frag) (mg : Str → Option Value) : Prop where
  levels : FnAt K 368 (topSt 19) "_law_levels" [] .none 367
  gQ : mg "quotedata" = some (.ref 216)
  kQ : keepIn K (.ref 216) = true
  gH : mg "Headers" = some (.ref 347)
  kH : keepIn K (.ref 347) = true
  gz : mg "zip" = none
section
variable {T : Tabs} {K : Frag} {cd : ClassData} {mg mb : Str → Option Value} {w : World} {A : Around} {s : Shared} {g h₀ h h' : Heap} {W W' : List Addr} {L C : Addr} {m : Str → Option Value} {kn : List (Addr × Obj)} {R : Result → Shared → Prop} {E : Value → Shared → Prop} {prog : Program}
theorem g_mul {x : Str} {t u : Tok} {n : Nat} {Q : Value → Shared → Prop} (h1 : 1 ≤ n) (h2 : n ≤ 100) (hx : x.length = 1) (h : ∀ t' tk, Q (.str (repS x n) t') { s with toks := tk }) : wpAny (model prog w) A (binaryOp .Mult (.str x t) (.int (n : Int) u)) Q E s := by
  have e1 : (decide ((n : Int) < -(2 ^ 63 : Int)) || decide ((n : Int) ≥ 2 ^ 63)) = false := by simp; lia
  refine PySem.P.mul_str e1 (fun _ _ => ?_) (fun _ _ => ?_) ?_
  · rw [hx]
    have : ((2 : Int) ^ 63 - 1) / (n : Int) ≥ 1 := by
      rw [ge_iff_le, Int.le_ediv_iff_mul_le (by exact Int.not_lt.mp (by assumption))]
      omega
    exact Int.not_lt.mpr this
  · rw [hx, Int.toNat_natCast]
    unfold Builtin.Str.tooLong
    rw [decide_eq_false_iff_not, sizeLine_eq]; omega
  · rw [if_neg (by omega)]
    by_cases hn : n = 1
    · subst hn
      rw [if_pos (by simp)]
      have e : repS x 1 = x := by
        unfold repS
        obtain ⟨c⟩ := x
        simp
      rw [e] at h
      exact h t s.toks
    · rw [if_neg (by rw [hx]; simp; omega), Int.toNat_natCast]
      refine ⟨?_, h s.toks (s.toks + 1)⟩
      show (repS x n).length ≤ _
      rw [repS_len, hx, sizeLine_eq]; omega
theorem nmOk {i : Nat} (h : i < 8) : Printable (Txt.lower (repS "." (i + 2) ++ "x")) ∧ (Txt.lower (repS "." (i + 2) ++ "x")).length ≤ 10000 := by
  have : ∀ i, i < 8 → ((Txt.lower (repS "." (i + 2) ++ "x")).cps.toList.all fun c => decide (31 < c) && decide (c < 127)) = true ∧ (Txt.lower (repS "." (i + 2) ++ "x")).length ≤ 10000 := by decide +kernel
  obtain ⟨a, b⟩ := this i h
  refine ⟨fun c hc => ?_, b⟩
  have := List.all_eq_true.mp a c hc
  rw [Bool.and_eq_true, decide_eq_true_eq, decide_eq_true_eq] at this
  exact this
theorem strs_of_paired {f : Nat → Str} {l : List Nat} {vs : List Value} (h : Paired (fun i y => ∃ t, y = .str (f i) t) l vs) : StrsAre vs (l.map f) := by
  induction h with
  | nil => exact .nil
  | cons f t ih =>
    obtain ⟨u, rfl⟩ := f
    exact .cons _ _ ih
theorem sub4 {α : Type} {a b c d : α} {l : List α} : l.Sublist (a :: b :: c :: d :: l) := (List.sublist_cons_self _ _).trans ((List.sublist_cons_self _ _).trans ((List.sublist_cons_self _ _).trans (List.sublist_cons_self _ _)))
theorem boot_zip : bootBuiltins "zip" = some (.type "zip") := by decide +kernel
set_option maxHeartbeats 4000000 in
theorem levels_spec {sent : Str} {ts : Tok} (FL : Fl K mg) (FQ : Fq K mg) (FH : Fh K mg) (G : Gb T K mg mb g) (GM : Gm mg) (S : St T g s.heap) (r : Rm A 9) (lo : LevOk sent)
   (hR : ∀ s' D its ep, Mv T g [] s.heap s'.heap → Ok s s' → s'.heap.get? D = some (lstO its ep) → StrsAre its.toList ((List.range 8).map fun i => Str.join "" (getAllF (levPairs sent) (repS "." (i + 2) ++ "x"))) → R (.ok (.ret (.ref D))) s') :
   codeAny (model PR w) A (.call (.ref 368) ⟨[.str sent ts], []⟩) R s := by
  obtain ⟨oc, od, osl, name, kV, doc, pm, an, ct, hob, hcd⟩ := FL.levels
  refine' j_callC (binds := [("sent", .str sent ts)]) [] (fun L => [("table", L + 1)]) G S hob hcd r.lt rfl (fun L => rfl) (fun L p hp => by rw [List.mem_singleton.mp hp]; rfl) (fun L y hy => by
    rw [List.mem_singleton.mp hy]; exact .inl rfl) ?_ rfl rfl rfl
  intro L h₁ t₁ ob hob' j mv₁ hnew
  have rr := r.deeper (env := levEnv L)
  have hcell : (ob (L + 1)).data = .cell none := hob' ("table", L + 1) (.head _)
  have j : J T g [] s.heap L h₁ (bindL (fun n => List.lookup n (fScope (topSt 19)).names) [("sent", .str sent ts)] fun _ => none) [(L + 1, ob (L + 1))] := j
  have cn := hnew ("table", L + 1) (.head _)
  refine xc fun _ hn => wpAny_Assign_Name (List_ (args_nil ?_))
  refine j_newListK (s := { s with heap := h₁, toks := t₁ }) j (fun pl h₂ j₂ mv₂ npl => ?_)
  refine j_storeK (s := { s with heap := h₂, toks := t₁ }) j₂ fun h₃ t₃ j₃ mv₃ => ?_
  refine hn { s with heap := h₃, toks := t₃ } ?_
  refine xc fun _ hn => wpAny_For (vc fun _ hv => ?_)
  refine Call_ ?_
  refine j_builtin (s := { s with heap := h₃, toks := t₃ }) G j₃ FL.gz boot_zip ?_
  refine PyProof.Rows.callWith_type1 (args_cons (vc fun _ hv2 => Subscript_ (vc fun _ hv3 => MethodCall_ ?_)))
  refine j_local (s := { s with heap := h₃, toks := t₃ }) j₃ (v := .str sent ts) (by rfl) ?_
  refine PySem.GM.split ?_
  refine callWith_method1 (args_cons ?_)
  refine Constant_str ?_
  refine args_nil ?_
  refine g_split (s := { s with heap := h₃, toks := _ }) (by decide +kernel) (by have := lo.n1; exact Nat.le_trans (by assumption) (by decide)) fun la' k1 hla' => ?_
  dsimp only
  obtain ⟨D1, h₄, eD1, e4, j₄, mv₄, _, n4⟩ := J.pushK j₃ (lstObj (strValues la')) rfl
  rw [← eD1, ← e4]
  refine hv3 _ { s with heap := h₄, toks := k1 } ?_
  refine e_Slice ?_
  refine wpAny_pure ?_
  refine wpAny_UnaryOp ?_
  refine wpAny_Constant_int (i := 1) (k := 0) (pos := ⟨0, 0, 0, 0⟩) ?_
  refine PySem.P.neg_int ?_
  dsimp only
  obtain ⟨sl1, h₅, eS1, e5, j₅, mv₅, _, n5⟩ := J.pushK j₄ (slObj .none (.int (-1) (k1 + 1))) rfl
  rw [← eS1, ← e5]
  have szv : ∀ l : List (Str × Tok), (strValues l).toArray.size = l.length := fun l => by exact List.length_map _
  have hla1 : la'.length = (Txt.split sent "\r\n").length := by rw [← hla', List.length_map]
  have hsplit : (Txt.split sent "\r\n").length ≤ 10002 := by
    unfold Txt.split
    have := parts_len sent "\r\n" (by decide +kernel)
    have := lo.n1
    split
    · simp
    · split
      · simp
      · lia
  refine subTail_builtin (T := "list") ⟨_, j₅.get (.tail _ (.head _)), rfl⟩ list_getitem_lookup (wpAny_getItem_list_slice (s := { s with heap := h₅, toks := _ }) (lo := none) (hi := some (-1)) (st := none) ⟨_, j₅.get (.tail _ (.head _)), rfl, _, rfl⟩ ⟨_, j₅.get (.head _), rfl, rfl⟩ .none (by constructor) .none (by simp) ?_ (by rw [szv, sizeLine_eq]; lia)) (.inr rfl)
  rw [pick_init _ (by rw [szv, hla1]; exact lo.pos)]
  rw [show ((strValues la').toArray.toList.dropLast).toArray = (strValues la'.dropLast).toArray by rw [show (strValues la').toArray.toList = strValues la' from rfl, strValues_dropLast]]
  dsimp only
  obtain ⟨D2, h₆, eD2, e6, j₆, mv₆, nD2, n6⟩ := J.pushK j₅ (lstObj (strValues la'.dropLast)) rfl
  rw [← eD2, ← e6]
  refine hv2 _ { s with heap := h₆, toks := _ } ?_
  refine args_cons ?_
  refine vc fun _ hv2 => MethodCall_ (vc fun _ hv3 => Call_ ?_)
  refine j_global (s := { s with heap := h₆, toks := _ }) G j₆ FL.gQ ?_
  refine j_callWith FL.kQ ?_
  refine args_cons (vc fun _ hv4 => MethodCall_ ?_)
  refine j_local (s := { s with heap := h₆, toks := _ }) j₆ (v := .str sent ts) (by rfl) ?_
  refine PySem.GM.upper ?_
  refine callWith_method0 ?_
  refine SC.upper (by unfold Builtin.Str.tooLong; rw [decide_eq_false_iff_not, sizeLine_eq]; have := lo.n2; lia) ?_
  refine hv4 _ { s with heap := h₆, toks := _ } ?_
  refine args_nil ⟨j₆.mv.st.In G, wpAny_call ?_⟩
  refine quote_spec (s := { s with heap := h₆, toks := _ }) FQ G j₆.mv.st (rr.mono (by decide)) (Nat.le_trans lo.n2 (by decide)) fun s₇ t₇ mv₇ ok₇ => ?_
  have j₇ : J T g [] s.heap L s₇.heap _ _ := j₆.call0 mv₇
  refine hv3 _ _ ?_
  refine PySem.GM.split ?_
  refine callWith_method1 ?_
  refine args_cons ?_
  refine Constant_str ?_
  refine args_nil ?_
  refine g_split (s := { s₇ with toks := _ }) (by decide +kernel) (by have := lo.n3; exact Nat.le_trans (by assumption) (by decide)) fun lb k2 hlb => ?_
  dsimp only
  obtain ⟨D3, h₈, eD3, e8, j₈, mv₈, nD3, n8⟩ := J.pushK j₇ (lstObj (strValues lb)) rfl
  rw [← eD3, ← e8]
  refine hv2 _ { s₇ with heap := h₈, toks := k2 } ?_
  refine args_nil ?_
  refine call_zip_2 (s := { s₇ with heap := h₈, toks := k2 }) (xs := (strValues la'.dropLast).toArray) (ys := (strValues lb).toArray) ⟨_, j₈.get (.tail _ (.head _)), rfl, _, rfl⟩ ⟨_, j₈.get (.head _), rfl, _, rfl⟩ fun h₉ z1 z2 z3 z4 z5 z6 k₉ => ?_
  dsimp only at z1 z2 z3 z4 z5 z6 k₉
  refine hv _ { s₇ with heap := h₉, toks := k2 } ?_
  refine wpAny_pyIter_zip z1 ?_
  obtain ⟨j₉, mv₉⟩ := j₈.keepsL k₉
  have eD2' := j₈.get (.tail _ (.head _))
  have eD3' := j₈.get (.head _)
  have epl := j₈.get (.tail _ (.tail _ (.tail _ (.tail _ (.head _)))))
  have ecl := j₈.get (.tail _ (.tail _ (.tail _ (.tail _ (.tail _ (.head _))))))
  have b2 := Heap.lt_size eD2'
  have b3 := Heap.lt_size eD3'
  have bp := Heap.lt_size epl
  have bc := Heap.lt_size ecl
  obtain ⟨oL, _, _, eL, _⟩ := id j₈.ns
  have bL := Heap.lt_size eL
  have L2 := (j₈.has _ (.tail _ (.head _))).2.1
  have L3 := (j₈.has _ (.head _)).2.1
  have T2 := (j₈.has _ (.tail _ (.head _))).2.2.1
  have T3 := (j₈.has _ (.head _)).2.2.1
  have nd := j₈.nd
  have p2 : pl ≠ D2 := fun q => by simp [q] at nd
  have p3 : pl ≠ D3 := fun q => by simp [q] at nd
  have noT : ∀ b, h₈.objs.size ≤ b → b ∉ T.map (·.2) := fun b hb hm => by
    obtain ⟨q, hq, e⟩ := List.mem_map.mp hm
    obtain ⟨ps, ps₀, x, y, z⟩ := j₈.mv.st.tab q hq
    have := Heap.lt_size y.2
    rw [e] at this
    exact absurd this (Nat.not_lt.mpr hb)
  have nn : ∀ b, h₈.objs.size ≤ b → s.heap.get? b = none := fun b hb => none_back j₈.mv (Heap.get?_none_of_le hb)
  generalize hN : h₈.objs.size = N at *
  have hla2 : la'.dropLast.map (·.1) = levRows sent := by unfold levRows; rw [← hla', List.map_dropLast]
  have j₉' : J T g [] s.heap L h₉ _ ((pl, lstO ([] : List Value).toArray 0) :: [(L + 1, ob (L + 1))]) := j₉.sub sub4
  have m2 : ∀ {b}, b < N → ∀ k, b ≠ N + k := fun hb k => Nat.ne_of_lt (Nat.lt_of_lt_of_le hb (Nat.le_add_right _ _))
  refine lev_loop (h₀ := s.heap) (kn := [(L + 1, ob (L + 1))]) (pl := pl) (z := N + 4) (TI := N + 2) (TO := N + 3) (i1 := N) (i2 := N + 1) (l1 := D2) (l2 := D3) (la := la'.dropLast) (lb := lb) G (rr.mono (by decide)) ⟨by simp, by simp, by simp, by simp, by simp, by simp, by simp, by simp, by simp, by simp, m2 b2 4, m2 b2 3, m2 b2 0, m2 b2 1, m2 b3 4, m2 b3 3, m2 b3 0, m2 b3 1⟩ npl ?_ ?_ ?_ ?_ ?_ ?_ ?_ ?_ s₇ (fun h₁₀ t₁₀ m₁₀ its ep j₁₀ p₁₀ hm₁₀ => ?_)
    (min la'.dropLast.length lb.length) 0 h₉ k2 _ ([] : List Value).toArray 0 [] rfl (Nat.zero_le _) j₉' rfl .nil (by simp) rfl (by rw [List.drop_zero]; rfl) ⟨z1, z2, ⟨_, _, z3⟩, z4, z5, ⟨_, k₉ _ _ eD2', rfl, _, rfl⟩, ⟨_, k₉ _ _ eD3', rfl, _, rfl⟩⟩
  · intro b hb
    simp only [List.mem_cons, List.not_mem_nil, or_false] at hb
    rcases hb with rfl | rfl | rfl | rfl
    · exact nn _ (Nat.le_add_right _ 4)
    · exact nn _ (Nat.le_add_right _ 3)
    · exact nn _ (Nat.le_refl _)
    · exact nn _ (Nat.le_add_right _ 1)
  · intro hb
    simp only [List.mem_cons, List.not_mem_nil, or_false] at hb
    rcases hb with q | q | q | q | q | q | q
    · exact m2 bL 4 q
    · exact m2 bL 2 q
    · exact m2 bL 3 q
    · exact m2 bL 0 q
    · exact m2 bL 1 q
    · exact L2 q.symm
    · exact L3 q.symm
  · intro hb
    simp only [List.mem_cons, List.not_mem_nil, or_false] at hb
    rcases hb with q | q | q | q | q | q | q
    · exact m2 bp 4 q
    · exact m2 bp 2 q
    · exact m2 bp 3 q
    · exact m2 bp 0 q
    · exact m2 bp 1 q
    · exact p2 q
    · exact p3 q
  · intro b hb
    simp only [List.mem_cons, List.not_mem_nil, or_false] at hb
    rcases hb with rfl | rfl | rfl | rfl | rfl | rfl | rfl
    · exact noT _ (Nat.le_add_right _ 4)
    · exact noT _ (Nat.le_add_right _ 2)
    · exact noT _ (Nat.le_add_right _ 3)
    · exact noT _ (Nat.le_refl _)
    · exact noT _ (Nat.le_add_right _ 1)
    · exact T2
    · exact T3
  · intro q hq hb
    rw [List.mem_singleton.mp hq] at hb
    simp only [List.mem_cons, List.not_mem_nil, or_false] at hb
    rcases hb with q | q | q | q
    · exact m2 bc 4 q
    · exact m2 bc 3 q
    · exact m2 bc 0 q
    · exact m2 bc 1 q
  · have e1 := congrArg List.length hla2
    have e2 := congrArg List.length hlb
    rw [List.length_map] at e1 e2
    have e3 : (levAgains sent).length = (Txt.split (quoteF (Txt.upper sent)) "\r\n").length := rfl
    have := lo.k
    rw [e1, e2, ← e3]; exact this
  · intro q hq
    exact lo.r1 _ (by rw [← hla2]; exact List.mem_map_of_mem hq)
  · intro q hq
    refine lo.r2 _ ?_
    unfold levAgains
    rw [← hlb]; exact List.mem_map_of_mem hq
  · have epq : pairsF ((la'.dropLast.map (·.1)).zip (lb.map (·.1))) = levPairs sent := by rw [hla2, hlb]; rfl
    rw [epq] at p₁₀
    refine hn { s₇ with heap := h₁₀, toks := t₁₀ } ?_
    have ok₁₀ : Ok s { s₇ with heap := h₁₀, toks := t₁₀ } := ⟨ok₇.1, ok₇.2⟩
    refine xc fun _ hn => wpAny_Assign_Name (vc fun _ hv => Call_ ?_)
    refine j_global (s := { s₇ with heap := h₁₀, toks := t₁₀ }) G j₁₀ FL.gH ?_
    refine j_callWith FL.kH (args_cons ?_)
    refine j_local (s := { s₇ with heap := h₁₀, toks := t₁₀ }) j₁₀ hm₁₀ (args_nil ⟨j₁₀.mv.st.In G, wpAny_call ?_⟩)
    refine hdr_new (s := { s₇ with heap := h₁₀, toks := t₁₀ }) FH G j₁₀.mv.st (rr.mono (by decide)) (j₁₀.get (.head _)) p₁₀ lo.p fun x d h₁₁ t₁₁ mv₁₁ hdr nx nd' gx gd => ?_
    have j₁₁ := j₁₀.call0 mv₁₁
    refine hv _ _ ?_
    refine e_storeCell (s := { s₇ with heap := h₁₁, toks := t₁₁ }) j₁₁ 1 rfl hcell (.inr cn) rfl fun h₁₂ oc₁₂ hoc₁₂ j₁₂ mv₁₂ => ?_
    refine hn { s₇ with heap := h₁₂, toks := t₁₁ } ?_
    replace j₁₂ : J T g [] s.heap L h₁₂ m₁₀ [(pl, lstO its ep), (L + 1, oc₁₂)] := j₁₂
    have xc : x ≠ L + 1 := fun q => by rw [q] at nx; rw [show h₁₀.get? (L + 1) = _ from j₁₀.get (.tail _ (.head _))] at nx; cases nx
    have dc : d ≠ L + 1 := fun q => by rw [q] at nd'; rw [show h₁₀.get? (L + 1) = _ from j₁₀.get (.tail _ (.head _))] at nd'; cases nd'
    obtain ⟨hx₁₁, tkh, hd₁₁⟩ := hdr
    have hx₁₂ := mv₁₂.keep _ _ hx₁₁ (j₁₁.mv.st.notTab hx₁₁ (by nofun)) (.inl (by exact ni1 xc))
    have hd₁₂ := mv₁₂.keep _ _ hd₁₁ (j₁₁.mv.st.notTab hd₁₁ (by nofun)) (.inl (by exact ni1 dc))
    have p₁₂ : Parts h₁₂ its.toList (levPairs sent) := (p₁₀.mv j₁₀.mv.st mv₁₁).mv j₁₁.mv.st mv₁₂
    have epl₁₂ := j₁₂.get (.head _)
    have ecl₁₂ := j₁₂.get (.tail _ (.head _))
    have cT := (j₁₂.has _ (.tail _ (.head _))).2.2.1
    have xT := j₁₂.mv.st.notTab hx₁₂ (by nofun)
    have dT := j₁₂.mv.st.notTab hd₁₂ (by nofun)
    have plT := j₁₂.mv.st.notTab epl₁₂ (by nofun)
    have hplen : (levPairs sent).length ≤ 600 := by
      unfold levPairs
      rw [pairsF_len, List.length_zip]
      have := lo.k
      lia
    refine wpAny_execs_cons (wpAny_Return_some ?_)
    refine j_listComp (s := { s₇ with heap := h₁₂, toks := t₁₁ }) (n := 8) (p := fun _ => true) (F := fun _ i y _ => ∃ t, y = .str (Str.join "" (getAllF (levPairs sent) (repS "." (i + 2) ++ "x"))) t) j₁₂ (by decide) (by rfl) ?_ ?_
    · refine Call_ ?_
      refine j_builtin (s := { s₇ with heap := h₁₂, toks := t₁₁ }) G j₁₂ GM.range boot_range' ?_
      refine PyProof.Rows.callWith_type1 ?_
      refine args_cons (wpAny_Constant_int ?_)
      refine args_cons (wpAny_Constant_int ?_)
      refine args_nil ?_
      refine call_range_2 ?_
      obtain ⟨rg, h₁₃, eR, e13, j₁₃, mv₁₃, _, n13⟩ := J.pushK j₁₂ { cls := .type "range", data := .fields #[.int 2 t₁₁, .int 10 (t₁₁ + 1), .int 1 (t₁₁ + 1 + 1)] } rfl
      dsimp only
      rw [← eR, ← e13]
      refine src_range (s := { s₇ with heap := h₁₂, toks := t₁₁ }) (s₁ := { s₇ with heap := h₁₃, toks := _ }) (F := fun i y => ∃ t, y = .str (Str.join "" (getAllF (levPairs sent) (repS "." (i + 2) ++ "x"))) t) rr.h mv₁₃ ⟨rfl, id⟩ j₁₃.mv.st (a := 2) (b := 10) (c := 1) (j₁₃.get (.head _)) (by decide) (by decide) (by rfl) (by rfl) fun s₂ ok₂ => Body.all fun D' C' i s₃ m₃ m₃' its₃ ep₃ hi3 hu j₃' mv₃' ok₃' => ?_
      obtain ⟨v, ⟨tv, rfl⟩, rfl⟩ := hu
      have ei : (2 : Int) + (i : Int) * 1 = ((i + 2 : Nat) : Int) := by lia
      obtain ⟨nm1, nm2⟩ := nmOk hi3
      have old : ∀ {b : Addr} {o : Obj}, h₁₂.get? b = some o → b ∉ T.map (·.2) → s₃.heap.get? b = some o := fun e hT => j₃'.mv.keep _ _ e hT (.inl (by exact ni0))
      refine MethodCall_ ?_
      refine Constant_str ?_
      refine PySem.GM.join ?_
      refine callWith_method1 ?_
      refine args_cons ?_
      refine MethodCall_ ?_
      refine e_cell (old ecl₁₂ cT) hoc₁₂ rfl ?_
      refine j_meth G j₃'.mv.st ⟨old hx₁₂ xT, rfl, rfl, old hd₁₂ dT⟩ FH.plain FH.fGet (FH.keep 286 (by exact m3)).2 (by rfl) ?_
      refine j_callWith (FH.keep 286 (by exact m3)).1 ?_
      refine args_cons ?_
      refine wpAny_BinOp ?_
      refine wpAny_BinOp ?_
      refine Constant_str ?_
      refine e_local (s := { s₃ with toks := s₃.toks + 1 + 1 }) j₃' (v := .int ((2 : Int) + (i : Int) * 1) tv) (by rw [if_pos rfl]) ?_
      rw [ei]
      refine g_mul (by exact Nat.succ_pos _) (by exact Nat.lt_of_le_of_lt (by assumption) (by decide)) (by decide +kernel) fun t5 k5 => ?_
      refine Constant_str ?_
      refine PyProof.Rows.add_str (fun t6 k6 => ?_) (by rw [repS_len, show (".": Str).length = 1 by decide +kernel, show ("x": Str).length = 1 by decide +kernel, sizeLine_eq]; omega)
      refine args_nil ⟨j₃'.mv.st.In G, wpAny_call ?_⟩
      refine getall_spec (s := { s₃ with toks := k6 }) FH G j₃'.mv.st (rr.mono (by decide)) ⟨old hx₁₂ xT, tkh, old hd₁₂ dT⟩ (old epl₁₂ plT) (p₁₂.mv j₁₂.mv.st j₃'.mv) nm1 nm2 lo.q (by exact Nat.le_trans (by assumption) (by decide)) fun s₅ D5 its5 ep5 mv₅ ok₅ hD5 gD5 eD5 st5 => ?_
      refine args_nil ?_
      have hb : ((getAllF (levPairs sent) (repS "." (i + 2) ++ "x")).map (·.length)).sum ≤ 10000 * (getAllF (levPairs sent) (repS "." (i + 2) ++ "x")).length := by
        have hq : ∀ y ∈ getAllF (levPairs sent) (repS "." (i + 2) ++ "x"), y.length ≤ 10000 := fun y hy => by
          unfold getAllF at hy
          obtain ⟨q, hq, rfl⟩ := List.mem_map.mp hy
          exact (lo.p q (List.mem_filter.mp hq).1).2.2
        generalize getAllF (levPairs sent) (repS "." (i + 2) ++ "x") = ys at hq
        induction ys with
        | nil => simp
        | cons y ys ih =>
          have h1 := hq y (.head _)
          have h2 := ih fun z hz => hq z (.tail _ hz)
          simp only [List.map_cons, List.sum_cons, List.length_cons]
          omega
      have hl : (getAllF (levPairs sent) (repS "." (i + 2) ++ "x")).length ≤ 600 := by
        unfold getAllF
        rw [List.length_map]
        exact Nat.le_trans (List.length_filter_le _ _) hplen
      refine PyProof.Rows.join_list (D := D5) ⟨_, eD5, rfl, _, rfl⟩ st5 (by rw [length_empty]; omega) fun t' k => ?_
      rw [Txt_join]
      exact ⟨⟨t', rfl⟩, mv₅, ⟨ok₅.1, ok₅.2⟩⟩
    · intro s₅ D5 its5 ep5 ws j₅ mv₅ ok₅ hD5 gD5 eD5 hP
      refine hR s₅ D5 its5 ep5 j₅.mv ⟨ok₅.1.trans ok₇.1, fun a => ok₅.2 (ok₇.2 a)⟩ eD5 ?_
      rw [show (List.range 8).filter (fun _ => true) = List.range 8 by exact rfl] at hP
      exact strs_of_paired hP
end
end Mine
end
noncomputable section
open PySem PySem.W PySem.Calls PyProof.Rows Builtin Builtin.ObjectAttr Builtin.Str
namespace Mine
section
variable {T : Tabs} {K : Frag} {cd : ClassData} {mg mb : Str → Option Value} {w : World} {A : Around} {s : Shared} {g h₀ h h' : Heap} {W W' : List Addr} {L C : Addr} {m : Str → Option Value} {kn : List (Addr × Obj)} {R : Result → Shared → Prop} {E : Value → Shared → Prop} {prog : Program}
theorem str_slice {value slice : Expr} {x : Str} {t : Tok} {sl : Addr} {l u : Option (Int × Tok)} {Q : Value → Shared → Prop} (hs : s.heap.IsSlice sl l u none) (hx : x.length ≤ 100000)
    (h : ∀ t' tk, Q (.str (Txt.slice x (l.map (·.1)) (u.map (·.1))) t') { s with toks := tk })
    (hs' : (subscripted slice false (.str x t) (.ref sl) = operate [.str x t, .ref sl] (getItem (.str x t) (.ref sl))) ∨ (subscripted slice false (.str x t) (.ref sl) = operate [.ref sl, .str x t] (getItem (.str x t) (.ref sl)))) :
    wpAny (model prog w) A (subscriptTail value slice (.str x t) (.ref sl)) Q E s := by
  refine subTail_builtin (typeIs_str _ _ _) PySem.F.slot_str_getitem.lookup (wpAny_getItem_str_slice hs rfl ?_) hs'
  unfold sliceMade
  unfold Txt.slice at h
  have e : slicePicked x l u none = strSliceIndices (l.map (·.1)) (u.map (·.1)) 1 x.length := rfl
  rw [e]
  show (if ((1 : Int) == 1 && _) = true then _ else _ : Made).post Q s
  split
  · rename_i hc
    have h := h t s.toks
    rw [if_pos hc] at h
    exact h
  · rename_i hc
    have h := h s.toks (s.toks + 1)
    rw [if_neg hc] at h
    refine ⟨?_, h⟩
    have := PyProof.Txt.length_slice_le x (l.map (·.1)) (u.map (·.1))
    unfold Txt.slice at this
    rw [if_neg hc] at this
    rw [sizeLine_eq]
    exact Nat.le_trans this (by exact Nat.le_trans (by assumption) (by decide))
theorem mul_l {l : Addr} {its : Array Value} {ep n : Nat} {u : Tok} {Q : Value → Shared → Prop} (hl : s.heap.get? l = some (lstO its ep)) (hn : n ≤ 1000) (hz : its.size ≤ 1000) (hp : 0 < its.size)
    (h : Q (.ref s.heap.objs.size) { s with heap := s.heap.push (lstO ((List.replicate n its).foldl (· ++ ·) #[]) 0) }) :
    wpAny (model prog w) A (binaryOp .Mult (.ref l) (.int (n : Int) u)) Q E s := by
  have hm : its.size * n ≤ 1000000 := Nat.le_trans (Nat.mul_le_mul hz hn) (by decide)
  have hF : ∀ h₁ : Heap, h₁ = s.heap.push (lstO ((List.replicate n its).foldl (· ++ ·) #[]) 0) → wpAny (model prog w) A (binaryOp .Mult (.ref l) (.int (n : Int) u)) Q E s := by
    intro h₁ eh
    refine wpAny_binaryOp_repeat_ref (by decide) (T := "list") ⟨_, hl, rfl⟩ (fun s' => typeIs_int s' _ u) noFill_list_mul F.fills_int_mul F.slot_int_rmul repeat_list F.slot_int_index.lookup ?_
    refine call_meets F.slot_int_rmul (typeIs_int s _ u) F.entry_int_rmul (F.args_int_rmul_2 _ _) (int___rmul___int_list _ u l its ep) ?_
    refine ⟨hl, rfl, ⟨_, hl, rfl⟩, ?_⟩
    refine call_meets F.slot_list_mul (T := "list") ⟨_, hl, rfl⟩ F.entry_list_mul (F.args_list_mul_2 _ _) (AutoListH.list___mul___list_int_3 l its ep _ u ?_ ?_ ?_) ⟨hl, ?_⟩
    · unfold List.listFitsIndex
      simp; lia
    · rw [Int.toNat_natCast]; lia
    · unfold List.listTooLong
      rw [Int.toNat_natCast, decide_eq_true_eq, sizeLine_eq]; lia
    · rw [Int.toNat_natCast, if_neg (by simp; rintro rfl; simp at hp)]
      exact h
  exact hF _ rfl
set_option maxHeartbeats 1000000 in
theorem set_last {l : Addr} {its : Array Value} {ep : Nat} {t : Tok} {v : Value} {Q : Unit → Shared → Prop} (hl : s.heap.get? l = some (lstO its ep)) (hn : 0 < its.size) (hz : its.size ≤ 1000)
    (h : Q () { s with heap := s.heap.update l (Obj.mapSeq fun x => x.setIfInBounds (its.size - 1) v) }) : wpAny (model prog w) A (setItem (.ref l) (.int (-1) t) v) Q E s := by
  obtain ⟨n, rfl⟩ : ∃ n, n = its.size := ⟨_, rfl⟩
  have hT : s.TypeIs (.ref l) "list" := ⟨_, hl, rfl⟩
  unfold setItem
  refine wpAny_holding (wpAny_bind ?_)
  refine wpAny_sequenceKey hT (by decide) (wpAny_bind ?_)
  refine wpAny_callSpecial?_slot hT slot_list_setitem ?_
  refine wpAny_call_entry slot_list_setitem hT entry_list_setitem ?_ (args_list_setitem _ _ _)
  show wpAny _ _ (List.listSubscript? (.int (-1) t) >>= _) _ _ s
  refine wpAny_bind (wpAny_listSubscript_int (k := -1) (by decide) ?_)
  show wpAny _ _ ((_ >>= fun xs => pure _) >>= _) _ _ s
  refine wpAny_bind ?_
  refine wpAny_bind ?_
  show wpAny _ _ (_ >>= _) _ _ s
  refine wpAny_bind (wpAny_seqItems hl rfl (wpAny_pure (wpAny_pure ?_)))
  rw [seqIndex_neg (by decide) (by lia)]
  have ei : (-1 + (its.size : Int)).toNat = its.size - 1 := by (clear hz hn; lia)
  rw [ei]
  obtain ⟨x, hx⟩ : ∃ x, its[its.size - 1]? = some x := ⟨_, Array.getElem?_eq_getElem (by (clear ei hz; omega))⟩
  show wpAny _ _ (match Value.ref l, Option.map (fun x => (its.size - 1, x)) its[its.size - 1]? with | Value.ref a, some (j, snd) => _ | x, x_1 => _) _ _ _
  rw [hx]
  refine wpAny_bind (wpAny_setSeqItemAt hl rfl ?_)
  exact wpAny_pure ⟨_, rfl, wpAny_pure h⟩
theorem src_str {elt : Expr} {ifs : List Expr} {env : Env} {scope : Scope} {cl : List (Str × Addr)} {p : Nat → Bool} {F : Nat → Value → Prop} {s₁ : Shared} {z : Str} {t : Tok} {x : Str} {px : Pos}
    (hh : A.handled = none) (mv₁ : Mv T g [] s.heap s₁.heap) (ok₁ : Ok s s₁) (S₁ : St T g s₁.heap)
    (hx : scope.names.lookup x = some .local) (hk : scope.kind = .function)
    (body : ∀ s₂, Ok s₁ s₂ → Body prog w A T g s s₂ elt ifs env scope cl z.cps.size p F (fun i m m' => ∃ v, SignAt z i v ∧ m' = fun y => if y = x then some v else m y)) :
    wpAny (model prog w) A (pyIter (.str z t)) (Src prog w A T g s elt (.Name x px) ifs env scope cl z.cps.size p (fun _ i y _ => F i y)) E s₁ := by
  refine wpAny_pyIter_str fun o Sx Wk hS => ?_
  have nI : s₁.heap.get? s₁.heap.objs.size = none := Heap.get?_none_of_le (Nat.le_refl _)
  have mv₂ : Mv T g [] s.heap (s₁.heap.push o) := mv₁.keeps (fun b o e => Heap.get?_push_of_some _ e) (by rw [Heap.size_push]; exact Nat.le_succ_of_le S₁.le)
  have noT : s₁.heap.objs.size ∉ T.map (·.2) := fun hm => by
    obtain ⟨q, hq, e⟩ := List.mem_map.mp hm
    obtain ⟨ps, ps₀, x, y, z⟩ := S₁.tab q hq
    have := Heap.lt_size y.2
    rw [e] at this
    exact absurd this (Nat.lt_irrefl _)
  refine ⟨mv₂, ⟨ok₁.1, ok₁.2⟩, s₁.heap.objs.size, _, _, _, _, rfl, hS, ?_, fun C hC => Turns.name (Wk A hh) (fun b hb => ?_) hC hk (lookup_relabel_local hx), fun D C => Stays.pure F, ?_⟩
  · intro b hb
    show b < (s₁.heap.push _).objs.size ∧ _
    rw [Heap.size_push]
    rw [List.mem_singleton.mp hb]
    exact ⟨Nat.lt_succ_self _, noT⟩
  · rw [List.mem_singleton.mp hb]
    exact none_back mv₁ nI
  · intro D C i s₃ m m' its' ep' hi hu j mv hs ok
    exact body _ ⟨rfl, id⟩ D C i s₃ m m' its' ep' hi hu j mv ok
theorem for_stepC {env : Env} {I c : Addr} {fp wr : List Addr} {n i : Nat} {P : Nat → Value → Prop} {Sx : Nat → Heap → Prop} {x : Str} {px : Pos} {body orelse : List Stmt} {o : Obj} {u : Option Value} (ic : Nat)
    (Wk : Walks prog w A I fp wr n P Sx) (hw : ∀ b ∈ wr, h₀.get? b = none) (hL : env.locals ∉ fp) (hcf : c ∉ fp) (hfT : ∀ b ∈ fp, b ∉ T.map (·.2)) (hc0 : c ∈ W ∨ h₀.get? c = none) (hcl : env.cells.lookup x = some c)
    (hk : env.scope.kind = .function) (hl : env.kindOf x = some .cell)
    (hi : i < n) (hs : Sx i s.heap) (j : J T g W h₀ env.locals s.heap m kn) (hkn : ∀ p ∈ kn, p.1 ∉ wr) (hic : kn[ic]? = some (c, o)) (ho : o.data = .cell u)
    (h : ∀ h' tk v o', P i v → o'.data = .cell (some v) → J T g W h₀ env.locals h' m (kn.set ic (c, o')) → Sx (i + 1) h' → (∀ b o, b ∉ wr → b ≠ c → b ∉ T.map (·.2) → s.heap.get? b = some o → h'.get? b = some o) →
      wpAny (model prog w) A (execs body env) (fun f s₃ => match f with
          | .next | .cont => codeAny (model prog w) A (.forLoop (.Name x px) (.ref I) body orelse env) R s₃
          | .brk => R (.ok .next) s₃
          | .ret v => R (.ok (.ret v)) s₃) (fun _ _ => False) { s with heap := h', toks := tk }) :
    codeAny (model prog w) A (.forLoop (.Name x px) (.ref I) body orelse env) R s := by
  have hLw : env.locals ∉ wr := fun hm => hL (Wk.sub _ hm)
  have hw' : ∀ b ∈ wr, h₀.get? b = none ∧ b ≠ env.locals := fun b hb => ⟨hw b hb, fun q => hLw (q ▸ hb)⟩
  refine for_turn ?_
  refine Wk.item i s _ _ hi hs fun v h₁ tk₁ hv hs₁ k₁ => ?_
  refine wpAny_of_eq rfl ?_
  have j₁ := j.turn k₁ hw' hkn
  refine wpAny_assign_Name ?_
  refine e_storeCell (s := { s with heap := h₁, toks := tk₁ }) j₁ ic hic ho hc0 hcl (fun h₂ o₂ ho₂ j₂ mv₂ => ?_) hk hl
  refine h h₂ tk₁ v o₂ hv ho₂ j₂ (Wk.frame _ _ _ hs₁ fun b hb o e => mv₂.keep b o e (hfT b hb) (.inl (by simp; rintro rfl; exact hcf hb))) fun b o hb hbc hT e => ?_
  exact mv₂.keep b o (k₁ b o hb e) hT (.inl (by exact ni1 hbc))
theorem for_doneC {env : Env} {I : Addr} {fp wr : List Addr} {n : Nat} {P : Nat → Value → Prop} {Sx : Nat → Heap → Prop} {target : Expr} {body : List Stmt}
    (Wk : Walks prog w A I fp wr n P Sx) (hw : ∀ b ∈ wr, h₀.get? b = none) (hL : env.locals ∉ fp)
    (hs : Sx n s.heap) (j : J T g W h₀ env.locals s.heap m kn) (hkn : ∀ p ∈ kn, p.1 ∉ wr)
    (h : ∀ h' tk, J T g W h₀ env.locals h' m kn → (∀ b o, b ∉ wr → s.heap.get? b = some o → h'.get? b = some o) → R (.ok .next) { s with heap := h', toks := tk }) :
    codeAny (model prog w) A (.forLoop target (.ref I) body [] env) R s := by
  have hLw : env.locals ∉ wr := fun hm => hL (Wk.sub _ hm)
  have hw' : ∀ b ∈ wr, h₀.get? b = none ∧ b ≠ env.locals := fun b hb => ⟨hw b hb, fun q => hLw (q ▸ hb)⟩
  refine for_turn ?_
  refine Wk.done s _ _ hs fun h' tk kp => ?_
  exact wpAny_execs_nil (h h' tk (j.turn kp hw' hkn) kp)
end
end Mine
end
noncomputable section
open PySem PySem.W PySem.Calls PyProof.Rows Builtin Builtin.ObjectAttr Builtin.Str
namespace Mine
section
variable {T : Tabs} {K : Frag} {cd : ClassData} {mg mb : Str → Option Value} {w : World} {A : Around} {s : Shared} {g h₀ h h' : Heap} {W W' : List Addr} {L C : Addr} {m : Str → Option Value} {kn : List (Addr × Obj)} {R : Result → Shared → Prop} {E : Value → Shared → Prop} {prog : Program}
abbrev toldEnv (L c3 c2 c1 : Addr) : Env := envX "_law_told" (fScope (topSt 21)) L 380 (.ref 379) [("word", c3), ("width", c2), ("sizes", c1)]
theorem pair_bind {env : Env} {x y : Str} {v₁ v₂ : Value} {Q : Shared → Prop} (hh : A.handled = none) (j : J T g W h₀ env.locals s.heap m kn)
    (hl : env.kindOf x = some .local) (hl' : env.kindOf y = some .local) (hk : env.scope.kind = .function)
    (h : ∀ h' tk, J T g W h₀ env.locals h' (fun z => if z = x then some v₁ else if z = y then some v₂ else m z) kn → Mv T g [env.locals] s.heap h' → Q { s with heap := h', toks := tk }) :
    wpAny (model prog w) A (newTuple [v₁, v₂]) (fun v s₁ => wpAny (model prog w) A (unpackItems v 2 none) (fun items s₂ => wpAny (model prog w) A (assignInOrder (List.map (fun n => bindName env n) [x, y].reverse) items.reverse) (fun _ s₃ => Q s₃) E s₂) E s₁) E s := by
  refine j_newTupleK j (fun tt h₃ j₃ mv₃ => ?_)
  have htt := j₃.get (.head _)
  refine wpAny_unpackItems_tuple (s := { s with heap := h₃ }) (items := #[v₁, v₂]) hh ⟨_, htt, rfl, _, rfl⟩ fun h₄ x₄ => ?_
  have k₄ : ∀ b o, h₃.get? b = some o → h₄.get? b = some o := fun b o e => x₄ b o (Nat.ne_of_lt (Heap.lt_size e)) e
  obtain ⟨j₄, mv₄⟩ := j₃.keepsL k₄
  have mv24 := mv₃.trans mv₄ (by exact al0)
  show wpAny _ _ (assignInOrder [bindName env y, bindName env x] [v₂, v₁]) _ _ _
  unfold assignInOrder
  refine wpAny_bind (wpAny_holding ?_)
  refine wpAny_bindName (e_storeK (s := { s with heap := h₄ }) j₄ (fun h₅ t₅ j₅ mv₅ => ?_) hk hl')
  unfold assignInOrder
  refine wpAny_bind (wpAny_holding ?_)
  refine wpAny_bindName (e_storeK (s := { s with heap := h₅, toks := t₅ }) j₅ (fun h₆ t₆ j₆ mv₆ => ?_) hk hl)
  unfold assignInOrder
  refine wpAny_pure ?_
  exact h h₆ t₆ (j₆.sub (List.sublist_cons_self _ _)) (((mv24.weak (W' := [env.locals]) (by exact al0)).trans mv₅ (by exact al1 (.inl m1))).trans mv₆ (by exact al1 (.inl m1)))
theorem pair_bind2 {env : Env} {x y : Str} {px py pt : Pos} {kt : Nat} {v₁ v₂ : Value} {Q : Shared → Prop} (hh : A.handled = none) (j : J T g W h₀ env.locals s.heap m kn)
    (hl : env.kindOf x = some .local) (hl' : env.kindOf y = some .local) (hk : env.scope.kind = .function)
    (h : ∀ h' tk, J T g W h₀ env.locals h' (fun z => if z = y then some v₂ else if z = x then some v₁ else m z) kn → Mv T g [env.locals] s.heap h' → Q { s with heap := h', toks := tk }) :
    wpAny (model prog w) A (newTuple [v₁, v₂]) (fun v s₁ => wpAny (model prog w) A (assign (.Tuple [.Name x px, .Name y py] kt pt) env v) (fun _ s₃ => Q s₃) E s₁) E s := by
  refine j_newTupleK j (fun tt h₃ j₃ mv₃ => ?_)
  have htt := j₃.get (.head _)
  refine wpAny_assign_Tuple (s := { s with heap := h₃ }) (items := #[v₁, v₂]) hh ⟨_, htt, rfl, _, rfl⟩ (by rfl) (by rfl) fun h₄ x₄ => ?_
  have k₄ : ∀ b o, h₃.get? b = some o → h₄.get? b = some o := fun b o e => x₄ b o (Nat.ne_of_lt (Heap.lt_size e)) e
  obtain ⟨j₄, mv₄⟩ := j₃.keepsL k₄
  have mv24 := mv₃.trans mv₄ (by exact al0)
  refine wpAny_bind (wpAny_holding (wpAny_assign_Name ?_))
  refine e_storeK (s := { s with heap := h₄ }) j₄ (fun h₅ t₅ j₅ mv₅ => ?_) hk hl
  refine wpAny_bind (wpAny_holding (wpAny_assign_Name ?_))
  refine e_storeK (s := { s with heap := h₅, toks := t₅ }) j₅ (fun h₆ t₆ j₆ mv₆ => ?_) hk hl'
  refine wpAny_pure ?_
  exact h h₆ t₆ (j₆.sub (List.sublist_cons_self _ _)) (((mv24.weak (W' := [env.locals]) (by exact al0)).trans mv₅ (by exact al1 (.inl m1))).trans mv₆ (by exact al1 (.inl m1)))
end
end Mine
end
noncomputable section
open PySem PySem.W PySem.Calls PyProof.Rows Builtin Builtin.ObjectAttr Builtin.Str
namespace Mine
def letS (i : Nat) : Str := ⟨#[97 + i]⟩
def rowS (l : List Nat) : Str := ⟨(l.map (97 + ·)).toArray⟩
theorem let_at {i : Nat} (h : i < 6) : LetAt (letS i) i := by
  have : ∀ i, i < 6 → (Builtin.Str.occurrences "abcdef" (letS i) 0 ("abcdef" : Str).length 1).head? = some i := by decide +kernel
  have e := this i h
  refine ⟨(Builtin.Str.occurrences "abcdef" (letS i) 0 ("abcdef" : Str).length 1).tail, ?_⟩
  revert e
  cases Builtin.Str.occurrences "abcdef" (letS i) 0 ("abcdef" : Str).length 1 with
  | nil => intro e; cases e
  | cons a r => intro e; cases e; rfl
def lastP (rows : List (List Nat)) : Nat := (rows.getLast?.getD []).headD 0
def rowsStep (sizes : List Int) (width : Int) (rows : List (List Nat)) (i : Nat) : List (List Nat) :=
  if fitsB sizes width (lastP rows) i then rows.dropLast ++ [rows.getLast?.getD [] ++ [i]] else rows ++ [[i]]
theorem rowS_len (l : List Nat) : (rowS l).length = l.length := by
  show ((l.map (97 + ·)).toArray).size = _
  exact List.length_map _
theorem rowS_app (l : List Nat) (i : Nat) : rowS l ++ letS i = rowS (l ++ [i]) := by
  show (⟨(rowS l).cps ++ (letS i).cps⟩ : Str) = _
  unfold rowS letS
  simp
theorem strs_set {vs : List Value} {ys : List Str} {y z : Str} {t : Tok} (h : StrsAre vs (ys ++ [y])) : StrsAre (vs.set ys.length (.str z t)) (ys ++ [z]) := by
  induction ys generalizing vs with
  | nil =>
    cases h with
    | cons t' r hr => cases hr; exact .cons _ _ .nil
  | cons a ys ih =>
    cases h with
    | cons t' r hr => exact .cons _ _ (ih hr)
section
variable {T : Tabs} {K : Frag} {cd : ClassData} {mg mb : Str → Option Value} {w : World} {A : Around} {s : Shared} {g h₀ h h' : Heap} {W W' : List Addr} {L C : Addr} {m : Str → Option Value} {kn : List (Addr × Obj)} {R : Result → Shared → Prop} {E : Value → Shared → Prop} {prog : Program}
structure Fo (K : Frag) (mg : Str → Option Value) : Prop where
  told : FnAt K 380 (topSt 21) "_law_told" [] .none 379
  gF : mg "_law_fits" = some (.ref 375)
  kF : keepIn K (.ref 375) = true
  gz : mg "zip" = none
abbrev toldBody1 : List Stmt := forBody (stAt (fBody (topSt 21)) 1)
abbrev toldBody2 : List Stmt := forBody (stAt (fBody (topSt 21)) 3)
structure ToldCells (kn : List (Addr × Obj)) (c3 c2 c1 : Addr) (o3 o2 o1 : Obj) (sl : Addr) (width : Int) (tw : Tok) : Prop where
  i3 : (c3, o3) ∈ kn
  i2 : (c2, o2) ∈ kn
  i1 : (c1, o1) ∈ kn
  d2 : o2.data = .cell (some (.int width tw))
  d1 : o1.data = .cell (some (.ref sl))
set_option maxHeartbeats 4000000 in
theorem told_turn1 {rl sl c3 c2 c1 : Addr} {o3 o2 o1 : Obj} {its sits : Array Value} {ep sep : Nat} {rows : List (List Nat)} {i : Nat} {sizes : List Int} {width : Int} {tw tl : Tok} {Qf : Flow → Shared → Prop} (FO : Fo K mg) (FT : Ft K mg) (GM : Gm mg) (G : Gb T K mg mb g) (r : Rm A 4)
   (j : J T g [] h₀ L s.heap m ((rl, lstO its ep) :: kn)) (nrl : h₀.get? rl = none) (hm1 : m "rows" = some (.ref rl)) (CC : ToldCells kn c3 c2 c1 o3 o2 o1 sl width tw) (d3 : o3.data = .cell (some (.str (letS i) tl)))
   (hsl : h₀.get? sl = some (lstO sits sep)) (hi : IntsAre sits.toList sizes) (hn : sizes.length = 6)
   (hst : StrsAre its.toList (rows.map rowS)) (hi6 : i < 6) (hne : rows ≠ []) (hne' : ∀ r ∈ rows, r ≠ []) (hlp : lastP rows ≤ i) (hrl : rows.length ≤ 10) (hll : ∀ r ∈ rows, r.length ≤ 10)
   (hQ : ∀ h' tk its' ep', J T g [] h₀ L h' m ((rl, lstO its' ep') :: kn) → StrsAre its'.toList ((rowsStep sizes width rows i).map rowS) → Mv T g [rl] s.heap h' → Qf .next { s with heap := h', toks := tk }) :
   wpAny (model PR w) A (execs toldBody1 (toldEnv L c3 c2 c1)) Qf (fun _ _ => False) s := by
  obtain ⟨rs, q, rfl⟩ : ∃ rs q, rows = rs ++ [q] := ⟨rows.dropLast, rows.getLast hne, (List.dropLast_concat_getLast hne).symm⟩
  have hq : q ≠ [] := hne' q (by simp)
  obtain ⟨p, q', rfl⟩ : ∃ p q', q = p :: q' := by cases q with | nil => exact absurd rfl hq | cons p q' => exact ⟨p, q', rfl⟩
  have elast : (rs ++ [p :: q']).getLast?.getD [] = p :: q' := by simp
  have elp : lastP (rs ++ [p :: q']) = p := by unfold lastP; rw [elast]; rfl
  rw [elp] at hlp
  have hsz : its.size = rs.length + 1 := by
    have := StrsAre.len hst
    rw [Array.length_toList] at this
    simpa using this
  obtain ⟨tq, hget⟩ := StrsAre.get hst rs.length (by simp)
  have hget' : its[rs.length]? = some (.str (rowS (p :: q')) tq) := by
    rw [← Array.getElem?_toList, hget]
    simp
  have hp97 : (rowS (p :: q')).cps[0]? = some (97 + p) := by unfold rowS; exact rfl
  have hql := hll (p :: q') (by simp)
  have hrsl : rs.length ≤ 9 := by simp at hrl; omega
  have e3 := j.get (.tail _ CC.i3)
  have e2 := j.get (.tail _ CC.i2)
  have e1 := j.get (.tail _ CC.i1)
  refine wpAny_execs_cons (wpAny_If (wpAny_isTrue_value ?_))
  refine Call_ ?_
  refine j_global G j FO.gF ?_
  refine j_callWith FO.kF ?_
  refine args_cons ?_
  refine e_cell e1 CC.d1 rfl ?_
  refine args_cons ?_
  refine e_cell e2 CC.d2 rfl ?_
  refine args_cons ?_
  refine Subscript_ ?_
  refine Subscript_ ?_
  refine j_local j hm1 ?_
  refine wpAny_UnaryOp ?_
  refine wpAny_Constant_int (i := 1) (k := 0) (pos := ⟨0, 0, 0, 0⟩) ?_
  refine PySem.P.neg_int ?_
  refine subTail_builtin (T := "list") ⟨_, j.get (.head _), rfl⟩ list_getitem_lookup (wpAny_getItem_list_neg (items := its) (k := -1) ⟨_, j.get (.head _), rfl, _, rfl⟩ (by decide) (by lia) (by decide) (by rw [show ((-1 : Int) + (its.size : Int)).toNat = rs.length by lia]; exact hget') ?_) (.inl rfl)
  refine wpAny_Constant_int (i := 0) (k := 0) (pos := ⟨0, 0, 0, 0⟩) ?_
  refine subTail_builtin (T := "str") (typeIs_str _ _ _) PySem.F.slot_str_getitem.lookup (PySem.P.getItem_str (i := 0) (c := 97 + p) (by decide) ?_ ?_) (.inl rfl)
  · rw [show seqIndex? 0 (rowS (p :: q')).length = some 0 by rw [rowS_len]; simp [seqIndex?]]
    exact hp97
  refine args_cons ?_
  refine e_cell (s := { s with toks := _ }) e3 d3 rfl ?_
  refine args_nil ⟨j.mv.st.In G, wpAny_call ?_⟩
  refine fits_spec (s := { s with toks := _ }) FT GM G j.mv.st (r.mono (by decide)) (j.old hsl (.inl (by exact ni0))) hi hn (let_at (by exact Nat.lt_of_le_of_lt hlp hi6)) (let_at hi6) hlp hi6 fun h₁ t₁ mv₁ => ?_
  have j₁ := j.call0 mv₁
  have e3₁ := j₁.get (.tail _ CC.i3)
  have hrl₁ := j₁.get (.head _)
  show wpAny _ _ (truthy _) _ _ _
  refine wpAny_truthy_bool ?_
  cases hf : fitsB sizes width p i with
  | true =>
    have estep : rowsStep sizes width (rs ++ [p :: q']) i = rs ++ [p :: q' ++ [i]] := by
      unfold rowsStep
      rw [elp, hf, if_pos rfl, elast]
      simp
    rw [estep] at hQ
    rw [if_pos rfl]
    refine wpAny_execs_cons (wpAny_AugAssign_SubscriptAny ?_)
    refine j_local (s := { s with heap := h₁, toks := t₁ }) j₁ hm1 ?_
    refine wpAny_UnaryOp ?_
    refine wpAny_Constant_int (i := 1) (k := 0) (pos := ⟨0, 0, 0, 0⟩) ?_
    refine PySem.P.neg_int ?_
    refine wpAny_getItem_list_neg (items := its) (k := -1) ⟨_, hrl₁, rfl, _, rfl⟩ (by decide) (by lia) (by decide) (by rw [show ((-1 : Int) + (its.size : Int)).toNat = rs.length by lia]; exact hget') ?_
    refine e_cell (s := { s with heap := h₁, toks := _ }) e3₁ d3 rfl ?_
    refine PyProof.Rows.iadd_str (fun t₂' t₂ => ?_) (by rw [rowS_len, sizeLine_eq]; show _ + 1 ≤ _; exact Nat.lt_of_le_of_lt (by assumption) (by decide))
    refine set_last (s := { s with heap := h₁, toks := _ }) hrl₁ (by exact dlt hsz) (by lia) ?_
    obtain ⟨ep', ec⟩ := mapSeq_lst its (its.setIfInBounds (its.size - 1) (.str (rowS (p :: q') ++ letS i) t₂')) ep (fun x => x.setIfInBounds (its.size - 1) (.str (rowS (p :: q') ++ letS i) t₂')) rfl
    have j₂ := j₁.update 0 rfl (.inr nrl) (by exact tnL) ec rfl
    have mv₂ : Mv T g [rl] h₁ _ := j₁.updMv (.head _) (by exact tnL) ec rfl
    revert j₂ mv₂
    dsimp only
    show ∀ _ _, _
    generalize h₁.update rl _ = h₂
    intro j₂ mv₂
    refine wpAny_execs_nil ?_
    show wpAny _ _ (execs [] _) _ _ _
    refine wpAny_execs_nil ?_
    refine hQ h₂ _ _ _ j₂ ?_ ((mv₁.weak (W' := [rl]) (by exact al0)).trans mv₂ (by exact al1 (.inl m1)))
    rw [Array.toList_setIfInBounds, hsz, Nat.add_sub_cancel, List.map_append, rowS_app]
    rw [List.map_append] at hst
    have := strs_set (z := rowS (p :: q' ++ [i])) (t := t₂') hst
    rw [List.length_map] at this
    exact this
  | false =>
    have estep : rowsStep sizes width (rs ++ [p :: q']) i = (rs ++ [p :: q']) ++ [[i]] := by
      unfold rowsStep
      rw [elp, hf, if_neg (by decide)]
    rw [estep] at hQ
    rw [if_neg (by decide)]
    refine wpAny_execs_cons (wpAny_Expr (MethodCall_ ?_))
    refine j_local (s := { s with heap := h₁, toks := t₁ }) j₁ hm1 ?_
    refine getMethod_list_append (s := { s with heap := h₁, toks := t₁ }) hrl₁ rfl rfl ?_
    refine callWith_method1 (args_cons ?_)
    refine e_cell (s := { s with heap := h₁, toks := t₁ }) e3₁ d3 rfl ?_
    refine args_nil ?_
    refine list_append_any (s := { s with heap := h₁, toks := t₁ }) (LstAt.exact hrl₁) (by rw [sizeLine_eq]; lia) ?_
    obtain ⟨ep', ec⟩ := mapSeq_lst its (its.push (.str (letS i) tl)) ep (fun x => x.push (.str (letS i) tl)) rfl
    have j₂ := j₁.update 0 rfl (.inr nrl) (by exact tnL) ec rfl
    have mv₂ : Mv T g [rl] h₁ _ := j₁.updMv (.head _) (by exact tnL) ec rfl
    revert j₂ mv₂
    dsimp only
    show ∀ _ _, _
    generalize h₁.update rl _ = h₂
    intro j₂ mv₂
    refine wpAny_execs_nil ?_
    show wpAny _ _ (execs [] _) _ _ _
    refine wpAny_execs_nil ?_
    refine hQ h₂ _ _ _ j₂ ?_ ((mv₁.weak (W' := [rl]) (by exact al0)).trans mv₂ (by exact al1 (.inl m1)))
    rw [Array.toList_push, List.map_append]
    exact strs_snoc hst
end
end Mine
end
noncomputable section
open PySem PySem.W PySem.Calls PyProof.Rows Builtin Builtin.ObjectAttr Builtin.Str
namespace Mine
structure RowsOk (rows : List (List Nat)) (n : Nat) : Prop where
  ne : rows ≠ []
  all : ∀ r ∈ rows, r ≠ []
  flat : rows.flatten = List.range n
theorem len_flat {α : Type} : ∀ {l : List (List α)}, (∀ r ∈ l, r ≠ []) → l.length ≤ l.flatten.length
  | [], _ => Nat.le_refl _
  | a :: l, h => by
    have := len_flat (l := l) fun r hr => h r (.tail _ hr)
    have h1 := List.length_pos_iff.mpr (h a (.head _))
    rw [List.flatten_cons, List.length_append, List.length_cons]; lia
theorem len_mem_flat {α : Type} {r : List α} : ∀ {l : List (List α)}, r ∈ l → r.length ≤ l.flatten.length
  | a :: l, h => by
    rw [List.flatten_cons, List.length_append]
    rcases List.mem_cons.mp h with rfl | h
    · exact Nat.le_add_right _ _
    · have := len_mem_flat h; lia
theorem RowsOk.len {rows : List (List Nat)} {n : Nat} (h : RowsOk rows n) : rows.length ≤ n := by
  have := len_flat h.all
  rw [h.flat, List.length_range] at this
  exact this
theorem RowsOk.lens {rows : List (List Nat)} {n : Nat} (h : RowsOk rows n) : ∀ r ∈ rows, r.length ≤ n := fun r hr => by
  have := len_mem_flat hr
  rw [h.flat, List.length_range] at this
  exact this
theorem RowsOk.cases {rows : List (List Nat)} {n : Nat} (h : RowsOk rows n) : ∃ rs p q, rows = rs ++ [p :: q] := by
  have e := (List.dropLast_concat_getLast h.ne).symm
  have hq := h.all _ (List.getLast_mem h.ne)
  cases q : rows.getLast h.ne with
  | nil => exact absurd q hq
  | cons p q' => exact ⟨rows.dropLast, p, q', by rw [q] at e; exact e⟩
theorem lastP_app (rs : List (List Nat)) (p : Nat) (q : List Nat) : lastP (rs ++ [p :: q]) = p := by
  unfold lastP
  simp
theorem RowsOk.last {rows : List (List Nat)} {n : Nat} (h : RowsOk rows n) : lastP rows < n := by
  obtain ⟨rs, p, q, rfl⟩ := h.cases
  rw [lastP_app]
  have : p ∈ (rs ++ [p :: q]).flatten := by simp
  rw [h.flat] at this
  exact List.mem_range.mp this
theorem RowsOk.step {rows : List (List Nat)} {n : Nat} (h : RowsOk rows n) (sizes : List Int) (width : Int) : RowsOk (rowsStep sizes width rows n) (n + 1) := by
  obtain ⟨rs, p, q, rfl⟩ := h.cases
  unfold rowsStep
  split
  · have e : (rs ++ [p :: q]).dropLast ++ [(rs ++ [p :: q]).getLast?.getD [] ++ [n]] = rs ++ [p :: q ++ [n]] := by simp
    rw [e]
    refine ⟨by exact List.append_ne_nil_of_right_ne_nil _ (List.cons_ne_nil _ _), fun r hr => ?_, ?_⟩
    · rcases List.mem_append.mp hr with hr | hr
      · exact h.all r (List.mem_append_left _ hr)
      · rw [List.mem_singleton.mp hr]; exact List.cons_ne_nil _ _
    · have hf := h.flat
      rw [List.flatten_append, List.flatten_singleton] at hf
      rw [List.range_succ, ← hf]
      simp
  · refine ⟨by exact List.append_ne_nil_of_right_ne_nil _ (List.cons_ne_nil _ _), fun r hr => ?_, ?_⟩
    · rcases List.mem_append.mp hr with hr | hr
      · exact h.all r hr
      · rw [List.mem_singleton.mp hr]; exact List.cons_ne_nil _ _
    · rw [List.flatten_append, h.flat, List.range_succ]
      rfl
def rowsF (sizes : List Int) (width : Int) : List (List Nat) := (List.range' 1 5).foldl (rowsStep sizes width) [[0]]
theorem sign_b {i : Nat} {v : Value} (h : SignAt "bcdef" i v) : i < 5 ∧ ∃ u, v = .str (letS (i + 1)) u := by
  obtain ⟨c, u, hc, rfl⟩ := h
  have hi : i < ("bcdef" : Str).cps.size := (Array.getElem?_eq_some_iff.mp hc).1
  have h5 : ("bcdef" : Str).cps.size = 5 := by decide +kernel
  rw [h5] at hi
  refine ⟨hi, u, ?_⟩
  have : ∀ i, i < 5 → ("bcdef" : Str).cps[i]? = some (97 + (i + 1)) := by decide +kernel
  rw [this i hi] at hc
  cases hc
  rfl
section
variable {T : Tabs} {K : Frag} {cd : ClassData} {mg mb : Str → Option Value} {w : World} {A : Around} {s : Shared} {g h₀ h h' : Heap} {W W' : List Addr} {L C : Addr} {m : Str → Option Value} {kn : List (Addr × Obj)} {R : Result → Shared → Prop} {E : Value → Shared → Prop} {prog : Program}
set_option maxHeartbeats 4000000 in
theorem told_loop1 {I rl tl sl c3 c2 c1 : Addr} {o2 o1 : Obj} {sits : Array Value} {sep : Nat} {sizes : List Int} {width : Int} {tw : Tok} {Rf : Result → Shared → Prop} {Sx : Nat → Heap → Prop} {px : Pos} (FO : Fo K mg) (FT : Ft K mg) (GM : Gm mg) (G : Gb T K mg mb g) (r : Rm A 4)
   (Wk : Walks PR w A I [I] [I] 5 (SignAt "bcdef") Sx) (nI : h₀.get? I = none) (IL : I ≠ L) (IT : I ∉ T.map (·.2)) (Ik : I ∉ [rl, tl, c3, c2, c1])
   (nrl : h₀.get? rl = none) (n3 : h₀.get? c3 = none) (hm1 : m "rows" = some (.ref rl)) (d2 : o2.data = .cell (some (.int width tw))) (d1 : o1.data = .cell (some (.ref sl)))
   (hsl : h₀.get? sl = some (lstO sits sep)) (hi : IntsAre sits.toList sizes) (hn : sizes.length = 6) (s₀ : Shared)
   (hR : ∀ h' tk its ep o3 u, J T g [] h₀ L h' m [(rl, lstO its ep), (tl, lstO #[] 0), (c3, o3), (c2, o2), (c1, o1)] → o3.data = .cell u → StrsAre its.toList ((rowsF sizes width).map rowS) → RowsOk (rowsF sizes width) 6 → Rf (.ok .next) { s₀ with heap := h', toks := tk }) :
   ∀ (k i : Nat) (h : Heap) (tk : Nat) (its : Array Value) (ep : Nat) (rows : List (List Nat)) (o3 : Obj) (u : Option Value), 5 - i = k → i ≤ 5 → J T g [] h₀ L h m [(rl, lstO its ep), (tl, lstO #[] 0), (c3, o3), (c2, o2), (c1, o1)] → o3.data = .cell u →
     StrsAre its.toList (rows.map rowS) → RowsOk rows (i + 1) → (List.range' (i + 1) (5 - i)).foldl (rowsStep sizes width) rows = rowsF sizes width → Sx i h →
     codeAny (model PR w) A (.forLoop (.Name "word" px) (.ref I) toldBody1 [] (toldEnv L c3 c2 c1)) Rf { s₀ with heap := h, toks := tk } := by
  have hw : ∀ b ∈ [I], h₀.get? b = none := fun b hb => by rw [List.mem_singleton.mp hb]; exact nI
  have hL : L ∉ [I] := fun hm => IL (List.mem_singleton.mp hm).symm
  have knI : ∀ {its ep o3}, ∀ q ∈ [(rl, lstO its ep), (tl, lstO #[] 0), (c3, o3), (c2, o2), (c1, o1)], q.1 ∉ [I] := fun q hq hm => by
    rw [List.mem_singleton] at hm
    apply Ik
    rw [← hm]
    have := List.mem_map_of_mem (f := (·.1)) hq
    exact this
  intro k
  induction k with
  | zero =>
    intro i h tk its ep rows o3 u hk hi' j ho hst rok hgo hs
    have : i = 5 := by exact de0 hk hi'
    subst this
    refine for_doneC (s := { s₀ with heap := h, toks := tk }) Wk hw hL hs j knI fun h' tk' j' kp => ?_
    have hgo' : rows = rowsF sizes width := hgo
    subst hgo'
    exact hR h' tk' its ep o3 u j' ho hst rok
  | succ k ih =>
    intro i h tk its ep rows o3 u hk hi' j ho hst rok hgo hs
    have hin : i < 5 := by exact dlt hk
    refine for_stepC (s := { s₀ with heap := h, toks := tk }) 2 Wk hw hL (c := c3) (fun hm => Ik (by rw [← List.mem_singleton.mp hm]; exact m3)) (fun b hb => by rw [List.mem_singleton.mp hb]; exact IT) (.inr n3) rfl rfl rfl hin hs j knI rfl ho fun h₁ t₁ v o' hv ho' j₁ hs₁ k₁ => ?_
    obtain ⟨_, tv, rfl⟩ := sign_b hv
    replace j₁ : J T g [] h₀ L h₁ m [(rl, lstO its ep), (tl, lstO #[] 0), (c3, o'), (c2, o2), (c1, o1)] := j₁
    have l1 := rok.len
    refine told_turn1 (s := { s₀ with heap := h₁, toks := t₁ }) (i := i + 1) (rows := rows) FO FT GM G r j₁ nrl hm1 ⟨.tail _ (.head _), .tail _ (.tail _ (.head _)), .tail _ (.tail _ (.tail _ (.head _))), d2, d1⟩ ho' hsl hi hn hst (by exact Nat.lt_succ_of_le (by assumption)) rok.ne rok.all (Nat.le_of_lt rok.last) (by lia) (fun r hr => by have := rok.lens r hr; lia) fun h₂ t₂ its' ep' j₂ hst' mv₂ => ?_
    refine ih (i + 1) h₂ t₂ its' ep' _ o' _ (by exact dst hk) (by assumption) j₂ ho' hst' (rok.step sizes width) ?_ ?_
    · rw [← hgo, show 5 - i = (5 - (i + 1)) + 1 by (clear l1 hin hi' hk hn IL; lia), List.range'_succ, List.foldl_cons]
    · exact Wk.frame _ _ _ hs₁ fun b hb o e => mv₂.keep b o e (by rw [List.mem_singleton.mp hb]; exact IT) (.inl (by rw [List.mem_singleton.mp hb]; simp; rintro rfl; exact Ik (by exact m1)))
end
end Mine
end
noncomputable section
open PySem PySem.W PySem.Calls PyProof.Rows Builtin Builtin.ObjectAttr Builtin.Str
namespace Mine
def uptoF (sizes : List Int) (width : Int) (here : List Nat) (a : Nat) : Nat := (here.filter (fitsB sizes width a)).length
def toldGo (sizes : List Int) (width : Int) (here : List Nat) : List Nat → Str → Nat → Str × Nat
  | [], lt, dn => (lt, dn)
  | a :: r, lt, dn => toldGo sizes width here r (lt ++ (Txt.slice (rowS here) (some (dn : Int)) (some (uptoF sizes width here a : Int)) ++ Txt.upper (letS a))) (uptoF sizes width here a)
theorem sign_row {b : List Nat} {i : Nat} {v : Value} (h : SignAt (rowS b) i v) : ∃ o u, b[i]? = some o ∧ v = .str (letS o) u := by
  obtain ⟨c, u, hc, rfl⟩ := h
  unfold rowS at hc
  rw [List.getElem?_toArray, List.getElem?_map] at hc
  cases e : b[i]? with
  | none => rw [e] at hc; cases hc
  | some o => rw [e] at hc; cases hc; exact ⟨o, u, rfl, rfl⟩
theorem up_len {a : Nat} (h : a < 6) : (Txt.upper (letS a)).length = 1 := by
  have : ∀ a, a < 6 → (Txt.upper (letS a)).length = 1 := by decide +kernel
  exact this a h
theorem rowS_size (b : List Nat) : (rowS b).cps.size = b.length := rowS_len b
section
variable {T : Tabs} {K : Frag} {cd : ClassData} {mg mb : Str → Option Value} {w : World} {A : Around} {s : Shared} {g h₀ h h' : Heap} {W W' : List Addr} {L C : Addr} {m : Str → Option Value} {kn : List (Addr × Obj)} {R : Result → Shared → Prop} {E : Value → Shared → Prop} {prog : Program}
abbrev toldBody3 : List Stmt := forBody (stAt toldBody2 1)
set_option maxHeartbeats 4000000 in
theorem told_turn2 {sl c3 c2 c1 : Addr} {o3 o2 o1 : Obj} {sits : Array Value} {sep : Nat} {a dn : Nat} {here : List Nat} {lt : Str} {sizes : List Int} {width : Int} {tw tl th tt td : Tok} {Qf : Flow → Shared → Prop} (FO : Fo K mg) (FT : Ft K mg) (GM : Gm mg) (G : Gb T K mg mb g) (r : Rm A 4)
   (j : J T g [] h₀ L s.heap m kn) (hm1 : m "here" = some (.str (rowS here) th)) (hm2 : m "letters" = some (.str lt tt)) (hm3 : m "done" = some (.int (dn : Int) td)) (CC : ToldCells kn c3 c2 c1 o3 o2 o1 sl width tw) (d3 : o3.data = .cell (some (.str (letS a) tl)))
   (hsl : h₀.get? sl = some (lstO sits sep)) (hi : IntsAre sits.toList sizes) (hn : sizes.length = 6)
   (ha : a < 6) (hh : ∀ o ∈ here, a ≤ o ∧ o < 6) (hhl : here.length ≤ 10) (hll : lt.length ≤ 1000)
   (hQ : ∀ s' m', J T g [] h₀ L s'.heap m' kn → (∀ z : Str, z ≠ "letters" → z ≠ "done" → z ≠ "upto" → m' z = m z) → (∃ t, m' "letters" = some (.str (lt ++ (Txt.slice (rowS here) (some (dn : Int)) (some (uptoF sizes width here a : Int)) ++ Txt.upper (letS a))) t)) → (∃ t, m' "done" = some (.int (uptoF sizes width here a : Int) t)) → Mv T g [L] s.heap s'.heap → Ok s s' → Qf .next s') :
   wpAny (model PR w) A (execs toldBody3 (toldEnv L c3 c2 c1)) Qf (fun _ _ => False) s := by
  have e3 := j.get CC.i3
  have e2 := j.get CC.i2
  have e1 := j.get CC.i1
  have c3T := (j.has _ CC.i3).2.2.1
  have c2T := (j.has _ CC.i2).2.2.1
  have c1T := (j.has _ CC.i1).2.2.1
  refine wpAny_execs_cons (wpAny_Assign_Name (Call_ ?_))
  refine j_builtin G j GM.len boot_len ?_
  refine callWith_method1 (first := []) (args_cons ?_)
  refine j_listComp (cl := [("word", c3), ("width", c2), ("sizes", c1)]) (n := (rowS here).cps.size) (p := pickP here (fitsB sizes width a)) (F := fun _ _ _ _ => True) j (by rw [rowS_size]; exact Nat.le_trans (by assumption) (by decide)) (by rfl) ?_ ?_
  · refine j_local j hm1 ?_
    refine src_str r.h (Mv.refl j.mv.st) ⟨rfl, id⟩ j.mv.st (by rfl) (by rfl) fun s₂ ok₂ => Body.one fun D' C' i' s₄ m₄ m₄' its₄ ep₄ hi4 hu j₄ mv₄ ok₄ => ?_
    obtain ⟨v', ev', rfl⟩ := hu
    obtain ⟨o, u, eo, rfl⟩ := sign_row ev'
    have ho := hh o (List.mem_of_getElem? eo)
    have e1' := mv₄.keep _ _ e1 c1T (.inl (by exact ni0))
    have e2' := mv₄.keep _ _ e2 c2T (.inl (by exact ni0))
    have e3' := mv₄.keep _ _ e3 c3T (.inl (by exact ni0))
    have hsl' := mv₄.keep _ _ (j.old hsl (.inl (by exact ni0))) (j.mv.st.notTab (j.old hsl (.inl (by exact ni0))) (by nofun)) (.inl (by exact ni0))
    refine wpAny_isTrue_value ?_
    refine Call_ ?_
    refine e_global G j₄.mv.st FO.gF ?_
    refine j_callWith FO.kF ?_
    refine args_cons ?_
    refine e_cell e1' CC.d1 rfl ?_
    refine args_cons ?_
    refine e_cell e2' CC.d2 rfl ?_
    refine args_cons ?_
    refine e_cell e3' d3 rfl ?_
    refine args_cons ?_
    refine e_local j₄ (v := .str (letS o) u) (by rw [if_pos rfl]) ?_
    refine args_nil ⟨j₄.mv.st.In G, wpAny_call ?_⟩
    refine fits_spec FT GM G j₄.mv.st (r.mono (by decide)) hsl' hi hn (let_at ha) (let_at ho.2) ho.1 ho.2 fun h₅ t₅ mv₅ => ?_
    show wpAny _ _ (truthy _) _ _ _
    refine wpAny_truthy_bool ⟨by unfold pickP; rw [eo], mv₅, ⟨rfl, id⟩, fun _ => ?_⟩
    have j₅ := j₄.call0 mv₅
    refine e_local (s := { s₄ with heap := h₅, toks := t₅ }) j₅ (v := .str (letS o) u) (by rw [if_pos rfl]) ?_
    exact ⟨trivial, Mv.refl j₅.mv.st, ⟨rfl, id⟩⟩
  · intro s₅ D' its₅ ep₅ ws j₅ mv₅ ok₅ hD gD eD hP
    refine args_nil ?_
    have hlen : its₅.size = uptoF sizes width here a := by
      have h1 := hP.length
      rw [rowS_size] at h1
      have h2 := (picks here (fitsB sizes width a) here.length (Nat.le_refl _)).length
      rw [List.take_length] at h2
      exact (Array.length_toList (xs := its₅)).symm.trans (h1.symm.trans h2)
    have hle : uptoF sizes width here a ≤ here.length := List.length_filter_le _ _
    refine PyProof.Rows.len_list (items := its₅) ⟨_, eD, rfl, _, rfl⟩ (by lia) ?_
    rw [hlen]
    have Mv05 := mv₅
    refine j_storeK (s := { s₅ with toks := _ }) j₅ fun h₆ t₆ j₆ mv₆ => ?_
    dsimp only
    have okk : s₅.os = s.os := ok₅.1
    have e3₆ := j₆.get CC.i3
    refine wpAny_execs_cons (wpAny_AugAssign_Name ?_)
    refine wpAny_loadName_local rfl rfl j₆.ns (v := .str lt tt) (by rw [if_neg (by decide)]; exact hm2) ?_
    refine wpAny_BinOp ?_
    refine Subscript_ ?_
    refine j_local (s := { s₅ with heap := h₆, toks := t₆ }) j₆ (v := .str (rowS here) th) (by rw [if_neg (by decide)]; exact hm1) ?_
    refine e_Slice ?_
    refine j_local (s := { s₅ with heap := h₆, toks := t₆ }) j₆ (v := .int (dn : Int) td) (by rw [if_neg (by decide)]; exact hm3) ?_
    refine j_local (s := { s₅ with heap := h₆, toks := t₆ }) j₆ (v := .int (uptoF sizes width here a : Int) (s₅.toks + 1)) (by rw [if_pos rfl]) ?_
    dsimp only
    obtain ⟨x₁, h₇, ex, eh, j₇, mv₇, _, _⟩ := J.pushK j₆ (slObj (.int (dn : Int) td) (.int (uptoF sizes width here a : Int) (s₅.toks + 1))) rfl
    rw [← ex, ← eh]
    refine str_slice (s := { s₅ with heap := h₇, toks := t₆ }) (l := some ((dn : Int), td)) (u := some ((uptoF sizes width here a : Int), s₅.toks + 1)) ⟨_, j₇.get (.head _), rfl, rfl⟩ (by rw [rowS_len]; exact Nat.le_trans (by assumption) (by decide)) (fun t₈' t₈ => ?_) (.inr rfl)
    have j₈ := j₇.sub (List.sublist_cons_self _ _)
    have e3₈ := j₈.get CC.i3
    refine MethodCall_ ?_
    refine e_cell (s := { s₅ with heap := h₇, toks := t₈ }) e3₈ d3 rfl ?_
    refine PySem.GM.upper ?_
    refine callWith_method0 ?_
    have ul := up_len ha
    refine SC.upper (by unfold Builtin.Str.tooLong; rw [decide_eq_false_iff_not, sizeLine_eq, ul]; decide) ?_
    have sll : (Txt.slice (rowS here) (some (dn : Int)) (some (uptoF sizes width here a : Int))).length ≤ 10 := by
      have := PyProof.Txt.length_slice_le (rowS here) (some (dn : Int)) (some (uptoF sizes width here a : Int))
      rw [rowS_len] at this
      exact Nat.le_trans this hhl
    refine PyProof.Rows.add_str (fun t₉' t₉ => ?_) (by rw [sizeLine_eq, ul]; show Str.length (Txt.slice _ _ _) + 1 ≤ _; exact Nat.le_trans (Nat.add_le_add_right sll 1) (by decide))
    refine PyProof.Rows.iadd_str (fun ta tk => ?_) (by rw [sizeLine_eq, Str.length_append, ul]; have : Str.length (Txt.slice _ _ _) + 1 ≤ _ := Nat.add_le_add_right sll 1; exact Nat.le_trans (Nat.add_le_add hll this) (by decide))
    refine j_storeK (s := { s₅ with heap := h₇, toks := _ }) j₈ fun h₉ tk₉ j₉ mv₉ => ?_
    dsimp only
    refine wpAny_execs_cons (wpAny_Assign_Name ?_)
    refine j_local (s := { s₅ with heap := h₉, toks := tk₉ }) j₉ (v := .int (uptoF sizes width here a : Int) (s₅.toks + 1)) (by rw [if_neg (by decide), if_pos rfl]) ?_
    refine j_storeK (s := { s₅ with heap := h₉, toks := tk₉ }) j₉ fun h₁₀ t₁₀ j₁₀ mv₁₀ => ?_
    refine wpAny_execs_nil ?_
    refine hQ { s₅ with heap := h₁₀, toks := t₁₀ } _ j₁₀ (fun z h1 h2 h3 => ?_) ⟨ta, ?_⟩ ⟨s₅.toks + 1, ?_⟩ ((((mv₅.weak (W' := [L]) (by exact al0)).trans mv₆ (by exact al1 (.inl m1))).trans mv₇ (by exact al0) |>.trans mv₉ (by exact al1 (.inl m1))).trans mv₁₀ (by exact al1 (.inl m1))) ⟨ok₅.1, ok₅.2⟩
    · rw [if_neg h2, if_neg h1, if_neg h3]
    · rw [if_neg (by decide), if_pos rfl]
      rfl
    · rw [if_pos rfl]
end
end Mine
end
noncomputable section
open PySem PySem.W PySem.Calls PyProof.Rows Builtin Builtin.ObjectAttr Builtin.Str
namespace Mine
def toldRow (sizes : List Int) (width : Int) (ab he : List Nat) : Str := (toldGo sizes width he ab "" 0).1 ++ Txt.slice (rowS he) (some ((toldGo sizes width he ab "" 0).2 : Int)) none
section
variable {T : Tabs} {K : Frag} {cd : ClassData} {mg mb : Str → Option Value} {w : World} {A : Around} {s : Shared} {g h₀ h h' : Heap} {W W' : List Addr} {L C : Addr} {m : Str → Option Value} {kn : List (Addr × Obj)} {R : Result → Shared → Prop} {E : Value → Shared → Prop} {prog : Program}
set_option maxHeartbeats 4000000 in
theorem told_loop2 {I tl sl c3 c2 c1 : Addr} {ot o2 o1 : Obj} {sits : Array Value} {sep : Nat} {ab he : List Nat} {sizes : List Int} {width : Int} {tw th : Tok} {Rf : Result → Shared → Prop} {Sx : Nat → Heap → Prop} {px : Pos} {m₀ : Str → Option Value} {ha : Heap} (FO : Fo K mg) (FT : Ft K mg) (GM : Gm mg) (G : Gb T K mg mb g) (r : Rm A 4)
   (Wk : Walks PR w A I [I] [I] (rowS ab).cps.size (SignAt (rowS ab)) Sx) (nI : h₀.get? I = none) (IL : I ≠ L) (IT : I ∉ T.map (·.2)) (Ik : I ∉ [tl, c3, c2, c1])
   (n3 : h₀.get? c3 = none) (hm1 : m₀ "here" = some (.str (rowS he) th)) (d2 : o2.data = .cell (some (.int width tw))) (d1 : o1.data = .cell (some (.ref sl)))
   (hsl : h₀.get? sl = some (lstO sits sep)) (hi : IntsAre sits.toList sizes) (hn : sizes.length = 6) (hab : ∀ a ∈ ab, a < 6) (hh : ∀ a ∈ ab, ∀ o ∈ he, a ≤ o ∧ o < 6) (hhl : he.length ≤ 10) (hal : ab.length ≤ 10) (s₀ : Shared)
   (hR : ∀ s' m' o3 u t1 t2, J T g [] h₀ L s'.heap m' [(tl, ot), (c3, o3), (c2, o2), (c1, o1)] → o3.data = .cell u → (∀ z : Str, z ≠ "letters" → z ≠ "done" → z ≠ "upto" → m' z = m₀ z) → m' "letters" = some (.str (toldGo sizes width he ab "" 0).1 t1) → m' "done" = some (.int ((toldGo sizes width he ab "" 0).2 : Int) t2) → (toldGo sizes width he ab "" 0).1.length ≤ 1000 → Ok s₀ s' → (∀ b o, b ∉ T.map (·.2) → b ≠ I → b ≠ L → b ≠ c3 → ha.get? b = some o → s'.heap.get? b = some o) → Rf (.ok .next) s') :
   ∀ (k i : Nat) (s : Shared) (m : Str → Option Value) (o3 : Obj) (u : Option Value) (lt : Str) (dn : Nat) (t1 t2 : Tok), (rowS ab).cps.size - i = k → i ≤ (rowS ab).cps.size → J T g [] h₀ L s.heap m [(tl, ot), (c3, o3), (c2, o2), (c1, o1)] → o3.data = .cell u →
     (∀ z : Str, z ≠ "letters" → z ≠ "done" → z ≠ "upto" → m z = m₀ z) → m "letters" = some (.str lt t1) → m "done" = some (.int (dn : Int) t2) → lt.length ≤ 11 * i → toldGo sizes width he (ab.drop i) lt dn = toldGo sizes width he ab "" 0 → Sx i s.heap → Ok s₀ s → (∀ b o, b ∉ T.map (·.2) → b ≠ I → b ≠ L → b ≠ c3 → ha.get? b = some o → s.heap.get? b = some o) →
     codeAny (model PR w) A (.forLoop (.Name "word" px) (.ref I) toldBody3 [] (toldEnv L c3 c2 c1)) Rf s := by
  have hw : ∀ b ∈ [I], h₀.get? b = none := fun b hb => by rw [List.mem_singleton.mp hb]; exact nI
  have hL : L ∉ [I] := fun hm => IL (List.mem_singleton.mp hm).symm
  have knI : ∀ {o3}, ∀ q ∈ [(tl, ot), (c3, o3), (c2, o2), (c1, o1)], q.1 ∉ [I] := fun q hq hm => by
    rw [List.mem_singleton] at hm
    apply Ik
    rw [← hm]
    have := List.mem_map_of_mem (f := (·.1)) hq
    exact this
  have hsz : (rowS ab).cps.size = ab.length := rowS_size ab
  intro k
  induction k with
  | zero =>
    intro i s m o3 u lt dn t1 t2 hk hi' j ho hm hml hmd hll hgo hs ok kpa
    have : i = (rowS ab).cps.size := by exact de0 hk hi'
    subst this
    refine for_doneC Wk hw hL hs j knI fun h' tk' j' kp => ?_
    rw [List.drop_of_length_le (by lia)] at hgo
    have hgo' : (lt, dn) = toldGo sizes width he ab "" 0 := hgo
    refine hR { s with heap := h', toks := tk' } m o3 u t1 t2 j' ho hm ?_ ?_ ?_ ⟨ok.1, ok.2⟩ fun b ob h1 h2 h3 h4 e => kp b ob (by exact ni1 h2) (kpa b ob h1 h2 h3 h4 e)
    · rw [← hgo']; exact hml
    · rw [← hgo']; exact hmd
    · rw [← hgo']; show lt.length ≤ _; lia
  | succ k ih =>
    intro i s m o3 u lt dn t1 t2 hk hi' j ho hm hml hmd hll hgo hs ok kpa
    have hin : i < (rowS ab).cps.size := by exact dlt hk
    refine for_stepC 1 Wk hw hL (c := c3) (fun hm => Ik (by rw [← List.mem_singleton.mp hm]; exact m2)) (fun b hb => by rw [List.mem_singleton.mp hb]; exact IT) (.inr n3) rfl rfl rfl hin hs j knI rfl ho fun h₁ t₁ v o' hv ho' j₁ hs₁ k₁ => ?_
    obtain ⟨a, tv, ea, rfl⟩ := sign_row hv
    have ha := List.mem_of_getElem? ea
    have hi2 : i < ab.length := by exact dlt3 hk hsz
    have ea' : ab[i] = a := (List.getElem?_eq_some_iff.mp ea).2
    rw [List.drop_eq_getElem_cons hi2, ea'] at hgo
    replace j₁ : J T g [] h₀ L h₁ m [(tl, ot), (c3, o'), (c2, o2), (c1, o1)] := j₁
    refine told_turn2 (s := { s with heap := h₁, toks := t₁ }) (a := a) (here := he) (lt := lt) (dn := dn) FO FT GM G r j₁ (by rw [hm _ (by decide) (by decide) (by decide)]; exact hm1) hml hmd ⟨.tail _ (.head _), .tail _ (.tail _ (.head _)), .tail _ (.tail _ (.tail _ (.head _))), d2, d1⟩ ho' hsl hi hn (hab a ha) (hh a ha) hhl (by lia) fun s₂ m₂ j₂ hm₂ hl₂ hd₂ mv₂ ok₂ => ?_
    obtain ⟨t3, hl₂⟩ := hl₂
    obtain ⟨t4, hd₂⟩ := hd₂
    refine ih (i + 1) s₂ m₂ o' _ _ _ t3 t4 (by exact dst hk) (by assumption) j₂ ho' (fun z h1 h2 h3 => by rw [hm₂ z h1 h2 h3, hm z h1 h2 h3]) hl₂ hd₂ ?_ hgo ?_ ⟨ok₂.1.trans ok.1, fun ab => ok₂.2 (ok.2 ab)⟩ fun b ob h1 h2 h3 h4 e => mv₂.keep b ob (k₁ b ob (by exact ni1 h2) h4 h1 (kpa b ob h1 h2 h3 h4 e)) h1 (.inl (by exact ni1 h3))
    · rw [Str.length_append, Str.length_append, up_len (hab a ha)]
      have := PyProof.Txt.length_slice_le (rowS he) (some (dn : Int)) (some (uptoF sizes width he a : Int))
      rw [rowS_len] at this
      lia
    · exact Wk.frame _ _ _ hs₁ fun b hb o e => mv₂.keep b o e (by rw [List.mem_singleton.mp hb]; exact IT) (.inl (by rw [List.mem_singleton.mp hb]; simp; exact IL))
end
end Mine
end
noncomputable section
open PySem PySem.W PySem.Calls PyProof.Rows Builtin Builtin.ObjectAttr Builtin.Str
namespace Mine
section
variable {T : Tabs} {K : Frag} {cd : ClassData} {mg mb : Str → Option Value} {w : World} {A : Around} {s : Shared} {g h₀ h h' : Heap} {W W' : List Addr} {L C : Addr} {m : Str → Option Value} {kn : List (Addr × Obj)} {R : Result → Shared → Prop} {E : Value → Shared → Prop} {prog : Program}
set_option maxHeartbeats 4000000 in
theorem told_turn3 {tl sl c3 c2 c1 : Addr} {o3 o2 o1 : Obj} {its sits : Array Value} {ep sep : Nat} {ab he : List Nat} {sizes : List Int} {width : Int} {tw th ta : Tok} {u : Option Value} {Qf : Flow → Shared → Prop} (FO : Fo K mg) (FT : Ft K mg) (GM : Gm mg) (G : Gb T K mg mb g) (r : Rm A 4)
   (j : J T g [] h₀ L s.heap m [(tl, lstO its ep), (c3, o3), (c2, o2), (c1, o1)]) (ntl : h₀.get? tl = none) (n3 : h₀.get? c3 = none) (hm0 : m "above" = some (.str (rowS ab) ta)) (hm1 : m "here" = some (.str (rowS he) th)) (hm2 : m "told" = some (.ref tl)) (d3 : o3.data = .cell u) (d2 : o2.data = .cell (some (.int width tw))) (d1 : o1.data = .cell (some (.ref sl)))
   (hsl : h₀.get? sl = some (lstO sits sep)) (hi : IntsAre sits.toList sizes) (hn : sizes.length = 6) (hits : its.size ≤ 1000)
   (hab : ∀ a ∈ ab, a < 6) (hh : ∀ a ∈ ab, ∀ o ∈ he, a ≤ o ∧ o < 6) (hhl : he.length ≤ 10) (hal : ab.length ≤ 10)
   (hQ : ∀ s' m' o3' u' ep' t', J T g [] h₀ L s'.heap m' [(tl, lstO (its.push (.str (toldRow sizes width ab he) t')) ep'), (c3, o3'), (c2, o2), (c1, o1)] → o3'.data = .cell u' → (∀ z : Str, z ≠ "letters" → z ≠ "done" → z ≠ "upto" → m' z = m z) → (∀ b o, b ∉ T.map (·.2) → b ≠ L → b ≠ tl → b ≠ c3 → s.heap.get? b = some o → s'.heap.get? b = some o) → Ok s s' → Qf .next s') :
   wpAny (model PR w) A (execs toldBody2 (toldEnv L c3 c2 c1)) Qf (fun _ _ => False) s := by
  refine wpAny_execs_cons (Assign_Tuple ?_)
  refine Tuple_ ?_
  refine args_cons ?_
  refine Constant_str ?_
  refine args_cons ?_
  refine wpAny_Constant_int (i := 0) (k := 0) (pos := ⟨0, 0, 0, 0⟩) ?_
  refine args_nil ?_
  refine pair_bind2 (s := { s with toks := _ }) (x := "letters") (y := "done") r.h j (by rfl) (by rfl) (by rfl) fun h₁ t₁ j₁ mv₁ => ?_
  dsimp only
  refine wpAny_execs_cons (wpAny_For ?_)
  refine j_local (s := { s with heap := h₁, toks := t₁ }) j₁ (v := .str (rowS ab) ta) (by rw [if_neg (by decide), if_neg (by decide)]; exact hm0) ?_
  refine wpAny_pyIter_str fun o Sx Wk hS => ?_
  have k₂ : ∀ b o', h₁.get? b = some o' → (h₁.push o).get? b = some o' := fun b o' e => Heap.get?_push_of_some _ e
  obtain ⟨j₂, mv₂⟩ := j₁.keepsL k₂
  have nI : h₁.get? h₁.objs.size = none := Heap.get?_none_of_le (Nat.le_refl _)
  have ltI : ∀ {b o'}, h₁.get? b = some o' → h₁.objs.size ≠ b := fun e => (Nat.ne_of_lt (Heap.lt_size e)).symm
  have IT : h₁.objs.size ∉ T.map (·.2) := fun hm => by
    obtain ⟨q, hq, e⟩ := List.mem_map.mp hm
    obtain ⟨ps, ps₀, x, y, z⟩ := j₁.mv.st.tab q hq
    exact ltI y.2 e.symm
  obtain ⟨oL, _, _, eL, _⟩ := id j₁.ns
  have nI0 : h₀.get? h₁.objs.size = none := none_back j₁.mv nI
  have IL : h₁.objs.size ≠ L := ltI eL
  have Ik : h₁.objs.size ∉ [tl, c3, c2, c1] := by
    intro hm
    simp only [List.mem_cons, List.not_mem_nil, or_false] at hm
    rcases hm with q | q | q | q
    · exact ltI (j₁.get (.head _)) q
    · exact ltI (j₁.get (.tail _ (.head _))) q
    · exact ltI (j₁.get (.tail _ (.tail _ (.head _)))) q
    · exact ltI (j₁.get (.tail _ (.tail _ (.tail _ (.head _))))) q
  dsimp only at hS Wk ⊢
  generalize h₁.push o = h₂ at hS j₂ mv₂ k₂ ⊢
  generalize h₁.objs.size = I at Wk IT nI nI0 IL Ik ⊢
  have mv02 := (mv₁.trans (mv₂.weak (W' := [L]) (by exact al0)) (by exact al1 (.inl m1)))
  have sz6 : (rowS ab).cps.size = ab.length := rowS_size ab
  refine told_loop2 (h₀ := h₀) (m₀ := fun z => if z = "done" then some (.int 0 (s.toks + 1)) else if z = "letters" then some (.str "" s.toks) else m z) FO FT GM G r (Wk A r.h) nI0 IL IT Ik n3 (by rw [if_neg (by decide), if_neg (by decide)]; exact hm1) d2 d1 hsl hi hn hab hh hhl hal s (fun s₃ m₃ o3' u' q1 q2 j₃ ho3 hm₃ hl₃ hd₃ hlen ok₃ kp₃ => ?_) (rowS ab).cps.size 0 { s with heap := h₂, toks := t₁ } _ o3 u "" 0 s.toks (s.toks + 1) rfl (Nat.zero_le _) j₂ d3 (fun z _ _ _ => rfl) (by rw [if_neg (by decide), if_pos rfl]) (by rw [if_pos rfl]; rfl) (by decide) (by rw [List.drop_zero]) hS ⟨rfl, id⟩ (ha := h₂) fun b ob _ _ _ _ e => e
  dsimp only
  have sll : (Txt.slice (rowS he) (some ((toldGo sizes width he ab "" 0).2 : Int)) none).length ≤ 10 := by
    have := PyProof.Txt.length_slice_le (rowS he) (some ((toldGo sizes width he ab "" 0).2 : Int)) none
    rw [rowS_len] at this
    exact Nat.le_trans this hhl
  refine wpAny_execs_cons (wpAny_Expr (MethodCall_ ?_))
  have m3 : ∀ {z : Str} {v : Value}, m z = some v → z ≠ "letters" → z ≠ "done" → z ≠ "upto" → m₃ z = some v := fun hz h1 h2 h3 => by rw [hm₃ _ h1 h2 h3, if_neg h2, if_neg h1]; exact hz
  refine j_local j₃ (m3 hm2 (by decide) (by decide) (by decide)) ?_
  have htl := j₃.get (.head _)
  refine getMethod_list_append htl rfl rfl ?_
  refine callWith_method1 (args_cons ?_)
  refine wpAny_BinOp ?_
  refine j_local j₃ hl₃ ?_
  refine Subscript_ ?_
  refine j_local j₃ (m3 hm1 (by decide) (by decide) (by decide)) ?_
  refine e_Slice ?_
  refine j_local j₃ hd₃ ?_
  refine wpAny_pure ?_
  dsimp only
  obtain ⟨x₁, h₄, ex, eh, j₄, mv₄, _, _⟩ := J.pushK j₃ (slObj (.int ((toldGo sizes width he ab "" 0).2 : Int) q2) .none) rfl
  rw [← ex, ← eh]
  refine str_slice (s := { s₃ with heap := h₄ }) (l := some (((toldGo sizes width he ab "" 0).2 : Int), q2)) (u := none) ⟨_, j₄.get (.head _), rfl, rfl⟩ (by rw [rowS_len]; exact Nat.le_trans (by assumption) (by decide)) (fun t₅' t₅ => ?_) (.inr rfl)
  refine PyProof.Rows.add_str (fun t₆' t₆ => ?_) (by rw [sizeLine_eq]; exact Nat.le_trans (Nat.add_le_add hlen sll) (by decide))
  have j₅ := j₄.sub (List.sublist_cons_self _ _)
  refine args_nil ?_
  refine list_append_any (s := { s₃ with heap := h₄, toks := t₆ }) (LstAt.exact (j₅.get (.head _))) (by rw [sizeLine_eq]; exact Nat.le_trans (by assumption) (by decide)) ?_
  obtain ⟨ep', ec⟩ := mapSeq_lst its (its.push (.str (toldRow sizes width ab he) t₆')) ep (fun x => x.push (.str (toldRow sizes width ab he) t₆')) rfl
  have j₆ := j₅.update 0 rfl (.inr ntl) (by exact tnL) ec rfl
  have mv₆ : Mv T g [tl] h₄ _ := j₅.updMv (.head _) (by exact tnL) ec rfl
  show wpAny _ _ _ _ _ { s₃ with heap := h₄.update tl (Obj.mapSeq fun x => x.push (.str (toldRow sizes width ab he) t₆')), toks := t₆ }
  revert j₆ mv₆
  show ∀ _ _, _
  generalize h₄.update tl _ = h₇
  intro j₆ mv₆
  refine wpAny_execs_nil ?_
  refine hQ { s₃ with heap := h₇, toks := t₆ } m₃ o3' u' ep' t₆' j₆ ho3 (fun z h1 h2 h3 => by rw [hm₃ z h1 h2 h3, if_neg h2, if_neg h1]) (fun b ob hT hbL hbt hbc e => ?_) ⟨ok₃.1, ok₃.2⟩
  have hbI : b ≠ I := fun q => by
    have := mv₁.keep b ob e hT (.inl (by exact ni1 hbL))
    rw [q, nI] at this
    cases this
  have eb := kp₃ b ob hT hbI hbL hbc (mv02.keep b ob e hT (.inl (by exact ni1 hbL)))
  exact mv₆.keep b ob (mv₄.keep b ob eb hT (.inl (by exact ni0))) hT (.inl (by exact ni1 hbt))
end
end Mine
end
noncomputable section
open PySem PySem.W PySem.Calls PyProof.Rows Builtin Builtin.ObjectAttr Builtin.Str
namespace Mine
def toldRows (sizes : List Int) (width : Int) (abs rows : List (List Nat)) : List Str := (abs.zip rows).map fun p => toldRow sizes width p.1 p.2
structure ZipOk (abs rows : List (List Nat)) : Prop where
  a : ∀ p ∈ abs.zip rows, ∀ a ∈ p.1, a < 6
  o : ∀ p ∈ abs.zip rows, ∀ a ∈ p.1, ∀ o ∈ p.2, a ≤ o ∧ o < 6
  la : ∀ p ∈ abs.zip rows, p.1.length ≤ 10
  lo : ∀ p ∈ abs.zip rows, p.2.length ≤ 10
theorem StrsAre.at' {vs : List Value} {ys : List Str} (h : StrsAre vs ys) {i : Nat} {v : Value} (e : vs[i]? = some v) : ∃ y t, ys[i]? = some y ∧ v = .str y t := by
  induction h generalizing i with
  | nil => cases e
  | cons y t _ ih =>
    cases i with
    | zero => cases e; exact ⟨_, _, rfl, rfl⟩
    | succ i => exact ih e
section
variable {T : Tabs} {K : Frag} {cd : ClassData} {mg mb : Str → Option Value} {w : World} {A : Around} {s : Shared} {g h₀ h h' : Heap} {W W' : List Addr} {L C : Addr} {m : Str → Option Value} {kn : List (Addr × Obj)} {R : Result → Shared → Prop} {E : Value → Shared → Prop} {prog : Program}
theorem mz {a b : Nat} : min (a - min a b) (b - min a b) = 0 := by omega
set_option maxHeartbeats 4000000 in
theorem told_loop3 {tl sl c3 c2 c1 z TI TO i1 i2 l1 l2 : Addr} {o2 o1 : Obj} {sits xs ys : Array Value} {sep : Nat} {abs rows : List (List Nat)} {sizes : List Int} {width : Int} {tw : Tok} {px py pt : Pos} {kt : Nat} {Rf : Result → Shared → Prop} (FO : Fo K mg) (FT : Ft K mg) (GM : Gm mg) (G : Gb T K mg mb g) (r : Rm A 4) (D : ZipApart z TI TO i1 i2 l1 l2)
   (ntl : h₀.get? tl = none) (n3 : h₀.get? c3 = none) (d2 : o2.data = .cell (some (.int width tw))) (d1 : o1.data = .cell (some (.ref sl)))
   (hsl : h₀.get? sl = some (lstO sits sep)) (hi : IntsAre sits.toList sizes) (hn : sizes.length = 6)
   (hw : ∀ b ∈ [z, TO, i1, i2], h₀.get? b = none) (hL : L ∉ [z, TI, TO, i1, i2, l1, l2]) (htf : tl ∉ [z, TI, TO, i1, i2, l1, l2]) (h3f : c3 ∉ [z, TI, TO, i1, i2, l1, l2]) (h2f : c2 ∉ [z, TO, i1, i2]) (h1f : c1 ∉ [z, TO, i1, i2]) (hfT : ∀ b ∈ [z, TI, TO, i1, i2, l1, l2], b ∉ T.map (·.2))
   (hxs : StrsAre xs.toList (abs.map rowS)) (hys : StrsAre ys.toList (rows.map rowS)) (zo : ZipOk abs rows) (hlen : rows.length ≤ 100) (s₀ : Shared)
   (hR : ∀ s' m' its ep o3, J T g [] h₀ L s'.heap m' [(tl, lstO its ep), (c3, o3), (c2, o2), (c1, o1)] → StrsAre its.toList (toldRows sizes width abs rows) → m' "told" = some (.ref tl) → Ok s₀ s' → Rf (.ok .next) s') :
   ∀ (k i : Nat) (s : Shared) (m : Str → Option Value) (its : Array Value) (ep : Nat) (o3 : Obj) (u : Option Value) (zs : List Str), min xs.size ys.size - i = k → i ≤ min xs.size ys.size → J T g [] h₀ L s.heap m [(tl, lstO its ep), (c3, o3), (c2, o2), (c1, o1)] → o3.data = .cell u → m "told" = some (.ref tl) → StrsAre its.toList zs → zs.length = i → zs ++ toldRows sizes width (abs.drop i) (rows.drop i) = toldRows sizes width abs rows → Ok s₀ s →
     (IsZip s.heap z TI TO .none ∧ PySem.IsPair s.heap TI (.ref i1) (.ref i2) ∧ (∃ a b, PySem.IsPair s.heap TO a b) ∧ s.heap.IsListIter i1 l1 i ∧ s.heap.IsListIter i2 l2 i ∧ s.heap.IsList l1 xs ∧ s.heap.IsList l2 ys) →
     codeAny (model PR w) A (.forLoop (.Tuple [.Name "above" px, .Name "here" py] kt pt) (.ref z) toldBody2 [] (toldEnv L c3 c2 c1)) Rf s := by
  have Tn := Turns.pairU (T := T) (g := g) (W := []) (h₀ := h₀) (x := "above") (y := "here") (px := px) (py := py) (pt := pt) (kt := kt) (env := toldEnv L c3 c2 c1)
    (WalksT.zip2 (prog := PR) (w := w) r.h z TI TO i1 i2 l1 l2 D xs ys).toU r.h
    (fun q vs e => by obtain ⟨x, y, _, _, rfl⟩ := e; rfl) hw hL
  have sub : ∀ b, b ∈ [z, TO, i1, i2] → b ∈ [z, TI, TO, i1, i2, l1, l2] := fun b hb => by
    simp only [List.mem_cons, List.not_mem_nil, or_false] at hb ⊢
    rcases hb with q | q | q | q <;> simp [q]
  have knw : ∀ {its ep o3}, ∀ q ∈ [(tl, lstO its ep), (c3, o3), (c2, o2), (c1, o1)], q.1 ∉ [z, TO, i1, i2] := fun q hq hm => by
    rcases List.mem_cons.mp hq with rfl | hq
    · exact htf (sub _ hm)
    rcases List.mem_cons.mp hq with rfl | hq
    · exact h3f (sub _ hm)
    rcases List.mem_cons.mp hq with rfl | hq
    · exact h2f hm
    rw [List.mem_singleton.mp hq] at hm
    exact h1f hm
  have lx : xs.size = abs.length := by have := StrsAre.len hxs; rw [Array.length_toList, List.length_map] at this; exact this
  have ly : ys.size = rows.length := by have := StrsAre.len hys; rw [Array.length_toList, List.length_map] at this; exact this
  intro k
  induction k with
  | zero =>
    intro i s m its ep o3 u zs hk hi' j ho hm hst hzl hgo ok hs
    have : i = min xs.size ys.size := by exact de0 hk hi'
    subst this
    refine for_done Tn hs j knw fun h' tk' j' kp => ?_
    refine hR { s with heap := h', toks := tk' } m its ep o3 j' ?_ hm ⟨ok.1, ok.2⟩
    have e : toldRows sizes width (abs.drop (min xs.size ys.size)) (rows.drop (min xs.size ys.size)) = [] := by
      unfold toldRows
      rw [List.map_eq_nil_iff]
      exact List.length_eq_zero_iff.mp (by rw [List.length_zip, List.length_drop, List.length_drop, ← lx, ← ly]; exact mz)
    rw [e, List.append_nil] at hgo
    rw [← hgo]
    exact hst
  | succ k ih =>
    intro i s m its ep o3 u zs hk hi' j ho hm hst hzl hgo ok hs
    have hin : i < min xs.size ys.size := by exact dlt hk
    refine for_step Tn hin hs j knw fun h₁ t₁ m₁ hu j₁ hs₁ k₁ => ?_
    obtain ⟨v, v', ⟨x, y, ex, ey, exy⟩, rfl⟩ := hu
    obtain ⟨rfl, rfl⟩ : v = x ∧ v' = y := by simpa using exy
    obtain ⟨y1, ta, ea, rfl⟩ := StrsAre.at' hxs (i := i) (by rw [Array.getElem?_toList]; exact ex)
    obtain ⟨y2, tb, eb, rfl⟩ := StrsAre.at' hys (i := i) (by rw [Array.getElem?_toList]; exact ey)
    rw [List.getElem?_map] at ea eb
    have hia : i < abs.length := lx ▸ Nat.lt_of_lt_of_le hin (Nat.min_le_left _ _)
    have hib : i < rows.length := ly ▸ Nat.lt_of_lt_of_le hin (Nat.min_le_right _ _)
    rw [List.getElem?_eq_getElem hia] at ea
    rw [List.getElem?_eq_getElem hib] at eb
    cases ea
    cases eb
    have hp : (abs[i], rows[i]) ∈ abs.zip rows := by
      have : (abs.zip rows)[i]? = some (abs[i], rows[i]) := by
        rw [List.getElem?_zip_eq_some]
        exact ⟨List.getElem?_eq_getElem hia, List.getElem?_eq_getElem hib⟩
      exact List.mem_of_getElem? this
    have hisz : its.size = i := by have := StrsAre.len hst; rw [Array.length_toList, hzl] at this; exact this
    refine told_turn3 (s := { s with heap := h₁, toks := t₁ }) (ab := abs[i]) (he := rows[i]) FO FT GM G r j₁ ntl n3 (by rw [if_neg (by decide), if_pos rfl]) (by rw [if_pos rfl]) (by rw [if_neg (by decide), if_neg (by decide)]; exact hm) ho d2 d1 hsl hi hn (by lia) (zo.a _ hp) (zo.o _ hp) (zo.lo _ hp) (zo.la _ hp) fun s₂ m₂ o3' u' ep' t' j₂ ho₂ hm₂ k₂ ok₂ => ?_
    refine ih (i + 1) s₂ m₂ _ ep' o3' u' (zs ++ [toldRow sizes width abs[i] rows[i]]) (by exact dst hk) (by assumption) j₂ ho₂ (by rw [hm₂ _ (by decide) (by decide) (by decide), if_neg (by decide), if_neg (by decide)]; exact hm) ?_ (by rw [List.length_append, hzl]; rfl) ?_ ⟨ok₂.1.trans ok.1, fun ab => ok₂.2 (ok.2 ab)⟩ ?_
    · rw [Array.toList_push]
      exact strs_snoc hst
    · rw [← hgo, List.drop_eq_getElem_cons hia, List.drop_eq_getElem_cons hib]
      unfold toldRows
      rw [List.zip_cons_cons, List.map_cons, List.append_assoc]
      rfl
    · refine Tn.stable (i + 1) h₁ s₂.heap hs₁ fun b hb o e => k₂ b o (hfT b hb) (fun q => hL (q ▸ hb)) (fun q => htf (q ▸ hb)) (fun q => h3f (q ▸ hb)) e
end
end Mine
end
noncomputable section
open PySem PySem.W PySem.Calls PyProof.Rows Builtin Builtin.ObjectAttr Builtin.Str
namespace Mine
def rows8 (sizes : List Int) (width : Int) : List (List Nat) := rowsF sizes width ++ List.replicate (8 - (rowsF sizes width).length) []
def toldF (sizes : List Int) (width : Int) : List Str := toldRows sizes width ([] :: rows8 sizes width) (rows8 sizes width)
theorem J.swap {T : Tabs} {g h₀ h : Heap} {W : List Addr} {L : Addr} {m : Str → Option Value} {kn : List (Addr × Obj)} {a b : Addr × Obj} (j : J T g W h₀ L h m (a :: b :: kn)) : J T g W h₀ L h m (b :: a :: kn) :=
  ⟨j.mv, j.ns, j.Lt, j.Ln, j.Lg, fun p hp => j.has p (by
    rcases List.mem_cons.mp hp with rfl | hp
    · exact .tail _ (.head _)
    · rcases List.mem_cons.mp hp with rfl | hp
      · exact .head _
      · exact .tail _ (.tail _ hp)), by
    have := j.nd
    simp only [List.map_cons, List.nodup_cons, List.mem_cons, not_or] at this ⊢
    exact ⟨⟨Ne.symm this.1.1, this.2.1⟩, this.1.2, this.2.2⟩, j.s0⟩
section
variable {T : Tabs} {K : Frag} {cd : ClassData} {mg mb : Str → Option Value} {w : World} {A : Around} {s : Shared} {g h₀ h h' : Heap} {W W' : List Addr} {L C : Addr} {m : Str → Option Value} {kn : List (Addr × Obj)} {R : Result → Shared → Prop} {E : Value → Shared → Prop} {prog : Program}
structure ZipNew (T : Tabs) (N : Nat) (L rl al tl c3 c2 c1 : Addr) : Prop where
  D : ZipApart (N + 4) (N + 2) (N + 3) N (N + 1) al rl
  hL : L ∉ [N + 4, N + 2, N + 3, N, N + 1, al, rl]
  htf : tl ∉ [N + 4, N + 2, N + 3, N, N + 1, al, rl]
  h3f : c3 ∉ [N + 4, N + 2, N + 3, N, N + 1, al, rl]
  h2f : c2 ∉ [N + 4, N + 3, N, N + 1]
  h1f : c1 ∉ [N + 4, N + 3, N, N + 1]
theorem zipNew {N : Nat} {L rl al tl c3 c2 c1 : Addr} (hL : L < N) (h1 : rl < N) (h2 : al < N) (h3 : tl < N) (h4 : c3 < N) (h5 : c2 < N) (h6 : c1 < N) (La : al ≠ L) (Lr : rl ≠ L) (ta : tl ≠ al) (tr : tl ≠ rl) (ca : c3 ≠ al) (cr : c3 ≠ rl) : ZipNew T N L rl al tl c3 c2 c1 := by
  have m2 : ∀ {b}, b < N → ∀ k, b ≠ N + k := fun hb k => Nat.ne_of_lt (Nat.lt_of_lt_of_le hb (Nat.le_add_right _ _))
  have m3 : ∀ {b}, b < N → ∀ l r, b ≠ l → b ≠ r → b ∉ [N + 4, N + 2, N + 3, N, N + 1, l, r] := fun hb l r h1 h2 hm => by
    simp only [List.mem_cons, List.not_mem_nil, or_false] at hm
    rcases hm with q | q | q | q | q | q | q
    · exact m2 hb 4 q
    · exact m2 hb 2 q
    · exact m2 hb 3 q
    · exact m2 hb 0 q
    · exact m2 hb 1 q
    · exact h1 q
    · exact h2 q
  have m4 : ∀ {b}, b < N → b ∉ [N + 4, N + 3, N, N + 1] := fun hb hm => by
    simp only [List.mem_cons, List.not_mem_nil, or_false] at hm
    rcases hm with q | q | q | q
    · exact m2 hb 4 q
    · exact m2 hb 3 q
    · exact m2 hb 0 q
    · exact m2 hb 1 q
  exact ⟨⟨by simp, by simp, by simp, by simp, by simp, by simp, by simp, by simp, by simp, by simp, m2 h2 4, m2 h2 3, m2 h2 0, m2 h2 1, m2 h1 4, m2 h1 3, m2 h1 0, m2 h1 1⟩, m3 hL _ _ La.symm Lr.symm, m3 h3 _ _ ta tr, m3 h4 _ _ ca cr, m4 h5, m4 h6⟩
set_option maxHeartbeats 4000000 in
theorem told_zip {rl tl sl c3 c2 c1 : Addr} {o3 o2 o1 : Obj} {its sits : Array Value} {ep sep : Nat} {rows : List (List Nat)} {sizes : List Int} {width : Int} {tw : Tok} {u : Option Value} {Qf : Flow → Shared → Prop} (FO : Fo K mg) (FT : Ft K mg) (GM : Gm mg) (G : Gb T K mg mb g) (r : Rm A 4)
   (j : J T g [] h₀ L s.heap m [(rl, lstO its ep), (tl, lstO #[] 0), (c3, o3), (c2, o2), (c1, o1)]) (nrl : h₀.get? rl = none) (ntl : h₀.get? tl = none) (n3 : h₀.get? c3 = none) (hm1 : m "rows" = some (.ref rl)) (hm2 : m "told" = some (.ref tl)) (d3 : o3.data = .cell u) (d2 : o2.data = .cell (some (.int width tw))) (d1 : o1.data = .cell (some (.ref sl)))
   (hsl : h₀.get? sl = some (lstO sits sep)) (hi : IntsAre sits.toList sizes) (hn : sizes.length = 6)
   (hst : StrsAre its.toList (rows.map rowS)) (zo : ZipOk ([] :: rows) rows) (hrl : rows.length ≤ 100)
   (hQ : ∀ s' m' o3' its' ep', J T g [] h₀ L s'.heap m' [(tl, lstO its' ep'), (c3, o3'), (c2, o2), (c1, o1)] → StrsAre its'.toList (toldRows sizes width ([] :: rows) rows) → Ok s s' → Qf (.ret (.ref tl)) s') :
   wpAny (model PR w) A (execs ((fBody (topSt 21)).drop 3) (toldEnv L c3 c2 c1)) Qf (fun _ _ => False) s := by
  have hsz : its.size = rows.length := by have := StrsAre.len hst; rw [Array.length_toList, List.length_map] at this; exact this
  refine wpAny_execs_cons (wpAny_For ?_)
  refine Call_ ?_
  refine j_builtin G j FO.gz boot_zip ?_
  refine PyProof.Rows.callWith_type1 (args_cons ?_)
  refine wpAny_BinOp ?_
  refine List_ (args_cons ?_)
  refine Constant_str ?_
  refine args_nil ?_
  refine j_newListK (s := { s with toks := _ }) j (fun el h₁ j₁ mv₁ nel => ?_)
  dsimp only
  refine j_local (s := { s with heap := h₁, toks := _ }) j₁ hm1 ?_
  refine PySem.P.add_list (s := { s with heap := h₁, toks := _ }) (l := el) (b := rl) (items := #[.str "" s.toks]) (items2 := its) (n := 0) (n2 := ep) (j₁.get (.head _)) (j₁.get (.tail _ (.head _))) ?_ (by rw [sizeLine_eq]; show 1 + its.size ≤ _; lia)
  obtain ⟨al, h₂, eal, eh₂, j₂, mv₂, nal, nal'⟩ := J.pushK (j₁.sub (List.sublist_cons_self _ _)) (lstO (#[.str "" s.toks] ++ its) 0) rfl
  rw [← eal, ← eh₂]
  obtain ⟨xz, exz⟩ : ∃ xz, xz = #[.str "" s.toks] ++ its := ⟨_, rfl⟩
  rw [← exz] at j₂
  have hxz : StrsAre xz.toList (([] :: rows).map rowS) := by
    rw [exz, Array.toList_append]
    exact .cons _ _ hst
  refine args_cons ?_
  refine j_local (s := { s with heap := h₂, toks := _ }) j₂ hm1 ?_
  refine args_nil ?_
  refine call_zip_2 (s := { s with heap := h₂, toks := _ }) (xs := xz) (ys := its) ⟨_, j₂.get (.head _), rfl, _, rfl⟩ ⟨_, j₂.get (.tail _ (.head _)), rfl, _, rfl⟩ fun h₉ z1 z2 z3 z4 z5 z6 k₉ => ?_
  dsimp only at z1 z2 z3 z4 z5 z6 k₉ ⊢
  refine wpAny_pyIter_zip z1 ?_
  obtain ⟨j₉, mv₉⟩ := j₂.keepsL k₉
  have eal := j₂.get (.head _)
  have erl := j₂.get (.tail _ (.head _))
  have etl := j₂.get (.tail _ (.tail _ (.head _)))
  have ec3 := j₂.get (.tail _ (.tail _ (.tail _ (.head _))))
  have ec2 := j₂.get (.tail _ (.tail _ (.tail _ (.tail _ (.head _)))))
  have ec1 := j₂.get (.tail _ (.tail _ (.tail _ (.tail _ (.tail _ (.head _))))))
  obtain ⟨oL, _, _, eL, _⟩ := id j₂.ns
  have La := (j₂.has _ (.head _)).2.1
  have Lr := (j₂.has _ (.tail _ (.head _))).2.1
  have Ta := (j₂.has _ (.head _)).2.2.1
  have Tr := (j₂.has _ (.tail _ (.head _))).2.2.1
  have nd : (al :: rl :: tl :: c3 :: [c2, c1]).Nodup := j₂.nd
  rw [List.nodup_cons, List.nodup_cons] at nd
  obtain ⟨nd1, nd2, -⟩ := nd
  have Z := zipNew (T := T) (Heap.lt_size eL) (Heap.lt_size erl) (Heap.lt_size eal) (Heap.lt_size etl) (Heap.lt_size ec3) (Heap.lt_size ec2) (Heap.lt_size ec1) La Lr (fun q => nd1 (by simp [q])) (fun q => nd2 (by simp [q])) (fun q => nd1 (by simp [q])) (fun q => nd2 (by simp [q]))
  have noT : ∀ b, h₂.objs.size ≤ b → b ∉ T.map (·.2) := fun b hb hm => by
    obtain ⟨q, hq, e⟩ := List.mem_map.mp hm
    obtain ⟨ps, ps₀, x, y, z⟩ := j₂.mv.st.tab q hq
    have := Heap.lt_size y.2
    rw [e] at this
    exact absurd this (Nat.not_lt.mpr hb)
  have nn : ∀ b, h₂.objs.size ≤ b → h₀.get? b = none := fun b hb => none_back j₂.mv (Heap.get?_none_of_le hb)
  have eal₉ := k₉ _ _ eal
  have erl₉ := k₉ _ _ erl
  have lz : (rows.map rowS).length = rows.length := List.length_map ..
  refine told_loop3 (h₀ := h₀) (z := h₂.objs.size + 4) (TI := h₂.objs.size + 2) (TO := h₂.objs.size + 3) (i1 := h₂.objs.size) (i2 := h₂.objs.size + 1) (l1 := al) (l2 := rl) (xs := xz) (ys := its) (abs := [] :: rows) (rows := rows) FO FT GM G r Z.D ntl n3 d2 d1 hsl hi hn (fun b hb => ?_) Z.hL Z.htf Z.h3f Z.h2f Z.h1f (fun b hb => ?_) hxz hst zo hrl s (fun s₅ m₅ its₅ ep₅ o₅ j₅ st₅ hm₅ ok₅ => ?_)
    (min xz.size its.size) 0 _ m #[] 0 o3 u [] rfl (Nat.zero_le _) (j₉.sub ((List.sublist_cons_self _ _).trans (List.sublist_cons_self _ _))) d3 hm2 .nil rfl (by rw [List.drop_zero, List.drop_zero]; rfl) ⟨rfl, id⟩ ⟨z1, z2, ⟨_, _, z3⟩, z4, z5, ⟨_, eal₉, rfl, _, rfl⟩, ⟨_, erl₉, rfl, _, rfl⟩⟩
  · simp only [List.mem_cons, List.not_mem_nil, or_false] at hb
    rcases hb with rfl | rfl | rfl | rfl
    · exact nn _ (Nat.le_add_right _ 4)
    · exact nn _ (Nat.le_add_right _ 3)
    · exact nn _ (Nat.le_refl _)
    · exact nn _ (Nat.le_add_right _ 1)
  · simp only [List.mem_cons, List.not_mem_nil, or_false] at hb
    rcases hb with rfl | rfl | rfl | rfl | rfl | rfl | rfl
    · exact noT _ (Nat.le_add_right _ 4)
    · exact noT _ (Nat.le_add_right _ 2)
    · exact noT _ (Nat.le_add_right _ 3)
    · exact noT _ (Nat.le_refl _)
    · exact noT _ (Nat.le_add_right _ 1)
    · exact Ta
    · exact Tr
  · dsimp only
    refine wpAny_execs_cons (wpAny_Return_some ?_)
    refine j_local j₅ hm₅ ?_
    exact hQ s₅ m₅ o₅ its₅ ep₅ j₅ st₅ ok₅
end
end Mine
end
noncomputable section
open PySem PySem.W PySem.Calls PyProof.Rows Builtin Builtin.ObjectAttr Builtin.Str
namespace Mine
theorem pairwise_zip {α : Type} {S : α → α → Prop} : ∀ {l : List α} {a : α}, (a :: l).Pairwise S → ∀ p ∈ (a :: l).zip l, S p.1 p.2
  | [], a, _, p, hp => by cases hp
  | b :: l, a, h, p, hp => by
    rw [List.zip_cons_cons] at hp
    rcases List.mem_cons.mp hp with rfl | hp
    · exact (List.pairwise_cons.mp h).1 b (.head _)
    · exact pairwise_zip (List.pairwise_cons.mp h).2 p hp
theorem flat_rep (k : Nat) : (List.replicate k ([] : List Nat)).flatten = [] := by simp
theorem RowsOk.zip {rows : List (List Nat)} (h : RowsOk rows 6) (k : Nat) : ZipOk ([] :: (rows ++ List.replicate k [])) (rows ++ List.replicate k []) := by
  have hf : (rows ++ List.replicate k []).flatten = List.range 6 := by rw [List.flatten_append, flat_rep, List.append_nil, h.flat]
  generalize rows ++ List.replicate k [] = r8 at hf
  have m6 : ∀ r ∈ r8, ∀ a ∈ r, a < 6 := fun r hr a ha => List.mem_range.mp (by rw [← hf]; exact List.mem_flatten.mpr ⟨r, hr, ha⟩)
  have ml : ∀ r ∈ r8, r.length ≤ 10 := fun r hr => by
    have := len_mem_flat hr
    rw [hf, List.length_range] at this
    exact Nat.le_trans (by assumption) (by decide)
  have pw : (([] : List Nat) :: r8).Pairwise fun l₁ l₂ => ∀ x ∈ l₁, ∀ y ∈ l₂, x ≤ y := by
    have : (([] : List Nat) :: r8).flatten.Pairwise (· ≤ ·) := by
      rw [List.flatten_cons, hf]
      decide
    exact (List.pairwise_flatten.mp this).2
  have z1 : ∀ p ∈ ([] :: r8).zip r8, p.1 ∈ ([] : List Nat) :: r8 ∧ p.2 ∈ r8 := fun p hp => ⟨(List.of_mem_zip hp).1, (List.of_mem_zip hp).2⟩
  refine ⟨fun p hp a ha => ?_, fun p hp a ha o ho => ⟨pairwise_zip pw p hp a ha o ho, m6 _ (z1 p hp).2 o ho⟩, fun p hp => ?_, fun p hp => ml _ (z1 p hp).2⟩
  · rcases List.mem_cons.mp (z1 p hp).1 with e | e
    · rw [e] at ha; cases ha
    · exact m6 _ e a ha
  · rcases List.mem_cons.mp (z1 p hp).1 with e | e
    · rw [e]; decide
    · exact ml _ e
theorem strs_rep {t : Tok} : ∀ n : Nat, StrsAre (List.replicate n (Value.str "" t)) ((List.replicate n ([] : List Nat)).map rowS)
  | 0 => .nil
  | n + 1 => by
    rw [List.replicate_succ, List.replicate_succ, List.map_cons]
    exact .cons _ _ (strs_rep n)
theorem strs_app {vs ws : List Value} {ys zs : List Str} (h : StrsAre vs ys) (h' : StrsAre ws zs) : StrsAre (vs ++ ws) (ys ++ zs) := by
  induction h with
  | nil => exact h'
  | cons y t _ ih => exact .cons _ _ ih
theorem rep_one (v : Value) : ∀ n : Nat, ((List.replicate n #[v]).foldl (· ++ ·) (#[] : Array Value)).toList = List.replicate n v := by
  have : ∀ (n : Nat) (a : Array Value), ((List.replicate n #[v]).foldl (· ++ ·) a).toList = a.toList ++ List.replicate n v := by
    intro n
    induction n with
    | zero => intro a; simp
    | succ n ih => intro a; rw [List.replicate_succ, List.foldl_cons, ih, Array.toList_append, List.replicate_succ, List.append_assoc]; rfl
  intro n
  rw [this]; rfl
section
variable {T : Tabs} {K : Frag} {cd : ClassData} {mg mb : Str → Option Value} {w : World} {A : Around} {s : Shared} {g h₀ h h' : Heap} {W W' : List Addr} {L C : Addr} {m : Str → Option Value} {kn : List (Addr × Obj)} {R : Result → Shared → Prop} {E : Value → Shared → Prop} {prog : Program}
set_option maxHeartbeats 4000000 in
theorem told_spec {sl : Addr} {sits : Array Value} {sep : Nat} {sizes : List Int} {width : Int} {tw : Tok} (FO : Fo K mg) (FT : Ft K mg) (GM : Gm mg) (G : Gb T K mg mb g) (S : St T g s.heap) (r : Rm A 5)
   (hsl : s.heap.get? sl = some (lstO sits sep)) (hi : IntsAre sits.toList sizes) (hn : sizes.length = 6)
   (hR : ∀ s' D its ep, Mv T g [] s.heap s'.heap → Ok s s' → s'.heap.get? D = some (lstO its ep) → StrsAre its.toList (toldF sizes width) → R (.ok (.ret (.ref D))) s') :
   codeAny (model PR w) A (.call (.ref 380) ⟨[.ref sl, .int width tw], []⟩) R s := by
  obtain ⟨oc, od, osl, name, kV, doc, pm, an, ct, hob, hcd⟩ := FO.told
  refine' j_callC (binds := [("sizes", .ref sl), ("width", .int width tw)]) [] (fun L => [("word", L + 3), ("width", L + 2), ("sizes", L + 1)]) G S hob hcd r.lt rfl (fun L => rfl) (fun L p hp => by
      rcases List.mem_cons.mp hp with rfl | hp
      · rfl
      rcases List.mem_cons.mp hp with rfl | hp
      · rfl
      rw [List.mem_singleton.mp hp]; rfl) (fun L y hy => by
    rcases List.mem_cons.mp hy with rfl | hy
    · exact .inr ⟨rfl, rfl⟩
    rw [List.mem_singleton.mp hy]; exact .inr ⟨rfl, rfl⟩) ?_ rfl rfl rfl
  intro L h₁ t₁ ob hob' j mv₁ hnew
  have rr := r.deeper (env := toldEnv L (L + 3) (L + 2) (L + 1))
  have d3 : (ob (L + 3)).data = .cell none := hob' ("word", L + 3) (.head _)
  have d2 : (ob (L + 2)).data = .cell (some (.int width tw)) := hob' ("width", L + 2) (.tail _ (.head _))
  have d1 : (ob (L + 1)).data = .cell (some (.ref sl)) := hob' ("sizes", L + 1) (.tail _ (.tail _ (.head _)))
  have n3 : s.heap.get? (L + 3) = none := hnew ("word", L + 3) (.head _)
  generalize hoo3 : ob (L + 3) = o3 at d3
  generalize hoo2 : ob (L + 2) = o2 at d2
  generalize hoo1 : ob (L + 1) = o1 at d1
  have j : J T g [] s.heap L h₁ (fun _ => none) [(L + 3, o3), (L + 2, o2), (L + 1, o1)] := by
    rw [← hoo3, ← hoo2, ← hoo1]; exact j
  generalize L + 3 = c3 at *
  generalize L + 2 = c2 at *
  generalize L + 1 = c1 at *
  refine wpAny_execs_cons (Assign_Tuple_swapped (names := ["rows", "told"]) ?_)
  refine Tuple_ (args_cons ?_)
  refine List_ (args_cons ?_)
  refine Constant_str ?_
  refine args_nil ?_
  refine j_newListK (s := { s with heap := h₁, toks := _ }) j (fun rl h₂ j₂ mv₂ nrl => ?_)
  dsimp only
  refine args_cons ?_
  refine List_ (args_nil ?_)
  refine j_newListK (s := { s with heap := h₂, toks := _ }) j₂ (fun tl h₃ j₃ mv₃ ntl => ?_)
  dsimp only
  refine args_nil ?_
  refine pair_bind (s := { s with heap := h₃, toks := _ }) (x := "rows") (y := "told") rr.h j₃ (by rfl) (by rfl) (by rfl) fun h₄ t₄ j₄ mv₄ => ?_
  dsimp only
  replace j₄ := j₄.swap
  refine wpAny_execs_cons (wpAny_For ?_)
  refine Constant_str ?_
  refine wpAny_pyIter_str fun o Sx Wk hS => ?_
  have k₅ : ∀ b o', h₄.get? b = some o' → (h₄.push o).get? b = some o' := fun b o' e => Heap.get?_push_of_some _ e
  obtain ⟨j₅, mv₅⟩ := j₄.keepsL k₅
  have nI : h₄.get? h₄.objs.size = none := Heap.get?_none_of_le (Nat.le_refl _)
  have ltI : ∀ {b o'}, h₄.get? b = some o' → h₄.objs.size ≠ b := fun e => (Nat.ne_of_lt (Heap.lt_size e)).symm
  have IT : h₄.objs.size ∉ T.map (·.2) := fun hm => by
    obtain ⟨q, hq, e⟩ := List.mem_map.mp hm
    obtain ⟨ps, ps₀, x, y, z⟩ := j₄.mv.st.tab q hq
    exact ltI y.2 e.symm
  obtain ⟨oL, _, _, eL, _⟩ := id j₄.ns
  have nI0 : s.heap.get? h₄.objs.size = none := none_back j₄.mv nI
  have IL : h₄.objs.size ≠ L := ltI eL
  have Ik : h₄.objs.size ∉ [rl, tl, c3, c2, c1] := by
    intro hm
    simp only [List.mem_cons, List.not_mem_nil, or_false] at hm
    rcases hm with q | q | q | q | q
    · exact ltI (j₄.get (.head _)) q
    · exact ltI (j₄.get (.tail _ (.head _))) q
    · exact ltI (j₄.get (.tail _ (.tail _ (.head _)))) q
    · exact ltI (j₄.get (.tail _ (.tail _ (.tail _ (.head _))))) q
    · exact ltI (j₄.get (.tail _ (.tail _ (.tail _ (.tail _ (.head _)))))) q
  dsimp only at hS Wk ⊢
  generalize h₄.push o = h₅ at hS j₅ mv₅ k₅ ⊢
  generalize h₄.objs.size = I at Wk IT nI nI0 IL Ik ⊢
  have b5 : ("bcdef" : Str).cps.size = 5 := by decide +kernel
  have Wk := Wk (A.deeper (toldEnv L c3 c2 c1)) rr.h
  rw [b5] at Wk
  refine told_loop1 (FO := FO) (FT := FT) (GM := GM) (G := G) (r := rr) (Wk := Wk) (nI := nI0) (IL := IL) (IT := IT) (Ik := Ik) (nrl := nrl) (n3 := n3) (hm1 := by rw [if_pos rfl]) (d2 := d2) (d1 := d1) (hsl := hsl) (hi := hi) (hn := hn) (s₀ := s) (hR := fun h₆ t₆ its₆ ep₆ o₆ u₆ j₆ ho₆ st₆ rok => ?_)
    5 0 h₅ _ _ 0 [[0]] o3 none rfl (by decide) j₅ d3 ?_ ⟨by exact List.cons_ne_nil _ _, by exact (by decide), rfl⟩ (by rfl) hS
  · dsimp only
    have lz : its₆.size = (rowsF sizes width).length := by have := StrsAre.len st₆; rw [Array.length_toList, List.length_map] at this; exact this
    have l6 := rok.len
    have l1 : 0 < (rowsF sizes width).length := List.length_pos_iff.mpr rok.ne
    refine wpAny_execs_cons (wpAny_AugAssign_Name ?_)
    refine wpAny_loadName_local rfl rfl j₆.ns (v := .ref rl) (by rw [if_pos rfl]) ?_
    refine wpAny_BinOp ?_
    refine List_ (args_cons ?_)
    refine Constant_str ?_
    refine args_nil ?_
    refine j_newListK (s := { s with heap := h₆, toks := _ }) j₆ (fun el h₇ j₇ mv₇ nel => ?_)
    dsimp only
    refine wpAny_BinOp ?_
    refine wpAny_Constant_int (i := 8) (k := 0) (pos := ⟨0, 0, 0, 0⟩) ?_
    refine Call_ ?_
    refine j_builtin (s := { s with heap := h₇, toks := _ }) G j₇ GM.len boot_len ?_
    refine callWith_method1 (first := []) (args_cons ?_)
    refine j_local (s := { s with heap := h₇, toks := _ }) j₇ (v := .ref rl) (by rw [if_pos rfl]) ?_
    refine args_nil ?_
    refine PyProof.Rows.len_list (items := its₆) ⟨_, j₇.get (.tail _ (.head _)), rfl, _, rfl⟩ (by omega) ?_
    refine PySem.P.sub_int ?_
    obtain ⟨k8, hk8⟩ : ∃ k8, k8 = 8 - (rowsF sizes width).length := ⟨_, rfl⟩
    rw [show (8 : Int) - (its₆.size : Int) = ((k8 : Nat) : Int) by omega]
    refine mul_l (its := #[.str "" t₆]) (ep := 0) (n := k8) (j₇.get (.head _)) (by omega) (by simp) (by simp) ?_
    dsimp only
    obtain ⟨ml, h₈, eml, eh₈, j₈, mv₈, nml, nml'⟩ := J.pushK (j₇.sub (List.sublist_cons_self _ _)) (lstO ((List.replicate (k8) #[Value.str "" t₆]).foldl (· ++ ·) #[]) 0) rfl
    rw [← eml, ← eh₈]
    obtain ⟨rz, erz⟩ : ∃ rz, rz = (List.replicate (k8) #[Value.str "" t₆]).foldl (· ++ ·) #[] := ⟨_, rfl⟩
    rw [← erz] at j₈
    have erz' : rz.toList = List.replicate (k8) (Value.str "" t₆) := by rw [erz]; exact rep_one _ _
    have zrz : rz.size ≤ 8 := by rw [← Array.length_toList, erz', List.length_replicate]; omega
    refine iadd_list (s := { s with heap := h₈, toks := _ }) (j₈.get (.tail _ (.head _))) (j₈.get (.head _)) (by omega) ?_
    obtain ⟨ep₉, ec⟩ := mapSeq_lst its₆ (its₆ ++ rz) ep₆ (fun x => x ++ rz) rfl
    have j₉ := j₈.update 1 rfl (.inr nrl) (by simp) ec rfl
    have mv₉ : Mv T g [rl] h₈ _ := j₈.updMv (.tail _ (.head _)) (by simp) ec rfl
    revert j₉ mv₉
    dsimp only
    show ∀ _ _, _
    generalize h₈.update rl _ = h₉
    intro j₉ mv₉
    replace j₉ : J T g [] s.heap L h₉ _ [(rl, lstO (its₆ ++ rz) ep₉), (tl, lstO #[] 0), (c3, o₆), (c2, o2), (c1, o1)] := j₉.sub (List.sublist_cons_self _ _)
    refine j_storeK (s := { s with heap := h₉, toks := _ }) j₉ fun h₁₀ t₁₀ j₁₀ mv₁₀ => ?_
    dsimp only
    show wpAny _ _ (execs ((fBody (topSt 21)).drop 3) _) _ _ _
    have hst : StrsAre (its₆ ++ rz).toList ((rows8 sizes width).map rowS) := by
      rw [Array.toList_append, erz']
      unfold rows8
      rw [List.map_append, ← hk8]
      exact strs_app st₆ (strs_rep _)
    refine told_zip (s := { s with heap := h₁₀, toks := t₁₀ }) (rows := rows8 sizes width) FO FT GM G rr j₁₀ nrl ntl n3 (by rw [if_pos rfl]) (by rw [if_neg (by decide), if_neg (by decide), if_pos rfl]) ho₆ d2 d1 hsl hi hn hst (rok.zip _) ?_ fun s' m' o' its' ep' j' st' ok' => ?_
    · unfold rows8
      rw [List.length_append, List.length_replicate]; omega
    · exact hR s' tl its' ep' j'.mv ⟨ok'.1, ok'.2⟩ (j'.get (.head _)) st'
  · exact .cons _ _ .nil
end
end Mine
end
noncomputable section
open PySem PySem.W PySem.Calls PyProof.Rows Builtin Builtin.ObjectAttr Builtin.Str
namespace Mine
section
variable {T : Tabs} {K : Frag} {cd : ClassData} {mg mb : Str → Option Value} {w : World} {A : Around} {s : Shared} {g h₀ h h' : Heap} {W W' : List Addr} {L C : Addr} {m : Str → Option Value} {kn : List (Addr × Obj)} {R : Result → Shared → Prop} {E : Value → Shared → Prop} {prog : Program}
theorem compTurn_two0 (elt target iter target' iter' : Expr) (ifs' : List Expr) (scope : Scope) (pos : Pos) (it acc : Value) (env : Env) :
    compTurn (.ListComp elt [⟨target, iter, [], 0⟩, ⟨target', iter', ifs', 0⟩] scope pos) 0 it acc env = (do
      standAt iter.pos
      match ← pyNext it with
      | none => pure (.done .next)
      | some v =>
        letOwnedTupleGo target it v
        assign target env v
        let mut ok := true
        for c in ([] : List Expr) do
          if ok then ok ← isTrue c env (eval c env)
        if ok then
          let x ← eval iter' env
          standAt iter'.pos
          let x ← foldedSetIterable iter' env x
          let _ ← runOwn (.compStart (.ListComp elt [⟨target, iter, [], 0⟩, ⟨target', iter', ifs', 0⟩] scope pos) 1 (← holding [x] (pyIter x)) acc env) env
        again (.compLoop (.ListComp elt [⟨target, iter, [], 0⟩, ⟨target', iter', ifs', 0⟩] scope pos) 0 it acc env)) := by rfl
theorem compTurn_two1 (elt target iter target' iter' : Expr) (ifs' : List Expr) (scope : Scope) (pos : Pos) (it acc : Value) (env : Env) :
    compTurn (.ListComp elt [⟨target, iter, [], 0⟩, ⟨target', iter', ifs', 0⟩] scope pos) 1 it acc env = (do
      standAt iter'.pos
      match ← pyNext it with
      | none => pure (.done .next)
      | some v =>
        letOwnedTupleGo target' it v
        assign target' env v
        let mut ok := true
        for c in ifs' do
          if ok then ok ← isTrue c env (eval c env)
        if ok then
          (do let _ ← call (.builtin "list.append") [acc, ← eval elt env])
        again (.compLoop (.ListComp elt [⟨target, iter, [], 0⟩, ⟨target', iter', ifs', 0⟩] scope pos) 1 it acc env)) := by rfl
theorem comp_two1 {elt target iter target' iter' : Expr} {ifs : List Expr} {scope : Scope} {pos : Pos} {it acc : Value} {env : Env}
    (h : wpAny (model prog w) A (pyNext it) (fun r s₁ => match r with
      | none => R (.ok .next) s₁
      | some v => wpAny (model prog w) A (letOwnedTupleGo target' it v) (fun _ s₁' => wpAny (model prog w) A (assign target' env v) (fun _ s₂ =>
          wpAny (model prog w) A (forIn ifs true fun c r => if r = true then do let ok ← isTrue c env (eval c env); pure (ForInStep.yield ok) else pure (ForInStep.yield r)) (fun ok s₃ =>
            if ok = true then wpAny (model prog w) A (eval elt env) (fun x s₄ =>
              wpAny (model prog w) A (call (.builtin "list.append") [acc, x]) (fun _ s₅ => codeAny (model prog w) A (.compLoop (.ListComp elt [⟨target, iter, [], 0⟩, ⟨target', iter', ifs, 0⟩] scope pos) 1 it acc env) R s₅) (fun _ _ => False) s₄) (fun _ _ => False) s₃
            else codeAny (model prog w) A (.compLoop (.ListComp elt [⟨target, iter, [], 0⟩, ⟨target', iter', ifs, 0⟩] scope pos) 1 it acc env) R s₃) (fun _ _ => False) s₂) (fun _ _ => False) s₁') (fun _ _ => False) s₁) (fun _ _ => False) s) :
    codeAny (model prog w) A (.compLoop (.ListComp elt [⟨target, iter, [], 0⟩, ⟨target', iter', ifs, 0⟩] scope pos) 1 it acc env) R s := by
  refine codeAny_of_tree ?_
  show wpAny _ A ((compTurn (.ListComp elt [⟨target, iter, [], 0⟩, ⟨target', iter', ifs, 0⟩] scope pos) 1 it acc env).onRaise (fun x => do noteFrame x env; theTreesLotGoes x)) _ _ s
  refine wpAny_noted ?_
  rw [compTurn_two1]
  refine wpAny_bind (wpAny_standAt (wpAny_bind (wpAny_mono h (fun r s₁ h₁ => ?_) fun _ _ h' => h'.elim)))
  cases r with
  | none => exact wpAny_pure h₁
  | some v =>
    refine wpAny_bind (wpAny_mono h₁ (fun _ s₁' h₁' => ?_) fun _ _ h' => h'.elim)
    refine wpAny_bind (wpAny_mono h₁' (fun _ s₂ h₂ => wpAny_bind (wpAny_mono h₂ (fun ok s₃ h₃ => ?_) fun _ _ h' => h'.elim)) fun _ _ h' => h'.elim)
    cases ok with
    | false => exact wpAny_pure ⟨rfl, h₃⟩
    | true =>
      exact wpAny_bind (wpAny_bind (wpAny_mono h₃ (fun x s₄ h₄ => wpAny_bind (wpAny_mono h₄ (fun _ s₅ h₅ => wpAny_pure (wpAny_pure ⟨rfl, h₅⟩)) fun _ _ h' => h'.elim)) fun _ _ h' => h'.elim))
theorem comp_two0 {elt target iter target' iter' : Expr} {ifs : List Expr} {scope : Scope} {pos : Pos} {it acc : Value} {env : Env} (hs : ∀ x, foldedSetIterable iter' env x = pure x)
    (h : wpAny (model prog w) A (pyNext it) (fun r s₁ => match r with
      | none => R (.ok .next) s₁
      | some v => wpAny (model prog w) A (letOwnedTupleGo target it v) (fun _ s₁' => wpAny (model prog w) A (assign target env v) (fun _ s₂ =>
          wpAny (model prog w) A (eval iter' env) (fun xv s₃ => wpAny (model prog w) A (pyIter xv) (fun it' s₄ =>
            codeAny (model prog w) A (.compStart (.ListComp elt [⟨target, iter, [], 0⟩, ⟨target', iter', ifs, 0⟩] scope pos) 1 it' acc env) (fun r s₅ => r = .ok .next ∧ codeAny (model prog w) A (.compLoop (.ListComp elt [⟨target, iter, [], 0⟩, ⟨target', iter', ifs, 0⟩] scope pos) 0 it acc env) R s₅) s₄) (fun _ _ => False) s₃) (fun _ _ => False) s₂) (fun _ _ => False) s₁') (fun _ _ => False) s₁) (fun _ _ => False) s) :
    codeAny (model prog w) A (.compLoop (.ListComp elt [⟨target, iter, [], 0⟩, ⟨target', iter', ifs, 0⟩] scope pos) 0 it acc env) R s := by
  refine codeAny_of_tree ?_
  show wpAny _ A ((compTurn (.ListComp elt [⟨target, iter, [], 0⟩, ⟨target', iter', ifs, 0⟩] scope pos) 0 it acc env).onRaise (fun x => do noteFrame x env; theTreesLotGoes x)) _ _ s
  refine wpAny_noted ?_
  rw [compTurn_two0]
  refine wpAny_bind (wpAny_standAt (wpAny_bind (wpAny_mono h (fun r s₁ h₁ => ?_) fun _ _ h' => h'.elim)))
  cases r with
  | none => exact wpAny_pure h₁
  | some v =>
    refine wpAny_bind (wpAny_mono h₁ (fun _ s₁' h₁' => ?_) fun _ _ h' => h'.elim)
    refine wpAny_bind (wpAny_mono h₁' (fun _ s₂ h₂ => wpAny_bind (wpAny_tests_nil ?_)) fun _ _ h' => h'.elim)
    rw [if_pos rfl]
    refine wpAny_bind (wpAny_mono h₂ (fun xv s₃ h₃ => ?_) fun _ _ h' => h'.elim)
    refine wpAny_bind (wpAny_standAt ?_)
    refine wpAny_bind (wpAny_of_eq (hs xv) ?_)
    refine wpAny_bind (wpAny_holding (wpAny_mono h₃ (fun it' s₄ h₄ => ?_) fun _ _ h' => h'.elim))
    refine wpAny_bind (wpAny_runOwn (codeAny_mono h₄ fun r s₅ h₅ => ?_))
    obtain ⟨rfl, h₅⟩ := h₅
    exact wpAny_pure ⟨rfl, h₅⟩
theorem compStart_two1 {elt target iter target' iter' : Expr} {ifs : List Expr} {scope : Scope} {pos : Pos} {it acc : Value} {env : Env}
    (h0 : codeAny (model prog w) A (.compLoop (.ListComp elt [⟨target, iter, [], 0⟩, ⟨target', iter', ifs, 0⟩] scope pos) 1 it acc env) R s)
    (h : wpAny (model prog w) A (pyIter it) (fun it' s' => codeAny (model prog w) A (.compLoop (.ListComp elt [⟨target, iter, [], 0⟩, ⟨target', iter', ifs, 0⟩] scope pos) 1 it' acc env) R s') (fun _ _ => False) s) :
    codeAny (model prog w) A (.compStart (.ListComp elt [⟨target, iter, [], 0⟩, ⟨target', iter', ifs, 0⟩] scope pos) 1 it acc env) R s := by
  refine codeAny_of_tree ?_
  show wpAny _ _ ((compStart (.ListComp elt [⟨target, iter, [], 0⟩, ⟨target', iter', ifs, 0⟩] scope pos) 1 it acc env).onRaise (fun x => do noteFrame x env; standAt theWindowsPlace)) _ _ s
  refine wpAny_notedAt ?_
  unfold compStart
  show wpAny _ _ (ask >>= _) _ _ s
  refine wpAny_bind (wpAny_askSetting (wpAny_ite ?_))
  split
  · first
      | exact wpAny_bind (wpAny_pure (wpAny_pure (And.intro rfl h0)))
      | exact wpAny_pure (And.intro rfl h0)
  · exact wpAny_bind (wpAny_rule (wpAny_bind (wpAny_standAt (wpAny_bind (wpAny_mono h (fun it' s' h' => wpAny_pure (And.intro rfl h')) fun _ _ x => x.elim)))))
end
end Mine
end
noncomputable section
open PySem PySem.W PySem.Calls PyProof.Rows Builtin Builtin.ObjectAttr Builtin.Str
namespace Mine
section
variable {T : Tabs} {K : Frag} {cd : ClassData} {mg mb : Str → Option Value} {w : World} {A : Around} {s : Shared} {g h₀ h h' : Heap} {W W' : List Addr} {L C : Addr} {m : Str → Option Value} {kn : List (Addr × Obj)} {R : Result → Shared → Prop} {E : Value → Shared → Prop} {prog : Program}
abbrev two (elt target iter target' iter' : Expr) (ifs : List Expr) (scope : Scope) (pos : Pos) : Expr := .ListComp elt [⟨target, iter, [], 0⟩, ⟨target', iter', ifs, 0⟩] scope pos
theorem near_in {env : Env} {I D : Addr} {fp wr : List Addr} {n base : Nat} {P : Nat → Value → Prop} {S : Nat → Heap → Prop} {elt target iter iter' : Expr} {ifs : List Expr} {scope : Scope} {pos px : Pos} {x : Str} {m₀ : Str → Option Value} {ha : Heap}
    (Tn : Turns prog w A T g [] h₀ (.Name x px) env I fp wr n (fun i m m' => ∃ v, P i v ∧ m' = fun y => if y = x then some v else m y) S) (p : Nat → Bool) (s₀ : Shared)
    (hD : h₀.get? D = none) (hDf : D ∉ fp) (hfT : ∀ b ∈ fp, b ∉ T.map (·.2)) (hn : base + n ≤ 100000)
    (body : ∀ i (s : Shared) v m' its ep, i < n → P i v → m' x = some v → (∀ z : Str, z ≠ x → m' z = m₀ z) → J T g [] h₀ env.locals s.heap m' [(D, lstO its ep)] → Ok s₀ s →
      wpAny (model prog w) A (forIn ifs true fun c r => if r = true then do let ok ← isTrue c env (eval c env); pure (ForInStep.yield ok) else pure (ForInStep.yield r))
        (fun ok s₃ => ok = p i ∧ Mv T g [] s.heap s₃.heap ∧ Ok s s₃ ∧ (p i = true → wpAny (model prog w) A (eval elt env) (fun y s₄ => Mv T g [] s₃.heap s₄.heap ∧ Ok s₃ s₄) (fun _ _ => False) s₃)) (fun _ _ => False) s)
    (hR : ∀ (s : Shared) m its ep, J T g [] h₀ env.locals s.heap m [(D, lstO its ep)] → its.size = base + ((List.range n).filter p).length → Ok s₀ s → (∀ b o, b ∉ T.map (·.2) → b ∉ D :: env.locals :: wr → ha.get? b = some o → s.heap.get? b = some o) → R (.ok .next) s) :
    ∀ (k i : Nat) (s : Shared) m (its : Array Value) ep, n - i = k → i ≤ n → J T g [] h₀ env.locals s.heap m [(D, lstO its ep)] → S i s.heap → its.size = base + ((List.range i).filter p).length → Ok s₀ s → (∀ z : Str, z ≠ x → m z = m₀ z) →
      (∀ b o, b ∉ T.map (·.2) → b ∉ D :: env.locals :: wr → ha.get? b = some o → s.heap.get? b = some o) →
    codeAny (model prog w) A (.compLoop (two elt target iter (.Name x px) iter' ifs scope pos) 1 (.ref I) (.ref D) env) R s := by
  intro k
  have kw : ∀ {its ep}, ∀ p ∈ [(D, lstO its ep)], p.1 ∉ wr := fun p hp => by
    rw [List.mem_singleton.mp hp]
    exact fun hm => hDf (Tn.sub _ hm)
  induction k with
  | zero =>
    intro i s m its ep hk hi j hs hsz ok hm kp
    have hin : i = n := by exact de0 hk hi
    subst hin
    refine comp_two1 ?_
    refine wpAny_mono (Tn.done s m _ (fun s₁ => R (.ok .next) s₁) _ hs j kw fun h' tk j' kp' => ?_) (fun r s₁ h₁ => ?_) fun _ _ f => f
    · exact hR _ m its ep j' hsz ⟨ok.1, ok.2⟩ fun b o hT hb e => kp' b o (fun hm => hb (.tail _ (.tail _ hm))) (kp b o hT hb e)
    · cases r with
      | none => exact h₁
      | some v => exact h₁.elim
  | succ k ih =>
    intro i s m its ep hk hi j hs hsz ok hm kp
    have hin : i < n := by exact dlt hk
    have hle : ((List.range i).filter p).length ≤ i := by
      have := List.length_filter_le p (List.range i)
      rwa [List.length_range] at this
    refine comp_two1 ?_
    refine wpAny_mono (Tn.item i s m _ (fun s₂ => wpAny (model prog w) A (forIn ifs true fun c r => if r = true then do let ok ← isTrue c env (eval c env); pure (ForInStep.yield ok) else pure (ForInStep.yield r)) (fun ok s₃ =>
            if ok = true then wpAny (model prog w) A (eval elt env) (fun x' s₄ =>
              wpAny (model prog w) A (call (.builtin "list.append") [.ref D, x']) (fun _ s₅ => codeAny (model prog w) A (.compLoop (two elt target iter (.Name x px) iter' ifs scope pos) 1 (.ref I) (.ref D) env) R s₅) (fun _ _ => False) s₄) (fun _ _ => False) s₃
            else codeAny (model prog w) A (.compLoop (two elt target iter (.Name x px) iter' ifs scope pos) 1 (.ref I) (.ref D) env) R s₃) (fun _ _ => False) s₂) (fun _ _ => False) hin hs j kw fun h₁ tk₁ m₁ hu j₁ hs₁ k₁ => ?_) (fun r s₁ h₁ => ?_) fun _ _ f => f
    · have ok₁ : Ok s₀ { s with heap := h₁, toks := tk₁ } := ⟨ok.1, ok.2⟩
      obtain ⟨v, hv, rfl⟩ := hu
      have hm₁ : ∀ z : Str, z ≠ x → (fun y => if y = x then some v else m y) z = m₀ z := fun z hz => by
        show (if z = x then _ else _) = _
        rw [if_neg hz]; exact hm z hz
      have kp₁ : ∀ b o, b ∉ T.map (·.2) → b ∉ D :: env.locals :: wr → ha.get? b = some o → h₁.get? b = some o := fun b o hT hb e => k₁ b o (fun hm => hb (.tail _ (.tail _ hm))) (fun q => hb (by exact mS (mE q))) (kp b o hT hb e)
      refine wpAny_mono (body i _ v _ its ep hin hv (by show (if x = x then _ else _) = _; rw [if_pos rfl]) hm₁ j₁ ok₁) (fun ok' s₃ h₃ => ?_) fun _ _ f => f
      obtain ⟨rfl, mv₃, ok₃, he⟩ := h₃
      have j₃ := j₁.call0 mv₃
      have st : ∀ {h h'}, Mv T g [] h h' → ∀ i, S i h → S i h' := fun mv i hs => Tn.stable i _ _ hs fun b hb o e => mv.keep b o e (hfT b hb) (.inl (by exact ni0))
      have hs₃ := st mv₃ _ hs₁
      have okk : Ok s₀ s₃ := ⟨ok₃.1.trans ok₁.1, fun a => ok₃.2 (ok₁.2 a)⟩
      have kp₃ : ∀ b o, b ∉ T.map (·.2) → b ∉ D :: env.locals :: wr → ha.get? b = some o → s₃.heap.get? b = some o := fun b o hT hb e => mv₃.keep b o (kp₁ b o hT hb e) hT (.inl (by exact ni0))
      cases hp : p i with
      | false =>
        rw [if_neg (by simp)]
        refine ih (i + 1) s₃ _ its ep (by exact dst hk) hin j₃ hs₃ ?_ okk hm₁ kp₃
        rw [range_filter_succ, hp]
        simpa using hsz
      | true =>
        rw [if_pos rfl]
        refine wpAny_mono (he hp) (fun y s₄ h₄ => ?_) fun _ _ f => f
        obtain ⟨mv₄, ok₄⟩ := h₄
        have j₄ := j₃.call0 mv₄
        refine wpAny_list_append_plain (items := its) ⟨ep, j₄.get (.head _)⟩ (fun h₅ hl₅ hs₅ => ?_) (by rw [sizeLine_eq]; lia)
        obtain ⟨ep₅, e₅⟩ := hl₅
        obtain ⟨j₅, mv₅⟩ := j₄.iter 0 rfl (.inr hD) (by rintro ⟨q, _⟩; simp at q) hs₅ e₅
        refine ih (i + 1) _ _ (its.push y) ep₅ (by exact dst hk) hin j₅ (Tn.stable _ _ _ (st mv₄ _ hs₃) fun b hb o e => (hs₅.2 b fun q => hDf (q ▸ hb)).trans e) ?_ ⟨ok₄.1.trans okk.1, fun a => ok₄.2 (okk.2 a)⟩ hm₁ fun b o hT hb e => (hs₅.2 b fun q => hb (by exact mE q)).trans (mv₄.keep b o (kp₃ b o hT hb e) hT (.inl (by exact ni0)))
        rw [range_filter_succ, hp, if_pos rfl, Array.size_push, List.length_append, hsz]
        rfl
    · cases r with
      | none => exact h₁.elim
      | some v => exact h₁
theorem near_out {env : Env} {I D : Addr} {fp wr : List Addr} {n : Nat} {upd : Nat → (Str → Option Value) → (Str → Option Value) → Prop} {S : Nat → Heap → Prop} {elt target iter target' iter' : Expr} {ifs : List Expr} {scope : Scope} {pos : Pos} {cnt : Nat → Nat}
    (Tn : Turns prog w A T g [] h₀ target env I fp wr n upd S) (s₀ : Shared)
    (hDf : D ∉ fp) (hs' : ∀ x, foldedSetIterable iter' env x = pure x)
    (body : ∀ i (s : Shared) m m' its ep (R' : Result → Shared → Prop), i < n → upd i m m' → J T g [] h₀ env.locals s.heap m' [(D, lstO its ep)] → its.size = cnt i → Ok s₀ s → S (i + 1) s.heap →
      (∀ s' m'' its' ep', J T g [] h₀ env.locals s'.heap m'' [(D, lstO its' ep')] → its'.size = cnt (i + 1) → Ok s₀ s' → (∀ b ∈ fp, ∀ o, s.heap.get? b = some o → s'.heap.get? b = some o) → R' (.ok .next) s') →
      wpAny (model prog w) A (eval iter' env) (fun xv s₃ => wpAny (model prog w) A (pyIter xv) (fun it' s₄ =>
            codeAny (model prog w) A (.compStart (two elt target iter target' iter' ifs scope pos) 1 it' (.ref D) env) R' s₄) (fun _ _ => False) s₃) (fun _ _ => False) s)
    (hR : ∀ (s : Shared) m its ep, J T g [] h₀ env.locals s.heap m [(D, lstO its ep)] → its.size = cnt n → Ok s₀ s → R (.ok .next) s) :
    ∀ (k i : Nat) (s : Shared) m (its : Array Value) ep, n - i = k → i ≤ n → J T g [] h₀ env.locals s.heap m [(D, lstO its ep)] → S i s.heap → its.size = cnt i → Ok s₀ s →
    codeAny (model prog w) A (.compLoop (two elt target iter target' iter' ifs scope pos) 0 (.ref I) (.ref D) env) R s := by
  intro k
  have kw : ∀ {its ep}, ∀ p ∈ [(D, lstO its ep)], p.1 ∉ wr := fun p hp => by
    rw [List.mem_singleton.mp hp]
    exact fun hm => hDf (Tn.sub _ hm)
  induction k with
  | zero =>
    intro i s m its ep hk hi j hs hsz ok
    have hin : i = n := by exact de0 hk hi
    subst hin
    refine comp_two0 hs' ?_
    refine wpAny_mono (Tn.done s m _ (fun s₁ => R (.ok .next) s₁) _ hs j kw fun h' tk j' kp' => ?_) (fun r s₁ h₁ => ?_) fun _ _ f => f
    · exact hR _ m its ep j' hsz ⟨ok.1, ok.2⟩
    · cases r with
      | none => exact h₁
      | some v => exact h₁.elim
  | succ k ih =>
    intro i s m its ep hk hi j hs hsz ok
    have hin : i < n := by exact dlt hk
    refine comp_two0 hs' ?_
    refine wpAny_mono (Tn.item i s m _ (fun s₂ => wpAny (model prog w) A (eval iter' env) (fun xv s₃ => wpAny (model prog w) A (pyIter xv) (fun it' s₄ =>
            codeAny (model prog w) A (.compStart (two elt target iter target' iter' ifs scope pos) 1 it' (.ref D) env) (fun r s₅ => r = .ok .next ∧ codeAny (model prog w) A (.compLoop (two elt target iter target' iter' ifs scope pos) 0 (.ref I) (.ref D) env) R s₅) s₄) (fun _ _ => False) s₃) (fun _ _ => False) s₂) (fun _ _ => False) hin hs j kw fun h₁ tk₁ m₁ hu j₁ hs₁ k₁ => ?_) (fun r s₁ h₁ => ?_) fun _ _ f => f
    · refine body i { s with heap := h₁, toks := tk₁ } m m₁ its ep _ hin hu j₁ hsz ⟨ok.1, ok.2⟩ hs₁ fun s' m'' its' ep' j' hsz' ok' kp' => ⟨rfl, ?_⟩
      exact ih (i + 1) s' m'' its' ep' (by exact dst hk) hin j' (Tn.stable _ _ _ hs₁ kp') hsz' ok'
    · cases r with
      | none => exact h₁.elim
      | some v => exact h₁
end
end Mine
end
noncomputable section
open PySem PySem.W PySem.Calls PyProof.Rows Builtin Builtin.ObjectAttr Builtin.Str
namespace Mine
section
variable {T : Tabs} {K : Frag} {cd : ClassData} {mg mb : Str → Option Value} {w : World} {A : Around} {s : Shared} {g h₀ h h' h₁ h₂ : Heap} {W W' : List Addr} {L C : Addr} {m : Str → Option Value} {kn : List (Addr × Obj)} {R : Result → Shared → Prop} {E : Value → Shared → Prop} {prog : Program}
def Src2 (prog : Program) (w : World) (A : Around) (T : Tabs) (g : Heap) (s : Shared) (e : Expr) (env : Env) (scope : Scope) (cl : List (Str × Addr)) (N : Nat) (it : Value) (s₂ : Shared) : Prop :=
  Mv T g [] s.heap s₂.heap ∧ Ok s s₂ ∧ ∃ (I : Addr) (fp : List Addr) (S : Heap → Prop), it = .ref I ∧ S s₂.heap ∧ (∀ b ∈ fp, b < s₂.heap.objs.size ∧ b ∉ T.map (·.2)) ∧
    (∀ h h', S h → (∀ b ∈ fp, ∀ o, h.get? b = some o → h'.get? b = some o) → S h') ∧
    (∀ (s : Shared) (Q : Value → Shared → Prop) (E : Value → Shared → Prop), S s.heap → Q (.ref I) s → wpAny (model prog w) A (pyIter (.ref I)) Q E s) ∧
    (∀ D C (s₃ : Shared) (R' : Result → Shared → Prop), D ∉ fp → C ∉ fp → s.heap.get? D = none → J T g [] s.heap C s₃.heap (fun _ => none) [(D, lstO #[] 0)] → S s₃.heap → Ok s₂ s₃ →
      (∀ s' m its ep, J T g [] s.heap C s'.heap m [(D, lstO its ep)] → its.size = N → Ok s₃ s' → R' (.ok .next) s') →
      codeAny (model prog w) A (.compLoop e 0 (.ref I) (.ref D) (compEnvC scope cl C env)) R' s₃)
theorem comp_core2 {env : Env} {elt target iter target' iter' : Expr} {ifs : List Expr} {scope : Scope} {cl : List (Str × Addr)} {pos : Pos} {N : Nat} {RR : Value → Addr → Result → Shared → Prop} {it : Value} {s₂ : Shared}
    (hcell : ∀ y ∈ scope.names, y.2 ≠ .cell) (hkind : scope.kind = .function) (S₀ : St T g s.heap)
    (src : Src2 prog w A T g s (two elt target iter target' iter' ifs scope pos) env scope cl N it s₂)
    (hRR : ∀ D C (s' : Shared) its ep m, Mv T g [] s.heap s'.heap → Ok s s' → s'.heap.Ns C m → s.heap.get? D = none → s.heap.get? C = none → D ≠ C → g.objs.size ≤ C → g.objs.size ≤ D → s'.heap.get? D = some (lstO its ep) → its.size = N → RR (.ref D) C (.ok .next) s') :
    wpAny (model prog w) A (newList []) (fun acc s₃ => wpAny (model prog w) A (newFunctionEnv scope env.globals cl [] env.qual none .none (some env)) (fun cenv s₄ =>
      codeAny (model prog w) A (.compStart (two elt target iter target' iter' ifs scope pos) 0 it acc { cenv with scope := relabel scope env }) (RR acc cenv.locals) s₄) E s₃) E s₂ := by
  obtain ⟨mv₂, ok₂, I, fp, Sx, rfl, hS, hfp, hst, hself, hloop⟩ := src
  refine wpAny_newObj_type (wpAny_newFunctionEnv hcell (by intro y hy; simp at hy) (fun h₁ hns₁ hsb₁ => ?_) hkind)
  dsimp only at hns₁ hsb₁ ⊢
  generalize hH2 : s₂.heap.push { cls := .type "list", dict := none, data := .seq ([] : List Value).toArray } = H2 at hns₁ hsb₁ ⊢
  have hC : H2.objs.size = s₂.heap.objs.size + 1 := by rw [← hH2, Heap.size_push]
  have hDC : s₂.heap.objs.size ≠ H2.objs.size := by rw [hC]; exact Nat.ne_of_lt (Nat.lt_succ_self _)
  have old : ∀ b o, s₂.heap.get? b = some o → h₁.get? b = some o := fun b o e => hsb₁.extBut b o (by rw [hC]; exact Nat.ne_of_lt (Nat.lt_succ_of_lt (Heap.lt_size e))) (Heap.get?_push_of_some _ (hH2 ▸ Heap.get?_push_of_some _ e))
  have hacc : h₁.get? s₂.heap.objs.size = some (lstO #[] 0) := hsb₁.extBut _ _ hDC (Heap.get?_push_of_some _ (hH2 ▸ Heap.get?_push_size _ rfl))
  have fresh : ∀ a, s₂.heap.objs.size ≤ a → s₂.heap.get? a = none := fun a ha => Heap.get?_none_of_le ha
  have bk : ∀ a, s₂.heap.get? a = none → s.heap.get? a = none := fun a ha => none_back mv₂ ha
  have gD : g.objs.size ≤ s₂.heap.objs.size := mv₂.st.le
  have gC : g.objs.size ≤ H2.objs.size := by rw [hC]; exact Nat.le_succ_of_le gD
  have hCn : s.heap.get? H2.objs.size = none := bk _ (fresh _ (by rw [hC]; exact Nat.le_succ _))
  have hDn : s.heap.get? s₂.heap.objs.size = none := bk _ (fresh _ (Nat.le_refl _))
  have noT : ∀ a, s.heap.get? a = none → a ∉ T.map (·.2) := fun a ha hm => by
    obtain ⟨q, hq, rfl⟩ := List.mem_map.mp hm
    obtain ⟨ps, ps₀, x, y, z⟩ := S₀.tab q hq
    have := y.2
    rw [ha] at this
    cases this
  have jc : J T g [] s.heap H2.objs.size h₁ (fun x => ([] : List (Str × Value)).reverse.lookup x) [(s₂.heap.objs.size, lstO #[] 0)] :=
    ⟨mv₂.keeps old (by obtain ⟨oL, _, _, e, _⟩ := hns₁; exact Nat.le_trans gC (Nat.le_of_lt (Heap.lt_size e))), hns₁, noT _ hCn, hCn, gC, fun q hq => by
      rw [List.mem_singleton.mp hq]
      exact ⟨hacc, hDC, noT _ hDn, gD⟩, by exact nd1, S₀⟩
  have hCf : H2.objs.size ∉ fp := fun hm => by have := (hfp _ hm).1; rw [hC] at this; exact absurd this (Nat.not_lt.mpr (Nat.le_succ _))
  have hDf : s₂.heap.objs.size ∉ fp := fun hm => Nat.lt_irrefl _ (hfp _ hm).1
  have hS₁ : Sx h₁ := hst _ _ hS fun b _ o e => old b o e
  have loop : ∀ s₃ : Shared, s₃ = { s₂ with heap := h₁, toks := s₂.toks + ([] : List (Str × Value)).length } →
      codeAny (model prog w) A (.compLoop (two elt target iter target' iter' ifs scope pos) 0 (.ref I) (.ref s₂.heap.objs.size) (compEnvC scope cl H2.objs.size env))
        (RR (.ref s₂.heap.objs.size) H2.objs.size) s₃ := by
    rintro s₃ rfl
    refine hloop _ _ _ _ hDf hCf hDn jc hS₁ ⟨rfl, id⟩ fun s₄ m its ep j₄ hP ok₄ => ?_
    exact hRR _ _ s₄ its ep _ j₄.mv ⟨ok₄.1.trans ok₂.1, fun a => ok₄.2 (ok₂.2 a)⟩ j₄.ns hDn hCn hDC gC gD (j₄.get (.head _)) hP
  exact codeAny_compStart_list (loop _ rfl) (hself _ _ _ hS₁ (loop _ rfl))
theorem j_assignComp2 {env : Env} {elt target iter target' iter' : Expr} {ifs : List Expr} {scope : Scope} {cl : List (Str × Addr)} {pos spos py : Pos} {y : Str} {N : Nat} {Q : Flow → Shared → Prop}
    (j : J T g W h₀ env.locals s.heap m kn) (hclos : closureFor scope env = pure cl)
    (hiter : wpAny (model prog w) A (eval iter env) (fun xv s₁ => wpAny (model prog w) A (pyIter xv) (Src2 prog w A T g s (two elt target iter target' iter' ifs scope pos) env scope cl N) E s₁) E s)
    (hQ : ∀ (s' : Shared) D its ep, J T g W h₀ env.locals s'.heap (fun z => if z = y then some (.ref D) else m z) kn → Mv T g [env.locals] s.heap s'.heap → Ok s s' → s.heap.get? D = none → g.objs.size ≤ D → s'.heap.get? D = some (lstO its ep) → its.size = N → Q .next s')
    (hsw : swapsWith (two elt target iter target' iter' ifs scope pos) (some (.Name y py)) spos.line env = pure true := by rfl) (hy : env.kindOf y = some .local := by rfl) (hek : env.scope.kind = .function := by rfl)
    (hcell : ∀ y ∈ scope.names, y.2 ≠ .cell := by decide) (hkind : scope.kind = .function := by rfl)
    (hnames : ∀ y ∈ scope.names, y.2 = .local → scope.names.lookup y.1 = some .local := by decide)
    (hs : ∀ x, foldedSetIterable iter env x = pure x := by intro _; rfl) :
    wpAny (model prog w) A (exec (.Assign [.Name y py] (two elt target iter target' iter' ifs scope pos) spos) env) Q E s := by
  rw [exec_Assign_Name_used _ _ _ _ hsw]
  refine wpAny_bind (wpAny_standAt (wpAny_bind ?_))
  show wpAny _ A (do let _ ← comprehension (two elt target iter target' iter' ifs scope pos) scope env _ (newList []) false (eval iter env) (some (assign (.Name y py) env))) _ _ s
  refine wpAny_bind (wpAny_mono (wpAny_comprehension_free (use := some (assign (.Name y py) env)) (Q := fun _ s' => Q .next s') rfl hs hclos hkind hnames
    (wpAny_mono hiter (fun xv s₁ h₁ => wpAny_mono h₁ (fun it s₂ src => ?_) fun _ _ e => e) fun _ _ e => e)) (fun _ s' hq => wpAny_pure (wpAny_pure hq)) fun _ _ e => e)
  refine comp_core2 (RR := fun acc C => compPost (model prog w) A E (some (assign (.Name y py) env)) (fun _ s' => Q .next s') acc C) hcell hkind j.mv.st src ?_
  intro D C s' its ep m' mv ok hns hD hC hDC gC gD eD hP
  have LC : env.locals ≠ C := by rintro e; obtain ⟨o, _, _, e', _⟩ := j.ns; rw [e, hC] at e'; cases e'
  have LD : env.locals ≠ D := by rintro e; obtain ⟨o, _, _, e', _⟩ := j.ns; rw [e, hD] at e'; cases e'
  have j' := j.call0 mv
  show wpAny _ A (assign (.Name y py) env (.ref D)) _ _ _
  refine wpAny_assign_Name ?_
  refine wpAny_storeName_local hy j'.ns (fun h₂ hn₂ hs₂ => ?_) (by rw [hek]; rfl)
  refine ⟨m', hns.sameBut hs₂ LC.symm, fun h₃ hs₃ => ?_⟩
  have jn : ∀ {b o}, s.heap.get? b = some o → b ≠ C := fun e q => by rw [q, hC] at e; cases e
  have h0C : h₀.get? C = none := none_back j.mv hC
  have j₂ := j'.store hn₂ hs₂
  have j₃ := j₂.turn (wr := [C]) (h' := h₃) (fun b o hb e => (hs₃.2 b fun q => hb (by exact mE q)).trans e) (fun b hb => by rw [List.mem_singleton.mp hb]; exact ⟨h0C, LC.symm⟩) (fun q hq hm => by
    have := (j.has q hq).1
    exact jn this (List.mem_singleton.mp hm))
  have mvL := (mv.weak (W' := [env.locals]) (by exact al0)).trans (j'.storeMv hn₂ hs₂) (fun b hb => .inl hb)
  exact hQ _ D its ep j₃ (mvL.same hs₃ hC gC) ⟨ok.1, ok.2⟩ hD gD ((hs₃.2 D hDC).trans ((hs₂.2 D LD.symm).trans eD)) hP
end
end Mine
end
noncomputable section
open PySem PySem.W PySem.Calls PyProof.Rows Builtin Builtin.ObjectAttr Builtin.Str
namespace Mine
section
variable {T : Tabs} {K : Frag} {cd : ClassData} {mg mb : Str → Option Value} {w : World} {A : Around} {s : Shared} {g h₀ h h' h₁ h₂ : Heap} {W W' : List Addr} {L C : Addr} {m : Str → Option Value} {kn : List (Addr × Obj)} {R : Result → Shared → Prop} {E : Value → Shared → Prop} {prog : Program}
theorem enum_new {ax : Addr} {its : Array Value} {ep : Nat} {Q : Value → Shared → Prop} (hh : A.handled = none) (S : St T g s.heap) (hax : s.heap.get? ax = some (lstO its ep))
   (h : ∀ h' e it, Mv T g [] s.heap h' → (∀ b ∈ [e, it, ax], b < h'.objs.size ∧ b ∉ T.map (·.2)) → (∀ b ∈ [e, it], s.heap.get? b = none) →
     WalksU prog w A e [e, it, ax] [e, it] its.size (fun i vals => ∃ t x, its[i]? = some x ∧ vals = #[.int i t, x]) (fun i h => (∃ old, IsEnum h e it i old) ∧ h.IsListIter it ax i ∧ h.IsList ax its) (fun i T h => (∃ x, IsEnumOut h e it ((i : Int) + 1) x T) ∧ h.IsListIter it ax (i + 1) ∧ h.IsList ax its ∧ T ≠ e ∧ T ≠ it) →
     ((∃ old, IsEnum h' e it ((0 : Nat) : Int) old) ∧ h'.IsListIter it ax 0 ∧ h'.IsList ax its) → Q (.ref e) { s with heap := h' }) :
   wpAny (model prog w) A (call (.type "enumerate") [.ref ax]) (fun xv s₂ => wpAny (model prog w) A (pyIter xv) Q E s₂) E s := by
  refine call_enumerate_list ⟨_, hax, rfl, _, rfl⟩ fun h' he hi hz hk => ?_
  refine wpAny_pyIter_enum he ?_
  have bx := Heap.lt_size hax
  have hN : ∀ b, s.heap.objs.size ≤ b → s.heap.get? b = none := fun b hb => Heap.get?_none_of_le hb
  have noT : ∀ b, s.heap.objs.size ≤ b → b ∉ T.map (·.2) := fun b hb hm => by
    obtain ⟨q, hq, e⟩ := List.mem_map.mp hm
    obtain ⟨ps, ps₀, x, y, z⟩ := S.tab q hq
    have := Heap.lt_size y.2
    rw [e] at this
    exact absurd this (Nat.not_lt.mpr hb)
  have mv : Mv T g [] s.heap h' := ⟨S.keepsL hk (by rw [hz]; exact Nat.le_trans S.le (Nat.le_add_right _ _)), fun b o e _ _ => hk _ _ e, fun b o e => ⟨o, hk _ _ e⟩⟩
  have n1 : s.heap.objs.size + 1 ≠ s.heap.objs.size := Nat.succ_ne_self _
  have n2 : ax ≠ s.heap.objs.size + 1 := Nat.ne_of_lt (Nat.lt_succ_of_lt bx)
  have n3 : ax ≠ s.heap.objs.size := Nat.ne_of_lt bx
  refine h h' (s.heap.objs.size + 1) s.heap.objs.size mv (fun b hb => ?_) (fun b hb => ?_) (WalksT.enumerate hh _ _ ax n1 n2 n3 its).toU ⟨⟨_, he⟩, hi, ⟨_, hk _ _ hax, rfl, _, rfl⟩⟩
  · simp only [List.mem_cons, List.not_mem_nil, or_false] at hb
    rw [hz]
    rcases hb with rfl | rfl | rfl
    · exact ⟨Nat.lt_succ_self _, noT _ (Nat.le_succ _)⟩
    · exact ⟨Nat.lt_succ_of_lt (Nat.lt_succ_self _), noT _ (Nat.le_refl _)⟩
    · exact ⟨Nat.lt_succ_of_lt (Nat.lt_succ_of_lt bx), S.notTab hax (by nofun)⟩
  · simp only [List.mem_cons, List.not_mem_nil, or_false] at hb
    rcases hb with rfl | rfl
    · exact hN _ (Nat.le_succ _)
    · exact hN _ (Nat.le_refl _)
theorem src_enum {elt : Expr} {ifs : List Expr} {env : Env} {scope : Scope} {cl : List (Str × Addr)} {n : Nat} {p : Nat → Bool} {F : Nat → Value → Prop} {s₁ : Shared} {ax : Addr} {its : Array Value} {ep : Nat} {x y : Str} {px py pt : Pos} {kt : Nat}
    (hh : A.handled = none) (mv₁ : Mv T g [] s.heap s₁.heap) (ok₁ : Ok s s₁) (S₁ : St T g s₁.heap) (hax : s₁.heap.get? ax = some (lstO its ep)) (hn : its.size = n)
    (hx : scope.names.lookup x = some .local) (hy : scope.names.lookup y = some .local) (hk : scope.kind = .function)
    (body : ∀ s₂, Ok s₁ s₂ → Body prog w A T g s s₂ elt ifs env scope cl n p F (fun i m m' => ∃ t v, its[i]? = some v ∧ m' = fun z => if z = y then some v else if z = x then some (.int i t) else m z)) :
    wpAny (model prog w) A (call (.type "enumerate") [.ref ax]) (fun xv s₂ => wpAny (model prog w) A (pyIter xv) (Src prog w A T g s elt (.Tuple [.Name x px, .Name y py] kt pt) ifs env scope cl n p (fun _ i y _ => F i y)) E s₂) E s₁ := by
  subst hn
  refine enum_new hh S₁ hax fun h' e it mv hfp hwr Wk hS => ?_
  refine ⟨mv₁.trans mv (by exact al0), ⟨ok₁.1, ok₁.2⟩, e, _, _, _, _, rfl, hS, hfp, fun C hC => Turns.pairU Wk hh (fun i vals hv => ?_) (fun b hb => none_back mv₁ (hwr b hb)) hC hk (lookup_relabel_local hx) (lookup_relabel_local hy), fun D C => Stays.pure F, ?_⟩
  · obtain ⟨t, x, _, rfl⟩ := hv; rfl
  · intro D C i s₃ m m' its' ep' hi hu j mv hs ok
    obtain ⟨v, v', ⟨t, x', e1, e2⟩, rfl⟩ := hu
    obtain ⟨rfl, rfl⟩ : v = .int i t ∧ v' = x' := by simpa using e2
    exact body _ ⟨rfl, id⟩ D C i s₃ m _ its' ep' hi ⟨t, v', e1, rfl⟩ j mv ok
end
abbrev lawEnv (L c4 c3 c2 c1 : Addr) : Env := envX "law" (fScope (topSt 22)) L 385 (.ref 384) [("depths", c4), ("words", c3), ("width", c2), ("sizes", c1)]
end Mine
end
noncomputable section
open PySem PySem.W PySem.Calls PyProof.Rows Builtin Builtin.ObjectAttr Builtin.Str
namespace Mine
def nearB (a b : Int) : Bool := (0 == a - b) || ((1 == a - b) || false)
def nearC (ds : List Int) : Nat → Nat
  | 0 => 0
  | i + 1 => nearC ds i + ((ds.drop (i + 1)).filter (nearB (ds.getD i 0))).length
theorem nearC_le (ds : List Int) : ∀ i, nearC ds i ≤ i * ds.length
  | 0 => Nat.zero_le _
  | i + 1 => by
    have := nearC_le ds i
    have h2 := List.length_filter_le (nearB (ds.getD i 0)) (ds.drop (i + 1))
    rw [List.length_drop] at h2
    show nearC ds i + _ ≤ _
    rw [Nat.succ_mul]; omega
theorem IntsAre.drop {vs : List Value} {ns : List Int} (h : IntsAre vs ns) (k : Nat) : IntsAre (vs.drop k) (ns.drop k) := by
  induction h generalizing k with
  | nil => simp; exact .nil
  | cons n t hr ih =>
    cases k with
    | zero => exact .cons n t hr
    | succ k => exact ih k
section
variable {T : Tabs} {K : Frag} {cd : ClassData} {mg mb : Str → Option Value} {w : World} {A : Around} {s : Shared} {g h₀ h h' h₁ h₂ : Heap} {W W' : List Addr} {L C : Addr} {m : Str → Option Value} {kn : List (Addr × Obj)} {R : Result → Shared → Prop} {E : Value → Shared → Prop} {prog : Program}
theorem compStart_walk {elt target iter target' iter' : Expr} {ifs : List Expr} {scope : Scope} {pos : Pos} {I : Addr} {acc : Value} {env : Env}
    (h0 : codeAny (model prog w) A (.compLoop (.ListComp elt [⟨target, iter, [], 0⟩, ⟨target', iter', ifs, 0⟩] scope pos) 1 (.ref I) acc env) R s)
    (hs : ∀ Q : Value → Shared → Prop, Q (.ref I) s → wpAny (model prog w) A (pyIter (.ref I)) Q (fun _ _ => False) s) :
    codeAny (model prog w) A (.compStart (.ListComp elt [⟨target, iter, [], 0⟩, ⟨target', iter', ifs, 0⟩] scope pos) 1 (.ref I) acc env) R s := compStart_two1 h0 (hs (fun it' s' => codeAny (model prog w) A (.compLoop (.ListComp elt [⟨target, iter, [], 0⟩, ⟨target', iter', ifs, 0⟩] scope pos) 1 it' acc env) R s') h0)
set_option maxHeartbeats 4000000 in
theorem near_stmt {dl c4 c3 c2 c1 : Addr} {its : Array Value} {ep : Nat} {depths : List Int} {Qf : Flow → Shared → Prop} {o4 : Obj} (gE : mg "enumerate" = none) (G : Gb T K mg mb g) (r : Rm A 3)
   (j : J T g [] h₀ L s.heap m kn) (hc : (c4, o4) ∈ kn) (d4 : o4.data = .cell (some (.ref dl))) (hdl : s.heap.get? dl = some (lstO its ep)) (hi : IntsAre its.toList depths) (hn : depths.length ≤ 100)
   (hQ : ∀ (s' : Shared) D its' ep', J T g [] h₀ L s'.heap (fun z => if z = "near" then some (.ref D) else m z) kn → Mv T g [L] s.heap s'.heap → Ok s s' → s'.heap.get? D = some (lstO its' ep') → its'.size = nearC depths depths.length → Qf .next s') :
   wpAny (model PR w) A (exec (stAt (fBody (topSt 22)) 11) (lawEnv L c4 c3 c2 c1)) Qf (fun _ _ => False) s := by
  have cT := (j.has _ hc).2.2.1
  have ec4 := (j.has _ hc).1
  have dT := j.mv.st.notTab hdl (by nofun)
  have hlen : its.size = depths.length := by have := hi.length; rw [Array.length_toList] at this; exact this
  refine j_assignComp2 (env := lawEnv L c4 c3 c2 c1) (cl := [("depths", c4)]) (N := nearC depths depths.length) j (by rfl) ?_ ?_
  · refine Call_ ?_
    refine e_builtin G j.mv.st gE boot_enumerate ?_
    refine PyProof.Rows.callWith_type1 (args_cons ?_)
    refine e_cell ec4 d4 rfl ?_
    refine args_nil ?_
    refine enum_new r.h j.mv.st hdl fun h₁ e it mv₁ hfp hwr Wk hS => ?_
    refine ⟨mv₁, ⟨rfl, id⟩, e, [e, it, dl], _, rfl, hS, hfp, fun h h' x k => Wk.frame 0 h h' x k, fun s Q E hS hq => Wk.self 0 s Q E hS hq, ?_⟩
    intro D C s₃ R' hDf hCf hD j₃ hS₃ ok₃ hR
    refine near_out (cnt := nearC depths) (Turns.pairU Wk r.h (fun i vals hv => by obtain ⟨t, x, _, rfl⟩ := hv; rfl) hwr hCf (by rfl) (by rfl) (by rfl)) s₃ hDf (fun _ => rfl) ?_ (fun s₅ m₅ its₅ ep₅ j₅ hz₅ ok₅ => hR s₅ m₅ its₅ ep₅ j₅ (by rw [hz₅, hlen]) ok₅) its.size 0 s₃ _ #[] 0 rfl (Nat.zero_le _) j₃ hS₃ rfl ⟨rfl, id⟩
    intro i s₄ m₄ m₄' its₄ ep₄ R'' hi4 hu j₄ hsz ok₄ hS₄ hRR
    obtain ⟨v, v', ⟨t, x, e1, e2⟩, rfl⟩ := hu
    obtain ⟨rfl, rfl⟩ : v = .int i t ∧ v' = x := by simpa using e2
    obtain ⟨a, ta, ea, rfl⟩ := IntsAre.get' hi i (by rw [Array.getElem?_toList]; exact e1)
    have ec4' : s₄.heap.get? c4 = some o4 := j₄.mv.keep _ _ ec4 cT (.inl (by exact ni0))
    have hdl' : s₄.heap.get? dl = some (lstO its ep) := j₄.mv.keep _ _ hdl dT (.inl (by exact ni0))
    have rr := r
    refine Subscript_ ?_
    refine e_cell ec4' d4 rfl ?_
    refine e_Slice ?_
    refine wpAny_BinOp ?_
    refine e_local (s := s₄) j₄ (v := .int (i : Int) t) (by rw [if_neg (by decide), if_pos rfl]) ?_
    refine wpAny_Constant_int (i := 1) (k := 0) (pos := ⟨0, 0, 0, 0⟩) ?_
    refine PySem.P.add_int ?_
    refine wpAny_pure ?_
    dsimp only
    obtain ⟨sl1, h₅, eS1, e5, j₅, mv₅, _, n5⟩ := J.pushK j₄ (slObj (.int ((i : Int) + 1) (s₄.toks + 1)) .none) rfl
    rw [← eS1, ← e5]
    have hdl₅ := mv₅.keep _ _ hdl' dT (.inl (by exact ni0))
    refine sub_slice (s := { s₄ with heap := h₅, toks := _ }) (lo := some ((i + 1 : Nat) : Int)) (hi := none) ⟨_, hdl₅, rfl, _, rfl⟩ ⟨_, j₅.get (.head _), rfl, rfl⟩ (by constructor) .none (by lia) ?_
    rw [pick_from]
    dsimp only
    obtain ⟨ln, h₆, eln, e6, j₆, mv₆, nln, n6⟩ := J.pushK j₅ (lstO (its.toList.drop (i + 1)).toArray 0) rfl
    rw [← eln, ← e6]
    refine wpAny_pyIter_list (s := { s₄ with heap := h₆, toks := _ }) (items := (its.toList.drop (i + 1)).toArray) ⟨_, j₆.get (.head _), rfl, _, rfl⟩ ?_
    dsimp only
    obtain ⟨I, h₇, eI, e7, j₇, mv₇, nI, n7⟩ := J.pushK j₆ { cls := .type "list_iterator", data := .fields #[.ref ln, .int 0 0] } rfl
    rw [← eI, ← e7]
    have eI₇ := j₇.get (.head _)
    have eln₇ := j₇.get (.tail _ (.head _))
    have nd : (I :: ln :: [sl1, D]).Nodup := j₇.nd
    rw [List.nodup_cons, List.nodup_cons] at nd
    have lnI : ln ≠ I := fun q => nd.1 (by simp [q])
    have DI : D ≠ I := fun q => nd.1 (by simp [q])
    have Dln : D ≠ ln := fun q => nd.2.1 (by simp [q])
    have IC := (j₇.has _ (.head _)).2.1
    have lnC := (j₇.has _ (.tail _ (.head _))).2.1
    have IT := (j₇.has _ (.head _)).2.2.1
    have lnT := (j₇.has _ (.tail _ (.head _))).2.2.1
    have hile : i < depths.length := by lia
    have hzl : ((its.toList.drop (i + 1)).toArray).size = (depths.drop (i + 1)).length := by
      rw [List.size_toArray, List.length_drop, List.length_drop, Array.length_toList, hlen]
    have hdr : IntsAre ((its.toList.drop (i + 1)).toArray).toList (depths.drop (i + 1)) := hi.drop (i + 1)
    have hcn := nearC_le depths i
    have hcn2 : i * depths.length ≤ 100 * 100 := Nat.mul_le_mul (by lia) hn
    have hdl2 : (depths.drop (i + 1)).length ≤ 100 := by rw [List.length_drop]; (clear hcn2 hcn hzl hile lnC IC Dln DI lnI eI eln eS1 hsz hi4 hlen; omega)
    have hea : depths.getD i 0 = a := by rw [List.getD_eq_getElem?_getD, ea]; rfl
    have Wi := Walks.list (prog := PR) (w := w) (A := A) r.h I ln lnI (its.toList.drop (i + 1)).toArray
    have hSi : h₇.IsListIter I ln 0 ∧ h₇.IsList ln (its.toList.drop (i + 1)).toArray := ⟨⟨_, eI₇, rfl, rfl⟩, ⟨_, eln₇, rfl, _, rfl⟩⟩
    have j₈ : J T g [] s.heap C h₇ _ [(D, lstO its₄ ep₄)] := j₇.sub ((List.sublist_cons_self _ _).trans ((List.sublist_cons_self _ _).trans (List.sublist_cons_self _ _)))
    have nI0 : s.heap.get? I = none := nI
    have mv47 : Mv T g [] s₄.heap h₇ := (mv₅.trans mv₆ (by exact al0)).trans mv₇ (by exact al0)
    refine compStart_walk ?_ (fun Q q => Wi.self 0 _ Q _ hSi q)
    refine near_in (px := _) (base := nearC depths i) (m₀ := fun z => if z = "early" then some (.int a ta) else if z = "place" then some (.int (i : Int) t) else m₄ z) (ha := h₇) (Turns.name Wi (fun b hb => by rw [List.mem_singleton.mp hb]; exact nI0) (fun hm => by
        rcases List.mem_cons.mp hm with q | hm
        · exact IC q.symm
        · exact lnC (List.mem_singleton.mp hm).symm) (by rfl) (by rfl)) (pickP (depths.drop (i + 1)) (nearB a)) s₃ hD (fun hm => by
        rcases List.mem_cons.mp hm with q | hm
        · exact DI q
        · exact Dln (List.mem_singleton.mp hm)) (fun b hb => by
        rcases List.mem_cons.mp hb with rfl | hb
        · exact IT
        · rw [List.mem_singleton.mp hb]; exact lnT) (by rw [hzl]; lia) ?_ ?_ (its.toList.drop (i + 1)).toArray.size 0 { s₄ with heap := h₇, toks := s₄.toks + 1 + 1 } _ its₄ ep₄ rfl (Nat.zero_le _) j₈ hSi (by rw [hsz]; rfl) ⟨ok₄.1, ok₄.2⟩ (fun z _ => rfl) (fun b o _ _ e => e)
    · intro i' s₉ v m₉ its₉ ep₉ hi9 hv hmx hmz j₉ ok₉
      obtain ⟨b, tb, eb, rfl⟩ := IntsAre.get' hdr i' (by rw [Array.getElem?_toList]; exact hv)
      refine wpAny_tests_one ?_
      refine wpAny_isTrue_Compare1 ?_
      refine wpAny_BinOp ?_
      refine e_local (s := s₉) j₉ (v := .int a ta) (by rw [hmz _ (by decide), if_pos rfl]) ?_
      refine e_local (s := s₉) j₉ (v := .int b tb) hmx ?_
      refine PySem.P.sub_int ?_
      refine Tuple_ (args_cons ?_)
      refine wpAny_Constant_int (i := 0) (k := 0) (pos := ⟨0, 0, 0, 0⟩) ?_
      refine args_cons ?_
      refine wpAny_Constant_int (i := 1) (k := 0) (pos := ⟨0, 0, 0, 0⟩) ?_
      refine args_nil ?_
      refine j_newTupleK (s := { s₉ with toks := s₉.toks + 1 + 1 + 1 }) j₉ fun tt h₁₀ j₁₀ mv₁₀ => ?_
      dsimp only
      have htt := j₁₀.get (.head _)
      refine PySem.SeqAt.in_tupleAt (s := { s₉ with heap := h₁₀, toks := s₉.toks + 1 + 1 + 1 }) (fun y => match y with | .int c _ => c == a - b | _ => false) ⟨_, htt, rfl, _, rfl⟩ (fun y hy => ?_) ?_
      · simp at hy
        rcases hy with rfl | rfl
        · exact PySem.SeqAt.EqAt.int_int _ _ _ _
        · exact PySem.SeqAt.EqAt.int_int _ _ _ _
      · refine wpAny_truthy_bool ⟨?_, mv₁₀, ⟨rfl, id⟩, fun _ => ?_⟩
        · unfold pickP
          rw [eb]
          show _ = nearB a b
          rw [← Array.any_toList]
          rfl
        · refine e_local (s := { s₉ with heap := h₁₀, toks := s₉.toks + 1 + 1 + 1 }) j₁₀ (v := .int b tb) hmx ?_
          exact ⟨Mv.refl j₁₀.mv.st, Ok.refl _⟩
    · intro s₉ m₉ its₉ ep₉ j₉ hz₉ ok₉ kp₉
      refine hRR s₉ m₉ its₉ ep₉ j₉ ?_ ok₉ fun b hb o e => ?_
      · have h1 := (picks (depths.drop (i + 1)) (nearB a) (depths.drop (i + 1)).length (Nat.le_refl _)).length
        rw [List.take_length] at h1
        rw [hz₉, hzl, h1]
        show _ = nearC depths i + _
        rw [hea]
      · have eb := mv47.keep b o e (hfp b hb).2 (.inl (by exact ni0))
        refine kp₉ b o (hfp b hb).2 (fun hm => ?_) eb
        rcases List.mem_cons.mp hm with rfl | hm
        · exact hDf hb
        rcases List.mem_cons.mp hm with rfl | hm
        · exact hCf hb
        rw [List.mem_singleton.mp hm] at e
        have := mv₆.keep _ _ (mv₅.keep _ _ e (by rw [List.mem_singleton.mp hm] at hb; exact (hfp _ hb).2) (.inl (by exact ni0))) (by rw [List.mem_singleton.mp hm] at hb; exact (hfp _ hb).2) (.inl (by exact ni0))
        rw [n7] at this
        cases this
  · intro s' D its' ep' j' mv' ok' hD gD eD hz
    exact hQ s' D its' ep' j' mv' ok' eD hz
end
end Mine
end
noncomputable section
open PySem PySem.W PySem.Calls PyProof.Rows Builtin Builtin.ObjectAttr Builtin.Str
namespace Mine
def drawnF (ns : List Int) : List Int := (ns.take 6).map fun n => n.fmod 1000000
def cellsF (ns : List Int) : List Int := drawnF ns ++ ([2, 0, 1, 3, 6, 13] : List Int).drop (drawnF ns).length
def sizesF (ns : List Int) : List Int := (cellsF ns).map fun c => c.fmod 6 + 1
def widthF (ns : List Int) : Int := 5 + ((cellsF ns).sum.fdiv 6).fmod 10
theorem drawnF_len (ns : List Int) : (drawnF ns).length ≤ 6 := by unfold drawnF; rw [List.length_map, List.length_take]; exact Nat.min_le_left _ _
theorem cellsF_len (ns : List Int) : (cellsF ns).length = 6 := by
  have := drawnF_len ns
  unfold cellsF
  rw [List.length_append, List.length_drop]
  show _ + (6 - _) = 6
  exact Nat.add_sub_of_le this
theorem sizesF_len (ns : List Int) : (sizesF ns).length = 6 := by unfold sizesF; rw [List.length_map, cellsF_len]
theorem J.addN {T : Tabs} {g h₀ h h' : Heap} {W W' : List Addr} {L D : Addr} {m m' : Str → Option Value} {kn kn' : List (Addr × Obj)} {o : Obj} (j : J T g W h₀ L h m kn) (j' : J T g W' h₀ L h' m' kn') (ek : kn'.map (·.1) = kn.map (·.1)) (hD : h.get? D = none) (eD : h'.get? D = some o) (gD : g.objs.size ≤ D) (hT : D ∉ T.map (·.2)) : J T g W' h₀ L h' m' ((D, o) :: kn') := by
  refine j'.add eD (fun q => ?_) hT gD (fun hm => ?_)
  · obtain ⟨o', _, _, e, _⟩ := id j.ns
    rw [q, e] at hD; cases hD
  · rw [ek] at hm
    obtain ⟨p, hp, rfl⟩ := List.mem_map.mp hm
    rw [j.get hp] at hD; cases hD
theorem ints_paired {F : Nat → Value → Prop} {f : Nat → Int} {l : List Nat} {vs : List Value} (hF : ∀ i y, F i y → ∃ t, y = .int (f i) t) (h : Paired F l vs) : IntsAre vs (l.map f) := ints_of_paired (Paired.imp hF h)
theorem map_range_getD {α β : Type} (l : List α) (d : α) (f : α → β) : (List.range l.length).map (fun i => f (l.getD i d)) = l.map f := by
  refine List.ext_getElem (by simp) fun i h1 h2 => ?_
  rw [List.getElem_map, List.getElem_map, List.getElem_range, List.getD_eq_getElem?_getD, List.getElem?_eq_getElem (by simpa using h2)]
  rfl
theorem filter_true {α : Type} (l : List α) : l.filter (fun _ => true) = l := by simp
theorem IntsAre.take {vs : List Value} {ns : List Int} (h : IntsAre vs ns) (k : Nat) : IntsAre (vs.take k) (ns.take k) := by
  induction h generalizing k with
  | nil => simp; exact .nil
  | cons n t hr ih =>
    cases k with
    | zero => exact .nil
    | succ k => exact .cons n t (ih k)
section
variable {T : Tabs} {K : Frag} {cd : ClassData} {mg mb : Str → Option Value} {w : World} {A : Around} {s : Shared} {g h₀ h h' h₁ h₂ : Heap} {W W' : List Addr} {L C : Addr} {m : Str → Option Value} {kn : List (Addr × Obj)} {R : Result → Shared → Prop} {E : Value → Shared → Prop} {prog : Program}
set_option maxHeartbeats 4000000 in
theorem drawn_stmt {sa c4 c3 c2 c1 : Addr} {its : Array Value} {ep : Nat} {ns : List Int} {Qf : Flow → Shared → Prop} (gI : mg "int" = none) (G : Gb T K mg mb g) (r : Rm A 3)
   (j : J T g [] h₀ L s.heap m kn) (hm : m "script" = some (.ref sa)) (hsa : s.heap.get? sa = some (lstO its ep)) (hi : IntsAre its.toList ns) (hn : ns.length ≤ 100)
   (hQ : ∀ (s' : Shared) D its' ep', J T g [] h₀ L s'.heap (fun z => if z = "drawn" then some (.ref D) else m z) ((D, lstO its' ep') :: kn) → Ok s s' → IntsAre its'.toList (drawnF ns) → Qf .next s') :
   wpAny (model PR w) A (exec (stAt (fBody (topSt 22)) 0) (lawEnv L c4 c3 c2 c1)) Qf (fun _ _ => False) s := by
  have hlen : its.size = ns.length := by have := hi.length; rw [Array.length_toList] at this; exact this
  refine j_assignComp (env := lawEnv L c4 c3 c2 c1) (cl := []) (n := (ns.take 6).length) (p := fun _ => true) (F := fun _ i y _ => ∃ t, y = .int (((ns.take 6).getD i 0).fmod 1000000) t) j (by rw [List.length_take]; lia) (by rfl) ?_ ?_
  · refine Subscript_ ?_
    refine j_local j hm ?_
    refine e_Slice ?_
    refine wpAny_pure ?_
    refine wpAny_Constant_int (i := 6) (k := 0) (pos := ⟨0, 0, 0, 0⟩) ?_
    dsimp only
    obtain ⟨sl1, h₅, eS1, e5, j₅, mv₅, _, n5⟩ := J.pushK j (slObj .none (.int 6 s.toks)) rfl
    rw [← eS1, ← e5]
    have hsa₅ := mv₅.keep _ _ hsa (j.mv.st.notTab hsa (by nofun)) (.inl (by exact ni0))
    refine sub_slice (s := { s with heap := h₅, toks := _ }) (lo := none) (hi := some ((6 : Nat) : Int)) ⟨_, hsa₅, rfl, _, rfl⟩ ⟨_, j₅.get (.head _), rfl, rfl⟩ .none (by constructor) (by lia) ?_
    rw [slicePick_upto']
    dsimp only
    obtain ⟨ln, h₆, eln, e6, j₆, mv₆, nln, n6⟩ := J.pushK j₅ (lstO (its.toList.take 6).toArray 0) rfl
    rw [← eln, ← e6]
    refine src_list (s := s) (s₁ := { s with heap := h₆, toks := _ }) r.h (mv₅.trans mv₆ (by exact al0)) ⟨rfl, id⟩ j₆.mv.st (j₆.get (.head _)) rfl rfl (by rw [List.size_toArray, List.length_take, List.length_take, Array.length_toList, hlen]) (by rfl) (by rfl) fun s₂ ok₂ => Body.all fun D' C' i s₄ m₄ m₄' its₄ ep₄ hi4 hu j₄ mv₄ ok₄ => ?_
    obtain ⟨v, ev, rfl⟩ := hu
    obtain ⟨a, ta, ea, rfl⟩ := IntsAre.get' (hi.take 6) i (by rw [← Array.getElem?_toList] at ev; exact ev)
    refine wpAny_BinOp ?_
    refine Call_ ?_
    refine e_builtin G j₄.mv.st gI (by decide +kernel : bootBuiltins "int" = some (.type "int")) ?_
    refine PyProof.Rows.callWith_type1 (args_cons ?_)
    refine e_local (s := s₄) j₄ (v := .int a ta) (by rw [if_pos rfl]) ?_
    refine args_nil ?_
    refine call_int_int ?_
    refine wpAny_BinOp ?_
    refine wpAny_Constant_int (i := 10) (k := 0) (pos := ⟨0, 0, 0, 0⟩) ?_
    refine wpAny_Constant_int (i := 6) (k := 0) (pos := ⟨0, 0, 0, 0⟩) ?_
    refine PyProof.Rows.pow_int_small (by decide) (by decide) (by decide) ?_
    refine PyProof.Rows.mod_int (by decide) ?_
    refine ⟨⟨s₄.toks + 1 + 1 + 1, ?_⟩, Mv.refl j₄.mv.st, ⟨rfl, id⟩⟩
    rw [show (ns.take 6).getD i 0 = a by rw [List.getD_eq_getElem?_getD, ea]; rfl]
    rfl
  · intro s' D its' ep' ws j' mv' ok' hD gD eD hP
    refine hQ s' D its' ep' (j.addN j' rfl hD eD gD (j'.mv.st.notTab eD (by nofun))) ok' ?_
    rw [filter_true] at hP
    have := ints_paired (f := fun i => ((ns.take 6).getD i 0).fmod 1000000) (fun i y hy => Exists.elim hy fun h f => f.1) hP
    rw [map_range_getD (ns.take 6) 0 (fun n => n.fmod 1000000)] at this
    exact this
end
end Mine
end
noncomputable section
open PySem PySem.W PySem.Calls PyProof.Rows Builtin Builtin.ObjectAttr Builtin.Str
namespace Mine
theorem ints_app {vs ws : List Value} {ys zs : List Int} (h : IntsAre vs ys) (h' : IntsAre ws zs) : IntsAre (vs ++ ws) (ys ++ zs) := by
  induction h with
  | nil => exact h'
  | cons y t _ ih => exact .cons _ _ ih
section
variable {T : Tabs} {K : Frag} {cd : ClassData} {mg mb : Str → Option Value} {w : World} {A : Around} {s : Shared} {g h₀ h h' h₁ h₂ : Heap} {W W' : List Addr} {L C : Addr} {m : Str → Option Value} {kn : List (Addr × Obj)} {R : Result → Shared → Prop} {E : Value → Shared → Prop} {prog : Program}
set_option maxHeartbeats 4000000 in
theorem cells_stmt {dl c4 c3 c2 c1 : Addr} {its : Array Value} {ep : Nat} {ds : List Int} {Qf : Flow → Shared → Prop} (GM : Gm mg) (G : Gb T K mg mb g) (r : Rm A 3)
   (j : J T g [] h₀ L s.heap m ((dl, lstO its ep) :: kn)) (hm : m "drawn" = some (.ref dl)) (hi : IntsAre its.toList ds) (hn : ds.length ≤ 6)
   (hQ : ∀ (s' : Shared) D its' ep', J T g [] h₀ L s'.heap (fun z => if z = "cells" then some (.ref D) else m z) ((D, lstO its' ep') :: (dl, lstO its ep) :: kn) → Ok s s' → IntsAre its'.toList (ds ++ ([2, 0, 1, 3, 6, 13] : List Int).drop ds.length) → Qf .next s') :
   wpAny (model PR w) A (exec (stAt (fBody (topSt 22)) 1) (lawEnv L c4 c3 c2 c1)) Qf (fun _ _ => False) s := by
  have hlen : its.size = ds.length := by have := hi.length; rw [Array.length_toList] at this; exact this
  refine wpAny_Assign_Name ?_
  refine wpAny_BinOp ?_
  refine j_local j hm ?_
  refine Subscript_ ?_
  refine List_ (args_cons ?_)
  refine wpAny_Constant_int (i := 2) (k := 0) (pos := ⟨0, 0, 0, 0⟩) ?_
  refine args_cons ?_
  refine wpAny_Constant_int (i := 0) (k := 0) (pos := ⟨0, 0, 0, 0⟩) ?_
  refine args_cons ?_
  refine wpAny_Constant_int (i := 1) (k := 0) (pos := ⟨0, 0, 0, 0⟩) ?_
  refine args_cons ?_
  refine wpAny_Constant_int (i := 3) (k := 0) (pos := ⟨0, 0, 0, 0⟩) ?_
  refine args_cons ?_
  refine wpAny_Constant_int (i := 6) (k := 0) (pos := ⟨0, 0, 0, 0⟩) ?_
  refine args_cons ?_
  refine wpAny_Constant_int (i := 13) (k := 0) (pos := ⟨0, 0, 0, 0⟩) ?_
  refine args_nil ?_
  dsimp only
  generalize ht : s.toks = t0
  refine j_newListK (s := { s with toks := _ }) j fun ll h₁ j₁ mv₁ nll => ?_
  dsimp only
  refine e_Slice ?_
  refine Call_ ?_
  refine j_builtin (s := { s with heap := h₁, toks := _ }) G j₁ GM.len boot_len ?_
  refine callWith_method1 (first := []) (args_cons ?_)
  refine j_local (s := { s with heap := h₁, toks := _ }) j₁ hm ?_
  refine args_nil ?_
  refine PyProof.Rows.len_list (items := its) ⟨_, j₁.get (.tail _ (.head _)), rfl, _, rfl⟩ (by lia) ?_
  refine wpAny_pure ?_
  dsimp only
  obtain ⟨sl1, h₂, eS1, e2, j₂, mv₂, _, n2⟩ := J.pushK j₁ (slObj (.int (its.size : Int) (t0 + 1 + 1 + 1 + 1 + 1 + 1 + 1)) .none) rfl
  rw [← eS1, ← e2]
  refine subTail_builtin (T := "list") ⟨_, j₂.get (.tail _ (.head _)), rfl⟩ list_getitem_lookup (wpAny_getItem_list_slice (s := { s with heap := h₂, toks := _ }) (lo := some ((its.size : Nat) : Int)) (hi := none) (st := none) ⟨_, j₂.get (.tail _ (.head _)), rfl, _, rfl⟩ ⟨_, j₂.get (.head _), rfl, rfl⟩ (by constructor) .none .none (by simp) ?_ (by rw [sizeLine_eq]; simp)) (.inr rfl)
  rw [pick_from]
  dsimp only
  obtain ⟨xz, exz⟩ : ∃ xz, xz = ((([.int 2 t0, .int 0 (t0 + 1), .int 1 (t0 + 1 + 1), .int 3 (t0 + 1 + 1 + 1), .int 6 (t0 + 1 + 1 + 1 + 1), .int 13 (t0 + 1 + 1 + 1 + 1 + 1)] : List Value).toArray.toList.drop its.size).toArray) := ⟨_, rfl⟩
  have hxz : IntsAre xz.toList (([2, 0, 1, 3, 6, 13] : List Int).drop ds.length) := by
    rw [exz, hlen]
    exact IntsAre.drop (.cons _ _ (.cons _ _ (.cons _ _ (.cons _ _ (.cons _ _ (.cons _ _ .nil)))))) _
  rw [← exz]
  have zxz : xz.size ≤ 6 := by
    have := hxz.length
    rw [Array.length_toList, List.length_drop] at this
    rw [this]; show 6 - _ ≤ 6; exact Nat.sub_le _ _
  obtain ⟨ln, h₃, eln, e3, j₃, mv₃, nln, n3⟩ := J.pushK j₂ (lstO xz 0) rfl
  rw [← eln, ← e3]
  refine PySem.P.add_list (s := { s with heap := h₃, toks := _ }) (l := dl) (b := ln) (items := its) (items2 := xz) (n := ep) (n2 := 0) (j₃.get (.tail _ (.tail _ (.tail _ (.head _))))) (j₃.get (.head _)) ?_ (by rw [sizeLine_eq]; lia)
  obtain ⟨cl, h₄, ecl, e4, j₄, mv₄, ncl, n4⟩ := J.pushK j₃ (lstO (its ++ xz) 0) rfl
  rw [← ecl, ← e4]
  have j₅ : J T g [] h₀ L h₄ m ((cl, lstO (its ++ xz) 0) :: (dl, lstO its ep) :: kn) := j₄.sub (.cons_cons _ (.cons _ (.cons _ (.cons _ (List.Sublist.refl _)))))
  refine j_storeK (s := { s with heap := h₄, toks := _ }) j₅ fun h₆ t₆ j₆ mv₆ => ?_
  dsimp only
  refine hQ { s with heap := h₆, toks := t₆ } cl (its ++ xz) 0 j₆ ⟨rfl, id⟩ ?_
  rw [Array.toList_append]
  exact ints_app hi hxz
end
end Mine
end
noncomputable section
open PySem PySem.W PySem.Calls PyProof.Rows Builtin Builtin.ObjectAttr Builtin.Str
namespace Mine
section
variable {T : Tabs} {K : Frag} {cd : ClassData} {mg mb : Str → Option Value} {w : World} {A : Around} {s : Shared} {g h₀ h h' h₁ h₂ : Heap} {W W' : List Addr} {L C : Addr} {m : Str → Option Value} {kn : List (Addr × Obj)} {R : Result → Shared → Prop} {E : Value → Shared → Prop} {prog : Program}
set_option maxHeartbeats 4000000 in
theorem sizes_stmt {cl c4 c3 c2 c1 : Addr} {its : Array Value} {ep ic : Nat} {cs : List Int} {o1 : Obj} {u : Option Value} {Qf : Flow → Shared → Prop} (GM : Gm mg) (G : Gb T K mg mb g) (r : Rm A 3)
   (j : J T g [] h₀ L s.heap m kn) (hcl : (cl, lstO its ep) ∈ kn) (hm : m "cells" = some (.ref cl)) (hi : IntsAre its.toList cs) (hn : cs.length ≤ 100) (hic : kn[ic]? = some (c1, o1)) (d1 : o1.data = .cell u) (n1 : h₀.get? c1 = none)
   (hQ : ∀ (s' : Shared) D its' ep' o', o'.data = .cell (some (.ref D)) → J T g [] h₀ L s'.heap m ((D, lstO its' ep') :: kn.set ic (c1, o')) → Ok s s' → IntsAre its'.toList (cs.map fun c => c.fmod 6 + 1) → Qf .next s') :
   wpAny (model PR w) A (exec (stAt (fBody (topSt 22)) 2) (lawEnv L c4 c3 c2 c1)) Qf (fun _ _ => False) s := by
  have hlen : its.size = cs.length := by have := hi.length; rw [Array.length_toList] at this; exact this
  refine wpAny_Assign_Name ?_
  refine j_listComp (env := lawEnv L c4 c3 c2 c1) (cl := []) (n := cs.length) (p := fun _ => true) (F := fun _ i y _ => ∃ t, y = .int ((cs.getD i 0).fmod 6 + 1) t) j (by exact Nat.le_trans (by assumption) (by decide)) (by rfl) ?_ ?_
  · refine j_local j hm ?_
    refine src_list (s := s) (s₁ := s) r.h (Mv.refl j.mv.st) ⟨rfl, id⟩ j.mv.st (j.get hcl) rfl rfl hlen (by rfl) (by rfl) fun s₂ ok₂ => Body.all fun D' C' i s₄ m₄ m₄' its₄ ep₄ hi4 hu j₄ mv₄ ok₄ => ?_
    obtain ⟨v, ev, rfl⟩ := hu
    obtain ⟨a, ta, ea, rfl⟩ := IntsAre.get' hi i (by rw [← Array.getElem?_toList] at ev; exact ev)
    refine wpAny_BinOp ?_
    refine wpAny_BinOp ?_
    refine e_local (s := s₄) j₄ (v := .int a ta) (by rw [if_pos rfl]) ?_
    refine wpAny_Constant_int (i := 6) (k := 0) (pos := ⟨0, 0, 0, 0⟩) ?_
    refine PyProof.Rows.mod_int (by decide) ?_
    refine wpAny_Constant_int (i := 1) (k := 0) (pos := ⟨0, 0, 0, 0⟩) ?_
    refine PySem.P.add_int ?_
    refine ⟨⟨s₄.toks + 1 + 1 + 1, ?_⟩, Mv.refl j₄.mv.st, ⟨rfl, id⟩⟩
    rw [show cs.getD i 0 = a by rw [List.getD_eq_getElem?_getD, ea]; rfl]
  · intro s' D its' ep' ws j' mv' ok' hD gD eD hP
    rw [filter_true] at hP
    have hI := ints_paired (f := fun i => (cs.getD i 0).fmod 6 + 1) (fun i y hy => hy) hP
    rw [map_range_getD cs 0 (fun n => n.fmod 6 + 1)] at hI
    have j₂ := j.addN j' rfl hD eD gD (j'.mv.st.notTab eD (by nofun))
    refine e_storeCell j₂ (ic + 1) (by simpa using hic) d1 (.inr n1) rfl fun h₃ o₃ ho₃ j₃ mv₃ => ?_
    exact hQ { s' with heap := h₃ } D its' ep' o₃ ho₃ j₃ ⟨ok'.1, ok'.2⟩ hI
set_option maxHeartbeats 4000000 in
theorem width_stmt {cl c4 c3 c2 c1 : Addr} {its : Array Value} {ep ic : Nat} {cs : List Int} {o2 : Obj} {u : Option Value} {Qf : Flow → Shared → Prop} (GM : Gm mg) (G : Gb T K mg mb g) (r : Rm A 3)
   (j : J T g [] h₀ L s.heap m kn) (hcl : (cl, lstO its ep) ∈ kn) (hm : m "cells" = some (.ref cl)) (hi : IntsAre its.toList cs) (hn : cs.length ≤ 100) (hic : kn[ic]? = some (c2, o2)) (d2 : o2.data = .cell u) (n2 : h₀.get? c2 = none)
   (hQ : ∀ (s' : Shared) o' t, o'.data = .cell (some (.int (5 + (cs.sum.fdiv 6).fmod 10) t)) → J T g [] h₀ L s'.heap m (kn.set ic (c2, o')) → Ok s s' → Qf .next s') :
   wpAny (model PR w) A (exec (stAt (fBody (topSt 22)) 3) (lawEnv L c4 c3 c2 c1)) Qf (fun _ _ => False) s := by
  refine wpAny_Assign_Name ?_
  refine wpAny_BinOp ?_
  refine wpAny_Constant_int (i := 5) (k := 0) (pos := ⟨0, 0, 0, 0⟩) ?_
  refine wpAny_BinOp ?_
  refine wpAny_BinOp ?_
  refine Call_ ?_
  refine j_builtin (s := { s with toks := _ }) G j GM.sum boot_sum ?_
  refine callWith_method1 (first := []) (args_cons ?_)
  refine j_local (s := { s with toks := _ }) j hm ?_
  refine args_nil ?_
  refine g_sum (s := { s with toks := _ }) r.h ⟨_, j.get hcl, rfl, _, rfl⟩ hi fun h₅ t₅ t₅' k₅ => ?_
  obtain ⟨j₅, mv₅⟩ := j.keepsL k₅
  refine wpAny_Constant_int (i := 6) (k := 0) (pos := ⟨0, 0, 0, 0⟩) ?_
  refine PyProof.Rows.floordiv_int (by decide) ?_ (.inl (PyProof.noPylong_small (by exact Nat.le_add_left _ _)))
  refine wpAny_Constant_int (i := 10) (k := 0) (pos := ⟨0, 0, 0, 0⟩) ?_
  refine PyProof.Rows.mod_int (by decide) ?_
  refine PySem.P.add_int ?_
  dsimp only
  refine e_storeCell (s := { s with heap := h₅, toks := _ }) j₅ ic hic d2 (.inr n2) rfl fun h₆ o₆ ho₆ j₆ mv₆ => ?_
  exact hQ { s with heap := h₆, toks := _ } o₆ _ ho₆ j₆ ⟨rfl, id⟩
end
end Mine
end
noncomputable section
open PySem PySem.W PySem.Calls PyProof.Rows Builtin Builtin.ObjectAttr Builtin.Str
namespace Mine
def wordsF (sizes : List Int) : List Str := (List.range 6).map fun i => repS (letS i) (sizes.getD i 0).toNat
section
variable {T : Tabs} {K : Frag} {cd : ClassData} {mg mb : Str → Option Value} {w : World} {A : Around} {s : Shared} {g h₀ h h' h₁ h₂ : Heap} {W W' : List Addr} {L C : Addr} {m : Str → Option Value} {kn : List (Addr × Obj)} {R : Result → Shared → Prop} {E : Value → Shared → Prop} {prog : Program}
set_option maxHeartbeats 4000000 in
theorem words_stmt {sl c4 c3 c2 c1 : Addr} {its : Array Value} {ep ic : Nat} {sizes : List Int} {o1 o3 : Obj} {u : Option Value} {Qf : Flow → Shared → Prop} (GM : Gm mg) (G : Gb T K mg mb g) (r : Rm A 3)
   (j : J T g [] h₀ L s.heap m kn) (hsl : (sl, lstO its ep) ∈ kn) (h1 : (c1, o1) ∈ kn) (d1 : o1.data = .cell (some (.ref sl))) (hi : IntsAre its.toList sizes) (hn : sizes.length = 6) (hz : ∀ x ∈ sizes, 1 ≤ x ∧ x ≤ 6) (hic : kn[ic]? = some (c3, o3)) (d3 : o3.data = .cell u) (n3 : h₀.get? c3 = none)
   (hQ : ∀ (s' : Shared) D its' ep' o', o'.data = .cell (some (.ref D)) → J T g [] h₀ L s'.heap m ((D, lstO its' ep') :: kn.set ic (c3, o')) → Ok s s' → StrsAre its'.toList (wordsF sizes) → Qf .next s') :
   wpAny (model PR w) A (exec (stAt (fBody (topSt 22)) 4) (lawEnv L c4 c3 c2 c1)) Qf (fun _ _ => False) s := by
  have hlen : its.size = 6 := by have := hi.length; rw [Array.length_toList, hn] at this; exact this
  have slT := (j.has _ hsl).2.2.1
  have c1T := (j.has _ h1).2.2.1
  refine wpAny_Assign_Name ?_
  refine j_listComp (env := lawEnv L c4 c3 c2 c1) (cl := [("sizes", c1)]) (n := 6) (p := fun _ => true) (F := fun _ i y _ => ∃ t, y = .str (repS (letS i) (sizes.getD i 0).toNat) t) j (by decide) (by rfl) ?_ ?_
  · refine e_rangeN G GM j (by decide) fun rg h₁ t₁ j₁ mv₁ hr n₁ => ?_
    obtain ⟨q1, q2, q3, hr⟩ := hr
    obtain ⟨sm1, sm2⟩ := smallR 6 (by decide)
    refine src_range (s := s) (s₁ := { s with heap := h₁, toks := t₁ }) (F := fun i y => ∃ t, y = .str (repS (letS i) (sizes.getD i 0).toNat) t) r.h mv₁ ⟨rfl, id⟩ j₁.mv.st hr sm1 sm2 (by rfl) (by rfl) fun s₂ ok₂ => Body.all fun D' C' i s₄ m₄ m₄' its₄ ep₄ hi4 hu j₄ mv₄ ok₄ => ?_
    obtain ⟨v, ⟨tv, rfl⟩, rfl⟩ := hu
    have ei : (0 : Int) + ((i : Nat) : Int) * 1 = (i : Int) := by lia
    have esl₄ : s₄.heap.get? sl = some (lstO its ep) := j₄.mv.keep _ _ (j.has _ hsl).1 slT (.inl (by exact ni0))
    have ec₄ : s₄.heap.get? c1 = some o1 := j₄.mv.keep _ _ (j.has _ h1).1 c1T (.inl (by exact ni0))
    obtain ⟨x, hx⟩ : ∃ x, its[i]? = some x := ⟨_, Array.getElem?_eq_getElem (by lia)⟩
    obtain ⟨a, ta, ea, rfl⟩ := IntsAre.get' hi i (by rw [Array.getElem?_toList]; exact hx)
    have ez := hz a (List.mem_of_getElem? ea)
    obtain ⟨k, rfl⟩ := Int.eq_ofNat_of_zero_le (a := a) (by lia)
    refine wpAny_BinOp ?_
    refine Subscript_ ?_
    refine Constant_str ?_
    refine e_local (s := { s₄ with toks := s₄.toks + 1 }) j₄ (v := .int ((0 : Int) + (i : Int) * 1) tv) (by rw [if_pos rfl]) ?_
    rw [ei]
    refine subTail_builtin (T := "str") (typeIs_str _ _ _) PySem.F.slot_str_getitem.lookup (PySem.P.getItem_str (i := (i : Int)) (c := 97 + i) (by simp; lia) (abc_at hi4) ?_) (.inl rfl)
    refine Subscript_ ?_
    refine e_cell (s := { s₄ with toks := s₄.toks + 1 + 1 }) ec₄ d1 rfl ?_
    refine e_local (s := { s₄ with toks := s₄.toks + 1 + 1 }) j₄ (v := .int ((0 : Int) + (i : Int) * 1) tv) (by rw [if_pos rfl]) ?_
    rw [ei]
    refine subTail_builtin (T := "list") ⟨_, esl₄, rfl⟩ list_getitem_lookup (wpAny_getItem_list ⟨_, esl₄, rfl, _, rfl⟩ (by exact Int.natCast_nonneg _) (by lia) (by rw [Int.toNat_natCast]; exact hx) ?_) (.inl rfl)
    refine g_mul (x := letS i) (n := k) (by lia) (by lia) rfl fun t5 k5 => ?_
    refine ⟨⟨t5, ?_⟩, Mv.refl j₄.mv.st, ⟨rfl, id⟩⟩
    rw [show sizes.getD i 0 = ((k : Nat) : Int) by rw [List.getD_eq_getElem?_getD, ea]; rfl]
    rfl
  · intro s' D its' ep' ws j' mv' ok' hD gD eD hP
    rw [filter_true] at hP
    have hI : StrsAre its'.toList (wordsF sizes) := strs_of_paired hP
    have j₂ := j.addN j' rfl hD eD gD (j'.mv.st.notTab eD (by nofun))
    refine e_storeCell j₂ (ic + 1) (by simpa using hic) d3 (.inr n3) rfl fun h₃ o₃ ho₃ j₃ mv₃ => ?_
    exact hQ { s' with heap := h₃ } D its' ep' o₃ ho₃ j₃ ⟨ok'.1, ok'.2⟩ hI
end
end Mine
end
noncomputable section
open PySem PySem.W PySem.Calls PyProof.Rows Builtin Builtin.ObjectAttr Builtin.Str
namespace Mine
structure Lw (T : Tabs) (K : Frag) (cd : ClassData) (mg : Str → Option Value) : Prop where
  F358 : FnAt K 358 (topSt 17) "_law_folded" [] .none 357
  law : FnAt K 385 (topSt 22) "law" [] .none 384
  V : Fv K
  X : Fx K cd
  X2 : Fx2 K
  gAcc : mg "_Accumulator" = some (.ref 195)
  kAcc : keepIn K (.ref 195) = true
  gFmt : mg "_ValueFormatter" = some (.ref 111)
  kFmt : keepIn K (.ref 111) = true
  t1 : (161, 157) ∈ T
  t2 : (168, 164) ∈ T
  GM : Gm mg
  FN : Fn K mg
  FQ : Fq K mg
  FH : Fh K mg
  FL : Fl K mg
  FT : Ft K mg
  FO : Fo K mg
  g1 : mg "_law_folded" = some (.ref 358)
  k1 : keepIn K (.ref 358) = true
  g2 : mg "_law_nested" = some (.ref 363)
  k2 : keepIn K (.ref 363) = true
  g3 : mg "_law_levels" = some (.ref 368)
  k3 : keepIn K (.ref 368) = true
  g4 : mg "_law_told" = some (.ref 380)
  k4 : keepIn K (.ref 380) = true
  gI : mg "int" = none
  gE : mg "enumerate" = none
def FoldAt (T : Tabs) (X : List Addr) (width : Int) (words : List Str) (ws : List Addr) (i : Nat) (y : Value) (h : Heap) : Prop := ∃ a l, y = .ref a ∧ a ∉ T.map (·.2) ∧ a ∉ ws ∧ a ∉ X ∧ h.get? a = some (lstObj (strValues l)) ∧ l.map (·.1) = foldF width (words.drop i)
theorem FoldAt.stays {T : Tabs} {X : List Addr} {width : Int} {words : List Str} (ws : List Addr) : Stays T ws (FoldAt T X width words ws) := by
  intro i y h h' f k
  obtain ⟨a, l, e, h1, h2, h3, h4, h5⟩ := f
  exact ⟨a, l, e, h1, h2, h3, k _ _ h4 h1 h2, h5⟩
section
variable {T : Tabs} {K : Frag} {cd : ClassData} {mg mb : Str → Option Value} {w : World} {A : Around} {s : Shared} {g h₀ h h' h₁ h₂ : Heap} {W W' : List Addr} {L C : Addr} {m : Str → Option Value} {kn : List (Addr × Obj)} {R : Result → Shared → Prop} {E : Value → Shared → Prop} {prog : Program}
theorem src_rangeH {elt : Expr} {env : Env} {scope : Scope} {cl : List (Str × Addr)} {n : Nat} {F : List Addr → Nat → Value → Heap → Prop} {s₁ : Shared} {ax : Addr} {a b c : Int} {t u v : Tok} {x : Str} {px : Pos}
    (hh : A.handled = none) (mv₁ : Mv T g [] s.heap s₁.heap) (ok₁ : Ok s s₁) (S₁ : St T g s₁.heap) (hr : IsRange s₁.heap ax a b c t u v) (hsm : Builtin.Range.small a b c = true) (hn : Builtin.Range.rangeSize a b c = n)
    (hx : scope.names.lookup x = some .local) (hk : scope.kind = .function) (hF : ∀ ws, Stays T ws (F ws))
    (body : ∀ s₂, Ok s₁ s₂ → ∀ D C I i (s₃ : Shared) (m : Str → Option Value) tv its ep, i < n → J T g [] s.heap C s₃.heap (fun y => if y = x then some (.int (a + i * c) tv) else m y) [(D, lstO its ep)] → Mv T g [] s.heap s₃.heap → Ok s₂ s₃ → (∃ o, s₃.heap.get? I = some o) →
      wpAny (model prog w) A (eval elt (compEnvC scope cl C env)) (fun y s₅ => F (D :: C :: [I]) i y s₅.heap ∧ Mv T g [] s₃.heap s₅.heap ∧ Ok s₃ s₅) (fun _ _ => False) s₃) :
    wpAny (model prog w) A (pyIter (.ref ax)) (Src prog w A T g s elt (.Name x px) [] env scope cl n (fun _ => true) F) E s₁ := by
  refine wpAny_pyIter_range hr hsm ?_
  rw [hn]
  have nI : s₁.heap.get? s₁.heap.objs.size = none := Heap.get?_none_of_le (Nat.le_refl _)
  have mv₂ : Mv T g [] s.heap (s₁.heap.push { cls := .type "range_iterator", data := .fields #[rawInt a, rawInt (n : Int), rawInt c] }) := mv₁.keeps (fun b o e => Heap.get?_push_of_some _ e) (by rw [Heap.size_push]; exact Nat.le_succ_of_le S₁.le)
  have noT : s₁.heap.objs.size ∉ T.map (·.2) := fun hm => by
    obtain ⟨q, hq, e⟩ := List.mem_map.mp hm
    obtain ⟨ps, ps₀, x, y, z⟩ := S₁.tab q hq
    have := Heap.lt_size y.2
    rw [e] at this
    exact absurd this (Nat.lt_irrefl _)
  have Wk := Walks.range (prog := prog) (w := w) hh s₁.heap.objs.size a c n
  refine ⟨mv₂, ⟨ok₁.1, ok₁.2⟩, s₁.heap.objs.size, _, _, _, _, rfl, ?_, ?_, fun C hC => Turns.name Wk (fun b hb => ?_) hC hk (lookup_relabel_local hx), fun D C => hF _, ?_⟩
  · have e1 : a + ((0 : Nat) : Int) * c = a := by simp
    have e2 : (n : Int) - ((0 : Nat) : Int) = n := by exact rfl
    rw [e1, e2]
    exact Heap.get?_push_size _ rfl
  · intro b hb
    show b < (s₁.heap.push _).objs.size ∧ _
    rw [Heap.size_push]
    rw [List.mem_singleton.mp hb]
    exact ⟨Nat.lt_succ_self _, noT⟩
  · rw [List.mem_singleton.mp hb]
    exact none_back mv₁ nI
  · intro D C i s₃ m m' its' ep' hi hu j mv hs ok
    obtain ⟨v, ⟨tv, rfl⟩, rfl⟩ := hu
    exact wpAny_tests_nil ⟨rfl, Mv.refl j.mv.st, Ok.refl _, fun _ => body _ ⟨rfl, id⟩ D C _ i s₃ m tv its' ep' hi j mv ok ⟨_, hs⟩⟩
end
end Mine
end
noncomputable section
open PySem PySem.W PySem.Calls PyProof.Rows Builtin Builtin.ObjectAttr Builtin.Str
namespace Mine
theorem strs_drop {vs : List Value} {ys : List Str} (h : StrsAre vs ys) (k : Nat) : StrsAre (vs.drop k) (ys.drop k) := by
  induction h generalizing k with
  | nil => simp; exact .nil
  | cons n t hr ih =>
    cases k with
    | zero => exact .cons _ _ hr
    | succ k => exact ih k
def FoldsIn (T : Tabs) (X : List Addr) (width : Int) (words : List Str) (its : List Value) (h : Heap) : Prop :=
  Paired (fun (i : Nat) y => FoldAt T X width words [] i y h) (List.range 6) its
section
variable {T : Tabs} {K : Frag} {cd : ClassData} {mg mb : Str → Option Value} {w : World} {A : Around} {s : Shared} {g h₀ h h' h₁ h₂ : Heap} {W W' : List Addr} {L C : Addr} {m : Str → Option Value} {kn : List (Addr × Obj)} {R : Result → Shared → Prop} {E : Value → Shared → Prop} {prog : Program}
theorem FoldsIn.mv {X : List Addr} {width : Int} {words : List Str} {its : List Value} {W : List Addr} (f : FoldsIn T X width words its h) (mv : Mv T g W h h') (hW : ∀ b ∈ W, b ∈ X) : FoldsIn T X width words its h' :=
  Paired.imp (fun i y hy => by
    obtain ⟨a, l, e, h1, h2, h3, h4, h5⟩ := hy
    exact ⟨a, l, e, h1, h2, h3, mv.keep _ _ h4 h1 (.inl fun hm => h3 (hW _ hm)), h5⟩) f
set_option maxHeartbeats 4000000 in
theorem folds_stmt {wl c4 c3 c2 c1 : Addr} {its : Array Value} {ep : Nat} {words : List Str} {width : Int} {tw : Tok} {o2 o3 : Obj} {X : List Addr} {Qf : Flow → Shared → Prop} (LW : Lw T K cd mg) (G : Gb T K mg mb g) (r : Rm A 14)
   (j : J T g [] h₀ L s.heap m kn) (hX : ∀ b ∈ X, ∃ o, s.heap.get? b = some o) (hLX : L ∈ X) (hwl : (wl, lstO its ep) ∈ kn) (h3 : (c3, o3) ∈ kn) (d3 : o3.data = .cell (some (.ref wl))) (h2 : (c2, o2) ∈ kn) (d2 : o2.data = .cell (some (.int width tw))) (hi : StrsAre its.toList words) (hn : words.length = 6) (hg : ∀ b ∈ words, GoodW b)
   (hQ : ∀ (s' : Shared) D its' ep', J T g [] h₀ L s'.heap (fun z => if z = "folds" then some (.ref D) else m z) ((D, lstO its' ep') :: kn) → Ok s s' → FoldsIn T X width words its'.toList s'.heap → Qf .next s') :
   wpAny (model PR w) A (exec (stAt (fBody (topSt 22)) 5) (lawEnv L c4 c3 c2 c1)) Qf (fun _ _ => False) s := by
  have GM := LW.GM
  have hlen : its.size = 6 := by have := hi.length; rw [Array.length_toList, hn] at this; exact this
  have wlT := (j.has _ hwl).2.2.1
  have c2T := (j.has _ h2).2.2.1
  have c3T := (j.has _ h3).2.2.1
  refine j_assignComp (env := lawEnv L c4 c3 c2 c1) (cl := [("words", c3), ("width", c2)]) (n := 6) (p := fun _ => true) (F := fun ws i y h => FoldAt T X width words ws i y h) j (by decide) (by rfl) ?_ ?_
  · refine e_rangeN G GM j (by decide) fun rg h₁ t₁ j₁ mv₁ hr n₁ => ?_
    obtain ⟨q1, q2, q3, hr⟩ := hr
    obtain ⟨sm1, sm2⟩ := smallR 6 (by decide)
    refine src_rangeH (s := s) (s₁ := { s with heap := h₁, toks := t₁ }) r.h mv₁ ⟨rfl, id⟩ j₁.mv.st hr sm1 sm2 (by rfl) (by rfl) (fun ws => FoldAt.stays ws) fun s₂ ok₂ D' C' I' i s₄ m₄ tv its₄ ep₄ hi4 j₄ mv₄ ok₄ hI => ?_
    have ei : (0 : Int) + ((i : Nat) : Int) * 1 = (i : Int) := by lia
    have ewl₄ : s₄.heap.get? wl = some (lstO its ep) := j₄.mv.keep _ _ (j.has _ hwl).1 wlT (.inl (by exact ni0))
    have ec2 : s₄.heap.get? c2 = some o2 := j₄.mv.keep _ _ (j.has _ h2).1 c2T (.inl (by exact ni0))
    have ec3 : s₄.heap.get? c3 = some o3 := j₄.mv.keep _ _ (j.has _ h3).1 c3T (.inl (by exact ni0))
    refine Call_ ?_
    refine e_global G j₄.mv.st LW.g1 ?_
    refine j_callWith LW.k1 ?_
    refine args_cons ?_
    refine Subscript_ ?_
    refine e_cell ec3 d3 rfl ?_
    refine e_Slice ?_
    refine e_local (s := s₄) j₄ (v := .int ((0 : Int) + (i : Int) * 1) tv) (by rw [if_pos rfl]) ?_
    rw [ei]
    refine wpAny_pure ?_
    obtain ⟨sl1, h₅, eS1, e5, j₅, mv₅, _, n5⟩ := J.pushK j₄ (slObj (.int (i : Int) tv) .none) rfl
    rw [← eS1, ← e5]
    have hwl₅ := mv₅.keep _ _ ewl₄ wlT (.inl (by exact ni0))
    refine sub_slice (s := { s₄ with heap := h₅ }) (lo := some ((i : Nat) : Int)) (hi := none) ⟨_, hwl₅, rfl, _, rfl⟩ ⟨_, j₅.get (.head _), rfl, rfl⟩ (by constructor) .none (by lia) ?_
    rw [slicePick_from']
    dsimp only
    obtain ⟨ln, h₆, eln, e6, j₆, mv₆, nln, n6⟩ := J.pushK j₅ (lstO (its.toList.drop i).toArray 0) rfl
    rw [← eln, ← e6]
    have ec2₆ := mv₆.keep _ _ (mv₅.keep _ _ ec2 c2T (.inl (by exact ni0))) c2T (.inl (by exact ni0))
    refine args_cons ?_
    refine e_cell (s := { s₄ with heap := h₆ }) ec2₆ d2 rfl ?_
    refine args_nil ⟨j₆.mv.st.In G, wpAny_call ?_⟩
    refine folded_spec (s := { s₄ with heap := h₆ }) (ws := words.drop i) LW.F358 LW.V LW.X LW.X2 G GM LW.gAcc LW.kAcc LW.gFmt LW.kFmt j₆.mv.st r LW.t1 LW.t2 (j₆.get (.head _)) (by exact strs_drop hi i) (fun b hb => hg b (List.mem_of_mem_drop hb)) (fun q => by
      have := congrArg List.length q
      rw [List.length_drop, hn] at this
      simp at this; (clear eln eS1 ei sm2 hlen hn; omega)) (by rw [List.length_drop]; (clear eln eS1 ei hi4 sm2 hlen; omega)) fun s₇ D₇ l mv₇ ok₇ hD₇ gD₇ eD₇ hl => ?_
    have mv46 : Mv T g [] s₄.heap h₆ := mv₅.trans mv₆ (by exact al0)
    have mv47 : Mv T g [] s₄.heap s₇.heap := mv46.trans mv₇ (by exact al0)
    have ne : ∀ b, (∃ o, s₄.heap.get? b = some o) → D₇ ≠ b := fun b hb q => by
      obtain ⟨o, hb⟩ := hb
      obtain ⟨o', hb'⟩ := mv46.there b o hb
      rw [← q] at hb'
      exact absurd (hb'.symm.trans hD₇) (by exact sn)
    refine ⟨⟨D₇, l, rfl, mv₇.st.notTab eD₇ (by nofun), fun hm => ?_, fun hm => ?_, eD₇, hl⟩, mv47, ⟨ok₇.1, ok₇.2⟩⟩
    · rcases List.mem_cons.mp hm with q | hm
      · exact ne _ ⟨_, j₄.get (.head _)⟩ q
      rcases List.mem_cons.mp hm with q | hm
      · obtain ⟨o', _, _, e, _⟩ := id j₄.ns
        exact ne _ ⟨_, e⟩ q
      exact ne _ hI (List.mem_singleton.mp hm)
    · obtain ⟨o, ho⟩ := hX _ hm
      obtain ⟨o', ho'⟩ := mv₄.there _ _ ho
      exact ne _ ⟨o', ho'⟩ rfl
  · intro s' D its' ep' ws j' mv' ok' hD gD eD hP
    rw [filter_true] at hP
    have j₂ := j.addN j' rfl hD eD gD (j'.mv.st.notTab eD (by nofun))
    refine hQ s' D its' ep' j₂ ok' (Paired.imp (fun i y hy => ?_) hP)
    obtain ⟨h, ⟨a, l, e, h1, h2, h3, h4, h5⟩, k⟩ := hy
    exact ⟨a, l, e, h1, by exact ni0, h3, k _ _ h4 (fun q => h3 (q ▸ hLX)) h2, h5⟩
end
end Mine
end
noncomputable section
open PySem PySem.W PySem.Calls PyProof.Rows Builtin Builtin.ObjectAttr Builtin.Str
namespace Mine
section
variable {T : Tabs} {K : Frag} {cd : ClassData} {mg mb : Str → Option Value} {w : World} {A : Around} {s : Shared} {g h₀ h h' h₁ h₂ : Heap} {W W' : List Addr} {L C : Addr} {m : Str → Option Value} {kn : List (Addr × Obj)} {R : Result → Shared → Prop} {E : Value → Shared → Prop} {prog : Program}
theorem strs_eqAt {xs ys : Array Value} {zs : List Str} (hx : StrsAre xs.toList zs) (hy : StrsAre ys.toList zs) : xs.size = ys.size ∧ ∀ j (h1 : j < xs.size) (h2 : j < ys.size), PySem.SeqAt.EqAt A.in1 s xs[j] ys[j] true := by
  have l1 := StrsAre.len hx
  have l2 := StrsAre.len hy
  rw [Array.length_toList] at l1 l2
  refine ⟨l1.trans l2.symm, fun j h1 h2 => ?_⟩
  obtain ⟨t, e1⟩ := StrsAre.get hx j (by lia)
  obtain ⟨u, e2⟩ := StrsAre.get hy j (by lia)
  rw [Array.getElem?_toList, Array.getElem?_eq_getElem h1] at e1
  rw [Array.getElem?_toList, Array.getElem?_eq_getElem h2] at e2
  rw [Option.some.inj e1, Option.some.inj e2]
  have := PySem.SeqAt.EqAt.str_str (A := A.in1) (s := s) zs[j] t zs[j] u
  rw [beq_self_eq_true] at this
  exact this
theorem all_true (n : Nat) : (List.range n).all (fun _ => true) = true := by simp
theorem eq_strs {a b : Addr} {xs ys : Array Value} {zs : List Str} {Q : Value → Shared → Prop} (ha : s.heap.IsList a xs) (hb : s.heap.IsList b ys) (hx : StrsAre xs.toList zs) (hy : StrsAre ys.toList zs) (hu : A.units < cLine) (h : Q (.bool true) s) :
    wpAny (model prog w) A (compareOp .Eq (.ref a) (.ref b)) Q E s := by
  obtain ⟨hz, he⟩ := strs_eqAt (A := A) (s := s) hx hy
  exact PySem.SeqAt.eq_listAt (e := fun _ => true) ha hb hz hu he (by rw [all_true]; exact h)
theorem ne_strs {a b : Addr} {xs ys : Array Value} {zs : List Str} {Q : Value → Shared → Prop} (ha : s.heap.IsList a xs) (hb : s.heap.IsList b ys) (hx : StrsAre xs.toList zs) (hy : StrsAre ys.toList zs) (hu : A.units < cLine) (h : Q (.bool false) s) :
    wpAny (model prog w) A (compareOp .NotEq (.ref a) (.ref b)) Q E s := by
  obtain ⟨hz, he⟩ := strs_eqAt (A := A) (s := s) hx hy
  exact PySem.SeqAt.RcNeAt.lists (e := fun _ => true) ha hb hz hu he prog w E Q (by rw [all_true]; exact h)
end
end Mine
end
noncomputable section
open PySem PySem.W PySem.Calls PyProof.Rows Builtin Builtin.ObjectAttr Builtin.Str
namespace Mine
theorem paired_get {α β : Type} {F : α → β → Prop} {l : List α} {vs : List β} (h : Paired F l vs) {i : Nat} {v : β} (e : vs[i]? = some v) : ∃ x, l[i]? = some x ∧ F x v := by
  induction h generalizing i with
  | nil => cases e
  | cons f t ih =>
    cases i with
    | zero => cases e; exact ⟨_, rfl, f⟩
    | succ i => exact ih e
theorem FoldsIn.at {T : Tabs} {X : List Addr} {width : Int} {words : List Str} {its : List Value} {h : Heap} (f : FoldsIn T X width words its h) {i : Nat} {v : Value} (e : its[i]? = some v) : FoldAt T X width words [] i v h := by
  obtain ⟨x, hx, hf⟩ := paired_get f e
  obtain ⟨h1, h2⟩ := List.getElem?_eq_some_iff.mp hx
  rw [List.getElem_range] at h2
  rw [h2]; exact hf
theorem FoldsIn.len {T : Tabs} {X : List Addr} {width : Int} {words : List Str} {its : List Value} {h : Heap} (f : FoldsIn T X width words its h) : its.length = 6 := by
  have := f.length
  rw [List.length_range] at this
  exact this.symm
def joinsF (width : Int) (words : List Str) : List Str := (List.range 6).map fun i => Txt.join "" (foldF width (words.drop i))
structure FoldsOk (width : Int) (words : List Str) : Prop where
  n : words.length = 6
  w : ∀ i, i < 6 → ((foldF width (words.drop i)).map (·.length)).sum + (foldF width (words.drop i)).length ≤ 10000
  v : ∀ i, i < 6 → ((words.drop i).map (·.length)).sum + (words.drop i).length ≤ 10000
  v2 : ∀ i, i < 6 → (Txt.join " " (words.drop i)).length ≤ 10000
  j : ∀ i, i < 6 → Txt.join "" (foldF width (words.drop i)) = " " ++ Txt.join " " (words.drop i)
section
variable {T : Tabs} {K : Frag} {cd : ClassData} {mg mb : Str → Option Value} {w : World} {A : Around} {s : Shared} {g h₀ h h' h₁ h₂ : Heap} {W W' : List Addr} {L C : Addr} {m : Str → Option Value} {kn : List (Addr × Obj)} {R : Result → Shared → Prop} {E : Value → Shared → Prop} {prog : Program}
set_option maxHeartbeats 4000000 in
theorem if_stmt {fl wl c4 c3 c2 c1 : Addr} {fits its : Array Value} {fep ep : Nat} {words : List Str} {width : Int} {o3 : Obj} {X : List Addr} {Qf : Flow → Shared → Prop} (LW : Lw T K cd mg) (G : Gb T K mg mb g) (r : Rm A 14)
   (j : J T g [] h₀ L s.heap m kn) (hfl : (fl, lstO fits fep) ∈ kn) (hm : m "folds" = some (.ref fl)) (hF : FoldsIn T X width words fits.toList s.heap) (hwl : (wl, lstO its ep) ∈ kn) (h3 : (c3, o3) ∈ kn) (d3 : o3.data = .cell (some (.ref wl))) (hi : StrsAre its.toList words) (ok : FoldsOk width words)
   (hQ : ∀ (s' : Shared), J T g [] h₀ L s'.heap m kn → Mv T g [] s.heap s'.heap → Ok s s' → Qf .next s') :
   wpAny (model PR w) A (exec (stAt (fBody (topSt 22)) 6) (lawEnv L c4 c3 c2 c1)) Qf (fun _ _ => False) s := by
  have GM := LW.GM
  have hlen : its.size = 6 := by have := StrsAre.len hi; rw [Array.length_toList, ok.n] at this; exact this
  have flen : fits.size = 6 := by have := hF.len; rw [Array.length_toList] at this; exact this
  have wlT := (j.has _ hwl).2.2.1
  have c3T := (j.has _ h3).2.2.1
  refine wpAny_If ?_
  refine wpAny_isTrue_Compare1 ?_
  refine j_listComp (env := lawEnv L c4 c3 c2 c1) (cl := []) (n := 6) (p := fun _ => true) (F := fun _ i y _ => ∃ t, y = .str (Txt.join "" (foldF width (words.drop i))) t) j (by decide) (by rfl) ?_ ?_
  · refine j_local j hm ?_
    refine src_list (s := s) (s₁ := s) r.h (Mv.refl j.mv.st) ⟨rfl, id⟩ j.mv.st (j.get hfl) rfl rfl flen (by rfl) (by rfl) fun s₂ ok₂ => Body.all fun D' C' i s₄ m₄ m₄' its₄ ep₄ hi4 hu j₄ mv₄ ok₄ => ?_
    obtain ⟨v, ev, rfl⟩ := hu
    obtain ⟨a, l, rfl, aT, _, aX, ea, hl⟩ := hF.at (by rw [Array.getElem?_toList]; exact ev)
    have ea₄ : s₄.heap.get? a = some (lstObj (strValues l)) := mv₄.keep _ _ ea aT (.inl (by exact ni0))
    refine MethodCall_ ?_
    refine Constant_str ?_
    refine PySem.GM.join ?_
    refine callWith_method1 ?_
    refine args_cons ?_
    refine e_local (s := { s₄ with toks := s₄.toks + 1 }) j₄ (v := .ref a) (by rw [if_pos rfl]) ?_
    refine args_nil ?_
    refine PyProof.Rows.join_listW (D := a) (ys := foldF width (words.drop i)) ⟨_, ea₄, rfl, _, rfl⟩ (by rw [← hl]; exact PyProof.Rows.strsAre_of_values l) (by decide) (by have := ok.w i hi4; exact Nat.le_trans (by assumption) (by decide)) fun t' k => ?_
    exact ⟨⟨t', rfl⟩, Mv.refl j₄.mv.st, ⟨rfl, id⟩⟩
  · intro s₁ D₁ its₁ ep₁ ws₁ j₁ mv₁ ok₁ hD₁ gD₁ eD₁ hP₁
    rw [filter_true] at hP₁
    have hI₁ : StrsAre its₁.toList (joinsF width words) := strs_of_paired hP₁
    have j₂ := j.addN j₁ rfl hD₁ eD₁ gD₁ (j₁.mv.st.notTab eD₁ (by nofun))
    refine j_listComp (env := lawEnv L c4 c3 c2 c1) (cl := [("words", c3)]) (n := 6) (p := fun _ => true) (F := fun _ i y _ => ∃ t, y = .str (" " ++ Txt.join " " (words.drop i)) t) j₂ (by decide) (by rfl) ?_ ?_
    · refine e_rangeN G GM j₂ (by decide) fun rg h₁ t₁ j₁ mv₁ hr n₁ => ?_
      obtain ⟨q1, q2, q3, hr⟩ := hr
      obtain ⟨sm1, sm2⟩ := smallR 6 (by decide)
      refine src_range (s := s₁) (s₁ := { s₁ with heap := h₁, toks := t₁ }) (F := fun i y => ∃ t, y = .str (" " ++ Txt.join " " (words.drop i)) t) r.h mv₁ ⟨rfl, id⟩ j₁.mv.st hr sm1 sm2 (by rfl) (by rfl) fun s₂ ok₂ => Body.all fun D' C' i s₄ m₄ m₄' its₄ ep₄ hi4 hu j₄ mv₄ ok₄ => ?_
      obtain ⟨v, ⟨tv, rfl⟩, rfl⟩ := hu
      have ei : (0 : Int) + ((i : Nat) : Int) * 1 = (i : Int) := by lia
      have ewl₄ : s₄.heap.get? wl = some (lstO its ep) := j₄.mv.keep _ _ (j₂.has _ (.tail _ hwl)).1 wlT (.inl (by exact ni0))
      have ec3 : s₄.heap.get? c3 = some o3 := j₄.mv.keep _ _ (j₂.has _ (.tail _ h3)).1 c3T (.inl (by exact ni0))
      refine wpAny_BinOp ?_
      refine Constant_str ?_
      refine MethodCall_ ?_
      refine Constant_str ?_
      refine PySem.GM.join ?_
      refine callWith_method1 ?_
      refine args_cons ?_
      refine Subscript_ ?_
      refine e_cell (s := { s₄ with toks := s₄.toks + 1 + 1 }) ec3 d3 rfl ?_
      refine e_Slice ?_
      refine e_local (s := { s₄ with toks := s₄.toks + 1 + 1 }) j₄ (v := .int ((0 : Int) + (i : Int) * 1) tv) (by rw [if_pos rfl]) ?_
      rw [ei]
      refine wpAny_pure ?_
      dsimp only
      obtain ⟨sl1, h₅, eS1, e5, j₅, mv₅, _, n5⟩ := J.pushK j₄ (slObj (.int (i : Int) tv) .none) rfl
      rw [← eS1, ← e5]
      have hwl₅ := mv₅.keep _ _ ewl₄ wlT (.inl (by exact ni0))
      refine sub_slice (s := { s₄ with heap := h₅, toks := _ }) (lo := some ((i : Nat) : Int)) (hi := none) ⟨_, hwl₅, rfl, _, rfl⟩ ⟨_, j₅.get (.head _), rfl, rfl⟩ (by constructor) .none (by lia) ?_
      rw [slicePick_from']
      dsimp only
      obtain ⟨ln, h₆, eln, e6, j₆, mv₆, nln, n6⟩ := J.pushK j₅ (lstO (its.toList.drop i).toArray 0) rfl
      rw [← eln, ← e6]
      refine args_nil ?_
      refine PyProof.Rows.join_listW (D := ln) (ys := words.drop i) ⟨_, j₆.get (.head _), rfl, _, rfl⟩ (by exact strs_drop hi i) (by decide) (by have := ok.v i hi4; exact Nat.le_trans (by assumption) (by decide)) fun t' k => ?_
      refine PyProof.Rows.add_str (fun t6 k6 => ?_) (by have := ok.v2 i hi4; rw [sizeLine_eq, show (" " : Str).length = 1 by decide]; lia)
      exact ⟨⟨t6, rfl⟩, mv₅.trans mv₆ (by exact al0), ⟨rfl, id⟩⟩
    · intro s₃ D₃ its₃ ep₃ ws₃ j₃ mv₃ ok₃ hD₃ gD₃ eD₃ hP₃
      rw [filter_true] at hP₃
      have hI₃ : StrsAre its₃.toList (joinsF width words) := by
        have : joinsF width words = (List.range 6).map fun i => " " ++ Txt.join " " (words.drop i) := List.map_congr_left fun i hi => ok.j i (List.mem_range.mp hi)
        rw [this]
        exact strs_of_paired hP₃
      refine ne_strs ⟨_, j₃.get (.head _), rfl, _, rfl⟩ ⟨_, eD₃, rfl, _, rfl⟩ hI₁ hI₃ r.room ?_
      refine wpAny_truthy_bool ?_
      rw [if_neg (by decide)]
      refine wpAny_execs_nil ?_
      exact hQ s₃ (j₃.sub (List.sublist_cons_self _ _)) (mv₁.trans mv₃ (by exact al0)) ⟨ok₃.1.trans ok₁.1, fun a => ok₃.2 (ok₁.2 a)⟩
end
end Mine
end
noncomputable section
open PySem PySem.W PySem.Calls PyProof.Rows Builtin Builtin.ObjectAttr Builtin.Str
namespace Mine
def foldHd (width : Int) (words : List Str) (i : Nat) : Str := (foldF width (words.drop i)).headD ""
def endsF (width : Int) (words : List Str) : List Int := (List.range 6).map fun (i : Nat) => (i : Int) + Txt.count (foldHd width words i) " "
theorem FoldsOk.ne {width : Int} {words : List Str} (ok : FoldsOk width words) {i : Nat} (h : i < 6) : foldF width (words.drop i) ≠ [] := fun q => by
  have := ok.j i h
  rw [q] at this
  have := congrArg Str.length this
  rw [Str.length_append, show (" " : Str).length = 1 by decide, show (Txt.join "" ([] : List Str)).length = 0 by decide] at this
  lia
theorem vals_head {l : List (Str × Tok)} {ys : List Str} (h : l.map (·.1) = ys) (hne : ys ≠ []) : ∃ t, (strValues l).toArray[0]? = some (.str (ys.headD "") t) := by
  subst h
  cases l with
  | nil => exact absurd rfl hne
  | cons a l => exact ⟨a.2, rfl⟩
section
variable {T : Tabs} {K : Frag} {cd : ClassData} {mg mb : Str → Option Value} {w : World} {A : Around} {s : Shared} {g h₀ h h' h₁ h₂ : Heap} {W W' : List Addr} {L C : Addr} {m : Str → Option Value} {kn : List (Addr × Obj)} {R : Result → Shared → Prop} {E : Value → Shared → Prop} {prog : Program}
set_option maxHeartbeats 4000000 in
theorem ends_stmt {fl c4 c3 c2 c1 : Addr} {fits : Array Value} {fep : Nat} {words : List Str} {width : Int} {X : List Addr} {Qf : Flow → Shared → Prop} (LW : Lw T K cd mg) (G : Gb T K mg mb g) (r : Rm A 14)
   (j : J T g [] h₀ L s.heap m kn) (hfl : (fl, lstO fits fep) ∈ kn) (hm : m "folds" = some (.ref fl)) (hF : FoldsIn T X width words fits.toList s.heap) (ok : FoldsOk width words)
   (hQ : ∀ (s' : Shared) D its' ep', J T g [] h₀ L s'.heap (fun z => if z = "ends" then some (.ref D) else m z) ((D, lstO its' ep') :: kn) → Mv T g [L] s.heap s'.heap → Ok s s' → IntsAre its'.toList (endsF width words) → Qf .next s') :
   wpAny (model PR w) A (exec (stAt (fBody (topSt 22)) 7) (lawEnv L c4 c3 c2 c1)) Qf (fun _ _ => False) s := by
  have GM := LW.GM
  have flen : fits.size = 6 := by have := hF.len; rw [Array.length_toList] at this; exact this
  refine j_assignComp (env := lawEnv L c4 c3 c2 c1) (cl := []) (n := 6) (p := fun _ => true) (F := fun _ i y _ => ∃ t, y = .int ((i : Int) + Txt.count (foldHd width words i) " ") t) j (by decide) (by rfl) ?_ ?_
  · refine Call_ ?_
    refine e_builtin G j.mv.st LW.gE boot_enumerate ?_
    refine PyProof.Rows.callWith_type1 (args_cons ?_)
    refine j_local j hm ?_
    refine args_nil ?_
    refine src_enum (s := s) (s₁ := s) r.h (Mv.refl j.mv.st) ⟨rfl, id⟩ j.mv.st (j.get hfl) flen (by rfl) (by rfl) (by rfl) fun s₂ ok₂ => Body.all fun D' C' i s₄ m₄ m₄' its₄ ep₄ hi4 hu j₄ mv₄ ok₄ => ?_
    obtain ⟨t, v, ev, rfl⟩ := hu
    obtain ⟨a, l, rfl, aT, _, aX, ea, hl⟩ := hF.at (by rw [Array.getElem?_toList]; exact ev)
    have ea₄ : s₄.heap.get? a = some (lstObj (strValues l)) := mv₄.keep _ _ ea aT (.inl (by exact ni0))
    obtain ⟨t0, eh⟩ := vals_head hl (ok.ne hi4)
    refine wpAny_BinOp ?_
    refine e_local (s := s₄) j₄ (v := .int (i : Int) t) (by rw [if_neg (by decide), if_pos rfl]) ?_
    refine MethodCall_ ?_
    refine Subscript_ ?_
    refine e_local (s := s₄) j₄ (v := .ref a) (by rw [if_pos rfl]) ?_
    refine wpAny_Constant_int (i := 0) (k := 0) (pos := ⟨0, 0, 0, 0⟩) ?_
    refine subTail_builtin (T := "list") ⟨_, ea₄, rfl⟩ list_getitem_lookup (wpAny_getItem_list ⟨_, ea₄, rfl, _, rfl⟩ (by decide) (by decide) eh ?_) (.inl rfl)
    refine PySem.GM.count ?_
    refine callWith_method1 ?_
    refine args_cons ?_
    refine Constant_str ?_
    refine args_nil ?_
    refine SC.count ?_
    refine PySem.P.add_int ?_
    exact ⟨⟨_, rfl⟩, Mv.refl j₄.mv.st, ⟨rfl, id⟩⟩
  · intro s' D its' ep' ws j' mv' ok' hD gD eD hP
    rw [filter_true] at hP
    have hI := ints_paired (f := fun (i : Nat) => (i : Int) + Txt.count (foldHd width words i) " ") (fun i y hy => Exists.elim hy fun h f => f.1) hP
    exact hQ s' D its' ep' (j.addN j' rfl hD eD gD (j'.mv.st.notTab eD (by nofun))) mv' ok' hI
end
end Mine
end
noncomputable section
open PySem PySem.W PySem.Calls PyProof.Rows Builtin Builtin.ObjectAttr Builtin.Str
namespace Mine
def xAt (row : Str) : Nat := (occurrences row "x" 0 row.length 1).headD 0
def depthsF (sent : Str) : List Int := (levRows sent).map fun row => (xAt row : Int) - 2
structure SentOk (sent : Str) : Prop where
  n : sent.length ≤ 10000
  pos : 0 < (Txt.split sent "\r\n").length
  k : (levRows sent).length ≤ 100
  x : ∀ row ∈ levRows sent, occurrences row "x" 0 row.length 1 ≠ []
section
variable {T : Tabs} {K : Frag} {cd : ClassData} {mg mb : Str → Option Value} {w : World} {A : Around} {s : Shared} {g h₀ h h' h₁ h₂ : Heap} {W W' : List Addr} {L C : Addr} {m : Str → Option Value} {kn : List (Addr × Obj)} {R : Result → Shared → Prop} {E : Value → Shared → Prop} {prog : Program}
set_option maxHeartbeats 4000000 in
theorem sent_stmt {el c4 c3 c2 c1 : Addr} {eits : Array Value} {eep : Nat} {ends : List Int} {Qf : Flow → Shared → Prop} (LW : Lw T K cd mg) (G : Gb T K mg mb g) (r : Rm A 14)
   (j : J T g [] h₀ L s.heap m kn) (hel : (el, lstO eits eep) ∈ kn) (hm : m "ends" = some (.ref el)) (hi : IntsAre eits.toList ends) (hn : ends.length ≤ 1000) (hok : nestOk (hangsF ends) [5, 4, 3, 2, 1, 0] [] = true)
   (hQ : ∀ (s' : Shared) t, J T g [] h₀ L s'.heap (fun z => if z = "sent" then some (.str (nestTxt ends) t) else m z) kn → Mv T g [L] s.heap s'.heap → Ok s s' → Qf .next s') :
   wpAny (model PR w) A (exec (stAt (fBody (topSt 22)) 8) (lawEnv L c4 c3 c2 c1)) Qf (fun _ _ => False) s := by
  refine wpAny_Assign_Name (Call_ ?_)
  refine j_global G j LW.g2 ?_
  refine j_callWith LW.k2 ?_
  refine args_cons ?_
  refine j_local j hm ?_
  refine args_nil ⟨j.mv.st.In G, wpAny_call ?_⟩
  refine nested_spec LW.FN LW.FQ LW.X LW.X2 G LW.GM j.mv.st (r.mono (by decide)) LW.t1 LW.t2 (j.get hel) hi hn hok fun s₁ t₁ mv₁ ok₁ => ?_
  have j₁ := j.call0 mv₁
  refine j_storeK j₁ fun h₂ t₂ j₂ mv₂ => ?_
  exact hQ { s₁ with heap := h₂, toks := t₂ } t₁ j₂ ((mv₁.weak (W' := [L]) (by exact al0)).trans mv₂ (by exact al1 (.inl m1))) ⟨ok₁.1, ok₁.2⟩
set_option maxHeartbeats 4000000 in
theorem depths_stmt {c4 c3 c2 c1 : Addr} {sent : Str} {ts : Tok} {ic : Nat} {o4 : Obj} {u : Option Value} {Qf : Flow → Shared → Prop} (LW : Lw T K cd mg) (G : Gb T K mg mb g) (r : Rm A 14)
   (j : J T g [] h₀ L s.heap m kn) (hm : m "sent" = some (.str sent ts)) (ok : SentOk sent) (hic : kn[ic]? = some (c4, o4)) (d4 : o4.data = .cell u) (n4 : h₀.get? c4 = none)
   (hQ : ∀ (s' : Shared) D its' ep' o', o'.data = .cell (some (.ref D)) → J T g [] h₀ L s'.heap m ((D, lstO its' ep') :: kn.set ic (c4, o')) → Mv T g [c4] s.heap s'.heap → Ok s s' → IntsAre its'.toList (depthsF sent) → Qf .next s') :
   wpAny (model PR w) A (exec (stAt (fBody (topSt 22)) 9) (lawEnv L c4 c3 c2 c1)) Qf (fun _ _ => False) s := by
  refine wpAny_Assign_Name ?_
  refine j_listComp (env := lawEnv L c4 c3 c2 c1) (cl := []) (n := (levRows sent).length) (p := fun _ => true) (F := fun _ i y _ => ∃ t, y = .int ((xAt ((levRows sent).getD i "") : Int) - 2) t) j (by have := ok.k; exact Nat.le_trans (by assumption) (by decide)) (by rfl) ?_ ?_
  · refine Subscript_ ?_
    refine MethodCall_ ?_
    refine j_local j hm ?_
    refine PySem.GM.split ?_
    refine callWith_method1 (args_cons ?_)
    refine Constant_str ?_
    refine args_nil ?_
    refine g_split (by decide +kernel) (by have := ok.n; exact Nat.le_trans (by assumption) (by decide)) fun la' k1 hla' => ?_
    dsimp only
    obtain ⟨D1, h₄, eD1, e4, j₄, mv₄, _, n4'⟩ := J.pushK j (lstObj (strValues la')) rfl
    rw [← eD1, ← e4]
    refine e_Slice ?_
    refine wpAny_pure ?_
    refine wpAny_UnaryOp ?_
    refine wpAny_Constant_int (i := 1) (k := 0) (pos := ⟨0, 0, 0, 0⟩) ?_
    refine PySem.P.neg_int ?_
    dsimp only
    obtain ⟨sl1, h₅, eS1, e5, j₅, mv₅, _, n5⟩ := J.pushK j₄ (slObj .none (.int (-1) (k1 + 1))) rfl
    rw [← eS1, ← e5]
    have szv : ∀ l : List (Str × Tok), (strValues l).toArray.size = l.length := fun l => by exact List.length_map _
    have hla1 : la'.length = (Txt.split sent "\r\n").length := by rw [← hla', List.length_map]
    have hsplit : (Txt.split sent "\r\n").length ≤ 10002 := by
      have h1 := ok.k
      unfold levRows at h1
      rw [List.length_dropLast] at h1
      lia
    refine subTail_builtin (T := "list") ⟨_, j₅.get (.tail _ (.head _)), rfl⟩ list_getitem_lookup (wpAny_getItem_list_slice (s := { s with heap := h₅, toks := _ }) (lo := none) (hi := some (-1)) (st := none) ⟨_, j₅.get (.tail _ (.head _)), rfl, _, rfl⟩ ⟨_, j₅.get (.head _), rfl, rfl⟩ .none (by constructor) .none (by simp) ?_ (by rw [szv, sizeLine_eq]; lia)) (.inr rfl)
    rw [pick_init _ (by rw [szv, hla1]; exact ok.pos)]
    rw [show ((strValues la').toArray.toList.dropLast).toArray = (strValues la'.dropLast).toArray by rw [show (strValues la').toArray.toList = strValues la' from rfl, strValues_dropLast]]
    dsimp only
    obtain ⟨D2, h₆, eD2, e6, j₆, mv₆, nD2, n6⟩ := J.pushK j₅ (lstObj (strValues la'.dropLast)) rfl
    rw [← eD2, ← e6]
    have hla2 : la'.dropLast.map (·.1) = levRows sent := by unfold levRows; rw [← hla', List.map_dropLast]
    have hst : StrsAre (strValues la'.dropLast) (levRows sent) := by rw [← hla2]; exact PyProof.Rows.strsAre_of_values _
    refine src_list (s := s) (s₁ := { s with heap := h₆, toks := _ }) r.h ((mv₄.trans mv₅ (by exact al0)).trans mv₆ (by exact al0)) ⟨rfl, id⟩ j₆.mv.st (j₆.get (.head _)) rfl rfl (by rw [szv, ← hla2, List.length_map]) (by rfl) (by rfl) fun s₂ ok₂ => Body.all fun D' C' i s₄ m₄ m₄' its₄ ep₄ hi4 hu j₄ mv₄ ok₄ => ?_
    obtain ⟨v, ev, rfl⟩ := hu
    obtain ⟨y, t, ey, rfl⟩ := StrsAre.at' hst (i := i) (by rw [← ev]; simp)
    have hy : (levRows sent).getD i "" = y := by rw [List.getD_eq_getElem?_getD, ey]; rfl
    have hne := ok.x y (List.mem_of_getElem? ey)
    obtain ⟨k, rest, ek⟩ : ∃ k rest, occurrences y "x" 0 y.length 1 = k :: rest := by
      cases q : occurrences y "x" 0 y.length 1 with
      | nil => exact absurd q hne
      | cons k rest => exact ⟨k, rest, rfl⟩
    refine wpAny_BinOp ?_
    refine MethodCall_ ?_
    refine e_local (s := s₄) j₄ (v := .str y t) (by rw [if_pos rfl]) ?_
    refine PySem.GM.index ?_
    refine callWith_method1 ?_
    refine args_cons ?_
    refine Constant_str ?_
    refine args_nil ?_
    refine SC.index ek ?_
    refine wpAny_Constant_int (i := 2) (k := 0) (pos := ⟨0, 0, 0, 0⟩) ?_
    refine PySem.P.sub_int ?_
    refine ⟨⟨s₄.toks + 1 + 1 + 1, ?_⟩, Mv.refl j₄.mv.st, ⟨rfl, id⟩⟩
    rw [hy]
    unfold xAt
    rw [ek]
    rfl
  · intro s' D its' ep' ws j' mv' ok' hD gD eD hP
    rw [filter_true] at hP
    have hI := ints_paired (f := fun i => (xAt ((levRows sent).getD i "") : Int) - 2) (fun i y hy => hy) hP
    rw [map_range_getD (levRows sent) "" (fun row => (xAt row : Int) - 2)] at hI
    have j₂ := j.addN j' rfl hD eD gD (j'.mv.st.notTab eD (by nofun))
    refine e_storeCell j₂ (ic + 1) (by simpa using hic) d4 (.inr n4) rfl fun h₃ o₃ ho₃ j₃ mv₃ => ?_
    exact hQ { s' with heap := h₃ } D its' ep' o₃ ho₃ j₃ ((mv'.weak (W' := [c4]) (by exact al0)).trans mv₃ (by exact al1 (.inl m1))) ⟨ok'.1, ok'.2⟩ hI
end
end Mine
end
noncomputable section
open PySem PySem.W PySem.Calls PyProof.Rows Builtin Builtin.ObjectAttr Builtin.Str
namespace Mine
def aheadF (width : Int) (words : List Str) : List Int := (List.range (foldF width words).length).map fun (i : Nat) => (i : Int) * Txt.count ((foldF width words).getD i "") " "
section
variable {T : Tabs} {K : Frag} {cd : ClassData} {mg mb : Str → Option Value} {w : World} {A : Around} {s : Shared} {g h₀ h h' h₁ h₂ : Heap} {W W' : List Addr} {L C : Addr} {m : Str → Option Value} {kn : List (Addr × Obj)} {R : Result → Shared → Prop} {E : Value → Shared → Prop} {prog : Program}
set_option maxHeartbeats 4000000 in
theorem ahead_stmt {fl c4 c3 c2 c1 : Addr} {fits : Array Value} {fep : Nat} {words : List Str} {width : Int} {X : List Addr} {Qf : Flow → Shared → Prop} (LW : Lw T K cd mg) (G : Gb T K mg mb g) (r : Rm A 14)
   (j : J T g [] h₀ L s.heap m kn) (hfl : (fl, lstO fits fep) ∈ kn) (hm : m "folds" = some (.ref fl)) (hF : FoldsIn T X width words fits.toList s.heap) (ok : FoldsOk width words)
   (hQ : ∀ (s' : Shared) D its' ep', J T g [] h₀ L s'.heap (fun z => if z = "ahead" then some (.ref D) else m z) ((D, lstO its' ep') :: kn) → Mv T g [L] s.heap s'.heap → Ok s s' → IntsAre its'.toList (aheadF width words) → Qf .next s') :
   wpAny (model PR w) A (exec (stAt (fBody (topSt 22)) 10) (lawEnv L c4 c3 c2 c1)) Qf (fun _ _ => False) s := by
  have GM := LW.GM
  have flen : fits.size = 6 := by have := hF.len; rw [Array.length_toList] at this; exact this
  obtain ⟨v0, hv0⟩ : ∃ v, fits[0]? = some v := ⟨_, Array.getElem?_eq_getElem (by exact dlt flen)⟩
  obtain ⟨a, l, rfl, aT, _, aX, ea, hl⟩ := hF.at (i := 0) (by rw [Array.getElem?_toList]; exact hv0)
  rw [List.drop_zero] at hl
  have lz : (strValues l).toArray.size = (foldF width words).length := by rw [← hl]; simp [strValues]
  have hst : StrsAre (strValues l) (foldF width words) := by rw [← hl]; exact PyProof.Rows.strsAre_of_values l
  have hw0 := ok.w 0 (by decide)
  rw [List.drop_zero] at hw0
  refine j_assignComp (env := lawEnv L c4 c3 c2 c1) (cl := []) (n := (foldF width words).length) (p := fun _ => true) (F := fun _ i y _ => ∃ t, y = .int ((i : Int) * Txt.count ((foldF width words).getD i "") " ") t) j (by lia) (by rfl) ?_ ?_
  · refine Call_ ?_
    refine e_builtin G j.mv.st LW.gE boot_enumerate ?_
    refine PyProof.Rows.callWith_type1 (args_cons ?_)
    refine Subscript_ ?_
    refine j_local j hm ?_
    refine wpAny_Constant_int (i := 0) (k := 0) (pos := ⟨0, 0, 0, 0⟩) ?_
    refine subTail_builtin (T := "list") ⟨_, j.get hfl, rfl⟩ list_getitem_lookup (wpAny_getItem_list ⟨_, j.get hfl, rfl, _, rfl⟩ (by decide) (by decide) hv0 ?_) (.inl rfl)
    refine args_nil ?_
    refine src_enum (s := s) (s₁ := { s with toks := s.toks + 1 }) r.h (Mv.refl j.mv.st) ⟨rfl, id⟩ j.mv.st ea lz (by rfl) (by rfl) (by rfl) fun s₂ ok₂ => Body.all fun D' C' i s₄ m₄ m₄' its₄ ep₄ hi4 hu j₄ mv₄ ok₄ => ?_
    obtain ⟨t, v, ev, rfl⟩ := hu
    obtain ⟨y, ty, ey, rfl⟩ := StrsAre.at' hst (i := i) (by rw [← ev]; simp)
    have hy : (foldF width words).getD i "" = y := by rw [List.getD_eq_getElem?_getD, ey]; rfl
    refine wpAny_BinOp ?_
    refine e_local (s := s₄) j₄ (v := .int (i : Int) t) (by rw [if_neg (by decide), if_pos rfl]) ?_
    refine MethodCall_ ?_
    refine e_local (s := s₄) j₄ (v := .str y ty) (by rw [if_pos rfl]) ?_
    refine PySem.GM.count ?_
    refine callWith_method1 ?_
    refine args_cons ?_
    refine Constant_str ?_
    refine args_nil ?_
    refine SC.count ?_
    refine PySem.P.mul_int ?_
    refine ⟨⟨s₄.toks + 1 + 1, ?_⟩, Mv.refl j₄.mv.st, ⟨rfl, id⟩⟩
    rw [hy]
  · intro s' D its' ep' ws j' mv' ok' hD gD eD hP
    rw [filter_true] at hP
    have hI := ints_paired (f := fun (i : Nat) => (i : Int) * Txt.count ((foldF width words).getD i "") " ") (fun i y hy => Exists.elim hy fun h f => f.1) hP
    exact hQ s' D its' ep' (j.addN j' rfl hD eD gD (j'.mv.st.notTab eD (by nofun))) mv' ok' hI
set_option maxHeartbeats 4000000 in
theorem if2_stmt {dl al nl el c4 c3 c2 c1 : Addr} {dits aits nits eits : Array Value} {dep aep nep eep : Nat} {ds as es : List Int} {o4 : Obj} {Qf : Flow → Shared → Prop} (LW : Lw T K cd mg) (G : Gb T K mg mb g) (r : Rm A 14)
   (j : J T g [] h₀ L s.heap m kn) (hdl : s.heap.get? dl = some (lstO dits dep)) (hal : s.heap.get? al = some (lstO aits aep)) (hnl : s.heap.get? nl = some (lstO nits nep)) (hel : s.heap.get? el = some (lstO eits eep)) (hc : (c4, o4) ∈ kn) (d4 : o4.data = .cell (some (.ref dl)))
   (hm1 : m "ahead" = some (.ref al)) (hm2 : m "near" = some (.ref nl)) (hm3 : m "ends" = some (.ref el))
   (hd : IntsAre dits.toList ds) (ha : IntsAre aits.toList as) (he : IntsAre eits.toList es) (h1 : ds.sum = as.sum) (h2 : (nits.size : Int) = es.sum - 21) (hnz : nits.size ≤ 100000)
   (hQ : ∀ (s' : Shared), J T g [] h₀ L s'.heap m kn → Mv T g [] s.heap s'.heap → Ok s s' → Qf .next s') :
   wpAny (model PR w) A (exec (stAt (fBody (topSt 22)) 12) (lawEnv L c4 c3 c2 c1)) Qf (fun _ _ => False) s := by
  have GM := LW.GM
  have cT := (j.has _ hc).2.2.1
  refine wpAny_If ?_
  refine wpAny_isTrue_BoolOp ?_
  refine wpAny_allTrue_Or_cons ?_
  refine wpAny_isTrue_Compare1 ?_
  refine Call_ ?_
  refine j_builtin G j GM.sum boot_sum ?_
  refine callWith_method1 (first := []) (args_cons ?_)
  refine e_cell (j.get hc) d4 rfl ?_
  refine args_nil ?_
  refine g_sum r.h ⟨_, hdl, rfl, _, rfl⟩ hd fun h₁ t₁ t₁' k₁ => ?_
  obtain ⟨j₁, mv₁⟩ := j.keepsL k₁
  refine Call_ ?_
  refine j_builtin (s := { s with heap := h₁, toks := t₁ }) G j₁ GM.sum boot_sum ?_
  refine callWith_method1 (first := []) (args_cons ?_)
  refine j_local (s := { s with heap := h₁, toks := t₁ }) j₁ hm1 ?_
  refine args_nil ?_
  refine g_sum (s := { s with heap := h₁, toks := t₁ }) r.h ⟨_, k₁ _ _ hal, rfl, _, rfl⟩ ha fun h₂ t₂ t₂' k₂ => ?_
  obtain ⟨j₂, mv₂⟩ := j₁.keepsL k₂
  refine PyProof.Rows.ne_int ?_
  refine wpAny_truthy_bool ?_
  rw [show (ds.sum != as.sum) = false by rw [h1]; simp]
  rw [if_neg (by decide)]
  refine wpAny_allTrue_Or_cons ?_
  refine wpAny_isTrue_Compare1 ?_
  refine Call_ ?_
  refine j_builtin (s := { s with heap := h₂, toks := t₂ }) G j₂ GM.len boot_len ?_
  refine callWith_method1 (first := []) (args_cons ?_)
  refine j_local (s := { s with heap := h₂, toks := t₂ }) j₂ hm2 ?_
  refine args_nil ?_
  refine PyProof.Rows.len_list (s := { s with heap := h₂, toks := t₂ }) (items := nits) ⟨_, k₂ _ _ (k₁ _ _ hnl), rfl, _, rfl⟩ (by lia) ?_
  refine wpAny_BinOp ?_
  refine Call_ ?_
  refine j_builtin (s := { s with heap := h₂, toks := _ }) G j₂ GM.sum boot_sum ?_
  refine callWith_method1 (first := []) (args_cons ?_)
  refine j_local (s := { s with heap := h₂, toks := _ }) j₂ hm3 ?_
  refine args_nil ?_
  refine g_sum (s := { s with heap := h₂, toks := _ }) r.h ⟨_, k₂ _ _ (k₁ _ _ hel), rfl, _, rfl⟩ he fun h₃ t₃ t₃' k₃ => ?_
  obtain ⟨j₃, mv₃⟩ := j₂.keepsL k₃
  refine wpAny_Constant_int (i := 21) (k := 0) (pos := ⟨0, 0, 0, 0⟩) ?_
  refine PySem.P.sub_int ?_
  refine PyProof.Rows.ne_int ?_
  refine wpAny_truthy_bool ?_
  rw [show ((nits.size : Int) != es.sum - 21) = false by rw [h2]; simp]
  rw [if_neg (by decide)]
  refine wpAny_allTrue_Or_nil ?_
  rw [if_neg (by decide)]
  refine wpAny_execs_nil ?_
  exact hQ { s with heap := h₃, toks := _ } j₃ ((mv₁.trans mv₂ (by exact al0)).trans mv₃ (by exact al0)) ⟨rfl, id⟩
set_option maxHeartbeats 4000000 in
theorem ret_stmt {sl c4 c3 c2 c1 : Addr} {sits : Array Value} {sep : Nat} {sizes : List Int} {width : Int} {tw ts : Tok} {sent : Str} {o1 o2 : Obj} {Qf : Flow → Shared → Prop} (LW : Lw T K cd mg) (G : Gb T K mg mb g) (r : Rm A 14)
   (j : J T g [] h₀ L s.heap m kn) (hm : m "sent" = some (.str sent ts)) (hsl : s.heap.get? sl = some (lstO sits sep)) (h1 : (c1, o1) ∈ kn) (d1 : o1.data = .cell (some (.ref sl))) (h2 : (c2, o2) ∈ kn) (d2 : o2.data = .cell (some (.int width tw))) (hi : IntsAre sits.toList sizes) (hn : sizes.length = 6) (lo : LevOk sent)
   (heq : ((List.range 8).map fun i => Str.join "" (getAllF (levPairs sent) (repS "." (i + 2) ++ "x"))) = toldF sizes width)
   (hQ : ∀ (s' : Shared), J T g [] h₀ L s'.heap m kn → Mv T g [] s.heap s'.heap → Ok s s' → Qf (.ret (.bool true)) s') :
   wpAny (model PR w) A (exec (stAt (fBody (topSt 22)) 13) (lawEnv L c4 c3 c2 c1)) Qf (fun _ _ => False) s := by
  have GM := LW.GM
  have c1T := (j.has _ h1).2.2.1
  have c2T := (j.has _ h2).2.2.1
  have slT := j.mv.st.notTab hsl (by nofun)
  refine wpAny_Return_some ?_
  refine wpAny_Compare1 ?_
  refine Call_ ?_
  refine j_global G j LW.g3 ?_
  refine j_callWith LW.k3 ?_
  refine args_cons ?_
  refine j_local j hm ?_
  refine args_nil ⟨j.mv.st.In G, wpAny_call ?_⟩
  refine levels_spec LW.FL LW.FQ LW.FH G GM j.mv.st (r.mono (by decide)) lo fun s₁ D₁ its₁ ep₁ mv₁ ok₁ eD₁ st₁ => ?_
  have j₁ := j.call0 mv₁
  refine Call_ ?_
  refine j_global G j₁ LW.g4 ?_
  refine j_callWith LW.k4 ?_
  refine args_cons ?_
  refine e_cell (j₁.get h1) d1 rfl ?_
  refine args_cons ?_
  refine e_cell (j₁.get h2) d2 rfl ?_
  refine args_nil ⟨j₁.mv.st.In G, wpAny_call ?_⟩
  refine told_spec LW.FO LW.FT GM G j₁.mv.st (r.mono (by decide)) (mv₁.keep _ _ hsl slT (.inl (by exact ni0))) hi hn fun s₂ D₂ its₂ ep₂ mv₂ ok₂ eD₂ st₂ => ?_
  have j₂ := j₁.call0 mv₂
  have eD₁' := mv₂.keep _ _ eD₁ (mv₁.st.notTab eD₁ (by nofun)) (.inl (by exact ni0))
  rw [heq] at st₁
  refine eq_strs ⟨_, eD₁', rfl, _, rfl⟩ ⟨_, eD₂, rfl, _, rfl⟩ st₁ st₂ r.room ?_
  exact hQ s₂ j₂ (mv₁.trans mv₂ (by exact al0)) ⟨ok₂.1.trans ok₁.1, fun a => ok₂.2 (ok₁.2 a)⟩
end
end Mine
end
noncomputable section
open PySem PySem.W PySem.Calls PyProof.Rows Builtin Builtin.ObjectAttr Builtin.Str
namespace Mine
structure PlainOk (sizes : List Int) (width : Int) : Prop where
  n : sizes.length = 6
  z : ∀ x ∈ sizes, 1 ≤ x ∧ x ≤ 6
  fo : FoldsOk width (wordsF sizes)
  gw : ∀ b ∈ wordsF sizes, GoodW b
  no : nestOk (hangsF (endsF width (wordsF sizes))) [5, 4, 3, 2, 1, 0] [] = true
  so : SentOk (nestTxt (endsF width (wordsF sizes)))
  lo : LevOk (nestTxt (endsF width (wordsF sizes)))
  heq : ((List.range 8).map fun i => Str.join "" (getAllF (levPairs (nestTxt (endsF width (wordsF sizes)))) (repS "." (i + 2) ++ "x"))) = toldF sizes width
  sum : (depthsF (nestTxt (endsF width (wordsF sizes)))).sum = (aheadF width (wordsF sizes)).sum
  near : (nearC (depthsF (nestTxt (endsF width (wordsF sizes)))) (depthsF (nestTxt (endsF width (wordsF sizes)))).length : Int) = (endsF width (wordsF sizes)).sum - 21
theorem wordsF_len (sizes : List Int) : (wordsF sizes).length = 6 := by unfold wordsF; exact List.length_map _
theorem endsF_len (width : Int) (words : List Str) : (endsF width words).length = 6 := by unfold endsF; exact List.length_map _
section
variable {T : Tabs} {K : Frag} {cd : ClassData} {mg mb : Str → Option Value} {w : World} {A : Around} {s : Shared} {g h₀ h h' h₁ h₂ : Heap} {W W' : List Addr} {L C : Addr} {m : Str → Option Value} {kn : List (Addr × Obj)} {R : Result → Shared → Prop} {E : Value → Shared → Prop} {prog : Program}
set_option maxHeartbeats 4000000 in
theorem law_spec {sa : Addr} {its : Array Value} {ep : Nat} {ns : List Int} (LW : Lw T K cd mg) (G : Gb T K mg mb g) (S : St T g s.heap) (r : Rm A 15)
   (hsa : s.heap.get? sa = some (lstO its ep)) (hi : IntsAre its.toList ns) (hn : ns.length ≤ 100) (PL : PlainOk (sizesF ns) (widthF ns))
   (hR : ∀ s' : Shared, Mv T g [] s.heap s'.heap → Ok s s' → R (.ok (.ret (.bool true))) s') :
   codeAny (model PR w) A (.call (.ref 385) ⟨[.ref sa], []⟩) R s := by
  have GM := LW.GM
  obtain ⟨oc, od, osl, name, kV, doc, pm, an, ct, hob, hcd⟩ := LW.law
  refine' j_callC (binds := [("script", .ref sa)]) [] (fun L => [("depths", L + 4), ("words", L + 3), ("width", L + 2), ("sizes", L + 1)]) G S hob hcd r.lt rfl (fun L => rfl) (fun L p hp => by
      rcases List.mem_cons.mp hp with rfl | hp
      · rfl
      rcases List.mem_cons.mp hp with rfl | hp
      · rfl
      rcases List.mem_cons.mp hp with rfl | hp
      · rfl
      rw [List.mem_singleton.mp hp]; rfl) (fun L y hy => by
    rw [List.mem_singleton.mp hy]; exact .inl rfl) ?_ rfl rfl rfl
  intro L h₁ t₁ ob hob' j mv₁ hnew
  have rr := r.deeper (env := lawEnv L (L + 4) (L + 3) (L + 2) (L + 1))
  have d4 : (ob (L + 4)).data = .cell none := hob' ("depths", L + 4) (.head _)
  have d3 : (ob (L + 3)).data = .cell none := hob' ("words", L + 3) (.tail _ (.head _))
  have d2 : (ob (L + 2)).data = .cell none := hob' ("width", L + 2) (.tail _ (.tail _ (.head _)))
  have d1 : (ob (L + 1)).data = .cell none := hob' ("sizes", L + 1) (.tail _ (.tail _ (.tail _ (.head _))))
  have n4 : s.heap.get? (L + 4) = none := hnew ("depths", L + 4) (.head _)
  have n3 : s.heap.get? (L + 3) = none := hnew ("words", L + 3) (.tail _ (.head _))
  have n2 : s.heap.get? (L + 2) = none := hnew ("width", L + 2) (.tail _ (.tail _ (.head _)))
  have n1 : s.heap.get? (L + 1) = none := hnew ("sizes", L + 1) (.tail _ (.tail _ (.tail _ (.head _))))
  generalize hoo4 : ob (L + 4) = o4 at d4
  generalize hoo3 : ob (L + 3) = o3 at d3
  generalize hoo2 : ob (L + 2) = o2 at d2
  generalize hoo1 : ob (L + 1) = o1 at d1
  have j : J T g [] s.heap L h₁ (bindL (fun n => List.lookup n (fScope (topSt 22)).names) [("script", Value.ref sa)] fun _ => none) [(L + 4, o4), (L + 3, o3), (L + 2, o2), (L + 1, o1)] := by
    rw [← hoo4, ← hoo3, ← hoo2, ← hoo1]; exact j
  clear hob' hnew
  generalize L + 4 = c4 at *
  generalize L + 3 = c3 at *
  generalize L + 2 = c2 at *
  generalize L + 1 = c1 at *
  have hsa₁ : h₁.get? sa = some (lstO its ep) := j.old hsa (.inl (by exact ni0))
  refine wpAny_execs_cons ?_
  refine drawn_stmt (c4 := c4) (c3 := c3) (c2 := c2) (c1 := c1) (s := { s with heap := h₁, toks := t₁ }) LW.gI G (rr.mono (by decide)) j (by rfl) hsa₁ hi hn fun s₂ dl dits dep j₂ ok₂ hd₂ => ?_
  refine wpAny_execs_cons ?_
  refine cells_stmt (c4 := c4) (c3 := c3) (c2 := c2) (c1 := c1) GM G (rr.mono (by decide)) j₂ (by rw [if_pos rfl]) hd₂ (drawnF_len ns) fun s₃ cl cits cep j₃ ok₃ hd₃ => ?_
  replace hd₃ : IntsAre cits.toList (cellsF ns) := hd₃
  have j₃' : J T g [] s.heap L s₃.heap _ [(cl, lstO cits cep), (c4, o4), (c3, o3), (c2, o2), (c1, o1)] := j₃.sub (.cons_cons _ (List.sublist_cons_self _ _))
  refine wpAny_execs_cons ?_
  refine sizes_stmt (c4 := c4) (c3 := c3) (c2 := c2) (c1 := c1) (ic := 4) GM G (rr.mono (by decide)) j₃' (.head _) (by rw [if_pos rfl]) hd₃ (by rw [cellsF_len]; decide) rfl d1 n1 fun s₄ sl sits sep o1' d1' j₄ ok₄ hd₄ => ?_
  replace j₄ : J T g [] s.heap L s₄.heap _ [(sl, lstO sits sep), (cl, lstO cits cep), (c4, o4), (c3, o3), (c2, o2), (c1, o1')] := j₄
  replace hd₄ : IntsAre sits.toList (sizesF ns) := hd₄
  refine wpAny_execs_cons ?_
  refine width_stmt (c4 := c4) (c3 := c3) (c2 := c2) (c1 := c1) (ic := 4) GM G (rr.mono (by decide)) j₄ (.tail _ (.head _)) (by rw [if_pos rfl]) hd₃ (by rw [cellsF_len]; decide) rfl d2 n2 fun s₅ o2' tw d2' j₅ ok₅ => ?_
  replace d2' : o2'.data = .cell (some (.int (widthF ns) tw)) := d2'
  have j₅' : J T g [] s.heap L s₅.heap _ [(sl, lstO sits sep), (c4, o4), (c3, o3), (c2, o2'), (c1, o1')] := j₅.sub (.cons_cons _ (List.sublist_cons_self _ _))
  refine wpAny_execs_cons ?_
  refine words_stmt (c4 := c4) (c3 := c3) (c2 := c2) (c1 := c1) (ic := 2) GM G (rr.mono (by decide)) j₅' (.head _) (.tail _ (.tail _ (.tail _ (.tail _ (.head _))))) d1' hd₄ PL.n PL.z rfl d3 n3 fun s₆ wl wits wep o3' d3' j₆ ok₆ hd₆ => ?_
  replace j₆ : J T g [] s.heap L s₆.heap _ [(wl, lstO wits wep), (sl, lstO sits sep), (c4, o4), (c3, o3'), (c2, o2'), (c1, o1')] := j₆
  obtain ⟨pn, pz, fo, gw, no, so, lo, heq, hsum, hnear⟩ := PL
  obtain ⟨words, hws⟩ : ∃ words, words = wordsF (sizesF ns) := ⟨_, rfl⟩
  obtain ⟨width, hwd⟩ : ∃ width, width = widthF ns := ⟨_, rfl⟩
  rw [← hws, ← hwd] at fo no so lo heq hsum hnear
  rw [← hws] at gw hd₆
  rw [← hwd] at d2'
  obtain ⟨ends, hen⟩ : ∃ ends, ends = endsF width words := ⟨_, rfl⟩
  rw [← hen] at no so lo heq hsum hnear
  obtain ⟨sent, hse⟩ : ∃ sent, sent = nestTxt ends := ⟨_, rfl⟩
  rw [← hse] at so lo heq hsum hnear
  obtain ⟨sizes, hsz⟩ : ∃ sizes, sizes = sizesF ns := ⟨_, rfl⟩
  rw [← hsz] at hd₄ pn pz heq
  have elen : ends.length = 6 := by rw [hen]; exact endsF_len _ _
  obtain ⟨oL, _, _, eL, _⟩ := id j₆.ns
  refine wpAny_execs_cons ?_
  refine folds_stmt (c4 := c4) (c3 := c3) (c2 := c2) (c1 := c1) (X := [L, c4]) LW G rr j₆ (fun b hb => ?_) (.head _) (.head _) (.tail _ (.tail _ (.tail _ (.head _)))) d3' (.tail _ (.tail _ (.tail _ (.tail _ (.head _))))) d2' hd₆ fo.n gw fun s₇ fl fits fep j₇ ok₇ hF₇ => ?_
  · rcases List.mem_cons.mp hb with rfl | hb
    · exact ⟨_, eL⟩
    · rw [List.mem_singleton.mp hb]; exact ⟨_, j₆.get (.tail _ (.tail _ (.head _)))⟩
  refine wpAny_execs_cons ?_
  refine if_stmt (c4 := c4) (c3 := c3) (c2 := c2) (c1 := c1) LW G rr j₇ (.head _) (by rw [if_pos rfl]) hF₇ (.tail _ (.head _)) (.tail _ (.tail _ (.tail _ (.tail _ (.head _))))) d3' hd₆ fo fun s₈ j₈ mv₈ ok₈ => ?_
  have hF₈ := hF₇.mv mv₈ (by exact al0)
  refine wpAny_execs_cons ?_
  refine ends_stmt (c4 := c4) (c3 := c3) (c2 := c2) (c1 := c1) LW G rr j₈ (.head _) (by rw [if_pos rfl]) hF₈ fo fun s₉ el eits eep j₉ mv₉ ok₉ hd₉ => ?_
  rw [← hen] at hd₉
  have hF₉ := hF₈.mv mv₉ (by exact al1 m1)
  refine wpAny_execs_cons ?_
  refine sent_stmt (c4 := c4) (c3 := c3) (c2 := c2) (c1 := c1) LW G rr j₉ (.head _) (by rw [if_pos rfl]) hd₉ (by rw [elen]; decide) no fun s₁₀ ts j₁₀ mv₁₀ ok₁₀ => ?_
  rw [← hse] at j₁₀
  have hF₁₀ := hF₉.mv mv₁₀ (by exact al1 m1)
  refine wpAny_execs_cons ?_
  refine depths_stmt (c4 := c4) (c3 := c3) (c2 := c2) (c1 := c1) (ic := 4) LW G rr j₁₀ (by rw [if_pos rfl]) so rfl d4 n4 fun s₁₁ dp dpits dpep o4' d4' j₁₁ mv₁₁ ok₁₁ hd₁₁ => ?_
  replace j₁₁ : J T g [] s.heap L s₁₁.heap _ [(dp, lstO dpits dpep), (el, lstO eits eep), (fl, lstO fits fep), (wl, lstO wits wep), (sl, lstO sits sep), (c4, o4'), (c3, o3'), (c2, o2'), (c1, o1')] := j₁₁
  have hF₁₁ := hF₁₀.mv mv₁₁ (by exact al1 m2)
  refine wpAny_execs_cons ?_
  refine ahead_stmt (c4 := c4) (c3 := c3) (c2 := c2) (c1 := c1) LW G rr j₁₁ (.tail _ (.tail _ (.head _))) (by rw [if_neg (by decide), if_neg (by decide), if_pos rfl]) hF₁₁ fo fun s₁₂ al aits aep j₁₂ mv₁₂ ok₁₂ hd₁₂ => ?_
  refine wpAny_execs_cons ?_
  have dlen : (depthsF sent).length ≤ 100 := by unfold depthsF; rw [List.length_map]; exact so.k
  refine near_stmt (c4 := c4) (c3 := c3) (c2 := c2) (c1 := c1) LW.gE G (rr.mono (by decide)) j₁₂ (.tail _ (.tail _ (.tail _ (.tail _ (.tail _ (.tail _ (.head _))))))) d4' (j₁₂.get (.tail _ (.head _))) hd₁₁ dlen fun s₁₃ nl nits nep j₁₃ mv₁₃ ok₁₃ eN hnz => ?_
  refine wpAny_execs_cons ?_
  have hcn := nearC_le (depthsF sent) (depthsF sent).length
  have hcn2 : (depthsF sent).length * (depthsF sent).length ≤ 100 * 100 := Nat.mul_le_mul dlen dlen
  refine if2_stmt (c4 := c4) (c3 := c3) (c2 := c2) (c1 := c1) LW G rr j₁₃ (j₁₃.get (.tail _ (.head _))) (j₁₃.get (.head _)) eN (j₁₃.get (.tail _ (.tail _ (.head _)))) (.tail _ (.tail _ (.tail _ (.tail _ (.tail _ (.tail _ (.head _))))))) d4' (by rw [if_neg (by decide), if_pos rfl]) (by rw [if_pos rfl]) (by rw [if_neg (by decide), if_neg (by decide), if_neg (by decide), if_pos rfl]) hd₁₁ hd₁₂ hd₉ hsum (by rw [hnz]; exact hnear) (by lia) fun s₁₄ j₁₄ mv₁₄ ok₁₄ => ?_
  refine wpAny_execs_cons ?_
  refine ret_stmt (c4 := c4) (c3 := c3) (c2 := c2) (c1 := c1) LW G rr j₁₄ (ts := ts) (sent := sent) (by rw [if_neg (by decide), if_neg (by decide), if_pos rfl]) (j₁₄.get (.tail _ (.tail _ (.tail _ (.tail _ (.tail _ (.head _))))))) (.tail _ (.tail _ (.tail _ (.tail _ (.tail _ (.tail _ (.tail _ (.tail _ (.tail _ (.head _)))))))))) d1' (.tail _ (.tail _ (.tail _ (.tail _ (.tail _ (.tail _ (.tail _ (.tail _ (.head _))))))))) d2' hd₄ pn lo heq fun s₁₅ j₁₅ mv₁₅ ok₁₅ => ?_
  refine hR s₁₅ j₁₅.mv ?_
  have tr : ∀ {a b c : Shared}, Ok a b → Ok b c → Ok a c := fun x y => ⟨y.1.trans x.1, fun q => y.2 (x.2 q)⟩
  have ok01 : Ok s { s with heap := h₁, toks := t₁ } := ⟨rfl, id⟩
  exact tr ok01 (tr ok₂ (tr ok₃ (tr ok₄ (tr ok₅ (tr ok₆ (tr ok₇ (tr ok₈ (tr ok₉ (tr ok₁₀ (tr ok₁₁ (tr ok₁₂ (tr ok₁₃ (tr ok₁₄ ok₁₅)))))))))))))
end
end Mine
end
noncomputable section
open PySem
namespace Mine
def ext (W : Int) : Int → List Int → Nat
  | _, [] => 0
  | acc, x :: r => if acc + x + 1 ≤ W then 1 + ext W (acc + x + 1) r else 0
theorem sum_nonneg : ∀ {l : List Int}, (∀ x ∈ l, 1 ≤ x) → 0 ≤ l.sum
  | [], _ => by simp
  | x :: r, h => by
    have h1 := h x (.head _)
    have h2 := sum_nonneg fun y hy => h y (.tail _ hy)
    rw [List.sum_cons]; lia
theorem ext_le (W : Int) : ∀ (l : List Int) (acc : Int), ext W acc l ≤ l.length
  | [], _ => Nat.le_refl _
  | x :: r, acc => by
    unfold ext
    split
    · have := ext_le W r (acc + x + 1)
      rw [List.length_cons]; lia
    · exact Nat.zero_le _
theorem ext_spec (W : Int) : ∀ (l : List Int) (acc : Int) (k : Nat), (∀ x ∈ l, 1 ≤ x) → k ≤ l.length → (k ≤ ext W acc l ↔ (k = 0 ∨ acc + (l.take k).sum + (k : Int) ≤ W))
  | [], acc, k, h, hk => by
    have : k = 0 := by simpa using hk
    subst this
    simp
  | x :: r, acc, 0, h, hk => by simp
  | x :: r, acc, k + 1, h, hk => by
    have h1 := h x (.head _)
    have ih := ext_spec W r (acc + x + 1) k (fun y hy => h y (.tail _ hy)) (by rw [List.length_cons] at hk; exact Nat.le_of_lt_succ hk)
    have hs := sum_nonneg (l := r.take k) fun y hy => h y (.tail _ (List.mem_of_mem_take hy))
    unfold ext
    rw [List.take_succ_cons, List.sum_cons]
    split
    · rename_i hc
      rw [show (k + 1 ≤ 1 + ext W (acc + x + 1) r) ↔ k ≤ ext W (acc + x + 1) r by lia, ih]
      constructor
      · rintro (rfl | h)
        · right; simp; omega
        · right; push_cast; (clear hc hs ih h1 hk; lia)
      · rintro (h | h)
        · cases h
        · right; push_cast at h; (clear hc hs ih h1 hk; lia)
    · rename_i hc
      constructor
      · intro h; lia
      · rintro (h | h)
        · cases h
        · push_cast at h; (clear ih h1 hk; lia)
def eAt (sizes : List Int) (W : Int) (a : Nat) : Nat := a + 1 + ext W (sizes.getD a 0 + 1) (sizes.drop (a + 1))
def vecE (sizes : List Int) (W : Int) : List Nat := (List.range 6).map (eAt sizes W)
def fE (E : List Nat) (a b : Nat) : Bool := decide (b < a) || (decide (6 ≤ a) || decide (min b 5 < E.getD a 0))
theorem getD_ne {l : List Int} {a : Nat} (h : a < l.length) : l.getD a 0 ∈ l := by
  rw [List.getD_eq_getElem?_getD, List.getElem?_eq_getElem h]
  exact List.getElem_mem h
theorem fits_fE {sizes : List Int} {W : Int} (hn : sizes.length = 6) (hz : ∀ x ∈ sizes, 1 ≤ x ∧ x ≤ 6) (hw : 5 ≤ W) : fitsB sizes W = fE (vecE sizes W) := by
  funext a b
  unfold fitsB fE
  by_cases h6 : 6 ≤ a
  · rw [List.drop_of_length_le (by lia)]
    have : decide (6 ≤ a) = true := decide_eq_true h6
    rw [this]
    simp; lia
  by_cases hba : b < a
  · rw [show b + 1 - a = 0 by exact Nat.sub_eq_zero_of_le hba, List.take_zero]
    rw [decide_eq_true hba]
    simp; lia
  have hE : (vecE sizes W).getD a 0 = eAt sizes W a := by
    unfold vecE
    rw [List.getD_eq_getElem?_getD, List.getElem?_map, List.getElem?_range (by exact Nat.lt_of_not_le h6)]
    rfl
  rw [hE, decide_eq_false hba, decide_eq_false h6, Bool.false_or, Bool.false_or]
  have ha : a < sizes.length := by lia
  have hd : sizes.drop a = sizes.getD a 0 :: sizes.drop (a + 1) := by
    rw [List.drop_eq_getElem_cons ha, List.getD_eq_getElem?_getD, List.getElem?_eq_getElem ha]
    rfl
  have h1 : (sizes.drop a).take (b + 1 - a) = sizes.getD a 0 :: (sizes.drop (a + 1)).take (b - a) := by
    rw [hd, show b + 1 - a = (b - a) + 1 by lia, List.take_succ_cons]
  rw [h1, List.length_cons, List.sum_cons]
  have hl : ((sizes.drop (a + 1)).take (b - a)).length = min b 5 - a := by
    rw [List.length_take, List.length_drop, hn, Nat.succ_sub_succ]; exact Nat.sub_min_sub_right ..
  have hk : min b 5 - a ≤ (sizes.drop (a + 1)).length := by rw [List.length_drop, hn, Nat.succ_sub_succ]; exact Nat.sub_le_sub_right (Nat.min_le_right b 5) a
  have ht : (sizes.drop (a + 1)).take (b - a) = (sizes.drop (a + 1)).take (min b 5 - a) := by
    by_cases hb : b ≤ 5
    · rw [Nat.min_eq_left hb]
    · rw [List.take_of_length_le (by rw [List.length_drop, hn, Nat.succ_sub_succ]; exact Nat.sub_le_sub_right (Nat.le_of_lt (Nat.lt_of_not_le hb)) a), List.take_of_length_le (by rw [List.length_drop, hn, Nat.succ_sub_succ]; exact Nat.sub_le_sub_right (Nat.le_min.mpr ⟨Nat.le_of_lt (Nat.lt_of_not_le hb), Nat.le_refl 5⟩) a)]
  have sp := ext_spec W (sizes.drop (a + 1)) (sizes.getD a 0 + 1) (min b 5 - a) (fun x hx => (hz x (List.mem_of_mem_drop hx)).1) hk
  rw [hl, ht]
  have e2 : (min b 5 < eAt sizes W a) ↔ (min b 5 - a ≤ ext W (sizes.getD a 0 + 1) (sizes.drop (a + 1))) := by
    unfold eAt; clear sp ht hk hl h1 hd hE ha hz hw hn; (clear hba h6; lia)
  rw [Bool.eq_iff_iff, Bool.or_eq_true, decide_eq_true_eq, decide_eq_true_eq, e2, sp, beq_iff_eq]
  clear e2 sp ht hk hl h1 hd hE ha hz hw hn
  generalize (List.take (min b 5 - a) (List.drop (a + 1) sizes)).sum = S
  generalize sizes.getD a 0 = x
  generalize min b 5 - a = k
  clear h6 hba
  constructor
  · rintro (h | h)
    · left; lia
    · right; push_cast at h ⊢; lia
  · rintro (h | h)
    · left; lia
    · right; push_cast; lia
theorem eAt_lo (sizes : List Int) (W : Int) (a : Nat) : a + 1 ≤ eAt sizes W a := by unfold eAt; exact Nat.le_add_right _ _
theorem eAt_hi {sizes : List Int} {W : Int} (hn : sizes.length = 6) {a : Nat} (h : a < 6) : eAt sizes W a ≤ 6 := by
  have := ext_le W (sizes.drop (a + 1)) (sizes.getD a 0 + 1)
  rw [List.length_drop] at this
  unfold eAt; omega
theorem eAt_mono {sizes : List Int} {W : Int} (hn : sizes.length = 6) (hz : ∀ x ∈ sizes, 1 ≤ x ∧ x ≤ 6) {a : Nat} (h : a + 1 < 6) : eAt sizes W a ≤ eAt sizes W (a + 1) := by
  have hz' : ∀ x ∈ sizes, 1 ≤ x := fun x hx => (hz x hx).1
  have ha : a + 1 < sizes.length := by lia
  have hd : sizes.drop (a + 1) = sizes.getD (a + 1) 0 :: sizes.drop (a + 1 + 1) := by
    rw [List.drop_eq_getElem_cons ha, List.getD_eq_getElem?_getD, List.getElem?_eq_getElem ha]
    rfl
  have h0 : 1 ≤ sizes.getD a 0 := hz' _ (getD_ne (by exact Nat.le_of_lt ha))
  unfold eAt
  obtain ⟨k, hk⟩ : ∃ k, k = ext W (sizes.getD a 0 + 1) (sizes.drop (a + 1)) := ⟨_, rfl⟩
  rw [← hk]
  by_cases h2 : k ≤ 1
  · lia
  have hle := ext_le W (sizes.drop (a + 1)) (sizes.getD a 0 + 1)
  rw [← hk] at hle
  have s1 := (ext_spec W (sizes.drop (a + 1)) (sizes.getD a 0 + 1) k (fun x hx => hz' x (List.mem_of_mem_drop hx)) hle).mp (by exact Nat.le_of_eq hk)
  obtain ⟨j, rfl⟩ : ∃ j, k = j + 1 := ⟨k - 1, by lia⟩
  rw [hd, List.take_succ_cons, List.sum_cons] at s1
  rw [hd, List.length_cons] at hle
  have s2 := (ext_spec W (sizes.drop (a + 1 + 1)) (sizes.getD (a + 1) 0 + 1) j (fun x hx => hz' x (List.mem_of_mem_drop hx)) (by exact Nat.le_of_lt_succ hle)).mpr (by
    rcases s1 with s1 | s1
    · cases s1
    · right; push_cast at s1; lia)
  lia
end Mine
end
noncomputable section
open PySem
namespace Mine
section
variable (f : Nat → Nat → Bool)
def stepG (rows : List (List Nat)) (i : Nat) : List (List Nat) :=
  if f (lastP rows) i then rows.dropLast ++ [rows.getLast?.getD [] ++ [i]] else rows ++ [[i]]
def rowsG (i n : Nat) : List (List Nat) := (List.range' (i + 1) n).foldl (stepG f) [[i]]
def uptoG (here : List Nat) (a : Nat) : Nat := (here.filter (f a)).length
def toldGoG (here : List Nat) : List Nat → Str → Nat → Str × Nat
  | [], lt, dn => (lt, dn)
  | a :: r, lt, dn => toldGoG here r (lt ++ (Txt.slice (rowS here) (some (dn : Int)) (some (uptoG f here a : Int)) ++ Txt.upper (letS a))) (uptoG f here a)
def toldRowG (ab he : List Nat) : Str := (toldGoG f he ab "" 0).1 ++ Txt.slice (rowS he) (some ((toldGoG f he ab "" 0).2 : Int)) none
def rows8G : List (List Nat) := rowsG f 0 5 ++ List.replicate (8 - (rowsG f 0 5).length) []
def toldG : List Str := ((([] : List Nat) :: rows8G f).zip (rows8G f)).map fun p => toldRowG f p.1 p.2
end
theorem toldGo_G (sizes : List Int) (W : Int) (here : List Nat) : ∀ (ab : List Nat) (lt : Str) (dn : Nat), toldGo sizes W here ab lt dn = toldGoG (fitsB sizes W) here ab lt dn
  | [], lt, dn => rfl
  | a :: r, lt, dn => by
    unfold toldGo toldGoG
    exact toldGo_G sizes W here r _ _
theorem toldF_G (sizes : List Int) (W : Int) : toldF sizes W = toldG (fitsB sizes W) := by
  unfold toldF toldRows toldG
  apply List.map_congr_left
  intro p _
  unfold toldRow toldRowG
  rw [toldGo_G]
def spw (words : List Str) (k : Nat) : Str × Str := sp (words.getD k "")
def rowTxt (words : List Str) (r : List Nat) : Str := ptext (r.map (spw words))
theorem rowsG_succ (f : Nat → Nat → Bool) (i n : Nat) : rowsG f i (n + 1) = stepG f (rowsG f i n) (i + n + 1) := by
  unfold rowsG
  rw [List.range'_concat, List.foldl_append]
  rw [show i + 1 + 1 * n = i + n + 1 by lia]
  rfl
theorem wordsF_get {sizes : List Int} {k : Nat} (h : k < 6) : (wordsF sizes).getD k "" = repS (letS k) (sizes.getD k 0).toNat := by
  unfold wordsF
  rw [List.getD_eq_getElem?_getD, List.getElem?_map, List.getElem?_range h]
  rfl
theorem wordsF_glen {sizes : List Int} {k : Nat} (h : k < 6) : ((wordsF sizes).getD k "").length = (sizes.getD k 0).toNat := by
  rw [wordsF_get h, repS_len]
  show _ * 1 = _
  exact Nat.add_comm _ _
theorem drop_take_succ {l : List Int} {p m : Nat} (h : p + m < l.length) : (l.drop p).take (m + 1) = (l.drop p).take m ++ [l.getD (p + m) 0] := by
  rw [List.take_add_one, List.getElem?_drop, List.getD_eq_getElem?_getD, List.getElem?_eq_getElem h]
  rfl
def rlen (ps : List (Str × Str)) : Nat := (ps.map fun q => q.1.length + q.2.length).sum
theorem row_sum {sizes : List Int} (hn : sizes.length = 6) (hz : ∀ x ∈ sizes, 1 ≤ x ∧ x ≤ 6) (p : Nat) : ∀ m, p + m ≤ 6 → ((rlen ((List.range' p m).map (spw (wordsF sizes))) : Nat) : Int) = ((sizes.drop p).take m).sum + (m : Int)
  | 0, _ => by exact rfl
  | m + 1, h => by
    have ih := row_sum hn hz p m (by exact Nat.le_of_lt h)
    have hg := hz _ (getD_ne (l := sizes) (a := p + m) (by lia))
    have el : rlen ((List.range' p (m + 1)).map (spw (wordsF sizes))) = rlen ((List.range' p m).map (spw (wordsF sizes))) + ((spw (wordsF sizes) (p + 1 * m)).1.length + (spw (wordsF sizes) (p + 1 * m)).2.length) := by
      unfold rlen
      rw [List.range'_concat, List.map_append, List.map_append, List.sum_append]
      exact rfl
    rw [el, drop_take_succ (by lia), List.sum_append]
    simp only [List.sum_cons, List.sum_nil]
    have e : (spw (wordsF sizes) (p + 1 * m)).1.length + (spw (wordsF sizes) (p + 1 * m)).2.length = 1 + (sizes.getD (p + m) 0).toNat := by
      rw [show p + 1 * m = p + m by lia]
      show (" " : Str).length + ((wordsF sizes).getD (p + m) "").length = _
      rw [blank_len, wordsF_glen (by assumption)]
    rw [e]
    push_cast
    rw [ih]
    (clear e el ih h hn; lia)
structure RowsAt (rows : List (List Nat)) (i k : Nat) : Prop where
  ex : ∃ rs p, rows = rs ++ [List.range' p (k + 1 - p)] ∧ i ≤ p ∧ p ≤ k
theorem rowsG_at (f : Nat → Nat → Bool) (i : Nat) : ∀ n, RowsAt (rowsG f i n) i (i + n)
  | 0 => ⟨[], i, by unfold rowsG; simp, Nat.le_refl _, Nat.le_refl _⟩
  | n + 1 => by
    obtain ⟨rs, p, e, h1, h2⟩ := rowsG_at f i n
    rw [rowsG_succ, e]
    have hl : (rs ++ [List.range' p (i + n + 1 - p)]).getLast?.getD [] = List.range' p (i + n + 1 - p) := by simp
    unfold stepG
    split
    · refine ⟨rs, p, ?_, h1, by exact Nat.le_succ_of_le h2⟩
      rw [hl]
      rw [show i + (n + 1) + 1 - p = (i + n + 1 - p) + 1 by lia, List.range'_concat]
      rw [show p + 1 * (i + n + 1 - p) = i + n + 1 by lia]
      simp
    · refine ⟨rs ++ [List.range' p (i + n + 1 - p)], i + n + 1, ?_, by lia, by exact Nat.lt_succ_self _⟩
      rw [show i + (n + 1) + 1 - (i + n + 1) = 1 by exact Nat.add_sub_cancel_left _ _]
      rfl
theorem fold_rows {sizes : List Int} {W : Int} (hn : sizes.length = 6) (hz : ∀ x ∈ sizes, 1 ≤ x ∧ x ≤ 6) (i : Nat) : ∀ n, i + n ≤ 5 →
    (((wordsF sizes).drop i).take (n + 1)).foldl (chunkF W) ([], []) = ((rowsG (fitsB sizes W) i n).dropLast.map (rowTxt (wordsF sizes)), ((rowsG (fitsB sizes W) i n).getLast?.getD []).map (spw (wordsF sizes)))
  | 0, h => by
    have hw : i < (wordsF sizes).length := by rw [wordsF_len]; exact Nat.lt_succ_of_le h
    rw [List.drop_eq_getElem_cons hw]
    show chunkF W ([], []) _ = _
    have e : (wordsF sizes)[i] = (wordsF sizes).getD i "" := by rw [List.getD_eq_getElem?_getD, List.getElem?_eq_getElem hw]; rfl
    rw [e]
    unfold chunkF rowsG
    dsimp only
    split
    · rw [if_pos rfl]; rfl
    · rfl
  | n + 1, h => by
    have ih := fold_rows hn hz (W := W) i n (by exact Nat.le_of_lt h)
    have hw : i + (n + 1) < (wordsF sizes).length := by rw [wordsF_len]; exact Nat.lt_succ_of_le h
    have ht : ((wordsF sizes).drop i).take (n + 1 + 1) = ((wordsF sizes).drop i).take (n + 1) ++ [(wordsF sizes).getD (i + n + 1) ""] := by
      rw [List.take_add_one, List.getElem?_drop, List.getD_eq_getElem?_getD, show i + n + 1 = i + (n + 1) by lia, List.getElem?_eq_getElem hw]
      rfl
    rw [ht, List.foldl_append, ih]
    show chunkF W _ _ = _
    rw [rowsG_succ]
    obtain ⟨rs, p, e, h1, h2⟩ := (rowsG_at (fitsB sizes W) i n).ex
    rw [e]
    have a1 : i + n + 1 - p = (i + n - p) + 1 := by clear e ih ht hw hz hn h; exact Nat.succ_sub h2
    have a2 : i + n + 2 - p = (i + n + 1 - p) + 1 := Nat.succ_sub (Nat.le_succ_of_le h2)
    have a3 : p + 1 * (i + n + 1 - p) = i + n + 1 := by rw [Nat.one_mul]; exact Nat.add_sub_cancel' (Nat.le_succ_of_le h2)
    have a4 : p + (i + n + 2 - p) ≤ 6 := by rw [Nat.add_sub_cancel' (Nat.le_succ_of_le (Nat.le_succ_of_le h2))]; exact Nat.succ_le_succ h
    have a5 : i + n + 1 + 1 - p = i + n + 2 - p := rfl
    have a6 : i + n + 2 - p ≤ 6 - p ∧ i + n + 2 - p ≠ 1 := ⟨Nat.sub_le_sub_right (Nat.succ_le_succ h) p, fun q => by rw [a2, a1] at q; cases q⟩
    have hl : (rs ++ [List.range' p (i + n + 1 - p)]).getLast?.getD [] = List.range' p (i + n + 1 - p) := by simp
    have hdl : (rs ++ [List.range' p (i + n + 1 - p)]).dropLast = rs := by simp
    obtain ⟨q, hq⟩ : ∃ q, List.range' p (i + n + 1 - p) = p :: q := ⟨_, by rw [a1, List.range'_succ]⟩
    have hlp : lastP (rs ++ [List.range' p (i + n + 1 - p)]) = p := by rw [hq]; exact lastP_app _ _ _
    have hsum := row_sum hn hz p (i + n + 2 - p) a4
    have hpl : plen (((List.range' p (i + n + 1 - p)).map (spw (wordsF sizes))) ++ [sp ((wordsF sizes).getD (i + n + 1) "")]) = ((sizes.drop p).take (i + n + 2 - p)).sum + ((i + n + 2 - p : Nat) : Int) := by
      rw [← hsum, plen_nat]
      unfold rlen
      have : (List.range' p (i + n + 2 - p)).map (spw (wordsF sizes)) = ((List.range' p (i + n + 1 - p)).map (spw (wordsF sizes))) ++ [sp ((wordsF sizes).getD (i + n + 1) "")] := by
        rw [a2, List.range'_concat, List.map_append, a3]
        rfl
      rw [this]
    have hfit : fitsB sizes W p (i + n + 1) = decide (((sizes.drop p).take (i + n + 2 - p)).sum + ((i + n + 2 - p : Nat) : Int) ≤ W) := by
      unfold fitsB
      rw [a5]
      have hl2 : ((sizes.drop p).take (i + n + 2 - p)).length = i + n + 2 - p := by
        rw [List.length_take, List.length_drop, hn]; exact Nat.min_eq_left a6.1
      rw [hl2, beq_eq_false_iff_ne.mpr a6.2, Bool.false_or]
    unfold chunkF stepG
    rw [hl, hdl, hlp, hpl, hfit]
    by_cases hc : ((sizes.drop p).take (i + n + 2 - p)).sum + ((i + n + 2 - p : Nat) : Int) ≤ W
    · rw [if_neg (Int.not_lt.mpr hc), decide_eq_true hc, if_pos rfl]
      simp
      rfl
    · rw [if_pos (Int.not_le.mp hc), decide_eq_false hc, if_neg Bool.false_ne_true, if_neg (show ¬ (List.map (spw (wordsF sizes)) (List.range' p (i + n + 1 - p)) = []) by rw [hq]; exact List.cons_ne_nil _ _)]
      simp
      exact ⟨rfl, rfl⟩
end Mine
end
noncomputable section
open PySem PySem.StrLaws Builtin Builtin.Str
namespace Mine
def gls (sep : List Nat) : List (List Nat) → List Nat
  | [] => []
  | x :: ws => x ++ (ws.map (sep ++ ·)).flatten
theorem join_gls (sep : Str) : ∀ l : List Str, (Str.join sep l).cps.toList = gls sep.cps.toList (l.map (·.cps.toList))
  | [] => rfl
  | [x] => by show x.cps.toList = _; simp [gls]
  | x :: y :: r => by
    have ih := join_gls sep (y :: r)
    show (x.cps ++ sep.cps ++ (Str.join sep (y :: r)).cps).toList = _
    rw [Array.toList_append, Array.toList_append, ih]
    simp [gls]
theorem cut_first {c : Nat} : ∀ {x x' R R' : List Nat}, c ∉ x → c ∉ x' → (R = [] ∨ ∃ t, R = c :: t) → (R' = [] ∨ ∃ t, R' = c :: t) → x ++ R = x' ++ R' → x = x' ∧ R = R'
  | [], [], R, R', _, _, _, _, e => ⟨rfl, e⟩
  | [], a :: x', R, R', _, h', hR, _, e => by
    rcases hR with rfl | ⟨t, rfl⟩
    · cases e
    · injection e with e1 e2
      exact absurd (by rw [e1]; exact .head _) h'
  | a :: x, [], R, R', h, _, _, hR', e => by
    rcases hR' with rfl | ⟨t, rfl⟩
    · cases e
    · injection e with e1 e2
      exact absurd (by rw [← e1]; exact .head _) h
  | a :: x, b :: x', R, R', h, h', hR, hR', e => by
    injection e with e1 e2
    obtain ⟨i1, i2⟩ := cut_first (fun hm => h (.tail _ hm)) (fun hm => h' (.tail _ hm)) hR hR' e2
    exact ⟨by rw [e1, i1], i2⟩
theorem tail_shape (c : Nat) (t : List Nat) : ∀ ws : List (List Nat), ((ws.map ((c :: t) ++ ·)).flatten = [] ∨ ∃ u, (ws.map ((c :: t) ++ ·)).flatten = c :: u)
  | [] => .inl rfl
  | w :: ws => .inr ⟨_, rfl⟩
theorem gls_inj (c : Nat) (t : List Nat) : ∀ (ws ws' : List (List Nat)) (x x' : List Nat), c ∉ x → c ∉ x' → (∀ w ∈ ws, c ∉ w) → (∀ w ∈ ws', c ∉ w) → gls (c :: t) (x :: ws) = gls (c :: t) (x' :: ws') → x :: ws = x' :: ws'
  | [], [], x, x', h, h', _, _, e => by
    have := cut_first h h' (tail_shape c t []) (tail_shape c t []) e
    rw [this.1]
  | [], w' :: ws', x, x', h, h', _, _, e => by
    have := (cut_first h h' (tail_shape c t []) (tail_shape c t (w' :: ws')) e).2
    cases this
  | w :: ws, [], x, x', h, h', _, _, e => by
    have := (cut_first h h' (tail_shape c t (w :: ws)) (tail_shape c t []) e).2
    cases this
  | w :: ws, w' :: ws', x, x', h, h', hw, hw', e => by
    obtain ⟨e1, e2⟩ := cut_first h h' (tail_shape c t (w :: ws)) (tail_shape c t (w' :: ws')) e
    have e3 : gls (c :: t) (w :: ws) = gls (c :: t) (w' :: ws') := by
      simp only [List.map_cons, List.flatten_cons, List.append_assoc] at e2
      exact List.append_cancel_left e2
    have := gls_inj c t ws ws' w w' (hw w (.head _)) (hw' w' (.head _)) (fun v hv => hw v (.tail _ hv)) (fun v hv => hw' v (.tail _ hv)) e3
    rw [e1, this]
theorem str_inj {x y : Str} (h : x.cps.toList = y.cps.toList) : x = y := by
  obtain ⟨⟨a⟩⟩ := x
  obtain ⟨⟨b⟩⟩ := y
  cases h
  rfl
theorem map_inj : ∀ {l l' : List Str}, l.map (·.cps.toList) = l'.map (·.cps.toList) → l = l'
  | [], [], _ => rfl
  | [], _ :: _, h => by cases h
  | _ :: _, [], h => by cases h
  | x :: l, y :: l', h => by
    simp only [List.map_cons, List.cons.injEq] at h
    rw [str_inj h.1, map_inj h.2]
theorem split_ne (x y : Str) : Txt.split x y ≠ [] := by
  unfold Txt.split
  split
  · exact List.cons_ne_nil _ _
  · split
    · exact List.cons_ne_nil _ _
    · rw [partsBetween_eq]
      obtain ⟨p, r, e⟩ := partsFrom_ne x y.length 0 (occurrences x y 0 x.length (x.length + 1))
      rw [e]; exact List.cons_ne_nil _ _
theorem split_of_parts {c : Nat} {t : List Nat} {parts : List Str} {sep : Str} (hs : sep.cps.toList = c :: t) (hne : parts ≠ []) (hf : ∀ p ∈ parts, c ∉ p.cps.toList) (hq : ∀ p ∈ Txt.split (Str.join sep parts) sep, c ∉ p.cps.toList) : Txt.split (Str.join sep parts) sep = parts := by
  have e := join_split (Str.join sep parts) sep
  have e' := congrArg (fun z : Str => z.cps.toList) e
  rw [join_gls, join_gls, hs] at e'
  have hne' := split_ne (Str.join sep parts) sep
  obtain ⟨qs, eqs⟩ : ∃ qs, qs = Txt.split (Str.join sep parts) sep := ⟨_, rfl⟩
  rw [← eqs] at e' hq hne' ⊢
  cases parts with
  | nil => exact absurd rfl hne
  | cons x ws =>
    cases qs with
    | nil => exact absurd rfl hne'
    | cons q qs =>
      refine map_inj ?_
      exact gls_inj c t _ _ _ _ (hq q (.head _)) (hf x (.head _)) (fun w hw => by
        obtain ⟨v, hv, rfl⟩ := List.mem_map.mp hw
        exact hq v (.tail _ hv)) (fun w hw => by
        obtain ⟨v, hv, rfl⟩ := List.mem_map.mp hw
        exact hf v (.tail _ hv)) e'
theorem split_one {c : Nat} {parts : List Str} (hne : parts ≠ []) (hf : ∀ p ∈ parts, c ∉ p.cps.toList) : Txt.split (Str.join ⟨#[c]⟩ parts) ⟨#[c]⟩ = parts :=
  split_of_parts rfl hne hf (split_free _ c)
theorem parts_freeH (x y : Str) (c : Nat) (H : ∀ k, At x ⟨#[c]⟩ x.length k → At x y x.length k) : ∀ (cuts : List Nat) (a f : Nat), ChainG x y x.length a cuts f → (∀ k, f ≤ k → ¬ At x y x.length k) → ∀ p ∈ partsFrom x y.length a cuts, c ∉ p.cps.toList
  | [], a, f, h, hn, p, hp => by
    have e : f = a := h
    rw [List.mem_singleton.mp hp, ← e]
    exact part_free x c f x.length (Nat.le_refl _) fun k h1 _ hA => hn k h1 (H k hA)
  | d :: r, a, f, h, hn, p, hp => by
    rcases List.mem_cons.mp hp with e | hp'
    · rw [e]
      exact part_free x c a d (by have := h.2.1.1; lia) fun k h1 h2 hA => h.2.2.1 k h1 h2 (H k hA)
    · exact parts_freeH x y c H r _ f h.2.2.2 hn p hp'
theorem free_of_noAt {x : Str} {c : Nat} (h : ∀ k, ¬ At x ⟨#[c]⟩ x.length k) : c ∉ x.cps.toList := by
  have := part_free x c 0 x.length (Nat.le_refl _) fun k _ _ => h k
  rwa [sub_whole] at this
theorem split_freeH (x y : Str) (c : Nat) (hy : 1 ≤ y.length) (hk : Builtin.Str.strKind y = 1) (H : ∀ k, At x ⟨#[c]⟩ x.length k → At x y x.length k) : ∀ p ∈ Txt.split x y, c ∉ p.cps.toList := by
  obtain ⟨f, hG, hn⟩ := occ_tight x y hy
  have k1 : 1 ≤ Builtin.Str.strKind x := by unfold Builtin.Str.strKind; split <;> (try split) <;> omega
  intro p hp
  unfold Txt.split at hp
  split at hp
  · rename_i hc
    rw [List.mem_singleton.mp hp]
    rw [Bool.or_eq_true, decide_eq_true_eq, decide_eq_true_eq, hk] at hc
    refine free_of_noAt fun k hA => ?_
    have := (H k hA).1
    rcases hc with h | h
    · lia
    · lia
  · split at hp
    · rename_i he
      rw [List.mem_singleton.mp hp]
      rw [List.isEmpty_iff.mp he] at hG
      have ef : f = 0 := hG
      subst ef
      exact free_of_noAt fun k hA => hn k (Nat.zero_le _) (H k hA)
    · rw [partsBetween_eq] at hp
      exact parts_freeH x y c H _ 0 f hG hn p hp
theorem count_split (x : Str) (c : Nat) (hx : 0 < x.length) (hc : c < 256) : Txt.count x ⟨#[c]⟩ + 1 = ((Txt.split x ⟨#[c]⟩).length : Int) := by
  have k1 : 1 ≤ Builtin.Str.strKind x := by unfold Builtin.Str.strKind; split <;> (try split) <;> omega
  have kc : Builtin.Str.strKind ⟨#[c]⟩ = 1 := by unfold Builtin.Str.strKind; rw [if_pos (by simp [hc])]
  unfold Txt.count Txt.split
  rw [if_neg (by rw [Bool.or_eq_true, decide_eq_true_eq, decide_eq_true_eq, kc]; show ¬ (x.length < 1 ∨ _); lia)]
  split
  · rename_i he
    rw [List.isEmpty_iff.mp he]
    rfl
  · rw [partsBetween_eq, partsFrom_len]
    push_cast
    rfl
end Mine
end
noncomputable section
open PySem PySem.StrLaws Builtin Builtin.Str
namespace Mine
theorem rep_mem (x : Str) (n : Nat) {c : Nat} (h : c ∈ (repS x n).cps.toList) : c ∈ x.cps.toList := by
  have : ∀ (n : Nat) (a : Array Nat), c ∈ ((List.replicate n x.cps).foldl (· ++ ·) a).toList → c ∈ a.toList ∨ c ∈ x.cps.toList := by
    intro n
    induction n with
    | zero => intro a h; exact .inl h
    | succ n ih =>
      intro a h
      rw [List.replicate_succ, List.foldl_cons] at h
      rcases ih _ h with h | h
      · rw [Array.toList_append] at h
        exact List.mem_append.mp h
      · exact .inr h
  rcases this n #[] h with h | h
  · cases h
  · exact h
theorem wordsF_good {sizes : List Int} (hn : sizes.length = 6) (hz : ∀ x ∈ sizes, 1 ≤ x ∧ x ≤ 6) : ∀ b ∈ wordsF sizes, GoodW b := by
  intro b hb
  unfold wordsF at hb
  obtain ⟨i, hi, rfl⟩ := List.mem_map.mp hb
  have hi6 := List.mem_range.mp hi
  have hg := hz _ (getD_ne (l := sizes) (a := i) (by lia))
  have hl : (repS (letS i) (sizes.getD i 0).toNat).length = (sizes.getD i 0).toNat := by
    rw [repS_len]
    show _ * 1 = _
    exact Nat.add_comm _ _
  refine ⟨by lia, by lia, fun c hc => ?_⟩
  have := rep_mem _ _ hc
  have hc' : c = 97 + i := List.mem_singleton.mp this
  lia
theorem word_good {sizes : List Int} (hn : sizes.length = 6) (hz : ∀ x ∈ sizes, 1 ≤ x ∧ x ≤ 6) {k : Nat} (hk : k < 6) : GoodW ((wordsF sizes).getD k "") := by
  refine wordsF_good hn hz _ ?_
  rw [List.getD_eq_getElem?_getD, List.getElem?_eq_getElem (by rw [wordsF_len]; exact hk)]
  exact List.getElem_mem _
theorem rowTxt_list (words : List Str) (r : List Nat) : (rowTxt words r).cps.toList = (r.map fun k => 32 :: (words.getD k "").cps.toList).flatten := by
  unfold rowTxt
  rw [ptext_list, List.map_map]
  congr 1
theorem rowsG_flat (f : Nat → Nat → Bool) (i : Nat) : ∀ n, (rowsG f i n).flatten = List.range' i (n + 1)
  | 0 => rfl
  | n + 1 => by
    have ih := rowsG_flat f i n
    rw [rowsG_succ]
    obtain ⟨rs, p, e, h1, h2⟩ := (rowsG_at f i n).ex
    rw [List.range'_concat, ← ih, show i + 1 * (n + 1) = i + n + 1 by lia, e]
    unfold stepG
    split <;> simp
theorem rowsG_all (f : Nat → Nat → Bool) (i : Nat) : ∀ n, ∀ r ∈ rowsG f i n, r ≠ []
  | 0, r, hr => by
    rw [List.mem_singleton.mp hr]; exact List.cons_ne_nil _ _
  | n + 1, r, hr => by
    have ih := rowsG_all f i n
    rw [rowsG_succ] at hr
    unfold stepG at hr
    split at hr
    · rcases List.mem_append.mp hr with hr | hr
      · exact ih r (List.dropLast_subset _ hr)
      · rw [List.mem_singleton.mp hr]; exact List.append_ne_nil_of_right_ne_nil _ (List.cons_ne_nil _ _)
    · rcases List.mem_append.mp hr with hr | hr
      · exact ih r hr
      · rw [List.mem_singleton.mp hr]; exact List.cons_ne_nil _ _
theorem rowsG_ne (f : Nat → Nat → Bool) (i n : Nat) : rowsG f i n ≠ [] := by
  obtain ⟨rs, p, e, _⟩ := (rowsG_at f i n).ex
  rw [e]; exact List.append_ne_nil_of_right_ne_nil _ (List.cons_ne_nil _ _)
theorem nl_eq : ("\n" : Str) = ⟨#[10]⟩ := by decide +kernel
theorem sp_eq : (" " : Str) = ⟨#[32]⟩ := by decide +kernel
section
variable {sizes : List Int} {W : Int} (hn : sizes.length = 6) (hz : ∀ x ∈ sizes, 1 ≤ x ∧ x ≤ 6)
include hn hz
theorem row_signs {r : List Nat} (hr : ∀ k ∈ r, k < 6) {c : Nat} (h : c ∈ (rowTxt (wordsF sizes) r).cps.toList) : c = 32 ∨ (97 ≤ c ∧ c ≤ 102) := by
  rw [rowTxt_list] at h
  obtain ⟨l, hl, hc⟩ := List.mem_flatten.mp h
  obtain ⟨k, hk, rfl⟩ := List.mem_map.mp hl
  rcases List.mem_cons.mp hc with rfl | hc
  · exact .inl rfl
  · exact .inr ((word_good hn hz (hr k hk)).2.2 c hc)
theorem rows_lt {i : Nat} (hi : i < 6) {r : List Nat} (hr : r ∈ rowsG (fitsB sizes W) i (5 - i)) : ∀ k ∈ r, k < 6 := fun k hk => by
  have : k ∈ (rowsG (fitsB sizes W) i (5 - i)).flatten := List.mem_flatten.mpr ⟨r, hr, hk⟩
  rw [rowsG_flat] at this
  have := List.mem_range'_1.mp this
  lia
theorem foldF_rows {i : Nat} (hi : i < 6) : foldF W ((wordsF sizes).drop i) = (rowsG (fitsB sizes W) i (5 - i)).map (rowTxt (wordsF sizes)) := by
  have h := fold_rows hn hz (W := W) i (5 - i) (by lia)
  rw [List.take_of_length_le (by rw [List.length_drop, wordsF_len]; (clear hi hn; omega))] at h
  have hne := rowsG_ne (fitsB sizes W) i (5 - i)
  have et : foldTxt W ((wordsF sizes).drop i) = Str.join ⟨#[10]⟩ ((rowsG (fitsB sizes W) i (5 - i)).map (rowTxt (wordsF sizes))) := by
    unfold foldTxt foldSt
    rw [h, nl_eq]
    dsimp only
    congr 1
    have e2 := List.dropLast_concat_getLast hne
    have e3 : (rowsG (fitsB sizes W) i (5 - i)).getLast?.getD [] = (rowsG (fitsB sizes W) i (5 - i)).getLast hne := by rw [List.getLast?_eq_some_getLast hne]; rfl
    rw [e3]
    show _ ++ [rowTxt (wordsF sizes) _] = _
    conv => rhs; rw [← e2]
    rw [List.map_append]
    rfl
  unfold foldF
  rw [et, nl_eq]
  refine split_one (by simpa using hne) fun p hp hm => ?_
  obtain ⟨r, hr, rfl⟩ := List.mem_map.mp hp
  rcases row_signs hn hz (rows_lt hn hz hi hr) hm with h | h <;> lia
theorem row_count {r : List Nat} (hr : ∀ k ∈ r, k < 6) (hne : r ≠ []) : Txt.count (rowTxt (wordsF sizes) r) " " = (r.length : Int) := by
  have ej : rowTxt (wordsF sizes) r = Str.join ⟨#[32]⟩ (⟨#[]⟩ :: r.map fun k => (wordsF sizes).getD k "") := by
    apply str_inj
    rw [rowTxt_list, join_gls]
    show _ = [] ++ _
    rw [List.nil_append, List.map_map, List.map_map]
    rfl
  have hx : 0 < (rowTxt (wordsF sizes) r).length := by
    cases r with
    | nil => exact absurd rfl hne
    | cons a r =>
      rw [← str_len, rowTxt_list]
      simp
  have hc := count_split (rowTxt (wordsF sizes) r) 32 hx (by decide)
  rw [sp_eq]
  have hs : Txt.split (rowTxt (wordsF sizes) r) ⟨#[32]⟩ = (⟨#[]⟩ : Str) :: r.map fun k => (wordsF sizes).getD k "" := by
    rw [ej]
    refine split_one (by exact List.cons_ne_nil _ _) fun p hp hm => ?_
    rcases List.mem_cons.mp hp with rfl | hp
    · cases hm
    · obtain ⟨k, hk, rfl⟩ := List.mem_map.mp hp
      have := (word_good hn hz (hr k hk)).2.2 32 hm
      lia
  rw [hs, List.length_cons, List.length_map] at hc
  push_cast at hc
  lia
theorem endsF_rows : endsF W (wordsF sizes) = (List.range 6).map fun (i : Nat) => ((i + ((rowsG (fitsB sizes W) i (5 - i)).headD []).length : Nat) : Int) := by
  unfold endsF
  refine List.map_congr_left fun i hi => ?_
  have hi6 := List.mem_range.mp hi
  unfold foldHd
  rw [foldF_rows hn hz hi6]
  have hne := rowsG_ne (fitsB sizes W) i (5 - i)
  cases q : rowsG (fitsB sizes W) i (5 - i) with
  | nil => exact absurd q hne
  | cons r rs =>
    have hr : r ∈ rowsG (fitsB sizes W) i (5 - i) := by rw [q]; exact .head _
    show (i : Int) + Txt.count (rowTxt (wordsF sizes) r) " " = ((i + r.length : Nat) : Int)
    rw [row_count hn hz (rows_lt hn hz hi6 hr) (rowsG_all _ _ _ r hr)]
    push_cast
    rfl
theorem aheadF_rows : aheadF W (wordsF sizes) = (List.range (rowsG (fitsB sizes W) 0 5).length).map fun (i : Nat) => ((i * ((rowsG (fitsB sizes W) 0 5).getD i []).length : Nat) : Int) := by
  have h0 : foldF W (wordsF sizes) = (rowsG (fitsB sizes W) 0 5).map (rowTxt (wordsF sizes)) := by
    have := foldF_rows hn hz (W := W) (i := 0) (by decide)
    rw [List.drop_zero] at this
    exact this
  have hall : ∀ r ∈ rowsG (fitsB sizes W) 0 5, Txt.count (rowTxt (wordsF sizes) r) " " = (r.length : Int) := fun r hr => row_count hn hz (rows_lt hn hz (W := W) (i := 0) (by decide) hr) (rowsG_all _ _ _ r hr)
  unfold aheadF
  rw [h0, List.length_map]
  generalize rowsG (fitsB sizes W) 0 5 = rows at hall
  refine List.map_congr_left fun i hi => ?_
  have hi2 : i < rows.length := List.mem_range.mp hi
  rw [List.getD_eq_getElem?_getD, List.getElem?_map, List.getD_eq_getElem?_getD, List.getElem?_eq_getElem hi2]
  show (i : Int) * Txt.count (rowTxt (wordsF sizes) rows[i]) " " = ((i * rows[i].length : Nat) : Int)
  rw [hall _ (List.getElem_mem _)]
  push_cast
  rfl
end
end Mine
end
noncomputable section
open PySem PySem.StrLaws Builtin Builtin.Str
namespace Mine
theorem flat_flat {α β : Type} (g : α → List β) : ∀ rows : List (List α), (rows.map fun r => (r.map g).flatten).flatten = (rows.flatten.map g).flatten
  | [] => rfl
  | r :: rows => by
    rw [List.map_cons, List.flatten_cons, List.flatten_cons, List.map_append, List.flatten_append, flat_flat g rows]
theorem drop_range (words : List Str) (n i : Nat) (h : words.length = n) (hi : i ≤ n) : words.drop i = (List.range' i (n - i)).map fun k => words.getD k "" := by
  refine List.ext_getElem (by simp; lia) fun j h1 h2 => ?_
  rw [List.getElem_drop, List.getElem_map, List.getElem_range', List.getD_eq_getElem?_getD]
  rw [List.length_drop] at h1
  rw [show i + 1 * j = i + j by lia, List.getElem?_eq_getElem (by lia)]
  rfl
theorem flat_len (g : Nat → List Nat) (B : Nat) : ∀ l : List Nat, (∀ k ∈ l, (g k).length ≤ B) → (l.map g).flatten.length ≤ l.length * B
  | [], _ => by simp
  | k :: l, h => by
    have h1 := h k (.head _)
    have h2 := flat_len g B l fun k hk => h k (.tail _ hk)
    rw [List.map_cons, List.flatten_cons, List.length_append, List.length_cons, Nat.succ_mul]
    lia
theorem lens_join (l : List Str) : (l.map (·.length)).sum = (Str.join "" l).length := by
  rw [← str_len, join_cps _ empty_cps, List.length_flatten, List.map_map]
  congr 1
section
variable {sizes : List Int} {W : Int} (hn : sizes.length = 6) (hz : ∀ x ∈ sizes, 1 ≤ x ∧ x ≤ 6)
include hn hz
theorem rows_join {i : Nat} (hi : i < 6) : (Str.join "" (foldF W ((wordsF sizes).drop i))).cps.toList = ((List.range' i (6 - i)).map fun k => 32 :: ((wordsF sizes).getD k "").cps.toList).flatten := by
  rw [foldF_rows hn hz hi, join_cps _ empty_cps, List.map_map]
  have e : (fun x : Str => x.cps.toList) ∘ rowTxt (wordsF sizes) = fun r => (r.map fun k => 32 :: ((wordsF sizes).getD k "").cps.toList).flatten := by
    funext r
    exact rowTxt_list _ r
  rw [e, flat_flat, rowsG_flat, show 5 - i + 1 = 6 - i by lia]
theorem words_join {i : Nat} (hi : i < 6) : (" " ++ Str.join " " ((wordsF sizes).drop i)).cps.toList = ((List.range' i (6 - i)).map fun k => 32 :: ((wordsF sizes).getD k "").cps.toList).flatten := by
  show ((" " : Str).cps ++ (Str.join " " ((wordsF sizes).drop i)).cps).toList = _
  rw [Array.toList_append, join_gls, blank_cps, drop_range (wordsF sizes) 6 i (wordsF_len _) (by exact Nat.le_of_lt hi), List.map_map]
  rw [show 6 - i = (5 - i) + 1 by lia, List.range'_succ]
  simp only [List.map_cons, List.flatten_cons, gls]
  rw [List.map_map]
  rfl
theorem all_len {i : Nat} (hi : i < 6) : (((List.range' i (6 - i)).map fun k => 32 :: ((wordsF sizes).getD k "").cps.toList).flatten).length ≤ 42 := by
  have := flat_len (fun k => 32 :: ((wordsF sizes).getD k "").cps.toList) 7 (List.range' i (6 - i)) fun k hk => by
    have hk' := List.mem_range'_1.mp hk
    have hk6 : k < 6 := by (clear hi hn; omega)
    have hg := hz _ (getD_ne (l := sizes) (a := k) (by lia))
    rw [List.length_cons, str_len, wordsF_glen hk6]
    lia
  rw [List.length_range'] at this
  have h2 : (6 - i) * 7 ≤ 42 := by (clear this hi hn; omega)
  exact Nat.le_trans this h2
theorem foldsOk : FoldsOk W (wordsF sizes) := by
  have jj : ∀ i, i < 6 → Str.join "" (foldF W ((wordsF sizes).drop i)) = " " ++ Str.join " " ((wordsF sizes).drop i) := fun i hi => str_inj ((rows_join hn hz hi).trans (words_join hn hz hi).symm)
  have jl : ∀ i, i < 6 → (Str.join "" (foldF W ((wordsF sizes).drop i))).length ≤ 42 := fun i hi => by
    rw [← str_len, rows_join hn hz hi]
    exact all_len hn hz hi
  refine ⟨wordsF_len _, fun i hi => ?_, fun i hi => ?_, fun i hi => ?_, fun i hi => ?_⟩
  · rw [lens_join]
    have h1 := jl i hi
    have h2 : (foldF W ((wordsF sizes).drop i)).length ≤ 6 := by
      rw [foldF_rows hn hz hi, List.length_map]
      have := len_flat (rowsG_all (fitsB sizes W) i (5 - i))
      rw [rowsG_flat, List.length_range'] at this
      (clear h1 hi hn; omega)
    lia
  · have h2 : ((wordsF sizes).drop i).length ≤ 6 := by rw [List.length_drop, wordsF_len]; exact Nat.sub_le _ _
    have h1 : (((wordsF sizes).drop i).map (·.length)).sum ≤ 600 := by
      have := StrLaws.sumLen_le (B := 100) ((wordsF sizes).drop i) fun y hy => (wordsF_good hn hz y (List.mem_of_mem_drop hy)).1
      lia
    lia
  · have h1 := jl i hi
    rw [jj i hi, Str.length_append] at h1
    rw [Txt_join]
    lia
  · rw [Txt_join, Txt_join]
    exact jj i hi
end
end Mine
end
noncomputable section
open PySem PySem.StrLaws Builtin Builtin.Str
namespace Mine
def endsE (E : List Nat) : List Int := (List.range 6).map fun (i : Nat) => ((i + ((rowsG (fE E) i (5 - i)).headD []).length : Nat) : Int)
def aheadE (E : List Nat) : List Int := (List.range (rowsG (fE E) 0 5).length).map fun (i : Nat) => ((i * ((rowsG (fE E) 0 5).getD i []).length : Nat) : Int)
def stepS (hangs : List Int) (ps : List (List (Nat × Nat))) (p : Nat) : List (List (Nat × Nat)) :=
  ((1, p) :: (ps.drop (ps.length - hangs.count (p : Int))).flatten.map fun q => (q.1 + 1, q.2)) :: ps.take (ps.length - hangs.count (p : Int))
def rowsS (E : List Nat) : List (Nat × Nat) := (([5, 4, 3, 2, 1, 0].foldl (stepS (hangsF (endsE E))) []).flatten).map fun q => (q.1 + 1, q.2)
def lineL (q : Nat × Nat) : List Nat := List.replicate q.1 46 ++ [120, 58, 32, 97 + q.2]
def sentL (rows : List (Nat × Nat)) : List Nat := (rows.map fun q => lineL q ++ [13, 10]).flatten
def lettersAt (rows : List (Nat × Nat)) (d : Nat) : List Nat := (rows.map fun q => (if q.1 = d then [97 + q.2] else []) ++ (if q.1 + 1 = d then [65 + q.2] else [])).flatten
def checkA (E : List Nat) : Bool := nestOk (hangsF (endsE E)) [5, 4, 3, 2, 1, 0] []
def checkB (E : List Nat) : Bool := (nestTxt (endsE E)).cps.toList == sentL (rowsS E)
def checkC (E : List Nat) : Bool := (rowsS E).all (fun q => decide (2 ≤ q.1) && (decide (q.1 ≤ 8) && decide (q.2 < 6))) && (rowsS E).length == 6
def checkD (E : List Nat) : Bool := ((List.range 8).map fun i => lettersAt (rowsS E) (i + 2)) == (toldG (fE E)).map (·.cps.toList)
def checkE (E : List Nat) : Bool := ((rowsS E).map fun q => (q.1 : Int) - 2).sum == (aheadE E).sum && ((nearC ((rowsS E).map fun q => (q.1 : Int) - 2) 6 : Nat) : Int) == (endsE E).sum - 21
end Mine
end
noncomputable section
open PySem PySem.StrLaws Builtin Builtin.Str
namespace Mine
theorem placed_list (x : Str) (f : Nat → Nat → List Nat) (g : Nat → List Nat) (h : ∀ i c, x.cps[i]? = some c → f i c = g c) : (placed x f).toList = x.cps.toList.flatMap g := by
  unfold placed
  rw [Array.toList_flatten, Array.toList_mapIdx, List.flatMap_def]
  congr 1
  refine List.ext_getElem (by simp) fun i h1 h2 => ?_
  rw [List.getElem_map, List.getElem_mapIdx, List.getElem_map]
  show f i _ = _
  rw [List.length_map] at h2
  refine h i _ ?_
  rw [← Array.getElem?_toList, List.getElem?_eq_getElem h2]
theorem norm3 {c d : Nat} {l : List Nat} (h1 : c ≠ 13) (h2 : c ≠ 10) : norm (c :: d :: l) = c :: norm (d :: l) := by
  rw [norm, if_neg h1, if_neg h2]
theorem normCRLF (R : List Nat) : norm (13 :: 10 :: R) = 13 :: 10 :: norm R := by
  rw [norm, if_pos rfl, if_pos rfl]
def textL (ls : List (List Nat)) : List Nat := (ls.map fun l => l ++ [13, 10]).flatten
theorem norm_line : ∀ (l R : List Nat), 13 ∉ l → 10 ∉ l → norm (l ++ 13 :: 10 :: R) = l ++ 13 :: 10 :: norm R
  | [], R, _, _ => normCRLF R
  | [c], R, h1, h2 => by
    have c1 : c ≠ 13 := fun e => h1 (by simp [e])
    have c2 : c ≠ 10 := fun e => h2 (by simp [e])
    show norm (c :: 13 :: 10 :: R) = _
    rw [norm3 c1 c2, normCRLF]
    rfl
  | c :: d :: l, R, h1, h2 => by
    have c1 : c ≠ 13 := fun e => h1 (by simp [e])
    have c2 : c ≠ 10 := fun e => h2 (by simp [e])
    show norm (c :: d :: (l ++ 13 :: 10 :: R)) = _
    rw [norm3 c1 c2]
    have := norm_line (d :: l) R (fun hm => h1 (.tail _ hm)) (fun hm => h2 (.tail _ hm))
    rw [List.cons_append] at this
    rw [this]
    rfl
theorem norm_text : ∀ ls : List (List Nat), (∀ l ∈ ls, 13 ∉ l ∧ 10 ∉ l) → norm (textL ls) = textL ls
  | [], _ => by exact rfl
  | l :: ls, h => by
    have hl := h l (.head _)
    have ih := norm_text ls fun m hm => h m (.tail _ hm)
    have e : textL (l :: ls) = l ++ 13 :: 10 :: textL ls := by simp [textL]
    rw [e, norm_line l _ hl.1 hl.2, ih]
theorem dotsF (c : Nat) (l : List Nat) : dots false (c :: l) = c :: dots (c == 10) l := by
  rw [dots, if_neg (by simp)]
theorem dotsT (l : List Nat) : dots true (46 :: l) = 46 :: 46 :: dots false l := by
  rw [dots, if_pos ⟨rfl, rfl⟩]
theorem dots_in : ∀ (l R : List Nat), 10 ∉ l → dots false (l ++ 13 :: 10 :: R) = l ++ 13 :: 10 :: dots true R
  | [], R, _ => by exact rfl
  | c :: l, R, h => by
    have c2 : c ≠ 10 := fun e => h (by simp [e])
    have := dots_in l R fun hm => h (.tail _ hm)
    rw [List.cons_append, dotsF, show (c == 10) = false by rw [beq_eq_false_iff_ne]; exact c2, this]
    rfl
theorem dots_text : ∀ ls : List (List Nat), (∀ l ∈ ls, 10 ∉ l) → dots true (textL (ls.map (46 :: ·))) = textL (ls.map fun l => 46 :: 46 :: l)
  | [], _ => by exact rfl
  | l :: ls, h => by
    have ih := dots_text ls fun m hm => h m (.tail _ hm)
    have hl := h l (.head _)
    have e : textL ((l :: ls).map (46 :: ·)) = 46 :: (l ++ 13 :: 10 :: textL (ls.map (46 :: ·))) := by simp [textL]
    have e' : textL ((l :: ls).map fun l => 46 :: 46 :: l) = 46 :: 46 :: (l ++ 13 :: 10 :: textL (ls.map fun l => 46 :: 46 :: l)) := by simp [textL]
    rw [e, e']
    rw [dotsT, dots_in l _ hl, ih]
theorem quoteF_text {x : Str} {ls : List (List Nat)} (hx : x.cps.toList = textL (ls.map (46 :: ·))) (h : ∀ l ∈ ls, 13 ∉ l ∧ 10 ∉ l) : (quoteF x).cps.toList = textL (ls.map fun l => 46 :: 46 :: l) := by
  show dots true (norm x.cps.toList) = _
  rw [hx, norm_text, dots_text]
  · exact fun l hl => (h l hl).2
  · intro l hl
    obtain ⟨m, hm, rfl⟩ := List.mem_map.mp hl
    have := h m hm
    exact ⟨fun q => by
      rcases List.mem_cons.mp q with q | q
      · cases q
      · exact this.1 q, fun q => by
      rcases List.mem_cons.mp q with q | q
      · cases q
      · exact this.2 q⟩
theorem crlf_list : ("\r\n" : Str).cps.toList = [13, 10] := by decide +kernel
theorem crlf_kind : Builtin.Str.strKind ("\r\n" : Str) = 1 := by decide +kernel
theorem text_next : ∀ ls : List (List Nat), (∀ l ∈ ls, 13 ∉ l) → ∀ k : Nat, (textL ls)[k]? = some 13 → (textL ls)[k + 1]? = some 10
  | [], _, k, h => by simp [textL] at h
  | l :: ls, hl, k, h => by
    have e : textL (l :: ls) = l ++ 13 :: 10 :: textL ls := by simp [textL]
    rw [e] at h ⊢
    by_cases h1 : k < l.length
    · rw [List.getElem?_append_left h1] at h
      exact absurd (List.mem_of_getElem? h) (hl l (.head _))
    rw [List.getElem?_append_right (by exact Nat.le_of_not_lt h1)] at h
    rw [List.getElem?_append_right (by lia)]
    obtain ⟨j, hj⟩ : ∃ j, k - l.length = j := ⟨_, rfl⟩
    rw [hj] at h
    rw [show k + 1 - l.length = j + 1 by lia]
    match j, h with
    | 0, h => rfl
    | 1, h => cases h
    | j + 2, h => exact text_next ls (fun m hm => hl m (.tail _ hm)) j h
theorem text_join : ∀ ls : List (List Nat), textL ls = gls [13, 10] (ls ++ [[]])
  | [] => rfl
  | l :: ls => by
    have ih := text_join ls
    have e : textL (l :: ls) = l ++ 13 :: 10 :: textL ls := by simp [textL]
    rw [e, ih]
    cases ls with
    | nil => exact rfl
    | cons m ms => exact rfl
theorem split_text {x : Str} {ls : List Str} (hx : x.cps.toList = textL (ls.map (·.cps.toList))) (h : ∀ l ∈ ls, 13 ∉ l.cps.toList) : Txt.split x "\r\n" = ls ++ [⟨#[]⟩] := by
  have hj : x = Str.join "\r\n" (ls ++ [⟨#[]⟩]) := by
    apply str_inj
    rw [join_gls, crlf_list, hx, text_join, List.map_append]
    rfl
  have hq : ∀ p ∈ Txt.split x "\r\n", 13 ∉ p.cps.toList := by
    refine split_freeH x "\r\n" 13 (by decide +kernel) crlf_kind fun k hA => ?_
    have h1 := (subAt_one x 13 k).mp hA
    rw [hx] at h1
    have h2 := text_next _ (fun l hl => by
      obtain ⟨m, hm, rfl⟩ := List.mem_map.mp hl
      exact h m hm) k h1
    rw [← hx] at h1 h2
    obtain ⟨b1, e1⟩ := List.getElem?_eq_some_iff.mp h1
    obtain ⟨b2, e2⟩ := List.getElem?_eq_some_iff.mp h2
    refine ⟨?_, ?_⟩
    · show k + 2 ≤ x.length
      rw [str_len] at b2
      assumption
    · rw [subAt_eq, crlf_list, beq_iff_eq]
      show (x.cps.toList.drop k).take 2 = _
      rw [List.drop_eq_getElem_cons b1, List.drop_eq_getElem_cons b2, e1, e2]
      rfl
  rw [hj] at hq ⊢
  exact split_of_parts crlf_list (by exact List.append_ne_nil_of_right_ne_nil _ (List.cons_ne_nil _ _)) (fun p hp => by
    rcases List.mem_append.mp hp with hp | hp
    · exact h p hp
    · rw [List.mem_singleton.mp hp]; simp) hq
end Mine
end
noncomputable section
open PySem PySem.StrLaws Builtin Builtin.Str
namespace Mine
def GoodR (q : Nat × Nat) : Prop := 2 ≤ q.1 ∧ q.1 ≤ 8 ∧ q.2 < 6
def lineS (q : Nat × Nat) : Str := ⟨(lineL q).toArray⟩
def lineU (q : Nat × Nat) : List Nat := List.replicate q.1 46 ++ [88, 58, 32, 65 + q.2]
def lineUS (q : Nat × Nat) : Str := ⟨(lineU (q.1 + 1, q.2)).toArray⟩
def nmS (d : Nat) : Str := ⟨(List.replicate d 46 ++ [120]).toArray⟩
def nmU (d : Nat) : Str := ⟨(List.replicate d 46 ++ [88]).toArray⟩
def upS (a : Nat) : Str := ⟨#[65 + a]⟩
theorem sent_text (rows : List (Nat × Nat)) : sentL rows = textL (rows.map lineL) := by
  unfold sentL textL
  rw [List.map_map]
  rfl
theorem up_signs : ([46, 120, 58, 32, 13, 10, 97, 98, 99, 100, 101, 102].all fun c => Unicode.upperOf c == [if 97 ≤ c then c - 32 else c]) = true := by decide +kernel
theorem up_sign {c : Nat} (h : c ∈ [46, 120, 58, 32, 13, 10, 97, 98, 99, 100, 101, 102]) : Unicode.upperOf c = [if 97 ≤ c then c - 32 else c] := by
  have := List.all_eq_true.mp up_signs c h
  exact eq_of_beq this
theorem flatMap_rep (g : Nat → List Nat) (c : Nat) (h : g c = [c]) : ∀ n, (List.replicate n c).flatMap g = List.replicate n c
  | 0 => rfl
  | n + 1 => by
    rw [List.replicate_succ, List.flatMap_cons, flatMap_rep g c h n, h]
    rfl
theorem up_line {q : Nat × Nat} (hq : q.2 < 6) : (lineL q ++ [13, 10]).flatMap Unicode.upperOf = lineU q ++ [13, 10] := by
  unfold lineL lineU
  rw [List.flatMap_append, List.flatMap_append, flatMap_rep _ 46 (up_sign (by exact m1))]
  have h97 : Unicode.upperOf (97 + q.2) = [65 + q.2] := by
    rw [up_sign (by
      have : q.2 = 0 ∨ q.2 = 1 ∨ q.2 = 2 ∨ q.2 = 3 ∨ q.2 = 4 ∨ q.2 = 5 := by lia
      rcases this with h | h | h | h | h | h <;> rw [h] <;> simp), if_pos (by exact Nat.le_add_right _ _)]
    congr 1
    lia
  have e : ([120, 58, 32, 97 + q.2] : List Nat).flatMap Unicode.upperOf = [88, 58, 32, 65 + q.2] := by
    rw [List.flatMap_cons, List.flatMap_cons, List.flatMap_cons, List.flatMap_cons, h97, up_sign (by exact m2), up_sign (by exact m3), up_sign (by exact m4)]
    rfl
  have e2 : ([13, 10] : List Nat).flatMap Unicode.upperOf = [13, 10] := by
    rw [List.flatMap_cons, List.flatMap_cons, up_sign (by exact m5), up_sign (by exact (mS m5))]
    rfl
  rw [e, e2]
theorem up_text : ∀ rows : List (Nat × Nat), (∀ q ∈ rows, q.2 < 6) → (sentL rows).flatMap Unicode.upperOf = textL (rows.map lineU)
  | [], _ => rfl
  | q :: rows, h => by
    have ih := up_text rows fun r hr => h r (.tail _ hr)
    have e : sentL (q :: rows) = (lineL q ++ [13, 10]) ++ sentL rows := by exact rfl
    have e' : textL ((q :: rows).map lineU) = (lineU q ++ [13, 10]) ++ textL (rows.map lineU) := by exact rfl
    rw [e, e', List.flatMap_append, up_line (h q (.head _)), ih]
theorem upper_list {sent : Str} {rows : List (Nat × Nat)} (hs : sent.cps.toList = sentL rows) (h : ∀ q ∈ rows, q.2 < 6) : (Txt.upper sent).cps.toList = textL (rows.map lineU) := by
  unfold Txt.upper
  rw [placed_list sent _ Unicode.upperOf fun i c _ => rfl, hs, up_text rows h]
theorem lineL_free {q : Nat × Nat} {c : Nat} (h : c ∈ lineL q) : c = 46 ∨ c = 120 ∨ c = 58 ∨ c = 32 ∨ c = 97 + q.2 := by
  unfold lineL at h
  rcases List.mem_append.mp h with h | h
  · exact .inl (List.eq_of_mem_replicate h)
  · simpa using Or.inr h
theorem lineU_free {q : Nat × Nat} {c : Nat} (h : c ∈ lineU q) : c = 46 ∨ c = 88 ∨ c = 58 ∨ c = 32 ∨ c = 65 + q.2 := by
  unfold lineU at h
  rcases List.mem_append.mp h with h | h
  · exact .inl (List.eq_of_mem_replicate h)
  · simpa using Or.inr h
theorem quote_upper {sent : Str} {rows : List (Nat × Nat)} (hs : sent.cps.toList = sentL rows) (h : ∀ q ∈ rows, GoodR q) : (quoteF (Txt.upper sent)).cps.toList = textL (rows.map fun q => lineU (q.1 + 1, q.2)) := by
  have h1 := upper_list hs fun q hq => (h q hq).2.2
  have e1 : ∀ q ∈ rows, lineU q = 46 :: lineU (q.1 - 1, q.2) := fun q hq => by
    have := (h q hq).1
    unfold lineU
    obtain ⟨k, hk⟩ : ∃ k, q.1 = k + 1 := ⟨q.1 - 1, by lia⟩
    rw [hk]
    rfl
  have e2 : rows.map lineU = (rows.map fun q => lineU (q.1 - 1, q.2)).map (46 :: ·) := by
    rw [List.map_map]
    exact List.map_congr_left e1
  rw [e2] at h1
  rw [quoteF_text h1 fun l hl => ?_]
  · rw [List.map_map]
    congr 1
    refine List.map_congr_left fun q hq => ?_
    show 46 :: 46 :: lineU (q.1 - 1, q.2) = _
    rw [← e1 q hq]
    rfl
  · obtain ⟨q, hq, rfl⟩ := List.mem_map.mp hl
    have := (h q hq).2.2
    exact ⟨fun hm => by rcases lineU_free hm with h | h | h | h | h <;> lia, fun hm => by rcases lineU_free hm with h | h | h | h | h <;> lia⟩
theorem rows_split {sent : Str} {rows : List (Nat × Nat)} (hs : sent.cps.toList = sentL rows) (h : ∀ q ∈ rows, GoodR q) : Txt.split sent "\r\n" = rows.map lineS ++ [⟨#[]⟩] := by
  refine split_text (by rw [hs, sent_text, List.map_map]; rfl) fun l hl hm => ?_
  obtain ⟨q, hq, rfl⟩ := List.mem_map.mp hl
  have := (h q hq).2.2
  rcases lineL_free (q := q) hm with h | h | h | h | h <;> lia
theorem agains_split {sent : Str} {rows : List (Nat × Nat)} (hs : sent.cps.toList = sentL rows) (h : ∀ q ∈ rows, GoodR q) : levAgains sent = rows.map lineUS ++ [⟨#[]⟩] := by
  unfold levAgains
  refine split_text (by rw [quote_upper hs h, List.map_map]; rfl) fun l hl hm => ?_
  obtain ⟨q, hq, rfl⟩ := List.mem_map.mp hl
  have := (h q hq).2.2
  rcases lineU_free (q := (q.1 + 1, q.2)) hm with h | h | h | h | h <;> lia
theorem rows_lev {sent : Str} {rows : List (Nat × Nat)} (hs : sent.cps.toList = sentL rows) (h : ∀ q ∈ rows, GoodR q) : levRows sent = rows.map lineS := by
  unfold levRows
  rw [rows_split hs h]
  simp
theorem zip_rows : ∀ rows : List (Nat × Nat), (rows.map lineS).zip (rows.map lineUS ++ [⟨#[]⟩]) = rows.map fun q => (lineS q, lineUS q)
  | [] => rfl
  | q :: rows => by
    show (lineS q, lineUS q) :: (rows.map lineS).zip (rows.map lineUS ++ [⟨#[]⟩]) = _
    rw [zip_rows rows]
    rfl
def same2 (p q : Str × Str) : Bool := p.1.cps.toList == q.1.cps.toList && p.2.cps.toList == q.2.cps.toList
theorem same2_eq {p q : Str × Str} (h : same2 p q = true) : p = q := by
  unfold same2 at h
  rw [Bool.and_eq_true] at h
  exact Prod.ext (str_inj (eq_of_beq h.1)) (str_inj (eq_of_beq h.2))
theorem part_lines : ∀ d, d < 9 → ∀ a, a < 6 → same2 (partP (lineS (d, a)) ": ") (nmS d, letS a) = true ∧ same2 (partP (lineUS (d, a)) ": ") (nmU (d + 1), upS a) = true := by decide +kernel
theorem pairs_rows : ∀ rows : List (Nat × Nat), (∀ q ∈ rows, GoodR q) → pairsF (rows.map fun q => (lineS q, lineUS q)) = rows.flatMap fun q => [(nmS q.1, letS q.2), (nmU (q.1 + 1), upS q.2)]
  | [], _ => rfl
  | q :: rows, h => by
    have hq := h q (.head _)
    have ih := pairs_rows rows fun r hr => h r (.tail _ hr)
    obtain ⟨p1, p2⟩ := part_lines q.1 (by have := hq.2.1; exact Nat.lt_succ_of_le this) q.2 hq.2.2
    show partP (lineS q) ": " :: partP (lineUS q) ": " :: pairsF (rows.map fun q => (lineS q, lineUS q)) = _
    rw [ih, List.flatMap_cons, ← same2_eq p1, ← same2_eq p2]
    rfl
theorem pairs_lev {sent : Str} {rows : List (Nat × Nat)} (hs : sent.cps.toList = sentL rows) (h : ∀ q ∈ rows, GoodR q) : levPairs sent = rows.flatMap fun q => [(nmS q.1, letS q.2), (nmU (q.1 + 1), upS q.2)] := by
  unfold levPairs
  rw [rows_lev hs h, agains_split hs h, zip_rows, pairs_rows rows h]
end Mine
end
noncomputable section
open PySem PySem.StrLaws Builtin Builtin.Str
namespace Mine
theorem low_names : ∀ d, d < 10 → (Txt.lower (nmS d)).cps.toList = (nmS d).cps.toList ∧ (Txt.lower (nmU d)).cps.toList = (nmS d).cps.toList := by decide +kernel
theorem low_dots : ∀ i, i < 8 → (Txt.lower (repS "." (i + 2) ++ "x")).cps.toList = (nmS (i + 2)).cps.toList := by decide +kernel
theorem nm_eq {d e : Nat} : (nmS d == nmS e) = decide (d = e) := by
  by_cases h : d = e
  · subst h
    rw [decide_eq_true rfl]
    exact beq_self_eq_true _
  · rw [decide_eq_false h, beq_eq_false_iff_ne]
    intro q
    have := congrArg (fun z : Str => z.cps.toList.length) q
    simp [nmS] at this
    exact h this
theorem get_rows {i : Nat} (hi : i < 8) : ∀ rows : List (Nat × Nat), (∀ q ∈ rows, GoodR q) → getAllF (rows.flatMap fun q => [(nmS q.1, letS q.2), (nmU (q.1 + 1), upS q.2)]) (repS "." (i + 2) ++ "x") = rows.flatMap fun q => (if q.1 = i + 2 then [letS q.2] else []) ++ (if q.1 + 1 = i + 2 then [upS q.2] else [])
  | [], _ => rfl
  | q :: rows, h => by
    have ih := get_rows hi rows fun r hr => h r (.tail _ hr)
    have hq := h q (.head _)
    have hl : Txt.lower (repS "." (i + 2) ++ "x") = nmS (i + 2) := str_inj (low_dots i hi)
    have l1 : Txt.lower (nmS q.1) = nmS q.1 := str_inj (low_names q.1 (by have := hq.2.1; exact Nat.lt_of_le_of_lt (by assumption) (by decide))).1
    have l2 : Txt.lower (nmU (q.1 + 1)) = nmS (q.1 + 1) := str_inj (low_names (q.1 + 1) (by have := hq.2.1; lia)).2
    unfold getAllF at ih ⊢
    rw [hl] at ih ⊢
    rw [List.flatMap_cons, List.flatMap_cons, List.filter_append, List.map_append, ih]
    congr 1
    rw [List.filter_cons, List.filter_cons, List.filter_nil]
    dsimp only
    rw [l1, l2, nm_eq, nm_eq]
    by_cases h1 : q.1 = i + 2
    · have h2 : ¬ q.1 + 1 = i + 2 := by lia
      rw [decide_eq_true h1, decide_eq_false h2, if_pos h1, if_neg h2]
      rfl
    · by_cases h2 : q.1 + 1 = i + 2
      · rw [decide_eq_false h1, decide_eq_true h2, if_neg h1, if_pos h2]
        rfl
      · rw [decide_eq_false h1, decide_eq_false h2, if_neg h1, if_neg h2]
        rfl
theorem letters_rows (d : Nat) : ∀ rows : List (Nat × Nat), (((rows.flatMap fun q => (if q.1 = d then [letS q.2] else []) ++ (if q.1 + 1 = d then [upS q.2] else [])).map (·.cps.toList)).flatten) = lettersAt rows d
  | [] => rfl
  | q :: rows => by
    have ih := letters_rows d rows
    unfold lettersAt at ih ⊢
    rw [List.flatMap_cons, List.map_append, List.flatten_append, ih, List.map_cons, List.flatten_cons]
    congr 1
    by_cases h1 : q.1 = d <;> by_cases h2 : q.1 + 1 = d <;> simp [h1, h2, letS, upS]
theorem text_len (B : Nat) : ∀ ls : List (List Nat), (∀ l ∈ ls, l.length + 2 ≤ B) → (textL ls).length ≤ ls.length * B
  | [], _ => by simp [textL]
  | l :: ls, h => by
    have h1 := h l (.head _)
    have h2 := text_len B ls fun m hm => h m (.tail _ hm)
    have e : textL (l :: ls) = (l ++ [13, 10]) ++ textL ls := by exact rfl
    have e2 : (l :: ls).length * B = ls.length * B + B := Nat.succ_mul _ _
    rw [e, List.length_append, List.length_append, e2]
    show l.length + 2 + _ ≤ _
    lia
theorem x_lines : ∀ d, d < 9 → ∀ a, a < 6 → (occurrences (lineS (d, a)) "x" 0 (lineS (d, a)).length 1).head? = some d := by decide +kernel
section
variable {sent : Str} {rows : List (Nat × Nat)} (hs : sent.cps.toList = sentL rows) (h : ∀ q ∈ rows, GoodR q) (h6 : rows.length = 6)
include hs h h6
theorem sent_len : sent.length ≤ 120 := by
  rw [← str_len, hs, sent_text]
  have := text_len 20 (rows.map lineL) fun l hl => by
    obtain ⟨q, hq, rfl⟩ := List.mem_map.mp hl
    have := (h q hq).2.1
    simp [lineL]; exact Nat.le_trans (by assumption) (by decide)
  rw [List.length_map, h6] at this
  exact this
theorem sentOk : SentOk sent := by
  refine ⟨Nat.le_trans (sent_len hs h h6) (by decide), ?_, ?_, fun row hr => ?_⟩
  · rw [rows_split hs h]; simp
  · rw [rows_lev hs h, List.length_map, h6]; decide
  · rw [rows_lev hs h] at hr
    obtain ⟨q, hq, rfl⟩ := List.mem_map.mp hr
    have := x_lines q.1 (by have := (h q hq).2.1; exact Nat.lt_succ_of_le this) q.2 (h q hq).2.2
    intro e
    rw [show (q.1, q.2) = q from rfl, e] at this
    cases this
theorem depths_rows : depthsF sent = rows.map fun q => (q.1 : Int) - 2 := by
  unfold depthsF
  rw [rows_lev hs h, List.map_map]
  refine List.map_congr_left fun q hq => ?_
  have := x_lines q.1 (by have := (h q hq).2.1; exact Nat.lt_succ_of_le this) q.2 (h q hq).2.2
  rw [show (q.1, q.2) = q from rfl] at this
  show (xAt (lineS q) : Int) - 2 = _
  unfold xAt
  rw [List.headD_eq_head?_getD, this]
  rfl
theorem levOk : LevOk sent := by
  have hu := upper_list hs fun q hq => (h q hq).2.2
  have hq := quote_upper hs h
  have mem : ∀ p ∈ levPairs sent, ∃ q ∈ rows, p = (nmS q.1, letS q.2) ∨ p = (nmU (q.1 + 1), upS q.2) := fun p hp => by
    rw [pairs_lev hs h] at hp
    obtain ⟨q, hq, hp⟩ := List.mem_flatMap.mp hp
    refine ⟨q, hq, ?_⟩
    rcases List.mem_cons.mp hp with e | hp
    · exact .inl e
    · exact .inr (List.mem_singleton.mp hp)
  refine ⟨Nat.le_trans (sent_len hs h h6) (by decide), ?_, ?_, fun x hx => ?_, fun x hx => ?_, ?_, fun p hp => ?_, fun p hp => ?_, ?_⟩
  · rw [← str_len, hu]
    have := text_len 20 (rows.map lineU) fun l hl => by
      obtain ⟨q, hq, rfl⟩ := List.mem_map.mp hl
      have := (h q hq).2.1
      simp [lineU]; exact Nat.le_trans (by assumption) (by decide)
    rw [List.length_map, h6] at this
    exact Nat.le_trans (by assumption) (by decide)
  · rw [← str_len, hq]
    have := text_len 20 (rows.map fun q => lineU (q.1 + 1, q.2)) fun l hl => by
      obtain ⟨q, hq, rfl⟩ := List.mem_map.mp hl
      have := (h q hq).2.1
      simp [lineU]; exact Nat.le_trans (by assumption) (by decide)
    rw [List.length_map, h6] at this
    exact Nat.le_trans (by assumption) (by decide)
  · rw [rows_lev hs h] at hx
    obtain ⟨q, hq, rfl⟩ := List.mem_map.mp hx
    have := (h q hq).2.1
    rw [← str_len]
    simp [lineS, lineL]; exact Nat.le_trans (by assumption) (by decide)
  · rw [agains_split hs h] at hx
    rcases List.mem_append.mp hx with hx | hx
    · obtain ⟨q, hq, rfl⟩ := List.mem_map.mp hx
      have := (h q hq).2.1
      rw [← str_len]
      simp [lineUS, lineU]; exact Nat.le_trans (by assumption) (by decide)
    · rw [List.mem_singleton.mp hx]; decide
  · rw [rows_lev hs h, List.length_map, h6]
    omega
  · obtain ⟨q, hq, e⟩ := mem p hp
    have g := h q hq
    have g1 := g.2.1
    have g2 := g.2.2
    rcases e with rfl | rfl
    · refine ⟨⟨fun c hc => ?_, ?_⟩, fun c hc => ?_, ?_⟩
      · rcases List.mem_append.mp (show c ∈ List.replicate q.1 46 ++ [120] from hc) with hc | hc
        · rw [List.eq_of_mem_replicate hc]; decide
        · rw [List.mem_singleton.mp hc]; decide
      · simp [nmS]; omega
      · have : c = 97 + q.2 := List.mem_singleton.mp hc
        omega
      · show 1 ≤ 10000; decide
    · refine ⟨⟨fun c hc => ?_, ?_⟩, fun c hc => ?_, ?_⟩
      · rcases List.mem_append.mp (show c ∈ List.replicate (q.1 + 1) 46 ++ [88] from hc) with hc | hc
        · rw [List.eq_of_mem_replicate hc]; decide
        · rw [List.mem_singleton.mp hc]; decide
      · simp [nmU]; omega
      · have : c = 65 + q.2 := List.mem_singleton.mp hc
        omega
      · show 1 ≤ 10000; decide
  · obtain ⟨q, hq, e⟩ := mem p hp
    have g := h q hq
    have g1 := g.2.1
    rcases e with rfl | rfl
    · rw [← str_len, (low_names q.1 (by omega)).1]
      simp [nmS]; omega
    · rw [← str_len, (low_names (q.1 + 1) (by omega)).2]
      simp [nmS]; omega
  · rw [rows_split hs h]; simp
theorem levels_eq {told : List Str} (hd : ((List.range 8).map fun i => lettersAt rows (i + 2)) = told.map (·.cps.toList)) : ((List.range 8).map fun i => Str.join "" (getAllF (levPairs sent) (repS "." (i + 2) ++ "x"))) = told := by
  apply map_inj
  rw [← hd, List.map_map]
  refine List.map_congr_left fun i hi => ?_
  have hi8 := List.mem_range.mp hi
  show (Str.join "" _).cps.toList = _
  rw [pairs_lev hs h, get_rows hi8 rows h, join_cps _ empty_cps, letters_rows]
end
end Mine
end
noncomputable section
open PySem
namespace Mine
def checkAll (E : List Nat) : Bool := checkA E && (checkB E && (checkC E && (checkD E && checkE E)))
def grp (e0 e1 e2 : Nat) : List (List Nat) := (List.range' (max e2 4) (7 - max e2 4)).flatMap fun e3 => (List.range' (max e3 5) (7 - max e3 5)).map fun e4 => [e0, e1, e2, e3, e4, 6]
theorem ck123 : (grp 1 2 3).all checkAll = true := by decide +kernel
theorem ck124 : (grp 1 2 4).all checkAll = true := by decide +kernel
theorem ck125 : (grp 1 2 5).all checkAll = true := by decide +kernel
theorem ck126 : (grp 1 2 6).all checkAll = true := by decide +kernel
theorem ck133 : (grp 1 3 3).all checkAll = true := by decide +kernel
theorem ck134 : (grp 1 3 4).all checkAll = true := by decide +kernel
theorem ck135 : (grp 1 3 5).all checkAll = true := by decide +kernel
theorem ck136 : (grp 1 3 6).all checkAll = true := by decide +kernel
theorem ck144 : (grp 1 4 4).all checkAll = true := by decide +kernel
theorem ck145 : (grp 1 4 5).all checkAll = true := by decide +kernel
theorem ck146 : (grp 1 4 6).all checkAll = true := by decide +kernel
theorem ck155 : (grp 1 5 5).all checkAll = true := by decide +kernel
theorem ck156 : (grp 1 5 6).all checkAll = true := by decide +kernel
theorem ck166 : (grp 1 6 6).all checkAll = true := by decide +kernel
theorem ck223 : (grp 2 2 3).all checkAll = true := by decide +kernel
theorem ck224 : (grp 2 2 4).all checkAll = true := by decide +kernel
theorem ck225 : (grp 2 2 5).all checkAll = true := by decide +kernel
theorem ck226 : (grp 2 2 6).all checkAll = true := by decide +kernel
theorem ck233 : (grp 2 3 3).all checkAll = true := by decide +kernel
theorem ck234 : (grp 2 3 4).all checkAll = true := by decide +kernel
theorem ck235 : (grp 2 3 5).all checkAll = true := by decide +kernel
theorem ck236 : (grp 2 3 6).all checkAll = true := by decide +kernel
theorem ck244 : (grp 2 4 4).all checkAll = true := by decide +kernel
theorem ck245 : (grp 2 4 5).all checkAll = true := by decide +kernel
theorem ck246 : (grp 2 4 6).all checkAll = true := by decide +kernel
theorem ck255 : (grp 2 5 5).all checkAll = true := by decide +kernel
theorem ck256 : (grp 2 5 6).all checkAll = true := by decide +kernel
theorem ck266 : (grp 2 6 6).all checkAll = true := by decide +kernel
theorem ck333 : (grp 3 3 3).all checkAll = true := by decide +kernel
theorem ck334 : (grp 3 3 4).all checkAll = true := by decide +kernel
theorem ck335 : (grp 3 3 5).all checkAll = true := by decide +kernel
theorem ck336 : (grp 3 3 6).all checkAll = true := by decide +kernel
theorem ck344 : (grp 3 4 4).all checkAll = true := by decide +kernel
theorem ck345 : (grp 3 4 5).all checkAll = true := by decide +kernel
theorem ck346 : (grp 3 4 6).all checkAll = true := by decide +kernel
theorem ck355 : (grp 3 5 5).all checkAll = true := by decide +kernel
theorem ck356 : (grp 3 5 6).all checkAll = true := by decide +kernel
theorem ck366 : (grp 3 6 6).all checkAll = true := by decide +kernel
theorem ck444 : (grp 4 4 4).all checkAll = true := by decide +kernel
theorem ck445 : (grp 4 4 5).all checkAll = true := by decide +kernel
theorem ck446 : (grp 4 4 6).all checkAll = true := by decide +kernel
theorem ck455 : (grp 4 5 5).all checkAll = true := by decide +kernel
theorem ck456 : (grp 4 5 6).all checkAll = true := by decide +kernel
theorem ck466 : (grp 4 6 6).all checkAll = true := by decide +kernel
theorem ck555 : (grp 5 5 5).all checkAll = true := by decide +kernel
theorem ck556 : (grp 5 5 6).all checkAll = true := by decide +kernel
theorem ck566 : (grp 5 6 6).all checkAll = true := by decide +kernel
theorem ck666 : (grp 6 6 6).all checkAll = true := by decide +kernel
def trips : List (Nat × Nat × Nat) := [(1, 2, 3), (1, 2, 4), (1, 2, 5), (1, 2, 6), (1, 3, 3), (1, 3, 4), (1, 3, 5), (1, 3, 6), (1, 4, 4), (1, 4, 5), (1, 4, 6), (1, 5, 5), (1, 5, 6), (1, 6, 6), (2, 2, 3), (2, 2, 4), (2, 2, 5), (2, 2, 6), (2, 3, 3), (2, 3, 4), (2, 3, 5), (2, 3, 6), (2, 4, 4), (2, 4, 5), (2, 4, 6), (2, 5, 5), (2, 5, 6), (2, 6, 6), (3, 3, 3), (3, 3, 4), (3, 3, 5), (3, 3, 6), (3, 4, 4), (3, 4, 5), (3, 4, 6), (3, 5, 5), (3, 5, 6), (3, 6, 6), (4, 4, 4), (4, 4, 5), (4, 4, 6), (4, 5, 5), (4, 5, 6), (4, 6, 6), (5, 5, 5), (5, 5, 6), (5, 6, 6), (6, 6, 6)]
theorem trips_ok : ∀ t ∈ trips, (grp t.1 t.2.1 t.2.2).all checkAll = true := List.forall_mem_cons.mpr ⟨ck123, List.forall_mem_cons.mpr ⟨ck124, List.forall_mem_cons.mpr ⟨ck125, List.forall_mem_cons.mpr ⟨ck126, List.forall_mem_cons.mpr ⟨ck133, List.forall_mem_cons.mpr ⟨ck134, List.forall_mem_cons.mpr ⟨ck135, List.forall_mem_cons.mpr ⟨ck136, List.forall_mem_cons.mpr ⟨ck144, List.forall_mem_cons.mpr ⟨ck145, List.forall_mem_cons.mpr ⟨ck146, List.forall_mem_cons.mpr ⟨ck155, List.forall_mem_cons.mpr ⟨ck156, List.forall_mem_cons.mpr ⟨ck166, List.forall_mem_cons.mpr ⟨ck223, List.forall_mem_cons.mpr ⟨ck224, List.forall_mem_cons.mpr ⟨ck225, List.forall_mem_cons.mpr ⟨ck226, List.forall_mem_cons.mpr ⟨ck233, List.forall_mem_cons.mpr ⟨ck234, List.forall_mem_cons.mpr ⟨ck235, List.forall_mem_cons.mpr ⟨ck236, List.forall_mem_cons.mpr ⟨ck244, List.forall_mem_cons.mpr ⟨ck245, List.forall_mem_cons.mpr ⟨ck246, List.forall_mem_cons.mpr ⟨ck255, List.forall_mem_cons.mpr ⟨ck256, List.forall_mem_cons.mpr ⟨ck266, List.forall_mem_cons.mpr ⟨ck333, List.forall_mem_cons.mpr ⟨ck334, List.forall_mem_cons.mpr ⟨ck335, List.forall_mem_cons.mpr ⟨ck336, List.forall_mem_cons.mpr ⟨ck344, List.forall_mem_cons.mpr ⟨ck345, List.forall_mem_cons.mpr ⟨ck346, List.forall_mem_cons.mpr ⟨ck355, List.forall_mem_cons.mpr ⟨ck356, List.forall_mem_cons.mpr ⟨ck366, List.forall_mem_cons.mpr ⟨ck444, List.forall_mem_cons.mpr ⟨ck445, List.forall_mem_cons.mpr ⟨ck446, List.forall_mem_cons.mpr ⟨ck455, List.forall_mem_cons.mpr ⟨ck456, List.forall_mem_cons.mpr ⟨ck466, List.forall_mem_cons.mpr ⟨ck555, List.forall_mem_cons.mpr ⟨ck556, List.forall_mem_cons.mpr ⟨ck566, List.forall_mem_cons.mpr ⟨ck666, List.forall_mem_nil _⟩⟩⟩⟩⟩⟩⟩⟩⟩⟩⟩⟩⟩⟩⟩⟩⟩⟩⟩⟩⟩⟩⟩⟩⟩⟩⟩⟩⟩⟩⟩⟩⟩⟩⟩⟩⟩⟩⟩⟩⟩⟩⟩⟩⟩⟩⟩⟩
theorem trips_all : ((List.range 7).all fun a => (List.range 7).all fun b => (List.range 7).all fun c => !(decide (1 ≤ a) && (decide (2 ≤ b) && (decide (3 ≤ c) && (decide (a ≤ b) && decide (b ≤ c))))) || trips.elem (a, b, c)) = true := by decide +kernel
theorem trips_mem (a : Nat) (ha : a < 7) (b : Nat) (hb : b < 7) (c : Nat) (hc : c < 7) (h : 1 ≤ a ∧ 2 ≤ b ∧ 3 ≤ c ∧ a ≤ b ∧ b ≤ c) : (a, b, c) ∈ trips := by
  have := List.all_eq_true.mp (List.all_eq_true.mp (List.all_eq_true.mp trips_all a (List.mem_range.mpr ha)) b (List.mem_range.mpr hb)) c (List.mem_range.mpr hc)
  rw [decide_eq_true h.1, decide_eq_true h.2.1, decide_eq_true h.2.2.1, decide_eq_true h.2.2.2.1, decide_eq_true h.2.2.2.2] at this
  exact List.elem_iff.mp this
theorem grp_ok {a b c : Nat} (h1 : 1 ≤ a) (h2 : 2 ≤ b) (h3 : 3 ≤ c) (ab : a ≤ b) (bc : b ≤ c) (hc : c ≤ 6) : (grp a b c).all checkAll = true :=
  trips_ok (a, b, c) (trips_mem a (Nat.lt_succ_of_le (Nat.le_trans ab (Nat.le_trans bc hc))) b (Nat.lt_succ_of_le (Nat.le_trans bc hc)) c (Nat.lt_succ_of_le hc) ⟨h1, h2, h3, ab, bc⟩)
theorem in_rng {c d k : Nat} (h : k ≤ d) (cd : c ≤ d) (hd : d ≤ 6) (hk : k ≤ 6) : d ∈ List.range' (max c k) (7 - max c k) := List.mem_range'_1.mpr (by clear hk; omega)
theorem vec_ok {a b c d e : Nat} (h1 : 1 ≤ a) (h2 : 2 ≤ b) (h3 : 3 ≤ c) (h4 : 4 ≤ d) (h5 : 5 ≤ e) (ab : a ≤ b) (bc : b ≤ c) (cd : c ≤ d) (de : d ≤ e) (he : e ≤ 6) : checkAll [a, b, c, d, e, 6] = true := by
  refine List.all_eq_true.mp (grp_ok h1 h2 h3 ab bc (Nat.le_trans cd (Nat.le_trans de he))) _ ?_
  unfold grp
  refine List.mem_flatMap.mpr ⟨d, in_rng h4 cd (Nat.le_trans de he) (by decide), List.mem_map.mpr ⟨e, in_rng h5 de he (by decide), rfl⟩⟩
end Mine
end
noncomputable section
open PySem PySem.StrLaws
namespace Mine
theorem vecE_list (sizes : List Int) (W : Int) : vecE sizes W = [eAt sizes W 0, eAt sizes W 1, eAt sizes W 2, eAt sizes W 3, eAt sizes W 4, eAt sizes W 5] := rfl
theorem vec_check {sizes : List Int} {W : Int} (hn : sizes.length = 6) (hz : ∀ x ∈ sizes, 1 ≤ x ∧ x ≤ 6) : checkAll (vecE sizes W) = true := by
  have e5 : eAt sizes W 5 = 6 := by
    have h1 := eAt_lo sizes W 5
    have h2 := eAt_hi (W := W) hn (a := 5) (by decide)
    exact Nat.le_antisymm h2 h1
  rw [vecE_list, e5]
  exact vec_ok (eAt_lo _ _ 0) (eAt_lo _ _ 1) (eAt_lo _ _ 2) (eAt_lo _ _ 3) (eAt_lo _ _ 4) (eAt_mono hn hz (a := 0) (by decide)) (eAt_mono hn hz (a := 1) (by decide)) (eAt_mono hn hz (a := 2) (by decide)) (eAt_mono hn hz (a := 3) (by decide)) (eAt_hi hn (by decide))
theorem plain_ok {sizes : List Int} {W : Int} (hn : sizes.length = 6) (hz : ∀ x ∈ sizes, 1 ≤ x ∧ x ≤ 6) (hw : 5 ≤ W) : PlainOk sizes W := by
  have hf := fits_fE hn hz hw
  have hc := vec_check (W := W) hn hz
  obtain ⟨E, hE⟩ : ∃ E, E = vecE sizes W := ⟨_, rfl⟩
  rw [← hE] at hf hc
  have he : endsF W (wordsF sizes) = endsE E := by rw [endsF_rows hn hz, hf]; rfl
  have ha : aheadF W (wordsF sizes) = aheadE E := by rw [aheadF_rows hn hz, hf]; rfl
  have ht : toldF sizes W = toldG (fE E) := by rw [toldF_G, hf]
  unfold checkAll at hc
  simp only [Bool.and_eq_true] at hc
  obtain ⟨cA, cB, cC, cD, cE⟩ := hc
  have hs : (nestTxt (endsE E)).cps.toList = sentL (rowsS E) := eq_of_beq cB
  unfold checkC at cC
  rw [Bool.and_eq_true, beq_iff_eq] at cC
  obtain ⟨c1, h6⟩ := cC
  have hr : ∀ q ∈ rowsS E, GoodR q := fun q hq => by
    have := List.all_eq_true.mp c1 q hq
    rw [Bool.and_eq_true, Bool.and_eq_true, decide_eq_true_eq, decide_eq_true_eq, decide_eq_true_eq] at this
    exact this
  unfold checkD at cD
  unfold checkE at cE
  rw [Bool.and_eq_true, beq_iff_eq, beq_iff_eq] at cE
  have hd := depths_rows hs hr h6
  refine ⟨hn, hz, foldsOk hn hz, wordsF_good hn hz, ?_, ?_, ?_, ?_, ?_, ?_⟩
  · rw [he]; exact cA
  · rw [he]; exact sentOk hs hr h6
  · rw [he]; exact levOk hs hr h6
  · rw [he, ht]
    exact levels_eq hs hr h6 (eq_of_beq cD)
  · rw [he, ha, hd]; exact cE.1
  · rw [he, hd, List.length_map, h6]; exact cE.2
theorem sizesF_ok (ns : List Int) : ∀ x ∈ sizesF ns, 1 ≤ x ∧ x ≤ 6 := fun x hx => by
  unfold sizesF at hx
  obtain ⟨c, _, rfl⟩ := List.mem_map.mp hx
  rw [Int.fmod_eq_emod_of_nonneg _ (by decide)]
  lia
theorem widthF_ok (ns : List Int) : 5 ≤ widthF ns := by
  unfold widthF
  rw [Int.fmod_eq_emod_of_nonneg _ (by decide)]
  lia
theorem law_plain (ns : List Int) : PlainOk (sizesF ns) (widthF ns) := plain_ok (sizesF_len ns) (sizesF_ok ns) (widthF_ok ns)
end Mine
end
noncomputable section
open PySem PySem.W PySem.Calls PyProof.Rows Builtin Builtin.ObjectAttr Builtin.Str
namespace Mine
def Kf (K : Frag) : Frag := K.filter fun p => !(p.1 == 157 || p.1 == 164)
theorem lookup_filter {K : Frag} {p : Addr → Bool} {a : Addr} : (K.filter fun q => p q.1).lookup a = if p a = true then K.lookup a else none := by
  induction K with
  | nil => simp
  | cons q K ih =>
    obtain ⟨b, o⟩ := q
    by_cases h : p b = true
    · rw [List.filter_cons_of_pos (by exact h), List.lookup_cons, List.lookup_cons, ih]
      by_cases e : a = b
      · subst e
        rw [beq_self_eq_true]
        simp only [h, if_true]
      · rw [beq_eq_false_iff_ne.mpr e]
    · rw [List.filter_cons_of_neg (by exact h), List.lookup_cons, ih]
      by_cases e : a = b
      · subst e
        rw [if_neg h, if_neg h]
      · rw [beq_eq_false_iff_ne.mpr e]
theorem kf_in {K : Frag} {h : Heap} (X : K.In h) : (Kf K).In h := fun a o e => by
  have := lookup_filter (K := K) (p := fun b => !(b == 157 || b == 164)) (a := a)
  unfold Kf at e
  rw [this] at e
  split at e
  · exact X a o e
  · cases e
theorem kf_tab {K : Frag} : ∀ p ∈ ([(161, 157), (168, 164)] : Tabs), (Kf K).lookup p.2 = none := fun p hp => by
  have := lookup_filter (K := K) (p := fun b => !(b == 157 || b == 164)) (a := p.2)
  unfold Kf
  rw [this]
  rcases List.mem_cons.mp hp with rfl | hp
  · rfl
  · rw [List.mem_singleton.mp hp]; rfl
def obK (K : Frag) (a : Addr) : Obj := (K.lookup a).getD default
def fdK (K : Frag) (a : Addr) : FuncData := match (obK K a).data with | .func f => f | _ => default
def cdK (K : Frag) (a : Addr) : ClassData := match (obK K a).data with | .cls c => c | _ => default
def fnK (K : Frag) (a : Addr) (s : Stmt) (qual : Str) (cl : List (Str × Addr)) (dV : Value) (cd : Addr) : Obj :=
  ⟨(obK K a).cls, (obK K a).dict, .func (fnX (fdK K a).name qual (fArgs s) (fBody s) (fScope s) cl dV (fdK K a).kwdefaults (fdK K a).doc (fdK K a).pyModule (fdK K a).annotations (.ref cd) (fdK K a).closureTuple), (obK K a).slots⟩
theorem fnAt_mk {K : Frag} {a : Addr} {s : Stmt} {qual : Str} {cl : List (Str × Addr)} {dV : Value} {cd : Addr} (h : K.lookup a = some (fnK K a s qual cl dV cd)) (hc : codeIn K (.ref cd) qual = true) : FnAt K a s qual cl dV cd := ⟨_, _, _, _, _, _, _, _, _, h, hc⟩
def fldK (K : Frag) (a : Addr) : Array Value := match (obK K a).data with | .fields v => v | _ => #[]
def seqK (K : Frag) (a : Addr) : Array Value := match (obK K a).data with | .seq v _ => v | _ => #[]
def epK (K : Frag) (a : Addr) : Nat := match (obK K a).data with | .seq _ n => n | _ => 0
def tokV (v : Value) : Tok := match v with | .int _ t => t | .str _ t => t | _ => default
def strV (v : Value) : Str := match v with | .str x _ => x | _ => ""
theorem tup_mk {K : Frag} {a : Addr} {its : Array Value} (h : K.lookup a = some ⟨.type "tuple", (obK K a).dict, .seq its (epK K a), (obK K a).slots⟩) : ∃ d n sl, K.lookup a = some ⟨.type "tuple", d, .seq its n, sl⟩ := ⟨_, _, _, h⟩
theorem patK_mk {K : Frag} {pat tb : Addr} {code : Array Nat} (h1 : K.lookup pat = some ⟨.type "re.Pattern", none, .fields (fldK K pat), (obK K pat).slots⟩)
   (h2 : (fldK K pat).getD 6 .none = .int 0 (tokV ((fldK K pat).getD 6 .none))) (h3 : (fldK K pat).getD 2 .none = .int 0 (tokV ((fldK K pat).getD 2 .none))) (h4 : (fldK K pat).getD 5 .none = .ref tb)
   (h5 : K.lookup tb = some ⟨.type "tuple", (obK K tb).dict, .seq (seqK K tb) (epK K tb), (obK K tb).slots⟩) (h6 : (((seqK K tb).map Re.reRawOf).map (·.toNat)) = code) : PatK K pat tb code := ⟨_, _, _, _, _, _, _, _, _, h1, rfl, h2, h3, h4, h5, h6⟩
theorem supFx_mk {K : Frag} {f cda cc C : Addr} (h1 : K.lookup cda = some ⟨(obK K cda).cls, (obK K cda).dict, .fields (fldK K cda), (obK K cda).slots⟩) (h2 : (fldK K cda)[2]? = some (.str (strV ((fldK K cda).getD 2 .none)) (tokV ((fldK K cda).getD 2 .none)))) (h3 : ((PR.main.file : Str) == strV ((fldK K cda).getD 2 .none)) = true)
   (h4 : K.lookup cc = some ⟨(obK K cc).cls, (obK K cc).dict, .cell (some (.ref C)), (obK K cc).slots⟩) (h5 : clsIn K C = some (cdK K C)) (h6 : mroIn K C (.ref C) = some true) (h7 : mroIn K C (.type "list") = some true) (h8 : nsIn K mainGlobals "super" = some none) (h9 : (PR.main.scope.names.lookup ("super" : Str)).isSome = false) (h10 : nsIn K cStatics "thirdparty.any" = some none) : SupFx K PR f cda cc C (cdK K C) :=
  ⟨⟨_, _, _, _, _, _, h1, h2, h3⟩, ⟨_, _, _, h4⟩, h5, h6, h7, h8, h9, h10⟩
end Mine
end
noncomputable section
open PySem PySem.W PySem.Calls PyProof.Rows Builtin Builtin.ObjectAttr Builtin.Str
namespace Mine
def tokG (K : Frag) (n : Str) : Tok := match nsIn K mainGlobals n with | some (some v) => tokV v | _ => default
def bmK (K : Frag) : Addr := match nsIn K mainGlobals "__builtins__" with | some (some (.ref a)) => a | _ => 0
structure Hf (K : Frag) : Prop where
  f358 : K.lookup 358 = some (fnK K 358 (topSt 17) "_law_folded" [] .none 357)
  c358 : codeIn K (.ref 357) "_law_folded" = true
  k358 : keepIn K (.ref 358) = true
  i358 : isFn K (.ref 358) = true
  f385 : K.lookup 385 = some (fnK K 385 (topSt 22) "law" [] .none 384)
  c385 : codeIn K (.ref 384) "law" = true
  k385 : keepIn K (.ref 385) = true
  i385 : isFn K (.ref 385) = true
  f52 : K.lookup 52 = some (fnK K 52 (inCls 5 0) "_ValueFormatter.__init__" [] .none 51)
  c52 : codeIn K (.ref 51) "_ValueFormatter.__init__" = true
  k52 : keepIn K (.ref 52) = true
  i52 : isFn K (.ref 52) = true
  f59 : K.lookup 59 = some (fnK K 59 (inCls 5 1) "_ValueFormatter._str" [] .none 58)
  c59 : codeIn K (.ref 58) "_ValueFormatter._str" = true
  k59 : keepIn K (.ref 59) = true
  i59 : isFn K (.ref 59) = true
  f73 : K.lookup 73 = some (fnK K 73 (inCls 5 3) "_ValueFormatter.newline" [] .none 72)
  c73 : codeIn K (.ref 72) "_ValueFormatter.newline" = true
  k73 : keepIn K (.ref 73) = true
  i73 : isFn K (.ref 73) = true
  f108 : K.lookup 108 = some (fnK K 108 (inCls 5 8) "_ValueFormatter._append_chunk" [] .none 107)
  c108 : codeIn K (.ref 107) "_ValueFormatter._append_chunk" = true
  k108 : keepIn K (.ref 108) = true
  i108 : isFn K (.ref 108) = true
  f132 : K.lookup 132 = some (fnK K 132 (inCls 6 0) "_Accumulator.__init__" [("__class__", 119)] (.ref 124) 131)
  c132 : codeIn K (.ref 131) "_Accumulator.__init__" = true
  k132 : keepIn K (.ref 132) = true
  i132 : isFn K (.ref 132) = true
  f139 : K.lookup 139 = some (fnK K 139 (inCls 6 1) "_Accumulator.push" [] .none 138)
  c139 : codeIn K (.ref 138) "_Accumulator.push" = true
  k139 : keepIn K (.ref 139) = true
  i139 : isFn K (.ref 139) = true
  f147 : K.lookup 147 = some (fnK K 147 (inCls 6 2) "_Accumulator.pop_from" [] (.ref 140) 146)
  c147 : codeIn K (.ref 146) "_Accumulator.pop_from" = true
  k147 : keepIn K (.ref 147) = true
  i147 : isFn K (.ref 147) = true
  f155 : K.lookup 155 = some (fnK K 155 (inCls 6 3) "_Accumulator.pop" [("__class__", 119)] .none 154)
  c155 : codeIn K (.ref 154) "_Accumulator.pop" = true
  k155 : keepIn K (.ref 155) = true
  i155 : isFn K (.ref 155) = true
  f162 : K.lookup 162 = some (fnK K 162 (inCls 6 4) "_Accumulator.__len__" [] .none 161)
  c162 : codeIn K (.ref 161) "_Accumulator.__len__" = true
  k162 : keepIn K (.ref 162) = true
  i162 : isFn K (.ref 162) = true
  f169 : K.lookup 169 = some (fnK K 169 (inCls 6 5) "_Accumulator.__str__" [] .none 168)
  c169 : codeIn K (.ref 168) "_Accumulator.__str__" = true
  k169 : keepIn K (.ref 169) = true
  i169 : isFn K (.ref 169) = true
  f177 : K.lookup 177 = some (fnK K 177 (inCls 6 6) "_Accumulator.reset" [] (.ref 170) 176)
  c177 : codeIn K (.ref 176) "_Accumulator.reset" = true
  k177 : keepIn K (.ref 177) = true
  i177 : isFn K (.ref 177) = true
  f184 : K.lookup 184 = some (fnK K 184 (inCls 6 7) "_Accumulator.is_onlyws" [] .none 183)
  c184 : codeIn K (.ref 183) "_Accumulator.is_onlyws" = true
  k184 : keepIn K (.ref 184) = true
  i184 : isFn K (.ref 184) = true
  f192 : K.lookup 192 = some (fnK K 192 (inCls 6 8) "_Accumulator.part_count" [("__class__", 119)] .none 191)
  c192 : codeIn K (.ref 191) "_Accumulator.part_count" = true
  k192 : keepIn K (.ref 192) = true
  i192 : isFn K (.ref 192) = true
  f216 : K.lookup 216 = some (fnK K 216 (topSt 11) "quotedata" [] .none 215)
  c216 : codeIn K (.ref 215) "quotedata" = true
  k216 : keepIn K (.ref 216) = true
  i216 : isFn K (.ref 216) = true
  f241 : K.lookup 241 = some (fnK K 241 (inCls 15 0) "Headers.__init__" [] (.ref 234) 240)
  c241 : codeIn K (.ref 240) "Headers.__init__" = true
  k241 : keepIn K (.ref 241) = true
  i241 : isFn K (.ref 241) = true
  f248 : K.lookup 248 = some (fnK K 248 (inCls 15 1) "Headers._convert_string_type" [] .none 247)
  c248 : codeIn K (.ref 247) "Headers._convert_string_type" = true
  k248 : keepIn K (.ref 248) = true
  i248 : isFn K (.ref 248) = true
  f286 : K.lookup 286 = some (fnK K 286 (inCls 15 7) "Headers.get_all" [] .none 285)
  c286 : codeIn K (.ref 285) "Headers.get_all" = true
  k286 : keepIn K (.ref 286) = true
  i286 : isFn K (.ref 286) = true
  f363 : K.lookup 363 = some (fnK K 363 (topSt 18) "_law_nested" [] .none 362)
  c363 : codeIn K (.ref 362) "_law_nested" = true
  k363 : keepIn K (.ref 363) = true
  i363 : isFn K (.ref 363) = true
  f368 : K.lookup 368 = some (fnK K 368 (topSt 19) "_law_levels" [] .none 367)
  c368 : codeIn K (.ref 367) "_law_levels" = true
  k368 : keepIn K (.ref 368) = true
  i368 : isFn K (.ref 368) = true
  f375 : K.lookup 375 = some (fnK K 375 (topSt 20) "_law_fits" [] .none 374)
  c375 : codeIn K (.ref 374) "_law_fits" = true
  k375 : keepIn K (.ref 375) = true
  i375 : isFn K (.ref 375) = true
  f380 : K.lookup 380 = some (fnK K 380 (topSt 21) "_law_told" [] .none 379)
  c380 : codeIn K (.ref 379) "_law_told" = true
  k380 : keepIn K (.ref 380) = true
  i380 : isFn K (.ref 380) = true
  k195 : keepIn K (.ref 195) = true
  k111 : keepIn K (.ref 111) = true
  k347 : keepIn K (.ref 347) = true
  n195DgetattributeD : findIn K (.ref 195) "__getattribute__" = some (some (.builtin "list.__getattribute__"))
  n195DgetattrD : findIn K (.ref 195) "__getattr__" = some (none)
  n195append : findIn K (.ref 195) "append" = some (some (.builtin "list.append"))
  n195partucount : findIn K (.ref 195) "part_count" = some (some (.ref 192))
  n195push : findIn K (.ref 195) "push" = some (some (.ref 139))
  n195pop : findIn K (.ref 195) "pop" = some (some (.ref 155))
  n195popufrom : findIn K (.ref 195) "pop_from" = some (some (.ref 147))
  n195reset : findIn K (.ref 195) "reset" = some (some (.ref 177))
  n195isuonlyws : findIn K (.ref 195) "is_onlyws" = some (some (.ref 184))
  n195DlenD : findIn K (.ref 195) "__len__" = some (some (.ref 162))
  n195DstrD : findIn K (.ref 195) "__str__" = some (some (.ref 169))
  n195DgetitemD : findIn K (.ref 195) "__getitem__" = some (some (.builtin "list.__getitem__"))
  n195DsetitemD : findIn K (.ref 195) "__setitem__" = some (some (.builtin "list.__setitem__"))
  n195DiterD : findIn K (.ref 195) "__iter__" = some (some (.builtin "list.__iter__"))
  n195uinitialusize : findIn K (.ref 195) "_initial_size" = some (none)
  n195DinitD : findIn K (.ref 195) "__init__" = some (some (.ref 132))
  n195DnewD : findIn K (.ref 195) "__new__" = some (some (.builtin "list.__new__"))
  n195DboolD : findIn K (.ref 195) "__bool__" = some (none)
  n195DsetattrD : findIn K (.ref 195) "__setattr__" = some (some (.builtin "object.__setattr__"))
  n111DsetattrD : findIn K (.ref 111) "__setattr__" = some (some (.builtin "object.__setattr__"))
  n111umaxlen : findIn K (.ref 111) "_maxlen" = some (none)
  n111ucontinuationuws : findIn K (.ref 111) "_continuation_ws" = some (none)
  n111ucontinuationuwsulen : findIn K (.ref 111) "_continuation_ws_len" = some (none)
  n111usplitchars : findIn K (.ref 111) "_splitchars" = some (none)
  n111ulines : findIn K (.ref 111) "_lines" = some (none)
  n111ucurrentuline : findIn K (.ref 111) "_current_line" = some (none)
  n111DinitD : findIn K (.ref 111) "__init__" = some (some (.ref 52))
  n111ustr : findIn K (.ref 111) "_str" = some (some (.ref 59))
  n111newline : findIn K (.ref 111) "newline" = some (some (.ref 73))
  n111uappenduchunk : findIn K (.ref 111) "_append_chunk" = some (some (.ref 108))
  n347DsetattrD : findIn K (.ref 347) "__setattr__" = some (some (.builtin "object.__setattr__"))
  n347uheaders : findIn K (.ref 347) "_headers" = some (none)
  n347DinitD : findIn K (.ref 347) "__init__" = some (some (.ref 241))
  n347uconvertustringutype : findIn K (.ref 347) "_convert_string_type" = some (some (.ref 248))
  n347getuall : findIn K (.ref 347) "get_all" = some (some (.ref 286))
  glaw : nsIn K mainGlobals "law" = some (some (.ref 385))
  guAccumulator : nsIn K mainGlobals "_Accumulator" = some (some (.ref 195))
  guValueFormatter : nsIn K mainGlobals "_ValueFormatter" = some (some (.ref 111))
  gquotedata : nsIn K mainGlobals "quotedata" = some (some (.ref 216))
  gHeaders : nsIn K mainGlobals "Headers" = some (some (.ref 347))
  gulawufolded : nsIn K mainGlobals "_law_folded" = some (some (.ref 358))
  gulawunested : nsIn K mainGlobals "_law_nested" = some (some (.ref 363))
  gulawulevels : nsIn K mainGlobals "_law_levels" = some (some (.ref 368))
  gulawufits : nsIn K mainGlobals "_law_fits" = some (some (.ref 375))
  gulawutold : nsIn K mainGlobals "_law_told" = some (some (.ref 380))
  gutwinureu1 : nsIn K mainGlobals "_twin_re_1" = some (some (.ref 204))
  gutwinureu2 : nsIn K mainGlobals "_twin_re_2" = some (some (.ref 209))
  gunameudisallowedure : nsIn K mainGlobals "_name_disallowed_re" = some (some (.ref 221))
  guvalueudisallowedure : nsIn K mainGlobals "_value_disallowed_re" = some (some (.ref 226))
  gsum : nsIn K mainGlobals "sum" = some none
  glen : nsIn K mainGlobals "len" = some none
  gstr : nsIn K mainGlobals "str" = some none
  grange : nsIn K mainGlobals "range" = some none
  gint : nsIn K mainGlobals "int" = some none
  genumerate : nsIn K mainGlobals "enumerate" = some none
  gzip : nsIn K mainGlobals "zip" = some none
  gtype : nsIn K mainGlobals "type" = some none
  glist : nsIn K mainGlobals "list" = some none
  gsuper : nsIn K mainGlobals "super" = some none
  gEMPTYSTRING : nsIn K mainGlobals "EMPTYSTRING" = some (some (.str "" (tokG K "EMPTYSTRING")))
  gCRLF : nsIn K mainGlobals "CRLF" = some (some (.str "\r\n" (tokG K "CRLF")))
  any : nsIn K cStatics "thirdparty.any" = some none
  bmn : nsIn K mainGlobals "__builtins__" = some (some (.ref (bmK K)))
  bmo : K.lookup (bmK K) = some ⟨.type "module", some builtinsNs, .plain, (obK K (bmK K)).slots⟩
  bmne : (bmK K == builtinsNs) = false
  p204a : K.lookup 204 = some ⟨.type "re.Pattern", none, .fields (fldK K 204), (obK K 204).slots⟩
  p204b : (fldK K 204).getD 6 .none = .int 0 (tokV ((fldK K 204).getD 6 .none))
  p204c : (fldK K 204).getD 2 .none = .int 0 (tokV ((fldK K 204).getD 2 .none))
  p204d : (fldK K 204).getD 5 .none = .ref 203
  p204e : K.lookup 203 = some ⟨.type "tuple", (obK K 203).dict, .seq (seqK K 203) (epK K 203), (obK K 203).slots⟩
  p204f : (((seqK K 203).map Re.reRawOf).map (·.toNat)) = c1
  p209a : K.lookup 209 = some ⟨.type "re.Pattern", none, .fields (fldK K 209), (obK K 209).slots⟩
  p209b : (fldK K 209).getD 6 .none = .int 0 (tokV ((fldK K 209).getD 6 .none))
  p209c : (fldK K 209).getD 2 .none = .int 0 (tokV ((fldK K 209).getD 2 .none))
  p209d : (fldK K 209).getD 5 .none = .ref 208
  p209e : K.lookup 208 = some ⟨.type "tuple", (obK K 208).dict, .seq (seqK K 208) (epK K 208), (obK K 208).slots⟩
  p209f : (((seqK K 208).map Re.reRawOf).map (·.toNat)) = c2
  p221a : K.lookup 221 = some ⟨.type "re.Pattern", none, .fields (fldK K 221), (obK K 221).slots⟩
  p221b : (fldK K 221).getD 6 .none = .int 0 (tokV ((fldK K 221).getD 6 .none))
  p221c : (fldK K 221).getD 2 .none = .int 0 (tokV ((fldK K 221).getD 2 .none))
  p221d : (fldK K 221).getD 5 .none = .ref 220
  p221e : K.lookup 220 = some ⟨.type "tuple", (obK K 220).dict, .seq (seqK K 220) (epK K 220), (obK K 220).slots⟩
  p221f : (((seqK K 220).map Re.reRawOf).map (·.toNat)) = cN
  p226a : K.lookup 226 = some ⟨.type "re.Pattern", none, .fields (fldK K 226), (obK K 226).slots⟩
  p226b : (fldK K 226).getD 6 .none = .int 0 (tokV ((fldK K 226).getD 6 .none))
  p226c : (fldK K 226).getD 2 .none = .int 0 (tokV ((fldK K 226).getD 2 .none))
  p226d : (fldK K 226).getD 5 .none = .ref 225
  p226e : K.lookup 225 = some ⟨.type "tuple", (obK K 225).dict, .seq (seqK K 225) (epK K 225), (obK K 225).slots⟩
  p226f : (((seqK K 225).map Re.reRawOf).map (·.toNat)) = cV
  s131a : K.lookup 131 = some ⟨(obK K 131).cls, (obK K 131).dict, .fields (fldK K 131), (obK K 131).slots⟩
  s131b : (fldK K 131)[2]? = some (.str (strV ((fldK K 131).getD 2 .none)) (tokV ((fldK K 131).getD 2 .none)))
  s131c : ((PR.main.file : Str) == strV ((fldK K 131).getD 2 .none)) = true
  s154a : K.lookup 154 = some ⟨(obK K 154).cls, (obK K 154).dict, .fields (fldK K 154), (obK K 154).slots⟩
  s154b : (fldK K 154)[2]? = some (.str (strV ((fldK K 154).getD 2 .none)) (tokV ((fldK K 154).getD 2 .none)))
  s154c : ((PR.main.file : Str) == strV ((fldK K 154).getD 2 .none)) = true
  s191a : K.lookup 191 = some ⟨(obK K 191).cls, (obK K 191).dict, .fields (fldK K 191), (obK K 191).slots⟩
  s191b : (fldK K 191)[2]? = some (.str (strV ((fldK K 191).getD 2 .none)) (tokV ((fldK K 191).getD 2 .none)))
  s191c : ((PR.main.file : Str) == strV ((fldK K 191).getD 2 .none)) = true
  s119 : K.lookup 119 = some ⟨(obK K 119).cls, (obK K 119).dict, .cell (some (.ref 195)), (obK K 119).slots⟩
  cls195 : clsIn K 195 = some (cdK K 195)
  m1 : mroIn K 195 (.ref 195) = some true
  m2 : mroIn K 195 (.type "list") = some true
  m3 : mroIn K 195 (.type "module") = some false
  a1 : alongIn K "pop" (((cdK K 195).mro.dropWhile (· != .ref 195)).drop 1) = some (some (.builtin "list.pop"))
  a2 : alongIn K "__len__" (((cdK K 195).mro.dropWhile (· != .ref 195)).drop 1) = some (some (.builtin "list.__len__"))
  a3 : alongIn K "__init__" (((cdK K 195).mro.dropWhile (· != .ref 195)).drop 1) = some (some (.builtin "list.__init__"))
  qn : (cdK K 195).qualname = "_Accumulator"
  hd : (cdK K 195).hasDict = true
  mro : (cdK K 195).mro = [.ref 195, .type "list", .type "object"]
  ty : typeIn K (.ref 195) = some (.type "type")
  tAp : typeIn K (.builtin "list.append") = some (.type "method_descriptor")
  seq : noSeq K 195 = true
  d140 : K.lookup 140 = some ⟨.type "tuple", (obK K 140).dict, .seq #[.int 0 (tokV ((seqK K 140).getD 0 .none))] (epK K 140), (obK K 140).slots⟩
  d124 : K.lookup 124 = some ⟨.type "tuple", (obK K 124).dict, .seq #[.int 0 (tokV ((seqK K 124).getD 0 .none))] (epK K 124), (obK K 124).slots⟩
  d170 : K.lookup 170 = some ⟨.type "tuple", (obK K 170).dict, .seq #[.none] (epK K 170), (obK K 170).slots⟩
  d234 : K.lookup 234 = some ⟨.type "tuple", (obK K 234).dict, .seq #[.none] (epK K 234), (obK K 234).slots⟩
  mkL : makesL K 195 = true
  sg : specialIn K (.ref 139) "__get__" = some (some (.builtin "function.__get__"))
  tk : takesIn K (.ref 139) = some false
  pl111 : plainGet K 111 "" = true
  hd111 : hasDictIn K 111 = true
  ov111 : plainOver K 111 = true
  hc111 : (clsIn K 111).any (·.hasDict) = true
  mk111 : makesIn K 111 = true
  pl347 : plainGet K 347 "" = true
  hd347 : hasDictIn K 347 = true
  ov347 : plainOver K 347 = true
  hc347 : (clsIn K 347).any (·.hasDict) = true
  mk347 : makesIn K 347 = true
theorem fx_of {K : Frag} (H : Hf K) : Fx K (cdK K 195) where
  init := fnAt_mk H.f132 H.c132
  push := fnAt_mk H.f139 H.c139
  popf := fnAt_mk H.f147 H.c147
  pop := fnAt_mk H.f155 H.c155
  len := fnAt_mk H.f162 H.c162
  str := fnAt_mk H.f169 H.c169
  reset := fnAt_mk H.f177 H.c177
  only := fnAt_mk H.f184 H.c184
  count := fnAt_mk H.f192 H.c192
  supI := supFx_mk H.s131a H.s131b H.s131c H.s119 H.cls195 H.m1 H.m2 H.gsuper (by decide +kernel) H.any
  supP := supFx_mk H.s154a H.s154b H.s154c H.s119 H.cls195 H.m1 H.m2 H.gsuper (by decide +kernel) H.any
  supC := supFx_mk H.s191a H.s191b H.s191c H.s119 H.cls195 H.m1 H.m2 H.gsuper (by decide +kernel) H.any
  alP := H.a1
  alC := H.a2
  alI := H.a3
  qn := H.qn
  hd := H.hd
  noMod := H.m3
  ty := H.ty
  seq := H.seq
  tAppend := H.tAp
  mro := H.mro
  d140 := ⟨_, _, _, _, H.d140⟩
  d124 := ⟨_, _, _, _, H.d124⟩
  d170 := ⟨_, _, _, H.d170⟩
  ga := H.n195DgetattributeD
  gt := H.n195DgetattrD
  fAppend := H.n195append
  fCount := H.n195partucount
  fPush := H.n195push
  fPop := H.n195pop
  fPopf := H.n195popufrom
  fReset := H.n195reset
  fOnly := H.n195isuonlyws
  fLen := H.n195DlenD
  fStr := H.n195DstrD
  fGet := H.n195DgetitemD
  fSet := H.n195DsetitemD
  fIter := H.n195DiterD
  fSize := H.n195uinitialusize
  fInit := H.n195DinitD
  fNew := H.n195DnewD
  fBool := H.n195DboolD
  fSetattr := H.n195DsetattrD
  keep := (fun f hf => by
    simp only [List.mem_cons, List.not_mem_nil, or_false] at hf
    rcases hf with rfl | rfl | rfl | rfl | rfl | rfl | rfl | rfl | rfl
    · exact ⟨H.k132, H.i132⟩
    · exact ⟨H.k139, H.i139⟩
    · exact ⟨H.k147, H.i147⟩
    · exact ⟨H.k155, H.i155⟩
    · exact ⟨H.k162, H.i162⟩
    · exact ⟨H.k169, H.i169⟩
    · exact ⟨H.k177, H.i177⟩
    · exact ⟨H.k184, H.i184⟩
    · exact ⟨H.k192, H.i192⟩)
theorem fv_of {K : Frag} (H : Hf K) : Fv K where
  plain := H.pl111
  hd := H.hd111
  over := H.ov111
  hdc := H.hc111
  makes := H.mk111
  init := fnAt_mk H.f52 H.c52
  str := fnAt_mk H.f59 H.c59
  newline := fnAt_mk H.f73 H.c73
  chunk := fnAt_mk H.f108 H.c108
  sa := H.n111DsetattrD
  fInit := H.n111DinitD
  fStr := H.n111ustr
  fNewline := H.n111newline
  fChunk := H.n111uappenduchunk
  no := (fun f hf => by
    simp only [List.mem_cons, List.not_mem_nil, or_false] at hf
    rcases hf with rfl | rfl | rfl | rfl | rfl | rfl
    · exact H.n111umaxlen
    · exact H.n111ucontinuationuws
    · exact H.n111ucontinuationuwsulen
    · exact H.n111usplitchars
    · exact H.n111ulines
    · exact H.n111ucurrentuline)
  keep := (fun f hf => by
    simp only [List.mem_cons, List.not_mem_nil, or_false] at hf
    rcases hf with rfl | rfl | rfl | rfl
    · exact ⟨H.k52, H.i52⟩
    · exact ⟨H.k59, H.i59⟩
    · exact ⟨H.k73, H.i73⟩
    · exact ⟨H.k108, H.i108⟩)
theorem lw_of {K : Frag} {h : Heap} {mg : Str → Option Value} (X : K.In h) (hg : h.Ns mainGlobals mg) (H : Hf K) : Lw [(161, 157), (168, 164)] K (cdK K 195) mg := by
  have GM : Gm mg := ⟨(mg_none_of X hg H.gsum), (mg_none_of X hg H.glen), ⟨_, mg_of X hg H.gEMPTYSTRING⟩, (mg_none_of X hg H.gstr), (mg_none_of X hg H.grange)⟩
  have FN : Fn K mg := ⟨(fnAt_mk H.f363 H.c363), (mg_of X hg H.guAccumulator), H.k195, (mg_of X hg H.gquotedata), H.k216⟩
  have FQ : Fq K mg := ⟨(fnAt_mk H.f216 H.c216), (patK_mk H.p204a H.p204b H.p204c H.p204d H.p204e H.p204f), (patK_mk H.p209a H.p209b H.p209c H.p209d H.p209e H.p209f), (mg_of X hg H.gutwinureu1), (mg_of X hg H.gutwinureu2), ⟨_, mg_of X hg H.gCRLF⟩⟩
  have FH : Fh K mg := ⟨(fnAt_mk H.f241 H.c241), (fnAt_mk H.f248 H.c248), (fnAt_mk H.f286 H.c286), ⟨_, _, _, H.d234⟩, (patK_mk H.p221a H.p221b H.p221c H.p221d H.p221e H.p221f), (patK_mk H.p226a H.p226b H.p226c H.p226d H.p226e H.p226f), (mg_of X hg H.gunameudisallowedure), (mg_of X hg H.guvalueudisallowedure), (mg_none_of X hg H.gtype), (mg_none_of X hg H.gstr), (mg_none_of X hg H.glist), H.pl347, H.hd347, H.ov347, H.hc347, H.n347DsetattrD, H.n347uheaders, H.n347DinitD, H.n347uconvertustringutype, H.n347getuall, (fun f hf => by
    simp only [List.mem_cons, List.not_mem_nil, or_false] at hf
    rcases hf with rfl | rfl | rfl
    · exact ⟨H.k241, H.i241⟩
    · exact ⟨H.k248, H.i248⟩
    · exact ⟨H.k286, H.i286⟩), H.mk347⟩
  have FL : Fl K mg := ⟨(fnAt_mk H.f368 H.c368), (mg_of X hg H.gquotedata), H.k216, (mg_of X hg H.gHeaders), H.k347, (mg_none_of X hg H.gzip)⟩
  have FT : Ft K mg := ⟨(fnAt_mk H.f375 H.c375)⟩
  have FO : Fo K mg := ⟨(fnAt_mk H.f380 H.c380), (mg_of X hg H.gulawufits), H.k375, (mg_none_of X hg H.gzip)⟩
  exact ⟨(fnAt_mk H.f358 H.c358), (fnAt_mk H.f385 H.c385), fv_of H, fx_of H, ⟨H.mkL, H.sg, H.tk⟩, (mg_of X hg H.guAccumulator), H.k195, (mg_of X hg H.guValueFormatter), H.k111, .head _, .tail _ (.head _), GM, FN, FQ, FH, FL, FT, FO, (mg_of X hg H.gulawufolded), H.k358, (mg_of X hg H.gulawunested), H.k363, (mg_of X hg H.gulawulevels), H.k368, (mg_of X hg H.gulawutold), H.k380, (mg_none_of X hg H.gint), (mg_none_of X hg H.genumerate)⟩
end Mine
end
noncomputable section
open PySem PySem.W PySem.Calls PyProof.Rows Builtin Builtin.ObjectAttr Builtin.Str
namespace Mine
def flV (v : Value) : Int := match v with | .int n _ => n | _ => 0
def boV (v : Value) : Bool := match v with | .bool b => b | _ => false
structure Tb (K : Frag) (c P : Addr) : Prop where
  xa : K.lookup c = some ⟨.type "code", (obK K c).dict, .fields (fldK K c), (obK K c).slots⟩
  xb : (fldK K c)[11]? = some (.ref P)
  xb' : (fldK K c).getD 11 .none = .ref P
  xc : (fldK K c).getD 18 .none = .str (strV ((fldK K c).getD 18 .none)) (tokV ((fldK K c).getD 18 .none))
  xd : (fldK K c).getD 7 .none = .int (flV ((fldK K c).getD 7 .none)) (tokV ((fldK K c).getD 7 .none))
  xe : (fldK K c).getD 9 .none = .bool (boV ((fldK K c).getD 9 .none))
  xf : (fldK K c).getD 10 .none = .int (flV ((fldK K c).getD 10 .none)) (tokV ((fldK K c).getD 10 .none))
  xg : K.lookup P = some { cls := .none, data := .fields #[] }
theorem tb_at {K : Frag} {c P : Addr} {h : Heap} (X : K.In h) (B : Tb K c P) (hne : c ≠ P) : h.IsCode c P #[] ∧ h.TableAt c P #[] :=
  ⟨⟨_, _, _, _, _, _, _, _, _, _, X _ _ B.xa, rfl, B.xb', B.xc, B.xd, B.xe, B.xf, X _ _ B.xg, rfl, trivial, hne⟩, ⟨⟨_, _, X _ _ B.xa, rfl, rfl, B.xb⟩, X _ _ B.xg⟩⟩
theorem st_start {K : Frag} {h : Heap} (X : K.In h) (B1 : Tb K 161 157) (B2 : Tb K 168 164) : St [(161, 157), (168, 164)] h h := by
  refine ⟨OldK.refl h, fun _ _ e _ => e, fun p hp => ?_, Nat.le_refl _⟩
  rcases List.mem_cons.mp hp with rfl | hp
  · obtain ⟨a, b⟩ := tb_at X B1 (by decide)
    exact ⟨_, _, a, b, b⟩
  · rw [List.mem_singleton.mp hp]
    obtain ⟨a, b⟩ := tb_at X B2 (by decide)
    exact ⟨_, _, a, b, b⟩
theorem gb_of {K : Frag} {h : Heap} {p : Program} {loose : List Str} {mean : ExcName → Option Value} {mg mb : Str → Option Value} (X : K.In h) (T : Top p loose mean mg mb h) (H : Hf (Kf K)) : Gb [(161, 157), (168, 164)] (Kf K) mg mb h :=
  ⟨kf_in X, T.g, T.b, T.nolimit, T.builtins, kf_tab, by decide, by decide, by decide, ⟨bmK (Kf K), _, _, mg_of (kf_in X) T.g H.bmn, beq_eq_false_iff_ne.mp H.bmne, H.bmo, rfl⟩⟩
theorem law_glue {w : World} {s : Shared} {K : Frag} {p : Program} {loose : List Str} {mean : ExcName → Option Value} {mg mb : Str → Option Value} {a : Addr} {vs : List Value} {ns : List Int} {Q : Value → Shared → Prop} {E : Value → Shared → Prop}
   (X : K.In s.heap) (T : Top p loose mean mg mb s.heap) (H : Hf (Kf K)) (B1 : Tb K 161 157) (B2 : Tb K 168 164) (hg : s.gens = #[])
   (hl : s.heap.get? a = some { cls := .type "list", data := .seq vs.toArray }) (hi : IntsAre vs ns) (hn : ¬ ((63 : Nat) : Int) < ns.length)
   (hQ : ∀ s' : Shared, OldK s.heap s'.heap → s'.os = s.os → AllBare s'.gens → Q (.bool true) s') :
   wpAny (model PR w) callerA (call (.ref 385) [.ref a]) Q E s := by
  have S := st_start X B1 B2
  have G := gb_of X T H
  have LW := lw_of (kf_in X) T.g H
  refine wpAny_call ?_
  refine law_spec (its := vs.toArray) (ep := 0) LW G S ⟨by decide, rfl, by decide⟩ hl hi (by omega) (law_plain ns) fun s' mv ok => ?_
  exact hQ s' mv.st.old ok.1 (ok.2 (.of_eq hg))
end Mine
end
noncomputable section
open PySem PySem.W PySem.W.X PySem.Calls PyProof.Rows
noncomputable section
namespace Mine
abbrev pwP : Program := PySem.Challenge.pw_tc0069_01
def viewP : Program := { pwP with main := { pwP.main with body := [0, 1, 3, 4, 5, 6, 8, 9, 10, 11, 13, 14, 15, 17, 18, 19, 20, 21, 22].filterMap (pwP.main.body[·]?) } }
def looseP : List Str := [Str.ofString "_Accumulator", Str.ofString "_twin_re_1", Str.ofString "_twin_re_2", Str.ofString "_name_disallowed_re", Str.ofString "_value_disallowed_re"]
def xtP (s : Shared) : Bool := xlAt viewP [] s && recOk (RowW.records PySem.Challenge.rw_tc0069_01.row.toRowW) s
def adr : List Nat := [3, 195, 194, 347, 346, 111, 110, 2, 4, 119, 124, 140, 170, 234, 204, 203, 209, 208, 221, 220, 226, 225, 358, 357, 385, 384, 52, 51, 59, 58, 73, 72, 108, 107, 132, 131, 139, 138, 147, 146, 155, 154, 162, 161, 169, 168, 177, 176, 184, 183, 192, 191, 216, 215, 241, 240, 248, 247, 286, 285, 363, 362, 368, 367, 375, 374, 380, 379, 157, 164]
def fragOf (h : Heap) : Frag := adr.filterMap fun a => (h.get? a).map fun o => (a, o)
theorem fragOf_in (h : Heap) : (fragOf h).In h := by
  have : ∀ l : List Nat, ∀ a o, (l.filterMap fun a => (h.get? a).map fun o => (a, o)).lookup a = some o → h.get? a = some o := by
    intro l
    induction l with
    | nil => intro a o e; cases e
    | cons b l ih =>
      intro a o e
      rw [List.filterMap_cons] at e
      cases q : h.get? b with
      | none => rw [q] at e; exact ih a o e
      | some o' =>
        rw [q] at e
        have e' : ((b, o') :: l.filterMap fun a => (h.get? a).map fun o => (a, o)).lookup a = some o := e
        rw [List.lookup_cons] at e'
        by_cases hab : a = b
        · subst hab
          rw [beq_self_eq_true] at e'
          cases e'; exact q
        · rw [beq_eq_false_iff_ne.mpr hab] at e'
          exact ih a o e'
  exact this _
def topQ (w : World) (s₀ : Shared) : Option Shared :=
  match s₀.heap.isNs mainGlobals && s₀.gens.size == 0 with
  | true => (PySem.W.Fast.tw14082659384304107361 PySem.W.Fast.tw14364793385576792824 pwP w s₀.heap.objs.size (PySem.W.Fast.tw8920871248978507458 s₀.heap mainGlobals "__annotations__") 4726 s₀ (topStub pwP)).bind fun s₁ => match staticsOk (PySem.W.Fast.tw5923862056798008813 pwP.main.body) s₀.heap s₁.heap && namesBound pwP s₁.heap && gensDone s₁ && laidKept s₀.heap s₁.heap with
      | true => some s₁
      | false => none
  | false => none
def endsQ (w : World) : Option Shared := ((PySem.W.Fast.tw10274390034422433532 PySem.W.Fast.tw14364793385576792824 (opening pwP) w 4726 (PySem.W.Fast.tw1435165496053646825 (opening pwP)).1 (PySem.W.Fast.tw1435165496053646825 (opening pwP)).2).bind (PySem.W.Fast.tw14289696077712309145 pwP)).bind (topQ w)
theorem ends_q (w : World) : openEnds treeTable pwP w 4726 = endsQ w := by
  unfold endsQ
  rw [← PySem.W.Fast.te10274390034422433532, ← PySem.W.Fast.te14364793385576792824, ← PySem.W.Fast.te1435165496053646825, ← PySem.W.Fast.te14289696077712309145]
  have e : topQ w = topFrom treeTable pwP w 4726 := by
    funext s₀
    unfold topQ
    rw [← PySem.W.Fast.te14364793385576792824, ← PySem.W.Fast.te14082659384304107361, ← PySem.W.Fast.te8920871248978507458, ← PySem.W.Fast.te5923862056798008813]
    rfl
  rw [e]
  rfl
def runEnd (w : World) : Shared := match endsQ w with | some s => s | none => {}
def KW (w : World) : Frag := fragOf (runEnd w).heap
structure RunOk (w : World) : Prop where
  hf : Hf (Kf (KW w))
  t1 : Tb (KW w) 161 157
  t2 : Tb (KW w) 168 164
set_option maxHeartbeats 0 in
theorem runOk2 (w : World) : RunOk w := ⟨⟨by kernel_rfl, by kernel_rfl, by kernel_rfl, by kernel_rfl, by kernel_rfl, by kernel_rfl, by kernel_rfl, by kernel_rfl, by kernel_rfl, by kernel_rfl, by kernel_rfl, by kernel_rfl, by kernel_rfl, by kernel_rfl, by kernel_rfl, by kernel_rfl, by kernel_rfl, by kernel_rfl, by kernel_rfl, by kernel_rfl, by kernel_rfl, by kernel_rfl, by kernel_rfl, by kernel_rfl, by kernel_rfl, by kernel_rfl, by kernel_rfl, by kernel_rfl, by kernel_rfl, by kernel_rfl, by kernel_rfl, by kernel_rfl, by kernel_rfl, by kernel_rfl, by kernel_rfl, by kernel_rfl, by kernel_rfl, by kernel_rfl, by kernel_rfl, by kernel_rfl, by kernel_rfl, by kernel_rfl, by kernel_rfl, by kernel_rfl, by kernel_rfl, by kernel_rfl, by kernel_rfl, by kernel_rfl, by kernel_rfl, by kernel_rfl, by kernel_rfl, by kernel_rfl, by kernel_rfl, by kernel_rfl, by kernel_rfl, by kernel_rfl, by kernel_rfl, by kernel_rfl, by kernel_rfl, by kernel_rfl, by kernel_rfl, by kernel_rfl, by kernel_rfl, by kernel_rfl, by kernel_rfl, by kernel_rfl, by kernel_rfl, by kernel_rfl, by kernel_rfl, by kernel_rfl, by kernel_rfl, by kernel_rfl, by kernel_rfl, by kernel_rfl, by kernel_rfl, by kernel_rfl, by kernel_rfl, by kernel_rfl, by kernel_rfl, by kernel_rfl, by kernel_rfl, by kernel_rfl, by kernel_rfl, by kernel_rfl, by kernel_rfl, by kernel_rfl, by kernel_rfl, by kernel_rfl, by kernel_rfl, by kernel_rfl, by kernel_rfl, by kernel_rfl, by kernel_rfl, by kernel_rfl, by kernel_rfl, by kernel_rfl, by kernel_rfl, by kernel_rfl, by kernel_rfl, by kernel_rfl, by kernel_rfl, by kernel_rfl, by kernel_rfl, by kernel_rfl, by kernel_rfl, by kernel_rfl, by kernel_rfl, by kernel_rfl, by kernel_rfl, by kernel_rfl, by kernel_rfl, by kernel_rfl, by kernel_rfl, by kernel_rfl, by kernel_rfl, by kernel_rfl, by kernel_rfl, by kernel_rfl, by kernel_rfl, by kernel_rfl, by kernel_rfl, by kernel_rfl, by kernel_rfl, by kernel_rfl, by kernel_rfl, by kernel_rfl, by kernel_rfl, by kernel_rfl, by kernel_rfl, by kernel_rfl, by kernel_rfl, by kernel_rfl, by kernel_rfl, by kernel_rfl, by kernel_rfl, by kernel_rfl, by kernel_rfl, by kernel_rfl, by kernel_rfl, by kernel_rfl, by kernel_rfl, by kernel_rfl, by kernel_rfl, by kernel_rfl, by kernel_rfl, by kernel_rfl, by kernel_rfl, by kernel_rfl, by kernel_rfl, by kernel_rfl, by kernel_rfl, by kernel_rfl, by kernel_rfl, by kernel_rfl, by kernel_rfl, by kernel_rfl, by kernel_rfl, by kernel_rfl, by kernel_rfl, by kernel_rfl, by kernel_rfl, by kernel_rfl, by kernel_rfl, by kernel_rfl, by kernel_rfl, by kernel_rfl, by kernel_rfl, by kernel_rfl, by kernel_rfl, by kernel_rfl, by kernel_rfl, by kernel_rfl, by kernel_rfl, by kernel_rfl, by kernel_rfl, by kernel_rfl, by kernel_rfl, by kernel_rfl, by kernel_rfl, by kernel_rfl, by kernel_rfl, by kernel_rfl, by kernel_rfl, by kernel_rfl, by kernel_rfl, by kernel_rfl, by kernel_rfl, by kernel_rfl, by kernel_rfl, by kernel_rfl, by kernel_rfl, by kernel_rfl, by kernel_rfl, by kernel_rfl, by kernel_rfl, by kernel_rfl, by kernel_rfl, by kernel_rfl, by kernel_rfl, by kernel_rfl, by kernel_rfl, by kernel_rfl, by kernel_rfl, by kernel_rfl, by kernel_rfl, by kernel_rfl, by kernel_rfl, by kernel_rfl, by kernel_rfl, by kernel_rfl, by kernel_rfl, by kernel_rfl, by kernel_rfl, by kernel_rfl, by kernel_rfl, by kernel_rfl, by kernel_rfl, by kernel_rfl, by kernel_rfl, by kernel_rfl, by kernel_rfl, by kernel_rfl, by kernel_rfl, by kernel_rfl⟩, ⟨by kernel_rfl, by kernel_rfl, by kernel_rfl, by kernel_rfl, by kernel_rfl, by kernel_rfl, by kernel_rfl, by kernel_rfl⟩, ⟨by kernel_rfl, by kernel_rfl, by kernel_rfl, by kernel_rfl, by kernel_rfl, by kernel_rfl, by kernel_rfl, by kernel_rfl⟩⟩
set_option maxHeartbeats 0 in
theorem runOk1 (w : World) : (endsQ w).map (fun s => (PySem.W.Fast.tw4187177175401517315 viewP looseP (PySem.W.Fast.tw5923862056798008813 pwP.main.body) xtP true s, fragOf s.heap)) = some (openGood viewP looseP, KW w) := by kernel_rfl
theorem left_ok : LeftO PySem.Challenge.rw_tc0069_01.row.prog viewP looseP xtP (fun s => fragOf s.heap) KW 4726 := by
  intro w
  show (openEnds treeTable pwP w 4726).map (fun s => (openSeen viewP looseP (importedModules pwP.main.body) xtP true s, fragOf s.heap)) = some (openGood viewP looseP, KW w)
  rw [ends_q, PySem.W.Fast.te4187177175401517315, PySem.W.Fast.te5923862056798008813]
  exact runOk1 w
end Mine
end
end
open PySem PySem.W PySem.W.X PySem.Calls PyProof.Rows Mine
set_option maxHeartbeats 0 in
theorem PySem.Challenge.cw_tc0069_01_holds : PySem.Challenge.rw_tc0069_01.Holds := by
  w_on
  refine holds_law (by kernel_rfl) fun said => ?_
  refine holds_openX (q := viewP) (loose := looseP) (Xt := xtP) (XP := XL viewP []) (Yf := fun s => fragOf s.heap) (Ya := KW) (N := 4726) left_ok (fun s e => xl_of s (Bool.and_eq_true_iff.mp e).1) XL.keeps (by rfl) (by rfl) (by rfl) (fun s e => recFacts_of (Bool.and_eq_true_iff.mp e).2) (by rfl) (by assumption) (by decide +kernel) ⟨rfl, rfl, rfl, rfl, rfl, by decide +kernel⟩ ?hw ?hc
  case hw => w_witness2
  case hc =>
    intro w s₀ s₁ mg mb G y fa o pm cd doc dV kV ho hd hcd hD hmg hg args vals as L hpre hlay hrd hwl hlo
    refine Ground.open G ?_
    intro T B D TE TW
    wrow_args hpre hlay hrd hwl hlo
    have hy : fragOf s₀.heap = KW w := y
    have KX : (KW w).In s₁.heap := (hy ▸ fragOf_in s₀.heap).keeps L.keeps
    obtain ⟨H, B1, B2⟩ := runOk2 w
    clear y hy hD hcd hd ho D TE TW B G
    have e385 := mg_of (kf_in KX) T.g H.glaw
    have hfa : Value.ref fa = .ref 385 := Option.some.inj (hmg.symm.trans e385)
    clear hmg e385
    injection hfa with hfa
    subst hfa
    refine law_glue KX T H B1 B2 hg (script_obj L (by assumption)) (by assumption) (by assumption) fun s' h1 h2 h3 => ?_
    exact ⟨.inl ⟨_, _, _, rfl, fun cls => rfl, ReadsW.bool _, by wrow_post, fun _ => ⟨List.nodup_nil, fun a ha => by cases ha⟩⟩, h1, h2, h3⟩
