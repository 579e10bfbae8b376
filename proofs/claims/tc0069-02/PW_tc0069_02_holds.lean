import PyProof.Rows.All
import Wide.All
import OpenK.AllK
import Wide.FinOn
import PySem.Challenge.RW_tc0069_02
set_option Elab.async false
set_option maxRecDepth 100000
set_option maxHeartbeats 4000000
set_option linter.all false
section
namespace Mine
variable {α : Type _} {a b c d e x : α} {l : List α} {P : α → Prop}
theorem qg {P : Prop} (h : ∀ G : Prop, (P → G) → G) : P := h P id
theorem ni0 : ¬ a ∈ ([] : List α) := List.not_mem_nil
theorem niC (h : a ≠ b) (h' : ¬ a ∈ l) : ¬ a ∈ b :: l := fun q => by cases q with | head => exact h rfl | tail _ q => exact h' q
theorem ni1 (h : a ≠ b) : ¬ a ∈ [b] := niC h ni0
theorem ni2 (h : a ≠ b) (h2 : a ≠ c) : ¬ a ∈ [b, c] := niC h (ni1 h2)
theorem ni3 (h : a ≠ b) (h2 : a ≠ c) (h3 : a ≠ d) : ¬ a ∈ [b, c, d] := niC h (ni2 h2 h3)
theorem al0 : ∀ x, x ∈ ([] : List α) → P x := fun _ q => by cases q
theorem alC (h : P a) (h' : ∀ x, x ∈ l → P x) : ∀ x, x ∈ a :: l → P x := fun _ q => by cases q with | head => exact h | tail _ q => exact h' _ q
theorem al1 (h : P a) : ∀ x, x ∈ [a] → P x := alC h al0
theorem al2 (h : P a) (h2 : P b) : ∀ x, x ∈ [a, b] → P x := alC h (al1 h2)
theorem al3 (h : P a) (h2 : P b) (h3 : P c) : ∀ x, x ∈ [a, b, c] → P x := alC h (al2 h2 h3)
theorem m1 : a ∈ a :: l := .head _
theorem m2 : b ∈ a :: b :: l := .tail _ (.head _)
theorem m3 : c ∈ a :: b :: c :: l := .tail _ m2
theorem m4 : d ∈ a :: b :: c :: d :: l := .tail _ m3
theorem m5 : e ∈ a :: b :: c :: d :: e :: l := .tail _ m4
theorem mS (h : x ∈ l) : x ∈ a :: l := .tail _ h
theorem mE (q : x = a) : x ∈ a :: l := q ▸ m1
theorem nd1 {β : Type _} {p : α × β} : (List.map (fun q => q.1) [p]).Nodup := by simp
theorem tnL : PySem.Value.type "list" ≠ .type "tuple" := by simp
theorem tnD : PySem.Value.type "dict" ≠ .type "tuple" := by simp
theorem tnA {a} : PySem.Value.ref a ≠ .type "tuple" := nofun
theorem dlt {n i k : Nat} (h : n - i = k + 1) : i < n := by omega
theorem dst {n i k : Nat} (h : n - i = k + 1) : n - (i + 1) = k := by omega
theorem de0 {n i : Nat} (h : n - i = 0) (h' : i ≤ n) : i = n := by lia
theorem dlt2 {n i k m : Nat} (h : n - i = k + 1) (h' : n ≤ m) : i < m := by omega
theorem lenat {a b : Nat} (h : a ≤ b) : (a : Int) ≤ b := by lia
theorem ltnat {a b : Nat} (h : a < b) : (a : Int) < b := by lia
theorem ipo {α : Sort _} {c : Prop} [Decidable c] {x y : α} (h : c) : ite c x y = x := if_pos h
theorem ine {α : Sort _} {c : Prop} [Decidable c] {x y z : α} (h : ¬ c) (h' : y = z) : ite c x y = z := (if_neg h).trans h'
open PySem in
theorem qcut {α : Type} {M : Model} {A : Around} {m : Sem α} {Q : α → Shared → Prop} {E : Value → Shared → Prop} {s : Shared} (h : ∀ Q' : α → Shared → Prop, Q' = Q → wpAny M A m Q' E s) : wpAny M A m Q E s := h Q rfl
open PySem in
theorem xc {M : Model} {A : Around} {st : Stmt} {rest : List Stmt} {env : Env} {Q : Flow → Shared → Prop} {E : Value → Shared → Prop} {s : Shared} (h : ∀ Q' : Flow → Shared → Prop, (∀ s', wpAny M A (execs rest env) Q E s' → Q' .next s') → wpAny M A (exec st env) Q' E s) : wpAny M A (execs (st :: rest) env) Q E s := wpAny_execs_cons (h _ fun _ q => q)
open PySem in
theorem vc {α : Type} {M : Model} {A : Around} {m : Sem α} {Q : α → Shared → Prop} {E : Value → Shared → Prop} {s : Shared} (h : ∀ Q' : α → Shared → Prop, (∀ v s', Q v s' → Q' v s') → wpAny M A m Q' E s) : wpAny M A m Q E s := h Q fun _ _ q => q
section
open PySem
variable {α : Type} {M : Model} {A : Around} {Q : α → Shared → Prop} {E : Value → Shared → Prop} {s : Shared} {a b : Sem α}
theorem wt {c : Prop} [Decidable c] (h : c) (k : wpAny M A a Q E s) : wpAny M A (ite c a b) Q E s := by rw [if_pos h]; exact k
theorem wf {c : Prop} [Decidable c] (h : ¬ c) (k : wpAny M A b Q E s) : wpAny M A (ite c a b) Q E s := by rw [if_neg h]; exact k
end
end Mine
end
section
open PySem PySem.W PySem.Calls PyProof.Rows
namespace Mine
noncomputable abbrev Tabs := List (Addr × Addr)
structure Gb (T : Tabs) (K : Frag) (mg mb : Str → Option Value) (g : Heap) : Prop where
  X : K.In g
  mgN : g.Ns mainGlobals mg
  mbN : g.Ns builtinsNs mb
  nolim : g.NoLimit
  boot : ∀ x : Str, x ≠ "__name__" → mb x = bootBuiltins x
  kt : ∀ p ∈ T, K.lookup p.2 = none
  k1 : mainGlobals ∉ T.map (·.2)
  k2 : builtinsNs ∉ T.map (·.2)
  k3 : cStatics ∉ T.map (·.2)
  bm : ∃ bm d sl, mg "__builtins__" = some (.ref bm) ∧ bm ≠ builtinsNs ∧ K.lookup bm = some ⟨.type "module", some builtinsNs, d, sl⟩ ∧ d = .plain
structure St (T : Tabs) (g h : Heap) : Prop where
  old : OldK g h
  keep : ∀ b o, g.get? b = some o → b ∉ T.map (·.2) → h.get? b = some o
  tab : ∀ p ∈ T, ∃ ps ps₀, h.IsCode p.1 p.2 ps ∧ h.TableAt p.1 p.2 ps ∧ g.TableAt p.1 p.2 ps₀
  le : g.objs.size ≤ h.objs.size
noncomputable def isTup (o : Obj) : Prop := o.cls = .type "tuple" ∧ ∃ its n, o.data = .seq its n
structure Mv (T : Tabs) (g : Heap) (W : List Addr) (h h' : Heap) : Prop where
  st : St T g h'
  keep : ∀ b o, h.get? b = some o → b ∉ T.map (·.2) → (b ∉ W ∨ isTup o) → h'.get? b = some o
  there : ∀ b o, h.get? b = some o → ∃ o', h'.get? b = some o'
theorem St.In {T : Tabs} {K : Frag} {mg mb : Str → Option Value} {g h : Heap} (G : Gb T K mg mb g) (S : St T g h) : K.In h := by
  intro a o e
  refine S.keep a o (G.X a o e) fun hm => ?_
  obtain ⟨p, hp, rfl⟩ := List.mem_map.mp hm
  rw [G.kt p hp] at e; cases e
theorem St.ns {T : Tabs} {g h : Heap} {a : Addr} {m : Str → Option Value} (S : St T g h) (hn : g.Ns a m) (ha : a ∉ T.map (·.2)) : h.Ns a m := by
  obtain ⟨o, es, n, ho, r⟩ := hn
  exact ⟨o, es, n, S.keep a o ho ha, r⟩
theorem Mv.refl {T : Tabs} {g h : Heap} {W : List Addr} (S : St T g h) : Mv T g W h h := ⟨S, fun _ _ e _ _ => e, fun _ o e => ⟨o, e⟩⟩
theorem Mv.trans {T : Tabs} {g h h₁ h₂ : Heap} {W W' : List Addr} (x : Mv T g W h h₁) (y : Mv T g W' h₁ h₂) (hw : ∀ b ∈ W', b ∈ W ∨ h.get? b = none) : Mv T g W h h₂ := by
  refine ⟨y.st, fun b o e ht hb => ?_, fun b o e => let ⟨o', e'⟩ := x.there b o e; y.there b o' e'⟩
  refine y.keep b o (x.keep b o e ht hb) ht ?_
  rcases hb with hb | hb
  · left
    intro hm
    rcases hw b hm with q | q
    · exact hb q
    · rw [q] at e; cases e
  · exact .inr hb
structure J (T : Tabs) (g : Heap) (W : List Addr) (h₀ : Heap) (L : Addr) (h : Heap) (m : Str → Option Value) (kn : List (Addr × Obj)) : Prop where
  mv : Mv T g W h₀ h
  ns : h.Ns L m
  Lt : L ∉ T.map (·.2)
  Ln : h₀.get? L = none
  Lg : g.objs.size ≤ L
  has : ∀ p ∈ kn, h.get? p.1 = some p.2 ∧ p.1 ≠ L ∧ p.1 ∉ T.map (·.2) ∧ g.objs.size ≤ p.1
  nd : (kn.map (·.1)).Nodup
  s0 : St T g h₀
section
variable {Pk : Addr → Prop}
variable {T : Tabs} {g h₀ h h' : Heap} {W : List Addr} {L : Addr} {m m' : Str → Option Value} {kn kn' : List (Addr × Obj)}
theorem St.push (S : St T g h) (o : Obj) : St T g (h.push o) := by
  refine ⟨S.old.step_keeps fun b o' e => Heap.get?_push_of_some _ e, fun b o' e ht => Heap.get?_push_of_some _ (S.keep b o' e ht), fun p hp => ?_, ?_⟩
  · obtain ⟨ps, ps₀, a, b, c⟩ := S.tab p hp
    exact ⟨ps, ps₀, a.push o, b.push o, c⟩
  · rw [Heap.size_push]; exact Nat.le_succ_of_le S.le
theorem St.keeps (S : St T g h) (k : ∀ b o, h.get? b = some o → h'.get? b = some o) (hl : h.objs.size ≤ h'.objs.size) : St T g h' := by
  refine ⟨S.old.step_keeps k, fun b o' e ht => k _ _ (S.keep b o' e ht), fun p hp => ?_, Nat.le_trans S.le hl⟩
  obtain ⟨ps, ps₀, a, b, c⟩ := S.tab p hp
  exact ⟨ps, ps₀, a.keeps k, b.keeps k, c⟩
theorem St.same (S : St T g h) {a : Addr} (ha : g.objs.size ≤ a) (hs : Heap.SameBut a h h') : St T g h' := by
  refine ⟨S.old.step_same ha hs, fun b o' e ht => (hs.2 b fun q => ?_).trans (S.keep b o' e ht), fun p hp => ?_, Nat.le_trans S.le (Nat.le_of_eq hs.1.symm)⟩
  · subst q; exact absurd (Heap.lt_size e) (Nat.not_lt.mpr ha)
  · obtain ⟨ps, ps₀, x, y, z⟩ := S.tab p hp
    have hP : p.2 ≠ a := fun q => absurd (Heap.lt_size z.2) (Nat.not_lt.mpr (q ▸ ha))
    obtain ⟨⟨o₁, vs, e₁, r⟩, _⟩ := id z
    have hc : p.1 ≠ a := fun q => absurd (Heap.lt_size e₁) (Nat.not_lt.mpr (q ▸ ha))
    exact ⟨ps, ps₀, x.sameBut hs hc hP, y.sameBut hs hc hP, z⟩
theorem St.notTab (S : St T g h) {b : Addr} {o : Obj} (e : h.get? b = some o) (hc : o.cls ≠ .none) : b ∉ T.map (·.2) := fun hm => by
  obtain ⟨q, hq, rfl⟩ := List.mem_map.mp hm
  obtain ⟨ps, ps₀, x, y, z⟩ := S.tab q hq
  rw [y.2] at e
  cases e
  exact hc rfl
theorem J.old (j : J T g W h₀ L h m kn) {b : Addr} {o : Obj} (e : h₀.get? b = some o) (hb : b ∉ W ∨ isTup o) (hc : o.cls ≠ .none := by nofun) : h.get? b = some o := j.mv.keep b o e (j.s0.notTab e hc) hb
theorem J.get (j : J T g W h₀ L h m kn) {a : Addr} {o : Obj} (hm : (a, o) ∈ kn) : h.get? a = some o := (j.has _ hm).1
theorem J.store (j : J T g W h₀ L h m kn) (hn : h'.Ns L m') (hs : Heap.SameBut L h h') : J T g W h₀ L h' m' kn := by
  have keep : ∀ b o, h₀.get? b = some o → b ∉ T.map (·.2) → (b ∉ W ∨ isTup o) → h'.get? b = some o := fun b o e ht hb => (hs.2 b fun q => by rw [q, j.Ln] at e; cases e).trans (j.mv.keep b o e ht hb)
  have there : ∀ b o, h₀.get? b = some o → ∃ o', h'.get? b = some o' := fun b o e => by
    obtain ⟨o', e'⟩ := j.mv.there b o e
    exact ⟨o', (hs.2 b fun q => by rw [q, j.Ln] at e; cases e).trans e'⟩
  exact ⟨⟨j.mv.st.same j.Lg hs, keep, there⟩, hn, j.Lt, j.Ln, j.Lg, fun p hp => ⟨(hs.2 p.1 (j.has p hp).2.1).trans (j.has p hp).1, (j.has p hp).2⟩, j.nd, j.s0⟩
theorem J.storeMv (j : J T g W h₀ L h m kn) (hn : h'.Ns L m') (hs : Heap.SameBut L h h') : Mv T g [L] h h' := by
  refine ⟨j.mv.st.same j.Lg hs, fun b o e ht hb => (hs.2 b fun q => ?_).trans e, fun b o e => ?_⟩
  · subst q
    rcases hb with hb | hb
    · exact hb (.head _)
    · obtain ⟨o', es, n, e', d, _⟩ := j.ns
      obtain ⟨_, its, k, d'⟩ := hb
      rw [e'] at e
      cases e
      rw [d] at d'
      cases d'
  · by_cases q : b = L
    · subst q
      obtain ⟨o', es, n, e', _⟩ := hn
      exact ⟨o', e'⟩
    · exact ⟨o, (hs.2 b q).trans e⟩
theorem J.push (j : J T g W h₀ L h m kn) (o : Obj) (hf : o.isFreed = false) : J T g W h₀ L (h.push o) m ((h.objs.size, o) :: kn) := by
  have keep : ∀ b o', h.get? b = some o' → (h.push o).get? b = some o' := fun b o' e => Heap.get?_push_of_some _ e
  obtain ⟨oL, es, n, hL, r⟩ := j.ns
  refine ⟨⟨j.mv.st.push o, fun b o' e ht hb => keep _ _ (j.mv.keep b o' e ht hb), fun b o' e => let ⟨o₁, e₁⟩ := j.mv.there b o' e; ⟨o₁, keep _ _ e₁⟩⟩, ⟨oL, es, n, keep _ _ hL, r⟩, j.Lt, j.Ln, j.Lg, fun p hp => ?_, ?_, j.s0⟩
  · rcases List.mem_cons.mp hp with rfl | hp
    · refine ⟨Heap.get?_push_size _ hf, Nat.ne_of_gt (Heap.lt_size hL), fun hm => ?_, j.mv.st.le⟩
      obtain ⟨q, hq, e⟩ := List.mem_map.mp hm
      obtain ⟨ps, ps₀, x, y, z⟩ := j.mv.st.tab q hq
      have := Heap.lt_size y.2
      rw [e] at this
      exact absurd this (Nat.lt_irrefl _)
    · exact ⟨keep _ _ (j.has p hp).1, (j.has p hp).2⟩
  · rw [List.map_cons]
    refine List.nodup_cons.mpr ⟨fun hm => ?_, j.nd⟩
    obtain ⟨q, hq, e⟩ := List.mem_map.mp hm
    have := Heap.lt_size (j.has q hq).1
    rw [e] at this
    exact absurd this (Nat.lt_irrefl _)
theorem J.new (j : J T g W h₀ L h m kn) : h₀.get? h.objs.size = none := by
  cases q : h₀.get? h.objs.size with
  | none => rfl
  | some o =>
    obtain ⟨o', e'⟩ := j.mv.there _ _ q
    exact absurd (Heap.lt_size e') (Nat.lt_irrefl _)
theorem J.update (j : J T g W h₀ L h m kn) {a : Addr} {o o' : Obj} {f : Obj → Obj} (i : Nat) (hi : kn[i]? = some (a, o)) (hw : a ∈ W ∨ h₀.get? a = none) (hc : o.cls ≠ .type "tuple") (e : f o = o') (hf : o'.isFreed = false) :
    J T g W h₀ L (h.update a f) m (kn.set i (a, o')) := by
  have hm : (a, o) ∈ kn := List.mem_of_getElem? hi
  have z := j.has _ hm
  have hs : Heap.SameBut a h (h.update a f) := Heap.SameBut.update ..
  have ge : (h.update a f).get? a = some o' := by
    have := Heap.get?_update_self f z.1 (by rw [e]; exact hf)
    rw [this, e]
  obtain ⟨oL, es, n, hL, r⟩ := j.ns
  refine ⟨⟨j.mv.st.same z.2.2.2 hs, fun b ob eb ht hb => ?_, fun b ob eb => ?_⟩, ⟨oL, es, n, (hs.2 L (Ne.symm z.2.1)).trans hL, r⟩, j.Lt, j.Ln, j.Lg, fun p hp => ?_, ?_, j.s0⟩
  · have := j.mv.keep b ob eb ht hb
    refine (hs.2 b fun q => ?_).trans this
    subst q
    rw [z.1] at this
    cases this
    rcases hw with hw | hw
    · rcases hb with hb | hb
      · exact hb hw
      · exact hc hb.1
    · rw [hw] at eb; cases eb
  · obtain ⟨o₁, e₁⟩ := j.mv.there b ob eb
    by_cases q : b = a
    · subst q; exact ⟨_, ge⟩
    · exact ⟨o₁, (hs.2 b q).trans e₁⟩
  · rcases List.mem_or_eq_of_mem_set hp with hp' | rfl
    · by_cases q : p.1 = a
      · -- the same address: by Nodup it is the i-th, which was replaced
        obtain ⟨k, hk⟩ := List.getElem?_of_mem hp
        by_cases hki : k = i
        · subst hki
          have hl : k < kn.length := (List.getElem?_eq_some_iff.mp hi).1
          rw [List.getElem?_set_self hl] at hk
          cases hk
          exact ⟨ge, z.2⟩
        · exfalso
          rw [List.getElem?_set_ne (fun q => hki q.symm)] at hk
          have hk' : (kn.map (·.1))[k]? = some a := by rw [List.getElem?_map, hk, ← q]; rfl
          have hi' : (kn.map (·.1))[i]? = some a := by rw [List.getElem?_map, hi]; rfl
          have hlk := (List.getElem?_eq_some_iff.mp hk').1
          exact hki ((List.getElem?_inj hlk j.nd).mp (hk'.trans hi'.symm))
      · exact ⟨(hs.2 p.1 q).trans (j.has p hp').1, (j.has p hp').2⟩
    · exact ⟨ge, z.2⟩
  · rw [List.map_set]
    have hi' : (kn.map (·.1))[i]? = some a := by rw [List.getElem?_map, hi]; rfl
    obtain ⟨hl, he⟩ := List.getElem?_eq_some_iff.mp hi'
    have : (kn.map (·.1)).set i a = kn.map (·.1) := by
      rw [← he]; exact List.set_getElem_self hl
    rw [show (a, o').1 = a from rfl, this]
    exact j.nd
theorem J.moved {ha : Heap} {s₁ s₂ : Shared} {wr : List Addr} {Gs : Array GenState → Array GenState → Prop} (ja : J T g W h₀ L ha m kn) (j : J T g W h₀ L s₁.heap m kn) (mv : Moved wr Gs s₁ s₂) (hwr : ∀ b ∈ wr, ha.objs.size ≤ b) : J T g W h₀ L s₂.heap m kn := by
  have nw : ∀ {b o}, ha.get? b = some o → b ∉ wr := fun e hb => absurd (Heap.lt_size e) (Nat.not_lt.mpr (hwr _ hb))
  have nw0 : ∀ {b o}, h₀.get? b = some o → b ∉ wr := fun e => let ⟨_, e'⟩ := ja.mv.there _ _ e; nw e'
  have nwt : ∀ p ∈ T, p.2 ∉ wr ∧ p.1 ∉ wr := fun p hp => by
    obtain ⟨ps, ps₀, x, y, z⟩ := ja.mv.st.tab p hp
    obtain ⟨⟨o₁, vs, e₁, r⟩, _⟩ := id y
    exact ⟨nw y.2, nw e₁⟩
  obtain ⟨oL, es, n, eL, r⟩ := j.ns
  obtain ⟨oL', es', n', eL', r'⟩ := ja.ns
  have hL := mv.heap _ _ (nw eL') eL
  have ngw : ∀ {b o}, g.get? b = some o → b ∉ wr := fun e => let ⟨_, e'⟩ := ja.mv.st.old.there _ _ e; nw e'
  refine ⟨⟨⟨?_, fun b o e ht => mv.heap _ _ (ngw e) (j.mv.st.keep b o e ht), fun p hp => ?_, Nat.le_of_lt (Nat.lt_of_le_of_lt j.Lg (Heap.lt_size hL))⟩, fun b o e ht hb => mv.heap _ _ (nw0 e) (j.mv.keep b o e ht hb), fun b o e => ?_⟩, ⟨oL, es, n, hL, r⟩, j.Lt, j.Ln, j.Lg, fun p hp => ⟨mv.heap _ _ (nw (ja.has p hp).1) (j.has p hp).1, (j.has p hp).2⟩, j.nd, j.s0⟩
  · have K := j.mv.st.old
    refine ⟨fun b o e => ?_, fun b o e => let ⟨o', ho'⟩ := K.there b o e; ⟨o', mv.heap _ _ (ngw e) ho'⟩⟩
    rcases K.old b o e with x | ⟨t, hc, vs, more, hv, x⟩ | ⟨rfl, hc, ⟨o', es, n, ho', r⟩, z⟩
    · exact .inl (mv.heap _ _ (ngw e) x)
    · exact .inr (.inl ⟨t, hc, vs, more, hv, mv.heap _ _ (ngw e) x⟩)
    · exact .inr (.inr ⟨rfl, hc, ⟨o', es, n, mv.heap _ _ (ngw e) ho', r⟩, fun key => by rw [OldK.staticOf_congr ((mv.heap _ _ (ngw e) ho').trans ho'.symm) key]; exact z key⟩)
  · obtain ⟨ps, ps₀, x, y, z⟩ := j.mv.st.tab p hp
    obtain ⟨n2, n1⟩ := nwt p hp
    refine ⟨ps, ps₀, ?_, ?_, z⟩
    · obtain ⟨o, vs, file, tf, flags, tg, inF, text, tt, op, a1, a2, a3, a4, a5, a6, a7, a8, a9, a10, a11⟩ := x
      exact ⟨o, vs, file, tf, flags, tg, inF, text, tt, op, mv.heap _ _ n1 a1, a2, a3, a4, a5, a6, a7, mv.heap _ _ n2 a8, a9, a10, a11⟩
    · obtain ⟨⟨o, vs, a1, a2⟩, b⟩ := y
      exact ⟨⟨o, vs, mv.heap _ _ n1 a1, a2⟩, mv.heap _ _ n2 b⟩
  · obtain ⟨o', e'⟩ := j.mv.there b o e
    exact ⟨o', mv.heap _ _ (nw0 e) e'⟩
end
end Mine
end
section
open PySem PySem.W PySem.Calls PyProof.Rows
namespace Mine
noncomputable abbrev PR : Program := PySem.Challenge.rw_tc0069_02.row.toRowW.prog
noncomputable def topSt (i : Nat) : Stmt := PySem.Challenge.pw_tc0069_02.main.body.getD i (.Pass default)
noncomputable def clsBody : Stmt → List Stmt | .ClassDef _ _ _ b .. => b | _ => []
noncomputable def inCls (i j : Nat) : Stmt := (clsBody (topSt i)).getD j (.Pass default)
noncomputable def fBody : Stmt → List Stmt | .FunctionDef _ _ b .. => b | _ => []
noncomputable def fArgs : Stmt → Arguments | .FunctionDef _ a .. => a | _ => default
noncomputable def fScope : Stmt → Scope | .FunctionDef _ _ _ _ _ _ sc .. => sc | _ => default
noncomputable def FnAt (K : Frag) (a : Addr) (s : Stmt) (qual : Str) (cl : List (Str × Addr)) (dV : Value) (cd : Addr) : Prop :=
  ∃ oc od osl name kV doc pm an ct, K.lookup a = some ⟨oc, od, .func (fnX name qual (fArgs s) (fBody s) (fScope s) cl dV kV doc pm an (.ref cd) ct), osl⟩ ∧ codeIn K (.ref cd) qual = true
noncomputable abbrev accObj (C d : Addr) (its : Array Value) (ep : Nat) : Obj := { cls := .ref C, dict := some d, data := .seq its ep }
noncomputable abbrev tupObj (vs : List Value) : Obj := { cls := .type "tuple", data := .seq vs.toArray }
structure Rm (A : Around) (n : Nat) : Prop where
  d : A.depth + n ≤ 900
  h : A.handled = none
  u : A.units + 10 * n ≤ 9000
theorem Rm.lt {A : Around} {n : Nat} (r : Rm A n) : A.depth < recursionLimit := by have := r.d; unfold recursionLimit; lia
theorem Rm.mono {A : Around} {n k : Nat} (r : Rm A n) (h : k ≤ n) : Rm A k := ⟨by have := r.d; lia, r.h, by have := r.u; lia⟩
theorem Rm.deeper {A : Around} {n : Nat} {env : Env} (r : Rm A (n + 1)) : Rm (A.deeper env) n := ⟨by have := r.d; show A.depth + 1 + n ≤ 900; lia, r.h, by have := r.u; show A.units + 3 + 10 * n ≤ 9000; lia⟩
theorem Rm.in1 {A : Around} {n : Nat} (r : Rm A (n + 1)) : Rm A.in1 n := ⟨by have := r.d; show A.depth + n ≤ 900; exact Nat.le_of_lt this, r.h, by have := r.u; show A.units + 1 + 10 * n ≤ 9000; lia⟩
theorem Rm.room {A : Around} {n : Nat} (r : Rm A n) : A.units < cLine := by have := r.u; unfold cLine; lia
noncomputable def Ok (s s' : Shared) : Prop := s'.os = s.os ∧ (AllBare s.gens → AllBare s'.gens)
theorem Ok.refl (s : Shared) : Ok s s := ⟨rfl, id⟩
theorem Ok.trans {a b c : Shared} (x : Ok a b) (y : Ok b c) : Ok a c := ⟨y.1.trans x.1, fun h => y.2 (x.2 h)⟩
theorem Ok.heap {s : Shared} {h : Heap} {t : Nat} : Ok s { s with heap := h, toks := t } := ⟨rfl, id⟩
section
variable {Pk : Addr → Prop}
variable {T : Tabs} {K : Frag} {mg mb : Str → Option Value} {prog : Program} {w : World} {A : Around} {s : Shared} {g h₀ h h' : Heap} {W : List Addr} {L : Addr} {m m' : Str → Option Value} {kn kn' : List (Addr × Obj)}
  {R : Result → Shared → Prop} {E : Value → Shared → Prop}
noncomputable def Kn (T : Tabs) (g h : Heap) (kn : List (Addr × Obj)) : Prop := (∀ p ∈ kn, h.get? p.1 = some p.2 ∧ p.1 ∉ T.map (·.2) ∧ g.objs.size ≤ p.1) ∧ (kn.map (·.1)).Nodup
theorem Kn.nil : Kn T g h [] := ⟨fun _ hp => (nomatch hp), List.nodup_nil⟩
theorem j_call {qual : Str} {st : Stmt} {cl : List (Str × Addr)} {dV : Value} {f c : Addr} {args : Args} {binds : List (Str × Value)}
    (W : List Addr) (kn : List (Addr × Obj)) (G : Gb T K mg mb g) (S : St T g s.heap) (hkn : Kn T g s.heap kn)
    (fa : FnAt K f st qual cl dV c) (hroom : A.depth < recursionLimit)
    (hbind : ∀ name kV doc pm an ct, BindsTo s (fnX name qual (fArgs st) (fBody st) (fScope st) cl dV kV doc pm an (.ref c) ct) args binds) (hloc : ∀ y ∈ binds, (fScope st).names.lookup y.1 = some .local)
    (hcell : ∀ x ∈ (fScope st).names, x.2 ≠ .cell)
    (h : ∀ L h₁ tk, J T g W s.heap L h₁ (fun y => binds.reverse.lookup y) kn →
      wpAny (model prog w) (A.deeper (envX qual (fScope st) L f (.ref c) cl)) (execs (fBody st) (envX qual (fScope st) L f (.ref c) cl))
        (fun fl s' => R (.ok (.ret (match fl with | .ret v => v | _ => .none))) s') (fun _ _ => False) { s with heap := h₁, toks := tk })
    (hco : (fScope st).isCoroutine = false) (hgen : (fScope st).isGenerator = false) (hk : (fScope st).kind = .function) : codeAny (model prog w) A (.call (.ref f) args) R s := by
  obtain ⟨oc, od, osl, name, kV, doc, pm, an, ct, ho, hcd⟩ := fa
  have X := S.In G
  refine codeAny_call_def (fd := fnX name qual (fArgs st) (fBody st) (fScope st) cl dV kV doc pm an (.ref c) ct) (body := (fBody st)) (binds := binds) hroom (X _ _ ho) rfl (G.nolim.elim fun mc x => ⟨mc, S.ns x.1 G.k3, x.2⟩) (codeRec_of X hcd) rfl (hbind _ _ _ _ _ _) hcell hloc (fun h₁ hns hk₁ => ?_) hco hgen hk
  refine qg fun G kG => ?_
  obtain ⟨oL, es, n, hL, r⟩ := id hns
  refine kG ?_
  have hle : s.heap.objs.size ≤ h₁.objs.size := Nat.le_of_lt (Heap.lt_size hL)
  have notT : ∀ {b : Addr}, s.heap.objs.size ≤ b → b ∉ T.map (·.2) := fun {b} hb hm => by
    obtain ⟨q, hq, e⟩ := List.mem_map.mp hm
    obtain ⟨ps, ps₀, x, y, z⟩ := S.tab q hq
    have := Heap.lt_size y.2
    rw [e] at this
    exact absurd this (Nat.not_lt.mpr hb)
  refine wpAny_mono (h s.heap.objs.size h₁ _ ⟨⟨S.keeps hk₁ hle, fun b o e _ _ => hk₁ b o e, fun b o e => ⟨o, hk₁ b o e⟩⟩, hns, notT (Nat.le_refl _), ?_, S.le, fun p hp => ⟨hk₁ _ _ (hkn.1 p hp).1, Nat.ne_of_lt (Heap.lt_size (hkn.1 p hp).1), (hkn.1 p hp).2⟩, hkn.2, S⟩) (fun _ _ x => x) fun _ _ x => x.elim
  cases q : s.heap.get? s.heap.objs.size with
  | none => rfl
  | some o => exact absurd (Heap.lt_size q) (Nat.lt_irrefl _)
theorem J.call (j : J T g W h₀ L h m kn) {W' : List Addr} (mv : Mv T g W' h h') (hL : L ∉ W') (hW : ∀ b ∈ W', b ∈ W ∨ h₀.get? b = none) (kn' : List (Addr × Obj))
    (hkn : Kn T g h' kn') (hne : ∀ p ∈ kn', p.1 ≠ L) : J T g W h₀ L h' m kn' := by
  refine qg fun G kG => ?_
  obtain ⟨oL, es, n, e, r⟩ := j.ns
  refine kG ?_
  exact ⟨j.mv.trans mv hW, ⟨oL, es, n, mv.keep L oL e j.Lt (.inl hL), r⟩, j.Lt, j.Ln, j.Lg, fun p hp => ⟨(hkn.1 p hp).1, hne p hp, (hkn.1 p hp).2⟩, hkn.2, j.s0⟩
theorem J.call0 (j : J T g W h₀ L h m kn) (mv : Mv T g [] h h') : J T g W h₀ L h' m kn := by
  refine j.call mv (fun hm => nomatch hm) (fun b hb => nomatch hb) kn ⟨fun p hp => ⟨mv.keep _ _ (j.has p hp).1 (j.has p hp).2.2.1 (.inl fun hm => nomatch hm), (j.has p hp).2.2⟩, j.nd⟩ fun p hp => (j.has p hp).2.1
theorem J.sub (j : J T g W h₀ L h m kn) (hs : kn'.Sublist kn) : J T g W h₀ L h m kn' := ⟨j.mv, j.ns, j.Lt, j.Ln, j.Lg, fun p hp => j.has p (hs.subset hp), (hs.map _).nodup j.nd, j.s0⟩
variable {qual x : Str} {scope : Scope} {f : Addr} {cdv : Value} {cl : List (Str × Addr)} {pos : Pos} {v : Value}
theorem j_local {Q : Value → Shared → Prop} (j : J T g W h₀ L s.heap m kn) (hv : m x = some v) (h : Q v s)
    (hk : scope.kind = .function := by rfl) (hl : (envX qual scope L f cdv cl).kindOf x = some .local := by rfl) (hd : (x == ("__debug__" : Str)) = false := by decide) :
    wpAny (model prog w) A (eval (.Name x pos) (envX qual scope L f cdv cl)) Q E s := wpAny_Name (wpAny_loadName_local hk hl j.ns hv h) hd
theorem j_global {Q : Value → Shared → Prop} (G : Gb T K mg mb g) (j : J T g W h₀ L s.heap m kn) (hv : mg x = some v) (h : Q v s)
    (hk : scope.kind = .function := by rfl) (hl : (envX qual scope L f cdv cl).kindOf x = some .globalImplicit := by rfl) (hd : (x == ("__debug__" : Str)) = false := by decide) :
    wpAny (model prog w) A (eval (.Name x pos) (envX qual scope L f cdv cl)) Q E s :=
  Name_function_global hk hl (loadGlobal_global (env := envX qual scope L f cdv cl) (j.mv.st.ns G.mgN G.k1) hv h) hd
theorem j_builtin {Q : Value → Shared → Prop} (G : Gb T K mg mb g) (j : J T g W h₀ L s.heap m kn) (hv : mg x = none) (hb : bootBuiltins x = some v) (h : Q v s)
    (hn : x ≠ "__name__" := by decide)
    (hk : scope.kind = .function := by rfl) (hl : (envX qual scope L f cdv cl).kindOf x = some .globalImplicit := by rfl) (hd : (x == ("__debug__" : Str)) = false := by decide) :
    wpAny (model prog w) A (eval (.Name x pos) (envX qual scope L f cdv cl)) Q E s :=
  Name_function_global hk hl (loadGlobal_builtin (env := envX qual scope L f cdv cl) (j.mv.st.ns G.mgN G.k1) hv (j.mv.st.ns G.mbN G.k2) ((G.boot x hn).trans hb) h) hd
theorem j_store {Q : Unit → Shared → Prop} (j : J T g W h₀ L s.heap m kn)
    (h : ∀ h' tk, J T g W h₀ L h' (fun y => if y = x then some v else m y) kn → Q () { s with heap := h', toks := tk })
    (hk : scope.kind = .function := by rfl) (hl : (envX qual scope L f cdv cl).kindOf x = some .local := by rfl) :
    wpAny (model prog w) A (storeName (envX qual scope L f cdv cl) x v) Q E s :=
  wpAny_storeName_local hl j.ns (fun h' hn hs => h h' _ (j.store hn hs)) (by show (scope.kind == .class || (scope.kind == .module && L != mainGlobals)) = false; rw [hk]; rfl)
theorem j_storeK {Q : Unit → Shared → Prop} (j : J T g W h₀ L s.heap m kn)
    (h : ∀ h' tk, J T g W h₀ L h' (fun y => if y = x then some v else m y) kn → Mv T g [L] s.heap h' → Q () { s with heap := h', toks := tk })
    (hk : scope.kind = .function := by rfl) (hl : (envX qual scope L f cdv cl).kindOf x = some .local := by rfl) :
    wpAny (model prog w) A (storeName (envX qual scope L f cdv cl) x v) Q E s :=
  wpAny_storeName_local hl j.ns (fun h' hn hs => h h' _ (j.store hn hs) (j.storeMv hn hs)) (by show (scope.kind == .class || (scope.kind == .module && L != mainGlobals)) = false; rw [hk]; rfl)
theorem j_newTuple {vs : List Value} {Q : Value → Shared → Prop} (j : J T g W h₀ L s.heap m kn)
    (h : ∀ a h', J T g W h₀ L h' m ((a, ({ cls := .type "tuple", data := .seq vs.toArray } : Obj)) :: kn) → h₀.get? a = none → s.heap.get? a = none → Q (.ref a) { s with heap := h' }) (hsz : vs.length ≤ sizeLine := by size_fits) :
    wpAny (model prog w) A (newTuple vs) Q E s := wpAny_newObj_type (h _ _ (j.push _ rfl) j.new (by
      cases q : s.heap.get? s.heap.objs.size with
      | none => rfl
      | some o => exact absurd (Heap.lt_size q) (Nat.lt_irrefl _))) (by show vs.toArray.size ≤ sizeLine; rw [List.size_toArray]; exact hsz)
theorem j_newList {vs : List Value} {Q : Value → Shared → Prop} (j : J T g W h₀ L s.heap m kn)
    (h : ∀ a h', J T g W h₀ L h' m ((a, ({ cls := .type "list", data := .seq vs.toArray } : Obj)) :: kn) → h₀.get? a = none → s.heap.get? a = none → Q (.ref a) { s with heap := h' }) (hsz : vs.length ≤ sizeLine := by size_fits) :
    wpAny (model prog w) A (newList vs) Q E s := wpAny_newObj_type (h _ _ (j.push _ rfl) j.new (by
      cases q : s.heap.get? s.heap.objs.size with
      | none => rfl
      | some o => exact absurd (Heap.lt_size q) (Nat.lt_irrefl _))) (by show vs.toArray.size ≤ sizeLine; rw [List.size_toArray]; exact hsz)
theorem j_attr {expr : Bool} {C xa : Addr} {ox : Obj} {es : List DictEntry} {n : Nat} {name : Str} {attr : Option Value} {Q : Value → Shared → Prop} (G : Gb T K mg mb g) (S : St T g s.heap) (I : InstAt s.heap xa ox C (some (dictOf es n)))
    (hg : plainGet K C "" = true) (hh : hasDictIn K C = true) (ha : findIn K (.ref C) name = some attr) (hn : noGet K attr = true) (hl : getL name es = some (some v)) (hv : handedIn v = true) (h : Q v { s with toks := s.toks + 1 }) :
    wpAny (model prog w) A (getAttr (.ref xa) name expr) Q E s :=
  get_value (S.In G) I (plainGet_of (name := "") hg).1 (findObj_own hh ha hn hl) hv h
theorem j_meth {pl : Sem Bool} {C xa : Addr} {ox : Obj} {es : List DictEntry} {n : Nat} {name : Str} {f : Addr} {Q : Value × List Value → Shared → Prop} (G : Gb T K mg mb g) (S : St T g s.heap) (I : InstAt s.heap xa ox C (some (dictOf es n)))
    (hg : plainGet K C "" = true) (hf : findIn K (.ref C) name = some (some (.ref f))) (ht : isFn K (.ref f) = true) (hl : getL name es = some none) (h : Q (.ref f, [.ref xa]) s) : wpAny (model prog w) A (getMethod (.ref xa) name pl) Q E s :=
  method_fn (S.In G) I (plainGet_of (name := "") hg).1 (plainGet_of (name := "") hg).2 hf (beq_iff_eq.mp ht) (by show (lookIn name (dictOf es n)).map _ = _; rw [lookIn_dict, hl]; rfl) h
theorem j_callWith {env : Env} {fv : Value} {first : List Value} {e : Expr} {rest : List Expr} {Q : Value → Shared → Prop} (hk : keepIn K fv = true)
    (h : wpAny (model prog w) A (spliced (backTo pos (starEach (e :: rest) env))) (fun vs s₁ => K.In s₁.heap ∧ wpAny (model prog w) A (call fv (first ++ vs)) Q E s₁) E s)
    (he : starEach (e :: rest) env = (false, eval e env) :: starEach rest env := by rfl) (hplain : (backTo pos (starEach rest env)).any (·.1) = false := by rfl) :
    wpAny (model prog w) A (callWith pos fv first (backTo pos (starEach (e :: rest) env)) []) Q E s := by
  rw [he] at h ⊢
  exact callWith_of (by show ((false || (backTo pos (starEach rest env)).any (·.1)) || false) = false; rw [hplain]; rfl) (keeps_K hk) (evalArgs_plain h)
theorem j_callWith0 {env : Env} {fv : Value} {first : List Value} {Q : Value → Shared → Prop} (G : Gb T K mg mb g) (S : St T g s.heap) (hk : keepIn K fv = true) (h : wpAny (model prog w) A (call fv (first ++ [])) Q E s) : wpAny (model prog w) A (callWith pos fv first (backTo pos (starEach [] env)) []) Q E s :=
  callWith_of rfl (keeps_K hk) (evalArgs_nil3 ⟨S.In G, h⟩)
end
end Mine
end
section
open PySem PySem.W PySem.Calls PyProof.Rows Builtin
namespace Mine
section
variable {prog : Program} {w : World} {A : Around} {E : Value → Shared → Prop} {s : Shared}
theorem check_meth {M : Model} {i owner n : String} {self : Value} {rest : List Value} {kw : List (Str × Value)} {Q : Unit → Shared → Prop}
    (hk : builtinKind i = some .method) (hs : splitId i = some (owner, n)) (hi : Looks M s.heap (isInstance self (.type owner)) true) (ha : argsOk i ⟨self :: rest, kw⟩) (q : Q () s) :
    wpAny M A (checkBuiltinCall i ⟨self :: rest, kw⟩) Q E s := by
  simp only [checkBuiltinCall, hk, hs]
  refine wpAny_bind (hi.here ?_)
  simp only [Bool.not_true, Bool.false_eq_true, if_false]
  cases hsig : Manifest.signature? i with
  | none => exact wpAny_pure q
  | some sig =>
    simp only [argsOk, hsig] at ha
    have h2 : Bind.checkArgs i sig ⟨self :: rest, kw⟩ = pure () := ha
    show wpAny M A (Bind.checkArgs i sig ⟨self :: rest, kw⟩) Q E s
    rw [h2]; exact wpAny_pure q
structure LstAt (M : Model) (h : Heap) (a : Addr) (o : Obj) (its : Array Value) (ep : Nat) : Prop where
  at_ : h.get? a = some o
  data : o.data = .seq its ep
  inst : Looks M h (isInstance (.ref a) (.type "list")) true
theorem LstAt.exact {M : Model} {h : Heap} {a : Addr} {its : Array Value} {ep : Nat} (e : h.get? a = some { cls := .type "list", data := .seq its ep }) : LstAt M h a { cls := .type "list", data := .seq its ep } its ep :=
  ⟨e, rfl, ((Looks.ld e).andThen .now : Looks M h (typeOf (.ref a)) (.type "list")).andThen (Looks.of_pure (by rw [isSubtype_type]; kernel_rfl))⟩
theorem LstAt.acc {M : Model} {K : Frag} {h : Heap} (X : K.In h) {C d a : Addr} {its : Array Value} {ep : Nat} (hl : mroIn K C (.type "list") = some true) (e : h.get? a = some (accObj C d its ep)) : LstAt M h a (accObj C d its ep) its ep :=
  ⟨e, rfl, ((Looks.ld e).andThen .now : Looks M h (typeOf (.ref a)) (.ref C)).andThen (looks_mroIn X hl)⟩
theorem seqIndex_last (n : Nat) : seqIndex? (-1) (n + 1) = some n := by
  have h : (-1 + ((n + 1 : Nat) : Int)) = (n : Int) := by lia
  unfold seqIndex?
  simp only [show (-1 : Int) < 0 from by decide, if_true, h]
  rw [if_pos (by simp only [Bool.and_eq_true, decide_eq_true_eq]; lia)]
  simp
theorem kind_append : builtinKind "list.append" = some .method := by rw [builtinKind_eq_fast]; kernel_rfl
theorem kind_pop : builtinKind "list.pop" = some .method := by rw [builtinKind_eq_fast]; kernel_rfl
theorem split_append : splitId "list.append" = some ("list", "append") := by kernel_rfl
theorem list_append_any {a : Addr} {o : Obj} {its : Array Value} {ep : Nat} {x : Value} {Q : Value → Shared → Prop} (L : LstAt (model prog w) s.heap a o its ep) (hsz : its.size ≤ sizeLine)
    (h : Q .none { s with heap := s.heap.update a (Obj.mapSeq (·.push x)) }) : wpAny (model prog w) A (call (.builtin "list.append") [.ref a, x]) Q E s := by
  refine wpAny_call (codeAny_call_builtin PySem.F.slot_list_append.plain PySem.F.entry_list_append (check_meth kind_append split_append L.inst (PySem.F.args_list_append_2 _ _) ?_))
  show wpAny _ _ (updateSeq a (·.push x) >>= fun _ => ret .none) _ _ s
  exact wpAny_bind (wpAny_updateSeq L.at_ L.data (wpAny_pure h) hsz (by rw [Array.size_push]; exact Nat.lt_succ_of_le hsz))
theorem pop_eq (self : Value) : Builtin.«list.pop» ⟨[self], []⟩ = (do
    let xs ← List.listItems self
    if xs.isEmpty then rule "list.pop.empty"; raiseError "IndexError" "pop from empty list"
    match (seqIndex? (-1) xs.size).bind fun k => xs[k]?.map (k, ·) with
    | some (k, x) => List.listUpdate self (·.eraseIdxIfInBounds k); ret x
    | none => rule "list.pop.out-of-range"; raiseError "IndexError" "pop index out of range") := by kernel_rfl
end
end Mine
end
section
open PySem PySem.W PySem.Calls PyProof.Rows Builtin
namespace Mine
section
variable {prog : Program} {w : World} {M : Model} {A : Around} {E : Value → Shared → Prop} {h : Heap} {g : Array GenState} {d : Drawn} {t : Nat} {os : OsState}
theorem slot_md_get : Slot "method_descriptor" "__get__" "method_descriptor.__get__" := .of (owner := "method_descriptor") (n := "__get__") (by rw [typeLookup_type, builtinLookup_eq_fast]; kernel_rfl) (by decide +kernel) (by decide +kernel) (by decide +kernel)
  (by first | exact .inl (by decide +kernel) | exact .inr (by decide +kernel)) (by rw [isSubtype_type]; kernel_rfl)
theorem slot_wd_get : Slot "wrapper_descriptor" "__get__" "wrapper_descriptor.__get__" := .of (owner := "wrapper_descriptor") (n := "__get__") (by rw [typeLookup_type, builtinLookup_eq_fast]; kernel_rfl) (by decide +kernel) (by decide +kernel) (by decide +kernel)
  (by first | exact .inl (by decide +kernel) | exact .inr (by decide +kernel)) (by rw [isSubtype_type]; kernel_rfl)
theorem entry_md_get : entryFor table "method_descriptor.__get__" = some Builtin.«method_descriptor.__get__» := entryFor_of_tree (by kernel_rfl)
theorem entry_wd_get : entryFor table "wrapper_descriptor.__get__" = some Builtin.«wrapper_descriptor.__get__» := entryFor_of_tree (by kernel_rfl)
theorem args_md_get (a b c : Value) : argsOk "method_descriptor.__get__" ⟨[a, b, c], []⟩ := by unfold argsOk; kernel_rfl
theorem args_wd_get (a b c : Value) : argsOk "wrapper_descriptor.__get__" ⟨[a, b, c], []⟩ := by unfold argsOk; kernel_rfl
theorem type_pop : typeOf (.builtin "list.pop") = pure (.type "method_descriptor") := PySem.F.type_list_pop
theorem type_len : typeOf (.builtin "list.__len__") = pure (.type "wrapper_descriptor") := by show builtinType _ = _; rw [builtinType_eq_fast]; kernel_rfl
theorem type_init : typeOf (.builtin "list.__init__") = pure (.type "wrapper_descriptor") := by show builtinType _ = _; rw [builtinType_eq_fast]; kernel_rfl
noncomputable def Gets (M : Model) (h : Heap) (id dt gid bt : String) : Prop :=
  typeOf (.builtin id) = pure (.type dt) ∧ typeLookup (.type dt) "__get__" = pure (some (.builtin gid)) ∧
    ∀ (A : Around) (E : Value → Shared → Prop) (x C : Addr) (g : Array GenState) (d : Drawn) (t : Nat) (os : OsState) (Q : Value → Shared → Prop), Looks M h (isInstance (.ref x) (.type "list")) true →
      Q (.ref h.objs.size) ⟨h.push { cls := .type bt, data := .fields #[.builtin id, .ref x] }, g, d, t, os⟩ → wpAny M A (call (.builtin gid) [.builtin id, .ref x, .ref C]) Q E ⟨h, g, d, t, os⟩
noncomputable def chk (x : Addr) (n : String) : Sem Unit := do
  if !(← isInstance (.ref x) (.type "list")) then
    rule "descr.get.wrong-instance"
    raiseError "TypeError" s!"descriptor '{(Str.ofString n).toString}' for '{← typeName (.type "list")}' objects doesn't apply to a '{← typeNameOf (.ref x)}' object"
theorem chk_ok {x : Addr} {n : String} {Q : Unit → Shared → Prop} (hi : Looks M h (isInstance (.ref x) (.type "list")) true) (hq : Q () ⟨h, g, d, t, os⟩) : wpAny M A (chk x n) Q E ⟨h, g, d, t, os⟩ := by
  unfold chk
  refine wpAny_bind (hi.at ?_)
  simp only [Bool.not_true, Bool.false_eq_true, if_false]
  exact wpAny_pure hq
theorem md_pop_eq (x C : Addr) : Builtin.«method_descriptor.__get__» ⟨[.builtin "list.pop", .ref x, .ref C], []⟩ = (do
      chk x "pop"
      ret (← newFields "builtin_function_or_method" [.builtin "list.pop", .ref x])) := by kernel_rfl
theorem wd_len_eq (x C : Addr) : Builtin.«wrapper_descriptor.__get__» ⟨[.builtin "list.__len__", .ref x, .ref C], []⟩ = (do
      chk x "__len__"
      ret (← newFields "method-wrapper" [.builtin "list.__len__", .ref x])) := by kernel_rfl
theorem wd_init_eq (x C : Addr) : Builtin.«wrapper_descriptor.__get__» ⟨[.builtin "list.__init__", .ref x, .ref C], []⟩ = (do
      chk x "__init__"
      ret (← newFields "method-wrapper" [.builtin "list.__init__", .ref x])) := by kernel_rfl
theorem gets_pop : Gets (model prog w) h "list.pop" "method_descriptor" "method_descriptor.__get__" "builtin_function_or_method" := by
  refine ⟨type_pop, slot_md_get.lookup, fun A E x C g d t os Q hi hq => ?_⟩
  refine wpAny_call_entry slot_md_get (s := ⟨h, g, d, t, os⟩) (show typeOf _ = _ from type_pop) entry_md_get ?_ (args_md_get _ _ _)
  rw [md_pop_eq]
  refine wpAny_bind (chk_ok hi (wpAny_bind ?_))
  unfold newFields
  exact wpAny_newObj_type (wpAny_pure ⟨_, rfl, hq⟩) (by size_fits)
theorem gets_len : Gets (model prog w) h "list.__len__" "wrapper_descriptor" "wrapper_descriptor.__get__" "method-wrapper" := by
  refine ⟨type_len, slot_wd_get.lookup, fun A E x C g d t os Q hi hq => ?_⟩
  refine wpAny_call_entry slot_wd_get (s := ⟨h, g, d, t, os⟩) (show typeOf _ = _ from type_len) entry_wd_get ?_ (args_wd_get _ _ _)
  rw [wd_len_eq]
  refine wpAny_bind (chk_ok hi (wpAny_bind ?_))
  unfold newFields
  exact wpAny_newObj_type (wpAny_pure ⟨_, rfl, hq⟩) (by size_fits)
theorem gets_init : Gets (model prog w) h "list.__init__" "wrapper_descriptor" "wrapper_descriptor.__get__" "method-wrapper" := by
  refine ⟨type_init, slot_wd_get.lookup, fun A E x C g d t os Q hi hq => ?_⟩
  refine wpAny_call_entry slot_wd_get (s := ⟨h, g, d, t, os⟩) (show typeOf _ = _ from type_init) entry_wd_get ?_ (args_wd_get _ _ _)
  rw [wd_init_eq]
  refine wpAny_bind (chk_ok hi (wpAny_bind ?_))
  unfold newFields
  exact wpAny_newObj_type (wpAny_pure ⟨_, rfl, hq⟩) (by size_fits)
noncomputable abbrev supObj (D x C : Addr) : Obj := { cls := .type "super", dict := none, data := .fields #[.ref D, .ref x, .ref C], slots := #[] }
theorem sup_ga {so D x C : Addr} {id dt gid bt : String} {l₀ l : List Value} {K : Frag} {name : Str} {tk : Tok} {Q : Fin → Shared → Prop}
    (hso : h.get? so = some (supObj D x C)) (hno : Looks (model prog w) h (opaqueClassAbove (.ref C)) none)
    (hC : Looks (model prog w) h (mroOf (.ref C)) l₀) (hl : (l₀.dropWhile (· != .ref D)).drop 1 = l) (X : K.In h)
    (hf : alongIn K name l = some (some (.builtin id))) (hg : Gets (model prog w) h id dt gid bt) (hi : Looks (model prog w) h (isInstance (.ref x) (.type "list")) true) (hxC : x ≠ C) (hn : (name == ("__class__" : Str)) = false)
    (hq : Q (.done (.ret (.ref h.objs.size))) ⟨h.push { cls := .type bt, data := .fields #[.builtin id, .ref x] }, g, d, t, os⟩) :
    wpAny (model prog w) A (Builtin.«super.__getattribute__» ⟨[.ref so, .str name tk], []⟩) Q E ⟨h, g, d, t, os⟩ := by
  obtain ⟨hty, hlk, hget⟩ := hg
  have hne : (Value.ref x == Value.ref C) = false := by simp [hxC]
  have hdt : (supObj D x C).data = .fields #[.ref D, .ref x, .ref C] := rfl
  have f0 : (#[.ref D, .ref x, .ref C] : Array Value)[0]? = some (.ref D) := rfl
  have f1 : (#[.ref D, .ref x, .ref C] : Array Value)[1]? = some (.ref x) := rfl
  have f2 : (#[.ref D, .ref x, .ref C] : Array Value)[2]? = some (.ref C) := rfl
  unfold Builtin.«super.__getattribute__»
  repeat (first
    | (with_reducible refine wpAny_field hso hdt f0 ?_) | (with_reducible refine wpAny_field hso hdt f1 ?_) | (with_reducible refine wpAny_field hso hdt f2 ?_)
    | (with_reducible refine ks_wpAny_notOpaque hno ?_)
    | (with_reducible refine Looks.at hC ?_; rw [hl])
    | (refine ks_forIn_along X (fun _ _ => rfl) rfl ?_ hf)
    | (with_reducible refine wpAny_of_eq hty ?_)
    | (with_reducible refine wpAny_of_eq hlk ?_)
    | (with_reducible refine hget _ _ _ _ _ _ _ _ _ hi ?_)
    | (simp only [hn, hne, Bool.or_false, Bool.false_eq_true, if_false])
    | wp_step
    | dsimp only)
  all_goals exact hq
theorem sup_getMethod {so D x C : Addr} {id dt gid bt : String} {l₀ l : List Value} {K : Frag} {name : Str} {pl : Sem Bool} {Q : Value × List Value → Shared → Prop}
    (hso : h.get? so = some (supObj D x C)) (hno : Looks (model prog w) h (opaqueClassAbove (.ref C)) none)
    (hC : Looks (model prog w) h (mroOf (.ref C)) l₀) (hl : (l₀.dropWhile (· != .ref D)).drop 1 = l) (X : K.In h)
    (hf : alongIn K name l = some (some (.builtin id))) (hg : Gets (model prog w) h id dt gid bt) (hi : Looks (model prog w) h (isInstance (.ref x) (.type "list")) true) (hxC : x ≠ C) (hn : (name == ("__class__" : Str)) = false)
    (hq : Q (.ref h.objs.size, []) ⟨h.push { cls := .type bt, data := .fields #[.builtin id, .ref x] }, g, d, t + 1, os⟩) :
    wpAny (model prog w) A (getMethod (.ref so) name pl) Q E ⟨h, g, d, t, os⟩ := by
  have hlk := F.ks_slot_super_ga.lookup
  have hcan := F.ks_canon_super_ga
  have hT : ∀ t', (⟨h, g, d, t', os⟩ : Shared).TypeIs (.ref so) "super" := fun _ => ⟨_, hso, rfl⟩
  unfold getMethod
  refine wpAny_bind (wpAny_specialOf (hT _) hlk ?_)
  show wpAny _ _ (if (Manifest.canonical "super.__getattribute__" != "object.__getattribute__") = true then _ else _) _ _ _
  refine wt hcan ?_
  unfold getAttr getAttrBy
  refine wpAny_bind (wpAny_bind (wpAny_mkText (wpAny_holding (wpAny_bind (wpAny_typeOf (hT _) (wpAny_bind (wpAny_of_eq hlk ?_)))))))
  show wpAny _ _ (getAttrByItsOwn (.ref so) (.str name t) (.type "super") (.builtin "super.__getattribute__") true false) _ _ _
  unfold getAttrByItsOwn hookBefore callGetattribute boundAndCalled
  refine wpAny_bind (wpAny_of_eq (show (if onTheHeap (.type "super") then typeLookup (.type "super") "__getattr__" else pure none) = pure none from rfl) ?_)
  refine wpAny_bind (wpAny_attempt (wpAny_holding ?_))
  show wpAny _ _ (bindSpecial (.builtin "super.__getattribute__") (.ref so) >>= _) _ _ _
  refine wpAny_bind (wpAny_of_eq (F.ks_slot_super_ga.bind _) ?_)
  refine wpAny_mono (Q := fun v s' => v = .ref h.objs.size ∧ s' = ⟨h.push { cls := .type bt, data := .fields #[.builtin id, .ref x] }, g, d, t + 1, os⟩) (E := fun _ _ => False)
    (wpAny_call_entry F.ks_slot_super_ga (hT _) F.ks_entry_super_ga (sup_ga hso hno hC hl X hf hg hi hxC hn ⟨_, rfl, rfl, rfl⟩) (F.ks_gaArgs_super _ _)) (fun v s' hv => ?_) fun _ _ z => z.elim
  obtain ⟨rfl, rfl⟩ := hv
  exact wpAny_pure (wpAny_pure hq)
end
end Mine
end
section
open PySem PySem.W PySem.Calls PyProof.Rows Builtin
namespace Mine
section
variable {prog : Program} {w : World} {M : Model} {A : Around} {E : Value → Shared → Prop} {s : Shared} {R : Result → Shared → Prop}
noncomputable abbrev bndObj (bt id : String) (x : Addr) : Obj := { cls := .type bt, data := .fields #[.builtin id, .ref x] }
theorem bound_call {q x : Addr} {id bt : String} (hq : s.heap.get? q = some (bndObj bt id x)) (hbt : bt = "builtin_function_or_method" ∨ bt = "method-wrapper")
    (hck : ∀ (A : Around) (E : Value → Shared → Prop) (Q : Unit → Shared → Prop), Q () s → wpAny (model prog w) A (checkBoundCall id ⟨[.ref x], []⟩) Q E s) (hpl : plainId id = true)
    (h : codeAny (model prog w) A (.builtin id ⟨[.ref x], []⟩) R s) : codeAny (model prog w) A (.call (.ref q) ⟨[], []⟩) R s := by
  refine codeAny_of_tree ?_
  show wpAny _ A.in1 (callAny (.ref q) ⟨[], []⟩) _ _ _
  unfold callAny
  refine wpAny_bind (wpAny_load hq ?_)
  rcases hbt with rfl | rfl
  · exact wpAny_bind (hck _ _ _ (wpAny_bind (wpAny_pure (wpAny_pure ⟨plainId_quiet hpl _, h⟩))))
  · exact wpAny_bind (hck _ _ _ (wpAny_bind (wpAny_pure (wpAny_pure ⟨plainId_quiet hpl _, h⟩))))
theorem ck_len (x : Addr) : checkBoundCall "list.__len__" ⟨[.ref x], []⟩ = pure () := by kernel_rfl
theorem ck_init (x : Addr) : checkBoundCall "list.__init__" ⟨[.ref x], []⟩ = pure () := by kernel_rfl
noncomputable def accPop : String := s!"{(Str.ofString "_Accumulator").toString}.{Bind.lastOf "list.pop"}"
theorem sig_pop : ∃ sig, Manifest.signature? "list.pop" = some sig ∧ ∀ (x : Addr), Bind.checkArgs "list.pop" { sig with full := accPop } ⟨[.ref x], []⟩ = pure () :=
  ⟨_, by rw [PySem.signature?_of (id := "list.pop") (n := ['p', 'o', 'p']) (o := ['t', 's', 'i', 'l']) (by kernel_rfl) PySem.F.owner_list]; exact rfl, fun x => by kernel_rfl⟩
theorem vm_pop : Manifest.varargsMethods.contains "list.pop" = false := by decide +kernel
theorem ck_pop {K : Frag} {x C : Addr} {ox : Obj} {cd : ClassData} (X : K.In s.heap) (hx : s.heap.get? x = some ox) (hc : ox.cls = .ref C) (hn : notCls ox = true) (hcd : clsIn K C = some cd) (hq : cd.qualname = "_Accumulator")
    (hm : mroIn K C (.type "module") = some false) (hty : typeIn K (.ref C) = some (.type "type")) {Q : Unit → Shared → Prop} (h : Q () s) : wpAny M A (checkBoundCall "list.pop" ⟨[.ref x], []⟩) Q E s := by
  obtain ⟨sig, h1, h2⟩ := sig_pop
  have T : Looks M s.heap (typeOf (.ref x)) (.ref C) := hc ▸ (Looks.ld hx).andThen .now
  have LM : Looks M s.heap (isInstance (.ref x) (.type "module")) false := T.andThen (looks_mroIn X hm)
  have LT : Looks M s.heap (isType (.ref x)) false := by
    unfold isType
    obtain ⟨_, _, dt, _⟩ := ox
    refine (show Looks M s.heap (loadHead x) _ from Looks.ld hx).andThen ?_
    cases dt <;> first | exact .now | cases hn
  have LC := looks_clsIn (M := M) X hcd
  have LTT := looks_typeIn (M := M) X hty
  unfold checkBoundCall
  rw [h1, kind_pop]
  dsimp only
  refine wf (by decide) ?_
  refine wpAny_bind (LM.here ?_)
  rw [vm_pop]
  refine wf (by decide) ?_
  refine wpAny_bind (LT.here ?_)
  simp only [Bool.false_eq_true, if_false]
  refine wpAny_bind (T.here ?_)
  refine wpAny_bind (LC.here (wpAny_bind (LTT.here ?_)))
  rw [if_pos (by decide), hq]
  have := h2 x
  unfold accPop at this
  rw [this]
  exact wpAny_pure h
end
end Mine
end
section
open PySem PySem.W PySem.Calls PyProof.Rows Builtin
namespace Mine
section
variable {Pk : Addr → Prop}
variable {T : Tabs} {K : Frag} {mg mb : Str → Option Value} {prog : Program} {w : World} {A : Around} {s : Shared} {g h₀ h h' : Heap} {W : List Addr} {L : Addr} {m m' : Str → Option Value} {kn kn' : List (Addr × Obj)}
  {R : Result → Shared → Prop} {E : Value → Shared → Prop}
theorem J.keeps (j : J T g W h₀ L h m kn) (k : ∀ b o, h.get? b = some o → h'.get? b = some o) (hl : h.objs.size ≤ h'.objs.size) : J T g W h₀ L h' m kn := by
  refine qg fun G kG => ?_
  obtain ⟨oL, es, n, e, r⟩ := j.ns
  refine kG ?_
  exact ⟨⟨j.mv.st.keeps k hl, fun b o e ht hb => k _ _ (j.mv.keep b o e ht hb), fun b o e => let ⟨o₁, e₁⟩ := j.mv.there b o e; ⟨o₁, k _ _ e₁⟩⟩, ⟨oL, es, n, k _ _ e, r⟩, j.Lt, j.Ln, j.Lg, fun p hp => ⟨k _ _ (j.has p hp).1, (j.has p hp).2⟩, j.nd, j.s0⟩
theorem j_callAt {qual : Str} {st : Stmt} {cl : List (Str × Addr)} {dV : Value} {f c : Addr} {args : Args} {binds : List (Str × Value)}
    (W : List Addr) (kn : List (Addr × Obj)) (G : Gb T K mg mb g) (S : St T g s.heap) (hkn : Kn T g s.heap kn)
    (fa : FnAt K f st qual cl dV c) (hroom : A.depth < recursionLimit)
    (hbind : ∀ name kV doc pm an ct, BindsTo s (fnX name qual (fArgs st) (fBody st) (fScope st) cl dV kV doc pm an (.ref c) ct) args binds) (hloc : ∀ y ∈ binds, (fScope st).names.lookup y.1 = some .local)
    (hcell : ∀ x ∈ (fScope st).names, x.2 ≠ .cell)
    (h : ∀ L h₁ tk, J T g W s.heap L h₁ (fun y => binds.reverse.lookup y) kn →
      _root_.PySem.wpAt (model prog w) (A.deeper (envX qual (fScope st) L f (.ref c) cl)) (.func (fBody st) (envX qual (fScope st) L f (.ref c) cl)) (execs (fBody st) (envX qual (fScope st) L f (.ref c) cl))
        (fun fl s' => R (.ok (.ret (match fl with | .ret v => v | _ => .none))) s') (fun _ _ => False) { s with heap := h₁, toks := tk })
    (hco : (fScope st).isCoroutine = false) (hgen : (fScope st).isGenerator = false) (hk : (fScope st).kind = .function) : codeAny (model prog w) A (.call (.ref f) args) R s := by
  obtain ⟨oc, od, osl, name, kV, doc, pm, an, ct, ho, hcd⟩ := fa
  have X := S.In G
  refine ks_codeAny_call_defAt (fd := fnX name qual (fArgs st) (fBody st) (fScope st) cl dV kV doc pm an (.ref c) ct) (body := (fBody st)) (binds := binds) hroom (X _ _ ho) rfl (G.nolim.elim fun mc x => ⟨mc, S.ns x.1 G.k3, x.2⟩) (codeRec_of X hcd) rfl (hbind _ _ _ _ _ _) hcell hloc (fun h₁ hns hk₁ => ?_) hco hgen hk
  refine qg fun G kG => ?_
  obtain ⟨oL, es, n, hL, r⟩ := id hns
  refine kG ?_
  have hle : s.heap.objs.size ≤ h₁.objs.size := Nat.le_of_lt (Heap.lt_size hL)
  have notT : ∀ {b : Addr}, s.heap.objs.size ≤ b → b ∉ T.map (·.2) := fun {b} hb hm => by
    obtain ⟨q, hq, e⟩ := List.mem_map.mp hm
    obtain ⟨ps, ps₀, x, y, z⟩ := S.tab q hq
    have := Heap.lt_size y.2
    rw [e] at this
    exact absurd this (Nat.not_lt.mpr hb)
  refine ks_wpAt_mono (h s.heap.objs.size h₁ _ ⟨⟨S.keeps hk₁ hle, fun b o e _ _ => hk₁ b o e, fun b o e => ⟨o, hk₁ b o e⟩⟩, hns, notT (Nat.le_refl _), ?_, S.le, fun p hp => ⟨hk₁ _ _ (hkn.1 p hp).1, Nat.ne_of_lt (Heap.lt_size (hkn.1 p hp).1), (hkn.1 p hp).2⟩, hkn.2, S⟩) (fun _ _ x => x) fun _ _ x => x.elim
  cases q : s.heap.get? s.heap.objs.size with
  | none => rfl
  | some o => exact absurd (Heap.lt_size q) (Nat.lt_irrefl _)
theorem isType_clsIn {M : Model} {D : Addr} {cd : ClassData} {Q : Bool → Shared → Prop} (X : K.In s.heap) (hD : clsIn K D = some cd) (h : Q true s) : wpAny M A (isType (.ref D)) Q E s := by
  unfold clsIn at hD
  split at hD
  · rename_i c d cd' sl ho
    exact wpAny_bind (wpAny_loadPart (X _ _ ho) (wpAny_pure h))
  · cases hD
structure SupFx (K : Frag) (prog : Program) (f cda cc C : Addr) (cd : ClassData) : Prop where
  code : ∃ ccl cdd vs ccs file tf, K.lookup cda = some ⟨ccl, cdd, .fields vs, ccs⟩ ∧ vs[2]? = some (.str file tf) ∧ ((prog.main.file : Str) == file) = true
  cell : ∃ cl cld csl, K.lookup cc = some ⟨cl, cld, .cell (some (.ref C)), csl⟩
  cls : clsIn K C = some cd
  sub : mroIn K C (.ref C) = some true
  lst : mroIn K C (.type "list") = some true
  sup : nsIn K mainGlobals "super" = some none
  top : (prog.main.scope.names.lookup ("super" : Str)).isSome = false
  any : nsIn K cStatics "thirdparty.any" = some none
theorem boot_super : bootBuiltins "super" = some (.type "super") := by kernel_rfl
theorem j_super {qual name : Str} {scope : Scope} {f cda cc C x : Addr} {cd : ClassData} {body : List Stmt} {st : Stmt} {dV : Value} {c : Addr} {cl : List (Str × Addr)} {ql : Str} {ar : Arg} {ox : Obj} {id dt gid bt : String} {p0 p1 apos pos : Pos} {Q : Value → Shared → Prop}
    (G : Gb T K mg mb g) (j : J T g W h₀ L s.heap m kn) (U : SupFx K prog f cda cc C cd)
    (fa : FnAt K f st ql cl dV c) (hp : ((fArgs st).posonlyargs ++ (fArgs st).args).head? = some ar) (hv : m ar.arg = some (.ref x)) (hx : s.heap.get? x = some ox) (hox : ox.cls = .ref C) (hno : notCls ox = true)
    (hal : alongIn K name ((cd.mro.dropWhile (· != .ref C)).drop 1) = some (some (.builtin id))) (hg : ∀ h, Gets (model prog w) h id dt gid bt) (hbt : bt = "builtin_function_or_method" ∨ bt = "method-wrapper")
    (hck : ∀ (s : Shared), K.In s.heap → s.heap.get? x = some ox → ∀ (A : Around) (E : Value → Shared → Prop) (Q : Unit → Shared → Prop), Q () s → wpAny (model prog w) A (checkBoundCall id ⟨[.ref x], []⟩) Q E s) (hpl : plainId id = true) (hxC : x ≠ C)
    (h : ∀ h' tk, J T g W h₀ L h' m kn → (∀ b o, s.heap.get? b = some o → h'.get? b = some o) →
      codeAny (model prog w) A (.builtin id ⟨[.ref x], []⟩) (fun r s' => match r with | .ok (.ret v) => Q v s' | .ok _ => False | .error e => E e s') { s with heap := h', toks := tk })
    (hks : scope.names.lookup ("super" : Str) = some .globalImplicit) (hkc : scope.names.lookup ("__class__" : Str) = some .free) (hka : scope.names.lookup ar.arg = some .local) (hk : scope.kind = .function)
    (hat : (name == ("__class__" : Str)) = false := by decide)
    (he : ∀ env, eval (.Call (.Attribute (.Call (.Name "super" p0) [] [] p1) name apos) [] [] pos) env = (do
      let ov ← attributeBase (.Call (.Name "super" p0) [] [] p1) name env (eval (.Call (.Name "super" p0) [] [] p1) env)
      standAt apos.atName
      let (f, first) ← holding [ov] (getMethod ov name (pure false))
      callWith pos f first (backTo pos (starEach [] env)) []) := by intro _; rfl) :
    _root_.PySem.wpAt (model prog w) A (.func body (envX qual scope L f (.ref cda) [("__class__", cc)])) (eval (.Call (.Attribute (.Call (.Name "super" p0) [] [] p1) name apos) [] [] pos) (envX qual scope L f (.ref cda) [("__class__", cc)])) Q E s := by
  obtain ⟨oc, od, osl, nm, kV, doc, pm, an, ct, hf, _⟩ := fa
  obtain ⟨ccl, cdd, vs, ccs, file, tf, hcode, hvs, hfile⟩ := U.code
  obtain ⟨cl, cld, csl, hcell⟩ := U.cell
  have X : K.In s.heap := j.mv.st.In G
  refine ks_wpAt_MethodCall (pl := pure false) ?_ (he _)
  refine ks_wpAt_super_base (env := envX qual scope L f (.ref cda) [("__class__", cc)]) hks hkc hat rfl (X _ _ hf) rfl hp rfl (X _ _ hcode) rfl hvs hfile U.top ?_
  refine ks_loadName_global hk hks (loadGlobal_builtin (env := envX qual scope L f (.ref cda) [("__class__", cc)]) (j.mv.st.ns G.mgN G.k1) (mg_none_of G.X G.mgN U.sup) (j.mv.st.ns G.mbN G.k2) ((G.boot _ (by decide +kernel)).trans boot_super) ⟨rfl, ?_⟩)
  refine wpAny_loadName_free hk hkc rfl ⟨_, X _ _ hcell, rfl⟩ ?_
  refine wpAny_loadName_local hk hka j.ns hv ?_
  refine isType_clsIn X U.cls ⟨rfl, ?_⟩
  obtain ⟨oD, hD1, hD2⟩ : ∃ oD, s.heap.get? C = some oD ∧ oD.data = .cls cd := by
    have hD := U.cls
    unfold clsIn at hD
    split at hD
    · rename_i c d cd' sl ho
      cases hD
      exact ⟨_, X _ _ ho, rfl⟩
    · cases hD
  obtain ⟨hh, gg, dd, tt, os⟩ := s
  refine ks_wpAny_call_super hD1 hD2 hx hox (fun c e => ?_) (looks_mroIn X U.sub) (fun h' e k => ?_)
  · unfold notCls at hno
    rw [e] at hno
    exact Bool.noConfusion hno
  have hle : hh.objs.size ≤ h'.objs.size := Nat.le_of_lt (Heap.lt_size e)
  have j' : J T g W h₀ L h' m kn := j.keeps k hle
  have X' : K.In h' := j'.mv.st.In G
  have hi : Looks (model prog w) h' (isInstance (.ref x) (.type "list")) true := (hox ▸ (Looks.ld (k _ _ hx)).andThen .now : Looks (model prog w) h' (typeOf (.ref x)) (.ref C)).andThen (looks_mroIn X' U.lst)
  refine sup_getMethod e (looks_opaque X' U.any) (l₀ := cd.mro) (fun A Q E s k q => wpAny_bind ((looks_clsIn X' U.cls) A _ E s k (wpAny_pure q))) rfl X' hal (hg h') hi hxC hat ?_
  have j2 := j'.push (bndObj bt id x) rfl
  have k2 : ∀ b o, h'.get? b = some o → (h'.push (bndObj bt id x)).get? b = some o := fun b o e => Heap.get?_push_of_some _ e
  have hq : (h'.push (bndObj bt id x)).get? h'.objs.size = some (bndObj bt id x) := Heap.get?_push_size _ rfl
  refine callWith_of (P := fun h => h.get? h'.objs.size = some (bndObj bt id x)) rfl (fun h hb => ⟨.machine, .inr (.inl rfl), ?_⟩) (evalArgs_nil3 ⟨hq, ?_⟩)
  · refine (Looks.ld (part := none) hb).andThen ?_
    rcases hbt with rfl | rfl <;> exact Looks.now
  refine wpAny_call ?_
  refine bound_call hq hbt (fun A E Q hq' => hck _ (fun a o e => k2 _ _ (X' a o e)) (k2 _ _ (k _ _ hx)) A E Q hq') hpl ?_
  exact h _ _ (j2.sub (List.sublist_cons_self _ _)) fun b o e => k2 _ _ (k _ _ e)
end
end Mine
end
section
open PySem PySem.W PySem.Calls PyProof.Rows Builtin
namespace Mine
structure Fx (K : Frag) (cd : ClassData) : Prop where
  init : FnAt K 154 (inCls 12 0) "_Accumulator.__init__" [("__class__", 141)] (.ref 146) 153
  push : FnAt K 161 (inCls 12 1) "_Accumulator.push" [] .none 160
  popf : FnAt K 169 (inCls 12 2) "_Accumulator.pop_from" [] (.ref 162) 168
  pop : FnAt K 177 (inCls 12 3) "_Accumulator.pop" [("__class__", 141)] .none 176
  len : FnAt K 184 (inCls 12 4) "_Accumulator.__len__" [] .none 183
  str : FnAt K 191 (inCls 12 5) "_Accumulator.__str__" [] .none 190
  reset : FnAt K 199 (inCls 12 6) "_Accumulator.reset" [] (.ref 192) 198
  only : FnAt K 206 (inCls 12 7) "_Accumulator.is_onlyws" [] .none 205
  count : FnAt K 214 (inCls 12 8) "_Accumulator.part_count" [("__class__", 141)] .none 213
  supI : SupFx K PR 154 153 141 217 cd
  supP : SupFx K PR 177 176 141 217 cd
  supC : SupFx K PR 214 213 141 217 cd
  alP : alongIn K "pop" ((cd.mro.dropWhile (· != .ref 217)).drop 1) = some (some (.builtin "list.pop"))
  alC : alongIn K "__len__" ((cd.mro.dropWhile (· != .ref 217)).drop 1) = some (some (.builtin "list.__len__"))
  alI : alongIn K "__init__" ((cd.mro.dropWhile (· != .ref 217)).drop 1) = some (some (.builtin "list.__init__"))
  qn : cd.qualname = "_Accumulator"
  hd : cd.hasDict = true
  noMod : mroIn K 217 (.type "module") = some false
  ty : typeIn K (.ref 217) = some (.type "type")
  ga : findIn K (.ref 217) "__getattribute__" = some (some (.builtin "list.__getattribute__"))
  gt : findIn K (.ref 217) "__getattr__" = some none
  seq : noSeq K 217 = true
  fAppend : findIn K (.ref 217) "append" = some (some (.builtin "list.append"))
  tAppend : typeIn K (.builtin "list.append") = some (.type "method_descriptor")
  fCount : findIn K (.ref 217) "part_count" = some (some (.ref 214))
  fPush : findIn K (.ref 217) "push" = some (some (.ref 161))
  fPop : findIn K (.ref 217) "pop" = some (some (.ref 177))
  fPopf : findIn K (.ref 217) "pop_from" = some (some (.ref 169))
  fReset : findIn K (.ref 217) "reset" = some (some (.ref 199))
  fOnly : findIn K (.ref 217) "is_onlyws" = some (some (.ref 206))
  fLen : findIn K (.ref 217) "__len__" = some (some (.ref 184))
  fStr : findIn K (.ref 217) "__str__" = some (some (.ref 191))
  fGet : findIn K (.ref 217) "__getitem__" = some (some (.builtin "list.__getitem__"))
  fSet : findIn K (.ref 217) "__setitem__" = some (some (.builtin "list.__setitem__"))
  fIter : findIn K (.ref 217) "__iter__" = some (some (.builtin "list.__iter__"))
  fSize : findIn K (.ref 217) "_initial_size" = some none
  fInit : findIn K (.ref 217) "__init__" = some (some (.ref 154))
  fNew : findIn K (.ref 217) "__new__" = some (some (.builtin "list.__new__"))
  fBool : findIn K (.ref 217) "__bool__" = some none
  fSetattr : findIn K (.ref 217) "__setattr__" = some (some (.builtin "object.__setattr__"))
  mro : cd.mro = [.ref 217, .type "list", .type "object"]
  d140 : ∃ d n sl tk, K.lookup 162 = some ⟨.type "tuple", d, .seq #[.int 0 tk] n, sl⟩
  d124 : ∃ d n sl tk, K.lookup 146 = some ⟨.type "tuple", d, .seq #[.int 0 tk] n, sl⟩
  d170 : ∃ d n sl, K.lookup 192 = some ⟨.type "tuple", d, .seq #[.none] n, sl⟩
  keep : ∀ f ∈ [(154 : Addr), 161, 169, 177, 184, 191, 199, 206, 214], keepIn K (.ref f) = true ∧ isFn K (.ref f) = true
section
variable {Pk : Addr → Prop}
variable {T : Tabs} {K : Frag} {cd : ClassData} {mg mb : Str → Option Value} {w : World} {A : Around} {s : Shared} {g : Heap} {R : Result → Shared → Prop}
theorem len_code {prog : Program} {a : Addr} {o : Obj} {its : Array Value} {ep : Nat} (ho : s.heap.get? a = some o) (hd : o.data = .seq its ep) (h : ∀ tk tk', R (.ok (.ret (.int its.size tk))) { s with toks := tk' }) :
    codeAny (model prog w) A (.builtin "list.__len__" ⟨[.ref a], []⟩) R s := by
  refine codeAny_builtin PySem.F.entry_list_len ?_
  show wpAny _ _ (seqSize a >>= fun n => retInt n) _ _ s
  refine wpAny_bind ?_
  unfold seqSize
  refine wpAny_bind (wpAny_loadPart ho ?_)
  rw [hd]
  exact wpAny_pure (wpAny_bind (wpAny_mkInt (wpAny_pure (h _ _))))
theorem ne_cls (G : Gb T K mg mb g) (S : St T g s.heap) {x C : Addr} {cd : ClassData} {ox : Obj} (hx : s.heap.get? x = some ox) (hn : notCls ox = true) (hc : clsIn K C = some cd) : x ≠ C := by
  rintro rfl
  unfold clsIn at hc
  split at hc
  · rename_i c d cd' sl ho
    have e := S.In G _ _ ho
    rw [hx] at e
    cases e
    exact Bool.noConfusion hn
  · cases hc
theorem count_spec {x d : Addr} {its : Array Value} {ep : Nat} (G : Gb T K mg mb g) (X : Fx K cd) (S : St T g s.heap) (r : Rm A 1)
   (hc : s.heap.get? x = some (accObj 217 d its ep))
   (hR : ∀ h' tk tk', Mv T g [] s.heap h' → R (.ok (.ret (.int its.size tk))) { s with heap := h', toks := tk' }) :
   codeAny (model PR w) A (.call (.ref 214) ⟨[.ref x], []⟩) R s := by
  refine' j_callAt (binds := [("self", .ref x)]) [] [] G S Kn.nil X.count r.lt (fun _ _ _ _ _ _ => BindsTo.of_eq rfl) (locs rfl) (by decide) ?_ rfl rfl rfl
  intro L h₁ tk j
  refine ks_wpAt_execs_cons (ks_wpAt_Return_some ?_)
  have hx : h₁.get? x = some (accObj 217 d its ep) := j.old hc (.inl (by exact ni0))
  exact j_super (s := { s with heap := h₁, toks := tk }) (id := "list.__len__") G j X.supC X.count rfl rfl hx rfl rfl X.alC (fun h => gets_len) (.inr rfl)
    (fun s _ _ A E Q hq => by rw [ck_len]; exact wpAny_pure hq) PySem.F.slot_list_len.plain (ne_cls (s := s) G S hc rfl X.supC.cls)
    (fun h' tk' j' k' => len_code (k' _ _ hx) rfl fun t t' => hR _ _ _ j'.mv) rfl rfl rfl rfl
end
end Mine
end
section
open PySem PySem.W PySem.Calls PyProof.Rows Builtin
namespace Mine
section
variable {Pk : Addr → Prop}
variable {T : Tabs} {K : Frag} {cd : ClassData} {mg mb : Str → Option Value} {w : World} {A : Around} {s : Shared} {g : Heap} {R : Result → Shared → Prop} {E : Value → Shared → Prop} {prog : Program}
noncomputable abbrev szD (w : World) (tk : Tok) (iv : Value) : Obj := dictOf [⟨PyData.keyHash w.params "_initial_size", .str "_initial_size" tk, iv⟩] 1
structure AccAt (w : World) (h : Heap) (x d : Addr) (its : Array Value) (ep : Nat) (tk : Tok) (iv : Value) : Prop where
  o : h.get? x = some (accObj 217 d its ep)
  d : h.get? d = some (szD w tk iv)
theorem AccAt.inst {h : Heap} {x d : Addr} {its : Array Value} {ep : Nat} {tk : Tok} {iv : Value} (a : AccAt w h x d its ep tk iv) : InstAt h x (accObj 217 d its ep) 217 (some (szD w tk iv)) := ⟨a.o, rfl, rfl, a.d⟩
theorem canon_list_ga : (Manifest.canonical "list.__getattribute__" != "object.__getattribute__") = false := by decide +kernel
theorem a_meth {pl : Sem Bool} {x d : Addr} {its : Array Value} {ep : Nat} {tk : Tok} {iv : Value} {name : Str} {f : Addr} {Q : Value × List Value → Shared → Prop} (G : Gb T K mg mb g) (X : Fx K cd) (S : St T g s.heap) (a : AccAt w s.heap x d its ep tk iv)
    (hf : findIn K (.ref 217) name = some (some (.ref f))) (ht : isFn K (.ref f) = true) (h : Q (.ref f, [.ref x]) s) (hl : getL name [⟨PyData.keyHash w.params "_initial_size", .str "_initial_size" tk, iv⟩] = some none := by rfl) : wpAny (model prog w) A (getMethod (.ref x) name pl) Q E s := by
  have I := a.inst
  have Y := S.In G
  unfold getMethod specialOf
  refine wpAny_bind (wpAny_bind (I.type.here ((looks_findIn Y X.ga).here ?_)))
  dsimp only
  rw [canon_list_ga, if_neg (by decide)]
  refine wpAny_bind (wpAny_bind (I.type.here ((looks_findIn Y X.gt).here ?_)))
  refine wpAny_bind (wpAny_bind (I.type.here ((looks_findIn Y hf).here (wpAny_bind ((looks_typeIn Y (beq_iff_eq.mp ht)).here ?_)))))
  refine wf (by decide +kernel) ?_
  refine wpAny_bind (wpAny_loadPart I.at_ ?_)
  have e : lookIn name (szD w tk iv) = some none := by rw [lookIn_dict, hl]
  refine wpAny_bind (wpAny_bind (wpAny_loadPart a.d ?_))
  rw [nsLook_of e]
  exact wpAny_pure (wpAny_bind (wpAny_rule (wpAny_pure h)))
theorem a_methB {pl : Sem Bool} {x d : Addr} {its : Array Value} {ep : Nat} {tk : Tok} {iv : Value} {name : Str} {id : String} {Q : Value × List Value → Shared → Prop} (G : Gb T K mg mb g) (X : Fx K cd) (S : St T g s.heap) (a : AccAt w s.heap x d its ep tk iv)
    (hf : findIn K (.ref 217) name = some (some (.builtin id))) (ht : typeIn K (.builtin id) = some (.type "method_descriptor")) (h : Q (.builtin id, [.ref x]) s) (hl : getL name [⟨PyData.keyHash w.params "_initial_size", .str "_initial_size" tk, iv⟩] = some none := by rfl) : wpAny (model prog w) A (getMethod (.ref x) name pl) Q E s := by
  have I := a.inst
  have Y := S.In G
  unfold getMethod specialOf
  refine wpAny_bind (wpAny_bind (I.type.here ((looks_findIn Y X.ga).here ?_)))
  dsimp only
  rw [canon_list_ga, if_neg (by decide)]
  refine wpAny_bind (wpAny_bind (I.type.here ((looks_findIn Y X.gt).here ?_)))
  refine wpAny_bind (wpAny_bind (I.type.here ((looks_findIn Y hf).here (wpAny_bind ((looks_typeIn Y ht).here ?_)))))
  refine wf (by decide +kernel) ?_
  refine wpAny_bind (wpAny_loadPart I.at_ ?_)
  have e : lookIn name (szD w tk iv) = some none := by rw [lookIn_dict, hl]
  refine wpAny_bind (wpAny_bind (wpAny_loadPart a.d ?_))
  rw [nsLook_of e]
  exact wpAny_pure (wpAny_bind (wpAny_rule (wpAny_pure h)))
theorem mapSeq_push (C d : Addr) (its : Array Value) (ep : Nat) (x : Value) : Obj.mapSeq (·.push x) (accObj C d its ep) = accObj C d (its.push x) (ep + 1) := by
  unfold accObj Obj.mapSeq
  simp
theorem push_spec {x d : Addr} {its : Array Value} {ep : Nat} {tk0 : Tok} {iv : Value} {a b : Str} {ta tb : Tok} (G : Gb T K mg mb g) (X : Fx K cd) (S : St T g s.heap) (r : Rm A 1)
   (ha : AccAt w s.heap x d its ep tk0 iv) (hxg : g.objs.size ≤ x) (hsz : its.size ≤ 1000)
   (hR : ∀ t h' tk, Mv T g [x] s.heap h' → h'.get? x = some (accObj 217 d (its.push (.ref t)) (ep + 1)) → h'.get? t = some (tupObj [.str a ta, .str b tb]) → s.heap.get? t = none → R (.ok (.ret .none)) { s with heap := h', toks := tk }) :
   codeAny (model PR w) A (.call (.ref 161) ⟨[.ref x, .str a ta, .str b tb], []⟩) R s := by
  refine' j_call (binds := [("self", .ref x), ("fws", .str a ta), ("string", .str b tb)]) [x] [(x, accObj 217 d its ep)] G S ?hkn X.push r.lt (fun _ _ _ _ _ _ => BindsTo.of_eq rfl) (locs rfl) (by decide) ?_ rfl rfl rfl
  case hkn => exact ⟨fun p hp => by rw [List.mem_singleton.mp hp]; exact ⟨ha.o, S.notTab ha.o (by nofun), hxg⟩, by exact nd1⟩
  intro L h₁ tk j
  have hne : x ≠ d := by
    intro q
    have := ha.o
    rw [q, ha.d] at this
    cases this
  refine wpAny_execs_cons (wpAny_Expr ?_)
  refine MethodCall_ ?_
  refine j_local (s := { s with heap := h₁, toks := tk }) j rfl ?_
  refine a_methB G X j.mv.st ⟨j.get (.head _), j.old ha.d (.inl (by exact ni1 hne.symm))⟩ X.fAppend X.tAppend ?_
  refine callWith_method1 (args_cons ?_)
  refine Tuple_ (args_cons (j_local (s := { s with heap := h₁, toks := tk }) j rfl (args_cons (j_local (s := { s with heap := h₁, toks := tk }) j rfl (args_nil ?_)))))
  refine j_newTuple (s := { s with heap := h₁, toks := tk }) j (fun t h₂ j₂ n₂ _ => args_nil ?_)
  have j₃ := j₂.update (f := Obj.mapSeq (·.push (.ref t))) 1 rfl (.inl (.head _)) (by nofun) (mapSeq_push _ _ _ _ _) rfl
  refine list_append_any (s := { s with heap := h₂, toks := tk }) (LstAt.acc (j₂.mv.st.In G) X.supC.lst (j₂.get (.tail _ (.head _)))) (by rw [sizeLine_eq]; exact Nat.le_trans (by assumption) (by decide)) ?_
  exact wpAny_execs_nil (hR t _ _ j₃.mv (j₃.get (.tail _ (.head _))) (j₃.get (.head _)) n₂)
theorem mapSeq_pop (C d : Addr) (its : Array Value) (ep : Nat) (v : Value) : Obj.mapSeq (·.eraseIdxIfInBounds its.size) (accObj C d (its.push v) ep) = accObj C d its (ep + 1) := by
  unfold accObj Obj.mapSeq
  have e : (its.push v).eraseIdxIfInBounds its.size = its := by
    unfold Array.eraseIdxIfInBounds
    rw [dif_pos (by simp)]
    apply Array.ext'
    rw [Array.toList_eraseIdx]
    simp [List.eraseIdx_append_of_length_le]
  simp only [e]
  simp
theorem pop_code {a : Addr} {o : Obj} {its : Array Value} {ep : Nat} {x : Value} (L : LstAt (model prog w) s.heap a o (its.push x) ep) (hsz : its.size < sizeLine)
    (h : R (.ok (.ret x)) { s with heap := s.heap.update a (Obj.mapSeq (·.eraseIdxIfInBounds its.size)) }) : codeAny (model prog w) A (.builtin "list.pop" ⟨[.ref a], []⟩) R s := by
  refine codeAny_builtin PySem.F.entry_list_pop ?_
  rw [pop_eq]
  refine wpAny_bind (m := List.listItems (.ref a)) ?_
  unfold List.listItems
  refine wpAny_bind (wpAny_seqItems L.at_ L.data (wpAny_pure ?_))
  have e1 : (its.push x).isEmpty = false := by simp
  have e2 : (seqIndex? (-1) (its.push x).size).bind (fun k => (its.push x)[k]?.map (k, ·)) = some (its.size, x) := by
    rw [Array.size_push, seqIndex_last]
    simp
  simp only [e1, e2, Bool.false_eq_true, if_false]
  refine wpAny_bind (m := updateSeq a _) (wpAny_updateSeq L.at_ L.data (wpAny_pure h) (by rw [Array.size_push]; assumption) ?_)
  simp only [Array.eraseIdxIfInBounds]
  split <;> simp <;> lia
theorem AccAt.ne {h : Heap} {x d : Addr} {its : Array Value} {ep : Nat} {tk : Tok} {iv : Value} (a : AccAt w h x d its ep tk iv) : x ≠ d := by
  intro q
  have := a.o
  rw [q, a.d] at this
  cases this
theorem AccAt.mv {h h' : Heap} {x d : Addr} {its : Array Value} {ep : Nat} {tk : Tok} {iv : Value} {W : List Addr} (a : AccAt w h x d its ep tk iv) (S : St T g h) (m : Mv T g W h h') (hx : x ∉ W) (hd : d ∉ W) : AccAt w h' x d its ep tk iv :=
  ⟨m.keep _ _ a.o (S.notTab a.o (by nofun)) (.inl hx), m.keep _ _ a.d (S.notTab a.d (by nofun)) (.inl hd)⟩
theorem pop_spec {x d : Addr} {its : Array Value} {ep : Nat} {tk0 : Tok} {iv v : Value} (G : Gb T K mg mb g) (X : Fx K cd) (S : St T g s.heap) (r : Rm A 3)
   (ha : AccAt w s.heap x d (its.push v) ep tk0 iv) (hxg : g.objs.size ≤ x) (hsz : its.size ≤ 1000)
   (hR : ∀ h' tk, Mv T g [x] s.heap h' → h'.get? x = some (accObj 217 d its (ep + 1)) → R (.ok (.ret v)) { s with heap := h', toks := tk }) :
   codeAny (model PR w) A (.call (.ref 177) ⟨[.ref x], []⟩) R s := by
  refine' j_callAt (binds := [("self", .ref x)]) [x] [(x, accObj 217 d (its.push v) ep)] G S ?hkn X.pop r.lt (fun _ _ _ _ _ _ => BindsTo.of_eq rfl) (locs rfl) (by decide) ?_ rfl rfl rfl
  case hkn => exact ⟨fun p hp => by rw [List.mem_singleton.mp hp]; exact ⟨ha.o, S.notTab ha.o (by nofun), hxg⟩, by exact nd1⟩
  intro L h₁ tk j
  have hne := ha.ne
  have a₁ : AccAt w h₁ x d (its.push v) ep tk0 iv := ⟨j.get (.head _), j.old ha.d (.inl (by exact ni1 hne.symm))⟩
  refine ks_wpAt_execs_cons (ks_wpAt_If (wpAt_of_wpAny (wpAny_isTrue_Compare1 ?_)))
  refine MethodCall_ (j_local (s := { s with heap := h₁, toks := tk }) j rfl ?_)
  refine a_meth G X j.mv.st a₁ X.fCount (X.keep 214 (by decide)).2 ?_
  refine j_callWith0 (s := { s with heap := h₁, toks := tk }) G j.mv.st (X.keep 214 (by decide)).1 (wpAny_call ?_)
  refine count_spec (s := { s with heap := h₁, toks := tk }) G X j.mv.st (r.deeper.mono (by decide)) a₁.o fun h₂ t₂ t₃ mv₂ => ?_
  have j₂ := j.call0 mv₂
  refine wpAny_Constant_int (eq_int (wpAny_truthy_bool ?_))
  rw [show (((its.push v).size : Int) == 0) = false from by simp; lia]
  rw [if_neg (by decide)]
  refine wpAt_of_wpAny (wpAny_execs_nil ?_)
  refine ks_wpAt_execs_cons (ks_wpAt_Return_some ?_)
  have a₂ : AccAt w h₂ x d (its.push v) ep tk0 iv := a₁.mv j.mv.st mv₂ (by exact ni0) (by exact ni0)
  refine j_super (s := { s with heap := h₂, toks := t₃ + 1 }) (id := "list.pop") G j₂ X.supP X.pop rfl rfl a₂.o rfl rfl X.alP (fun h => gets_pop) (.inl rfl)
    (fun s Y e A E Q hq => ck_pop Y e rfl rfl X.supC.cls X.qn X.noMod X.ty hq) PySem.F.slot_list_pop.plain (ne_cls (s := s) G S ha.o rfl X.supC.cls)
    (fun h' tk' j' k' => ?_) rfl rfl rfl rfl
  have j₃ := j'.update (f := Obj.mapSeq (·.eraseIdxIfInBounds its.size)) 0 rfl (.inl (.head _)) (by nofun) (mapSeq_pop _ _ _ _ _) rfl
  exact pop_code (s := { s with heap := h', toks := tk' }) (LstAt.acc (j'.mv.st.In G) X.supC.lst (k' _ _ a₂.o)) (by rw [sizeLine_eq]; exact Nat.lt_of_le_of_lt (by assumption) (by decide)) (hR _ _ j₃.mv (j₃.get (.head _)))
theorem kind_getitem : builtinKind "list.__getitem__" = some .method := by rw [builtinKind_eq_fast]; kernel_rfl
theorem kind_setitem : builtinKind "list.__setitem__" = some .slot := by rw [builtinKind_eq_fast]; kernel_rfl
theorem split_getitem : splitId "list.__getitem__" = some ("list", "__getitem__") := by kernel_rfl
theorem split_setitem : splitId "list.__setitem__" = some ("list", "__setitem__") := by kernel_rfl
theorem listSlice_no {sl : Addr} {vl vu vs : Value} {Q : Option Int → Shared → Prop} (hs : s.heap.IsSliceOf sl vl vu vs) (h : Q none s) : wpAny (model prog w) A (Builtin.List.listSubscript? (.ref sl)) Q E s := by
  refine qg fun G kG => ?_
  obtain ⟨os, hos, hcs, hds⟩ := id hs
  refine kG ?_
  have hTs : s.TypeIs (.ref sl) "slice" := ⟨os, hos, hcs⟩
  unfold Builtin.List.listSubscript?
  refine wpAny_bind (wpAny_specialOf hTs slice_no_index ?_)
  simp only [Option.isNone_none, if_true]
  exact wpAny_pure h
theorem listParts {sl : Addr} {vl vu : Value} {lo hi : Option Int} {Q : Value × Value × Value → Shared → Prop} (hs : s.heap.IsSliceOf sl vl vu .none) (pl : IsPart vl lo) (pu : IsPart vu hi)
    (h : Q (rawPart lo, rawPart hi, .none) s) : wpAny (model prog w) A (Builtin.List.listSliceParts (.ref sl)) Q E s := by
  refine qg fun G kG => ?_
  obtain ⟨os, hos, hcs, hds⟩ := id hs
  refine kG ?_
  rw [listSliceParts_eq]
  refine wpAny_bind (wpAny_field hos hds (x := .none) rfl (wpAny_bind (wpAny_listPart .none ?_)))
  refine wf (show ¬ ((rawPart none == rawInt 0) = true) from Bool.false_ne_true) ?_
  refine wpAny_bind (wpAny_field hos hds (x := vl) rfl (wpAny_bind (wpAny_listPart pl ?_)))
  exact wpAny_bind (wpAny_field hos hds (x := vu) rfl (wpAny_bind (wpAny_listPart pu (wpAny_pure h))))
theorem list_getSlice {a sl : Addr} {o : Obj} {its : Array Value} {ep : Nat} {vl vu : Value} {lo hi : Option Int} {Q : Value → Shared → Prop} (L : LstAt (model prog w) s.heap a o its ep) (hs : s.heap.IsSliceOf sl vl vu .none) (pl : IsPart vl lo) (pu : IsPart vu hi)
    (hsz : its.size ≤ sizeLine) (h : Q (.ref s.heap.objs.size) { s with heap := s.heap.push { cls := .type "list", data := .seq (slicePick its lo hi none) } }) :
    wpAny (model prog w) A (call (.builtin "list.__getitem__") [.ref a, .ref sl]) Q E s := by
  refine qg fun G kG => ?_
  obtain ⟨os, hos, hcs, hds⟩ := id hs
  refine kG ?_
  have hTs : s.TypeIs (.ref sl) "slice" := ⟨os, hos, hcs⟩
  refine wpAny_call (codeAny_call_builtin PySem.F.slot_list_getitem.plain PySem.F.entry_list_getitem (check_meth (i := "list.__getitem__") (owner := "list") (n := "__getitem__") (self := .ref a) (rest := [.ref sl]) (kw := []) kind_getitem split_getitem L.inst (by exact PySem.F.args_list_getitem_2 _ _) ?_))
  show wpAny _ _ (Builtin.List.listSubscript? (.ref sl) >>= _) _ _ s
  refine wpAny_bind (listSlice_no hs ?_)
  show wpAny _ _ (typeOf (.ref sl) >>= _) _ _ s
  refine wpAny_bind (wpAny_typeOf hTs ?_)
  refine wf (by decide) ?_
  refine wpAny_bind (listParts hs pl pu ?_)
  refine wpAny_bind (m := Builtin.List.listItems (.ref a)) ?_
  unfold Builtin.List.listItems
  refine wpAny_bind (wpAny_seqItems L.at_ L.data (wpAny_pure ?_))
  refine wpAny_bind (wpAny_of_eq (sliceIndices_raw lo hi none its.size (by simp)) ?_)
  exact wpAny_bind (wpAny_newObj_type (wpAny_pure h) (Nat.le_trans (slicePick_size_le its lo hi none) hsz))
noncomputable def sliceSet (xs new : Array Value) (a b : Int) : Array Value := xs.extract 0 a.toNat ++ new ++ xs.extract (max a b).toNat xs.size
theorem list_setSlice {a sl b : Addr} {o : Obj} {its new : Array Value} {ep en : Nat} {vl vu : Value} {lo hi : Option Int} {Q : Value → Shared → Prop} (L : LstAt (model prog w) s.heap a o its ep) (hs : s.heap.IsSliceOf sl vl vu .none) (pl : IsPart vl lo) (pu : IsPart vu hi)
    (hb : s.heap.get? b = some { cls := .type "list", data := .seq new en }) (hne : a ≠ b) (hsz : its.size + new.size ≤ 100000)
    (h : Q .none { s with heap := s.heap.update a (Obj.mapSeq fun xs => sliceSet xs new (sliceBounds lo hi none its.size).1 (sliceBounds lo hi none its.size).2.1) }) :
    wpAny (model prog w) A (call (.builtin "list.__setitem__") [.ref a, .ref sl, .ref b]) Q E s := by
  obtain ⟨os, hos, hcs, hds⟩ := id hs
  have hTs : s.TypeIs (.ref sl) "slice" := ⟨os, hos, hcs⟩
  have hTb : s.TypeIs (.ref b) "list" := ⟨_, hb, rfl⟩
  refine wpAny_call (codeAny_call_builtin PySem.F.slot_list_setitem.plain PySem.F.entry_list_setitem (check_slot (i := "list.__setitem__") (owner := "list") (n := "__setitem__") (self := .ref a) (rest := [.ref sl, .ref b]) (kw := []) kind_setitem split_setitem L.inst (by exact PySem.F.args_list_setitem_3 _ _ _) ?_))
  show wpAny _ _ (Builtin.List.listSubscript? (.ref sl) >>= _) _ _ s
  refine wpAny_bind (listSlice_no hs ?_)
  show wpAny _ _ (typeOf (.ref sl) >>= _) _ _ s
  refine wpAny_bind (wpAny_typeOf hTs ?_)
  refine wf (by decide) ?_
  refine wpAny_bind (listParts hs pl pu ?_)
  dsimp only
  have hsame : Builtin.List.listSameRef (.ref a) (.ref b) = false := by
    show (a == b) = false
    simpa using hne
  rw [hsame]
  simp only [Bool.false_eq_true, if_false]
  unfold Builtin.List.listAllItems
  refine wpAny_bind (wpAny_bind (wpAny_typeOf hTb ?_))
  refine wt (by decide) ?_
  unfold Builtin.List.listItems
  refine wpAny_bind (wpAny_seqItems hb rfl (wpAny_pure ?_))
  refine wpAny_bind (wpAny_bind (wpAny_seqItems L.at_ L.data (wpAny_pure ?_)))
  refine wpAny_bind (wpAny_of_eq (sliceIndices_raw lo hi none its.size (by simp)) ?_)
  refine wt (by rfl) ?_
  refine wpAny_bind (wpAny_rule ?_)
  have hl : Builtin.List.listTooLong (its.size + new.size) = false := by
    unfold Builtin.List.listTooLong
    rw [sizeLine_eq]
    simp; exact Nat.le_trans (by assumption) (by decide)
  rw [hl]
  simp only [Bool.false_eq_true, if_false]
  refine wpAny_bind (m := updateSeq a _) (wpAny_updateSeq L.at_ L.data ?_ (by rw [sizeLine_eq]; lia) ?_)
  · exact wpAny_bind (wpAny_letGo (wpAny_pure h))
  · simp only [Array.size_append, Array.size_extract]
    rw [sizeLine_eq]
    exact Nat.le_trans (Nat.add_le_add (Nat.add_le_add (Nat.le_trans (Nat.sub_le ..) (Nat.min_le_right ..)) (Nat.le_refl _)) (Nat.le_trans (Nat.sub_le ..) (Nat.min_le_right ..))) (Nat.le_trans (Nat.add_le_add hsz (Nat.le_trans (Nat.le_add_right ..) hsz)) (by decide))
theorem special_B {M : Model} {x C : Addr} {ox : Obj} {od : Option Obj} {T : String} {name : Str} {id : String} {args : List Value} {Q : Option Value → Shared → Prop} (Y : K.In s.heap) (I : InstAt s.heap x ox C od)
    (hs : findIn K (.ref C) name = some (some (.builtin id))) (sl : Slot T name id) (h : wpAny M A (call (.builtin id) (.ref x :: args)) (fun v => Q (some v)) E s) :
    wpAny M A (callSpecial? (.ref x) name args) Q E s := by
  refine wpAny_bind (wpAny_bind (I.type.here ((looks_findIn Y hs).here (wpAny_holding ?_))))
  rw [sl.bind]
  exact wpAny_bind (wpAny_pure (wpAny_bind (wpAny_mono h (fun _ _ z => wpAny_pure z) fun _ _ z => z)))
theorem a_getItem {x d : Addr} {its : Array Value} {ep : Nat} {tk : Tok} {iv i : Value} {Q : Value → Shared → Prop} (G : Gb T K mg mb g) (X : Fx K cd) (S : St T g s.heap) (a : AccAt w s.heap x d its ep tk iv)
    (h : wpAny (model prog w) A (call (.builtin "list.__getitem__") [.ref x, i]) Q E s) : wpAny (model prog w) A (getItem (.ref x) i) Q E s := by
  have Y := S.In G
  have I := a.inst
  unfold getItem sequenceKey
  refine wpAny_holding (wpAny_bind (wpAny_bind (I.type.here ?_)))
  refine wpAny_bind ((anyM_none Y X.seq).here ?_)
  refine wt (show (!false) = true from rfl) ?_
  exact wpAny_pure (wpAny_bind (special_B Y I X.fGet PySem.F.slot_list_getitem (wpAny_mono h (fun _ _ z => wpAny_pure z) fun _ _ z => z)))
theorem a_setItem {x d : Addr} {its : Array Value} {ep : Nat} {tk : Tok} {iv i v : Value} {Q : Unit → Shared → Prop} (G : Gb T K mg mb g) (X : Fx K cd) (S : St T g s.heap) (a : AccAt w s.heap x d its ep tk iv)
    (h : wpAny (model prog w) A (call (.builtin "list.__setitem__") [.ref x, i, v]) (fun _ => Q ()) E s) : wpAny (model prog w) A (setItem (.ref x) i v) Q E s := by
  have Y := S.In G
  have I := a.inst
  unfold setItem sequenceKey
  refine wpAny_holding (wpAny_bind (wpAny_bind (I.type.here ?_)))
  refine wpAny_bind ((anyM_none Y X.seq).here ?_)
  refine wt (show (!false) = true from rfl) ?_
  exact wpAny_pure (wpAny_bind (special_B Y I X.fSet PySem.F.slot_list_setitem (wpAny_mono h (fun _ _ z => wpAny_pure z) fun _ _ z => z)))
theorem a_sub {value slice : Expr} {x d : Addr} {its : Array Value} {ep : Nat} {tk : Tok} {iv i : Value} {Q : Value → Shared → Prop} (G : Gb T K mg mb g) (X : Fx K cd) (S : St T g s.heap) (a : AccAt w s.heap x d its ep tk iv)
    (h : wpAny (model prog w) A (call (.builtin "list.__getitem__") [.ref x, i]) Q E s)
    (hs : (subscripted slice false (.ref x) i = operate [.ref x, i] (getItem (.ref x) i)) ∨ (subscripted slice false (.ref x) i = operate [i, .ref x] (getItem (.ref x) i))) :
    wpAny (model prog w) A (subscriptTail value slice (.ref x) i) Q E s := by
  have Y := S.In G
  have I := a.inst
  unfold subscriptTail getitemInPython
  refine wpAny_bind (wpAny_bind (wpAny_bind (I.type.here ((looks_findIn Y X.fGet).here ?_))))
  refine wpAny_pure (wpAny_bind ?_)
  have fin := a_getItem (A := A) (E := E) (Q := fun r s₃ => wpAny (model prog w) A (letTemporaryGo value (.ref x) r >>= fun _ => pure r) Q E s₃) G X S a
    (wpAny_mono h (fun r s₃ h₃ => wpAny_bind (wpAny_letTemporaryGo (wpAny_pure h₃))) fun _ _ z => z)
  rcases hs with hs | hs <;> · rw [hs]; exact wpAny_operating fin
inductive All2 {α β : Type} (P : α → β → Prop) : List α → List β → Prop where
  | nil : All2 P [] []
  | cons {a : α} {b : β} {l : List α} {l' : List β} (h : P a b) (t : All2 P l l') : All2 P (a :: l) (b :: l')
theorem All2.len {α β : Type} {P : α → β → Prop} {l : List α} {l' : List β} (p : All2 P l l') : l.length = l'.length := by
  induction p with
  | nil => rfl
  | cons a _ ih => simp [ih]
theorem All2.imp {α β : Type} {P P' : α → β → Prop} {l : List α} {l' : List β} (p : All2 P l l') (h : ∀ a b, P a b → P' a b) : All2 P' l l' := by
  induction p with
  | nil => exact .nil
  | cons a _ ih => exact .cons (h _ _ a) ih
theorem All2.drop {α β : Type} {P : α → β → Prop} {l : List α} {l' : List β} (p : All2 P l l') (k : Nat) : All2 P (l.drop k) (l'.drop k) := by
  induction p generalizing k with
  | nil => simpa using All2.nil
  | cons a q ih =>
    cases k with
    | zero => exact .cons a q
    | succ k => simpa using ih k
theorem All2.take {α β : Type} {P : α → β → Prop} {l : List α} {l' : List β} (p : All2 P l l') (k : Nat) : All2 P (l.take k) (l'.take k) := by
  induction p generalizing k with
  | nil => simpa using All2.nil
  | cons a q ih =>
    cases k with
    | zero => exact .nil
    | succ k => simpa using All2.cons a (ih k)
theorem All2.append {α β : Type} {P : α → β → Prop} {l₁ l₂ : List α} {l₁' l₂' : List β} (p : All2 P l₁ l₁') (q : All2 P l₂ l₂') : All2 P (l₁ ++ l₂) (l₁' ++ l₂') := by
  induction p with
  | nil => exact q
  | cons a _ ih => exact .cons a ih
noncomputable def IsPair (Pk : Addr → Prop) (h : Heap) (v : Value) (p : Str × Str) : Prop := ∃ (t : {t : Addr // Pk t}) (ta tb : Tok), v = .ref t.1 ∧ h.get? t.1 = some (tupObj [.str p.1 ta, .str p.2 tb])
theorem IsPair.mv {h h' : Heap} {v : Value} {p : Str × Str} {W : List Addr} (a : IsPair Pk h v p) (S : St T g h) (m : Mv T g W h h') : IsPair Pk h' v p := by
  obtain ⟨t, ta, tb, e, b⟩ := a
  exact ⟨t, ta, tb, e, m.keep _ _ b (S.notTab b (by nofun)) (.inr ⟨rfl, _, _, rfl⟩)⟩
noncomputable abbrev Parts (Pk : Addr → Prop) (h : Heap) (its : List Value) (ps : List (Str × Str)) : Prop := All2 (IsPair Pk h) its ps
theorem Parts.mv {h h' : Heap} {its : List Value} {ps : List (Str × Str)} {W : List Addr} (p : Parts Pk h its ps) (S : St T g h) (m : Mv T g W h h') : Parts Pk h' its ps := p.imp fun _ _ a => a.mv S m
noncomputable def Acc (Pk : Addr → Prop) (w : World) (h : Heap) (x d : Addr) (ps : List (Str × Str)) (n : Int) : Prop := ∃ its ep tk tn, AccAt w h x d its ep tk (.int n tn) ∧ Parts Pk h its.toList ps
theorem Acc.mv {h h' : Heap} {x d : Addr} {ps : List (Str × Str)} {n : Int} {W : List Addr} (a : Acc Pk w h x d ps n) (S : St T g h) (m : Mv T g W h h') (hx : x ∉ W) (hd : d ∉ W) : Acc Pk w h' x d ps n := by
  refine qg fun G kG => ?_
  obtain ⟨its, ep, tk, tn, a, p⟩ := a
  refine kG ?_
  exact ⟨its, ep, tk, tn, a.mv S m hx hd, p.mv S m⟩
noncomputable def PLst (Pk : Addr → Prop) (h : Heap) (l : Addr) (ps : List (Str × Str)) : Prop := ∃ its ep, h.get? l = some { cls := .type "list", data := .seq its ep } ∧ Parts Pk h its.toList ps
theorem PLst.mv {h h' : Heap} {x : Addr} {ps : List (Str × Str)} {W : List Addr} (a : PLst Pk h x ps) (S : St T g h) (m : Mv T g W h h') (hx : x ∉ W) : PLst Pk h' x ps := by
  obtain ⟨its, ep, a, p⟩ := a
  exact ⟨its, ep, m.keep _ _ a (S.notTab a (by nofun)) (.inl hx), p.mv S m⟩
theorem sb_from (its : Array Value) (k : Nat) : sliceBounds (some (k : Int)) none none its.size = (((min k its.size : Nat) : Int), ((its.size : Nat) : Int), 1) := by
    simp only [sliceBounds, Option.getD_none, show (1 : Int) > 0 by decide, if_true, if_neg (show ¬ ((k : Int) < 0) by lia)]
    congr 1
    lia
theorem pick_from (its : Array Value) (k : Nat) : slicePick its (some (k : Int)) none none = (its.toList.drop k).toArray := by
  have e : sliceBounds (some (k : Int)) none none its.size = (((min k its.size : Nat) : Int), ((its.size : Nat) : Int), 1) := sb_from its k
  rw [kmk_pick_nat _ e]
  have h1 : min k its.size = min k its.toList.length := by simp
  rw [h1, kmk_drop_min, List.take_of_length_le (by rw [List.length_drop]; simp; (clear h1; omega))]
theorem set_from (its : Array Value) (k : Nat) : sliceSet its #[] (sliceBounds (some (k : Int)) none none its.size).1 (sliceBounds (some (k : Int)) none none its.size).2.1 = (its.toList.take k).toArray := by
  have e : sliceBounds (some (k : Int)) none none its.size = (((min k its.size : Nat) : Int), ((its.size : Nat) : Int), 1) := sb_from its k
  rw [e]
  unfold sliceSet
  apply Array.ext'
  simp
  rcases its with ⟨l⟩
  simp
  rw [kmk_take_min]
  have h : (Max.max (↑(Min.min k l.length) : Int) ↑l.length).toNat = l.length := by rw [Int.max_eq_right (lenat (Nat.min_le_right _ _))]; rfl
  rw [h]
  simp
theorem mapSeq_acc (C d : Addr) (its new : Array Value) (ep : Nat) (f : Array Value → Array Value) (e : f its = new) : ∃ ep', Obj.mapSeq f (accObj C d its ep) = accObj C d new ep' := by
  subst e
  exact ⟨_, rfl⟩
end
end Mine
end
section
open PySem PySem.W PySem.Calls PyProof.Rows Builtin
namespace Mine
section
variable {Pk : Addr → Prop}
variable {T : Tabs} {K : Frag} {cd : ClassData} {mg mb : Str → Option Value} {w : World} {A : Around} {s : Shared} {g h₀ : Heap} {W : List Addr} {L : Addr} {m : Str → Option Value} {kn : List (Addr × Obj)} {R : Result → Shared → Prop} {E : Value → Shared → Prop} {prog : Program}
noncomputable abbrev slObj (vl vu : Value) : Obj := { cls := .type "slice", data := .fields #[vl, vu, .none] }
theorem j_Slice {lower upper : Option Expr} {p : Pos} {env : Env} {Q : Value → Shared → Prop}
    (h : wpAny (model prog w) A (evalPart lower env) (fun l s₁ => wpAny (model prog w) A (evalPart upper env) (fun u s₂ => J T g W h₀ L s₂.heap m kn ∧ ∀ sl h', J T g W h₀ L h' m ((sl, slObj l u) :: kn) → Q (.ref sl) { s₂ with heap := h' }) E s₁) E s) :
    wpAny (model prog w) A (eval (.Slice lower upper none p) env) Q E s :=
  wpAny_Slice (wpAny_mono h (fun l s₁ h₁ => wpAny_mono h₁ (fun u s₂ h₂ => wpAny_pure (h₂.2 _ _ (h₂.1.push _ rfl))) fun _ _ x => x) fun _ _ x => x)
theorem J.know {h : Heap} (j : J T g W h₀ L h m kn) {a : Addr} {o : Obj} (e0 : h₀.get? a = some o) (hw : a ∉ W ∨ isTup o) (ha : a ∉ kn.map (·.1)) (hg : g.objs.size ≤ a) (hc : o.cls ≠ .none := by nofun) : J T g W h₀ L h m ((a, o) :: kn) :=
  ⟨j.mv, j.ns, j.Lt, j.Ln, j.Lg, fun p hp => by
    rcases List.mem_cons.mp hp with rfl | hp
    · refine ⟨j.old e0 hw hc, ?_, j.s0.notTab e0 hc, hg⟩
      rintro rfl
      rw [j.Ln] at e0
      cases e0
    · exact j.has p hp, by rw [List.map_cons]; exact List.nodup_cons.mpr ⟨ha, j.nd⟩, j.s0⟩
theorem popf_spec {x d : Addr} {ps : List (Str × Str)} {n : Int} {k : Nat} {args : Args} {tk : Tok} (G : Gb T K mg mb g) (X : Fx K cd) (S : St T g s.heap) (r : Rm A 1)
   (ha : Acc Pk w s.heap x d ps n) (hxg : g.objs.size ≤ x) (hsz : ps.length ≤ 1000)
   (hb : ∀ fd, fd.params = fArgs (inCls 12 2) → fd.defaults = .ref 162 → BindsTo s fd args [("self", .ref x), ("i", .int k tk)])
   (hR : ∀ l h' tk, Mv T g [x] s.heap h' → Acc Pk w h' x d (ps.take k) n → PLst Pk h' l (ps.drop k) → s.heap.get? l = none → g.objs.size ≤ l → R (.ok (.ret (.ref l))) { s with heap := h', toks := tk }) :
   codeAny (model PR w) A (.call (.ref 169) args) R s := by
  obtain ⟨its, ep, tk0, tn, ha, hp⟩ := ha
  have hlen : its.size = ps.length := by rw [← hp.len, Array.length_toList]
  refine' j_call (binds := [("self", .ref x), ("i", .int k tk)]) [x] [(x, accObj 217 d its ep)] G S ?hkn X.popf r.lt (fun _ _ _ _ _ _ => hb _ rfl rfl) (locs rfl) (by decide) ?_ rfl rfl rfl
  case hkn => exact ⟨fun p hp => by rw [List.mem_singleton.mp hp]; exact ⟨ha.o, S.notTab ha.o (by nofun), hxg⟩, by exact nd1⟩
  intro L h₁ t₁ j
  have hne := ha.ne
  have a₁ : AccAt w h₁ x d its ep tk0 (.int n tn) := ⟨j.get (.head _), j.old ha.d (.inl (by exact ni1 hne.symm))⟩
  refine wpAny_execs_cons (wpAny_Assign_Name (Subscript_ (j_local (s := { s with heap := h₁, toks := t₁ }) j rfl ?_)))
  refine j_Slice (j_local (s := { s with heap := h₁, toks := t₁ }) j rfl (wpAny_pure ⟨j, fun sl h₂ j₂ => ?_⟩))
  have a₂ : AccAt w h₂ x d its ep tk0 (.int n tn) := ⟨j₂.get (.tail _ (.head _)), j₂.old ha.d (.inl (by exact ni1 hne.symm))⟩
  have hsl : h₂.IsSliceOf sl (.int k tk) .none .none := ⟨_, j₂.get (.head _), rfl, rfl⟩
  refine a_sub (s := { s with heap := h₂, toks := t₁ }) G X j₂.mv.st a₂ ?_ (.inr rfl)
  refine list_getSlice (s := { s with heap := h₂, toks := t₁ }) (lo := some (k : Int)) (hi := none) (LstAt.acc (j₂.mv.st.In G) X.supC.lst a₂.o) hsl (by constructor) (by constructor) (by rw [sizeLine_eq]; lia) ?_
  have j₃ := j₂.push { cls := .type "list", data := .seq (slicePick its (some (k : Int)) none none) } rfl
  have nl : s.heap.get? h₂.objs.size = none := j₂.new
  have nl2 : h₂.get? h₂.objs.size = none := by
    cases q : h₂.get? h₂.objs.size with
    | none => rfl
    | some o => exact absurd (Heap.lt_size q) (Nat.lt_irrefl _)
  rw [pick_from] at j₃ ⊢
  revert j₃ nl nl2
  generalize h₂.objs.size = l
  generalize h₂.push _ = h₃
  intro j₃ nl nl2
  refine j_store (s := { s with heap := h₃, toks := t₁ }) j₃ (fun h₄ t₄ j₄ => ?_)
  refine wpAny_execs_cons (wpAny_Assign_Subscript (List_ (args_nil ?_)))
  refine j_newList (s := { s with heap := h₄, toks := t₄ }) j₄ (fun e h₅ j₅ _ _ => ?_)
  refine j_local (s := { s with heap := h₅, toks := t₄ }) j₅ rfl ?_
  refine j_Slice (j_local (s := { s with heap := h₅, toks := t₄ }) j₅ rfl (wpAny_pure ⟨j₅, fun sl₂ h₆ j₆ => ?_⟩))
  have a₆ : AccAt w h₆ x d its ep tk0 (.int n tn) := ⟨j₆.get (.tail _ (.tail _ (.tail _ (.tail _ (.head _))))), j₆.old ha.d (.inl (by exact ni1 hne.symm))⟩
  refine a_setItem (s := { s with heap := h₆, toks := t₄ }) G X j₆.mv.st a₆ ?_
  have hsl₂ : h₆.IsSliceOf sl₂ (.int k tk) .none .none := ⟨_, j₆.get (.head _), rfl, rfl⟩
  refine list_setSlice (s := { s with heap := h₆, toks := t₄ }) (lo := some (k : Int)) (hi := none) (LstAt.acc (j₆.mv.st.In G) X.supC.lst a₆.o) hsl₂ (by constructor) (by constructor) (j₆.get (.tail _ (.head _))) ?hxe (by simp; lia) ?_
  case hxe =>
    rintro rfl
    have e1 := j₆.get (.tail _ (.head _))
    rw [a₆.o] at e1
    cases e1
  obtain ⟨ep', ee⟩ := mapSeq_acc 217 d its _ ep (fun xs => sliceSet xs #[] (sliceBounds (some (k : Int)) none none its.size).1 (sliceBounds (some (k : Int)) none none its.size).2.1) (set_from its k)
  have j₇ := j₆.update 4 rfl (.inl (.head _)) (by nofun) ee rfl
  revert j₇
  generalize h₆.update x _ = h₇
  intro j₇
  refine wpAny_execs_cons (wpAny_Return_some (j_local (s := { s with heap := h₇, toks := t₄ }) j₇ rfl ?_))
  have q := hp.mv S j₇.mv
  refine hR l _ _ j₇.mv ⟨_, _, _, _, ⟨j₇.get (.tail _ (.tail _ (.tail _ (.tail _ (.head _))))), j₇.old ha.d (.inl (by exact ni1 hne.symm))⟩, ?_⟩ ⟨_, _, j₇.get (.tail _ (.tail _ (.head _))), ?_⟩ nl (j₇.has _ (.tail _ (.tail _ (.head _)))).2.2.2
  · simpa using q.take k
  · simpa using q.drop k
end
end Mine
end
section
open PySem PySem.W PySem.Calls PyProof.Rows Builtin Builtin.ObjectAttr
namespace Mine
section
variable {Pk : Addr → Prop}
variable {T : Tabs} {K : Frag} {cd : ClassData} {mg mb : Str → Option Value} {w : World} {A : Around} {s : Shared} {g h₀ : Heap} {W : List Addr} {L : Addr} {m : Str → Option Value} {kn : List (Addr × Obj)} {R : Result → Shared → Prop} {E : Value → Shared → Prop} {prog : Program}
theorem refuse_list (self : Value) (C : Addr) : refuseLoop self "__setattr__" [.ref C, .type "list", .type "object"] = pure () := by
  rw [refuseLoop_ref]
  kernel_rfl
noncomputable def OverOk (K : Frag) (C : Addr) : Prop := ∃ cd, clsIn K C = some cd ∧ (∀ self, refuseLoop self "__setattr__" cd.mro = pure ()) ∧ cd.mro.isEmpty = false ∧ cd.mro.contains (.type "object") = true ∧ cd.hasDict = true
theorem OverOk.plain {C : Addr} (h : plainOver K C = true) (hh : (clsIn K C).any (·.hasDict) = true) : OverOk K C := by
  obtain ⟨cd, hc, ho⟩ := any_some h
  obtain ⟨cd', hc', hd⟩ := any_some hh
  rw [hc] at hc'
  cases hc'
  exact ⟨cd, hc, fun self => refuse_only self ho, by cases q : cd.mro with | nil => rw [q] at ho; cases ho | cons _ _ => rfl, only_has ho, hd⟩
theorem j_osa {x dx C : Addr} {ox od : Obj} {name : Str} {v : Value} {tk : Tok} (X : K.In s.heap) (I : InstAt s.heap x ox C (some od)) (hd : ox.dict = some dx)
    (hp : OverOk K C) (ht : takerIn K C name = some none)
    (hl : (lookIn name od).isSome = true)
    (e : ∀ tk, ∃ od' es n, Obj.putName name (PyData.keyHash w.params name) (.str name tk) v od = od' ∧ od'.data = .dict es n ∧ es.size ≤ 1000 ∧ od'.isFreed = false)
    (h : R (.ok (.ret .none)) { s with heap := s.heap.update dx (Obj.putName name (PyData.keyHash w.params name) (.str name s.toks) v), toks := s.toks + 1 }) : codeAny (model prog w) A (.call (.builtin "object.__setattr__") ⟨[.ref x, .str name tk, v], []⟩) R s := by
  have SF := PySem.F.store_object
  refine qg fun G kG => ?_
  obtain ⟨cd, hc, ho, ne, hob, hhd⟩ := hp
  refine kG ?_
  have sub : Looks (model prog w) s.heap (isInstance (.ref x) (.type "object")) true := I.type.andThen (looks_mroIn X (by unfold mroIn; rw [hc, Option.bind_some, if_neg (by rw [ne]; decide), hob]))
  refine codeAny_call_builtin SF.slot.plain SF.entry (@check_slot (model prog w) _ _ s "object.__setattr__" "object" "__setattr__" (.ref x) [.str name tk, v] [] _ SF.kind SF.split sub (SF.args (.ref x) (.str name tk) v) ?_)
  obtain ⟨attr, ha, hr⟩ := Option.bind_eq_some_iff.mp ht
  have hm : Looks (model prog w) s.heap (mroOf (.ref C)) cd.mro := (looks_clsIn X hc).andThen .now
  have L3 : Looks (model prog w) s.heap (storeTaker? attr) none := by
    cases attr with
    | none => exact .now
    | some a =>
      obtain ⟨b, hb, hb2⟩ := Option.map_eq_some_iff.mp hr
      refine (looks_takesIn X hb).andThen ?_
      cases b
      · exact .now
      · cases hb2
  rw [osa_eq, refuse_eq]
  refine wpAny_bind (wpAny_bind (I.type.here (wpAny_bind (hm.here ?_))))
  rw [ho]
  refine wpAny_pure (wpAny_bind (I.type.here (wpAny_bind ((looks_findIn X ha).here (wpAny_bind (L3.here ?_))))))
  obtain ⟨hx, hcl, hn, D⟩ := I
  obtain ⟨oc, odi, oda, osl⟩ := ox
  dsimp only at hcl hd D
  subst hcl hd
  dsimp only at D
  refine qg fun G kG => ?_
  obtain ⟨od', es', n', e1, e2, e3, e4⟩ := e s.toks
  refine kG ?_
  have D' : (s.heap.update dx (Obj.putName name (PyData.keyHash w.params name) (.str name s.toks) v)).get? dx = some od' := by
    have := Heap.get?_update_self (Obj.putName name (PyData.keyHash w.params name) (.str name s.toks) v) D (by rw [e1]; exact e4)
    rw [this, e1]
  refine wpAny_bind (wpAny_pure (wpAny_bind (wpAny_bind (wpAny_loadPart hx (wpAny_bind ((looks_clsIn X hc).here ?_))))))
  rw [hhd]
  refine wpAny_pure (a := some dx) (wpAny_bind (wpAny_pure (wpAny_bind ?_)))
  unfold nsSet
  refine wpAny_bind (wpAny_bind (wpAny_askSetting (wpAny_pure (wpAny_bind (wpAny_mkText (wpAny_bind (wpAny_loadPart D ?_)))))))
  unfold lookIn at hl
  split at hl
  · rename_i es₀ n₀ q
    rw [q]
    dsimp only
    have c : (!es₀.any (·.key.isStr name) && es₀.any (·.refKey)) = false := by
      rw [← Array.any_toList, ← Array.any_toList]
      split at hl
      · rename_i en he
        rw [List.any_eq_true.mpr ⟨en, List.mem_of_find?_eq_some he, List.find?_some he⟩]; rfl
      · split at hl
        · cases hl
        · rename_i z; rw [Bool.not_eq_true] at z; rw [z, Bool.and_false]
    rw [aRefKeyMayBeTheName_at, c]
    refine wpAny_updatePart D ?_
    refine wpAny_bind (wpAny_lookBehind D' (by rw [e2]; exact pastItsLine_dict (by rw [sizeLine_eq]; exact Nat.le_trans (by assumption) (by decide))) ?_)
    exact wpAny_pure h
  · cases hl
theorem j_setattr {x dx C : Addr} {ox od : Obj} {name : Str} {v : Value} {Q : Unit → Shared → Prop} (X : K.In s.heap) (I : InstAt s.heap x ox C (some od)) (hd : ox.dict = some dx)
    (hs : findIn K (.ref C) "__setattr__" = some (some (.builtin "object.__setattr__"))) (hp : OverOk K C) (ht : takerIn K C name = some none)
    (hl : (lookIn name od).isSome = true)
    (e : ∀ tk, ∃ od' es n, Obj.putName name (PyData.keyHash w.params name) (.str name tk) v od = od' ∧ od'.data = .dict es n ∧ es.size ≤ 1000 ∧ od'.isFreed = false)
    (h : ∀ tk t', Q () { s with heap := s.heap.update dx (Obj.putName name (PyData.keyHash w.params name) (.str name tk) v), toks := t' }) : wpAny (model prog w) A (setAttr (.ref x) name v) Q E s :=
  set_plain X I hs (j_osa (s := { s with toks := s.toks + 1 }) X I hd hp ht hl e (h _ _))
theorem Fx.over (X : Fx K cd) : OverOk K 217 := ⟨cd, X.supC.cls, fun self => by rw [X.mro]; exact refuse_list self 217, by rw [X.mro]; rfl, by rw [X.mro]; decide, X.hd⟩
theorem Fx.taker (X : Fx K cd) : takerIn K 217 "_initial_size" = some none := by unfold takerIn; rw [X.fSize]; rfl
theorem put_size (h : Int) (key : Value) (tk tk' : Tok) (iv v : Value) : ∃ tk'', Obj.putName "_initial_size" (PyData.keyHash w.params "_initial_size") (.str "_initial_size" tk') v (szD w tk iv) = szD w tk'' v := by
  refine ⟨tk, ?_⟩
  rw [putName_dict]
  rfl
theorem set_all (its new : Array Value) : sliceSet its new (sliceBounds none none none its.size).1 (sliceBounds none none none its.size).2.1 = new := by
  have e : sliceBounds none none none its.size = (((0 : Nat) : Int), ((its.size : Nat) : Int), 1) := by
    simp only [sliceBounds, Option.getD_none, show (1 : Int) > 0 by decide, if_true]
    rfl
  rw [e]
  unfold sliceSet
  apply Array.ext'
  simp
theorem reset_spec {x d : Addr} {ps qs : List (Str × Str)} {n : Int} {args : Args} {v : Value} (G : Gb T K mg mb g) (X : Fx K cd) (S : St T g s.heap) (r : Rm A 1)
   (ha : Acc Pk w s.heap x d ps n) (hxg : g.objs.size ≤ x) (hdg : g.objs.size ≤ d) (hsz : ps.length ≤ 1000) (hsq : qs.length ≤ 1000)
   (hv : (v = .none ∧ qs = []) ∨ ∃ l, v = .ref l ∧ PLst Pk s.heap l qs ∧ g.objs.size ≤ l)
   (hb : ∀ fd, fd.params = fArgs (inCls 12 6) → fd.defaults = .ref 192 → BindsTo s fd args [("self", .ref x), ("startval", v)])
   (hR : ∀ h' tk, Mv T g [x, d] s.heap h' → Acc Pk w h' x d qs 0 → R (.ok (.ret .none)) { s with heap := h', toks := tk }) :
   codeAny (model PR w) A (.call (.ref 199) args) R s := by
  obtain ⟨its, ep, tk0, tn, ha, hp⟩ := ha
  have hlen : its.size = ps.length := by rw [← hp.len, Array.length_toList]
  have hne := ha.ne
  refine' j_call (binds := [("self", .ref x), ("startval", v)]) [x, d] [(x, accObj 217 d its ep), (d, szD w tk0 (.int n tn))] G S ?hkn X.reset r.lt (fun _ _ _ _ _ _ => hb _ rfl rfl) (locs rfl) (by decide) ?_ rfl rfl rfl
  case hkn =>
    refine ⟨fun p hp => ?_, by simp [hne]⟩
    rcases List.mem_cons.mp hp with rfl | hp
    · exact ⟨ha.o, S.notTab ha.o (by nofun), hxg⟩
    · rw [List.mem_singleton.mp hp]; exact ⟨ha.d, S.notTab ha.d (by nofun), hdg⟩
  intro L h₁ t₁ j
  have key : ∀ (h₂ : Heap) (t₂ : Tok) (l : Addr) (m' : Str → Option Value) (new : Array Value) (en : Nat) (j₂ : J T g [x, d] s.heap L h₂ m' ((l, ({ cls := .type "list", data := .seq new en } : Obj)) :: (x, accObj 217 d its ep) :: (d, szD w tk0 (.int n tn)) :: [])), m' "self" = some (.ref x) → m' "startval" = some (.ref l) → new.size = qs.length → (∀ h', Mv T g [x, d] s.heap h' → Parts Pk h' new.toList qs) →
      wpAny (model PR w) (A.deeper (envX "_Accumulator.reset" (fScope (inCls 12 6)) L 199 (.ref 198) [])) (execs ((fBody (inCls 12 6)).drop 1) (envX "_Accumulator.reset" (fScope (inCls 12 6)) L 199 (.ref 198) []))
        (fun fl s' => R (.ok (.ret (match fl with | .ret v => v | _ => .none))) s') (fun _ _ => False) { s with heap := h₂, toks := t₂ } := by
    intro h₂ t₂ l m' new en j₂ m1 m2 hnl hq
    refine wpAny_execs_cons (wpAny_Assign_Subscript ?_)
    refine j_local (s := { s with heap := h₂, toks := t₂ }) j₂ m2 ?_
    refine j_local (s := { s with heap := h₂, toks := t₂ }) j₂ m1 ?_
    refine j_Slice (wpAny_pure (wpAny_pure ⟨j₂, fun sl h₃ j₃ => ?_⟩))
    have k₃ : h₃.get? l = some { cls := .type "list", data := .seq new en } := j₃.get (.tail _ (.head _))
    have a₃ : AccAt w h₃ x d its ep tk0 (.int n tn) := ⟨j₃.get (.tail _ (.tail _ (.head _))), j₃.get (.tail _ (.tail _ (.tail _ (.head _))))⟩
    refine a_setItem (s := { s with heap := h₃, toks := t₂ }) G X j₃.mv.st a₃ ?_
    have hsl : h₃.IsSliceOf sl .none .none .none := ⟨_, j₃.get (.head _), rfl, rfl⟩
    refine list_setSlice (s := { s with heap := h₃, toks := t₂ }) (lo := none) (hi := none) (LstAt.acc (j₃.mv.st.In G) X.supC.lst a₃.o) hsl (by constructor) (by constructor) k₃ ?hxe (by lia) ?_
    case hxe =>
      rintro rfl
      rw [a₃.o] at k₃
      cases k₃
    obtain ⟨ep', ee⟩ := mapSeq_acc 217 d its _ ep (fun xs => sliceSet xs new (sliceBounds none none none its.size).1 (sliceBounds none none none its.size).2.1) (set_all its new)
    have j₄ := j₃.update 2 rfl (.inl (.head _)) (by nofun) ee rfl
    revert j₄
    generalize h₃.update x _ = h₄
    intro j₄
    have a₄ : AccAt w h₄ x d new ep' tk0 (.int n tn) := ⟨j₄.get (.tail _ (.tail _ (.head _))), j₄.get (.tail _ (.tail _ (.tail _ (.head _))))⟩
    refine wpAny_execs_cons (plainObj_wpAny_Assign_Attribute (wpAny_Constant_int ?_))
    refine j_local (s := { s with heap := h₄, toks := t₂ + 1 }) j₄ m1 ?_
    refine j_setattr (s := { s with heap := h₄, toks := t₂ + 1 }) (dx := d) (j₄.mv.st.In G) a₄.inst rfl X.fSetattr X.over X.taker (by rfl) ?_ ?_
    · intro tk
      obtain ⟨tk'', e⟩ := put_size (w := w) 0 .none tk0 tk (.int n tn) (.int 0 t₂)
      exact ⟨_, _, _, e, rfl, by simp, rfl⟩
    · intro tk t'
      obtain ⟨tk'', e⟩ := put_size (w := w) 0 .none tk0 tk (.int n tn) (.int 0 t₂)
      have j₅ := j₄.update 3 rfl (.inl (.tail _ (.head _))) (by exact tnD) e rfl
      refine wpAny_execs_nil (hR _ _ j₅.mv ⟨_, _, _, _, ⟨j₅.get (.tail _ (.tail _ (.head _))), j₅.get (.tail _ (.tail _ (.tail _ (.head _))))⟩, hq _ j₅.mv⟩)
  refine wpAny_execs_cons (wpAny_If (wpAny_isTrue_Compare1 (j_local (s := { s with heap := h₁, toks := t₁ }) j rfl (wpAny_Constant_none ?_))))
  rcases hv with ⟨rfl, rfl⟩ | ⟨l, rfl, ⟨new, en, hl, hq⟩, hlg⟩
  · refine wpAny_is_plain rfl (wpAny_truthy_bool ?_)
    rw [show (Value.none == Value.none) = true from rfl, if_pos rfl]
    refine wpAny_execs_cons (wpAny_Assign_Name (List_ (args_nil ?_)))
    refine j_newList (s := { s with heap := h₁, toks := t₁ }) j (fun l h₂ j₂ n₂ _ => ?_)
    refine j_store (s := { s with heap := h₂, toks := t₁ }) j₂ (fun h₃ t₃ j₃ => ?_)
    refine wpAny_execs_nil ?_
    exact key h₃ t₃ l _ _ _ j₃ rfl rfl rfl fun _ _ => .nil
  · refine is_ref_none (wpAny_truthy_bool ?_)
    rw [if_neg (by decide)]
    refine wpAny_execs_nil ?_
    have lx : l ≠ x := by rintro rfl; rw [ha.o] at hl; cases hl
    have ld : l ≠ d := by rintro rfl; rw [ha.d] at hl; have := congrArg Obj.cls (Option.some.inj hl); simp [dictOf] at this
    exact key h₁ t₁ l _ _ _ (j.know hl (.inl (by exact ni2 lx ld)) (by simp [lx, ld]) hlg) rfl rfl (by simp only [← hq.len, Array.length_toList]) fun _ mv => hq.mv S mv
end
end Mine
end
section
open PySem PySem.W PySem.Calls PyProof.Rows Builtin Builtin.ObjectAttr
namespace Mine
section
variable {Pk : Addr → Prop}
variable {T : Tabs} {K : Frag} {cd : ClassData} {mg mb : Str → Option Value} {w : World} {A : Around} {s : Shared} {g h₀ h h' : Heap} {W : List Addr} {L : Addr} {m : Str → Option Value} {kn : List (Addr × Obj)} {R : Result → Shared → Prop} {E : Value → Shared → Prop} {prog : Program}
theorem St.table (S : St T g h) {c P : Addr} {ps more : Array Value} (hm : (c, P) ∈ T) (hx : Heap.ExtBut P h h') (ht : h.TableAt c P ps) (hc : h'.IsCode c P (ps ++ more)) (ht' : h'.TableAt c P (ps ++ more)) (hP : P ≠ cStatics) (hl : h.objs.size ≤ h'.objs.size) : St T g h' := by
  have hPt : P ∈ T.map (·.2) := List.mem_map.mpr ⟨_, hm, rfl⟩
  obtain ⟨p1, p2, _, _, t0⟩ := S.tab _ hm
  refine ⟨S.old.step_table t0 ht ht' hx hP, fun b o e hb => hx _ _ (fun q => hb (q ▸ hPt)) (S.keep b o e hb), fun p hp => ?_, Nat.le_trans S.le hl⟩
  obtain ⟨q1, q2, ic, it, ig⟩ := S.tab p hp
  by_cases q : p.2 = P
  · refine ⟨ps ++ more, q2, ?_, ?_, ig⟩
    · obtain ⟨o, vs, file, tf, flags, tg, inF, text, tt, op, a1, a2, a3, a4, a5, a6, a7, a8, a9, a10, a11⟩ := ic
      refine qg fun G kG => ?_
      obtain ⟨o', vs', file', tf', flags', tg', inF', text', tt', op', b1, b2, b3, b4, b5, b6, b7, b8, b9, b10, b11⟩ := hc
      refine kG ?_
      exact ⟨o, vs, file, tf, flags, tg, inF, text, tt, op', hx _ _ (q ▸ a11) a1, a2, a3, a4, a5, a6, a7, q ▸ b8, b9, b10, a11⟩
    · obtain ⟨⟨o, vs, a1, a2, a3, a4⟩, _⟩ := it
      refine ⟨⟨o, vs, hx _ _ ?_ a1, a2, a3, a4⟩, q ▸ ht'.2⟩
      rintro rfl
      obtain ⟨ob, vs', a1', _⟩ := ic
      rw [ht.2] at a1
      cases a1
      cases a2
  · exact ⟨q1, q2, ic.extBut hx (by
      rintro rfl
      obtain ⟨⟨o, vs, a1, a2, a3, a4⟩, _⟩ := it
      rw [ht.2] at a1
      cases a1
      cases a2) q, it.extBut hx (by
      rintro rfl
      obtain ⟨⟨o, vs, a1, a2, a3, a4⟩, _⟩ := it
      rw [ht.2] at a1
      cases a1
      cases a2) q, ig⟩
theorem J.table (j : J T g W h₀ L h m kn) {c P : Addr} {ps more : Array Value} (hm : (c, P) ∈ T) (hx : Heap.ExtBut P h h') (ht : h.TableAt c P ps) (hc : h'.IsCode c P (ps ++ more)) (ht' : h'.TableAt c P (ps ++ more)) (hP : P ≠ cStatics) (hl : h.objs.size ≤ h'.objs.size) : J T g W h₀ L h' m kn := by
  have hPt : P ∈ T.map (·.2) := List.mem_map.mpr ⟨_, hm, rfl⟩
  have k : ∀ b o, h.get? b = some o → b ∉ T.map (·.2) → h'.get? b = some o := fun b o e hb => hx _ _ (fun q => hb (q ▸ hPt)) e
  refine qg fun G kG => ?_
  obtain ⟨oL, es, n, e, r⟩ := j.ns
  refine kG ?_
  exact ⟨⟨j.mv.st.table hm hx ht hc ht' hP hl, fun b o e hb hw => k _ _ (j.mv.keep b o e hb hw) hb, fun b o e => by
      obtain ⟨o₁, e₁⟩ := j.mv.there b o e
      by_cases q : b = P
      · exact ⟨_, q ▸ ht'.2⟩
      · exact ⟨o₁, hx _ _ q e₁⟩⟩, ⟨oL, es, n, k _ _ e j.Lt, r⟩, j.Lt, j.Ln, j.Lg,
    fun p hp => ⟨k _ _ (j.has p hp).1 (j.has p hp).2.2.1, (j.has p hp).2⟩, j.nd, j.s0⟩
theorem j_genCode {env : Env} {c P : Addr} {pos : Pos} {qualname : Str} {scope : Scope} {Q : Value → Shared → Prop} (G : Gb T K mg mb g) (j : J T g W h₀ L s.heap m kn) (hm : (c, P) ∈ T) (hc : env.code = .ref c)
    (h : ∀ code h' tk, J T g W h₀ L h' m kn → (∀ b o, s.heap.get? b = some o → b ∉ T.map (·.2) → h'.get? b = some o) → s.heap.objs.size ≤ h'.objs.size → Q code { s with heap := h', toks := tk }) :
    wpAny (model prog w) A (genexprCode env pos qualname scope) Q E s := by
  obtain ⟨ps, ps₀, ic, it, _⟩ := j.mv.st.tab _ hm
  have hPt : P ∈ T.map (·.2) := List.mem_map.mpr ⟨_, hm, rfl⟩
  cases q : codeAmong pos ps.toList with
  | some c' => exact wpAny_genexprCode_hit hc ic q (h c' s.heap s.toks j (fun _ _ e _ => e) (Nat.le_refl _))
  | none =>
    refine wpAny_genexprCodeX hc ic it q fun c' h' tk hx h1 h2 h3 h4 h5 h6 => ?_
    have hl : s.heap.objs.size ≤ h'.objs.size := Nat.le_trans h1 (Nat.le_of_lt h2)
    exact h _ h' tk (j.table hm hx it h3 h5 (fun q => G.k3 (q ▸ hPt)) hl) (fun b o e hb => hx _ _ (fun q => hb (q ▸ hPt)) e) hl
theorem j_builtinsFor {Q : Addr → Shared → Prop} (G : Gb T K mg mb g) (S : St T g s.heap) {running : Addr} (h : Q builtinsNs s) : wpAny (model prog w) A (builtinsFor mainGlobals running) Q E s := by
  obtain ⟨bm, d, sl, e1, e2, e3, e4⟩ := G.bm
  subst e4
  exact wpAny_builtinsFor (S.ns G.mgN G.k1) e1 e2 (S.In G _ _ e3) rfl rfl rfl h
noncomputable def Sq (h : Heap) (a : Addr) (items : Array Value) : Prop := ∃ o n, h.get? a = some o ∧ o.data = .seq items n
theorem Sq.at {a : Addr} {items : Array Value} (x : Sq h a items) (k : ∀ o, h.get? a = some o → h'.get? a = some o) : Sq h' a items := let ⟨o, n, e, d⟩ := x; ⟨o, n, k _ e, d⟩
theorem next_item {it l : Addr} {i : Nat} {items : Array Value} {x : Value} {Q : Option Value → Shared → Prop} (hit : s.heap.IsListIter it l i)
    (hl : Sq s.heap l items) (hx : items[i]? = some x)
    (hQ : ∀ h', h'.IsListIter it l (i + 1) → Heap.SameBut it s.heap h' → Q (some x) { s with heap := h' }) :
    wpAny (model prog w) A (pyNext (.ref it)) Q E s := by
  obtain ⟨o, ho, hc, hd⟩ := id hit
  obtain ⟨ol, nl, hol, hdl⟩ := hl
  unfold pyNext
  refine wpAny_bind (wpAny_attempt (wpAny_callSpecial?_slot (name := Str.ofString "__next__") hit.typeIs slot_listiter_next
    (wpAny_call_entry slot_listiter_next hit.typeIs entry_listiter_next ?_ (args_listiter_next _))))
  show wpAny _ _ (field (.ref it) 0 >>= _) _ _ s
  refine wpAny_bind (wpAny_field ho hd (x := .ref l) rfl ?_)
  show wpAny _ _ (if (Value.ref l == Value.none) = true then _ else _) _ _ s
  refine wf (show ¬ ((Value.ref l == Value.none) = true) from Bool.false_ne_true) ?_
  show wpAny _ _ (field (.ref it) 1 >>= _) _ _ s
  refine wpAny_bind (wpAny_field ho hd (x := .int i 0) rfl ?_)
  show wpAny _ _ (seqItems? (.ref l) >>= _) _ _ s
  refine wpAny_bind (wpAny_seqItems hol hdl ?_)
  simp only [Int.toNat_natCast, hx]
  refine wpAny_bind (wpAny_setField ho hd (by exact Nat.le_refl _) (wpAny_pure ⟨x, rfl, wpAny_pure (hQ _ ?_ (Heap.SameBut.update ..))⟩))
  exact ⟨_, Heap.get?_update_self _ ho (Obj.isFreed_of_fields (Obj.data_mapFields hd _)), (Obj.cls_mapFields ..).trans hc, by
    rw [Obj.data_mapFields hd]; exact rfl⟩
theorem next_end {it l : Addr} {i : Nat} {items : Array Value} {Q : Option Value → Shared → Prop} (hh : A.handled = none)
    (hit : s.heap.IsListIter it l i) (hl : Sq s.heap l items) (hx : items[i]? = none)
    (hQ : ∀ h', Heap.ExtBut it s.heap h' → Q none { s with heap := h' }) : wpAny (model prog w) A (pyNext (.ref it)) Q E s := by
  obtain ⟨o, ho, hc, hd⟩ := id hit
  obtain ⟨ol, nl, hol, hdl⟩ := hl
  unfold pyNext
  refine wpAny_bind (wpAny_attempt (wpAny_callSpecial?_slot (name := Str.ofString "__next__") hit.typeIs slot_listiter_next
    (wpAny_call_entry slot_listiter_next hit.typeIs entry_listiter_next ?_ (args_listiter_next _))))
  show wpAny _ _ (field (.ref it) 0 >>= _) _ _ s
  refine wpAny_bind (wpAny_field ho hd (x := .ref l) rfl ?_)
  show wpAny _ _ (if (Value.ref l == Value.none) = true then _ else _) _ _ s
  refine wf (show ¬ ((Value.ref l == Value.none) = true) from Bool.false_ne_true) ?_
  show wpAny _ _ (field (.ref it) 1 >>= _) _ _ s
  refine wpAny_bind (wpAny_field ho hd (x := .int i 0) rfl ?_)
  show wpAny _ _ (seqItems? (.ref l) >>= _) _ _ s
  refine wpAny_bind (wpAny_seqItems hol hdl ?_)
  simp only [Int.toNat_natCast, hx]
  refine wpAny_bind (wpAny_rule (wpAny_bind (wpAny_setField ho hd (by simp) ?_)))
  show wpAny _ _ (newExc (.type "StopIteration") [] >>= _) _ _ _
  refine wpAny_bind ?_
  simp only [newExc, newTuple]
  refine wpAny_bind (wpAny_newObj_type ?_ (by size_fits))
  refine wpAny_bind (m := firstArgMember _ _) (wpAny_of_eq (a := Value.none) (by first | rfl | (simp only [firstArgMember]; rfl)) ?_)
  refine wpAny_newObj_type ?_ (by size_fits)
  simp only [raiseNew]
  refine wpAny_bind (wpAny_handled ?_)
  rw [show A.in1.handled = none from hh]
  refine wpAny_bind (wpAny_pure (wpAny_throw ?_))
  refine wpAny_bind (wpAny_isInstance (T := "StopIteration") (b := true) ⟨_, Heap.get?_push_size _ rfl, rfl⟩ isSubtype_stop ?_)
  exact wpAny_pure (hQ _ (((Heap.SameBut.update ..).extBut.push _).push _))
theorem walkTups (hh : A.handled = none) (I ax : Addr) (hne : ax ≠ I) (items : Array Value) (Ts : Nat → Addr) (vals : Nat → Array Value)
    (hit : ∀ j, j < items.size → items[j]? = some (.ref (Ts j))) (hTI : ∀ j, j < items.size → Ts j ≠ I) :
    WalksU prog w A I (I :: ax :: (List.range items.size).map Ts) [I] items.size (fun j v => v = vals j ∧ j < items.size)
      (fun j h => h.IsListIter I ax j ∧ Sq h ax items ∧ ∀ k, k < items.size → h.IsTuple (Ts k) (vals k))
      (fun j T h => (j < items.size ∧ T = Ts j) ∧ h.IsListIter I ax (j + 1) ∧ Sq h ax items ∧ ∀ k, k < items.size → h.IsTuple (Ts k) (vals k)) where
  sub := fun b hb => by simp at hb; exact mE hb
  frame := fun _ _ _ st hk => ⟨st.1.at fun o e => hk I (by exact m1) o e, st.2.1.at fun o e => hk ax (by exact m2) o e,
    fun k hk' => (st.2.2 k hk').at fun o e => hk (Ts k) (List.mem_cons_of_mem _ (List.mem_cons_of_mem _ (List.mem_map.mpr ⟨k, List.mem_range.mpr hk', rfl⟩))) o e⟩
  item := fun i s Q E hi st hQ => by
    refine next_item st.1 st.2.1 (x := .ref (Ts i)) (hit i hi) fun h' hit' hs' => ?_
    have tup : ∀ k, k < items.size → h'.IsTuple (Ts k) (vals k) := fun k hk' => (st.2.2 k hk').extBut hs'.extBut (hTI k hk')
    exact hQ (Ts i) (vals i) h' s.toks ⟨rfl, hi⟩ (tup i hi) ⟨⟨hi, rfl⟩, hit', st.2.1.at fun o e => hs'.extBut _ _ hne e, tup⟩ fun b o hb e => hs'.extBut b o (fun h => hb (by exact mE h)) e
  go := fun _ _ _ _ _ s Q _ hm hQ => wpAny_letOwnedTupleGo_listiter hm.2.1 (hQ s.heap hm.2 fun _ _ _ e => e)
  apart := fun j T _ hm hmem => by
    rcases List.mem_cons.mp hmem with e | e
    · exact hTI j hm.1.1 (hm.1.2 ▸ e)
    · cases e
  done := fun s Q E st hQ => next_end hh st.1 st.2.1 (by simp) fun h' he' => hQ h' s.toks fun b o hb e => he' b o (fun h => hb (by exact mE h)) e
  self := fun _ _ _ _ st hQ => wpAny_pyIter_listiter st.1 hQ
theorem kind_iter : builtinKind "list.__iter__" = some .slot := by rw [builtinKind_eq_fast]; kernel_rfl
theorem split_iter : splitId "list.__iter__" = some ("list", "__iter__") := by kernel_rfl
theorem a_pyIter {x d : Addr} {its : Array Value} {ep : Nat} {Q : Value → Shared → Prop} (G : Gb T K mg mb g) (X : Fx K cd) (S : St T g s.heap) (e : s.heap.get? x = some (accObj 217 d its ep))
    (hQ : Q (.ref s.heap.objs.size) { s with heap := s.heap.push { cls := .type "list_iterator", data := .fields #[.ref x, .int 0 0] } }) : wpAny (model prog w) A (pyIter (.ref x)) Q E s := by
  have Y := S.In G
  have LA := LstAt.acc (M := model prog w) Y X.supC.lst e
  have ty : Looks (model prog w) s.heap (typeOf (.ref x)) (.ref 217) := (Looks.ld e).andThen .now
  have sp : Looks (model prog w) s.heap (specialOf (.ref x) "__iter__") (some (.builtin "list.__iter__")) := ty.andThen (looks_findIn Y X.fIter)
  unfold pyIter
  refine wpAny_bind (sp.here ?_)
  show wpAny _ A (callSpecialIfBoundUnlessNone? _ "__iter__" _ >>= _) Q E s
  refine wpAny_bind ?_
  unfold callSpecialIfBoundUnlessNone? bindSpecialIfBound?
  have call1 : ∀ {Q' : Value → Shared → Prop}, Q' (.ref s.heap.objs.size) { s with heap := s.heap.push { cls := .type "list_iterator", data := .fields #[.ref x, .int 0 0] } } → wpAny (model prog w) A (call (.builtin "list.__iter__") [.ref x]) Q' E s := by
    intro Q' q
    refine wpAny_call (codeAny_call_builtin slot_list_iter.plain entry_list_iter (check_slot (i := "list.__iter__") (owner := "list") (n := "__iter__") (self := .ref x) (rest := []) (kw := []) kind_iter split_iter LA.inst (by exact args_list_iter _) ?_))
    show wpAny _ _ (do ret (← newFields "list_iterator" [.ref x, rawInt 0])) _ _ s
    exact wpAny_bind (wpAny_newObj_type (wpAny_pure q))
  refine wpAny_holding (wpAny_bind (wpAny_bind (sp.here ?_)))
  dsimp only
  rw [slot_list_iter.bind]
  refine wpAny_bind (wpAny_askSetting (wpAny_ite ?_))
  have fin : wpAny (model prog w) A (call (.builtin "list.__iter__") [.ref x] >>= fun v => pure (some v)) (fun r s' => ∃ it, r = some it ∧ it = .ref s.heap.objs.size ∧ s' = { s with heap := s.heap.push { cls := .type "list_iterator", data := .fields #[.ref x, .int 0 0] } }) E s :=
    wpAny_bind (call1 (wpAny_pure ⟨_, rfl, rfl, rfl⟩))
  have fin2 : wpAny (model prog w) A (if (Value.builtin "list.__iter__" == Value.none) = true then ((do rule "iter.none"; raiseError "TypeError" s!"'{← typeNameOf (.ref x)}' object is not iterable") >>= fun v => pure (some v)) else (call (.builtin "list.__iter__") [.ref x] >>= fun v => pure (some v)))
     (fun r s' => ∃ it, r = some it ∧ it = .ref s.heap.objs.size ∧ s' = { s with heap := s.heap.push { cls := .type "list_iterator", data := .fields #[.ref x, .int 0 0] } }) E s := by
    simp only [builtin_beq_none, Bool.false_eq_true, if_false]
    exact fin
  have fin3 := wpAny_mono (Q' := fun (r : Option Value) (s' : Shared) => wpAny (model prog w) A (match r with
      | some it => (do
        match ← specialOf it "__next__" with
        | none => rule "iter.non-iterator"; raiseError "TypeError" s!"iter() returned non-iterator of type '{← typeNameOf it}'"
        | some _ => pure it)
      | none => (do
        match ← bindSpecialIfBound? (.ref x) "__getitem__" with
        | none => rule "iter.not-iterable"; raiseError "TypeError" s!"'{← typeNameOf (.ref x)}' object is not iterable"
        | some _ => rule "iter.getitem-fallback"; newFields "iterator" [.ref x, ← mkInt 0])) Q E s') fin2 (fun r s' h => by
    obtain ⟨it, rfl, rfl, rfl⟩ := h
    exact wpAny_bind (wpAny_specialOf (T := "list_iterator") ⟨_, Heap.get?_push_size _ rfl, rfl⟩ slot_listiter_next.lookup (wpAny_pure hQ))) fun _ _ z => z
  split
  · exact wpAny_bind (wpAny_pure (wpAny_pure fin3))
  · exact wpAny_tryCatch (wpAny_bind (wpAny_pure (wpAny_pure fin3)))
theorem All2.get {α β : Type} {P : α → β → Prop} {l : List α} {l' : List β} (p : All2 P l l') (j : Nat) (hj : j < l.length) : ∃ a b, l[j]? = some a ∧ l'[j]? = some b ∧ P a b := by
  induction p generalizing j with
  | nil => cases hj
  | cons a q ih =>
    cases j with
    | zero => exact ⟨_, _, rfl, rfl, a⟩
    | succ j => simpa using ih j (by simpa using hj)
theorem Parts.tups {its : Array Value} {ps : List (Str × Str)} (p : Parts Pk h its.toList ps) : ∃ (Ts : Nat → Addr) (vals : Nat → Array Value), ∀ j, j < its.size → its[j]? = some (.ref (Ts j)) ∧ h.IsTuple (Ts j) (vals j) ∧
    ∃ q ta tb, ps[j]? = some q ∧ vals j = #[.str q.1 ta, .str q.2 tb] := by
  have : ∀ j, ∃ (t : Addr) (v : Array Value), j < its.size → its[j]? = some (.ref t) ∧ h.IsTuple t v ∧ ∃ q ta tb, ps[j]? = some q ∧ v = #[.str q.1 ta, .str q.2 tb] := by
    intro j
    by_cases hj : j < its.size
    · obtain ⟨a, b, e1, e2, t, ta, tb, e3, e4⟩ := All2.get p j (by simpa using hj)
      refine ⟨t, _, fun _ => ⟨?_, ⟨_, e4, rfl, 0, rfl⟩, b, ta, tb, e2, rfl⟩⟩
      rw [← Array.getElem?_toList, e1, e3]
    · exact ⟨0, #[], fun h => absurd h hj⟩
  exact ⟨fun j => (this j).choose, fun j => (this j).choose_spec.choose, fun j => (this j).choose_spec.choose_spec⟩
theorem passing_all (n : Nat) : passing (fun _ => true) n 0 = List.range n := by
  unfold passing
  simp
noncomputable def GenJ (prog : Program) (w : World) (A : Around) (z a : Addr) (n : Nat) (F : Nat → Value → Prop) (s : Shared) : Prop :=
  ∃ fp wr gi St, WalksS prog w A.in4 a fp wr (GenOnlyQ gi) n F St ∧ St 0 s ∧ (∀ i s', St i s' → s'.TypeIs (.ref a) "generator") ∧ a ∈ fp ∧ (∀ b ∈ fp, b < s.heap.objs.size) ∧ ∀ b ∈ wr, z ≤ b
theorem WalksS.weak {I : Addr} {fp wr : List Addr} {Gs : Array GenState → Array GenState → Prop} {n : Nat} {P P' : Nat → Value → Prop} {St : Nat → Shared → Prop} (W : WalksS prog w A I fp wr Gs n P St) (h : ∀ i v, P i v → P' i v) : WalksS prog w A I fp wr Gs n P' St where
  sub := W.sub
  grefl := W.grefl
  gtrans := W.gtrans
  frame := W.frame
  item := fun i s Q E hi st hQ => W.item i s Q E hi st fun v s' p => hQ v s' (h i v p)
  done := W.done
  self := W.self
theorem j_genT {qual : Str} {fscope : Scope} {f c P : Addr} {fcl : List (Str × Addr)} {elt : Expr} {xa xb : Str} {pa pb pt ip : Pos} {kt : Nat} {scope : Scope} {pos : Pos} {x d : Addr} {its : Array Value} {ep : Nat} {ps : List (Str × Str)} {F : Str × Str → Value → Prop} {Q : Value → Shared → Prop}
    (G : Gb T K mg mb g) (X : Fx K cd) (j : J T g W h₀ L s.heap m kn) (r : Rm A 1) (hm : (c, P) ∈ T) (hx : s.heap.get? x = some (accObj 217 d its ep)) (hp : Parts Pk s.heap its.toList ps)
    (hself : m "self" = some (.ref x))
    (helt : ∀ (A' : Around) E' C code (s₂ : Shared) m₂ (p : Str × Str) ta tb, A'.handled = none → p ∈ ps → K.In s₂.heap → s₂.heap.Ns mainGlobals mg → s₂.heap.Ns builtinsNs mb → s₂.heap.Ns C m₂ → m₂ xa = some (.str p.1 ta) → m₂ xb = some (.str p.2 tb) →
      wpAny (model prog w) A' (eval elt (genEnv scope [] C code builtinsNs (envX qual fscope L f (.ref c) fcl))) (fun y s₃ => F p y ∧ Keeps s₂ s₃) E' s₂)
    (h : ∀ a s', J T g W h₀ L s'.heap m kn → (∀ b o, s.heap.get? b = some o → b ∉ T.map (·.2) → s'.heap.get? b = some o) → Ok s s' → s.heap.objs.size ≤ s'.heap.objs.size →
      GenJ prog w A s.heap.objs.size a ps.length (fun i y => ∃ p, ps[i]? = some p ∧ F p y) s' → Q (.ref a) s')
    (hco : scope.isCoroutine = false := by rfl) (hclos : closureFor scope (envX qual fscope L f (.ref c) fcl) = pure [] := by rfl) (hcell : ∀ y ∈ scope.names, y.2 ≠ .cell := by decide) (h0 : scope.names.lookup (".0" : Str) = some NameKind.local := by rfl)
    (hxa : scope.names.lookup xa = some .local := by rfl) (hxb : scope.names.lookup xb = some .local := by rfl) (hab : xa ≠ xb := by decide) (hkind : scope.kind = .function := by rfl) (hfk : fscope.kind = .function := by rfl)
    (hks : (envX qual fscope L f (.ref c) fcl).kindOf "self" = some .local := by rfl)
    (hs : ∀ x, genFold (.Name "self" ip) (envX qual fscope L f (.ref c) fcl) x = pure x := by intro _; rfl) :
    wpAny (model prog w) A (eval (.GeneratorExp elt [⟨.Tuple [.Name xa pa, .Name xb pb] kt pt, .Name "self" ip, [], 0⟩] scope pos) (envX qual fscope L f (.ref c) fcl)) Q E s := by
  refine wpAny_GeneratorExp_walksQT r.h hco hclos hcell h0 hxa hxb hab hkind r.lt ?_ hs
  refine j_local j hself ?_ hfk hks
  refine a_pyIter G X j.mv.st hx ?_
  have j₂ := j.push { cls := .type "list_iterator", data := .fields #[.ref x, .int 0 0] } rfl
  have hI : (s.heap.push { cls := .type "list_iterator", data := .fields #[.ref x, .int 0 0] }).get? s.heap.objs.size = some { cls := .type "list_iterator", data := .fields #[.ref x, .int 0 0] } := Heap.get?_push_size _ rfl
  have k₂ : ∀ b o, s.heap.get? b = some o → (s.heap.push { cls := .type "list_iterator", data := .fields #[.ref x, .int 0 0] }).get? b = some o := fun b o e => Heap.get?_push_of_some _ e
  have z₂ : (s.heap.push { cls := .type "list_iterator", data := .fields #[.ref x, .int 0 0] }).objs.size = s.heap.objs.size + 1 := Heap.size_push ..
  revert j₂ hI k₂ z₂
  generalize s.heap.push _ = h₂
  generalize hId : s.heap.objs.size = I
  intro j₂ hI k₂ z₂
  have nolim : ∀ {h : Heap}, St T g h → h.NoLimit := fun {h} S => G.nolim.elim fun mc x => ⟨mc, S.ns x.1 G.k3, x.2⟩
  refine ⟨nolim j₂.mv.st, ?_⟩
  refine j_genCode (s := { s with heap := h₂ }) G j₂ hm rfl fun code h₃ t₃ j₃ k₃ l₃ => ?_
  refine j_builtinsFor (s := { s with heap := h₃, toks := t₃ }) G j₃.mv.st ?_
  have hT : ∀ {b : Addr} {o : Obj}, s.heap.get? b = some o → o.cls ≠ .none → b ∉ T.map (·.2) := fun e hc => j.mv.st.notTab e hc
  have kk : ∀ b o, s.heap.get? b = some o → b ∉ T.map (·.2) → h₃.get? b = some o := fun b o e hb => k₃ _ _ (k₂ _ _ e) hb
  have hx₃ : h₃.get? x = some (accObj 217 d its ep) := kk _ _ hx (hT hx (by nofun))
  have hp₃ : Parts Pk h₃ its.toList ps := hp.imp fun v q a => by
    obtain ⟨t, ta, tb, e1, e2⟩ := a
    exact ⟨t, ta, tb, e1, kk _ _ e2 (hT e2 (by nofun))⟩
  obtain ⟨Ts, vals, htv⟩ := Parts.tups hp₃
  have hxI : x ≠ I := by rw [← hId]; exact Nat.ne_of_lt (Heap.lt_size hx)
  have hTI : ∀ j, j < its.size → Ts j ≠ I := by
    intro j hj
    refine qg fun G kG => ?_
    obtain ⟨a, b, e1, e2, t, ta, tb, e3, e4⟩ := All2.get hp j (by simpa using hj)
    refine kG ?_
    have e5 := (htv j hj).1
    rw [← Array.getElem?_toList, e1, e3] at e5
    have : t.1 = Ts j := Value.ref.inj (Option.some.inj e5)
    rw [← this, ← hId]
    exact Nat.ne_of_lt (Heap.lt_size e4)
  have hI₃ : h₃.get? I = some { cls := .type "list_iterator", data := .fields #[.ref x, .int 0 0] } := k₃ _ _ hI (j₂.mv.st.notTab hI (by nofun))
  have hlt₃ : ∀ {b o}, h₃.get? b = some o → b < h₃.objs.size := fun e => Heap.lt_size e
  have hlen : its.size = ps.length := by rw [← hp.len, Array.length_toList]
  refine ⟨I, _, _, its.size, _, _, _, (fun _ => true), (fun i y => ∃ p, ps[i]? = some p ∧ F p y), rfl, (fun A' hA => walkTups hA I x hxI its Ts vals (fun j hj => (htv j hj).1) hTI), ?_, ⟨⟨_, hI₃, rfl, rfl⟩, ⟨_, _, hx₃, rfl⟩, fun k hk => (htv k hk).2.1⟩, ?_, nolim j₃.mv.st, ?_, ?_, ?_⟩
  · rintro i v ⟨rfl, hi⟩
    refine qg fun G kG => ?_
    obtain ⟨_, _, q, ta, tb, _, e⟩ := htv i hi
    refine kG ?_
    exact ⟨_, _, e⟩
  · intro b hb
    rcases List.mem_cons.mp hb with rfl | hb
    · exact hlt₃ hI₃
    rcases List.mem_cons.mp hb with rfl | hb
    · exact hlt₃ hx₃
    obtain ⟨k, hk, rfl⟩ := List.mem_map.mp hb
    obtain ⟨o, e, _⟩ := (htv k (List.mem_range.mp hk)).2.1
    exact hlt₃ e
  · intro hb
    have e1 := List.mem_singleton.mp hb
    obtain ⟨mc, ⟨o, es, n, e, _⟩, _⟩ := nolim j.mv.st
    have := Heap.lt_size e
    rw [e1, hId] at this
    exact absurd this (Nat.lt_irrefl _)
  · intro href hk
    have hIb : ∀ {b o}, s.heap.get? b = some o → b ≠ I := fun e => by rw [← hId]; exact Nat.ne_of_lt (Heap.lt_size e)
    have old : ∀ (s₂ : Shared), (∀ b ∈ List.range h₃.objs.size, b ∉ [I] → ∀ o, href.get? b = some o → s₂.heap.get? b = some o) → ∀ b o, s.heap.get? b = some o → b ∉ T.map (·.2) → s₂.heap.get? b = some o := by
      intro s₂ hh b o e hb
      have e3 := kk b o e hb
      exact hh b (List.mem_range.mpr (hlt₃ e3)) (by exact ni1 (hIb e)) o (hk _ _ e3)
    refine ⟨fun A' E' i va vb s₂ m₂ hA hPt hns e1 e2 hh => ?_, fun A' E' i va vb s₂ m₂ hA hPt _ hns e1 e2 hh => ?_⟩
    · exact wpAny_pure ⟨rfl, s₂.heap, s₂.toks, rfl, fun _ _ e => e⟩
    · obtain ⟨hv, hi⟩ := hPt
      obtain ⟨_, _, q, ta, tb, hq, e⟩ := htv i hi
      rw [e] at hv
      have ev : va = .str q.1 ta ∧ vb = .str q.2 tb := by
        have := congrArg Array.toList hv
        simp at this
        exact this
      have O := old s₂ hh
      have nsK : ∀ {a mm}, s.heap.Ns a mm → a ∉ T.map (·.2) → s₂.heap.Ns a mm := by
        intro a mm ⟨o, es, n, e, r⟩ hb
        exact ⟨o, es, n, O _ _ e hb, r⟩
      refine wpAny_mono (helt A' E' _ _ s₂ m₂ q ta tb hA (List.mem_of_getElem? hq) ?_ (nsK (j.mv.st.ns G.mgN G.k1) G.k1) (nsK (j.mv.st.ns G.mbN G.k2) G.k2) hns (by rw [e1, ev.1]) (by rw [e2, ev.2])) (fun y s₃ hy => ⟨⟨q, hq, hy.1⟩, hy.2⟩) fun _ _ z => z
      intro a o e
      refine O a o (j.mv.st.In G a o e) fun hm' => ?_
      obtain ⟨p, hp', rfl⟩ := List.mem_map.mp hm'
      rw [G.kt p hp'] at e; cases e
  · intro a h₅ tk gs hgs ha hz hk₅ W₅ hat
    rw [passing_all] at W₅
    have l₃' : h₂.objs.size ≤ h₃.objs.size := l₃
    have ha' : h₃.objs.size < a := ha
    have z3 : I ≤ h₃.objs.size := by (clear ha' hz ha hlen hxI l₃ hId; lia)
    have kkk : ∀ b o, s.heap.get? b = some o → b ∉ T.map (·.2) → h₅.get? b = some o := fun b o e hb => hk₅ _ _ (kk b o e hb)
    have j₅ : J T g W h₀ L h₅ m kn := (j₃.sub (List.sublist_cons_self _ _)).keeps hk₅ (by (clear z3 l₃' ha hlen hxI l₃ z₂ hId; lia))
    refine h a _ j₅ kkk ⟨rfl, fun ab => AllBare.push (show AllBare s.gens from ab) hgs⟩ (by rw [hId]; show I ≤ h₅.objs.size; (clear z3 ha hlen hxI l₃ hId; lia)) ?_
    rw [hId]
    have W₆ := WalksS.weak (P' := fun i y => ∃ p, ps[i]? = some p ∧ F p y) W₅ (by
      rintro i y ⟨i', e1, e2⟩
      have : i' = i := by
        obtain ⟨hl, e⟩ := List.getElem?_eq_some_iff.mp e1
        simpa using e.symm
      subst this
      exact e2)
    rw [List.length_range, hlen] at W₆
    refine ⟨_, _, _, _, W₆, hlen ▸ hat, (fun i s' st => st.1.typeIs), List.mem_cons_self, ?_, ?_⟩
    · intro b hb
      have key : ∀ b : Nat, b < h₃.objs.size ∨ b = h₃.objs.size ∨ b = a → b < h₅.objs.size := by
        have hz' : h₅.objs.size = a + 1 := hz
        intro b hb
        rcases hb with hb | hb | hb <;> lia
      refine key b ?_
      rcases List.mem_cons.mp hb with e | hb
      · exact .inr (.inr e)
      · rcases List.mem_cons.mp hb with e | hb
        · exact .inr (.inl e)
        · exact .inl (List.mem_range.mp hb)
    · intro b hb
      rcases List.mem_cons.mp hb with rfl | hb
      · exact z3
      · rw [List.mem_singleton.mp hb]; exact Nat.le_refl _
theorem slot_lga : Slot "list" "__getattribute__" "list.__getattribute__" :=
  .of (owner := "list") (n := "__getattribute__") (by rw [typeLookup_type, builtinLookup_eq_fast]; kernel_rfl) (by decide +kernel) (by decide +kernel) (by decide +kernel)
    (by first | exact .inl (by decide +kernel) | exact .inr (by decide +kernel)) (by rw [isSubtype_type]; kernel_rfl)
theorem entry_lga : entryFor table "list.__getattribute__" = some Builtin.«object.__getattribute__» :=
  entryFor_alias (id' := "object.__getattribute__") (by kernel_rfl) rfl (by decide +kernel) (by kernel_rfl)
theorem kind_lga : builtinKind "list.__getattribute__" = some .slot := by rw [builtinKind_eq_fast]; kernel_rfl
theorem split_lga : splitId "list.__getattribute__" = some ("list", "__getattribute__") := by kernel_rfl
theorem args_lga (a b : Value) : argsOk "list.__getattribute__" ⟨[a, b], []⟩ := by unfold argsOk; kernel_rfl
theorem oga_eq (self : Value) (name : Str) (tk : Tok) : ∃ k : Builtin.ObjectAttr.Found → Value → Sem Fin, (∀ v tp, k (.value v) tp = ret v) ∧ Builtin.«object.__getattribute__» ⟨[self, .str name tk], []⟩ = (typeOf self >>= fun tp => find self tp name >>= fun r => k r tp) :=
  ⟨_, fun _ _ => rfl, rfl⟩
theorem a_attr {expr : Bool} {x d : Addr} {its : Array Value} {ep : Nat} {tk : Tok} {iv : Value} {Q : Value → Shared → Prop} (G : Gb T K mg mb g) (X : Fx K cd) (S : St T g s.heap) (a : AccAt w s.heap x d its ep tk iv) (hv : handedIn iv = true)
    (h : ∀ t', s.toks ≤ t' → Q iv { s with toks := t' }) : wpAny (model prog w) A (getAttr (.ref x) "_initial_size" expr) Q E s := by
  have Y := S.In G
  have I := a.inst
  have f0 : findObj K 217 (some (szD w tk iv)) "_initial_size" = some (.value iv) := findObj_own (by unfold hasDictIn; rw [X.supC.cls]; exact X.hd) X.fSize rfl (by rfl)
  have LL := LstAt.acc (M := model prog w) Y X.supC.lst a.o
  have hi := LL.inst
  obtain ⟨hh, gg, dd, t, os⟩ := s
  dsimp only at Y I hi
  have L0 := I.type (M := model prog w)
  have L1 := looks_findIn (M := model prog w) Y X.ga
  have L2 := looks_findIn (M := model prog w) Y X.gt
  have L3 := looks_find (M := model prog w) Y I f0
  unfold getAttr getAttrBy
  refine wpAny_bind (wpAny_mkText (wpAny_holding (wpAny_bind (L0.at (wpAny_bind (L1.at ?_))))))
  show wpAny _ _ (getAttrByItsOwn _ _ (.ref 217) (.builtin "list.__getattribute__") true expr) _ _ _
  unfold getAttrByItsOwn
  refine wpAny_bind (m := hookBefore (.ref 217)) ?_
  show wpAny _ _ (typeLookup (.ref 217) "__getattr__") _ _ _
  refine L2.at ?_
  refine wpAny_bind (wpAny_attempt (wpAny_holding ?_))
  have e1 : callGetattribute (.ref x) (.str "_initial_size" t) (.builtin "list.__getattribute__") expr = boundAndCalled (.builtin "list.__getattribute__") (.ref x) (.str "_initial_size" t) := by
    cases expr <;> rfl
  rw [e1]
  unfold boundAndCalled
  rw [slot_lga.bind]
  refine wpAny_bind (wpAny_pure ?_)
  refine wpAny_call (codeAny_call_builtin slot_lga.plain entry_lga (check_slot (s := ⟨hh, gg, dd, t + 1, os⟩) (i := "list.__getattribute__") (owner := "list") (n := "__getattribute__") (self := .ref x) (rest := [.str "_initial_size" t]) (kw := []) kind_lga split_lga hi (by exact args_lga _ _) ?_))
  obtain ⟨k, hk, e⟩ := oga_eq (.ref x) "_initial_size" t
  rw [show ([Value.ref x] ++ [Value.str "_initial_size" t]) = [.ref x, .str "_initial_size" t] from rfl, e]
  refine wpAny_bind (L0.at (wpAny_bind (L3.at ?_)))
  rw [hk]
  refine wpAny_pure ?_
  show wpAny _ _ (handedOut iv) _ _ _
  rw [handedOut_of hv]
  exact wpAny_pure (h _ (Nat.le_succ _))
theorem args_sum2 (a b : Value) : argsOk "sum" ⟨[a, b], []⟩ := by unfold argsOk; kernel_rfl
noncomputable def shiftVal (n0 : Int) (val : Nat → Int) : Nat → Int
  | 0 => n0
  | i + 1 => val i
theorem preSum_shift (n0 : Int) (val : Nat → Int) : ∀ n, preSum (shiftVal n0 val) (n + 1) = n0 + preSum val n
  | 0 => by show (0 : Int) + n0 = n0 + 0; lia
  | n + 1 => by
    show preSum (shiftVal n0 val) (n + 1) + val n = n0 + (preSum val n + val n)
    rw [preSum_shift n0 val n]
    lia
theorem WalksS.shift {I : Addr} {fp wr : List Addr} {Gs : Array GenState → Array GenState → Prop} {n : Nat} {P : Nat → Value → Prop} {St : Nat → Shared → Prop} (W : WalksS prog w A I fp wr Gs n P St) :
    WalksS prog w A I fp wr Gs (n + 1) (fun i v => ∃ j, i = j + 1 ∧ P j v) (fun i s => ∃ j, i = j + 1 ∧ St j s) where
  sub := W.sub
  grefl := W.grefl
  gtrans := W.gtrans
  frame := fun i s h' tk st ht hk => let ⟨j, e, st⟩ := st; ⟨j, e, W.frame j s h' tk st ht hk⟩
  item := fun i s Q E hi st hQ => by
    obtain ⟨j, rfl, st⟩ := st
    exact W.item j s Q E (by exact Nat.le_of_lt_succ hi) st fun v s' p st' mv => hQ v s' ⟨j, rfl, p⟩ ⟨j + 1, rfl, st'⟩ mv
  done := fun s Q E st hQ => by
    obtain ⟨j, e, st⟩ := st
    have : j = n := by lia
    subst this
    exact W.done s Q E st hQ
  self := fun i s Q E st hQ => by
    obtain ⟨j, rfl, st⟩ := st
    exact W.self j s Q E st hQ
theorem call_sum2 {a : Addr} {n : Nat} {z : Addr} {F : Nat → Value → Prop} {n0 : Int} {tk0 : Tok} {Q : Value → Shared → Prop} (Gn : GenJ prog w A z a n F s) (val : Nat → Int) (hval : ∀ i v, F i v → ∃ t, v = .int (val i) t)
    (hQ : ∀ s' t' wr gi, Moved wr (GenOnlyQ gi) s s' → (∀ b ∈ wr, z ≤ b) → Q (.int (n0 + preSum val n) t') s') :
    wpAny (model prog w) A (call (.builtin "sum") [.ref a, .int n0 tk0]) Q E s := by
  refine qg fun G kG => ?_
  obtain ⟨fp, wr, gi, St, W, hst, hty, ha, hfp, hwr⟩ := Gn
  refine kG ?_
  have W := W.in4_1
  refine call_function_tree PySem.F.kind_sum PySem.F.plain_sum PySem.F.entry_sum (args_sum2 _ _) ?_
  unfold Builtin.«sum»
  simp only [List.length_cons, List.length_nil]
  refine wf (by decide) ?_
  refine wpAny_bind (wpAny_of_eq (show Builtin.Builtins.bindParams "sum" ["start"] 0 ⟨[.int n0 tk0], []⟩ = pure [some (.int n0 tk0)] from rfl) ?_)
  refine wpAny_bind (W.self 0 _ _ _ hst ?_)
  dsimp only
  have hSf : s.heap.objs.size ∉ fp := fun hm => Nat.lt_irrefl _ (hfp _ hm)
  split
  · refine wpAny_bind (wpAny_rule (wpAny_bind (wpAny_mkInt ?_)))
    refine wpAny_bind (wpAny_pure ?_)
    simp only [List.forIn_cons, List.forIn_nil]
    refine wpAny_bind (wpAny_bind (wpAny_bind (wpAny_isInstance (T := "int") (b := false) (typeIs_int _ _ _) PySem.sub_int_str ?_)))
    simp only [Bool.false_eq_true, if_false]
    refine wpAny_pure (wpAny_bind (wpAny_bind (wpAny_isInstance (T := "int") (b := false) (typeIs_int _ _ _) PySem.sub_int_bytes ?_)))
    simp only [Bool.false_eq_true, if_false]
    refine wpAny_pure (wpAny_bind (wpAny_bind (wpAny_isInstance (T := "int") (b := false) (typeIs_int _ _ _) PySem.sub_int_bytearray ?_)))
    simp only [Bool.false_eq_true, if_false]
    refine wpAny_pure (wpAny_pure ?_)
    refine wpAny_bind (wpAny_newObj_type ?_)
    refine wpAny_pure ⟨plainId_quiet PySem.F.plain_sum_loop _, codeAny_sum_loopAnyS (Mine.WalksS.shift W) (shiftVal n0 val) (by rintro i v ⟨j, rfl, p⟩; exact hval j v p) s.heap.objs.size hSf n 1 _ s.toks 0 0 (.inl rfl) (by exact Nat.add_sub_cancel _ _) (by exact Nat.succ_pos _)
      ⟨0, rfl, W.frame 0 s _ _ hst (Nat.le_succ _) fun b _ o e => Heap.get?_push_of_some _ e⟩ ?_ fun s' t' hm => ?_⟩
    · have : preSum (shiftVal n0 val) 1 = n0 := by rw [preSum_shift]; show n0 + 0 = n0; lia
      rw [this]
      exact Heap.get?_push_size _ rfl
    · rw [preSum_shift]
      exact hQ s' t' wr gi (hm.drop_new (Nat.le_succ _)) hwr
  · refine wpAny_bind (wpAny_pure ?_)
    simp only [List.forIn_cons, List.forIn_nil]
    refine wpAny_bind (wpAny_bind (wpAny_bind (wpAny_isInstance (T := "int") (b := false) (typeIs_int _ _ _) PySem.sub_int_str ?_)))
    simp only [Bool.false_eq_true, if_false]
    refine wpAny_pure (wpAny_bind (wpAny_bind (wpAny_isInstance (T := "int") (b := false) (typeIs_int _ _ _) PySem.sub_int_bytes ?_)))
    simp only [Bool.false_eq_true, if_false]
    refine wpAny_pure (wpAny_bind (wpAny_bind (wpAny_isInstance (T := "int") (b := false) (typeIs_int _ _ _) PySem.sub_int_bytearray ?_)))
    simp only [Bool.false_eq_true, if_false]
    refine wpAny_pure (wpAny_pure ?_)
    refine wpAny_bind (wpAny_newObj_type ?_)
    refine wpAny_pure ⟨plainId_quiet PySem.F.plain_sum_loop _, codeAny_sum_loopAnyS (Mine.WalksS.shift W) (shiftVal n0 val) (by rintro i v ⟨j, rfl, p⟩; exact hval j v p) s.heap.objs.size hSf n 1 _ tk0 0 2 (.inr rfl) (by exact Nat.add_sub_cancel _ _) (by exact Nat.succ_pos _)
      ⟨0, rfl, W.frame 0 s _ _ hst (Nat.le_refl _) fun b _ o e => Heap.get?_push_of_some _ e⟩ ?_ fun s' t' hm => ?_⟩
    · have : preSum (shiftVal n0 val) 1 = n0 := by rw [preSum_shift]; show n0 + 0 = n0; lia
      rw [this]
      exact Heap.get?_push_size _ rfl
    · rw [preSum_shift]
      exact hQ s' t' wr gi (hm.drop_new (Nat.le_refl _)) hwr
theorem boot_sum' : bootBuiltins "sum" = some (.builtin "sum") := by kernel_rfl
theorem boot_len : bootBuiltins "len" = some (.builtin "len") := by kernel_rfl
noncomputable def plen (ps : List (Str × Str)) : Int := (ps.map fun p => (p.1.length : Int) + p.2.length).sum
noncomputable def Small (ps : List (Str × Str)) : Prop := (ps.map fun p => p.1.length + p.2.length).sum ≤ 1000000 ∧ ps.length ≤ 1000
theorem sum_mem {l : List Nat} {a : Nat} (h : a ∈ l) : a ≤ l.sum := by
  induction l with
  | nil => cases h
  | cons b l ih =>
    rw [List.sum_cons]
    rcases List.mem_cons.mp h with rfl | h
    · exact Nat.le_add_right _ _
    · have := ih h; (clear ih; lia)
theorem Small.mem {ps : List (Str × Str)} (z : Small ps) {p : Str × Str} (h : p ∈ ps) : p.1.length + p.2.length ≤ 1000000 :=
  Nat.le_trans (sum_mem (List.mem_map.mpr ⟨p, h, rfl⟩)) z.1
structure Gm (mg : Str → Option Value) : Prop where
  sum : mg "sum" = none
  len : mg "len" = none
  empty : ∃ t, mg "EMPTYSTRING" = some (.str "" t)
  str : mg "str" = none
  range : mg "range" = none
theorem GenJ.later {z a : Addr} {n : Nat} {F : Nat → Value → Prop} {tk : Tok} (x : GenJ prog w A z a n F s) (ht : s.toks ≤ tk) : GenJ prog w A z a n F { s with toks := tk } := by
  refine qg fun G kG => ?_
  obtain ⟨fp, wr, gi, St, W, hst, r⟩ := x
  refine kG ?_
  exact ⟨fp, wr, gi, St, W, W.frame 0 s s.heap tk hst ht fun _ _ _ e => e, r⟩
theorem g_local {C : Addr} {code : Value} {bi : Addr} {env : Env} {scope : Scope} {x : Str} {v : Value} {pos : Pos} {m₂ : Str → Option Value} {Q : Value → Shared → Prop} (hns : s.heap.Ns C m₂) (hv : m₂ x = some v) (h : Q v s)
    (hk : scope.kind = .function := by rfl) (hl : (genEnv scope [] C code bi env).kindOf x = some .local := by rfl) (hd : (x == ("__debug__" : Str)) = false := by decide) :
    wpAny (model prog w) A (eval (.Name x pos) (genEnv scope [] C code bi env)) Q E s := wpAny_Name (wpAny_loadName_local hk hl hns hv h) hd
theorem g_builtin {C : Addr} {code : Value} {env : Env} {scope : Scope} {x : Str} {v : Value} {pos : Pos} {Q : Value → Shared → Prop} (G : Gb T K mg mb g) (hg : s.heap.Ns mainGlobals mg) (hb : s.heap.Ns builtinsNs mb) (hm : mg x = none) (hv : bootBuiltins x = some v) (h : Q v s)
    (hn : x ≠ "__name__" := by decide)
    (hgl : env.globals = mainGlobals := by rfl)
    (hk : scope.kind = .function := by rfl) (hl : (genEnv scope [] C code builtinsNs env).kindOf x = some .globalImplicit := by rfl) (hd : (x == ("__debug__" : Str)) = false := by decide) :
    wpAny (model prog w) A (eval (.Name x pos) (genEnv scope [] C code builtinsNs env)) Q E s := by
  refine Name_function_global hk hl (loadGlobal_builtin (env := genEnv scope [] C code builtinsNs env) (by show s.heap.Ns env.globals mg; rw [hgl]; exact hg) hm hb ((G.boot x hn).trans hv) h) hd
theorem g_global {C : Addr} {code : Value} {env : Env} {scope : Scope} {x : Str} {v : Value} {pos : Pos} {Q : Value → Shared → Prop} (hg : s.heap.Ns mainGlobals mg) (hm : mg x = some v) (h : Q v s)
    (hgl : env.globals = mainGlobals := by rfl)
    (hk : scope.kind = .function := by rfl) (hl : (genEnv scope [] C code builtinsNs env).kindOf x = some .globalImplicit := by rfl) (hd : (x == ("__debug__" : Str)) = false := by decide) :
    wpAny (model prog w) A (eval (.Name x pos) (genEnv scope [] C code builtinsNs env)) Q E s := by
  refine Name_function_global hk hl (loadGlobal_global (env := genEnv scope [] C code builtinsNs env) (by show s.heap.Ns env.globals mg; rw [hgl]; exact hg) hm h) hd
theorem len_spec {x d : Addr} {ps : List (Str × Str)} {n : Int} (G : Gb T K mg mb g) (X : Fx K cd) (GM : Gm mg) (S : St T g s.heap) (r : Rm A 2) (hT : (183, 179) ∈ T)
   (ha : Acc Pk w s.heap x d ps n) (hz : Small ps)
   (hR : ∀ s' tk, Mv T g [] s.heap s'.heap → Ok s s' → R (.ok (.ret (.int (n + plen ps) tk))) s') :
   codeAny (model PR w) A (.call (.ref 184) ⟨[.ref x], []⟩) R s := by
  obtain ⟨its, ep, tk0, tn, ha, hp⟩ := ha
  refine' j_call (binds := [("self", .ref x)]) [] [] G S Kn.nil X.len r.lt (fun _ _ _ _ _ _ => BindsTo.of_eq rfl) (locs rfl) (by decide) ?_ rfl rfl rfl
  intro L h₁ t₁ j
  have a₁ : AccAt w h₁ x d its ep tk0 (.int n tn) := ⟨j.old ha.o (.inl (by exact ni0)), j.old ha.d (.inl (by exact ni0))⟩
  have p₁ : Parts Pk h₁ its.toList ps := hp.mv S j.mv
  refine wpAny_execs_cons (wpAny_Return_some (Call_ ?_))
  refine j_builtin (s := { s with heap := h₁, toks := t₁ }) G j GM.sum boot_sum' ?_
  refine callWith_method1 (first := []) (args_cons ?_)
  refine j_genT (s := { s with heap := h₁, toks := t₁ }) (F := fun p y => ∃ t, y = .int ((p.1.length : Int) + p.2.length) t) G X j r.deeper hT a₁.o p₁ rfl ?_ ?_
  · intro A' E' C code s₂ m₂ p ta tb hA hmem hK hg hb hns e1 e2
    have hzz := hz.mem hmem
    have hm := GM.len
    refine wpAny_BinOp ?_
    refine Call_ (g_builtin G hg hb hm boot_len ?_)
    refine callWith_method1 (first := []) (args_cons (g_local hns e1 (args_nil ?_)))
    refine PySem.P.len_str (by lia) ?_
    refine Call_ (g_builtin G hg hb hm boot_len ?_)
    refine callWith_method1 (first := []) (args_cons (g_local hns e2 (args_nil ?_)))
    refine PySem.P.len_str (by lia) ?_
    refine PyProof.Rows.add_int ⟨⟨_, rfl⟩, _, _, rfl, fun _ _ e => e⟩
  · intro a s₂ j₂ k₂ ok₂ l₂ gn
    have a₂ : AccAt w s₂.heap x d its ep tk0 (.int n tn) := ⟨j₂.old ha.o (.inl (by exact ni0)), j₂.old ha.d (.inl (by exact ni0))⟩
    refine args_cons (Attribute_name (j_local j₂ rfl ?_))
    refine a_attr G X j₂.mv.st a₂ rfl fun t₃ ht => args_nil ?_
    refine call_sum2 (s := { s₂ with toks := t₃ }) (n0 := n) (z := h₁.objs.size) (gn.later ht) (fun i => ((ps.map fun p => (p.1.length : Int) + p.2.length)).getD i 0) ?_ ?_
    · rintro i v ⟨p, hp1, t, rfl⟩
      exact ⟨t, by simp [List.getD_eq_getElem?_getD, hp1]⟩
    · intro s₃ t₄ wr gi mv hwr
      have j₃ := j.moved (s₁ := { s₂ with toks := t₃ }) j₂ mv hwr
      have := preSum_getD (ps.map fun p => (p.1.length : Int) + p.2.length) ps.length
      rw [List.take_of_length_le (by simp)] at this
      rw [this]
      exact hR _ _ j₃.mv ⟨mv.os.trans ok₂.1, fun ab => mv.gens.bare (ok₂.2 ab)⟩
theorem s_meth {name : Str} {id : String} {x : Str} {t : Tok} {pl : Sem Bool} {Q : Value × List Value → Shared → Prop} (slot : Slot "str" name id) (ty : typeOf (.builtin id) = pure (.type "method_descriptor")) (h : Q (.builtin id, [.str x t]) s) :
    wpAny (model prog w) A (getMethod (.str x t) name pl) Q E s := getMethod_builtin (typeIs_str _ _ _) PySem.F.plainAttrs_str slot ty (fun _ e => nomatch e) h
theorem ty_join : typeOf (.builtin "str.join") = pure (.type "method_descriptor") := by show builtinType _ = _; rw [builtinType_eq_fast]; kernel_rfl
theorem Txt_join (sep : Str) (l : List Str) : Txt.join sep l = Str.join sep l := StrLaws.glued_eq_join sep l
noncomputable def ptext (ps : List (Str × Str)) : Str := Str.join "" (ps.map fun p => Str.join "" [p.1, p.2])
theorem length_empty : ("" : Str).length = 0 := by decide
theorem join2_len (a b : Str) : (Str.join "" [a, b]).length = a.length + b.length := by
  show (a ++ "" ++ b).length = _
  rw [Str.length_append, Str.length_append, length_empty]
  lia
theorem g_newTuple {vs : List Value} {Q : Value → Shared → Prop} (h : ∀ a h', (∀ b o, s.heap.get? b = some o → h'.get? b = some o) → h'.get? a = some (tupObj vs) → Q (.ref a) { s with heap := h' }) (hsz : vs.length ≤ sizeLine := by size_fits) :
    wpAny (model prog w) A (newTuple vs) Q E s := wpAny_newObj_type (h _ _ (fun b o e => Heap.get?_push_of_some _ e) (Heap.get?_push_size _ rfl)) (by show vs.toArray.size ≤ sizeLine; rw [List.size_toArray]; exact hsz)
theorem str_spec {x d : Addr} {ps : List (Str × Str)} {n : Int} (G : Gb T K mg mb g) (X : Fx K cd) (GM : Gm mg) (S : St T g s.heap) (r : Rm A 2) (hT : (190, 186) ∈ T)
   (ha : Acc Pk w s.heap x d ps n) (hz : Small ps)
   (hR : ∀ s' tk, Mv T g [] s.heap s'.heap → Ok s s' → R (.ok (.ret (.str (ptext ps) tk))) s') :
   codeAny (model PR w) A (.call (.ref 191) ⟨[.ref x], []⟩) R s := by
  obtain ⟨its, ep, tk0, tn, ha, hp⟩ := ha
  obtain ⟨te, hE⟩ := GM.empty
  refine' j_call (binds := [("self", .ref x)]) [] [] G S Kn.nil X.str r.lt (fun _ _ _ _ _ _ => BindsTo.of_eq rfl) (locs rfl) (by decide) ?_ rfl rfl rfl
  intro L h₁ t₁ j
  have a₁ : AccAt w h₁ x d its ep tk0 (.int n tn) := ⟨j.old ha.o (.inl (by exact ni0)), j.old ha.d (.inl (by exact ni0))⟩
  have p₁ : Parts Pk h₁ its.toList ps := hp.mv S j.mv
  refine wpAny_execs_cons (wpAny_Return_some (MethodCall_ ?_))
  refine j_global (s := { s with heap := h₁, toks := t₁ }) G j hE ?_
  refine s_meth PySem.F.slot_str_join ty_join ?_
  refine callWith_method1 (args_cons ?_)
  refine j_genT (s := { s with heap := h₁, toks := t₁ }) (F := fun p y => ∃ t, y = .str (Str.join "" [p.1, p.2]) t) G X j r.deeper hT a₁.o p₁ rfl ?_ ?_
  · intro A' E' C code s₂ m₂ p ta tb hA hmem hK hg hb hns e1 e2
    have hzz := hz.mem hmem
    refine MethodCall_ ?_
    refine g_global hg hE ?_
    refine s_meth PySem.F.slot_str_join ty_join ?_
    refine callWith_method1 (args_cons ?_)
    refine Tuple_ (args_cons (g_local hns e1 (args_cons (g_local hns e2 (args_nil ?_)))))
    refine g_newTuple fun t h₃ k₃ e₃ => args_nil ?_
    refine join_tuple (s := { s₂ with heap := h₃ }) (D := t) (items := #[.str p.1 ta, .str p.2 tb]) (ys := [p.1, p.2]) ⟨_, e₃, rfl, 0, rfl⟩ (.cons _ _ (.cons _ _ .nil)) ?_ ?_
    · rw [length_empty]; simp; exact Nat.le_trans (by assumption) (by decide)
    · intro t' k
      rw [Txt_join]
      exact ⟨⟨_, rfl⟩, _, _, rfl, k₃⟩
  · intro a s₂ j₂ k₂ ok₂ l₂ gn
    refine args_nil ?_
    refine qg fun G kG => ?_
    obtain ⟨fp, wr, gi, St, W, hst, hty, haf, hfp, hwr⟩ := gn
    refine kG ?_
    refine SC.joinGen W.in4_2 hty hst hfp haf ?_ ?_ (by rw [sizeLine_eq]; have := hz.2; exact Nat.le_trans (by assumption) (by decide))
    · rintro i v ⟨p, hp1, t, rfl⟩
      exact ⟨_, _, rfl⟩
    · intro s₃ l mv hl
      have e1 : l.map (·.1) = ps.map fun p => Str.join "" [p.1, p.2] := by
        apply List.ext_getElem?
        intro i
        rw [List.getElem?_map, List.getElem?_map]
        have hsz : l.length = ps.length := by simpa [strValues] using hl.1
        cases q : l[i]? with
        | none =>
          have : ps[i]? = none := by rw [List.getElem?_eq_none_iff] at q ⊢; lia
          rw [this]; rfl
        | some p =>
          obtain ⟨p', hp1, t, e⟩ := hl.2 i (.str p.1 p.2) (by simp [strValues, q])
          rw [hp1]
          injection e with h1 _
          exact congrArg some h1
      have hw : (ps.map fun p => (Str.join "" [p.1, p.2]).length) = ps.map fun p => p.1.length + p.2.length := by
        congr 1; funext p; exact join2_len _ _
      refine ⟨joinOk_of ?_, fun t' k => ?_⟩
      · rw [e1, List.map_map, length_empty, show ((fun (x : Str) => x.length) ∘ fun (p : Str × Str) => Str.join "" [p.1, p.2]) = fun p => (Str.join "" [p.1, p.2]).length from rfl, hw]
        have := hz.1
        exact Nat.le_trans (by assumption) (by decide)
      · rw [e1, Txt_join]
        have j₃ := j.moved j₂ mv hwr
        exact hR _ _ j₃.mv ⟨mv.os.trans ok₂.1, fun ab => mv.gens.bare (ok₂.2 ab)⟩
theorem Acc.inst {h : Heap} {x d : Addr} {n : Int} {ps : List (Str × Str)} (a : Acc Pk w h x d ps n) : ∃ ox od, InstAt h x ox 217 (some od) := let ⟨_, _, _, _, a, _⟩ := a; ⟨_, _, a.inst⟩
theorem a_lenB {B : Around} {x d : Addr} {ps : List (Str × Str)} {n : Int} {Q : Fin → Shared → Prop} (G : Gb T K mg mb g) (X : Fx K cd) (GM : Gm mg) (S : St T g s.heap) (r : Rm B 3) (hT : (183, 179) ∈ T)
   (ha : Acc Pk w s.heap x d ps n) (hz : Small ps) (h0 : 0 ≤ n + plen ps) (h1 : n + plen ps ≤ 100000000)
   (hQ : ∀ s' tk, Mv T g [] s.heap s'.heap → Ok s s' → Q (.done (.ret (.int (n + plen ps) tk))) s') : wpAny (model PR w) B (Builtin.«len» ⟨[.ref x], []⟩) Q E s := by
  obtain ⟨ox, od, I⟩ := ha.inst
  unfold Builtin.«len»
  refine wpAny_bind (m := oneArg "len" _) (wpAny_pure ?_)
  refine wpAny_bind (m := callSpecial? (.ref x) (Str.ofString "__len__")) (special_fn (S.In G) I X.fLen (beq_iff_eq.mp (X.keep 184 (by decide)).2) (wpAny_call (len_spec G X GM S (r.mono (by decide)) hT ha hz fun s' tk mv ok => ?_)))
  refine wpAny_bind (wpAny_holding (wpAny_pure ?_))
  refine wpAny_bind (wpAny_letGo ?_)
  show wpAny _ _ (if (n + plen ps) < 0 then _ else _) _ _ _
  refine wf (by exact Int.not_lt.mpr h0) ?_
  show wpAny _ _ (if (n + plen ps) ≥ 2 ^ 63 then _ else _) _ _ _
  refine wf (by lia) ?_
  exact wpAny_bind (wpAny_mkInt (wpAny_pure (hQ _ _ mv ok)))
theorem a_len {x d : Addr} {ps : List (Str × Str)} {n : Int} {Q : Value → Shared → Prop} (G : Gb T K mg mb g) (X : Fx K cd) (GM : Gm mg) (S : St T g s.heap) (r : Rm A 4) (hT : (183, 179) ∈ T)
   (ha : Acc Pk w s.heap x d ps n) (hz : Small ps) (h0 : 0 ≤ n + plen ps) (h1 : n + plen ps ≤ 100000000)
   (hQ : ∀ s' tk, Mv T g [] s.heap s'.heap → Ok s s' → Q (.int (n + plen ps) tk) s') : wpAny (model PR w) A (call (.builtin "len") [.ref x]) Q E s := by
  refine Calls.call_function_entry kind_len plain_len entry_len (args_len1 _) ?_
  exact a_lenB G X GM S (r.in1.mono (by decide)) hT ha hz h0 h1 fun s' tk mv ok => ⟨_, rfl, hQ _ _ mv ok⟩
theorem a_truthy (X : Fx K cd) {x d : Addr} {ps : List (Str × Str)} {n : Int} {Q : Bool → Shared → Prop} (G : Gb T K mg mb g) (GM : Gm mg) (S : St T g s.heap) (r : Rm A 4) (hT : (183, 179) ∈ T)
   (ha : Acc Pk w s.heap x d ps n) (hz : Small ps) (h0 : 0 ≤ n + plen ps) (h1 : n + plen ps ≤ 100000000)
   (hQ : ∀ s', Mv T g [] s.heap s'.heap → Ok s s' → Q (n + plen ps != 0) s') : wpAny (model PR w) A (truthy (.ref x)) Q E s := by
  obtain ⟨ox, od, I⟩ := ha.inst
  have Y := S.In G
  unfold truthy
  refine wpAny_bind (m := callSpecial? (.ref x) (Str.ofString "__bool__")) (wpAny_bind (wpAny_bind (I.type.here ((looks_findIn Y X.fBool).here (wpAny_pure ?_)))))
  refine wpAny_bind (wpAny_bind (I.type.here ((looks_findIn Y X.fLen).here ?_)))
  refine wpAny_bind (wpAny_runValue (codeAny_builtin entry_len ?_))
  rw [Around.under_plainId plain_len _]
  exact a_lenB G X GM S (r.in1.mono (by decide)) hT ha hz h0 h1 fun s' tk mv ok => wpAny_pure (hQ _ mv ok)
theorem a_strcall {x d : Addr} {ps : List (Str × Str)} {n : Int} {Q : Value → Shared → Prop} (G : Gb T K mg mb g) (X : Fx K cd) (GM : Gm mg) (S : St T g s.heap) (r : Rm A 4) (hT : (190, 186) ∈ T)
   (ha : Acc Pk w s.heap x d ps n) (hz : Small ps)
   (hQ : ∀ s' tk, Mv T g [] s.heap s'.heap → Ok s s' → Q (.str (ptext ps) tk) s') : wpAny (model PR w) A (call (.type "str") [.ref x]) Q E s := by
  obtain ⟨ox, od, I⟩ := ha.inst
  exact kso_call r.in1.in1.room (S.In G) I X.fStr (X.keep 191 (by decide)).2 (wpAny_call (str_spec G X GM S (r.in1.in1.mono (by decide)) hT ha hz fun s' tk mv ok => hQ _ _ mv ok))
theorem boot_str : bootBuiltins "str" = some (.type "str") := by kernel_rfl
noncomputable def onlyB (ps : List (Str × Str)) (n : Int) : Bool := n == 0 && (plen ps == 0 || Txt.isspace (ptext ps))
theorem only_spec {x d : Addr} {ps : List (Str × Str)} {n : Int} (G : Gb T K mg mb g) (X : Fx K cd) (GM : Gm mg) (S : St T g s.heap) (r : Rm A 6) (hT : (183, 179) ∈ T) (hT2 : (190, 186) ∈ T)
   (ha : Acc Pk w s.heap x d ps n) (hz : Small ps) (h0 : 0 ≤ n + plen ps) (h1 : n + plen ps ≤ 100000000)
   (hR : ∀ s', Mv T g [] s.heap s'.heap → Ok s s' → R (.ok (.ret (.bool (onlyB ps n)))) s') :
   codeAny (model PR w) A (.call (.ref 206) ⟨[.ref x], []⟩) R s := by
  refine' j_call (binds := [("self", .ref x)]) [] [] G S Kn.nil X.only r.lt (fun _ _ _ _ _ _ => BindsTo.of_eq rfl) (locs rfl) (by decide) ?_ rfl rfl rfl
  intro L h₁ t₁ j
  have a₁ : Acc Pk w h₁ x d ps n := ha.mv S j.mv (by exact ni0) (by exact ni0)
  obtain ⟨its, ep, tk0, tn, a₁', p₁⟩ := id a₁
  refine wpAny_execs_cons (wpAny_Return_some (BoolOp_and (wpAny_Compare1 ?_)))
  refine Attribute_name (j_local (s := { s with heap := h₁, toks := t₁ }) j rfl ?_)
  refine a_attr (s := { s with heap := h₁, toks := t₁ }) G X j.mv.st a₁' rfl fun t₂ ht => ?_
  refine wpAny_Constant_int (eq_int (wpAny_truthy_bool ?_))
  cases hn : n == 0 with
  | false =>
    rw [if_neg (by simp)]
    have := hR { s with heap := h₁, toks := t₂ + 1 } j.mv (Ok.heap)
    unfold onlyB at this
    rw [hn, Bool.false_and] at this
    exact this
  | true =>
    rw [if_pos rfl]
    refine BoolOp_one (BoolOp_or (wpAny_UnaryOp ?_))
    refine j_local (s := { s with heap := h₁, toks := t₂ + 1 }) j rfl ?_
    refine not_of ?_
    refine a_truthy (s := { s with heap := h₁, toks := t₂ + 1 }) X G GM j.mv.st (r.deeper.mono (by decide)) hT a₁ hz h0 h1 fun s₃ mv₃ ok₃ => wpAny_truthy_bool ?_
    have j₃ : J T g [] s.heap L s₃.heap _ [] := j.call0 mv₃
    have a₃ : Acc Pk w s₃.heap x d ps n := a₁.mv j.mv.st mv₃ (by exact ni0) (by exact ni0)
    have ok₃' : Ok s s₃ := ⟨ok₃.1, ok₃.2⟩
    have n0 : n = 0 := by simpa using hn
    cases hp : plen ps == 0 with
    | true =>
      have e1 : (!(n + plen ps != 0)) = true := by
        have : plen ps = 0 := by simpa using hp
        rw [n0, this]; rfl
      rw [e1, if_pos rfl]
      have := hR s₃ j₃.mv ok₃'
      unfold onlyB at this
      rw [hn, hp] at this
      exact this
    | false =>
      have e1 : (!(n + plen ps != 0)) = false := by
        have : plen ps ≠ 0 := by simpa using hp
        simp [n0, this]
      rw [e1, if_neg (by simp)]
      refine BoolOp_one (MethodCall_ (Call_ ?_))
      refine j_builtin (s := s₃) G j₃ GM.str boot_str ?_
      refine PyProof.Rows.callWith_type1 (args_cons (j_local (s := s₃) j₃ rfl (args_nil ?_)))
      refine a_strcall G X GM j₃.mv.st (r.deeper.mono (by decide)) hT2 a₃ hz fun s₄ t₄ mv₄ ok₄ => ?_
      refine s_meth PySem.F.slot_str_isspace PySem.F.type_str_isspace (callWith_method0 (SC.isspace ?_))
      have := hR s₄ (j₃.call0 mv₄).mv (ok₃'.trans ok₄)
      unfold onlyB at this
      rw [hn, hp] at this
      exact this
end
end Mine
end
section
open PySem PySem.W PySem.Calls PyProof.Rows Builtin
namespace Mine
section
variable {T : Tabs} {K : Frag} {cd : ClassData} {mg mb : Str → Option Value} {w : World} {A : Around} {s : Shared} {g : Heap} {R : Result → Shared → Prop} {E : Value → Shared → Prop} {prog : Program}
theorem pop0_spec {x d : Addr} {ep : Nat} {tk0 : Tok} {iv : Value} (G : Gb T K mg mb g) (X : Fx K cd) (S : St T g s.heap) (r : Rm A 3)
   (ha : AccAt w s.heap x d #[] ep tk0 iv)
   (hR : ∀ t ta tb h' tk, Mv T g [] s.heap h' → h'.get? t = some ({ cls := .type "tuple", data := .seq ([.str "" ta, .str "" tb] : List Value).toArray } : Obj) → R (.ok (.ret (.ref t))) { s with heap := h', toks := tk }) :
   codeAny (model PR w) A (.call (.ref 177) ⟨[.ref x], []⟩) R s := by
  refine' j_call (binds := [("self", .ref x)]) [] [] G S Kn.nil X.pop r.lt (fun _ _ _ _ _ _ => BindsTo.of_eq rfl) (locs rfl) (by decide) ?_ rfl rfl rfl
  intro L h₁ tk j
  have a₁ : AccAt w h₁ x d #[] ep tk0 iv := ⟨j.old ha.o (.inl (by exact ni0)), j.old ha.d (.inl (by exact ni0))⟩
  refine wpAny_execs_cons (wpAny_If (wpAny_isTrue_Compare1 ?_))
  refine MethodCall_ (j_local (s := { s with heap := h₁, toks := tk }) j rfl ?_)
  refine a_meth G X j.mv.st a₁ X.fCount (X.keep 214 (by decide)).2 ?_
  refine j_callWith0 (s := { s with heap := h₁, toks := tk }) G j.mv.st (X.keep 214 (by decide)).1 (wpAny_call ?_)
  refine count_spec (s := { s with heap := h₁, toks := tk }) G X j.mv.st (r.deeper.mono (by decide)) a₁.o fun h₂ t₂ t₃ mv₂ => ?_
  have j₂ := j.call0 mv₂
  refine wpAny_Constant_int (eq_int (wpAny_truthy_bool ?_))
  rw [if_pos (by rfl)]
  refine wpAny_execs_cons (wpAny_Return_some (Tuple_ (args_cons (Constant_str (args_cons (Constant_str (args_nil ?_)))))))
  refine j_newTuple (s := { s with heap := h₂, toks := _ }) j₂ fun a h₃ j₃ _ _ => ?_
  exact hR a _ _ h₃ _ j₃.mv (j₃.get (.head _))
end
end Mine
end
section
open PySem PySem.W PySem.Calls PyProof.Rows Builtin Builtin.ObjectAttr
namespace Mine
section
variable {Pk : Addr → Prop}
variable {T : Tabs} {K : Frag} {cd : ClassData} {mg mb : Str → Option Value} {w : World} {A : Around} {s : Shared} {g₀ h₀ h' : Heap} {W : List Addr} {L C : Addr} {m : Str → Option Value} {kn : List (Addr × Obj)} {R : Result → Shared → Prop} {E : Value → Shared → Prop} {prog : Program}
  {h : Heap} {g : Array GenState} {d : Drawn} {t : Nat} {os : OsState}
noncomputable def makesL (K : Frag) (C : Addr) : Bool := match K.lookup C with
  | some ⟨_, _, .cls cd, sl⟩ => !cd.abstract && !cd.hasDel && (sl.toList[4]?).join == some (.builtin "list.__new__") && cd.mro == [.ref C, .type "list", .type "object"] &&
      specialIn K (.ref C) "__call__" == some (some (.builtin "type.__call__")) && instIn K (.ref C) (.type "type") == some true
  | _ => false
structure MakesL (M : Model) (h : Heap) (C : Addr) : Prop where
  obj : ∃ oc od cd sl, h.get? C = some ⟨oc, od, .cls cd, sl⟩ ∧ cd.abstract = false ∧ cd.hasDel = false ∧ cd.mro.isEmpty = false
  made : Looks M h (Bind.madeBy (.ref C)) (some "list.__new__")
  base : Looks M h (Bind.staticBase (.ref C)) (.ref C)
  self : Looks M h (isSubtype (.ref C) (.ref C)) true
  lst : Looks M h (isSubtype (.ref C) (.type "list")) true
  call : Looks M h (specialOf (.ref C) "__call__") (some (.builtin "type.__call__"))
  typ : Looks M h (isInstance (.ref C) (.type "type")) true
theorem makesL_of {M : Model} (X : K.In h) (e : makesL K C = true) : MakesL M h C := by
  unfold makesL at e
  split at e
  · rename_i oc od cd sl ho
    simp only [Bool.and_eq_true, Bool.not_eq_true', beq_iff_eq] at e
    obtain ⟨⟨⟨⟨⟨e1, e2⟩, e3⟩, e4⟩, e7⟩, e8⟩ := e
    have hc : clsIn K C = some cd := by unfold clsIn; rw [ho]
    have hm : Looks M h (mroOf (.ref C)) cd.mro := (looks_clsIn X hc).andThen .now
    have ne : cd.mro.isEmpty = false := by rw [e4]; rfl
    have made : Looks M h (Bind.madeBy (.ref C)) (some "list.__new__") := by
      intro A Q E s k q
      unfold Bind.madeBy
      refine wpAny_bind (hm A _ E s k ?_)
      rw [e4, List.forIn_cons]
      refine wpAny_bind (wpAny_bind (wpAny_bind (wpAny_bind (wpAny_loadPart (k _ _ (X _ _ ho)) (wpAny_pure ?_)))))
      rw [← Array.getElem?_toList, e3]
      exact wpAny_pure (wpAny_pure (wpAny_pure q))
    refine ⟨⟨oc, od, cd, sl, X _ _ ho, e1, e2, ne⟩, made, ?_, looks_mroIn X ?_, looks_mroIn X ?_, looks_specialIn X e7, looks_instIn X e8⟩
    · intro A Q E s k q
      unfold Bind.staticBase
      refine wpAny_bind (hm A _ E s k ?_)
      rw [e4, List.forIn_cons]
      exact wpAny_bind (wpAny_bind (wpAny_bind (made A _ E s k (wpAny_pure (wpAny_pure (wpAny_pure q))))))
    · unfold mroIn; rw [hc, Option.bind_some, if_neg (by rw [ne]; decide), e4]; simp
    · unfold mroIn; rw [hc, Option.bind_some, if_neg (by rw [ne]; decide), e4]; exact rfl
  · cases e
theorem ln_kind : builtinKind "list.__new__" = some .builtinFn := by rw [builtinKind_eq_fast]; kernel_rfl
theorem ln_split : splitId "list.__new__" = some ("list", "__new__") := by kernel_rfl
theorem ln_args (C : Addr) (rest : List Value) (kw : List (Str × Value)) : ∃ sig, Manifest.signature? "list.__new__" = some sig ∧ Bind.checkArgs "list.__new__" sig ⟨.ref C :: rest, kw⟩ = pure () :=
  ⟨⟨.any, "list", "list", .cls, [⟨"args", .varPos, false⟩, ⟨"kwargs", .varKw, false⟩]⟩, by kernel_rfl, by kernel_rfl⟩
theorem new_L {rest : List Value} {kw : List (Str × Value)} (Y : MakesL (model prog w) h C)
    (hq : R (.ok (.ret (.ref (h.objs.size + 1)))) ⟨(h.push emptyDict).push (accObj C h.objs.size #[] 0), g, d, t, os⟩) :
    codeAny (model prog w) A (.call (.builtin "list.__new__") ⟨.ref C :: rest, kw⟩) R ⟨h, g, d, t, os⟩ := by
  refine qg fun G kG => ?_
  obtain ⟨⟨oc, od, cd, sl, hC, e1, e2, e4⟩, made, base, self, lst, call, typ⟩ := Y
  refine kG ?_
  obtain ⟨sig, hsig, hargs⟩ := ln_args C rest kw
  have ty : Looks (model prog w) h (isType (.ref C)) true := (Looks.ld (part := none) hC).andThen .now
  refine codeAny_call_builtin_code (Code.quiet_builtin _ (by decide +kernel)) ?_
  simp only [checkBuiltinCall, ln_kind, ln_split, hsig]
  rw [hargs]
  repeat (first | simp only [bne_self_eq_false, Bool.false_eq_true, if_false] | lk)
  refine codeAny_builtin_stack PySem.F.entry_list_new rfl fun p st => ?_
  rw [Around.under_plainId PySem.F.plain_list_new _]
  have hown := owner_list_new
  simp only [hown]
  refine wpAny_bind (ty.at ?_)
  refine wpAny_bind (lst.at ?_)
  refine wpAny_bind (wpAny_pure ?_)
  show wpAny _ _ (newDict >>= _) _ _ _
  unfold newDict
  refine wpAny_bind (wpAny_newObj_type ?_ (by size_fits))
  show wpAny _ _ (newObj (.ref C) (.seq #[]) (some h.objs.size) >>= _) _ _ _
  refine wpAny_bind ?_
  show wpAny _ _ (newObjAsIs (.ref C) (.seq #[]) (some h.objs.size)) _ _ _
  unfold newObjAsIs classHasDel
  refine wpAny_bind (wpAny_alloc (wpAny_bind (wpAny_bind (wpAny_load (Heap.get?_push_of_some _ (Heap.get?_push_of_some _ hC)) (wpAny_pure ?_)))))
  rw [e2]
  refine wpAny_pure (wpAny_pure ?_)
  show R _ _
  rw [Heap.size_push]
  exact hq
theorem make_L {rest : List Value} {kw : List (Str × Value)} {init : Value} (Y : MakesL (model prog w) h C) (hi : Looks (model prog w) h (typeLookup (.ref C) "__init__") (some init))
    (hb : ∀ self, Looks (model prog w) h (bindSpecial init self) (init, [self])) (hnw : Looks (model prog w) h (typeLookup (.ref C) "__new__") (some (.builtin "list.__new__")))
    (hq : codeAny (model prog w) (A.under (.builtin "type.__call__" ⟨.ref C :: rest, kw⟩)) (.call init ⟨.ref (h.objs.size + 1) :: rest, kw⟩) (InitBack (h.objs.size + 1) R) ⟨(h.push emptyDict).push (accObj C h.objs.size #[] 0), g, d, t, os⟩) :
    codeAny (model prog w) A (.call (.ref C) ⟨rest, kw⟩) R ⟨h, g, d, t, os⟩ := by
  have Y' := Y
  refine qg fun G kG => ?_
  obtain ⟨⟨oc, od, cd, sl, hC, e1, e2, e4⟩, made, base, self, top, call, typ⟩ := Y
  refine kG ?_
  refine codeAny_of_tree ?_
  show wpAny _ _ (callAny (.ref C) _) _ _ _
  refine nd_load hC ?_
  show wpAny _ _ (callAny.viaDunder (.ref C) _) _ _ _
  unfold callAny.viaDunder
  refine wpAny_bind (call.at ?_)
  dsimp only
  rw [tc_bind]
  refine wpAny_bind (wpAny_pure (wpAny_bind (wpAny_pure ?_)))
  refine wpAny_pure (a := Fin.again (.call (.builtin "type.__call__") ⟨.ref C :: rest, kw⟩)) (And.intro rfl ?_)
  refine codeAny_call_builtin_at (Code.quiet_builtin _ (by decide +kernel)) entry_typeCall (check_slot tc_kind tc_split typ (tc_args _ _ _) ?_)
  unfold Builtin.«type.__call__»
  have hm : Looks (model prog w) h (mroOf (.ref C)) cd.mro := ((Looks.ld (part := none) hC).andThen .now).andThen .now
  repeat (first | simp only [e4, Bool.false_eq_true, if_false] | with_reducible refine wpAny_call ?_ | lk)
  refine new_L Y' ?_
  have k : ∀ b o, h.get? b = some o → ((h.push emptyDict).push (accObj C h.objs.size #[] 0)).get? b = some o := fun b o e => Heap.get?_push_of_some _ (Heap.get?_push_of_some _ e)
  have hx : ((h.push emptyDict).push (accObj C h.objs.size #[] 0)).get? (h.objs.size + 1) = some (accObj C h.objs.size #[] 0) := by heap_get
  have t1 : Looks (model prog w) ((h.push emptyDict).push (accObj C h.objs.size #[] 0)) (typeOf (.ref (h.objs.size + 1))) (.ref C) := (Looks.ld hx).andThen .now
  have s1 := self.keeps k
  have i1 := hi.keeps k
  have b1 := (hb (.ref (h.objs.size + 1))).keeps k
  unfold isInstance callSpecial? specialOf
  repeat (first | with_reducible refine wpAny_call ?_ | lk)
  refine codeAny_mono hq fun r s' z => ?_
  rcases r with e | (v | _ | _ | _) <;> first | exact z | exact z.elim | skip
  obtain ⟨rfl, z⟩ := z
  exact wpAny_pure (wpAny_pure z)
end
end Mine
end
section
open PySem PySem.W PySem.Calls PyProof.Rows Builtin Builtin.ObjectAttr
namespace Mine
section
variable {Pk : Addr → Prop}
variable {T : Tabs} {K : Frag} {cd : ClassData} {mg mb : Str → Option Value} {w : World} {A : Around} {s : Shared} {g h₀ h h' : Heap} {W : List Addr} {L C : Addr} {m : Str → Option Value} {kn : List (Addr × Obj)} {R : Result → Shared → Prop} {E : Value → Shared → Prop} {prog : Program}
theorem init_code {a : Addr} {o : Obj} {its : Array Value} {ep : Nat} (ho : s.heap.get? a = some o) (hd : o.data = .seq its ep) (hsz : its.size ≤ sizeLine)
    (h : R (.ok (.ret .none)) { s with heap := s.heap.update a (Obj.mapSeq fun _ => #[]) }) : codeAny (model prog w) A (.builtin "list.__init__" ⟨[.ref a], []⟩) R s := by
  refine codeAny_builtin PySem.F.entry_list_init ?_
  show wpAny _ _ (List.listItems (.ref a) >>= _) _ _ s
  unfold List.listItems
  refine wpAny_bind (wpAny_bind (wpAny_seqItems ho hd (wpAny_pure ?_)))
  refine wpAny_bind (m := updateSeq a _) (wpAny_updateSeq ho hd (wpAny_bind (wpAny_letGo (wpAny_pure h))) hsz ?_)
  simp
theorem lookIn_empty {name : Str} : lookIn name emptyDict = some none := rfl
theorem put_empty (tk : Tok) (v : Value) : Obj.putName "_initial_size" (PyData.keyHash w.params "_initial_size") (.str "_initial_size" tk) v emptyDict = szD w tk v := rfl
theorem init_spec {x d : Addr} {n : Int} {args : Args} {tk : Tok} (G : Gb T K mg mb g) (X : Fx K cd) (S : St T g s.heap) (r : Rm A 2)
   (hx : s.heap.get? x = some (accObj 217 d #[] 0)) (hd : s.heap.get? d = some emptyDict) (hne : x ≠ d) (hxg : g.objs.size ≤ x) (hdg : g.objs.size ≤ d)
   (hb : ∀ fd, fd.params = fArgs (inCls 12 0) → fd.defaults = .ref 146 → BindsTo s fd args [("self", .ref x), ("initial_size", .int n tk)])
   (hR : ∀ h' tk, Mv T g [x, d] s.heap h' → Acc Pk w h' x d [] n → R (.ok (.ret .none)) { s with heap := h', toks := tk }) :
   codeAny (model PR w) A (.call (.ref 154) args) R s := by
  refine' j_callAt (binds := [("self", .ref x), ("initial_size", .int n tk)]) [x, d] [(x, accObj 217 d #[] 0), (d, emptyDict)] G S ?hkn X.init r.lt (fun _ _ _ _ _ _ => hb _ rfl rfl) (locs rfl) (by decide) ?_ rfl rfl rfl
  case hkn =>
    refine ⟨fun p hp => ?_, by simp [hne]⟩
    rcases List.mem_cons.mp hp with rfl | hp
    · exact ⟨hx, S.notTab hx (by nofun), hxg⟩
    · rw [List.mem_singleton.mp hp]; exact ⟨hd, S.notTab hd (by nofun), hdg⟩
  intro L h₁ t₁ j
  refine ks_wpAt_execs_cons (ks_wpAt_Assign_Attr (wpAt_of_wpAny ?_))
  refine j_local (s := { s with heap := h₁, toks := t₁ }) j rfl ?_
  refine j_local (s := { s with heap := h₁, toks := t₁ }) j rfl ?_
  have I : InstAt h₁ x (accObj 217 d #[] 0) 217 (some emptyDict) := ⟨j.get (.head _), rfl, rfl, j.get (.tail _ (.head _))⟩
  refine j_setattr (s := { s with heap := h₁, toks := t₁ }) (dx := d) (j.mv.st.In G) I rfl X.fSetattr X.over X.taker (by simp [lookIn_empty]) ?_ ?_
  · intro tk
    exact ⟨_, _, _, put_empty (w := w) tk _, rfl, by simp, rfl⟩
  intro tk2 t'
  have j₂ := j.update 1 rfl (.inl (.tail _ (.head _))) (by exact tnD) (put_empty (w := w) tk2 (.int n tk)) rfl
  revert j₂
  generalize h₁.update d _ = h₂
  intro j₂
  refine ks_wpAt_execs_cons (ks_wpAt_Expr_any ?_)
  refine j_super (s := { s with heap := h₂, toks := t' }) (id := "list.__init__") G j₂ X.supI X.init rfl rfl (j₂.get (.head _)) rfl rfl X.alI (fun h => gets_init) (.inr rfl)
    (fun s _ _ A E Q hq => by rw [ck_init]; exact wpAny_pure hq) PySem.F.slot_list_init.plain (ne_cls (s := s) G S hx rfl X.supC.cls)
    (fun h₃ t₃ j₃ k₃ => ?_) rfl rfl rfl rfl
  obtain ⟨ep', ee⟩ := mapSeq_acc 217 d #[] #[] 0 (fun _ => #[]) rfl
  have j₄ := j₃.update 0 rfl (.inl (.head _)) (by exact tnA) ee rfl
  refine init_code (s := { s with heap := h₃, toks := t₃ }) (j₃.get (.head _)) rfl (by simp) ?_
  exact wpAt_of_wpAny (wpAny_execs_nil (hR _ _ j₄.mv ⟨_, _, _, _, ⟨j₄.get (.head _), j₄.get (.tail _ (.head _))⟩, .nil⟩))
theorem mk_weight (C : Addr) (rest : List Value) (kw : List (Str × Value)) : (Code.builtin "type.__call__" ⟨.ref C :: rest, kw⟩).weight = 1 := by kernel_rfl
theorem mk_units (C : Addr) (rest : List Value) (kw : List (Str × Value)) : (Code.builtin "type.__call__" ⟨.ref C :: rest, kw⟩).cUnits ≤ 10 := by
  have : (Code.builtin "type.__call__" ⟨.ref C :: rest, kw⟩).cUnits = 1 := by kernel_rfl
  exact Nat.succ_pos _
theorem Rm.make {n : Nat} {rest : List Value} {kw : List (Str × Value)} (r : Rm A (n + 1)) : Rm (A.under (.builtin "type.__call__" ⟨.ref C :: rest, kw⟩)) n := by
  refine ⟨?_, r.h, ?_⟩
  · have := r.d
    show A.depth + (Code.builtin "type.__call__" ⟨.ref C :: rest, kw⟩).weight + n ≤ 900
    rw [mk_weight]
    lia
  · have := r.u
    have := mk_units C rest kw
    show A.units + (Code.builtin "type.__call__" ⟨.ref C :: rest, kw⟩).cUnits + 10 * n ≤ 9000
    lia
theorem acc_new {rest : List Value} {n : Int} {tk : Tok} (G : Gb T K mg mb g) (X : Fx K cd) (XM : makesL K 217 = true) (S : St T g s.heap) (r : Rm A 3)
   (hb : ∀ x (s' : Shared) fd, K.In s'.heap → fd.params = fArgs (inCls 12 0) → fd.defaults = .ref 146 → BindsTo s' fd ⟨.ref x :: rest, []⟩ [("self", .ref x), ("initial_size", .int n tk)])
   (hR : ∀ x d h' tk, Mv T g [] s.heap h' → Acc Pk w h' x d [] n → s.heap.get? x = none → s.heap.get? d = none → g.objs.size ≤ x → g.objs.size ≤ d → R (.ok (.ret (.ref x))) { s with heap := h', toks := tk }) :
   codeAny (model PR w) A (.call (.ref 217) ⟨rest, []⟩) R s := by
  obtain ⟨hh, gg, dd, tt, os⟩ := s
  dsimp only at S
  have Y := S.In G
  refine make_L (makesL_of Y XM) (looks_findIn Y X.fInit) (fun self => bind_fn Y self (beq_iff_eq.mp (X.keep 154 (by decide)).2)) (looks_findIn Y X.fNew) ?_
  have S₂ : St T g ((hh.push emptyDict).push (accObj 217 hh.objs.size #[] 0)) := (S.push _).push _
  have hx : ((hh.push emptyDict).push (accObj 217 hh.objs.size #[] 0)).get? (hh.objs.size + 1) = some (accObj 217 hh.objs.size #[] 0) := by heap_get
  have hd : ((hh.push emptyDict).push (accObj 217 hh.objs.size #[] 0)).get? hh.objs.size = some emptyDict := by heap_get
  have nn : ∀ b, hh.objs.size ≤ b → hh.get? b = none := fun b hb => Heap.get?_none_of_le hb
  refine init_spec (Pk := Pk) (s := ⟨_, gg, dd, tt, os⟩) G X S₂ (r.make.mono (by decide)) hx hd (Nat.succ_ne_self _) (Nat.le_succ_of_le S.le) S.le (fun fd h1 h2 => hb _ _ fd (S₂.In G) h1 h2) fun h' tk mv a => ?_
  refine ⟨rfl, ?_⟩
  have mv0 : Mv T g [] hh ((hh.push emptyDict).push (accObj 217 hh.objs.size #[] 0)) := ⟨S₂, fun b o e _ _ => Heap.get?_push_of_some _ (Heap.get?_push_of_some _ e), fun b o e => ⟨o, Heap.get?_push_of_some _ (Heap.get?_push_of_some _ e)⟩⟩
  refine hR _ _ h' tk (mv0.trans mv fun b hb => ?_) a (nn _ (Nat.le_succ _)) (nn _ (Nat.le_refl _)) (Nat.le_succ_of_le S.le) S.le
  rcases List.mem_cons.mp hb with rfl | hb
  · exact .inr (nn _ (Nat.le_succ _))
  · rw [List.mem_singleton.mp hb]; exact .inr (nn _ (Nat.le_refl _))
end
end Mine
end
section
open PySem PySem.W PySem.Calls PyProof.Rows Builtin Builtin.ObjectAttr
namespace Mine
structure Fv (K : Frag) : Prop where
  init : FnAt K 74 (inCls 11 0) "_ValueFormatter.__init__" [] .none 73
  str : FnAt K 81 (inCls 11 1) "_ValueFormatter._str" [] .none 80
  newline : FnAt K 95 (inCls 11 3) "_ValueFormatter.newline" [] .none 94
  chunk : FnAt K 130 (inCls 11 8) "_ValueFormatter._append_chunk" [] .none 129
  plain : plainGet K 133 "" = true
  hd : hasDictIn K 133 = true
  over : plainOver K 133 = true
  hdc : (clsIn K 133).any (·.hasDict) = true
  sa : findIn K (.ref 133) "__setattr__" = some (some (.builtin "object.__setattr__"))
  no : ∀ n ∈ [("_maxlen" : Str), "_continuation_ws", "_continuation_ws_len", "_splitchars", "_lines", "_current_line"], findIn K (.ref 133) n = some none
  fInit : findIn K (.ref 133) "__init__" = some (some (.ref 74))
  fStr : findIn K (.ref 133) "_str" = some (some (.ref 81))
  fNewline : findIn K (.ref 133) "newline" = some (some (.ref 95))
  fChunk : findIn K (.ref 133) "_append_chunk" = some (some (.ref 130))
  keep : ∀ f ∈ [(74 : Addr), 81, 95, 130], keepIn K (.ref f) = true ∧ isFn K (.ref f) = true
  makes : makesIn K 133 = true
section
variable {Pk : Addr → Prop}
variable {T : Tabs} {K : Frag} {cd : ClassData} {mg mb : Str → Option Value} {w : World} {A : Around} {s : Shared} {g h₀ h h' : Heap} {W : List Addr} {L C : Addr} {m : Str → Option Value} {kn : List (Addr × Obj)} {R : Result → Shared → Prop} {E : Value → Shared → Prop} {prog : Program}
noncomputable def FmtEs (w : World) (es : List DictEntry) (width : Int) (l x : Addr) : Prop := ∃ (t1 t2 t3 t4 t5 t6 tm tc tcl ts : Tok), es =
  [⟨PyData.keyHash w.params "_maxlen", .str "_maxlen" t1, .int width tm⟩, ⟨PyData.keyHash w.params "_continuation_ws", .str "_continuation_ws" t2, .str " " tc⟩,
   ⟨PyData.keyHash w.params "_continuation_ws_len", .str "_continuation_ws_len" t3, .int 1 tcl⟩, ⟨PyData.keyHash w.params "_splitchars", .str "_splitchars" t4, .str " " ts⟩,
   ⟨PyData.keyHash w.params "_lines", .str "_lines" t5, .ref l⟩, ⟨PyData.keyHash w.params "_current_line", .str "_current_line" t6, .ref x⟩]
structure FmtAt (Pk : Addr → Prop) (w : World) (g h : Heap) (f df l x d : Addr) (width : Int) (lines : List Str) (ps : List (Str × Str)) (n : Int) : Prop where
  o : h.get? f = some (instObj 133 df)
  dd : ∃ es, h.get? df = some (dictOf es 6) ∧ FmtEs w es width l x
  lst : ∃ its ep, h.get? l = some { cls := .type "list", data := .seq its ep } ∧ StrsAre its.toList lines
  acc : Acc Pk w h x d ps n
  zl : g.objs.size ≤ l
  zx : g.objs.size ≤ x
  zd : g.objs.size ≤ d
theorem Acc.d {h : Heap} {x d : Addr} {ps : List (Str × Str)} {n : Int} (a : Acc Pk w h x d ps n) : ∃ tk tn, h.get? d = some (szD w tk (.int n tn)) := let ⟨_, _, _, _, a, _⟩ := a; ⟨_, _, a.d⟩
theorem Acc.o {h : Heap} {x d : Addr} {ps : List (Str × Str)} {n : Int} (a : Acc Pk w h x d ps n) : ∃ its ep, h.get? x = some (accObj 217 d its ep) := let ⟨_, _, _, _, a, _⟩ := a; ⟨_, _, a.o⟩
variable {f df l x d : Addr} {width : Int} {lines lines' : List Str} {ps ps' : List (Str × Str)} {n n' : Int}
theorem FmtAt.ne (F : FmtAt Pk w g h f df l x d width lines ps n) : f ≠ x ∧ f ≠ d ∧ f ≠ l ∧ df ≠ x ∧ df ≠ d ∧ df ≠ l ∧ l ≠ x ∧ l ≠ d := by
  obtain ⟨es, e1, e2⟩ := F.dd
  obtain ⟨its, ep, e3, _⟩ := F.lst
  obtain ⟨tk, tn, e4⟩ := F.acc.d
  obtain ⟨its', ep', e5⟩ := F.acc.o
  have e0 := F.o
  refine ⟨?_, ?_, ?_, ?_, ?_, ?_, ?_, ?_⟩
  · rintro rfl; rw [e5] at e0; cases e0
  · rintro rfl; rw [e4] at e0; cases e0
  · rintro rfl; rw [e3] at e0; cases e0
  · rintro rfl; rw [e5] at e1; cases e1
  · rintro rfl
    obtain ⟨t1, t2, t3, t4, t5, t6, tm, tc, tcl, ts, rfl⟩ := e2
    rw [e4] at e1
    have := congrArg Obj.data (Option.some.inj e1)
    simp at this
  · rintro rfl; rw [e3] at e1
    have := congrArg Obj.cls (Option.some.inj e1)
    simp at this
  · rintro rfl; rw [e5] at e3; cases e3
  · rintro rfl; rw [e4] at e3
    have := congrArg Obj.cls (Option.some.inj e3)
    simp at this
theorem FmtAt.off {I : Addr} (F : FmtAt Pk w g h f df l x d width lines ps n) (k : ∀ {b o}, h.get? b = some o → b ≠ I) : I ≠ f ∧ I ≠ df ∧ I ≠ l ∧ I ≠ x ∧ I ≠ d := by
  obtain ⟨_, e1, _⟩ := F.dd
  refine qg fun G kG => ?_
  obtain ⟨_, _, e3, _⟩ := F.lst
  refine kG ?_
  obtain ⟨_, _, e4⟩ := F.acc.d
  obtain ⟨_, _, e5⟩ := F.acc.o
  exact ⟨(k F.o).symm, (k e1).symm, (k e3).symm, (k e5).symm, (k e4).symm⟩
theorem FmtAt.ne7 (F : FmtAt Pk w g h f df l x d width lines ps n) : l ≠ x := F.ne.2.2.2.2.2.2.1
theorem FmtAt.ne8 (F : FmtAt Pk w g h f df l x d width lines ps n) : l ≠ d := F.ne.2.2.2.2.2.2.2
theorem FmtAt.line (F : FmtAt Pk w g h f df l x d width lines ps n) (S : St T g h) (mv : Mv T g W h h') (hW : ∀ b ∈ W, b = x ∨ b = d) (a : Acc Pk w h' x d ps' n') : FmtAt Pk w g h' f df l x d width lines ps' n' := by
  refine qg fun G kG => ?_
  obtain ⟨n1, n2, n3, n4, n5, n6, n7, n8⟩ := F.ne
  refine kG ?_
  refine qg fun G kG => ?_
  obtain ⟨es, e1, e2⟩ := F.dd
  refine kG ?_
  obtain ⟨its, ep, e3, e4⟩ := F.lst
  have no : ∀ b, b ≠ x → b ≠ d → b ∉ W := fun b h1 h2 hb => (hW b hb).elim h1 h2
  exact ⟨mv.keep _ _ F.o (S.notTab F.o (by nofun)) (.inl (no _ n1 n2)), ⟨es, mv.keep _ _ e1 (S.notTab e1 (by nofun)) (.inl (no _ n4 n5)), e2⟩,
    ⟨its, ep, mv.keep _ _ e3 (S.notTab e3 (by nofun)) (.inl (no _ n7 n8)), e4⟩, a, F.zl, F.zx, F.zd⟩
theorem FmtAt.mv0 (F : FmtAt Pk w g h f df l x d width lines ps n) (S : St T g h) (mv : Mv T g [] h h') : FmtAt Pk w g h' f df l x d width lines ps n :=
  F.line S mv (by exact al0) (F.acc.mv S mv (by exact ni0) (by exact ni0))
theorem FmtAt.all (F : FmtAt Pk w g h f df l x d width lines ps n) (S : St T g h) (mv : Mv T g W h h') (hW : ∀ b ∈ W, b = l ∨ b = x ∨ b = d) (hl : ∃ its ep, h'.get? l = some { cls := .type "list", data := .seq its ep } ∧ StrsAre its.toList lines')
    (a : Acc Pk w h' x d ps' n') : FmtAt Pk w g h' f df l x d width lines' ps' n' := by
  obtain ⟨n1, n2, n3, n4, n5, n6, n7, n8⟩ := F.ne
  obtain ⟨es, e1, e2⟩ := F.dd
  have no : ∀ b, b ≠ l → b ≠ x → b ≠ d → b ∉ W := fun b h0 h1 h2 hb => (hW b hb).elim h0 fun z => z.elim h1 h2
  exact ⟨mv.keep _ _ F.o (S.notTab F.o (by nofun)) (.inl (no _ n3 n1 n2)), ⟨es, mv.keep _ _ e1 (S.notTab e1 (by nofun)) (.inl (no _ n6 n4 n5)), e2⟩, hl, a, F.zl, F.zx, F.zd⟩
theorem FmtAt.inst (F : FmtAt Pk w g h f df l x d width lines ps n) : ∃ es, InstAt h f (instObj 133 df) 133 (some (dictOf es 6)) ∧ FmtEs w es width l x :=
  let ⟨es, e1, e2⟩ := F.dd; ⟨es, ⟨F.o, rfl, rfl, e1⟩, e2⟩
theorem f_line {expr : Bool} {Q : Value → Shared → Prop} (V : Fv K) (G : Gb T K mg mb g) (S : St T g s.heap) (F : FmtAt Pk w g s.heap f df l x d width lines ps n) (h : ∀ tk, Q (.ref x) { s with toks := tk }) :
    wpAny (model prog w) A (getAttr (.ref f) "_current_line" expr) Q E s := by
  obtain ⟨es, I, t1, t2, t3, t4, t5, t6, tm, tc, tcl, ts, rfl⟩ := F.inst
  exact j_attr G S I V.plain V.hd (V.no _ (by exact (mS m5))) (by rfl) (by rfl) (by rfl) (h _)
theorem f_lines {expr : Bool} {Q : Value → Shared → Prop} (V : Fv K) (G : Gb T K mg mb g) (S : St T g s.heap) (F : FmtAt Pk w g s.heap f df l x d width lines ps n) (h : ∀ tk, Q (.ref l) { s with toks := tk }) :
    wpAny (model prog w) A (getAttr (.ref f) "_lines" expr) Q E s := by
  obtain ⟨es, I, t1, t2, t3, t4, t5, t6, tm, tc, tcl, ts, rfl⟩ := F.inst
  exact j_attr G S I V.plain V.hd (V.no _ (by exact m5)) (by rfl) (by rfl) (by rfl) (h _)
theorem f_max {expr : Bool} {Q : Value → Shared → Prop} (V : Fv K) (G : Gb T K mg mb g) (S : St T g s.heap) (F : FmtAt Pk w g s.heap f df l x d width lines ps n) (h : ∀ t tk, Q (.int width t) { s with toks := tk }) :
    wpAny (model prog w) A (getAttr (.ref f) "_maxlen" expr) Q E s := by
  obtain ⟨es, I, t1, t2, t3, t4, t5, t6, tm, tc, tcl, ts, rfl⟩ := F.inst
  exact j_attr G S I V.plain V.hd (V.no _ (by exact m1)) (by rfl) (by rfl) (by rfl) (h _ _)
theorem f_split {expr : Bool} {Q : Value → Shared → Prop} (V : Fv K) (G : Gb T K mg mb g) (S : St T g s.heap) (F : FmtAt Pk w g s.heap f df l x d width lines ps n) (h : ∀ t tk, Q (.str " " t) { s with toks := tk }) :
    wpAny (model prog w) A (getAttr (.ref f) "_splitchars" expr) Q E s := by
  obtain ⟨es, I, t1, t2, t3, t4, t5, t6, tm, tc, tcl, ts, rfl⟩ := F.inst
  exact j_attr G S I V.plain V.hd (V.no _ (by exact m4)) (by rfl) (by rfl) (by rfl) (h _ _)
theorem f_meth {pl : Sem Bool} {name : Str} {a : Addr} {Q : Value × List Value → Shared → Prop} (V : Fv K) (G : Gb T K mg mb g) (S : St T g s.heap) (F : FmtAt Pk w g s.heap f df l x d width lines ps n)
    (hf : findIn K (.ref 133) name = some (some (.ref a))) (ht : isFn K (.ref a) = true) (hl : ∀ t1 t2 t3 t4 t5 t6 tm tc tcl ts, getL name
  [⟨PyData.keyHash w.params "_maxlen", .str "_maxlen" t1, .int width tm⟩, ⟨PyData.keyHash w.params "_continuation_ws", .str "_continuation_ws" t2, .str " " tc⟩,
   ⟨PyData.keyHash w.params "_continuation_ws_len", .str "_continuation_ws_len" t3, .int 1 tcl⟩, ⟨PyData.keyHash w.params "_splitchars", .str "_splitchars" t4, .str " " ts⟩,
   ⟨PyData.keyHash w.params "_lines", .str "_lines" t5, .ref l⟩, ⟨PyData.keyHash w.params "_current_line", .str "_current_line" t6, .ref x⟩] = some none) (h : Q (.ref a, [.ref f]) s) : wpAny (model prog w) A (getMethod (.ref f) name pl) Q E s := by
  obtain ⟨es, I, t1, t2, t3, t4, t5, t6, tm, tc, tcl, ts, rfl⟩ := F.inst
  exact j_meth G S I V.plain hf ht (hl _ _ _ _ _ _ _ _ _ _) h
theorem ne_pair {t₁ t₂ : Addr} {a b c e : Str} {ta tb tc te : Tok} {Q : Value → Shared → Prop} (r : Rm A 0) (h1 : s.heap.get? t₁ = some (tupObj [.str a ta, .str b tb])) (h2 : s.heap.get? t₂ = some (tupObj [.str c tc, .str e te]))
    (h : Q (.bool (!(a == c && b == e))) s) : wpAny (model prog w) A (compareOp .NotEq (.ref t₁) (.ref t₂)) Q E s := by
  have h1' : s.heap.IsTuple t₁ #[.str a ta, .str b tb] := ⟨_, h1, rfl, 0, rfl⟩
  have h2' : s.heap.IsTuple t₂ #[.str c tc, .str e te] := ⟨_, h2, rfl, 0, rfl⟩
  refine PySem.SeqAt.RcNeAt.tuples (e := fun j => if j = 0 then a == c else b == e) h1' h2' r.room (fun j j1 j2 => ?_) prog w E Q ?_
  · match j with
    | 0 => exact PySem.SeqAt.EqAt.str_str a ta c tc
    | 1 => exact PySem.SeqAt.EqAt.str_str b tb e te
    | j + 2 => exact absurd j1 (by simp)
  · have : ((List.range (min (#[Value.str a ta, .str b tb] : Array Value).size (#[Value.str c tc, .str e te] : Array Value).size)).all (fun j => if j = 0 then a == c else b == e) && (#[Value.str a ta, .str b tb] : Array Value).size == (#[Value.str c tc, .str e te] : Array Value).size) = (a == c && b == e) := by
      simp [List.range_succ]
    rw [this]
    exact h
theorem All2.snoc {α β : Type} {P : α → β → Prop} {l : List α} {l' : List β} {b : β} (p : All2 P l (l' ++ [b])) : ∃ l₀ a, l = l₀ ++ [a] ∧ All2 P l₀ l' ∧ P a b := by
  induction l' generalizing l with
  | nil =>
    cases p with
    | cons h t => cases t; exact ⟨[], _, rfl, .nil, h⟩
  | cons c l' ih =>
    cases p with
    | cons h t =>
      refine qg fun G kG => ?_
      obtain ⟨l₀, a, e, q, r⟩ := ih t
      refine kG ?_
      exact ⟨_ :: l₀, a, by rw [e]; rfl, .cons h q, r⟩
theorem acc_meth {pl : Sem Bool} {name : Str} {a : Addr} {Q : Value × List Value → Shared → Prop} (G : Gb T K mg mb g) (X : Fx K cd) (S : St T g s.heap) (ha : Acc Pk w s.heap x d ps n)
    (hf : findIn K (.ref 217) name = some (some (.ref a))) (ht : isFn K (.ref a) = true) (h : Q (.ref a, [.ref x]) s) (hl : ∀ tk tn, getL name [⟨PyData.keyHash w.params "_initial_size", .str "_initial_size" tk, .int n tn⟩] = some none := by intro _ _; rfl) : wpAny (model prog w) A (getMethod (.ref x) name pl) Q E s := by
  obtain ⟨its, ep, tk, tn, a', _⟩ := ha
  exact a_meth G X S a' hf ht h (hl _ _)
theorem pop_acc {p : Str × Str} (G : Gb T K mg mb g) (X : Fx K cd) (S : St T g s.heap) (r : Rm A 3) (ha : Acc Pk w s.heap x d (ps ++ [p]) n) (hxg : g.objs.size ≤ x) (hsz : ps.length ≤ 1000)
   (hR : ∀ v h' tk, Mv T g [x] s.heap h' → Acc Pk w h' x d ps n → IsPair Pk h' v p → R (.ok (.ret v)) { s with heap := h', toks := tk }) :
   codeAny (model PR w) A (.call (.ref 177) ⟨[.ref x], []⟩) R s := by
  obtain ⟨its, ep, tk, tn, a, hp⟩ := ha
  obtain ⟨l₀, v, e, q, r'⟩ := All2.snoc hp
  have ei : its = l₀.toArray.push v := by
    apply Array.ext'
    rw [e]
    simp
  subst ei
  have hlen : l₀.toArray.size = ps.length := by rw [List.size_toArray, q.len]
  refine pop_spec G X S r a hxg (by lia) fun h' t' mv e' => ?_
  have hd := mv.keep _ _ a.d (S.notTab a.d (by nofun)) (.inl (by simpa using a.ne.symm))
  exact hR v h' t' mv ⟨_, _, _, _, ⟨e', hd⟩, by simpa using Parts.mv q S mv⟩ (r'.mv S mv)
theorem push_acc {a b : Str} {ta tb : Tok} (G : Gb T K mg mb g) (X : Fx K cd) (S : St T g s.heap) (r : Rm A 1) (hPk : ∀ t, s.heap.get? t = none → Pk t) (ha : Acc Pk w s.heap x d ps n) (hxg : g.objs.size ≤ x) (hsz : ps.length ≤ 1000)
   (hR : ∀ h' tk, Mv T g [x] s.heap h' → Acc Pk w h' x d (ps ++ [(a, b)]) n → R (.ok (.ret .none)) { s with heap := h', toks := tk }) :
   codeAny (model PR w) A (.call (.ref 161) ⟨[.ref x, .str a ta, .str b tb], []⟩) R s := by
  obtain ⟨its, ep, tk, tn, ac, hp⟩ := ha
  have hlen : its.size = ps.length := by rw [← hp.len, Array.length_toList]
  refine push_spec G X S r ac hxg (by lia) fun t h' t' mv e' e2 hnt => ?_
  have hd := mv.keep _ _ ac.d (S.notTab ac.d (by nofun)) (.inl (by simpa using ac.ne.symm))
  refine hR h' t' mv ⟨_, _, _, _, ⟨e', hd⟩, ?_⟩
  rw [Array.toList_push]
  exact All2.append (Parts.mv hp S mv) (.cons ⟨⟨t, hPk t hnt⟩, ta, tb, rfl, e2⟩ .nil)
theorem count_acc (G : Gb T K mg mb g) (X : Fx K cd) (S : St T g s.heap) (r : Rm A 1) (ha : Acc Pk w s.heap x d ps n)
   (hR : ∀ h' tk tk', Mv T g [] s.heap h' → R (.ok (.ret (.int ps.length tk))) { s with heap := h', toks := tk' }) :
   codeAny (model PR w) A (.call (.ref 214) ⟨[.ref x], []⟩) R s := by
  obtain ⟨its, ep, tk, tn, ac, hp⟩ := ha
  have hlen : its.size = ps.length := by rw [← hp.len, Array.length_toList]
  exact count_spec G X S r ac.o fun h' t t' mv => by rw [hlen]; exact hR h' t t' mv
end
end Mine
end
section
open PySem PySem.W PySem.Calls PyProof.Rows Builtin Builtin.ObjectAttr
namespace Mine
noncomputable def Pops (qs ps : List (Str × Str)) (p : Str × Str) : Prop := qs = ps ++ [p] ∨ qs = [] ∧ ps = [] ∧ p = (("" : Str), ("" : Str))
section
variable {T : Tabs} {K : Frag} {cd : ClassData} {mg mb : Str → Option Value} {w : World} {A : Around} {s : Shared} {g h₀ h h' : Heap} {W : List Addr} {L C : Addr} {m : Str → Option Value} {kn : List (Addr × Obj)} {R : Result → Shared → Prop} {E : Value → Shared → Prop} {prog : Program}
variable {x d : Addr} {qs ps : List (Str × Str)} {n : Int} {Pk : Addr → Prop}
theorem none_back {b : Addr} (mv : Mv T g W h h') (e : h'.get? b = none) : h.get? b = none := by
  cases q : h.get? b with
  | none => rfl
  | some o =>
    obtain ⟨o', e'⟩ := mv.there b o q
    rw [e] at e'; cases e'
noncomputable abbrev anyA : Addr → Prop := fun _ => True
theorem IsPair.any {v : Value} {p : Str × Str} (a : IsPair Pk h v p) : IsPair anyA h v p := by
  obtain ⟨t, ta, tb, e, b⟩ := a
  exact ⟨⟨t.1, trivial⟩, ta, tb, e, b⟩
theorem pop_accG {p : Str × Str} (hq : Pops qs ps p) (G : Gb T K mg mb g) (X : Fx K cd) (S : St T g s.heap) (r : Rm A 3) (ha : Acc Pk w s.heap x d qs n) (hxg : g.objs.size ≤ x) (hsz : ps.length ≤ 1000)
   (hR : ∀ v h' tk, Mv T g [x] s.heap h' → Acc Pk w h' x d ps n → IsPair anyA h' v p → R (.ok (.ret v)) { s with heap := h', toks := tk }) :
   codeAny (model PR w) A (.call (.ref 177) ⟨[.ref x], []⟩) R s := by
  rcases hq with rfl | ⟨rfl, rfl, rfl⟩
  · exact pop_acc G X S r ha hxg hsz fun v h' tk mv a ip => hR v h' tk mv a ip.any
  obtain ⟨its, ep, tk, tn, a, hp⟩ := ha
  obtain rfl : its = #[] := by
    have := hp.len
    rw [Array.length_toList] at this
    exact Array.eq_empty_of_size_eq_zero this
  refine pop0_spec G X S r a fun t ta tb h' tk' mv e => ?_
  exact hR _ h' tk' ⟨mv.st, fun b o e ht _ => mv.keep b o e ht (.inl (by exact ni0)), mv.there⟩ ⟨_, _, _, _, a.mv S mv (by exact ni0) (by exact ni0), .nil⟩ ⟨⟨t, trivial⟩, ta, tb, rfl, e⟩
end
end Mine
end
section
open PySem PySem.W PySem.Calls PyProof.Rows Builtin Builtin.ObjectAttr
namespace Mine
section
variable {Pk : Addr → Prop}
variable {T : Tabs} {K : Frag} {cd : ClassData} {mg mb : Str → Option Value} {w : World} {A : Around} {s : Shared} {g h₀ h h' : Heap} {W W' : List Addr} {L C : Addr} {m : Str → Option Value} {kn : List (Addr × Obj)} {R : Result → Shared → Prop} {E : Value → Shared → Prop} {prog : Program}
variable {f df l x d : Addr} {width : Int} {lines lines' : List Str} {ps ps' : List (Str × Str)} {n n' : Int}
theorem oga_eq2 (self : Value) (name : Str) (tk : Tok) : ∃ k : Builtin.ObjectAttr.Found → Value → Sem Fin, (∀ g a tp, k (.bind g a) tp = bindTo g a self tp) ∧ Builtin.«object.__getattribute__» ⟨[self, .str name tk], []⟩ = (typeOf self >>= fun tp => find self tp name >>= fun r => k r tp) :=
  ⟨_, fun _ _ _ => rfl, rfl⟩
theorem bindTo_eq (g : String) (a x C : Addr) : bindTo (.builtin g) (.ref a) (.ref x) (.ref C) = (holding [.ref a] (call (.builtin g) [.ref a, .ref x, .ref C]) >>= ret) := rfl
theorem a_bound {expr : Bool} {name : Str} {p : Addr} {Q : Value → Shared → Prop} (G : Gb T K mg mb g) (X : Fx K cd) (S : St T g s.heap) (ha : Acc Pk w s.heap x d ps n)
    (hf : findIn K (.ref 217) name = some (some (.ref p))) (ht : isFn K (.ref p) = true) (hfo : ∀ od, findObj K 217 od name = findObj K 217 od name)
    (hb : ∀ tk tn, findObj K 217 (some (szD w tk (.int n tn))) name = some (.bind (.builtin "function.__get__") (.ref p)))
    (h : ∀ q h' t', (h' = s.heap.push (methodObj (.ref p) (.ref x))) → q = s.heap.objs.size → Q (.ref q) { s with heap := h', toks := t' }) : wpAny (model prog w) A (getAttr (.ref x) name expr) Q E s := by
  obtain ⟨its, ep, tk, tn, a, _⟩ := ha
  have Y := S.In G
  have I := a.inst
  have f0 := hb tk tn
  have LL := LstAt.acc (M := model prog w) Y X.supC.lst a.o
  have hi := LL.inst
  obtain ⟨hh, gg, dd, t, os⟩ := s
  dsimp only at Y I hi
  have L0 := I.type (M := model prog w)
  have L1 := looks_findIn (M := model prog w) Y X.ga
  have L2 := looks_findIn (M := model prog w) Y X.gt
  have L3 := looks_find (M := model prog w) Y I f0
  unfold getAttr getAttrBy
  refine wpAny_bind (wpAny_mkText (wpAny_holding (wpAny_bind (L0.at (wpAny_bind (L1.at ?_))))))
  show wpAny _ _ (getAttrByItsOwn _ _ (.ref 217) (.builtin "list.__getattribute__") true expr) _ _ _
  unfold getAttrByItsOwn
  refine wpAny_bind (m := hookBefore (.ref 217)) ?_
  show wpAny _ _ (typeLookup (.ref 217) "__getattr__") _ _ _
  refine L2.at ?_
  refine wpAny_bind (wpAny_attempt (wpAny_holding ?_))
  have e1 : callGetattribute (.ref x) (.str name t) (.builtin "list.__getattribute__") expr = boundAndCalled (.builtin "list.__getattribute__") (.ref x) (.str name t) := by
    cases expr <;> rfl
  rw [e1]
  unfold boundAndCalled
  rw [slot_lga.bind]
  refine wpAny_bind (wpAny_pure ?_)
  refine wpAny_call (codeAny_call_builtin slot_lga.plain entry_lga (check_slot (s := ⟨hh, gg, dd, t + 1, os⟩) (i := "list.__getattribute__") (owner := "list") (n := "__getattribute__") (self := .ref x) (rest := [.str name t]) (kw := []) kind_lga split_lga hi (by exact args_lga _ _) ?_))
  obtain ⟨k, hk, e⟩ := oga_eq2 (.ref x) name t
  rw [show ([Value.ref x] ++ [Value.str name t]) = [.ref x, .str name t] from rfl, e]
  refine wpAny_bind (L0.at (wpAny_bind (L3.at ?_)))
  rw [hk, bindTo_eq]
  refine wpAny_bind (wpAny_holding (wpAny_call (fn_get (s := ⟨hh, gg, dd, t + 1, os⟩) Y (beq_iff_eq.mp ht) ?_)))
  refine wpAny_pure ?_
  show wpAny _ _ (handedOut (.ref _)) _ _ _
  rw [handedOut_of rfl]
  exact wpAny_pure (h _ _ _ rfl rfl)
end
end Mine
end
section
open PySem PySem.W PySem.Calls PyProof.Rows Builtin Builtin.ObjectAttr
namespace Mine
structure Fx2 (K : Frag) : Prop where
  makes : makesL K 217 = true
  sgPush : specialIn K (.ref 161) "__get__" = some (some (.builtin "function.__get__"))
  tkPush : takesIn K (.ref 161) = some false
section
variable {Pk : Addr → Prop}
variable {T : Tabs} {K : Frag} {cd : ClassData} {mg mb : Str → Option Value} {w : World} {A : Around} {s : Shared} {g h₀ h h' : Heap} {W W' : List Addr} {L C : Addr} {m : Str → Option Value} {kn : List (Addr × Obj)} {R : Result → Shared → Prop} {E : Value → Shared → Prop} {prog : Program}
variable {f df l x d : Addr} {width : Int} {lines lines' : List Str} {ps ps' : List (Str × Str)} {n n' : Int}
theorem bind_push (X : Fx K cd) (Y : Fx2 K) (tk tn : Tok) : findObj K 217 (some (szD w tk (.int n tn))) "push" = some (.bind (.builtin "function.__get__") (.ref 161)) := by
  unfold findObj
  rw [X.supC.cls, Option.bind_some, X.fPush, Option.bind_some]
  dsimp only
  rw [Y.sgPush, Option.bind_some]
  dsimp only
  rw [Y.tkPush, Option.bind_some]
  dsimp only
  have e : PySem.W.ownOf cd (some (szD w tk (.int n tn))) "push" = some none := by
    unfold PySem.W.ownOf
    rw [X.hd]
    first | rfl | (rw [lookIn_dict]; rfl) | (simp; rw [lookIn_dict]; rfl)
  rw [e, Option.bind_some]
  rw [X.mro]
  rfl
theorem fnIn_of {a : Addr} {st : Stmt} {qual : Str} {cl : List (Str × Addr)} {dV : Value} {cda : Addr} (h : FnAt K a st qual cl dV cda) : fnIn K a = true := by
  refine qg fun G kG => ?_
  obtain ⟨oc, od, osl, name, kV, doc, pm, an, ct, ho, _⟩ := h
  refine kG ?_
  unfold fnIn
  rw [ho]
theorem callWith_star {P : Heap → Prop} {f : Value} {pos : Pos} {first : List Value} {x : Sem Value} {Q : Value → Shared → Prop} (hk : ∀ h, P h → ∃ k, (k = Keeper.frame ∨ k = Keeper.machine ∨ k = Keeper.boundFrame) ∧ Looks (model prog w) h (keeperOf f) k)
    (h : wpAny (model prog w) A x (fun v s₁ => ∃ t items, v = .ref t ∧ s₁.heap.get? t = some (tupObj items) ∧ items.length ≤ 1000 ∧
      ∀ h', (∀ b o, s₁.heap.get? b = some o → h'.get? b = some o) → P h' ∧ wpAny (model prog w) A (call f (first ++ items)) Q E { s₁ with heap := h' }) E s) :
    wpAny (model prog w) A (callWith pos f first [(true, x)] []) Q E s := by
  unfold callWith evalArgs
  refine wpAny_bind (wpAny_holding (wpAny_bind (wpAny_mono h (fun v s₁ h₁ => ?_) fun _ _ z => z)))
  refine qg fun G kG => ?_
  obtain ⟨t, items, rfl, ht, hl, h₂⟩ := h₁
  refine kG ?_
  have hT : s₁.TypeIs (.ref t) "tuple" := ⟨_, ht, rfl⟩
  refine wpAny_bind (wpAny_pure (wpAny_holding ?_))
  refine wpAny_bind (wpAny_pure ?_)
  refine wpAny_bind (wpAny_bind ?_)
  show wpAny _ _ (notIterableAtAll (.ref t)) _ _ s₁
  unfold notIterableAtAll
  refine wpAny_bind (wpAny_specialOf hT PySem.F.slot_tuple_iter.lookup ?_)
  refine wpAny_pure ?_
  refine wf (by decide) ?_
  refine wpAny_holding (wpAny_collect_seq t (.inr rfl) ht rfl rfl (fun h' k => ?_) (by rw [List.size_toArray, sizeLine_eq]; exact Nat.le_trans (by assumption) (by decide)))
  obtain ⟨hK, hc⟩ := h₂ h' k
  refine wpAny_pure (wpAny_bind (wpAny_standAt ?_))
  obtain ⟨k, hkk, LK⟩ := hk _ hK
  refine wpAny_bind (LK.here (s := { s₁ with heap := h' }) ?_)
  have tail : ∀ {t : Sem Value}, wpAny (model prog w) A t Q E { s₁ with heap := h' } → wpAny (model prog w) A (t >>= fun r => holding [r] point >>= fun _ => pure r) Q E { s₁ with heap := h' } :=
    fun ht => wpAny_bind (wpAny_mono ht (fun r s₂ hr => wpAny_bind (wpAny_holding (wpAny_point (wpAny_pure hr)))) fun _ _ x => x)
  have marked (mk : Value) : wpAny (model prog w) A (callMarked mk f (first ++ items) []) Q E { s₁ with heap := h' } := by unfold callMarked; exact Calls.wpAny_keep hc
  rcases hkk with rfl | rfl | rfl
  · exact tail (marked _)
  · exact tail (wpAny_operateT hc)
  · exact tail (wpAny_operateT hc)
theorem StarCall_ {env : Env} {o e : Expr} {name : Str} {apos pos sp : Pos} {Q : Value → Shared → Prop}
    (h : wpAny (model prog w) A (eval o env) (fun ov s₁ => wpAny (model prog w) A (getAttr ov name true) (fun fv s₂ => wpAny (model prog w) A (callWith pos fv [] (backTo pos [(true, eval e env)]) []) Q E s₂) E s₁) E s)
    (he : eval (.Call (.Attribute o name apos) [.Starred e sp] [] pos) env = (do
      let ov ← eval o env
      standAt apos.atName
      let (f, first) ← holding [ov] (do pure (← getAttr ov name true, []))
      callWith pos f first (backTo pos [(true, eval e env)]) []) := by rfl) :
    wpAny (model prog w) A (eval (.Call (.Attribute o name apos) [.Starred e sp] [] pos) env) Q E s := by
  rw [he]
  refine wpAny_bind (wpAny_mono h (fun ov s₁ h₁ => wpAny_bind (wpAny_standAt (wpAny_bind (wpAny_holding (wpAny_bind (wpAny_mono h₁ (fun fx s₂ h₂ => wpAny_pure ?_) fun _ _ x => x)))))) fun _ _ x => x)
  exact h₂
theorem J.callK (j : J T g W h₀ L h m kn) (mv : Mv T g W' h h') (hL : L ∉ W') (hW : ∀ b ∈ W', b ∈ W ∨ h₀.get? b = none) (hk : ∀ p ∈ kn, p.1 ∉ W') : J T g W h₀ L h' m kn :=
  j.call mv hL hW kn ⟨fun p hp => ⟨mv.keep _ _ (j.has p hp).1 (j.has p hp).2.2.1 (.inl (hk p hp)), (j.has p hp).2.2⟩, j.nd⟩ fun p hp => (j.has p hp).2.1
theorem J.neL (j : J T g W h₀ L h m kn) {b : Addr} {o : Obj} (e : h₀.get? b = some o) : b ≠ L := by
  rintro rfl
  rw [j.Ln] at e
  cases e
theorem j_callK {qual : Str} {st : Stmt} {cl : List (Str × Addr)} {dV : Value} {f c : Addr} {args : Args} {binds : List (Str × Value)}
    (W : List Addr) (kn : List (Addr × Obj)) (G : Gb T K mg mb g) (S : St T g s.heap) (hkn : Kn T g s.heap kn)
    (fa : FnAt K f st qual cl dV c) (hroom : A.depth < recursionLimit)
    (hbind : ∀ name kV doc pm an ct, BindsTo s (fnX name qual (fArgs st) (fBody st) (fScope st) cl dV kV doc pm an (.ref c) ct) args binds) (hloc : ∀ y ∈ binds, (fScope st).names.lookup y.1 = some .local)
    (hcell : ∀ x ∈ (fScope st).names, x.2 ≠ .cell)
    (h : ∀ L h₁ tk, J T g W s.heap L h₁ (fun y => binds.reverse.lookup y) kn → Mv T g [] s.heap h₁ →
      wpAny (model prog w) (A.deeper (envX qual (fScope st) L f (.ref c) cl)) (execs (fBody st) (envX qual (fScope st) L f (.ref c) cl))
        (fun fl s' => R (.ok (.ret (match fl with | .ret v => v | _ => .none))) s') (fun _ _ => False) { s with heap := h₁, toks := tk })
    (hco : (fScope st).isCoroutine = false) (hgen : (fScope st).isGenerator = false) (hk : (fScope st).kind = .function) : codeAny (model prog w) A (.call (.ref f) args) R s := by
  obtain ⟨oc, od, osl, name, kV, doc, pm, an, ct, ho, hcd⟩ := fa
  have X := S.In G
  refine codeAny_call_def (fd := fnX name qual (fArgs st) (fBody st) (fScope st) cl dV kV doc pm an (.ref c) ct) (body := (fBody st)) (binds := binds) hroom (X _ _ ho) rfl (G.nolim.elim fun mc x => ⟨mc, S.ns x.1 G.k3, x.2⟩) (codeRec_of X hcd) rfl (hbind _ _ _ _ _ _) hcell hloc (fun h₁ hns hk₁ => ?_) hco hgen hk
  refine qg fun G kG => ?_
  obtain ⟨oL, es, n, hL, r⟩ := id hns
  refine kG ?_
  have hle : s.heap.objs.size ≤ h₁.objs.size := Nat.le_of_lt (Heap.lt_size hL)
  have notT : ∀ {b : Addr}, s.heap.objs.size ≤ b → b ∉ T.map (·.2) := fun {b} hb hm => by
    obtain ⟨q, hq, e⟩ := List.mem_map.mp hm
    obtain ⟨ps, ps₀, x, y, z⟩ := S.tab q hq
    have := Heap.lt_size y.2
    rw [e] at this
    exact absurd this (Nat.not_lt.mpr hb)
  refine wpAny_mono (h s.heap.objs.size h₁ _ ⟨⟨S.keeps hk₁ hle, fun b o e _ _ => hk₁ b o e, fun b o e => ⟨o, hk₁ b o e⟩⟩, hns, notT (Nat.le_refl _), ?_, S.le, fun p hp => ⟨hk₁ _ _ (hkn.1 p hp).1, Nat.ne_of_lt (Heap.lt_size (hkn.1 p hp).1), (hkn.1 p hp).2⟩, hkn.2, S⟩ ⟨S.keeps hk₁ hle, fun b o e _ _ => hk₁ b o e, fun b o e => ⟨o, hk₁ b o e⟩⟩) (fun _ _ x => x) fun _ _ x => x.elim
  cases q : s.heap.get? s.heap.objs.size with
  | none => rfl
  | some o => exact absurd (Heap.lt_size q) (Nat.lt_irrefl _)
theorem gt_int' {a b : Int} {t u : Tok} {Q : Value → Shared → Prop} (h : Q (.bool (decide (a > b))) s) : wpAny (model prog w) A (compareOp .Gt (.int a t) (.int b u)) Q E s := by
  exact PySem.P.gt_int h
theorem FmtAt.out (F : FmtAt Pk w g h f df l x d width lines ps n) (S : St T g h) (mv : Mv T g W h h') (hW : ∀ b ∈ W, b ≠ f ∧ b ≠ df ∧ b ≠ l ∧ b ≠ x ∧ b ≠ d) : FmtAt Pk w g h' f df l x d width lines ps n := by
  have no : ∀ b, (b = f ∨ b = df ∨ b = l ∨ b = x ∨ b = d) → b ∉ W := fun b hb hm => by
    obtain ⟨a1, a2, a3, a4, a5⟩ := hW b hm
    rcases hb with q | q | q | q | q
    · exact a1 q
    · exact a2 q
    · exact a3 q
    · exact a4 q
    · exact a5 q
  obtain ⟨es, e1, e2⟩ := F.dd
  obtain ⟨its, ep, e3, e4⟩ := F.lst
  exact ⟨mv.keep _ _ F.o (S.notTab F.o (by nofun)) (.inl (no _ (by exact .inl rfl))), ⟨es, mv.keep _ _ e1 (S.notTab e1 (by nofun)) (.inl (no _ (by exact .inr (.inl rfl)))), e2⟩,
    ⟨its, ep, mv.keep _ _ e3 (S.notTab e3 (by nofun)) (.inl (no _ (by exact .inr (.inr (.inl rfl))))), e4⟩, F.acc.mv S mv (no _ (by exact .inr (.inr (.inr (.inl rfl))))) (no _ (by exact .inr (.inr (.inr (.inr rfl))))), F.zl, F.zx, F.zd⟩
theorem St.keepsL (S : St T g h) (k : ∀ b o, h.get? b = some o → h'.get? b = some o) (hl : g.objs.size ≤ h'.objs.size) : St T g h' := by
  refine ⟨S.old.step_keeps k, fun b o' e ht => k _ _ (S.keep b o' e ht), fun p hp => ?_, hl⟩
  refine qg fun G kG => ?_
  obtain ⟨ps, ps₀, a, b, c⟩ := S.tab p hp
  refine kG ?_
  exact ⟨ps, ps₀, a.keeps k, b.keeps k, c⟩
theorem J.keepsL (j : J T g W h₀ L h m kn) (k : ∀ b o, h.get? b = some o → h'.get? b = some o) : J T g W h₀ L h' m kn ∧ Mv T g [] h h' := by
  refine qg fun G kG => ?_
  obtain ⟨oL, es, n, e, r⟩ := j.ns
  refine kG ?_
  have S' := j.mv.st.keepsL k (Nat.le_of_lt (Nat.lt_of_le_of_lt j.Lg (Heap.lt_size (k _ _ e))))
  exact ⟨⟨⟨S', fun b o e ht hb => k _ _ (j.mv.keep b o e ht hb), fun b o e => let ⟨o₁, e₁⟩ := j.mv.there b o e; ⟨o₁, k _ _ e₁⟩⟩, ⟨oL, es, n, k _ _ e, r⟩, j.Lt, j.Ln, j.Lg, fun p hp => ⟨k _ _ (j.has p hp).1, (j.has p hp).2⟩, j.nd, j.s0⟩,
    S', fun b o e _ _ => k _ _ e, fun b o e => ⟨o, k _ _ e⟩⟩
theorem Mv.push (S : St T g h) (o : Obj) : Mv T g [] h (h.push o) := ⟨S.push o, fun b o' e _ _ => Heap.get?_push_of_some _ e, fun b o' e => ⟨o', Heap.get?_push_of_some _ e⟩⟩
theorem j_newTupleK {vs : List Value} {Q : Value → Shared → Prop} (j : J T g W h₀ L s.heap m kn)
    (h : ∀ a h', J T g W h₀ L h' m ((a, tupObj vs) :: kn) → Mv T g [] s.heap h' → Q (.ref a) { s with heap := h' }) (hsz : vs.length ≤ sizeLine := by size_fits) :
    wpAny (model prog w) A (newTuple vs) Q E s := wpAny_newObj_type (h _ _ (j.push _ rfl) (Mv.push j.mv.st _)) (by show vs.toArray.size ≤ sizeLine; rw [List.size_toArray]; exact hsz)
theorem j_newListK {vs : List Value} {Q : Value → Shared → Prop} (j : J T g W h₀ L s.heap m kn)
    (h : ∀ a h', J T g W h₀ L h' m ((a, ({ cls := .type "list", data := .seq vs.toArray } : Obj)) :: kn) → Mv T g [] s.heap h' → h₀.get? a = none → Q (.ref a) { s with heap := h' }) (hsz : vs.length ≤ sizeLine := by size_fits) :
    wpAny (model prog w) A (newList vs) Q E s := wpAny_newObj_type (h _ _ (j.push _ rfl) (Mv.push j.mv.st _) j.new) (by show vs.toArray.size ≤ sizeLine; rw [List.size_toArray]; exact hsz)
theorem mapSeq_lst (its new : Array Value) (ep : Nat) (f : Array Value → Array Value) (e : f its = new) : ∃ ep', Obj.mapSeq f ({ cls := .type "list", data := .seq its ep } : Obj) = { cls := .type "list", data := .seq new ep' } := by
  subst e
  exact ⟨_, rfl⟩
theorem J.updMv (j : J T g W h₀ L h m kn) {a : Addr} {o o' : Obj} {f : Obj → Obj} (hm : (a, o) ∈ kn) (hc : o.cls ≠ .type "tuple") (e : f o = o') (hf : o'.isFreed = false) : Mv T g [a] h (h.update a f) := by
  have z := j.has _ hm
  have hs : Heap.SameBut a h (h.update a f) := Heap.SameBut.update ..
  refine ⟨j.mv.st.same z.2.2.2 hs, fun b ob eb ht hb => (hs.2 b fun q => ?_).trans eb, fun b ob eb => ?_⟩
  · subst q
    rw [z.1] at eb
    cases eb
    rcases hb with hb | hb
    · exact hb (.head _)
    · exact hc hb.1
  · by_cases q : b = a
    · subst q
      refine ⟨o', ?_⟩
      have := Heap.get?_update_self f z.1 (by rw [e]; exact hf)
      rw [this, e]
    · exact ⟨ob, (hs.2 b q).trans eb⟩
theorem strs_snoc {vs : List Value} {ys : List Str} {y : Str} {t : Tok} (h : StrsAre vs ys) : StrsAre (vs ++ [.str y t]) (ys ++ [y]) := by
  induction h with
  | nil => exact .cons _ _ .nil
  | cons y t _ ih => exact .cons y t ih
theorem StrsAre.len {vs : List Value} {ys : List Str} (h : StrsAre vs ys) : vs.length = ys.length := by
  induction h with
  | nil => rfl
  | cons y t _ ih => simp [ih]
theorem bind_reset0 {s : Shared} {K : Frag} {cd : ClassData} (X : Fx K cd) (Y : K.In s.heap) (x : Addr) (fd : FuncData) (h1 : fd.params = fArgs (inCls 12 6)) (h2 : fd.defaults = .ref 192) : BindsTo s fd ⟨[.ref x], []⟩ [("self", .ref x), ("startval", .none)] := by
  obtain ⟨d, n, sl, e⟩ := X.d170
  obtain ⟨a1, a2, a3, a4, a5, a6, a7, a8, a9, a10, a11, a12, a13, a14⟩ := fd
  dsimp only at h1 h2
  subst h1 h2
  exact BindsTo.of_defaults rfl (Y _ _ e) rfl rfl rfl
theorem newline_spec {p : Str × Str} {qs : List (Str × Str)} (hqs : Pops qs ps p) (V : Fv K) (X : Fx K cd) (X2 : Fx2 K) (G : Gb T K mg mb g) (GM : Gm mg) (S : St T g s.heap) (r : Rm A 8) (hPk : ∀ t, s.heap.get? t = none → Pk t) (hT : (183, 179) ∈ T) (hT2 : (190, 186) ∈ T)
   (F : FmtAt Pk w g s.heap f df l x d width lines qs n) (hz : Small (ps ++ [p])) (hn0 : 0 ≤ n) (hn1 : n ≤ 1000000) (hll : lines.length ≤ 1000)
   (hp : (p.1 == " " && p.2 == "") = false) (ho : onlyB (ps ++ [p]) n = false) (hpos : 0 < n + plen (ps ++ [p])) (hup : plen (ps ++ [p]) ≤ 10000000)
   (hR : ∀ s', Mv T g [l, x, d] s.heap s'.heap → Ok s s' → FmtAt Pk w g s'.heap f df l x d width (lines ++ [ptext (ps ++ [p])]) [] 0 → R (.ok (.ret .none)) s') :
   codeAny (model PR w) A (.call (.ref 95) ⟨[.ref f], []⟩) R s := by
  obtain ⟨its, ep, hl, hli⟩ := F.lst
  have hpsl : ps.length ≤ 999 := by have := hz.2; simp at this; omega
  refine' j_callK (binds := [("self", .ref f)]) [l, x, d] [(l, ({ cls := .type "list", data := .seq its ep } : Obj))] G S ?hkn V.newline r.lt (fun _ _ _ _ _ _ => BindsTo.of_eq rfl) (locs rfl) (by decide) ?_ rfl rfl rfl
  case hkn => exact ⟨fun q hq => by rw [List.mem_singleton.mp hq]; exact ⟨hl, S.notTab hl (by nofun), F.zl⟩, by exact nd1⟩
  intro L h₁ t₁ j mv₁
  have nL := F.off (I := L) j.neL
  have xL := nL.2.2.2.1
  have dL := nL.2.2.2.2
  have lL := nL.2.2.1
  have rr := r.deeper (env := envX "_ValueFormatter.newline" (fScope (inCls 11 3)) L 95 (.ref 94) [])
  have F₁ := F.mv0 S mv₁
  refine xc fun _ hn => wpAny_Assign_Name (vc fun _ hv => MethodCall_ (Attribute_name ?_))
  refine j_local (s := { s with heap := h₁, toks := t₁ }) j rfl ?_
  refine f_line (s := { s with heap := h₁, toks := t₁ }) V G j.mv.st F₁ fun t₂ => ?_
  refine acc_meth (s := { s with heap := h₁, toks := t₂ }) G X j.mv.st F₁.acc X.fPop (X.keep 177 (by decide)).2 ?_
  refine j_callWith0 (s := { s with heap := h₁, toks := t₂ }) G j.mv.st (X.keep 177 (by decide)).1 (wpAny_call ?_)
  refine pop_accG hqs (s := { s with heap := h₁, toks := t₂ }) G X j.mv.st (rr.mono (by decide)) F₁.acc F.zx (by exact Nat.le_succ_of_le hpsl) fun v h₂ t₃ mv₂ a₂ ip => ?_
  have j₂ := j.callK mv₂ (by exact ni1 xL) (by exact al1 (.inl m2)) (by exact al1 (ni1 F.ne7))
  have F₂ := F₁.line j.mv.st mv₂ (by exact al1 (.inl rfl)) a₂
  refine hv _ { s with heap := h₂, toks := t₃ } ?_
  refine j_storeK (s := { s with heap := h₂, toks := t₃ }) j₂ fun h₃ t₄ j₃ mv₃ => ?_
  have F₃ := F₂.out j₂.mv.st mv₃ (by exact al1 nL)
  obtain ⟨t, ta, tb, rfl, ht⟩ := ip.mv j₂.mv.st mv₃
  refine hn { s with heap := h₃, toks := t₄ } ?_
  refine xc fun _ hn => wpAny_If (wpAny_isTrue_Compare1 ?_)
  refine j_local (s := { s with heap := h₃, toks := t₄ }) j₃ rfl ?_
  refine Tuple_ (args_cons (Constant_str (args_cons (Constant_str (args_nil ?_)))))
  refine j_newTupleK (s := { s with heap := h₃, toks := t₄ + 1 + 1 }) j₃ fun q h₄ j₄ mv₄ => ?_
  have F₄ := F₃.mv0 j₃.mv.st mv₄
  have ht₄ := mv₄.keep _ _ ht (j₃.mv.st.notTab ht (by nofun)) (.inl (by exact ni0))
  refine ne_pair (s := { s with heap := h₄, toks := t₄ + 1 + 1 }) (rr.mono (by decide)) ht₄ (j₄.get (.head _)) (wpAny_truthy_bool ?_)
  rw [hp, Bool.not_false, if_pos rfl]
  have j₄' := j₄.sub (List.sublist_cons_self _ _)
  clear j₄
  refine xc fun _ hn2 => wpAny_Expr ?_
  refine StarCall_ (Attribute_name ?_)
  refine j_local (s := { s with heap := h₄, toks := t₄ + 1 + 1 }) j₄' rfl ?_
  refine f_line (s := { s with heap := h₄, toks := t₄ + 1 + 1 }) V G j₄'.mv.st F₄ fun t₅ => ?_
  refine a_bound (s := { s with heap := h₄, toks := t₅ }) (p := 161) G X j₄'.mv.st F₄.acc X.fPush (X.keep 161 (by decide)).2 (fun _ => rfl) (bind_push X X2) fun q h₅ t₆ e₅ eq₅ => ?_
  have j₅ := j₄'.push (methodObj (.ref 161) (.ref x)) rfl
  have mv₅ : Mv T g [] h₄ h₅ := e₅ ▸ Mv.push j₄'.mv.st _
  have hq₅ : h₅.get? q = some (methodObj (.ref 161) (.ref x)) := by rw [e₅, eq₅]; exact Heap.get?_push_size _ rfl
  rw [show ({ s with heap := h₄, toks := t₅ } : Shared).heap = h₄ from rfl] at e₅ eq₅
  rw [← e₅, ← eq₅] at j₅
  have F₅ := F₄.mv0 j₄'.mv.st mv₅
  have ht₅ := mv₅.keep _ _ ht₄ (j₄'.mv.st.notTab ht₄ (by nofun)) (.inl (by exact ni0))
  refine callWith_star (P := MethP K q 161 (.ref x)) (x := do let v ← eval (.Name "end_of_line" _) _; standAt _; pure v) (keeps_M (fnIn_of X.push)) ?_
  refine wpAny_bind (j_local (s := { s with heap := h₅, toks := t₆ }) j₅ rfl (wpAny_bind (wpAny_standAt (wpAny_pure ⟨t, _, rfl, ht₅, by simp, fun h₆ k₆ => ?_⟩))))
  obtain ⟨j₆, mv₆⟩ := j₅.keepsL k₆
  have F₆ := F₅.mv0 j₅.mv.st mv₆
  refine ⟨⟨k₆ _ _ hq₅, j₆.mv.st.In G⟩, wpAny_call (ks_codeAny_call_bound (s := { s with heap := h₆, toks := t₆ }) (k₆ _ _ hq₅) ?_)⟩
  refine push_acc (s := { s with heap := h₆, toks := t₆ }) G X j₆.mv.st (rr.mono (by decide)) (fun t ht => hPk t (none_back j₆.mv ht)) F₆.acc F.zx (by exact Nat.le_succ_of_le hpsl) fun h₇ t₇ mv₇ a₇ => ?_
  replace a₇ : Acc Pk w h₇ x d (ps ++ [p]) n := a₇
  have j₇ := (j₆.sub (List.sublist_cons_self _ _)).callK mv₇ (by exact ni1 xL) (by exact al1 (.inl m2)) (by exact al1 (ni1 F.ne7))
  have F₇ := F₆.line j₆.mv.st mv₇ (by exact al1 (.inl rfl)) a₇
  refine hn2 { s with heap := h₇, toks := t₇ } (wpAny_execs_nil ?_)
  refine hn { s with heap := h₇, toks := t₇ } ?_
  refine xc fun _ hn => wpAny_If (wpAny_isTrue_Compare1 (vc fun _ hv => Call_ ?_))
  refine j_builtin (s := { s with heap := h₇, toks := t₇ }) G j₇ GM.len boot_len ?_
  refine callWith_method1 (first := []) (args_cons (Attribute_name ?_))
  refine j_local (s := { s with heap := h₇, toks := t₇ }) j₇ rfl ?_
  refine f_line (s := { s with heap := h₇, toks := t₇ }) V G j₇.mv.st F₇ fun t₈ => args_nil ?_
  refine a_len (s := { s with heap := h₇, toks := t₈ }) G X GM j₇.mv.st (rr.mono (by decide)) hT F₇.acc hz (by exact Int.le_of_lt hpos) (by lia) fun s₈ t₉ mv₈ ok₈ => ?_
  have j₈ : J T g [l, x, d] s.heap L s₈.heap _ _ := j₇.call0 mv₈
  have F₈ := F₇.mv0 j₇.mv.st mv₈
  refine hv _ s₈ ?_
  refine wpAny_Constant_int (gt_int' (wpAny_truthy_bool ?_))
  rw [show decide (n + plen (ps ++ [p]) > 0) = true from decide_eq_true (by omega), if_pos rfl]
  have ok₈' : Ok s s₈ := ⟨ok₈.1, ok₈.2⟩
  refine xc fun _ hn2 => wpAny_If (wpAny_isTrue_BoolOp (vc fun _ hv => wpAny_allTrue_And_cons (wpAny_isTrue_value (MethodCall_ (Attribute_name ?_)))))
  refine j_local (s := { s₈ with toks := s₈.toks + 1 }) j₈ rfl ?_
  refine f_line (s := { s₈ with toks := s₈.toks + 1 }) V G j₈.mv.st F₈ fun t₁₀ => ?_
  refine acc_meth (s := { s₈ with toks := t₁₀ }) G X j₈.mv.st F₈.acc X.fOnly (X.keep 206 (by decide)).2 ?_
  refine j_callWith0 (s := { s₈ with toks := t₁₀ }) G j₈.mv.st (X.keep 206 (by decide)).1 (wpAny_call ?_)
  refine only_spec (s := { s₈ with toks := t₁₀ }) G X GM j₈.mv.st (rr.mono (by decide)) hT hT2 F₈.acc hz (by exact Int.le_of_lt hpos) (by lia) fun s₉ mv₉ ok₉ => ?_
  have j₉ : J T g [l, x, d] s.heap L s₉.heap _ _ := j₈.call0 mv₉
  have F₉ := F₈.mv0 j₈.mv.st mv₉
  have ok₉' : Ok s s₉ := ⟨ok₉.1.trans ok₈'.1, fun a => ok₉.2 (ok₈'.2 a)⟩
  rw [ho]
  refine wpAny_truthy_bool ?_
  rw [if_neg (by decide)]
  refine hv _ s₉ ?_
  rw [if_neg (by decide)]
  refine xc fun _ hn3 => wpAny_Expr (MethodCall_ (Attribute_name ?_))
  refine j_local (s := s₉) j₉ rfl ?_
  refine f_lines (s := s₉) V G j₉.mv.st F₉ fun t₁₁ => ?_
  refine getMethod_list_append (s := { s₉ with toks := t₁₁ }) (j₉.get (.head _)) rfl rfl ?_
  refine callWith_method1 (args_cons (vc fun _ hv => Call_ ?_))
  refine j_builtin (s := { s₉ with toks := t₁₁ }) G j₉ GM.str boot_str ?_
  refine PyProof.Rows.callWith_type1 (args_cons (Attribute_name ?_))
  refine j_local (s := { s₉ with toks := t₁₁ }) j₉ rfl ?_
  refine f_line (s := { s₉ with toks := t₁₁ }) V G j₉.mv.st F₉ fun t₁₂ => args_nil ?_
  refine a_strcall (s := { s₉ with toks := t₁₂ }) G X GM j₉.mv.st (rr.mono (by decide)) hT2 F₉.acc hz fun s₁₀ t₁₃ mv₁₀ ok₁₀ => hv _ _ (args_nil ?_)
  have j₁₀ : J T g [l, x, d] s.heap L s₁₀.heap _ _ := j₉.call0 mv₁₀
  have F₁₀ := F₉.mv0 j₉.mv.st mv₁₀
  have ok₁₀' : Ok s s₁₀ := ⟨ok₁₀.1.trans ok₉'.1, fun a => ok₁₀.2 (ok₉'.2 a)⟩
  have hil : its.size = lines.length := by rw [← StrsAre.len hli, Array.length_toList]
  refine list_append_any (LstAt.exact (j₁₀.get (.head _))) (by rw [sizeLine_eq]; lia) ?_
  obtain ⟨ep', ee⟩ := mapSeq_lst its (its.push (.str (ptext (ps ++ [p])) t₁₃)) ep (·.push (.str (ptext (ps ++ [p])) t₁₃)) rfl
  have j₁₁ := j₁₀.update 0 rfl (.inl (by exact m1)) (by exact tnL) ee rfl
  have mv₁₁ := j₁₀.updMv (.head _) (by exact tnL) ee rfl
  revert j₁₁ mv₁₁
  generalize s₁₀.heap.update l _ = h₁₁
  intro j₁₁ mv₁₁
  have F₁₁ : FmtAt Pk w g h₁₁ f df l x d width (lines ++ [ptext (ps ++ [p])]) (ps ++ [p]) n :=
    F₁₀.all j₁₀.mv.st mv₁₁ (by exact al1 (.inl rfl)) ⟨_, _, j₁₁.get (.head _), by rw [Array.toList_push]; exact strs_snoc hli⟩ (F₁₀.acc.mv j₁₀.mv.st mv₁₁ (by exact ni1 F.ne7.symm) (by exact ni1 F.ne8.symm))
  refine hn3 { s₁₀ with heap := h₁₁ } (wpAny_execs_nil ?_)
  refine hn2 { s₁₀ with heap := h₁₁ } (wpAny_execs_nil ?_)
  refine hn { s₁₀ with heap := h₁₁ } ?_
  refine xc fun _ hn => wpAny_Expr (MethodCall_ (Attribute_name ?_))
  refine j_local (s := { s₁₀ with heap := h₁₁ }) j₁₁ rfl ?_
  refine f_line (s := { s₁₀ with heap := h₁₁ }) V G j₁₁.mv.st F₁₁ fun t₁₄ => ?_
  refine acc_meth (s := { s₁₀ with heap := h₁₁, toks := t₁₄ }) G X j₁₁.mv.st F₁₁.acc X.fReset (X.keep 199 (by decide)).2 ?_
  refine j_callWith0 (s := { s₁₀ with heap := h₁₁, toks := t₁₄ }) G j₁₁.mv.st (X.keep 199 (by decide)).1 (wpAny_call ?_)
  refine reset_spec (s := { s₁₀ with heap := h₁₁, toks := t₁₄ }) (qs := []) (v := .none) G X j₁₁.mv.st (rr.mono (by decide)) F₁₁.acc F.zx F.zd (by simp; omega) (by simp) (.inl ⟨rfl, rfl⟩) (bind_reset0 X (j₁₁.mv.st.In G) x) fun h₁₂ t₁₅ mv₁₂ a₁₂ => ?_
  have j₁₂ := j₁₁.callK mv₁₂ (by exact ni2 xL dL) (by exact al2 (.inl m2) (.inl m3)) (by simp [F.ne7, F.ne8])
  have F₁₂ := F₁₁.line j₁₁.mv.st mv₁₂ (by exact al2 (.inl rfl) (.inr rfl)) a₁₂
  exact hn _ (wpAny_execs_nil (hR _ j₁₂.mv ⟨ok₁₀'.1, ok₁₀'.2⟩ F₁₂))
end
end Mine
end
section
open PySem PySem.W PySem.Calls PyProof.Rows Builtin Builtin.ObjectAttr
namespace Mine
section
variable {Pk : Addr → Prop}
variable {T : Tabs} {K : Frag} {cd : ClassData} {mg mb : Str → Option Value} {w : World} {A : Around} {s : Shared} {g h₀ h h' : Heap} {W W' : List Addr} {L C : Addr} {m : Str → Option Value} {kn : List (Addr × Obj)} {R : Result → Shared → Prop} {E : Value → Shared → Prop} {prog : Program}
theorem for_turn {target : Expr} {it : Value} {body orelse : List Stmt} {env : Env}
    (h : wpAny (model prog w) A (pyNext it) (fun r s₁ => match r with
      | none => wpAny (model prog w) A (execs orelse env) (fun f s₃ => R (.ok f) s₃) (fun _ _ => False) s₁
      | some v => wpAny (model prog w) A (letOwnedTupleGo target it v) (fun _ s₁' => wpAny (model prog w) A (assign target env v) (fun _ s₂ => wpAny (model prog w) A (execs body env) (fun f s₃ => match f with
          | .next | .cont => codeAny (model prog w) A (.forLoop target it body orelse env) R s₃
          | .brk => R (.ok .next) s₃
          | .ret v => R (.ok (.ret v)) s₃) (fun _ _ => False) s₂) (fun _ _ => False) s₁') (fun _ _ => False) s₁) (fun _ _ => False) s) : codeAny (model prog w) A (.forLoop target it body orelse env) R s := by
  refine codeAny_of_tree ?_
  show wpAny _ _ ((forTurn target it body orelse env).onRaise (fun x => do noteFrame x env; theTreesLotGoes x)) _ _ s
  refine wpAny_noted ?_
  simp only [forTurn]
  refine wpAny_bind (wpAny_standAt (wpAny_bind (wpAny_onRaise (wpAny_mono h (fun r s₁ h₁ => ?_) fun _ _ h' => h'.elim))))
  cases r with
  | none => exact wpAny_pure ⟨rfl, codeAny_block (wpAny_mono h₁ (fun _ _ x => x) fun _ _ x => x.elim)⟩
  | some v =>
    refine wpAny_bind (wpAny_mono h₁ (fun _ s₁' h₁' => ?_) fun _ _ h' => h'.elim)
    refine wpAny_bind (wpAny_mono h₁' (fun _ s₂ h₂ => wpAny_bind (wpAny_mono h₂ (fun f s₃ h₃ => ?_) fun _ _ h' => h'.elim)) fun _ _ h' => h'.elim)
    cases f with
    | next => exact wpAny_pure ⟨rfl, h₃⟩
    | cont => exact wpAny_pure ⟨rfl, h₃⟩
    | brk => exact wpAny_pure h₃
    | ret v => exact wpAny_pure h₃
theorem J.iter (j : J T g W h₀ L h m kn) {a : Addr} {o o' : Obj} (i : Nat) (hi : kn[i]? = some (a, o)) (hw : a ∈ W ∨ h₀.get? a = none) (hc : ¬ isTup o) (hs : Heap.SameBut a h h') (ge : h'.get? a = some o') :
    J T g W h₀ L h' m (kn.set i (a, o')) ∧ Mv T g [a] h h' := by
  have hm : (a, o) ∈ kn := List.mem_of_getElem? hi
  have z := j.has _ hm
  obtain ⟨oL, es, n, hL, r⟩ := j.ns
  refine ⟨⟨⟨j.mv.st.same z.2.2.2 hs, fun b ob eb ht hb => ?_, fun b ob eb => ?_⟩, ⟨oL, es, n, (hs.2 L (Ne.symm z.2.1)).trans hL, r⟩, j.Lt, j.Ln, j.Lg, fun p hp => ?_, ?_, j.s0⟩, j.mv.st.same z.2.2.2 hs, fun b ob eb ht hb => (hs.2 b fun q => ?_).trans eb, fun b ob eb => ?_⟩
  · have := j.mv.keep b ob eb ht hb
    refine (hs.2 b fun q => ?_).trans this
    subst q
    rw [z.1] at this
    cases this
    rcases hw with hw | hw
    · rcases hb with hb | hb
      · exact hb hw
      · exact hc hb
    · rw [hw] at eb; cases eb
  · obtain ⟨o₁, e₁⟩ := j.mv.there b ob eb
    by_cases q : b = a
    · subst q; exact ⟨_, ge⟩
    · exact ⟨o₁, (hs.2 b q).trans e₁⟩
  · rcases List.mem_or_eq_of_mem_set hp with hp' | rfl
    · by_cases q : p.1 = a
      · obtain ⟨k, hk⟩ := List.getElem?_of_mem hp
        by_cases hki : k = i
        · subst hki
          have hl : k < kn.length := (List.getElem?_eq_some_iff.mp hi).1
          rw [List.getElem?_set_self hl] at hk
          cases hk
          exact ⟨ge, z.2⟩
        · exfalso
          rw [List.getElem?_set_ne (fun q => hki q.symm)] at hk
          have hk' : (kn.map (·.1))[k]? = some a := by rw [List.getElem?_map, hk, ← q]; rfl
          have hi' : (kn.map (·.1))[i]? = some a := by rw [List.getElem?_map, hi]; rfl
          have hlk := (List.getElem?_eq_some_iff.mp hk').1
          exact hki ((List.getElem?_inj hlk j.nd).mp (hk'.trans hi'.symm))
      · exact ⟨(hs.2 p.1 q).trans (j.has p hp').1, (j.has p hp').2⟩
    · exact ⟨ge, z.2⟩
  · rw [List.map_set]
    have hi' : (kn.map (·.1))[i]? = some a := by rw [List.getElem?_map, hi]; rfl
    obtain ⟨hl, he⟩ := List.getElem?_eq_some_iff.mp hi'
    have : (kn.map (·.1)).set i a = kn.map (·.1) := by
      rw [← he]; exact List.set_getElem_self hl
    rw [show (a, o').1 = a from rfl, this]
    exact j.nd
  · subst q
    rw [z.1] at eb
    cases eb
    rcases hb with hb | hb
    · exact hb (.head _)
    · exact hc hb
  · by_cases q : b = a
    · subst q; exact ⟨o', ge⟩
    · exact ⟨ob, (hs.2 b q).trans eb⟩
noncomputable def Kp (T : Tabs) (W : List Addr) (h h' : Heap) : Prop := ∀ b o, h.get? b = some o → b ∉ T.map (·.2) → (b ∉ W ∨ isTup o) → h'.get? b = some o
theorem IsPair.kp {v : Value} {p : Str × Str} (a : IsPair Pk h v p) (S : St T g h) (k : Kp T W h h') : IsPair Pk h' v p := by
  obtain ⟨t, ta, tb, e, b⟩ := a
  exact ⟨t, ta, tb, e, k _ _ b (S.notTab b (by nofun)) (.inr ⟨rfl, _, _, rfl⟩)⟩
theorem Acc.kp {x d : Addr} {ps : List (Str × Str)} {n : Int} (a : Acc Pk w h x d ps n) (S : St T g h) (k : Kp T W h h') (hx : x ∉ W) (hd : d ∉ W) : Acc Pk w h' x d ps n := by
  refine qg fun G kG => ?_
  obtain ⟨its, ep, tk, tn, a, p⟩ := a
  refine kG ?_
  exact ⟨its, ep, tk, tn, ⟨k _ _ a.o (S.notTab a.o (by nofun)) (.inl hx), k _ _ a.d (S.notTab a.d (by nofun)) (.inl hd)⟩, p.imp fun _ _ q => q.kp S k⟩
theorem FmtAt.kp {f df l x d : Addr} {width : Int} {lines : List Str} {ps : List (Str × Str)} {n : Int} (F : FmtAt Pk w g h f df l x d width lines ps n) (S : St T g h) (k : Kp T W h h') (hW : ∀ b ∈ W, b ≠ f ∧ b ≠ df ∧ b ≠ l ∧ b ≠ x ∧ b ≠ d) : FmtAt Pk w g h' f df l x d width lines ps n := by
  have no : ∀ b, (b = f ∨ b = df ∨ b = l ∨ b = x ∨ b = d) → b ∉ W := fun b hb hm => by
    obtain ⟨a1, a2, a3, a4, a5⟩ := hW b hm
    rcases hb with q | q | q | q | q
    · exact a1 q
    · exact a2 q
    · exact a3 q
    · exact a4 q
    · exact a5 q
  obtain ⟨es, e1, e2⟩ := F.dd
  obtain ⟨its, ep, e3, e4⟩ := F.lst
  exact ⟨k _ _ F.o (S.notTab F.o (by nofun)) (.inl (no _ (by exact .inl rfl))), ⟨es, k _ _ e1 (S.notTab e1 (by nofun)) (.inl (no _ (by exact .inr (.inl rfl)))), e2⟩,
    ⟨its, ep, k _ _ e3 (S.notTab e3 (by nofun)) (.inl (no _ (by exact .inr (.inr (.inl rfl))))), e4⟩, F.acc.kp S k (no _ (by exact .inr (.inr (.inr (.inl rfl))))) (no _ (by exact .inr (.inr (.inr (.inr rfl))))), F.zl, F.zx, F.zd⟩
theorem J.used (ja : J T g W h₀ L s.heap m kn) {I : Addr} {o : Obj} {s₁ : Shared} {m₁ : Str → Option Value} {kn₁ : List (Addr × Obj)} (j : J T g W h₀ L s₁.heap m₁ ((I, o) :: kn₁)) (hI : s.heap.objs.size ≤ I) (hk : ∀ p ∈ kn₁, p.1 < s.heap.objs.size) (ho : ¬ isTup o) (hx : Heap.ExtBut I s₁.heap h') (hLs : L < s.heap.objs.size) :
    J T g W h₀ L h' m₁ kn₁ ∧ Kp T [I] s₁.heap h' := by
  refine ⟨?_, fun b ob e ht hb => ?_⟩
  · have h0 : ∀ {b o'}, h₀.get? b = some o' → b ≠ I := fun e q => by
      obtain ⟨_, e'⟩ := ja.mv.there _ _ e
      subst q
      exact absurd (Heap.lt_size e') (Nat.not_lt.mpr hI)
    have hg : ∀ {b o'}, g.get? b = some o' → b ≠ I := fun e q => by
      obtain ⟨_, e'⟩ := ja.mv.st.old.there _ _ e
      subst q
      exact absurd (Heap.lt_size e') (Nat.not_lt.mpr hI)
    have hT : ∀ p ∈ T, p.2 ≠ I ∧ p.1 ≠ I := fun p hp => by
      obtain ⟨ps, ps₀, x, y, z⟩ := ja.mv.st.tab p hp
      obtain ⟨⟨o₁, vs, e₁, r⟩, _⟩ := id y
      exact ⟨fun q => absurd (Heap.lt_size y.2) (q ▸ Nat.not_lt.mpr hI), fun q => absurd (Heap.lt_size e₁) (q ▸ Nat.not_lt.mpr hI)⟩
    obtain ⟨oL, es, n, eL, r⟩ := j.ns
    have hLI : L ≠ I := fun q => absurd hLs (q ▸ Nat.not_lt.mpr hI)
    have eL' := hx _ _ hLI eL
    refine ⟨⟨⟨?_, fun b o e ht => hx _ _ (hg e) (j.mv.st.keep b o e ht), fun p hp => ?_, Nat.le_of_lt (Nat.lt_of_le_of_lt j.Lg (Heap.lt_size eL'))⟩, fun b o e ht hb => hx _ _ (h0 e) (j.mv.keep b o e ht hb), fun b o e => ?_⟩, ⟨oL, es, n, eL', r⟩, j.Lt, j.Ln, j.Lg, fun p hp => ⟨hx _ _ (fun q => absurd (hk p hp) (q ▸ Nat.not_lt.mpr hI)) (j.has p (.tail _ hp)).1, (j.has p (.tail _ hp)).2⟩, (List.nodup_cons.mp j.nd).2, j.s0⟩
    · have K := j.mv.st.old
      refine ⟨fun b o e => ?_, fun b o e => let ⟨o', ho'⟩ := K.there b o e; ⟨o', hx _ _ (hg e) ho'⟩⟩
      rcases K.old b o e with x | ⟨t, hc, vs, more, hv, x⟩ | ⟨rfl, hc, ⟨o', es, n, ho', r⟩, z⟩
      · exact .inl (hx _ _ (hg e) x)
      · exact .inr (.inl ⟨t, hc, vs, more, hv, hx _ _ (hg e) x⟩)
      · exact .inr (.inr ⟨rfl, hc, ⟨o', es, n, hx _ _ (hg e) ho', r⟩, fun key => by rw [OldK.staticOf_congr ((hx _ _ (hg e) ho').trans ho'.symm) key]; exact z key⟩)
    · obtain ⟨ps, ps₀, x, y, z⟩ := j.mv.st.tab p hp
      exact ⟨ps, ps₀, x.extBut hx (hT p hp).2 (hT p hp).1, y.extBut hx (hT p hp).2 (hT p hp).1, z⟩
    · obtain ⟨o', e'⟩ := j.mv.there b o e
      exact ⟨o', hx _ _ (h0 e) e'⟩
  · by_cases q : b = I
    · subst q
      rw [(j.has _ (.head _)).1] at e
      cases e
      rcases hb with hb | hb
      · exact absurd (.head _) hb
      · exact absurd hb ho
    · exact hx _ _ q e
end
end Mine
end
section
open PySem PySem.W PySem.Calls PyProof.Rows Builtin Builtin.ObjectAttr
namespace Mine
section
variable {Pk : Addr → Prop}
variable {T : Tabs} {K : Frag} {cd : ClassData} {mg mb : Str → Option Value} {w : World} {A : Around} {s : Shared} {g h₀ h h' : Heap} {W W' : List Addr} {L C : Addr} {m : Str → Option Value} {kn : List (Addr × Obj)} {R : Result → Shared → Prop} {E : Value → Shared → Prop} {prog : Program}
variable {f df l x d : Addr} {width : Int} {lines lines' : List Str} {ps ps' : List (Str × Str)} {n n' : Int}
theorem subTail_builtin {value slice : Expr} {o i : Value} {T id : String} {Q : Value → Shared → Prop} (hT : s.TypeIs o T)
    (hl : typeLookup (.type T) "__getitem__" = pure (some (.builtin id))) (h : wpAny (model prog w) A (getItem o i) Q E s)
    (hs : (subscripted slice false o i = operate [o, i] (getItem o i)) ∨ (subscripted slice false o i = operate [i, o] (getItem o i))) : wpAny (model prog w) A (subscriptTail value slice o i) Q E s := by
  unfold subscriptTail
  refine wpAny_bind ?_
  rw [getitemInPython_of_ne hT.not_modules]
  refine wpAny_bind (wpAny_specialOf hT hl ?_)
  have fin : wpAny (model prog w) A (subscripted slice false o i) (fun r s₃ => wpAny (model prog w) A (letTemporaryGo value o r >>= fun _ => pure r) Q E s₃) E s := by
    rcases hs with hs | hs <;>
    · rw [hs]
      exact wpAny_operating (wpAny_mono h (fun r s₃ h₃ => wpAny_bind (wpAny_letTemporaryGo (wpAny_pure h₃))) fun _ _ x => x)
  first
    | exact wpAny_pure (wpAny_bind fin)
    | exact wpAny_bind (wpAny_pure (wpAny_bind fin))
    | exact wpAny_bind fin
theorem list_getInt {a : Addr} {o : Obj} {its : Array Value} {ep : Nat} {k : Int} {tk : Tok} {v : Value} {Q : Value → Shared → Prop} (LA : LstAt (model prog w) s.heap a o its ep) (h0 : 0 ≤ k) (hk : k < 2 ^ 63) (hv : its[k.toNat]? = some v) (h : Q v s) :
    wpAny (model prog w) A (call (.builtin "list.__getitem__") [.ref a, .int k tk]) Q E s := by
  refine wpAny_call (codeAny_call_builtin PySem.F.slot_list_getitem.plain PySem.F.entry_list_getitem (check_meth (i := "list.__getitem__") (owner := "list") (n := "__getitem__") (self := .ref a) (rest := [.int k tk]) (kw := []) kind_getitem split_getitem LA.inst (by exact PySem.F.args_list_getitem_2 _ _) ?_))
  show wpAny _ _ (Builtin.List.listSubscript? (.int k tk) >>= _) _ _ s
  refine wpAny_bind (wpAny_listSubscript_int (fitsIndex_of h0 hk) ?_)
  clear hk
  obtain ⟨j, rfl⟩ := Int.eq_ofNat_of_zero_le h0
  have hx' : its[j]? = some v := hv
  show wpAny _ _ ((seqItemAt a j >>= fun r => pure (r.map (j, ·))) >>= _) _ _ s
  refine wpAny_bind (wpAny_bind (wpAny_seqItemAt LA.at_ LA.data (wpAny_pure ?_)))
  rw [hx']
  first
    | exact wpAny_bind (wpAny_pure (wpAny_pure h))
    | exact wpAny_pure h
theorem fstr_spec {p : Str × Str} {sep : Str} {ts : Tok} {qs : List (Str × Str)} (hqs : Pops qs ps p) (V : Fv K) (X : Fx K cd) (X2 : Fx2 K) (G : Gb T K mg mb g) (GM : Gm mg) (S : St T g s.heap) (r : Rm A 10) (hPk : ∀ t, s.heap.get? t = none → Pk t) (hT : (183, 179) ∈ T) (hT2 : (190, 186) ∈ T)
   (F : FmtAt Pk w g s.heap f df l x d width lines qs n) (hz : Small (ps ++ [p])) (hn0 : 0 ≤ n) (hn1 : n ≤ 1000000) (hll : lines.length ≤ 1000)
   (hp : (p.1 == " " && p.2 == "") = false) (ho : onlyB (ps ++ [p]) n = false) (hpos : 0 < n + plen (ps ++ [p])) (hup : plen (ps ++ [p]) ≤ 10000000)
   (hj : ((lines ++ [ptext (ps ++ [p])]).map (·.length)).sum + (lines ++ [ptext (ps ++ [p])]).length * sep.length ≤ 16777216)
   (hR : ∀ s' t', Mv T g [l, x, d] s.heap s'.heap → Ok s s' → R (.ok (.ret (.str (Str.join sep (lines ++ [ptext (ps ++ [p])])) t'))) s') :
   codeAny (model PR w) A (.call (.ref 81) ⟨[.ref f, .str sep ts], []⟩) R s := by
  refine' j_callK (binds := [("self", .ref f), ("linesep", .str sep ts)]) [l, x, d] [] G S Kn.nil V.str r.lt (fun _ _ _ _ _ _ => BindsTo.of_eq rfl) (locs rfl) (by decide) ?_ rfl rfl rfl
  intro L h₁ t₁ j mv₁
  have nL := F.off (I := L) j.neL
  have xL := nL.2.2.2.1
  have dL := nL.2.2.2.2
  have lL := nL.2.2.1
  have rr := r.deeper (env := envX "_ValueFormatter._str" (fScope (inCls 11 1)) L 81 (.ref 80) [])
  have F₁ := F.mv0 S mv₁
  refine wpAny_execs_cons (wpAny_Expr (MethodCall_ ?_))
  refine j_local (s := { s with heap := h₁, toks := t₁ }) j rfl ?_
  refine f_meth (s := { s with heap := h₁, toks := t₁ }) V G j.mv.st F₁ V.fNewline (V.keep 95 (by decide)).2 (by intros; rfl) ?_
  refine j_callWith0 (s := { s with heap := h₁, toks := t₁ }) G j.mv.st (V.keep 95 (by decide)).1 (wpAny_call ?_)
  refine newline_spec hqs (s := { s with heap := h₁, toks := t₁ }) V X X2 G GM j.mv.st (rr.mono (by decide)) (fun t ht => hPk t (none_back mv₁ ht)) hT hT2 F₁ hz hn0 hn1 hll hp ho hpos hup fun s₂ mv₂ ok₂ F₂ => ?_
  have j₂ : J T g [l, x, d] s.heap L s₂.heap _ [] := j.callK mv₂ (by exact ni3 lL xL dL) (by exact al3 (.inl m1) (.inl m2) (.inl m3)) (by exact al0)
  refine wpAny_execs_cons (wpAny_Return_some (MethodCall_ ?_))
  refine j_local (s := s₂) j₂ rfl ?_
  refine s_meth PySem.F.slot_str_join ty_join ?_
  refine callWith_method1 (args_cons (Attribute_name ?_))
  refine j_local (s := s₂) j₂ rfl ?_
  refine f_lines (s := s₂) V G j₂.mv.st F₂ fun t₃ => args_nil ?_
  obtain ⟨its₂, ep₂, hl₂, hli₂⟩ := F₂.lst
  refine join_list (s := { s₂ with toks := t₃ }) (D := l) ⟨_, hl₂, rfl, _, rfl⟩ hli₂ hj fun t' k => ?_
  rw [Txt_join]
  exact hR _ _ j₂.mv ⟨ok₂.1, ok₂.2⟩
theorem j_setD {es : List DictEntry} {k : Nat} {name : Str} {v : Value} {ox : Obj} {Q : Unit → Shared → Prop} (G : Gb T K mg mb g) (j : J T g W h₀ L s.heap m ((df, dictOf es k) :: (f, ox) :: kn)) (hdW : df ∈ W ∨ h₀.get? df = none)
    (hox : ox.cls = .ref C) (hod : ox.dict = some df) (hoi : InstAt s.heap f ox C (some (dictOf es k)))
    (hs : findIn K (.ref C) "__setattr__" = some (some (.builtin "object.__setattr__"))) (hp : OverOk K C) (ht : takerIn K C name = some none)
    (hl : getL name es = some none) (he : ∀ key, putL name (PyData.keyHash w.params name) key v es = es ++ [⟨PyData.keyHash w.params name, key, v⟩]) (hn : putN name es k = k + 1) (hz : es.length ≤ 900)
    (h : ∀ h' tk t', J T g W h₀ L h' m ((df, dictOf (es ++ [⟨PyData.keyHash w.params name, .str name tk, v⟩]) (k + 1)) :: (f, ox) :: kn) → Mv T g [df] s.heap h' → Q () { s with heap := h', toks := t' }) :
    wpAny (model prog w) A (setAttr (.ref f) name v) Q E s := by
  have e : ∀ tk, Obj.putName name (PyData.keyHash w.params name) (.str name tk) v (dictOf es k) = dictOf (es ++ [⟨PyData.keyHash w.params name, .str name tk, v⟩]) (k + 1) := fun tk => by
    rw [putName_dict, he, hn]
  refine j_setattr (j.mv.st.In G) hoi hod hs hp ht (by simp [lookIn_dict, hl]) (fun tk => ⟨_, _, _, e tk, rfl, by simp; exact Nat.le_trans (by assumption) (by decide), rfl⟩) fun tk t' => ?_
  have j' := j.update 0 rfl hdW (by exact tnD) (e tk) rfl
  have mv' := j.updMv (.head _) (by exact tnD) (e tk) rfl
  exact h _ tk t' j' mv'
theorem Fv.taker (V : Fv K) {name : Str} (h : findIn K (.ref 133) name = some none) : takerIn K 133 name = some none := by unfold takerIn; rw [h]; rfl
theorem bind_init1 (X : Fx K cd) (x : Addr) (s' : Shared) (k : Int) (tk : Tok) (fd : FuncData) (Y : K.In s'.heap) (h1 : fd.params = fArgs (inCls 12 0)) (h2 : fd.defaults = .ref 146) : BindsTo s' fd ⟨.ref x :: [.int k tk], []⟩ [("self", .ref x), ("initial_size", .int k tk)] := by
  obtain ⟨d, n, sl, tk', e⟩ := X.d124
  obtain ⟨a1, a2, a3, a4, a5, a6, a7, a8, a9, a10, a11, a12, a13, a14⟩ := fd
  dsimp only at h1 h2
  subst h1 h2
  exact BindsTo.of_defaults rfl (Y _ _ e) rfl rfl rfl
theorem finit_spec {th tw tc ts : Tok} (V : Fv K) (X : Fx K cd) (X2 : Fx2 K) (G : Gb T K mg mb g) (GM : Gm mg) (hAcc : mg "_Accumulator" = some (.ref 217)) (hKeep : keepIn K (.ref 217) = true) (S : St T g s.heap) (r : Rm A 10)
   (hf : s.heap.get? f = some (instObj 133 df)) (hdf : s.heap.get? df = some emptyDict) (hne : df ≠ f) (hfg : g.objs.size ≤ f) (hdg : g.objs.size ≤ df)
   (hR : ∀ l x d h' tk, Mv T g [df] s.heap h' → FmtAt Pk w g h' f df l x d width [] [] n → s.heap.get? l = none → s.heap.get? x = none → s.heap.get? d = none → R (.ok (.ret .none)) { s with heap := h', toks := tk }) :
   codeAny (model PR w) A (.call (.ref 74) ⟨[.ref f, .int n th, .int width tw, .str " " tc, .str " " ts], []⟩) R s := by
  refine' j_callK (binds := [("self", .ref f), ("headerlen", .int n th), ("maxlen", .int width tw), ("continuation_ws", .str " " tc), ("splitchars", .str " " ts)]) [df] [(df, dictOf [] 0), (f, instObj 133 df)] G S ?hkn V.init r.lt (fun _ _ _ _ _ _ => BindsTo.of_eq rfl) (locs rfl) (by decide) ?_ rfl rfl rfl
  case hkn =>
    refine ⟨fun p hp => ?_, by simp [hne]⟩
    rcases List.mem_cons.mp hp with rfl | hp
    · exact ⟨hdf, S.notTab hdf (by nofun), hdg⟩
    · rw [List.mem_singleton.mp hp]; exact ⟨hf, S.notTab hf (by nofun), hfg⟩
  intro L h₁ t₁ j mv₁
  have over : OverOk K 133 := OverOk.plain V.over V.hdc
  refine wpAny_execs_cons (plainObj_wpAny_Assign_Attribute ?_)
  refine j_local (s := { s with heap := h₁, toks := t₁ }) j rfl ?_
  refine j_local (s := { s with heap := h₁, toks := t₁ }) j rfl ?_
  refine j_setD (s := { s with heap := h₁, toks := t₁ }) (es := []) (k := 0) G j (.inl (by exact m1)) rfl rfl ⟨j.get (.tail _ (.head _)), rfl, rfl, j.get (.head _)⟩ V.sa over (V.taker (V.no _ (by exact m1))) rfl (fun _ => rfl) rfl (by simp) fun h₂ k₂ t₂ j₂ mv₂ => ?_
  refine wpAny_execs_cons (plainObj_wpAny_Assign_Attribute ?_)
  refine j_local (s := { s with heap := h₂, toks := t₂ }) j₂ rfl ?_
  refine j_local (s := { s with heap := h₂, toks := t₂ }) j₂ rfl ?_
  refine j_setD (s := { s with heap := h₂, toks := t₂ }) G j₂ (.inl (by exact m1)) rfl rfl ⟨j₂.get (.tail _ (.head _)), rfl, rfl, j₂.get (.head _)⟩ V.sa over (V.taker (V.no _ (by exact m2))) (by rfl) (fun _ => by rfl) (by rfl) (by simp) fun h₃ k₃ t₃ j₃ mv₃ => ?_
  refine wpAny_execs_cons (plainObj_wpAny_Assign_Attribute (Call_ ?_))
  refine j_builtin (s := { s with heap := h₃, toks := t₃ }) G j₃ GM.len boot_len ?_
  refine callWith_method1 (first := []) (args_cons (j_local (s := { s with heap := h₃, toks := t₃ }) j₃ rfl (args_nil ?_)))
  refine PySem.P.len_str (x := " ") (by decide +kernel) ?_
  refine j_local (s := { s with heap := h₃, toks := t₃ + 1 + 1 }) j₃ rfl ?_
  rw [show (((" " : Str).length : Nat) : Int) = 1 from by decide +kernel]
  refine j_setD (s := { s with heap := h₃, toks := t₃ + 1 + 1 }) G j₃ (.inl (by exact m1)) rfl rfl ⟨j₃.get (.tail _ (.head _)), rfl, rfl, j₃.get (.head _)⟩ V.sa over (V.taker (V.no _ (by exact m3))) (by rfl) (fun _ => by rfl) (by rfl) (by simp) fun h₄ k₄ t₄ j₄ mv₄ => ?_
  refine wpAny_execs_cons (plainObj_wpAny_Assign_Attribute ?_)
  refine j_local (s := { s with heap := h₄, toks := t₄ }) j₄ rfl ?_
  refine j_local (s := { s with heap := h₄, toks := t₄ }) j₄ rfl ?_
  refine j_setD (s := { s with heap := h₄, toks := t₄ }) G j₄ (.inl (by exact m1)) rfl rfl ⟨j₄.get (.tail _ (.head _)), rfl, rfl, j₄.get (.head _)⟩ V.sa over (V.taker (V.no _ (by exact m4))) (by rfl) (fun _ => by rfl) (by rfl) (by simp) fun h₅ k₅ t₅ j₅ mv₅ => ?_
  refine wpAny_execs_cons (plainObj_wpAny_Assign_Attribute (List_ (args_nil ?_)))
  refine j_newListK (s := { s with heap := h₅, toks := t₅ }) j₅ fun l h₆ j₆ mv₆ nl => ?_
  have hl₆ := j₆.get (.head _)
  have gl : g.objs.size ≤ l := (j₆.has _ (.head _)).2.2.2
  have ldf : l ≠ df := by
    rintro rfl
    rw [hdf] at nl
    cases nl
  have lL : l ≠ L := (j₆.has _ (.head _)).2.1
  have j₆' := j₆.sub (List.sublist_cons_self _ _)
  refine j_local (s := { s with heap := h₆, toks := t₅ }) j₆' rfl ?_
  refine j_setD (s := { s with heap := h₆, toks := t₅ }) G j₆' (.inl (by exact m1)) rfl rfl ⟨j₆'.get (.tail _ (.head _)), rfl, rfl, j₆'.get (.head _)⟩ V.sa over (V.taker (V.no _ (by exact m5))) (by rfl) (fun _ => by rfl) (by rfl) (by simp) fun h₇ k₇ t₇ j₇ mv₇ => ?_
  have hl₇ := mv₇.keep _ _ hl₆ (j₆'.mv.st.notTab hl₆ (by nofun)) (.inl (by exact ni1 ldf))
  refine wpAny_execs_cons (plainObj_wpAny_Assign_Attribute (Call_ ?_))
  refine j_global (s := { s with heap := h₇, toks := t₇ }) G j₇ hAcc ?_
  refine j_callWith hKeep (args_cons ?_)
  refine j_local (s := { s with heap := h₇, toks := t₇ }) j₇ rfl (args_nil ⟨j₇.mv.st.In G, wpAny_call ?_⟩)
  refine acc_new (Pk := Pk) (s := { s with heap := h₇, toks := t₇ }) (rest := [.int n th]) (n := n) (tk := th) G X X2.makes j₇.mv.st ((r.deeper).mono (by decide)) (fun x s' fd Y a b => bind_init1 X x s' n th fd Y a b) fun x d h₈ t₈ mv₈ a₈ nx nd gx gd => ?_
  have j₈ := j₇.call0 mv₈
  have hl₈ := mv₈.keep _ _ hl₇ (j₇.mv.st.notTab hl₇ (by nofun)) (.inl (by exact ni0))
  refine j_local (s := { s with heap := h₈, toks := t₈ }) j₈ rfl ?_
  have xdf : df ≠ x := by
    rintro rfl
    rw [j₇.get (.head _)] at nx
    cases nx
  have ddf : df ≠ d := by
    rintro rfl
    rw [j₇.get (.head _)] at nd
    cases nd
  refine j_setD (s := { s with heap := h₈, toks := t₈ }) G j₈ (.inl (by exact m1)) rfl rfl ⟨j₈.get (.tail _ (.head _)), rfl, rfl, j₈.get (.head _)⟩ V.sa over (V.taker (V.no _ (by exact (mS m5)))) (by rfl) (fun _ => by rfl) (by rfl) (by simp) fun h₉ k₉ t₉ j₉ mv₉ => ?_
  have hl₉ := mv₉.keep _ _ hl₈ (j₈.mv.st.notTab hl₈ (by nofun)) (.inl (by exact ni1 ldf))
  have a₉ := a₈.mv j₈.mv.st mv₉ (by exact ni1 xdf.symm) (by exact ni1 ddf.symm)
  refine wpAny_execs_nil (hR l x d h₉ t₉ j₉.mv ⟨j₉.get (.tail _ (.head _)), ⟨_, j₉.get (.head _), ?_⟩, ⟨_, _, hl₉, .nil⟩, a₉, gl, gx, gd⟩ nl (none_back j₇.mv nx) (none_back j₇.mv nd))
  exact ⟨_, _, _, _, _, _, _, _, _, _, rfl⟩
theorem fmt_new {th tw tc ts : Tok} (V : Fv K) (X : Fx K cd) (X2 : Fx2 K) (G : Gb T K mg mb g) (GM : Gm mg) (hAcc : mg "_Accumulator" = some (.ref 217)) (hKeep : keepIn K (.ref 217) = true) (S : St T g s.heap) (r : Rm A 11)
   (hR : ∀ f df l x d h' tk, Mv T g [] s.heap h' → FmtAt Pk w g h' f df l x d width [] [] n → s.heap.get? f = none → s.heap.get? df = none → s.heap.get? l = none → s.heap.get? x = none → s.heap.get? d = none → R (.ok (.ret (.ref f))) { s with heap := h', toks := tk }) :
   codeAny (model PR w) A (.call (.ref 133) ⟨[.int n th, .int width tw, .str " " tc, .str " " ts], []⟩) R s := by
  obtain ⟨hh, gg, dd, tt, os⟩ := s
  dsimp only at S
  have Y := S.In G
  refine make_core (makes_of Y V.makes) (looks_findIn Y V.fInit) (fun self => bind_fn Y self (beq_iff_eq.mp (V.keep 74 (by decide)).2)) (.inl rfl) ?_
  have S₂ : St T g ((hh.push emptyDict).push (instObj 133 hh.objs.size)) := (S.push _).push _
  have hx : ((hh.push emptyDict).push (instObj 133 hh.objs.size)).get? (hh.objs.size + 1) = some (instObj 133 hh.objs.size) := by heap_get
  have hd : ((hh.push emptyDict).push (instObj 133 hh.objs.size)).get? hh.objs.size = some emptyDict := by heap_get
  have nn : ∀ b, hh.objs.size ≤ b → hh.get? b = none := fun b hb => Heap.get?_none_of_le hb
  refine finit_spec (Pk := Pk) (s := ⟨_, gg, dd, tt, os⟩) V X X2 G GM hAcc hKeep S₂ r.make hx hd (Ne.symm (Nat.succ_ne_self _)) (Nat.le_succ_of_le S.le) S.le fun l x d h' tk mv F nl nx nd => ?_
  refine ⟨rfl, ?_⟩
  have mv0 : Mv T g [] hh ((hh.push emptyDict).push (instObj 133 hh.objs.size)) := ⟨S₂, fun b o e _ _ => Heap.get?_push_of_some _ (Heap.get?_push_of_some _ e), fun b o e => ⟨o, Heap.get?_push_of_some _ (Heap.get?_push_of_some _ e)⟩⟩
  refine hR _ _ l x d h' tk (mv0.trans mv fun b hb => ?_) F (nn _ (Nat.le_succ _)) (nn _ (Nat.le_refl _)) (none_back mv0 nl) (none_back mv0 nx) (none_back mv0 nd)
  rw [List.mem_singleton.mp hb]; exact .inr (nn _ (Nat.le_refl _))
end
end Mine
end
section
open PySem PySem.W PySem.Calls PyProof.Rows Builtin Builtin.ObjectAttr
namespace Mine
noncomputable def forBody : Stmt → List Stmt | .For _ _ b .. => b | _ => []
noncomputable def stAt (b : List Stmt) (i : Nat) : Stmt := b.getD i (.Pass default)
section
variable {Pk : Addr → Prop}
variable {T : Tabs} {K : Frag} {cd : ClassData} {mg mb : Str → Option Value} {w : World} {A : Around} {s : Shared} {g h₀ h h' : Heap} {W W' : List Addr} {L C : Addr} {m : Str → Option Value} {kn : List (Addr × Obj)} {R : Result → Shared → Prop} {E : Value → Shared → Prop} {prog : Program}
variable {f df l x d : Addr} {width : Int} {lines lines' : List Str} {ps ps' : List (Str × Str)} {n n' : Int}
theorem StrsAre.get {vs : List Value} {ys : List Str} (h : StrsAre vs ys) (i : Nat) (hi : i < ys.length) : ∃ t, vs[i]? = some (.str ys[i] t) := by
  induction h generalizing i with
  | nil => cases hi
  | cons y t _ ih =>
    cases i with
    | zero => exact ⟨t, rfl⟩
    | succ i => simpa using ih i (by simpa using hi)
end
end Mine
end
section
open PySem PySem.Sre
namespace Mine
noncomputable def Ends (n : Nat) (m : M) (P : M → Prop) : Prop := (M.runFor n m).outcome.isSome ∧ P (M.runFor n m)
theorem Ends.done {n : Nat} {m : M} {P : M → Prop} (h : m.outcome.isSome) (hp : P m) : Ends n m P := by
  cases n with
  | zero => exact ⟨h, hp⟩
  | succ n => unfold Ends M.runFor; rw [if_pos h]; exact ⟨h, hp⟩
theorem Ends.step {n : Nat} {m m' : M} {P : M → Prop} (h : m.outcome = none) (e : m.step = m') (k : Ends n m' P) : Ends (n + 1) m P := by
  unfold Ends M.runFor
  rw [h, e]
  exact k
theorem runFor_some {m : M} (h : m.outcome.isSome) : ∀ n, M.runFor n m = m := fun n => by
  cases n with
  | zero => rfl
  | succ n => unfold M.runFor; rw [if_pos h]
theorem runFor_add (a b : Nat) : ∀ m : M, M.runFor (a + b) m = M.runFor b (M.runFor a m) := by
  induction a with
  | zero => intro m; rw [Nat.zero_add]; rfl
  | succ a ih =>
    intro m
    rw [Nat.succ_add]
    cases h : m.outcome.isSome
    · show (if m.outcome.isSome then m else M.runFor (a + b) m.step) = M.runFor b (if m.outcome.isSome then m else M.runFor a m.step)
      rw [h]
      exact ih _
    · rw [runFor_some h, runFor_some h, runFor_some h]
theorem Ends.mono {n k : Nat} {m : M} {P : M → Prop} (h : Ends n m P) (hk : n ≤ k) : Ends k m P := by
  obtain ⟨d, rfl⟩ := Nat.le.dest hk
  unfold Ends
  rw [runFor_add, runFor_some h.1]
  exact h
theorem step_lit {m : M} {c : Nat} (h0 : m.outcome = none) (ha : m.answer = none) (hw : m.code.getD m.pc 0 = 16) (hc : m.code.getD (m.pc + 1) 0 = c) (hpc : m.pc < m.code.size) :
    m.step = if m.pos ≥ m.lim then ({ m with seen := m.seen.add 16 } : M).say false else if m.text.getD m.pos 0 = c then { m with seen := m.seen.add 16, pc := m.pc + 2, pos := m.pos + 1 } else ({ m with seen := m.seen.add 16 } : M).say false := by
  obtain ⟨code, text, lim, start, lastStart, wholeText, mustAdvance, pc, pos, handed, outermost, marks, lastmark, lastindex, loops, inner, frames, weight, answer, seen, outcome⟩ := m
  dsimp only at *
  subst h0 ha
  unfold M.step
  rw [if_neg (by simp)]
  rw [if_pos hpc]
  unfold M.exec
  have e0 : (M.word { code, text, lim, start, lastStart, wholeText, mustAdvance, pc, pos, handed, outermost, marks, lastmark, lastindex, loops, inner, frames, weight, answer := none, seen, outcome := none } 0) = 16 := hw
  rw [e0]
  have e1 : ops[16]? = some Op.LITERAL := rfl
  rw [e1]
  dsimp only
  have e2 : ∀ sn ch, accepts code pc ch sn = .ok (ch == c, sn) := fun sn ch => by
    unfold accepts
    rw [hw, e1, hc]
  rw [e2]
  split
  · rfl
  · cases hb : (text.getD pos 0 == c)
    · rw [if_neg (by simpa using hb)]
    · rw [if_pos (by simpa using hb)]
      have : itemWidth code pc = 2 := by unfold itemWidth; rw [hw, e1]
      dsimp only
      rw [this]
theorem step_bol {m : M} (h0 : m.outcome = none) (ha : m.answer = none) (hw : m.code.getD m.pc 0 = 6) (hc : m.code.getD (m.pc + 1) 0 = 1) (hpc : m.pc < m.code.size) :
    ∃ sn, m.step = if m.pos = 0 ∨ m.text.getD (m.pos - 1) 0 = 10 then { m with seen := sn, pc := m.pc + 2 } else ({ m with seen := sn } : M).say false := by
  obtain ⟨code, text, lim, start, lastStart, wholeText, mustAdvance, pc, pos, handed, outermost, marks, lastmark, lastindex, loops, inner, frames, weight, answer, seen, outcome⟩ := m
  dsimp only at *
  subst h0 ha
  unfold M.step
  rw [if_neg (by simp)]
  dsimp only
  rw [if_pos hpc]
  unfold M.exec
  have e0 : (M.word { code, text, lim, start, lastStart, wholeText, mustAdvance, pc, pos, handed, outermost, marks, lastmark, lastindex, loops, inner, frames, weight, answer := none, seen, outcome := none } 0) = 6 := hw
  rw [e0]
  have e1 : ops[6]? = some Op.AT := rfl
  rw [e1]
  dsimp only
  have e2 : ∀ sn, (M.word { code, text, lim, start, lastStart, wholeText, mustAdvance, pc, pos, handed, outermost, marks, lastmark, lastindex, loops, inner, frames, weight, answer := none, seen := sn, outcome := none } 1) = 1 := fun _ => hc
  rw [e2]
  unfold M.isAt
  dsimp only
  refine ⟨(seen.add 6).add (43 + 1), ?_⟩
  cases hb : (pos == 0 || text.getD (pos - 1) 0 == 10)
  · rw [if_neg (by simpa using hb)]; rfl
  · rw [if_pos (by simpa using hb)]; rfl
noncomputable def c2 : Array Nat := #[14, 9, 4, 1, 2, 16, 10, 16, 13, 0, 7, 7, 16, 13, 16, 10, 15, 18, 5, 16, 10, 15, 13, 11, 16, 13, 5, 5, 0, 16, 10, 1, 15, 2, 0, 1]
noncomputable def c1 : Array Nat := #[14, 4, 0, 1, 1, 6, 1, 16, 46, 1]
noncomputable def mk (code text : Array Nat) (lim : Nat) (sn : Seen) (ma : Bool) (start pc pos handed : Nat) (outer : Bool) (frames : List Sre.Frame) (weight : Nat) (answer : Option Bool) (outcome : Option Sre.Outcome) : M :=
  { code, text, lim, start, lastStart := lim, wholeText := false, mustAdvance := ma, pc, pos, handed, outermost := outer, marks := #[], lastmark := -1, lastindex := -1, loops := #[], inner := none, frames, weight, answer, seen := sn, outcome }
noncomputable abbrev f0 (pc s : Nat) (first : Bool) : Sre.Frame := { wait := .nextStart, pc, pos := s, outermost := first }
noncomputable abbrev fb (pc s : Nat) : Sre.Frame := { wait := .nextBranch, pc, pos := s, outermost := true }
noncomputable abbrev fl (pc s : Nat) : Sre.Frame := { wait := .lookNot, pc, pos := s, outermost := true }
noncomputable def Hit (s e : Nat) (m : M) : Prop := m.outcome = some .matched ∧ m.start = s ∧ m.handed = e
noncomputable def Miss (m : M) : Prop := m.outcome = some .failed
section
variable {text : Array Nat} {lim s pos n : Nat} {sn : Seen} {ma : Bool} {P : M → Prop}
theorem inSet2 (c : Nat) (sn : Seen) : ∃ sn', inSet c2 c 36 5 true sn = .ok (c == 10 || c == 13, sn') := by
  have e : inSet c2 c 36 5 true sn = if c == 10 then .ok (true, sn.add 16) else if c == 13 then .ok (true, (sn.add 16).add 16) else .ok (false, ((sn.add 16).add 16).add 0) := by
    rfl
  rw [e]
  cases h1 : c == 10
  · cases h2 : c == 13
    · exact ⟨_, rfl⟩
    · exact ⟨_, rfl⟩
  · exact ⟨_, rfl⟩
noncomputable def firstAt (text : Array Nat) (lim : Nat) (f : Nat → Bool) : Nat → Nat → Option Nat
  | 0, _ => none
  | k + 1, s => if s ≥ lim then none else if f (text.getD s 0) then some s else firstAt text lim f k (s + 1)
theorem firstAt_some {f : Nat → Bool} : ∀ {k s r : Nat}, firstAt text lim f k s = some r → r < lim ∧ f (text.getD r 0) = true := by
  intro k
  induction k with
  | zero => intro s r h; cases h
  | succ k ih =>
    intro s r h
    unfold firstAt at h
    split at h
    · cases h
    · split at h
      · cases h; exact ⟨by exact Nat.lt_of_not_le (by assumption), by assumption⟩
      · exact ih h
theorem admitted_at {code : Array Nat} {f : Nat → Bool} (hf : ∀ c sn, ∃ sn', inSet code c code.size 5 true sn = .ok (f c, sn')) (m : M) (hc : m.code = code) (ht : m.text = text) (hl : m.lim = lim) : ∀ (k s : Nat) (sn : Seen), ∃ sn', M.admitted m k s sn = .ok (firstAt text lim f k s, sn') := by
  intro k
  induction k with
  | zero => exact fun s sn => ⟨sn, rfl⟩
  | succ k ih =>
    intro s sn
    unfold M.admitted firstAt
    rw [hc, ht, hl]
    split
    · exact ⟨_, rfl⟩
    · obtain ⟨sn', e⟩ := hf (text.getD s 0) sn
      rw [e]
      cases hb : f (text.getD s 0)
      · exact ih _ _
      · exact ⟨_, rfl⟩
theorem lit_no {code : Array Nat} {c start pc pos handed w : Nat} {outer : Bool} {frames : List Sre.Frame} (hw : code.getD pc 0 = 16) (hc : code.getD (pc + 1) 0 = c) (hpc : pc < code.size) (h : pos < lim → text.getD pos 0 ≠ c)
    (k : Ends n (mk code text lim (sn.add 16) ma start pc pos handed outer frames w (some false) none) P) : Ends (n + 1) (mk code text lim sn ma start pc pos handed outer frames w none none) P := by
  refine Ends.step rfl ?_ k
  rw [step_lit (c := c) rfl rfl hw hc hpc]
  show (if pos ≥ lim then _ else if text.getD pos 0 = c then _ else _) = _
  split
  · rfl
  · rw [if_neg (h (by exact Nat.lt_of_not_le (by assumption)))]; rfl
theorem lit_yes {code : Array Nat} {c start pc pos handed w : Nat} {outer : Bool} {frames : List Sre.Frame} (hw : code.getD pc 0 = 16) (hc : code.getD (pc + 1) 0 = c) (hpc : pc < code.size) (hl : pos < lim) (h : text.getD pos 0 = c)
    (k : Ends n (mk code text lim (sn.add 16) ma start (pc + 2) (pos + 1) handed outer frames w none none) P) : Ends (n + 1) (mk code text lim sn ma start pc pos handed outer frames w none none) P := by
  refine Ends.step rfl ?_ k
  rw [step_lit (c := c) rfl rfl hw hc hpc]
  show (if pos ≥ lim then _ else if text.getD pos 0 = c then _ else _) = _
  rw [if_neg (by exact Nat.not_le_of_lt hl), if_pos h]; rfl
theorem hit_mk {code : Array Nat} {e e' pc pos w : Nat} {o : Bool} {fs : List Sre.Frame} {an : Option Bool} (h : e' = e) : Hit s e (mk code text lim sn ma s pc pos e' o fs w an (some .matched)) := ⟨rfl, rfl, h⟩
noncomputable def nxt2 (text : Array Nat) (lim s : Nat) : Nat := if text.getD s 0 = 13 ∧ s + 1 < lim ∧ text.getD (s + 1) 0 = 10 then s + 2 else s + 1
theorem run2 (first : Bool) (hs : s < lim) (hit : text.getD s 0 = 10 ∨ text.getD s 0 = 13) : Ends 22 (mk c2 text lim sn false s 10 s s true [f0 10 s true] 1 none none) (Hit s (nxt2 text lim s)) := by
  refine Ends.step (m' := mk c2 text lim _ false s 12 s s true [fb 11 s, f0 10 s true] 2 none none) rfl rfl ?_
  by_cases h13 : text.getD s 0 = 13
  · refine lit_yes rfl rfl (by decide) hs h13 ?_
    by_cases h2 : s + 1 < lim ∧ text.getD (s + 1) 0 = 10
    · refine lit_yes rfl rfl (by decide) h2.1 h2.2 ?_
      refine Ends.step (m' := mk c2 text lim _ false s 35 (s + 2) s true [fb 11 s, f0 10 s true] 2 none none) rfl rfl ?_
      refine Ends.step (m' := mk c2 text lim _ false s 35 (s + 2) (s + 2) true [fb 11 s, f0 10 s true] 2 (some true) none) rfl rfl ?_
      refine Ends.step (m' := mk c2 text lim _ false s 11 s (s + 2) true [f0 10 s true] 1 (some true) none) rfl rfl ?_
      refine Ends.step (m' := mk c2 text lim _ false s 10 s (s + 2) true [] 0 (some true) none) rfl rfl ?_
      refine Ends.step (m' := mk c2 text lim _ false s 10 s (s + 2) true [] 0 (some true) (some .matched)) rfl rfl ?_
      exact Ends.done rfl (hit_mk (if_pos ⟨h13, h2⟩).symm)
    · refine lit_no (c := 10) rfl rfl (by decide) (fun hl e => h2 ⟨hl, e⟩) ?_
      refine Ends.step (m' := mk c2 text lim _ false s 19 s s true [fb 18 s, f0 10 s true] 2 none none) rfl rfl ?_
      refine lit_no (c := 10) rfl rfl (by decide) (fun _ => by rw [h13]; decide) ?_
      refine Ends.step (m' := mk c2 text lim _ false s 24 s s true [fb 23 s, f0 10 s true] 2 none none) rfl rfl ?_
      refine lit_yes rfl rfl (by decide) hs h13 ?_
      refine Ends.step (m' := mk c2 text lim _ false s 29 (s + 1) (s + 1) false [fl 26 (s + 1), fb 23 s, f0 10 s true] 3 none none) rfl rfl ?_
      refine lit_no (c := 10) rfl rfl (by decide) (fun hl e => h2 ⟨hl, e⟩) ?_
      refine Ends.step (m' := mk c2 text lim _ false s 32 (s + 1) (s + 1) true [fb 23 s, f0 10 s true] 2 none none) rfl rfl ?_
      refine Ends.step (m' := mk c2 text lim _ false s 35 (s + 1) (s + 1) true [fb 23 s, f0 10 s true] 2 none none) rfl rfl ?_
      refine Ends.step (m' := mk c2 text lim _ false s 35 (s + 1) (s + 1) true [fb 23 s, f0 10 s true] 2 (some true) none) rfl rfl ?_
      refine Ends.step (m' := mk c2 text lim _ false s 23 s (s + 1) true [f0 10 s true] 1 (some true) none) rfl rfl ?_
      refine Ends.step (m' := mk c2 text lim _ false s 10 s (s + 1) true [] 0 (some true) none) rfl rfl ?_
      refine Ends.step (m' := mk c2 text lim _ false s 10 s (s + 1) true [] 0 (some true) (some .matched)) rfl rfl ?_
      exact Ends.done rfl (hit_mk (if_neg fun h => h2 h.2).symm)
  · have h10 : text.getD s 0 = 10 := hit.resolve_right h13
    refine lit_no (c := 13) rfl rfl (by decide) (fun _ => h13) ?_
    refine Ends.step (m' := mk c2 text lim _ false s 19 s s true [fb 18 s, f0 10 s true] 2 none none) rfl rfl ?_
    refine lit_yes rfl rfl (by decide) hs h10 ?_
    refine Ends.step (m' := mk c2 text lim _ false s 35 (s + 1) s true [fb 18 s, f0 10 s true] 2 none none) rfl rfl ?_
    refine Ends.step (m' := mk c2 text lim _ false s 35 (s + 1) (s + 1) true [fb 18 s, f0 10 s true] 2 (some true) none) rfl rfl ?_
    refine Ends.step (m' := mk c2 text lim _ false s 18 s (s + 1) true [f0 10 s true] 1 (some true) none) rfl rfl ?_
    refine Ends.step (m' := mk c2 text lim _ false s 10 s (s + 1) true [] 0 (some true) none) rfl rfl ?_
    refine Ends.step (m' := mk c2 text lim _ false s 10 s (s + 1) true [] 0 (some true) (some .matched)) rfl rfl ?_
    exact Ends.done rfl (hit_mk (if_neg fun h => h13 h.1).symm)
theorem attemptFrom_none {m : M} {sn' : Seen} {first : Bool} (h : M.hasFirstSet m = true) (ha : M.admitted m (m.lim + 1 - s) s m.seen = .ok (none, sn')) : m.attemptFrom s first = ({ m with seen := sn' } : M).say false := by
  unfold M.attemptFrom
  rw [h, ha]
  rfl
theorem attemptFrom_some {m : M} {sn' : Seen} {r : Nat} {first : Bool} (h : M.hasFirstSet m = true) (ha : M.admitted m (m.lim + 1 - s) s m.seen = .ok (some r, sn')) : m.attemptFrom s first = ({ m with mustAdvance := false, seen := sn' } : M).attemptAt r first := by
  unfold M.attemptFrom
  rw [h, ha]
  rfl
theorem search2 (pos : Nat) (hpos : pos ≤ lim) : Ends 30 (forSearch c2 text 0 pos lim ma) fun m =>
    match firstAt text lim (fun c => c == 10 || c == 13) (lim + 1 - pos) pos with
    | some s => Hit s (nxt2 text lim s) m
    | none => Miss m := by
  have e : forSearch c2 text 0 pos lim ma = if (decide (pos > lim) || decide (lim - pos < 1)) = true then (mk c2 text 0 (({} : Seen).add 14) ma pos 10 pos pos true [] 0 (some false) none : M) |> fun m => { m with lim, lastStart := 0 } else (mk c2 text lim (({} : Seen).add 14) ma pos 10 pos pos true [] 0 none none).attemptFrom pos true := rfl
  rw [e]
  by_cases hp : pos < lim
  · rw [if_neg (by simp; lia)]
    obtain ⟨sn', ea⟩ := admitted_at (text := text) (lim := lim) (code := c2) (f := fun c => c == 10 || c == 13) inSet2 (mk c2 text lim (({} : Seen).add 14) ma pos 10 pos pos true [] 0 none none) rfl rfl rfl (lim + 1 - pos) pos (({} : Seen).add 14)
    generalize hfi : firstAt text lim (fun c => c == 10 || c == 13) (lim + 1 - pos) pos = r at ea
    cases r with
    | none =>
      rw [attemptFrom_none (m := mk c2 text lim (({} : Seen).add 14) ma pos 10 pos pos true [] 0 none none) rfl ea]
      refine Ends.step (n := 29) (m' := mk c2 text lim _ ma pos 10 pos pos true [] 0 (some false) (some .failed)) rfl rfl ?_
      exact Ends.done rfl rfl
    | some s =>
      have := firstAt_some hfi
      rw [attemptFrom_some (m := mk c2 text lim (({} : Seen).add 14) ma pos 10 pos pos true [] 0 none none) rfl ea]
      exact (run2 (text := text) (lim := lim) (sn := sn') true this.1 (by simpa using this.2)).mono (by decide)
  · have : firstAt text lim (fun c => c == 10 || c == 13) (lim + 1 - pos) pos = none := by
      have : lim + 1 - pos = 1 := by omega
      rw [this]
      unfold firstAt
      rw [if_pos (by exact Nat.le_of_not_lt hp)]
    rw [this, if_pos (by simp; lia)]
    exact Ends.step (n := 29) rfl rfl (Ends.done rfl rfl)
noncomputable def dotAt (text : Array Nat) (s : Nat) : Prop := (s = 0 ∨ text.getD (s - 1) 0 = 10) ∧ text.getD s 0 = 46
noncomputable abbrev dotD (text : Array Nat) (s : Nat) : Decidable (dotAt text s) := inferInstanceAs (Decidable (_ ∧ _))
noncomputable def dotFrom (text : Array Nat) (lim : Nat) : Nat → Nat → Option Nat
  | 0, _ => none
  | k + 1, s => if s ≥ lim then none else @ite _ (dotAt text s) (dotD text s) (some s) (dotFrom text lim k (s + 1))
theorem bol_no {code : Array Nat} {start pc pos handed w : Nat} {outer : Bool} {frames : List Sre.Frame} (hw : code.getD pc 0 = 6) (hc : code.getD (pc + 1) 0 = 1) (hpc : pc < code.size) (h : ¬ (pos = 0 ∨ text.getD (pos - 1) 0 = 10))
    (k : ∀ sn, Ends n (mk code text lim sn ma start pc pos handed outer frames w (some false) none) P) : Ends (n + 1) (mk code text lim sn ma start pc pos handed outer frames w none none) P := by
  obtain ⟨sn', e⟩ := step_bol (m := mk code text lim sn ma start pc pos handed outer frames w none none) rfl rfl hw hc hpc
  refine Ends.step rfl (e.trans (if_neg h)) (k sn')
theorem bol_yes {code : Array Nat} {start pc pos handed w : Nat} {outer : Bool} {frames : List Sre.Frame} (hw : code.getD pc 0 = 6) (hc : code.getD (pc + 1) 0 = 1) (hpc : pc < code.size) (h : pos = 0 ∨ text.getD (pos - 1) 0 = 10)
    (k : ∀ sn, Ends n (mk code text lim sn ma start (pc + 2) pos handed outer frames w none none) P) : Ends (n + 1) (mk code text lim sn ma start pc pos handed outer frames w none none) P := by
  obtain ⟨sn', e⟩ := step_bol (m := mk code text lim sn ma start pc pos handed outer frames w none none) rfl rfl hw hc hpc
  refine Ends.step rfl (e.trans (if_pos h)) (k sn')
/-
theorem resume1 {h : Nat} {first : Bool} (hd : Ends (n + 1) (mk c1 text lim sn ma s 5 s h first [f0 5 s first] 1 (some false) none) P ) : Ends (n + 1) (mk c1 text lim sn ma s 5 s h first [f0 5 s first] 1 (some false) none) P := hd
-/
theorem succ1 (first : Bool) {h : Nat} : Ends 4 (mk c1 text lim sn ma s 9 (s + 1) h first [f0 5 s first] 1 none none) (Hit s (s + 1)) := by
  refine Ends.step (m' := mk c1 text lim (sn.add 1) ma s 9 (s + 1) (s + 1) first [f0 5 s first] 1 (some true) none) rfl ?_ ?_
  · have e : M.step (mk c1 text lim sn ma s 9 (s + 1) h first [f0 5 s first] 1 none none) = if (first && ((false && s + 1 != lim) || (ma && s + 1 == s))) = true then (mk c1 text lim (sn.add 1) ma s 9 (s + 1) h first [f0 5 s first] 1 (some false) none) else (mk c1 text lim (sn.add 1) ma s 9 (s + 1) (s + 1) first [f0 5 s first] 1 (some true) none) := rfl
    rw [e, if_neg (by simp)]
  refine Ends.step (m' := mk c1 text lim _ ma s 5 s (s + 1) first [] 0 (some true) none) rfl rfl ?_
  refine Ends.step (m' := mk c1 text lim _ ma s 5 s (s + 1) first [] 0 (some true) (some .matched)) rfl rfl ?_
  exact Ends.done rfl (hit_mk rfl)
theorem again1 {h : Nat} {first : Bool} (hs : s < lim) (hk : ∀ sn, Ends n (mk c1 text lim sn false (s + 1) 5 (s + 1) (s + 1) false [f0 5 (s + 1) false] 1 none none) P) : Ends (n + 1) (mk c1 text lim sn ma s 5 s h first [f0 5 s first] 1 (some false) none) P := by
  refine Ends.step rfl ?_ (hk sn)
  have e : M.step (mk c1 text lim sn ma s 5 s h first [f0 5 s first] 1 (some false) none) = if s < lim then M.attemptFrom (mk c1 text lim sn false s 5 s h first [] 0 none none) (s + 1) false else M.say (mk c1 text lim sn ma s 5 s h first [] 0 none none) false := rfl
  rw [e, if_pos hs]
  rfl
theorem stop1 {h : Nat} {first : Bool} (hs : ¬ s < lim) : Ends 2 (mk c1 text lim sn ma s 5 s h first [f0 5 s first] 1 (some false) none) Miss := by
  have e : M.step (mk c1 text lim sn ma s 5 s h first [f0 5 s first] 1 (some false) none) = if s < lim then M.attemptFrom (mk c1 text lim sn false s 5 s h first [] 0 none none) (s + 1) false else M.say (mk c1 text lim sn ma s 5 s h first [] 0 none none) false := rfl
  refine Ends.step (m' := mk c1 text lim _ ma s 5 s h first [] 0 (some false) none) rfl (e.trans (if_neg hs)) ?_
  exact Ends.step (n := 0) (m' := mk c1 text lim _ ma s 5 s h first [] 0 (some false) (some .failed)) rfl rfl (Ends.done rfl rfl)
theorem run1 : ∀ (k s : Nat) (first : Bool) (sn : Seen) (ma : Bool), k = lim + 1 - s → s ≤ lim → Ends (3 * k + 10) (mk c1 text lim sn ma s 5 s s first [f0 5 s first] 1 none none) fun m =>
    match dotFrom text lim k s with
    | some r => Hit r (r + 1) m
    | none => Miss m := by
  intro k
  induction k with
  | zero => intro s first sn ma hk hs; omega
  | succ k ih =>
    intro s first sn ma hk hs
    by_cases hl : s < lim
    · by_cases hd : dotAt text s
      · have ed : dotFrom text lim (k + 1) s = some s := by unfold dotFrom; rw [if_neg (by exact Nat.not_le_of_lt hl), if_pos hd]
        rw [ed]
        refine Ends.mono (n := 6) ?_ (by exact Nat.le_add_left _ _)
        refine bol_yes rfl rfl (by decide) hd.1 fun sn => ?_
        refine lit_yes rfl rfl (by decide) hl hd.2 ?_
        exact succ1 first
      · have ed : dotFrom text lim (k + 1) s = dotFrom text lim k (s + 1) := by rw [dotFrom]; rw [if_neg (by exact Nat.not_le_of_lt hl), if_neg hd]
        rw [ed]
        have rest := fun (sn : Seen) => again1 (sn := sn) (ma := ma) (h := s) (first := first) hl fun sn => ih (s + 1) false sn false (by lia) (by assumption)
        by_cases hb : s = 0 ∨ text.getD (s - 1) 0 = 10
        · refine Ends.mono (n := 3 * k + 13) ?_ (by exact Nat.le_refl _)
          refine bol_yes rfl rfl (by decide) hb fun sn => ?_
          exact lit_no (c := 46) rfl rfl (by decide) (fun _ h => hd ⟨hb, h⟩) (rest _)
        · refine Ends.mono (n := 3 * k + 12) ?_ (by exact Nat.le_succ _)
          exact bol_no rfl rfl (by decide) hb fun sn => rest _
    · have ed : dotFrom text lim (k + 1) s = none := by unfold dotFrom; rw [if_pos (by exact Nat.le_of_not_lt hl)]
      rw [ed]
      refine Ends.mono (n := 4) ?_ (by exact Nat.le_add_left _ _)
      by_cases hb : s = 0 ∨ text.getD (s - 1) 0 = 10
      · refine bol_yes rfl rfl (by decide) hb fun sn => ?_
        exact lit_no (c := 46) rfl rfl (by decide) (fun h => absurd h hl) (stop1 hl)
      · exact (bol_no (n := 2) rfl rfl (by decide) hb fun sn => stop1 hl).mono (by decide)
theorem search1 (pos : Nat) (hpos : pos ≤ lim) : Ends (3 * (lim + 1) + 10) (forSearch c1 text 0 pos lim ma) fun m =>
    match dotFrom text lim (lim + 1 - pos) pos with
    | some s => Hit s (s + 1) m
    | none => Miss m := by
  have e : forSearch c1 text 0 pos lim ma = if (decide (pos > lim) || decide (lim - pos < 1)) = true then (mk c1 text 0 (({} : Seen).add 14) ma pos 5 pos pos true [] 0 (some false) none : M) |> fun m => { m with lim, lastStart := 0 } else (mk c1 text lim (({} : Seen).add 14) ma pos 5 pos pos true [f0 5 pos true] 1 none none) := rfl
  rw [e]
  by_cases hp : pos < lim
  · rw [if_neg (by simp; lia)]
    exact (run1 (lim + 1 - pos) pos true _ ma rfl hpos).mono (by lia)
  · have : dotFrom text lim (lim + 1 - pos) pos = none := by
      have : lim + 1 - pos = 1 := by omega
      rw [this]
      unfold dotFrom
      rw [if_pos (by exact Nat.le_of_not_lt hp)]
    rw [this, if_pos (by simp; lia)]
    exact Ends.mono (n := 2) (Ends.step (n := 1) rfl rfl (Ends.done rfl rfl)) (by exact Nat.le_add_left _ _)
end
end Mine
end
section
open PySem PySem.Sre
namespace Mine
noncomputable def cN : Array Nat := #[14, 10, 4, 1, 1, 22, 0, 31, 16, 127, 0, 13, 7, 22, 0, 31, 16, 127, 0, 1]
noncomputable def cV : Array Nat := #[14, 14, 4, 1, 1, 9, 4294966783, 0, 0, 2147483648, 0, 0, 0, 0, 0, 13, 11, 9, 4294966783, 0, 0, 2147483648, 0, 0, 0, 0, 0, 1]
section
variable {text : Array Nat} {lim s pos n : Nat} {sn : Seen} {ma : Bool} {P : M → Prop}
theorem inSetN (c : Nat) (sn : Seen) : ∃ sn', inSet cN c 20 5 true sn = .ok (decide (c ≤ 31) || c == 127, sn') := by
  have e : inSet cN c 20 5 true sn = if (decide (0 ≤ c) && decide (c ≤ 31)) = true then .ok (true, sn.add 22) else if c == 127 then .ok (true, (sn.add 22).add 16) else .ok (false, ((sn.add 22).add 16).add 0) := by
    rfl
  rw [e]
  have z : decide (0 ≤ c) = true := by exact rfl
  rw [z]
  cases h1 : decide (c ≤ 31)
  · cases h2 : c == 127
    · exact ⟨_, rfl⟩
    · exact ⟨_, rfl⟩
  · exact ⟨_, rfl⟩
noncomputable abbrev badV (c : Nat) : Bool := decide (c < 256) && (cV.getD (5 + (1 + c / 32)) 0).testBit (c % 32)
theorem inSetV (c : Nat) (sn : Seen) : ∃ sn', inSet cV c 28 5 true sn = .ok (badV c, sn') := by
  have e : inSet cV c 28 5 true sn = if badV c = true then .ok (true, sn.add 9) else .ok (false, (sn.add 9).add 0) := by
    rfl
  rw [e]
  cases h1 : badV c
  · exact ⟨_, rfl⟩
  · exact ⟨_, rfl⟩
theorem firstAt_none {f : Nat → Bool} (h : ∀ j, j < lim → f (text.getD j 0) = false) : ∀ (k s : Nat), firstAt text lim f k s = none := by
  intro k
  induction k with
  | zero => intro s; rfl
  | succ k ih =>
    intro s
    unfold firstAt
    split
    · rfl
    · rw [h s (by exact Nat.lt_of_not_le (by assumption))]; exact ih _
theorem searchN (h : ∀ j, j < lim → 31 < text.getD j 0 ∧ text.getD j 0 < 127) : Ends 30 (forSearch cN text 0 0 lim false) Miss := by
  have e : forSearch cN text 0 0 lim false = if (decide (0 > lim) || decide (lim - 0 < 1)) = true then (mk cN text 0 (({} : Seen).add 14) false 0 11 0 0 true [] 0 (some false) none : M) |> fun m => { m with lim, lastStart := 0 } else (mk cN text lim (({} : Seen).add 14) false 0 11 0 0 true [] 0 none none).attemptFrom 0 true := rfl
  rw [e]
  by_cases hp : 0 < lim
  · rw [if_neg (by simp; exact Nat.ne_of_gt hp)]
    obtain ⟨sn', ea⟩ := admitted_at (text := text) (lim := lim) (code := cN) (f := fun c => decide (c ≤ 31) || c == 127) inSetN (mk cN text lim (({} : Seen).add 14) false 0 11 0 0 true [] 0 none none) rfl rfl rfl (lim + 1 - 0) 0 (({} : Seen).add 14)
    rw [firstAt_none (fun j hj => by have := h j hj; simp only [Bool.or_eq_false_iff, decide_eq_false_iff_not, beq_eq_false_iff_ne]; (clear hj hp; omega))] at ea
    rw [attemptFrom_none (m := mk cN text lim (({} : Seen).add 14) false 0 11 0 0 true [] 0 none none) rfl ea]
    exact Ends.step (n := 29) (m' := mk cN text lim _ false 0 11 0 0 true [] 0 (some false) (some .failed)) rfl rfl (Ends.done rfl rfl)
  · rw [if_pos (by simp; lia)]
    exact Ends.step (n := 29) rfl rfl (Ends.done rfl rfl)
theorem badV_no {c : Nat} (h : 31 < c ∧ c < 127) : badV c = false := by
  have : ∀ c, c < 127 → 31 < c → badV c = false := by decide +kernel
  exact this c h.2 h.1
theorem searchV (h : ∀ j, j < lim → 31 < text.getD j 0 ∧ text.getD j 0 < 127) : Ends 30 (forSearch cV text 0 0 lim false) Miss := by
  have e : forSearch cV text 0 0 lim false = if (decide (0 > lim) || decide (lim - 0 < 1)) = true then (mk cV text 0 (({} : Seen).add 14) false 0 15 0 0 true [] 0 (some false) none : M) |> fun m => { m with lim, lastStart := 0 } else (mk cV text lim (({} : Seen).add 14) false 0 15 0 0 true [] 0 none none).attemptFrom 0 true := rfl
  rw [e]
  by_cases hp : 0 < lim
  · rw [if_neg (by simp; exact Nat.ne_of_gt hp)]
    obtain ⟨sn', ea⟩ := admitted_at (text := text) (lim := lim) (code := cV) (f := badV) inSetV (mk cV text lim (({} : Seen).add 14) false 0 15 0 0 true [] 0 none none) rfl rfl rfl (lim + 1 - 0) 0 (({} : Seen).add 14)
    rw [firstAt_none (fun j hj => badV_no (h j hj))] at ea
    rw [attemptFrom_none (m := mk cV text lim (({} : Seen).add 14) false 0 15 0 0 true [] 0 none none) rfl ea]
    exact Ends.step (n := 29) (m' := mk cV text lim _ false 0 15 0 0 true [] 0 (some false) (some .failed)) rfl rfl (Ends.done rfl rfl)
  · rw [if_pos (by simp; lia)]
    exact Ends.step (n := 29) rfl rfl (Ends.done rfl rfl)
end
end Mine
end
section
open PySem PySem.Builtin PySem.Builtin.Re
namespace Mine
structure PatAt (h : Heap) (pat : Addr) (code : Array Nat) : Prop where
  ex : ∃ o fs tb o2 its n t1 t2, h.get? pat = some o ∧ o.cls = .type "re.Pattern" ∧ o.data = .fields fs ∧ fs.getD 6 .none = .int 0 t1 ∧ fs.getD 2 .none = .int 0 t2 ∧ fs.getD 5 .none = .ref tb ∧ h.get? tb = some o2 ∧ o2.cls = .type "tuple" ∧ o2.data = .seq its n ∧ (its.map reRawOf).map (·.toNat) = code
theorem PatAt.keeps {h h' : Heap} {pat : Addr} {code : Array Nat} (p : PatAt h pat code) (k : ∀ b o, h.get? b = some o → h'.get? b = some o) : PatAt h' pat code := by
  refine qg fun G kG => ?_
  obtain ⟨o, fs, tb, o2, its, n, t1, t2, e1, e2, e3, e4, e5, e6, e7, e7', e8, e9⟩ := p.ex
  refine kG ?_
  exact ⟨o, fs, tb, o2, its, n, t1, t2, k _ _ e1, e2, e3, e4, e5, e6, k _ _ e7, e7', e8, e9⟩
theorem PatAt.but {h h' : Heap} {pat D : Addr} {oD : Obj} {code : Array Nat} (p : PatAt h pat code) (hD : h.get? D = some oD) (hc : oD.cls = .type "list") (k : ∀ b o, b ≠ D → h.get? b = some o → h'.get? b = some o) : PatAt h' pat code := by
  obtain ⟨o, fs, tb, o2, its, n, t1, t2, e1, e2, e3, e4, e5, e6, e7, e7', e8, e9⟩ := p.ex
  refine ⟨o, fs, tb, o2, its, n, t1, t2, k _ _ (fun q => ?_) e1, e2, e3, e4, e5, e6, k _ _ (fun q => ?_) e7, e7', e8, e9⟩
  · subst q; rw [e1] at hD; cases hD; rw [e2] at hc; simp at hc
  · subst q; rw [e7] at hD; cases hD; rw [e7'] at hc; simp at hc
section
variable {prog : Program} {w : World} {A : Around} {s : Shared} {R : Result → Shared → Prop} {E : Value → Shared → Prop}
theorem wpAny_drive {P : Sre.M → Prop} {Q : Sre.M → Shared → Prop} : ∀ (k : Nat) (n : Nat) (m : Sre.M), n < 4 * k → Ends n m P → (∀ m', m'.outcome.isSome → P m' → Q m' s) → wpAny (model prog w) A (reDrive k m) Q E s := by
  intro k
  induction k with
  | zero => intro n m hn; lia
  | succ k ih =>
    intro n m hn he hQ
    unfold reDrive
    show wpAny _ _ (if (Sre.M.runFor reTurnSteps m).outcome.isSome then pure _ else (do rule "sre.turn"; reDrive k _)) _ _ _
    split
    · rename_i h
      refine wpAny_pure ?_
      have e4 : Ends (reTurnSteps + n) m P := he.mono (by exact Nat.le_add_left _ _)
      unfold Ends at e4
      rw [runFor_add, runFor_some h] at e4
      exact hQ _ h e4.2
    · refine wpAny_bind (wpAny_rule ?_)
      have h4 : 4 ≤ n := by
        rcases Nat.lt_or_ge n 4 with q | q
        · exact absurd (he.mono (Nat.le_of_lt q) : Ends 4 m P).1 (by assumption)
        · exact q
      have e : Ends (n - 4) (Sre.M.runFor reTurnSteps m) P := by
        unfold Ends
        rw [← runFor_add]
        have : reTurnSteps + (n - 4) = n := by show 4 + (n - 4) = n; exact Nat.add_sub_of_le h4
        rw [this]
        exact he
      exact ih (n - 4) _ (by omega) e hQ
theorem wpAny_rules (m : Sre.M) : ∀ (l : List Nat) (Q : PUnit → Shared → Prop), Q ⟨⟩ s → wpAny (model prog w) A (forIn l PUnit.unit fun i _ => do
      if m.seen.has i then rule (Sre.names.getD i "")
      pure (ForInStep.yield PUnit.unit)) Q E s := by
  intro l
  induction l with
  | nil => intro Q h; rw [List.forIn_nil]; exact wpAny_pure h
  | cons i l ih =>
    intro Q h
    rw [List.forIn_cons]
    refine wpAny_bind ?_
    split
    · refine wpAny_bind (wpAny_rule (wpAny_pure ?_))
      exact ih Q h
    · refine wpAny_pure ?_
      exact ih Q h
theorem wpAny_hit {n a e : Nat} {m : Sre.M} {Q : Option Sre.M → Shared → Prop} (he : Ends n m (Hit a e)) (hn : n < 4 * 2 ^ 64) (hQ : ∀ m', m'.start = a → m'.handed = e → Q (some m') s) : wpAny (model prog w) A (reRunToEnd m) Q E s := by
  unfold reRunToEnd
  refine wpAny_bind (wpAny_drive (2 ^ 64) n m hn he fun m' _ hp => ?_)
  refine wpAny_bind (wpAny_rules m' _ _ ?_)
  rw [hp.1]
  exact wpAny_pure (hQ m' hp.2.1 hp.2.2)
theorem wpAny_miss {n : Nat} {m : Sre.M} {Q : Option Sre.M → Shared → Prop} (he : Ends n m Miss) (hn : n < 4 * 2 ^ 64) (hQ : Q none s) : wpAny (model prog w) A (reRunToEnd m) Q E s := by
  unfold reRunToEnd
  refine wpAny_bind (wpAny_drive (2 ^ 64) n m hn he fun m' _ hp => ?_)
  refine wpAny_bind (wpAny_rules m' _ _ ?_)
  rw [show m'.outcome = some .failed from hp]
  exact wpAny_pure hQ
theorem wpAny_textOf {x : Str} {t : Tok} {Q : Array Nat × Nat → Shared → Prop} (h : Q (x.cps, 0) s) : wpAny (model prog w) A (reTextOf (.str x t)) Q E s := by
  unfold reTextOf asStr?
  exact wpAny_bind (wpAny_pure (wpAny_pure h))
theorem wpAny_whole {pat : Addr} {code : Array Nat} {x : Str} {t : Tok} {Q : ReTarget → Shared → Prop} (p : PatAt s.heap pat code)
    (h : Q { pattern := .ref pat, string := .str x t, code, text := x.cps, kind := 0, groups := 0, pos := 0, lim := x.cps.size } s) : wpAny (model prog w) A (reWholeTarget (.ref pat) (.str x t)) Q E s := by
  refine qg fun G kG => ?_
  obtain ⟨o, fs, tb, o2, its, n, t1, t2, e1, e2, e3, e4, e5, e6, e7, e7', e8, e9⟩ := p.ex
  refine kG ?_
  unfold reWholeTarget
  refine wpAny_bind (wpAny_fieldsOf e1 e3 ?_)
  refine wpAny_bind (wpAny_textOf ?_)
  rw [e4, e5, e6]
  dsimp only [reRawNat]
  show wpAny (model prog w) A (reNoCollectionInside (.str x t) 0 >>= fun _ => _) Q E s
  refine wpAny_bind (wpAny_of_eq (show reNoCollectionInside (.str x t) 0 = pure () from rfl) ?_)
  unfold reRawItems
  refine wpAny_bind (wpAny_bind (wpAny_seqItems e7 e8 (wpAny_pure ?_)))
  refine wpAny_pure ?_
  subst e9
  exact h
end
end Mine
end
section
open PySem PySem.Builtin PySem.Builtin.Re
namespace Mine
theorem slot_sub : Slot "re.Pattern" "sub" "re.Pattern.sub" :=
  .of (owner := "re.Pattern") (n := "sub") (by rw [typeLookup_type, builtinLookup_eq_fast]; kernel_rfl) (by decide +kernel) (by decide +kernel) (by decide +kernel)
    (by first | exact .inl (by decide +kernel) | exact .inr (by decide +kernel)) (by rw [isSubtype_type]; kernel_rfl)
theorem entry_sub : entryFor table "re.Pattern.sub" = some Builtin.«re.Pattern.sub» := entryFor_of_fast (by kernel_rfl)
theorem entry_subloop : entryFor table "re.Pattern.sub.loop" = some Builtin.«re.Pattern.sub.loop» := entryFor_of_fast (by kernel_rfl)
theorem plain_subloop : plainId "re.Pattern.sub.loop" = true := by decide +kernel
theorem args_sub (a b c : Value) : argsOk "re.Pattern.sub" ⟨[a, b, c], []⟩ := by unfold argsOk; kernel_rfl
theorem slot_search : Slot "re.Pattern" "search" "re.Pattern.search" :=
  .of (owner := "re.Pattern") (n := "search") (by rw [typeLookup_type, builtinLookup_eq_fast]; kernel_rfl) (by decide +kernel) (by decide +kernel) (by decide +kernel)
    (by first | exact .inl (by decide +kernel) | exact .inr (by decide +kernel)) (by rw [isSubtype_type]; kernel_rfl)
theorem entry_search : entryFor table "re.Pattern.search" = some Builtin.«re.Pattern.search» := entryFor_of_fast (by kernel_rfl)
theorem args_search (a b : Value) : argsOk "re.Pattern.search" ⟨[a, b], []⟩ := by unfold argsOk; kernel_rfl
noncomputable def slice (x : Str) (a b : Nat) : Str := ⟨x.cps.extract a b⟩
structure Finds (code : Array Nat) (x : Str) (find : Nat → Option (Nat × Nat)) : Prop where
  hit : ∀ p ma a e, p ≤ x.cps.size → find p = some (a, e) → ∃ n, n < 4 * 2 ^ 64 ∧ Ends n (Sre.forSearch code x.cps 0 p x.cps.size ma) (Hit a e)
  miss : ∀ p ma, p ≤ x.cps.size → find p = none → ∃ n, n < 4 * 2 ^ 64 ∧ Ends n (Sre.forSearch code x.cps 0 p x.cps.size ma) Miss
  lo : ∀ p a e, find p = some (a, e) → p ≤ a ∧ a < e ∧ e ≤ x.cps.size
noncomputable def subP (find : Nat → Option (Nat × Nat)) (repl x : Str) : Nat → Nat → List Str
  | 0, _ => []
  | k + 1, p => match find p with
    | some (a, e) => (if p < a then [slice x p a] else []) ++ repl :: subP find repl x k e
    | none => if p < x.cps.size then [slice x p x.cps.size] else []
section
variable {prog : Program} {w : World} {A : Around} {s : Shared} {R : Result → Shared → Prop} {E : Value → Shared → Prop}
theorem slice_len (x : Str) (a b : Nat) (hb : b ≤ x.cps.size) : (slice x a b).length = b - a := by
  show (x.cps.extract a b).size = _
  rw [Array.size_extract]
  lia
theorem foldl_len (l : List Str) : ∀ n : Nat, l.foldl (fun a (y : Str) => a + y.length + 0) n = n + (l.map (·.length)).sum := by
  induction l with
  | nil => intro n; rfl
  | cons y l ih => intro n; rw [List.foldl_cons, ih, List.map_cons, List.sum_cons]; lia
theorem sub_loop {pat : Addr} {code : Array Nat} {x repl : Str} {t tr : Tok} {find : Nat → Option (Nat × Nat)} (F : Finds code x find) (hx : x.cps.size ≤ 1000000) (hr : repl.length ≤ 2) :
    ∀ (k p : Nat) (ma : Bool) (n : Int) (s : Shared) (D : Addr) (c : Nat) (done : List (Str × Tok)), x.cps.size - p < k → p ≤ x.cps.size → PatAt s.heap pat code →
    s.heap.get? D = some { cls := .type "list", dict := none, data := .seq (strValues done).toArray c, slots := #[] } → done.length ≤ 2 * p → ((done.map (·.1)).map (·.length)).sum ≤ 3 * p →
    (∀ h' u tk, (∀ b o, b ≠ D → s.heap.get? b = some o → h'.get? b = some o) → R (.ok (.ret (.str (Str.join ⟨#[]⟩ (done.map (·.1) ++ subP find repl x k p)) u))) { s with heap := h', toks := tk }) →
    codeAny (model prog w) A (.builtin "re.Pattern.sub.loop" ⟨[.ref pat, .str x t, .str repl tr, rawInt 0, rawInt 0, rawInt n, rawInt p, rawInt p, .bool ma, .ref D, .bool false], []⟩) R s := by
  intro k
  induction k with
  | zero => intro p ma n s D c done hk; lia
  | succ k ih =>
    intro p ma n s D c done hk hp hpat hD hd1 hd2 hR
    refine codeAny_builtin entry_subloop ?_
    rw [Around.under_plainId plain_subloop _]
    show wpAny _ A.in1 (reWholeTarget (.ref pat) (.str x t) >>= _) _ _ s
    refine wpAny_bind (wpAny_whole hpat ?_)
    unfold subP at hR
    refine wt (by decide) ?_
    refine wpAny_bind (wpAny_of_eq (show reLiteralCannotBeTurned (.str repl tr) = pure () from rfl) ?_)
    refine wpAny_bind ?_
    refine wf (by simp) ?_
    unfold reNextFound
    rw [Int.toNat_natCast]
    have hsz : (strValues done).toArray.size = done.length := by exact List.length_map _
    have hsl : sizeLine = 16777216 := by decide
    cases hf : find p with
    | some ae =>
      obtain ⟨a, e⟩ := ae
      rw [hf] at hR
      dsimp only at hR
      obtain ⟨n0, hn0, hE⟩ := F.hit p ma a e hp hf
      obtain ⟨l1, l2, l3⟩ := F.lo p a e hf
      refine wpAny_hit hE hn0 fun m' hs he => ?_
      dsimp only
      rw [hs, he]
      have fin : ∀ (h₁ : Heap) (u₁ : Nat) (c₁ : Nat) (done₁ : List (Str × Tok)), (∀ b o, b ≠ D → s.heap.get? b = some o → h₁.get? b = some o) →
          h₁.get? D = some { cls := .type "list", dict := none, data := .seq (strValues done₁).toArray c₁, slots := #[] } → done₁.map (·.1) = done.map (·.1) ++ (if p < a then [slice x p a] else []) → done₁.length ≤ 2 * p + (if p < a then 1 else 0) →
          wpAny (model prog w) A.in1 (do
            let item ← (if ((0 : Int) == 0) = true then pure (Value.str repl tr) else (do
              let found ← reNewMatch (.ref pat) (.str x t) 0 0 x.cps.size m'
              holding [found] (if ((0 : Int) == 1) = true then call (.str repl tr) [found] else do reExpand (.str repl tr) (← reFound found))))
            if item != .none then updateSeq D (·.push item)
            again (.builtin "re.Pattern.sub.loop" ⟨[.ref pat, .str x t, .str repl tr, rawInt 0, rawInt 0, rawInt (n + 1), rawInt e, rawInt e, .bool (e == a), .ref D, .bool false], []⟩))
            (fun fin s' => match fin with | .done f => R (.ok f) s' | .again c' => c'.quiet = true ∧ codeAny (model prog w) A c' R s') (fun e s' => R (.error e) s') { s with heap := h₁, toks := u₁ } := by
        intro h₁ u₁ c₁ done₁ k₁ hD₁ hm₁ hl₁
        obtain ⟨c₂, ec₂⟩ := mapSeq_lst (strValues done₁).toArray (strValues (done₁ ++ [(repl, tr)])).toArray c₁ (·.push (.str repl tr)) (by simp [strValues])
        have k₂ : ∀ b o, b ≠ D → s.heap.get? b = some o → (h₁.update D (Obj.mapSeq (·.push (.str repl tr)))).get? b = some o := fun b o hb e => (Heap.get?_update_other _ _ (fun h : D = b => hb h.symm)).trans (k₁ b o hb e)
        rw [if_pos (by decide)]
        refine wpAny_bind (wpAny_pure ?_)
        refine wt (by rfl) ?_
        have hsz₁ : (strValues done₁).toArray.size = done₁.length := by exact List.length_map _
        have hb : (if p < a then 1 else 0) ≤ 1 := by split <;> lia
        refine wpAny_bind (wpAny_updateSeq (s := { s with heap := h₁, toks := u₁ }) hD₁ rfl ?_ (by rw [hsz₁]; lia) (by rw [Array.size_push, hsz₁]; lia))
        refine wpAny_pure ⟨plainId_quiet plain_subloop _, ?_⟩
        have hsum : ((done₁.map (·.1)).map (·.length)).sum ≤ 3 * p + (a - p) := by
          rw [hm₁, List.map_append, List.sum_append]
          split
          · have := slice_len x p a (by (clear hb hsz₁ hl₁ he hs l1 hn0 hsl hsz hd2 hd1 hp hk hr hx; lia))
            simp only [List.map_cons, List.map_nil, List.sum_cons, List.sum_nil]
            lia
          · simp only [List.map_nil, List.sum_nil]; lia
        refine ih e (e == a) (n + 1) _ D c₂ (done₁ ++ [(repl, tr)]) (by (clear hsum hb hsz₁ hl₁ he hs hn0 hsl hsz hd2 hd1 hp hr hx; omega)) l3 (hpat.but hD rfl k₂) ((Heap.get?_update_self _ hD₁ rfl).trans (congrArg some ec₂)) ?_ ?_ fun h' u tk hk => ?_
        · rw [List.length_append]
          simp only [List.length_cons, List.length_nil]
          lia
        · rw [List.map_append, List.map_append, List.sum_append]
          simp only [List.map_cons, List.map_nil, List.sum_cons, List.sum_nil]
          lia
        · have := hR h' u tk fun b o hb e => hk b o hb (k₂ b o hb e)
          rw [List.map_append, hm₁]
          simp only [List.map_cons, List.map_nil, List.append_assoc, List.cons_append, List.nil_append] at this ⊢
          exact this
      split
      · rename_i hpa
        unfold reSlice
        rw [if_pos (by decide)]
        refine wpAny_bind (wpAny_mkStr ?_ (by have := slice_len x p a (by (clear hpa he hs l1 hn0 hsl hsz hd2 hd1 hp hk hr hx; lia)); show (slice x p a).length ≤ _; (clear hpa he hs l1 hn0 hsz hd2 hd1 hp hk hr; lia)))
        obtain ⟨c₂, ec₂⟩ := mapSeq_lst (strValues done).toArray (strValues (done ++ [(slice x p a, s.toks)])).toArray c (·.push (.str (slice x p a) s.toks)) (by simp [strValues])
        refine wpAny_bind (wpAny_updateSeq (s := { s with toks := s.toks + 1 }) hD rfl ?_ (by rw [hsz]; lia) (by rw [Array.size_push, hsz]; lia))
        exact fin _ _ c₂ (done ++ [(slice x p a, s.toks)]) (fun b o hb e => (Heap.get?_update_other _ _ (fun h : D = b => hb h.symm)).trans e) ((Heap.get?_update_self _ hD rfl).trans (congrArg some ec₂)) (by simp [hpa]) (by simp [hpa]; omega)
      · rename_i hpa
        exact fin s.heap s.toks c done (fun b o hb e => e) hD (by simp [hpa]) (by simp [hpa]; omega)
    | none =>
      rw [hf] at hR
      dsimp only at hR
      obtain ⟨n0, hn0, hE⟩ := F.miss p ma hp hf
      refine wpAny_miss hE hn0 ?_
      dsimp only
      have fin : ∀ (h₁ : Heap) (u₁ : Nat) (c₁ : Nat) (done₁ : List (Str × Tok)), (∀ b o, b ≠ D → s.heap.get? b = some o → h₁.get? b = some o) →
          h₁.get? D = some { cls := .type "list", dict := none, data := .seq (strValues done₁).toArray c₁, slots := #[] } → done₁.map (·.1) = done.map (·.1) ++ (if p < x.cps.size then [slice x p x.cps.size] else []) →
          wpAny (model prog w) A.in1 (do
            let joiner ← reSlice x.cps 0 0 0
            let its ← seqItems? (.ref D)
            if (its.getD #[]).isEmpty = true then (do
              let text ← pure joiner
              if false = true then (do ret (← holding [text] (do newTuple [text, ← mkInt n]))) else ret text)
            else (do
              let text ← call (.builtin (if ((0 : Nat) == 0) = true then "str.join" else "bytes.join")) [joiner, .ref D]
              if false = true then (do ret (← holding [text] (do newTuple [text, ← mkInt n]))) else ret text))
            (fun fin s' => match fin with | .done f => R (.ok f) s' | .again c' => c'.quiet = true ∧ codeAny (model prog w) A c' R s') (fun e s' => R (.error e) s') { s with heap := h₁, toks := u₁ } := by
        intro h₁ u₁ c₁ done₁ k₁ hD₁ hm₁
        have hsum : ((done₁.map (·.1)).map (·.length)).sum ≤ 3 * x.cps.size := by
          rw [hm₁, List.map_append, List.sum_append]
          split
          · have := slice_len x p x.cps.size (by exact Nat.le_refl _)
            simp only [List.map_cons, List.map_nil, List.sum_cons, List.sum_nil]
            (clear hn0 hsl hsz hd1 hp hk hr hx; lia)
          · simp only [List.map_nil, List.sum_nil]; lia
        have e00 : x.cps.extract 0 0 = #[] := by simp
        unfold reSlice
        rw [if_pos (by decide), e00]
        refine wpAny_bind (wpAny_mkStr ?_ (by show (0 : Nat) ≤ _; exact Nat.zero_le _))
        refine wpAny_bind (wpAny_seqItems hD₁ rfl ?_)
        split
        · rename_i hemp
          have : done₁ = [] := by
            cases done₁ with
            | nil => rfl
            | cons a b => simp [strValues] at hemp
          subst this
          refine wpAny_bind (wpAny_pure ?_)
          refine wpAny_pure ?_
          have := hR h₁ u₁ (u₁ + 1) k₁
          rw [← hm₁] at this
          exact this
        · rw [if_pos (by decide)]
          refine wpAny_bind ?_
          refine SC.join (l := done₁) (texts := done₁.map (·.1)) ⟨_, hD₁, rfl, _, rfl⟩ rfl ?_ fun t' k' => ?_
          · unfold JoinOk Builtin.Str.tooLong
            rw [List.foldl_toArray]
            have := foldl_len (done₁.map (·.1)) 0
            simp only [show (({ cps := #[] } : Str).length) = 0 from rfl]
            rw [this]
            simp only [Bool.not_eq_true', decide_eq_false_iff_not]
            lia
          · refine wpAny_pure ?_
            have := hR h₁ t' k' k₁
            rw [← hm₁, ← Txt_join] at this
            exact this
      split
      · rename_i hpa
        unfold reSlice
        rw [if_pos (by decide)]
        refine wpAny_bind (wpAny_mkStr ?_ (by have := slice_len x p x.cps.size (by exact Nat.le_refl _); show (slice x p x.cps.size).length ≤ _; lia))
        obtain ⟨c₂, ec₂⟩ := mapSeq_lst (strValues done).toArray (strValues (done ++ [(slice x p x.cps.size, s.toks)])).toArray c (·.push (.str (slice x p x.cps.size) s.toks)) (by simp [strValues])
        refine wpAny_bind (wpAny_updateSeq (s := { s with toks := s.toks + 1 }) hD rfl ?_ (by rw [hsz]; (clear hpa hn0 hsz hd2 hk hr; lia)) (by rw [Array.size_push, hsz]; (clear hpa hn0 hsz hd2 hk hr; lia)))
        exact fin _ _ c₂ (done ++ [(slice x p x.cps.size, s.toks)]) (fun b o hb e => (Heap.get?_update_other _ _ (fun h : D = b => hb h.symm)).trans e) ((Heap.get?_update_self _ hD rfl).trans (congrArg some ec₂)) (by simp [hpa])
      · rename_i hpa
        exact fin s.heap s.toks c done (fun b o hb e => e) hD (by simp [hpa])
end
end Mine
end
section
open PySem PySem.Builtin PySem.Builtin.Re
namespace Mine
theorem str_nocall : typeLookup (.type "str") "__call__" = pure none := by rw [typeLookup_type, builtinLookup_eq_fast]; kernel_rfl
section
variable {prog : Program} {w : World} {A : Around} {s : Shared} {Q : Value → Shared → Prop} {E : Value → Shared → Prop}
theorem call_sub {pat : Addr} {code : Array Nat} {x repl : Str} {t tr : Tok} {find : Nat → Option (Nat × Nat)} (p : PatAt s.heap pat code) (F : Finds code x find) (hx : x.cps.size ≤ 1000000) (hr : repl.length ≤ 2) (hb : repl.cps.contains 92 = false)
    (hQ : ∀ h' u tk, (∀ b o, s.heap.get? b = some o → h'.get? b = some o) → Q (.str (Str.join ⟨#[]⟩ (subP find repl x (x.cps.size + 1) 0)) u) { s with heap := h', toks := tk }) :
    wpAny (model prog w) A (call (.builtin "re.Pattern.sub") [.ref pat, .str repl tr, .str x t]) Q E s := by
  refine qg fun G kG => ?_
  obtain ⟨o, fs, tb, o2, its, n, t1, t2, e1, e2, e3, e4, e5, e6, e7, e7', e8, e9⟩ := id p.ex
  refine kG ?_
  refine wpAny_call (codeAny_call_builtin slot_sub.plain entry_sub (slot_sub.check _ _ _ _ _ _ _ _ ⟨o, e1, e2⟩ (args_sub _ _ _) ?_))
  show wpAny _ A.in1 (reNamed "re.Pattern.sub" "sub" ["repl", "string", "count"] 2 [.str repl tr, .str x t] [] >>= _) _ _ _
  refine wpAny_bind (wpAny_of_eq (show reNamed "re.Pattern.sub" "sub" ["repl", "string", "count"] 2 [.str repl tr, .str x t] [] = pure [some (.str repl tr), some (.str x t), none] from rfl) ?_)
  refine wpAny_bind (wpAny_pure ?_)
  refine wpAny_bind (wpAny_specialOf (typeIs_str _ _ _) str_nocall ?_)
  show wpAny _ A.in1 (_ >>= _) _ _ _
  refine wpAny_bind (wpAny_of_eq (show asStr? (.str repl tr) = pure (some repl) from rfl) ?_)
  show wpAny _ A.in1 (pure (!repl.cps.contains 92) >>= _) _ _ _
  refine wpAny_bind (wpAny_pure ?_)
  rw [hb]
  show wpAny _ A.in1 (pure (Value.str repl tr, 0) >>= _) _ _ _
  refine wpAny_bind (wpAny_pure ?_)
  refine wpAny_bind (wpAny_holding (wpAny_whole p ?_))
  show wpAny _ A.in1 (newList [] >>= _) _ _ _
  refine wpAny_bind (wpAny_newList ?_)
  refine wpAny_pure ⟨plainId_quiet plain_subloop _, ?_⟩
  have k : ∀ b o, s.heap.get? b = some o → (s.heap.push { cls := .type "list", data := .seq ([] : List Value).toArray }).get? b = some o := fun b o e => Heap.get?_push_of_some _ e
  refine sub_loop F hx hr (x.cps.size + 1) 0 false 0 _ s.heap.objs.size 0 [] (by exact Nat.sub_lt_succ _ _) (Nat.zero_le _) (p.keeps k) (Heap.get?_push_size _ rfl) (Nat.zero_le _) (Nat.zero_le _) fun h' u tk hk => ?_
  exact hQ h' u tk fun b o e => hk b o (Nat.ne_of_lt (Heap.lt_size e)) (k b o e)
theorem call_search_miss {pat : Addr} {code : Array Nat} {x : Str} {t : Tok} {n : Nat} (p : PatAt s.heap pat code) (hx : x.cps.size ≤ 1000000)
    (he : Ends n (Sre.forSearch code x.cps 0 0 x.cps.size false) Miss) (hn : n < 4 * 2 ^ 64) (hQ : Q .none s) :
    wpAny (model prog w) A (call (.builtin "re.Pattern.search") [.ref pat, .str x t]) Q E s := by
  refine qg fun G kG => ?_
  obtain ⟨o, fs, tb, o2, its, n', t1, t2, e1, e2, e3, e4, e5, e6, e7, e7', e8, e9⟩ := id p.ex
  refine kG ?_
  refine wpAny_call (codeAny_call_builtin slot_search.plain entry_search (slot_search.check _ _ _ _ _ _ _ _ ⟨o, e1, e2⟩ (args_search _ _) ?_))
  unfold Builtin.«re.Pattern.search»
  refine wpAny_bind ?_
  unfold reTarget
  show wpAny _ A.in1 (reNamed "re.Pattern.search" "search" ["string", "pos", "endpos"] 1 [.str x t] [] >>= _) _ _ _
  refine wpAny_bind (wpAny_of_eq (show reNamed "re.Pattern.search" "search" ["string", "pos", "endpos"] 1 [.str x t] [] = pure [some (.str x t), none, none] from rfl) ?_)
  refine wpAny_bind (wpAny_pure (wpAny_bind (wpAny_pure ?_)))
  refine wpAny_bind (wpAny_fieldsOf e1 e3 ?_)
  refine wpAny_bind (wpAny_textOf ?_)
  rw [e4, e5, e6]
  dsimp only [reRawNat]
  show wpAny (model prog w) _ (reNoCollectionInside (.str x t) 0 >>= fun _ => _) _ E s
  refine wpAny_bind (wpAny_of_eq (show reNoCollectionInside (.str x t) 0 = pure () from rfl) ?_)
  unfold reRawItems
  refine wpAny_bind (wpAny_bind (wpAny_seqItems e7 e8 (wpAny_pure ?_)))
  refine wpAny_pure ?_
  subst e9
  unfold reAnswer
  dsimp only
  have hlim : min ((2 : Int) ^ 63 - 1).toNat x.cps.size = x.cps.size := by
    have : ((2 : Int) ^ 63 - 1).toNat = 9223372036854775807 := by decide
    rw [this]; lia
  rw [hlim, show min (Int.toNat 0) x.cps.size = 0 by exact rfl]
  refine wpAny_bind (wpAny_miss he hn ?_)
  exact wpAny_pure hQ
end
section
noncomputable def norm : List Nat → List Nat
  | [] => []
  | [c] => if c = 13 then [13, 10] else if c = 10 then [13, 10] else [c]
  | c :: d :: l => if c = 13 then (if d = 10 then 13 :: 10 :: norm l else 13 :: 10 :: norm (d :: l)) else if c = 10 then 13 :: 10 :: norm (d :: l) else c :: norm (d :: l)
noncomputable def dots : Bool → List Nat → List Nat
  | _, [] => []
  | b, c :: l => if b = true ∧ c = 46 then 46 :: 46 :: dots false l else c :: dots (c == 10) l
noncomputable def find2 (x : Str) (p : Nat) : Option (Nat × Nat) := (firstAt x.cps x.cps.size (fun c => c == 10 || c == 13) (x.cps.size + 1 - p) p).map fun a => (a, nxt2 x.cps x.cps.size a)
noncomputable def find1 (x : Str) (p : Nat) : Option (Nat × Nat) := (dotFrom x.cps x.cps.size (x.cps.size + 1 - p) p).map fun a => (a, a + 1)
theorem firstAt_spec {text : Array Nat} {lim : Nat} {f : Nat → Bool} : ∀ {k p : Nat}, lim + 1 - p ≤ k → match firstAt text lim f k p with
    | some r => p ≤ r ∧ r < lim ∧ f (text.getD r 0) = true ∧ ∀ j, p ≤ j → j < r → f (text.getD j 0) = false
    | none => ∀ j, p ≤ j → j < lim → f (text.getD j 0) = false := by
  intro k
  induction k with
  | zero => intro p h; unfold firstAt; intro j h1 h2; omega
  | succ k ih =>
    intro p h
    unfold firstAt
    by_cases hp : p ≥ lim
    · rw [if_pos hp]; intro j h1 h2; lia
    · rw [if_neg hp]
      by_cases hf : f (text.getD p 0) = true
      · rw [if_pos hf]; exact ⟨Nat.le_refl _, by exact Nat.lt_of_not_le hp, hf, fun j h1 h2 => by (clear hp h; lia)⟩
      · rw [if_neg hf]
        have := ih (p := p + 1) (by (clear hp; omega))
        revert this
        cases firstAt text lim f k (p + 1) with
        | none =>
          intro h j h1 h2
          rcases Nat.eq_or_lt_of_le h1 with q | q
          · subst q; simpa using hf
          · exact h j q h2
        | some r =>
          rintro ⟨a, b, c, d⟩
          refine ⟨by exact Nat.le_of_lt a, b, c, fun j h1 h2 => ?_⟩
          rcases Nat.eq_or_lt_of_le h1 with q | q
          · subst q; simpa using hf
          · exact d j q h2
theorem dotFrom_spec {text : Array Nat} {lim : Nat} : ∀ {k p : Nat}, lim + 1 - p ≤ k → match dotFrom text lim k p with
    | some r => p ≤ r ∧ r < lim ∧ dotAt text r ∧ ∀ j, p ≤ j → j < r → ¬ dotAt text j
    | none => ∀ j, p ≤ j → j < lim → ¬ dotAt text j := by
  intro k
  induction k with
  | zero => intro p h; unfold dotFrom; intro j h1 h2; omega
  | succ k ih =>
    intro p h
    unfold dotFrom
    by_cases hp : p ≥ lim
    · rw [if_pos hp]; intro j h1 h2; lia
    · rw [if_neg hp]
      by_cases hf : dotAt text p
      · rw [if_pos hf]; exact ⟨Nat.le_refl _, by exact Nat.lt_of_not_le hp, hf, fun j h1 h2 => by lia⟩
      · rw [if_neg hf]
        have := ih (p := p + 1) (by (clear hp; omega))
        revert this
        cases dotFrom text lim k (p + 1) with
        | none =>
          intro h j h1 h2
          rcases Nat.eq_or_lt_of_le h1 with q | q
          · subst q; exact hf
          · exact h j q h2
        | some r =>
          rintro ⟨a, b, c, d⟩
          refine ⟨by exact Nat.le_of_lt a, b, c, fun j h1 h2 => ?_⟩
          rcases Nat.eq_or_lt_of_le h1 with q | q
          · subst q; exact hf
          · exact d j q h2
theorem nxt2_b {text : Array Nat} {lim a : Nat} (h : a < lim) : a < nxt2 text lim a ∧ nxt2 text lim a ≤ lim := by
  unfold nxt2
  by_cases q : text.getD a 0 = 13 ∧ a + 1 < lim ∧ text.getD (a + 1) 0 = 10
  · rw [if_pos q]; omega
  · rw [if_neg q]; lia
theorem finds2 (x : Str) (hx : x.cps.size ≤ 1000000) : Finds c2 x (find2 x) := by
  refine ⟨fun p ma a e hp h => ?_, fun p ma hp h => ?_, fun p a e h => ?_⟩
  · unfold find2 at h
    have := search2 (text := x.cps) (lim := x.cps.size) (ma := ma) p hp
    cases q : firstAt x.cps x.cps.size (fun c => c == 10 || c == 13) (x.cps.size + 1 - p) p with
    | none => rw [q] at h; cases h
    | some r =>
      rw [q] at h this
      cases h
      exact ⟨30, by decide, this⟩
  · unfold find2 at h
    have := search2 (text := x.cps) (lim := x.cps.size) (ma := ma) p hp
    cases q : firstAt x.cps x.cps.size (fun c => c == 10 || c == 13) (x.cps.size + 1 - p) p with
    | none => rw [q] at this; exact ⟨30, by decide, this⟩
    | some r => rw [q] at h; cases h
  · unfold find2 at h
    have := firstAt_spec (text := x.cps) (lim := x.cps.size) (f := fun c => c == 10 || c == 13) (Nat.le_refl (x.cps.size + 1 - p))
    cases q : firstAt x.cps x.cps.size (fun c => c == 10 || c == 13) (x.cps.size + 1 - p) p with
    | none => rw [q] at h; cases h
    | some r =>
      rw [q] at h this
      cases h
      obtain ⟨a1, a2, a3, a4⟩ := this
      exact ⟨a1, nxt2_b a2⟩
theorem finds1 (x : Str) (hx : x.cps.size ≤ 1000000) : Finds c1 x (find1 x) := by
  refine ⟨fun p ma a e hp h => ?_, fun p ma hp h => ?_, fun p a e h => ?_⟩
  · unfold find1 at h
    have := search1 (text := x.cps) (lim := x.cps.size) (ma := ma) p hp
    cases q : dotFrom x.cps x.cps.size (x.cps.size + 1 - p) p with
    | none => rw [q] at h; cases h
    | some r =>
      rw [q] at h this
      cases h
      exact ⟨_, by lia, this⟩
  · unfold find1 at h
    have := search1 (text := x.cps) (lim := x.cps.size) (ma := ma) p hp
    cases q : dotFrom x.cps x.cps.size (x.cps.size + 1 - p) p with
    | none => rw [q] at this; exact ⟨_, by lia, this⟩
    | some r => rw [q] at h; cases h
  · unfold find1 at h
    have := dotFrom_spec (text := x.cps) (lim := x.cps.size) (Nat.le_refl (x.cps.size + 1 - p))
    cases q : dotFrom x.cps x.cps.size (x.cps.size + 1 - p) p with
    | none => rw [q] at h; cases h
    | some r =>
      rw [q] at h this
      cases h
      obtain ⟨a1, a2, a3, a4⟩ := this
      exact ⟨a1, by exact Nat.lt_succ_self _, by assumption⟩
end
end Mine
end
section
open PySem
namespace Mine
theorem join_cps (sep : Str) (h : sep.cps = #[]) : ∀ l : List Str, (Str.join sep l).cps.toList = (l.map (·.cps.toList)).flatten
  | [] => rfl
  | [x] => by show x.cps.toList = _; simp
  | x :: y :: r => by
    have ih := join_cps sep h (y :: r)
    show (x ++ sep ++ Str.join sep (y :: r)).cps.toList = _
    have e : (x ++ sep ++ Str.join sep (y :: r)).cps = x.cps ++ sep.cps ++ (Str.join sep (y :: r)).cps := rfl
    rw [e, h]
    simp [ih]
noncomputable def isBrk (c : Nat) : Bool := c == 10 || c == 13
theorem norm_ne {c : Nat} {l : List Nat} (h : c ≠ 13) : norm (c :: l) = if c = 10 then 13 :: 10 :: norm l else c :: norm l := by
  cases l with
  | nil => simp [norm, h]
  | cons d l => simp [norm, h]
theorem norm_crlf {r : List Nat} : norm (13 :: 10 :: r) = 13 :: 10 :: norm r := by exact rfl
theorem norm_cr {l : List Nat} (h : ∀ r, l ≠ 10 :: r) : norm (13 :: l) = 13 :: 10 :: norm l := by
  cases l with
  | nil => exact rfl
  | cons d l =>
    have : d ≠ 10 := fun e => h l (by rw [e])
    simp [norm, this]
theorem norm_app : ∀ (a b : List Nat), (∀ c ∈ a, isBrk c = false) → norm (a ++ b) = a ++ norm b
  | [], b, _ => rfl
  | c :: a, b, h => by
    have hc := h c (.head _)
    unfold isBrk at hc
    simp only [Bool.or_eq_false_iff, beq_eq_false_iff_ne] at hc
    rw [List.cons_append, norm_ne hc.2, if_neg hc.1, norm_app a b fun c hc => h c (.tail _ hc)]
    rfl
theorem norm_none (a : List Nat) (h : ∀ c ∈ a, isBrk c = false) : norm a = a := by
  have := norm_app a [] h
  simpa [norm] using this
theorem drop_split (l : List Nat) (p a : Nat) (h : p ≤ a) : l.drop p = (l.drop p).take (a - p) ++ l.drop a := by
  have : l.drop a = (l.drop p).drop (a - p) := by rw [List.drop_drop]; congr 1; lia
  rw [this, List.take_append_drop]
theorem slice_list (x : Str) (a b : Nat) : (slice x a b).cps.toList = (x.cps.toList.drop a).take (b - a) := by
  show (x.cps.extract a b).toList = _
  rw [Array.toList_extract, List.extract_eq_take_drop]
theorem getD_list (x : Str) (j : Nat) : x.cps.getD j 0 = x.cps.toList.getD j 0 := by
  simp [Array.getD_eq_getD_getElem?, List.getD_eq_getElem?_getD]
theorem mem_gap {x : Str} {p a : Nat} {c : Nat} (ha : a ≤ x.cps.size) (h : c ∈ (x.cps.toList.drop p).take (a - p)) : ∃ j, p ≤ j ∧ j < a ∧ x.cps.getD j 0 = c := by
  obtain ⟨i, hi, e⟩ := List.mem_iff_getElem.mp h
  rw [List.length_take, List.length_drop, Array.length_toList] at hi
  refine ⟨p + i, by exact Nat.le_add_right _ _, by exact Nat.add_lt_of_lt_sub' (Nat.lt_of_lt_of_le hi (Nat.min_le_left ..)), ?_⟩
  rw [List.getElem_take, List.getElem_drop] at e
  rw [getD_list, List.getD_eq_getElem?_getD, List.getElem?_eq_getElem (by rw [Array.length_toList]; exact Nat.add_lt_of_lt_sub' (Nat.lt_of_lt_of_le hi (Nat.min_le_right ..))), e]
  rfl
theorem drop_at {x : Str} {a : Nat} (ha : a < x.cps.size) : x.cps.toList.drop a = x.cps.getD a 0 :: x.cps.toList.drop (a + 1) := by
  rw [List.drop_eq_getElem_cons (by simp only [Array.length_toList]; exact ha)]
  congr 1
  simp [Array.getD_eq_getD_getElem?, ha]
theorem sub2_list (x crlf : Str) (hc : crlf.cps.toList = [13, 10]) : ∀ (k p : Nat), x.cps.size - p < k → p ≤ x.cps.size → ((subP (find2 x) crlf x k p).map (·.cps.toList)).flatten = norm (x.cps.toList.drop p) := by
  intro k
  induction k with
  | zero => intro p h; lia
  | succ k ih =>
    intro p h hp
    unfold subP
    have sp := firstAt_spec (text := x.cps) (lim := x.cps.size) (f := fun c => c == 10 || c == 13) (Nat.le_refl (x.cps.size + 1 - p))
    have ef : find2 x p = (firstAt x.cps x.cps.size (fun c => c == 10 || c == 13) (x.cps.size + 1 - p) p).map fun a => (a, nxt2 x.cps x.cps.size a) := rfl
    rw [ef]
    cases q : firstAt x.cps x.cps.size (fun c => c == 10 || c == 13) (x.cps.size + 1 - p) p with
    | none =>
      rw [q] at sp
      have hn : norm (x.cps.toList.drop p) = x.cps.toList.drop p := by
        refine norm_none _ fun c hm => ?_
        have hm' : c ∈ (x.cps.toList.drop p).take (x.cps.size - p) := by rw [List.take_of_length_le (by simp only [List.length_drop, Array.length_toList]; exact Nat.le_refl _)]; exact hm
        obtain ⟨j, h1, h2, e⟩ := mem_gap (Nat.le_refl _) hm'
        rw [← e]
        exact sp j h1 h2
      rw [hn]
      dsimp only [Option.map]
      by_cases hl : p < x.cps.size
      · rw [if_pos hl]
        simp only [List.map_cons, List.map_nil, List.flatten_cons, List.flatten_nil, List.append_nil]
        rw [slice_list, List.take_of_length_le (by simp only [List.length_drop, Array.length_toList]; exact Nat.le_refl _)]
      · rw [if_neg hl]
        rw [List.drop_of_length_le (by simp only [Array.length_toList]; exact Nat.le_of_not_lt hl)]
        rfl
    | some a =>
      rw [q] at sp
      obtain ⟨a1, a2, a3, a4⟩ := sp
      dsimp only [Option.map]
      have nb := nxt2_b (text := x.cps) a2
      rw [List.map_append, List.flatten_append, List.map_cons, List.flatten_cons, hc]
      have ih' := ih (nxt2 x.cps x.cps.size a) (by lia) nb.2
      rw [ih']
      have e0 : ((if p < a then [slice x p a] else []).map (·.cps.toList)).flatten = (x.cps.toList.drop p).take (a - p) := by
        by_cases hl : p < a
        · rw [if_pos hl]
          simp only [List.map_cons, List.map_nil, List.flatten_cons, List.flatten_nil, List.append_nil]
          exact slice_list x p a
        · rw [if_neg hl]
          rw [show a - p = 0 by lia]
          rfl
      rw [e0]
      conv => rhs; rw [drop_split _ p a a1]
      rw [norm_app _ _ fun c hm => ?_]
      · congr 1
        rw [drop_at a2]
        unfold nxt2
        by_cases h13 : x.cps.getD a 0 = 13
        · by_cases hl : a + 1 < x.cps.size ∧ x.cps.getD (a + 1) 0 = 10
          · rw [if_pos ⟨h13, hl⟩, h13, drop_at hl.1, hl.2, norm_crlf]
            rfl
          · rw [if_neg fun h => hl h.2, h13, norm_cr]
            · rfl
            · intro r e
              by_cases hl' : a + 1 < x.cps.size
              · rw [drop_at hl'] at e
                exact hl ⟨hl', (List.cons.inj e).1⟩
              · rw [List.drop_of_length_le (by simp only [Array.length_toList]; exact Nat.le_of_not_lt hl')] at e
                cases e
        · have h10 : x.cps.getD a 0 = 10 := by
            simp only [Bool.or_eq_true, beq_iff_eq] at a3
            exact a3.resolve_right h13
          rw [if_neg fun h => h13 h.1, norm_ne h13, if_pos h10]
          rfl
      · obtain ⟨j, h1, h2, e⟩ := mem_gap (Nat.le_of_lt a2) hm
        rw [← e]
        exact a4 j h1 h2
noncomputable def bol (x : Str) (p : Nat) : Bool := decide (p = 0 ∨ x.cps.getD (p - 1) 0 = 10)
theorem bol_succ (x : Str) (p : Nat) : bol x (p + 1) = (x.cps.getD p 0 == 10) := by
  unfold bol
  rw [Nat.add_sub_cancel, Bool.eq_iff_iff]
  simp
theorem dotAt_iff (x : Str) (p : Nat) : dotAt x.cps p ↔ (bol x p = true ∧ x.cps.getD p 0 = 46) := by
  unfold dotAt bol
  rw [decide_eq_true_iff]
theorem dots_gap (x : Str) : ∀ (n p a : Nat), a - p = n → p ≤ a → a ≤ x.cps.size → (∀ j, p ≤ j → j < a → ¬ dotAt x.cps j) → dots (bol x p) (x.cps.toList.drop p) = (x.cps.toList.drop p).take (a - p) ++ dots (bol x a) (x.cps.toList.drop a) := by
  intro n
  induction n with
  | zero =>
    intro p a h1 h2 h3 h4
    have : p = a := by exact de0 h1 h2
    subst this
    rw [Nat.sub_self]
    rfl
  | succ n ih =>
    intro p a h1 h2 h3 h4
    have hp : p < x.cps.size := by exact dlt2 h1 h3
    have hd := h4 p (Nat.le_refl _) (by exact dlt h1)
    rw [dotAt_iff] at hd
    rw [drop_at hp]
    rw [dots, if_neg hd, ← bol_succ, ih (p + 1) a (by exact dst h1) (by exact dlt h1) h3 fun j q1 q2 => h4 j (by exact Nat.le_of_lt q1) q2]
    have : a - p = (a - (p + 1)) + 1 := by rw [dst h1, h1]
    rw [this, List.take_succ_cons]
    rfl
theorem rk {n p a k : Nat} (h : n - p < k + 1) (h1 : p ≤ a) (h2 : a < n) : n - (a + 1) < k := by lia
theorem sub1_list (x dd : Str) (hc : dd.cps.toList = [46, 46]) : ∀ (k p : Nat), x.cps.size - p < k → p ≤ x.cps.size → ((subP (find1 x) dd x k p).map (·.cps.toList)).flatten = dots (bol x p) (x.cps.toList.drop p) := by
  intro k
  induction k with
  | zero => intro p h; lia
  | succ k ih =>
    intro p h hp
    unfold subP
    have sp := dotFrom_spec (text := x.cps) (lim := x.cps.size) (Nat.le_refl (x.cps.size + 1 - p))
    have ef : find1 x p = (dotFrom x.cps x.cps.size (x.cps.size + 1 - p) p).map fun a => (a, a + 1) := rfl
    rw [ef]
    cases q : dotFrom x.cps x.cps.size (x.cps.size + 1 - p) p with
    | none =>
      rw [q] at sp
      rw [dots_gap x _ p x.cps.size rfl hp (Nat.le_refl _) sp]
      dsimp only [Option.map]
      rw [List.drop_of_length_le (i := x.cps.size) (by simp only [Array.length_toList]; exact Nat.le_refl _)]
      by_cases hl : p < x.cps.size
      · rw [if_pos hl]
        simp only [List.map_cons, List.map_nil, List.flatten_cons, List.flatten_nil, List.append_nil]
        rw [slice_list, dots]
        simp
      · rw [if_neg hl]
        rw [List.drop_of_length_le (by simp only [Array.length_toList]; exact Nat.le_of_not_lt hl), dots]
        simp
    | some a =>
      rw [q] at sp
      obtain ⟨a1, a2, a3, a4⟩ := sp
      dsimp only [Option.map]
      rw [List.map_append, List.flatten_append, List.map_cons, List.flatten_cons, hc, ih (a + 1) (rk h a1 a2) (by assumption)]
      have e0 : ((if p < a then [slice x p a] else []).map (·.cps.toList)).flatten = (x.cps.toList.drop p).take (a - p) := by
        by_cases hl : p < a
        · rw [if_pos hl]
          simp only [List.map_cons, List.map_nil, List.flatten_cons, List.flatten_nil, List.append_nil]
          exact slice_list x p a
        · rw [if_neg hl]
          rw [show a - p = 0 by lia]
          rfl
      rw [e0, dots_gap x _ p a rfl a1 (Nat.le_of_lt a2) a4]
      congr 1
      rw [dotAt_iff] at a3
      rw [drop_at a2, dots, if_pos a3, bol_succ, a3.2]
      rfl
noncomputable def quoteF (x : Str) : Str := ⟨(dots true (norm x.cps.toList)).toArray⟩
theorem sub2_str (x crlf : Str) (hc : crlf.cps.toList = [13, 10]) : Str.join ⟨#[]⟩ (subP (find2 x) crlf x (x.cps.size + 1) 0) = ⟨(norm x.cps.toList).toArray⟩ := by
  have h := join_cps ⟨#[]⟩ rfl (subP (find2 x) crlf x (x.cps.size + 1) 0)
  rw [sub2_list x crlf hc _ 0 (by exact Nat.sub_lt_succ _ _) (Nat.zero_le _), List.drop_zero] at h
  generalize Str.join ⟨#[]⟩ (subP (find2 x) crlf x (x.cps.size + 1) 0) = y at h
  obtain ⟨y⟩ := y
  rw [← h]
theorem sub1_str (x dd : Str) (hc : dd.cps.toList = [46, 46]) : Str.join ⟨#[]⟩ (subP (find1 x) dd x (x.cps.size + 1) 0) = ⟨(dots true x.cps.toList).toArray⟩ := by
  have h := join_cps ⟨#[]⟩ rfl (subP (find1 x) dd x (x.cps.size + 1) 0)
  rw [sub1_list x dd hc _ 0 (by exact Nat.sub_lt_succ _ _) (Nat.zero_le _), List.drop_zero] at h
  have b : bol x 0 = true := by exact rfl
  rw [b] at h
  generalize Str.join ⟨#[]⟩ (subP (find1 x) dd x (x.cps.size + 1) 0) = y at h
  obtain ⟨y⟩ := y
  rw [← h]
theorem norm_len : ∀ n (l : List Nat), l.length = n → (norm l).length ≤ 2 * l.length := by
  intro n
  induction n using Nat.strongRecOn with
  | _ n ih =>
    intro l hl
    match l, hl with
    | [], _ => simp [norm]
    | [c], _ => unfold norm; split <;> (try split) <;> simp
    | c :: d :: l, hl =>
      unfold norm
      have h1 := ih l.length (by simp at hl; lia) l rfl
      have h2 := ih (l.length + 1) (by simp at hl; exact Nat.le_of_eq hl) (d :: l) rfl
      simp only [List.length_cons] at h2 ⊢
      split
      · split <;> simp <;> lia
      · split <;> simp <;> lia
end Mine
end
section
open PySem PySem.W PySem.Calls PyProof.Rows Builtin Builtin.ObjectAttr
namespace Mine
theorem plainAttrs_pat : PlainAttrs "re.Pattern" :=
  ⟨⟨"object.__getattribute__", by rw [typeLookup_type, builtinLookup_eq_fast]; kernel_rfl, by decide +kernel⟩, by rw [typeLookup_type, builtinLookup_eq_fast]; kernel_rfl⟩
theorem ty_sub : typeOf (.builtin "re.Pattern.sub") = pure (.type "method_descriptor") := by kernel_rfl
theorem ty_search : typeOf (.builtin "re.Pattern.search") = pure (.type "method_descriptor") := by kernel_rfl
noncomputable def PatK (K : Frag) (pat tb : Addr) (code : Array Nat) : Prop :=
  ∃ fs its n t1 t2 o sl o2 sl2, K.lookup pat = some ⟨.type "re.Pattern", o, .fields fs, sl⟩ ∧ o = none ∧ fs.getD 6 .none = .int 0 t1 ∧ fs.getD 2 .none = .int 0 t2 ∧ fs.getD 5 .none = .ref tb ∧ K.lookup tb = some ⟨.type "tuple", o2, .seq its n, sl2⟩ ∧ (its.map Re.reRawOf).map (·.toNat) = code
theorem PatK.at {K : Frag} {pat tb : Addr} {code : Array Nat} {h : Heap} (p : PatK K pat tb code) (Y : K.In h) : PatAt h pat code ∧ ∃ o, h.get? pat = some o ∧ o.cls = .type "re.Pattern" ∧ o.dict = none := by
  refine qg fun G kG => ?_
  obtain ⟨fs, its, n, t1, t2, o, sl, o2, sl2, e1, e2, e3, e4, e5, e6, e7⟩ := p
  refine kG ?_
  exact ⟨⟨_, fs, tb, _, its, n, t1, t2, Y _ _ e1, rfl, rfl, e3, e4, e5, Y _ _ e6, rfl, rfl, e7⟩, _, Y _ _ e1, rfl, e2⟩
structure Fq (K : Frag) (mg : Str → Option Value) : Prop where
  q : FnAt K 55 (topSt 6) "quotedata" [] .none 54
  p1 : PatK K 43 42 c1
  p2 : PatK K 48 47 c2
  g1 : mg "twin_re_1_smtplib" = some (.ref 43)
  g2 : mg "_twin_re_2" = some (.ref 48)
  gc : ∃ t, mg "CRLF" = some (.str "\r\n" t)
section
variable {Pk : Addr → Prop}
variable {T : Tabs} {K : Frag} {cd : ClassData} {mg mb : Str → Option Value} {w : World} {A : Around} {s : Shared} {g h₀ h h' : Heap} {W W' : List Addr} {L C : Addr} {m : Str → Option Value} {kn : List (Addr × Obj)} {R : Result → Shared → Prop} {E : Value → Shared → Prop} {prog : Program}
theorem pat_meth {pat tb : Addr} {code : Array Nat} {name : Str} {id : String} {pl : Sem Bool} {Q : Value × List Value → Shared → Prop} (p : PatK K pat tb code) (Y : K.In s.heap) (slot : Slot "re.Pattern" name id) (ty : typeOf (.builtin id) = pure (.type "method_descriptor")) (h : Q (.builtin id, [.ref pat]) s) :
    wpAny (model prog w) A (getMethod (.ref pat) name pl) Q E s := by
  refine qg fun G kG => ?_
  obtain ⟨_, o, e1, e2, e3⟩ := p.at Y
  refine kG ?_
  exact getMethod_builtin ⟨o, e1, e2⟩ plainAttrs_pat slot ty (fun a e => by cases e; exact ⟨o, e1, e3⟩) h
theorem quote_spec {x : Str} {t : Tok} (FQ : Fq K mg) (G : Gb T K mg mb g) (S : St T g s.heap) (r : Rm A 3) (hx : x.cps.size ≤ 100000)
   (hR : ∀ s' t', Mv T g [] s.heap s'.heap → Ok s s' → R (.ok (.ret (.str (quoteF x) t'))) s') :
   codeAny (model PR w) A (.call (.ref 55) ⟨[.str x t], []⟩) R s := by
  obtain ⟨tc, gc⟩ := FQ.gc
  refine' j_callK (binds := [("data", .str x t)]) [] [] G S Kn.nil FQ.q r.lt (fun _ _ _ _ _ _ => BindsTo.of_eq rfl) (locs rfl) (by decide) ?_ rfl rfl rfl
  intro L h₁ t₁ j mv₁
  refine wpAny_execs_cons (wpAny_Return_some (MethodCall_ ?_))
  refine j_global (s := { s with heap := h₁, toks := t₁ }) G j FQ.g1 ?_
  refine pat_meth (s := { s with heap := h₁, toks := t₁ }) FQ.p1 (j.mv.st.In G) slot_sub ty_sub ?_
  refine callWith_method1 (args_cons (Constant_str (args_cons (MethodCall_ ?_))))
  refine j_global (s := { s with heap := h₁, toks := t₁ + 1 }) G j FQ.g2 ?_
  refine pat_meth (s := { s with heap := h₁, toks := t₁ + 1 }) FQ.p2 (j.mv.st.In G) slot_sub ty_sub ?_
  refine callWith_method1 (args_cons ?_)
  refine j_global (s := { s with heap := h₁, toks := t₁ + 1 }) G j gc (args_cons ?_)
  refine j_local (s := { s with heap := h₁, toks := t₁ + 1 }) j rfl (args_nil ?_)
  refine call_sub (s := { s with heap := h₁, toks := t₁ + 1 }) (FQ.p2.at (j.mv.st.In G)).1 (finds2 x (by exact Nat.le_trans (by assumption) (by decide))) (by exact Nat.le_trans (by assumption) (by decide)) (by decide +kernel) (by decide +kernel) fun h₂ u₂ t₂ k₂ => ?_
  obtain ⟨j₂, mv₂⟩ := j.keepsL k₂
  rw [sub2_str x _ (by decide +kernel)]
  refine args_nil ?_
  have hn := norm_len _ x.cps.toList rfl
  have hxl : x.cps.toList.length = x.cps.size := Array.length_toList
  refine call_sub (s := { s with heap := h₂, toks := t₂ }) (FQ.p1.at (j₂.mv.st.In G)).1 (finds1 _ (by rw [List.size_toArray]; lia)) (by rw [List.size_toArray]; lia) (by decide +kernel) (by decide +kernel) fun h₃ u₃ t₃ k₃ => ?_
  obtain ⟨j₃, mv₃⟩ := j₂.keepsL k₃
  rw [sub1_str _ _ (by decide +kernel)]
  exact hR { s with heap := h₃, toks := t₃ } u₃ j₃.mv Ok.heap
end
end Mine
end
section
open PySem
namespace Mine
theorem empty_cps : ("" : Str).cps = #[] := by decide +kernel
theorem ptext_list (ps : List (Str × Str)) : (ptext ps).cps.toList = (ps.map fun p => p.1.cps.toList ++ p.2.cps.toList).flatten := by
  unfold ptext
  rw [join_cps _ empty_cps]
  simp only [List.map_map]
  congr 1
  apply List.map_congr_left
  intro p _
  show (Str.join "" [p.1, p.2]).cps.toList = _
  rw [join_cps _ empty_cps]
  simp
theorem str_len (x : Str) : x.cps.toList.length = x.length := Array.length_toList
theorem ptext_len (ps : List (Str × Str)) : (ptext ps).length = (ps.map fun p => p.1.length + p.2.length).sum := by
  rw [← str_len, ptext_list, List.length_flatten, List.map_map]
  congr 1
  apply List.map_congr_left
  intro p _
  show (p.1.cps.toList ++ p.2.cps.toList).length = _
  rw [List.length_append, str_len, str_len]
end Mine
end
section
open PySem PySem.W PySem.Calls PyProof.Rows Builtin Builtin.ObjectAttr Builtin.Str
namespace Mine
section
variable {Pk : Addr → Prop}
variable {T : Tabs} {K : Frag} {cd : ClassData} {mg mb : Str → Option Value} {w : World} {A : Around} {s : Shared} {g h₀ h h' : Heap} {W W' : List Addr} {L C : Addr} {m : Str → Option Value} {kn : List (Addr × Obj)} {R : Result → Shared → Prop} {E : Value → Shared → Prop} {prog : Program}
noncomputable abbrev lstObj (vs : List Value) : Obj := { cls := .type "list", data := .seq vs.toArray }
theorem partsFrom_len (x : Str) (w : Nat) : ∀ (cuts : List Nat) (a : Nat), (StrLaws.partsFrom x w a cuts).length = cuts.length + 1
  | [], _ => rfl
  | c :: r, a => by show (StrLaws.partsFrom x w (c + w) r).length + 1 = _; rw [partsFrom_len x w r]; rfl
theorem parts_len (x y : Str) (hy : (y.length == 0) = false) : (partsBetween x (occurrences x y 0 x.length (x.length + 1)) y.length).length ≤ x.length + 2 := by
  rw [StrLaws.partsBetween_eq, partsFrom_len]
  have := StrLaws.occ_length_le x y 0 x.length (x.length + 1)
  exact Nat.lt_succ_of_le this
theorem g_split {x y : Str} {t u : Tok} {Q : Value → Shared → Prop} (hy : (y.length == 0) = false) (hx : x.length ≤ 1000000)
    (hq : ∀ l k, l.map (·.1) = Txt.split x y → Q (.ref s.heap.objs.size) { s with heap := s.heap.push (lstObj (strValues l)), toks := k }) :
    wpAny (model prog w) A (call (.builtin "str.split") [.str x t, .str y u]) Q E s := by
  have hsl : sizeLine = 16777216 := by decide
  have hpl := parts_len x y hy
  cases h1 : (decide (x.length < y.length) || decide (strKind x < strKind y))
  · cases hf : (occurrences x y 0 x.length (x.length + 1)).isEmpty
    · refine call_meets F.slot_str_split (typeIs_str _ _ _) F.entry_str_split (F.args_str_split_2 _ _) (meets_str_split_sep x y t u h1 hy hf (by exact Nat.le_trans (by assumption) (by decide)) (by lia)) ?_
      show wants Q E _ { s with toks := _, heap := s.heap.push { cls := .type "list", data := .seq (strsFrom s.toks (partsBetween x (occurrences x y 0 x.length (x.length + 1)) y.length)).toArray } }
      rw [strsFrom_eq]
      exact hq (numbered s.toks _) _ ((numbered_texts _ _).trans ((if_neg (ne_true_of_eq_false h1)).trans (if_neg (ne_true_of_eq_false hf))).symm)
    · exact call_meets F.slot_str_split (typeIs_str _ _ _) F.entry_str_split (F.args_str_split_2 _ _) (meets_str_split_not_found x y t u h1 hy hf)
        (hq [(x, t)] _ ((if_neg (ne_true_of_eq_false h1)).trans (if_pos hf)).symm)
  · exact call_meets F.slot_str_split (typeIs_str _ _ _) F.entry_str_split (F.args_str_split_2 _ _) (meets_str_split_cannot_occur x y t u h1)
      (hq [(x, t)] _ (if_pos h1).symm)
theorem j_pyIterList {wl : Addr} {ol : Obj} {its : Array Value} {n : Nat} {Q : Value → Shared → Prop} (j : J T g W h₀ L s.heap m kn) (ho : s.heap.get? wl = some ol) (hc : ol.cls = .type "list") (hd : ol.data = .seq its n)
    (h : ∀ I h', I = s.heap.objs.size → J T g W h₀ L h' m ((I, ({ cls := .type "list_iterator", data := .fields #[.ref wl, .int ((0 : Nat) : Int) 0] } : Obj)) :: kn) → Mv T g [] s.heap h' → h₀.get? I = none → s.heap.get? I = none → Q (.ref I) { s with heap := h' }) :
    wpAny (model prog w) A (pyIter (.ref wl)) Q E s :=
  wpAny_pyIter_list ⟨ol, ho, hc, n, hd⟩ (h _ _ rfl (j.push _ rfl) (Mv.push j.mv.st _) j.new (Heap.get?_none_of_le (Nat.le_refl _)))
theorem ty_split : typeOf (.builtin "str.split") = pure (.type "method_descriptor") := by show builtinType _ = _; rw [builtinType_eq_fast]; kernel_rfl
end
end Mine
end
section
open PySem PySem.W PySem.Calls PyProof.Rows Builtin Builtin.ObjectAttr
namespace Mine
section
variable {Pk : Addr → Prop}
variable {T : Tabs} {K : Frag} {cd : ClassData} {mg mb : Str → Option Value} {w : World} {A : Around} {s : Shared} {g h₀ h h' : Heap} {W W' : List Addr} {L C : Addr} {m : Str → Option Value} {kn : List (Addr × Obj)} {R : Result → Shared → Prop} {E : Value → Shared → Prop} {prog : Program}
theorem J.turn (j : J T g W h₀ L h m kn) {wr : List Addr} (k : ∀ b o, b ∉ wr → h.get? b = some o → h'.get? b = some o) (hw : ∀ b ∈ wr, h₀.get? b = none ∧ b ≠ L) (hkn : ∀ p ∈ kn, p.1 ∉ wr) : J T g W h₀ L h' m kn := by
  have n0 : ∀ {b o}, h₀.get? b = some o → b ∉ wr := fun e hb => by rw [(hw _ hb).1] at e; cases e
  have ng : ∀ {b o}, g.get? b = some o → b ∉ wr := fun e hb => by
    obtain ⟨o', e'⟩ := j.s0.old.there _ _ e
    exact n0 e' hb
  have nL : L ∉ wr := fun hb => (hw _ hb).2 rfl
  obtain ⟨oL, es, n, hL, r⟩ := j.ns
  have hL' := k _ _ nL hL
  have nT : ∀ p ∈ T, p.2 ∉ wr ∧ p.1 ∉ wr := fun p hp => by
    refine qg fun G kG => ?_
    obtain ⟨ps, ps₀, x, y, z⟩ := j.s0.tab p hp
    refine kG ?_
    refine qg fun G kG => ?_
    obtain ⟨⟨o₁, vs, e₁, r⟩, _⟩ := id y
    refine kG ?_
    exact ⟨n0 y.2, n0 e₁⟩
  refine ⟨⟨⟨?_, fun b o e ht => k _ _ (ng e) (j.mv.st.keep b o e ht), fun p hp => ?_, Nat.le_of_lt (Nat.lt_of_le_of_lt j.Lg (Heap.lt_size hL'))⟩, fun b o e ht hb => k _ _ (n0 e) (j.mv.keep b o e ht hb), fun b o e => ?_⟩, ⟨oL, es, n, hL', r⟩, j.Lt, j.Ln, j.Lg, fun p hp => ⟨k _ _ (hkn p hp) (j.has p hp).1, (j.has p hp).2⟩, j.nd, j.s0⟩
  · have O := j.mv.st.old
    refine ⟨fun b o e => ?_, fun b o e => let ⟨o', ho'⟩ := O.there b o e; ⟨o', k _ _ (ng e) ho'⟩⟩
    rcases O.old b o e with x | ⟨t, hc, vs, more, hv, x⟩ | ⟨rfl, hc, ⟨o', es, n, ho', r⟩, z⟩
    · exact .inl (k _ _ (ng e) x)
    · exact .inr (.inl ⟨t, hc, vs, more, hv, k _ _ (ng e) x⟩)
    · exact .inr (.inr ⟨rfl, hc, ⟨o', es, n, k _ _ (ng e) ho', r⟩, fun key => by rw [OldK.staticOf_congr ((k _ _ (ng e) ho').trans ho'.symm) key]; exact z key⟩)
  · obtain ⟨ps, ps₀, x, y, z⟩ := j.mv.st.tab p hp
    obtain ⟨n2, n1⟩ := nT p hp
    refine ⟨ps, ps₀, ?_, ?_, z⟩
    · obtain ⟨o, vs, file, tf, flags, tg, inF, text, tt, op, a1, a2, a3, a4, a5, a6, a7, a8, a9, a10, a11⟩ := x
      exact ⟨o, vs, file, tf, flags, tg, inF, text, tt, op, k _ _ n1 a1, a2, a3, a4, a5, a6, a7, k _ _ n2 a8, a9, a10, a11⟩
    · obtain ⟨⟨o, vs, a1, a2⟩, b⟩ := y
      exact ⟨⟨o, vs, k _ _ n1 a1, a2⟩, k _ _ n2 b⟩
  · obtain ⟨o', e'⟩ := j.mv.there b o e
    exact ⟨o', k _ _ (n0 e) e'⟩
section
variable {env : Env} {x : Str} {v : Value} {pos : Pos}
theorem e_local {Q : Value → Shared → Prop} (j : J T g W h₀ env.locals s.heap m kn) (hv : m x = some v) (h : Q v s)
    (hk : env.scope.kind = .function := by rfl) (hl : env.kindOf x = some .local := by rfl) (hd : (x == ("__debug__" : Str)) = false := by decide) :
    wpAny (model prog w) A (eval (.Name x pos) env) Q E s := wpAny_Name (wpAny_loadName_local hk hl j.ns hv h) hd
theorem e_global {Q : Value → Shared → Prop} (G : Gb T K mg mb g) (S : St T g s.heap) (hv : mg x = some v) (h : Q v s)
    (hg : env.globals = mainGlobals := by rfl) (hk : env.scope.kind = .function := by rfl) (hl : env.kindOf x = some .globalImplicit := by rfl) (hd : (x == ("__debug__" : Str)) = false := by decide) :
    wpAny (model prog w) A (eval (.Name x pos) env) Q E s :=
  Name_function_global hk hl (loadGlobal_global (by rw [hg]; exact S.ns G.mgN G.k1) hv h) hd
theorem e_builtin {Q : Value → Shared → Prop} (G : Gb T K mg mb g) (S : St T g s.heap) (hv : mg x = none) (hb : bootBuiltins x = some v) (h : Q v s)
    (hn : x ≠ "__name__" := by decide) (hg : env.globals = mainGlobals := by rfl) (hbi : env.builtins = builtinsNs := by rfl)
    (hk : env.scope.kind = .function := by rfl) (hl : env.kindOf x = some .globalImplicit := by rfl) (hd : (x == ("__debug__" : Str)) = false := by decide) :
    wpAny (model prog w) A (eval (.Name x pos) env) Q E s :=
  Name_function_global hk hl (loadGlobal_builtin (by rw [hg]; exact S.ns G.mgN G.k1) hv (by rw [hbi]; exact S.ns G.mbN G.k2) ((G.boot x hn).trans hb) h) hd
theorem e_cell {c : Addr} {o : Obj} {Q : Value → Shared → Prop} (ho : s.heap.get? c = some o) (hd' : o.data = .cell (some v)) (hc : env.cells.lookup x = some c) (h : Q v s)
    (hk : env.scope.kind = .function := by rfl) (hl : env.kindOf x = some .cell := by rfl) (hd : (x == ("__debug__" : Str)) = false := by decide) :
    wpAny (model prog w) A (eval (.Name x pos) env) Q E s := wpAny_Name (wpAny_loadName_cell hk hl hc ⟨o, ho, hd'⟩ h) hd
theorem e_storeK {Q : Unit → Shared → Prop} (j : J T g W h₀ env.locals s.heap m kn)
    (h : ∀ h' tk, J T g W h₀ env.locals h' (fun y => if y = x then some v else m y) kn → Mv T g [env.locals] s.heap h' → Q () { s with heap := h', toks := tk })
    (hk : env.scope.kind = .function := by rfl) (hl : env.kindOf x = some .local := by rfl) :
    wpAny (model prog w) A (storeName env x v) Q E s :=
  wpAny_storeName_local hl j.ns (fun h' hn hs => h h' _ (j.store hn hs) (j.storeMv hn hs)) (by rw [hk]; rfl)
end
structure Turns (prog : Program) (w : World) (A : Around) (T : Tabs) (g : Heap) (W : List Addr) (h₀ : Heap) (target : Expr) (env : Env) (I : Addr) (fp wr : List Addr) (n : Nat) (upd : Nat → (Str → Option Value) → (Str → Option Value) → Prop) (S : Nat → Heap → Prop) : Prop where
  sub : ∀ b ∈ wr, b ∈ fp
  stable : ∀ i h h', S i h → (∀ b ∈ fp, ∀ o, h.get? b = some o → h'.get? b = some o) → S i h'
  item : ∀ i (s : Shared) m kn (B : Shared → Prop) (E : Value → Shared → Prop), i < n → S i s.heap → J T g W h₀ env.locals s.heap m kn → (∀ p ∈ kn, p.1 ∉ wr) →
    (∀ h' tk m', upd i m m' → J T g W h₀ env.locals h' m' kn → S (i + 1) h' → (∀ b o, b ∉ wr → b ≠ env.locals → s.heap.get? b = some o → h'.get? b = some o) → B { s with heap := h', toks := tk }) →
    wpAny (model prog w) A (pyNext (.ref I)) (fun r s₁ => match r with
      | none => False
      | some v => wpAny (model prog w) A (letOwnedTupleGo target (.ref I) v) (fun _ s₂ => wpAny (model prog w) A (assign target env v) (fun _ s₃ => B s₃) E s₂) E s₁) E s
  done : ∀ (s : Shared) m kn (B : Shared → Prop) (E : Value → Shared → Prop), S n s.heap → J T g W h₀ env.locals s.heap m kn → (∀ p ∈ kn, p.1 ∉ wr) →
    (∀ h' tk, J T g W h₀ env.locals h' m kn → (∀ b o, b ∉ wr → s.heap.get? b = some o → h'.get? b = some o) → B { s with heap := h', toks := tk }) →
    wpAny (model prog w) A (pyNext (.ref I)) (fun r s₁ => match r with
      | none => B s₁
      | some _ => False) E s
  self : ∀ i (s : Shared) (Q : Value → Shared → Prop) (E : Value → Shared → Prop), S i s.heap → Q (.ref I) s → wpAny (model prog w) A (pyIter (.ref I)) Q E s
theorem Turns.name {env : Env} {I : Addr} {fp wr : List Addr} {n : Nat} {P : Nat → Value → Prop} {Sx : Nat → Heap → Prop} {x : Str} {px : Pos} (Wk : Walks prog w A I fp wr n P Sx)
    (hw : ∀ b ∈ wr, h₀.get? b = none) (hL : env.locals ∉ fp) (hk : env.scope.kind = .function := by rfl) (hl : env.kindOf x = some .local := by rfl) :
    Turns prog w A T g W h₀ (.Name x px) env I fp wr n (fun i m m' => ∃ v, P i v ∧ m' = fun y => if y = x then some v else m y) Sx where
  sub := Wk.sub
  stable := Wk.frame
  item := fun i s m kn B E hi hs j hkn hB => by
    have hLw : env.locals ∉ wr := fun hm => hL (Wk.sub _ hm)
    refine Wk.item i s _ E hi hs fun v h' tk hp hs' k => ?_
    refine wpAny_of_eq rfl ?_
    have j' := j.turn k (fun b hb => ⟨hw b hb, fun q => hLw (q ▸ hb)⟩) hkn
    refine wpAny_assign_Name ?_
    refine wpAny_storeName_local hl j'.ns (fun h₂ hn₂ hs₂ => ?_) (by rw [hk]; rfl)
    exact hB _ _ _ ⟨v, hp, rfl⟩ (j'.store hn₂ hs₂) (Wk.frame _ _ _ hs' fun b hb o e => (hs₂.2 b fun q => hL (q ▸ hb)).trans e) fun b o hb hbL e => (hs₂.2 b hbL).trans (k b o hb e)
  done := fun s m kn B E hs j hkn hB => by
    have hLw : env.locals ∉ wr := fun hm => hL (Wk.sub _ hm)
    refine Wk.done s _ E hs fun h' tk k => ?_
    exact hB _ _ (j.turn k (fun b hb => ⟨hw b hb, fun q => hLw (q ▸ hb)⟩) hkn) k
  self := Wk.self
theorem Turns.pair {env : Env} {I : Addr} {fp wr : List Addr} {n : Nat} {Pt : Nat → Array Value → Prop} {Sx : Nat → Heap → Prop} {Mid : Nat → Addr → Heap → Prop} {x y : Str} {px py pt : Pos} {kt : Nat} (Wk : WalksT prog w A I fp wr n Pt Sx Mid) (hh : A.handled = none)
    (hP : ∀ i vals, Pt i vals → vals.size = 2)
    (hw : ∀ b ∈ wr, h₀.get? b = none) (hL : env.locals ∉ fp) (hfp : ∀ i h, Sx i h → ∀ b ∈ fp, b < h.objs.size) (hk : env.scope.kind = .function := by rfl) (hl : env.kindOf x = some .local := by rfl) (hl' : env.kindOf y = some .local := by rfl) :
    Turns prog w A T g W h₀ (.Tuple [.Name x px, .Name y py] kt pt) env I fp wr n (fun i m m' => ∃ v v', Pt i #[v, v'] ∧ m' = fun z => if z = y then some v' else if z = x then some v else m z) Sx where
  sub := Wk.sub
  stable := Wk.frame
  item := fun i s m kn B E hi hs j hkn hB => by
    have hLw : env.locals ∉ wr := fun hm => hL (Wk.sub _ hm)
    have hw' : ∀ b ∈ wr, h₀.get? b = none ∧ b ≠ env.locals := fun b hb => ⟨hw b hb, fun q => hLw (q ▸ hb)⟩
    refine Wk.item i s _ E hi hs fun t vals h' tk hp hT ht hm k => ?_
    have j' := j.turn k hw' hkn
    refine Wk.go _ _ _ i t { s with heap := h', toks := tk } _ E hm fun h₂ hs₂ k₂ => ?_
    have j₂ := j'.turn k₂ hw' hkn
    have ht₂ : h₂.IsTuple t vals := by
      obtain ⟨o, e, r⟩ := ht
      exact ⟨o, k₂ _ _ (Wk.apart _ _ _ hm) e, r⟩
    have h2 := hP _ _ hp
    obtain ⟨⟨vl⟩⟩ := id (⟨vals⟩ : Nonempty (Array Value))
    obtain ⟨v, v', rfl⟩ : ∃ v v', vals = #[v, v'] := by
      obtain ⟨l⟩ := vals
      match l, h2 with
      | [a, b], _ => exact ⟨a, b, rfl⟩
    refine wpAny_assign_Tuple (s := { s with heap := h₂, toks := tk }) hh ht₂ (by rfl) (by rfl) fun h₃ ex₃ => ?_
    have k₃ : ∀ b o, h₂.get? b = some o → h₃.get? b = some o := fun b o e => ex₃ b o (Nat.ne_of_lt (Heap.lt_size e)) e
    obtain ⟨j₃, mv₃⟩ := j₂.keepsL k₃
    refine wpAny_bind (wpAny_holding (wpAny_assign_Name ?_))
    refine wpAny_storeName_local hl j₃.ns (fun h₄ hn₄ hs₄ => ?_) (by rw [hk]; rfl)
    have j₄ := j₃.store hn₄ hs₄
    refine wpAny_bind (wpAny_holding (wpAny_assign_Name ?_))
    refine wpAny_storeName_local hl' j₄.ns (fun h₅ hn₅ hs₅ => ?_) (by rw [hk]; rfl)
    refine wpAny_pure ?_
    have up : ∀ b o, b ≠ env.locals → h₂.get? b = some o → h₅.get? b = some o := fun b o hb e => (hs₅.2 b hb).trans ((hs₄.2 b hb).trans (k₃ b o e))
    exact hB _ _ _ ⟨v, v', hp, rfl⟩ (j₄.store hn₅ hs₅) (Wk.frame _ _ _ hs₂ fun b hb o e => up b o (fun q => hL (q ▸ hb)) e) fun b o hb hbL e => up b o hbL (k₂ b o hb (k b o hb e))
  done := fun s m kn B E hs j hkn hB => by
    have hLw : env.locals ∉ wr := fun hm => hL (Wk.sub _ hm)
    refine Wk.done s _ E hs fun h' tk k => ?_
    exact hB _ _ (j.turn k (fun b hb => ⟨hw b hb, fun q => hLw (q ▸ hb)⟩) hkn) k
  self := Wk.self
theorem comp_turn {elt target iter : Expr} {ifs : List Expr} {scope : Scope} {pos : Pos} {it acc : Value} {env : Env}
    (h : wpAny (model prog w) A (pyNext it) (fun r s₁ => match r with
      | none => R (.ok .next) s₁
      | some v => wpAny (model prog w) A (letOwnedTupleGo target it v) (fun _ s₁' => wpAny (model prog w) A (assign target env v) (fun _ s₂ =>
          wpAny (model prog w) A (forIn ifs true fun c r => if r = true then do let ok ← isTrue c env (eval c env); pure (ForInStep.yield ok) else pure (ForInStep.yield r)) (fun ok s₃ =>
            if ok = true then wpAny (model prog w) A (eval elt env) (fun x s₄ =>
              wpAny (model prog w) A (call (.builtin "list.append") [acc, x]) (fun _ s₅ => codeAny (model prog w) A (.compLoop (.ListComp elt [⟨target, iter, ifs, 0⟩] scope pos) 0 it acc env) R s₅) (fun _ _ => False) s₄) (fun _ _ => False) s₃
            else codeAny (model prog w) A (.compLoop (.ListComp elt [⟨target, iter, ifs, 0⟩] scope pos) 0 it acc env) R s₃) (fun _ _ => False) s₂) (fun _ _ => False) s₁') (fun _ _ => False) s₁) (fun _ _ => False) s) :
    codeAny (model prog w) A (.compLoop (.ListComp elt [⟨target, iter, ifs, 0⟩] scope pos) 0 it acc env) R s := by
  refine codeAny_of_tree ?_
  show wpAny _ A ((compTurn (.ListComp elt [⟨target, iter, ifs, 0⟩] scope pos) 0 it acc env).onRaise (fun x => do noteFrame x env; theTreesLotGoes x)) _ _ s
  refine wpAny_noted ?_
  rw [compTurn_list]
  refine wpAny_bind (wpAny_standAt (wpAny_bind (wpAny_mono h (fun r s₁ h₁ => ?_) fun _ _ h' => h'.elim)))
  cases r with
  | none => exact wpAny_pure h₁
  | some v =>
    refine wpAny_bind (wpAny_mono h₁ (fun _ s₁' h₁' => ?_) fun _ _ h' => h'.elim)
    refine wpAny_bind (wpAny_mono h₁' (fun _ s₂ h₂ => wpAny_bind (wpAny_mono h₂ (fun ok s₃ h₃ => ?_) fun _ _ h' => h'.elim)) fun _ _ h' => h'.elim)
    cases ok with
    | false => exact wpAny_pure ⟨rfl, h₃⟩
    | true =>
      exact wpAny_bind (wpAny_bind (wpAny_mono h₃ (fun x s₄ h₄ => wpAny_bind (wpAny_mono h₄ (fun _ s₅ h₅ => wpAny_pure (wpAny_pure ⟨rfl, h₅⟩)) fun _ _ h' => h'.elim)) fun _ _ h' => h'.elim))
theorem Paired.imp {α β : Type} {F F' : α → β → Prop} (h : ∀ a b, F a b → F' a b) : ∀ {l₁ : List α} {l₂ : List β}, Paired F l₁ l₂ → Paired F' l₁ l₂
  | _, _, .nil => .nil
  | _, _, .cons f t => .cons (h _ _ f) (Paired.imp h t)
theorem range_filter_succ (p : Nat → Bool) (i : Nat) : (List.range (i + 1)).filter p = (List.range i).filter p ++ (if p i then [i] else []) := by
  rw [List.range_succ, List.filter_append]
  cases hp : p i <;> simp [hp]
noncomputable abbrev lstO (its : Array Value) (ep : Nat) : Obj := { cls := .type "list", data := .seq its ep }
noncomputable def Stays (T : Tabs) (ws : List Addr) (F : Nat → Value → Heap → Prop) : Prop := ∀ i y h h', F i y h → (∀ b o, h.get? b = some o → b ∉ T.map (·.2) → b ∉ ws → h'.get? b = some o) → F i y h'
theorem comp_loop {target : Expr} {env : Env} {I D : Addr} {fp wr : List Addr} {n : Nat} {upd : Nat → (Str → Option Value) → (Str → Option Value) → Prop} {S : Nat → Heap → Prop} {elt iter : Expr} {ifs : List Expr} {scope : Scope} {pos : Pos}
    (Tn : Turns prog w A T g W h₀ target env I fp wr n upd S) (p : Nat → Bool) (F : Nat → Value → Heap → Prop) (s₀ : Shared)
    (hF : Stays T (D :: env.locals :: wr) F) (hD : h₀.get? D = none) (hDf : D ∉ fp) (hfT : ∀ b ∈ fp, b ∉ T.map (·.2)) (hn : n ≤ 100000)
    (body : ∀ i (s : Shared) m m' its ep, i < n → upd i m m' → J T g W h₀ env.locals s.heap m' [(D, lstO its ep)] → S (i + 1) s.heap → Ok s₀ s →
      wpAny (model prog w) A (forIn ifs true fun c r => if r = true then do let ok ← isTrue c env (eval c env); pure (ForInStep.yield ok) else pure (ForInStep.yield r))
        (fun ok s₃ => ok = p i ∧ Mv T g [] s.heap s₃.heap ∧ Ok s s₃ ∧ (p i = true → wpAny (model prog w) A (eval elt env) (fun y s₄ => F i y s₄.heap ∧ Mv T g [] s₃.heap s₄.heap ∧ Ok s₃ s₄) (fun _ _ => False) s₃)) (fun _ _ => False) s)
    (hR : ∀ (s : Shared) m its ep, J T g W h₀ env.locals s.heap m [(D, lstO its ep)] → Paired (fun i y => F i y s.heap) ((List.range n).filter p) its.toList → Ok s₀ s → R (.ok .next) s) :
    ∀ (k i : Nat) (s : Shared) m (its : Array Value) ep, n - i = k → i ≤ n → J T g W h₀ env.locals s.heap m [(D, lstO its ep)] → S i s.heap → Paired (fun i y => F i y s.heap) ((List.range i).filter p) its.toList → its.size ≤ i → Ok s₀ s →
    codeAny (model prog w) A (.compLoop (.ListComp elt [⟨target, iter, ifs, 0⟩] scope pos) 0 (.ref I) (.ref D) env) R s := by
  intro k
  have kw : ∀ {its ep}, ∀ p ∈ [(D, lstO its ep)], p.1 ∉ wr := fun p hp => by
    rw [List.mem_singleton.mp hp]
    exact fun hm => hDf (Tn.sub _ hm)
  induction k with
  | zero =>
    intro i s m its ep hk hi j hs hP hsz ok
    have hin : i = n := by exact de0 hk hi
    subst hin
    refine comp_turn ?_
    refine wpAny_mono (Tn.done s m _ (fun s₁ => R (.ok .next) s₁) _ hs j kw fun h' tk j' kp => ?_) (fun r s₁ h₁ => ?_) fun _ _ f => f
    · refine hR _ m its ep j' (Paired.imp (fun a b f => hF _ _ _ _ f fun c o e _ hc => kp _ _ (fun hm => hc (.tail _ (.tail _ hm))) e) hP) ⟨ok.1, ok.2⟩
    · cases r with
      | none => exact h₁
      | some v => exact h₁.elim
  | succ k ih =>
    intro i s m its ep hk hi j hs hP hsz ok
    have hin : i < n := by exact dlt hk
    refine comp_turn ?_
    refine wpAny_mono (Tn.item i s m _ (fun s₂ => wpAny (model prog w) A (forIn ifs true fun c r => if r = true then do let ok ← isTrue c env (eval c env); pure (ForInStep.yield ok) else pure (ForInStep.yield r)) (fun ok s₃ =>
            if ok = true then wpAny (model prog w) A (eval elt env) (fun x s₄ =>
              wpAny (model prog w) A (call (.builtin "list.append") [.ref D, x]) (fun _ s₅ => codeAny (model prog w) A (.compLoop (.ListComp elt [⟨target, iter, ifs, 0⟩] scope pos) 0 (.ref I) (.ref D) env) R s₅) (fun _ _ => False) s₄) (fun _ _ => False) s₃
            else codeAny (model prog w) A (.compLoop (.ListComp elt [⟨target, iter, ifs, 0⟩] scope pos) 0 (.ref I) (.ref D) env) R s₃) (fun _ _ => False) s₂) (fun _ _ => False) hin hs j kw fun h₁ tk₁ m₁ hu j₁ hs₁ k₁ => ?_) (fun r s₁ h₁ => ?_) fun _ _ f => f
    · have ok₁ : Ok s₀ { s with heap := h₁, toks := tk₁ } := ⟨ok.1, ok.2⟩
      have P₁ := Paired.imp (fun a b f => hF _ _ _ h₁ f fun c o e _ hc => k₁ _ _ (fun hm => hc (.tail _ (.tail _ hm))) (fun q => hc (by exact mS (mE q))) e) hP
      refine wpAny_mono (body i _ m m₁ its ep hin hu j₁ hs₁ ok₁) (fun ok' s₃ h₃ => ?_) fun _ _ f => f
      obtain ⟨rfl, mv₃, ok₃, he⟩ := h₃
      have j₃ := j₁.call0 mv₃
      have st : ∀ {h h'}, Mv T g [] h h' → ∀ i, S i h → S i h' := fun mv i hs => Tn.stable i _ _ hs fun b hb o e => mv.keep b o e (hfT b hb) (.inl (by exact ni0))
      have sF : ∀ {h h'}, Mv T g [] h h' → ∀ a b, F a b h → F a b h' := fun mv a b f => hF _ _ _ _ f fun c o e hT _ => mv.keep c o e hT (.inl (by exact ni0))
      have hs₃ := st mv₃ _ hs₁
      have P₃ := Paired.imp (sF mv₃) P₁
      have okk : Ok s₀ s₃ := ⟨ok₃.1.trans ok₁.1, fun a => ok₃.2 (ok₁.2 a)⟩
      cases hp : p i with
      | false =>
        rw [if_neg (by simp)]
        refine ih (i + 1) s₃ m₁ its ep (by exact dst hk) hin j₃ hs₃ ?_ (by exact Nat.le_succ_of_le hsz) okk
        rw [range_filter_succ, hp]
        simpa using P₃
      | true =>
        rw [if_pos rfl]
        refine wpAny_mono (he hp) (fun y s₄ h₄ => ?_) fun _ _ f => f
        refine qg fun G kG => ?_
        obtain ⟨hy, mv₄, ok₄⟩ := h₄
        refine kG ?_
        have j₄ := j₃.call0 mv₄
        refine wpAny_list_append_plain (items := its) ⟨ep, j₄.get (.head _)⟩ (fun h₅ hl₅ hs₅ => ?_) (by rw [sizeLine_eq]; lia)
        obtain ⟨ep₅, e₅⟩ := hl₅
        obtain ⟨j₅, mv₅⟩ := j₄.iter 0 rfl (.inr hD) (by rintro ⟨q, _⟩; simp at q) hs₅ e₅
        refine ih (i + 1) _ m₁ (its.push y) ep₅ (by exact dst hk) hin j₅ (Tn.stable _ _ _ (st mv₄ _ hs₃) fun b hb o e => (hs₅.2 b fun q => hDf (q ▸ hb)).trans e) ?_ (by rw [Array.size_push]; exact Nat.lt_succ_of_le hsz) ⟨ok₄.1.trans okk.1, fun a => ok₄.2 (okk.2 a)⟩
        have nD : ∀ a b, F a b s₄.heap → F a b h₅ := fun a b f => hF _ _ _ _ f fun c o e _ hc => (hs₅.2 c fun q => hc (by exact mE q)).trans e
        rw [range_filter_succ, hp, if_pos rfl, Array.toList_push]
        exact Paired.snoc (Paired.imp (fun a b f => nD a b (sF mv₄ a b f)) P₃) (nD _ _ hy)
    · cases r with
      | none => exact h₁.elim
      | some v => exact h₁
end
end Mine
end
section
open PySem PySem.W PySem.Calls PyProof.Rows Builtin Builtin.ObjectAttr
namespace Mine
section
variable {Pk : Addr → Prop}
variable {T : Tabs} {K : Frag} {cd : ClassData} {mg mb : Str → Option Value} {w : World} {A : Around} {s : Shared} {g h₀ h h' h₁ h₂ : Heap} {W W' : List Addr} {L C : Addr} {m : Str → Option Value} {kn : List (Addr × Obj)} {R : Result → Shared → Prop} {E : Value → Shared → Prop} {prog : Program}
theorem Mv.same (mv : Mv T g W h h₁) (hs : Heap.SameBut C h₁ h₂) (hn : h.get? C = none) (hg : g.objs.size ≤ C) : Mv T g W h h₂ := by
  have ne : ∀ {b o}, h.get? b = some o → b ≠ C := fun e q => by rw [q, hn] at e; cases e
  exact ⟨mv.st.same hg hs, fun b o e ht hb => (hs.2 b (ne e)).trans (mv.keep b o e ht hb), fun b o e => let ⟨o', e'⟩ := mv.there b o e; ⟨o', (hs.2 b (ne e)).trans e'⟩⟩
theorem Mv.keeps (mv : Mv T g W h h₁) (k : ∀ b o, h₁.get? b = some o → h₂.get? b = some o) (hl : g.objs.size ≤ h₂.objs.size) : Mv T g W h h₂ :=
  ⟨mv.st.keepsL k hl, fun b o e ht hb => k _ _ (mv.keep b o e ht hb), fun b o e => let ⟨o', e'⟩ := mv.there b o e; ⟨o', k _ _ e'⟩⟩
theorem Mv.weak (mv : Mv T g W h h₁) (hw : ∀ b ∈ W, b ∈ W') : Mv T g W' h h₁ :=
  ⟨mv.st, fun b o e ht hb => mv.keep b o e ht (hb.imp (fun x y => x (hw _ y)) id), mv.there⟩
noncomputable def Src (prog : Program) (w : World) (A : Around) (T : Tabs) (g : Heap) (s : Shared) (elt target : Expr) (ifs : List Expr) (env : Env) (scope : Scope) (cl : List (Str × Addr)) (n : Nat) (p : Nat → Bool) (F : List Addr → Nat → Value → Heap → Prop) (it : Value) (s₂ : Shared) : Prop :=
  Mv T g [] s.heap s₂.heap ∧ Ok s s₂ ∧ ∃ I fp wr upd S, it = .ref I ∧ S 0 s₂.heap ∧ (∀ b ∈ fp, b < s₂.heap.objs.size ∧ b ∉ T.map (·.2)) ∧
    (∀ C, C ∉ fp → Turns prog w A T g [] s.heap target (compEnvC scope cl C env) I fp wr n upd S) ∧
    (∀ D C, Stays T (D :: C :: wr) (F (D :: C :: wr))) ∧
    (∀ D C i (s₃ : Shared) m m' its ep, i < n → upd i m m' → J T g [] s.heap C s₃.heap m' [(D, lstO its ep)] → Mv T g [] s.heap s₃.heap → S (i + 1) s₃.heap → Ok s₂ s₃ →
      wpAny (model prog w) A (forIn ifs true fun c r => if r = true then do let ok ← isTrue c (compEnvC scope cl C env) (eval c (compEnvC scope cl C env)); pure (ForInStep.yield ok) else pure (ForInStep.yield r))
        (fun ok s₄ => ok = p i ∧ Mv T g [] s₃.heap s₄.heap ∧ Ok s₃ s₄ ∧ (p i = true → wpAny (model prog w) A (eval elt (compEnvC scope cl C env)) (fun y s₅ => F (D :: C :: wr) i y s₅.heap ∧ Mv T g [] s₄.heap s₅.heap ∧ Ok s₄ s₅) (fun _ _ => False) s₄)) (fun _ _ => False) s₃)
theorem comp_core {env : Env} {elt target iter : Expr} {ifs : List Expr} {scope : Scope} {cl : List (Str × Addr)} {pos : Pos} {n : Nat} {p : Nat → Bool} {F : List Addr → Nat → Value → Heap → Prop} {RR : Value → Addr → Result → Shared → Prop} {it : Value} {s₂ : Shared}
    (hcell : ∀ y ∈ scope.names, y.2 ≠ .cell) (hkind : scope.kind = .function) (S₀ : St T g s.heap) (hn : n ≤ 100000)
    (src : Src prog w A T g s elt target ifs env scope cl n p F it s₂)
    (hRR : ∀ D C (s' : Shared) its ep ws m, Mv T g [] s.heap s'.heap → Ok s s' → s'.heap.Ns C m → s.heap.get? D = none → s.heap.get? C = none → D ≠ C → g.objs.size ≤ C → g.objs.size ≤ D → s'.heap.get? D = some (lstO its ep) → C ∈ ws → Stays T ws (F ws) → Paired (fun i y => F ws i y s'.heap) ((List.range n).filter p) its.toList → RR (.ref D) C (.ok .next) s') :
    wpAny (model prog w) A (newList []) (fun acc s₃ => wpAny (model prog w) A (newFunctionEnv scope env.globals cl [] env.qual none .none (some env)) (fun cenv s₄ =>
      codeAny (model prog w) A (.compStart (.ListComp elt [⟨target, iter, ifs, 0⟩] scope pos) 0 it acc { cenv with scope := relabel scope env }) (RR acc cenv.locals) s₄) E s₃) E s₂ := by
  refine qg fun G kG => ?_
  obtain ⟨mv₂, ok₂, I, fp, wr, upd, Sx, rfl, hS, hfp, hT, hF, hb⟩ := src
  refine kG ?_
  refine wpAny_newObj_type (wpAny_newFunctionEnv hcell (by intro y hy; simp at hy) (fun h₁ hns₁ hsb₁ => ?_) hkind)
  dsimp only at hns₁ hsb₁ ⊢
  generalize hH2 : s₂.heap.push { cls := .type "list", dict := none, data := .seq ([] : List Value).toArray } = H2 at hns₁ hsb₁ ⊢
  have hC : H2.objs.size = s₂.heap.objs.size + 1 := by rw [← hH2, Heap.size_push]
  have hDC : s₂.heap.objs.size ≠ H2.objs.size := by rw [hC]; exact Nat.ne_of_lt (Nat.lt_succ_self _)
  have old : ∀ b o, s₂.heap.get? b = some o → h₁.get? b = some o := fun b o e => hsb₁.extBut b o (by rw [hC]; exact Nat.ne_of_lt (Nat.lt_succ_of_lt (Heap.lt_size e))) (Heap.get?_push_of_some _ (hH2 ▸ Heap.get?_push_of_some _ e))
  have hacc : h₁.get? s₂.heap.objs.size = some (lstO #[] 0) := hsb₁.extBut _ _ hDC (Heap.get?_push_of_some _ (hH2 ▸ Heap.get?_push_size _ rfl))
  have fresh : ∀ a, s₂.heap.objs.size ≤ a → s₂.heap.get? a = none := fun a ha => Heap.get?_none_of_le ha
  have bk : ∀ a, s₂.heap.get? a = none → s.heap.get? a = none := fun a ha => none_back mv₂ ha
  have gD : g.objs.size ≤ s₂.heap.objs.size := mv₂.st.le
  have gC : g.objs.size ≤ H2.objs.size := by rw [hC]; exact Nat.le_succ_of_le gD
  have hCn : s.heap.get? H2.objs.size = none := bk _ (fresh _ (by rw [hC]; exact Nat.le_succ _))
  have hDn : s.heap.get? s₂.heap.objs.size = none := bk _ (fresh _ (Nat.le_refl _))
  have noT : ∀ a, s.heap.get? a = none → a ∉ T.map (·.2) := fun a ha hm => by
    obtain ⟨q, hq, rfl⟩ := List.mem_map.mp hm
    obtain ⟨ps, ps₀, x, y, z⟩ := S₀.tab q hq
    have := y.2
    rw [ha] at this
    cases this
  have jc : J T g [] s.heap H2.objs.size h₁ (fun x => ([] : List (Str × Value)).reverse.lookup x) [(s₂.heap.objs.size, lstO #[] 0)] :=
    ⟨mv₂.keeps old (by obtain ⟨oL, _, _, e, _⟩ := hns₁; exact Nat.le_trans gC (Nat.le_of_lt (Heap.lt_size e))), hns₁, noT _ hCn, hCn, gC, fun q hq => by
      rw [List.mem_singleton.mp hq]
      exact ⟨hacc, hDC, noT _ hDn, gD⟩, by exact nd1, S₀⟩
  have hCf : H2.objs.size ∉ fp := fun hm => by have := (hfp _ hm).1; rw [hC] at this; lia
  have hDf : s₂.heap.objs.size ∉ fp := fun hm => Nat.lt_irrefl _ (hfp _ hm).1
  have Tn := hT H2.objs.size hCf
  have hS₁ : Sx 0 h₁ := Tn.stable _ _ _ hS fun b _ o e => old b o e
  have loop : ∀ s₃ : Shared, s₃ = { s₂ with heap := h₁, toks := s₂.toks + ([] : List (Str × Value)).length } →
      codeAny (model prog w) A (.compLoop (.ListComp elt [⟨target, iter, ifs, 0⟩] scope pos) 0 (.ref I) (.ref s₂.heap.objs.size) (compEnvC scope cl H2.objs.size env))
        (RR (.ref s₂.heap.objs.size) H2.objs.size) s₃ := by
    rintro s₃ rfl
    refine comp_loop Tn p (F (s₂.heap.objs.size :: H2.objs.size :: wr)) s₂ (hF _ _) hDn hDf (fun b hb => (hfp b hb).2) hn (fun i s₄ m m' its ep hi hu j₄ hs₄ ok₄ => hb _ _ i s₄ m m' its ep hi hu j₄ j₄.mv hs₄ ok₄)
      (fun s₄ m its ep j₄ hP ok₄ => ?_) n 0 _ _ #[] 0 (by lia) (Nat.zero_le _) jc hS₁ .nil (Nat.le_refl _) ⟨rfl, id⟩
    exact hRR _ _ s₄ its ep (s₂.heap.objs.size :: H2.objs.size :: wr) _ j₄.mv ⟨ok₄.1.trans ok₂.1, fun a => ok₄.2 (ok₂.2 a)⟩ j₄.ns hDn hCn hDC gC gD (j₄.get (.head _)) (by exact m2) (hF _ _) hP
  exact codeAny_compStart_list (loop _ rfl) (Tn.self 0 _ _ _ hS₁ (loop _ rfl))
theorem j_listComp {env : Env} {elt target iter : Expr} {ifs : List Expr} {scope : Scope} {cl : List (Str × Addr)} {pos : Pos} {n : Nat} {p : Nat → Bool} {F : List Addr → Nat → Value → Heap → Prop} {Q : Value → Shared → Prop}
    (j : J T g W h₀ env.locals s.heap m kn) (hn : n ≤ 100000) (hclos : closureFor scope env = pure cl)
    (hiter : wpAny (model prog w) A (eval iter env) (fun xv s₁ => wpAny (model prog w) A (pyIter xv) (Src prog w A T g s elt target ifs env scope cl n p F) E s₁) E s)
    (hQ : ∀ (s' : Shared) D its ep ws, J T g W h₀ env.locals s'.heap m kn → Mv T g [] s.heap s'.heap → Ok s s' → s.heap.get? D = none → g.objs.size ≤ D → s'.heap.get? D = some (lstO its ep) → Paired (fun i y => F ws i y s'.heap) ((List.range n).filter p) its.toList → Q (.ref D) s')
    (hcell : ∀ y ∈ scope.names, y.2 ≠ .cell := by decide) (hkind : scope.kind = .function := by rfl)
    (hnames : ∀ y ∈ scope.names, y.2 = .local → scope.names.lookup y.1 = some .local := by decide)
    (hs : ∀ x, foldedSetIterable iter env x = pure x := by intro _; rfl) :
    wpAny (model prog w) A (eval (.ListComp elt [⟨target, iter, ifs, 0⟩] scope pos) env) Q E s := by
  rw [eval_ListComp]
  refine wpAny_comprehension_free (use := none) rfl hs hclos hkind hnames (wpAny_mono hiter (fun xv s₁ h₁ => wpAny_mono h₁ (fun it s₂ src => ?_) fun _ _ e => e) fun _ _ e => e)
  refine comp_core (RR := fun acc C => compPost (model prog w) A E none Q acc C) hcell hkind j.mv.st hn src ?_
  intro D C s' its ep ws m' mv ok hns hD hC hDC gC gD eD hCw hF hP
  refine ⟨m', hns, fun h' hs' => ?_⟩
  have mv' := mv.same hs' hC gC
  exact hQ { s' with heap := h' } D its ep ws (j.call0 mv') mv' ⟨ok.1, ok.2⟩ hD gD ((hs'.2 D hDC).trans eD) (Paired.imp (fun a b f => hF _ _ _ h' f fun c o e _ hc => (hs'.2 c fun q => hc (q ▸ hCw)).trans e) hP)
theorem j_assignComp {env : Env} {elt target iter : Expr} {ifs : List Expr} {scope : Scope} {cl : List (Str × Addr)} {pos spos py : Pos} {y : Str} {n : Nat} {p : Nat → Bool} {F : List Addr → Nat → Value → Heap → Prop} {Q : Flow → Shared → Prop}
    (j : J T g W h₀ env.locals s.heap m kn) (hn : n ≤ 100000) (hclos : closureFor scope env = pure cl)
    (hiter : wpAny (model prog w) A (eval iter env) (fun xv s₁ => wpAny (model prog w) A (pyIter xv) (Src prog w A T g s elt target ifs env scope cl n p F) E s₁) E s)
    (hQ : ∀ (s' : Shared) D its ep ws, J T g W h₀ env.locals s'.heap (fun z => if z = y then some (.ref D) else m z) kn → Mv T g [env.locals] s.heap s'.heap → Ok s s' → s.heap.get? D = none → g.objs.size ≤ D → s'.heap.get? D = some (lstO its ep) → Paired (fun i y => ∃ h, F ws i y h ∧ ∀ b o, h.get? b = some o → b ≠ env.locals → b ∉ ws → s'.heap.get? b = some o) ((List.range n).filter p) its.toList → Q .next s')
    (hsw : swapsWith (.ListComp elt [⟨target, iter, ifs, 0⟩] scope pos) (some (.Name y py)) spos.line env = pure true := by rfl) (hy : env.kindOf y = some .local := by rfl) (hek : env.scope.kind = .function := by rfl)
    (hcell : ∀ y ∈ scope.names, y.2 ≠ .cell := by decide) (hkind : scope.kind = .function := by rfl)
    (hnames : ∀ y ∈ scope.names, y.2 = .local → scope.names.lookup y.1 = some .local := by decide)
    (hs : ∀ x, foldedSetIterable iter env x = pure x := by intro _; rfl) :
    wpAny (model prog w) A (exec (.Assign [.Name y py] (.ListComp elt [⟨target, iter, ifs, 0⟩] scope pos) spos) env) Q E s := by
  rw [exec_Assign_Name_used _ _ _ _ hsw]
  refine wpAny_bind (wpAny_standAt (wpAny_bind ?_))
  show wpAny _ A (do let _ ← comprehension (.ListComp elt [⟨target, iter, ifs, 0⟩] scope pos) scope env _ (newList []) false (eval iter env) (some (assign (.Name y py) env))) _ _ s
  refine wpAny_bind (wpAny_mono (wpAny_comprehension_free (use := some (assign (.Name y py) env)) (Q := fun _ s' => Q .next s') rfl hs hclos hkind hnames
    (wpAny_mono hiter (fun xv s₁ h₁ => wpAny_mono h₁ (fun it s₂ src => ?_) fun _ _ e => e) fun _ _ e => e)) (fun _ s' hq => wpAny_pure (wpAny_pure hq)) fun _ _ e => e)
  refine comp_core (RR := fun acc C => compPost (model prog w) A E (some (assign (.Name y py) env)) (fun _ s' => Q .next s') acc C) hcell hkind j.mv.st hn src ?_
  intro D C s' its ep ws m' mv ok hns hD hC hDC gC gD eD hCw hF hP
  have LC : env.locals ≠ C := by rintro e; obtain ⟨o, _, _, e', _⟩ := j.ns; rw [e, hC] at e'; cases e'
  have LD : env.locals ≠ D := by rintro e; obtain ⟨o, _, _, e', _⟩ := j.ns; rw [e, hD] at e'; cases e'
  have j' := j.call0 mv
  show wpAny _ A (assign (.Name y py) env (.ref D)) _ _ _
  refine wpAny_assign_Name ?_
  refine wpAny_storeName_local hy j'.ns (fun h₂ hn₂ hs₂ => ?_) (by rw [hek]; rfl)
  refine ⟨m', hns.sameBut hs₂ LC.symm, fun h₃ hs₃ => ?_⟩
  have jn : ∀ {b o}, s.heap.get? b = some o → b ≠ C := fun e q => by rw [q, hC] at e; cases e
  have h0C : h₀.get? C = none := none_back j.mv hC
  have j₂ := j'.store hn₂ hs₂
  have j₃ := j₂.turn (wr := [C]) (h' := h₃) (fun b o hb e => (hs₃.2 b fun q => hb (by exact mE q)).trans e) (fun b hb => by rw [List.mem_singleton.mp hb]; exact ⟨h0C, LC.symm⟩) (fun q hq hm => by
    have := (j.has q hq).1
    exact jn this (List.mem_singleton.mp hm))
  have mvL := (mv.weak (W' := [env.locals]) (by exact al0)).trans (j'.storeMv hn₂ hs₂) (fun b hb => .inl hb)
  exact hQ _ D its ep ws j₃ (mvL.same hs₃ hC gC) ⟨ok.1, ok.2⟩ hD gD ((hs₃.2 D hDC).trans ((hs₂.2 D LD.symm).trans eD))
    (Paired.imp (fun a b f => ⟨s'.heap, f, fun c o e h1 h2 => (hs₃.2 c fun q => h2 (q ▸ hCw)).trans ((hs₂.2 c h1).trans e)⟩) hP)
theorem j_callC {name qual : Str} {params : Arguments} {body : List Stmt} {scope : Scope} {dV kV doc pm cdv ct oc : Value} {an od : Option Addr} {osl : Array (Option Value)} {f : Addr} {vals : List Value} {binds : List (Str × Value)}
    (W : List Addr) (cells : Addr → List (Str × Addr)) (G : Gb T K mg mb g) (S : St T g s.heap)
    (ho : K.lookup f = some ⟨oc, od, .func (fnX name qual params body scope [] dV kV doc pm an cdv ct), osl⟩) (hcd : codeIn K cdv qual = true) (hroom : A.depth < recursionLimit)
    (hbind : bindArgs (fnX name qual params body scope [] dV kV doc pm an cdv ct) ⟨vals, []⟩ = pure binds)
    (hcs : ∀ L, cellsFrom (L + 1) scope.names [] = cells L) (hlk : ∀ L, ∀ p ∈ cells L, (cells L).lookup p.1 = some p.2)
    (hkind : ∀ L, ∀ x ∈ binds, scope.names.lookup x.1 = some .local ∨ (scope.names.lookup x.1 = some .cell ∧ ((cells L).lookup x.1).isSome = true))
    (h : ∀ L h₁ tk (ob : Addr → Obj), (∀ p ∈ cells L, (ob p.2).data = .cell (bindC (fun n => scope.names.lookup n) binds (fun _ => none) p.1)) →
      J T g W s.heap L h₁ (bindL (fun n => scope.names.lookup n) binds fun _ => none) ((cells L).map fun p => (p.2, ob p.2)) → Mv T g [] s.heap h₁ → (∀ p ∈ cells L, s.heap.get? p.2 = none) →
      wpAny (model prog w) (A.deeper (envX qual scope L f cdv (cells L))) (execs body (envX qual scope L f cdv (cells L)))
        (fun fl s' => R (.ok (.ret (match fl with | .ret v => v | _ => .none))) s') (fun _ _ => False) { s with heap := h₁, toks := tk })
    (hco : scope.isCoroutine = false) (hgen : scope.isGenerator = false) (hk : scope.kind = .function) : codeAny (model prog w) A (.call (.ref f) ⟨vals, []⟩) R s := by
  have X := S.In G
  refine codeAny_call_cells (fd := fnX name qual params body scope [] dV kV doc pm an cdv ct) (body := body) (binds := binds) hroom (X _ _ ho) rfl (G.nolim.elim fun mc x => ⟨mc, S.ns x.1 G.k3, x.2⟩) (codeRec_of X hcd) rfl hbind rfl (fun x hx => by
    have := hkind s.heap.objs.size x hx
    show scope.names.lookup x.1 = some .local ∨ (scope.names.lookup x.1 = some .cell ∧ ((cellsFrom (s.heap.objs.size + 1) scope.names []).lookup x.1).isSome = true)
    rw [hcs]; exact this) (fun s₁ x => ?_) hco hgen hk
  have ecs : (callEnvC (fnX name qual params body scope [] dV kV doc pm an cdv ct) s.heap.objs.size f) = envX qual scope s.heap.objs.size f cdv (cells s.heap.objs.size) := by
    rw [← hcs]; rfl
  rw [ecs] at x ⊢
  obtain ⟨hin, hcell, hap, hab⟩ := x
  obtain ⟨⟨h₁, tk, rfl⟩, hns, hkeep, hfr⟩ := hin
  have hex : ∀ p ∈ cells s.heap.objs.size, ∃ o, h₁.get? p.2 = some o ∧ o.data = .cell (bindC (fun n => scope.names.lookup n) binds (fun _ => none) p.1) := fun p hp => hcell p.1 p.2 (hlk _ p hp)
  let ob : Addr → Obj := fun c => (h₁.get? c).getD default
  have hob : ∀ p ∈ cells s.heap.objs.size, h₁.get? p.2 = some (ob p.2) ∧ (ob p.2).data = .cell (bindC (fun n => scope.names.lookup n) binds (fun _ => none) p.1) := fun p hp => by
    obtain ⟨o, e, d⟩ := hex p hp
    have : ob p.2 = o := by show (h₁.get? p.2).getD default = o; rw [e]; rfl
    rw [this]; exact ⟨e, d⟩
  refine qg fun G kG => ?_
  obtain ⟨oL, es, n, hL, r⟩ := id hns
  refine kG ?_
  have hle : s.heap.objs.size ≤ h₁.objs.size := Nat.le_of_lt (Heap.lt_size hL)
  have notT : ∀ {b : Addr}, s.heap.objs.size ≤ b → b ∉ T.map (·.2) := fun {b} hb hm => by
    obtain ⟨q, hq, e⟩ := List.mem_map.mp hm
    obtain ⟨ps, ps₀, x, y, z⟩ := S.tab q hq
    have := Heap.lt_size y.2
    rw [e] at this
    exact absurd this (Nat.not_lt.mpr hb)
  have mv : ∀ W, Mv T g W s.heap h₁ := fun W => ⟨S.keeps hkeep hle, fun b o e _ _ => hkeep b o e, fun b o e => ⟨o, hkeep b o e⟩⟩
  have habv : ∀ p ∈ cells s.heap.objs.size, s.heap.objs.size < p.2 := fun p hp => hab p.1 p.2 hp
  have jj : J T g W s.heap s.heap.objs.size h₁ (bindL (fun n => scope.names.lookup n) binds fun _ => none) ((cells s.heap.objs.size).map fun p => (p.2, ob p.2)) :=
    ⟨mv W, hns, notT (Nat.le_refl _), Heap.get?_none_of_le (Nat.le_refl _), S.le, fun q hq => by
      obtain ⟨p, hp, rfl⟩ := List.mem_map.mp hq
      have := habv p hp
      exact ⟨(hob p hp).1, Nat.ne_of_gt this, notT (Nat.le_of_lt this), Nat.le_of_lt (Nat.lt_of_le_of_lt S.le this)⟩, by
      rw [List.map_map]
      rw [List.nodup_iff_pairwise_ne, List.pairwise_map]
      exact hap, S⟩
  exact wpAny_mono (h s.heap.objs.size h₁ tk ob (fun p hp => (hob p hp).2) jj (mv []) fun p hp => Heap.get?_none_of_le (Nat.le_of_lt (habv p hp))) (fun _ _ x => x) fun _ _ x => x.elim
theorem e_storeCell {env : Env} {x : Str} {v : Value} {c : Addr} {o : Obj} {u : Option Value} {Q : Unit → Shared → Prop} (j : J T g W h₀ L s.heap m kn) (i : Nat) (hi : kn[i]? = some (c, o)) (ho : o.data = .cell u) (hw : c ∈ W ∨ h₀.get? c = none) (hc : env.cells.lookup x = some c)
    (h : ∀ h' o', o'.data = .cell (some v) → J T g W h₀ L h' m (kn.set i (c, o')) → Mv T g [c] s.heap h' → Q () { s with heap := h' })
    (hk : env.scope.kind = .function := by rfl) (hl : env.kindOf x = some .cell := by rfl) :
    wpAny (model prog w) A (storeName env x v) Q E s := by
  refine wpAny_storeName_cell hk hl hc ⟨o, j.get (List.mem_of_getElem? hi), ho⟩ fun h' hc' hs => ?_
  obtain ⟨o', e', d'⟩ := hc'
  obtain ⟨j', mv'⟩ := j.iter i hi hw (by rintro ⟨_, its, n, e⟩; rw [ho] at e; cases e) hs e'
  exact h h' o' d' j' mv'
end
end Mine
end
section
open PySem PySem.W PySem.Calls PyProof.Rows Builtin Builtin.ObjectAttr
namespace Mine
structure Fh (K : Frag) (mg : Str → Option Value) : Prop where
  init : FnAt K 246 (inCls 16 0) "Headers.__init__" [] (.ref 239) 245
  conv : FnAt K 253 (inCls 16 1) "Headers._convert_string_type" [] .none 252
  getAll : FnAt K 293 (inCls 16 7) "Headers.get_all" [] .none 292
  d234 : ∃ d n sl, K.lookup 239 = some ⟨.type "tuple", d, .seq #[.none] n, sl⟩
  pN : PatK K 226 225 cN
  pV : PatK K 231 230 cV
  gN : mg "_name_disallowed_re" = some (.ref 226)
  gV : mg "_value_disallowed_re" = some (.ref 231)
  gt : mg "type" = none
  gs : mg "str" = none
  gl : mg "list" = none
  plain : plainGet K 354 "" = true
  hd : hasDictIn K 354 = true
  over : plainOver K 354 = true
  hdc : (clsIn K 354).any (·.hasDict) = true
  sa : findIn K (.ref 354) "__setattr__" = some (some (.builtin "object.__setattr__"))
  nH : findIn K (.ref 354) "_headers" = some none
  fInit : findIn K (.ref 354) "__init__" = some (some (.ref 246))
  fConv : findIn K (.ref 354) "_convert_string_type" = some (some (.ref 253))
  fGet : findIn K (.ref 354) "get_all" = some (some (.ref 293))
  keep : ∀ f ∈ [(246 : Addr), 253, 293], keepIn K (.ref f) = true ∧ isFn K (.ref f) = true
  makes : makesIn K 354 = true
noncomputable def Printable (x : Str) : Prop := ∀ c ∈ x.cps.toList, 31 < c ∧ c < 127
section
variable {Pk : Addr → Prop}
variable {T : Tabs} {K : Frag} {cd : ClassData} {mg mb : Str → Option Value} {w : World} {A : Around} {s : Shared} {g h₀ h h' : Heap} {W W' : List Addr} {L C : Addr} {m : Str → Option Value} {kn : List (Addr × Obj)} {R : Result → Shared → Prop} {E : Value → Shared → Prop} {prog : Program}
noncomputable def ifBody : Stmt → List Stmt | .If _ b _ _ => b | _ => []
theorem boot_type' : bootBuiltins "type" = some (.type "type") := by decide +kernel
theorem boot_str' : bootBuiltins "str" = some (.type "str") := by decide +kernel
theorem boot_list' : bootBuiltins "list" = some (.type "list") := by decide +kernel
theorem Printable.at {x : Str} (h : Printable x) : ∀ j, j < x.cps.size → 31 < x.cps.getD j 0 ∧ x.cps.getD j 0 < 127 := fun j hj => h _ (by
  rw [getD_list, List.getD_eq_getElem?_getD, List.getElem?_eq_getElem (by simp only [Array.length_toList]; exact hj)]
  exact List.getElem_mem _)
theorem conv_spec {self : Value} {x : Str} {t : Tok} {b : Bool} (FH : Fh K mg) (G : Gb T K mg mb g) (S : St T g s.heap) (r : Rm A 3) (hx : Printable x) (hz : x.cps.size ≤ 100000)
   (hR : ∀ h' tk, Mv T g [] s.heap h' → R (.ok (.ret (.str x t))) { s with heap := h', toks := tk }) :
   codeAny (model PR w) A (.call (.ref 253) ⟨[self, .str x t], [("name", .bool b)]⟩) R s := by
  refine' j_callK (binds := [("self", self), ("value", .str x t), ("name", .bool b)]) [] [] G S Kn.nil FH.conv r.lt (fun _ _ _ _ _ _ => BindsTo.of_eq rfl) (locs rfl) (by decide) ?_ rfl rfl rfl
  intro L h₁ t₁ j mv₁
  refine wpAny_execs_cons (wpAny_If (wpAny_isTrue_Compare1 (Call_ ?_)))
  refine j_builtin (s := { s with heap := h₁, toks := t₁ }) G j FH.gt boot_type' ?_
  refine PyProof.Rows.callWith_type1 (args_cons ?_)
  refine j_local (s := { s with heap := h₁, toks := t₁ }) j rfl (args_nil ?_)
  refine call_type_of (typeIs_str _ _ _) (by rfl) ?_
  refine j_builtin (s := { s with heap := h₁, toks := t₁ }) G j FH.gs boot_str' ?_
  refine wpAny_pure ?_
  refine wpAny_truthy_bool ?_
  rw [show (Value.type "str" == Value.type "str") = true from by exact rfl, if_pos rfl]
  refine wpAny_execs_cons (wpAny_Assign_Name (IfExp_ (wpAny_isTrue_value ?_)))
  refine j_local (s := { s with heap := h₁, toks := t₁ }) j rfl (wpAny_truthy_bool ?_)
  have tail : ∀ pat tb code, PatK K pat tb code → (∃ n, n < 4 * 2 ^ 64 ∧ Ends n (Sre.forSearch code x.cps 0 0 x.cps.size false) Miss) → ∀ h₂ t₂, J T g [] s.heap L h₂ (fun y => if y = "regex" then some (.ref pat) else ([("self", self), ("value", .str x t), ("name", .bool b)] : List (Str × Value)).reverse.lookup y) [] → ∀ Qf : Flow → Shared → Prop, (∀ tk, Qf (.ret (.str x t)) { s with heap := h₂, toks := tk }) →
      wpAny (model PR w) (A.deeper (envX "Headers._convert_string_type" (fScope (inCls 16 1)) L 253 (.ref 252) [])) (execs (ifBody (stAt (fBody (inCls 16 1)) 0)).tail (envX "Headers._convert_string_type" (fScope (inCls 16 1)) L 253 (.ref 252) []))
        Qf (fun _ _ => False) { s with heap := h₂, toks := t₂ } := by
    intro pat tb code pk hE h₂ t₂ j₂ Qf hQf
    obtain ⟨n, hn, hE⟩ := hE
    refine wpAny_execs_cons (wpAny_If (wpAny_isTrue_value (MethodCall_ ?_)))
    refine j_local (s := { s with heap := h₂, toks := t₂ }) j₂ rfl ?_
    refine pat_meth (s := { s with heap := h₂, toks := t₂ }) pk (j₂.mv.st.In G) slot_search ty_search ?_
    refine callWith_method1 (args_cons ?_)
    refine j_local (s := { s with heap := h₂, toks := t₂ }) j₂ rfl (args_nil ?_)
    refine call_search_miss (s := { s with heap := h₂, toks := t₂ }) (pk.at (j₂.mv.st.In G)).1 (by exact Nat.le_trans (by assumption) (by decide)) hE hn ?_
    refine truthy_none ?_
    rw [if_neg (by decide)]
    refine wpAny_execs_nil ?_
    refine wpAny_execs_cons (wpAny_Return_some ?_)
    refine j_local (s := { s with heap := h₂, toks := t₂ }) j₂ rfl ?_
    exact hQf t₂
  cases b with
  | true =>
    rw [if_pos rfl]
    refine j_global (s := { s with heap := h₁, toks := t₁ }) G j FH.gN ?_
    refine j_storeK (s := { s with heap := h₁, toks := t₁ }) j fun h₂ t₂ j₂ mv₂ => ?_
    exact tail _ _ _ FH.pN ⟨30, by decide, searchN hx.at⟩ h₂ t₂ j₂ _ fun tk => hR h₂ tk j₂.mv
  | false =>
    rw [if_neg (by decide)]
    refine j_global (s := { s with heap := h₁, toks := t₁ }) G j FH.gV ?_
    refine j_storeK (s := { s with heap := h₁, toks := t₁ }) j fun h₂ t₂ j₂ mv₂ => ?_
    exact tail _ _ _ FH.pV ⟨30, by decide, searchV hx.at⟩ h₂ t₂ j₂ _ fun tk => hR h₂ tk j₂.mv
theorem Turns.pairU {env : Env} {I : Addr} {fp wr : List Addr} {n : Nat} {Pt : Nat → Array Value → Prop} {Sx : Nat → Heap → Prop} {Mid : Nat → Addr → Heap → Prop} {x y : Str} {px py pt : Pos} {kt : Nat} (Wk : WalksU prog w A I fp wr n Pt Sx Mid) (hh : A.handled = none)
    (hP : ∀ i vals, Pt i vals → vals.size = 2)
    (hw : ∀ b ∈ wr, h₀.get? b = none) (hL : env.locals ∉ fp) (hk : env.scope.kind = .function := by rfl) (hl : env.kindOf x = some .local := by rfl) (hl' : env.kindOf y = some .local := by rfl) :
    Turns prog w A T g W h₀ (.Tuple [.Name x px, .Name y py] kt pt) env I fp wr n (fun i m m' => ∃ v v', Pt i #[v, v'] ∧ m' = fun z => if z = y then some v' else if z = x then some v else m z) Sx where
  sub := Wk.sub
  stable := Wk.frame
  item := fun i s m kn B E hi hs j hkn hB => by
    have hLw : env.locals ∉ wr := fun hm => hL (Wk.sub _ hm)
    have hw' : ∀ b ∈ wr, h₀.get? b = none ∧ b ≠ env.locals := fun b hb => ⟨hw b hb, fun q => hLw (q ▸ hb)⟩
    refine Wk.item i s _ E hi hs fun t vals h' tk hp ht hm k => ?_
    have j' := j.turn k hw' hkn
    refine Wk.go _ _ _ i t { s with heap := h', toks := tk } _ E hm fun h₂ hs₂ k₂ => ?_
    have j₂ := j'.turn k₂ hw' hkn
    have ht₂ : h₂.IsTuple t vals := by
      obtain ⟨o, e, r⟩ := ht
      exact ⟨o, k₂ _ _ (Wk.apart _ _ _ hm) e, r⟩
    have h2 := hP _ _ hp
    obtain ⟨v, v', rfl⟩ : ∃ v v', vals = #[v, v'] := by
      obtain ⟨l⟩ := vals
      match l, h2 with
      | [a, b], _ => exact ⟨a, b, rfl⟩
    refine wpAny_assign_Tuple (s := { s with heap := h₂, toks := tk }) hh ht₂ (by rfl) (by rfl) fun h₃ ex₃ => ?_
    have k₃ : ∀ b o, h₂.get? b = some o → h₃.get? b = some o := fun b o e => ex₃ b o (Nat.ne_of_lt (Heap.lt_size e)) e
    obtain ⟨j₃, mv₃⟩ := j₂.keepsL k₃
    refine wpAny_bind (wpAny_holding (wpAny_assign_Name ?_))
    refine wpAny_storeName_local hl j₃.ns (fun h₄ hn₄ hs₄ => ?_) (by rw [hk]; rfl)
    have j₄ := j₃.store hn₄ hs₄
    refine wpAny_bind (wpAny_holding (wpAny_assign_Name ?_))
    refine wpAny_storeName_local hl' j₄.ns (fun h₅ hn₅ hs₅ => ?_) (by rw [hk]; rfl)
    refine wpAny_pure ?_
    have up : ∀ b o, b ≠ env.locals → h₂.get? b = some o → h₅.get? b = some o := fun b o hb e => (hs₅.2 b hb).trans ((hs₄.2 b hb).trans (k₃ b o e))
    exact hB _ _ _ ⟨v, v', hp, rfl⟩ (j₄.store hn₅ hs₅) (Wk.frame _ _ _ hs₂ fun b hb o e => up b o (fun q => hL (q ▸ hb)) e) fun b o hb hbL e => up b o hbL (k₂ b o hb (k b o hb e))
  done := fun s m kn B E hs j hkn hB => by
    have hLw : env.locals ∉ wr := fun hm => hL (Wk.sub _ hm)
    refine Wk.done s _ E hs fun h' tk k => ?_
    exact hB _ _ (j.turn k (fun b hb => ⟨hw b hb, fun q => hLw (q ▸ hb)⟩) hkn) k
  self := Wk.self
theorem for_step {target : Expr} {env : Env} {I : Addr} {fp wr : List Addr} {n i : Nat} {upd : Nat → (Str → Option Value) → (Str → Option Value) → Prop} {S : Nat → Heap → Prop} {body orelse : List Stmt}
    (Tn : Turns prog w A T g W h₀ target env I fp wr n upd S) (hi : i < n) (hs : S i s.heap) (j : J T g W h₀ env.locals s.heap m kn) (hkn : ∀ p ∈ kn, p.1 ∉ wr)
    (h : ∀ h' tk m', upd i m m' → J T g W h₀ env.locals h' m' kn → S (i + 1) h' → (∀ b o, b ∉ wr → b ≠ env.locals → s.heap.get? b = some o → h'.get? b = some o) →
      wpAny (model prog w) A (execs body env) (fun f s₃ => match f with
          | .next | .cont => codeAny (model prog w) A (.forLoop target (.ref I) body orelse env) R s₃
          | .brk => R (.ok .next) s₃
          | .ret v => R (.ok (.ret v)) s₃) (fun _ _ => False) { s with heap := h', toks := tk }) :
    codeAny (model prog w) A (.forLoop target (.ref I) body orelse env) R s := by
  refine for_turn ?_
  refine wpAny_mono (Tn.item i s m kn (fun s₂ => wpAny (model prog w) A (execs body env) (fun f s₃ => match f with
          | .next | .cont => codeAny (model prog w) A (.forLoop target (.ref I) body orelse env) R s₃
          | .brk => R (.ok .next) s₃
          | .ret v => R (.ok (.ret v)) s₃) (fun _ _ => False) s₂) (fun _ _ => False) hi hs j hkn h) (fun r s₁ h₁ => ?_) fun _ _ f => f
  cases r with
  | none => exact h₁.elim
  | some v => exact h₁
theorem for_done {target : Expr} {env : Env} {I : Addr} {fp wr : List Addr} {n : Nat} {upd : Nat → (Str → Option Value) → (Str → Option Value) → Prop} {S : Nat → Heap → Prop} {body : List Stmt}
    (Tn : Turns prog w A T g W h₀ target env I fp wr n upd S) (hs : S n s.heap) (j : J T g W h₀ env.locals s.heap m kn) (hkn : ∀ p ∈ kn, p.1 ∉ wr)
    (h : ∀ h' tk, J T g W h₀ env.locals h' m kn → (∀ b o, b ∉ wr → s.heap.get? b = some o → h'.get? b = some o) → R (.ok .next) { s with heap := h', toks := tk }) :
    codeAny (model prog w) A (.forLoop target (.ref I) body [] env) R s := by
  refine for_turn ?_
  refine wpAny_mono (Tn.done s m kn (fun s₁ => R (.ok .next) s₁) (fun _ _ => False) hs j hkn h) (fun r s₁ h₁ => ?_) fun _ _ f => f
  cases r with
  | none => exact wpAny_execs_nil h₁
  | some v => exact h₁.elim
end
end Mine
end
section
open PySem PySem.W PySem.Calls PyProof.Rows Builtin Builtin.ObjectAttr
namespace Mine
noncomputable def HdrAt (w : World) (h : Heap) (x d pl : Addr) : Prop := h.get? x = some (instObj 354 d) ∧ ∃ tk, h.get? d = some (dictOf [⟨PyData.keyHash w.params "_headers", .str "_headers" tk, .ref pl⟩] 1)
section
variable {Pk : Addr → Prop}
variable {T : Tabs} {K : Frag} {cd : ClassData} {mg mb : Str → Option Value} {w : World} {A : Around} {s : Shared} {g h₀ h h' : Heap} {W W' : List Addr} {L C : Addr} {m : Str → Option Value} {kn : List (Addr × Obj)} {R : Result → Shared → Prop} {E : Value → Shared → Prop} {prog : Program}
variable {x d pl : Addr}
theorem bind_hinit (FH : Fh K mg) {s : Shared} (Y : K.In s.heap) (x pl : Addr) (fd : FuncData) (h1 : fd.params = fArgs (inCls 16 0)) (h2 : fd.defaults = .ref 239) : BindsTo s fd ⟨[.ref x, .ref pl], []⟩ [("self", .ref x), ("headers", .ref pl)] := by
  obtain ⟨d, n, sl, e⟩ := FH.d234
  obtain ⟨a1, a2, a3, a4, a5, a6, a7, a8, a9, a10, a11, a12, a13, a14⟩ := fd
  dsimp only at h1 h2
  subst h1 h2
  exact BindsTo.of_defaults rfl (Y _ _ e) rfl rfl rfl
theorem e_bool {env : Env} {b : Bool} {k : Nat} {pos : Pos} {Q : Value → Shared → Prop} (h : Q (.bool b) s) : wpAny (model prog w) A (eval (.Constant (.bool b) k pos) env) Q E s := fun _ _ _ => h
theorem hinit_spec {its : Array Value} {ep : Nat} {ps : List (Str × Str)} (FH : Fh K mg) (G : Gb T K mg mb g) (S : St T g s.heap) (r : Rm A 6)
   (hx : s.heap.get? x = some (instObj 354 d)) (hd : s.heap.get? d = some emptyDict) (hne : d ≠ x) (hxg : g.objs.size ≤ x) (hdg : g.objs.size ≤ d)
   (hpl : s.heap.get? pl = some (lstO its ep)) (hps : Parts Pk s.heap its.toList ps) (hpr : ∀ p ∈ ps, (Printable p.1 ∧ p.1.cps.size ≤ 10000) ∧ Printable p.2 ∧ p.2.cps.size ≤ 10000)
   (hR : ∀ h' tk, Mv T g [d] s.heap h' → HdrAt w h' x d pl → R (.ok (.ret .none)) { s with heap := h', toks := tk }) :
   codeAny (model PR w) A (.call (.ref 246) ⟨[.ref x, .ref pl], []⟩) R s := by
  refine' j_callK (binds := [("self", .ref x), ("headers", .ref pl)]) [d] [(d, dictOf [] 0), (x, instObj 354 d)] G S ?hkn FH.init r.lt (fun _ _ _ _ _ _ => bind_hinit FH (S.In G) x pl _ rfl rfl) (locs rfl) (by decide) ?_ rfl rfl rfl
  case hkn =>
    refine ⟨fun p hp => ?_, by simp [hne]⟩
    rcases List.mem_cons.mp hp with rfl | hp
    · exact ⟨hd, S.notTab hd (by nofun), hdg⟩
    · rw [List.mem_singleton.mp hp]; exact ⟨hx, S.notTab hx (by nofun), hxg⟩
  intro L h₁ t₁ j mv₁
  have over : OverOk K 354 := OverOk.plain FH.over FH.hdc
  have rr := r.deeper (env := envX "Headers.__init__" (fScope (inCls 16 0)) L 246 (.ref 245) [])
  have pld : pl ≠ d := by rintro rfl; rw [hpl] at hd; simp [emptyDict] at hd
  have plL : pl ≠ L := j.neL hpl
  refine wpAny_execs_cons (wpAny_Assign_Name (IfExp_ (wpAny_isTrue_Compare1 ?_)))
  refine j_local (s := { s with heap := h₁, toks := t₁ }) j rfl ?_
  refine wpAny_pure (PyProof.Rows.isnot_ref_none (wpAny_truthy_bool ?_))
  rw [if_pos rfl]
  refine j_local (s := { s with heap := h₁, toks := t₁ }) j rfl ?_
  refine j_storeK (s := { s with heap := h₁, toks := t₁ }) j fun h₂ t₂ j₂ mv₂ => ?_
  have hpl₂ : h₂.get? pl = some (lstO its ep) := j₂.old hpl (.inl (by exact ni1 pld))
  refine wpAny_execs_cons (wpAny_If (wpAny_isTrue_Compare1 (Call_ ?_)))
  refine j_builtin (s := { s with heap := h₂, toks := t₂ }) G j₂ FH.gt boot_type' ?_
  refine PyProof.Rows.callWith_type1 (args_cons ?_)
  refine j_local (s := { s with heap := h₂, toks := t₂ }) j₂ rfl (args_nil ?_)
  refine call_type_of (s := { s with heap := h₂, toks := t₂ }) (Tx := "list") ⟨_, hpl₂, rfl⟩ (by rfl) ?_
  refine j_builtin (s := { s with heap := h₂, toks := t₂ }) G j₂ FH.gl boot_list' ?_
  refine isnot_type_same (wpAny_truthy_bool ?_)
  rw [if_neg (by decide)]
  refine wpAny_execs_nil ?_
  refine wpAny_execs_cons (plainObj_wpAny_Assign_Attribute ?_)
  refine j_local (s := { s with heap := h₂, toks := t₂ }) j₂ rfl ?_
  refine j_local (s := { s with heap := h₂, toks := t₂ }) j₂ rfl ?_
  refine j_setD (s := { s with heap := h₂, toks := t₂ }) (es := []) (k := 0) G j₂ (.inl (by exact m1)) rfl rfl ⟨j₂.get (.tail _ (.head _)), rfl, rfl, j₂.get (.head _)⟩ FH.sa over (by unfold takerIn; rw [FH.nH]; rfl) rfl (fun _ => rfl) rfl (by simp) fun h₃ k₃ t₃ j₃ mv₃ => ?_
  have hpl₃ : h₃.get? pl = some (lstO its ep) := j₃.old hpl (.inl (by exact ni1 pld))
  refine wpAny_execs_cons (wpAny_If (wpAny_isTrue_value (e_bool (wpAny_truthy_bool ?_))))
  rw [if_pos rfl]
  refine wpAny_execs_cons (wpAny_For ?_)
  refine j_local (s := { s with heap := h₃, toks := t₃ }) j₃ rfl ?_
  refine j_pyIterList (s := { s with heap := h₃, toks := t₃ }) j₃ hpl₃ rfl rfl fun I h₄ hI j₄ mv₄ nI nI₃ => ?_
  obtain ⟨Ts, vals, htv⟩ := Parts.tups hps
  have hTI : ∀ q, q < its.size → Ts q ≠ I := fun q hq e => by
    obtain ⟨_, ⟨o, e', _⟩, _⟩ := htv q hq
    rw [e, nI] at e'; cases e'
  have hTL : ∀ q, q < its.size → Ts q ≠ L := fun q hq => by
    obtain ⟨_, ⟨o, e', _⟩, _⟩ := htv q hq
    exact j.neL e'
  have plI : pl ≠ I := fun q => by rw [q, nI] at hpl; cases hpl
  have LI : L ≠ I := fun q => by obtain ⟨o, es, n, e', _⟩ := j₃.ns; rw [q, nI₃] at e'; cases e'
  have hsz : its.size = ps.length := by have := hps.len; rw [Array.length_toList] at this; exact this
  have j₄' := j₄.sub (List.sublist_cons_self _ _)
  have Tn := fun (px py pt : Pos) (kt : Nat) => Turns.pairU (px := px) (py := py) (pt := pt) (kt := kt) (T := T) (g := g) (W := [d]) (h₀ := s.heap) (x := "k") (y := "v") (env := envX "Headers.__init__" (fScope (inCls 16 0)) L 246 (.ref 245) [])
    (walkTups (prog := PR) (w := w) (A := A.deeper (envX "Headers.__init__" (fScope (inCls 16 0)) L 246 (.ref 245) [])) rr.h I pl plI its Ts vals (fun q hq => (htv q hq).1) hTI) rr.h
    (fun q vs e => by
      obtain ⟨_, _, _, _, _, _, e'⟩ := htv q e.2
      rw [e.1, e']; rfl) (fun b hb => by rw [List.mem_singleton.mp hb]; exact nI) (fun hm => by
      rcases List.mem_cons.mp hm with q | hm
      · exact LI q
      rcases List.mem_cons.mp hm with q | hm
      · exact plL q.symm
      · obtain ⟨q, hq, e⟩ := List.mem_map.mp hm
        exact hTL q (List.mem_range.mp hq) e)
  have tup : ∀ {h' : Heap} {m'}, J T g [d] s.heap L h' m' [(d, dictOf [⟨PyData.keyHash w.params "_headers", .str "_headers" k₃, .ref pl⟩] 1), (x, instObj 354 d)] → ∀ q, q < its.size → h'.IsTuple (Ts q) (vals q) := fun j' q hq => by
    obtain ⟨_, ⟨o, e1, e2, n, e3⟩, _⟩ := htv q hq
    exact ⟨o, j'.old e1 (.inr ⟨e2, _, _, e3⟩) (by rw [e2]; nofun), e2, n, e3⟩
  have knI : ∀ p ∈ [(d, dictOf [⟨PyData.keyHash w.params "_headers", .str "_headers" k₃, .ref pl⟩] 1), (x, instObj 354 d)], p.1 ∉ [I] := fun p hp hm => by
    rw [List.mem_singleton] at hm
    rcases List.mem_cons.mp hp with rfl | hp
    · dsimp only at hm
      rw [hm, nI] at hd; cases hd
    · rw [List.mem_singleton.mp hp] at hm
      dsimp only at hm
      rw [hm, nI] at hx; cases hx
  have loop : ∀ (k i : Nat) (h' : Heap) (tk : Nat) m', its.size - i = k → i ≤ its.size → J T g [d] s.heap L h' m' [(d, dictOf [⟨PyData.keyHash w.params "_headers", .str "_headers" k₃, .ref pl⟩] 1), (x, instObj 354 d)] → m' "self" = some (.ref x) →
      (h'.IsListIter I pl i ∧ Sq h' pl its ∧ ∀ k, k < its.size → h'.IsTuple (Ts k) (vals k)) → ∀ (px py pt : Pos) (kt : Nat), ∀ RR : Result → Shared → Prop, (∀ h' tk, Mv T g [d] s.heap h' → HdrAt w h' x d pl → RR (.ok .next) { s with heap := h', toks := tk }) →
      codeAny (model PR w) (A.deeper (envX "Headers.__init__" (fScope (inCls 16 0)) L 246 (.ref 245) [])) (.forLoop (.Tuple [.Name "k" px, .Name "v" py] kt pt) (.ref I) (forBody (stAt (ifBody (stAt (fBody (inCls 16 0)) 3)) 0)) [] (envX "Headers.__init__" (fScope (inCls 16 0)) L 246 (.ref 245) [])) RR { s with heap := h', toks := tk } := by
    intro k
    induction k with
    | zero =>
      intro i h' tk m' hk hi j' hself hs px py pt kt RR hRR
      have : i = its.size := by exact de0 hk hi
      subst this
      refine for_done (Tn px py pt kt) hs j' knI fun h'' tk' j'' _ => hRR h'' tk' j''.mv ⟨j''.get (.tail _ (.head _)), _, j''.get (.head _)⟩
    | succ k ih =>
      intro i h' tk m' hk hi j' hself hs px py pt kt RR hRR
      refine for_step (s := { s with heap := h', toks := tk }) (Tn px py pt kt) (by exact dlt hk) hs j' knI fun h₅ t₅ m₅ hu j₅ hs₅ _ => ?_
      obtain ⟨v, v', ⟨e1, hi'⟩, rfl⟩ := hu
      obtain ⟨_, _, q, ta, tb, e2, e3⟩ := htv i hi'
      rw [e3] at e1
      obtain ⟨rfl, rfl⟩ : v = .str q.1 ta ∧ v' = .str q.2 tb := by simpa using e1
      obtain ⟨⟨hq1, hq2⟩, hq3, hq4⟩ := hpr q (List.mem_of_getElem? e2)
      have hs5 : (if ("self" : Str) = "v" then some (.str q.2 tb) else if ("self" : Str) = "k" then some (.str q.1 ta) else m' "self") = some (Value.ref x) := by
        rw [if_neg (by decide), if_neg (by decide)]; exact hself
      refine wpAny_execs_cons (wpAny_Expr (methodCall_KW ?_))
      refine j_local (s := { s with heap := h₅, toks := t₅ }) j₅ hs5 ?_
      refine j_meth (s := { s with heap := h₅, toks := t₅ }) G j₅.mv.st ⟨j₅.get (.tail _ (.head _)), rfl, rfl, j₅.get (.head _)⟩ FH.plain FH.fConv (FH.keep 253 (by exact m2)).2 (by rfl) ?_
      refine callWith_KW (K := K) (h₀ := s.heap) (S.In G) (FH.keep 253 (by exact m2)).1 (by rfl) (args_cons ?_)
      refine j_local (s := { s with heap := h₅, toks := t₅ }) j₅ (v := .str q.1 ta) (ine (by decide) (ipo rfl)) (args_nil (kwAll_cons (e_bool (kwAll_nil ⟨j₅.mv.st.In G, wpAny_call ?_⟩))))
      refine conv_spec (s := { s with heap := h₅, toks := t₅ }) FH G j₅.mv.st (rr.mono (by decide)) hq1 (by exact Nat.le_trans (by assumption) (by decide)) fun h₆ t₆ mv₆ => ?_
      have j₆ := j₅.call0 mv₆
      refine wpAny_execs_cons (wpAny_Expr (methodCall_KW ?_))
      refine j_local (s := { s with heap := h₆, toks := t₆ }) j₆ hs5 ?_
      refine j_meth (s := { s with heap := h₆, toks := t₆ }) G j₆.mv.st ⟨j₆.get (.tail _ (.head _)), rfl, rfl, j₆.get (.head _)⟩ FH.plain FH.fConv (FH.keep 253 (by exact m2)).2 (by rfl) ?_
      refine callWith_KW (K := K) (h₀ := s.heap) (S.In G) (FH.keep 253 (by exact m2)).1 (by rfl) (args_cons ?_)
      refine j_local (s := { s with heap := h₆, toks := t₆ }) j₆ (v := .str q.2 tb) (ipo rfl) (args_nil (kwAll_cons (e_bool (kwAll_nil ⟨j₆.mv.st.In G, wpAny_call ?_⟩))))
      refine conv_spec (s := { s with heap := h₆, toks := t₆ }) FH G j₆.mv.st (rr.mono (by decide)) hq3 (by exact Nat.le_trans (by assumption) (by decide)) fun h₇ t₇ mv₇ => ?_
      have j₇ := j₆.call0 mv₇
      refine wpAny_execs_nil ?_
      refine ih (i + 1) h₇ t₇ _ (by exact dst hk) (by assumption) j₇ hs5 ?_ px py pt kt RR hRR
      have keepI : ∀ o, h₅.get? I = some o → o.cls ≠ .none → h₇.get? I = some o := fun o e hc => mv₇.keep _ _ (mv₆.keep _ _ e (j₅.mv.st.notTab e hc) (.inl (by exact ni0))) (j₆.mv.st.notTab (mv₆.keep _ _ e (j₅.mv.st.notTab e hc) (.inl (by exact ni0))) hc) (.inl (by exact ni0))
      refine qg fun G kG => ?_
      obtain ⟨⟨o, e, c, dd⟩, sq, _⟩ := hs₅
      refine kG ?_
      exact ⟨⟨o, keepI o e (by rw [c]; nofun), c, dd⟩, ⟨_, _, j₇.old hpl (.inl (by exact ni1 pld)), rfl⟩, tup j₇⟩
  refine loop its.size 0 h₄ t₃ _ rfl (Nat.zero_le _) j₄' rfl ⟨⟨_, j₄.get (.head _), rfl, rfl⟩, ⟨_, _, j₄.old hpl (.inl (by exact ni1 pld)), rfl⟩, tup j₄'⟩ _ _ _ _ _ fun h' tk mv' hdr => ?_
  refine wpAny_execs_nil ?_
  exact wpAny_execs_nil (hR h' tk mv' hdr)
end
end Mine
end
section
open PySem PySem.W PySem.Calls PyProof.Rows Builtin Builtin.ObjectAttr
namespace Mine
section
variable {Pk : Addr → Prop}
variable {T : Tabs} {K : Frag} {cd : ClassData} {mg mb : Str → Option Value} {w : World} {A : Around} {s : Shared} {g h₀ h h' : Heap} {W W' : List Addr} {L C : Addr} {m : Str → Option Value} {kn : List (Addr × Obj)} {R : Result → Shared → Prop} {E : Value → Shared → Prop} {prog : Program}
theorem Stays.pure {ws : List Addr} (F : Nat → Value → Prop) : Stays T ws (fun i y _ => F i y) := fun _ _ _ _ f _ => f
noncomputable def Body (prog : Program) (w : World) (A : Around) (T : Tabs) (g : Heap) (s s₂ : Shared) (elt : Expr) (ifs : List Expr) (env : Env) (scope : Scope) (cl : List (Str × Addr)) (n : Nat) (p : Nat → Bool) (F : Nat → Value → Prop) (upd : Nat → (Str → Option Value) → (Str → Option Value) → Prop) : Prop :=
  ∀ D C i (s₃ : Shared) m m' its ep, i < n → upd i m m' → J T g [] s.heap C s₃.heap m' [(D, lstO its ep)] → Mv T g [] s.heap s₃.heap → Ok s₂ s₃ →
      wpAny (model prog w) A (forIn ifs true fun c r => if r = true then do let ok ← isTrue c (compEnvC scope cl C env) (eval c (compEnvC scope cl C env)); pure (ForInStep.yield ok) else pure (ForInStep.yield r))
        (fun ok s₄ => ok = p i ∧ Mv T g [] s₃.heap s₄.heap ∧ Ok s₃ s₄ ∧ (p i = true → wpAny (model prog w) A (eval elt (compEnvC scope cl C env)) (fun y s₅ => F i y ∧ Mv T g [] s₄.heap s₅.heap ∧ Ok s₄ s₅) (fun _ _ => False) s₄)) (fun _ _ => False) s₃
theorem src_list {elt : Expr} {ifs : List Expr} {env : Env} {scope : Scope} {cl : List (Str × Addr)} {n : Nat} {p : Nat → Bool} {F : Nat → Value → Prop} {s₁ : Shared} {ax : Addr} {o : Obj} {its : Array Value} {ep : Nat} {x : Str} {px : Pos}
    (hh : A.handled = none) (mv₁ : Mv T g [] s.heap s₁.heap) (ok₁ : Ok s s₁) (S₁ : St T g s₁.heap) (hax : s₁.heap.get? ax = some o) (hc : o.cls = .type "list") (hd : o.data = .seq its ep) (hn : its.size = n)
    (hx : scope.names.lookup x = some .local) (hk : scope.kind = .function)
    (body : ∀ s₂, Ok s₁ s₂ → Body prog w A T g s s₂ elt ifs env scope cl n p F (fun i m m' => ∃ v, its[i]? = some v ∧ m' = fun y => if y = x then some v else m y)) :
    wpAny (model prog w) A (pyIter (.ref ax)) (Src prog w A T g s elt (.Name x px) ifs env scope cl n p (fun _ i y _ => F i y)) E s₁ := by
  subst hn
  refine wpAny_pyIter_list ⟨o, hax, hc, ep, hd⟩ ?_
  have nI : s₁.heap.get? s₁.heap.objs.size = none := Heap.get?_none_of_le (Nat.le_refl _)
  have hne : ax ≠ s₁.heap.objs.size := Nat.ne_of_lt (Heap.lt_size hax)
  have mv₂ : Mv T g [] s.heap (s₁.heap.push { cls := .type "list_iterator", data := .fields #[.ref ax, .int 0 0] }) := mv₁.keeps (fun b o e => Heap.get?_push_of_some _ e) (by rw [Heap.size_push]; exact Nat.le_succ_of_le S₁.le)
  have noT : s₁.heap.objs.size ∉ T.map (·.2) := fun hm => by
    obtain ⟨q, hq, e⟩ := List.mem_map.mp hm
    obtain ⟨ps, ps₀, x, y, z⟩ := S₁.tab q hq
    have := Heap.lt_size y.2
    rw [e] at this
    exact absurd this (Nat.lt_irrefl _)
  have Wk := Walks.list (prog := prog) (w := w) hh s₁.heap.objs.size ax hne its
  refine ⟨mv₂, ⟨ok₁.1, ok₁.2⟩, s₁.heap.objs.size, _, _, _, _, rfl, ⟨⟨_, Heap.get?_push_size _ rfl, rfl, rfl⟩, ⟨o, Heap.get?_push_of_some _ hax, hc, ep, hd⟩⟩, ?_, fun C hC => Turns.name Wk (fun b hb => ?_) hC hk (lookup_relabel_local hx), fun D C => Stays.pure F, ?_⟩
  · intro b hb
    show b < (s₁.heap.push _).objs.size ∧ _
    rw [Heap.size_push]
    rcases List.mem_cons.mp hb with rfl | hb
    · exact ⟨Nat.lt_succ_self _, noT⟩
    · rw [List.mem_singleton.mp hb]
      exact ⟨Nat.lt_succ_of_lt (Heap.lt_size hax), S₁.notTab hax (by rw [hc]; nofun)⟩
  · rw [List.mem_singleton.mp hb]
    exact none_back mv₁ nI
  · intro D C i s₃ m m' its' ep' hi hu j mv hs ok
    exact body _ ⟨rfl, id⟩ D C i s₃ m m' its' ep' hi hu j mv ok
end
end Mine
end
section
open PySem PySem.W PySem.Calls PyProof.Rows Builtin Builtin.ObjectAttr
namespace Mine
section
variable {Pk : Addr → Prop}
variable {T : Tabs} {K : Frag} {cd : ClassData} {mg mb : Str → Option Value} {w : World} {A : Around} {s : Shared} {g h₀ h h' : Heap} {W W' : List Addr} {L C : Addr} {m : Str → Option Value} {kn : List (Addr × Obj)} {R : Result → Shared → Prop} {E : Value → Shared → Prop} {prog : Program}
variable {x d pl : Addr}
theorem Body.all {s₂ : Shared} {elt : Expr} {env : Env} {scope : Scope} {cl : List (Str × Addr)} {n : Nat} {F : Nat → Value → Prop} {upd : Nat → (Str → Option Value) → (Str → Option Value) → Prop}
    (h : ∀ D C i (s₃ : Shared) m m' its ep, i < n → upd i m m' → J T g [] s.heap C s₃.heap m' [(D, lstO its ep)] → Mv T g [] s.heap s₃.heap → Ok s₂ s₃ →
      wpAny (model prog w) A (eval elt (compEnvC scope cl C env)) (fun y s₅ => F i y ∧ Mv T g [] s₃.heap s₅.heap ∧ Ok s₃ s₅) (fun _ _ => False) s₃) : Body prog w A T g s s₂ elt [] env scope cl n (fun _ => true) F upd := by
  intro D C i s₃ m m' its ep hi hu j mv ok
  exact wpAny_tests_nil ⟨rfl, Mv.refl j.mv.st, Ok.refl _, fun _ => h D C i s₃ m m' its ep hi hu j mv ok⟩
theorem hdr_new {its : Array Value} {ep : Nat} {ps : List (Str × Str)} (FH : Fh K mg) (G : Gb T K mg mb g) (S : St T g s.heap) (r : Rm A 7)
   (hpl : s.heap.get? pl = some (lstO its ep)) (hps : Parts Pk s.heap its.toList ps) (hpr : ∀ p ∈ ps, (Printable p.1 ∧ p.1.cps.size ≤ 10000) ∧ Printable p.2 ∧ p.2.cps.size ≤ 10000)
   (hR : ∀ x d h' tk, Mv T g [] s.heap h' → HdrAt w h' x d pl → s.heap.get? x = none → s.heap.get? d = none → g.objs.size ≤ x → g.objs.size ≤ d → R (.ok (.ret (.ref x))) { s with heap := h', toks := tk }) :
   codeAny (model PR w) A (.call (.ref 354) ⟨[.ref pl], []⟩) R s := by
  obtain ⟨hh, gg, dd, tt, os⟩ := s
  dsimp only at S hpl hps
  have Y := S.In G
  refine make_core (makes_of Y FH.makes) (looks_findIn Y FH.fInit) (fun self => bind_fn Y self (beq_iff_eq.mp (FH.keep 246 (by exact m1)).2)) (.inl rfl) ?_
  have S₂ : St T g ((hh.push emptyDict).push (instObj 354 hh.objs.size)) := (S.push _).push _
  have hx : ((hh.push emptyDict).push (instObj 354 hh.objs.size)).get? (hh.objs.size + 1) = some (instObj 354 hh.objs.size) := by heap_get
  have hd : ((hh.push emptyDict).push (instObj 354 hh.objs.size)).get? hh.objs.size = some emptyDict := by heap_get
  have kp : ∀ b o, hh.get? b = some o → ((hh.push emptyDict).push (instObj 354 hh.objs.size)).get? b = some o := fun b o e => Heap.get?_push_of_some _ (Heap.get?_push_of_some _ e)
  have nn : ∀ b, hh.objs.size ≤ b → hh.get? b = none := fun b hb => Heap.get?_none_of_le hb
  have mv0 : Mv T g [] hh ((hh.push emptyDict).push (instObj 354 hh.objs.size)) := ⟨S₂, fun b o e _ _ => kp _ _ e, fun b o e => ⟨o, kp _ _ e⟩⟩
  refine hinit_spec (s := ⟨_, gg, dd, tt, os⟩) FH G S₂ r.make hx hd (Ne.symm (Nat.succ_ne_self _)) (Nat.le_succ_of_le S.le) S.le (kp _ _ hpl) (hps.mv S mv0) hpr fun h' tk mv hdr => ?_
  refine ⟨rfl, ?_⟩
  refine hR _ _ h' tk (mv0.trans mv fun b hb => ?_) hdr (nn _ (Nat.le_succ _)) (nn _ (Nat.le_refl _)) (Nat.le_succ_of_le S.le) S.le
  rw [List.mem_singleton.mp hb]; exact .inr (nn _ (Nat.le_refl _))
end
end Mine
end
section
open PySem PySem.W PySem.Calls PyProof.Rows Builtin Builtin.ObjectAttr
namespace Mine
section
variable {Pk : Addr → Prop}
variable {T : Tabs} {K : Frag} {cd : ClassData} {mg mb : Str → Option Value} {w : World} {A : Around} {s : Shared} {g h₀ h h' : Heap} {W W' : List Addr} {L C : Addr} {m : Str → Option Value} {kn : List (Addr × Obj)} {R : Result → Shared → Prop} {E : Value → Shared → Prop} {prog : Program}
theorem e_Slice {lower upper : Option Expr} {p : Pos} {env : Env} {Q : Value → Shared → Prop}
    (h : wpAny (model prog w) A (evalPart lower env) (fun l s₁ => wpAny (model prog w) A (evalPart upper env) (fun u s₂ => Q (.ref s₂.heap.objs.size) { s₂ with heap := s₂.heap.push (slObj l u) }) E s₁) E s) :
    wpAny (model prog w) A (eval (.Slice lower upper none p) env) Q E s :=
  wpAny_Slice (wpAny_mono h (fun l s₁ h₁ => wpAny_mono h₁ (fun u s₂ h₂ => wpAny_pure h₂) fun _ _ x => x) fun _ _ x => x)
theorem J.pushK (j : J T g W h₀ L h m kn) (o : Obj) (hf : o.isFreed = false) : ∃ a h', a = h.objs.size ∧ h' = h.push o ∧ J T g W h₀ L h' m ((a, o) :: kn) ∧ Mv T g [] h h' ∧ h₀.get? a = none ∧ h.get? a = none :=
  ⟨_, _, rfl, rfl, j.push o hf, Mv.push j.mv.st o, j.new, Heap.get?_none_of_le (Nat.le_refl _)⟩
theorem sub_slice {value slice : Expr} {l sl : Addr} {its : Array Value} {vl vu : Value} {lo hi : Option Int} {Q : Value → Shared → Prop} (hl : s.heap.IsList l its) (hs : s.heap.IsSliceOf sl vl vu .none) (pl : IsPart vl lo) (pu : IsPart vu hi) (hz : its.size ≤ 100000)
    (h : Q (.ref s.heap.objs.size) { s with heap := s.heap.push (lstO (slicePick its lo hi none) 0) })
    (hs' : subscripted slice false (.ref l) (.ref sl) = operate [.ref sl, .ref l] (getItem (.ref l) (.ref sl)) := by with_unfolding_all rfl)
    (ht : ∀ r, letTemporaryGo value (.ref l) r = pure () := by intro _; with_unfolding_all rfl) :
    wpAny (model prog w) A (subscriptTail value slice (.ref l) (.ref sl)) Q E s :=
  subscriptTail_ops hl.typeIs list_getitem_lookup (wpAny_getItem_list_slice hl hs pl pu .none (by simp) h (by rw [sizeLine_eq]; exact Nat.le_trans (by assumption) (by decide))) hs' ht
theorem ints_of_paired {f : Nat → Int} {l : List Nat} {vs : List Value} (h : Paired (fun i y => ∃ t, y = .int (f i) t) l vs) : IntsAre vs (l.map f) := by
  induction h with
  | nil => exact .nil
  | cons f t ih =>
    obtain ⟨u, rfl⟩ := f
    exact .cons _ _ ih
theorem J.add (j : J T g W h₀ L h m kn) {a : Addr} {o : Obj} (e : h.get? a = some o) (hL : a ≠ L) (hT : a ∉ T.map (·.2)) (hg : g.objs.size ≤ a) (ha : a ∉ kn.map (·.1)) : J T g W h₀ L h m ((a, o) :: kn) :=
  ⟨j.mv, j.ns, j.Lt, j.Ln, j.Lg, fun p hp => by
    rcases List.mem_cons.mp hp with rfl | hp
    · exact ⟨e, hL, hT, hg⟩
    · exact j.has p hp, by rw [List.map_cons]; exact List.nodup_cons.mpr ⟨ha, j.nd⟩, j.s0⟩
end
end Mine
end
section
open PySem PySem.W PySem.Calls PyProof.Rows Builtin Builtin.ObjectAttr Builtin.Str
namespace Mine
section
variable {Pk : Addr → Prop}
variable {T : Tabs} {K : Frag} {cd : ClassData} {mg mb : Str → Option Value} {w : World} {A : Around} {s : Shared} {g h₀ h h' : Heap} {W W' : List Addr} {L C : Addr} {m : Str → Option Value} {kn : List (Addr × Obj)} {R : Result → Shared → Prop} {E : Value → Shared → Prop} {prog : Program}
theorem seqi_list : seqSlot? (.type "list") (dunderI "add") = pure (some (.builtin "list.__iadd__")) := PyProof.Rows.seqSlot_of PySem.F.slot_list_iadd.lookup (by decide +kernel)
theorem fillsi_list : fillsInplaceSlot (.type "list") "add" (Operator.Add == .Add) = pure false := by
  unfold fillsInplaceSlot
  show (typeLookup (.type "list") (dunderI "add") >>= fun fi => pure (fi.isSome && !isSeqSlot fi)) = pure false
  rw [PySem.F.slot_list_iadd.lookup]
  show (pure _ : Sem Bool) = pure false
  rw [show isSeqSlot (some (.builtin "list.__iadd__")) = true by decide +kernel]
  rfl
theorem iadd_list {l b : Addr} {xs ys : Array Value} {n n2 : Nat} {Q : Value → Shared → Prop} (hl : s.heap.get? l = some (lstO xs n)) (hb : s.heap.get? b = some (lstO ys n2)) (hz : xs.size + ys.size ≤ 100000)
    (h : Q (.ref l) { s with heap := s.heap.update l (Obj.mapSeq fun x => x ++ ys) }) : wpAny (model prog w) A (inplaceOp .Add (.ref l) (.ref b)) Q E s := by
  have ha : s.TypeIs (.ref l) "list" := ⟨_, hl, rfl⟩
  have hb' : s.TypeIs (.ref b) "list" := ⟨_, hb, rfl⟩
  unfold inplaceOp
  refine wpAny_holding ?_
  refine wpAny_bind (wpAny_typeOf ha (wpAny_bind (wpAny_of_eq fillsi_list ?_)))
  show wpAny _ A (if false = true then _ else _) Q E s
  refine wf Bool.false_ne_true ?_
  refine wpAny_bind (PyProof.Rows.binaryOp1_none (nm := "add") ha hb' PySem.noFill_list_add ?_)
  refine wpAny_bind (wpAny_of_eq seqi_list ?_)
  refine wpAny_bind (wpAny_rule ?_)
  refine call_meets PySem.F.slot_list_iadd ha PySem.F.entry_list_iadd (PySem.F.args_list_iadd_2 _ _) (AutoSeq1.list___iadd___list_list_0 l xs n b ys n2 ?_ (by rw [sizeLine_eq]; lia) (by rw [sizeLine_eq]; exact Nat.le_trans (by assumption) (by decide))) ⟨hl, hb, h⟩
  have : Builtin.List.listTooLong (xs.size + ys.size) = false := by
    unfold Builtin.List.listTooLong
    simp [sizeLine_eq]; exact Nat.le_trans (by assumption) (by decide)
  rw [this]
  simp
noncomputable def partP (x y : Str) : Str × Str := match occurrences x y 0 x.length 1 with | i :: _ => (strSub x 0 i, strSub x (i + y.length) x.length) | [] => (x, Str.empty)
theorem g_partition {x y : Str} {t u : Tok} {Q : Value → Shared → Prop} (hy : (y.length == 0) = false) (hx : x.length ≤ 100000)
    (h : ∀ t1 t2 t3 mid tk, Q (.ref s.heap.objs.size) { s with heap := s.heap.push (tupObj [.str (partP x y).1 t1, .str mid t2, .str (partP x y).2 t3]), toks := tk }) : wpAny (model prog w) A (call (.builtin "str.partition") [.str x t, .str y u]) Q E s := by
  refine call_meets PySem.F.slot_str_partition (typeIs_str _ _ _) PySem.F.entry_str_partition (PySem.F.args_str_partition_2 _ _) (meets_str_partition x y t u hy (by rw [sizeLine_eq]; exact Nat.le_trans (by assumption) (by decide))) ?_
  unfold partP at h
  revert h
  cases occurrences x y 0 x.length 1 with
  | nil => intro h; exact h _ _ _ _ _
  | cons i r => intro h; exact h _ _ _ _ _
end
end Mine
end
section
open PySem PySem.StrLaws Builtin Builtin.Str
namespace Mine
noncomputable def gls (sep : List Nat) : List (List Nat) → List Nat
  | [] => []
  | x :: ws => x ++ (ws.map (sep ++ ·)).flatten
theorem join_gls (sep : Str) : ∀ l : List Str, (Str.join sep l).cps.toList = gls sep.cps.toList (l.map (·.cps.toList))
  | [] => rfl
  | [x] => by show x.cps.toList = _; simp [gls]
  | x :: y :: r => by
    have ih := join_gls sep (y :: r)
    show (x.cps ++ sep.cps ++ (Str.join sep (y :: r)).cps).toList = _
    rw [Array.toList_append, Array.toList_append, ih]
    simp [gls]
theorem cut_first {c : Nat} : ∀ {x x' R R' : List Nat}, c ∉ x → c ∉ x' → (R = [] ∨ ∃ t, R = c :: t) → (R' = [] ∨ ∃ t, R' = c :: t) → x ++ R = x' ++ R' → x = x' ∧ R = R'
  | [], [], R, R', _, _, _, _, e => ⟨rfl, e⟩
  | [], a :: x', R, R', _, h', hR, _, e => by
    rcases hR with rfl | ⟨t, rfl⟩
    · cases e
    · injection e with e1 e2
      exact absurd (by rw [e1]; exact .head _) h'
  | a :: x, [], R, R', h, _, _, hR', e => by
    rcases hR' with rfl | ⟨t, rfl⟩
    · cases e
    · injection e with e1 e2
      exact absurd (by rw [← e1]; exact .head _) h
  | a :: x, b :: x', R, R', h, h', hR, hR', e => by
    injection e with e1 e2
    obtain ⟨i1, i2⟩ := cut_first (fun hm => h (.tail _ hm)) (fun hm => h' (.tail _ hm)) hR hR' e2
    exact ⟨by rw [e1, i1], i2⟩
theorem tail_shape (c : Nat) (t : List Nat) : ∀ ws : List (List Nat), ((ws.map ((c :: t) ++ ·)).flatten = [] ∨ ∃ u, (ws.map ((c :: t) ++ ·)).flatten = c :: u)
  | [] => .inl rfl
  | w :: ws => .inr ⟨_, rfl⟩
theorem gls_inj (c : Nat) (t : List Nat) : ∀ (ws ws' : List (List Nat)) (x x' : List Nat), c ∉ x → c ∉ x' → (∀ w ∈ ws, c ∉ w) → (∀ w ∈ ws', c ∉ w) → gls (c :: t) (x :: ws) = gls (c :: t) (x' :: ws') → x :: ws = x' :: ws'
  | [], [], x, x', h, h', _, _, e => by
    have := cut_first h h' (tail_shape c t []) (tail_shape c t []) e
    rw [this.1]
  | [], w' :: ws', x, x', h, h', _, _, e => by
    have := (cut_first h h' (tail_shape c t []) (tail_shape c t (w' :: ws')) e).2
    cases this
  | w :: ws, [], x, x', h, h', _, _, e => by
    have := (cut_first h h' (tail_shape c t (w :: ws)) (tail_shape c t []) e).2
    cases this
  | w :: ws, w' :: ws', x, x', h, h', hw, hw', e => by
    obtain ⟨e1, e2⟩ := cut_first h h' (tail_shape c t (w :: ws)) (tail_shape c t (w' :: ws')) e
    have e3 : gls (c :: t) (w :: ws) = gls (c :: t) (w' :: ws') := by
      simp only [List.map_cons, List.flatten_cons, List.append_assoc] at e2
      exact List.append_cancel_left e2
    have := gls_inj c t ws ws' w w' (hw w (.head _)) (hw' w' (.head _)) (fun v hv => hw v (.tail _ hv)) (fun v hv => hw' v (.tail _ hv)) e3
    rw [e1, this]
theorem str_inj {x y : Str} (h : x.cps.toList = y.cps.toList) : x = y := by
  obtain ⟨⟨a⟩⟩ := x
  obtain ⟨⟨b⟩⟩ := y
  cases h
  rfl
theorem map_inj : ∀ {l l' : List Str}, l.map (·.cps.toList) = l'.map (·.cps.toList) → l = l'
  | [], [], _ => rfl
  | [], _ :: _, h => by cases h
  | _ :: _, [], h => by cases h
  | x :: l, y :: l', h => by
    simp only [List.map_cons, List.cons.injEq] at h
    rw [str_inj h.1, map_inj h.2]
theorem split_ne (x y : Str) : Txt.split x y ≠ [] := by
  unfold Txt.split
  split
  · exact List.cons_ne_nil _ _
  · split
    · exact List.cons_ne_nil _ _
    · rw [partsBetween_eq]
      obtain ⟨p, r, e⟩ := partsFrom_ne x y.length 0 (occurrences x y 0 x.length (x.length + 1))
      rw [e]; exact List.cons_ne_nil _ _
theorem split_of_parts {c : Nat} {t : List Nat} {parts : List Str} {sep : Str} (hs : sep.cps.toList = c :: t) (hne : parts ≠ []) (hf : ∀ p ∈ parts, c ∉ p.cps.toList) (hq : ∀ p ∈ Txt.split (Str.join sep parts) sep, c ∉ p.cps.toList) : Txt.split (Str.join sep parts) sep = parts := by
  have e := join_split (Str.join sep parts) sep
  have e' := congrArg (fun z : Str => z.cps.toList) e
  rw [join_gls, join_gls, hs] at e'
  have hne' := split_ne (Str.join sep parts) sep
  obtain ⟨qs, eqs⟩ : ∃ qs, qs = Txt.split (Str.join sep parts) sep := ⟨_, rfl⟩
  rw [← eqs] at e' hq hne' ⊢
  cases parts with
  | nil => exact absurd rfl hne
  | cons x ws =>
    cases qs with
    | nil => exact absurd rfl hne'
    | cons q qs =>
      refine map_inj ?_
      exact gls_inj c t _ _ _ _ (hq q (.head _)) (hf x (.head _)) (fun w hw => by
        obtain ⟨v, hv, rfl⟩ := List.mem_map.mp hw
        exact hq v (.tail _ hv)) (fun w hw => by
        obtain ⟨v, hv, rfl⟩ := List.mem_map.mp hw
        exact hf v (.tail _ hv)) e'
theorem parts_freeH (x y : Str) (c : Nat) (H : ∀ k, At x ⟨#[c]⟩ x.length k → At x y x.length k) : ∀ (cuts : List Nat) (a f : Nat), ChainG x y x.length a cuts f → (∀ k, f ≤ k → ¬ At x y x.length k) → ∀ p ∈ partsFrom x y.length a cuts, c ∉ p.cps.toList
  | [], a, f, h, hn, p, hp => by
    have e : f = a := h
    rw [List.mem_singleton.mp hp, ← e]
    exact part_free x c f x.length (Nat.le_refl _) fun k h1 _ hA => hn k h1 (H k hA)
  | d :: r, a, f, h, hn, p, hp => by
    rcases List.mem_cons.mp hp with e | hp'
    · rw [e]
      exact part_free x c a d (by have := h.2.1.1; lia) fun k h1 h2 hA => h.2.2.1 k h1 h2 (H k hA)
    · exact parts_freeH x y c H r _ f h.2.2.2 hn p hp'
theorem free_of_noAt {x : Str} {c : Nat} (h : ∀ k, ¬ At x ⟨#[c]⟩ x.length k) : c ∉ x.cps.toList := by
  have := part_free x c 0 x.length (Nat.le_refl _) fun k _ _ => h k
  rwa [sub_whole] at this
theorem split_freeH (x y : Str) (c : Nat) (hy : 1 ≤ y.length) (hk : Builtin.Str.strKind y = 1) (H : ∀ k, At x ⟨#[c]⟩ x.length k → At x y x.length k) : ∀ p ∈ Txt.split x y, c ∉ p.cps.toList := by
  obtain ⟨f, hG, hn⟩ := occ_tight x y hy
  have k1 : 1 ≤ Builtin.Str.strKind x := by unfold Builtin.Str.strKind; split <;> (try split) <;> lia
  intro p hp
  unfold Txt.split at hp
  split at hp
  · rename_i hc
    rw [List.mem_singleton.mp hp]
    rw [Bool.or_eq_true, decide_eq_true_eq, decide_eq_true_eq, hk] at hc
    refine free_of_noAt fun k hA => ?_
    have := (H k hA).1
    rcases hc with h | h
    · lia
    · lia
  · split at hp
    · rename_i he
      rw [List.mem_singleton.mp hp]
      rw [List.isEmpty_iff.mp he] at hG
      have ef : f = 0 := hG
      subst ef
      exact free_of_noAt fun k hA => hn k (Nat.zero_le _) (H k hA)
    · rw [partsBetween_eq] at hp
      exact parts_freeH x y c H _ 0 f hG hn p hp
noncomputable def textL (ls : List (List Nat)) : List Nat := (ls.map fun l => l ++ [13, 10]).flatten
theorem dotsF (c : Nat) (l : List Nat) : dots false (c :: l) = c :: dots (c == 10) l := by
  rw [dots, if_neg (by simp)]
theorem dotsT (l : List Nat) : dots true (46 :: l) = 46 :: 46 :: dots false l := by
  rw [dots, if_pos ⟨rfl, rfl⟩]
theorem dots_in : ∀ (l R : List Nat), 10 ∉ l → dots false (l ++ 13 :: 10 :: R) = l ++ 13 :: 10 :: dots true R
  | [], R, _ => by exact rfl
  | c :: l, R, h => by
    have c2 : c ≠ 10 := fun e => h (by simp [e])
    have := dots_in l R fun hm => h (.tail _ hm)
    rw [List.cons_append, dotsF, show (c == 10) = false by rw [beq_eq_false_iff_ne]; exact c2, this]
    rfl
theorem crlf_list : ("\r\n" : Str).cps.toList = [13, 10] := by decide +kernel
theorem crlf_kind : Builtin.Str.strKind ("\r\n" : Str) = 1 := by decide +kernel
theorem text_next : ∀ ls : List (List Nat), (∀ l ∈ ls, 13 ∉ l) → ∀ k : Nat, (textL ls)[k]? = some 13 → (textL ls)[k + 1]? = some 10
  | [], _, k, h => by simp [textL] at h
  | l :: ls, hl, k, h => by
    have e : textL (l :: ls) = l ++ 13 :: 10 :: textL ls := by simp [textL]
    rw [e] at h ⊢
    by_cases h1 : k < l.length
    · rw [List.getElem?_append_left h1] at h
      exact absurd (List.mem_of_getElem? h) (hl l (.head _))
    rw [List.getElem?_append_right (by exact Nat.le_of_not_lt h1)] at h
    rw [List.getElem?_append_right (by lia)]
    obtain ⟨j, hj⟩ : ∃ j, k - l.length = j := ⟨_, rfl⟩
    rw [hj] at h
    rw [show k + 1 - l.length = j + 1 by lia]
    match j, h with
    | 0, h => rfl
    | 1, h => cases h
    | j + 2, h => exact text_next ls (fun m hm => hl m (.tail _ hm)) j h
theorem text_join : ∀ ls : List (List Nat), textL ls = gls [13, 10] (ls ++ [[]])
  | [] => rfl
  | l :: ls => by
    have ih := text_join ls
    have e : textL (l :: ls) = l ++ 13 :: 10 :: textL ls := by simp [textL]
    rw [e, ih]
    cases ls with
    | nil => exact rfl
    | cons m ms => exact rfl
theorem split_text {x : Str} {ls : List Str} (hx : x.cps.toList = textL (ls.map (·.cps.toList))) (h : ∀ l ∈ ls, 13 ∉ l.cps.toList) : Txt.split x "\r\n" = ls ++ [⟨#[]⟩] := by
  have hj : x = Str.join "\r\n" (ls ++ [⟨#[]⟩]) := by
    apply str_inj
    rw [join_gls, crlf_list, hx, text_join, List.map_append]
    rfl
  have hq : ∀ p ∈ Txt.split x "\r\n", 13 ∉ p.cps.toList := by
    refine split_freeH x "\r\n" 13 (by decide +kernel) crlf_kind fun k hA => ?_
    have h1 := (subAt_one x 13 k).mp hA
    rw [hx] at h1
    have h2 := text_next _ (fun l hl => by
      obtain ⟨m, hm, rfl⟩ := List.mem_map.mp hl
      exact h m hm) k h1
    rw [← hx] at h1 h2
    obtain ⟨b1, e1⟩ := List.getElem?_eq_some_iff.mp h1
    obtain ⟨b2, e2⟩ := List.getElem?_eq_some_iff.mp h2
    refine ⟨?_, ?_⟩
    · show k + 2 ≤ x.length
      rw [str_len] at b2
      assumption
    · rw [subAt_eq, crlf_list, beq_iff_eq]
      show (x.cps.toList.drop k).take 2 = _
      rw [List.drop_eq_getElem_cons b1, List.drop_eq_getElem_cons b2, e1, e2]
      rfl
  rw [hj] at hq ⊢
  exact split_of_parts crlf_list (by exact List.append_ne_nil_of_right_ne_nil _ (List.cons_ne_nil _ _)) (fun p hp => by
    rcases List.mem_append.mp hp with hp | hp
    · exact h p hp
    · rw [List.mem_singleton.mp hp]; simp) hq
noncomputable abbrev WS := List (Str × Str)
noncomputable abbrev wl (x : Str) : List Nat := x.cps.toList
noncomputable def mkS (l : List Nat) : Str := ⟨l.toArray⟩
theorem wl_mk (l : List Nat) : wl (mkS l) = l := rfl
theorem mk_wl (x : Str) : mkS (wl x) = x := str_inj (wl_mk _)
theorem wl_app (x y : Str) : wl (x ++ y) = wl x ++ wl y := Array.toList_append
theorem wl_len (x : Str) : (wl x).length = x.length := Array.length_toList
theorem wl_ne {x : Str} (h : x ≠ "") : wl x ≠ [] := fun q => h (str_inj q)
noncomputable def valL (ws : WS) : List Nat := (ws.map fun p => wl p.1 ++ wl p.2).flatten
theorem valL_app (a b : WS) : valL (a ++ b) = valL a ++ valL b := by unfold valL; rw [List.map_append, List.flatten_append]
theorem valL_one (p : Str × Str) : valL [p] = wl p.1 ++ wl p.2 := List.append_nil _
theorem valL_len (ws : WS) : ((valL ws).length : Int) = plen ws := by
  induction ws with
  | nil => rfl
  | cons p ws ih =>
    show ((wl p.1 ++ wl p.2 ++ valL ws).length : Int) = (p.1.length : Int) + p.2.length + plen ws
    rw [List.length_append, List.length_append, wl_len, wl_len, ← ih]; rfl
noncomputable def chunkG (W : Int) (st : List Str × WS × Nat) (p : Str × Str) : List Str × WS × Nat :=
  if (st.2.2 : Int) + plen (st.2.1 ++ [p]) > W then
    (if st.2.1 = [] then (st.1 ++ [("" : Str)], [(if p.1 = "" then " " else p.1, p.2)], 0) else (st.1 ++ [ptext st.2.1], [p], 0))
  else (st.1, st.2.1 ++ [p], st.2.2)
noncomputable def fmtF (W : Int) (n : Nat) (ws : WS) : List Str := (ws.foldl (chunkG W) ([], [], n)).1 ++ [ptext (ws.foldl (chunkG W) ([], [], n)).2.1]
noncomputable def stepT (W : Int) (st : List (List Nat) × List Nat) (p : Str × Str) : List (List Nat) × List Nat :=
  if ((st.2 ++ (wl p.1 ++ wl p.2)).length : Int) > W then (st.1 ++ [st.2], (if p.1 = "" then [32] else wl p.1) ++ wl p.2) else (st.1, st.2 ++ (wl p.1 ++ wl p.2))
noncomputable def rowsT (W : Int) (pre : List Nat) (ws : WS) : List (List Nat) := (ws.foldl (stepT W) ([], pre)).1 ++ [(ws.foldl (stepT W) ([], pre)).2]
noncomputable def addPre (pre : List Nat) : List (List Nat) → List (List Nat)
  | [] => []
  | x :: r => (pre ++ x) :: r
theorem addPre_app (pre x : List Nat) {l : List (List Nat)} (h : l ≠ []) : addPre pre (l ++ [x]) = addPre pre l ++ [x] := by
  cases l with
  | nil => exact absurd rfl h
  | cons y r => rfl
theorem ptext_val (ps : WS) : wl (ptext ps) = valL ps := ptext_list ps
structure Rl (pre : List Nat) (f : List Str × WS × Nat) (t : List (List Nat) × List Nat) : Prop where
  len : (t.2.length : Int) = f.2.2 + plen f.2.1
  rows : addPre pre (f.1.map wl ++ [valL f.2.1]) = t.1 ++ [t.2]
theorem app_ne {α : Type} {l : List α} {x : α} : l ++ [x] ≠ [] := by simp
theorem snoc_inj {α : Type} {a b : List α} {x y : α} (h : a ++ [x] = b ++ [y]) : a = b ∧ x = y := by
  have := List.append_inj' h rfl
  exact ⟨this.1, List.cons.inj this.2 |>.1⟩
theorem addPre_last {pre x y : List Nat} {l r : List (List Nat)} {c : List Nat} (h : addPre pre (l ++ [x]) = r ++ [c]) : addPre pre (l ++ [x ++ y]) = r ++ [c ++ y] := by
  cases l with
  | nil =>
    have h' : [] ++ [pre ++ x] = r ++ [c] := h
    obtain ⟨h1, h2⟩ := snoc_inj h'
    subst h1 h2
    show [pre ++ (x ++ y)] = [] ++ [pre ++ x ++ y]
    rw [List.append_assoc]; rfl
  | cons z l =>
    have h' : ((pre ++ z) :: l) ++ [x] = r ++ [c] := h
    obtain ⟨h1, h2⟩ := snoc_inj h'
    subst h1 h2
    rfl
theorem Rl.step {W : Int} {pre : List Nat} {f : List Str × WS × Nat} {t : List (List Nat) × List Nat} {p : Str × Str} (h : Rl pre f t) (hp : f.2.1 ≠ [] → p.1 ≠ "") : Rl pre (chunkG W f p) (stepT W t p) := by
  have hl : ((t.2 ++ (wl p.1 ++ wl p.2)).length : Int) = f.2.2 + plen (f.2.1 ++ [p]) := by
    have a := valL_len (f.2.1 ++ [p])
    have b := valL_len f.2.1
    have c := h.len
    rw [valL_app, valL_one, List.length_append] at a
    rw [List.length_append]
    clear h hp
    lia
  unfold chunkG stepT
  rw [hl]
  by_cases hw : (f.2.2 : Int) + plen (f.2.1 ++ [p]) > W
  · rw [if_pos hw, if_pos hw]
    by_cases hn : f.2.1 = []
    · rw [if_pos hn]
      have e : (if p.1 = "" then [32] else wl p.1) = wl (if p.1 = "" then " " else p.1) := by split <;> rfl
      refine ⟨?_, ?_⟩
      · show (((if p.1 = "" then [32] else wl p.1) ++ wl p.2).length : Int) = (0 : Nat) + plen [(if p.1 = "" then " " else p.1, p.2)]
        rw [e, ← valL_len, valL_one]; exact (Int.zero_add _).symm
      · show addPre pre ((f.1 ++ [("" : Str)]).map wl ++ [valL [(if p.1 = "" then " " else p.1, p.2)]]) = (t.1 ++ [t.2]) ++ [(if p.1 = "" then [32] else wl p.1) ++ wl p.2]
        have h2 := h.rows
        rw [hn] at h2
        rw [e, valL_one, List.map_append]
        show addPre pre ((f.1.map wl ++ [valL []]) ++ [_]) = _
        rw [addPre_app _ _ app_ne, h2]
    · rw [if_neg hn]
      have e : (if p.1 = "" then [32] else wl p.1) = wl p.1 := if_neg (hp hn)
      refine ⟨?_, ?_⟩
      · show (((if p.1 = "" then [32] else wl p.1) ++ wl p.2).length : Int) = (0 : Nat) + plen [p]
        rw [e, ← valL_len, valL_one]; exact (Int.zero_add _).symm
      · show addPre pre ((f.1 ++ [ptext f.2.1]).map wl ++ [valL [p]]) = (t.1 ++ [t.2]) ++ [(if p.1 = "" then [32] else wl p.1) ++ wl p.2]
        rw [e, valL_one, List.map_append]
        show addPre pre ((f.1.map wl ++ [wl (ptext f.2.1)]) ++ [_]) = _
        rw [addPre_app _ _ app_ne, ptext_val, h.rows]
  · rw [if_neg hw, if_neg hw]
    refine ⟨hl, ?_⟩
    show addPre pre (f.1.map wl ++ [valL (f.2.1 ++ [p])]) = t.1 ++ [t.2 ++ (wl p.1 ++ wl p.2)]
    rw [valL_app, valL_one]
    exact addPre_last h.rows
theorem Rl.fold {W : Int} {pre : List Nat} : ∀ {ws : WS} {f : List Str × WS × Nat} {t : List (List Nat) × List Nat}, Rl pre f t → (f.2.1 ≠ [] → ∀ p ∈ ws, p.1 ≠ "") → (∀ p ∈ ws.tail, p.1 ≠ "") → Rl pre (ws.foldl (chunkG W) f) (ws.foldl (stepT W) t)
  | [], f, t, h, _, _ => h
  | p :: ws, f, t, h, h1, h2 => Rl.fold (ws := ws) (h.step fun q => h1 q p (.head _)) (fun _ => h2) fun q hq => h2 q (List.mem_of_mem_tail hq)
theorem fmt_rows {W : Int} {pre : List Nat} {ws : WS} (h : ∀ p ∈ ws.tail, p.1 ≠ "") : addPre pre ((fmtF W pre.length ws).map wl) = rowsT W pre ws := by
  have R := Rl.fold (W := W) (pre := pre) (ws := ws) (f := ([], [], pre.length)) (t := ([], pre)) ⟨by show (pre.length : Int) = pre.length + 0; exact (Int.add_zero _).symm, by show [pre ++ []] = [] ++ [pre]; rw [List.append_nil]; rfl⟩ (fun q => absurd rfl q) h
  unfold fmtF rowsT
  rw [← R.rows, List.map_append, ← ptext_val]
  rfl
theorem gls_pre (sep pre : List Nat) {l : List (List Nat)} (h : l ≠ []) : pre ++ gls sep l = gls sep (addPre pre l) := by
  cases l with
  | nil => exact absurd rfl h
  | cons x r => show pre ++ (x ++ _) = (pre ++ x) ++ _; rw [List.append_assoc]
noncomputable def textE (en : List Nat) (ls : List (List Nat)) : List Nat := (ls.map fun l => l ++ en).flatten
theorem textE_app (en : List Nat) (a b : List (List Nat)) : textE en (a ++ b) = textE en a ++ textE en b := by unfold textE; rw [List.map_append, List.flatten_append]
theorem gls_text (en : List Nat) : ∀ l : List (List Nat), l ≠ [] → gls en l ++ en = textE en l
  | [], h => absurd rfl h
  | [x], _ => by show (x ++ []) ++ en = (x ++ en) ++ []; rw [List.append_nil, List.append_nil]
  | x :: y :: r, _ => by
    have ih := gls_text en (y :: r) (by simp)
    show (x ++ (en ++ y ++ (r.map (en ++ ·)).flatten)) ++ en = (x ++ en) ++ textE en (y :: r)
    rw [← ih]
    show _ = x ++ en ++ ((y ++ (r.map (en ++ ·)).flatten) ++ en)
    simp
noncomputable def Free (l : List Nat) : Prop := 13 ∉ l ∧ 10 ∉ l
theorem Free.brk {l : List Nat} (h : Free l) : ∀ c ∈ l, isBrk c = false := fun c hc => by
  unfold isBrk
  rw [Bool.or_eq_false_iff]
  exact ⟨beq_eq_false_iff_ne.mpr fun q => h.2 (q ▸ hc), beq_eq_false_iff_ne.mpr fun q => h.1 (q ▸ hc)⟩
theorem text_cons (en l : List Nat) (ls : List (List Nat)) : textE en (l :: ls) = l ++ (en ++ textE en ls) := by
  show (l ++ en) ++ textE en ls = _
  rw [List.append_assoc]
theorem textL_cons (l : List Nat) (ls : List (List Nat)) : textL (l :: ls) = l ++ 13 :: 10 :: textL ls := by simp [textL]
theorem no10 {l : List Nat} {ls : List (List Nat)} (h : ∀ l ∈ ls, Free l) : ∀ r, textE [13] ls ≠ 10 :: r := fun r q => by
  cases ls with
  | nil => cases q
  | cons l ls =>
    rw [text_cons] at q
    cases l with
    | nil => cases q
    | cons c l =>
      cases q
      exact (h _ (.head _)).2 (.head _)
noncomputable def Brk (en : List Nat) : Prop := en = [10] ∨ en = [13] ∨ en = [13, 10]
theorem norm_textE {en : List Nat} (he : Brk en) : ∀ ls : List (List Nat), (∀ l ∈ ls, Free l) → norm (textE en ls) = textL ls
  | [], _ => rfl
  | l :: ls, h => by
    have ih := norm_textE he ls fun m hm => h m (.tail _ hm)
    rw [text_cons, norm_app _ _ (h l (.head _)).brk, textL_cons, ← ih]
    congr 1
    rcases he with rfl | rfl | rfl
    · exact norm_ne (by decide)
    · exact norm_cr (no10 (l := l) fun m hm => h m (.tail _ hm))
    · exact norm_crlf
noncomputable def qL (l : List Nat) : List Nat := if l.head? = some 46 then 46 :: l else l
theorem dots_rows : ∀ ls : List (List Nat), (∀ l ∈ ls, Free l) → dots true (textL ls) = textL (ls.map qL)
  | [], _ => rfl
  | l :: ls, h => by
    have ih := dots_rows ls fun m hm => h m (.tail _ hm)
    have hl := h l (.head _)
    rw [List.map_cons, textL_cons, textL_cons, ← ih]
    cases l with
    | nil => show dots true (13 :: 10 :: textL ls) = _; rfl
    | cons c l =>
      have hl' : 10 ∉ l := fun q => hl.2 (.tail _ q)
      unfold qL
      by_cases hc : c = 46
      · subst hc
        rw [if_pos (show (46 :: l).head? = some 46 from rfl)]
        show dots true (46 :: (l ++ _)) = 46 :: 46 :: (l ++ _)
        rw [dotsT, dots_in l _ hl']
      · rw [if_neg (by simpa using hc)]
        have c10 : (c == 10) = false := beq_eq_false_iff_ne.mpr fun q => hl.2 (q ▸ .head _)
        show dots true (c :: (l ++ _)) = c :: (l ++ _)
        rw [dots, if_neg (fun q => hc q.2), c10, dots_in l _ hl']
theorem quote_rows {en : List Nat} (he : Brk en) {ls : List (List Nat)} (h : ∀ l ∈ ls, Free l) : quoteF (mkS (textE en ls)) = mkS (textL (ls.map qL)) := by
  apply str_inj
  show dots true (norm (textE en ls)) = textL (ls.map qL)
  rw [norm_textE he ls h, dots_rows ls h]
theorem Free.q {l : List Nat} (h : Free l) : Free (qL l) := by
  unfold qL
  split
  · exact ⟨fun q => by rcases List.mem_cons.mp q with q | q; cases q; exact h.1 q, fun q => by rcases List.mem_cons.mp q with q | q; cases q; exact h.2 q⟩
  · exact h
theorem split_rows {ls : List (List Nat)} (h : ∀ l ∈ ls, Free l) : Txt.split (mkS (textL ls)) "\r\n" = ls.map mkS ++ [mkS []] := by
  refine split_text (ls := ls.map mkS) ?_ fun l hl => ?_
  · show textL ls = _
    rw [List.map_map]
    exact congrArg textL (List.map_id ls).symm
  · obtain ⟨m, hm, rfl⟩ := List.mem_map.mp hl
    exact (h m hm).1
noncomputable def unfR (acc : List (List Nat)) (row : List Nat) : List (List Nat) :=
  if row.head? = some 32 then acc.dropLast ++ [acc.getLast?.getD [] ++ row] else if row = [] then acc else acc ++ [row]
theorem unf_tail : ∀ (r : List (List Nat)) (acc : List (List Nat)) (x : List Nat), (∀ y ∈ r, y.head? = some 32) → r.foldl unfR (acc ++ [x]) = acc ++ [x ++ r.flatten]
  | [], acc, x, _ => by show acc ++ [x] = acc ++ [x ++ []]; rw [List.append_nil]
  | y :: r, acc, x, h => by
    have e : unfR (acc ++ [x]) y = acc ++ [x ++ y] := by
      unfold unfR
      rw [if_pos (h y (.head _))]
      simp
    show r.foldl unfR (unfR (acc ++ [x]) y) = _
    rw [e, unf_tail r acc (x ++ y) fun z hz => h z (.tail _ hz), List.flatten_cons, List.append_assoc]
theorem unf_entry {x : List Nat} {r acc : List (List Nat)} (hx : x ≠ []) (h2 : x.head? ≠ some 32) (h : ∀ y ∈ r, y.head? = some 32) : (x :: r).foldl unfR acc = acc ++ [(x :: r).flatten] := by
  have e : unfR acc x = acc ++ [x] := by
    unfold unfR
    rw [if_neg h2, if_neg hx]
  show r.foldl unfR (unfR acc x) = _
  rw [e, unf_tail r acc x h]
  rfl
noncomputable def Sh (pre : List Nat) (rows : List (List Nat)) : Prop := ∃ x r, rows = (pre ++ x) :: r ∧ ∀ y ∈ r, y.head? = some 32
theorem Sh.ext {pre c z : List Nat} {rs : List (List Nat)} (h : Sh pre (rs ++ [c])) : Sh pre (rs ++ [c ++ z]) := by
  obtain ⟨x, r, e, h⟩ := h
  cases rs with
  | nil =>
    cases e
    exact ⟨x ++ z, [], by rw [← List.append_assoc]; rfl, by exact al0⟩
  | cons y rs =>
    have e' : y = pre ++ x ∧ rs ++ [c] = r := ⟨(List.cons.inj e).1, (List.cons.inj e).2⟩
    obtain ⟨rfl, rfl⟩ := e'
    refine ⟨x, rs ++ [c ++ z], rfl, fun q hq => ?_⟩
    rcases List.mem_append.mp hq with hq | hq
    · exact h q (List.mem_append_left _ hq)
    · rw [List.mem_singleton.mp hq]
      have := h c (List.mem_append_right _ (.head _))
      cases c with
      | nil => cases this
      | cons a c => exact this
theorem Sh.new {pre z : List Nat} {rs : List (List Nat)} (h : Sh pre rs) (hz : z.head? = some 32) : Sh pre (rs ++ [z]) := by
  obtain ⟨x, r, rfl, h⟩ := h
  refine ⟨x, r ++ [z], rfl, fun q hq => ?_⟩
  rcases List.mem_append.mp hq with hq | hq
  · exact h q hq
  · rw [List.mem_singleton.mp hq]; exact hz
noncomputable def Lead (p : Str × Str) : Prop := (wl p.1 = [32] ∨ wl p.1 = [32, 32])
theorem Lead.ne {p : Str × Str} (h : Lead p) : p.1 ≠ "" := fun q => by
  unfold Lead at h
  rw [q] at h
  rcases h with h | h <;> cases h
theorem lead_head {p : Str × Str} (h : p.1 = "" ∨ Lead p) (z : List Nat) : ((if p.1 = "" then [32] else wl p.1) ++ z).head? = some 32 := by
  by_cases hp : p.1 = ""
  · rw [if_pos hp]; rfl
  · rw [if_neg hp]
    rcases h.resolve_left hp with h | h <;> rw [h] <;> rfl
theorem Sh.fold {W : Int} {pre : List Nat} : ∀ {ws : WS} {t : List (List Nat) × List Nat}, Sh pre (t.1 ++ [t.2]) → (∀ p ∈ ws, p.1 = "" ∨ Lead p) → Sh pre ((ws.foldl (stepT W) t).1 ++ [(ws.foldl (stepT W) t).2])
  | [], t, h, _ => h
  | p :: ws, t, h, hw => by
    refine Sh.fold (ws := ws) (t := stepT W t p) ?_ fun q hq => hw q (.tail _ hq)
    unfold stepT
    split
    · exact h.new (lead_head (hw p (.head _)) _)
    · exact h.ext
theorem flat_fold {W : Int} : ∀ {ws : WS} {t : List (List Nat) × List Nat}, (∀ p ∈ ws, p.1 ≠ "") → ((ws.foldl (stepT W) t).1 ++ [(ws.foldl (stepT W) t).2]).flatten = (t.1 ++ [t.2]).flatten ++ valL ws
  | [], t, _ => (List.append_nil _).symm
  | p :: ws, t, h => by
    show ((ws.foldl (stepT W) (stepT W t p)).1 ++ [(ws.foldl (stepT W) (stepT W t p)).2]).flatten = _
    rw [flat_fold (ws := ws) fun q hq => h q (.tail _ hq)]
    show _ = _ ++ (wl p.1 ++ wl p.2 ++ valL ws)
    rw [← List.append_assoc]
    congr 1
    unfold stepT
    rw [if_neg (h p (.head _))]
    split <;> simp
theorem flat_rows {W : Int} {pre : List Nat} : ∀ {ws : WS}, (∀ p ∈ ws.tail, p.1 ≠ "") → ∃ k, (rowsT W pre ws).flatten = pre ++ (List.replicate k 32 ++ valL ws)
  | [], _ => ⟨0, by show [pre].flatten = pre ++ []; simp⟩
  | p :: ws, h => by
    unfold rowsT
    show ∃ k, ((ws.foldl (stepT W) (stepT W ([], pre) p)).1 ++ [(ws.foldl (stepT W) (stepT W ([], pre) p)).2]).flatten = _
    rw [flat_fold (ws := ws) h]
    have e : valL (p :: ws) = (wl p.1 ++ wl p.2) ++ valL ws := rfl
    rw [e]
    unfold stepT
    split
    · by_cases hp : p.1 = ""
      · refine ⟨1, ?_⟩
        rw [if_pos hp, hp]
        simp [show wl ("" : Str) = [] from rfl]
      · refine ⟨0, ?_⟩
        rw [if_neg hp]
        simp
    · exact ⟨0, by simp⟩
theorem sub_list (x : Str) (i j : Nat) : wl (strSub x i j) = (wl x |>.take j).drop i := by
  show (x.cps.extract i j).toList = _
  rw [Array.toList_extract, List.extract_eq_take_drop, List.drop_take]
theorem at_list {x : Str} {i : Nat} {sub : Str} : At x sub x.length i ↔ (i + sub.length ≤ x.length ∧ (wl x |>.drop i).take sub.length = wl sub) := by
  unfold At
  rw [subAt_eq, beq_iff_eq]
theorem colon_list : wl (": " : Str) = [58, 32] := by decide +kernel
theorem colon_len : (": " : Str).length = 2 := by decide +kernel
theorem part_row {nm v : List Nat} (h : 58 ∉ nm) : partP (mkS (nm ++ 58 :: 32 :: v)) ": " = (mkS nm, mkS v) := by
  have hlen : (mkS (nm ++ 58 :: 32 :: v)).length = nm.length + (v.length + 2) := by
    rw [← wl_len]; show (nm ++ 58 :: 32 :: v).length = _; simp
  have hat : At (mkS (nm ++ 58 :: 32 :: v)) ": " (mkS (nm ++ 58 :: 32 :: v)).length nm.length := by
    refine at_list.mpr ⟨by rw [hlen, colon_len]; exact Nat.add_le_add_left (Nat.le_add_left ..) _, ?_⟩
    show ((nm ++ 58 :: 32 :: v).drop nm.length).take _ = _
    rw [List.drop_left' rfl, colon_len, colon_list]; rfl
  have key : ∃ r, occurrences (mkS (nm ++ 58 :: 32 :: v)) ": " 0 (mkS (nm ++ 58 :: 32 :: v)).length 1 = nm.length :: r := by
    rcases occ_head (mkS (nm ++ 58 :: 32 :: v)) ": " 1 (Nat.le_refl _) with ⟨_, hn⟩ | ⟨i, r, e, hi, hn⟩
    · exact absurd hat (hn _)
    · have hi' := (at_list.mp hi).2
      rw [colon_len, colon_list] at hi'
      have : i = nm.length := by
        rcases Nat.lt_trichotomy i nm.length with q | q | q
        · exfalso
          have e1 : (nm ++ 58 :: 32 :: v).drop i = nm[i] :: (nm.drop (i + 1) ++ 58 :: 32 :: v) := by
            rw [List.drop_append_of_le_length (Nat.le_of_lt q), List.drop_eq_getElem_cons q]; rfl
          have hi2 : ((nm ++ 58 :: 32 :: v).drop i).take 2 = [58, 32] := hi'
          rw [e1] at hi2
          have := (List.cons.inj hi2).1
          exact h (this ▸ List.getElem_mem q)
        · exact q
        · exact absurd hat (hn _ q)
      subst this
      exact ⟨r, e⟩
  obtain ⟨r, e⟩ := key
  unfold partP
  rw [e]
  refine Prod.ext (str_inj ?_) (str_inj ?_)
  · show wl (strSub _ 0 nm.length) = nm
    rw [sub_list]
    show ((nm ++ 58 :: 32 :: v).take nm.length).drop 0 = nm
    rw [List.take_left' rfl]; rfl
  · show wl (strSub _ _ _) = v
    rw [sub_list, colon_len, ← wl_len]
    show ((nm ++ 58 :: 32 :: v).take (nm ++ 58 :: 32 :: v).length).drop (nm.length + 2) = v
    rw [List.take_length, ← List.drop_drop, List.drop_left' rfl]; rfl
theorem take_rep (k : Nat) (v : List Nat) (hv : ∀ c, v.head? = some c → Unicode.isSpace c = false) : ((List.replicate k 32 ++ v).takeWhile Unicode.isSpace) = List.replicate k 32 := by
  induction k with
  | zero =>
    cases v with
    | nil => rfl
    | cons c v => show (c :: v).takeWhile _ = []; rw [List.takeWhile_cons, hv c rfl]; rfl
  | succ k ih => rw [List.replicate_succ]; show (32 :: (List.replicate k 32 ++ v)).takeWhile _ = _; rw [List.takeWhile_cons, show Unicode.isSpace 32 = true by decide +kernel, if_pos rfl, ih]
theorem strip_rep {k : Nat} {v : List Nat} (hv : ∀ c, v.head? = some c → Unicode.isSpace c = false) (hl : ∀ c, v.getLast? = some c → Unicode.isSpace c = false) : Txt.strip (mkS (List.replicate k 32 ++ v)) = mkS v := by
  have lo : stripLo Unicode.isSpace true (mkS (List.replicate k 32 ++ v)) = k := by
    show ((List.replicate k 32 ++ v).takeWhile Unicode.isSpace).length = k
    rw [take_rep k v hv, List.length_replicate]
  have hi : stripHi Unicode.isSpace true (mkS (List.replicate k 32 ++ v)) k = k + v.length := by
    show (mkS (List.replicate k 32 ++ v)).length - (((List.replicate k 32 ++ v).drop k).reverse.takeWhile Unicode.isSpace).length = _
    rw [List.drop_left' (by rw [List.length_replicate]), ← wl_len]
    have : v.reverse.takeWhile Unicode.isSpace = [] := by
      cases h : v.reverse with
      | nil => rfl
      | cons c r =>
        have : v.getLast? = some c := by rw [← List.head?_reverse, h]; rfl
        rw [List.takeWhile_cons, hl c this]; rfl
    rw [this]
    show (List.replicate k 32 ++ v).length - 0 = _
    rw [List.length_append, List.length_replicate]; rfl
  have ln : (mkS (List.replicate k 32 ++ v)).length = k + v.length := by
    rw [← wl_len]; show (List.replicate k 32 ++ v).length = _; rw [List.length_append, List.length_replicate]
  unfold Txt.strip Txt.stripBy stripSame stripped
  rw [lo, hi, ln, beq_self_eq_true, Bool.and_true]
  by_cases hk : k = 0
  · subst hk; rfl
  · rw [if_neg (by simpa using hk)]
    apply str_inj
    show wl (strSub _ _ _) = v
    rw [sub_list]
    show ((List.replicate k 32 ++ v).take (k + v.length)).drop k = v
    rw [List.take_of_length_le (by rw [List.length_append, List.length_replicate]; exact Nat.le_refl _), List.drop_left' (by rw [List.length_replicate])]
noncomputable abbrev Ent := (Nat × Nat) × WS
noncomputable def nmL (q : Nat × Nat) : List Nat := List.replicate q.1 46 ++ [q.2]
noncomputable def sentN (q : Nat × Nat) : Nat × Nat := (if q.1 = 0 then 0 else q.1 + 1, q.2)
noncomputable def preL (q : Nat × Nat) : List Nat := nmL q ++ [58, 32]
noncomputable def GoodQ (q : Nat × Nat) : Prop := q.1 ≤ 5 ∧ (q.2 = 97 ∨ q.2 = 88 ∨ q.2 = 98 ∨ q.2 = 120)
structure GoodV (ws : WS) : Prop where
  first : ∀ p, ws.head? = some p → p.1 = ""
  tail : ∀ p ∈ ws.tail, Lead p
  word : ∀ p ∈ ws, (∀ c ∈ wl p.2, c = 46 ∨ c = 111) ∧ ∃ t, wl p.2 = t ++ [111]
  len : ws.length ≤ 6
  lens : ∀ p ∈ ws, p.2.length ≤ 6
theorem nm_signs {q : Nat × Nat} (h : GoodQ q) : ∀ c ∈ nmL q, c = 46 ∨ c = 97 ∨ c = 88 ∨ c = 98 ∨ c = 120 := fun c hc => by
  rcases List.mem_append.mp hc with hc | hc
  · exact .inl (List.eq_of_mem_replicate hc)
  · rw [List.mem_singleton.mp hc]; exact .inr h.2
theorem q_name {q : Nat × Nat} (h : GoodQ q) (y : List Nat) : qL (nmL q ++ y) = nmL (sentN q) ++ y := by
  obtain ⟨k, c⟩ := q
  have hc : c ≠ 46 := by rcases h.2 with h | h | h | h <;> (dsimp only at h; rw [h]; decide)
  unfold qL nmL sentN
  cases k with
  | zero => rw [if_neg (by simpa using hc)]; rfl
  | succ k => rw [if_pos (by rfl)]; rfl
theorem name_head {q : Nat × Nat} (h : GoodQ q) (y : List Nat) : nmL q ++ y ≠ [] ∧ (nmL q ++ y).head? ≠ some 32 := by
  obtain ⟨k, c⟩ := q
  have hc : c ≠ 32 := by rcases h.2 with h | h | h | h <;> (dsimp only at h; rw [h]; decide)
  unfold nmL
  cases k with
  | zero => exact ⟨by simp, by simpa using hc⟩
  | succ k => exact ⟨by simp [List.replicate_succ], by simp [List.replicate_succ]⟩
theorem GoodQ.next {q : Nat × Nat} (h : GoodQ q) (h4 : q.1 ≤ 4) : GoodQ (sentN q) := ⟨by unfold sentN; split <;> dsimp only <;> lia, h.2⟩
theorem val_head {ws : WS} (h : GoodV ws) : ∀ c, (valL ws).head? = some c → Unicode.isSpace c = false := fun c hc => by
  cases ws with
  | nil => cases hc
  | cons p ws =>
    have h0 := h.first p rfl
    have hw := h.word p (.head _)
    have e : valL (p :: ws) = wl p.2 ++ valL ws := by show (wl p.1 ++ wl p.2) ++ _ = _; rw [h0]; rfl
    rw [e] at hc
    cases hp : wl p.2 with
    | nil => obtain ⟨t, ht⟩ := hw.2; rw [hp] at ht; simp at ht
    | cons a r =>
      rw [hp] at hc
      cases hc
      rcases hw.1 c (by rw [hp]; exact .head _) with rfl | rfl <;> decide +kernel
theorem val_last {ws : WS} (h : ∀ p ∈ ws, ∃ t, wl p.2 = t ++ [111]) : ∀ c, (valL ws).getLast? = some c → Unicode.isSpace c = false := fun c hc => by
  rcases List.eq_nil_or_concat ws with rfl | ⟨r, p, rfl⟩
  · cases hc
  · obtain ⟨t, ht⟩ := h p (by simp)
    rw [List.concat_eq_append, valL_app, valL_one, ht, ← List.append_assoc, ← List.append_assoc, List.getLast?_concat] at hc
    cases hc
    decide +kernel
noncomputable def partS (row : List Nat) : Str × Str := ((partP (mkS row) ": ").1, Txt.strip (partP (mkS row) ": ").2)
theorem parted {q : Nat × Nat} {ws : WS} {k : Nat} (hq : GoodQ q) (h : GoodV ws) : partS (preL q ++ (List.replicate k 32 ++ valL ws)) = (mkS (nmL q), mkS (valL ws)) := by
  have e : preL q ++ (List.replicate k 32 ++ valL ws) = nmL q ++ 58 :: 32 :: (List.replicate k 32 ++ valL ws) := by unfold preL; rw [List.append_assoc]; rfl
  unfold partS
  rw [e, part_row (fun hm => by rcases nm_signs hq _ hm with h | h | h | h | h <;> cases h)]
  dsimp only
  rw [strip_rep (val_head h) (val_last fun p hp => (h.word p hp).2)]
noncomputable def readL (mail : Str) : List (Str × Str) := (((Txt.split mail "\r\n").map wl).foldl unfR []).map partS
noncomputable def pairOf (e : Ent) : Str × Str := (mkS (nmL e.1), mkS (valL e.2))
noncomputable def sentE (e : Ent) : Ent := (sentN e.1, e.2)
theorem map_q {r : List (List Nat)} (h : ∀ y ∈ r, y.head? = some 32) : r.map qL = r := by
  induction r with
  | nil => rfl
  | cons y r ih =>
    rw [List.map_cons, ih fun z hz => h z (.tail _ hz)]
    congr 1
    unfold qL
    rw [h y (.head _), if_neg (by decide)]
structure RowsOf (e : Ent) (rows : List (List Nat)) : Prop where
  sh : Sh (preL e.1) rows
  flat : ∃ k, rows.flatten = preL e.1 ++ (List.replicate k 32 ++ valL e.2)
theorem RowsOf.q {e : Ent} {rows : List (List Nat)} (h : RowsOf e rows) (hq : GoodQ e.1) : RowsOf (sentE e) (rows.map qL) := by
  obtain ⟨⟨x, r, rfl, hr⟩, k, hf⟩ := h
  have e1 : ((preL e.1 ++ x) :: r).map qL = (preL (sentN e.1) ++ x) :: r := by
    rw [List.map_cons, map_q hr]
    congr 1
    unfold preL
    rw [List.append_assoc, q_name hq, List.append_assoc]
  rw [e1]
  refine ⟨⟨x, r, rfl, hr⟩, k, ?_⟩
  rw [List.flatten_cons, List.append_assoc] at hf ⊢
  rw [List.append_cancel_left hf]
  rfl
theorem read_rows {f : Ent → List (List Nat)} {es : List Ent} {en : List Nat} {z : List (List Nat)} (he : Brk en) (hz : z = [] ∨ z = [[]]) (h : ∀ e ∈ es, GoodQ e.1 ∧ e.1.1 ≤ 4 ∧ GoodV e.2 ∧ RowsOf e (f e)) (hf : ∀ e ∈ es, ∀ l ∈ f e, Free l) :
    readL (quoteF (mkS (textE en (es.flatMap f ++ z)))) = es.map fun e => pairOf (sentE e) := by
  have hfr : ∀ l ∈ es.flatMap f ++ z, Free l := fun l hl => by
    rcases List.mem_append.mp hl with hl | hl
    · obtain ⟨e, he, hl⟩ := List.mem_flatMap.mp hl
      exact hf e he l hl
    · rcases hz with rfl | rfl
      · cases hl
      · rw [List.mem_singleton.mp hl]; exact ⟨by simp, by simp⟩
  unfold readL
  rw [quote_rows he hfr, split_rows fun l hl => by obtain ⟨m, hm, rfl⟩ := List.mem_map.mp hl; exact (hfr m hm).q]
  rw [List.map_append, List.map_map, List.foldl_append]
  have e0 : List.map (wl ∘ mkS) (List.map qL (es.flatMap f ++ z)) = es.flatMap (fun e => (f e).map qL) ++ z := by
    have : wl ∘ mkS = _root_.id := rfl
    rw [this, List.map_id, List.map_append, List.map_flatMap]
    congr 1
    rcases hz with rfl | rfl <;> rfl
  rw [e0, List.foldl_append]
  have e1 : (es.flatMap fun e => (f e).map qL).foldl unfR [] = es.map fun e => ((f e).map qL).flatten := by
    revert h
    clear hf hfr e0
    suffices H : ∀ (l : List Ent) (acc : List (List Nat)), (∀ e ∈ l, GoodQ e.1 ∧ e.1.1 ≤ 4 ∧ GoodV e.2 ∧ RowsOf e (f e)) → (l.flatMap fun e => (f e).map qL).foldl unfR acc = acc ++ l.map fun e => ((f e).map qL).flatten from fun h => H es [] h
    intro l
    induction l with
    | nil => intro acc _; exact (List.append_nil _).symm
    | cons e l ih =>
      intro acc h
      obtain ⟨hq, h4, hv, hr⟩ := h e (.head _)
      refine qg fun G kG => ?_
      obtain ⟨⟨x, r, e1, hr'⟩, _⟩ := hr.q hq
      refine kG ?_
      have hx := name_head (hq.next h4) ([58, 32] ++ x)
      rw [← List.append_assoc] at hx
      rw [List.flatMap_cons, List.foldl_append]
      have : ((f e).map qL).foldl unfR acc = acc ++ [((f e).map qL).flatten] := by rw [e1]; exact unf_entry hx.1 hx.2 hr'
      rw [this, ih _ fun e' he' => h e' (.tail _ he'), List.append_assoc]
      rfl
  have e2 : ∀ acc : List (List Nat), (([mkS []].map wl).foldl unfR (z.foldl unfR acc)) = acc := fun acc => by rcases hz with rfl | rfl <;> rfl
  rw [e1, e2, List.map_map]
  refine List.map_congr_left fun e he => ?_
  obtain ⟨hq, h4, hv, hr⟩ := h e he
  obtain ⟨k, hk⟩ := (hr.q hq).flat
  show partS ((f e).map qL).flatten = _
  rw [hk]
  exact parted (hq.next h4) hv
theorem psum_le {B : Nat} : ∀ {ps : WS}, (∀ p ∈ ps, p.1.length + p.2.length ≤ B) → (ps.map fun p => p.1.length + p.2.length).sum ≤ ps.length * B
  | [], _ => Nat.zero_le _
  | p :: ps, h => by
    rw [List.map_cons, List.sum_cons, List.length_cons, Nat.succ_mul, Nat.add_comm]
    exact Nat.add_le_add (psum_le fun q hq => h q (.tail _ hq)) (h p (.head _))
theorem plen_sum (ps : WS) : plen ps = (((ps.map fun p => p.1.length + p.2.length).sum : Nat) : Int) := by
  unfold plen
  induction ps with
  | nil => rfl
  | cons p ps ih => rw [List.map_cons, List.sum_cons, List.map_cons, List.sum_cons, ih]; push_cast; rfl
structure FI (nn k : Nat) (st : List Str × WS × Nat) : Prop where
  len : st.1.length + st.2.1.length ≤ k + 1
  par : ∀ p ∈ st.2.1, p.1.length + p.2.length ≤ 18
  n : st.2.2 ≤ nn
  pos : st.2.1 = [] → st.2.2 = nn ∧ st.1 = []
  lines : ∀ y ∈ st.1, y.length ≤ (k + 1) * 18
  last : st.2.1 = [] ∨ ∃ ps p t, st.2.1 = ps ++ [p] ∧ wl p.2 = t ++ [111]
theorem FI.start (nn : Nat) : FI nn 0 ([], [], nn) := ⟨Nat.zero_le _, (fun _ h => nomatch h), Nat.le_refl _, fun _ => ⟨rfl, rfl⟩, (fun _ h => nomatch h), .inl rfl⟩
theorem FI.snoc {nn k : Nat} {st : List Str × WS × Nat} {p : Str × Str} (h : FI nn k st) (hp : p.1.length + p.2.length ≤ 17) : ∀ q ∈ st.2.1 ++ [p], q.1.length + q.2.length ≤ 18 := fun q hq => by
  rcases List.mem_append.mp hq with hq | hq
  · exact h.par q hq
  · rw [List.mem_singleton.mp hq]; lia
theorem FI.step {W : Int} {nn k : Nat} {st : List Str × WS × Nat} {p : Str × Str} (h : FI nn k st) (hp : p.1.length + p.2.length ≤ 17) (hw : ∃ t, wl p.2 = t ++ [111]) : FI nn (k + 1) (chunkG W st p) := by
  have hb : " ".length = 1 := rfl
  obtain ⟨t, ht⟩ := hw
  unfold chunkG
  split
  · split
    · rename_i hn
      obtain ⟨h1, h2⟩ := h.pos hn
      refine ⟨by rw [h2]; show 1 + 1 ≤ _; lia, fun q hq => ?_, Nat.zero_le _, (fun q => nomatch q), fun y hy => ?_, .inr ⟨[], _, t, rfl, ht⟩⟩
      · rw [List.mem_singleton.mp hq]
        have : (" " : Str).length = 1 := by decide +kernel
        dsimp only
        split <;> lia
      · rw [h2] at hy
        rw [List.mem_singleton.mp hy]; exact Nat.zero_le _
    · rename_i hn
      have h0 := List.length_pos_iff.mpr hn
      have h1 := h.len
      refine ⟨by simp only [List.length_append, List.length_cons, List.length_nil]; lia, fun q hq => ?_, Nat.zero_le _, (fun q => nomatch q), fun y hy => ?_, .inr ⟨[], p, t, rfl, ht⟩⟩
      · rw [List.mem_singleton.mp hq]; lia
      · rcases List.mem_append.mp hy with hy | hy
        · exact Nat.le_trans (h.lines y hy) (Nat.mul_le_mul_right _ (Nat.le_succ _))
        · rw [List.mem_singleton.mp hy, ptext_len]
          exact Nat.le_trans (psum_le h.par) (Nat.mul_le_mul_right _ (by lia))
  · have h1 := h.len
    exact ⟨by simp only [List.length_append, List.length_cons, List.length_nil]; lia, h.snoc hp, h.n, fun q => absurd q app_ne, fun y hy => Nat.le_trans (h.lines y hy) (Nat.mul_le_mul_right _ (Nat.le_succ _)), .inr ⟨st.2.1, p, t, rfl, ht⟩⟩
theorem FI.small {nn k : Nat} {st : List Str × WS × Nat} {p : Str × Str} (h : FI nn k st) (hk : k ≤ 100) (hp : p.1.length + p.2.length ≤ 17) : Small (st.2.1 ++ [p]) ∧ 0 ≤ plen (st.2.1 ++ [p]) ∧ plen (st.2.1 ++ [p]) ≤ 10000 := by
  have h1 := psum_le (h.snoc hp)
  have h2 := h.len
  have h3 : (st.2.1 ++ [p]).length = st.2.1.length + 1 := by simp
  rw [h3] at h1
  rw [plen_sum]
  refine ⟨⟨by lia, by rw [h3]; lia⟩, Int.natCast_nonneg _, by lia⟩
theorem not_spc : Unicode.isSpace 111 = false := by decide +kernel
theorem only_no {ps : WS} {p : Str × Str} {t : List Nat} {n : Int} (h : wl p.2 = t ++ [111]) : onlyB (ps ++ [p]) n = false ∧ 0 < plen (ps ++ [p]) ∧ (p.1 == " " && p.2 == "") = false := by
  have hl : 0 < p.2.length := by rw [← wl_len, h]; simp
  have hpos : 0 < plen (ps ++ [p]) := by
    rw [← valL_len, valL_app, valL_one, List.length_append, List.length_append, h]; simp; lia
  refine ⟨?_, hpos, ?_⟩
  · unfold onlyB
    have h1 : (plen (ps ++ [p]) == 0) = false := beq_eq_false_iff_ne.mpr (Int.ne_of_gt hpos)
    have h2 : Txt.isspace (ptext (ps ++ [p])) = false := by
      unfold Txt.isspace
      rw [Bool.and_eq_false_iff]
      right
      rw [← Array.all_toList, List.all_eq_false]
      refine ⟨111, ?_, by rw [not_spc]; decide⟩
      show 111 ∈ wl (ptext (ps ++ [p]))
      rw [ptext_val, valL_app, valL_one, h]
      simp
    rw [h1, h2, Bool.or_false, Bool.and_false]
  · rw [Bool.and_eq_false_iff]
    right
    rw [beq_eq_false_iff_ne]
    intro e
    rw [e] at hl
    exact absurd hl (by decide +kernel)
theorem FI.fold {W : Int} {nn : Nat} : ∀ {ws : WS} {k : Nat} {st : List Str × WS × Nat}, FI nn k st → (∀ p ∈ ws, p.1.length + p.2.length ≤ 17 ∧ ∃ t, wl p.2 = t ++ [111]) → FI nn (k + ws.length) (ws.foldl (chunkG W) st)
  | [], k, st, h, _ => h
  | p :: ws, k, st, h, hw => by
    have := FI.fold (W := W) (ws := ws) (h.step (W := W) (hw p (.head _)).1 (hw p (.head _)).2) fun q hq => hw q (.tail _ hq)
    rw [List.length_cons, show k + (ws.length + 1) = k + 1 + ws.length by lia]
    exact this
end Mine
end
section
open PySem PySem.W PySem.Calls PyProof.Rows Builtin Builtin.ObjectAttr Builtin.Str
namespace Mine
section
variable {Pk : Addr → Prop}
variable {T : Tabs} {K : Frag} {cd : ClassData} {mg mb : Str → Option Value} {w : World} {A : Around} {s : Shared} {g h₀ h h' : Heap} {W W' : List Addr} {L C : Addr} {m : Str → Option Value} {kn : List (Addr × Obj)} {R : Result → Shared → Prop} {E : Value → Shared → Prop} {prog : Program}
end
end Mine
end
section
open PySem PySem.W PySem.Calls PyProof.Rows Builtin Builtin.ObjectAttr Builtin.Str
namespace Mine
noncomputable def repS (x : Str) (n : Nat) : Str := ⟨(List.replicate n x.cps).foldl (· ++ ·) #[]⟩
theorem repS_len (x : Str) (n : Nat) : (repS x n).length = n * x.length := by
  have : ∀ (n : Nat) (a : Array Nat), ((List.replicate n x.cps).foldl (· ++ ·) a).size = a.size + n * x.cps.size := by
    intro n
    induction n with
    | zero => intro a; simp
    | succ n ih => intro a; rw [List.replicate_succ, List.foldl_cons, ih, Array.size_append, Nat.succ_mul]; lia
  show ((List.replicate n x.cps).foldl (· ++ ·) #[]).size = _
  rw [this]; simp; rfl
section
variable {Pk : Addr → Prop}
variable {T : Tabs} {K : Frag} {cd : ClassData} {mg mb : Str → Option Value} {w : World} {A : Around} {s : Shared} {g h₀ h h' : Heap} {W W' : List Addr} {L C : Addr} {m : Str → Option Value} {kn : List (Addr × Obj)} {R : Result → Shared → Prop} {E : Value → Shared → Prop} {prog : Program}
theorem g_mul {x : Str} {t u : Tok} {n : Nat} {Q : Value → Shared → Prop} (h1 : 1 ≤ n) (h2 : n ≤ 100) (hx : x.length = 1) (h : ∀ t' tk, Q (.str (repS x n) t') { s with toks := tk }) : wpAny (model prog w) A (binaryOp .Mult (.str x t) (.int (n : Int) u)) Q E s := by
  have e1 : (decide ((n : Int) < -(2 ^ 63 : Int)) || decide ((n : Int) ≥ 2 ^ 63)) = false := by simp; lia
  refine PySem.P.mul_str e1 (fun _ _ => ?_) (fun _ _ => ?_) ?_
  · rw [hx]
    have : ((2 : Int) ^ 63 - 1) / (n : Int) ≥ 1 := by
      rw [ge_iff_le, Int.le_ediv_iff_mul_le (by exact Int.not_lt.mp (by assumption))]
      omega
    exact Int.not_lt.mpr this
  · rw [hx, Int.toNat_natCast]
    unfold Builtin.Str.tooLong
    rw [decide_eq_false_iff_not, sizeLine_eq]; omega
  · rw [if_neg (by omega)]
    by_cases hn : n = 1
    · subst hn
      rw [if_pos (by simp)]
      have e : repS x 1 = x := by
        unfold repS
        obtain ⟨c⟩ := x
        simp
      rw [e] at h
      exact h t s.toks
    · rw [if_neg (by rw [hx]; simp; omega), Int.toNat_natCast]
      refine ⟨?_, h s.toks (s.toks + 1)⟩
      show (repS x n).length ≤ _
      rw [repS_len, hx, sizeLine_eq]; omega
theorem strs_of_paired {f : Nat → Str} {l : List Nat} {vs : List Value} (h : Paired (fun i y => ∃ t, y = .str (f i) t) l vs) : StrsAre vs (l.map f) := by
  induction h with
  | nil => exact .nil
  | cons f t ih =>
    obtain ⟨u, rfl⟩ := f
    exact .cons _ _ ih
theorem boot_zip : bootBuiltins "zip" = some (.type "zip") := by decide +kernel
theorem str_slice {value slice : Expr} {x : Str} {t : Tok} {sl : Addr} {l u : Option (Int × Tok)} {Q : Value → Shared → Prop} (hs : s.heap.IsSlice sl l u none) (hx : x.length ≤ 100000)
    (h : ∀ t' tk, Q (.str (Txt.slice x (l.map (·.1)) (u.map (·.1))) t') { s with toks := tk })
    (hs' : (subscripted slice false (.str x t) (.ref sl) = operate [.str x t, .ref sl] (getItem (.str x t) (.ref sl))) ∨ (subscripted slice false (.str x t) (.ref sl) = operate [.ref sl, .str x t] (getItem (.str x t) (.ref sl)))) :
    wpAny (model prog w) A (subscriptTail value slice (.str x t) (.ref sl)) Q E s := by
  refine subTail_builtin (typeIs_str _ _ _) PySem.F.slot_str_getitem.lookup (wpAny_getItem_str_slice hs rfl ?_) hs'
  unfold sliceMade
  unfold Txt.slice at h
  have e : slicePicked x l u none = strSliceIndices (l.map (·.1)) (u.map (·.1)) 1 x.length := rfl
  rw [e]
  show (if ((1 : Int) == 1 && _) = true then _ else _ : Made).post Q s
  split
  · rename_i hc
    have h := h t s.toks
    rw [if_pos hc] at h
    exact h
  · rename_i hc
    have h := h s.toks (s.toks + 1)
    rw [if_neg hc] at h
    refine ⟨?_, h⟩
    have := PyProof.Txt.length_slice_le x (l.map (·.1)) (u.map (·.1))
    unfold Txt.slice at this
    rw [if_neg hc] at this
    rw [sizeLine_eq]
    exact Nat.le_trans this (by exact Nat.le_trans (by assumption) (by decide))
theorem mul_l {l : Addr} {its : Array Value} {ep n : Nat} {u : Tok} {Q : Value → Shared → Prop} (hl : s.heap.get? l = some (lstO its ep)) (hn : n ≤ 1000) (hz : its.size ≤ 1000) (hp : 0 < its.size)
    (h : Q (.ref s.heap.objs.size) { s with heap := s.heap.push (lstO ((List.replicate n its).foldl (· ++ ·) #[]) 0) }) :
    wpAny (model prog w) A (binaryOp .Mult (.ref l) (.int (n : Int) u)) Q E s := by
  have hm : its.size * n ≤ 1000000 := Nat.le_trans (Nat.mul_le_mul hz hn) (by decide)
  have hF : ∀ h₁ : Heap, h₁ = s.heap.push (lstO ((List.replicate n its).foldl (· ++ ·) #[]) 0) → wpAny (model prog w) A (binaryOp .Mult (.ref l) (.int (n : Int) u)) Q E s := by
    intro h₁ eh
    refine wpAny_binaryOp_repeat_ref (by decide) (T := "list") ⟨_, hl, rfl⟩ (fun s' => typeIs_int s' _ u) noFill_list_mul F.fills_int_mul F.slot_int_rmul repeat_list F.slot_int_index.lookup ?_
    refine call_meets F.slot_int_rmul (typeIs_int s _ u) F.entry_int_rmul (F.args_int_rmul_2 _ _) (int___rmul___int_list _ u l its ep) ?_
    refine ⟨hl, rfl, ⟨_, hl, rfl⟩, ?_⟩
    refine call_meets F.slot_list_mul (T := "list") ⟨_, hl, rfl⟩ F.entry_list_mul (F.args_list_mul_2 _ _) (AutoListH.list___mul___list_int_3 l its ep _ u ?_ ?_ ?_) ⟨hl, ?_⟩
    · unfold List.listFitsIndex
      simp; lia
    · rw [Int.toNat_natCast]; lia
    · unfold List.listTooLong
      rw [Int.toNat_natCast, decide_eq_true_eq, sizeLine_eq]; lia
    · rw [Int.toNat_natCast, if_neg (by simp; rintro rfl; simp at hp)]
      exact h
  exact hF _ rfl
theorem set_last {l : Addr} {its : Array Value} {ep : Nat} {t : Tok} {v : Value} {Q : Unit → Shared → Prop} (hl : s.heap.get? l = some (lstO its ep)) (hn : 0 < its.size) (hz : its.size ≤ 1000)
    (h : Q () { s with heap := s.heap.update l (Obj.mapSeq fun x => x.setIfInBounds (its.size - 1) v) }) : wpAny (model prog w) A (setItem (.ref l) (.int (-1) t) v) Q E s := by
  obtain ⟨n, rfl⟩ : ∃ n, n = its.size := ⟨_, rfl⟩
  have hT : s.TypeIs (.ref l) "list" := ⟨_, hl, rfl⟩
  unfold setItem
  refine wpAny_holding (wpAny_bind ?_)
  refine wpAny_sequenceKey hT (by decide) (wpAny_bind ?_)
  refine wpAny_callSpecial?_slot hT slot_list_setitem ?_
  refine wpAny_call_entry slot_list_setitem hT entry_list_setitem ?_ (args_list_setitem _ _ _)
  show wpAny _ _ (List.listSubscript? (.int (-1) t) >>= _) _ _ s
  refine wpAny_bind (wpAny_listSubscript_int (k := -1) (by decide) ?_)
  show wpAny _ _ ((_ >>= fun xs => pure _) >>= _) _ _ s
  refine wpAny_bind ?_
  refine wpAny_bind ?_
  show wpAny _ _ (_ >>= _) _ _ s
  refine wpAny_bind (wpAny_seqItems hl rfl (wpAny_pure (wpAny_pure ?_)))
  rw [seqIndex_neg (by decide) (by lia)]
  have ei : (-1 + (its.size : Int)).toNat = its.size - 1 := by (clear hz hn; lia)
  rw [ei]
  obtain ⟨x, hx⟩ : ∃ x, its[its.size - 1]? = some x := ⟨_, Array.getElem?_eq_getElem (by (clear ei hz; omega))⟩
  show wpAny _ _ (match Value.ref l, Option.map (fun x => (its.size - 1, x)) its[its.size - 1]? with | Value.ref a, some (j, snd) => _ | x, x_1 => _) _ _ _
  rw [hx]
  refine wpAny_bind (wpAny_setSeqItemAt hl rfl ?_)
  exact wpAny_pure ⟨_, rfl, wpAny_pure h⟩
theorem pair_bind {env : Env} {x y : Str} {v₁ v₂ : Value} {Q : Shared → Prop} (hh : A.handled = none) (j : J T g W h₀ env.locals s.heap m kn)
    (hl : env.kindOf x = some .local) (hl' : env.kindOf y = some .local) (hk : env.scope.kind = .function)
    (h : ∀ h' tk, J T g W h₀ env.locals h' (fun z => if z = x then some v₁ else if z = y then some v₂ else m z) kn → Mv T g [env.locals] s.heap h' → Q { s with heap := h', toks := tk }) :
    wpAny (model prog w) A (newTuple [v₁, v₂]) (fun v s₁ => wpAny (model prog w) A (unpackItems v 2 none) (fun items s₂ => wpAny (model prog w) A (assignInOrder (List.map (fun n => bindName env n) [x, y].reverse) items.reverse) (fun _ s₃ => Q s₃) E s₂) E s₁) E s := by
  refine j_newTupleK j (fun tt h₃ j₃ mv₃ => ?_)
  have htt := j₃.get (.head _)
  refine wpAny_unpackItems_tuple (s := { s with heap := h₃ }) (items := #[v₁, v₂]) hh ⟨_, htt, rfl, _, rfl⟩ fun h₄ x₄ => ?_
  have k₄ : ∀ b o, h₃.get? b = some o → h₄.get? b = some o := fun b o e => x₄ b o (Nat.ne_of_lt (Heap.lt_size e)) e
  obtain ⟨j₄, mv₄⟩ := j₃.keepsL k₄
  have mv24 := mv₃.trans mv₄ (by exact al0)
  show wpAny _ _ (assignInOrder [bindName env y, bindName env x] [v₂, v₁]) _ _ _
  unfold assignInOrder
  refine wpAny_bind (wpAny_holding ?_)
  refine wpAny_bindName (e_storeK (s := { s with heap := h₄ }) j₄ (fun h₅ t₅ j₅ mv₅ => ?_) hk hl')
  unfold assignInOrder
  refine wpAny_bind (wpAny_holding ?_)
  refine wpAny_bindName (e_storeK (s := { s with heap := h₅, toks := t₅ }) j₅ (fun h₆ t₆ j₆ mv₆ => ?_) hk hl)
  unfold assignInOrder
  refine wpAny_pure ?_
  exact h h₆ t₆ (j₆.sub (List.sublist_cons_self _ _)) (((mv24.weak (W' := [env.locals]) (by exact al0)).trans mv₅ (by exact al1 (.inl m1))).trans mv₆ (by exact al1 (.inl m1)))
theorem pair_bind2 {env : Env} {x y : Str} {px py pt : Pos} {kt : Nat} {v₁ v₂ : Value} {Q : Shared → Prop} (hh : A.handled = none) (j : J T g W h₀ env.locals s.heap m kn)
    (hl : env.kindOf x = some .local) (hl' : env.kindOf y = some .local) (hk : env.scope.kind = .function)
    (h : ∀ h' tk, J T g W h₀ env.locals h' (fun z => if z = y then some v₂ else if z = x then some v₁ else m z) kn → Mv T g [env.locals] s.heap h' → Q { s with heap := h', toks := tk }) :
    wpAny (model prog w) A (newTuple [v₁, v₂]) (fun v s₁ => wpAny (model prog w) A (assign (.Tuple [.Name x px, .Name y py] kt pt) env v) (fun _ s₃ => Q s₃) E s₁) E s := by
  refine j_newTupleK j (fun tt h₃ j₃ mv₃ => ?_)
  have htt := j₃.get (.head _)
  refine wpAny_assign_Tuple (s := { s with heap := h₃ }) (items := #[v₁, v₂]) hh ⟨_, htt, rfl, _, rfl⟩ (by rfl) (by rfl) fun h₄ x₄ => ?_
  have k₄ : ∀ b o, h₃.get? b = some o → h₄.get? b = some o := fun b o e => x₄ b o (Nat.ne_of_lt (Heap.lt_size e)) e
  obtain ⟨j₄, mv₄⟩ := j₃.keepsL k₄
  have mv24 := mv₃.trans mv₄ (by exact al0)
  refine wpAny_bind (wpAny_holding (wpAny_assign_Name ?_))
  refine e_storeK (s := { s with heap := h₄ }) j₄ (fun h₅ t₅ j₅ mv₅ => ?_) hk hl
  refine wpAny_bind (wpAny_holding (wpAny_assign_Name ?_))
  refine e_storeK (s := { s with heap := h₅, toks := t₅ }) j₅ (fun h₆ t₆ j₆ mv₆ => ?_) hk hl'
  refine wpAny_pure ?_
  exact h h₆ t₆ (j₆.sub (List.sublist_cons_self _ _)) (((mv24.weak (W' := [env.locals]) (by exact al0)).trans mv₅ (by exact al1 (.inl m1))).trans mv₆ (by exact al1 (.inl m1)))
end
end Mine
end
section
open PySem PySem.W PySem.Calls PyProof.Rows Builtin Builtin.ObjectAttr Builtin.Str
namespace Mine
theorem J.addN {T : Tabs} {g h₀ h h' : Heap} {W W' : List Addr} {L D : Addr} {m m' : Str → Option Value} {kn kn' : List (Addr × Obj)} {o : Obj} (j : J T g W h₀ L h m kn) (j' : J T g W' h₀ L h' m' kn') (ek : kn'.map (·.1) = kn.map (·.1)) (hD : h.get? D = none) (eD : h'.get? D = some o) (gD : g.objs.size ≤ D) (hT : D ∉ T.map (·.2)) : J T g W' h₀ L h' m' ((D, o) :: kn') := by
  refine j'.add eD (fun q => ?_) hT gD (fun hm => ?_)
  · obtain ⟨o', _, _, e, _⟩ := id j.ns
    rw [q, e] at hD; cases hD
  · rw [ek] at hm
    obtain ⟨p, hp, rfl⟩ := List.mem_map.mp hm
    rw [j.get hp] at hD; cases hD
theorem ints_paired {F : Nat → Value → Prop} {f : Nat → Int} {l : List Nat} {vs : List Value} (hF : ∀ i y, F i y → ∃ t, y = .int (f i) t) (h : Paired F l vs) : IntsAre vs (l.map f) := ints_of_paired (Paired.imp hF h)
theorem map_range_getD {α β : Type} (l : List α) (d : α) (f : α → β) : (List.range l.length).map (fun i => f (l.getD i d)) = l.map f := by
  refine List.ext_getElem (by simp) fun i h1 h2 => ?_
  rw [List.getElem_map, List.getElem_map, List.getElem_range, List.getD_eq_getElem?_getD, List.getElem?_eq_getElem (by simpa using h2)]
  rfl
theorem filter_true {α : Type} (l : List α) : l.filter (fun _ => true) = l := by simp
section
variable {Pk : Addr → Prop}
variable {T : Tabs} {K : Frag} {cd : ClassData} {mg mb : Str → Option Value} {w : World} {A : Around} {s : Shared} {g h₀ h h' h₁ h₂ : Heap} {W W' : List Addr} {L C : Addr} {m : Str → Option Value} {kn : List (Addr × Obj)} {R : Result → Shared → Prop} {E : Value → Shared → Prop} {prog : Program}
end
end Mine
end
section
open PySem PySem.W PySem.Calls PyProof.Rows Builtin Builtin.ObjectAttr Builtin.Str
namespace Mine
noncomputable def rp (c n : Nat) : Str := ⟨(List.replicate n c).toArray⟩
noncomputable def leadS (k : Nat) : Str := rp 32 (1 + k / 8)
noncomputable def wordS (k : Nat) : Str := rp 46 (k % 2) ++ rp 111 (k / 2 % 4 + 1)
noncomputable def wordsF (n : Nat) : Bool → List (Str × Str) :=
  Nat.lt_wfRel.wf.fix (C := fun _ => Bool → List (Str × Str)) (fun n ih first => if h : n = 0 then [] else (if first then ("" : Str) else leadS (n % 16), wordS (n % 16)) :: ih (n / 16) (Nat.div_lt_self (Nat.pos_of_ne_zero h) (by decide)) false) n
theorem wordsF_eq (n : Nat) (b : Bool) : wordsF n b = if h : n = 0 then [] else (if b then ("" : Str) else leadS (n % 16), wordS (n % 16)) :: wordsF (n / 16) false := by unfold wordsF; rw [WellFounded.fix_eq]
theorem wordsF0 (b : Bool) : wordsF 0 b = [] := (wordsF_eq 0 b).trans (dif_pos rfl)
theorem wordsFS {n : Nat} (b : Bool) (h : n ≠ 0) : wordsF n b = (if b then ("" : Str) else leadS (n % 16), wordS (n % 16)) :: wordsF (n / 16) false := (wordsF_eq n b).trans (dif_neg h)
theorem rep_cps (c : Nat) (n : Nat) : (List.replicate n #[c]).foldl (· ++ ·) #[] = (List.replicate n c).toArray := by
  have : ∀ (n : Nat) (a : Array Nat), (List.replicate n #[c]).foldl (· ++ ·) a = a ++ (List.replicate n c).toArray := by
    intro n
    induction n with
    | zero => intro a; simp
    | succ n ih => intro a; rw [List.replicate_succ, List.foldl_cons, ih, List.replicate_succ]; apply Array.ext'; simp
  rw [this]; simp
theorem rp_len (c n : Nat) : (rp c n).length = n := by show (List.replicate n c).toArray.size = n; simp
section
variable {T : Tabs} {K : Frag} {cd : ClassData} {mg mb : Str → Option Value} {w : World} {A : Around} {s : Shared} {g h₀ h h' h₁ h₂ : Heap} {W W' : List Addr} {L C : Addr} {m : Str → Option Value} {kn : List (Addr × Obj)} {R : Result → Shared → Prop} {E : Value → Shared → Prop} {prog : Program}
theorem g_rep {x : Str} {c n : Nat} {t u : Tok} {Q : Value → Shared → Prop} (hx : x.cps = #[c]) (h2 : n ≤ 100) (h : ∀ t' tk, Q (.str (rp c n) t') { s with toks := tk }) : wpAny (model prog w) A (binaryOp .Mult (.str x t) (.int (n : Int) u)) Q E s := by
  have hl : x.length = 1 := by show x.cps.size = 1; rw [hx]; rfl
  by_cases h1 : 1 ≤ n
  · refine g_mul h1 h2 hl fun t' tk => ?_
    have : repS x n = rp c n := by unfold repS rp; rw [hx, rep_cps]
    rw [this]; exact h t' tk
  · obtain rfl : n = 0 := by lia
    exact PySem.P.mul_str_none (by decide) (by decide) (h _ _)
theorem g_mod {a b : Nat} {t u : Tok} {Q : Value → Shared → Prop} (hb : b ≠ 0) (h : Q (.int ((a % b : Nat) : Int) s.toks) { s with toks := s.toks + 1 }) : wpAny (model prog w) A (binaryOp .Mod (.int (a : Int) t) (.int (b : Int) u)) Q E s := by
  refine PyProof.Rows.mod_int' (by lia) ?_
  rw [Int.fmod_eq_emod_of_nonneg _ (Int.natCast_nonneg _)]
  exact h
theorem g_div {a b : Nat} {t u : Tok} {Q : Value → Shared → Prop} (hb : b ≠ 0) (hs : a ≤ 1000000 ∧ b ≤ 1000000) (h : Q (.int ((a / b : Nat) : Int) s.toks) { s with toks := s.toks + 1 }) : wpAny (model prog w) A (binaryOp .FloorDiv (.int (a : Int) t) (.int (b : Int) u)) Q E s := by
  refine PyProof.Rows.floordiv_int (by lia) ?_ (.inl (PyProof.noPylong_small (by omega)))
  rw [Int.fdiv_eq_ediv_of_nonneg _ (Int.natCast_nonneg _)]
  exact h
theorem g_add {a b : Nat} {t u : Tok} {Q : Value → Shared → Prop} (h : Q (.int ((a + b : Nat) : Int) s.toks) { s with toks := s.toks + 1 }) : wpAny (model prog w) A (binaryOp .Add (.int (a : Int) t) (.int (b : Int) u)) Q E s :=
  PySem.P.add_int h
theorem while_inv {test : Expr} {body : List Stmt} {pos : Pos} {env : Env} {Q : Flow → Shared → Prop} (I : Nat → Shared → Prop)
    (turn : ∀ n s, I n s → wpAny (model prog w) A (isTrue test env (eval test env)) (fun b s₂ => if b = true then wpAny (model prog w) A (execs body env) (fun f s₃ => f = .next ∧ ∃ k, k < n ∧ I k s₃) (fun _ _ => False) s₂ else Q .next s₂) (fun _ _ => False) s)
    (n : Nat) (h : I n s) : wpAny (model prog w) A (exec (.While test body [] pos) env) Q E s := by
  refine wpAny_While (codeAny_whileLoop I (fun n s hI => ?_) n h)
  refine wpAny_mono (turn n s hI) (fun b s₂ h₂ => ?_) fun _ _ f => f.elim
  cases b with
  | false => exact wpAny_execs_nil h₂
  | true =>
    refine wpAny_mono h₂ (fun f s₃ h₃ => ?_) fun _ _ f => f.elim
    obtain ⟨rfl, h₃⟩ := h₃
    exact h₃
structure La (K : Frag) : Prop where
  words : FnAt K 365 (topSt 18) "_law_words" [] .none 364
  value : FnAt K 370 (topSt 19) "_law_value" [] .none 369
theorem words_spec {n : Nat} {tn : Tok} (LA : La K) (G : Gb T K mg mb g) (S : St T g s.heap) (r : Rm A 2) (hn : n ≤ 1000000)
   (hR : ∀ s' D, Mv T g [] s.heap s'.heap → Ok s s' → s.heap.get? D = none → g.objs.size ≤ D → PLst anyA s'.heap D (wordsF n true) → R (.ok (.ret (.ref D))) s') :
   codeAny (model PR w) A (.call (.ref 365) ⟨[.int (n : Int) tn], []⟩) R s := by
  refine' j_callK (binds := [("number", .int n tn)]) [] [] G S Kn.nil LA.words r.lt (fun _ _ _ _ _ _ => BindsTo.of_eq rfl) (locs rfl) (by decide) ?_ rfl rfl rfl
  intro L h₁ t₁ j mv₁
  have rr := r.deeper (env := envX "_law_words" (fScope (topSt 18)) L 365 (.ref 364) [])
  refine xc fun _ hk => wpAny_Assign_Name ?_
  refine List_ (args_nil ?_)
  refine j_newListK (s := { s with heap := h₁, toks := t₁ }) j fun D h₂ j₂ mv₂ nD => ?_
  refine j_storeK (s := { s with heap := h₂, toks := t₁ }) j₂ fun h₃ t₃ j₃ mv₃ => hk _ ?_
  refine xc fun _ hk => ?_
  refine while_inv (fun k s' => ∃ m its ep t done, J T g [] s.heap L s'.heap m [(D, lstO its ep)] ∧ m "number" = some (.int (k : Int) t) ∧ m "words" = some (.ref D) ∧ Parts anyA s'.heap its.toList done ∧ done ++ wordsF k (decide (done.length = 0)) = wordsF n true ∧ done.length + k ≤ n ∧ Ok s s') ?turn n ?init
  case init => exact ⟨_, _, _, _, [], j₃, rfl, rfl, .nil, rfl, Nat.le_of_eq (Nat.zero_add _), rfl, id⟩
  rintro k s₄ ⟨m, its, ep, t, done, j₄, hm1, hm2, hp, he, hz, ok⟩
  refine wpAny_isTrue_value (j_local (s := s₄) j₄ hm1 (PyProof.Rows.truthy_int ?_))
  have hsz : its.size = done.length := by rw [← hp.len, Array.length_toList]
  by_cases k0 : k = 0
  · subst k0
    rw [if_neg (by decide)]
    refine hk _ (wpAny_execs_cons (wpAny_Return_some (j_local (s := s₄) j₄ hm2 ?_)))
    rw [wordsF0, List.append_nil] at he
    exact hR s₄ D j₄.mv ok nD (j₄.has _ (.head _)).2.2.2 ⟨_, _, j₄.get (.head _), he ▸ hp⟩
  rw [if_pos (by simpa using k0)]
  clear hk
  refine xc fun _ hk => wpAny_Assign_Name (wpAny_BinOp (j_local (s := s₄) j₄ hm1 (wpAny_Constant_int (g_mod (b := 16) (by decide) ?_))))
  refine j_storeK (s := { s₄ with toks := _ }) j₄ fun h₅ t₅ j₅ mv₅ => hk _ ?_
  refine xc fun _ hk => wpAny_Assign_Name ?_
  refine wpAny_mono (Q := fun v s' => ∃ tk u, v = .str (if decide (done.length = 0) then ("" : Str) else leadS (k % 16)) u ∧ s' = { s₄ with heap := h₅, toks := tk }) (IfExp_ (wpAny_isTrue_value (j_local (s := { s₄ with heap := h₅, toks := _ }) j₅ hm2 (wpAny_truthy_list ⟨_, j₅.get (.head _), rfl, _, rfl⟩ (by lia) ?_)))) ?_ fun _ _ f => f
  · rw [show its.isEmpty = decide (done.length = 0) by rw [← hsz]; rfl]
    by_cases d0 : done.length = 0
    · rw [if_neg (by simpa using d0), if_pos (by simpa using d0)]
      exact Constant_str ⟨_, _, rfl, rfl⟩
    · rw [if_pos (by simpa using d0), if_neg (by simpa using d0)]
      refine wpAny_BinOp (Constant_str (wpAny_BinOp (wpAny_Constant_int (wpAny_BinOp ?_))))
      refine j_local (s := { s₄ with heap := h₅, toks := _ }) j₅ rfl (wpAny_Constant_int ?_)
      refine g_div (b := 8) (by decide) ⟨by lia, by decide⟩ ?_
      refine g_add (a := 1) ?_
      exact g_rep (c := 32) (by decide +kernel) (by lia) fun t' tk => ⟨_, _, rfl, rfl⟩
  rintro _ _ ⟨tk, u, rfl, rfl⟩
  refine j_storeK (s := { s₄ with heap := h₅, toks := tk }) j₅ fun h₆ t₆ j₆ mv₆ => hk _ ?_
  refine xc fun _ hk => wpAny_Expr (MethodCall_ (j_local (s := { s₄ with heap := h₆, toks := t₆ }) j₆ hm2 ?_))
  refine getMethod_list_append (s := { s₄ with heap := h₆, toks := t₆ }) (j₆.get (.head _)) rfl rfl ?_
  refine callWith_method1 (args_cons (Tuple_ (args_cons (j_local (s := { s₄ with heap := h₆, toks := t₆ }) j₆ rfl (args_cons ?_)))))
  refine vc fun _ hv => wpAny_BinOp (wpAny_BinOp (Constant_str (wpAny_BinOp (j_local (s := { s₄ with heap := h₆, toks := _ }) j₆ rfl (wpAny_Constant_int (g_mod (b := 2) (by decide) ?_))))))
  dsimp only
  refine g_rep (c := 46) (by decide +kernel) (by lia) fun t₇ k₇ => ?_
  refine wpAny_BinOp (Constant_str (wpAny_BinOp (wpAny_BinOp (wpAny_BinOp (j_local (s := { s₄ with heap := h₆, toks := _ }) j₆ rfl (wpAny_Constant_int (g_div (b := 2) (by decide) ⟨by lia, by decide⟩ ?_)))))))
  refine wpAny_Constant_int (g_mod (b := 4) (by decide) (wpAny_Constant_int (g_add (b := 1) ?_)))
  refine g_rep (c := 111) (by decide +kernel) (by lia) fun t₈ k₈ => ?_
  refine PyProof.Rows.add_str (fun t₉ k₉ => hv _ { s₄ with heap := h₆, toks := k₉ } ?_) (by simp [rp_len, rp_len, sizeLine_eq]; lia)
  refine args_nil ?_
  refine j_newTupleK (s := { s₄ with heap := h₆, toks := k₉ }) j₆ fun tt h₇ j₇ mv₇ => ?_
  refine args_nil ?_
  refine list_append_any (LstAt.exact (j₇.get (.tail _ (.head _)))) (by rw [sizeLine_eq]; lia) ?_
  obtain ⟨ep', ee⟩ := mapSeq_lst its (its.push (.ref tt)) ep (·.push (.ref tt)) rfl
  have j₈ := j₇.update 1 rfl (.inr nD) (by exact tnL) ee rfl
  have mv₈ := j₇.updMv (.tail _ (.head _)) (by exact tnL) ee rfl
  revert j₈ mv₈
  generalize h₇.update D _ = h₈
  intro j₈ mv₈
  refine hk { s₄ with heap := h₈, toks := k₉ } ?_
  refine xc fun _ hk => wpAny_Assign_Name (wpAny_BinOp (j_local (s := { s₄ with heap := h₈, toks := k₉ }) j₈ hm1 (wpAny_Constant_int (g_div (b := 16) (by decide) ⟨by lia, by decide⟩ ?_))))
  refine j_storeK (s := { s₄ with heap := h₈, toks := _ }) j₈ fun h₉ t₉' j₉ mv₉ => hk _ ?_
  refine wpAny_execs_nil ⟨rfl, k / 16, by lia, _, its.push (.ref tt), ep', _, done ++ [(if decide (done.length = 0) then ("" : Str) else leadS (k % 16), wordS (k % 16))], j₉.sub (List.sublist_cons_self _ _), rfl, hm2, ?_, ?_, ?_, ok.1, ok.2⟩
  · rw [Array.toList_push]
    have p₅ := hp.mv j₄.mv.st mv₅
    have p₆ := p₅.mv j₅.mv.st mv₆
    have p₇ := p₆.mv j₆.mv.st mv₇
    have p₈ := p₇.mv j₇.mv.st mv₈
    exact All2.append (p₈.mv j₈.mv.st mv₉) (.cons ⟨⟨tt, trivial⟩, _, _, rfl, j₉.get (.head _)⟩ .nil)
  · rw [wordsFS _ k0] at he
    rw [List.append_assoc, show decide ((done ++ [((if decide (done.length = 0) = true then ("" : Str) else leadS (k % 16)), wordS (k % 16))]).length = 0) = false by simp]
    exact he
  · rw [List.length_append]
    show done.length + 1 + k / 16 ≤ n
    lia
end
end Mine
end
section
open PySem PySem.W PySem.Calls PyProof.Rows Builtin Builtin.ObjectAttr Builtin.Str
namespace Mine
noncomputable def ItAt (o : Obj) (l : Addr) (i : Nat) : Prop := o.cls = .type "list_iterator" ∧ o.data = .fields #[.ref l, .int (i : Int) 0]
theorem ItAt.no {o : Obj} {l : Addr} {i : Nat} (h : ItAt o l i) : ¬ isTup o := fun q => by have := q.1; rw [h.1] at this; simp at this
section
variable {T : Tabs} {K : Frag} {cd : ClassData} {mg mb : Str → Option Value} {w : World} {A : Around} {s : Shared} {g h₀ h h' h₁ h₂ : Heap} {W W' : List Addr} {L C : Addr} {m : Str → Option Value} {kn : List (Addr × Obj)} {R : Result → Shared → Prop} {E : Value → Shared → Prop} {prog : Program}
variable {env : Env} {I l t : Addr} {i : Nat} {its : Array Value} {ep : Nat} {o : Obj} {body orelse : List Stmt} {x y z : Str} {px py pz pt : Pos} {kt : Nat} {a b c : Value}
theorem letGo_list {target : Expr} {v : Value} {Q : Unit → Shared → Prop} (e : s.heap.get? I = some o) (hc : o.cls = .type "list_iterator") (h : Q () s) : wpAny (model prog w) A (letOwnedTupleGo target (.ref I) v) Q E s := by
  have fin : ∀ (v : Value), wpAny (model prog w) A (do
      let (.ref r, .ref a) := (Value.ref I, v) | return
      let o ← load r
      match o.cls, o.data with
      | .type n, .fields vs =>
        if ["enumerate", "zip", "dict_itemiterator", "dict_reverseitemiterator", "odict_iterator", "itertools.zip_longest", "itertools.pairwise"].contains n && vs[0]? == some (rawInt a) then
          rule "for.unpacks-the-owned-tuple"
          updateField r 0 .none
      | _, _ => pure ()) Q E s := fun v => by
    cases v with
    | ref a =>
      refine wpAny_bind (wpAny_load e ?_)
      rw [hc]
      cases o.data with
      | fields vs =>
        dsimp only
        rw [if_neg (by rw [show (["enumerate", "zip", "dict_itemiterator", "dict_reverseitemiterator", "odict_iterator", "itertools.zip_longest", "itertools.pairwise"].contains "list_iterator") = false by decide]; simp)]
        exact wpAny_pure h
      | _ => exact wpAny_pure h
    | _ => exact wpAny_pure h
  cases target with
  | Tuple => exact fin v
  | List => exact fin v
  | _ => exact wpAny_pure h
noncomputable abbrev ForPost (prog : Program) (w : World) (A : Around) (R : Result → Shared → Prop) (target : Expr) (I : Addr) (body orelse : List Stmt) (env : Env) : Flow → Shared → Prop := fun f s₃ => match f with
          | .next | .cont => codeAny (model prog w) A (.forLoop target (.ref I) body orelse env) R s₃
          | .brk => R (.ok .next) s₃
          | .ret v => R (.ok (.ret v)) s₃
theorem for_item {target : Expr} {v : Value} (j : J T g W h₀ env.locals s.heap m ((I, o) :: kn)) (ho : ItAt o l i) (hI : h₀.get? I = none) (hl : s.heap.get? l = some (lstO its ep)) (hv : its[i]? = some v)
    (h : ∀ h' o', ItAt o' l (i + 1) → J T g W h₀ env.locals h' m ((I, o') :: kn) → Mv T g [I] s.heap h' → wpAny (model prog w) A (assign target env v) (fun _ s₂ => wpAny (model prog w) A (execs body env) (ForPost prog w A R target I body orelse env) (fun _ _ => False) s₂) (fun _ _ => False) { s with heap := h' }) :
    codeAny (model prog w) A (.forLoop target (.ref I) body orelse env) R s := by
  refine for_turn (wpAny_pyNext_list_item (l := l) (i := i) ⟨o, j.get (.head _), ho.1, ho.2⟩ ⟨_, hl, rfl, _, rfl⟩ hv fun h₂ hit sb => ?_)
  refine qg fun G kG => ?_
  obtain ⟨o₂, e₂, c₂, d₂⟩ := hit
  refine kG ?_
  obtain ⟨j₂, mv₂⟩ := j.iter 0 rfl (.inr hI) ho.no sb e₂
  exact letGo_list e₂ c₂ (h h₂ o₂ ⟨c₂, d₂⟩ j₂ mv₂)
theorem for_end {target : Expr} (hh : A.handled = none) (j : J T g W h₀ env.locals s.heap m ((I, o) :: kn)) (ho : ItAt o l i) (hI : h₀.get? I = none) (hl : s.heap.get? l = some (lstO its ep)) (hv : its[i]? = none)
    (h : ∀ h', J T g W h₀ env.locals h' m kn → (∀ b o, b ≠ I → s.heap.get? b = some o → h'.get? b = some o) → R (.ok .next) { s with heap := h' }) :
    codeAny (model prog w) A (.forLoop target (.ref I) body [] env) R s := by
  refine for_turn (wpAny_pyNext_list_end (l := l) (i := i) hh ⟨o, j.get (.head _), ho.1, ho.2⟩ ⟨_, hl, rfl, _, rfl⟩ hv fun h₂ ex => wpAny_execs_nil ?_)
  have nI := (List.nodup_cons.mp j.nd).1
  refine h h₂ ((j.sub (List.sublist_cons_self _ _)).turn (wr := [I]) (fun b o hb e => ex b o (fun q => hb (by exact mE q)) e) (by exact al1 ⟨hI, (j.has _ (.head _)).2.1⟩) fun p hp hm => nI (List.mem_map.mpr ⟨p, hp, List.mem_singleton.mp hm⟩)) fun b o hb e => ex b o hb e
theorem for_name {v : Value} (j : J T g W h₀ env.locals s.heap m ((I, o) :: kn)) (ho : ItAt o l i) (hI : h₀.get? I = none) (hl : s.heap.get? l = some (lstO its ep)) (hv : its[i]? = some v)
    (h : ∀ h' tk o', ItAt o' l (i + 1) → J T g W h₀ env.locals h' (fun q => if q = x then some v else m q) ((I, o') :: kn) → Mv T g [I, env.locals] s.heap h' → wpAny (model prog w) A (execs body env) (ForPost prog w A R (.Name x px) I body orelse env) (fun _ _ => False) { s with heap := h', toks := tk })
    (hk : env.scope.kind = .function := by rfl) (hx : env.kindOf x = some .local := by rfl) :
    codeAny (model prog w) A (.forLoop (.Name x px) (.ref I) body orelse env) R s := by
  refine for_item j ho hI hl hv fun h₂ o₂ ho₂ j₂ mv₂ => wpAny_assign_Name ?_
  refine e_storeK (s := { s with heap := h₂ }) j₂ (fun h₃ t₃ j₃ mv₃ => ?_) hk hx
  exact h h₃ t₃ o₂ ho₂ j₃ ((mv₂.weak (W' := [I, env.locals]) (by exact al1 m1)).trans mv₃ (by exact al1 (.inl m2)))
theorem unpack2 {Q : Unit → Shared → Prop} (hh : A.handled = none) (j : J T g W h₀ env.locals s.heap m kn) (ht : s.heap.get? t = some (tupObj [a, b]))
    (h : ∀ h' tk, J T g W h₀ env.locals h' (fun q => if q = y then some b else if q = x then some a else m q) kn → Mv T g [env.locals] s.heap h' → Q () { s with heap := h', toks := tk })
    (hk : env.scope.kind = .function := by rfl) (hx : env.kindOf x = some .local := by rfl) (hy : env.kindOf y = some .local := by rfl) :
    wpAny (model prog w) A (assign (.Tuple [.Name x px, .Name y py] kt pt) env (.ref t)) Q E s := by
  refine wpAny_assign_Tuple (items := #[a, b]) hh ⟨_, ht, rfl, _, rfl⟩ (by rfl) (by rfl) fun h₄ x₄ => ?_
  obtain ⟨j₄, mv₄⟩ := j.keepsL fun b o e => x₄ b o (Nat.ne_of_lt (Heap.lt_size e)) e
  refine wpAny_bind (wpAny_holding (wpAny_assign_Name ?_))
  refine e_storeK (s := { s with heap := h₄ }) j₄ (fun h₅ t₅ j₅ mv₅ => ?_) hk hx
  refine wpAny_bind (wpAny_holding (wpAny_assign_Name ?_))
  refine e_storeK (s := { s with heap := h₅, toks := t₅ }) j₅ (fun h₆ t₆ j₆ mv₆ => wpAny_pure ?_) hk hy
  exact h h₆ t₆ j₆ (((mv₄.weak (W' := [env.locals]) (by exact al0)).trans mv₅ (by exact al1 (.inl m1))).trans mv₆ (by exact al1 (.inl m1)))
theorem unpack3 {Q : Unit → Shared → Prop} (hh : A.handled = none) (j : J T g W h₀ env.locals s.heap m kn) (ht : s.heap.get? t = some (tupObj [a, b, c]))
    (h : ∀ h' tk, J T g W h₀ env.locals h' (fun q => if q = z then some c else if q = y then some b else if q = x then some a else m q) kn → Mv T g [env.locals] s.heap h' → Q () { s with heap := h', toks := tk })
    (hk : env.scope.kind = .function := by rfl) (hx : env.kindOf x = some .local := by rfl) (hy : env.kindOf y = some .local := by rfl) (hz : env.kindOf z = some .local := by rfl) :
    wpAny (model prog w) A (assign (.Tuple [.Name x px, .Name y py, .Name z pz] kt pt) env (.ref t)) Q E s := by
  refine wpAny_assign_Tuple (items := #[a, b, c]) hh ⟨_, ht, rfl, _, rfl⟩ (by rfl) (by rfl) fun h₄ x₄ => ?_
  obtain ⟨j₄, mv₄⟩ := j.keepsL fun b o e => x₄ b o (Nat.ne_of_lt (Heap.lt_size e)) e
  refine wpAny_bind (wpAny_holding (wpAny_assign_Name ?_))
  refine e_storeK (s := { s with heap := h₄ }) j₄ (fun h₅ t₅ j₅ mv₅ => ?_) hk hx
  refine wpAny_bind (wpAny_holding (wpAny_assign_Name ?_))
  refine e_storeK (s := { s with heap := h₅, toks := t₅ }) j₅ (fun h₆ t₆ j₆ mv₆ => ?_) hk hy
  refine wpAny_bind (wpAny_holding (wpAny_assign_Name ?_))
  refine e_storeK (s := { s with heap := h₆, toks := t₆ }) j₆ (fun h₇ t₇ j₇ mv₇ => wpAny_pure ?_) hk hz
  exact h h₇ t₇ j₇ ((((mv₄.weak (W' := [env.locals]) (by exact al0)).trans mv₅ (by exact al1 (.inl m1))).trans mv₆ (by exact al1 (.inl m1))).trans mv₇ (by exact al1 (.inl m1)))
theorem for_pair (hh : A.handled = none) (j : J T g W h₀ env.locals s.heap m ((I, o) :: kn)) (ho : ItAt o l i) (hI : h₀.get? I = none) (hl : s.heap.get? l = some (lstO its ep)) (hv : its[i]? = some (.ref t)) (ht : s.heap.get? t = some (tupObj [a, b]))
    (h : ∀ h' tk o', ItAt o' l (i + 1) → J T g W h₀ env.locals h' (fun q => if q = y then some b else if q = x then some a else m q) ((I, o') :: kn) → Mv T g [I, env.locals] s.heap h' → wpAny (model prog w) A (execs body env) (ForPost prog w A R (.Tuple [.Name x px, .Name y py] kt pt) I body orelse env) (fun _ _ => False) { s with heap := h', toks := tk })
    (hk : env.scope.kind = .function := by rfl) (hx : env.kindOf x = some .local := by rfl) (hy : env.kindOf y = some .local := by rfl) :
    codeAny (model prog w) A (.forLoop (.Tuple [.Name x px, .Name y py] kt pt) (.ref I) body orelse env) R s := by
  refine for_item j ho hI hl hv fun h₂ o₂ ho₂ j₂ mv₂ => ?_
  refine unpack2 (s := { s with heap := h₂ }) hh j₂ (mv₂.keep _ _ ht (j.mv.st.notTab ht (by nofun)) (.inr ⟨rfl, _, _, rfl⟩)) (fun h₃ t₃ j₃ mv₃ => ?_) hk hx hy
  exact h h₃ t₃ o₂ ho₂ j₃ ((mv₂.weak (W' := [I, env.locals]) (by exact al1 m1)).trans mv₃ (by exact al1 (.inl m2)))
theorem for_tri (hh : A.handled = none) (j : J T g W h₀ env.locals s.heap m ((I, o) :: kn)) (ho : ItAt o l i) (hI : h₀.get? I = none) (hl : s.heap.get? l = some (lstO its ep)) (hv : its[i]? = some (.ref t)) (ht : s.heap.get? t = some (tupObj [a, b, c]))
    (h : ∀ h' tk o', ItAt o' l (i + 1) → J T g W h₀ env.locals h' (fun q => if q = z then some c else if q = y then some b else if q = x then some a else m q) ((I, o') :: kn) → Mv T g [I, env.locals] s.heap h' → wpAny (model prog w) A (execs body env) (ForPost prog w A R (.Tuple [.Name x px, .Name y py, .Name z pz] kt pt) I body orelse env) (fun _ _ => False) { s with heap := h', toks := tk })
    (hk : env.scope.kind = .function := by rfl) (hx : env.kindOf x = some .local := by rfl) (hy : env.kindOf y = some .local := by rfl) (hz : env.kindOf z = some .local := by rfl) :
    codeAny (model prog w) A (.forLoop (.Tuple [.Name x px, .Name y py, .Name z pz] kt pt) (.ref I) body orelse env) R s := by
  refine for_item j ho hI hl hv fun h₂ o₂ ho₂ j₂ mv₂ => ?_
  refine unpack3 (s := { s with heap := h₂ }) hh j₂ (mv₂.keep _ _ ht (j.mv.st.notTab ht (by nofun)) (.inr ⟨rfl, _, _, rfl⟩)) (fun h₃ t₃ j₃ mv₃ => ?_) hk hx hy hz
  exact h h₃ t₃ o₂ ho₂ j₃ ((mv₂.weak (W' := [I, env.locals]) (by exact al1 m1)).trans mv₃ (by exact al1 (.inl m2)))
end
end Mine
end
section
open PySem PySem.W PySem.Calls PyProof.Rows Builtin Builtin.ObjectAttr Builtin.Str
namespace Mine
section
variable {T : Tabs} {K : Frag} {cd : ClassData} {mg mb : Str → Option Value} {w : World} {A : Around} {s : Shared} {g h₀ h h' h₁ h₂ : Heap} {W W' : List Addr} {L C : Addr} {m : Str → Option Value} {kn : List (Addr × Obj)} {R : Result → Shared → Prop} {E : Value → Shared → Prop} {prog : Program}
variable {Pk : Addr → Prop} {elt : Expr} {env : Env} {scope : Scope} {cl : List (Str × Addr)} {n : Nat} {F : List Addr → Nat → Value → Heap → Prop} {s₁ : Shared} {ax : Addr} {its : Array Value} {ep : Nat} {x y z : Str} {px py pz pt : Pos} {kt : Nat}
structure NewIt (T : Tabs) (g : Heap) (s s₁ : Shared) (ax : Addr) : Prop where
  mv : Mv T g [] s.heap (s₁.heap.push { cls := .type "list_iterator", data := .fields #[.ref ax, .int 0 0] })
  no : s₁.heap.objs.size ∉ T.map (·.2)
  h0 : s.heap.get? s₁.heap.objs.size = none
theorem newIt (mv₁ : Mv T g [] s.heap s₁.heap) (S₁ : St T g s₁.heap) (ax : Addr) : NewIt T g s s₁ ax where
  mv := mv₁.keeps (fun b o e => Heap.get?_push_of_some _ e) (by rw [Heap.size_push]; exact Nat.le_succ_of_le S₁.le)
  no := fun hm => by
    obtain ⟨q, hq, e⟩ := List.mem_map.mp hm
    obtain ⟨ps, ps₀, x, y, z⟩ := S₁.tab q hq
    have := Heap.lt_size y.2
    rw [e] at this
    exact absurd this (Nat.lt_irrefl _)
  h0 := none_back mv₁ (Heap.get?_none_of_le (Nat.le_refl _))
theorem src1 (hh : A.handled = none) (mv₁ : Mv T g [] s.heap s₁.heap) (ok₁ : Ok s s₁) (S₁ : St T g s₁.heap) (hax : s₁.heap.get? ax = some (lstO its ep)) (hn : its.size = n) (hF : ∀ ws, Stays T ws (F ws))
    (hx : scope.names.lookup x = some .local) (hk : scope.kind = .function)
    (body : ∀ (s₂ : Shared) (I D C : Addr) (i : Nat) (s₃ : Shared) (m : Str → Option Value) (its' : Array Value) (ep' : Nat) (v : Value), Ok s₁ s₂ → i < n → its[i]? = some v → J T g [] s.heap C s₃.heap (fun q => if q = x then some v else m q) [(D, lstO its' ep')] → (∃ o, s₃.heap.get? I = some o) → Ok s₂ s₃ →
      wpAny (model prog w) A (eval elt (compEnvC scope cl C env)) (fun y s₅ => F [D, C, I] i y s₅.heap ∧ Mv T g [] s₃.heap s₅.heap ∧ Ok s₃ s₅) (fun _ _ => False) s₃) :
    wpAny (model prog w) A (pyIter (.ref ax)) (Src prog w A T g s elt (.Name x px) [] env scope cl n (fun _ => true) F) E s₁ := by
  subst hn
  refine wpAny_pyIter_list ⟨_, hax, rfl, ep, rfl⟩ ?_
  have hne : ax ≠ s₁.heap.objs.size := Nat.ne_of_lt (Heap.lt_size hax)
  have N := newIt (s := s) mv₁ S₁ ax
  have Wk := Walks.list (prog := prog) (w := w) hh s₁.heap.objs.size ax hne its
  refine ⟨N.mv, ⟨ok₁.1, ok₁.2⟩, s₁.heap.objs.size, _, _, _, _, rfl, ⟨⟨_, Heap.get?_push_size _ rfl, rfl, rfl⟩, ⟨_, Heap.get?_push_of_some _ hax, rfl, ep, rfl⟩⟩, ?_, fun C hC => Turns.name Wk (al1 N.h0) hC hk (lookup_relabel_local hx), fun D C => hF _, ?_⟩
  · refine al2 ⟨?_, N.no⟩ ⟨?_, S₁.notTab hax (by nofun)⟩
    · show _ < (s₁.heap.push _).objs.size; rw [Heap.size_push]; exact Nat.lt_succ_self _
    · show _ < (s₁.heap.push _).objs.size; rw [Heap.size_push]; exact Nat.lt_succ_of_lt (Heap.lt_size hax)
  · rintro D C i s₃ m m' its' ep' hi ⟨v, ev, rfl⟩ j mv hs ok
    obtain ⟨⟨o, e, _⟩, _⟩ := hs
    exact wpAny_tests_nil ⟨rfl, Mv.refl j.mv.st, Ok.refl _, fun _ => body _ _ D C i s₃ m its' ep' v ⟨rfl, id⟩ hi ev j ⟨o, e⟩ ok⟩
structure Tups (h : Heap) (its : Array Value) (n : Nat) (vals : Nat → List Value) : Prop where
  sz : its.size = n
  at_ : ∀ i, i < n → ∃ t, its[i]? = some (.ref t) ∧ h.get? t = some (tupObj (vals i))
theorem Tups.mv {vals : Nat → List Value} (t : Tups h its n vals) (S : St T g h) (mv : Mv T g W h h') : Tups h' its n vals :=
  ⟨t.sz, fun i hi => let ⟨a, e, e'⟩ := t.at_ i hi; ⟨a, e, mv.keep _ _ e' (S.notTab e' (by nofun)) (.inr ⟨rfl, _, _, rfl⟩)⟩⟩
theorem srcT {target : Expr} {upd : (Nat → Array Value) → Nat → (Str → Option Value) → (Str → Option Value) → Prop} {vals : Nat → List Value} (hh : A.handled = none) (mv₁ : Mv T g [] s.heap s₁.heap) (ok₁ : Ok s s₁) (S₁ : St T g s₁.heap) (hax : s₁.heap.get? ax = some (lstO its ep)) (hT : Tups s₁.heap its n vals) (hF : ∀ ws, Stays T ws (F ws))
    (turns : ∀ (I : Addr) (vs : Nat → Array Value) fp (Sx : Nat → Heap → Prop) (Mid : Nat → Addr → Heap → Prop) (C : Addr), s.heap.get? I = none → C ∉ fp → WalksU prog w A I fp [I] n (fun j v => v = vs j ∧ j < n) Sx Mid → (∀ i, i < n → vs i = (vals i).toArray) → Turns prog w A T g [] s.heap target (compEnvC scope cl C env) I fp [I] n (upd vs) Sx)
    (body : ∀ (vs : Nat → Array Value) (s₂ : Shared) (I D C : Addr) (i : Nat) (s₃ : Shared) (m m' : Str → Option Value) (its' : Array Value) (ep' : Nat), Ok s₁ s₂ → i < n → vs i = (vals i).toArray → upd vs i m m' → J T g [] s.heap C s₃.heap m' [(D, lstO its' ep')] → (∃ o, s₃.heap.get? I = some o) → Ok s₂ s₃ →
      wpAny (model prog w) A (eval elt (compEnvC scope cl C env)) (fun y s₅ => F [D, C, I] i y s₅.heap ∧ Mv T g [] s₃.heap s₅.heap ∧ Ok s₃ s₅) (fun _ _ => False) s₃) :
    wpAny (model prog w) A (pyIter (.ref ax)) (Src prog w A T g s elt target [] env scope cl n (fun _ => true) F) E s₁ := by
  obtain rfl := hT.sz
  refine wpAny_pyIter_list ⟨_, hax, rfl, ep, rfl⟩ ?_
  have hne : ax ≠ s₁.heap.objs.size := Nat.ne_of_lt (Heap.lt_size hax)
  have N := newIt (s := s) mv₁ S₁ ax
  have hch : ∀ i, ∃ t, i < its.size → its[i]? = some (.ref t) ∧ s₁.heap.get? t = some (tupObj (vals i)) := fun i => by
    by_cases hi : i < its.size
    · obtain ⟨t, e⟩ := hT.at_ i hi; exact ⟨t, fun _ => e⟩
    · exact ⟨0, fun h => absurd h hi⟩
  have hts : ∀ i, i < its.size → (hch i).choose < s₁.heap.objs.size := fun i hi => Heap.lt_size ((hch i).choose_spec hi).2
  have Wk := walkTups (prog := prog) (w := w) hh s₁.heap.objs.size ax hne its (fun i => (hch i).choose) (fun i => (vals i).toArray) (fun i hi => ((hch i).choose_spec hi).1) fun i hi => Nat.ne_of_lt (hts i hi)
  refine ⟨N.mv, ⟨ok₁.1, ok₁.2⟩, s₁.heap.objs.size, _, _, _, _, rfl, ⟨⟨_, Heap.get?_push_size _ rfl, rfl, rfl⟩, ⟨_, ep, Heap.get?_push_of_some _ hax, rfl⟩, fun k hk => ⟨_, Heap.get?_push_of_some _ ((hch k).choose_spec hk).2, rfl, _, rfl⟩⟩, ?_, fun C hC => turns _ _ _ _ _ C N.h0 hC Wk fun _ _ => rfl, fun D C => hF _, ?_⟩
  · intro b hb
    rcases List.mem_cons.mp hb with rfl | hb
    · exact ⟨by show _ < (s₁.heap.push _).objs.size; rw [Heap.size_push]; exact Nat.lt_succ_self _, N.no⟩
    rcases List.mem_cons.mp hb with rfl | hb
    · exact ⟨by show _ < (s₁.heap.push _).objs.size; rw [Heap.size_push]; exact Nat.lt_succ_of_lt (Heap.lt_size hax), S₁.notTab hax (by nofun)⟩
    · obtain ⟨i, hi, rfl⟩ := List.mem_map.mp hb
      have := hts i (List.mem_range.mp hi)
      exact ⟨by show _ < (s₁.heap.push _).objs.size; rw [Heap.size_push]; exact Nat.lt_succ_of_lt this, S₁.notTab ((hch i).choose_spec (List.mem_range.mp hi)).2 (by nofun)⟩
  · intro D C i s₃ m m' its' ep' hi hu j mv hs ok
    refine qg fun G kG => ?_
    obtain ⟨⟨o, e, _⟩, _⟩ := hs
    refine kG ?_
    exact wpAny_tests_nil ⟨rfl, Mv.refl j.mv.st, Ok.refl _, fun _ => body _ _ _ D C i s₃ m m' its' ep' ⟨rfl, id⟩ hi rfl hu j ⟨o, e⟩ ok⟩
theorem src2 {va vb : Nat → Value} (hh : A.handled = none) (mv₁ : Mv T g [] s.heap s₁.heap) (ok₁ : Ok s s₁) (S₁ : St T g s₁.heap) (hax : s₁.heap.get? ax = some (lstO its ep)) (hT : Tups s₁.heap its n fun i => [va i, vb i]) (hF : ∀ ws, Stays T ws (F ws))
    (hx : scope.names.lookup x = some .local) (hy : scope.names.lookup y = some .local) (hk : scope.kind = .function)
    (body : ∀ (s₂ : Shared) (I D C : Addr) (i : Nat) (s₃ : Shared) (m : Str → Option Value) (its' : Array Value) (ep' : Nat), Ok s₁ s₂ → i < n → J T g [] s.heap C s₃.heap (fun q => if q = y then some (vb i) else if q = x then some (va i) else m q) [(D, lstO its' ep')] → (∃ o, s₃.heap.get? I = some o) → Ok s₂ s₃ →
      wpAny (model prog w) A (eval elt (compEnvC scope cl C env)) (fun y s₅ => F [D, C, I] i y s₅.heap ∧ Mv T g [] s₃.heap s₅.heap ∧ Ok s₃ s₅) (fun _ _ => False) s₃) :
    wpAny (model prog w) A (pyIter (.ref ax)) (Src prog w A T g s elt (.Tuple [.Name x px, .Name y py] kt pt) [] env scope cl n (fun _ => true) F) E s₁ := by
  refine srcT (upd := fun vs i m m' => ∃ v v', (#[v, v'] = vs i ∧ i < n) ∧ m' = fun z => if z = y then some v' else if z = x then some v else m z) hh mv₁ ok₁ S₁ hax hT hF (fun I vs fp Sx Mid C hI hC Wk hvs => ?_) fun vs s₂ I D C i s₃ m m' its' ep' o2 hi hv hu j hI ok => ?_
  · exact Turns.pairU Wk hh (fun i v e => by rw [e.1, hvs i e.2]; rfl) (al1 hI) hC hk (lookup_relabel_local hx) (lookup_relabel_local hy)
  · obtain ⟨v, v', ⟨e, _⟩, rfl⟩ := hu
    rw [hv] at e
    obtain ⟨rfl, rfl⟩ : v = va i ∧ v' = vb i := by simpa using e
    exact body s₂ I D C i s₃ m its' ep' o2 hi j hI ok
theorem Parts.tv {ps : List (Str × Str)} (p : Parts Pk h its.toList ps) : ∃ ta tb : Nat → Tok, Tups h its ps.length fun i => [.str (ps.getD i ("", "")).1 (ta i), .str (ps.getD i ("", "")).2 (tb i)] := by
  have hl : its.size = ps.length := by have := p.len; rw [Array.length_toList] at this; exact this
  have : ∀ i, ∃ (ta tb : Tok), i < ps.length → ∃ t, its[i]? = some (.ref t) ∧ h.get? t = some (tupObj [.str (ps.getD i ("", "")).1 ta, .str (ps.getD i ("", "")).2 tb]) := fun i => by
    by_cases hi : i < ps.length
    · obtain ⟨a, b, e1, e2, t, ta, tb, e3, e4⟩ := All2.get p i (by rw [p.len]; exact hi)
      refine ⟨ta, tb, fun _ => ⟨t.1, by rw [← Array.getElem?_toList, e1, e3], ?_⟩⟩
      rw [List.getD_eq_getElem?_getD, e2]
      exact e4
    · exact ⟨0, 0, fun h => absurd h hi⟩
  exact ⟨fun i => (this i).choose, fun i => (this i).choose_spec.choose, hl, fun i hi => (this i).choose_spec.choose_spec hi⟩
theorem strs_of {f : Nat → Str} {k : Nat} {vs : List Value} (h : Paired (fun i y => ∃ t, y = .str (f i) t) ((List.range k).filter fun _ => true) vs) : StrsAre vs ((List.range k).map f) := by
  rw [filter_true] at h
  exact strs_of_paired h
theorem sum_le {B : Nat} : ∀ {l : List Nat}, (∀ x ∈ l, x ≤ B) → l.sum ≤ l.length * B
  | [], _ => Nat.zero_le _
  | x :: l, h => by
    rw [List.sum_cons, List.length_cons, Nat.succ_mul, Nat.add_comm]
    exact Nat.add_le_add (sum_le fun y hy => h y (.tail _ hy)) (h x (.head _))
theorem joins {B : Nat} {l : List Str} {sep : Str} (h : ∀ x ∈ l, x.length ≤ B) (hl : l.length ≤ 1000) (hB : B ≤ 1000) (hs : sep.length ≤ 10) : (l.map (·.length)).sum + l.length * sep.length ≤ 16777216 := by
  have h1 := sum_le (l := l.map (·.length)) (B := B) fun x hx => by obtain ⟨y, hy, rfl⟩ := List.mem_map.mp hx; exact h y hy
  rw [List.length_map] at h1
  have h2 := Nat.mul_le_mul hl hB
  have h3 := Nat.mul_le_mul hl hs
  exact Nat.le_trans (Nat.add_le_add (Nat.le_trans h1 h2) h3) (by decide)
theorem wl_join (sep : Str) (l : List Str) : wl (Str.join sep l) = gls (wl sep) (l.map wl) := join_gls sep l
theorem gls_nil : ∀ l : List (List Nat), gls [] l = l.flatten
  | [] => rfl
  | x :: l => by show x ++ (l.map ([] ++ ·)).flatten = _; simp
theorem value_spec {a : Addr} {ep : Nat} {ps : WS} (LA : La K) (G : Gb T K mg mb g) (S : St T g s.heap) (r : Rm A 2) (hl : s.heap.get? a = some (lstO its ep)) (hp : Parts Pk s.heap its.toList ps) (hz : ps.length ≤ 100) (hz2 : ∀ p ∈ ps, p.1.length + p.2.length ≤ 100)
   (hR : ∀ s' t, Mv T g [] s.heap s'.heap → Ok s s' → R (.ok (.ret (.str (mkS (valL ps)) t))) s') :
   codeAny (model PR w) A (.call (.ref 370) ⟨[.ref a], []⟩) R s := by
  refine' j_callK (binds := [("words", .ref a)]) [] [] G S Kn.nil LA.value r.lt (fun _ _ _ _ _ _ => BindsTo.of_eq rfl) (locs rfl) (by decide) ?_ rfl rfl rfl
  intro L h₁ t₁ j mv₁
  have rr := r.deeper (env := envX "_law_value" (fScope (topSt 19)) L 370 (.ref 369) [])
  have hl₁ : h₁.get? a = some (lstO its ep) := j.old hl (.inl (by exact ni0))
  obtain ⟨ta, tb, hT⟩ := (hp.mv S mv₁).tv
  refine wpAny_execs_cons (wpAny_Return_some (MethodCall_ (Constant_str ?_)))
  refine PySem.GM.join ?_
  refine callWith_method1 (args_cons ?_)
  refine j_listComp (s := { s with heap := h₁, toks := _ }) (n := ps.length) (p := fun _ => true) (F := fun _ i y _ => ∃ t, y = .str ((ps.getD i ("", "")).1 ++ (ps.getD i ("", "")).2) t) (cl := []) j (by lia) (by rfl) ?_ ?_
  · refine j_local (s := { s with heap := h₁, toks := _ }) j rfl ?_
    refine src2 (s := { s with heap := h₁, toks := _ }) rr.h (Mv.refl j.mv.st) ⟨rfl, id⟩ j.mv.st hl₁ hT (fun ws => Stays.pure _) (by rfl) (by rfl) (by rfl) fun s₂ I D C i s₃ m its' ep' o2 hi j₃ hI ok => ?_
    refine wpAny_BinOp (e_local j₃ (ine (by decide) (ipo rfl)) (e_local j₃ (ipo rfl) ?_))
    have hq : (ps.getD i ("", "")) ∈ ps := by rw [List.getD_eq_getElem?_getD, List.getElem?_eq_getElem hi]; exact List.getElem_mem hi
    exact PyProof.Rows.add_str (fun t k => ⟨⟨t, rfl⟩, Mv.refl j₃.mv.st, rfl, id⟩) (by rw [sizeLine_eq]; exact Nat.le_trans (hz2 _ hq) (by decide))
  · intro s' D its' ep' ws j' mv' ok' hD gD eD hP
    have hst := strs_of hP
    refine args_nil (join_list ⟨_, eD, rfl, _, rfl⟩ hst (joins (B := 100) (fun x hx => ?_) (by simp; lia) (by decide) (by decide +kernel)) fun t k => ?_)
    · obtain ⟨i, hi, rfl⟩ := List.mem_map.mp hx
      have hi := List.mem_range.mp hi
      have hq : (ps.getD i ("", "")) ∈ ps := by rw [List.getD_eq_getElem?_getD, List.getElem?_eq_getElem hi]; exact List.getElem_mem hi
      have := hz2 _ hq
      rw [← wl_len, wl_app, List.length_append, wl_len, wl_len]
      exact this
    · have e : Txt.join "" ((List.range ps.length).map fun i => (ps.getD i ("", "")).1 ++ (ps.getD i ("", "")).2) = mkS (valL ps) := by
        rw [Txt_join]
        apply str_inj
        rw [show (Str.join "" _).cps.toList = wl (Str.join "" _) from rfl, wl_join, show wl ("" : Str) = [] from rfl, gls_nil, map_range_getD ps ("", "") (fun p => p.1 ++ p.2), List.map_map]
        show _ = (ps.map fun p => wl p.1 ++ wl p.2).flatten
        congr 1
        refine List.map_congr_left fun p _ => wl_app _ _
      rw [e]
      exact hR { s' with toks := k } t j'.mv ⟨ok'.1, ok'.2⟩
end
end Mine
end
section
open PySem PySem.W PySem.Calls PyProof.Rows Builtin Builtin.ObjectAttr
namespace Mine
section
variable {Pk : Addr → Prop}
variable {T : Tabs} {K : Frag} {cd : ClassData} {mg mb : Str → Option Value} {w : World} {A : Around} {s : Shared} {g h₀ h h' : Heap} {W W' : List Addr} {L C : Addr} {m : Str → Option Value} {kn : List (Addr × Obj)} {R : Result → Shared → Prop} {E : Value → Shared → Prop} {prog : Program}
variable {f df l x d : Addr} {width : Int} {lines lines' : List Str} {ps ps' : List (Str × Str)} {n n' : Int}
theorem Small.left {ps qs : List (Str × Str)} (z : Small (ps ++ qs)) : Small ps := by
  obtain ⟨a, b⟩ := z
  rw [List.map_append, List.sum_append] at a
  rw [List.length_append] at b
  exact ⟨by lia, by lia⟩
theorem bind_popf1 {s : Shared} (X : Fx K cd) (Y : K.In s.heap) (x : Addr) (k : Int) (tk : Tok) (fd : FuncData) (h1 : fd.params = fArgs (inCls 12 2)) (h2 : fd.defaults = .ref 162) : BindsTo s fd ⟨[.ref x, .int k tk], []⟩ [("self", .ref x), ("i", .int k tk)] := by
  obtain ⟨d, n, sl, tk', e⟩ := X.d140
  obtain ⟨a1, a2, a3, a4, a5, a6, a7, a8, a9, a10, a11, a12, a13, a14⟩ := fd
  dsimp only at h1 h2
  subst h1 h2
  exact BindsTo.of_defaults rfl (Y _ _ e) rfl rfl rfl
theorem bind_reset1 {s : Shared} (X : Fx K cd) (Y : K.In s.heap) (x l : Addr) (fd : FuncData) (h1 : fd.params = fArgs (inCls 12 6)) (h2 : fd.defaults = .ref 192) : BindsTo s fd ⟨[.ref x, .ref l], []⟩ [("self", .ref x), ("startval", .ref l)] := by
  obtain ⟨d, n, sl, e⟩ := X.d170
  obtain ⟨a1, a2, a3, a4, a5, a6, a7, a8, a9, a10, a11, a12, a13, a14⟩ := fd
  dsimp only at h1 h2
  subst h1 h2
  exact BindsTo.of_defaults rfl (Y _ _ e) rfl rfl rfl
theorem acc_size {expr : Bool} {Q : Value → Shared → Prop} (G : Gb T K mg mb g) (X : Fx K cd) (S : St T g s.heap) (a : Acc Pk w s.heap x d ps n) (h : ∀ tn t', Q (.int n tn) { s with toks := t' }) : wpAny (model prog w) A (getAttr (.ref x) "_initial_size" expr) Q E s := by
  obtain ⟨its, ep, tk, tn, a', p⟩ := a
  exact a_attr G X S a' rfl fun t' _ => h tn t'
theorem boot_range' : bootBuiltins "range" = some (.type "range") := by kernel_rfl
theorem rsize (a : Nat) : Builtin.Range.rangeSize (a : Int) 0 (-1) = a := by
  unfold Builtin.Range.rangeSize
  simp
  lia
theorem rsmall (a : Nat) (h : a ≤ 100000) : Builtin.Range.small (a : Int) 0 (-1) = true := by
  unfold Builtin.Range.small
  rw [rsize]
  simp [Builtin.Range.rangeFitsLong]
  lia
theorem lead_at {p : Str × Str} (h : Lead p) : 1 ≤ p.1.length ∧ p.1.length ≤ 2 ∧ ((seqIndex? 0 p.1.length).bind fun x => p.1.cps[x]?) = some 32 := by
  rcases h with h | h
  · rw [show p.1 = mkS [32] from str_inj h]; decide +kernel
  · rw [show p.1 = mkS [32, 32] from str_inj h]; decide +kernel
theorem len_ne {x : Str} (h : x ≠ "") : x.length ≠ 0 := fun q => wl_ne h (List.eq_nil_of_length_eq_zero ((wl_len x).trans q))
theorem chunk_spec {p : Str × Str} {nn : Nat} {ta tb : Tok} (hpp : ps ≠ [] → Lead p) (hnn : ps = [] → 0 < nn) (hn1 : nn ≤ 1000) (V : Fv K) (X : Fx K cd) (X2 : Fx2 K) (G : Gb T K mg mb g) (GM : Gm mg) (S : St T g s.heap) (r : Rm A 10) (hPk : ∀ t, s.heap.get? t = none → Pk t) (hT : (183, 179) ∈ T) (hT2 : (190, 186) ∈ T)
   (F : FmtAt Pk w g s.heap f df l x d width lines ps nn) (hz : Small (ps ++ [p])) (hll : lines.length ≤ 1000) (hpos : 0 ≤ plen (ps ++ [p])) (hup : plen (ps ++ [p]) ≤ 10000000)
   (hR : ∀ s', Mv T g [l, x, d] s.heap s'.heap → Ok s s' → FmtAt Pk w g s'.heap f df l x d width (chunkG width (lines, ps, nn) p).1 (chunkG width (lines, ps, nn) p).2.1 (chunkG width (lines, ps, nn) p).2.2 → R (.ok (.ret .none)) s') :
   codeAny (model PR w) A (.call (.ref 130) ⟨[.ref f, .str p.1 ta, .str p.2 tb], []⟩) R s := by
  obtain ⟨its, ep, hl, hli⟩ := F.lst
  have hpsl : ps.length ≤ 999 := by have := hz.2; simp at this; omega
  refine' j_callK (binds := [("self", .ref f), ("fws", .str p.1 ta), ("string", .str p.2 tb)]) [l, x, d] [(l, ({ cls := .type "list", data := .seq its ep } : Obj))] G S ?hkn V.chunk r.lt (fun _ _ _ _ _ _ => BindsTo.of_eq rfl) (locs rfl) (by decide) ?_ rfl rfl rfl
  case hkn => exact ⟨fun q hq => by rw [List.mem_singleton.mp hq]; exact ⟨hl, S.notTab hl (by nofun), F.zl⟩, by exact nd1⟩
  intro L h₁ t₁ j mv₁
  have nL := F.off (I := L) j.neL
  have xL := nL.2.2.2.1
  have dL := nL.2.2.2.2
  have lL := nL.2.2.1
  have rr := r.deeper (env := envX "_ValueFormatter._append_chunk" (fScope (inCls 11 8)) L 130 (.ref 129) [])
  have F₁ := F.mv0 S mv₁
  refine wpAny_execs_cons (qcut fun Q1 hQ1 => wpAny_Expr (MethodCall_ (Attribute_name ?_)))
  refine j_local (s := { s with heap := h₁, toks := t₁ }) j rfl ?_
  refine f_line (s := { s with heap := h₁, toks := t₁ }) V G j.mv.st F₁ fun t₂ => ?_
  refine acc_meth (s := { s with heap := h₁, toks := t₂ }) G X j.mv.st F₁.acc X.fPush (X.keep 161 (by decide)).2 ?_
  refine j_callWith (X.keep 161 (by decide)).1 (args_cons ?_)
  refine j_local (s := { s with heap := h₁, toks := t₂ }) j rfl (args_cons ?_)
  refine j_local (s := { s with heap := h₁, toks := t₂ }) j rfl (args_nil ⟨j.mv.st.In G, wpAny_call ?_⟩)
  refine push_acc (s := { s with heap := h₁, toks := t₂ }) G X j.mv.st (rr.mono (by decide)) (fun t ht => hPk t (none_back mv₁ ht)) F₁.acc F.zx (by exact Nat.le_succ_of_le hpsl) fun h₂ t₃ mv₂ a₂ => ?_
  replace a₂ : Acc Pk w h₂ x d (ps ++ [p]) nn := a₂
  have j₂ := j.callK mv₂ (by exact ni1 xL) (by exact al1 (.inl m2)) (by exact al1 (ni1 F.ne7))
  have F₂ := F₁.line j.mv.st mv₂ (by exact al1 (.inl rfl)) a₂
  subst hQ1
  refine wpAny_execs_cons (qcut fun Q2 hQ2 => wpAny_If (wpAny_isTrue_Compare1 (Call_ ?_)))
  refine j_builtin (s := { s with heap := h₂, toks := t₃ }) G j₂ GM.len boot_len ?_
  refine callWith_method1 (first := []) (args_cons (Attribute_name ?_))
  refine j_local (s := { s with heap := h₂, toks := t₃ }) j₂ rfl ?_
  refine f_line (s := { s with heap := h₂, toks := t₃ }) V G j₂.mv.st F₂ fun t₄ => args_nil ?_
  refine a_len (s := { s with heap := h₂, toks := t₄ }) G X GM j₂.mv.st (rr.mono (by decide)) hT F₂.acc hz (by lia) (by lia) fun s₃ t₅ mv₃ ok₃ => ?_
  have j₃ : J T g [l, x, d] s.heap L s₃.heap _ _ := j₂.call0 mv₃
  have F₃ := F₂.mv0 j₂.mv.st mv₃
  have ok₃' : Ok s s₃ := ⟨ok₃.1, ok₃.2⟩
  refine Attribute_name (j_local (s := s₃) j₃ rfl ?_)
  refine f_max (s := s₃) V G j₃.mv.st F₃ fun t₆ t₇ => gt_int' (wpAny_truthy_bool ?_)
  by_cases hw : (nn : Int) + plen (ps ++ [p]) > width
  · rw [show decide ((nn : Int) + plen (ps ++ [p]) > width) = true from decide_eq_true hw, if_pos rfl]
    refine wpAny_execs_cons (qcut fun Q3 hQ3 => wpAny_For (Attribute_name ?_))
    refine j_local (s := { s₃ with toks := t₇ }) j₃ rfl ?_
    refine f_split (s := { s₃ with toks := t₇ }) V G j₃.mv.st F₃ fun ts t₈ => ?_
    refine wpAny_pyIter_ascii (by decide +kernel) ?_
    have j₄ := j₃.push { cls := .type "str_ascii_iterator", data := .fields #[.str " " ts, .int 0 0] } rfl
    have nI : s.heap.get? s₃.heap.objs.size = none := j₃.new
    have mv₄ := Mv.push j₃.mv.st { cls := .type "str_ascii_iterator", data := .fields #[.str " " ts, .int 0 0] }
    have hI : s₃.heap.objs.size ≤ s₃.heap.objs.size := Nat.le_refl _
    revert j₄ nI mv₄ hI
    generalize s₃.heap.push _ = h₄
    generalize hId : s₃.heap.objs.size = I
    intro j₄ nI mv₄ hI
    have F₄ := F₃.mv0 j₃.mv.st mv₄
    have nF : ∀ {b o}, s₃.heap.get? b = some o → b ≠ I := fun e => by rw [← hId]; exact Nat.ne_of_lt (Heap.lt_size e)
    have nI3 := F₃.off nF
    refine for_turn ?_
    refine wpAny_pyNext_ascii_item (s := { s₃ with heap := h₄, toks := t₈ }) (x := " ") (t := ts) (i := 0) (c := 32) ⟨_, j₄.get (.head _), rfl, rfl⟩ (by decide +kernel) fun h₅ hit₅ sb₅ => ?_
    obtain ⟨o₅, e₅, c₅, d₅⟩ := hit₅
    obtain ⟨j₅, mv₅⟩ := j₄.iter 0 rfl (.inr nI) (by rintro ⟨q, _⟩; simp at q) sb₅ e₅
    have F₅ := F₄.out j₄.mv.st mv₅ (by exact al1 nI3)
    refine wpAny_of_eq rfl ?_
    refine wpAny_assign_Name ?_
    refine j_storeK (s := { s₃ with heap := h₅, toks := t₈ + 1 }) j₅ fun h₆ t₉ j₆ mv₆ => ?_
    have F₆ := F₅.out j₅.mv.st mv₆ (by exact al1 nL)
    refine wpAny_execs_cons (qcut fun Q4 hQ4 => wpAny_For (Call_ ?_))
    refine j_builtin (s := { s₃ with heap := h₆, toks := t₉ }) G j₆ GM.range boot_range' ?_
    refine PyProof.Rows.callWith_type1 (args_cons (wpAny_BinOp (MethodCall_ (Attribute_name ?_))))
    refine j_local (s := { s₃ with heap := h₆, toks := t₉ }) j₆ rfl ?_
    refine f_line (s := { s₃ with heap := h₆, toks := t₉ }) V G j₆.mv.st F₆ fun t₁₀ => ?_
    refine acc_meth (s := { s₃ with heap := h₆, toks := t₁₀ }) G X j₆.mv.st F₆.acc X.fCount (X.keep 214 (by decide)).2 ?_
    refine j_callWith0 (s := { s₃ with heap := h₆, toks := t₁₀ }) G j₆.mv.st (X.keep 214 (by decide)).1 (wpAny_call ?_)
    refine count_acc (s := { s₃ with heap := h₆, toks := t₁₀ }) G X j₆.mv.st (rr.mono (by decide)) F₆.acc fun h₇ t₁₁ t₁₂ mv₇ => ?_
    have j₇ := j₆.call0 mv₇
    have F₇ := F₆.mv0 j₆.mv.st mv₇
    refine wpAny_Constant_int (PySem.P.sub_int ?_)
    refine args_cons (wpAny_Constant_int (args_cons ?_))
    refine wpAny_UnaryOp (wpAny_Constant_int (PySem.P.neg_int (args_nil ?_)))
    dsimp only
    rw [show (((ps ++ [p]).length : Int) - 1) = (ps.length : Int) from by simp]
    show wpAny _ _ (call (.type "range") [.int (ps.length : Int) _, .int 0 _, .int (-1) _]) _ _ _
    refine call_range_3 (by decide) ?_ (.inl (PyProof.noPylong_small (by exact Nat.le_add_left _ _)))
    generalize hrg : ({ cls := .type "range", data := .fields #[.int (ps.length : Int) _, .int 0 _, .int (-1) _] } : Obj) = rg
    have nR : s.heap.get? h₇.objs.size = none := j₇.new
    have j₈ := j₇.push rg (by rw [← hrg]; rfl)
    have mv₈ := Mv.push j₇.mv.st rg
    have F₈ := F₇.mv0 j₇.mv.st mv₈
    have e₈ : (h₇.push rg).get? h₇.objs.size = some rg := j₈.get (.head _)
    rw [← hrg] at e₈
    refine wpAny_pyIter_range (by rw [← hrg]; exact e₈) (rsmall _ (by exact Nat.le_trans (by assumption) (by decide))) ?_
    have j₉ := j₈.push { cls := .type "range_iterator", data := .fields #[rawInt (ps.length : Int), rawInt (Builtin.Range.rangeSize (ps.length : Int) 0 (-1)), rawInt (-1)] } rfl
    have mv₉ := Mv.push j₈.mv.st { cls := .type "range_iterator", data := .fields #[rawInt (ps.length : Int), rawInt (Builtin.Range.rangeSize (ps.length : Int) 0 (-1)), rawInt (-1)] }
    have nJ : s.heap.get? (h₇.push rg).objs.size = none := j₈.new
    have F₉ := F₈.mv0 j₈.mv.st mv₉
    rw [rsize] at j₉ mv₉ F₉ ⊢
    dsimp only
    have klt : ∀ p ∈ [((h₇.objs.size : Addr), rg), (I, o₅), (l, ({ cls := .type "list", data := .seq its ep } : Obj))], p.1 < (h₇.push rg).objs.size := fun p hp => Heap.lt_size (j₈.has p hp).1
    have Llt : L < (h₇.push rg).objs.size := by
      obtain ⟨_, _, _, e, _⟩ := j₈.ns
      exact Heap.lt_size e
    have nF₈ : ∀ {b o}, (h₇.push rg).get? b = some o → b ≠ (h₇.push rg).objs.size := fun e => Nat.ne_of_lt (Heap.lt_size e)
    generalize h₇.push rg = h₈ at *
    generalize h₈.push _ = h₉ at *
    by_cases hps : ps = []
    · subst hps
      refine for_turn ?_
      refine wpAny_pyNext_range_end (s := { s₃ with heap := h₉, toks := _ }) (x := 0) (left := 0) (step := -1) rr.h (j₉.get (.head _)) (by decide) fun h₁₀ ex₁₀ => ?_
      obtain ⟨j₁₀, kp₁₀⟩ := J.used (s := { s₃ with heap := h₈ }) (s₁ := { s₃ with heap := h₉ }) j₈ j₉ (Nat.le_refl _) klt (by rintro ⟨q, _⟩; simp at q) ex₁₀ Llt
      have F₁₀ := F₉.kp j₉.mv.st kp₁₀ (by exact al1 (F₈.off nF₈))
      refine wpAny_execs_cons (wpAny_Continue ?_)
      subst hQ4
      refine for_turn ?_
      have j₁₁ := j₁₀.sub (List.sublist_cons_self _ _)
      refine wpAny_pyNext_ascii_end (s := { s₃ with heap := h₁₀, toks := _ }) (x := " ") (t := ts) (i := 1) rr.h ⟨_, j₁₁.get (.head _), c₅, d₅⟩ (by decide +kernel) fun h₁₂ ex₁₂ => ?_
      obtain ⟨j₁₂, kp₁₂⟩ := J.used (s := s₃) (s₁ := { s₃ with heap := h₁₀ }) j₃ j₁₁ (Nat.le_of_eq hId) (fun p hp => Heap.lt_size (j₃.has p hp).1) (by rintro ⟨q, _⟩; rw [c₅] at q; simp at q) ex₁₂ (by obtain ⟨_, _, _, e, _⟩ := j₃.ns; exact Heap.lt_size e)
      have F₁₂ := F₁₀.kp j₁₁.mv.st kp₁₂ (by exact al1 nI3)
      refine wpAny_execs_cons (qcut fun Q5 hQ5 => Assign_Tuple (MethodCall_ (Attribute_name ?_)))
      refine j_local (s := { s₃ with heap := h₁₂, toks := _ }) j₁₂ rfl ?_
      refine f_line (s := { s₃ with heap := h₁₂, toks := _ }) V G j₁₂.mv.st F₁₂ fun t₁₃ => ?_
      refine acc_meth (s := { s₃ with heap := h₁₂, toks := t₁₃ }) G X j₁₂.mv.st F₁₂.acc X.fPop (X.keep 177 (by decide)).2 ?_
      refine j_callWith0 (s := { s₃ with heap := h₁₂, toks := t₁₃ }) G j₁₂.mv.st (X.keep 177 (by decide)).1 (wpAny_call ?_)
      refine pop_acc (s := { s₃ with heap := h₁₂, toks := t₁₃ }) (ps := []) (p := p) G X j₁₂.mv.st (rr.mono (by decide)) F₁₂.acc F.zx (by simp) fun v h₁₃ t₁₄ mv₁₃ a₁₃ ip => ?_
      have j₁₃ := j₁₂.callK mv₁₃ (by exact ni1 xL) (by exact al1 (.inl m2)) (by exact al1 (ni1 F.ne7))
      have F₁₃ := F₁₂.line j₁₂.mv.st mv₁₃ (by exact al1 (.inl rfl)) a₁₃
      obtain ⟨t, ta', tb', rfl, ht⟩ := ip
      refine wpAny_assign_Tuple (s := { s₃ with heap := h₁₃, toks := t₁₄ }) rr.h ⟨_, ht, rfl, 0, rfl⟩ (by rfl) (by rfl) fun h₁₄ ex₁₄ => ?_
      obtain ⟨j₁₄, mv₁₄⟩ := j₁₃.keepsL fun b o e => ex₁₄ b o (Nat.ne_of_lt (Heap.lt_size e)) e
      have F₁₄ := F₁₃.mv0 j₁₃.mv.st mv₁₄
      refine wpAny_bind (wpAny_holding (wpAny_assign_Name ?_))
      refine j_storeK (s := { s₃ with heap := h₁₄, toks := t₁₄ }) j₁₄ fun h₁₅ t₁₅ j₁₅ mv₁₅ => ?_
      have F₁₅ := F₁₄.out j₁₄.mv.st mv₁₅ (by exact al1 nL)
      refine wpAny_bind (wpAny_holding (wpAny_assign_Name ?_))
      refine j_storeK (s := { s₃ with heap := h₁₅, toks := t₁₅ }) j₁₅ fun h₁₆ t₁₆ j₁₆ mv₁₆ => ?_
      have F₁₆ := F₁₅.out j₁₅.mv.st mv₁₆ (by exact al1 nL)
      refine wpAny_pure ?_
      subst hQ5
      dsimp only
      refine wpAny_execs_cons (qcut fun Q6 hQ6 => wpAny_If (wpAny_isTrue_Compare1 (Attribute_any_ (Attribute_name ?_))))
      refine j_local (s := { s₃ with heap := h₁₆, toks := t₁₆ }) j₁₆ rfl ?_
      refine f_line (s := { s₃ with heap := h₁₆, toks := t₁₆ }) V G j₁₆.mv.st F₁₆ fun t₁₇ => ?_
      refine acc_size (s := { s₃ with heap := h₁₆, toks := t₁₇ }) G X j₁₆.mv.st F₁₆.acc fun tn₁₈ t₁₈ => ?_
      refine wpAny_Constant_int (gt_int' (wpAny_truthy_bool ?_))
      rw [show decide ((nn : Int) > 0) = true from decide_eq_true (ltnat (hnn rfl)), if_pos rfl]
      have j₁₆' := j₁₆.sub (List.nil_sublist _)
      refine xc fun _ hk => wpAny_Expr (MethodCall_ ?_)
      refine j_local (s := { s₃ with heap := h₁₆, toks := t₁₈ + 1 }) j₁₆' rfl ?_
      refine f_meth (s := { s₃ with heap := h₁₆, toks := t₁₈ + 1 }) V G j₁₆'.mv.st F₁₆ V.fNewline (V.keep 95 (by decide)).2 (by intros; rfl) ?_
      refine j_callWith0 (s := { s₃ with heap := h₁₆, toks := t₁₈ + 1 }) G j₁₆'.mv.st (V.keep 95 (by decide)).1 (wpAny_call ?_)
      refine newline_spec (p := ("", "")) (ps := []) (.inr ⟨rfl, rfl, rfl⟩) (s := { s₃ with heap := h₁₆, toks := t₁₈ + 1 }) V X X2 G GM j₁₆'.mv.st (rr.mono (by decide)) (fun t ht => hPk t (none_back j₁₆'.mv ht)) hT hT2 F₁₆ ⟨by decide +kernel, by decide⟩ (Int.natCast_nonneg _) (lenat (Nat.le_trans hn1 (by decide))) hll (by decide +kernel) (by unfold onlyB; rw [show ((nn : Int) == 0) = false from beq_eq_false_iff_ne.mpr (Int.ne_of_gt (ltnat (hnn rfl)))]; rfl) (Int.add_pos_of_pos_of_nonneg (ltnat (hnn rfl)) (by decide +kernel)) (by decide +kernel) fun s₁₇ mv₁₇ ok₁₇ F₁₇ => ?_
      have j₁₇ : J T g [l, x, d] s.heap L s₁₇.heap _ [] := j₁₆'.callK mv₁₇ (by exact ni3 lL xL dL) (by exact al3 (.inl m1) (.inl m2) (.inl m3)) (by exact al0)
      refine hk s₁₇ ?_
      refine xc fun _ hk => ?_
      refine wpAny_mono (Q := fun fl s' => fl = .next ∧ ∃ h' tk tf m', s' = { s₁₇ with heap := h', toks := tk } ∧ J T g [l, x, d] s.heap L h' m' [] ∧ m' "self" = some (.ref f) ∧ m' "fws" = some (.str (if p.1 = "" then (" " : Str) else p.1) tf) ∧ m' "part" = some (.str p.2 tb') ∧ Mv T g [L] s₁₇.heap h') (wpAny_If (isTrue_not (wpAny_isTrue_value (j_local (s := s₁₇) j₁₇ rfl (PySem.P.truthy_str ?_ ?_))))) ?_ fun _ _ f => f
      · have := hz.1
        simp at this
        lia
      · by_cases hp : p.1 = ""
        · rw [hp, if_pos (by decide +kernel)]
          refine wpAny_execs_cons (wpAny_Assign_Name (Constant_str ?_))
          refine j_storeK (s := { s₁₇ with toks := _ }) j₁₇ fun h₁₈ t₁₈' j₁₈ mv₁₈ => ?_
          exact wpAny_execs_nil ⟨rfl, h₁₈, t₁₈', _, _, rfl, j₁₈, rfl, by rw [if_pos rfl]; rfl, rfl, mv₁₈⟩
        · rw [if_neg (by have := len_ne hp; simpa using this)]
          exact wpAny_execs_nil ⟨rfl, s₁₇.heap, _, _, _, rfl, j₁₇, rfl, by rw [if_neg hp]; rfl, rfl, Mv.refl j₁₇.mv.st⟩
      rintro _ _ ⟨rfl, h₁₈, t₁₉, tf, m', rfl, j₁₈, hm1, hm2, hm3, mv₁₈⟩
      have F₁₈ := F₁₇.out j₁₇.mv.st mv₁₈ (by exact al1 nL)
      refine hk _ (wpAny_execs_nil ?_)
      subst hQ6
      refine wpAny_execs_cons (qcut fun Q7 hQ7 => wpAny_Expr (MethodCall_ (Attribute_name ?_)))
      refine j_local (s := { s₁₇ with heap := h₁₈, toks := t₁₉ }) j₁₈ hm1 ?_
      refine f_line (s := { s₁₇ with heap := h₁₈, toks := t₁₉ }) V G j₁₈.mv.st F₁₈ fun t₂₀ => ?_
      refine acc_meth (s := { s₁₇ with heap := h₁₈, toks := t₂₀ }) G X j₁₈.mv.st F₁₈.acc X.fPush (X.keep 161 (by decide)).2 ?_
      refine j_callWith (X.keep 161 (by decide)).1 (args_cons ?_)
      refine j_local (s := { s₁₇ with heap := h₁₈, toks := t₂₀ }) j₁₈ hm2 (args_cons ?_)
      refine j_local (s := { s₁₇ with heap := h₁₈, toks := t₂₀ }) j₁₈ hm3 (args_nil ⟨j₁₈.mv.st.In G, wpAny_call ?_⟩)
      refine push_acc (s := { s₁₇ with heap := h₁₈, toks := t₂₀ }) G X j₁₈.mv.st (rr.mono (by decide)) (fun t ht => hPk t (none_back j₁₈.mv ht)) F₁₈.acc F.zx (by simp) fun h₁₉ t₂₁ mv₁₉ a₁₉ => ?_
      have j₁₉ := j₁₈.callK mv₁₉ (by exact ni1 xL) (by exact al1 (.inl m2)) (by exact al0)
      have F₁₉ := F₁₈.line j₁₈.mv.st mv₁₉ (by exact al1 (.inl rfl)) a₁₉
      subst hQ7
      refine wpAny_execs_cons (wpAny_Return_none ?_)
      subst hQ3 hQ2
      refine hR _ j₁₉.mv ⟨ok₁₇.1.trans ok₃'.1, fun a => ok₁₇.2 (ok₃'.2 a)⟩ ?_
      unfold chunkG
      rw [if_pos hw, if_pos rfl]
      exact F₁₉
    · have hpl : 0 < ps.length := List.length_pos_iff.mpr hps
      have lp := lead_at (hpp hps)
      refine for_turn ?_
      refine wpAny_pyNext_range_item (s := { s₃ with heap := h₉, toks := _ }) (x := (ps.length : Int)) (left := (ps.length : Int)) (step := -1) (j₉.get (.head _)) (by exact ltnat hpl) fun h₁₀ hit₁₀ sb₁₀ => ?_
      obtain ⟨j₁₀, mv₁₀⟩ := j₉.iter 0 rfl (.inr nJ) (by rintro ⟨q, _⟩; simp at q) sb₁₀ hit₁₀
      have F₁₀ := F₉.out j₉.mv.st mv₁₀ (by exact al1 (F₈.off nF₈))
      refine wpAny_of_eq rfl ?_
      refine wpAny_assign_Name ?_
      refine j_storeK (s := { s₃ with heap := h₁₀, toks := _ }) j₁₀ fun h₁₁ t₁₁' j₁₁ mv₁₁ => ?_
      have F₁₁ := F₁₀.out j₁₀.mv.st mv₁₁ (by exact al1 nL)
      refine wpAny_execs_cons (qcut fun Q8 hQ8 => wpAny_If (wpAny_isTrue_value (MethodCall_ ?_)))
      refine j_local (s := { s₃ with heap := h₁₁, toks := t₁₁' }) j₁₁ rfl ?_
      refine s_meth PySem.F.slot_str_isspace PySem.F.type_str_isspace (callWith_method0 (SC.isspace (wpAny_truthy_bool ?_)))
      rw [show Txt.isspace ⟨#[32]⟩ = true from by decide +kernel, if_pos rfl]
      refine wpAny_execs_cons (qcut fun Q9 hQ9 => wpAny_Assign_Name (Subscript_ (Subscript_ (Attribute_name ?_))))
      refine j_local (s := { s₃ with heap := h₁₁, toks := t₁₁' }) j₁₁ rfl ?_
      refine f_line (s := { s₃ with heap := h₁₁, toks := t₁₁' }) V G j₁₁.mv.st F₁₁ fun t₁₃ => ?_
      refine j_local (s := { s₃ with heap := h₁₁, toks := t₁₃ }) j₁₁ rfl ?_
      obtain ⟨itx, epx, tkx, tnx, ax, px⟩ := F₁₁.acc
      obtain ⟨v₁, q₁, ev₁, eq₁, ip₁⟩ := All2.get px ps.length (by rw [px.len]; simp)
      have eq₁' : q₁ = p := by
        rw [List.getElem?_append_right (Nat.le_refl _), Nat.sub_self] at eq₁
        exact (Option.some.inj eq₁).symm
      rw [eq₁'] at ip₁
      obtain ⟨tt, tta, ttb, rfl, htt⟩ := ip₁
      refine a_sub (s := { s₃ with heap := h₁₁, toks := t₁₃ }) G X j₁₁.mv.st ax ?_ (.inl rfl)
      refine list_getInt (s := { s₃ with heap := h₁₁, toks := t₁₃ }) (LstAt.acc (j₁₁.mv.st.In G) X.supC.lst ax.o) (by exact Int.natCast_nonneg _) (by lia) (by rw [Int.toNat_natCast, ← Array.getElem?_toList]; exact ev₁) ?_
      refine wpAny_Constant_int ?_
      refine subTail_builtin (s := { s₃ with heap := h₁₁, toks := t₁₃ + 1 }) (T := "tuple") ⟨_, htt, rfl⟩ PySem.F.slot_tuple_getitem.lookup (PyProof.Rows.getItem_tuple (s := { s₃ with heap := h₁₁, toks := t₁₃ + 1 }) ⟨_, htt, rfl, 0, rfl⟩ (by decide) (by decide) (j := 0) (by rfl) rfl ?_) (.inl rfl)
      refine j_storeK (s := { s₃ with heap := h₁₁, toks := t₁₃ + 1 }) j₁₁ fun h₁₂ t₁₄ j₁₂ mv₁₂ => ?_
      have F₁₂ := F₁₁.out j₁₁.mv.st mv₁₂ (by exact al1 nL)
      subst hQ9
      dsimp only
      refine wpAny_execs_cons (qcut fun Q10 hQ10 => wpAny_If (wpAny_isTrue_BoolOp (wpAny_allTrue_And_cons (wpAny_isTrue_value ?_))))
      refine j_local (s := { s₃ with heap := h₁₂, toks := t₁₄ }) j₁₂ rfl ?_
      refine PySem.W.KXt.truthy_pos (K := 2) lp.1 lp.2.1 (by decide) fun t₁₅ => ?_
      rw [if_pos rfl]
      refine wpAny_allTrue_And_cons (wpAny_isTrue_Compare1 (Subscript_ ?_))
      refine j_local (s := { s₃ with heap := h₁₂, toks := t₁₅ }) j₁₂ rfl (wpAny_Constant_int ?_)
      refine subTail_builtin (T := "str") (typeIs_str _ _ _) PySem.F.slot_str_getitem.lookup (PySem.P.getItem_str (c := 32) (by decide) lp.2.2 ?_) (.inl rfl)
      refine j_local (s := { s₃ with heap := h₁₂, toks := _ }) j₁₂ rfl ?_
      refine PySem.P.eq_str (wpAny_truthy_bool ?_)
      rw [show (((⟨#[32]⟩ : Str).cps.toList == (⟨#[32]⟩ : Str).cps.toList)) = true from by decide, if_pos rfl]
      refine wpAny_allTrue_And_nil ?_
      rw [if_pos rfl]
      refine wpAny_execs_cons (wpAny_Break ?_)
      subst hQ10 hQ8 hQ4
      refine wpAny_execs_cons (wpAny_Break ?_)
      subst hQ3
      have j₁₃ := j₁₂.sub ((List.sublist_cons_self _ _).trans ((List.sublist_cons_self _ _).trans (List.sublist_cons_self _ _)) : [(l, ({ cls := .type "list", data := .seq its ep } : Obj))].Sublist _)
      refine wpAny_execs_cons (qcut fun Q11 hQ11 => wpAny_Assign_Name (MethodCall_ (Attribute_name ?_)))
      refine j_local (s := { s₃ with heap := h₁₂, toks := _ }) j₁₃ rfl ?_
      refine f_line (s := { s₃ with heap := h₁₂, toks := _ }) V G j₁₃.mv.st F₁₂ fun t₁₆ => ?_
      refine acc_meth (s := { s₃ with heap := h₁₂, toks := t₁₆ }) G X j₁₃.mv.st F₁₂.acc X.fPopf (X.keep 169 (by decide)).2 ?_
      refine j_callWith (X.keep 169 (by decide)).1 (args_cons ?_)
      refine j_local (s := { s₃ with heap := h₁₂, toks := t₁₆ }) j₁₃ rfl (args_nil ⟨j₁₃.mv.st.In G, wpAny_call ?_⟩)
      refine popf_spec (s := { s₃ with heap := h₁₂, toks := t₁₆ }) (k := ps.length) G X j₁₃.mv.st (rr.mono (by decide)) F₁₂.acc F.zx hz.2 (bind_popf1 X (j₁₃.mv.st.In G) _ _ _) fun lr h₁₃ t₁₇ mv₁₃ a₁₃ pl₁₃ nl₁₃ gl₁₃ => ?_
      rw [List.take_left' rfl] at a₁₃
      rw [List.drop_left' rfl] at pl₁₃
      have lrL : lr ≠ L := by
        rintro rfl
        obtain ⟨_, _, _, e, _⟩ := j₁₃.ns
        rw [e] at nl₁₃
        cases nl₁₃
      have lrl : lr ≠ l := by
        rintro rfl
        have e := j₁₃.get (.head _)
        rw [e] at nl₁₃
        cases nl₁₃
      have j₁₄ := j₁₃.callK mv₁₃ (by exact ni1 xL) (by exact al1 (.inl m2)) (by exact al1 (ni1 F.ne7))
      have F₁₄ := F₁₂.line j₁₃.mv.st mv₁₃ (by exact al1 (.inl rfl)) a₁₃
      refine j_storeK (s := { s₃ with heap := h₁₃, toks := t₁₇ }) j₁₄ fun h₁₅ t₁₈ j₁₅ mv₁₅ => ?_
      have F₁₅ := F₁₄.out j₁₄.mv.st mv₁₅ (by exact al1 nL)
      have pl₁₅ := pl₁₃.mv j₁₄.mv.st mv₁₅ (by exact ni1 lrL)
      subst hQ11
      dsimp only
      refine wpAny_execs_cons (qcut fun Q12 hQ12 => wpAny_Expr (MethodCall_ (Attribute_name ?_)))
      refine j_local (s := { s₃ with heap := h₁₅, toks := t₁₈ }) j₁₅ rfl ?_
      refine f_lines (s := { s₃ with heap := h₁₅, toks := t₁₈ }) V G j₁₅.mv.st F₁₅ fun t₁₉ => ?_
      refine getMethod_list_append (s := { s₃ with heap := h₁₅, toks := t₁₉ }) (j₁₅.get (.head _)) rfl rfl ?_
      refine callWith_method1 (args_cons (Call_ ?_))
      refine j_builtin (s := { s₃ with heap := h₁₅, toks := t₁₉ }) G j₁₅ GM.str boot_str ?_
      refine PyProof.Rows.callWith_type1 (args_cons (Attribute_name ?_))
      refine j_local (s := { s₃ with heap := h₁₅, toks := t₁₉ }) j₁₅ rfl ?_
      refine f_line (s := { s₃ with heap := h₁₅, toks := t₁₉ }) V G j₁₅.mv.st F₁₅ fun t₂₀ => args_nil ?_
      refine a_strcall (s := { s₃ with heap := h₁₅, toks := t₂₀ }) G X GM j₁₅.mv.st (rr.mono (by decide)) hT2 F₁₅.acc (hz.left) fun s₁₆ t₂₁ mv₁₆ ok₁₆ => args_nil ?_
      have j₁₆ : J T g [l, x, d] s.heap L s₁₆.heap _ _ := j₁₅.call0 mv₁₆
      have F₁₆ := F₁₅.mv0 j₁₅.mv.st mv₁₆
      have pl₁₆ := pl₁₅.mv j₁₅.mv.st mv₁₆ (by exact ni0)
      have ok₁₆' : Ok s s₁₆ := ⟨ok₁₆.1.trans ok₃'.1, fun a => ok₁₆.2 (ok₃'.2 a)⟩
      have hil : its.size = lines.length := by rw [← StrsAre.len hli, Array.length_toList]
      refine list_append_any (LstAt.exact (j₁₆.get (.head _))) (by rw [sizeLine_eq]; lia) ?_
      obtain ⟨ep', ee⟩ := mapSeq_lst its (its.push (.str (ptext ps) t₂₁)) ep (·.push (.str (ptext ps) t₂₁)) rfl
      have j₁₇ := j₁₆.update 0 rfl (.inl (by exact m1)) (by exact tnL) ee rfl
      have mv₁₇ := j₁₆.updMv (.head _) (by exact tnL) ee rfl
      revert j₁₇ mv₁₇
      generalize s₁₆.heap.update l _ = h₁₇
      intro j₁₇ mv₁₇
      have F₁₇ : FmtAt Pk w g h₁₇ f df l x d width (lines ++ [ptext ps]) ps nn :=
        F₁₆.all j₁₆.mv.st mv₁₇ (by exact al1 (.inl rfl)) ⟨_, _, j₁₇.get (.head _), by rw [Array.toList_push]; exact strs_snoc hli⟩ (F₁₆.acc.mv j₁₆.mv.st mv₁₇ (by exact ni1 F.ne7.symm) (by exact ni1 F.ne8.symm))
      have pl₁₇ := pl₁₆.mv j₁₆.mv.st mv₁₇ (by exact ni1 lrl)
      subst hQ12
      show wpAny _ _ (execs _ _) _ _ _
      refine wpAny_execs_cons (qcut fun Q13 hQ13 => wpAny_Expr (MethodCall_ (Attribute_name ?_)))
      refine j_local (s := { s₁₆ with heap := h₁₇ }) j₁₇ rfl ?_
      refine f_line (s := { s₁₆ with heap := h₁₇ }) V G j₁₇.mv.st F₁₇ fun t₂₂ => ?_
      refine acc_meth (s := { s₁₆ with heap := h₁₇, toks := t₂₂ }) G X j₁₇.mv.st F₁₇.acc X.fReset (X.keep 199 (by decide)).2 ?_
      refine j_callWith (X.keep 199 (by decide)).1 (args_cons ?_)
      refine j_local (s := { s₁₆ with heap := h₁₇, toks := t₂₂ }) j₁₇ rfl (args_nil ⟨j₁₇.mv.st.In G, wpAny_call ?_⟩)
      refine reset_spec (s := { s₁₆ with heap := h₁₇, toks := t₂₂ }) (qs := [p]) (v := .ref lr) G X j₁₇.mv.st (rr.mono (by decide)) F₁₇.acc F.zx F.zd (by exact Nat.le_succ_of_le hpsl) (by simp) (.inr ⟨lr, rfl, pl₁₇, gl₁₃⟩) (bind_reset1 X (j₁₇.mv.st.In G) x lr) fun h₁₈ t₂₃ mv₁₈ a₁₈ => ?_
      have j₁₈ := j₁₇.callK mv₁₈ (by exact ni2 xL dL) (by exact al2 (.inl m2) (.inl m3)) (by simp [F.ne7, F.ne8])
      have F₁₈ := F₁₇.line j₁₇.mv.st mv₁₈ (by exact al2 (.inl rfl) (.inr rfl)) a₁₈
      subst hQ13
      refine wpAny_execs_nil ?_
      subst hQ2
      refine wpAny_execs_nil (hR _ j₁₈.mv ⟨ok₁₆'.1, ok₁₆'.2⟩ ?_)
      unfold chunkG
      rw [if_pos hw, if_neg hps]
      exact F₁₈
  · rw [show decide ((nn : Int) + plen (ps ++ [p]) > width) = false from decide_eq_false hw, if_neg (by decide)]
    refine wpAny_execs_nil ?_
    subst hQ2
    show wpAny _ _ (execs [] _) _ _ _
    refine wpAny_execs_nil (hR _ j₃.mv ⟨ok₃'.1, ok₃'.2⟩ ?_)
    unfold chunkG
    rw [if_neg hw]
    exact F₃
end
end Mine
end
section
open PySem PySem.Sre
namespace Mine
noncomputable def cS : Array Nat := #[14, 4, 0, 1, 4294967295, 17, 0, 24, 11, 1, 4294967295, 13, 6, 16, 32, 16, 9, 0, 1, 17, 1, 1]
noncomputable def mg (text : Array Nat) (lim : Nat) (sn : Seen) (ma : Bool) (start pc pos handed : Nat) (outer : Bool) (x y : Option Nat) (lm li : Int) (frames : List Sre.Frame) (weight : Nat) (answer : Option Bool) (outcome : Option Sre.Outcome) : M :=
  { code := cS, text, lim, start, lastStart := lim, wholeText := false, mustAdvance := ma, pc, pos, handed, outermost := outer, marks := #[x, y], lastmark := lm, lastindex := li, loops := #[], inner := none, frames, weight, answer, seen := sn, outcome }
noncomputable def HitG (s e : Nat) (m : M) : Prop := (m.outcome = some .matched ∧ m.start = s ∧ m.handed = e) ∧ m.lastmark = 1 ∧ m.marks = #[some s, some e]
noncomputable def isB (c : Nat) : Bool := c == 32 || c == 9
section
variable {text : Array Nat} {lim s pos n : Nat} {sn : Seen} {ma : Bool} {P : M → Prop}
theorem accS (c : Nat) (sn : Seen) : ∃ sn', accepts cS 11 c sn = .ok (isB c, sn') := by
  have e : accepts cS 11 c sn = if c == 32 then .ok (true, sn.add 16) else if c == 9 then .ok (true, (sn.add 16).add 16) else .ok (false, ((sn.add 16).add 16).add 0) := by rfl
  rw [e]
  unfold isB
  cases h1 : c == 32
  · cases h2 : c == 9
    · exact ⟨_, rfl⟩
    · exact ⟨_, rfl⟩
  · exact ⟨_, rfl⟩
noncomputable def blk (text : Array Nat) : Nat → Nat → Nat
  | 0, _ => 0
  | n + 1, p => if isB (text.getD p 0) then blk text n (p + 1) + 1 else 0
theorem runS : ∀ (n p found : Nat) (sn : Seen), ∃ sn', Sre.run cS text 11 n p found sn = .ok (found + blk text n p, sn') := by
  intro n
  induction n with
  | zero => intro p found sn; exact ⟨sn, rfl⟩
  | succ n ih =>
    intro p found sn
    obtain ⟨sn', e⟩ := accS (text.getD p 0) sn
    unfold Sre.run
    rw [e]
    show ∃ sn'', (if isB (text.getD p 0) = true then Sre.run cS text 11 n (p + 1) (found + 1) sn' else .ok (found, sn')) = _
    unfold blk
    split
    · obtain ⟨sn2, e2⟩ := ih (p + 1) (found + 1) sn'
      exact ⟨sn2, by rw [e2, Nat.add_right_comm]; rfl⟩
    · exact ⟨_, rfl⟩
noncomputable def findB (text : Array Nat) (lim : Nat) : Nat → Nat → Option (Nat × Nat)
  | 0, _ => none
  | k + 1, s => if s ≥ lim then none else if isB (text.getD s 0) then some (s, s + blk text (lim - s) s) else findB text lim k (s + 1)
noncomputable abbrev fg (s n : Nat) (first : Bool) : Sre.Frame := { wait := .giveBack, pc := 7, pos := s + n, outermost := first, count := (n : Int), kept := { lastmark := 0, lastindex := -1, whole := false, marks := #[] } }
theorem step_rep {x y : Option Nat} {first : Bool} (h : Nat) : M.step (mg text lim sn ma s 7 s h first x y 0 (-1) [f0 5 s first] 1 none none) =
    if ((1 : Nat) : Int) > (lim : Int) - (s : Int) then mg text lim (sn.add 24) ma s 7 s h first x y 0 (-1) [f0 5 s first] 1 (some false) none
    else match Sre.run cS text 11 (min 4294967295 ((lim : Int) - (s : Int)).toNat) s 0 ((sn.add 24).add 13) with
      | .error why => (mg text lim (sn.add 24) ma s 7 s h first x y 0 (-1) [f0 5 s first] 1 none none).stick why
      | .ok (n, seen) => if n < 1 then mg text lim seen ma s 7 s h first x y 0 (-1) [f0 5 s first] 1 (some false) none else mg text lim seen ma s 19 (s + n) (s + n) first x y 0 (-1) [fg s n first, f0 5 s first] 2 none none := rfl
theorem okG {x y : Option Nat} {first : Bool} (hn : n ≠ 0) : Ends 5 (mg text lim sn ma s 19 (s + n) (s + n) first (some s) y 0 (-1) [fg s n first, f0 5 s first] 2 none none) (HitG s (s + n)) := by
  refine Ends.step (m' := mg text lim (sn.add 17) ma s 21 (s + n) (s + n) first (some s) (some (s + n)) 1 ((1 / 2 + 1 : Nat) : Int) [fg s n first, f0 5 s first] 2 none none) rfl rfl ?_
  refine Ends.step (m' := mg text lim ((sn.add 17).add 1) ma s 21 (s + n) (s + n) first (some s) (some (s + n)) 1 ((1 / 2 + 1 : Nat) : Int) [fg s n first, f0 5 s first] 2 (some true) none) rfl ?_ ?_
  · have e : M.step (mg text lim (sn.add 17) ma s 21 (s + n) (s + n) first (some s) (some (s + n)) 1 ((1 / 2 + 1 : Nat) : Int) [fg s n first, f0 5 s first] 2 none none) = if (first && ((false && s + n != lim) || (ma && s + n == s))) = true then mg text lim ((sn.add 17).add 1) ma s 21 (s + n) (s + n) first (some s) (some (s + n)) 1 ((1 / 2 + 1 : Nat) : Int) [fg s n first, f0 5 s first] 2 (some false) none else mg text lim ((sn.add 17).add 1) ma s 21 (s + n) (s + n) first (some s) (some (s + n)) 1 ((1 / 2 + 1 : Nat) : Int) [fg s n first, f0 5 s first] 2 (some true) none := rfl
    rw [e, if_neg (by simp [hn])]
  refine Ends.step (m' := mg text lim ((sn.add 17).add 1) ma s 7 (s + n) (s + n) first (some s) (some (s + n)) 1 ((1 / 2 + 1 : Nat) : Int) [f0 5 s first] 1 (some true) none) rfl rfl ?_
  refine Ends.step (m' := mg text lim ((sn.add 17).add 1) ma s 5 s (s + n) first (some s) (some (s + n)) 1 ((1 / 2 + 1 : Nat) : Int) [] 0 (some true) none) rfl rfl ?_
  refine Ends.step (m' := mg text lim ((sn.add 17).add 1) ma s 5 s (s + n) first (some s) (some (s + n)) 1 ((1 / 2 + 1 : Nat) : Int) [] 0 (some true) (some .matched)) rfl rfl ?_
  exact Ends.done rfl ⟨⟨rfl, rfl, rfl⟩, rfl, rfl⟩
theorem againG {x y : Option Nat} {h : Nat} {first : Bool} (hs : s < lim) (hk : Ends n (mg text lim sn false (s + 1) 5 (s + 1) (s + 1) false x y (-1) (-1) [f0 5 (s + 1) false] 1 none none) P) : Ends (n + 1) (mg text lim sn ma s 7 s h first x y 0 (-1) [f0 5 s first] 1 (some false) none) P := by
  refine Ends.step rfl ?_ hk
  have e : M.step (mg text lim sn ma s 7 s h first x y 0 (-1) [f0 5 s first] 1 (some false) none) = if s < lim then M.attemptFrom (mg text lim sn false s 5 s h first x y 0 (-1) [] 0 none none) (s + 1) false else M.say (mg text lim sn ma s 5 s h first x y 0 (-1) [] 0 none none) false := rfl
  rw [e, if_pos hs]
  rfl
theorem stopG {x y : Option Nat} {h : Nat} {first : Bool} (hs : ¬ s < lim) : Ends 2 (mg text lim sn ma s 7 s h first x y 0 (-1) [f0 5 s first] 1 (some false) none) Miss := by
  have e : M.step (mg text lim sn ma s 7 s h first x y 0 (-1) [f0 5 s first] 1 (some false) none) = if s < lim then M.attemptFrom (mg text lim sn false s 5 s h first x y 0 (-1) [] 0 none none) (s + 1) false else M.say (mg text lim sn ma s 5 s h first x y 0 (-1) [] 0 none none) false := rfl
  refine Ends.step (m' := mg text lim sn ma s 5 s h first x y 0 (-1) [] 0 (some false) none) rfl (e.trans (if_neg hs)) ?_
  exact Ends.step (n := 0) (m' := mg text lim sn ma s 5 s h first x y 0 (-1) [] 0 (some false) (some .failed)) rfl rfl (Ends.done rfl rfl)
theorem runG (hl : lim ≤ 1000000) : ∀ (k s : Nat) (first : Bool) (sn : Seen) (ma : Bool) (x y : Option Nat), k = lim + 1 - s → s ≤ lim → Ends (3 * k + 12) (mg text lim sn ma s 5 s s first x y (-1) (-1) [f0 5 s first] 1 none none) fun m =>
    match findB text lim k s with
    | some (a, e) => HitG a e m
    | none => Miss m := by
  intro k
  induction k with
  | zero => intro s first sn ma x y hk hs; omega
  | succ k ih =>
    intro s first sn ma x y hk hs
    refine Ends.mono (n := 3 * k + 12 + 1 + 1 + 1) ?_ (by lia)
    refine Ends.step (m' := mg text lim (sn.add 17) ma s 7 s s first (some s) y 0 (-1) [f0 5 s first] 1 none none) rfl rfl ?_
    unfold findB
    by_cases h : s < lim
    · rw [if_neg (Nat.not_le_of_lt h)]
      obtain ⟨sn', e⟩ := runS (text := text) (min 4294967295 ((lim : Int) - (s : Int)).toNat) s 0 (((sn.add 17).add 24).add 13)
      have em : min 4294967295 ((lim : Int) - (s : Int)).toNat = lim - s := by lia
      rw [em] at e
      obtain ⟨q, hq⟩ : ∃ q, lim - s = q + 1 := ⟨lim - s - 1, by lia⟩
      by_cases hb : isB (text.getD s 0) = true
      · rw [if_pos hb]
        have hn : blk text (lim - s) s ≠ 0 := by rw [hq]; unfold blk; rw [if_pos hb]; exact Nat.succ_ne_zero _
        refine Ends.step (m' := mg text lim sn' ma s 19 (s + blk text (lim - s) s) (s + blk text (lim - s) s) first (some s) y 0 (-1) [fg s (blk text (lim - s) s) first, f0 5 s first] 2 none none) rfl ?_ ((okG (x := none) hn).mono (by lia))
        rw [step_rep, if_neg (by lia), em, e]
        dsimp only
        rw [Nat.zero_add, if_neg (by lia)]
      · rw [if_neg hb]
        have hn : blk text (lim - s) s = 0 := by rw [hq]; unfold blk; rw [if_neg hb]
        refine Ends.step (m' := mg text lim sn' ma s 7 s s first (some s) y 0 (-1) [f0 5 s first] 1 (some false) none) rfl ?_ (againG h (ih (s + 1) false sn' false (some s) y (by lia) h))
        rw [step_rep, if_neg (by lia), em, e]
        dsimp only
        rw [Nat.zero_add, hn, if_pos (by decide)]
    · rw [if_pos (Nat.le_of_not_lt h)]
      refine Ends.step (m' := mg text lim ((sn.add 17).add 24) ma s 7 s s first (some s) y 0 (-1) [f0 5 s first] 1 (some false) none) rfl ?_ ((stopG h).mono (by lia))
      rw [step_rep, if_pos (by omega)]
theorem searchB (hl : lim ≤ 1000000) {p : Nat} (hp : p ≤ lim) (ma : Bool) : Ends (3 * (lim + 1 - p) + 12) (forSearch cS text 1 p lim ma) fun m =>
    match findB text lim (lim + 1 - p) p with
    | some (a, e) => HitG a e m
    | none => Miss m := by
  have e : forSearch cS text 1 p lim ma = if (decide (p > lim) || decide (lim - p < 1)) = true then { mg text lim (({} : Seen).add 14) ma p 5 p p true none none (-1) (-1) [] 0 (some false) none with lastStart := 0 } else mg text lim (({} : Seen).add 14) ma p 5 p p true none none (-1) (-1) [f0 5 p true] 1 none none := rfl
  rw [e]
  by_cases h : p < lim
  · rw [if_neg (by simp; lia)]
    exact runG hl _ p true _ ma none none rfl hp
  · rw [if_pos (by simp; lia)]
    obtain rfl : p = lim := by lia
    have en : p + 1 - p = 0 + 1 := by lia
    rw [en]
    unfold findB
    rw [if_pos (Nat.le_refl _)]
    refine Ends.mono (n := 1) ?_ (by decide)
    exact Ends.step (n := 0) rfl rfl (Ends.done rfl rfl)
end
end Mine
end
section
open PySem PySem.Builtin PySem.Builtin.Re
namespace Mine
theorem dropc {a : Array Nat} {s c : Nat} {r : List Nat} (h : a.toList.drop s = c :: r) : s < a.size ∧ a.getD s 0 = c ∧ a.toList.drop (s + 1) = r := by
  have hs : s < a.toList.length := by
    rcases Nat.lt_or_ge s a.toList.length with q | q
    · exact q
    · rw [List.drop_of_length_le q] at h; cases h
  rw [List.drop_eq_getElem_cons hs] at h
  obtain ⟨h1, h2⟩ := List.cons.inj h
  refine ⟨by rw [Array.length_toList] at hs; exact hs, ?_, h2⟩
  rw [Array.getD_eq_getD_getElem?, ← Array.getElem?_toList, List.getElem?_eq_getElem hs, h1]; rfl
theorem dropn {a : Array Nat} {s : Nat} (h : a.toList.drop s = []) : a.size ≤ s := by
  have := congrArg List.length h
  rw [List.length_drop, Array.length_toList] at this
  exact Nat.le_of_sub_eq_zero this
noncomputable def NoB (v : List Nat) : Prop := ∀ c, v.head? = some c → isB c = false
theorem blk_eq {text : Array Nat} {v : List Nat} (hv : NoB v) : ∀ (b : List Nat) (s : Nat), text.toList.drop s = b ++ v → (∀ c ∈ b, isB c = true) → blk text (text.size - s) s = b.length
  | [], s, h, _ => by
    cases v with
    | nil => rw [Nat.sub_eq_zero_of_le (dropn h)]; rfl
    | cons c v =>
      obtain ⟨h1, h2, _⟩ := dropc h
      obtain ⟨q, hq⟩ : ∃ q, text.size - s = q + 1 := ⟨text.size - s - 1, by lia⟩
      rw [hq]; unfold blk; rw [h2, hv c rfl]; rfl
  | c :: b, s, h, hb => by
    obtain ⟨h1, h2, h3⟩ := dropc h
    have ih := blk_eq hv b (s + 1) h3 fun d hd => hb d (.tail _ hd)
    have hq : text.size - s = (text.size - (s + 1)) + 1 := by lia
    rw [hq]; unfold blk; rw [h2, hb c (.head _), if_pos rfl, ih]; rfl
theorem find_hit {text : Array Nat} {b v : List Nat} (hv : NoB v) (hb : ∀ c ∈ b, isB c = true) (hne : b ≠ []) : ∀ (u : List Nat) (p : Nat), text.toList.drop p = u ++ (b ++ v) → (∀ c ∈ u, isB c = false) → findB text text.size (text.size + 1 - p) p = some (p + u.length, p + u.length + b.length)
  | [], p, h, _ => by
    cases b with
    | nil => exact absurd rfl hne
    | cons c b =>
      obtain ⟨h1, h2, _⟩ := dropc h
      rw [show text.size + 1 - p = (text.size - p) + 1 by lia]
      unfold findB
      rw [if_neg (Nat.not_le_of_lt h1), h2, hb c (.head _), if_pos rfl, blk_eq hv (c :: b) p h hb]
      rfl
  | c :: u, p, h, hu => by
    obtain ⟨h1, h2, h3⟩ := dropc h
    have ih := find_hit hv hb hne u (p + 1) h3 fun d hd => hu d (.tail _ hd)
    rw [show text.size + 1 - p = (text.size + 1 - (p + 1)) + 1 by lia]
    unfold findB
    rw [if_neg (Nat.not_le_of_lt h1), h2, hu c (.head _), if_neg (by decide), ih]
    show some (p + 1 + u.length, p + 1 + u.length + b.length) = some (p + (u.length + 1), p + (u.length + 1) + b.length)
    rw [show p + 1 + u.length = p + (u.length + 1) by lia]
theorem find_miss {text : Array Nat} : ∀ (u : List Nat) (p : Nat), text.toList.drop p = u → (∀ c ∈ u, isB c = false) → findB text text.size (text.size + 1 - p) p = none
  | [], p, h, _ => by
    have := dropn h
    cases q : text.size + 1 - p with
    | zero => rfl
    | succ k => unfold findB; rw [if_pos this]
  | c :: u, p, h, hu => by
    obtain ⟨h1, h2, h3⟩ := dropc h
    have ih := find_miss u (p + 1) h3 fun d hd => hu d (.tail _ hd)
    rw [show text.size + 1 - p = (text.size + 1 - (p + 1)) + 1 by lia]
    unfold findB
    rw [if_neg (Nat.not_le_of_lt h1), h2, hu c (.head _), if_neg (by decide), ih]
structure PatAtG (h : Heap) (pat : Addr) (code : Array Nat) : Prop where
  ex : ∃ o fs tb o2 its n t1 t2, h.get? pat = some o ∧ o.cls = .type "re.Pattern" ∧ o.data = .fields fs ∧ fs.getD 6 .none = .int 0 t1 ∧ fs.getD 2 .none = .int 1 t2 ∧ fs.getD 5 .none = .ref tb ∧ h.get? tb = some o2 ∧ o2.cls = .type "tuple" ∧ o2.data = .seq its n ∧ (its.map reRawOf).map (·.toNat) = code
theorem slot_split : Slot "re.Pattern" "split" "re.Pattern.split" :=
  .of (owner := "re.Pattern") (n := "split") (by rw [typeLookup_type, builtinLookup_eq_fast]; kernel_rfl) (by decide +kernel) (by decide +kernel) (by decide +kernel)
    (by first | exact .inl (by decide +kernel) | exact .inr (by decide +kernel)) (by rw [isSubtype_type]; kernel_rfl)
theorem entry_split : entryFor table "re.Pattern.split" = some Builtin.«re.Pattern.split» := entryFor_of_fast (by kernel_rfl)
theorem args_split (a b : Value) : argsOk "re.Pattern.split" ⟨[a, b], []⟩ := by unfold argsOk; kernel_rfl
theorem ty_resplit : typeOf (.builtin "re.Pattern.split") = pure (.type "method_descriptor") := by kernel_rfl
section
variable {prog : Program} {w : World} {A : Around} {s : Shared} {Q : Value → Shared → Prop} {E : Value → Shared → Prop}
theorem wpAny_wholeG {pat : Addr} {code : Array Nat} {x : Str} {t : Tok} {Q : ReTarget → Shared → Prop} (p : PatAtG s.heap pat code)
    (h : Q { pattern := .ref pat, string := .str x t, code, text := x.cps, kind := 0, groups := 1, pos := 0, lim := x.cps.size } s) : wpAny (model prog w) A (reWholeTarget (.ref pat) (.str x t)) Q E s := by
  refine qg fun G kG => ?_
  obtain ⟨o, fs, tb, o2, its, n, t1, t2, e1, e2, e3, e4, e5, e6, e7, e7', e8, e9⟩ := p.ex
  refine kG ?_
  unfold reWholeTarget
  refine wpAny_bind (wpAny_fieldsOf e1 e3 ?_)
  refine wpAny_bind (wpAny_textOf ?_)
  rw [e4, e5, e6]
  dsimp only [reRawNat]
  show wpAny (model prog w) A (reNoCollectionInside (.str x t) 0 >>= fun _ => _) Q E s
  refine wpAny_bind (wpAny_of_eq (show reNoCollectionInside (.str x t) 0 = pure () from rfl) ?_)
  unfold reRawItems
  refine wpAny_bind (wpAny_bind (wpAny_seqItems e7 e8 (wpAny_pure ?_)))
  refine wpAny_pure ?_
  subst e9
  exact h
theorem forIn_inv {β : Type} {f : Nat → β → Sem (ForInStep β)} {Q : β → Shared → Prop} (I : Nat → β → Shared → Prop) (step : ∀ i k b s, I (k + 1) b s → wpAny (model prog w) A (f i b) (fun r s' => ∃ b', r = .yield b' ∧ I k b' s') E s) :
    ∀ (l : List Nat) (b : β) (s : Shared), I l.length b s → (∀ b s, I 0 b s → Q b s) → wpAny (model prog w) A (forIn l b f) Q E s
  | [], b, s, h, hQ => by rw [List.forIn_nil]; exact wpAny_pure (hQ b s h)
  | i :: l, b, s, h, hQ => by
    rw [List.forIn_cons]
    refine wpAny_bind (wpAny_mono (step i l.length b s h) (fun r s' h' => ?_) fun _ _ e => e)
    obtain ⟨b', rfl, h'⟩ := h'
    exact forIn_inv I step l b' s' h' hQ
theorem wpAny_hitG {n a e : Nat} {m : Sre.M} {Q : Option Sre.M → Shared → Prop} (he : Ends n m (HitG a e)) (hn : n < 4 * 2 ^ 64) (hQ : ∀ m', m'.start = a → m'.handed = e → m'.lastmark = 1 → m'.marks = #[some a, some e] → Q (some m') s) : wpAny (model prog w) A (reRunToEnd m) Q E s := by
  unfold reRunToEnd
  refine wpAny_bind (wpAny_drive (2 ^ 64) n m hn he fun m' _ hp => ?_)
  refine wpAny_bind (wpAny_rules m' _ _ ?_)
  rw [hp.1.1]
  exact wpAny_pure (hQ m' hp.1.2.1 hp.1.2.2 hp.2.1 hp.2.2)
theorem slice_mk {x : Str} {a b : Nat} {u v : List Nat} {Q : Value → Shared → Prop} (hx : x.cps.size ≤ 1000000) (h : x.cps.toList.drop a = u ++ v) (hb : b = a + u.length) (hQ : Q (.str (mkS u) s.toks) { s with toks := s.toks + 1 }) : wpAny (model prog w) A (reSlice x.cps 0 a b) Q E s := by
  unfold reSlice
  refine wt (by decide) ?_
  have e : (⟨x.cps.extract a b⟩ : Str) = mkS u := by
    apply str_inj
    show (x.cps.extract a b).toList = u
    rw [Array.toList_extract, List.extract_eq_take_drop, h, hb, Nat.add_sub_cancel_left, List.take_left' rfl]
  rw [e]
  refine wpAny_mkStr hQ ?_
  rw [← wl_len]
  have := congrArg List.length h
  rw [List.length_drop, Array.length_toList, List.length_append] at this
  show u.length ≤ _
  rw [sizeLine_eq]
  omega
noncomputable def TailOk (ws : WS) : Prop := ∀ q ∈ ws, Lead q ∧ wl q.2 ≠ [] ∧ ∀ c ∈ wl q.2, isB c = false
noncomputable def flatP (ws : WS) : List Str := ws.flatMap fun q => [q.1, q.2]
theorem flatP_len : ∀ ws : WS, (flatP ws).length = 2 * ws.length
  | [] => rfl
  | q :: ws => by show (flatP ws).length + 1 + 1 = 2 * (ws.length + 1); rw [flatP_len ws]; lia
theorem Lead.b {q : Str × Str} (h : Lead q) : wl q.1 ≠ [] ∧ ∀ c ∈ wl q.1, isB c = true := by
  rcases h with h | h <;> rw [h] <;> exact ⟨by simp, by decide⟩
theorem tail_len : ∀ ws : WS, TailOk ws → ws.length ≤ (valL ws).length
  | [], _ => Nat.le_refl _
  | q :: ws, h => by
    have ih := tail_len ws fun r hr => h r (.tail _ hr)
    have h1 : 0 < (wl q.1).length := List.length_pos_iff.mpr (h q (.head _)).1.b.1
    show ws.length + 1 ≤ ((wl q.1 ++ wl q.2) ++ valL ws).length
    rw [List.length_append, List.length_append]
    lia
theorem strV_push (l : List (Str × Tok)) (x : Str) (t : Tok) : (strValues l).toArray.push (.str x t) = (strValues (l ++ [(x, t)])).toArray := by simp [strValues]
theorem call_split {pat : Addr} {x : Str} {t : Tok} {w₀ : List Nat} {ws : WS} (p : PatAtG s.heap pat cS) (hx : x.cps.size ≤ 100000) (he : wl x = w₀ ++ valL ws) (hw : ∀ c ∈ w₀, isB c = false) (hok : TailOk ws)
    (hQ : ∀ l k, l.map (·.1) = mkS w₀ :: flatP ws → Q (.ref s.heap.objs.size) { s with heap := s.heap.push (lstObj (strValues l)), toks := k }) :
    wpAny (model prog w) A (call (.builtin "re.Pattern.split") [.ref pat, .str x t]) Q E s := by
  refine qg fun G kG => ?_
  obtain ⟨o, fs, tb, o2, its, n, t1, t2, e1, e2, e3, e4, e5, e6, e7, e7', e8, e9⟩ := id p.ex
  refine kG ?_
  refine wpAny_call (codeAny_call_builtin slot_split.plain entry_split (slot_split.check _ _ _ _ _ _ _ _ ⟨o, e1, e2⟩ (args_split _ _) ?_))
  show wpAny _ A.in1 (reNamed "re.Pattern.split" "split" ["string", "maxsplit"] 1 [.str x t] [] >>= _) _ _ _
  refine wpAny_bind (wpAny_of_eq (show reNamed "re.Pattern.split" "split" ["string", "maxsplit"] 1 [.str x t] [] = pure [some (.str x t), none] from rfl) ?_)
  refine wpAny_bind (wpAny_pure ?_)
  refine wpAny_bind (wpAny_wholeG p ?_)
  dsimp only
  have hx6 : x.cps.size ≤ 1000000 := Nat.le_trans hx (by decide)
  have hsz : (w₀ ++ valL ws).length = x.cps.size := by rw [← he]; exact Array.length_toList
  have htl := tail_len ws hok
  refine wpAny_bind (forIn_inv (fun k b s' => ∃ tk done p u us, s' = { s with toks := tk } ∧ b.1 = (strValues done).toArray ∧ b.2.2.1 = p ∧ x.cps.toList.drop p = u ++ valL us ∧ (∀ c ∈ u, isB c = false) ∧ TailOk us ∧ done.map (·.1) ++ (mkS u :: flatP us) = mkS w₀ :: flatP ws ∧ p ≤ x.cps.size ∧
    (b.2.2.2.2.2 = true ∧ us = [] ∨ b.2.2.2.2.2 = false ∧ b.2.1 = p ∧ us.length + 1 ≤ k)) ?step _ _ _ ?init ?fin)
  case init =>
    refine ⟨s.toks, [], 0, w₀, ws, rfl, rfl, rfl, he, hw, hok, rfl, Nat.zero_le _, .inr ⟨rfl, rfl, ?_⟩⟩
    rw [List.length_range]
    show ws.length + 1 ≤ 2 * x.cps.size + 3
    rw [List.length_append] at hsz
    lia
  case step =>
    rintro i k ⟨out, start, last, must, n, over⟩ s' ⟨tk, done, p, u, us, rfl, e1, e2, e3, e4, e5, e6, hp, e7⟩
    dsimp only at e1 e2 e7 ⊢
    subst e1 e2
    rcases e7 with ⟨rfl, rfl⟩ | ⟨rfl, rfl, hk⟩
    · refine wf (by decide) ?_
      exact wpAny_pure ⟨_, rfl, tk, done, _, u, [], rfl, rfl, rfl, e3, e4, e5, e6, hp, .inl ⟨rfl, rfl⟩⟩
    refine wt (by decide) ?_
    refine wpAny_bind ?_
    refine wf (by simp) ?_
    unfold reNextFound
    have sb := searchB (text := x.cps) (lim := x.cps.size) hx6 hp must
    have hN : 3 * (x.cps.size + 1 - start) + 12 < 4 * 2 ^ 64 := by lia
    cases us with
    | nil =>
      have e3' : x.cps.toList.drop start = u := by rw [e3]; exact List.append_nil _
      rw [find_miss u start e3' e4] at sb
      refine wpAny_miss sb hN ?_
      exact wpAny_pure ⟨_, rfl, tk, done, _, u, [], rfl, rfl, rfl, e3, e4, e5, e6, hp, .inl ⟨rfl, rfl⟩⟩
    | cons q us =>
      obtain ⟨h1, h2, h3⟩ := e5 q (.head _)
      have e3' : x.cps.toList.drop start = u ++ (wl q.1 ++ (wl q.2 ++ valL us)) := by rw [e3]; show u ++ ((wl q.1 ++ wl q.2) ++ valL us) = _; rw [List.append_assoc]
      have nb : NoB (wl q.2 ++ valL us) := fun c hc => by
        cases hq : wl q.2 with
        | nil => exact absurd hq h2
        | cons d r => rw [hq] at hc; cases hc; exact h3 c (by rw [hq]; exact .head _)
      rw [find_hit nb h1.b.2 h1.b.1 u start e3' e4] at sb
      refine wpAny_hitG sb hN fun m' m1 m2 m3 m4 => ?_
      dsimp only
      rw [m1, m2]
      refine wpAny_bind (slice_mk hx6 e3' rfl ?_)
      have e3b : x.cps.toList.drop (start + u.length) = wl q.1 ++ (wl q.2 ++ valL us) := by rw [← List.drop_drop, e3', List.drop_left' rfl]
      have e3c : x.cps.toList.drop (start + u.length + (wl q.1).length) = wl q.2 ++ valL us := by rw [← List.drop_drop, e3b, List.drop_left' rfl]
      refine wpAny_bind ?_
      show wpAny _ _ (forIn [0] _ _) _ _ _
      rw [List.forIn_cons]
      refine wpAny_bind (wpAny_bind ?_)
      unfold reMachineGroup
      rw [m3, m4, if_neg (by decide)]
      show wpAny _ _ (if start + u.length + (wl q.1).length < start + u.length then reWrongSpan else reSlice x.cps 0 (start + u.length) (start + u.length + (wl q.1).length)) _ _ _
      refine wf (by lia) ?_
      refine slice_mk hx6 e3b rfl ?_
      refine wpAny_pure ?_
      dsimp only
      rw [List.forIn_nil]
      refine wpAny_pure (wpAny_pure ⟨_, rfl, tk + 1 + 1, done ++ [(mkS u, tk)] ++ [(mkS (wl q.1), tk + 1)], start + u.length + (wl q.1).length, wl q.2, us, rfl, ?_, rfl, e3c, h3, fun r hr => e5 r (.tail _ hr), ?_, ?_, .inr ⟨rfl, rfl, ?_⟩⟩)
      · dsimp only
        rw [strV_push, strV_push]
      · rw [← e6, List.map_append, List.map_append, mk_wl, mk_wl]
        simp [flatP]
      · have := congrArg List.length e3'
        have hl : 0 < (wl q.1).length := List.length_pos_iff.mpr h1.b.1
        rw [List.length_drop, Array.length_toList, List.length_append, List.length_append] at this
        lia
      · rw [List.length_cons] at hk; lia
  case fin =>
    rintro ⟨out, start, last, must, n, over⟩ s' ⟨tk, done, p, u, us, rfl, e1, e2, e3, e4, e5, e6, hp, e7⟩
    dsimp only at e1 e2 e7 ⊢
    subst e1 e2
    rcases e7 with ⟨rfl, rfl⟩ | ⟨_, _, hk⟩
    · refine wf (by decide) ?_
      have e3' : x.cps.toList.drop last = u ++ [] := e3
      have hu : x.cps.size = last + u.length := by
        have := congrArg List.length e3'
        rw [List.length_drop, Array.length_toList, List.append_nil] at this
        lia
      refine wpAny_bind (slice_mk hx6 e3' hu ?_)
      dsimp only
      rw [strV_push]
      have hl : (strValues (done ++ [(mkS u, tk)])).length ≤ sizeLine := by
        have h1 : (strValues (done ++ [(mkS u, tk)])).length = (done.map (·.1) ++ (mkS u :: flatP [])).length := by simp [strValues, flatP]
        have h2 := flatP_len ws
        rw [h1, e6, List.length_cons, sizeLine_eq]
        rw [List.length_append] at hsz
        lia
      refine wpAny_bind (m := newList _) (wpAny_newObj_type ?_ (by show Array.size _ ≤ _; simpa using hl))
      refine wpAny_pure (hQ _ (tk + 1) ?_)
      rw [List.map_append]
      exact e6
    · lia
end
end Mine
end
section
open PySem PySem.W PySem.Calls PyProof.Rows Builtin Builtin.ObjectAttr Builtin.Str
namespace Mine
structure Z1 (z TI TO i l : Addr) : Prop where
  TIz : TI ≠ z
  TOz : TO ≠ z
  iz : i ≠ z
  TITO : TI ≠ TO
  TIi : TI ≠ i
  TOi : TO ≠ i
  lz : l ≠ z
  lTO : l ≠ TO
  li : l ≠ i
noncomputable def Z1At (h : Heap) (z TI TO i l : Addr) (f : Value) (k : Nat) (xs : Array Value) : Prop :=
  IsZip h z TI TO f ∧ PySem.IsPair h TI (.ref i) (.ref i) ∧ (∃ a b, PySem.IsPair h TO a b) ∧ h.IsListIter i l k ∧ h.IsList l xs
section
variable {prog : Program} {w : World} {A : Around} {E : Value → Shared → Prop} {s : Shared} {z TI TO i l : Addr} {xs : Array Value} {k : Nat} {x y : Value}
theorem zip1_next {Q : Value → Shared → Prop} (D : Z1 z TI TO i l) (H : Z1At s.heap z TI TO i l .none k xs) (hx : xs[k]? = some x) (hy : xs[k + 1]? = some y)
    (hQ : ∀ h', Z1At h' z TI TO i l (rawInt s.heap.objs.size) (k + 1 + 1) xs → PySem.IsPair h' s.heap.objs.size x y → (∀ c o, c ≠ z → c ≠ TO → c ≠ i → s.heap.get? c = some o → h'.get? c = some o) → Q (.ref s.heap.objs.size) { s with heap := h' }) :
    wpAny (model prog w) A (Builtin.«zip.__next__» ⟨[.ref z], []⟩) (fun fin s' => ∃ v, fin = .done (.ret v) ∧ Q v s') E s := by
  obtain ⟨hz, hTI, ⟨a, b, hTO⟩, hi, hl⟩ := H
  show wpAny _ _ (field (.ref z) 2 >>= _) _ _ _
  refine wpAny_bind (wpAny_field hz rfl (x := .bool false) rfl ?_)
  show wpAny _ _ (field (.ref z) 3 >>= _) _ _ _
  refine wpAny_bind (wpAny_field hz rfl (x := .ref TI) rfl (wpAny_bind (wpAny_seqItems hTI rfl ?_)))
  show wpAny _ _ (Builtin.SmallTypes.ownedTupleIsFree (.ref z) >>= _) _ _ _
  unfold Builtin.SmallTypes.ownedTupleIsFree
  refine wpAny_bind (wpAny_bind (wpAny_field hz rfl (x := .none) rfl (wpAny_pure ?_)))
  refine wt rfl ?_
  refine wpAny_bind (wpAny_rule (wpAny_bind (wpAny_field hz rfl (x := .ref TO) rfl (wpAny_bind (wpAny_setField_rec hz (by simp) fun h₁ hz₁ sb₁ => ?_)))))
  have hTO₁ := sb₁.extBut _ _ D.TOz hTO
  show wpAny _ _ (forIn [(Value.ref i, 0), (Value.ref i, 1)] _ _ >>= _) _ _ _
  rw [List.forIn_cons]
  refine wpAny_bind (wpAny_bind (wpAny_bind (wpAny_onRaise ?_)))
  show wpAny _ _ (Builtin.SmallTypes.nextOf (.ref i) >>= _) _ _ _
  refine wpAny_bind (wpAny_nextOf_list_item (hi.extBut sb₁.extBut D.iz) (hl.extBut sb₁.extBut D.lz) hx fun h₂ hi₂ sb₂ => wpAny_pure ?_)
  have hTO₂ := sb₂.extBut _ _ D.TOi hTO₁
  refine wpAny_bind (wpAny_seqItems hTO₂ rfl (wpAny_bind (wpAny_updateSeq_pair hTO₂ fun h₃ hTO₃ sb₃ => wpAny_bind (wpAny_letGo (wpAny_pure ?_)))))
  have hl₃ := ((hl.extBut sb₁.extBut D.lz).extBut sb₂.extBut D.li).extBut sb₃.extBut D.lTO
  dsimp only
  rw [List.forIn_cons]
  refine wpAny_bind (wpAny_bind (wpAny_onRaise ?_))
  show wpAny _ _ (Builtin.SmallTypes.nextOf (.ref i) >>= _) _ _ _
  refine wpAny_bind (wpAny_nextOf_list_item (hi₂.extBut sb₃.extBut D.TOi.symm) hl₃ hy fun h₄ hi₄ sb₄ => wpAny_pure ?_)
  have hTO₄ : PySem.IsPair h₄ TO x b := sb₄.extBut _ _ D.TOi hTO₃
  refine wpAny_bind (wpAny_seqItems hTO₄ rfl (wpAny_bind (wpAny_updateSeq_pair hTO₄ fun h₅ hTO₅ sb₅ => wpAny_bind (wpAny_letGo (wpAny_pure ?_)))))
  replace hTO₅ : PySem.IsPair h₅ TO x y := hTO₅
  dsimp only
  rw [List.forIn_nil]
  refine wpAny_pure (wpAny_bind (wpAny_seqItems hTO₅ rfl (wpAny_bind (wpAny_newTuple ?_))))
  have k₅ : ∀ c o, c ≠ z → c ≠ TO → c ≠ i → s.heap.get? c = some o → h₅.get? c = some o := fun c o c1 c2 c3 e => sb₅.extBut _ _ c2 (sb₄.extBut _ _ c3 (sb₃.extBut _ _ c2 (sb₂.extBut _ _ c3 (sb₁.extBut _ _ c1 e))))
  have hz₅ : IsZip h₅ z TI TO .ellipsis := sb₅.extBut _ _ D.TOz.symm (sb₄.extBut _ _ D.iz.symm (sb₃.extBut _ _ D.TOz.symm (sb₂.extBut _ _ D.iz.symm hz₁)))
  have hi₅ : h₅.IsListIter i l (k + 1 + 1) := hi₄.extBut sb₅.extBut D.TOi.symm
  have hsz : h₅.objs.size = s.heap.objs.size := by rw [sb₅.1, sb₄.1, sb₃.1, sb₂.1, sb₁.1]
  show wpAny _ _ (Builtin.SmallTypes.ownedTupleHandOut (.ref z) (.ref h₅.objs.size) >>= _) _ _ _
  unfold Builtin.SmallTypes.ownedTupleHandOut
  have hz₆ : IsZip (h₅.push { cls := .type "tuple", data := .seq #[x, y] }) z TI TO .ellipsis := Heap.get?_push_of_some _ hz₅
  refine wpAny_bind (wpAny_bind (wpAny_setField_rec hz₆ (by simp) fun h₇ hz₇ sb₇ => ?_))
  replace hz₇ : IsZip h₇ z TI TO (rawInt h₅.objs.size) := hz₇
  refine wpAny_setField_rec hz₇ (by simp) fun h₈ hz₈ sb₈ => ?_
  replace hz₈ : IsZip h₈ z TI TO (rawInt h₅.objs.size) := hz₈
  have up : ∀ c o, c ≠ z → h₅.get? c = some o → h₈.get? c = some o := fun c o c1 e => sb₈.extBut _ _ c1 (sb₇.extBut _ _ c1 (Heap.get?_push_of_some _ e))
  have nz : h₅.objs.size ≠ z := Nat.ne_of_gt (Heap.lt_size hz₅)
  have hT₈ : PySem.IsPair h₈ h₅.objs.size x y := sb₈.extBut _ _ nz (sb₇.extBut _ _ nz (Heap.get?_push_size _ rfl))
  refine wpAny_pure ⟨_, rfl, ?_⟩
  show Q (.ref h₅.objs.size) _
  rw [hsz] at hT₈ hz₈ ⊢
  exact hQ h₈ ⟨hz₈, up _ _ D.TIz (k₅ _ _ D.TIz D.TITO D.TIi hTI), ⟨_, _, up _ _ D.TOz hTO₅⟩, hi₅.at fun o e => up _ o D.iz e, hl.at fun o e => up _ o D.lz (k₅ _ o D.lz D.lTO D.li e)⟩ hT₈ fun c o c1 c2 c3 e => up _ _ c1 (k₅ _ _ c1 c2 c3 e)
theorem zip1_end {Q : Fin → Shared → Prop} (hh : A.handled = none) (D : Z1 z TI TO i l) (H : Z1At s.heap z TI TO i l .none k xs) (hx : xs[k]? = none)
    (hE : ∀ h' e, (∀ c o, c ≠ z → c ≠ TO → c ≠ i → s.heap.get? c = some o → h'.get? c = some o) → (∃ o, h'.get? e = some o ∧ o.cls = .type "StopIteration") → E (.ref e) { s with heap := h' }) :
    wpAny (model prog w) A (Builtin.«zip.__next__» ⟨[.ref z], []⟩) Q E s := by
  refine qg fun G kG => ?_
  obtain ⟨hz, hTI, ⟨a, b, hTO⟩, hi, hl⟩ := H
  refine kG ?_
  show wpAny _ _ (field (.ref z) 2 >>= _) _ _ _
  refine wpAny_bind (wpAny_field hz rfl (x := .bool false) rfl ?_)
  show wpAny _ _ (field (.ref z) 3 >>= _) _ _ _
  refine wpAny_bind (wpAny_field hz rfl (x := .ref TI) rfl (wpAny_bind (wpAny_seqItems hTI rfl ?_)))
  show wpAny _ _ (Builtin.SmallTypes.ownedTupleIsFree (.ref z) >>= _) _ _ _
  unfold Builtin.SmallTypes.ownedTupleIsFree
  refine wpAny_bind (wpAny_bind (wpAny_field hz rfl (x := .none) rfl (wpAny_pure ?_)))
  refine wt rfl ?_
  refine wpAny_bind (wpAny_rule (wpAny_bind (wpAny_field hz rfl (x := .ref TO) rfl (wpAny_bind (wpAny_setField_rec hz (by simp) fun h₁ hz₁ sb₁ => ?_)))))
  show wpAny _ _ (forIn [(Value.ref i, 0), (Value.ref i, 1)] _ _ >>= _) _ _ _
  rw [List.forIn_cons]
  refine wpAny_bind (wpAny_bind (wpAny_bind (wpAny_onRaise ?_)))
  show wpAny _ _ (Builtin.SmallTypes.nextOf (.ref i) >>= _) _ _ _
  refine wpAny_bind (wpAny_nextOf_list_end hh (hi.extBut sb₁.extBut D.iz) (hl.extBut sb₁.extBut D.lz) hx fun h₂ e sb₂ he => ?_)
  obtain ⟨oe, hoe, hce⟩ := he
  have hz₂ := sb₂ _ _ D.iz.symm hz₁
  have hez : e ≠ z := fun q => by subst q; rw [hz₂] at hoe; cases hoe; simp at hce
  exact wpAny_setField_rec hz₂ (by simp) fun h₃ _ sb₃ => hE h₃ e (fun c o c1 _ c3 q => sb₃.extBut _ _ c1 (sb₂ _ _ c3 (sb₁.extBut _ _ c1 q))) ⟨oe, sb₃.extBut _ _ hez hoe, hce⟩
theorem WalksT.zip1 (hh : A.handled = none) (z TI TO i l : Addr) (D : Z1 z TI TO i l) (xs : Array Value) (n : Nat) (hn : xs.size = 2 * n) :
    WalksT prog w A z [z, TI, TO, i, l] [z, TO, i] n (fun k vals => ∃ x y, xs[2 * k]? = some x ∧ xs[2 * k + 1]? = some y ∧ vals = #[x, y])
      (fun k h => Z1At h z TI TO i l .none (2 * k) xs) (fun k T h => Z1At h z TI TO i l (rawInt T) (2 * (k + 1)) xs ∧ T ≠ z ∧ T ≠ TO ∧ T ≠ i) where
  sub := fun b hb => by
    simp at hb ⊢
    rcases hb with rfl | rfl | rfl <;> simp
  frame := fun k h h' ⟨hz, hTI, ⟨a, b, hTO⟩, hi, hl⟩ hk => ⟨hk z (by simp) _ hz, hk TI (by simp) _ hTI, ⟨a, b, hk TO (by simp) _ hTO⟩, hi.at fun o e => hk i (by simp) o e, hl.at fun o e => hk l (by simp) o e⟩
  item := fun k s Q E hk H hQ => by
    have h1 : 2 * k < xs.size := by lia
    have h2 : 2 * k + 1 < xs.size := by lia
    have hT : s.TypeIs (.ref z) "zip" := ⟨_, H.1, rfl⟩
    have lt : ∀ {c o}, s.heap.get? c = some o → s.heap.objs.size ≠ c := fun e => Nat.ne_of_gt (Heap.lt_size e)
    unfold pyNext
    refine wpAny_bind (wpAny_attempt (wpAny_callSpecial?_slot (name := Str.ofString "__next__") hT F.slot_zip_next (wpAny_call_entry F.slot_zip_next hT F.entry_zip_next
      (zip1_next D H (Array.getElem?_eq_getElem h1) (Array.getElem?_eq_getElem h2) fun h' H' hp hk => wpAny_pure ?_) (F.args_zip_next_1 _))))
    refine qg fun G kG => ?_
    obtain ⟨hz, hTI, ⟨a, b, hTO⟩, ⟨oi, hi, _⟩, hl⟩ := H
    refine kG ?_
    exact hQ s.heap.objs.size _ h' s.toks ⟨_, _, Array.getElem?_eq_getElem h1, Array.getElem?_eq_getElem h2, rfl⟩ (Nat.le_refl _) ⟨_, hp, rfl, _, rfl⟩ ⟨H', lt hz, lt hTO, lt hi⟩
      fun c o hc e => hk c o (fun q => hc (by simp [q])) (fun q => hc (by simp [q])) (fun q => hc (by simp [q])) e
  go := fun elts k0 pos k T s Q E ⟨⟨hz, hTI, ⟨a, b, hTO⟩, hi, hl⟩, _⟩ hQ =>
    wpAny_letOwnedTupleGo_zip hz fun h' hz' sb => hQ h' ⟨hz', sb.extBut _ _ D.TIz hTI, ⟨a, b, sb.extBut _ _ D.TOz hTO⟩, hi.extBut sb.extBut D.iz, hl.extBut sb.extBut D.lz⟩ fun c o hc e => sb.extBut _ _ (fun q => hc (by simp [q])) e
  apart := fun k T h ⟨_, t1, t2, t3⟩ hT => by
    simp at hT
    rcases hT with q | q | q
    · exact t1 q
    · exact t2 q
    · exact t3 q
  done := fun s Q E H hQ => by
    have hT : s.TypeIs (.ref z) "zip" := ⟨_, H.1, rfl⟩
    unfold pyNext
    refine wpAny_bind (wpAny_attempt (wpAny_callSpecial?_slot (name := Str.ofString "__next__") hT F.slot_zip_next (wpAny_call_entry F.slot_zip_next hT F.entry_zip_next
      (zip1_end hh D H (Array.getElem?_eq_none (by lia)) fun h' e hk he => ?_) (F.args_zip_next_1 _))))
    obtain ⟨o, ho, hc⟩ := he
    refine wpAny_bind (wpAny_isInstance (T := "StopIteration") (b := true) ⟨o, ho, hc⟩ isSubtype_stop ?_)
    exact wpAny_pure (hQ h' s.toks fun c o hc e => hk c o (fun q => hc (by simp [q])) (fun q => hc (by simp [q])) (fun q => hc (by simp [q])) e)
  self := fun k s Q E H hQ => wpAny_pyIter_zip H.1 hQ
noncomputable abbrev z1A (h : Heap) (i : Addr) : Heap := h.push { cls := .type "tuple", data := .seq #[.ref i, .ref i] }
noncomputable abbrev z1B (h : Heap) (i : Addr) : Heap := (z1A h i).push { cls := .type "tuple", data := .seq #[.none, .none] }
noncomputable abbrev z1C (h : Heap) (i : Addr) : Heap := (z1B h i).push { cls := .type "zip", data := .fields #[.none, .bool false, .bool false, .ref h.objs.size, .ref (z1A h i).objs.size] }
theorem meets_zip1 (i l : Addr) (k : Nat) : Meets (Builtin.«zip.__new__» ⟨[.type "zip", .ref i, .ref i], []⟩) (fun _ R s => s.heap.IsListIter i l k ∧ R (.ok (.ret (.ref (z1B s.heap i).objs.size))) { s with heap := z1C s.heap i }) :=
  .of_wp fun prog w A R s h => by
    obtain ⟨hp, g, d, tk, os⟩ := s
    obtain ⟨hi, h⟩ := h
    have hsub := sub_zip
    have h1 : Heap.IsListIter (Shared.heap ⟨hp, g, d, tk, os⟩) i l k := hi
    wp_walk using wpAny_pyIter_listiter h1
    exact ⟨_, rfl, h⟩
theorem call_zip1 {Q : Value → Shared → Prop} (hi : s.heap.IsListIter i l k)
    (h : ∀ h', IsZip h' (s.heap.objs.size + 2) s.heap.objs.size (s.heap.objs.size + 1) .none → PySem.IsPair h' s.heap.objs.size (.ref i) (.ref i) → PySem.IsPair h' (s.heap.objs.size + 1) .none .none → h'.objs.size = s.heap.objs.size + 3 →
      (∀ c o, s.heap.get? c = some o → h'.get? c = some o) → Q (.ref (s.heap.objs.size + 2)) { s with heap := h' }) :
    wpAny (model prog w) A (call (.type "zip") [.ref i, .ref i]) Q E s := by
  refine callType_new F.called_zip (by decide) (F.typeCall_zip_2 _ _) (F.newCall_zip_2 _ _) (fun obj => F.args_object_init_3 obj _ _) F.entry_zip_new (meets_zip1 i l k) ⟨hi, ?_⟩
  have e1 : (z1A s.heap i).objs.size = s.heap.objs.size + 1 := Heap.size_push ..
  have e2 : (z1B s.heap i).objs.size = s.heap.objs.size + 2 := by rw [Heap.size_push, e1]
  have e3 : (z1C s.heap i).objs.size = s.heap.objs.size + 3 := by rw [Heap.size_push, e2]
  have g3 : (z1C s.heap i).get? (z1B s.heap i).objs.size = some _ := Heap.get?_push_size _ rfl
  have g2 : (z1C s.heap i).get? (z1A s.heap i).objs.size = some _ := Heap.get?_push_of_some _ (Heap.get?_push_size _ rfl)
  have g1 : (z1C s.heap i).get? s.heap.objs.size = some _ := Heap.get?_push_of_some _ (Heap.get?_push_of_some _ (Heap.get?_push_size _ rfl))
  show _ ∧ _
  rw [e2] at g3 ⊢
  rw [e1] at g2 g3
  exact ⟨⟨_, g3, rfl⟩, h _ g3 g1 g2 e3 fun c o q => Heap.get?_push_of_some _ (Heap.get?_push_of_some _ (Heap.get?_push_of_some _ q))⟩
end
end Mine
end
section
open PySem PySem.W PySem.Calls PyProof.Rows Builtin Builtin.ObjectAttr Builtin.Str
namespace Mine
noncomputable def PatKG (K : Frag) (pat tb : Addr) (code : Array Nat) : Prop :=
  ∃ fs t1 t2 sl its n d sl2, K.lookup pat = some ⟨.type "re.Pattern", none, .fields fs, sl⟩ ∧ fs.getD 6 .none = .int 0 t1 ∧ fs.getD 2 .none = .int 1 t2 ∧ fs.getD 5 .none = .ref tb ∧ K.lookup tb = some ⟨.type "tuple", d, .seq its n, sl2⟩ ∧ (its.map Builtin.Re.reRawOf).map (·.toNat) = code
theorem PatKG.at {K : Frag} {pat tb : Addr} {code : Array Nat} {h : Heap} (p : PatKG K pat tb code) (Y : K.In h) : PatAtG h pat code ∧ ∃ o, h.get? pat = some o ∧ o.cls = .type "re.Pattern" ∧ o.dict = none := by
  refine qg fun G kG => ?_
  obtain ⟨fs, t1, t2, sl, its, n, d, sl2, e1, e2, e3, e4, e5, e6⟩ := p
  refine kG ?_
  exact ⟨⟨_, fs, tb, _, its, n, t1, t2, Y _ _ e1, rfl, rfl, e2, e3, e4, Y _ _ e5, rfl, rfl, e6⟩, _, Y _ _ e1, rfl, rfl⟩
structure Fa (K : Frag) (mg : Str → Option Value) : Prop where
  split : FnAt K 123 (inCls 11 7) "_ValueFormatter._ascii_split" [] .none 122
  fSplit : findIn K (.ref 133) "_ascii_split" = some (some (.ref 123))
  kSplit : keepIn K (.ref 123) = true ∧ isFn K (.ref 123) = true
  g : mg "twin_re_1_header" = some (.ref 60)
  p : PatKG K 60 59 cS
  gz : mg "zip" = none
  gi : mg "iter" = none
section
variable {Pk : Addr → Prop}
variable {T : Tabs} {K : Frag} {cd : ClassData} {mg mb : Str → Option Value} {w : World} {A : Around} {s : Shared} {g h₀ h h' h₁ h₂ : Heap} {W W' : List Addr} {L C : Addr} {m : Str → Option Value} {kn : List (Addr × Obj)} {R : Result → Shared → Prop} {E : Value → Shared → Prop} {prog : Program}
theorem patG_meth {pat tb : Addr} {code : Array Nat} {name : Str} {id : String} {pl : Sem Bool} {Q : Value × List Value → Shared → Prop} (p : PatKG K pat tb code) (Y : K.In s.heap) (slot : Slot "re.Pattern" name id) (ty : typeOf (.builtin id) = pure (.type "method_descriptor")) (h : Q (.builtin id, [.ref pat]) s) :
    wpAny (model prog w) A (getMethod (.ref pat) name pl) Q E s := by
  obtain ⟨_, o, e1, e2, e3⟩ := p.at Y
  exact getMethod_builtin ⟨o, e1, e2⟩ plainAttrs_pat slot ty (fun a e => by cases e; exact ⟨o, e1, e3⟩) h
theorem set_slice {l sl b : Addr} {its new : Array Value} {ep en : Nat} {vl vu : Value} {lo hi : Option Int} {Q : Unit → Shared → Prop} (hl : s.heap.get? l = some (lstO its ep)) (hs : s.heap.IsSliceOf sl vl vu .none) (pl : IsPart vl lo) (pu : IsPart vu hi)
    (hb : s.heap.get? b = some (lstO new en)) (hne : l ≠ b) (hsz : its.size + new.size ≤ 100000)
    (h : Q () { s with heap := s.heap.update l (Obj.mapSeq fun xs => sliceSet xs new (sliceBounds lo hi none its.size).1 (sliceBounds lo hi none its.size).2.1) }) : wpAny (model prog w) A (setItem (.ref l) (.ref sl) (.ref b)) Q E s := by
  have hT : s.TypeIs (.ref l) "list" := ⟨_, hl, rfl⟩
  unfold setItem
  refine wpAny_holding (wpAny_bind ?_)
  refine wpAny_sequenceKey hT (by decide) (wpAny_bind ?_)
  refine wpAny_callSpecial?_slot hT slot_list_setitem ?_
  exact list_setSlice (LstAt.exact hl) hs pl pu hb hne hsz (wpAny_pure h)
theorem set_front (its new : Array Value) : sliceSet its new (sliceBounds none (some 0) none its.size).1 (sliceBounds none (some 0) none its.size).2.1 = new ++ its := by
  have e : sliceBounds none (some 0) none its.size = (0, 0, 1) := by
    simp only [sliceBounds, Option.getD_none, show (1 : Int) > 0 by decide, if_true]
    simp
    exact Int.max_eq_left (Int.min_le_left _ _)
  rw [e]
  unfold sliceSet
  apply Array.ext'
  simp
theorem callWith_starT {T : String} {pos : Pos} {x : Sem Value} {Q : Value → Shared → Prop}
    (h : wpAny (model prog w) A x (fun v s₁ => ∃ l its ep, v = .ref l ∧ s₁.heap.get? l = some (lstO its ep) ∧ its.size ≤ 1000 ∧
      ∀ h', (∀ b o, s₁.heap.get? b = some o → h'.get? b = some o) → wpAny (model prog w) A (call (.type T) its.toList) Q E { s₁ with heap := h' }) E s) :
    wpAny (model prog w) A (callWith pos (.type T) [] [(true, x)] []) Q E s := by
  unfold callWith evalArgs
  refine wpAny_bind (wpAny_holding (wpAny_bind (wpAny_mono h (fun v s₁ h₁ => ?_) fun _ _ z => z)))
  refine qg fun G kG => ?_
  obtain ⟨l, its, ep, rfl, hl, hz, h₂⟩ := h₁
  refine kG ?_
  have hT : s₁.TypeIs (.ref l) "list" := ⟨_, hl, rfl⟩
  refine wpAny_bind (wpAny_pure (wpAny_holding ?_))
  refine wpAny_bind (wpAny_pure ?_)
  refine wpAny_bind (wpAny_bind ?_)
  show wpAny _ _ (notIterableAtAll (.ref l)) _ _ s₁
  unfold notIterableAtAll
  refine wpAny_bind (wpAny_specialOf hT PySem.F.slot_list_iter.lookup ?_)
  refine wpAny_pure ?_
  dsimp only
  refine wf (by decide) ?_
  refine wpAny_holding (wpAny_collect_seq l (.inl rfl) hl rfl rfl (fun h' k => ?_) (by rw [sizeLine_eq]; exact Nat.le_trans hz (by decide)))
  have hc := h₂ h' k
  refine wpAny_pure (wpAny_bind (wpAny_standAt ?_))
  show wpAny _ _ (pure Keeper.machine >>= _) _ _ _
  refine wpAny_bind (wpAny_pure ?_)
  refine wpAny_bind (wpAny_mono (wpAny_operateT hc) (fun r s₂ hr => wpAny_bind (wpAny_holding (wpAny_point (wpAny_pure hr)))) fun _ _ x => x)
theorem slot_list_pop' : Slot "list" "pop" "list.pop" := PySem.F.slot_list_pop
theorem ty_listpop : typeOf (.builtin "list.pop") = pure (.type "method_descriptor") := by show builtinType _ = _; rw [builtinType_eq_fast]; kernel_rfl
theorem boot_iter : bootBuiltins "iter" = some (.builtin "iter") := by decide +kernel
theorem empty_app (x : Str) : ("" : Str) ++ x = x := str_inj (by rw [show ((("" : Str) ++ x).cps.toList) = wl "" ++ wl x from wl_app _ _]; rfl)
end
noncomputable def headW : WS → List Nat
  | [] => []
  | p :: _ => wl p.2
theorem GoodV.split {ws : WS} (h : GoodV ws) : valL ws = headW ws ++ valL ws.tail ∧ (∀ c ∈ headW ws, isB c = false) ∧ TailOk ws.tail ∧ (ws = [] ∨ ∃ p us, ws = p :: us ∧ p.1 = "" ∧ headW ws ≠ []) := by
  have wordB : ∀ p ∈ ws, wl p.2 ≠ [] ∧ ∀ c ∈ wl p.2, isB c = false := fun p hp => by
    obtain ⟨h1, t, ht⟩ := h.word p hp
    exact ⟨by rw [ht]; simp, fun c hc => by rcases h1 c hc with rfl | rfl <;> rfl⟩
  cases ws with
  | nil => exact ⟨rfl, (fun _ q => nomatch q), (fun _ q => nomatch q), .inl rfl⟩
  | cons p us =>
    have hp := h.first p rfl
    have hw := wordB p (.head _)
    refine ⟨?_, hw.2, fun q hq => ⟨h.tail q hq, wordB q (.tail _ hq)⟩, .inr ⟨p, us, rfl, hp, hw.1⟩⟩
    show (wl p.1 ++ wl p.2) ++ valL us = wl p.2 ++ valL us
    rw [hp]; rfl
theorem StrsAre.at' {vs : List Value} {ys : List Str} (h : StrsAre vs ys) {i : Nat} {v : Value} (e : vs[i]? = some v) : ∃ y t, ys[i]? = some y ∧ v = .str y t := by
  induction h generalizing i with
  | nil => cases e
  | cons y t _ ih =>
    cases i with
    | zero => cases e; exact ⟨_, _, rfl, rfl⟩
    | succ i => exact ih e
section
variable {Pk : Addr → Prop}
variable {T : Tabs} {K : Frag} {cd : ClassData} {mg mb : Str → Option Value} {w : World} {A : Around} {s : Shared} {g h₀ h h' h₁ h₂ : Heap} {W W' : List Addr} {L C : Addr} {m : Str → Option Value} {kn : List (Addr × Obj)} {R : Result → Shared → Prop} {E : Value → Shared → Prop} {prog : Program}
variable {f df l x d : Addr} {width : Int} {lines : List Str} {ps : List (Str × Str)} {n : Int}
theorem FmtAt.frame (F : FmtAt Pk w g h f df l x d width lines ps n) (Fz : Addr → Prop) (k : ∀ b o, Fz b → h.get? b = some o → h'.get? b = some o) (hf : Fz f ∧ Fz df ∧ Fz l ∧ Fz x ∧ Fz d) (hP : ∀ t, Pk t → Fz t) : FmtAt Pk w g h' f df l x d width lines ps n := by
  refine qg fun G kG => ?_
  obtain ⟨f1, f2, f3, f4, f5⟩ := hf
  refine kG ?_
  obtain ⟨es, e1, e2⟩ := F.dd
  refine qg fun G kG => ?_
  obtain ⟨its, ep, e3, e4⟩ := F.lst
  refine kG ?_
  refine qg fun G kG => ?_
  obtain ⟨its', ep', tk, tn, a, p⟩ := F.acc
  refine kG ?_
  exact ⟨k _ _ f1 F.o, ⟨es, k _ _ f2 e1, e2⟩, ⟨its, ep, k _ _ f3 e3, e4⟩, ⟨its', ep', tk, tn, ⟨k _ _ f4 a.o, k _ _ f5 a.d⟩, p.imp fun _ _ ⟨t, ta, tb, e, b⟩ => ⟨t, ta, tb, e, k _ _ (hP _ t.2) b⟩⟩, F.zl, F.zx, F.zd⟩
noncomputable def stF (width : Int) (nn : Nat) (ws : WS) (i : Nat) : List Str × WS × Nat := (ws.take i).foldl (chunkG width) ([], [], nn)
theorem stF_succ {nn : Nat} {ws : WS} {i : Nat} {p : Str × Str} (h : ws[i]? = some p) : stF width nn ws (i + 1) = chunkG width (stF width nn ws i) p := by
  unfold stF
  rw [List.take_add_one, h, List.foldl_append]; rfl
theorem GoodV.short {ws : WS} (h : GoodV ws) : ∀ p ∈ ws, p.1.length + p.2.length ≤ 17 ∧ ∃ t, wl p.2 = t ++ [111] := fun p hp => by
  refine ⟨?_, (h.word p hp).2⟩
  have h2 := h.lens p hp
  have h1 : p.1.length ≤ 2 := by
    cases ws with
    | nil => cases hp
    | cons q us =>
      rcases List.mem_cons.mp hp with rfl | hp
      · rw [h.first p rfl]; exact Nat.zero_le _
      · rw [← wl_len]; rcases h.tail p hp with e | e <;> rw [e] <;> decide
  lia
theorem GoodV.fi {ws : WS} (h : GoodV ws) (nn i : Nat) (hi : i ≤ ws.length) : FI nn i (stF width nn ws i) := by
  have := FI.fold (W := width) (FI.start nn) (ws := ws.take i) fun p hp => h.short p (List.mem_of_mem_take hp)
  rw [List.length_take, Nat.min_eq_left hi, Nat.zero_add] at this
  exact this
theorem flatP_at : ∀ {ws : WS} {i : Nat} {p : Str × Str}, ws[i]? = some p → (flatP ws)[2 * i]? = some p.1 ∧ (flatP ws)[2 * i + 1]? = some p.2
  | [], _, _, h => by cases h
  | q :: ws, 0, p, h => by cases h; exact ⟨rfl, rfl⟩
  | q :: ws, i + 1, p, h => by
    have := flatP_at (ws := ws) (i := i) (p := p) h
    exact this
noncomputable abbrev asEnv (L : Addr) : Env := envX "_ValueFormatter._ascii_split" (fScope (inCls 11 7)) L 123 (.ref 122) []
noncomputable abbrev asBody : List Stmt := forBody (stAt (fBody (inCls 11 7)) 2)
theorem asplit_loop {z TI TO I D : Addr} {xs : Array Value} {ws : WS} {nn : Nat} {px py pt : Pos} {kt : Nat} {hN : Heap} {Rf : Result → Shared → Prop} (V : Fv K) (X : Fx K cd) (X2 : Fx2 K) (G : Gb T K mg mb g) (GM : Gm mg) (r : Rm A 12) (hT : (183, 179) ∈ T) (hT2 : (190, 186) ∈ T)
   (hPk : ∀ t, Pk t ↔ hN.get? t = none) (hst : StrsAre xs.toList (flatP ws)) (hv : GoodV ws) (h1 : 0 < nn) (h2 : nn ≤ 1000)
   (Tn : Turns PR w A T g [l, x, d] h₀ (.Tuple [.Name "fws" px, .Name "part" py] kt pt) (asEnv L) z [z, TI, TO, I, D] [z, TO, I] ws.length (fun i m m' => ∃ v v', (∃ x y, xs[2 * i]? = some x ∧ xs[2 * i + 1]? = some y ∧ #[v, v'] = #[x, y]) ∧ m' = fun q : Str => if q = "part" then some v' else if q = "fws" then some v else m q) (fun k h => Z1At h z TI TO I D .none (2 * k) xs))
   (hz : hN.get? z ≠ none) (hTO : hN.get? TO ≠ none) (hI : hN.get? I ≠ none) (hLN : hN.get? L ≠ none)
   (ap : ∀ b ∈ [f, df, l, x, d], b ∉ [z, TO, I] ∧ b ≠ L) (aq : ∀ b ∈ [z, TI, TO, I, D], b ∉ [l, x, d] ∧ b ∉ T.map (·.2)) (s₀ : Shared)
   (hR : ∀ s' m', J T g [l, x, d] h₀ L s'.heap m' [] → Ok s₀ s' → FmtAt Pk w g s'.heap f df l x d width (stF width nn ws ws.length).1 (stF width nn ws ws.length).2.1 (stF width nn ws ws.length).2.2 → Rf (.ok .next) s') :
   ∀ (k i : Nat) (s : Shared) (m : Str → Option Value), ws.length - i = k → i ≤ ws.length → J T g [l, x, d] h₀ L s.heap m [] → m "self" = some (.ref f) → Z1At s.heap z TI TO I D .none (2 * i) xs →
     FmtAt Pk w g s.heap f df l x d width (stF width nn ws i).1 (stF width nn ws i).2.1 (stF width nn ws i).2.2 → (∀ b o, hN.get? b = some o → ∃ o', s.heap.get? b = some o') → Ok s₀ s →
     codeAny (model PR w) A (.forLoop (.Tuple [.Name "fws" px, .Name "part" py] kt pt) (.ref z) asBody [] (asEnv L)) Rf s := by
  have frm : ∀ {h h' : Heap} {ls ps n}, FmtAt Pk w g h f df l x d width ls ps n → (∀ b o, b ∉ [z, TO, I] → b ≠ L → h.get? b = some o → h'.get? b = some o) → FmtAt Pk w g h' f df l x d width ls ps n := fun F k =>
    F.frame (fun b => b ∉ [z, TO, I] ∧ b ≠ L) (fun b o hb => k b o hb.1 hb.2) ⟨ap _ m1, ap _ m2, ap _ m3, ap _ m4, ap _ m5⟩ fun t ht => by
      have ht := (hPk t).mp ht
      exact ⟨ni3 (fun q => hz (q ▸ ht)) (fun q => hTO (q ▸ ht)) (fun q => hI (q ▸ ht)), fun q => hLN (q ▸ ht)⟩
  intro k
  induction k with
  | zero =>
    intro i s m hk hi j hm hs F hth ok
    obtain rfl : i = ws.length := de0 hk hi
    refine for_done Tn hs j (by exact al0) fun h' tk' j' kp => ?_
    exact hR _ m j' ⟨ok.1, ok.2⟩ (frm F fun b o hb _ e => kp b o hb e)
  | succ k ih =>
    intro i s m hk hi j hm hs F hth ok
    have hin : i < ws.length := dlt hk
    refine for_step Tn hin hs j (by exact al0) fun h₁ t₁ m₁ hu j₁ hs₁ k₁ => ?_
    obtain ⟨v, v', ⟨xv, yv, ex, ey, exy⟩, rfl⟩ := hu
    obtain ⟨rfl, rfl⟩ : v = xv ∧ v' = yv := by simpa using exy
    have th₁ : ∀ b o, s.heap.get? b = some o → ∃ o', h₁.get? b = some o' := fun b o e => by
      by_cases qL : b = L
      · obtain ⟨o', _, _, e', _⟩ := j₁.ns
        exact ⟨o', qL ▸ e'⟩
      refine qg fun G kG => ?_
      obtain ⟨z1, _, ⟨a, c, z2⟩, ⟨o', z3, _⟩, _⟩ := hs₁
      refine kG ?_
      by_cases q1 : b = z
      · exact ⟨_, q1 ▸ z1⟩
      by_cases q2 : b = TO
      · exact ⟨_, q2 ▸ z2⟩
      by_cases q3 : b = I
      · exact ⟨_, q3 ▸ z3⟩
      exact ⟨o, k₁ b o (ni3 q1 q2 q3) qL e⟩
    have ep : ws[i]? = some ws[i] := List.getElem?_eq_getElem hin
    obtain ⟨f1, f2⟩ := flatP_at ep
    obtain ⟨y1, ta, ea, rfl⟩ := StrsAre.at' hst (i := 2 * i) (by rw [Array.getElem?_toList]; exact ex)
    obtain ⟨y2, tb, eb, rfl⟩ := StrsAre.at' hst (i := 2 * i + 1) (by rw [Array.getElem?_toList]; exact ey)
    rw [f1] at ea
    rw [f2] at eb
    cases ea
    cases eb
    have F₁ := frm F fun b o hb hL e => k₁ b o hb hL e
    have hp := List.getElem_mem hin
    have fi := hv.fi (width := width) nn i (Nat.le_of_lt hin)
    obtain ⟨sm1, sm2, sm3⟩ := fi.small (Nat.le_trans hi (Nat.le_trans hv.len (by decide))) (hv.short _ hp).1
    have hlen := fi.len
    have hlw := hv.len
    refine xc fun _ hk' => wpAny_Expr (MethodCall_ ?_)
    refine j_local (s := { s with heap := h₁, toks := t₁ }) j₁ (v := .ref f) (ine (by decide) (ine (by decide) hm)) ?_
    refine f_meth (s := { s with heap := h₁, toks := t₁ }) V G j₁.mv.st F₁ V.fChunk (V.keep 130 (by decide)).2 (by intros; rfl) ?_
    refine j_callWith (V.keep 130 (by decide)).1 (args_cons ?_)
    refine j_local (s := { s with heap := h₁, toks := t₁ }) j₁ (v := .str ws[i].1 ta) (ine (by decide) (ipo rfl)) (args_cons ?_)
    refine j_local (s := { s with heap := h₁, toks := t₁ }) j₁ (v := .str ws[i].2 tb) (ipo rfl) (args_nil ⟨j₁.mv.st.In G, wpAny_call ?_⟩)
    refine chunk_spec (s := { s with heap := h₁, toks := t₁ }) (p := ws[i]) (nn := (stF width nn ws i).2.2) (fun hne => ?_) (fun e => by rw [(fi.pos e).1]; exact h1) (Nat.le_trans fi.n h2) V X X2 G GM j₁.mv.st (r.mono (by decide)) (fun t ht => (hPk t).mpr ?_) hT hT2 F₁ sm1 (by lia) sm2 (Int.le_trans sm3 (by decide)) fun s₂ mv₂ ok₂ F₂ => ?_
    · cases i with
      | zero => exact absurd rfl hne
      | succ i => exact hv.tail _ (by rw [← List.drop_one]; exact List.mem_drop_iff_getElem.mpr ⟨i, by omega, by congr 1; lia⟩)
    · cases q : hN.get? t with
      | none => rfl
      | some o =>
        obtain ⟨o', e'⟩ := hth t o q
        obtain ⟨o2, e2⟩ := th₁ t o' e'
        rw [show h₁.get? t = none from ht] at e2
        cases e2
    · have j₂ : J T g [l, x, d] h₀ L s₂.heap _ [] := j₁.callK mv₂ (by exact ni3 (ap l m3).2.symm (ap x m4).2.symm (ap d m5).2.symm) (by exact al3 (.inl m1) (.inl m2) (.inl m3)) (by exact al0)
      rw [← stF_succ ep] at F₂
      refine hk' s₂ (wpAny_execs_nil ?_)
      refine ih (i + 1) s₂ _ (dst hk) hin j₂ (ine (by decide) (ine (by decide) hm)) ?_ F₂ (fun b o e => ?_) ⟨ok₂.1.trans ok.1, fun a => ok₂.2 (ok.2 a)⟩
      · exact Tn.stable (i + 1) h₁ s₂.heap hs₁ fun b hb o e => mv₂.keep b o e (aq b hb).2 (.inl (aq b hb).1)
      · obtain ⟨o', e'⟩ := hth b o e
        obtain ⟨o2, e2⟩ := th₁ b o' e'
        exact mv₂.there b o2 e2
end
end Mine
end
section
open PySem PySem.W PySem.Calls PyProof.Rows Builtin Builtin.ObjectAttr Builtin.Str
namespace Mine
section
variable {Pk Pk' : Addr → Prop}
variable {T : Tabs} {K : Frag} {cd : ClassData} {mg mb : Str → Option Value} {w : World} {A : Around} {s : Shared} {g h₀ h h' h₁ h₂ : Heap} {W W' : List Addr} {L C : Addr} {m : Str → Option Value} {kn : List (Addr × Obj)} {R : Result → Shared → Prop} {E : Value → Shared → Prop} {prog : Program}
variable {f df l x d : Addr} {width : Int} {lines : List Str} {ps : List (Str × Str)} {n : Int}
theorem FmtAt.any (F : FmtAt Pk w g h f df l x d width lines ps n) : FmtAt anyA w g h f df l x d width lines ps n := by
  refine qg fun G kG => ?_
  obtain ⟨its', ep', tk, tn, a, p⟩ := F.acc
  refine kG ?_
  exact ⟨F.o, F.dd, F.lst, ⟨its', ep', tk, tn, a, p.imp fun _ _ q => q.any⟩, F.zl, F.zx, F.zd⟩
theorem FmtAt.nil (F : FmtAt Pk w g h f df l x d width lines [] n) : FmtAt Pk' w g h f df l x d width lines [] n := by
  refine qg fun G kG => ?_
  obtain ⟨its', ep', tk, tn, a, p⟩ := F.acc
  refine kG ?_
  refine ⟨F.o, F.dd, F.lst, ⟨its', ep', tk, tn, a, ?_⟩, F.zl, F.zx, F.zd⟩
  cases q : its'.toList with
  | nil => exact .nil
  | cons a b => rw [q] at p; cases p
theorem GoodV.valLen {ws : WS} (h : GoodV ws) : (valL ws).length ≤ 102 := by
  have h1 := psum_le (B := 17) fun p hp => (h.short p hp).1
  have h2 := valL_len ws
  rw [plen_sum] at h2
  have := h.len
  lia
theorem strsAre_vals : ∀ l : List (Str × Tok), StrsAre (strValues l) (l.map (·.1))
  | [] => .nil
  | (x, t) :: l => .cons x t (strsAre_vals l)
theorem vals_cons {l : List (Str × Tok)} {y : Str} {ys : List Str} (h : l.map (·.1) = y :: ys) : ∃ t l', l = (y, t) :: l' ∧ l'.map (·.1) = ys := by
  cases l with
  | nil => cases h
  | cons q l => exact ⟨q.2, l, by rw [← (List.cons.inj h).1], (List.cons.inj h).2⟩
theorem St.newT {b : Addr} (S : St T g h) (e : h.get? b = none) : b ∉ T.map (·.2) := fun hm => by
  obtain ⟨q, hq, rfl⟩ := List.mem_map.mp hm
  obtain ⟨ps, ps₀, x, y, z⟩ := S.tab q hq
  have := y.2
  rw [e] at this
  cases this
theorem zap {n i l : Nat} (h1 : i < n) (h2 : l < n) (h3 : l ≠ i) : Z1 (n + 2) n (n + 1) i l :=
  ⟨(by lia : n ≠ n + 2), (by lia : n + 1 ≠ n + 2), (by lia : i ≠ n + 2), (by lia : n ≠ n + 1), (by lia : n ≠ i), (by lia : n + 1 ≠ i), (by lia : l ≠ n + 2), (by lia : l ≠ n + 1), h3⟩
theorem erase_one (v : Value) : (#[v] : Array Value).eraseIdxIfInBounds 0 = #[] := by simp [Array.eraseIdxIfInBounds]
theorem entry_iter : entryFor table "iter" = some Builtin.«iter» := entryFor_of_fast (by kernel_rfl)
theorem args_iter (a : Value) : argsOk "iter" ⟨[a], []⟩ := by unfold argsOk; kernel_rfl
theorem iter_list {D : Addr} {its : Array Value} {ep : Nat} {Q : Value → Shared → Prop} (hl : s.heap.get? D = some (lstO its ep)) (h : Q (.ref s.heap.objs.size) { s with heap := s.heap.push { cls := .type "list_iterator", data := .fields #[.ref D, .int 0 0] } }) : wpAny (model prog w) A (call (.builtin "iter") [.ref D]) Q E s := by
  refine call_function_entry (by decide +kernel) (by decide +kernel) entry_iter (args_iter _) ?_
  unfold Builtin.«iter»
  refine wpAny_bind (m := someArgs "iter" 1 2 _) (wpAny_of_eq (a := [Value.ref D]) (by first | rfl | kernel_rfl!) ?_)
  show wpAny _ _ (pyIter (.ref D) >>= _) _ _ _
  exact wpAny_bind (wpAny_pyIter_list ⟨_, hl, rfl, _, rfl⟩ (wpAny_pure ⟨_, rfl, h⟩))
theorem mk_len (v : List Nat) : (mkS v).length = v.length := (wl_len _).symm
theorem nodict {D : Addr} {its : Array Value} {ep : Nat} (e : s.heap.get? D = some (lstO its ep)) : s.heap.NoDictAt (.ref D) := ⟨_, e, rfl⟩
theorem asplit_spec {ws : WS} {nn : Nat} {ta tb tc : Tok} (FA : Fa K mg) (V : Fv K) (X : Fx K cd) (X2 : Fx2 K) (G : Gb T K mg mb g) (GM : Gm mg) (S : St T g s.heap) (r : Rm A 13) (hT : (183, 179) ∈ T) (hT2 : (190, 186) ∈ T)
   (hv : GoodV ws) (hn1 : 0 < nn) (hn2 : nn ≤ 1000) (F : FmtAt anyA w g s.heap f df l x d width [] [] nn)
   (hR : ∀ s', Mv T g [l, x, d] s.heap s'.heap → Ok s s' → FmtAt anyA w g s'.heap f df l x d width (stF width nn ws ws.length).1 (stF width nn ws ws.length).2.1 (stF width nn ws ws.length).2.2 → R (.ok (.ret .none)) s') :
   codeAny (model PR w) A (.call (.ref 123) ⟨[.ref f, .str "" ta, .str (mkS (valL ws)) tb, .str " " tc], []⟩) R s := by
  refine' j_callK (binds := [("self", .ref f), ("fws", .str "" ta), ("string", .str (mkS (valL ws)) tb), ("splitchars", .str " " tc)]) [l, x, d] [] G S Kn.nil FA.split r.lt (fun _ _ _ _ _ _ => BindsTo.of_eq rfl) (locs rfl) (by decide) ?_ rfl rfl rfl
  intro L h₁ t₁ j mv₁
  have rr := r.deeper (env := asEnv L)
  obtain ⟨ix, epx, hx0⟩ := F.acc.o
  obtain ⟨tkd, tnd, hd0⟩ := F.acc.d
  obtain ⟨es₀, dfe, _⟩ := F.dd
  obtain ⟨its₀, ep₀, hl0, _⟩ := F.lst
  have hf0 := F.o
  obtain ⟨sp1, sp2, sp3, sp4⟩ := hv.split
  have hvl := hv.valLen
  have hxs : (mkS (valL ws)).cps.size ≤ 102 := by rw [show (mkS (valL ws)).cps.size = (valL ws).length from List.size_toArray]; exact hvl
  refine xc fun _ hk => wpAny_Assign_Name (MethodCall_ ?_)
  refine j_global (s := { s with heap := h₁, toks := t₁ }) G j FA.g ?_
  refine patG_meth (s := { s with heap := h₁, toks := t₁ }) FA.p (j.mv.st.In G) slot_split ty_resplit ?_
  refine callWith_method1 (args_cons (wpAny_BinOp ?_))
  refine j_local (s := { s with heap := h₁, toks := t₁ }) j rfl ?_
  refine j_local (s := { s with heap := h₁, toks := t₁ }) j rfl ?_
  refine PyProof.Rows.add_str (fun t₂ k₂ => ?_) (by rw [length_empty, Nat.zero_add, sizeLine_eq]; exact Nat.le_trans hxs (by decide))
  rw [empty_app]
  refine args_nil ?_
  refine call_split (s := { s with heap := h₁, toks := k₂ }) (FA.p.at (j.mv.st.In G)).1 (Nat.le_trans hxs (by decide)) (w₀ := headW ws) (ws := ws.tail) sp1 sp2 sp3 fun l' k' hl' => ?_
  obtain ⟨D, h₂, eD, e2, j₂, mv₂, nD, nD₁⟩ := J.pushK j (lstObj (strValues l')) rfl
  rw [← eD, ← e2]
  refine j_storeK (s := { s with heap := h₂, toks := k' }) j₂ fun h₃ t₃ j₃ mv₃ => hk { s with heap := h₃, toks := t₃ } ?_
  clear hk
  obtain ⟨t0, l0, rfl, hl0'⟩ := vals_cons hl'
  refine xc fun _ hk => ?_
  refine wpAny_mono (Q := fun fl s' => fl = .next ∧ ∃ h' tk its' ep' m', s' = { s with heap := h', toks := tk } ∧ J T g [l, x, d] s.heap L h' m' [(D, lstO its' ep')] ∧ m' "self" = some (.ref f) ∧ m' "parts" = some (.ref D) ∧ StrsAre its'.toList (flatP ws) ∧ Mv T g [D] h₃ h') (wpAny_If (wpAny_isTrue_value (Subscript_ ?_))) ?_ fun _ _ e => e
  · refine j_local (s := { s with heap := h₃, toks := t₃ }) j₃ rfl (wpAny_Constant_int ?_)
    refine subTail_builtin (T := "list") ⟨_, j₃.get (.head _), rfl⟩ list_getitem_lookup (wpAny_getItem_list (k := 0) (x := .str (mkS (headW ws)) t0) ⟨_, j₃.get (.head _), rfl, _, rfl⟩ (by decide) (by decide) (by rfl) ?_) (.inl rfl)
    have hhl : (headW ws).length ≤ 102 := by
      have := congrArg List.length sp1
      rw [List.length_append] at this
      lia
    refine PySem.P.truthy_str (by rw [mk_len]; lia) ?_
    rcases sp4 with rfl | ⟨p, us, rfl, hp1, hne⟩
    · rw [if_neg (by decide)]
      have l00 : l0 = [] := List.map_eq_nil_iff.mp hl0'
      subst l00
      refine wpAny_execs_cons (wpAny_Expr (MethodCall_ (j_local (s := { s with heap := h₃, toks := _ }) j₃ rfl ?_)))
      refine getMethod_list_of (s := { s with heap := h₃, toks := _ }) slot_list_pop' ty_listpop ⟨_, j₃.get (.head _), rfl, _, rfl⟩ (nodict (j₃.get (.head _))) ?_
      refine callWith_method1 (args_cons (wpAny_Constant_int (args_nil ?_)))
      refine call_meets PySem.F.slot_list_pop (T := "list") ⟨_, j₃.get (.head _), rfl⟩ PySem.F.entry_list_pop (PySem.F.args_list_pop_2 _ _) (PySem.MeetsSeq.list_pop_at D (strValues [(mkS (headW []), t0)]).toArray 0 0 _ 0 (.str (mkS (headW [])) t0) (by decide) (by rfl) (by rfl) (show 1 ≤ sizeLine by decide)) ⟨j₃.get (.head _), ?_⟩
      obtain ⟨ep', ee⟩ := mapSeq_lst (strValues [(mkS (headW []), t0)]).toArray #[] 0 (fun xs => xs.eraseIdxIfInBounds 0) (erase_one _)
      have j₄ := j₃.update 0 rfl (.inr nD) (by exact tnL) ee rfl
      exact wpAny_execs_nil ⟨rfl, _, _, _, _, _, rfl, j₄, rfl, rfl, .nil, j₃.updMv (.head _) (by exact tnL) ee rfl⟩
    · have hlen : (headW (p :: us)).length ≠ 0 := fun q => hne (List.eq_nil_of_length_eq_zero q)
      rw [if_pos (by rw [mk_len]; simpa using hlen)]
      refine wpAny_execs_cons (wpAny_Assign_Subscript (List_ (args_cons (Constant_str (args_nil ?_)))))
      refine j_newListK (s := { s with heap := h₃, toks := _ }) j₃ fun b h₅ j₅ mv₅ nb => ?_
      refine j_local (s := { s with heap := h₅, toks := _ }) j₅ rfl (e_Slice (wpAny_pure (wpAny_Constant_int (i := 0) (k := 0) (pos := ⟨0, 0, 0, 0⟩) ?_)))
      refine qg fun G kG => ?_
      obtain ⟨sl, h₆, esl, e6, j₆, mv₆, nsl, _⟩ := J.pushK j₅ (slObj .none (.int 0 _)) rfl
      refine kG ?_
      dsimp only
      rw [← esl, ← e6]
      have hf2 : (flatP (p :: us)) = ("" : Str) :: mkS (headW (p :: us)) :: flatP us := by
        show p.1 :: p.2 :: flatP us = _
        rw [hp1]
        show _ = ("" : Str) :: mkS (wl p.2) :: _
        rw [mk_wl]
      have hsz : (strValues ((mkS (headW (p :: us)), t0) :: l0)).toArray.size ≤ 100 := by
        have h1 := congrArg List.length hl0'
        rw [List.length_map, flatP_len] at h1
        have h2 := hv.len
        rw [List.size_toArray]
        show (List.map _ _).length + 1 ≤ _
        rw [List.length_map]
        have h3 : List.length (List.tail (p :: us)) = us.length := rfl
        have h4 : List.length (p :: us) = us.length + 1 := rfl
        lia
      refine set_slice (s := { s with heap := h₆, toks := _ }) (lo := none) (hi := some 0) (j₆.get (.tail _ (.tail _ (.head _)))) ⟨_, j₆.get (.head _), rfl, rfl⟩ (by constructor) (by constructor) (j₆.get (.tail _ (.head _))) (fun q => ?_) (by show _ + 1 ≤ _; lia) ?_
      · have := (List.nodup_cons.mp (List.nodup_cons.mp j₆.nd).2).1
        exact this (by simp only [← q]; exact .head _)
      · obtain ⟨ep', ee⟩ := mapSeq_lst (strValues ((mkS (headW (p :: us)), t0) :: l0)).toArray _ 0 (fun xs => sliceSet xs [Value.str "" _].toArray (sliceBounds none (some 0) none (strValues ((mkS (headW (p :: us)), t0) :: l0)).toArray.size).1 (sliceBounds none (some 0) none (strValues ((mkS (headW (p :: us)), t0) :: l0)).toArray.size).2.1) (set_front _ _)
        have j₇ := j₆.update 2 rfl (.inr nD) (by exact tnL) ee rfl
        refine wpAny_execs_nil ⟨rfl, _, _, _, _, _, rfl, j₇.sub (.cons _ (.cons _ (List.Sublist.refl _))), rfl, rfl, ?_, ((mv₅.trans mv₆ (by exact al0)).weak (by exact al0)).trans (j₆.updMv (.tail _ (.tail _ (.head _))) (by exact tnL) ee rfl) (by exact al1 (.inl m1))⟩
        rw [hf2, Array.toList_append]
        exact .cons _ _ (.cons _ _ (hl0' ▸ strsAre_vals l0))
  rintro _ _ ⟨rfl, h₄, t₄, its₄, ep₄, m₄, rfl, j₄, hm1, hm2, hst, mv₄⟩
  refine hk { s with heap := h₄, toks := t₄ } ?_
  clear hk
  refine xc fun _ hk => wpAny_For (Call_ ?_)
  refine j_builtin (s := { s with heap := h₄, toks := t₄ }) G j₄ FA.gz boot_zip ?_
  refine callWith_starT (x := do let v ← eval (.BinOp _ _ _ _) _; standAt _; pure v) (wpAny_bind (wpAny_BinOp (List_ (args_cons (Call_ ?_)))))
  refine j_builtin (s := { s with heap := h₄, toks := t₄ }) G j₄ FA.gi boot_iter ?_
  refine callWith_method1 (first := []) (args_cons (j_local (s := { s with heap := h₄, toks := t₄ }) j₄ hm2 (args_nil (iter_list (j₄.get (.head _)) ?_))))
  obtain ⟨I, h₅, eI, e5, j₅, mv₅, nI, nI4⟩ := J.pushK j₄ { cls := .type "list_iterator", data := .fields #[.ref D, .int 0 0] } rfl
  rw [← eI, ← e5]
  refine args_nil ?_
  refine j_newListK (s := { s with heap := h₅, toks := t₄ }) j₅ fun LI h₆ j₆ mv₆ nLI => ?_
  refine wpAny_Constant_int (mul_l (n := 2) (s := { s with heap := h₆, toks := _ }) (j₆.get (.head _)) (by decide) (show 1 ≤ 1000 by decide) (show 0 < 1 by decide) ?_)
  obtain ⟨LJ, h₇, eJ, e7, j₇, mv₇, nLJ, _⟩ := J.pushK j₆ (lstO ((List.replicate 2 [Value.ref I].toArray).foldl (· ++ ·) #[]) 0) rfl
  dsimp only
  rw [← eJ, ← e7]
  refine wpAny_bind (wpAny_standAt (wpAny_pure ⟨LJ, _, _, rfl, j₇.get (.head _), (show 2 ≤ 1000 by decide), fun h₈ k₈ => ?_⟩))
  obtain ⟨j₈, mv₈⟩ := j₇.keepsL k₈
  have gI := j₈.get (.tail _ (.tail _ (.head _)))
  have gD := j₈.get (.tail _ (.tail _ (.tail _ (.head _))))
  refine call_zip1 (s := { s with heap := h₈, toks := _ }) (i := I) (l := D) (k := 0) ⟨_, gI, rfl, rfl⟩ fun h₉ z1 z2 z3 z4 k₉ => ?_
  dsimp only at z1 z2 z3 z4 k₉ ⊢
  refine wpAny_pyIter_zip z1 ?_
  obtain ⟨j₉, mv₉⟩ := j₈.keepsL k₉
  have new : ∀ b, h₈.objs.size ≤ b → s.heap.get? b = none := fun b hb => none_back j₈.mv (Heap.get?_none_of_le hb)
  obtain ⟨oL, _, _, gL, _⟩ := id j₈.ns
  have ltI := Heap.lt_size gI
  have ltD := Heap.lt_size gD
  have ltL := Heap.lt_size gL
  have LI' := (j₈.has _ (.tail _ (.tail _ (.head _)))).2.1
  have LD := (j₈.has _ (.tail _ (.tail _ (.tail _ (.head _))))).2.1
  have DI : D ≠ I := fun q => by rw [q, gI] at gD; have := congrArg Obj.cls (Option.some.inj gD); simp at this
  have hsz : its₄.size = 2 * ws.length := by have := StrsAre.len hst; rw [Array.length_toList, flatP_len] at this; exact this
  have old : ∀ {b o}, s.heap.get? b = some o → b < h₈.objs.size ∧ b ≠ I ∧ b ≠ D ∧ b ≠ L := fun {b o} e => by
    obtain ⟨o', e'⟩ := j₈.mv.there b o e
    exact ⟨Heap.lt_size e', (fun q => by rw [q, nI] at e; cases e), (fun q => by rw [q, nD] at e; cases e), j.neL e⟩
  have mv49 : Mv T g [] h₄ h₉ := (((((mv₅.trans mv₆ (by exact al0)).trans mv₇ (by exact al0)).trans mv₈ (by exact al0)).trans mv₉ (by exact al0)))
  have F₁ := F.mv0 S mv₁
  have F₂ := F₁.mv0 j.mv.st mv₂
  have F₃ := F₂.out j₂.mv.st mv₃ (by exact al1 ⟨(old hf0).2.2.2.symm, (old dfe).2.2.2.symm, (old hl0).2.2.2.symm, (old hx0).2.2.2.symm, (old hd0).2.2.2.symm⟩)
  have F₄ := F₃.out j₃.mv.st mv₄ (by exact al1 ⟨(old hf0).2.2.1.symm, (old dfe).2.2.1.symm, (old hl0).2.2.1.symm, (old hx0).2.2.1.symm, (old hd0).2.2.1.symm⟩)
  have F₉ := F₄.mv0 j₄.mv.st mv49
  have Zap : Z1 (h₈.objs.size + 2) h₈.objs.size (h₈.objs.size + 1) I D := zap ltI ltD DI
  have Wk := fun Am (hA : Am.handled = none) => WalksT.zip1 (prog := PR) (w := w) (A := Am) hA (h₈.objs.size + 2) h₈.objs.size (h₈.objs.size + 1) I D Zap its₄ ws.length hsz
  have ap0 : ∀ {b o}, s.heap.get? b = some o → b ∉ [h₈.objs.size + 2, h₈.objs.size + 1, I] ∧ b ≠ L := fun e => ⟨ni3 (Nat.ne_of_lt (Nat.lt_add_right 2 (old e).1)) (Nat.ne_of_lt (Nat.lt_add_right 1 (old e).1)) (old e).2.1, (old e).2.2.2⟩
  have aq0 : ∀ {b}, s.heap.get? b = none → b ∉ [l, x, d] ∧ b ∉ T.map (·.2) := fun e => ⟨ni3 (fun q => by rw [q, hl0] at e; cases e) (fun q => by rw [q, hx0] at e; cases e) (fun q => by rw [q, hd0] at e; cases e), S.newT e⟩
  refine asplit_loop (Pk := fun t => h₉.get? t = none) (hN := h₉) (z := h₈.objs.size + 2) (TI := h₈.objs.size) (TO := h₈.objs.size + 1) (I := I) (D := D) (xs := its₄) V X X2 G GM (rr.mono (by decide)) hT hT2 (fun _ => Iff.rfl) hst hv hn1 hn2
    (Turns.pair (Wk _ rr.h) rr.h (fun i v ⟨_, _, _, _, e⟩ => by rw [e]; rfl) (al3 (new _ (Nat.le_add_right _ _)) (new _ (Nat.le_add_right _ _)) nI) (fun hm => ?_) (fun i h ⟨q1, q2, ⟨_, _, q3⟩, ⟨_, q4, _⟩, ⟨_, q5, _⟩⟩ => alC (Heap.lt_size q1) (alC (Heap.lt_size q2) (al3 (Heap.lt_size q3) (Heap.lt_size q4) (Heap.lt_size q5)))))
    (by rw [z1]; nofun) (by rw [z3]; nofun) (by rw [k₉ _ _ gI]; nofun) (by rw [k₉ _ _ gL]; nofun)
    (alC (ap0 hf0) (alC (ap0 dfe) (al3 (ap0 hl0) (ap0 hx0) (ap0 hd0)))) (alC (aq0 (new _ (Nat.le_add_right _ _))) (alC (aq0 (new _ (Nat.le_refl _))) (al3 (aq0 (new _ (Nat.le_add_right _ _))) (aq0 nI) (aq0 nD)))) s (fun s' m' j' ok' F' => ?_)
    ws.length 0 { s with heap := h₉, toks := _ } m₄ rfl (Nat.zero_le _) (j₉.sub (List.nil_sublist _)) hm1 ⟨z1, z2, ⟨_, _, z3⟩, ⟨_, j₉.get (.tail _ (.tail _ (.head _))), rfl, rfl⟩, ⟨_, j₉.get (.tail _ (.tail _ (.tail _ (.head _)))), rfl, _, rfl⟩⟩ F₉.nil (fun b o e => ⟨o, e⟩) ⟨rfl, id⟩
  · rcases List.mem_cons.mp hm with q | hm
    · exact Nat.ne_of_lt (Nat.lt_add_right 2 ltL) q
    rcases List.mem_cons.mp hm with q | hm
    · exact Nat.ne_of_lt ltL q
    rcases List.mem_cons.mp hm with q | hm
    · exact Nat.ne_of_lt (Nat.lt_add_right 1 ltL) q
    rcases List.mem_cons.mp hm with q | hm
    · exact LI' q.symm
    · exact LD (List.mem_singleton.mp hm).symm
  · exact hk s' (wpAny_execs_nil (hR s' j'.mv ok' F'.any))
end
end Mine
end
section
open PySem PySem.W PySem.Calls PyProof.Rows Builtin Builtin.ObjectAttr Builtin.Str
namespace Mine
theorem meets_pc {x y : Str} {t tx ty : Tok} {b : Addr} (hx : x.length ≤ 1000) (hy : y.length ≤ 1000) : Meets («str.__mod__» ⟨[.str ⟨#[37, 115, 58, 32, 37, 115]⟩ t, .ref b], []⟩) (fun _ R s => IsTup s.heap b #[.str x tx, .str y ty] ∧ ∀ t' k, R (.ok (.ret (.str (x ++ ": " ++ y) t'))) { s with toks := k }) := by kpt_run
structure Fg (K : Frag) : Prop where
  get : FnAt K 301 (inCls 16 8) "Headers.get" [] (.ref 294) 300
  items : FnAt K 318 (inCls 16 11) "Headers.items" [] .none 317
  str : FnAt K 330 (inCls 16 13) "Headers.__str__" [] .none 329
  setd : FnAt K 344 (inCls 16 15) "Headers.setdefault" [] .none 343
  d294 : ∃ d n sl, K.lookup 294 = some ⟨.type "tuple", d, .seq #[.none] n, sl⟩
  fGet : findIn K (.ref 354) "get" = some (some (.ref 301))
  fItems : findIn K (.ref 354) "items" = some (some (.ref 318))
  fStr : findIn K (.ref 354) "__str__" = some (some (.ref 330))
  fSetd : findIn K (.ref 354) "setdefault" = some (some (.ref 344))
  keep : ∀ f ∈ [(301 : Addr), 318, 330, 344], keepIn K (.ref f) = true ∧ isFn K (.ref f) = true
theorem pick_all (its : Array Value) : slicePick its none none none = its := by
  have e : sliceBounds none none none its.size = (((0 : Nat) : Int), ((its.size : Nat) : Int), 1) := by
    simp only [sliceBounds, Option.getD_none, show (1 : Int) > 0 by decide, if_true]
    simp
  rw [kmk_pick_nat _ e, List.drop_zero, Nat.sub_zero, List.take_of_length_le (by simp only [Array.length_toList]; exact Nat.le_refl _)]
section
variable {Pk : Addr → Prop}
variable {T : Tabs} {K : Frag} {cd : ClassData} {mg mb : Str → Option Value} {w : World} {A : Around} {s : Shared} {g h₀ h h' h₁ h₂ : Heap} {W W' : List Addr} {L C : Addr} {m : Str → Option Value} {kn : List (Addr × Obj)} {R : Result → Shared → Prop} {E : Value → Shared → Prop} {prog : Program}
variable {x d pl : Addr} {its : Array Value} {ep : Nat} {ps : List (Str × Str)}
theorem pc_pair {x y : Str} {t tx ty : Tok} {b : Addr} {Q : Value → Shared → Prop} (hb : s.heap.get? b = some (tupObj [.str x tx, .str y ty])) (hx : x.length ≤ 1000) (hy : y.length ≤ 1000) (h : ∀ t' k, Q (.str (x ++ ": " ++ y) t') { s with toks := k }) :
    wpAny (model prog w) A (binaryOp .Mod (.str "%s: %s" t) (.ref b)) Q E s := by
  rw [show ("%s: %s" : Str) = ⟨#[37, 115, 58, 32, 37, 115]⟩ by decide +kernel]
  exact KPt.bin_left (T := "str") (U := "tuple") (op := .Mod) (by decide) (typeIs_str s _ t) ⟨_, hb, rfl⟩ F.fills_str_mod KPt.fills_tuple F.slot_str_mod
    (call_meets F.slot_str_mod (typeIs_str s _ t) F.entry_str_mod (F.args_str_mod_2 _ _) (meets_pc hx hy) ⟨⟨_, hb, rfl, _, rfl⟩, fun t' k => ⟨(fun e => nomatch e), h t' k⟩⟩)
theorem HdrAt.inst (hdr : HdrAt w h x d pl) : ∃ tk, InstAt h x (instObj 354 d) 354 (some (dictOf [⟨PyData.keyHash w.params "_headers", .str "_headers" tk, .ref pl⟩] 1)) :=
  let ⟨e, tk, e'⟩ := hdr; ⟨tk, e, rfl, rfl, e'⟩
theorem HdrAt.mv (hdr : HdrAt w h x d pl) (S : St T g h) (mv : Mv T g W h h') (hx : x ∉ W) (hd : d ∉ W) : HdrAt w h' x d pl :=
  let ⟨e, tk, e'⟩ := hdr; ⟨mv.keep _ _ e (S.notTab e (by nofun)) (.inl hx), tk, mv.keep _ _ e' (S.notTab e' (by nofun)) (.inl hd)⟩
theorem h_list {expr : Bool} {Q : Value → Shared → Prop} (FH : Fh K mg) (G : Gb T K mg mb g) (S : St T g s.heap) (hdr : HdrAt w s.heap x d pl) (h : ∀ tk, Q (.ref pl) { s with toks := tk }) : wpAny (model prog w) A (getAttr (.ref x) "_headers" expr) Q E s := by
  obtain ⟨tk, I⟩ := hdr.inst
  exact j_attr G S I FH.plain FH.hd FH.nH (by rfl) (by rfl) (by rfl) (h _)
theorem h_meth {pl' : Sem Bool} {name : Str} {a : Addr} {Q : Value × List Value → Shared → Prop} (FH : Fh K mg) (G : Gb T K mg mb g) (S : St T g s.heap) (hdr : HdrAt w s.heap x d pl) (hf : findIn K (.ref 354) name = some (some (.ref a))) (ht : isFn K (.ref a) = true)
    (hl : ∀ tk, getL name [⟨PyData.keyHash w.params "_headers", .str "_headers" tk, .ref pl⟩] = some none) (h : Q (.ref a, [.ref x]) s) : wpAny (model prog w) A (getMethod (.ref x) name pl') Q E s := by
  obtain ⟨tk, I⟩ := hdr.inst
  exact j_meth G S I FH.plain hf ht (hl _) h
theorem items_spec (FH : Fh K mg) (FG : Fg K) (G : Gb T K mg mb g) (S : St T g s.heap) (r : Rm A 2) (hdr : HdrAt w s.heap x d pl) (hpl : s.heap.get? pl = some (lstO its ep)) (hz : its.size ≤ 1000)
   (hR : ∀ a h' tk, Mv T g [] s.heap h' → s.heap.get? a = none → g.objs.size ≤ a → h'.get? a = some (lstO its 0) → R (.ok (.ret (.ref a))) { s with heap := h', toks := tk }) :
   codeAny (model PR w) A (.call (.ref 318) ⟨[.ref x], []⟩) R s := by
  refine' j_callK (binds := [("self", .ref x)]) [] [] G S Kn.nil FG.items r.lt (fun _ _ _ _ _ _ => BindsTo.of_eq rfl) (locs rfl) (by decide) ?_ rfl rfl rfl
  intro L h₁ t₁ j mv₁
  refine wpAny_execs_cons (wpAny_Return_some (Subscript_ (Attribute_name (j_local (s := { s with heap := h₁, toks := t₁ }) j rfl ?_))))
  refine h_list (s := { s with heap := h₁, toks := t₁ }) FH G j.mv.st (hdr.mv S mv₁ (by exact ni0) (by exact ni0)) fun t₂ => ?_
  refine e_Slice (wpAny_pure (wpAny_pure ?_))
  refine qg fun G kG => ?_
  obtain ⟨sl, h₂, esl, e2, j₂, mv₂, _, _⟩ := J.pushK j (slObj .none .none) rfl
  refine kG ?_
  dsimp only
  rw [← esl, ← e2]
  have hpl₂ := j₂.old hpl (.inl (by exact ni0))
  refine subTail_builtin (T := "list") ⟨_, hpl₂, rfl⟩ list_getitem_lookup (wpAny_getItem_list_slice (s := { s with heap := h₂, toks := t₂ }) (lo := none) (hi := none) (st := none) ⟨_, hpl₂, rfl, _, rfl⟩ ⟨_, j₂.get (.head _), rfl, rfl⟩ .none .none .none (by simp) ?_ (by rw [sizeLine_eq]; exact Nat.le_trans hz (by decide))) (.inr rfl)
  rw [pick_all]
  refine qg fun G kG => ?_
  obtain ⟨a, h₃, ea, e3, j₃, mv₃, na, _⟩ := J.pushK j₂ (lstO its 0) rfl
  refine kG ?_
  rw [← ea, ← e3]
  exact hR a h₃ _ j₃.mv na (j₃.has _ (.head _)).2.2.2 (j₃.get (.head _))
theorem xr {M : Model} {st : Stmt} {rest : List Stmt} {env : Env} {Q : Flow → Shared → Prop} (h : ∀ Q' : Flow → Shared → Prop, (∀ s', wpAny M A (execs rest env) Q E s' → Q' .next s') → (∀ v s', Q (.ret v) s' → Q' (.ret v) s') → wpAny M A (exec st env) Q' E s) : wpAny M A (execs (st :: rest) env) Q E s := wpAny_execs_cons (h _ (fun _ q => q) fun _ _ q => q)
theorem fitL {y : Str} (h : y.length ≤ 10000) : Builtin.Str.tooLong y.length = false := by
  unfold Builtin.Str.tooLong
  rw [decide_eq_false_iff_not, sizeLine_eq]; lia
theorem bind_get (FG : Fg K) {s : Shared} (Y : K.In s.heap) (x : Addr) (nm : Str) (tn : Tok) (fd : FuncData) (h1 : fd.params = fArgs (inCls 16 8)) (h2 : fd.defaults = .ref 294) : BindsTo s fd ⟨[.ref x, .str nm tn], []⟩ [("self", .ref x), ("name", .str nm tn), ("default", .none)] := by
  obtain ⟨d, n, sl, e⟩ := FG.d294
  obtain ⟨a1, a2, a3, a4, a5, a6, a7, a8, a9, a10, a11, a12, a13, a14⟩ := fd
  dsimp only at h1 h2
  subst h1 h2
  exact BindsTo.of_defaults rfl (Y _ _ e) rfl rfl rfl
noncomputable def hitP (ps : List (Str × Str)) (nm : Str) : Bool := ps.any fun p => Txt.lower p.1 == Txt.lower nm
noncomputable abbrev getEnv (L : Addr) : Env := envX "Headers.get" (fScope (inCls 16 8)) L 301 (.ref 300) []
noncomputable abbrev getBody : List Stmt := forBody (stAt (fBody (inCls 16 8)) 1)
theorem get_loop {I : Addr} {nm : Str} {tn : Tok} {px py pt : Pos} {kt : Nat} {Rf : Result → Shared → Prop} (hh : A.handled = none) (hI : h₀.get? I = none) (hpl : h₀.get? pl = some (lstO its ep)) (hps : Parts Pk h₀ its.toList ps) (hlo : ∀ p ∈ ps, (Txt.lower p.1).length ≤ 10000) (s₀ : Shared)
   (hRet : ∀ v t s', hitP ps nm = true → Mv T g [] h₀ s'.heap → Ok s₀ s' → Rf (.ok (.ret (.str v t))) s')
   (hEnd : ∀ s' m', hitP ps nm = false → J T g [] h₀ L s'.heap m' [] → m' "default" = some .none → Ok s₀ s' → Rf (.ok .next) s') :
   ∀ (k i : Nat) (s : Shared) (m : Str → Option Value) (o : Obj), ps.length - i = k → i ≤ ps.length → J T g [] h₀ L s.heap m [(I, o)] → ItAt o pl i → m "name" = some (.str (Txt.lower nm) tn) → m "default" = some .none → ((ps.take i).any fun p => Txt.lower p.1 == Txt.lower nm) = false → Ok s₀ s →
     codeAny (model PR w) A (.forLoop (.Tuple [.Name "k" px, .Name "v" py] kt pt) (.ref I) getBody [] (getEnv L)) Rf s := by
  have hlen : its.size = ps.length := by have := hps.len; rw [Array.length_toList] at this; exact this
  intro k
  induction k with
  | zero =>
    intro i s m o hk hi j ho hm1 hm2 hany ok
    obtain rfl : i = ps.length := de0 hk hi
    refine for_end (s := s) (l := pl) hh j ho hI (j.old hpl (.inl (by exact ni0))) (Array.getElem?_eq_none (by lia)) fun h' j' k' => ?_
    rw [List.take_length] at hany
    exact hEnd _ m hany j' hm2 ⟨ok.1, ok.2⟩
  | succ k ih =>
    intro i s m o hk hi j ho hm1 hm2 hany ok
    have hin : i < ps.length := dlt hk
    refine qg fun G kG => ?_
    obtain ⟨v, q, e1, e2, tt, ta, tb, rfl, htt⟩ := All2.get hps i (by rw [hps.len]; exact hin)
    refine kG ?_
    refine for_pair (s := s) (l := pl) hh j ho hI (j.old hpl (.inl (by exact ni0))) (by rw [← Array.getElem?_toList]; exact e1) (j.old htt (.inl (by exact ni0))) fun h₁ t₁ o₁ ho₁ j₁ mv₁ => ?_
    have hq : ps[i] = q := by rw [List.getElem?_eq_getElem hin] at e2; exact Option.some.inj e2
    refine xr fun _ hk' hr => wpAny_If (wpAny_isTrue_Compare1 (MethodCall_ (j_local (s := { s with heap := h₁, toks := t₁ }) j₁ (v := .str q.1 ta) (ine (by decide) (ipo rfl)) ?_)))
    refine s_meth PySem.F.slot_str_lower PySem.F.type_str_lower (callWith_method0 (SC.lower (fitL (hlo q (List.mem_of_getElem? e2))) ?_))
    refine j_local (s := { s with heap := h₁, toks := _ }) j₁ (v := .str (Txt.lower nm) tn) (ine (by decide) (ine (by decide) hm1)) ?_
    refine PyProof.Rows.eq_str (wpAny_truthy_bool ?_)
    cases hc : (Txt.lower q.1 == Txt.lower nm) with
    | true =>
      rw [if_pos rfl]
      clear hk'
      refine wpAny_execs_cons (wpAny_Return_some (j_local (s := { s with heap := h₁, toks := _ }) j₁ (v := .str q.2 tb) (ipo rfl) ?_))
      refine hr _ _ ?_
      exact hRet _ _ { s with heap := h₁, toks := _ } (List.any_eq_true.mpr ⟨q, List.mem_of_getElem? e2, hc⟩) j₁.mv ⟨ok.1, ok.2⟩
    | false =>
      rw [if_neg (by decide)]
      refine wpAny_execs_nil (hk' { s with heap := h₁, toks := _ } (wpAny_execs_nil ?_))
      refine ih (i + 1) _ _ o₁ (dst hk) hin j₁ ho₁ (ine (by decide) (ine (by decide) hm1)) (ine (by decide) (ine (by decide) hm2)) ?_ ⟨ok.1, ok.2⟩
      rw [List.take_add_one, e2, List.any_append, hany]
      simp [hc]
theorem get_spec {nm : Str} {tn : Tok} (FH : Fh K mg) (FG : Fg K) (G : Gb T K mg mb g) (S : St T g s.heap) (r : Rm A 5) (hdr : HdrAt w s.heap x d pl) (hpl : s.heap.get? pl = some (lstO its ep)) (hps : Parts Pk s.heap its.toList ps) (hn1 : Printable (Txt.lower nm)) (hn2 : (Txt.lower nm).length ≤ 10000) (hlo : ∀ p ∈ ps, (Txt.lower p.1).length ≤ 10000)
   (hR : ∀ s' v, (v = .none ∧ hitP ps nm = false ∨ (∃ y t, v = .str y t) ∧ hitP ps nm = true) → Mv T g [] s.heap s'.heap → Ok s s' → R (.ok (.ret v)) s') :
   codeAny (model PR w) A (.call (.ref 301) ⟨[.ref x, .str nm tn], []⟩) R s := by
  refine' j_callK (binds := [("self", .ref x), ("name", .str nm tn), ("default", .none)]) [] [] G S Kn.nil FG.get r.lt (fun _ _ _ _ _ _ => bind_get FG (S.In G) x nm tn _ rfl rfl) (locs rfl) (by decide) ?_ rfl rfl rfl
  intro L h₁ t₁ j mv₁
  have rr := r.deeper (env := getEnv L)
  have hdr₁ := hdr.mv S mv₁ (by exact ni0) (by exact ni0)
  refine xc fun _ hk => wpAny_Assign_Name (methodCall_KW (j_local (s := { s with heap := h₁, toks := t₁ }) j rfl ?_))
  refine h_meth (s := { s with heap := h₁, toks := t₁ }) FH G j.mv.st hdr₁ FH.fConv (FH.keep 253 (by exact m2)).2 (by intros; rfl) ?_
  refine callWith_KW (K := K) (h₀ := s.heap) (S.In G) (FH.keep 253 (by exact m2)).1 (by rfl) (args_cons (MethodCall_ (j_local (s := { s with heap := h₁, toks := t₁ }) j rfl ?_)))
  refine s_meth PySem.F.slot_str_lower PySem.F.type_str_lower (callWith_method0 (SC.lower (fitL hn2) ?_))
  refine args_nil (kwAll_cons (e_bool (kwAll_nil ⟨j.mv.st.In G, wpAny_call ?_⟩)))
  refine conv_spec (s := { s with heap := h₁, toks := t₁ + 1 }) FH G j.mv.st (rr.mono (by decide)) hn1 (Nat.le_trans hn2 (by decide)) fun h₂ t₂ mv₂ => ?_
  have j₂ := j.call0 mv₂
  refine j_storeK (s := { s with heap := h₂, toks := t₂ }) j₂ fun h₃ t₃ j₃ mv₃ => hk { s with heap := h₃, toks := t₃ } ?_
  clear hk
  refine xr fun _ hk hr => wpAny_For (Attribute_name (j_local (s := { s with heap := h₃, toks := t₃ }) j₃ rfl ?_))
  have hdr₃ : HdrAt w h₃ x d pl := hdr.mv S j₃.mv (by exact ni0) (by exact ni0)
  refine h_list (s := { s with heap := h₃, toks := t₃ }) FH G j₃.mv.st hdr₃ fun t₄ => ?_
  refine j_pyIterList (s := { s with heap := h₃, toks := t₄ }) j₃ (j₃.old hpl (.inl (by exact ni0))) rfl rfl fun I h₄ hI j₄ mv₄ nI nI₃ => ?_
  refine get_loop (Pk := Pk) (ps := ps) (nm := nm) (s₀ := s) rr.h nI hpl hps hlo (fun v t s' hh mv ok => ?_) (fun s' m' hh j' hm' ok => ?_) ps.length 0 { s with heap := h₄, toks := t₄ } _ _ rfl (Nat.zero_le _) j₄ ⟨rfl, rfl⟩ rfl rfl rfl ⟨rfl, id⟩
  · exact hr _ _ (hR s' _ (.inr ⟨⟨v, t, rfl⟩, hh⟩) mv ok)
  · refine hk s' (wpAny_execs_cons (wpAny_Return_some (j_local (s := s') j' hm' ?_)))
    exact hR s' _ (.inl ⟨rfl, hh⟩) j'.mv ok
theorem setd_spec {nm val : Str} {tn tv : Tok} (FH : Fh K mg) (FG : Fg K) (G : Gb T K mg mb g) (S : St T g s.heap) (r : Rm A 6) (hdr : HdrAt w s.heap x d pl) (hpl : s.heap.get? pl = some (lstO its ep)) (hps : Parts anyA s.heap its.toList ps) (hgp : g.objs.size ≤ pl) (hz : ps.length ≤ 100)
   (hn1 : Printable (Txt.lower nm)) (hn2 : (Txt.lower nm).length ≤ 10000) (hlo : ∀ p ∈ ps, (Txt.lower p.1).length ≤ 10000) (hn3 : Printable nm) (hn4 : nm.cps.size ≤ 10000) (hv1 : Printable val) (hv2 : val.cps.size ≤ 10000)
   (hR : ∀ s' y t its' ep', Mv T g [pl] s.heap s'.heap → Ok s s' → s'.heap.get? pl = some (lstO its' ep') → Parts anyA s'.heap its'.toList (if hitP ps nm then ps else ps ++ [(nm, val)]) → R (.ok (.ret (.str y t))) s') :
   codeAny (model PR w) A (.call (.ref 344) ⟨[.ref x, .str nm tn, .str val tv], []⟩) R s := by
  have hlen : its.size = ps.length := by have := hps.len; rw [Array.length_toList] at this; exact this
  have xpl : x ≠ pl := fun q => by have e := hdr.1; rw [q, hpl] at e; cases e
  have dpl : d ≠ pl := fun q => by obtain ⟨tk, e⟩ := hdr.2; rw [q, hpl] at e; have := congrArg Obj.cls (Option.some.inj e); simp at this
  refine' j_callK (binds := [("self", .ref x), ("name", .str nm tn), ("value", .str val tv)]) [pl] [(pl, lstO its ep)] G S ⟨fun q hq => by rw [List.mem_singleton.mp hq]; exact ⟨hpl, S.notTab hpl (by nofun), hgp⟩, by exact nd1⟩ FG.setd r.lt (fun _ _ _ _ _ _ => BindsTo.of_eq rfl) (locs rfl) (by decide) ?_ rfl rfl rfl
  intro L h₁ t₁ j mv₁
  have rr := r.deeper (env := envX "Headers.setdefault" (fScope (inCls 16 15)) L 344 (.ref 343) [])
  have hdr₁ := hdr.mv S mv₁ (by exact ni0) (by exact ni0)
  refine xc fun _ hk => wpAny_Assign_Name (MethodCall_ (j_local (s := { s with heap := h₁, toks := t₁ }) j rfl ?_))
  refine h_meth (s := { s with heap := h₁, toks := t₁ }) FH G j.mv.st hdr₁ FG.fGet (FG.keep 301 (by exact m1)).2 (by intros; rfl) ?_
  refine j_callWith (FG.keep 301 (by exact m1)).1 (args_cons (j_local (s := { s with heap := h₁, toks := t₁ }) j rfl (args_nil ⟨j.mv.st.In G, wpAny_call ?_⟩)))
  refine get_spec (s := { s with heap := h₁, toks := t₁ }) (Pk := anyA) FH FG G j.mv.st (rr.mono (by decide)) hdr₁ (j.get (.head _)) (hps.mv S mv₁) hn1 hn2 hlo fun s₂ v hv mv₂ ok₂ => ?_
  have j₂ := j.call0 mv₂
  refine j_storeK (s := s₂) j₂ fun h₃ t₃ j₃ mv₃ => hk { s₂ with heap := h₃, toks := t₃ } ?_
  clear hk
  have p₃ : Parts anyA h₃ its.toList ps := hps.mv S j₃.mv
  have hdr₃ : HdrAt w h₃ x d pl := hdr.mv S j₃.mv (by exact ni1 xpl) (by exact ni1 dpl)
  have ok₂' : Ok s s₂ := ⟨ok₂.1, ok₂.2⟩
  refine xr fun _ hk hr => wpAny_If (wpAny_isTrue_Compare1 (j_local (s := { s₂ with heap := h₃, toks := t₃ }) j₃ rfl ?_))
  refine wpAny_pure ?_
  rcases hv with ⟨rfl, hh⟩ | ⟨⟨y, t, rfl⟩, hh⟩
  · refine PyProof.Rows.is_none_none (wpAny_truthy_bool ?_)
    rw [if_pos rfl]
    clear hk
    refine xc fun _ hk => wpAny_Expr (MethodCall_ (Attribute_name (j_local (s := { s₂ with heap := h₃, toks := t₃ }) j₃ rfl ?_)))
    refine h_list (s := { s₂ with heap := h₃, toks := t₃ }) FH G j₃.mv.st hdr₃ fun t₄ => ?_
    refine getMethod_list_append (s := { s₂ with heap := h₃, toks := t₄ }) (j₃.get (.head _)) rfl rfl ?_
    refine callWith_method1 (args_cons (Tuple_ (args_cons (methodCall_KW (j_local (s := { s₂ with heap := h₃, toks := t₄ }) j₃ rfl ?_)))))
    refine h_meth (s := { s₂ with heap := h₃, toks := t₄ }) FH G j₃.mv.st hdr₃ FH.fConv (FH.keep 253 (by exact m2)).2 (by intros; rfl) ?_
    refine callWith_KW (K := K) (h₀ := s.heap) (S.In G) (FH.keep 253 (by exact m2)).1 (by rfl) (args_cons (j_local (s := { s₂ with heap := h₃, toks := t₄ }) j₃ rfl (args_nil (kwAll_cons (e_bool (kwAll_nil ⟨j₃.mv.st.In G, wpAny_call ?_⟩))))))
    refine conv_spec (s := { s₂ with heap := h₃, toks := t₄ }) FH G j₃.mv.st (rr.mono (by decide)) hn3 (Nat.le_trans hn4 (by decide)) fun h₅ t₅ mv₅ => ?_
    have j₅ := j₃.call0 mv₅
    have hdr₅ := hdr₃.mv j₃.mv.st mv₅ (by exact ni0) (by exact ni0)
    refine args_cons (methodCall_KW (j_local (s := { s₂ with heap := h₅, toks := t₅ }) j₅ rfl ?_))
    refine h_meth (s := { s₂ with heap := h₅, toks := t₅ }) FH G j₅.mv.st hdr₅ FH.fConv (FH.keep 253 (by exact m2)).2 (by intros; rfl) ?_
    refine callWith_KW (K := K) (h₀ := s.heap) (S.In G) (FH.keep 253 (by exact m2)).1 (by rfl) (args_cons (j_local (s := { s₂ with heap := h₅, toks := t₅ }) j₅ rfl (args_nil (kwAll_cons (e_bool (kwAll_nil ⟨j₅.mv.st.In G, wpAny_call ?_⟩))))))
    refine conv_spec (s := { s₂ with heap := h₅, toks := t₅ }) FH G j₅.mv.st (rr.mono (by decide)) hv1 (Nat.le_trans hv2 (by decide)) fun h₆ t₆ mv₆ => args_nil ?_
    have j₆ := j₅.call0 mv₆
    refine j_newTupleK (s := { s₂ with heap := h₆, toks := t₆ }) j₆ fun tt h₇ j₇ mv₇ => args_nil ?_
    refine list_append_any (LstAt.exact (j₇.get (.tail _ (.head _)))) (by rw [sizeLine_eq]; lia) ?_
    obtain ⟨ep', ee⟩ := mapSeq_lst its (its.push (.ref tt)) ep (·.push (.ref tt)) rfl
    have j₈ := j₇.update 1 rfl (.inl m1) (by exact tnL) ee rfl
    have mv₈ := j₇.updMv (.tail _ (.head _)) (by exact tnL) ee rfl
    revert j₈ mv₈
    generalize h₇.update pl _ = h₈
    intro j₈ mv₈
    refine hk { s₂ with heap := h₈, toks := t₆ } (wpAny_execs_cons (wpAny_Return_some (j_local (s := { s₂ with heap := h₈, toks := t₆ }) j₈ rfl ?_)))
    refine hr _ _ ?_
    refine hR { s₂ with heap := h₈, toks := t₆ } _ _ (its.push (.ref tt)) ep' j₈.mv ⟨ok₂'.1, ok₂'.2⟩ (j₈.get (.tail _ (.head _))) ?_
    rw [hh, if_neg (by decide), Array.toList_push]
    have p₈ := (((p₃.mv j₃.mv.st mv₅).mv j₅.mv.st mv₆).mv j₆.mv.st mv₇).mv j₇.mv.st mv₈
    exact All2.append p₈ (.cons ⟨⟨tt, trivial⟩, _, _, rfl, j₈.get (.head _)⟩ .nil)
  · refine PyProof.Rows.is_str_none (wpAny_truthy_bool ?_)
    rw [if_neg (by decide)]
    clear hk
    refine wpAny_execs_cons (wpAny_Return_some (j_local (s := { s₂ with heap := h₃, toks := t₃ }) j₃ rfl ?_))
    refine hr _ _ ?_
    refine hR { s₂ with heap := h₃, toks := t₃ } _ _ its ep j₃.mv ⟨ok₂'.1, ok₂'.2⟩ (j₃.get (.head _)) ?_
    rw [hh, if_pos rfl]
    exact p₃
end
end Mine
end
section
open PySem PySem.W PySem.Calls PyProof.Rows Builtin Builtin.ObjectAttr Builtin.Str
namespace Mine
noncomputable def rowsP (ps : List (Str × Str)) : List (List Nat) := ps.map fun p => wl p.1 ++ 58 :: 32 :: wl p.2
theorem hstr_text (ps : List (Str × Str)) : Str.join "\r\n" ((List.range ps.length).map (fun i => ((ps.getD i ("", "")).1 ++ ": ") ++ (ps.getD i ("", "")).2) ++ [("" : Str), ""]) = mkS (textL (rowsP ps ++ [[]])) := by
  apply str_inj
  show wl (Str.join _ _) = textL (rowsP ps ++ [[]])
  rw [wl_join, show wl ("\r\n" : Str) = [13, 10] from crlf_list, map_range_getD ps ("", "") (fun p => (p.1 ++ ": ") ++ p.2), List.map_append, List.map_map, text_join]
  have e : List.map (wl ∘ fun p : Str × Str => (p.1 ++ ": ") ++ p.2) ps = rowsP ps := List.map_congr_left fun p _ => by
    show wl ((p.1 ++ ": ") ++ p.2) = _
    rw [wl_app, wl_app, colon_list, List.append_assoc]; rfl
  rw [e, List.append_assoc]
  rfl
section
variable {Pk : Addr → Prop}
variable {T : Tabs} {K : Frag} {cd : ClassData} {mg mb : Str → Option Value} {w : World} {A : Around} {s : Shared} {g h₀ h h' h₁ h₂ : Heap} {W W' : List Addr} {L C : Addr} {m : Str → Option Value} {kn : List (Addr × Obj)} {R : Result → Shared → Prop} {E : Value → Shared → Prop} {prog : Program}
variable {x d pl : Addr} {its : Array Value} {ep : Nat} {ps : List (Str × Str)}
theorem strs_app {vs ws : List Value} {ys zs : List Str} (h : StrsAre vs ys) (h' : StrsAre ws zs) : StrsAre (vs ++ ws) (ys ++ zs) := by
  induction h with
  | nil => exact h'
  | cons y t _ ih => exact .cons y t ih
theorem hstr_spec (FH : Fh K mg) (FG : Fg K) (G : Gb T K mg mb g) (S : St T g s.heap) (r : Rm A 4) (hdr : HdrAt w s.heap x d pl) (hpl : s.heap.get? pl = some (lstO its ep)) (hps : Parts Pk s.heap its.toList ps) (hz : ps.length ≤ 100) (hb : ∀ p ∈ ps, p.1.length + p.2.length ≤ 900)
   (hR : ∀ s' t, Mv T g [] s.heap s'.heap → Ok s s' → R (.ok (.ret (.str (mkS (textL (rowsP ps ++ [[]]))) t))) s') :
   codeAny (model PR w) A (.call (.ref 330) ⟨[.ref x], []⟩) R s := by
  refine' j_callK (binds := [("self", .ref x)]) [] [] G S Kn.nil FG.str r.lt (fun _ _ _ _ _ _ => BindsTo.of_eq rfl) (locs rfl) (by decide) ?_ rfl rfl rfl
  intro L h₁ t₁ j mv₁
  have rr := r.deeper (env := envX "Headers.__str__" (fScope (inCls 16 13)) L 330 (.ref 329) [])
  have hdr₁ := hdr.mv S mv₁ (by exact ni0) (by exact ni0)
  have hpl₁ : h₁.get? pl = some (lstO its ep) := j.old hpl (.inl (by exact ni0))
  obtain ⟨ta, tb, hT⟩ := hps.tv
  have hat : ∀ i, i < ps.length → ps.getD i ("", "") ∈ ps := fun i hi => by rw [List.getD_eq_getElem?_getD, List.getElem?_eq_getElem hi]; exact List.getElem_mem hi
  have c2 : (": " : Str).length = 2 := colon_len
  refine wpAny_execs_cons (wpAny_Return_some (MethodCall_ (Constant_str ?_)))
  refine PySem.GM.join ?_
  refine callWith_method1 (args_cons (wpAny_BinOp ?_))
  refine j_listComp (s := { s with heap := h₁, toks := _ }) (n := ps.length) (p := fun _ => true) (F := fun _ i y _ => ∃ t, y = .str (((ps.getD i ("", "")).1 ++ ": ") ++ (ps.getD i ("", "")).2) t) (cl := []) j (by lia) (by rfl) ?_ ?_
  · refine Attribute_name (j_local (s := { s with heap := h₁, toks := _ }) j rfl ?_)
    refine h_list (s := { s with heap := h₁, toks := _ }) FH G j.mv.st hdr₁ fun t₂ => ?_
    refine src1 (s := { s with heap := h₁, toks := _ }) rr.h (Mv.refl j.mv.st) ⟨rfl, id⟩ j.mv.st hpl₁ hT.sz (fun ws => Stays.pure _) (by rfl) (by rfl) fun s₂ I D C i s₃ m its' ep' v o2 hi hv j₃ hI ok => ?_
    obtain ⟨t, e1, e2⟩ := hT.at_ i hi
    rw [e1] at hv
    cases hv
    have hq := hb _ (hat i hi)
    refine wpAny_BinOp (Constant_str (e_local (s := { s₃ with toks := _ }) j₃ (ipo rfl) ?_))
    have e3 : s₃.heap.get? t = _ := j₃.old (mv₁.keep _ _ e2 (S.notTab e2 (by nofun)) (.inl (by exact ni0))) (.inl (by exact ni0))
    exact pc_pair e3 (by lia) (by lia) fun t' k => ⟨⟨t', rfl⟩, Mv.refl j₃.mv.st, rfl, id⟩
  · intro s' D its' ep' ws j' mv' ok' hD gD eD hP
    have hst := strs_of hP
    have hl' : its'.size = ps.length := by have := StrsAre.len hst; rw [Array.length_toList, List.length_map, List.length_range] at this; exact this
    refine List_ (args_cons (Constant_str (args_cons (Constant_str (args_nil ?_)))))
    refine j_newListK (s := { s' with toks := _ }) j' fun B h₃ j₃ mv₃ nB => ?_
    have eD₃ : h₃.get? D = some (lstO its' ep') := mv₃.keep _ _ eD (j'.mv.st.notTab eD (by nofun)) (.inl (by exact ni0))
    refine PySem.P.add_list (s := { s' with heap := h₃, toks := _ }) (l := D) (b := B) eD₃ (j₃.get (.head _)) ?_ (by rw [sizeLine_eq]; show its'.size + 2 ≤ _; lia)
    refine args_nil (join_list ⟨_, Heap.get?_push_size _ rfl, rfl, _, rfl⟩ (ys := (List.range ps.length).map (fun i => ((ps.getD i ("", "")).1 ++ ": ") ++ (ps.getD i ("", "")).2) ++ [("" : Str), ""]) ?_ (joins (B := 1000) (fun y hy => ?_) ?_ (by decide) (by decide +kernel)) fun t k => ?_)
    · rw [Array.toList_append]
      exact strs_app hst (.cons _ _ (.cons _ _ .nil))
    · rcases List.mem_append.mp hy with hy | hy
      · obtain ⟨i, hi, rfl⟩ := List.mem_map.mp hy
        have := hb _ (hat i (List.mem_range.mp hi))
        rw [← wl_len, wl_app, wl_app, List.length_append, List.length_append, wl_len, wl_len, wl_len, c2]
        lia
      · rw [show y = "" by simpa using hy]; exact Nat.zero_le _
    · rw [List.length_append, List.length_map, List.length_range]
      show ps.length + 2 ≤ 1000
      lia
    · rw [Txt_join, hstr_text]
      exact hR { s' with heap := h₃.push _, toks := k } t ((j₃.push _ rfl).mv) ⟨ok'.1, ok'.2⟩
theorem hstr_call {Q : Value → Shared → Prop} (FH : Fh K mg) (FG : Fg K) (G : Gb T K mg mb g) (S : St T g s.heap) (r : Rm A 6) (hdr : HdrAt w s.heap x d pl) (hpl : s.heap.get? pl = some (lstO its ep)) (hps : Parts Pk s.heap its.toList ps) (hz : ps.length ≤ 100) (hb : ∀ p ∈ ps, p.1.length + p.2.length ≤ 900)
   (hQ : ∀ s' t, Mv T g [] s.heap s'.heap → Ok s s' → Q (.str (mkS (textL (rowsP ps ++ [[]]))) t) s') : wpAny (model PR w) A (call (.type "str") [.ref x]) Q E s := by
  obtain ⟨tk, I⟩ := hdr.inst
  exact kso_call r.in1.in1.room (S.In G) I FG.fStr (FG.keep 330 (by exact m3)).2 (wpAny_call (hstr_spec FH FG G S (r.in1.in1.mono (by decide)) hdr hpl hps hz hb fun s' t mv ok => hQ _ _ mv ok))
end
end Mine
end
section
open PySem PySem.W PySem.Calls PyProof.Rows Builtin Builtin.ObjectAttr Builtin.Str
namespace Mine
theorem entry_text {W : Int} {en : List Nat} {e : Ent} (hv : GoodV e.2) : preL e.1 ++ gls en ((fmtF W (preL e.1).length e.2).map wl) ++ en = textE en (rowsT W (preL e.1) e.2) := by
  have ne : (fmtF W (preL e.1).length e.2).map wl ≠ [] := by unfold fmtF; rw [List.map_append]; exact app_ne
  rw [gls_pre en _ ne, fmt_rows fun p hp => (hv.tail p hp).ne, gls_text]
  unfold rowsT
  exact app_ne
noncomputable def foldL (W : Int) (en : List Nat) (es : List Ent) : List Nat := textE en (es.flatMap fun e => rowsT W (preL e.1) e.2)
theorem foldL_succ {W : Int} {en : List Nat} {es : List Ent} {i : Nat} {e : Ent} (h : es[i]? = some e) : foldL W en (es.take (i + 1)) = foldL W en (es.take i) ++ textE en (rowsT W (preL e.1) e.2) := by
  unfold foldL
  rw [List.take_add_one, h, List.flatMap_append, textE_app]
  simp
theorem preL_len {q : Nat × Nat} (h : GoodQ q) : (preL q).length ≤ 8 ∧ 0 < (preL q).length := by
  have : (preL q).length = q.1 + 3 := by unfold preL nmL; simp
  have := h.1
  lia
theorem stF_all (W : Int) (nn : Nat) (ws : WS) : stF W nn ws ws.length = ws.foldl (chunkG W) ([], [], nn) := by unfold stF; rw [List.take_length]
theorem fmtF_lens {W : Int} {nn : Nat} {ws : WS} (hv : GoodV ws) : (∀ y ∈ fmtF W nn ws, y.length ≤ 150) ∧ (fmtF W nn ws).length ≤ 8 := by
  have fi := hv.fi (width := W) nn ws.length (Nat.le_refl _)
  rw [stF_all] at fi
  have hl := hv.len
  have h1 := fi.len
  have h2 := psum_le fi.par
  unfold fmtF
  refine ⟨fun y hy => ?_, by rw [List.length_append]; show _ + 1 ≤ 8; lia⟩
  rcases List.mem_append.mp hy with hy | hy
  · have := fi.lines y hy; lia
  · rw [List.mem_singleton.mp hy, ptext_len]; lia
theorem gls_len (en : List Nat) : ∀ l : List (List Nat), (gls en l).length ≤ l.length * en.length + (l.map (·.length)).sum
  | [] => Nat.zero_le _
  | [x] => by show (x ++ []).length ≤ _; simp
  | x :: y :: r => by
    have ih := gls_len en (y :: r)
    have e : gls en (x :: y :: r) = x ++ (en ++ gls en (y :: r)) := by simp [gls]
    rw [e, List.length_append, List.length_append, List.length_cons (a := x), Nat.succ_mul, List.map_cons, List.sum_cons]
    lia
theorem fmt_len {W : Int} {nn : Nat} {ws : WS} {en : List Nat} (hv : GoodV ws) (he : en.length ≤ 2) : (gls en ((fmtF W nn ws).map wl)).length ≤ 1300 := by
  obtain ⟨h1, h2⟩ := fmtF_lens (W := W) (nn := nn) hv
  have h3 := gls_len en ((fmtF W nn ws).map wl)
  have h4 := sum_le (B := 150) (l := ((fmtF W nn ws).map wl).map (·.length)) fun n hn => by
    obtain ⟨y, hy, rfl⟩ := List.mem_map.mp hn
    obtain ⟨z, hz, rfl⟩ := List.mem_map.mp hy
    rw [wl_len]; exact h1 z hz
  rw [List.length_map, List.length_map] at h4
  rw [List.length_map] at h3
  have h5 := Nat.mul_le_mul h2 he
  have h6 := Nat.mul_le_mul_right 150 h2
  lia
section
variable {Pk : Addr → Prop}
variable {T : Tabs} {K : Frag} {cd : ClassData} {mg mb : Str → Option Value} {w : World} {A : Around} {s : Shared} {g h₀ h h' h₁ h₂ : Heap} {W W' : List Addr} {L C : Addr} {m : Str → Option Value} {kn : List (Addr × Obj)} {R : Result → Shared → Prop} {E : Value → Shared → Prop} {prog : Program}
variable {f df l x d : Addr} {width : Int} {lines : List Str} {ps : List (Str × Str)} {n : Int}
theorem fstrG {ws : WS} {nn : Nat} {en : List Nat} {ts : Tok} (V : Fv K) (X : Fx K cd) (X2 : Fx2 K) (G : Gb T K mg mb g) (GM : Gm mg) (S : St T g s.heap) (r : Rm A 10) (hT : (183, 179) ∈ T) (hT2 : (190, 186) ∈ T) (hv : GoodV ws) (hn1 : 0 < nn) (hn2 : nn ≤ 1000) (he : en.length ≤ 2)
   (F : FmtAt anyA w g s.heap f df l x d width (stF width nn ws ws.length).1 (stF width nn ws ws.length).2.1 (stF width nn ws ws.length).2.2)
   (hR : ∀ s' t', Mv T g [l, x, d] s.heap s'.heap → Ok s s' → R (.ok (.ret (.str (mkS (gls en ((fmtF width nn ws).map wl))) t'))) s') :
   codeAny (model PR w) A (.call (.ref 81) ⟨[.ref f, .str (mkS en) ts], []⟩) R s := by
  have fi := hv.fi (width := width) nn ws.length (Nat.le_refl _)
  obtain ⟨l1, l2⟩ := fmtF_lens (W := width) (nn := nn) hv
  have hF : fmtF width nn ws = (stF width nn ws ws.length).1 ++ [ptext (stF width nn ws ws.length).2.1] := by rw [stF_all]; rfl
  rw [hF] at l1 l2 hR
  have hlen := fi.len
  have hwl := hv.len
  have hsum := psum_le fi.par
  have hend : ∀ (ps : WS) (p : Str × Str), ptext (ps ++ [p]) = ptext (stF width nn ws ws.length).2.1 → ∀ s' t', Mv T g [l, x, d] s.heap s'.heap → Ok s s' → R (.ok (.ret (.str (Str.join (mkS en) ((stF width nn ws ws.length).1 ++ [ptext (ps ++ [p])])) t'))) s' := fun ps p e s' t' mv ok => by
    rw [e, show Str.join (mkS en) ((stF width nn ws ws.length).1 ++ [ptext (stF width nn ws ws.length).2.1]) = mkS (gls en (((stF width nn ws ws.length).1 ++ [ptext (stF width nn ws ws.length).2.1]).map wl)) from str_inj (wl_join (mkS en) _)]
    exact hR s' t' mv ok
  have hj : ∀ (ps : WS) (p : Str × Str), ptext (ps ++ [p]) = ptext (stF width nn ws ws.length).2.1 → (((stF width nn ws ws.length).1 ++ [ptext (ps ++ [p])]).map (·.length)).sum + ((stF width nn ws ws.length).1 ++ [ptext (ps ++ [p])]).length * (mkS en).length ≤ 16777216 := fun ps p e => by
    rw [e]
    exact joins (B := 150) l1 (Nat.le_trans l2 (by decide)) (by decide) (by rw [mk_len]; lia)
  have hll : (stF width nn ws ws.length).1.length ≤ 1000 := by lia
  rcases fi.last with e | ⟨ps, p, t, e, ht⟩
  · obtain ⟨e1, e2⟩ := fi.pos e
    have ep : ptext ([] ++ [(("" : Str), ("" : Str))]) = ptext (stF width nn ws ws.length).2.1 := by rw [e]; exact str_inj (by rfl)
    refine fstr_spec (p := ("", "")) (ps := []) (.inr ⟨e, rfl, rfl⟩) V X X2 G GM S r (fun _ _ => trivial) hT hT2 F ⟨by decide +kernel, by decide⟩ (Int.natCast_nonneg _) (by rw [e1]; lia) hll (by decide +kernel) ?_ ?_ (by decide +kernel) (hj _ _ ep) (hend _ _ ep)
    · unfold onlyB; rw [show (((stF width nn ws ws.length).2.2 : Int) == 0) = false from beq_eq_false_iff_ne.mpr (by rw [e1]; lia)]; rfl
    · rw [e1]; exact Int.add_pos_of_pos_of_nonneg (ltnat hn1) (by decide +kernel)
  · obtain ⟨o1, o2, o3⟩ := only_no (ps := ps) (n := (stF width nn ws ws.length).2.2) ht
    rw [e] at hsum hlen
    have h3 : (ps ++ [p]).length = ps.length + 1 := by simp
    rw [h3] at hsum hlen
    have := fi.n
    refine fstr_spec (.inl e) V X X2 G GM S r (fun _ _ => trivial) hT hT2 F ⟨by lia, by rw [h3]; lia⟩ (Int.natCast_nonneg _) (by lia) hll o3 o1 (Int.add_pos_of_nonneg_of_pos (Int.natCast_nonneg _) o2) (by rw [plen_sum]; lia) (hj _ _ (by rw [e])) (hend _ _ (by rw [e]))
end
end Mine
end
section
open PySem PySem.W PySem.Calls PyProof.Rows Builtin Builtin.ObjectAttr Builtin.Str
namespace Mine
structure Lx (T : Tabs) (K : Frag) (cd : ClassData) (mg : Str → Option Value) : Prop where
  V : Fv K
  X : Fx K cd
  X2 : Fx2 K
  GM : Gm mg
  FH : Fh K mg
  FG : Fg K
  FA : Fa K mg
  FQ : Fq K mg
  LA : La K
  hT : (183, 179) ∈ T
  hT2 : (190, 186) ∈ T
  hAcc : mg "_Accumulator" = some (.ref 217)
  kAcc : keepIn K (.ref 217) = true
  hFmt : mg "_ValueFormatter" = some (.ref 133)
  kFmt : keepIn K (.ref 133) = true
  hHdr : mg "Headers" = some (.ref 354)
  kHdr : keepIn K (.ref 354) = true
  hQuo : mg "quotedata" = some (.ref 55)
  kQuo : keepIn K (.ref 55) = true
  folded : FnAt K 377 (topSt 20) "_law_folded" [] .none 376
  read : FnAt K 382 (topSt 21) "_law_read" [] .none 381
  road : FnAt K 387 (topSt 22) "_law_road" [] .none 386
  told : FnAt K 394 (topSt 23) "_law_told" [] .none 393
  law : FnAt K 399 (topSt 24) "law" [] .none 398
  gWords : mg "_law_words" = some (.ref 365)
  gValue : mg "_law_value" = some (.ref 370)
  gFolded : mg "_law_folded" = some (.ref 377)
  gRead : mg "_law_read" = some (.ref 382)
  gRoad : mg "_law_road" = some (.ref 387)
  gTold : mg "_law_told" = some (.ref 394)
  gInt : mg "int" = none
  kl : ∀ f ∈ [(365 : Addr), 370, 377, 382, 387, 394], keepIn K (.ref f) = true
theorem mk_app (a b : List Nat) : mkS a ++ mkS b = mkS (a ++ b) := str_inj (wl_app _ _)
theorem mk_colon : (": " : Str) = mkS [58, 32] := str_inj colon_list
section
variable {Pk : Addr → Prop}
variable {T : Tabs} {K : Frag} {cd : ClassData} {mg mb : Str → Option Value} {w : World} {A : Around} {s : Shared} {g h₀ h h' h₁ h₂ : Heap} {W W' : List Addr} {L C : Addr} {m : Str → Option Value} {kn : List (Addr × Obj)} {R : Result → Shared → Prop} {E : Value → Shared → Prop} {prog : Program}
variable {x d pl : Addr} {its : Array Value} {ep : Nat}
theorem add_mk {a b : List Nat} {t u : Tok} {Q : Value → Shared → Prop} (h : ∀ t' tk, Q (.str (mkS (a ++ b)) t') { s with toks := tk }) (hz : a.length + b.length ≤ 1000000) : wpAny (model prog w) A (binaryOp .Add (.str (mkS a) t) (.str (mkS b) u)) Q E s :=
  PyProof.Rows.add_str (fun t' k => by rw [mk_app]; exact h t' k) (by simp only [mk_len, mk_len, sizeLine_eq]; lia)
theorem iadd_mk {a b : List Nat} {t u : Tok} {Q : Value → Shared → Prop} (h : ∀ t' tk, Q (.str (mkS (a ++ b)) t') { s with toks := tk }) (hz : a.length + b.length ≤ 1000000) : wpAny (model prog w) A (inplaceOp .Add (.str (mkS a) t) (.str (mkS b) u)) Q E s :=
  PyProof.Rows.iadd_str (fun t' k => by rw [mk_app]; exact h t' k) (by simp only [mk_len, mk_len, sizeLine_eq]; lia)
noncomputable abbrev foEnv (L : Addr) : Env := envX "_law_folded" (fScope (topSt 20)) L 377 (.ref 376) []
noncomputable abbrev foBody : List Stmt := forBody (stAt (fBody (topSt 20)) 1)
theorem folded_loop {I a : Addr} {es : List Ent} {W : Int} {en : List Nat} {tw te : Tok} {px py pt : Pos} {kt : Nat} {Rf : Result → Shared → Prop} (LX : Lx T K cd mg) (G : Gb T K mg mb g) (r : Rm A 13) (hI : h₀.get? I = none) (hps : Parts anyA h₀ its.toList (es.map pairOf)) (hes : ∀ e ∈ es, GoodQ e.1 ∧ GoodV e.2) (hn : es.length ≤ 10) (hen : en.length ≤ 2) (s₀ : Shared)
   (hEnd : ∀ s' m' t, J T g [] h₀ L s'.heap m' [(a, lstO its 0)] → m' "mail" = some (.str (mkS (foldL W en es)) t) → Ok s₀ s' → Rf (.ok .next) s') :
   ∀ (k i : Nat) (s : Shared) (m : Str → Option Value) (o : Obj) (t : Tok), es.length - i = k → i ≤ es.length → J T g [] h₀ L s.heap m [(I, o), (a, lstO its 0)] → ItAt o a i → m "width" = some (.int W tw) → m "end" = some (.str (mkS en) te) → m "mail" = some (.str (mkS (foldL W en (es.take i))) t) → (foldL W en (es.take i)).length ≤ i * 2000 → Ok s₀ s →
     codeAny (model PR w) A (.forLoop (.Tuple [.Name "name" px, .Name "value" py] kt pt) (.ref I) foBody [] (foEnv L)) Rf s := by
  have hlen : its.size = es.length := by have := hps.len; rw [Array.length_toList, List.length_map] at this; exact this
  intro k
  induction k with
  | zero =>
    intro i s m o t hk hi j ho hm1 hm2 hm3 hz ok
    obtain rfl : i = es.length := de0 hk hi
    refine for_end (s := s) (l := a) r.h j ho hI (j.get (.tail _ (.head _))) (Array.getElem?_eq_none (by lia)) fun h' j' k' => ?_
    rw [List.take_length] at hm3
    exact hEnd _ m t j' hm3 ⟨ok.1, ok.2⟩
  | succ k ih =>
    intro i s m o t hk hi j ho hm1 hm2 hm3 hz ok
    have hin : i < es.length := dlt hk
    obtain ⟨v, q, e1, e2, tt, ta, tb, rfl, htt⟩ := All2.get hps i (by simp only [hps.len, List.length_map]; exact hin)
    have hei : es[i]? = some es[i] := List.getElem?_eq_getElem hin
    rw [List.getElem?_map, hei] at e2
    obtain rfl : pairOf es[i] = q := Option.some.inj e2
    obtain ⟨gq, gv⟩ := hes _ (List.getElem_mem hin)
    generalize hee : es[i] = e at *
    obtain ⟨pl1, pl2⟩ := preL_len gq
    have hnl : (nmL e.1).length + 2 = (preL e.1).length := by unfold preL; rw [List.length_append]; rfl
    refine for_pair (s := s) (l := a) r.h j ho hI (j.get (.tail _ (.head _))) (by rw [← Array.getElem?_toList]; exact e1) (j.old htt (.inl (by exact ni0))) fun h₁ t₁ o₁ ho₁ j₁ mv₁ => ?_
    refine xc fun _ hk' => wpAny_Assign_Name (Call_ ?_)
    refine j_global (s := { s with heap := h₁, toks := t₁ }) G j₁ LX.hFmt ?_
    refine j_callWith LX.kFmt (args_cons (wpAny_BinOp (Call_ ?_)))
    refine j_builtin (s := { s with heap := h₁, toks := t₁ }) G j₁ LX.GM.len boot_len ?_
    refine callWith_method1 (first := []) (args_cons (j_local (s := { s with heap := h₁, toks := t₁ }) j₁ (v := .str (mkS (nmL e.1)) ta) (ine (by decide) (ipo rfl)) (args_nil (PySem.P.len_str (by rw [mk_len]; lia) ?_))))
    rw [mk_len]
    refine wpAny_Constant_int (g_add (b := 2) ?_)
    rw [hnl]
    refine args_cons (j_local (s := { s with heap := h₁, toks := _ }) j₁ (v := .int W tw) (ine (by decide) (ine (by decide) hm1)) (args_cons (Constant_str (args_cons (Constant_str (args_nil ⟨j₁.mv.st.In G, wpAny_call ?_⟩))))))
    dsimp only
    refine fmt_new (Pk := anyA) (s := { s with heap := h₁, toks := _ }) LX.V LX.X LX.X2 G LX.GM LX.hAcc LX.kAcc j₁.mv.st (r.mono (by decide)) fun f df l x d h₂ t₂ mv₂ F₂ nf ndf nl nx nd => ?_
    have j₂ := j₁.call0 mv₂
    refine j_storeK (s := { s with heap := h₂, toks := t₂ }) j₂ fun h₃ t₃ j₃ mv₃ => hk' { s with heap := h₃, toks := t₃ } ?_
    clear hk'
    have neL : ∀ {b}, h₁.get? b = none → b ≠ L := fun {b} hb q => by
      refine qg fun G kG => ?_
      obtain ⟨o, es, n, e, _⟩ := j₁.ns
      refine kG ?_
      rw [← q, hb] at e; cases e
    have F₃ := F₂.out j₂.mv.st mv₃ (by exact al1 ⟨(neL nf).symm, (neL ndf).symm, (neL nl).symm, (neL nx).symm, (neL nd).symm⟩)
    have bk : ∀ {b}, h₁.get? b = none → h₀.get? b = none := fun hb => none_back j₁.mv hb
    have neK : ∀ {b}, h₁.get? b = none → I ≠ b ∧ a ≠ b := fun hb => ⟨(fun q => by rw [← q, j₁.get (.head _)] at hb; cases hb), (fun q => by rw [← q, j₁.get (.tail _ (.head _))] at hb; cases hb)⟩
    refine xc fun _ hk' => wpAny_Expr (MethodCall_ (j_local (s := { s with heap := h₃, toks := t₃ }) j₃ rfl ?_))
    refine f_meth (s := { s with heap := h₃, toks := t₃ }) LX.V G j₃.mv.st F₃ LX.FA.fSplit LX.FA.kSplit.2 (by intros; rfl) ?_
    refine j_callWith LX.FA.kSplit.1 (args_cons (Constant_str (args_cons ?_)))
    refine j_local (s := { s with heap := h₃, toks := _ }) j₃ (v := .str (mkS (valL e.2)) tb) (ine (by decide) (ipo rfl)) (args_cons (Constant_str (args_nil ⟨j₃.mv.st.In G, wpAny_call ?_⟩)))
    dsimp only
    refine asplit_spec (s := { s with heap := h₃, toks := _ }) LX.FA LX.V LX.X LX.X2 G LX.GM j₃.mv.st r LX.hT LX.hT2 gv pl2 (Nat.le_trans pl1 (by decide)) F₃ fun s₄ mv₄ ok₄ F₄ => ?_
    have j₄ : J T g [] h₀ L s₄.heap _ [(I, o₁), (a, lstO its 0)] := j₃.callK mv₄ (by exact ni3 (neL nl).symm (neL nx).symm (neL nd).symm) (by exact al3 (.inr (bk nl)) (.inr (bk nx)) (.inr (bk nd))) (by exact al2 (ni3 (neK nl).1 (neK nx).1 (neK nd).1) (ni3 (neK nl).2 (neK nx).2 (neK nd).2))
    refine hk' s₄ ?_
    clear hk'
    refine xc fun _ hk' => wpAny_AugAssign_Name (wpAny_loadName_local rfl rfl j₄.ns (v := .str (mkS (foldL W en (es.take i))) t) (ine (by decide) (ine (by decide) (ine (by decide) hm3))) ?_)
    refine wpAny_BinOp (wpAny_BinOp (wpAny_BinOp (j_local (s := s₄) j₄ (v := .str (mkS (nmL e.1)) ta) (ine (by decide) (ine (by decide) (ipo rfl))) (Constant_str ?_))))
    rw [mk_colon]
    refine add_mk (fun t₅ k₅ => ?_) (by show _ + 2 ≤ _; lia)
    refine MethodCall_ (j_local (s := { s₄ with toks := k₅ }) j₄ (v := .ref f) (ipo rfl) ?_)
    refine f_meth (s := { s₄ with toks := k₅ }) LX.V G j₄.mv.st F₄ LX.V.fStr (LX.V.keep 81 (by decide)).2 (by intros; rfl) ?_
    refine j_callWith (LX.V.keep 81 (by decide)).1 (args_cons (j_local (s := { s₄ with toks := k₅ }) j₄ (v := .str (mkS en) te) (ine (by decide) (ine (by decide) (ine (by decide) hm2))) (args_nil ⟨j₄.mv.st.In G, wpAny_call ?_⟩)))
    refine fstrG (s := { s₄ with toks := k₅ }) LX.V LX.X LX.X2 G LX.GM j₄.mv.st (r.mono (by decide)) LX.hT LX.hT2 gv pl2 (Nat.le_trans pl1 (by decide)) hen F₄ fun s₆ t₆ mv₆ ok₆ => ?_
    have j₆ : J T g [] h₀ L s₆.heap _ [(I, o₁), (a, lstO its 0)] := j₄.callK mv₆ (by exact ni3 (neL nl).symm (neL nx).symm (neL nd).symm) (by exact al3 (.inr (bk nl)) (.inr (bk nx)) (.inr (bk nd))) (by exact al2 (ni3 (neK nl).1 (neK nx).1 (neK nd).1) (ni3 (neK nl).2 (neK nx).2 (neK nd).2))
    have hfl := fmt_len (W := W) (nn := (preL e.1).length) gv hen
    have hpn : (nmL e.1 ++ [58, 32]).length ≤ 8 := pl1
    refine add_mk (fun t₇ k₇ => ?_) (by lia)
    refine j_local (s := { s₆ with toks := k₇ }) j₆ (v := .str (mkS en) te) (ine (by decide) (ine (by decide) (ine (by decide) hm2))) ?_
    refine add_mk (fun t₈ k₈ => ?_) (by rw [List.length_append]; lia)
    rw [show nmL e.1 ++ [58, 32] ++ gls en ((fmtF W (preL e.1).length e.2).map wl) ++ en = textE en (rowsT W (preL e.1) e.2) from entry_text gv]
    have hte : (textE en (rowsT W (preL e.1) e.2)).length ≤ 1400 := by
      rw [← entry_text gv, List.length_append, List.length_append]
      lia
    refine iadd_mk (fun t₉ k₉ => ?_) (by lia)
    rw [← foldL_succ hei]
    refine j_storeK (s := { s₆ with toks := k₉ }) j₆ fun h₈ t₁₀ j₈ mv₈ => hk' { s₆ with heap := h₈, toks := t₁₀ } (wpAny_execs_nil ?_)
    refine ih (i + 1) { s₆ with heap := h₈, toks := t₁₀ } _ o₁ t₉ (dst hk) hin j₈ ho₁ (ine (by decide) (ine (by decide) (ine (by decide) (ine (by decide) hm1)))) (ine (by decide) (ine (by decide) (ine (by decide) (ine (by decide) hm2)))) (ipo rfl) ?_ ⟨ok₆.1.trans (ok₄.1.trans ok.1), fun q => ok₆.2 (ok₄.2 (ok.2 q))⟩
    rw [foldL_succ hei, List.length_append]
    lia
end
end Mine
end
section
open PySem PySem.W PySem.Calls PyProof.Rows Builtin Builtin.ObjectAttr Builtin.Str
namespace Mine
theorem mk_nil : ("" : Str) = mkS [] := str_inj rfl
section
variable {Pk : Addr → Prop}
variable {T : Tabs} {K : Frag} {cd : ClassData} {mg mb : Str → Option Value} {w : World} {A : Around} {s : Shared} {g h₀ h h' h₁ h₂ : Heap} {W W' : List Addr} {L C : Addr} {m : Str → Option Value} {kn : List (Addr × Obj)} {R : Result → Shared → Prop} {E : Value → Shared → Prop} {prog : Program}
variable {x d pl : Addr} {its : Array Value} {ep : Nat}
theorem folded_spec {es : List Ent} {W : Int} {en : List Nat} {tw te : Tok} (LX : Lx T K cd mg) (G : Gb T K mg mb g) (S : St T g s.heap) (r : Rm A 14) (hdr : HdrAt w s.heap x d pl) (hpl : s.heap.get? pl = some (lstO its ep)) (hps : Parts anyA s.heap its.toList (es.map pairOf)) (hes : ∀ e ∈ es, GoodQ e.1 ∧ GoodV e.2) (hn : es.length ≤ 10) (hen : en.length ≤ 2)
   (hR : ∀ s' t, Mv T g [] s.heap s'.heap → Ok s s' → R (.ok (.ret (.str (mkS (foldL W en es)) t))) s') :
   codeAny (model PR w) A (.call (.ref 377) ⟨[.ref x, .int W tw, .str (mkS en) te], []⟩) R s := by
  have hlen : its.size = es.length := by have := hps.len; rw [Array.length_toList, List.length_map] at this; exact this
  refine' j_callK (binds := [("table", .ref x), ("width", .int W tw), ("end", .str (mkS en) te)]) [] [] G S Kn.nil LX.folded r.lt (fun _ _ _ _ _ _ => BindsTo.of_eq rfl) (locs rfl) (by decide) ?_ rfl rfl rfl
  intro L h₁ t₁ j mv₁
  have rr := r.deeper (env := foEnv L)
  refine xc fun _ hk => wpAny_Assign_Name (Constant_str ?_)
  rw [mk_nil]
  refine j_storeK (s := { s with heap := h₁, toks := _ }) j fun h₂ t₂ j₂ mv₂ => hk { s with heap := h₂, toks := t₂ } ?_
  clear hk
  have hdr₂ : HdrAt w h₂ x d pl := hdr.mv S j₂.mv (by exact ni0) (by exact ni0)
  have hpl₂ := j₂.old hpl (.inl (by exact ni0))
  refine xc fun _ hk => wpAny_For (MethodCall_ (j_local (s := { s with heap := h₂, toks := t₂ }) j₂ rfl ?_))
  refine h_meth (s := { s with heap := h₂, toks := t₂ }) LX.FH G j₂.mv.st hdr₂ LX.FG.fItems (LX.FG.keep 318 (by exact m2)).2 (by intros; rfl) ?_
  refine j_callWith0 (s := { s with heap := h₂, toks := t₂ }) G j₂.mv.st (LX.FG.keep 318 (by exact m2)).1 (wpAny_call ?_)
  refine items_spec (s := { s with heap := h₂, toks := t₂ }) LX.FH LX.FG G j₂.mv.st (rr.mono (by decide)) hdr₂ hpl₂ (by lia) fun a h₃ t₃ mv₃ na ga ea => ?_
  have j₃ := j₂.addN (j₂.call0 mv₃) rfl na ea ga (j₂.mv.st.newT na)
  refine j_pyIterList (s := { s with heap := h₃, toks := t₃ }) j₃ ea rfl rfl fun I h₄ hI j₄ mv₄ nI nI₃ => ?_
  refine folded_loop (es := es) LX G (rr.mono (by decide)) nI hps hes hn hen s (fun s' m' t j' hm' ok => ?_) es.length 0 { s with heap := h₄, toks := t₃ } _ _ _ rfl (Nat.zero_le _) j₄ ⟨rfl, rfl⟩ rfl rfl rfl (Nat.zero_le _) ⟨rfl, id⟩
  refine hk s' (wpAny_execs_cons (wpAny_Return_some (j_local (s := s') j' hm' ?_)))
  exact hR s' t j'.mv ok
end
end Mine
end
section
open PySem PySem.W PySem.Calls PyProof.Rows Builtin Builtin.ObjectAttr Builtin.Str
namespace Mine
theorem slice1 (v : List Nat) : Txt.slice (mkS v) none (some 1) = mkS (v.take 1) := by
  cases v with
  | nil => rfl
  | cons c r =>
    have e : strSliceIndices none (some 1) 1 (mkS (c :: r)).length = [0] := by
      rw [mk_len]
      have h1 : max (0 : Int) (min 1 (((c :: r).length : Nat) : Int)) = ((1 : Nat) : Int) := by simp only [List.length_cons]; lia
      unfold strSliceIndices
      simp only [show (1 : Int) > 0 by decide, if_true, show ¬ ((1 : Int) < 0) by decide, if_false, h1]
      exact sliceRange_one 0 1
    unfold Txt.slice
    rw [e]
    cases r with
    | nil => rfl
    | cons d r => rw [if_neg (by rw [mk_len]; simp)]; rfl
theorem head_sp (v : List Nat) : (mkS (v.take 1) == (" " : Str)) = decide (v.head? = some 32) := by
  have e : (" " : Str) = mkS [32] := str_inj rfl
  cases v with
  | nil => rfl
  | cons c r =>
    rw [e]
    show (mkS [c] == mkS [32]) = decide (some c = some 32)
    by_cases hc : c = 32
    · subst hc; simp
    · rw [decide_eq_false (by simpa using hc), beq_eq_false_iff_ne]
      intro q
      have : wl (mkS [c]) = wl (mkS [32]) := congrArg wl q
      exact hc (List.cons.inj this).1
theorem strs_set {vs : List Value} {ys : List Str} {y z : Str} {t : Tok} (h : StrsAre vs (ys ++ [y])) : StrsAre (vs.set ys.length (.str z t)) (ys ++ [z]) := by
  induction ys generalizing vs with
  | nil =>
    cases h with
    | cons t' r hr => cases hr; exact .cons _ _ .nil
  | cons a ys ih =>
    cases h with
    | cons t' r hr => exact .cons _ _ (ih hr)
theorem unf_ne : ∀ (xs acc : List (List Nat)), acc ≠ [] → xs.foldl unfR acc ≠ []
  | [], _, h => h
  | x :: xs, acc, h => unf_ne xs _ (by
    unfold unfR
    split
    · exact app_ne
    · split
      · exact h
      · exact app_ne)
noncomputable def First (xs : List (List Nat)) : Prop := ∃ x r, xs = x :: r ∧ x ≠ [] ∧ x.head? ≠ some 32
theorem First.take {xs : List (List Nat)} (h : First xs) {i : Nat} {x : List Nat} (e : xs[i]? = some x) (hx : x.head? = some 32) : (xs.take i).foldl unfR [] ≠ [] := by
  obtain ⟨y, r, rfl, h1, h2⟩ := h
  cases i with
  | zero => cases e; exact absurd hx h2
  | succ i =>
    rw [List.take_succ_cons]
    exact unf_ne (r.take i) (unfR [] y) (by unfold unfR; rw [if_neg h2, if_neg h1]; simp)
theorem unf_len : ∀ (xs acc : List (List Nat)), (xs.foldl unfR acc).length ≤ acc.length + xs.length
  | [], acc => Nat.le_refl _
  | x :: xs, acc => by
    have ih := unf_len xs (unfR acc x)
    have h1 : (unfR acc x).length ≤ acc.length + 1 := by
      unfold unfR
      split
      · rw [List.length_append, List.length_dropLast]; show _ + 1 ≤ _; omega
      · split
        · lia
        · rw [List.length_append]; exact Nat.le_refl _
    show (xs.foldl unfR (unfR acc x)).length ≤ acc.length + (xs.length + 1)
    lia
theorem take_foldl {α β : Type} {f : β → α → β} {b : β} {l : List α} {i : Nat} {a : α} (h : l[i]? = some a) : (l.take (i + 1)).foldl f b = f ((l.take i).foldl f b) a := by
  rw [List.take_add_one, h, List.foldl_append]; rfl
section
variable {Pk : Addr → Prop}
variable {T : Tabs} {K : Frag} {cd : ClassData} {mg mb : Str → Option Value} {w : World} {A : Around} {s : Shared} {g h₀ h h' h₁ h₂ : Heap} {W W' : List Addr} {L C : Addr} {m : Str → Option Value} {kn : List (Addr × Obj)} {R : Result → Shared → Prop} {E : Value → Shared → Prop} {prog : Program}
noncomputable abbrev reEnv (L : Addr) : Env := envX "_law_read" (fScope (topSt 21)) L 382 (.ref 381) []
noncomputable abbrev reBody : List Stmt := forBody (stAt (fBody (topSt 21)) 1)
theorem read_loop {I D rl : Addr} {l : List (Str × Tok)} {xs : List (List Nat)} {px : Pos} {Rf : Result → Shared → Prop} (r : Rm A 3) (hI : h₀.get? I = none) (hrl : h₀.get? rl = none) (hl : l.map (·.1) = xs.map mkS) (hf : First xs) (hz : ∀ x ∈ xs, x.length ≤ 1000) (hn : xs.length ≤ 200) (s₀ : Shared)
   (hEnd : ∀ s' m' its ep, J T g [] h₀ L s'.heap m' [(rl, lstO its ep), (D, lstObj (strValues l))] → m' "rows" = some (.ref rl) → StrsAre its.toList ((xs.foldl unfR []).map mkS) → Ok s₀ s' → Rf (.ok .next) s') :
   ∀ (k i : Nat) (s : Shared) (m : Str → Option Value) (o : Obj) (its : Array Value) (ep : Nat), xs.length - i = k → i ≤ xs.length → J T g [] h₀ L s.heap m [(I, o), (rl, lstO its ep), (D, lstObj (strValues l))] → ItAt o D i → m "rows" = some (.ref rl) → StrsAre its.toList (((xs.take i).foldl unfR []).map mkS) → (∀ y ∈ (xs.take i).foldl unfR [], y.length ≤ i * 1000) → Ok s₀ s →
     codeAny (model PR w) A (.forLoop (.Name "row" px) (.ref I) reBody [] (reEnv L)) Rf s := by
  have hlen : l.length = xs.length := by have := congrArg List.length hl; rw [List.length_map, List.length_map] at this; exact this
  intro k
  induction k with
  | zero =>
    intro i s m o its ep hk hi j ho hm hst hy ok
    obtain rfl : i = xs.length := de0 hk hi
    refine for_end (s := s) (l := D) r.h j ho hI (j.get (.tail _ (.tail _ (.head _)))) (Array.getElem?_eq_none (by rw [List.size_toArray]; show (List.map _ _).length ≤ _; rw [List.length_map]; lia)) fun h' j' k' => ?_
    rw [List.take_length] at hst
    exact hEnd _ m its ep j' hm hst ⟨ok.1, ok.2⟩
  | succ k ih =>
    intro i s m o its ep hk hi j ho hm hst hy ok
    have hin : i < xs.length := dlt hk
    have hxi : xs[i]? = some xs[i] := List.getElem?_eq_getElem hin
    have hli : l[i]? = some l[i] := List.getElem?_eq_getElem (by omega)
    have hq : l[i].1 = mkS xs[i] := by
      have := congrArg (·[i]?) hl
      simp only [List.getElem?_map, hxi, hli, Option.map_some] at this
      exact Option.some.inj this
    generalize hx : xs[i] = x at *
    have hxz := hz x (hx ▸ List.getElem_mem hin)
    have hv : (strValues l).toArray[i]? = some (.str (mkS x) l[i].2) := by rw [← Array.getElem?_toList]; show (List.map _ l)[i]? = _; rw [List.getElem?_map, hli, ← hq]; rfl
    have htk : (xs.take (i + 1)).foldl unfR [] = unfR ((xs.take i).foldl unfR []) x := take_foldl hxi
    have hln : its.size = ((xs.take i).foldl unfR []).length := by have := StrsAre.len hst; rw [Array.length_toList, List.length_map] at this; exact this
    have hle := unf_len (xs.take i) []
    rw [List.length_take, Nat.min_eq_left hi] at hle
    have hle : its.size ≤ i := by rw [hln]; exact Nat.le_trans hle (by show 0 + i ≤ i; lia)
    have hacc := hf.take hxi
    generalize (xs.take i).foldl unfR [] = acc at *
    refine for_name (s := s) (l := D) j ho hI (j.get (.tail _ (.tail _ (.head _)))) hv fun h₁ t₁ o₁ ho₁ j₁ mv₁ => ?_
    refine xc fun _ hk' => wpAny_If (wpAny_isTrue_Compare1 (Subscript_ (j_local (s := { s with heap := h₁, toks := t₁ }) j₁ (v := .str (mkS x) l[i].2) (ipo rfl) (e_Slice (wpAny_pure (wpAny_Constant_int (i := 1) (k := 0) (pos := ⟨0, 0, 0, 0⟩) ?_))))))
    refine qg fun G kG => ?_
    obtain ⟨sl, h₂, esl, e2, j₂, mv₂, _, _⟩ := J.pushK j₁ (slObj .none (.int 1 t₁)) rfl
    refine kG ?_
    dsimp only
    rw [← esl, ← e2]
    refine str_slice (s := { s with heap := h₂, toks := t₁ + 1 }) (l := none) (u := some (1, t₁)) ⟨_, j₂.get (.head _), rfl, rfl⟩ (by rw [mk_len]; lia) (fun t₃ k₃ => ?_) (.inr rfl)
    show wpAny _ _ (eval _ _) _ _ _
    rw [show Txt.slice (mkS x) (Option.map (·.1) (none : Option (Int × Tok))) (Option.map (·.1) (some ((1 : Int), t₁))) = mkS (x.take 1) from slice1 x]
    refine Constant_str (PyProof.Rows.eq_str (wpAny_truthy_bool ?_))
    rw [head_sp]
    have j₂' := j₂.sub (List.sublist_cons_self _ _)
    clear j₂
    by_cases hh : x.head? = some 32
    · rw [decide_eq_true hh, if_pos rfl]
      obtain ⟨as, y, ea⟩ : ∃ as y, acc = as ++ [y] := by
        rcases List.eq_nil_or_concat acc with q | ⟨as, y, q⟩
        · exact absurd q (hacc hh)
        · exact ⟨as, y, by rw [q, List.concat_eq_append]⟩
      subst ea
      have hsz : its.size = as.length + 1 := by rw [hln]; simp
      rw [List.map_append] at hst
      obtain ⟨ty, hy1⟩ := StrsAre.get hst as.length (by simp)
      have hy2 : its[as.length]? = some (.str (mkS y) ty) := by
        rw [← Array.getElem?_toList, hy1]; simp
      have hyl := hy y (by simp)
      refine wpAny_execs_cons (wpAny_AugAssign_SubscriptAny ?_)
      refine j_local (s := { s with heap := h₂, toks := _ }) j₂' (v := .ref rl) (ine (by decide) hm) ?_
      refine wpAny_UnaryOp ?_
      refine wpAny_Constant_int (i := 1) (k := 0) (pos := ⟨0, 0, 0, 0⟩) ?_
      refine PySem.P.neg_int ?_
      refine wpAny_getItem_list_neg (items := its) (k := -1) ⟨_, j₂'.get (.tail _ (.head _)), rfl, _, rfl⟩ (by decide) (by lia) (by decide) (by rw [show ((-1 : Int) + (its.size : Int)).toNat = as.length by lia]; exact hy2) ?_
      refine j_local (s := { s with heap := h₂, toks := _ }) j₂' (v := .str (mkS x) l[i].2) (ipo rfl) ?_
      refine iadd_mk (fun t₅ k₅ => ?_) (by lia)
      refine set_last (s := { s with heap := h₂, toks := k₅ }) (j₂'.get (.tail _ (.head _))) (by lia) (by lia) ?_
      obtain ⟨ep', ec⟩ := mapSeq_lst its (its.setIfInBounds (its.size - 1) (.str (mkS (y ++ x)) t₅)) ep (fun z => z.setIfInBounds (its.size - 1) (.str (mkS (y ++ x)) t₅)) rfl
      have j₃ := j₂'.update 1 rfl (.inr hrl) (by exact tnL) ec rfl
      revert j₃
      show ∀ _, _
      generalize h₂.update rl _ = h₃
      intro j₃
      refine wpAny_execs_nil (hk' { s with heap := h₃, toks := k₅ } (wpAny_execs_nil ?_))
      have eu : unfR (as ++ [y]) x = as ++ [y ++ x] := by unfold unfR; rw [if_pos hh]; simp
      refine ih (i + 1) { s with heap := h₃, toks := k₅ } _ o₁ _ ep' (dst hk) hin j₃ ho₁ (ine (by decide) hm) ?_ ?_ ⟨ok.1, ok.2⟩
      · rw [htk, eu, Array.toList_setIfInBounds, hsz, Nat.add_sub_cancel, List.map_append]
        have := strs_set (z := mkS (y ++ x)) (t := t₅) hst
        rw [List.length_map] at this
        exact this
      · rw [htk, eu]
        intro z hzm
        rcases List.mem_append.mp hzm with q | q
        · have := hy z (List.mem_append_left _ q); lia
        · rw [List.mem_singleton.mp q, List.length_append]; lia
    · rw [decide_eq_false hh, if_neg (by decide)]
      refine xc fun _ hk2 => wpAny_If (wpAny_isTrue_value (j_local (s := { s with heap := h₂, toks := _ }) j₂' (v := .str (mkS x) l[i].2) (ipo rfl) (PySem.P.truthy_str (by rw [mk_len]; lia) ?_)))
      by_cases hx0 : x = []
      · rw [if_neg (by rw [hx0]; decide)]
        refine wpAny_execs_nil (hk2 _ (wpAny_execs_nil (hk' { s with heap := h₂, toks := _ } (wpAny_execs_nil ?_))))
        have eu : unfR acc x = acc := by unfold unfR; rw [if_neg hh, if_pos hx0]
        refine ih (i + 1) _ _ o₁ its ep (dst hk) hin j₂' ho₁ (ine (by decide) hm) ?_ ?_ ⟨ok.1, ok.2⟩
        · rw [htk, eu]; exact hst
        · rw [htk, eu]; intro z hzm; have := hy z hzm; lia
      · have hl0 : x.length ≠ 0 := fun q => hx0 (List.eq_nil_of_length_eq_zero q)
        rw [if_pos (by rw [mk_len]; simpa using hl0)]
        refine xc fun _ hk3 => wpAny_Expr (MethodCall_ (j_local (s := { s with heap := h₂, toks := _ }) j₂' (v := .ref rl) (ine (by decide) hm) ?_))
        refine getMethod_list_append (s := { s with heap := h₂, toks := _ }) (j₂'.get (.tail _ (.head _))) rfl rfl ?_
        refine callWith_method1 (args_cons (j_local (s := { s with heap := h₂, toks := _ }) j₂' (v := .str (mkS x) l[i].2) (ipo rfl) (args_nil ?_)))
        refine list_append_any (s := { s with heap := h₂, toks := _ }) (LstAt.exact (j₂'.get (.tail _ (.head _)))) (by rw [sizeLine_eq]; lia) ?_
        obtain ⟨ep', ec⟩ := mapSeq_lst its (its.push (.str (mkS x) l[i].2)) ep (fun z => z.push (.str (mkS x) l[i].2)) rfl
        have j₃ := j₂'.update 1 rfl (.inr hrl) (by exact tnL) ec rfl
        revert j₃
        show ∀ _, _
        generalize h₂.update rl _ = h₃
        intro j₃
        refine hk3 { s with heap := h₃, toks := _ } (wpAny_execs_nil (hk2 _ (wpAny_execs_nil (hk' _ (wpAny_execs_nil ?_)))))
        have eu : unfR acc x = acc ++ [x] := by unfold unfR; rw [if_neg hh, if_neg hx0]
        refine ih (i + 1) { s with heap := h₃, toks := _ } _ o₁ _ ep' (dst hk) hin j₃ ho₁ (ine (by decide) hm) ?_ ?_ ⟨ok.1, ok.2⟩
        · rw [htk, eu, List.map_append, Array.toList_push]
          exact strs_snoc hst
        · rw [htk, eu]
          intro z hzm
          rcases List.mem_append.mp hzm with q | q
          · have := hy z q; lia
          · rw [List.mem_singleton.mp q]; lia
theorem Turns.triU {env : Env} {I : Addr} {fp wr : List Addr} {n : Nat} {Pt : Nat → Array Value → Prop} {Sx : Nat → Heap → Prop} {Mid : Nat → Addr → Heap → Prop} {x y z : Str} {px py pz pt : Pos} {kt : Nat} (Wk : WalksU prog w A I fp wr n Pt Sx Mid) (hh : A.handled = none)
    (hP : ∀ i vals, Pt i vals → vals.size = 3)
    (hw : ∀ b ∈ wr, h₀.get? b = none) (hL : env.locals ∉ fp) (hk : env.scope.kind = .function := by rfl) (hl : env.kindOf x = some .local := by rfl) (hl' : env.kindOf y = some .local := by rfl) (hl2 : env.kindOf z = some .local := by rfl) :
    Turns prog w A T g W h₀ (.Tuple [.Name x px, .Name y py, .Name z pz] kt pt) env I fp wr n (fun i m m' => ∃ v v' v2, Pt i #[v, v', v2] ∧ m' = fun q => if q = z then some v2 else if q = y then some v' else if q = x then some v else m q) Sx where
  sub := Wk.sub
  stable := Wk.frame
  item := fun i s m kn B E hi hs j hkn hB => by
    have hLw : env.locals ∉ wr := fun hm => hL (Wk.sub _ hm)
    have hw' : ∀ b ∈ wr, h₀.get? b = none ∧ b ≠ env.locals := fun b hb => ⟨hw b hb, fun q => hLw (q ▸ hb)⟩
    refine Wk.item i s _ E hi hs fun t vals h' tk hp ht hm k => ?_
    have j' := j.turn k hw' hkn
    refine Wk.go _ _ _ i t { s with heap := h', toks := tk } _ E hm fun h₂ hs₂ k₂ => ?_
    have j₂ := j'.turn k₂ hw' hkn
    have ht₂ : h₂.IsTuple t vals := by
      obtain ⟨o, e, r⟩ := ht
      exact ⟨o, k₂ _ _ (Wk.apart _ _ _ hm) e, r⟩
    have h2 := hP _ _ hp
    obtain ⟨v, v', v2, rfl⟩ : ∃ v v' v2, vals = #[v, v', v2] := by
      obtain ⟨l⟩ := vals
      match l, h2 with
      | [a, b, c], _ => exact ⟨a, b, c, rfl⟩
    refine wpAny_assign_Tuple (s := { s with heap := h₂, toks := tk }) hh ht₂ (by rfl) (by rfl) fun h₃ ex₃ => ?_
    have k₃ : ∀ b o, h₂.get? b = some o → h₃.get? b = some o := fun b o e => ex₃ b o (Nat.ne_of_lt (Heap.lt_size e)) e
    obtain ⟨j₃, mv₃⟩ := j₂.keepsL k₃
    refine wpAny_bind (wpAny_holding (wpAny_assign_Name ?_))
    refine wpAny_storeName_local hl j₃.ns (fun h₄ hn₄ hs₄ => ?_) (by rw [hk]; rfl)
    have j₄ := j₃.store hn₄ hs₄
    refine wpAny_bind (wpAny_holding (wpAny_assign_Name ?_))
    refine wpAny_storeName_local hl' j₄.ns (fun h₅ hn₅ hs₅ => ?_) (by rw [hk]; rfl)
    have j₅ := j₄.store hn₅ hs₅
    refine wpAny_bind (wpAny_holding (wpAny_assign_Name ?_))
    refine wpAny_storeName_local hl2 j₅.ns (fun h₆ hn₆ hs₆ => ?_) (by rw [hk]; rfl)
    refine wpAny_pure ?_
    have up : ∀ b o, b ≠ env.locals → h₂.get? b = some o → h₆.get? b = some o := fun b o hb e => (hs₆.2 b hb).trans ((hs₅.2 b hb).trans ((hs₄.2 b hb).trans (k₃ b o e)))
    exact hB _ _ _ ⟨v, v', v2, hp, rfl⟩ (j₅.store hn₆ hs₆) (Wk.frame _ _ _ hs₂ fun b hb o e => up b o (fun q => hL (q ▸ hb)) e) fun b o hb hbL e => up b o hbL (k₂ b o hb (k b o hb e))
  done := fun s m kn B E hs j hkn hB => by
    have hLw : env.locals ∉ wr := fun hm => hL (Wk.sub _ hm)
    refine Wk.done s _ E hs fun h' tk k => ?_
    exact hB _ _ (j.turn k (fun b hb => ⟨hw b hb, fun q => hLw (q ▸ hb)⟩) hkn) k
  self := Wk.self
theorem src3 {elt : Expr} {env : Env} {scope : Scope} {cl : List (Str × Addr)} {n : Nat} {F : List Addr → Nat → Value → Heap → Prop} {s₁ : Shared} {ax : Addr} {its : Array Value} {ep : Nat} {x y z : Str} {px py pz pt : Pos} {kt : Nat}
    {va vb vc : Nat → Value} (hh : A.handled = none) (mv₁ : Mv T g [] s.heap s₁.heap) (ok₁ : Ok s s₁) (S₁ : St T g s₁.heap) (hax : s₁.heap.get? ax = some (lstO its ep)) (hT : Tups s₁.heap its n fun i => [va i, vb i, vc i]) (hF : ∀ ws, Stays T ws (F ws))
    (hx : scope.names.lookup x = some .local) (hy : scope.names.lookup y = some .local) (hz : scope.names.lookup z = some .local) (hk : scope.kind = .function)
    (body : ∀ (s₂ : Shared) (I D C : Addr) (i : Nat) (s₃ : Shared) (m : Str → Option Value) (its' : Array Value) (ep' : Nat), Ok s₁ s₂ → i < n → J T g [] s.heap C s₃.heap (fun q => if q = z then some (vc i) else if q = y then some (vb i) else if q = x then some (va i) else m q) [(D, lstO its' ep')] → (∃ o, s₃.heap.get? I = some o) → Ok s₂ s₃ →
      wpAny (model prog w) A (eval elt (compEnvC scope cl C env)) (fun y s₅ => F [D, C, I] i y s₅.heap ∧ Mv T g [] s₃.heap s₅.heap ∧ Ok s₃ s₅) (fun _ _ => False) s₃) :
    wpAny (model prog w) A (pyIter (.ref ax)) (Src prog w A T g s elt (.Tuple [.Name x px, .Name y py, .Name z pz] kt pt) [] env scope cl n (fun _ => true) F) E s₁ := by
  refine srcT (upd := fun vs i m m' => ∃ v v' v2, (#[v, v', v2] = vs i ∧ i < n) ∧ m' = fun q => if q = z then some v2 else if q = y then some v' else if q = x then some v else m q) hh mv₁ ok₁ S₁ hax hT hF (fun I vs fp Sx Mid C hI hC Wk hvs => ?_) fun vs s₂ I D C i s₃ m m' its' ep' o2 hi hv hu j hI ok => ?_
  · exact Turns.triU Wk hh (fun i v e => by rw [e.1, hvs i e.2]; rfl) (al1 hI) hC hk (lookup_relabel_local hx) (lookup_relabel_local hy) (lookup_relabel_local hz)
  · obtain ⟨v, v', v2, ⟨e, _⟩, rfl⟩ := hu
    rw [hv] at e
    obtain ⟨rfl, rfl, rfl⟩ : v = va i ∧ v' = vb i ∧ v2 = vc i := by simpa using e
    exact body s₂ I D C i s₃ m its' ep' o2 hi j hI ok
noncomputable def TupF (T : Tabs) (X : List Addr) (P : Nat → List Value → Prop) (ws : List Addr) (i : Nat) (y : Value) (h : Heap) : Prop := ∃ t vs, y = .ref t ∧ h.get? t = some (tupObj vs) ∧ P i vs ∧ t ∉ ws ∧ t ∉ X ∧ t ∉ T.map (·.2)
theorem TupF.stays {X : List Addr} {P : Nat → List Value → Prop} (ws : List Addr) : Stays T ws (TupF T X P ws) := fun i y h h' ⟨t, vs, e1, e2, e3, e4, e5, e6⟩ k => ⟨t, vs, e1, k _ _ e2 e6 e4, e3, e4, e5, e6⟩
theorem paired_at {α β : Type} {F : α → β → Prop} {l : List α} {vs : List β} (h : Paired F l vs) : l.length = vs.length ∧ ∀ (i : Nat) (a : α), l[i]? = some a → ∃ v, vs[i]? = some v ∧ F a v := by
  induction h with
  | nil => exact ⟨rfl, fun i a e => by cases e⟩
  | cons f t ih =>
    refine ⟨congrArg (· + 1) ih.1, fun i a e => ?_⟩
    cases i with
    | zero => cases e; exact ⟨_, rfl, f⟩
    | succ i => exact ih.2 i a e
theorem paired_range {F : Nat → Value → Prop} {n : Nat} {its : Array Value} (h : Paired F ((List.range n).filter fun _ => true) its.toList) : its.size = n ∧ ∀ i, i < n → ∃ v, its[i]? = some v ∧ F i v := by
  rw [filter_true] at h
  obtain ⟨h1, h2⟩ := paired_at h
  rw [List.length_range, Array.length_toList] at h1
  refine ⟨h1.symm, fun i hi => ?_⟩
  obtain ⟨v, e, f⟩ := h2 i i (List.getElem?_range hi)
  exact ⟨v, by rw [← Array.getElem?_toList]; exact e, f⟩
theorem parts_of : ∀ {l : List Value} {ps : List (Str × Str)}, l.length = ps.length → (∀ (i : Nat) (p : Str × Str), ps[i]? = some p → ∃ v, l[i]? = some v ∧ IsPair anyA h v p) → Parts anyA h l ps
  | [], [], _, _ => .nil
  | [], p :: ps, e, _ => by cases e
  | v :: l, [], e, _ => by cases e
  | v :: l, p :: ps, e, H => by
    obtain ⟨v', e1, hp⟩ := H 0 p rfl
    cases e1
    exact .cons hp (parts_of (Nat.succ.inj e) fun i q hq => H (i + 1) q hq)
end
end Mine
end
section
open PySem PySem.W PySem.Calls PyProof.Rows Builtin Builtin.ObjectAttr Builtin.Str
namespace Mine
theorem getD_map {α : Type} (l : List α) (d : α) (i : Nat) (h : i < l.length) : l[i]? = some (l.getD i d) := by
  rw [List.getD_eq_getElem?_getD, List.getElem?_eq_getElem h]; rfl
theorem szne {h : Heap} {b : Addr} {o : Obj} (e : h.get? b = some o) : h.objs.size ≠ b := Nat.ne_of_gt (Heap.lt_size e)
theorem partP_len (x : Str) : (partP x ": ").2.length ≤ x.length := by
  unfold partP
  split
  · exact PyProof.Rows.len_strSub _ _ _
  · exact Nat.zero_le _
section
variable {Pk : Addr → Prop}
variable {T : Tabs} {K : Frag} {cd : ClassData} {mg mb : Str → Option Value} {w : World} {A : Around} {s : Shared} {g h₀ h h' h₁ h₂ : Heap} {W W' : List Addr} {L C : Addr} {m : Str → Option Value} {kn : List (Addr × Obj)} {R : Result → Shared → Prop} {E : Value → Shared → Prop} {prog : Program}
theorem read_spec {mail : Str} {tm : Tok} {xs : List (List Nat)} {us : List (List Nat)} (LX : Lx T K cd mg) (G : Gb T K mg mb g) (S : St T g s.heap) (r : Rm A 9) (hmz : mail.length ≤ 100000) (hsp : Txt.split mail "\r\n" = xs.map mkS) (hus : xs.foldl unfR [] = us) (hf : First xs) (hz : ∀ x ∈ xs, x.length ≤ 1000) (hn : xs.length ≤ 200)
   (huz : ∀ u ∈ us, u.length ≤ 100000) (hpr : ∀ p ∈ us.map partS, (Printable p.1 ∧ p.1.cps.size ≤ 10000) ∧ Printable p.2 ∧ p.2.cps.size ≤ 10000)
   (hR : ∀ s' x d pl its ep, Mv T g [] s.heap s'.heap → Ok s s' → HdrAt w s'.heap x d pl → s'.heap.get? pl = some (lstO its ep) → Parts anyA s'.heap its.toList (us.map partS) → s.heap.get? x = none → s.heap.get? d = none → s.heap.get? pl = none → g.objs.size ≤ pl → g.objs.size ≤ x → g.objs.size ≤ d → R (.ok (.ret (.ref x))) s') :
   codeAny (model PR w) A (.call (.ref 382) ⟨[.str mail tm], []⟩) R s := by
  refine' j_callK (binds := [("mail", .str mail tm)]) [] [] G S Kn.nil LX.read r.lt (fun _ _ _ _ _ _ => BindsTo.of_eq rfl) (locs rfl) (by decide) ?_ rfl rfl rfl
  intro L h₁ t₁ j mv₁
  have rr := r.deeper (env := reEnv L)
  refine xc fun _ hk => wpAny_Assign_Name (List_ (args_nil ?_))
  refine j_newListK (s := { s with heap := h₁, toks := t₁ }) j fun rl h₂ j₂ mv₂ nrl => ?_
  refine j_storeK (s := { s with heap := h₂, toks := t₁ }) j₂ fun h₃ t₃ j₃ mv₃ => hk { s with heap := h₃, toks := t₃ } ?_
  clear hk
  refine xc fun _ hk => wpAny_For (MethodCall_ (j_local (s := { s with heap := h₃, toks := t₃ }) j₃ rfl ?_))
  refine s_meth PySem.F.slot_str_split ty_split ?_
  refine callWith_method1 (args_cons (Constant_str (args_nil ?_)))
  refine g_split (s := { s with heap := h₃, toks := _ }) (by decide +kernel) (Nat.le_trans hmz (by decide)) fun l k' hl => ?_
  rw [hsp] at hl
  obtain ⟨D, h₄, eD, e4, j₄, mv₄, nD, nD₃⟩ := J.pushK j₃ (lstObj (strValues l)) rfl
  dsimp only
  rw [← eD, ← e4]
  refine j_pyIterList (s := { s with heap := h₄, toks := k' }) j₄ (j₄.get (.head _)) rfl rfl fun I h₅ hI j₅ mv₅ nI nI₄ => ?_
  have j₅' : J T g [] s.heap L h₅ _ [(I, _), (rl, lstO #[] 0), (D, lstObj (strValues l))] := ⟨j₅.mv, j₅.ns, j₅.Lt, j₅.Ln, j₅.Lg, fun p hp => j₅.has p (by
    rcases List.mem_cons.mp hp with q | hp
    · exact mE q
    rcases List.mem_cons.mp hp with q | hp
    · exact mS (mS (mE q))
    · exact mS (mE (List.mem_singleton.mp hp))), by
      have := j₅.nd
      simp only [List.map_cons, List.map_nil, List.nodup_cons, List.mem_cons, List.not_mem_nil, or_false, not_or] at this ⊢
      obtain ⟨⟨a, b⟩, c, d⟩ := this
      exact ⟨⟨b, a⟩, fun q => c q.symm, d⟩, j₅.s0⟩
  refine read_loop (l := l) (xs := xs) (rr.mono (by decide)) nI nrl hl hf hz hn s (fun s₆ m₆ its ep j₆ hm₆ hst ok₆ => ?_) xs.length 0 { s with heap := h₅, toks := k' } _ _ #[] 0 rfl (Nat.zero_le _) j₅' ⟨rfl, rfl⟩ rfl .nil (fun _ q => nomatch q) ⟨rfl, id⟩
  refine hk s₆ ?_
  clear hk
  rw [hus] at hst
  have hlen : its.size = us.length := by have := StrsAre.len hst; rw [Array.length_toList, List.length_map] at this; exact this
  have hun : us.length ≤ 200 := by have := unf_len xs []; rw [hus] at this; exact Nat.le_trans this (by show 0 + _ ≤ _; lia)
  have Lns : ∀ {h : Heap} {m'} {kn'}, J T g [] s.heap L h m' kn' → ∃ o, h.get? L = some o := fun j => by obtain ⟨o, _, _, e, _⟩ := j.ns; exact ⟨o, e⟩
  refine xc fun _ hk => ?_
  refine j_assignComp (n := us.length) (p := fun _ => true) (F := TupF T [L] fun i vs => ∃ t1 mid t2 t3, vs = [.str (partP (mkS (us.getD i [])) ": ").1 t1, .str mid t2, .str (partP (mkS (us.getD i [])) ": ").2 t3]) (cl := []) j₆ (by lia) (by rfl) ?_ ?_
  · refine j_local (s := s₆) j₆ hm₆ ?_
    refine src1 (s := s₆) rr.h (Mv.refl j₆.mv.st) ⟨rfl, id⟩ j₆.mv.st (j₆.get (.head _)) hlen (fun ws => TupF.stays ws) (by rfl) (by rfl) fun s₂ I D C i s₃ m its' ep' v o2 hi hv j₇ hI ok => ?_
    refine qg fun G kG => ?_
    obtain ⟨y, ty, e1, rfl⟩ := StrsAre.at' hst (i := i) (by rw [Array.getElem?_toList]; exact hv)
    refine kG ?_
    rw [List.getElem?_map, getD_map us [] i hi] at e1
    obtain rfl : mkS (us.getD i []) = y := Option.some.inj e1
    have hm := huz _ (List.mem_of_getElem? (getD_map us [] i hi))
    refine MethodCall_ (e_local (s := s₃) j₇ (ipo rfl) ?_)
    refine PySem.GM.partition ?_
    refine callWith_method1 (args_cons (Constant_str (args_nil ?_)))
    refine g_partition (s := { s₃ with toks := _ }) (by decide +kernel) (by rw [mk_len]; exact hm) fun t1 t2 t3 mid tk => ?_
    obtain ⟨o6, e6⟩ := Lns j₆
    obtain ⟨o7, e7⟩ := j₇.mv.there _ _ e6
    refine qg fun G kG => ?_
    obtain ⟨oC, _, _, eC, _⟩ := id j₇.ns
    refine kG ?_
    obtain ⟨oI, eI⟩ := hI
    exact ⟨⟨_, _, rfl, Heap.get?_push_size _ rfl, ⟨t1, mid, t2, t3, rfl⟩, ni3 (szne (j₇.get (.head _))) (szne eC) (szne eI), ni1 (szne e7), j₇.mv.st.newT (Heap.get?_none_of_le (Nat.le_refl _))⟩, Mv.push j₇.mv.st _, rfl, id⟩
  · intro s₇ D its' ep' ws j₇ mv₇ ok₇ hD gD eD hP
    obtain ⟨hsz, hat⟩ := paired_range hP
    have hq : ∀ i, ∃ q : Tok × Str × Tok × Tok, i < us.length → ∃ t, its'[i]? = some (.ref t) ∧ s₇.heap.get? t = some (tupObj [.str (partP (mkS (us.getD i [])) ": ").1 q.1, .str q.2.1 q.2.2.1, .str (partP (mkS (us.getD i [])) ": ").2 q.2.2.2]) := fun i => by
      by_cases hi : i < us.length
      · obtain ⟨v, ev, hh, ⟨t, vs, rfl, e2, ⟨t1, mid, t2, t3, rfl⟩, e4, e5, e6⟩, kp⟩ := hat i hi
        exact ⟨(t1, mid, t2, t3), fun _ => ⟨t, ev, kp t _ e2 (fun q => e5 (by exact mE q)) e4⟩⟩
      · exact ⟨(0, "", 0, 0), fun q => absurd q hi⟩
    have hTp : Tups s₇.heap its' us.length fun i => [.str (partP (mkS (us.getD i [])) ": ").1 (hq i).choose.1, .str (hq i).choose.2.1 (hq i).choose.2.2.1, .str (partP (mkS (us.getD i [])) ": ").2 (hq i).choose.2.2.2] := ⟨hsz, fun i hi => (hq i).choose_spec hi⟩
    refine hk s₇ (wpAny_execs_cons (wpAny_Return_some (Call_ ?_)))
    refine j_global (s := s₇) G j₇ LX.hHdr ?_
    refine j_callWith LX.kHdr (args_cons ?_)
    refine j_listComp (s := s₇) (n := us.length) (p := fun _ => true) (F := TupF T [] fun i vs => ∃ t1 t2, vs = [.str (partS (us.getD i [])).1 t1, .str (partS (us.getD i [])).2 t2]) (cl := []) j₇ (by lia) (by rfl) ?_ ?_
    · refine j_local (s := s₇) j₇ rfl ?_
      refine src3 (s := s₇) rr.h (Mv.refl j₇.mv.st) ⟨rfl, id⟩ j₇.mv.st eD hTp (fun ws => TupF.stays ws) (by rfl) (by rfl) (by rfl) (by rfl) fun s₂ I D' C i s₃ m its2 ep2 o2 hi j₈ hI ok => ?_
      have hlv : (partP (mkS (us.getD i [])) ": ").2.length ≤ 100000 := by
        have hm := huz _ (List.mem_of_getElem? (getD_map us [] i hi))
        have hx := partP_len (mkS (us.getD i []))
        rw [mk_len] at hx
        lia
      refine Tuple_ (args_cons (e_local (s := s₃) j₈ (ine (by decide) (ine (by decide) (ipo rfl))) (args_cons (MethodCall_ (e_local (s := s₃) j₈ (ipo rfl) ?_)))))
      refine PySem.GM.strip ?_
      refine callWith_method0 (SC.strip (fun t' k => args_nil ?_) (by rw [sizeLine_eq]; lia))
      refine qg fun G kG => ?_
      obtain ⟨oC, _, _, eC, _⟩ := id j₈.ns
      refine kG ?_
      obtain ⟨oI, eI⟩ := hI
      refine wpAny_newTuple ?_
      exact ⟨⟨_, _, rfl, Heap.get?_push_size _ rfl, ⟨_, t', rfl⟩, ni3 (szne (j₈.get (.head _))) (szne eC) (szne eI), ni0, j₈.mv.st.newT (Heap.get?_none_of_le (Nat.le_refl _))⟩, Mv.push j₈.mv.st _, rfl, id⟩
    · intro s₈ D2 its2 ep2 ws2 j₈ mv₈ ok₈ hD2 gD2 eD2 hP2
      obtain ⟨hsz2, hat2⟩ := paired_range hP2
      have hp : Parts anyA s₈.heap its2.toList (us.map partS) := parts_of (by simp only [Array.length_toList, List.length_map, hsz2]) fun i p hpi => by
        rw [List.getElem?_map] at hpi
        have hi : i < us.length := by
          rcases Nat.lt_or_ge i us.length with q | q
          · exact q
          · rw [List.getElem?_eq_none q] at hpi; cases hpi
        rw [getD_map us [] i hi] at hpi
        obtain rfl : partS (us.getD i []) = p := Option.some.inj hpi
        refine qg fun G kG => ?_
        obtain ⟨v, ev, ⟨t, vs, rfl, e2, ⟨t1, t2, rfl⟩, _⟩⟩ := hat2 i hi
        refine kG ?_
        exact ⟨_, by rw [Array.getElem?_toList]; exact ev, ⟨⟨t, trivial⟩, t1, t2, rfl, e2⟩⟩
      refine args_nil ⟨j₈.mv.st.In G, wpAny_call ?_⟩
      refine hdr_new (s := s₈) LX.FH G j₈.mv.st (rr.mono (by decide)) eD2 hp hpr fun x d h₉ t₉ mv₉ hdr nx nd gx gd => ?_
      refine hR { s₈ with heap := h₉, toks := t₉ } x d D2 its2 ep2 (j₈.mv.trans mv₉ (by exact al0)) ⟨ok₈.1.trans (ok₇.1.trans ok₆.1), fun q => ok₈.2 (ok₇.2 (ok₆.2 q))⟩ hdr (mv₉.keep _ _ eD2 (j₈.mv.st.notTab eD2 (by nofun)) (.inl (by exact ni0))) (hp.mv j₈.mv.st mv₉) (none_back j₈.mv nx) (none_back j₈.mv nd) (none_back j₇.mv hD2) gD2 gx gd
noncomputable abbrev teEnv (L : Addr) : Env := envX "_law_told" (fScope (topSt 23)) L 394 (.ref 393) []
noncomputable abbrev teBody : List Stmt := forBody (stAt (fBody (topSt 23)) 1)
noncomputable abbrev tiBody : List Stmt := forBody (stAt teBody 2)
structure TI (i : Nat) (st : List (List Nat) × List Nat) : Prop where
  n : st.1.length ≤ i
  cur : st.2.length ≤ 20 + i * 17
  rows : ∀ y ∈ st.1, y.length ≤ 20 + i * 17
theorem TI.step {Wd : Int} {i : Nat} {st : List (List Nat) × List Nat} {p : Str × Str} (h : TI i st) (hp : p.1.length + p.2.length ≤ 17) : TI (i + 1) (stepT Wd st p) := by
  obtain ⟨h1, h2, h3⟩ := h
  have e1 := wl_len p.1
  have e2 := wl_len p.2
  unfold stepT
  split
  · refine ⟨by rw [List.length_append]; show _ + 1 ≤ _; lia, ?_, fun y hy => ?_⟩
    · dsimp only
      split
      · rw [List.length_append]; show 1 + _ ≤ _; lia
      · rw [List.length_append]; lia
    · rcases List.mem_append.mp hy with hy | hy
      · have := h3 y hy; lia
      · rw [List.mem_singleton.mp hy]; lia
  · refine ⟨by dsimp only; lia, by dsimp only; rw [List.length_append, List.length_append]; lia, fun y hy => by have := h3 y hy; lia⟩
theorem told_in {I wa rl : Addr} {wits : Array Value} {wep : Nat} {ws : WS} {Wd : Int} {tw : Tok} {pre : List Nat} {px py pt : Pos} {kt : Nat} {Rf : Result → Shared → Prop} (LX : Lx T K cd mg) (G : Gb T K mg mb g) (r : Rm A 3) (hI : h₀.get? I = none) (hrl : h₀.get? rl = none) (hwa : h₀.get? wa = some (lstO wits wep)) (hps : Parts anyA h₀ wits.toList ws) (hs : ∀ p ∈ ws, p.1.length + p.2.length ≤ 17) (hn : ws.length ≤ 6) (s₀ : Shared) (m₀ : Str → Option Value)
   (hEnd : ∀ s' m' its ep, J T g [] h₀ L s'.heap m' ((rl, lstO its ep) :: kn) → (∀ y : Str, y ≠ "lead" → y ≠ "word" → m' y = m₀ y) → StrsAre its.toList ((rowsT Wd pre ws).map mkS) → Ok s₀ s' → Rf (.ok .next) s')
   (hm1 : m₀ "rows" = some (.ref rl)) (hm2 : m₀ "width" = some (.int Wd tw)) :
   ∀ (k i : Nat) (s : Shared) (m : Str → Option Value) (o : Obj) (its : Array Value) (ep : Nat), ws.length - i = k → i ≤ ws.length → J T g [] h₀ L s.heap m ((I, o) :: (rl, lstO its ep) :: kn) → ItAt o wa i → (∀ y : Str, y ≠ "lead" → y ≠ "word" → m y = m₀ y) → TI i ((ws.take i).foldl (stepT Wd) ([], pre)) → StrsAre its.toList ((((ws.take i).foldl (stepT Wd) ([], pre)).1 ++ [((ws.take i).foldl (stepT Wd) ([], pre)).2]).map mkS) → Ok s₀ s →
     codeAny (model PR w) A (.forLoop (.Tuple [.Name "lead" px, .Name "word" py] kt pt) (.ref I) tiBody [] (teEnv L)) Rf s := by
  have hlen : wits.size = ws.length := by have := hps.len; rw [Array.length_toList] at this; exact this
  intro k
  induction k with
  | zero =>
    intro i s m o its ep hk hi j ho hm ti hst ok
    obtain rfl : i = ws.length := de0 hk hi
    refine for_end (s := s) (l := wa) r.h j ho hI (j.old hwa (.inl (by exact ni0))) (Array.getElem?_eq_none (by lia)) fun h' j' k' => ?_
    rw [List.take_length] at hst
    exact hEnd _ m its ep j' hm hst ⟨ok.1, ok.2⟩
  | succ k ih =>
    intro i s m o its ep hk hi j ho hm ti hst ok
    have hin : i < ws.length := dlt hk
    obtain ⟨v, q, e1, e2, tt, ta, tb, rfl, htt⟩ := All2.get hps i (by rw [hps.len]; exact hin)
    have hq := hs q (List.mem_of_getElem? e2)
    have htk : (ws.take (i + 1)).foldl (stepT Wd) ([], pre) = stepT Wd ((ws.take i).foldl (stepT Wd) ([], pre)) q := take_foldl e2
    have ti' := ti.step (Wd := Wd) hq
    rw [← htk] at ti'
    generalize (ws.take i).foldl (stepT Wd) ([], pre) = st at *
    obtain ⟨rs, cur⟩ := st
    obtain ⟨ti1, ti2, ti3⟩ := ti
    dsimp only at hst ti1 ti2 ti3
    have hsz : its.size = rs.length + 1 := by have := StrsAre.len hst; rw [Array.length_toList, List.length_map, List.length_append] at this; exact this
    rw [List.map_append] at hst
    obtain ⟨ty, hy1⟩ := StrsAre.get hst rs.length (by simp)
    have hy2 : its[rs.length]? = some (.str (mkS cur) ty) := by rw [← Array.getElem?_toList, hy1]; simp
    have htt' : h₀.get? tt.1 = some (tupObj [.str (mkS (wl q.1)) ta, .str (mkS (wl q.2)) tb]) := by rw [mk_wl, mk_wl]; exact htt
    have w1 := wl_len q.1
    have w2 := wl_len q.2
    refine for_pair (s := s) (l := wa) r.h j ho hI (j.old hwa (.inl (by exact ni0))) (by rw [← Array.getElem?_toList]; exact e1) (j.old htt' (.inl (by exact ni0))) fun h₁ t₁ o₁ ho₁ j₁ mv₁ => ?_
    have nR : ∀ {x : Str}, x ≠ "lead" → x ≠ "word" → (if x = "word" then some (Value.str (mkS (wl q.2)) tb) else if x = "lead" then some (Value.str (mkS (wl q.1)) ta) else m x) = m₀ x := fun h1 h2 => by rw [if_neg h2, if_neg h1]; exact hm _ h1 h2
    refine xc fun _ hk' => wpAny_If (wpAny_isTrue_Compare1 (Call_ ?_))
    refine j_builtin (s := { s with heap := h₁, toks := t₁ }) G j₁ LX.GM.len boot_len ?_
    refine callWith_method1 (first := []) (args_cons (wpAny_BinOp (wpAny_BinOp (Subscript_ ?_))))
    refine j_local (s := { s with heap := h₁, toks := t₁ }) j₁ (v := .ref rl) ((nR (by decide) (by decide)).trans hm1) ?_
    refine wpAny_UnaryOp ?_
    refine wpAny_Constant_int (i := 1) (k := 0) (pos := ⟨0, 0, 0, 0⟩) ?_
    refine PySem.P.neg_int ?_
    refine subTail_builtin (T := "list") ⟨_, j₁.get (.tail _ (.head _)), rfl⟩ list_getitem_lookup (wpAny_getItem_list_neg (items := its) (k := -1) ⟨_, j₁.get (.tail _ (.head _)), rfl, _, rfl⟩ (by decide) (by lia) (by decide) (by rw [show ((-1 : Int) + (its.size : Int)).toNat = rs.length by lia]; exact hy2) ?_) (.inl rfl)
    refine j_local (s := { s with heap := h₁, toks := _ }) j₁ (v := .str (mkS (wl q.1)) ta) (ine (by decide) (ipo rfl)) ?_
    refine add_mk (fun t₂ k₂ => ?_) (by lia)
    refine j_local (s := { s with heap := h₁, toks := k₂ }) j₁ (v := .str (mkS (wl q.2)) tb) (ipo rfl) ?_
    refine add_mk (fun t₃ k₃ => args_nil ?_) (by rw [List.length_append]; lia)
    rw [List.append_assoc]
    refine PySem.P.len_str (by simp only [mk_len, List.length_append, List.length_append]; lia) ?_
    rw [mk_len]
    refine j_local (s := { s with heap := h₁, toks := _ }) j₁ (v := .int Wd tw) ((nR (by decide) (by decide)).trans hm2) ?_
    refine gt_int' (wpAny_truthy_bool ?_)
    dsimp only
    by_cases hw : ((cur ++ (wl q.1 ++ wl q.2)).length : Int) > Wd
    · rw [decide_eq_true hw, if_pos rfl]
      have est : stepT Wd (rs, cur) q = (rs ++ [cur], (if q.1 = "" then [32] else wl q.1) ++ wl q.2) := by unfold stepT; rw [if_pos hw]
      refine xc fun _ hk2 => wpAny_Expr (MethodCall_ (j_local (s := { s with heap := h₁, toks := _ }) j₁ (v := .ref rl) ((nR (by decide) (by decide)).trans hm1) ?_))
      refine getMethod_list_append (s := { s with heap := h₁, toks := _ }) (j₁.get (.tail _ (.head _))) rfl rfl ?_
      refine callWith_method1 (args_cons (wpAny_BinOp ?_))
      refine wpAny_mono (Q := fun v s' => ∃ t tk, v = .str (mkS (if q.1 = "" then [32] else wl q.1)) t ∧ s' = { s with heap := h₁, toks := tk }) (BoolOp_or (j_local (s := { s with heap := h₁, toks := _ }) j₁ (v := .str (mkS (wl q.1)) ta) (ine (by decide) (ipo rfl)) (PySem.P.truthy_str (by rw [mk_len]; lia) ?_))) ?_ fun _ _ e => e
      · by_cases hq0 : q.1 = ""
        · rw [if_neg (by rw [mk_len, w1, hq0]; decide)]
          exact BoolOp_one (Constant_str ⟨_, _, (show Value.str (mkS [32]) _ = _ by rw [if_pos hq0]), rfl⟩)
        · have : q.1.length ≠ 0 := len_ne hq0
          rw [if_pos (by rw [mk_len, w1]; simpa using this), if_neg hq0]
          exact ⟨_, _, rfl, rfl⟩
      rintro _ _ ⟨t₄, k₄, rfl, rfl⟩
      refine j_local (s := { s with heap := h₁, toks := k₄ }) j₁ (v := .str (mkS (wl q.2)) tb) (ipo rfl) ?_
      have hl3 : (if q.1 = "" then [32] else wl q.1).length ≤ 18 := by split; decide; lia
      refine add_mk (fun t₅ k₅ => args_nil ?_) (by lia)
      refine list_append_any (s := { s with heap := h₁, toks := k₅ }) (LstAt.exact (j₁.get (.tail _ (.head _)))) (by rw [sizeLine_eq]; lia) ?_
      obtain ⟨ep', ec⟩ := mapSeq_lst its (its.push (.str (mkS ((if q.1 = "" then [32] else wl q.1) ++ wl q.2)) t₅)) ep (fun z => z.push (.str (mkS ((if q.1 = "" then [32] else wl q.1) ++ wl q.2)) t₅)) rfl
      have j₃ := j₁.update 1 rfl (.inr hrl) (by exact tnL) ec rfl
      revert j₃
      show ∀ _, _
      generalize h₁.update rl _ = h₃
      intro j₃
      refine hk2 { s with heap := h₃, toks := k₅ } (wpAny_execs_nil (hk' _ (wpAny_execs_nil ?_)))
      refine ih (i + 1) { s with heap := h₃, toks := k₅ } _ o₁ _ ep' (dst hk) hin j₃ ho₁ (fun y h1 h2 => nR h1 h2) ti' ?_ ⟨ok.1, ok.2⟩
      rw [htk, est, Array.toList_push, List.map_append]
      exact strs_snoc (by rw [List.map_append]; exact hst)
    · rw [decide_eq_false hw, if_neg (by decide)]
      have est : stepT Wd (rs, cur) q = (rs, cur ++ (wl q.1 ++ wl q.2)) := by unfold stepT; rw [if_neg hw]
      refine wpAny_execs_cons (wpAny_AugAssign_SubscriptAny ?_)
      refine j_local (s := { s with heap := h₁, toks := _ }) j₁ (v := .ref rl) ((nR (by decide) (by decide)).trans hm1) ?_
      refine wpAny_UnaryOp ?_
      refine wpAny_Constant_int (i := 1) (k := 0) (pos := ⟨0, 0, 0, 0⟩) ?_
      refine PySem.P.neg_int ?_
      refine wpAny_getItem_list_neg (items := its) (k := -1) ⟨_, j₁.get (.tail _ (.head _)), rfl, _, rfl⟩ (by decide) (by lia) (by decide) (by rw [show ((-1 : Int) + (its.size : Int)).toNat = rs.length by lia]; exact hy2) ?_
      refine wpAny_BinOp (j_local (s := { s with heap := h₁, toks := _ }) j₁ (v := .str (mkS (wl q.1)) ta) (ine (by decide) (ipo rfl)) (j_local (s := { s with heap := h₁, toks := _ }) j₁ (v := .str (mkS (wl q.2)) tb) (ipo rfl) ?_))
      refine add_mk (fun t₄ k₄ => ?_) (by lia)
      refine iadd_mk (fun t₅ k₅ => ?_) (by rw [List.length_append]; lia)
      refine set_last (s := { s with heap := h₁, toks := k₅ }) (j₁.get (.tail _ (.head _))) (by lia) (by lia) ?_
      obtain ⟨ep', ec⟩ := mapSeq_lst its (its.setIfInBounds (its.size - 1) (.str (mkS (cur ++ (wl q.1 ++ wl q.2))) t₅)) ep (fun z => z.setIfInBounds (its.size - 1) (.str (mkS (cur ++ (wl q.1 ++ wl q.2))) t₅)) rfl
      have j₃ := j₁.update 1 rfl (.inr hrl) (by exact tnL) ec rfl
      revert j₃
      show ∀ _, _
      generalize h₁.update rl _ = h₃
      intro j₃
      refine wpAny_execs_nil (hk' { s with heap := h₃, toks := k₅ } (wpAny_execs_nil ?_))
      refine ih (i + 1) { s with heap := h₃, toks := k₅ } _ o₁ _ ep' (dst hk) hin j₃ ho₁ (fun y h1 h2 => nR h1 h2) ti' ?_ ⟨ok.1, ok.2⟩
      rw [htk, est, Array.toList_setIfInBounds, hsz, Nat.add_sub_cancel, List.map_append]
      have := strs_set (z := mkS (cur ++ (wl q.1 ++ wl q.2))) (t := t₅) hst
      rw [List.length_map] at this
      exact this
end
end Mine
end
section
open PySem PySem.W PySem.Calls PyProof.Rows Builtin Builtin.ObjectAttr Builtin.Str
namespace Mine
noncomputable abbrev SE := Ent × Nat
noncomputable def dotsL (e : SE) : List Nat := if e.1.1.1 = 0 then [] else List.replicate e.2 46
noncomputable def preT (e : SE) : List Nat := (dotsL e).drop 1 ++ nmL e.1.1 ++ [58, 32]
noncomputable def mailT (W : Int) (e : SE) : List Nat := (dotsL e).take 1 ++ textE [13, 10] (rowsT W (preT e) e.1.2)
noncomputable def pageT (e : SE) : List Nat := dotsL e ++ nmL e.1.1 ++ [58, 32] ++ valL e.1.2 ++ [13, 10]
structure SAt (h : Heap) (its : Array Value) (se : List SE) : Prop where
  sz : its.size = se.length
  at_ : ∀ (i : Nat) (e : SE), se[i]? = some e → ∃ t wa tn tk wits wep, its[i]? = some (.ref t) ∧ h.get? t = some (tupObj [.str (mkS (nmL e.1.1)) tn, .ref wa, .int (e.2 : Int) tk]) ∧ h.get? wa = some (lstO wits wep) ∧ Parts anyA h wits.toList e.1.2
theorem slice_to : ∀ n, n ≤ 3 → (Txt.slice (mkS (List.replicate n 46)) none (some 1) == mkS ((List.replicate n 46).take 1)) = true ∧ (Txt.slice (mkS (List.replicate n 46)) (some 1) none == mkS ((List.replicate n 46).drop 1)) = true := by decide +kernel
theorem dotsL_eq (e : SE) (h : e.2 ≤ 3) : ∃ n, n ≤ 3 ∧ dotsL e = List.replicate n 46 := by
  unfold dotsL
  split
  · exact ⟨0, by decide, rfl⟩
  · exact ⟨e.2, h, rfl⟩
theorem slice_dots (e : SE) (h : e.2 ≤ 3) : Txt.slice (mkS (dotsL e)) none (some 1) = mkS ((dotsL e).take 1) ∧ Txt.slice (mkS (dotsL e)) (some 1) none = mkS ((dotsL e).drop 1) := by
  obtain ⟨n, hn, e⟩ := dotsL_eq e h
  rw [e]
  exact ⟨eq_of_beq (slice_to n hn).1, eq_of_beq (slice_to n hn).2⟩
theorem nm_first (q : Nat × Nat) : ((seqIndex? 0 (mkS (nmL q)).length).bind fun x => (mkS (nmL q)).cps[x]?) = some (if q.1 = 0 then q.2 else 46) := by
  obtain ⟨k, c⟩ := q
  have hs : seqIndex? 0 (mkS (nmL (k, c))).length = some 0 := by
    rw [mk_len]
    unfold nmL
    rw [List.length_append]
    show seqIndex? 0 (_ + 1) = _
    unfold seqIndex?
    have e0 : ∀ x : Int, (if (0 : Int) < 0 then x else 0) = 0 := fun x => if_neg (by decide)
    rw [e0]
    have e1 : ∀ n : Nat, ((decide ((0 : Int) ≤ 0) && decide ((0 : Int) < ((n + 1 : Nat) : Int))) = true) := fun n => by simp
    rw [if_pos (e1 _)]
    rfl
  rw [hs]
  show (mkS (nmL (k, c))).cps[0]? = _
  rw [← Array.getElem?_toList]
  show (nmL (k, c))[0]? = _
  unfold nmL
  cases k with
  | zero => rfl
  | succ k => rfl
theorem first_dot {q : Nat × Nat} (h : GoodQ q) : ((⟨#[if q.1 = 0 then q.2 else 46]⟩ : Str) == ".") = !decide (q.1 = 0) := by
  by_cases h0 : q.1 = 0
  · rw [if_pos h0, decide_eq_true h0]
    rcases h.2 with e | e | e | e <;> rw [e] <;> decide +kernel
  · rw [if_neg h0, decide_eq_false h0]; decide +kernel
theorem rowsT_ti {W : Int} {pre : List Nat} {ws : WS} (hp : pre.length ≤ 20) (hv : GoodV ws) : (∀ y ∈ rowsT W pre ws, y.length ≤ 130) ∧ (rowsT W pre ws).length ≤ 8 := by
  have : ∀ (us : WS) (i : Nat) (st : List (List Nat) × List Nat), (∀ p ∈ us, p.1.length + p.2.length ≤ 17) → TI i st → TI (i + us.length) (us.foldl (stepT W) st) := by
    intro us
    induction us with
    | nil => intro i st _ h; exact h
    | cons p us ih =>
      intro i st hu h
      have := ih (i + 1) _ (fun q hq => hu q (.tail _ hq)) (h.step (Wd := W) (hu p (.head _)))
      rw [List.length_cons, show i + (us.length + 1) = i + 1 + us.length by lia]
      exact this
  have t := this ws 0 ([], pre) (fun p hp => (hv.short p hp).1) ⟨Nat.le_refl _, by dsimp only; omega, fun _ h => nomatch h⟩
  obtain ⟨h1, h2, h3⟩ := t
  have hl := hv.len
  unfold rowsT
  refine ⟨fun y hy => ?_, by rw [List.length_append]; show _ + 1 ≤ 8; lia⟩
  rcases List.mem_append.mp hy with hy | hy
  · have := h3 y hy; lia
  · rw [List.mem_singleton.mp hy]; lia
theorem crlf_mk : ("\r\n" : Str) = mkS [13, 10] := str_inj crlf_list
theorem join_rows (rows : List (List Nat)) : Str.join "\r\n" (rows.map mkS) = mkS (gls [13, 10] rows) := str_inj (by
  show wl (Str.join "\r\n" (rows.map mkS)) = gls [13, 10] rows
  rw [wl_join, show wl ("\r\n" : Str) = [13, 10] from crlf_list, List.map_map]
  exact congrArg (gls [13, 10]) (List.map_id rows))
theorem textE_len {rows : List (List Nat)} {B n : Nat} (h : ∀ y ∈ rows, y.length ≤ B) (hn : rows.length ≤ n) : (textE [13, 10] rows).length ≤ n * (B + 2) := by
  unfold textE
  rw [List.length_flatten]
  have h1 := sum_le (B := B + 2) (l := (rows.map fun l => l ++ [13, 10]).map List.length) fun x hx => by
    obtain ⟨y, hy, rfl⟩ := List.mem_map.mp hx
    obtain ⟨z, hz, rfl⟩ := List.mem_map.mp hy
    rw [List.length_append]
    have := h z hz
    show _ + 2 ≤ _
    lia
  rw [List.length_map, List.length_map] at h1
  exact Nat.le_trans h1 (Nat.mul_le_mul_right _ hn)
theorem flat_take {α : Type} {l : List α} {f : α → List Nat} {i : Nat} {e : α} (h : l[i]? = some e) : (l.take (i + 1)).flatMap f = (l.take i).flatMap f ++ f e := by
  rw [List.take_add_one, h, List.flatMap_append]
  congr 1
  exact List.append_nil _
theorem rp_mk (c n : Nat) : rp c n = mkS (List.replicate n c) := rfl
section
variable {Pk : Addr → Prop}
variable {T : Tabs} {K : Frag} {cd : ClassData} {mg mb : Str → Option Value} {w : World} {A : Around} {s : Shared} {g h₀ h h' h₁ h₂ : Heap} {W W' : List Addr} {L C : Addr} {m : Str → Option Value} {kn : List (Addr × Obj)} {R : Result → Shared → Prop} {E : Value → Shared → Prop} {prog : Program}
theorem sl_to {env : Env} {x : Str} {v : List Nat} {t : Tok} {px p1 p2 p3 : Pos} {k : Nat} {Q : Value → Shared → Prop} (j : J T g W h₀ env.locals s.heap m kn) (hx : m x = some (.str (mkS v) t)) (hl : env.kindOf x = some .local) (hk : env.scope.kind = .function) (hd : (x == ("__debug__" : Str)) = false) (hz : v.length ≤ 1000)
    (h : ∀ h' t' tk, J T g W h₀ env.locals h' m kn → Q (.str (Txt.slice (mkS v) none (some 1)) t') { s with heap := h', toks := tk }) :
    wpAny (model prog w) A (eval (.Subscript (.Name x px) (.Slice none (some (.Constant (.int 1) k p1)) none p2) p3) env) Q E s := by
  refine Subscript_ (e_local (s := s) j hx (e_Slice (wpAny_pure (wpAny_Constant_int (i := 1) (k := k) (pos := p1) ?_))) hk hl hd)
  obtain ⟨sl, h₂, esl, e2, j₂, mv₂, _, _⟩ := J.pushK j (slObj .none (.int 1 s.toks)) rfl
  dsimp only
  rw [← esl, ← e2]
  exact str_slice (s := { s with heap := h₂, toks := s.toks + 1 }) (l := none) (u := some (1, s.toks)) ⟨_, j₂.get (.head _), rfl, rfl⟩ (by rw [mk_len]; lia) (fun t₃ k₃ => h h₂ t₃ k₃ (j₂.sub (List.sublist_cons_self _ _))) (.inr rfl)
theorem sl_from {env : Env} {x : Str} {v : List Nat} {t : Tok} {px p1 p2 p3 : Pos} {k : Nat} {Q : Value → Shared → Prop} (j : J T g W h₀ env.locals s.heap m kn) (hx : m x = some (.str (mkS v) t)) (hl : env.kindOf x = some .local) (hk : env.scope.kind = .function) (hd : (x == ("__debug__" : Str)) = false) (hz : v.length ≤ 1000)
    (h : ∀ h' t' tk, J T g W h₀ env.locals h' m kn → Q (.str (Txt.slice (mkS v) (some 1) none) t') { s with heap := h', toks := tk }) :
    wpAny (model prog w) A (eval (.Subscript (.Name x px) (.Slice (some (.Constant (.int 1) k p1)) none none p2) p3) env) Q E s := by
  refine Subscript_ (e_local (s := s) j hx (e_Slice (wpAny_Constant_int (i := 1) (k := k) (pos := p1) (wpAny_pure ?_))) hk hl hd)
  obtain ⟨sl, h₂, esl, e2, j₂, mv₂, _, _⟩ := J.pushK j (slObj (.int 1 s.toks) .none) rfl
  dsimp only
  rw [← esl, ← e2]
  exact str_slice (s := { s with heap := h₂, toks := s.toks + 1 }) (l := some (1, s.toks)) (u := none) ⟨_, j₂.get (.head _), rfl, rfl⟩ (by rw [mk_len]; lia) (fun t₃ k₃ => h h₂ t₃ k₃ (j₂.sub (List.sublist_cons_self _ _))) (.inr rfl)
theorem mk_one (c : Nat) : (⟨#[c]⟩ : Str) = mkS [c] := rfl
theorem dot_cps : (("." : Str)).cps = #[46] := by decide +kernel
theorem told_loop {I a : Addr} {its : Array Value} {ep : Nat} {se : List SE} {Wd : Int} {tw : Tok} {px py pz pt : Pos} {kt : Nat} {Rf : Result → Shared → Prop} (LX : Lx T K cd mg) (G : Gb T K mg mb g) (r : Rm A 5) (hI : h₀.get? I = none) (ha : h₀.get? a = some (lstO its ep)) (hse : SAt h₀ its se) (hg : ∀ e ∈ se, GoodQ e.1.1 ∧ GoodV e.1.2 ∧ e.2 ≤ 3) (hn : se.length ≤ 10) (s₀ : Shared)
   (hEnd : ∀ s' m' t u, J T g [] h₀ L s'.heap m' [] → m' "mail" = some (.str (mkS (se.flatMap (mailT Wd))) t) → m' "page" = some (.str (mkS (se.flatMap pageT)) u) → (se.flatMap pageT).length ≤ 10000 → Ok s₀ s' → Rf (.ok .next) s') :
   ∀ (k i : Nat) (s : Shared) (m : Str → Option Value) (o : Obj) (t u : Tok), se.length - i = k → i ≤ se.length → J T g [] h₀ L s.heap m [(I, o)] → ItAt o a i → m "width" = some (.int Wd tw) → m "mail" = some (.str (mkS ((se.take i).flatMap (mailT Wd))) t) → m "page" = some (.str (mkS ((se.take i).flatMap pageT)) u) → ((se.take i).flatMap (mailT Wd)).length ≤ i * 1100 → ((se.take i).flatMap pageT).length ≤ i * 1000 → Ok s₀ s →
     codeAny (model PR w) A (.forLoop (.Tuple [.Name "name" px, .Name "words" py, .Name "sendings" pz] kt pt) (.ref I) teBody [] (teEnv L)) Rf s := by
  intro k
  induction k with
  | zero =>
    intro i s m o t u hk hi j ho hm1 hm2 hm3 hz1 hz2 ok
    obtain rfl : i = se.length := de0 hk hi
    refine for_end (s := s) (l := a) r.h j ho hI (j.old ha (.inl (by exact ni0))) (Array.getElem?_eq_none (by rw [hse.sz]; omega)) fun h' j' k' => ?_
    rw [List.take_length] at hm2 hm3 hz2
    exact hEnd _ m t u j' hm2 hm3 (by lia) ⟨ok.1, ok.2⟩
  | succ k ih =>
    intro i s m o t u hk hi j ho hm1 hm2 hm3 hz1 hz2 ok
    have hin : i < se.length := dlt hk
    have hei : se[i]? = some se[i] := List.getElem?_eq_getElem hin
    obtain ⟨gq, gv, g3⟩ := hg _ (List.getElem_mem hin)
    generalize hee : se[i] = e at *
    obtain ⟨tt, wa, tn, tk, wits, wep, hv, htt, hwa, hwp⟩ := hse.at_ i e hei
    have fm := flat_take (f := mailT Wd) hei
    have fp := flat_take (f := pageT) hei
    obtain ⟨pl1, pl2⟩ := preL_len gq
    have hnl : (nmL e.1.1).length + 2 = (preL e.1.1).length := by unfold preL; rw [List.length_append]; rfl
    obtain ⟨nd, hnd, edl⟩ := dotsL_eq e g3
    have hdl : (dotsL e).length ≤ 3 := by rw [edl, List.length_replicate]; exact hnd
    have hpl : (preT e).length ≤ 20 := by unfold preT; rw [List.length_append, List.length_append, List.length_drop]; show _ + _ + 2 ≤ _; lia
    obtain ⟨sd1, sd2⟩ := slice_dots e g3
    obtain ⟨ti1, ti2⟩ := rowsT_ti (W := Wd) hpl gv
    refine for_tri (s := s) (l := a) r.h j ho hI (j.old ha (.inl (by exact ni0))) hv (j.old htt (.inl (by exact ni0))) fun h₁ t₁ o₁ ho₁ j₁ mv₁ => ?_
    refine xc fun _ hk' => wpAny_Assign_Name ?_
    refine wpAny_mono (Q := fun v s' => ∃ t tk, v = .str (mkS (dotsL e)) t ∧ s' = { s with heap := h₁, toks := tk }) (IfExp_ (wpAny_isTrue_Compare1 (Subscript_ ?_))) ?_ fun _ _ e => e
    · refine j_local (s := { s with heap := h₁, toks := t₁ }) j₁ (v := .str (mkS (nmL e.1.1)) tn) (ine (by decide) (ine (by decide) (ipo rfl))) ?_
      refine wpAny_Constant_int (i := 0) (k := 0) (pos := ⟨0, 0, 0, 0⟩) ?_
      refine subTail_builtin (typeIs_str _ _ _) PySem.F.slot_str_getitem.lookup (PySem.P.getItem_str (by decide) (nm_first e.1.1) ?_) (.inl rfl)
      refine Constant_str (PyProof.Rows.eq_str (wpAny_truthy_bool ?_))
      rw [first_dot gq]
      by_cases h0 : e.1.1.1 = 0
      · rw [decide_eq_true h0, if_neg (by decide)]
        have e0 : ("" : Str) = mkS (dotsL e) := by unfold dotsL; rw [if_pos h0]; rfl
        refine Constant_str ?_
        rw [e0]
        exact ⟨_, _, rfl, rfl⟩
      · rw [decide_eq_false h0, if_pos (by decide)]
        have e1 : rp 46 e.2 = mkS (dotsL e) := by unfold dotsL; rw [if_neg h0]; rfl
        refine wpAny_BinOp (Constant_str (j_local (s := { s with heap := h₁, toks := _ }) j₁ (v := .int (e.2 : Int) tk) (ipo rfl) ?_))
        refine g_rep (c := 46) dot_cps (by lia) fun t₂ k₂ => ⟨t₂, k₂, by rw [e1], rfl⟩
    rintro _ _ ⟨t₂, k₂, rfl, rfl⟩
    refine j_storeK (s := { s with heap := h₁, toks := k₂ }) j₁ fun h₃ t₃ j₃ mv₃ => hk' { s with heap := h₃, toks := t₃ } ?_
    clear hk'
    refine xc fun _ hk' => wpAny_Assign_Name (List_ (args_cons (wpAny_BinOp (wpAny_BinOp ?_))))
    refine sl_from (s := { s with heap := h₃, toks := t₃ }) (v := dotsL e) (t := t₂) j₃ (ipo rfl) rfl rfl (by decide) (by lia) fun h₄ t₄ k₄ j₄ => ?_
    rw [sd2]
    refine j_local (s := { s with heap := h₄, toks := k₄ }) j₄ (v := .str (mkS (nmL e.1.1)) tn) (ine (by decide) (ine (by decide) (ine (by decide) (ipo rfl)))) ?_
    refine add_mk (fun t₅ k₅ => Constant_str ?_) (by rw [List.length_drop]; lia)
    rw [mk_colon]
    refine add_mk (fun t₆ k₆ => args_nil ?_) (by rw [List.length_append, List.length_drop]; show _ + 2 ≤ _; lia)
    rw [show (dotsL e).drop 1 ++ nmL e.1.1 ++ [58, 32] = preT e from rfl]
    refine j_newListK (s := { s with heap := h₄, toks := k₆ }) j₄ fun rl h₅ j₅ mv₅ nrl => ?_
    refine j_storeK (s := { s with heap := h₅, toks := k₆ }) j₅ fun h₆ t₇ j₆ mv₆ => hk' { s with heap := h₆, toks := t₇ } ?_
    clear hk'
    refine xc fun _ hk' => wpAny_For (j_local (s := { s with heap := h₆, toks := t₇ }) j₆ (v := .ref wa) (ine (by decide) (ine (by decide) (ine (by decide) (ipo rfl)))) ?_)
    refine j_pyIterList (s := { s with heap := h₆, toks := t₇ }) j₆ (j₆.old hwa (.inl (by exact ni0))) rfl rfl fun I2 h₇ hI2 j₇ mv₇ nI2 nI2' => ?_
    refine told_in (pre := preT e) (Wd := Wd) (tw := tw) LX G (r.mono (by decide)) nI2 nrl hwa hwp (fun p hp => (gv.short p hp).1) gv.len { s with heap := h₇, toks := t₇ } _ ?_ (ipo rfl) (ine (by decide) (ine (by decide) (ine (by decide) (ine (by decide) (ine (by decide) hm1))))) e.1.2.length 0 { s with heap := h₇, toks := t₇ } _ _ _ 0 rfl (Nat.zero_le _) j₇ ⟨rfl, rfl⟩ (fun _ _ _ => rfl) ⟨Nat.le_refl _, by exact hpl, fun _ q => nomatch q⟩ (.cons _ _ .nil) ⟨rfl, id⟩
    intro s₈ m₈ its₈ ep₈ j₈ hm₈ hst ok₈
    refine hk' s₈ ?_
    clear hk'
    have hrl8 : its₈.size ≤ 8 := by have := StrsAre.len hst; rw [Array.length_toList, List.length_map] at this; lia
    refine xc fun _ hk' => wpAny_AugAssign_Name (wpAny_loadName_local rfl rfl j₈.ns ((hm₈ _ (by decide) (by decide)).trans (ine (by decide) (ine (by decide) (ine (by decide) (ine (by decide) (ine (by decide) hm2)))))) ?_)
    refine wpAny_BinOp (wpAny_BinOp ?_)
    refine sl_to (s := s₈) (v := dotsL e) (t := t₂) j₈ ((hm₈ _ (by decide) (by decide)).trans (ine (by decide) (ipo rfl))) rfl rfl (by decide) (by lia) fun h₉ t₉ k₉ j₉ => ?_
    rw [sd1]
    refine MethodCall_ (Constant_str ?_)
    refine PySem.GM.join ?_
    refine callWith_method1 (args_cons (j_local (s := { s₈ with heap := h₉, toks := _ }) j₉ (v := .ref rl) ((hm₈ _ (by decide) (by decide)).trans (ipo rfl)) (args_nil ?_)))
    have hgz : (gls [13, 10] (rowsT Wd (preT e) e.1.2)).length + 2 = (textE [13, 10] (rowsT Wd (preT e) e.1.2)).length := by
      rw [← gls_text [13, 10] (rowsT Wd (preT e) e.1.2) app_ne, List.length_append]; rfl
    have hte := textE_len (B := 130) ti1 ti2
    refine join_list ⟨_, j₉.get (.head _), rfl, _, rfl⟩ hst (joins (B := 130) (fun x hx => ?_) (by simp; lia) (by decide) (by decide +kernel)) fun t₁₀ k₁₀ => ?_
    · obtain ⟨y, hy, rfl⟩ := List.mem_map.mp hx
      rw [mk_len]; exact ti1 y hy
    rw [Txt_join, join_rows]
    refine add_mk (fun t₁₁ k₁₁ => Constant_str ?_) (by rw [List.length_take]; lia)
    rw [crlf_mk]
    refine add_mk (fun t₁₂ k₁₂ => ?_) (by rw [List.length_append, List.length_take]; show _ + 2 ≤ _; lia)
    have hml : (dotsL e).take 1 ++ gls [13, 10] (rowsT Wd (preT e) e.1.2) ++ [13, 10] = mailT Wd e := by
      unfold mailT
      rw [List.append_assoc, gls_text [13, 10] (rowsT Wd (preT e) e.1.2) app_ne]
    rw [hml]
    have hmz : (mailT Wd e).length ≤ 1100 := by rw [← hml, List.length_append, List.length_append, List.length_take]; show _ + 2 ≤ _; lia
    refine iadd_mk (fun t₁₃ k₁₃ => ?_) (by lia)
    rw [← fm]
    refine j_storeK (s := { s₈ with heap := h₉, toks := k₁₃ }) j₉ fun h₁₀ t₁₄ j₁₀ mv₁₀ => hk' { s₈ with heap := h₁₀, toks := t₁₄ } ?_
    clear hk'
    have nM : ∀ {x : Str}, x ≠ "mail" → x ≠ "lead" → x ≠ "word" → x ≠ "rows" → x ≠ "dots" → (if x = "mail" then some (Value.str (mkS ((se.take (i + 1)).flatMap (mailT Wd))) t₁₃) else m₈ x) = (if x = "sendings" then some (Value.int (e.2 : Int) tk) else if x = "words" then some (Value.ref wa) else if x = "name" then some (Value.str (mkS (nmL e.1.1)) tn) else m x) := fun h1 h2 h3 h4 h5 => by
      rw [if_neg h1]
      refine (hm₈ _ h2 h3).trans ?_
      rw [if_neg h4, if_neg h5]
    refine xc fun _ hk' => wpAny_AugAssign_Name (wpAny_loadName_local rfl rfl j₁₀.ns ((nM (by decide) (by decide) (by decide) (by decide) (by decide)).trans (ine (by decide) (ine (by decide) (ine (by decide) hm3)))) ?_)
    refine wpAny_BinOp (wpAny_BinOp (wpAny_BinOp (wpAny_BinOp ?_)))
    refine j_local (s := { s₈ with heap := h₁₀, toks := t₁₄ }) j₁₀ (v := .str (mkS (dotsL e)) t₂) (by rw [if_neg (by decide)]; exact (hm₈ _ (by decide) (by decide)).trans (ine (by decide) (ipo rfl))) ?_
    refine j_local (s := { s₈ with heap := h₁₀, toks := t₁₄ }) j₁₀ (v := .str (mkS (nmL e.1.1)) tn) ((nM (by decide) (by decide) (by decide) (by decide) (by decide)).trans (ine (by decide) (ine (by decide) (ipo rfl)))) ?_
    refine add_mk (fun t₁₅ k₁₅ => Constant_str ?_) (by lia)
    rw [mk_colon]
    refine add_mk (fun t₁₆ k₁₆ => Call_ ?_) (by rw [List.length_append]; show _ + 2 ≤ _; lia)
    refine j_global (s := { s₈ with heap := h₁₀, toks := k₁₆ }) G j₁₀ LX.gValue ?_
    refine j_callWith (LX.kl 370 (by decide)) (args_cons ?_)
    refine j_local (s := { s₈ with heap := h₁₀, toks := k₁₆ }) j₁₀ (v := .ref wa) ((nM (by decide) (by decide) (by decide) (by decide) (by decide)).trans (ine (by decide) (ipo rfl))) (args_nil ⟨j₁₀.mv.st.In G, wpAny_call ?_⟩)
    have hvl : (valL e.1.2).length ≤ 200 := by have := gv.valLen; lia
    refine value_spec (s := { s₈ with heap := h₁₀, toks := k₁₆ }) (Pk := anyA) LX.LA G j₁₀.mv.st (r.mono (by decide)) (j₁₀.old hwa (.inl (by exact ni0))) (hwp.mv j.s0 j₁₀.mv) (Nat.le_trans gv.len (by decide)) (fun p hp => Nat.le_trans (gv.short p hp).1 (by decide)) fun s₁₁ t₁₇ mv₁₁ ok₁₁ => ?_
    have j₁₁ := j₁₀.call0 mv₁₁
    refine add_mk (fun t₁₈ k₁₈ => Constant_str ?_) (by rw [List.length_append, List.length_append]; show _ + 2 + _ ≤ _; lia)
    rw [crlf_mk]
    refine add_mk (fun t₁₉ k₁₉ => ?_) (by rw [List.length_append, List.length_append, List.length_append]; show _ + 2 + _ + 2 ≤ _; lia)
    rw [show dotsL e ++ nmL e.1.1 ++ [58, 32] ++ valL e.1.2 ++ [13, 10] = pageT e from rfl]
    have hpz : (pageT e).length ≤ 1000 := by
      unfold pageT
      rw [List.length_append, List.length_append, List.length_append, List.length_append]; show _ + 2 + _ + 2 ≤ _; lia
    refine iadd_mk (fun t₂₀ k₂₀ => ?_) (by lia)
    rw [← fp]
    refine j_storeK (s := { s₁₁ with toks := k₂₀ }) j₁₁ fun h₁₂ t₂₁ j₁₂ mv₁₂ => hk' { s₁₁ with heap := h₁₂, toks := t₂₁ } (wpAny_execs_nil ?_)
    refine ih (i + 1) { s₁₁ with heap := h₁₂, toks := t₂₁ } _ o₁ t₁₃ t₂₀ (dst hk) hin (j₁₂.sub (List.sublist_cons_self _ _)) ho₁ ?_ ?_ (ipo rfl) ?_ ?_ ⟨ok₁₁.1.trans (ok₈.1.trans ok.1), fun q => ok₁₁.2 (ok₈.2 (ok.2 q))⟩
    · rw [if_neg (by decide)]
      exact (nM (by decide) (by decide) (by decide) (by decide) (by decide)).trans (ine (by decide) (ine (by decide) (ine (by decide) hm1)))
    · rw [if_neg (by decide), if_pos rfl]
    · rw [fm, List.length_append]; lia
    · rw [fp, List.length_append]; lia
theorem told_spec {a : Addr} {its : Array Value} {ep : Nat} {se : List SE} {Wd : Int} {tw : Tok} (LX : Lx T K cd mg) (G : Gb T K mg mb g) (S : St T g s.heap) (r : Rm A 6) (ha : s.heap.get? a = some (lstO its ep)) (hse : SAt s.heap its se) (hg : ∀ e ∈ se, GoodQ e.1.1 ∧ GoodV e.1.2 ∧ e.2 ≤ 3) (hn : se.length ≤ 10)
   (hR : ∀ s' t u v, Mv T g [] s.heap s'.heap → Ok s s' → s'.heap.get? t = some (tupObj [.str (mkS (se.flatMap (mailT Wd))) u, .str (mkS (se.flatMap pageT ++ [13, 10])) v]) → s.heap.get? t = none → R (.ok (.ret (.ref t))) s') :
   codeAny (model PR w) A (.call (.ref 394) ⟨[.ref a, .int Wd tw], []⟩) R s := by
  refine' j_callK (binds := [("heads", .ref a), ("width", .int Wd tw)]) [] [] G S Kn.nil LX.told r.lt (fun _ _ _ _ _ _ => BindsTo.of_eq rfl) (locs rfl) (by decide) ?_ rfl rfl rfl
  intro L h₁ t₁ j mv₁
  have rr := r.deeper (env := teEnv L)
  refine xc fun _ hk => Assign_Tuple (Tuple_ (args_cons (Constant_str (args_cons (Constant_str (args_nil ?_))))))
  rw [mk_nil]
  refine pair_bind2 (s := { s with heap := h₁, toks := _ }) (x := "mail") (y := "page") r.h j (by rfl) (by rfl) (by rfl) fun h₂ t₂ j₂ mv₂ => hk { s with heap := h₂, toks := t₂ } ?_
  clear hk
  refine xc fun _ hk => wpAny_For (j_local (s := { s with heap := h₂, toks := t₂ }) j₂ rfl ?_)
  refine j_pyIterList (s := { s with heap := h₂, toks := t₂ }) j₂ (j₂.old ha (.inl (by exact ni0))) rfl rfl fun I h₃ hI j₃ mv₃ nI nI' => ?_
  refine told_loop (Wd := Wd) (tw := tw) LX G (rr.mono (by decide)) nI ha hse hg hn s ?_ se.length 0 { s with heap := h₃, toks := t₂ } _ _ _ _ rfl (Nat.zero_le _) j₃ ⟨rfl, rfl⟩ rfl rfl rfl (Nat.zero_le _) (Nat.zero_le _) ⟨rfl, id⟩
  intro s₄ m₄ t₄ u₄ j₄ hm1 hm2 hz ok₄
  refine hk s₄ ?_
  clear hk
  refine wpAny_execs_cons (wpAny_Return_some (Tuple_ (args_cons (j_local (s := s₄) j₄ hm1 (args_cons (wpAny_BinOp (j_local (s := s₄) j₄ hm2 (Constant_str ?_))))))))
  rw [crlf_mk]
  refine add_mk (fun t₅ k₅ => args_nil ?_) (by show _ + 2 ≤ _; lia)
  refine j_newTuple (s := { s₄ with toks := k₅ }) j₄ fun tt h₆ j₆ nt _ => ?_
  have htt := j₆.get (.head _)
  exact hR { s₄ with heap := h₆, toks := k₅ } tt t₄ t₅ j₆.mv ⟨ok₄.1, ok₄.2⟩ htt nt
end
end Mine
end
section
open PySem PySem.StrLaws Builtin Builtin.Str
namespace Mine
theorem kind_pos (x : Str) : 1 ≤ Builtin.Str.strKind x := by
  unfold Builtin.Str.strKind
  repeat' split
  all_goals decide
theorem replace_split {x y z : Str} (hy : y.length ≠ 0) (hk : Builtin.Str.strKind y = 1) : Txt.replace x y z = Str.join z (Txt.split x y) := by
  have h10 : (y.length == 0) = false := beq_eq_false_iff_ne.mpr hy
  have hkk : decide (Builtin.Str.strKind x < Builtin.Str.strKind y) = false := decide_eq_false (by rw [hk]; exact Nat.not_lt.mpr (kind_pos x))
  unfold Txt.replace Txt.split
  rw [h10, Bool.false_and, Bool.or_false, hkk, Bool.or_false]
  rcases occ_head x y (x.length + 1) (by lia) with ⟨e, _⟩ | ⟨i, r, e, hA, _⟩
  · rw [e]
    show x = Str.join z (if _ then [x] else [x])
    rw [ite_self]
    rfl
  · rw [e]
    have : decide (x.length < y.length) = false := decide_eq_false (by have := hA.1; lia)
    rw [this]
    show glued z _ = _
    rw [glued_eq_join]
    rfl
theorem replace_rows {en : List Nat} {rows : List (List Nat)} (h : ∀ l ∈ rows, Free l) : Txt.replace (mkS (textL rows)) "\r\n" (mkS en) = mkS (textE en rows) := by
  rw [replace_split (by decide +kernel) crlf_kind, split_rows h]
  apply str_inj
  show wl (Str.join (mkS en) (rows.map mkS ++ [mkS []])) = textE en rows
  rw [wl_join, List.map_append, List.map_map, show wl ∘ mkS = _root_.id from rfl, List.map_id]
  show gls en (rows ++ [[]]) = _
  clear h
  induction rows with
  | nil => rfl
  | cons x rows ih =>
    rw [text_cons, ← ih]
    cases rows with
    | nil => show x ++ (en ++ [] ++ []) = x ++ (en ++ ([] ++ [])); simp
    | cons y r =>
      show x ++ ((en ++ y) ++ ((r ++ [[]]).map (en ++ ·)).flatten) = x ++ (en ++ (y ++ ((r ++ [[]]).map (en ++ ·)).flatten))
      rw [List.append_assoc]
noncomputable def okC (c : Nat) : Bool := c == 32 || c == 46 || c == 58 || c == 88 || c == 97 || c == 98 || c == 111 || c == 120
noncomputable def OkL (l : List Nat) : Prop := ∀ c ∈ l, okC c = true
theorem OkL.app {a b : List Nat} (x : OkL a) (y : OkL b) : OkL (a ++ b) := fun c hc => (List.mem_append.mp hc).elim (x c) (y c)
theorem okC_cases {c : Nat} (h : okC c = true) : c = 32 ∨ c = 46 ∨ c = 58 ∨ c = 88 ∨ c = 97 ∨ c = 98 ∨ c = 111 ∨ c = 120 := by
  unfold okC at h
  simp only [Bool.or_eq_true, beq_iff_eq] at h
  lia
theorem OkL.free {l : List Nat} (h : OkL l) : Free l := ⟨fun hm => by have := h _ hm; revert this; decide, fun hm => by have := h _ hm; revert this; decide⟩
theorem OkL.print {l : List Nat} (h : OkL l) : Printable (mkS l) := fun c hc => by
  have := okC_cases (h c hc)
  lia
theorem nm_ok {q : Nat × Nat} (h : GoodQ q) : OkL (nmL q) := fun c hc => by
  rcases nm_signs h c hc with rfl | rfl | rfl | rfl | rfl <;> rfl
theorem pre_ok {q : Nat × Nat} (h : GoodQ q) : OkL (preL q) := (nm_ok h).app (by intro c hc; rcases List.mem_cons.mp hc with rfl | hc; rfl; rw [List.mem_singleton.mp hc]; rfl)
theorem GoodV.lead {ws : WS} (h : GoodV ws) : ∀ p ∈ ws, p.1 = "" ∨ Lead p := fun p hp => by
  cases ws with
  | nil => cases hp
  | cons a r =>
    rcases List.mem_cons.mp hp with rfl | hp
    · exact .inl (h.first _ rfl)
    · exact .inr (h.tail _ hp)
theorem lead_ok {p : Str × Str} (h : p.1 = "" ∨ Lead p) : OkL (wl p.1) := by
  rcases h with h | h | h
  · rw [h]; exact fun c hc => nomatch hc
  · rw [h]; intro c hc; rw [List.mem_singleton.mp hc]; rfl
  · rw [h]; intro c hc; rcases List.mem_cons.mp hc with rfl | hc; rfl; rw [List.mem_singleton.mp hc]; rfl
theorem word_ok {ws : WS} (h : GoodV ws) {p : Str × Str} (hp : p ∈ ws) : OkL (wl p.1 ++ wl p.2) := (lead_ok (h.lead p hp)).app fun c hc => by
  rcases (h.word p hp).1 c hc with rfl | rfl <;> rfl
theorem val_ok {ws : WS} (h : GoodV ws) : OkL (valL ws) := fun c hc => by
  obtain ⟨l, hl, hc⟩ := List.mem_flatten.mp hc
  obtain ⟨p, hp, rfl⟩ := List.mem_map.mp hl
  exact word_ok h hp c hc
theorem fold_ok {W : Int} : ∀ {ws : WS} {t : List (List Nat) × List Nat}, (∀ p ∈ ws, OkL (wl p.1 ++ wl p.2)) → (∀ y ∈ t.1 ++ [t.2], OkL y) → ∀ y ∈ (ws.foldl (stepT W) t).1 ++ [(ws.foldl (stepT W) t).2], OkL y
  | [], t, _, h => h
  | p :: ws, t, hw, h => by
    refine fold_ok (ws := ws) (t := stepT W t p) (fun q hq => hw q (.tail _ hq)) ?_
    have h2 := h t.2 (by simp)
    have hp := hw p (.head _)
    unfold stepT
    split
    · intro y hy
      rcases List.mem_append.mp hy with hy | hy
      · exact h y hy
      · rw [List.mem_singleton.mp hy]
        dsimp only
        split
        · rename_i e; rw [e] at hp; exact OkL.app (by intro c hc; rw [List.mem_singleton.mp hc]; rfl) hp
        · exact hp
    · intro y hy
      rcases List.mem_append.mp hy with hy | hy
      · exact h y (List.mem_append_left _ hy)
      · rw [List.mem_singleton.mp hy]; exact h2.app hp
theorem rows_ok {W : Int} {pre : List Nat} {ws : WS} (hp : OkL pre) (h : GoodV ws) : ∀ y ∈ rowsT W pre ws, OkL y :=
  fold_ok (t := ([], pre)) (fun p hp => word_ok h hp) fun y hy => by rw [List.mem_singleton.mp hy]; exact hp
theorem rowsOf_fold {W : Int} {e : Ent} (h : GoodV e.2) : RowsOf e (rowsT W (preL e.1) e.2) where
  sh := Sh.fold (t := ([], preL e.1)) ⟨[], [], by show [preL e.1] = [preL e.1 ++ []]; rw [List.append_nil], by exact al0⟩ h.lead
  flat := flat_rows fun p hp => (h.tail p hp).ne
theorem rowsOf_plain (e : Ent) : RowsOf e [preL e.1 ++ valL e.2] where
  sh := ⟨valL e.2, [], rfl, by exact al0⟩
  flat := ⟨0, by simp⟩
structure GoodE (n : Nat) (e : Ent) : Prop where
  q : GoodQ e.1
  le : e.1.1 ≤ n
  v : GoodV e.2
theorem GoodE.sent {n : Nat} {e : Ent} (h : GoodE n e) (h4 : n ≤ 4) : GoodE (n + 1) (sentE e) := ⟨h.q.next (Nat.le_trans h.le h4), by have := h.le; show (if e.1.1 = 0 then 0 else e.1.1 + 1) ≤ _; split <;> lia, h.v⟩
theorem unf_len2 : ∀ (xs acc : List (List Nat)) (B : Nat), (∀ x ∈ xs, x.length ≤ 1000) → (∀ y ∈ acc, y.length ≤ B) → ∀ y ∈ xs.foldl unfR acc, y.length ≤ B + xs.length * 1000
  | [], acc, B, _, h => fun y hy => h y hy
  | x :: xs, acc, B, hx, h => fun y hy => by
    have := unf_len2 xs (unfR acc x) (B + 1000) (fun z hz => hx z (.tail _ hz)) (fun z hz => by
      have h0 := hx x (.head _)
      unfold unfR at hz
      split at hz
      · rcases List.mem_append.mp hz with hz | hz
        · have := h z (List.dropLast_subset _ hz); lia
        · rw [List.mem_singleton.mp hz, List.length_append]
          cases hl : acc.getLast? with
          | none => show 0 + _ ≤ _; lia
          | some l => have := h l (List.mem_of_getLast? hl); show l.length + _ ≤ _; lia
      split at hz
      · have := h z hz; lia
      · rcases List.mem_append.mp hz with hz | hz
        · have := h z hz; lia
        · rw [List.mem_singleton.mp hz]; lia) y hy
    rw [List.length_cons]; lia
structure MailOk (mail : Str) (es : List Ent) : Prop where
  len : mail.length ≤ 100000
  rd : ∃ xs us, Txt.split mail "\r\n" = xs.map mkS ∧ xs.foldl unfR [] = us ∧ First xs ∧ (∀ x ∈ xs, x.length ≤ 1000) ∧ xs.length ≤ 90 ∧ (∀ u ∈ us, u.length ≤ 100000) ∧ us.map partS = es.map pairOf
theorem q_len (l : List Nat) : (qL l).length ≤ l.length + 1 := by
  unfold qL
  split
  · exact Nat.le_refl _
  · exact Nat.le_succ _
theorem textL_len {rows : List (List Nat)} {B n : Nat} (h : ∀ y ∈ rows, y.length ≤ B) (hn : rows.length ≤ n) : (textL rows).length ≤ n * (B + 2) := by
  have : ∀ rows : List (List Nat), textL rows = textE [13, 10] rows := fun rows => by
    induction rows with
    | nil => rfl
    | cons x r ih => rw [textL_cons, text_cons, ih]; rfl
  rw [this]
  exact textE_len h hn
theorem flat_len {α : Type} {f : α → List (List Nat)} {n : Nat} : ∀ {es : List α}, (∀ e ∈ es, (f e).length ≤ n) → (es.flatMap f).length ≤ es.length * n
  | [], _ => Nat.zero_le _
  | e :: es, h => by
    rw [List.flatMap_cons, List.length_append, List.length_cons, Nat.succ_mul]
    have := h e (.head _)
    have := flat_len (es := es) fun a ha => h a (.tail _ ha)
    lia
theorem mail_ok {f : Ent → List (List Nat)} {es : List Ent} {en : List Nat} {z : List (List Nat)} (he : Brk en) (hz : z = [] ∨ z = [[]]) (h : ∀ e ∈ es, GoodE 4 e ∧ RowsOf e (f e)) (hf : ∀ e ∈ es, (∀ l ∈ f e, OkL l ∧ l.length ≤ 900) ∧ (f e).length ≤ 8) (hn : es ≠ []) (hn6 : es.length ≤ 6) :
   quoteF (mkS (textE en (es.flatMap f ++ z))) = mkS (textL ((es.flatMap f ++ z).map qL)) ∧ MailOk (mkS (textL ((es.flatMap f ++ z).map qL))) (es.map sentE) := by
  have hfr : ∀ l ∈ es.flatMap f ++ z, OkL l ∧ l.length ≤ 900 := fun l hl => by
    rcases List.mem_append.mp hl with hl | hl
    · obtain ⟨e, he, hl⟩ := List.mem_flatMap.mp hl
      exact (hf e he).1 l hl
    · rcases hz with rfl | rfl
      · cases hl
      · rw [List.mem_singleton.mp hl]; exact ⟨(fun c hc => nomatch hc), Nat.zero_le _⟩
  have hq : quoteF (mkS (textE en (es.flatMap f ++ z))) = mkS (textL ((es.flatMap f ++ z).map qL)) := quote_rows he fun l hl => (hfr l hl).1.free
  have hsp : Txt.split (mkS (textL ((es.flatMap f ++ z).map qL))) "\r\n" = ((es.flatMap f ++ z).map qL ++ [[]]).map mkS := by
    rw [split_rows fun l hl => by obtain ⟨m, hm, rfl⟩ := List.mem_map.mp hl; exact (hfr m hm).1.free.q]; exact (List.map_append (l₂ := [[]])).symm
  have hrd := read_rows (f := f) (es := es) he hz (fun e h' => ⟨(h e h').1.q, (h e h').1.le, (h e h').1.v, (h e h').2⟩) fun e h' l hl => ((hf e h').1 l hl).1.free
  rw [hq] at hrd
  unfold readL at hrd
  rw [hsp, List.map_map, show wl ∘ mkS = _root_.id from rfl, List.map_id] at hrd
  have hl8 : (es.flatMap f).length ≤ es.length * 8 := flat_len fun e h' => (hf e h').2
  have hz1 : z.length ≤ 1 := by rcases hz with rfl | rfl <;> simp
  have hx : ∀ x ∈ (es.flatMap f ++ z).map qL, x.length ≤ 901 := fun x hx => by
    obtain ⟨m, hm, rfl⟩ := List.mem_map.mp hx
    exact Nat.le_trans (q_len m) (Nat.succ_le_succ (hfr m hm).2)
  have hx' : ∀ x ∈ (es.flatMap f ++ z).map qL ++ [[]], x.length ≤ 1000 := fun x hm => by
    rcases List.mem_append.mp hm with hm | hm
    · have := hx x hm; lia
    · rw [List.mem_singleton.mp hm]; exact Nat.zero_le _
  have hlx : ((es.flatMap f ++ z).map qL ++ [[]]).length ≤ 90 := by
    rw [List.length_append, List.length_map, List.length_append]; show _ + 1 ≤ _; lia
  refine ⟨hq, ?_, _, _, hsp, rfl, ?_, hx', hlx, fun u hu => ?_, ?_⟩
  · have := textL_len (n := 60) hx (by rw [List.length_map, List.length_append]; lia)
    rw [mk_len]; lia
  · cases es with
    | nil => exact absurd rfl hn
    | cons e es =>
      refine qg fun G kG => ?_
      obtain ⟨ge, ⟨x, r, er, _⟩, _⟩ := h e (.head _)
      refine kG ?_
      rw [List.flatMap_cons, er, List.cons_append, List.cons_append, List.map_cons, List.cons_append]
      have := name_head (ge.q.next ge.le) ([58, 32] ++ x)
      refine ⟨_, _, rfl, ?_⟩
      rw [show preL e.1 ++ x = nmL e.1 ++ ([58, 32] ++ x) by unfold preL; rw [List.append_assoc], q_name ge.q]
      exact this
  · have := unf_len2 _ [] 0 hx' (fun y hy => nomatch hy) u hu
    lia
  · rw [hrd, List.map_map]; rfl
noncomputable def hitE (e : Ent) : Bool := e.1.1 == 1 && (e.1.2 == 88 || e.1.2 == 120)
theorem hit_tab : ∀ k, k < 6 → (Txt.lower (mkS (nmL (k, 97))) == Txt.lower (mkS [46, 120])) = false ∧ (Txt.lower (mkS (nmL (k, 98))) == Txt.lower (mkS [46, 120])) = false ∧ (Txt.lower (mkS (nmL (k, 88))) == Txt.lower (mkS [46, 120])) = (k == 1) ∧ (Txt.lower (mkS (nmL (k, 120))) == Txt.lower (mkS [46, 120])) = (k == 1) := by decide +kernel
theorem hit_es {es : List Ent} (h : ∀ e ∈ es, GoodQ e.1) : hitP (es.map pairOf) (mkS [46, 120]) = es.any hitE := by
  unfold hitP
  rw [List.any_map]
  induction es with
  | nil => rfl
  | cons e es ih =>
    rw [List.any_cons, List.any_cons, ih fun a ha => h a (.tail _ ha)]
    congr 1
    obtain ⟨⟨k, c⟩, v⟩ := e
    obtain ⟨h5, hc⟩ := h _ (.head _)
    obtain ⟨t1, t2, t3, t4⟩ := hit_tab k (by dsimp only at h5; lia)
    show (Txt.lower (mkS (nmL (k, c))) == Txt.lower (mkS [46, 120])) = (k == 1 && (c == 88 || c == 120))
    dsimp only at hc
    rcases hc with rfl | rfl | rfl | rfl
    · rw [t1]; simp
    · rw [t3]; simp
    · rw [t2]; simp
    · rw [t4]; simp
noncomputable def xQ : Nat × Nat := (1, 120)
noncomputable def addX (es : List Ent) (vs : WS) : List Ent := if es.any hitE then es else es ++ [(xQ, vs)]
noncomputable def sendX (es : List Ent) (vs : WS) : List Ent := (addX es vs).map sentE
theorem xq_good : GoodQ xQ := ⟨by decide, .inr (.inr (.inr rfl))⟩
theorem addX_good {n : Nat} {es : List Ent} {vs : WS} (hn : 1 ≤ n) (h : ∀ e ∈ es, GoodE n e) (hv : GoodV vs) : ∀ e ∈ addX es vs, GoodE n e := fun e he => by
  unfold addX at he
  split at he
  · exact h e he
  · rcases List.mem_append.mp he with he | he
    · exact h e he
    · rw [List.mem_singleton.mp he]; exact ⟨xq_good, hn, hv⟩
theorem addX_len (es : List Ent) (vs : WS) : (addX es vs).length ≤ es.length + 1 ∧ (es ≠ [] → addX es vs ≠ []) := by
  unfold addX
  split
  · exact ⟨Nat.le_succ _, fun h => h⟩
  · exact ⟨by simp, fun _ => by simp⟩
theorem sendX_good {n : Nat} {es : List Ent} {vs : WS} (hn : 1 ≤ n) (h4 : n ≤ 4) (h : ∀ e ∈ es, GoodE n e) (hv : GoodV vs) : ∀ e ∈ sendX es vs, GoodE (n + 1) e := fun e he => by
  obtain ⟨a, ha, rfl⟩ := List.mem_map.mp he
  exact (addX_good hn h hv a ha).sent h4
theorem rowsP_pair (es : List Ent) : rowsP (es.map pairOf) = es.flatMap fun e => [preL e.1 ++ valL e.2] := by
  unfold rowsP
  induction es with
  | nil => rfl
  | cons e es ih =>
    rw [List.map_cons, List.map_cons, List.flatMap_cons, ih]
    show (nmL e.1 ++ 58 :: 32 :: valL e.2) :: _ = ((nmL e.1 ++ [58, 32]) ++ valL e.2) :: _
    rw [List.append_assoc]; rfl
theorem send_plain {es : List Ent} {en : List Nat} (he : Brk en) (h : ∀ e ∈ es, GoodE 4 e) (hn : es ≠ []) (hn6 : es.length ≤ 6) :
   Txt.replace (mkS (textL (rowsP (es.map pairOf) ++ [[]]))) "\r\n" (mkS en) = mkS (textE en (rowsP (es.map pairOf) ++ [[]])) ∧ ∃ mail, quoteF (mkS (textE en (rowsP (es.map pairOf) ++ [[]]))) = mkS mail ∧ MailOk (mkS mail) (es.map sentE) := by
  rw [rowsP_pair]
  have hf : ∀ e ∈ es, (∀ l ∈ [preL e.1 ++ valL e.2], OkL l ∧ l.length ≤ 900) ∧ [preL e.1 ++ valL e.2].length ≤ 8 := fun e he => by
    have g := h e he
    refine ⟨fun l hl => ?_, Nat.le_add_left 1 7⟩
    rw [List.mem_singleton.mp hl]
    have := (preL_len g.q).1
    have := g.v.valLen
    exact ⟨(pre_ok g.q).app (val_ok g.v), by rw [List.length_append]; lia⟩
  refine ⟨replace_rows fun l hl => ?_, ?_⟩
  · rcases List.mem_append.mp hl with hl | hl
    · obtain ⟨e, he, hl⟩ := List.mem_flatMap.mp hl
      exact ((hf e he).1 l hl).1.free
    · rw [List.mem_singleton.mp hl]; exact ⟨by simp, by simp⟩
  · obtain ⟨h1, h2⟩ := mail_ok (f := fun e => [preL e.1 ++ valL e.2]) (z := [[]]) he (.inr rfl) (fun e h' => ⟨h e h', rowsOf_plain e⟩) hf hn hn6
    exact ⟨_, h1, h2⟩
theorem foldL_flat (W : Int) (en : List Nat) (es : List Ent) : foldL W en es = textE en (es.flatMap fun e => rowsT W (preL e.1) e.2) := rfl
noncomputable def mailF (W : Int) (es : List Ent) : List Nat := textL ((es.flatMap fun e => rowsT W (preL e.1) e.2).map qL)
theorem send_fold {es : List Ent} {en : List Nat} {W : Int} (he : Brk en) (h : ∀ e ∈ es, GoodE 4 e) (hn : es ≠ []) (hn6 : es.length ≤ 6) :
   quoteF (mkS (foldL W en es)) = mkS (mailF W es) ∧ MailOk (mkS (mailF W es)) (es.map sentE) := by
  have hf : ∀ e ∈ es, (∀ l ∈ rowsT W (preL e.1) e.2, OkL l ∧ l.length ≤ 900) ∧ (rowsT W (preL e.1) e.2).length ≤ 8 := fun e he => by
    have g := h e he
    have hp := (preL_len g.q).1
    obtain ⟨t1, t2⟩ := rowsT_ti (W := W) (pre := preL e.1) (by lia) g.v
    exact ⟨fun l hl => ⟨rows_ok (pre_ok g.q) g.v l hl, Nat.le_trans (t1 l hl) (by decide)⟩, t2⟩
  have := mail_ok (f := fun e => rowsT W (preL e.1) e.2) (z := []) he (.inl rfl) (fun e h' => ⟨h e h', rowsOf_fold (h e h').v⟩) hf hn hn6
  rw [List.append_nil] at this
  rw [foldL_flat]
  exact this
theorem textL_E : ∀ rows : List (List Nat), textL rows = textE [13, 10] rows
  | [] => rfl
  | x :: r => by rw [textL_cons, text_cons, textL_E r]; rfl
noncomputable def sentK (n : Nat) (q : Nat × Nat) : Nat × Nat := (if q.1 = 0 then 0 else q.1 + n, q.2)
theorem sentN_K (n : Nat) (q : Nat × Nat) : sentN (sentK n q) = sentK (n + 1) q := by
  unfold sentN sentK
  by_cases h : q.1 = 0
  · simp [h]
  · simp [h]; lia
theorem sentK0 (q : Nat × Nat) : sentK 0 q = q := by
  obtain ⟨k, c⟩ := q
  unfold sentK
  by_cases h : k = 0
  · simp [h]
  · simp only [Nat.add_zero]; rw [if_neg h]
theorem nm_K (e : SE) : nmL (sentK e.2 e.1.1) = dotsL e ++ nmL e.1.1 := by
  unfold nmL sentK dotsL
  by_cases h : e.1.1.1 = 0
  · simp [h]
  · rw [if_neg h, if_neg h]
    rw [← List.append_assoc, List.replicate_append_replicate, Nat.add_comm]
theorem pre_K {e : SE} (h1 : 1 ≤ e.2) : preL (sentK (e.2 - 1) e.1.1) = preT e := by
  have := nm_K (e.1, e.2 - 1)
  unfold preL preT
  rw [this]
  congr 2
  unfold dotsL
  dsimp only
  split
  · rfl
  · rw [List.drop_replicate]
theorem mail_one {W : Int} {e : SE} (h1 : 1 ≤ e.2) (hq : GoodQ e.1.1) (hv : GoodV e.1.2) : textL ((rowsT W (preL (sentK (e.2 - 1) e.1.1)) e.1.2).map qL) = mailT W e := by
  obtain ⟨x, r, er, hr⟩ := (rowsOf_fold (W := W) (e := (sentK (e.2 - 1) e.1.1, e.1.2)) hv).sh
  dsimp only at er
  unfold mailT
  rw [← pre_K h1, er, List.map_cons, map_q hr, ← textL_E]
  have : qL (preL (sentK (e.2 - 1) e.1.1) ++ x) = (dotsL e).take 1 ++ (preL (sentK (e.2 - 1) e.1.1) ++ x) := by
    obtain ⟨⟨⟨k, c⟩, ws⟩, n⟩ := e
    obtain ⟨h5, hc⟩ := hq
    dsimp only at h1 hc h5 ⊢
    have hc46 : c ≠ 46 := by rcases hc with h | h | h | h <;> (rw [h]; decide)
    unfold qL dotsL preL nmL sentK
    by_cases h : k = 0
    · subst h
      rw [if_pos rfl, if_pos rfl]
      exact if_neg (by simpa using hc46)
    · rw [if_neg h, if_neg h]
      obtain ⟨m, rfl⟩ := Nat.exists_eq_succ_of_ne_zero (show n ≠ 0 by lia)
      obtain ⟨k', rfl⟩ := Nat.exists_eq_succ_of_ne_zero h
      rw [if_pos (by simp only [show k' + 1 + (m + 1 - 1) = (k' + m) + 1 by lia, List.replicate_succ]; rfl), List.replicate_succ]
      rfl
  rw [this, textL_cons, textL_cons, List.append_assoc]
theorem textL_app (a b : List (List Nat)) : textL (a ++ b) = textL a ++ textL b := by rw [textL_E, textL_E, textL_E, textE_app]
noncomputable def seE (e : SE) : Ent := (sentK (e.2 - 1) e.1.1, e.1.2)
theorem told_mail {W : Int} : ∀ {se : List SE}, (∀ e ∈ se, 1 ≤ e.2 ∧ GoodQ e.1.1 ∧ GoodV e.1.2) → mailF W (se.map seE) = se.flatMap (mailT W)
  | [], _ => rfl
  | e :: se, h => by
    obtain ⟨h1, hq, hv⟩ := h e (.head _)
    have ih := told_mail (W := W) (se := se) fun a ha => h a (.tail _ ha)
    unfold mailF at ih ⊢
    rw [List.map_cons, List.flatMap_cons, List.map_append, textL_app, ih, List.flatMap_cons]
    congr 1
    exact mail_one h1 hq hv
theorem told_page : ∀ {se : List SE}, (∀ e ∈ se, 1 ≤ e.2) → textL (rowsP ((se.map fun e => sentE (seE e)).map pairOf) ++ [[]]) = se.flatMap pageT ++ [13, 10]
  | [], _ => rfl
  | e :: se, h => by
    have ih := told_page (se := se) fun a ha => h a (.tail _ ha)
    rw [List.map_cons, List.map_cons, List.flatMap_cons, List.append_assoc, ← ih]
    unfold rowsP
    rw [List.map_cons, List.cons_append, textL_cons]
    have e1 : sentE (seE e) = (sentK e.2 e.1.1, e.1.2) := by
      unfold sentE seE
      rw [sentN_K, Nat.sub_add_cancel (h e (.head _))]
    rw [e1]
    show (nmL (sentK e.2 e.1.1) ++ 58 :: 32 :: valL e.1.2) ++ 13 :: 10 :: _ = pageT e ++ _
    rw [nm_K]
    unfold pageT
    simp
noncomputable def seF (es : List Ent) (v0 v1 v2 : WS) : List SE := (es.map fun e => (e, 3)) ++ ((if es.any hitE then [] else [((xQ, v0), 3)]) ++ [((xQ, v1), 2), ((xQ, v2), 1)])
theorem no_hit {es : List Ent} : (es.map sentE).any hitE = false := by
  rw [List.any_eq_false]
  intro e he
  obtain ⟨⟨⟨k, c⟩, v⟩, _, rfl⟩ := List.mem_map.mp he
  unfold hitE sentE sentN
  dsimp only
  by_cases h : k = 0
  · simp [h]
  · rw [if_neg h]
    have : (k + 1 == 1) = false := beq_eq_false_iff_ne.mpr (by lia)
    rw [this]; simp
theorem addX_sent (es : List Ent) (vs : WS) : addX (es.map sentE) vs = es.map sentE ++ [(xQ, vs)] := by
  unfold addX
  rw [no_hit, if_neg (by decide)]
theorem road_es (es : List Ent) (v0 v1 v2 : WS) : addX (sendX (sendX es v0) v1) v2 = (seF es v0 v1 v2).map seE := by
  unfold sendX
  rw [addX_sent, addX_sent]
  have s2 : ∀ e : Ent, sentE (sentE e) = (sentK 2 e.1, e.2) := fun e => by
    unfold sentE
    rw [show sentN e.1 = sentK 1 e.1 by rfl, sentN_K]
  unfold seF
  rw [List.map_append, List.map_append, List.map_map, List.map_append]
  have hA : List.map (sentE ∘ sentE) (addX es v0) = List.map seE (es.map fun e => (e, 3)) ++ List.map seE (if es.any hitE then [] else [((xQ, v0), 3)]) := by
    unfold addX
    split
    · rw [List.map_map, List.map_nil, List.append_nil]
      exact List.map_congr_left fun e _ => s2 e
    · rw [List.map_append, List.map_map]
      congr 1
      exact List.map_congr_left fun e _ => s2 e
  rw [hA, List.append_assoc, List.append_assoc]
  have hB : List.map sentE [(xQ, v1)] ++ [(xQ, v2)] = List.map seE [((xQ, v1), 2), ((xQ, v2), 1)] := by
    show [(sentN xQ, v1), (xQ, v2)] = [(sentK 1 xQ, v1), (sentK 0 xQ, v2)]
    rw [sentK0, ← sentN_K, sentK0]
  rw [hB]
theorem seF_good {es : List Ent} {v0 v1 v2 : WS} (h : ∀ e ∈ es, GoodE 2 e) (h0 : GoodV v0) (h1 : GoodV v1) (h2 : GoodV v2) : ∀ e ∈ seF es v0 v1 v2, 1 ≤ e.2 ∧ GoodQ e.1.1 ∧ GoodV e.1.2 ∧ e.2 ≤ 3 := fun e he => by
  unfold seF at he
  rcases List.mem_append.mp he with he | he
  · obtain ⟨a, ha, rfl⟩ := List.mem_map.mp he
    exact ⟨Nat.le_add_left 1 2, (h a ha).q, (h a ha).v, Nat.le_refl 3⟩
  rcases List.mem_append.mp he with he | he
  · split at he
    · cases he
    · rw [List.mem_singleton.mp he]; exact ⟨Nat.le_add_left 1 2, xq_good, h0, Nat.le_refl 3⟩
  rcases List.mem_cons.mp he with rfl | he
  · exact ⟨Nat.le_add_left 1 1, xq_good, h1, Nat.le_add_left 2 1⟩
  · rw [List.mem_singleton.mp he]; exact ⟨Nat.le_refl 1, xq_good, h2, Nat.le_add_left 1 2⟩
theorem road_told {es : List Ent} {v0 v1 v2 : WS} {W : Int} (h : ∀ e ∈ es, GoodE 2 e) (h0 : GoodV v0) (h1 : GoodV v1) (h2 : GoodV v2) :
   mailF W (addX (sendX (sendX es v0) v1) v2) = (seF es v0 v1 v2).flatMap (mailT W) ∧ textL (rowsP ((sendX (sendX (sendX es v0) v1) v2).map pairOf) ++ [[]]) = (seF es v0 v1 v2).flatMap pageT ++ [13, 10] := by
  have g := seF_good h h0 h1 h2
  refine ⟨?_, ?_⟩
  · rw [road_es]; exact told_mail fun e he => ⟨(g e he).1, (g e he).2.1, (g e he).2.2.1⟩
  · have : sendX (sendX (sendX es v0) v1) v2 = (seF es v0 v1 v2).map fun e => sentE (seE e) := by
      show (addX (sendX (sendX es v0) v1) v2).map sentE = _
      rw [road_es, List.map_map]; rfl
    rw [this]
    exact told_page fun e he => (g e he).1
noncomputable def letterN (k : Nat) : Nat := if k = 0 then 97 else if k = 1 then 88 else 98
noncomputable def headF (c : Nat) : Ent := ((c % 3, letterN (c / 3 % 3)), wordsF (c / 9) true)
noncomputable def handF (c : Nat) : Nat × WS := (4 + c % 12, wordsF (c / 12 % 256) true)
theorem wordS_ok (k : Nat) : (∀ c ∈ wl (wordS k), c = 46 ∨ c = 111) ∧ (∃ t, wl (wordS k) = t ++ [111]) ∧ (wordS k).length ≤ 6 := by
  have e : wl (wordS k) = List.replicate (k % 2) 46 ++ List.replicate (k / 2 % 4 + 1) 111 := wl_app _ _
  refine ⟨fun c hc => ?_, ?_, ?_⟩
  · rw [e] at hc
    rcases List.mem_append.mp hc with hc | hc
    · exact .inl (List.eq_of_mem_replicate hc)
    · exact .inr (List.eq_of_mem_replicate hc)
  · rw [e, List.replicate_succ', ← List.append_assoc]; exact ⟨_, rfl⟩
  · rw [← wl_len, e, List.length_append, List.length_replicate, List.length_replicate]; lia
theorem leadS_ok (k : Nat) (hk : k < 16) (w : Str) : Lead (leadS k, w) := by
  unfold Lead
  show List.replicate (1 + k / 8) 32 = [32] ∨ List.replicate (1 + k / 8) 32 = [32, 32]
  have : k / 8 = 0 ∨ k / 8 = 1 := by lia
  rcases this with h | h <;> rw [h]
  · exact .inl rfl
  · exact .inr rfl
theorem wordsF_len : ∀ (k n : Nat) (b : Bool), n < 16 ^ k → (wordsF n b).length ≤ k
  | 0, n, b, h => by
    obtain rfl : n = 0 := by simpa using h
    rw [wordsF0]; exact Nat.le_refl _
  | k + 1, n, b, h => by
    by_cases hn : n = 0
    · subst hn; rw [wordsF0]; exact Nat.zero_le _
    · rw [wordsFS b hn, List.length_cons]
      exact Nat.succ_le_succ (wordsF_len k (n / 16) false (by rw [Nat.pow_succ] at h; lia))
theorem wordsF_mem : ∀ (k n : Nat) (b : Bool), n < 16 ^ k → ∀ p ∈ wordsF n b, ∃ d, d < 16 ∧ p.2 = wordS d ∧ (b = false → p.1 = leadS d)
  | 0, n, b, h, p, hp => by
    obtain rfl : n = 0 := by simpa using h
    rw [wordsF0] at hp; cases hp
  | k + 1, n, b, h, p, hp => by
    by_cases hn : n = 0
    · subst hn; rw [wordsF0] at hp; cases hp
    · rw [wordsFS b hn] at hp
      have hl : n / 16 < 16 ^ k := by rw [Nat.pow_succ] at h; lia
      rcases List.mem_cons.mp hp with rfl | hp
      · exact ⟨n % 16, Nat.mod_lt _ (by decide), rfl, fun e => by rw [e]; rfl⟩
      · obtain ⟨d, h1, h2, h3⟩ := wordsF_mem k (n / 16) false hl p hp
        exact ⟨d, h1, h2, fun _ => h3 rfl⟩
theorem words_good {n : Nat} (h : n < 16 ^ 6) : GoodV (wordsF n true) where
  first := fun p hp => by
    by_cases hn : n = 0
    · subst hn; rw [wordsF0] at hp; cases hp
    · rw [wordsFS true hn] at hp; cases hp; rfl
  tail := fun p hp => by
    by_cases hn : n = 0
    · subst hn; rw [wordsF0] at hp; cases hp
    · rw [wordsFS true hn] at hp
      obtain ⟨d, h1, h2, h3⟩ := wordsF_mem 6 (n / 16) false (by lia) p hp
      obtain ⟨a, b⟩ := p
      dsimp only at h3
      rw [h3 rfl]
      exact leadS_ok d h1 b
  word := fun p hp => by
    obtain ⟨d, h1, h2, h3⟩ := wordsF_mem 6 n true h p hp
    rw [h2]; exact ⟨(wordS_ok d).1, (wordS_ok d).2.1⟩
  len := wordsF_len 6 n true h
  lens := fun p hp => by
    obtain ⟨d, h1, h2, h3⟩ := wordsF_mem 6 n true h p hp
    rw [h2]; exact (wordS_ok d).2.2
theorem head_good {c : Nat} (h : c < 1000000) : GoodE 2 (headF c) where
  q := ⟨by show c % 3 ≤ 5; lia, by
    show letterN (c / 3 % 3) = 97 ∨ letterN (c / 3 % 3) = 88 ∨ letterN (c / 3 % 3) = 98 ∨ _
    unfold letterN
    split
    · exact .inl rfl
    split
    · exact .inr (.inl rfl)
    · exact .inr (.inr (.inl rfl))⟩
  le := by show c % 3 ≤ 2; lia
  v := words_good (by show c / 9 < 16 ^ 6; lia)
theorem hand_good (c : Nat) : GoodV (handF c).2 ∧ (handF c).1 ≤ 100 := ⟨words_good (by show c / 12 % 256 < 16 ^ 6; lia), by show 4 + c % 12 ≤ 100; lia⟩
theorem letter_at : ∀ k, k < 3 → ((seqIndex? ((k : Nat) : Int) ("aXb" : Str).length).bind fun x => ("aXb" : Str).cps[x]?) = some (letterN k) := by decide +kernel
end Mine
end
section
open PySem PySem.W PySem.Calls PyProof.Rows Builtin Builtin.ObjectAttr Builtin.Str
namespace Mine
theorem runs_up {M : Model} {Γ : Ctx} {p : Pos} {t : Sem Fin} {fs : List Frame} {s s' : Shared} {e : End} (h : Runs M Γ p t fs s e s') : s.toks ≤ s'.toks := by
  induction h with
  | done | raise | yield => exact Nat.le_refl _
  | fresh _ ih => exact Nat.le_trans (Nat.le_succ _) ih
  | again _ _ ih | rule _ ih | «at» _ ih | load _ _ ih | update _ _ ih | loadIfAlive _ ih | point _ ih | alloc _ ih | ask _ ih | choose _ _ ih | os _ ih | handled _ ih | genState _ _ ih | stack _ ih | thread _ ih | newGen _ ih | callSusp _ ih | resumeJustStarted _ _ _ ih | resumeThrowFresh _ _ ih | resumeRunning _ _ ih | resumeFinished _ _ ih | segSuspOut _ _ ih => exact ih
  | call _ _ ih ih' | segRet _ _ ih ih' | segGen _ _ ih ih' => exact Nat.le_trans ih ih'
  | resumeFresh _ _ _ _ ih ih' | resumeSuspended _ _ _ _ ih ih' | segSuspGen _ _ _ _ ih ih' => exact Nat.le_trans ih ih'
theorem wakes_up {M : Model} {Γ : Ctx} {p : Pos} {g : Nat} {r : Resume} {s s' : Shared} {res : GenResult} (h : Wakes M Γ p g r s res s') : s.toks ≤ s'.toks := by
  have := (Sem.runs_resume_iff M Γ (g := g) (r := r) (l := []) (k := fun _ => .pure (.done .next)) (p := p) (s := s) (s' := s') (e := .ret (.ok .next))).mpr ⟨res, s', h, .done⟩
  exact runs_up this
theorem wp_up {α : Type} {M : Model} {Γ : Ctx} : ∀ (t : Sem α) (Q : α → Pos → Shared → Prop) (E : Value → Pos → Shared → Prop) (p : Pos) (s : Shared), Sem.wp M Γ t (fun a p' s' => s.toks ≤ s'.toks → Q a p' s') E p s → Sem.wp M Γ t Q E p s := by
  suffices H : ∀ (t : Sem α) (n : Nat) (Q : α → Pos → Shared → Prop) (E : Value → Pos → Shared → Prop) (p : Pos) (s : Shared), n ≤ s.toks → Sem.wp M Γ t (fun a p' s' => n ≤ s'.toks → Q a p' s') E p s → Sem.wp M Γ t Q E p s from fun t Q E p s h => H t s.toks Q E p s (Nat.le_refl _) h
  intro t n Q E p s
  induction t generalizing p s with
  | pure x => exact fun hn h => h hn
  | raise v => exact fun _ h => h
  | unsupported | finish | yield | fork | await | register => exact fun _ h => h
  | rule _ k ih | «at» _ k ih | loadIfAlive _ k ih | point _ k ih | ask k ih | handled _ k ih | stack k ih | thread k ih => exact ih _ _ _
  | alloc _ k ih | os _ _ k ih | newGen _ k ih => exact fun hn h => by refine ih _ _ _ ?_ h; exact hn
  | fresh k ih => exact fun hn => ih _ _ _ (Nat.le_succ_of_le hn)
  | load a _ k ih | genState a k ih => exact fun hn ⟨o, ho, h⟩ => ⟨o, ho, ih _ _ _ hn h⟩
  | update a _ f k ih | choose _ _ k ih => exact fun hn ⟨ha, h⟩ => ⟨ha, ih _ _ _ hn h⟩
  | call c h g l k ih => exact fun hn ⟨r, s', hr, h⟩ => ⟨r, s', hr, ih _ _ _ (Nat.le_trans hn (runs_up hr)) h⟩
  | resume g r l k ih => exact fun hn ⟨res, s', hw, h⟩ => ⟨res, s', hw, ih _ _ _ (Nat.le_trans hn (wakes_up hw)) h⟩
theorem wpAny_up {α : Type} {M : Model} {A : Around} {t : Sem α} {Q : α → Shared → Prop} {E : Value → Shared → Prop} {s : Shared} (h : wpAny M A t (fun a s' => s.toks ≤ s'.toks → Q a s') E s) : wpAny M A t Q E s :=
  fun Γ p hΓ => wp_up t _ _ p s (h Γ p hΓ)
section
variable {Pk : Addr → Prop}
variable {T : Tabs} {K : Frag} {cd : ClassData} {mg mb : Str → Option Value} {w : World} {A : Around} {s : Shared} {g h₀ h h' h₁ h₂ : Heap} {W W' : List Addr} {L C : Addr} {m : Str → Option Value} {kn : List (Addr × Obj)} {R : Result → Shared → Prop} {E : Value → Shared → Prop} {prog : Program}
theorem j_storeT {env : Env} {x : Str} {v : Value} {Q : Unit → Shared → Prop} (j : J T g W h₀ env.locals s.heap m kn)
    (h : ∀ h' tk, s.toks ≤ tk → J T g W h₀ env.locals h' (fun y => if y = x then some v else m y) kn → Mv T g [env.locals] s.heap h' → Q () { s with heap := h', toks := tk })
    (hk : env.scope.kind = .function := by rfl) (hl : env.kindOf x = some .local := by rfl) :
    wpAny (model prog w) A (storeName env x v) Q E s := wpAny_up (e_storeK j (fun h' tk j' mv' htk => h h' tk htk j' mv') hk hl)
noncomputable abbrev rgO (i n : Nat) : Obj := { cls := .type "range_iterator", dict := none, data := .fields #[rawInt (i : Int), rawInt ((n - i : Nat) : Int), rawInt 1], slots := #[] }
theorem for_rng {env : Env} {I : Addr} {i n : Nat} {x : Str} {px : Pos} {body orelse : List Stmt} (hi : i < n) (j : J T g W h₀ env.locals s.heap m ((I, rgO i n) :: kn)) (hI : h₀.get? I = none)
    (h : ∀ h' tk t, s.toks < tk → J T g W h₀ env.locals h' (fun q => if q = x then some (.int (i : Int) t) else m q) ((I, rgO (i + 1) n) :: kn) → Mv T g [I, env.locals] s.heap h' → wpAny (model prog w) A (execs body env) (ForPost prog w A R (.Name x px) I body orelse env) (fun _ _ => False) { s with heap := h', toks := tk })
    (hk : env.scope.kind = .function := by rfl) (hx : env.kindOf x = some .local := by rfl) :
    codeAny (model prog w) A (.forLoop (.Name x px) (.ref I) body orelse env) R s := by
  have hit : IsRangeIter s.heap I (i : Int) ((n - i : Nat) : Int) 1 := j.get (.head _)
  refine for_turn (wpAny_pyNext_range_item hit (by lia) fun h₂ hit₂ sb => ?_)
  have e : h₂.get? I = some (rgO (i + 1) n) := by
    rw [show ((n - i : Nat) : Int) - 1 = ((n - (i + 1) : Nat) : Int) by lia] at hit₂
    exact hit₂
  obtain ⟨j₂, mv₂⟩ := j.iter 0 rfl (.inr hI) (by rintro ⟨q, _⟩; simp at q) sb e
  refine wpAny_pure (wpAny_assign_Name (j_storeT (s := { s with heap := h₂, toks := s.toks + 1 }) j₂ (fun h₃ t₃ ht j₃ mv₃ => ?_) hk hx))
  exact h h₃ t₃ _ ht j₃ ((mv₂.weak (W' := [I, env.locals]) (by exact al1 m1)).trans mv₃ (by exact al1 (.inl m2)))
theorem for_rng_end {env : Env} {I : Addr} {n : Nat} {x : Str} {px : Pos} {body : List Stmt} (hh : A.handled = none) (j : J T g W h₀ env.locals s.heap m ((I, rgO n n) :: kn)) (hI : h₀.get? I = none)
    (h : ∀ h', J T g W h₀ env.locals h' m kn → (∀ b o, b ≠ I → s.heap.get? b = some o → h'.get? b = some o) → R (.ok .next) { s with heap := h' }) :
    codeAny (model prog w) A (.forLoop (.Name x px) (.ref I) body [] env) R s := by
  have hit : IsRangeIter s.heap I (n : Int) ((n - n : Nat) : Int) 1 := j.get (.head _)
  refine for_turn (wpAny_pyNext_range_end hh hit (by lia) fun h₂ ex => wpAny_execs_nil ?_)
  have nI := (List.nodup_cons.mp j.nd).1
  refine h h₂ ((j.sub (List.sublist_cons_self _ _)).turn (wr := [I]) (fun b o hb e => ex b o (fun q => hb (by exact mE q)) e) (by exact al1 ⟨hI, (j.has _ (.head _)).2.1⟩) fun p hp hm => nI (List.mem_map.mpr ⟨p, hp, List.mem_singleton.mp hm⟩)) fun b o hb e => ex b o hb e
theorem Parts.keepI {I : Addr} {o : Obj} {vs : List Value} {ps : List (Str × Str)} (p : Parts Pk h vs ps) (e : h.get? I = some o) (hc : o.cls ≠ .type "tuple") (k : ∀ b o, b ≠ I → h.get? b = some o → h'.get? b = some o) : Parts Pk h' vs ps :=
  All2.imp p fun v q ⟨t, ta, tb, e1, e2⟩ => ⟨t, ta, tb, e1, k _ _ (fun q => by rw [q, e] at e2; exact hc (congrArg Obj.cls (Option.some.inj e2))) e2⟩
theorem booked (S : St T g h) (G : Gb T K mg mb g) (hb : NoneBooked g) : NoneBooked h := by
  obtain ⟨mc, hn, hk⟩ := hb
  exact ⟨mc, S.ns hn G.k3, hk⟩
end
end Mine
end
section
open PySem PySem.W PySem.Calls PyProof.Rows Builtin Builtin.ObjectAttr Builtin.Str
namespace Mine
structure NAt (h : Heap) (its : Array Value) (hs : List (Nat × WS)) : Prop where
  sz : its.size = hs.length
  at_ : ∀ (i : Nat) (p : Nat × WS), hs[i]? = some p → ∃ t tk wa wits wep, its[i]? = some (.ref t) ∧ h.get? t = some (tupObj [.int (p.1 : Int) tk, .ref wa]) ∧ h.get? wa = some (lstO wits wep) ∧ Parts anyA h wits.toList p.2
noncomputable def enL (k : Nat) : List Nat := if k = 0 then [10] else if k = 1 then [13] else [13, 10]
theorem enL_brk (k : Nat) : Brk (enL k) := by
  unfold enL Brk
  split
  · exact .inl rfl
  split
  · exact .inr (.inl rfl)
  · exact .inr (.inr rfl)
theorem lf_mk : ("\n" : Str) = mkS [10] := str_inj (by decide +kernel)
theorem cr_mk : ("\r" : Str) = mkS [13] := str_inj (by decide +kernel)
theorem dotx_mk : (".x" : Str) = mkS [46, 120] := str_inj (by decide +kernel)
theorem enL_len (k : Nat) : (enL k).length ≤ 2 := by
  unfold enL
  repeat' split
  all_goals decide
theorem textE_lenG {rows : List (List Nat)} {en : List Nat} {B n : Nat} (hen : en.length ≤ 2) (h : ∀ y ∈ rows, y.length ≤ B) (hn : rows.length ≤ n) : (textE en rows).length ≤ n * (B + 2) := by
  unfold textE
  rw [List.length_flatten]
  have h1 := sum_le (B := B + 2) (l := (rows.map fun l => l ++ en).map List.length) fun x hx => by
    obtain ⟨y, hy, rfl⟩ := List.mem_map.mp hx
    obtain ⟨z, hz, rfl⟩ := List.mem_map.mp hy
    rw [List.length_append]
    have := h z hz
    lia
  rw [List.length_map, List.length_map] at h1
  exact Nat.le_trans h1 (Nat.mul_le_mul_right _ hn)
theorem fold_len {W : Int} {en : List Nat} {es : List Ent} (hen : en.length ≤ 2) (h : ∀ e ∈ es, GoodE 4 e) (hn6 : es.length ≤ 6) : (foldL W en es).length ≤ 100000 := by
  rw [foldL_flat]
  have hf : ∀ e ∈ es, (∀ l ∈ rowsT W (preL e.1) e.2, l.length ≤ 130) ∧ (rowsT W (preL e.1) e.2).length ≤ 8 := fun e he => rowsT_ti (by have := (preL_len (h e he).q).1; lia) (h e he).v
  have h1 := flat_len (n := 8) (f := fun e : Ent => rowsT W (preL e.1) e.2) fun e he => (hf e he).2
  have := textE_lenG (n := 48) (B := 130) hen (fun y hy => by obtain ⟨e, he, hy⟩ := List.mem_flatMap.mp hy; exact (hf e he).1 y hy) (Nat.le_trans h1 (by lia))
  lia
theorem plain_len {en : List Nat} {es : List Ent} (hen : en.length ≤ 2) (h : ∀ e ∈ es, GoodE 4 e) (hn6 : es.length ≤ 6) : (textE en (rowsP (es.map pairOf) ++ [[]])).length ≤ 10000 := by
  have := textE_lenG (rows := rowsP (es.map pairOf) ++ [[]]) (n := 7) (B := 130) hen (fun y hy => by
    rcases List.mem_append.mp hy with hy | hy
    · unfold rowsP at hy
      obtain ⟨p, hp, rfl⟩ := List.mem_map.mp hy
      obtain ⟨e, he, rfl⟩ := List.mem_map.mp hp
      have h1 := (preL_len (h e he).q).1
      have h2 := (h e he).v.valLen
      show (nmL e.1 ++ 58 :: 32 :: valL e.2).length ≤ _
      unfold preL at h1
      rw [List.length_append] at h1 ⊢
      show _ + (_ + 1 + 1) ≤ _
      have : ([58, 32] : List Nat).length = 2 := rfl
      lia
    · rw [List.mem_singleton.mp hy]; exact Nat.zero_le _) (by rw [List.length_append]; unfold rowsP; rw [List.length_map, List.length_map]; show _ + 1 ≤ 7; lia)
  lia
theorem pr_es {n : Nat} {es : List Ent} (h : ∀ e ∈ es, GoodE n e) : ∀ p ∈ es.map pairOf, (Printable p.1 ∧ p.1.cps.size ≤ 10000) ∧ Printable p.2 ∧ p.2.cps.size ≤ 10000 := fun p hp => by
  obtain ⟨e, he, rfl⟩ := List.mem_map.mp hp
  have g := h e he
  have h1 := (preL_len g.q).1
  have h2 := g.v.valLen
  unfold preL at h1
  rw [List.length_append] at h1
  refine ⟨⟨(nm_ok g.q).print, ?_⟩, (val_ok g.v).print, ?_⟩
  · show (mkS (nmL e.1)).length ≤ _; rw [mk_len]; lia
  · show (mkS (valL e.2)).length ≤ _; rw [mk_len]; lia
theorem pr_len {n : Nat} {es : List Ent} (h : ∀ e ∈ es, GoodE n e) : ∀ p ∈ es.map pairOf, p.1.length + p.2.length ≤ 900 := fun p hp => by
  obtain ⟨e, he, rfl⟩ := List.mem_map.mp hp
  have g := h e he
  have h1 := (preL_len g.q).1
  have h2 := g.v.valLen
  unfold preL at h1
  rw [List.length_append] at h1
  show (mkS (nmL e.1)).length + (mkS (valL e.2)).length ≤ _
  rw [mk_len, mk_len]; lia
theorem lower_tab : ∀ k, k < 6 → ∀ c ∈ [97, 88, 98, 120], (Txt.lower (mkS (nmL (k, c)))).length ≤ 10000 := by decide +kernel
theorem lo_es {n : Nat} {es : List Ent} (h : ∀ e ∈ es, GoodE n e) : ∀ p ∈ es.map pairOf, (Txt.lower p.1).length ≤ 10000 := fun p hp => by
  obtain ⟨e, he, rfl⟩ := List.mem_map.mp hp
  obtain ⟨⟨k, c⟩, v⟩ := e
  obtain ⟨h5, hc⟩ := (h _ he).q
  dsimp only at h5 hc
  exact lower_tab k (by lia) c (by rcases hc with rfl | rfl | rfl | rfl <;> simp)
theorem lo_x : Printable (Txt.lower (mkS [46, 120])) ∧ (Txt.lower (mkS [46, 120])).length ≤ 10000 ∧ Printable (mkS [46, 120]) ∧ (mkS [46, 120]).cps.size ≤ 10000 := by
  have e : Txt.lower (mkS [46, 120]) = mkS [46, 120] := str_inj (by decide +kernel)
  have p : Printable (mkS [46, 120]) := (OkL.print (by intro c hc; rcases List.mem_cons.mp hc with rfl | hc; rfl; rw [List.mem_singleton.mp hc]; rfl))
  rw [e]
  exact ⟨p, by decide, p, by decide⟩
theorem end_at (k : Nat) : ∀ t, t < 3 → (#[.str "\n" k, .str "\r" (k + 1), .str "\r\n" (k + 1 + 1)] : Array Value)[t]? = some (.str (mkS (enL t)) (k + t))
  | 0, _ => by rw [lf_mk]; rfl
  | 1, _ => by rw [cr_mk]; rfl
  | 2, _ => by rw [crlf_mk]; rfl
  | n + 3, h => absurd h (by lia)
theorem hdr_ne {w : World} {h : Heap} {x d pl : Addr} {its : Array Value} {ep : Nat} (hdr : HdrAt w h x d pl) (e : h.get? pl = some (lstO its ep)) : x ≠ pl ∧ d ≠ pl ∧ x ≠ d := by
  obtain ⟨e1, tk, e2⟩ := hdr
  refine ⟨fun q => ?_, fun q => ?_, fun q => ?_⟩
  · rw [q, e] at e1; cases e1
  · rw [q, e] at e2; have := congrArg Obj.cls (Option.some.inj e2); simp at this
  · rw [q, e2] at e1; have := congrArg Obj.cls (Option.some.inj e1); simp at this
noncomputable abbrev dcO (w : World) (tk : Tok) (pl : Addr) : Obj := dictOf [⟨PyData.keyHash w.params "_headers", .str "_headers" tk, .ref pl⟩] 1
noncomputable abbrev roEnv (L : Addr) : Env := envX "_law_road" (fScope (topSt 22)) L 387 (.ref 386) []
noncomputable abbrev roBody : List Stmt := forBody (stAt (fBody (topSt 22)) 1)
section
variable {Pk : Addr → Prop}
variable {T : Tabs} {K : Frag} {cd : ClassData} {mg mb : Str → Option Value} {w : World} {A : Around} {s : Shared} {g h₀ h h' h₁ h₂ : Heap} {W W' : List Addr} {L C : Addr} {m : Str → Option Value} {kn : List (Addr × Obj)} {R : Result → Shared → Prop} {E : Value → Shared → Prop} {prog : Program}
theorem J.addHdr {x d pl : Addr} {its : Array Value} {ep : Nat} (j : J T g W h₀ L h m kn) (j' : J T g W h₀ L h' m' kn) (S : St T g h) (hdr : HdrAt w h' x d pl) (hpl : h'.get? pl = some (lstO its ep)) (nx : h.get? x = none) (nd : h.get? d = none) (npl : h.get? pl = none) (gx : g.objs.size ≤ x) (gd : g.objs.size ≤ d) (gp : g.objs.size ≤ pl) :
   ∃ tk, J T g W h₀ L h' m' ((x, instObj 354 d) :: (d, dcO w tk pl) :: (pl, lstO its ep) :: kn) := by
  obtain ⟨q1, q2, q3⟩ := hdr_ne hdr hpl
  obtain ⟨e1, tk, e2⟩ := hdr
  have neL : ∀ {b}, h.get? b = none → b ≠ L := fun {b} hb q => by
    obtain ⟨o, es, n, e, _⟩ := j.ns
    rw [← q, hb] at e; cases e
  have nk : ∀ {b}, h.get? b = none → b ∉ kn.map (·.1) := fun {b} hb hm => by
    obtain ⟨p, hp, e⟩ := List.mem_map.mp hm
    have := (j.has p hp).1
    rw [e, hb] at this; cases this
  have j1 := j'.add hpl (neL npl) (S.newT npl) gp (nk npl)
  have j2 := j1.add e2 (neL nd) (S.newT nd) gd (by rw [List.map_cons]; exact fun hm => (List.mem_cons.mp hm).elim q2 (nk nd))
  exact ⟨tk, j2.add e1 (neL nx) (S.newT nx) gx (by rw [List.map_cons, List.map_cons]; exact fun hm => (List.mem_cons.mp hm).elim q3 fun hm => (List.mem_cons.mp hm).elim q1 (nk nx))⟩
theorem J.perm {kn' : List (Addr × Obj)} (j : J T g W h₀ L h m kn) (hp : kn.Perm kn') : J T g W h₀ L h m kn' :=
  ⟨j.mv, j.ns, j.Lt, j.Ln, j.Lg, fun p hm => j.has p (hp.mem_iff.mpr hm), (hp.map _).nodup_iff.mp j.nd, j.s0⟩
theorem road_turn {I x d pl b : Addr} {its hits : Array Value} {ep hep : Nat} {tk : Tok} {es : List Ent} {hs : List (Nat × WS)} {p : Nat × WS} {pn : Nat} {tp : Tok} {i : Nat} {px : Pos} {Rf : Result → Shared → Prop} (LX : Lx T K cd mg) (G : Gb T K mg mb g) (r : Rm A 14) (hb : NoneBooked g) (hI : h₀.get? I = none) (hbh : h₀.get? b = some (lstO hits hep)) (hh : NAt h₀ hits hs) (hp : hs[i]? = some p) (gv : GoodV p.2) (hi : i < 3)
   (j : J T g [] h₀ L s.heap m [(I, rgO i 3), (x, instObj 354 d), (d, dcO w tk pl), (pl, lstO its ep)])
   (npl : h₀.get? pl = none) (hps : Parts anyA s.heap its.toList (es.map pairOf)) (hes : ∀ e ∈ es, GoodE (2 + i) e) (hne : es ≠ []) (hel : es.length ≤ 3 + i)
   (hm1 : m "hands" = some (.ref b)) (hm2 : m "plain" = some (.int (pn : Int) tp)) (hm3 : m "table" = some (.ref x))
   (hN : ∀ s' m' x' d' pl' its' ep' tk' M t, J T g [] h₀ L s'.heap m' [(I, rgO (i + 1) 3), (x', instObj 354 d'), (d', dcO w tk' pl'), (pl', lstO its' ep')] → h₀.get? pl' = none → Parts anyA s'.heap its'.toList ((sendX es p.2).map pairOf) → m' "hands" = some (.ref b) → m' "plain" = some (.int (pn : Int) tp) → m' "table" = some (.ref x') → m' "mail" = some (.str (mkS M) t) → (pn ≤ i → M = mailF p.1 (addX es p.2)) → Ok s s' → codeAny (model PR w) A (.forLoop (.Name "turn" px) (.ref I) roBody [] (roEnv L)) Rf s') :
   codeAny (model PR w) A (.forLoop (.Name "turn" px) (.ref I) roBody [] (roEnv L)) Rf s := by
  have g4 : ∀ e ∈ addX es p.2, GoodE 4 e := fun e he => by
    have := addX_good (by lia) hes gv e he
    exact ⟨this.q, by have := this.le; lia, this.v⟩
  have al : (addX es p.2).length ≤ 6 := by have := (addX_len es p.2).1; lia
  have ane := (addX_len es p.2).2 hne
  obtain ⟨t, tw, wa, wits, wep, hv, ht, hwa, hwp⟩ := hh.at_ i p hp
  obtain ⟨xpl, dpl, xd⟩ : x ≠ pl ∧ d ≠ pl ∧ x ≠ d := hdr_ne (w := w) ⟨j.get (.tail _ (.head _)), tk, j.get (.tail _ (.tail _ (.head _)))⟩ (j.get (.tail _ (.tail _ (.tail _ (.head _)))))
  refine for_rng (s := s) hi j hI fun h₁ t₁ tt ht₁ j₁ mv₁ => ?_
  have p₁ := hps.mv j.mv.st mv₁
  refine xc fun _ hk => wpAny_up (Assign_Tuple (Subscript_ (j_local (s := { s with heap := h₁, toks := t₁ }) j₁ (v := .ref b) (ine (by decide) hm1) ?_)))
  refine j_local (s := { s with heap := h₁, toks := t₁ }) j₁ (v := .int (i : Int) tt) (ipo rfl) ?_
  refine subTail_builtin (T := "list") ⟨_, j₁.old hbh (.inl (by exact ni0)), rfl⟩ list_getitem_lookup (wpAny_getItem_list (items := hits) (k := (i : Int)) ⟨_, j₁.old hbh (.inl (by exact ni0)), rfl, _, rfl⟩ (by lia) (by lia) (by simp only [Int.toNat_natCast]; exact hv) ?_) (.inl rfl)
  refine unpack2 (s := { s with heap := h₁, toks := t₁ }) r.h j₁ (j₁.old ht (.inl (by exact ni0))) fun h₂ t₂ j₂ mv₂ ht₂ => hk { s with heap := h₂, toks := t₂ } ?_
  have p₂ := p₁.mv j₁.mv.st mv₂
  have hpos : 0 < t₂ := by have : t₁ ≤ t₂ := ht₂; lia
  clear hk
  refine xc fun _ hk => wpAny_Assign_Name (Subscript_ (List_ (args_cons (Constant_str (args_cons (Constant_str (args_cons (Constant_str (args_nil ?_)))))))))
  refine j_newListK (s := { s with heap := h₂, toks := _ }) j₂ fun el h₃ j₃ mv₃ nel => ?_
  refine wpAny_BinOp (wpAny_BinOp ?_)
  refine j_local (s := { s with heap := h₃, toks := _ }) j₃ (v := .int (i : Int) tt) (ine (by decide) (ine (by decide) (ipo rfl))) ?_
  refine j_local (s := { s with heap := h₃, toks := _ }) j₃ (v := .int (p.1 : Int) tw) (ine (by decide) (ipo rfl)) ?_
  refine g_add ?_
  refine wpAny_Constant_int (i := 3) (k := 0) (pos := ⟨0, 0, 0, 0⟩) ?_
  refine g_mod (b := 3) (by decide) ?_
  have hlt3 : (i + p.1) % 3 < 3 := Nat.mod_lt _ (by decide)
  generalize hk3 : (i + p.1) % 3 = k3 at *
  refine subTail_builtin (T := "list") ⟨_, j₃.get (.head _), rfl⟩ list_getitem_lookup (wpAny_getItem_list (k := (k3 : Int)) ⟨_, j₃.get (.head _), rfl, _, rfl⟩ (by lia) (by lia) (by simp only [Int.toNat_natCast]; exact end_at t₂ k3 hlt3) ?_) (.inl rfl)
  refine j_storeT (s := { s with heap := h₃, toks := _ }) j₃ fun h₄ t₄ ht₄ j₄ mv₄ => hk { s with heap := h₄, toks := t₄ } ?_
  have p₄ := (p₂.mv j₂.mv.st mv₃).mv j₃.mv.st mv₄
  have hte : t₂ + k3 < t₄ := by have : t₂ + 1 + 1 + 1 + 1 + 1 + 1 ≤ t₄ := ht₄; lia
  have hte0 : t₂ + k3 ≠ 0 := by lia
  generalize t₂ + k3 = te at *
  clear hk
  replace j₄ := j₄.sub (List.sublist_cons_self _ _)
  have hdr₄ : HdrAt w h₄ x d pl := ⟨j₄.get (.tail _ (.head _)), tk, j₄.get (.tail _ (.tail _ (.head _)))⟩
  refine xc fun _ hk => wpAny_up (wpAny_Expr (MethodCall_ (j_local (s := { s with heap := h₄, toks := t₄ }) j₄ (v := .ref x) (ine (by decide) (ine (by decide) (ine (by decide) (ine (by decide) hm3)))) ?_)))
  refine h_meth (s := { s with heap := h₄, toks := t₄ }) LX.FH G j₄.mv.st hdr₄ LX.FG.fSetd (LX.FG.keep 344 (by exact m4)).2 (by intros; rfl) ?_
  refine j_callWith (LX.FG.keep 344 (by exact m4)).1 (args_cons (Constant_str (args_cons (Call_ ?_))))
  refine j_global (s := { s with heap := h₄, toks := _ }) G j₄ LX.gValue ?_
  refine j_callWith (LX.kl 370 (by decide)) (args_cons (j_local (s := { s with heap := h₄, toks := _ }) j₄ (v := .ref wa) (ine (by decide) (ipo rfl)) (args_nil ⟨j₄.mv.st.In G, wpAny_call ?_⟩)))
  refine value_spec (s := { s with heap := h₄, toks := _ }) (Pk := anyA) LX.LA G j₄.mv.st (r.mono (by decide)) (j₄.old hwa (.inl (by exact ni0))) (hwp.mv j.s0 j₄.mv) (Nat.le_trans gv.len (by decide)) (fun p hp => Nat.le_trans (gv.short p hp).1 (by decide)) fun s₅ t₅ mv₅ ok₅ => ?_
  have j₅ := j₄.call0 mv₅
  refine args_nil ⟨j₅.mv.st.In G, wpAny_call ?_⟩
  have hdr₅ : HdrAt w s₅.heap x d pl := ⟨j₅.get (.tail _ (.head _)), tk, j₅.get (.tail _ (.tail _ (.head _)))⟩
  rw [dotx_mk]
  have hvz : (mkS (valL p.2)).cps.size ≤ 10000 := by have := gv.valLen; show (mkS (valL p.2)).length ≤ _; rw [mk_len]; lia
  refine setd_spec (s := s₅) LX.FH LX.FG G j₅.mv.st (r.mono (by decide)) hdr₅ (j₅.get (.tail _ (.tail _ (.tail _ (.head _))))) (p₄.mv j₄.mv.st mv₅) (j₅.has _ (.tail _ (.tail _ (.tail _ (.head _))))).2.2.2 (by rw [List.length_map]; lia) lo_x.1 lo_x.2.1 (lo_es hes) lo_x.2.2.1 lo_x.2.2.2 (val_ok gv).print hvz fun s₆ y₆ u₆ its₆ ep₆ mv₆ ok₆ hpl₆ hps₆ ht₆ => hk s₆ ?_
  clear hk
  have ht6 : t₄ ≤ s₆.toks := ht₆
  have eps : (if hitP (es.map pairOf) (mkS [46, 120]) = true then es.map pairOf else es.map pairOf ++ [(mkS [46, 120], mkS (valL p.2))]) = (addX es p.2).map pairOf := by
    rw [hit_es fun e he => (hes e he).q]
    unfold addX
    split
    · rfl
    · rw [List.map_append]; rfl
  rw [eps] at hps₆
  have Ipl : I ≠ pl := fun q => by
    have e := j₅.get (.head _)
    rw [q, j₅.get (.tail _ (.tail _ (.tail _ (.head _))))] at e
    have := congrArg Obj.cls (Option.some.inj e); simp at this
  have hdr₆ : HdrAt w s₆.heap x d pl := hdr₅.mv j₅.mv.st mv₆ (by exact ni1 xpl) (by exact ni1 dpl)
  have j₆ : J T g [] h₀ L s₆.heap _ [(I, rgO (i + 1) 3)] := (j₅.sub (List.cons_sublist_cons.mpr (List.nil_sublist _))).callK mv₆ (by exact ni1 (j₅.has _ (.tail _ (.tail _ (.tail _ (.head _))))).2.1.symm) (by exact al1 (.inr npl)) (by exact al1 (ni1 Ipl))
  have ok₆' : Ok s s₆ := ⟨ok₆.1.trans ok₅.1, fun q => ok₆.2 (ok₅.2 q)⟩
  have hl₆ : ((addX es p.2).map pairOf).length ≤ 100 := by rw [List.length_map]; lia
  refine xc fun Qx hk => ?_
  have fin : ∀ (s' : Shared) (m' : Str → Option Value) (M : List Nat) (t : Tok), J T g [] h₀ L s'.heap m' [(I, rgO (i + 1) 3)] → m' "hands" = some (.ref b) → m' "plain" = some (.int (pn : Int) tp) → m' "mail" = some (.str (mkS M) t) → MailOk (mkS M) (sendX es p.2) → (pn ≤ i → M = mailF p.1 (addX es p.2)) → Ok s s' → Qx .next s' := by
    intro s' m' M t j' e1 e2 e3 mo hM ok'
    refine hk s' ?_
    refine xc fun _ hk => wpAny_Assign_Name (Call_ ?_)
    refine j_global (s := s') G j' LX.gRead ?_
    refine j_callWith (LX.kl 382 (by decide)) (args_cons (j_local (s := s') j' e3 (args_nil ⟨j'.mv.st.In G, wpAny_call ?_⟩)))
    obtain ⟨xs, us, q1, q2, q3, q4, q5, q6, q7⟩ := mo.rd
    refine read_spec (s := s') LX G j'.mv.st (r.mono (by decide)) mo.len q1 q2 q3 q4 (by lia) q6 (by rw [q7]; exact pr_es (sendX_good (by lia) (by lia) hes gv)) fun s₉ x' d' pl' its' ep' mv₉ ok₉ hdr' hpl' hps' nx nd npl' gp gx gd => ?_
    obtain ⟨tk', j₉⟩ := j'.addHdr (j'.call0 mv₉) j'.mv.st hdr' hpl' nx nd npl' gx gd gp
    refine j_storeK (s := s₉) j₉ fun h₁₀ t₁₀ j₁₀ mv₁₀ => hk { s₉ with heap := h₁₀, toks := t₁₀ } (wpAny_execs_nil ?_)
    rw [q7] at hps'
    refine hN { s₉ with heap := h₁₀, toks := t₁₀ } _ x' d' pl' its' ep' tk' M t (j₁₀.perm ?_) (none_back j'.mv npl') (hps'.mv j₉.mv.st mv₁₀) ?_ ?_ (ipo rfl) ?_ hM ⟨ok₉.1.trans ok'.1, fun q => ok₉.2 (ok'.2 q)⟩
    · exact (List.perm_append_comm (l₁ := [_, _, _]) (l₂ := [_]))
    · rw [if_neg (by decide)]; exact e1
    · rw [if_neg (by decide)]; exact e2
    · rw [if_neg (by decide)]; exact e3
  have nA : ∀ {y : Str}, y ≠ "end" → y ≠ "words" → y ≠ "width" → y ≠ "turn" → (if y = "end" then some (Value.str (mkS (enL k3)) te) else if y = "words" then some (Value.ref wa) else if y = "width" then some (Value.int (p.1 : Int) tw) else if y = "turn" then some (Value.int (i : Int) tt) else m y) = m y := fun h1 h2 h3 h4 => by rw [if_neg h1, if_neg h2, if_neg h3, if_neg h4]
  refine wpAny_If (wpAny_isTrue_Compare1 (j_local (s := s₆) j₆ (v := .int (i : Int) tt) (ine (by decide) (ine (by decide) (ine (by decide) (ipo rfl)))) (j_local (s := s₆) j₆ (v := .int (pn : Int) tp) ((nA (by decide) (by decide) (by decide) (by decide)).trans hm2) (PySem.P.lt_int (wpAny_truthy_bool ?_)))))
  by_cases hlt : (i : Int) < (pn : Int)
  · rw [decide_eq_true hlt, if_pos rfl]
    obtain ⟨sp1, M, sp2, sp3⟩ := send_plain (enL_brk k3) g4 ane al
    refine xc fun _ hk' => wpAny_Assign_Name (Call_ ?_)
    refine j_global (s := s₆) G j₆ LX.hQuo ?_
    refine j_callWith LX.kQuo (args_cons (MethodCall_ (Call_ ?_)))
    refine j_builtin (s := s₆) G j₆ LX.GM.str boot_str ?_
    refine PyProof.Rows.callWith_type1 (args_cons (j_local (s := s₆) j₆ (v := .ref x) ((nA (by decide) (by decide) (by decide) (by decide)).trans hm3) (args_nil ?_)))
    refine wpAny_up (hstr_call (s := s₆) LX.FH LX.FG G j₆.mv.st (r.mono (by decide)) hdr₆ hpl₆ hps₆ hl₆ (pr_len g4) fun s₇ t₇ mv₇ ok₇ ht₇ => ?_)
    have j₇ := j₆.call0 mv₇
    refine PySem.GM.replace ?_
    refine callWith_method1 (args_cons (Constant_str (args_cons (j_local (s := { s₇ with toks := _ }) j₇ (v := .str (mkS (enL k3)) te) (ipo rfl) (args_nil ?_)))))
    have pz := plain_len (en := [13, 10]) (by decide) g4 al
    rw [← textL_E] at pz
    have ez := enL_len k3
    have hx7 : s₆.toks ≤ s₇.toks := ht₇
    refine PySem.SC.replaceA (s := { s₇ with toks := _ }) (show s₇.toks ≠ 0 by lia) hte0 (show s₇.toks ≠ te by lia) ?_ (fun t₈ k₈ => args_nil ⟨j₇.mv.st.In G, wpAny_call ?_⟩) (booked j₇.mv.st G hb)
    · rw [mk_len, mk_len]
      have : ((textL (rowsP ((addX es p.2).map pairOf) ++ [[]])).length + 1) * (enL k3).length ≤ 10001 * 2 := Nat.mul_le_mul (by lia) ez
      lia
    rw [sp1]
    have pz2 := plain_len (en := enL k3) ez g4 al
    refine quote_spec (s := { s₇ with toks := k₈ }) LX.FQ G j₇.mv.st (r.mono (by decide)) (by show (mkS _).length ≤ _; rw [mk_len]; lia) fun s₈ t₉ mv₈ ok₈ => ?_
    rw [sp2]
    have j₈ := j₇.call0 mv₈
    refine j_storeK (s := s₈) j₈ fun h₉ t₁₀ j₉ mv₉ => hk' { s₈ with heap := h₉, toks := t₁₀ } (wpAny_execs_nil ?_)
    refine fin { s₈ with heap := h₉, toks := t₁₀ } _ M t₉ j₉ ?_ ?_ (ipo rfl) sp3 (fun q => by lia) ⟨ok₈.1.trans (ok₇.1.trans ok₆'.1), fun q => ok₈.2 (ok₇.2 (ok₆'.2 q))⟩
    · rw [if_neg (by decide)]; exact (nA (by decide) (by decide) (by decide) (by decide)).trans hm1
    · rw [if_neg (by decide)]; exact (nA (by decide) (by decide) (by decide) (by decide)).trans hm2
  · rw [decide_eq_false hlt, if_neg (by decide)]
    obtain ⟨sf1, sf2⟩ := send_fold (W := (p.1 : Int)) (enL_brk k3) g4 ane al
    refine xc fun _ hk' => wpAny_Assign_Name (Call_ ?_)
    refine j_global (s := s₆) G j₆ LX.hQuo ?_
    refine j_callWith LX.kQuo (args_cons (Call_ ?_))
    refine j_global (s := s₆) G j₆ LX.gFolded ?_
    refine j_callWith (LX.kl 377 (by decide)) (args_cons (j_local (s := s₆) j₆ (v := .ref x) ((nA (by decide) (by decide) (by decide) (by decide)).trans hm3) (args_cons ?_)))
    refine j_local (s := s₆) j₆ (v := .int (p.1 : Int) tw) (ine (by decide) (ine (by decide) (ipo rfl))) (args_cons ?_)
    refine j_local (s := s₆) j₆ (v := .str (mkS (enL k3)) te) (ipo rfl) (args_nil ⟨j₆.mv.st.In G, wpAny_call ?_⟩)
    refine folded_spec (s := s₆) LX G j₆.mv.st r hdr₆ hpl₆ hps₆ (fun e he => ⟨(g4 e he).q, (g4 e he).v⟩) (by lia) (enL_len k3) fun s₇ t₇ mv₇ ok₇ => ?_
    have j₇ := j₆.call0 mv₇
    refine args_nil ⟨j₇.mv.st.In G, wpAny_call ?_⟩
    refine quote_spec (s := s₇) LX.FQ G j₇.mv.st (r.mono (by decide)) (by show (mkS _).length ≤ _; rw [mk_len]; exact fold_len (enL_len k3) g4 al) fun s₈ t₉ mv₈ ok₈ => ?_
    rw [sf1]
    have j₈ := j₇.call0 mv₈
    refine j_storeK (s := s₈) j₈ fun h₉ t₁₀ j₉ mv₉ => hk' { s₈ with heap := h₉, toks := t₁₀ } (wpAny_execs_nil ?_)
    refine fin { s₈ with heap := h₉, toks := t₁₀ } _ _ t₉ j₉ ?_ ?_ (ipo rfl) sf2 (fun _ => rfl) ⟨ok₈.1.trans (ok₇.1.trans ok₆'.1), fun q => ok₈.2 (ok₇.2 (ok₆'.2 q))⟩
    · rw [if_neg (by decide)]; exact (nA (by decide) (by decide) (by decide) (by decide)).trans hm1
    · rw [if_neg (by decide)]; exact (nA (by decide) (by decide) (by decide) (by decide)).trans hm2
end
end Mine
end
section
open PySem PySem.W PySem.Calls PyProof.Rows Builtin Builtin.ObjectAttr Builtin.Str
namespace Mine
structure HAt (h : Heap) (its : Array Value) (es : List Ent) : Prop where
  sz : its.size = es.length
  at_ : ∀ (i : Nat) (e : Ent), es[i]? = some e → ∃ t tn wa wits wep, its[i]? = some (.ref t) ∧ h.get? t = some (tupObj [.str (mkS (nmL e.1)) tn, .ref wa]) ∧ h.get? wa = some (lstO wits wep) ∧ Parts anyA h wits.toList e.2
noncomputable abbrev noE : Ent := ((0, 97), [])
theorem HAt.tups {h : Heap} {its : Array Value} {es : List Ent} (H : HAt h its es) : ∃ (tn : Nat → Tok) (wa : Nat → Addr), Tups h its es.length (fun i => [.str (mkS (nmL (es.getD i noE).1)) (tn i), .ref (wa i)]) ∧ ∀ i, i < es.length → ∃ wits wep, h.get? (wa i) = some (lstO wits wep) ∧ Parts anyA h wits.toList (es.getD i noE).2 := by
  have : ∀ i, ∃ (tn : Tok) (wa : Addr), i < es.length → (∃ t, its[i]? = some (.ref t) ∧ h.get? t = some (tupObj [.str (mkS (nmL (es.getD i noE).1)) tn, .ref wa])) ∧ ∃ wits wep, h.get? wa = some (lstO wits wep) ∧ Parts anyA h wits.toList (es.getD i noE).2 := fun i => by
    by_cases hi : i < es.length
    · obtain ⟨t, tn, wa, wits, wep, e1, e2, e3, e4⟩ := H.at_ i _ (getD_map es noE i hi)
      exact ⟨tn, wa, fun _ => ⟨⟨t, e1, e2⟩, wits, wep, e3, e4⟩⟩
    · exact ⟨0, 0, fun h => absurd h hi⟩
  exact ⟨fun i => (this i).choose, fun i => (this i).choose_spec.choose, ⟨H.sz, fun i hi => ((this i).choose_spec.choose_spec hi).1⟩, fun i hi => ((this i).choose_spec.choose_spec hi).2⟩
theorem range3 : Builtin.Range.rangeSize 0 3 1 = 3 ∧ Builtin.Range.small 0 3 1 = true := by decide
section
variable {Pk : Addr → Prop}
variable {T : Tabs} {K : Frag} {cd : ClassData} {mg mb : Str → Option Value} {w : World} {A : Around} {s : Shared} {g h₀ h h' h₁ h₂ : Heap} {W W' : List Addr} {L C : Addr} {m : Str → Option Value} {kn : List (Addr × Obj)} {R : Result → Shared → Prop} {E : Value → Shared → Prop} {prog : Program}
theorem road_spec {a b : Addr} {its hits : Array Value} {ep hep : Nat} {es : List Ent} {p0 p1 p2 : Nat × WS} {pn : Nat} {tp : Tok} (LX : Lx T K cd mg) (G : Gb T K mg mb g) (S : St T g s.heap) (r : Rm A 15) (hb : NoneBooked g) (ha : s.heap.get? a = some (lstO its ep)) (hhd : HAt s.heap its es) (hbh : s.heap.get? b = some (lstO hits hep)) (hh : NAt s.heap hits [p0, p1, p2]) (g0 : GoodV p0.2) (g1 : GoodV p1.2) (g2 : GoodV p2.2) (hes : ∀ e ∈ es, GoodE 2 e) (hne : es ≠ []) (hel : es.length ≤ 3) (hpn : pn ≤ 2)
  (hR : ∀ s' t u v, Mv T g [] s.heap s'.heap → Ok s s' → s'.heap.get? t = some (tupObj [.str (mkS (mailF p2.1 (addX (sendX (sendX es p0.2) p1.2) p2.2))) u, .str (mkS (textL (rowsP ((sendX (sendX (sendX es p0.2) p1.2) p2.2).map pairOf) ++ [[]]))) v]) → s.heap.get? t = none → R (.ok (.ret (.ref t))) s') :
  codeAny (model PR w) A (.call (.ref 387) ⟨[.ref a, .ref b, .int (pn : Int) tp], []⟩) R s := by
  refine' j_callK (binds := [("heads", .ref a), ("hands", .ref b), ("plain", .int (pn : Int) tp)]) [] [] G S Kn.nil LX.road r.lt (fun _ _ _ _ _ _ => BindsTo.of_eq rfl) (locs rfl) (by decide) ?_ rfl rfl rfl
  intro L h₁ t₁ j mv₁
  have rr := r.deeper (env := roEnv L)
  have hhd₁ : HAt h₁ its es := ⟨hhd.sz, fun i e he => by
    refine qg fun G kG => ?_
    obtain ⟨t, tn, wa, wits, wep, e1, e2, e3, e4⟩ := hhd.at_ i e he
    refine kG ?_
    exact ⟨t, tn, wa, wits, wep, e1, j.old e2 (.inl (by exact ni0)), j.old e3 (.inl (by exact ni0)), e4.mv S mv₁⟩⟩
  obtain ⟨tn, wa, hT, hW⟩ := hhd₁.tups
  refine xc fun _ hk => Assign_Tuple_swapped (names := ["table", "mail"]) (Tuple_ (args_cons (Call_ ?_)))
  refine j_global (s := { s with heap := h₁, toks := t₁ }) G j LX.hHdr ?_
  refine j_callWith LX.kHdr (args_cons ?_)
  refine j_listComp (s := { s with heap := h₁, toks := t₁ }) (n := es.length) (p := fun _ => true) (F := TupF T [] fun i vs => ∃ t1 t2, vs = [.str (pairOf (es.getD i noE)).1 t1, .str (pairOf (es.getD i noE)).2 t2]) (cl := []) j (by lia) (by rfl) ?_ ?_
  · refine j_local (s := { s with heap := h₁, toks := t₁ }) j rfl ?_
    refine src2 (s := { s with heap := h₁, toks := t₁ }) rr.h (Mv.refl j.mv.st) ⟨rfl, id⟩ j.mv.st (j.old ha (.inl (by exact ni0))) hT (fun ws => TupF.stays ws) (by rfl) (by rfl) (by rfl) fun s₂ I D C i s₃ m its' ep' o2 hi j₃ hI ok => ?_
    obtain ⟨wits, wep, hwa, hwp⟩ := hW i hi
    have gv := (hes _ (List.mem_of_getElem? (getD_map es noE i hi))).v
    refine Tuple_ (args_cons (e_local (s := s₃) j₃ (ine (by decide) (ipo rfl)) (args_cons (Call_ ?_))))
    refine e_global (s := s₃) G j₃.mv.st LX.gValue ?_
    refine j_callWith (LX.kl 370 (by decide)) (args_cons (e_local (s := s₃) j₃ (ipo rfl) (args_nil ⟨j₃.mv.st.In G, wpAny_call ?_⟩)))
    refine value_spec (s := s₃) (Pk := anyA) LX.LA G j₃.mv.st (rr.mono (by decide)) (j₃.old hwa (.inl (by exact ni0))) (hwp.mv j.mv.st j₃.mv) (Nat.le_trans gv.len (by decide)) (fun p hp => Nat.le_trans (gv.short p hp).1 (by decide)) fun s₄ t₄ mv₄ ok₄ => args_nil ?_
    have j₄ := j₃.call0 mv₄
    refine qg fun G kG => ?_
    obtain ⟨oC, _, _, eC, _⟩ := id j₄.ns
    refine kG ?_
    obtain ⟨oI, eI⟩ := hI
    obtain ⟨oI', eI'⟩ := mv₄.there _ _ eI
    refine wpAny_newTuple ?_
    exact ⟨⟨_, _, rfl, Heap.get?_push_size _ rfl, ⟨_, t₄, rfl⟩, ni3 (szne (j₄.get (.head _))) (szne eC) (szne eI'), ni0, j₄.mv.st.newT (Heap.get?_none_of_le (Nat.le_refl _))⟩, mv₄.trans (Mv.push j₄.mv.st _) (by exact al0), ok₄.1, ok₄.2⟩
  intro s₈ D2 its2 ep2 ws2 j₈ mv₈ ok₈ hD2 gD2 eD2 hP2
  obtain ⟨hsz2, hat2⟩ := paired_range hP2
  have hp : Parts anyA s₈.heap its2.toList (es.map pairOf) := parts_of (by simp only [Array.length_toList, List.length_map, hsz2]) fun i p hpi => by
    rw [List.getElem?_map] at hpi
    have hi : i < es.length := by
      rcases Nat.lt_or_ge i es.length with q | q
      · exact q
      · rw [List.getElem?_eq_none q] at hpi; cases hpi
    rw [getD_map es noE i hi] at hpi
    obtain rfl : pairOf (es.getD i noE) = p := Option.some.inj hpi
    refine qg fun G kG => ?_
    obtain ⟨v, ev, ⟨t, vs, rfl, e2, ⟨t1, t2, rfl⟩, _⟩⟩ := hat2 i hi
    refine kG ?_
    exact ⟨_, by rw [Array.getElem?_toList]; exact ev, ⟨⟨t, trivial⟩, t1, t2, rfl, e2⟩⟩
  refine args_nil ⟨j₈.mv.st.In G, wpAny_call ?_⟩
  refine hdr_new (s := s₈) LX.FH G j₈.mv.st (rr.mono (by decide)) eD2 hp (pr_es hes) fun x d h₉ t₉ mv₉ hdr nx nd gx gd => ?_
  have j₉ := j₈.call0 mv₉
  have hpl₉ := mv₉.keep _ _ eD2 (j₈.mv.st.notTab eD2 (by nofun)) (.inl (by exact ni0))
  obtain ⟨tk, j₉'⟩ := j.addHdr j₉ j.mv.st hdr hpl₉ (none_back mv₈ nx) (none_back mv₈ nd) hD2 gx gd gD2
  refine args_cons (Constant_str (args_nil ?_))
  refine pair_bind (s := { s₈ with heap := h₉, toks := _ }) (x := "table") (y := "mail") rr.h j₉' (by rfl) (by rfl) (by rfl) fun h₁₀ t₁₀ j₁₀ mv₁₀ => hk { s₈ with heap := h₁₀, toks := t₁₀ } ?_
  clear hk
  have p₁₀ := (hp.mv j₈.mv.st mv₉).mv j₉'.mv.st mv₁₀
  refine xc fun _ hk => wpAny_For (Call_ ?_)
  refine j_builtin (s := { s₈ with heap := h₁₀, toks := t₁₀ }) G j₁₀ LX.GM.range boot_range' ?_
  refine PyProof.Rows.callWith_type1 (args_cons (wpAny_Constant_int (i := 3) (k := 0) (pos := ⟨0, 0, 0, 0⟩) (args_nil ?_)))
  refine call_range_1 ?_
  obtain ⟨rg, h₁₁, erg, e11, j₁₁, mv₁₁, _, _⟩ := J.pushK j₁₀ ({ cls := .type "range", data := .fields #[.int 0 (t₁₀ + 1), .int 3 t₁₀, .int 1 (t₁₀ + 1 + 1)] } : Obj) rfl
  dsimp only
  rw [← erg, ← e11]
  refine wpAny_pyIter_range (s := { s₈ with heap := h₁₁, toks := _ }) (j₁₁.get (.head _)) range3.2 ?_
  rw [range3.1]
  obtain ⟨I, h₁₂, eI, e12, j₁₂, mv₁₂, nI, _⟩ := J.pushK (j₁₁.sub (List.sublist_cons_self _ _)) (rgO 0 3) rfl
  dsimp only
  rw [show ({ cls := .type "range_iterator", data := .fields #[rawInt 0, rawInt 3, rawInt 1] } : Obj) = rgO 0 3 from rfl, ← eI, ← e12]
  have p₁₂ := (p₁₀.mv j₁₀.mv.st mv₁₁).mv j₁₁.mv.st mv₁₂
  have npl : s.heap.get? D2 = none := none_back mv₁ hD2
  have hbh' := hbh
  have tr : ∀ {a b c : Shared}, Ok a b → Ok b c → Ok a c := fun x y => ⟨y.1.trans x.1, fun q => y.2 (x.2 q)⟩
  have ok₁₂ : Ok s { s₈ with heap := h₁₂, toks := t₁₀ + 1 + 1 + 1 } := ⟨ok₈.1, ok₈.2⟩
  refine road_turn (pn := pn) (p := p0) (es := es) LX G (rr.mono (by decide)) hb nI hbh hh (by rfl) g0 (by decide) j₁₂ npl p₁₂ hes hne hel rfl rfl (ipo rfl) fun s1 m1 x1 d1 pl1 its1 ep1 tk1 M1 u1 j1 n1 q1 ea1 ea2 ea3 ea4 eM1 ok1 => ?_
  have hes1 := sendX_good (by lia) (by lia) hes g0
  have hl1 : (sendX es p0.2).length ≤ 4 := by unfold sendX; rw [List.length_map]; have := (addX_len es p0.2).1; lia
  have hne1 : sendX es p0.2 ≠ [] := fun q => (addX_len es p0.2).2 hne (List.map_eq_nil_iff.mp q)
  refine road_turn (s := s1) (pn := pn) (p := p1) (es := sendX es p0.2) LX G (rr.mono (by decide)) hb nI hbh hh (by rfl) g1 (by decide) j1 n1 q1 hes1 hne1 hl1 ea1 ea2 ea3 fun s2 m2 x2 d2 pl2 its2' ep2' tk2 M2 u2 j2 n2 q2 eb1 eb2 eb3 eb4 eM2 ok2 => ?_
  have hes2 := sendX_good (by lia) (by lia) hes1 g1
  have hl2 : (sendX (sendX es p0.2) p1.2).length ≤ 5 := by unfold sendX at hl1 ⊢; rw [List.length_map]; have := (addX_len (List.map sentE (addX es p0.2)) p1.2).1; lia
  have hne2 : sendX (sendX es p0.2) p1.2 ≠ [] := fun q => (addX_len (sendX es p0.2) p1.2).2 hne1 (List.map_eq_nil_iff.mp q)
  refine road_turn (s := s2) (pn := pn) (p := p2) (es := sendX (sendX es p0.2) p1.2) LX G (rr.mono (by decide)) hb nI hbh hh (by rfl) g2 (by decide) j2 n2 q2 hes2 hne2 hl2 eb1 eb2 eb3 fun s3 m3 x3 d3 pl3 its3 ep3 tk3 M3 u3 j3 n3 q3 ec1 ec2 ec3 ec4 eM3 ok3 => ?_
  have hes3 := sendX_good (by lia) (by lia) hes2 g2
  have hl3 : (sendX (sendX (sendX es p0.2) p1.2) p2.2).length ≤ 6 := by rw [show sendX (sendX (sendX es p0.2) p1.2) p2.2 = List.map sentE (addX (sendX (sendX es p0.2) p1.2) p2.2) from rfl, List.length_map]; have := (addX_len (sendX (sendX es p0.2) p1.2) p2.2).1; lia
  refine for_rng_end (s := s3) rr.h j3 nI fun h₁₃ j₁₃ k₁₃ => hk { s3 with heap := h₁₃ } ?_
  clear hk
  have hdr₁₃ : HdrAt w h₁₃ x3 d3 pl3 := ⟨j₁₃.get (.head _), tk3, j₁₃.get (.tail _ (.head _))⟩
  have p₁₃ := q3.keepI (j3.get (.head _)) (by simp) k₁₃
  refine wpAny_execs_cons (wpAny_Return_some (Tuple_ (args_cons (j_local (s := { s3 with heap := h₁₃ }) j₁₃ ec4 (args_cons (Call_ ?_))))))
  refine j_builtin (s := { s3 with heap := h₁₃ }) G j₁₃ LX.GM.str boot_str ?_
  refine PyProof.Rows.callWith_type1 (args_cons (j_local (s := { s3 with heap := h₁₃ }) j₁₃ ec3 (args_nil ?_)))
  refine hstr_call (s := { s3 with heap := h₁₃ }) LX.FH LX.FG G j₁₃.mv.st (rr.mono (by decide)) hdr₁₃ (j₁₃.get (.tail _ (.tail _ (.head _)))) p₁₃ (by rw [List.length_map]; lia) (pr_len hes3) fun s₁₄ t₁₄ mv₁₄ ok₁₄ => args_nil ?_
  have j₁₄ := j₁₃.call0 mv₁₄
  refine j_newTuple (s := s₁₄) j₁₄ fun tt h₁₅ j₁₅ nt _ => ?_
  have htt := j₁₅.get (.head _)
  rw [eM3 hpn] at htt
  have ok₁₄' : Ok s3 s₁₄ := ⟨ok₁₄.1, ok₁₄.2⟩
  have ok' : Ok s s₁₄ := tr ok₁₂ (tr ok1 (tr ok2 (tr ok3 ok₁₄')))
  exact hR { s₁₄ with heap := h₁₅ } tt u3 t₁₄ j₁₅.mv ⟨ok'.1, ok'.2⟩ htt nt
end
end Mine
end
section
open PySem PySem.W PySem.Calls PyProof.Rows Builtin Builtin.ObjectAttr Builtin.Str
namespace Mine
noncomputable def drawnF (ns : List Int) : List Int := (ns.take 6).map fun n => n.fmod 1000000
noncomputable def cellsF (ns : List Int) : List Int := drawnF ns ++ ([18901, 863, 13845, 39, 8, 222] : List Int).drop (drawnF ns).length
theorem drawnF_len (ns : List Int) : (drawnF ns).length ≤ 6 := by unfold drawnF; rw [List.length_map, List.length_take]; exact Nat.min_le_left _ _
theorem cellsF_len (ns : List Int) : (cellsF ns).length = 6 := by
  have := drawnF_len ns
  unfold cellsF
  rw [List.length_append, List.length_drop]
  show _ + (6 - _) = 6
  exact Nat.add_sub_of_le this
noncomputable abbrev lawE (L c3 c2 c1 : Addr) : Env := envX "law" (fScope (topSt 24)) L 399 (.ref 398) [("names", c3), ("hands", c2), ("heads", c1)]
theorem IntsAre.get' {vs : List Value} {ns : List Int} (h : IntsAre vs ns) (i : Nat) {v : Value} (e : vs[i]? = some v) : ∃ n t, ns[i]? = some n ∧ v = .int n t := by
  induction h generalizing i with
  | nil => cases e
  | cons n t _ ih =>
    cases i with
    | zero => cases e; exact ⟨n, t, rfl, rfl⟩
    | succ i => exact ih i e
theorem IntsAre.drop {vs : List Value} {ns : List Int} (h : IntsAre vs ns) (k : Nat) : IntsAre (vs.drop k) (ns.drop k) := by
  induction h generalizing k with
  | nil => simp; exact .nil
  | cons n t hr ih =>
    cases k with
    | zero => exact .cons n t hr
    | succ k => exact ih k
theorem ints_app {vs ws : List Value} {ys zs : List Int} (h : IntsAre vs ys) (h' : IntsAre ws zs) : IntsAre (vs ++ ws) (ys ++ zs) := by
  induction h with
  | nil => exact h'
  | cons y t _ ih => exact .cons _ _ ih
section
variable {T : Tabs} {K : Frag} {cd : ClassData} {mg mb : Str → Option Value} {w : World} {A : Around} {s : Shared} {g h₀ h h' h₁ h₂ : Heap} {W W' : List Addr} {L C : Addr} {m : Str → Option Value} {kn : List (Addr × Obj)} {R : Result → Shared → Prop} {E : Value → Shared → Prop} {prog : Program}
theorem drawn_stmt {sa c3 c2 c1 : Addr} {its : Array Value} {ep : Nat} {ns : List Int} {Qf : Flow → Shared → Prop} (gI : mg "int" = none) (G : Gb T K mg mb g) (r : Rm A 3)
   (j : J T g [] h₀ L s.heap m kn) (hm : m "script" = some (.ref sa)) (hsa : s.heap.get? sa = some (lstO its ep)) (hi : IntsAre its.toList ns) (hn : ns.length ≤ 100)
   (hQ : ∀ (s' : Shared) D its' ep', J T g [] h₀ L s'.heap (fun z => if z = "drawn" then some (.ref D) else m z) ((D, lstO its' ep') :: kn) → Ok s s' → IntsAre its'.toList (drawnF ns) → Qf .next s') :
   wpAny (model PR w) A (exec (stAt (fBody (topSt 24)) 0) (lawE L c3 c2 c1)) Qf (fun _ _ => False) s := by
  have hlen : its.size = ns.length := by have := hi.length; rw [Array.length_toList] at this; exact this
  refine j_assignComp (env := lawE L c3 c2 c1) (cl := []) (n := (ns.take 6).length) (p := fun _ => true) (F := fun _ i y _ => ∃ t, y = .int (((ns.take 6).getD i 0).fmod 1000000) t) j (by rw [List.length_take]; lia) (by rfl) ?_ ?_
  · refine Subscript_ ?_
    refine j_local j hm ?_
    refine e_Slice ?_
    refine wpAny_pure ?_
    refine wpAny_Constant_int (i := 6) (k := 0) (pos := ⟨0, 0, 0, 0⟩) ?_
    dsimp only
    obtain ⟨sl1, h₅, eS1, e5, j₅, mv₅, _, n5⟩ := J.pushK j (slObj .none (.int 6 s.toks)) rfl
    rw [← eS1, ← e5]
    have hsa₅ := mv₅.keep _ _ hsa (j.mv.st.notTab hsa (by nofun)) (.inl (by exact ni0))
    refine sub_slice (s := { s with heap := h₅, toks := _ }) (lo := none) (hi := some ((6 : Nat) : Int)) ⟨_, hsa₅, rfl, _, rfl⟩ ⟨_, j₅.get (.head _), rfl, rfl⟩ .none (by constructor) (by lia) ?_
    rw [slicePick_upto']
    dsimp only
    obtain ⟨ln, h₆, eln, e6, j₆, mv₆, nln, n6⟩ := J.pushK j₅ (lstO (its.toList.take 6).toArray 0) rfl
    rw [← eln, ← e6]
    refine src_list (s := s) (s₁ := { s with heap := h₆, toks := _ }) r.h (mv₅.trans mv₆ (by exact al0)) ⟨rfl, id⟩ j₆.mv.st (j₆.get (.head _)) rfl rfl (by simp only [List.size_toArray, List.length_take, List.length_take, Array.length_toList, hlen]) (by rfl) (by rfl) fun s₂ ok₂ => Body.all fun D' C' i s₄ m₄ m₄' its₄ ep₄ hi4 hu j₄ mv₄ ok₄ => ?_
    obtain ⟨v, ev, rfl⟩ := hu
    obtain ⟨a, ta, ea, rfl⟩ := IntsAre.get' (hi.take 6) i (by rw [← Array.getElem?_toList] at ev; exact ev)
    refine wpAny_BinOp ?_
    refine Call_ ?_
    refine e_builtin G j₄.mv.st gI (by decide +kernel : bootBuiltins "int" = some (.type "int")) ?_
    refine PyProof.Rows.callWith_type1 (args_cons ?_)
    refine e_local (s := s₄) j₄ (v := .int a ta) (ipo rfl) ?_
    refine args_nil ?_
    refine call_int_int ?_
    refine wpAny_BinOp ?_
    refine wpAny_Constant_int (i := 10) (k := 0) (pos := ⟨0, 0, 0, 0⟩) ?_
    refine wpAny_Constant_int (i := 6) (k := 0) (pos := ⟨0, 0, 0, 0⟩) ?_
    refine PyProof.Rows.pow_int_small (by decide) (by decide) (by decide) ?_
    refine PyProof.Rows.mod_int (by decide) ?_
    refine ⟨⟨s₄.toks + 1 + 1 + 1, ?_⟩, Mv.refl j₄.mv.st, ⟨rfl, id⟩⟩
    rw [show (ns.take 6).getD i 0 = a by rw [List.getD_eq_getElem?_getD, ea]; rfl]
    rfl
  · intro s' D its' ep' ws j' mv' ok' hD gD eD hP
    refine hQ s' D its' ep' (j.addN j' rfl hD eD gD (j'.mv.st.notTab eD (by nofun))) ok' ?_
    rw [filter_true] at hP
    have := ints_paired (f := fun i => ((ns.take 6).getD i 0).fmod 1000000) (fun i y hy => Exists.elim hy fun h f => f.1) hP
    rw [map_range_getD (ns.take 6) 0 (fun n => n.fmod 1000000)] at this
    exact this
theorem cells_stmt {dl c3 c2 c1 : Addr} {its : Array Value} {ep : Nat} {ds : List Int} {Qf : Flow → Shared → Prop} (GM : Gm mg) (G : Gb T K mg mb g) (r : Rm A 3)
   (j : J T g [] h₀ L s.heap m ((dl, lstO its ep) :: kn)) (hm : m "drawn" = some (.ref dl)) (hi : IntsAre its.toList ds) (hn : ds.length ≤ 6)
   (hQ : ∀ (s' : Shared) D its' ep', J T g [] h₀ L s'.heap (fun z => if z = "cells" then some (.ref D) else m z) ((D, lstO its' ep') :: (dl, lstO its ep) :: kn) → Ok s s' → IntsAre its'.toList (ds ++ ([18901, 863, 13845, 39, 8, 222] : List Int).drop ds.length) → Qf .next s') :
   wpAny (model PR w) A (exec (stAt (fBody (topSt 24)) 1) (lawE L c3 c2 c1)) Qf (fun _ _ => False) s := by
  have hlen : its.size = ds.length := by have := hi.length; rw [Array.length_toList] at this; exact this
  refine wpAny_Assign_Name ?_
  refine wpAny_BinOp ?_
  refine j_local j hm ?_
  refine Subscript_ ?_
  refine List_ (args_cons ?_)
  refine wpAny_Constant_int (i := 18901) (k := 0) (pos := ⟨0, 0, 0, 0⟩) ?_
  refine args_cons ?_
  refine wpAny_Constant_int (i := 863) (k := 0) (pos := ⟨0, 0, 0, 0⟩) ?_
  refine args_cons ?_
  refine wpAny_Constant_int (i := 13845) (k := 0) (pos := ⟨0, 0, 0, 0⟩) ?_
  refine args_cons ?_
  refine wpAny_Constant_int (i := 39) (k := 0) (pos := ⟨0, 0, 0, 0⟩) ?_
  refine args_cons ?_
  refine wpAny_Constant_int (i := 8) (k := 0) (pos := ⟨0, 0, 0, 0⟩) ?_
  refine args_cons ?_
  refine wpAny_Constant_int (i := 222) (k := 0) (pos := ⟨0, 0, 0, 0⟩) ?_
  refine args_nil ?_
  dsimp only
  generalize ht : s.toks = t0
  refine j_newListK (s := { s with toks := _ }) j fun ll h₁ j₁ mv₁ nll => ?_
  dsimp only
  refine e_Slice ?_
  refine Call_ ?_
  refine j_builtin (s := { s with heap := h₁, toks := _ }) G j₁ GM.len boot_len ?_
  refine callWith_method1 (first := []) (args_cons ?_)
  refine j_local (s := { s with heap := h₁, toks := _ }) j₁ hm ?_
  refine args_nil ?_
  refine PyProof.Rows.len_list (items := its) ⟨_, j₁.get (.tail _ (.head _)), rfl, _, rfl⟩ (by lia) ?_
  refine wpAny_pure ?_
  dsimp only
  refine qg fun G kG => ?_
  obtain ⟨sl1, h₂, eS1, e2, j₂, mv₂, _, n2⟩ := J.pushK j₁ (slObj (.int (its.size : Int) (t0 + 1 + 1 + 1 + 1 + 1 + 1 + 1)) .none) rfl
  refine kG ?_
  rw [← eS1, ← e2]
  refine subTail_builtin (T := "list") ⟨_, j₂.get (.tail _ (.head _)), rfl⟩ list_getitem_lookup (wpAny_getItem_list_slice (s := { s with heap := h₂, toks := _ }) (lo := some ((its.size : Nat) : Int)) (hi := none) (st := none) ⟨_, j₂.get (.tail _ (.head _)), rfl, _, rfl⟩ ⟨_, j₂.get (.head _), rfl, rfl⟩ (by constructor) .none .none (by simp) ?_ (by rw [sizeLine_eq]; simp)) (.inr rfl)
  rw [pick_from]
  dsimp only
  obtain ⟨xz, exz⟩ : ∃ xz, xz = ((([.int 18901 t0, .int 863 (t0 + 1), .int 13845 (t0 + 1 + 1), .int 39 (t0 + 1 + 1 + 1), .int 8 (t0 + 1 + 1 + 1 + 1), .int 222 (t0 + 1 + 1 + 1 + 1 + 1)] : List Value).toArray.toList.drop its.size).toArray) := ⟨_, rfl⟩
  have hxz : IntsAre xz.toList (([18901, 863, 13845, 39, 8, 222] : List Int).drop ds.length) := by
    rw [exz, hlen]
    exact IntsAre.drop (.cons _ _ (.cons _ _ (.cons _ _ (.cons _ _ (.cons _ _ (.cons _ _ .nil)))))) _
  rw [← exz]
  have zxz : xz.size ≤ 6 := by
    have := hxz.length
    rw [Array.length_toList, List.length_drop] at this
    rw [this]; show 6 - _ ≤ 6; exact Nat.sub_le _ _
  refine qg fun G kG => ?_
  obtain ⟨ln, h₃, eln, e3, j₃, mv₃, nln, n3⟩ := J.pushK j₂ (lstO xz 0) rfl
  refine kG ?_
  rw [← eln, ← e3]
  refine PySem.P.add_list (s := { s with heap := h₃, toks := _ }) (l := dl) (b := ln) (items := its) (items2 := xz) (n := ep) (n2 := 0) (j₃.get (.tail _ (.tail _ (.tail _ (.head _))))) (j₃.get (.head _)) ?_ (by rw [sizeLine_eq]; lia)
  refine qg fun G kG => ?_
  obtain ⟨cl, h₄, ecl, e4, j₄, mv₄, ncl, n4⟩ := J.pushK j₃ (lstO (its ++ xz) 0) rfl
  refine kG ?_
  rw [← ecl, ← e4]
  have j₅ : J T g [] h₀ L h₄ m ((cl, lstO (its ++ xz) 0) :: (dl, lstO its ep) :: kn) := j₄.sub (.cons_cons _ (.cons _ (.cons _ (.cons _ (List.Sublist.refl _)))))
  refine j_storeK (s := { s with heap := h₄, toks := _ }) j₅ fun h₆ t₆ j₆ mv₆ => ?_
  refine hQ { s with heap := h₆, toks := t₆ } cl (its ++ xz) 0 j₆ ⟨rfl, id⟩ ?_
  rw [Array.toList_append]
  exact ints_app hi hxz
end
end Mine
end
section
open PySem PySem.W PySem.Calls PyProof.Rows Builtin Builtin.ObjectAttr Builtin.Str
namespace Mine
noncomputable def Av (T : Tabs) (ws : List Addr) (a : Addr) : Prop := a ∉ ws ∧ a ∉ T.map (·.2)
noncomputable def WL (X : List Addr) (h : Heap) (wa : Addr) (q : WS) : Prop := wa ∉ X ∧ ∃ wits wep, h.get? wa = some (lstO wits wep) ∧ Parts anyA h wits.toList q
theorem WL.mv {T : Tabs} {g h h' : Heap} {X W : List Addr} {wa : Addr} {q : WS} (x : WL X h wa q) (S : St T g h) (mv : Mv T g W h h') (hW : ∀ b ∈ W, b ∈ X) : WL X h' wa q := by
  obtain ⟨n, wits, wep, e, p⟩ := x
  exact ⟨n, wits, wep, mv.keep _ _ e (S.notTab e (by nofun)) (.inl fun hm => n (hW _ hm)), p.mv S mv⟩
theorem WL.cons {X : List Addr} {h : Heap} {wa D : Addr} {q : WS} (x : WL X h wa q) (n : h.get? D = none) : WL (D :: X) h wa q := by
  refine qg fun G kG => ?_
  obtain ⟨a, wits, wep, e, p⟩ := x
  refine kG ?_
  exact ⟨fun hm => (List.mem_cons.mp hm).elim (fun q => by rw [← q, e] at n; cases n) a, wits, wep, e, p⟩
structure HX (X : List Addr) (h : Heap) (its : Array Value) (es : List Ent) : Prop where
  sz : its.size = es.length
  at_ : ∀ (i : Nat) (e : Ent), es[i]? = some e → ∃ t tn wa, its[i]? = some (.ref t) ∧ h.get? t = some (tupObj [.str (mkS (nmL e.1)) tn, .ref wa]) ∧ WL X h wa e.2
structure NX (X : List Addr) (h : Heap) (its : Array Value) (hs : List (Nat × WS)) : Prop where
  sz : its.size = hs.length
  at_ : ∀ (i : Nat) (p : Nat × WS), hs[i]? = some p → ∃ t tk wa, its[i]? = some (.ref t) ∧ h.get? t = some (tupObj [.int (p.1 : Int) tk, .ref wa]) ∧ WL X h wa p.2
theorem HX.mv {T : Tabs} {g h h' : Heap} {X W : List Addr} {its : Array Value} {es : List Ent} (x : HX X h its es) (S : St T g h) (mv : Mv T g W h h') (hW : ∀ b ∈ W, b ∈ X) : HX X h' its es where
  sz := x.sz
  at_ := fun i e he => by
    obtain ⟨t, tn, wa, e1, e2, e3⟩ := x.at_ i e he
    exact ⟨t, tn, wa, e1, mv.keep _ _ e2 (S.notTab e2 (by nofun)) (.inr ⟨rfl, _, _, rfl⟩), e3.mv S mv hW⟩
theorem NX.mv {T : Tabs} {g h h' : Heap} {X W : List Addr} {its : Array Value} {hs : List (Nat × WS)} (x : NX X h its hs) (S : St T g h) (mv : Mv T g W h h') (hW : ∀ b ∈ W, b ∈ X) : NX X h' its hs where
  sz := x.sz
  at_ := fun i e he => by
    obtain ⟨t, tn, wa, e1, e2, e3⟩ := x.at_ i e he
    exact ⟨t, tn, wa, e1, mv.keep _ _ e2 (S.notTab e2 (by nofun)) (.inr ⟨rfl, _, _, rfl⟩), e3.mv S mv hW⟩
theorem HX.cons {X : List Addr} {h : Heap} {its : Array Value} {es : List Ent} {D : Addr} (x : HX X h its es) (n : h.get? D = none) : HX (D :: X) h its es where
  sz := x.sz
  at_ := fun i e he => by
    obtain ⟨t, tn, wa, e1, e2, e3⟩ := x.at_ i e he
    exact ⟨t, tn, wa, e1, e2, e3.cons n⟩
theorem NX.cons {X : List Addr} {h : Heap} {its : Array Value} {hs : List (Nat × WS)} {D : Addr} (x : NX X h its hs) (n : h.get? D = none) : NX (D :: X) h its hs where
  sz := x.sz
  at_ := fun i e he => by
    obtain ⟨t, tn, wa, e1, e2, e3⟩ := x.at_ i e he
    exact ⟨t, tn, wa, e1, e2, e3.cons n⟩
theorem NX.pick {X : List Addr} {h : Heap} {its : Array Value} {hs : List (Nat × WS)} (x : NX X h its hs) : ∃ (t : Nat → Addr) (tk : Nat → Tok) (wa : Nat → Addr), ∀ i, i < hs.length → its[i]? = some (.ref (t i)) ∧ h.get? (t i) = some (tupObj [.int (((hs.getD i (0, [])).1 : Nat) : Int) (tk i), .ref (wa i)]) ∧ WL X h (wa i) (hs.getD i (0, [])).2 := by
  have : ∀ i, ∃ (t : Addr) (tk : Tok) (wa : Addr), i < hs.length → its[i]? = some (.ref t) ∧ h.get? t = some (tupObj [.int (((hs.getD i (0, [])).1 : Nat) : Int) tk, .ref wa]) ∧ WL X h wa (hs.getD i (0, [])).2 := fun i => by
    by_cases hi : i < hs.length
    · have e : hs[i]? = some (hs.getD i (0, [])) := by rw [List.getD_eq_getElem?_getD, List.getElem?_eq_getElem hi]; rfl
      obtain ⟨t, tk, wa, q⟩ := x.at_ i _ e
      exact ⟨t, tk, wa, fun _ => q⟩
    · exact ⟨0, 0, 0, fun h => absurd h hi⟩
  exact ⟨fun i => (this i).choose, fun i => (this i).choose_spec.choose, fun i => (this i).choose_spec.choose_spec.choose, fun i hi => (this i).choose_spec.choose_spec.choose_spec hi⟩
theorem HX.at {X : List Addr} {h : Heap} {its : Array Value} {es : List Ent} (x : HX X h its es) : HAt h its es where
  sz := x.sz
  at_ := fun i e he => by
    refine qg fun G kG => ?_
    obtain ⟨t, tn, wa, e1, e2, _, wits, wep, e3, e4⟩ := x.at_ i e he
    refine kG ?_
    exact ⟨t, tn, wa, wits, wep, e1, e2, e3, e4⟩
theorem NX.at {X : List Addr} {h : Heap} {its : Array Value} {hs : List (Nat × WS)} (x : NX X h its hs) : NAt h its hs where
  sz := x.sz
  at_ := fun i e he => by
    refine qg fun G kG => ?_
    obtain ⟨t, tn, wa, e1, e2, _, wits, wep, e3, e4⟩ := x.at_ i e he
    refine kG ?_
    exact ⟨t, tn, wa, wits, wep, e1, e2, e3, e4⟩
theorem parts_av {T : Tabs} {g h : Heap} {ws : List Addr} {vs : List Value} {q : WS} (S : St T g h) (p : Parts anyA h vs q) (hw : ∀ b ∈ ws, ∃ o, h.get? b = some o ∧ ¬ isTup o) : Parts (Av T ws) h vs q :=
  All2.imp p fun v q ⟨t, ta, tb, e1, e2⟩ => ⟨⟨t.1, fun hm => by
    obtain ⟨o, e, n⟩ := hw _ hm
    rw [e2] at e
    obtain rfl := Option.some.inj e
    exact n ⟨rfl, _, _, rfl⟩, S.notTab e2 (by nofun)⟩, ta, tb, e1, e2⟩
theorem parts_any {P : Addr → Prop} {h : Heap} {vs : List Value} {q : WS} (p : Parts P h vs q) : Parts anyA h vs q :=
  All2.imp p fun v q ⟨t, ta, tb, e1, e2⟩ => ⟨⟨t.1, trivial⟩, ta, tb, e1, e2⟩
noncomputable def PairF (T : Tabs) (X : List Addr) (V : Nat → Value → Prop) (Wd : Nat → WS) (ws : List Addr) (i : Nat) (y : Value) (h : Heap) : Prop :=
  ∃ t v wa, y = .ref t ∧ t ∉ ws ∧ t ∉ T.map (·.2) ∧ h.get? t = some (tupObj [v, .ref wa]) ∧ V i v ∧ wa ∉ X ∧ wa ∉ ws ∧ wa ∉ T.map (·.2) ∧ ∃ wits wep, h.get? wa = some (lstO wits wep) ∧ Parts (Av T ws) h wits.toList (Wd i)
theorem PairF.stays {T : Tabs} {X : List Addr} {V : Nat → Value → Prop} {Wd : Nat → WS} (ws : List Addr) : Stays T ws (PairF T X V Wd ws) := by
  rintro i y h h' ⟨t, v, wa, e1, e2, e3, e4, e5, e6, e7, e8, wits, wep, e9, p⟩ k
  exact ⟨t, v, wa, e1, e2, e3, k _ _ e4 e3 e2, e5, e6, e7, e8, wits, wep, k _ _ e9 e8 e7, All2.imp p fun v q ⟨t, ta, tb, q1, q2⟩ => ⟨t, ta, tb, q1, k _ _ q2 t.2.2 t.2.1⟩⟩
section
variable {T : Tabs} {K : Frag} {cd : ClassData} {mg mb : Str → Option Value} {w : World} {A : Around} {s : Shared} {g h₀ h h' h₁ h₂ : Heap} {W W' : List Addr} {L C : Addr} {m : Str → Option Value} {kn : List (Addr × Obj)} {R : Result → Shared → Prop} {E : Value → Shared → Prop} {prog : Program}
variable {elt : Expr} {env : Env} {scope : Scope} {cl : List (Str × Addr)} {n : Nat} {F : List Addr → Nat → Value → Heap → Prop} {s₁ : Shared} {ax : Addr} {its : Array Value} {ep : Nat} {x y z : Str} {px py pz pt : Pos} {kt : Nat}
theorem ns_notup (hns : h.Ns C m) : ∃ o, h.get? C = some o ∧ ¬ isTup o := by
  refine qg fun G kG => ?_
  obtain ⟨o, es, n, e, d, _⟩ := hns
  refine kG ?_
  exact ⟨o, e, fun ⟨_, its, n, q⟩ => by rw [d] at q; cases q⟩
theorem src1c (hh : A.handled = none) (mv₁ : Mv T g [] s.heap s₁.heap) (ok₁ : Ok s s₁) (S₁ : St T g s₁.heap) (hax : s₁.heap.get? ax = some (lstO its ep)) (hn : its.size = n) (hF : ∀ ws, Stays T ws (F ws))
    (hx : scope.names.lookup x = some .local) (hk : scope.kind = .function)
    (body : ∀ (s₂ : Shared) (I D C : Addr) (i : Nat) (s₃ : Shared) (m : Str → Option Value) (its' : Array Value) (ep' : Nat) (v : Value), Ok s₁ s₂ → i < n → its[i]? = some v → J T g [] s.heap C s₃.heap (fun q => if q = x then some v else m q) [(D, lstO its' ep')] → (∀ b ∈ [D, C, I], ∃ o, s₃.heap.get? b = some o ∧ ¬ isTup o ∧ b ∉ T.map (·.2)) → Ok s₂ s₃ →
      wpAny (model prog w) A (eval elt (compEnvC scope cl C env)) (fun y s₅ => F [D, C, I] i y s₅.heap ∧ Mv T g [] s₃.heap s₅.heap ∧ Ok s₃ s₅) (fun _ _ => False) s₃) :
    wpAny (model prog w) A (pyIter (.ref ax)) (Src prog w A T g s elt (.Name x px) [] env scope cl n (fun _ => true) F) E s₁ := by
  subst hn
  refine wpAny_pyIter_list ⟨_, hax, rfl, ep, rfl⟩ ?_
  have hne : ax ≠ s₁.heap.objs.size := Nat.ne_of_lt (Heap.lt_size hax)
  have N := newIt (s := s) mv₁ S₁ ax
  have Wk := Walks.list (prog := prog) (w := w) hh s₁.heap.objs.size ax hne its
  refine ⟨N.mv, ⟨ok₁.1, ok₁.2⟩, s₁.heap.objs.size, _, _, _, _, rfl, ⟨⟨_, Heap.get?_push_size _ rfl, rfl, rfl⟩, ⟨_, Heap.get?_push_of_some _ hax, rfl, ep, rfl⟩⟩, ?_, fun C hC => Turns.name Wk (al1 N.h0) hC hk (lookup_relabel_local hx), fun D C => hF _, ?_⟩
  · refine al2 ⟨?_, N.no⟩ ⟨?_, S₁.notTab hax (by nofun)⟩
    · show _ < (s₁.heap.push _).objs.size; rw [Heap.size_push]; exact Nat.lt_succ_self _
    · show _ < (s₁.heap.push _).objs.size; rw [Heap.size_push]; exact Nat.lt_succ_of_lt (Heap.lt_size hax)
  · rintro D C i s₃ m m' its' ep' hi ⟨v, ev, rfl⟩ j mv hs ok
    refine qg fun G kG => ?_
    obtain ⟨⟨o, e, c, d⟩, _⟩ := hs
    refine kG ?_
    have nC := ns_notup j.ns
    have nI : ¬ isTup o := fun ⟨q, _⟩ => by rw [c] at q; simp at q
    obtain ⟨oC, eC, nC⟩ := nC
    exact wpAny_tests_nil ⟨rfl, Mv.refl j.mv.st, Ok.refl _, fun _ => body _ _ D C i s₃ m its' ep' v ⟨rfl, id⟩ hi ev j (al3 ⟨_, j.get (.head _), (fun ⟨q, _⟩ => by simp at q), (j.has _ (.head _)).2.2.1⟩ ⟨oC, eC, nC, j.Lt⟩ ⟨o, e, nI, j.mv.st.notTab e (by rw [c]; nofun)⟩) ok⟩
end
end Mine
end
section
open PySem PySem.W PySem.Calls PyProof.Rows Builtin Builtin.ObjectAttr Builtin.Str
namespace Mine
theorem ints_nat {vs : List Value} {cs : List Nat} (h : IntsAre vs (cs.map Int.ofNat)) {i : Nat} {v : Value} (e : vs[i]? = some v) : ∃ t, i < cs.length ∧ v = .int ((cs.getD i 0 : Nat) : Int) t := by
  obtain ⟨a, t, ea, rfl⟩ := IntsAre.get' h i e
  rw [List.getElem?_map] at ea
  have hi : i < cs.length := by
    rcases Nat.lt_or_ge i cs.length with q | q
    · exact q
    · rw [List.getElem?_eq_none q] at ea; cases ea
  rw [getD_map cs 0 i hi] at ea
  obtain rfl := Option.some.inj ea
  exact ⟨t, hi, rfl⟩
section
variable {T : Tabs} {K : Frag} {cd : ClassData} {mg mb : Str → Option Value} {w : World} {A : Around} {s : Shared} {g h₀ h h' h₁ h₂ : Heap} {W W' : List Addr} {L C : Addr} {m : Str → Option Value} {kn : List (Addr × Obj)} {R : Result → Shared → Prop} {E : Value → Shared → Prop} {prog : Program}
theorem elt_words {X : List Addr} {V : Nat → Value → Prop} {Wd : Nat → WS} {D I : Addr} {o : Obj} {n i : Nat} {tn : Tok} {v : Value} {s₃ : Shared} {k : Nat} (LX : Lx T K cd mg) (G : Gb T K mg mb g) (r : Rm A 2) (hn : n ≤ 1000000) (hW : Wd i = wordsF n true) (hv : V i v)
   (j : J T g [] h₀ C s₃.heap m [(D, o)]) (hws : ∀ b ∈ [D, C, I], ∃ o, s₃.heap.get? b = some o ∧ ¬ isTup o ∧ b ∉ T.map (·.2)) (hX : ∀ b ∈ X, ∃ o, h₀.get? b = some o)
   {Q : Value → Shared → Prop} (hQ : ∀ D' s₅, wpAny (model PR w) A (newTuple [v, .ref D']) (fun y s₆ => PairF T X V Wd [D, C, I] i y s₆.heap ∧ Mv T g [] s₃.heap s₆.heap ∧ Ok s₃ s₆) (fun _ _ => False) s₅ → Q (.ref D') s₅) :
   wpAny (model PR w) A (call (.ref 365) [.int (n : Int) tn]) Q E { s₃ with toks := k } := by
  refine wpAny_call (words_spec (s := { s₃ with toks := k }) LX.LA G j.mv.st r hn fun s₅ D' mv ok nD gD pl => hQ D' s₅ ?_)
  refine qg fun G kG => ?_
  obtain ⟨wits, wep, ew, pw⟩ := pl
  refine kG ?_
  have S₅ := mv.st
  have nE : ∀ b ∈ [D, C, I], D' ≠ b := fun b hb q => by
    obtain ⟨o, e, _⟩ := hws b hb
    rw [← q, nD] at e; cases e
  have hws₅ : ∀ b ∈ [D, C, I], ∃ o, s₅.heap.get? b = some o ∧ ¬ isTup o := fun b hb => by
    obtain ⟨o, e, nt, hT⟩ := hws b hb
    exact ⟨o, mv.keep _ _ e hT (.inl (by exact ni0)), nt⟩
  have pav : Parts (Av T [D, C, I]) s₅.heap wits.toList (wordsF n true) := parts_av S₅ pw hws₅
  have nX : D' ∉ X := fun hm => by
    obtain ⟨o, e⟩ := hX _ hm
    obtain ⟨o', e'⟩ := j.mv.there _ _ e
    rw [nD] at e'; cases e'
  refine wpAny_newTuple ?_
  have mvp := Mv.push S₅ (tupObj [v, .ref D'])
  refine ⟨⟨_, v, D', rfl, fun hm => ?_, S₅.newT (Heap.get?_none_of_le (Nat.le_refl _)), Heap.get?_push_size _ rfl, hv, nX, fun hm => nE _ hm rfl, S₅.notTab ew (by nofun), wits, wep, Heap.get?_push_of_some _ ew, ?_⟩, mv.trans mvp (by exact al0), ⟨ok.1, ok.2⟩⟩
  · obtain ⟨o, e, _⟩ := hws₅ _ hm
    exact szne e rfl
  · rw [hW]
    exact pav.mv S₅ mvp
theorem heads_stmt {X : List Addr} {cl c3 c2 c1 : Addr} {its : Array Value} {ep ic : Nat} {cs : List Nat} {o1 : Obj} {u : Option Value} {Qf : Flow → Shared → Prop} (LX : Lx T K cd mg) (G : Gb T K mg mb g) (r : Rm A 3)
   (j : J T g [] h₀ L s.heap m kn) (hcl : (cl, lstO its ep) ∈ kn) (hm : m "cells" = some (.ref cl)) (hi : IntsAre its.toList (cs.map Int.ofNat)) (hn : cs.length = 6) (hlt : ∀ c ∈ cs, c < 1000000) (hic : kn[ic]? = some (c1, o1)) (d1 : o1.data = .cell u) (n1 : h₀.get? c1 = none) (hX : ∀ b ∈ X, ∃ o, s.heap.get? b = some o) (hc1 : c1 ∈ X)
   (hQ : ∀ (s' : Shared) D its' ep' o', o'.data = .cell (some (.ref D)) → J T g [] h₀ L s'.heap m ((D, lstO its' ep') :: kn.set ic (c1, o')) → Mv T g [c1] s.heap s'.heap → Ok s s' → HX X s'.heap its' ((cs.take 3).map headF) → Qf .next s') :
   wpAny (model PR w) A (exec (stAt (fBody (topSt 24)) 2) (lawE L c3 c2 c1)) Qf (fun _ _ => False) s := by
  have hlen : its.size = cs.length := by have := hi.length; rw [Array.length_toList, List.length_map] at this; exact this
  refine wpAny_Assign_Name ?_
  refine j_listComp (env := lawE L c3 c2 c1) (cl := []) (n := 3) (p := fun _ => true) (F := PairF T X (fun i v => ∃ t, v = .str (mkS (nmL (headF (cs.getD i 0)).1)) t) (fun i => (headF (cs.getD i 0)).2)) j (by decide) (by rfl) ?_ ?_
  · refine Subscript_ ?_
    refine j_local j hm ?_
    refine e_Slice ?_
    refine wpAny_pure ?_
    refine wpAny_Constant_int (i := 3) (k := 0) (pos := ⟨0, 0, 0, 0⟩) ?_
    dsimp only
    obtain ⟨sl1, h₅, eS1, e5, j₅, mv₅, _, n5⟩ := J.pushK j (slObj .none (.int 3 s.toks)) rfl
    rw [← eS1, ← e5]
    refine sub_slice (s := { s with heap := h₅, toks := _ }) (lo := none) (hi := some ((3 : Nat) : Int)) ⟨_, j₅.get (.tail _ hcl), rfl, _, rfl⟩ ⟨_, j₅.get (.head _), rfl, rfl⟩ .none (by constructor) (by lia) ?_
    rw [slicePick_upto']
    dsimp only
    obtain ⟨ln, h₆, eln, e6, j₆, mv₆, nln, n6⟩ := J.pushK j₅ (lstO (its.toList.take 3).toArray 0) rfl
    rw [← eln, ← e6]
    refine src1c (s := s) (s₁ := { s with heap := h₆, toks := _ }) r.h (mv₅.trans mv₆ (by exact al0)) ⟨rfl, id⟩ j₆.mv.st (j₆.get (.head _)) (by simp only [List.size_toArray, List.length_take, Array.length_toList, hlen, hn]; rfl) (fun ws => PairF.stays ws) (by rfl) (by rfl) fun s₂ I D C i s₃ m' its' ep' v ok₂ hi3 hv j₃ hws ok₃ => ?_
    have hv' : its.toList[i]? = some v := by rw [← Array.getElem?_toList, List.getElem?_take] at hv; rw [if_pos hi3] at hv; exact hv
    obtain ⟨tc, hic6, rfl⟩ := ints_nat hi hv'
    have hc := hlt _ (List.mem_of_getElem? (getD_map cs 0 i hic6))
    generalize hcd : cs.getD i 0 = c at hc
    refine Tuple_ (args_cons (wpAny_BinOp (wpAny_BinOp (Constant_str (wpAny_BinOp ?_)))))
    refine e_local (s := { s₃ with toks := _ }) j₃ (v := .int (c : Int) tc) (by rw [if_pos rfl, hcd]) ?_
    refine wpAny_Constant_int (i := 3) (k := 0) (pos := ⟨0, 0, 0, 0⟩) (g_mod (b := 3) (by decide) ?_)
    refine g_rep (c := 46) dot_cps (by lia) fun t₄ k₄ => ?_
    refine Subscript_ (Constant_str (wpAny_BinOp (wpAny_BinOp ?_)))
    refine e_local (s := { s₃ with toks := _ }) j₃ (v := .int (c : Int) tc) (by rw [if_pos rfl, hcd]) ?_
    refine wpAny_Constant_int (i := 3) (k := 0) (pos := ⟨0, 0, 0, 0⟩) (g_div (b := 3) (by decide) (by lia) ?_)
    refine wpAny_Constant_int (i := 3) (k := 0) (pos := ⟨0, 0, 0, 0⟩) (g_mod (b := 3) (by decide) ?_)
    have hk3 : c / 3 % 3 < 3 := Nat.mod_lt _ (by decide)
    refine subTail_builtin (typeIs_str _ _ _) PySem.F.slot_str_getitem.lookup (PySem.P.getItem_str (by simp; lia) (letter_at _ hk3) ?_) (.inl rfl)
    rw [rp_mk, mk_one]
    refine add_mk (fun t₅ k₅ => args_cons (Call_ ?_)) (by rw [List.length_replicate]; show _ + 1 ≤ _; lia)
    refine e_global (s := { s₃ with toks := _ }) G j₃.mv.st LX.gWords ?_
    refine j_callWith (LX.kl 365 (by decide)) (args_cons (wpAny_BinOp ?_))
    refine e_local (s := { s₃ with toks := _ }) j₃ (v := .int (c : Int) tc) (by rw [if_pos rfl, hcd]) ?_
    refine wpAny_Constant_int (i := 9) (k := 0) (pos := ⟨0, 0, 0, 0⟩) (g_div (b := 9) (by decide) (by lia) (args_nil ⟨j₃.mv.st.In G, ?_⟩))
    refine elt_words (s₃ := s₃) (n := c / 9) (i := i) (V := fun i v => ∃ t, v = .str (mkS (nmL (headF (cs.getD i 0)).1)) t) (Wd := fun i => (headF (cs.getD i 0)).2) (v := .str (mkS (List.replicate (c % 3) 46 ++ [letterN (c / 3 % 3)])) t₅) LX G (r.mono (by decide)) (by lia) (by rw [hcd]; rfl) ⟨_, by rw [hcd]; rfl⟩ j₃ hws hX ?_
    exact fun D' s₅ q => args_nil q
  · intro s' D its' ep' ws j' mv' ok' hD gD eD hP
    obtain ⟨hsz, hat⟩ := paired_range hP
    have j₂ := j.addN j' rfl hD eD gD (j'.mv.st.notTab eD (by nofun))
    refine e_storeCell j₂ (ic + 1) (by simpa using hic) d1 (.inr n1) rfl fun h₃ o₃ ho₃ j₃ mv₃ => ?_
    refine hQ { s' with heap := h₃ } D its' ep' o₃ ho₃ j₃ ((mv'.weak (W' := [c1]) (by exact al0)).trans mv₃ (by exact al1 (.inl m1))) ⟨ok'.1, ok'.2⟩ (HX.mv ⟨?_, fun i e he => ?_⟩ j'.mv.st mv₃ (by exact al1 hc1))
    · rw [hsz, List.length_map, List.length_take, hn]; rfl
    · rw [List.getElem?_map, List.getElem?_take] at he
      have hi3 : i < 3 := by
        by_cases q : i < 3
        · exact q
        · rw [if_neg q] at he; cases he
      rw [if_pos hi3, getD_map cs 0 i (by lia)] at he
      obtain rfl := Option.some.inj he
      refine qg fun G kG => ?_
      obtain ⟨v, ev, t, v', wa, rfl, _, _, e4, ⟨tn, rfl⟩, nX, _, _, wits, wep, e9, p⟩ := hat i hi3
      refine kG ?_
      exact ⟨t, tn, wa, ev, e4, nX, wits, wep, e9, parts_any p⟩
theorem hands_stmt {X : List Addr} {cl c3 c2 c1 : Addr} {its : Array Value} {ep ic : Nat} {cs : List Nat} {o1 : Obj} {u : Option Value} {Qf : Flow → Shared → Prop} (LX : Lx T K cd mg) (G : Gb T K mg mb g) (r : Rm A 3)
   (j : J T g [] h₀ L s.heap m kn) (hcl : (cl, lstO its ep) ∈ kn) (hm : m "cells" = some (.ref cl)) (hi : IntsAre its.toList (cs.map Int.ofNat)) (hn : cs.length = 6) (hlt : ∀ c ∈ cs, c < 1000000) (hic : kn[ic]? = some (c2, o1)) (d1 : o1.data = .cell u) (n1 : h₀.get? c2 = none) (hX : ∀ b ∈ X, ∃ o, s.heap.get? b = some o) (hc1 : c2 ∈ X)
   (hQ : ∀ (s' : Shared) D its' ep' o', o'.data = .cell (some (.ref D)) → J T g [] h₀ L s'.heap m ((D, lstO its' ep') :: kn.set ic (c2, o')) → Mv T g [c2] s.heap s'.heap → Ok s s' → NX X s'.heap its' ((cs.drop 3).map handF) → Qf .next s') :
   wpAny (model PR w) A (exec (stAt (fBody (topSt 24)) 3) (lawE L c3 c2 c1)) Qf (fun _ _ => False) s := by
  have hlen : its.size = cs.length := by have := hi.length; rw [Array.length_toList, List.length_map] at this; exact this
  refine wpAny_Assign_Name ?_
  refine j_listComp (env := lawE L c3 c2 c1) (cl := []) (n := 3) (p := fun _ => true) (F := PairF T X (fun i v => ∃ t, v = .int (((handF (cs.getD (3 + i) 0)).1 : Nat) : Int) t) (fun i => (handF (cs.getD (3 + i) 0)).2)) j (by decide) (by rfl) ?_ ?_
  · refine Subscript_ ?_
    refine j_local j hm ?_
    refine e_Slice ?_
    refine wpAny_Constant_int (i := 3) (k := 0) (pos := ⟨0, 0, 0, 0⟩) ?_
    refine wpAny_pure ?_
    dsimp only
    obtain ⟨sl1, h₅, eS1, e5, j₅, mv₅, _, n5⟩ := J.pushK j (slObj (.int 3 s.toks) .none) rfl
    rw [← eS1, ← e5]
    refine sub_slice (s := { s with heap := h₅, toks := _ }) (lo := some ((3 : Nat) : Int)) (hi := none) ⟨_, j₅.get (.tail _ hcl), rfl, _, rfl⟩ ⟨_, j₅.get (.head _), rfl, rfl⟩ (by constructor) .none (by lia) ?_
    rw [pick_from]
    dsimp only
    obtain ⟨ln, h₆, eln, e6, j₆, mv₆, nln, n6⟩ := J.pushK j₅ (lstO (its.toList.drop 3).toArray 0) rfl
    rw [← eln, ← e6]
    refine src1c (s := s) (s₁ := { s with heap := h₆, toks := _ }) r.h (mv₅.trans mv₆ (by exact al0)) ⟨rfl, id⟩ j₆.mv.st (j₆.get (.head _)) (by simp only [List.size_toArray, List.length_drop, Array.length_toList, hlen, hn]) (fun ws => PairF.stays ws) (by rfl) (by rfl) fun s₂ I D C i s₃ m' its' ep' v ok₂ hi3 hv j₃ hws ok₃ => ?_
    have hv' : its.toList[3 + i]? = some v := by rw [← Array.getElem?_toList, List.getElem?_drop] at hv; exact hv
    obtain ⟨tc, hic6, rfl⟩ := ints_nat hi hv'
    have hc := hlt _ (List.mem_of_getElem? (getD_map cs 0 (3 + i) hic6))
    generalize hcd : cs.getD (3 + i) 0 = c at hc
    refine Tuple_ (args_cons (wpAny_BinOp (wpAny_Constant_int (i := 4) (k := 0) (pos := ⟨0, 0, 0, 0⟩) (wpAny_BinOp ?_))))
    refine e_local (s := { s₃ with toks := _ }) j₃ (v := .int (c : Int) tc) (by rw [if_pos rfl, hcd]) ?_
    refine wpAny_Constant_int (i := 12) (k := 0) (pos := ⟨0, 0, 0, 0⟩) (g_mod (b := 12) (by decide) ?_)
    refine g_add (a := 4) (args_cons (Call_ ?_))
    refine e_global (s := { s₃ with toks := _ }) G j₃.mv.st LX.gWords ?_
    refine j_callWith (LX.kl 365 (by decide)) (args_cons (wpAny_BinOp (wpAny_BinOp ?_)))
    refine e_local (s := { s₃ with toks := _ }) j₃ (v := .int (c : Int) tc) (by rw [if_pos rfl, hcd]) ?_
    refine wpAny_Constant_int (i := 12) (k := 0) (pos := ⟨0, 0, 0, 0⟩) (g_div (b := 12) (by decide) (by lia) ?_)
    refine wpAny_Constant_int (i := 256) (k := 0) (pos := ⟨0, 0, 0, 0⟩) (g_mod (b := 256) (by decide) (args_nil ⟨j₃.mv.st.In G, ?_⟩))
    refine elt_words (s₃ := s₃) (n := c / 12 % 256) (i := i) (V := fun i v => ∃ t, v = .int (((handF (cs.getD (3 + i) 0)).1 : Nat) : Int) t) (Wd := fun i => (handF (cs.getD (3 + i) 0)).2) (v := .int ((4 + c % 12 : Nat) : Int) (s₃.toks + 1 + 1 + 1)) LX G (r.mono (by decide)) (by lia) (by rw [hcd]; rfl) ⟨_, by rw [hcd]; rfl⟩ j₃ hws hX ?_
    exact fun D' s₅ q => args_nil q
  · intro s' D its' ep' ws j' mv' ok' hD gD eD hP
    obtain ⟨hsz, hat⟩ := paired_range hP
    have j₂ := j.addN j' rfl hD eD gD (j'.mv.st.notTab eD (by nofun))
    refine e_storeCell j₂ (ic + 1) (by simpa using hic) d1 (.inr n1) rfl fun h₃ o₃ ho₃ j₃ mv₃ => ?_
    refine hQ { s' with heap := h₃ } D its' ep' o₃ ho₃ j₃ ((mv'.weak (W' := [c2]) (by exact al0)).trans mv₃ (by exact al1 (.inl m1))) ⟨ok'.1, ok'.2⟩ (NX.mv ⟨?_, fun i e he => ?_⟩ j'.mv.st mv₃ (by exact al1 hc1))
    · rw [hsz, List.length_map, List.length_drop, hn]
    · rw [List.getElem?_map, List.getElem?_drop] at he
      have hi3 : i < 3 := by
        by_cases q : i < 3
        · exact q
        · rw [List.getElem?_eq_none (by lia)] at he; cases he
      rw [getD_map cs 0 (3 + i) (by lia)] at he
      obtain rfl := Option.some.inj he
      refine qg fun G kG => ?_
      obtain ⟨v, ev, t, v', wa, rfl, _, _, e4, ⟨tn, rfl⟩, nX, _, _, wits, wep, e9, p⟩ := hat i hi3
      refine kG ?_
      exact ⟨t, tn, wa, ev, e4, nX, wits, wep, e9, parts_any p⟩
theorem names_stmt {X : List Addr} {hl c3 c2 c1 : Addr} {its : Array Value} {ep ic : Nat} {es : List Ent} {o1 o3 : Obj} {u : Option Value} {Qf : Flow → Shared → Prop} (r : Rm A 3)
   (j : J T g [] h₀ L s.heap m kn) (hhl : (hl, lstO its ep) ∈ kn) (h1 : (c1, o1) ∈ kn) (d1 : o1.data = .cell (some (.ref hl))) (hH : HX X s.heap its es) (hn : es.length ≤ 10) (hic : kn[ic]? = some (c3, o3)) (d3 : o3.data = .cell u) (n3 : h₀.get? c3 = none)
   (hQ : ∀ (s' : Shared) D its' ep' o', o'.data = .cell (some (.ref D)) → J T g [] h₀ L s'.heap m ((D, lstO its' ep') :: kn.set ic (c3, o')) → Mv T g [c3] s.heap s'.heap → Ok s s' → StrsAre its'.toList (es.map fun e => mkS (nmL e.1)) → Qf .next s') :
   wpAny (model PR w) A (exec (stAt (fBody (topSt 24)) 4) (lawE L c3 c2 c1)) Qf (fun _ _ => False) s := by
  obtain ⟨tn, wa, hT, hW⟩ := hH.at.tups
  refine wpAny_Assign_Name ?_
  refine j_listComp (env := lawE L c3 c2 c1) (cl := []) (n := es.length) (p := fun _ => true) (F := fun _ i y _ => ∃ t, y = .str (mkS (nmL (es.getD i noE).1)) t) j (by lia) (by rfl) ?_ ?_
  · refine e_cell (s := s) (j.get h1) d1 rfl ?_
    refine src2 (s := s) (s₁ := s) r.h (Mv.refl j.mv.st) ⟨rfl, id⟩ j.mv.st (j.get hhl) hT (fun ws => Stays.pure _) (by rfl) (by rfl) (by rfl) fun s₂ I D C i s₃ m its' ep' o2 hi j₃ hI ok => ?_
    refine e_local (s := s₃) j₃ (ine (by decide) (ipo rfl)) ?_
    exact ⟨⟨_, rfl⟩, Mv.refl j₃.mv.st, rfl, id⟩
  · intro s' D its' ep' ws j' mv' ok' hD gD eD hP
    have hS := strs_of hP
    rw [map_range_getD es noE (fun e => mkS (nmL e.1))] at hS
    have j₂ := j.addN j' rfl hD eD gD (j'.mv.st.notTab eD (by nofun))
    refine e_storeCell j₂ (ic + 1) (by simpa using hic) d3 (.inr n3) rfl fun h₃ o₃ ho₃ j₃ mv₃ => ?_
    exact hQ { s' with heap := h₃ } D its' ep' o₃ ho₃ j₃ ((mv'.weak (W' := [c3]) (by exact al0)).trans mv₃ (by exact al1 (.inl m1))) ⟨ok'.1, ok'.2⟩ hS
structure SX (X : List Addr) (h : Heap) (its : Array Value) (se : List SE) : Prop where
  sz : its.size = se.length
  at_ : ∀ (i : Nat) (e : SE), se[i]? = some e → ∃ t tn wa tk, its[i]? = some (.ref t) ∧ h.get? t = some (tupObj [.str (mkS (nmL e.1.1)) tn, .ref wa, .int (e.2 : Int) tk]) ∧ WL X h wa e.1.2
theorem SX.mv {X : List Addr} {its : Array Value} {se : List SE} (x : SX X h its se) (S : St T g h) (mv : Mv T g W h h') (hW : ∀ b ∈ W, b ∈ X) : SX X h' its se where
  sz := x.sz
  at_ := fun i e he => by
    refine qg fun G kG => ?_
    obtain ⟨t, tn, wa, tk, e1, e2, e3⟩ := x.at_ i e he
    refine kG ?_
    exact ⟨t, tn, wa, tk, e1, mv.keep _ _ e2 (S.notTab e2 (by nofun)) (.inr ⟨rfl, _, _, rfl⟩), e3.mv S mv hW⟩
theorem SX.at {X : List Addr} {its : Array Value} {se : List SE} (x : SX X h its se) : SAt h its se where
  sz := x.sz
  at_ := fun i e he => by
    refine qg fun G kG => ?_
    obtain ⟨t, tn, wa, tk, e1, e2, _, wits, wep, e3, e4⟩ := x.at_ i e he
    refine kG ?_
    exact ⟨t, wa, tn, tk, wits, wep, e1, e2, e3, e4⟩
theorem sent1_stmt {X : List Addr} {hl c3 c2 c1 : Addr} {its : Array Value} {ep ic : Nat} {es : List Ent} {o1 : Obj} {Qf : Flow → Shared → Prop} (r : Rm A 3)
   (j : J T g [] h₀ L s.heap m kn) (hhl : (hl, lstO its ep) ∈ kn) (h1 : (c1, o1) ∈ kn) (d1 : o1.data = .cell (some (.ref hl))) (hH : HX X s.heap its es) (hn : es.length ≤ 10) (hLX : L ∈ X)
   (hQ : ∀ (s' : Shared) D its' ep', J T g [] h₀ L s'.heap (fun z => if z = "sent" then some (.ref D) else m z) ((D, lstO its' ep') :: kn) → Mv T g [L] s.heap s'.heap → Ok s s' → s.heap.get? D = none → SX (D :: X) s'.heap its' (es.map fun e => (e, 3)) → Qf .next s') :
   wpAny (model PR w) A (exec (stAt (fBody (topSt 24)) 5) (lawE L c3 c2 c1)) Qf (fun _ _ => False) s := by
  refine qg fun G kG => ?_
  obtain ⟨tn, wa, hT, hW⟩ := hH.at.tups
  refine kG ?_
  refine j_assignComp (env := lawE L c3 c2 c1) (cl := []) (n := es.length) (p := fun _ => true) (F := TupF T [L] fun i vs => ∃ t, vs = [.str (mkS (nmL (es.getD i noE).1)) (tn i), .ref (wa i), .int 3 t]) j (by lia) (by rfl) ?_ ?_
  · refine e_cell (s := s) (j.get h1) d1 rfl ?_
    refine src2 (s := s) (s₁ := s) r.h (Mv.refl j.mv.st) ⟨rfl, id⟩ j.mv.st (j.get hhl) hT (fun ws => TupF.stays ws) (by rfl) (by rfl) (by rfl) fun s₂ I D C i s₃ m its' ep' o2 hi j₃ hI ok => ?_
    refine Tuple_ (args_cons (e_local (s := s₃) j₃ (ine (by decide) (ipo rfl)) (args_cons (e_local (s := s₃) j₃ (ipo rfl) (args_cons (wpAny_Constant_int (i := 3) (k := 0) (pos := ⟨0, 0, 0, 0⟩) (args_nil ?_)))))))
    refine qg fun G kG => ?_
    obtain ⟨oC, _, _, eC, _⟩ := id j₃.ns
    refine kG ?_
    obtain ⟨oI, eI⟩ := hI
    refine qg fun G kG => ?_
    obtain ⟨oL, _, _, eL, _⟩ := id j.ns
    refine kG ?_
    obtain ⟨oL', eL'⟩ := j₃.mv.there _ _ eL
    refine wpAny_newTuple ?_
    exact ⟨⟨_, _, rfl, Heap.get?_push_size _ rfl, ⟨_, rfl⟩, ni3 (szne (j₃.get (.head _))) (szne eC) (szne eI), ni1 (szne eL'), j₃.mv.st.newT (Heap.get?_none_of_le (Nat.le_refl _))⟩, Mv.push j₃.mv.st _, rfl, id⟩
  · intro s' D its' ep' ws j' mv' ok' hD gD eD hP
    obtain ⟨hsz, hat⟩ := paired_range hP
    refine hQ s' D its' ep' (j.addN j' rfl hD eD gD (j'.mv.st.notTab eD (by nofun))) mv' ok' hD ⟨by simp only [hsz, List.length_map], fun i e he => ?_⟩
    rw [List.getElem?_map] at he
    have hi : i < es.length := by
      rcases Nat.lt_or_ge i es.length with q | q
      · exact q
      · rw [List.getElem?_eq_none q] at he; cases he
    rw [getD_map es noE i hi] at he
    obtain rfl := Option.some.inj he
    refine qg fun G kG => ?_
    obtain ⟨t, tn', wa', e1, e2, e3⟩ := hH.at_ i _ (getD_map es noE i hi)
    refine kG ?_
    obtain ⟨t', f1, f2⟩ := hT.at_ i hi
    have ewa : wa i = wa' := by
      rw [e1] at f1
      obtain rfl : t = t' := by simpa using f1
      rw [e2] at f2
      have q : tn i = tn' ∧ wa i = wa' := by simpa [tupObj] using (congrArg Obj.data (Option.some.inj f2)).symm
      exact q.2
    refine qg fun G kG => ?_
    obtain ⟨v, ev, hh, ⟨t, vs, rfl, q2, ⟨t3, rfl⟩, q4, q5, q6⟩, kp⟩ := hat i hi
    refine kG ?_
    refine ⟨t, tn i, wa i, t3, ev, kp t _ q2 (fun q => q5 (by exact mE q)) q4, ?_⟩
    rw [ewa]
    exact (e3.cons hD).mv j.mv.st mv' (by exact al1 (.tail _ hLX))
end
end Mine
end
section
open PySem PySem.W PySem.Calls PyProof.Rows Builtin Builtin.ObjectAttr Builtin.Str
namespace Mine
theorem smallR (n : Nat) (h : n ≤ 100000) : Builtin.Range.small 0 (n : Int) 1 = true ∧ Builtin.Range.rangeSize 0 (n : Int) 1 = n := by
  have e : Builtin.Range.rangeSize 0 (n : Int) 1 = n := by unfold Builtin.Range.rangeSize; simp; (clear h; lia)
  refine ⟨?_, e⟩
  unfold Builtin.Range.small
  rw [e]
  simp [Builtin.Range.rangeFitsLong]
  (clear e; omega)
section
variable {T : Tabs} {K : Frag} {cd : ClassData} {mg mb : Str → Option Value} {w : World} {A : Around} {s : Shared} {g h₀ h h' h₁ h₂ : Heap} {W W' : List Addr} {L C : Addr} {m : Str → Option Value} {kn : List (Addr × Obj)} {R : Result → Shared → Prop} {E : Value → Shared → Prop} {prog : Program}
theorem e_rangeN {env : Env} {q pc pos : Pos} {kk : Nat} {n : Nat} {Q : Value → Shared → Prop} (G : Gb T K mg mb g) (GM : Gm mg) (j : J T g W h₀ L s.heap m kn) (hn : n ≤ 100000)
    (h : ∀ rg h' tk, J T g W h₀ L h' m kn → Mv T g [] s.heap h' → (∃ t u v, IsRange h' rg 0 n 1 t u v) → s.heap.get? rg = none → Q (.ref rg) { s with heap := h', toks := tk })
    (hg : env.globals = mainGlobals := by rfl) (hbi : env.builtins = builtinsNs := by rfl) (hk : env.scope.kind = .function := by rfl) (hl : env.kindOf "range" = some .globalImplicit := by rfl) :
    wpAny (model prog w) A (eval (.Call (.Name "range" q) [.Constant (.int n) kk pc] [] pos) env) Q E s := by
  refine Call_ ?_
  refine e_builtin G j.mv.st GM.range boot_range' ?_ (by decide) hg hbi hk hl (by decide)
  refine PyProof.Rows.callWith_type1 (args_cons (wpAny_Constant_int (args_nil ?_)))
  refine call_range_1 ?_
  refine qg fun G kG => ?_
  obtain ⟨rg, h', e1, e2, j', mv', _, n'⟩ := J.pushK j { cls := .type "range", data := .fields #[.int 0 (s.toks + 1), .int n s.toks, .int 1 (s.toks + 1 + 1)] } rfl
  refine kG ?_
  show Q (.ref s.heap.objs.size) { s with heap := s.heap.push _, toks := _ }
  rw [← e1]
  have := h rg h' (s.toks + 1 + 1 + 1) (j'.sub (List.sublist_cons_self _ _)) mv' ⟨_, _, _, j'.get (.head _)⟩ n'
  rw [e2] at this
  exact this
theorem src_rangeHT {elt c' : Expr} {p : Nat → Bool} {env : Env} {scope : Scope} {cl : List (Str × Addr)} {n : Nat} {F : List Addr → Nat → Value → Heap → Prop} {s₁ : Shared} {ax : Addr} {a b c : Int} {t u v : Tok} {x : Str} {px : Pos}
    (hh : A.handled = none) (mv₁ : Mv T g [] s.heap s₁.heap) (ok₁ : Ok s s₁) (S₁ : St T g s₁.heap) (hr : IsRange s₁.heap ax a b c t u v) (hsm : Builtin.Range.small a b c = true) (hn : Builtin.Range.rangeSize a b c = n)
    (hx : scope.names.lookup x = some .local) (hk : scope.kind = .function) (hF : ∀ ws, Stays T ws (F ws))
    (body : ∀ s₂, Ok s₁ s₂ → ∀ D C I i (s₃ : Shared) (m : Str → Option Value) tv its ep, i < n → J T g [] s.heap C s₃.heap (fun y => if y = x then some (.int (a + i * c) tv) else m y) [(D, lstO its ep)] → Mv T g [] s.heap s₃.heap → Ok s₂ s₃ → (∃ o, s₃.heap.get? I = some o) →
      wpAny (model prog w) A (isTrue c' (compEnvC scope cl C env) (eval c' (compEnvC scope cl C env))) (fun ok s₄ => ok = p i ∧ Mv T g [] s₃.heap s₄.heap ∧ Ok s₃ s₄ ∧ (p i = true → wpAny (model prog w) A (eval elt (compEnvC scope cl C env)) (fun y s₅ => F (D :: C :: [I]) i y s₅.heap ∧ Mv T g [] s₄.heap s₅.heap ∧ Ok s₄ s₅) (fun _ _ => False) s₄)) (fun _ _ => False) s₃) :
    wpAny (model prog w) A (pyIter (.ref ax)) (Src prog w A T g s elt (.Name x px) [c'] env scope cl n p F) E s₁ := by
  refine wpAny_pyIter_range hr hsm ?_
  rw [hn]
  have nI : s₁.heap.get? s₁.heap.objs.size = none := Heap.get?_none_of_le (Nat.le_refl _)
  have mv₂ : Mv T g [] s.heap (s₁.heap.push { cls := .type "range_iterator", data := .fields #[rawInt a, rawInt (n : Int), rawInt c] }) := mv₁.keeps (fun b o e => Heap.get?_push_of_some _ e) (by rw [Heap.size_push]; exact Nat.le_succ_of_le S₁.le)
  have noT : s₁.heap.objs.size ∉ T.map (·.2) := fun hm => by
    obtain ⟨q, hq, e⟩ := List.mem_map.mp hm
    obtain ⟨ps, ps₀, x, y, z⟩ := S₁.tab q hq
    have := Heap.lt_size y.2
    rw [e] at this
    exact absurd this (Nat.lt_irrefl _)
  have Wk := Walks.range (prog := prog) (w := w) hh s₁.heap.objs.size a c n
  refine ⟨mv₂, ⟨ok₁.1, ok₁.2⟩, s₁.heap.objs.size, _, _, _, _, rfl, ?_, ?_, fun C hC => Turns.name Wk (fun b hb => ?_) hC hk (lookup_relabel_local hx), fun D C => hF _, ?_⟩
  · have e1 : a + ((0 : Nat) : Int) * c = a := by simp
    have e2 : (n : Int) - ((0 : Nat) : Int) = n := by exact rfl
    rw [e1, e2]
    exact Heap.get?_push_size _ rfl
  · intro b hb
    show b < (s₁.heap.push _).objs.size ∧ _
    rw [Heap.size_push]
    rw [List.mem_singleton.mp hb]
    exact ⟨Nat.lt_succ_self _, noT⟩
  · rw [List.mem_singleton.mp hb]
    exact none_back mv₁ nI
  · intro D C i s₃ m m' its' ep' hi hu j mv hs ok
    refine qg fun G kG => ?_
    obtain ⟨v, ⟨tv, rfl⟩, rfl⟩ := hu
    refine kG ?_
    exact wpAny_tests_one (body _ ⟨rfl, id⟩ D C _ i s₃ m tv its' ep' hi j mv ok ⟨_, hs⟩)
theorem SX.app {X : List Addr} {its its' : Array Value} {se se' : List SE} (x : SX X h its se) (y : SX X h its' se') : SX X h (its ++ its') (se ++ se') where
  sz := by rw [Array.size_append, x.sz, y.sz, List.length_append]
  at_ := fun i e he => by
    rcases Nat.lt_or_ge i se.length with q | q
    · rw [List.getElem?_append_left q] at he
      obtain ⟨t, tn, wa, tk, e1, r⟩ := x.at_ i e he
      refine ⟨t, tn, wa, tk, ?_, r⟩
      rw [Array.getElem?_append_left (by rw [x.sz]; exact q)]
      exact e1
    · rw [List.getElem?_append_right q] at he
      obtain ⟨t, tn, wa, tk, e1, r⟩ := y.at_ _ e he
      refine ⟨t, tn, wa, tk, ?_, r⟩
      rw [Array.getElem?_append_right (by rw [x.sz]; exact q), x.sz]
      exact e1
noncomputable def isX (v : Value) : Bool := match v with | .str z _ => z == (".X" : Str) | _ => false
theorem any_isX {vs : List Value} {zs : List Str} (h : StrsAre vs zs) : vs.any isX = zs.any (· == (".X" : Str)) := by
  induction h with
  | nil => rfl
  | cons y t _ ih => rw [List.any_cons, List.any_cons, ih]; rfl
noncomputable def keepX (nox : Bool) (i : Nat) : Bool := i != 0 || nox
theorem sent2_stmt {X : List Addr} {sl hl nl c3 c2 c1 : Addr} {sits hits nits : Array Value} {sep hep nep ic : Nat} {se : List SE} {hs : List (Nat × WS)} {ns : List Str} {o2 o3 : Obj} {Qf : Flow → Shared → Prop} (GM : Gm mg) (G : Gb T K mg mb g) (r : Rm A 3)
   (j : J T g [] h₀ L s.heap m ((sl, lstO sits sep) :: kn)) (hm : m "sent" = some (.ref sl)) (nsl : h₀.get? sl = none) (hhl : (hl, lstO hits hep) ∈ kn) (hnl : (nl, lstO nits nep) ∈ kn) (h2 : (c2, o2) ∈ kn) (d2 : o2.data = .cell (some (.ref hl))) (h3 : (c3, o3) ∈ kn) (d3 : o3.data = .cell (some (.ref nl)))
   (hS : SX X s.heap sits se) (hN : NX X s.heap hits hs) (hh3 : hs.length = 3) (hns : StrsAre nits.toList ns) (hnn : ns.length ≤ 10) (hsn : se.length ≤ 10) (hLX : L ∈ X) (hSX : sl ∈ X)
   (hQ : ∀ (s' : Shared) its' ep', J T g [] h₀ L s'.heap (fun z => if z = "sent" then some (.ref sl) else m z) ((sl, lstO its' ep') :: kn) → Mv T g [sl, L] s.heap s'.heap → Ok s s' → SX X s'.heap its' (se ++ ((List.range 3).filter (keepX !(ns.any (· == (".X" : Str))))).map fun i => ((xQ, (hs.getD i (0, [])).2), 3 - i)) → Qf .next s') :
   wpAny (model PR w) A (exec (stAt (fBody (topSt 24)) 6) (lawE L c3 c2 c1)) Qf (fun _ _ => False) s := by
  obtain ⟨ht, htk, hwa, hpk⟩ := hN.pick
  refine wpAny_AugAssign_Name (wpAny_loadName_local rfl rfl j.ns hm ?_)
  refine j_listComp (env := lawE L c3 c2 c1) (cl := [("names", c3), ("hands", c2)]) (n := 3) (p := keepX !(ns.any (· == (".X" : Str)))) (F := TupF T [] fun i vs => ∃ t1 t3, vs = [.str (mkS [46, 120]) t1, .ref (hwa i), .int ((3 - i : Nat) : Int) t3]) j (by decide) (by rfl) ?_ ?_
  · refine e_rangeN G GM j (by decide) fun rg h₁ t₁ j₁ mv₁ hr n₁ => ?_
    refine qg fun G kG => ?_
    obtain ⟨q1, q2, q3, hr⟩ := hr
    refine kG ?_
    obtain ⟨sm1, sm2⟩ := smallR 3 (by decide)
    refine src_rangeHT (s := s) (s₁ := { s with heap := h₁, toks := t₁ }) r.h mv₁ ⟨rfl, id⟩ j₁.mv.st hr sm1 sm2 (by rfl) (by rfl) (fun ws => TupF.stays ws) fun s₂ ok₂ D' C' I i s₄ m₄ tv its₄ ep₄ hi4 j₄ mv₄ ok₄ hI => ?_
    have ei : (0 : Int) + ((i : Nat) : Int) * 1 = (i : Int) := by lia
    have k4 : ∀ {b o}, (b, o) ∈ kn → s₄.heap.get? b = some o := fun hb => mv₄.keep _ _ (j.has _ (.tail _ hb)).1 (j.has _ (.tail _ hb)).2.2.1 (.inl (by exact ni0))
    refine wpAny_mono (Q := fun ok s' => ok = keepX (!(ns.any (· == (".X" : Str)))) i ∧ ∃ k, s' = { s₄ with toks := k }) ?_ ?_ fun _ _ e => e
    · refine PyProof.Rows.isTrue_or (wpAny_isTrue_value (e_local (s := s₄) j₄ (v := .int ((0 : Int) + (i : Int) * 1) tv) (ipo rfl) (PySem.P.truthy_int ?_)))
      rw [ei]
      by_cases i0 : i = 0
      · subst i0
        rw [if_neg (by decide)]
        refine PyProof.Rows.isTrue_or (wpAny_isTrue_Compare1 (Constant_str ?_))
        refine e_cell (s := { s₄ with toks := _ }) (k4 h3) d3 rfl ?_
        refine PySem.SeqAt.notIn_listAt (s := { s₄ with toks := _ }) isX ⟨_, k4 hnl, rfl, _, rfl⟩ (fun y hy => ?_) (wpAny_truthy_bool ?_)
        · obtain ⟨k, hk, rfl⟩ := Array.mem_iff_getElem.mp hy
          obtain ⟨z, t, e1, e2⟩ := StrsAre.at' hns (i := k) (by rw [Array.getElem?_toList]; exact Array.getElem?_eq_getElem hk)
          rw [e2]
          exact PySem.SeqAt.EqAt.str_str _ _ _ _
        · rw [show nits.any isX = ns.any (· == (".X" : Str)) from (Array.any_toList ..).symm.trans (any_isX hns)]
          cases ns.any (· == (".X" : Str)) with
          | true => exact PyProof.Rows.isTrue_or_nil ⟨rfl, _, rfl⟩
          | false => exact ⟨rfl, _, rfl⟩
      · rw [if_pos (by simpa using i0)]
        refine ⟨?_, _, rfl⟩
        unfold keepX
        rw [show (i != 0) = true by simpa using i0]; rfl
    rintro ok _ ⟨rfl, k, rfl⟩
    refine ⟨rfl, Mv.refl j₄.mv.st, ⟨rfl, id⟩, fun _ => ?_⟩
    refine qg fun G kG => ?_
    obtain ⟨e1, e2, e3⟩ := hpk i (by lia)
    refine kG ?_
    have e4 : s₄.heap.get? (ht i) = _ := mv₄.keep _ _ e2 (j.mv.st.notTab e2 (by nofun)) (.inr ⟨rfl, _, _, rfl⟩)
    refine Tuple_ (args_cons (Constant_str (args_cons (Subscript_ (Subscript_ ?_)))))
    refine e_cell (s := { s₄ with toks := _ }) (k4 h2) d2 rfl ?_
    refine e_local (s := { s₄ with toks := _ }) j₄ (v := .int ((0 : Int) + (i : Int) * 1) tv) (ipo rfl) ?_
    rw [ei]
    refine subTail_builtin (T := "list") ⟨_, k4 hhl, rfl⟩ list_getitem_lookup (wpAny_getItem_list (s := { s₄ with toks := _ }) ⟨_, k4 hhl, rfl, _, rfl⟩ (by lia) (by lia) (by simp only [Int.toNat_natCast]; exact e1) ?_) (.inl rfl)
    refine wpAny_Constant_int (i := 1) (k := 0) (pos := ⟨0, 0, 0, 0⟩) ?_
    refine subTail_builtin (T := "tuple") ⟨_, e4, rfl⟩ slot_tuple_getitem.lookup (PyProof.Rows.getItem_tuple (s := { s₄ with toks := _ }) (j := 1) (x := .ref (hwa i)) ⟨_, e4, rfl, _, rfl⟩ (by decide) (by decide) (by rfl) (by rfl) ?_) (.inl rfl)
    refine args_cons (wpAny_BinOp (wpAny_Constant_int (i := 3) (k := 0) (pos := ⟨0, 0, 0, 0⟩) ?_))
    refine e_local (s := { s₄ with toks := _ }) j₄ (v := .int ((0 : Int) + (i : Int) * 1) tv) (ipo rfl) (PySem.P.sub_int ?_)
    rw [show (3 : Int) - (0 + (i : Int) * 1) = ((3 - i : Nat) : Int) by lia, dotx_mk]
    refine args_nil (wpAny_newTuple ?_)
    refine qg fun G kG => ?_
    obtain ⟨oC, _, _, eC, _⟩ := id j₄.ns
    refine kG ?_
    obtain ⟨oI, eI⟩ := hI
    exact ⟨⟨_, _, rfl, Heap.get?_push_size _ rfl, ⟨_, _, rfl⟩, ni3 (szne (j₄.get (.head _))) (szne eC) (szne eI), ni0, j₄.mv.st.newT (Heap.get?_none_of_le (Nat.le_refl _))⟩, Mv.push j₄.mv.st _, rfl, id⟩
  · intro s' D its' ep' ws j' mv' ok' hD gD eD hP
    obtain ⟨hsz', hat⟩ := paired_at hP
    have hsz : its'.size = ((List.range 3).filter (keepX !(ns.any (· == (".X" : Str))))).length := by rw [← Array.length_toList]; exact hsz'.symm
    have hl3 : ((List.range 3).filter (keepX !(ns.any (· == (".X" : Str))))).length ≤ 3 := List.length_filter_le ..
    have hS' : SX X s'.heap its' (((List.range 3).filter (keepX !(ns.any (· == (".X" : Str))))).map fun i => ((xQ, (hs.getD i (0, [])).2), 3 - i)) := ⟨by simp only [List.length_map, hsz], fun i e he => by
      rw [List.getElem?_map] at he
      cases hq : ((List.range 3).filter (keepX !(ns.any (· == (".X" : Str)))))[i]? with
      | none => rw [hq] at he; cases he
      | some a =>
        rw [hq] at he
        obtain rfl := Option.some.inj he
        have ha : a < hs.length := by rw [hh3]; exact List.mem_range.mp (List.mem_filter.mp (List.mem_of_getElem? hq)).1
        refine qg fun G kG => ?_
        obtain ⟨v, ev, t, vs, rfl, f2, ⟨t1, t3, rfl⟩, _⟩ := hat i a hq
        refine kG ?_
        exact ⟨t, t1, hwa a, t3, by rw [← Array.getElem?_toList]; exact ev, f2, (hpk a ha).2.2.mv j.mv.st mv' (by exact al0)⟩⟩
    have hS₁ := (hS.mv j.mv.st mv' (by exact al0)).app hS'
    refine iadd_list (s := s') (j'.get (.head _)) eD (by rw [hS.sz, hsz]; lia) ?_
    obtain ⟨ep2, ec⟩ := mapSeq_lst sits (sits ++ its') sep (fun x => x ++ its') rfl
    have j₃ := j'.update 0 rfl (.inr nsl) (by exact tnL) ec rfl
    have mv₃ := j'.updMv (.head _) (by exact tnL) ec rfl
    revert j₃ mv₃
    show ∀ _ _, _
    generalize s'.heap.update sl _ = h₃
    intro j₃ mv₃
    refine j_storeK (s := { s' with heap := h₃ }) j₃ fun h₄ t₄ j₄ mv₄ => ?_
    have mvA := ((mv'.weak (W' := [sl, L]) (by exact al0)).trans mv₃ (by exact al1 (.inl m1))).trans mv₄ (by exact al1 (.inl m2))
    exact hQ { s' with heap := h₄, toks := t₄ } _ ep2 j₄ mvA ⟨ok'.1, ok'.2⟩ ((hS₁.mv j'.mv.st mv₃ (by exact al1 hSX)).mv j₃.mv.st mv₄ (by exact al1 hLX))
theorem told_stmt {X : List Addr} {sl hl c3 c2 c1 : Addr} {sits hits : Array Value} {sep hep : Nat} {se : List SE} {p0 p1 p2 : Nat × WS} {o2 : Obj} {Qf : Flow → Shared → Prop} (LX : Lx T K cd mg) (G : Gb T K mg mb g) (r : Rm A 6)
   (j : J T g [] h₀ L s.heap m kn) (hsl : (sl, lstO sits sep) ∈ kn) (hm : m "sent" = some (.ref sl)) (hhl : (hl, lstO hits hep) ∈ kn) (h2 : (c2, o2) ∈ kn) (d2 : o2.data = .cell (some (.ref hl)))
   (hS : SX X s.heap sits se) (hN : NX X s.heap hits [p0, p1, p2]) (hg : ∀ e ∈ se, GoodQ e.1.1 ∧ GoodV e.1.2 ∧ e.2 ≤ 3) (hn : se.length ≤ 10)
   (hQ : ∀ (s' : Shared) t u v, J T g [] h₀ L s'.heap (fun z => if z = "told" then some (.ref t) else m z) kn → Mv T g [L] s.heap s'.heap → Ok s s' → s'.heap.get? t = some (tupObj [.str (mkS (se.flatMap (mailT (p2.1 : Int)))) u, .str (mkS (se.flatMap pageT ++ [13, 10])) v]) → Qf .next s') :
   wpAny (model PR w) A (exec (stAt (fBody (topSt 24)) 7) (lawE L c3 c2 c1)) Qf (fun _ _ => False) s := by
  obtain ⟨t, tk, wa, e1, e2, e3⟩ := hN.at_ 2 p2 rfl
  refine wpAny_Assign_Name (Call_ (j_global (s := s) G j LX.gTold ?_))
  refine j_callWith (LX.kl 394 (by decide)) (args_cons (j_local (s := s) j hm (args_cons (Subscript_ (Subscript_ ?_)))))
  refine e_cell (s := s) (j.get h2) d2 rfl ?_
  refine wpAny_Constant_int (i := 2) (k := 0) (pos := ⟨0, 0, 0, 0⟩) ?_
  refine subTail_builtin (T := "list") ⟨_, j.get hhl, rfl⟩ list_getitem_lookup (wpAny_getItem_list (s := { s with toks := _ }) (k := 2) ⟨_, j.get hhl, rfl, _, rfl⟩ (by decide) (by decide) e1 ?_) (.inl rfl)
  refine wpAny_Constant_int (i := 0) (k := 0) (pos := ⟨0, 0, 0, 0⟩) ?_
  refine subTail_builtin (T := "tuple") ⟨_, e2, rfl⟩ slot_tuple_getitem.lookup (PyProof.Rows.getItem_tuple (s := { s with toks := _ }) (j := 0) (x := .int (p2.1 : Int) tk) ⟨_, e2, rfl, _, rfl⟩ (by decide) (by decide) (by rfl) (by rfl) ?_) (.inl rfl)
  refine args_nil ⟨j.mv.st.In G, wpAny_call ?_⟩
  refine told_spec (s := { s with toks := _ }) LX G j.mv.st r (j.get hsl) hS.at hg hn fun s₁ t₁ u v mv₁ ok₁ ht nt => ?_
  have j₁ := j.call0 mv₁
  refine j_storeK (s := s₁) j₁ fun h₂ t₂ j₂ mv₂ => ?_
  exact hQ { s₁ with heap := h₂, toks := t₂ } t₁ u v j₂ ((mv₁.weak (W' := [L]) (by exact al0)).trans mv₂ (by exact al1 (.inl m1))) ⟨ok₁.1, ok₁.2⟩ (mv₂.keep _ _ ht (mv₁.st.notTab ht (by nofun)) (.inr ⟨rfl, _, _, rfl⟩))
theorem tup2_eqAt {l b : Addr} {x y : Str} {t1 t2 u1 u2 : Tok} (hl : s.heap.get? l = some (tupObj [.str x t1, .str y t2])) (hb : s.heap.get? b = some (tupObj [.str x u1, .str y u2])) (hu : A.units < cLine) : PySem.SeqAt.EqAt A s (.ref l) (.ref b) true := by
  by_cases q : l = b
  · subst q; exact PySem.SeqAt.EqAt.same _
  · have := PySem.SeqAt.RcAt.tuples (A := A) (s := s) (e := fun _ => true) ⟨_, hl, rfl, _, rfl⟩ ⟨_, hb, rfl, _, rfl⟩ hu (fun j h1 h2 => by
      have str : ∀ (z : Str) (t u : Tok), PySem.SeqAt.EqAt A.in1 s (.str z t) (.str z u) true := fun z t u => by
        have := PySem.SeqAt.EqAt.str_str (A := A.in1) (s := s) z t z u
        rw [beq_self_eq_true] at this
        exact this
      match j, h1 with
      | 0, _ => exact str _ _ _
      | 1, _ => exact str _ _ _)
    exact PySem.SeqAt.EqAt.of_refs q this
theorem src_tup {elt : Expr} {env : Env} {scope : Scope} {cl : List (Str × Addr)} {n : Nat} {F : List Addr → Nat → Value → Heap → Prop} {s₁ : Shared} {ax : Addr} {vs : List Value} {x : Str} {px : Pos} (hh : A.handled = none) (mv₁ : Mv T g [] s.heap s₁.heap) (ok₁ : Ok s s₁) (S₁ : St T g s₁.heap) (hax : s₁.heap.get? ax = some (tupObj vs)) (hn : vs.length = n) (hF : ∀ ws, Stays T ws (F ws))
    (hx : scope.names.lookup x = some .local) (hk : scope.kind = .function)
    (body : ∀ (s₂ : Shared) (I D C : Addr) (i : Nat) (s₃ : Shared) (m : Str → Option Value) (its' : Array Value) (ep' : Nat) (v : Value), Ok s₁ s₂ → i < n → vs[i]? = some v → J T g [] s.heap C s₃.heap (fun q => if q = x then some v else m q) [(D, lstO its' ep')] → (∃ o, s₃.heap.get? I = some o) → Ok s₂ s₃ →
      wpAny (model prog w) A (eval elt (compEnvC scope cl C env)) (fun y s₅ => F [D, C, I] i y s₅.heap ∧ Mv T g [] s₃.heap s₅.heap ∧ Ok s₃ s₅) (fun _ _ => False) s₃) :
    wpAny (model prog w) A (pyIter (.ref ax)) (Src prog w A T g s elt (.Name x px) [] env scope cl n (fun _ => true) F) E s₁ := by
  subst hn
  refine wpAny_pyIter_tuple ⟨_, hax, rfl, _, rfl⟩ ?_
  have hne : ax ≠ s₁.heap.objs.size := Nat.ne_of_lt (Heap.lt_size hax)
  have nI : s₁.heap.get? s₁.heap.objs.size = none := Heap.get?_none_of_le (Nat.le_refl _)
  have mv₂ : Mv T g [] s.heap (s₁.heap.push { cls := .type "tuple_iterator", data := .fields #[.ref ax, .int 0 0] }) := mv₁.keeps (fun b o e => Heap.get?_push_of_some _ e) (by rw [Heap.size_push]; exact Nat.le_succ_of_le S₁.le)
  have Wk := Walks.tuple (prog := prog) (w := w) hh s₁.heap.objs.size ax hne vs.toArray
  refine ⟨mv₂, ⟨ok₁.1, ok₁.2⟩, s₁.heap.objs.size, _, _, _, _, rfl, ⟨⟨_, Heap.get?_push_size _ rfl, rfl, rfl⟩, ⟨_, Heap.get?_push_of_some _ hax, rfl, _, rfl⟩⟩, ?_, fun C hC => Turns.name Wk (al1 (none_back mv₁ nI)) hC hk (lookup_relabel_local hx), fun D C => hF _, ?_⟩
  · refine al2 ⟨?_, S₁.newT nI⟩ ⟨?_, S₁.notTab hax (by nofun)⟩
    · show _ < (s₁.heap.push _).objs.size; rw [Heap.size_push]; exact Nat.lt_succ_self _
    · show _ < (s₁.heap.push _).objs.size; rw [Heap.size_push]; exact Nat.lt_succ_of_lt (Heap.lt_size hax)
  · rintro D C i s₃ m m' its' ep' hi ⟨v, ev, rfl⟩ j mv hs ok
    refine qg fun G kG => ?_
    obtain ⟨⟨o, e, _⟩, _⟩ := hs
    refine kG ?_
    exact wpAny_tests_nil ⟨rfl, Mv.refl j.mv.st, Ok.refl _, fun _ => body _ _ D C i s₃ m its' ep' v ⟨rfl, id⟩ (by simpa using hi) (by simpa using ev) j ⟨o, e⟩ ok⟩
theorem ret_stmt {X : List Addr} {al hl tt c3 c2 c1 : Addr} {aits hits : Array Value} {aep hep : Nat} {es : List Ent} {p0 p1 p2 : Nat × WS} {o1 o2 : Obj} {u v : Tok} {Qf : Flow → Shared → Prop} (LX : Lx T K cd mg) (G : Gb T K mg mb g) (r : Rm A 15) (hb : NoneBooked g)
   (j : J T g [] h₀ L s.heap m kn) (hm : m "told" = some (.ref tt)) (hal : (al, lstO aits aep) ∈ kn) (h1 : (c1, o1) ∈ kn) (d1 : o1.data = .cell (some (.ref al))) (hhl : (hl, lstO hits hep) ∈ kn) (h2 : (c2, o2) ∈ kn) (d2 : o2.data = .cell (some (.ref hl)))
   (hH : HX X s.heap aits es) (hN : NX X s.heap hits [p0, p1, p2]) (g0 : GoodV p0.2) (g1 : GoodV p1.2) (g2 : GoodV p2.2) (hes : ∀ e ∈ es, GoodE 2 e) (hne : es ≠ []) (hel : es.length ≤ 3)
   (ht : s.heap.get? tt = some (tupObj [.str (mkS ((seF es p0.2 p1.2 p2.2).flatMap (mailT (p2.1 : Int)))) u, .str (mkS ((seF es p0.2 p1.2 p2.2).flatMap pageT ++ [13, 10])) v]))
   (hQ : ∀ (s' : Shared), Mv T g [] h₀ s'.heap → Ok s s' → Qf (.ret (.bool true)) s') :
   wpAny (model PR w) A (exec (stAt (fBody (topSt 24)) 8) (lawE L c3 c2 c1)) Qf (fun _ _ => False) s := by
  obtain ⟨rt1, rt2⟩ := road_told (W := (p2.1 : Int)) hes g0 g1 g2
  have ttT := j.mv.st.notTab ht (by nofun)
  refine wpAny_Return_some (wpAny_Compare1 ?_)
  refine j_listComp (env := lawE L c3 c2 c1) (cl := [("heads", c1), ("hands", c2)]) (n := 2) (p := fun _ => true) (F := TupF T [] fun i vs => ∃ u v, vs = [.str (mkS ((seF es p0.2 p1.2 p2.2).flatMap (mailT (p2.1 : Int)))) u, .str (mkS ((seF es p0.2 p1.2 p2.2).flatMap pageT ++ [13, 10])) v]) j (by decide) (by rfl) ?_ ?_
  · refine Tuple_ (args_cons (wpAny_Constant_int (i := 0) (k := 0) (pos := ⟨0, 0, 0, 0⟩) (args_cons (wpAny_Constant_int (i := 2) (k := 0) (pos := ⟨0, 0, 0, 0⟩) (args_nil ?_)))))
    refine j_newTupleK (s := { s with toks := _ }) j fun tp h₁ j₁ mv₁ => ?_
    refine src_tup (s := s) (s₁ := { s with heap := h₁, toks := _ }) r.h mv₁ ⟨rfl, id⟩ j₁.mv.st (j₁.get (.head _)) rfl (fun ws => TupF.stays ws) (by rfl) (by rfl) fun s₂ I D C i s₃ m its' ep' v o2' hi hv j₃ hI ok => ?_
    obtain ⟨pn, tk, hpn, rfl⟩ : ∃ (pn : Nat) (tk : Tok), pn ≤ 2 ∧ v = .int (pn : Int) tk := by
      match i, hi with
      | 0, _ => exact ⟨0, _, by decide, (Option.some.inj hv).symm⟩
      | 1, _ => exact ⟨2, _, by decide, (Option.some.inj hv).symm⟩
    have k3 : ∀ {b o}, (b, o) ∈ kn → s₃.heap.get? b = some o := fun hb => j₃.mv.keep _ _ (j.has _ hb).1 (j.has _ hb).2.2.1 (.inl (by exact ni0))
    refine Call_ (e_global (s := s₃) G j₃.mv.st LX.gRoad ?_)
    refine j_callWith (LX.kl 387 (by decide)) (args_cons (e_cell (s := s₃) (k3 h1) d1 rfl (args_cons (e_cell (s := s₃) (k3 h2) d2 rfl (args_cons ?_)))))
    refine e_local (s := s₃) j₃ (v := .int (pn : Int) tk) (ipo rfl) (args_nil ⟨j₃.mv.st.In G, wpAny_call ?_⟩)
    refine road_spec (s := s₃) LX G j₃.mv.st r hb (k3 hal) (hH.mv j.mv.st j₃.mv (by exact al0)).at (k3 hhl) (hN.mv j.mv.st j₃.mv (by exact al0)).at g0 g1 g2 hes hne hel hpn fun s₄ t u v mv₄ ok₄ ht₄ nt => ?_
    rw [rt1, rt2] at ht₄
    refine qg fun G kG => ?_
    obtain ⟨oC, _, _, eC, _⟩ := id j₃.ns
    refine kG ?_
    obtain ⟨oI, eI⟩ := hI
    have nn : ∀ {b o}, s₃.heap.get? b = some o → t ≠ b := fun e q => by rw [← q, nt] at e; cases e
    exact ⟨⟨t, _, rfl, ht₄, ⟨u, v, rfl⟩, ni3 (nn (j₃.get (.head _))) (nn eC) (nn eI), ni0, mv₄.st.notTab ht₄ (by nofun)⟩, mv₄, ok₄⟩
  · intro s' D its' ep' ws j' mv' ok' hD gD eD hP
    obtain ⟨hsz, hat⟩ := paired_range hP
    refine List_ (args_cons (j_local (s := s') j' hm (args_cons (j_local (s := s') j' hm (args_nil ?_)))))
    refine j_newListK (s := s') j' fun nl h₂ j₂ mv₂ nnl => ?_
    have eD₂ := mv₂.keep _ _ eD (j'.mv.st.notTab eD (by nofun)) (.inl (by exact ni0))
    have ht₂ : h₂.get? tt = _ := mv₂.keep _ _ (mv'.keep _ _ ht ttT (.inr ⟨rfl, _, _, rfl⟩)) ttT (.inr ⟨rfl, _, _, rfl⟩)
    refine PySem.SeqAt.eq_listAt (s := { s' with heap := h₂ }) (e := fun _ => true) ⟨_, eD₂, rfl, _, rfl⟩ ⟨_, j₂.get (.head _), rfl, _, rfl⟩ (by rw [hsz]; rfl) r.room (fun k q1 q2 => ?_) ?_
    · have hk : k < 2 := by rw [hsz] at q1; exact q1
      obtain ⟨y, ey, t, vs, rfl, f2, ⟨u', v', rfl⟩, _, _, f6⟩ := hat k hk
      have e1 : its'[k] = .ref t := by rw [Array.getElem?_eq_getElem q1] at ey; exact Option.some.inj ey
      have e2 : ([Value.ref tt, .ref tt].toArray)[k] = .ref tt := by
        match k, hk with
        | 0, _ => rfl
        | 1, _ => rfl
      rw [e1, e2]
      exact tup2_eqAt (mv₂.keep _ _ f2 f6 (.inr ⟨rfl, _, _, rfl⟩)) ht₂ r.in1.room
    · rw [show (List.range its'.size).all (fun _ => true) = true by simp]
      exact hQ { s' with heap := h₂ } j₂.mv ⟨ok'.1, ok'.2⟩
end
end Mine
end
section
open PySem PySem.W PySem.Calls PyProof.Rows Builtin Builtin.ObjectAttr Builtin.Str
namespace Mine
noncomputable def cellsN (ns : List Int) : List Nat := (cellsF ns).map Int.toNat
theorem cellsF_ok (ns : List Int) : ∀ c ∈ cellsF ns, 0 ≤ c ∧ c < 1000000 := fun c hc => by
  rcases List.mem_append.mp hc with hc | hc
  · obtain ⟨n, _, rfl⟩ := List.mem_map.mp hc
    rw [Int.fmod_eq_emod_of_nonneg _ (by decide)]
    exact ⟨Int.emod_nonneg _ (by decide), Int.emod_lt_of_pos _ (by decide)⟩
  · have hc := List.mem_of_mem_drop hc
    simp only [List.mem_cons, List.not_mem_nil, or_false] at hc
    lia
theorem cellsN_eq (ns : List Int) : cellsF ns = (cellsN ns).map Int.ofNat := by
  unfold cellsN
  rw [List.map_map]
  conv => lhs; rw [← List.map_id (cellsF ns)]
  refine List.map_congr_left fun c hc => ?_
  exact (Int.toNat_of_nonneg (cellsF_ok ns c hc).1).symm
theorem cellsN_len (ns : List Int) : (cellsN ns).length = 6 := by unfold cellsN; rw [List.length_map, cellsF_len]
theorem cellsN_lt (ns : List Int) : ∀ c ∈ cellsN ns, c < 1000000 := fun c hc => by
  obtain ⟨n, hn, rfl⟩ := List.mem_map.mp hc
  have := cellsF_ok ns n hn
  lia
theorem name_tab : ∀ k, k < 3 → ∀ l, l < 3 → (mkS (nmL (k, letterN l)) == (".X" : Str)) = (k == 1 && (letterN l == 88 || letterN l == 120)) := by decide +kernel
theorem any_names (cs : List Nat) : ((cs.map headF).map fun e => mkS (nmL e.1)).any (· == (".X" : Str)) = (cs.map headF).any hitE := by
  rw [List.any_map, List.any_map, List.any_map]
  congr 1
  funext c
  exact name_tab (c % 3) (Nat.mod_lt _ (by decide)) (c / 3 % 3) (Nat.mod_lt _ (by decide))
theorem se_eq {es : List Ent} {p0 p1 p2 : Nat × WS} {b : Bool} (hb : b = es.any hitE) : (es.map fun e => ((e, 3) : SE)) ++ ((List.range 3).filter (keepX !b)).map (fun i => ((xQ, ([p0, p1, p2].getD i (0, [])).2), 3 - i)) = seF es p0.2 p1.2 p2.2 := by
  unfold seF
  congr 1
  rw [← hb]
  cases b <;> rfl
section
variable {T : Tabs} {K : Frag} {cd : ClassData} {mg mb : Str → Option Value} {w : World} {A : Around} {s : Shared} {g h₀ h h' h₁ h₂ : Heap} {W W' : List Addr} {L C : Addr} {m : Str → Option Value} {kn : List (Addr × Obj)} {R : Result → Shared → Prop} {E : Value → Shared → Prop} {prog : Program}
theorem law_spec {sa : Addr} {its : Array Value} {ep : Nat} {ns : List Int} (LX : Lx T K cd mg) (G : Gb T K mg mb g) (S : St T g s.heap) (r : Rm A 16) (hb : NoneBooked g)
   (hsa : s.heap.get? sa = some (lstO its ep)) (hi : IntsAre its.toList ns) (hn : ns.length ≤ 100)
   (hR : ∀ s' : Shared, Mv T g [] s.heap s'.heap → Ok s s' → R (.ok (.ret (.bool true))) s') :
   codeAny (model PR w) A (.call (.ref 399) ⟨[.ref sa], []⟩) R s := by
  have GM := LX.GM
  obtain ⟨oc, od, osl, name, kV, doc, pm, an, ct, hob, hcd⟩ := LX.law
  refine' j_callC (binds := [("script", .ref sa)]) [] (fun L => [("names", L + 3), ("hands", L + 2), ("heads", L + 1)]) G S hob hcd r.lt rfl (fun L => rfl) (fun L p hp => by
      rcases List.mem_cons.mp hp with rfl | hp
      · rfl
      rcases List.mem_cons.mp hp with rfl | hp
      · rfl
      rw [List.mem_singleton.mp hp]; rfl) (fun L y hy => by
    rw [List.mem_singleton.mp hy]; exact .inl rfl) ?_ rfl rfl rfl
  intro L h₁ t₁ ob hob' j mv₁ hnew
  have rr := r.deeper (env := lawE L (L + 3) (L + 2) (L + 1))
  have d3 : (ob (L + 3)).data = .cell none := hob' ("names", L + 3) (.head _)
  have d2 : (ob (L + 2)).data = .cell none := hob' ("hands", L + 2) (.tail _ (.head _))
  have d1 : (ob (L + 1)).data = .cell none := hob' ("heads", L + 1) (.tail _ (.tail _ (.head _)))
  have n3 : s.heap.get? (L + 3) = none := hnew ("names", L + 3) (.head _)
  have n2 : s.heap.get? (L + 2) = none := hnew ("hands", L + 2) (.tail _ (.head _))
  have n1 : s.heap.get? (L + 1) = none := hnew ("heads", L + 1) (.tail _ (.tail _ (.head _)))
  generalize hoo3 : ob (L + 3) = o3 at d3
  generalize hoo2 : ob (L + 2) = o2 at d2
  generalize hoo1 : ob (L + 1) = o1 at d1
  have j : J T g [] s.heap L h₁ (bindL (fun n => List.lookup n (fScope (topSt 24)).names) [("script", Value.ref sa)] fun _ => none) [(L + 3, o3), (L + 2, o2), (L + 1, o1)] := by
    rw [← hoo3, ← hoo2, ← hoo1]; exact j
  clear hob' hnew
  generalize L + 3 = c3 at *
  generalize L + 2 = c2 at *
  generalize L + 1 = c1 at *
  have hsa₁ : h₁.get? sa = some (lstO its ep) := j.old hsa (.inl (by exact ni0))
  refine wpAny_execs_cons ?_
  refine drawn_stmt (c3 := c3) (c2 := c2) (c1 := c1) (s := { s with heap := h₁, toks := t₁ }) LX.gInt G (rr.mono (by decide)) j (by rfl) hsa₁ hi hn fun s₂ dl dits dep j₂ ok₂ hd₂ => ?_
  refine wpAny_execs_cons ?_
  refine cells_stmt (c3 := c3) (c2 := c2) (c1 := c1) GM G (rr.mono (by decide)) j₂ (ipo rfl) hd₂ (drawnF_len ns) fun s₃ cl cits cep j₃ ok₃ hd₃ => ?_
  replace hd₃ : IntsAre cits.toList (cellsF ns) := hd₃
  rw [cellsN_eq] at hd₃
  have hcl := cellsN_len ns
  have hclt := cellsN_lt ns
  generalize cellsN ns = cs at hd₃ hcl hclt
  replace j₃ : J T g [] s.heap L s₃.heap _ [(cl, lstO cits cep), (c3, o3), (c2, o2), (c1, o1)] := j₃.sub (.cons_cons _ (List.sublist_cons_self _ _))
  obtain ⟨oL, _, _, eL, _⟩ := id j₃.ns
  have hX : ∀ b ∈ [L, c3, c2, c1], ∃ o, s₃.heap.get? b = some o := fun b hb => by
    rcases List.mem_cons.mp hb with rfl | hb
    · exact ⟨_, eL⟩
    rcases List.mem_cons.mp hb with rfl | hb
    · exact ⟨_, j₃.get (.tail _ (.head _))⟩
    rcases List.mem_cons.mp hb with rfl | hb
    · exact ⟨_, j₃.get (.tail _ (.tail _ (.head _)))⟩
    · rw [List.mem_singleton.mp hb]; exact ⟨_, j₃.get (.tail _ (.tail _ (.tail _ (.head _))))⟩
  refine wpAny_execs_cons ?_
  refine heads_stmt (X := [L, c3, c2, c1]) (c3 := c3) (c2 := c2) (c1 := c1) (ic := 3) LX G (rr.mono (by decide)) j₃ (.head _) (ipo rfl) hd₃ hcl hclt rfl d1 n1 hX (by exact m4) fun s₄ al aits aep o1' d1' j₄ mv₄ ok₄ hH₄ => ?_
  replace j₄ : J T g [] s.heap L s₄.heap _ [(al, lstO aits aep), (cl, lstO cits cep), (c3, o3), (c2, o2), (c1, o1')] := j₄
  have hX₄ : ∀ b ∈ [L, c3, c2, c1], ∃ o, s₄.heap.get? b = some o := fun b hb => by
    obtain ⟨o, e⟩ := hX b hb
    exact mv₄.there _ _ e
  refine wpAny_execs_cons ?_
  refine hands_stmt (X := [L, c3, c2, c1]) (c3 := c3) (c2 := c2) (c1 := c1) (ic := 3) LX G (rr.mono (by decide)) j₄ (.tail _ (.head _)) (ipo rfl) hd₃ hcl hclt rfl d2 n2 hX₄ (by exact m3) fun s₅ hl hits hep o2' d2' j₅ mv₅ ok₅ hN₅ => ?_
  replace j₅ : J T g [] s.heap L s₅.heap _ [(hl, lstO hits hep), (al, lstO aits aep), (cl, lstO cits cep), (c3, o3), (c2, o2'), (c1, o1')] := j₅
  have hH₅ := hH₄.mv j₄.mv.st mv₅ (by exact al1 m3)
  have ges : ∀ e ∈ (cs.take 3).map headF, GoodE 2 e := fun e he => by
    obtain ⟨c, hc, rfl⟩ := List.mem_map.mp he
    exact head_good (hclt c (List.mem_of_mem_take hc))
  have les : ((cs.take 3).map headF).length = 3 := by rw [List.length_map, List.length_take, hcl]; rfl
  have hnm := any_names (cs.take 3)
  obtain ⟨p0, p1, p2, ehs⟩ : ∃ p0 p1 p2, (cs.drop 3).map handF = [p0, p1, p2] ∧ GoodV p0.2 ∧ GoodV p1.2 ∧ GoodV p2.2 := by
    match cs, hcl with
    | [a, b, c, d, e, f], _ => exact ⟨handF d, handF e, handF f, rfl, (hand_good d).1, (hand_good e).1, (hand_good f).1⟩
  obtain ⟨ehs, g0, g1, g2⟩ := ehs
  rw [ehs] at hN₅
  generalize (cs.take 3).map headF = es at *
  have ne : es ≠ [] := fun q => by rw [q] at les; cases les
  refine wpAny_execs_cons ?_
  refine names_stmt (X := [L, c3, c2, c1]) (c3 := c3) (c2 := c2) (c1 := c1) (ic := 3) (rr.mono (by decide)) j₅ (.tail _ (.head _)) (.tail _ (.tail _ (.tail _ (.tail _ (.tail _ (.head _)))))) d1' hH₅ (by lia) rfl d3 n3 fun s₆ nl nits nep o3' d3' j₆ mv₆ ok₆ hs₆ => ?_
  replace j₆ : J T g [] s.heap L s₆.heap _ [(nl, lstO nits nep), (hl, lstO hits hep), (al, lstO aits aep), (cl, lstO cits cep), (c3, o3'), (c2, o2'), (c1, o1')] := j₆
  have hH₆ := hH₅.mv j₅.mv.st mv₆ (by exact al1 m2)
  have hN₆ := hN₅.mv j₅.mv.st mv₆ (by exact al1 m2)
  refine wpAny_execs_cons ?_
  refine sent1_stmt (ic := 0) (X := [L, c3, c2, c1]) (c3 := c3) (c2 := c2) (c1 := c1) (rr.mono (by decide)) j₆ (.tail _ (.tail _ (.head _))) (.tail _ (.tail _ (.tail _ (.tail _ (.tail _ (.tail _ (.head _))))))) d1' hH₆ (by lia) (.head _) fun s₇ sl sits sep j₇ mv₇ ok₇ nsl hS₇ => ?_
  have hH₇ := (hH₆.cons nsl).mv j₆.mv.st mv₇ (by exact al1 m2)
  have hN₇ := (hN₆.cons nsl).mv j₆.mv.st mv₇ (by exact al1 m2)
  refine wpAny_execs_cons ?_
  refine sent2_stmt (ic := 0) (X := [sl, L, c3, c2, c1]) (c3 := c3) (c2 := c2) (c1 := c1) (hl := hl) (nl := nl) GM G (rr.mono (by decide)) j₇ (ipo rfl) (none_back j₆.mv nsl) (.tail _ (.head _)) (.head _) (.tail _ (.tail _ (.tail _ (.tail _ (.tail _ (.head _)))))) d2' (.tail _ (.tail _ (.tail _ (.tail _ (.head _))))) d3' hS₇ hN₇ rfl hs₆ (by rw [List.length_map]; lia) (by rw [List.length_map]; lia) (by exact m2) (.head _) fun s₈ sits' sep' j₈ mv₈ ok₈ hS₈ => ?_
  rw [se_eq hnm] at hS₈
  have hH₈ := hH₇.mv j₇.mv.st mv₈ (by exact al2 m1 m2)
  have hN₈ := hN₇.mv j₇.mv.st mv₈ (by exact al2 m1 m2)
  have gse := seF_good ges g0 g1 g2
  have lse : (seF es p0.2 p1.2 p2.2).length ≤ 10 := by
    unfold seF
    rw [List.length_append, List.length_append, List.length_map, les]
    split
    · exact Nat.le_add_left 5 5
    · exact Nat.le_add_left 6 4
  refine wpAny_execs_cons ?_
  refine told_stmt (X := [sl, L, c3, c2, c1]) (c3 := c3) (c2 := c2) (c1 := c1) LX G (rr.mono (by decide)) j₈ (.head _) (ipo rfl) (.tail _ (.tail _ (.head _))) (.tail _ (.tail _ (.tail _ (.tail _ (.tail _ (.tail _ (.head _))))))) d2' hS₈ hN₈ (fun e he => ⟨(gse e he).2.1, (gse e he).2.2.1, (gse e he).2.2.2⟩) lse fun s₉ tt u v j₉ mv₉ ok₉ ht₉ => ?_
  have hH₉ := hH₈.mv j₈.mv.st mv₉ (by exact al1 m2)
  have hN₉ := hN₈.mv j₈.mv.st mv₉ (by exact al1 m2)
  refine wpAny_execs_cons ?_
  refine ret_stmt (X := [sl, L, c3, c2, c1]) (c3 := c3) (c2 := c2) (c1 := c1) LX G rr hb j₉ (ipo rfl) (.tail _ (.tail _ (.tail _ (.head _)))) (.tail _ (.tail _ (.tail _ (.tail _ (.tail _ (.tail _ (.tail _ (.head _)))))))) d1' (.tail _ (.tail _ (.head _))) (.tail _ (.tail _ (.tail _ (.tail _ (.tail _ (.tail _ (.head _))))))) d2' hH₉ hN₉ g0 g1 g2 ges ne (by lia) ht₉ fun s₁₀ mv₁₀ ok₁₀ => ?_
  refine hR s₁₀ mv₁₀ ?_
  have tr : ∀ {a b c : Shared}, Ok a b → Ok b c → Ok a c := fun x y => ⟨y.1.trans x.1, fun q => y.2 (x.2 q)⟩
  have ok01 : Ok s { s with heap := h₁, toks := t₁ } := ⟨rfl, id⟩
  exact tr ok01 (tr ok₂ (tr ok₃ (tr ok₄ (tr ok₅ (tr ok₆ (tr ok₇ (tr ok₈ (tr ok₉ ok₁₀))))))))
end
end Mine
end
section
open PySem PySem.W PySem.Calls PyProof.Rows Builtin Builtin.ObjectAttr Builtin.Str
namespace Mine
noncomputable def Kf (K : Frag) : Frag := K.filter fun p => !(p.1 == 179 || p.1 == 186)
theorem lookup_filter {K : Frag} {p : Addr → Bool} {a : Addr} : (K.filter fun q => p q.1).lookup a = if p a = true then K.lookup a else none := by
  induction K with
  | nil => simp
  | cons q K ih =>
    obtain ⟨b, o⟩ := q
    by_cases h : p b = true
    · rw [List.filter_cons_of_pos (by exact h), List.lookup_cons, List.lookup_cons, ih]
      by_cases e : a = b
      · subst e
        rw [beq_self_eq_true]
        simp only [h, if_true]
      · rw [beq_eq_false_iff_ne.mpr e]
    · rw [List.filter_cons_of_neg (by exact h), List.lookup_cons, ih]
      by_cases e : a = b
      · subst e
        rw [if_neg h, if_neg h]
      · rw [beq_eq_false_iff_ne.mpr e]
theorem kf_in {K : Frag} {h : Heap} (X : K.In h) : (Kf K).In h := fun a o e => by
  have := lookup_filter (K := K) (p := fun b => !(b == 179 || b == 186)) (a := a)
  unfold Kf at e
  rw [this] at e
  split at e
  · exact X a o e
  · cases e
theorem kf_tab {K : Frag} : ∀ p ∈ ([(183, 179), (190, 186)] : Tabs), (Kf K).lookup p.2 = none := fun p hp => by
  have := lookup_filter (K := K) (p := fun b => !(b == 179 || b == 186)) (a := p.2)
  unfold Kf
  rw [this]
  rcases List.mem_cons.mp hp with rfl | hp
  · rfl
  · rw [List.mem_singleton.mp hp]; rfl
noncomputable def obK (K : Frag) (a : Addr) : Obj := (K.lookup a).getD default
noncomputable def fdK (K : Frag) (a : Addr) : FuncData := match (obK K a).data with | .func f => f | _ => default
noncomputable def cdK (K : Frag) (a : Addr) : ClassData := match (obK K a).data with | .cls c => c | _ => default
noncomputable def fnK (K : Frag) (a : Addr) (s : Stmt) (qual : Str) (cl : List (Str × Addr)) (dV : Value) (cd : Addr) : Obj :=
  ⟨(obK K a).cls, (obK K a).dict, .func (fnX (fdK K a).name qual (fArgs s) (fBody s) (fScope s) cl dV (fdK K a).kwdefaults (fdK K a).doc (fdK K a).pyModule (fdK K a).annotations (.ref cd) (fdK K a).closureTuple), (obK K a).slots⟩
theorem fnAt_mk {K : Frag} {a : Addr} {s : Stmt} {qual : Str} {cl : List (Str × Addr)} {dV : Value} {cd : Addr} (h : K.lookup a = some (fnK K a s qual cl dV cd)) (hc : codeIn K (.ref cd) qual = true) : FnAt K a s qual cl dV cd := ⟨_, _, _, _, _, _, _, _, _, h, hc⟩
noncomputable def fldK (K : Frag) (a : Addr) : Array Value := match (obK K a).data with | .fields v => v | _ => #[]
noncomputable def seqK (K : Frag) (a : Addr) : Array Value := match (obK K a).data with | .seq v _ => v | _ => #[]
noncomputable def epK (K : Frag) (a : Addr) : Nat := match (obK K a).data with | .seq _ n => n | _ => 0
noncomputable def tokV (v : Value) : Tok := match v with | .int _ t => t | .str _ t => t | _ => default
noncomputable def strV (v : Value) : Str := match v with | .str x _ => x | _ => ""
theorem patK_mk {K : Frag} {pat tb : Addr} {code : Array Nat} (h1 : K.lookup pat = some ⟨.type "re.Pattern", none, .fields (fldK K pat), (obK K pat).slots⟩)
   (h2 : (fldK K pat).getD 6 .none = .int 0 (tokV ((fldK K pat).getD 6 .none))) (h3 : (fldK K pat).getD 2 .none = .int 0 (tokV ((fldK K pat).getD 2 .none))) (h4 : (fldK K pat).getD 5 .none = .ref tb)
   (h5 : K.lookup tb = some ⟨.type "tuple", (obK K tb).dict, .seq (seqK K tb) (epK K tb), (obK K tb).slots⟩) (h6 : (((seqK K tb).map Re.reRawOf).map (·.toNat)) = code) : PatK K pat tb code := ⟨_, _, _, _, _, _, _, _, _, h1, rfl, h2, h3, h4, h5, h6⟩
theorem patKG_mk {K : Frag} {pat tb : Addr} {code : Array Nat} (h1 : K.lookup pat = some ⟨.type "re.Pattern", none, .fields (fldK K pat), (obK K pat).slots⟩)
   (h2 : (fldK K pat).getD 6 .none = .int 0 (tokV ((fldK K pat).getD 6 .none))) (h3 : (fldK K pat).getD 2 .none = .int 1 (tokV ((fldK K pat).getD 2 .none))) (h4 : (fldK K pat).getD 5 .none = .ref tb)
   (h5 : K.lookup tb = some ⟨.type "tuple", (obK K tb).dict, .seq (seqK K tb) (epK K tb), (obK K tb).slots⟩) (h6 : (((seqK K tb).map Re.reRawOf).map (·.toNat)) = code) : PatKG K pat tb code := ⟨_, _, _, _, _, _, _, _, h1, h2, h3, h4, h5, h6⟩
theorem st_none_of {K : Frag} {h : Heap} {mc : Str → Option Value} {n : Str} (X : K.In h) (G : h.Ns cStatics mc) (e : nsIn K cStatics n = some none) : mc n = none := by
  obtain ⟨o, es, ep, ho, hd, _, hf⟩ := G
  unfold nsIn at e
  split at e
  · rename_i c d es' n' sl q
    have := X _ _ q
    rw [ho] at this
    cases this
    cases hd
    split at e
    · cases e
    · rename_i he
      rw [← hf]
      unfold nsFind findBy
      rw [← Array.find?_toList, he]
      rfl
  · cases e
theorem supFx_mk {K : Frag} {f cda cc C : Addr} (h1 : K.lookup cda = some ⟨(obK K cda).cls, (obK K cda).dict, .fields (fldK K cda), (obK K cda).slots⟩) (h2 : (fldK K cda)[2]? = some (.str (strV ((fldK K cda).getD 2 .none)) (tokV ((fldK K cda).getD 2 .none)))) (h3 : ((PR.main.file : Str) == strV ((fldK K cda).getD 2 .none)) = true)
   (h4 : K.lookup cc = some ⟨(obK K cc).cls, (obK K cc).dict, .cell (some (.ref C)), (obK K cc).slots⟩) (h5 : clsIn K C = some (cdK K C)) (h6 : mroIn K C (.ref C) = some true) (h7 : mroIn K C (.type "list") = some true) (h8 : nsIn K mainGlobals "super" = some none) (h9 : (PR.main.scope.names.lookup ("super" : Str)).isSome = false) (h10 : nsIn K cStatics "thirdparty.any" = some none) : SupFx K PR f cda cc C (cdK K C) :=
  ⟨⟨_, _, _, _, _, _, h1, h2, h3⟩, ⟨_, _, _, h4⟩, h5, h6, h7, h8, h9, h10⟩
end Mine
end
section
open PySem PySem.W PySem.W.X PySem.Calls PyProof.Rows
noncomputable section
namespace Mine
noncomputable abbrev pwP : Program := PySem.Challenge.pw_tc0069_02
noncomputable def viewP : Program := { pwP with main := { pwP.main with body := [0, 1, 3, 4, 5, 6, 8, 9, 10, 11, 12, 14, 15, 16, 18, 19, 20, 21, 22, 23, 24].filterMap (pwP.main.body[·]?) } }
noncomputable def looseP : List Str := [Str.ofString "twin_re_1_smtplib", Str.ofString "_twin_re_2", Str.ofString "twin_re_1_header", Str.ofString "_Accumulator", Str.ofString "_name_disallowed_re", Str.ofString "_value_disallowed_re"]
noncomputable def xtP (s : Shared) : Bool := xlAt viewP [] s && recOk (RowW.records PySem.Challenge.rw_tc0069_02.row.toRowW) s
noncomputable def adr : List Nat := [3, 217, 216, 354, 353, 133, 132, 2, 4, 141, 146, 162, 192, 239, 294, 43, 42, 48, 47, 60, 59, 226, 225, 231, 230, 377, 376, 382, 381, 387, 386, 394, 393, 399, 398, 365, 364, 370, 369, 74, 73, 81, 80, 95, 94, 123, 122, 130, 129, 154, 153, 161, 160, 169, 168, 177, 176, 184, 183, 191, 190, 199, 198, 206, 205, 214, 213, 55, 54, 246, 245, 253, 252, 293, 292, 301, 300, 318, 317, 330, 329, 344, 343, 179, 186]
noncomputable def fragOf (h : Heap) : Frag := adr.filterMap fun a => (h.get? a).map fun o => (a, o)
theorem fragOf_in (h : Heap) : (fragOf h).In h := by
  have : ∀ l : List Nat, ∀ a o, (l.filterMap fun a => (h.get? a).map fun o => (a, o)).lookup a = some o → h.get? a = some o := by
    intro l
    induction l with
    | nil => intro a o e; cases e
    | cons b l ih =>
      intro a o e
      rw [List.filterMap_cons] at e
      cases q : h.get? b with
      | none => rw [q] at e; exact ih a o e
      | some o' =>
        rw [q] at e
        have e' : ((b, o') :: l.filterMap fun a => (h.get? a).map fun o => (a, o)).lookup a = some o := e
        rw [List.lookup_cons] at e'
        by_cases hab : a = b
        · subst hab
          rw [beq_self_eq_true] at e'
          cases e'; exact q
        · rw [beq_eq_false_iff_ne.mpr hab] at e'
          exact ih a o e'
  exact this _
noncomputable def topQ (w : World) (s₀ : Shared) : Option Shared :=
  match s₀.heap.isNs mainGlobals && s₀.gens.size == 0 with
  | true => (PySem.W.Fast.tw14082659384304107361 PySem.W.Fast.tw14364793385576792824 pwP w s₀.heap.objs.size (PySem.W.Fast.tw8920871248978507458 s₀.heap mainGlobals "__annotations__") 8000 s₀ (topStub pwP)).bind fun s₁ => match staticsOk (PySem.W.Fast.tw5923862056798008813 pwP.main.body) s₀.heap s₁.heap && namesBound pwP s₁.heap && gensDone s₁ && laidKept s₀.heap s₁.heap with
      | true => some s₁
      | false => none
  | false => none
noncomputable def endsQ (w : World) : Option Shared := ((PySem.W.Fast.tw10274390034422433532 PySem.W.Fast.tw14364793385576792824 (opening pwP) w 8000 (PySem.W.Fast.tw1435165496053646825 (opening pwP)).1 (PySem.W.Fast.tw1435165496053646825 (opening pwP)).2).bind (PySem.W.Fast.tw14289696077712309145 pwP)).bind (topQ w)
theorem ends_q (w : World) : openEnds treeTable pwP w 8000 = endsQ w := by
  unfold endsQ
  rw [← PySem.W.Fast.te10274390034422433532, ← PySem.W.Fast.te14364793385576792824, ← PySem.W.Fast.te1435165496053646825, ← PySem.W.Fast.te14289696077712309145]
  have e : topQ w = topFrom treeTable pwP w 8000 := by
    funext s₀
    unfold topQ
    rw [← PySem.W.Fast.te14364793385576792824, ← PySem.W.Fast.te14082659384304107361, ← PySem.W.Fast.te8920871248978507458, ← PySem.W.Fast.te5923862056798008813]
    rfl
  rw [e]
  rfl
noncomputable def runEnd (w : World) : Shared := match endsQ w with | some s => s | none => {}
noncomputable def KW (w : World) : Frag := fragOf (runEnd w).heap
noncomputable def KF (w : World) : Frag := Kf (KW w)
noncomputable def tokG (K : Frag) (n : Str) : Tok := match nsIn K mainGlobals n with | some (some v) => tokV v | _ => default
noncomputable def bmK (K : Frag) : Addr := match nsIn K mainGlobals "__builtins__" with | some (some (.ref a)) => a | _ => 0
noncomputable def flV (v : Value) : Int := match v with | .int n _ => n | _ => 0
noncomputable def boV (v : Value) : Bool := match v with | .bool b => b | _ => false
structure Tb (K : Frag) (c P : Addr) : Prop where
  xa : K.lookup c = some ⟨.type "code", (obK K c).dict, .fields (fldK K c), (obK K c).slots⟩
  xb : (fldK K c)[11]? = some (.ref P)
  xb' : (fldK K c).getD 11 .none = .ref P
  xc : (fldK K c).getD 18 .none = .str (strV ((fldK K c).getD 18 .none)) (tokV ((fldK K c).getD 18 .none))
  xd : (fldK K c).getD 7 .none = .int (flV ((fldK K c).getD 7 .none)) (tokV ((fldK K c).getD 7 .none))
  xe : (fldK K c).getD 9 .none = .bool (boV ((fldK K c).getD 9 .none))
  xf : (fldK K c).getD 10 .none = .int (flV ((fldK K c).getD 10 .none)) (tokV ((fldK K c).getD 10 .none))
  xg : K.lookup P = some { cls := .none, data := .fields #[] }
structure RunOk (w : World) : Prop where
  lx : ∀ {h : Heap} {mg : Str → Option Value}, (KF w).In h → h.Ns mainGlobals mg → Lx [(183, 179), (190, 186)] (KF w) (cdK (KF w) 217) mg
  glaw : nsIn (KF w) mainGlobals "law" = some (some (.ref 399))
  bkd : nsIn (KF w) cStatics sharingNotToldKey = some none
  bmn : nsIn (KF w) mainGlobals "__builtins__" = some (some (.ref (bmK (KF w))))
  bmo : (KF w).lookup (bmK (KF w)) = some ⟨.type "module", some builtinsNs, .plain, (obK (KF w) (bmK (KF w))).slots⟩
  bmne : (bmK (KF w) == builtinsNs) = false
  t1 : Tb (KW w) 183 179
  t2 : Tb (KW w) 190 186
open PySem.Builtin PySem.Builtin.ObjectAttr PySem.Builtin.Str in
set_option maxHeartbeats 0 in
theorem runOk2 (w : World) : RunOk w where
  lx := by
    intro h mg X hg
    have FV : Fv (KF w) := { plain := (by kernel_rfl), hd := (by kernel_rfl), over := (by kernel_rfl), hdc := (by kernel_rfl), makes := (by kernel_rfl), init := fnAt_mk (by kernel_rfl) (by kernel_rfl), str := fnAt_mk (by kernel_rfl) (by kernel_rfl), newline := fnAt_mk (by kernel_rfl) (by kernel_rfl), chunk := fnAt_mk (by kernel_rfl) (by kernel_rfl), sa := (by kernel_rfl), fInit := (by kernel_rfl), fStr := (by kernel_rfl), fNewline := (by kernel_rfl), fChunk := (by kernel_rfl), no := (alC (by kernel_rfl) (alC (by kernel_rfl) (alC (by kernel_rfl) (alC (by kernel_rfl) (alC (by kernel_rfl) (alC (by kernel_rfl) al0)))))), keep := (alC ⟨(by kernel_rfl), (by kernel_rfl)⟩ (alC ⟨(by kernel_rfl), (by kernel_rfl)⟩ (alC ⟨(by kernel_rfl), (by kernel_rfl)⟩ (alC ⟨(by kernel_rfl), (by kernel_rfl)⟩ al0)))) }
    have FX : Fx (KF w) (cdK (KF w) 217) := { init := fnAt_mk (by kernel_rfl) (by kernel_rfl), push := fnAt_mk (by kernel_rfl) (by kernel_rfl), popf := fnAt_mk (by kernel_rfl) (by kernel_rfl), pop := fnAt_mk (by kernel_rfl) (by kernel_rfl), len := fnAt_mk (by kernel_rfl) (by kernel_rfl), str := fnAt_mk (by kernel_rfl) (by kernel_rfl), reset := fnAt_mk (by kernel_rfl) (by kernel_rfl), only := fnAt_mk (by kernel_rfl) (by kernel_rfl), count := fnAt_mk (by kernel_rfl) (by kernel_rfl), supI := supFx_mk (by kernel_rfl) (by kernel_rfl) (by kernel_rfl) (by kernel_rfl) (by kernel_rfl) (by kernel_rfl) (by kernel_rfl) (by kernel_rfl) (by decide +kernel) (by kernel_rfl), supP := supFx_mk (by kernel_rfl) (by kernel_rfl) (by kernel_rfl) (by kernel_rfl) (by kernel_rfl) (by kernel_rfl) (by kernel_rfl) (by kernel_rfl) (by decide +kernel) (by kernel_rfl), supC := supFx_mk (by kernel_rfl) (by kernel_rfl) (by kernel_rfl) (by kernel_rfl) (by kernel_rfl) (by kernel_rfl) (by kernel_rfl) (by kernel_rfl) (by decide +kernel) (by kernel_rfl), alP := (by kernel_rfl), alC := (by kernel_rfl), alI := (by kernel_rfl), qn := (by kernel_rfl), hd := (by kernel_rfl), noMod := (by kernel_rfl), ty := (by kernel_rfl), seq := (by kernel_rfl), tAppend := (by kernel_rfl), mro := (by kernel_rfl), d140 := ⟨_, _, _, _, (show (KF w).lookup 162 = some ⟨.type "tuple", (obK (KF w) 162).dict, .seq #[.int 0 (tokV ((seqK (KF w) 162).getD 0 .none))] (epK (KF w) 162), (obK (KF w) 162).slots⟩ by kernel_rfl)⟩, d124 := ⟨_, _, _, _, (show (KF w).lookup 146 = some ⟨.type "tuple", (obK (KF w) 146).dict, .seq #[.int 0 (tokV ((seqK (KF w) 146).getD 0 .none))] (epK (KF w) 146), (obK (KF w) 146).slots⟩ by kernel_rfl)⟩, d170 := ⟨_, _, _, (show (KF w).lookup 192 = some ⟨.type "tuple", (obK (KF w) 192).dict, .seq #[.none] (epK (KF w) 192), (obK (KF w) 192).slots⟩ by kernel_rfl)⟩, ga := (by kernel_rfl), gt := (by kernel_rfl), fAppend := (by kernel_rfl), fCount := (by kernel_rfl), fPush := (by kernel_rfl), fPop := (by kernel_rfl), fPopf := (by kernel_rfl), fReset := (by kernel_rfl), fOnly := (by kernel_rfl), fLen := (by kernel_rfl), fStr := (by kernel_rfl), fGet := (by kernel_rfl), fSet := (by kernel_rfl), fIter := (by kernel_rfl), fSize := (by kernel_rfl), fInit := (by kernel_rfl), fNew := (by kernel_rfl), fBool := (by kernel_rfl), fSetattr := (by kernel_rfl), keep := (alC ⟨(by kernel_rfl), (by kernel_rfl)⟩ (alC ⟨(by kernel_rfl), (by kernel_rfl)⟩ (alC ⟨(by kernel_rfl), (by kernel_rfl)⟩ (alC ⟨(by kernel_rfl), (by kernel_rfl)⟩ (alC ⟨(by kernel_rfl), (by kernel_rfl)⟩ (alC ⟨(by kernel_rfl), (by kernel_rfl)⟩ (alC ⟨(by kernel_rfl), (by kernel_rfl)⟩ (alC ⟨(by kernel_rfl), (by kernel_rfl)⟩ (alC ⟨(by kernel_rfl), (by kernel_rfl)⟩ al0))))))))) }
    have GM : Gm mg := ⟨(mg_none_of X hg (by kernel_rfl)), (mg_none_of X hg (by kernel_rfl)), ⟨_, mg_of X hg (show nsIn (KF w) mainGlobals "EMPTYSTRING" = some (some (.str "" (tokG (KF w) "EMPTYSTRING"))) by kernel_rfl)⟩, (mg_none_of X hg (by kernel_rfl)), (mg_none_of X hg (by kernel_rfl))⟩
    have FQ : Fq (KF w) mg := ⟨(fnAt_mk (by kernel_rfl) (by kernel_rfl)), (patK_mk (by kernel_rfl) (by kernel_rfl) (by kernel_rfl) (by kernel_rfl) (by kernel_rfl) (by kernel_rfl)), (patK_mk (by kernel_rfl) (by kernel_rfl) (by kernel_rfl) (by kernel_rfl) (by kernel_rfl) (by kernel_rfl)), (mg_of X hg (by kernel_rfl)), (mg_of X hg (by kernel_rfl)), ⟨_, mg_of X hg (show nsIn (KF w) mainGlobals "CRLF" = some (some (.str "\r\n" (tokG (KF w) "CRLF"))) by kernel_rfl)⟩⟩
    have FH : Fh (KF w) mg := ⟨(fnAt_mk (by kernel_rfl) (by kernel_rfl)), (fnAt_mk (by kernel_rfl) (by kernel_rfl)), (fnAt_mk (by kernel_rfl) (by kernel_rfl)), ⟨_, _, _, (show (KF w).lookup 239 = some ⟨.type "tuple", (obK (KF w) 239).dict, .seq #[.none] (epK (KF w) 239), (obK (KF w) 239).slots⟩ by kernel_rfl)⟩, (patK_mk (by kernel_rfl) (by kernel_rfl) (by kernel_rfl) (by kernel_rfl) (by kernel_rfl) (by kernel_rfl)), (patK_mk (by kernel_rfl) (by kernel_rfl) (by kernel_rfl) (by kernel_rfl) (by kernel_rfl) (by kernel_rfl)), (mg_of X hg (by kernel_rfl)), (mg_of X hg (by kernel_rfl)), (mg_none_of X hg (by kernel_rfl)), (mg_none_of X hg (by kernel_rfl)), (mg_none_of X hg (by kernel_rfl)), (by kernel_rfl), (by kernel_rfl), (by kernel_rfl), (by kernel_rfl), (by kernel_rfl), (by kernel_rfl), (by kernel_rfl), (by kernel_rfl), (by kernel_rfl), (alC ⟨(by kernel_rfl), (by kernel_rfl)⟩ (alC ⟨(by kernel_rfl), (by kernel_rfl)⟩ (alC ⟨(by kernel_rfl), (by kernel_rfl)⟩ al0))), (by kernel_rfl)⟩
    have FG : Fg (KF w) := ⟨(fnAt_mk (by kernel_rfl) (by kernel_rfl)), (fnAt_mk (by kernel_rfl) (by kernel_rfl)), (fnAt_mk (by kernel_rfl) (by kernel_rfl)), (fnAt_mk (by kernel_rfl) (by kernel_rfl)), ⟨_, _, _, (show (KF w).lookup 294 = some ⟨.type "tuple", (obK (KF w) 294).dict, .seq #[.none] (epK (KF w) 294), (obK (KF w) 294).slots⟩ by kernel_rfl)⟩, (by kernel_rfl), (by kernel_rfl), (by kernel_rfl), (by kernel_rfl), (alC ⟨(by kernel_rfl), (by kernel_rfl)⟩ (alC ⟨(by kernel_rfl), (by kernel_rfl)⟩ (alC ⟨(by kernel_rfl), (by kernel_rfl)⟩ (alC ⟨(by kernel_rfl), (by kernel_rfl)⟩ al0))))⟩
    have FA : Fa (KF w) mg := ⟨(fnAt_mk (by kernel_rfl) (by kernel_rfl)), (by kernel_rfl), ⟨(by kernel_rfl), (by kernel_rfl)⟩, (mg_of X hg (by kernel_rfl)), (patKG_mk (by kernel_rfl) (by kernel_rfl) (by kernel_rfl) (by kernel_rfl) (by kernel_rfl) (by kernel_rfl)), (mg_none_of X hg (by kernel_rfl)), (mg_none_of X hg (by kernel_rfl))⟩
    have LA : La (KF w) := ⟨(fnAt_mk (by kernel_rfl) (by kernel_rfl)), (fnAt_mk (by kernel_rfl) (by kernel_rfl))⟩
    exact ⟨FV, FX, ⟨(by kernel_rfl), (by kernel_rfl), (by kernel_rfl)⟩, GM, FH, FG, FA, FQ, LA, .head _, .tail _ (.head _), (mg_of X hg (by kernel_rfl)), (by kernel_rfl), (mg_of X hg (by kernel_rfl)), (by kernel_rfl), (mg_of X hg (by kernel_rfl)), (by kernel_rfl), (mg_of X hg (by kernel_rfl)), (by kernel_rfl), (fnAt_mk (by kernel_rfl) (by kernel_rfl)), (fnAt_mk (by kernel_rfl) (by kernel_rfl)), (fnAt_mk (by kernel_rfl) (by kernel_rfl)), (fnAt_mk (by kernel_rfl) (by kernel_rfl)), (fnAt_mk (by kernel_rfl) (by kernel_rfl)), (mg_of X hg (by kernel_rfl)), (mg_of X hg (by kernel_rfl)), (mg_of X hg (by kernel_rfl)), (mg_of X hg (by kernel_rfl)), (mg_of X hg (by kernel_rfl)), (mg_of X hg (by kernel_rfl)), (mg_none_of X hg (by kernel_rfl)), (alC (by kernel_rfl) (alC (by kernel_rfl) (alC (by kernel_rfl) (alC (by kernel_rfl) (alC (by kernel_rfl) (alC (by kernel_rfl) al0))))))⟩
  glaw := by kernel_rfl
  bkd := by kernel_rfl
  bmn := by kernel_rfl
  bmo := by kernel_rfl
  bmne := by kernel_rfl
  t1 := by constructor <;> kernel_rfl
  t2 := by constructor <;> kernel_rfl
end Mine
end
end
section
open PySem PySem.W PySem.Calls PyProof.Rows Builtin Builtin.ObjectAttr Builtin.Str
namespace Mine
theorem tb_at {K : Frag} {c P : Addr} {h : Heap} (X : K.In h) (B : Tb K c P) (hne : c ≠ P) : h.IsCode c P #[] ∧ h.TableAt c P #[] :=
  ⟨⟨_, _, _, _, _, _, _, _, _, _, X _ _ B.xa, rfl, B.xb', B.xc, B.xd, B.xe, B.xf, X _ _ B.xg, rfl, trivial, hne⟩, ⟨⟨_, _, X _ _ B.xa, rfl, rfl, B.xb⟩, X _ _ B.xg⟩⟩
theorem st_start {K : Frag} {h : Heap} (X : K.In h) (B1 : Tb K 183 179) (B2 : Tb K 190 186) : St [(183, 179), (190, 186)] h h := by
  refine ⟨OldK.refl h, fun _ _ e _ => e, fun p hp => ?_, Nat.le_refl _⟩
  rcases List.mem_cons.mp hp with rfl | hp
  · obtain ⟨a, b⟩ := tb_at X B1 (by decide)
    exact ⟨_, _, a, b, b⟩
  · rw [List.mem_singleton.mp hp]
    obtain ⟨a, b⟩ := tb_at X B2 (by decide)
    exact ⟨_, _, a, b, b⟩
theorem gb_of {w : World} {h : Heap} {p : Program} {loose : List Str} {mean : ExcName → Option Value} {mg mb : Str → Option Value} (X : (KW w).In h) (T : Top p loose mean mg mb h) (H : RunOk w) : Gb [(183, 179), (190, 186)] (KF w) mg mb h :=
  ⟨kf_in X, T.g, T.b, T.nolimit, T.builtins, kf_tab, by decide, by decide, by decide, ⟨bmK (KF w), _, _, mg_of (kf_in X) T.g H.bmn, beq_eq_false_iff_ne.mp H.bmne, H.bmo, rfl⟩⟩
theorem law_glue {w : World} {s : Shared} {p : Program} {loose : List Str} {mean : ExcName → Option Value} {mg mb : Str → Option Value} {a : Addr} {vs : List Value} {ns : List Int} {Q : Value → Shared → Prop} {E : Value → Shared → Prop}
   (X : (KW w).In s.heap) (T : Top p loose mean mg mb s.heap) (H : RunOk w) (hg : s.gens = #[])
   (hl : s.heap.get? a = some { cls := .type "list", data := .seq vs.toArray }) (hi : IntsAre vs ns) (hn : ¬ ((63 : Nat) : Int) < ns.length)
   (hQ : ∀ s' : Shared, OldK s.heap s'.heap → s'.os = s.os → AllBare s'.gens → Q (.bool true) s') :
   wpAny (model PR w) callerA (call (.ref 399) [.ref a]) Q E s := by
  have S := st_start X H.t1 H.t2
  have G := gb_of X T H
  have LX := H.lx (kf_in X) T.g
  refine wpAny_call ?_
  have hb : NoneBooked s.heap := by
    obtain ⟨mc, hn, _⟩ := T.nolimit
    exact ⟨mc, hn, st_none_of (kf_in X) hn H.bkd⟩
  refine law_spec (its := vs.toArray) (ep := 0) LX G S ⟨by decide, rfl, by decide⟩ hb hl hi (by omega) fun s' mv ok => ?_
  exact hQ s' mv.st.old ok.1 (ok.2 (.of_eq hg))
end Mine
end
section
open PySem PySem.W PySem.W.X PySem.Calls PyProof.Rows
noncomputable section
namespace Mine
set_option maxHeartbeats 0 in
theorem runOk1 (w : World) : (endsQ w).map (fun s => (PySem.W.Fast.tw4187177175401517315 viewP looseP (PySem.W.Fast.tw5923862056798008813 pwP.main.body) xtP true s, fragOf s.heap)) = some (openGood viewP looseP, KW w) := by kernel_rfl
theorem left_ok : LeftO PySem.Challenge.rw_tc0069_02.row.prog viewP looseP xtP (fun s => fragOf s.heap) KW 8000 := by
  intro w
  show (openEnds treeTable pwP w 8000).map (fun s => (openSeen viewP looseP (importedModules pwP.main.body) xtP true s, fragOf s.heap)) = some (openGood viewP looseP, KW w)
  rw [ends_q, PySem.W.Fast.te4187177175401517315, PySem.W.Fast.te5923862056798008813]
  exact runOk1 w
end Mine
end
end
open PySem PySem.W PySem.W.X PySem.Calls PyProof.Rows Mine
set_option maxHeartbeats 0 in
theorem PySem.Challenge.cw_tc0069_02_holds : PySem.Challenge.rw_tc0069_02.Holds := by
  w_on
  refine holds_law (by kernel_rfl) fun said => ?_
  refine holds_openX (q := viewP) (loose := looseP) (Xt := xtP) (XP := XL viewP []) (Yf := fun s => fragOf s.heap) (Ya := KW) (N := 8000) left_ok (fun s e => xl_of s (Bool.and_eq_true_iff.mp e).1) XL.keeps (by rfl) (by rfl) (by rfl) (fun s e => recFacts_of (Bool.and_eq_true_iff.mp e).2) (by rfl) (by assumption) (by decide +kernel) ⟨rfl, rfl, rfl, rfl, rfl, by decide +kernel⟩ ?hw ?hc
  case hw => w_witness2
  case hc =>
    intro w s₀ s₁ mg mb G y fa o pm cd doc dV kV ho hd hcd hD hmg hg args vals as L hpre hlay hrd hwl hlo
    refine Ground.open G ?_
    intro T B D TE TW
    wrow_args hpre hlay hrd hwl hlo
    have hy : fragOf s₀.heap = KW w := y
    have KX : (KW w).In s₁.heap := (hy ▸ fragOf_in s₀.heap).keeps L.keeps
    have H := runOk2 w
    clear y hy hD hcd hd ho D TE TW B G
    have e399 := mg_of (kf_in KX) T.g H.glaw
    have hfa : Value.ref fa = .ref 399 := Option.some.inj (hmg.symm.trans e399)
    clear hmg e399
    injection hfa with hfa
    subst hfa
    refine law_glue KX T H hg (script_obj L (by assumption)) (by assumption) (by assumption) fun s' h1 h2 h3 => ?_
    exact ⟨.inl ⟨_, _, _, rfl, fun cls => rfl, ReadsW.bool _, by wrow_post, fun _ => ⟨List.nodup_nil, fun a ha => by cases ha⟩⟩, h1, h2, h3⟩
