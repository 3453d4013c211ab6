import PyProof.Rows.All
import Wide.All
import OpenK.AllK
import Wide.FinOn
import PySem.Challenge.RW_ad5011_01
set_option Elab.async false
set_option maxRecDepth 100000
set_option linter.unusedVariables false
namespace Mine
open PySem PySem.W PyProof.Rows
set_option maxHeartbeats 8000000 in
open_top hd for PySem.Challenge.rw_ad5011_01
end Mine
namespace Mine
open PySem PySem.W PySem.Calls PySem.Spec PyProof.Rows
noncomputable abbrev PRG : Program := PySem.Challenge.rw_ad5011_01.row.prog
noncomputable abbrev VW : Program := hd.view_39
noncomputable abbrev LOO : List Str := looseW VW [Str.ofString "HAAB", Str.ofString "TZOLKIN"]
def fsOf (envs : List Env) : List Addr := envs.filterMap (·.frame)
abbrev hid (fs : List Addr) : List Addr := 74 :: 95 :: fs
abbrev solid (fs : List Addr) (h : Heap) : Heap := hideAll h (hid fs)
theorem solid_get {fs : List Addr} {h : Heap} {b : Addr} {o : Obj} : (solid fs h).get? b = some o ↔ h.get? b = some o ∧ b ∉ hid fs := by
  constructor
  · intro e
    refine ⟨of_hideAll _ e, fun hm => ?_⟩
    rw [hideAll_none _ hm] at e; cases e
  · rintro ⟨e, n⟩; exact hideAll_get _ e n
structure Grow (fs : List Addr) (h h' : Heap) : Prop where
  keep : (solid fs h).StaysIn h'
  frm : ∀ b ∈ fs, ∀ o, h.get? b = some o → ∃ sl, h'.get? b = some { o with slots := sl }
theorem Grow.refl (fs : List Addr) (h : Heap) : Grow fs h h := ⟨fun b o e => (solid_get.mp e).1, fun b _ o e => ⟨o.slots, e⟩⟩
theorem Grow.trans {fs : List Addr} {h₁ h₂ h₃ : Heap} (x : Grow fs h₁ h₂) (y : Grow fs h₂ h₃) : Grow fs h₁ h₃ :=
  ⟨fun b o e => y.keep b o (solid_get.mpr ⟨x.keep b o e, (solid_get.mp e).2⟩), fun b hb o e =>
    let ⟨_, e₁⟩ := x.frm b hb o e; let ⟨sl, e₂⟩ := y.frm b hb _ e₁; ⟨sl, e₂⟩⟩
theorem Grow.of_keeps {fs : List Addr} {h h' : Heap} (k : ∀ b o, h.get? b = some o → h'.get? b = some o) : Grow fs h h' :=
  ⟨fun b o e => k b o (solid_get.mp e).1, fun b _ o e => ⟨o.slots, k b o e⟩⟩
structure Wd (w : World) (mg mb : Str → Option Value) (ob : Obj) (h : Heap) : Prop where
  X : (hd.heap_39 w.params).In h
  T : TopRead VW LOO mg mb h
  B : BMod h mainGlobals mg 4 ob
  t1 : ∃ ps, h.IsCode 78 74 ps ∧ h.TableAt 78 74 ps
  t2 : ∃ ps, h.IsCode 99 95 ps ∧ h.TableAt 99 95 ps
theorem kf_apart (w : World) : ((hd.heap_39 w.params).all fun p => p.1 != 74 && p.1 != 95 && Nat.ble p.1 158) = true := by
  rfl
def Hi (fs : List Addr) : Prop := ∀ b ∈ fs, 158 < b
theorem hid_lt {fs : List Addr} (hf : Hi fs) {a : Addr} (h1 : a ≠ 74) (h2 : a ≠ 95) (h3 : a ≤ 158) : a ∉ hid fs := by
  intro hm
  rcases List.mem_cons.mp hm with e | hm
  · exact h1 e
  · rcases List.mem_cons.mp hm with e | hm
    · exact h2 e
    · exact absurd (hf a hm) (Nat.not_lt.mpr h3)
theorem kf_hid {w : World} {fs : List Addr} (hf : Hi fs) {a : Addr} {o : Obj} (e : (hd.heap_39 w.params).lookup a = some o) : a ∉ hid fs := by
  have q := List.all_eq_true.mp (kf_apart w) (a, o) (kb_mem e)
  simp only [Bool.and_eq_true, bne_iff_ne, ne_eq, Nat.ble_eq] at q
  exact hid_lt hf q.1.1 q.1.2 q.2
theorem ns_keep {h h' : Heap} {a : Addr} {m : Str → Option Value} (n : h.Ns a m) (k : ∀ o, h.get? a = some o → h'.get? a = some o) : h'.Ns a m :=
  let ⟨o, es, ep, e, r⟩ := n; ⟨o, es, ep, k o e, r⟩
section
variable {w : World} {mg mb : Str → Option Value} {ob : Obj} {h h' : Heap} {fs : List Addr}
theorem In.keep (X : (hd.heap_39 w.params).In h) (hf : Hi fs) (k : (solid fs h).StaysIn h') : (hd.heap_39 w.params).In h' := fun a o e => k a o (solid_get.mpr ⟨X a o e, kf_hid hf e⟩)
theorem TopRead.keep (T : TopRead VW LOO mg mb h) (hf : Hi fs) (k : (solid fs h).StaysIn h') : TopRead VW LOO mg mb h' :=
  ⟨ns_keep T.g fun o e => k _ o (solid_get.mpr ⟨e, hid_lt hf (by decide) (by decide) (by decide)⟩),
   ns_keep T.b fun o e => k _ o (solid_get.mpr ⟨e, hid_lt hf (by decide) (by decide) (by decide)⟩),
   (let ⟨mc, n, q⟩ := T.nolimit; ⟨mc, ns_keep n fun o e => k _ o (solid_get.mpr ⟨e, hid_lt hf (by decide) (by decide) (by decide)⟩), q⟩),
   T.builtins, T.free⟩
theorem BMod.keep (B : BMod h mainGlobals mg 4 ob) (hf : Hi fs) (k : (solid fs h).StaysIn h') : BMod h' mainGlobals mg 4 ob :=
  ⟨ns_keep B.ns fun o e => k _ o (solid_get.mpr ⟨e, hid_lt hf (by decide) (by decide) (by decide)⟩), B.name, B.ne,
   k _ _ (solid_get.mpr ⟨B.obj, hid_lt hf (by decide) (by decide) (by decide)⟩), B.cls, B.dict, B.data⟩
theorem Wd.keeps (W : Wd w mg mb ob h) (k : ∀ b o, h.get? b = some o → h'.get? b = some o) : Wd w mg mb ob h' :=
  ⟨W.X.keeps k, W.T.keeps k, W.B.keeps k, (let ⟨ps, a, b⟩ := W.t1; ⟨ps, a.keeps k, b.keeps k⟩), (let ⟨ps, a, b⟩ := W.t2; ⟨ps, a.keeps k, b.keeps k⟩)⟩
abbrev tabO (ps : Array Value) : Obj := { cls := .none, data := .fields ps }
theorem tab_keep {c P : Addr} {ps ps' : Array Value} (x : h.IsCode c P ps) (y : h.TableAt c P ps) (kc : ∀ o, h.get? c = some o → h'.get? c = some o) (kP : h'.get? P = some (tabO ps')) (ht : TriplesOk ps'.toList) :
    h'.IsCode c P ps' ∧ h'.TableAt c P ps' := by
  obtain ⟨o, vs, file, tf, flags, tg, inF, text, tt, op, ho, r1, r2, r3, r4, r5, r6, _, _, _, r9⟩ := x
  obtain ⟨⟨o', vs', e', r'⟩, _⟩ := y
  exact ⟨⟨o, vs, file, tf, flags, tg, inF, text, tt, _, kc _ ho, r1, r2, r3, r4, r5, r6, kP, rfl, ht, r9⟩, ⟨o', vs', kc _ e', r'⟩, kP⟩
theorem Wd.grow (W : Wd w mg mb ob h) (hf : Hi fs) (k : (solid fs h).StaysIn h') (t1 : ∃ ps, h'.get? 74 = some (tabO ps) ∧ TriplesOk ps.toList) (t2 : ∃ ps, h'.get? 95 = some (tabO ps) ∧ TriplesOk ps.toList) : Wd w mg mb ob h' := by
  refine ⟨In.keep W.X hf k, TopRead.keep W.T hf k, BMod.keep W.B hf k, ?_, ?_⟩
  · obtain ⟨ps, a, b⟩ := W.t1
    obtain ⟨ps', e, t⟩ := t1
    exact ⟨ps', tab_keep a b (fun o e => k _ o (solid_get.mpr ⟨e, hid_lt hf (by decide) (by decide) (by decide)⟩)) e t⟩
  · obtain ⟨ps, a, b⟩ := W.t2
    obtain ⟨ps', e, t⟩ := t2
    exact ⟨ps', tab_keep a b (fun o e => k _ o (solid_get.mpr ⟨e, hid_lt hf (by decide) (by decide) (by decide)⟩)) e t⟩
theorem code_triples {c P : Addr} {ps : Array Value} (x : h.IsCode c P ps) : TriplesOk ps.toList := by
  obtain ⟨_, _, _, _, _, _, _, _, _, _, _, _, _, _, _, _, _, _, _, r, _⟩ := x; exact r
theorem Wd.tab1 (W : Wd w mg mb ob h) : ∃ ps, h.get? 74 = some (tabO ps) ∧ TriplesOk ps.toList := let ⟨ps, a, b⟩ := W.t1; ⟨ps, b.2, code_triples a⟩
theorem Wd.tab2 (W : Wd w mg mb ob h) : ∃ ps, h.get? 95 = some (tabO ps) ∧ TriplesOk ps.toList := let ⟨ps, a, b⟩ := W.t2; ⟨ps, b.2, code_triples a⟩
theorem Wd.size (W : Wd w mg mb ob h) : 158 < h.objs.size := by
  have : ∃ o, (hd.heap_39 w.params).lookup 158 = some o := ⟨_, rfl⟩
  obtain ⟨o, e⟩ := this
  exact Heap.lt_size (W.X _ _ e)
structure Mu (h₀ : Heap) (fs : List Addr) (mu : List (Addr × Obj)) : Prop where
  t1 : ∃ ps, (74, tabO ps) ∈ mu ∧ TriplesOk ps.toList
  t2 : ∃ ps, (95, tabO ps) ∈ mu ∧ TriplesOk ps.toList
  fr : ∀ b ∈ fs, ∀ o, h₀.get? b = some o → ∃ sl, (b, { o with slots := sl }) ∈ mu
  only : ∀ p ∈ mu, (∃ ps, p.2.data = .fields ps) ∨ ∃ es ep, p.2.data = .dict es ep
def Frames (envs : List Env) (h : Heap) : Prop := ∀ env ∈ envs, env.scope.kind ≠ .module ∧ ∃ L o, env.frame = some L ∧ h.get? L = some o ∧ ∃ es ep, o.data = .dict es ep
theorem Frames.dict {envs : List Env} (x : Frames envs h) {b : Addr} (hb : b ∈ fsOf envs) : ∃ o, h.get? b = some o ∧ ∃ es ep, o.data = .dict es ep := by
  obtain ⟨env, he, hf⟩ := List.mem_filterMap.mp hb
  obtain ⟨_, L, o, e, r⟩ := x env he
  rw [hf] at e; cases e
  exact ⟨o, r⟩
theorem mu_start (W : Wd w mg mb ob h) {envs : List Env} (x : Frames envs h) : ∃ mu, Mu h (fsOf envs) mu ∧ ∀ p ∈ mu, h.get? p.1 = some p.2 ∧ p.1 ∈ hid (fsOf envs) := by
  obtain ⟨p1, e1, r1⟩ := W.tab1
  obtain ⟨p2, e2, r2⟩ := W.tab2
  refine ⟨(74, tabO p1) :: (95, tabO p2) :: (fsOf envs).filterMap (fun b => (h.get? b).map (b, ·)), ⟨⟨p1, .head _, r1⟩, ⟨p2, .tail _ (.head _), r2⟩, fun b hb o e => ⟨o.slots, .tail _ (.tail _ (List.mem_filterMap.mpr ⟨b, hb, by rw [e]; rfl⟩))⟩, fun p hp => ?_⟩, fun p hp => ?_⟩
  · rcases List.mem_cons.mp hp with rfl | hp
    · exact .inl ⟨p1, rfl⟩
    · rcases List.mem_cons.mp hp with rfl | hp
      · exact .inl ⟨p2, rfl⟩
      · obtain ⟨b, hb, e⟩ := List.mem_filterMap.mp hp
        obtain ⟨o, ho, hd⟩ := x.dict hb
        rw [ho] at e; cases e
        exact .inr hd
  · rcases List.mem_cons.mp hp with rfl | hp
    · exact ⟨e1, .head _⟩
    · rcases List.mem_cons.mp hp with rfl | hp
      · exact ⟨e2, .tail _ (.head _)⟩
      · obtain ⟨b, hb, e⟩ := List.mem_filterMap.mp hp
        obtain ⟨o, ho, hd⟩ := x.dict hb
        rw [ho] at e; cases e
        exact ⟨ho, .tail _ (.tail _ hb)⟩
end
end Mine
namespace Mine
open PySem PySem.W PySem.Calls PySem.Spec PyProof.Rows
abbrev aro (dp un : Nat) (gd : Option (List Code)) (envs : List Env) : Around := { handled := none, depth := dp, frames := some envs, guards := gd, units := un }
structure Back (P : Prop) : Prop where
  out : P
structure Sit (w : World) (mg mb : Str → Option Value) (ob : Obj) (dp un : Nat) (envs : List Env) (n : Nat) (s : Shared) : Prop where
  W : Wd w mg mb ob s.heap
  fr : Frames envs s.heap
  hi : Hi (fsOf envs)
  bare : AllBare s.gens
  room : dp + n < recursionLimit
  units : un + 50 * n + 200 < cLine
structure Aft (w : World) (mg mb : Str → Option Value) (ob : Obj) (envs : List Env) (s s' : Shared) : Prop where
  grow : Grow (fsOf envs) s.heap s'.heap
  W : Wd w mg mb ob s'.heap
  os : s'.os = s.os
  bare : AllBare s'.gens
section
variable {w : World} {mg mb : Str → Option Value} {ob : Obj} {dp un n : Nat} {gd : Option (List Code)} {envs : List Env} {env : Env} {s s' : Shared} {h₀ h h₁ : Heap} {L : Addr} {m : Str → Option Value} {made mu news : List (Addr × Obj)} {fs : List Addr}
theorem Aft.sit (a : Aft w mg mb ob envs s s') (x : Sit w mg mb ob dp un envs n s) : Sit w mg mb ob dp un envs n s' :=
  ⟨a.W, fun env he => by
    obtain ⟨hk, L, o, hf, e, es, ep, hd⟩ := x.fr env he
    obtain ⟨sl, e'⟩ := a.grow.frm L (List.mem_filterMap.mpr ⟨env, he, hf⟩) o e
    exact ⟨hk, L, _, hf, e', es, ep, hd⟩, x.hi, a.bare, x.room, x.units⟩
theorem Aft.trans {s₁ s₂ s₃ : Shared} (a : Aft w mg mb ob envs s₁ s₂) (b : Aft w mg mb ob envs s₂ s₃) : Aft w mg mb ob envs s₁ s₃ := ⟨a.grow.trans b.grow, b.W, b.os.trans a.os, b.bare⟩
theorem News.sub {news' : List (Addr × Obj)} (N : News h₀ L h news) (k : ∀ p ∈ news', p ∈ news) : News h₀ L h news' := fun p hp => N p (k p hp)
theorem solid_lt {fs : List Addr} {L : Addr} (F : Fr (solid fs h₀) L h m) : h₀.objs.size ≤ L := by have := F.above; rwa [hideAll_size] at this
/-- the situation inside the body -/
theorem sit_in (x : Sit w mg mb ob dp un envs (n + 1) { s with heap := h₀ }) (F : Fr (solid (fsOf envs) h₀) L s'.heap m) (N : News (solid (fsOf envs) h₀) L s'.heap mu) (M : Mu h₀ (fsOf envs) mu)
    (hf : env.frame = some L) (hk : env.scope.kind ≠ .module) (bare : AllBare s'.gens) : Sit w mg mb ob (dp + 1) (un + 3) (env :: envs) n s' := by
  have hfs : fsOf (env :: envs) = L :: fsOf envs := by unfold fsOf; rw [List.filterMap_cons]; simp only [hf]
  have hL := solid_lt F
  have hsz : 158 < h₀.objs.size := x.W.size
  refine ⟨x.W.grow x.hi F.keep ?_ ?_, fun env' he => ?_, fun b hb => ?_, bare, ?_, ?_⟩
  · obtain ⟨ps, hm, t⟩ := M.t1; exact ⟨ps, (N _ hm).1, t⟩
  · obtain ⟨ps, hm, t⟩ := M.t2; exact ⟨ps, (N _ hm).1, t⟩
  · rcases List.mem_cons.mp he with rfl | he
    · obtain ⟨o, es, ep, e, hd, _⟩ := F.ns
      exact ⟨hk, L, o, hf, e, es, ep, hd⟩
    · obtain ⟨hk', L', o, hf', e, es, ep, hd⟩ := x.fr env' he
      obtain ⟨sl, hm⟩ := M.fr L' (List.mem_filterMap.mpr ⟨env', he, hf'⟩) o e
      exact ⟨hk', L', _, hf', (N _ hm).1, es, ep, hd⟩
  · rw [hfs] at hb
    rcases List.mem_cons.mp hb with rfl | hb
    · exact Nat.lt_of_lt_of_le hsz hL
    · exact x.hi b hb
  · have := x.room; omega
  · have := x.units; omega
/-- the facts of the frame behind a call that was made from it -/
theorem aft_in (x : Wd w mg mb ob h₀) (F : Fr (solid fs h₀) L s.heap m) (N : News (solid fs h₀) L s.heap (made ++ mu)) (M : Mu h₀ fs mu)
    (hfr : ∀ b ∈ fs, ∃ o, h₀.get? b = some o) (G : Grow (L :: fs) s.heap s'.heap) (W' : Wd w mg mb ob s'.heap)
    (hpl : ∀ p ∈ made, (∀ ps, p.2.data ≠ .fields ps) ∧ ∀ es ep, p.2.data ≠ .dict es ep) :
    ∃ mu', Mu h₀ fs mu' ∧ Fr (solid fs h₀) L s'.heap m ∧ News (solid fs h₀) L s'.heap (made ++ mu') := by
  have hL := solid_lt F
  have hsz : 158 < h₀.objs.size := x.size
  have keepB : ∀ b o, s.heap.get? b = some o → b ∉ hid fs → b ≠ L → s'.heap.get? b = some o := fun b o e n1 n2 =>
    G.keep b o (solid_get.mpr ⟨e, fun hm => by
      rcases List.mem_cons.mp hm with e | hm
      · exact n1 (e ▸ .head _)
      · rcases List.mem_cons.mp hm with e | hm
        · exact n1 (e ▸ .tail _ (.head _))
        · rcases List.mem_cons.mp hm with e | hm
          · exact n2 e
          · exact n1 (.tail _ (.tail _ hm))⟩)
  obtain ⟨q1, e1, r1⟩ := W'.tab1
  obtain ⟨q2, e2, r2⟩ := W'.tab2
  have hn74 : (solid fs h₀).get? 74 = none := hideAll_none _ (.head _)
  have hn95 : (solid fs h₀).get? 95 = none := hideAll_none _ (.tail _ (.head _))
  have hnfs : ∀ b ∈ fs, (solid fs h₀).get? b = none := fun b hb => hideAll_none _ (.tail _ (.tail _ hb))
  have memMu : ∀ b ∈ hid fs, ∃ o, (b, o) ∈ mu := by
    intro b hb
    rcases List.mem_cons.mp hb with rfl | hb
    · obtain ⟨ps, hm, _⟩ := M.t1; exact ⟨_, hm⟩
    · rcases List.mem_cons.mp hb with rfl | hb
      · obtain ⟨ps, hm, _⟩ := M.t2; exact ⟨_, hm⟩
      · obtain ⟨o, ho⟩ := hfr b hb
        obtain ⟨sl, hm⟩ := M.fr b hb o ho
        exact ⟨_, hm⟩
  refine ⟨(74, tabO q1) :: (95, tabO q2) :: fs.filterMap (fun b => (s'.heap.get? b).map (b, ·)), ⟨⟨q1, .head _, r1⟩, ⟨q2, .tail _ (.head _), r2⟩, fun b hb o e => ?_, fun p hp => ?_⟩, ?_, fun p hp => ?_⟩
  · obtain ⟨sl, hm⟩ := M.fr b hb o e
    obtain ⟨sl', e'⟩ := G.frm b (.tail _ hb) _ (N _ (List.mem_append_right _ hm)).1
    exact ⟨sl', .tail _ (.tail _ (List.mem_filterMap.mpr ⟨b, hb, by rw [e']; rfl⟩))⟩
  · rcases List.mem_cons.mp hp with rfl | hp
    · exact .inl ⟨_, rfl⟩
    · rcases List.mem_cons.mp hp with rfl | hp
      · exact .inl ⟨_, rfl⟩
      · obtain ⟨b, hb, e⟩ := List.mem_filterMap.mp hp
        obtain ⟨o, hm⟩ := memMu b (.tail _ (.tail _ hb))
        obtain ⟨sl', e'⟩ := G.frm b (.tail _ hb) _ (N _ (List.mem_append_right _ hm)).1
        rw [e'] at e; cases e
        have q := M.only (b, o) hm
        exact q
  · obtain ⟨o, es, ep, e, hd, r⟩ := F.ns
    obtain ⟨sl, e'⟩ := G.frm L (.head _) o e
    refine ⟨⟨_, es, ep, e', hd, r⟩, fun b o' e'' => ?_, F.above⟩
    have hb := solid_get.mp e''
    refine keepB b o' (F.keep b o' e'') hb.2 (fun q => ?_)
    subst q
    exact absurd (Heap.lt_size hb.1) (Nat.not_lt.mpr hL)
  · rcases List.mem_append.mp hp with hp | hp
    · have q := N p (List.mem_append_left _ hp)
      refine ⟨keepB _ _ q.1 (fun hm => ?_) q.2.1, q.2⟩
      obtain ⟨o, hm'⟩ := memMu _ hm
      have q' := (N _ (List.mem_append_right _ hm')).1
      have e : o = p.2 := Option.some.inj (q'.symm.trans q.1)
      rcases M.only _ hm' with ⟨ps, hd⟩ | ⟨es, ep, hd⟩
      · exact (hpl p hp).1 ps (by rw [← e]; exact hd)
      · exact (hpl p hp).2 es ep (by rw [← e]; exact hd)
    · rcases List.mem_cons.mp hp with rfl | hp
      · exact ⟨e1, fun q => by have : (74 : Nat) = L := q; omega, hn74⟩
      · rcases List.mem_cons.mp hp with rfl | hp
        · exact ⟨e2, fun q => by have : (95 : Nat) = L := q; omega, hn95⟩
        · obtain ⟨b, hb, e⟩ := List.mem_filterMap.mp hp
          obtain ⟨o, hm⟩ := memMu b (.tail _ (.tail _ hb))
          have q := N _ (List.mem_append_right _ hm)
          obtain ⟨sl', e'⟩ := G.frm b (.tail _ hb) _ q.1
          rw [e'] at e; cases e
          exact ⟨e', q.2.1, hnfs b hb⟩
/-- the way back -/
theorem grow_out (x : Wd w mg mb ob h₀) (hi : Hi fs) (F : Fr (solid fs h₀) L h m) (N : News (solid fs h₀) L h mu) (M : Mu h₀ fs mu) : Grow fs h₀ h ∧ Wd w mg mb ob h := by
  refine ⟨⟨F.keep, fun b hb o e => ?_⟩, x.grow hi F.keep ?_ ?_⟩
  · obtain ⟨sl, hm⟩ := M.fr b hb o e
    exact ⟨sl, (N _ hm).1⟩
  · obtain ⟨ps, hm, t⟩ := M.t1; exact ⟨ps, (N _ hm).1, t⟩
  · obtain ⟨ps, hm, t⟩ := M.t2; exact ⟨ps, (N _ hm).1, t⟩
theorem enter {R : Result → Shared → Prop} {name qual : Str} {params : Arguments} {body : List Stmt} {scope : Scope} {dV kV doc pm cdv ct oc : Value} {an od : Option Addr} {osl : Array (Option Value)} {f : Addr} {args : Args} {binds : List (Str × Value)}
    (x : Sit w mg mb ob dp un envs (n + 1) s)
    (ho : (hd.heap_39 w.params).lookup f = some ⟨oc, od, .func (fnOf name qual params body scope dV kV doc pm an cdv ct), osl⟩) (hcd : codeIn (hd.heap_39 w.params) cdv qual = true)
    (hbind : BindsTo s (fnOf name qual params body scope dV kV doc pm an cdv ct) args binds) (hloc : ∀ y ∈ binds, scope.names.lookup y.1 = some .local)
    (h : ∀ L' h₁ mu, Fr (solid (fsOf envs) s.heap) L' h₁ (fun y => binds.reverse.lookup y) → News (solid (fsOf envs) s.heap) L' h₁ mu → Mu s.heap (fsOf envs) mu → (hd.heap_39 w.params).In (solid (fsOf envs) s.heap) → TopRead VW LOO mg mb (solid (fsOf envs) s.heap) →
      wpAny (model PRG w) ((aro dp un gd envs).deeper (envOf qual scope L' f cdv)) (execs body (envOf qual scope L' f cdv))
        (fun fl s' => Back (R (.ok (.ret (match fl with | .ret v => v | _ => .none))) s'))
        (fun e s' => Back (wpAny (model PRG w) ((aro dp un gd envs).deeper (envOf qual scope L' f cdv)) (leaving (envOf qual scope L' f cdv) e) (fun _ s'' => R (.error e) s'') (fun e' s'' => R (.error e') s'') s'))
        { s with heap := h₁, toks := s.toks + binds.length })
    (hco : scope.isCoroutine = false) (hgen : scope.isGenerator = false) (hk : scope.kind = .function)
    (hcell : ∀ x ∈ scope.names, x.2 ≠ .cell) : codeAny (model PRG w) (aro dp un gd envs) (.call (.ref f) args) R s := by
  obtain ⟨mu, M, hm⟩ := mu_start x.W x.fr
  have hroom : dp < recursionLimit := Nat.lt_of_le_of_lt (Nat.le_add_right _ _) x.room
  refine codeAny_call_def (fd := fnOf name qual params body scope dV kV doc pm an cdv ct) (body := body) (binds := binds) hroom (x.W.X _ _ ho) rfl x.W.T.nolimit (codeRec_of x.W.X hcd) rfl hbind hcell hloc (fun h₁ hns hk₁ => ?_) hco hgen hk
  exact wpAny_mono (h s.heap.objs.size h₁ mu ⟨hns, fun b o e => hk₁ b o (solid_get.mp e).1, Nat.le_of_eq (hideAll_size _ _)⟩
    (fun p hp => ⟨hk₁ _ _ (hm p hp).1, Nat.ne_of_lt (Heap.lt_size (hm p hp).1), hideAll_none _ (hm p hp).2⟩) M (In.keep x.W.X x.hi fun b o e => e) (TopRead.keep x.W.T x.hi fun b o e => e)) (fun fl s' hl => hl.out) fun _ _ y => y.out
theorem enterC {R : Result → Shared → Prop} {name qual : Str} {params : Arguments} {body : List Stmt} {scope : Scope} {dV kV doc pm cdv ct oc : Value} {an od : Option Addr} {osl : Array (Option Value)} {f : Addr} {args : Args} {binds : List (Str × Value)}
    (x : Sit w mg mb ob dp un envs (n + 1) s)
    (ho : (hd.heap_39 w.params).lookup f = some ⟨oc, od, .func (fnOf name qual params body scope dV kV doc pm an cdv ct), osl⟩) (hcd : codeIn (hd.heap_39 w.params) cdv qual = true)
    (hbind : BindsTo s (fnOf name qual params body scope dV kV doc pm an cdv ct) args binds)
    (hkind : (binds.all fun y => scope.names.lookup y.1 == some .local || scope.names.lookup y.1 == some .cell) = true)
    (hnd : ((cellsFrom 0 scope.names []).map (·.1)).Nodup)
    (h : ∀ L' h₁ tk cells mu, Fr (solid (fsOf envs) s.heap) L' h₁ (bindL (envOfC qual scope L' f cdv).kindOf binds fun _ => none) → News (solid (fsOf envs) s.heap) L' h₁ (cells ++ mu) →
      CellsAre (bindC (envOfC qual scope L' f cdv).kindOf binds fun _ => none) (cellsFrom (L' + 1) scope.names []) cells → Mu s.heap (fsOf envs) mu → (hd.heap_39 w.params).In (solid (fsOf envs) s.heap) → TopRead VW LOO mg mb (solid (fsOf envs) s.heap) → (∀ p ∈ mu, p.1 < L') →
      wpAny (model PRG w) ((aro dp un gd envs).deeper (envOfC qual scope L' f cdv)) (execs body (envOfC qual scope L' f cdv))
        (fun fl s' => Back (R (.ok (.ret (match fl with | .ret v => v | _ => .none))) s'))
        (fun e s' => Back (wpAny (model PRG w) ((aro dp un gd envs).deeper (envOfC qual scope L' f cdv)) (leaving (envOfC qual scope L' f cdv) e) (fun _ s'' => R (.error e) s'') (fun e' s'' => R (.error e') s'') s'))
        { s with heap := h₁, toks := tk })
    (hco : scope.isCoroutine = false) (hgen : scope.isGenerator = false) (hk : scope.kind = .function) : codeAny (model PRG w) (aro dp un gd envs) (.call (.ref f) args) R s := by
  obtain ⟨mu, M, hm⟩ := mu_start x.W x.fr
  have hroom : dp < recursionLimit := Nat.lt_of_le_of_lt (Nat.le_add_right _ _) x.room
  refine codeAny_call_function hroom (x.W.X _ _ ho) rfl hco hgen rfl (codeRec_of x.W.X hcd) (hbind _ _ _ _ ?_)
  refine wpAny_newFunctionEnv_cells hk (kindsX hkind _) fun env' he s' y => ?_
  subst he
  refine ⟨x.W.T.nolimit.keeps y.toInCall.keep, codeAny_func ?_⟩
  obtain ⟨h₁, tk, rfl, _⟩ := y.done
  have hk₁ := y.toInCall.keep
  obtain ⟨cells, NC, Y⟩ := Cl.news (h₀ := s.heap) (Nat.le_refl _) fun n c hm => ⟨y.cell n c (lookup_of_mem_nodup (cellsFrom_names scope.names 0 (s.heap.objs.size + 1) [] [] rfl ▸ hnd) hm), y.above n c hm⟩
  refine wpAny_mono (h s.heap.objs.size h₁ tk cells mu ⟨y.toInCall.ns, fun b o e => hk₁ b o (solid_get.mp e).1, Nat.le_of_eq (hideAll_size _ _)⟩ (fun p hp => ?_) Y M (In.keep x.W.X x.hi fun b o e => e) (TopRead.keep x.W.T x.hi fun b o e => e) (fun p hp => Heap.lt_size (hm p hp).1)) (fun fl s' hl => hl.out) fun _ _ y => y.out
  rcases List.mem_append.mp hp with hp | hp
  · refine ⟨(NC p hp).1, (NC p hp).2.1, ?_⟩
    cases q : (solid (fsOf envs) s.heap).get? p.1 with
    | none => rfl
    | some o => have := of_hideAll _ q; rw [(NC p hp).2.2] at this; cases this
  · exact ⟨hk₁ _ _ (hm p hp).1, Nat.ne_of_lt (Heap.lt_size (hm p hp).1), hideAll_none _ (hm p hp).2⟩
end
end Mine
namespace Mine
open PySem PySem.Float64
/-- the double x stands for the half number m/2 -/
structure IsH (x : UInt64) (m : Int) : Prop where
  fin : ∃ a M e, decode x = .fin a M e
  val : val x = m * 2 ^ 1073
theorem pow_split (a b c : Nat) (h : c = a + b) : (2:Nat) ^ c = 2 ^ a * 2 ^ b := by rw [h, Nat.pow_add]
theorem right_exact {r : UInt64} {neg : Bool} {w W : Nat} (h : Right r neg W 1) (hw : W = w * 2 ^ 1073) (hlt : w < 2 ^ 53) :
    ∃ M e, decode r = .fin neg M e ∧ Float64.val r = sgn neg W := by
  obtain ⟨t, rfl, hti, hov, hn⟩ := h
  have hno : t < infMag := by
    rcases Nat.lt_or_ge t infMag with h | h
    · exact h
    · exfalso
      have e : t = infMag := Nat.le_antisymm hti h
      have q := hov.mp e
      have e1 : (2:Nat) ^ 2045 = 2 ^ 972 * 2 ^ 1073 := pow_split _ _ _ (by decide)
      have e2 : (2:Nat) ^ 972 = 2 ^ 53 * 2 ^ 919 := pow_split _ _ _ (by decide)
      rw [hw, e1, Nat.one_mul, ← Nat.mul_assoc, ← Nat.mul_assoc] at q
      have q2 := Nat.le_of_mul_le_mul_right q (Nat.two_pow_pos 1073)
      rw [e2] at q2
      have h9 : 1 ≤ (2:Nat) ^ 919 := Nat.two_pow_pos 919
      have h10 : (2 ^ 54 - 1) * (2 ^ 53 * 1) ≤ (2 ^ 54 - 1) * (2 ^ 53 * 2 ^ 919) := Nat.mul_le_mul_left _ (Nat.mul_le_mul_left _ h9)
      generalize (2:Nat) ^ 919 = z at *
      omega
  have hex : ∃ t', V t' = W := by
    by_cases h0 : w = 0
    · exact ⟨0, by rw [V_zero, hw, h0, Nat.zero_mul]⟩
    · have hl : w.log2 < 53 := (Nat.log2_lt h0).mpr hlt
      have h1 : 2 ^ w.log2 ≤ w := Nat.log2_self_le h0
      have h2 : w < 2 ^ (w.log2 + 1) := Nat.lt_log2_self
      refine ⟨(1073 - (52 - w.log2)) * 2 ^ 52 + w * 2 ^ (52 - w.log2), ?_⟩
      have a1 : 2 ^ 52 ≤ w * 2 ^ (52 - w.log2) := by
        have := Nat.mul_le_mul_right (2 ^ (52 - w.log2)) h1
        rw [← Nat.pow_add] at this
        rwa [show w.log2 + (52 - w.log2) = 52 from by omega] at this
      have a2 : w * 2 ^ (52 - w.log2) ≤ 2 ^ 53 := by
        have := Nat.mul_le_mul_right (2 ^ (52 - w.log2)) (Nat.le_of_lt h2)
        rw [← Nat.pow_add] at this
        rwa [show w.log2 + 1 + (52 - w.log2) = 53 from by omega] at this
      rw [V_at a2 (.inl a1), hw, Nat.mul_assoc, ← Nat.pow_add, show 52 - w.log2 + (1073 - (52 - w.log2)) = 1073 from by omega]
  obtain ⟨t', ht'⟩ := hex
  have hd := (hn hno t').1
  rw [ht', Nat.one_mul, Nat.one_mul] at hd
  have hV : V t = W := by
    unfold dist at hd
    omega
  obtain ⟨m, e, hdec, hv⟩ := decode_pack neg hno
  exact ⟨m, e, hdec, by rw [val_pack neg hno, hV]⟩
theorem isH_zero (b : Bool) : IsH (zero b) 0 := by
  have hi : (0 : Nat) < infMag := by decide
  obtain ⟨m, e, h, _⟩ := decode_pack b hi
  refine ⟨⟨_, _, _, h⟩, ?_⟩
  unfold zero
  rw [val_pack b hi, V_zero, Int.zero_mul]
  cases b <;> rfl
theorem isH_of_right {r : UInt64} {neg : Bool} {m : Int} (h : Right r neg (m.natAbs * 2 ^ 1073) 1) (hneg : m ≠ 0 → neg = decide (m < 0)) (hm : m.natAbs < 2 ^ 53) : IsH r m := by
  obtain ⟨M, e, hd, hv⟩ := right_exact h rfl hm
  refine ⟨⟨_, _, _, hd⟩, ?_⟩
  rw [hv, sgn_mul]
  have : sgn neg m.natAbs = m := by
    unfold sgn
    by_cases h0 : m = 0
    · subst h0; cases neg <;> rfl
    · rw [hneg h0]
      by_cases hl : m < 0
      · simp only [hl, decide_true, if_true]; omega
      · simp only [hl, decide_false, Bool.false_eq_true, if_false]; omega
  rw [this]; simp
theorem isH_add {x y : UInt64} {a b : Int} (hx : IsH x a) (hy : IsH y b) (hm : (a + b).natAbs < 2 ^ 53) : IsH (add x y) (a + b) := by
  obtain ⟨⟨s1, m1, e1, d1⟩, v1⟩ := hx
  obtain ⟨⟨s2, m2, e2, d2⟩, v2⟩ := hy
  have R := add_right d1 d2
  have hs : Float64.val x + Float64.val y = (a + b) * 2 ^ 1073 := by rw [v1, v2, Int.add_mul]
  rw [hs] at R
  have hp : (0 : Int) < 2 ^ 1073 := by exact Int.pow_pos (by decide)
  by_cases h0 : a + b = 0
  · rw [h0] at R ⊢
    rw [R.1 (Int.zero_mul _)]
    exact isH_zero _
  · have hne : (a + b) * 2 ^ 1073 ≠ 0 := Int.mul_ne_zero h0 (Int.ne_of_gt hp)
    have R2 := R.2 hne
    have e3 : ((a + b) * 2 ^ 1073).natAbs = (a + b).natAbs * 2 ^ 1073 := by
      rw [Int.natAbs_mul, Int.natAbs_pow]; rfl
    rw [e3] at R2
    refine isH_of_right R2 (fun _ => ?_) hm
    congr 1
    apply propext
    constructor
    · intro h
      rcases Int.lt_trichotomy (a + b) 0 with q | q | q
      · exact q
      · exact absurd q h0
      · exact absurd h (Int.not_lt.mpr (Int.le_of_lt (Int.mul_pos q hp)))
    · intro h; exact Int.mul_neg_of_neg_of_pos h hp
theorem isH_neg {y : UInt64} {b : Int} (hy : IsH y b) : IsH (neg y) (-b) := by
  obtain ⟨⟨s2, m2, e2, d2⟩, v2⟩ := hy
  exact ⟨⟨_, _, _, neg_decode d2⟩, by rw [neg_val d2, v2, Int.neg_mul]⟩
theorem isH_sub {x y : UInt64} {a b : Int} (hx : IsH x a) (hy : IsH y b) (hm : (a - b).natAbs < 2 ^ 53) : IsH (sub x y) (a - b) := by
  have := isH_add hx (isH_neg hy) (by rw [← Int.sub_eq_add_neg]; exact hm)
  rw [← Int.sub_eq_add_neg] at this
  unfold sub; exact this
theorem isH_ofInt {n : Int} (hm : n.natAbs < 2 ^ 52) : IsH (ofInt n) (2 * n) := by
  have R := ofInt_right n
  have e : n.natAbs * 2 ^ 1074 = (2 * n).natAbs * 2 ^ 1073 := by
    rw [Int.natAbs_mul, show (1074 : Nat) = 1 + 1073 from rfl, Nat.pow_add, ← Nat.mul_assoc, Nat.mul_comm n.natAbs (2 ^ 1)]; rfl
  rw [e] at R
  refine isH_of_right R (fun _ => ?_) (by rw [Int.natAbs_mul]; simp; omega)
  congr 1
  apply propext
  constructor <;> intro h <;> omega
theorem isH_cmp {x y : UInt64} {a b : Int} (hx : IsH x a) (hy : IsH y b) : cmp x y = some (compare a b) := by
  obtain ⟨⟨s1, m1, e1, d1⟩, v1⟩ := hx
  obtain ⟨⟨s2, m2, e2, d2⟩, v2⟩ := hy
  rw [cmp_right d1 d2, v1, v2]
  have hp : (0 : Int) < 2 ^ 1073 := Int.pow_pos (by decide)
  generalize (2:Int) ^ 1073 = K at *
  congr 1
  rcases Int.lt_trichotomy a b with h | h | h
  · rw [Int.compare_eq_lt.mpr h, Int.compare_eq_lt.mpr (Int.mul_lt_mul_of_pos_right h hp)]
  · subst h; simp
  · rw [Int.compare_eq_gt.mpr h, Int.compare_eq_gt.mpr (Int.mul_lt_mul_of_pos_right h hp)]
theorem isH_eq {x y : UInt64} {a b : Int} (hx : IsH x a) (hy : IsH y b) : (cmp x y == some .eq) = decide (a = b) := by
  rw [isH_cmp hx hy]
  rcases Int.lt_trichotomy a b with h | h | h
  · rw [Int.compare_eq_lt.mpr h, decide_eq_false (Int.ne_of_lt h)]; rfl
  · subst h; simp
  · rw [Int.compare_eq_gt.mpr h, decide_eq_false (Int.ne_of_gt h)]; rfl
theorem isH_ne {x y : UInt64} {a b : Int} (hx : IsH x a) (hy : IsH y b) : (cmp x y != some .eq) = decide (a ≠ b) := by
  rw [bne, isH_eq hx hy]; simp
theorem isH_lt {x y : UInt64} {a b : Int} (hx : IsH x a) (hy : IsH y b) : (cmp x y == some .lt) = decide (a < b) := by
  rw [isH_cmp hx hy]
  rcases Int.lt_trichotomy a b with h | h | h
  · rw [Int.compare_eq_lt.mpr h, decide_eq_true h]; rfl
  · subst h; simp
  · rw [Int.compare_eq_gt.mpr h, decide_eq_false (by omega)]; rfl
theorem isH_isZero {x : UInt64} {a : Int} (hx : IsH x a) : isZero x = decide (a = 0) := by
  obtain ⟨⟨s1, m1, e1, d1⟩, v1⟩ := hx
  have hp : (0 : Int) < 2 ^ 1073 := Int.pow_pos (by decide)
  have h1 := val_natAbs d1
  rw [v1] at h1
  unfold isZero
  rw [d1]
  by_cases h0 : m1 = 0
  · subst h0
    rw [Nat.zero_mul, Int.natAbs_eq_zero] at h1
    have : a = 0 := by
      rcases Int.mul_eq_zero.mp h1 with h | h
      · exact h
      · exact absurd h (Int.ne_of_gt hp)
    simp [this]
  · have : a ≠ 0 := by
      rintro rfl
      rw [Int.zero_mul] at h1
      have := Nat.mul_pos (Nat.pos_of_ne_zero h0) (Nat.two_pow_pos (e1 + 1074).toNat)
      simp at h1; omega
    simp [this]
    cases m1 with
    | zero => exact absurd rfl h0
    | succ k => rfl
theorem isH_notInf {x : UInt64} {a : Int} (hx : IsH x a) : isInf x = false := by
  obtain ⟨⟨s1, m1, e1, d1⟩, v1⟩ := hx
  unfold isInf; rw [d1]
theorem align_same {a b : Bool} {m k : Nat} {e f : Int} : align false m e false k f = (((m * 2 ^ (e - min e f).toNat : Nat) : Int), ((k * 2 ^ (f - min e f).toNat : Nat) : Int), min e f) := by
  unfold align sgn; simp
theorem isH_fmod {x y : UInt64} {a b : Int} (hx : IsH x (2 * a)) (hy : IsH y (2 * b)) (hb : 0 < b) (hm : a.natAbs < 2 ^ 50) (hn : b.natAbs < 2 ^ 50) :
    ∃ z, fmod x y = z ∧ IsH z (if a < 0 then -(2 * ((a.natAbs % b.natAbs : Nat) : Int)) else 2 * ((a.natAbs % b.natAbs : Nat) : Int)) := by
  obtain ⟨⟨s1, m1, e1, d1⟩, v1⟩ := hx
  obtain ⟨⟨s2, m2, e2, d2⟩, v2⟩ := hy
  have he := decode_ge d1
  have hf := decode_ge d2
  have hp : (0 : Int) < 2 ^ 1073 := Int.pow_pos (by decide)
  have n1 := val_natAbs d1
  have n2 := val_natAbs d2
  have k2 : m2 ≠ 0 := by
    rintro rfl
    rw [v2, Nat.zero_mul, Int.natAbs_eq_zero] at n2
    rcases Int.mul_eq_zero.mp n2 with h | h <;> omega
  have hfm : fmod x y = ofBin s1 ((m1 * 2 ^ (e1 - min e1 e2).toNat) % (m2 * 2 ^ (e2 - min e1 e2).toNat)) (min e1 e2) := by
    unfold fmod
    rw [d1, d2]
    simp only [beq_iff_eq, k2, if_false]
    rw [align_same (a := false) (b := false)]
    rfl
  refine ⟨_, hfm, ?_⟩
  have R := ofBin_right (neg := s1) (M := (m1 * 2 ^ (e1 - min e1 e2).toNat) % (m2 * 2 ^ (e2 - min e1 e2).toNat)) (g := min e1 e2) (by omega)
  have w1 : m1 * 2 ^ (e1 - min e1 e2).toNat * 2 ^ (min e1 e2 + 1074).toNat = a.natAbs * 2 ^ 1074 := by
    rw [Nat.mul_assoc, ← Nat.pow_add, show (e1 - min e1 e2).toNat + (min e1 e2 + 1074).toNat = (e1 + 1074).toNat from by omega, ← n1, v1, Int.natAbs_mul, Int.natAbs_mul, Int.natAbs_pow, show (1074 : Nat) = 1 + 1073 from rfl, Nat.pow_add]
    show 2 * a.natAbs * 2 ^ 1073 = a.natAbs * (2 * 2 ^ 1073)
    ac_rfl
  have w2 : m2 * 2 ^ (e2 - min e1 e2).toNat * 2 ^ (min e1 e2 + 1074).toNat = b.natAbs * 2 ^ 1074 := by
    rw [Nat.mul_assoc, ← Nat.pow_add, show (e2 - min e1 e2).toNat + (min e1 e2 + 1074).toNat = (e2 + 1074).toNat from by omega, ← n2, v2, Int.natAbs_mul, Int.natAbs_mul, Int.natAbs_pow, show (1074 : Nat) = 1 + 1073 from rfl, Nat.pow_add]
    show 2 * b.natAbs * 2 ^ 1073 = b.natAbs * (2 * 2 ^ 1073)
    ac_rfl
  have w3 : (m1 * 2 ^ (e1 - min e1 e2).toNat) % (m2 * 2 ^ (e2 - min e1 e2).toNat) * 2 ^ (min e1 e2 + 1074).toNat = (a.natAbs % b.natAbs) * 2 ^ 1074 := by
    rw [← Nat.mul_mod_mul_right, w1, w2, Nat.mul_mod_mul_right]
  rw [w3] at R
  have hlt : a.natAbs % b.natAbs < 2 ^ 50 := Nat.lt_of_le_of_lt (Nat.mod_le _ _) hm
  have e3 : (a.natAbs % b.natAbs) * 2 ^ 1074 = (if a < 0 then -(2 * ((a.natAbs % b.natAbs : Nat) : Int)) else 2 * ((a.natAbs % b.natAbs : Nat) : Int)).natAbs * 2 ^ 1073 := by
    rw [show (1074 : Nat) = 1 + 1073 from rfl, Nat.pow_add, ← Nat.mul_assoc]
    congr 1
    split <;> omega
  rw [e3] at R
  refine isH_of_right R (fun hne => ?_) (by split <;> omega)
  have sg := val_eq d1
  rw [v1] at sg
  by_cases ha : a < 0
  · rw [if_pos ha] at hne ⊢
    have hneg : -(2 * ((a.natAbs % b.natAbs : Nat) : Int)) < 0 := by omega
    rw [decide_eq_true hneg]
    cases s1 with
    | true => rfl
    | false =>
      exfalso
      unfold sgn at sg
      simp only [Bool.false_eq_true, if_false] at sg
      have : 2 * a * 2 ^ 1073 < 0 := Int.mul_neg_of_neg_of_pos (by omega) hp
      omega
  · rw [if_neg ha] at hne ⊢
    have hneg : ¬ 2 * ((a.natAbs % b.natAbs : Nat) : Int) < 0 := by omega
    rw [decide_eq_false hneg]
    cases s1 with
    | false => rfl
    | true =>
      exfalso
      unfold sgn at sg
      simp only [if_true] at sg
      have h0 : a ≠ 0 := by
        rintro rfl
        simp at hne
      have : 0 < 2 * a * 2 ^ 1073 := Int.mul_pos (by omega) hp
      omega
theorem isH_mod {x y : UInt64} {a b : Int} (hx : IsH x (2 * a)) (hy : IsH y (2 * b)) (hb : 0 < b) (hm : a.natAbs < 2 ^ 50) (hn : b.natAbs < 2 ^ 50) :
    IsH (divmod x y).2 (2 * (a % b)) := by
  obtain ⟨z, hz, zh⟩ := isH_fmod hx hy hb hm hn
  have c1 := isH_isZero zh
  have c2 := isH_lt hy (isH_zero false)
  have c3 := isH_lt zh (isH_zero false)
  have hyn : ¬ 2 * b < 0 := by omega
  have ez : (divmod x y).2 = if isZero z then copysign (zero false) y else if (lt y (zero false) != lt z (zero false)) = true then add z y else z := by
    unfold divmod
    rw [hz]
    dsimp only
    split
    · rfl
    · split <;> rfl
  have ly : lt y (zero false) = false := by unfold lt; rw [c2]; exact decide_eq_false hyn
  rw [ez, c1, ly]
  have key : (a.natAbs % b.natAbs : Nat) = if a < 0 then ((-a) % b).toNat else (a % b).toNat := by
    split
    · have : (a.natAbs : Int) % b.natAbs = (-a) % b := by congr 1 <;> omega
      omega
    · have : (a.natAbs : Int) % b.natAbs = a % b := by congr 1 <;> omega
      omega
  have p1 := Int.emod_nonneg a (show b ≠ 0 by omega)
  have p2 := Int.emod_lt_of_pos a hb
  have p3 := Int.emod_nonneg (-a) (show b ≠ 0 by omega)
  have p4 := Int.emod_lt_of_pos (-a) hb
  have p5 : (-a) % b = if a % b = 0 then 0 else b - a % b := by
    split
    · rename_i h
      exact Int.emod_eq_zero_of_dvd ((Int.dvd_neg).mpr (Int.dvd_of_emod_eq_zero h))
    · rename_i h
      have e : -a = (b - a % b) + b * (-(a / b) - 1) := by
        have := Int.mul_ediv_add_emod a b
        rw [Int.mul_sub, Int.mul_neg, Int.mul_one]; omega
      rw [e, Int.add_mul_emod_self_left]
      exact Int.emod_eq_of_lt (by omega) (by omega)
  by_cases hz0 : a.natAbs % b.natAbs = 0
  · have e0 : (if a < 0 then -(2 * ((a.natAbs % b.natAbs : Nat) : Int)) else 2 * ((a.natAbs % b.natAbs : Nat) : Int)) = 0 := by rw [hz0]; split <;> rfl
    rw [e0]
    simp only [decide_true, if_true]
    have em : a % b = 0 := by
      rw [hz0] at key
      by_cases ha : a < 0
      · rw [if_pos ha] at key
        by_cases h : a % b = 0
        · exact h
        · rw [if_neg h] at p5; omega
      · rw [if_neg ha] at key; omega
    rw [em]
    unfold copysign
    have hnn : isNaN (zero false) = false := by
      obtain ⟨⟨_, _, _, d⟩, _⟩ := isH_zero false
      unfold isNaN; rw [d]
    rw [hnn]
    have ht : (zero false).toNat % 2 ^ 63 = 0 := by
      unfold zero
      rw [pack_toNat false (by decide)]
      rfl
    simp only [Bool.false_eq_true, if_false, ht]
    exact isH_zero _
  · by_cases ha : a < 0
    · rw [if_pos ha] at zh c3 key ⊢
      have lz : lt z (zero false) = true := by unfold lt; rw [c3]; exact decide_eq_true (by omega)
      have hne : -(2 * ((a.natAbs % b.natAbs : Nat) : Int)) ≠ 0 := by omega
      simp only [hne, decide_false, Bool.false_eq_true, if_false, lz]
      have := isH_add zh hy (by omega)
      simp only [Bool.false_bne, if_true]
      have e : -(2 * ((a.natAbs % b.natAbs : Nat) : Int)) + 2 * b = 2 * (a % b) := by
        by_cases h : a % b = 0
        · rw [if_pos h] at p5; omega
        · rw [if_neg h] at p5; omega
      rw [← e]; exact this
    · rw [if_neg ha] at zh c3 key ⊢
      have lz : lt z (zero false) = false := by unfold lt; rw [c3]; exact decide_eq_false (by omega)
      have hne : (2 * ((a.natAbs % b.natAbs : Nat) : Int)) ≠ 0 := by omega
      simp only [hne, decide_false, Bool.false_eq_true, if_false, lz]
      simp only [bne_self_eq_false, Bool.false_eq_true, if_false]
      have e : (2 * ((a.natAbs % b.natAbs : Nat) : Int)) = 2 * (a % b) := by omega
      rw [← e]; exact zh
end Mine
namespace Mine
open PySem PySem.Float64
theorem floorOf_val {m : Nat} {e : Int} (he : -1074 ≤ e) : floorOf false m e = ((m * 2 ^ (e + 1074).toNat / 2 ^ 1074 : Nat) : Int) := by
  unfold floorOf sgn
  split
  · rename_i h
    rw [show (e + 1074).toNat = e.toNat + 1074 from by omega, Nat.pow_add, ← Nat.mul_assoc, Nat.mul_div_cancel _ (Nat.two_pow_pos _)]
    simp
  · rename_i h
    have hs : (2:Nat) ^ 1074 = 2 ^ (e + 1074).toNat * 2 ^ (-e).toNat := by rw [← Nat.pow_add]; congr 1; omega
    rw [hs, Nat.mul_comm m, Nat.mul_div_mul_left _ _ (Nat.two_pow_pos _)]
    simp only [Bool.false_eq_true, if_false]
    rw [Int.fdiv_eq_ediv_of_nonneg _ (by exact Int.le_of_lt (Int.pow_pos (by decide)))]
    simp
theorem truncOf_nonneg {s : Bool} {m : Nat} {e : Int} (he : -1074 ≤ e) (h : s = false ∨ m = 0) : truncOf s m e = ((m * 2 ^ (e + 1074).toNat / 2 ^ 1074 : Nat) : Int) := by
  rcases h with rfl | rfl
  · unfold truncOf; simp only [Bool.false_eq_true, if_false]; exact floorOf_val he
  · unfold truncOf ceilOf
    cases s
    · simp only [Bool.false_eq_true, if_false]; exact floorOf_val he
    · simp only [if_true, Bool.not_true]; rw [floorOf_val he]; simp
theorem isH_trunc {x : UInt64} {a : Int} (hx : IsH x a) (ha : 0 ≤ a) : ∃ s m e, decode x = .fin s m e ∧ truncOf s m e = a / 2 := by
  obtain ⟨⟨s1, m1, e1, d1⟩, v1⟩ := hx
  refine ⟨_, _, _, d1, ?_⟩
  have hp : (0 : Int) < 2 ^ 1073 := Int.pow_pos (by decide)
  have n1 := val_natAbs d1
  have sg := val_eq d1
  rw [v1] at n1 sg
  have hor : s1 = false ∨ m1 = 0 := by
    cases s1 with
    | false => exact .inl rfl
    | true =>
      right
      unfold sgn at sg
      simp only [if_true] at sg
      have : 0 ≤ a * 2 ^ 1073 := Int.mul_nonneg ha (Int.le_of_lt hp)
      have h0 : m1 * 2 ^ (e1 + 1074).toNat = 0 := by omega
      rcases Nat.mul_eq_zero.mp h0 with h | h
      · exact h
      · exact absurd h (Nat.ne_of_gt (Nat.two_pow_pos _))
  rw [truncOf_nonneg (decode_ge d1) hor, ← n1, Int.natAbs_mul, Int.natAbs_pow, show (1074 : Nat) = 1 + 1073 from rfl, Nat.pow_add]
  show ((a.natAbs * 2 ^ 1073 / (2 * 2 ^ 1073) : Nat) : Int) = a / 2
  rw [Nat.mul_div_mul_right _ _ (Nat.two_pow_pos _)]
  omega
theorem isH_div20 {x y : UInt64} {d : Int} (hx : IsH x (2 * d)) (hy : IsH y 40) (h0 : 0 ≤ d) (h1 : d < 365) : ∃ s m e, decode (div x y) = .fin s m e ∧ truncOf s m e = d / 20 := by
  obtain ⟨⟨s1, m1, e1, d1⟩, v1⟩ := hx
  obtain ⟨⟨s2, m2, e2, d2⟩, v2⟩ := hy
  have hp : (0 : Int) < 2 ^ 1073 := Int.pow_pos (by decide)
  have n1 := val_natAbs d1
  have n2 := val_natAbs d2
  have sg1 := val_eq d1
  have sg2 := val_eq d2
  have k2 : m2 ≠ 0 := by
    rintro rfl
    rw [v2, Nat.zero_mul, Int.natAbs_eq_zero] at n2
    rcases Int.mul_eq_zero.mp n2 with h | h <;> omega
  have R := div_right d1 d2 k2
  have a1 : (Float64.val x).natAbs = 2 * d.natAbs * 2 ^ 1073 := by rw [v1, Int.natAbs_mul, Int.natAbs_mul, Int.natAbs_pow]; rfl
  have a2 : (Float64.val y).natAbs = 40 * 2 ^ 1073 := by rw [v2, Int.natAbs_mul, Int.natAbs_pow]; rfl
  rw [a1, a2] at R
  obtain ⟨t, ht, hti, hov, hn⟩ := R
  have hdn : d.natAbs < 365 := by omega
  have hno : t < infMag := by
    rcases Nat.lt_or_ge t infMag with h | h
    · exact h
    · exfalso
      have q := hov.mp (Nat.le_antisymm hti h)
      have e0 : (2:Nat) ^ 2045 = 2 ^ 971 * 2 ^ 1074 := pow_split _ _ _ (by decide)
      have q' : 40 * (2 ^ 54 - 1) * 2 ^ 971 * (2 ^ 1073 * 2 ^ 1074) ≤ (4 * d.natAbs) * (2 ^ 1073 * 2 ^ 1074) := by
        rw [e0] at q
        have l : 40 * 2 ^ 1073 * ((2 ^ 54 - 1) * (2 ^ 971 * 2 ^ 1074)) = 40 * (2 ^ 54 - 1) * 2 ^ 971 * (2 ^ 1073 * 2 ^ 1074) := by ac_rfl
        have r : 2 * (2 * d.natAbs * 2 ^ 1073 * 2 ^ 1074) = (2 * 2 * d.natAbs) * (2 ^ 1073 * 2 ^ 1074) := by ac_rfl
        rw [l, r] at q
        exact q
      have q2 := Nat.le_of_mul_le_mul_right q' (Nat.mul_pos (Nat.two_pow_pos 1073) (Nat.two_pow_pos 1074))
      have h9 : 1 ≤ (2:Nat) ^ 971 := Nat.two_pow_pos 971
      have h10 : 40 * (2 ^ 54 - 1) * 1 ≤ 40 * (2 ^ 54 - 1) * 2 ^ 971 := Nat.mul_le_mul_left _ h9
      generalize (2:Nat) ^ 971 = z at *
      omega
  have near := fun t' => (hn hno t').1
  -- a number of thirty-seconds close by
  have hex : ∀ j : Nat, j < 2 ^ 20 → ∃ t', V t' = j * 2 ^ 1069 := by
    intro j hj
    by_cases h0 : j = 0
    · exact ⟨0, by rw [V_zero, h0, Nat.zero_mul]⟩
    · have hl : j.log2 < 20 := (Nat.log2_lt h0).mpr hj
      have h1 : 2 ^ j.log2 ≤ j := Nat.log2_self_le h0
      have h2 : j < 2 ^ (j.log2 + 1) := Nat.lt_log2_self
      refine ⟨(1069 - (52 - j.log2)) * 2 ^ 52 + j * 2 ^ (52 - j.log2), ?_⟩
      have b1 : 2 ^ 52 ≤ j * 2 ^ (52 - j.log2) := by
        have := Nat.mul_le_mul_right (2 ^ (52 - j.log2)) h1
        rw [← Nat.pow_add] at this
        rwa [show j.log2 + (52 - j.log2) = 52 from by omega] at this
      have b2 : j * 2 ^ (52 - j.log2) ≤ 2 ^ 53 := by
        have := Nat.mul_le_mul_right (2 ^ (52 - j.log2)) (Nat.le_of_lt h2)
        rw [← Nat.pow_add] at this
        rwa [show j.log2 + 1 + (52 - j.log2) = 53 from by omega] at this
      rw [V_at b2 (.inl b1), Nat.mul_assoc, ← Nat.pow_add, show 52 - j.log2 + (1069 - (52 - j.log2)) = 1069 from by omega]
  generalize hD : d.natAbs = D at *
  obtain ⟨t', ht'⟩ := hex ((32 * D + 10) / 20) (by omega)
  have nr := near t'
  rw [ht'] at nr
  have e1074 : (2:Nat) ^ 1074 = 32 * 2 ^ 1069 := pow_split 5 1069 1074 rfl
  have key : 32 * 2 ^ 1069 * (D / 20) ≤ V t ∧ V t < 32 * 2 ^ 1069 * (D / 20 + 1) := by
    have hpos : 0 < (2:Nat) ^ 1069 := Nat.two_pow_pos 1069
    have nr2 : dist (64 * D * 2 ^ 1069) (40 * V t) ≤ dist (64 * D * 2 ^ 1069) (40 * ((32 * D + 10) / 20 * 2 ^ 1069)) := by
      have l1 : 2 * D * 2 ^ 1073 * 2 ^ 1074 = 2 ^ 1073 * (64 * D * 2 ^ 1069) := by
        rw [e1074]
        have : 2 * D * 2 ^ 1073 * (32 * 2 ^ 1069) = 2 ^ 1073 * (2 * 32 * D * 2 ^ 1069) := by ac_rfl
        exact this
      have l2 : 40 * 2 ^ 1073 * V t = 2 ^ 1073 * (40 * V t) := by ac_rfl
      have l3 : 40 * 2 ^ 1073 * ((32 * D + 10) / 20 * 2 ^ 1069) = 2 ^ 1073 * (40 * ((32 * D + 10) / 20 * 2 ^ 1069)) := by ac_rfl
      rw [l1, l2, l3, dist_mul, dist_mul] at nr
      exact Nat.le_of_mul_le_mul_left nr (Nat.two_pow_pos 1073)
    generalize (2:Nat) ^ 1069 = K at *
    generalize V t = v at *
    have hD' : D = 20 * (D / 20) + D % 20 := (Nat.div_add_mod D 20).symm
    have hr : D % 20 < 20 := Nat.mod_lt _ (by decide)
    generalize D / 20 = q at *
    generalize D % 20 = r at *
    have hj : (32 * D + 10) / 20 = 32 * q + (32 * r + 10) / 20 := by omega
    rw [hj] at nr2
    have hj2 : (32 * r + 10) / 20 * 20 ≤ 32 * r + 10 ∧ 32 * r + 10 < (32 * r + 10) / 20 * 20 + 20 := by omega
    have hrj : r = 0 → (32 * r + 10) / 20 = 0 := by omega
    generalize (32 * r + 10) / 20 = j at *
    have x1 : 64 * D * K = 1280 * (q * K) + 64 * (r * K) := by
      rw [hD']; rw [Nat.mul_add, Nat.add_mul]
      have y1 : 64 * (20 * q) * K = 64 * 20 * (q * K) := by ac_rfl
      have y2 : 64 * r * K = 64 * (r * K) := by ac_rfl
      rw [y1, y2]
    have x2 : 40 * ((32 * q + j) * K) = 1280 * (q * K) + 40 * (j * K) := by
      rw [Nat.add_mul, Nat.mul_add]
      have y1 : 40 * (32 * q * K) = 40 * 32 * (q * K) := by ac_rfl
      rw [y1]
    have x3 : 32 * K * q = 32 * (q * K) := by ac_rfl
    have x4 : 32 * K * (q + 1) = 32 * (q * K) + 32 * K := by rw [Nat.mul_add, x3, Nat.mul_one]
    rw [x1, x2] at nr2
    rw [x3, x4]
    have m1 : j * K * 20 ≤ 32 * (r * K) + 10 * K := by
      have := Nat.mul_le_mul_right K hj2.1
      rw [Nat.add_mul] at this
      have y1 : j * 20 * K = j * K * 20 := by ac_rfl
      have y2 : 32 * r * K = 32 * (r * K) := by ac_rfl
      rwa [y1, y2] at this
    have m2 : 32 * (r * K) + 10 * K ≤ j * K * 20 + 20 * K := by
      have := Nat.mul_le_mul_right K (Nat.le_of_lt hj2.2)
      rw [Nat.add_mul, Nat.add_mul] at this
      have y1 : j * 20 * K = j * K * 20 := by ac_rfl
      have y2 : 32 * r * K = 32 * (r * K) := by ac_rfl
      rwa [y1, y2] at this
    have m3 : r * K ≤ 19 * K := Nat.mul_le_mul_right K (by omega)
    have m4 : r = 0 ∨ K ≤ r * K := by
      rcases Nat.eq_zero_or_pos r with h | h
      · exact .inl h
      · exact .inr (by have := Nat.mul_le_mul_right K h; rwa [Nat.succ_eq_add_one, Nat.zero_add, Nat.one_mul] at this)
    have m5 : r = 0 → j * K = 0 ∧ r * K = 0 := fun h => by rw [hrj h, h]; simp
    generalize q * K = qK at *
    generalize j * K = jK at *
    generalize r * K = rK at *
    unfold dist at nr2
    rcases m4 with h | h
    · have := m5 h; omega
    · omega
  obtain ⟨m, e, hdec, hv⟩ := decode_pack (s1 != s2) hno
  rw [← ht] at hdec
  refine ⟨_, _, _, hdec, ?_⟩
  have hs2 : s2 = false := by
    cases s2 with
    | false => rfl
    | true =>
      exfalso
      rw [v2] at sg2
      unfold sgn at sg2
      simp only [if_true] at sg2
      have : (0:Int) < 40 * 2 ^ 1073 := Int.mul_pos (by decide) hp
      omega
  have hor : (s1 != s2) = false ∨ m = 0 := by
    rw [hs2]
    cases s1 with
    | false => exact .inl rfl
    | true =>
      right
      rw [v1] at sg1
      unfold sgn at sg1
      simp only [if_true] at sg1
      have hd0 : D = 0 := by
        rcases Nat.eq_zero_or_pos D with h | h
        · exact h
        · exfalso
          have : (0:Int) < 2 * d * 2 ^ 1073 := Int.mul_pos (by omega) hp
          omega
      have n0 := near 0
      rw [hd0, V_zero] at n0
      simp [dist] at n0
      have hV : V t = 0 := by
        rcases Nat.eq_zero_or_pos (V t) with h | h
        · exact h
        · exfalso
          have := Nat.mul_pos (Nat.mul_pos (show 0 < 40 by decide) (Nat.two_pow_pos 1073)) h
          omega
      rw [hV] at hv
      rcases Nat.mul_eq_zero.mp hv with h | h
      · exact h
      · exact absurd h (Nat.ne_of_gt (Nat.two_pow_pos _))
  rw [truncOf_nonneg (decode_ge hdec) hor, hv]
  have : V t / 2 ^ 1074 = D / 20 := by
    rw [e1074]
    exact Nat.div_eq_of_lt_le (by rw [Nat.mul_comm]; exact key.1) (by rw [Nat.mul_comm]; exact key.2)
  rw [this]
  omega
end Mine
namespace Mine
open PySem PySem.W PySem.Calls PySem.Spec PyProof.Rows PySem.Float64
theorem isH_lit {x : UInt64} {t : Nat} {m : Int} (h : t < infMag) (e : x = pack false t) (hv : ((V t : Nat) : Int) = m * 2 ^ 1073) : IsH x m := by
  subst e
  obtain ⟨M, e, hd, _⟩ := decode_pack false h
  exact ⟨⟨_, _, _, hd⟩, by rw [val_pack false h, ← hv]; rfl⟩
theorem isH_half : IsH 0x3fe0000000000000 1 := isH_lit (t := 4602678819172646912) (by decide +kernel) (by decide +kernel) (by decide +kernel)
theorem isH_epoch : IsH 0x4121d4b500000000 1168565 := isH_lit (t := 4693266160550936576) (by decide +kernel) (by decide +kernel) (by decide +kernel)
section
variable {prog : Program} {w : World} {A : Around} {E : Value → Shared → Prop} {s : Shared} {t u : Tok} {x y : UInt64} {a b n : Int} {Q : Value → Shared → Prop}
theorem notInf_int {n : Int} (hn : n.natAbs < 2 ^ 52) : ¬ isInf (ofInt n) = true := by rw [isH_notInf (isH_ofInt hn)]; decide
theorem notZero_int {n : Int} (hn : n.natAbs < 2 ^ 52) (h0 : n ≠ 0) : ¬ isZero (ofInt n) = true := by
  rw [isH_isZero (isH_ofInt hn)]; simp; omega
theorem constHI {env : Env} {k : Nat} {pos : Pos} (hx : IsH x a) (h : ∀ z, IsH z a → Q (.float z s.toks) { s with toks := s.toks + 1 }) : wpAny (model prog w) A (eval (.Constant (.float x) k pos) env) Q E s :=
  AutoFloatOps.wpAny_Constant_float (h _ hx)
theorem addHI (hx : IsH x a) (hn : n.natAbs < 2 ^ 52) (hm : (a + 2 * n).natAbs < 2 ^ 53) (h : ∀ z, IsH z (a + 2 * n) → Q (.float z s.toks) { s with toks := s.toks + 1 }) :
    wpAny (model prog w) A (binaryOp .Add (.float x t) (.int n u)) Q E s := AutoFloatOps.add_fi_1 (notInf_int hn) (h _ (isH_add hx (isH_ofInt hn) hm))
theorem addIH (hx : IsH x a) (hn : n.natAbs < 2 ^ 52) (hm : (2 * n + a).natAbs < 2 ^ 53) (h : ∀ z, IsH z (2 * n + a) → Q (.float z s.toks) { s with toks := s.toks + 1 }) :
    wpAny (model prog w) A (binaryOp .Add (.int n u) (.float x t)) Q E s := AutoFloatOps.add_if_1 (notInf_int hn) (h _ (isH_add (isH_ofInt hn) hx hm))
theorem subHH (hx : IsH x a) (hy : IsH y b) (hm : (a - b).natAbs < 2 ^ 53) (h : ∀ z, IsH z (a - b) → Q (.float z s.toks) { s with toks := s.toks + 1 }) :
    wpAny (model prog w) A (binaryOp .Sub (.float x t) (.float y u)) Q E s := AutoFloatOps.sub_0 (h _ (isH_sub hx hy hm))
theorem modHI {c : Int} (hx : IsH x a) (hc : a = 2 * c) (h0 : 0 < n) (hn : n.natAbs < 2 ^ 50) (hm : c.natAbs < 2 ^ 50) (h : ∀ z, IsH z (2 * (c % n)) → Q (.float z s.toks) { s with toks := s.toks + 1 }) :
    wpAny (model prog w) A (binaryOp .Mod (.float x t) (.int n u)) Q E s :=
  AutoFloatOps.mod_fi_2 (notInf_int (by omega)) (notZero_int (by omega) (by omega)) (h _ (isH_mod (hc ▸ hx) (isH_ofInt (by omega)) h0 hm hn))
theorem truncH (hx : IsH x a) (h0 : 0 ≤ a) (hA : A.handled = none) (h : Q (.int (a / 2) s.toks) { s with toks := s.toks + 1 }) : wpAny (model prog w) A (call (.builtin "math.trunc") [.float x t]) Q E s := by
  obtain ⟨sg, m, e, hd, ht⟩ := isH_trunc hx h0
  refine PySem.Flt.call_trunc_float hA (fun hn => ?_) (fun hi => ?_) fun _ => ?_
  · unfold Float64.isNaN at hn; rw [hd] at hn; cases hn
  · rw [isH_notInf hx] at hi; cases hi
  · rw [PySem.Flt.toInt_fin hd, ht]; exact h
theorem intH (hx : IsH x a) (h0 : 0 ≤ a) (h : Q (.int (a / 2) s.toks) { s with toks := s.toks + 1 }) : wpAny (model prog w) A (call (.type "int") [.float x t]) Q E s := by
  obtain ⟨sg, m, e, hd, ht⟩ := isH_trunc hx h0
  exact call_int_float hd (by rw [ht]; exact h)
theorem modHI' (hx : IsH x a) (hc : a % 2 = 0) (h0 : 0 < n) (hn : n.natAbs < 2 ^ 50) (hm : a.natAbs < 2 ^ 50) (h : ∀ z, IsH z (2 * ((a / 2) % n)) → Q (.float z s.toks) { s with toks := s.toks + 1 }) :
    wpAny (model prog w) A (binaryOp .Mod (.float x t) (.int n u)) Q E s := modHI (c := a / 2) hx (by omega) h0 hn (by omega) h
/-- behind x / 20: what trunc makes of it -/
structure IsQ (z : UInt64) (q : Int) : Prop where
  d : ∃ s m e, decode z = .fin s m e ∧ truncOf s m e = q
theorem divHI20 {c : Int} (hx : IsH x a) (hc : a = 2 * c) (h0 : 0 ≤ c) (h1 : c < 365) (h : ∀ z, IsQ z (c / 20) → Q (.float z s.toks) { s with toks := s.toks + 1 }) :
    wpAny (model prog w) A (binaryOp .Div (.float x t) (.int 20 u)) Q E s :=
  AutoFloatOps.truediv_fi_2 (notInf_int (by decide)) (notZero_int (by decide) (by decide)) (h _ ⟨isH_div20 (hc ▸ hx) (isH_ofInt (n := 20) (by decide)) h0 h1⟩)
theorem divHI20' (hx : IsH x a) (hc : a % 2 = 0) (h0 : 0 ≤ a) (h1 : a < 730) (h : ∀ z, IsQ z (a / 2 / 20) → Q (.float z s.toks) { s with toks := s.toks + 1 }) :
    wpAny (model prog w) A (binaryOp .Div (.float x t) (.int 20 u)) Q E s := divHI20 (c := a / 2) hx (by omega) (by omega) (by omega) h
theorem truncQ {q : Int} (hx : IsQ x q) (hA : A.handled = none) (h : Q (.int q s.toks) { s with toks := s.toks + 1 }) : wpAny (model prog w) A (call (.builtin "math.trunc") [.float x t]) Q E s := by
  obtain ⟨sg, m, e, hd, ht⟩ := hx.d
  refine PySem.Flt.call_trunc_float hA (fun hn => ?_) (fun hi => ?_) fun _ => ?_
  · unfold Float64.isNaN at hn; rw [hd] at hn; cases hn
  · unfold Float64.isInf at hi; rw [hd] at hi; cases hi
  · rw [PySem.Flt.toInt_fin hd, ht]; exact h
theorem eqHH (hx : IsH x a) (hy : IsH y b) (h : Q (.bool (decide (a = b))) s) : wpAny (model prog w) A (compareOp .Eq (.float x t) (.float y u)) Q E s := AutoFloatOps.eq_0 (by rw [isH_eq hx hy]; exact h)
theorem neHH (hx : IsH x a) (hy : IsH y b) (h : Q (.bool (decide (a ≠ b))) s) : wpAny (model prog w) A (compareOp .NotEq (.float x t) (.float y u)) Q E s := AutoFloatOps.ne_0 (by rw [isH_ne hx hy]; exact h)
theorem ltHH (hx : IsH x a) (hy : IsH y b) (h : Q (.bool (decide (a < b))) s) : wpAny (model prog w) A (compareOp .Lt (.float x t) (.float y u)) Q E s := AutoFloatOps.lt_0 (by rw [isH_lt hx hy]; exact h)
end
end Mine
namespace Mine
open PySem PySem.W PySem.Calls PySem.Spec PyProof.Rows
def months : List String := ["Pop", "Wo'", "Zip", "Sotz'", "Sek", "Xul", "Yaxk'in'", "Mol", "Ch'en", "Yax", "Sak'", "Keh", "Mak", "K'ank'in", "Muwan'", "Pax", "K'ayab", "Kumk'u", "Wayeb'", "Ajaw"]
def tznames : List String := ["Imix'", "Ik'", "Ak'b'al", "K'an", "Chikchan", "Kimi", "Manik'", "Lamat", "Muluk", "Ok", "Chuwen", "Eb'", "B'en", "Ix", "Men", "K'ib'", "Kab'an", "Etz'nab'", "Kawak", "Ajaw", "Pop"]
def mstr (i : Int) : Str := Str.ofString (months.getD i.toNat "")
def tstr (i : Int) : Str := Str.ofString (tznames.getD i.toNat "")
def strsFrom (l : List String) (t : Tok) : List Value := l.zipIdx.map fun p => .str (Str.ofString p.1) (t + p.2)
theorem strsFrom_get {l : List String} {t : Tok} {i : Nat} (h : i < l.length) : (strsFrom l t)[i]? = some (.str (Str.ofString (l.getD i "")) (t + i)) := by
  simp [strsFrom, h]
section
variable {prog : Program} {w : World} {A : Around} {E : Value → Shared → Prop} {s : Shared} {h₀ : Heap} {L : Addr} {m : Str → Option Value} {k : Int} {u : Tok} {Q : Value → Shared → Prop} {value slice : Expr}
theorem seqIndex_in {k : Int} {n : Nat} (h0 : 0 ≤ k) (h1 : k < n) : seqIndex? k n = some k.toNat := by
  unfold seqIndex?
  split <;> simp_all <;> omega
theorem look50 (P : Params) : (hd.heap_39 P).lookup 50 = some ⟨.type "list", none, .seq (strsFrom (months.take 19) 391).toArray 0, #[]⟩ := rfl
theorem look51 (P : Params) : (hd.heap_39 P).lookup 51 = some ⟨.type "list", none, .seq (strsFrom (tznames.take 20) 411).toArray 0, #[]⟩ := rfl
theorem look101 (P : Params) : (hd.heap_39 P).lookup 101 = some ⟨.type "tuple", none, .seq (strsFrom tznames 519).toArray 0, #[]⟩ := rfl
theorem look102 (P : Params) : (hd.heap_39 P).lookup 102 = some ⟨.type "tuple", none, .seq (strsFrom months 541).toArray 0, #[]⟩ := rfl
theorem item50 (F : Fr h₀ L s.heap m) (X : (hd.heap_39 w.params).In h₀) (h0 : 0 ≤ k) (h1 : k < 19) (h : ∀ t, Q (.str (mstr k) t) s)
    (hs : subscripted slice false (.ref 50) (.int k u) = operate [.ref 50, .int k u] (getItem (.ref 50) (.int k u))) : wpAny (model prog w) A (subscriptTail value slice (.ref 50) (.int k u)) Q E s := by
  have e : (strsFrom (months.take 19) 391)[k.toNat]? = some (.str (mstr k) (391 + k.toNat)) := by
    rw [strsFrom_get (by show k.toNat < 19; omega)]
    have : (months.take 19).getD k.toNat "" = months.getD k.toNat "" := by simp [List.getD, List.getElem?_take, show k.toNat < 19 by omega]
    rw [this]; rfl
  exact topList_K F X (look50 _) h0 (by omega) e (h _) hs
theorem item51 (F : Fr h₀ L s.heap m) (X : (hd.heap_39 w.params).In h₀) (h0 : 0 ≤ k) (h1 : k < 20) (h : ∀ t, Q (.str (tstr k) t) s)
    (hs : subscripted slice false (.ref 51) (.int k u) = operate [.ref 51, .int k u] (getItem (.ref 51) (.int k u))) : wpAny (model prog w) A (subscriptTail value slice (.ref 51) (.int k u)) Q E s := by
  have e : (strsFrom (tznames.take 20) 411)[k.toNat]? = some (.str (tstr k) (411 + k.toNat)) := by
    rw [strsFrom_get (by show k.toNat < 20; omega)]
    have : (tznames.take 20).getD k.toNat "" = tznames.getD k.toNat "" := by simp [List.getD, List.getElem?_take, show k.toNat < 20 by omega]
    rw [this]; rfl
  exact topList_K F X (look51 _) h0 (by omega) e (h _) hs
theorem item101 (F : Fr h₀ L s.heap m) (X : (hd.heap_39 w.params).In h₀) (h0 : 0 ≤ k) (h1 : k < 21) (h : ∀ t, Q (.str (tstr k) t) s)
    (hs : subscripted slice false (.ref 101) (.int k u) = operate [.ref 101, .int k u] (getItem (.ref 101) (.int k u))) : wpAny (model prog w) A (subscriptTail value slice (.ref 101) (.int k u)) Q E s :=
  topTup_K F X (look101 _) (by omega) (by omega) (seqIndex_in h0 (by show k < ((21 : Nat) : Int); omega)) (strsFrom_get (by show k.toNat < 21; omega)) (h _) hs
theorem item102 (F : Fr h₀ L s.heap m) (X : (hd.heap_39 w.params).In h₀) (h0 : 0 ≤ k) (h1 : k < 20) (h : ∀ t, Q (.str (mstr k) t) s)
    (hs : subscripted slice false (.ref 102) (.int k u) = operate [.ref 102, .int k u] (getItem (.ref 102) (.int k u))) : wpAny (model prog w) A (subscriptTail value slice (.ref 102) (.int k u)) Q E s :=
  topTup_K F X (look102 _) (by omega) (by omega) (seqIndex_in h0 (by show k < ((20 : Nat) : Int); omega)) (strsFrom_get (by show k.toNat < 20; omega)) (h _) hs
end
end Mine
namespace Mine
open PySem PySem.W PySem.Calls PySem.Spec PyProof.Rows
abbrev tupO (l : List Value) : Obj := { cls := .type "tuple", data := .seq l.toArray }
section
variable {w : World} {mg mb : Str → Option Value} {ob : Obj} {dp un n : Nat} {gd : Option (List Code)} {envs : List Env} {env : Env} {s₀ s s' : Shared} {h h' : Heap} {L f : Addr} {m : Str → Option Value} {made mu news : List (Addr × Obj)} {Q E : Value → Shared → Prop} {vs : List Value}
theorem aft_out (x : Sit w mg mb ob dp un envs n s) (F : Fr (solid (fsOf envs) s.heap) L h' m) (N : News (solid (fsOf envs) s.heap) L h' news) (M : Mu s.heap (fsOf envs) mu) (sub : ∀ p ∈ mu, p ∈ news)
    {g' : Array GenState} {d' : Drawn} {tk' : Nat} {os' : OsState} (hb : AllBare g') (ho : os' = s.os) : Aft w mg mb ob envs s ⟨h', g', d', tk', os'⟩ :=
  let ⟨a, b⟩ := grow_out x.W x.hi F (Mine.News.sub N sub) M
  ⟨a, b, ho, hb⟩
theorem fsOf_cons (hf : env.frame = some L) : fsOf (env :: envs) = L :: fsOf envs := by unfold fsOf; rw [List.filterMap_cons]; simp only [hf]
def Plain (l : List (Addr × Obj)) : Prop := ∀ p ∈ l, (∀ ps, p.2.data ≠ .fields ps) ∧ ∀ es ep, p.2.data ≠ .dict es ep
theorem Plain.nil : Plain [] := fun _ h => nomatch h
theorem Plain.seq {a : Addr} {o : Obj} {items : Array Value} {e : Nat} {l : List (Addr × Obj)} (h : o.data = .seq items e) (x : Plain l) : Plain ((a, o) :: l) := fun p hp => by
  rcases List.mem_cons.mp hp with rfl | hp
  · exact ⟨fun ps q => (by rw [h] at q; cases q), fun es ep q => (by rw [h] at q; cases q)⟩
  · exact x p hp
theorem Plain.set {a : Addr} {o : Obj} {es : Array (Int × Value)} {ep : Nat} {t : SetTable} {l : List (Addr × Obj)} (h : o.data = .set es ep t) (x : Plain l) : Plain ((a, o) :: l) := fun p hp => by
  rcases List.mem_cons.mp hp with rfl | hp
  · exact ⟨fun ps q => (by rw [h] at q; cases q), fun es ep q => (by rw [h] at q; cases q)⟩
  · exact x p hp
theorem Plain.cell {a : Addr} {o : Obj} {v : Option Value} {l : List (Addr × Obj)} (h : o.data = .cell v) (x : Plain l) : Plain ((a, o) :: l) := fun p hp => by
  rcases List.mem_cons.mp hp with rfl | hp
  · exact ⟨fun ps q => (by rw [h] at q; cases q), fun es ep q => (by rw [h] at q; cases q)⟩
  · exact x p hp
/-- a call by its contract, from a frame -/
theorem use {Post : Value → Shared → Prop} (x : Sit w mg mb ob dp un envs (n + 1) s₀) (F : Fr (solid (fsOf envs) s₀.heap) L s.heap m) (N : News (solid (fsOf envs) s₀.heap) L s.heap (made ++ mu)) (M : Mu s₀.heap (fsOf envs) mu)
    (hpl : Plain made) (hf : env.frame = some L) (hk : env.scope.kind ≠ .module) (bare : AllBare s.gens) (hos : s.os = s₀.os)
    (spec : Sit w mg mb ob (dp + 1) (un + 3) (env :: envs) n s → (∀ v s', Aft w mg mb ob (env :: envs) s s' → Post v s' → Q v s') →
      wpAny (model PRG w) (aro (dp + 1) (un + 3) gd (env :: envs)) (call (.ref f) vs) Q E s)
    (k : ∀ v s' mu', Mu s₀.heap (fsOf envs) mu' → Fr (solid (fsOf envs) s₀.heap) L s'.heap m → News (solid (fsOf envs) s₀.heap) L s'.heap (made ++ mu') → AllBare s'.gens → s'.os = s₀.os → Post v s' → Q v s') :
    wpAny (model PRG w) ((aro dp un gd envs).deeper env) (call (.ref f) vs) Q E s := by
  have x' : Sit w mg mb ob (dp + 1) (un + 3) (env :: envs) n s := sit_in (s := s₀) (s' := s) (h₀ := s₀.heap) x F (fun p hp => N p (List.mem_append_right _ hp)) M hf hk bare
  refine spec x' fun v s' a hp => ?_
  have G := a.grow
  rw [fsOf_cons hf] at G
  obtain ⟨mu', M', F', N'⟩ := aft_in x.W F N M (fun b hb => let ⟨o, e, _⟩ := x.fr.dict hb; ⟨o, e⟩) G a.W hpl
  exact k v s' mu' M' F' N' a.bare (a.os.trans hos) hp
end
end Mine
namespace Mine
open PySem PySem.W PySem.Calls PySem.Spec PyProof.Rows PySem.MeetsSeq PySem.SeqAt
theorem listRaiseStr_new {M : Model} {A : Around} {E : Value → Shared → Prop} {s : Shared} {α : Type} {cls : String} {msg : Str} {Q : α → Shared → Prop} (hp : PlainExc cls) (hh : A.handled = none)
    (h : ∀ h' tk e, Heap.NewExc s.heap h' e cls → E (.ref e) { s with heap := h', toks := tk }) (hm : msg.length ≤ sizeLine) :
    wpAny M A (Builtin.List.listRaiseStr cls msg : Sem α) Q E s := by
  unfold Builtin.List.listRaiseStr
  refine wpAny_bind (wpAny_mkStr (wpAny_bind ?_) hm)
  unfold newExc newTuple
  refine wpAny_bind (wpAny_newObj_type ?_)
  refine wpAny_bind (m := firstArgMember _ _) (wpAny_of_eq (a := Value.none) (by simp only [firstArgMember, hp.first]; rfl) ?_)
  rw [hp.own]
  refine wpAny_newObj_type ?_
  unfold raiseNew
  refine wpAny_bind (wpAny_handled ?_)
  rw [hh]
  first
    | refine wpAny_throw ?_
    | refine wpAny_bind (wpAny_pure (wpAny_throw ?_))
  exact h _ _ _ ⟨fun b o hb => Heap.get?_push_of_some _ (Heap.get?_push_of_some _ hb), Heap.get?_none_of_le (by simp), _, .ref s.heap.objs.size, Heap.get?_push_size _ rfl, rfl, by simp⟩
abbrev EqA (A : Around) (s : Shared) (y x : Value) (b : Bool) : Prop :=
  ∀ (prog : Program) (w : World) (E : Value → Shared → Prop) (Q : Bool → Shared → Prop), Q b s → wpAny (model prog w) A (eqBool y x) Q E s
theorem index_missLoop (l : Addr) (items : Array Value) (n : Nat) (dd : Option Addr) (sl : Array (Option Value)) (y : Str) (u : Tok) (upto : Int) (hsz : (reprText y ++ Str.ofString " is not in list").length ≤ sizeLine) (hs2 : (reprText y).length ≤ sizeLine) (k : Nat) :
    ∀ i : Nat, items.size - i = k → Meets (Builtin.«list.index.loop» ⟨[.ref l, .str y u, rawInt i, rawInt upto], []⟩)
      (fun A R s => s.heap.get? l = some { cls := .type "list", dict := dd, data := .seq items n, slots := sl } ∧ (∀ z, z ∈ items → EqA A.in1 s z (.str y u) false) ∧ A.handled = none ∧
        (∀ h' tk e, Heap.NewExc s.heap h' e "ValueError" → R (.error (.ref e)) { s with heap := h', toks := tk })) := by
  have miss : ∀ (prog : Program) (w : World) (A : Around) (R : Result → Shared → Prop) (hp : Heap) (g : Array GenState) (d : Drawn) (tk : Nat) (os : OsState), A.handled = none →
      (∀ h' tk' e, Heap.NewExc hp h' e "ValueError" → R (.error (.ref e)) ⟨h', g, d, tk', os⟩) →
      wpAny (model prog w) A.in1 (do
        rule "list.index.not-found"
        let r ← pyRepr (Value.str y u)
        Builtin.List.listRaiseStr "ValueError" (r ++ Str.ofString " is not in list") : Sem Fin) (fun fin s' => match fin with | .done f => R (.ok f) s' | .again c' => c'.quiet = true ∧ codeAny (model prog w) A c' R s') (fun e s' => R (.error e) s') ⟨hp, g, d, tk, os⟩ := by
    intro prog w A R hp g d tk os hA h
    refine wpAny_bind (wpAny_rule (wpAny_bind (wpAny_pyRepr_str ?_ hs2)))
    generalize hm : reprText y ++ Str.ofString " is not in list" = msg at hsz ⊢
    exact listRaiseStr_new plainExc_ValueError hA (fun h' tk' e hx => h h' tk' e hx) hsz
  induction k with
  | zero =>
    intro i hk prog w A R s h
    obtain ⟨hp, g, d, tk, os⟩ := s; obtain ⟨hl, he, hA, h⟩ := h
    wp_walk using AutoSeq1.wpAny_loadPart' hl
    have hi : (if (i : Int) < upto then items[((i : Nat) : Int).toNat]? else none) = none := by
      have : items[((i : Nat) : Int).toNat]? = none := by simp; omega
      rw [this]; split <;> rfl
    rw [hi]
    exact miss prog w A R hp g d tk os hA h
  | succ k ih =>
    intro i hk prog w A R s h
    obtain ⟨hp, g, d, tk, os⟩ := s; obtain ⟨hl, he, hA, h⟩ := h
    have hlt : i < items.size := by omega
    wp_walk using AutoSeq1.wpAny_loadPart' hl
    by_cases hst : (i : Int) < upto
    · have hi : (if (i : Int) < upto then items[((i : Nat) : Int).toNat]? else none) = some items[i] := by simp [hst, hlt]
      have hc : ((i : Int) + 1) = ((i + 1 : Nat) : Int) := by push_cast; rfl
      rw [hi]
      refine wpAny_bind (he _ (Array.getElem_mem hlt) prog w _ _ ?_)
      wp_walk
      rw [hc]
      exact ⟨plainId_quiet plain_index_loop _, codeAny_builtin entry_index_loop (by
        rw [Around.under_plainId plain_index_loop _]
        exact ih (i + 1) (by omega) prog w A R _ ⟨hl, he, hA, h⟩)⟩
    · rw [if_neg hst]
      exact miss prog w A R hp g d tk os hA h
theorem list_indexMiss (l : Addr) (items : Array Value) (n : Nat) (dd : Option Addr) (sl : Array (Option Value)) (y : Str) (u : Tok) (hsz : (reprText y ++ Str.ofString " is not in list").length ≤ sizeLine) (hs2 : (reprText y).length ≤ sizeLine) :
    Meets (Builtin.«list.index» ⟨[.ref l, .str y u], []⟩)
      (fun A R s => s.heap.get? l = some { cls := .type "list", dict := dd, data := .seq items n, slots := sl } ∧ (∀ z, z ∈ items → EqA A.in1 s z (.str y u) false) ∧ A.handled = none ∧
        (∀ h' tk e, Heap.NewExc s.heap h' e "ValueError" → R (.error (.ref e)) { s with heap := h', toks := tk })) := by
  intro prog w A R s h
  obtain ⟨hp, g, d, tk, os⟩ := s; obtain ⟨hl, he, hA, h⟩ := h
  wp_walk using AutoSeq1.wpAny_loadPart' hl
  have a1 : ((fun i : Int => if i < 0 then max 0 (i + (items.size : Int)) else i) ((none : Option Int).getD 0)) = ((0 : Nat) : Int) := by simp
  rw [a1]
  exact ⟨plainId_quiet plain_index_loop _, codeAny_builtin entry_index_loop (by
    rw [Around.under_plainId plain_index_loop _]
    exact index_missLoop l items n dd sl y u _ hsz hs2 _ 0 rfl prog w A R _ ⟨hl, he, hA, h⟩)⟩
section
variable {prog : Program} {w : World} {A : Around} {E : Value → Shared → Prop} {s : Shared} {h₀ : Heap} {L : Addr} {m : Str → Option Value} {k : Int} {u : Tok} {Q : Value → Shared → Prop}
theorem strsFrom_are (l : List String) (t : Tok) : StrsAre (strsFrom l t) (l.map Str.ofString) := by
  unfold strsFrom
  generalize 0 = j
  induction l generalizing j with
  | nil => exact .nil
  | cons x l ih => exact .cons _ _ (ih _)
theorem index_hit {l : Addr} {ls : List String} {t0 : Tok} {y : Str} {j : Nat} (hl : s.heap.get? l = some ⟨.type "list", none, .seq (strsFrom ls t0).toArray 0, #[]⟩) (hj : j < ls.length) (hb : ls.length < 1000)
    (hit : Str.ofString (ls.getD j "") = y) (hno : ∀ i, i < j → Str.ofString (ls.getD i "") ≠ y) (h : Q (.int (j : Int) s.toks) { s with toks := s.toks + 1 }) :
    wpAny (model prog w) A (call (.builtin "list.index") [.ref l, .str y u]) Q E s := by
  have hlen : (strsFrom ls t0).length = ls.length := by simp [strsFrom]
  have at' : ∀ i, i < ls.length → ∀ hm : i < (strsFrom ls t0).toArray.size, (strsFrom ls t0).toArray[i] = .str (Str.ofString (ls.getD i "")) (t0 + i) := fun i hi hm => by
    have := strsFrom_get (l := ls) (t := t0) hi
    rw [List.getElem?_eq_getElem (by rw [hlen]; exact hi)] at this
    simpa using Option.some.inj this
  refine call_meets PySem.F.slot_list_index ⟨_, hl, rfl⟩ PySem.F.entry_list_index (PySem.F.args_list_index_2 _ _)
    (list_indexAt l (strsFrom ls t0).toArray 0 none #[] (.str y u) (isStrOf y) j (by simpa [hlen] using hj) (by omega) ?_ ?_) ⟨hl, fun z hz => (eq_isStrOf y u (strsFrom_are ls t0) z (by simpa using hz)).at _ _, h⟩
  · rw [at' j hj]; show (Str.ofString (ls.getD j "") == y) = true; rw [hit]; exact beq_self_eq_true _
  · intro i hi hlt
    rw [at' i (by omega)]
    simp only [isStrOf, beq_eq_false_iff_ne, ne_eq]
    exact hno i hlt
theorem index_miss {l : Addr} {ls : List String} {t0 : Tok} {y : Str} (hl : s.heap.get? l = some ⟨.type "list", none, .seq (strsFrom ls t0).toArray 0, #[]⟩)
    (hno : ∀ i, i < ls.length → Str.ofString (ls.getD i "") ≠ y) (hsz : (reprText y ++ Str.ofString " is not in list").length ≤ sizeLine) (hs2 : (reprText y).length ≤ sizeLine) (hA : A.handled = none)
    (h : ∀ h' tk e, Heap.NewExc s.heap h' e "ValueError" → E (.ref e) { s with heap := h', toks := tk }) :
    wpAny (model prog w) A (call (.builtin "list.index") [.ref l, .str y u]) Q E s := by
  refine call_meets PySem.F.slot_list_index ⟨_, hl, rfl⟩ PySem.F.entry_list_index (PySem.F.args_list_index_2 _ _)
    (list_indexMiss l (strsFrom ls t0).toArray 0 none #[] y u hsz hs2) ⟨hl, fun z hz => ?_, hA, h⟩
  have hz' : z ∈ strsFrom ls t0 := by simpa using hz
  have q := (eq_isStrOf y u (strsFrom_are ls t0) z hz').at A.in1 s
  have e : isStrOf y z = false := by
    obtain ⟨i, hi, rfl⟩ := List.getElem_of_mem hz'
    have hi' : i < ls.length := by simpa [strsFrom] using hi
    have := strsFrom_get (l := ls) (t := t0) hi'
    rw [List.getElem?_eq_getElem hi] at this
    rw [Option.some.inj this]
    simp only [isStrOf, beq_eq_false_iff_ne, ne_eq]
    exact hno i hi'
  rw [e] at q
  exact q
end
end Mine
namespace Mine
open PySem PySem.W PySem.Calls PySem.Spec PyProof.Rows
/-- an exception of class cls flies out of a call made at s -/
structure Flies (w : World) (mg mb : Str → Option Value) (ob : Obj) (envs : List Env) (cls : String) (e : Addr) (s s' : Shared) : Prop where
  fly : ∃ B a0, Heap.FlyingW B envs e (.type cls) a0 s'.heap ∧ (solid (fsOf envs) s.heap).StaysIn B ∧ Wd w mg mb ob B
  frm : ∀ b ∈ fsOf envs, ∀ o, s.heap.get? b = some o → ∃ sl, s'.heap.get? b = some { o with slots := sl }
  os : s'.os = s.os
  bare : AllBare s'.gens
section
variable {w : World} {mg mb : Str → Option Value} {ob : Obj} {dp un n : Nat} {gd : Option (List Code)} {envs : List Env} {env : Env} {s₀ s s' : Shared} {h h' : Heap} {L e : Addr} {m : Str → Option Value} {mu news made : List (Addr × Obj)} {cls : String} {fs : List Addr} {A : Around}
theorem funFrames_of {B : Heap} : ∀ {envs : List Env} {h : Heap}, Frames envs h → (∀ b ∈ fsOf envs, B.get? b = none) → h.FunFrames B envs
  | [], _, _, _ => trivial
  | env :: envs, h, x, hb => by
    obtain ⟨hk, L, o, hf, e, es, ep, hd⟩ := x env List.mem_cons_self
    have e1 : fsOf (env :: envs) = L :: fsOf envs := fsOf_cons hf
    refine ⟨hk, ⟨L, o, hf, hb L (by rw [e1]; exact .head _), e, fun vs q => by rw [hd] at q; cases q⟩, funFrames_of (fun env' he => x env' (List.mem_cons_of_mem _ he)) fun b hm => hb b (by rw [e1]; exact .tail _ hm)⟩
theorem slots_frm {h h' : Heap} (u : h.UpToSlots h') {b : Addr} {o : Obj} (e : h.get? b = some o) {es : Array DictEntry} {ep : Nat} (hd : o.data = .dict es ep) : ∃ sl, h'.get? b = some { o with slots := sl } :=
  u b o e fun vs q => by rw [hd] at q; cases q
/-- the frames below and the frame itself, at the heap h -/
theorem frames_in (x : Sit w mg mb ob dp un envs (n + 1) s) (F : Fr (solid (fsOf envs) s.heap) L h m) (N : News (solid (fsOf envs) s.heap) L h mu) (M : Mu s.heap (fsOf envs) mu)
    (hf : env.frame = some L) (hk : env.scope.kind ≠ .module) : Frames (env :: envs) h := fun env' he => by
  rcases List.mem_cons.mp he with rfl | he
  · obtain ⟨o, es, ep, e, hd, _⟩ := F.ns
    exact ⟨hk, L, o, hf, e, es, ep, hd⟩
  · obtain ⟨hk', L', o, hf', e, es, ep, hd⟩ := x.fr env' he
    obtain ⟨sl, hm⟩ := M.fr L' (List.mem_filterMap.mpr ⟨env', he, hf'⟩) o e
    exact ⟨hk', L', _, hf', (N _ hm).1, es, ep, hd⟩
theorem wd_in (x : Sit w mg mb ob dp un envs (n + 1) s) (F : Fr (solid (fsOf envs) s.heap) L h m) (N : News (solid (fsOf envs) s.heap) L h mu) (M : Mu s.heap (fsOf envs) mu) : Wd w mg mb ob h := (grow_out x.W x.hi F N M).2
theorem wd_hide {l : List Addr} (W : Wd w mg mb ob h) (hl : ∀ b ∈ l, 158 < b) : Wd w mg mb ob (hideAll h l) := by
  have k : ∀ b o, h.get? b = some o → b ≤ 158 → (hideAll h l).get? b = some o := fun b o e hb => hideAll_get _ e fun hm => absurd (hl b hm) (Nat.not_lt.mpr hb)
  have kk : (solid [] h).StaysIn (solid [] h) := fun _ _ e => e
  refine ⟨fun a o e => k a o (W.X a o e) ?_, ⟨ns_keep W.T.g fun o e => k _ o e (by decide), ns_keep W.T.b fun o e => k _ o e (by decide), (let ⟨mc, nn, q⟩ := W.T.nolimit; ⟨mc, ns_keep nn fun o e => k _ o e (by decide), q⟩), W.T.builtins, W.T.free⟩,
    ⟨ns_keep W.B.ns fun o e => k _ o e (by decide), W.B.name, W.B.ne, k _ _ W.B.obj (by decide), W.B.cls, W.B.dict, W.B.data⟩, ?_, ?_⟩
  · have q := List.all_eq_true.mp (kf_apart w) (a, o) (kb_mem e)
    simp only [Bool.and_eq_true, bne_iff_ne, ne_eq, Nat.ble_eq] at q
    exact q.2
  · obtain ⟨ps, a, b⟩ := W.t1
    exact ⟨ps, tab_keep a b (fun o e => k _ o e (by decide)) (k _ _ b.2 (by decide)) (code_triples a)⟩
  · obtain ⟨ps, a, b⟩ := W.t2
    exact ⟨ps, tab_keep a b (fun o e => k _ o e (by decide)) (k _ _ b.2 (by decide)) (code_triples a)⟩
/-- a new exception leaves the frame -/
theorem leave_new {Q : Unit → Shared → Prop} {E' : Value → Shared → Prop} (x : Sit w mg mb ob dp un envs (n + 1) s) (F : Fr (solid (fsOf envs) s.heap) L h m) (N : News (solid (fsOf envs) s.heap) L h news) (M : Mu s.heap (fsOf envs) mu) (sub : ∀ p ∈ mu, p ∈ news)
    (hf : env.frame = some L) (hk : env.scope.kind ≠ .module) (hx : Heap.NewExcOf h s'.heap e cls) (h0 : ∀ ob vs, s'.heap.get? e = some ob → ob.data = .fields vs → ∃ a0, vs[0]? = some a0) (hos : s'.os = s.os) (hb : AllBare s'.gens)
    (k : ∀ s'', Flies w mg mb ob envs cls e s s'' → Q () s'') :
    wpAny (model PRG w) ((aro dp un gd envs).deeper env) (leaving env (.ref e)) Q E' s' := by
  have N := Mine.News.sub N sub
  have fr := frames_in x F N M hf hk
  have W := wd_in x F N M
  have hfs : fsOf (env :: envs) = L :: fsOf envs := fsOf_cons hf
  have hL : 158 < L := Nat.lt_of_lt_of_le x.W.size (solid_lt F)
  have hhi : ∀ b ∈ fsOf (env :: envs), 158 < b := fun b hb => by
    rw [hfs] at hb
    rcases List.mem_cons.mp hb with rfl | hb
    · exact hL
    · exact x.hi b hb
  obtain ⟨oe, vs, he, hc, hd, h1⟩ := hx.there
  obtain ⟨a0, ha0⟩ := h0 oe vs he hd
  have hfr' : Frames (env :: envs) s'.heap := fun env' he' => by
    obtain ⟨hk', L', o, hf', e', r⟩ := fr env' he'
    exact ⟨hk', L', o, hf', hx.keeps _ _ e', r⟩
  have hB : ∀ b ∈ fsOf (env :: envs), (hideAll h (fsOf (env :: envs))).get? b = none := fun b hb => hideAll_none _ hb
  refine wpAny_leaving_firstW (base := hideAll h (fsOf (env :: envs))) (outer := envs) (L := L) rfl (funFrames_of hfr' hB) hf he (fun b o q => hx.keeps b o (of_hideAll _ q)) ?_ hd h1 ha0 fun h'' hL' => ?_
  · cases q : (hideAll h (fsOf (env :: envs))).get? e with
    | none => rfl
    | some o => have := of_hideAll _ q; rw [hx.new] at this; cases this
  · obtain ⟨k1, ⟨_, _, k2⟩, k3, k4⟩ := hL'
    refine k _ ⟨⟨_, a0, ⟨k1, ?_, k2, hc ▸ k3⟩, fun b o q => ?_, wd_hide W hhi⟩, fun b hb o q => ?_, hos, hb⟩
    · cases q : (hideAll h (fsOf (env :: envs))).get? e with
      | none => rfl
      | some o => have := of_hideAll _ q; rw [hx.new] at this; cases this
    · have q' := solid_get.mp q
      refine hideAll_get _ (F.keep b o q) fun hm => ?_
      rw [hfs] at hm
      rcases List.mem_cons.mp hm with rfl | hm
      · exact absurd (Heap.lt_size q'.1) (Nat.not_lt.mpr (solid_lt F))
      · exact q'.2 (.tail _ (.tail _ hm))
    · obtain ⟨o', ho', hd'⟩ := x.fr.dict hb
      rw [q] at ho'; cases ho'
      obtain ⟨es, ep, hd'⟩ := hd'
      obtain ⟨sl, hm⟩ := M.fr b hb o q
      obtain ⟨sl', e'⟩ := slots_frm (fun b' o' e' hn => k4 b' o' e' hn) (hx.keeps _ _ (N _ hm).1) (es := es) (ep := ep) hd'
      exact ⟨sl', e'⟩
/-- an exception that flew out of a call made from the frame flies on -/
theorem leave_on {Q : Unit → Shared → Prop} {E' : Value → Shared → Prop} (x : Sit w mg mb ob dp un envs (n + 1) s₀) (F : Fr (solid (fsOf envs) s₀.heap) L s.heap m) (N : News (solid (fsOf envs) s₀.heap) L s.heap news) (M : Mu s₀.heap (fsOf envs) mu) (sub : ∀ p ∈ mu, p ∈ news)
    (hf : env.frame = some L) (fl : Flies w mg mb ob (env :: envs) cls e s s') (hos : s.os = s₀.os)
    (k : ∀ s'', Flies w mg mb ob envs cls e s₀ s'' → Q () s'') :
    wpAny (model PRG w) ((aro dp un gd envs).deeper env) (leaving env (.ref e)) Q E' s' := by
  have N := Mine.News.sub N sub
  obtain ⟨⟨B, a0, hfl, st, W⟩, frm, os, bare⟩ := fl
  rw [fsOf_cons hf] at st frm
  refine wpAny_leaves_onW (outer := envs) (L := L) rfl hf hfl fun h'' f2 u => k _ ⟨⟨B, a0, f2, fun b o q => ?_, W⟩, fun b hb o q => ?_, os.trans hos, bare⟩
  · have q' := solid_get.mp q
    refine st b o (solid_get.mpr ⟨F.keep b o q, fun hm => ?_⟩)
    rcases List.mem_cons.mp hm with r | hm
    · exact q'.2 (r ▸ .head _)
    · rcases List.mem_cons.mp hm with r | hm
      · exact q'.2 (r ▸ .tail _ (.head _))
      · rcases List.mem_cons.mp hm with rfl | hm
        · exact absurd (Heap.lt_size q'.1) (Nat.not_lt.mpr (solid_lt F))
        · exact q'.2 (.tail _ (.tail _ hm))
  · obtain ⟨o', ho', hd'⟩ := x.fr.dict hb
    rw [q] at ho'; cases ho'
    obtain ⟨es, ep, hd'⟩ := hd'
    obtain ⟨sl, hm⟩ := M.fr b hb o q
    obtain ⟨sl2, e2⟩ := frm b (.tail _ hb) _ (N _ hm).1
    obtain ⟨sl', e'⟩ := slots_frm u e2 (es := es) (ep := ep) hd'
    exact ⟨sl', e'⟩
end
end Mine
namespace Mine
open PySem PySem.W PySem.Calls PySem.Spec PyProof.Rows
theorem months_apart : ∀ i, i < 20 → ∀ j, j < 20 → i ≠ j → Str.ofString (months.getD i "") ≠ Str.ofString (months.getD j "") := by decide +kernel
theorem tznames_apart : ∀ i, i < 21 → ∀ j, j < 21 → i ≠ j → Str.ofString (tznames.getD i "") ≠ Str.ofString (tznames.getD j "") := by decide +kernel
theorem take_getD {l : List String} {n i : Nat} (h : i < n) : (l.take n).getD i "" = l.getD i "" := by simp [List.getD, List.getElem?_take, h]
section
variable {prog : Program} {w : World} {A : Around} {E : Value → Shared → Prop} {s : Shared} {h₀ : Heap} {L : Addr} {m : Str → Option Value} {k : Int} {u : Tok} {Q : Value → Shared → Prop}
theorem idx50 {j : Int} (F : Fr h₀ L s.heap m) (X : (hd.heap_39 w.params).In h₀) (h0 : 0 ≤ j) (h1 : j < 20) (hA : A.handled = none)
    (h : j ≤ 18 → Q (.int j s.toks) { s with toks := s.toks + 1 }) (he : j = 19 → ∀ h' tk e, Heap.NewExc s.heap h' e "ValueError" → E (.ref e) { s with heap := h', toks := tk }) :
    wpAny (model prog w) A (call (.builtin "list.index") [.ref 50, .str (mstr j) u]) Q E s := by
  have hl := F.keep _ _ (X _ _ (look50 _))
  by_cases hj : j ≤ 18
  · have := h hj
    rw [show j = ((j.toNat : Nat) : Int) by omega] at this
    refine index_hit (j := j.toNat) hl (by show j.toNat < 19; omega) (by decide) ?_ (fun i hi => ?_) this
    · rw [take_getD (by omega)]; rfl
    · rw [take_getD (by omega)]; exact months_apart i (by omega) j.toNat (by omega) (by omega)
  · have e : j = 19 := by omega
    subst e
    refine index_miss hl (fun i hi => ?_) ?_ ?_ hA (he rfl)
    · have hi' : i < 19 := hi
      rw [take_getD hi']; exact months_apart i (by omega) 19 (by omega) (by omega)
    · rw [sizeLine_eq]; decide +kernel
    · rw [sizeLine_eq]; decide +kernel
theorem idx51 {j : Int} (F : Fr h₀ L s.heap m) (X : (hd.heap_39 w.params).In h₀) (h0 : 0 ≤ j) (h1 : j < 21) (hA : A.handled = none)
    (h : j ≤ 19 → Q (.int j s.toks) { s with toks := s.toks + 1 }) (he : j = 20 → ∀ h' tk e, Heap.NewExc s.heap h' e "ValueError" → E (.ref e) { s with heap := h', toks := tk }) :
    wpAny (model prog w) A (call (.builtin "list.index") [.ref 51, .str (tstr j) u]) Q E s := by
  have hl := F.keep _ _ (X _ _ (look51 _))
  by_cases hj : j ≤ 19
  · have := h hj
    rw [show j = ((j.toNat : Nat) : Int) by omega] at this
    refine index_hit (j := j.toNat) hl (by show j.toNat < 20; omega) (by decide) ?_ (fun i hi => ?_) this
    · rw [take_getD (by omega)]; rfl
    · rw [take_getD (by omega)]; exact tznames_apart i (by omega) j.toNat (by omega) (by omega)
  · have e : j = 20 := by omega
    subst e
    refine index_miss hl (fun i hi => ?_) ?_ ?_ hA (he rfl)
    · have hi' : i < 20 := hi
      rw [take_getD hi']; exact tznames_apart i (by omega) 20 (by omega) (by omega)
    · rw [sizeLine_eq]; decide +kernel
    · rw [sizeLine_eq]; decide +kernel
theorem getIndex50 {pl : Sem Bool} {Q : Value × List Value → Shared → Prop} (F : Fr h₀ L s.heap m) (X : (hd.heap_39 w.params).In h₀) (h : Q (.builtin "list.index", [.ref 50]) s) :
    wpAny (model prog w) A (getMethod (.ref 50) "index" pl) Q E s :=
  have hl := F.keep _ _ (X _ _ (look50 _))
  getMethod_builtin ⟨_, hl, rfl⟩ PySem.F.plainAttrs_list PySem.F.slot_list_index PySem.F.type_list_index (fun a e => by cases e; exact ⟨_, hl, rfl⟩) h
theorem getIndex51 {pl : Sem Bool} {Q : Value × List Value → Shared → Prop} (F : Fr h₀ L s.heap m) (X : (hd.heap_39 w.params).In h₀) (h : Q (.builtin "list.index", [.ref 51]) s) :
    wpAny (model prog w) A (getMethod (.ref 51) "index" pl) Q E s :=
  have hl := F.keep _ _ (X _ _ (look51 _))
  getMethod_builtin ⟨_, hl, rfl⟩ PySem.F.plainAttrs_list PySem.F.slot_list_index PySem.F.type_list_index (fun a e => by cases e; exact ⟨_, hl, rfl⟩) h
end
end Mine
namespace Mine
open PySem PySem.W PySem.Calls PySem.Spec PyProof.Rows
/-- the exception e of class cls, its traceback with the flight mark fl; clean: it has no context -/
def Tr (h B : Heap) (e : Addr) (cls : String) (a0 fl : Value) (clean : Bool) : Prop :=
  ∃ oe vs T oT ts, h.get? e = some oe ∧ (oe.cls = .type cls ∧ vs[0]? = some a0) ∧ oe.data = .fields vs ∧ vs[1]? = some (.ref T) ∧ B.get? T = none ∧ T ≠ e ∧ h.get? T = some oT ∧ oT.data = .fields ts ∧ ts[3]? = some fl ∧ (clean = true → vs[2]? = some .none)
theorem Tr.traced {h B : Heap} {e : Addr} {cls : String} {a0 fl : Value} {clean : Bool} (x : Tr h B e cls a0 fl clean) : h.TracedAtW B e (.type cls) a0 fl :=
  let ⟨oe, vs, T, oT, ts, a, b, c, d, e, f, g, h, i, _⟩ := x; ⟨oe, vs, T, oT, ts, a, b, c, d, e, f, g, h, i⟩
theorem Tr.of {h B : Heap} {e : Addr} {cls : String} {a0 fl : Value} (x : h.TracedAtW B e (.type cls) a0 fl) : Tr h B e cls a0 fl false :=
  let ⟨oe, vs, T, oT, ts, a, b, c, d, e, f, g, h, i⟩ := x; ⟨oe, vs, T, oT, ts, a, b, c, d, e, f, g, h, i, fun q => Bool.noConfusion q⟩
/-- an exception of class cls is held in the frame L; fl is its flight mark -/
structure CaughtAt (w : World) (mg mb : Str → Option Value) (ob : Obj) (h₀ : Heap) (envs : List Env) (env : Env) (L : Addr) (m : Str → Option Value) (made : List (Addr × Obj)) (cls : String) (e : Addr) (fl : Value) (clean : Bool) (h : Heap) : Prop where
  ex : ∃ B a0, B.StaysIn h ∧ B.get? e = none ∧ (∀ b ∈ fsOf (env :: envs), B.get? b = none) ∧ Tr h B e cls a0 fl clean ∧ (solid (fsOf envs) h₀).StaysIn B ∧ Wd w mg mb ob B ∧ (∀ p ∈ made, B.get? p.1 = some p.2 ∧ (solid (fsOf envs) h₀).get? p.1 = none)
  frm : ∀ b ∈ fsOf envs, ∀ o, h₀.get? b = some o → ∃ sl, h.get? b = some { o with slots := sl }
  ns : h.Ns L m
  above : h₀.objs.size ≤ L
  fr₀ : Frames envs h₀
  W₀ : Wd w mg mb ob h₀
  hi : Hi (fsOf envs)
  frame : env.frame = some L
  kind : env.scope.kind ≠ .module
theorem not_lt_of_eq {b L n : Nat} (z : b = L) (h : n ≤ L) : ¬ b < n := by omega
section
variable {w : World} {mg mb : Str → Option Value} {ob : Obj} {dp un n : Nat} {gd : Option (List Code)} {envs : List Env} {env : Env} {s₀ s s' : Shared} {h₀ h h' : Heap} {L e : Addr} {m m' : Str → Option Value} {mu news made : List (Addr × Obj)} {cls : String} {fs : List Addr} {A : Around} {fl : Value} {clean : Bool}
theorem CaughtAt.facts (c : CaughtAt w mg mb ob h₀ envs env L m made cls e fl clean h) :
    ∃ mu', Mu h₀ (fsOf envs) mu' ∧ Fr (solid (fsOf envs) h₀) L h m ∧ News (solid (fsOf envs) h₀) L h (made ++ mu') := by
  obtain ⟨B, a0, b1, b2, b3, b4, b5, b6, b7⟩ := c.ex
  have W := b6.keeps b1
  obtain ⟨q1, e1, r1⟩ := W.tab1
  obtain ⟨q2, e2, r2⟩ := W.tab2
  have hBL : B.get? L = none := b3 L (by rw [fsOf_cons c.frame]; exact .head _)
  have hsz : 158 < h₀.objs.size := c.W₀.size
  have hL := c.above
  refine ⟨(74, tabO q1) :: (95, tabO q2) :: (fsOf envs).filterMap (fun b => (h.get? b).map (b, ·)), ⟨⟨q1, .head _, r1⟩, ⟨q2, .tail _ (.head _), r2⟩, fun b hb o q => ?_, fun p hp => ?_⟩, ⟨c.ns, fun b o q => b1 b o (b5 b o q), by rw [hideAll_size]; exact c.above⟩, fun p hp => ?_⟩
  · obtain ⟨sl, q'⟩ := c.frm b hb o q
    exact ⟨sl, .tail _ (.tail _ (List.mem_filterMap.mpr ⟨b, hb, by rw [q']; rfl⟩))⟩
  · rcases List.mem_cons.mp hp with rfl | hp
    · exact .inl ⟨_, rfl⟩
    · rcases List.mem_cons.mp hp with rfl | hp
      · exact .inl ⟨_, rfl⟩
      · obtain ⟨b, hb, q⟩ := List.mem_filterMap.mp hp
        obtain ⟨o, ho, hd⟩ := c.fr₀.dict hb
        obtain ⟨sl, q'⟩ := c.frm b hb o ho
        rw [q'] at q; cases q
        exact .inr hd
  · rcases List.mem_append.mp hp with hp | hp
    · have q := b7 p hp
      exact ⟨b1 _ _ q.1, (fun z => by have := q.1; rw [z, hBL] at this; cases this), q.2⟩
    · rcases List.mem_cons.mp hp with rfl | hp
      · exact ⟨e1, fun z => by have : (74 : Nat) = L := z; omega, hideAll_none _ (.head _)⟩
      · rcases List.mem_cons.mp hp with rfl | hp
        · exact ⟨e2, fun z => by have : (95 : Nat) = L := z; omega, hideAll_none _ (.tail _ (.head _))⟩
        · obtain ⟨b, hb, q⟩ := List.mem_filterMap.mp hp
          obtain ⟨o, ho, hd⟩ := c.fr₀.dict hb
          obtain ⟨sl, q'⟩ := c.frm b hb o ho
          rw [q'] at q; cases q
          exact ⟨q', fun z => absurd (Heap.lt_size ho) (not_lt_of_eq z hL), hideAll_none _ (.tail _ (.tail _ hb))⟩
theorem CaughtAt.isA (c : CaughtAt w mg mb ob h₀ envs env L m made cls e fl clean h) : ∃ o, h.get? e = some o ∧ o.cls = .type cls := by
  obtain ⟨B, a0, _, _, _, b4, _⟩ := c.ex
  exact b4.traced.there
theorem frm_slots (c : Frames envs h₀) (u : h.UpToSlots h') (k : ∀ b ∈ fsOf envs, ∀ o, h₀.get? b = some o → ∃ sl, h.get? b = some { o with slots := sl }) :
    ∀ b ∈ fsOf envs, ∀ o, h₀.get? b = some o → ∃ sl, h'.get? b = some { o with slots := sl } := fun b hb o q => by
  obtain ⟨o', ho', es, ep, hd⟩ := c.dict hb
  rw [q] at ho'; cases ho'
  obtain ⟨sl, q'⟩ := k b hb o q
  obtain ⟨sl', q''⟩ := slots_frm u q' (es := es) (ep := ep) hd
  exact ⟨sl', q''⟩
/-- only the frame L is turned -/
theorem CaughtAt.set (c : CaughtAt w mg mb ob h₀ envs env L m made cls e fl clean h) (hn : h'.Ns L m') (hs : Heap.SameBut L h h') : CaughtAt w mg mb ob h₀ envs env L m' made cls e fl clean h' := by
  obtain ⟨⟨B, a0, b1, b2, b3, b4, b5, b6, b7⟩, frm, ns, above, fr₀, W₀, hi, hf, hk⟩ := c
  have hBL : B.get? L = none := b3 L (by rw [fsOf_cons hf]; exact .head _)
  obtain ⟨oL, esL, epL, hL, hLd, _⟩ := ns
  obtain ⟨oL', esL', epL', hL', hLd', _⟩ := id hn
  have oth : ∀ b o, h.get? b = some o → b ≠ L → h'.get? b = some o := fun b o q hne => (hs.2 b hne).trans q
  obtain ⟨oe, vs, T, oT, ts, t1, t2, t3, t4, t5, t6, t7, t8, t9, t10⟩ := b4
  have heL : e ≠ L := fun z => by rw [z, hL] at t1; cases t1; rw [hLd] at t3; cases t3
  have hTL : T ≠ L := fun z => by rw [z, hL] at t7; cases t7; rw [hLd] at t8; cases t8
  refine ⟨⟨B, a0, fun b o q => oth b o (b1 b o q) (fun z => by rw [z, hBL] at q; cases q), b2, b3, ⟨oe, vs, T, oT, ts, oth _ _ t1 heL, t2, t3, t4, t5, t6, oth _ _ t7 hTL, t8, t9, t10⟩, b5, b6, b7⟩, fun b hb o q => ?_, hn, above, fr₀, W₀, hi, hf, hk⟩
  · obtain ⟨sl, q'⟩ := frm b hb o q
    exact ⟨sl, oth _ _ q' fun z => absurd (Heap.lt_size q) (not_lt_of_eq z above)⟩
theorem CaughtAt.frames (c : CaughtAt w mg mb ob h₀ envs env L m made cls e fl clean h) : Frames (env :: envs) h := fun env' he => by
  rcases List.mem_cons.mp he with rfl | he
  · obtain ⟨o, es, ep, q, hd, _⟩ := c.ns
    exact ⟨c.kind, L, o, c.frame, q, es, ep, hd⟩
  · obtain ⟨hk', L', o, hf', q, es, ep, hd⟩ := c.fr₀ env' he
    obtain ⟨sl, q'⟩ := c.frm L' (List.mem_filterMap.mpr ⟨env', he, hf'⟩) o q
    exact ⟨hk', L', _, hf', q', es, ep, hd⟩
/-- the flight mark is taken away -/
theorem CaughtAt.land {Q : Unit → Shared → Prop} {M : Model} {E : Value → Shared → Prop} (c : CaughtAt w mg mb ob h₀ envs env L m made cls e fl clean s.heap) (k : ∀ h', CaughtAt w mg mb ob h₀ envs env L m made cls e .none clean h' → Q () { s with heap := h' }) :
    wpAny M A (setFlight (.ref e) none) Q E s := by
  have fr := c.frames
  obtain ⟨⟨B, a0, b1, b2, b3, b4, b5, b6, b7⟩, frm, ns, above, fr₀, W₀, hi, hf, hk⟩ := c
  obtain ⟨oe, vs, T, oT, ts, t1, t2, t3, t4, t5, t6, t7, t8, t9, t10⟩ := b4
  have hsz : 3 < ts.size := (Array.getElem?_eq_some_iff.mp t9).1
  unfold setFlight
  refine wpAny_bind (wpAny_field t1 t3 t4 ?_)
  rw [if_pos (show (Value.ref T != Value.none) = true from by simp)]
  show wpAny M A (setField (.ref T) 3 .none) Q E s
  refine wpAny_setField t7 t8 hsz (k _ ?_)
  have oth : ∀ b, b ≠ T → (s.heap.update T (Obj.mapFields (·.setIfInBounds 3 Value.none))).get? b = s.heap.get? b := fun b hb => Heap.get?_update_other _ _ (Ne.symm hb)
  have hself := Heap.get?_update_self (Obj.mapFields (·.setIfInBounds 3 Value.none)) t7 (Obj.isFreed_of_fields (Obj.data_mapFields t8 _))
  have u : s.heap.UpToSlots (s.heap.update T (Obj.mapFields (·.setIfInBounds 3 Value.none))) := fun b o q hn => ⟨o.slots, (oth b fun z => by rw [z, t7] at q; cases q; exact hn ts t8).trans q⟩
  exact ⟨⟨B, a0, fun b o q => (oth b fun z => by rw [z, t5] at q; cases q).trans (b1 b o q), b2, b3, ⟨oe, vs, T, _, _, (oth e (Ne.symm t6)).trans t1, t2, t3, t4, t5, t6, hself, Obj.data_mapFields t8 _, by simp [hsz], t10⟩, b5, b6, b7⟩,
    frm_slots fr₀ u frm, u.ns ns, above, fr₀, W₀, hi, hf, hk⟩
/-- a new exception is noted in its own frame -/
theorem note_new {Q : Unit → Shared → Prop} {E : Value → Shared → Prop} (hA : A.frames = some (env :: envs)) (x : Sit w mg mb ob dp un envs (n + 1) s) (F : Fr (solid (fsOf envs) s.heap) L h m) (N : News (solid (fsOf envs) s.heap) L h (made ++ mu)) (M : Mu s.heap (fsOf envs) mu) (hpl : Plain made)
    (hf : env.frame = some L) (hk : env.scope.kind ≠ .module) (hx : Heap.NewExcOf h s'.heap e cls) (h0 : ∀ ob vs, s'.heap.get? e = some ob → ob.data = .fields vs → (∃ a0, vs[0]? = some a0) ∧ (clean = true → vs[2]? = some .none))
    (k : ∀ h', CaughtAt w mg mb ob s.heap envs env L m made cls e (rawInt L) clean h' → Q () { s' with heap := h' }) :
    wpAny (model PRG w) A (noteFrame (.ref e) env) Q E s' := by
  have Nmu : News (solid (fsOf envs) s.heap) L h mu := fun p hp => N p (List.mem_append_right _ hp)
  have fr := frames_in x F Nmu M hf hk
  have W := wd_in x F Nmu M
  have hfs : fsOf (env :: envs) = L :: fsOf envs := fsOf_cons hf
  have hL : 158 < L := Nat.lt_of_lt_of_le x.W.size (solid_lt F)
  have hhi : ∀ b ∈ fsOf (env :: envs), 158 < b := fun b hb => by
    rw [hfs] at hb
    rcases List.mem_cons.mp hb with rfl | hb
    · exact hL
    · exact x.hi b hb
  obtain ⟨oe, vs, he, hc, hd, h1⟩ := hx.there
  obtain ⟨⟨a0, ha0⟩, hcl⟩ := h0 oe vs he hd
  have hfr' : Frames (env :: envs) s'.heap := fun env' he' => by
    obtain ⟨hk', L', o, hf', e', r⟩ := fr env' he'
    exact ⟨hk', L', o, hf', hx.keeps _ _ e', r⟩
  have hB : ∀ b ∈ fsOf (env :: envs), (hideAll h (fsOf (env :: envs))).get? b = none := fun b hb => hideAll_none _ hb
  have hBe : (hideAll h (fsOf (env :: envs))).get? e = none := by
    cases q : (hideAll h (fsOf (env :: envs))).get? e with
    | none => rfl
    | some o => have := of_hideAll _ q; rw [hx.new] at this; cases this
  have memMu : ∀ b ∈ fsOf envs, ∃ o, (b, o) ∈ mu := fun b hb => by
    obtain ⟨o, ho, _⟩ := x.fr.dict hb
    obtain ⟨sl, hm⟩ := M.fr b hb o ho
    exact ⟨_, hm⟩
  have st : (solid (fsOf envs) s.heap).StaysIn (hideAll h (fsOf (env :: envs))) := fun b o q => by
    have q' := solid_get.mp q
    refine hideAll_get _ (F.keep b o q) fun hm => ?_
    rw [hfs] at hm
    rcases List.mem_cons.mp hm with rfl | hm
    · exact absurd (Heap.lt_size q'.1) (Nat.not_lt.mpr (solid_lt F))
    · exact q'.2 (.tail _ (.tail _ hm))
  have md : ∀ p ∈ made, (hideAll h (fsOf (env :: envs))).get? p.1 = some p.2 ∧ (solid (fsOf envs) s.heap).get? p.1 = none := fun p hp => by
    have q := N p (List.mem_append_left _ hp)
    refine ⟨hideAll_get _ q.1 fun hm => ?_, q.2.2⟩
    rw [hfs] at hm
    rcases List.mem_cons.mp hm with z | hm
    · exact q.2.1 z
    · obtain ⟨o, hm'⟩ := memMu _ hm
      have q' := (N _ (List.mem_append_right _ hm')).1
      have eo : o = p.2 := Option.some.inj (q'.symm.trans q.1)
      rcases M.only _ hm' with ⟨ps, hd⟩ | ⟨es, ep, hd⟩
      · exact (hpl p hp).1 ps (by rw [← eo]; exact hd)
      · exact (hpl p hp).2 es ep (by rw [← eo]; exact hd)
  unfold noteFrame
  simp only [hf]
  refine wpAny_bind (wpAny_field he hd h1 ?_)
  rw [if_neg (by decide)]
  have hl := funFrames_of hfr' hB
  have hene : e ∉ (env :: envs).filterMap (·.frame) := fun hm => by
    obtain ⟨_, o, ho, hnf⟩ := hl.mem hm
    rw [he] at ho; cases ho; exact hnf vs hd
  refine wpAny_bind (wpAny_frameOf_fun hA hl hf fun h₁ sl₁ => wpAny_bind (wpAny_entryPlaceOf fun pl hpl => ?_))
  unfold EntryCells.newEntry newFields
  refine wpAny_bind (wpAny_newObj_type ?_ (hpl.sizeOk5 _ _ _ _ _))
  have he₁ : h₁.get? e = some oe := (sl₁.2.1 e hene).trans he
  generalize htb : ({ cls := .type "traceback", dict := none, data := .fields ([Value.none, .ref L, .none, rawInt L, .none] ++ (if pl.isEmpty then List.replicate 6 Value.none else pl)).toArray } : Obj) = tb
  refine wpAny_setField (Heap.get?_push_of_some tb he₁) hd (Array.getElem?_eq_some_iff.mp h1).1 (k _ ?_)
  have hTe : h₁.objs.size ≠ e := Nat.ne_of_gt (Heap.lt_size he₁)
  have hd₃ := Obj.data_mapFields hd (·.setIfInBounds 1 (Value.ref h₁.objs.size))
  have he₃ := Heap.get?_update_self (Obj.mapFields (·.setIfInBounds 1 (Value.ref h₁.objs.size))) (Heap.get?_push_of_some tb he₁) (Obj.isFreed_of_fields hd₃)
  have rest : ∀ b o, b ≠ e → h₁.get? b = some o → ((h₁.push tb).update e (Obj.mapFields (·.setIfInBounds 1 (Value.ref h₁.objs.size)))).get? b = some o := fun b o hne q =>
    (Heap.get?_update_other _ _ (Ne.symm hne)).trans (Heap.get?_push_of_some _ q)
  have hT₃ : ((h₁.push tb).update e (Obj.mapFields (·.setIfInBounds 1 (Value.ref h₁.objs.size)))).get? h₁.objs.size = some tb :=
    (Heap.get?_update_other _ _ (Ne.symm hTe)).trans (Heap.get?_push_size _ (by rw [← htb]; rfl))
  have u : s'.heap.UpToSlots ((h₁.push tb).update e (Obj.mapFields (·.setIfInBounds 1 (Value.ref h₁.objs.size)))) := fun b o q hn => by
    obtain ⟨sl, q'⟩ := sl₁.2.2 b o q
    exact ⟨sl, rest b _ (fun z => by rw [z, he] at q; cases q; exact hn vs hd) q'⟩
  have inB : ∀ b o, (hideAll h (fsOf (env :: envs))).get? b = some o → h₁.get? b = some o := fun b o q =>
    (sl₁.2.1 b fun hm => by rw [hB b hm] at q; cases q).trans (hx.keeps b o (of_hideAll _ q))
  have hBT : (hideAll h (fsOf (env :: envs))).get? h₁.objs.size = none := by
    cases q : (hideAll h (fsOf (env :: envs))).get? h₁.objs.size with
    | none => rfl
    | some o => exact absurd (Heap.lt_size (inB _ _ q)) (Nat.lt_irrefl _)
  refine ⟨⟨_, a0, fun b o q => rest b o (fun z => by rw [z, hBe] at q; cases q) (inB b o q), hBe, hB, ⟨_, _, h₁.objs.size, tb, _, he₃, ⟨(Obj.cls_mapFields _ _).trans hc, by rw [Array.getElem?_setIfInBounds_ne (by decide)]; exact ha0⟩, hd₃, by simp [(Array.getElem?_eq_some_iff.mp h1).1], hBT, hTe, hT₃, by rw [← htb], ?_, fun q => by rw [Array.getElem?_setIfInBounds_ne (by decide)]; exact hcl q⟩, st, wd_hide W hhi, md⟩, frm_slots x.fr (h := h) (fun b o hb hn => u b o (hx.keeps b o hb) hn) (fun b hb o q => ?_), u.ns (F.ns.keeps hx.keeps), solid_lt F, x.fr, x.W, x.hi, hf, hk⟩
  · first | (simp; done) | (rcases hpl with rfl | ⟨_, _, _, _, _, _, _, rfl⟩ <;> simp)
  · obtain ⟨sl, hm⟩ := M.fr b hb o q
    exact ⟨sl, (Nmu _ hm).1⟩
/-- an exception that flew out of a call is noted in the frame that made the call -/
theorem note_fly {Q : Unit → Shared → Prop} {E : Value → Shared → Prop} (hA : A.frames = some (env :: envs)) (x : Sit w mg mb ob dp un envs (n + 1) s₀) (F : Fr (solid (fsOf envs) s₀.heap) L s.heap m) (N : News (solid (fsOf envs) s₀.heap) L s.heap (made ++ mu)) (M : Mu s₀.heap (fsOf envs) mu) (hpl : Plain made)
    (hf : env.frame = some L) (hk : env.scope.kind ≠ .module) (fl : Flies w mg mb ob (env :: envs) cls e s s')
    (k : ∀ h', CaughtAt w mg mb ob s₀.heap envs env L m made cls e (rawInt L) false h' → Q () { s' with heap := h' }) :
    wpAny (model PRG w) A (noteFrame (.ref e) env) Q E s' := by
  obtain ⟨⟨B, a0, hfl, st, W⟩, frm, os, bare⟩ := fl
  have hfs : fsOf (env :: envs) = L :: fsOf envs := fsOf_cons hf
  rw [hfs] at st frm
  have Nmu : News (solid (fsOf envs) s₀.heap) L s.heap mu := fun p hp => N p (List.mem_append_right _ hp)
  have memMu : ∀ b ∈ hid (fsOf envs), ∃ o, (b, o) ∈ mu := by
    intro b hb
    rcases List.mem_cons.mp hb with rfl | hb
    · obtain ⟨ps, hm, _⟩ := M.t1; exact ⟨_, hm⟩
    · rcases List.mem_cons.mp hb with rfl | hb
      · obtain ⟨ps, hm, _⟩ := M.t2; exact ⟨_, hm⟩
      · obtain ⟨o, ho, _⟩ := x.fr.dict hb
        obtain ⟨sl, hm⟩ := M.fr b hb o ho
        exact ⟨_, hm⟩
  have hB : ∀ b ∈ fsOf (env :: envs), B.get? b = none := by
    have go : ∀ {l : List Env} {h : Heap}, h.FunFrames B l → ∀ b ∈ fsOf l, B.get? b = none := by
      intro l
      induction l with
      | nil => intro h _ b hb; cases hb
      | cons a l ih =>
        intro h y b hb
        obtain ⟨_, ⟨L', _, hf', hn, _⟩, hr⟩ := y
        rw [fsOf_cons hf'] at hb
        rcases List.mem_cons.mp hb with rfl | hb
        · exact hn
        · exact ih hr b hb
    exact go hfl.2.2.1
  have st' : (solid (fsOf envs) s₀.heap).StaysIn B := fun b o q => by
    have q' := solid_get.mp q
    refine st b o (solid_get.mpr ⟨F.keep b o q, fun hm => ?_⟩)
    rcases List.mem_cons.mp hm with r | hm
    · exact q'.2 (r ▸ .head _)
    · rcases List.mem_cons.mp hm with r | hm
      · exact q'.2 (r ▸ .tail _ (.head _))
      · rcases List.mem_cons.mp hm with rfl | hm
        · exact absurd (Heap.lt_size q'.1) (Nat.not_lt.mpr (solid_lt F))
        · exact q'.2 (.tail _ (.tail _ hm))
  have md : ∀ p ∈ made, B.get? p.1 = some p.2 ∧ (solid (fsOf envs) s₀.heap).get? p.1 = none := fun p hp => by
    have q := N p (List.mem_append_left _ hp)
    refine ⟨st p.1 p.2 (solid_get.mpr ⟨q.1, fun hm => ?_⟩), q.2.2⟩
    have hm2 : p.1 = L ∨ p.1 ∈ hid (fsOf envs) := by
      rcases List.mem_cons.mp hm with r | hm
      · exact .inr (r ▸ .head _)
      · rcases List.mem_cons.mp hm with r | hm
        · exact .inr (r ▸ .tail _ (.head _))
        · rcases List.mem_cons.mp hm with r | hm
          · exact .inl r
          · exact .inr (.tail _ (.tail _ hm))
    rcases hm2 with z | hm
    · exact q.2.1 z
    · obtain ⟨o, hm'⟩ := memMu _ hm
      have q' := (N _ (List.mem_append_right _ hm')).1
      have eo : o = p.2 := Option.some.inj (q'.symm.trans q.1)
      rcases M.only _ hm' with ⟨ps, hd⟩ | ⟨es, ep, hd⟩
      · exact (hpl p hp).1 ps (by rw [← eo]; exact hd)
      · exact (hpl p hp).2 es ep (by rw [← eo]; exact hd)
  refine wpAny_looks_onW (outer := envs) (L := L) hA hf hfl fun h' hh u => k h' ?_
  obtain ⟨oL, esL, epL, hL, hLd, hLk, hLf⟩ := F.ns
  obtain ⟨sl, hL'⟩ := frm L (.head _) oL hL
  refine ⟨⟨B, a0, hh.1, hh.2.1, hB, Tr.of hh.2.2.2, st', W, md⟩, frm_slots x.fr u (fun b hb o q => ?_), u.ns ⟨_, esL, epL, hL', hLd, hLk, hLf⟩, solid_lt F, x.fr, x.W, x.hi, hf, hk⟩
  obtain ⟨sl, hm⟩ := M.fr b hb o q
  obtain ⟨sl2, e2⟩ := frm b (.tail _ hb) _ (Nmu _ hm).1
  exact ⟨sl2, e2⟩
end
end Mine
namespace Mine
open PySem PySem.W PySem.Calls PySem.Spec PyProof.Rows
section
variable {w : World} {mg mb : Str → Option Value} {ob : Obj} {dp un n : Nat} {gd : Option (List Code)} {envs : List Env} {env : Env} {s₀ s s' : Shared} {h₀ h h' : Heap} {L e a : Addr} {m m' : Str → Option Value} {mu news made : List (Addr × Obj)} {cls : String} {A : Around} {fl : Value} {clean : Bool}
  {cn : Str} {cs : Scope} {ccd : Value} {cl : List (Str × Addr)} {x nm : Str} {T : String} {np pos : Pos} {b₀ : Stmt} {suite : List Stmt} {rest : List ExceptHandler} {Q : Flow → Shared → Prop} {E E' : Value → Shared → Prop}
theorem CaughtAt.inK (c : CaughtAt w mg mb ob h₀ envs env L m made cls e fl clean h) : (hd.heap_39 w.params).In (solid (fsOf envs) h₀) := In.keep c.W₀.X c.hi fun _ _ e => e
theorem CaughtAt.top (c : CaughtAt w mg mb ob h₀ envs env L m made cls e fl clean h) : TopRead VW LOO mg mb (solid (fsOf envs) h₀) := TopRead.keep c.W₀.T c.hi fun _ _ e => e
theorem clause_hit (c : CaughtAt w mg mb ob h₀ envs (envX cn cs L a ccd cl) L m made cls e .none clean s'.heap)
    (hx : nsIn (hd.heap_39 w.params) mainGlobals x = some none) (hv : bootBuiltins x = some (.type T)) (hn : x ≠ "__name__") (hk : cs.kind = .function) (hxk : (envX cn cs L a ccd cl).kindOf x = some .globalImplicit) (hdb : (x == ("__debug__" : Str)) = false)
    (hexc : isSubtype (.type T) (.type "BaseException") = pure true) (hnt : isSubtype (.type ((Manifest.find? T).elim "type" fun y => y.metatype)) (.type "tuple") = pure false) (hsub : isSubtype (.type cls) (.type T) = pure true)
    (hE : PassesOwnAt (model PRG w) (A.mark (some (.ref e))) A (envX cn cs L a ccd cl) E)
    (k : ∀ h', CaughtAt w mg mb ob h₀ envs (envX cn cs L a ccd cl) L m made cls e .none clean h' → wpAny (model PRG w) (A.mark (some (.ref e))) (execs (b₀ :: suite) (envX cn cs L a ccd cl)) Q E { s' with heap := h' }) :
    wpAny (model PRG w) A (handleBy (.ref e) (envX cn cs L a ccd cl) (.ExceptHandler (some (.Name x np)) none (b₀ :: suite) pos :: rest)) Q E s' := by
  obtain ⟨mu', M, F, N⟩ := c.facts
  refine wpAny_handleBy_builtin (X := cls) (T := T) (b := true) hexc hnt hsub (nameX_B F c.inK c.top hx hv hn ⟨rfl, c.isA, ?_⟩ hk hxk hdb)
  rw [if_pos rfl]
  exact c.land fun h' c' => wpAny_passesOwnAt hE (k h' c')
theorem clause_miss (c : CaughtAt w mg mb ob h₀ envs (envX cn cs L a ccd cl) L m made cls e .none clean s'.heap)
    (hx : nsIn (hd.heap_39 w.params) mainGlobals x = some none) (hv : bootBuiltins x = some (.type T)) (hn : x ≠ "__name__") (hk : cs.kind = .function) (hxk : (envX cn cs L a ccd cl).kindOf x = some .globalImplicit) (hdb : (x == ("__debug__" : Str)) = false)
    (hexc : isSubtype (.type T) (.type "BaseException") = pure true) (hnt : isSubtype (.type ((Manifest.find? T).elim "type" fun y => y.metatype)) (.type "tuple") = pure false) (hsub : isSubtype (.type cls) (.type T) = pure false)
    (k : wpAny (model PRG w) A (handleBy (.ref e) (envX cn cs L a ccd cl) rest) Q E s') :
    wpAny (model PRG w) A (handleBy (.ref e) (envX cn cs L a ccd cl) (.ExceptHandler (some (.Name x np)) none (b₀ :: suite) pos :: rest)) Q E s' := by
  obtain ⟨mu', M, F, N⟩ := c.facts
  refine wpAny_handleBy_builtin (X := cls) (T := T) (b := false) hexc hnt hsub (nameX_B F c.inK c.top hx hv hn ⟨rfl, c.isA, ?_⟩ hk hxk hdb)
  rw [if_neg (by decide)]
  exact k
theorem clause_hit_as (c : CaughtAt w mg mb ob h₀ envs (envX cn cs L a ccd cl) L m made cls e .none clean s'.heap)
    (hx : nsIn (hd.heap_39 w.params) mainGlobals x = some none) (hv : bootBuiltins x = some (.type T)) (hn : x ≠ "__name__") (hk : cs.kind = .function) (hxk : (envX cn cs L a ccd cl).kindOf x = some .globalImplicit) (hdb : (x == ("__debug__" : Str)) = false)
    (hexc : isSubtype (.type T) (.type "BaseException") = pure true) (hnt : isSubtype (.type ((Manifest.find? T).elim "type" fun y => y.metatype)) (.type "tuple") = pure false) (hsub : isSubtype (.type cls) (.type T) = pure true)
    (hlo : (envX cn cs L a ccd cl).kindOf nm = some .local)
    (k : ∀ h' tk, CaughtAt w mg mb ob h₀ envs (envX cn cs L a ccd cl) L (fun y => if y = nm then some (.ref e) else m y) made cls e .none clean h' → wpAny (model PRG w) (A.mark (some (.ref e))) (execs (b₀ :: suite) (envX cn cs L a ccd cl))
        (fun f s₄ => wpAny (model PRG w) A (do bindName (envX cn cs L a ccd cl) nm .none; unbindBehindTheSuite (envX cn cs L a ccd cl) nm pos) (fun _ s₅ => Q f s₅) E s₄)
        (AsSuiteRaised (model PRG w) (A.mark (some (.ref e))) (envX cn cs L a ccd cl) nm pos (notedBy (model PRG w) (A.mark (some (.ref e))) (envX cn cs L a ccd cl) (cameBackBy (model PRG w) A (envX cn cs L a ccd cl) E))) { s' with heap := h', toks := tk }) :
    wpAny (model PRG w) A (handleBy (.ref e) (envX cn cs L a ccd cl) (.ExceptHandler (some (.Name x np)) (some nm) (b₀ :: suite) pos :: rest)) Q E s' := by
  obtain ⟨mu', M, F, N⟩ := c.facts
  refine wpAny_handleBy_builtin_as (X := cls) (T := T) (b := true) hexc hnt hsub (nameX_B F c.inK c.top hx hv hn ⟨rfl, c.isA, ?_⟩ hk hxk hdb)
  rw [if_pos rfl]
  refine c.land fun h' c' => ?_
  exact wpAny_storeName_local hlo c'.ns (fun h'' hn' hs => k h'' _ (c'.set hn' hs)) (by show (cs.kind == .class || (cs.kind == .module && L != mainGlobals)) = false; rw [hk]; rfl)
theorem passes_never {M : Model} {A' A : Around} : PassesOwnAt M A' A env (fun _ _ => False) := PassesOwnAt.never
theorem passes_back {M : Model} {hdl : Option Value} {Q₁ E₁ : Value → Shared → Prop} : PassesOwnAt M (A.mark hdl) A env (fun e s' => Back (wpAny M A (leaving env e) (fun _ s'' => Q₁ e s'') E₁ s')) := fun e s' hb => by
  have := PassesOwnAt.leaving (M := M) (A := A) (hd := hdl) (env := env) (Q₁ := Q₁) (E₁ := E₁) e s' hb.out
  refine wpAny_mono this (fun _ s₂ z => ?_) fun _ s₂ z => ?_
  · exact wpAny_mono z (fun _ _ y => ⟨y⟩) fun _ _ y => ⟨y⟩
  · exact wpAny_mono z (fun _ _ y => ⟨y⟩) fun _ _ y => ⟨y⟩
theorem CaughtAt.flight {Q : Unit → Shared → Prop} {M : Model} (c : CaughtAt w mg mb ob h₀ envs env L m made cls e fl clean s.heap) (k : ∀ h', CaughtAt w mg mb ob h₀ envs env L m made cls e (rawInt L) clean h' → Q () { s with heap := h' }) :
    wpAny M A (setFlight (.ref e) (some L)) Q E s := by
  obtain ⟨⟨B, a0, b1, b2, b3, ⟨oe, vs, T, oT, ts, t1, t2, t3, t4, t5, t6, t7, t8, t9, t10⟩, b5, b6, b7⟩, frm, ns, above, fr₀, W₀, hi, hf, hk⟩ := c
  have hsz : 3 < ts.size := (Array.getElem?_eq_some_iff.mp t9).1
  unfold setFlight
  refine wpAny_bind (wpAny_field t1 t3 t4 ?_)
  rw [if_pos (show (Value.ref T != Value.none) = true from by simp)]
  show wpAny M A (setField (.ref T) 3 (rawInt L)) Q E s
  refine wpAny_setField t7 t8 hsz (k _ ?_)
  have oth : ∀ b, b ≠ T → (s.heap.update T (Obj.mapFields (·.setIfInBounds 3 (rawInt L)))).get? b = s.heap.get? b := fun b hb => Heap.get?_update_other _ _ (Ne.symm hb)
  have hself := Heap.get?_update_self (Obj.mapFields (·.setIfInBounds 3 (rawInt L))) t7 (Obj.isFreed_of_fields (Obj.data_mapFields t8 _))
  have u : s.heap.UpToSlots (s.heap.update T (Obj.mapFields (·.setIfInBounds 3 (rawInt L)))) := fun b o q hn => ⟨o.slots, (oth b fun z => by rw [z, t7] at q; cases q; exact hn ts t8).trans q⟩
  exact ⟨⟨B, a0, fun b o q => (oth b fun z => by rw [z, t5] at q; cases q).trans (b1 b o q), b2, b3, ⟨oe, vs, T, _, _, (oth e (Ne.symm t6)).trans t1, t2, t3, t4, t5, t6, hself, Obj.data_mapFields t8 _, by simp [hsz], t10⟩, b5, b6, b7⟩,
    frm_slots fr₀ u frm, u.ns ns, above, fr₀, W₀, hi, hf, hk⟩
theorem CaughtAt.again {Q : Unit → Shared → Prop} {M : Model} (c : CaughtAt w mg mb ob h₀ envs env L m made cls e (rawInt L) clean s.heap) (k : Q () s) : wpAny M A (noteFrame (.ref e) env) Q E s := by
  obtain ⟨B, a0, b1, b2, b3, b4, _⟩ := c.ex
  exact wpAny_noteFrame_againW c.frame b4.traced k
theorem CaughtAt.tb {fl : Value} (c : CaughtAt w mg mb ob h₀ envs env L m made cls e fl clean h) : ∃ o vs T, h.get? e = some o ∧ o.data = .fields vs ∧ vs[1]? = some (.ref T) := by
  obtain ⟨B, a0, _, _, _, ⟨oe, vs, T, _, _, t1, _, t3, t4, _⟩, _⟩ := c.ex
  exact ⟨oe, vs, T, t1, t3, t4⟩
theorem CaughtAt.leave {Q : Unit → Shared → Prop} {M : Model} (c : CaughtAt w mg mb ob s₀.heap envs env L m made cls e (rawInt L) clean s'.heap) (hos : s'.os = s₀.os) (hb : AllBare s'.gens)
    (k : ∀ s'', Flies w mg mb ob envs cls e s₀ s'' → Q () s'') : wpAny M A (leaving env (.ref e)) Q E s' := by
  unfold leaving
  refine wpAny_bind (c.again ?_)
  refine c.land fun h' c' => k _ ?_
  have fr := c'.frames
  obtain ⟨⟨B, a0, b1, b2, b3, b4, b5, b6, b7⟩, frm, ns, above, fr₀, W₀, hi, hf, hk⟩ := c'
  obtain ⟨_, _, ff⟩ := funFrames_of fr b3
  exact ⟨⟨B, a0, ⟨b1, b2, ff, b4.traced⟩, b5, b6⟩, frm, hos, hb⟩
/-- an exception raised in the suite of «except .. as nm» -/
theorem suite_out (hA : A.frames = some (envX cn cs L a ccd cl :: envs)) (x : Sit w mg mb ob dp un envs (n + 1) s) (F : Fr (solid (fsOf envs) s.heap) L h m) (N : News (solid (fsOf envs) s.heap) L h (made ++ mu)) (M : Mu s.heap (fsOf envs) mu) (hpl : Plain made)
    (hk : cs.kind = .function) (hlo : (envX cn cs L a ccd cl).kindOf nm = some .local) {hdl : Option Value} {Eo : Value → Shared → Prop} {E₁ : Value → Shared → Prop}
    (hx : Heap.NewExcOf h s'.heap e cls) (h0 : ∀ ob vs, s'.heap.get? e = some ob → ob.data = .fields vs → ∃ a0, vs[0]? = some a0) (hos : s'.os = s.os) (hb : AllBare s'.gens)
    (k : ∀ s'', Flies w mg mb ob envs cls e s s'' → Eo (.ref e) s'') :
    AsSuiteRaised (model PRG w) (A.mark hdl) (envX cn cs L a ccd cl) nm pos (notedBy (model PRG w) (A.mark hdl) (envX cn cs L a ccd cl) (cameBackBy (model PRG w) A (envX cn cs L a ccd cl)
      (fun e s' => Back (wpAny (model PRG w) A (leaving (envX cn cs L a ccd cl) e) (fun _ s'' => Eo e s'') E₁ s')))) (.ref e) s' := by
  refine note_new (A := A.mark hdl) (clean := false) hA x F N M hpl rfl (by show cs.kind ≠ .module; rw [hk]; decide) hx (fun a b c d => ⟨h0 a b c d, fun q => Bool.noConfusion q⟩) fun h1 c1 => ?_
  refine wpAny_nameGoes_keeps hlo c1.ns (by show (cs.kind == .class || (cs.kind == .module && L != mainGlobals)) = false; rw [hk]; rfl) fun h2 v hn hs => ?_
  have c2 := c1.set hn hs
  obtain ⟨o, vs, T, t1, t2, t3⟩ := c2.tb
  unfold PySem.passOn
  refine wpAny_bind (wpAny_field t1 t2 t3 ?_)
  rw [if_neg (show ¬ ((Value.ref T == Value.none) = true) from by simp)]
  have fin : ∀ s3 : Shared, CaughtAt w mg mb ob s.heap envs (envX cn cs L a ccd cl) L (fun x => if x = nm then v else m x) made cls e (rawInt L) false s3.heap → s3.os = s.os → AllBare s3.gens →
      notedBy (model PRG w) (A.mark hdl) (envX cn cs L a ccd cl) (cameBackBy (model PRG w) A (envX cn cs L a ccd cl) (fun e s' => Back (wpAny (model PRG w) A (leaving (envX cn cs L a ccd cl) e) (fun _ s'' => Eo e s'') E₁ s'))) (.ref e) s3 := by
    intro s3 c3 ho3 hb3
    refine c3.again ?_
    obtain ⟨o, vs, T, t1, t2, t3⟩ := c3.tb
    unfold cameBackBy
    refine wpAny_bind (wpAny_field t1 t2 t3 ?_)
    rw [if_neg (show ¬ ((Value.ref T == Value.none) = true) from by simp)]
    first
      | exact wpAny_bind (wpAny_pure (c3.flight fun h4 c4 => ⟨CaughtAt.leave (s' := { s3 with heap := h4 }) c4 ho3 hb3 fun s5 f => k s5 f⟩))
      | exact c3.flight fun h4 c4 => ⟨CaughtAt.leave (s' := { s3 with heap := h4 }) c4 ho3 hb3 fun s5 f => k s5 f⟩
  first
    | exact wpAny_bind (wpAny_pure (wpAny_bind (c2.flight (s := { s' with heap := h2, toks := s'.toks + 1 }) fun h3 c3 => wpAny_throw (fin _ c3 hos hb))))
    | exact wpAny_bind (c2.flight (s := { s' with heap := h2, toks := s'.toks + 1 }) fun h3 c3 => wpAny_throw (fin _ c3 hos hb))
end
end Mine
namespace Mine
open PySem PySem.W PySem.Calls PySem.Spec PyProof.Rows
theorem entry_unchain : entryFor table "proto.unchain" = some Builtin.«proto.unchain» := entryFor_of_tree (by kernel_rfl)
theorem plain_unchain : plainId "proto.unchain" = true := by decide +kernel
abbrev Clean (h : Heap) (e : Addr) : Prop := ∃ o vs, h.get? e = some o ∧ o.data = .fields vs ∧ vs[2]? = some .none
section
variable {prog : Program} {w : World} {A : Around} {E : Value → Shared → Prop} {s : Shared} {env : Env} {e e2 : Addr} {cls : String}
theorem unchain_ret {R : Result → Shared → Prop} {x y : Value} (hc : Clean s.heap e) (h : R (.ok (.ret .none)) s) : codeAny (model prog w) A (.builtin "proto.unchain" ⟨[x, .ref e, y, .bool false], []⟩) R s := by
  obtain ⟨o, vs, h1, h2, h3⟩ := hc
  refine codeAny_builtin entry_unchain ?_
  rw [Around.under_plainId plain_unchain _]
  unfold Builtin.«proto.unchain»
  refine wpAny_bind (wpAny_field h1 h2 h3 ?_)
  rw [if_pos (by rfl)]
  exact wpAny_pure h
theorem raiseNew_held {α : Type} {Q : α → Shared → Prop} (hh : A.handled = some (.ref e)) (hne : e2 ≠ e) (hc : Clean s.heap e) {o2 : Obj} {vs2 : Array Value} (he : s.heap.get? e2 = some o2) (hd : o2.data = .fields vs2) (hsz : 2 < vs2.size)
    (h : E (.ref e2) { s with heap := s.heap.update e2 (Obj.mapFields (·.setIfInBounds 2 (.ref e))) }) : wpAny (model prog w) A (raiseNew (.ref e2) : Sem α) Q E s := by
  unfold raiseNew
  refine wpAny_bind (wpAny_handled ?_)
  rw [hh]
  have hb : (Value.ref e != Value.ref e2) = true := by simp; exact fun q => hne q.symm
  show wpAny _ _ (if (Value.ref e != Value.ref e2) = true then (do
      let _ ← holding [Value.ref e2] (runValue (Code.builtin "proto.unchain" ⟨[Value.ref e2, Value.ref e, Value.ref e, Value.bool false], []⟩))
      let _ ← updateField e2 2 (Value.ref e)
      throw (Value.ref e2)) else throw (Value.ref e2)) Q E s
  rw [if_pos hb]
  refine wpAny_bind (wpAny_holding (wpAny_runValue (unchain_ret hc ?_)))
  have := wpAny_setField (M := model prog w) (A := A) (E := E) (s := s) (x := Value.ref e) (Q := fun _ s' => wpAny (model prog w) A (throw (Value.ref e2) : Sem α) Q E s') he hd hsz (wpAny_throw h)
  exact wpAny_bind this
theorem raiseStmt_held {hv : Addr} (F : ExcRaiseFacts cls) {x : Sem Value} {Q : Flow → Shared → Prop} (hh : A.handled = some (.ref e))
    (h : wpAny (model prog w) A x (fun v s₁ => ∃ e2 t o2, v = .ref e2 ∧ e2 ≠ e ∧ Clean s₁.heap e ∧ s₁.heap.get? e2 = some o2 ∧ o2.cls = .type cls ∧ o2.data = .fields #[t, .none, .none, .none, .bool false, .none] ∧
      E (.ref e2) { s₁ with heap := s₁.heap.update e2 (Obj.mapFields (·.setIfInBounds 2 (.ref e))) }) E s) :
    wpAny (model prog w) A (raiseStmt env (some x) none) Q E s := by
  unfold raiseStmt
  refine wpAny_bind (wpAny_mono h (fun v s₁ h₁ => ?_) fun _ _ x => x)
  obtain ⟨e2, t, o2, rfl, hne, hc, he, hcl2, hd2, hE⟩ := h₁
  obtain ⟨c2, dd2, d2, sl2⟩ := o2
  have hcl2' : c2 = .type cls := hcl2
  have hd2' : d2 = .fields _ := hd2
  subst hcl2' hd2'
  obtain ⟨hp, g, d, tk, os⟩ := s₁
  have hsub := F.isExc
  have hmeta := F.plainMeta
  repeat (first | refine wpAny_loadPart he ?_ | wp_step)
  exact raiseNew_held hh hne hc he rfl (by simp) hE
set_option maxHeartbeats 2000000 in
theorem raiseFrom_held {cls₀ : String} (F : ExcRaiseFacts cls) (F₀ : ExcRaiseFacts cls₀) {x c : Sem Value} {Q : Flow → Shared → Prop} (hh : A.handled = some (.ref e))
    (h : wpAny (model prog w) A x (fun v s₁ => wpAny (model prog w) A c (fun cv s₂ => cv = .ref e ∧ ∃ e2 t o2 o0 vs0, v = .ref e2 ∧ e2 ≠ e ∧ Clean s₂.heap e ∧ s₂.heap.get? e = some o0 ∧ o0.cls = .type cls₀ ∧ o0.data = .fields vs0 ∧ s₂.heap.get? e2 = some o2 ∧ o2.cls = .type cls ∧ o2.data = .fields #[t, .none, .none, .none, .bool false, .none] ∧
      E (.ref e2) { s₂ with heap := ((s₂.heap.update e2 (Obj.mapFields (·.setIfInBounds 3 (.ref e)))).update e2 (Obj.mapFields (·.setIfInBounds 4 (.bool true)))).update e2 (Obj.mapFields (·.setIfInBounds 2 (.ref e))) }) E s₁) E s) :
    wpAny (model prog w) A (raiseStmt env (some x) (some c)) Q E s := by
  unfold raiseStmt
  refine wpAny_bind (wpAny_mono h (fun v s₁ h₁ => ?_) fun _ _ x => x)
  refine wpAny_bind ?_
  refine wpAny_holding (wpAny_mono h₁ (fun cv s₂ h₂ => ?_) fun _ _ x => x)
  obtain ⟨rfl, e2, t, o2, o0, vs0, rfl, hne, hc, he0, hcl, hd0, he, hcl2, hd2, hE⟩ := h₂
  obtain ⟨c2, dd2, d2, sl2⟩ := o2
  have hcl2' : c2 = .type cls := hcl2
  have hd2' : d2 = .fields _ := hd2
  subst hcl2' hd2'
  obtain ⟨c0, dd0, d0, sl0⟩ := o0
  have hcl' : c0 = .type cls₀ := hcl
  have hd0' : d0 = .fields vs0 := hd0
  subst hcl' hd0'
  obtain ⟨hp, g, d, tk, os⟩ := s₂
  have hsub := F.isExc
  have hmeta := F.plainMeta
  have hsub0 := F₀.isExc
  have hmeta0 := F₀.plainMeta
  repeat (first | refine wpAny_loadPart he ?_ | refine wpAny_loadPart he0 ?_ | wp_step)
  obtain ⟨oc, vc, c1, c2, c3⟩ := hc
  have k1 := Heap.get?_update_self (Obj.mapFields (·.setIfInBounds 3 (Value.ref e))) he (by rfl)
  have k2 := Heap.get?_update_self (Obj.mapFields (·.setIfInBounds 4 (Value.bool true))) k1 (by rfl)
  refine raiseNew_held hh hne ⟨oc, vc, ?_, c2, c3⟩ k2 rfl (by simp) hE
  exact (Heap.get?_update_other _ _ hne).trans ((Heap.get?_update_other _ _ hne).trans c1)
end
end Mine
namespace Mine
open PySem PySem.W PySem.Calls PySem.Spec PyProof.Rows
section
variable {w : World} {mg mb : Str → Option Value} {ob : Obj} {dp un n : Nat} {gd : Option (List Code)} {envs : List Env} {env : Env} {s s' : Shared} {h : Heap} {L e : Addr} {m : Str → Option Value} {mu news : List (Addr × Obj)} {cls : String} {E E' : Value → Shared → Prop}
theorem newExc_h0 {h h' : Heap} {clean : Bool} (x : Heap.NewExc h h' e cls) : ∀ ob vs, h'.get? e = some ob → ob.data = .fields vs → (∃ a0, vs[0]? = some a0) ∧ (clean = true → vs[2]? = some .none) := fun ob vs q hd => by
  obtain ⟨ob', t, q', _, hd'⟩ := x.there
  rw [q] at q'; cases q'
  rw [hd] at hd'; cases hd'
  exact ⟨⟨_, rfl⟩, fun _ => rfl⟩
theorem leave_newE (x : Sit w mg mb ob dp un envs (n + 1) s) (F : Fr (solid (fsOf envs) s.heap) L h m) (N : News (solid (fsOf envs) s.heap) L h news) (M : Mu s.heap (fsOf envs) mu) (sub : ∀ p ∈ mu, p ∈ news)
    (hf : env.frame = some L) (hk : env.scope.kind ≠ .module) (hx : Heap.NewExc h s'.heap e cls) (hos : s'.os = s.os) (hb : AllBare s'.gens)
    (k : ∀ s'', Flies w mg mb ob envs cls e s s'' → E (.ref e) s'') :
    wpAny (model PRG w) ((aro dp un gd envs).deeper env) (leaving env (.ref e)) (fun _ s'' => E (.ref e) s'') E' s' :=
  leave_new x F N M sub hf hk hx.of (fun a b c d => (newExc_h0 (clean := false) hx a b c d).1) hos hb k
end
end Mine
namespace Mine
open PySem PySem.W PySem.Calls PySem.Spec PyProof.Rows
/-- a new exception of class cls, whatever its context -/
structure NewX (h h' : Heap) (e : Addr) (cls : String) : Prop where
  of : Heap.NewExcOf h h' e cls
  h0 : ∀ ob vs, h'.get? e = some ob → ob.data = .fields vs → ∃ a0, vs[0]? = some a0
theorem newX_update {h h' : Heap} {e2 : Addr} {cls : String} {i : Nat} {v : Value} (x : NewX h h' e2 cls) (hi : i ≠ 0) (hi1 : i ≠ 1) : NewX h (h'.update e2 (Obj.mapFields (·.setIfInBounds i v))) e2 cls := by
  obtain ⟨ob, vs, g1, g2, g3, g4⟩ := x.of.there
  have hs := Heap.get?_update_self (Obj.mapFields (·.setIfInBounds i v)) g1 (Obj.isFreed_of_fields (Obj.data_mapFields g3 _))
  obtain ⟨a0, ha0⟩ := x.h0 ob vs g1 g3
  refine ⟨⟨fun b o q => ?_, x.of.new, ⟨_, _, hs, ?_, Obj.data_mapFields g3 _, ?_⟩⟩, fun ob' vs' q hd => ?_⟩
  · exact (Heap.get?_update_other _ _ (fun z => by rw [← z, x.of.new] at q; cases q)).trans (x.of.keeps b o q)
  · obtain ⟨c, d, dt, sl⟩ := ob
    cases dt <;> exact g2
  · simp [hi1, g4]
  · rw [hs] at q; cases q
    have := hd.symm.trans (Obj.data_mapFields g3 _); cases this
    exact ⟨a0, by simp [hi, ha0]⟩
theorem NewX.ofNew {h h' : Heap} {e : Addr} {cls : String} (x : Heap.NewExc h h' e cls) : NewX h h' e cls := ⟨x.of, fun a b c d => (newExc_h0 (clean := false) x a b c d).1⟩
section
variable {prog : Program} {w : World} {A : Around} {E : Value → Shared → Prop} {s : Shared} {env : Env} {e : Addr} {cls : String}
theorem CaughtAt.clean {w : World} {mg mb : Str → Option Value} {ob : Obj} {h₀ h : Heap} {envs : List Env} {env : Env} {L : Addr} {m : Str → Option Value} {made : List (Addr × Obj)} {fl : Value} (c : CaughtAt w mg mb ob h₀ envs env L m made cls e fl true h) : Clean h e ∧ ∃ o0 vs0, h.get? e = some o0 ∧ o0.cls = .type cls ∧ o0.data = .fields vs0 := by
  obtain ⟨B, a0, b1, b2, b3, ⟨oe, vs, T, oT, ts, t1, t2, t3, t4, t5, t6, t7, t8, t9, t10⟩, _⟩ := c.ex
  exact ⟨⟨oe, vs, t1, t3, t10 rfl⟩, oe, vs, t1, t2.1, t3⟩
def Held1 (e : Addr) (cls : String) (E : Value → Shared → Prop) (v : Value) (s₁ : Shared) : Prop :=
  ∃ e2 h0, v = .ref e2 ∧ Heap.NewExc h0 s₁.heap e2 cls ∧ Clean h0 e ∧ ∀ h', NewX h0 h' e2 cls → E (.ref e2) { s₁ with heap := h' }
theorem Raise_held {x : Expr} {pos : Pos} {Q : Flow → Shared → Prop} (F : ExcRaiseFacts cls) (hh : A.handled = some (.ref e)) (h : wpAny (model prog w) A (eval x env) (Held1 e cls E) E s) :
    wpAny (model prog w) A (exec (.Raise (some x) none pos) env) Q E s := by
  show wpAny (model prog w) A (do standAt pos; raiseStmt env (some (do let v ← eval x env; standAt pos; pure v)) none) Q E s
  refine wpAny_bind (wpAny_standAt ?_)
  refine raiseStmt_held (e := e) (cls := cls) (hv := e) F hh ?_
  refine wpAny_bind (wpAny_mono h (fun v s₁ h₁ => wpAny_bind (wpAny_standAt (wpAny_pure ?_))) fun _ _ x => x)
  obtain ⟨e2, h0, rfl, nx, ⟨oc, vc, c1, c2, c3⟩, k⟩ := h₁
  obtain ⟨ob, t, q, hc, hd⟩ := nx.there
  refine ⟨e2, t, ob, rfl, fun z => by rw [z] at nx; exact absurd (nx.new.symm.trans c1) (by simp), ⟨oc, vc, nx.keeps _ _ c1, c2, c3⟩, q, hc, hd, k _ ?_⟩
  exact newX_update (NewX.ofNew nx) (by decide) (by decide)
def HeldEnd (h0 : Heap) (e e2 : Addr) (cls : String) (E : Value → Shared → Prop) (s₁ : Shared) (cv : Value) (s₂ : Shared) : Prop := cv = .ref e ∧ s₂.heap = s₁.heap ∧ ∀ h', NewX h0 h' e2 cls → E (.ref e2) { s₂ with heap := h' }
def HeldFrom (M : Model) (A : Around) (c : Expr) (env : Env) (e : Addr) (cls cls₀ : String) (E : Value → Shared → Prop) (v : Value) (s₁ : Shared) : Prop :=
  ∃ e2 h0, v = .ref e2 ∧ Heap.NewExc h0 s₁.heap e2 cls ∧ Clean h0 e ∧ (∃ o0 vs0, h0.get? e = some o0 ∧ o0.cls = .type cls₀ ∧ o0.data = .fields vs0) ∧
      wpAny M A (eval c env) (HeldEnd h0 e e2 cls E s₁) E s₁
theorem RaiseFrom_held {cls₀ : String} {x c : Expr} {pos : Pos} {Q : Flow → Shared → Prop} (F : ExcRaiseFacts cls) (F₀ : ExcRaiseFacts cls₀) (hh : A.handled = some (.ref e))
    (h : wpAny (model prog w) A (eval x env) (HeldFrom (model prog w) A c env e cls cls₀ E) E s) :
    wpAny (model prog w) A (exec (.Raise (some x) (some c) pos) env) Q E s := by
  show wpAny (model prog w) A (do standAt pos; raiseStmt env (some (do let v ← eval x env; standAt pos; pure v)) (some (do let v ← eval c env; standAt pos; pure v))) Q E s
  refine wpAny_bind (wpAny_standAt ?_)
  refine raiseFrom_held (e := e) (cls := cls) (cls₀ := cls₀) F F₀ hh ?_
  refine wpAny_bind (wpAny_mono h (fun v s₁ h₁ => wpAny_bind (wpAny_standAt (wpAny_pure ?_))) fun _ _ x => x)
  obtain ⟨e2, h0, rfl, nx, ⟨oc, vc, c1, c2, c3⟩, ⟨o0, vs0, z1, z2, z3⟩, k⟩ := h₁
  obtain ⟨ob, t, q, hc, hd⟩ := nx.there
  refine wpAny_bind (wpAny_mono k (fun v s₂ h₂ => wpAny_bind (wpAny_standAt (wpAny_pure ?_))) fun _ _ x => x)
  obtain ⟨rfl, hp, k⟩ := h₂
  rw [hp]
  refine ⟨rfl, e2, t, ob, o0, vs0, rfl, fun z => by rw [z] at nx; exact absurd (nx.new.symm.trans c1) (by simp), ⟨oc, vc, nx.keeps _ _ c1, c2, c3⟩, nx.keeps _ _ z1, z2, z3, q, hc, hd, k _ ?_⟩
  exact newX_update (newX_update (newX_update (NewX.ofNew nx) (by decide) (by decide)) (by decide) (by decide)) (by decide) (by decide)
end
theorem excR_ValueError : ExcRaiseFacts "ValueError" := { isExc := by (rw [isSubtype_type]; kernel_rfl), plainMeta := by kernel_rfl }
theorem excR_IndexError : ExcRaiseFacts "IndexError" := { isExc := by (rw [isSubtype_type]; kernel_rfl), plainMeta := by kernel_rfl }
theorem excR_KeyError : ExcRaiseFacts "KeyError" := { isExc := by (rw [isSubtype_type]; kernel_rfl), plainMeta := by kernel_rfl }
theorem nt_ValueError : isSubtype (.type ((Manifest.find? "ValueError").elim "type" fun y => y.metatype)) (.type "tuple") = pure false := by rw [isSubtype_type]; kernel_rfl
theorem nt_IndexError : isSubtype (.type ((Manifest.find? "IndexError").elim "type" fun y => y.metatype)) (.type "tuple") = pure false := by rw [isSubtype_type]; kernel_rfl
theorem nt_KeyError : isSubtype (.type ((Manifest.find? "KeyError").elim "type" fun y => y.metatype)) (.type "tuple") = pure false := by rw [isSubtype_type]; kernel_rfl
theorem sub_VV : isSubtype (.type "ValueError") (.type "ValueError") = pure true := by rw [isSubtype_type]; kernel_rfl
theorem sub_II : isSubtype (.type "IndexError") (.type "IndexError") = pure true := by rw [isSubtype_type]; kernel_rfl
theorem sub_KK : isSubtype (.type "KeyError") (.type "KeyError") = pure true := by rw [isSubtype_type]; kernel_rfl
theorem sub_VI : isSubtype (.type "ValueError") (.type "IndexError") = pure false := by rw [isSubtype_type]; kernel_rfl
theorem sub_IV : isSubtype (.type "IndexError") (.type "ValueError") = pure false := by rw [isSubtype_type]; kernel_rfl
theorem call_exc1 {prog : Program} {w : World} {A : Around} {E : Value → Shared → Prop} {s : Shared} {X N I : String} (hc : ExcClass X N I) {v : Value} {Q : Value → Shared → Prop}
    (h : ∀ h' e, Heap.NewExc s.heap h' e X → Q (.ref e) { s with heap := h' }) : wpAny (model prog w) A (call (.type X) [v]) Q E s := call_exc hc h (by show 1 ≤ 2 ^ 24; decide)
end Mine
namespace Mine
open PySem PySem.W PySem.Calls PySem.Spec PyProof.Rows
section
variable {w : World} {mg mb : Str → Option Value} {ob : Obj} {dp un n : Nat} {gd : Option (List Code)} {envs : List Env} {env : Env} {s₀ s s' : Shared} {h₀ h h' : Heap} {L e a : Addr} {m m' : Str → Option Value} {mu news made : List (Addr × Obj)} {cls : String} {A : Around} {fl : Value} {clean : Bool}
  {cn : Str} {cs : Scope} {ccd : Value} {cl : List (Str × Addr)} {x nm : Str} {T : String} {np pos : Pos} {b₀ : Stmt} {suite : List Stmt} {rest : List ExceptHandler} {Q : Flow → Shared → Prop} {E E' : Value → Shared → Prop}
theorem clause_hit2 (he : env = envX cn cs L a ccd cl) (c : CaughtAt w mg mb ob h₀ envs env L m made cls e .none clean s'.heap)
    (hx : nsIn (hd.heap_39 w.params) mainGlobals x = some none) (hv : bootBuiltins x = some (.type T)) (hn : x ≠ "__name__") (hk : cs.kind = .function) (hxk : env.kindOf x = some .globalImplicit) (hdb : (x == ("__debug__" : Str)) = false)
    (hexc : isSubtype (.type T) (.type "BaseException") = pure true) (hnt : isSubtype (.type ((Manifest.find? T).elim "type" fun y => y.metatype)) (.type "tuple") = pure false) (hsub : isSubtype (.type cls) (.type T) = pure true)
    (hE : PassesOwnAt (model PRG w) (A.mark (some (.ref e))) A env E)
    (k : ∀ h', CaughtAt w mg mb ob h₀ envs env L m made cls e .none clean h' → wpAny (model PRG w) (A.mark (some (.ref e))) (execs (b₀ :: suite) env) Q E { s' with heap := h' }) :
    wpAny (model PRG w) A (handleBy (.ref e) env (.ExceptHandler (some (.Name x np)) none (b₀ :: suite) pos :: rest)) Q E s' := by
  subst he
  exact clause_hit c hx hv hn hk hxk hdb hexc hnt hsub hE k
theorem clause_miss2 (he : env = envX cn cs L a ccd cl) (c : CaughtAt w mg mb ob h₀ envs env L m made cls e .none clean s'.heap)
    (hx : nsIn (hd.heap_39 w.params) mainGlobals x = some none) (hv : bootBuiltins x = some (.type T)) (hn : x ≠ "__name__") (hk : cs.kind = .function) (hxk : env.kindOf x = some .globalImplicit) (hdb : (x == ("__debug__" : Str)) = false)
    (hexc : isSubtype (.type T) (.type "BaseException") = pure true) (hnt : isSubtype (.type ((Manifest.find? T).elim "type" fun y => y.metatype)) (.type "tuple") = pure false) (hsub : isSubtype (.type cls) (.type T) = pure false)
    (k : wpAny (model PRG w) A (handleBy (.ref e) env rest) Q E s') :
    wpAny (model PRG w) A (handleBy (.ref e) env (.ExceptHandler (some (.Name x np)) none (b₀ :: suite) pos :: rest)) Q E s' := by
  subst he
  exact clause_miss c hx hv hn hk hxk hdb hexc hnt hsub k
theorem clause_hit_as2 (he : env = envX cn cs L a ccd cl) (c : CaughtAt w mg mb ob h₀ envs env L m made cls e .none clean s'.heap)
    (hx : nsIn (hd.heap_39 w.params) mainGlobals x = some none) (hv : bootBuiltins x = some (.type T)) (hn : x ≠ "__name__") (hk : cs.kind = .function) (hxk : env.kindOf x = some .globalImplicit) (hdb : (x == ("__debug__" : Str)) = false)
    (hexc : isSubtype (.type T) (.type "BaseException") = pure true) (hnt : isSubtype (.type ((Manifest.find? T).elim "type" fun y => y.metatype)) (.type "tuple") = pure false) (hsub : isSubtype (.type cls) (.type T) = pure true)
    (hlo : env.kindOf nm = some .local)
    (k : ∀ h' tk, CaughtAt w mg mb ob h₀ envs env L (fun y => if y = nm then some (.ref e) else m y) made cls e .none clean h' → wpAny (model PRG w) (A.mark (some (.ref e))) (execs (b₀ :: suite) env)
        (fun f s₄ => wpAny (model PRG w) A (do bindName env nm .none; unbindBehindTheSuite env nm pos) (fun _ s₅ => Q f s₅) E s₄)
        (AsSuiteRaised (model PRG w) (A.mark (some (.ref e))) env nm pos (notedBy (model PRG w) (A.mark (some (.ref e))) env (cameBackBy (model PRG w) A env E))) { s' with heap := h', toks := tk }) :
    wpAny (model PRG w) A (handleBy (.ref e) env (.ExceptHandler (some (.Name x np)) (some nm) (b₀ :: suite) pos :: rest)) Q E s' := by
  subst he
  exact clause_hit_as c hx hv hn hk hxk hdb hexc hnt hsub hlo k
theorem suite_out2 (he : env = envX cn cs L a ccd cl) (hA : A.frames = some (env :: envs)) (x : Sit w mg mb ob dp un envs (n + 1) s) (F : Fr (solid (fsOf envs) s.heap) L h m) (N : News (solid (fsOf envs) s.heap) L h (made ++ mu)) (M : Mu s.heap (fsOf envs) mu) (hpl : Plain made)
    (hk : cs.kind = .function) (hlo : env.kindOf nm = some .local) {hdl : Option Value} {Eo : Value → Shared → Prop} {E₁ : Value → Shared → Prop}
    (nx : NewX h s'.heap e cls) (hos : s'.os = s.os) (hb : AllBare s'.gens)
    (k : ∀ s'', Flies w mg mb ob envs cls e s s'' → Eo (.ref e) s'') :
    AsSuiteRaised (model PRG w) (A.mark hdl) env nm pos (notedBy (model PRG w) (A.mark hdl) env (cameBackBy (model PRG w) A env
      (fun e s' => Back (wpAny (model PRG w) A (leaving env e) (fun _ s'' => Eo e s'') E₁ s')))) (.ref e) s' := by
  subst he
  exact suite_out hA x F N M hpl hk hlo nx.of nx.h0 hos hb k
end
end Mine
namespace Mine
open PySem PySem.W PySem.Calls PySem.Spec PyProof.Rows PySem.Builtin.Str
theorem field_man {prog : Program} {w : World} {A : Around} {E : Value → Shared → Prop} {s : Shared} {id : String} {a : Array Value} {byName : PySem.Str → Sem Value} {v : Value} {Q : Value × Numbering → Shared → Prop} (ha : a[0]? = some v)
    (h : Q (v, .manual) s) : wpAny (model prog w) A (fieldObject id (some a) byName [48] .unset) Q E s := by
  unfold fieldObject
  first
    | refine wpAny_bind (wpAny_pure ?_)
    | refine wpAny_bind (wpAny_of_eq (a := some 0) rfl ?_)
  first
    | refine wpAny_bind (wpAny_pure ?_)
    | refine wpAny_bind (wpAny_of_eq (a := (some 0, .manual)) rfl ?_)
  simp only [ha, pure_bind]
  rw [KPc.range_list]
  exact wpAny_bind (wpAny_pure (wpAny_pure h))
theorem fmt_haab {prog : Program} {w : World} {A : Around} {E : Value → Shared → Prop} {s : Shared} {Q : Value → Shared → Prop} {t u : Tok}
    (h : ∀ T t' k, Q (.str T t') { s with toks := k }) : wpAny (model prog w) A (call (.builtin "str.format") [.str (Str.ofString "'{0}' is not a valid Haab' month") t, .str (Str.ofString "Ajaw") u]) Q E s := by
  refine' KFm.call_k ?kfmF ?kfmg ?kfmm ?_
  case kfmF => kfm_eq
  case kfmg => kfm_args
  case kfmm =>
    apply KPc.meets_of
    intro _ _ _ _ _ _ _
    unfold Builtin.«str.format»
    refine wpAny_bind (wpAny_of_eq (a := (_, _, _)) rfl ?_)
    refine wpAny_bind ?_
    unfold Builtin.Str.buildString
    refine wpAny_bind ?_
    rw [KPc.range_list]
    refine KFm.start ?_
    intro _ _
    refine KPc.turn ?_
    kpc_if
    kpc_check
    refine wpAny_bind (field_man (by rfl) ?_)
    refine wpAny_bind (wpAny_holding (wpAny_of_eq (a := _) rfl ?_))
    kpc_if
    refine wpAny_bind (wpAny_pure ?_)
    kfm_val
    refine wpAny_bind (wpAny_of_eq (a := some _) rfl ?_)
    refine wpAny_pure ?_
    refine KFm.after_field (by kpc_g) (by kpc_text) (by kpc_obj) (by kfm_len) (by kpc_obj) (by kfm_cat2) (by kfm_rest) ?_
    intro _ _
    kfm_turns
  intro t' k
  exact h _ t' k
theorem fmt_tz {prog : Program} {w : World} {A : Around} {E : Value → Shared → Prop} {s : Shared} {Q : Value → Shared → Prop} {t u : Tok}
    (h : ∀ T t' k, Q (.str T t') { s with toks := k }) : wpAny (model prog w) A (call (.builtin "str.format") [.str (Str.ofString "'{0}' is not a valid Tzolk'in day name") t, .str (Str.ofString "Pop") u]) Q E s := by
  refine' KFm.call_k ?kfmF ?kfmg ?kfmm ?_
  case kfmF => kfm_eq
  case kfmg => kfm_args
  case kfmm =>
    apply KPc.meets_of
    intro _ _ _ _ _ _ _
    unfold Builtin.«str.format»
    refine wpAny_bind (wpAny_of_eq (a := (_, _, _)) rfl ?_)
    refine wpAny_bind ?_
    unfold Builtin.Str.buildString
    refine wpAny_bind ?_
    rw [KPc.range_list]
    refine KFm.start ?_
    intro _ _
    refine KPc.turn ?_
    kpc_if
    kpc_check
    refine wpAny_bind (field_man (by rfl) ?_)
    refine wpAny_bind (wpAny_holding (wpAny_of_eq (a := _) rfl ?_))
    kpc_if
    refine wpAny_bind (wpAny_pure ?_)
    kfm_val
    refine wpAny_bind (wpAny_of_eq (a := some _) rfl ?_)
    refine wpAny_pure ?_
    refine KFm.after_field (by kpc_g) (by kpc_text) (by kpc_obj) (by kfm_len) (by kpc_obj) (by kfm_cat2) (by kfm_rest) ?_
    intro _ _
    kfm_turns
  intro t' k
  exact h _ t' k
end Mine
namespace Mine
open PySem PySem.W PySem.Calls PySem.Spec PyProof.Rows
set_option maxHeartbeats 4000000 in
theorem rng3 {prog : Program} {w : World} {A : Around} {E : Value → Shared → Prop} {s : Shared} {Q : Value → Shared → Prop} {env : Env} {pos p p1 p2 p3 : Pos} {a b c : Int} {k1 k2 k3 : Nat} (hc : c ≠ 0)
    (hp : Builtin.divisionGoesByPylong (b - a) c = false)
    (hname : ∀ Q : Value → Shared → Prop, Q (.type "range") s → wpAny (model prog w) A (eval (.Name "range" p) env) Q E s)
    (h : ∀ h' tk t u v, IsRange h' s.heap.objs.size a b c t u v → (∀ b o, s.heap.get? b = some o → h'.get? b = some o) → Q (.ref s.heap.objs.size) { s with heap := h', toks := tk }) :
  wpAny (model prog w) A (eval (.Call (.Name "range" p) [.Constant (.int a) k1 p1, .Constant (.int b) k2 p2, .Constant (.int c) k3 p3] [] pos) env) Q E s := by
  refine wpAny_Call_NameR (hname _ ?_)
  with_unfolding_all refine Pv.callWith_type1 ?_
  k_steps
  refine call_range_3 hc ?_ (.inl hp)
  exact h _ _ _ _ _ (IsRange.new _ _ _ _ _ _ _) (fun _ _ e => Heap.get?_push_of_some _ e)
theorem addElt {prog : Program} {w : World} {A : Around} {E : Value → Shared → Prop} {s : Shared} {cenv : Env} {x y : Str} {p1 p2 p3 : Pos} {m : Str → Option Value} {a d : Int} {t u : Tok} {c : Addr}
    (hn : s.heap.Ns cenv.locals m) (hm : m x = some (.int a t)) (hcl : cenv.cells.lookup y = some c) (hcell : s.heap.IsCell c (some (.int d u)))
    (hk : cenv.scope.kind = .function) (hx : cenv.kindOf x = some .local) (hy : cenv.kindOf y = some .free) (dx : (x == ("__debug__" : Str)) = false) (dy : (y == ("__debug__" : Str)) = false) (dc : (y == ("__classdict__" : Str)) = false) :
    wpAny (model prog w) A (eval (.BinOp (.Name x p1) .Add (.Name y p2) p3) cenv) (fun v s₃ => (∃ t, v = .int (a + d) t) ∧ Keeps s s₃) E s := by
  refine wpAny_BinOp (wpAny_Name (wpAny_loadName_local hk hx hn hm ?_) dx)
  refine wpAny_Name (wpAny_loadName_free hk hy hcl hcell ?_ dc) dy
  k_steps
  exact ⟨_, _, rfl, fun _ _ e => e⟩
theorem passing_all (n : Nat) : passing (fun _ => true) n 0 = List.range n := by
  unfold passing; rw [List.drop_zero, List.filter_eq_self]; exact fun _ _ => rfl
/-- a new generator expression over a range, ready to be walked: its values are val i, i < n -/
structure GenRd (w : World) (A : Around) (P c : Addr) (n : Nat) (val : Nat → Int) (s : Shared) (a : Addr) (s' : Shared) : Prop where
  walks : ∃ fp wr G Pp St, WalksS PRG w A.in4 a fp wr G n Pp St ∧ St 0 s' ∧ (∀ b ∈ fp, b < s'.heap.objs.size) ∧ (∀ b ∈ wr, s.heap.get? b = none) ∧ (∀ i v, Pp i v → ∃ t, v = .int (val i) t) ∧
    (∀ g', G s'.gens g' → AllBare s'.gens → AllBare g')
  isgen : s'.TypeIs (.ref a) "generator"
  ext : Heap.ExtBut P s.heap s'.heap
  code : ∃ ps', s'.heap.IsCode c P ps' ∧ s'.heap.TableAt c P ps'
  bare : AllBare s.gens → AllBare s'.gens
  os : s'.os = s.os
  new : s.heap.get? a = none
section
variable {w : World} {A : Around} {E : Value → Shared → Prop} {s : Shared} {env : Env}
theorem bare_push {g : Array GenState} {x : GenState} (h : AllBare g) (hx : x.bare = true) : AllBare (g.push x) := fun y hy => by
  rcases Array.mem_push.mp hy with hy | rfl
  · exact h y hy
  · exact hx
theorem bare_only {k : Nat} {a b : Array GenState} (h : GenOnlyQ k a b) (ha : AllBare a) : AllBare b := by
  rcases h with rfl | ⟨⟨h1, h2⟩, h3⟩
  · exact ha
  · intro y hy
    obtain ⟨i, hi, rfl⟩ := Array.mem_iff_getElem.mp hy
    by_cases e : i = k
    · subst e; exact h3 _ (Array.getElem?_eq_getElem hi)
    · have := h2 i e
      rw [Array.getElem?_eq_getElem hi] at this
      exact ha _ (Array.mem_of_getElem? this.symm)
theorem genCode {c P : Addr} {ps : Array Value} {pos : Pos} {qualname : Str} {scope : Scope} {Q : Value → Shared → Prop} (hc : env.code = .ref c) (hok : s.heap.IsCode c P ps) (htab : s.heap.TableAt c P ps)
    (hQ : ∀ code h' tk ps', Heap.ExtBut P s.heap h' → h'.IsCode c P ps' → h'.TableAt c P ps' → Q code { s with heap := h', toks := tk }) :
    wpAny (model PRG w) A (genexprCode env pos qualname scope) Q E s := by
  cases q : codeAmong pos ps.toList with
  | some c' => exact wpAny_genexprCode_hit hc hok q (hQ c' s.heap s.toks ps (Heap.ExtBut.refl _ _) hok htab)
  | none => exact wpAny_genexprCodeX hc hok htab q fun c' h' tk a _ _ b _ d _ => hQ _ h' tk _ a b d
theorem gen3 {P c ca bm : Addr} {ps : Array Value} {mg : Str → Option Value} {ob : Obj} {Q : Value → Shared → Prop} {scope : Scope} {cl : List (Str × Addr)} {x y : Str} {b st d : Int} {u : Tok} {n : Nat} {k1 k2 k3 : Nat} {pos p q1 q2 q3 r1 r2 r3 r4 px : Pos}
    (hst : st ≠ 0) (hn : Builtin.Range.rangeSize 0 b st = (n : Int)) (hsmall : Builtin.Range.small 0 b st = true) (hp : Builtin.divisionGoesByPylong (b - 0) st = false)
    (hname : ∀ Q : Value → Shared → Prop, Q (.type "range") s → wpAny (model PRG w) A (eval (.Name "range" p) env) Q E s)
    (hh : A.handled = none) (hroom : A.depth < recursionLimit) (hg : env.globals = mainGlobals)
    (hcode : env.code = .ref c) (hok : s.heap.IsCode c P ps) (htab : s.heap.TableAt c P ps) (hB : BMod s.heap mainGlobals mg bm ob) (hlim : s.heap.NoLimit) (hcell : s.heap.IsCell ca (some (.int d u)))
    (hP1 : P ≠ mainGlobals) (hP2 : P ≠ cStatics) (hP3 : P ≠ bm) (hP4 : P ≠ ca)
    (hcl : cl.lookup y = some ca) (hco : scope.isCoroutine = false) (hclos : closureFor scope env = pure cl) (hsc : ∀ y ∈ scope.names, y.2 ≠ .cell) (h0 : scope.names.lookup (".0" : Str) = some NameKind.local)
    (hx : scope.names.lookup x = some .local) (hy : scope.names.lookup y = some .free) (hkind : scope.kind = .function) (dx : (x == ("__debug__" : Str)) = false) (dy : (y == ("__debug__" : Str)) = false) (dc : (y == ("__classdict__" : Str)) = false)
    (h : ∀ a s', GenRd w A P c n (fun i => 0 + (i : Int) * st + d) s a s' → Q (.ref a) s') :
    wpAny (model PRG w) A (eval (.GeneratorExp (.BinOp (.Name x r1) .Add (.Name y r2) r3) [⟨.Name x px, .Call (.Name "range" p) [.Constant (.int 0) k1 q1, .Constant (.int b) k2 q2, .Constant (.int st) k3 q3] [] r4, [], 0⟩] scope pos) env) Q E s := by
  refine wpAny_GeneratorExp_walksQD hh hco hclos hsc h0 hx hkind hroom ?_ (fun _ => rfl)
  refine rng3 hst hp hname fun h₁ tk₁ t₁ u₁ v₁ hr k₁ => ?_
  refine wpAny_pyIter_range hr hsmall ?_
  rw [hn]
  have k₂ : ∀ b o, s.heap.get? b = some o → (h₁.push { cls := .type "range_iterator", data := .fields #[rawInt 0, rawInt (n : Int), rawInt st] }).get? b = some o := fun b o e => Heap.get?_push_of_some _ (k₁ b o e)
  have hit : IsRangeIter (h₁.push { cls := .type "range_iterator", data := .fields #[rawInt 0, rawInt (n : Int), rawInt st] }) h₁.objs.size 0 n st := Heap.get?_push_size _ rfl
  refine ⟨hlim.keeps k₂, ?_⟩
  refine genCode hcode (hok.keeps k₂) (htab.keeps k₂) fun code h₃ tk₃ ps₃ x₃ ok₃ tab₃ => ?_
  have k₃ : ∀ b o, b ≠ P → s.heap.get? b = some o → h₃.get? b = some o := fun b o hb e => x₃ b o hb (k₂ b o e)
  have hPI : P ≠ h₁.objs.size := by
    obtain ⟨_, _, _, _, _, _, _, _, _, op, _, _, _, _, _, _, _, hop, _⟩ := hok
    exact Nat.ne_of_lt (Heap.lt_size (k₁ _ _ hop))
  have hl₃ : h₃.NoLimit := let ⟨mc, hns, q⟩ := hlim; ⟨mc, ns_keep hns fun o e => k₃ _ o (Ne.symm hP2) e, q⟩
  rw [hg]
  refine wpAny_builtinsFor (s := { s with heap := h₃, toks := tk₃ }) (ns_keep hB.ns fun o e => k₃ _ o (Ne.symm hP1) e) hB.name hB.ne (k₃ _ _ (Ne.symm hP3) hB.obj) hB.cls hB.dict hB.data ?_
  have hrs : ∀ b o, s.heap.get? b = some o → b ≠ h₁.objs.size := fun b o e => Nat.ne_of_lt (Heap.lt_size (k₁ b o e))
  have hI3 := x₃ _ _ (Ne.symm hPI) hit
  refine ⟨h₁.objs.size, [h₁.objs.size], [h₁.objs.size], n, _, _, fun _ => true, fun i v => ∃ t, v = .int (0 + (i : Int) * st + d) t, rfl, fun A' hA => Walks.range hA _ 0 st n, ?_, fun b hb => ?_, hl₃, ?_, fun href hk => ⟨?_, ?_⟩, fun a h₅ tk gs hbare hlt hsz hk W G => ?_⟩
  · simpa using hI3
  · rw [List.mem_singleton] at hb; subst hb; exact Heap.lt_size hI3
  · obtain ⟨mc, hns, q⟩ := hlim
    obtain ⟨o, es, ep, e, _⟩ := hns
    rw [List.mem_singleton]; exact hrs _ _ e
  · intro A' E' i v s₂ m₂ _ _ _ hv hns hm _
    exact wpAny_pure ⟨rfl, _, _, rfl, fun _ _ e => e⟩
  · intro A' E' i v s₂ m₂ hA _ _ hv _ hns hm hkp
    obtain ⟨t, rfl⟩ := hv
    obtain ⟨oc, e1, e2⟩ := hcell
    refine addElt hns hm (c := ca) (d := d) (u := u) hcl ⟨oc, hkp _ ?_ ?_ _ (hk _ _ (k₃ _ _ (Ne.symm hP4) e1)), e2⟩ hkind hx hy dx dy dc
    · exact List.mem_range.mpr (Heap.lt_size (k₃ _ _ (Ne.symm hP4) e1))
    · rw [List.mem_singleton]; exact hrs _ _ e1
  · rw [passing_all, List.length_range] at W
    have below : ∀ b o, s.heap.get? b = some o → b < h₃.objs.size := fun b o e => by
      by_cases hb : b = P
      · subst hb
        obtain ⟨_, _, _, _, _, _, _, _, _, op, _, _, _, _, _, _, _, hop, _⟩ := ok₃
        exact Heap.lt_size hop
      · exact Heap.lt_size (k₃ b o hb e)
    have off : ∀ b, h₃.objs.size ≤ b → s.heap.get? b = none := fun b hb => by
      cases q : s.heap.get? b with
      | none => rfl
      | some o => exact absurd (below b o q) (Nat.not_lt.mpr hb)
    refine h a _ ⟨⟨_, _, _, _, _, W, G, fun b hb => ?_, fun b hb => ?_, fun i v hv => ?_, fun g' hg' ha => bare_only hg' ha⟩, ?_, fun b o hb e => hk _ _ (k₃ b o hb e), ⟨ps₃, ok₃.keeps hk, tab₃.keeps hk⟩, fun hb => bare_push hb hbare, rfl, off a (Nat.le_of_lt hlt)⟩
    · show b < h₅.objs.size
      rw [hsz]
      rcases List.mem_cons.mp hb with rfl | hb
      · exact Nat.lt_succ_self _
      · rcases List.mem_cons.mp hb with rfl | hb
        · exact Nat.lt_succ_of_lt hlt
        · exact Nat.lt_succ_of_lt (Nat.lt_trans (List.mem_range.mp hb) hlt)
    · rcases List.mem_cons.mp hb with rfl | hb
      · exact off _ (Nat.le_refl _)
      · rw [List.mem_singleton] at hb
        subst hb
        cases q : s.heap.get? h₁.objs.size with
        | none => rfl
        | some o => exact absurd rfl (hrs _ _ q)
    · obtain ⟨i', e, t, hF⟩ := hv
      obtain ⟨_, e'⟩ := List.getElem?_eq_some_iff.mp e
      rw [List.getElem_range] at e'
      subst e'
      exact ⟨t, hF⟩
    · obtain ⟨⟨o, nm, qn, ho, r⟩, _⟩ := G
      exact ⟨o, ho, r.1⟩
end
end Mine
namespace Mine
open PySem PySem.W PySem.Calls PySem.Spec PyProof.Rows
theorem sub_gen_set : isSubtype (.type "generator") (.type "set") = pure false := by rw [isSubtype_type]; kernel_rfl
theorem sub_gen_frozenset : isSubtype (.type "generator") (.type "frozenset") = pure false := by rw [isSubtype_type]; kernel_rfl
section
variable {prog : Program} {w : World} {A : Around} {E : Value → Shared → Prop} {s : Shared}
set_option maxRecDepth 100000 in
set_option maxHeartbeats 6400000 in
theorem call_set_gen {I : Addr} {fp wr : List Addr} {G : Array GenState → Array GenState → Prop} {n : Nat} {Pp : Nat → Value → Prop} {St : Nat → Shared → Prop} {val : Nat → Int} {Q : Value → Shared → Prop}
    (W : WalksS prog w A.in4 I fp wr G n Pp St) (hst : St 0 s) (hfp : ∀ b ∈ fp, b < s.heap.objs.size) (hTI : s.TypeIs (.ref I) "generator") (hval : ∀ i v, Pp i v → ∃ t, v = .int (val i) t) (hb : n + 1 < scanBound)
    (h : ∀ s', s'.heap.SetOf (intKind prog w) s.heap.objs.size (fun k' => (firstMet val n).any (· == k')) (firstMet val n).length →
      (∀ b o, b ∉ wr → s.heap.get? b = some o → s'.heap.get? b = some o) → G s.gens s'.gens → s'.os = s.os → Q (.ref s.heap.objs.size) s') :
    wpAny (model prog w) A (call (.type "set") [.ref I]) Q E s := by
  obtain ⟨c, tl, hmro⟩ := F.called_set.mro
  have hmade := F.called_set.made
  have hsub := F.called_set.sub
  refine wpAny_call (codeAny_of_tree ?_)
  show wpAny _ _ (callAny (.type "set") _) _ _ _
  refine wpAny_pure ⟨Code.quiet_builtin _ (by decide +kernel), codeAny_builtin F.entry_type_call ?_⟩
  rw [Around.under_plain (weight_type_call_type "set" [.ref I] []) rfl]
  have h1 := F.called_set.notType
  have h2 := F.called_set.canCreate
  have hct := F.typeCall_set_1 (.ref I)
  repeat (any_goals (first | assumption | wp_step))
  refine codeAny_mono (code_set_new_1 (.ref I) (E := E) (Q₁ := fun obj s₁ => ∃ led : Bool, obj = .ref s.heap.objs.size ∧ s₁ = { s with heap := s.heap.push { cls := .type "set", dict := none, data := .set #[] 0 (.fresh 0 0 led) } }) fun led => ⟨led, rfl, rfl⟩) fun r s₁ hr => ?_
  cases r with
  | error e => exact hr
  | ok fl =>
    cases fl with
    | ret obj =>
      obtain ⟨led, rfl, rfl⟩ := hr
      have hS : (s.heap.push { cls := .type "set", dict := none, data := .set #[] 0 (.fresh 0 0 led) }).get? s.heap.objs.size = some { cls := .type "set", dict := none, data := .set #[] 0 (.fresh 0 0 led) } := Heap.get?_push_size _ rfl
      have hT : Shared.TypeIs { s with heap := s.heap.push { cls := .type "set", dict := none, data := .set #[] 0 (.fresh 0 0 led) } } (.ref s.heap.objs.size) "set" := ⟨_, hS, rfl⟩
      have hli := F.called_set.init.lookup
      have hbi := F.called_set.init.bind (.ref s.heap.objs.size)
      repeat (any_goals (first | assumption | wp_step))
      refine codeAny_mono (codeAny_call_builtin (R := wants (fun r s₂ => r = .none ∧ s₂.heap.SetOf (intKind prog w) s.heap.objs.size (fun k' => (firstMet val n).any (· == k')) (firstMet val n).length ∧
          (∀ b o, b ∉ wr → s.heap.get? b = some o → s₂.heap.get? b = some o) ∧ G s.gens s₂.gens ∧ s₂.os = s.os) E) F.called_set.init.plain F.entry_set_init (check_set_init_1 hT ?_)) fun r₂ s₂ hr₂ => ?_
      · obtain ⟨ol, hol, hcl⟩ := hTI
        have hol' : (s.heap.push { cls := .type "set", dict := none, data := .set #[] 0 (.fresh 0 0 led) }).get? I = some ol := Heap.get?_push_of_some _ hol
        obtain ⟨ocls, odict, odata, oslots⟩ := ol
        simp only at hcl
        subst hcl
        have hsls := sub_gen_set
        have hslf := sub_gen_frozenset
        have hne : (Value.type "generator" == Value.type "dict") = false := by decide
        unfold Builtin.«set.__init__» noKeywords Builtin.Frozenset.updateFrom
        generalize hPI : pyIter = PI
        wp_walk
        subst hPI
        have hsz : (s.heap.push { cls := .type "set", dict := none, data := .set #[] 0 (.fresh 0 0 led) }).objs.size = s.heap.objs.size + 1 := Heap.size_push _ _
        have hkeep : ∀ b o, s.heap.get? b = some o → (s.heap.push { cls := .type "set", dict := none, data := .set #[] 0 (.fresh 0 0 led) }).get? b = some o := fun b o e => Heap.get?_push_of_some _ e
        have hSf : s.heap.objs.size ∉ fp := fun hm => Nat.lt_irrefl _ (hfp _ hm)
        have hst' : St 0 { s with heap := s.heap.push { cls := .type "set", dict := none, data := .set #[] 0 (.fresh 0 0 led) } } := W.frame 0 s _ s.toks hst (Nat.le_refl _) fun b _ o e => hkeep b o e
        refine (WalksS.in4_2 W).self 0 _ _ _ hst' ?_
        refine wpAny_bind (wpAny_runValue ?_)
        refine codeAny_set_update_loopS (WalksS.of_in1 (A := A.in1.in1.in1) W) s.heap.objs.size hSf val hval hb (n - 0) 0 _ (by omega) (Nat.zero_le _) hst' ?hS0 ?hR
        case hS0 =>
          exact SetOf_congr ((setObjOf_fresh (knd := intKind prog w) led).setOf hS (by unfold scanBound; omega)) (fun _ => rfl) rfl
        case hR =>
          intro s' hm hS'
          show wpAny _ _ _ _ _ _
          refine wpAny_pure ?_
          show wpAny _ _ (ret Value.none) _ _ _
          refine wpAny_pure ⟨rfl, hS', fun b o hbw e => ?_, hm.gens, hm.os⟩
          exact hm.heap b o (fun hmem => by
            rcases List.mem_cons.mp hmem with rfl | hmem
            · exact Nat.lt_irrefl _ (Heap.lt_size e)
            · exact hbw hmem) (hkeep b o e)
      · cases r₂ with
        | error e => exact hr₂
        | ok fl₂ =>
          cases fl₂ with
          | ret r =>
            obtain ⟨rfl, hS', hk', hg', ho'⟩ := hr₂
            obtain ⟨h₂, g₂, d₂, tk₂, os₂⟩ := s₂
            repeat (any_goals (first | assumption | wp_step))
            exact h _ hS' hk' hg' ho'
          | _ => exact hr₂.elim
    | _ => exact hr.elim
end
end Mine
namespace Mine
open PySem PySem.W PySem.Calls PySem.Spec PyProof.Rows
theorem erase_perm {α : Type} : ∀ (l : List α) (i : Nat) (h : i < l.length), List.Perm (l[i] :: l.eraseIdx i) l
  | a :: l, 0, _ => List.Perm.refl _
  | a :: l, i + 1, h => by
    have ih := erase_perm l i (by simpa using h)
    show List.Perm (l[i]'(by simpa using h) :: a :: l.eraseIdx i) (a :: l)
    exact (List.Perm.swap ..).trans (ih.cons a)
theorem pick_go {α : Type} (next : Nat → Nat) : ∀ (fuel k : Nat) (left : List α) (out : Array α), left.length ≤ fuel → List.Perm (pickOrder.go next fuel k left out).toList (out.toList ++ left)
  | 0, k, left, out, h => by
    have : left = [] := List.length_eq_zero_iff.mp (Nat.le_zero.mp h)
    subst this
    unfold pickOrder.go; simp
  | fuel + 1, k, left, out, h => by
    unfold pickOrder.go
    split
    · rename_i x hx
      obtain ⟨hi, rfl⟩ := List.getElem?_eq_some_iff.mp hx
      refine (pick_go next fuel (k + 1) _ _ (by rw [List.length_eraseIdx_of_lt hi]; omega)).trans ?_
      rw [Array.toList_push, List.append_assoc]
      exact List.Perm.append_left _ (erase_perm _ _ hi)
    · rename_i hx
      rw [List.getElem?_eq_none_iff] at hx
      have : left = [] := by
        cases left with
        | nil => rfl
        | cons a l => exact absurd (Nat.mod_lt (next k) (by simp : 0 < (a :: l).length)) (Nat.not_lt.mpr hx)
      subst this; simp
theorem pick_perm {α : Type} (next : Nat → Nat) (xs : Array α) : List.Perm (pickOrder next xs).toList xs.toList := by
  unfold pickOrder
  refine (pick_go next _ 0 _ _ (by simp)).trans ?_
  simp
section
variable {prog : Program} {w : World} {A : Around} {E : Value → Shared → Prop} {s : Shared}
def IntEs (es : List (Int × Value)) : Prop := ∀ e ∈ es, ∃ k t, e = (hashInt k, .int k t)
theorem intEs_of {es : List (Int × Value)} (h : ElemsOf (intKind prog w) es) : IntEs es := fun e he => by
  obtain ⟨⟨k, hk, hh⟩, _⟩ := h e he
  obtain ⟨t, ht⟩ := Value.isInt_shape hk
  exact ⟨k, t, by obtain ⟨a, b⟩ := e; cases ht; cases hh; rfl⟩
theorem wpAny_setsByText {Q : Bool → Shared → Prop} (h : Q (w.params.followText "set-order") s) : wpAny (model prog w) A setsByText Q E s := by
  unfold setsByText
  exact wpAny_bind (wpAny_askSetting (wpAny_pure h))
theorem wpAny_setEntries_of {a : Addr} {o : Obj} {es : Array (Int × Value)} {ep : Nat} {t : SetTable} {Q : Array (Int × Value) → Shared → Prop}
    (ho : s.heap.get? a = some o) (hd : o.data = .set es ep t) (hf : t.fits es.size = true) (h : Q es s) : wpAny (model prog w) A (setEntries a) Q E s := by
  unfold setEntries
  exact wpAny_bind (wpAny_setState_of ho hd hf (wpAny_pure h))
theorem forIn_still {α β : Type} {b0 : β} {f : α → β → Sem (ForInStep β)} {M : Model} : ∀ (l : List α) {Q : β → Shared → Prop}, (∀ a ∈ l, ∀ Q' : ForInStep β → Shared → Prop, Q' (.yield b0) s → wpAny M A (f a b0) Q' E s) → Q b0 s → wpAny M A (forIn l b0 f) Q E s
  | [], Q, _, h => by rw [List.forIn_nil]; exact wpAny_pure h
  | a :: l, Q, hf, h => by
    rw [List.forIn_cons]
    exact wpAny_bind (hf a (.head _) _ (forIn_still l (fun x hx => hf x (.tail _ hx)) h))
theorem setsQuiet_of {Q : Bool → Shared → Prop} (sets : List Addr) (hs : ∀ a ∈ sets, ∃ S n, s.heap.SetOf (intKind prog w) a S n) (h : Q true s) : wpAny (model prog w) A (setsQuiet sets) Q E s := by
  unfold setsQuiet
  refine wpAny_bind (forIn_still sets (fun a ha Q' hq => ?_) (wpAny_pure h))
  obtain ⟨S, n, o, es, ep, t, ho, hex, hd, hel, hmem, hb, hf, hn⟩ := hs a ha
  refine wpAny_bind (wpAny_setEntries_of ho hd hf (wpAny_bind ?_))
  rw [← Array.forIn_toList]
  refine forIn_still es.toList (fun e he Q'' hq' => ?_) (wpAny_pure hq)
  obtain ⟨k, t, rfl⟩ := intEs_of hel e he
  exact wpAny_pure hq'
/-- the walk of a set of ints: its elements in some order -/
theorem setWalkUnseen_of {a b r : Addr} {S Sb Sr : Int → Bool} {n nb nr : Nat} {Q : Array (Int × Value) → Shared → Prop} (hS : s.heap.SetOf (intKind prog w) a S n) (hB : s.heap.SetOf (intKind prog w) b Sb nb) (hR : s.heap.SetOf (intKind prog w) r Sr nr)
    (h : ∀ (es : Array (Int × Value)) h', Heap.SameBut r s.heap h' → h'.SetOf (intKind prog w) r Sr nr → IntEs es.toList → (∀ k, S k = true ↔ ∃ e ∈ es.toList, (intKind prog w).is k e.2 = true) → es.size = n → Q es { s with heap := h' }) :
    wpAny (model prog w) A (setWalkUnseen a [b, r] (some r)) Q E s := by
  obtain ⟨o, es, ep, t, ho, hex, hd, hel, hmem, hb, hf, hn⟩ := id hS
  have same : Q es s := h es s.heap (Heap.SameBut.refl r s.heap) hR (intEs_of hel) hmem hn
  have walk : (w.params.followText "set-order" = false → (t.plain = false → ¬ es.size > 1) ∧ (t.led = false → ¬ es.size > 1)) → wpAny (model prog w) A (setWalk a) Q E s := by
    intro hpp
    unfold setWalk
    refine wpAny_bind (wpAny_setState_of ho hd hf (wpAny_bind (wpAny_setsByText ?_)))
    cases hbt : w.params.followText "set-order" with
    | true =>
      rw [if_pos rfl]
      refine wpAny_bind (wpAny_askSetting (wpAny_pure ?_))
      have p := pick_perm ((model prog w).w.params.setOrder a ep) es
      refine h _ s.heap (Heap.SameBut.refl r s.heap) hR (fun e he => intEs_of hel e (p.mem_iff.mp he)) (fun k => (hmem k).trans ⟨fun ⟨e, he, q⟩ => ⟨e, p.mem_iff.mpr he, q⟩, fun ⟨e, he, q⟩ => ⟨e, p.mem_iff.mp he, q⟩⟩) ?_
      rw [← hn, ← Array.length_toList, p.length_eq, Array.length_toList]
    | false =>
      rw [if_neg Bool.false_ne_true]
      obtain ⟨hpl, hled⟩ := hpp hbt
      have hnd : ¬ ((!t.plain && decide (es.size > 1)) = true) := fun q => by
        rw [Bool.and_eq_true, Bool.not_eq_true', decide_eq_true_eq] at q
        exact hpl q.1 q.2
      have hnl : ¬ ((!t.led && decide (es.size > 1)) = true) := fun q => by
        rw [Bool.and_eq_true, Bool.not_eq_true', decide_eq_true_eq] at q
        exact hled q.1 q.2
      split
      · rename_i q; exact absurd q hnd
      · show wpAny _ _ ((if (!t.led && decide (es.size > 1)) = true then unsupported _ else pure ()) >>= fun _ => pure es) Q E s
        rw [if_neg hnl]
        exact wpAny_bind (wpAny_pure (wpAny_pure same))
  unfold setWalkUnseen
  refine wpAny_bind (wpAny_setState_of ho hd hf (wpAny_bind (wpAny_setsByText ?_)))
  cases hc : (w.params.followText "set-order" || (t.led && t.plain) || decide (es.size ≤ 1)) with
  | true =>
    simp only [↓reduceIte]
    refine walk fun hbt => ?_
    rw [hbt, Bool.false_or, Bool.or_eq_true, Bool.and_eq_true, decide_eq_true_eq] at hc
    rcases hc with ⟨h1, h2⟩ | hc
    · exact ⟨fun q => absurd (h2.symm.trans q) (by decide), fun q => absurd (h1.symm.trans q) (by decide)⟩
    · exact ⟨fun _ => by omega, fun _ => by omega⟩
  | false =>
    simp only [Bool.false_eq_true, ↓reduceIte]
    refine wpAny_bind (setsQuiet_of _ (fun x hx => ?_) ?_)
    · rcases List.mem_cons.mp hx with rfl | hx
      · exact ⟨_, _, hS⟩
      · rcases List.mem_cons.mp hx with rfl | hx
        · exact ⟨_, _, hB⟩
        · rw [List.mem_singleton] at hx; subst hx; exact ⟨_, _, hR⟩
    · simp only [Bool.not_true, Bool.false_eq_true, ↓reduceIte]
      refine wpAny_bind (wpAny_rule ?_)
      obtain ⟨o', es', ep', t', ho', hex', hd', hel', hmem', hb', hf', hn'⟩ := id hR
      refine wpAny_bind (wpAny_setState_of ho' hd' hf' ?_)
      split
      · refine wpAny_bind (wpAny_storeSet_of ho' hd' (wpAny_pure ?_) (fits_of_scanBound hb'))
        obtain ⟨_, hS2⟩ := SetOf_store (knd := intKind prog w) ho' hex' hd' (es' := es') (t' := { t' with led := t'.led && t.led, plain := t'.plain && t.plain }) hel' hmem' hb' (by cases t'; exact hf')
        rw [hn'] at hS2
        exact h es _ (Heap.SameBut.update _ r _) hS2 (intEs_of hel) hmem hn
      · exact wpAny_pure same
end
end Mine
namespace Mine
open PySem PySem.W PySem.Calls PySem.Spec PyProof.Rows
theorem entry_set_intersection : entryFor table "set.intersection" = some Builtin.«frozenset.intersection» := entryFor_alias (id' := "frozenset.intersection") (by rw [fastTable_eq_tree]; kernel_rfl) (by first | rfl | decide +kernel) (by decide +kernel) (by rw [fastTable_eq_tree]; kernel_rfl)
section
variable {prog : Program} {w : World} {A : Around} {E : Value → Shared → Prop} {s : Shared}
theorem anySet_of {a : Addr} {S : Int → Bool} {n : Nat} {Q : Bool → Shared → Prop} (h : s.heap.SetOf (intKind prog w) a S n) (hQ : Q true s) : wpAny (model prog w) A (Builtin.Frozenset.isAnySet (.ref a)) Q E s := by
  obtain ⟨o, es, ep, t, ho, hex, _⟩ := h
  unfold Builtin.Frozenset.isAnySet
  have hT : s.TypeIs (.ref a) "set" := ⟨o, ho, hex.1⟩
  have hsub := sub_set_self
  obtain ⟨hp, g, d, tk, os⟩ := s
  wp_walk
  exact hQ
theorem sizeOf_of {a : Addr} {S : Int → Bool} {n : Nat} {Q : Nat → Shared → Prop} (h : s.heap.SetOf (intKind prog w) a S n) (hQ : Q n s) : wpAny (model prog w) A (Builtin.Frozenset.sizeOf a) Q E s := by
  obtain ⟨o, es, ep, t, ho, hex, hd, hel, hmem, hb, hf, hn⟩ := h
  unfold Builtin.Frozenset.sizeOf
  refine wpAny_bind (wpAny_setEntries_of ho hd hf (wpAny_pure ?_))
  rw [hn]; exact hQ
theorem unchanged_of {id : String} {a : Addr} {o : Obj} {es : Array (Int × Value)} {ep : Nat} {t : SetTable} {Q : Unit → Shared → Prop} (ho : s.heap.get? a = some o) (hd : o.data = .set es ep t) (hf : t.fits es.size = true) (h : Q () s) :
    wpAny (model prog w) A (Builtin.Frozenset.unchanged id a ep) Q E s := by
  unfold Builtin.Frozenset.unchanged
  refine wpAny_bind (wpAny_setEpoch_of ho hd hf ?_)
  rw [if_neg (by simp)]
  exact wpAny_pure h
theorem setOf_at {h h' : Heap} {a : Addr} {S : Int → Bool} {n : Nat} (x : h.SetOf (intKind prog w) a S n) (k : ∀ o, h.get? a = some o → h'.get? a = some o) : h'.SetOf (intKind prog w) a S n :=
  let ⟨o, es, ep, t, q, r⟩ := x; ⟨o, es, ep, t, k o q, r⟩
theorem loop_of {id : String} {asked walked r : Addr} {Sb : Int → Bool} {nb : Nat} {ow : Obj} {ew : Array (Int × Value)} {ep : Nat} {tw : SetTable} (hne1 : r ≠ asked) (hne2 : r ≠ walked) (hd : ow.data = .set ew ep tw) (hf : tw.fits ew.size = true) :
    ∀ (l : List (Int × Value)) (σ : List Int) (s : Shared) (Q : PUnit → Shared → Prop), IntEs l → σ.Nodup → σ.length + l.length + 1 < scanBound → s.heap.SetOf (intKind prog w) asked Sb nb → s.heap.get? walked = some ow →
      s.heap.SetOf (intKind prog w) r (fun k => σ.any (· == k)) σ.length →
      (∀ (s' : Shared) (σ' : List Int), σ'.Nodup → (∀ k, k ∈ σ' ↔ k ∈ σ ∨ ((∃ e ∈ l, (intKind prog w).is k e.2 = true) ∧ Sb k = true)) → s'.heap.SetOf (intKind prog w) r (fun k => σ'.any (· == k)) σ'.length →
        Heap.SameBut r s.heap s'.heap → s'.gens = s.gens → s'.os = s.os → Q PUnit.unit s') →
      wpAny (model prog w) A (forIn l PUnit.unit fun x __s =>
          match x with
          | (h, x) => do
            holding [x] do
                let __do_lift ← setFind asked x h
                if __do_lift.isSome = true then do
                    let _ ← setAddHashed r x h
                    pure ()
                  else pure ()
            Builtin.Frozenset.unchanged id walked ep
            pure (ForInStep.yield PUnit.unit)) Q E s
  | [], σ, s, Q, _, hσ, _, _, _, hr, h => by
    rw [List.forIn_nil]
    refine wpAny_pure (h s σ hσ (fun k => ⟨.inl, fun q => q.elim (fun z => z) fun ⟨⟨e, he, _⟩, _⟩ => nomatch he⟩) hr (Heap.SameBut.refl r s.heap) rfl rfl)
  | e :: l, σ, s, Q, hl, hσ, hsz, ha, hw, hr, h => by
    rw [List.forIn_cons]
    obtain ⟨k, t, rfl⟩ := hl e (.head _)
    have hl' : IntEs l := fun x hx => hl x (.tail _ hx)
    have hsz' : σ.length + l.length + 1 + 1 < scanBound := by simpa [Nat.add_assoc] using hsz
    have his : ∀ k', (intKind prog w).is k' (.int k t) = true ↔ k' = k := fun k' => ⟨fun q => (intKind prog w).inj _ _ _ q (intKind_is prog w k t), fun q => q ▸ intKind_is prog w k t⟩
    refine wpAny_bind (wpAny_bind (wpAny_holding ?_))
    refine wpAny_bind (wpAny_setFind_of (knd := intKind prog w) (k := k) (intKind_is _ _ _ _) rfl ha fun r' hr' => ?_)
    rw [hr']
    split
    · rename_i hb
      refine wpAny_bind (wpAny_setAddHashed_of (knd := intKind prog w) (k := k) (intKind_is _ _ _ _) rfl hr (by omega) fun h' hsb hS2 => ?_)
      refine wpAny_pure ?_
      have hw' : h'.get? walked = some ow := (hsb.2 _ (Ne.symm hne2)).trans hw
      refine wpAny_bind (unchanged_of hw' hd hf (wpAny_pure ?_))
      have hS3 : h'.SetOf (intKind prog w) r (fun k' => (step_dedup σ k).any (· == k')) (step_dedup σ k).length := SetOf_congr hS2 (fun k' => (step_any σ k k').symm) (step_length σ k).symm
      have hmem : ∀ k', k' ∈ step_dedup σ k ↔ k' ∈ σ ∨ k' = k := fun k' => by
        unfold step_dedup
        split
        · rename_i q
          rw [List.any_eq_true] at q
          obtain ⟨x, hx, hxk⟩ := q
          rw [beq_iff_eq] at hxk; subst hxk
          exact ⟨.inl, fun z => z.elim (fun z => z) fun z => z ▸ hx⟩
        · rw [List.mem_append, List.mem_singleton]
      have hnd : (step_dedup σ k).Nodup := by
        unfold step_dedup
        split
        · exact hσ
        · rename_i q
          refine List.nodup_append.mpr ⟨hσ, by simp, fun x hx y hy z => q ?_⟩
          rw [List.mem_singleton] at hy; subst hy; subst z
          exact List.any_eq_true.mpr ⟨_, hx, by simp⟩
      have hlen : (step_dedup σ k).length ≤ σ.length + 1 := by rw [step_length]; split <;> omega
      refine loop_of hne1 hne2 hd hf l (step_dedup σ k) _ Q hl' hnd (by omega) (setOf_at ha fun o q => (hsb.2 _ (Ne.symm hne1)).trans q) hw' hS3 fun s' σ' a1 a2 a3 a4 a5 a6 => h s' σ' a1 (fun k' => (a2 k').trans ?_) a3 (hsb.trans a4) a5 a6
      rw [hmem]
      constructor
      · rintro ((q | q) | ⟨⟨e, he, q⟩, q'⟩)
        · exact .inl q
        · subst q; exact .inr ⟨⟨_, .head _, (his _).mpr rfl⟩, hb⟩
        · exact .inr ⟨⟨e, .tail _ he, q⟩, q'⟩
      · rintro (q | ⟨⟨e, he, q⟩, q'⟩)
        · exact .inl (.inl q)
        · rcases List.mem_cons.mp he with rfl | he
          · exact .inl (.inr ((his _).mp q))
          · exact .inr ⟨⟨e, he, q⟩, q'⟩
    · rename_i hb
      refine wpAny_pure ?_
      refine wpAny_bind (unchanged_of hw hd hf (wpAny_pure ?_))
      refine loop_of hne1 hne2 hd hf l σ _ Q hl' hσ (by omega) ha hw hr fun s' σ' a1 a2 a3 a4 a5 a6 => h s' σ' a1 (fun k' => (a2 k').trans ?_) a3 a4 a5 a6
      constructor
      · rintro (q | ⟨⟨e, he, q⟩, q'⟩)
        · exact .inl q
        · exact .inr ⟨⟨e, .tail _ he, q⟩, q'⟩
      · rintro (q | ⟨⟨e, he, q⟩, q'⟩)
        · exact .inl q
        · rcases List.mem_cons.mp he with rfl | he
          · rw [his] at q; subst q; exact absurd q' hb
          · exact .inr ⟨⟨e, he, q⟩, q'⟩
theorem walked_of {id : String} {asked walked r : Addr} {Sb Sa : Int → Bool} {nb na : Nat} {Q : PUnit → Shared → Prop} (hne1 : r ≠ asked) (hne2 : r ≠ walked) (hb : s.heap.SetOf (intKind prog w) asked Sb nb) (ha : s.heap.SetOf (intKind prog w) walked Sa na)
    (hna : na + 1 < scanBound) (hr : s.heap.SetOf (intKind prog w) r (fun _ => false) 0)
    (h : ∀ (s' : Shared) (σ : List Int), σ.Nodup → (∀ k, k ∈ σ ↔ Sa k = true ∧ Sb k = true) → s'.heap.SetOf (intKind prog w) r (fun k => σ.any (· == k)) σ.length →
        Heap.SameBut r s.heap s'.heap → s'.gens = s.gens → s'.os = s.os → Q PUnit.unit s') :
    wpAny (model prog w) A (do
      let was ← setEpoch walked
      let __do_lift ← setWalkUnseen walked [asked, r] (some r)
      forIn __do_lift PUnit.unit fun x __s =>
          match x with
          | (h, x) => do
            holding [x] do
                let __do_lift ← setFind asked x h
                if __do_lift.isSome = true then do
                    let _ ← setAddHashed r x h
                    pure ()
                  else pure ()
            Builtin.Frozenset.unchanged id walked was
            pure (ForInStep.yield PUnit.unit)
      pure ()) Q E s := by
  obtain ⟨o, es, ep, t, ho, hex, hd, hel, hmem, hbd, hf, hn⟩ := (show _ from ha)
  refine wpAny_bind (wpAny_setEpoch_of ho hd hf ?_)
  refine wpAny_bind (setWalkUnseen_of ha hb hr fun es' h' hsb hr' hint hmem' hsz => ?_)
  rw [← Array.forIn_toList]
  refine wpAny_bind (loop_of hne1 hne2 hd hf es'.toList [] _ _ hint List.nodup_nil (by simp; omega) (setOf_at hb fun o q => (hsb.2 _ (Ne.symm hne1)).trans q) ((hsb.2 _ (Ne.symm hne2)).trans ho) hr' fun s' σ a1 a2 a3 a4 a5 a6 => wpAny_pure ?_)
  exact h s' σ a1 (fun k => (a2 k).trans ⟨fun q => q.elim (fun z => nomatch z) fun ⟨z, z'⟩ => ⟨(hmem' k).mpr z, z'⟩, fun ⟨z, z'⟩ => .inr ⟨(hmem' k).mp z, z'⟩⟩) a3 (hsb.trans a4) a5 a6
theorem intersection_of {id : String} {a b : Addr} {Sa Sb : Int → Bool} {na nb : Nat} {Q : Value → Shared → Prop} (ha : s.heap.SetOf (intKind prog w) a Sa na) (hb : s.heap.SetOf (intKind prog w) b Sb nb) (hna : na + 1 < scanBound) (hnb : nb + 1 < scanBound) (hab : a ≠ b)
    (h : ∀ (s' : Shared) (σ : List Int), σ.Nodup → (∀ k, k ∈ σ ↔ Sa k = true ∧ Sb k = true) → s'.heap.SetOf (intKind prog w) s.heap.objs.size (fun k => σ.any (· == k)) σ.length →
      (∀ b o, s.heap.get? b = some o → s'.heap.get? b = some o) → s'.gens = s.gens → s'.os = s.os → Q (.ref s.heap.objs.size) s') :
    wpAny (model prog w) A (Builtin.Frozenset.intersection id a (.ref b)) Q E s := by
  have hTa : s.TypeIs (.ref a) "set" := let ⟨o, _, _, _, q, x, _⟩ := ha; ⟨o, q, x.1⟩
  unfold Builtin.Frozenset.intersection
  rw [if_neg (by simp; exact fun q => hab q.symm)]
  refine wpAny_bind ?_
  unfold Builtin.Frozenset.baseOf
  refine wpAny_bind (wpAny_isInstance hTa sub_set_self ?_)
  rw [if_pos rfl]
  refine wpAny_pure ?_
  refine wpAny_bind (wpAny_newSet_of (knd := intKind prog w) fun led hS0 => ?_)
  refine wpAny_bind (wpAny_pure ?_)
  refine wpAny_bind (wpAny_holding ?_)
  have keep0 : ∀ b o, s.heap.get? b = some o → (s.heap.push { cls := .type "set", dict := none, data := .set #[] 0 (.fresh 0 0 led) }).get? b = some o := fun b o e => Heap.get?_push_of_some _ e
  have ha0 : (s.heap.push { cls := .type "set", dict := none, data := .set #[] 0 (.fresh 0 0 led) }).SetOf (intKind prog w) a Sa na := let ⟨o, es, ep, t, q, r⟩ := ha; ⟨o, es, ep, t, keep0 _ _ q, r⟩
  have hb0 : (s.heap.push { cls := .type "set", dict := none, data := .set #[] 0 (.fresh 0 0 led) }).SetOf (intKind prog w) b Sb nb := let ⟨o, es, ep, t, q, r⟩ := hb; ⟨o, es, ep, t, keep0 _ _ q, r⟩
  refine wpAny_bind (anySet_of (s := { s with heap := _ }) hb0 ?_)
  rw [if_pos rfl]
  refine wpAny_bind (wpAny_pure ?_)
  refine wpAny_bind (sizeOf_of (s := { s with heap := _ }) hb0 ?_)
  refine wpAny_bind (sizeOf_of (s := { s with heap := _ }) ha0 ?_)
  have hra : s.heap.objs.size ≠ a := let ⟨_, _, _, _, q, _⟩ := ha; Nat.ne_of_gt (Heap.lt_size q)
  have hrb : s.heap.objs.size ≠ b := let ⟨_, _, _, _, q, _⟩ := hb; Nat.ne_of_gt (Heap.lt_size q)
  have fin : ∀ (s' : Shared) (σ : List Int), σ.Nodup → (∀ k, k ∈ σ ↔ Sa k = true ∧ Sb k = true) → s'.heap.SetOf (intKind prog w) s.heap.objs.size (fun k => σ.any (· == k)) σ.length →
        Heap.SameBut s.heap.objs.size (s.heap.push { cls := .type "set", dict := none, data := .set #[] 0 (.fresh 0 0 led) }) s'.heap → s'.gens = s.gens → s'.os = s.os → Q (.ref s.heap.objs.size) s' :=
    fun s' σ a1 a2 a3 a4 a5 a6 => h s' σ a1 a2 a3 (fun b o e => (a4.2 _ (Nat.ne_of_lt (Heap.lt_size e))).trans (keep0 b o e)) a5 a6
  split
  rename_i x y z hxy
  split at hxy
  · cases hxy
    refine walked_of hrb hra hb0 ha0 hna hS0 fun s' σ a1 a2 a3 a4 a5 a6 => wpAny_pure (fin s' σ a1 a2 a3 a4 a5 a6)
  · cases hxy
    refine walked_of hra hrb ha0 hb0 hnb hS0 fun s' σ a1 a2 a3 a4 a5 a6 => wpAny_pure (fin s' σ a1 (fun k => (a2 k).trans And.comm) a3 a4 a5 a6)
theorem inter_of {a b : Addr} {Sa Sb : Int → Bool} {na nb : Nat} {Q : Value → Shared → Prop} (ha : s.heap.SetOf (intKind prog w) a Sa na) (hb : s.heap.SetOf (intKind prog w) b Sb nb) (hna : na + 1 < scanBound) (hnb : nb + 1 < scanBound) (hab : a ≠ b)
    (h : ∀ (s' : Shared) (σ : List Int), σ.Nodup → (∀ k, k ∈ σ ↔ Sa k = true ∧ Sb k = true) → s'.heap.SetOf (intKind prog w) s.heap.objs.size (fun k => σ.any (· == k)) σ.length →
      (∀ b o, s.heap.get? b = some o → s'.heap.get? b = some o) → s'.gens = s.gens → s'.os = s.os → Q (.ref s.heap.objs.size) s') :
    wpAny (model prog w) A (call (.builtin "set.intersection") [.ref a, .ref b]) Q E s := by
  have hT : s.TypeIs (.ref a) "set" := let ⟨o, _, _, _, q, x, _⟩ := ha; ⟨o, q, x.1⟩
  refine wpAny_call (codeAny_call_builtin PySem.F.slot_set_intersection.plain entry_set_intersection (PySem.F.slot_set_intersection.check _ _ _ _ _ _ _ _ hT (PySem.F.args_set_intersection_2 _ _) ?_))
  unfold Builtin.«frozenset.intersection» Builtin.Frozenset.manyOthers
  refine wpAny_bind ?_
  simp only [List.isEmpty_nil, Bool.not_true, Bool.false_eq_true, ↓reduceIte]
  refine wpAny_bind (wpAny_pure (wpAny_pure ?_))
  dsimp only
  rw [if_neg (by simp)]
  refine wpAny_bind ?_
  rw [List.forIn_cons]
  refine wpAny_bind (wpAny_bind (wpAny_holding (wpAny_bind (wpAny_pure ?_))))
  refine intersection_of ha hb hna hnb hab fun s' σ a1 a2 a3 a4 a5 a6 => ?_
  refine wpAny_pure ?_
  dsimp only
  rw [List.forIn_nil]
  refine wpAny_pure ?_
  exact wpAny_pure (h s' σ a1 a2 a3 a4 a5 a6)
theorem getInter {a : Addr} {S : Int → Bool} {n : Nat} {pl : Sem Bool} {Q : Value × List Value → Shared → Prop} (ha : s.heap.SetOf (intKind prog w) a S n) (h : Q (.builtin "set.intersection", [.ref a]) s) :
    wpAny (model prog w) A (getMethod (.ref a) "intersection" pl) Q E s := by
  obtain ⟨o, es, ep, t, q, x, hd, _⟩ := ha
  exact getMethod_builtin ⟨o, q, x.1⟩ PySem.F.plainAttrs_set PySem.F.slot_set_intersection PySem.F.type_set_intersection (fun b e => by cases e; exact ⟨_, q, x.2.1⟩) h
theorem getPop {a : Addr} {S : Int → Bool} {n : Nat} {pl : Sem Bool} {Q : Value × List Value → Shared → Prop} (ha : s.heap.SetOf (intKind prog w) a S n) (h : Q (.builtin "set.pop", [.ref a]) s) :
    wpAny (model prog w) A (getMethod (.ref a) "pop" pl) Q E s := by
  obtain ⟨o, es, ep, t, q, x, hd, _⟩ := ha
  exact getMethod_builtin ⟨o, q, x.1⟩ PySem.F.plainAttrs_set PySem.F.slot_set_pop PySem.F.type_set_pop (fun b e => by cases e; exact ⟨_, q, x.2.1⟩) h
theorem wpAny_choose {M : Model} {src : Source} {n : Nat} {Q : Nat → Shared → Prop} (hn : n ≠ 0) (h : ∀ i d, i < n → Q i { s with drawn := d }) : wpAny M A (choose src n) Q E s := fun Γ p _ => by
  show Sem.wp M Γ (.choose src n .pure) _ _ _ _
  rw [Sem.wp_choose]
  exact ⟨hn, (Sem.wp_pure ..).mpr (h _ _ (Nat.mod_lt _ (Nat.pos_of_ne_zero hn)))⟩
theorem fits_place {t : SetTable} {n : Nat} (h : t.fits n = true) : t.place.size = n := by
  simp only [SetTable.fits, Bool.and_eq_true, beq_iff_eq, decide_eq_true_eq] at h
  exact h.1
theorem pop_some {a : Addr} {k : Int} {S : Int → Bool} {Q : Value → Shared → Prop} (ha : s.heap.SetOf (intKind prog w) a S 1) (hk : S k = true)
    (h : ∀ (s' : Shared) t, Heap.SameBut a s.heap s'.heap → s'.gens = s.gens → s'.os = s.os → Q (.int k t) s') :
    wpAny (model prog w) A (call (.builtin "set.pop") [.ref a]) Q E s := by
  obtain ⟨o, es, ep, t, ho, hex, hd, hel, hmem, hbd, hf, hn⟩ := ha
  have hT : s.TypeIs (.ref a) "set" := ⟨o, ho, hex.1⟩
  obtain ⟨es⟩ := es
  match es, hn with
  | [e], _ =>
    obtain ⟨k', t', rfl⟩ := intEs_of hel e (.head _)
    obtain ⟨e', he', hke⟩ := (hmem k).mp hk
    rw [List.mem_singleton] at he'; subst he'
    have hkk : k' = k := (intKind prog w).inj _ _ _ (intKind_is prog w k' t') hke
    subst hkk
    refine wpAny_call (codeAny_call_builtin PySem.F.slot_set_pop.plain PySem.F.entry_set_pop (PySem.F.slot_set_pop.check _ _ _ _ _ _ _ _ hT (PySem.F.args_set_pop_1 _) ?_))
    unfold Builtin.«set.pop» Builtin.Frozenset.noArgs
    refine wpAny_bind ?_
    refine wpAny_pure ?_
    unfold setPop
    refine wpAny_bind (wpAny_bind (wpAny_setState_of ho hd hf ?_))
    have hpl : t.place.size = 1 := fits_place hf
    have hpp : ∃ i, t.popPlace = some i ∧ i < 1 := by
      unfold SetTable.popPlace
      rw [if_neg (by rw [Array.isEmpty_iff_size_eq_zero, hpl]; decide)]
      refine ⟨_, rfl, ?_⟩
      rw [hpl]; split <;> omega
    obtain ⟨bf, hbf, hbl⟩ := hpp
    have hb0 : bf = 0 := by omega
    subst hb0
    dsimp only
    rw [hbf]
    dsimp only
    have tail : ∀ s₁ : Shared, s₁.heap = s.heap → s₁.gens = s.gens → s₁.os = s.os → wpAny (model prog w) A.in1 (do
            storeSet a (SetTable.eraseAt (#[(hashInt k', Value.int k' t')] : Array (Int × Value)) 0) (t.popped 0)
            pure (some (Value.int k' t'))) (fun a s' => wpAny (model prog w) A.in1 (match a with
        | some x => ret x
        | x => do
          rule "set.pop.empty"
          raiseErrorWords "KeyError" "pop from an empty set") (fun fin s' => match fin with | .done f => wants Q E (.ok f) s' | .again c' => c'.quiet = true ∧ codeAny (model prog w) A c' (wants Q E) s') (fun e s' => wants Q E (.error e) s') s') (fun e s' => wants Q E (.error e) s') s₁ := by
      intro s₁ e1 e2 e3
      refine wpAny_bind (wpAny_storeSet_of (o := o) (by rw [e1]; exact ho) hd ?_ (by show 0 ≤ _; omega))
      refine wpAny_pure ?_
      refine wpAny_pure (h _ t' ?_ e2 e3)
      show Heap.SameBut a s.heap (s₁.heap.update a _)
      rw [e1]
      exact Heap.SameBut.update _ a _
    refine wpAny_bind (wpAny_setsByText ?_)
    split
    · refine wpAny_bind (wpAny_choose (by simp) fun i d hi => ?_)
      have hi0 : i = 0 := Nat.lt_one_iff.mp hi
      subst hi0
      exact tail _ rfl rfl rfl
    · have hnl : ¬ ((!t.led && decide ((#[(hashInt k', Value.int k' t')] : Array (Int × Value)).size > 1)) = true) := fun q => by
        rw [Bool.and_eq_true, decide_eq_true_eq] at q
        exact absurd q.2 (by simp)
      show wpAny _ _ ((if (!t.led && decide ((#[(hashInt k', Value.int k' t')] : Array (Int × Value)).size > 1)) = true then unsupported _ else pure ()) >>= fun _ => (pure 0 >>= _)) _ _ s
      rw [if_neg hnl]
      exact wpAny_bind (wpAny_pure (wpAny_bind (wpAny_pure (tail s rfl rfl rfl))))
theorem pop_none {a : Addr} {S : Int → Bool} {Q : Value → Shared → Prop} (hh : A.handled = none) (ha : s.heap.SetOf (intKind prog w) a S 0)
    (h : ∀ h' tk e, Heap.NewExc s.heap h' e "KeyError" → E (.ref e) { s with heap := h', toks := tk }) :
    wpAny (model prog w) A (call (.builtin "set.pop") [.ref a]) Q E s := by
  obtain ⟨o, es, ep, t, ho, hex, hd, hel, hmem, hbd, hf, hn⟩ := ha
  have hT : s.TypeIs (.ref a) "set" := ⟨o, ho, hex.1⟩
  refine wpAny_call (codeAny_call_builtin PySem.F.slot_set_pop.plain PySem.F.entry_set_pop (PySem.F.slot_set_pop.check _ _ _ _ _ _ _ _ hT (PySem.F.args_set_pop_1 _) ?_))
  unfold Builtin.«set.pop» Builtin.Frozenset.noArgs
  refine wpAny_bind ?_
  refine wpAny_pure ?_
  unfold setPop
  refine wpAny_bind (wpAny_bind (wpAny_setState_of ho hd hf ?_))
  have hpl : t.place.size = 0 := (fits_place hf).trans hn
  have hpp : t.popPlace = none := by
    unfold SetTable.popPlace
    rw [if_pos (by rw [Array.isEmpty_iff_size_eq_zero, hpl])]
  dsimp only
  rw [hpp]
  refine wpAny_pure ?_
  refine wpAny_bind (wpAny_rule ?_)
  exact raiseErrorWords_exc excClass_KeyError (by exact hh) fun h' tk e hx => h h' tk e hx
end
end Mine
namespace Mine
open PySem PySem.W PySem.Calls PySem.Spec PyProof.Rows
structure Rg (b st : Int) (n : Nat) : Prop where
  nz : st ≠ 0
  cnt : Builtin.Range.rangeSize 0 b st = (n : Int)
  small : Builtin.Range.small 0 b st = true
  py : Builtin.divisionGoesByPylong (b - 0) st = false
theorem rg1 : Rg 260 13 20 := ⟨by decide, by decide +kernel, by decide +kernel, by decide +kernel⟩
theorem rg2 : Rg 260 20 13 := ⟨by decide, by decide +kernel, by decide +kernel, by decide +kernel⟩
theorem rg3 : Rg 18980 365 52 := ⟨by decide, by decide +kernel, by decide +kernel, by decide +kernel⟩
theorem rg4 : Rg 18980 260 73 := ⟨by decide, by decide +kernel, by decide +kernel, by decide +kernel⟩
section
variable {w : World} {mg mb : Str → Option Value} {ob : Obj} {dp un nn n : Nat} {gd : Option (List Code)} {envs : List Env} {env : Env} {s₀ s s' : Shared} {L P c a : Addr} {m : Str → Option Value} {mu made news : List (Addr × Obj)} {Q E : Value → Shared → Prop} {val : Nat → Int}
theorem gen_in {vv : Option Value} {ca : Addr} {oc : Obj} {cn : Str} {cs : Scope} {ccd : Value} {cl₀ : List (Str × Addr)} {fa : Addr} {scope : Scope} {cl : List (Str × Addr)} {x y : Str} {b st d : Int} {u : Tok} {k1 k2 k3 : Nat} {pos p q1 q2 q3 r1 r2 r3 r4 px : Pos}
    (hcp : (c = 78 ∧ P = 74) ∨ (c = 99 ∧ P = 95)) (X : Sit w mg mb ob dp un envs (nn + 1) s₀) (F : Fr (solid (fsOf envs) s₀.heap) L s.heap m) (N₀ : News (solid (fsOf envs) s₀.heap) L s.heap news) (M : Mu s₀.heap (fsOf envs) mu) (hsp : news = made ++ mu)
    (he : env = envX cn cs L fa ccd cl₀) (hcode : env.code = .ref c) (hrx : nsIn (hd.heap_39 w.params) mainGlobals "range" = some none) (hk : cs.kind = .function) (hxk : env.kindOf "range" = some .globalImplicit)
    (hpl : Plain made) (hm : (ca, oc) ∈ made) (hoc' : oc.data = .cell vv) (hvv : vv = some (.int d u))
    (rg : Rg b st n)
    (hcl : cl.lookup y = some ca) (hco : scope.isCoroutine = false) (hclos : closureFor scope env = pure cl) (hsc : ∀ y ∈ scope.names, y.2 ≠ .cell) (h0 : scope.names.lookup (".0" : Str) = some NameKind.local)
    (hx : scope.names.lookup x = some .local) (hy : scope.names.lookup y = some .free) (hkind : scope.kind = .function) (dx : (x == ("__debug__" : Str)) = false) (dy : (y == ("__debug__" : Str)) = false) (dc : (y == ("__classdict__" : Str)) = false)
    (h : ∀ a s', GenRd w ((aro dp un gd envs).deeper env) P c n (fun i => 0 + (i : Int) * st + d) s a s' → Q (.ref a) s') :
    wpAny (model PRG w) ((aro dp un gd envs).deeper env) (eval (.GeneratorExp (.BinOp (.Name x r1) .Add (.Name y r2) r3) [⟨.Name x px, .Call (.Name "range" p) [.Constant (.int 0) k1 q1, .Constant (.int b) k2 q2, .Constant (.int st) k3 q3] [] r4, [], 0⟩] scope pos) env) Q E s := by
  have N : News (solid (fsOf envs) s₀.heap) L s.heap (made ++ mu) := hsp ▸ N₀
  have hoc : oc.data = .cell (some (.int d u)) := by rw [hoc', hvv]
  have W := wd_in X F (fun p hp => N p (List.mem_append_right _ hp)) M
  have hmc := N _ (List.mem_append_left _ hm)
  have hcell : s.heap.IsCell ca (some (.int d u)) := ⟨oc, hmc.1, hoc⟩
  have hL : 158 < L := Nat.lt_of_lt_of_le X.W.size (solid_lt F)
  have hcP : P ≠ ca := fun e => by
    subst e
    rcases hcp with ⟨_, rfl⟩ | ⟨_, rfl⟩
    · obtain ⟨ps, e1, _⟩ := W.tab1
      rw [hmc.1] at e1; cases e1; cases hoc
    · obtain ⟨ps, e1, _⟩ := W.tab2
      rw [hmc.1] at e1; cases e1; cases hoc
  have hroom : ((aro dp un gd envs).deeper env).depth < recursionLimit := by
    show dp + 1 < recursionLimit
    have := X.room; omega
  obtain ⟨ps, ok, tab⟩ : ∃ ps, s.heap.IsCode c P ps ∧ s.heap.TableAt c P ps := by
    rcases hcp with ⟨rfl, rfl⟩ | ⟨rfl, rfl⟩
    · exact W.t1
    · exact W.t2
  have hg : env.globals = mainGlobals := by rw [he]
  have hP : P = 74 ∨ P = 95 := hcp.elim (fun z => .inl z.2) fun z => .inr z.2
  refine gen3 (bm := 4) (mg := mg) (ob := ob) rg.nz rg.cnt rg.small rg.py (fun Q' hQ' => ?_) rfl hroom hg hcode ok tab W.B W.T.nolimit hcell ?_ ?_ ?_ hcP hcl hco hclos hsc h0 hx hy hkind dx dy dc h
  · subst he
    exact nameX_B F (In.keep X.W.X X.hi fun _ _ e => e) (TopRead.keep X.W.T X.hi fun _ _ e => e) hrx rfl (by decide) hQ' hk hxk rfl
  · rcases hP with rfl | rfl <;> decide
  · rcases hP with rfl | rfl <;> decide
  · rcases hP with rfl | rfl <;> decide
theorem set_in (hcp : (c = 78 ∧ P = 74) ∨ (c = 99 ∧ P = 95)) (X : Sit w mg mb ob dp un envs (nn + 1) s₀) (F : Fr (solid (fsOf envs) s₀.heap) L s.heap m) (N₀ : News (solid (fsOf envs) s₀.heap) L s.heap news) (M : Mu s₀.heap (fsOf envs) mu) (hsp : news = made ++ mu)
    (hpl : Plain made) (bare : AllBare s.gens) (hos : s.os = s₀.os) {A : Around} (G : GenRd w A P c n val s a s') (hb : n + 1 < scanBound)
    (h : ∀ sa so s'' mu', Mu s₀.heap (fsOf envs) mu' → Fr (solid (fsOf envs) s₀.heap) L s''.heap m → News (solid (fsOf envs) s₀.heap) L s''.heap ((sa, so) :: made ++ mu') →
      so.SetObjOf (intKind PRG w) (fun k => (firstMet val n).any (· == k)) (firstMet val n).length → (∃ es ep t, so.data = .set es ep t) → AllBare s''.gens → s''.os = s₀.os → (∀ p ∈ made, p.1 < sa) → Q (.ref sa) s'') :
    wpAny (model PRG w) A (call (.type "set") [.ref a]) Q E s' := by
  have N : News (solid (fsOf envs) s₀.heap) L s.heap (made ++ mu) := hsp ▸ N₀
  obtain ⟨fp, wr, Gr, Pp, St, W, hst, hfp, hwr, hval, hbare⟩ := G.walks
  refine call_set_gen W hst hfp G.isgen hval hb fun s'' hS hk hg ho => ?_
  obtain ⟨so, hso, hS'⟩ := hS.objOf
  have hP : P = 74 ∨ P = 95 := hcp.elim (fun z => .inl z.2) fun z => .inr z.2
  have hPh : P ∈ hid (fsOf envs) := hP.elim (fun z => z ▸ .head _) fun z => z ▸ .tail _ (.head _)
  have hL : 158 < L := Nat.lt_of_lt_of_le X.W.size (solid_lt F)
  have hPL : P ≠ L := hP.elim (fun z => z ▸ Nat.ne_of_lt (Nat.lt_trans (by decide : 74 < 158) hL)) fun z => z ▸ Nat.ne_of_lt (Nat.lt_trans (by decide : 95 < 158) hL)
  have keep : ∀ b o, b ≠ P → s.heap.get? b = some o → s''.heap.get? b = some o := fun b o hb e => hk b o (fun hm => by rw [hwr b hm] at e; cases e) (G.ext b o hb e)
  obtain ⟨ps', ok', tab'⟩ := G.code
  have hPs : ∃ o, s.heap.get? P = some o := by
    rcases hP with rfl | rfl
    · obtain ⟨ps, hm, _⟩ := M.t1; exact ⟨_, (N _ (List.mem_append_right _ hm)).1⟩
    · obtain ⟨ps, hm, _⟩ := M.t2; exact ⟨_, (N _ (List.mem_append_right _ hm)).1⟩
  have tabP : s''.heap.get? P = some (tabO ps') := hk _ _ (fun hm => by obtain ⟨o, e⟩ := hPs; rw [hwr _ hm] at e; cases e) tab'.2
  obtain ⟨oL, _, _, hLo, _⟩ := F.ns
  have hLs : s'.heap.get? L = some oL := G.ext _ _ (Ne.symm hPL) hLo
  have hnew : ∀ b o, s.heap.get? b = some o → b < s'.heap.objs.size := fun b o e => by
    by_cases hbP : b = P
    · subst hbP; exact Heap.lt_size tab'.2
    · exact Heap.lt_size (G.ext b o hbP e)
  have hsol : ∀ b o, (solid (fsOf envs) s₀.heap).get? b = some o → b ≠ P := fun b o e z => by subst z; rw [hideAll_none _ hPh] at e; cases e
  have madeP : ∀ p ∈ made, p.1 ≠ P := fun p hp e => by
    have h1 := (N _ (List.mem_append_left _ hp)).1
    have h2 := hpl p hp
    rcases hP with rfl | rfl
    · obtain ⟨ps, hm, _⟩ := M.t1
      have h3 := (N _ (List.mem_append_right _ hm)).1
      rw [e, h3] at h1; cases p; cases h1; exact h2.1 _ rfl
    · obtain ⟨ps, hm, _⟩ := M.t2
      have h3 := (N _ (List.mem_append_right _ hm)).1
      rw [e, h3] at h1; cases p; cases h1; exact h2.1 _ rfl
  refine h s'.heap.objs.size so s'' ((P, tabO ps') :: mu.filter fun p => p.1 != P) ⟨?_, ?_, fun b hb o e => ?_, fun p hp => ?_⟩ ⟨F.ns.at' fun o e => keep _ _ (Ne.symm hPL) e, fun b o e => keep _ _ (hsol b o e) (F.keep b o e), F.above⟩ (fun p hp => ?_) hS' (let ⟨_, es, ep, t, q, _⟩ := hS'; ⟨es, ep, t, q⟩) (hbare _ hg (G.bare bare)) (ho.trans (G.os.trans hos)) (fun p hp => hnew _ _ (N _ (List.mem_append_left _ hp)).1)
  · rcases hP with rfl | rfl
    · exact ⟨ps', .head _, code_triples ok'⟩
    · obtain ⟨ps, hm, ht⟩ := M.t1
      exact ⟨ps, .tail _ (List.mem_filter.mpr ⟨hm, rfl⟩), ht⟩
  · rcases hP with rfl | rfl
    · obtain ⟨ps, hm, ht⟩ := M.t2
      exact ⟨ps, .tail _ (List.mem_filter.mpr ⟨hm, rfl⟩), ht⟩
    · exact ⟨ps', .head _, code_triples ok'⟩
  · obtain ⟨sl, hm⟩ := M.fr b hb o e
    have := X.hi b hb
    exact ⟨sl, .tail _ (List.mem_filter.mpr ⟨hm, bne_iff_ne.mpr (hP.elim (fun z => z ▸ Nat.ne_of_gt (Nat.lt_trans (by decide : 74 < 158) this)) fun z => z ▸ Nat.ne_of_gt (Nat.lt_trans (by decide : 95 < 158) this))⟩)⟩
  · rcases List.mem_cons.mp hp with rfl | hp
    · exact .inl ⟨ps', rfl⟩
    · exact M.only p (List.mem_filter.mp hp).1
  · rcases List.mem_append.mp hp with hp | hp
    · rcases List.mem_cons.mp hp with rfl | hp
      · refine ⟨hso, fun e => Nat.lt_irrefl _ (e ▸ Heap.lt_size hLs), ?_⟩
        cases q : (solid (fsOf envs) s₀.heap).get? s'.heap.objs.size with
        | none => rfl
        | some o => exact absurd (hnew _ _ (F.keep _ _ q)) (Nat.lt_irrefl _)
      · exact ⟨keep _ _ (madeP p hp) (N _ (List.mem_append_left _ hp)).1, (N _ (List.mem_append_left _ hp)).2⟩
    · rcases List.mem_cons.mp hp with rfl | hp
      · exact ⟨tabP, hPL, hideAll_none _ hPh⟩
      · obtain ⟨hm, hne⟩ := List.mem_filter.mp hp
        exact ⟨keep _ _ (by simpa using hne) (N _ (List.mem_append_right _ hm)).1, (N _ (List.mem_append_right _ hm)).2⟩
theorem set_at {g h : Heap} {news : List (Addr × Obj)} {sa : Addr} {so : Obj} {S : Int → Bool} (N : News g L h news) (hm : (sa, so) ∈ news) (hs : so.SetObjOf (intKind PRG w) S n) (hb : n < scanBound) : h.SetOf (intKind PRG w) sa S n := hs.setOf (N _ hm).1 hb
theorem inter_in {A : Around} {g : Heap} {news : List (Addr × Obj)} {sa sb : Addr} {oa oB : Obj} {Sa Sb : Int → Bool} {na nb : Nat} (F : Fr g L s.heap m) (N : News g L s.heap news) (hma : (sa, oa) ∈ news) (hmb : (sb, oB) ∈ news)
    (hsa : oa.SetObjOf (intKind PRG w) Sa na) (hsb : oB.SetObjOf (intKind PRG w) Sb nb) (hna : na + 1 < scanBound) (hnb : nb + 1 < scanBound) (hab : sa ≠ sb)
    (h : ∀ ra ro (σ : List Int) s', σ.Nodup → (∀ k, k ∈ σ ↔ Sa k = true ∧ Sb k = true) → Fr g L s'.heap m → News g L s'.heap ((ra, ro) :: news) → ro.SetObjOf (intKind PRG w) (fun k => σ.any (· == k)) σ.length → (∃ es ep t, ro.data = .set es ep t) →
      (∀ p ∈ news, p.1 ≠ ra) → s'.gens = s.gens → s'.os = s.os → σ.length < scanBound → Q (.ref ra) s') :
    wpAny (model PRG w) A (call (.builtin "set.intersection") [.ref sa, .ref sb]) Q E s := by
  refine inter_of (set_at N hma hsa (by omega)) (set_at N hmb hsb (by omega)) hna hnb hab fun s' σ a1 a2 a3 a4 a5 a6 => ?_
  obtain ⟨ro, hro, hS'⟩ := a3.objOf
  obtain ⟨oL, _, _, hLo, _⟩ := F.ns
  refine h s.heap.objs.size ro σ s' a1 a2 (F.keptAll a4) (fun p hp => ?_) hS' (let ⟨_, es, ep, t, q, _⟩ := hS'; ⟨es, ep, t, q⟩) (fun p hp => Nat.ne_of_lt (Heap.lt_size (N p hp).1)) a5 a6 (let ⟨_, _, _, _, _, _, _, _, _, hb, _, hn⟩ := a3; hn ▸ hb)
  rcases List.mem_cons.mp hp with rfl | hp
  · refine ⟨hro, fun e => Nat.lt_irrefl _ (e ▸ Heap.lt_size hLo), ?_⟩
    cases q : g.get? s.heap.objs.size with
    | none => rfl
    | some o => exact absurd (Heap.lt_size (F.keep _ _ q)) (Nat.lt_irrefl _)
  · exact ⟨a4 _ _ (N p hp).1, (N p hp).2⟩
theorem pop_in {A : Around} {g : Heap} {news : List (Addr × Obj)} {ra : Addr} {ro : Obj} {σ : List Int} (F : Fr g L s.heap m) (N : News g L s.heap ((ra, ro) :: news)) (hs : ro.SetObjOf (intKind PRG w) (fun k => σ.any (· == k)) σ.length) (hne : ∀ p ∈ news, p.1 ≠ ra)
    (hnd : σ.Nodup) (huni : ∀ k k', k ∈ σ → k' ∈ σ → k = k') (hA : A.handled = none)
    (h : ∀ k t s', k ∈ σ → Fr g L s'.heap m → News g L s'.heap news → s'.gens = s.gens → s'.os = s.os → Q (.int k t) s')
    (he : (∀ k, k ∉ σ) → ∀ h' tk e, Heap.NewExc s.heap h' e "KeyError" → E (.ref e) { s with heap := h', toks := tk }) :
    wpAny (model PRG w) A (call (.builtin "set.pop") [.ref ra]) Q E s := by
  match σ, hnd, huni, hs, h, he with
  | [], _, _, hs, _, he => exact pop_none hA (set_at N (.head _) hs (by unfold scanBound; decide)) (he fun k q => nomatch q)
  | [k], _, _, hs, h, _ =>
    refine pop_some (k := k) (set_at N (.head _) hs (by unfold scanBound; decide)) (by simp) fun s' t hsb e1 e2 => ?_
    have hr := N _ (.head _)
    refine h k t s' (.head _) ⟨F.ns.sameBut hsb (Ne.symm hr.2.1), fun b o q => (hsb.2 b fun z => ?_).trans (F.keep b o q), F.above⟩ (fun p hp => ⟨(hsb.2 _ (hne p hp)).trans (N p (.tail _ hp)).1, (N p (.tail _ hp)).2⟩) e1 e2
    subst z; rw [hr.2.2] at q; cases q
  | k :: k' :: l, hnd, huni, _, _, _ =>
    have := huni k k' (.head _) (.tail _ (.head _))
    subst this
    exact absurd hnd (by simp)
def Apart (c : Addr) (l : List (Addr × Obj)) : Prop := ∀ p ∈ l, p.1 ≠ c ∨ ∃ es ep t, p.2.data = .set es ep t
theorem Apart.nil {c : Addr} : Apart c [] := fun _ h => nomatch h
theorem Apart.other {c a : Addr} {o : Obj} {l : List (Addr × Obj)} (h : a ≠ c) (x : Apart c l) : Apart c ((a, o) :: l) := fun p hp => by
  rcases List.mem_cons.mp hp with rfl | hp
  · exact .inl h
  · exact x p hp
theorem Apart.set {c a : Addr} {o : Obj} {es : Array (Int × Value)} {ep : Nat} {t : SetTable} {l : List (Addr × Obj)} (h : o.data = .set es ep t) (x : Apart c l) : Apart c ((a, o) :: l) := fun p hp => by
  rcases List.mem_cons.mp hp with rfl | hp
  · exact .inr ⟨_, _, _, h⟩
  · exact x p hp
theorem storeC_in {x : Str} {v : Value} {cn : Str} {cs : Scope} {ccd : Value} {cl₀ : List (Str × Addr)} {fa : Addr} {Q : Unit → Shared → Prop} {o : Obj} {v₀ : Option Value} {A : Around} {a1 a2 : List (Addr × Obj)}
    (F : Fr (solid (fsOf envs) s₀.heap) L s.heap m) (N₀ : News (solid (fsOf envs) s₀.heap) L s.heap news) (M : Mu s₀.heap (fsOf envs) mu) (he : env = envX cn cs L fa ccd cl₀)
    (hc : cl₀.lookup x = some c) (hsp : news = a1 ++ (c, o) :: (a2 ++ mu)) (hd : o.data = .cell v₀) (h1 : Apart c a1) (h2 : Apart c a2) (hk : cs.kind = .function) (hx : (envX cn cs L fa ccd cl₀).kindOf x = some .cell)
    (h : ∀ h' o', Fr (solid (fsOf envs) s₀.heap) L h' m → News (solid (fsOf envs) s₀.heap) L h' (a1 ++ (c, o') :: (a2 ++ mu)) → o'.data = .cell (some v) → Q () { s with heap := h' }) :
    wpAny (model PRG w) A (storeName env x v) Q E s := by
  subst he
  have N : News (solid (fsOf envs) s₀.heap) L s.heap (a1 ++ (c, o) :: (a2 ++ mu)) := hsp ▸ N₀
  have hmem := N (c, o) (List.mem_append_right _ (.head _))
  have ne : ∀ p, (p ∈ a1 ∨ p ∈ a2 ∨ p ∈ mu) → p.1 ≠ c := fun p hp e => by
    have hN : s.heap.get? p.1 = some p.2 := by
      rcases hp with hp | hp | hp
      · exact (N _ (List.mem_append_left _ hp)).1
      · exact (N _ (List.mem_append_right _ (.tail _ (List.mem_append_left _ hp)))).1
      · exact (N _ (List.mem_append_right _ (.tail _ (List.mem_append_right _ hp)))).1
    rw [e, hmem.1] at hN
    have eo : o = p.2 := Option.some.inj hN
    rcases hp with hp | hp | hp
    · rcases h1 p hp with q | ⟨_, _, _, q⟩
      · exact q e
      · rw [← eo, hd] at q; cases q
    · rcases h2 p hp with q | ⟨_, _, _, q⟩
      · exact q e
      · rw [← eo, hd] at q; cases q
    · rcases M.only p hp with ⟨_, q⟩ | ⟨_, _, q⟩ <;> (rw [← eo, hd] at q; cases q)
  refine wpAny_storeName_cell hk hx hc ⟨o, hmem.1, hd⟩ fun h' hv hs => ?_
  obtain ⟨o', ho', hd'⟩ := hv
  refine h h' o' ⟨F.ns.sameBut hs (Ne.symm hmem.2.1), fun b ob e => (hs.2 b (fun q => ?_)).trans (F.keep b ob e), F.above⟩ (fun p hp => ?_) hd'
  · rw [q, hmem.2.2] at e; cases e
  · rcases List.mem_append.mp hp with hp | hp
    · exact ⟨(hs.2 _ (ne p (.inl hp))).trans (N _ (List.mem_append_left _ hp)).1, (N _ (List.mem_append_left _ hp)).2⟩
    · rcases List.mem_cons.mp hp with rfl | hp
      · exact ⟨ho', hmem.2⟩
      · have hq := N _ (List.mem_append_right _ (.tail (c, o) hp))
        rcases List.mem_append.mp hp with hp | hp
        · exact ⟨(hs.2 _ (ne p (.inr (.inl hp)))).trans hq.1, hq.2⟩
        · exact ⟨(hs.2 _ (ne p (.inr (.inr hp)))).trans hq.1, hq.2⟩
theorem firstMet_mem {val : Nat → Int} {n : Nat} {k : Int} : (firstMet val n).any (· == k) = true ↔ ∃ i, i < n ∧ k = val i := by
  rw [firstMet_any, List.any_eq_true]
  constructor
  · rintro ⟨x, hx, e⟩
    obtain ⟨i, hi, rfl⟩ := List.mem_map.mp hx
    exact ⟨i, List.mem_range.mp hi, (beq_iff_eq.mp e).symm⟩
  · rintro ⟨i, hi, rfl⟩
    exact ⟨val i, List.mem_map.mpr ⟨i, List.mem_range.mpr hi, rfl⟩, beq_iff_eq.mpr rfl⟩
theorem lt_of_all {l : List (Addr × Obj)} {a b : Addr} {o : Obj} (h : ∀ p ∈ l, p.1 < b) (hm : (a, o) ∈ l) : a < b := h _ hm
theorem met_small {val : Nat → Int} {n : Nat} (h : n + 1 < scanBound) : (firstMet val n).length + 1 < scanBound := Nat.lt_of_le_of_lt (Nat.succ_le_succ (firstMet_length_le _ _)) h
theorem getInterIn {A : Around} {g : Heap} {sa : Addr} {so : Obj} {S : Int → Bool} {pl : Sem Bool} {Q : Value × List Value → Shared → Prop} (N : News g L s.heap news) (hm : (sa, so) ∈ news) (hs : so.SetObjOf (intKind PRG w) S n) (hb : n < scanBound) (h : Q (.builtin "set.intersection", [.ref sa]) s) :
    wpAny (model PRG w) A (getMethod (.ref sa) "intersection" pl) Q E s := getInter (set_at N hm hs hb) h
theorem getPopIn {A : Around} {g : Heap} {sa : Addr} {so : Obj} {S : Int → Bool} {pl : Sem Bool} {Q : Value × List Value → Shared → Prop} (N : News g L s.heap news) (hm : (sa, so) ∈ news) (hs : so.SetObjOf (intKind PRG w) S n) (hb : n < scanBound) (h : Q (.builtin "set.pop", [.ref sa]) s) :
    wpAny (model PRG w) A (getMethod (.ref sa) "pop" pl) Q E s := getPop (set_at N hm hs hb) h
theorem uni_of {σ : List Int} {v1 v2 : Nat → Int} {n1 n2 : Nat} (iff : ∀ k, k ∈ σ ↔ (firstMet v1 n1).any (· == k) = true ∧ (firstMet v2 n2).any (· == k) = true)
    (hu : ∀ i i' j j', i < n1 → i' < n1 → j < n2 → j' < n2 → v1 i = v2 j → v1 i' = v2 j' → v1 i = v1 i') : ∀ k k', k ∈ σ → k' ∈ σ → k = k' := fun k k' hk hk' => by
  obtain ⟨⟨i, hi, rfl⟩, ⟨j, hj, e⟩⟩ := (and_congr firstMet_mem firstMet_mem).mp ((iff _).mp hk)
  obtain ⟨⟨i', hi', rfl⟩, ⟨j', hj', e'⟩⟩ := (and_congr firstMet_mem firstMet_mem).mp ((iff _).mp hk')
  exact hu i i' j j' hi hi' hj hj' e e'
theorem met_of {σ : List Int} {v1 v2 : Nat → Int} {n1 n2 : Nat} {k : Int} (iff : ∀ k, k ∈ σ ↔ (firstMet v1 n1).any (· == k) = true ∧ (firstMet v2 n2).any (· == k) = true) (hk : k ∈ σ) : (∃ i, i < n1 ∧ k = v1 i) ∧ ∃ j, j < n2 ∧ k = v2 j :=
  (and_congr firstMet_mem firstMet_mem).mp ((iff _).mp hk)
theorem unmet_of {σ : List Int} {v1 v2 : Nat → Int} {n1 n2 : Nat} (iff : ∀ k, k ∈ σ ↔ (firstMet v1 n1).any (· == k) = true ∧ (firstMet v2 n2).any (· == k) = true) (hk : ∀ k, k ∉ σ) (i j : Nat) (hi : i < n1) (hj : j < n2) : v1 i ≠ v2 j := fun e =>
  hk (v1 i) ((iff _).mpr ⟨firstMet_mem.mpr ⟨i, hi, rfl⟩, firstMet_mem.mpr ⟨j, hj, e⟩⟩)
theorem crt260 (d j : Int) (h1 : 1 ≤ d) (h2 : d ≤ 13) (h3 : 0 ≤ j) (h4 : j ≤ 19) : ∃ i k : Nat, i < 20 ∧ k < 13 ∧ 0 + (i : Int) * 13 + d = 0 + (k : Int) * 20 + (1 + j) := by
  refine ⟨((17 * (1 + j - d)) % 20).toNat, ((13 * ((17 * (1 + j - d)) % 20) + d - 1 - j) / 20).toNat, ?_, ?_, ?_⟩ <;> omega
theorem storeL_in {x : Str} {v : Value} {cn : Str} {cs : Scope} {ccd : Value} {cl₀ : List (Str × Addr)} {fa : Addr} {Q : Unit → Shared → Prop} {A : Around} {g : Heap}
    (F : Fr g L s.heap m) (N : News g L s.heap news) (he : env = envX cn cs L fa ccd cl₀) (hk : cs.kind = .function) (hx : env.kindOf x = some .local)
    (h : ∀ h', Fr g L h' (fun y => if y = x then some v else m y) → News g L h' news → Q () { s with heap := h', toks := s.toks + 1 }) :
    wpAny (model PRG w) A (storeName env x v) Q E s := by
  subst he
  exact storeX_L F N h hk hx
theorem bare_eq {a b : Array GenState} (h : a = b) (hb : AllBare b) : AllBare a := h ▸ hb
/-- a call by its contract, from a frame that lets an exception pass -/
theorem useE {Post : Value → Shared → Prop} {f : Addr} {vs : List Value} {E₀ : Value → Shared → Prop} {E₁ : Value → Shared → Prop} (x : Sit w mg mb ob dp un envs (nn + 1) s₀) (F : Fr (solid (fsOf envs) s₀.heap) L s.heap m) (N₀ : News (solid (fsOf envs) s₀.heap) L s.heap news) (M : Mu s₀.heap (fsOf envs) mu) (hsp : news = made ++ mu)
    (hpl : Plain made) (hf : env.frame = some L) (hk : env.scope.kind ≠ .module) (bare : AllBare s.gens) (hos : s.os = s₀.os)
    (spec : Sit w mg mb ob (dp + 1) (un + 3) (env :: envs) nn s → (∀ v s', Aft w mg mb ob (env :: envs) s s' → Post v s' → Q v s') →
      (∀ cls e s', Flies w mg mb ob (env :: envs) cls e s s' → (∀ s'', Flies w mg mb ob envs cls e s₀ s'' → E₀ (.ref e) s'') → Back (wpAny (model PRG w) ((aro dp un gd envs).deeper env) (leaving env (.ref e)) (fun _ s'' => E₀ (.ref e) s'') E₁ s')) →
      wpAny (model PRG w) (aro (dp + 1) (un + 3) gd (env :: envs)) (call (.ref f) vs) Q (fun e s' => Back (wpAny (model PRG w) ((aro dp un gd envs).deeper env) (leaving env e) (fun _ s'' => E₀ e s'') E₁ s')) s)
    (k : ∀ v s' mu', Mu s₀.heap (fsOf envs) mu' → Fr (solid (fsOf envs) s₀.heap) L s'.heap m → News (solid (fsOf envs) s₀.heap) L s'.heap (made ++ mu') → AllBare s'.gens → s'.os = s₀.os → Post v s' → Q v s') :
    wpAny (model PRG w) ((aro dp un gd envs).deeper env) (call (.ref f) vs) Q (fun e s' => Back (wpAny (model PRG w) ((aro dp un gd envs).deeper env) (leaving env e) (fun _ s'' => E₀ e s'') E₁ s')) s :=
  use x F (hsp ▸ N₀) M hpl hf hk bare hos (fun x' k' => spec x' k' fun cls e s' fl h => ⟨leave_on x F N₀ M (fun p hp => hsp ▸ List.mem_append_right _ hp) hf fl hos h⟩) k
theorem star_tup {A : Around} {g : Heap} {ws : List Value} {Q : List Value → Shared → Prop} (F : Fr g L s.heap m) (N : News g L s.heap news) (ht : s.heap.get? a = some (tupO ws)) (hz : ws.length ≤ 1000)
    (h : ∀ h', (∀ b o, s.heap.get? b = some o → h'.get? b = some o) → Fr g L h' m → News g L h' news → Q ws { s with heap := h' }) : StarOf (model PRG w) A E (.ref a) Q s := by
  have hT' : s.TypeIs (.ref a) "tuple" := ⟨_, ht, rfl⟩
  have z : wpAny (model PRG w) A (collect (.ref a)) Q E s := by
    refine wpAny_collect_seq a (.inr rfl) ht rfl rfl (fun h' hk => ?_) (by rw [List.size_toArray, sizeLine_eq]; omega)
    exact h h' hk (F.keptAll hk) fun p hp => ⟨hk _ _ (N p hp).1, (N p hp).2⟩
  unfold StarOf notIterableAtAll
  exact wpAny_bind (wpAny_specialOf hT' PySem.F.slot_tuple_iter.lookup (wpAny_pure ⟨rfl, z⟩))
theorem by_law {cls : String} {P : Prop} {ex : Addr} (h : ∀ ex s', Flies w mg mb ob envs cls ex s s' → P → E (.ref ex) s') (fl : Flies w mg mb ob envs cls ex s s') (p : P) : E (.ref ex) s' := h _ _ fl p
theorem in_fr {g h : Heap} (X : (hd.heap_39 w.params).In g) (F : Fr g L h m) : (hd.heap_39 w.params).In h := X.keeps F.keep
end
end Mine
namespace Mine
open PySem PySem.W PySem.Calls PySem.Spec PyProof.Rows
theorem fillK (w : World) : hd.heap_39 w.params = hd.heap_39 w.params ∧ PySem.Challenge.rw_ad5011_01 = PySem.Challenge.rw_ad5011_01 := by
  k_fill
  exact ⟨rfl, rfl⟩
local macro_rules | `(tactic| walk_at "eval Constant float") => `(tactic| (k_dflt (refine' constHI (by first | exact isH_half | assumption) ?_); intro z' hz'))
local macro_rules | `(tactic| walk_at "binaryOp Add float int") => `(tactic| (k_dflt (refine' addHI (by assumption) (by omega) (by omega) ?_); intro z' hz'))
local macro_rules | `(tactic| walk_at "binaryOp Add int float") => `(tactic| (k_dflt (refine' addIH (by assumption) (by omega) (by omega) ?_); intro z' hz'))
local macro_rules | `(tactic| walk_at "binaryOp Sub float float") => `(tactic| (k_dflt (refine' subHH (by assumption) (by assumption) (by omega) ?_); intro z' hz'))
local macro_rules | `(tactic| walk_at "binaryOp Mod float int") => `(tactic| (k_dflt (refine' modHI' (by assumption) (by omega) (by omega) (by omega) (by omega) ?_); intro z' hz'))
local macro_rules | `(tactic| walk_at "binaryOp Div float int") => `(tactic| (k_dflt (refine' divHI20' (by assumption) (by omega) (by omega) (by omega) ?_); intro z' hz'))
local macro_rules | `(tactic| walk_at "call builtin:math.trunc") => `(tactic| (k_dflt first | (refine' truncH (by assumption) (by omega) rfl ?_) | (refine' truncQ (by assumption) rfl ?_)))
local macro_rules | `(tactic| walk_at "call type:int") => `(tactic| ((with_reducible show wpAny _ _ (call _ [Value.float _ _]) _ _ _); k_dflt (refine' intH (by assumption) (by omega) ?_)))
local macro_rules | `(tactic| walk_at "compareOp Eq float float") => `(tactic| (k_dflt (refine' eqHH (by assumption) (by assumption) ?_)))
local macro_rules | `(tactic| walk_at "compareOp NotEq float float") => `(tactic| (k_dflt (refine' neHH (by assumption) (by assumption) ?_)))
local macro_rules | `(tactic| walk_at "compareOp Lt float float") => `(tactic| (k_dflt (refine' ltHH (by assumption) (by assumption) ?_)))
local macro_rules | `(tactic| walk_at "subscriptTail") => `(tactic| ((with_reducible show wpAny _ _ (subscriptTail _ _ (Value.ref _) (Value.int _ _)) _ _ _); k_dflt (first
  | refine' item50 (by assumption) (by assumption) (by omega) (by omega) ?_ (by with_unfolding_all rfl)
  | refine' item51 (by assumption) (by assumption) (by omega) (by omega) ?_ (by with_unfolding_all rfl)
  | refine' item101 (by assumption) (by assumption) (by omega) (by omega) ?_ (by with_unfolding_all rfl)
  | refine' item102 (by assumption) (by assumption) (by omega) (by omega) ?_ (by with_unfolding_all rfl)); intro t'))
local macro_rules | `(tactic| walk_at "getMethod ref") => `(tactic| ((with_reducible show wpAny _ _ (getMethod (Value.ref _) (Str.ofString "index") _) _ _ _); k_dflt (first | refine' getIndex50 (by assumption) (by assumption) ?_ | refine' getIndex51 (by assumption) (by assumption) ?_)))
local macro_rules | `(tactic| walk_at "call builtin:list.index") => `(tactic| (k_dflt (first | refine' idx50 (by assumption) (by assumption) (by omega) (by omega) rfl ?_ ?_ | refine' idx51 (by assumption) (by assumption) (by omega) (by omega) rfl ?_ ?_); (first | (intro hj' h' tk' e' hx') | (intro hj'))))
local macro_rules | `(tactic| walk_at "exec Raise some none") => `(tactic| refine Raise_new rfl ?_)
section
variable {w : World} {mg mb : Str → Option Value} {ob : Obj} {dp un n : Nat} {gd : Option (List Code)} {envs : List Env} {s : Shared} {Q E : Value → Shared → Prop}
def wheelsOf (since : Int) : Int × Int × Int × Int := ((3 + since) % 13 + 1, (19 + since) % 20, (263 + since) % 365 % 20, (263 + since) % 365 / 20)
theorem tup4 {h : Heap} {a : Addr} {a1 a2 a3 a4 b1 b2 b3 b4 : Int} {t1 t2 t3 t4 : Tok} (e : h.get? a = some { cls := .type "tuple", data := .seq [Value.int a1 t1, .int a2 t2, .int a3 t3, .int a4 t4].toArray })
    (e1 : a1 = b1) (e2 : a2 = b2) (e3 : a3 = b3) (e4 : a4 = b4) : ∃ a' t1 t2 t3 t4, Value.ref a = .ref a' ∧ h.get? a' = some (tupO [.int b1 t1, .int b2 t2, .int b3 t3, .int b4 t4]) := by
  subst e1; subst e2; subst e3; subst e4; exact ⟨_, _, _, _, _, rfl, e⟩
theorem tupIS {h : Heap} {a : Addr} {a1 b1 : Int} {x y : Str} {t1 t2 : Tok} (e : h.get? a = some { cls := .type "tuple", data := .seq [Value.int a1 t1, .str x t2].toArray })
    (e1 : a1 = b1) (e2 : x = y) : ∃ a' t1 t2, Value.ref a = .ref a' ∧ h.get? a' = some (tupO [.int b1 t1, .str y t2]) := by
  subst e1; subst e2; exact ⟨_, _, _, rfl, e⟩
theorem intIs {a b : Int} {t : Tok} (e : a = b) : ∃ t', Value.int a t = .int b t' := ⟨t, by rw [e]⟩
set_option maxHeartbeats 4000000 in
theorem wheels_spec (x : Sit w mg mb ob dp un envs (n + 1) s) (t : Tok) (since : Int)
    (hQ : ∀ v s', Aft w mg mb ob envs s s' → (∃ a t1 t2 t3 t4, v = .ref a ∧ s'.heap.get? a = some (tupO [.int ((3 + since) % 13 + 1) t1, .int ((19 + since) % 20) t2, .int ((263 + since) % 365 % 20) t3, .int ((263 + since) % 365 / 20) t4])) → Q v s') :
    wpAny (model PRG w) (aro dp un gd envs) (call (.ref 109) [.int since t]) Q E s := by
  have hb0 := x.bare
  refine wpAny_call ?_
  k_dflt (refine' enter x ?k6 ?k7 ?k9 ?kB ?_ ?c2 ?c3 ?c4 ?c5; (case k6 => k_is); (case k7 => k_is); (case k9 => exact BindsTo.of_eq rfl); (case kB => exact locs rfl); (case c2 => exact rfl); (case c3 => exact rfl); (case c4 => exact rfl); (case c5 => decide))
  intro L' h₁ mu F' N' M X' T'
  try dsimp only
  k_fold
  k_steps
  all_goals (refine Back.mk (hQ _ _ (aft_out x (by assumption) (by assumption) M (fun p hp => .tail _ hp) x.bare rfl) (tup4 (News.get (by assumption) (.head _)) ?_ ?_ ?_ ?_)))
  all_goals (simp only [Int.fmod_eq_emod_of_nonneg, Int.fdiv_eq_ediv_of_nonneg, show (0:Int) ≤ 13 by decide, show (0:Int) ≤ 20 by decide, show (0:Int) ≤ 365 by decide, show (13:Int) * 20 + 3 = 263 by decide])
set_option maxHeartbeats 4000000 in
theorem amod_spec (x : Sit w mg mb ob dp un envs (n + 1) s) (t u : Tok) (z : UInt64) (a b : Int) (hz : IsH z a) (ha : a % 2 = 0) (h1 : -4000 ≤ a) (h2 : a < 3000000000) (hb0 : 0 < b) (hb : b < 1000)
    (hQ : ∀ v s', Aft w mg mb ob envs s s' → (∃ t, v = .int (if (a / 2) % b = 0 then b else (a / 2) % b) t) → Q v s') :
    wpAny (model PRG w) (aro dp un gd envs) (call (.ref 49) [.float z t, .int b u]) Q E s := by
  have hm1 := Int.emod_nonneg (a / 2) (Int.ne_of_gt hb0)
  have hm2 := Int.emod_lt_of_pos (a / 2) hb0
  have hb0 := x.bare
  refine wpAny_call ?_
  k_dflt (refine' enter x ?k6 ?k7 ?k9 ?kB ?_ ?c2 ?c3 ?c4 ?c5; (case k6 => k_is); (case k7 => k_is); (case k9 => exact BindsTo.of_eq rfl); (case kB => exact locs rfl); (case c2 => exact rfl); (case c3 => exact rfl); (case c4 => exact rfl); (case c5 => decide))
  intro L' h₁ mu F' N' M X' T'
  try dsimp only
  k_fold
  k_steps
  all_goals (refine Back.mk (hQ _ _ (aft_out x (by assumption) (by assumption) M (fun p hp => hp) x.bare rfl) ?_))
  · exact intIs (by rw [if_pos (by omega)])
  · exact intIs (by rw [if_neg (by omega)]; omega)
set_option maxHeartbeats 4000000 in
theorem to_haab_spec (x : Sit w mg mb ob dp un envs (n + 1) s) (t : Tok) (z : UInt64) (N : Int) (hz : IsH z (2 * N + 1168565)) (h1 : -2000 ≤ N) (h2 : N < 1000100000)
    (hQ : ∀ v s', Aft w mg mb ob envs s s' → (∃ a t1 t2, v = .ref a ∧ s'.heap.get? a = some (tupO [.int ((N + 348) % 365 % 20) t1, .str (mstr ((N + 348) % 365 / 20)) t2])) → Q v s') :
    wpAny (model PRG w) (aro dp un gd envs) (call (.ref 58) [.float z t]) Q E s := by
  have hE := isH_epoch
  have hb0 := x.bare
  refine wpAny_call ?_
  k_dflt (refine' enter x ?k6 ?k7 ?k9 ?kB ?_ ?c2 ?c3 ?c4 ?c5; (case k6 => k_is); (case k7 => k_is); (case k9 => exact BindsTo.of_eq rfl); (case kB => exact locs rfl); (case c2 => exact rfl); (case c3 => exact rfl); (case c4 => exact rfl); (case c5 => decide))
  intro L' h₁ mu F' N' M X' T'
  try dsimp only
  k_fold
  k_steps
  all_goals (refine Back.mk (hQ _ _ (aft_out x (by assumption) (by assumption) M (fun p hp => .tail _ hp) x.bare rfl) (tupIS (News.get (by assumption) (.head _)) ?_ ?_)))
  · omega
  · congr 1; omega
end
end Mine
namespace Mine
open PySem PySem.W PySem.Calls PySem.Spec PyProof.Rows
local macro_rules | `(tactic| walk_at "eval Constant float") => `(tactic| (k_dflt (refine' constHI (by first | exact isH_half | assumption) ?_); intro z' hz'))
local macro_rules | `(tactic| walk_at "binaryOp Add float int") => `(tactic| (k_dflt (refine' addHI (by assumption) (by omega) (by omega) ?_); intro z' hz'))
local macro_rules | `(tactic| walk_at "binaryOp Add int float") => `(tactic| (k_dflt (refine' addIH (by assumption) (by omega) (by omega) ?_); intro z' hz'))
local macro_rules | `(tactic| walk_at "binaryOp Sub float float") => `(tactic| (k_dflt (refine' subHH (by assumption) (by assumption) (by omega) ?_); intro z' hz'))
local macro_rules | `(tactic| walk_at "binaryOp Mod float int") => `(tactic| (k_dflt (refine' modHI' (by assumption) (by omega) (by omega) (by omega) (by omega) ?_); intro z' hz'))
local macro_rules | `(tactic| walk_at "binaryOp Div float int") => `(tactic| (k_dflt (refine' divHI20' (by assumption) (by omega) (by omega) (by omega) ?_); intro z' hz'))
local macro_rules | `(tactic| walk_at "call builtin:math.trunc") => `(tactic| (k_dflt first | (refine' truncH (by assumption) (by omega) rfl ?_) | (refine' truncQ (by assumption) rfl ?_)))
local macro_rules | `(tactic| walk_at "call type:int") => `(tactic| ((with_reducible show wpAny _ _ (call _ [Value.float _ _]) _ _ _); k_dflt (refine' intH (by assumption) (by omega) ?_)))
local macro_rules | `(tactic| walk_at "compareOp Eq float float") => `(tactic| (k_dflt (refine' eqHH (by assumption) (by assumption) ?_)))
local macro_rules | `(tactic| walk_at "compareOp NotEq float float") => `(tactic| (k_dflt (refine' neHH (by assumption) (by assumption) ?_)))
local macro_rules | `(tactic| walk_at "compareOp Lt float float") => `(tactic| (k_dflt (refine' ltHH (by assumption) (by assumption) ?_)))
local macro_rules | `(tactic| walk_at "subscriptTail") => `(tactic| ((with_reducible show wpAny _ _ (subscriptTail _ _ (Value.ref _) (Value.int _ _)) _ _ _); k_dflt (first
  | refine' item50 (by assumption) (by assumption) (by omega) (by omega) ?_ (by with_unfolding_all rfl)
  | refine' item51 (by assumption) (by assumption) (by omega) (by omega) ?_ (by with_unfolding_all rfl)
  | refine' item101 (by assumption) (by assumption) (by omega) (by omega) ?_ (by with_unfolding_all rfl)
  | refine' item102 (by assumption) (by assumption) (by omega) (by omega) ?_ (by with_unfolding_all rfl)); intro t'))
local macro_rules | `(tactic| walk_at "getMethod ref") => `(tactic| ((with_reducible show wpAny _ _ (getMethod (Value.ref _) (Str.ofString "index") _) _ _ _); k_dflt (first | refine' getIndex50 (by assumption) (by assumption) ?_ | refine' getIndex51 (by assumption) (by assumption) ?_)))
local macro_rules | `(tactic| walk_at "call builtin:list.index") => `(tactic| (k_dflt (first | refine' idx50 (by assumption) (by assumption) (by omega) (by omega) rfl ?_ ?_ | refine' idx51 (by assumption) (by assumption) (by omega) (by omega) rfl ?_ ?_); (first | (intro hj' h' tk' e' hx') | (intro hj'))))
local macro_rules | `(tactic| walk_at "exec Raise some none") => `(tactic| refine Raise_new rfl ?_)
section
variable {w : World} {mg mb : Str → Option Value} {ob : Obj} {dp un n : Nat} {gd : Option (List Code)} {envs : List Env} {s : Shared} {Q E : Value → Shared → Prop}
local macro_rules | `(tactic| walk_at "call ref") => `(tactic| ((with_reducible show wpAny _ _ (call (Value.ref 49) _) _ _ _); k_dflt (first | refine' use (made := []) (by assumption) (by assumption) (by assumption) (by assumption) ?pl rfl (by intro e; cases e) (by assumption) (by first | rfl | assumption) (fun x' k' => amod_spec x' _ _ _ _ _ (by assumption) (by omega) (by omega) (by omega) (by omega) (by omega) k') ?_ | refine' use (made := [_]) (by assumption) (by assumption) (by assumption) (by assumption) ?pl rfl (by intro e; cases e) (by assumption) (by first | rfl | assumption) (fun x' k' => amod_spec x' _ _ _ _ _ (by assumption) (by omega) (by omega) (by omega) (by omega) (by omega) k') ?_ | refine' use (made := [_, _]) (by assumption) (by assumption) (by assumption) (by assumption) ?pl rfl (by intro e; cases e) (by assumption) (by first | rfl | assumption) (fun x' k' => amod_spec x' _ _ _ _ _ (by assumption) (by omega) (by omega) (by omega) (by omega) (by omega) k') ?_ | refine' use (made := [_, _, _]) (by assumption) (by assumption) (by assumption) (by assumption) ?pl rfl (by intro e; cases e) (by assumption) (by first | rfl | assumption) (fun x' k' => amod_spec x' _ _ _ _ _ (by assumption) (by omega) (by omega) (by omega) (by omega) (by omega) k') ?_ | refine' use (made := [_, _, _, _]) (by assumption) (by assumption) (by assumption) (by assumption) ?pl rfl (by intro e; cases e) (by assumption) (by first | rfl | assumption) (fun x' k' => amod_spec x' _ _ _ _ _ (by assumption) (by omega) (by omega) (by omega) (by omega) (by omega) k') ?_ | refine' use (made := [_, _, _, _, _]) (by assumption) (by assumption) (by assumption) (by assumption) ?pl rfl (by intro e; cases e) (by assumption) (by first | rfl | assumption) (fun x' k' => amod_spec x' _ _ _ _ _ (by assumption) (by omega) (by omega) (by omega) (by omega) (by omega) k') ?_ | refine' use (made := [_, _, _, _, _, _]) (by assumption) (by assumption) (by assumption) (by assumption) ?pl rfl (by intro e; cases e) (by assumption) (by first | rfl | assumption) (fun x' k' => amod_spec x' _ _ _ _ _ (by assumption) (by omega) (by omega) (by omega) (by omega) (by omega) k') ?_ | refine' use (made := [_, _, _, _, _, _, _]) (by assumption) (by assumption) (by assumption) (by assumption) ?pl rfl (by intro e; cases e) (by assumption) (by first | rfl | assumption) (fun x' k' => amod_spec x' _ _ _ _ _ (by assumption) (by omega) (by omega) (by omega) (by omega) (by omega) k') ?_ | refine' use (made := [_, _, _, _, _, _, _, _]) (by assumption) (by assumption) (by assumption) (by assumption) ?pl rfl (by intro e; cases e) (by assumption) (by first | rfl | assumption) (fun x' k' => amod_spec x' _ _ _ _ _ (by assumption) (by omega) (by omega) (by omega) (by omega) (by omega) k') ?_ | refine' use (made := [_, _, _, _, _, _, _, _, _]) (by assumption) (by assumption) (by assumption) (by assumption) ?pl rfl (by intro e; cases e) (by assumption) (by first | rfl | assumption) (fun x' k' => amod_spec x' _ _ _ _ _ (by assumption) (by omega) (by omega) (by omega) (by omega) (by omega) k') ?_ | refine' use (made := [_, _, _, _, _, _, _, _, _, _]) (by assumption) (by assumption) (by assumption) (by assumption) ?pl rfl (by intro e; cases e) (by assumption) (by first | rfl | assumption) (fun x' k' => amod_spec x' _ _ _ _ _ (by assumption) (by omega) (by omega) (by omega) (by omega) (by omega) k') ?_ | refine' use (made := [_, _, _, _, _, _, _, _, _, _, _]) (by assumption) (by assumption) (by assumption) (by assumption) ?pl rfl (by intro e; cases e) (by assumption) (by first | rfl | assumption) (fun x' k' => amod_spec x' _ _ _ _ _ (by assumption) (by omega) (by omega) (by omega) (by omega) (by omega) k') ?_); (case pl => (repeat (first | exact Plain.nil | refine Plain.seq rfl ?_ | refine Plain.set (by assumption) ?_ | refine Plain.cell (by assumption) ?_))); (intro v' s' mu' M' F' N' hb' ho' P'); (try simp only [List.nil_append, List.cons_append] at N'); (obtain ⟨t', e'⟩ := P'; subst e')))
set_option maxHeartbeats 4000000 in
theorem to_tzolkin_spec (x : Sit w mg mb ob dp un envs (n + 2) s) (t : Tok) (z : UInt64) (N : Int) (hz : IsH z (2 * N + 1168565)) (h1 : -2000 ≤ N) (h2 : N < 1000100000)
    (hQ : ∀ v s', Aft w mg mb ob envs s s' → (∃ a t1 t2, v = .ref a ∧ s'.heap.get? a = some (tupO [.int ((N + 3) % 13 + 1) t1, .str (tstr ((N + 19) % 20)) t2])) → Q v s') :
    wpAny (model PRG w) (aro dp un gd envs) (call (.ref 65) [.float z t]) Q E s := by
  have hE := isH_epoch
  have hb0 := x.bare
  refine wpAny_call ?_
  k_dflt (refine' enter x ?k6 ?k7 ?k9 ?kB ?_ ?c2 ?c3 ?c4 ?c5; (case k6 => k_is); (case k7 => k_is); (case k9 => exact BindsTo.of_eq rfl); (case kB => exact locs rfl); (case c2 => exact rfl); (case c3 => exact rfl); (case c4 => exact rfl); (case c5 => decide))
  intro L' h₁ mu F' N' M X' T'
  try dsimp only
  k_fold
  k_steps
  refine Back.mk (hQ _ _ ?_ ?_)
  · exact (aft_out x (by assumption) (by assumption) (by assumption) (by first | exact fun p hp => hp | exact fun p hp => .tail _ hp | exact fun p hp => .tail _ (.tail _ hp) | exact fun p hp => .tail _ (.tail _ (.tail _ hp)) | exact fun p hp => .tail _ (.tail _ (.tail _ (.tail _ hp))) | exact fun p hp => .tail _ (.tail _ (.tail _ (.tail _ (.tail _ hp)))) | exact fun p hp => .tail _ (.tail _ (.tail _ (.tail _ (.tail _ (.tail _ hp))))) | exact fun p hp => .tail _ (.tail _ (.tail _ (.tail _ (.tail _ (.tail _ (.tail _ hp)))))) | exact fun p hp => .tail _ (.tail _ (.tail _ (.tail _ (.tail _ (.tail _ (.tail _ (.tail _ hp))))))) | exact fun p hp => .tail _ (.tail _ (.tail _ (.tail _ (.tail _ (.tail _ (.tail _ (.tail _ (.tail _ hp)))))))) | exact fun p hp => .tail _ (.tail _ (.tail _ (.tail _ (.tail _ (.tail _ (.tail _ (.tail _ (.tail _ (.tail _ hp))))))))) | exact fun p hp => .tail _ (.tail _ (.tail _ (.tail _ (.tail _ (.tail _ (.tail _ (.tail _ (.tail _ (.tail _ (.tail _ hp)))))))))) | exact fun p hp => .tail _ (.tail _ (.tail _ (.tail _ (.tail _ (.tail _ (.tail _ (.tail _ (.tail _ (.tail _ (.tail _ (.tail _ hp))))))))))) | exact fun p hp => .tail _ (.tail _ (.tail _ (.tail _ (.tail _ (.tail _ (.tail _ (.tail _ (.tail _ (.tail _ (.tail _ (.tail _ (.tail _ hp)))))))))))) | exact fun p hp => .tail _ (.tail _ (.tail _ (.tail _ (.tail _ (.tail _ (.tail _ (.tail _ (.tail _ (.tail _ (.tail _ (.tail _ (.tail _ (.tail _ hp))))))))))))) | exact fun p hp => .tail _ (.tail _ (.tail _ (.tail _ (.tail _ (.tail _ (.tail _ (.tail _ (.tail _ (.tail _ (.tail _ (.tail _ (.tail _ (.tail _ (.tail _ hp))))))))))))))) (by assumption) (by first | rfl | assumption))
  · refine tupIS (News.get (by assumption) (.head _)) ?_ ?_
    · split <;> omega
    · congr 1; split <;> omega
end
end Mine
namespace Mine
open PySem PySem.W PySem.Calls PySem.Spec PyProof.Rows
local macro_rules | `(tactic| walk_at "no such key") => `(tactic| skip)
local macro_rules | `(tactic| walk_at "eval Constant float") => `(tactic| (k_dflt (refine' constHI (by first | exact isH_half | assumption) ?_); intro z' hz'))
local macro_rules | `(tactic| walk_at "binaryOp Add float int") => `(tactic| (k_dflt (refine' addHI (by assumption) (by omega) (by omega) ?_); intro z' hz'))
local macro_rules | `(tactic| walk_at "binaryOp Add int float") => `(tactic| (k_dflt (refine' addIH (by assumption) (by omega) (by omega) ?_); intro z' hz'))
local macro_rules | `(tactic| walk_at "binaryOp Sub float float") => `(tactic| (k_dflt (refine' subHH (by assumption) (by assumption) (by omega) ?_); intro z' hz'))
local macro_rules | `(tactic| walk_at "binaryOp Mod float int") => `(tactic| (k_dflt (refine' modHI' (by assumption) (by omega) (by omega) (by omega) (by omega) ?_); intro z' hz'))
local macro_rules | `(tactic| walk_at "binaryOp Div float int") => `(tactic| (k_dflt (refine' divHI20' (by assumption) (by omega) (by omega) (by omega) ?_); intro z' hz'))
local macro_rules | `(tactic| walk_at "call builtin:math.trunc") => `(tactic| (k_dflt first | (refine' truncH (by assumption) (by omega) rfl ?_) | (refine' truncQ (by assumption) rfl ?_)))
local macro_rules | `(tactic| walk_at "call type:int") => `(tactic| ((with_reducible show wpAny _ _ (call _ [Value.float _ _]) _ _ _); k_dflt (refine' intH (by assumption) (by omega) ?_)))
local macro_rules | `(tactic| walk_at "compareOp Eq float float") => `(tactic| (k_dflt (refine' eqHH (by assumption) (by assumption) ?_)))
local macro_rules | `(tactic| walk_at "compareOp NotEq float float") => `(tactic| (k_dflt (refine' neHH (by assumption) (by assumption) ?_)))
local macro_rules | `(tactic| walk_at "compareOp Lt float float") => `(tactic| (k_dflt (refine' ltHH (by assumption) (by assumption) ?_)))
local macro_rules | `(tactic| walk_at "subscriptTail") => `(tactic| ((with_reducible show wpAny _ _ (subscriptTail _ _ (Value.ref _) (Value.int _ _)) _ _ _); k_dflt (first
  | refine' item50 (by assumption) (by assumption) (by omega) (by omega) ?_ (by with_unfolding_all rfl)
  | refine' item51 (by assumption) (by assumption) (by omega) (by omega) ?_ (by with_unfolding_all rfl)
  | refine' item101 (by assumption) (by assumption) (by omega) (by omega) ?_ (by with_unfolding_all rfl)
  | refine' item102 (by assumption) (by assumption) (by omega) (by omega) ?_ (by with_unfolding_all rfl)); intro t'))
local macro_rules | `(tactic| walk_at "getMethod ref") => `(tactic| ((with_reducible show wpAny _ _ (getMethod (Value.ref _) (Str.ofString "index") _) _ _ _); k_dflt (first | refine' getIndex50 (by assumption) (by assumption) ?_ | refine' getIndex51 (by assumption) (by assumption) ?_)))
local macro_rules | `(tactic| walk_at "call builtin:list.index") => `(tactic| (k_dflt (first | refine' idx50 (by assumption) (by assumption) (by omega) (by omega) rfl ?_ ?_ | refine' idx51 (by assumption) (by assumption) (by omega) (by omega) rfl ?_ ?_); (first | (intro hj' h' tk' e' hx') | (intro hj'))))
local macro_rules | `(tactic| walk_at "exec Raise some none") => `(tactic| refine Raise_new rfl ?_)
local macro_rules | `(tactic| walk_at "call type:ValueError") => `(tactic| (k_dflt (refine call_exc1 excClass_ValueError ?_); intro h7' e7' nx7'))
section
variable {w : World} {mg mb : Str → Option Value} {ob : Obj} {dp un n : Nat} {gd : Option (List Code)} {envs : List Env} {s : Shared} {Q E : Value → Shared → Prop}
set_option maxHeartbeats 40000000 in
theorem haab_count_spec (x : Sit w mg mb ob dp un envs (n + 1) s) (t u : Tok) (d j : Int) (hj0 : 0 ≤ j) (hj1 : j < 20)
    (hQ : ∀ v s', Aft w mg mb ob envs s s' → 0 ≤ d ∧ d ≤ 19 ∧ j ≤ 18 ∧ (∃ t, v = .int (j * 20 + d) t) → Q v s')
    (hE1 : ∀ e s', Flies w mg mb ob envs "IndexError" e s s' → d < 0 ∨ 19 < d → E (.ref e) s')
    (hE2 : ∀ e s', Flies w mg mb ob envs "ValueError" e s s' → 0 ≤ d ∧ d ≤ 19 ∧ j = 19 → E (.ref e) s') :
    wpAny (model PRG w) (aro dp un gd envs) (call (.ref 72) [.int d t, .str (mstr j) u]) Q E s := by
  have hb0 := x.bare
  refine wpAny_call ?_
  k_dflt (refine' enter x ?k6 ?k7 ?k9 ?kB ?_ ?c2 ?c3 ?c4 ?c5; (case k6 => k_is); (case k7 => k_is); (case k9 => exact BindsTo.of_eq rfl); (case kB => exact locs rfl); (case c2 => exact rfl); (case c3 => exact rfl); (case c4 => exact rfl); (case c5 => decide))
  intro L' h₁ mu F' N' M X' T'
  try dsimp only
  k_fold
  k_steps
  · refine Back.mk (leave_newE x (by assumption) (by assumption) (by assumption) (by first | exact fun p hp => hp | exact fun p hp => .tail _ hp | exact fun p hp => .tail _ (.tail _ hp) | exact fun p hp => .tail _ (.tail _ (.tail _ hp)) | exact fun p hp => .tail _ (.tail _ (.tail _ (.tail _ hp))) | exact fun p hp => .tail _ (.tail _ (.tail _ (.tail _ (.tail _ hp)))) | exact fun p hp => .tail _ (.tail _ (.tail _ (.tail _ (.tail _ (.tail _ hp))))) | exact fun p hp => .tail _ (.tail _ (.tail _ (.tail _ (.tail _ (.tail _ (.tail _ hp)))))) | exact fun p hp => .tail _ (.tail _ (.tail _ (.tail _ (.tail _ (.tail _ (.tail _ (.tail _ hp))))))) | exact fun p hp => .tail _ (.tail _ (.tail _ (.tail _ (.tail _ (.tail _ (.tail _ (.tail _ (.tail _ hp)))))))) | exact fun p hp => .tail _ (.tail _ (.tail _ (.tail _ (.tail _ (.tail _ (.tail _ (.tail _ (.tail _ (.tail _ hp))))))))) | exact fun p hp => .tail _ (.tail _ (.tail _ (.tail _ (.tail _ (.tail _ (.tail _ (.tail _ (.tail _ (.tail _ (.tail _ hp)))))))))) | exact fun p hp => .tail _ (.tail _ (.tail _ (.tail _ (.tail _ (.tail _ (.tail _ (.tail _ (.tail _ (.tail _ (.tail _ (.tail _ hp))))))))))) | exact fun p hp => .tail _ (.tail _ (.tail _ (.tail _ (.tail _ (.tail _ (.tail _ (.tail _ (.tail _ (.tail _ (.tail _ (.tail _ (.tail _ hp)))))))))))) | exact fun p hp => .tail _ (.tail _ (.tail _ (.tail _ (.tail _ (.tail _ (.tail _ (.tail _ (.tail _ (.tail _ (.tail _ (.tail _ (.tail _ (.tail _ hp))))))))))))) | exact fun p hp => .tail _ (.tail _ (.tail _ (.tail _ (.tail _ (.tail _ (.tail _ (.tail _ (.tail _ (.tail _ (.tail _ (.tail _ (.tail _ (.tail _ (.tail _ hp))))))))))))))) rfl (by intro z; cases z) (by assumption) (by first | rfl | assumption) (by assumption) ?_); intro s'' fl'
    exact hE1 _ _ fl' (.inl (by assumption))
  · refine Back.mk (leave_newE x (by assumption) (by assumption) (by assumption) (by first | exact fun p hp => hp | exact fun p hp => .tail _ hp | exact fun p hp => .tail _ (.tail _ hp) | exact fun p hp => .tail _ (.tail _ (.tail _ hp)) | exact fun p hp => .tail _ (.tail _ (.tail _ (.tail _ hp))) | exact fun p hp => .tail _ (.tail _ (.tail _ (.tail _ (.tail _ hp)))) | exact fun p hp => .tail _ (.tail _ (.tail _ (.tail _ (.tail _ (.tail _ hp))))) | exact fun p hp => .tail _ (.tail _ (.tail _ (.tail _ (.tail _ (.tail _ (.tail _ hp)))))) | exact fun p hp => .tail _ (.tail _ (.tail _ (.tail _ (.tail _ (.tail _ (.tail _ (.tail _ hp))))))) | exact fun p hp => .tail _ (.tail _ (.tail _ (.tail _ (.tail _ (.tail _ (.tail _ (.tail _ (.tail _ hp)))))))) | exact fun p hp => .tail _ (.tail _ (.tail _ (.tail _ (.tail _ (.tail _ (.tail _ (.tail _ (.tail _ (.tail _ hp))))))))) | exact fun p hp => .tail _ (.tail _ (.tail _ (.tail _ (.tail _ (.tail _ (.tail _ (.tail _ (.tail _ (.tail _ (.tail _ hp)))))))))) | exact fun p hp => .tail _ (.tail _ (.tail _ (.tail _ (.tail _ (.tail _ (.tail _ (.tail _ (.tail _ (.tail _ (.tail _ (.tail _ hp))))))))))) | exact fun p hp => .tail _ (.tail _ (.tail _ (.tail _ (.tail _ (.tail _ (.tail _ (.tail _ (.tail _ (.tail _ (.tail _ (.tail _ (.tail _ hp)))))))))))) | exact fun p hp => .tail _ (.tail _ (.tail _ (.tail _ (.tail _ (.tail _ (.tail _ (.tail _ (.tail _ (.tail _ (.tail _ (.tail _ (.tail _ (.tail _ hp))))))))))))) | exact fun p hp => .tail _ (.tail _ (.tail _ (.tail _ (.tail _ (.tail _ (.tail _ (.tail _ (.tail _ (.tail _ (.tail _ (.tail _ (.tail _ (.tail _ (.tail _ hp))))))))))))))) rfl (by intro z; cases z) (by assumption) (by first | rfl | assumption) (by assumption) ?_); intro s'' fl'
    exact hE1 _ _ fl' (.inr (by omega))
  · refine Back.mk (hQ _ _ ?_ ?_)
    · exact (aft_out x (by assumption) (by assumption) (by assumption) (by first | exact fun p hp => hp | exact fun p hp => .tail _ hp | exact fun p hp => .tail _ (.tail _ hp) | exact fun p hp => .tail _ (.tail _ (.tail _ hp)) | exact fun p hp => .tail _ (.tail _ (.tail _ (.tail _ hp))) | exact fun p hp => .tail _ (.tail _ (.tail _ (.tail _ (.tail _ hp)))) | exact fun p hp => .tail _ (.tail _ (.tail _ (.tail _ (.tail _ (.tail _ hp))))) | exact fun p hp => .tail _ (.tail _ (.tail _ (.tail _ (.tail _ (.tail _ (.tail _ hp)))))) | exact fun p hp => .tail _ (.tail _ (.tail _ (.tail _ (.tail _ (.tail _ (.tail _ (.tail _ hp))))))) | exact fun p hp => .tail _ (.tail _ (.tail _ (.tail _ (.tail _ (.tail _ (.tail _ (.tail _ (.tail _ hp)))))))) | exact fun p hp => .tail _ (.tail _ (.tail _ (.tail _ (.tail _ (.tail _ (.tail _ (.tail _ (.tail _ (.tail _ hp))))))))) | exact fun p hp => .tail _ (.tail _ (.tail _ (.tail _ (.tail _ (.tail _ (.tail _ (.tail _ (.tail _ (.tail _ (.tail _ hp)))))))))) | exact fun p hp => .tail _ (.tail _ (.tail _ (.tail _ (.tail _ (.tail _ (.tail _ (.tail _ (.tail _ (.tail _ (.tail _ (.tail _ hp))))))))))) | exact fun p hp => .tail _ (.tail _ (.tail _ (.tail _ (.tail _ (.tail _ (.tail _ (.tail _ (.tail _ (.tail _ (.tail _ (.tail _ (.tail _ hp)))))))))))) | exact fun p hp => .tail _ (.tail _ (.tail _ (.tail _ (.tail _ (.tail _ (.tail _ (.tail _ (.tail _ (.tail _ (.tail _ (.tail _ (.tail _ (.tail _ hp))))))))))))) | exact fun p hp => .tail _ (.tail _ (.tail _ (.tail _ (.tail _ (.tail _ (.tail _ (.tail _ (.tail _ (.tail _ (.tail _ (.tail _ (.tail _ (.tail _ (.tail _ hp))))))))))))))) (by assumption) (by first | rfl | assumption))
    · refine ⟨by omega, by omega, by omega, ?_⟩
      rw [show j * 20 + d = (if 360 < j * 20 then 360 else j * 20) + d from by split <;> omega]
      exact ⟨_, rfl⟩
  · refine note_new (clean := true) (made := []) rfl x F' N' M Plain.nil rfl (by intro z; cases z) (Heap.NewExc.of (by assumption)) (newExc_h0 (by assumption)) fun h2 c2 => ?_
    refine c2.land fun h3 c3 => ?_
    refine clause_hit_as2 rfl c3 ?hx rfl (by decide) rfl rfl rfl ?hexc ?hnt ?hsub rfl fun h4 tk4 c4 => ?_
    case hx => k_is
    case hexc => exact excR_ValueError.isExc
    case hnt => exact nt_ValueError
    case hsub => exact sub_VV
    obtain ⟨mu4, M4, F4, N4⟩ := c4.facts
    obtain ⟨cl4, o4, vs4, z4⟩ := c4.clean
    refine wpAny_execs_cons (RaiseFrom_held (e := _) excR_ValueError excR_ValueError rfl ?_)
    k_steps
    have hm : mstr j = Str.ofString "Ajaw" := by
      have hj : j = 19 := by assumption
      rw [hj]; rfl
    rw [hm]
    refine fmt_haab fun T5 t5 k5 => ?_
    k_steps
    rename_i h7 e7 nx7
    have F5 := Fr.keptAll F4 nx7.keeps
    have N5 : News (solid (fsOf envs) s.heap) L' h7 mu4 := fun p hp => ⟨nx7.keeps _ _ (N4 p hp).1, (N4 p hp).2⟩
    refine ⟨_, _, rfl, nx7, cl4, ⟨_, _, z4⟩, ?_⟩
    dsimp only
    k_steps
    refine ⟨rfl, rfl, fun h8 nx8 => ?_⟩
    refine suite_out2 (made := []) rfl rfl x F4 N4 M4 Plain.nil rfl rfl nx8 rfl hb0 fun s9 fl9 => hE2 _ _ fl9 ⟨by omega, by omega, by assumption⟩
end
end Mine
namespace Mine
open PySem PySem.W PySem.Calls PySem.Spec PyProof.Rows
local macro_rules | `(tactic| walk_at "eval Constant float") => `(tactic| (k_dflt (refine' constHI (by first | exact isH_half | assumption) ?_); intro z' hz'))
local macro_rules | `(tactic| walk_at "binaryOp Add float int") => `(tactic| (k_dflt (refine' addHI (by assumption) (by omega) (by omega) ?_); intro z' hz'))
local macro_rules | `(tactic| walk_at "binaryOp Add int float") => `(tactic| (k_dflt (refine' addIH (by assumption) (by omega) (by omega) ?_); intro z' hz'))
local macro_rules | `(tactic| walk_at "binaryOp Sub float float") => `(tactic| (k_dflt (refine' subHH (by assumption) (by assumption) (by omega) ?_); intro z' hz'))
local macro_rules | `(tactic| walk_at "binaryOp Mod float int") => `(tactic| (k_dflt (refine' modHI' (by assumption) (by omega) (by omega) (by omega) (by omega) ?_); intro z' hz'))
local macro_rules | `(tactic| walk_at "binaryOp Div float int") => `(tactic| (k_dflt (refine' divHI20' (by assumption) (by omega) (by omega) (by omega) ?_); intro z' hz'))
local macro_rules | `(tactic| walk_at "call builtin:math.trunc") => `(tactic| (k_dflt first | (refine' truncH (by assumption) (by omega) rfl ?_) | (refine' truncQ (by assumption) rfl ?_)))
local macro_rules | `(tactic| walk_at "call type:int") => `(tactic| ((with_reducible show wpAny _ _ (call _ [Value.float _ _]) _ _ _); k_dflt (refine' intH (by assumption) (by omega) ?_)))
local macro_rules | `(tactic| walk_at "compareOp Eq float float") => `(tactic| (k_dflt (refine' eqHH (by assumption) (by assumption) ?_)))
local macro_rules | `(tactic| walk_at "compareOp NotEq float float") => `(tactic| (k_dflt (refine' neHH (by assumption) (by assumption) ?_)))
local macro_rules | `(tactic| walk_at "compareOp Lt float float") => `(tactic| (k_dflt (refine' ltHH (by assumption) (by assumption) ?_)))
local macro_rules | `(tactic| walk_at "subscriptTail") => `(tactic| ((with_reducible show wpAny _ _ (subscriptTail _ _ (Value.ref _) (Value.int _ _)) _ _ _); k_dflt (first
  | refine' item50 (by assumption) (by assumption) (by omega) (by omega) ?_ (by with_unfolding_all rfl)
  | refine' item51 (by assumption) (by assumption) (by omega) (by omega) ?_ (by with_unfolding_all rfl)
  | refine' item101 (by assumption) (by assumption) (by omega) (by omega) ?_ (by with_unfolding_all rfl)
  | refine' item102 (by assumption) (by assumption) (by omega) (by omega) ?_ (by with_unfolding_all rfl)); intro t'))
local macro_rules | `(tactic| walk_at "getMethod ref") => `(tactic| ((with_reducible show wpAny _ _ (getMethod (Value.ref _) (Str.ofString "index") _) _ _ _); k_dflt (first | refine' getIndex50 (by assumption) (by assumption) ?_ | refine' getIndex51 (by assumption) (by assumption) ?_)))
local macro_rules | `(tactic| walk_at "call builtin:list.index") => `(tactic| (k_dflt (first | refine' idx50 (by assumption) (by assumption) (by omega) (by omega) rfl ?_ ?_ | refine' idx51 (by assumption) (by assumption) (by omega) (by omega) rfl ?_ ?_); (first | (intro hj' h' tk' e' hx') | (intro hj'))))
local macro_rules | `(tactic| walk_at "exec Raise some none") => `(tactic| refine Raise_new rfl ?_)
local macro_rules | `(tactic| walk_at "call type:ValueError") => `(tactic| (k_dflt (refine call_exc1 excClass_ValueError ?_); intro h7' e7' nx7'))
local macro_rules | `(tactic| walk_at "exec Try") => `(tactic| ((with_reducible show wpAny _ _ (exec (Stmt.Try _ (_ :: _) _ [] _) _) _ _ _); refine wpAny_Try_except ?_))
local macro_rules | `(tactic| walk_at "storeName") => `(tactic| (k_dflt (refine' storeL_in ?gF ?gN ?ghe ?gk ?gx ?_; (case gF => assumption); (case gN => assumption); (case ghe => rfl); (case gk => rfl); (case gx => rfl); (intro h' F' N'))))
local macro_rules | `(tactic| walk_at "storeName") => `(tactic| ((with_reducible show wpAny _ _ (storeName _ (Str.ofString "n") _) _ _ _); k_dflt (refine' storeC_in ?gF ?gN ?gM ?ghe ?gc ?gsp ?gd ?g1 ?g2 ?gk ?gx ?_; (case gF => assumption); (case gN => assumption); (case gM => assumption); (case ghe => rfl); (case gc => rfl); (case gsp => (first | exact (rfl : _ = [] ++ (_, _) :: ([] ++ _)) | exact (rfl : _ = [] ++ (_, _) :: ([_] ++ _)) | exact (rfl : _ = [] ++ (_, _) :: ([_, _] ++ _)) | exact (rfl : _ = [] ++ (_, _) :: ([_, _, _] ++ _)) | exact (rfl : _ = [] ++ (_, _) :: ([_, _, _, _] ++ _)) | exact (rfl : _ = [_] ++ (_, _) :: ([] ++ _)) | exact (rfl : _ = [_] ++ (_, _) :: ([_] ++ _)) | exact (rfl : _ = [_] ++ (_, _) :: ([_, _] ++ _)) | exact (rfl : _ = [_] ++ (_, _) :: ([_, _, _] ++ _)) | exact (rfl : _ = [_] ++ (_, _) :: ([_, _, _, _] ++ _)) | exact (rfl : _ = [_, _] ++ (_, _) :: ([] ++ _)) | exact (rfl : _ = [_, _] ++ (_, _) :: ([_] ++ _)) | exact (rfl : _ = [_, _] ++ (_, _) :: ([_, _] ++ _)) | exact (rfl : _ = [_, _] ++ (_, _) :: ([_, _, _] ++ _)) | exact (rfl : _ = [_, _] ++ (_, _) :: ([_, _, _, _] ++ _)) | exact (rfl : _ = [_, _, _] ++ (_, _) :: ([] ++ _)) | exact (rfl : _ = [_, _, _] ++ (_, _) :: ([_] ++ _)) | exact (rfl : _ = [_, _, _] ++ (_, _) :: ([_, _] ++ _)) | exact (rfl : _ = [_, _, _] ++ (_, _) :: ([_, _, _] ++ _)) | exact (rfl : _ = [_, _, _] ++ (_, _) :: ([_, _, _, _] ++ _)) | exact (rfl : _ = [_, _, _, _] ++ (_, _) :: ([] ++ _)) | exact (rfl : _ = [_, _, _, _] ++ (_, _) :: ([_] ++ _)) | exact (rfl : _ = [_, _, _, _] ++ (_, _) :: ([_, _] ++ _)) | exact (rfl : _ = [_, _, _, _] ++ (_, _) :: ([_, _, _] ++ _)) | exact (rfl : _ = [_, _, _, _] ++ (_, _) :: ([_, _, _, _] ++ _)))); (case gd => assumption); (case g1 => (repeat (first | exact Apart.nil | refine Apart.set (by assumption) ?_ | refine Apart.other (by first | exact Nat.ne_of_lt (by omega) | exact Nat.ne_of_gt (by omega) | simp) ?_))); (case g2 => (repeat (first | exact Apart.nil | refine Apart.set (by assumption) ?_ | refine Apart.other (by first | exact Nat.ne_of_lt (by omega) | exact Nat.ne_of_gt (by omega) | simp) ?_))); (case gk => rfl); (case gx => rfl); (intro h' o' F' N' dc'); (simp only [List.nil_append, List.cons_append] at N'))))
local macro_rules | `(tactic| walk_at "eval GeneratorExp") => `(tactic| (k_dflt (refine' gen_in (c := 78) (P := 74) (.inl ⟨rfl, rfl⟩) ?gX ?gF ?gN ?gM ?gsp ?ghe ?gcode ?grng ?gk ?gxk ?gpl ?gmem ?ghoc ?gvv ?grg ?gcl ?gco ?gclos ?gsc ?g0 ?gx ?gy ?gkd ?gdx ?gdy ?gdc ?_; (case gX => assumption); (case gF => assumption); (case gN => assumption); (case gM => assumption); (case gsp => (first | exact (rfl : _ = [] ++ _) | exact (rfl : _ = [_] ++ _) | exact (rfl : _ = [_, _] ++ _) | exact (rfl : _ = [_, _, _] ++ _) | exact (rfl : _ = [_, _, _, _] ++ _) | exact (rfl : _ = [_, _, _, _, _] ++ _) | exact (rfl : _ = [_, _, _, _, _, _] ++ _) | exact (rfl : _ = [_, _, _, _, _, _, _] ++ _) | exact (rfl : _ = [_, _, _, _, _, _, _, _] ++ _) | exact (rfl : _ = [_, _, _, _, _, _, _, _, _] ++ _) | exact (rfl : _ = [_, _, _, _, _, _, _, _, _, _] ++ _) | exact (rfl : _ = [_, _, _, _, _, _, _, _, _, _, _] ++ _))); (case ghe => rfl); (case gcode => rfl); (case grng => k_is); (case gk => rfl); (case gxk => rfl); (case grg => first | exact rg1 | exact rg2 | exact rg3 | exact rg4); (case gclos => with_unfolding_all rfl); (case gcl => with_unfolding_all rfl); (case gmem => (first | exact .head _ | exact .tail _ (.head _) | exact .tail _ (.tail _ (.head _)) | exact .tail _ (.tail _ (.tail _ (.head _))) | exact .tail _ (.tail _ (.tail _ (.tail _ (.head _)))) | exact .tail _ (.tail _ (.tail _ (.tail _ (.tail _ (.head _))))))); (case ghoc => assumption); (case gvv => with_unfolding_all rfl); (case gpl => (repeat (first | exact Plain.nil | refine Plain.seq rfl ?_ | refine Plain.set (by assumption) ?_ | refine Plain.cell (by assumption) ?_))); (case gco => rfl); (case gsc => decide); (case g0 => rfl); (case gx => rfl); (case gy => rfl); (case gkd => rfl); (case gdx => rfl); (case gdy => rfl); (case gdc => rfl); (intro a' s' G'))))
local macro_rules | `(tactic| walk_at "call type:set cons nil") => `(tactic| (k_dflt (refine' set_in (c := 78) (P := 74) (.inl ⟨rfl, rfl⟩) ?gX ?gF ?gN ?gM ?gsp ?spl ?sbare ?sos ?sG ?ssz ?_; (case gX => assumption); (case sG => assumption); (case gF => assumption); (case gN => assumption); (case gM => assumption); (case gsp => (first | exact (rfl : _ = [] ++ _) | exact (rfl : _ = [_] ++ _) | exact (rfl : _ = [_, _] ++ _) | exact (rfl : _ = [_, _, _] ++ _) | exact (rfl : _ = [_, _, _, _] ++ _) | exact (rfl : _ = [_, _, _, _, _] ++ _) | exact (rfl : _ = [_, _, _, _, _, _] ++ _) | exact (rfl : _ = [_, _, _, _, _, _, _] ++ _) | exact (rfl : _ = [_, _, _, _, _, _, _, _] ++ _) | exact (rfl : _ = [_, _, _, _, _, _, _, _, _] ++ _) | exact (rfl : _ = [_, _, _, _, _, _, _, _, _, _] ++ _) | exact (rfl : _ = [_, _, _, _, _, _, _, _, _, _, _] ++ _))); (case spl => (repeat (first | exact Plain.nil | refine Plain.seq rfl ?_ | refine Plain.set (by assumption) ?_ | refine Plain.cell (by assumption) ?_))); (case sbare => assumption); (case sos => first | rfl | assumption); (case ssz => decide); (intro sa' so' s' mu' M' F' N' hs' hd' hb' ho' hlt'); (obtain ⟨_, _, _, hd'⟩ := hd'); (try simp only [List.nil_append, List.cons_append] at N'))))
local macro_rules | `(tactic| walk_at "getMethod ref") => `(tactic| ((with_reducible show wpAny _ _ (getMethod (Value.ref _) (Str.ofString "intersection") _) _ _ _); k_dflt first | (refine' getInterIn ?mN ?mm ?ms ?mb ?_; (case mN => assumption); (case mm => (first | exact .head _ | exact .tail _ (.head _) | exact .tail _ (.tail _ (.head _)) | exact .tail _ (.tail _ (.tail _ (.head _))) | exact .tail _ (.tail _ (.tail _ (.tail _ (.head _)))) | exact .tail _ (.tail _ (.tail _ (.tail _ (.tail _ (.head _))))))); (case ms => assumption); (case mb => exact Nat.lt_of_le_of_lt (firstMet_length_le _ _) (by decide)))))
local macro_rules | `(tactic| walk_at "getMethod ref") => `(tactic| ((with_reducible show wpAny _ _ (getMethod (Value.ref _) (Str.ofString "pop") _) _ _ _); k_dflt first | (refine' getPopIn ?mN ?mm ?ms ?mb ?_; (case mN => assumption); (case mm => (first | exact .head _ | exact .tail _ (.head _) | exact .tail _ (.tail _ (.head _)) | exact .tail _ (.tail _ (.tail _ (.head _))) | exact .tail _ (.tail _ (.tail _ (.tail _ (.head _)))) | exact .tail _ (.tail _ (.tail _ (.tail _ (.tail _ (.head _))))))); (case ms => assumption); (case mb => assumption))))
local macro_rules | `(tactic| walk_at "call builtin:set.intersection") => `(tactic| (k_dflt first | (refine' inter_in ?gF ?gN ?ma ?mb ?sa ?sb ?na ?nb ?ne ?_; (case gF => assumption); (case gN => assumption); (case ma => (first | exact .head _ | exact .tail _ (.head _) | exact .tail _ (.tail _ (.head _)) | exact .tail _ (.tail _ (.tail _ (.head _))) | exact .tail _ (.tail _ (.tail _ (.tail _ (.head _)))) | exact .tail _ (.tail _ (.tail _ (.tail _ (.tail _ (.head _))))))); (case mb => (first | exact .head _ | exact .tail _ (.head _) | exact .tail _ (.tail _ (.head _)) | exact .tail _ (.tail _ (.tail _ (.head _))) | exact .tail _ (.tail _ (.tail _ (.tail _ (.head _)))) | exact .tail _ (.tail _ (.tail _ (.tail _ (.tail _ (.head _))))))); (case sa => assumption); (case sb => assumption); (case na => exact met_small (by decide)); (case nb => exact met_small (by decide)); (case ne => first | exact Nat.ne_of_lt (lt_of_all (by assumption) (by (first | exact .head _ | exact .tail _ (.head _) | exact .tail _ (.tail _ (.head _)) | exact .tail _ (.tail _ (.tail _ (.head _))) | exact .tail _ (.tail _ (.tail _ (.tail _ (.head _)))) | exact .tail _ (.tail _ (.tail _ (.tail _ (.tail _ (.head _)))))))) | exact Nat.ne_of_gt (lt_of_all (by assumption) (by (first | exact .head _ | exact .tail _ (.head _) | exact .tail _ (.tail _ (.head _)) | exact .tail _ (.tail _ (.tail _ (.head _))) | exact .tail _ (.tail _ (.tail _ (.tail _ (.head _)))) | exact .tail _ (.tail _ (.tail _ (.tail _ (.tail _ (.head _))))))))); (intro ra' ro' sig' s' nd' iff' F' N' hs' hd' hne' hgg' ho' hsm'); (obtain ⟨_, _, _, hd'⟩ := hd'); (have hb9' := bare_eq hgg' (by assumption)); (have ho9' := Eq.trans ho' (by first | assumption | rfl)))))
local macro_rules | `(tactic| walk_at "call builtin:set.pop") => `(tactic| (k_dflt first | (refine' pop_in ?gF ?gN ?gs ?gne ?gnd ?huni rfl ?_ ?_; (case gF => assumption); (case gN => assumption); (case gs => assumption); (case gne => assumption); (case gnd => assumption); (case huni => (refine uni_of (by assumption) ?_; intro i i2 j j2 h1 h2 h3 h4 h5 h6; (try dsimp only at h5 h6 ⊢); omega)); (first | ((intro kk' tt' s' hmem' F' N' hgg' ho'); (obtain ⟨⟨i9', hi9', ev9'⟩, ⟨j9', hj9', ej9'⟩⟩ := met_of (by assumption) hmem'); (try dsimp only at ev9' ej9'); (try simp only [Int.fmod_eq_emod_of_nonneg _ (show (0:Int) ≤ 365 by decide), Int.fmod_eq_emod_of_nonneg _ (show (0:Int) ≤ 260 by decide)] at ev9' ej9'); (have hb9' := bare_eq hgg' (by assumption)); (have ho9' := Eq.trans ho' (by assumption))) | (intro hno' h' tk' e' nx')))))
section
variable {w : World} {mg mb : Str → Option Value} {ob : Obj} {dp un n : Nat} {gd : Option (List Code)} {envs : List Env} {s : Shared} {Q E : Value → Shared → Prop}
set_option maxHeartbeats 40000000 in
theorem tz_count_spec (x : Sit w mg mb ob dp un envs (n + 1) s) (t u : Tok) (d j : Int) (hj0 : 0 ≤ j) (hj1 : j < 21)
    (hQ : ∀ v s', Aft w mg mb ob envs s s' → 1 ≤ d ∧ d ≤ 13 ∧ j ≤ 19 → (∃ c t, v = .int c t ∧ 1 ≤ c ∧ c ≤ 260 ∧ (c - d) % 13 = 0 ∧ (c - j - 1) % 20 = 0) → Q v s')
    (hE1 : ∀ e s', Flies w mg mb ob envs "IndexError" e s s' → d < 1 ∨ 13 < d → E (.ref e) s')
    (hE2 : ∀ e s', Flies w mg mb ob envs "ValueError" e s s' → 1 ≤ d ∧ d ≤ 13 ∧ j = 20 → E (.ref e) s') :
    wpAny (model PRG w) (aro dp un gd envs) (call (.ref 79) [.int d t, .str (tstr j) u]) Q E s := by
  have hb0 := x.bare
  refine wpAny_call ?_
  k_dflt (refine' enterC x ?k6 ?k7 ?k9 ?kB ?kN ?_ ?c3 ?c4 ?c5; (case k6 => k_is); (case k7 => k_is); (case k9 => exact BindsTo.of_eq rfl); (case kB => exact rfl); (case kN => decide); (case c3 => exact rfl); (case c4 => exact rfl); (case c5 => exact rfl))
  intro L' h₁ tk₁ cells' mu F' N' CA' M X' T' hmu'
  try dsimp only
  k_fold
  k_cells CA'
  simp only [List.cons_append, List.nil_append] at N'
  k_steps
  · refine Back.mk (leave_newE x (by assumption) (by assumption) (by assumption) (by first | exact fun p hp => hp | exact fun p hp => .tail _ hp | exact fun p hp => .tail _ (.tail _ hp) | exact fun p hp => .tail _ (.tail _ (.tail _ hp)) | exact fun p hp => .tail _ (.tail _ (.tail _ (.tail _ hp))) | exact fun p hp => .tail _ (.tail _ (.tail _ (.tail _ (.tail _ hp)))) | exact fun p hp => .tail _ (.tail _ (.tail _ (.tail _ (.tail _ (.tail _ hp))))) | exact fun p hp => .tail _ (.tail _ (.tail _ (.tail _ (.tail _ (.tail _ (.tail _ hp)))))) | exact fun p hp => .tail _ (.tail _ (.tail _ (.tail _ (.tail _ (.tail _ (.tail _ (.tail _ hp))))))) | exact fun p hp => .tail _ (.tail _ (.tail _ (.tail _ (.tail _ (.tail _ (.tail _ (.tail _ (.tail _ hp)))))))) | exact fun p hp => .tail _ (.tail _ (.tail _ (.tail _ (.tail _ (.tail _ (.tail _ (.tail _ (.tail _ (.tail _ hp))))))))) | exact fun p hp => .tail _ (.tail _ (.tail _ (.tail _ (.tail _ (.tail _ (.tail _ (.tail _ (.tail _ (.tail _ (.tail _ hp)))))))))) | exact fun p hp => .tail _ (.tail _ (.tail _ (.tail _ (.tail _ (.tail _ (.tail _ (.tail _ (.tail _ (.tail _ (.tail _ (.tail _ hp))))))))))) | exact fun p hp => .tail _ (.tail _ (.tail _ (.tail _ (.tail _ (.tail _ (.tail _ (.tail _ (.tail _ (.tail _ (.tail _ (.tail _ (.tail _ hp)))))))))))) | exact fun p hp => .tail _ (.tail _ (.tail _ (.tail _ (.tail _ (.tail _ (.tail _ (.tail _ (.tail _ (.tail _ (.tail _ (.tail _ (.tail _ (.tail _ hp))))))))))))) | exact fun p hp => .tail _ (.tail _ (.tail _ (.tail _ (.tail _ (.tail _ (.tail _ (.tail _ (.tail _ (.tail _ (.tail _ (.tail _ (.tail _ (.tail _ (.tail _ hp))))))))))))))) rfl (by intro z; cases z) (by assumption) (by first | rfl | assumption) (by assumption) ?_); intro s'' fl'
    exact hE1 _ _ fl' (.inl (by assumption))
  · refine Back.mk (leave_newE x (by assumption) (by assumption) (by assumption) (by first | exact fun p hp => hp | exact fun p hp => .tail _ hp | exact fun p hp => .tail _ (.tail _ hp) | exact fun p hp => .tail _ (.tail _ (.tail _ hp)) | exact fun p hp => .tail _ (.tail _ (.tail _ (.tail _ hp))) | exact fun p hp => .tail _ (.tail _ (.tail _ (.tail _ (.tail _ hp)))) | exact fun p hp => .tail _ (.tail _ (.tail _ (.tail _ (.tail _ (.tail _ hp))))) | exact fun p hp => .tail _ (.tail _ (.tail _ (.tail _ (.tail _ (.tail _ (.tail _ hp)))))) | exact fun p hp => .tail _ (.tail _ (.tail _ (.tail _ (.tail _ (.tail _ (.tail _ (.tail _ hp))))))) | exact fun p hp => .tail _ (.tail _ (.tail _ (.tail _ (.tail _ (.tail _ (.tail _ (.tail _ (.tail _ hp)))))))) | exact fun p hp => .tail _ (.tail _ (.tail _ (.tail _ (.tail _ (.tail _ (.tail _ (.tail _ (.tail _ (.tail _ hp))))))))) | exact fun p hp => .tail _ (.tail _ (.tail _ (.tail _ (.tail _ (.tail _ (.tail _ (.tail _ (.tail _ (.tail _ (.tail _ hp)))))))))) | exact fun p hp => .tail _ (.tail _ (.tail _ (.tail _ (.tail _ (.tail _ (.tail _ (.tail _ (.tail _ (.tail _ (.tail _ (.tail _ hp))))))))))) | exact fun p hp => .tail _ (.tail _ (.tail _ (.tail _ (.tail _ (.tail _ (.tail _ (.tail _ (.tail _ (.tail _ (.tail _ (.tail _ (.tail _ hp)))))))))))) | exact fun p hp => .tail _ (.tail _ (.tail _ (.tail _ (.tail _ (.tail _ (.tail _ (.tail _ (.tail _ (.tail _ (.tail _ (.tail _ (.tail _ (.tail _ hp))))))))))))) | exact fun p hp => .tail _ (.tail _ (.tail _ (.tail _ (.tail _ (.tail _ (.tail _ (.tail _ (.tail _ (.tail _ (.tail _ (.tail _ (.tail _ (.tail _ (.tail _ hp))))))))))))))) rfl (by intro z; cases z) (by assumption) (by first | rfl | assumption) (by assumption) ?_); intro s'' fl'
    exact hE1 _ _ fl' (.inr (by assumption))
  · have hj9 : j ≤ 19 := by assumption
    obtain ⟨⟨i, hi, e1⟩, ⟨k, hk, e2⟩⟩ := met_of (by assumption) (by assumption)
    refine Back.mk (hQ _ _ ?_ ?_ ?_)
    · exact (aft_out x (by assumption) (by assumption) (by assumption) (by first | exact fun p hp => hp | exact fun p hp => .tail _ hp | exact fun p hp => .tail _ (.tail _ hp) | exact fun p hp => .tail _ (.tail _ (.tail _ hp)) | exact fun p hp => .tail _ (.tail _ (.tail _ (.tail _ hp))) | exact fun p hp => .tail _ (.tail _ (.tail _ (.tail _ (.tail _ hp)))) | exact fun p hp => .tail _ (.tail _ (.tail _ (.tail _ (.tail _ (.tail _ hp))))) | exact fun p hp => .tail _ (.tail _ (.tail _ (.tail _ (.tail _ (.tail _ (.tail _ hp)))))) | exact fun p hp => .tail _ (.tail _ (.tail _ (.tail _ (.tail _ (.tail _ (.tail _ (.tail _ hp))))))) | exact fun p hp => .tail _ (.tail _ (.tail _ (.tail _ (.tail _ (.tail _ (.tail _ (.tail _ (.tail _ hp)))))))) | exact fun p hp => .tail _ (.tail _ (.tail _ (.tail _ (.tail _ (.tail _ (.tail _ (.tail _ (.tail _ (.tail _ hp))))))))) | exact fun p hp => .tail _ (.tail _ (.tail _ (.tail _ (.tail _ (.tail _ (.tail _ (.tail _ (.tail _ (.tail _ (.tail _ hp)))))))))) | exact fun p hp => .tail _ (.tail _ (.tail _ (.tail _ (.tail _ (.tail _ (.tail _ (.tail _ (.tail _ (.tail _ (.tail _ (.tail _ hp))))))))))) | exact fun p hp => .tail _ (.tail _ (.tail _ (.tail _ (.tail _ (.tail _ (.tail _ (.tail _ (.tail _ (.tail _ (.tail _ (.tail _ (.tail _ hp)))))))))))) | exact fun p hp => .tail _ (.tail _ (.tail _ (.tail _ (.tail _ (.tail _ (.tail _ (.tail _ (.tail _ (.tail _ (.tail _ (.tail _ (.tail _ (.tail _ hp))))))))))))) | exact fun p hp => .tail _ (.tail _ (.tail _ (.tail _ (.tail _ (.tail _ (.tail _ (.tail _ (.tail _ (.tail _ (.tail _ (.tail _ (.tail _ (.tail _ (.tail _ hp))))))))))))))) (by assumption) (by first | rfl | assumption))
    · exact ⟨by omega, by omega, by omega⟩
    · exact ⟨_, _, rfl, by omega, by omega, by omega, by omega⟩
  · exfalso
    obtain ⟨i, k, hi, hk, e⟩ := crt260 d j (by omega) (by omega) hj0 (by assumption)
    exact unmet_of (by assumption) (by assumption) i k hi hk e
  · refine note_new (clean := true) (made := [_, _, _]) rfl x (by assumption) (by assumption) (by assumption) (by (repeat (first | exact Plain.nil | refine Plain.seq rfl ?_ | refine Plain.set (by assumption) ?_ | refine Plain.cell (by assumption) ?_))) rfl (by intro z; cases z) (Heap.NewExc.of (by assumption)) (newExc_h0 (by assumption)) fun h2 c2 => ?_
    refine c2.land fun h3 c3 => ?_
    refine clause_hit_as2 rfl c3 ?hx rfl (by decide) rfl rfl rfl ?hexc ?hnt ?hsub rfl fun h4 tk4 c4 => ?_
    case hx => k_is
    case hexc => exact excR_ValueError.isExc
    case hnt => exact nt_ValueError
    case hsub => exact sub_VV
    obtain ⟨mu4, M4, F4, N4⟩ := c4.facts
    obtain ⟨cl4, o4, vs4, z4⟩ := c4.clean
    refine wpAny_execs_cons (RaiseFrom_held (e := _) excR_ValueError excR_ValueError rfl ?_)
    k_steps
    have hm : tstr j = Str.ofString "Pop" := by
      have hj : j = 20 := by assumption
      rw [hj]; rfl
    rw [hm]
    refine fmt_tz fun T5 t5 k5 => ?_
    k_steps
    rename_i h7 e7 nx7
    have F5 := Fr.keptAll F4 nx7.keeps
    have N5 : News (solid (fsOf envs) s.heap) L' h7 mu4 := fun p hp => ⟨nx7.keeps _ _ (N4 p (List.mem_append_right _ hp)).1, (N4 p (List.mem_append_right _ hp)).2⟩
    refine ⟨_, _, rfl, nx7, cl4, ⟨_, _, z4⟩, ?_⟩
    dsimp only
    k_steps
    refine ⟨rfl, rfl, fun h8 nx8 => ?_⟩
    refine suite_out2 (made := [_, _, _]) rfl rfl x F4 N4 M4 (by (repeat (first | exact Plain.nil | refine Plain.seq rfl ?_ | refine Plain.set (by assumption) ?_ | refine Plain.cell (by assumption) ?_))) rfl rfl nx8 (by assumption) (by assumption) fun s9 fl9 => hE2 _ _ fl9 ⟨by omega, by omega, by assumption⟩
end
end Mine
namespace Mine
open PySem PySem.W PySem.Calls PySem.Spec PyProof.Rows
local macro_rules | `(tactic| walk_at "eval Constant float") => `(tactic| (k_dflt (refine' constHI (by first | exact isH_half | assumption) ?_); intro z' hz'))
local macro_rules | `(tactic| walk_at "binaryOp Add float int") => `(tactic| (k_dflt (refine' addHI (by assumption) (by omega) (by omega) ?_); intro z' hz'))
local macro_rules | `(tactic| walk_at "binaryOp Add int float") => `(tactic| (k_dflt (refine' addIH (by assumption) (by omega) (by omega) ?_); intro z' hz'))
local macro_rules | `(tactic| walk_at "binaryOp Sub float float") => `(tactic| (k_dflt (refine' subHH (by assumption) (by assumption) (by omega) ?_); intro z' hz'))
local macro_rules | `(tactic| walk_at "binaryOp Mod float int") => `(tactic| (k_dflt (refine' modHI' (by assumption) (by omega) (by omega) (by omega) (by omega) ?_); intro z' hz'))
local macro_rules | `(tactic| walk_at "binaryOp Div float int") => `(tactic| (k_dflt (refine' divHI20' (by assumption) (by omega) (by omega) (by omega) ?_); intro z' hz'))
local macro_rules | `(tactic| walk_at "call builtin:math.trunc") => `(tactic| (k_dflt first | (refine' truncH (by assumption) (by omega) rfl ?_) | (refine' truncQ (by assumption) rfl ?_)))
local macro_rules | `(tactic| walk_at "call type:int") => `(tactic| ((with_reducible show wpAny _ _ (call _ [Value.float _ _]) _ _ _); k_dflt (refine' intH (by assumption) (by omega) ?_)))
local macro_rules | `(tactic| walk_at "compareOp Eq float float") => `(tactic| (k_dflt (refine' eqHH (by assumption) (by assumption) ?_)))
local macro_rules | `(tactic| walk_at "compareOp NotEq float float") => `(tactic| (k_dflt (refine' neHH (by assumption) (by assumption) ?_)))
local macro_rules | `(tactic| walk_at "compareOp Lt float float") => `(tactic| (k_dflt (refine' ltHH (by assumption) (by assumption) ?_)))
local macro_rules | `(tactic| walk_at "subscriptTail") => `(tactic| ((with_reducible show wpAny _ _ (subscriptTail _ _ (Value.ref _) (Value.int _ _)) _ _ _); k_dflt (first
  | refine' item50 (by assumption) (by assumption) (by omega) (by omega) ?_ (by with_unfolding_all rfl)
  | refine' item51 (by assumption) (by assumption) (by omega) (by omega) ?_ (by with_unfolding_all rfl)
  | refine' item101 (by assumption) (by assumption) (by omega) (by omega) ?_ (by with_unfolding_all rfl)
  | refine' item102 (by assumption) (by assumption) (by omega) (by omega) ?_ (by with_unfolding_all rfl)); intro t'))
local macro_rules | `(tactic| walk_at "getMethod ref") => `(tactic| ((with_reducible show wpAny _ _ (getMethod (Value.ref _) (Str.ofString "index") _) _ _ _); k_dflt (first | refine' getIndex50 (by assumption) (by assumption) ?_ | refine' getIndex51 (by assumption) (by assumption) ?_)))
local macro_rules | `(tactic| walk_at "call builtin:list.index") => `(tactic| (k_dflt (first | refine' idx50 (by assumption) (by assumption) (by omega) (by omega) rfl ?_ ?_ | refine' idx51 (by assumption) (by assumption) (by omega) (by omega) rfl ?_ ?_); (first | (intro hj' h' tk' e' hx') | (intro hj'))))
local macro_rules | `(tactic| walk_at "exec Raise some none") => `(tactic| refine Raise_new rfl ?_)
local macro_rules | `(tactic| walk_at "callWith ref") => `(tactic| ((with_reducible show wpAny _ _ (callWith _ (Value.ref _) _ (backTo _ (starEach [Expr.Starred _ _] _)) []) _ _ _); k_dflt first | (refine' callWith_S ?k1 ?k2 ?_; (case k1 => assumption); (case k2 => k_is))))
local macro_rules | `(tactic| walk_at "StarOf ref") => `(tactic| (k_dflt first | (refine' star_tup ?gF ?gN ?gt ?gz ?_; (case gF => assumption); (case gN => assumption); (case gt => first | assumption | exact Fr.keep (by assumption) _ _ (by assumption)); (case gz => exact Nat.le_of_ble_eq_true rfl); (intro h' hk' F' N'); (refine ⟨in_fr (by assumption) (by assumption), ?_⟩); (try dsimp only [List.nil_append, List.cons_append]))))
local macro_rules | `(tactic| walk_at "call type:IndexError") => `(tactic| (k_dflt (refine call_exc1 excClass_IndexError ?_); intro h7' e7' nx7'))
local macro_rules | `(tactic| walk_at "exec Try") => `(tactic| ((with_reducible show wpAny _ _ (exec (Stmt.Try _ (_ :: _) _ [] _) _) _ _ _); refine wpAny_Try_except ?_))
local macro_rules | `(tactic| walk_at "storeName") => `(tactic| (k_dflt (refine' storeL_in ?gF ?gN ?ghe ?gk ?gx ?_; (case gF => assumption); (case gN => assumption); (case ghe => rfl); (case gk => rfl); (case gx => rfl); (intro h' F' N'))))
local macro_rules | `(tactic| walk_at "storeName") => `(tactic| ((with_reducible show wpAny _ _ (storeName _ (Str.ofString "haab_days") _) _ _ _); k_dflt (refine' storeC_in ?gF ?gN ?gM ?ghe ?gc ?gsp ?gd ?g1 ?g2 ?gk ?gx ?_; (case gF => assumption); (case gN => assumption); (case gM => assumption); (case ghe => rfl); (case gc => rfl); (case gsp => (first | exact (rfl : _ = [] ++ (_, _) :: ([] ++ _)) | exact (rfl : _ = [] ++ (_, _) :: ([_] ++ _)) | exact (rfl : _ = [] ++ (_, _) :: ([_, _] ++ _)) | exact (rfl : _ = [] ++ (_, _) :: ([_, _, _] ++ _)) | exact (rfl : _ = [] ++ (_, _) :: ([_, _, _, _] ++ _)) | exact (rfl : _ = [_] ++ (_, _) :: ([] ++ _)) | exact (rfl : _ = [_] ++ (_, _) :: ([_] ++ _)) | exact (rfl : _ = [_] ++ (_, _) :: ([_, _] ++ _)) | exact (rfl : _ = [_] ++ (_, _) :: ([_, _, _] ++ _)) | exact (rfl : _ = [_] ++ (_, _) :: ([_, _, _, _] ++ _)) | exact (rfl : _ = [_, _] ++ (_, _) :: ([] ++ _)) | exact (rfl : _ = [_, _] ++ (_, _) :: ([_] ++ _)) | exact (rfl : _ = [_, _] ++ (_, _) :: ([_, _] ++ _)) | exact (rfl : _ = [_, _] ++ (_, _) :: ([_, _, _] ++ _)) | exact (rfl : _ = [_, _] ++ (_, _) :: ([_, _, _, _] ++ _)) | exact (rfl : _ = [_, _, _] ++ (_, _) :: ([] ++ _)) | exact (rfl : _ = [_, _, _] ++ (_, _) :: ([_] ++ _)) | exact (rfl : _ = [_, _, _] ++ (_, _) :: ([_, _] ++ _)) | exact (rfl : _ = [_, _, _] ++ (_, _) :: ([_, _, _] ++ _)) | exact (rfl : _ = [_, _, _] ++ (_, _) :: ([_, _, _, _] ++ _)) | exact (rfl : _ = [_, _, _, _] ++ (_, _) :: ([] ++ _)) | exact (rfl : _ = [_, _, _, _] ++ (_, _) :: ([_] ++ _)) | exact (rfl : _ = [_, _, _, _] ++ (_, _) :: ([_, _] ++ _)) | exact (rfl : _ = [_, _, _, _] ++ (_, _) :: ([_, _, _] ++ _)) | exact (rfl : _ = [_, _, _, _] ++ (_, _) :: ([_, _, _, _] ++ _)))); (case gd => assumption); (case g1 => (repeat (first | exact Apart.nil | refine Apart.set (by assumption) ?_ | refine Apart.other (by first | exact Nat.ne_of_lt (by omega) | exact Nat.ne_of_gt (by omega) | simp) ?_))); (case g2 => (repeat (first | exact Apart.nil | refine Apart.set (by assumption) ?_ | refine Apart.other (by first | exact Nat.ne_of_lt (by omega) | exact Nat.ne_of_gt (by omega) | simp) ?_))); (case gk => rfl); (case gx => rfl); (intro h' o' F' N' dc'); (simp only [List.nil_append, List.cons_append] at N'))))
local macro_rules | `(tactic| walk_at "storeName") => `(tactic| (k_dflt (refine' storeL_in ?gF ?gN ?ghe ?gk ?gx ?_; (case gF => assumption); (case gN => assumption); (case ghe => rfl); (case gk => rfl); (case gx => rfl); (intro h' F' N'))))
local macro_rules | `(tactic| walk_at "storeName") => `(tactic| ((with_reducible show wpAny _ _ (storeName _ (Str.ofString "tzolkin_days") _) _ _ _); k_dflt (refine' storeC_in ?gF ?gN ?gM ?ghe ?gc ?gsp ?gd ?g1 ?g2 ?gk ?gx ?_; (case gF => assumption); (case gN => assumption); (case gM => assumption); (case ghe => rfl); (case gc => rfl); (case gsp => (first | exact (rfl : _ = [] ++ (_, _) :: ([] ++ _)) | exact (rfl : _ = [] ++ (_, _) :: ([_] ++ _)) | exact (rfl : _ = [] ++ (_, _) :: ([_, _] ++ _)) | exact (rfl : _ = [] ++ (_, _) :: ([_, _, _] ++ _)) | exact (rfl : _ = [] ++ (_, _) :: ([_, _, _, _] ++ _)) | exact (rfl : _ = [_] ++ (_, _) :: ([] ++ _)) | exact (rfl : _ = [_] ++ (_, _) :: ([_] ++ _)) | exact (rfl : _ = [_] ++ (_, _) :: ([_, _] ++ _)) | exact (rfl : _ = [_] ++ (_, _) :: ([_, _, _] ++ _)) | exact (rfl : _ = [_] ++ (_, _) :: ([_, _, _, _] ++ _)) | exact (rfl : _ = [_, _] ++ (_, _) :: ([] ++ _)) | exact (rfl : _ = [_, _] ++ (_, _) :: ([_] ++ _)) | exact (rfl : _ = [_, _] ++ (_, _) :: ([_, _] ++ _)) | exact (rfl : _ = [_, _] ++ (_, _) :: ([_, _, _] ++ _)) | exact (rfl : _ = [_, _] ++ (_, _) :: ([_, _, _, _] ++ _)) | exact (rfl : _ = [_, _, _] ++ (_, _) :: ([] ++ _)) | exact (rfl : _ = [_, _, _] ++ (_, _) :: ([_] ++ _)) | exact (rfl : _ = [_, _, _] ++ (_, _) :: ([_, _] ++ _)) | exact (rfl : _ = [_, _, _] ++ (_, _) :: ([_, _, _] ++ _)) | exact (rfl : _ = [_, _, _] ++ (_, _) :: ([_, _, _, _] ++ _)) | exact (rfl : _ = [_, _, _, _] ++ (_, _) :: ([] ++ _)) | exact (rfl : _ = [_, _, _, _] ++ (_, _) :: ([_] ++ _)) | exact (rfl : _ = [_, _, _, _] ++ (_, _) :: ([_, _] ++ _)) | exact (rfl : _ = [_, _, _, _] ++ (_, _) :: ([_, _, _] ++ _)) | exact (rfl : _ = [_, _, _, _] ++ (_, _) :: ([_, _, _, _] ++ _)))); (case gd => assumption); (case g1 => (repeat (first | exact Apart.nil | refine Apart.set (by assumption) ?_ | refine Apart.other (by first | exact Nat.ne_of_lt (by omega) | exact Nat.ne_of_gt (by omega) | simp) ?_))); (case g2 => (repeat (first | exact Apart.nil | refine Apart.set (by assumption) ?_ | refine Apart.other (by first | exact Nat.ne_of_lt (by omega) | exact Nat.ne_of_gt (by omega) | simp) ?_))); (case gk => rfl); (case gx => rfl); (intro h' o' F' N' dc'); (simp only [List.nil_append, List.cons_append] at N'))))
local macro_rules | `(tactic| walk_at "eval GeneratorExp") => `(tactic| (k_dflt (refine' gen_in (c := 99) (P := 95) (.inr ⟨rfl, rfl⟩) ?gX ?gF ?gN ?gM ?gsp ?ghe ?gcode ?grng ?gk ?gxk ?gpl ?gmem ?ghoc ?gvv ?grg ?gcl ?gco ?gclos ?gsc ?g0 ?gx ?gy ?gkd ?gdx ?gdy ?gdc ?_; (case gX => assumption); (case gF => assumption); (case gN => assumption); (case gM => assumption); (case gsp => (first | exact (rfl : _ = [] ++ _) | exact (rfl : _ = [_] ++ _) | exact (rfl : _ = [_, _] ++ _) | exact (rfl : _ = [_, _, _] ++ _) | exact (rfl : _ = [_, _, _, _] ++ _) | exact (rfl : _ = [_, _, _, _, _] ++ _) | exact (rfl : _ = [_, _, _, _, _, _] ++ _) | exact (rfl : _ = [_, _, _, _, _, _, _] ++ _) | exact (rfl : _ = [_, _, _, _, _, _, _, _] ++ _) | exact (rfl : _ = [_, _, _, _, _, _, _, _, _] ++ _) | exact (rfl : _ = [_, _, _, _, _, _, _, _, _, _] ++ _) | exact (rfl : _ = [_, _, _, _, _, _, _, _, _, _, _] ++ _))); (case ghe => rfl); (case gcode => rfl); (case grng => k_is); (case gk => rfl); (case gxk => rfl); (case grg => first | exact rg1 | exact rg2 | exact rg3 | exact rg4); (case gclos => with_unfolding_all rfl); (case gcl => with_unfolding_all rfl); (case gmem => (first | exact .head _ | exact .tail _ (.head _) | exact .tail _ (.tail _ (.head _)) | exact .tail _ (.tail _ (.tail _ (.head _))) | exact .tail _ (.tail _ (.tail _ (.tail _ (.head _)))) | exact .tail _ (.tail _ (.tail _ (.tail _ (.tail _ (.head _))))))); (case ghoc => assumption); (case gvv => with_unfolding_all rfl); (case gpl => (repeat (first | exact Plain.nil | refine Plain.seq rfl ?_ | refine Plain.set (by assumption) ?_ | refine Plain.cell (by assumption) ?_))); (case gco => rfl); (case gsc => decide); (case g0 => rfl); (case gx => rfl); (case gy => rfl); (case gkd => rfl); (case gdx => rfl); (case gdy => rfl); (case gdc => rfl); (intro a' s' G'))))
local macro_rules | `(tactic| walk_at "call type:set cons nil") => `(tactic| (k_dflt (refine' set_in (c := 99) (P := 95) (.inr ⟨rfl, rfl⟩) ?gX ?gF ?gN ?gM ?gsp ?spl ?sbare ?sos ?sG ?ssz ?_; (case gX => assumption); (case sG => assumption); (case gF => assumption); (case gN => assumption); (case gM => assumption); (case gsp => (first | exact (rfl : _ = [] ++ _) | exact (rfl : _ = [_] ++ _) | exact (rfl : _ = [_, _] ++ _) | exact (rfl : _ = [_, _, _] ++ _) | exact (rfl : _ = [_, _, _, _] ++ _) | exact (rfl : _ = [_, _, _, _, _] ++ _) | exact (rfl : _ = [_, _, _, _, _, _] ++ _) | exact (rfl : _ = [_, _, _, _, _, _, _] ++ _) | exact (rfl : _ = [_, _, _, _, _, _, _, _] ++ _) | exact (rfl : _ = [_, _, _, _, _, _, _, _, _] ++ _) | exact (rfl : _ = [_, _, _, _, _, _, _, _, _, _] ++ _) | exact (rfl : _ = [_, _, _, _, _, _, _, _, _, _, _] ++ _))); (case spl => (repeat (first | exact Plain.nil | refine Plain.seq rfl ?_ | refine Plain.set (by assumption) ?_ | refine Plain.cell (by assumption) ?_))); (case sbare => assumption); (case sos => first | rfl | assumption); (case ssz => decide); (intro sa' so' s' mu' M' F' N' hs' hd' hb' ho' hlt'); (obtain ⟨_, _, _, hd'⟩ := hd'); (try simp only [List.nil_append, List.cons_append] at N'))))
local macro_rules | `(tactic| walk_at "getMethod ref") => `(tactic| ((with_reducible show wpAny _ _ (getMethod (Value.ref _) (Str.ofString "intersection") _) _ _ _); k_dflt first | (refine' getInterIn ?mN ?mm ?ms ?mb ?_; (case mN => assumption); (case mm => (first | exact .head _ | exact .tail _ (.head _) | exact .tail _ (.tail _ (.head _)) | exact .tail _ (.tail _ (.tail _ (.head _))) | exact .tail _ (.tail _ (.tail _ (.tail _ (.head _)))) | exact .tail _ (.tail _ (.tail _ (.tail _ (.tail _ (.head _))))))); (case ms => assumption); (case mb => exact Nat.lt_of_le_of_lt (firstMet_length_le _ _) (by decide)))))
local macro_rules | `(tactic| walk_at "getMethod ref") => `(tactic| ((with_reducible show wpAny _ _ (getMethod (Value.ref _) (Str.ofString "pop") _) _ _ _); k_dflt first | (refine' getPopIn ?mN ?mm ?ms ?mb ?_; (case mN => assumption); (case mm => (first | exact .head _ | exact .tail _ (.head _) | exact .tail _ (.tail _ (.head _)) | exact .tail _ (.tail _ (.tail _ (.head _))) | exact .tail _ (.tail _ (.tail _ (.tail _ (.head _)))) | exact .tail _ (.tail _ (.tail _ (.tail _ (.tail _ (.head _))))))); (case ms => assumption); (case mb => assumption))))
local macro_rules | `(tactic| walk_at "call builtin:set.intersection") => `(tactic| (k_dflt first | (refine' inter_in ?gF ?gN ?ma ?mb ?sa ?sb ?na ?nb ?ne ?_; (case gF => assumption); (case gN => assumption); (case ma => (first | exact .head _ | exact .tail _ (.head _) | exact .tail _ (.tail _ (.head _)) | exact .tail _ (.tail _ (.tail _ (.head _))) | exact .tail _ (.tail _ (.tail _ (.tail _ (.head _)))) | exact .tail _ (.tail _ (.tail _ (.tail _ (.tail _ (.head _))))))); (case mb => (first | exact .head _ | exact .tail _ (.head _) | exact .tail _ (.tail _ (.head _)) | exact .tail _ (.tail _ (.tail _ (.head _))) | exact .tail _ (.tail _ (.tail _ (.tail _ (.head _)))) | exact .tail _ (.tail _ (.tail _ (.tail _ (.tail _ (.head _))))))); (case sa => assumption); (case sb => assumption); (case na => exact met_small (by decide)); (case nb => exact met_small (by decide)); (case ne => first | exact Nat.ne_of_lt (lt_of_all (by assumption) (by (first | exact .head _ | exact .tail _ (.head _) | exact .tail _ (.tail _ (.head _)) | exact .tail _ (.tail _ (.tail _ (.head _))) | exact .tail _ (.tail _ (.tail _ (.tail _ (.head _)))) | exact .tail _ (.tail _ (.tail _ (.tail _ (.tail _ (.head _)))))))) | exact Nat.ne_of_gt (lt_of_all (by assumption) (by (first | exact .head _ | exact .tail _ (.head _) | exact .tail _ (.tail _ (.head _)) | exact .tail _ (.tail _ (.tail _ (.head _))) | exact .tail _ (.tail _ (.tail _ (.tail _ (.head _)))) | exact .tail _ (.tail _ (.tail _ (.tail _ (.tail _ (.head _))))))))); (intro ra' ro' sig' s' nd' iff' F' N' hs' hd' hne' hgg' ho' hsm'); (obtain ⟨_, _, _, hd'⟩ := hd'); (have hb9' := bare_eq hgg' (by assumption)); (have ho9' := Eq.trans ho' (by first | assumption | rfl)))))
local macro_rules | `(tactic| walk_at "call builtin:set.pop") => `(tactic| (k_dflt first | (refine' pop_in ?gF ?gN ?gs ?gne ?gnd ?huni rfl ?_ ?_; (case gF => assumption); (case gN => assumption); (case gs => assumption); (case gne => assumption); (case gnd => assumption); (case huni => (refine uni_of (by assumption) ?_; intro i i2 j j2 h1 h2 h3 h4 h5 h6; (try dsimp only at h5 h6 ⊢); omega)); (first | ((intro kk' tt' s' hmem' F' N' hgg' ho'); (obtain ⟨⟨i9', hi9', ev9'⟩, ⟨j9', hj9', ej9'⟩⟩ := met_of (by assumption) hmem'); (try dsimp only at ev9' ej9'); (try simp only [Int.fmod_eq_emod_of_nonneg _ (show (0:Int) ≤ 365 by decide), Int.fmod_eq_emod_of_nonneg _ (show (0:Int) ≤ 260 by decide)] at ev9' ej9'); (have hb9' := bare_eq hgg' (by assumption)); (have ho9' := Eq.trans ho' (by assumption))) | (intro hno' h' tk' e' nx')))))
local macro_rules | `(tactic| walk_at "call ref") => `(tactic| ((with_reducible show wpAny _ _ (call (Value.ref 58) _) _ _ _); k_dflt first | (refine' useE ?gX ?gF ?gN ?gM ?gsp ?gpl rfl ?gkd ?gb ?go (fun x' k' lift' => to_haab_spec x' _ _ _ (by assumption) (by omega) (by omega) k') ?_; (case gX => assumption); (case gF => assumption); (case gN => assumption); (case gM => assumption); (case gkd => (intro e; cases e)); (case gsp => (first | exact (rfl : _ = [] ++ _) | exact (rfl : _ = [_] ++ _) | exact (rfl : _ = [_, _] ++ _) | exact (rfl : _ = [_, _, _] ++ _) | exact (rfl : _ = [_, _, _, _] ++ _) | exact (rfl : _ = [_, _, _, _, _] ++ _) | exact (rfl : _ = [_, _, _, _, _, _] ++ _) | exact (rfl : _ = [_, _, _, _, _, _, _] ++ _) | exact (rfl : _ = [_, _, _, _, _, _, _, _] ++ _) | exact (rfl : _ = [_, _, _, _, _, _, _, _, _] ++ _) | exact (rfl : _ = [_, _, _, _, _, _, _, _, _, _] ++ _) | exact (rfl : _ = [_, _, _, _, _, _, _, _, _, _, _] ++ _))); (case gpl => (repeat (first | exact Plain.nil | refine Plain.seq rfl ?_ | refine Plain.set (by assumption) ?_ | refine Plain.cell (by assumption) ?_))); (case gb => assumption); (case go => first | rfl | assumption); skip; (intro v' s' mu' M' F' N' hb' ho' P'); (try simp only [List.nil_append, List.cons_append] at N'); (obtain ⟨a', t1', t2', e', g'⟩ := P'; subst e'))))
local macro_rules | `(tactic| walk_at "call ref") => `(tactic| ((with_reducible show wpAny _ _ (call (Value.ref 65) _) _ _ _); k_dflt first | (refine' useE ?gX ?gF ?gN ?gM ?gsp ?gpl rfl ?gkd ?gb ?go (fun x' k' lift' => to_tzolkin_spec x' _ _ _ (by assumption) (by omega) (by omega) k') ?_; (case gX => assumption); (case gF => assumption); (case gN => assumption); (case gM => assumption); (case gkd => (intro e; cases e)); (case gsp => (first | exact (rfl : _ = [] ++ _) | exact (rfl : _ = [_] ++ _) | exact (rfl : _ = [_, _] ++ _) | exact (rfl : _ = [_, _, _] ++ _) | exact (rfl : _ = [_, _, _, _] ++ _) | exact (rfl : _ = [_, _, _, _, _] ++ _) | exact (rfl : _ = [_, _, _, _, _, _] ++ _) | exact (rfl : _ = [_, _, _, _, _, _, _] ++ _) | exact (rfl : _ = [_, _, _, _, _, _, _, _] ++ _) | exact (rfl : _ = [_, _, _, _, _, _, _, _, _] ++ _) | exact (rfl : _ = [_, _, _, _, _, _, _, _, _, _] ++ _) | exact (rfl : _ = [_, _, _, _, _, _, _, _, _, _, _] ++ _))); (case gpl => (repeat (first | exact Plain.nil | refine Plain.seq rfl ?_ | refine Plain.set (by assumption) ?_ | refine Plain.cell (by assumption) ?_))); (case gb => assumption); (case go => first | rfl | assumption); skip; (intro v' s' mu' M' F' N' hb' ho' P'); (try simp only [List.nil_append, List.cons_append] at N'); (obtain ⟨a', t1', t2', e', g'⟩ := P'; subst e'))))
local macro_rules | `(tactic| walk_at "call ref") => `(tactic| ((with_reducible show wpAny _ _ (call (Value.ref 72) _) _ _ _); k_dflt first | (refine' useE ?gX ?gF ?gN ?gM ?gsp ?gpl rfl ?gkd ?gb ?go (fun x' k' lift' => haab_count_spec x' _ _ _ _ ?a1 ?a2 (fun v s' a b => k' v s' a b) ?q1 ?q2) ?_; (case gX => assumption); (case gF => assumption); (case gN => assumption); (case gM => assumption); (case gkd => (intro e; cases e)); (case gsp => (first | exact (rfl : _ = [] ++ _) | exact (rfl : _ = [_] ++ _) | exact (rfl : _ = [_, _] ++ _) | exact (rfl : _ = [_, _, _] ++ _) | exact (rfl : _ = [_, _, _, _] ++ _) | exact (rfl : _ = [_, _, _, _, _] ++ _) | exact (rfl : _ = [_, _, _, _, _, _] ++ _) | exact (rfl : _ = [_, _, _, _, _, _, _] ++ _) | exact (rfl : _ = [_, _, _, _, _, _, _, _] ++ _) | exact (rfl : _ = [_, _, _, _, _, _, _, _, _] ++ _) | exact (rfl : _ = [_, _, _, _, _, _, _, _, _, _] ++ _) | exact (rfl : _ = [_, _, _, _, _, _, _, _, _, _, _] ++ _))); (case gpl => (repeat (first | exact Plain.nil | refine Plain.seq rfl ?_ | refine Plain.set (by assumption) ?_ | refine Plain.cell (by assumption) ?_))); (case gb => assumption); (case go => first | rfl | assumption); (case a1 => omega); (case a2 => omega); (case q1 => (intro e s' fl c; first | (exfalso; omega) | (refine lift' _ e s' fl fun s'' fl'' => ?_; refine by_law (by assumption) fl'' ?_; exact c.elim (fun q => .inl q) (fun q => .inr (.inl q))))); (case q2 => (intro e s' fl c; first | (exfalso; omega) | (refine lift' _ e s' fl fun s'' fl'' => ?_; refine by_law (by assumption) fl'' ?_; omega))); (intro v' s' mu' M' F' N' hb' ho' P'); (try simp only [List.nil_append, List.cons_append] at N'); (obtain ⟨c1', c2', c3', t', e'⟩ := P'; subst e'))))
local macro_rules | `(tactic| walk_at "call ref") => `(tactic| ((with_reducible show wpAny _ _ (call (Value.ref 79) _) _ _ _); k_dflt first | (refine' useE ?gX ?gF ?gN ?gM ?gsp ?gpl rfl ?gkd ?gb ?go (fun x' k' lift' => tz_count_spec x' _ _ _ _ ?a1 ?a2 (fun v s' a b c => k' v s' a (And.intro b c)) ?q1 ?q2) ?_; (case gX => assumption); (case gF => assumption); (case gN => assumption); (case gM => assumption); (case gkd => (intro e; cases e)); (case gsp => (first | exact (rfl : _ = [] ++ _) | exact (rfl : _ = [_] ++ _) | exact (rfl : _ = [_, _] ++ _) | exact (rfl : _ = [_, _, _] ++ _) | exact (rfl : _ = [_, _, _, _] ++ _) | exact (rfl : _ = [_, _, _, _, _] ++ _) | exact (rfl : _ = [_, _, _, _, _, _] ++ _) | exact (rfl : _ = [_, _, _, _, _, _, _] ++ _) | exact (rfl : _ = [_, _, _, _, _, _, _, _] ++ _) | exact (rfl : _ = [_, _, _, _, _, _, _, _, _] ++ _) | exact (rfl : _ = [_, _, _, _, _, _, _, _, _, _] ++ _) | exact (rfl : _ = [_, _, _, _, _, _, _, _, _, _, _] ++ _))); (case gpl => (repeat (first | exact Plain.nil | refine Plain.seq rfl ?_ | refine Plain.set (by assumption) ?_ | refine Plain.cell (by assumption) ?_))); (case gb => assumption); (case go => first | rfl | assumption); (case a1 => omega); (case a2 => omega); (case q1 => (intro e s' fl c; first | (exfalso; omega) | (refine lift' _ e s' fl fun s'' fl'' => ?_; refine by_law (by assumption) fl'' ?_; exact c.elim (fun q => .inr (.inr (.inl q))) (fun q => .inr (.inr (.inr (.inl q))))))); (case q2 => (intro e s' fl c; first | (exfalso; omega) | (refine lift' _ e s' fl fun s'' fl'' => ?_; refine by_law (by assumption) fl'' ?_; omega))); (intro v' s' mu' M' F' N' hb' ho' P'); (try simp only [List.nil_append, List.cons_append] at N'); (obtain ⟨⟨d1', d2', d3'⟩, c', t', e', e1', e2', e3', e4'⟩ := P'; subst e'))))
/-- both wheels meet x days on -/
def Meets (N wn wi e m x : Int) : Prop := (x + N + 348 - (20 * m + e)) % 365 = 0 ∧ (x + N + 4 - wn) % 13 = 0 ∧ (x + N + 19 - wi) % 20 = 0
theorem val_law {N wn wi e m k : Int} {z' : UInt64} {t : Tok} (h : IsH z' (2 * k + (2 * N + 1168565))) (h0 : 0 ≤ k) (h1 : k < 18980) (hm : Meets N wn wi e m k) :
    ∃ y z'' t', Value.float z' t = .float z'' t' ∧ IsH z'' (2 * (N + y) + 1168565) ∧ 0 ≤ y ∧ y < 18980 ∧ Meets N wn wi e m y :=
  ⟨k, z', t, rfl, (show 2 * k + (2 * N + 1168565) = 2 * (N + k) + 1168565 from by omega) ▸ h, h0, h1, hm⟩
theorem no_meet {a b : Int} (h : ∀ i j : Nat, i < 73 → j < 52 → 0 + (i : Int) * 260 + b ≠ 0 + (j : Int) * 365 + a) (a0 : 0 ≤ a) (a1 : a < 365) (b0 : 0 ≤ b) (b1 : b < 260) {y : Int} (h0 : 0 ≤ y) (h1 : y < 18980) (e1 : (y - a) % 365 = 0) (e2 : (y - b) % 260 = 0) : False := by
  refine h ((y - b) / 260).toNat ((y - a) / 365).toNat (by omega) (by omega) (by omega)
theorem mod365 (a : Int) : 0 ≤ a.fmod 365 ∧ a.fmod 365 < 365 ∧ a.fmod 365 = a % 365 := by rw [Int.fmod_eq_emod_of_nonneg _ (by decide)]; omega
theorem mod260 (a : Int) : 0 ≤ a.fmod 260 ∧ a.fmod 260 < 260 ∧ a.fmod 260 = a % 260 := by rw [Int.fmod_eq_emod_of_nonneg _ (by decide)]; omega
section
variable {w : World} {mg mb : Str → Option Value} {ob : Obj} {dp un n : Nat} {gd : Option (List Code)} {envs : List Env} {s : Shared} {Q E : Value → Shared → Prop}
set_option maxHeartbeats 40000000 in
theorem nth_spec (x : Sit w mg mb ob dp un envs (n + 3) s) (aT aH : Addr) (t1 t2 t3 t4 t5 : Tok) (wn wi e m N : Int) (z : UInt64) (hz : IsH z (2 * N + 1168565)) (hN1 : -2000 ≤ N) (hN2 : N < 1000100000)
    (hi0 : 0 ≤ wi) (hi1 : wi < 21) (hm0 : 0 ≤ m) (hm1 : m < 20)
    (hT : (solid (fsOf envs) s.heap).get? aT = some (tupO [.int wn t1, .str (tstr wi) t2])) (hH : (solid (fsOf envs) s.heap).get? aH = some (tupO [.int e t3, .str (mstr m) t4]))
    (hQ : ∀ v s', Aft w mg mb ob envs s s' → 0 ≤ e ∧ e ≤ 19 ∧ m ≤ 18 ∧ 1 ≤ wn ∧ wn ≤ 13 ∧ wi ≤ 19 → (∃ y z' t, v = .float z' t ∧ IsH z' (2 * (N + y) + 1168565) ∧ 0 ≤ y ∧ y < 18980 ∧ Meets N wn wi e m y) → Q v s')
    (hI : ∀ ex s', Flies w mg mb ob envs "IndexError" ex s s' → (e < 0 ∨ 19 < e ∨ wn < 1 ∨ 13 < wn ∨ (m ≤ 18 ∧ wi ≤ 19 ∧ ∀ y, 0 ≤ y → y < 18980 → ¬ Meets N wn wi e m y)) → E (.ref ex) s')
    (hV : ∀ ex s', Flies w mg mb ob envs "ValueError" ex s s' → m = 19 ∨ wi = 20 → E (.ref ex) s') :
    wpAny (model PRG w) (aro dp un gd envs) (call (.ref 100) [.ref aT, .ref aH, .float z t5]) Q E s := by
  have hb0 := x.bare
  refine wpAny_call ?_
  k_dflt (refine' enterC x ?k6 ?k7 ?k9 ?kB ?kN ?_ ?c3 ?c4 ?c5; (case k6 => k_is); (case k7 => k_is); (case k9 => exact BindsTo.of_eq rfl); (case kB => exact rfl); (case kN => decide); (case c3 => exact rfl); (case c4 => exact rfl); (case c5 => exact rfl))
  intro L' h₁ tk₁ cells' mu F' N' CA' M X' T' hmu'
  try dsimp only
  k_fold
  k_cells CA'
  simp only [List.cons_append, List.nil_append] at N'
  k_steps
  · refine Back.mk (hQ _ _ ?_ ⟨by omega, by omega, by omega, by omega, by omega, by omega⟩ (val_law (by assumption) (by omega) (by omega) ⟨by omega, by omega, by omega⟩))
    exact (aft_out x (by assumption) (by assumption) (by assumption) (by first | exact fun p hp => hp | exact fun p hp => .tail _ hp | exact fun p hp => .tail _ (.tail _ hp) | exact fun p hp => .tail _ (.tail _ (.tail _ hp)) | exact fun p hp => .tail _ (.tail _ (.tail _ (.tail _ hp))) | exact fun p hp => .tail _ (.tail _ (.tail _ (.tail _ (.tail _ hp)))) | exact fun p hp => .tail _ (.tail _ (.tail _ (.tail _ (.tail _ (.tail _ hp))))) | exact fun p hp => .tail _ (.tail _ (.tail _ (.tail _ (.tail _ (.tail _ (.tail _ hp)))))) | exact fun p hp => .tail _ (.tail _ (.tail _ (.tail _ (.tail _ (.tail _ (.tail _ (.tail _ hp))))))) | exact fun p hp => .tail _ (.tail _ (.tail _ (.tail _ (.tail _ (.tail _ (.tail _ (.tail _ (.tail _ hp)))))))) | exact fun p hp => .tail _ (.tail _ (.tail _ (.tail _ (.tail _ (.tail _ (.tail _ (.tail _ (.tail _ (.tail _ hp))))))))) | exact fun p hp => .tail _ (.tail _ (.tail _ (.tail _ (.tail _ (.tail _ (.tail _ (.tail _ (.tail _ (.tail _ (.tail _ hp)))))))))) | exact fun p hp => .tail _ (.tail _ (.tail _ (.tail _ (.tail _ (.tail _ (.tail _ (.tail _ (.tail _ (.tail _ (.tail _ (.tail _ hp))))))))))) | exact fun p hp => .tail _ (.tail _ (.tail _ (.tail _ (.tail _ (.tail _ (.tail _ (.tail _ (.tail _ (.tail _ (.tail _ (.tail _ (.tail _ hp)))))))))))) | exact fun p hp => .tail _ (.tail _ (.tail _ (.tail _ (.tail _ (.tail _ (.tail _ (.tail _ (.tail _ (.tail _ (.tail _ (.tail _ (.tail _ (.tail _ hp))))))))))))) | exact fun p hp => .tail _ (.tail _ (.tail _ (.tail _ (.tail _ (.tail _ (.tail _ (.tail _ (.tail _ (.tail _ (.tail _ (.tail _ (.tail _ (.tail _ (.tail _ hp))))))))))))))) (by assumption) (by first | rfl | assumption))
  · refine note_new (clean := true) (made := [_, _, _, _, _]) rfl x (by assumption) (by assumption) (by assumption) (by (repeat (first | exact Plain.nil | refine Plain.seq rfl ?_ | refine Plain.set (by assumption) ?_ | refine Plain.cell (by assumption) ?_))) rfl (by intro z; cases z) (Heap.NewExc.of (by assumption)) (newExc_h0 (by assumption)) fun h2 c2 => ?_
    refine c2.land fun h3 c3 => ?_
    refine clause_hit2 rfl c3 ?hx rfl (by decide) rfl rfl rfl ?hexc ?hnt ?hsub passes_back fun h4 c4 => ?_
    case hx => k_is
    case hexc => exact excR_KeyError.isExc
    case hnt => exact nt_KeyError
    case hsub => exact sub_KK
    obtain ⟨mu4, M4, F4, N4⟩ := c4.facts
    obtain ⟨cl4, o4, vs4, z4⟩ := c4.clean
    refine wpAny_execs_cons (Raise_held (e := _) excR_IndexError rfl ?_)
    k_steps
    rename_i h7 e7 nx7
    refine ⟨_, _, rfl, nx7, cl4, fun h8 nx8 => ?_⟩
    refine Back.mk (leave_new x F4 N4 M4 (fun p hp => List.mem_append_right _ hp) rfl (by intro z; cases z) nx8.of nx8.h0 (by assumption) (by assumption) fun s9 fl9 => hI _ _ fl9 ?_)
    refine .inr (.inr (.inr (.inr ⟨by omega, by omega, fun y h0 h1 hm => ?_⟩)))
    obtain ⟨g1, g2, g3⟩ := hm
    refine no_meet (fun i j hi hj => unmet_of (by assumption) (by assumption) i j hi hj) (mod365 _).1 (mod365 _).2.1 (mod260 _).1 (mod260 _).2.1 h0 h1 ?_ ?_
    · rw [(mod365 _).2.2]; omega
    · rw [(mod260 _).2.2]; omega
end
end Mine
namespace Mine
open PySem PySem.W PySem.Calls PySem.Spec PyProof.Rows
local macro_rules | `(tactic| walk_at "exec") => `(tactic| ((with_reducible show wpAny _ _ (exec (Stmt.While _ _ [] _) _) _ _ _); refine Back.out ?_))
theorem while_J {prog : Program} {w : World} {A : Around} {E : Value → Shared → Prop} {Q : Flow → Shared → Prop} {s : Shared} {env : Env} {h₀ : Heap} {L : Addr} {test : Expr} {body : List Stmt} {pos : Pos} {m : Str → Option Value} {news : List (Addr × Obj)} (J : Nat → (Str → Option Value) → Prop) {n₀ : Nat}
    (F : Fr h₀ L s.heap m) (N : News h₀ L s.heap news) (hJ : J n₀ m)
    (turn : ∀ n m₁ h₁ tk₁, Fr h₀ L h₁ m₁ → News h₀ L h₁ news → J n m₁ →
      wpAny (model prog w) A (isTrue test env (eval test env)) (fun b s₂ =>
        if b = true then wpAny (model prog w) A (execs body env) (WhileStep h₀ L s (fun k m' news' => J k m' ∧ news' = news) n) (fun _ _ => False) s₂ else Q .next s₂) (fun _ _ => False) { s with heap := h₁, toks := tk₁ }) :
    wpAny (model prog w) A (exec (.While test body [] pos) env) Q E s := by
  refine wpAny_mono (While_inv (E := fun _ _ => False) (fun k m' news' => J k m' ∧ news' = news) F N ⟨hJ, rfl⟩ (fun n m₁ news₁ h₁ tk₁ F₁ N₁ J₁ => ?_) PassesOwn.never) (fun _ _ q => q) fun _ _ f => f.elim
  obtain ⟨j, rfl⟩ := J₁
  exact turn n m₁ h₁ tk₁ F₁ N₁ j
def mZ (g : Str → Option Value) (d num nm wn wi : Int) (t1 t2 t3 t4 t5 : Tok) : Str → Option Value := fun y =>
  if y = "days" then some (.int d t1) else if y = "number" then some (.int num t2) else if y = "name" then some (.int nm t3) else if y = "want_number" then some (.int wn t4) else if y = "want_name" then some (.int wi t5) else g y
def IsZ (m : Str → Option Value) (d num nm wn wi : Int) (t1 t2 t3 t4 t5 : Tok) : Prop :=
  m "days" = some (.int d t1) ∧ m "number" = some (.int num t2) ∧ m "name" = some (.int nm t3) ∧ m "want_number" = some (.int wn t4) ∧ m "want_name" = some (.int wi t5)
theorem fr_Z {g h : Heap} {L : Addr} {m : Str → Option Value} {d num nm wn wi : Int} {t1 t2 t3 t4 t5 : Tok} (z : IsZ m d num nm wn wi t1 t2 t3 t4 t5) (F : Fr g L h m) : Fr g L h (mZ m d num nm wn wi t1 t2 t3 t4 t5) := by
  have : mZ m d num nm wn wi t1 t2 t3 t4 t5 = m := by
    obtain ⟨a, b, c, e, f⟩ := z
    funext y
    unfold mZ
    split
    · next q => rw [q, a]
    · split
      · next q => rw [q, b]
      · split
        · next q => rw [q, c]
        · split
          · next q => rw [q, e]
          · split
            · next q => rw [q, f]
            · rfl
  rw [this]; exact F
def JA (num nm wn wi : Int) (k : Nat) (m : Str → Option Value) : Prop := ∃ d num' nm' t1 t2 t3 t4 t5, IsZ m d num' nm' wn wi t1 t2 t3 t4 t5 ∧ 0 ≤ d ∧ (d : Int) + k = (wi - nm) % 20 ∧ nm' = (nm + d) % 20 ∧ num' = (num - 1 + d) % 13 + 1
def JB (num nm wn wi : Int) (k : Nat) (m : Str → Option Value) : Prop := ∃ d num' nm' t1 t2 t3 t4 t5, IsZ m d num' nm' wn wi t1 t2 t3 t4 t5 ∧ 0 ≤ d ∧ d + 20 * k < 260 ∧ (num + d + 20 * k - wn) % 13 = 0 ∧ (nm + d - wi) % 20 = 0 ∧ num' = (num - 1 + d) % 13 + 1
section
variable {w : World} {mg mb : Str → Option Value} {ob : Obj} {dp un n : Nat} {gd : Option (List Code)} {envs : List Env} {s : Shared} {Q E : Value → Shared → Prop}
set_option maxHeartbeats 40000000 in
theorem law_tz_spec (x : Sit w mg mb ob dp un envs (n + 1) s) (t1 t2 t3 t4 : Tok) (num nm wn wi : Int) (h1 : 1 ≤ num) (h2 : num ≤ 13) (h3 : 0 ≤ nm) (h4 : nm < 20) (h5 : 1 ≤ wn) (h6 : wn ≤ 13) (h7 : 0 ≤ wi) (h8 : wi < 20)
    (hQ : ∀ v s', Aft w mg mb ob envs s s' → (∃ y t, v = .int y t ∧ 0 ≤ y ∧ y < 260 ∧ (num + y - wn) % 13 = 0 ∧ (nm + y - wi) % 20 = 0) → Q v s') :
    wpAny (model PRG w) (aro dp un gd envs) (call (.ref 116) [.int num t1, .int nm t2, .int wn t3, .int wi t4]) Q E s := by
  have hb0 := x.bare
  refine wpAny_call ?_
  k_dflt (refine' enter x ?k6 ?k7 ?k9 ?kB ?_ ?c2 ?c3 ?c4 ?c5; (case k6 => k_is); (case k7 => k_is); (case k9 => exact BindsTo.of_eq rfl); (case kB => exact locs rfl); (case c2 => exact rfl); (case c3 => exact rfl); (case c4 => exact rfl); (case c5 => decide))
  intro L' h₁ mu F' N' M X' T'
  try dsimp only
  k_fold
  k_steps
  refine Back.mk ?_
  refine while_J (JA num nm wn wi) (n₀ := ((wi - nm) % 20).toNat) (by assumption) (by assumption) ⟨0, num, nm, _, _, _, _, _, ⟨rfl, rfl, rfl, rfl, rfl⟩, by omega, by omega, by omega, by omega⟩ fun n1 m1 h1 tk1 F1 N1 j1 => ?_
  obtain ⟨d, num', nm', u1, u2, u3, u4, u5, hz, hd0, hd1, hd2, hd3⟩ := j1
  have F1' := fr_Z hz F1
  clear F1
  k_steps
  · have hne : nm' ≠ wi := by assumption
    refine WhileStep.intro (n' := n1 - 1) (by assumption) (by assumption) (by omega) ⟨⟨d + 1, num'.fmod 13 + 1, (nm' + 1).fmod 20, _, _, _, _, _, ⟨rfl, rfl, rfl, rfl, rfl⟩, by omega, by omega, ?_, ?_⟩, rfl⟩
    · rw [Int.fmod_eq_emod_of_nonneg _ (by decide)]; omega
    · rw [Int.fmod_eq_emod_of_nonneg _ (by decide)]; omega
  · have hne : nm' = wi := by omega
    refine Back.mk ?_
    refine while_J (JB num nm wn wi) (n₀ := ((2 * (wn - num - d)) % 13).toNat) (by assumption) (by assumption) ⟨d, num', nm', _, _, _, _, _, ⟨rfl, rfl, rfl, rfl, rfl⟩, by omega, by omega, by omega, by omega, by omega⟩ fun n2 m2 h2 tk2 F2 N2 j2 => ?_
    clear hd0 hd1 hd2 hd3 hne
    obtain ⟨d2, num2, nm2, v1, v2, v3, v4, v5, hz2, he0, he1, he2, he3, he4⟩ := j2
    have F2' := fr_Z hz2 F2
    clear F2 F1'
    k_steps
    · have hne : num2 ≠ wn := by assumption
      refine WhileStep.intro (n' := n2 - 1) (by assumption) (by assumption) (by omega) ⟨⟨d2 + 20, (num2 + 6).fmod 13 + 1, nm2, _, _, _, _, _, ⟨rfl, rfl, rfl, rfl, rfl⟩, by omega, by omega, by omega, by omega, ?_⟩, rfl⟩
      rw [Int.fmod_eq_emod_of_nonneg _ (by decide)]; omega
    · have hne : num2 = wn := by omega
      refine Back.mk (hQ _ _ ?_ ⟨d2, _, rfl, by omega, by omega, by omega, by omega⟩)
      exact (aft_out x (by assumption) (by assumption) (by assumption) (by first | exact fun p hp => hp | exact fun p hp => .tail _ hp | exact fun p hp => .tail _ (.tail _ hp) | exact fun p hp => .tail _ (.tail _ (.tail _ hp)) | exact fun p hp => .tail _ (.tail _ (.tail _ (.tail _ hp))) | exact fun p hp => .tail _ (.tail _ (.tail _ (.tail _ (.tail _ hp)))) | exact fun p hp => .tail _ (.tail _ (.tail _ (.tail _ (.tail _ (.tail _ hp))))) | exact fun p hp => .tail _ (.tail _ (.tail _ (.tail _ (.tail _ (.tail _ (.tail _ hp)))))) | exact fun p hp => .tail _ (.tail _ (.tail _ (.tail _ (.tail _ (.tail _ (.tail _ (.tail _ hp))))))) | exact fun p hp => .tail _ (.tail _ (.tail _ (.tail _ (.tail _ (.tail _ (.tail _ (.tail _ (.tail _ hp)))))))) | exact fun p hp => .tail _ (.tail _ (.tail _ (.tail _ (.tail _ (.tail _ (.tail _ (.tail _ (.tail _ (.tail _ hp))))))))) | exact fun p hp => .tail _ (.tail _ (.tail _ (.tail _ (.tail _ (.tail _ (.tail _ (.tail _ (.tail _ (.tail _ (.tail _ hp)))))))))) | exact fun p hp => .tail _ (.tail _ (.tail _ (.tail _ (.tail _ (.tail _ (.tail _ (.tail _ (.tail _ (.tail _ (.tail _ (.tail _ hp))))))))))) | exact fun p hp => .tail _ (.tail _ (.tail _ (.tail _ (.tail _ (.tail _ (.tail _ (.tail _ (.tail _ (.tail _ (.tail _ (.tail _ (.tail _ hp)))))))))))) | exact fun p hp => .tail _ (.tail _ (.tail _ (.tail _ (.tail _ (.tail _ (.tail _ (.tail _ (.tail _ (.tail _ (.tail _ (.tail _ (.tail _ (.tail _ hp))))))))))))) | exact fun p hp => .tail _ (.tail _ (.tail _ (.tail _ (.tail _ (.tail _ (.tail _ (.tail _ (.tail _ (.tail _ (.tail _ (.tail _ (.tail _ (.tail _ (.tail _ hp))))))))))))))) (by assumption) (by first | rfl | assumption))
end
end Mine
namespace Mine
open PySem PySem.W PySem.Calls PySem.Spec PyProof.Rows
local macro_rules | `(tactic| walk_at "exec") => `(tactic| ((with_reducible show wpAny _ _ (exec (Stmt.While _ _ [] _) _) _ _ _); refine Back.out ?_))
local macro_rules | `(tactic| walk_at "exec While BoolOp") => `(tactic| (refine Back.out ?_))
def mY (g : Str → Option Value) (d num nm wn wi : Int) (t1 t2 t3 t4 t5 : Tok) : Str → Option Value := fun y =>
  if y = "days" then some (.int d t1) else if y = "hday" then some (.int num t2) else if y = "month" then some (.int nm t3) else if y = "want_day" then some (.int wn t4) else if y = "want_month" then some (.int wi t5) else g y
def IsY (m : Str → Option Value) (d num nm wn wi : Int) (t1 t2 t3 t4 t5 : Tok) : Prop :=
  m "days" = some (.int d t1) ∧ m "hday" = some (.int num t2) ∧ m "month" = some (.int nm t3) ∧ m "want_day" = some (.int wn t4) ∧ m "want_month" = some (.int wi t5)
theorem fr_Y {g h : Heap} {L : Addr} {m : Str → Option Value} {d num nm wn wi : Int} {t1 t2 t3 t4 t5 : Tok} (z : IsY m d num nm wn wi t1 t2 t3 t4 t5) (F : Fr g L h m) : Fr g L h (mY m d num nm wn wi t1 t2 t3 t4 t5) := by
  have : mY m d num nm wn wi t1 t2 t3 t4 t5 = m := by
    obtain ⟨a, b, c, e, f⟩ := z
    funext y
    unfold mY
    split
    · next q => rw [q, a]
    · split
      · next q => rw [q, b]
      · split
        · next q => rw [q, c]
        · split
          · next q => rw [q, e]
          · split
            · next q => rw [q, f]
            · rfl
  rw [this]; exact F
def OkDay (hd mo : Int) : Prop := 0 ≤ mo ∧ mo ≤ 18 ∧ 0 ≤ hd ∧ hd < 20 ∧ (mo = 18 → hd < 5)
def JH (hd mo wd wm : Int) (k : Nat) (m : Str → Option Value) : Prop := ∃ d hd' mo' t1 t2 t3 t4 t5, IsY m d hd' mo' wd wm t1 t2 t3 t4 t5 ∧ 0 ≤ d ∧ OkDay hd' mo' ∧ d + (k : Int) = (20 * wm + wd - (20 * mo + hd)) % 365 ∧ (k : Int) = (20 * wm + wd - (20 * mo' + hd')) % 365
theorem modT {T P : Int} (h1 : 0 ≤ T) (h2 : T < 365) (h3 : 0 ≤ P) (h4 : P < 365) : (P ≤ T ∧ (T - P) % 365 = T - P) ∨ (T < P ∧ (T - P) % 365 = T - P + 365) := by omega
theorem stepH {hd mo wd wm : Int} {n1 : Nat} {h₀ h' : Heap} {L : Addr} {s : Shared} {news : List (Addr × Obj)} {m₂ : Str → Option Value} {d2 hd2 mo2 : Int} {t1 t2 t3 t4 t5 : Tok} {tk : Nat} (F : Fr h₀ L h' m₂) (N : News h₀ L h' news) (z : IsY m₂ d2 hd2 mo2 wd wm t1 t2 t3 t4 t5)
    (hw : OkDay wd wm) (h0 : 0 ≤ d2) (hk : OkDay hd2 mo2) (h : ∀ k2 : Int, (20 * mo2 + hd2 ≤ 20 * wm + wd ∧ k2 = 20 * wm + wd - (20 * mo2 + hd2)) ∨ (20 * wm + wd < 20 * mo2 + hd2 ∧ k2 = 20 * wm + wd - (20 * mo2 + hd2) + 365) → d2 + k2 = (20 * wm + wd - (20 * mo + hd)) % 365 ∧ k2 < n1) :
    WhileStep h₀ L s (fun k m' news' => JH hd mo wd wm k m' ∧ news' = news) n1 .next { s with heap := h', toks := tk } := by
  have q := h ((20 * wm + wd - (20 * mo2 + hd2)) % 365) (by unfold OkDay at hw hk; exact modT (by omega) (by omega) (by omega) (by omega))
  exact WhileStep.intro (n' := ((20 * wm + wd - (20 * mo2 + hd2)) % 365).toNat) F N (by omega) ⟨⟨d2, hd2, mo2, _, _, _, _, _, z, h0, hk, by have := q.1; omega, by omega⟩, rfl⟩
section
variable {w : World} {mg mb : Str → Option Value} {ob : Obj} {dp un n : Nat} {gd : Option (List Code)} {envs : List Env} {s : Shared} {Q E : Value → Shared → Prop}
set_option maxHeartbeats 40000000 in
theorem law_haab_spec (x : Sit w mg mb ob dp un envs (n + 1) s) (t1 t2 t3 t4 : Tok) (hd mo wd wm : Int) (h1 : OkDay hd mo) (h2 : OkDay wd wm)
    (hQ : ∀ v s', Aft w mg mb ob envs s s' → (∃ t, v = .int ((20 * wm + wd - (20 * mo + hd)) % 365) t) → Q v s') :
    wpAny (model PRG w) (aro dp un gd envs) (call (.ref 123) [.int hd t1, .int mo t2, .int wd t3, .int wm t4]) Q E s := by
  have hb0 := x.bare
  refine wpAny_call ?_
  k_dflt (refine' enter x ?k6 ?k7 ?k9 ?kB ?_ ?c2 ?c3 ?c4 ?c5; (case k6 => k_is); (case k7 => k_is); (case k9 => exact BindsTo.of_eq rfl); (case kB => exact locs rfl); (case c2 => exact rfl); (case c3 => exact rfl); (case c4 => exact rfl); (case c5 => decide))
  intro L' h₁ mu F' N' M X' T'
  try dsimp only
  k_fold
  k_steps
  refine Back.mk ?_
  refine while_J (JH hd mo wd wm) (n₀ := ((20 * wm + wd - (20 * mo + hd)) % 365).toNat) (by assumption) (by assumption) ⟨0, hd, mo, _, _, _, _, _, ⟨rfl, rfl, rfl, rfl, rfl⟩, by omega, h1, by omega, by omega⟩ fun n1 m1 h3 tk1 F1 N1 j1 => ?_
  obtain ⟨d, hd', mo', u1, u2, u3, u4, u5, hz, hd0, hd1, hd2, hd3⟩ := j1
  have F1' := fr_Y hz F1
  clear F1
  have h2' := h2
  unfold OkDay at h2' hd1
  have hd4 := modT (T := 20 * wm + wd) (P := 20 * mo' + hd') (by omega) (by omega) (by omega) (by omega)
  generalize hD : (20 * wm + wd - (20 * mo + hd)) % 365 = D at hd2
  rw [← hd3] at hd4
  k_steps
  all_goals first
    | (refine stepH (by assumption) (by assumption) ⟨rfl, rfl, rfl, rfl, rfl⟩ h2 ?_ ?_ fun k2 hk2 => ?_
       · omega
       · unfold OkDay
         try simp only [Int.fmod_eq_emod_of_nonneg _ (show (0:Int) ≤ 19 by decide)]
         omega
       · rw [hD]
         try simp only [Int.fmod_eq_emod_of_nonneg _ (show (0:Int) ≤ 19 by decide)] at hk2
         clear hD hd3
         omega)
    | (refine Back.mk (hQ _ _ ?_ ⟨_, by rw [show (20 * wm + wd - (20 * mo + hd)) % 365 = d from by rw [hD]; clear hD hd3; omega]⟩)
       exact (aft_out x (by assumption) (by assumption) (by assumption) (by first | exact fun p hp => hp | exact fun p hp => .tail _ hp | exact fun p hp => .tail _ (.tail _ hp) | exact fun p hp => .tail _ (.tail _ (.tail _ hp)) | exact fun p hp => .tail _ (.tail _ (.tail _ (.tail _ hp))) | exact fun p hp => .tail _ (.tail _ (.tail _ (.tail _ (.tail _ hp)))) | exact fun p hp => .tail _ (.tail _ (.tail _ (.tail _ (.tail _ (.tail _ hp))))) | exact fun p hp => .tail _ (.tail _ (.tail _ (.tail _ (.tail _ (.tail _ (.tail _ hp)))))) | exact fun p hp => .tail _ (.tail _ (.tail _ (.tail _ (.tail _ (.tail _ (.tail _ (.tail _ hp))))))) | exact fun p hp => .tail _ (.tail _ (.tail _ (.tail _ (.tail _ (.tail _ (.tail _ (.tail _ (.tail _ hp)))))))) | exact fun p hp => .tail _ (.tail _ (.tail _ (.tail _ (.tail _ (.tail _ (.tail _ (.tail _ (.tail _ (.tail _ hp))))))))) | exact fun p hp => .tail _ (.tail _ (.tail _ (.tail _ (.tail _ (.tail _ (.tail _ (.tail _ (.tail _ (.tail _ (.tail _ hp)))))))))) | exact fun p hp => .tail _ (.tail _ (.tail _ (.tail _ (.tail _ (.tail _ (.tail _ (.tail _ (.tail _ (.tail _ (.tail _ (.tail _ hp))))))))))) | exact fun p hp => .tail _ (.tail _ (.tail _ (.tail _ (.tail _ (.tail _ (.tail _ (.tail _ (.tail _ (.tail _ (.tail _ (.tail _ (.tail _ hp)))))))))))) | exact fun p hp => .tail _ (.tail _ (.tail _ (.tail _ (.tail _ (.tail _ (.tail _ (.tail _ (.tail _ (.tail _ (.tail _ (.tail _ (.tail _ (.tail _ hp))))))))))))) | exact fun p hp => .tail _ (.tail _ (.tail _ (.tail _ (.tail _ (.tail _ (.tail _ (.tail _ (.tail _ (.tail _ (.tail _ (.tail _ (.tail _ (.tail _ (.tail _ hp))))))))))))))) (by assumption) (by first | rfl | assumption)))
    | (exfalso; omega)
end
end Mine
namespace Mine
open PySem PySem.W PySem.Calls PySem.Spec PyProof.Rows
local macro_rules | `(tactic| walk_at "eval Constant float") => `(tactic| (k_dflt (refine' constHI (by first | exact isH_half | assumption) ?_); intro z' hz'))
local macro_rules | `(tactic| walk_at "binaryOp Add float int") => `(tactic| (k_dflt (refine' addHI (by assumption) (by omega) (by omega) ?_); intro z' hz'))
local macro_rules | `(tactic| walk_at "binaryOp Add int float") => `(tactic| (k_dflt (refine' addIH (by assumption) (by omega) (by omega) ?_); intro z' hz'))
local macro_rules | `(tactic| walk_at "binaryOp Sub float float") => `(tactic| (k_dflt (refine' subHH (by assumption) (by assumption) (by omega) ?_); intro z' hz'))
local macro_rules | `(tactic| walk_at "binaryOp Mod float int") => `(tactic| (k_dflt (refine' modHI' (by assumption) (by omega) (by omega) (by omega) (by omega) ?_); intro z' hz'))
local macro_rules | `(tactic| walk_at "binaryOp Div float int") => `(tactic| (k_dflt (refine' divHI20' (by assumption) (by omega) (by omega) (by omega) ?_); intro z' hz'))
local macro_rules | `(tactic| walk_at "call builtin:math.trunc") => `(tactic| (k_dflt first | (refine' truncH (by assumption) (by omega) rfl ?_) | (refine' truncQ (by assumption) rfl ?_)))
local macro_rules | `(tactic| walk_at "call type:int") => `(tactic| ((with_reducible show wpAny _ _ (call _ [Value.float _ _]) _ _ _); k_dflt (refine' intH (by assumption) (by omega) ?_)))
local macro_rules | `(tactic| walk_at "compareOp Eq float float") => `(tactic| (k_dflt (refine' eqHH (by assumption) (by assumption) ?_)))
local macro_rules | `(tactic| walk_at "compareOp NotEq float float") => `(tactic| (k_dflt (refine' neHH (by assumption) (by assumption) ?_)))
local macro_rules | `(tactic| walk_at "compareOp Lt float float") => `(tactic| (k_dflt (refine' ltHH (by assumption) (by assumption) ?_)))
local macro_rules | `(tactic| walk_at "subscriptTail") => `(tactic| ((with_reducible show wpAny _ _ (subscriptTail _ _ (Value.ref _) (Value.int _ _)) _ _ _); k_dflt (first
  | refine' item50 (by assumption) (by assumption) (by omega) (by omega) ?_ (by with_unfolding_all rfl)
  | refine' item51 (by assumption) (by assumption) (by omega) (by omega) ?_ (by with_unfolding_all rfl)
  | refine' item101 (by assumption) (by assumption) (by omega) (by omega) ?_ (by with_unfolding_all rfl)
  | refine' item102 (by assumption) (by assumption) (by omega) (by omega) ?_ (by with_unfolding_all rfl)); intro t'))
local macro_rules | `(tactic| walk_at "getMethod ref") => `(tactic| ((with_reducible show wpAny _ _ (getMethod (Value.ref _) (Str.ofString "index") _) _ _ _); k_dflt (first | refine' getIndex50 (by assumption) (by assumption) ?_ | refine' getIndex51 (by assumption) (by assumption) ?_)))
local macro_rules | `(tactic| walk_at "call builtin:list.index") => `(tactic| (k_dflt (first | refine' idx50 (by assumption) (by assumption) (by omega) (by omega) rfl ?_ ?_ | refine' idx51 (by assumption) (by assumption) (by omega) (by omega) rfl ?_ ?_); (first | (intro hj' h' tk' e' hx') | (intro hj'))))
local macro_rules | `(tactic| walk_at "exec Raise some none") => `(tactic| refine Raise_new rfl ?_)
local macro_rules | `(tactic| walk_at "callWith ref") => `(tactic| ((with_reducible show wpAny _ _ (callWith _ (Value.ref _) _ (backTo _ (starEach [Expr.Starred _ _] _)) []) _ _ _); k_dflt first | (refine' callWith_S ?k1 ?k2 ?_; (case k1 => assumption); (case k2 => k_is))))
local macro_rules | `(tactic| walk_at "StarOf ref") => `(tactic| (k_dflt first | (refine' star_tup ?gF ?gN ?gt ?gz ?_; (case gF => assumption); (case gN => assumption); (case gt => first | assumption | exact Fr.keep (by assumption) _ _ (by assumption)); (case gz => exact Nat.le_of_ble_eq_true rfl); (intro h' hk' F' N'); (refine ⟨in_fr (by assumption) (by assumption), ?_⟩); (try dsimp only [List.nil_append, List.cons_append]))))
theorem modP {prog : Program} {w : World} {A : Around} {E : Value → Shared → Prop} {s : Shared} {a b : Int} {t u : Tok} {Q : Value → Shared → Prop} (hb : 0 < b) (h : Q (.int (a % b) s.toks) { s with toks := s.toks + 1 }) : wpAny (model prog w) A (binaryOp .Mod (.int a t) (.int b u)) Q E s := by
  refine mod_int' (by omega) ?_
  rw [Int.fmod_eq_emod_of_nonneg _ (by omega)]
  exact h
theorem tup_of {h : Heap} {a : Addr} {l : List Value} (e : h.get? a = some (tupO l)) : IsTup h a l.toArray := ⟨_, e, rfl, _, rfl⟩
local macro_rules | `(tactic| walk_at "binaryOp Mod int int") => `(tactic| refine modP (by decide) ?_)
local macro_rules | `(tactic| walk_at "call ref") => `(tactic| ((with_reducible show wpAny _ _ (call (Value.ref 58) _) _ _ _); k_dflt first | (refine' useE ?gX ?gF ?gN ?gM ?gsp ?gpl rfl ?gkd ?gb ?go (fun x' k' lift' => to_haab_spec x' _ _ _ (by assumption) (by omega) (by omega) k') ?_; (case gX => assumption); (case gF => assumption); (case gN => assumption); (case gM => assumption); (case gkd => (intro e; cases e)); (case gsp => (first | exact (rfl : _ = [] ++ _) | exact (rfl : _ = [_] ++ _) | exact (rfl : _ = [_, _] ++ _) | exact (rfl : _ = [_, _, _] ++ _) | exact (rfl : _ = [_, _, _, _] ++ _) | exact (rfl : _ = [_, _, _, _, _] ++ _) | exact (rfl : _ = [_, _, _, _, _, _] ++ _) | exact (rfl : _ = [_, _, _, _, _, _, _] ++ _) | exact (rfl : _ = [_, _, _, _, _, _, _, _] ++ _) | exact (rfl : _ = [_, _, _, _, _, _, _, _, _] ++ _) | exact (rfl : _ = [_, _, _, _, _, _, _, _, _, _] ++ _) | exact (rfl : _ = [_, _, _, _, _, _, _, _, _, _, _] ++ _))); (case gpl => (repeat (first | exact Plain.nil | refine Plain.seq rfl ?_ | refine Plain.set (by assumption) ?_ | refine Plain.cell (by assumption) ?_))); (case gb => assumption); (case go => first | rfl | assumption); skip; (intro v' s' mu' M' F' N' hb' ho' P'); (try simp only [List.nil_append, List.cons_append] at N'); (obtain ⟨a', t1', t2', e', g'⟩ := P'; subst e'; have it9' := tup_of g'))))
local macro_rules | `(tactic| walk_at "call ref") => `(tactic| ((with_reducible show wpAny _ _ (call (Value.ref 65) _) _ _ _); k_dflt first | (refine' useE ?gX ?gF ?gN ?gM ?gsp ?gpl rfl ?gkd ?gb ?go (fun x' k' lift' => to_tzolkin_spec x' _ _ _ (by assumption) (by omega) (by omega) k') ?_; (case gX => assumption); (case gF => assumption); (case gN => assumption); (case gM => assumption); (case gkd => (intro e; cases e)); (case gsp => (first | exact (rfl : _ = [] ++ _) | exact (rfl : _ = [_] ++ _) | exact (rfl : _ = [_, _] ++ _) | exact (rfl : _ = [_, _, _] ++ _) | exact (rfl : _ = [_, _, _, _] ++ _) | exact (rfl : _ = [_, _, _, _, _] ++ _) | exact (rfl : _ = [_, _, _, _, _, _] ++ _) | exact (rfl : _ = [_, _, _, _, _, _, _] ++ _) | exact (rfl : _ = [_, _, _, _, _, _, _, _] ++ _) | exact (rfl : _ = [_, _, _, _, _, _, _, _, _] ++ _) | exact (rfl : _ = [_, _, _, _, _, _, _, _, _, _] ++ _) | exact (rfl : _ = [_, _, _, _, _, _, _, _, _, _, _] ++ _))); (case gpl => (repeat (first | exact Plain.nil | refine Plain.seq rfl ?_ | refine Plain.set (by assumption) ?_ | refine Plain.cell (by assumption) ?_))); (case gb => assumption); (case go => first | rfl | assumption); skip; (intro v' s' mu' M' F' N' hb' ho' P'); (try simp only [List.nil_append, List.cons_append] at N'); (obtain ⟨a', t1', t2', e', g'⟩ := P'; subst e'))))
local macro_rules | `(tactic| walk_at "call ref") => `(tactic| ((with_reducible show wpAny _ _ (call (Value.ref 72) _) _ _ _); k_dflt first | (refine' useE ?gX ?gF ?gN ?gM ?gsp ?gpl rfl ?gkd ?gb ?go (fun x' k' lift' => haab_count_spec x' _ _ _ _ ?a1 ?a2 (fun v s' a b => k' v s' a b) ?q1 ?q2) ?_; (case gX => assumption); (case gF => assumption); (case gN => assumption); (case gM => assumption); (case gkd => (intro e; cases e)); (case gsp => (first | exact (rfl : _ = [] ++ _) | exact (rfl : _ = [_] ++ _) | exact (rfl : _ = [_, _] ++ _) | exact (rfl : _ = [_, _, _] ++ _) | exact (rfl : _ = [_, _, _, _] ++ _) | exact (rfl : _ = [_, _, _, _, _] ++ _) | exact (rfl : _ = [_, _, _, _, _, _] ++ _) | exact (rfl : _ = [_, _, _, _, _, _, _] ++ _) | exact (rfl : _ = [_, _, _, _, _, _, _, _] ++ _) | exact (rfl : _ = [_, _, _, _, _, _, _, _, _] ++ _) | exact (rfl : _ = [_, _, _, _, _, _, _, _, _, _] ++ _) | exact (rfl : _ = [_, _, _, _, _, _, _, _, _, _, _] ++ _))); (case gpl => (repeat (first | exact Plain.nil | refine Plain.seq rfl ?_ | refine Plain.set (by assumption) ?_ | refine Plain.cell (by assumption) ?_))); (case gb => assumption); (case go => first | rfl | assumption); (case a1 => omega); (case a2 => omega); (case q1 => (intro e s' fl c; first | (exfalso; omega) | (refine lift' _ e s' fl fun s'' fl'' => ?_; refine by_law (by assumption) fl'' ?_; omega))); (case q2 => (intro e s' fl c; first | (exfalso; omega) | (refine lift' _ e s' fl fun s'' fl'' => ?_; refine by_law (by assumption) fl'' ?_; omega))); (intro v' s' mu' M' F' N' hb' ho' P'); (try simp only [List.nil_append, List.cons_append] at N'); (obtain ⟨c1', c2', c3', t', e'⟩ := P'; subst e'))))
local macro_rules | `(tactic| walk_at "call ref") => `(tactic| ((with_reducible show wpAny _ _ (call (Value.ref 79) _) _ _ _); k_dflt first | (refine' useE ?gX ?gF ?gN ?gM ?gsp ?gpl rfl ?gkd ?gb ?go (fun x' k' lift' => tz_count_spec x' _ _ _ _ ?a1 ?a2 (fun v s' a b c => k' v s' a (And.intro b c)) ?q1 ?q2) ?_; (case gX => assumption); (case gF => assumption); (case gN => assumption); (case gM => assumption); (case gkd => (intro e; cases e)); (case gsp => (first | exact (rfl : _ = [] ++ _) | exact (rfl : _ = [_] ++ _) | exact (rfl : _ = [_, _] ++ _) | exact (rfl : _ = [_, _, _] ++ _) | exact (rfl : _ = [_, _, _, _] ++ _) | exact (rfl : _ = [_, _, _, _, _] ++ _) | exact (rfl : _ = [_, _, _, _, _, _] ++ _) | exact (rfl : _ = [_, _, _, _, _, _, _] ++ _) | exact (rfl : _ = [_, _, _, _, _, _, _, _] ++ _) | exact (rfl : _ = [_, _, _, _, _, _, _, _, _] ++ _) | exact (rfl : _ = [_, _, _, _, _, _, _, _, _, _] ++ _) | exact (rfl : _ = [_, _, _, _, _, _, _, _, _, _, _] ++ _))); (case gpl => (repeat (first | exact Plain.nil | refine Plain.seq rfl ?_ | refine Plain.set (by assumption) ?_ | refine Plain.cell (by assumption) ?_))); (case gb => assumption); (case go => first | rfl | assumption); (case a1 => omega); (case a2 => omega); (case q1 => (intro e s' fl c; first | (exfalso; omega) | (refine lift' _ e s' fl fun s'' fl'' => ?_; refine by_law (by assumption) fl'' ?_; omega))); (case q2 => (intro e s' fl c; first | (exfalso; omega) | (refine lift' _ e s' fl fun s'' fl'' => ?_; refine by_law (by assumption) fl'' ?_; omega))); (intro v' s' mu' M' F' N' hb' ho' P'); (try simp only [List.nil_append, List.cons_append] at N'); (obtain ⟨⟨d1', d2', d3'⟩, c', t', e', e1', e2', e3', e4'⟩ := P'; subst e'))))
theorem mstr_all : ∀ i j : Fin 20, (Str.ofString (months.getD i.val "") == Str.ofString (months.getD j.val "")) = decide (i = j) := by decide +kernel
theorem mstr_beq {a b : Int} (h1 : 0 ≤ a) (h2 : a < 20) (h3 : 0 ≤ b) (h4 : b < 20) : (mstr a == mstr b) = decide (a = b) := by
  have := mstr_all ⟨a.toNat, by omega⟩ ⟨b.toNat, by omega⟩
  unfold mstr
  rw [this]
  refine decide_eq_decide.mpr ?_
  rw [Fin.mk.injEq]
  omega
theorem nt_law {N wn wi k : Int} {z' : UInt64} {t : Tok} (h : IsH z' (2 * N + 1168565 + 2 * k)) (h0 : 0 ≤ k) (h1 : k < 260) (h2 : (k + N + 4 - wn) % 13 = 0) (h3 : (k + N + 19 - wi) % 20 = 0) :
    ∃ y z'' t', Value.float z' t = .float z'' t' ∧ IsH z'' (2 * (N + y) + 1168565) ∧ 0 ≤ y ∧ y < 260 ∧ (y + N + 4 - wn) % 13 = 0 ∧ (y + N + 19 - wi) % 20 = 0 :=
  ⟨k, z', t, rfl, (show 2 * N + 1168565 + 2 * k = 2 * (N + k) + 1168565 from by omega) ▸ h, h0, h1, h2, h3⟩
theorem nh_law {N m k : Int} {z' : UInt64} {t : Tok} (h : IsH z' (2 * N + 1168565 + 2 * k)) (h0 : (N + 348) % 365 / 20 = m ∧ k = 1 - (N + 348) % 365 % 20 ∨ (N + 348) % 365 / 20 ≠ m ∧ k = (20 * m + 1 - (20 * ((N + 348) % 365 / 20) + (N + 348) % 365 % 20)) % 365) :
    ∃ y z'' t', Value.float z' t = .float z'' t' ∧ IsH z'' (2 * (N + y) + 1168565) ∧ ((N + 348) % 365 / 20 = m ∧ y = 1 - (N + 348) % 365 % 20 ∨ (N + 348) % 365 / 20 ≠ m ∧ y = (20 * m + 1 - (20 * ((N + 348) % 365 / 20) + (N + 348) % 365 % 20)) % 365) :=
  ⟨k, z', t, rfl, (show 2 * N + 1168565 + 2 * k = 2 * (N + k) + 1168565 from by omega) ▸ h, h0⟩
theorem isH_as {z : UInt64} {a b : Int} (h : IsH z a) (e : a = b) : IsH z b := e ▸ h
section
variable {w : World} {mg mb : Str → Option Value} {ob : Obj} {dp un n : Nat} {gd : Option (List Code)} {envs : List Env} {s : Shared} {Q E : Value → Shared → Prop}
set_option maxHeartbeats 40000000 in
theorem nt_spec (x : Sit w mg mb ob dp un envs (n + 3) s) (aT : Addr) (t1 t2 t5 : Tok) (wn wi N : Int) (z : UInt64) (hz : IsH z (2 * N + 1168565)) (hN1 : -2000 ≤ N) (hN2 : N < 1000100000)
    (hi0 : 0 ≤ wi) (hi1 : wi < 21)
    (hT : (solid (fsOf envs) s.heap).get? aT = some (tupO [.int wn t1, .str (tstr wi) t2]))
    (hQ : ∀ v s', Aft w mg mb ob envs s s' → 0 ≤ N ∧ 1 ≤ wn ∧ wn ≤ 13 ∧ wi ≤ 19 → (∃ y z' t, v = .float z' t ∧ IsH z' (2 * (N + y) + 1168565) ∧ 0 ≤ y ∧ y < 260 ∧ (y + N + 4 - wn) % 13 = 0 ∧ (y + N + 19 - wi) % 20 = 0) → Q v s')
    (hI : ∀ ex s', Flies w mg mb ob envs "IndexError" ex s s' → N < 0 ∨ wn < 1 ∨ 13 < wn → E (.ref ex) s')
    (hV : ∀ ex s', Flies w mg mb ob envs "ValueError" ex s s' → wi = 20 → E (.ref ex) s') :
    wpAny (model PRG w) (aro dp un gd envs) (call (.ref 93) [.ref aT, .float z t5]) Q E s := by
  have hE := isH_epoch
  have hb0 := x.bare
  refine wpAny_call ?_
  k_dflt (refine' enter x ?k6 ?k7 ?k9 ?kB ?_ ?c2 ?c3 ?c4 ?c5; (case k6 => k_is); (case k7 => k_is); (case k9 => exact BindsTo.of_eq rfl); (case kB => exact locs rfl); (case c2 => exact rfl); (case c3 => exact rfl); (case c4 => exact rfl); (case c5 => decide))
  intro L' h₁ mu F' N' M X' T'
  try dsimp only
  k_fold
  k_steps
  · refine Back.mk (leave_newE x (by assumption) (by assumption) (by assumption) (by first | exact fun p hp => hp | exact fun p hp => .tail _ hp | exact fun p hp => .tail _ (.tail _ hp) | exact fun p hp => .tail _ (.tail _ (.tail _ hp)) | exact fun p hp => .tail _ (.tail _ (.tail _ (.tail _ hp))) | exact fun p hp => .tail _ (.tail _ (.tail _ (.tail _ (.tail _ hp)))) | exact fun p hp => .tail _ (.tail _ (.tail _ (.tail _ (.tail _ (.tail _ hp))))) | exact fun p hp => .tail _ (.tail _ (.tail _ (.tail _ (.tail _ (.tail _ (.tail _ hp)))))) | exact fun p hp => .tail _ (.tail _ (.tail _ (.tail _ (.tail _ (.tail _ (.tail _ (.tail _ hp))))))) | exact fun p hp => .tail _ (.tail _ (.tail _ (.tail _ (.tail _ (.tail _ (.tail _ (.tail _ (.tail _ hp)))))))) | exact fun p hp => .tail _ (.tail _ (.tail _ (.tail _ (.tail _ (.tail _ (.tail _ (.tail _ (.tail _ (.tail _ hp))))))))) | exact fun p hp => .tail _ (.tail _ (.tail _ (.tail _ (.tail _ (.tail _ (.tail _ (.tail _ (.tail _ (.tail _ (.tail _ hp)))))))))) | exact fun p hp => .tail _ (.tail _ (.tail _ (.tail _ (.tail _ (.tail _ (.tail _ (.tail _ (.tail _ (.tail _ (.tail _ (.tail _ hp))))))))))) | exact fun p hp => .tail _ (.tail _ (.tail _ (.tail _ (.tail _ (.tail _ (.tail _ (.tail _ (.tail _ (.tail _ (.tail _ (.tail _ (.tail _ hp)))))))))))) | exact fun p hp => .tail _ (.tail _ (.tail _ (.tail _ (.tail _ (.tail _ (.tail _ (.tail _ (.tail _ (.tail _ (.tail _ (.tail _ (.tail _ (.tail _ hp))))))))))))) | exact fun p hp => .tail _ (.tail _ (.tail _ (.tail _ (.tail _ (.tail _ (.tail _ (.tail _ (.tail _ (.tail _ (.tail _ (.tail _ (.tail _ (.tail _ (.tail _ hp))))))))))))))) rfl (by intro z; cases z) (by assumption) (by first | rfl | assumption) (by assumption) ?_); intro s'' fl'
    exact hI _ _ fl' (by omega)
  · refine Back.mk (hQ _ _ ?_ ⟨by omega, by omega, by omega, by omega⟩ (nt_law (by assumption) ?_ ?_ ?_ ?_))
    · exact (aft_out x (by assumption) (by assumption) (by assumption) (by first | exact fun p hp => hp | exact fun p hp => .tail _ hp | exact fun p hp => .tail _ (.tail _ hp) | exact fun p hp => .tail _ (.tail _ (.tail _ hp)) | exact fun p hp => .tail _ (.tail _ (.tail _ (.tail _ hp))) | exact fun p hp => .tail _ (.tail _ (.tail _ (.tail _ (.tail _ hp)))) | exact fun p hp => .tail _ (.tail _ (.tail _ (.tail _ (.tail _ (.tail _ hp))))) | exact fun p hp => .tail _ (.tail _ (.tail _ (.tail _ (.tail _ (.tail _ (.tail _ hp)))))) | exact fun p hp => .tail _ (.tail _ (.tail _ (.tail _ (.tail _ (.tail _ (.tail _ (.tail _ hp))))))) | exact fun p hp => .tail _ (.tail _ (.tail _ (.tail _ (.tail _ (.tail _ (.tail _ (.tail _ (.tail _ hp)))))))) | exact fun p hp => .tail _ (.tail _ (.tail _ (.tail _ (.tail _ (.tail _ (.tail _ (.tail _ (.tail _ (.tail _ hp))))))))) | exact fun p hp => .tail _ (.tail _ (.tail _ (.tail _ (.tail _ (.tail _ (.tail _ (.tail _ (.tail _ (.tail _ (.tail _ hp)))))))))) | exact fun p hp => .tail _ (.tail _ (.tail _ (.tail _ (.tail _ (.tail _ (.tail _ (.tail _ (.tail _ (.tail _ (.tail _ (.tail _ hp))))))))))) | exact fun p hp => .tail _ (.tail _ (.tail _ (.tail _ (.tail _ (.tail _ (.tail _ (.tail _ (.tail _ (.tail _ (.tail _ (.tail _ (.tail _ hp)))))))))))) | exact fun p hp => .tail _ (.tail _ (.tail _ (.tail _ (.tail _ (.tail _ (.tail _ (.tail _ (.tail _ (.tail _ (.tail _ (.tail _ (.tail _ (.tail _ hp))))))))))))) | exact fun p hp => .tail _ (.tail _ (.tail _ (.tail _ (.tail _ (.tail _ (.tail _ (.tail _ (.tail _ (.tail _ (.tail _ (.tail _ (.tail _ (.tail _ (.tail _ hp))))))))))))))) (by assumption) (by first | rfl | assumption))
    · omega
    · omega
    · omega
    · omega
set_option maxHeartbeats 40000000 in
theorem nh_spec (x : Sit w mg mb ob dp un envs (n + 3) s) (t1 t5 : Tok) (m N : Int) (z : UInt64) (hz : IsH z (2 * N + 1168565)) (hN1 : -2000 ≤ N) (hN2 : N < 1000100000)
    (hm0 : 0 ≤ m) (hm1 : m < 20)
    (hQ : ∀ v s', Aft w mg mb ob envs s s' → 0 ≤ N ∧ m ≤ 18 → (∃ y z' t, v = .float z' t ∧ IsH z' (2 * (N + y) + 1168565) ∧ ((N + 348) % 365 / 20 = m ∧ y = 1 - (N + 348) % 365 % 20 ∨ (N + 348) % 365 / 20 ≠ m ∧ y = (20 * m + 1 - (20 * ((N + 348) % 365 / 20) + (N + 348) % 365 % 20)) % 365)) → Q v s')
    (hI : ∀ ex s', Flies w mg mb ob envs "IndexError" ex s s' → N < 0 → E (.ref ex) s')
    (hV : ∀ ex s', Flies w mg mb ob envs "ValueError" ex s s' → m = 19 → E (.ref ex) s') :
    wpAny (model PRG w) (aro dp un gd envs) (call (.ref 86) [.str (mstr m) t1, .float z t5]) Q E s := by
  have hE := isH_epoch
  have hb0 := x.bare
  refine wpAny_call ?_
  k_dflt (refine' enter x ?k6 ?k7 ?k9 ?kB ?_ ?c2 ?c3 ?c4 ?c5; (case k6 => k_is); (case k7 => k_is); (case k9 => exact BindsTo.of_eq rfl); (case kB => exact locs rfl); (case c2 => exact rfl); (case c3 => exact rfl); (case c4 => exact rfl); (case c5 => decide))
  intro L' h₁ mu F' N' M X' T'
  try dsimp only
  k_fold
  k_steps
  · refine Back.mk (leave_newE x (by assumption) (by assumption) (by assumption) (by first | exact fun p hp => hp | exact fun p hp => .tail _ hp | exact fun p hp => .tail _ (.tail _ hp) | exact fun p hp => .tail _ (.tail _ (.tail _ hp)) | exact fun p hp => .tail _ (.tail _ (.tail _ (.tail _ hp))) | exact fun p hp => .tail _ (.tail _ (.tail _ (.tail _ (.tail _ hp)))) | exact fun p hp => .tail _ (.tail _ (.tail _ (.tail _ (.tail _ (.tail _ hp))))) | exact fun p hp => .tail _ (.tail _ (.tail _ (.tail _ (.tail _ (.tail _ (.tail _ hp)))))) | exact fun p hp => .tail _ (.tail _ (.tail _ (.tail _ (.tail _ (.tail _ (.tail _ (.tail _ hp))))))) | exact fun p hp => .tail _ (.tail _ (.tail _ (.tail _ (.tail _ (.tail _ (.tail _ (.tail _ (.tail _ hp)))))))) | exact fun p hp => .tail _ (.tail _ (.tail _ (.tail _ (.tail _ (.tail _ (.tail _ (.tail _ (.tail _ (.tail _ hp))))))))) | exact fun p hp => .tail _ (.tail _ (.tail _ (.tail _ (.tail _ (.tail _ (.tail _ (.tail _ (.tail _ (.tail _ (.tail _ hp)))))))))) | exact fun p hp => .tail _ (.tail _ (.tail _ (.tail _ (.tail _ (.tail _ (.tail _ (.tail _ (.tail _ (.tail _ (.tail _ (.tail _ hp))))))))))) | exact fun p hp => .tail _ (.tail _ (.tail _ (.tail _ (.tail _ (.tail _ (.tail _ (.tail _ (.tail _ (.tail _ (.tail _ (.tail _ (.tail _ hp)))))))))))) | exact fun p hp => .tail _ (.tail _ (.tail _ (.tail _ (.tail _ (.tail _ (.tail _ (.tail _ (.tail _ (.tail _ (.tail _ (.tail _ (.tail _ (.tail _ hp))))))))))))) | exact fun p hp => .tail _ (.tail _ (.tail _ (.tail _ (.tail _ (.tail _ (.tail _ (.tail _ (.tail _ (.tail _ (.tail _ (.tail _ (.tail _ (.tail _ (.tail _ hp))))))))))))))) rfl (by intro z; cases z) (by assumption) (by first | rfl | assumption) (by assumption) ?_); intro s'' fl'
    exact hI _ _ fl' (by omega)
  · have hq : (mstr ((N + 348) % 365 / 20) == mstr m) = true := by assumption
    rw [mstr_beq (by omega) (by omega) hm0 hm1, decide_eq_true_iff] at hq
    refine Back.mk (hQ _ _ ?_ ⟨by omega, by omega⟩ (nh_law (by assumption) ?_))
    · exact (aft_out x (by assumption) (by assumption) (by assumption) (by first | exact fun p hp => hp | exact fun p hp => .tail _ hp | exact fun p hp => .tail _ (.tail _ hp) | exact fun p hp => .tail _ (.tail _ (.tail _ hp)) | exact fun p hp => .tail _ (.tail _ (.tail _ (.tail _ hp))) | exact fun p hp => .tail _ (.tail _ (.tail _ (.tail _ (.tail _ hp)))) | exact fun p hp => .tail _ (.tail _ (.tail _ (.tail _ (.tail _ (.tail _ hp))))) | exact fun p hp => .tail _ (.tail _ (.tail _ (.tail _ (.tail _ (.tail _ (.tail _ hp)))))) | exact fun p hp => .tail _ (.tail _ (.tail _ (.tail _ (.tail _ (.tail _ (.tail _ (.tail _ hp))))))) | exact fun p hp => .tail _ (.tail _ (.tail _ (.tail _ (.tail _ (.tail _ (.tail _ (.tail _ (.tail _ hp)))))))) | exact fun p hp => .tail _ (.tail _ (.tail _ (.tail _ (.tail _ (.tail _ (.tail _ (.tail _ (.tail _ (.tail _ hp))))))))) | exact fun p hp => .tail _ (.tail _ (.tail _ (.tail _ (.tail _ (.tail _ (.tail _ (.tail _ (.tail _ (.tail _ (.tail _ hp)))))))))) | exact fun p hp => .tail _ (.tail _ (.tail _ (.tail _ (.tail _ (.tail _ (.tail _ (.tail _ (.tail _ (.tail _ (.tail _ (.tail _ hp))))))))))) | exact fun p hp => .tail _ (.tail _ (.tail _ (.tail _ (.tail _ (.tail _ (.tail _ (.tail _ (.tail _ (.tail _ (.tail _ (.tail _ (.tail _ hp)))))))))))) | exact fun p hp => .tail _ (.tail _ (.tail _ (.tail _ (.tail _ (.tail _ (.tail _ (.tail _ (.tail _ (.tail _ (.tail _ (.tail _ (.tail _ (.tail _ hp))))))))))))) | exact fun p hp => .tail _ (.tail _ (.tail _ (.tail _ (.tail _ (.tail _ (.tail _ (.tail _ (.tail _ (.tail _ (.tail _ (.tail _ (.tail _ (.tail _ (.tail _ hp))))))))))))))) (by assumption) (by first | rfl | assumption))
    · exact .inl ⟨hq, rfl⟩
  · have hq : (mstr ((N + 348) % 365 / 20) == mstr m) = false := by assumption
    rw [mstr_beq (by omega) (by omega) hm0 hm1, decide_eq_false_iff_not] at hq
    refine Back.mk (hQ _ _ ?_ ⟨by omega, by omega⟩ (nh_law (by assumption) (.inr ⟨hq, ?_⟩)))
    · exact (aft_out x (by assumption) (by assumption) (by assumption) (by first | exact fun p hp => hp | exact fun p hp => .tail _ hp | exact fun p hp => .tail _ (.tail _ hp) | exact fun p hp => .tail _ (.tail _ (.tail _ hp)) | exact fun p hp => .tail _ (.tail _ (.tail _ (.tail _ hp))) | exact fun p hp => .tail _ (.tail _ (.tail _ (.tail _ (.tail _ hp)))) | exact fun p hp => .tail _ (.tail _ (.tail _ (.tail _ (.tail _ (.tail _ hp))))) | exact fun p hp => .tail _ (.tail _ (.tail _ (.tail _ (.tail _ (.tail _ (.tail _ hp)))))) | exact fun p hp => .tail _ (.tail _ (.tail _ (.tail _ (.tail _ (.tail _ (.tail _ (.tail _ hp))))))) | exact fun p hp => .tail _ (.tail _ (.tail _ (.tail _ (.tail _ (.tail _ (.tail _ (.tail _ (.tail _ hp)))))))) | exact fun p hp => .tail _ (.tail _ (.tail _ (.tail _ (.tail _ (.tail _ (.tail _ (.tail _ (.tail _ (.tail _ hp))))))))) | exact fun p hp => .tail _ (.tail _ (.tail _ (.tail _ (.tail _ (.tail _ (.tail _ (.tail _ (.tail _ (.tail _ (.tail _ hp)))))))))) | exact fun p hp => .tail _ (.tail _ (.tail _ (.tail _ (.tail _ (.tail _ (.tail _ (.tail _ (.tail _ (.tail _ (.tail _ (.tail _ hp))))))))))) | exact fun p hp => .tail _ (.tail _ (.tail _ (.tail _ (.tail _ (.tail _ (.tail _ (.tail _ (.tail _ (.tail _ (.tail _ (.tail _ (.tail _ hp)))))))))))) | exact fun p hp => .tail _ (.tail _ (.tail _ (.tail _ (.tail _ (.tail _ (.tail _ (.tail _ (.tail _ (.tail _ (.tail _ (.tail _ (.tail _ (.tail _ hp))))))))))))) | exact fun p hp => .tail _ (.tail _ (.tail _ (.tail _ (.tail _ (.tail _ (.tail _ (.tail _ (.tail _ (.tail _ (.tail _ (.tail _ (.tail _ (.tail _ (.tail _ hp))))))))))))))) (by assumption) (by first | rfl | assumption))
    · congr 1; omega
end
end Mine
namespace Mine
open PySem PySem.W PySem.Calls PySem.Spec PyProof.Rows
local macro_rules | `(tactic| walk_at "eval Constant float") => `(tactic| (k_dflt (refine' constHI (by first | exact isH_half | assumption) ?_); intro z' hz'))
local macro_rules | `(tactic| walk_at "binaryOp Add float int") => `(tactic| (k_dflt (refine' addHI (by assumption) (by omega) (by omega) ?_); intro z' hz'))
local macro_rules | `(tactic| walk_at "binaryOp Add int float") => `(tactic| (k_dflt (refine' addIH (by assumption) (by omega) (by omega) ?_); intro z' hz'))
local macro_rules | `(tactic| walk_at "binaryOp Sub float float") => `(tactic| (k_dflt (refine' subHH (by assumption) (by assumption) (by omega) ?_); intro z' hz'))
local macro_rules | `(tactic| walk_at "binaryOp Mod float int") => `(tactic| (k_dflt (refine' modHI' (by assumption) (by omega) (by omega) (by omega) (by omega) ?_); intro z' hz'))
local macro_rules | `(tactic| walk_at "binaryOp Div float int") => `(tactic| (k_dflt (refine' divHI20' (by assumption) (by omega) (by omega) (by omega) ?_); intro z' hz'))
local macro_rules | `(tactic| walk_at "call builtin:math.trunc") => `(tactic| (k_dflt first | (refine' truncH (by assumption) (by omega) rfl ?_) | (refine' truncQ (by assumption) rfl ?_)))
local macro_rules | `(tactic| walk_at "call type:int") => `(tactic| ((with_reducible show wpAny _ _ (call _ [Value.float _ _]) _ _ _); k_dflt (refine' intH (by assumption) (by omega) ?_)))
local macro_rules | `(tactic| walk_at "compareOp Eq float float") => `(tactic| (k_dflt (refine' eqHH (by assumption) (by assumption) ?_)))
local macro_rules | `(tactic| walk_at "compareOp NotEq float float") => `(tactic| (k_dflt (refine' neHH (by assumption) (by assumption) ?_)))
local macro_rules | `(tactic| walk_at "compareOp Lt float float") => `(tactic| (k_dflt (refine' ltHH (by assumption) (by assumption) ?_)))
local macro_rules | `(tactic| walk_at "subscriptTail") => `(tactic| ((with_reducible show wpAny _ _ (subscriptTail _ _ (Value.ref _) (Value.int _ _)) _ _ _); k_dflt (first
  | refine' item50 (by assumption) (by assumption) (by omega) (by omega) ?_ (by with_unfolding_all rfl)
  | refine' item51 (by assumption) (by assumption) (by omega) (by omega) ?_ (by with_unfolding_all rfl)
  | refine' item101 (by assumption) (by assumption) (by omega) (by omega) ?_ (by with_unfolding_all rfl)
  | refine' item102 (by assumption) (by assumption) (by omega) (by omega) ?_ (by with_unfolding_all rfl)); intro t'))
local macro_rules | `(tactic| walk_at "getMethod ref") => `(tactic| ((with_reducible show wpAny _ _ (getMethod (Value.ref _) (Str.ofString "index") _) _ _ _); k_dflt (first | refine' getIndex50 (by assumption) (by assumption) ?_ | refine' getIndex51 (by assumption) (by assumption) ?_)))
local macro_rules | `(tactic| walk_at "call builtin:list.index") => `(tactic| (k_dflt (first | refine' idx50 (by assumption) (by assumption) (by omega) (by omega) rfl ?_ ?_ | refine' idx51 (by assumption) (by assumption) (by omega) (by omega) rfl ?_ ?_); (first | (intro hj' h' tk' e' hx') | (intro hj'))))
local macro_rules | `(tactic| walk_at "exec Raise some none") => `(tactic| refine Raise_new rfl ?_)
local macro_rules | `(tactic| walk_at "exec Try") => `(tactic| ((with_reducible show wpAny _ _ (exec (Stmt.Try _ (_ :: _) _ [] _) _) _ _ _); refine wpAny_Try_except ?_))
local macro_rules | `(tactic| walk_at "call ref") => `(tactic| ((with_reducible show wpAny _ _ (call (Value.ref 100) _) _ _ _); refine Back.out ?_))
local macro_rules | `(tactic| walk_at "call ref") => `(tactic| ((with_reducible show wpAny _ _ (call (Value.ref 93) _) _ _ _); refine Back.out ?_))
local macro_rules | `(tactic| walk_at "call ref") => `(tactic| ((with_reducible show wpAny _ _ (call (Value.ref 86) _) _ _ _); refine Back.out ?_))
theorem solid_in {envs : List Env} {env : Env} {h₀ h : Heap} {L a : Addr} {m : Str → Option Value} {o : Obj} (F : Fr (solid (fsOf envs) h₀) L h m) (hf : env.frame = some L) (e : (solid (fsOf envs) h₀).get? a = some o) : (solid (fsOf (env :: envs)) h).get? a = some o := by
  have q := solid_get.mp e
  refine solid_get.mpr ⟨F.keep a o e, fun hm => ?_⟩
  rw [fsOf_cons hf] at hm
  rcases List.mem_cons.mp hm with r | hm
  · exact q.2 (r ▸ .head _)
  · rcases List.mem_cons.mp hm with r | hm
    · exact q.2 (r ▸ .tail _ (.head _))
    · rcases List.mem_cons.mp hm with rfl | hm
      · exact absurd (Heap.lt_size q.1) (Nat.not_lt.mpr (solid_lt F))
      · exact q.2 (.tail _ (.tail _ hm))
section
variable {w : World} {mg mb : Str → Option Value} {ob : Obj} {dp un n : Nat} {gd : Option (List Code)} {envs : List Env} {s : Shared} {Q E : Value → Shared → Prop}
def ToldB (N wn wi e m : Int) (v : Value) : Prop :=
  ((0 ≤ e ∧ e ≤ 19 ∧ m ≤ 18 ∧ 1 ≤ wn ∧ wn ≤ 13 ∧ wi ≤ 19) ∧ ∃ y z' t, v = .float z' t ∧ IsH z' (2 * (N + y) + 1168565) ∧ 0 ≤ y ∧ y < 18980 ∧ Meets N wn wi e m y)
  ∨ (∃ t, v = .str "index" t) ∧ (e < 0 ∨ 19 < e ∨ wn < 1 ∨ 13 < wn ∨ (m ≤ 18 ∧ wi ≤ 19 ∧ ∀ y, 0 ≤ y → y < 18980 → ¬ Meets N wn wi e m y))
  ∨ (∃ t, v = .str "value" t) ∧ (m = 19 ∨ wi = 20)
set_option maxHeartbeats 40000000 in
theorem tb_spec (x : Sit w mg mb ob dp un envs (n + 4) s) (aT aH : Addr) (t1 t2 t3 t4 t5 : Tok) (wn wi e m N : Int) (z : UInt64) (hz : IsH z (2 * N + 1168565)) (hN1 : -2000 ≤ N) (hN2 : N < 1000100000)
    (hi0 : 0 ≤ wi) (hi1 : wi < 21) (hm0 : 0 ≤ m) (hm1 : m < 20)
    (hT : (solid (fsOf envs) s.heap).get? aT = some (tupO [.int wn t1, .str (tstr wi) t2])) (hH : (solid (fsOf envs) s.heap).get? aH = some (tupO [.int e t3, .str (mstr m) t4]))
    (hQ : ∀ v s', Aft w mg mb ob envs s s' → ToldB N wn wi e m v → Q v s') :
    wpAny (model PRG w) (aro dp un gd envs) (call (.ref 130) [.ref aT, .ref aH, .float z t5]) Q E s := by
  have hb0 := x.bare
  refine wpAny_call ?_
  k_dflt (refine' enter x ?k6 ?k7 ?k9 ?kB ?_ ?c2 ?c3 ?c4 ?c5; (case k6 => k_is); (case k7 => k_is); (case k9 => exact BindsTo.of_eq rfl); (case kB => exact locs rfl); (case c2 => exact rfl); (case c3 => exact rfl); (case c4 => exact rfl); (case c5 => decide))
  intro L' h₁ mu F' N' M X' T'
  try dsimp only
  k_fold
  k_steps
  refine Back.mk ?_
  refine use (made := []) x (by assumption) (by assumption) (by assumption) Plain.nil rfl (by intro z; cases z) (by assumption) (by first | rfl | assumption) (fun x' k' => nth_spec x' aT aH t1 t2 t3 t4 t5 wn wi e m N z hz hN1 hN2 hi0 hi1 hm0 hm1 (solid_in (by assumption) rfl hT) (solid_in (by assumption) rfl hH) (fun v s' a b c => k' v s' a (And.intro b c)) ?q1 ?q2) ?q3
  case q3 =>
    intro v' s' mu' M' F' N' hb' ho' P'
    k_steps
    refine Back.mk (hQ _ _ ?_ (.inl P'))
    exact (aft_out x (by assumption) (by assumption) (by assumption) (by first | exact fun p hp => hp | exact fun p hp => .tail _ hp | exact fun p hp => .tail _ (.tail _ hp) | exact fun p hp => .tail _ (.tail _ (.tail _ hp)) | exact fun p hp => .tail _ (.tail _ (.tail _ (.tail _ hp))) | exact fun p hp => .tail _ (.tail _ (.tail _ (.tail _ (.tail _ hp)))) | exact fun p hp => .tail _ (.tail _ (.tail _ (.tail _ (.tail _ (.tail _ hp))))) | exact fun p hp => .tail _ (.tail _ (.tail _ (.tail _ (.tail _ (.tail _ (.tail _ hp)))))) | exact fun p hp => .tail _ (.tail _ (.tail _ (.tail _ (.tail _ (.tail _ (.tail _ (.tail _ hp))))))) | exact fun p hp => .tail _ (.tail _ (.tail _ (.tail _ (.tail _ (.tail _ (.tail _ (.tail _ (.tail _ hp)))))))) | exact fun p hp => .tail _ (.tail _ (.tail _ (.tail _ (.tail _ (.tail _ (.tail _ (.tail _ (.tail _ (.tail _ hp))))))))) | exact fun p hp => .tail _ (.tail _ (.tail _ (.tail _ (.tail _ (.tail _ (.tail _ (.tail _ (.tail _ (.tail _ (.tail _ hp)))))))))) | exact fun p hp => .tail _ (.tail _ (.tail _ (.tail _ (.tail _ (.tail _ (.tail _ (.tail _ (.tail _ (.tail _ (.tail _ (.tail _ hp))))))))))) | exact fun p hp => .tail _ (.tail _ (.tail _ (.tail _ (.tail _ (.tail _ (.tail _ (.tail _ (.tail _ (.tail _ (.tail _ (.tail _ (.tail _ hp)))))))))))) | exact fun p hp => .tail _ (.tail _ (.tail _ (.tail _ (.tail _ (.tail _ (.tail _ (.tail _ (.tail _ (.tail _ (.tail _ (.tail _ (.tail _ (.tail _ hp))))))))))))) | exact fun p hp => .tail _ (.tail _ (.tail _ (.tail _ (.tail _ (.tail _ (.tail _ (.tail _ (.tail _ (.tail _ (.tail _ (.tail _ (.tail _ (.tail _ (.tail _ hp))))))))))))))) (by assumption) (by first | rfl | assumption))
  case q1 =>
    intro ex s' fl c
    k_steps
    refine note_fly (made := []) rfl x (by assumption) (by assumption) (by assumption) Plain.nil rfl (by intro z; cases z) fl fun h2 c2 => ?_
    refine c2.land fun h3 c3 => ?_
    refine clause_hit2 rfl c3 ?hx rfl (by decide) rfl rfl rfl ?hexc ?hnt ?hsub passes_back fun h4 c4 => ?_
    case hx => k_is
    case hexc => exact excR_IndexError.isExc
    case hnt => exact nt_IndexError
    case hsub => exact sub_II
    obtain ⟨mu4, M4, F4, N4⟩ := c4.facts
    have hb4 := fl.bare
    have ho4 : s'.os = s.os := fl.os
    k_steps
    refine Back.mk (hQ _ _ ?_ (.inr (.inl ⟨⟨_, rfl⟩, c⟩)))
    exact (aft_out x (by assumption) (by assumption) (by assumption) (by first | exact fun p hp => hp | exact fun p hp => .tail _ hp | exact fun p hp => .tail _ (.tail _ hp) | exact fun p hp => .tail _ (.tail _ (.tail _ hp)) | exact fun p hp => .tail _ (.tail _ (.tail _ (.tail _ hp))) | exact fun p hp => .tail _ (.tail _ (.tail _ (.tail _ (.tail _ hp)))) | exact fun p hp => .tail _ (.tail _ (.tail _ (.tail _ (.tail _ (.tail _ hp))))) | exact fun p hp => .tail _ (.tail _ (.tail _ (.tail _ (.tail _ (.tail _ (.tail _ hp)))))) | exact fun p hp => .tail _ (.tail _ (.tail _ (.tail _ (.tail _ (.tail _ (.tail _ (.tail _ hp))))))) | exact fun p hp => .tail _ (.tail _ (.tail _ (.tail _ (.tail _ (.tail _ (.tail _ (.tail _ (.tail _ hp)))))))) | exact fun p hp => .tail _ (.tail _ (.tail _ (.tail _ (.tail _ (.tail _ (.tail _ (.tail _ (.tail _ (.tail _ hp))))))))) | exact fun p hp => .tail _ (.tail _ (.tail _ (.tail _ (.tail _ (.tail _ (.tail _ (.tail _ (.tail _ (.tail _ (.tail _ hp)))))))))) | exact fun p hp => .tail _ (.tail _ (.tail _ (.tail _ (.tail _ (.tail _ (.tail _ (.tail _ (.tail _ (.tail _ (.tail _ (.tail _ hp))))))))))) | exact fun p hp => .tail _ (.tail _ (.tail _ (.tail _ (.tail _ (.tail _ (.tail _ (.tail _ (.tail _ (.tail _ (.tail _ (.tail _ (.tail _ hp)))))))))))) | exact fun p hp => .tail _ (.tail _ (.tail _ (.tail _ (.tail _ (.tail _ (.tail _ (.tail _ (.tail _ (.tail _ (.tail _ (.tail _ (.tail _ (.tail _ hp))))))))))))) | exact fun p hp => .tail _ (.tail _ (.tail _ (.tail _ (.tail _ (.tail _ (.tail _ (.tail _ (.tail _ (.tail _ (.tail _ (.tail _ (.tail _ (.tail _ (.tail _ hp))))))))))))))) (by assumption) (by first | rfl | assumption))
  case q2 =>
    intro ex s' fl c
    k_steps
    refine note_fly (made := []) rfl x (by assumption) (by assumption) (by assumption) Plain.nil rfl (by intro z; cases z) fl fun h2 c2 => ?_
    refine c2.land fun h3 c3 => ?_
    refine clause_miss2 rfl c3 ?mx rfl (by decide) rfl rfl rfl ?mexc ?mnt ?msub ?_
    case mx => k_is
    case mexc => exact excR_IndexError.isExc
    case mnt => exact nt_IndexError
    case msub => exact sub_VI
    refine clause_hit2 rfl c3 ?hx rfl (by decide) rfl rfl rfl ?hexc ?hnt ?hsub passes_back fun h4 c4 => ?_
    case hx => k_is
    case hexc => exact excR_ValueError.isExc
    case hnt => exact nt_ValueError
    case hsub => exact sub_VV
    obtain ⟨mu4, M4, F4, N4⟩ := c4.facts
    have hb4 := fl.bare
    have ho4 : s'.os = s.os := fl.os
    k_steps
    refine Back.mk (hQ _ _ ?_ (.inr (.inr ⟨⟨_, rfl⟩, c⟩)))
    exact (aft_out x (by assumption) (by assumption) (by assumption) (by first | exact fun p hp => hp | exact fun p hp => .tail _ hp | exact fun p hp => .tail _ (.tail _ hp) | exact fun p hp => .tail _ (.tail _ (.tail _ hp)) | exact fun p hp => .tail _ (.tail _ (.tail _ (.tail _ hp))) | exact fun p hp => .tail _ (.tail _ (.tail _ (.tail _ (.tail _ hp)))) | exact fun p hp => .tail _ (.tail _ (.tail _ (.tail _ (.tail _ (.tail _ hp))))) | exact fun p hp => .tail _ (.tail _ (.tail _ (.tail _ (.tail _ (.tail _ (.tail _ hp)))))) | exact fun p hp => .tail _ (.tail _ (.tail _ (.tail _ (.tail _ (.tail _ (.tail _ (.tail _ hp))))))) | exact fun p hp => .tail _ (.tail _ (.tail _ (.tail _ (.tail _ (.tail _ (.tail _ (.tail _ (.tail _ hp)))))))) | exact fun p hp => .tail _ (.tail _ (.tail _ (.tail _ (.tail _ (.tail _ (.tail _ (.tail _ (.tail _ (.tail _ hp))))))))) | exact fun p hp => .tail _ (.tail _ (.tail _ (.tail _ (.tail _ (.tail _ (.tail _ (.tail _ (.tail _ (.tail _ (.tail _ hp)))))))))) | exact fun p hp => .tail _ (.tail _ (.tail _ (.tail _ (.tail _ (.tail _ (.tail _ (.tail _ (.tail _ (.tail _ (.tail _ (.tail _ hp))))))))))) | exact fun p hp => .tail _ (.tail _ (.tail _ (.tail _ (.tail _ (.tail _ (.tail _ (.tail _ (.tail _ (.tail _ (.tail _ (.tail _ (.tail _ hp)))))))))))) | exact fun p hp => .tail _ (.tail _ (.tail _ (.tail _ (.tail _ (.tail _ (.tail _ (.tail _ (.tail _ (.tail _ (.tail _ (.tail _ (.tail _ (.tail _ hp))))))))))))) | exact fun p hp => .tail _ (.tail _ (.tail _ (.tail _ (.tail _ (.tail _ (.tail _ (.tail _ (.tail _ (.tail _ (.tail _ (.tail _ (.tail _ (.tail _ (.tail _ hp))))))))))))))) (by assumption) (by first | rfl | assumption))
def ToldT (N wn wi : Int) (v : Value) : Prop :=
  ((0 ≤ N ∧ 1 ≤ wn ∧ wn ≤ 13 ∧ wi ≤ 19) ∧ ∃ y z' t, v = .float z' t ∧ IsH z' (2 * (N + y) + 1168565) ∧ 0 ≤ y ∧ y < 260 ∧ (y + N + 4 - wn) % 13 = 0 ∧ (y + N + 19 - wi) % 20 = 0)
  ∨ (∃ t, v = .str "index" t) ∧ (N < 0 ∨ wn < 1 ∨ 13 < wn) ∨ (∃ t, v = .str "value" t) ∧ wi = 20
set_option maxHeartbeats 40000000 in
theorem tt_spec (x : Sit w mg mb ob dp un envs (n + 4) s) (aT : Addr) (t1 t2 t5 : Tok) (wn wi N : Int) (z : UInt64) (hz : IsH z (2 * N + 1168565)) (hN1 : -2000 ≤ N) (hN2 : N < 1000100000)
    (hi0 : 0 ≤ wi) (hi1 : wi < 21)
    (hT : (solid (fsOf envs) s.heap).get? aT = some (tupO [.int wn t1, .str (tstr wi) t2]))
    (hQ : ∀ v s', Aft w mg mb ob envs s s' → ToldT N wn wi v → Q v s') :
    wpAny (model PRG w) (aro dp un gd envs) (call (.ref 137) [.ref aT, .float z t5]) Q E s := by
  have hb0 := x.bare
  refine wpAny_call ?_
  k_dflt (refine' enter x ?k6 ?k7 ?k9 ?kB ?_ ?c2 ?c3 ?c4 ?c5; (case k6 => k_is); (case k7 => k_is); (case k9 => exact BindsTo.of_eq rfl); (case kB => exact locs rfl); (case c2 => exact rfl); (case c3 => exact rfl); (case c4 => exact rfl); (case c5 => decide))
  intro L' h₁ mu F' N' M X' T'
  try dsimp only
  k_fold
  k_steps
  refine Back.mk ?_
  refine use (made := []) x (by assumption) (by assumption) (by assumption) Plain.nil rfl (by intro z; cases z) (by assumption) (by first | rfl | assumption) (fun x' k' => nt_spec x' aT t1 t2 t5 wn wi N z hz hN1 hN2 hi0 hi1 (solid_in (by assumption) rfl hT) (fun v s' a b c => k' v s' a (And.intro b c)) ?q1 ?q2) ?q3
  case q3 =>
    intro v' s' mu' M' F' N' hb' ho' P'
    k_steps
    refine Back.mk (hQ _ _ ?_ (.inl P'))
    exact (aft_out x (by assumption) (by assumption) (by assumption) (by first | exact fun p hp => hp | exact fun p hp => .tail _ hp | exact fun p hp => .tail _ (.tail _ hp) | exact fun p hp => .tail _ (.tail _ (.tail _ hp)) | exact fun p hp => .tail _ (.tail _ (.tail _ (.tail _ hp))) | exact fun p hp => .tail _ (.tail _ (.tail _ (.tail _ (.tail _ hp)))) | exact fun p hp => .tail _ (.tail _ (.tail _ (.tail _ (.tail _ (.tail _ hp))))) | exact fun p hp => .tail _ (.tail _ (.tail _ (.tail _ (.tail _ (.tail _ (.tail _ hp)))))) | exact fun p hp => .tail _ (.tail _ (.tail _ (.tail _ (.tail _ (.tail _ (.tail _ (.tail _ hp))))))) | exact fun p hp => .tail _ (.tail _ (.tail _ (.tail _ (.tail _ (.tail _ (.tail _ (.tail _ (.tail _ hp)))))))) | exact fun p hp => .tail _ (.tail _ (.tail _ (.tail _ (.tail _ (.tail _ (.tail _ (.tail _ (.tail _ (.tail _ hp))))))))) | exact fun p hp => .tail _ (.tail _ (.tail _ (.tail _ (.tail _ (.tail _ (.tail _ (.tail _ (.tail _ (.tail _ (.tail _ hp)))))))))) | exact fun p hp => .tail _ (.tail _ (.tail _ (.tail _ (.tail _ (.tail _ (.tail _ (.tail _ (.tail _ (.tail _ (.tail _ (.tail _ hp))))))))))) | exact fun p hp => .tail _ (.tail _ (.tail _ (.tail _ (.tail _ (.tail _ (.tail _ (.tail _ (.tail _ (.tail _ (.tail _ (.tail _ (.tail _ hp)))))))))))) | exact fun p hp => .tail _ (.tail _ (.tail _ (.tail _ (.tail _ (.tail _ (.tail _ (.tail _ (.tail _ (.tail _ (.tail _ (.tail _ (.tail _ (.tail _ hp))))))))))))) | exact fun p hp => .tail _ (.tail _ (.tail _ (.tail _ (.tail _ (.tail _ (.tail _ (.tail _ (.tail _ (.tail _ (.tail _ (.tail _ (.tail _ (.tail _ (.tail _ hp))))))))))))))) (by assumption) (by first | rfl | assumption))
  case q1 =>
    intro ex s' fl c
    k_steps
    refine note_fly (made := []) rfl x (by assumption) (by assumption) (by assumption) Plain.nil rfl (by intro z; cases z) fl fun h2 c2 => ?_
    refine c2.land fun h3 c3 => ?_
    refine clause_hit2 rfl c3 ?hx rfl (by decide) rfl rfl rfl ?hexc ?hnt ?hsub passes_back fun h4 c4 => ?_
    case hx => k_is
    case hexc => exact excR_IndexError.isExc
    case hnt => exact nt_IndexError
    case hsub => exact sub_II
    obtain ⟨mu4, M4, F4, N4⟩ := c4.facts
    have hb4 := fl.bare
    have ho4 : s'.os = s.os := fl.os
    k_steps
    refine Back.mk (hQ _ _ ?_ (.inr (.inl ⟨⟨_, rfl⟩, c⟩)))
    exact (aft_out x (by assumption) (by assumption) (by assumption) (by first | exact fun p hp => hp | exact fun p hp => .tail _ hp | exact fun p hp => .tail _ (.tail _ hp) | exact fun p hp => .tail _ (.tail _ (.tail _ hp)) | exact fun p hp => .tail _ (.tail _ (.tail _ (.tail _ hp))) | exact fun p hp => .tail _ (.tail _ (.tail _ (.tail _ (.tail _ hp)))) | exact fun p hp => .tail _ (.tail _ (.tail _ (.tail _ (.tail _ (.tail _ hp))))) | exact fun p hp => .tail _ (.tail _ (.tail _ (.tail _ (.tail _ (.tail _ (.tail _ hp)))))) | exact fun p hp => .tail _ (.tail _ (.tail _ (.tail _ (.tail _ (.tail _ (.tail _ (.tail _ hp))))))) | exact fun p hp => .tail _ (.tail _ (.tail _ (.tail _ (.tail _ (.tail _ (.tail _ (.tail _ (.tail _ hp)))))))) | exact fun p hp => .tail _ (.tail _ (.tail _ (.tail _ (.tail _ (.tail _ (.tail _ (.tail _ (.tail _ (.tail _ hp))))))))) | exact fun p hp => .tail _ (.tail _ (.tail _ (.tail _ (.tail _ (.tail _ (.tail _ (.tail _ (.tail _ (.tail _ (.tail _ hp)))))))))) | exact fun p hp => .tail _ (.tail _ (.tail _ (.tail _ (.tail _ (.tail _ (.tail _ (.tail _ (.tail _ (.tail _ (.tail _ (.tail _ hp))))))))))) | exact fun p hp => .tail _ (.tail _ (.tail _ (.tail _ (.tail _ (.tail _ (.tail _ (.tail _ (.tail _ (.tail _ (.tail _ (.tail _ (.tail _ hp)))))))))))) | exact fun p hp => .tail _ (.tail _ (.tail _ (.tail _ (.tail _ (.tail _ (.tail _ (.tail _ (.tail _ (.tail _ (.tail _ (.tail _ (.tail _ (.tail _ hp))))))))))))) | exact fun p hp => .tail _ (.tail _ (.tail _ (.tail _ (.tail _ (.tail _ (.tail _ (.tail _ (.tail _ (.tail _ (.tail _ (.tail _ (.tail _ (.tail _ (.tail _ hp))))))))))))))) (by assumption) (by first | rfl | assumption))
  case q2 =>
    intro ex s' fl c
    k_steps
    refine note_fly (made := []) rfl x (by assumption) (by assumption) (by assumption) Plain.nil rfl (by intro z; cases z) fl fun h2 c2 => ?_
    refine c2.land fun h3 c3 => ?_
    refine clause_miss2 rfl c3 ?mx rfl (by decide) rfl rfl rfl ?mexc ?mnt ?msub ?_
    case mx => k_is
    case mexc => exact excR_IndexError.isExc
    case mnt => exact nt_IndexError
    case msub => exact sub_VI
    refine clause_hit2 rfl c3 ?hx rfl (by decide) rfl rfl rfl ?hexc ?hnt ?hsub passes_back fun h4 c4 => ?_
    case hx => k_is
    case hexc => exact excR_ValueError.isExc
    case hnt => exact nt_ValueError
    case hsub => exact sub_VV
    obtain ⟨mu4, M4, F4, N4⟩ := c4.facts
    have hb4 := fl.bare
    have ho4 : s'.os = s.os := fl.os
    k_steps
    refine Back.mk (hQ _ _ ?_ (.inr (.inr ⟨⟨_, rfl⟩, c⟩)))
    exact (aft_out x (by assumption) (by assumption) (by assumption) (by first | exact fun p hp => hp | exact fun p hp => .tail _ hp | exact fun p hp => .tail _ (.tail _ hp) | exact fun p hp => .tail _ (.tail _ (.tail _ hp)) | exact fun p hp => .tail _ (.tail _ (.tail _ (.tail _ hp))) | exact fun p hp => .tail _ (.tail _ (.tail _ (.tail _ (.tail _ hp)))) | exact fun p hp => .tail _ (.tail _ (.tail _ (.tail _ (.tail _ (.tail _ hp))))) | exact fun p hp => .tail _ (.tail _ (.tail _ (.tail _ (.tail _ (.tail _ (.tail _ hp)))))) | exact fun p hp => .tail _ (.tail _ (.tail _ (.tail _ (.tail _ (.tail _ (.tail _ (.tail _ hp))))))) | exact fun p hp => .tail _ (.tail _ (.tail _ (.tail _ (.tail _ (.tail _ (.tail _ (.tail _ (.tail _ hp)))))))) | exact fun p hp => .tail _ (.tail _ (.tail _ (.tail _ (.tail _ (.tail _ (.tail _ (.tail _ (.tail _ (.tail _ hp))))))))) | exact fun p hp => .tail _ (.tail _ (.tail _ (.tail _ (.tail _ (.tail _ (.tail _ (.tail _ (.tail _ (.tail _ (.tail _ hp)))))))))) | exact fun p hp => .tail _ (.tail _ (.tail _ (.tail _ (.tail _ (.tail _ (.tail _ (.tail _ (.tail _ (.tail _ (.tail _ (.tail _ hp))))))))))) | exact fun p hp => .tail _ (.tail _ (.tail _ (.tail _ (.tail _ (.tail _ (.tail _ (.tail _ (.tail _ (.tail _ (.tail _ (.tail _ (.tail _ hp)))))))))))) | exact fun p hp => .tail _ (.tail _ (.tail _ (.tail _ (.tail _ (.tail _ (.tail _ (.tail _ (.tail _ (.tail _ (.tail _ (.tail _ (.tail _ (.tail _ hp))))))))))))) | exact fun p hp => .tail _ (.tail _ (.tail _ (.tail _ (.tail _ (.tail _ (.tail _ (.tail _ (.tail _ (.tail _ (.tail _ (.tail _ (.tail _ (.tail _ (.tail _ hp))))))))))))))) (by assumption) (by first | rfl | assumption))
def ToldM (N m : Int) (v : Value) : Prop :=
  ((0 ≤ N ∧ m ≤ 18) ∧ ∃ y z' t, v = .float z' t ∧ IsH z' (2 * (N + y) + 1168565) ∧ ((N + 348) % 365 / 20 = m ∧ y = 1 - (N + 348) % 365 % 20 ∨ (N + 348) % 365 / 20 ≠ m ∧ y = (20 * m + 1 - (20 * ((N + 348) % 365 / 20) + (N + 348) % 365 % 20)) % 365))
  ∨ (∃ t, v = .str "index" t) ∧ N < 0 ∨ (∃ t, v = .str "value" t) ∧ m = 19
set_option maxHeartbeats 40000000 in
theorem tm_spec (x : Sit w mg mb ob dp un envs (n + 4) s) (t1 t5 : Tok) (m N : Int) (z : UInt64) (hz : IsH z (2 * N + 1168565)) (hN1 : -2000 ≤ N) (hN2 : N < 1000100000)
    (hm0 : 0 ≤ m) (hm1 : m < 20)
    (hQ : ∀ v s', Aft w mg mb ob envs s s' → ToldM N m v → Q v s') :
    wpAny (model PRG w) (aro dp un gd envs) (call (.ref 144) [.str (mstr m) t1, .float z t5]) Q E s := by
  have hb0 := x.bare
  refine wpAny_call ?_
  k_dflt (refine' enter x ?k6 ?k7 ?k9 ?kB ?_ ?c2 ?c3 ?c4 ?c5; (case k6 => k_is); (case k7 => k_is); (case k9 => exact BindsTo.of_eq rfl); (case kB => exact locs rfl); (case c2 => exact rfl); (case c3 => exact rfl); (case c4 => exact rfl); (case c5 => decide))
  intro L' h₁ mu F' N' M X' T'
  try dsimp only
  k_fold
  k_steps
  refine Back.mk ?_
  refine use (made := []) x (by assumption) (by assumption) (by assumption) Plain.nil rfl (by intro z; cases z) (by assumption) (by first | rfl | assumption) (fun x' k' => nh_spec x' t1 t5 m N z hz hN1 hN2 hm0 hm1 (fun v s' a b c => k' v s' a (And.intro b c)) ?q1 ?q2) ?q3
  case q3 =>
    intro v' s' mu' M' F' N' hb' ho' P'
    k_steps
    refine Back.mk (hQ _ _ ?_ (.inl P'))
    exact (aft_out x (by assumption) (by assumption) (by assumption) (by first | exact fun p hp => hp | exact fun p hp => .tail _ hp | exact fun p hp => .tail _ (.tail _ hp) | exact fun p hp => .tail _ (.tail _ (.tail _ hp)) | exact fun p hp => .tail _ (.tail _ (.tail _ (.tail _ hp))) | exact fun p hp => .tail _ (.tail _ (.tail _ (.tail _ (.tail _ hp)))) | exact fun p hp => .tail _ (.tail _ (.tail _ (.tail _ (.tail _ (.tail _ hp))))) | exact fun p hp => .tail _ (.tail _ (.tail _ (.tail _ (.tail _ (.tail _ (.tail _ hp)))))) | exact fun p hp => .tail _ (.tail _ (.tail _ (.tail _ (.tail _ (.tail _ (.tail _ (.tail _ hp))))))) | exact fun p hp => .tail _ (.tail _ (.tail _ (.tail _ (.tail _ (.tail _ (.tail _ (.tail _ (.tail _ hp)))))))) | exact fun p hp => .tail _ (.tail _ (.tail _ (.tail _ (.tail _ (.tail _ (.tail _ (.tail _ (.tail _ (.tail _ hp))))))))) | exact fun p hp => .tail _ (.tail _ (.tail _ (.tail _ (.tail _ (.tail _ (.tail _ (.tail _ (.tail _ (.tail _ (.tail _ hp)))))))))) | exact fun p hp => .tail _ (.tail _ (.tail _ (.tail _ (.tail _ (.tail _ (.tail _ (.tail _ (.tail _ (.tail _ (.tail _ (.tail _ hp))))))))))) | exact fun p hp => .tail _ (.tail _ (.tail _ (.tail _ (.tail _ (.tail _ (.tail _ (.tail _ (.tail _ (.tail _ (.tail _ (.tail _ (.tail _ hp)))))))))))) | exact fun p hp => .tail _ (.tail _ (.tail _ (.tail _ (.tail _ (.tail _ (.tail _ (.tail _ (.tail _ (.tail _ (.tail _ (.tail _ (.tail _ (.tail _ hp))))))))))))) | exact fun p hp => .tail _ (.tail _ (.tail _ (.tail _ (.tail _ (.tail _ (.tail _ (.tail _ (.tail _ (.tail _ (.tail _ (.tail _ (.tail _ (.tail _ (.tail _ hp))))))))))))))) (by assumption) (by first | rfl | assumption))
  case q1 =>
    intro ex s' fl c
    k_steps
    refine note_fly (made := []) rfl x (by assumption) (by assumption) (by assumption) Plain.nil rfl (by intro z; cases z) fl fun h2 c2 => ?_
    refine c2.land fun h3 c3 => ?_
    refine clause_hit2 rfl c3 ?hx rfl (by decide) rfl rfl rfl ?hexc ?hnt ?hsub passes_back fun h4 c4 => ?_
    case hx => k_is
    case hexc => exact excR_IndexError.isExc
    case hnt => exact nt_IndexError
    case hsub => exact sub_II
    obtain ⟨mu4, M4, F4, N4⟩ := c4.facts
    have hb4 := fl.bare
    have ho4 : s'.os = s.os := fl.os
    k_steps
    refine Back.mk (hQ _ _ ?_ (.inr (.inl ⟨⟨_, rfl⟩, c⟩)))
    exact (aft_out x (by assumption) (by assumption) (by assumption) (by first | exact fun p hp => hp | exact fun p hp => .tail _ hp | exact fun p hp => .tail _ (.tail _ hp) | exact fun p hp => .tail _ (.tail _ (.tail _ hp)) | exact fun p hp => .tail _ (.tail _ (.tail _ (.tail _ hp))) | exact fun p hp => .tail _ (.tail _ (.tail _ (.tail _ (.tail _ hp)))) | exact fun p hp => .tail _ (.tail _ (.tail _ (.tail _ (.tail _ (.tail _ hp))))) | exact fun p hp => .tail _ (.tail _ (.tail _ (.tail _ (.tail _ (.tail _ (.tail _ hp)))))) | exact fun p hp => .tail _ (.tail _ (.tail _ (.tail _ (.tail _ (.tail _ (.tail _ (.tail _ hp))))))) | exact fun p hp => .tail _ (.tail _ (.tail _ (.tail _ (.tail _ (.tail _ (.tail _ (.tail _ (.tail _ hp)))))))) | exact fun p hp => .tail _ (.tail _ (.tail _ (.tail _ (.tail _ (.tail _ (.tail _ (.tail _ (.tail _ (.tail _ hp))))))))) | exact fun p hp => .tail _ (.tail _ (.tail _ (.tail _ (.tail _ (.tail _ (.tail _ (.tail _ (.tail _ (.tail _ (.tail _ hp)))))))))) | exact fun p hp => .tail _ (.tail _ (.tail _ (.tail _ (.tail _ (.tail _ (.tail _ (.tail _ (.tail _ (.tail _ (.tail _ (.tail _ hp))))))))))) | exact fun p hp => .tail _ (.tail _ (.tail _ (.tail _ (.tail _ (.tail _ (.tail _ (.tail _ (.tail _ (.tail _ (.tail _ (.tail _ (.tail _ hp)))))))))))) | exact fun p hp => .tail _ (.tail _ (.tail _ (.tail _ (.tail _ (.tail _ (.tail _ (.tail _ (.tail _ (.tail _ (.tail _ (.tail _ (.tail _ (.tail _ hp))))))))))))) | exact fun p hp => .tail _ (.tail _ (.tail _ (.tail _ (.tail _ (.tail _ (.tail _ (.tail _ (.tail _ (.tail _ (.tail _ (.tail _ (.tail _ (.tail _ (.tail _ hp))))))))))))))) (by assumption) (by first | rfl | assumption))
  case q2 =>
    intro ex s' fl c
    k_steps
    refine note_fly (made := []) rfl x (by assumption) (by assumption) (by assumption) Plain.nil rfl (by intro z; cases z) fl fun h2 c2 => ?_
    refine c2.land fun h3 c3 => ?_
    refine clause_miss2 rfl c3 ?mx rfl (by decide) rfl rfl rfl ?mexc ?mnt ?msub ?_
    case mx => k_is
    case mexc => exact excR_IndexError.isExc
    case mnt => exact nt_IndexError
    case msub => exact sub_VI
    refine clause_hit2 rfl c3 ?hx rfl (by decide) rfl rfl rfl ?hexc ?hnt ?hsub passes_back fun h4 c4 => ?_
    case hx => k_is
    case hexc => exact excR_ValueError.isExc
    case hnt => exact nt_ValueError
    case hsub => exact sub_VV
    obtain ⟨mu4, M4, F4, N4⟩ := c4.facts
    have hb4 := fl.bare
    have ho4 : s'.os = s.os := fl.os
    k_steps
    refine Back.mk (hQ _ _ ?_ (.inr (.inr ⟨⟨_, rfl⟩, c⟩)))
    exact (aft_out x (by assumption) (by assumption) (by assumption) (by first | exact fun p hp => hp | exact fun p hp => .tail _ hp | exact fun p hp => .tail _ (.tail _ hp) | exact fun p hp => .tail _ (.tail _ (.tail _ hp)) | exact fun p hp => .tail _ (.tail _ (.tail _ (.tail _ hp))) | exact fun p hp => .tail _ (.tail _ (.tail _ (.tail _ (.tail _ hp)))) | exact fun p hp => .tail _ (.tail _ (.tail _ (.tail _ (.tail _ (.tail _ hp))))) | exact fun p hp => .tail _ (.tail _ (.tail _ (.tail _ (.tail _ (.tail _ (.tail _ hp)))))) | exact fun p hp => .tail _ (.tail _ (.tail _ (.tail _ (.tail _ (.tail _ (.tail _ (.tail _ hp))))))) | exact fun p hp => .tail _ (.tail _ (.tail _ (.tail _ (.tail _ (.tail _ (.tail _ (.tail _ (.tail _ hp)))))))) | exact fun p hp => .tail _ (.tail _ (.tail _ (.tail _ (.tail _ (.tail _ (.tail _ (.tail _ (.tail _ (.tail _ hp))))))))) | exact fun p hp => .tail _ (.tail _ (.tail _ (.tail _ (.tail _ (.tail _ (.tail _ (.tail _ (.tail _ (.tail _ (.tail _ hp)))))))))) | exact fun p hp => .tail _ (.tail _ (.tail _ (.tail _ (.tail _ (.tail _ (.tail _ (.tail _ (.tail _ (.tail _ (.tail _ (.tail _ hp))))))))))) | exact fun p hp => .tail _ (.tail _ (.tail _ (.tail _ (.tail _ (.tail _ (.tail _ (.tail _ (.tail _ (.tail _ (.tail _ (.tail _ (.tail _ hp)))))))))))) | exact fun p hp => .tail _ (.tail _ (.tail _ (.tail _ (.tail _ (.tail _ (.tail _ (.tail _ (.tail _ (.tail _ (.tail _ (.tail _ (.tail _ (.tail _ hp))))))))))))) | exact fun p hp => .tail _ (.tail _ (.tail _ (.tail _ (.tail _ (.tail _ (.tail _ (.tail _ (.tail _ (.tail _ (.tail _ (.tail _ (.tail _ (.tail _ (.tail _ hp))))))))))))))) (by assumption) (by first | rfl | assumption))
end
end Mine
namespace Mine
open PySem PySem.W PySem.Calls PySem.Spec PyProof.Rows
local macro_rules | `(tactic| walk_at "eval Constant float") => `(tactic| (k_dflt (refine' constHI (by first | exact isH_half | assumption) ?_); intro z' hz'))
local macro_rules | `(tactic| walk_at "binaryOp Add float int") => `(tactic| (k_dflt (refine' addHI (by assumption) (by omega) (by omega) ?_); intro z' hz'))
local macro_rules | `(tactic| walk_at "binaryOp Add int float") => `(tactic| (k_dflt (refine' addIH (by assumption) (by omega) (by omega) ?_); intro z' hz'))
local macro_rules | `(tactic| walk_at "binaryOp Sub float float") => `(tactic| (k_dflt (refine' subHH (by assumption) (by assumption) (by omega) ?_); intro z' hz'))
local macro_rules | `(tactic| walk_at "binaryOp Mod float int") => `(tactic| (k_dflt (refine' modHI' (by assumption) (by omega) (by omega) (by omega) (by omega) ?_); intro z' hz'))
local macro_rules | `(tactic| walk_at "binaryOp Div float int") => `(tactic| (k_dflt (refine' divHI20' (by assumption) (by omega) (by omega) (by omega) ?_); intro z' hz'))
local macro_rules | `(tactic| walk_at "call builtin:math.trunc") => `(tactic| (k_dflt first | (refine' truncH (by assumption) (by omega) rfl ?_) | (refine' truncQ (by assumption) rfl ?_)))
local macro_rules | `(tactic| walk_at "call type:int") => `(tactic| ((with_reducible show wpAny _ _ (call _ [Value.float _ _]) _ _ _); k_dflt (refine' intH (by assumption) (by omega) ?_)))
local macro_rules | `(tactic| walk_at "compareOp Eq float float") => `(tactic| (k_dflt (refine' eqHH (by assumption) (by assumption) ?_)))
local macro_rules | `(tactic| walk_at "compareOp NotEq float float") => `(tactic| (k_dflt (refine' neHH (by assumption) (by assumption) ?_)))
local macro_rules | `(tactic| walk_at "compareOp Lt float float") => `(tactic| (k_dflt (refine' ltHH (by assumption) (by assumption) ?_)))
local macro_rules | `(tactic| walk_at "subscriptTail") => `(tactic| ((with_reducible show wpAny _ _ (subscriptTail _ _ (Value.ref _) (Value.int _ _)) _ _ _); k_dflt (first
  | refine' item50 (by assumption) (by assumption) (by omega) (by omega) ?_ (by with_unfolding_all rfl)
  | refine' item51 (by assumption) (by assumption) (by omega) (by omega) ?_ (by with_unfolding_all rfl)
  | refine' item101 (by assumption) (by assumption) (by omega) (by omega) ?_ (by with_unfolding_all rfl)
  | refine' item102 (by assumption) (by assumption) (by omega) (by omega) ?_ (by with_unfolding_all rfl)); intro t'))
local macro_rules | `(tactic| walk_at "getMethod ref") => `(tactic| ((with_reducible show wpAny _ _ (getMethod (Value.ref _) (Str.ofString "index") _) _ _ _); k_dflt (first | refine' getIndex50 (by assumption) (by assumption) ?_ | refine' getIndex51 (by assumption) (by assumption) ?_)))
local macro_rules | `(tactic| walk_at "call builtin:list.index") => `(tactic| (k_dflt (first | refine' idx50 (by assumption) (by assumption) (by omega) (by omega) rfl ?_ ?_ | refine' idx51 (by assumption) (by assumption) (by omega) (by omega) rfl ?_ ?_); (first | (intro hj' h' tk' e' hx') | (intro hj'))))
local macro_rules | `(tactic| walk_at "exec Raise some none") => `(tactic| refine Raise_new rfl ?_)
section
variable {w : World} {mg mb : Str → Option Value} {ob : Obj} {dp un n : Nat} {gd : Option (List Code)} {envs : List Env} {s : Shared} {Q E : Value → Shared → Prop}
def faultS (a b : Bool) : List Str := (if a then [Str.ofString "index"] else []) ++ (if b then [Str.ofString "value"] else [])
theorem fresh_of {L D : Addr} {h : Heap} {news mu : List (Addr × Obj)} {o : Obj} (N : News (solid (fsOf envs) s.heap) L h news) (x : Sit w mg mb ob dp un envs n s) (M : Mu s.heap (fsOf envs) mu) (sub : ∀ p ∈ mu, p ∈ news) (hm : (D, o) ∈ news)
    {items : Array Value} {e : Nat} (hl : o.data = .seq items e) : s.heap.get? D = none := by
  cases q : s.heap.get? D with
  | none => rfl
  | some o' =>
    exfalso
    have hN := N _ hm
    by_cases hh : D ∈ hid (fsOf envs)
    · have key : ∃ o2, (D, o2) ∈ mu := by
        rcases List.mem_cons.mp hh with rfl | hh
        · obtain ⟨ps, hm, _⟩ := M.t1; exact ⟨_, hm⟩
        · rcases List.mem_cons.mp hh with rfl | hh
          · obtain ⟨ps, hm, _⟩ := M.t2; exact ⟨_, hm⟩
          · obtain ⟨sl, hm⟩ := M.fr D hh _ q; exact ⟨_, hm⟩
      obtain ⟨o2, h2⟩ := key
      have h3 := (N _ (sub _ h2)).1
      have e3 : o2 = o := Option.some.inj (h3.symm.trans hN.1)
      rcases M.only _ h2 with ⟨ps, hd⟩ | ⟨es, ep, hd⟩
      · rw [e3, hl] at hd; cases hd
      · rw [e3, hl] at hd; cases hd
    · have := solid_get.mpr ⟨q, hh⟩
      rw [hN.2.2] at this; cases this
theorem put {g h h' : Heap} {L D : Addr} {m : Str → Option Value} {news : List (Addr × Obj)} {o : Obj} (F : Fr g L h m) (hn : h.get? D = none) (N : News g L h' news) (hd : h'.get? D = some o) : News g L h' ((D, o) :: news) := fun p hp => by
  rcases List.mem_cons.mp hp with rfl | hp
  · refine ⟨hd, fun e => ?_, ?_⟩
    · obtain ⟨ob, _, _, e', _⟩ := F.ns
      rw [show D = L from e, e'] at hn; cases hn
    · cases q : g.get? D with
      | none => rfl
      | some o' => have := F.keep _ _ q; rw [hn] at this; cases this
  · exact N p hp
theorem faults_fin {D : Addr} {h : Heap} {news : List (Addr × Obj)} {g : Heap} {L : Addr} {a b : Bool} {vs : List Value} {k : Prop} (N : News g L h ((D, W.listOf vs.toArray 0) :: news)) (hs : StrsAre vs (faultS a b)) (hk : k) : ∃ D' vs', Value.ref D = .ref D' ∧ h.get? D' = some (W.listOf vs'.toArray 0) ∧ StrsAre vs' (faultS a b) ∧ k :=
  ⟨D, vs, rfl, (N _ (.head _)).1, hs, hk⟩
set_option maxHeartbeats 40000000 in
theorem faults_spec (x : Sit w mg mb ob dp un envs (n + 1) s) (a b : Bool)
    (hQ : ∀ v s', Aft w mg mb ob envs s s' → (∃ D vs, v = .ref D ∧ s'.heap.get? D = some (W.listOf vs.toArray 0) ∧ StrsAre vs (faultS a b) ∧ s.heap.get? D = none) → Q v s') :
    wpAny (model PRG w) (aro dp un gd envs) (call (.ref 151) [.bool a, .bool b]) Q E s := by
  have hb0 := x.bare
  refine wpAny_call ?_
  k_dflt (refine' enter x ?k6 ?k7 ?k9 ?kB ?_ ?c2 ?c3 ?c4 ?c5; (case k6 => k_is); (case k7 => k_is); (case k9 => exact BindsTo.of_eq rfl); (case kB => exact locs rfl); (case c2 => exact rfl); (case c3 => exact rfl); (case c4 => exact rfl); (case c5 => decide))
  intro L' h₁ mu F' N' M X' T'
  try dsimp only
  k_fold
  cases a <;> cases b <;> k_steps
  all_goals (refine Back.mk (hQ _ _ ?_ ⟨_, _, rfl, News.get (by assumption) (.head _), ?_, fresh_of (by assumption) x M ?_ (.head _) rfl⟩))
  all_goals first
    | exact (aft_out x (by assumption) (by assumption) (by assumption) (by first | exact fun p hp => hp | exact fun p hp => .tail _ hp | exact fun p hp => .tail _ (.tail _ hp) | exact fun p hp => .tail _ (.tail _ (.tail _ hp)) | exact fun p hp => .tail _ (.tail _ (.tail _ (.tail _ hp))) | exact fun p hp => .tail _ (.tail _ (.tail _ (.tail _ (.tail _ hp)))) | exact fun p hp => .tail _ (.tail _ (.tail _ (.tail _ (.tail _ (.tail _ hp))))) | exact fun p hp => .tail _ (.tail _ (.tail _ (.tail _ (.tail _ (.tail _ (.tail _ hp)))))) | exact fun p hp => .tail _ (.tail _ (.tail _ (.tail _ (.tail _ (.tail _ (.tail _ (.tail _ hp))))))) | exact fun p hp => .tail _ (.tail _ (.tail _ (.tail _ (.tail _ (.tail _ (.tail _ (.tail _ (.tail _ hp)))))))) | exact fun p hp => .tail _ (.tail _ (.tail _ (.tail _ (.tail _ (.tail _ (.tail _ (.tail _ (.tail _ (.tail _ hp))))))))) | exact fun p hp => .tail _ (.tail _ (.tail _ (.tail _ (.tail _ (.tail _ (.tail _ (.tail _ (.tail _ (.tail _ (.tail _ hp)))))))))) | exact fun p hp => .tail _ (.tail _ (.tail _ (.tail _ (.tail _ (.tail _ (.tail _ (.tail _ (.tail _ (.tail _ (.tail _ (.tail _ hp))))))))))) | exact fun p hp => .tail _ (.tail _ (.tail _ (.tail _ (.tail _ (.tail _ (.tail _ (.tail _ (.tail _ (.tail _ (.tail _ (.tail _ (.tail _ hp)))))))))))) | exact fun p hp => .tail _ (.tail _ (.tail _ (.tail _ (.tail _ (.tail _ (.tail _ (.tail _ (.tail _ (.tail _ (.tail _ (.tail _ (.tail _ (.tail _ hp))))))))))))) | exact fun p hp => .tail _ (.tail _ (.tail _ (.tail _ (.tail _ (.tail _ (.tail _ (.tail _ (.tail _ (.tail _ (.tail _ (.tail _ (.tail _ (.tail _ (.tail _ hp))))))))))))))) (by assumption) (by first | rfl | assumption))
    | exact (by first | exact fun p hp => hp | exact fun p hp => .tail _ hp | exact fun p hp => .tail _ (.tail _ hp) | exact fun p hp => .tail _ (.tail _ (.tail _ hp)) | exact fun p hp => .tail _ (.tail _ (.tail _ (.tail _ hp))) | exact fun p hp => .tail _ (.tail _ (.tail _ (.tail _ (.tail _ hp)))) | exact fun p hp => .tail _ (.tail _ (.tail _ (.tail _ (.tail _ (.tail _ hp))))) | exact fun p hp => .tail _ (.tail _ (.tail _ (.tail _ (.tail _ (.tail _ (.tail _ hp)))))) | exact fun p hp => .tail _ (.tail _ (.tail _ (.tail _ (.tail _ (.tail _ (.tail _ (.tail _ hp))))))) | exact fun p hp => .tail _ (.tail _ (.tail _ (.tail _ (.tail _ (.tail _ (.tail _ (.tail _ (.tail _ hp)))))))) | exact fun p hp => .tail _ (.tail _ (.tail _ (.tail _ (.tail _ (.tail _ (.tail _ (.tail _ (.tail _ (.tail _ hp))))))))) | exact fun p hp => .tail _ (.tail _ (.tail _ (.tail _ (.tail _ (.tail _ (.tail _ (.tail _ (.tail _ (.tail _ (.tail _ hp)))))))))) | exact fun p hp => .tail _ (.tail _ (.tail _ (.tail _ (.tail _ (.tail _ (.tail _ (.tail _ (.tail _ (.tail _ (.tail _ (.tail _ hp))))))))))) | exact fun p hp => .tail _ (.tail _ (.tail _ (.tail _ (.tail _ (.tail _ (.tail _ (.tail _ (.tail _ (.tail _ (.tail _ (.tail _ (.tail _ hp)))))))))))) | exact fun p hp => .tail _ (.tail _ (.tail _ (.tail _ (.tail _ (.tail _ (.tail _ (.tail _ (.tail _ (.tail _ (.tail _ (.tail _ (.tail _ (.tail _ hp))))))))))))) | exact fun p hp => .tail _ (.tail _ (.tail _ (.tail _ (.tail _ (.tail _ (.tail _ (.tail _ (.tail _ (.tail _ (.tail _ (.tail _ (.tail _ (.tail _ (.tail _ hp)))))))))))))))
    | exact .nil
    | exact .cons .nil
    | exact .cons (.cons .nil)
    | (unfold faultS; simp only [if_true, if_false, List.nil_append, List.append_nil, List.cons_append]; repeat constructor)
theorem tup4n {h h0 : Heap} {a : Addr} {a1 a2 a3 a4 b1 b2 b3 b4 : Int} {t1 t2 t3 t4 : Tok} (e : h.get? a = some { cls := .type "tuple", data := .seq [Value.int a1 t1, .int a2 t2, .int a3 t3, .int a4 t4].toArray }) (hn : h0.get? a = none)
    (e1 : a1 = b1) (e2 : a2 = b2) (e3 : a3 = b3) (e4 : a4 = b4) : ∃ a' t1 t2 t3 t4, Value.ref a = .ref a' ∧ h.get? a' = some (tupO [.int b1 t1, .int b2 t2, .int b3 t3, .int b4 t4]) ∧ h0.get? a' = none := by
  subst e1; subst e2; subst e3; subst e4; exact ⟨_, _, _, _, _, rfl, e, hn⟩
set_option maxHeartbeats 40000000 in
theorem wheels_new (x : Sit w mg mb ob dp un envs (n + 1) s) (t : Tok) (since : Int)
    (hQ : ∀ v s', Aft w mg mb ob envs s s' → (∃ D t1 t2 t3 t4, v = .ref D ∧ s'.heap.get? D = some (tupO [.int ((3 + since) % 13 + 1) t1, .int ((19 + since) % 20) t2, .int ((263 + since) % 365 % 20) t3, .int ((263 + since) % 365 / 20) t4]) ∧ s.heap.get? D = none) → Q v s') :
    wpAny (model PRG w) (aro dp un gd envs) (call (.ref 109) [.int since t]) Q E s := by
  have hb0 := x.bare
  refine wpAny_call ?_
  k_dflt (refine' enter x ?k6 ?k7 ?k9 ?kB ?_ ?c2 ?c3 ?c4 ?c5; (case k6 => k_is); (case k7 => k_is); (case k9 => exact BindsTo.of_eq rfl); (case kB => exact locs rfl); (case c2 => exact rfl); (case c3 => exact rfl); (case c4 => exact rfl); (case c5 => decide))
  intro L' h₁ mu F' N' M X' T'
  try dsimp only
  k_fold
  k_steps
  all_goals (refine Back.mk (hQ _ _ (aft_out x (by assumption) (by assumption) M (fun p hp => .tail _ hp) x.bare rfl) (tup4n (News.get (by assumption) (.head _)) (fresh_of (by assumption) x M (fun p hp => .tail _ hp) (.head _) rfl) ?_ ?_ ?_ ?_)))
  all_goals (simp only [Int.fmod_eq_emod_of_nonneg, Int.fdiv_eq_ediv_of_nonneg, show (0:Int) ≤ 13 by decide, show (0:Int) ≤ 20 by decide, show (0:Int) ≤ 365 by decide, show (13:Int) * 20 + 3 = 263 by decide])
end
end Mine
namespace Mine
open PySem PySem.W PySem.Calls PySem.Spec PyProof.Rows PyProof.V
theorem strs_len {vs : List Value} {ys : List Str} (h : StrsAre vs ys) : vs.length = ys.length := by
  induction h with
  | nil => rfl
  | cons _ _ _ ih => simp [ih]
theorem strs_app {va vb : List Value} {ya yb : List Str} (h : StrsAre va ya) (h2 : StrsAre vb yb) : StrsAre (va ++ vb) (ya ++ yb) := by
  induction h with
  | nil => exact h2
  | cons y t _ ih => exact .cons y t ih
theorem strs_carried {vs : List Value} {ys : List Str} (h : StrsAre vs ys) : CarriedAll vs (ys.map PyData.str) := by
  induction h with
  | nil => exact .nil
  | cons y t _ ih => exact .cons (.str _ t) ih
theorem same_nil : ∀ ys : List Str, PySem.Spec.same (.list (ys.map PyData.str)) (.list []) = decide (ys = [])
  | [] => by simp [PySem.Spec.same, PySem.Spec.sameAll]
  | _ :: _ => by simp [PySem.Spec.same, PySem.Spec.sameAll]
section
variable {prog : Program} {w : World} {A : Around} {E : Value → Shared → Prop} {s : Shared} {a b L : Addr} {va vb : List Value} {ya yb : List Str} {Q : Value → Shared → Prop} {h₀ : Heap} {m : Str → Option Value} {news : List (Addr × Obj)}
theorem ne_nil_strs (ha : s.heap.IsList a va.toArray) (hb : s.heap.IsList b #[]) (sa : StrsAre va ya) (hsh : SeqAt.shaped (.list (ya.map PyData.str)) = true) (hu : A.units + 64 < cLine) (h : Q (.bool (!decide (ya = []))) s) :
    wpAny (model prog w) A (compareOp .NotEq (.ref a) (.ref b)) Q E s :=
  ne_dataH_same (reads_newData ha (strs_carried sa)) (reads_newData (ys := []) (ds := []) hb .nil) hsh (by rfl) hu (SeqAt.noMix_of_shape (.list .str) rfl _ _ (list_map_has fun _ => rfl) rfl) (by rw [same_nil]; exact h)
theorem ne_nil_t (N : News h₀ L s.heap news) (ma : (a, W.listOf va.toArray 0) ∈ news) (mb : (b, W.listOf #[] 0) ∈ news) (sa : StrsAre va ya) (hne : ya ≠ []) (hsh : SeqAt.shaped (.list (ya.map PyData.str)) = true) (hu : A.units + 64 < cLine) (h : Q (.bool true) s) :
    wpAny (model prog w) A (compareOp .NotEq (.ref a) (.ref b)) Q E s :=
  ne_nil_strs (News.isList N ma) (News.isList N mb) sa hsh hu (by rw [decide_eq_false hne]; exact h)
theorem ne_nil_f (N : News h₀ L s.heap news) (ma : (a, W.listOf va.toArray 0) ∈ news) (mb : (b, W.listOf #[] 0) ∈ news) (sa : StrsAre va ya) (he : ya = []) (hsh : SeqAt.shaped (.list (ya.map PyData.str)) = true) (hu : A.units + 64 < cLine) (h : Q (.bool false) s) :
    wpAny (model prog w) A (compareOp .NotEq (.ref a) (.ref b)) Q E s :=
  ne_nil_strs (News.isList N ma) (News.isList N mb) sa hsh hu (by rw [decide_eq_true he]; exact h)
theorem add_strs (F : Fr h₀ L s.heap m) (N : News h₀ L s.heap news) (ma : (a, W.listOf va.toArray 0) ∈ news) (mb : (b, W.listOf vb.toArray 0) ∈ news) (sa : StrsAre va ya) (sb : StrsAre vb yb) (hz : ya.length + yb.length ≤ sizeLine)
    (h : ∀ D vs h', Fr h₀ L h' m → News h₀ L h' ((D, W.listOf (List.toArray vs) 0) :: news) → StrsAre vs (ya ++ yb) → Q (.ref D) { s with heap := h' }) :
    wpAny (model prog w) A (binaryOp .Add (.ref a) (.ref b)) Q E s := by
  refine add_lists F N (News.isList N ma) (News.isList N mb) (fun h' F' N' => ?_) (by rw [strs_len sa, strs_len sb]; exact hz)
  exact h _ _ h' F' N' (strs_app sa sb)
theorem in_t {k : Str} {t : Tok} (N : News h₀ L s.heap news) (ma : (a, W.listOf va.toArray 0) ∈ news) (sa : StrsAre va ya) (hm : ya.any (· == k) = true) (h : Q (.bool true) s) :
    wpAny (model prog w) A (compareOp .In (.str k t) (.ref a)) Q E s := in_list_strs (News.isList N ma) sa (by rw [hm]; exact h)
theorem notin_f {k : Str} {t : Tok} (N : News h₀ L s.heap news) (ma : (a, W.listOf va.toArray 0) ∈ news) (sa : StrsAre va ya) (hm : ya.any (· == k) = true) (h : Q (.bool false) s) :
    wpAny (model prog w) A (compareOp .NotIn (.str k t) (.ref a)) Q E s := notin_list_strs (News.isList N ma) sa (by rw [hm]; exact h)
theorem shaped_f (a b : Bool) : SeqAt.shaped (.list ((faultS a b).map PyData.str)) = true := by cases a <;> cases b <;> decide +kernel
theorem shaped_ff (a b c d : Bool) : SeqAt.shaped (.list ((faultS a b ++ faultS c d).map PyData.str)) = true := by cases a <;> cases b <;> cases c <;> cases d <;> decide +kernel
theorem faultS_len (a b : Bool) : (faultS a b).length ≤ 2 := by cases a <;> cases b <;> decide
theorem faultS_len2 (a b c d : Bool) : (faultS a b).length + (faultS c d).length ≤ sizeLine := by
  have h1 := faultS_len a b
  have h2 := faultS_len c d
  rw [sizeLine_eq]; omega
theorem faultS_nil {a b : Bool} : faultS a b = [] ↔ a = false ∧ b = false := by cases a <;> cases b <;> simp [faultS]
theorem faultS_index {a b : Bool} (h : a = true) : (faultS a b).any (· == Str.ofString "index") = true := by subst h; cases b <;> decide
theorem faultS_value {a b : Bool} (h : b = true) : (faultS a b).any (· == Str.ofString "value") = true := by subst h; cases a <;> decide
end
end Mine
namespace Mine
open PySem PySem.W PySem.Calls PySem.Spec PyProof.Rows
def IsL (m : Str → Option Value) (N : Int) (z : UInt64) (nu : Int) (na : Int) (hy : Int) (mo : Int) (wn : Int) (wi : Int) (e : Int) (wm : Int) (k : Int) (aT : Addr) (aH : Addr) (aE : Addr) (aW : Addr) (aV : Addr) (t0 t1 t2 t3 t4 t5 t6 t7 t8 t9 t10 : Tok) : Prop :=
  m "n" = some (.int N t0) ∧ m "jd" = some (.float z t1) ∧ m "number" = some (.int nu t2) ∧ m "name" = some (.int na t3) ∧ m "hday" = some (.int hy t4) ∧ m "month" = some (.int mo t5) ∧ m "want_number" = some (.int wn t6) ∧ m "want_name" = some (.int wi t7) ∧ m "want_day" = some (.int e t8) ∧ m "want_month" = some (.int wm t9) ∧ m "k" = some (.int k t10) ∧ m "tzolkin" = some (.ref aT) ∧ m "haab" = some (.ref aH) ∧ m "early" = some (.ref aE) ∧ m "wrong_tzolkin" = some (.ref aW) ∧ m "wrong_haab" = some (.ref aV)
def mL (g : Str → Option Value) (N : Int) (z : UInt64) (nu : Int) (na : Int) (hy : Int) (mo : Int) (wn : Int) (wi : Int) (e : Int) (wm : Int) (k : Int) (aT : Addr) (aH : Addr) (aE : Addr) (aW : Addr) (aV : Addr) (t0 t1 t2 t3 t4 t5 t6 t7 t8 t9 t10 : Tok) : Str → Option Value := fun y =>
  if y = "n" then some (.int N t0) else if y = "jd" then some (.float z t1) else if y = "number" then some (.int nu t2) else if y = "name" then some (.int na t3) else if y = "hday" then some (.int hy t4) else if y = "month" then some (.int mo t5) else if y = "want_number" then some (.int wn t6) else if y = "want_name" then some (.int wi t7) else if y = "want_day" then some (.int e t8) else if y = "want_month" then some (.int wm t9) else if y = "k" then some (.int k t10) else if y = "tzolkin" then some (.ref aT) else if y = "haab" then some (.ref aH) else if y = "early" then some (.ref aE) else if y = "wrong_tzolkin" then some (.ref aW) else if y = "wrong_haab" then some (.ref aV) else g y
theorem ite_map {m g : Str → Option Value} {x : Str} {v : Option Value} (h : m x = v) (hg : g = m) : (fun y => if y = x then v else g y) = m := by
  subst hg
  funext y
  by_cases q : y = x
  · rw [if_pos q, q, h]
  · rw [if_neg q]
theorem mL_eq {m : Str → Option Value} {N nu na hy mo wn wi e wm k : Int} {z : UInt64} {aT aH aE aW aV : Addr} {t0 t1 t2 t3 t4 t5 t6 t7 t8 t9 t10 : Tok} (q : IsL m N z nu na hy mo wn wi e wm k aT aH aE aW aV t0 t1 t2 t3 t4 t5 t6 t7 t8 t9 t10) : mL m N z nu na hy mo wn wi e wm k aT aH aE aW aV t0 t1 t2 t3 t4 t5 t6 t7 t8 t9 t10 = m := by
  obtain ⟨h0, h1, h2, h3, h4, h5, h6, h7, h8, h9, h10, h11, h12, h13, h14, h15⟩ := q
  exact (ite_map h0 (ite_map h1 (ite_map h2 (ite_map h3 (ite_map h4 (ite_map h5 (ite_map h6 (ite_map h7 (ite_map h8 (ite_map h9 (ite_map h10 (ite_map h11 (ite_map h12 (ite_map h13 (ite_map h14 (ite_map h15 rfl))))))))))))))))
theorem fr_L {g h : Heap} {L : Addr} {m : Str → Option Value} {N nu na hy mo wn wi e wm k : Int} {z : UInt64} {aT aH aE aW aV : Addr} {t0 t1 t2 t3 t4 t5 t6 t7 t8 t9 t10 : Tok} (q : IsL m N z nu na hy mo wn wi e wm k aT aH aE aW aV t0 t1 t2 t3 t4 t5 t6 t7 t8 t9 t10) (F : Fr g L h m) : Fr g L h (mL m N z nu na hy mo wn wi e wm k aT aH aE aW aV t0 t1 t2 t3 t4 t5 t6 t7 t8 t9 t10) := by rw [mL_eq q]; exact F
/-- what the law has made and worked out, ahead of its first question -/
structure LawAt (w : World) (mg mb : Str → Option Value) (ob : Obj) (dp un n' : Nat) (envs : List Env) (s₀ s : Shared) (L : Addr) (m : Str → Option Value) (mu : List (Addr × Obj)) (N : Int) (z : UInt64) (nu : Int) (na : Int) (hy : Int) (mo : Int) (wn : Int) (wi : Int) (e : Int) (wm : Int) (k : Int) (aT : Addr) (aH : Addr) (aE : Addr) (aW : Addr) (aV : Addr) (t0 t1 t2 t3 t4 t5 t6 t7 t8 t9 t10 : Tok) (u1 u2 u3 u4 : Tok) (vE vW vV : List Value) : Prop where
  x : Sit w mg mb ob dp un envs (n' + 5) s₀
  fr : Fr (solid (fsOf envs) s₀.heap) L s.heap m
  nw : News (solid (fsOf envs) s₀.heap) L s.heap ([(aV, W.listOf vV.toArray 0), (aW, W.listOf vW.toArray 0), (aE, W.listOf vE.toArray 0), (aH, tupO [.int e u3, .str (mstr wm) u4]), (aT, tupO [.int wn u1, .str (tstr wi) u2])] ++ mu)
  mm : Mu s₀.heap (fsOf envs) mu
  bare : AllBare s.gens
  os : s.os = s₀.os
  read : IsL m N z nu na hy mo wn wi e wm k aT aH aE aW aV t0 t1 t2 t3 t4 t5 t6 t7 t8 t9 t10
  sE : StrsAre vE (faultS (decide (N < 0)) false)
  sW : StrsAre vW (faultS (decide (wn < 1 ∨ 13 < wn)) (decide (wi = 20)))
  sV : StrsAre vV (faultS (decide (e < 0 ∨ 19 < e)) (decide (wm = 19)))
  hz : IsH z (2 * N + 1168565)
  hN1 : -2000 ≤ N
  hN2 : N < 1000000000
  hk0 : 0 ≤ k
  hk1 : k < 18980
  hnu : nu = (N + 3) % 13 + 1
  hna : na = (N + 19) % 20
  hhd : hy = (N + 348) % 365 % 20
  hmo : mo = (N + 348) % 365 / 20
  hwi : 0 ≤ wi ∧ wi < 21
  hwm : 0 ≤ wm ∧ wm < 20
  hfix : wm = 18 → 0 ≤ e → e < 20 → e < 5
theorem lawEq {w : World} {name name' qual qual' : Str} {params params' : Arguments} {body body' : List Stmt} {scope scope' : Scope} {dV kV doc pm cdv ct oc dV' kV' doc' pm' cdv' ct' oc' : Value} {an od an' od' : Option Addr} {osl osl' : Array (Option Value)} {G : Prop}
    (h1 : (hd.heap_39 w.params).lookup 158 = some ⟨oc', od', .func (fnOf name' qual' params' body' scope' dV' kV' doc' pm' an' cdv' ct'), osl'⟩)
    (h2 : (hd.heap_39 w.params).lookup 158 = some ⟨oc, od, .func (fnOf name qual params body scope dV kV doc pm an cdv ct), osl⟩)
    (k : name = name' → qual = qual' → body = body' → scope = scope' → cdv = cdv' → G) : G := by
  have e := Option.some.inj (h2.symm.trans h1)
  have ed : Data.func (fnOf name qual params body scope dV kV doc pm an cdv ct) = Data.func (fnOf name' qual' params' body' scope' dV' kV' doc' pm' an' cdv' ct') := congrArg Obj.data e
  have ef := Data.func.inj ed
  exact k (congrArg FuncData.name ef) (congrArg FuncData.qualname ef) (FuncBody.stmts.inj (congrArg FuncData.body ef)) (congrArg FuncData.scope ef) (congrArg FuncData.code ef)
end Mine
namespace Mine
open PySem PySem.W PySem.Calls PySem.Spec PyProof.Rows
theorem units64 {w : World} {mg mb : Str → Option Value} {ob : Obj} {dp un n : Nat} {gd : Option (List Code)} {envs : List Env} {env : Env} {s : Shared} (x : Sit w mg mb ob dp un envs n s) : ((aro dp un gd envs).deeper env).units + 64 < cLine := by
  have := x.units
  show un + 3 + 64 < cLine
  omega
local macro_rules | `(tactic| walk_at "eval Constant float") => `(tactic| (k_dflt (refine' constHI (by first | exact isH_half | assumption) ?_); intro z' hz'))
local macro_rules | `(tactic| walk_at "binaryOp Add float int") => `(tactic| (k_dflt (refine' addHI (by assumption) (by omega) (by omega) ?_); intro z' hz'))
local macro_rules | `(tactic| walk_at "binaryOp Add int float") => `(tactic| (k_dflt (refine' addIH (by assumption) (by omega) (by omega) ?_); intro z' hz'))
local macro_rules | `(tactic| walk_at "binaryOp Sub float float") => `(tactic| (k_dflt (refine' subHH (by assumption) (by assumption) (by omega) ?_); intro z' hz'))
local macro_rules | `(tactic| walk_at "binaryOp Mod float int") => `(tactic| (k_dflt (refine' modHI' (by assumption) (by omega) (by omega) (by omega) (by omega) ?_); intro z' hz'))
local macro_rules | `(tactic| walk_at "binaryOp Div float int") => `(tactic| (k_dflt (refine' divHI20' (by assumption) (by omega) (by omega) (by omega) ?_); intro z' hz'))
local macro_rules | `(tactic| walk_at "call builtin:math.trunc") => `(tactic| (k_dflt first | (refine' truncH (by assumption) (by omega) rfl ?_) | (refine' truncQ (by assumption) rfl ?_)))
local macro_rules | `(tactic| walk_at "call type:int") => `(tactic| ((with_reducible show wpAny _ _ (call _ [Value.float _ _]) _ _ _); k_dflt (refine' intH (by assumption) (by omega) ?_)))
local macro_rules | `(tactic| walk_at "compareOp Eq float float") => `(tactic| (k_dflt (refine' eqHH (by assumption) (by assumption) ?_)))
local macro_rules | `(tactic| walk_at "compareOp NotEq float float") => `(tactic| (k_dflt (refine' neHH (by assumption) (by assumption) ?_)))
local macro_rules | `(tactic| walk_at "compareOp Lt float float") => `(tactic| (k_dflt (refine' ltHH (by assumption) (by assumption) ?_)))
local macro_rules | `(tactic| walk_at "subscriptTail") => `(tactic| ((with_reducible show wpAny _ _ (subscriptTail _ _ (Value.ref _) (Value.int _ _)) _ _ _); k_dflt (first
  | refine' item50 (by assumption) (by assumption) (by omega) (by omega) ?_ (by with_unfolding_all rfl)
  | refine' item51 (by assumption) (by assumption) (by omega) (by omega) ?_ (by with_unfolding_all rfl)
  | refine' item101 (by assumption) (by assumption) (by omega) (by omega) ?_ (by with_unfolding_all rfl)
  | refine' item102 (by assumption) (by assumption) (by omega) (by omega) ?_ (by with_unfolding_all rfl)); intro t'))
local macro_rules | `(tactic| walk_at "getMethod ref") => `(tactic| ((with_reducible show wpAny _ _ (getMethod (Value.ref _) (Str.ofString "index") _) _ _ _); k_dflt (first | refine' getIndex50 (by assumption) (by assumption) ?_ | refine' getIndex51 (by assumption) (by assumption) ?_)))
local macro_rules | `(tactic| walk_at "call builtin:list.index") => `(tactic| (k_dflt (first | refine' idx50 (by assumption) (by assumption) (by omega) (by omega) rfl ?_ ?_ | refine' idx51 (by assumption) (by assumption) (by omega) (by omega) rfl ?_ ?_); (first | (intro hj' h' tk' e' hx') | (intro hj'))))
local macro_rules | `(tactic| walk_at "exec Raise some none") => `(tactic| refine Raise_new rfl ?_)
local macro_rules | `(tactic| walk_at "binaryOp Mod int int") => `(tactic| refine modP (by decide) ?_)
local macro_rules | `(tactic| walk_at "compareOp NotEq ref ref") => `(tactic| (k_dflt first | (refine' ne_nil_t ?N ?ma ?mb ?sa ?hne ?hsh ?hu ?_; (case N => assumption); (case ma => (first | exact .head _ | exact .tail _ (.head _) | exact .tail _ (.tail _ (.head _)) | exact .tail _ (.tail _ (.tail _ (.head _))) | exact .tail _ (.tail _ (.tail _ (.tail _ (.head _)))) | exact .tail _ (.tail _ (.tail _ (.tail _ (.tail _ (.head _))))))); (case mb => (first | exact .head _ | exact .tail _ (.head _) | exact .tail _ (.tail _ (.head _)) | exact .tail _ (.tail _ (.tail _ (.head _))) | exact .tail _ (.tail _ (.tail _ (.tail _ (.head _)))) | exact .tail _ (.tail _ (.tail _ (.tail _ (.tail _ (.head _))))))); (case sa => assumption); (case hne => assumption); (case hsh => first | exact shaped_f _ _ | exact shaped_ff _ _ _ _); (case hu => exact units64 (by assumption))) | (refine' ne_nil_f ?N ?ma ?mb ?sa ?hne ?hsh ?hu ?_; (case N => assumption); (case ma => (first | exact .head _ | exact .tail _ (.head _) | exact .tail _ (.tail _ (.head _)) | exact .tail _ (.tail _ (.tail _ (.head _))) | exact .tail _ (.tail _ (.tail _ (.tail _ (.head _)))) | exact .tail _ (.tail _ (.tail _ (.tail _ (.tail _ (.head _))))))); (case mb => (first | exact .head _ | exact .tail _ (.head _) | exact .tail _ (.tail _ (.head _)) | exact .tail _ (.tail _ (.tail _ (.head _))) | exact .tail _ (.tail _ (.tail _ (.tail _ (.head _)))) | exact .tail _ (.tail _ (.tail _ (.tail _ (.tail _ (.head _))))))); (case sa => assumption); (case hne => assumption); (case hsh => first | exact shaped_f _ _ | exact shaped_ff _ _ _ _); (case hu => exact units64 (by assumption)))))
local macro_rules | `(tactic| walk_at "binaryOp Add ref ref") => `(tactic| (k_dflt first | (refine' add_strs ?F ?N ?ma ?mb ?sa ?sb ?hz ?_; (case F => assumption); (case N => assumption); (case ma => (first | exact .head _ | exact .tail _ (.head _) | exact .tail _ (.tail _ (.head _)) | exact .tail _ (.tail _ (.tail _ (.head _))) | exact .tail _ (.tail _ (.tail _ (.tail _ (.head _)))) | exact .tail _ (.tail _ (.tail _ (.tail _ (.tail _ (.head _))))))); (case mb => (first | exact .head _ | exact .tail _ (.head _) | exact .tail _ (.tail _ (.head _)) | exact .tail _ (.tail _ (.tail _ (.head _))) | exact .tail _ (.tail _ (.tail _ (.tail _ (.head _)))) | exact .tail _ (.tail _ (.tail _ (.tail _ (.tail _ (.head _))))))); (case sa => assumption); (case sb => assumption); (case hz => exact faultS_len2 _ _ _ _); (intro D' vs' h' F' N' ss'))))
local macro_rules | `(tactic| walk_at "compareOp In str ref") => `(tactic| (k_dflt first | (refine' in_t ?N ?ma ?sa ?hm ?_; (case N => assumption); (case ma => (first | exact .head _ | exact .tail _ (.head _) | exact .tail _ (.tail _ (.head _)) | exact .tail _ (.tail _ (.tail _ (.head _))) | exact .tail _ (.tail _ (.tail _ (.tail _ (.head _)))) | exact .tail _ (.tail _ (.tail _ (.tail _ (.tail _ (.head _))))))); (case sa => assumption); (case hm => first | assumption | (rw [List.any_append, faultS_index (decide_eq_true (by assumption))]; rfl) | (rw [List.any_append, faultS_value (a := false) (beq_iff_eq.mpr (by omega)), Bool.or_true])))))
local macro_rules | `(tactic| walk_at "compareOp NotIn str ref") => `(tactic| (k_dflt first | (refine' notin_f ?N ?ma ?sa ?hm ?_; (case N => assumption); (case ma => (first | exact .head _ | exact .tail _ (.head _) | exact .tail _ (.tail _ (.head _)) | exact .tail _ (.tail _ (.tail _ (.head _))) | exact .tail _ (.tail _ (.tail _ (.tail _ (.head _)))) | exact .tail _ (.tail _ (.tail _ (.tail _ (.tail _ (.head _))))))); (case sa => assumption); (case hm => first | assumption))))
local macro_rules | `(tactic| walk_at "call ref") => `(tactic| ((with_reducible show wpAny _ _ (call (Value.ref 151) _) _ _ _); k_dflt (first | refine' use (made := []) (by assumption) (by assumption) (by assumption) (by assumption) ?pl rfl (by intro e; cases e) (by assumption) (by first | rfl | assumption) (fun x' k' => faults_spec x' _ _ k') ?_ | refine' use (made := [_]) (by assumption) (by assumption) (by assumption) (by assumption) ?pl rfl (by intro e; cases e) (by assumption) (by first | rfl | assumption) (fun x' k' => faults_spec x' _ _ k') ?_ | refine' use (made := [_, _]) (by assumption) (by assumption) (by assumption) (by assumption) ?pl rfl (by intro e; cases e) (by assumption) (by first | rfl | assumption) (fun x' k' => faults_spec x' _ _ k') ?_ | refine' use (made := [_, _, _]) (by assumption) (by assumption) (by assumption) (by assumption) ?pl rfl (by intro e; cases e) (by assumption) (by first | rfl | assumption) (fun x' k' => faults_spec x' _ _ k') ?_ | refine' use (made := [_, _, _, _]) (by assumption) (by assumption) (by assumption) (by assumption) ?pl rfl (by intro e; cases e) (by assumption) (by first | rfl | assumption) (fun x' k' => faults_spec x' _ _ k') ?_ | refine' use (made := [_, _, _, _, _]) (by assumption) (by assumption) (by assumption) (by assumption) ?pl rfl (by intro e; cases e) (by assumption) (by first | rfl | assumption) (fun x' k' => faults_spec x' _ _ k') ?_ | refine' use (made := [_, _, _, _, _, _]) (by assumption) (by assumption) (by assumption) (by assumption) ?pl rfl (by intro e; cases e) (by assumption) (by first | rfl | assumption) (fun x' k' => faults_spec x' _ _ k') ?_ | refine' use (made := [_, _, _, _, _, _, _]) (by assumption) (by assumption) (by assumption) (by assumption) ?pl rfl (by intro e; cases e) (by assumption) (by first | rfl | assumption) (fun x' k' => faults_spec x' _ _ k') ?_ | refine' use (made := [_, _, _, _, _, _, _, _]) (by assumption) (by assumption) (by assumption) (by assumption) ?pl rfl (by intro e; cases e) (by assumption) (by first | rfl | assumption) (fun x' k' => faults_spec x' _ _ k') ?_ | refine' use (made := [_, _, _, _, _, _, _, _, _]) (by assumption) (by assumption) (by assumption) (by assumption) ?pl rfl (by intro e; cases e) (by assumption) (by first | rfl | assumption) (fun x' k' => faults_spec x' _ _ k') ?_ | refine' use (made := [_, _, _, _, _, _, _, _, _, _]) (by assumption) (by assumption) (by assumption) (by assumption) ?pl rfl (by intro e; cases e) (by assumption) (by first | rfl | assumption) (fun x' k' => faults_spec x' _ _ k') ?_ | refine' use (made := [_, _, _, _, _, _, _, _, _, _, _]) (by assumption) (by assumption) (by assumption) (by assumption) ?pl rfl (by intro e; cases e) (by assumption) (by first | rfl | assumption) (fun x' k' => faults_spec x' _ _ k') ?_); (case pl => (repeat (first | exact Plain.nil | refine Plain.seq rfl ?_ | refine Plain.set (by assumption) ?_ | refine Plain.cell (by assumption) ?_))); (intro v' s' mu' M' F' N' hb' ho' P'); (try simp only [List.nil_append, List.cons_append] at N'); (obtain ⟨D', vs', e', g', ss', fr'⟩ := P'; subst e'; replace N' := put (by assumption) fr' N' g')))
local macro_rules | `(tactic| walk_at "call ref") => `(tactic| ((with_reducible show wpAny _ _ (call (Value.ref 123) _) _ _ _); k_dflt (first | refine' use (made := []) (by assumption) (by assumption) (by assumption) (by assumption) ?pl rfl (by intro e; cases e) (by assumption) (by first | rfl | assumption) (fun x' k' => law_haab_spec x' _ _ _ _ _ _ _ _ (by unfold OkDay; omega) (by unfold OkDay; omega) k') ?_ | refine' use (made := [_]) (by assumption) (by assumption) (by assumption) (by assumption) ?pl rfl (by intro e; cases e) (by assumption) (by first | rfl | assumption) (fun x' k' => law_haab_spec x' _ _ _ _ _ _ _ _ (by unfold OkDay; omega) (by unfold OkDay; omega) k') ?_ | refine' use (made := [_, _]) (by assumption) (by assumption) (by assumption) (by assumption) ?pl rfl (by intro e; cases e) (by assumption) (by first | rfl | assumption) (fun x' k' => law_haab_spec x' _ _ _ _ _ _ _ _ (by unfold OkDay; omega) (by unfold OkDay; omega) k') ?_ | refine' use (made := [_, _, _]) (by assumption) (by assumption) (by assumption) (by assumption) ?pl rfl (by intro e; cases e) (by assumption) (by first | rfl | assumption) (fun x' k' => law_haab_spec x' _ _ _ _ _ _ _ _ (by unfold OkDay; omega) (by unfold OkDay; omega) k') ?_ | refine' use (made := [_, _, _, _]) (by assumption) (by assumption) (by assumption) (by assumption) ?pl rfl (by intro e; cases e) (by assumption) (by first | rfl | assumption) (fun x' k' => law_haab_spec x' _ _ _ _ _ _ _ _ (by unfold OkDay; omega) (by unfold OkDay; omega) k') ?_ | refine' use (made := [_, _, _, _, _]) (by assumption) (by assumption) (by assumption) (by assumption) ?pl rfl (by intro e; cases e) (by assumption) (by first | rfl | assumption) (fun x' k' => law_haab_spec x' _ _ _ _ _ _ _ _ (by unfold OkDay; omega) (by unfold OkDay; omega) k') ?_ | refine' use (made := [_, _, _, _, _, _]) (by assumption) (by assumption) (by assumption) (by assumption) ?pl rfl (by intro e; cases e) (by assumption) (by first | rfl | assumption) (fun x' k' => law_haab_spec x' _ _ _ _ _ _ _ _ (by unfold OkDay; omega) (by unfold OkDay; omega) k') ?_ | refine' use (made := [_, _, _, _, _, _, _]) (by assumption) (by assumption) (by assumption) (by assumption) ?pl rfl (by intro e; cases e) (by assumption) (by first | rfl | assumption) (fun x' k' => law_haab_spec x' _ _ _ _ _ _ _ _ (by unfold OkDay; omega) (by unfold OkDay; omega) k') ?_ | refine' use (made := [_, _, _, _, _, _, _, _]) (by assumption) (by assumption) (by assumption) (by assumption) ?pl rfl (by intro e; cases e) (by assumption) (by first | rfl | assumption) (fun x' k' => law_haab_spec x' _ _ _ _ _ _ _ _ (by unfold OkDay; omega) (by unfold OkDay; omega) k') ?_ | refine' use (made := [_, _, _, _, _, _, _, _, _]) (by assumption) (by assumption) (by assumption) (by assumption) ?pl rfl (by intro e; cases e) (by assumption) (by first | rfl | assumption) (fun x' k' => law_haab_spec x' _ _ _ _ _ _ _ _ (by unfold OkDay; omega) (by unfold OkDay; omega) k') ?_ | refine' use (made := [_, _, _, _, _, _, _, _, _, _]) (by assumption) (by assumption) (by assumption) (by assumption) ?pl rfl (by intro e; cases e) (by assumption) (by first | rfl | assumption) (fun x' k' => law_haab_spec x' _ _ _ _ _ _ _ _ (by unfold OkDay; omega) (by unfold OkDay; omega) k') ?_ | refine' use (made := [_, _, _, _, _, _, _, _, _, _, _]) (by assumption) (by assumption) (by assumption) (by assumption) ?pl rfl (by intro e; cases e) (by assumption) (by first | rfl | assumption) (fun x' k' => law_haab_spec x' _ _ _ _ _ _ _ _ (by unfold OkDay; omega) (by unfold OkDay; omega) k') ?_); (case pl => (repeat (first | exact Plain.nil | refine Plain.seq rfl ?_ | refine Plain.set (by assumption) ?_ | refine Plain.cell (by assumption) ?_))); (intro v' s' mu' M' F' N' hb' ho' P'); (try simp only [List.nil_append, List.cons_append] at N'); (obtain ⟨t', e'⟩ := P'; subst e')))
local macro_rules | `(tactic| walk_at "call ref") => `(tactic| ((with_reducible show wpAny _ _ (call (Value.ref 144) _) _ _ _); refine Back.out ?_))
local macro_rules | `(tactic| walk_at "compareOp In float ref") => `(tactic| (exfalso; omega))
section
variable {w : World} {mg mb : Str → Option Value} {ob : Obj} {dp un n : Nat} {gd : Option (List Code)} {envs : List Env} {Q E : Value → Shared → Prop}
set_option maxHeartbeats 40000000 in
theorem segZ {s₀ s : Shared} {L : Addr} {m : Str → Option Value} {mu : List (Addr × Obj)} {N nu na hy mo wn wi e wm k : Int} {z : UInt64} {aT aH aE aW aV : Addr} {t0 t1 t2 t3 t4 t5 t6 t7 t8 t9 t10 u1 u2 u3 u4 : Tok} {vE vW vV : List Value} {n' : Nat}
    (q : LawAt w mg mb ob dp un n' envs s₀ s L m mu N z nu na hy mo wn wi e wm k aT aH aE aW aV t0 t1 t2 t3 t4 t5 t6 t7 t8 t9 t10 u1 u2 u3 u4 vE vW vV)
    {name qual : Str} {params : Arguments} {body rest : List Stmt} {scope : Scope} {dV kV doc pm cdv ct oc : Value} {an od : Option Addr} {osl : Array (Option Value)}
    (ho : (hd.heap_39 w.params).lookup 158 = some ⟨oc, od, .func (fnOf name qual params body scope dV kV doc pm an cdv ct), osl⟩) (hr : rest = body.drop 24)
    (hQ : ∀ s', Aft w mg mb ob envs s₀ s' → Q (.bool true) s') :
    wpAny (model PRG w) ((aro dp un gd envs).deeper (envOf qual scope L 158 cdv)) (execs rest (envOf qual scope L 158 cdv)) (fun fl s' => Back (Q (match fl with | .ret v => v | _ => .none) s')) E s := by
  obtain ⟨x, F0, N0, M, hb0, ho0, hread, sE, sW, sV, hz, hN1, hN2, hk0, hk1, hnu, hna, hhd, hmo, hwi, hwm, hfix⟩ := q
  refine' lawEq ?hk ho ?_
  case hk => k_is
  rintro rfl rfl rfl rfl rfl
  clear ho
  subst hr
  have F' := fr_L hread F0
  clear F0 hread
  have X' := In.keep x.W.X x.hi fun b o e => e
  have T' := TopRead.keep x.W.T x.hi fun b o e => e
  have N' := N0
  clear N0
  simp only [List.cons_append, List.nil_append] at N'
  dsimp only [List.drop]
  try k_fold
  k_steps
  refine Back.mk ?_
  refine use (made := [_, _, _, _, _]) x (by assumption) (by assumption) (by assumption) (by (repeat (first | exact Plain.nil | refine Plain.seq rfl ?_ | refine Plain.set (by assumption) ?_ | refine Plain.cell (by assumption) ?_))) rfl (by intro z; cases z) (by assumption) (by first | rfl | assumption) (fun x' k' => tm_spec x' _ _ wm N z hz hN1 (by omega) hwm.1 hwm.2 k') ?_
  intro v' s' mu' M' F' N' hb' ho' P'
  simp only [List.cons_append, List.nil_append] at N'
  by_cases h0 : N < 0
  · have hne : faultS (decide (N < 0)) false ≠ [] := by rw [decide_eq_true h0]; decide
    rcases P' with ⟨⟨h, _⟩, _⟩ | ⟨⟨t', rfl⟩, _⟩ | ⟨⟨t', rfl⟩, hm⟩
    · omega
    · k_steps
      all_goals first
        | (refine Back.mk (hQ _ ?_)
           exact (aft_out x (by assumption) (by assumption) (by assumption) (by first | exact fun p hp => hp | exact fun p hp => .tail _ hp | exact fun p hp => .tail _ (.tail _ hp) | exact fun p hp => .tail _ (.tail _ (.tail _ hp)) | exact fun p hp => .tail _ (.tail _ (.tail _ (.tail _ hp))) | exact fun p hp => .tail _ (.tail _ (.tail _ (.tail _ (.tail _ hp)))) | exact fun p hp => .tail _ (.tail _ (.tail _ (.tail _ (.tail _ (.tail _ hp))))) | exact fun p hp => .tail _ (.tail _ (.tail _ (.tail _ (.tail _ (.tail _ (.tail _ hp)))))) | exact fun p hp => .tail _ (.tail _ (.tail _ (.tail _ (.tail _ (.tail _ (.tail _ (.tail _ hp))))))) | exact fun p hp => .tail _ (.tail _ (.tail _ (.tail _ (.tail _ (.tail _ (.tail _ (.tail _ (.tail _ hp)))))))) | exact fun p hp => .tail _ (.tail _ (.tail _ (.tail _ (.tail _ (.tail _ (.tail _ (.tail _ (.tail _ (.tail _ hp))))))))) | exact fun p hp => .tail _ (.tail _ (.tail _ (.tail _ (.tail _ (.tail _ (.tail _ (.tail _ (.tail _ (.tail _ (.tail _ hp)))))))))) | exact fun p hp => .tail _ (.tail _ (.tail _ (.tail _ (.tail _ (.tail _ (.tail _ (.tail _ (.tail _ (.tail _ (.tail _ (.tail _ hp))))))))))) | exact fun p hp => .tail _ (.tail _ (.tail _ (.tail _ (.tail _ (.tail _ (.tail _ (.tail _ (.tail _ (.tail _ (.tail _ (.tail _ (.tail _ hp)))))))))))) | exact fun p hp => .tail _ (.tail _ (.tail _ (.tail _ (.tail _ (.tail _ (.tail _ (.tail _ (.tail _ (.tail _ (.tail _ (.tail _ (.tail _ (.tail _ hp))))))))))))) | exact fun p hp => .tail _ (.tail _ (.tail _ (.tail _ (.tail _ (.tail _ (.tail _ (.tail _ (.tail _ (.tail _ (.tail _ (.tail _ (.tail _ (.tail _ (.tail _ hp))))))))))))))) (by assumption) (by first | rfl | assumption)))
        | (refine Back.mk ?_
           rw [show decide (2 * (N + y) + 1168565 = 2 * N + 1168565 + 2 * ((20 * wm + 1 - (20 * mo + hy)) % 365)) = true from decide_eq_true (by omega)]
           exact hQ _ (aft_out x (by assumption) (by assumption) (by assumption) (by first | exact fun p hp => hp | exact fun p hp => .tail _ hp | exact fun p hp => .tail _ (.tail _ hp) | exact fun p hp => .tail _ (.tail _ (.tail _ hp)) | exact fun p hp => .tail _ (.tail _ (.tail _ (.tail _ hp))) | exact fun p hp => .tail _ (.tail _ (.tail _ (.tail _ (.tail _ hp)))) | exact fun p hp => .tail _ (.tail _ (.tail _ (.tail _ (.tail _ (.tail _ hp))))) | exact fun p hp => .tail _ (.tail _ (.tail _ (.tail _ (.tail _ (.tail _ (.tail _ hp)))))) | exact fun p hp => .tail _ (.tail _ (.tail _ (.tail _ (.tail _ (.tail _ (.tail _ (.tail _ hp))))))) | exact fun p hp => .tail _ (.tail _ (.tail _ (.tail _ (.tail _ (.tail _ (.tail _ (.tail _ (.tail _ hp)))))))) | exact fun p hp => .tail _ (.tail _ (.tail _ (.tail _ (.tail _ (.tail _ (.tail _ (.tail _ (.tail _ (.tail _ hp))))))))) | exact fun p hp => .tail _ (.tail _ (.tail _ (.tail _ (.tail _ (.tail _ (.tail _ (.tail _ (.tail _ (.tail _ (.tail _ hp)))))))))) | exact fun p hp => .tail _ (.tail _ (.tail _ (.tail _ (.tail _ (.tail _ (.tail _ (.tail _ (.tail _ (.tail _ (.tail _ (.tail _ hp))))))))))) | exact fun p hp => .tail _ (.tail _ (.tail _ (.tail _ (.tail _ (.tail _ (.tail _ (.tail _ (.tail _ (.tail _ (.tail _ (.tail _ (.tail _ hp)))))))))))) | exact fun p hp => .tail _ (.tail _ (.tail _ (.tail _ (.tail _ (.tail _ (.tail _ (.tail _ (.tail _ (.tail _ (.tail _ (.tail _ (.tail _ (.tail _ hp))))))))))))) | exact fun p hp => .tail _ (.tail _ (.tail _ (.tail _ (.tail _ (.tail _ (.tail _ (.tail _ (.tail _ (.tail _ (.tail _ (.tail _ (.tail _ (.tail _ (.tail _ hp))))))))))))))) (by assumption) (by first | rfl | assumption)))
    · k_steps
      all_goals first
        | (refine Back.mk (hQ _ ?_)
           exact (aft_out x (by assumption) (by assumption) (by assumption) (by first | exact fun p hp => hp | exact fun p hp => .tail _ hp | exact fun p hp => .tail _ (.tail _ hp) | exact fun p hp => .tail _ (.tail _ (.tail _ hp)) | exact fun p hp => .tail _ (.tail _ (.tail _ (.tail _ hp))) | exact fun p hp => .tail _ (.tail _ (.tail _ (.tail _ (.tail _ hp)))) | exact fun p hp => .tail _ (.tail _ (.tail _ (.tail _ (.tail _ (.tail _ hp))))) | exact fun p hp => .tail _ (.tail _ (.tail _ (.tail _ (.tail _ (.tail _ (.tail _ hp)))))) | exact fun p hp => .tail _ (.tail _ (.tail _ (.tail _ (.tail _ (.tail _ (.tail _ (.tail _ hp))))))) | exact fun p hp => .tail _ (.tail _ (.tail _ (.tail _ (.tail _ (.tail _ (.tail _ (.tail _ (.tail _ hp)))))))) | exact fun p hp => .tail _ (.tail _ (.tail _ (.tail _ (.tail _ (.tail _ (.tail _ (.tail _ (.tail _ (.tail _ hp))))))))) | exact fun p hp => .tail _ (.tail _ (.tail _ (.tail _ (.tail _ (.tail _ (.tail _ (.tail _ (.tail _ (.tail _ (.tail _ hp)))))))))) | exact fun p hp => .tail _ (.tail _ (.tail _ (.tail _ (.tail _ (.tail _ (.tail _ (.tail _ (.tail _ (.tail _ (.tail _ (.tail _ hp))))))))))) | exact fun p hp => .tail _ (.tail _ (.tail _ (.tail _ (.tail _ (.tail _ (.tail _ (.tail _ (.tail _ (.tail _ (.tail _ (.tail _ (.tail _ hp)))))))))))) | exact fun p hp => .tail _ (.tail _ (.tail _ (.tail _ (.tail _ (.tail _ (.tail _ (.tail _ (.tail _ (.tail _ (.tail _ (.tail _ (.tail _ (.tail _ hp))))))))))))) | exact fun p hp => .tail _ (.tail _ (.tail _ (.tail _ (.tail _ (.tail _ (.tail _ (.tail _ (.tail _ (.tail _ (.tail _ (.tail _ (.tail _ (.tail _ (.tail _ hp))))))))))))))) (by assumption) (by first | rfl | assumption)))
        | (refine Back.mk ?_
           rw [show decide (2 * (N + y) + 1168565 = 2 * N + 1168565 + 2 * ((20 * wm + 1 - (20 * mo + hy)) % 365)) = true from decide_eq_true (by omega)]
           exact hQ _ (aft_out x (by assumption) (by assumption) (by assumption) (by first | exact fun p hp => hp | exact fun p hp => .tail _ hp | exact fun p hp => .tail _ (.tail _ hp) | exact fun p hp => .tail _ (.tail _ (.tail _ hp)) | exact fun p hp => .tail _ (.tail _ (.tail _ (.tail _ hp))) | exact fun p hp => .tail _ (.tail _ (.tail _ (.tail _ (.tail _ hp)))) | exact fun p hp => .tail _ (.tail _ (.tail _ (.tail _ (.tail _ (.tail _ hp))))) | exact fun p hp => .tail _ (.tail _ (.tail _ (.tail _ (.tail _ (.tail _ (.tail _ hp)))))) | exact fun p hp => .tail _ (.tail _ (.tail _ (.tail _ (.tail _ (.tail _ (.tail _ (.tail _ hp))))))) | exact fun p hp => .tail _ (.tail _ (.tail _ (.tail _ (.tail _ (.tail _ (.tail _ (.tail _ (.tail _ hp)))))))) | exact fun p hp => .tail _ (.tail _ (.tail _ (.tail _ (.tail _ (.tail _ (.tail _ (.tail _ (.tail _ (.tail _ hp))))))))) | exact fun p hp => .tail _ (.tail _ (.tail _ (.tail _ (.tail _ (.tail _ (.tail _ (.tail _ (.tail _ (.tail _ (.tail _ hp)))))))))) | exact fun p hp => .tail _ (.tail _ (.tail _ (.tail _ (.tail _ (.tail _ (.tail _ (.tail _ (.tail _ (.tail _ (.tail _ (.tail _ hp))))))))))) | exact fun p hp => .tail _ (.tail _ (.tail _ (.tail _ (.tail _ (.tail _ (.tail _ (.tail _ (.tail _ (.tail _ (.tail _ (.tail _ (.tail _ hp)))))))))))) | exact fun p hp => .tail _ (.tail _ (.tail _ (.tail _ (.tail _ (.tail _ (.tail _ (.tail _ (.tail _ (.tail _ (.tail _ (.tail _ (.tail _ (.tail _ hp))))))))))))) | exact fun p hp => .tail _ (.tail _ (.tail _ (.tail _ (.tail _ (.tail _ (.tail _ (.tail _ (.tail _ (.tail _ (.tail _ (.tail _ (.tail _ (.tail _ (.tail _ hp))))))))))))))) (by assumption) (by first | rfl | assumption)))
  · have hne : faultS (decide (N < 0)) false = [] := by rw [decide_eq_false h0]; decide
    rcases P' with ⟨⟨h, h'⟩, y, z', t', rfl, hz', hy'⟩ | ⟨⟨t', rfl⟩, hm⟩ | ⟨⟨t', rfl⟩, hm⟩
    · k_steps
      all_goals first
        | (refine Back.mk (hQ _ ?_)
           exact (aft_out x (by assumption) (by assumption) (by assumption) (by first | exact fun p hp => hp | exact fun p hp => .tail _ hp | exact fun p hp => .tail _ (.tail _ hp) | exact fun p hp => .tail _ (.tail _ (.tail _ hp)) | exact fun p hp => .tail _ (.tail _ (.tail _ (.tail _ hp))) | exact fun p hp => .tail _ (.tail _ (.tail _ (.tail _ (.tail _ hp)))) | exact fun p hp => .tail _ (.tail _ (.tail _ (.tail _ (.tail _ (.tail _ hp))))) | exact fun p hp => .tail _ (.tail _ (.tail _ (.tail _ (.tail _ (.tail _ (.tail _ hp)))))) | exact fun p hp => .tail _ (.tail _ (.tail _ (.tail _ (.tail _ (.tail _ (.tail _ (.tail _ hp))))))) | exact fun p hp => .tail _ (.tail _ (.tail _ (.tail _ (.tail _ (.tail _ (.tail _ (.tail _ (.tail _ hp)))))))) | exact fun p hp => .tail _ (.tail _ (.tail _ (.tail _ (.tail _ (.tail _ (.tail _ (.tail _ (.tail _ (.tail _ hp))))))))) | exact fun p hp => .tail _ (.tail _ (.tail _ (.tail _ (.tail _ (.tail _ (.tail _ (.tail _ (.tail _ (.tail _ (.tail _ hp)))))))))) | exact fun p hp => .tail _ (.tail _ (.tail _ (.tail _ (.tail _ (.tail _ (.tail _ (.tail _ (.tail _ (.tail _ (.tail _ (.tail _ hp))))))))))) | exact fun p hp => .tail _ (.tail _ (.tail _ (.tail _ (.tail _ (.tail _ (.tail _ (.tail _ (.tail _ (.tail _ (.tail _ (.tail _ (.tail _ hp)))))))))))) | exact fun p hp => .tail _ (.tail _ (.tail _ (.tail _ (.tail _ (.tail _ (.tail _ (.tail _ (.tail _ (.tail _ (.tail _ (.tail _ (.tail _ (.tail _ hp))))))))))))) | exact fun p hp => .tail _ (.tail _ (.tail _ (.tail _ (.tail _ (.tail _ (.tail _ (.tail _ (.tail _ (.tail _ (.tail _ (.tail _ (.tail _ (.tail _ (.tail _ hp))))))))))))))) (by assumption) (by first | rfl | assumption)))
        | (refine Back.mk ?_
           rw [show decide (2 * (N + y) + 1168565 = 2 * N + 1168565 + 2 * ((20 * wm + 1 - (20 * mo + hy)) % 365)) = true from decide_eq_true (by omega)]
           exact hQ _ (aft_out x (by assumption) (by assumption) (by assumption) (by first | exact fun p hp => hp | exact fun p hp => .tail _ hp | exact fun p hp => .tail _ (.tail _ hp) | exact fun p hp => .tail _ (.tail _ (.tail _ hp)) | exact fun p hp => .tail _ (.tail _ (.tail _ (.tail _ hp))) | exact fun p hp => .tail _ (.tail _ (.tail _ (.tail _ (.tail _ hp)))) | exact fun p hp => .tail _ (.tail _ (.tail _ (.tail _ (.tail _ (.tail _ hp))))) | exact fun p hp => .tail _ (.tail _ (.tail _ (.tail _ (.tail _ (.tail _ (.tail _ hp)))))) | exact fun p hp => .tail _ (.tail _ (.tail _ (.tail _ (.tail _ (.tail _ (.tail _ (.tail _ hp))))))) | exact fun p hp => .tail _ (.tail _ (.tail _ (.tail _ (.tail _ (.tail _ (.tail _ (.tail _ (.tail _ hp)))))))) | exact fun p hp => .tail _ (.tail _ (.tail _ (.tail _ (.tail _ (.tail _ (.tail _ (.tail _ (.tail _ (.tail _ hp))))))))) | exact fun p hp => .tail _ (.tail _ (.tail _ (.tail _ (.tail _ (.tail _ (.tail _ (.tail _ (.tail _ (.tail _ (.tail _ hp)))))))))) | exact fun p hp => .tail _ (.tail _ (.tail _ (.tail _ (.tail _ (.tail _ (.tail _ (.tail _ (.tail _ (.tail _ (.tail _ (.tail _ hp))))))))))) | exact fun p hp => .tail _ (.tail _ (.tail _ (.tail _ (.tail _ (.tail _ (.tail _ (.tail _ (.tail _ (.tail _ (.tail _ (.tail _ (.tail _ hp)))))))))))) | exact fun p hp => .tail _ (.tail _ (.tail _ (.tail _ (.tail _ (.tail _ (.tail _ (.tail _ (.tail _ (.tail _ (.tail _ (.tail _ (.tail _ (.tail _ hp))))))))))))) | exact fun p hp => .tail _ (.tail _ (.tail _ (.tail _ (.tail _ (.tail _ (.tail _ (.tail _ (.tail _ (.tail _ (.tail _ (.tail _ (.tail _ (.tail _ (.tail _ hp))))))))))))))) (by assumption) (by first | rfl | assumption)))
    · omega
    · k_steps
      all_goals first
        | (refine Back.mk (hQ _ ?_)
           exact (aft_out x (by assumption) (by assumption) (by assumption) (by first | exact fun p hp => hp | exact fun p hp => .tail _ hp | exact fun p hp => .tail _ (.tail _ hp) | exact fun p hp => .tail _ (.tail _ (.tail _ hp)) | exact fun p hp => .tail _ (.tail _ (.tail _ (.tail _ hp))) | exact fun p hp => .tail _ (.tail _ (.tail _ (.tail _ (.tail _ hp)))) | exact fun p hp => .tail _ (.tail _ (.tail _ (.tail _ (.tail _ (.tail _ hp))))) | exact fun p hp => .tail _ (.tail _ (.tail _ (.tail _ (.tail _ (.tail _ (.tail _ hp)))))) | exact fun p hp => .tail _ (.tail _ (.tail _ (.tail _ (.tail _ (.tail _ (.tail _ (.tail _ hp))))))) | exact fun p hp => .tail _ (.tail _ (.tail _ (.tail _ (.tail _ (.tail _ (.tail _ (.tail _ (.tail _ hp)))))))) | exact fun p hp => .tail _ (.tail _ (.tail _ (.tail _ (.tail _ (.tail _ (.tail _ (.tail _ (.tail _ (.tail _ hp))))))))) | exact fun p hp => .tail _ (.tail _ (.tail _ (.tail _ (.tail _ (.tail _ (.tail _ (.tail _ (.tail _ (.tail _ (.tail _ hp)))))))))) | exact fun p hp => .tail _ (.tail _ (.tail _ (.tail _ (.tail _ (.tail _ (.tail _ (.tail _ (.tail _ (.tail _ (.tail _ (.tail _ hp))))))))))) | exact fun p hp => .tail _ (.tail _ (.tail _ (.tail _ (.tail _ (.tail _ (.tail _ (.tail _ (.tail _ (.tail _ (.tail _ (.tail _ (.tail _ hp)))))))))))) | exact fun p hp => .tail _ (.tail _ (.tail _ (.tail _ (.tail _ (.tail _ (.tail _ (.tail _ (.tail _ (.tail _ (.tail _ (.tail _ (.tail _ (.tail _ hp))))))))))))) | exact fun p hp => .tail _ (.tail _ (.tail _ (.tail _ (.tail _ (.tail _ (.tail _ (.tail _ (.tail _ (.tail _ (.tail _ (.tail _ (.tail _ (.tail _ (.tail _ hp))))))))))))))) (by assumption) (by first | rfl | assumption)))
        | (refine Back.mk ?_
           rw [show decide (2 * (N + y) + 1168565 = 2 * N + 1168565 + 2 * ((20 * wm + 1 - (20 * mo + hy)) % 365)) = true from decide_eq_true (by omega)]
           exact hQ _ (aft_out x (by assumption) (by assumption) (by assumption) (by first | exact fun p hp => hp | exact fun p hp => .tail _ hp | exact fun p hp => .tail _ (.tail _ hp) | exact fun p hp => .tail _ (.tail _ (.tail _ hp)) | exact fun p hp => .tail _ (.tail _ (.tail _ (.tail _ hp))) | exact fun p hp => .tail _ (.tail _ (.tail _ (.tail _ (.tail _ hp)))) | exact fun p hp => .tail _ (.tail _ (.tail _ (.tail _ (.tail _ (.tail _ hp))))) | exact fun p hp => .tail _ (.tail _ (.tail _ (.tail _ (.tail _ (.tail _ (.tail _ hp)))))) | exact fun p hp => .tail _ (.tail _ (.tail _ (.tail _ (.tail _ (.tail _ (.tail _ (.tail _ hp))))))) | exact fun p hp => .tail _ (.tail _ (.tail _ (.tail _ (.tail _ (.tail _ (.tail _ (.tail _ (.tail _ hp)))))))) | exact fun p hp => .tail _ (.tail _ (.tail _ (.tail _ (.tail _ (.tail _ (.tail _ (.tail _ (.tail _ (.tail _ hp))))))))) | exact fun p hp => .tail _ (.tail _ (.tail _ (.tail _ (.tail _ (.tail _ (.tail _ (.tail _ (.tail _ (.tail _ (.tail _ hp)))))))))) | exact fun p hp => .tail _ (.tail _ (.tail _ (.tail _ (.tail _ (.tail _ (.tail _ (.tail _ (.tail _ (.tail _ (.tail _ (.tail _ hp))))))))))) | exact fun p hp => .tail _ (.tail _ (.tail _ (.tail _ (.tail _ (.tail _ (.tail _ (.tail _ (.tail _ (.tail _ (.tail _ (.tail _ (.tail _ hp)))))))))))) | exact fun p hp => .tail _ (.tail _ (.tail _ (.tail _ (.tail _ (.tail _ (.tail _ (.tail _ (.tail _ (.tail _ (.tail _ (.tail _ (.tail _ (.tail _ hp))))))))))))) | exact fun p hp => .tail _ (.tail _ (.tail _ (.tail _ (.tail _ (.tail _ (.tail _ (.tail _ (.tail _ (.tail _ (.tail _ (.tail _ (.tail _ (.tail _ (.tail _ hp))))))))))))))) (by assumption) (by first | rfl | assumption)))
end
end Mine
namespace Mine
open PySem PySem.W PySem.Calls PySem.Spec PyProof.Rows
theorem tz_eq {N nu na wn wi y y' : Int} (b3 : (nu + y' - wn) % 13 = 0) (b4 : (na + y' - wi) % 20 = 0) (c3 : (y + N + 4 - wn) % 13 = 0) (c4 : (y + N + 19 - wi) % 20 = 0)
    (hnu : nu = (N + 3) % 13 + 1) (hna : na = (N + 19) % 20) (b1 : 0 ≤ y') (b2 : y' < 260) (c1 : 0 ≤ y) (c2 : y < 260) : y' = y := by
  have h1 : (y' - y) % 13 = 0 := by omega
  have h2 : (y' - y) % 20 = 0 := by omega
  omega
theorem any_l {a b : List Str} {k : Str} (h : a.any (· == k) = true) : (a ++ b).any (· == k) = true := by rw [List.any_append, h]; rfl
theorem any_r {a b : List Str} {k : Str} (h : b.any (· == k) = true) : (a ++ b).any (· == k) = true := by rw [List.any_append, h, Bool.or_true]
local macro_rules | `(tactic| walk_at "eval Constant float") => `(tactic| (k_dflt (refine' constHI (by first | exact isH_half | assumption) ?_); intro z' hz'))
local macro_rules | `(tactic| walk_at "binaryOp Add float int") => `(tactic| (k_dflt (refine' addHI (by assumption) (by omega) (by omega) ?_); intro z' hz'))
local macro_rules | `(tactic| walk_at "binaryOp Add int float") => `(tactic| (k_dflt (refine' addIH (by assumption) (by omega) (by omega) ?_); intro z' hz'))
local macro_rules | `(tactic| walk_at "binaryOp Sub float float") => `(tactic| (k_dflt (refine' subHH (by assumption) (by assumption) (by omega) ?_); intro z' hz'))
local macro_rules | `(tactic| walk_at "binaryOp Mod float int") => `(tactic| (k_dflt (refine' modHI' (by assumption) (by omega) (by omega) (by omega) (by omega) ?_); intro z' hz'))
local macro_rules | `(tactic| walk_at "binaryOp Div float int") => `(tactic| (k_dflt (refine' divHI20' (by assumption) (by omega) (by omega) (by omega) ?_); intro z' hz'))
local macro_rules | `(tactic| walk_at "call builtin:math.trunc") => `(tactic| (k_dflt first | (refine' truncH (by assumption) (by omega) rfl ?_) | (refine' truncQ (by assumption) rfl ?_)))
local macro_rules | `(tactic| walk_at "call type:int") => `(tactic| ((with_reducible show wpAny _ _ (call _ [Value.float _ _]) _ _ _); k_dflt (refine' intH (by assumption) (by omega) ?_)))
local macro_rules | `(tactic| walk_at "compareOp Eq float float") => `(tactic| (k_dflt (refine' eqHH (by assumption) (by assumption) ?_)))
local macro_rules | `(tactic| walk_at "compareOp NotEq float float") => `(tactic| (k_dflt (refine' neHH (by assumption) (by assumption) ?_)))
local macro_rules | `(tactic| walk_at "compareOp Lt float float") => `(tactic| (k_dflt (refine' ltHH (by assumption) (by assumption) ?_)))
local macro_rules | `(tactic| walk_at "subscriptTail") => `(tactic| ((with_reducible show wpAny _ _ (subscriptTail _ _ (Value.ref _) (Value.int _ _)) _ _ _); k_dflt (first
  | refine' item50 (by assumption) (by assumption) (by omega) (by omega) ?_ (by with_unfolding_all rfl)
  | refine' item51 (by assumption) (by assumption) (by omega) (by omega) ?_ (by with_unfolding_all rfl)
  | refine' item101 (by assumption) (by assumption) (by omega) (by omega) ?_ (by with_unfolding_all rfl)
  | refine' item102 (by assumption) (by assumption) (by omega) (by omega) ?_ (by with_unfolding_all rfl)); intro t'))
local macro_rules | `(tactic| walk_at "getMethod ref") => `(tactic| ((with_reducible show wpAny _ _ (getMethod (Value.ref _) (Str.ofString "index") _) _ _ _); k_dflt (first | refine' getIndex50 (by assumption) (by assumption) ?_ | refine' getIndex51 (by assumption) (by assumption) ?_)))
local macro_rules | `(tactic| walk_at "call builtin:list.index") => `(tactic| (k_dflt (first | refine' idx50 (by assumption) (by assumption) (by omega) (by omega) rfl ?_ ?_ | refine' idx51 (by assumption) (by assumption) (by omega) (by omega) rfl ?_ ?_); (first | (intro hj' h' tk' e' hx') | (intro hj'))))
local macro_rules | `(tactic| walk_at "exec Raise some none") => `(tactic| refine Raise_new rfl ?_)
local macro_rules | `(tactic| walk_at "binaryOp Mod int int") => `(tactic| refine modP (by decide) ?_)
local macro_rules | `(tactic| walk_at "compareOp NotEq ref ref") => `(tactic| (k_dflt first | (refine' ne_nil_t ?N ?ma ?mb ?sa ?hne ?hsh ?hu ?_; (case N => assumption); (case ma => (first | exact .head _ | exact .tail _ (.head _) | exact .tail _ (.tail _ (.head _)) | exact .tail _ (.tail _ (.tail _ (.head _))) | exact .tail _ (.tail _ (.tail _ (.tail _ (.head _)))) | exact .tail _ (.tail _ (.tail _ (.tail _ (.tail _ (.head _))))))); (case mb => (first | exact .head _ | exact .tail _ (.head _) | exact .tail _ (.tail _ (.head _)) | exact .tail _ (.tail _ (.tail _ (.head _))) | exact .tail _ (.tail _ (.tail _ (.tail _ (.head _)))) | exact .tail _ (.tail _ (.tail _ (.tail _ (.tail _ (.head _))))))); (case sa => assumption); (case hne => assumption); (case hsh => first | exact shaped_f _ _ | exact shaped_ff _ _ _ _); (case hu => exact units64 (by assumption))) | (refine' ne_nil_f ?N ?ma ?mb ?sa ?hne ?hsh ?hu ?_; (case N => assumption); (case ma => (first | exact .head _ | exact .tail _ (.head _) | exact .tail _ (.tail _ (.head _)) | exact .tail _ (.tail _ (.tail _ (.head _))) | exact .tail _ (.tail _ (.tail _ (.tail _ (.head _)))) | exact .tail _ (.tail _ (.tail _ (.tail _ (.tail _ (.head _))))))); (case mb => (first | exact .head _ | exact .tail _ (.head _) | exact .tail _ (.tail _ (.head _)) | exact .tail _ (.tail _ (.tail _ (.head _))) | exact .tail _ (.tail _ (.tail _ (.tail _ (.head _)))) | exact .tail _ (.tail _ (.tail _ (.tail _ (.tail _ (.head _))))))); (case sa => assumption); (case hne => assumption); (case hsh => first | exact shaped_f _ _ | exact shaped_ff _ _ _ _); (case hu => exact units64 (by assumption)))))
local macro_rules | `(tactic| walk_at "binaryOp Add ref ref") => `(tactic| (k_dflt first | (refine' add_strs ?F ?N ?ma ?mb ?sa ?sb ?hz ?_; (case F => assumption); (case N => assumption); (case ma => (first | exact .head _ | exact .tail _ (.head _) | exact .tail _ (.tail _ (.head _)) | exact .tail _ (.tail _ (.tail _ (.head _))) | exact .tail _ (.tail _ (.tail _ (.tail _ (.head _)))) | exact .tail _ (.tail _ (.tail _ (.tail _ (.tail _ (.head _))))))); (case mb => (first | exact .head _ | exact .tail _ (.head _) | exact .tail _ (.tail _ (.head _)) | exact .tail _ (.tail _ (.tail _ (.head _))) | exact .tail _ (.tail _ (.tail _ (.tail _ (.head _)))) | exact .tail _ (.tail _ (.tail _ (.tail _ (.tail _ (.head _))))))); (case sa => assumption); (case sb => assumption); (case hz => exact faultS_len2 _ _ _ _); (intro D' vs' h' F' N' ss'))))
local macro_rules | `(tactic| walk_at "compareOp In str ref") => `(tactic| (k_dflt first | (refine' in_t ?N ?ma ?sa ?hm ?_; (case N => assumption); (case ma => (first | exact .head _ | exact .tail _ (.head _) | exact .tail _ (.tail _ (.head _)) | exact .tail _ (.tail _ (.tail _ (.head _))) | exact .tail _ (.tail _ (.tail _ (.tail _ (.head _)))) | exact .tail _ (.tail _ (.tail _ (.tail _ (.tail _ (.head _))))))); (case sa => assumption); (case hm => first | assumption | (rw [List.any_append, faultS_index (decide_eq_true (by assumption))]; rfl) | (rw [List.any_append, faultS_value (a := false) (beq_iff_eq.mpr (by omega)), Bool.or_true])))))
local macro_rules | `(tactic| walk_at "compareOp NotIn str ref") => `(tactic| (k_dflt first | (refine' notin_f ?N ?ma ?sa ?hm ?_; (case N => assumption); (case ma => (first | exact .head _ | exact .tail _ (.head _) | exact .tail _ (.tail _ (.head _)) | exact .tail _ (.tail _ (.tail _ (.head _))) | exact .tail _ (.tail _ (.tail _ (.tail _ (.head _)))) | exact .tail _ (.tail _ (.tail _ (.tail _ (.tail _ (.head _))))))); (case sa => assumption); (case hm => first | assumption))))
local macro_rules | `(tactic| walk_at "call ref") => `(tactic| ((with_reducible show wpAny _ _ (call (Value.ref 137) _) _ _ _); refine Back.out ?_))
local macro_rules | `(tactic| walk_at "execs cons") => `(tactic| ((with_reducible show wpAny _ _ (execs (Stmt.Assign [Expr.Name (Str.ofString "told") _] (Expr.Call (Expr.Name (Str.ofString "_law_told_month") _) _ _ _) _ :: _) _) _ _ _); refine Back.out ?_))
local macro_rules | `(tactic| walk_at "call ref") => `(tactic| ((with_reducible show wpAny _ _ (call (Value.ref 116) _) _ _ _); k_dflt (first | refine' use (made := []) (by assumption) (by assumption) (by assumption) (by assumption) ?pl rfl (by intro e; cases e) (by assumption) (by first | rfl | assumption) (fun x' k' => law_tz_spec x' _ _ _ _ _ _ _ _ (by omega) (by omega) (by omega) (by omega) (by omega) (by omega) (by omega) (by omega) k') ?_ | refine' use (made := [_]) (by assumption) (by assumption) (by assumption) (by assumption) ?pl rfl (by intro e; cases e) (by assumption) (by first | rfl | assumption) (fun x' k' => law_tz_spec x' _ _ _ _ _ _ _ _ (by omega) (by omega) (by omega) (by omega) (by omega) (by omega) (by omega) (by omega) k') ?_ | refine' use (made := [_, _]) (by assumption) (by assumption) (by assumption) (by assumption) ?pl rfl (by intro e; cases e) (by assumption) (by first | rfl | assumption) (fun x' k' => law_tz_spec x' _ _ _ _ _ _ _ _ (by omega) (by omega) (by omega) (by omega) (by omega) (by omega) (by omega) (by omega) k') ?_ | refine' use (made := [_, _, _]) (by assumption) (by assumption) (by assumption) (by assumption) ?pl rfl (by intro e; cases e) (by assumption) (by first | rfl | assumption) (fun x' k' => law_tz_spec x' _ _ _ _ _ _ _ _ (by omega) (by omega) (by omega) (by omega) (by omega) (by omega) (by omega) (by omega) k') ?_ | refine' use (made := [_, _, _, _]) (by assumption) (by assumption) (by assumption) (by assumption) ?pl rfl (by intro e; cases e) (by assumption) (by first | rfl | assumption) (fun x' k' => law_tz_spec x' _ _ _ _ _ _ _ _ (by omega) (by omega) (by omega) (by omega) (by omega) (by omega) (by omega) (by omega) k') ?_ | refine' use (made := [_, _, _, _, _]) (by assumption) (by assumption) (by assumption) (by assumption) ?pl rfl (by intro e; cases e) (by assumption) (by first | rfl | assumption) (fun x' k' => law_tz_spec x' _ _ _ _ _ _ _ _ (by omega) (by omega) (by omega) (by omega) (by omega) (by omega) (by omega) (by omega) k') ?_ | refine' use (made := [_, _, _, _, _, _]) (by assumption) (by assumption) (by assumption) (by assumption) ?pl rfl (by intro e; cases e) (by assumption) (by first | rfl | assumption) (fun x' k' => law_tz_spec x' _ _ _ _ _ _ _ _ (by omega) (by omega) (by omega) (by omega) (by omega) (by omega) (by omega) (by omega) k') ?_ | refine' use (made := [_, _, _, _, _, _, _]) (by assumption) (by assumption) (by assumption) (by assumption) ?pl rfl (by intro e; cases e) (by assumption) (by first | rfl | assumption) (fun x' k' => law_tz_spec x' _ _ _ _ _ _ _ _ (by omega) (by omega) (by omega) (by omega) (by omega) (by omega) (by omega) (by omega) k') ?_ | refine' use (made := [_, _, _, _, _, _, _, _]) (by assumption) (by assumption) (by assumption) (by assumption) ?pl rfl (by intro e; cases e) (by assumption) (by first | rfl | assumption) (fun x' k' => law_tz_spec x' _ _ _ _ _ _ _ _ (by omega) (by omega) (by omega) (by omega) (by omega) (by omega) (by omega) (by omega) k') ?_ | refine' use (made := [_, _, _, _, _, _, _, _, _]) (by assumption) (by assumption) (by assumption) (by assumption) ?pl rfl (by intro e; cases e) (by assumption) (by first | rfl | assumption) (fun x' k' => law_tz_spec x' _ _ _ _ _ _ _ _ (by omega) (by omega) (by omega) (by omega) (by omega) (by omega) (by omega) (by omega) k') ?_ | refine' use (made := [_, _, _, _, _, _, _, _, _, _]) (by assumption) (by assumption) (by assumption) (by assumption) ?pl rfl (by intro e; cases e) (by assumption) (by first | rfl | assumption) (fun x' k' => law_tz_spec x' _ _ _ _ _ _ _ _ (by omega) (by omega) (by omega) (by omega) (by omega) (by omega) (by omega) (by omega) k') ?_ | refine' use (made := [_, _, _, _, _, _, _, _, _, _, _]) (by assumption) (by assumption) (by assumption) (by assumption) ?pl rfl (by intro e; cases e) (by assumption) (by first | rfl | assumption) (fun x' k' => law_tz_spec x' _ _ _ _ _ _ _ _ (by omega) (by omega) (by omega) (by omega) (by omega) (by omega) (by omega) (by omega) k') ?_); (case pl => (repeat (first | exact Plain.nil | refine Plain.seq rfl ?_ | refine Plain.set (by assumption) ?_ | refine Plain.cell (by assumption) ?_))); (intro v' s' mu' M' F' N' hb' ho' P'); (try simp only [List.nil_append, List.cons_append] at N'); (obtain ⟨y', t', e', b1', b2', b3', b4'⟩ := P'; subst e'; have hq' := tz_eq b3' b4' (by assumption) (by assumption) (by assumption) (by assumption) b1' b2' (by assumption) (by assumption); subst hq')))
section
variable {w : World} {mg mb : Str → Option Value} {ob : Obj} {dp un n : Nat} {gd : Option (List Code)} {envs : List Env} {Q E : Value → Shared → Prop}
theorem solid_news {L : Addr} {h : Heap} {s₀ : Shared} {news mu : List (Addr × Obj)} {a : Addr} {o : Obj} {env : Env} (N : News (solid (fsOf envs) s₀.heap) L h news) (x : Sit w mg mb ob dp un envs n s₀) (M : Mu s₀.heap (fsOf envs) mu) (sub : ∀ p ∈ mu, p ∈ news) (hf : env.frame = some L) (hm : (a, o) ∈ news)
    {items : Array Value} {e : Nat} (hl : o.data = .seq items e) : (solid (fsOf (env :: envs)) h).get? a = some o := by
  have hN := N _ hm
  refine solid_get.mpr ⟨hN.1, fun hh => ?_⟩
  have hh2 : a = L ∨ a ∈ hid (fsOf envs) := by
    rw [fsOf_cons hf] at hh
    rcases List.mem_cons.mp hh with r | hh
    · exact .inr (r ▸ .head _)
    · rcases List.mem_cons.mp hh with r | hh
      · exact .inr (r ▸ .tail _ (.head _))
      · rcases List.mem_cons.mp hh with r | hh
        · exact .inl r
        · exact .inr (.tail _ (.tail _ hh))
  rcases hh2 with r | hh
  · exact hN.2.1 r
  · have key : ∃ o2, (a, o2) ∈ mu := by
      rcases List.mem_cons.mp hh with rfl | hh
      · obtain ⟨ps, hm, _⟩ := M.t1; exact ⟨_, hm⟩
      · rcases List.mem_cons.mp hh with rfl | hh
        · obtain ⟨ps, hm, _⟩ := M.t2; exact ⟨_, hm⟩
        · obtain ⟨o0, h0, _⟩ := x.fr.dict hh
          obtain ⟨sl, hm⟩ := M.fr a hh _ h0; exact ⟨_, hm⟩
    obtain ⟨o2, h2⟩ := key
    have h3 := (N _ (sub _ h2)).1
    have e3 : o2 = o := Option.some.inj (h3.symm.trans hN.1)
    rcases M.only _ h2 with ⟨ps, hd⟩ | ⟨es, ep, hd⟩
    · rw [e3, hl] at hd; cases hd
    · rw [e3, hl] at hd; cases hd
set_option maxHeartbeats 40000000 in
theorem segY {s₀ s : Shared} {L : Addr} {m : Str → Option Value} {mu : List (Addr × Obj)} {N nu na hy mo wn wi e wm k : Int} {z : UInt64} {aT aH aE aW aV : Addr} {t0 t1 t2 t3 t4 t5 t6 t7 t8 t9 t10 u1 u2 u3 u4 : Tok} {vE vW vV : List Value} {n' : Nat}
    (q : LawAt w mg mb ob dp un n' envs s₀ s L m mu N z nu na hy mo wn wi e wm k aT aH aE aW aV t0 t1 t2 t3 t4 t5 t6 t7 t8 t9 t10 u1 u2 u3 u4 vE vW vV)
    {name qual : Str} {params : Arguments} {body rest : List Stmt} {scope : Scope} {dV kV doc pm cdv ct oc : Value} {an od : Option Addr} {osl : Array (Option Value)}
    (ho : (hd.heap_39 w.params).lookup 158 = some ⟨oc, od, .func (fnOf name qual params body scope dV kV doc pm an cdv ct), osl⟩) (hr : rest = body.drop 22)
    (hQ : ∀ s', Aft w mg mb ob envs s₀ s' → Q (.bool true) s') :
    wpAny (model PRG w) ((aro dp un gd envs).deeper (envOf qual scope L 158 cdv)) (execs rest (envOf qual scope L 158 cdv)) (fun fl s' => Back (Q (match fl with | .ret v => v | _ => .none) s')) E s := by
  obtain ⟨x, F0, N0, M, hb0, ho0, hread, sE, sW, sV, hz, hN1, hN2, hk0, hk1, hnu, hna, hhd, hmo, hwi, hwm, hfix⟩ := q
  refine' lawEq ?hk ho ?_
  case hk => k_is
  rintro rfl rfl rfl rfl rfl
  clear ho
  subst hr
  have F' := fr_L hread F0
  clear F0 hread
  have X' := In.keep x.W.X x.hi fun b o e => e
  have T' := TopRead.keep x.W.T x.hi fun b o e => e
  have N' := N0
  clear N0
  simp only [List.cons_append, List.nil_append] at N'
  dsimp only [List.drop]
  try k_fold
  k_steps
  refine Back.mk ?_
  refine use (made := [_, _, _, _, _]) x (by assumption) (by assumption) (by assumption) (by (repeat (first | exact Plain.nil | refine Plain.seq rfl ?_ | refine Plain.set (by assumption) ?_ | refine Plain.cell (by assumption) ?_))) rfl (by intro z; cases z) (by assumption) (by first | rfl | assumption) (fun x' k' => tt_spec x' aT u1 u2 _ wn wi N z hz hN1 (by omega) hwi.1 hwi.2 (solid_news (by assumption) x (by assumption) (by first | exact fun p hp => hp | exact fun p hp => .tail _ hp | exact fun p hp => .tail _ (.tail _ hp) | exact fun p hp => .tail _ (.tail _ (.tail _ hp)) | exact fun p hp => .tail _ (.tail _ (.tail _ (.tail _ hp))) | exact fun p hp => .tail _ (.tail _ (.tail _ (.tail _ (.tail _ hp)))) | exact fun p hp => .tail _ (.tail _ (.tail _ (.tail _ (.tail _ (.tail _ hp))))) | exact fun p hp => .tail _ (.tail _ (.tail _ (.tail _ (.tail _ (.tail _ (.tail _ hp)))))) | exact fun p hp => .tail _ (.tail _ (.tail _ (.tail _ (.tail _ (.tail _ (.tail _ (.tail _ hp))))))) | exact fun p hp => .tail _ (.tail _ (.tail _ (.tail _ (.tail _ (.tail _ (.tail _ (.tail _ (.tail _ hp)))))))) | exact fun p hp => .tail _ (.tail _ (.tail _ (.tail _ (.tail _ (.tail _ (.tail _ (.tail _ (.tail _ (.tail _ hp))))))))) | exact fun p hp => .tail _ (.tail _ (.tail _ (.tail _ (.tail _ (.tail _ (.tail _ (.tail _ (.tail _ (.tail _ (.tail _ hp)))))))))) | exact fun p hp => .tail _ (.tail _ (.tail _ (.tail _ (.tail _ (.tail _ (.tail _ (.tail _ (.tail _ (.tail _ (.tail _ (.tail _ hp))))))))))) | exact fun p hp => .tail _ (.tail _ (.tail _ (.tail _ (.tail _ (.tail _ (.tail _ (.tail _ (.tail _ (.tail _ (.tail _ (.tail _ (.tail _ hp)))))))))))) | exact fun p hp => .tail _ (.tail _ (.tail _ (.tail _ (.tail _ (.tail _ (.tail _ (.tail _ (.tail _ (.tail _ (.tail _ (.tail _ (.tail _ (.tail _ hp))))))))))))) | exact fun p hp => .tail _ (.tail _ (.tail _ (.tail _ (.tail _ (.tail _ (.tail _ (.tail _ (.tail _ (.tail _ (.tail _ (.tail _ (.tail _ (.tail _ (.tail _ hp))))))))))))))) rfl (.tail _ (.tail _ (.tail _ (.tail _ (.head _))))) rfl) k') ?_
  intro v' s' mu' M' F' N' hb' ho' P'
  simp only [List.cons_append, List.nil_append] at N'
  by_cases hw : faultS (decide (N < 0)) false ++ faultS (decide (wn < 1 ∨ 13 < wn)) (decide (wi = 20)) = []
  · have hv : ¬ N < 0 ∧ ¬ (wn < 1 ∨ 13 < wn) ∧ ¬ wi = 20 := by
      obtain ⟨a, b⟩ := List.append_eq_nil_iff.mp hw
      exact ⟨of_decide_eq_false (faultS_nil.mp a).1, of_decide_eq_false (faultS_nil.mp b).1, of_decide_eq_false (faultS_nil.mp b).2⟩
    obtain ⟨hv1, hv2, hv3⟩ := hv
    rcases P' with ⟨⟨g1, g2, g3, g4⟩, y, z', t', rfl, hz', y1, y2, y3, y4⟩ | ⟨_, hm⟩ | ⟨_, hm⟩
    · k_steps
      all_goals first
        | (refine Back.mk ?_; (refine' segZ ⟨x, ?nF, ?nN, ?nM, ?nb, ?nos, ?nr, sE, sW, sV, hz, hN1, hN2, hk0, hk1, hnu, hna, hhd, hmo, hwi, hwm, hfix⟩ ?nho ?nrest hQ; (case nF => assumption); (case nM => assumption); (case nN => exact Mine.News.sub (by assumption) (by first | exact fun p hp => hp | exact fun p hp => .tail _ hp | exact fun p hp => .tail _ (.tail _ hp) | exact fun p hp => .tail _ (.tail _ (.tail _ hp)) | exact fun p hp => .tail _ (.tail _ (.tail _ (.tail _ hp))) | exact fun p hp => .tail _ (.tail _ (.tail _ (.tail _ (.tail _ hp)))) | exact fun p hp => .tail _ (.tail _ (.tail _ (.tail _ (.tail _ (.tail _ hp))))) | exact fun p hp => .tail _ (.tail _ (.tail _ (.tail _ (.tail _ (.tail _ (.tail _ hp)))))) | exact fun p hp => .tail _ (.tail _ (.tail _ (.tail _ (.tail _ (.tail _ (.tail _ (.tail _ hp))))))) | exact fun p hp => .tail _ (.tail _ (.tail _ (.tail _ (.tail _ (.tail _ (.tail _ (.tail _ (.tail _ hp)))))))) | exact fun p hp => .tail _ (.tail _ (.tail _ (.tail _ (.tail _ (.tail _ (.tail _ (.tail _ (.tail _ (.tail _ hp))))))))) | exact fun p hp => .tail _ (.tail _ (.tail _ (.tail _ (.tail _ (.tail _ (.tail _ (.tail _ (.tail _ (.tail _ (.tail _ hp)))))))))) | exact fun p hp => .tail _ (.tail _ (.tail _ (.tail _ (.tail _ (.tail _ (.tail _ (.tail _ (.tail _ (.tail _ (.tail _ (.tail _ hp))))))))))) | exact fun p hp => .tail _ (.tail _ (.tail _ (.tail _ (.tail _ (.tail _ (.tail _ (.tail _ (.tail _ (.tail _ (.tail _ (.tail _ (.tail _ hp)))))))))))) | exact fun p hp => .tail _ (.tail _ (.tail _ (.tail _ (.tail _ (.tail _ (.tail _ (.tail _ (.tail _ (.tail _ (.tail _ (.tail _ (.tail _ (.tail _ hp))))))))))))) | exact fun p hp => .tail _ (.tail _ (.tail _ (.tail _ (.tail _ (.tail _ (.tail _ (.tail _ (.tail _ (.tail _ (.tail _ (.tail _ (.tail _ (.tail _ (.tail _ hp)))))))))))))))); (case nb => assumption); (case nos => first | rfl | assumption); (case nr => exact ⟨rfl, rfl, rfl, rfl, rfl, rfl, rfl, rfl, rfl, rfl, rfl, rfl, rfl, rfl, rfl, rfl⟩); (case nho => k_is); (case nrest => rfl)))
        | (exfalso; omega)
    · omega
    · omega
  · rcases P' with ⟨⟨g1, g2, g3, g4⟩, _⟩ | ⟨⟨t', rfl⟩, hm⟩ | ⟨⟨t', rfl⟩, hm⟩
    · refine absurd ?_ hw
      rw [decide_eq_false (by omega), decide_eq_false (by omega), decide_eq_false (by omega)]
      rfl
    · have hmem : (faultS (decide (N < 0)) false ++ faultS (decide (wn < 1 ∨ 13 < wn)) (decide (wi = 20))).any (· == Str.ofString "index") = true := by
        rcases hm with hm | hm
        · exact any_l (faultS_index (decide_eq_true hm))
        · exact any_r (faultS_index (decide_eq_true hm))
      k_steps
      all_goals first
        | (refine Back.mk ?_; (refine' segZ ⟨x, ?nF, ?nN, ?nM, ?nb, ?nos, ?nr, sE, sW, sV, hz, hN1, hN2, hk0, hk1, hnu, hna, hhd, hmo, hwi, hwm, hfix⟩ ?nho ?nrest hQ; (case nF => assumption); (case nM => assumption); (case nN => exact Mine.News.sub (by assumption) (by first | exact fun p hp => hp | exact fun p hp => .tail _ hp | exact fun p hp => .tail _ (.tail _ hp) | exact fun p hp => .tail _ (.tail _ (.tail _ hp)) | exact fun p hp => .tail _ (.tail _ (.tail _ (.tail _ hp))) | exact fun p hp => .tail _ (.tail _ (.tail _ (.tail _ (.tail _ hp)))) | exact fun p hp => .tail _ (.tail _ (.tail _ (.tail _ (.tail _ (.tail _ hp))))) | exact fun p hp => .tail _ (.tail _ (.tail _ (.tail _ (.tail _ (.tail _ (.tail _ hp)))))) | exact fun p hp => .tail _ (.tail _ (.tail _ (.tail _ (.tail _ (.tail _ (.tail _ (.tail _ hp))))))) | exact fun p hp => .tail _ (.tail _ (.tail _ (.tail _ (.tail _ (.tail _ (.tail _ (.tail _ (.tail _ hp)))))))) | exact fun p hp => .tail _ (.tail _ (.tail _ (.tail _ (.tail _ (.tail _ (.tail _ (.tail _ (.tail _ (.tail _ hp))))))))) | exact fun p hp => .tail _ (.tail _ (.tail _ (.tail _ (.tail _ (.tail _ (.tail _ (.tail _ (.tail _ (.tail _ (.tail _ hp)))))))))) | exact fun p hp => .tail _ (.tail _ (.tail _ (.tail _ (.tail _ (.tail _ (.tail _ (.tail _ (.tail _ (.tail _ (.tail _ (.tail _ hp))))))))))) | exact fun p hp => .tail _ (.tail _ (.tail _ (.tail _ (.tail _ (.tail _ (.tail _ (.tail _ (.tail _ (.tail _ (.tail _ (.tail _ (.tail _ hp)))))))))))) | exact fun p hp => .tail _ (.tail _ (.tail _ (.tail _ (.tail _ (.tail _ (.tail _ (.tail _ (.tail _ (.tail _ (.tail _ (.tail _ (.tail _ (.tail _ hp))))))))))))) | exact fun p hp => .tail _ (.tail _ (.tail _ (.tail _ (.tail _ (.tail _ (.tail _ (.tail _ (.tail _ (.tail _ (.tail _ (.tail _ (.tail _ (.tail _ (.tail _ hp)))))))))))))))); (case nb => assumption); (case nos => first | rfl | assumption); (case nr => exact ⟨rfl, rfl, rfl, rfl, rfl, rfl, rfl, rfl, rfl, rfl, rfl, rfl, rfl, rfl, rfl, rfl⟩); (case nho => k_is); (case nrest => rfl)))
        | (exfalso; omega)
    · have hmem : (faultS (decide (N < 0)) false ++ faultS (decide (wn < 1 ∨ 13 < wn)) (decide (wi = 20))).any (· == Str.ofString "value") = true := any_r (faultS_value (decide_eq_true hm))
      k_steps
      all_goals first
        | (refine Back.mk ?_; (refine' segZ ⟨x, ?nF, ?nN, ?nM, ?nb, ?nos, ?nr, sE, sW, sV, hz, hN1, hN2, hk0, hk1, hnu, hna, hhd, hmo, hwi, hwm, hfix⟩ ?nho ?nrest hQ; (case nF => assumption); (case nM => assumption); (case nN => exact Mine.News.sub (by assumption) (by first | exact fun p hp => hp | exact fun p hp => .tail _ hp | exact fun p hp => .tail _ (.tail _ hp) | exact fun p hp => .tail _ (.tail _ (.tail _ hp)) | exact fun p hp => .tail _ (.tail _ (.tail _ (.tail _ hp))) | exact fun p hp => .tail _ (.tail _ (.tail _ (.tail _ (.tail _ hp)))) | exact fun p hp => .tail _ (.tail _ (.tail _ (.tail _ (.tail _ (.tail _ hp))))) | exact fun p hp => .tail _ (.tail _ (.tail _ (.tail _ (.tail _ (.tail _ (.tail _ hp)))))) | exact fun p hp => .tail _ (.tail _ (.tail _ (.tail _ (.tail _ (.tail _ (.tail _ (.tail _ hp))))))) | exact fun p hp => .tail _ (.tail _ (.tail _ (.tail _ (.tail _ (.tail _ (.tail _ (.tail _ (.tail _ hp)))))))) | exact fun p hp => .tail _ (.tail _ (.tail _ (.tail _ (.tail _ (.tail _ (.tail _ (.tail _ (.tail _ (.tail _ hp))))))))) | exact fun p hp => .tail _ (.tail _ (.tail _ (.tail _ (.tail _ (.tail _ (.tail _ (.tail _ (.tail _ (.tail _ (.tail _ hp)))))))))) | exact fun p hp => .tail _ (.tail _ (.tail _ (.tail _ (.tail _ (.tail _ (.tail _ (.tail _ (.tail _ (.tail _ (.tail _ (.tail _ hp))))))))))) | exact fun p hp => .tail _ (.tail _ (.tail _ (.tail _ (.tail _ (.tail _ (.tail _ (.tail _ (.tail _ (.tail _ (.tail _ (.tail _ (.tail _ hp)))))))))))) | exact fun p hp => .tail _ (.tail _ (.tail _ (.tail _ (.tail _ (.tail _ (.tail _ (.tail _ (.tail _ (.tail _ (.tail _ (.tail _ (.tail _ (.tail _ hp))))))))))))) | exact fun p hp => .tail _ (.tail _ (.tail _ (.tail _ (.tail _ (.tail _ (.tail _ (.tail _ (.tail _ (.tail _ (.tail _ (.tail _ (.tail _ (.tail _ (.tail _ hp)))))))))))))))); (case nb => assumption); (case nos => first | rfl | assumption); (case nr => exact ⟨rfl, rfl, rfl, rfl, rfl, rfl, rfl, rfl, rfl, rfl, rfl, rfl, rfl, rfl, rfl, rfl⟩); (case nho => k_is); (case nrest => rfl)))
        | (exfalso; omega)
end
end Mine
namespace Mine
open PySem PySem.W PySem.Calls PySem.Spec PyProof.Rows
theorem sub_mod {a b c r p q : Int} (h1 : a - c = r * p) (h2 : b - c = r * q) : a - b = r * (p - q) := by rw [Int.mul_sub]; omega
theorem crt3 {d u v x : Int} (h1 : d = 365 * u) (h2 : d = 13 * v) (h3 : d = 20 * x) (lo : -18980 < d) (hi : d < 18980) : d = 0 := by
  have e1 : d = 260 * (2 * v - 3 * x) := by omega
  generalize 2 * v - 3 * x = t at e1
  clear h2 h3
  have e2 : d = 18980 * (5 * t - 7 * u) := by omega
  generalize 5 * t - 7 * u = s at e2
  clear h1 e1
  omega
theorem meets_uni {N wn wi e m y y0 : Int} (g0 : 0 ≤ y) (g1 : y < 18980) (h0 : 0 ≤ y0) (h1 : y0 < 18980) (gm : Meets N wn wi e m y) (hm : Meets N wn wi e m y0) : y = y0 := by
  obtain ⟨a1, a2, a3⟩ := hm
  obtain ⟨b1, b2, b3⟩ := gm
  obtain ⟨p1, e1⟩ := Int.dvd_of_emod_eq_zero a1
  obtain ⟨p2, e2⟩ := Int.dvd_of_emod_eq_zero a2
  obtain ⟨p3, e3⟩ := Int.dvd_of_emod_eq_zero a3
  obtain ⟨p4, e4⟩ := Int.dvd_of_emod_eq_zero b1
  obtain ⟨p5, e5⟩ := Int.dvd_of_emod_eq_zero b2
  obtain ⟨p6, e6⟩ := Int.dvd_of_emod_eq_zero b3
  clear a1 a2 a3 b1 b2 b3
  have q1 := sub_mod (c := -(N + 348 - (20 * m + e))) (show y - -(N + 348 - (20 * m + e)) = 365 * p4 by rw [← e4]; clear e1 e2 e3 e4 e5 e6; omega) (show y0 - -(N + 348 - (20 * m + e)) = 365 * p1 by rw [← e1]; clear e1 e2 e3 e4 e5 e6; omega)
  have q2 := sub_mod (c := -(N + 4 - wn)) (show y - -(N + 4 - wn) = 13 * p5 by rw [← e5]; clear e1 e2 e3 e4 e5 e6; omega) (show y0 - -(N + 4 - wn) = 13 * p2 by rw [← e2]; clear e1 e2 e3 e4 e5 e6; omega)
  have q3 := sub_mod (c := -(N + 19 - wi)) (show y - -(N + 19 - wi) = 20 * p6 by rw [← e6]; clear e1 e2 e3 e4 e5 e6; omega) (show y0 - -(N + 19 - wi) = 20 * p3 by rw [← e3]; clear e1 e2 e3 e4 e5 e6; omega)
  have := crt3 q1 q2 q3 (by clear q1 q2 q3 e1 e2 e3 e4 e5 e6; omega) (by clear q1 q2 q3 e1 e2 e3 e4 e5 e6; omega)
  clear q1 q2 q3 e1 e2 e3 e4 e5 e6
  omega
theorem meets_then {N k : Int} : Meets N ((3 + (N + k - 1872000)) % 13 + 1) ((19 + (N + k - 1872000)) % 20) ((263 + (N + k - 1872000)) % 365 % 20) ((263 + (N + k - 1872000)) % 365 / 20) k := by
  refine ⟨?_, ?_, ?_⟩ <;> omega
theorem meets_again {N k : Int} : Meets (N + k + 1) ((3 + (N + k - 1872000)) % 13 + 1) ((19 + (N + k - 1872000)) % 20) ((263 + (N + k - 1872000)) % 365 % 20) ((263 + (N + k - 1872000)) % 365 / 20) 18979 := by
  refine ⟨?_, ?_, ?_⟩ <;> omega
theorem valid_then {N k : Int} : 0 ≤ (263 + (N + k - 1872000)) % 365 % 20 ∧ (263 + (N + k - 1872000)) % 365 % 20 ≤ 19 ∧ 0 ≤ (263 + (N + k - 1872000)) % 365 / 20 ∧ (263 + (N + k - 1872000)) % 365 / 20 ≤ 18 ∧ 1 ≤ (3 + (N + k - 1872000)) % 13 + 1 ∧ (3 + (N + k - 1872000)) % 13 + 1 ≤ 13 ∧ 0 ≤ (19 + (N + k - 1872000)) % 20 ∧ (19 + (N + k - 1872000)) % 20 ≤ 19 := by
  refine ⟨?_, ?_, ?_, ?_, ?_, ?_, ?_, ?_⟩ <;> omega
/-- the day that the told pair is met on is the only one -/
theorem told_only {N wn wi e m y0 : Int} {v : Value} (h : ToldB N wn wi e m v) (hv : 0 ≤ e ∧ e ≤ 19 ∧ 0 ≤ m ∧ m ≤ 18 ∧ 1 ≤ wn ∧ wn ≤ 13 ∧ 0 ≤ wi ∧ wi ≤ 19) (h0 : 0 ≤ y0) (h1 : y0 < 18980) (hm : Meets N wn wi e m y0) :
    ∃ z' t, v = .float z' t ∧ IsH z' (2 * (N + y0) + 1168565) := by
  rcases h with ⟨_, y, z', t, rfl, hz, g0, g1, gm⟩ | ⟨_, g⟩ | ⟨_, g⟩
  · have : y = y0 := meets_uni g0 g1 h0 h1 gm hm
    subst this
    exact ⟨z', t, rfl, hz⟩
  · exfalso
    rcases g with g | g | g | g | ⟨_, _, g⟩
    · omega
    · omega
    · omega
    · omega
    · exact g y0 h0 h1 hm
  · exfalso; omega
local macro_rules | `(tactic| walk_at "no such key") => `(tactic| skip)
local macro_rules | `(tactic| walk_at "eval Constant float") => `(tactic| (k_dflt (refine' constHI (by first | exact isH_half | assumption) ?_); intro z' hz'))
local macro_rules | `(tactic| walk_at "binaryOp Add float int") => `(tactic| (k_dflt (refine' addHI (by assumption) (by omega) (by omega) ?_); intro z' hz'))
local macro_rules | `(tactic| walk_at "binaryOp Add int float") => `(tactic| (k_dflt (refine' addIH (by assumption) (by omega) (by omega) ?_); intro z' hz'))
local macro_rules | `(tactic| walk_at "binaryOp Sub float float") => `(tactic| (k_dflt (refine' subHH (by assumption) (by assumption) (by omega) ?_); intro z' hz'))
local macro_rules | `(tactic| walk_at "binaryOp Mod float int") => `(tactic| (k_dflt (refine' modHI' (by assumption) (by omega) (by omega) (by omega) (by omega) ?_); intro z' hz'))
local macro_rules | `(tactic| walk_at "binaryOp Div float int") => `(tactic| (k_dflt (refine' divHI20' (by assumption) (by omega) (by omega) (by omega) ?_); intro z' hz'))
local macro_rules | `(tactic| walk_at "call builtin:math.trunc") => `(tactic| (k_dflt first | (refine' truncH (by assumption) (by omega) rfl ?_) | (refine' truncQ (by assumption) rfl ?_)))
local macro_rules | `(tactic| walk_at "call type:int") => `(tactic| ((with_reducible show wpAny _ _ (call _ [Value.float _ _]) _ _ _); k_dflt (refine' intH (by assumption) (by omega) ?_)))
local macro_rules | `(tactic| walk_at "compareOp Eq float float") => `(tactic| (k_dflt (refine' eqHH (by assumption) (by assumption) ?_)))
local macro_rules | `(tactic| walk_at "compareOp NotEq float float") => `(tactic| (k_dflt (refine' neHH (by assumption) (by assumption) ?_)))
local macro_rules | `(tactic| walk_at "compareOp Lt float float") => `(tactic| (k_dflt (refine' ltHH (by assumption) (by assumption) ?_)))
local macro_rules | `(tactic| walk_at "subscriptTail") => `(tactic| ((with_reducible show wpAny _ _ (subscriptTail _ _ (Value.ref _) (Value.int _ _)) _ _ _); k_dflt (first
  | refine' item50 (by assumption) (by assumption) (by omega) (by omega) ?_ (by with_unfolding_all rfl)
  | refine' item51 (by assumption) (by assumption) (by omega) (by omega) ?_ (by with_unfolding_all rfl)
  | refine' item101 (by assumption) (by assumption) (by omega) (by omega) ?_ (by with_unfolding_all rfl)
  | refine' item102 (by assumption) (by assumption) (by omega) (by omega) ?_ (by with_unfolding_all rfl)); intro t'))
local macro_rules | `(tactic| walk_at "getMethod ref") => `(tactic| ((with_reducible show wpAny _ _ (getMethod (Value.ref _) (Str.ofString "index") _) _ _ _); k_dflt (first | refine' getIndex50 (by assumption) (by assumption) ?_ | refine' getIndex51 (by assumption) (by assumption) ?_)))
local macro_rules | `(tactic| walk_at "call builtin:list.index") => `(tactic| (k_dflt (first | refine' idx50 (by assumption) (by assumption) (by omega) (by omega) rfl ?_ ?_ | refine' idx51 (by assumption) (by assumption) (by omega) (by omega) rfl ?_ ?_); (first | (intro hj' h' tk' e' hx') | (intro hj'))))
local macro_rules | `(tactic| walk_at "exec Raise some none") => `(tactic| refine Raise_new rfl ?_)
local macro_rules | `(tactic| walk_at "binaryOp Mod int int") => `(tactic| refine modP (by decide) ?_)
local macro_rules | `(tactic| walk_at "compareOp NotEq ref ref") => `(tactic| (k_dflt first | (refine' ne_nil_t ?N ?ma ?mb ?sa ?hne ?hsh ?hu ?_; (case N => assumption); (case ma => (first | exact .head _ | exact .tail _ (.head _) | exact .tail _ (.tail _ (.head _)) | exact .tail _ (.tail _ (.tail _ (.head _))) | exact .tail _ (.tail _ (.tail _ (.tail _ (.head _)))) | exact .tail _ (.tail _ (.tail _ (.tail _ (.tail _ (.head _))))))); (case mb => (first | exact .head _ | exact .tail _ (.head _) | exact .tail _ (.tail _ (.head _)) | exact .tail _ (.tail _ (.tail _ (.head _))) | exact .tail _ (.tail _ (.tail _ (.tail _ (.head _)))) | exact .tail _ (.tail _ (.tail _ (.tail _ (.tail _ (.head _))))))); (case sa => assumption); (case hne => assumption); (case hsh => first | exact shaped_f _ _ | exact shaped_ff _ _ _ _); (case hu => exact units64 (by assumption))) | (refine' ne_nil_f ?N ?ma ?mb ?sa ?hne ?hsh ?hu ?_; (case N => assumption); (case ma => (first | exact .head _ | exact .tail _ (.head _) | exact .tail _ (.tail _ (.head _)) | exact .tail _ (.tail _ (.tail _ (.head _))) | exact .tail _ (.tail _ (.tail _ (.tail _ (.head _)))) | exact .tail _ (.tail _ (.tail _ (.tail _ (.tail _ (.head _))))))); (case mb => (first | exact .head _ | exact .tail _ (.head _) | exact .tail _ (.tail _ (.head _)) | exact .tail _ (.tail _ (.tail _ (.head _))) | exact .tail _ (.tail _ (.tail _ (.tail _ (.head _)))) | exact .tail _ (.tail _ (.tail _ (.tail _ (.tail _ (.head _))))))); (case sa => assumption); (case hne => assumption); (case hsh => first | exact shaped_f _ _ | exact shaped_ff _ _ _ _); (case hu => exact units64 (by assumption)))))
local macro_rules | `(tactic| walk_at "binaryOp Add ref ref") => `(tactic| (k_dflt first | (refine' add_strs ?F ?N ?ma ?mb ?sa ?sb ?hz ?_; (case F => assumption); (case N => assumption); (case ma => (first | exact .head _ | exact .tail _ (.head _) | exact .tail _ (.tail _ (.head _)) | exact .tail _ (.tail _ (.tail _ (.head _))) | exact .tail _ (.tail _ (.tail _ (.tail _ (.head _)))) | exact .tail _ (.tail _ (.tail _ (.tail _ (.tail _ (.head _))))))); (case mb => (first | exact .head _ | exact .tail _ (.head _) | exact .tail _ (.tail _ (.head _)) | exact .tail _ (.tail _ (.tail _ (.head _))) | exact .tail _ (.tail _ (.tail _ (.tail _ (.head _)))) | exact .tail _ (.tail _ (.tail _ (.tail _ (.tail _ (.head _))))))); (case sa => assumption); (case sb => assumption); (case hz => exact faultS_len2 _ _ _ _); (intro D' vs' h' F' N' ss'))))
local macro_rules | `(tactic| walk_at "compareOp In str ref") => `(tactic| (k_dflt first | (refine' in_t ?N ?ma ?sa ?hm ?_; (case N => assumption); (case ma => (first | exact .head _ | exact .tail _ (.head _) | exact .tail _ (.tail _ (.head _)) | exact .tail _ (.tail _ (.tail _ (.head _))) | exact .tail _ (.tail _ (.tail _ (.tail _ (.head _)))) | exact .tail _ (.tail _ (.tail _ (.tail _ (.tail _ (.head _))))))); (case sa => assumption); (case hm => first | assumption | (rw [List.any_append, faultS_index (decide_eq_true (by assumption))]; rfl) | (rw [List.any_append, faultS_value (a := false) (beq_iff_eq.mpr (by omega)), Bool.or_true])))))
local macro_rules | `(tactic| walk_at "compareOp NotIn str ref") => `(tactic| (k_dflt first | (refine' notin_f ?N ?ma ?sa ?hm ?_; (case N => assumption); (case ma => (first | exact .head _ | exact .tail _ (.head _) | exact .tail _ (.tail _ (.head _)) | exact .tail _ (.tail _ (.tail _ (.head _))) | exact .tail _ (.tail _ (.tail _ (.tail _ (.head _)))) | exact .tail _ (.tail _ (.tail _ (.tail _ (.tail _ (.head _))))))); (case sa => assumption); (case hm => first | assumption))))
local macro_rules | `(tactic| walk_at "call ref") => `(tactic| ((with_reducible show wpAny _ _ (call (Value.ref 130) _) _ _ _); refine Back.out ?_))
local macro_rules | `(tactic| walk_at "execs cons") => `(tactic| ((with_reducible show wpAny _ _ (execs (Stmt.Assign [Expr.Name (Str.ofString "told") _] (Expr.Call (Expr.Name (Str.ofString "_law_told_tzolkin") _) _ _ _) _ :: _) _) _ _ _); refine Back.out ?_))
local macro_rules | `(tactic| walk_at "call ref") => `(tactic| ((with_reducible show wpAny _ _ (call (Value.ref 109) _) _ _ _); k_dflt (first | refine' use (made := []) (by assumption) (by assumption) (by assumption) (by assumption) ?pl rfl (by intro e; cases e) (by assumption) (by first | rfl | assumption) (fun x' k' => wheels_new x' _ _ k') ?_ | refine' use (made := [_]) (by assumption) (by assumption) (by assumption) (by assumption) ?pl rfl (by intro e; cases e) (by assumption) (by first | rfl | assumption) (fun x' k' => wheels_new x' _ _ k') ?_ | refine' use (made := [_, _]) (by assumption) (by assumption) (by assumption) (by assumption) ?pl rfl (by intro e; cases e) (by assumption) (by first | rfl | assumption) (fun x' k' => wheels_new x' _ _ k') ?_ | refine' use (made := [_, _, _]) (by assumption) (by assumption) (by assumption) (by assumption) ?pl rfl (by intro e; cases e) (by assumption) (by first | rfl | assumption) (fun x' k' => wheels_new x' _ _ k') ?_ | refine' use (made := [_, _, _, _]) (by assumption) (by assumption) (by assumption) (by assumption) ?pl rfl (by intro e; cases e) (by assumption) (by first | rfl | assumption) (fun x' k' => wheels_new x' _ _ k') ?_ | refine' use (made := [_, _, _, _, _]) (by assumption) (by assumption) (by assumption) (by assumption) ?pl rfl (by intro e; cases e) (by assumption) (by first | rfl | assumption) (fun x' k' => wheels_new x' _ _ k') ?_ | refine' use (made := [_, _, _, _, _, _]) (by assumption) (by assumption) (by assumption) (by assumption) ?pl rfl (by intro e; cases e) (by assumption) (by first | rfl | assumption) (fun x' k' => wheels_new x' _ _ k') ?_ | refine' use (made := [_, _, _, _, _, _, _]) (by assumption) (by assumption) (by assumption) (by assumption) ?pl rfl (by intro e; cases e) (by assumption) (by first | rfl | assumption) (fun x' k' => wheels_new x' _ _ k') ?_ | refine' use (made := [_, _, _, _, _, _, _, _]) (by assumption) (by assumption) (by assumption) (by assumption) ?pl rfl (by intro e; cases e) (by assumption) (by first | rfl | assumption) (fun x' k' => wheels_new x' _ _ k') ?_ | refine' use (made := [_, _, _, _, _, _, _, _, _]) (by assumption) (by assumption) (by assumption) (by assumption) ?pl rfl (by intro e; cases e) (by assumption) (by first | rfl | assumption) (fun x' k' => wheels_new x' _ _ k') ?_ | refine' use (made := [_, _, _, _, _, _, _, _, _, _]) (by assumption) (by assumption) (by assumption) (by assumption) ?pl rfl (by intro e; cases e) (by assumption) (by first | rfl | assumption) (fun x' k' => wheels_new x' _ _ k') ?_ | refine' use (made := [_, _, _, _, _, _, _, _, _, _, _]) (by assumption) (by assumption) (by assumption) (by assumption) ?pl rfl (by intro e; cases e) (by assumption) (by first | rfl | assumption) (fun x' k' => wheels_new x' _ _ k') ?_); (case pl => (repeat (first | exact Plain.nil | refine Plain.seq rfl ?_ | refine Plain.set (by assumption) ?_ | refine Plain.cell (by assumption) ?_))); (intro v' s' mu' M' F' N' hb' ho' P'); (try simp only [List.nil_append, List.cons_append] at N'); (obtain ⟨D', t1', t2', t3', t4', e', g', fr'⟩ := P'; subst e'; replace N' := put (by assumption) fr' N' g')))
section
variable {w : World} {mg mb : Str → Option Value} {ob : Obj} {dp un n : Nat} {gd : Option (List Code)} {envs : List Env} {Q E : Value → Shared → Prop}
set_option maxHeartbeats 40000000 in
theorem segX {s₀ s : Shared} {L : Addr} {m : Str → Option Value} {mu : List (Addr × Obj)} {N nu na hy mo wn wi e wm k : Int} {z : UInt64} {aT aH aE aW aV : Addr} {t0 t1 t2 t3 t4 t5 t6 t7 t8 t9 t10 u1 u2 u3 u4 : Tok} {vE vW vV : List Value} {n' : Nat}
    (q : LawAt w mg mb ob dp un n' envs s₀ s L m mu N z nu na hy mo wn wi e wm k aT aH aE aW aV t0 t1 t2 t3 t4 t5 t6 t7 t8 t9 t10 u1 u2 u3 u4 vE vW vV)
    {name qual : Str} {params : Arguments} {body rest : List Stmt} {scope : Scope} {dV kV doc pm cdv ct oc : Value} {an od : Option Addr} {osl : Array (Option Value)}
    (ho : (hd.heap_39 w.params).lookup 158 = some ⟨oc, od, .func (fnOf name qual params body scope dV kV doc pm an cdv ct), osl⟩) (hr : rest = body.drop 17)
    (hQ : ∀ s', Aft w mg mb ob envs s₀ s' → Q (.bool true) s') :
    wpAny (model PRG w) ((aro dp un gd envs).deeper (envOf qual scope L 158 cdv)) (execs rest (envOf qual scope L 158 cdv)) (fun fl s' => Back (Q (match fl with | .ret v => v | _ => .none) s')) E s := by
  obtain ⟨x, F0, N0, M, hb0, ho0, hread, sE, sW, sV, hz, hN1, hN2, hk0, hk1, hnu, hna, hhd, hmo, hwi, hwm, hfix⟩ := q
  refine' lawEq ?hk ho ?_
  case hk => k_is
  rintro rfl rfl rfl rfl rfl
  clear ho
  subst hr
  have F' := fr_L hread F0
  clear F0 hread
  have X' := In.keep x.W.X x.hi fun b o e => e
  have T' := TopRead.keep x.W.T x.hi fun b o e => e
  have N' := N0
  clear N0
  simp only [List.cons_append, List.nil_append] at N'
  dsimp only [List.drop]
  try k_fold
  k_steps
  refine Back.mk ?_
  have hv9 := valid_then (N := N) (k := k)
  have hm9 := meets_then (N := N) (k := k)
  refine use (made := [_, _, _, _, _, _, _, _]) x (by assumption) (by assumption) (by assumption) (by (repeat (first | exact Plain.nil | refine Plain.seq rfl ?_ | refine Plain.set (by assumption) ?_ | refine Plain.cell (by assumption) ?_))) rfl (by intro z; cases z) (by assumption) (by first | rfl | assumption) (fun x' k' => tb_spec x' _ _ _ _ _ _ _ ((3 + (N + k - 1872000)) % 13 + 1) ((19 + (N + k - 1872000)) % 20) ((263 + (N + k - 1872000)) % 365 % 20) ((263 + (N + k - 1872000)) % 365 / 20) N z hz hN1 (by omega) (by omega) (by omega) (by omega) (by omega) (solid_news (by assumption) x (by assumption) (by first | exact fun p hp => hp | exact fun p hp => .tail _ hp | exact fun p hp => .tail _ (.tail _ hp) | exact fun p hp => .tail _ (.tail _ (.tail _ hp)) | exact fun p hp => .tail _ (.tail _ (.tail _ (.tail _ hp))) | exact fun p hp => .tail _ (.tail _ (.tail _ (.tail _ (.tail _ hp)))) | exact fun p hp => .tail _ (.tail _ (.tail _ (.tail _ (.tail _ (.tail _ hp))))) | exact fun p hp => .tail _ (.tail _ (.tail _ (.tail _ (.tail _ (.tail _ (.tail _ hp)))))) | exact fun p hp => .tail _ (.tail _ (.tail _ (.tail _ (.tail _ (.tail _ (.tail _ (.tail _ hp))))))) | exact fun p hp => .tail _ (.tail _ (.tail _ (.tail _ (.tail _ (.tail _ (.tail _ (.tail _ (.tail _ hp)))))))) | exact fun p hp => .tail _ (.tail _ (.tail _ (.tail _ (.tail _ (.tail _ (.tail _ (.tail _ (.tail _ (.tail _ hp))))))))) | exact fun p hp => .tail _ (.tail _ (.tail _ (.tail _ (.tail _ (.tail _ (.tail _ (.tail _ (.tail _ (.tail _ (.tail _ hp)))))))))) | exact fun p hp => .tail _ (.tail _ (.tail _ (.tail _ (.tail _ (.tail _ (.tail _ (.tail _ (.tail _ (.tail _ (.tail _ (.tail _ hp))))))))))) | exact fun p hp => .tail _ (.tail _ (.tail _ (.tail _ (.tail _ (.tail _ (.tail _ (.tail _ (.tail _ (.tail _ (.tail _ (.tail _ (.tail _ hp)))))))))))) | exact fun p hp => .tail _ (.tail _ (.tail _ (.tail _ (.tail _ (.tail _ (.tail _ (.tail _ (.tail _ (.tail _ (.tail _ (.tail _ (.tail _ (.tail _ hp))))))))))))) | exact fun p hp => .tail _ (.tail _ (.tail _ (.tail _ (.tail _ (.tail _ (.tail _ (.tail _ (.tail _ (.tail _ (.tail _ (.tail _ (.tail _ (.tail _ (.tail _ hp))))))))))))))) rfl (.tail _ (.head _)) rfl) (solid_news (by assumption) x (by assumption) (by first | exact fun p hp => hp | exact fun p hp => .tail _ hp | exact fun p hp => .tail _ (.tail _ hp) | exact fun p hp => .tail _ (.tail _ (.tail _ hp)) | exact fun p hp => .tail _ (.tail _ (.tail _ (.tail _ hp))) | exact fun p hp => .tail _ (.tail _ (.tail _ (.tail _ (.tail _ hp)))) | exact fun p hp => .tail _ (.tail _ (.tail _ (.tail _ (.tail _ (.tail _ hp))))) | exact fun p hp => .tail _ (.tail _ (.tail _ (.tail _ (.tail _ (.tail _ (.tail _ hp)))))) | exact fun p hp => .tail _ (.tail _ (.tail _ (.tail _ (.tail _ (.tail _ (.tail _ (.tail _ hp))))))) | exact fun p hp => .tail _ (.tail _ (.tail _ (.tail _ (.tail _ (.tail _ (.tail _ (.tail _ (.tail _ hp)))))))) | exact fun p hp => .tail _ (.tail _ (.tail _ (.tail _ (.tail _ (.tail _ (.tail _ (.tail _ (.tail _ (.tail _ hp))))))))) | exact fun p hp => .tail _ (.tail _ (.tail _ (.tail _ (.tail _ (.tail _ (.tail _ (.tail _ (.tail _ (.tail _ (.tail _ hp)))))))))) | exact fun p hp => .tail _ (.tail _ (.tail _ (.tail _ (.tail _ (.tail _ (.tail _ (.tail _ (.tail _ (.tail _ (.tail _ (.tail _ hp))))))))))) | exact fun p hp => .tail _ (.tail _ (.tail _ (.tail _ (.tail _ (.tail _ (.tail _ (.tail _ (.tail _ (.tail _ (.tail _ (.tail _ (.tail _ hp)))))))))))) | exact fun p hp => .tail _ (.tail _ (.tail _ (.tail _ (.tail _ (.tail _ (.tail _ (.tail _ (.tail _ (.tail _ (.tail _ (.tail _ (.tail _ (.tail _ hp))))))))))))) | exact fun p hp => .tail _ (.tail _ (.tail _ (.tail _ (.tail _ (.tail _ (.tail _ (.tail _ (.tail _ (.tail _ (.tail _ (.tail _ (.tail _ (.tail _ (.tail _ hp))))))))))))))) rfl (.head _) rfl) k') ?_
  intro v' s' mu' M' F' N' hb' ho' P'
  simp only [List.cons_append, List.nil_append] at N'
  obtain ⟨z', t', rfl, hz'⟩ := told_only P' hv9 hk0 hk1 hm9
  k_steps
  refine Back.mk ?_
  have hm8 := meets_again (N := N) (k := k)
  refine use (made := [_, _, _, _, _, _, _, _]) x (by assumption) (by assumption) (by assumption) (by (repeat (first | exact Plain.nil | refine Plain.seq rfl ?_ | refine Plain.set (by assumption) ?_ | refine Plain.cell (by assumption) ?_))) rfl (by intro z; cases z) (by assumption) (by first | rfl | assumption) (fun x' k' => tb_spec x' _ _ _ _ _ _ _ ((3 + (N + k - 1872000)) % 13 + 1) ((19 + (N + k - 1872000)) % 20) ((263 + (N + k - 1872000)) % 365 % 20) ((263 + (N + k - 1872000)) % 365 / 20) (N + k + 1) _ (isH_as (by assumption) (by omega)) (by omega) (by omega) (by omega) (by omega) (by omega) (by omega) (solid_news (by assumption) x (by assumption) (by first | exact fun p hp => hp | exact fun p hp => .tail _ hp | exact fun p hp => .tail _ (.tail _ hp) | exact fun p hp => .tail _ (.tail _ (.tail _ hp)) | exact fun p hp => .tail _ (.tail _ (.tail _ (.tail _ hp))) | exact fun p hp => .tail _ (.tail _ (.tail _ (.tail _ (.tail _ hp)))) | exact fun p hp => .tail _ (.tail _ (.tail _ (.tail _ (.tail _ (.tail _ hp))))) | exact fun p hp => .tail _ (.tail _ (.tail _ (.tail _ (.tail _ (.tail _ (.tail _ hp)))))) | exact fun p hp => .tail _ (.tail _ (.tail _ (.tail _ (.tail _ (.tail _ (.tail _ (.tail _ hp))))))) | exact fun p hp => .tail _ (.tail _ (.tail _ (.tail _ (.tail _ (.tail _ (.tail _ (.tail _ (.tail _ hp)))))))) | exact fun p hp => .tail _ (.tail _ (.tail _ (.tail _ (.tail _ (.tail _ (.tail _ (.tail _ (.tail _ (.tail _ hp))))))))) | exact fun p hp => .tail _ (.tail _ (.tail _ (.tail _ (.tail _ (.tail _ (.tail _ (.tail _ (.tail _ (.tail _ (.tail _ hp)))))))))) | exact fun p hp => .tail _ (.tail _ (.tail _ (.tail _ (.tail _ (.tail _ (.tail _ (.tail _ (.tail _ (.tail _ (.tail _ (.tail _ hp))))))))))) | exact fun p hp => .tail _ (.tail _ (.tail _ (.tail _ (.tail _ (.tail _ (.tail _ (.tail _ (.tail _ (.tail _ (.tail _ (.tail _ (.tail _ hp)))))))))))) | exact fun p hp => .tail _ (.tail _ (.tail _ (.tail _ (.tail _ (.tail _ (.tail _ (.tail _ (.tail _ (.tail _ (.tail _ (.tail _ (.tail _ (.tail _ hp))))))))))))) | exact fun p hp => .tail _ (.tail _ (.tail _ (.tail _ (.tail _ (.tail _ (.tail _ (.tail _ (.tail _ (.tail _ (.tail _ (.tail _ (.tail _ (.tail _ (.tail _ hp))))))))))))))) rfl (.tail _ (.head _)) rfl) (solid_news (by assumption) x (by assumption) (by first | exact fun p hp => hp | exact fun p hp => .tail _ hp | exact fun p hp => .tail _ (.tail _ hp) | exact fun p hp => .tail _ (.tail _ (.tail _ hp)) | exact fun p hp => .tail _ (.tail _ (.tail _ (.tail _ hp))) | exact fun p hp => .tail _ (.tail _ (.tail _ (.tail _ (.tail _ hp)))) | exact fun p hp => .tail _ (.tail _ (.tail _ (.tail _ (.tail _ (.tail _ hp))))) | exact fun p hp => .tail _ (.tail _ (.tail _ (.tail _ (.tail _ (.tail _ (.tail _ hp)))))) | exact fun p hp => .tail _ (.tail _ (.tail _ (.tail _ (.tail _ (.tail _ (.tail _ (.tail _ hp))))))) | exact fun p hp => .tail _ (.tail _ (.tail _ (.tail _ (.tail _ (.tail _ (.tail _ (.tail _ (.tail _ hp)))))))) | exact fun p hp => .tail _ (.tail _ (.tail _ (.tail _ (.tail _ (.tail _ (.tail _ (.tail _ (.tail _ (.tail _ hp))))))))) | exact fun p hp => .tail _ (.tail _ (.tail _ (.tail _ (.tail _ (.tail _ (.tail _ (.tail _ (.tail _ (.tail _ (.tail _ hp)))))))))) | exact fun p hp => .tail _ (.tail _ (.tail _ (.tail _ (.tail _ (.tail _ (.tail _ (.tail _ (.tail _ (.tail _ (.tail _ (.tail _ hp))))))))))) | exact fun p hp => .tail _ (.tail _ (.tail _ (.tail _ (.tail _ (.tail _ (.tail _ (.tail _ (.tail _ (.tail _ (.tail _ (.tail _ (.tail _ hp)))))))))))) | exact fun p hp => .tail _ (.tail _ (.tail _ (.tail _ (.tail _ (.tail _ (.tail _ (.tail _ (.tail _ (.tail _ (.tail _ (.tail _ (.tail _ (.tail _ hp))))))))))))) | exact fun p hp => .tail _ (.tail _ (.tail _ (.tail _ (.tail _ (.tail _ (.tail _ (.tail _ (.tail _ (.tail _ (.tail _ (.tail _ (.tail _ (.tail _ (.tail _ hp))))))))))))))) rfl (.head _) rfl) k') ?_
  intro v' s' mu' M' F' N' hb' ho' P'
  simp only [List.cons_append, List.nil_append] at N'
  obtain ⟨z', t', rfl, hz'⟩ := told_only P' hv9 (by decide) (by decide) hm8
  k_steps
  (refine Back.mk ?_; (refine' segY ⟨x, ?nF, ?nN, ?nM, ?nb, ?nos, ?nr, sE, sW, sV, hz, hN1, hN2, hk0, hk1, hnu, hna, hhd, hmo, hwi, hwm, hfix⟩ ?nho ?nrest hQ; (case nF => assumption); (case nM => assumption); (case nN => exact Mine.News.sub (by assumption) (by first | exact fun p hp => hp | exact fun p hp => .tail _ hp | exact fun p hp => .tail _ (.tail _ hp) | exact fun p hp => .tail _ (.tail _ (.tail _ hp)) | exact fun p hp => .tail _ (.tail _ (.tail _ (.tail _ hp))) | exact fun p hp => .tail _ (.tail _ (.tail _ (.tail _ (.tail _ hp)))) | exact fun p hp => .tail _ (.tail _ (.tail _ (.tail _ (.tail _ (.tail _ hp))))) | exact fun p hp => .tail _ (.tail _ (.tail _ (.tail _ (.tail _ (.tail _ (.tail _ hp)))))) | exact fun p hp => .tail _ (.tail _ (.tail _ (.tail _ (.tail _ (.tail _ (.tail _ (.tail _ hp))))))) | exact fun p hp => .tail _ (.tail _ (.tail _ (.tail _ (.tail _ (.tail _ (.tail _ (.tail _ (.tail _ hp)))))))) | exact fun p hp => .tail _ (.tail _ (.tail _ (.tail _ (.tail _ (.tail _ (.tail _ (.tail _ (.tail _ (.tail _ hp))))))))) | exact fun p hp => .tail _ (.tail _ (.tail _ (.tail _ (.tail _ (.tail _ (.tail _ (.tail _ (.tail _ (.tail _ (.tail _ hp)))))))))) | exact fun p hp => .tail _ (.tail _ (.tail _ (.tail _ (.tail _ (.tail _ (.tail _ (.tail _ (.tail _ (.tail _ (.tail _ (.tail _ hp))))))))))) | exact fun p hp => .tail _ (.tail _ (.tail _ (.tail _ (.tail _ (.tail _ (.tail _ (.tail _ (.tail _ (.tail _ (.tail _ (.tail _ (.tail _ hp)))))))))))) | exact fun p hp => .tail _ (.tail _ (.tail _ (.tail _ (.tail _ (.tail _ (.tail _ (.tail _ (.tail _ (.tail _ (.tail _ (.tail _ (.tail _ (.tail _ hp))))))))))))) | exact fun p hp => .tail _ (.tail _ (.tail _ (.tail _ (.tail _ (.tail _ (.tail _ (.tail _ (.tail _ (.tail _ (.tail _ (.tail _ (.tail _ (.tail _ (.tail _ hp)))))))))))))))); (case nb => assumption); (case nos => first | rfl | assumption); (case nr => exact ⟨rfl, rfl, rfl, rfl, rfl, rfl, rfl, rfl, rfl, rfl, rfl, rfl, rfl, rfl, rfl, rfl⟩); (case nho => k_is); (case nrest => rfl)))
end
end Mine
namespace Mine
open PySem PySem.W PySem.Calls PySem.Spec PyProof.Rows
def Hit (nu na wn wi D : Int) (j : Nat) : Prop := (nu - 1 + D + j) % 13 + 1 = wn ∧ (na + D + 5 * j) % 20 = wi
theorem hit_meets {N nu na hy mo wn wi e wm D : Int} {j : Nat} (hnu : nu = (N + 3) % 13 + 1) (hna : na = (N + 19) % 20) (hhd : hy = (N + 348) % 365 % 20) (hmo : mo = (N + 348) % 365 / 20) (hD : D = (20 * wm + e - (20 * mo + hy)) % 365)
    (h : Hit nu na wn wi D j) : Meets N wn wi e wm (D + 365 * j) := by
  obtain ⟨h1, h2⟩ := h
  have hs : 20 * mo + hy = (N + 348) % 365 := by omega
  rw [hs] at hD
  clear hhd hmo hs
  refine ⟨?_, ?_, ?_⟩
  · clear h1 h2 hnu hna; omega
  · clear hD h2 hna; omega
  · clear hD h1 hnu; omega
theorem meets_hit {N nu na hy mo wn wi e wm D y : Int} (hnu : nu = (N + 3) % 13 + 1) (hna : na = (N + 19) % 20) (hhd : hy = (N + 348) % 365 % 20) (hmo : mo = (N + 348) % 365 / 20) (hD : D = (20 * wm + e - (20 * mo + hy)) % 365)
    (g1 : 1 ≤ wn) (g2 : wn ≤ 13) (g3 : 0 ≤ wi) (g4 : wi ≤ 19) (h0 : 0 ≤ y) (h1 : y < 18980) (h : Meets N wn wi e wm y) : ∃ j : Nat, j < 52 ∧ y = D + 365 * j ∧ Hit nu na wn wi D j := by
  obtain ⟨m1, m2, m3⟩ := h
  have hs : 20 * mo + hy = (N + 348) % 365 := by omega
  rw [hs] at hD
  clear hhd hmo hs
  have e1 : (y - D) % 365 = 0 := by clear m2 m3 hnu hna; omega
  have hD0 : 0 ≤ D ∧ D < 365 := by clear m1 m2 m3 hnu hna e1; omega
  clear hD m1
  obtain ⟨p, hp⟩ := Int.dvd_of_emod_eq_zero e1
  clear e1
  have hp0 : 0 ≤ p ∧ p < 52 := by clear m2 m3 hnu hna; omega
  have hy' : y = D + 365 * p := by omega
  subst hy'
  refine ⟨p.toNat, by omega, by omega, ?_, ?_⟩
  · have : (p.toNat : Int) = p := by omega
    rw [this]; clear m3 hna hp this; omega
  · have : (p.toNat : Int) = p := by omega
    rw [this]; clear m2 hnu hp this; omega
def DueIs (N nu na wn wi D : Int) (i : Nat) (vd : Value) : Prop :=
  ((∃ t, vd = .str (Str.ofString "index") t) ∧ ∀ j : Nat, j < i → ¬ Hit nu na wn wi D j) ∨ (∃ j : Nat, j < i ∧ Hit nu na wn wi D j ∧ ∃ z t, vd = .float z t ∧ IsH z (2 * (N + (D + 365 * j)) + 1168565))
theorem due_start {N nu na wn wi D : Int} {t : Tok} : DueIs N nu na wn wi D 0 (.str (Str.ofString "index") t) := .inl ⟨⟨t, rfl⟩, fun j hj => absurd hj (Nat.not_lt_zero _)⟩
theorem due_keep {N nu na wn wi D : Int} {i : Nat} {vd : Value} (h : DueIs N nu na wn wi D i vd) (hn : (∃ t, vd = .str (Str.ofString "index") t) → ¬ Hit nu na wn wi D i) : DueIs N nu na wn wi D (i + 1) vd := by
  rcases h with ⟨h1, h2⟩ | ⟨j, hj, hh, hz⟩
  · refine .inl ⟨h1, fun j hj => ?_⟩
    by_cases q : j = i
    · exact q ▸ hn h1
    · exact h2 j (by omega)
  · exact .inr ⟨j, by omega, hh, hz⟩
section
variable {prog : Program} {w : World} {A : Around} {E : Value → Shared → Prop} {s : Shared} {env : Env} {h₀ : Heap} {x : Str} {body : List Stmt} {Q : Flow → Shared → Prop}
theorem iter_rangeI {r : Addr} {a₀ b₀ : Int} {t₀ u₀ v₀ : Tok} {n : Nat} {m₀ : Str → Option Value} {news : List (Addr × Obj)}
    (J : Nat → (Str → Option Value) → Prop)
    (hh : A.handled = none) (hr : IsRange s.heap r a₀ b₀ 1 t₀ u₀ v₀) (hsmall : Builtin.Range.small a₀ b₀ 1 = true) (hn : Builtin.Range.rangeSize a₀ b₀ 1 = (n : Int)) (F : Fr h₀ env.locals s.heap m₀) (N : News h₀ env.locals s.heap news) (hJ : J 0 m₀)
    (turn : ∀ (i : Nat) t m₁ h tk own, i < n → J i m₁ → Fr h₀ env.locals h (fun y => if y = x then some (.int (a₀ + (i : Int)) t) else m₁ y) → News h₀ env.locals h (news ++ own) →
      wpAny (model prog w) A (execs body env) (InvPostN h₀ env.locals (fun m nx => nx = news ∧ J (i + 1) m) own (news.map (·.1)) { s with heap := h, toks := tk } Q) E { s with heap := h, toks := tk })
    (done : ∀ m₁ h tk, J n m₁ → Fr h₀ env.locals h m₁ → News h₀ env.locals h news → Q .next { s with heap := h, toks := tk }) :
    wpAny (model prog w) A (pyIter (.ref r)) (fun it s₂ => LoopAtV prog w A h₀ env x body Q E it s₂) E s := by
  refine wpAny_pyIter_range hr hsmall ?_
  have W : Walks prog w A s.heap.objs.size [s.heap.objs.size] [s.heap.objs.size] n (fun i v => i < n ∧ ∃ t, v = .int (a₀ + i * 1) t)
      (fun i h => IsRangeIter h s.heap.objs.size (a₀ + (i : Nat) * 1) ((n : Int) - (i : Nat)) 1) := (Walks.range hh _ a₀ 1 n).bound
  refine loop_invN (news := news) (fun i m nx => nx = news ∧ J i m) W ?_ ?_ ?_ ?_ (by show IsRangeIter _ _ _ _ _; rw [hn]; simpa using Heap.get?_push_size _ rfl) (F.push _) (fun p hp => ⟨Heap.get?_push_of_some _ (N p hp).1, (N p hp).2⟩) ⟨rfl, hJ⟩ ?_ ?_
  · intro hm
    exact absurd F.ns.lt ((List.mem_singleton.mp hm) ▸ Nat.lt_irrefl _)
  · intro b hb
    rw [List.mem_singleton.mp hb]
    exact next_is_new F
  · intro p hp hI
    exact absurd (Heap.lt_size (N p hp).1) ((List.mem_singleton.mp hI) ▸ Nat.lt_irrefl _)
  · intro p hp hI
    exact absurd (Heap.lt_size (N p hp).1) ((List.mem_singleton.mp hI) ▸ Nat.lt_irrefl _)
  · rintro i v m₁ nx h tk own hi ⟨_, t, rfl⟩ _ _ ⟨rfl, hJ⟩ F₁ N₁
    rw [Int.mul_one] at F₁
    exact turn i t m₁ h tk own hi hJ F₁ N₁
  · rintro m₁ nx h tk ⟨rfl, hJ⟩ F₁ N₁
    exact done m₁ h tk hJ F₁ N₁
theorem inv_end {m' : Str → Option Value} {J : (Str → Option Value) → Prop} {news own news' : List (Addr × Obj)} {h' : Heap} {tk : Nat} {L : Addr} (F : Fr h₀ L h' m') (N : News h₀ L h' news') (h1 : ∀ p ∈ news, p ∈ news') (h2 : ∀ p ∈ own, p ∈ news') (hJ : J m') :
    InvEndN h₀ L (fun m nx => nx = news ∧ J m) own (news.map (·.1)) s { s with heap := h', toks := tk } :=
  ⟨h', tk, m', news', news, rfl, F, N, h1, h2, rfl, rfl, hJ⟩
theorem for_false {st : Stmt} {M : Model} (h : wpAny M A (exec st env) Q (fun _ _ => False) s) : wpAny M A (exec st env) Q E s := wpAny_mono h (fun _ _ q => q) fun _ _ f => f.elim
theorem fr_upd {g h : Heap} {L : Addr} {m : Str → Option Value} {x : Str} {v : Value} (hm : m x = some v) (F : Fr g L h m) : Fr g L h (fun y => if y = x then some v else m y) := by rw [ite_map hm rfl]; exact F
end
end Mine
namespace Mine
open PySem PySem.W PySem.Calls PySem.Spec PyProof.Rows
open Sem (wp)
theorem str_eq_float (a : Str) (t : Tok) (b : UInt64) (u : Tok) :
    Gives (Builtin.«str.__eq__» ⟨[.str a t, .float b u], []⟩) (.val (Value.notImplemented)) :=
  .of_wp fun M A E s Q h => by obtain ⟨hp, g, d, tk, os⟩ := s; wp_walk; exact ⟨_, rfl, h⟩
section
variable {prog : Program} {w : World} {A : Around} {E : Value → Shared → Prop} {s : Shared} {Q : Value → Shared → Prop}
theorem eq_float_str {a : UInt64} {t : Tok} {b : Str} {u : Tok} (h : Q (.bool false) s) : wpAny (model prog w) A (compareOp .Eq (.float a t) (.str b u)) Q E s := by
  show wpAny _ A (richCompare .Eq _ _) Q E s
  exact EqNone.wpAny_richCompare_eq_decline (k := false) (fun s' => typeIs_float s' a t) (fun s' => typeIs_str s' b u) (by decide) F.sub_str_float F.slot_float_eq F.slot_str_eq_refl rfl
    (call_gives F.slot_float_eq (typeIs_float s a t) F.entry_float_eq (F.args_float_eq_2 _ _) (AutoFloatG3.float___eq___float_str_0 a t b u)
      ⟨rfl, call_gives F.slot_str_eq_refl (typeIs_str s b u) F.entry_str_eq (F.args_str_eq_2 _ _) (str_eq_float b u a t) ⟨rfl, h⟩⟩)
end
end Mine
namespace Mine
open PySem PySem.W PySem.Calls PySem.Spec PyProof.Rows
theorem days_is {v : Value} {X D : Int} {t : Tok} (h : v = .int X t) (hD : D = X) : v = .int D t := hD ▸ h
theorem int_read {m : Str → Option Value} {x : Str} {X Y : Int} {t : Tok} (h : m x = some (.int X t)) (e : X = Y) : ∃ t', m x = some (.int Y t') := ⟨t, e ▸ h⟩
local macro_rules | `(tactic| walk_at "eval Constant float") => `(tactic| (k_dflt (refine' constHI (by first | exact isH_half | assumption) ?_); intro z' hz'))
local macro_rules | `(tactic| walk_at "binaryOp Add float int") => `(tactic| (k_dflt (refine' addHI (by assumption) (by omega) (by omega) ?_); intro z' hz'))
local macro_rules | `(tactic| walk_at "binaryOp Add int float") => `(tactic| (k_dflt (refine' addIH (by assumption) (by omega) (by omega) ?_); intro z' hz'))
local macro_rules | `(tactic| walk_at "binaryOp Sub float float") => `(tactic| (k_dflt (refine' subHH (by assumption) (by assumption) (by omega) ?_); intro z' hz'))
local macro_rules | `(tactic| walk_at "binaryOp Mod float int") => `(tactic| (k_dflt (refine' modHI' (by assumption) (by omega) (by omega) (by omega) (by omega) ?_); intro z' hz'))
local macro_rules | `(tactic| walk_at "binaryOp Div float int") => `(tactic| (k_dflt (refine' divHI20' (by assumption) (by omega) (by omega) (by omega) ?_); intro z' hz'))
local macro_rules | `(tactic| walk_at "call builtin:math.trunc") => `(tactic| (k_dflt first | (refine' truncH (by assumption) (by omega) rfl ?_) | (refine' truncQ (by assumption) rfl ?_)))
local macro_rules | `(tactic| walk_at "call type:int") => `(tactic| ((with_reducible show wpAny _ _ (call _ [Value.float _ _]) _ _ _); k_dflt (refine' intH (by assumption) (by omega) ?_)))
local macro_rules | `(tactic| walk_at "compareOp Eq float float") => `(tactic| (k_dflt (refine' eqHH (by assumption) (by assumption) ?_)))
local macro_rules | `(tactic| walk_at "compareOp NotEq float float") => `(tactic| (k_dflt (refine' neHH (by assumption) (by assumption) ?_)))
local macro_rules | `(tactic| walk_at "compareOp Lt float float") => `(tactic| (k_dflt (refine' ltHH (by assumption) (by assumption) ?_)))
local macro_rules | `(tactic| walk_at "subscriptTail") => `(tactic| ((with_reducible show wpAny _ _ (subscriptTail _ _ (Value.ref _) (Value.int _ _)) _ _ _); k_dflt (first
  | refine' item50 (by assumption) (by assumption) (by omega) (by omega) ?_ (by with_unfolding_all rfl)
  | refine' item51 (by assumption) (by assumption) (by omega) (by omega) ?_ (by with_unfolding_all rfl)
  | refine' item101 (by assumption) (by assumption) (by omega) (by omega) ?_ (by with_unfolding_all rfl)
  | refine' item102 (by assumption) (by assumption) (by omega) (by omega) ?_ (by with_unfolding_all rfl)); intro t'))
local macro_rules | `(tactic| walk_at "getMethod ref") => `(tactic| ((with_reducible show wpAny _ _ (getMethod (Value.ref _) (Str.ofString "index") _) _ _ _); k_dflt (first | refine' getIndex50 (by assumption) (by assumption) ?_ | refine' getIndex51 (by assumption) (by assumption) ?_)))
local macro_rules | `(tactic| walk_at "call builtin:list.index") => `(tactic| (k_dflt (first | refine' idx50 (by assumption) (by assumption) (by omega) (by omega) rfl ?_ ?_ | refine' idx51 (by assumption) (by assumption) (by omega) (by omega) rfl ?_ ?_); (first | (intro hj' h' tk' e' hx') | (intro hj'))))
local macro_rules | `(tactic| walk_at "exec Raise some none") => `(tactic| refine Raise_new rfl ?_)
local macro_rules | `(tactic| walk_at "binaryOp Mod int int") => `(tactic| refine modP (by decide) ?_)
local macro_rules | `(tactic| walk_at "compareOp NotEq ref ref") => `(tactic| (k_dflt first | (refine' ne_nil_t ?N ?ma ?mb ?sa ?hne ?hsh ?hu ?_; (case N => assumption); (case ma => (first | exact .head _ | exact .tail _ (.head _) | exact .tail _ (.tail _ (.head _)) | exact .tail _ (.tail _ (.tail _ (.head _))) | exact .tail _ (.tail _ (.tail _ (.tail _ (.head _)))) | exact .tail _ (.tail _ (.tail _ (.tail _ (.tail _ (.head _))))))); (case mb => (first | exact .head _ | exact .tail _ (.head _) | exact .tail _ (.tail _ (.head _)) | exact .tail _ (.tail _ (.tail _ (.head _))) | exact .tail _ (.tail _ (.tail _ (.tail _ (.head _)))) | exact .tail _ (.tail _ (.tail _ (.tail _ (.tail _ (.head _))))))); (case sa => assumption); (case hne => assumption); (case hsh => first | exact shaped_f _ _ | exact shaped_ff _ _ _ _); (case hu => exact units64 (by assumption))) | (refine' ne_nil_f ?N ?ma ?mb ?sa ?hne ?hsh ?hu ?_; (case N => assumption); (case ma => (first | exact .head _ | exact .tail _ (.head _) | exact .tail _ (.tail _ (.head _)) | exact .tail _ (.tail _ (.tail _ (.head _))) | exact .tail _ (.tail _ (.tail _ (.tail _ (.head _)))) | exact .tail _ (.tail _ (.tail _ (.tail _ (.tail _ (.head _))))))); (case mb => (first | exact .head _ | exact .tail _ (.head _) | exact .tail _ (.tail _ (.head _)) | exact .tail _ (.tail _ (.tail _ (.head _))) | exact .tail _ (.tail _ (.tail _ (.tail _ (.head _)))) | exact .tail _ (.tail _ (.tail _ (.tail _ (.tail _ (.head _))))))); (case sa => assumption); (case hne => assumption); (case hsh => first | exact shaped_f _ _ | exact shaped_ff _ _ _ _); (case hu => exact units64 (by assumption)))))
local macro_rules | `(tactic| walk_at "binaryOp Add ref ref") => `(tactic| (k_dflt first | (refine' add_strs ?F ?N ?ma ?mb ?sa ?sb ?hz ?_; (case F => assumption); (case N => assumption); (case ma => (first | exact .head _ | exact .tail _ (.head _) | exact .tail _ (.tail _ (.head _)) | exact .tail _ (.tail _ (.tail _ (.head _))) | exact .tail _ (.tail _ (.tail _ (.tail _ (.head _)))) | exact .tail _ (.tail _ (.tail _ (.tail _ (.tail _ (.head _))))))); (case mb => (first | exact .head _ | exact .tail _ (.head _) | exact .tail _ (.tail _ (.head _)) | exact .tail _ (.tail _ (.tail _ (.head _))) | exact .tail _ (.tail _ (.tail _ (.tail _ (.head _)))) | exact .tail _ (.tail _ (.tail _ (.tail _ (.tail _ (.head _))))))); (case sa => assumption); (case sb => assumption); (case hz => exact faultS_len2 _ _ _ _); (intro D' vs' h' F' N' ss'))))
local macro_rules | `(tactic| walk_at "compareOp In str ref") => `(tactic| (k_dflt first | (refine' in_t ?N ?ma ?sa ?hm ?_; (case N => assumption); (case ma => (first | exact .head _ | exact .tail _ (.head _) | exact .tail _ (.tail _ (.head _)) | exact .tail _ (.tail _ (.tail _ (.head _))) | exact .tail _ (.tail _ (.tail _ (.tail _ (.head _)))) | exact .tail _ (.tail _ (.tail _ (.tail _ (.tail _ (.head _))))))); (case sa => assumption); (case hm => first | assumption | (rw [List.any_append, faultS_index (decide_eq_true (by assumption))]; rfl) | (rw [List.any_append, faultS_value (a := false) (beq_iff_eq.mpr (by omega)), Bool.or_true])))))
local macro_rules | `(tactic| walk_at "compareOp NotIn str ref") => `(tactic| (k_dflt first | (refine' notin_f ?N ?ma ?sa ?hm ?_; (case N => assumption); (case ma => (first | exact .head _ | exact .tail _ (.head _) | exact .tail _ (.tail _ (.head _)) | exact .tail _ (.tail _ (.tail _ (.head _))) | exact .tail _ (.tail _ (.tail _ (.tail _ (.head _)))) | exact .tail _ (.tail _ (.tail _ (.tail _ (.tail _ (.head _))))))); (case sa => assumption); (case hm => first | assumption))))
local macro_rules | `(tactic| walk_at "call ref") => `(tactic| ((with_reducible show wpAny _ _ (call (Value.ref 130) _) _ _ _); refine Back.out ?_))
local macro_rules | `(tactic| walk_at "execs cons") => `(tactic| ((with_reducible show wpAny _ _ (execs (Stmt.Assign [Expr.Name (Str.ofString "later") _] _ _ :: _) _) _ _ _); refine Back.out ?_))
local macro_rules | `(tactic| walk_at "exec For Name Call cons nil") => `(tactic| refine Back.out ?_)
local macro_rules | `(tactic| walk_at "compareOp Eq float str") => `(tactic| refine eq_float_str ?_)
local macro_rules | `(tactic| walk_at "InvPostN") => `(tactic| refine Back.out ?_)
local macro_rules | `(tactic| walk_at "pyIter ref") => `(tactic| refine Back.out ?_)
def JW (N nu na wn wi D : Int) (P : (Str → Option Value) → Prop) (v : Value) (i : Nat) (m : Str → Option Value) : Prop :=
  P m ∧ m "told" = some v ∧ (∃ td, m "days" = some (.int D td)) ∧ (∃ tn, m "number_then" = some (.int ((nu - 1 + D + i) % 13 + 1) tn)) ∧ (∃ tm, m "name_then" = some (.int ((na + D + 5 * i) % 20) tm)) ∧ ∃ vd, m "due" = some vd ∧ DueIs N nu na wn wi D i vd
local macro_rules | `(tactic| walk_at "call ref") => `(tactic| ((with_reducible show wpAny _ _ (call (Value.ref 123) _) _ _ _); k_dflt (first | refine' use (made := []) (by assumption) (by assumption) (by assumption) (by assumption) ?pl rfl (by intro e; cases e) (by assumption) (by first | rfl | assumption) (fun x' k' => law_haab_spec x' _ _ _ _ _ _ _ _ (by unfold OkDay; omega) (by unfold OkDay; omega) k') ?_ | refine' use (made := [_]) (by assumption) (by assumption) (by assumption) (by assumption) ?pl rfl (by intro e; cases e) (by assumption) (by first | rfl | assumption) (fun x' k' => law_haab_spec x' _ _ _ _ _ _ _ _ (by unfold OkDay; omega) (by unfold OkDay; omega) k') ?_ | refine' use (made := [_, _]) (by assumption) (by assumption) (by assumption) (by assumption) ?pl rfl (by intro e; cases e) (by assumption) (by first | rfl | assumption) (fun x' k' => law_haab_spec x' _ _ _ _ _ _ _ _ (by unfold OkDay; omega) (by unfold OkDay; omega) k') ?_ | refine' use (made := [_, _, _]) (by assumption) (by assumption) (by assumption) (by assumption) ?pl rfl (by intro e; cases e) (by assumption) (by first | rfl | assumption) (fun x' k' => law_haab_spec x' _ _ _ _ _ _ _ _ (by unfold OkDay; omega) (by unfold OkDay; omega) k') ?_ | refine' use (made := [_, _, _, _]) (by assumption) (by assumption) (by assumption) (by assumption) ?pl rfl (by intro e; cases e) (by assumption) (by first | rfl | assumption) (fun x' k' => law_haab_spec x' _ _ _ _ _ _ _ _ (by unfold OkDay; omega) (by unfold OkDay; omega) k') ?_ | refine' use (made := [_, _, _, _, _]) (by assumption) (by assumption) (by assumption) (by assumption) ?pl rfl (by intro e; cases e) (by assumption) (by first | rfl | assumption) (fun x' k' => law_haab_spec x' _ _ _ _ _ _ _ _ (by unfold OkDay; omega) (by unfold OkDay; omega) k') ?_ | refine' use (made := [_, _, _, _, _, _]) (by assumption) (by assumption) (by assumption) (by assumption) ?pl rfl (by intro e; cases e) (by assumption) (by first | rfl | assumption) (fun x' k' => law_haab_spec x' _ _ _ _ _ _ _ _ (by unfold OkDay; omega) (by unfold OkDay; omega) k') ?_ | refine' use (made := [_, _, _, _, _, _, _]) (by assumption) (by assumption) (by assumption) (by assumption) ?pl rfl (by intro e; cases e) (by assumption) (by first | rfl | assumption) (fun x' k' => law_haab_spec x' _ _ _ _ _ _ _ _ (by unfold OkDay; omega) (by unfold OkDay; omega) k') ?_ | refine' use (made := [_, _, _, _, _, _, _, _]) (by assumption) (by assumption) (by assumption) (by assumption) ?pl rfl (by intro e; cases e) (by assumption) (by first | rfl | assumption) (fun x' k' => law_haab_spec x' _ _ _ _ _ _ _ _ (by unfold OkDay; omega) (by unfold OkDay; omega) k') ?_ | refine' use (made := [_, _, _, _, _, _, _, _, _]) (by assumption) (by assumption) (by assumption) (by assumption) ?pl rfl (by intro e; cases e) (by assumption) (by first | rfl | assumption) (fun x' k' => law_haab_spec x' _ _ _ _ _ _ _ _ (by unfold OkDay; omega) (by unfold OkDay; omega) k') ?_ | refine' use (made := [_, _, _, _, _, _, _, _, _, _]) (by assumption) (by assumption) (by assumption) (by assumption) ?pl rfl (by intro e; cases e) (by assumption) (by first | rfl | assumption) (fun x' k' => law_haab_spec x' _ _ _ _ _ _ _ _ (by unfold OkDay; omega) (by unfold OkDay; omega) k') ?_ | refine' use (made := [_, _, _, _, _, _, _, _, _, _, _]) (by assumption) (by assumption) (by assumption) (by assumption) ?pl rfl (by intro e; cases e) (by assumption) (by first | rfl | assumption) (fun x' k' => law_haab_spec x' _ _ _ _ _ _ _ _ (by unfold OkDay; omega) (by unfold OkDay; omega) k') ?_); (case pl => (repeat (first | exact Plain.nil | refine Plain.seq rfl ?_ | refine Plain.set (by assumption) ?_ | refine Plain.cell (by assumption) ?_))); (intro v' s' mu' M' F' N' hb' ho' P'); (try simp only [List.nil_append, List.cons_append] at N'); (obtain ⟨t', e'⟩ := P'; replace e' := days_is e' (by assumption); subst e')))
section
variable {w : World} {mg mb : Str → Option Value} {ob : Obj} {dp un n : Nat} {gd : Option (List Code)} {envs : List Env} {Q E : Value → Shared → Prop}
set_option maxHeartbeats 40000000 in
theorem segW {s₀ s : Shared} {L : Addr} {m : Str → Option Value} {mu : List (Addr × Obj)} {N nu na hy mo wn wi e wm k : Int} {z : UInt64} {aT aH aE aW aV : Addr} {t0 t1 t2 t3 t4 t5 t6 t7 t8 t9 t10 u1 u2 u3 u4 : Tok} {vE vW vV : List Value} {n' : Nat}
    (q : LawAt w mg mb ob dp un n' envs s₀ s L m mu N z nu na hy mo wn wi e wm k aT aH aE aW aV t0 t1 t2 t3 t4 t5 t6 t7 t8 t9 t10 u1 u2 u3 u4 vE vW vV)
    {name qual : Str} {params : Arguments} {body rest : List Stmt} {scope : Scope} {dV kV doc pm cdv ct oc : Value} {an od : Option Addr} {osl : Array (Option Value)}
    (ho : (hd.heap_39 w.params).lookup 158 = some ⟨oc, od, .func (fnOf name qual params body scope dV kV doc pm an cdv ct), osl⟩) (hr : rest = body.drop 15)
    (hQ : ∀ s', Aft w mg mb ob envs s₀ s' → Q (.bool true) s') :
    wpAny (model PRG w) ((aro dp un gd envs).deeper (envOf qual scope L 158 cdv)) (execs rest (envOf qual scope L 158 cdv)) (fun fl s' => Back (Q (match fl with | .ret v => v | _ => .none) s')) E s := by
  obtain ⟨x, F0, N0, M, hb0, ho0, hread, sE, sW, sV, hz, hN1, hN2, hk0, hk1, hnu, hna, hhd, hmo, hwi, hwm, hfix⟩ := q
  refine' lawEq ?hk ho ?_
  case hk => k_is
  rintro rfl rfl rfl rfl rfl
  clear ho
  subst hr
  have F' := fr_L hread F0
  clear F0 hread
  have X' := In.keep x.W.X x.hi fun b o e => e
  have T' := TopRead.keep x.W.T x.hi fun b o e => e
  have N' := N0
  clear N0
  simp only [List.cons_append, List.nil_append] at N'
  dsimp only [List.drop]
  try k_fold
  k_steps
  refine Back.mk ?_
  refine use (made := [_, _, _, _, _]) x (by assumption) (by assumption) (by assumption) (by (repeat (first | exact Plain.nil | refine Plain.seq rfl ?_ | refine Plain.set (by assumption) ?_ | refine Plain.cell (by assumption) ?_))) rfl (by intro z; cases z) (by assumption) (by first | rfl | assumption) (fun x' k' => tb_spec x' aT aH u1 u2 u3 u4 _ wn wi e wm N z hz hN1 (by omega) hwi.1 hwi.2 hwm.1 hwm.2 (solid_news (by assumption) x (by assumption) (by first | exact fun p hp => hp | exact fun p hp => .tail _ hp | exact fun p hp => .tail _ (.tail _ hp) | exact fun p hp => .tail _ (.tail _ (.tail _ hp)) | exact fun p hp => .tail _ (.tail _ (.tail _ (.tail _ hp))) | exact fun p hp => .tail _ (.tail _ (.tail _ (.tail _ (.tail _ hp)))) | exact fun p hp => .tail _ (.tail _ (.tail _ (.tail _ (.tail _ (.tail _ hp))))) | exact fun p hp => .tail _ (.tail _ (.tail _ (.tail _ (.tail _ (.tail _ (.tail _ hp)))))) | exact fun p hp => .tail _ (.tail _ (.tail _ (.tail _ (.tail _ (.tail _ (.tail _ (.tail _ hp))))))) | exact fun p hp => .tail _ (.tail _ (.tail _ (.tail _ (.tail _ (.tail _ (.tail _ (.tail _ (.tail _ hp)))))))) | exact fun p hp => .tail _ (.tail _ (.tail _ (.tail _ (.tail _ (.tail _ (.tail _ (.tail _ (.tail _ (.tail _ hp))))))))) | exact fun p hp => .tail _ (.tail _ (.tail _ (.tail _ (.tail _ (.tail _ (.tail _ (.tail _ (.tail _ (.tail _ (.tail _ hp)))))))))) | exact fun p hp => .tail _ (.tail _ (.tail _ (.tail _ (.tail _ (.tail _ (.tail _ (.tail _ (.tail _ (.tail _ (.tail _ (.tail _ hp))))))))))) | exact fun p hp => .tail _ (.tail _ (.tail _ (.tail _ (.tail _ (.tail _ (.tail _ (.tail _ (.tail _ (.tail _ (.tail _ (.tail _ (.tail _ hp)))))))))))) | exact fun p hp => .tail _ (.tail _ (.tail _ (.tail _ (.tail _ (.tail _ (.tail _ (.tail _ (.tail _ (.tail _ (.tail _ (.tail _ (.tail _ (.tail _ hp))))))))))))) | exact fun p hp => .tail _ (.tail _ (.tail _ (.tail _ (.tail _ (.tail _ (.tail _ (.tail _ (.tail _ (.tail _ (.tail _ (.tail _ (.tail _ (.tail _ (.tail _ hp))))))))))))))) rfl (.tail _ (.tail _ (.tail _ (.tail _ (.head _))))) rfl) (solid_news (by assumption) x (by assumption) (by first | exact fun p hp => hp | exact fun p hp => .tail _ hp | exact fun p hp => .tail _ (.tail _ hp) | exact fun p hp => .tail _ (.tail _ (.tail _ hp)) | exact fun p hp => .tail _ (.tail _ (.tail _ (.tail _ hp))) | exact fun p hp => .tail _ (.tail _ (.tail _ (.tail _ (.tail _ hp)))) | exact fun p hp => .tail _ (.tail _ (.tail _ (.tail _ (.tail _ (.tail _ hp))))) | exact fun p hp => .tail _ (.tail _ (.tail _ (.tail _ (.tail _ (.tail _ (.tail _ hp)))))) | exact fun p hp => .tail _ (.tail _ (.tail _ (.tail _ (.tail _ (.tail _ (.tail _ (.tail _ hp))))))) | exact fun p hp => .tail _ (.tail _ (.tail _ (.tail _ (.tail _ (.tail _ (.tail _ (.tail _ (.tail _ hp)))))))) | exact fun p hp => .tail _ (.tail _ (.tail _ (.tail _ (.tail _ (.tail _ (.tail _ (.tail _ (.tail _ (.tail _ hp))))))))) | exact fun p hp => .tail _ (.tail _ (.tail _ (.tail _ (.tail _ (.tail _ (.tail _ (.tail _ (.tail _ (.tail _ (.tail _ hp)))))))))) | exact fun p hp => .tail _ (.tail _ (.tail _ (.tail _ (.tail _ (.tail _ (.tail _ (.tail _ (.tail _ (.tail _ (.tail _ (.tail _ hp))))))))))) | exact fun p hp => .tail _ (.tail _ (.tail _ (.tail _ (.tail _ (.tail _ (.tail _ (.tail _ (.tail _ (.tail _ (.tail _ (.tail _ (.tail _ hp)))))))))))) | exact fun p hp => .tail _ (.tail _ (.tail _ (.tail _ (.tail _ (.tail _ (.tail _ (.tail _ (.tail _ (.tail _ (.tail _ (.tail _ (.tail _ (.tail _ hp))))))))))))) | exact fun p hp => .tail _ (.tail _ (.tail _ (.tail _ (.tail _ (.tail _ (.tail _ (.tail _ (.tail _ (.tail _ (.tail _ (.tail _ (.tail _ (.tail _ (.tail _ hp))))))))))))))) rfl (.tail _ (.tail _ (.tail _ (.head _)))) rfl) k') ?_
  intro v' s' mu' M' F' N' hb' ho' P'
  simp only [List.cons_append, List.nil_append] at N'
  by_cases hw : faultS (decide (wn < 1 ∨ 13 < wn)) (decide (wi = 20)) ++ faultS (decide (e < 0 ∨ 19 < e)) (decide (wm = 19)) = []
  · have hv : ¬ (wn < 1 ∨ 13 < wn) ∧ ¬ wi = 20 ∧ ¬ (e < 0 ∨ 19 < e) ∧ ¬ wm = 19 := by
      obtain ⟨a, b⟩ := List.append_eq_nil_iff.mp hw
      exact ⟨of_decide_eq_false (faultS_nil.mp a).1, of_decide_eq_false (faultS_nil.mp a).2, of_decide_eq_false (faultS_nil.mp b).1, of_decide_eq_false (faultS_nil.mp b).2⟩
    obtain ⟨hv1, hv2, hv3, hv4⟩ := hv
    obtain ⟨D, hD⟩ : ∃ D, D = (20 * wm + e - (20 * mo + hy)) % 365 := ⟨_, rfl⟩
    have hD0 : 0 ≤ D ∧ D < 365 := by omega
    k_steps
    refine Back.mk ?_
    refine for_false (For_invVF (by assumption) rfl rfl ?_ (fun _ => rfl) PassesOwn.never)
    k_steps
    refine Back.mk ?_
    refine iter_rangeI (n := 52) (news := [(aV, W.listOf vV.toArray 0), (aW, W.listOf vW.toArray 0), (aE, W.listOf vE.toArray 0), (aH, tupO [.int e u3, .str (mstr wm) u4]), (aT, tupO [.int wn u1, .str (tstr wi) u2])] ++ _) (JW N nu na wn wi D (fun m => IsL m N z nu na hy mo wn wi e wm k aT aH aE aW aV t0 t1 t2 t3 t4 t5 t6 t7 t8 t9 t10) v') rfl (by assumption) (by decide +kernel) (by decide +kernel) (by assumption) (Mine.News.sub (by assumption) (by first | exact fun p hp => hp | exact fun p hp => .tail _ hp | exact fun p hp => .tail _ (.tail _ hp) | exact fun p hp => .tail _ (.tail _ (.tail _ hp)) | exact fun p hp => .tail _ (.tail _ (.tail _ (.tail _ hp))) | exact fun p hp => .tail _ (.tail _ (.tail _ (.tail _ (.tail _ hp)))) | exact fun p hp => .tail _ (.tail _ (.tail _ (.tail _ (.tail _ (.tail _ hp))))) | exact fun p hp => .tail _ (.tail _ (.tail _ (.tail _ (.tail _ (.tail _ (.tail _ hp)))))) | exact fun p hp => .tail _ (.tail _ (.tail _ (.tail _ (.tail _ (.tail _ (.tail _ (.tail _ hp))))))) | exact fun p hp => .tail _ (.tail _ (.tail _ (.tail _ (.tail _ (.tail _ (.tail _ (.tail _ (.tail _ hp)))))))) | exact fun p hp => .tail _ (.tail _ (.tail _ (.tail _ (.tail _ (.tail _ (.tail _ (.tail _ (.tail _ (.tail _ hp))))))))) | exact fun p hp => .tail _ (.tail _ (.tail _ (.tail _ (.tail _ (.tail _ (.tail _ (.tail _ (.tail _ (.tail _ (.tail _ hp)))))))))) | exact fun p hp => .tail _ (.tail _ (.tail _ (.tail _ (.tail _ (.tail _ (.tail _ (.tail _ (.tail _ (.tail _ (.tail _ (.tail _ hp))))))))))) | exact fun p hp => .tail _ (.tail _ (.tail _ (.tail _ (.tail _ (.tail _ (.tail _ (.tail _ (.tail _ (.tail _ (.tail _ (.tail _ (.tail _ hp)))))))))))) | exact fun p hp => .tail _ (.tail _ (.tail _ (.tail _ (.tail _ (.tail _ (.tail _ (.tail _ (.tail _ (.tail _ (.tail _ (.tail _ (.tail _ (.tail _ hp))))))))))))) | exact fun p hp => .tail _ (.tail _ (.tail _ (.tail _ (.tail _ (.tail _ (.tail _ (.tail _ (.tail _ (.tail _ (.tail _ (.tail _ (.tail _ (.tail _ (.tail _ hp)))))))))))))))) ⟨⟨rfl, rfl, rfl, rfl, rfl, rfl, rfl, rfl, rfl, rfl, rfl, rfl, rfl, rfl, rfl, rfl⟩, rfl, ⟨_, rfl⟩, int_read rfl (by omega), int_read rfl (by omega), _, rfl, due_start⟩ ?turn ?done
    case turn =>
      intro i t m1 h1 tk1 own hi hj F1 N1
      obtain ⟨hI, hT, ⟨td, hd1⟩, ⟨tn, hd2⟩, ⟨tm, hd3⟩, vd, hd4, hdue⟩ := hj
      have hm := ite_map hd4 (ite_map hd3 (ite_map hd2 (ite_map hd1 (ite_map hT (mL_eq hI)))))
      rw [← hm] at F1
      clear hm hd1 hd2 hd3 hd4 hT hI
      simp only [List.cons_append, List.nil_append] at N1
      clear hnu hna hhd hmo hD hfix hv1 hv2 hv3 hv4 hwi hwm hk0 hk1
      have hdue2 := hdue
      rcases hdue with ⟨⟨t8, rfl⟩, hn⟩ | ⟨j, hj, hh, z8, t8, rfl, hz8⟩
      · k_steps
        all_goals (refine Back.mk ?_; refine inv_end (by assumption) (by assumption) (by first | exact fun p hp => (List.mem_append_left _ hp : p ∈ _ ++ own) | exact fun p hp => .tail _ ((List.mem_append_left _ hp : p ∈ _ ++ own)) | exact fun p hp => .tail _ (.tail _ ((List.mem_append_left _ hp : p ∈ _ ++ own))) | exact fun p hp => .tail _ (.tail _ (.tail _ ((List.mem_append_left _ hp : p ∈ _ ++ own)))) | exact fun p hp => .tail _ (.tail _ (.tail _ (.tail _ ((List.mem_append_left _ hp : p ∈ _ ++ own))))) | exact fun p hp => .tail _ (.tail _ (.tail _ (.tail _ (.tail _ ((List.mem_append_left _ hp : p ∈ _ ++ own))))))) (by first | exact fun p hp => .tail _ (.tail _ (.tail _ (.tail _ (.tail _ (List.mem_append_right _ hp))))) | exact fun p hp => .tail _ (.tail _ (.tail _ (.tail _ (.tail _ (.tail _ (List.mem_append_right _ hp)))))) | exact fun p hp => .tail _ (.tail _ (.tail _ (.tail _ (.tail _ (.tail _ (.tail _ (List.mem_append_right _ hp))))))) | exact fun p hp => .tail _ (.tail _ (.tail _ (.tail _ (.tail _ (.tail _ (.tail _ (.tail _ (List.mem_append_right _ hp)))))))) | exact fun p hp => .tail _ (.tail _ (.tail _ (.tail _ (.tail _ (.tail _ (.tail _ (.tail _ (.tail _ (List.mem_append_right _ hp))))))))) | exact fun p hp => .tail _ (.tail _ (.tail _ (.tail _ (.tail _ (.tail _ (.tail _ (.tail _ (.tail _ (.tail _ (List.mem_append_right _ hp)))))))))) | exact fun p hp => .tail _ (.tail _ (.tail _ (.tail _ (.tail _ (.tail _ (.tail _ (.tail _ (.tail _ (.tail _ (.tail _ (List.mem_append_right _ hp)))))))))))) ⟨⟨rfl, rfl, rfl, rfl, rfl, rfl, rfl, rfl, rfl, rfl, rfl, rfl, rfl, rfl, rfl, rfl⟩, rfl, ⟨_, rfl⟩, int_read rfl (by omega), int_read rfl (by omega), _, rfl, ?_⟩)
        all_goals first
          | exact due_keep hdue2 (fun _ hh => by obtain ⟨h1, h2⟩ := hh; omega)
          | exact .inr ⟨i, by omega, ⟨by omega, by omega⟩, _, _, rfl, isH_as (by assumption) (by omega)⟩
      · k_steps
        all_goals (refine Back.mk ?_; refine inv_end (by assumption) (by assumption) (by first | exact fun p hp => (List.mem_append_left _ hp : p ∈ _ ++ own) | exact fun p hp => .tail _ ((List.mem_append_left _ hp : p ∈ _ ++ own)) | exact fun p hp => .tail _ (.tail _ ((List.mem_append_left _ hp : p ∈ _ ++ own))) | exact fun p hp => .tail _ (.tail _ (.tail _ ((List.mem_append_left _ hp : p ∈ _ ++ own)))) | exact fun p hp => .tail _ (.tail _ (.tail _ (.tail _ ((List.mem_append_left _ hp : p ∈ _ ++ own))))) | exact fun p hp => .tail _ (.tail _ (.tail _ (.tail _ (.tail _ ((List.mem_append_left _ hp : p ∈ _ ++ own))))))) (by first | exact fun p hp => .tail _ (.tail _ (.tail _ (.tail _ (.tail _ (List.mem_append_right _ hp))))) | exact fun p hp => .tail _ (.tail _ (.tail _ (.tail _ (.tail _ (.tail _ (List.mem_append_right _ hp)))))) | exact fun p hp => .tail _ (.tail _ (.tail _ (.tail _ (.tail _ (.tail _ (.tail _ (List.mem_append_right _ hp))))))) | exact fun p hp => .tail _ (.tail _ (.tail _ (.tail _ (.tail _ (.tail _ (.tail _ (.tail _ (List.mem_append_right _ hp)))))))) | exact fun p hp => .tail _ (.tail _ (.tail _ (.tail _ (.tail _ (.tail _ (.tail _ (.tail _ (.tail _ (List.mem_append_right _ hp))))))))) | exact fun p hp => .tail _ (.tail _ (.tail _ (.tail _ (.tail _ (.tail _ (.tail _ (.tail _ (.tail _ (.tail _ (List.mem_append_right _ hp)))))))))) | exact fun p hp => .tail _ (.tail _ (.tail _ (.tail _ (.tail _ (.tail _ (.tail _ (.tail _ (.tail _ (.tail _ (.tail _ (List.mem_append_right _ hp)))))))))))) ⟨⟨rfl, rfl, rfl, rfl, rfl, rfl, rfl, rfl, rfl, rfl, rfl, rfl, rfl, rfl, rfl, rfl⟩, rfl, ⟨_, rfl⟩, int_read rfl (by omega), int_read rfl (by omega), _, rfl, ?_⟩)
        all_goals exact due_keep hdue2 (fun h => by obtain ⟨t, h⟩ := h; cases h)
    case done =>
      intro m1 h1 tk1 hj F1 N1
      obtain ⟨hI, hT, ⟨td, hd1⟩, ⟨tn, hd2⟩, ⟨tm, hd3⟩, vd, hd4, hdue⟩ := hj
      have hm := ite_map hd4 (ite_map hd3 (ite_map hd2 (ite_map hd1 (ite_map hT (mL_eq hI)))))
      rw [← hm] at F1
      clear hm hd1 hd2 hd3 hd4 hT hI
      simp only [List.cons_append, List.nil_append] at N1
      rcases P' with ⟨⟨g1, g2, g3, g4, g5, g6⟩, y, z', t', rfl, hz', y0, y1, hM⟩ | ⟨⟨t', rfl⟩, hm⟩ | ⟨⟨t', rfl⟩, hm⟩
      · obtain ⟨j0, hj0, hy0, hh0⟩ := meets_hit hnu hna hhd hmo hD g4 g5 hwi.1 g6 y0 y1 hM
        rcases hdue with ⟨⟨t8, rfl⟩, hn⟩ | ⟨j, hj, hh, z8, t8, rfl, hz8⟩
        · exact absurd hh0 (hn j0 hj0)
        · have hy9 : y = D + 365 * j := meets_uni y0 y1 (by omega) (by omega) hM (hit_meets hnu hna hhd hmo hD hh)
          clear hj0 hy0 hh0
          subst hy9
          k_steps
          (refine Back.mk ?_; (refine' segX ⟨x, ?nF, ?nN, ?nM, ?nb, ?nos, ?nr, sE, sW, sV, hz, hN1, hN2, hk0, hk1, hnu, hna, hhd, hmo, hwi, hwm, hfix⟩ ?nho ?nrest hQ; (case nF => assumption); (case nM => assumption); (case nN => exact Mine.News.sub (by assumption) (by first | exact fun p hp => hp | exact fun p hp => .tail _ hp | exact fun p hp => .tail _ (.tail _ hp) | exact fun p hp => .tail _ (.tail _ (.tail _ hp)) | exact fun p hp => .tail _ (.tail _ (.tail _ (.tail _ hp))) | exact fun p hp => .tail _ (.tail _ (.tail _ (.tail _ (.tail _ hp)))) | exact fun p hp => .tail _ (.tail _ (.tail _ (.tail _ (.tail _ (.tail _ hp))))) | exact fun p hp => .tail _ (.tail _ (.tail _ (.tail _ (.tail _ (.tail _ (.tail _ hp)))))) | exact fun p hp => .tail _ (.tail _ (.tail _ (.tail _ (.tail _ (.tail _ (.tail _ (.tail _ hp))))))) | exact fun p hp => .tail _ (.tail _ (.tail _ (.tail _ (.tail _ (.tail _ (.tail _ (.tail _ (.tail _ hp)))))))) | exact fun p hp => .tail _ (.tail _ (.tail _ (.tail _ (.tail _ (.tail _ (.tail _ (.tail _ (.tail _ (.tail _ hp))))))))) | exact fun p hp => .tail _ (.tail _ (.tail _ (.tail _ (.tail _ (.tail _ (.tail _ (.tail _ (.tail _ (.tail _ (.tail _ hp)))))))))) | exact fun p hp => .tail _ (.tail _ (.tail _ (.tail _ (.tail _ (.tail _ (.tail _ (.tail _ (.tail _ (.tail _ (.tail _ (.tail _ hp))))))))))) | exact fun p hp => .tail _ (.tail _ (.tail _ (.tail _ (.tail _ (.tail _ (.tail _ (.tail _ (.tail _ (.tail _ (.tail _ (.tail _ (.tail _ hp)))))))))))) | exact fun p hp => .tail _ (.tail _ (.tail _ (.tail _ (.tail _ (.tail _ (.tail _ (.tail _ (.tail _ (.tail _ (.tail _ (.tail _ (.tail _ (.tail _ hp))))))))))))) | exact fun p hp => .tail _ (.tail _ (.tail _ (.tail _ (.tail _ (.tail _ (.tail _ (.tail _ (.tail _ (.tail _ (.tail _ (.tail _ (.tail _ (.tail _ (.tail _ hp)))))))))))))))); (case nb => assumption); (case nos => first | rfl | assumption); (case nr => exact ⟨rfl, rfl, rfl, rfl, rfl, rfl, rfl, rfl, rfl, rfl, rfl, rfl, rfl, rfl, rfl, rfl⟩); (case nho => k_is); (case nrest => rfl)))
      · rcases hdue with ⟨⟨t8, rfl⟩, hn⟩ | ⟨j, hj, hh, z8, t8, rfl, hz8⟩
        · k_steps
          (refine Back.mk ?_; (refine' segX ⟨x, ?nF, ?nN, ?nM, ?nb, ?nos, ?nr, sE, sW, sV, hz, hN1, hN2, hk0, hk1, hnu, hna, hhd, hmo, hwi, hwm, hfix⟩ ?nho ?nrest hQ; (case nF => assumption); (case nM => assumption); (case nN => exact Mine.News.sub (by assumption) (by first | exact fun p hp => hp | exact fun p hp => .tail _ hp | exact fun p hp => .tail _ (.tail _ hp) | exact fun p hp => .tail _ (.tail _ (.tail _ hp)) | exact fun p hp => .tail _ (.tail _ (.tail _ (.tail _ hp))) | exact fun p hp => .tail _ (.tail _ (.tail _ (.tail _ (.tail _ hp)))) | exact fun p hp => .tail _ (.tail _ (.tail _ (.tail _ (.tail _ (.tail _ hp))))) | exact fun p hp => .tail _ (.tail _ (.tail _ (.tail _ (.tail _ (.tail _ (.tail _ hp)))))) | exact fun p hp => .tail _ (.tail _ (.tail _ (.tail _ (.tail _ (.tail _ (.tail _ (.tail _ hp))))))) | exact fun p hp => .tail _ (.tail _ (.tail _ (.tail _ (.tail _ (.tail _ (.tail _ (.tail _ (.tail _ hp)))))))) | exact fun p hp => .tail _ (.tail _ (.tail _ (.tail _ (.tail _ (.tail _ (.tail _ (.tail _ (.tail _ (.tail _ hp))))))))) | exact fun p hp => .tail _ (.tail _ (.tail _ (.tail _ (.tail _ (.tail _ (.tail _ (.tail _ (.tail _ (.tail _ (.tail _ hp)))))))))) | exact fun p hp => .tail _ (.tail _ (.tail _ (.tail _ (.tail _ (.tail _ (.tail _ (.tail _ (.tail _ (.tail _ (.tail _ (.tail _ hp))))))))))) | exact fun p hp => .tail _ (.tail _ (.tail _ (.tail _ (.tail _ (.tail _ (.tail _ (.tail _ (.tail _ (.tail _ (.tail _ (.tail _ (.tail _ hp)))))))))))) | exact fun p hp => .tail _ (.tail _ (.tail _ (.tail _ (.tail _ (.tail _ (.tail _ (.tail _ (.tail _ (.tail _ (.tail _ (.tail _ (.tail _ (.tail _ hp))))))))))))) | exact fun p hp => .tail _ (.tail _ (.tail _ (.tail _ (.tail _ (.tail _ (.tail _ (.tail _ (.tail _ (.tail _ (.tail _ (.tail _ (.tail _ (.tail _ (.tail _ hp)))))))))))))))); (case nb => assumption); (case nos => first | rfl | assumption); (case nr => exact ⟨rfl, rfl, rfl, rfl, rfl, rfl, rfl, rfl, rfl, rfl, rfl, rfl, rfl, rfl, rfl, rfl⟩); (case nho => k_is); (case nrest => rfl)))
        · exfalso
          rcases hm with hm | hm | hm | hm | ⟨_, _, hm⟩
          · omega
          · omega
          · omega
          · omega
          · exact hm _ (by omega) (by omega) (hit_meets hnu hna hhd hmo hD hh)
      · omega
  · rcases P' with ⟨⟨g1, g2, g3, g4, g5, g6⟩, _⟩ | ⟨⟨t', rfl⟩, hm⟩ | ⟨⟨t', rfl⟩, hm⟩
    · refine absurd ?_ hw
      rw [decide_eq_false (by omega), decide_eq_false (by omega), decide_eq_false (by omega), decide_eq_false (by omega)]
      rfl
    · have hmem : (faultS (decide (wn < 1 ∨ 13 < wn)) (decide (wi = 20)) ++ faultS (decide (e < 0 ∨ 19 < e)) (decide (wm = 19))).any (· == Str.ofString "index") = true := by
        by_cases c1 : wn < 1 ∨ 13 < wn
        · exact any_l (faultS_index (decide_eq_true c1))
        · by_cases c2 : e < 0 ∨ 19 < e
          · exact any_r (faultS_index (decide_eq_true c2))
          · exfalso
            rcases hm with hm | hm | hm | hm | ⟨hm1, hm2, _⟩
            · omega
            · omega
            · omega
            · omega
            · refine hw ?_
              rw [decide_eq_false (by omega), decide_eq_false (by omega), decide_eq_false (by omega), decide_eq_false (by omega)]
              rfl
      k_steps
      (refine Back.mk ?_; (refine' segX ⟨x, ?nF, ?nN, ?nM, ?nb, ?nos, ?nr, sE, sW, sV, hz, hN1, hN2, hk0, hk1, hnu, hna, hhd, hmo, hwi, hwm, hfix⟩ ?nho ?nrest hQ; (case nF => assumption); (case nM => assumption); (case nN => exact Mine.News.sub (by assumption) (by first | exact fun p hp => hp | exact fun p hp => .tail _ hp | exact fun p hp => .tail _ (.tail _ hp) | exact fun p hp => .tail _ (.tail _ (.tail _ hp)) | exact fun p hp => .tail _ (.tail _ (.tail _ (.tail _ hp))) | exact fun p hp => .tail _ (.tail _ (.tail _ (.tail _ (.tail _ hp)))) | exact fun p hp => .tail _ (.tail _ (.tail _ (.tail _ (.tail _ (.tail _ hp))))) | exact fun p hp => .tail _ (.tail _ (.tail _ (.tail _ (.tail _ (.tail _ (.tail _ hp)))))) | exact fun p hp => .tail _ (.tail _ (.tail _ (.tail _ (.tail _ (.tail _ (.tail _ (.tail _ hp))))))) | exact fun p hp => .tail _ (.tail _ (.tail _ (.tail _ (.tail _ (.tail _ (.tail _ (.tail _ (.tail _ hp)))))))) | exact fun p hp => .tail _ (.tail _ (.tail _ (.tail _ (.tail _ (.tail _ (.tail _ (.tail _ (.tail _ (.tail _ hp))))))))) | exact fun p hp => .tail _ (.tail _ (.tail _ (.tail _ (.tail _ (.tail _ (.tail _ (.tail _ (.tail _ (.tail _ (.tail _ hp)))))))))) | exact fun p hp => .tail _ (.tail _ (.tail _ (.tail _ (.tail _ (.tail _ (.tail _ (.tail _ (.tail _ (.tail _ (.tail _ (.tail _ hp))))))))))) | exact fun p hp => .tail _ (.tail _ (.tail _ (.tail _ (.tail _ (.tail _ (.tail _ (.tail _ (.tail _ (.tail _ (.tail _ (.tail _ (.tail _ hp)))))))))))) | exact fun p hp => .tail _ (.tail _ (.tail _ (.tail _ (.tail _ (.tail _ (.tail _ (.tail _ (.tail _ (.tail _ (.tail _ (.tail _ (.tail _ (.tail _ hp))))))))))))) | exact fun p hp => .tail _ (.tail _ (.tail _ (.tail _ (.tail _ (.tail _ (.tail _ (.tail _ (.tail _ (.tail _ (.tail _ (.tail _ (.tail _ (.tail _ (.tail _ hp)))))))))))))))); (case nb => assumption); (case nos => first | rfl | assumption); (case nr => exact ⟨rfl, rfl, rfl, rfl, rfl, rfl, rfl, rfl, rfl, rfl, rfl, rfl, rfl, rfl, rfl, rfl⟩); (case nho => k_is); (case nrest => rfl)))
    · have hmem : (faultS (decide (wn < 1 ∨ 13 < wn)) (decide (wi = 20)) ++ faultS (decide (e < 0 ∨ 19 < e)) (decide (wm = 19))).any (· == Str.ofString "value") = true := by
        rcases hm with hm | hm
        · exact any_r (faultS_value (decide_eq_true hm))
        · exact any_l (faultS_value (decide_eq_true hm))
      k_steps
      (refine Back.mk ?_; (refine' segX ⟨x, ?nF, ?nN, ?nM, ?nb, ?nos, ?nr, sE, sW, sV, hz, hN1, hN2, hk0, hk1, hnu, hna, hhd, hmo, hwi, hwm, hfix⟩ ?nho ?nrest hQ; (case nF => assumption); (case nM => assumption); (case nN => exact Mine.News.sub (by assumption) (by first | exact fun p hp => hp | exact fun p hp => .tail _ hp | exact fun p hp => .tail _ (.tail _ hp) | exact fun p hp => .tail _ (.tail _ (.tail _ hp)) | exact fun p hp => .tail _ (.tail _ (.tail _ (.tail _ hp))) | exact fun p hp => .tail _ (.tail _ (.tail _ (.tail _ (.tail _ hp)))) | exact fun p hp => .tail _ (.tail _ (.tail _ (.tail _ (.tail _ (.tail _ hp))))) | exact fun p hp => .tail _ (.tail _ (.tail _ (.tail _ (.tail _ (.tail _ (.tail _ hp)))))) | exact fun p hp => .tail _ (.tail _ (.tail _ (.tail _ (.tail _ (.tail _ (.tail _ (.tail _ hp))))))) | exact fun p hp => .tail _ (.tail _ (.tail _ (.tail _ (.tail _ (.tail _ (.tail _ (.tail _ (.tail _ hp)))))))) | exact fun p hp => .tail _ (.tail _ (.tail _ (.tail _ (.tail _ (.tail _ (.tail _ (.tail _ (.tail _ (.tail _ hp))))))))) | exact fun p hp => .tail _ (.tail _ (.tail _ (.tail _ (.tail _ (.tail _ (.tail _ (.tail _ (.tail _ (.tail _ (.tail _ hp)))))))))) | exact fun p hp => .tail _ (.tail _ (.tail _ (.tail _ (.tail _ (.tail _ (.tail _ (.tail _ (.tail _ (.tail _ (.tail _ (.tail _ hp))))))))))) | exact fun p hp => .tail _ (.tail _ (.tail _ (.tail _ (.tail _ (.tail _ (.tail _ (.tail _ (.tail _ (.tail _ (.tail _ (.tail _ (.tail _ hp)))))))))))) | exact fun p hp => .tail _ (.tail _ (.tail _ (.tail _ (.tail _ (.tail _ (.tail _ (.tail _ (.tail _ (.tail _ (.tail _ (.tail _ (.tail _ (.tail _ hp))))))))))))) | exact fun p hp => .tail _ (.tail _ (.tail _ (.tail _ (.tail _ (.tail _ (.tail _ (.tail _ (.tail _ (.tail _ (.tail _ (.tail _ (.tail _ (.tail _ (.tail _ hp)))))))))))))))); (case nb => assumption); (case nos => first | rfl | assumption); (case nr => exact ⟨rfl, rfl, rfl, rfl, rfl, rfl, rfl, rfl, rfl, rfl, rfl, rfl, rfl, rfl, rfl, rfl⟩); (case nho => k_is); (case nrest => rfl)))
end
end Mine
namespace Mine
open PySem PySem.W PySem.Calls PySem.Spec PyProof.Rows
def IsP (m : Str → Option Value) (N : Int) (z : UInt64) (nu : Int) (na : Int) (hy : Int) (mo : Int) (wn : Int) (wi : Int) (e : Int) (wm : Int) (aP : Addr) (t0 t1 t2 t3 t4 t5 t6 t7 t8 t9 : Tok) : Prop :=
  m "n" = some (.int N t0) ∧ m "jd" = some (.float z t1) ∧ m "number" = some (.int nu t2) ∧ m "name" = some (.int na t3) ∧ m "hday" = some (.int hy t4) ∧ m "month" = some (.int mo t5) ∧ m "want_number" = some (.int wn t6) ∧ m "want_name" = some (.int wi t7) ∧ m "want_day" = some (.int e t8) ∧ m "want_month" = some (.int wm t9) ∧ m "parts" = some (.ref aP)
def mP (g : Str → Option Value) (N : Int) (z : UInt64) (nu : Int) (na : Int) (hy : Int) (mo : Int) (wn : Int) (wi : Int) (e : Int) (wm : Int) (aP : Addr) (t0 t1 t2 t3 t4 t5 t6 t7 t8 t9 : Tok) : Str → Option Value := fun y =>
  if y = "n" then some (.int N t0) else if y = "jd" then some (.float z t1) else if y = "number" then some (.int nu t2) else if y = "name" then some (.int na t3) else if y = "hday" then some (.int hy t4) else if y = "month" then some (.int mo t5) else if y = "want_number" then some (.int wn t6) else if y = "want_name" then some (.int wi t7) else if y = "want_day" then some (.int e t8) else if y = "want_month" then some (.int wm t9) else if y = "parts" then some (.ref aP) else g y
theorem mP_eq {m : Str → Option Value} {N nu na hy mo wn wi e wm : Int} {z : UInt64} {aP : Addr} {t0 t1 t2 t3 t4 t5 t6 t7 t8 t9 : Tok} (q : IsP m N z nu na hy mo wn wi e wm aP t0 t1 t2 t3 t4 t5 t6 t7 t8 t9) : mP m N z nu na hy mo wn wi e wm aP t0 t1 t2 t3 t4 t5 t6 t7 t8 t9 = m := by
  obtain ⟨h0, h1, h2, h3, h4, h5, h6, h7, h8, h9, h10⟩ := q
  exact (ite_map h0 (ite_map h1 (ite_map h2 (ite_map h3 (ite_map h4 (ite_map h5 (ite_map h6 (ite_map h7 (ite_map h8 (ite_map h9 (ite_map h10 rfl)))))))))))
theorem fr_P {g h : Heap} {L : Addr} {m : Str → Option Value} {N nu na hy mo wn wi e wm : Int} {z : UInt64} {aP : Addr} {t0 t1 t2 t3 t4 t5 t6 t7 t8 t9 : Tok} (q : IsP m N z nu na hy mo wn wi e wm aP t0 t1 t2 t3 t4 t5 t6 t7 t8 t9) (F : Fr g L h m) : Fr g L h (mP m N z nu na hy mo wn wi e wm aP t0 t1 t2 t3 t4 t5 t6 t7 t8 t9) := by rw [mP_eq q]; exact F
structure PreAt (w : World) (mg mb : Str → Option Value) (ob : Obj) (dp un n' : Nat) (envs : List Env) (s₀ s : Shared) (L : Addr) (m : Str → Option Value) (mu : List (Addr × Obj)) (N : Int) (z : UInt64) (nu : Int) (na : Int) (hy : Int) (mo : Int) (wn : Int) (wi : Int) (e : Int) (wm : Int) (aP : Addr) (t0 t1 t2 t3 t4 t5 t6 t7 t8 t9 : Tok) (lP : List Value) (p5 : Int) : Prop where
  x : Sit w mg mb ob dp un envs (n' + 5) s₀
  fr : Fr (solid (fsOf envs) s₀.heap) L s.heap m
  nw : News (solid (fsOf envs) s₀.heap) L s.heap ([(aP, W.listOf lP.toArray 0)] ++ mu)
  mm : Mu s₀.heap (fsOf envs) mu
  bare : AllBare s.gens
  os : s.os = s₀.os
  read : IsP m N z nu na hy mo wn wi e wm aP t0 t1 t2 t3 t4 t5 t6 t7 t8 t9
  h5 : ∃ q5, lP[5]? = some (.int p5 q5)
  hz : IsH z (2 * N + 1168565)
  hN1 : -2000 ≤ N
  hN2 : N < 1000000000
  hnu : nu = (N + 3) % 13 + 1
  hna : na = (N + 19) % 20
  hhd : hy = (N + 348) % 365 % 20
  hmo : mo = (N + 348) % 365 / 20
  hwi : 0 ≤ wi ∧ wi < 21
  hwm : 0 ≤ wm ∧ wm < 20
  hfix : wm = 18 → 0 ≤ e → e < 20 → e < 5
section
variable {prog : Program} {w : World} {A : Around} {E : Value → Shared → Prop} {s : Shared} {h₀ : Heap} {L a : Addr} {m : Str → Option Value} {news : List (Addr × Obj)}
theorem itemP {value slice : Expr} {l : List Value} {k : Int} {u : Tok} {v : Value} {Q : Value → Shared → Prop} (N : News h₀ L s.heap news) (hm : (a, W.listOf l.toArray 0) ∈ news) (h0 : 0 ≤ k) (hhi : k < 2 ^ 63) (hx : l[k.toNat]? = some v) (h : Q v s)
    (hs : subscripted slice false (.ref a) (.int k u) = operate [.ref a, .int k u] (getItem (.ref a) (.int k u))) : wpAny (model prog w) A (subscriptTail value slice (.ref a) (.int k u)) Q E s := by
  have hL : s.heap.IsList a l.toArray := News.isList N hm
  exact tail_any hL.typeIs slot_list_getitem.lookup (wpAny_getItem_list hL h0 hhi (by simpa using hx) h) hs
theorem parts_of {vs : List Value} {ns : List Int} (h : IntsAre vs (List.take 6 ns ++ [0, 0, 0, 0, 0, 0])) : ∃ p0 p1 p2 p3 p4 p5 q0 q1 q2 q3 q4 q5 rest, vs = .int p0 q0 :: .int p1 q1 :: .int p2 q2 :: .int p3 q3 :: .int p4 q4 :: .int p5 q5 :: rest := by
  have hl : 6 ≤ vs.length := by rw [h.length]; simp
  generalize List.take 6 ns ++ [0, 0, 0, 0, 0, 0] = ks at h
  match vs, ks, h, hl with
  | _, _, .cons p0 q0 (.cons p1 q1 (.cons p2 q2 (.cons p3 q3 (.cons p4 q4 (.cons (vs := rest) p5 q5 _))))), _ => exact ⟨p0, p1, p2, p3, p4, p5, q0, q1, q2, q3, q4, q5, rest, rfl⟩
end
end Mine
namespace Mine
open PySem PySem.W PySem.Calls PySem.Spec PyProof.Rows
theorem conv_S {vs : List Value} {a b a' b' : Bool} (h : StrsAre vs (faultS a b)) (ha : a = a') (hb : b = b') : StrsAre vs (faultS a' b') := ha ▸ hb ▸ h
theorem drop6 {g h : Heap} {L : Addr} {a b c d e f : Addr × Obj} {mu : List (Addr × Obj)} (N : News g L h (a :: b :: c :: d :: e :: f :: mu)) : News g L h ([a, b, c, d, e] ++ mu) := Mine.News.sub N fun p hp => by
  simp only [List.cons_append, List.nil_append, List.mem_cons] at hp ⊢
  rcases hp with h | h | h | h | h | h <;> simp [h]
local macro_rules | `(tactic| walk_at "eval Constant float") => `(tactic| (k_dflt (refine' constHI (by first | exact isH_half | assumption) ?_); intro z' hz'))
local macro_rules | `(tactic| walk_at "binaryOp Add float int") => `(tactic| (k_dflt (refine' addHI (by assumption) (by omega) (by omega) ?_); intro z' hz'))
local macro_rules | `(tactic| walk_at "binaryOp Add int float") => `(tactic| (k_dflt (refine' addIH (by assumption) (by omega) (by omega) ?_); intro z' hz'))
local macro_rules | `(tactic| walk_at "binaryOp Sub float float") => `(tactic| (k_dflt (refine' subHH (by assumption) (by assumption) (by omega) ?_); intro z' hz'))
local macro_rules | `(tactic| walk_at "binaryOp Mod float int") => `(tactic| (k_dflt (refine' modHI' (by assumption) (by omega) (by omega) (by omega) (by omega) ?_); intro z' hz'))
local macro_rules | `(tactic| walk_at "binaryOp Div float int") => `(tactic| (k_dflt (refine' divHI20' (by assumption) (by omega) (by omega) (by omega) ?_); intro z' hz'))
local macro_rules | `(tactic| walk_at "call builtin:math.trunc") => `(tactic| (k_dflt first | (refine' truncH (by assumption) (by omega) rfl ?_) | (refine' truncQ (by assumption) rfl ?_)))
local macro_rules | `(tactic| walk_at "call type:int") => `(tactic| ((with_reducible show wpAny _ _ (call _ [Value.float _ _]) _ _ _); k_dflt (refine' intH (by assumption) (by omega) ?_)))
local macro_rules | `(tactic| walk_at "compareOp Eq float float") => `(tactic| (k_dflt (refine' eqHH (by assumption) (by assumption) ?_)))
local macro_rules | `(tactic| walk_at "compareOp NotEq float float") => `(tactic| (k_dflt (refine' neHH (by assumption) (by assumption) ?_)))
local macro_rules | `(tactic| walk_at "compareOp Lt float float") => `(tactic| (k_dflt (refine' ltHH (by assumption) (by assumption) ?_)))
local macro_rules | `(tactic| walk_at "subscriptTail") => `(tactic| ((with_reducible show wpAny _ _ (subscriptTail _ _ (Value.ref _) (Value.int _ _)) _ _ _); k_dflt (first
  | refine' item50 (by assumption) (by assumption) (by omega) (by omega) ?_ (by with_unfolding_all rfl)
  | refine' item51 (by assumption) (by assumption) (by omega) (by omega) ?_ (by with_unfolding_all rfl)
  | refine' item101 (by assumption) (by assumption) (by omega) (by omega) ?_ (by with_unfolding_all rfl)
  | refine' item102 (by assumption) (by assumption) (by omega) (by omega) ?_ (by with_unfolding_all rfl)); intro t'))
local macro_rules | `(tactic| walk_at "getMethod ref") => `(tactic| ((with_reducible show wpAny _ _ (getMethod (Value.ref _) (Str.ofString "index") _) _ _ _); k_dflt (first | refine' getIndex50 (by assumption) (by assumption) ?_ | refine' getIndex51 (by assumption) (by assumption) ?_)))
local macro_rules | `(tactic| walk_at "call builtin:list.index") => `(tactic| (k_dflt (first | refine' idx50 (by assumption) (by assumption) (by omega) (by omega) rfl ?_ ?_ | refine' idx51 (by assumption) (by assumption) (by omega) (by omega) rfl ?_ ?_); (first | (intro hj' h' tk' e' hx') | (intro hj'))))
local macro_rules | `(tactic| walk_at "exec Raise some none") => `(tactic| refine Raise_new rfl ?_)
local macro_rules | `(tactic| walk_at "binaryOp Mod int int") => `(tactic| refine modP (by decide) ?_)
local macro_rules | `(tactic| walk_at "subscriptTail") => `(tactic| (k_dflt (refine' itemP ?N ?hm ?h0 ?hhi ?hx ?_ ?hs; (case N => assumption); (case hm => (first | exact .head _ | exact .tail _ (.head _) | exact .tail _ (.tail _ (.head _)) | exact .tail _ (.tail _ (.tail _ (.head _))) | exact .tail _ (.tail _ (.tail _ (.tail _ (.head _)))) | exact .tail _ (.tail _ (.tail _ (.tail _ (.tail _ (.head _))))))); (case h0 => decide); (case hhi => decide); (case hx => assumption); (case hs => with_unfolding_all rfl))))
local macro_rules | `(tactic| walk_at "call ref") => `(tactic| ((with_reducible show wpAny _ _ (call (Value.ref 151) _) _ _ _); k_dflt (first | refine' use (made := []) (by assumption) (by assumption) (by assumption) (by assumption) ?pl rfl (by intro e; cases e) (by assumption) (by first | rfl | assumption) (fun x' k' => faults_spec x' _ _ k') ?_ | refine' use (made := [_]) (by assumption) (by assumption) (by assumption) (by assumption) ?pl rfl (by intro e; cases e) (by assumption) (by first | rfl | assumption) (fun x' k' => faults_spec x' _ _ k') ?_ | refine' use (made := [_, _]) (by assumption) (by assumption) (by assumption) (by assumption) ?pl rfl (by intro e; cases e) (by assumption) (by first | rfl | assumption) (fun x' k' => faults_spec x' _ _ k') ?_ | refine' use (made := [_, _, _]) (by assumption) (by assumption) (by assumption) (by assumption) ?pl rfl (by intro e; cases e) (by assumption) (by first | rfl | assumption) (fun x' k' => faults_spec x' _ _ k') ?_ | refine' use (made := [_, _, _, _]) (by assumption) (by assumption) (by assumption) (by assumption) ?pl rfl (by intro e; cases e) (by assumption) (by first | rfl | assumption) (fun x' k' => faults_spec x' _ _ k') ?_ | refine' use (made := [_, _, _, _, _]) (by assumption) (by assumption) (by assumption) (by assumption) ?pl rfl (by intro e; cases e) (by assumption) (by first | rfl | assumption) (fun x' k' => faults_spec x' _ _ k') ?_ | refine' use (made := [_, _, _, _, _, _]) (by assumption) (by assumption) (by assumption) (by assumption) ?pl rfl (by intro e; cases e) (by assumption) (by first | rfl | assumption) (fun x' k' => faults_spec x' _ _ k') ?_ | refine' use (made := [_, _, _, _, _, _, _]) (by assumption) (by assumption) (by assumption) (by assumption) ?pl rfl (by intro e; cases e) (by assumption) (by first | rfl | assumption) (fun x' k' => faults_spec x' _ _ k') ?_ | refine' use (made := [_, _, _, _, _, _, _, _]) (by assumption) (by assumption) (by assumption) (by assumption) ?pl rfl (by intro e; cases e) (by assumption) (by first | rfl | assumption) (fun x' k' => faults_spec x' _ _ k') ?_ | refine' use (made := [_, _, _, _, _, _, _, _, _]) (by assumption) (by assumption) (by assumption) (by assumption) ?pl rfl (by intro e; cases e) (by assumption) (by first | rfl | assumption) (fun x' k' => faults_spec x' _ _ k') ?_ | refine' use (made := [_, _, _, _, _, _, _, _, _, _]) (by assumption) (by assumption) (by assumption) (by assumption) ?pl rfl (by intro e; cases e) (by assumption) (by first | rfl | assumption) (fun x' k' => faults_spec x' _ _ k') ?_ | refine' use (made := [_, _, _, _, _, _, _, _, _, _, _]) (by assumption) (by assumption) (by assumption) (by assumption) ?pl rfl (by intro e; cases e) (by assumption) (by first | rfl | assumption) (fun x' k' => faults_spec x' _ _ k') ?_); (case pl => (repeat (first | exact Plain.nil | refine Plain.seq rfl ?_ | refine Plain.set (by assumption) ?_ | refine Plain.cell (by assumption) ?_))); (intro v' s' mu' M' F' N' hb' ho' P'); (try simp only [List.nil_append, List.cons_append] at N'); (obtain ⟨D', vs', e', g', ss', fr'⟩ := P'; subst e'; replace N' := put (by assumption) fr' N' g')))
local macro_rules | `(tactic| walk_at "execs cons") => `(tactic| ((with_reducible show wpAny _ _ (execs (Stmt.Assign [Expr.Name (Str.ofString "told") _] (Expr.Call (Expr.Name (Str.ofString "_law_told_both") _) _ _ _) _ :: _) _) _ _ _); refine Back.out ?_))
section
variable {w : World} {mg mb : Str → Option Value} {ob : Obj} {dp un n : Nat} {gd : Option (List Code)} {envs : List Env} {Q E : Value → Shared → Prop}
set_option maxHeartbeats 40000000 in
theorem segV {s₀ s : Shared} {L : Addr} {m : Str → Option Value} {mu : List (Addr × Obj)} {N nu na hy mo wn wi e wm : Int} {z : UInt64} {aP : Addr} {t0 t1 t2 t3 t4 t5 t6 t7 t8 t9 : Tok} {lP : List Value} {p5 : Int} {n' : Nat}
    (q : PreAt w mg mb ob dp un n' envs s₀ s L m mu N z nu na hy mo wn wi e wm aP t0 t1 t2 t3 t4 t5 t6 t7 t8 t9 lP p5)
    {name qual : Str} {params : Arguments} {body rest : List Stmt} {scope : Scope} {dV kV doc pm cdv ct oc : Value} {an od : Option Addr} {osl : Array (Option Value)}
    (ho : (hd.heap_39 w.params).lookup 158 = some ⟨oc, od, .func (fnOf name qual params body scope dV kV doc pm an cdv ct), osl⟩) (hr : rest = body.drop 9)
    (hQ : ∀ s', Aft w mg mb ob envs s₀ s' → Q (.bool true) s') :
    wpAny (model PRG w) ((aro dp un gd envs).deeper (envOf qual scope L 158 cdv)) (execs rest (envOf qual scope L 158 cdv)) (fun fl s' => Back (Q (match fl with | .ret v => v | _ => .none) s')) E s := by
  obtain ⟨x, F0, N0, M, hb0, ho0, hread, ⟨q5, h5⟩, hz, hN1, hN2, hnu, hna, hhd, hmo, hwi, hwm, hfix⟩ := q
  refine' lawEq ?hk ho ?_
  case hk => k_is
  rintro rfl rfl rfl rfl rfl
  clear ho
  subst hr
  have F' := fr_P hread F0
  clear F0 hread
  have X' := In.keep x.W.X x.hi fun b o e => e
  have T' := TopRead.keep x.W.T x.hi fun b o e => e
  have N' := N0
  clear N0
  simp only [List.cons_append, List.nil_append] at N'
  dsimp only [List.drop]
  try k_fold
  k_steps
  all_goals
    refine Back.mk ?_
    refine' segW ⟨x, ?nF, ?nN, ?nM, ?nb, ?nos, ?nr, ?sE, ?sW, ?sV, hz, hN1, hN2, ?hk0, ?hk1, hnu, hna, hhd, hmo, hwi, hwm, hfix⟩ ?nho ?nrest hQ
    case nF => assumption
    case nM => assumption
    case nr => exact ⟨rfl, rfl, rfl, rfl, rfl, rfl, rfl, rfl, rfl, rfl, rfl, rfl, rfl, rfl, rfl, rfl⟩
    case nN => exact drop6 (by assumption)
    case nb => assumption
    case nos => first | rfl | assumption
    case sE => assumption
    case sW => exact conv_S (by assumption) (decide_eq_decide.mpr (by omega)) rfl
    case sV => exact conv_S (by assumption) (decide_eq_decide.mpr (by omega)) rfl
    case hk0 => omega
    case hk1 => omega
    case nho => k_is
    case nrest => rfl
end
end Mine
namespace Mine
open PySem PySem.W PySem.Calls PySem.Spec PyProof.Rows
theorem drop2 {g h : Heap} {L : Addr} {a b : Addr × Obj} {mu : List (Addr × Obj)} (N : News g L h (a :: b :: mu)) : News g L h ([b] ++ mu) := Mine.News.sub N fun p hp => .tail _ hp
theorem w_num (N : Int) : (3 + (N - 1872000)) % 13 + 1 = (N + 3) % 13 + 1 := by omega
theorem w_nam (N : Int) : (19 + (N - 1872000)) % 20 = (N + 19) % 20 := by omega
theorem w_day (N : Int) : (263 + (N - 1872000)) % 365 % 20 = (N + 348) % 365 % 20 := by rw [show (263 + (N - 1872000)) % 365 = (N + 348) % 365 by omega]
theorem w_mon (N : Int) : (263 + (N - 1872000)) % 365 / 20 = (N + 348) % 365 / 20 := by rw [show (263 + (N - 1872000)) % 365 = (N + 348) % 365 by omega]
local macro_rules | `(tactic| walk_at "no such key") => `(tactic| skip)
local macro_rules | `(tactic| walk_at "eval Constant float") => `(tactic| (k_dflt (refine' constHI (by first | exact isH_half | assumption) ?_); intro z' hz'))
local macro_rules | `(tactic| walk_at "binaryOp Add float int") => `(tactic| (k_dflt (refine' addHI (by assumption) (by omega) (by omega) ?_); intro z' hz'))
local macro_rules | `(tactic| walk_at "binaryOp Add int float") => `(tactic| (k_dflt (refine' addIH (by assumption) (by omega) (by omega) ?_); intro z' hz'))
local macro_rules | `(tactic| walk_at "binaryOp Sub float float") => `(tactic| (k_dflt (refine' subHH (by assumption) (by assumption) (by omega) ?_); intro z' hz'))
local macro_rules | `(tactic| walk_at "binaryOp Mod float int") => `(tactic| (k_dflt (refine' modHI' (by assumption) (by omega) (by omega) (by omega) (by omega) ?_); intro z' hz'))
local macro_rules | `(tactic| walk_at "binaryOp Div float int") => `(tactic| (k_dflt (refine' divHI20' (by assumption) (by omega) (by omega) (by omega) ?_); intro z' hz'))
local macro_rules | `(tactic| walk_at "call builtin:math.trunc") => `(tactic| (k_dflt first | (refine' truncH (by assumption) (by omega) rfl ?_) | (refine' truncQ (by assumption) rfl ?_)))
local macro_rules | `(tactic| walk_at "call type:int") => `(tactic| ((with_reducible show wpAny _ _ (call _ [Value.float _ _]) _ _ _); k_dflt (refine' intH (by assumption) (by omega) ?_)))
local macro_rules | `(tactic| walk_at "compareOp Eq float float") => `(tactic| (k_dflt (refine' eqHH (by assumption) (by assumption) ?_)))
local macro_rules | `(tactic| walk_at "compareOp NotEq float float") => `(tactic| (k_dflt (refine' neHH (by assumption) (by assumption) ?_)))
local macro_rules | `(tactic| walk_at "compareOp Lt float float") => `(tactic| (k_dflt (refine' ltHH (by assumption) (by assumption) ?_)))
local macro_rules | `(tactic| walk_at "subscriptTail") => `(tactic| ((with_reducible show wpAny _ _ (subscriptTail _ _ (Value.ref _) (Value.int _ _)) _ _ _); k_dflt (first
  | refine' item50 (by assumption) (by assumption) (by omega) (by omega) ?_ (by with_unfolding_all rfl)
  | refine' item51 (by assumption) (by assumption) (by omega) (by omega) ?_ (by with_unfolding_all rfl)
  | refine' item101 (by assumption) (by assumption) (by omega) (by omega) ?_ (by with_unfolding_all rfl)
  | refine' item102 (by assumption) (by assumption) (by omega) (by omega) ?_ (by with_unfolding_all rfl)); intro t'))
local macro_rules | `(tactic| walk_at "getMethod ref") => `(tactic| ((with_reducible show wpAny _ _ (getMethod (Value.ref _) (Str.ofString "index") _) _ _ _); k_dflt (first | refine' getIndex50 (by assumption) (by assumption) ?_ | refine' getIndex51 (by assumption) (by assumption) ?_)))
local macro_rules | `(tactic| walk_at "call builtin:list.index") => `(tactic| (k_dflt (first | refine' idx50 (by assumption) (by assumption) (by omega) (by omega) rfl ?_ ?_ | refine' idx51 (by assumption) (by assumption) (by omega) (by omega) rfl ?_ ?_); (first | (intro hj' h' tk' e' hx') | (intro hj'))))
local macro_rules | `(tactic| walk_at "exec Raise some none") => `(tactic| refine Raise_new rfl ?_)
local macro_rules | `(tactic| walk_at "binaryOp Mod int int") => `(tactic| refine modP (by decide) ?_)
local macro_rules | `(tactic| walk_at "subscriptTail") => `(tactic| (k_dflt (refine' itemP ?N ?hm ?h0 ?hhi ?hx ?_ ?hs; (case N => assumption); (case hm => (first | exact .head _ | exact .tail _ (.head _) | exact .tail _ (.tail _ (.head _)) | exact .tail _ (.tail _ (.tail _ (.head _))) | exact .tail _ (.tail _ (.tail _ (.tail _ (.head _)))) | exact .tail _ (.tail _ (.tail _ (.tail _ (.tail _ (.head _))))))); (case h0 => decide); (case hhi => decide); (case hx => exact rfl); (case hs => with_unfolding_all rfl))))
local macro_rules | `(tactic| walk_at "call ref") => `(tactic| ((with_reducible show wpAny _ _ (call (Value.ref 109) _) _ _ _); k_dflt (first | refine' use (made := []) (by assumption) (by assumption) (by assumption) (by assumption) ?pl rfl (by intro e; cases e) (by assumption) (by first | rfl | assumption) (fun x' k' => wheels_new x' _ _ k') ?_ | refine' use (made := [_]) (by assumption) (by assumption) (by assumption) (by assumption) ?pl rfl (by intro e; cases e) (by assumption) (by first | rfl | assumption) (fun x' k' => wheels_new x' _ _ k') ?_ | refine' use (made := [_, _]) (by assumption) (by assumption) (by assumption) (by assumption) ?pl rfl (by intro e; cases e) (by assumption) (by first | rfl | assumption) (fun x' k' => wheels_new x' _ _ k') ?_ | refine' use (made := [_, _, _]) (by assumption) (by assumption) (by assumption) (by assumption) ?pl rfl (by intro e; cases e) (by assumption) (by first | rfl | assumption) (fun x' k' => wheels_new x' _ _ k') ?_ | refine' use (made := [_, _, _, _]) (by assumption) (by assumption) (by assumption) (by assumption) ?pl rfl (by intro e; cases e) (by assumption) (by first | rfl | assumption) (fun x' k' => wheels_new x' _ _ k') ?_ | refine' use (made := [_, _, _, _, _]) (by assumption) (by assumption) (by assumption) (by assumption) ?pl rfl (by intro e; cases e) (by assumption) (by first | rfl | assumption) (fun x' k' => wheels_new x' _ _ k') ?_ | refine' use (made := [_, _, _, _, _, _]) (by assumption) (by assumption) (by assumption) (by assumption) ?pl rfl (by intro e; cases e) (by assumption) (by first | rfl | assumption) (fun x' k' => wheels_new x' _ _ k') ?_ | refine' use (made := [_, _, _, _, _, _, _]) (by assumption) (by assumption) (by assumption) (by assumption) ?pl rfl (by intro e; cases e) (by assumption) (by first | rfl | assumption) (fun x' k' => wheels_new x' _ _ k') ?_ | refine' use (made := [_, _, _, _, _, _, _, _]) (by assumption) (by assumption) (by assumption) (by assumption) ?pl rfl (by intro e; cases e) (by assumption) (by first | rfl | assumption) (fun x' k' => wheels_new x' _ _ k') ?_ | refine' use (made := [_, _, _, _, _, _, _, _, _]) (by assumption) (by assumption) (by assumption) (by assumption) ?pl rfl (by intro e; cases e) (by assumption) (by first | rfl | assumption) (fun x' k' => wheels_new x' _ _ k') ?_ | refine' use (made := [_, _, _, _, _, _, _, _, _, _]) (by assumption) (by assumption) (by assumption) (by assumption) ?pl rfl (by intro e; cases e) (by assumption) (by first | rfl | assumption) (fun x' k' => wheels_new x' _ _ k') ?_ | refine' use (made := [_, _, _, _, _, _, _, _, _, _, _]) (by assumption) (by assumption) (by assumption) (by assumption) ?pl rfl (by intro e; cases e) (by assumption) (by first | rfl | assumption) (fun x' k' => wheels_new x' _ _ k') ?_); (case pl => (repeat (first | exact Plain.nil | refine Plain.seq rfl ?_ | refine Plain.set (by assumption) ?_ | refine Plain.cell (by assumption) ?_))); (intro v' s' mu' M' F' N' hb' ho' P'); (try simp only [List.nil_append, List.cons_append] at N'); (obtain ⟨D', t1', t2', t3', t4', e', g', fr'⟩ := P'; subst e'; have it9' := tup_of g'; replace N' := put (by assumption) fr' N' g')))
local macro_rules | `(tactic| walk_at "execs cons") => `(tactic| ((with_reducible show wpAny _ _ (execs (Stmt.Assign [Expr.Name (Str.ofString "k") _] _ _ :: _) _) _ _ _); refine Back.out ?_))
section
variable {w : World} {mg mb : Str → Option Value} {ob : Obj} {dp un n : Nat} {gd : Option (List Code)} {envs : List Env} {Q E : Value → Shared → Prop}
set_option maxHeartbeats 40000000 in
theorem segU {s₀ s : Shared} {L : Addr} {m : Str → Option Value} {mu : List (Addr × Obj)} {aP : Addr} {p0 p1 p2 p3 p4 p5 : Int} {q0 q1 q2 q3 q4 q5 : Tok} {lR : List Value} {n' : Nat}
    (x : Sit w mg mb ob dp un envs (n' + 5) s₀) (F0 : Fr (solid (fsOf envs) s₀.heap) L s.heap m) (N0 : News (solid (fsOf envs) s₀.heap) L s.heap ([(aP, W.listOf (Value.int p0 q0 :: .int p1 q1 :: .int p2 q2 :: .int p3 q3 :: .int p4 q4 :: .int p5 q5 :: lR).toArray 0)] ++ mu))
    (M : Mu s₀.heap (fsOf envs) mu) (hb0 : AllBare s.gens) (ho0 : s.os = s₀.os) (hread : m "parts" = some (.ref aP))
    {name qual : Str} {params : Arguments} {body rest : List Stmt} {scope : Scope} {dV kV doc pm cdv ct oc : Value} {an od : Option Addr} {osl : Array (Option Value)}
    (ho : (hd.heap_39 w.params).lookup 158 = some ⟨oc, od, .func (fnOf name qual params body scope dV kV doc pm an cdv ct), osl⟩) (hr : rest = body.drop 1)
    (hQ : ∀ s', Aft w mg mb ob envs s₀ s' → Q (.bool true) s') :
    wpAny (model PRG w) ((aro dp un gd envs).deeper (envOf qual scope L 158 cdv)) (execs rest (envOf qual scope L 158 cdv)) (fun fl s' => Back (Q (match fl with | .ret v => v | _ => .none) s')) E s := by
  refine' lawEq ?hk ho ?_
  case hk => k_is
  rintro rfl rfl rfl rfl rfl
  clear ho
  subst hr
  have hE := isH_epoch
  have F' := fr_upd hread F0
  clear F0 hread
  have X' := In.keep x.W.X x.hi fun b o e => e
  have T' := TopRead.keep x.W.T x.hi fun b o e => e
  have N' := N0
  clear N0
  simp only [List.cons_append, List.nil_append] at N'
  dsimp only [List.drop]
  k_steps
  all_goals
    refine Back.mk ?_
    refine' segV ⟨x, ?nF, ?nN, ?nM, ?nb, ?nos, ?nr, ?h5, ?hz, ?hN1, ?hN2, ?hnu, ?hna, ?hhd, ?hmo, ?hwi, ?hwm, ?hfix⟩ ?nho ?nrest hQ
    case nF => assumption
    case nM => assumption
    case nr => exact ⟨rfl, rfl, rfl, rfl, rfl, rfl, rfl, rfl, rfl, rfl, rfl⟩
    case nN => exact drop2 (by assumption)
    case nb => assumption
    case nos => first | rfl | assumption
    case h5 => exact ⟨q5, rfl⟩
    case hz => exact isH_as (by assumption) (by omega)
    case hN1 => omega
    case hN2 => omega
    case hnu => exact w_num _
    case hna => exact w_nam _
    case hhd => exact w_day _
    case hmo => exact w_mon _
    case hwi => omega
    case hwm => omega
    case hfix => omega
    case nho => k_is
    case nrest => rfl
end
end Mine
namespace Mine
open PySem PySem.W PySem.Calls PySem.Spec PyProof.Rows
local macro_rules | `(tactic| walk_at "eval Constant float") => `(tactic| (k_dflt (refine' constHI (by first | exact isH_half | assumption) ?_); intro z' hz'))
local macro_rules | `(tactic| walk_at "binaryOp Add float int") => `(tactic| (k_dflt (refine' addHI (by assumption) (by omega) (by omega) ?_); intro z' hz'))
local macro_rules | `(tactic| walk_at "binaryOp Add int float") => `(tactic| (k_dflt (refine' addIH (by assumption) (by omega) (by omega) ?_); intro z' hz'))
local macro_rules | `(tactic| walk_at "binaryOp Sub float float") => `(tactic| (k_dflt (refine' subHH (by assumption) (by assumption) (by omega) ?_); intro z' hz'))
local macro_rules | `(tactic| walk_at "binaryOp Mod float int") => `(tactic| (k_dflt (refine' modHI' (by assumption) (by omega) (by omega) (by omega) (by omega) ?_); intro z' hz'))
local macro_rules | `(tactic| walk_at "binaryOp Div float int") => `(tactic| (k_dflt (refine' divHI20' (by assumption) (by omega) (by omega) (by omega) ?_); intro z' hz'))
local macro_rules | `(tactic| walk_at "call builtin:math.trunc") => `(tactic| (k_dflt first | (refine' truncH (by assumption) (by omega) rfl ?_) | (refine' truncQ (by assumption) rfl ?_)))
local macro_rules | `(tactic| walk_at "call type:int") => `(tactic| ((with_reducible show wpAny _ _ (call _ [Value.float _ _]) _ _ _); k_dflt (refine' intH (by assumption) (by omega) ?_)))
local macro_rules | `(tactic| walk_at "compareOp Eq float float") => `(tactic| (k_dflt (refine' eqHH (by assumption) (by assumption) ?_)))
local macro_rules | `(tactic| walk_at "compareOp NotEq float float") => `(tactic| (k_dflt (refine' neHH (by assumption) (by assumption) ?_)))
local macro_rules | `(tactic| walk_at "compareOp Lt float float") => `(tactic| (k_dflt (refine' ltHH (by assumption) (by assumption) ?_)))
local macro_rules | `(tactic| walk_at "subscriptTail") => `(tactic| ((with_reducible show wpAny _ _ (subscriptTail _ _ (Value.ref _) (Value.int _ _)) _ _ _); k_dflt (first
  | refine' item50 (by assumption) (by assumption) (by omega) (by omega) ?_ (by with_unfolding_all rfl)
  | refine' item51 (by assumption) (by assumption) (by omega) (by omega) ?_ (by with_unfolding_all rfl)
  | refine' item101 (by assumption) (by assumption) (by omega) (by omega) ?_ (by with_unfolding_all rfl)
  | refine' item102 (by assumption) (by assumption) (by omega) (by omega) ?_ (by with_unfolding_all rfl)); intro t'))
local macro_rules | `(tactic| walk_at "getMethod ref") => `(tactic| ((with_reducible show wpAny _ _ (getMethod (Value.ref _) (Str.ofString "index") _) _ _ _); k_dflt (first | refine' getIndex50 (by assumption) (by assumption) ?_ | refine' getIndex51 (by assumption) (by assumption) ?_)))
local macro_rules | `(tactic| walk_at "call builtin:list.index") => `(tactic| (k_dflt (first | refine' idx50 (by assumption) (by assumption) (by omega) (by omega) rfl ?_ ?_ | refine' idx51 (by assumption) (by assumption) (by omega) (by omega) rfl ?_ ?_); (first | (intro hj' h' tk' e' hx') | (intro hj'))))
local macro_rules | `(tactic| walk_at "exec Raise some none") => `(tactic| refine Raise_new rfl ?_)
local macro_rules | `(tactic| walk_at "binaryOp Mod int int") => `(tactic| refine modP (by decide) ?_)
local macro_rules | `(tactic| walk_at "execs cons") => `(tactic| ((with_reducible show wpAny _ _ (execs (Stmt.Assign [Expr.Name (Str.ofString "n") _] _ _ :: _) _) _ _ _); refine Back.out ?_))
theorem drop3 {g h : Heap} {L : Addr} {a b c : Addr × Obj} {mu : List (Addr × Obj)} (N : News g L h (a :: b :: c :: mu)) : News g L h ([a] ++ mu) := Mine.News.sub N fun p hp => by
  rcases List.mem_cons.mp hp with h | h
  · exact h ▸ .head _
  · exact .tail _ (.tail _ (.tail _ h))
section
variable {w : World} {mg mb : Str → Option Value} {ob : Obj} {dp un n : Nat} {gd : Option (List Code)} {envs : List Env} {s : Shared} {Q E : Value → Shared → Prop}
set_option maxHeartbeats 40000000 in
theorem law_spec (x : Sit w mg mb ob dp un envs (n + 5) s) (l : Addr) (vs : List Value) (ns : List Int) (hl : (solid (fsOf envs) s.heap).IsList l vs.toArray) (hi : IntsAre vs ns) (hlen : ns.length ≤ 63)
    (hQ : ∀ s', Aft w mg mb ob envs s s' → Q (.bool true) s') :
    wpAny (model PRG w) (aro dp un gd envs) (call (.ref 158) [.ref l]) Q E s := by
  have hE := isH_epoch
  have hb0 := x.bare
  refine wpAny_call ?_
  k_dflt (refine' enter x ?k6 ?k7 ?k9 ?kB ?_ ?c2 ?c3 ?c4 ?c5; (case k6 => k_is); (case k7 => k_is); (case k9 => exact BindsTo.of_eq rfl); (case kB => exact locs rfl); (case c2 => exact rfl); (case c3 => exact rfl); (case c4 => exact rfl); (case c5 => decide))
  intro L' h₁ mu F' N' M X' T'
  try dsimp only
  k_fold
  k_steps
  obtain ⟨p0, p1, p2, p3, p4, p5, q0, q1, q2, q3, q4, q5, rest, ep⟩ := parts_of (by assumption)
  subst ep
  refine Back.mk ?_
  refine' segU x ?nF ?nN ?nM ?nb ?nos ?nr ?nho ?nrest hQ
  case nF => assumption
  case nM => assumption
  case nr => exact rfl
  case nN => exact drop3 (by assumption)
  case nb => assumption
  case nos => first | rfl | assumption
  case nho => k_is
  case nrest => rfl
end
end Mine
namespace Mine
open PySem PySem.W PySem.Calls PySem.Spec PyProof.Rows
theorem tab_of {w : World} {mg mb : Str → Option Value} {mean : ExcName → Option Value} {h : Heap} {name : Str} {f c P : Addr} {oc occ : Value} {od ocd : Option Addr} {osl ocsl : Array (Option Value)} {fd : FuncData} {vs : Array Value}
    (KX : (hd.heap_39 w.params).In h) (T : Top VW LOO mean mg mb h) (hf : ((recsOf VW).find? (fun e => e.name == name)).isSome = true)
    (hm : nsIn (hd.heap_39 w.params) mainGlobals name = some (some (.ref f))) (ho : (hd.heap_39 w.params).lookup f = some ⟨oc, od, .func fd, osl⟩) (hcd : fd.code = .ref c)
    (hc : (hd.heap_39 w.params).lookup c = some ⟨occ, ocd, .fields vs, ocsl⟩) (hP : vs[11]? = some (.ref P)) : h.IsCode c P #[] ∧ h.TableAt c P #[] := by
  obtain ⟨d, hd'⟩ := Option.isSome_iff_exists.mp hf
  obtain ⟨c', P', e, BB⟩ := based_of_top T hd' (mg_of KX T.g hm) (KX _ _ ho) rfl
  have ec : c' = c := Value.ref.inj (e.symm.trans hcd)
  subst ec
  obtain ⟨⟨o, vs', q1, q2, q3, q4⟩, _⟩ := id BB.tab
  have e2 := KX _ _ hc
  rw [q1] at e2
  have e3 : o = ⟨occ, ocd, .fields vs, ocsl⟩ := Option.some.inj e2
  rw [e3] at q3
  have e4 : vs = vs' := Data.fields.inj q3
  rw [← e4, hP] at q4
  have e5 : P = P' := Value.ref.inj (Option.some.inj q4)
  subst e5
  exact ⟨BB.code, BB.tab⟩
theorem wd_top {w : World} {mg mb : Str → Option Value} {mean : ExcName → Option Value} {h : Heap} (KX : (hd.heap_39 w.params).In h) (T : Top VW LOO mean mg mb h) : ∃ ob, Wd w mg mb ob h ∧ h.TableAt 78 74 #[] ∧ h.TableAt 99 95 #[] := by
  obtain ⟨bm, ob, BM⟩ := bmod_of_top T
  have e1 : nsIn (hd.heap_39 w.params) mainGlobals "__builtins__" = some (some (.ref 4)) := rfl
  have e2 := (BM.name.symm.trans (mg_of KX T.g e1))
  have e3 : bm = 4 := Value.ref.inj (Option.some.inj e2)
  subst e3
  have t1 : h.IsCode 78 74 #[] ∧ h.TableAt 78 74 #[] := tab_of (name := "_tzolkin_count") KX T rfl rfl rfl rfl rfl rfl
  have t2 : h.IsCode 99 95 #[] ∧ h.TableAt 99 95 #[] := tab_of (name := "next_tzolkin_haab") KX T rfl rfl rfl rfl rfl rfl
  exact ⟨ob, ⟨KX, topRead_of T, BM, ⟨_, t1⟩, ⟨_, t2⟩⟩, t1.2, t2.2⟩
theorem old_of {w : World} {mg mb : Str → Option Value} {ob : Obj} {h h' : Heap} (t1 : h.TableAt 78 74 #[]) (t2 : h.TableAt 99 95 #[]) (g : Grow [] h h') (W : Wd w mg mb ob h') : OldK h h' := by
  obtain ⟨p1, f1, _⟩ := W.tab1
  obtain ⟨p2, f2, _⟩ := W.tab2
  refine ⟨fun b o e => ?_, fun b o e => ?_⟩
  · by_cases h1 : b = 74
    · subst h1
      have : o = tabO #[] := Option.some.inj (e.symm.trans t1.2)
      subst this
      exact .inr (.inl ⟨t1.isCodeTable, rfl, #[], p1, rfl, by simpa using f1⟩)
    · by_cases h2 : b = 95
      · subst h2
        have : o = tabO #[] := Option.some.inj (e.symm.trans t2.2)
        subst this
        exact .inr (.inl ⟨t2.isCodeTable, rfl, #[], p2, rfl, by simpa using f2⟩)
      · exact .inl (g.keep b o (solid_get.mpr ⟨e, by simp [hid, h1, h2]⟩))
  · by_cases h1 : b = 74
    · subst h1; exact ⟨_, f1⟩
    · by_cases h2 : b = 95
      · subst h2; exact ⟨_, f2⟩
      · exact ⟨o, g.keep b o (solid_get.mpr ⟨e, by simp [hid, h1, h2]⟩)⟩
theorem solid_list {h : Heap} {l : Addr} {items : Array Value} (t1 : h.TableAt 78 74 #[]) (t2 : h.TableAt 99 95 #[]) (hl : h.IsList l items) : (solid (fsOf []) h).IsList l items := by
  obtain ⟨o, e, hc, n, hd⟩ := hl
  refine ⟨o, solid_get.mpr ⟨e, fun hm => ?_⟩, hc, n, hd⟩
  rcases List.mem_cons.mp hm with rfl | hm
  · rw [t1.2] at e; cases e; cases hd
  · rcases List.mem_cons.mp hm with rfl | hm
    · rw [t2.2] at e; cases e; cases hd
    · cases hm
theorem sit_top {w : World} {mg mb : Str → Option Value} {ob : Obj} {s : Shared} (W : Wd w mg mb ob s.heap) (hg : s.gens = #[]) : Sit w mg mb ob (1 + claimMargin) 4 [] (0 + 5) s :=
  ⟨W, (fun _ h => nomatch h), (fun _ h => nomatch h), AllBare.of_eq hg, (by decide +kernel), (by decide +kernel)⟩
end Mine
open PySem PySem.W PySem.Calls PySem.Spec PyProof.Rows
set_option maxHeartbeats 8000000 in
theorem PySem.Challenge.cw_ad5011_01_holds : PySem.Challenge.rw_ad5011_01.Holds := by
  refine Mine.hd ?_
  intro w s₀ s₁ mg mb G Y fa o pm cd doc dV kV ho hd' hcd hD hmg hg args vals as hpre hlay hrd hwl hlo
  have KX := kIn_of Y
  refine Ground.open G ?_
  intro T B D TE TW
  wrow_args hpre hlay hrd hwl hlo
  clear ho hd' hcd hD
  have e1 : nsIn (Mine.hd.heap_39 w.params) mainGlobals "law" = some (some (.ref 158)) := rfl
  have e2 := hmg.symm.trans (mg_of KX T.g e1)
  have e3 : fa = 158 := Value.ref.inj (Option.some.inj e2)
  subst e3
  obtain ⟨ob, W, t1, t2⟩ := Mine.wd_top KX T
  refine Mine.law_spec (gd := some []) (n := 0) (Mine.sit_top W hg) _ _ _ (Mine.solid_list t1 t2 (by assumption)) (by assumption) (by omega) fun s' a => ?_
  refine ⟨.inl ⟨.bool true, .bool true, [], rfl, fun _ => rfl, .bool true, ?post, fun _ => ⟨List.nodup_nil, fun _ h => nomatch h⟩⟩, Mine.old_of t1 t2 a.grow a.W, a.os, a.bare⟩
  case post => first | with_unfolding_all rfl | kernel_rfl | decide +kernel
