import PyProof.Rows.All
import Wide.All
import OpenK.AllK
import Wide.FinOn
import KE.KSuper
import KE.KStopIter
import PyProof.DictIter
import PyProof.Rows.SetFrom
import PyProof.DictWalks
import OpenK.KNot
import PyProof.AttrMissHeap
import PyProof.SliceMore
import PyProof.Rows.SortStr
import PySem.Challenge.RW_bf0059_01
set_option Elab.async false
section
open PySem PySem.W PyProof.Rows
set_option maxRecDepth 100000
set_option maxHeartbeats 0
namespace Mine
open_top hd for PySem.Challenge.rw_bf0059_01
end Mine
end
section
open PySem PySem.W PySem.W.X PyProof.Rows PySem.Calls
set_option maxRecDepth 100000
set_option maxHeartbeats 0
namespace Mine
abbrev P : Program := PySem.Challenge.pw_bf0059_01
noncomputable abbrev KK (w : World) : Frag := hd.heap_39 w.params
structure Rm (n : Nat) (A : Around) : Prop where
  depth : A.depth ≤ 310 + n
  units : A.units ≤ 100 + 10 * n
section
variable {n : Nat} {A : Around}
theorem Rm.mono {n' : Nat} (x : Rm n A) (h : n ≤ n') : Rm n' A := ⟨by have := x.depth; omega, by have := x.units; omega⟩
theorem frames_le (c : Code) : c.frames ≤ 3 := by
  unfold Code.frames
  split <;> first | omega | (split <;> omega)
theorem cUnits_le (c : Code) : c.cUnits ≤ 10 := by
  have := frames_le c
  unfold Code.cUnits
  split <;> omega
theorem weight_le {c : Code} (h : c.isCaller = false) : c.weight ≤ 5 := by
  have := frames_le c
  unfold Code.weight
  rw [h]
  simp only [Bool.false_eq_true, if_false]
  split <;> split <;> omega
theorem Rm.under (x : Rm n A) {c : Code} (h : c.isCaller = false) : Rm (n + 5) (A.under c) :=
  ⟨by have := x.depth; have := weight_le h; show A.depth + c.weight ≤ _; omega, by have := x.units; have := cUnits_le c; show A.units + c.cUnits ≤ _; omega⟩
theorem Rm.in1 (x : Rm n A) : Rm (n + 1) A.in1 := ⟨by have := x.depth; show A.depth ≤ _; omega, by have := x.units; show A.units + 1 ≤ _; omega⟩
theorem Rm.mark (x : Rm n A) (e : Option Value) : Rm n (A.mark e) := ⟨x.depth, x.units⟩
theorem Rm.deeper (x : Rm n A) (env : Env) : Rm (n + 1) (A.deeper env) := ⟨by have := x.depth; show A.depth + 1 ≤ _; omega, by have := x.units; show A.units + 3 ≤ _; omega⟩
theorem Rm.dlt (x : Rm n A) (h : n ≤ 600 := by decide) : A.depth < recursionLimit := by have := x.depth; show A.depth < 1000; omega
theorem Rm.ult (x : Rm n A) (h : n ≤ 600 := by decide) : A.units < cLine := by have := x.units; show A.units < 9900; omega
theorem Rm.ult64 (x : Rm n A) (h : n ≤ 600 := by decide) : A.units + 64 < cLine := by have := x.units; show A.units + 64 < 9900; omega
end
def tabs : List Addr := [481, 259]
structure Ext (mod : List Addr) (h h' : Heap) : Prop where
  keep : ∀ b o, h.get? b = some o → b ∉ mod → h'.get? b = some o ∨ (b ∈ tabs ∧ ∃ ps more, o = tableObj ps ∧ h'.get? b = some (tableObj (ps ++ more)) ∧ (TriplesOk ps.toList → TriplesOk (ps ++ more).toList))
  there : ∀ b o, h.get? b = some o → ∃ o', h'.get? b = some o'
theorem Ext.refl (h : Heap) : Ext [] h h := ⟨fun _ _ e _ => .inl e, fun _ o e => ⟨o, e⟩⟩
theorem Ext.get {mod : List Addr} {h h' : Heap} (x : Ext mod h h') {b : Addr} {o : Obj} (e : h.get? b = some o) (hc : hasCls o = true) (hm : b ∉ mod) : h'.get? b = some o := by
  rcases x.keep b o e hm with q | ⟨_, ps, more, rfl, _⟩
  · exact q
  · cases hc
theorem Ext.get' {mod : List Addr} {h h' : Heap} (x : Ext mod h h') {b : Addr} {o : Obj} (e : h.get? b = some o) (ht : b ∉ tabs) (hm : b ∉ mod) : h'.get? b = some o := by
  rcases x.keep b o e hm with q | ⟨t, _⟩
  · exact q
  · exact absurd t ht
theorem Ext.mono {mod mod' : List Addr} {h h' : Heap} (x : Ext mod h h') (hs : ∀ a ∈ mod, a ∈ mod') : Ext mod' h h' := ⟨fun b o e n => x.keep b o e fun m => n (hs b m), x.there⟩
theorem Ext.trans {mod mod' : List Addr} {h h' h'' : Heap} (x : Ext mod h h') (y : Ext mod' h' h'') (z : ∀ a ∈ mod', a ∈ mod ∨ h.get? a = none) : Ext mod h h'' := by
  refine ⟨fun b o e n => ?_, fun b o e => let ⟨o', e'⟩ := x.there b o e; y.there b o' e'⟩
  have n' : b ∉ mod' := fun q => (z b q).elim n fun q => by rw [e] at q; cases q
  rcases x.keep b o e n with q | ⟨ht, ps, more, rfl, q, kq⟩
  · exact y.keep b o q n'
  · rcases y.keep b _ q n' with r | ⟨_, ps', more', e', r, kr⟩
    · exact .inr ⟨ht, ps, more, rfl, r, kq⟩
    · have : ps' = ps ++ more := by
        have z : (tableObj (ps ++ more)).data = (tableObj ps').data := congrArg Obj.data e'
        injection z with z; exact z.symm
      subst this
      exact .inr ⟨ht, ps, more ++ more', rfl, by rw [r, Array.append_assoc], fun z => by rw [← Array.append_assoc]; exact kr (kq z)⟩
theorem Ext.of_keeps {h h' : Heap} (k : ∀ b o, h.get? b = some o → h'.get? b = some o) : Ext [] h h' := ⟨fun b o e _ => .inl (k b o e), fun b o e => ⟨o, k b o e⟩⟩
theorem Ext.of_extBut {h h' : Heap} (k : Heap.ExtBut h.objs.size h h') : Ext [] h h' := .of_keeps fun b o e => k b o (Nat.ne_of_lt (Heap.lt_size e)) e
theorem Ext.push (h : Heap) (o : Obj) : Ext [] h (h.push o) := .of_keeps fun _ _ e => Heap.get?_push_of_some _ e
theorem Ext.sameBut {h h' : Heap} {a : Addr} (hs : Heap.SameBut a h h') (ha : ∃ o, h'.get? a = some o) : Ext [a] h h' := by
  refine ⟨fun b o e n => .inl ((hs.2 b fun q => n (by rw [q]; exact .head _)).trans e), fun b o e => ?_⟩
  by_cases q : b = a
  · subst q; exact ha
  · exact ⟨o, (hs.2 b q).trans e⟩
theorem Ns_ext {mod : List Addr} {h h' : Heap} {L : Addr} {m : Str → Option Value} (x : Ext mod h h') (n : h.Ns L m) (hm : L ∉ mod) : h'.Ns L m := by
  obtain ⟨o, es, ep, e, hd, r⟩ := n
  rcases x.keep L o e hm with q | ⟨_, ps, more, rfl, _⟩
  · exact ⟨o, es, ep, q, hd, r⟩
  · cases hd
def Tab (h : Heap) (a : Addr) (line col : Int) : Prop := ∃ ps, h.get? a = some (tableObj ps) ∧ (ps = #[] ∨ ∃ c more, ps = #[.int line 0, .int col 0, c] ++ more)
structure TopH (w : World) (h : Heap) : Prop where
  K : (KK w).In h
  g : ∃ mg, h.Ns mainGlobals mg
  b : ∃ mb, h.Ns builtinsNs mb ∧ ∀ x : Str, x ≠ "__name__" → mb x = bootBuiltins x
  lim : h.NoLimit
  tab : ∀ a ∈ tabs, ∃ ps, h.get? a = some (tableObj ps) ∧ TriplesOk ps.toList
  bi : ∃ o, h.get? 4 = some o ∧ o.cls = .type "module" ∧ o.dict = some builtinsNs ∧ o.data = .plain
theorem keys_low (w : World) : ∀ a o, (KK w).lookup a = some o → a < 604 ∧ a ∉ tabs := by
  have key : ∀ p ∈ (KK w).map (·.1), p < 604 ∧ p ∉ tabs := by
    have e : ((KK w).map (·.1)).all (fun p => decide (p < 604) && !tabs.contains p) = true := by kernel_rfl
    intro p hp
    have := List.all_eq_true.mp e p hp
    simpa using this
  intro a o e
  have : (a, o) ∈ KK w := by
    generalize KK w = l at e
    induction l with
    | nil => cases e
    | cons x l ih =>
      obtain ⟨b, ob⟩ := x
      rw [List.lookup_cons] at e
      by_cases q : (a == b) = true
      · rw [q] at e; cases e
        have : a = b := by simpa using q
        subst this; exact .head _
      · simp only [q] at e
        exact .tail _ (ih (by simpa using e))
  exact key a (List.mem_map_of_mem (f := (·.1)) this)
theorem TopH.ext {w : World} {mod : List Addr} {h h' : Heap} (T : TopH w h) (x : Ext mod h h') (hm : ∀ a ∈ mod, 604 ≤ a) : TopH w h' where
  K := fun a o e => x.get' (T.K a o e) (keys_low w a o e).2 fun q => Nat.not_lt.mpr (hm a q) (keys_low w a o e).1
  g := let ⟨mg, n⟩ := T.g; ⟨mg, Ns_ext x n fun q => absurd (hm _ q) (by decide)⟩
  b := let ⟨mb, n, r⟩ := T.b; ⟨mb, Ns_ext x n fun q => absurd (hm _ q) (by decide), r⟩
  lim := let ⟨mc, n, r⟩ := T.lim; ⟨mc, Ns_ext x n fun q => absurd (hm _ q) (by decide), r⟩
  bi := let ⟨o, e, hc, r⟩ := T.bi; ⟨o, x.get e (by unfold hasCls; rw [hc]) (fun q => absurd (hm _ q) (by decide)), hc, r⟩
  tab := fun a ha => by
    obtain ⟨ps, e, k⟩ := T.tab a ha
    have la : a < 604 := by
      unfold tabs at ha
      rcases List.mem_cons.mp ha with rfl | ha
      · decide
      · rw [List.mem_singleton.mp ha]; decide
    rcases x.keep a _ e (fun q => Nat.not_lt.mpr (hm a q) la) with r | ⟨_, ps', more, e', r, kq⟩
    · exact ⟨ps, r, k⟩
    · have z : (tableObj ps).data = (tableObj ps').data := congrArg Obj.data e'
      injection z with z
      subst z
      exact ⟨_, r, kq k⟩
theorem TopH.low {w : World} {h : Heap} (T : TopH w h) : 604 ≤ h.objs.size := Heap.lt_size (T.K 603 _ (by rfl))
end Mine
end
section
open PySem PySem.W PySem.W.X PyProof.Rows PySem.Calls
set_option maxRecDepth 100000
set_option maxHeartbeats 0
namespace Mine
structure Me (mod : List Addr) (h₀ h : Heap) (L : Addr) (m : Str → Option Value) (news : List (Addr × Obj)) : Prop where
  ext : Ext mod h₀ h
  ns : h.Ns L m
  nw : ∀ p ∈ news, h.get? p.1 = some p.2
  nd : (news.map (·.1)).Nodup
  ne : ∀ p ∈ news, p.1 ≠ L
  off : ∀ p ∈ news, p.1 ∈ mod ∨ h₀.get? p.1 = none
  offL : L ∈ mod ∨ h₀.get? L = none
section
variable {mod : List Addr} {h₀ h h' : Heap} {L : Addr} {m m' : Str → Option Value} {news : List (Addr × Obj)}
theorem Me.at (D : Me mod h₀ h L m news) (i : Nat) {a : Addr} {o : Obj} (e : news[i]? = some (a, o)) : h.get? a = some o := D.nw _ (List.mem_of_getElem? e)
theorem Me.old (D : Me mod h₀ h L m news) {a : Addr} {o : Obj} (e : h₀.get? a = some o) (hc : hasCls o = true) (hm : a ∉ mod) : h.get? a = some o := D.ext.get e hc hm
theorem Me.top {w : World} (D : Me mod h₀ h L m news) (T : TopH w h₀) (hm : ∀ a ∈ mod, 604 ≤ a) : TopH w h := T.ext D.ext hm
theorem Me.start (n : h'.Ns h.objs.size m) (k : ∀ b o, h.get? b = some o → h'.get? b = some o) : Me [] h h' h.objs.size m [] :=
  ⟨.of_keeps k, n, fun _ q => (nomatch q), List.nodup_nil, fun _ q => (nomatch q), fun _ q => (nomatch q), .inr (by
    cases q : h.get? h.objs.size with
    | none => rfl
    | some o => exact absurd (Heap.lt_size q) (Nat.lt_irrefl _))⟩
theorem Me.take (D : Me mod h₀ h L m news) {a : Addr} {o : Obj} (e : h.get? a = some o) (e₀ : ∃ o₀, h₀.get? a = some o₀) (hn : a ∉ news.map (·.1)) (hL : a ≠ L) : Me (a :: mod) h₀ h L m ((a, o) :: news) :=
  ⟨D.ext.mono fun _ q => .tail _ q, D.ns, fun p hp => by
    rcases List.mem_cons.mp hp with rfl | hp
    · exact e
    · exact D.nw p hp, by rw [List.map_cons]; exact List.nodup_cons.mpr ⟨hn, D.nd⟩, fun p hp => by
    rcases List.mem_cons.mp hp with rfl | hp
    · exact hL
    · exact D.ne p hp, fun p hp => by
    rcases List.mem_cons.mp hp with rfl | hp
    · exact .inl (.head _)
    · exact (D.off p hp).imp (fun q => .tail _ q) id, D.offL.imp (fun q => .tail _ q) id⟩
theorem Me.fresh (D : Me mod h₀ h L m news) : h₀.get? h.objs.size = none := by
  cases q : h₀.get? h.objs.size with
  | none => rfl
  | some o' =>
    obtain ⟨o₂, e₂⟩ := D.ext.there _ _ q
    exact absurd (Heap.lt_size e₂) (Nat.lt_irrefl _)
theorem Me.push (D : Me mod h₀ h L m news) (o : Obj) (hf : o.isFreed = false := by rfl) : Me mod h₀ (h.push o) L m ((h.objs.size, o) :: news) := by
  refine ⟨D.ext.trans (.push h o) fun _ q => (nomatch q), D.ns.push o, fun p hp => ?_, ?_, fun p hp => ?_, fun p hp => ?_, D.offL⟩
  · rcases List.mem_cons.mp hp with rfl | hp
    · exact Heap.get?_push_size _ hf
    · exact Heap.get?_push_of_some _ (D.nw p hp)
  · rw [List.map_cons]
    refine List.nodup_cons.mpr ⟨fun q => ?_, D.nd⟩
    obtain ⟨p, hp, e⟩ := List.mem_map.mp q
    exact absurd (Heap.lt_size (D.nw p hp)) (by rw [e]; exact Nat.lt_irrefl _)
  · rcases List.mem_cons.mp hp with rfl | hp
    · exact Nat.ne_of_gt D.ns.lt
    · exact D.ne p hp
  · rcases List.mem_cons.mp hp with rfl | hp
    · exact .inr D.fresh
    · exact D.off p hp
theorem Me.store (D : Me mod h₀ h L m news) (n : h'.Ns L m') (hs : Heap.SameBut L h h') : Me mod h₀ h' L m' news :=
  ⟨D.ext.trans (.sameBut hs (let ⟨o, _, _, e, _⟩ := n; ⟨o, e⟩)) fun a q => by rw [List.mem_singleton.mp q]; exact D.offL,
   n, fun p hp => (hs.2 _ (D.ne p hp)).trans (D.nw p hp), D.nd, D.ne, D.off, D.offL⟩
theorem nd_set {l : List (Addr × Obj)} {i : Nat} {a : Addr} {o o' : Obj} (e : l[i]? = some (a, o)) : (l.set i (a, o')).map (·.1) = l.map (·.1) := by
  rw [List.map_set]
  exact set_same (by rw [List.getElem?_map, e]; rfl)
theorem Me.turn (D : Me mod h₀ h L m news) (i : Nat) {a : Addr} {o o' : Obj} (e : news[i]? = some (a, o)) {mod' : List Addr} (x : Ext mod' h h') (hm : ∀ b ∈ mod', b = a) (ho : h'.get? a = some o')
    (hc : ∀ p ∈ news, hasCls p.2 = true := by (repeat' (first | exact List.forall_mem_nil _ | (refine List.forall_mem_cons.mpr ⟨rfl, ?_⟩)))) : Me mod h₀ h' L m (news.set i (a, o')) := by
  have hmem := List.mem_of_getElem? e
  have em := nd_set (o' := o') e
  have nL : L ∉ mod' := fun q => D.ne _ hmem (hm _ q).symm
  refine ⟨D.ext.trans x fun b q => by rw [hm b q]; exact D.off _ hmem, Ns_ext x D.ns nL, fun p hp => ?_, by rw [em]; exact D.nd, fun p hp => ?_, fun p hp => ?_, D.offL⟩
  · by_cases z : p.1 = a
    · have hx : (a, o') ∈ news.set i (a, o') := List.mem_set (List.getElem?_eq_some_iff.mp e).1 _
      have : p = (a, o') := key_unique (by rw [em]; exact D.nd) hp hx z
      subst this
      exact ho
    · rcases List.mem_or_eq_of_mem_set hp with hp | rfl
      · exact x.get (D.nw p hp) (hc p hp) fun q => z (hm _ q)
      · exact absurd rfl z
  · rcases List.mem_or_eq_of_mem_set hp with hp | rfl
    · exact D.ne p hp
    · exact D.ne (a, o) hmem
  · rcases List.mem_or_eq_of_mem_set hp with hp | rfl
    · exact D.off p hp
    · exact D.off (a, o) hmem
theorem Me.update (D : Me mod h₀ h L m news) (i : Nat) {a : Addr} {o : Obj} {f : Obj → Obj} (e : news[i]? = some (a, o)) (hf : (f o).isFreed = false) : Me mod h₀ (h.update a f) L m (news.set i (a, f o)) := by
  have ho := D.at i e
  have hmem := List.mem_of_getElem? e
  have em := nd_set (o' := f o) e
  have hs : Heap.SameBut a h (h.update a f) := Heap.SameBut.update ..
  have ge : (h.update a f).get? a = some (f o) := by first | exact Heap.get?_update_self f ho hf | exact Heap.get?_update_self _ ho hf
  refine ⟨D.ext.trans (.sameBut hs ⟨_, ge⟩) fun b q => by rw [List.mem_singleton.mp q]; exact D.off _ hmem, D.ns.sameBut hs (fun q => D.ne _ hmem q.symm), fun p hp => ?_, by rw [em]; exact D.nd, fun p hp => ?_, fun p hp => ?_, D.offL⟩
  · by_cases z : p.1 = a
    · have hx : (a, f o) ∈ news.set i (a, f o) := List.mem_set (List.getElem?_eq_some_iff.mp e).1 _
      have : p = (a, f o) := key_unique (by rw [em]; exact D.nd) hp hx z
      subst this
      exact ge
    · rcases List.mem_or_eq_of_mem_set hp with hp | rfl
      · exact (hs.2 _ z).trans (D.nw p hp)
      · exact absurd rfl z
  · rcases List.mem_or_eq_of_mem_set hp with hp | rfl
    · exact D.ne p hp
    · exact D.ne (a, o) hmem
  · rcases List.mem_or_eq_of_mem_set hp with hp | rfl
    · exact D.off p hp
    · exact D.off (a, o) hmem
theorem Me.call (D : Me mod h₀ h L m news) (x : Ext [] h h') (hc : ∀ p ∈ news, hasCls p.2 = true := by (repeat' (first | exact List.forall_mem_nil _ | (refine List.forall_mem_cons.mpr ⟨rfl, ?_⟩)))) : Me mod h₀ h' L m news :=
  ⟨D.ext.trans x fun _ q => (nomatch q), Ns_ext x D.ns List.not_mem_nil, fun p hp => x.get (D.nw p hp) (hc p hp) List.not_mem_nil, D.nd, D.ne, D.off, D.offL⟩
theorem Me.drop (D : Me mod h₀ h L m news) (news' : List (Addr × Obj)) (s : List.Sublist news' news) : Me mod h₀ h L m news' :=
  ⟨D.ext, D.ns, fun p hp => D.nw p (s.subset hp), (s.map _).nodup D.nd, fun p hp => D.ne p (s.subset hp), fun p hp => D.off p (s.subset hp), D.offL⟩
theorem Me.setOld (D : Me mod h₀ h L m []) {a : Addr} {o₀ o' : Obj} (e₀ : h₀.get? a = some o₀) (z : L ≠ a) (hs : Heap.SameBut a h h') (e' : h'.get? a = some o') : Me (a :: mod) h₀ h' L m [(a, o')] :=
  ⟨(D.ext.mono fun _ q => .tail _ q).trans (.sameBut hs ⟨_, e'⟩) fun b q => by rw [List.mem_singleton.mp q]; exact .inl (.head _), D.ns.sameBut hs z, fun p hp => by rw [List.mem_singleton.mp hp]; exact e',
   by simp, fun p hp => by rw [List.mem_singleton.mp hp]; exact Ne.symm z, fun p hp => by rw [List.mem_singleton.mp hp]; exact .inl (.head _), D.offL.imp (fun q => .tail _ q) id⟩
theorem Me.ne_at (D : Me mod h₀ h L m news) (i j : Nat) {a b : Addr} {oa ob : Obj} (hi : news[i]? = some (a, oa)) (hj : news[j]? = some (b, ob)) (ij : i ≠ j) : a ≠ b := by
  rintro rfl
  obtain ⟨li, ei⟩ := List.getElem?_eq_some_iff.mp hi
  obtain ⟨lj, ej⟩ := List.getElem?_eq_some_iff.mp hj
  have := (List.getElem_inj (xs := news.map (·.1)) (i := i) (j := j) (h₀ := by rw [List.length_map]; exact li) (h₁ := by rw [List.length_map]; exact lj) D.nd).mp (by rw [List.getElem_map, List.getElem_map, ei, ej])
  exact ij this
end
section
variable {w : World} {M : Model} {A : Around} {E : Value → Shared → Prop} {s : Shared} {env : Env} {h₀ : Heap} {mod : List Addr} {L : Addr} {m : Str → Option Value} {news : List (Addr × Obj)} {x : Str} {pos : Pos} {v : Value} {Q : Value → Shared → Prop}
theorem name_top (T : TopH w s.heap) (hg : env.globals = mainGlobals) (e : nsIn (KK w) mainGlobals x = some (some v)) (h : Q v s) (hk : env.scope.kind = .function := by rfl) (hx : env.kindOf x = some .globalImplicit := by rfl) (hd : (x == ("__debug__" : Str)) = false := by decide) :
    wpAny M A (eval (.Name x pos) env) Q E s := by
  obtain ⟨mg, n⟩ := T.g
  exact Name_function_global hk hx (loadGlobal_global (by rw [hg]; exact n) (mg_of T.K n e) h) hd
theorem name_boot (T : TopH w s.heap) (hg : env.globals = mainGlobals) (hb : env.builtins = builtinsNs) (e : nsIn (KK w) mainGlobals x = some none) (hv : bootBuiltins x = some v) (hn : x ≠ "__name__") (h : Q v s) (hk : env.scope.kind = .function := by rfl) (hx : env.kindOf x = some .globalImplicit := by rfl) (hd : (x == ("__debug__" : Str)) = false := by decide) :
    wpAny M A (eval (.Name x pos) env) Q E s := by
  obtain ⟨mg, n⟩ := T.g
  obtain ⟨mb, nb, r⟩ := T.b
  exact Name_function_global hk hx (loadGlobal_builtin (by rw [hg]; exact n) (mg_none_of T.K n e) (by rw [hb]; exact nb) ((r x hn).trans hv) h) hd
theorem name_local (n : s.heap.Ns env.locals m) (hv : m x = some v) (h : Q v s) (hk : env.scope.kind = .function := by rfl) (hx : env.kindOf x = some .local := by rfl) (hd : (x == ("__debug__" : Str)) = false := by decide) :
    wpAny M A (eval (.Name x pos) env) Q E s := wpAny_Name (wpAny_loadName_local hk hx n hv h) hd
end
theorem enter {w : World} {A : Around} {s : Shared} {R : Result → Shared → Prop} {a : Addr} {o : Obj} {fd : FuncData} {body : List Stmt} {args : Args} (binds : List (Str × Value)) {n : Nat} (hA : Rm n A) (T : TopH w s.heap)
    (ho : (KK w).lookup a = some o) (hdata : o.data = .func fd) (hcd : codeIn (KK w) fd.code fd.qualname = true)
    (hbody : fd.body = .stmts body) (hbind : BindsTo s fd args binds)
    (hcell : ∀ x ∈ fd.scope.names, x.2 ≠ .cell) (hloc : ∀ x ∈ binds, fd.scope.names.lookup x.1 = some .local)
    (h : ∀ h₁, Me [] s.heap h₁ s.heap.objs.size (fun x => binds.reverse.lookup x) [] → Rm (n + 1) (A.deeper (callEnv fd s.heap.objs.size a)) → (A.deeper (callEnv fd s.heap.objs.size a)).handled = A.handled →
      wpAny (model P w) (A.deeper (callEnv fd s.heap.objs.size a)) (execs body (callEnv fd s.heap.objs.size a)) (fun f s' => R (.ok (.ret (match f with | .ret v => v | _ => .none))) s')
        (fun e s' => wpAny (model P w) (A.deeper (callEnv fd s.heap.objs.size a)) (leaving (callEnv fd s.heap.objs.size a) e) (fun _ s'' => R (.error e) s'') (fun e' s'' => R (.error e') s'') s')
        { s with heap := h₁, toks := s.toks + binds.length })
    (hn : n ≤ 600 := by decide) (hco : fd.scope.isCoroutine = false := by rfl) (hgen : fd.scope.isGenerator = false := by rfl) (hk : fd.scope.kind = .function := by rfl) : codeAny (model P w) A (.call (.ref a) args) R s :=
  codeAny_call_def (hA.dlt hn) (T.K _ _ ho) hdata T.lim (codeRec_of T.K hcd) hbody hbind hcell hloc (fun h₁ n k => h h₁ (.start n k) (hA.deeper _) rfl) hco hgen hk
end Mine
namespace Mine
section
variable {w : World} {A : Around} {E : Value → Shared → Prop} {s : Shared} {env : Env} {pos : Pos} {f : Value} {first : List Value} {Q : Value → Shared → Prop}
theorem keeps_fn {a : Addr} (hk : keepIn (KK w) (.ref a) = true) (h : Heap) (T : TopH w h) : ∃ k, (k = Keeper.frame ∨ k = Keeper.machine ∨ k = Keeper.boundFrame) ∧ Looks (model P w) h (keeperOf (.ref a)) k := keeps_K hk h T.K
theorem call_fn {a : Addr} {e : Expr} {rest : List Expr} (hk : keepIn (KK w) (.ref a) = true) (h : wpAny (model P w) A (spliced (backTo pos (starEach (e :: rest) env))) (fun vs s₁ => TopH w s₁.heap ∧ wpAny (model P w) A (call (.ref a) (first ++ vs)) Q E s₁) E s)
    (he : starEach (e :: rest) env = (false, eval e env) :: starEach rest env := by rfl) (hplain : (backTo pos (starEach rest env)).any (·.1) = false := by rfl) :
    wpAny (model P w) A (callWith pos (.ref a) first (backTo pos (starEach (e :: rest) env)) []) Q E s := by
  rw [he] at h ⊢
  exact callWith_of (by show ((false || (backTo pos (starEach rest env)).any (·.1)) || false) = false; rw [hplain]; rfl) (keeps_fn hk) (evalArgs_plain h)
theorem call_fn0 {a : Addr} (hk : keepIn (KK w) (.ref a) = true) (T : TopH w s.heap) (h : wpAny (model P w) A (call (.ref a) (first ++ [])) Q E s) : wpAny (model P w) A (callWith pos (.ref a) first (backTo pos (starEach [] env)) []) Q E s :=
  callWith_of rfl (keeps_fn hk) (evalArgs_nil3 ⟨T, h⟩)
theorem call_bi {e : Expr} {rest : List Expr} (h : wpAny (model P w) A (spliced (backTo pos (starEach (e :: rest) env))) (fun vs s₁ => wpAny (model P w) A (call f (first ++ vs)) Q E s₁) E s)
    (hf : keeperOf f = pure .machine := by rfl) (he : starEach (e :: rest) env = (false, eval e env) :: starEach rest env := by rfl) (hplain : (backTo pos (starEach rest env)).any (·.1) = false := by rfl) :
    wpAny (model P w) A (callWith pos f first (backTo pos (starEach (e :: rest) env)) []) Q E s := by
  rw [he] at h ⊢
  exact callWith_of (P := fun _ => True) (by show ((false || (backTo pos (starEach rest env)).any (·.1)) || false) = false; rw [hplain]; rfl) (fun _ _ => ⟨.machine, .inr (.inl rfl), Looks.of_pure hf⟩) (evalArgs_plain (wpAny_mono h (fun _ _ x => ⟨trivial, x⟩) fun _ _ x => x))
theorem call_bi0 (h : wpAny (model P w) A (call f (first ++ [])) Q E s) (hf : keeperOf f = pure .machine := by rfl) : wpAny (model P w) A (callWith pos f first (backTo pos (starEach [] env)) []) Q E s :=
  callWith_of (P := fun _ => True) rfl (fun _ _ => ⟨.machine, .inr (.inl rfl), Looks.of_pure hf⟩) (evalArgs_nil3 ⟨trivial, h⟩)
end
theorem Ext.isList {mod : List Addr} {h h' : Heap} (x : Ext mod h h') {a : Addr} {vs : Array Value} (l : h.IsList a vs) (hm : a ∉ mod) : h'.IsList a vs := by
  obtain ⟨o, e, hc, r⟩ := l
  exact ⟨o, x.get e (by unfold hasCls; rw [hc]) hm, hc, r⟩
theorem Ext.isTup {mod : List Addr} {h h' : Heap} (x : Ext mod h h') {a : Addr} {vs : Array Value} (l : IsTup h a vs) (hm : a ∉ mod) : IsTup h' a vs := by
  obtain ⟨o, e, hc, r⟩ := l
  exact ⟨o, x.get e (by unfold hasCls; rw [hc]) hm, hc, r⟩
end Mine
end
section
open PySem PySem.W PySem.W.X PyProof.Rows PySem.Calls PySem.SeqAt PySem.Spec
set_option maxRecDepth 100000
set_option maxHeartbeats 400000
namespace Mine
inductive Rd (b : Addr) (h : Heap) : Value → PyData → Prop
  | int (i : Int) (t : Tok) : Rd b h (.int i t) (.int i)
  | str (x : Str) (t : Tok) : Rd b h (.str x t) (.str x)
  | list {a : Addr} {vs : Array Value} {ds : List PyData} : b ≤ a → h.IsList a vs → vs.size = ds.length → (∀ (i : Nat) (v : Value) (d : PyData), vs[i]? = some v → ds[i]? = some d → Rd b h v d) → Rd b h (.ref a) (.list ds)
  | tup {a : Addr} {vs : Array Value} {ds : List PyData} : b ≤ a → IsTup h a vs → vs.size = ds.length → (∀ (i : Nat) (v : Value) (d : PyData), vs[i]? = some v → ds[i]? = some d → Rd b h v d) → Rd b h (.ref a) (.tuple ds)
section
variable {b b' : Addr} {h h' : Heap} {v : Value} {d : PyData} {mod : List Addr}
theorem Rd.mono (x : Rd b h v d) (hb : b' ≤ b) : Rd b' h v d := by
  induction x with
  | int i t => exact .int i t
  | str x t => exact .str x t
  | list h1 h2 h3 _ ih => exact .list (Nat.le_trans hb h1) h2 h3 fun i v d e1 e2 => ih i v d e1 e2
  | tup h1 h2 h3 _ ih => exact .tup (Nat.le_trans hb h1) h2 h3 fun i v d e1 e2 => ih i v d e1 e2
theorem Rd.ext (x : Rd b h v d) (e : Ext mod h h') (hm : ∀ a ∈ mod, a < b ∨ h.get? a = none) : Rd b h' v d := by
  induction x with
  | int i t => exact .int i t
  | str x t => exact .str x t
  | list h1 h2 h3 _ ih => exact .list h1 (e.isList h2 fun q => (hm _ q).elim (fun z => absurd z (Nat.not_lt.mpr h1)) fun z => by obtain ⟨o, ho, _⟩ := h2; rw [z] at ho; cases ho) h3 fun i v d e1 e2 => ih i v d e1 e2
  | tup h1 h2 h3 _ ih => exact .tup h1 (e.isTup h2 fun q => (hm _ q).elim (fun z => absurd z (Nat.not_lt.mpr h1)) fun z => by obtain ⟨o, ho, _⟩ := h2; rw [z] at ho; cases ho) h3 fun i v d e1 e2 => ih i v d e1 e2
theorem Rd.ext0 (x : Rd b h v d) (e : Ext [] h h') : Rd b h' v d := x.ext e fun _ q => nomatch q
theorem Rd.intE {i : Int} (x : Rd b h v (.int i)) : ∃ t, v = .int i t := by cases x; exact ⟨_, rfl⟩
theorem Rd.strE {i : Str} (x : Rd b h v (.str i)) : ∃ t, v = .str i t := by cases x; exact ⟨_, rfl⟩
theorem Rd.listE {ds : List PyData} (x : Rd b h v (.list ds)) : ∃ a vs, v = .ref a ∧ b ≤ a ∧ h.IsList a vs ∧ vs.size = ds.length ∧ (∀ (i : Nat) (v : Value) (d : PyData), vs[i]? = some v → ds[i]? = some d → Rd b h v d) := by cases x; exact ⟨_, _, rfl, ‹_›, ‹_›, ‹_›, ‹_›⟩
theorem Rd.tupE {ds : List PyData} (x : Rd b h v (.tuple ds)) : ∃ a vs, v = .ref a ∧ b ≤ a ∧ IsTup h a vs ∧ vs.size = ds.length ∧ (∀ (i : Nat) (v : Value) (d : PyData), vs[i]? = some v → ds[i]? = some d → Rd b h v d) := by cases x; exact ⟨_, _, rfl, ‹_›, ‹_›, ‹_›, ‹_›⟩
theorem Rd.pairE {p q : PyData} (x : Rd b h v (.tuple [p, q])) : ∃ a u z, v = .ref a ∧ b ≤ a ∧ IsTup h a #[u, z] ∧ Rd b h u p ∧ Rd b h z q := by
  obtain ⟨a, vs, rfl, hb, ht, hs, hr⟩ := x.tupE
  obtain ⟨l⟩ := vs
  obtain ⟨u, z, rfl⟩ : ∃ u z, l = [u, z] := by
    match l, hs with
    | [u, z], _ => exact ⟨u, z, rfl⟩
  exact ⟨a, u, z, rfl, hb, ht, hr 0 u p rfl rfl, hr 1 z q rfl rfl⟩
theorem readsAll_of {h : Heap} : ∀ {l : List Value} {ds : List PyData}, l.length = ds.length → (∀ (i : Nat) (v : Value) (d : PyData), l[i]? = some v → ds[i]? = some d → ∃ as, Reads h v d as) → ∃ as, ReadsAll h l ds as
  | [], [], _, _ => ⟨[], .nil⟩
  | v :: l, d :: ds, hl, hr => by
    obtain ⟨as, r⟩ := hr 0 v d rfl rfl
    obtain ⟨bs, rs⟩ := readsAll_of (l := l) (ds := ds) (by simpa using hl) fun i v d e1 e2 => hr (i + 1) v d (by simpa using e1) (by simpa using e2)
    exact ⟨_, .cons r rs⟩
theorem Rd.reads (x : Rd b h v d) : ∃ as, Reads h v d as := by
  induction x with
  | int i t => exact ⟨_, .int i t⟩
  | str x t => exact ⟨_, .str x t⟩
  | list h1 h2 h3 _ ih =>
    obtain ⟨o, ho, hc, n, hd⟩ := h2
    obtain ⟨as, rs⟩ := readsAll_of (h := h) (l := _) (ds := _) (by rw [Array.length_toList]; exact h3) fun i v d e1 e2 => ih i v d (by rwa [← Array.getElem?_toList]) e2
    exact ⟨_, .list ho hc hd rs⟩
  | tup h1 h2 h3 _ ih =>
    obtain ⟨o, ho, hc, n, hd⟩ := h2
    obtain ⟨as, rs⟩ := readsAll_of (h := h) (l := _) (ds := _) (by rw [Array.length_toList]; exact h3) fun i v d e1 e2 => ih i v d (by rwa [← Array.getElem?_toList]) e2
    exact ⟨_, .tuple ho hc hd rs⟩
end
structure LsAt (b : Addr) (h : Heap) (a : Addr) (vs : Array Value) (ds : List PyData) : Prop where
  le : b ≤ a
  ls : h.IsList a vs
  sz : vs.size = ds.length
  rd : ∀ (i : Nat) (v : Value) (d : PyData), vs[i]? = some v → ds[i]? = some d → Rd b h v d
theorem LsAt.of {b : Addr} {h : Heap} {v : Value} {ds : List PyData} (x : Rd b h v (.list ds)) : ∃ a vs, v = .ref a ∧ LsAt b h a vs ds := by
  obtain ⟨a, vs, rfl, h1, h2, h3, h4⟩ := x.listE
  exact ⟨a, vs, rfl, h1, h2, h3, h4⟩
theorem LsAt.rdl {b : Addr} {h : Heap} {a : Addr} {vs : Array Value} {ds : List PyData} (x : LsAt b h a vs ds) : Rd b h (.ref a) (.list ds) := .list x.le x.ls x.sz x.rd
theorem LsAt.ext {b : Addr} {h h' : Heap} {a : Addr} {vs : Array Value} {ds : List PyData} {mod : List Addr} (x : LsAt b h a vs ds) (e : Ext mod h h') (hm : ∀ a ∈ mod, a < b ∨ h.get? a = none) : LsAt b h' a vs ds :=
  ⟨x.le, e.isList x.ls fun q => (hm _ q).elim (fun z => absurd z (Nat.not_lt.mpr x.le)) fun z => (by obtain ⟨o, ho, _⟩ := x.ls; rw [z] at ho; cases ho), x.sz, fun i v d e1 e2 => (x.rd i v d e1 e2).ext e hm⟩
theorem LsAt.item {b : Addr} {h : Heap} {a : Addr} {vs : Array Value} {ds : List PyData} (x : LsAt b h a vs ds) {i : Nat} {d : PyData} (e : ds[i]? = some d) : ∃ v, vs[i]? = some v ∧ Rd b h v d := by
  have hi : i < vs.size := by rw [x.sz]; exact (List.getElem?_eq_some_iff.mp e).1
  exact ⟨vs[i], Array.getElem?_eq_getElem hi, x.rd i _ d (Array.getElem?_eq_getElem hi) e⟩
mutual
theorem noMix_self : ∀ d : PyData, d.canLay0 = true → noMix d d = true
  | .none, _ => by rw [noMix]
  | .bool _, _ => by rw [noMix]
  | .int _, _ => by rw [noMix]
  | .str _, _ => by rw [noMix]
  | .list xs, h => by rw [noMix]; exact noMixAll_self xs (by rw [PyData.canLay0] at h; exact h)
  | .tuple xs, h => by rw [noMix]; exact noMixAll_self xs (by rw [PyData.canLay0] at h; exact h)
  | .dict _, h => by rw [PyData.canLay0] at h; cases h
theorem noMixAll_self : ∀ xs : List PyData, PyData.canLayAll0 xs = true → noMixAll xs xs = true
  | [], _ => by rw [noMixAll]
  | x :: xs, h => by
    rw [PyData.canLayAll0, Bool.and_eq_true] at h
    rw [noMixAll, noMix_self x h.1, noMixAll_self xs h.2]; rfl
end
section
variable {w : World} {A : Around} {E : Value → Shared → Prop} {s : Shared} {b b' : Addr} {u v : Value} {d : PyData} {n : Nat} {Q : Value → Shared → Prop}
theorem eq_rd (hA : Rm n A) (ra : Rd b s.heap u d) (rb : Rd b' s.heap v d) (hd : shaped d = true) (h : Q (.bool true) s) (hn : n ≤ 600 := by decide) :
    wpAny (model P w) A (compareOp .Eq u v) Q E s := by
  obtain ⟨as, ra⟩ := ra.reads
  obtain ⟨bs, rb⟩ := rb.reads
  exact eq_dataH_same ra rb hd hd (hA.ult64 hn) (noMix_self d (canLay_of_shaped hd)) (by rw [Spec.same_self]; exact h)
theorem ne_rd (hA : Rm n A) (ra : Rd b s.heap u d) (rb : Rd b' s.heap v d) (hd : shaped d = true) (h : Q (.bool false) s) (hn : n ≤ 600 := by decide) :
    wpAny (model P w) A (compareOp .NotEq u v) Q E s := by
  obtain ⟨as, ra⟩ := ra.reads
  obtain ⟨bs, rb⟩ := rb.reads
  exact ne_dataH_same ra rb hd hd (hA.ult64 hn) (noMix_self d (canLay_of_shaped hd)) (by rw [Spec.same_self]; exact h)
theorem ne_nil {ds : List PyData} (hA : Rm n A) (ra : Rd b s.heap u (.list ds)) (rb : Rd b' s.heap v (.list [])) (hd : shaped (.list ds) = true) (h : Q (.bool (!ds.isEmpty)) s) (hn : n ≤ 600 := by decide) :
    wpAny (model P w) A (compareOp .NotEq u v) Q E s := by
  obtain ⟨as, ra⟩ := ra.reads
  obtain ⟨bs, rb⟩ := rb.reads
  refine ne_dataH_same ra rb hd (by decide) (hA.ult64 hn) ?_ ?_
  · rw [noMix]; cases ds <;> rw [noMixAll]
  · rw [Spec.same]; cases ds with
    | nil => rw [Spec.sameAll]; exact h
    | cons x l => rw [show Spec.sameAll (x :: l) [] = false by simp [Spec.sameAll]]; exact h
end
end Mine
end
section
open PySem PySem.W PySem.W.X PyProof.Rows PySem.Calls
set_option maxRecDepth 100000
set_option maxHeartbeats 400000
namespace Mine
theorem dn_kind : builtinKind "dict.__new__" = some .builtinFn := by decide +kernel
theorem dn_split : splitId "dict.__new__" = some ("dict", "__new__") := by decide +kernel
def makesD (K : Frag) (C : Addr) : Bool := match K.lookup C with
  | some ⟨_, _, .cls cd, sl⟩ => !cd.abstract && !cd.hasDel && (sl.toList[4]?).join == some (.builtin "dict.__new__") && !cd.mro.isEmpty && cd.mro.contains (.ref C) && cd.mro.contains (.type "dict") &&
      !(cd.mro.any fun | .type n => !["dict", "object", "collections.defaultdict", "collections.OrderedDict"].contains n | _ => false) &&
      specialIn K (.ref C) "__call__" == some (some (.builtin "type.__call__")) && instIn K (.ref C) (.type "type") == some true
  | _ => false
structure MakesD (M : Model) (h : Heap) (C : Addr) : Prop where
  obj : ∃ oc od cd sl, h.get? C = some ⟨oc, od, .cls cd, sl⟩ ∧ cd.abstract = false ∧ cd.hasDel = false ∧ cd.mro.isEmpty = false ∧ (cd.mro.any fun | .type n => !["dict", "object", "collections.defaultdict", "collections.OrderedDict"].contains n | _ => false) = false
  made : Looks M h (Bind.madeBy (.ref C)) (some "dict.__new__")
  base : Looks M h (Bind.staticBase (.ref C)) (.ref C)
  self : Looks M h (isSubtype (.ref C) (.ref C)) true
  top : Looks M h (isSubtype (.ref C) (.type "dict")) true
  call : Looks M h (specialOf (.ref C) "__call__") (some (.builtin "type.__call__"))
  typ : Looks M h (isInstance (.ref C) (.type "type")) true
theorem makesD_of {K : Frag} {M : Model} {h : Heap} (X : K.In h) {C : Addr} (e : makesD K C = true) : MakesD M h C := by
  unfold makesD at e
  split at e
  · rename_i oc od cd sl ho
    simp only [Bool.and_eq_true, Bool.not_eq_true', beq_iff_eq] at e
    obtain ⟨⟨⟨⟨⟨⟨⟨⟨e1, e2⟩, e3⟩, e4⟩, e5⟩, e6⟩, e9⟩, e7⟩, e8⟩ := e
    have hc : clsIn K C = some cd := by unfold clsIn; rw [ho]
    have hm : Looks M h (mroOf (.ref C)) cd.mro := (looks_clsIn X hc).andThen .now
    obtain ⟨c, l, hl⟩ : ∃ c l, cd.mro = c :: l := by cases q : cd.mro with | nil => rw [q] at e4; cases e4 | cons c l => exact ⟨c, l, rfl⟩
    have made : Looks M h (Bind.madeBy (.ref C)) (some "dict.__new__") := by
      intro A Q E s k q
      unfold Bind.madeBy
      refine wpAny_bind (hm A _ E s k ?_)
      rw [hl, List.forIn_cons]
      refine wpAny_bind (wpAny_bind (wpAny_bind (wpAny_bind (wpAny_loadPart (k _ _ (X _ _ ho)) (wpAny_pure ?_)))))
      dsimp only
      rw [← Array.getElem?_toList, e3]
      exact wpAny_pure (wpAny_pure (wpAny_pure q))
    refine ⟨⟨oc, od, cd, sl, X _ _ ho, e1, e2, e4, e9⟩, made, ?_, looks_mroIn X ?_, looks_mroIn X ?_, looks_specialIn X e7, looks_instIn X e8⟩
    · intro A Q E s k q
      unfold Bind.staticBase
      refine wpAny_bind (hm A _ E s k ?_)
      rw [hl, List.forIn_cons]
      exact wpAny_bind (wpAny_bind (wpAny_bind (made A _ E s k (wpAny_pure (wpAny_pure (wpAny_pure q))))))
    · unfold mroIn; rw [hc, Option.bind_some, if_neg (by rw [e4]; decide), e5]
    · unfold mroIn; rw [hc, Option.bind_some, if_neg (by rw [e4]; decide), e6]
  · cases e
theorem makes_437 (w : World) : makesD (KK w) 437 = true := by kernel_rfl
theorem makes_560 (w : World) : makesD (KK w) 560 = true := by kernel_rfl
abbrev dInst (C dx : Addr) : Obj := { cls := .ref C, dict := some dx, data := .dict #[] }
theorem entry_dn : entryFor table "dict.__new__" = some Builtin.«dict.__new__» := F.kt_entry_dict_new
section
variable {prog : Program} {w : World} {A : Around} {K : Frag} {C : Addr} {R : Result → Shared → Prop} {h : Heap} {g : Array GenState} {d : Drawn} {t : Nat} {os : OsState}
theorem ite_no {α : Type} {M : Model} {A : Around} {E : Value → Shared → Prop} {s : Shared} {c : Prop} [Decidable c] {a b : Sem α} {Q : α → Shared → Prop} (hc : ¬ c) (h : wpAny M A b Q E s) : wpAny M A (if c then a else b) Q E s := by rw [if_neg hc]; exact h
theorem ite_yes {α : Type} {M : Model} {A : Around} {E : Value → Shared → Prop} {s : Shared} {c : Prop} [Decidable c] {a b : Sem α} {Q : α → Shared → Prop} (hc : c) (h : wpAny M A a Q E s) : wpAny M A (if c then a else b) Q E s := by rw [if_pos hc]; exact h
theorem new_D {rest : List Value} {kw : List (Str × Value)} (Y : MakesD (model prog w) h C)
    (hq : R (.ok (.ret (.ref (h.objs.size + 1)))) ⟨(h.push emptyDict).push (dInst C h.objs.size), g, d, t, os⟩) :
    codeAny (model prog w) A (.call (.builtin "dict.__new__") ⟨.ref C :: rest, kw⟩) R ⟨h, g, d, t, os⟩ := by
  obtain ⟨⟨oc, od, cd, sl, hC, e1, e2, e4, e5⟩, made, base, self, top, call, typ⟩ := Y
  refine codeAny_call_builtin_code (Code.quiet_builtin _ (by decide +kernel)) ?_
  simp only [checkBuiltinCall, dn_kind, dn_split]
  have here : Looks (model prog w) h (Bind.madeHere "dict.__new__" (.ref C)) () := base.andThen (made.andThen (Looks.of_pure (by simp only [Option.map_some, bne_self_eq_false, Bool.false_eq_true, if_false])))
  have mro : Looks (model prog w) h (mroOf (.ref C)) cd.mro := ((Looks.ld (part := none) hC).andThen .now).andThen .now
  have isT : Looks (model prog w) h (isType (.ref C)) true := (Looks.ld hC).andThen .now
  repeat (first | simp only [bne_self_eq_false, Bool.false_eq_true, if_false] | lk)
  refine codeAny_builtin entry_dn ?_
  unfold Builtin.«dict.__new__»
  have s1 : Looks (model prog w) h (isSubtype (.ref C) (.type "dict")) true := top
  repeat (first | simp only [Bool.not_true, Bool.false_eq_true, if_false] | lk)
  refine ite_no (fun q => nomatch (show false = true from e5.symm.trans q)) ?_
  refine wpAny_bind (wpAny_alloc ?_)
  refine wpAny_bind ?_
  show wpAny _ _ (newObjAsIs _ _ _) _ _ _
  unfold newObjAsIs classHasDel
  refine wpAny_bind (wpAny_alloc (wpAny_bind (wpAny_bind (wpAny_load (Heap.get?_push_of_some _ (Heap.get?_push_of_some _ hC)) (wpAny_pure ?_)))))
  rw [e2]
  refine wpAny_pure (wpAny_pure ?_)
  show R _ _
  rw [Heap.size_push]
  exact hq
theorem make_D {rest : List Value} {kw : List (Str × Value)} {init : Value} (Y : MakesD (model prog w) h C) (hi : Looks (model prog w) h (typeLookup (.ref C) "__init__") (some init))
    (hb : ∀ self, Looks (model prog w) h (bindSpecial init self) (init, [self]))
    (hq : codeAny (model prog w) (A.under (.builtin "type.__call__" ⟨.ref C :: rest, kw⟩)) (.call init ⟨.ref (h.objs.size + 1) :: rest, kw⟩) (InitBack (h.objs.size + 1) R) ⟨(h.push emptyDict).push (dInst C h.objs.size), g, d, t, os⟩) :
    codeAny (model prog w) A (.call (.ref C) ⟨rest, kw⟩) R ⟨h, g, d, t, os⟩ := by
  have Y' := Y
  obtain ⟨⟨oc, od, cd, sl, hC, e1, e2, e4, e5⟩, made, base, self, top, call, typ⟩ := Y
  refine codeAny_of_tree ?_
  show wpAny _ _ (callAny (.ref C) _) _ _ _
  refine nd_load hC ?_
  show wpAny _ _ (callAny.viaDunder (.ref C) _) _ _ _
  unfold callAny.viaDunder
  refine wpAny_bind (call.at ?_)
  dsimp only
  rw [tc_bind]
  refine wpAny_bind (wpAny_pure (wpAny_bind (wpAny_pure ?_)))
  refine wpAny_pure (a := Fin.again (.call (.builtin "type.__call__") ⟨.ref C :: rest, kw⟩)) (And.intro rfl ?_)
  refine codeAny_call_builtin_at (Code.quiet_builtin _ (by decide +kernel)) entry_typeCall (check_slot tc_kind tc_split typ (tc_args _ _ _) ?_)
  unfold Builtin.«type.__call__»
  have hm : Looks (model prog w) h (mroOf (.ref C)) cd.mro := ((Looks.ld (part := none) hC).andThen .now).andThen .now
  repeat (first | simp only [e4, Bool.false_eq_true, if_false] | with_reducible refine wpAny_call ?_ | lk)
  refine new_D Y' ?_
  have k : ∀ b o, h.get? b = some o → ((h.push emptyDict).push (dInst C h.objs.size)).get? b = some o := fun b o e => Heap.get?_push_of_some _ (Heap.get?_push_of_some _ e)
  have hx : ((h.push emptyDict).push (dInst C h.objs.size)).get? (h.objs.size + 1) = some (dInst C h.objs.size) := by heap_get
  have t1 : Looks (model prog w) ((h.push emptyDict).push (dInst C h.objs.size)) (typeOf (.ref (h.objs.size + 1))) (.ref C) := (Looks.ld hx).andThen .now
  have s1 := self.keeps k
  have i1 := hi.keeps k
  have b1 := (hb (.ref (h.objs.size + 1))).keeps k
  unfold isInstance callSpecial? specialOf
  repeat (first | with_reducible refine wpAny_call ?_ | lk)
  refine codeAny_mono hq fun r s' z => ?_
  rcases r with e | (v | _ | _ | _) <;> first | exact z | exact z.elim | skip
  obtain ⟨rfl, z⟩ := z
  exact wpAny_pure (wpAny_pure z)
end
end Mine
end
section
open PySem PySem.W PySem.W.X PyProof.Rows PySem.Calls
set_option maxRecDepth 100000
set_option maxHeartbeats 400000
namespace Mine
abbrev bObj (T id : String) (x : Addr) : Obj := { cls := .type T, data := .fields #[.builtin id, .ref x] }
structure WD (id : String) : Prop where
  ty : typeOf (.builtin id) = pure (.type "wrapper_descriptor")
  own : ".".intercalate (id.cutAt '.').dropLast = "dict"
structure MD (id : String) : Prop where
  ty : typeOf (.builtin id) = pure (.type "method_descriptor")
  own : ".".intercalate (id.cutAt '.').dropLast = "dict"
  told : Manifest.toldItsClass.contains id = false
theorem wd_init : WD "dict.__init__" := ⟨by show builtinType _ = _; rw [builtinType_eq_fast]; kernel_rfl, by decide +kernel⟩
theorem wd_iter : WD "dict.__iter__" := ⟨by show builtinType _ = _; rw [builtinType_eq_fast]; kernel_rfl, by decide +kernel⟩
theorem md_getitem : MD "dict.__getitem__" := ⟨by show builtinType _ = _; rw [builtinType_eq_fast]; kernel_rfl, by decide +kernel, by decide +kernel⟩
theorem md_setdefault : MD "dict.setdefault" := ⟨by show builtinType _ = _; rw [builtinType_eq_fast]; kernel_rfl, by decide +kernel, by decide +kernel⟩
theorem md_items : MD "dict.items" := ⟨by show builtinType _ = _; rw [builtinType_eq_fast]; kernel_rfl, by decide +kernel, by decide +kernel⟩
theorem lk_wd_get : typeLookup (.type "wrapper_descriptor") "__get__" = pure (some (.builtin "wrapper_descriptor.__get__")) := by rw [typeLookup_type, builtinLookup_eq_fast]; kernel_rfl
theorem lk_md_get : typeLookup (.type "method_descriptor") "__get__" = pure (some (.builtin "method_descriptor.__get__")) := by rw [typeLookup_type, builtinLookup_eq_fast]; kernel_rfl
theorem ent_wd_get : entryFor table "wrapper_descriptor.__get__" = some Builtin.«wrapper_descriptor.__get__» := entryFor_of_tree (by kernel_rfl)
theorem ent_md_get : entryFor table "method_descriptor.__get__" = some Builtin.«method_descriptor.__get__» := entryFor_of_tree (by kernel_rfl)
theorem slot_wd_get : Slot "wrapper_descriptor" "__get__" "wrapper_descriptor.__get__" := .of (owner := "wrapper_descriptor") (n := "__get__") (by rw [typeLookup_type, builtinLookup_eq_fast]; kernel_rfl) (by decide +kernel) (by decide +kernel) (by decide +kernel)
  (by first | exact .inl (by decide +kernel) | exact .inr (by decide +kernel)) (by rw [isSubtype_type]; kernel_rfl)
theorem slot_md_get : Slot "method_descriptor" "__get__" "method_descriptor.__get__" := .of (owner := "method_descriptor") (n := "__get__") (by rw [typeLookup_type, builtinLookup_eq_fast]; kernel_rfl) (by decide +kernel) (by decide +kernel) (by decide +kernel)
  (by first | exact .inl (by decide +kernel) | exact .inr (by decide +kernel)) (by rw [isSubtype_type]; kernel_rfl)
theorem args_wd_get (a b c : Value) : argsOk "wrapper_descriptor.__get__" ⟨[a, b, c], []⟩ := by unfold argsOk; kernel_rfl
theorem args_md_get (a b c : Value) : argsOk "method_descriptor.__get__" ⟨[a, b, c], []⟩ := by unfold argsOk; kernel_rfl
section
variable {prog : Program} {w : World} {M : Model} {A : Around} {E : Value → Shared → Prop} {h : Heap} {g : Array GenState} {d : Drawn} {t : Nat} {os : OsState}
theorem wd_get {id : String} {x C : Addr} {Q : Fin → Shared → Prop} (W : WD id) (ht : Looks M h (typeOf (.ref x)) (.ref C)) (hs : Looks M h (isSubtype (.ref C) (.type "dict")) true)
    (hq : Q (.done (.ret (.ref h.objs.size))) ⟨h.push (bObj "method-wrapper" id x), g, d, t, os⟩) :
    wpAny M A (Builtin.«wrapper_descriptor.__get__» ⟨[.builtin id, .ref x, .ref C], []⟩) Q E ⟨h, g, d, t, os⟩ := by
  have hi : Looks M h (isInstance (.ref x) (.type (".".intercalate (id.cutAt '.').dropLast))) true := by rw [W.own]; exact ht.andThen hs
  unfold Builtin.«wrapper_descriptor.__get__»
  repeat (first | with_reducible refine Looks.at hi ?_ | lk)
  exact hq
theorem md_get {id : String} {x C : Addr} {Q : Fin → Shared → Prop} (W : MD id) (ht : Looks M h (typeOf (.ref x)) (.ref C)) (hs : Looks M h (isSubtype (.ref C) (.type "dict")) true)
    (hq : Q (.done (.ret (.ref h.objs.size))) ⟨h.push (bObj "builtin_function_or_method" id x), g, d, t, os⟩) :
    wpAny M A (Builtin.«method_descriptor.__get__» ⟨[.builtin id, .ref x, .ref C], []⟩) Q E ⟨h, g, d, t, os⟩ := by
  have hi : Looks M h (isInstance (.ref x) (.type (".".intercalate (id.cutAt '.').dropLast))) true := by rw [W.own]; exact ht.andThen hs
  have told := W.told
  unfold Builtin.«method_descriptor.__get__»
  repeat (first | simp only [told, Bool.false_eq_true, if_false] | (show wpAny _ _ (isInstance _ _) _ _ _; refine Looks.at hi ?_) | lk)
  exact hq
end
section
variable {prog : Program} {w : World} {A : Around} {E : Value → Shared → Prop} {h : Heap} {g : Array GenState} {d : Drawn} {t : Nat} {os : OsState}
theorem super_ga {T G BT id : String} {Bi : Builtin} {so D x C : Addr} {l₀ l : List Value} {K : Frag} {name : Str} {tk : Tok} {Q : Fin → Shared → Prop}
    (hso : h.get? so = some { cls := .type "super", dict := none, data := .fields #[.ref D, .ref x, .ref C], slots := #[] }) (hno : Looks (model prog w) h (opaqueClassAbove (.ref C)) none)
    (hC : Looks (model prog w) h (mroOf (.ref C)) l₀) (hl : (l₀.dropWhile (· != .ref D)).drop 1 = l) (X : K.In h)
    (hf : alongIn K name l = some (some (.builtin id))) (hty : typeOf (.builtin id) = pure (.type T)) (hlk : typeLookup (.type T) "__get__" = pure (some (.builtin G)))
    (S : Slot T "__get__" G) (ent : entryFor table G = some Bi) (args : ∀ a b c, argsOk G ⟨[a, b, c], []⟩)
    (hx : Looks (model prog w) h (typeOf (.ref x)) (.ref C))
    (hget : ∀ A' E', wpAny (model prog w) A' (Bi ⟨[.builtin id, .ref x, .ref C], []⟩) (fun fin s' => fin = .done (.ret (.ref h.objs.size)) ∧ s' = ⟨h.push (bObj BT id x), g, d, t, os⟩) E' ⟨h, g, d, t, os⟩)
    (hxC : x ≠ C) (hn : (name == ("__class__" : Str)) = false)
    (hq : Q (.done (.ret (.ref h.objs.size))) ⟨h.push (bObj BT id x), g, d, t, os⟩) :
    wpAny (model prog w) A (Builtin.«super.__getattribute__» ⟨[.ref so, .str name tk], []⟩) Q E ⟨h, g, d, t, os⟩ := by
  have hne : (Value.ref x == Value.ref C) = false := by simp [hxC]
  have hdt : ({ cls := .type "super", dict := none, data := .fields #[.ref D, .ref x, .ref C], slots := #[] } : Obj).data = .fields #[.ref D, .ref x, .ref C] := rfl
  have f0 : (#[.ref D, .ref x, .ref C] : Array Value)[0]? = some (.ref D) := rfl
  have f1 : (#[.ref D, .ref x, .ref C] : Array Value)[1]? = some (.ref x) := rfl
  have f2 : (#[.ref D, .ref x, .ref C] : Array Value)[2]? = some (.ref C) := rfl
  have hTf : (⟨h, g, d, t, os⟩ : Shared).TypeIs (.builtin id) T := hty
  unfold Builtin.«super.__getattribute__»
  repeat (first
    | (with_reducible refine wpAny_field hso hdt f0 ?_) | (with_reducible refine wpAny_field hso hdt f1 ?_) | (with_reducible refine wpAny_field hso hdt f2 ?_)
    | (with_reducible refine ks_wpAny_notOpaque hno ?_)
    | (with_reducible refine Looks.at hC ?_; rw [hl])
    | (refine ks_forIn_along X (fun _ _ => rfl) rfl ?_ hf)
    | (with_reducible refine wpAny_of_eq hty ?_)
    | (with_reducible refine wpAny_of_eq hlk ?_)
    | (with_reducible refine wpAny_call_entry S hTf ent (wpAny_mono (hget _ _) (fun fin s' z => ?_) fun _ _ z => z) (args _ _ _))
    | (with_reducible refine ⟨_, rfl, ?_⟩)
    | (simp only [hn, hne, Bool.or_false, Bool.false_eq_true, if_false])
    | wp_step
    | dsimp only)
  obtain ⟨rfl, rfl⟩ := z
  refine ⟨_, rfl, ?_⟩
  repeat (first | wp_step | dsimp only)
  exact hq
theorem getMethod_super {T G BT id : String} {Bi : Builtin} {so D x C : Addr} {l₀ l : List Value} {K : Frag} {name : Str} {pl : Sem Bool} {Q : Value × List Value → Shared → Prop}
    (hso : h.get? so = some { cls := .type "super", dict := none, data := .fields #[.ref D, .ref x, .ref C], slots := #[] }) (hno : Looks (model prog w) h (opaqueClassAbove (.ref C)) none)
    (hC : Looks (model prog w) h (mroOf (.ref C)) l₀) (hl : (l₀.dropWhile (· != .ref D)).drop 1 = l) (X : K.In h)
    (hf : alongIn K name l = some (some (.builtin id))) (hty : typeOf (.builtin id) = pure (.type T)) (hlk : typeLookup (.type T) "__get__" = pure (some (.builtin G)))
    (S : Slot T "__get__" G) (ent : entryFor table G = some Bi) (args : ∀ a b c, argsOk G ⟨[a, b, c], []⟩)
    (hx : Looks (model prog w) h (typeOf (.ref x)) (.ref C))
    (hget : ∀ A' E', wpAny (model prog w) A' (Bi ⟨[.builtin id, .ref x, .ref C], []⟩) (fun fin s' => fin = .done (.ret (.ref h.objs.size)) ∧ s' = ⟨h.push (bObj BT id x), g, d, t + 1, os⟩) E' ⟨h, g, d, t + 1, os⟩)
    (hxC : x ≠ C) (hn : (name == ("__class__" : Str)) = false)
    (hq : Q (.ref h.objs.size, []) ⟨h.push (bObj BT id x), g, d, t + 1, os⟩) :
    wpAny (model prog w) A (getMethod (.ref so) name pl) Q E ⟨h, g, d, t, os⟩ := by
  have hlk' := F.ks_slot_super_ga.lookup
  have hcan := F.ks_canon_super_ga
  have hT : ∀ t', (⟨h, g, d, t', os⟩ : Shared).TypeIs (.ref so) "super" := fun _ => ⟨_, hso, rfl⟩
  unfold getMethod
  refine wpAny_bind (wpAny_specialOf (hT _) hlk' ?_)
  show wpAny _ _ (if (Manifest.canonical "super.__getattribute__" != "object.__getattribute__") = true then _ else _) _ _ _
  rw [if_pos hcan]
  unfold getAttr getAttrBy
  refine wpAny_bind (wpAny_bind (wpAny_mkText (wpAny_holding (wpAny_bind (wpAny_typeOf (hT _) (wpAny_bind (wpAny_of_eq hlk' ?_)))))))
  show wpAny _ _ (getAttrByItsOwn (.ref so) (.str name t) (.type "super") (.builtin "super.__getattribute__") true false) _ _ _
  unfold getAttrByItsOwn hookBefore callGetattribute boundAndCalled
  refine wpAny_bind (wpAny_of_eq (show (if onTheHeap (.type "super") then typeLookup (.type "super") "__getattr__" else pure none) = pure none from rfl) ?_)
  refine wpAny_bind (wpAny_attempt (wpAny_holding ?_))
  show wpAny _ _ (bindSpecial (.builtin "super.__getattribute__") (.ref so) >>= _) _ _ _
  refine wpAny_bind (wpAny_of_eq (F.ks_slot_super_ga.bind _) ?_)
  refine wpAny_mono (Q := fun v s' => v = .ref h.objs.size ∧ s' = ⟨h.push (bObj BT id x), g, d, t + 1, os⟩) (E := fun _ _ => False)
    (wpAny_call_entry F.ks_slot_super_ga (hT _) F.ks_entry_super_ga (super_ga hso hno hC hl X hf hty hlk S ent args hx hget hxC hn ⟨_, rfl, rfl, rfl⟩) (F.ks_gaArgs_super _ _)) (fun v s' hv => ?_) fun _ _ z => z.elim
  obtain ⟨rfl, rfl⟩ := hv
  exact wpAny_pure (wpAny_pure hq)
end
end Mine
end
section
open PySem PySem.W PySem.W.X PyProof.Rows PySem.Calls
set_option maxRecDepth 100000
set_option maxHeartbeats 400000
namespace Mine
structure Inst (h : Heap) (x C dx : Addr) (od : Obj) (es : Array DictEntry) (ep : Nat) : Prop where
  at_ : h.get? x = some { cls := .ref C, dict := some dx, data := .dict es ep, slots := #[] }
  own : h.get? dx = some od
theorem Inst.i {h : Heap} {x C dx : Addr} {od : Obj} {es : Array DictEntry} {ep : Nat} (I : Inst h x C dx od es ep) : InstAt h x { cls := .ref C, dict := some dx, data := .dict es ep, slots := #[] } C (some od) := ⟨I.at_, rfl, rfl, I.own⟩
theorem Ext.and {mod : List Addr} {h h' h'' : Heap} (x : Ext mod h h') (y : Ext [] h' h'') : Ext mod h h'' := x.trans y fun _ q => nomatch q
theorem Ext.fresh {mod : List Addr} {h h' : Heap} (x : Ext mod h h') {a : Addr} (e : h'.get? a = none) : h.get? a = none := by
  cases q : h.get? a with
  | none => rfl
  | some o => obtain ⟨o', e'⟩ := x.there _ _ q; rw [e] at e'; cases e'
theorem get_size (h : Heap) : h.get? h.objs.size = none := by
  cases q : h.get? h.objs.size with
  | none => rfl
  | some o => exact absurd (Heap.lt_size q) (Nat.lt_irrefl _)
theorem not_sys {x : Addr} (h : 604 ≤ x) : (x == sysModules) = false := by
  refine beq_false_of_ne fun e => ?_
  rw [e] at h
  exact absurd h (by decide)
theorem super_no (w : World) : nsIn (KK w) mainGlobals "super" = some none := by kernel_rfl
theorem super_top : (P.main.scope.names.lookup ("super" : Str)).isSome = false := by kernel_rfl
theorem boot_super : bootBuiltins "super" = some (.type "super") := by kernel_rfl
theorem third_no (w : World) : nsIn (KK w) cStatics "thirdparty.any" = some none := by kernel_rfl
def behind (K : Frag) (C D : Addr) : List Value := match clsIn K C with
  | some cd => (cd.mro.dropWhile (· != .ref D)).drop 1
  | none => []
section
variable {w : World} {A : Around} {E : Value → Shared → Prop} {s : Shared} {env : Env} {m : Str → Option Value} {x C D f cda cc : Addr} {ox of oc oD : Obj} {odx : Option Obj} {fd : FuncData} {ar : Arg} {vs : Array Value} {file : Str} {tf : Tok} {cl : Value} {cld : Option Addr} {csl : Array (Option Value)} {cdC cdD : ClassData} {body : List Stmt} {p0 p1 : Pos}
theorem super_base {attr : Str} {whole : Sem Value} {Q : Value → Shared → Prop} (T : TopH w s.heap) (n : s.heap.Ns env.locals m) (I : InstAt s.heap x ox C odx)
    (hf : (KK w).lookup f = some of) (hfd : of.data = .func fd) (hp : (fd.params.posonlyargs ++ fd.params.args).head? = some ar) (hv : m ar.arg = some (.ref x))
    (hcode : (KK w).lookup cda = some oc) (hoc : oc.data = .fields vs) (hvs : vs[2]? = some (.str file tf)) (hfile : ((P.main.file : Str) == file) = true)
    (hcell : (KK w).lookup cc = some ⟨cl, cld, .cell (some (.ref D)), csl⟩) (hD : (KK w).lookup D = some oD) (hDt : oD.data = .cls cdD) (hsub : mroIn (KK w) C (.ref D) = some true)
    (hg : env.globals = mainGlobals) (hb : env.builtins = builtinsNs) (hfu : env.func = some f) (hco : env.code = .ref cda) (hcl : env.cells.lookup ("__class__" : Str) = some cc) (hk : env.scope.kind = .function)
    (hks : env.kindOf "super" = some .globalImplicit) (hkc : env.kindOf "__class__" = some .free) (hka : env.kindOf ar.arg = some .local) (hat : (attr == ("__class__" : Str)) = false)
    (h : ∀ h', h'.get? s.heap.objs.size = some (ks_superObj D x C) → (∀ b o, s.heap.get? b = some o → h'.get? b = some o) → Q (.ref s.heap.objs.size) { s with heap := h' }) :
    PySem.wpAt (model P w) A (.func body env) (attributeBase (.Call (.Name "super" p0) [] [] p1) attr env whole) Q E s := by
  have X := T.K
  obtain ⟨mg, ng⟩ := T.g
  obtain ⟨mb, nb, rb⟩ := T.b
  obtain ⟨hh, g, d, t, os⟩ := s
  refine ks_wpAt_super_base (env := env) hks hkc hat hfu (X _ _ hf) hfd hp hco (X _ _ hcode) hoc hvs hfile super_top ?_
  refine ks_loadName_global hk hks (loadGlobal_builtin (env := env) (by rw [hg]; exact ng) (mg_none_of X ng (super_no w)) (by rw [hb]; exact nb) ((rb _ (by decide +kernel)).trans boot_super) ⟨rfl, ?_⟩)
  refine wpAny_loadName_free hk hkc hcl ⟨_, X _ _ hcell, rfl⟩ ?_
  refine wpAny_loadName_local hk hka n hv ?_
  refine ks_wpAny_isType_cls (X _ _ hD) hDt ⟨rfl, ?_⟩
  refine ks_wpAny_call_super (X _ _ hD) hDt I.at_ I.cls (fun c e => ?_) (looks_mroIn X hsub) (fun h' e k => h h' e k)
  have := I.no
  unfold notCls at this
  rw [e] at this
  exact Bool.noConfusion this
theorem inst_ne (X : (KK w).In s.heap) (I : InstAt s.heap x ox C odx) (hc : clsIn (KK w) C = some cdC) : x ≠ C := ks_ne X I hc
theorem super_call {name : Str} {id BT : String} {apos pos : Pos} {args : List Expr} {pl : Sem Bool} {Q : Value → Shared → Prop} (T : TopH w s.heap) (n : s.heap.Ns env.locals m) (I : InstAt s.heap x ox C odx)
    (hf : (KK w).lookup f = some of) (hfd : of.data = .func fd) (hp : (fd.params.posonlyargs ++ fd.params.args).head? = some ar) (hv : m ar.arg = some (.ref x))
    (hcode : (KK w).lookup cda = some oc) (hoc : oc.data = .fields vs) (hvs : vs[2]? = some (.str file tf)) (hfile : ((P.main.file : Str) == file) = true)
    (hcell : (KK w).lookup cc = some ⟨cl, cld, .cell (some (.ref D)), csl⟩) (hD : (KK w).lookup D = some oD) (hDt : oD.data = .cls cdD) (hsub : mroIn (KK w) C (.ref D) = some true)
    (hcC : clsIn (KK w) C = some cdC) (hdict : mroIn (KK w) C (.type "dict") = some true) (hal : alongIn (KK w) name (behind (KK w) C D) = some (some (.builtin id)))
    (hid : (WD id ∧ BT = "method-wrapper") ∨ (MD id ∧ BT = "builtin_function_or_method"))
    (hg : env.globals = mainGlobals) (hb : env.builtins = builtinsNs) (hfu : env.func = some f) (hco : env.code = .ref cda) (hcl : env.cells.lookup ("__class__" : Str) = some cc) (hk : env.scope.kind = .function)
    (hks : env.kindOf "super" = some .globalImplicit) (hkc : env.kindOf "__class__" = some .free) (hka : env.kindOf ar.arg = some .local) (hat : (name == ("__class__" : Str)) = false)
    (h : ∀ q h', s.heap.get? q = none → h'.get? q = some (bObj BT id x) → (∀ b o, s.heap.get? b = some o → h'.get? b = some o) →
      wpAny (model P w) A (callWith pos (.ref q) [] (backTo pos (starEach args env)) []) Q E { s with heap := h', toks := s.toks + 1 })
    (he : eval (.Call (.Attribute (.Call (.Name "super" p0) [] [] p1) name apos) args [] pos) env = (do
      let ov ← attributeBase (.Call (.Name "super" p0) [] [] p1) name env (eval (.Call (.Name "super" p0) [] [] p1) env)
      standAt apos.atName
      let (f, first) ← holding [ov] (getMethod ov name pl)
      callWith pos f first (backTo pos (starEach args env)) []) := by rfl) :
    PySem.wpAt (model P w) A (.func body env) (eval (.Call (.Attribute (.Call (.Name "super" p0) [] [] p1) name apos) args [] pos) env) Q E s := by
  refine ks_wpAt_MethodCall (super_base T n I hf hfd hp hv hcode hoc hvs hfile hcell hD hDt hsub hg hb hfu hco hcl hk hks hkc hka hat fun h' e k => ?_) he
  obtain ⟨hh, g, d, t, os⟩ := s
  have X : (KK w).In h' := fun b o e => k b o (T.K b o e)
  have I' : InstAt h' x ox C odx := ⟨k _ _ I.at_, I.cls, I.no, by
    have := I.dict
    revert this
    cases ox.dict <;> cases odx <;> first | exact fun z => z | exact fun z => k _ _ z⟩
  have hC : Looks (model P w) h' (mroOf (.ref C)) cdC.mro := (looks_clsIn X hcC).andThen .now
  have hl : (cdC.mro.dropWhile (· != .ref D)).drop 1 = behind (KK w) C D := by unfold behind; rw [hcC]
  have hsub' : Looks (model P w) h' (isSubtype (.ref C) (.type "dict")) true := looks_mroIn X hdict
  have hx : Looks (model P w) h' (typeOf (.ref x)) (.ref C) := I'.type
  have hxC : x ≠ C := ks_ne X I' hcC
  have nq : hh.get? h'.objs.size = none := by
    cases q : hh.get? h'.objs.size with
    | none => rfl
    | some o => exact absurd (Heap.lt_size (k _ _ q)) (Nat.lt_irrefl _)
  have fin := fun (BT : String) => h h'.objs.size (h'.push (bObj BT id x)) nq
  rcases hid with ⟨W, rfl⟩ | ⟨W, rfl⟩
  · refine getMethod_super e (looks_opaque X (third_no w)) hC hl X hal W.ty lk_wd_get slot_wd_get ent_wd_get args_wd_get hx (fun A' E' => wd_get W hx hsub' ⟨rfl, rfl⟩) hxC hat ?_
    exact fin _ (Heap.get?_push_size _ rfl) fun b o q => Heap.get?_push_of_some _ (k b o q)
  · refine getMethod_super e (looks_opaque X (third_no w)) hC hl X hal W.ty lk_md_get slot_md_get ent_md_get args_md_get hx (fun A' E' => md_get W hx hsub' ⟨rfl, rfl⟩) hxC hat ?_
    exact fin _ (Heap.get?_push_size _ rfl) fun b o q => Heap.get?_push_of_some _ (k b o q)
end
end Mine
end
section
open PySem PySem.W PySem.W.X PyProof.Rows PySem.Calls
set_option maxRecDepth 100000
set_option maxHeartbeats 400000
namespace Mine
def Chk (id : String) (args : Args) : Prop := ∀ (M : Model) (h : Heap), Looks M h (checkBoundCall id args) ()
theorem chk_iter (a : Value) : Chk "dict.__iter__" ⟨[a], []⟩ := fun _ _ => Looks.of_pure (by kernel_rfl)
theorem chk_init (a : Value) : Chk "dict.__init__" ⟨[a], []⟩ := fun _ _ => Looks.of_pure (by kernel_rfl)
theorem chk_init2 (a b : Value) : Chk "dict.__init__" ⟨[a, b], []⟩ := fun _ _ => Looks.of_pure (by kernel_rfl)
section
variable {w : World} {A : Around} {E : Value → Shared → Prop} {h : Heap} {g : Array GenState} {d : Drawn} {t : Nat} {os : OsState} {x C : Addr} {ox : Obj} {odx : Option Obj} {cdC : ClassData}
theorem chk_md {id : String} {args : List Value} (X : (KK w).In h) (I : InstAt h x ox C odx) (hc : clsIn (KK w) C = some cdC) (hm : mroIn (KK w) C (.type "module") = some false) (ht : typeIn (KK w) (.ref C) = some (.type "type"))
    (hk : builtinKind id = some .method) (hv : Manifest.varargsMethods.contains id = false) (ha : (match Manifest.signature? id with | some sig => Bind.checkArgs id { sig with full := s!"{cdC.qualname.toString}.{Bind.lastOf id}" } ⟨.ref x :: args, []⟩ | none => pure ()) = pure ()) :
    Looks (model P w) h (checkBoundCall id ⟨.ref x :: args, []⟩) () := by
  intro A Q E s k q
  obtain ⟨hh, g, d, t, os⟩ := s
  have X' : (KK w).In hh := fun b o e => k b o (X b o e)
  have hx := k _ _ I.at_
  have hcl := I.cls
  have hn := I.no
  obtain ⟨oc, odi, oda, osl⟩ := ox
  dsimp only at hcl hx
  subst hcl
  have L1 : Looks (model P w) hh (isInstance (.ref x) (.type "module")) false := Looks.andThen (a := .ref C) ((Looks.ld hx).andThen .now) (looks_mroIn X' hm)
  have L2 : Looks (model P w) hh (isType (.ref x)) false := by
    refine (Looks.ld hx).andThen ?_
    cases oda <;> first | exact .now | cases hn
  have L3 : Looks (model P w) hh (typeOf (.ref x)) (.ref C) := (Looks.ld hx).andThen .now
  have L4 := looks_clsIn (M := model P w) X' hc
  have L5 := looks_typeIn (M := model P w) X' ht
  unfold checkBoundCall
  cases hs : Manifest.signature? id with
  | none => exact wpAny_pure q
  | some sig =>
  rw [hs] at ha
  dsimp only at ha
  rw [hk]
  dsimp only
  rw [if_neg (by decide)]
  refine wpAny_bind (L1.at ?_)
  rw [hv]
  simp only [Bool.or_self, Bool.false_eq_true, if_false]
  refine wpAny_bind (L2.at ?_)
  simp only [Bool.false_eq_true, if_false]
  refine wpAny_bind (L3.at ?_)
  dsimp only
  refine wpAny_bind (L4.at (wpAny_bind (L5.at ?_)))
  simp only [beq_self_eq_true, if_true]
  rw [ha]
  exact wpAny_pure q
theorem code_bound {T id : String} {Bi : Builtin} {q : Addr} {args : Args} {R : Result → Shared → Prop} (hT : T = "method-wrapper" ∨ T = "builtin_function_or_method") (hq : h.get? q = some (bObj T id x))
    (hc : Looks (model P w) h (checkBoundCall id ⟨.ref x :: args.pos, args.kw⟩) ()) (hqt : ∀ a, (Code.builtin id a).quiet = true) (ent : entryFor table id = some Bi)
    (hb : wpAny (model P w) (A.under (.builtin id ⟨.ref x :: args.pos, args.kw⟩)) (Bi ⟨.ref x :: args.pos, args.kw⟩)
      (fun fin s' => match fin with | .done f => R (.ok f) s' | .again c' => c'.quiet = true ∧ codeAny (model P w) A c' R s') (fun e s' => R (.error e) s') ⟨h, g, d, t, os⟩) :
    codeAny (model P w) A (.call (.ref q) args) R ⟨h, g, d, t, os⟩ := by
  refine codeAny_of_tree ?_
  show wpAny _ A.in1 (callAny (.ref q) args) _ _ _
  unfold callAny
  refine wpAny_bind (wpAny_load hq ?_)
  dsimp only
  rw [if_pos (by rcases hT with rfl | rfl <;> decide)]
  show wpAny _ _ (if (Value.type T != .type "method") = true then _ else _) _ _ _
  rw [if_pos (by rcases hT with rfl | rfl <;> decide)]
  refine wpAny_bind (hc.at (wpAny_bind (wpAny_pure ?_)))
  exact wpAny_pure (And.intro (hqt _) (codeAny_builtin ent hb))
variable {s : Shared} {env : Env} {pos : Pos} {q : Addr} {Q : Value → Shared → Prop}
theorem keeps_b {T id : String} (hT : T = "method-wrapper" ∨ T = "builtin_function_or_method") (h : Heap) (hq : h.get? q = some (bObj T id x)) : ∃ k, (k = Keeper.frame ∨ k = Keeper.machine ∨ k = Keeper.boundFrame) ∧ Looks (model P w) h (keeperOf (.ref q)) k := by
  refine ⟨.machine, .inr (.inl rfl), fun A Q E s k z => ?_⟩
  unfold keeperOf
  refine wpAny_bind (wpAny_load (k _ _ hq) ?_)
  dsimp only
  rcases hT with rfl | rfl <;> exact wpAny_pure z
theorem call_b {T id : String} {e : Expr} {rest : List Expr} (hT : T = "method-wrapper" ∨ T = "builtin_function_or_method")
    (h : wpAny (model P w) A (spliced (backTo pos (starEach (e :: rest) env))) (fun vs s₁ => s₁.heap.get? q = some (bObj T id x) ∧ wpAny (model P w) A (call (.ref q) ([] ++ vs)) Q E s₁) E s)
    (he : starEach (e :: rest) env = (false, eval e env) :: starEach rest env := by rfl) (hplain : (backTo pos (starEach rest env)).any (·.1) = false := by rfl) :
    wpAny (model P w) A (callWith pos (.ref q) [] (backTo pos (starEach (e :: rest) env)) []) Q E s := by
  rw [he] at h ⊢
  exact callWith_of (P := fun h => h.get? q = some (bObj T id x)) (by show ((false || (backTo pos (starEach rest env)).any (·.1)) || false) = false; rw [hplain]; rfl) (keeps_b hT) (evalArgs_plain h)
theorem call_b0 {T id : String} (hT : T = "method-wrapper" ∨ T = "builtin_function_or_method") (hq : s.heap.get? q = some (bObj T id x)) (h : wpAny (model P w) A (call (.ref q) ([] ++ [])) Q E s) : wpAny (model P w) A (callWith pos (.ref q) [] (backTo pos (starEach [] env)) []) Q E s :=
  callWith_of (P := fun h => h.get? q = some (bObj T id x)) rfl (keeps_b hT) (evalArgs_nil3 ⟨hq, h⟩)
theorem enterAt {R : Result → Shared → Prop} {a : Addr} {o : Obj} {fd : FuncData} {body : List Stmt} {args : Args} (binds : List (Str × Value)) {n : Nat} (hA : Rm n A) (T : TopH w s.heap)
    (ho : (KK w).lookup a = some o) (hdata : o.data = .func fd) (hcd : codeIn (KK w) fd.code fd.qualname = true)
    (hbody : fd.body = .stmts body) (hbind : BindsTo s fd args binds)
    (hcell : ∀ x ∈ fd.scope.names, x.2 ≠ .cell) (hloc : ∀ x ∈ binds, fd.scope.names.lookup x.1 = some .local)
    (h : ∀ h₁, Me [] s.heap h₁ s.heap.objs.size (fun x => binds.reverse.lookup x) [] → Rm (n + 1) (A.deeper (callEnv fd s.heap.objs.size a)) → (A.deeper (callEnv fd s.heap.objs.size a)).handled = A.handled →
      PySem.wpAt (model P w) (A.deeper (callEnv fd s.heap.objs.size a)) (.func body (callEnv fd s.heap.objs.size a)) (execs body (callEnv fd s.heap.objs.size a)) (fun f s' => R (.ok (.ret (match f with | .ret v => v | _ => .none))) s')
        (fun e s' => wpAny (model P w) (A.deeper (callEnv fd s.heap.objs.size a)) (leaving (callEnv fd s.heap.objs.size a) e) (fun _ s'' => R (.error e) s'') (fun e' s'' => R (.error e') s'') s')
        { s with heap := h₁, toks := s.toks + binds.length })
    (hn : n ≤ 600 := by decide) (hco : fd.scope.isCoroutine = false := by rfl) (hgen : fd.scope.isGenerator = false := by rfl) (hk : fd.scope.kind = .function := by rfl) : codeAny (model P w) A (.call (.ref a) args) R s :=
  ks_codeAny_call_defAt (hA.dlt hn) (T.K _ _ ho) hdata T.lim (codeRec_of T.K hcd) hbody hbind hcell hloc (fun h₁ n k => h h₁ (.start n k) (hA.deeper _) rfl) hco hgen hk
end
theorem ent_iter : entryFor table "dict.__iter__" = some Builtin.«dict.__iter__» := F.entry_dict_iter
section
variable {w : World} {A : Around} {E : Value → Shared → Prop} {h : Heap} {g : Array GenState} {d : Drawn} {t : Nat} {os : OsState} {x C dx ep : Addr} {od : Obj} {es : Array DictEntry} {cdC : ClassData}
theorem run_iter {Q : Fin → Shared → Prop} (X : (KK w).In h) (I : Inst h x C dx od es ep) (ho : mroIn (KK w) C (.type "collections.OrderedDict") = some false) (hx : (x == sysModules) = false)
    (hq : Q (.done (.ret (.ref h.objs.size))) ⟨h.push { cls := .type "dict_keyiterator", data := .fields #[.ref x, .int 0 0, .int es.size 0, .int ep 0] }, g, d, t, os⟩) :
    wpAny (model P w) A (Builtin.«dict.__iter__» ⟨[.ref x], []⟩) Q E ⟨h, g, d, t, os⟩ := by
  have hI := I.at_
  have L : Looks (model P w) h (typeOf (.ref x)) (.ref C) := (Looks.ld hI).andThen .now
  have L1 : Looks (model P w) h (isInstance (.ref x) (.type "collections.OrderedDict")) false := L.andThen (looks_mroIn X ho)
  have L2 : Looks (model P w) h (isSubtype (.ref C) (.type "collections.OrderedDict")) false := looks_mroIn X ho
  unfold Builtin.«dict.__iter__»
  repeat (first | simp only [hx, Bool.false_eq_true, if_false] | lk)
  exact hq
end
end Mine
end
section
open PySem PySem.W PySem.W.X PyProof.Rows PySem.Calls
set_option maxRecDepth 100000
set_option maxHeartbeats 400000
namespace Mine
abbrev KD (w : World) : PySem.KeyKind P w Str := PySem.strKind P w
structure DD (w : World) (h : Heap) (d : Addr) (C : Value) (dx : Option Addr) (kvs : List (Str × Value)) (es : Array DictEntry) (ep : Nat) : Prop where
  at_ : h.get? d = some { cls := C, dict := dx, data := .dict es ep, slots := #[] }
  keys : KeysOf (KD w) es
  prs : Pairs (KD w) es.toList kvs
  nd : (kvs.map (·.1)).Nodup
section
variable {w : World} {A : Around} {E : Value → Shared → Prop} {s : Shared} {h h' : Heap} {d : Addr} {C : Value} {dx : Option Addr} {kvs : List (Str × Value)} {es : Array DictEntry} {ep : Nat} {k : Str} {t : Tok} {v : Value} {mod : List Addr}
theorem DD.get (x : DD w h d C dx kvs es ep) (e : h'.get? d = h.get? d) : DD w h' d C dx kvs es ep := ⟨e.trans x.at_, x.keys, x.prs, x.nd⟩
theorem DD.ext (x : DD w h d C dx kvs es ep) (e : Ext mod h h') (hc : hasCls { cls := C, dict := dx, data := .dict es ep, slots := #[] : Obj } = true) (hm : d ∉ mod) : DD w h' d C dx kvs es ep := ⟨e.get x.at_ hc hm, x.keys, x.prs, x.nd⟩
theorem DD.keeps (x : DD w h d C dx kvs es ep) (e : ∀ b o, h.get? b = some o → h'.get? b = some o) : DD w h' d C dx kvs es ep := ⟨e _ _ x.at_, x.keys, x.prs, x.nd⟩
theorem DD.size (x : DD w h d C dx kvs es ep) : es.size = kvs.length := by rw [← x.prs.length]; simp
theorem DD.of (x : h.DictOf (KD w) d kvs) : ∃ es ep, DD w h d (.type "dict") none kvs es ep := by
  obtain ⟨⟨c, dd, dt, sl⟩, es, ep, ho, ⟨hc, hd, hs⟩, hdt, hk, hp, hn⟩ := x
  dsimp only at hc hd hs hdt
  subst hc hd hs hdt
  exact ⟨es, ep, ho, hk, hp, hn⟩
theorem DD.dictAt (x : DD w h d (.type "dict") none kvs es ep) : h.DictAt (KD w) d kvs ep := ⟨_, es, x.at_, ⟨rfl, rfl, rfl⟩, rfl, x.keys, x.prs, x.nd⟩
theorem DD.new (h : Heap) : DD w (h.push { cls := .type "dict", data := .dict #[] }) h.objs.size (.type "dict") none [] #[] 0 := ⟨Heap.get?_push_size _ rfl, fun _ q => by simp at q, .nil, List.nodup_nil⟩
theorem kd_is (w : World) (k : Str) (t : Tok) : (KD w).is k (.str k t) = true := by show Value.isStrOf k (.str k t) = true; simp [Value.isStrOf]
theorem DD.find (x : DD w h d C dx kvs es ep) : (es.findIdx? fun e => (KD w).is k e.key) = kvs.findIdx? fun kv => decide (kv.1 = k) := by
  rw [← x.prs.findIdx k]; obtain ⟨l⟩ := es; simp
theorem get_DD {Q : Option Value → Shared → Prop} (x : DD w s.heap d C dx kvs es ep) (q : Q (valueAt kvs k) { s with toks := s.toks + 1 }) : wpAny (model P w) A (dictGet d (.str k t)) Q E s := by
  unfold dictGet
  refine wpAny_holding (wpAny_bind ((KD w).pyHash (kd_is w k t) (wpAny_bind (wpAny_dictFind_of (s := { s with toks := s.toks + 1 }) (kd_is w k t) x.at_ rfl x.keys ?_))))
  rw [← x.prs.find k] at q
  cases hi : es.findIdx? fun e => (KD w).is k e.key with
  | none =>
    have : es.toList.find? (fun e => (KD w).is k e.key) = none := by
      rw [List.find?_eq_none]
      intro e he
      simpa using Array.findIdx?_eq_none_iff.mp hi e (Array.mem_toList_iff.mp he)
    rw [this] at q
    exact wpAny_pure q
  | some i =>
    refine wpAny_bind (wpAny_dictEntries (s := { s with toks := s.toks + 1 }) x.at_ rfl (wpAny_pure ?_))
    have hl : (es.toList.findIdx? fun e => (KD w).is k e.key) = some i := by rw [← hi]; obtain ⟨l⟩ := es; simp
    have e2 : es.toList.find? (fun e => (KD w).is k e.key) = es.toList[i]? := by
      obtain ⟨h1, h2, h3⟩ := List.findIdx?_eq_some_iff_getElem.mp hl
      rw [List.getElem?_eq_getElem h1]
      exact List.find?_eq_some_iff_getElem.mpr ⟨h2, i, h1, rfl, fun j hj => by simpa using h3 j hj⟩
    rw [e2, Array.getElem?_toList] at q
    exact q
theorem DD.more (x : DD w h d C dx kvs es ep) (hn : k ∉ kvs.map (·.1)) : DD w (h.update d (Obj.mapDictKeys (·.push ⟨hashStr w k, .str k t, v⟩))) d C dx (kvs ++ [(k, v)]) (es.push ⟨hashStr w k, .str k t, v⟩) (ep + 1) := by
  refine ⟨?_, x.keys.push (kd_is w k t) v, ?_, ?_⟩
  · have := Heap.get?_update_self (h := h) (Obj.mapDictKeys (·.push ⟨hashStr w k, .str k t, v⟩)) x.at_ rfl
    exact this
  · have := x.prs.append (kd_is w k t) (hashStr w k) v
    obtain ⟨l⟩ := es
    simpa using this
  · rw [List.map_append, List.nodup_append]
    refine ⟨x.nd, by simp, ?_⟩
    intro a ha b hb
    simp only [List.map_cons, List.map_nil, List.mem_singleton] at hb
    subst hb
    exact fun e => hn (e ▸ ha)
theorem setDefault_DD {Q : Value → Shared → Prop} (x : DD w s.heap d C dx kvs es ep) (hz : kvs.length ≤ 1000)
    (q1 : ∀ u, valueAt kvs k = some u → Q u { s with toks := s.toks + 1 })
    (q2 : k ∉ kvs.map (·.1) → ∀ h' es' ep', DD w h' d C dx (kvs ++ [(k, v)]) es' ep' → Heap.SameBut d s.heap h' → Q v { s with heap := h', toks := s.toks + 1 }) :
    wpAny (model P w) A (dictSetDefault d (.str k t) v) Q E s := by
  unfold dictSetDefault
  refine wpAny_holding (wpAny_bind ((KD w).pyHash (kd_is w k t) (wpAny_bind (wpAny_dictFind_of (s := { s with toks := s.toks + 1 }) (kd_is w k t) x.at_ rfl x.keys ?_))))
  cases hi : es.findIdx? fun e => (KD w).is k e.key with
  | some i =>
    have hl : (es.toList.findIdx? fun e => (KD w).is k e.key) = some i := by rw [← hi]; obtain ⟨l⟩ := es; simp
    obtain ⟨e, he, hek, hev⟩ := x.prs.at hl
    refine wpAny_bind (wpAny_dictEntries (s := { s with toks := s.toks + 1 }) x.at_ rfl ?_)
    rw [Array.getElem?_toList] at he
    rw [he]
    exact wpAny_bind (wpAny_rule (wpAny_pure (q1 _ hev)))
  | none =>
    have hn := not_mem_of_findIdx_none (x.find ▸ hi)
    refine wpAny_bind (wpAny_rule (wpAny_bind (wpAny_updateDictKeys (hz := by rw [x.size, sizeLine_eq]; omega) (s := { s with toks := s.toks + 1 }) x.at_ rfl (wpAny_pure (q2 hn _ _ _ (x.more hn) (Heap.SameBut.update ..))))))
theorem setHashed_DD {Q : Unit → Shared → Prop} (x : DD w s.heap d C dx kvs es ep) (hz : kvs.length ≤ 1000) (hn : k ∉ kvs.map (·.1))
    (q : ∀ h' es' ep', DD w h' d C dx (kvs ++ [(k, v)]) es' ep' → Heap.SameBut d s.heap h' → Q () { s with heap := h' }) :
    wpAny (model P w) A (dictSetHashed d (.str k t) (hashStr w k) v) Q E s := by
  unfold dictSetHashed
  refine wpAny_holding (wpAny_bind (wpAny_dictFind_of (knd := KD w) (kd_is w k t) x.at_ rfl x.keys ?_))
  rw [x.find, List.findIdx?_eq_none_iff.mpr fun kv hkv => by rw [decide_eq_false_iff_not]; exact fun e => hn (by rw [← e]; exact List.mem_map_of_mem (f := (·.1)) hkv)]
  exact wpAny_bind (wpAny_rule (wpAny_updateDictKeys (hz := by rw [x.size, sizeLine_eq]; omega) x.at_ rfl (q _ _ _ (x.more hn) (Heap.SameBut.update ..))))
end
end Mine
end
section
open PySem PySem.W PySem.W.X PyProof.Rows PySem.Calls
set_option maxRecDepth 100000
set_option maxHeartbeats 400000
namespace Mine
theorem ent_init : entryFor table "dict.__init__" = some Builtin.«dict.__init__» := F.entry_dict_init
section
variable {w : World} {A : Around} {E : Value → Shared → Prop} {s : Shared} {x o dx : Addr} {C : Value} {dxo : Option Addr} {more : List (Str × Value)} {es es' : Array DictEntry} {ep ep' : Nat}
theorem few_DD {h : Heap} {C : Value} {dx : Option Addr} (y : DD w h o C dx more es ep) (hz : more.length ≤ 8) : (decide (es.size ≤ 8) && es.all fun e => (keyPart e.key).isSome) = true := by
  have hs : es.size ≤ 8 := by rw [y.size]; exact hz
  rw [decide_eq_true hs, Bool.true_and, Array.all_eq_true]
  intro i hi
  obtain ⟨k, hk, _⟩ := y.keys es[i] (Array.getElem_mem hi)
  obtain ⟨t, e⟩ := Value.isStrOf_shape hk
  rw [e]; rfl
theorem merge_DD {nm : String} {Q : Unit → Shared → Prop} (hxo : x ≠ o) (ho : (o == sysModules) = false) (X : DD w s.heap x C dxo [] es ep) (Y : DD w s.heap o (.type "dict") none more es' ep') (hz : more.length ≤ 8)
    (q : ∀ h' es₁ ep₁, DD w h' x C dxo more es₁ ep₁ → Heap.SameBut x s.heap h' → Q () { s with heap := h' }) :
    wpAny (model P w) A (Builtin.Dict.mergeDict nm x o) Q E s := by
  unfold Builtin.Dict.mergeDict
  rw [if_neg (by simpa using hxo)]
  unfold Builtin.Dict.showsAll
  rw [if_neg (by rw [ho]; exact Bool.false_ne_true)]
  refine wpAny_bind (wpAny_pure ?_)
  refine wpAny_bind (wpAny_dictEntries Y.at_ rfl ?_)
  dsimp only
  rw [few_DD Y hz]
  simp only [Bool.not_true, Bool.false_eq_true, if_false]
  refine wpAny_bind (wpAny_dictEpoch Y.at_ rfl ?_)
  refine wpAny_bind (wpAny_dictEntries Y.at_ rfl ?_)
  refine wpAny_bind ?_
  rw [Std.Legacy.Range.forIn_eq_forIn_range']
  simp only [Std.Legacy.Range.size, Nat.sub_zero, Nat.add_sub_cancel, Nat.div_one]
  have hn := Y.size
  refine wpAny_forIn_list _
    (fun rest _ s' => ∃ h' i es₁ ep₁, s' = { s with heap := h' } ∧ rest = List.range' i (es'.size - i) ∧ i ≤ es'.size ∧ DD w h' x C dxo (more.take i) es₁ ep₁ ∧ Heap.SameBut x s.heap h') _ ?_ ?_ _ _
    ⟨s.heap, 0, es, ep, rfl, by simp, Nat.zero_le _, X, Heap.SameBut.refl _ _⟩
  · rintro j rest b s' ⟨h', i, es₁, ep₁, rfl, hr, hi, D, sb⟩
    have hlt : i < es'.size := by
      rcases Nat.lt_or_ge i es'.size with z | z
      · exact z
      · rw [Nat.sub_eq_zero_of_le z] at hr; simp at hr
    obtain ⟨rfl, hrest⟩ : j = i ∧ rest = List.range' (i + 1) (es'.size - (i + 1)) := by
      rw [show es'.size - i = (es'.size - (i + 1)) + 1 by omega, List.range'_succ] at hr
      injection hr with h1 h2
      exact ⟨h1, h2⟩
    have hY : h'.get? o = s.heap.get? o := sb.2 o (Ne.symm hxo)
    have Y' := Y.get hY
    refine wpAny_bind (wpAny_dictEntries Y'.at_ rfl ?_)
    rw [Array.getElem?_eq_getElem hlt]
    have hlm : j < more.length := by omega
    obtain ⟨hkey, hval⟩ := Y.prs.get? (e := es'[j]) (k := more[j].1) (v := more[j].2) (by simp [hlt]) (List.getElem?_eq_getElem hlm)
    obtain ⟨k', hkey', hhash⟩ := Y.keys es'[j] (Array.getElem_mem hlt)
    obtain rfl : k' = more[j].1 := (KD w).inj _ _ _ hkey' hkey
    obtain ⟨tk, etk⟩ := Value.isStrOf_shape hkey
    show wpAny _ _ (holding [es'[j].key, es'[j].val] (dictSetHashed x es'[j].key es'[j].hash es'[j].val) >>= _) _ _ _
    rw [hhash, hval, etk]
    have nk : more[j].1 ∉ (more.take j).map (·.1) := by
      intro q
      obtain ⟨p, hp, e⟩ := List.mem_map.mp q
      obtain ⟨i', hi', e'⟩ := List.mem_take_iff_getElem.mp hp
      have nd := List.pairwise_iff_getElem.mp Y.nd i' j (by rw [List.length_map]; omega) (by rw [List.length_map]; exact hlm) (by omega)
      rw [List.getElem_map, List.getElem_map] at nd
      rw [e'] at nd
      exact nd e
    refine wpAny_bind (wpAny_holding (setHashed_DD D (by rw [List.length_take]; omega) nk fun h'' es₂ ep₂ D₂ sb₂ => ?_))
    have Y'' := Y.get ((sb₂.2 o (Ne.symm hxo)).trans hY)
    refine wpAny_bind (wpAny_dictEpoch Y''.at_ rfl ?_)
    rw [if_neg (by simp)]
    refine wpAny_pure ⟨h'', j + 1, es₂, ep₂, rfl, hrest, hlt, ?_, sb.trans sb₂⟩
    have : more.take (j + 1) = more.take j ++ [more[j]] := by rw [List.take_succ_eq_append_getElem hlm]
    rw [this]; exact D₂
  · rintro b s' ⟨h', i, es₁, ep₁, rfl, hr, hi, D, sb⟩
    have : i = es'.size := by
      rcases Nat.lt_or_ge i es'.size with z | z
      · rw [show es'.size - i = (es'.size - (i + 1)) + 1 by omega, List.range'_succ] at hr; exact nomatch hr
      · omega
    rw [this, hn, List.take_length] at D
    exact wpAny_pure (q _ _ _ D sb)
end
section
variable {w : World} {A : Around} {E : Value → Shared → Prop} {h : Heap} {g : Array GenState} {d : Drawn} {t : Nat} {os : OsState} {x o C dx : Addr} {more : List (Str × Value)} {es es' : Array DictEntry} {ep ep' : Nat}
theorem run_init0 {Q : Fin → Shared → Prop} (X : (KK w).In h) (I : DD w h x (.ref C) (some dx) [] es ep) (ho : mroIn (KK w) C (.type "collections.OrderedDict") = some false)
    (q : Q (.done (.ret .none)) ⟨h, g, d, t, os⟩) : wpAny (model P w) A (Builtin.«dict.__init__» ⟨[.ref x], []⟩) Q E ⟨h, g, d, t, os⟩ := by
  have hI := I.at_
  have L : Looks (model P w) h (typeOf (.ref x)) (.ref C) := (Looks.ld hI).andThen .now
  have L2 : Looks (model P w) h (isSubtype (.ref C) (.type "collections.OrderedDict")) false := looks_mroIn X ho
  unfold Builtin.«dict.__init__»
  repeat (first | simp only [Bool.false_eq_true, if_false] | lk)
  exact q
theorem run_init1 {Q : Fin → Shared → Prop} (X : (KK w).In h) (I : DD w h x (.ref C) (some dx) [] es ep) (Y : DD w h o (.type "dict") none more es' ep') (hxo : x ≠ o) (hoS : (o == sysModules) = false) (hz : more.length ≤ 8) (ho : mroIn (KK w) C (.type "collections.OrderedDict") = some false)
    (q : ∀ h' es₁ ep₁, DD w h' x (.ref C) (some dx) more es₁ ep₁ → Heap.SameBut x h h' → Q (.done (.ret .none)) ⟨h', g, d, t, os⟩) : wpAny (model P w) A (Builtin.«dict.__init__» ⟨[.ref x, .ref o], []⟩) Q E ⟨h, g, d, t, os⟩ := by
  have hI := I.at_
  have hY := Y.at_
  have L : Looks (model P w) h (typeOf (.ref x)) (.ref C) := (Looks.ld hI).andThen .now
  have L2 : Looks (model P w) h (isSubtype (.ref C) (.type "collections.OrderedDict")) false := looks_mroIn X ho
  have L3 : Looks (model P w) h (typeOf (.ref o)) (.type "dict") := (Looks.ld hY).andThen .now
  have L4 : Looks (model P w) h (isSubtype (.type "dict") (.type "dict")) true := Looks.of_pure isSubtype_dict_dict
  have L5 : Looks (model P w) h (typeLookup (.type "dict") "__iter__") (some (.builtin "dict.__iter__")) := Looks.of_pure F.slot_dict_iter.lookup
  unfold Builtin.«dict.__init__»
  repeat (first | (show wpAny _ _ (Builtin.Dict.mergeDict _ _ _) _ _ _; refine merge_DD (s := ⟨h, g, d, t, os⟩) hxo hoS I Y hz (fun h' es₁ ep₁ D sb => ?_)) | simp only [Bool.false_eq_true, if_false] | lk)
  exact q _ _ _ D sb
end
end Mine
end
section
open PySem PySem.W PySem.W.X PyProof.Rows PySem.Calls
set_option maxRecDepth 100000
set_option maxHeartbeats 400000
namespace Mine
abbrev lsObj (vs : Array Value) (n : Nat) : Obj := { cls := .type "list", data := .seq vs n }
def IL (b : Addr) (h : Heap) (a : Addr) (ns : List Int) : Prop := b ≤ a ∧ ∃ (vs : Array Value) (n : Nat), h.get? a = some (lsObj vs n) ∧ IntsAre vs.toList ns
theorem ia_len {l : List Value} {ns : List Int} (x : IntsAre l ns) : l.length = ns.length := by
  induction x with
  | nil => rfl
  | cons _ _ _ ih => simp [ih]
theorem ia_get {l : List Value} {ns : List Int} (x : IntsAre l ns) : ∀ {i : Nat} {n : Int}, ns[i]? = some n → ∃ t, l[i]? = some (.int n t) := by
  induction x with
  | nil => intro i n e; simp at e
  | cons m t _ ih =>
    intro i n e
    cases i with
    | zero => simp at e; subst e; exact ⟨t, rfl⟩
    | succ i => simpa using ih (by simpa using e)
theorem ia_app {l : List Value} {ns : List Int} (x : IntsAre l ns) {l' : List Value} {ns' : List Int} (y : IntsAre l' ns') : IntsAre (l ++ l') (ns ++ ns') := by
  induction x with
  | nil => exact y
  | cons m t _ ih => exact .cons m t ih
theorem ia_rd {b : Addr} {h : Heap} {l : List Value} {ns : List Int} (x : IntsAre l ns) {i : Nat} {v : Value} {d : PyData} (e1 : l[i]? = some v) (e2 : (ns.map PyData.int)[i]? = some d) : Rd b h v d := by
  rw [List.getElem?_map] at e2
  obtain ⟨n, en, rfl⟩ := Option.map_eq_some_iff.mp e2
  obtain ⟨t, et⟩ := ia_get x en
  rw [e1] at et; cases et
  exact .int n t
theorem IL.isList {b : Addr} {h : Heap} {a : Addr} {ns : List Int} (x : IL b h a ns) : ∃ vs, h.IsList a vs := let ⟨_, vs, n, e, _⟩ := x; ⟨vs, _, e, rfl, n, rfl⟩
theorem IL.ls {b : Addr} {h : Heap} {a : Addr} {ns : List Int} (x : IL b h a ns) : ∃ vs, LsAt b h a vs (ns.map .int) := by
  obtain ⟨hb, vs, n, e, hi⟩ := x
  exact ⟨vs, hb, ⟨_, e, rfl, n, rfl⟩, by rw [List.length_map, ← ia_len hi]; simp, fun i v d e1 e2 => ia_rd hi (by rwa [Array.getElem?_toList]) e2⟩
theorem IL.rd {b : Addr} {h : Heap} {a : Addr} {ns : List Int} (x : IL b h a ns) : Rd b h (.ref a) (.list (ns.map .int)) := let ⟨_, y⟩ := x.ls; y.rdl
theorem IL.ext {b : Addr} {h h' : Heap} {a : Addr} {ns : List Int} {mod : List Addr} (x : IL b h a ns) (e : Ext mod h h') (hm : a ∉ mod) : IL b h' a ns := let ⟨hb, vs, n, q, hi⟩ := x; ⟨hb, vs, n, e.get q rfl hm, hi⟩
theorem isList_sb {h h' : Heap} {a c : Addr} {vs : Array Value} (x : h.IsList a vs) (e : Heap.SameBut c h h') (hm : a ≠ c) : h'.IsList a vs := let ⟨o, ho, r⟩ := x; ⟨o, (e.2 a hm).trans ho, r⟩
theorem IL.sb {b : Addr} {h h' : Heap} {a c : Addr} {ns : List Int} (x : IL b h a ns) (e : Heap.SameBut c h h') (hm : a ≠ c) : IL b h' a ns := let ⟨hb, vs, n, q, hi⟩ := x; ⟨hb, vs, n, (e.2 a hm).trans q, hi⟩
theorem IL.keeps {b : Addr} {h h' : Heap} {a : Addr} {ns : List Int} (x : IL b h a ns) (e : ∀ b o, h.get? b = some o → h'.get? b = some o) : IL b h' a ns := let ⟨hb, vs, n, q, hi⟩ := x; ⟨hb, vs, n, e _ _ q, hi⟩
theorem IL.lt {b : Addr} {h : Heap} {a : Addr} {ns : List Int} (x : IL b h a ns) : a < h.objs.size := let ⟨_, _, _, q, _⟩ := x; Heap.lt_size q
theorem append_raw {w : World} {A : Around} {E : Value → Shared → Prop} {s : Shared} {l : Addr} {vs : Array Value} {n : Nat} {x : Value} {Q : Value → Shared → Prop} (hl : s.heap.get? l = some (lsObj vs n)) (hz : vs.size ≤ 1000)
    (q : ∀ h' n', h'.get? l = some (lsObj (vs.push x) n') → Heap.SameBut l s.heap h' → Q .none { s with heap := h' }) : wpAny (model P w) A (call (.builtin "list.append") [.ref l, x]) Q E s := by
  refine wpAny_call_entry F.slot_list_append (show s.TypeIs (.ref l) "list" from ⟨_, hl, rfl⟩) F.entry_list_append ?_ (F.args_list_append_2 _ _)
  show wpAny _ _ (updateSeq l (·.push x) >>= fun _ => ret .none) _ _ s
  refine wpAny_bind ?_
  obtain ⟨n', e⟩ : ∃ n', Obj.mapSeq (·.push x) (lsObj vs n) = lsObj (vs.push x) n' := ⟨_, rfl⟩
  refine wpAny_updateSeq (hz := by rw [sizeLine_eq]; omega) hl rfl (wpAny_pure ⟨.none, rfl, q _ n' ?_ (Heap.SameBut.update ..)⟩)
  rw [← e]
  exact Heap.get?_update_self _ hl rfl
abbrev Grp := List (Str × List Int)
def addTo (g : Grp) (k : Str) (n : Int) : Grp := if k ∈ g.map (·.1) then g.map (fun p => if p.1 = k then (p.1, p.2 ++ [n]) else p) else g ++ [(k, [n])]
def grp (ps : List (Str × Int)) : Grp := ps.foldl (fun g p => addTo g p.1 p.2) []
theorem grp_snoc (ps : List (Str × Int)) (k : Str) (n : Int) : grp (ps ++ [(k, n)]) = addTo (grp ps) k n := by simp [grp, List.foldl_append]
theorem addTo_len (g : Grp) (k : Str) (n : Int) : (addTo g k n).length ≤ g.length + 1 := by unfold addTo; split <;> simp
theorem grp_len (ps : List (Str × Int)) : (grp ps).length ≤ ps.length := by
  have key : ∀ (l : List (Str × Int)) (g : Grp), (l.foldl (fun g p => addTo g p.1 p.2) g).length ≤ g.length + l.length := by
    intro l
    induction l with
    | nil => intro g; simp
    | cons p l ih => intro g; have := ih (addTo g p.1 p.2); have := addTo_len g p.1 p.2; simp only [List.foldl_cons, List.length_cons] at *; omega
  simpa [grp] using key ps []
theorem addTo_each {g : Grp} {k : Str} {n : Int} {m : Nat} (h : ∀ p ∈ g, p.2.length ≤ m) (hm : 1 ≤ m + 1) : ∀ p ∈ addTo g k n, p.2.length ≤ m + 1 := by
  intro p hp
  unfold addTo at hp
  split at hp
  · obtain ⟨q, hq, rfl⟩ := List.mem_map.mp hp
    have := h q hq
    split <;> simp <;> omega
  · rcases List.mem_append.mp hp with hp | hp
    · have := h p hp; omega
    · rw [List.mem_singleton.mp hp]; simp
theorem grp_each (ps : List (Str × Int)) : ∀ p ∈ grp ps, p.2.length ≤ ps.length := by
  have key : ∀ (l : List (Str × Int)) (g : Grp) (m : Nat), (∀ p ∈ g, p.2.length ≤ m) → ∀ p ∈ l.foldl (fun g p => addTo g p.1 p.2) g, p.2.length ≤ m + l.length := by
    intro l
    induction l with
    | nil => intro g m h; simpa using h
    | cons q l ih => intro g m h p hp; have := ih (addTo g q.1 q.2) (m + 1) (addTo_each h (by omega)) p hp; simp only [List.length_cons]; omega
  have := key ps [] 0 (fun _ q => nomatch q)
  simpa [grp] using this
structure GL (b : Addr) (h : Heap) (kvs : List (Str × Value)) (g : Grp) : Prop where
  len : kvs.length = g.length
  at_ : ∀ (i : Nat) (k : Str) (v : Value), kvs[i]? = some (k, v) → ∃ ns a, g[i]? = some (k, ns) ∧ v = .ref a ∧ IL b h a ns
  inj : ∀ (i j : Nat) (k k' : Str) (a : Addr), kvs[i]? = some (k, .ref a) → kvs[j]? = some (k', .ref a) → i = j
theorem GL.nil (b : Addr) (h : Heap) : GL b h [] [] := ⟨rfl, fun i k v e => by simp at e, fun i j k k' a e => by simp at e⟩
section
variable {b : Addr} {h h' : Heap} {kvs : List (Str × Value)} {g : Grp} {k : Str} {n : Int} {mod : List Addr}
theorem GL.keys (x : GL b h kvs g) : kvs.map (·.1) = g.map (·.1) := by
  refine List.ext_getElem? fun i => ?_
  rw [List.getElem?_map, List.getElem?_map]
  cases e : kvs[i]? with
  | none =>
    have : g[i]? = none := by rw [List.getElem?_eq_none_iff] at e ⊢; rw [← x.len]; exact e
    rw [this]; rfl
  | some p =>
    obtain ⟨ns, a, e', _⟩ := x.at_ i p.1 p.2 e
    rw [e']; rfl
theorem GL.ext (x : GL b h kvs g) (e : Ext mod h h') (hm : ∀ a ∈ mod, a < b ∨ h.get? a = none) : GL b h' kvs g := by
  refine ⟨x.len, fun i k v q => ?_, x.inj⟩
  obtain ⟨ns, a, e1, e2, e3⟩ := x.at_ i k v q
  refine ⟨ns, a, e1, e2, e3.ext e fun z => ?_⟩
  rcases hm a z with z | z
  · exact absurd e3.1 (Nat.not_le.mpr z)
  · obtain ⟨_, _, _, ho, _⟩ := e3
    rw [z] at ho
    cases ho
theorem GL.keeps (x : GL b h kvs g) (e : ∀ b o, h.get? b = some o → h'.get? b = some o) : GL b h' kvs g := x.ext (.of_keeps e) fun _ q => nomatch q
theorem GL.sb (x : GL b h kvs g) {c : Addr} (e : Heap.SameBut c h h') (hc : ∀ (i : Nat) (k : Str) (a : Addr), kvs[i]? = some (k, .ref a) → a ≠ c) : GL b h' kvs g :=
  ⟨x.len, fun i k v q => by
    obtain ⟨ns, a, e1, e2, e3⟩ := x.at_ i k v q
    subst e2
    exact ⟨ns, a, e1, rfl, e3.sb e (hc i k a q)⟩, x.inj⟩
theorem GL.there (x : GL b h kvs g) {u : Value} (hv : valueAt kvs k = some u) : ∃ (i : Nat) (ns : List Int) (a : Addr), kvs[i]? = some (k, .ref a) ∧ g[i]? = some (k, ns) ∧ u = .ref a ∧ IL b h a ns := by
  unfold valueAt at hv
  obtain ⟨p, hp, rfl⟩ := Option.map_eq_some_iff.mp hv
  obtain ⟨i, hi, hpi⟩ := List.mem_iff_getElem.mp (List.mem_of_find?_eq_some hp)
  have hk : p.1 = k := by simpa using List.find?_some hp
  have e : kvs[i]? = some (k, p.2) := by rw [List.getElem?_eq_getElem hi, hpi, ← hk]
  obtain ⟨ns, a, e1, e2, e3⟩ := x.at_ i k p.2 e
  exact ⟨i, ns, a, by rw [e, e2], e1, e2, e3⟩
theorem GL.push (x : GL b h kvs g) (hk : k ∉ kvs.map (·.1)) {a : Addr} (ha : IL b h a [n]) (hf : ∀ (i : Nat) (k' : Str) (a' : Addr), kvs[i]? = some (k', .ref a') → a' ≠ a) : GL b h (kvs ++ [(k, .ref a)]) (addTo g k n) := by
  have e0 : addTo g k n = g ++ [(k, [n])] := by unfold addTo; rw [if_neg (by rw [← x.keys]; exact hk)]
  rw [e0]
  refine ⟨by simp [x.len], fun i k' v e => ?_, fun i j k₁ k₂ a' e1 e2 => ?_⟩
  · rcases Nat.lt_or_ge i kvs.length with z | z
    · rw [List.getElem?_append_left z] at e
      obtain ⟨ns, a', e1, e2⟩ := x.at_ i k' v e
      exact ⟨ns, a', by rw [List.getElem?_append_left (by rw [← x.len]; exact z)]; exact e1, e2⟩
    · rw [List.getElem?_append_right z] at e
      cases q : i - kvs.length with
      | succ m => rw [q] at e; simp at e
      | zero =>
        rw [q] at e
        simp at e
        obtain ⟨rfl, rfl⟩ := e
        exact ⟨[n], a, by rw [List.getElem?_append_right (by rw [← x.len]; exact z), ← x.len, q]; rfl, rfl, ha⟩
  · have key : ∀ {i : Nat} {k' : Str} {a' : Addr}, (kvs ++ [(k, Value.ref a)])[i]? = some (k', .ref a') → (kvs[i]? = some (k', .ref a')) ∨ (i = kvs.length ∧ a' = a) := by
      intro i k' a' e
      rcases Nat.lt_or_ge i kvs.length with z | z
      · rw [List.getElem?_append_left z] at e; exact .inl e
      · rw [List.getElem?_append_right z] at e
        cases q : i - kvs.length with
        | succ m => rw [q] at e; simp at e
        | zero => rw [q] at e; simp at e; exact .inr ⟨by omega, e.2.symm⟩
    rcases key e1 with z1 | ⟨z1, w1⟩ <;> rcases key e2 with z2 | ⟨z2, w2⟩
    · exact x.inj i j k₁ k₂ a' z1 z2
    · exact absurd w2 (hf _ _ _ z1)
    · exact absurd w1 (hf _ _ _ z2)
    · rw [z1, z2]
theorem GL.app (x : GL b h kvs g) (nd : (kvs.map (·.1)).Nodup) {i : Nat} {a : Addr} {ns : List Int} (ei : kvs[i]? = some (k, .ref a)) (gi : g[i]? = some (k, ns)) (sb : Heap.SameBut a h h') (ha : IL b h' a (ns ++ [n])) : GL b h' kvs (addTo g k n) := by
  have hk : k ∈ g.map (·.1) := by rw [← x.keys]; exact List.mem_map_of_mem (f := (·.1)) (List.mem_of_getElem? ei)
  have e0 : addTo g k n = g.map (fun p => if p.1 = k then (p.1, p.2 ++ [n]) else p) := by unfold addTo; rw [if_pos hk]
  rw [e0]
  refine ⟨by simp [x.len], fun j k' v e => ?_, x.inj⟩
  obtain ⟨ns', a', e1, rfl, e3⟩ := x.at_ j k' v e
  by_cases hij : j = i
  · subst hij
    rw [ei] at e; cases e
    rw [gi] at e1; cases e1
    refine ⟨ns ++ [n], a, ?_, rfl, ha⟩
    rw [List.getElem?_map, gi]; simp
  · have hkk : k' ≠ k := by
      rintro rfl
      obtain ⟨l1, q1⟩ := List.getElem?_eq_some_iff.mp e
      obtain ⟨l2, q2⟩ := List.getElem?_eq_some_iff.mp ei
      refine hij ((List.getElem_inj (xs := kvs.map (·.1)) (i := j) (j := i) (h₀ := by rw [List.length_map]; exact l1) (h₁ := by rw [List.length_map]; exact l2) nd).mp ?_)
      rw [List.getElem_map, List.getElem_map, q1, q2]
    have haa : a' ≠ a := fun q => hij (x.inj j i k' k a (by rw [e, q]) ei)
    refine ⟨ns', a', ?_, rfl, e3.sb sb haa⟩
    rw [List.getElem?_map, e1]; simp [hkk]
end
end Mine
end
section
open PySem PySem.W PySem.W.X PyProof.Rows PySem.Calls
set_option maxRecDepth 100000
set_option maxHeartbeats 400000
namespace Mine
local macro_rules | `(tactic| walk_at "nl") => `(tactic| refine name_local (Me.ns (by assumption)) (by first | assumption | rfl) ?_)
local macro_rules | `(tactic| walk_at "nb") => `(tactic| refine name_boot (by assumption) rfl rfl rfl (by boot_by_name) (by decide) ?_)
local macro_rules | `(tactic| walk_at "nt") => `(tactic| refine name_top (by assumption) rfl (by rfl) ?_)
theorem Me.own {mod : List Addr} {h₀ h h' : Heap} {L : Addr} {m : Str → Option Value} (D : Me mod h₀ h L m []) {a : Addr} (sb : Heap.SameBut a h h') (there : ∃ o, h'.get? a = some o) (off : a ∈ mod ∨ h₀.get? a = none) (ne : L ≠ a) : Me mod h₀ h' L m [] :=
  ⟨D.ext.trans (.sameBut sb there) fun b q => by rw [List.mem_singleton.mp q]; exact off, D.ns.sameBut sb ne, fun _ q => (nomatch q), List.nodup_nil, fun _ q => (nomatch q), fun _ q => (nomatch q), D.offL⟩
theorem Me.ownE {mod : List Addr} {h₀ h h' : Heap} {L : Addr} {m : Str → Option Value} (D : Me mod h₀ h L m []) {a : Addr} (he : Heap.ExtBut a h h') (off : h₀.get? a = none) (ne : L ≠ a) : Me mod h₀ h' L m [] := by
  have na : ∀ {b o}, h₀.get? b = some o → b ≠ a := fun {b o} e q => by rw [q, off] at e; cases e
  refine ⟨⟨fun b o e n => ?_, fun b o e => ?_⟩, ?_, fun _ q => (nomatch q), List.nodup_nil, fun _ q => (nomatch q), fun _ q => (nomatch q), D.offL⟩
  · rcases D.ext.keep b o e n with q | ⟨ht, ps, more, rfl, q, kq⟩
    · exact .inl (he b o (na e) q)
    · exact .inr ⟨ht, ps, more, rfl, he b _ (na e) q, kq⟩
  · obtain ⟨o', q⟩ := D.ext.there b o e
    exact ⟨o', he b o' (na e) q⟩
  · obtain ⟨o, es, ep, e, r⟩ := D.ns
    exact ⟨o, es, ep, he L o ne e, r⟩
abbrev pairD (p : Str × Int) : PyData := .tuple [.str p.1, .int p.2]
section
variable {w : World} {A : Around} {E : Value → Shared → Prop} {h : Heap} {g : Array GenState} {d : Drawn} {t : Nat} {os : OsState} {x : Addr} {k : Str} {tk : Tok} {v : Value} {kvs : List (Str × Value)} {es : Array DictEntry} {ep : Nat}
theorem call_setdefault {Q : Value → Shared → Prop} (X : DD w h x (.type "dict") none kvs es ep) (hx : (x == sysModules) = false) (hz : kvs.length ≤ 1000)
    (q1 : ∀ u, valueAt kvs k = some u → Q u ⟨h, g, d, t + 1, os⟩)
    (q2 : k ∉ kvs.map (·.1) → ∀ h' es' ep', DD w h' x (.type "dict") none (kvs ++ [(k, v)]) es' ep' → Heap.SameBut x h h' → Q v ⟨h', g, d, t + 1, os⟩) :
    wpAny (model P w) A (call (.builtin "dict.setdefault") [.ref x, .str k tk, v]) Q E ⟨h, g, d, t, os⟩ := by
  have hI := X.at_
  have hT : (⟨h, g, d, t, os⟩ : Shared).TypeIs (.ref x) "dict" := ⟨_, hI, rfl⟩
  refine wpAny_call_entry F.slot_dict_setdefault hT F.entry_dict_setdefault ?_ (F.args_dict_setdefault_3 _ _ _)
  have L : Looks (model P w) h (typeOf (.ref x)) (.type "dict") := (Looks.ld hI).andThen .now
  unfold Builtin.«dict.setdefault»
  repeat (first | (show wpAny _ _ (dictSetDefault _ _ _) _ _ _; refine setDefault_DD (s := ⟨h, g, d, t, os⟩) X hz (fun u hu => ?_) (fun hn h' es' ep' D sb => ?_)) | simp only [hx, Bool.false_eq_true, if_false] | lk)
  · exact ⟨_, rfl, q1 u hu⟩
  · exact wpAny_pure ⟨_, rfl, q2 hn h' es' ep' D sb⟩
end
theorem not_md (w : World) : isNotIn (KK w) "list" 437 = true := by kernel_rfl
theorem iter_ne {h : Heap} {it r i a : Addr} {vs : Array Value} (I : h.IsListIter it r i) (l : h.IsList a vs) : a ≠ it := by
  rintro rfl
  obtain ⟨o, ho, hc, _⟩ := I
  obtain ⟨o', ho', hc', _⟩ := l
  rw [ho] at ho'; cases ho'; rw [hc] at hc'; exact nomatch hc'
theorem dd_ne {w : World} {h : Heap} {d a : Addr} {C : Value} {dx : Option Addr} {kvs : List (Str × Value)} {es : Array DictEntry} {ep : Nat} {vs : Array Value} (D : DD w h d C dx kvs es ep) (l : h.IsList a vs) : a ≠ d := by
  rintro rfl
  obtain ⟨o', ho', hc', n, hd'⟩ := l
  rw [D.at_] at ho'; cases ho'; exact nomatch hd'
theorem ns_ne {h : Heap} {L a : Addr} {m : Str → Option Value} {vs : Array Value} (n : h.Ns L m) (l : h.IsList a vs) : L ≠ a := by
  rintro rfl
  obtain ⟨o, es, ep, ho, hd, _⟩ := n
  obtain ⟨o', ho', hc', n', hd'⟩ := l
  rw [ho] at ho'; cases ho'; rw [hd] at hd'; exact nomatch hd'
theorem iter_dd {w : World} {h : Heap} {it r i d : Addr} {C : Value} {dx : Option Addr} {kvs : List (Str × Value)} {es : Array DictEntry} {ep : Nat} (I : h.IsListIter it r i) (D : DD w h d C dx kvs es ep) : d ≠ it := by
  rintro rfl
  obtain ⟨o, ho, hc, hd⟩ := I
  rw [D.at_] at ho; cases ho; exact nomatch hd
theorem GL.sb' {b : Addr} {h h' : Heap} {kvs : List (Str × Value)} {g : Grp} (x : GL b h kvs g) {c : Addr} (e : Heap.SameBut c h h') (hc : ∀ a vs, h.IsList a vs → a ≠ c) : GL b h' kvs g := x.sb e fun j k a q => by
  obtain ⟨_, a', _, e', il⟩ := x.at_ j k _ q
  cases e'
  obtain ⟨vs', hl'⟩ := il.isList
  exact hc _ _ hl'
theorem init_list {w : World} {A : Around} {s : Shared} {R : Result → Shared → Prop} {x dx r b0 ep : Addr} {es : Array DictEntry} {vs : Array Value} {ps : List (Str × Int)} (hA : Rm 500 A) (hh : A.handled = none) (T : TopH w s.heap)
    (I : DD w s.heap x (.ref 437) (some dx) [] es ep) (Io : s.heap.get? dx = some emptyDict) (hl : LsAt b0 s.heap r vs (ps.map pairD)) (hz : ps.length ≤ 8) (hlow : 604 ≤ x)
    (hR : ∀ h' tk kvs es ep, Ext [x] s.heap h' → DD w h' x (.ref 437) (some dx) kvs es ep → GL s.heap.objs.size h' kvs (grp ps) → R (.ok (.ret .none)) ⟨h', s.gens, s.drawn, tk, s.os⟩) :
    codeAny (model P w) A (.call (.ref 264) ⟨[.ref x, .ref r], []⟩) R s := by
  refine enterAt [(Str.ofString "self", .ref x), (Str.ofString "mapping", .ref r)] hA T (by rfl) (by rfl) (by rfl) (by rfl) (binds_K T.K rfl (by rfl) rfl rfl rfl) (by decide) (locs rfl) fun h₁ D hA' hh' => ?_
  replace hh' := hh'.trans hh
  have T1 := D.top T (by simp)
  have hl1 := hl.ext D.ext (by simp)
  refine ks_wpAt_execs_cons ?_
  refine ks_wpAt_If (wpAt_of_wpAny ?_)
  refine wpAny_isTrue_Compare1 ?_
  walk_at "nl"
  refine wpAny_Constant_none ?_
  refine is_none ?_
  refine wpAny_truthy_bool ?_
  rw [if_neg (show ¬ ((Value.ref r == Value.none) = true) from Bool.false_ne_true)]
  refine ks_wpAt_execs_cons ?_
  refine ks_wpAt_If (wpAt_of_wpAny ?_)
  refine isTrue_plain ?_
  refine wpAny_Call_NameR ?_
  walk_at "nb"
  refine call_bi ?_
  refine wpAny_items_cons ?_
  walk_at "nl"
  refine wpAny_items_cons ?_
  walk_at "nt"
  refine wpAny_items_nil ?_
  have ol : ∃ o, h₁.get? r = some o ∧ o.cls = .type "list" := let ⟨o, ho, hc, _⟩ := hl1.ls; ⟨o, ho, hc⟩
  refine isn_call (P := fun h => ∃ o, h.get? r = some o ∧ o.cls = .type "list") T1.K (fun M => let ⟨o, ho, hc⟩ := ol; hc ▸ (Looks.ld ho).andThen .now) (not_md w) (fun e => nomatch e) ol list_cls ?_
  refine wpAny_truthy_bool ?_
  rw [if_neg Bool.false_ne_true]
  refine ks_wpAt_execs_cons ?_
  refine ks_wpAt_If (wpAt_of_wpAny ?_)
  refine isTrue_plain ?_
  refine wpAny_Call_NameR ?_
  walk_at "nb"
  refine call_bi ?_
  refine wpAny_items_cons ?_
  walk_at "nl"
  refine wpAny_items_cons ?_
  walk_at "nb"
  refine wpAny_items_nil ?_
  refine call_isinstance (isinstance_false_list (by decide) (by rfl) (by rw [isSubtype_type]; kernel_rfl)) ⟨ol, ?_⟩
  refine wpAny_truthy_bool ?_
  rw [if_neg Bool.false_ne_true]
  refine ks_wpAt_execs_cons (wpAt_of_wpAny ?_)
  refine wpAny_Assign_Name ?_
  refine wpAny_Dict_empty ?_
  have Dd := DD.new (w := w) h₁
  have ltm : 604 ≤ h₁.objs.size := Nat.le_trans T.low (Nat.le_of_lt D.ns.lt)
  have nL : s.heap.objs.size ≠ h₁.objs.size := Nat.ne_of_lt D.ns.lt
  have ftm : s.heap.get? h₁.objs.size = none := D.fresh
  replace D := D.call (Ext.push h₁ { cls := .type "dict", data := .dict #[] })
  generalize h₁.objs.size = tm at Dd nL ftm ltm ⊢
  generalize h₁.push { cls := .type "dict", data := .dict #[] } = h1' at D Dd ⊢
  clear T1 hl1 ol
  refine wpAny_storeName_local rfl D.ns (fun h2 hn hs => ?_) rfl
  replace D := D.store hn hs
  replace Dd := Dd.get (hs.2 _ (Ne.symm nL))
  dsimp only
  clear hn hs h1'
  refine ks_wpAt_execs_cons (wpAt_of_wpAny ?_)
  refine wpAny_For ?_
  walk_at "nl"
  have hl2 := hl.ext D.ext (by simp)
  refine wpAny_pyIter_list hl2.ls ?_
  have hit : (h2.push { cls := .type "list_iterator", data := .fields #[.ref r, .int 0 0] }).IsListIter h2.objs.size r 0 := ⟨_, Heap.get?_push_size _ rfl, rfl, rfl⟩
  have fit : s.heap.get? h2.objs.size = none := D.fresh
  have nit : s.heap.objs.size ≠ h2.objs.size := Nat.ne_of_lt D.ns.lt
  replace Dd := Dd.keeps fun b o e => Heap.get?_push_of_some { cls := .type "list_iterator", data := .fields #[.ref r, .int 0 0] } e
  replace D := D.call (Ext.push h2 { cls := .type "list_iterator", data := .fields #[.ref r, .int 0 0] })
  generalize h2.objs.size = it at hit fit nit ⊢
  generalize h2.push { cls := .type "list_iterator", data := .fields #[.ref r, .int 0 0] } = h3 at D Dd hit ⊢
  dsimp only
  clear hl2 h2
  refine codeAny_forLoop_any (fun n s' => ∃ i h' tk m kvs es ep, n + i = ps.length ∧ s' = ⟨h', s.gens, s.drawn, tk, s.os⟩ ∧ Me [] s.heap h' s.heap.objs.size m [] ∧ m "self" = some (.ref x) ∧ m "tmp" = some (.ref tm) ∧
    h'.IsListIter it r i ∧ DD w h' tm (.type "dict") none kvs es ep ∧ GL s.heap.objs.size h' kvs (grp (ps.take i))) ?_ ps.length ⟨0, h3, _, _, [], _, _, by omega, rfl, D, by rfl, by rfl, hit, Dd, GL.nil _ _⟩
  clear D Dd hit h3
  rintro n s' ⟨i, h', tk, m, kvs, es', ep', hn, rfl, D, ms, mt, hit, Dd, G⟩
  have hl3 := hl.ext D.ext (by simp)
  cases n with
  | zero =>
    refine wpAny_pyNext_list_end hh' hit hl3.ls (by rw [Array.getElem?_eq_none_iff, hl3.sz, List.length_map]; omega) (fun h4 he => ?_)
    replace D := D.ownE he fit nit
    replace Dd := Dd.get (show h4.get? tm = h'.get? tm by rw [Dd.at_]; exact he _ _ (iter_dd hit Dd) Dd.at_)
    have G4 : GL s.heap.objs.size h4 kvs (grp ps) := by
      have : ps.take i = ps := List.take_of_length_le (by omega)
      rw [this] at G
      refine ⟨G.len, fun j k v q => ?_, G.inj⟩
      obtain ⟨ns, a, e1, e2, hb, va, na, ea, ia⟩ := G.at_ j k v q
      exact ⟨ns, a, e1, e2, hb, va, na, he _ _ (iter_ne hit ⟨_, ea, rfl, na, rfl⟩) ea, ia⟩
    clear he hit hl3 G
    dsimp only
    refine wpAny_execs_nil ?_
    refine ks_wpAt_execs_cons ?_
    refine ks_wpAt_Expr_any ?_
    have I4 := I.ext D.ext rfl (by simp)
    have J4 : Inst h4 x 437 dx emptyDict es ep := ⟨I4.at_, D.ext.get Io rfl (by simp)⟩
    have T4 := D.top T (by simp)
    refine super_call (x := x) (C := 437) (D := 437) (id := "dict.__init__") (BT := "method-wrapper") T4 D.ns J4.i (by rfl) rfl (by rfl) ms (by rfl) rfl (by rfl) (by rfl) (by rfl) (by rfl) rfl (by kernel_rfl) (by rfl) (by kernel_rfl) (by kernel_rfl)
      (.inl ⟨wd_init, rfl⟩) rfl rfl rfl rfl rfl rfl rfl rfl rfl (by decide) (fun q h5 nq hq k => ?_)
    have fq : s.heap.get? q = none := D.ext.fresh nq
    replace D := D.call (.of_keeps k)
    replace I4 := I4.keeps k
    replace Dd := Dd.keeps k
    replace G4 := G4.keeps k
    replace T4 : TopH w h5 := T4.ext (.of_keeps k) (by simp)
    dsimp only
    clear J4 nq k h4
    refine call_b (x := x) (T := "method-wrapper") (id := "dict.__init__") (.inl rfl) ?_
    refine wpAny_items_cons ?_
    refine name_local D.ns mt ?_
    refine wpAny_items_nil ?_
    refine ⟨hq, ?_⟩
    refine wpAny_call ?_
    refine code_bound (.inl rfl) hq ((chk_init2 _ _) _ _) (fun _ => Code.quiet_builtin _ (by decide +kernel)) ent_init ?_
    have xtm : x ≠ tm := fun e => by have z := Dd.at_; rw [← e, I4.at_] at z; cases z
    refine run_init1 T4.K I4 Dd xtm (not_sys ltm) (by rw [G4.len]; have := grp_len ps; omega) (by kernel_rfl) (fun h6 es6 ep6 D6 sb6 => ?_)
    dsimp only
    repeat (refine wpAt_of_wpAny (wpAny_execs_nil ?_); dsimp only)
    refine hR _ _ _ _ _ ((D.ext.mono (by simp)).trans (.sameBut sb6 ⟨_, D6.at_⟩) (by simp)) D6 (G4.sb' sb6 fun a vs l => dd_ne I4 l)
  | succ n =>
    have hi : i < ps.length := by omega
    obtain ⟨v, hv, rv⟩ := hl3.item (i := i) (d := pairD ps[i]) (by rw [List.getElem?_map, List.getElem?_eq_getElem hi]; rfl)
    refine wpAny_pyNext_list_item hit hl3.ls hv (fun h4 hit4 sb4 => ?_)
    obtain ⟨ta, u, z, rfl, hb, ht, ru, rz⟩ := rv.pairE
    obtain ⟨tu, rfl⟩ := ru.strE
    obtain ⟨tz, rfl⟩ := rz.intE
    replace D := D.own sb4 (let ⟨o, ho, _⟩ := hit4; ⟨o, ho⟩) (.inr fit) nit
    have ht4 := (show IsTup h4 ta _ from let ⟨o, ho, hc, hd⟩ := ht; ⟨o, (sb4.2 ta (fun q => by obtain ⟨o', ho', hc', _⟩ := hit; rw [← q, ho] at ho'; cases ho'; rw [hc] at hc'; exact nomatch hc')).trans ho, hc, hd⟩)
    replace Dd := Dd.get (sb4.2 tm (iter_dd hit Dd))
    replace G := G.sb' sb4 fun a vs l => iter_ne hit l
    clear hit ht hl3 rv sb4
    refine wpAny_letOwnedTupleGo_listiter hit4 ?_
    refine assign_Tuple_tuple hh' ht4 rfl rfl (fun h5 he5 => ?_)
    dsimp only at he5 ⊢
    replace D := D.call (Ext.of_extBut he5)
    have ext5 := Ext.of_extBut he5
    replace Dd := Dd.ext ext5 rfl (by simp)
    replace G := G.ext ext5 (by simp)
    have hit5 : h5.IsListIter it r (i + 1) := let ⟨o, ho, hc, r⟩ := hit4; ⟨o, ext5.get ho (by unfold hasCls; rw [hc]) (by simp), hc, r⟩
    clear hit4 ht4 he5 ext5
    refine wpAny_assignInOrder_more ?_
    refine wpAny_assign_Name ?_
    refine wpAny_storeName_local rfl D.ns (fun h6 hn6 hs6 => ?_) rfl
    replace G := G.sb' hs6 fun a vs l => Ne.symm (ns_ne D.ns l)
    replace D := D.store hn6 hs6
    replace Dd := Dd.get (hs6.2 tm (Ne.symm nL))
    have hit6 := hit5.at fun o e => (hs6.2 it (Ne.symm nit)).trans e
    dsimp only at hs6 ⊢
    clear hn6 hs6 hit5 h5
    refine wpAny_assignInOrder_more ?_
    refine wpAny_assign_Name ?_
    refine wpAny_storeName_local rfl D.ns (fun h7 hn7 hs7 => ?_) rfl
    replace G := G.sb' hs7 fun a vs l => Ne.symm (ns_ne D.ns l)
    replace D := D.store hn7 hs7
    replace Dd := Dd.get (hs7.2 tm (Ne.symm nL))
    have hit7 := hit6.at fun o e => (hs7.2 it (Ne.symm nit)).trans e
    dsimp only at hs7 ⊢
    clear hn7 hs7 hit6 h6
    refine wpAny_assignInOrder_none ?_
    refine wpAny_execs_cons ?_
    refine wpAny_Expr_any ?_
    refine wpAny_Call_method rfl rfl rfl F.plainAttrs_list F.slot_list_append F.type_list_append ?_
    refine wpAny_Call_method rfl rfl rfl F.plainAttrs_dict F.slot_dict_setdefault F.type_dict_setdefault ?_
    refine name_local D.ns (by rw [if_neg (by decide), if_neg (by decide)]; exact mt) ?_
    refine ⟨⟨_, Dd.at_, rfl⟩, fun a e => by cases e; exact ⟨_, Dd.at_, rfl⟩, ?_⟩
    refine call_bi ?_
    refine wpAny_items_cons ?_
    refine name_local D.ns (by rw [if_neg (by decide), if_pos (by decide)]) ?_
    refine wpAny_items_cons ?_
    refine wpAny_List ?_
    refine wpAny_items_nil ?_
    refine ⟨by simp, ?_⟩
    refine wpAny_items_nil ?_
    have fnl : s.heap.get? h7.objs.size = none := D.fresh
    have lnl : s.heap.objs.size ≤ h7.objs.size := Nat.le_of_lt D.ns.lt
    have nnl : ∀ a o, h7.get? a = some o → a ≠ h7.objs.size := fun a o q => Nat.ne_of_lt (Heap.lt_size q)
    have enl : (h7.push { cls := .type "list", data := .seq #[] }).get? h7.objs.size = some (lsObj #[] 0) := Heap.get?_push_size _ rfl
    have hkv : kvs.length ≤ 8 := by rw [G.len]; have := grp_len (ps.take i); rw [List.length_take] at this; omega
    have kp : ∀ b o, h7.get? b = some o → (h7.push { cls := .type "list", data := .seq #[] }).get? b = some o := fun b o e => Heap.get?_push_of_some _ e
    have nG : ∀ (j : Nat) (k' : Str) (a' : Addr), kvs[j]? = some (k', .ref a') → a' ≠ h7.objs.size := fun j k' a' q => by
      obtain ⟨_, _, _, e', il⟩ := G.at_ j k' _ q
      cases e'
      exact Nat.ne_of_lt il.lt
    replace G := G.keeps kp
    have ndd := nnl _ _ Dd.at_
    replace Dd := Dd.keeps kp
    have nit7 : it ≠ h7.objs.size := let ⟨o, ho, _⟩ := hit7; nnl _ _ ho
    replace hit7 := hit7.at fun o e => kp _ _ e
    have nLl : s.heap.objs.size ≠ h7.objs.size := Nat.ne_of_lt D.ns.lt
    replace D := D.call (.of_keeps kp)
    dsimp only
    change wpAny _ _ _ _ _ ⟨h7.push { cls := .type "list", data := .seq #[] }, _, _, _, _⟩
    generalize h7.objs.size = nl at fnl lnl enl nG ndd nit7 nLl ⊢
    generalize h7.push { cls := .type "list", data := .seq #[] } = h8 at enl G Dd hit7 D ⊢
    clear nnl kp h7
    have hps : ps.take (i + 1) = ps.take i ++ [ps[i]] := by rw [List.take_succ_eq_append_getElem hi]
    refine call_setdefault Dd (not_sys ltm) (by omega) ?_ ?_
    · intro u hu
      obtain ⟨i', ns, a, ei, gi, rfl, il⟩ := G.there hu
      obtain ⟨hba, va, na, ea, ia⟩ := id il
      have haL : s.heap.objs.size ≠ a := ns_ne D.ns ⟨_, ea, rfl, na, rfl⟩
      have haf : s.heap.get? a = none := by
        cases q : s.heap.get? a with
        | none => rfl
        | some o => exact absurd (Heap.lt_size q) (Nat.not_lt.mpr hba)
      refine ⟨⟨_, ea, rfl⟩, fun a e => by cases e; exact ⟨_, ea, rfl⟩, ?_⟩
      refine call_bi ?_
      refine wpAny_items_cons ?_
      refine name_local D.ns (by rw [if_pos (by decide)]) ?_
      refine wpAny_items_nil ?_
      refine append_raw ea (by have := grp_each (ps.take i) _ (List.mem_of_getElem? gi); rw [List.length_take] at this; have := ia_len ia; rw [Array.length_toList] at this; dsimp only at *; omega) (fun h9 n9 e9 sb9 => ?_)
      dsimp only at sb9 ⊢
      refine wpAny_execs_nil ?_
      refine ⟨n, Nat.lt_succ_self n, i + 1, h9, _, _, kvs, _, _, by omega, rfl, D.own sb9 ⟨_, e9⟩ (.inr haf) haL, ?_, ?_, ?_, Dd.get (sb9.2 _ (Ne.symm (dd_ne Dd ⟨_, ea, rfl, na, rfl⟩))), ?_⟩
      · rw [if_neg (by decide), if_neg (by decide)]; exact ms
      · rw [if_neg (by decide), if_neg (by decide)]; exact mt
      · exact hit7.at fun o e => (sb9.2 it (Ne.symm (iter_ne hit7 ⟨_, ea, rfl, na, rfl⟩))).trans e
      · rw [hps, grp_snoc]
        exact G.app Dd.nd ei gi sb9 ⟨hba, _, _, e9, by rw [Array.toList_push]; exact ia_app ia (.cons _ _ .nil)⟩
    · intro hk h9 es9 ep9 D9 sb9
      dsimp only at sb9 ⊢
      have e9 : h9.get? nl = some (lsObj #[] 0) := (sb9.2 nl (Ne.symm ndd)).trans enl
      replace D := D.own sb9 ⟨_, D9.at_⟩ (.inr ftm) nL
      replace G := G.sb' sb9 fun a vs l => dd_ne Dd l
      have hit9 := hit7.at fun o e => (sb9.2 it (Ne.symm (iter_dd hit7 Dd))).trans e
      clear Dd hit7 sb9 enl
      refine ⟨⟨_, e9, rfl⟩, fun a e => by cases e; exact ⟨_, e9, rfl⟩, ?_⟩
      refine call_bi ?_
      refine wpAny_items_cons ?_
      refine name_local D.ns (by rw [if_pos (by decide)]) ?_
      refine wpAny_items_nil ?_
      refine append_raw e9 (by simp) (fun h10 n10 e10 sb10 => ?_)
      dsimp only at sb10 ⊢
      refine wpAny_execs_nil ?_
      refine ⟨n, Nat.lt_succ_self n, i + 1, h10, _, _, _, _, _, by omega, rfl, D.own sb10 ⟨_, e10⟩ (.inr fnl) nLl, ?_, ?_, ?_, D9.get (sb10.2 _ ndd), ?_⟩
      · rw [if_neg (by decide), if_neg (by decide)]; exact ms
      · rw [if_neg (by decide), if_neg (by decide)]; exact mt
      · exact hit9.at fun o e => (sb10.2 it nit7).trans e
      · rw [hps, grp_snoc]
        exact (G.sb sb10 nG).push hk ⟨lnl, _, _, e10, .cons _ _ .nil⟩ nG
end Mine
end
section
open PySem PySem.W PySem.W.X PyProof.Rows PySem.Calls
set_option maxRecDepth 100000
set_option maxHeartbeats 400000
namespace Mine
structure MDI (w : World) (b : Addr) (h : Heap) (x : Addr) (g : Grp) (dx : Addr) (kvs : List (Str × Value)) (es : Array DictEntry) (ep : Nat) : Prop where
  lx : b ≤ x
  ld : b ≤ dx
  dd : DD w h x (.ref 437) (some dx) kvs es ep
  own : h.get? dx = some emptyDict
  gl : GL b h kvs g
section
variable {w : World} {b : Addr} {h h' : Heap} {x dx : Addr} {g : Grp} {kvs : List (Str × Value)} {es : Array DictEntry} {ep : Nat} {mod : List Addr}
theorem MDI.ext (X : MDI w b h x g dx kvs es ep) (e : Ext mod h h') (hm : ∀ a ∈ mod, a < b ∨ h.get? a = none) : MDI w b h' x g dx kvs es ep := by
  have nm : ∀ {a o}, b ≤ a → h.get? a = some o → a ∉ mod := fun {a o} hb ho q => (hm a q).elim (fun z => absurd z (Nat.not_lt.mpr hb)) fun z => by rw [z] at ho; cases ho
  exact ⟨X.lx, X.ld, X.dd.ext e rfl (nm X.lx X.dd.at_), e.get X.own rfl (nm X.ld X.own), X.gl.ext e hm⟩
theorem MDI.inst (X : MDI w b h x g dx kvs es ep) : Inst h x 437 dx emptyDict es ep := ⟨X.dd.at_, X.own⟩
theorem MDI.mono {b' : Addr} (X : MDI w b h x g dx kvs es ep) (hb : b' ≤ b) : MDI w b' h x g dx kvs es ep :=
  ⟨Nat.le_trans hb X.lx, Nat.le_trans hb X.ld, X.dd, X.own, X.gl.len, fun i k v q => let ⟨ns, a, e1, e2, e3, r⟩ := X.gl.at_ i k v q; ⟨ns, a, e1, e2, Nat.le_trans hb e3, r⟩, X.gl.inj⟩
end
theorem make_md {w : World} {A : Around} {s : Shared} {R : Result → Shared → Prop} {r b0 : Addr} {vs : Array Value} {ps : List (Str × Int)} (hA : Rm 490 A) (hh : A.handled = none) (T : TopH w s.heap)
    (hl : LsAt b0 s.heap r vs (ps.map pairD)) (hz : ps.length ≤ 8)
    (hR : ∀ h' tk x dx kvs es ep, Ext [] s.heap h' → MDI w s.heap.objs.size h' x (grp ps) dx kvs es ep → R (.ok (.ret (.ref x))) ⟨h', s.gens, s.drawn, tk, s.os⟩) :
    codeAny (model P w) A (.call (.ref 437) ⟨[.ref r], []⟩) R s := by
  obtain ⟨h, g, d, t, os⟩ := s
  have X := T.K
  refine make_D (makesD_of X (makes_437 w)) (looks_findIn X (show findIn (KK w) (.ref 437) "__init__" = some (some (.ref 264)) by kernel_rfl)) (fun self => bind_fn X self (by rfl)) ?_
  dsimp only at T hl hR X
  have k : ∀ b o, h.get? b = some o → ((h.push emptyDict).push (dInst 437 h.objs.size)).get? b = some o := fun b o e => Heap.get?_push_of_some _ (Heap.get?_push_of_some _ e)
  have e1 : ((h.push emptyDict).push (dInst 437 h.objs.size)).get? h.objs.size = some emptyDict := Heap.get?_push_of_some _ (Heap.get?_push_size _ rfl)
  have e2 : ((h.push emptyDict).push (dInst 437 h.objs.size)).get? (h.objs.size + 1) = some (dInst 437 h.objs.size) := by heap_get
  have hs : ((h.push emptyDict).push (dInst 437 h.objs.size)).objs.size = h.objs.size + 2 := by rw [Heap.size_push, Heap.size_push]
  have f2 : h.get? (h.objs.size + 1) = none := by
    cases q : h.get? (h.objs.size + 1) with
    | none => rfl
    | some o => exact absurd (Heap.lt_size q) (Nat.not_lt.mpr (Nat.le_succ _))
  have ex := Ext.of_keeps k
  refine init_list (x := h.objs.size + 1) (dx := h.objs.size) ((hA.under rfl).mono (by decide)) hh (T.ext ex (by simp)) ⟨e2, fun _ q => by simp at q, .nil, List.nodup_nil⟩ e1 (hl.ext ex (by simp)) hz (Nat.le_succ_of_le T.low) ?_
  intro h' tk kvs es ep e D G
  refine ⟨rfl, hR _ _ _ h.objs.size _ _ _ (ex.trans e (by simp [f2])) ⟨Nat.le_succ _, Nat.le_refl _, D, e.get e1 rfl (by simp), G.len, fun i k v q => ?_, G.inj⟩⟩
  obtain ⟨ns, a, q1, q2, q3, r⟩ := G.at_ i k v q
  exact ⟨ns, a, q1, q2, by dsimp only at q3; rw [hs] at q3; exact Nat.le_trans (Nat.le_add_right _ 2) q3, r⟩
end Mine
end
section
open PySem PySem.W PySem.W.X PyProof.Rows PySem.Calls
set_option maxRecDepth 100000
set_option maxHeartbeats 400000
namespace Mine
local macro_rules | `(tactic| walk_at "nl") => `(tactic| refine name_local (Me.ns (by assumption)) (by first | assumption | rfl) ?_)
theorem init_none {w : World} {A : Around} {s : Shared} {R : Result → Shared → Prop} {x dx ep : Addr} {od : Obj} {es : Array DictEntry} (hA : Rm 500 A) (T : TopH w s.heap)
    (I : DD w s.heap x (.ref 560) (some dx) [] es ep) (Io : s.heap.get? dx = some od) (hc : hasCls od = true)
    (hR : ∀ h' tk, Ext [] s.heap h' → R (.ok (.ret .none)) ⟨h', s.gens, s.drawn, tk, s.os⟩) :
    codeAny (model P w) A (.call (.ref 264) ⟨[.ref x], []⟩) R s := by
  refine enterAt [(Str.ofString "self", .ref x), (Str.ofString "mapping", .none)] hA T (by rfl) (by rfl) (by rfl) (by rfl) (binds_K T.K rfl (by rfl) rfl rfl rfl) (by decide) (locs rfl) fun h₁ D hA' hh' => ?_
  have T1 := D.top T (by simp)
  have I1 := I.ext D.ext rfl (by simp)
  have J1 : Inst h₁ x 560 dx od es ep := ⟨I1.at_, D.ext.get Io hc (by simp)⟩
  refine ks_wpAt_execs_cons ?_
  refine ks_wpAt_If (wpAt_of_wpAny ?_)
  refine wpAny_isTrue_Compare1 ?_
  walk_at "nl"
  refine wpAny_Constant_none ?_
  refine is_none ?_
  refine wpAny_truthy_bool ?_
  rw [if_pos (show ((Value.none == Value.none) = true) from rfl)]
  refine ks_wpAt_execs_cons ?_
  refine ks_wpAt_Expr_any ?_
  refine super_call (x := x) (C := 560) (D := 437) (id := "dict.__init__") (BT := "method-wrapper") T1 D.ns J1.i (by rfl) rfl (by rfl) rfl (by rfl) rfl (by rfl) (by rfl) (by rfl) (by rfl) rfl (by kernel_rfl) (by rfl) (by kernel_rfl) (by kernel_rfl)
      (.inl ⟨wd_init, rfl⟩) rfl rfl rfl rfl rfl rfl rfl rfl rfl (by decide) (fun q h5 nq hq k => ?_)
  refine call_b0 (x := x) (T := "method-wrapper") (id := "dict.__init__") (.inl rfl) hq ?_
  refine wpAny_call ?_
  have T2 : TopH w h5 := T1.ext (.of_keeps k) (by simp)
  refine code_bound (.inl rfl) hq ((chk_init _) _ _) (fun _ => Code.quiet_builtin _ (by decide +kernel)) ent_init ?_
  refine run_init0 T2.K (I1.keeps k) (by kernel_rfl) ?_
  dsimp only
  repeat (refine wpAt_of_wpAny (wpAny_execs_nil ?_); dsimp only)
  exact hR _ _ (D.ext.and (.of_keeps k))
end Mine
namespace Mine
theorem refuse_ok (self : Value) : refuseLoop self "__setattr__" [.type "dict", .type "object"] = pure () := by kernel_rfl
abbrev cDict (hsh : Int) (t : Tok) (l : Addr) (n : Nat) : Obj := { cls := .type "dict", data := .dict #[⟨hsh, .str "dicts" t, .ref l⟩] n }
theorem cls_560 (w : World) : ∃ cd, clsIn (KK w) 560 = some cd ∧ cd.mro = [.ref 560, .ref 216, .ref 166, .ref 437, .ref 243, .type "dict", .type "object"] ∧ cd.hasDict = true := ⟨_, by rfl, by rfl, by rfl⟩
section
variable {w : World} {A : Around} {E : Value → Shared → Prop} {h : Heap} {g : Array GenState} {d : Drawn} {t : Nat} {os : OsState} {x dx ep l : Addr} {es : Array DictEntry}
theorem set_dicts {tk : Tok} {R : Result → Shared → Prop} (T : TopH w h) (I : DD w h x (.ref 560) (some dx) [] es ep) (Io : h.get? dx = some emptyDict)
    (hR : ∀ h' hsh n, Heap.SameBut dx h h' → h'.get? dx = some (cDict hsh t l n) → R (.ok (.ret .none)) ⟨h', g, d, t + 1, os⟩) :
    codeAny (model P w) A (.call (.builtin "object.__setattr__") ⟨[.ref x, .str "dicts" tk, .ref l], []⟩) R ⟨h, g, d, t, os⟩ := by
  have SF := PySem.F.store_object
  have X := T.K
  obtain ⟨cd, hc, hm, hd⟩ := cls_560 w
  have hI := I.at_
  have L0 : Looks (model P w) h (typeOf (.ref x)) (.ref 560) := (Looks.ld hI).andThen .now
  have L1 : Looks (model P w) h (mroOf (.ref 560)) cd.mro := (looks_clsIn X hc).andThen .now
  have L2 : Looks (model P w) h (isInstance (.ref x) (.type "object")) true := L0.andThen (looks_mroIn X (by kernel_rfl))
  have L3 : Looks (model P w) h (typeLookup (.ref 560) "dicts") none := looks_findIn X (by kernel_rfl)
  have L4 := looks_clsIn (M := model P w) X hc
  refine codeAny_call_builtin SF.slot.plain SF.entry (@check_slot (model P w) _ _ ⟨h, g, d, t, os⟩ "object.__setattr__" "object" "__setattr__" (.ref x) [.str "dicts" tk, .ref l] [] _ SF.kind SF.split L2 (SF.args (.ref x) (.str "dicts" tk) (.ref l)) ?_)
  rw [osa_eq, refuse_eq]
  refine wpAny_bind (wpAny_bind (L0.at (wpAny_bind (L1.at ?_))))
  rw [hm, refuseLoop_ref, refuseLoop_ref, refuseLoop_ref, refuseLoop_ref, refuseLoop_ref, refuse_ok]
  refine wpAny_pure (wpAny_bind (L0.at (wpAny_bind (L3.at (wpAny_bind (wpAny_pure ?_))))))
  dsimp only
  unfold Builtin.ObjectAttr.storeInOwnDict
  repeat (first | simp only [hd] | lk)
  obtain ⟨n, e⟩ : ∃ n, Obj.putName (Str.ofString "dicts") (if (Str.ofString "dicts").cps.isEmpty = true then 0 else reduceHash ((model P w).w.params.strHash (Str.ofString "dicts").cps)) (Value.str (Str.ofString "dicts") t) (Value.ref l) emptyDict = cDict _ t l n := ⟨1, rfl⟩
  show wpAny _ _ (updatePart dx _ _) _ _ _
  refine wpAny_updatePart Io ?_
  have e' := Heap.get?_update_self (h := h) (Obj.putName (Str.ofString "dicts") (if (Str.ofString "dicts").cps.isEmpty = true then 0 else reduceHash ((model P w).w.params.strHash (Str.ofString "dicts").cps)) (Value.str (Str.ofString "dicts") t) (Value.ref l)) Io (by rw [e]; rfl)
  rw [e] at e'
  refine wpAny_bind (wpAny_lookBehind e' (pastItsLine_dict (by simp [sizeLine_eq])) (wpAny_pure ?_))
  exact hR _ _ n (Heap.SameBut.update ..) e'
end
end Mine
namespace Mine
section
variable {w : World} {A : Around} {E : Value → Shared → Prop} {s : Shared} {env : Env} {m : Str → Option Value} {x C D f f2 cda cc : Addr} {ox of oc oD : Obj} {odx : Option Obj} {fd : FuncData} {ar : Arg} {vs : Array Value} {file : Str} {tf : Tok} {cl : Value} {cld : Option Addr} {csl : Array (Option Value)} {cdC cdD : ClassData} {body : List Stmt} {p0 p1 : Pos}
abbrev mObj (f x : Addr) : Obj := { cls := .type "method", data := .fields #[.ref f, .ref x] }
theorem super_call_fn {name : Str} {apos pos : Pos} {args : List Expr} {pl : Sem Bool} {Q : Value → Shared → Prop} (T : TopH w s.heap) (n : s.heap.Ns env.locals m) (I : InstAt s.heap x ox C odx)
    (hf : (KK w).lookup f = some of) (hfd : of.data = .func fd) (hp : (fd.params.posonlyargs ++ fd.params.args).head? = some ar) (hv : m ar.arg = some (.ref x))
    (hcode : (KK w).lookup cda = some oc) (hoc : oc.data = .fields vs) (hvs : vs[2]? = some (.str file tf)) (hfile : ((P.main.file : Str) == file) = true)
    (hcell : (KK w).lookup cc = some ⟨cl, cld, .cell (some (.ref D)), csl⟩) (hD : (KK w).lookup D = some oD) (hDt : oD.data = .cls cdD) (hsub : mroIn (KK w) C (.ref D) = some true)
    (hcC : clsIn (KK w) C = some cdC) (hal : alongIn (KK w) name (behind (KK w) C D) = some (some (.ref f2))) (hty : typeIn (KK w) (.ref f2) = some (.type "function"))
    (hg : env.globals = mainGlobals) (hb : env.builtins = builtinsNs) (hfu : env.func = some f) (hco : env.code = .ref cda) (hcl : env.cells.lookup ("__class__" : Str) = some cc) (hk : env.scope.kind = .function)
    (hks : env.kindOf "super" = some .globalImplicit) (hkc : env.kindOf "__class__" = some .free) (hka : env.kindOf ar.arg = some .local) (hat : (name == ("__class__" : Str)) = false)
    (h : ∀ q h', s.heap.get? q = none → h'.get? q = some (mObj f2 x) → (∀ b o, s.heap.get? b = some o → h'.get? b = some o) →
      wpAny (model P w) A (callWith pos (.ref q) [] (backTo pos (starEach args env)) []) Q E { s with heap := h', toks := s.toks + 1 })
    (he : eval (.Call (.Attribute (.Call (.Name "super" p0) [] [] p1) name apos) args [] pos) env = (do
      let ov ← attributeBase (.Call (.Name "super" p0) [] [] p1) name env (eval (.Call (.Name "super" p0) [] [] p1) env)
      standAt apos.atName
      let (f, first) ← holding [ov] (getMethod ov name pl)
      callWith pos f first (backTo pos (starEach args env)) []) := by rfl) :
    PySem.wpAt (model P w) A (.func body env) (eval (.Call (.Attribute (.Call (.Name "super" p0) [] [] p1) name apos) args [] pos) env) Q E s := by
  refine ks_wpAt_MethodCall (super_base T n I hf hfd hp hv hcode hoc hvs hfile hcell hD hDt hsub hg hb hfu hco hcl hk hks hkc hka hat fun h' e k => ?_) he
  obtain ⟨hh, g, d, t, os⟩ := s
  have X : (KK w).In h' := fun b o e => k b o (T.K b o e)
  have hC : Looks (model P w) h' (mroOf (.ref C)) cdC.mro := (looks_clsIn X hcC).andThen .now
  have hl : (cdC.mro.dropWhile (· != .ref D)).drop 1 = behind (KK w) C D := by unfold behind; rw [hcC]
  have hxC : x ≠ C := ks_ne T.K I hcC
  have nq : hh.get? h'.objs.size = none := by
    cases q : hh.get? h'.objs.size with
    | none => rfl
    | some o => exact absurd (Heap.lt_size (k _ _ q)) (Nat.lt_irrefl _)
  obtain ⟨o2, ho2, hc2⟩ := Option.map_eq_some_iff.mp (show ((KK w).lookup f2).map (·.cls) = some (.type "function") from hty)
  exact ks_wpAny_getMethod_super e (looks_opaque X (third_no w)) hC hl X hal (X _ _ ho2) hc2 hxC hat (h _ _ nq (Heap.get?_push_size _ rfl) fun b o q => Heap.get?_push_of_some _ (k b o q))
theorem keeps_m {q : Addr} {o2 : Obj} {fd2 : FuncData} (hf2 : (KK w).lookup f2 = some o2) (hd2 : o2.data = .func fd2) (h : Heap) (z : h.get? q = some (mObj f2 x) ∧ TopH w h) : ∃ k, (k = Keeper.frame ∨ k = Keeper.machine ∨ k = Keeper.boundFrame) ∧ Looks (model P w) h (keeperOf (.ref q)) k := by
  refine ⟨.boundFrame, .inr (.inr rfl), fun A Q E s k y => ?_⟩
  unfold keeperOf
  refine wpAny_bind (wpAny_load (k _ _ z.1) ?_)
  dsimp only
  show wpAny _ _ (load f2 >>= _) _ _ _
  refine wpAny_bind (wpAny_load (k _ _ (z.2.K _ _ hf2)) ?_)
  rw [hd2]
  exact wpAny_pure y
theorem call_m0 {q : Addr} {o2 : Obj} {fd2 : FuncData} {pos : Pos} {Q : Value → Shared → Prop} (hf2 : (KK w).lookup f2 = some o2) (hd2 : o2.data = .func fd2) (T : TopH w s.heap) (hq : s.heap.get? q = some (mObj f2 x))
    (h : codeAny (model P w) A (.call (.ref f2) ⟨[.ref x], []⟩) (fun r s' => match r with | .ok (.ret v) => Q v s' | .ok _ => False | .error e => E e s') s) : wpAny (model P w) A (callWith pos (.ref q) [] (backTo pos (starEach [] env)) []) Q E s := by
  refine callWith_of (P := fun h => h.get? q = some (mObj f2 x) ∧ TopH w h) rfl (keeps_m hf2 hd2) (evalArgs_nil3 ⟨⟨hq, T⟩, ?_⟩)
  refine wpAny_call (ks_codeAny_call_bound hq (codeAny_mono h fun r s' z => ?_))
  rcases r with e | (v | _ | _ | _) <;> first | exact z | exact z.elim
end
end Mine
namespace Mine
local macro_rules | `(tactic| walk_at "nl") => `(tactic| refine name_local (Me.ns (by assumption)) (by first | assumption | rfl) ?_)
local macro_rules | `(tactic| walk_at "nb") => `(tactic| refine name_boot (by assumption) rfl rfl rfl (by boot_by_name) (by decide) ?_)
theorem init_comb {w : World} {A : Around} {s : Shared} {R : Result → Shared → Prop} {x dx dl ep : Addr} {es : Array DictEntry} {vs : Array Value} {c : Nat} (hA : Rm 490 A) (T : TopH w s.heap)
    (I : DD w s.heap x (.ref 560) (some dx) [] es ep) (Io : s.heap.get? dx = some emptyDict) (hl : s.heap.get? dl = some (lsObj vs c)) (hz : vs.size ≤ 100)
    (hR : ∀ h' tk l hsh t n c, Ext [dx] s.heap h' → h'.get? dx = some (cDict hsh t l n) → h'.get? l = some (lsObj vs c) → s.heap.get? l = none → s.heap.objs.size ≤ l → R (.ok (.ret .none)) ⟨h', s.gens, s.drawn, tk, s.os⟩) :
    codeAny (model P w) A (.call (.ref 456) ⟨[.ref x, .ref dl], []⟩) R s := by
  refine enterAt [(Str.ofString "self", .ref x), (Str.ofString "dicts", .ref dl)] hA T (by rfl) (by rfl) (by rfl) (by rfl) (binds_K T.K rfl (by rfl) rfl rfl rfl) (by decide) (locs rfl) fun h₁ D hA' hh' => ?_
  have T1 := D.top T (by simp)
  have I1 := I.ext D.ext rfl (by simp)
  have J1 : Inst h₁ x 560 dx emptyDict es ep := ⟨I1.at_, D.ext.get Io rfl (by simp)⟩
  refine ks_wpAt_execs_cons ?_
  refine ks_wpAt_Expr_any ?_
  refine super_call_fn (x := x) (C := 560) (D := 560) (f2 := 264) T1 D.ns J1.i (by rfl) rfl (by rfl) rfl (by rfl) rfl (by rfl) (by rfl) (by rfl) (by rfl) rfl (by kernel_rfl) (by rfl) (by kernel_rfl) (by rfl)
      rfl rfl rfl rfl rfl rfl rfl rfl rfl (by decide) (fun q h5 nq hq k => ?_)
  have T2 : TopH w h5 := T1.ext (.of_keeps k) (by simp)
  refine call_m0 (x := x) (f2 := 264) (by rfl) rfl T2 hq ?_
  refine init_none (hA'.mono (by decide)) T2 (I1.keeps k) (k _ _ J1.own) rfl (fun h6 tk6 e6 => ?_)
  dsimp only
  replace D := (D.call (.of_keeps k)).call e6
  clear e6 T2 hq nq k I1 J1 T1 h5 h₁
  have T6 := D.top T (by simp)
  have I6 := I.ext D.ext rfl (by simp)
  have o6 : h6.get? dx = some emptyDict := D.ext.get Io rfl (by simp)
  have l6 : h6.get? dl = some (lsObj vs c) := D.ext.get hl rfl (by simp)
  refine ks_wpAt_execs_cons ?_
  refine ks_wpAt_Assign_Attr (wpAt_of_wpAny ?_)
  refine wpAny_Call_NameR ?_
  walk_at "nb"
  refine call_bi ?_
  refine wpAny_mono (E := fun _ _ => False) (Q := fun v s' => ∃ u o n U tk h7, v = [Value.ref u] ∧ s' = ⟨h7, s.gens, s.drawn, tk, s.os⟩ ∧ (U = "list" ∨ U = "tuple") ∧ h7.get? u = some o ∧ o.cls = .type U ∧ o.data = .seq vs n ∧ Ext [] h6 h7) ?_ ?_ (fun _ _ z => z.elim)
  · refine wpAny_items_cons ?_
    refine BoolOp_or ?_
    walk_at "nl"
    refine wpAny_truthy_list (items := vs) ⟨_, l6, rfl, c, rfl⟩ (by omega) ?_
    by_cases hv : vs.isEmpty = true
    · rw [hv]
      refine BoolOp_one ?_
      refine Tuple_ ?_
      refine wpAny_items_nil ?_
      refine wpAny_newTuple ?_
      refine wpAny_items_nil ?_
      have : vs = #[] := Array.isEmpty_iff.mp hv
      subst this
      exact ⟨_, _, 0, "tuple", _, _, rfl, rfl, .inr rfl, Heap.get?_push_size _ rfl, rfl, rfl, .push _ _⟩
    · have : vs.isEmpty = false := by simpa using hv
      rw [this]
      refine wpAny_items_nil ?_
      exact ⟨dl, _, c, "list", _, h6, rfl, rfl, .inl rfl, l6, rfl, rfl, .refl _⟩
  · rintro _ _ ⟨u, o, n, U, tk, h7, rfl, rfl, hU, ho, hc, hd, e7⟩
    refine call_list_seq u hU ho hc hd (fun h8 c' k8 e8 => ?_) (by rw [sizeLine_eq]; omega)
    dsimp only at k8 e8 ⊢
    have fl : s.heap.get? h7.objs.size = none := (D.ext.and e7).fresh (get_size _)
    replace D := D.call e7
    have ll : s.heap.objs.size ≤ h7.objs.size := Nat.le_of_lt D.ns.lt
    replace D := D.call (.of_keeps k8)
    generalize h7.objs.size = l at e8 fl ll ⊢
    clear ho e7 k8 h7 l6 o6 I6 T6 h6
    have T8 := D.top T (by simp)
    have I8 := I.ext D.ext rfl (by simp)
    have o8 : h8.get? dx = some emptyDict := D.ext.get Io rfl (by simp)
    walk_at "nl"
    refine set_plain T8.K (⟨I8.at_, o8⟩ : Inst h8 x 560 dx emptyDict es ep).i (by kernel_rfl) ?_
    refine set_dicts (w := w) T8 I8 o8 (fun h9 hsh n sb9 e9 => ?_)
    dsimp only
    refine wpAt_of_wpAny (wpAny_execs_nil ?_)
    have dl' : dx ≠ l := fun q => by rw [← q, Io] at fl; cases fl
    exact hR _ _ _ _ _ _ _ ((D.ext.mono (by simp)).trans (.sameBut sb9 ⟨_, e9⟩) (by simp)) e9 ((sb9.2 _ (Ne.symm dl')).trans e8) fl ll
end Mine
end
section
open PySem PySem.W PySem.W.X PyProof.Rows PySem.Calls
set_option maxRecDepth 100000
set_option maxHeartbeats 400000
namespace Mine
def LM (w : World) (b : Addr) (h : Heap) (vs : Array Value) (gs : List Grp) : Prop := vs.size = gs.length ∧ ∀ (i : Nat) (g : Grp), gs[i]? = some g → ∃ m dx kvs es ep, vs[i]? = some (.ref m) ∧ MDI w b h m g dx kvs es ep
structure WH (w : World) (b : Addr) (h : Heap) (x : Addr) (gs : List Grp) (dx l : Addr) (hsh : Int) (t : Tok) (n c : Nat) (vs : Array Value) (es : Array DictEntry) (ep : Nat) : Prop where
  lx : b ≤ x
  ld : b ≤ dx
  ll : b ≤ l
  dd : DD w h x (.ref 560) (some dx) [] es ep
  own : h.get? dx = some (cDict hsh t l n)
  ls : h.get? l = some (lsObj vs c)
  md : LM w b h vs gs
section
variable {w : World} {b : Addr} {h h' : Heap} {x dx l : Addr} {gs : List Grp} {hsh : Int} {t : Tok} {n c : Nat} {vs : Array Value} {es : Array DictEntry} {ep : Nat} {mod : List Addr}
theorem LM.ext (X : LM w b h vs gs) (e : Ext mod h h') (hm : ∀ a ∈ mod, a < b ∨ h.get? a = none) : LM w b h' vs gs :=
  ⟨X.1, fun i g q => let ⟨m, dx, kvs, es, ep, e1, e2⟩ := X.2 i g q; ⟨m, dx, kvs, es, ep, e1, e2.ext e hm⟩⟩
theorem WH.ext (X : WH w b h x gs dx l hsh t n c vs es ep) (e : Ext mod h h') (hm : ∀ a ∈ mod, a < b ∨ h.get? a = none) : WH w b h' x gs dx l hsh t n c vs es ep := by
  have nm : ∀ {a o}, b ≤ a → h.get? a = some o → a ∉ mod := fun {a o} hb ho q => (hm a q).elim (fun z => absurd z (Nat.not_lt.mpr hb)) fun z => by rw [z] at ho; cases ho
  exact ⟨X.lx, X.ld, X.ll, X.dd.ext e rfl (nm X.lx X.dd.at_), e.get X.own rfl (nm X.ld X.own), e.get X.ls rfl (nm X.ll X.ls), X.md.ext e hm⟩
theorem WH.ext0 (X : WH w b h x gs dx l hsh t n c vs es ep) (e : Ext [] h h') : WH w b h' x gs dx l hsh t n c vs es ep := X.ext e fun _ q => nomatch q
theorem WH.inst (X : WH w b h x gs dx l hsh t n c vs es ep) : Inst h x 560 dx (cDict hsh t l n) es ep := ⟨X.dd.at_, X.own⟩
end
theorem make_comb {w : World} {A : Around} {s : Shared} {R : Result → Shared → Prop} {dl b : Addr} {vs : Array Value} {gs : List Grp} {c : Nat} (hA : Rm 480 A) (T : TopH w s.heap)
    (hl : s.heap.get? dl = some (lsObj vs c)) (hm : LM w b s.heap vs gs) (hb : b ≤ s.heap.objs.size) (hz : vs.size ≤ 100)
    (hR : ∀ h' tk x dx l hsh t n c es ep, Ext [] s.heap h' → WH w b h' x gs dx l hsh t n c vs es ep → R (.ok (.ret (.ref x))) ⟨h', s.gens, s.drawn, tk, s.os⟩) :
    codeAny (model P w) A (.call (.ref 560) ⟨[.ref dl], []⟩) R s := by
  obtain ⟨h, g, d, t, os⟩ := s
  have X := T.K
  refine make_D (makesD_of X (makes_560 w)) (looks_findIn X (show findIn (KK w) (.ref 560) "__init__" = some (some (.ref 456)) by kernel_rfl)) (fun self => bind_fn X self (by rfl)) ?_
  dsimp only at T hl hR X hm hb
  have k : ∀ b o, h.get? b = some o → ((h.push emptyDict).push (dInst 560 h.objs.size)).get? b = some o := fun b o e => Heap.get?_push_of_some _ (Heap.get?_push_of_some _ e)
  have e1 : ((h.push emptyDict).push (dInst 560 h.objs.size)).get? h.objs.size = some emptyDict := Heap.get?_push_of_some _ (Heap.get?_push_size _ rfl)
  have e2 : ((h.push emptyDict).push (dInst 560 h.objs.size)).get? (h.objs.size + 1) = some (dInst 560 h.objs.size) := by heap_get
  have hs : ((h.push emptyDict).push (dInst 560 h.objs.size)).objs.size = h.objs.size + 2 := by rw [Heap.size_push, Heap.size_push]
  have ex := Ext.of_keeps k
  have ne : h.objs.size + 1 ≠ h.objs.size := Nat.succ_ne_self _
  refine init_comb (x := h.objs.size + 1) (dx := h.objs.size) ((hA.under rfl).mono (by decide)) (T.ext ex (by simp)) ⟨e2, fun _ q => by simp at q, .nil, List.nodup_nil⟩ e1 (k _ _ hl) hz ?_
  intro h' tk l hsh t n c' e q1 q2 fl ll
  have ex2 : Ext [] h h' := ex.trans e (by simp [get_size])
  refine ⟨rfl, hR _ _ _ h.objs.size l hsh t n c' _ _ ex2 ⟨Nat.le_trans hb (Nat.le_succ _), hb, ?_, ⟨e.get e2 rfl (by simpa using ne), fun _ q => by simp at q, .nil, List.nodup_nil⟩, q1, q2, hm.ext ex2 (by simp)⟩⟩
  dsimp only at ll
  rw [hs] at ll
  exact Nat.le_trans hb (Nat.le_trans (Nat.le_add_right _ 2) ll)
end Mine
end
section
open PySem PySem.W PySem.W.X PyProof.Rows PySem.Calls
set_option maxRecDepth 100000
set_option maxHeartbeats 400000
namespace Mine
structure Fs (A : Around) (h : Heap) (l : List Env) : Prop where
  fr : A.frames = some l
  each : ∀ env ∈ l, env.scope.kind ≠ .module ∧ ∃ L m, env.frame = some L ∧ h.Ns L m ∧ 604 ≤ L
abbrev fa (l : List Env) : List Addr := l.filterMap (·.frame)
structure FExt (F : List Addr) (h h' : Heap) : Prop where
  ext : Ext F h h'
  ns : ∀ L ∈ F, ∀ m, h.Ns L m → h'.Ns L m
section
variable {F : List Addr} {h h' h'' : Heap} {A : Around} {l : List Env}
theorem FExt.trans (x : FExt F h h') (y : FExt F h' h'') : FExt F h h'' := ⟨x.ext.trans y.ext fun _ q => .inl q, fun L q m n => y.ns L q m (x.ns L q m n)⟩
theorem FExt.refl (F : List Addr) (h : Heap) : FExt F h h := ⟨(Ext.refl h).mono fun _ q => (nomatch q), fun _ _ _ n => n⟩
theorem FExt.of (x : Ext [] h h') : FExt F h h' := ⟨x.mono fun _ q => (nomatch q), fun _ _ _ n => Ns_ext x n List.not_mem_nil⟩
theorem Fs.ext (x : Fs A h l) (y : FExt (fa l) h h') : Fs A h' l := ⟨x.fr, fun env he => by
  obtain ⟨hk, L, m, hf, n, hl⟩ := x.each env he
  exact ⟨hk, L, m, hf, y.ns L (List.mem_filterMap.mpr ⟨env, he, hf⟩) m n, hl⟩⟩
theorem Fs.ext0 (x : Fs A h l) (y : Ext [] h h') : Fs A h' l := x.ext (.of y)
theorem Fs.deeper {env : Env} {L : Addr} {m : Str → Option Value} (x : Fs A h l) (hk : env.scope.kind ≠ .module) (hf : env.frame = some L) (n : h.Ns L m) (hlow : 604 ≤ L) (he : (A.deeper env).frames = A.frames.map (env :: ·) := by rfl) : Fs (A.deeper env) h (env :: l) :=
  ⟨by rw [he, x.fr]; rfl, fun e q => by
    rcases List.mem_cons.mp q with rfl | q
    · exact ⟨hk, L, m, hf, n, hlow⟩
    · exact x.each e q⟩
theorem Fs.call {n : Nat} {fd : FuncData} {L a : Addr} {m : Str → Option Value} (x : Fs A h l) (_ : Rm n (A.deeper (callEnv fd L a))) (n : h.Ns L m) (hlow : 604 ≤ L) (hk : fd.scope.kind = .function := by rfl) : Fs (A.deeper (callEnv fd L a)) h (callEnv fd L a :: l) :=
  x.deeper (by show fd.scope.kind ≠ _; rw [hk]; decide) rfl n hlow
theorem Fs.same {A' : Around} (x : Fs A h l) (e : A'.frames = A.frames) : Fs A' h l := ⟨by rw [e, x.fr], x.each⟩
theorem Fs.mem (x : Fs A h l) {L : Addr} (q : L ∈ fa l) : (∃ m, h.Ns L m) ∧ 604 ≤ L := by
  obtain ⟨env, he, hf⟩ := List.mem_filterMap.mp q
  obtain ⟨_, L', m, hf', n, hl⟩ := x.each env he
  rw [hf] at hf'; cases hf'
  exact ⟨⟨m, n⟩, hl⟩
def restOf (h : Heap) (l : List Env) : Heap := hideAll h (fa l)
theorem Fs.fun (x : Fs A h l) {h₀ : Heap} : h.FunFrames (restOf h₀ l) l := by
  have key : ∀ l' : List Env, (∀ env ∈ l', env ∈ l) → h.FunFrames (restOf h₀ l) l' := by
    intro l'
    induction l' with
    | nil => intro _; trivial
    | cons env r ih =>
      intro hs
      obtain ⟨hk, L, m, hf, n, _⟩ := x.each env (hs env (.head _))
      obtain ⟨o, es, ep, ho, hd, _⟩ := n
      exact ⟨hk, ⟨L, o, hf, hideAll_none _ (List.mem_filterMap.mpr ⟨env, hs env (.head _), hf⟩), ho, fun vs q => by rw [hd] at q; cases q⟩, ih fun e q => hs e (.tail _ q)⟩
  exact key l fun _ q => q
theorem rest_stays (h : Heap) (l : List Env) : (restOf h l).StaysIn h := fun _ _ e => of_hideAll _ e
theorem FExt.of_rest {A : Around} (x : Fs A h l) (k : (restOf h l).StaysIn h') (u : h.UpToSlots h') : FExt (fa l) h h' := by
  refine ⟨⟨fun b o e n => .inl (k b o (hideAll_get _ e n)), fun b o e => ?_⟩, fun L q m n => u.ns n⟩
  by_cases q : b ∈ fa l
  · obtain ⟨⟨m, n⟩, _⟩ := x.mem q
    obtain ⟨o', _, _, e', _⟩ := u.ns n
    exact ⟨o', e'⟩
  · exact ⟨o, k b o (hideAll_get _ e q)⟩
theorem FExt.leave {h₀ : Heap} {L : Addr} (x : Ext [] h₀ h) (y : FExt (L :: F) h h') (hL : h₀.get? L = none) : FExt F h₀ h' :=
  ⟨(x.mono (mod' := F) fun _ q => (nomatch q)).trans y.ext fun a q => by
    rcases List.mem_cons.mp q with rfl | q
    · exact .inr hL
    · exact .inl q, fun L' q m n => y.ns L' (.tail _ q) m (Ns_ext x n List.not_mem_nil)⟩
theorem TopH.fext {w : World} (T : TopH w h) (x : Fs A h l) (y : FExt (fa l) h h') : TopH w h' := T.ext y.ext fun a q => (x.mem q).2
end
section
variable {w : World} {A : Around} {E : Value → Shared → Prop} {s : Shared} {env : Env} {outer : List Env} {L e : Addr} {t : Addr} {cls : Value} {h₀ : Heap}
abbrev excObj (cls : Value) (t : Addr) : Obj := { cls := cls, data := .fields #[.ref t, .none, .none, .none, .bool false, .none] }
structure Fly (h₀ : Heap) (l : List Env) (e : Addr) (cls a0 fl : Value) (h : Heap) : Prop where
  stays : (restOf h₀ l).StaysIn h
  up : h₀.UpToSlots h
  new : h₀.get? e = none
  at_ : h.TracedAtW (restOf h₀ l) e cls a0 fl
theorem hide_none {h : Heap} {l : List Addr} {e : Addr} (q : h.get? e = none) : (hideAll h l).get? e = none := by
  cases z : (hideAll h l).get? e with
  | none => rfl
  | some o => have := of_hideAll _ z; rw [q] at this; cases this
theorem note_first {Q : Unit → Shared → Prop} (F₀ : Fs A h₀ (env :: outer)) (k : ∀ b o, h₀.get? b = some o → s.heap.get? b = some o) (hf : env.frame = some L) (he : s.heap.get? e = some (excObj cls t)) (hen : h₀.get? e = none)
    (h : ∀ h', Fly h₀ (env :: outer) e cls (.ref t) (rawInt L) h' → Q () { s with heap := h' }) : wpAny (model P w) A (noteFrame (.ref e) env) Q E s := by
  have F : Fs A s.heap (env :: outer) := F₀.ext0 (.of_keeps k)
  unfold noteFrame
  simp only [hf]
  refine wpAny_bind (wpAny_field he rfl (x := .none) rfl ?_)
  rw [if_neg (by decide)]
  refine wpAny_entryW (base := restOf h₀ (env :: outer)) F.fr F.fun hf he (fun b o q => k b o (of_hideAll _ q)) (hide_none hen) rfl (by show 1 < 6; decide) (a0 := .ref t) rfl fun h' z => ?_
  obtain ⟨z1, z2, z3, z4⟩ := z
  exact h h' ⟨z1, fun b o q1 q2 => z4 b o (k b o q1) q2, hen, z3⟩
theorem note_again {a0 : Value} {Q : Unit → Shared → Prop} (F₀ : Fs A h₀ (env :: outer)) (hf : env.frame = some L) (z : Fly h₀ (env :: outer) e cls a0 .none s.heap)
    (h : ∀ h', Fly h₀ (env :: outer) e cls a0 (rawInt L) h' → Q () { s with heap := h' }) : wpAny (model P w) A (noteFrame (.ref e) env) Q E s := by
  have F : Fs A s.heap (env :: outer) := F₀.ext (.of_rest F₀ z.stays z.up)
  refine wpAny_noteFrame_onW (base := restOf h₀ (env :: outer)) F.fr F.fun hf z.at_ z.stays (hide_none z.new) fun h' y => ?_
  obtain ⟨z1, z2, z3, z4⟩ := y
  exact h h' ⟨z1, z.up.trans z4, z.new, z3⟩
theorem land {a0 fl : Value} {Q : Unit → Shared → Prop} {l : List Env} (F₀ : Fs A h₀ l) (z : Fly h₀ l e cls a0 fl s.heap) (h : ∀ h', Fly h₀ l e cls a0 .none h' → Q () { s with heap := h' }) :
    wpAny (model P w) A (setFlight (.ref e) none) Q E s := by
  have F : Fs A s.heap l := F₀.ext (.of_rest F₀ z.stays z.up)
  exact wpAny_setFlight_noneW (base := restOf h₀ l) z.stays F.fun z.at_ fun h' y1 y2 y3 y4 => h h' ⟨y1, z.up.trans fun b o q n => ⟨o.slots, y4 b o q n⟩, z.new, y3⟩
theorem Fly.fext {A : Around} {a0 fl : Value} {l : List Env} {h : Heap} (z : Fly h₀ l e cls a0 fl h) (F₀ : Fs A h₀ l) : FExt (fa l) h₀ h := .of_rest F₀ z.stays z.up
theorem Fly.isA {a0 fl : Value} {l : List Env} {h : Heap} (z : Fly h₀ l e cls a0 fl h) : ∃ o, h.get? e = some o ∧ o.cls = cls := z.at_.there
theorem Fly.keeps {a0 fl : Value} {l : List Env} {h h' : Heap} (z : Fly h₀ l e cls a0 fl h) (k : ∀ b o, h.get? b = some o → h'.get? b = some o) : Fly h₀ l e cls a0 fl h' := by
  refine ⟨fun b o q => k b o (z.stays b o q), z.up.trans (.of_keeps k), z.new, ?_⟩
  obtain ⟨oe, vs, T, oT, ts, q1, q2, q3, q4, q5, q6, q7, q8⟩ := z.at_
  exact ⟨oe, vs, T, oT, ts, k _ _ q1, q2, q3, q4, q5, q6, k _ _ q7, q8⟩
end
end Mine
end
section
open PySem PySem.W PySem.W.X PyProof.Rows PySem.Calls
set_option maxRecDepth 100000
set_option maxHeartbeats 400000
namespace Mine
section
variable {α : Type} {M : Model} {A : Around} {c : Code} {E : Value → Shared → Prop} {s : Shared} {env : Env}
theorem wpAt_attempt {m : Sem α} {Q : Except Value α → Shared → Prop} (h : PySem.wpAt M A c m (fun a s' => Q (.ok a) s') (fun e s' => Q (.error e) s') s) : PySem.wpAt M A c m.attempt Q E s :=
  fun Γ p hc hΓ => by rw [Sem.wp_attempt]; exact h Γ p hc hΓ
theorem wpAt_Try {body orelse : List Stmt} {h₀ : ExceptHandler} {hs : List ExceptHandler} {pos : Pos} {Q : Flow → Shared → Prop}
    (h : PySem.wpAt M A c (execs body env) (fun f s₁ => match f with | .next => wpAny M A (execs orelse env) Q E s₁ | f => Q f s₁)
      (fun e s₁ => wpAny M A (noteFrame e env) (fun _ s₂ => wpAny M A (setFlight e none) (fun _ s₃ => wpAny M A (handleBy e env (h₀ :: hs)) Q E s₃) E s₂) E s₁) s) :
    PySem.wpAt M A c (exec (.Try body (h₀ :: hs) orelse [] pos) env) Q E s := by
  rw [arm_exec_Try]
  refine PySem.wpAt_bind (wpAt_of_wpAny (wpAny_standAt ?_))
  unfold tryStmt
  simp only [List.isEmpty_nil, if_true, List.isEmpty_cons, Bool.false_and, Bool.false_eq_true, if_false]
  refine PySem.wpAt_bind (wpAt_attempt (ks_wpAt_mono h (fun f s₁ h₁ => ?_) fun e s₁ h₁ => ?_))
  · cases f <;> first | exact wpAt_of_wpAny h₁ | exact wpAt_of_wpAny (wpAny_pure h₁)
  · exact wpAt_of_wpAny (wpAny_bind (wpAny_mono h₁ (fun _ _ h₂ => wpAny_bind h₂) fun _ _ x => x))
end
theorem ent_getitem : entryFor table "dict.__getitem__" = some Builtin.«dict.__getitem__» := F.entry_dict_getitem
section
variable {w : World} {A : Around} {E : Value → Shared → Prop} {h : Heap} {g : Array GenState} {d : Drawn} {t : Nat} {os : OsState} {x C dx ep : Addr} {es : Array DictEntry} {cdC : ClassData} {k : Str} {tk : Tok} {kvs : List (Str × Value)}
theorem run_getitem {Q : Fin → Shared → Prop} (X : (KK w).In h) (I : DD w h x (.ref C) (some dx) kvs es ep) (hh : A.handled = none) (hx : (x == sysModules) = false) (hm : findIn (KK w) (.ref C) "__missing__" = some none)
    (q1 : ∀ u, valueAt kvs k = some u → Q (.done (.ret u)) ⟨h, g, d, t + 1, os⟩)
    (q2 : valueAt kvs k = none → ∀ h' e, Heap.MadeExc h h' e "KeyError" [.str k tk] → E (.ref e) ⟨h', g, d, t + 1, os⟩) :
    wpAny (model P w) A (Builtin.«dict.__getitem__» ⟨[.ref x, .str k tk], []⟩) Q E ⟨h, g, d, t, os⟩ := by
  have hI := I.at_
  have L : Looks (model P w) h (typeOf (.ref x)) (.ref C) := (Looks.ld hI).andThen .now
  have L1 : Looks (model P w) h (typeLookup (.ref C) "__missing__") none := looks_findIn X hm
  unfold Builtin.«dict.__getitem__»
  repeat (first | (show wpAny _ _ (dictGet _ _) _ _ _; refine get_DD (s := ⟨h, g, d, t, os⟩) I ?_) | lk)
  cases hv : valueAt kvs k with
  | some u => exact wpAny_pure (q1 u hv)
  | none =>
    dsimp only
    refine wpAny_bind (wpAny_missed_other hx ?_)
    refine wpAny_bind (L.at ?_)
    rw [if_pos (by simp)]
    refine wpAny_bind ?_
    unfold callSpecial? specialOf
    refine wpAny_bind (wpAny_bind (L.at (L1.at (wpAny_pure ?_))))
    dsimp only
    refine wpAny_bind (wpAny_rule ?_)
    exact wpAny_bind (wpAny_newExc_plain plainExc_KeyError fun h' e hm => wpAny_raiseNew_none hh (q2 hv h' e hm))
end
local macro_rules | `(tactic| walk_at "nl") => `(tactic| refine name_local (Me.ns (by assumption)) (by first | assumption | rfl) ?_)
local macro_rules | `(tactic| walk_at "nb") => `(tactic| refine name_boot (by assumption) rfl rfl rfl (by boot_by_name) (by decide) ?_)
def look (g : Grp) (k : Str) : List Int := ((g.find? fun p => decide (p.1 = k)).map (·.2)).getD []
theorem GL.look {b : Addr} {h : Heap} {kvs : List (Str × Value)} {g : Grp} (x : GL b h kvs g) (nd : (kvs.map (·.1)).Nodup) {k : Str} :
    (∀ u, valueAt kvs k = some u → ∃ a, u = .ref a ∧ IL b h a (Mine.look g k)) ∧ (valueAt kvs k = none → Mine.look g k = []) := by
  have ndg : (g.map (·.1)).Nodup := by rw [← x.keys]; exact nd
  constructor
  · intro u hu
    obtain ⟨i, ns, a, e1, e2, rfl, il⟩ := x.there hu
    refine ⟨a, rfl, ?_⟩
    have : Mine.look g k = ns := by
      unfold Mine.look
      have hf : g.find? (fun p => decide (p.1 = k)) = some (k, ns) := by
        obtain ⟨hi, ei⟩ := List.getElem?_eq_some_iff.mp e2
        rw [List.find?_eq_some_iff_getElem]
        refine ⟨by simp, i, hi, ei, fun j hj => ?_⟩
        simp only [Bool.not_eq_true', decide_eq_false_iff_not]
        intro q
        have hjl : j < g.length := by omega
        have nd2 := List.pairwise_iff_getElem.mp ndg j i (by rw [List.length_map]; exact hjl) (by rw [List.length_map]; exact hi) hj
        rw [List.getElem_map, List.getElem_map, ei] at nd2
        exact nd2 q
      rw [hf]; rfl
    rw [this]; exact il
  · intro hn
    unfold Mine.look
    have : g.find? (fun p => decide (p.1 = k)) = none := by
      rw [List.find?_eq_none]
      intro p hp
      simp only [decide_eq_true_eq]
      intro q
      have hk : k ∈ kvs.map (·.1) := by rw [x.keys, ← q]; exact List.mem_map_of_mem (f := (·.1)) hp
      obtain ⟨kv, hkv, e⟩ := List.mem_map.mp hk
      unfold valueAt at hn
      rw [Option.map_eq_none_iff, List.find?_eq_none] at hn
      exact hn kv hkv (by simpa using e)
    rw [this]; rfl
theorem look_len {g : Grp} {k : Str} {n : Nat} (hz : ∀ p ∈ g, p.2.length ≤ n) : (look g k).length ≤ n := by
  unfold look
  cases e : g.find? fun p => decide (p.1 = k) with
  | none => simp
  | some p => exact hz p (List.mem_of_find?_eq_some e)
theorem sub_ke : isSubtype (.type "KeyError") (.type "KeyError") = pure true := by rw [isSubtype_type]; kernel_rfl
theorem sub_kb : isSubtype (.type "KeyError") (.type "BaseException") = pure true := by rw [isSubtype_type]; kernel_rfl
theorem sub_kt : isSubtype (.type ((Manifest.find? "KeyError").elim "type" fun x => x.metatype)) (.type "tuple") = pure false := by rw [isSubtype_type]; kernel_rfl
theorem getlist_spec {w : World} {A : Around} {s : Shared} {R : Result → Shared → Prop} {x dx b ep : Addr} {g : Grp} {kvs : List (Str × Value)} {es : Array DictEntry} {k : Str} {tk : Tok} {l : List Env} (hA : Rm 500 A) (hh : A.handled = none) (T : TopH w s.heap)
    (X : MDI w b s.heap x g dx kvs es ep) (hlow : 604 ≤ x) (F : Fs A s.heap l) (hz : ∀ p ∈ g, p.2.length ≤ 100)
    (hR : ∀ h' tk a, FExt (fa l) s.heap h' → IL s.heap.objs.size h' a (look g k) → R (.ok (.ret (.ref a))) ⟨h', s.gens, s.drawn, tk, s.os⟩) :
    codeAny (model P w) A (.call (.ref 305) ⟨[.ref x, .str k tk, .none], []⟩) R s := by
  refine enterAt [(Str.ofString "self", .ref x), (Str.ofString "key", .str k tk), (Str.ofString "kind", .none)] hA T (by rfl) (by rfl) (by rfl) (by rfl) (binds_K T.K rfl (by rfl) rfl rfl rfl) (by decide) (locs rfl) fun h₁ D hA' hh' => ?_
  replace hh' := hh'.trans hh
  have T1 := D.top T (by simp)
  have X1 := X.ext D.ext (by simp)
  have F1 := (F.ext0 D.ext).call hA' D.ns T.low
  refine ks_wpAt_execs_cons ?_
  refine wpAt_Try ?_
  refine ks_wpAt_execs_cons ?_
  refine ks_wpAt_Assign_Name ?_
  refine super_call (x := x) (C := 437) (D := 437) (id := "dict.__getitem__") (BT := "builtin_function_or_method") T1 D.ns X1.inst.i (by rfl) rfl (by rfl) (by rfl) (by rfl) rfl (by rfl) (by rfl) (by rfl) (by rfl) rfl (by kernel_rfl) (by rfl) (by kernel_rfl) (by kernel_rfl)
    (.inr ⟨md_getitem, rfl⟩) rfl rfl rfl rfl rfl rfl rfl rfl rfl (by decide) (fun q h2 nq hq kp => ?_)
  replace D := D.call (.of_keeps kp)
  have X2 := X1.ext (.of_keeps kp) (by simp)
  have T2 : TopH w h2 := T1.ext (.of_keeps kp) (by simp)
  replace F1 := F1.ext0 (.of_keeps kp)
  dsimp only
  clear nq kp X1 T1 h₁
  refine call_b (x := x) (T := "builtin_function_or_method") (id := "dict.__getitem__") (.inr rfl) ?_
  refine wpAny_items_cons ?_
  walk_at "nl"
  refine wpAny_items_nil ?_
  refine ⟨hq, ?_⟩
  refine wpAny_call ?_
  have ck := chk_md (id := "dict.__getitem__") (args := [.str k tk]) T2.K X2.inst.i (by rfl) (by kernel_rfl) (by rfl) (by decide +kernel) (by decide +kernel) (by kernel_rfl)
  refine code_bound (.inr rfl) hq ck (fun _ => Code.quiet_builtin _ (by decide +kernel)) ent_getitem ?_
  refine run_getitem T2.K X2.dd hh' (not_sys hlow) (by kernel_rfl) (fun u hu => ?_) (fun hn h3 e hm => ?_)
  · obtain ⟨a, rfl, il⟩ := (X2.gl.look X2.dd.nd).1 u hu
    refine wpAny_storeName_local rfl D.ns (fun h3 hn hs => ?_) rfl
    replace D := D.store hn hs
    have X3 := X.ext D.ext (by simp)
    have T3 := D.top T (by simp)
    clear hn hs hq
    dsimp only
    refine wpAt_of_wpAny (wpAny_execs_nil ?_)
    dsimp only
    refine wpAny_execs_nil ?_
    dsimp only
    refine wpAt_of_wpAny ?_
    refine wpAny_execs_cons ?_
    refine wpAny_If ?_
    refine wpAny_isTrue_Compare1 ?_
    walk_at "nl"
    refine wpAny_Constant_none ?_
    refine is_none ?_
    refine wpAny_truthy_bool ?_
    rw [if_pos (show ((Value.none == Value.none) = true) from rfl)]
    refine wpAny_execs_cons ?_
    refine wpAny_Return_some ?_
    refine wpAny_Call_NameR ?_
    walk_at "nb"
    refine call_bi ?_
    refine wpAny_items_cons ?_
    walk_at "nl"
    refine wpAny_items_nil ?_
    obtain ⟨a', ea', il3⟩ := (X3.gl.look X3.dd.nd).1 _ hu
    cases ea'
    obtain ⟨hb, va, na, ea, ia⟩ := id il3
    have hva : va.size ≤ 100 := by have := look_len (k := k) hz; have := ia_len ia; rw [Array.length_toList] at this; omega
    refine call_list_seq a (.inl rfl) ea rfl rfl (fun h4 c' k4 e4 => ?_) (by rw [sizeLine_eq]; omega)
    dsimp only at k4 e4 ⊢
    exact hR _ _ _ (.of (D.ext.and (.of_keeps k4))) ⟨Nat.le_of_lt D.ns.lt, va, c', e4, ia⟩
  · have hlk := (X2.gl.look X2.dd.nd).2 hn
    obtain ⟨tt, et, -, -⟩ := hm.there
    have DL : s.heap.get? s.heap.objs.size = none := get_size _
    refine note_first (h₀ := h2) F1 hm.keeps rfl et hm.new (fun h4 z4 => ?_)
    refine land F1 z4 (fun h5 z5 => ?_)
    have x5 := z5.fext F1
    have T5 := T2.fext F1 x5
    have F5 := F1.ext x5
    obtain ⟨oe, ee, ce⟩ := z5.isA
    refine wpAny_handleBy_builtin (X := "KeyError") (T := "KeyError") (b := true) sub_kb sub_kt sub_ke ?_
    walk_at "nb"
    refine ⟨rfl, ⟨oe, ee, ce⟩, ?_⟩
    rw [if_pos rfl]
    refine land (F1.same rfl) z5 (fun h6 z6 => ?_)
    have x6 := z6.fext F1
    refine wpAny_execs_cons ?_
    refine wpAny_Return_some ?_
    refine wpAny_List ?_
    refine wpAny_items_nil ?_
    refine ⟨by simp, ?_⟩
    have n6 : h6.Ns s.heap.objs.size _ := x6.ns _ (.head _) _ D.ns
    rw [hlk] at hR
    exact hR _ _ _ ((FExt.leave D.ext x6 DL).trans (.of (.push _ _))) ⟨Nat.le_of_lt n6.lt, #[], 0, Heap.get?_push_size _ rfl, .nil⟩
end Mine
end
section
open PySem PySem.W PySem.W.X PyProof.Rows PySem.Calls
set_option maxRecDepth 100000
set_option maxHeartbeats 400000
namespace Mine
local macro_rules | `(tactic| walk_at "nl") => `(tactic| refine name_local (Me.ns (by assumption)) (by first | assumption | rfl) ?_)
local macro_rules | `(tactic| walk_at "nb") => `(tactic| refine name_boot (by assumption) rfl rfl rfl (by boot_by_name) (by decide) ?_)
theorem Fs.not {A : Around} {h : Heap} {l : List Env} (F : Fs A h l) {a : Addr} (q : h.get? a = none) : a ∉ fa l := fun m => by
  obtain ⟨⟨m, o, _, _, e, _⟩, _⟩ := F.mem m
  rw [q] at e; cases e
theorem Me.fcall {h₀ h h' : Heap} {L : Addr} {m : Str → Option Value} {F : List Addr} (D : Me F h₀ h L m []) (y : FExt (L :: F) h h') : Me F h₀ h' L m [] :=
  ⟨D.ext.trans y.ext fun a q => by
    rcases List.mem_cons.mp q with rfl | q
    · exact D.offL
    · exact .inl q, y.ns L (.head _) m D.ns, fun _ q => (nomatch q), List.nodup_nil, fun _ q => (nomatch q), fun _ q => (nomatch q), D.offL⟩
theorem FExt.leave' {h₀ h h' : Heap} {L : Addr} {F : List Addr} (x : FExt F h₀ h) (y : FExt (L :: F) h h') (hL : h₀.get? L = none) : FExt F h₀ h' :=
  ⟨x.ext.trans y.ext fun a q => by
    rcases List.mem_cons.mp q with rfl | q
    · exact .inr hL
    · exact .inl q, fun L' q m n => y.ns L' (.tail _ q) m (x.ns L' q m n)⟩
theorem FExt.and {h₀ h h' : Heap} {F : List Addr} (x : FExt F h₀ h) (y : Ext [] h h') : FExt F h₀ h' := x.trans (.of y)
theorem canon_dga : Manifest.canonical "dict.__getattribute__" = "object.__getattribute__" := by decide +kernel
theorem entry_dga : entryFor table "dict.__getattribute__" = some Builtin.«object.__getattribute__» := entryFor_alias (id' := "object.__getattribute__") (by kernel_rfl) rfl (by decide +kernel) (by kernel_rfl)
theorem slot_dga : Slot "dict" "__getattribute__" "dict.__getattribute__" := .of (owner := "dict") (n := "__getattribute__") (by rw [typeLookup_type, builtinLookup_eq_fast]; kernel_rfl) (by decide +kernel) (by decide +kernel) (by decide +kernel)
  (by first | exact .inl (by decide +kernel) | exact .inr (by decide +kernel)) (by rw [isSubtype_type]; kernel_rfl)
theorem args_dga (a b : Value) : argsOk "dict.__getattribute__" ⟨[a, b], []⟩ := by unfold argsOk; kernel_rfl
theorem kind_dga : builtinKind "dict.__getattribute__" = some .slot := by decide +kernel
theorem split_dga : splitId "dict.__getattribute__" = some ("dict", "__getattribute__") := by decide +kernel
section
variable {w : World} {A : Around} {E : Value → Shared → Prop} {s : Shared} {x C : Addr} {ox : Obj} {od : Option Obj} {name : Str}
theorem method_D {f : Addr} {pl : Sem Bool} {Q : Value × List Value → Shared → Prop} (X : (KK w).In s.heap) (I : InstAt s.heap x ox C od) (hga : findIn (KK w) (.ref C) "__getattribute__" = some (some (.builtin "dict.__getattribute__"))) (hk : findIn (KK w) (.ref C) "__getattr__" = some none)
    (hf : findIn (KK w) (.ref C) name = some (some (.ref f))) (ht : typeIn (KK w) (.ref f) = some (.type "function")) (hs : shadowIn od name = some false) (h : Q (.ref f, [.ref x]) s) :
    wpAny (model P w) A (getMethod (.ref x) name pl) Q E s := by
  unfold getMethod specialOf
  refine wpAny_bind (wpAny_bind (I.type.here ((looks_findIn X hga).here ?_)))
  dsimp only
  rw [canon_dga, if_neg (by decide)]
  refine wpAny_bind (wpAny_bind (I.type.here ((looks_findIn X hk).here ?_)))
  refine wpAny_bind (wpAny_bind (I.type.here ((looks_findIn X hf).here (wpAny_bind ((looks_typeIn X ht).here ?_)))))
  rw [if_neg (by decide +kernel)]
  refine wpAny_bind (wpAny_loadPart I.at_ ?_)
  have hd := I.dict
  cases e : ox.dict with
  | none => exact wpAny_bind (wpAny_rule (wpAny_pure h))
  | some dx =>
    cases od with
    | none => rw [e] at hd; exact hd.elim
    | some o =>
      rw [e] at hd
      obtain ⟨r, a, b⟩ := Option.map_eq_some_iff.mp hs
      refine wpAny_bind (wpAny_bind (wpAny_loadPart hd ?_))
      rw [nsLook_of a]
      refine wpAny_pure ?_
      rw [b]
      exact wpAny_bind (wpAny_rule (wpAny_pure h))
theorem get_D {v : Value} {expr : Bool} {Q : Value → Shared → Prop} (X : (KK w).In s.heap) (I : InstAt s.heap x ox C od) (hga : findIn (KK w) (.ref C) "__getattribute__" = some (some (.builtin "dict.__getattribute__"))) (hk : findIn (KK w) (.ref C) "__getattr__" = some none)
    (hd : mroIn (KK w) C (.type "dict") = some true) (hf : findObj (KK w) C od name = some (.value v)) (hh : handedIn v = true) (h : Q v { s with toks := s.toks + 1 }) : wpAny (model P w) A (getAttr (.ref x) name expr) Q E s := by
  obtain ⟨hp, g, d, t, os⟩ := s
  have L0 := I.type (M := model P w)
  have L1 := looks_findIn (M := model P w) X hga
  have L2 := looks_find (M := model P w) X I hf
  have L3 : Looks (model P w) hp (isInstance (.ref x) (.type "dict")) true := L0.andThen (looks_mroIn X hd)
  have L4 := looks_findIn (M := model P w) X hk
  unfold getAttr getAttrBy
  refine wpAny_bind (wpAny_mkText (wpAny_holding (wpAny_bind (L0.at (wpAny_bind (L1.at ?_))))))
  dsimp only
  refine ite_no (show ¬ ((true && (Value.builtin "dict.__getattribute__" == Value.builtin "object.__getattribute__")) = true) by decide) ?_
  unfold getAttrByItsOwn hookBefore
  refine wpAny_bind (ite_yes (by rfl) (L4.at ?_))
  refine wpAny_bind (wpAny_attempt (wpAny_holding ?_))
  unfold callGetattribute boundAndCalled
  refine ite_no (by simp [onTheHeap]) ?_
  rw [slot_dga.bind]
  refine wpAny_bind (wpAny_pure ?_)
  refine wpAny_call ?_
  refine codeAny_call_builtin slot_dga.plain entry_dga (@check_slot (model P w) _ _ ⟨hp, g, d, t + 1, os⟩ "dict.__getattribute__" "dict" "__getattribute__" (.ref x) [.str name t] [] _ kind_dga split_dga L3 (args_dga _ _) ?_)
  unfold Builtin.«object.__getattribute__»
  refine wpAny_bind (wpAny_pure (wpAny_bind (wpAny_pure (wpAny_bind (L0.at (wpAny_bind (L2.at ?_)))))))
  refine wpAny_pure ?_
  dsimp only
  rw [handedOut_of hh]
  exact wpAny_pure h
end
section
variable {w : World} {A : Around} {E : Value → Shared → Prop} {s : Shared}
theorem get_dicts {b x dx l : Addr} {gs : List Grp} {hsh : Int} {t : Tok} {n c : Nat} {vs : Array Value} {es : Array DictEntry} {ep : Nat} {expr : Bool} {Q : Value → Shared → Prop} (T : TopH w s.heap) (X : WH w b s.heap x gs dx l hsh t n c vs es ep)
    (h : Q (.ref l) { s with toks := s.toks + 1 }) : wpAny (model P w) A (getAttr (.ref x) "dicts" expr) Q E s :=
  get_D T.K X.inst.i (by kernel_rfl) (by kernel_rfl) (by kernel_rfl) (by kernel_rfl) rfl h
end
theorem FExt.ownE {A : Around} {h₀ h h' : Heap} {l : List Env} (x : FExt (fa l) h₀ h) {a : Addr} (he : Heap.ExtBut a h h') (off : h₀.get? a = none) (F : Fs A h₀ l) : FExt (fa l) h₀ h' := by
  have na : ∀ {b o}, h₀.get? b = some o → b ≠ a := fun {b o} e q => by rw [q, off] at e; cases e
  refine ⟨⟨fun b o e n => ?_, fun b o e => ?_⟩, fun L q m n => ?_⟩
  · rcases x.ext.keep b o e n with q | ⟨ht, ps, more, rfl, q, kq⟩
    · exact .inl (he b o (na e) q)
    · exact .inr ⟨ht, ps, more, rfl, he b _ (na e) q, kq⟩
  · obtain ⟨o', q⟩ := x.ext.there b o e
    exact ⟨o', he b o' (na e) q⟩
  · have ne : L ≠ a := let ⟨_, _, _, e, _⟩ := n; na e
    obtain ⟨o, es, ep, e, r⟩ := x.ns L q m n
    exact ⟨o, es, ep, he L o ne e, r⟩
theorem extend_raw {w : World} {A : Around} {E : Value → Shared → Prop} {s : Shared} {l b : Addr} {vs us : Array Value} {n m : Nat} {Q : Value → Shared → Prop} (hl : s.heap.get? l = some (lsObj vs n)) (hb : s.heap.get? b = some (lsObj us m)) (hz : vs.size + us.size ≤ 1000)
    (q : ∀ h' n', h'.get? l = some (lsObj (vs ++ us) n') → Heap.SameBut l s.heap h' → Q .none { s with heap := h' }) : wpAny (model P w) A (call (.builtin "list.extend") [.ref l, .ref b]) Q E s := by
  refine call_meets F.slot_list_extend (show s.TypeIs (.ref l) "list" from ⟨_, hl, rfl⟩) F.entry_list_extend (F.args_list_extend_2 _ _) (AutoSeq1.list_extend_list_list_0 l vs n b us m (extend_door (by rw [sizeLine_eq]; omega)) (by rw [sizeLine_eq]; omega) (by rw [sizeLine_eq]; omega)) ⟨hl, hb, ?_⟩
  obtain ⟨n', e⟩ : ∃ n', Obj.mapSeq (fun x => x ++ us) (lsObj vs n) = lsObj (vs ++ us) n' := ⟨_, rfl⟩
  refine q _ n' ?_ (Heap.SameBut.update ..)
  rw [← e]
  exact Heap.get?_update_self _ hl rfl
theorem meth_MD {w : World} {A : Around} {E : Value → Shared → Prop} {s : Shared} {x dx : Addr} {es : Array DictEntry} {ep : Nat} {name : Str} {f : Addr} {pl : Sem Bool} {Q : Value × List Value → Shared → Prop} (T : TopH w s.heap) (I : Inst s.heap x 437 dx emptyDict es ep)
    (hf : findIn (KK w) (.ref 437) name = some (some (.ref f))) (ht : typeIn (KK w) (.ref f) = some (.type "function")) (h : Q (.ref f, [.ref x]) s) : wpAny (model P w) A (getMethod (.ref x) name pl) Q E s :=
  method_D T.K I.i (by kernel_rfl) (by kernel_rfl) hf ht rfl h
theorem flat_len {gs : List Grp} {k : Str} (hz : ∀ g ∈ gs, ∀ p ∈ g, p.2.length ≤ 100) : ((gs.map (look · k)).flatten).length ≤ 100 * gs.length := by
  induction gs with
  | nil => simp
  | cons g r ih =>
    have h1 := look_len (k := k) (hz g (.head _))
    have h2 := ih fun g' hg => hz g' (.tail _ hg)
    simp only [List.map_cons, List.flatten_cons, List.length_append, List.length_cons]
    omega
theorem comb_getlist {w : World} {A : Around} {s : Shared} {R : Result → Shared → Prop} {x dx dl b : Addr} {gs : List Grp} {hsh : Int} {t tk : Tok} {n c ep : Nat} {vs : Array Value} {es : Array DictEntry} {k : Str} {l : List Env} (hA : Rm 490 A) (hh : A.handled = none) (T : TopH w s.heap)
    (X : WH w b s.heap x gs dx dl hsh t n c vs es ep) (hlow : 604 ≤ b) (F : Fs A s.heap l) (hF : ∀ a ∈ fa l, a < b) (hz : ∀ g ∈ gs, ∀ p ∈ g, p.2.length ≤ 100) (hg : gs.length ≤ 5)
    (hR : ∀ h' tk a, FExt (fa l) s.heap h' → IL s.heap.objs.size h' a (gs.map (look · k)).flatten → R (.ok (.ret (.ref a))) ⟨h', s.gens, s.drawn, tk, s.os⟩) :
    codeAny (model P w) A (.call (.ref 479) ⟨[.ref x, .str k tk], []⟩) R s := by
  refine enter [(Str.ofString "self", .ref x), (Str.ofString "key", .str k tk), (Str.ofString "kind", .none)] hA T (by rfl) (by rfl) (by rfl) (by rfl) (binds_K T.K rfl (by rfl) rfl rfl rfl) (by decide) (locs rfl) fun h₁ D hA' hh' => ?_
  replace hh' := hh'.trans hh
  have X1 := X.ext0 D.ext
  have F1 := (F.ext0 D.ext).call hA' D.ns T.low
  refine wpAny_execs_cons ?_
  refine wpAny_Assign_Name ?_
  refine wpAny_List ?_
  refine wpAny_items_nil ?_
  refine ⟨by simp, ?_⟩
  have frv : s.heap.get? h₁.objs.size = none := D.fresh
  have nrv : s.heap.objs.size ≠ h₁.objs.size := Nat.ne_of_lt D.ns.lt
  have lrv : s.heap.objs.size ≤ h₁.objs.size := Nat.le_of_lt D.ns.lt
  have erv : (h₁.push (lsObj #[] 0)).get? h₁.objs.size = some (lsObj #[] 0) := Heap.get?_push_size _ rfl
  replace D := D.call (Ext.push h₁ (lsObj #[] 0))
  replace F1 := F1.ext0 (Ext.push h₁ (lsObj #[] 0))
  dsimp only
  change wpAny _ _ _ _ _ ⟨h₁.push (lsObj #[] 0), _, _, _, _⟩
  generalize h₁.objs.size = rv at frv nrv lrv erv ⊢
  generalize h₁.push (lsObj #[] 0) = h2 at D erv F1 ⊢
  clear X1 h₁
  refine wpAny_storeName_local rfl D.ns (fun h3 hn hs => ?_) rfl
  replace D := D.store hn hs
  replace erv := (hs.2 _ (Ne.symm nrv)).trans erv
  have F3 := (F.ext0 D.ext).call hA' D.ns T.low
  dsimp only
  clear hn hs F1 h2
  refine wpAny_execs_cons ?_
  refine wpAny_For ?_
  refine Attribute_Name_ ?_
  walk_at "nl"
  have T3 := D.top T (by simp)
  have X3 := X.ext0 D.ext
  refine get_dicts T3 X3 ?_
  refine wpAny_pyIter_list ⟨_, X3.ls, rfl, c, rfl⟩ ?_
  have fit : s.heap.get? h3.objs.size = none := D.fresh
  have nit : s.heap.objs.size ≠ h3.objs.size := Nat.ne_of_lt D.ns.lt
  have ri : rv ≠ h3.objs.size := Nat.ne_of_lt (Heap.lt_size erv)
  have hit : (h3.push { cls := .type "list_iterator", data := .fields #[.ref dl, .int 0 0] }).IsListIter h3.objs.size dl 0 := ⟨_, Heap.get?_push_size _ rfl, rfl, rfl⟩
  replace erv := Heap.get?_push_of_some { cls := .type "list_iterator", data := .fields #[.ref dl, .int 0 0] } erv
  replace D := D.call (Ext.push h3 { cls := .type "list_iterator", data := .fields #[.ref dl, .int 0 0] })
  replace F3 := F3.ext0 (Ext.push h3 { cls := .type "list_iterator", data := .fields #[.ref dl, .int 0 0] })
  dsimp only
  generalize h3.objs.size = it at fit nit hit ri ⊢
  generalize h3.push { cls := .type "list_iterator", data := .fields #[.ref dl, .int 0 0] } = h4 at D erv F3 hit ⊢
  clear X3 T3 h3
  refine codeAny_forLoop (fun n' s' => ∃ i h' tk' m ys ny, n' + i = gs.length ∧ s' = ⟨h', s.gens, s.drawn, tk', s.os⟩ ∧ Me (fa l) s.heap h' s.heap.objs.size m [] ∧ FExt (fa l) s.heap h' ∧ m "key" = some (.str k tk) ∧ m "kind" = some .none ∧ m "rv" = some (.ref rv) ∧
    h'.IsListIter it dl i ∧ h'.get? rv = some (lsObj ys ny) ∧ IntsAre ys.toList ((gs.take i).map (look · k)).flatten) ?_ gs.length ⟨0, h4, _, _, #[], 0, by omega, rfl, ⟨D.ext.mono (by simp), D.ns, fun _ q => (nomatch q), List.nodup_nil, fun _ q => (nomatch q), fun _ q => (nomatch q), .inr (get_size _)⟩, .of D.ext, by rfl, by rfl, by rfl, hit, erv, .nil⟩
  clear D F3 erv hit h4
  rintro n' s' ⟨i, h', tk', m, ys, ny, hn, rfl, D, FX, mk, mi, mr, hit, erv, iy⟩
  have X5 := X.ext D.ext fun a q => .inl (hF a q)
  have T5 := T.fext F FX
  have F5 := (F.ext FX).call hA' D.ns T.low
  cases n' with
  | zero =>
    refine wpAny_pyNext_list_end hh' hit ⟨_, X5.ls, rfl, c, rfl⟩ (by rw [Array.getElem?_eq_none_iff, X5.md.1]; omega) (fun h4 he => ?_)
    dsimp only
    refine wpAny_execs_nil ?_
    refine wpAny_execs_cons ?_
    refine wpAny_Return_some ?_
    replace D := D.ownE he fit nit
    refine name_local D.ns mr ?_
    have : gs.take i = gs := List.take_of_length_le (by omega)
    rw [this] at iy
    exact hR _ _ _ (FX.ownE he fit F) ⟨lrv, ys, ny, he _ _ ri erv, iy⟩
  | succ n' =>
    have hi : i < gs.length := by omega
    obtain ⟨mm, dm, kvs, em, pm, em1, Xm⟩ := X5.md.2 i gs[i] (List.getElem?_eq_getElem hi)
    refine wpAny_pyNext_list_item hit ⟨_, X5.ls, rfl, c, rfl⟩ em1 (fun h4 hit4 sb4 => ?_)
    replace FX := FX.ownE sb4.extBut fit F
    replace D := D.ownE sb4.extBut fit nit
    replace erv := (sb4.2 _ ri).trans erv
    dsimp only
    clear X5 T5 F5 hit sb4 Xm
    refine wpAny_assign_Name ?_
    refine wpAny_storeName_local rfl D.ns (fun h5 hn5 hs5 => ?_) rfl
    replace FX := FX.ownE hs5.extBut (get_size _) F
    replace D := D.store hn5 hs5
    replace erv := (hs5.2 _ (Ne.symm nrv)).trans erv
    have hit5 := hit4.at fun o e => (hs5.2 it (Ne.symm nit)).trans e
    dsimp only
    clear hn5 hs5 hit4 h4
    refine wpAny_execs_cons ?_
    refine wpAny_Expr_any ?_
    refine wpAny_Call_method rfl rfl rfl PySem.F.plainAttrs_list PySem.F.slot_list_extend PySem.F.type_list_extend ?_
    refine name_local D.ns (by rw [if_neg (by decide)]; exact mr) ?_
    refine ⟨⟨_, erv, rfl⟩, fun a e => by cases e; exact ⟨_, erv, rfl⟩, ?_⟩
    refine call_bi ?_
    refine wpAny_items_cons ?_
    refine methodCall_KW ?_
    refine name_local D.ns (by rw [if_pos (by decide)]) ?_
    have X6 := X.ext D.ext fun a q => .inl (hF a q)
    have T6 := T.fext F FX
    have F6 := (F.ext FX).call hA' D.ns T.low
    obtain ⟨mm', dm, kvs, em, pm, em2, Xm⟩ := X6.md.2 i gs[i] (List.getElem?_eq_getElem hi)
    rw [em1] at em2; cases em2
    refine meth_MD (f := 305) T6 Xm.inst (by kernel_rfl) (by rfl) ?_
    refine call_fn (by rfl) ?_
    refine wpAny_items_cons ?_
    refine name_local D.ns (by rw [if_neg (by decide)]; exact mk) ?_
    refine wpAny_items_cons ?_
    refine name_local D.ns (by rw [if_neg (by decide)]; exact mi) ?_
    refine wpAny_items_nil ?_
    refine ⟨T6, ?_⟩
    refine wpAny_call ?_
    refine getlist_spec (hA'.mono (by decide)) hh' T6 Xm (Nat.le_trans hlow Xm.lx) F6 (fun p hp => hz _ (List.getElem_mem hi) p hp) (fun h7 tk7 a7 x7 il7 => ?_)
    dsimp only at x7 il7 ⊢
    obtain ⟨hb7, va, na, ea, ia⟩ := il7
    have nL : ∀ {a}, s.heap.get? a = none → s.heap.objs.size ≠ a → a ∉ s.heap.objs.size :: fa l := fun q1 q2 q3 => by
      rcases List.mem_cons.mp q3 with rfl | q3
      · exact q2 rfl
      · exact F.not q1 q3
    have rv7 : rv ≠ a7 := Nat.ne_of_lt (Nat.lt_of_lt_of_le (Heap.lt_size erv) hb7)
    replace D := D.fcall x7
    replace FX := FX.leave' x7 (get_size _)
    replace erv := x7.ext.get erv rfl (nL frv nrv)
    have hit7 : h7.IsListIter it dl (i + 1) := let ⟨o, ho, hc, hd⟩ := hit5; ⟨o, x7.ext.get ho (by unfold hasCls; rw [hc]) (nL fit nit), hc, hd⟩
    clear x7 X6 T6 F6 Xm hit5 hb7 h5
    have b1 : ys.size ≤ 500 := by
      have q1 := ia_len iy
      have q2 := flat_len (k := k) (gs := gs.take i) fun g hg => hz g (List.mem_of_mem_take hg)
      rw [Array.length_toList] at q1
      rw [List.length_take] at q2
      omega
    have b2 : va.size ≤ 100 := by
      have q1 := ia_len ia
      have q2 := look_len (k := k) (hz _ (List.getElem_mem hi))
      rw [Array.length_toList] at q1
      omega
    refine wpAny_items_nil ?_
    refine extend_raw erv ea (by omega) (fun h8 n8 e8 sb8 => ?_)
    replace D := D.ownE sb8.extBut frv nrv
    replace FX := FX.ownE sb8.extBut frv F
    dsimp only
    refine wpAny_execs_nil ?_
    refine ⟨n', Nat.lt_succ_self n', i + 1, h8, _, _, _, n8, by omega, rfl, D, FX, ?_, ?_, ?_, hit7.at fun o e => (sb8.2 it (Ne.symm ri)).trans e, e8, ?_⟩
    · rw [if_neg (by decide)]; exact mk
    · rw [if_neg (by decide)]; exact mi
    · rw [if_neg (by decide)]; exact mr
    · have : gs.take (i + 1) = gs.take i ++ [gs[i]] := by rw [List.take_succ_eq_append_getElem hi]
      rw [this, List.map_append, List.flatten_append, Array.toList_append]
      refine ia_app iy ?_
      simpa using ia
end Mine
end
section
open PySem PySem.W PySem.W.X PyProof.Rows PySem.Calls
set_option maxRecDepth 100000
set_option maxHeartbeats 400000
namespace Mine
theorem ent_contains : entryFor table "dict.__contains__" = some Builtin.«dict.__contains__» := PySem.entry_dict_contains
theorem kind_contains : builtinKind "dict.__contains__" = some .method := by decide +kernel
theorem split_contains : splitId "dict.__contains__" = some ("dict", "__contains__") := by decide +kernel
theorem plain_contains : plainId "dict.__contains__" = true := by decide +kernel
theorem check_meth {M : Model} {A : Around} {E : Value → Shared → Prop} {s : Shared} {i owner n : String} {self : Value} {rest : List Value} {kw : List (Str × Value)} {Q : Unit → Shared → Prop}
    (hk : builtinKind i = some .method) (hs : splitId i = some (owner, n)) (hi : Looks M s.heap (isInstance self (.type owner)) true) (ha : argsOk i ⟨self :: rest, kw⟩) (q : Q () s) :
    wpAny M A (checkBuiltinCall i ⟨self :: rest, kw⟩) Q E s := by
  simp only [checkBuiltinCall, hk, hs]
  refine wpAny_bind (hi.here ?_)
  simp only [Bool.not_true, Bool.false_eq_true, if_false]
  cases hsig : Manifest.signature? i with
  | none => exact wpAny_pure q
  | some sig =>
    simp only [argsOk, hsig] at ha
    have h2 : Bind.checkArgs i sig ⟨self :: rest, kw⟩ = pure () := ha
    show wpAny M A (Bind.checkArgs i sig ⟨self :: rest, kw⟩) Q E s
    rw [h2]; exact wpAny_pure q
section
variable {w : World} {A : Around} {E : Value → Shared → Prop} {h : Heap} {gn : Array GenState} {d : Drawn} {t : Nat} {os : OsState} {x dx b ep : Addr} {g : Grp} {es : Array DictEntry} {k : Str} {tk : Tok} {kvs : List (Str × Value)}
theorem in_MD {Q : Value → Shared → Prop} (T : TopH w h) (X : MDI w b h x g dx kvs es ep) (hx : 604 ≤ x)
    (q : Q (.bool (decide (k ∈ g.map (·.1)))) ⟨h, gn, d, t + 1, os⟩) : wpAny (model P w) A (compareOp .In (.str k tk) (.ref x)) Q E ⟨h, gn, d, t, os⟩ := by
  have I := X.dd
  have hI := I.at_
  have L : Looks (model P w) h (typeOf (.ref x)) (.ref 437) := (Looks.ld hI).andThen .now
  have L1 : Looks (model P w) h (typeLookup (.ref 437) "__contains__") (some (.builtin "dict.__contains__")) := looks_findIn T.K (by kernel_rfl)
  have L2 : Looks (model P w) h (isInstance (.ref x) (.type "dict")) true := L.andThen (looks_mroIn T.K (by kernel_rfl))
  have hd : decide (k ∈ g.map (·.1)) = (valueAt kvs k).isSome := by
    rw [← X.gl.keys]
    unfold valueAt
    rw [Option.isSome_map]
    cases e : List.find? (fun kv => decide (kv.fst = k)) kvs with
    | none =>
      rw [List.find?_eq_none] at e
      refine decide_eq_false fun q => ?_
      obtain ⟨kv, hkv, ek⟩ := List.mem_map.mp q
      exact e kv hkv (by simpa using ek)
    | some kv => exact decide_eq_true (List.mem_map.mpr ⟨kv, List.mem_of_find?_eq_some e, by simpa using List.find?_some e⟩)
  show wpAny _ _ (do return .bool (← contains (.ref x) (.str k tk))) Q E _
  refine wpAny_bind ?_
  unfold contains
  repeat (first | with_reducible refine wpAny_call ?_ | lk)
  show codeAny _ _ (.call (.builtin "dict.__contains__") ⟨[.ref x, .str k tk], []⟩) _ _
  have ck := fun (Q : Unit → Shared → Prop) (E : Value → Shared → Prop) (q : Q () ⟨h, gn, d, t, os⟩) => check_meth (A := A.in1) (E := E) (i := "dict.__contains__") (self := .ref x) (rest := [.str k tk]) (kw := []) (s := ⟨h, gn, d, t, os⟩) kind_contains split_contains L2 (PySem.args_dict_contains _ _) q
  refine codeAny_call_builtin plain_contains ent_contains (ck _ _ ?_)
  unfold Builtin.«dict.__contains__»
  repeat (first | (show wpAny _ _ (dictGet _ _) _ _ _; refine get_DD (s := ⟨h, gn, d, t, os⟩) I ?_) | lk)
  rw [hd] at q
  cases hv : valueAt kvs k with
  | some u =>
    rw [hv] at q
    repeat lk
    exact q
  | none =>
    rw [hv] at q
    dsimp only
    refine wpAny_bind (wpAny_pendingKey_other (not_sys hx) ?_)
    repeat lk
    exact q
end
local macro_rules | `(tactic| walk_at "nl") => `(tactic| refine name_local (Me.ns (by assumption)) (by first | assumption | rfl) ?_)
local macro_rules | `(tactic| walk_at "nb") => `(tactic| refine name_boot (by assumption) rfl rfl rfl (by boot_by_name) (by decide) ?_)
local macro_rules | `(tactic| walk_at "nt") => `(tactic| refine name_top (by assumption) rfl (by rfl) ?_)
theorem sub_D {w : World} {A : Around} {E : Value → Shared → Prop} {s : Shared} {x C f : Addr} {ox : Obj} {od : Option Obj} {value slice : Expr} {i : Value} {Q : Value → Shared → Prop} (X : (KK w).In s.heap) (I : InstAt s.heap x ox C od)
    (hs : findIn (KK w) (.ref C) "__getitem__" = some (some (.ref f))) (hf : fnIn (KK w) f = true) (hfn : isFn (KK w) (.ref f) = true)
    (h : wpAny (model P w) A.in1 (call (.ref f) [.ref x, i]) Q E s)
    (hsl : subscripted slice true (.ref x) i = runValue (.builtin "lifetime.subscript" ⟨[.ref x, i], []⟩) := by with_unfolding_all rfl) :
    wpAny (model P w) A (subscriptTail value slice (.ref x) i) Q E s := by
  unfold fnIn at hf
  split at hf
  · rename_i e
    unfold subscriptTail getitemInPython
    refine wpAny_bind (wpAny_bind (wpAny_bind (I.type.here ((looks_findIn X hs).here ?_))))
    dsimp only
    refine wpAny_bind (wpAny_load (X _ _ e) (wpAny_pure ?_))
    dsimp only
    rw [hsl]
    refine wpAny_bind (wpAny_runValue (codeAny_builtin entry_sub ?_))
    unfold Builtin.«lifetime.subscript»
    refine wpAny_bind (special_fn X I hs (beq_iff_eq.mp hfn) (wpAny_mono h (fun v s' z => ?_) fun _ _ z => z))
    refine wpAny_pure ?_
    show wpAny (model P w) A (letTemporaryGo value (.ref x) v >>= fun _ => pure v) Q E s'
    exact wpAny_bind (wpAny_letTemporaryGo (wpAny_pure z))
  · cases hf
theorem look_there {g : Grp} {k : Str} (h : look g k ≠ []) : k ∈ g.map (·.1) := by
  unfold look at h
  cases e : g.find? fun p => decide (p.1 = k) with
  | none => rw [e] at h; exact absurd rfl h
  | some p => exact List.mem_map.mpr ⟨p, List.mem_of_find?_eq_some e, by simpa using List.find?_some e⟩
theorem mget_spec {w : World} {A : Around} {s : Shared} {R : Result → Shared → Prop} {x dx b ep : Addr} {g : Grp} {kvs : List (Str × Value)} {es : Array DictEntry} {k : Str} {tk : Tok} {n : Int} {r : List Int} (hA : Rm 500 A) (hh : A.handled = none) (T : TopH w s.heap)
    (X : MDI w b s.heap x g dx kvs es ep) (hlow : 604 ≤ x) (hz : ∀ p ∈ g, p.2.length ≤ 100) (hk : look g k = n :: r)
    (hR : ∀ h' tk tn, Ext [] s.heap h' → R (.ok (.ret (.int n tn))) ⟨h', s.gens, s.drawn, tk, s.os⟩) :
    codeAny (model P w) A (.call (.ref 280) ⟨[.ref x, .str k tk], []⟩) R s := by
  refine enterAt [(Str.ofString "self", .ref x), (Str.ofString "key", .str k tk)] hA T (by rfl) (by rfl) (by rfl) (by rfl) (BindsTo.of_eq rfl) (by decide) (locs rfl) fun h₁ D hA' hh' => ?_
  replace hh' := hh'.trans hh
  have T1 := D.top T (by simp)
  have X1 := X.ext D.ext (by simp)
  refine ks_wpAt_execs_cons ?_
  refine ks_wpAt_If (wpAt_of_wpAny ?_)
  refine wpAny_isTrue_Compare1 ?_
  walk_at "nl"
  walk_at "nl"
  refine in_MD T1 X1 hlow ?_
  refine wpAny_truthy_bool ?_
  rw [if_pos (decide_eq_true (look_there (by rw [hk]; simp)))]
  refine ks_wpAt_execs_cons ?_
  refine ks_wpAt_Assign_Name ?_
  refine super_call (x := x) (C := 437) (D := 437) (id := "dict.__getitem__") (BT := "builtin_function_or_method") T1 D.ns X1.inst.i (by rfl) rfl (by rfl) (by rfl) (by rfl) rfl (by rfl) (by rfl) (by rfl) (by rfl) rfl (by kernel_rfl) (by rfl) (by kernel_rfl) (by kernel_rfl)
    (.inr ⟨md_getitem, rfl⟩) rfl rfl rfl rfl rfl rfl rfl rfl rfl (by decide) (fun q h2 nq hq kp => ?_)
  replace D := D.call (.of_keeps kp)
  have X2 := X1.ext (.of_keeps kp) (by simp)
  have T2 : TopH w h2 := T1.ext (.of_keeps kp) (by simp)
  dsimp only
  clear nq kp X1 T1 h₁
  refine call_b (x := x) (T := "builtin_function_or_method") (id := "dict.__getitem__") (.inr rfl) ?_
  refine wpAny_items_cons ?_
  walk_at "nl"
  refine wpAny_items_nil ?_
  refine ⟨hq, ?_⟩
  refine wpAny_call ?_
  have ck := chk_md (id := "dict.__getitem__") (args := [.str k tk]) T2.K X2.inst.i (by rfl) (by kernel_rfl) (by rfl) (by decide +kernel) (by decide +kernel) (by kernel_rfl)
  refine code_bound (.inr rfl) hq ck (fun _ => Code.quiet_builtin _ (by decide +kernel)) ent_getitem ?_
  refine run_getitem T2.K X2.dd hh' (not_sys hlow) (by kernel_rfl) (fun u hu => ?_) (fun hn h3 e hm => ?_)
  · obtain ⟨a, rfl, hb, va, na, ea, ia⟩ := (X2.gl.look X2.dd.nd).1 u hu
    rw [hk] at ia
    have hva : va.size ≤ 100 := by have := look_len (k := k) hz; have := ia_len ia; rw [hk] at *; rw [Array.length_toList] at this; omega
    have hv0 : 0 < va.size := by have := ia_len ia; rw [Array.length_toList] at this; rw [this]; simp
    obtain ⟨tn, e0⟩ := ia_get ia (i := 0) (n := n) rfl
    rw [Array.getElem?_toList] at e0
    refine wpAny_storeName_local rfl D.ns (fun h3 hn3 hs3 => ?_) rfl
    have na' : s.heap.objs.size ≠ a := ns_ne D.ns ⟨_, ea, rfl, na, rfl⟩
    replace D := D.store hn3 hs3
    have T3 := D.top T (by simp)
    have l3 : h3.IsList a va := ⟨_, (hs3.2 _ (Ne.symm na')).trans ea, rfl, na, rfl⟩
    dsimp only
    clear hn3 hs3 hq ck X2 T2 ea h2
    refine wpAt_of_wpAny ?_
    refine wpAny_execs_cons ?_
    refine wpAny_If ?_
    refine wpAny_isTrue_Compare1 ?_
    refine wpAny_Call_NameR ?_
    walk_at "nb"
    refine call_bi ?_
    refine wpAny_items_cons ?_
    walk_at "nl"
    refine wpAny_items_nil ?_
    refine len_list l3 (by omega) ?_
    refine wpAny_Constant_int ?_
    refine PyProof.Rows.gt_int ?_
    refine wpAny_truthy_bool ?_
    rw [if_pos (decide_eq_true (by omega))]
    refine wpAny_execs_cons ?_
    refine wpAny_Return_some ?_
    refine Subscript_ ?_
    walk_at "nl"
    refine wpAny_Constant_int ?_
    refine item_list l3 (by decide) (by omega) e0 ?_
    exact hR _ _ _ D.ext
  · exfalso
    have := (X2.gl.look X2.dd.nd).2 hn
    rw [hk] at this; cases this
end Mine
end
section
open PySem PySem.W PySem.W.X PyProof.Rows PySem.Calls
set_option maxRecDepth 100000
set_option maxHeartbeats 400000
namespace Mine
local macro_rules | `(tactic| walk_at "nl") => `(tactic| refine name_local (Me.ns (by assumption)) (by first | assumption | rfl) ?_)
local macro_rules | `(tactic| walk_at "nb") => `(tactic| refine name_boot (by assumption) rfl rfl rfl (by boot_by_name) (by decide) ?_)
def anyHas (gs : List Grp) (k : Str) : Bool := gs.any fun g => decide (k ∈ g.map (·.1))
theorem anyHas_take {gs : List Grp} {k : Str} {i : Nat} (hi : i < gs.length) : anyHas (gs.take (i + 1)) k = (anyHas (gs.take i) k || decide (k ∈ gs[i].map (·.1))) := by
  unfold anyHas
  rw [List.take_succ_eq_append_getElem hi, List.any_append]; simp
theorem anyHas_of {gs : List Grp} {k : Str} {i : Nat} (hi : i < gs.length) (h : k ∈ gs[i].map (·.1)) : anyHas gs k = true := by
  unfold anyHas
  exact List.any_eq_true.mpr ⟨gs[i], List.getElem_mem hi, decide_eq_true h⟩
theorem comb_contains {w : World} {A : Around} {s : Shared} {R : Result → Shared → Prop} {x dx dl b : Addr} {gs : List Grp} {hsh : Int} {t tk : Tok} {n c ep : Nat} {vs : Array Value} {es : Array DictEntry} {k : Str} (hA : Rm 490 A) (hh : A.handled = none) (T : TopH w s.heap)
    (X : WH w b s.heap x gs dx dl hsh t n c vs es ep) (hlow : 604 ≤ b)
    (hR : ∀ h' tk, Ext [] s.heap h' → R (.ok (.ret (.bool (anyHas gs k)))) ⟨h', s.gens, s.drawn, tk, s.os⟩) :
    codeAny (model P w) A (.call (.ref 550) ⟨[.ref x, .str k tk], []⟩) R s := by
  refine enter [(Str.ofString "self", .ref x), (Str.ofString "key", .str k tk)] hA T (by rfl) (by rfl) (by rfl) (by rfl) (BindsTo.of_eq rfl) (by decide) (locs rfl) fun h₁ D hA' hh' => ?_
  replace hh' := hh'.trans hh
  have X1 := X.ext0 D.ext
  have T1 := D.top T (by simp)
  refine wpAny_execs_cons ?_
  refine wpAny_For ?_
  refine Attribute_Name_ ?_
  walk_at "nl"
  refine get_dicts T1 X1 ?_
  refine wpAny_pyIter_list ⟨_, X1.ls, rfl, c, rfl⟩ ?_
  have fit : s.heap.get? h₁.objs.size = none := D.fresh
  have nit : s.heap.objs.size ≠ h₁.objs.size := Nat.ne_of_lt D.ns.lt
  have hit : (h₁.push { cls := .type "list_iterator", data := .fields #[.ref dl, .int 0 0] }).IsListIter h₁.objs.size dl 0 := ⟨_, Heap.get?_push_size _ rfl, rfl, rfl⟩
  replace D := D.call (Ext.push h₁ { cls := .type "list_iterator", data := .fields #[.ref dl, .int 0 0] })
  dsimp only
  generalize h₁.objs.size = it at fit nit hit ⊢
  generalize h₁.push { cls := .type "list_iterator", data := .fields #[.ref dl, .int 0 0] } = h2 at D hit ⊢
  clear X1 T1 h₁
  refine codeAny_forLoop (fun n' s' => ∃ i h' tk' m, n' + i = gs.length ∧ s' = ⟨h', s.gens, s.drawn, tk', s.os⟩ ∧ Me [] s.heap h' s.heap.objs.size m [] ∧ m "key" = some (.str k tk) ∧ h'.IsListIter it dl i ∧ anyHas (gs.take i) k = false) ?_ gs.length
    ⟨0, h2, _, _, by omega, rfl, D, by rfl, hit, rfl⟩
  clear D hit h2
  rintro n' s' ⟨i, h', tk', m, hn, rfl, D, mk, hit, hno⟩
  have X2 := X.ext0 D.ext
  have T2 := D.top T (by simp)
  cases n' with
  | zero =>
    refine wpAny_pyNext_list_end hh' hit ⟨_, X2.ls, rfl, c, rfl⟩ (by rw [Array.getElem?_eq_none_iff, X2.md.1]; omega) (fun h4 he => ?_)
    replace D := D.ownE he fit nit
    dsimp only
    refine wpAny_execs_nil ?_
    refine wpAny_execs_cons ?_
    refine wpAny_Return_some ?_
    refine wpAny_Constant_bool ?_
    have : gs.take i = gs := List.take_of_length_le (by omega)
    rw [this] at hno
    rw [hno] at hR
    exact hR _ _ D.ext
  | succ n' =>
    have hi : i < gs.length := by omega
    obtain ⟨mm, dm, kvs, em, pm, em1, Xm⟩ := X2.md.2 i gs[i] (List.getElem?_eq_getElem hi)
    refine wpAny_pyNext_list_item hit ⟨_, X2.ls, rfl, c, rfl⟩ em1 (fun h4 hit4 sb4 => ?_)
    replace D := D.ownE sb4.extBut fit nit
    dsimp only
    clear X2 T2 hit sb4 Xm
    refine wpAny_assign_Name ?_
    refine wpAny_storeName_local rfl D.ns (fun h5 hn5 hs5 => ?_) rfl
    replace D := D.store hn5 hs5
    have hit5 := hit4.at fun o e => (hs5.2 it (Ne.symm nit)).trans e
    dsimp only
    clear hn5 hs5 hit4 h4
    have X6 := X.ext0 D.ext
    have T6 := D.top T (by simp)
    obtain ⟨mm', dm, kvs, em, pm, em2, Xm⟩ := X6.md.2 i gs[i] (List.getElem?_eq_getElem hi)
    rw [em1] at em2; cases em2
    refine wpAny_execs_cons ?_
    refine wpAny_If ?_
    refine wpAny_isTrue_Compare1 ?_
    refine name_local D.ns (by rw [if_neg (by decide)]; exact mk) ?_
    refine name_local D.ns (by rw [if_pos (by decide)]) ?_
    refine in_MD T6 Xm (Nat.le_trans hlow Xm.lx) ?_
    refine wpAny_truthy_bool ?_
    by_cases hk : k ∈ gs[i].map (·.1)
    · rw [if_pos (decide_eq_true hk)]
      refine wpAny_execs_cons ?_
      refine wpAny_Return_some ?_
      refine wpAny_Constant_bool ?_
      rw [anyHas_of hi hk] at hR
      exact hR _ _ D.ext
    · rw [if_neg (by simpa using hk)]
      refine wpAny_execs_nil ?_
      dsimp only
      refine wpAny_execs_nil ?_
      refine ⟨n', Nat.lt_succ_self n', i + 1, h5, _, _, by omega, rfl, D, ?_, hit5, ?_⟩
      · rw [if_neg (by decide)]; exact mk
      · rw [anyHas_take hi, hno, decide_eq_false hk]; rfl
def own (gs : List Grp) (k : Str) : List Int := (gs.map (look · k)).flatten
theorem look_no {g : Grp} {k : Str} (h : k ∉ g.map (·.1)) : look g k = [] := by
  unfold look
  have : g.find? (fun p => decide (p.1 = k)) = none := by
    rw [List.find?_eq_none]
    intro p hp
    simp only [decide_eq_true_eq]
    exact fun q => h (List.mem_map.mpr ⟨p, hp, q⟩)
  rw [this]; rfl
theorem look_yes {g : Grp} {k : Str} (hne : ∀ p ∈ g, p.2 ≠ []) (h : k ∈ g.map (·.1)) : ∃ n r, look g k = n :: r := by
  obtain ⟨p, hp, hk⟩ := List.mem_map.mp h
  unfold look
  cases e : g.find? fun p => decide (p.1 = k) with
  | none => rw [List.find?_eq_none] at e; exact absurd (by simpa using hk) (e p hp)
  | some q =>
    have := hne q (List.mem_of_find?_eq_some e)
    cases z : q.2 with
    | nil => exact absurd z this
    | cons n r => exact ⟨n, r, by simp [z]⟩
theorem own_no {gs : List Grp} {k : Str} (h : anyHas gs k = false) : own gs k = [] := by
  unfold own
  induction gs with
  | nil => rfl
  | cons g r ih =>
    unfold anyHas at h ih
    rw [List.any_cons, Bool.or_eq_false_iff] at h
    rw [List.map_cons, List.flatten_cons, look_no (of_decide_eq_false h.1), ih h.2]; rfl
theorem own_at {gs : List Grp} {k : Str} {i : Nat} (hi : i < gs.length) (h : anyHas (gs.take i) k = false) {n : Int} {r : List Int} (hl : look gs[i] k = n :: r) : ∃ r', own gs k = n :: r' := by
  have e : gs.take i ++ gs[i] :: gs.drop (i + 1) = gs := by rw [← List.drop_eq_getElem_cons hi, List.take_append_drop]
  refine ⟨r ++ own (gs.drop (i + 1)) k, ?_⟩
  have e2 : own gs k = own (gs.take i ++ gs[i] :: gs.drop (i + 1)) k := by rw [e]
  rw [e2]
  unfold own
  rw [List.map_append, List.flatten_append, List.map_cons, List.flatten_cons, hl]
  have := own_no h
  unfold own at this
  rw [this]; simp
theorem comb_get {dflt : Value} {w : World} {A : Around} {s : Shared} {R : Result → Shared → Prop} {x dx dl b : Addr} {gs : List Grp} {hsh : Int} {t tk : Tok} {n c ep : Nat} {vs : Array Value} {es : Array DictEntry} {k : Str} (hA : Rm 490 A) (hh : A.handled = none) (T : TopH w s.heap)
    (X : WH w b s.heap x gs dx dl hsh t n c vs es ep) (hlow : 604 ≤ b)
    (hz : ∀ g ∈ gs, ∀ p ∈ g, p.2.length ≤ 100) (hne : ∀ g ∈ gs, ∀ p ∈ g, p.2 ≠ [])
    (hR1 : ∀ n' r, own gs k = n' :: r → ∀ h' tk tn, Ext [] s.heap h' → R (.ok (.ret (.int n' tn))) ⟨h', s.gens, s.drawn, tk, s.os⟩)
    (hR2 : own gs k = [] → ∀ h' tk, Ext [] s.heap h' → R (.ok (.ret dflt)) ⟨h', s.gens, s.drawn, tk, s.os⟩) :
    codeAny (model P w) A (.call (.ref 471) ⟨[.ref x, .str k tk, dflt], []⟩) R s := by
  refine enter [(Str.ofString "self", .ref x), (Str.ofString "key", .str k tk), (Str.ofString "default", dflt), (Str.ofString "kind", .none)] hA T (by rfl) (by rfl) (by rfl) (by rfl) (binds_K T.K rfl (by rfl) rfl rfl rfl) (by decide) (locs rfl) fun h₁ D hA' hh' => ?_
  replace hh' := hh'.trans hh
  have X1 := X.ext0 D.ext
  have T1 := D.top T (by simp)
  refine wpAny_execs_cons ?_
  refine wpAny_For ?_
  refine Attribute_Name_ ?_
  walk_at "nl"
  refine get_dicts T1 X1 ?_
  refine wpAny_pyIter_list ⟨_, X1.ls, rfl, c, rfl⟩ ?_
  have fit : s.heap.get? h₁.objs.size = none := D.fresh
  have nit : s.heap.objs.size ≠ h₁.objs.size := Nat.ne_of_lt D.ns.lt
  have hit : (h₁.push { cls := .type "list_iterator", data := .fields #[.ref dl, .int 0 0] }).IsListIter h₁.objs.size dl 0 := ⟨_, Heap.get?_push_size _ rfl, rfl, rfl⟩
  replace D := D.call (Ext.push h₁ { cls := .type "list_iterator", data := .fields #[.ref dl, .int 0 0] })
  dsimp only
  generalize h₁.objs.size = it at fit nit hit ⊢
  generalize h₁.push { cls := .type "list_iterator", data := .fields #[.ref dl, .int 0 0] } = h2 at D hit ⊢
  clear X1 T1 h₁
  refine codeAny_forLoop (fun n' s' => ∃ i h' tk' m, n' + i = gs.length ∧ s' = ⟨h', s.gens, s.drawn, tk', s.os⟩ ∧ Me [] s.heap h' s.heap.objs.size m [] ∧ m "key" = some (.str k tk) ∧ m "default" = some dflt ∧ m "kind" = some .none ∧ h'.IsListIter it dl i ∧ anyHas (gs.take i) k = false) ?_ gs.length
    ⟨0, h2, _, _, by omega, rfl, D, by rfl, by rfl, by rfl, hit, rfl⟩
  clear D hit h2
  rintro n' s' ⟨i, h', tk', m, hn, rfl, D, mk, md, mi, hit, hno⟩
  have X2 := X.ext0 D.ext
  have T2 := D.top T (by simp)
  cases n' with
  | zero =>
    refine wpAny_pyNext_list_end hh' hit ⟨_, X2.ls, rfl, c, rfl⟩ (by rw [Array.getElem?_eq_none_iff, X2.md.1]; omega) (fun h4 he => ?_)
    replace D := D.ownE he fit nit
    dsimp only
    refine wpAny_execs_nil ?_
    refine wpAny_execs_cons ?_
    refine wpAny_Return_some ?_
    refine name_local D.ns md ?_
    have : gs.take i = gs := List.take_of_length_le (by omega)
    rw [this] at hno
    exact hR2 (own_no hno) _ _ D.ext
  | succ n' =>
    have hi : i < gs.length := by omega
    obtain ⟨mm, dm, kvs, em, pm, em1, Xm⟩ := X2.md.2 i gs[i] (List.getElem?_eq_getElem hi)
    refine wpAny_pyNext_list_item hit ⟨_, X2.ls, rfl, c, rfl⟩ em1 (fun h4 hit4 sb4 => ?_)
    replace D := D.ownE sb4.extBut fit nit
    dsimp only
    clear X2 T2 hit sb4 Xm
    refine wpAny_assign_Name ?_
    refine wpAny_storeName_local rfl D.ns (fun h5 hn5 hs5 => ?_) rfl
    replace D := D.store hn5 hs5
    have hit5 := hit4.at fun o e => (hs5.2 it (Ne.symm nit)).trans e
    dsimp only
    clear hn5 hs5 hit4 h4
    have X6 := X.ext0 D.ext
    have T6 := D.top T (by simp)
    obtain ⟨mm', dm, kvs, em, pm, em2, Xm⟩ := X6.md.2 i gs[i] (List.getElem?_eq_getElem hi)
    rw [em1] at em2; cases em2
    refine wpAny_execs_cons ?_
    refine wpAny_If ?_
    refine wpAny_isTrue_Compare1 ?_
    refine name_local D.ns (by rw [if_neg (by decide)]; exact mk) ?_
    refine name_local D.ns (by rw [if_pos (by decide)]) ?_
    refine in_MD T6 Xm (Nat.le_trans hlow Xm.lx) ?_
    refine wpAny_truthy_bool ?_
    by_cases hk : k ∈ gs[i].map (·.1)
    · rw [if_pos (decide_eq_true hk)]
      obtain ⟨n0, r0, hl0⟩ := look_yes (hne _ (List.getElem_mem hi)) hk
      refine wpAny_execs_cons ?_
      refine wpAny_If ?_
      refine wpAny_isTrue_Compare1 ?_
      refine name_local D.ns (by rw [if_neg (by decide)]; exact mi) ?_
      refine wpAny_Constant_none ?_
      refine isNot_none ?_
      refine wpAny_truthy_bool ?_
      rw [if_neg (show ¬ ((!(Value.none == Value.none)) = true) from Bool.false_ne_true)]
      refine wpAny_execs_nil ?_
      dsimp only
      refine wpAny_execs_cons ?_
      refine wpAny_Return_some ?_
      refine Subscript_ ?_
      refine name_local D.ns (by rw [if_pos (by decide)]) ?_
      refine name_local D.ns (by rw [if_neg (by decide)]; exact mk) ?_
      refine sub_D (f := 280) T6.K Xm.inst.i (by kernel_rfl) (by rfl) (by rfl) ?_
      refine wpAny_call ?_
      refine mget_spec (hA'.in1.mono (by decide)) hh' T6 Xm (Nat.le_trans hlow Xm.lx) (hz _ (List.getElem_mem hi)) hl0 (fun h7 tk7 tn e7 => ?_)
      obtain ⟨r1, hr1⟩ := own_at hi hno hl0
      exact hR1 _ _ hr1 _ _ _ (D.ext.and e7)
    · rw [if_neg (by simpa using hk)]
      refine wpAny_execs_nil ?_
      dsimp only
      refine wpAny_execs_nil ?_
      refine ⟨n', Nat.lt_succ_self n', i + 1, h5, _, _, by omega, rfl, D, ?_, ?_, ?_, hit5, ?_⟩
      · rw [if_neg (by decide)]; exact mk
      · rw [if_neg (by decide)]; exact md
      · rw [if_neg (by decide)]; exact mi
      · rw [anyHas_take hi, hno, decide_eq_false hk]; rfl
end Mine
end
section
open PySem PySem.W PySem.W.X PyProof.Rows PySem.Calls
set_option maxRecDepth 100000
set_option maxHeartbeats 400000
namespace Mine
section
variable {w : World} {A : Around} {E : Value → Shared → Prop} {s : Shared} {env : Env}
abbrev cenvOf (scope : Scope) (cl : List (Str × Addr)) (C : Addr) (env : Env) : Env := compEnvC scope cl C env
theorem list_comp {elt target iter : Expr} {scope : Scope} {pos : Pos} {cl : List (Str × Addr)} {Q : Value → Shared → Prop} (hclos : closureFor scope env = pure cl)
    (hkind : scope.kind = .function) (hcell : ∀ x ∈ scope.names, x.2 ≠ .cell) (hnames : ∀ x ∈ scope.names, x.2 = .local → scope.names.lookup x.1 = some .local)
    (h : wpAny (model P w) A (eval iter env) (fun x s₁ => wpAny (model P w) A (pyIter x) (fun it s₂ =>
      (∀ (E' : Value → Shared → Prop) (Q' : Value → Shared → Prop) h', (∀ b o, s₂.heap.get? b = some o → h'.get? b = some o) → ∀ tk, Q' it { s₂ with heap := h', toks := tk } → wpAny (model P w) A (pyIter it) Q' E' { s₂ with heap := h', toks := tk }) ∧
      ∀ h' C tk, (∀ b o, s₂.heap.get? b = some o → h'.get? b = some o) → h'.get? s₂.heap.objs.size = some (lsObj #[] 0) → C = s₂.heap.objs.size + 1 → h'.Ns C (fun _ => none) →
        codeAny (model P w) A (.compLoop (.ListComp elt [⟨target, iter, [], 0⟩] scope pos) 0 it (.ref s₂.heap.objs.size) (cenvOf scope cl C env))
          (fun r s' => match r with | .ok _ => ∃ m, s'.heap.Ns C m ∧ ∀ h', Heap.SameBut C s'.heap h' → Q (.ref s₂.heap.objs.size) { s' with heap := h' } | .error _ => False) { s₂ with heap := h', toks := tk }) E s₁) E s)
    (hs : ∀ x, foldedSetIterable iter env x = pure x := by intro _; rfl) :
    wpAny (model P w) A (eval (.ListComp elt [⟨target, iter, [], 0⟩] scope pos) env) Q E s := by
  rw [eval_ListComp]
  refine wpAny_comprehension_free (use := none) rfl hs hclos hkind hnames ?_
  refine wpAny_mono h (fun x s₁ h₁ => wpAny_mono h₁ (fun it s₂ h₂ => ?_) fun _ _ z => z) fun _ _ z => z
  obtain ⟨hi, hl⟩ := h₂
  refine wpAny_newList ?_
  refine wpAny_newFunctionEnv hcell (fun _ q => (nomatch q)) (fun h' hn hsb => ?_) hkind
  have k1 : ∀ b o, s₂.heap.get? b = some o → (s₂.heap.push (lsObj #[] 0)).get? b = some o := fun b o e => Heap.get?_push_of_some _ e
  have hsz : (s₂.heap.push (lsObj #[] 0)).objs.size = s₂.heap.objs.size + 1 := Heap.size_push ..
  dsimp only at hn hsb ⊢
  have hn' : h'.Ns (s₂.heap.objs.size + 1) (fun _ => none) := by have := hn; rw [show ([] : List Value).toArray = #[] from rfl, hsz] at this; exact this
  have k2 : ∀ b o, (s₂.heap.push (lsObj #[] 0)).get? b = some o → h'.get? b = some o := fun b o e => hsb.extBut b o (Nat.ne_of_lt (Heap.lt_size e)) (Heap.get?_push_of_some _ e)
  have k := fun b o e => k2 b o (k1 b o e)
  have ea : h'.get? s₂.heap.objs.size = some (lsObj #[] 0) := k2 _ _ (Heap.get?_push_size _ rfl)
  have loop := hl h' (s₂.heap.objs.size + 1) s₂.toks k ea rfl hn'
  have fin : codeAny (model P w) A (.compLoop (.ListComp elt [⟨target, iter, [], 0⟩] scope pos) 0 it (.ref s₂.heap.objs.size) (cenvOf scope cl (s₂.heap.objs.size + 1) env)) (compPost (model P w) A E none Q (.ref s₂.heap.objs.size) (s₂.heap.objs.size + 1)) { s₂ with heap := h' } := by
    refine codeAny_mono loop fun r s' z => ?_
    cases r with
    | ok f => exact z
    | error e => exact z.elim
  rw [show ([] : List Value).toArray = #[] from rfl, hsz]
  refine codeAny_compStart_list fin (hi _ _ h' k s₂.toks fin)
end
end Mine
end
section
open PySem PySem.W PySem.W.X PyProof.Rows PySem.Calls
set_option maxRecDepth 100000
set_option maxHeartbeats 400000
namespace Mine
local macro_rules | `(tactic| walk_at "nl") => `(tactic| refine name_local (Me.ns (by assumption)) (by first | assumption | rfl) ?_)
local macro_rules | `(tactic| walk_at "nb") => `(tactic| refine name_boot (by assumption) rfl rfl rfl (by boot_by_name) (by decide) ?_)
theorem Me.sb {mod : List Addr} {h₀ h h' : Heap} {L : Addr} {m : Str → Option Value} (D : Me mod h₀ h L m []) {a : Addr} (sb : Heap.SameBut a h h') (off : h₀.get? a = none) (ne : L ≠ a) : Me mod h₀ h' L m [] := D.ownE sb.extBut off ne
theorem ia_of {l : List Value} (h : ∀ v ∈ l, ∃ n t, v = .int n t) : ∃ ns, IntsAre l ns := by
  induction l with
  | nil => exact ⟨[], .nil⟩
  | cons v l ih =>
    obtain ⟨n, t, rfl⟩ := h v (.head _)
    obtain ⟨ns, hn⟩ := ih fun v hv => h v (.tail _ hv)
    exact ⟨n :: ns, .cons n t hn⟩
theorem ia_mem {l : List Value} {ns : List Int} (x : IntsAre l ns) : ∀ v ∈ l, ∃ n t, v = .int n t := by
  induction x with
  | nil => intro v q; cases q
  | cons n t _ ih =>
    intro v q
    rcases List.mem_cons.mp q with rfl | q
    · exact ⟨n, t, rfl⟩
    · exact ih v q
theorem get_fresh {h₀ : Heap} {a : Addr} (hs : h₀.objs.size ≤ a) : h₀.get? a = none := by
  cases q : h₀.get? a with
  | none => rfl
  | some o => exact absurd (Heap.lt_size q) (Nat.not_lt.mpr hs)
theorem state_spec {w : World} {A : Around} {s : Shared} {R : Result → Shared → Prop} {sc : Addr} {svs : Array Value} {ns : List Int} (hA : Rm 490 A) (hh : A.handled = none) (T : TopH w s.heap)
    (hl : s.heap.IsList sc svs) (hi : IntsAre svs.toList ns) (hz : svs.size ≤ 1000)
    (hR : ∀ h' tk st nb vs ms c c' t, Ext [] s.heap h' → h'.get? st = some (lsObj #[.ref nb, .int 0 t] c) → h'.get? nb = some (lsObj vs c') → IntsAre vs.toList ms → 0 < vs.size → vs.size ≤ 100 → s.heap.objs.size ≤ st → nb ≠ st → s.heap.objs.size ≤ nb →
      R (.ok (.ret (.ref st))) ⟨h', s.gens, s.drawn, tk, s.os⟩) :
    codeAny (model P w) A (.call (.ref 574) ⟨[.ref sc], []⟩) R s := by
  refine enter [(Str.ofString "script", .ref sc)] hA T (by rfl) (by rfl) (by rfl) (by rfl) (BindsTo.of_eq rfl) (by decide) (locs rfl) fun h₁ D hA' hh' => ?_
  replace hh' := hh'.trans hh
  have T1 := D.top T (by simp)
  have l1 := D.ext.isList hl (by simp)
  refine wpAny_execs_cons ?_
  refine wpAny_Return_some ?_
  refine wpAny_List ?_
  refine wpAny_items_cons ?_
  refine wpAny_BinOp ?_
  refine list_comp (cl := []) (by rfl) rfl (by decide) (by decide) ?_
  refine wpAny_Subscript_list_slice ?_
  walk_at "nl"
  rw [evalPart_none]
  refine wpAny_pure ?_
  rw [evalPart_some]
  refine wpAny_Constant_int ?_
  refine ⟨sc, svs, none, some 24, rfl, l1, by rw [sizeLine_eq]; omega, .none, .int _ _, ?_⟩
  dsimp only
  have hpk : slicePick svs none (some 24) none = (svs.toList.take 24).toArray := slicePick_upto' svs 24
  rw [hpk]
  generalize hit0 : (svs.toList.take 24).toArray = items
  have iit : ∀ v ∈ items.toList, ∃ n t, v = .int n t := by
    intro v hv
    rw [← hit0] at hv
    exact ia_mem hi v (List.mem_of_mem_take (by simpa using hv))
  have zit : items.size ≤ 24 := by rw [← hit0]; simp; omega
  clear hpk hit0
  have k1 : ∀ (x y : Obj) b o, h₁.get? b = some o → ((h₁.push x).push y).get? b = some o := fun x y b o e => Heap.get?_push_of_some _ (Heap.get?_push_of_some _ e)
  have e1 : ∀ (x : Obj), ((h₁.push x).push (lsObj items 0)).get? (h₁.objs.size + 1) = some (lsObj items 0) := fun x => by heap_get
  have x1 : ∀ (x : Obj), Me [] s.heap ((h₁.push x).push (lsObj items 0)) s.heap.objs.size _ [] := fun x => D.call (.of_keeps (k1 x _))
  refine wpAny_pyIter_list (items := items) ⟨_, e1 _, rfl, 0, rfl⟩ ?_
  replace e1 := e1 { cls := .type "slice", data := .fields #[.none, .int 24 (s.toks + 1), .none] }
  replace D := x1 { cls := .type "slice", data := .fields #[.none, .int 24 (s.toks + 1), .none] }
  generalize h₁.objs.size + 1 = la at e1 ⊢
  generalize (h₁.push { cls := .type "slice", data := .fields #[.none, .int 24 (s.toks + 1), .none] }).push (lsObj items 0) = h2 at D e1 ⊢
  try dsimp only
  clear x1 k1 l1 T1 h₁
  have eit : (h2.push { cls := .type "list_iterator", data := .fields #[.ref la, .int 0 0] }).get? h2.objs.size = some { cls := .type "list_iterator", data := .fields #[.ref la, .int 0 0] } := Heap.get?_push_size _ rfl
  have fit : s.heap.get? h2.objs.size = none := D.fresh
  have nit : s.heap.objs.size ≠ h2.objs.size := Nat.ne_of_lt D.ns.lt
  have li : la ≠ h2.objs.size := Nat.ne_of_lt (Heap.lt_size e1)
  replace e1 := Heap.get?_push_of_some { cls := .type "list_iterator", data := .fields #[.ref la, .int 0 0] } e1
  replace D := D.call (Ext.push h2 { cls := .type "list_iterator", data := .fields #[.ref la, .int 0 0] })
  try dsimp only
  generalize h2.objs.size = it at eit fit nit li ⊢
  generalize h2.push { cls := .type "list_iterator", data := .fields #[.ref la, .int 0 0] } = h3 at D e1 eit ⊢
  clear h2
  refine ⟨fun E' Q' h' k tk q => wpAny_pyIter_listiter (s := ⟨h', _, _, _, _⟩) ⟨_, k _ _ eit, rfl, rfl⟩ q, ?_⟩
  intro h4 C tk k4 eacc hC nC
  try dsimp only at k4 eacc hC ⊢
  have facc : s.heap.get? h3.objs.size = none := D.fresh
  have nacc : s.heap.objs.size ≠ h3.objs.size := Nat.ne_of_lt D.ns.lt
  have lacc : s.heap.objs.size ≤ h3.objs.size := Nat.le_of_lt D.ns.lt
  have ia : it ≠ h3.objs.size := Nat.ne_of_lt (Heap.lt_size eit)
  have la' : la ≠ h3.objs.size := Nat.ne_of_lt (Heap.lt_size e1)
  have fC : s.heap.get? C = none := get_fresh (by rw [hC]; exact Nat.le_succ_of_le lacc)
  have nLC : s.heap.objs.size ≠ C := by rw [hC]; exact Nat.ne_of_lt (Nat.lt_succ_of_le lacc)
  have iC : it ≠ C := by rw [hC]; exact Nat.ne_of_lt (Nat.lt_succ_of_lt (Heap.lt_size eit))
  have lC : la ≠ C := by rw [hC]; exact Nat.ne_of_lt (Nat.lt_succ_of_lt (Heap.lt_size e1))
  have aC : h3.objs.size ≠ C := by rw [hC]; exact Nat.ne_of_lt (Nat.lt_succ_self _)
  replace e1 := k4 _ _ e1
  replace eit := k4 _ _ eit
  replace D := D.call (.of_keeps k4)
  generalize h3.objs.size = acc at *
  clear k4 hC h3
  refine codeAny_compLoop_list (fun n s' => ∃ i h' tk' mC ys ny, n + i = items.size ∧ s' = ⟨h', s.gens, s.drawn, tk', s.os⟩ ∧ Me [] s.heap h' s.heap.objs.size _ [] ∧ h'.Ns C mC ∧ h'.get? la = some (lsObj items 0) ∧ h'.IsListIter it la i ∧ h'.get? acc = some (lsObj ys ny) ∧ ys.size = i ∧ ∀ v ∈ ys.toList, ∃ n t, v = .int n t) ?_ items.size
    ⟨0, h4, _, _, #[], 0, by omega, rfl, D, nC, e1, ⟨_, eit, rfl, rfl⟩, eacc, rfl, fun v q => by simp at q⟩
  clear D nC e1 eit eacc h4
  rintro n s' ⟨i, h', tk', mC, ys, ny, hn, rfl, D, nC, e1, hit, ey, sy, iy⟩
  cases n with
  | zero =>
    refine wpAny_pyNext_list_end hh' hit ⟨_, e1, rfl, 0, rfl⟩ (by rw [Array.getElem?_eq_none_iff]; omega) (fun h5 he => ?_)
    replace D := D.ownE he fit nit
    have nC5 : h5.Ns C mC := let ⟨o, es, ep, q, r⟩ := nC; ⟨o, es, ep, he _ _ (Ne.symm iC) q, r⟩
    replace ey := he _ _ (Ne.symm ia) ey
    try dsimp only
    refine ⟨mC, nC5, fun h6 sb6 => ?_⟩
    replace D := D.sb sb6 fC nLC
    replace ey := (sb6.2 _ aC).trans ey
    try dsimp only
    clear he hit e1 nC nC5 sb6 h5 h'
    refine wpAny_List ?_
    refine wpAny_items_cons ?_
    refine wpAny_Constant_int ?_
    refine wpAny_items_cons ?_
    refine wpAny_Constant_int ?_
    refine wpAny_items_cons ?_
    refine wpAny_Constant_int ?_
    refine wpAny_items_nil ?_
    refine ⟨by show (3 : Nat) ≤ sizeLine; decide, ?_⟩
    have e5 : ∀ o : Obj, o.isFreed = false → (h6.push o).get? h6.objs.size = some o := fun o ho => Heap.get?_push_size _ ho
    have ey5 := fun o : Obj => Heap.get?_push_of_some o ey
    refine PySem.P.add_list (ey5 _) (e5 _ rfl) ?_ (by show ys.size + 3 ≤ sizeLine; rw [sizeLine_eq]; omega)
    refine wpAny_items_cons ?_
    refine wpAny_Constant_int ?_
    refine wpAny_items_nil ?_
    refine ⟨by show (2 : Nat) ≤ sizeLine; decide, ?_⟩
    try dsimp only
    obtain ⟨ms, hm⟩ := ia_of (l := (ys ++ #[Value.int 5 tk', Value.int 0 (tk' + 1), Value.int 11 (tk' + 1 + 1)]).toList) fun v hv => by
      rw [Array.toList_append] at hv
      rcases List.mem_append.mp hv with hv | hv
      · exact iy v hv
      · simp only [List.mem_cons, List.not_mem_nil, or_false] at hv
        rcases hv with rfl | rfl | rfl <;> exact ⟨_, _, rfl⟩
    have lL : s.heap.objs.size ≤ h6.objs.size := Nat.le_of_lt D.ns.lt
    have hs5 : ∀ o : Obj, (h6.push o).objs.size = h6.objs.size + 1 := fun o => Heap.size_push ..
    have hs6 : ∀ o p : Obj, ((h6.push o).push p).objs.size = h6.objs.size + 1 + 1 := fun o p => by rw [Heap.size_push, Heap.size_push]
    refine hR _ _ _ _ _ ms _ _ _ (((D.ext.and (.push _ _)).and (.push _ _)).and (.push _ _)) (Heap.get?_push_size _ rfl) (Heap.get?_push_of_some _ (Heap.get?_push_size _ rfl)) hm ?_ ?_ ?_ ?_ ?_
    · rw [Array.size_append]; show 0 < ys.size + 3; omega
    · rw [Array.size_append]; show ys.size + 3 ≤ 100; omega
    · rw [hs6]; exact Nat.le_trans lL (Nat.le_add_right _ 2)
    · rw [hs5, hs6]; exact Nat.ne_of_lt (Nat.lt_succ_self _)
    · rw [hs5]; exact Nat.le_succ_of_le lL
  | succ n =>
    have hi' : i < items.size := by omega
    refine wpAny_pyNext_list_item hit ⟨_, e1, rfl, 0, rfl⟩ (Array.getElem?_eq_getElem hi') (fun h5 hit5 sb5 => ?_)
    obtain ⟨nv, tv, ev⟩ := iit items[i] (by simp)
    rw [ev]
    replace D := D.sb sb5 fit nit
    replace nC := nC.sameBut sb5 (Ne.symm iC)
    replace e1 := (sb5.2 _ li).trans e1
    replace ey := (sb5.2 _ (Ne.symm ia)).trans ey
    try dsimp only
    clear sb5 hit h'
    refine wpAny_assign_Name ?_
    refine wpAny_storeName_local rfl nC (fun h6 hn6 hs6 => ?_) rfl
    replace D := D.sb hs6 fC nLC
    replace e1 := (hs6.2 _ lC).trans e1
    replace ey := (hs6.2 _ aC).trans ey
    have hit6 := hit5.at fun o e => (hs6.2 it iC).trans e
    have T6 := D.top T (by simp)
    try dsimp only
    clear hs6 hit5 nC h5
    refine wpAny_BinOp ?_
    refine wpAny_Call_NameR ?_
    walk_at "nb"
    refine call_bi ?_
    refine wpAny_items_cons ?_
    refine name_local hn6 (by rw [if_pos (by decide)]) ?_
    refine wpAny_items_nil ?_
    refine call_abs_int (fun u tk' => ?_)
    refine wpAny_Constant_int ?_
    refine mod_int' (by decide) ?_
    refine append_raw ey (by omega) (fun h7 n7 e7 sb7 => ?_)
    replace D := D.sb sb7 facc nacc
    try dsimp only
    refine ⟨n, Nat.lt_succ_self n, i + 1, h7, _, _, _, n7, by omega, rfl, D, hn6.sameBut sb7 (Ne.symm aC), (sb7.2 _ la').trans e1, hit6.at fun o e => (sb7.2 _ ia).trans e, e7, by rw [Array.size_push, sy], ?_⟩
    intro v hv
    rw [Array.toList_push] at hv
    rcases List.mem_append.mp hv with hv | hv
    · exact iy v hv
    · rw [List.mem_singleton.mp hv]; exact ⟨_, _, rfl⟩
end Mine
end
section
open PySem PySem.W PySem.W.X PyProof.Rows PySem.Calls
set_option maxRecDepth 100000
set_option maxHeartbeats 400000
namespace Mine
local macro_rules | `(tactic| walk_at "st") => `(tactic| (rename Me _ _ _ _ _ _ => D0; refine wpAny_storeName_local rfl D0.ns (fun h1 hn hs => ?_) rfl; have D1 := D0.store hn hs; clear hn hs; (try clear D0); dsimp only))
local macro_rules | `(tactic| walk_at "nl") => `(tactic| refine name_local (Me.ns (by assumption)) rfl ?_)
local macro_rules | `(tactic| walk_at "nb") => `(tactic| refine name_boot (by assumption) rfl rfl rfl (by boot_by_name) (by decide) ?_)
theorem ints_at' {l : List Value} {ns : List Int} (h : IntsAre l ns) : ∀ {i : Nat}, i < l.length → ∃ x tx, l[i]? = some (.int x tx) := by
  induction h with
  | nil => intro i hi; cases hi
  | cons _ _ _ ih =>
    intro i hi
    cases i with
    | zero => exact ⟨_, _, rfl⟩
    | succ i => simpa using ih (by simpa using hi)
theorem ints_at {vs : Array Value} {ns : List Int} (h : IntsAre vs.toList ns) {i : Nat} (hi : i < vs.size) : ∃ x tx, vs[i]? = some (.int x tx) := by
  obtain ⟨x, tx, e⟩ := ints_at' h (i := i) (by simpa using hi)
  exact ⟨x, tx, by simpa [Array.getElem?_toList] using e⟩
theorem next_spec {w : World} {A : Around} {s : Shared} {R : Result → Shared → Prop} {st nb : Addr} {at_ : Nat} {many : Int} {t1 t2 : Tok} {ns : List Int} {vs : Array Value} (hA : Rm 500 A) (hh : A.handled = none) (T : TopH w s.heap)
    (hst : s.heap.IsList st #[.ref nb, .int at_ t1]) (hnb : s.heap.IsList nb vs) (hi : IntsAre vs.toList ns) (hl : 0 < vs.size) (hl2 : vs.size ≤ 100) (ht : at_ < 1000000) (hm : 0 < many) (hm2 : many ≤ 100)
    (hne : nb ≠ st) (hlow : 604 ≤ st)
    (hR : ∀ h' tk v tv t3, Ext [st] s.heap h' → h'.IsList st #[.ref nb, .int (at_ + 1 : Nat) t3] → 0 ≤ v → v < many → R (.ok (.ret (.int v tv))) ⟨h', s.gens, s.drawn, tk, s.os⟩) :
    codeAny (model P w) A (.call (.ref 569) ⟨[.ref st, .int many t2], []⟩) R s := by
  refine enter [(Str.ofString "state", .ref st), (Str.ofString "many", .int many t2)] hA T (by rfl) (by rfl) (by rfl) (by rfl) (BindsTo.of_eq rfl) (by decide) (locs rfl) fun h₁ D hA' hh' => ?_
  replace hh' := hh'.trans hh
  have hst1 := D.ext.isList hst List.not_mem_nil
  refine wpAny_execs_cons ?_
  refine Assign_Tuple_swapped (names := [Str.ofString "numbers", Str.ofString "at"]) ?_ (by rfl) (by rfl)
  refine Tuple_ ?_
  refine wpAny_items_cons ?_
  refine Subscript_ ?_
  walk_at "nl"
  refine wpAny_Constant_int ?_
  refine item_list hst1 (by decide) (by decide) rfl ?_
  refine wpAny_items_cons ?_
  refine Subscript_ ?_
  walk_at "nl"
  refine wpAny_Constant_int ?_
  refine item_list hst1 (by decide) (by decide) rfl ?_
  refine wpAny_items_nil ?_
  refine wpAny_newObj_type ?_ (by show (2 : Nat) ≤ sizeLine; decide)
  replace D := D.call (Ext.push h₁ { cls := .type "tuple", data := .seq #[.ref nb, .int at_ t1] })
  refine wpAny_unpackItems_tuple (items := #[.ref nb, .int at_ t1]) hh' ⟨_, Heap.get?_push_size _ rfl, rfl, 0, rfl⟩ (fun h2 hx => ?_)
  dsimp only at hx ⊢
  replace D := D.call (Ext.of_extBut hx)
  clear hx hst1
  refine wpAny_assignInOrder_more ?_
  refine wpAny_bindName ?_
  walk_at "st"
  refine wpAny_assignInOrder_more ?_
  refine wpAny_bindName ?_
  walk_at "st"
  refine wpAny_assignInOrder_none ?_
  refine wpAny_execs_cons ?_
  refine wpAny_Assign_Subscript ?_
  refine wpAny_BinOp ?_
  walk_at "nl"
  refine wpAny_Constant_int ?_
  refine add_int ?_
  walk_at "nl"
  refine wpAny_Constant_int ?_
  rename Me _ _ _ _ _ _ => D
  have hst2 := D.ext.isList hst List.not_mem_nil
  refine wpAny_setItem_list hst2 (by decide) (by decide) (by show (1 : Int) < 2; decide) (fun h3 l3 s3 => ?_)
  dsimp only at s3 l3 ⊢
  obtain ⟨o0, e0, _⟩ := id hst
  obtain ⟨o3, e3, c3, n3, f3⟩ := l3
  have D3 := D.setOld e0 (Nat.ne_of_gt (Heap.lt_size e0)) s3 e3
  clear D hst2
  have hnb3 := D3.ext.isList hnb (by simpa using hne)
  refine wpAny_execs_cons ?_
  refine wpAny_Assign_Name ?_
  refine wpAny_BinOp ?_
  walk_at "nl"
  refine wpAny_Call_NameR ?_
  have T3 := D3.top T (by simpa using hlow)
  walk_at "nb"
  refine call_bi ?_
  refine wpAny_items_cons ?_
  walk_at "nl"
  refine wpAny_items_nil ?_
  refine len_list hnb3 (by omega) ?_
  refine floordiv_int (by omega) ?_
  clear hnb3
  dsimp only
  walk_at "st"
  rename Me _ _ _ _ _ _ => D4
  have hnb4 := D4.ext.isList hnb (by simpa using hne)
  have T4 := D4.top T (by simpa using hlow)
  clear T3
  refine wpAny_execs_cons ?_
  refine wpAny_Return_some ?_
  refine wpAny_BinOp ?_
  refine wpAny_BinOp ?_
  refine wpAny_BinOp ?_
  refine Subscript_ ?_
  walk_at "nl"
  refine wpAny_BinOp ?_
  walk_at "nl"
  refine wpAny_Call_NameR ?_
  walk_at "nb"
  refine call_bi ?_
  refine wpAny_items_cons ?_
  walk_at "nl"
  refine wpAny_items_nil ?_
  refine len_list hnb4 (by omega) ?_
  refine mod_int' (by omega) ?_
  have hz : 0 < (vs.size : Int) := by omega
  have q0 : 0 ≤ Int.fmod (at_ : Int) (vs.size : Int) := by rw [Int.fmod_eq_emod_of_nonneg _ (by omega)]; exact Int.emod_nonneg _ (by omega)
  have q1 : Int.fmod (at_ : Int) (vs.size : Int) < vs.size := by rw [Int.fmod_eq_emod_of_nonneg _ (by omega)]; exact Int.emod_lt_of_pos _ hz
  obtain ⟨x, tx, hx⟩ : ∃ x tx, vs[(Int.fmod (at_ : Int) (vs.size : Int)).toNat]? = some (.int x tx) := ints_at hi (by omega)
  refine item_list hnb4 q0 (by omega) hx ?_
  refine wpAny_BinOp ?_
  refine wpAny_Constant_int ?_
  walk_at "nl"
  refine add_int ?_
  have d0 : 0 ≤ Int.fdiv (at_ : Int) (vs.size : Int) := by rw [Int.fdiv_eq_ediv_of_nonneg _ (by omega)]; exact Int.ediv_nonneg (by omega) (by omega)
  have d1 : Int.fdiv (at_ : Int) (vs.size : Int) ≤ at_ := by rw [Int.fdiv_eq_ediv_of_nonneg _ (by omega)]; exact Int.ediv_le_self _ (by omega)
  refine floordiv_int (by omega) ?_
  refine wpAny_BinOp ?_
  refine wpAny_Constant_int ?_
  walk_at "nl"
  refine mul_int ?_ (IntMulOk.of_left (intBits_le_64 (by decide) (by decide)))
  refine add_int ?_
  walk_at "nl"
  refine mod_int' (by omega) ?_
  dsimp only
  refine hR _ _ _ _ _ D4.ext ⟨o3, D4.at 0 rfl, c3, n3, f3⟩ ?_ ?_
  · rw [Int.fmod_eq_emod_of_nonneg _ (by omega)]; exact Int.emod_nonneg _ (by omega)
  · rw [Int.fmod_eq_emod_of_nonneg _ (by omega)]; exact Int.emod_lt_of_pos _ hm
end Mine
end
section
open PySem PySem.W PySem.W.X PyProof.Rows PySem.Calls
set_option maxRecDepth 100000
set_option maxHeartbeats 400000
namespace Mine
theorem Ext.cell {mod : List Addr} {h h' : Heap} (x : Ext mod h h') {c : Addr} {v : Option Value} (q : h.IsCell c v) (hm : c ∉ mod) : h'.IsCell c v := by
  obtain ⟨o, e, hd⟩ := q
  rcases x.keep c o e hm with z | ⟨_, ps, more, rfl, _⟩
  · exact ⟨o, z, hd⟩
  · cases hd
theorem cell_keeps {h h' : Heap} {c : Addr} {v : Option Value} (q : h.IsCell c v) {a : Addr} (he : Heap.ExtBut a h h') (ne : c ≠ a) : h'.IsCell c v := by
  obtain ⟨o, e, hd⟩ := q
  exact ⟨o, he _ _ ne e, hd⟩
theorem Me.callM {mod mod' : List Addr} {h₀ h h' : Heap} {L : Addr} {m : Str → Option Value} (D : Me mod h₀ h L m []) (x : Ext mod' h h') (hs : ∀ a ∈ mod', a ∈ mod ∨ h₀.get? a = none) (hL : L ∉ mod') : Me mod h₀ h' L m [] :=
  ⟨D.ext.trans x hs, Ns_ext x D.ns hL, fun _ q => (nomatch q), List.nodup_nil, fun _ q => (nomatch q), fun _ q => (nomatch q), D.offL⟩
theorem Me.may {mod mod' : List Addr} {h₀ h : Heap} {L : Addr} {m : Str → Option Value} (D : Me mod h₀ h L m []) (hs : ∀ a ∈ mod, a ∈ mod') : Me mod' h₀ h L m [] :=
  ⟨D.ext.mono hs, D.ns, fun _ q => (nomatch q), List.nodup_nil, fun _ q => (nomatch q), fun _ q => (nomatch q), D.offL.imp (hs _) id⟩
theorem enterC {w : World} {A : Around} {s : Shared} {R : Result → Shared → Prop} {a : Addr} {o : Obj} {fd : FuncData} {body : List Stmt} {vals : List Value} (binds : List (Str × Value)) {n : Nat} (hA : Rm n A) (T : TopH w s.heap)
    (ho : (KK w).lookup a = some o) (hdata : o.data = .func fd) (hcd : codeIn (KK w) fd.code fd.qualname = true)
    (hbody : fd.body = .stmts body) (hbind : bindArgs fd ⟨vals, []⟩ = pure binds) (hclo : fd.closure = [])
    (hkind : ∀ x ∈ binds, fd.scope.names.lookup x.1 = some .local ∨ (fd.scope.names.lookup x.1 = some .cell ∧ ((cellsFrom (s.heap.objs.size + 1) fd.scope.names []).lookup x.1).isSome = true))
    (h : ∀ h₁ tk, Me [] s.heap h₁ s.heap.objs.size (bindL (callEnvC fd s.heap.objs.size a).kindOf binds fun _ => none) [] →
      (∀ n c, (callEnvC fd s.heap.objs.size a).cells.lookup n = some c → h₁.IsCell c (bindC (callEnvC fd s.heap.objs.size a).kindOf binds (fun _ => none) n)) →
      Rm (n + 1) (A.deeper (callEnvC fd s.heap.objs.size a)) → (A.deeper (callEnvC fd s.heap.objs.size a)).handled = A.handled →
      wpAny (model P w) (A.deeper (callEnvC fd s.heap.objs.size a)) (execs body (callEnvC fd s.heap.objs.size a)) (fun f s' => R (.ok (.ret (match f with | .ret v => v | _ => .none))) s')
        (fun e s' => wpAny (model P w) (A.deeper (callEnvC fd s.heap.objs.size a)) (leaving (callEnvC fd s.heap.objs.size a) e) (fun _ s'' => R (.error e) s'') (fun e' s'' => R (.error e') s'') s')
        { s with heap := h₁, toks := tk })
    (hn : n ≤ 600 := by decide) (hco : fd.scope.isCoroutine = false := by rfl) (hgen : fd.scope.isGenerator = false := by rfl) (hk : fd.scope.kind = .function := by rfl) : codeAny (model P w) A (.call (.ref a) ⟨vals, []⟩) R s := by
  refine codeAny_call_cells (hA.dlt hn) (T.K _ _ ho) hdata T.lim (codeRec_of T.K hcd) hbody hbind hclo hkind (fun s₁ X => ?_) hco hgen hk
  obtain ⟨h₁, tk, rfl, k⟩ := X.done
  exact h h₁ tk (.start X.toInCall.ns k) X.cell (hA.deeper _) rfl
end Mine
end
section
open PySem PySem.W PySem.W.X PyProof.Rows PySem.Calls
set_option maxRecDepth 100000
set_option maxHeartbeats 400000
namespace Mine
local macro_rules | `(tactic| walk_at "nb") => `(tactic| refine name_boot (by assumption) rfl rfl rfl (by boot_by_name) (by decide) ?_)
local macro_rules | `(tactic| walk_at "nt") => `(tactic| refine name_top (by assumption) rfl (by rfl) ?_)
theorem Rd.keep {b : Addr} {h h' : Heap} {v : Value} {d : PyData} (x : Rd b h v d) (k : ∀ a o, b ≤ a → h.get? a = some o → h'.get? a = some o) : Rd b h' v d := by
  induction x with
  | int i t => exact .int i t
  | str x t => exact .str x t
  | list h1 h2 h3 _ ih => exact .list h1 (let ⟨o, e, r⟩ := h2; ⟨o, k _ _ h1 e, r⟩) h3 fun i v d e1 e2 => ih i v d e1 e2
  | tup h1 h2 h3 _ ih => exact .tup h1 (let ⟨o, e, r⟩ := h2; ⟨o, k _ _ h1 e, r⟩) h3 fun i v d e1 e2 => ih i v d e1 e2
def RdAll (b : Addr) (h : Heap) (vs : Array Value) (ds : List PyData) : Prop := vs.size = ds.length ∧ ∀ (i : Nat) (v : Value) (d : PyData), vs[i]? = some v → ds[i]? = some d → Rd b h v d
theorem RdAll.keep {b : Addr} {h h' : Heap} {vs : Array Value} {ds : List PyData} (x : RdAll b h vs ds) (k : ∀ a o, b ≤ a → h.get? a = some o → h'.get? a = some o) : RdAll b h' vs ds := ⟨x.1, fun i v d e1 e2 => (x.2 i v d e1 e2).keep k⟩
theorem RdAll.same {b : Addr} {h h' : Heap} {vs : Array Value} {ds : List PyData} (x : RdAll b h vs ds) {a : Addr} (he : Heap.ExtBut a h h') (l : a < b) : RdAll b h' vs ds := x.keep fun c o q e => he c o (Nat.ne_of_gt (Nat.lt_of_lt_of_le l q)) e
theorem RdAll.ext {b : Addr} {h h' : Heap} {vs : Array Value} {ds : List PyData} {mod : List Addr} (x : RdAll b h vs ds) (e : Ext mod h h') (hm : ∀ a ∈ mod, a < b ∨ h.get? a = none) : RdAll b h' vs ds := ⟨x.1, fun i v d e1 e2 => (x.2 i v d e1 e2).ext e hm⟩
theorem RdAll.nil {b : Addr} {h : Heap} : RdAll b h #[] [] := ⟨rfl, fun i v d e1 => by simp at e1⟩
theorem RdAll.snoc {b : Addr} {h : Heap} {vs : Array Value} {ds : List PyData} {v : Value} {d : PyData} (x : RdAll b h vs ds) (r : Rd b h v d) : RdAll b h (vs.push v) (ds ++ [d]) := by
  refine ⟨by rw [Array.size_push, List.length_append, x.1]; rfl, fun i v' d' e1 e2 => ?_⟩
  by_cases hi : i < vs.size
  · rw [Array.getElem?_push, if_neg (by omega)] at e1
    rw [List.getElem?_append_left (by rw [← x.1]; exact hi)] at e2
    exact x.2 i v' d' e1 e2
  · rw [Array.getElem?_push] at e1
    split at e1
    · rename_i hz
      cases e1
      rw [hz, x.1, List.getElem?_append_right (Nat.le_refl _), Nat.sub_self] at e2
      cases e2
      exact r
    · rw [Array.getElem?_eq_none (by omega)] at e1; cases e1
theorem RdAll.mono {b b' : Addr} {h : Heap} {vs : Array Value} {ds : List PyData} (x : RdAll b h vs ds) (l : b' ≤ b) : RdAll b' h vs ds := ⟨x.1, fun i v d e1 e2 => (x.2 i v d e1 e2).mono l⟩
theorem RdAll.at {b : Addr} {h : Heap} {vs : Array Value} {ds : List PyData} (x : RdAll b h vs ds) {a : Addr} {n : Nat} (e : h.get? a = some (lsObj vs n)) (l : b ≤ a) : LsAt b h a vs ds := ⟨l, ⟨_, e, rfl, n, rfl⟩, x.1, x.2⟩
abbrev abcd : List Str := [Str.ofString "a", Str.ofString "b", Str.ofString "c", Str.ofString "d"]
theorem abcd_at {v : Int} (h0 : 0 ≤ v) (h4 : v < 4) : ∃ c : Nat, ((seqIndex? v (Str.ofString "abcd").length).bind ((Str.ofString "abcd").cps[·]?) = some c) ∧ (⟨#[c]⟩ : Str) ∈ abcd := by
  have : v = 0 ∨ v = 1 ∨ v = 2 ∨ v = 3 := by omega
  rcases this with rfl | rfl | rfl | rfl
  · exact ⟨97, by rfl, by decide⟩
  · exact ⟨98, by rfl, by decide⟩
  · exact ⟨99, by rfl, by decide⟩
  · exact ⟨100, by rfl, by decide⟩
theorem pairs_spec {w : World} {A : Around} {s : Shared} {R : Result → Shared → Prop} {st nb : Addr} {at_ : Nat} {t1 : Tok} {ns : List Int} {vs : Array Value} (hA : Rm 490 A) (hh : A.handled = none) (T : TopH w s.heap)
    (hst : s.heap.IsList st #[.ref nb, .int at_ t1]) (hnb : s.heap.IsList nb vs) (hi : IntsAre vs.toList ns) (hl : 0 < vs.size) (hl2 : vs.size ≤ 100) (ht : at_ < 900000)
    (hne : nb ≠ st) (hlow : 604 ≤ st)
    (hR : ∀ h' tk r us (ps : List (Str × Int)) at2 t3, Ext [st] s.heap h' → h'.IsList st #[.ref nb, .int (at2 : Nat) t3] → at2 ≤ at_ + 13 → LsAt s.heap.objs.size h' r us (ps.map pairD) → ps.length ≤ 6 → (∀ p ∈ ps, p.1 ∈ abcd ∧ 0 ≤ p.2 ∧ p.2 < 9) →
      R (.ok (.ret (.ref r))) ⟨h', s.gens, s.drawn, tk, s.os⟩) :
    codeAny (model P w) A (.call (.ref 579) ⟨[.ref st], []⟩) R s := by
  refine enterC [(Str.ofString "state", .ref st)] hA T (by rfl) (by rfl) (by rfl) (by rfl) (by rfl) (by rfl) (fun x q => by rw [List.mem_singleton.mp q]; exact .inr ⟨by rfl, by rfl⟩) fun h₁ tk0 D X hA' hh' => ?_
  replace hh' := hh'.trans hh
  have T1 := D.top T (by simp)
  have C := X (Str.ofString "state") (s.heap.objs.size + 1) rfl
  have fC : s.heap.get? (s.heap.objs.size + 1) = none := get_fresh (Nat.le_succ _)
  refine wpAny_execs_cons ?_
  refine wpAny_Return_some ?_
  refine list_comp (cl := [(Str.ofString "state", s.heap.objs.size + 1)]) (by rfl) rfl (by decide) (by decide) ?_
  refine wpAny_Call_NameR ?_
  walk_at "nb"
  refine call_bi ?_
  refine wpAny_items_cons ?_
  refine wpAny_Call_NameR ?_
  walk_at "nt"
  refine call_fn (by rfl) ?_
  refine wpAny_items_cons ?_
  refine wpAny_Name (wpAny_loadName_cell rfl rfl (c := s.heap.objs.size + 1) rfl C ?_) (by decide)
  refine wpAny_items_cons ?_
  refine wpAny_Constant_int ?_
  refine wpAny_items_nil ?_
  refine ⟨T1, ?_⟩
  refine wpAny_call ?_
  have hst1 := D.ext.isList hst List.not_mem_nil
  have hnb1 := D.ext.isList hnb List.not_mem_nil
  have nst : s.heap.objs.size ≠ st := fun q => by obtain ⟨o, e, _⟩ := hst; rw [← q] at e; exact absurd (Heap.lt_size e) (Nat.lt_irrefl _)
  have nstC : s.heap.objs.size + 1 ≠ st := fun q => by obtain ⟨o, e, _⟩ := hst; rw [← q] at e; exact absurd (Heap.lt_size e) (Nat.not_lt.mpr (Nat.le_succ _))
  refine next_spec (hA'.mono (by decide)) hh' T1 hst1 hnb1 hi hl hl2 (by omega) (by decide) (by decide) hne hlow (fun h2 tk2 cnt tcn t3 e2 hst2 hc0 hc7 => ?_)
  replace D := (D.may (mod' := [st]) (by simp)).callM e2 (fun a q => .inl q) (by rw [List.mem_singleton]; exact nst)
  replace C := e2.cell C (by rw [List.mem_singleton]; exact nstC)
  try dsimp only
  clear e2 hst1 hnb1 T1 X h₁
  refine wpAny_items_nil ?_
  refine call_range_1 ?_
  try dsimp only
  refine wpAny_pyIter_range (IsRange.new ..) (small_one (by decide) (by decide) (by omega) (by omega)) ?_
  rw [rangeSize_one]
  have hcn : (if (0 : Int) < cnt then cnt - 0 else 0) = cnt := by split <;> omega
  rw [hcn]
  try dsimp only
  replace D := D.call (Ext.push h2 { cls := .type "range", data := .fields #[.int 0 tk2, .int cnt tcn, .int 1 (tk2 + 1)] })
  replace hst2 := (Ext.push h2 { cls := .type "range", data := .fields #[.int 0 tk2, .int cnt tcn, .int 1 (tk2 + 1)] }).isList hst2 List.not_mem_nil
  replace C := (Ext.push h2 { cls := .type "range", data := .fields #[.int 0 tk2, .int cnt tcn, .int 1 (tk2 + 1)] }).cell C List.not_mem_nil
  generalize h2.push { cls := .type "range", data := .fields #[.int 0 tk2, .int cnt tcn, .int 1 (tk2 + 1)] } = h3 at D hst2 C ⊢
  clear h2
  have fit : s.heap.get? h3.objs.size = none := D.fresh
  have nit : s.heap.objs.size ≠ h3.objs.size := Nat.ne_of_lt D.ns.lt
  have Cit : s.heap.objs.size + 1 ≠ h3.objs.size := by obtain ⟨o, e, _⟩ := C; exact Nat.ne_of_lt (Heap.lt_size e)
  have stit : st ≠ h3.objs.size := by obtain ⟨o, e, _⟩ := hst2; exact Nat.ne_of_lt (Heap.lt_size e)
  have hit : IsRangeIter (h3.push { cls := .type "range_iterator", data := .fields #[rawInt 0, rawInt cnt, rawInt 1] }) h3.objs.size 0 cnt 1 := Heap.get?_push_size _ rfl
  replace D := D.call (Ext.push h3 { cls := .type "range_iterator", data := .fields #[rawInt 0, rawInt cnt, rawInt 1] })
  replace hst2 := (Ext.push h3 { cls := .type "range_iterator", data := .fields #[rawInt 0, rawInt cnt, rawInt 1] }).isList hst2 List.not_mem_nil
  replace C := (Ext.push h3 { cls := .type "range_iterator", data := .fields #[rawInt 0, rawInt cnt, rawInt 1] }).cell C List.not_mem_nil
  generalize h3.objs.size = it at fit nit Cit stit hit ⊢
  generalize h3.push { cls := .type "range_iterator", data := .fields #[rawInt 0, rawInt cnt, rawInt 1] } = h4 at D hst2 C hit ⊢
  clear h3
  refine ⟨fun E' Q' h' k tk q => wpAny_pyIter_rangeiter (s := ⟨h', _, _, _, _⟩) (k _ _ hit) q, ?_⟩
  intro h5 Cc tk k5 eacc hC nC
  try dsimp only at k5 eacc hC ⊢
  have facc : s.heap.get? h4.objs.size = none := D.fresh
  have nacc : s.heap.objs.size ≠ h4.objs.size := Nat.ne_of_lt D.ns.lt
  have lacc : s.heap.objs.size ≤ h4.objs.size := Nat.le_of_lt D.ns.lt
  have ia : it < h4.objs.size := Heap.lt_size hit
  have Ca : s.heap.objs.size + 1 < h4.objs.size := by obtain ⟨o, e, _⟩ := C; exact Heap.lt_size e
  have sta : st < h4.objs.size := by obtain ⟨o, e, _⟩ := hst2; exact Heap.lt_size e
  have fCc : s.heap.get? Cc = none := get_fresh (by rw [hC]; exact Nat.le_succ_of_le lacc)
  have nLC : s.heap.objs.size ≠ Cc := by rw [hC]; exact Nat.ne_of_lt (Nat.lt_succ_of_le lacc)
  have aC : h4.objs.size < Cc := by rw [hC]; exact Nat.lt_succ_self _
  replace hit : IsRangeIter h5 it 0 cnt 1 := k5 _ _ hit
  replace hst2 := (Ext.of_keeps k5).isList hst2 List.not_mem_nil
  replace C := (Ext.of_keeps k5).cell C List.not_mem_nil
  replace D := D.call (.of_keeps k5)
  generalize h4.objs.size = acc at *
  clear k5 hC h4
  have hC5 : Cc < h5.objs.size := nC.lt
  refine codeAny_compLoop_list (fun n s' => ∃ (i : Nat), ∃ h' tk' mC ys ny, ∃ (at2 : Nat), ∃ t2, ∃ ps : List (Str × Int), (n : Int) + (i : Int) = cnt ∧ s' = ⟨h', s.gens, s.drawn, tk', s.os⟩ ∧ Me [st] s.heap h' s.heap.objs.size _ [] ∧ h'.IsCell (s.heap.objs.size + 1) _ ∧ h'.Ns Cc mC ∧ IsRangeIter h' it (i : Int) (cnt - (i : Int)) 1 ∧ h'.get? acc = some (lsObj ys ny) ∧ RdAll (Cc + 1) h' ys (ps.map pairD) ∧ ps.length = i ∧ h'.IsList st #[.ref nb, .int (at2 : Nat) t2] ∧ at2 ≤ at_ + 1 + 2 * i ∧ ∀ p ∈ ps, p.1 ∈ abcd ∧ 0 ≤ p.2 ∧ p.2 < 9) ?_ cnt.toNat
    ⟨0, h5, _, _, #[], 0, at_ + 1, _, [], by omega, rfl, D, C, nC, by simpa using hit, eacc, .nil, rfl, hst2, by omega, fun p q => nomatch q⟩
  clear D C nC hst2 hit eacc hC5 h5
  rintro n s' ⟨i, h', tk', mC, ys, ny, at2, t2, ps, hn, rfl, D, C, nC, hit, ey, rd, lp, hst2, lat, good⟩
  cases n with
  | zero =>
    refine wpAny_pyNext_range_end hh' hit (by omega) (fun h6 he => ?_)
    have itC : it ≠ Cc := Nat.ne_of_lt (Nat.lt_trans ia aC)
    replace D := D.ownE he fit nit
    have nC6 : h6.Ns Cc mC := let ⟨o, es, ep, q, r⟩ := nC; ⟨o, es, ep, he _ _ (Ne.symm itC) q, r⟩
    replace ey := he _ _ (Nat.ne_of_gt ia) ey
    replace rd := rd.same he (Nat.lt_succ_of_lt (Nat.lt_trans ia aC))
    replace hst2 : h6.IsList st _ := let ⟨o, q, r⟩ := hst2; ⟨o, he _ _ stit q, r⟩
    try dsimp only
    refine ⟨mC, nC6, fun h7 sb7 => ?_⟩
    replace D := D.sb sb7 fCc nLC
    replace ey := (sb7.2 _ (Nat.ne_of_lt aC)).trans ey
    replace rd := rd.same sb7.extBut (Nat.lt_succ_self _)
    replace hst2 : h7.IsList st _ := let ⟨o, q, r⟩ := hst2; ⟨o, (sb7.2 _ (Nat.ne_of_lt (Nat.lt_trans sta aC))).trans q, r⟩
    exact hR _ _ _ _ ps at2 _ D.ext hst2 (by omega) ((rd.mono (Nat.le_succ_of_le (Nat.le_of_lt (Nat.lt_of_le_of_lt lacc aC)))).at ey lacc) (by omega) good
  | succ n =>
    refine wpAny_pyNext_range_item hit (by omega) (fun h5 hit5 sb5 => ?_)
    have itC : it ≠ Cc := Nat.ne_of_lt (Nat.lt_trans ia aC)
    have stC : st ≠ Cc := Nat.ne_of_lt (Nat.lt_trans sta aC)
    have CC : s.heap.objs.size + 1 ≠ Cc := Nat.ne_of_lt (Nat.lt_trans Ca aC)
    replace D := D.sb sb5 fit nit
    replace C := cell_keeps C sb5.extBut Cit
    replace nC := nC.sameBut sb5 (Ne.symm itC)
    replace ey := (sb5.2 _ (Nat.ne_of_gt ia)).trans ey
    replace rd := rd.same sb5.extBut (Nat.lt_succ_of_lt (Nat.lt_trans ia aC))
    replace hst2 : h5.IsList st _ := let ⟨o, q, r⟩ := hst2; ⟨o, (sb5.2 _ stit).trans q, r⟩
    try dsimp only
    clear sb5 hit h'
    refine wpAny_assign_Name ?_
    refine wpAny_storeName_local rfl nC (fun h6 hn6 hs6 => ?_) rfl
    replace D := D.sb hs6 fCc nLC
    replace C := cell_keeps C hs6.extBut CC
    replace ey := (hs6.2 _ (Nat.ne_of_lt aC)).trans ey
    replace rd := rd.same hs6.extBut (Nat.lt_succ_self _)
    replace hst2 : h6.IsList st _ := let ⟨o, q, r⟩ := hst2; ⟨o, (hs6.2 _ stC).trans q, r⟩
    replace hit5 : IsRangeIter h6 it _ _ _ := (hs6.2 _ itC).trans hit5
    have T6 := D.top T (by simp [hlow])
    try dsimp only
    clear hs6 nC h5
    refine Tuple_ ?_
    refine wpAny_items_cons ?_
    refine Subscript_ ?_
    refine wpAny_Constant_str ?_
    refine wpAny_Call_NameR ?_
    walk_at "nt"
    refine call_fn (by rfl) ?_
    refine wpAny_items_cons ?_
    refine wpAny_Name (wpAny_loadName_cell rfl rfl (c := s.heap.objs.size + 1) rfl C ?_) (by decide)
    refine wpAny_items_cons ?_
    refine wpAny_Constant_int ?_
    refine wpAny_items_nil ?_
    refine ⟨T6, ?_⟩
    refine wpAny_call ?_
    have nb6 := D.ext.isList hnb (by rw [List.mem_singleton]; exact hne)
    refine next_spec (hA'.mono (by decide)) hh' T6 hst2 nb6 hi hl hl2 (by omega) (by decide) (by decide) hne hlow (fun h7 tk7 v1 tv1 t7 e7 hst7 hv0 hv4 => ?_)
    replace D := D.callM e7 (fun a q => .inl q) (by rw [List.mem_singleton]; exact nst)
    replace C := e7.cell C (by rw [List.mem_singleton]; exact nstC)
    replace hn6 := Ns_ext e7 hn6 (by rw [List.mem_singleton]; exact Ne.symm stC)
    replace ey := e7.get ey rfl (by rw [List.mem_singleton]; exact Nat.ne_of_gt sta)
    replace rd := rd.ext e7 (fun a q => by rw [List.mem_singleton.mp q]; exact .inl (Nat.lt_succ_of_lt (Nat.lt_trans sta aC)))
    replace hit5 : IsRangeIter h7 it _ _ _ := e7.get hit5 rfl (by rw [List.mem_singleton]; exact Ne.symm stit)
    try dsimp only
    clear e7 hst2 T6 nb6 h6
    have T7 := D.top T (by simp [hlow])
    have nb7 := D.ext.isList hnb (by rw [List.mem_singleton]; exact hne)
    obtain ⟨c, hc, hin⟩ := abcd_at hv0 hv4
    refine subscriptTail_builtin (typeIs_str _ _ _) PySem.F.slot_str_getitem.lookup (PySem.P.getItem_str (by rw [Bool.or_eq_false_iff]; exact ⟨decide_eq_false (by omega), decide_eq_false (by omega)⟩) hc ?_)
    try dsimp only
    refine wpAny_items_cons ?_
    refine wpAny_Call_NameR ?_
    walk_at "nt"
    refine call_fn (by rfl) ?_
    refine wpAny_items_cons ?_
    refine wpAny_Name (wpAny_loadName_cell rfl rfl (c := s.heap.objs.size + 1) rfl C ?_) (by decide)
    refine wpAny_items_cons ?_
    refine wpAny_Constant_int ?_
    refine wpAny_items_nil ?_
    refine ⟨T7, ?_⟩
    refine wpAny_call ?_
    refine next_spec (hA'.mono (by decide)) hh' T7 hst7 nb7 hi hl hl2 (by omega) (by decide) (by decide) hne hlow (fun h8 tk8 v2 tv2 t8 e8 hst8 hv0' hv9 => ?_)
    replace D := D.callM e8 (fun a q => .inl q) (by rw [List.mem_singleton]; exact nst)
    replace C := e8.cell C (by rw [List.mem_singleton]; exact nstC)
    replace hn6 := Ns_ext e8 hn6 (by rw [List.mem_singleton]; exact Ne.symm stC)
    replace ey := e8.get ey rfl (by rw [List.mem_singleton]; exact Nat.ne_of_gt sta)
    replace rd := rd.ext e8 (fun a q => by rw [List.mem_singleton.mp q]; exact .inl (Nat.lt_succ_of_lt (Nat.lt_trans sta aC)))
    replace hit5 : IsRangeIter h8 it _ _ _ := e8.get hit5 rfl (by rw [List.mem_singleton]; exact Ne.symm stit)
    try dsimp only
    clear e8 hst7 T7 nb7 h7
    refine wpAny_items_nil ?_
    refine wpAny_newObj_type ?_ (by show (2 : Nat) ≤ sizeLine; decide)
    try dsimp only
    have lC8 : Cc + 1 ≤ h8.objs.size := hn6.lt
    have rp : Rd (Cc + 1) (h8.push { cls := .type "tuple", data := .seq #[.str ⟨#[c]⟩ tk7, .int v2 tv2] }) (.ref h8.objs.size) (pairD (⟨#[c]⟩, v2)) := by
      refine .tup lC8 ⟨_, Heap.get?_push_size _ rfl, rfl, 0, rfl⟩ rfl (fun i v d e1 e2 => ?_)
      match i with
      | 0 => cases e1; cases e2; exact .str _ _
      | 1 => cases e1; cases e2; exact .int _ _
      | i + 2 => simp at e1
    have ex8 := Ext.push h8 { cls := .type "tuple", data := .seq #[.str ⟨#[c]⟩ tk7, .int v2 tv2] }
    replace D := D.call ex8
    replace C := ex8.cell C List.not_mem_nil
    replace hn6 := Ns_ext ex8 hn6 List.not_mem_nil
    replace ey := ex8.get ey rfl List.not_mem_nil
    replace rd := (rd.ext ex8 (fun a q => nomatch q)).snoc rp
    replace hit5 : IsRangeIter _ it _ _ _ := ex8.get hit5 rfl List.not_mem_nil
    replace hst8 := ex8.isList hst8 List.not_mem_nil
    generalize h8.objs.size = ta at rd ⊢
    generalize h8.push { cls := .type "tuple", data := .seq #[.str ⟨#[c]⟩ tk7, .int v2 tv2] } = h9 at D C hn6 ey rd hit5 hst8 ⊢
    clear rp ex8 lC8 h8
    have sy : ys.size = i := by have := rd.1; rw [Array.size_push, List.length_append, List.length_map, List.length_singleton] at this; omega
    refine append_raw ey (by omega) (fun h10 n10 e10 sb10 => ?_)
    try dsimp only
    refine ⟨n, Nat.lt_succ_self n, i + 1, h10, _, _, _, n10, at2 + 1 + 1, t8, ps ++ [(⟨#[c]⟩, v2)], by omega, rfl, D.sb sb10 facc nacc, cell_keeps C sb10.extBut (Nat.ne_of_lt Ca), hn6.sameBut sb10 (Nat.ne_of_gt aC), ?_, e10, ?_, by rw [List.length_append, lp]; rfl, ?_, ?_, ?_⟩
    · have := (sb10.2 _ (Nat.ne_of_lt ia)).trans hit5
      have z : cnt - ((i + 1 : Nat) : Int) = cnt - (i : Int) - 1 := by omega
      rw [z]
      exact this
    · rw [List.map_append]
      exact rd.same sb10.extBut (Nat.lt_succ_of_lt aC)
    · exact let ⟨o, q, r⟩ := hst8; ⟨o, (sb10.2 _ (Nat.ne_of_lt sta)).trans q, r⟩
    · omega
    · intro p hp
      rcases List.mem_append.mp hp with hp | hp
      · exact good p hp
      · rw [List.mem_singleton.mp hp]; exact ⟨hin, hv0', hv9⟩
end Mine
end
section
open PySem PySem.W PySem.W.X PyProof.Rows PySem.Calls
set_option maxRecDepth 100000
set_option maxHeartbeats 400000
namespace Mine
inductive RdP (p : Addr → Prop) (h : Heap) : Value → PyData → Prop
  | int (i : Int) (t : Tok) : RdP p h (.int i t) (.int i)
  | str (x : Str) (t : Tok) : RdP p h (.str x t) (.str x)
  | list {a : Addr} {vs : Array Value} {ds : List PyData} : p a → h.IsList a vs → vs.size = ds.length → (∀ (i : Nat) (v : Value) (d : PyData), vs[i]? = some v → ds[i]? = some d → RdP p h v d) → RdP p h (.ref a) (.list ds)
  | tup {a : Addr} {vs : Array Value} {ds : List PyData} : p a → IsTup h a vs → vs.size = ds.length → (∀ (i : Nat) (v : Value) (d : PyData), vs[i]? = some v → ds[i]? = some d → RdP p h v d) → RdP p h (.ref a) (.tuple ds)
section
variable {p q : Addr → Prop} {b : Addr} {h h' : Heap} {v : Value} {d : PyData}
theorem RdP.toRd (x : RdP p h v d) (k : ∀ a, p a → b ≤ a) : Rd b h v d := by
  induction x with
  | int i t => exact .int i t
  | str x t => exact .str x t
  | list h1 h2 h3 _ ih => exact .list (k _ h1) h2 h3 fun i v d e1 e2 => ih i v d e1 e2
  | tup h1 h2 h3 _ ih => exact .tup (k _ h1) h2 h3 fun i v d e1 e2 => ih i v d e1 e2
theorem Rd.toP (x : Rd b h v d) (k : ∀ a o, b ≤ a → h.get? a = some o → p a) : RdP p h v d := by
  induction x with
  | int i t => exact .int i t
  | str x t => exact .str x t
  | list h1 h2 h3 _ ih => exact .list (let ⟨o, e, _⟩ := h2; k _ _ h1 e) h2 h3 fun i v d e1 e2 => ih i v d e1 e2
  | tup h1 h2 h3 _ ih => exact .tup (let ⟨o, e, _⟩ := h2; k _ _ h1 e) h2 h3 fun i v d e1 e2 => ih i v d e1 e2
theorem RdP.keep (x : RdP p h v d) (k : ∀ a o, p a → h.get? a = some o → h'.get? a = some o) : RdP p h' v d := by
  induction x with
  | int i t => exact .int i t
  | str x t => exact .str x t
  | list h1 h2 h3 _ ih => exact .list h1 (let ⟨o, e, r⟩ := h2; ⟨o, k _ _ h1 e, r⟩) h3 fun i v d e1 e2 => ih i v d e1 e2
  | tup h1 h2 h3 _ ih => exact .tup h1 (let ⟨o, e, r⟩ := h2; ⟨o, k _ _ h1 e, r⟩) h3 fun i v d e1 e2 => ih i v d e1 e2
theorem RdP.same (x : RdP p h v d) {c : Addr} (he : Heap.ExtBut c h h') (n : ¬ p c) : RdP p h' v d := x.keep fun a o q e => he a o (fun z => n (z ▸ q)) e
theorem RdP.pairE {x y : PyData} (r : RdP p h v (.tuple [x, y])) : ∃ a u z, v = .ref a ∧ p a ∧ IsTup h a #[u, z] ∧ RdP p h u x ∧ RdP p h z y := by
  cases r with
  | tup h1 h2 h3 h4 =>
    rename_i a vs
    obtain ⟨l⟩ := vs
    obtain ⟨u, z, rfl⟩ : ∃ u z, l = [u, z] := by
      match l, h3 with
      | [u, z], _ => exact ⟨u, z, rfl⟩
    exact ⟨a, u, z, rfl, h1, h2, h4 0 u _ rfl rfl, h4 1 z _ rfl rfl⟩
def RowP (p : Addr → Prop) (h : Heap) (vs : Array Value) (ds : List PyData) : Prop := vs.size = ds.length ∧ ∀ (i : Nat) (v : Value) (d : PyData), vs[i]? = some v → ds[i]? = some d → RdP p h v d
theorem RowP.keep {vs : Array Value} {ds : List PyData} (x : RowP p h vs ds) (k : ∀ a o, p a → h.get? a = some o → h'.get? a = some o) : RowP p h' vs ds := ⟨x.1, fun i v d e1 e2 => (x.2 i v d e1 e2).keep k⟩
theorem RowP.same {vs : Array Value} {ds : List PyData} (x : RowP p h vs ds) {c : Addr} (he : Heap.ExtBut c h h') (n : ¬ p c) : RowP p h' vs ds := ⟨x.1, fun i v d e1 e2 => (x.2 i v d e1 e2).same he n⟩
theorem RowP.nil : RowP p h #[] [] := ⟨rfl, fun i v d e1 => by simp at e1⟩
theorem RowP.snoc {vs : Array Value} {ds : List PyData} (x : RowP p h vs ds) (r : RdP p h v d) : RowP p h (vs.push v) (ds ++ [d]) := by
  refine ⟨by rw [Array.size_push, List.length_append, x.1]; rfl, fun i v' d' e1 e2 => ?_⟩
  by_cases hi : i < vs.size
  · rw [Array.getElem?_push, if_neg (by omega)] at e1
    rw [List.getElem?_append_left (by rw [← x.1]; exact hi)] at e2
    exact x.2 i v' d' e1 e2
  · rw [Array.getElem?_push] at e1
    split at e1
    · rename_i hz
      cases e1
      rw [hz, x.1, List.getElem?_append_right (Nat.le_refl _), Nat.sub_self] at e2
      cases e2
      exact r
    · rw [Array.getElem?_eq_none (by omega)] at e1; cases e1
theorem RowP.rd {vs : Array Value} {ds : List PyData} (x : RowP p h vs ds) (k : ∀ a, p a → b ≤ a) : RdAll b h vs ds := ⟨x.1, fun i v d e1 e2 => (x.2 i v d e1 e2).toRd k⟩
end
section
variable {prog : Program} {w : World} {A : Around} {R : Result → Shared → Prop} {s : Shared}
theorem compLoop_any {elt target iter : Expr} {ifs : List Expr} {scope : Scope} {pos : Pos} {it acc : Value} {env : Env} (I : Nat → Shared → Prop)
    (turn : ∀ n s, I n s → wpAny (model prog w) A (pyNext it) (fun r s₁ => match r with
      | none => R (.ok .next) s₁
      | some v => wpAny (model prog w) A (letOwnedTupleGo target it v) (fun _ s₁' => wpAny (model prog w) A (assign target env v) (fun _ s₂ =>
          wpAny (model prog w) A (forIn ifs true fun c r => if r = true then do let ok ← isTrue c env (eval c env); pure (ForInStep.yield ok) else pure (ForInStep.yield r)) (fun ok s₃ =>
            if ok = true then wpAny (model prog w) A (eval elt env) (fun x s₄ =>
              wpAny (model prog w) A (call (.builtin "list.append") [acc, x]) (fun _ s₅ => ∃ m, m < n ∧ I m s₅) (notedBy (model prog w) A env fun e s' => R (.error e) s') s₄) (notedBy (model prog w) A env fun e s' => R (.error e) s') s₃
            else ∃ m, m < n ∧ I m s₃) (notedBy (model prog w) A env fun e s' => R (.error e) s') s₂) (notedBy (model prog w) A env fun e s' => R (.error e) s') s₁') (notedBy (model prog w) A env fun e s' => R (.error e) s') s₁) (notedBy (model prog w) A env fun e s' => R (.error e) s') s)
    (n : Nat) (h : I n s) :
    codeAny (model prog w) A (.compLoop (.ListComp elt [⟨target, iter, ifs, 0⟩] scope pos) 0 it acc env) R s := by
  refine codeAny_loop rfl I (fun n s hI => ?_) n h
  show wpAny _ A ((compTurn (.ListComp elt [⟨target, iter, ifs, 0⟩] scope pos) 0 it acc env).onRaise (fun x => do noteFrame x env; theTreesLotGoes x)) _ _ s
  refine wpAny_noted ?_
  rw [compTurn_list]
  refine wpAny_bind (wpAny_standAt (wpAny_bind (wpAny_mono (turn n s hI) (fun r s₁ h₁ => ?_) fun _ _ h' => h')))
  cases r with
  | none => exact wpAny_pure h₁
  | some v =>
    refine wpAny_bind (wpAny_mono h₁ (fun _ s₁' h₁' => ?_) fun _ _ h' => h')
    refine wpAny_bind (wpAny_mono h₁' (fun _ s₂ h₂ => wpAny_bind (wpAny_mono h₂ (fun ok s₃ h₃ => ?_) fun _ _ h' => h')) fun _ _ h' => h')
    cases ok with
    | false => exact wpAny_pure ⟨rfl, h₃⟩
    | true =>
      exact wpAny_bind (wpAny_bind (wpAny_mono h₃ (fun x s₄ h₄ => wpAny_bind (wpAny_mono h₄ (fun _ s₅ h₅ => wpAny_pure (wpAny_pure ⟨rfl, h₅⟩)) fun _ _ h' => h')) fun _ _ h' => h'))
end
section
variable {w : World} {A : Around} {E : Value → Shared → Prop} {s : Shared} {env : Env}
theorem list_compU {elt target iter : Expr} {ifs : List Expr} {scope : Scope} {pos : Pos} {cl : List (Str × Addr)} {Q : Value → Shared → Prop} (hclos : closureFor scope env = pure cl)
    (hkind : scope.kind = .function) (hcell : ∀ x ∈ scope.names, x.2 ≠ .cell) (hnames : ∀ x ∈ scope.names, x.2 = .local → scope.names.lookup x.1 = some .local)
    (h : wpAny (model P w) A (eval iter env) (fun x s₁ => wpAny (model P w) A (pyIter x) (fun it s₂ =>
      (∀ (E' : Value → Shared → Prop) (Q' : Value → Shared → Prop) h', (∀ b o, s₂.heap.get? b = some o → h'.get? b = some o) → ∀ tk, Q' it { s₂ with heap := h', toks := tk } → wpAny (model P w) A (pyIter it) Q' E' { s₂ with heap := h', toks := tk }) ∧
      ∀ h' C tk, (∀ b o, s₂.heap.get? b = some o → h'.get? b = some o) → h'.get? s₂.heap.objs.size = some (lsObj #[] 0) → C = s₂.heap.objs.size + 1 → h'.Ns C (fun _ => none) →
        codeAny (model P w) A (.compLoop (.ListComp elt [⟨target, iter, ifs, 0⟩] scope pos) 0 it (.ref s₂.heap.objs.size) (cenvOf scope cl C env))
          (fun r s' => match r with | .ok _ => ∃ m, s'.heap.Ns C m ∧ ∀ h', Heap.SameBut C s'.heap h' → Q (.ref s₂.heap.objs.size) { s' with heap := h' } | .error _ => False) { s₂ with heap := h', toks := tk }) E s₁) E s)
    (hs : ∀ x, foldedSetIterable iter env x = pure x := by intro _; rfl) :
    wpAny (model P w) A (eval (.ListComp elt [⟨target, iter, ifs, 0⟩] scope pos) env) Q E s := by
  rw [eval_ListComp]
  refine wpAny_comprehension_free (use := none) rfl hs hclos hkind hnames ?_
  refine wpAny_mono h (fun x s₁ h₁ => wpAny_mono h₁ (fun it s₂ h₂ => ?_) fun _ _ z => z) fun _ _ z => z
  obtain ⟨hi, hl⟩ := h₂
  refine wpAny_newList ?_
  refine wpAny_newFunctionEnv hcell (fun _ q => (nomatch q)) (fun h' hn hsb => ?_) hkind
  have k1 : ∀ b o, s₂.heap.get? b = some o → (s₂.heap.push (lsObj #[] 0)).get? b = some o := fun b o e => Heap.get?_push_of_some _ e
  have hsz : (s₂.heap.push (lsObj #[] 0)).objs.size = s₂.heap.objs.size + 1 := Heap.size_push ..
  dsimp only at hn hsb ⊢
  have hn' : h'.Ns (s₂.heap.objs.size + 1) (fun _ => none) := by have := hn; rw [show ([] : List Value).toArray = #[] from rfl, hsz] at this; exact this
  have k2 : ∀ b o, (s₂.heap.push (lsObj #[] 0)).get? b = some o → h'.get? b = some o := fun b o e => hsb.extBut b o (Nat.ne_of_lt (Heap.lt_size e)) (Heap.get?_push_of_some _ e)
  have k := fun b o e => k2 b o (k1 b o e)
  have ea : h'.get? s₂.heap.objs.size = some (lsObj #[] 0) := k2 _ _ (Heap.get?_push_size _ rfl)
  have loop := hl h' (s₂.heap.objs.size + 1) s₂.toks k ea rfl hn'
  have fin : codeAny (model P w) A (.compLoop (.ListComp elt [⟨target, iter, ifs, 0⟩] scope pos) 0 it (.ref s₂.heap.objs.size) (cenvOf scope cl (s₂.heap.objs.size + 1) env)) (compPost (model P w) A E none Q (.ref s₂.heap.objs.size) (s₂.heap.objs.size + 1)) { s₂ with heap := h' } := by
    refine codeAny_mono loop fun r s' z => ?_
    cases r with
    | ok f => exact z
    | error e => exact z.elim
  rw [show ([] : List Value).toArray = #[] from rfl, hsz]
  refine codeAny_compStart_list fin (hi _ _ h' k s₂.toks fin)
abbrev Keep (h h' : Heap) : Prop := ∀ a o, h.get? a = some o → h'.get? a = some o
def Turned (C : Addr) (s : Shared) (h : Heap) (s' : Shared) : Prop := ∃ h' tk m, s' = ⟨h', s.gens, s.drawn, tk, s.os⟩ ∧ Heap.ExtBut C h h' ∧ h'.Ns C m
def TurnOk (w : World) (A : Around) (elt target : Expr) (ifs : List Expr) (scope : Scope) (cl : List (Str × Addr)) (env : Env) (s₁ : Shared) (l : Addr) (d : PyData) (f : PyData → Option PyData) : Prop :=
  ∀ (E : Value → Shared → Prop) (p : Addr → Prop) h' tk C mC it j v, (∀ a, C < a → p a) → ¬ p C → Keep s₁.heap h' → h'.IsListIter it l j → h'.Ns C mC → s₁.heap.get? C = none → RdP p h' v d →
    wpAny (model P w) A (letOwnedTupleGo target (.ref it) v) (fun _ s₁' => wpAny (model P w) A (assign target (cenvOf scope cl C env) v) (fun _ s₂ =>
      wpAny (model P w) A (forIn ifs true fun c r => if r = true then do let ok ← isTrue c (cenvOf scope cl C env) (eval c (cenvOf scope cl C env)); pure (ForInStep.yield ok) else pure (ForInStep.yield r)) (fun ok s₃ =>
        match f d with
        | none => ok = false ∧ Turned C s₁ h' s₃
        | some d' => ok = true ∧ wpAny (model P w) A (eval elt (cenvOf scope cl C env)) (fun u s₄ => RdP p s₄.heap u d' ∧ Turned C s₁ h' s₄) E s₃) E s₂) E s₁') E ⟨h', s₁.gens, s₁.drawn, tk, s₁.os⟩
theorem comp_rd {elt target iter : Expr} {ifs : List Expr} {scope : Scope} {pos : Pos} {cl : List (Str × Addr)} {Q : Value → Shared → Prop} (f : PyData → Option PyData) (hh : A.handled = none) (hclos : closureFor scope env = pure cl)
    (hkind : scope.kind = .function) (hcell : ∀ x ∈ scope.names, x.2 ≠ .cell) (hnames : ∀ x ∈ scope.names, x.2 = .local → scope.names.lookup x.1 = some .local)
    (h : wpAny (model P w) A (eval iter env) (fun x s₁ => ∃ a vs ds b, x = .ref a ∧ LsAt b s₁.heap a vs ds ∧ ds.length ≤ 1000 ∧ b ≤ s₁.heap.objs.size ∧ (∀ d ∈ ds, TurnOk w A elt target ifs scope cl env s₁ a d f) ∧
      ∀ h' r us tk, Keep s₁.heap h' → LsAt b h' r us (ds.filterMap f) → s₁.heap.objs.size ≤ r → Q (.ref r) ⟨h', s₁.gens, s₁.drawn, tk, s₁.os⟩) E s)
    (hs : ∀ x, foldedSetIterable iter env x = pure x := by intro _; rfl) :
    wpAny (model P w) A (eval (.ListComp elt [⟨target, iter, ifs, 0⟩] scope pos) env) Q E s := by
  refine list_compU hclos hkind hcell hnames ?_ hs
  refine wpAny_mono h (fun x s₁ z => ?_) fun _ _ z => z
  obtain ⟨a, vs, ds, b, rfl, hl, hz, hb, turn, fin⟩ := z
  clear h
  obtain ⟨h1, g1, d1, t1, o1⟩ := s₁
  dsimp only at hl hb turn fin ⊢
  refine wpAny_pyIter_list hl.ls ?_
  have fit : h1.get? h1.objs.size = none := get_fresh (Nat.le_refl _)
  have kit : Keep h1 (h1.push { cls := .type "list_iterator", data := .fields #[.ref a, .int 0 0] }) := fun _ _ e => Heap.get?_push_of_some _ e
  have hit : (h1.push { cls := .type "list_iterator", data := .fields #[.ref a, .int 0 0] }).IsListIter h1.objs.size a 0 := ⟨_, Heap.get?_push_size _ rfl, rfl, rfl⟩
  have lit : h1.objs.size < (h1.push { cls := .type "list_iterator", data := .fields #[.ref a, .int 0 0] }).objs.size := by rw [Heap.size_push]; exact Nat.lt_succ_self _
  generalize h1.push { cls := .type "list_iterator", data := .fields #[.ref a, .int 0 0] } = h2 at kit hit lit ⊢
  obtain ⟨it, eit⟩ : ∃ it, it = h1.objs.size := ⟨_, rfl⟩
  rw [← eit] at fit hit lit ⊢
  refine ⟨fun E' Q' h' k tk q => wpAny_pyIter_listiter (s := ⟨h', _, _, _, _⟩) (hit.at fun o e => k _ _ e) q, fun h5 C tk k5 eacc hC nC => ?_⟩
  dsimp only at k5 eacc hC ⊢
  obtain ⟨acc, ea⟩ : ∃ acc, acc = h2.objs.size := ⟨_, rfl⟩
  rw [← ea] at lit eacc hC ⊢
  have aC : acc < C := by rw [hC]; exact Nat.lt_succ_self _
  have iC : it < C := Nat.lt_trans lit aC
  have bit : b ≤ it := by rw [eit]; exact hb
  have lacc : h1.objs.size ≤ acc := by rw [← eit]; exact Nat.le_of_lt lit
  have facc : h1.get? acc = none := get_fresh lacc
  have fC : h1.get? C = none := get_fresh (Nat.le_trans lacc (Nat.le_of_lt aC))
  replace kit : Keep h1 h5 := fun x o e => k5 x o (kit x o e)
  replace hit : h5.IsListIter it a 0 := hit.at fun o e => k5 _ _ e
  clear k5 ea hC eit h2
  have hp : ∀ x, C < x → b ≤ x ∧ x ≠ it ∧ x ≠ acc ∧ x ≠ C := fun x l =>
    ⟨Nat.le_trans bit (Nat.le_of_lt (Nat.lt_trans iC l)), Nat.ne_of_gt (Nat.lt_trans iC l), Nat.ne_of_gt (Nat.lt_trans aC l), Nat.ne_of_gt l⟩
  have old : ∀ x o, b ≤ x → h1.get? x = some o → b ≤ x ∧ x ≠ it ∧ x ≠ acc ∧ x ≠ C := fun x o l e =>
    ⟨l, fun q => (by rw [q, fit] at e; cases e), fun q => (by rw [q, facc] at e; cases e), fun q => (by rw [q, fC] at e; cases e)⟩
  have lsat : ∀ h', Keep h1 h' → h'.IsList a vs := fun h' k => let ⟨o, e, r⟩ := hl.ls; ⟨o, k _ _ e, r⟩
  refine compLoop_any (fun n s' => ∃ (i : Nat), ∃ h' tk' mC ys ny, n + i = ds.length ∧ s' = ⟨h', g1, d1, tk', o1⟩ ∧ Keep h1 h' ∧ h'.Ns C mC ∧ h'.IsListIter it a i ∧ h'.get? acc = some (lsObj ys ny) ∧ ys.size ≤ i ∧ RowP (fun x => b ≤ x ∧ x ≠ it ∧ x ≠ acc ∧ x ≠ C) h' ys ((ds.take i).filterMap f)) ?_ ds.length
    ⟨0, h5, tk, _, #[], 0, by omega, rfl, kit, nC, hit, eacc, Nat.le_refl _, .nil⟩
  clear kit nC hit eacc h5
  rintro n s' ⟨i, h', tk', mC, ys, ny, hn, rfl, kit, nC, hit, ey, sy, row⟩
  have keepE : ∀ {c : Addr} {h' h'' : Heap}, h1.get? c = none → Keep h1 h' → Heap.ExtBut c h' h'' → Keep h1 h'' := fun fc k he x o e => he x o (fun q => by rw [q, fc] at e; cases e) (k x o e)
  cases n with
  | zero =>
    refine wpAny_pyNext_list_end hh hit (lsat _ kit) (by rw [Array.getElem?_eq_none_iff, hl.sz]; omega) (fun h4 he => ?_)
    replace kit := keepE fit kit he
    have nC4 : h4.Ns C mC := let ⟨o, es, ep, q, r⟩ := nC; ⟨o, es, ep, he _ _ (Nat.ne_of_gt iC) q, r⟩
    replace ey := he _ _ (Nat.ne_of_gt lit) ey
    replace row := row.same he (fun q => q.2.1 rfl)
    dsimp only
    refine ⟨mC, nC4, fun h6 sb6 => ?_⟩
    replace kit := keepE fC kit sb6.extBut
    replace ey := sb6.extBut _ _ (Nat.ne_of_lt aC) ey
    replace row := row.same sb6.extBut (fun q => q.2.2.2 rfl)
    rw [List.take_of_length_le (by omega)] at row
    exact fin _ _ _ _ kit ((row.rd fun x q => q.1).at ey (Nat.le_trans hb lacc)) lacc
  | succ n =>
    have hi : i < ds.length := by omega
    have hiv : i < vs.size := by rw [hl.sz]; exact hi
    refine wpAny_pyNext_list_item hit (lsat _ kit) (Array.getElem?_eq_getElem hiv) (fun h4 hit4 sb4 => ?_)
    have rv := ((hl.rd i vs[i] ds[i] (Array.getElem?_eq_getElem hiv) (List.getElem?_eq_getElem hi)).toP old).keep (h' := h') fun x o _ e => kit x o e
    replace rv := rv.same sb4.extBut (fun q => q.2.1 rfl)
    replace kit := keepE fit kit sb4.extBut
    replace nC := nC.sameBut sb4 (Nat.ne_of_gt iC)
    replace ey := sb4.extBut _ _ (Nat.ne_of_gt lit) ey
    replace row := row.same sb4.extBut (fun q => q.2.1 rfl)
    dsimp only
    clear sb4 hit h'
    have t := fun E => turn ds[i] (List.getElem_mem hi) E _ h4 tk' C mC it (i + 1) vs[i] hp (fun q => q.2.2.2 rfl) kit hit4 nC fC rv
    have tk1 : ds.take (i + 1) = ds.take i ++ [ds[i]] := by rw [List.take_add_one, List.getElem?_eq_getElem hi]; rfl
    refine wpAny_mono (t _) (fun _ s1 z1 => wpAny_mono z1 (fun _ s2 z2 => wpAny_mono z2 (fun ok s3 z3 => ?_) (fun _ _ q => q)) (fun _ _ q => q)) (fun _ _ q => q)
    clear t z1 z2 turn
    cases hf : f ds[i] with
    | none =>
      rw [hf] at z3
      obtain ⟨rfl, h6, tk6, m6, rfl, he6, n6⟩ := z3
      rw [if_neg Bool.false_ne_true]
      refine ⟨n, Nat.lt_succ_self n, i + 1, h6, tk6, m6, ys, ny, by omega, rfl, keepE fC kit he6, n6, hit4.at fun o e => he6 _ _ (Nat.ne_of_lt iC) e, he6 _ _ (Nat.ne_of_lt aC) ey, by omega, ?_⟩
      rw [tk1, List.filterMap_append, List.filterMap_cons_none hf, List.filterMap_nil, List.append_nil]
      exact row.same he6 (fun q => q.2.2.2 rfl)
    | some d' =>
      rw [hf] at z3
      obtain ⟨rfl, z4⟩ := z3
      rw [if_pos rfl]
      refine wpAny_mono z4 (fun u s4 z5 => ?_) (fun _ _ q => q)
      obtain ⟨ru, h6, tk6, m6, rfl, he6, n6⟩ := z5
      dsimp only at ru
      replace row := (row.same he6 (fun q => q.2.2.2 rfl)).snoc ru
      refine append_raw (he6 _ _ (Nat.ne_of_lt aC) ey) (by omega) (fun h7 n7 e7 sb7 => ?_)
      dsimp only
      refine ⟨n, Nat.lt_succ_self n, i + 1, h7, tk6, m6, ys.push u, n7, by omega, rfl, keepE facc (keepE fC kit he6) sb7.extBut, n6.sameBut sb7 (Nat.ne_of_gt aC), hit4.at fun o e => sb7.extBut _ _ (Nat.ne_of_lt lit) (he6 _ _ (Nat.ne_of_lt iC) e), e7, by rw [Array.size_push]; omega, ?_⟩
      rw [tk1, List.filterMap_append, List.filterMap_cons_some hf, List.filterMap_nil]
      exact row.same sb7.extBut (fun q => q.2.2.1 rfl)
theorem Turned.back {C : Addr} {s : Shared} {h h' : Heap} {s' : Shared} (x : Turned C s h' s') (he : Heap.ExtBut C h h') : Turned C s h s' := by
  obtain ⟨h'', tk, m, rfl, e, n⟩ := x
  exact ⟨h'', tk, m, rfl, fun b o z q => e b o z (he b o z q), n⟩
theorem TurnOk.pair {elt : Expr} {x y : Str} {px py pos : Pos} {ifs : List Expr} {scope : Scope} {cl : List (Str × Addr)} {s₁ : Shared} {l k : Nat} {dx dy : PyData} {f : PyData → Option PyData} (hh : A.handled = none)
    (hk : scope.kind = .function) (hx : ∀ C, (cenvOf scope cl C env).kindOf x = some .local) (hy : ∀ C, (cenvOf scope cl C env).kindOf y = some .local) (xy : x ≠ y)
    (h : ∀ (E : Value → Shared → Prop) (p : Addr → Prop) h' tk C m u z, (∀ a, C < a → p a) → ¬ p C → Keep s₁.heap h' → h'.Ns C m → s₁.heap.get? C = none → m x = some u → m y = some z → RdP p h' u dx → RdP p h' z dy →
      wpAny (model P w) A (forIn ifs true fun c r => if r = true then do let ok ← isTrue c (cenvOf scope cl C env) (eval c (cenvOf scope cl C env)); pure (ForInStep.yield ok) else pure (ForInStep.yield r)) (fun ok s₃ =>
        match f (.tuple [dx, dy]) with
        | none => ok = false ∧ Turned C s₁ h' s₃
        | some d' => ok = true ∧ wpAny (model P w) A (eval elt (cenvOf scope cl C env)) (fun u s₄ => RdP p s₄.heap u d' ∧ Turned C s₁ h' s₄) E s₃) E ⟨h', s₁.gens, s₁.drawn, tk, s₁.os⟩) :
    TurnOk w A elt (.Tuple [.Name x px, .Name y py] k pos) ifs scope cl env s₁ l (.tuple [dx, dy]) f := by
  intro E p h' tk C mC it j v hp hC kp hit nC fC rv
  obtain ⟨ta, u, z, rfl, pa, ht, ru, rz⟩ := rv.pairE
  refine wpAny_letOwnedTupleGo_listiter (s := ⟨h', _, _, _, _⟩) hit ?_
  refine assign_Tuple_tuple (s := ⟨h', _, _, _, _⟩) hh ht rfl rfl (fun h5 he5 => ?_)
  dsimp only at he5 ⊢
  have hk' : ∀ C, ((cenvOf scope cl C env).scope.kind == .class || ((cenvOf scope cl C env).scope.kind == .module && (cenvOf scope cl C env).locals != (cenvOf scope cl C env).globals)) = false := fun C => by
    show (scope.kind == .class || (scope.kind == .module && _)) = false
    rw [hk]; rfl
  have e5 : Keep h' h5 := fun b o q => he5 b o (Nat.ne_of_lt (Heap.lt_size q)) q
  have n5 : h5.Ns C mC := let ⟨o, es, ep, q, r⟩ := nC; ⟨o, es, ep, e5 _ _ q, r⟩
  refine wpAny_assignInOrder_more ?_
  refine wpAny_assign_Name ?_
  refine wpAny_storeName_local (s := ⟨h5, _, _, _, _⟩) (hx C) n5 (fun h6 n6 s6 => ?_) (hk' C)
  dsimp only at n6 s6 ⊢
  refine wpAny_assignInOrder_more ?_
  refine wpAny_assign_Name ?_
  refine wpAny_storeName_local (s := ⟨h6, _, _, _, _⟩) (hy C) n6 (fun h7 n7 s7 => ?_) (hk' C)
  dsimp only at n7 s7 ⊢
  refine wpAny_assignInOrder_none ?_
  have e7 : Heap.ExtBut C h' h7 := fun b o q e => s7.extBut b o q (s6.extBut b o q (e5 b o e))
  refine wpAny_mono (h E p h7 _ C _ u z hp hC (fun b o e => e7 b o (fun q => by rw [q, fC] at e; cases e) (kp b o e)) n7 fC (by rw [if_neg xy, if_pos rfl]) (by rw [if_pos rfl]) (ru.same e7 hC) (rz.same e7 hC)) (fun ok s₃ z => ?_) fun _ _ q => q
  cases hf : f (.tuple [dx, dy]) with
  | none => rw [hf] at z; exact ⟨z.1, z.2.back e7⟩
  | some d' =>
    rw [hf] at z
    exact ⟨z.1, wpAny_mono z.2 (fun _ _ q => ⟨q.1, q.2.back e7⟩) fun _ _ q => q⟩
end
end Mine
end
section
open PySem PySem.W PySem.W.X PyProof.Rows PySem.Calls
set_option maxRecDepth 100000
set_option maxHeartbeats 400000
namespace Mine
local macro_rules | `(tactic| walk_at "nl") => `(tactic| refine name_local (Me.ns (by assumption)) (by first | assumption | rfl) ?_)
def dk (ps : List (Str × Int)) : List Str := ps.foldl (fun l p => if p.1 ∈ l then l else l ++ [p.1]) []
def valsOf (ps : List (Str × Int)) (k : Str) : List Int := (ps.filter fun p => decide (p.1 = k)).map (·.2)
def grpd (ps : List (Str × Int)) : Grp := (dk ps).map fun k => (k, valsOf ps k)
abbrev grpD (p : Str × List Int) : PyData := .tuple [.str p.1, .list (p.2.map .int)]
theorem dk_snoc (ps : List (Str × Int)) (p : Str × Int) : dk (ps ++ [p]) = if p.1 ∈ dk ps then dk ps else dk ps ++ [p.1] := by unfold dk; rw [List.foldl_append]; rfl
theorem dk_len (ps : List (Str × Int)) : (dk ps).length ≤ ps.length := by
  have key : ∀ (l : List (Str × Int)) (g : List Str), (l.foldl (fun l p => if p.1 ∈ l then l else l ++ [p.1]) g).length ≤ g.length + l.length := by
    intro l
    induction l with
    | nil => intro g; simp
    | cons p l ih =>
      intro g
      have := ih (if p.1 ∈ g then g else g ++ [p.1])
      have h2 : (if p.1 ∈ g then g else g ++ [p.1]).length ≤ g.length + 1 := by split <;> simp
      simp only [List.foldl_cons, List.length_cons] at *; omega
  simpa [dk] using key ps []
def firstOf : PyData → Option PyData
  | .tuple [k, _] => some k
  | _ => none
def sndIf (k : Str) : PyData → Option PyData
  | .tuple [.str k', v] => if k' = k then some v else none
  | _ => none
theorem first_grp (g : List (Str × List Int)) : (g.map grpD).filterMap firstOf = (g.map (·.1)).map .str := by
  induction g with
  | nil => rfl
  | cons p g ih => rw [List.map_cons, List.filterMap_cons_some (show firstOf (grpD p) = some (.str p.1) from rfl), ih]; rfl
theorem snd_vals (ps : List (Str × Int)) (k : Str) : (ps.map pairD).filterMap (sndIf k) = (valsOf ps k).map .int := by
  induction ps with
  | nil => rfl
  | cons p g ih =>
    by_cases h : p.1 = k
    · rw [List.map_cons, List.filterMap_cons_some (show sndIf k (pairD p) = some (.int p.2) by unfold sndIf pairD; simp [h]), ih]
      simp [valsOf, h]
    · rw [List.map_cons, List.filterMap_cons_none (show sndIf k (pairD p) = none by unfold sndIf pairD; simp [h]), ih]
      simp [valsOf, h]
theorem strs_of {b : Addr} {h : Heap} : ∀ {l : List Value} {ks : List Str}, RdAll b h l.toArray (ks.map .str) → StrsAre l ks
  | [], [], _ => .nil
  | v :: l, k :: ks, r => by
    obtain ⟨t, rfl⟩ := (r.2 0 v (.str k) rfl rfl).strE
    exact .cons k t (strs_of ⟨by have := r.1; simpa using this, fun i v d e1 e2 => r.2 (i + 1) v d (by simpa using e1) (by simpa using e2)⟩)
  | [], _ :: _, r => by have := r.1; simp at this
  | _ :: _, [], r => by have := r.1; simp at this
theorem LsAt.ints {b c : Addr} {h : Heap} {a : Addr} {vs : Array Value} {ns : List Int} (x : LsAt b h a vs (ns.map .int)) (l : c ≤ a) : LsAt c h a vs (ns.map .int) :=
  ⟨l, x.ls, x.sz, fun i v d e1 e2 => by
    have r := x.rd i v d e1 e2
    rw [List.getElem?_map] at e2
    cases e : ns[i]? with
    | none => rw [e] at e2; cases e2
    | some n => rw [e] at e2; cases e2; obtain ⟨t, rfl⟩ := r.intE; exact .int _ _⟩
theorem grouped_spec {w : World} {A : Around} {s : Shared} {R : Result → Shared → Prop} {r b0 : Addr} {vs : Array Value} {ps : List (Str × Int)} (hA : Rm 490 A) (hh : A.handled = none) (T : TopH w s.heap)
    (hl : LsAt b0 s.heap r vs (ps.map pairD)) (hz : ps.length ≤ 200) (hb0 : b0 ≤ s.heap.objs.size)
    (hR : ∀ h' tk r' us, Ext [] s.heap h' → LsAt s.heap.objs.size h' r' us ((grpd ps).map grpD) → R (.ok (.ret (.ref r'))) ⟨h', s.gens, s.drawn, tk, s.os⟩) :
    codeAny (model P w) A (.call (.ref 584) ⟨[.ref r], []⟩) R s := by
  refine enterC [(Str.ofString "pairs", .ref r)] hA T (by rfl) (by rfl) (by rfl) (by rfl) (by rfl) (by rfl) (fun x q => by rw [List.mem_singleton.mp q]; exact .inl (by rfl)) fun h₁ tk0 D X hA' hh' => ?_
  replace hh' := hh'.trans hh
  have C : h₁.IsCell (s.heap.objs.size + 1) none := X (Str.ofString "key") (s.heap.objs.size + 1) rfl
  have fC : s.heap.get? (s.heap.objs.size + 1) = none := get_fresh (Nat.le_succ _)
  clear X
  refine wpAny_execs_cons ?_
  refine wpAny_Assign_Name ?_
  refine wpAny_List ?_
  refine wpAny_items_nil ?_
  refine ⟨by show (0 : Nat) ≤ sizeLine; decide, ?_⟩
  try dsimp only
  have efd : (h₁.push (lsObj #[] 0)).get? h₁.objs.size = some (lsObj #[] 0) := Heap.get?_push_size _ rfl
  have ffd : s.heap.get? h₁.objs.size = none := D.fresh
  have nfd : s.heap.objs.size ≠ h₁.objs.size := Nat.ne_of_lt D.ns.lt
  have Cfd : s.heap.objs.size + 1 < h₁.objs.size := by obtain ⟨o, e, _⟩ := C; exact Heap.lt_size e
  replace D := D.call (Ext.push h₁ (lsObj #[] 0))
  replace C := (Ext.push h₁ (lsObj #[] 0)).cell C List.not_mem_nil
  generalize h₁.objs.size = fd at efd ffd nfd Cfd ⊢
  generalize h₁.push (lsObj #[] 0) = h2 at D C efd ⊢
  refine wpAny_storeName_local rfl D.ns (fun h3 hn hs => ?_) rfl
  replace D := D.store hn hs
  replace C := cell_keeps C hs.extBut (Nat.ne_of_gt (Nat.lt_succ_self _))
  replace efd := hs.extBut _ _ (Ne.symm nfd) efd
  try dsimp only
  clear hn hs h2 h₁
  refine wpAny_execs_cons ?_
  refine wpAny_For ?_
  walk_at "nl"
  have hl1 := hl.ext D.ext (by simp)
  refine wpAny_pyIter_list hl1.ls ?_
  have fit : s.heap.get? h3.objs.size = none := D.fresh
  have nit : s.heap.objs.size ≠ h3.objs.size := Nat.ne_of_lt D.ns.lt
  have fdit : fd < h3.objs.size := Heap.lt_size efd
  have hit : (h3.push { cls := .type "list_iterator", data := .fields #[.ref r, .int 0 0] }).IsListIter h3.objs.size r 0 := ⟨_, Heap.get?_push_size _ rfl, rfl, rfl⟩
  replace D := D.call (Ext.push h3 { cls := .type "list_iterator", data := .fields #[.ref r, .int 0 0] })
  replace C := (Ext.push h3 { cls := .type "list_iterator", data := .fields #[.ref r, .int 0 0] }).cell C List.not_mem_nil
  replace efd := Heap.get?_push_of_some { cls := .type "list_iterator", data := .fields #[.ref r, .int 0 0] } efd
  generalize h3.objs.size = it at fit nit fdit hit ⊢
  generalize h3.push { cls := .type "list_iterator", data := .fields #[.ref r, .int 0 0] } = h4 at D C efd hit ⊢
  try dsimp only
  clear hl1 h3
  have Cit : s.heap.objs.size + 1 < it := Nat.lt_trans Cfd fdit
  have sit : s.heap.objs.size < it := Nat.lt_of_succ_lt Cit
  refine codeAny_forLoop_any (fun n s' => ∃ (i : Nat), ∃ h' tk m kv xs nx, n + i = ps.length ∧ s' = ⟨h', s.gens, s.drawn, tk, s.os⟩ ∧ Me [] s.heap h' s.heap.objs.size m [] ∧ m "pairs" = some (.ref r) ∧ m "found" = some (.ref fd) ∧
    h'.IsCell (s.heap.objs.size + 1) kv ∧ h'.IsListIter it r i ∧ h'.get? fd = some (lsObj xs nx) ∧ RdAll (it + 1) h' xs (((dk (ps.take i)).map fun k => (k, valsOf ps k)).map grpD)) ?_ ps.length
    ⟨0, h4, _, _, _, #[], 0, by omega, rfl, D, by rfl, by rfl, C, hit, efd, .nil⟩
  clear D C hit efd h4
  rintro n s' ⟨i, h', tk, m, kv, xs, nx, hn, rfl, D, mp, mf, C, hit, efd, row⟩
  have hl3 := hl.ext D.ext (by simp)
  cases n with
  | zero =>
    refine wpAny_pyNext_list_end hh' hit hl3.ls (by rw [Array.getElem?_eq_none_iff, hl3.sz, List.length_map]; omega) (fun h4 he => ?_)
    replace D := D.ownE he fit nit
    replace efd := he _ _ (Nat.ne_of_lt fdit) efd
    replace row := row.same he (Nat.lt_succ_self _)
    try dsimp only
    refine wpAny_execs_nil ?_
    refine wpAny_execs_cons ?_
    refine wpAny_Return_some ?_
    refine name_local D.ns mf ?_
    rw [List.take_of_length_le (by omega)] at row
    exact hR _ _ _ _ D.ext ((row.mono (Nat.le_of_lt (Nat.lt_succ_of_lt sit))).at efd (Nat.le_of_lt (Nat.lt_of_succ_lt Cfd)))
  | succ n =>
    have hi : i < ps.length := by omega
    obtain ⟨v, hv, rv⟩ := hl3.item (i := i) (d := pairD ps[i]) (by rw [List.getElem?_map, List.getElem?_eq_getElem hi]; rfl)
    refine wpAny_pyNext_list_item hit hl3.ls hv (fun h4 hit4 sb4 => ?_)
    obtain ⟨ta, u, z, rfl, hb, ht, ru, rz⟩ := rv.pairE
    obtain ⟨tu, rfl⟩ := ru.strE
    obtain ⟨tz, rfl⟩ := rz.intE
    replace D := D.ownE sb4.extBut fit nit
    have ht4 := (show IsTup h4 ta _ from let ⟨o, ho, hc, hd⟩ := ht; ⟨o, (sb4.2 ta (fun q => by obtain ⟨o', ho', hc', _⟩ := hit; rw [← q, ho] at ho'; cases ho'; rw [hc] at hc'; exact nomatch hc')).trans ho, hc, hd⟩)
    replace C := cell_keeps C sb4.extBut (Nat.ne_of_lt Cit)
    replace efd := sb4.extBut _ _ (Nat.ne_of_lt fdit) efd
    replace row := row.same sb4.extBut (Nat.lt_succ_self _)
    clear hit ht hl3 rv sb4
    refine wpAny_letOwnedTupleGo_listiter hit4 ?_
    refine assign_Tuple_tuple hh' ht4 rfl rfl (fun h5 he5 => ?_)
    try dsimp only at he5 ⊢
    have k5 : Keep h4 h5 := fun b o q => he5 b o (Nat.ne_of_lt (Heap.lt_size q)) q
    replace D := D.call (Ext.of_keeps k5)
    replace C := (Ext.of_keeps k5).cell C List.not_mem_nil
    replace efd := k5 _ _ efd
    replace row := row.keep fun a o _ e => k5 a o e
    have hit5 := hit4.at fun o e => k5 _ _ e
    clear hit4 ht4 he5 k5
    refine wpAny_assignInOrder_more ?_
    refine wpAny_assign_Name ?_
    refine wpAny_storeName_cell rfl rfl (c := s.heap.objs.size + 1) rfl C (fun h6 C6 sb6 => ?_)
    replace D := D.ownE sb6.extBut fC (Nat.ne_of_lt (Nat.lt_succ_self _))
    replace efd := sb6.extBut _ _ (Nat.ne_of_gt Cfd) efd
    replace row := row.same sb6.extBut (Nat.lt_succ_of_lt Cit)
    have hit6 := hit5.at fun o e => sb6.extBut _ _ (Nat.ne_of_gt Cit) e
    try dsimp only
    clear hit5 C sb6
    refine wpAny_assignInOrder_more ?_
    refine wpAny_assign_Name ?_
    refine wpAny_storeName_local rfl D.ns (fun h7 hn7 hs7 => ?_) rfl
    replace D := D.store hn7 hs7
    replace C6 := cell_keeps C6 hs7.extBut (Nat.ne_of_gt (Nat.lt_succ_self _))
    replace efd := hs7.extBut _ _ (Ne.symm nfd) efd
    replace row := row.same hs7.extBut (Nat.lt_succ_of_lt sit)
    have hit7 := hit6.at fun o e => hs7.extBut _ _ (Ne.symm nit) e
    try dsimp only
    clear hn7 hs7 hit6
    refine wpAny_assignInOrder_none ?_
    have lrow := row.1
    rw [List.length_map, List.length_map] at lrow
    have ldk := dk_len (ps.take i)
    rw [List.length_take] at ldk
    refine wpAny_execs_cons ?_
    refine wpAny_If ?_
    refine wpAny_isTrue_Compare1 ?_
    refine wpAny_Name (wpAny_loadName_cell rfl rfl (c := s.heap.objs.size + 1) rfl C6 ?_) (by decide)
    refine comp_rd (cl := []) firstOf hh' (by rfl) rfl (by decide) (by decide) ?_
    refine name_local D.ns (by rw [if_neg (by decide)]; exact mf) ?_
    refine ⟨fd, xs, _, s.heap.objs.size, rfl, (row.mono (Nat.le_of_lt (Nat.lt_succ_of_lt sit))).at efd (Nat.le_of_lt (Nat.lt_of_succ_lt Cfd)), by rw [List.length_map, List.length_map]; omega, Nat.le_of_lt D.ns.lt, fun d hd => ?_, ?_⟩
    · obtain ⟨p, _, rfl⟩ := List.mem_map.mp hd
      refine TurnOk.pair hh' rfl (fun _ => by rfl) (fun _ => by rfl) (by decide) fun E p' h' tk C m u z hp hC kp nC fC mx my ru rz => ?_
      refine wpAny_tests_nil ⟨rfl, ?_⟩
      refine name_local nC mx ?_
      exact ⟨ru, _, _, _, rfl, fun _ _ _ e => e, nC⟩
    intro h8 r8 us8 tk8 k8 l8 b8
    try dsimp only at k8 b8 ⊢
    rw [first_grp, List.map_map] at l8
    have hst8 : StrsAre us8.toList (dk (ps.take i)) := strs_of (b := s.heap.objs.size) ⟨by rw [Array.toArray_toList, l8.sz]; simp, fun j v d e1 e2 => l8.rd j v d (by simpa using e1) (by rw [List.getElem?_map] at e2 ⊢; simpa using e2)⟩
    refine notin_list_strs (vs := us8.toList) (ys := dk (ps.take i)) (by rw [Array.toArray_toList]; exact l8.ls) hst8 ?_
    refine wpAny_truthy_bool ?_
    replace D := D.call (.of_keeps k8)
    replace C6 := (Ext.of_keeps k8).cell C6 List.not_mem_nil
    replace efd := k8 _ _ efd
    replace row := row.keep fun a o _ e => k8 a o e
    have hit8 := hit7.at fun o e => k8 _ _ e
    clear k8 l8 b8 hst8 hit7 h7
    have hps : ps.take (i + 1) = ps.take i ++ [ps[i]] := by rw [List.take_succ_eq_append_getElem hi]
    by_cases hk : ps[i].1 ∈ dk (ps.take i)
    · rw [if_neg (by simpa using hk)]
      refine wpAny_execs_nil ?_
      try dsimp only
      refine wpAny_execs_nil ?_
      try dsimp only
      refine ⟨n, Nat.lt_succ_self n, i + 1, h8, _, _, _, xs, nx, by omega, rfl, D, ?_, ?_, C6, hit8, efd, ?_⟩
      · rw [if_neg (by decide)]; exact mp
      · rw [if_neg (by decide)]; exact mf
      · rw [hps, dk_snoc, if_pos hk]; exact row
    · rw [if_pos (by simp only [Bool.not_eq_true', List.any_eq_false, beq_iff_eq]; exact fun y hy q => hk (q ▸ hy))]
      refine wpAny_execs_cons ?_
      refine wpAny_Expr_any ?_
      refine wpAny_Call_method rfl rfl rfl PySem.F.plainAttrs_list PySem.F.slot_list_append PySem.F.type_list_append ?_
      refine name_local D.ns (by rw [if_neg (by decide)]; exact mf) ?_
      refine ⟨⟨_, efd, rfl⟩, fun a e => by cases e; exact ⟨_, efd, rfl⟩, ?_⟩
      refine call_bi ?_
      refine wpAny_items_cons ?_
      refine Tuple_ ?_
      refine wpAny_items_cons ?_
      refine wpAny_Name (wpAny_loadName_cell rfl rfl (c := s.heap.objs.size + 1) rfl C6 ?_) (by decide)
      refine wpAny_items_cons ?_
      refine comp_rd (cl := [(Str.ofString "key", s.heap.objs.size + 1)]) (sndIf ps[i].1) hh' (by rfl) rfl (by decide) (by decide) ?_
      refine name_local D.ns (by rw [if_neg (by decide)]; exact mp) ?_
      refine ⟨r, vs, _, b0, rfl, hl.ext D.ext (by simp), by rw [List.length_map]; omega, Nat.le_trans hb0 (Nat.le_of_lt D.ns.lt), fun d hd => ?_, ?_⟩
      · obtain ⟨p, _, rfl⟩ := List.mem_map.mp hd
        refine TurnOk.pair hh' rfl (fun _ => by rfl) (fun _ => by rfl) (by decide) fun E p' h' tk C m u z hp hC kp nC fC mx my ru rz => ?_
        obtain ⟨t1, rfl⟩ : ∃ t1, u = .str p.1 t1 := by cases ru; exact ⟨_, rfl⟩
        refine wpAny_tests_one ?_
        refine wpAny_isTrue_Compare1 ?_
        refine name_local nC mx ?_
        refine wpAny_Name (wpAny_loadName_cell rfl rfl (c := s.heap.objs.size + 1) rfl ((Ext.of_keeps kp).cell C6 List.not_mem_nil) ?_) (by decide)
        refine PyProof.Rows.eq_str ?_
        refine wpAny_truthy_bool ?_
        by_cases he : p.1 = ps[i].1
        · rw [show sndIf ps[i].1 (pairD p) = some (.int p.2) by unfold sndIf; simp only [if_pos he]]
          refine ⟨by simpa using he, ?_⟩
          refine name_local nC my ?_
          exact ⟨rz, _, _, _, rfl, fun _ _ _ e => e, nC⟩
        · rw [show sndIf ps[i].1 (pairD p) = none by unfold sndIf; simp only [if_neg he]]
          exact ⟨by simpa using he, _, _, _, rfl, fun _ _ _ e => e, nC⟩
      intro h9 r9 us9 tk9 k9 l9 b9
      try dsimp only at k9 b9 ⊢
      rw [snd_vals] at l9
      have r9it : it + 1 ≤ r9 := Nat.le_trans (by obtain ⟨o, e, _⟩ := hit8; exact Nat.succ_le_of_lt (Heap.lt_size e)) b9
      replace l9 := l9.ints r9it
      replace D := D.call (.of_keeps k9)
      replace C6 := (Ext.of_keeps k9).cell C6 List.not_mem_nil
      replace efd := k9 _ _ efd
      replace row := row.keep fun a o _ e => k9 a o e
      have hit9 := hit8.at fun o e => k9 _ _ e
      clear k9 b9 hit8 h8
      refine wpAny_items_nil ?_
      refine wpAny_newObj_type ?_ (by show (2 : Nat) ≤ sizeLine; decide)
      try dsimp only
      refine wpAny_items_nil ?_
      have lit9 : it + 1 ≤ h9.objs.size := by obtain ⟨o, e, _⟩ := hit9; exact Nat.succ_le_of_lt (Heap.lt_size e)
      have ex9 := Ext.push h9 { cls := .type "tuple", data := .seq #[.str ps[i].1 tu, .ref r9] }
      have rp : Rd (it + 1) (h9.push { cls := .type "tuple", data := .seq #[.str ps[i].1 tu, .ref r9] }) (.ref h9.objs.size) (grpD (ps[i].1, valsOf ps ps[i].1)) := by
        refine .tup lit9 ⟨_, Heap.get?_push_size _ rfl, rfl, 0, rfl⟩ rfl (fun i v d e1 e2 => ?_)
        match i with
        | 0 => cases e1; cases e2; exact .str _ _
        | 1 => cases e1; cases e2; exact l9.rdl.ext0 ex9
        | i + 2 => simp at e1
      replace D := D.call ex9
      replace C6 := ex9.cell C6 List.not_mem_nil
      replace efd := ex9.get efd rfl List.not_mem_nil
      replace row := (row.ext ex9 (fun a q => nomatch q)).snoc rp
      have hit10 := hit9.at fun o e => Heap.get?_push_of_some { cls := .type "tuple", data := .seq #[.str ps[i].1 tu, .ref r9] } e
      generalize h9.objs.size = ta9 at row ⊢
      generalize h9.push { cls := .type "tuple", data := .seq #[.str ps[i].1 tu, .ref r9] } = h10 at D C6 efd row hit10 ⊢
      clear rp ex9 lit9 l9 hit9 h9
      refine append_raw efd (by omega) (fun h11 n11 e11 sb11 => ?_)
      try dsimp only
      refine wpAny_execs_nil ?_
      try dsimp only
      refine wpAny_execs_nil ?_
      try dsimp only
      refine ⟨n, Nat.lt_succ_self n, i + 1, h11, _, _, _, _, n11, by omega, rfl, D.sb sb11 ffd nfd, ?_, ?_, cell_keeps C6 sb11.extBut (Nat.ne_of_lt Cfd), hit10.at fun o e => (sb11.2 _ (Nat.ne_of_gt fdit)).trans e, e11, ?_⟩
      · rw [if_neg (by decide)]; exact mp
      · rw [if_neg (by decide)]; exact mf
      · rw [hps, dk_snoc, if_neg hk, List.map_append, List.map_append]
        exact row.same sb11.extBut (Nat.lt_succ_of_lt fdit)
end Mine
end
section
open PySem PySem.W PySem.W.X PyProof.Rows PySem.Calls
namespace Mine
theorem vals_snoc (ps : List (Str × Int)) (k k' : Str) (n : Int) : valsOf (ps ++ [(k, n)]) k' = valsOf ps k' ++ if k = k' then [n] else [] := by
  unfold valsOf
  rw [List.filter_append, List.map_append]
  by_cases h : k = k' <;> simp [h]
theorem vals_append (ps qs : List (Str × Int)) (k : Str) : valsOf (ps ++ qs) k = valsOf ps k ++ valsOf qs k := by
  unfold valsOf; rw [List.filter_append, List.map_append]
theorem snoc_ind {α : Type} {p : List α → Prop} (h0 : p []) (h1 : ∀ l a, p l → p (l ++ [a])) : ∀ l, p l := by
  intro l
  have : ∀ n (l : List α), l.length = n → p l := by
    intro n
    induction n with
    | zero => intro l h; rw [List.length_eq_zero_iff.mp h]; exact h0
    | succ n ih =>
      intro l h
      have hne : l ≠ [] := fun q => by rw [q] at h; cases h
      rw [← List.dropLast_concat_getLast hne]
      exact h1 _ _ (ih _ (by rw [List.length_dropLast, h]; rfl))
  exact this _ l rfl
theorem mem_dk (ps : List (Str × Int)) (k : Str) : k ∈ dk ps ↔ ∃ n, (k, n) ∈ ps := by
  induction ps using snoc_ind with
  | h0 => simp [dk]
  | h1 l a ih =>
    rw [dk_snoc]
    obtain ⟨a, n⟩ := a
    dsimp only
    by_cases h : a ∈ dk l
    · rw [if_pos h, ih]
      constructor
      · rintro ⟨m, hm⟩; exact ⟨m, List.mem_append_left _ hm⟩
      · rintro ⟨m, hm⟩
        rcases List.mem_append.mp hm with hm | hm
        · exact ⟨m, hm⟩
        · have e := List.mem_singleton.mp hm
          cases e
          exact ih.mp h
    · rw [if_neg h, List.mem_append, ih, List.mem_singleton]
      constructor
      · rintro (⟨m, hm⟩ | rfl)
        · exact ⟨m, List.mem_append_left _ hm⟩
        · exact ⟨n, List.mem_append_right _ (.head _)⟩
      · rintro ⟨m, hm⟩
        rcases List.mem_append.mp hm with hm | hm
        · exact .inl ⟨m, hm⟩
        · have e := List.mem_singleton.mp hm
          cases e
          exact .inr rfl
theorem dk_nodup (ps : List (Str × Int)) : (dk ps).Nodup := by
  induction ps using snoc_ind with
  | h0 => simp [dk]
  | h1 l a ih =>
    rw [dk_snoc]
    split
    · exact ih
    · rename_i h
      exact List.nodup_append.mpr ⟨ih, by simp, fun x hx y hy q => h (by rw [← List.mem_singleton.mp hy, ← q]; exact hx)⟩
theorem vals_none {ps : List (Str × Int)} {k : Str} (h : k ∉ dk ps) : valsOf ps k = [] := by
  unfold valsOf
  rw [List.filter_eq_nil_iff.mpr, List.map_nil]
  intro p hp
  simp only [decide_eq_true_eq]
  rintro rfl
  exact h ((mem_dk ps _).mpr ⟨p.2, hp⟩)
theorem vals_some {ps : List (Str × Int)} {k : Str} (h : k ∈ dk ps) : valsOf ps k ≠ [] := by
  obtain ⟨n, hn⟩ := (mem_dk ps k).mp h
  unfold valsOf
  intro q
  have := List.map_eq_nil_iff.mp q
  rw [List.filter_eq_nil_iff] at this
  exact this _ hn (by simp)
theorem grpd_keys (ps : List (Str × Int)) : (grpd ps).map (·.1) = dk ps := by unfold grpd; rw [List.map_map]; exact List.map_id _
theorem grp_grpd (ps : List (Str × Int)) : grp ps = grpd ps := by
  induction ps using snoc_ind with
  | h0 => rfl
  | h1 l a ih =>
    obtain ⟨k, n⟩ := a
    rw [grp_snoc, ih]
    unfold addTo
    rw [grpd_keys]
    unfold grpd
    rw [dk_snoc]
    dsimp only
    by_cases h : k ∈ dk l
    · rw [if_pos h, if_pos h, List.map_map]
      refine List.map_congr_left fun k' hk' => ?_
      simp only [Function.comp]
      rw [vals_snoc]
      by_cases e : k' = k
      · rw [if_pos e, if_pos e.symm]
      · rw [if_neg e, if_neg (Ne.symm e), List.append_nil]
    · rw [if_neg h, if_neg h, List.map_append]
      congr 1
      · refine List.map_congr_left fun k' hk' => ?_
        have ne : k ≠ k' := fun e => h (by rw [e]; exact hk')
        rw [vals_snoc, if_neg ne, List.append_nil]
      · rw [List.map_singleton, vals_snoc, if_pos rfl, vals_none h]; rfl
theorem find_map {α : Type} (f : Str → α) (k : Str) : ∀ l : List Str, (l.map fun k => (k, f k)).find? (fun p => decide (p.1 = k)) = if k ∈ l then some (k, f k) else none
  | [] => rfl
  | x :: l => by
    rw [List.map_cons, List.find?_cons]
    by_cases h : x = k
    · subst h; simp
    · rw [show decide ((x, f x).1 = k) = false from decide_eq_false h]
      simp only [find_map f k l, List.mem_cons, Ne.symm h, false_or]
theorem look_grp (ps : List (Str × Int)) (k : Str) : look (grp ps) k = valsOf ps k := by
  rw [grp_grpd]
  unfold look grpd
  rw [find_map]
  by_cases h : k ∈ dk ps
  · rw [if_pos h]; rfl
  · rw [if_neg h, vals_none h]; rfl
def un (g : Grp) : List (Str × Int) := g.flatMap fun p => p.2.map fun n => (p.1, n)
theorem vals_un (ps : List (Str × Int)) (k : Str) : valsOf (un (grpd ps)) k = valsOf ps k := by
  have key : ∀ (l : List Str), l.Nodup → valsOf (un (l.map fun k => (k, valsOf ps k))) k = if k ∈ l then valsOf ps k else [] := by
    intro l
    induction l with
    | nil => intro _; rfl
    | cons x l ih =>
      intro hn
      obtain ⟨hx, hl⟩ := List.nodup_cons.mp hn
      unfold un at ih ⊢
      rw [List.map_cons, List.flatMap_cons, vals_append, ih hl]
      have e : valsOf ((valsOf ps x).map fun n => (x, n)) k = if x = k then valsOf ps x else [] := by
        generalize valsOf ps x = ns
        induction ns with
        | nil => split <;> rfl
        | cons n ns ih2 =>
          unfold valsOf at ih2 ⊢
          rw [List.map_cons, List.filter_cons]
          by_cases h : x = k
          · rw [if_pos (decide_eq_true h), List.map_cons, ih2, if_pos h, if_pos h]
          · rw [if_neg (by simpa using h), ih2, if_neg h, if_neg h]
      rw [e]
      by_cases h : x = k
      · subst h; simp [hx]
      · rw [if_neg h, List.nil_append]
        simp [Ne.symm h]
  unfold grpd
  rw [key _ (dk_nodup ps)]
  by_cases h : k ∈ dk ps
  · rw [if_pos h]
  · rw [if_neg h, vals_none h]
def plainOf (rows : List (List (Str × Int))) : List (Str × Int) := rows.flatMap fun r => un (grpd r)
theorem own_plain (rows : List (List (Str × Int))) (k : Str) : own (rows.map grp) k = valsOf (plainOf rows) k := by
  induction rows with
  | nil => rfl
  | cons r rows ih =>
    unfold own at ih ⊢
    rw [List.map_cons, List.map_cons, List.flatten_cons, look_grp, ih]
    unfold plainOf
    rw [List.flatMap_cons, vals_append, vals_un]
theorem anyHas_plain (rows : List (List (Str × Int))) (k : Str) : anyHas (rows.map grp) k = decide (valsOf (plainOf rows) k ≠ []) := by
  rw [← own_plain]
  cases h : anyHas (rows.map grp) k with
  | false => rw [own_no h]; simp
  | true =>
    symm
    rw [decide_eq_true_eq]
    unfold anyHas at h
    obtain ⟨g, hg, hk⟩ := List.any_eq_true.mp h
    obtain ⟨r, hr, rfl⟩ := List.mem_map.mp hg
    have hk' : k ∈ dk r := by rw [← grpd_keys, ← grp_grpd]; simpa using hk
    have hv := vals_some hk'
    rw [← look_grp] at hv
    intro q
    unfold own at q
    rw [List.flatten_eq_nil_iff] at q
    exact hv (q _ (List.mem_map.mpr ⟨_, hg, rfl⟩))
end Mine
end
section
open PySem PySem.W PySem.W.X PyProof.Rows PySem.Calls
set_option maxRecDepth 100000
set_option maxHeartbeats 400000
namespace Mine
def Flown (h₀ : Heap) (l : List Env) (e : Addr) (cls : Value) (h : Heap) : Prop := ∃ h₁ a0, Ext [] h₀ h₁ ∧ Fly h₁ l e cls a0 .none h
section
variable {w : World} {A : Around} {E : Value → Shared → Prop} {s : Shared} {env : Env} {outer : List Env} {L e : Addr} {cls : Value} {h₀ h₁ h h' : Heap}
theorem rest_hide {b : Addr} {o : Obj} (hf : env.frame = some L) (q : (restOf (hideAll h₁ [L]) outer).get? b = some o) : (restOf h₁ (env :: outer)).get? b = some o := by
  have q1 := of_hideAll _ q
  have q2 := of_hideAll _ q1
  refine hideAll_get _ q2 fun z => ?_
  have e1 : fa (env :: outer) = L :: fa outer := by unfold fa; rw [List.filterMap_cons_some hf]
  rw [e1] at z
  rcases List.mem_cons.mp z with z | z
  · rw [hideAll_none _ (by rw [z]; exact .head _)] at q1; cases q1
  · unfold restOf at q; rw [hideAll_none _ z] at q; cases q
theorem ext_hide (x : Ext [] h₀ h₁) (hL : h₀.get? L = none) : Ext [] h₀ (hideAll h₁ [L]) := by
  have ne : ∀ {b o}, h₀.get? b = some o → b ∉ [L] := fun {b o} e q => by rw [List.mem_singleton.mp q, hL] at e; cases e
  refine ⟨fun b o e n => ?_, fun b o e => ?_⟩
  · rcases x.keep b o e n with q | ⟨t, ps, more, rfl, q, kq⟩
    · exact .inl (hideAll_get _ q (ne e))
    · exact .inr ⟨t, ps, more, rfl, hideAll_get _ q (ne e), kq⟩
  · obtain ⟨o', q⟩ := x.there b o e
    exact ⟨o', hideAll_get _ q (ne e)⟩
theorem flown_of {a0 : Value} (x : Ext [] h₀ h₁) (hf : env.frame = some L) (hL : h₀.get? L = none) (hen : h₁.get? e = none) (up : h₁.UpToSlots h)
    (z : (restOf h₁ (env :: outer)).StaysIn h') (t : h'.TracedW (restOf h₁ (env :: outer)) e cls a0) (u : h.UpToSlots h') : Flown h₀ outer e cls h' := by
  refine ⟨hideAll h₁ [L], a0, ext_hide x hL, fun b o q => z b o (rest_hide hf q), fun b o q n => (up.trans u) b o (of_hideAll _ q) n, hide_none hen, ?_⟩
  obtain ⟨oe, vs, T, oT, ts, q1, q2, q3, q4, q5, q6⟩ := t
  refine ⟨oe, vs, T, oT, ts, q1, q2, q3, q4, ?_, q6⟩
  cases y : (restOf (hideAll h₁ [L]) outer).get? T with
  | none => rfl
  | some o => rw [rest_hide hf y] at q5; cases q5
theorem leave_first {oe : Obj} {vs : Array Value} {a0 : Value} {Q : Unit → Shared → Prop} (x : Ext [] h₀ h₁) (F : Fs A h₁ (env :: outer)) (k : Keep h₁ s.heap) (hf : env.frame = some L) (hL : h₀.get? L = none)
    (he : s.heap.get? e = some oe) (hen : h₁.get? e = none) (hd : oe.data = .fields vs) (v0 : vs[0]? = some a0) (v1 : vs[1]? = some .none)
    (h : ∀ h', Flown h₀ outer e oe.cls h' → Q () { s with heap := h' }) : wpAny (model P w) A (leaving env (.ref e)) Q E s := by
  have F' : Fs A s.heap (env :: outer) := F.ext0 (.of_keeps k)
  refine wpAny_leaving_firstW (base := restOf h₁ (env :: outer)) F.fr F'.fun hf he (fun b o q => k b o (of_hideAll _ q)) (hide_none hen) hd v1 v0 fun h' z => ?_
  exact h h' (flown_of x hf hL hen (.of_keeps k) z.1 z.2.2.1 z.2.2.2)
theorem leave_next {Q : Unit → Shared → Prop} (x : Ext [] h₀ h₁) (F : Fs A h₁ (env :: outer)) (hf : env.frame = some L) (hL : h₀.get? L = none) (fl : Flown h₁ (env :: outer) e cls s.heap)
    (h : ∀ h', Flown h₀ outer e cls h' → Q () { s with heap := h' }) : wpAny (model P w) A (leaving env (.ref e)) Q E s := by
  obtain ⟨h₂, a0, x2, z⟩ := fl
  have F2 : Fs A h₂ (env :: outer) := F.ext0 x2
  have F' : Fs A s.heap (env :: outer) := F2.ext (.of_rest F2 z.stays z.up)
  refine wpAny_leaving_nextW (base := restOf h₂ (env :: outer)) F.fr F'.fun hf z.at_ z.stays (hide_none z.new) fun h' y => ?_
  exact h h' (flown_of (x.trans x2 fun _ q => nomatch q) hf hL z.new z.up y.1 y.2.2.1 y.2.2.2)
theorem Flown.fext (F : Fs A h₀ outer) (fl : Flown h₀ outer e cls h) : FExt (fa outer) h₀ h := by
  obtain ⟨h₁, a0, x, z⟩ := fl
  exact (FExt.of x).trans (z.fext (F.ext0 x))
theorem Flown.isA (fl : Flown h₀ outer e cls h) : ∃ o, h.get? e = some o ∧ o.cls = cls := let ⟨_, _, _, z⟩ := fl; z.isA
end
end Mine
end
section
open PySem PySem.W PySem.W.X PyProof.Rows PySem.Calls
set_option maxRecDepth 100000
set_option maxHeartbeats 400000
namespace Mine
def isNm : Option Value → Bool
  | some (.str x _) => x == Str.ofString "CombinedMultiDict"
  | _ => false
theorem c560 (w : World) : ∃ o u, (KK w).lookup 560 = some o ∧ o.cls = .type "type" ∧ (o.slots[2]?).join = some (.str (Str.ofString "CombinedMultiDict") u) := by
  have h1 : (((KK w).lookup 560).map fun o => (o.cls == .type "type" && isNm (o.slots[2]?).join)) = some true := by kernel_rfl
  cases e : (KK w).lookup 560 with
  | none => rw [e] at h1; cases h1
  | some o =>
    rw [e] at h1
    injection h1 with h1
    rw [Bool.and_eq_true] at h1
    obtain ⟨a1, a2⟩ := h1
    unfold isNm at a2
    split at a2
    · rename_i x u hx
      exact ⟨o, u, rfl, by simpa using a1, by rw [hx, show x = _ by simpa using a2]⟩
    · cases a2
theorem entry_tga : entryFor table "type.__getattribute__" = some Builtin.«type.__getattribute__» := entryFor_of_tree (by kernel_rfl)
theorem slot_tga : Slot "type" "__getattribute__" "type.__getattribute__" := .of (owner := "type") (n := "__getattribute__") (by rw [typeLookup_type, builtinLookup_eq_fast]; kernel_rfl) (by decide +kernel) (by decide +kernel) (by decide +kernel)
  (by first | exact .inl (by decide +kernel) | exact .inr (by decide +kernel)) (by rw [isSubtype_type]; kernel_rfl)
theorem args_tga (a b : Value) : argsOk "type.__getattribute__" ⟨[a, b], []⟩ := by unfold argsOk; kernel_rfl
theorem kind_tga : builtinKind "type.__getattribute__" = some .slot := by decide +kernel
theorem split_tga : splitId "type.__getattribute__" = some ("type", "__getattribute__") := by decide +kernel
theorem lk_tn : typeLookup (.type "type") "__name__" = pure (some (.builtin "type.__name__")) := by rw [typeLookup_type, builtinLookup_eq_fast]; kernel_rfl
theorem lk_tgetattr : typeLookup (.type "type") "__getattr__" = pure none := by rw [typeLookup_type, builtinLookup_eq_fast]; kernel_rfl
theorem sub_tt : isSubtype (.type "type") (.type "type") = pure true := by rw [isSubtype_type]; kernel_rfl
theorem st_opaque {w : World} : nsIn (KK w) cStatics "thirdparty.any" = some none := by kernel_rfl
theorem sp_get : specialOf (.builtin "type.__name__") "__get__" = pure (some (.builtin "getset_descriptor.__get__")) := by show typeLookup (.type "getset_descriptor") _ = _; rw [typeLookup_type, builtinLookup_eq_fast]; kernel_rfl
theorem sp_set : specialOf (.builtin "type.__name__") "__set__" = pure (some (.builtin "getset_descriptor.__set__")) := by show typeLookup (.type "getset_descriptor") _ = _; rw [typeLookup_type, builtinLookup_eq_fast]; kernel_rfl
theorem entry_gsg : entryFor table "getset_descriptor.__get__" = some Builtin.«getset_descriptor.__get__» := entryFor_of_tree (by kernel_rfl)
theorem slot_gsg : Slot "getset_descriptor" "__get__" "getset_descriptor.__get__" := .of (owner := "getset_descriptor") (n := "__get__") (by rw [typeLookup_type, builtinLookup_eq_fast]; kernel_rfl) (by decide +kernel) (by decide +kernel) (by decide +kernel)
  (by first | exact .inl (by decide +kernel) | exact .inr (by decide +kernel)) (by rw [isSubtype_type]; kernel_rfl)
theorem args_gsg (a b c : Value) : argsOk "getset_descriptor.__get__" ⟨[a, b, c], []⟩ := by unfold argsOk; kernel_rfl
theorem kind_gsg : builtinKind "getset_descriptor.__get__" = some .slot := by decide +kernel
theorem split_gsg : splitId "getset_descriptor.__get__" = some ("getset_descriptor", "__get__") := by decide +kernel
theorem inst_gs : isInstance (.builtin "type.__name__") (.type "getset_descriptor") = pure true := by
  show isSubtype (.type "getset_descriptor") (.type "getset_descriptor") = _; rw [isSubtype_type]; kernel_rfl
theorem entry_tnm : entryFor table "type.__name__" = some Builtin.«type.__name__» := entryFor_of_tree (by kernel_rfl)
theorem dnc : PySem.Builtin.Getset_descriptor.descrNameAndClass (.builtin "type.__name__") = pure (Str.ofString "__name__", .type "type") := by kernel_rfl
theorem n560 {w : World} {A : Around} {E : Value → Shared → Prop} {s : Shared} {Q : Value → Shared → Prop} (T : TopH w s.heap) (h : ∀ u, Q (.str (Str.ofString "CombinedMultiDict") u) { s with toks := s.toks + 1 }) : wpAny (model P w) A (getAttr (.ref 560) "__name__" true) Q E s := by
  obtain ⟨hp, g, d, t, os⟩ := s
  obtain ⟨o, u, ho, hc, hs⟩ := c560 w
  have eo := T.K _ _ ho
  have L0 : Looks (model P w) hp (typeOf (.ref 560)) (.type "type") := hc ▸ (Looks.ld eo).andThen .now
  have L3 : Looks (model P w) hp (isInstance (.ref 560) (.type "type")) true := L0.andThen (Looks.of_pure sub_tt)
  unfold getAttr getAttrBy
  refine wpAny_bind (wpAny_mkText (wpAny_holding (wpAny_bind (L0.at ?_))))
  refine wpAny_bind ((Looks.of_pure slot_tga.lookup).at ?_)
  dsimp only
  refine ite_no (show ¬ ((onTheHeap (.type "type") && (Value.builtin "type.__getattribute__" == Value.builtin "object.__getattribute__")) = true) by decide) ?_
  unfold getAttrByItsOwn hookBefore
  refine wpAny_bind (ite_no (by decide) (wpAny_pure ?_))
  refine wpAny_bind (wpAny_attempt (wpAny_holding ?_))
  unfold callGetattribute boundAndCalled
  refine ite_no (by simp [onTheHeap]) ?_
  rw [slot_tga.bind]
  refine wpAny_bind (wpAny_pure ?_)
  refine wpAny_call ?_
  refine codeAny_call_builtin slot_tga.plain entry_tga (@check_slot (model P w) _ _ ⟨hp, g, d, t + 1, os⟩ "type.__getattribute__" "type" "__getattribute__" (.ref 560) [.str "__name__" t] [] _ kind_tga split_tga L3 (args_tga _ _) ?_)
  unfold Builtin.«type.__getattribute__»
  dsimp only
  refine wpAny_bind (wpAny_pure ?_)
  have LO : Looks (model P w) hp (opaqueClassAbove (.ref 560)) none := by
    unfold opaqueClassAbove anyOpaqueLoaded
    dsimp only
    exact Looks.andThen (Looks.andThen (looks_nsIn T.K st_opaque) (Looks.of_pure rfl)) (Looks.of_pure rfl)
  dsimp only
  refine wpAny_bind (LO.at ?_)
  dsimp only
  refine wpAny_bind (L0.at ?_)
  refine wpAny_bind ((Looks.of_pure lk_tn).at ?_)
  dsimp only
  refine wpAny_bind ((Looks.of_pure sp_get).at ?_)
  dsimp only
  refine wpAny_bind ((Looks.of_pure sp_set).at ?_)
  refine ite_yes (by rfl) ?_
  refine wpAny_bind (wpAny_pure ?_)
  refine ite_yes (by rfl) ?_
  refine wpAny_bind (wpAny_holding ?_)
  refine wpAny_call ?_
  refine codeAny_call_builtin slot_gsg.plain entry_gsg (@check_slot (model P w) _ _ ⟨hp, g, d, t + 1, os⟩ "getset_descriptor.__get__" "getset_descriptor" "__get__" (.builtin "type.__name__") [.ref 560, .type "type"] [] _ kind_gsg split_gsg (Looks.of_pure inst_gs) (args_gsg _ _ _) ?_)
  unfold Builtin.«getset_descriptor.__get__»
  show wpAny _ _ ((pure (Value.builtin "type.__name__", some (Value.ref 560), some (Value.type "type")) : Sem _) >>= fun x => PySem.Builtin.Getset_descriptor.descrGetter x.1 x.2.1) _ _ _
  refine wpAny_bind (wpAny_pure ?_)
  have LD : Looks (model P w) hp (PySem.Builtin.Getset_descriptor.descrCheckInstance (.builtin "type.__name__") (.ref 560)) () := by
    unfold PySem.Builtin.Getset_descriptor.descrCheckInstance
    rw [dnc]
    exact Looks.andThen (Looks.of_pure rfl) (Looks.andThen L3 (Looks.of_pure rfl))
  refine wpAny_bind (LD.at ?_)
  refine wpAny_pure ?_
  refine ⟨Code.quiet_builtin _ (by decide +kernel), codeAny_builtin entry_tnm ?_⟩
  unfold Builtin.«type.__name__»
  show wpAny _ _ (Builtin.keptObject (.ref 560) 2 "__name__" _) _ _ _
  unfold Builtin.keptObject slotAt
  refine wpAny_bind (wpAny_bind (wpAny_loadPart eo ?_))
  refine wpAny_pure ?_
  rw [hs]
  refine wpAny_pure ?_
  dsimp only
  refine wpAny_pure ?_
  dsimp only
  rw [show handedOut (.str (Str.ofString "CombinedMultiDict") u) = pure (.str (Str.ofString "CombinedMultiDict") u) from rfl]
  exact wpAny_pure (h u)
end Mine
end
section
open PySem PySem.W PySem.W.X PyProof.Rows PySem.Calls
set_option maxRecDepth 100000
set_option maxHeartbeats 400000
namespace Mine
local macro_rules | `(tactic| walk_at "nb") => `(tactic| refine name_boot (by assumption) rfl rfl rfl (by boot_by_name) (by decide) ?_)
theorem rn : reprText (Str.ofString "CombinedMultiDict") = Str.ofString "'CombinedMultiDict'" := by decide +kernel
theorem rl1 : (Str.ofString "'CombinedMultiDict'").length ≤ sizeLine := by decide +kernel
theorem rl2 : (Str.empty ++ Str.ofString "'CombinedMultiDict'").length ≤ sizeLine := by decide +kernel
theorem rl3 : (Str.empty ++ Str.ofString "'CombinedMultiDict'" ++ Str.ofString " objects are immutable").length ≤ sizeLine := by decide +kernel
theorem imm_spec {w : World} {A : Around} {s : Shared} {R : Result → Shared → Prop} {x : Addr} {o : Obj} {l : List Env} (hA : Rm 500 A) (hh : A.handled = none) (T : TopH w s.heap) (F : Fs A s.heap l)
    (ho : s.heap.get? x = some o) (hc : o.cls = .ref 560)
    (hR : ∀ h' tk e, Flown s.heap l e (.type "TypeError") h' → R (.error (.ref e)) ⟨h', s.gens, s.drawn, tk, s.os⟩) :
    codeAny (model P w) A (.call (.ref 98) ⟨[.ref x], []⟩) R s := by
  refine enter [(Str.ofString "self", .ref x)] hA T (by rfl) (by rfl) (by rfl) (by rfl) (BindsTo.of_eq rfl) (by decide) (locs rfl) fun h₁ D hA' hh' => ?_
  replace hh' := hh'.trans hh
  have T1 := D.top T (by simp)
  refine wpAny_execs_cons ?_
  refine Raise_new hh' ?_
  refine wpAny_Call_NameR ?_
  walk_at "nb"
  refine call_bi ?_
  refine wpAny_items_cons ?_
  refine wpAny_JoinedStr ?_
  refine wpAny_FormattedValue_repr ?_
  refine Attribute_any_ ?_
  refine wpAny_Call_NameR ?_
  walk_at "nb"
  refine call_bi ?_
  refine wpAny_items_cons ?_
  refine name_local D.ns (by rfl) ?_
  refine wpAny_items_nil ?_
  have o1 : h₁.get? x = some o := D.ext.get ho (by unfold hasCls; rw [hc]) (by simp)
  refine call_type_obj o1 (by rw [hc]; rfl) ?_
  rw [hc]
  refine n560 T1 fun u => ?_
  refine pyReprObj_str (hx := by rw [rn]; exact rl1) ?_
  rw [rn]
  refine PyProof.Rows.formatField_str (hsz := rl1) (fun t1 tk1 => ?_)
  refine ⟨_, _, rfl, rl2, ?_⟩
  refine wpAny_Constant_str ?_
  refine ⟨_, _, rfl, rl3, ?_⟩
  refine ⟨rl3, ?_⟩
  try dsimp only
  refine wpAny_items_nil ?_
  refine call_exc_raise excClass_TypeError (fun h2 e hx => ?_)
  have F1 := (F.ext0 D.ext).call hA' D.ns T.low
  obtain ⟨ob, t2, he, hcls, hd⟩ := hx.there
  rw [← hcls] at hR
  refine leave_first D.ext F1 hx.keeps rfl (get_fresh (Nat.le_refl _)) he hx.new hd rfl rfl (fun h3 fl => ?_)
  exact hR _ _ _ fl
end Mine
end
section
open PySem PySem.W PySem.W.X PyProof.Rows PySem.Calls
set_option maxRecDepth 100000
set_option maxHeartbeats 400000
namespace Mine
local macro_rules | `(tactic| walk_at "nt") => `(tactic| refine name_top (by assumption) rfl (by rfl) ?_)
theorem add_spec {w : World} {A : Around} {s : Shared} {R : Result → Shared → Prop} {x : Addr} {o : Obj} {l : List Env} {k v : Value} (hA : Rm 495 A) (hh : A.handled = none) (T : TopH w s.heap) (F : Fs A s.heap l)
    (ho : s.heap.get? x = some o) (hc : o.cls = .ref 560)
    (hR : ∀ h' tk e, Flown s.heap l e (.type "TypeError") h' → R (.error (.ref e)) ⟨h', s.gens, s.drawn, tk, s.os⟩) :
    codeAny (model P w) A (.call (.ref 184) ⟨[.ref x, k, v], []⟩) R s := by
  refine enter [(Str.ofString "self", .ref x), (Str.ofString "key", k), (Str.ofString "value", v)] hA T (by rfl) (by rfl) (by rfl) (by rfl) (BindsTo.of_eq rfl) (by decide) (locs rfl) fun h₁ D hA' hh' => ?_
  replace hh' := hh'.trans hh
  have T1 := D.top T (by simp)
  have F1 := (F.ext0 D.ext).call hA' D.ns T.low
  have o1 : h₁.get? x = some o := D.ext.get ho (by unfold hasCls; rw [hc]) (by simp)
  refine wpAny_execs_cons ?_
  refine wpAny_Expr_any ?_
  refine wpAny_Call_NameR ?_
  walk_at "nt"
  refine call_fn (by rfl) ?_
  refine wpAny_items_cons ?_
  refine name_local D.ns (by rfl) ?_
  refine wpAny_items_nil ?_
  refine ⟨T1, ?_⟩
  refine wpAny_call ?_
  refine imm_spec (hA'.mono (by decide)) hh' T1 F1 o1 hc (fun h2 tk e fl => ?_)
  exact leave_next D.ext F1 rfl (get_fresh (Nat.le_refl _)) fl fun h3 fl3 => hR _ _ _ fl3
theorem setlist_spec {w : World} {A : Around} {s : Shared} {R : Result → Shared → Prop} {x : Addr} {o : Obj} {l : List Env} {k v : Value} (hA : Rm 495 A) (hh : A.handled = none) (T : TopH w s.heap) (F : Fs A s.heap l)
    (ho : s.heap.get? x = some o) (hc : o.cls = .ref 560)
    (hR : ∀ h' tk e, Flown s.heap l e (.type "TypeError") h' → R (.error (.ref e)) ⟨h', s.gens, s.drawn, tk, s.os⟩) :
    codeAny (model P w) A (.call (.ref 205) ⟨[.ref x, k, v], []⟩) R s := by
  refine enter [(Str.ofString "self", .ref x), (Str.ofString "key", k), (Str.ofString "new_list", v)] hA T (by rfl) (by rfl) (by rfl) (by rfl) (BindsTo.of_eq rfl) (by decide) (locs rfl) fun h₁ D hA' hh' => ?_
  replace hh' := hh'.trans hh
  have T1 := D.top T (by simp)
  have F1 := (F.ext0 D.ext).call hA' D.ns T.low
  have o1 : h₁.get? x = some o := D.ext.get ho (by unfold hasCls; rw [hc]) (by simp)
  refine wpAny_execs_cons ?_
  refine wpAny_Expr_any ?_
  refine wpAny_Call_NameR ?_
  walk_at "nt"
  refine call_fn (by rfl) ?_
  refine wpAny_items_cons ?_
  refine name_local D.ns (by rfl) ?_
  refine wpAny_items_nil ?_
  refine ⟨T1, ?_⟩
  refine wpAny_call ?_
  refine imm_spec (hA'.mono (by decide)) hh' T1 F1 o1 hc (fun h2 tk e fl => ?_)
  exact leave_next D.ext F1 rfl (get_fresh (Nat.le_refl _)) fl fun h3 fl3 => hR _ _ _ fl3
theorem pop_spec {w : World} {A : Around} {s : Shared} {R : Result → Shared → Prop} {x : Addr} {o : Obj} {l : List Env} {k : Value} (hA : Rm 495 A) (hh : A.handled = none) (T : TopH w s.heap) (F : Fs A s.heap l)
    (ho : s.heap.get? x = some o) (hc : o.cls = .ref 560)
    (hR : ∀ h' tk e, Flown s.heap l e (.type "TypeError") h' → R (.error (.ref e)) ⟨h', s.gens, s.drawn, tk, s.os⟩) :
    codeAny (model P w) A (.call (.ref 135) ⟨[.ref x, k], []⟩) R s := by
  refine enter [(Str.ofString "self", .ref x), (Str.ofString "key", k), (Str.ofString "default", .none)] hA T (by rfl) (by rfl) (by rfl) (by rfl) (binds_K T.K rfl (by rfl) rfl rfl rfl) (by decide) (locs rfl) fun h₁ D hA' hh' => ?_
  replace hh' := hh'.trans hh
  have T1 := D.top T (by simp)
  have F1 := (F.ext0 D.ext).call hA' D.ns T.low
  have o1 : h₁.get? x = some o := D.ext.get ho (by unfold hasCls; rw [hc]) (by simp)
  refine wpAny_execs_cons ?_
  refine wpAny_Expr_any ?_
  refine wpAny_Call_NameR ?_
  walk_at "nt"
  refine call_fn (by rfl) ?_
  refine wpAny_items_cons ?_
  refine name_local D.ns (by rfl) ?_
  refine wpAny_items_nil ?_
  refine ⟨T1, ?_⟩
  refine wpAny_call ?_
  refine imm_spec (hA'.mono (by decide)) hh' T1 F1 o1 hc (fun h2 tk e fl => ?_)
  exact leave_next D.ext F1 rfl (get_fresh (Nat.le_refl _)) fl fun h3 fl3 => hR _ _ _ fl3
end Mine
end
section
open PySem PySem.W PySem.W.X PyProof.Rows PySem.Calls
set_option maxRecDepth 100000
set_option maxHeartbeats 400000
namespace Mine
local macro_rules | `(tactic| walk_at "nt") => `(tactic| refine name_top (by assumption) rfl (by rfl) ?_)
theorem enterU {w : World} {A : Around} {s s₁ : Shared} {R : Result → Shared → Prop} {a : Addr} {o : Obj} {fd : FuncData} {body : List Stmt} {args : Args} (binds : List (Str × Value)) {n : Nat} (hA : Rm n A) (T : TopH w s.heap)
    (ho : (KK w).lookup a = some o) (hdata : o.data = .func fd) (hcd : codeIn (KK w) fd.code fd.qualname = true)
    (hbody : fd.body = .stmts body) (hbind : ∀ (M : Model) (A : Around) (E : Value → Shared → Prop) (Q : List (Str × Value) → Shared → Prop), Q binds s₁ → wpAny M A (bindArgs fd args) Q E s) (hk1 : Keep s.heap s₁.heap) (hs1 : s.heap.objs.size ≤ s₁.heap.objs.size)
    (hcell : ∀ x ∈ fd.scope.names, x.2 ≠ .cell) (hloc : ∀ x ∈ binds, fd.scope.names.lookup x.1 = some .local)
    (h : ∀ h₁, Me [] s.heap h₁ s₁.heap.objs.size (fun x => binds.reverse.lookup x) [] → Rm (n + 1) (A.deeper (callEnv fd s₁.heap.objs.size a)) → (A.deeper (callEnv fd s₁.heap.objs.size a)).handled = A.handled →
      wpAny (model P w) (A.deeper (callEnv fd s₁.heap.objs.size a)) (execs body (callEnv fd s₁.heap.objs.size a)) (fun f s' => R (.ok (.ret (match f with | .ret v => v | _ => .none))) s')
        (fun e s' => wpAny (model P w) (A.deeper (callEnv fd s₁.heap.objs.size a)) (leaving (callEnv fd s₁.heap.objs.size a) e) (fun _ s'' => R (.error e) s'') (fun e' s'' => R (.error e') s'') s')
        { s₁ with heap := h₁, toks := s₁.toks + binds.length })
    (hn : n ≤ 600 := by decide) (hco : fd.scope.isCoroutine = false := by rfl) (hgen : fd.scope.isGenerator = false := by rfl) (hk : fd.scope.kind = .function := by rfl) : codeAny (model P w) A (.call (.ref a) args) R s := by
  have T1 : TopH w s₁.heap := T.ext (.of_keeps hk1) (by simp)
  refine codeAny_call_function (hA.dlt hn) (T.K _ _ ho) hdata hco hgen hbody (codeRec_of T.K hcd) (hbind _ _ _ _ ?_)
  refine wpAny_newFunctionEnv hcell hloc (fun h₀ hns₀ hsb₀ => ⟨T1.lim.fresh _ hsb₀, codeAny_func (h h₀ ?_ (hA.deeper _) rfl)⟩) hk
  have k0 : Keep s₁.heap h₀ := fun b o e => hsb₀.extBut b o (Nat.ne_of_lt (Heap.lt_size e)) (Heap.get?_push_of_some _ e)
  exact ⟨.of_keeps fun b o e => k0 b o (hk1 b o e), hns₀, fun _ q => (nomatch q), List.nodup_nil, fun _ q => (nomatch q), fun _ q => (nomatch q), .inr (get_fresh hs1)⟩
theorem update_spec {w : World} {A : Around} {s : Shared} {R : Result → Shared → Prop} {x : Addr} {o : Obj} {l : List Env} {k : Value} (hA : Rm 495 A) (hh : A.handled = none) (T : TopH w s.heap) (F : Fs A s.heap l)
    (ho : s.heap.get? x = some o) (hc : o.cls = .ref 560)
    (hR : ∀ h' tk e, Flown s.heap l e (.type "TypeError") h' → R (.error (.ref e)) ⟨h', s.gens, s.drawn, tk, s.os⟩) :
    codeAny (model P w) A (.call (.ref 120) ⟨[.ref x, k], []⟩) R s := by
  refine enterU (s₁ := { s with heap := s.heap.push { cls := .type "dict", data := .dict #[] } }) [(Str.ofString "self", .ref x), (Str.ofString "arg", k), (Str.ofString "kwargs", .ref s.heap.objs.size)] hA T (by rfl) (by rfl) (by rfl) (by rfl) ?_ (fun _ _ e => Heap.get?_push_of_some _ e) (by rw [Heap.size_push]; exact Nat.le_succ _) (by decide) (locs rfl) fun h₁ D hA' hh' => ?_
  · intro M A E Q q
    conv => arg 3; whnf
    refine nd_alloc ?_
    conv => arg 3; whnf
    refine wpAny_pure ?_
    exact q
  · replace hh' := hh'.trans hh
    have T1 := D.top T (by simp)
    have F1 : Fs _ h₁ (_ :: l) := (F.ext0 D.ext).call hA' D.ns (by show 604 ≤ (s.heap.push _).objs.size; rw [Heap.size_push]; exact Nat.le_succ_of_le T.low)
    have o1 : h₁.get? x = some o := D.ext.get ho (by unfold hasCls; rw [hc]) (by simp)
    refine wpAny_execs_cons ?_
    refine wpAny_Expr_any ?_
    refine wpAny_Call_NameR ?_
    walk_at "nt"
    refine call_fn (by rfl) ?_
    refine wpAny_items_cons ?_
    refine name_local D.ns (by rfl) ?_
    refine wpAny_items_nil ?_
    refine ⟨T1, ?_⟩
    refine wpAny_call ?_
    refine imm_spec (hA'.mono (by decide)) hh' T1 F1 o1 hc (fun h2 tk e fl => ?_)
    exact leave_next D.ext F1 rfl (get_fresh (by show _ ≤ (s.heap.push _).objs.size; rw [Heap.size_push]; exact Nat.le_succ _)) fl fun h3 fl3 => hR _ _ _ fl3
end Mine
end
section
open PySem PySem.W PySem.W.X PyProof.Rows PySem.Calls
set_option maxRecDepth 100000
set_option maxHeartbeats 400000
namespace Mine
local macro_rules | `(tactic| walk_at "nb") => `(tactic| refine name_boot (by assumption) rfl rfl rfl (by boot_by_name) (by decide) ?_)
theorem sub_tb : isSubtype (.type "TypeError") (.type "BaseException") = pure true := by rw [isSubtype_type]; kernel_rfl
theorem sub_tt' : isSubtype (.type ((Manifest.find? "TypeError").elim "type" fun x => x.metatype)) (.type "tuple") = pure false := by rw [isSubtype_type]; kernel_rfl
theorem sub_te : isSubtype (.type "TypeError") (.type "TypeError") = pure true := by rw [isSubtype_type]; kernel_rfl
theorem meth_WH {w : World} {A : Around} {E : Value → Shared → Prop} {s : Shared} {b x dx l : Addr} {gs : List Grp} {hsh : Int} {t : Tok} {n c : Nat} {vs : Array Value} {es : Array DictEntry} {ep : Nat} {name : Str} {f : Addr} {pl : Sem Bool} {Q : Value × List Value → Shared → Prop} (T : TopH w s.heap) (X : WH w b s.heap x gs dx l hsh t n c vs es ep)
    (hf : findIn (KK w) (.ref 560) name = some (some (.ref f))) (ht : typeIn (KK w) (.ref f) = some (.type "function")) (hs : shadowIn (some (cDict hsh t l n)) name = some false) (h : Q (.ref f, [.ref x]) s) : wpAny (model P w) A (getMethod (.ref x) name pl) Q E s :=
  method_D T.K X.inst.i (by kernel_rfl) (by kernel_rfl) hf ht hs h
theorem refused_spec {w : World} {A : Around} {s : Shared} {R : Result → Shared → Prop} {x dx dl b : Addr} {gs : List Grp} {hsh : Int} {t td : Tok} {n c ep : Nat} {vs : Array Value} {es : Array DictEntry} {d : Int} {l : List Env} (hA : Rm 480 A) (hh : A.handled = none) (T : TopH w s.heap)
    (X : WH w b s.heap x gs dx dl hsh t n c vs es ep) (F : Fs A s.heap l)
    (hR : ∀ h' tk, FExt (fa l) s.heap h' → R (.ok (.ret (.bool true))) ⟨h', s.gens, s.drawn, tk, s.os⟩) :
    codeAny (model P w) A (.call (.ref 591) ⟨[.ref x, .int d td], []⟩) R s := by
  refine enterAt [(Str.ofString "whole", .ref x), (Str.ofString "deed", .int d td)] hA T (by rfl) (by rfl) (by rfl) (by rfl) (BindsTo.of_eq rfl) (by decide) (locs rfl) fun h₁ D hA' hh' => ?_
  replace hh' := hh'.trans hh
  have T1 := D.top T (by simp)
  have X1 := X.ext0 D.ext
  have F1 := (F.ext0 D.ext).call hA' D.ns T.low
  refine ks_wpAt_execs_cons ?_
  refine wpAt_Try ?_
  refine wpAt_of_wpAny ?_
  refine wpAny_execs_cons ?_
  refine wpAny_If ?_
  refine wpAny_isTrue_Compare1 ?_
  refine name_local D.ns (by rfl) ?_
  refine wpAny_Constant_int ?_
  refine eq_int ?_
  refine wpAny_truthy_bool ?_
  by_cases h0 : d = 0
  · rw [if_pos (by simpa using h0)]
    refine wpAny_execs_cons ?_
    refine wpAny_Expr_any ?_
    refine methodCall_KW ?_
    refine name_local D.ns (by rfl) ?_
    refine meth_WH (f := 184) T1 X1 (by kernel_rfl) (by rfl) (by rfl) ?_
    refine call_fn (by rfl) ?_
    refine wpAny_items_cons ?_
    refine wpAny_Constant_str ?_
    refine wpAny_items_cons ?_
    refine wpAny_Constant_int ?_
    refine wpAny_items_nil ?_
    refine ⟨T1, ?_⟩
    refine wpAny_call ?_
    refine add_spec (hA'.mono (by decide)) hh' T1 F1 X1.inst.at_ rfl (fun h2 tk2 e fl => ?_)
    obtain ⟨hm, a0, xm, zf⟩ := fl
    have Fm := F1.ext0 xm
    refine note_again Fm rfl zf (fun h4 z4 => ?_)
    refine land Fm z4 (fun h5 z5 => ?_)
    have x5 := z5.fext Fm
    have T5 := (T1.ext xm (by simp)).fext Fm x5
    obtain ⟨oe, ee, ce⟩ := z5.isA
    refine wpAny_handleBy_builtin (X := "TypeError") (T := "TypeError") (b := true) sub_tb sub_tt' sub_te ?_
    walk_at "nb"
    refine ⟨rfl, ⟨oe, ee, ce⟩, ?_⟩
    rw [if_pos rfl]
    refine land (Fm.same rfl) z5 (fun h6 z6 => ?_)
    have x6 := z6.fext Fm
    refine wpAny_execs_cons ?_
    refine wpAny_Return_some ?_
    refine wpAny_Constant_bool ?_
    exact hR _ _ (FExt.leave (D.ext.trans xm fun _ q => nomatch q) x6 (get_size _))
  rw [if_neg (by simpa using h0)]
  refine wpAny_execs_cons ?_
  refine wpAny_If ?_
  refine wpAny_isTrue_Compare1 ?_
  refine name_local D.ns (by rfl) ?_
  refine wpAny_Constant_int ?_
  refine eq_int ?_
  refine wpAny_truthy_bool ?_
  by_cases h1 : d = 1
  · rw [if_pos (by simpa using h1)]
    refine wpAny_execs_cons ?_
    refine wpAny_Expr_any ?_
    refine methodCall_KW ?_
    refine name_local D.ns (by rfl) ?_
    refine meth_WH (f := 205) T1 X1 (by kernel_rfl) (by rfl) (by rfl) ?_
    refine call_fn (by rfl) ?_
    refine wpAny_items_cons ?_
    refine wpAny_Constant_str ?_
    refine wpAny_items_cons ?_
    refine wpAny_List ?_
    refine wpAny_items_cons ?_
    refine wpAny_Constant_int ?_
    refine wpAny_items_nil ?_
    refine ⟨by show (1 : Nat) ≤ sizeLine; decide, ?_⟩
    try dsimp only
    refine wpAny_items_nil ?_
    generalize hq : h₁.push _ = hp
    have exl : Ext [] h₁ hp := by rw [← hq]; exact Ext.push h₁ _
    have X2 := X1.ext0 exl
    have T2 : TopH w hp := T1.ext exl (by simp)
    have F2 := F1.ext0 exl
    have DX := D.ext.trans exl fun _ q => nomatch q
    refine ⟨T2, ?_⟩
    refine wpAny_call ?_
    refine setlist_spec (hA'.mono (by decide)) hh' T2 F2 X2.inst.at_ rfl (fun h2 tk2 e fl => ?_)
    obtain ⟨hm, a0, xm, zf⟩ := fl
    have Fm := F2.ext0 xm
    refine note_again Fm rfl zf (fun h4 z4 => ?_)
    refine land Fm z4 (fun h5 z5 => ?_)
    have x5 := z5.fext Fm
    have T5 := (T2.ext xm (by simp)).fext Fm x5
    obtain ⟨oe, ee, ce⟩ := z5.isA
    refine wpAny_handleBy_builtin (X := "TypeError") (T := "TypeError") (b := true) sub_tb sub_tt' sub_te ?_
    walk_at "nb"
    refine ⟨rfl, ⟨oe, ee, ce⟩, ?_⟩
    rw [if_pos rfl]
    refine land (Fm.same rfl) z5 (fun h6 z6 => ?_)
    have x6 := z6.fext Fm
    refine wpAny_execs_cons ?_
    refine wpAny_Return_some ?_
    refine wpAny_Constant_bool ?_
    exact hR _ _ (FExt.leave (DX.trans xm fun _ q => nomatch q) x6 (get_size _))
  rw [if_neg (by simpa using h1)]
  refine wpAny_execs_cons ?_
  refine wpAny_If ?_
  refine wpAny_isTrue_Compare1 ?_
  refine name_local D.ns (by rfl) ?_
  refine wpAny_Constant_int ?_
  refine eq_int ?_
  refine wpAny_truthy_bool ?_
  by_cases h2 : d = 2
  · rw [if_pos (by simpa using h2)]
    refine wpAny_execs_cons ?_
    refine wpAny_Expr_any ?_
    refine methodCall_KW ?_
    refine name_local D.ns (by rfl) ?_
    refine meth_WH (f := 135) T1 X1 (by kernel_rfl) (by rfl) (by rfl) ?_
    refine call_fn (by rfl) ?_
    refine wpAny_items_cons ?_
    refine wpAny_Constant_str ?_
    refine wpAny_items_nil ?_
    refine ⟨T1, ?_⟩
    refine wpAny_call ?_
    refine pop_spec (hA'.mono (by decide)) hh' T1 F1 X1.inst.at_ rfl (fun h2 tk2 e fl => ?_)
    obtain ⟨hm, a0, xm, zf⟩ := fl
    have Fm := F1.ext0 xm
    refine note_again Fm rfl zf (fun h4 z4 => ?_)
    refine land Fm z4 (fun h5 z5 => ?_)
    have x5 := z5.fext Fm
    have T5 := (T1.ext xm (by simp)).fext Fm x5
    obtain ⟨oe, ee, ce⟩ := z5.isA
    refine wpAny_handleBy_builtin (X := "TypeError") (T := "TypeError") (b := true) sub_tb sub_tt' sub_te ?_
    walk_at "nb"
    refine ⟨rfl, ⟨oe, ee, ce⟩, ?_⟩
    rw [if_pos rfl]
    refine land (Fm.same rfl) z5 (fun h6 z6 => ?_)
    have x6 := z6.fext Fm
    refine wpAny_execs_cons ?_
    refine wpAny_Return_some ?_
    refine wpAny_Constant_bool ?_
    exact hR _ _ (FExt.leave (D.ext.trans xm fun _ q => nomatch q) x6 (get_size _))
  rw [if_neg (by simpa using h2)]
  refine wpAny_execs_cons ?_
  refine wpAny_Expr_any ?_
  refine methodCall_KW ?_
  refine name_local D.ns (by rfl) ?_
  refine meth_WH (f := 120) T1 X1 (by kernel_rfl) (by rfl) (by rfl) ?_
  refine call_fn (by rfl) ?_
  refine wpAny_items_cons ?_
  refine wpAny_List ?_
  refine wpAny_items_cons ?_
  refine Tuple_ ?_
  refine wpAny_items_cons ?_
  refine wpAny_Constant_str ?_
  refine wpAny_items_cons ?_
  refine wpAny_Constant_int ?_
  refine wpAny_items_nil ?_
  refine wpAny_newObj_type ?_ (by show (2 : Nat) ≤ sizeLine; decide)
  refine wpAny_items_nil ?_
  refine ⟨by show (1 : Nat) ≤ sizeLine; decide, ?_⟩
  try dsimp only
  refine wpAny_items_nil ?_
  generalize hq : (h₁.push _).push _ = hp
  have exl : Ext [] h₁ hp := by rw [← hq]; exact (Ext.push h₁ _).trans (Ext.push _ _) fun _ q => nomatch q
  have X2 := X1.ext0 exl
  have T2 : TopH w hp := T1.ext exl (by simp)
  have F2 := F1.ext0 exl
  have DX := D.ext.trans exl fun _ q => nomatch q
  refine ⟨T2, ?_⟩
  refine wpAny_call ?_
  refine update_spec (hA'.mono (by decide)) hh' T2 F2 X2.inst.at_ rfl (fun h2 tk2 e fl => ?_)
  obtain ⟨hm, a0, xm, zf⟩ := fl
  have Fm := F2.ext0 xm
  refine note_again Fm rfl zf (fun h4 z4 => ?_)
  refine land Fm z4 (fun h5 z5 => ?_)
  have x5 := z5.fext Fm
  have T5 := (T2.ext xm (by simp)).fext Fm x5
  obtain ⟨oe, ee, ce⟩ := z5.isA
  refine wpAny_handleBy_builtin (X := "TypeError") (T := "TypeError") (b := true) sub_tb sub_tt' sub_te ?_
  walk_at "nb"
  refine ⟨rfl, ⟨oe, ee, ce⟩, ?_⟩
  rw [if_pos rfl]
  refine land (Fm.same rfl) z5 (fun h6 z6 => ?_)
  have x6 := z6.fext Fm
  refine wpAny_execs_cons ?_
  refine wpAny_Return_some ?_
  refine wpAny_Constant_bool ?_
  exact hR _ _ (FExt.leave (DX.trans xm fun _ q => nomatch q) x6 (get_size _))
end Mine
end
section
open PySem PySem.W PySem.W.X PyProof.Rows PySem.Calls
namespace Mine
def addL (g : Grp) (k : Str) (ns : List Int) : Grp := if k ∈ g.map (·.1) then g.map (fun p => if p.1 = k then (p.1, p.2 ++ ns) else p) else g ++ [(k, ns)]
theorem addTo_keys {g : Grp} {k : Str} {n : Int} (h : k ∈ g.map (·.1)) : (addTo g k n).map (·.1) = g.map (·.1) := by
  unfold addTo
  rw [if_pos h, List.map_map]
  refine List.map_congr_left fun p _ => ?_
  simp only [Function.comp]
  split <;> rfl
theorem addL_in {k : Str} : ∀ (ns : List Int) (g : Grp), k ∈ g.map (·.1) → ns.foldl (fun g n => addTo g k n) g = g.map (fun p => if p.1 = k then (p.1, p.2 ++ ns) else p)
  | [], g, _ => by
    rw [List.foldl_nil]
    conv => lhs; rw [← List.map_id g]
    refine List.map_congr_left fun p _ => ?_
    split
    · simp
    · rfl
  | n :: ns, g, h => by
    rw [List.foldl_cons, addL_in ns _ (by rw [addTo_keys h]; exact h)]
    unfold addTo
    rw [if_pos h, List.map_map]
    refine List.map_congr_left fun p _ => ?_
    simp only [Function.comp]
    by_cases e : p.1 = k
    · simp [e]
    · simp [e]
theorem addL_fold (g : Grp) (k : Str) (ns : List Int) (h : ns ≠ []) : addL g k ns = ns.foldl (fun g n => addTo g k n) g := by
  by_cases hk : k ∈ g.map (·.1)
  · rw [addL_in ns g hk]; unfold addL; rw [if_pos hk]
  · cases ns with
    | nil => exact absurd rfl h
    | cons n ns =>
      have e : addTo g k n = g ++ [(k, [n])] := by unfold addTo; rw [if_neg hk]
      rw [List.foldl_cons, e, addL_in ns _ (by rw [List.map_append]; exact List.mem_append_right _ (.head _))]
      unfold addL
      rw [if_neg hk, List.map_append]
      congr 1
      · conv => lhs; rw [← List.map_id g]
        refine List.map_congr_left fun p hp => ?_
        have : p.1 ≠ k := fun q => hk (by rw [← q]; exact List.mem_map_of_mem (f := (·.1)) hp)
        simp [this]
      · simp
theorem merge_fold (g0 : Grp) (g : Grp) (h : ∀ p ∈ g, p.2 ≠ []) : g.foldl (fun r p => addL r p.1 p.2) g0 = (un g).foldl (fun r p => addTo r p.1 p.2) g0 := by
  induction g generalizing g0 with
  | nil => rfl
  | cons p g ih =>
    rw [List.foldl_cons, ih _ fun q hq => h q (.tail _ hq)]
    unfold un
    rw [List.flatMap_cons, List.foldl_append, addL_fold _ _ _ (h p (.head _)), List.foldl_map]
theorem merge_plain (rows : List (List (Str × Int))) : (rows.map grp).foldl (fun r g => g.foldl (fun r p => addL r p.1 p.2) r) [] = grpd (plainOf rows) := by
  have key : ∀ (rows : List (List (Str × Int))) (g0 : Grp), (rows.map grp).foldl (fun r g => g.foldl (fun r p => addL r p.1 p.2) r) g0 = (plainOf rows).foldl (fun r p => addTo r p.1 p.2) g0 := by
    intro rows
    induction rows with
    | nil => intro g0; rfl
    | cons r rows ih =>
      intro g0
      rw [List.map_cons, List.foldl_cons, ih, merge_fold _ _ (fun p hp => ?_)]
      · unfold plainOf
        rw [List.flatMap_cons, List.foldl_append, grp_grpd]
      · rw [grp_grpd] at hp
        obtain ⟨k, hk, rfl⟩ := List.mem_map.mp hp
        exact vals_some hk
  rw [key, ← grp_grpd]; rfl
end Mine
end
section
open PySem PySem.W PySem.W.X PyProof.Rows PySem.Calls
set_option maxRecDepth 100000
set_option maxHeartbeats 400000
namespace Mine
def makesE (K : Frag) (C : Addr) : Bool := match K.lookup C with
  | some ⟨_, _, .cls cd, sl⟩ => !cd.abstract && !cd.hasDel && (sl.toList[4]?).join == some (.builtin "Exception.__new__") && !cd.mro.isEmpty && cd.mro.contains (.ref C) && cd.mro.contains (.type "Exception") &&
      specialIn K (.ref C) "__call__" == some (some (.builtin "type.__call__")) && instIn K (.ref C) (.type "type") == some true
  | _ => false
structure MakesE (M : Model) (h : Heap) (C : Addr) : Prop where
  obj : ∃ oc od cd sl, h.get? C = some ⟨oc, od, .cls cd, sl⟩ ∧ cd.abstract = false ∧ cd.hasDel = false ∧ cd.mro.isEmpty = false
  made : Looks M h (Bind.madeBy (.ref C)) (some "Exception.__new__")
  base : Looks M h (Bind.staticBase (.ref C)) (.ref C)
  self : Looks M h (isSubtype (.ref C) (.ref C)) true
  top : Looks M h (isSubtype (.ref C) (.type "Exception")) true
  call : Looks M h (specialOf (.ref C) "__call__") (some (.builtin "type.__call__"))
  typ : Looks M h (isInstance (.ref C) (.type "type")) true
theorem makesE_of {K : Frag} {M : Model} {h : Heap} (X : K.In h) {C : Addr} (e : makesE K C = true) : MakesE M h C := by
  unfold makesE at e
  split at e
  · rename_i oc od cd sl ho
    simp only [Bool.and_eq_true, Bool.not_eq_true', beq_iff_eq] at e
    obtain ⟨⟨⟨⟨⟨⟨⟨e1, e2⟩, e3⟩, e4⟩, e5⟩, e6⟩, e7⟩, e8⟩ := e
    have hc : clsIn K C = some cd := by unfold clsIn; rw [ho]
    have hm : Looks M h (mroOf (.ref C)) cd.mro := (looks_clsIn X hc).andThen .now
    obtain ⟨c, l, hl⟩ : ∃ c l, cd.mro = c :: l := by cases q : cd.mro with | nil => rw [q] at e4; cases e4 | cons c l => exact ⟨c, l, rfl⟩
    have made : Looks M h (Bind.madeBy (.ref C)) (some "Exception.__new__") := by
      intro A Q E s k q
      unfold Bind.madeBy
      refine wpAny_bind (hm A _ E s k ?_)
      rw [hl, List.forIn_cons]
      refine wpAny_bind (wpAny_bind (wpAny_bind (wpAny_bind (wpAny_loadPart (k _ _ (X _ _ ho)) (wpAny_pure ?_)))))
      dsimp only
      rw [← Array.getElem?_toList, e3]
      exact wpAny_pure (wpAny_pure (wpAny_pure q))
    refine ⟨⟨oc, od, cd, sl, X _ _ ho, e1, e2, e4⟩, made, ?_, looks_mroIn X ?_, looks_mroIn X ?_, looks_specialIn X e7, looks_instIn X e8⟩
    · intro A Q E s k q
      unfold Bind.staticBase
      refine wpAny_bind (hm A _ E s k ?_)
      rw [hl, List.forIn_cons]
      exact wpAny_bind (wpAny_bind (wpAny_bind (made A _ E s k (wpAny_pure (wpAny_pure (wpAny_pure q))))))
    · unfold mroIn; rw [hc, Option.bind_some, if_neg (by rw [e4]; decide), e5]
    · unfold mroIn; rw [hc, Option.bind_some, if_neg (by rw [e4]; decide), e6]
  · cases e
theorem makes_66 (w : World) : makesE (KK w) 66 = true := by kernel_rfl
section
variable {prog : Program} {w : World} {A : Around} {K : Frag} {C : Addr} {R : Result → Shared → Prop} {h : Heap} {g : Array GenState} {d : Drawn} {t : Nat} {os : OsState}
theorem new_E {rest : List Value} (Y : MakesE (model prog w) h C) (na : Looks (model prog w) h (isSubtype (.ref C) (.type "AttributeError")) false) (nn : Looks (model prog w) h (isSubtype (.ref C) (.type "NameError")) false) (hrest : rest.length ≤ sizeLine)
    (hq : R (.ok (.ret (.ref (h.objs.size + 1)))) ⟨(h.push { cls := .type "tuple", data := .seq rest.toArray }).push { cls := .ref C, data := .fields #[.ref h.objs.size, .none, .none, .none, .bool false, .none] }, g, d, t, os⟩) :
    codeAny (model prog w) A (.call (.builtin "Exception.__new__") ⟨.ref C :: rest, []⟩) R ⟨h, g, d, t, os⟩ := by
  obtain ⟨⟨oc, od, cd, sl, hC, e1, e2, e4⟩, made, base, self, top, call, typ⟩ := Y
  have Fn := PySem.F.excBase_Exception
  have hstar := Fn.noStar
  refine codeAny_call_builtin_code (Code.quiet_builtin _ (by decide +kernel)) ?_
  simp only [checkBuiltinCall, Fn.newKind, Fn.newSplit, Fn.newRow]
  have here : Looks (model prog w) h (Bind.madeHere "Exception.__new__" (.ref C)) () := base.andThen (made.andThen (Looks.of_pure (by simp only [Option.map_some, bne_self_eq_false, Bool.false_eq_true, if_false])))
  have isT : Looks (model prog w) h (isType (.ref C)) true := (Looks.ld hC).andThen .now
  repeat (first | simp only [bne_self_eq_false, Bool.false_eq_true, if_false] | lk | wp_step)
  have hends := Fn.ends
  refine codeAny_builtinAt Fn.entry ?_
  unfold Builtin.«BaseException.__new__»
  refine PySem.wpAt_bind ?_
  show PySem.wpAt _ _ _ (stack >>= _) _ _ _
  refine PySem.wpAt_bind (PySem.wpAt_stack fun p below => wpAt_of_wpAny ?_)
  wp_walk
  refine PySem.wpAt_of_wpAny ?_
  rw [Fn.owner]
  repeat (first | simp only [Bool.not_true, Bool.false_eq_true, if_false] | lk | wp_step)
  refine wpAny_load (Heap.get?_push_of_some _ (Heap.get?_push_of_some _ hC)) ?_
  refine wpAny_pure ?_
  rw [e2]
  refine wpAny_pure (wpAny_pure ?_)
  show R _ _
  rw [Heap.size_push]
  exact hq
abbrev eInst (C ta : Addr) : Obj := { cls := .ref C, data := .fields #[.ref ta, .none, .none, .none, .bool false, .none] }
theorem make_E {rest : List Value} {init : Value} (Y : MakesE (model prog w) h C) (na : Looks (model prog w) h (isSubtype (.ref C) (.type "AttributeError")) false) (nn : Looks (model prog w) h (isSubtype (.ref C) (.type "NameError")) false) (hrest : rest.length ≤ sizeLine)
    (hi : Looks (model prog w) h (typeLookup (.ref C) "__init__") (some init)) (hb : ∀ self, Looks (model prog w) h (bindSpecial init self) (init, [self]))
    (hq : codeAny (model prog w) (A.under (.builtin "type.__call__" ⟨.ref C :: rest, []⟩)) (.call init ⟨.ref (h.objs.size + 1) :: rest, []⟩) (InitBack (h.objs.size + 1) R) ⟨(h.push { cls := .type "tuple", data := .seq rest.toArray }).push (eInst C h.objs.size), g, d, t, os⟩) :
    codeAny (model prog w) A (.call (.ref C) ⟨rest, []⟩) R ⟨h, g, d, t, os⟩ := by
  have Y' := Y
  obtain ⟨⟨oc, od, cd, sl, hC, e1, e2, e4⟩, made, base, self, top, call, typ⟩ := Y
  refine codeAny_of_tree ?_
  show wpAny _ _ (callAny (.ref C) _) _ _ _
  refine nd_load hC ?_
  show wpAny _ _ (callAny.viaDunder (.ref C) _) _ _ _
  unfold callAny.viaDunder
  refine wpAny_bind (call.at ?_)
  dsimp only
  rw [tc_bind]
  refine wpAny_bind (wpAny_pure (wpAny_bind (wpAny_pure ?_)))
  refine wpAny_pure (a := Fin.again (.call (.builtin "type.__call__") ⟨.ref C :: rest, []⟩)) (And.intro rfl ?_)
  refine codeAny_call_builtin_at (Code.quiet_builtin _ (by decide +kernel)) entry_typeCall (check_slot tc_kind tc_split typ (tc_args _ _ _) ?_)
  unfold Builtin.«type.__call__»
  have hm : Looks (model prog w) h (mroOf (.ref C)) cd.mro := ((Looks.ld (part := none) hC).andThen .now).andThen .now
  repeat (first | simp only [e4, Bool.false_eq_true, if_false] | with_reducible refine wpAny_call ?_ | lk)
  refine new_E Y' na nn hrest ?_
  have k : ∀ b o, h.get? b = some o → ((h.push { cls := .type "tuple", data := .seq rest.toArray }).push (eInst C h.objs.size)).get? b = some o := fun b o e => Heap.get?_push_of_some _ (Heap.get?_push_of_some _ e)
  have hx : ((h.push { cls := .type "tuple", data := .seq rest.toArray }).push (eInst C h.objs.size)).get? (h.objs.size + 1) = some (eInst C h.objs.size) := by heap_get
  have t1 : Looks (model prog w) ((h.push { cls := .type "tuple", data := .seq rest.toArray }).push (eInst C h.objs.size)) (typeOf (.ref (h.objs.size + 1))) (.ref C) := (Looks.ld hx).andThen .now
  have s1 := self.keeps k
  have i1 := hi.keeps k
  have b1 := (hb (.ref (h.objs.size + 1))).keeps k
  unfold isInstance callSpecial? specialOf
  repeat (first | with_reducible refine wpAny_call ?_ | lk)
  refine codeAny_mono hq fun r s' z => ?_
  rcases r with e | (v | _ | _ | _) <;> first | exact z | exact z.elim | skip
  obtain ⟨rfl, z⟩ := z
  exact wpAny_pure (wpAny_pure z)
end
end Mine
end
section
open PySem PySem.W PySem.W.X PyProof.Rows PySem.Calls
set_option maxRecDepth 100000
set_option maxHeartbeats 400000
namespace Mine
theorem along_init (w : World) : alongIn (KK w) "__init__" (behind (KK w) 66 41) = some (some (.builtin "KeyError.__init__")) := by kernel_rfl
theorem ty_kei : typeOf (.builtin "KeyError.__init__") = pure (.type "wrapper_descriptor") := by show builtinType _ = _; rw [builtinType_eq_fast]; kernel_rfl
theorem own_kei : ".".intercalate ("KeyError.__init__".cutAt '.').dropLast = "KeyError" := by decide +kernel
theorem ent_kei : entryFor table "KeyError.__init__" = some Builtin.«BaseException.__init__» := entryFor_alias (id' := "BaseException.__init__") (by rw [fastTable_eq_tree]; kernel_rfl) (by first | rfl | decide +kernel) (by decide +kernel) (by rw [fastTable_eq_tree]; kernel_rfl)
theorem cls_66 (w : World) : ∃ cd, clsIn (KK w) 66 = some cd ∧ cd.mro = [.ref 66, .ref 54, .ref 41, .type "KeyError", .type "LookupError", .type "Exception", .type "BaseException", .type "object"] ∧ cd.hasDict = true := ⟨_, by rfl, by rfl, by rfl⟩
theorem find_desc (w : World) : ∃ x u, findIn (KK w) (.ref 66) "description" = some (some (.str x u)) := ⟨_, _, by rfl⟩
theorem refuse_exc (self : Value) : refuseLoop self "__setattr__" [.type "KeyError", .type "LookupError", .type "Exception", .type "BaseException", .type "object"] = pure () := by kernel_rfl
theorem chk_kei {w : World} {h : Heap} {x : Addr} {ox : Obj} {odx : Option Obj} (X : (KK w).In h) (I : InstAt h x ox 66 odx) : Looks (model P w) h (checkBoundCall "KeyError.__init__" ⟨[.ref x], []⟩) () := by
  have hc := excClass_KeyError
  obtain ⟨cd, hcd, hm, -⟩ := cls_66 w
  have L0 : Looks (model P w) h (typeOf (.ref x)) (.ref 66) := I.type
  have L1 := looks_clsIn (M := model P w) X hcd
  unfold checkBoundCall
  rw [hc.initSig, hc.initKind]
  dsimp only
  rw [if_pos (by decide)]
  unfold Bind.checkArgs
  dsimp only
  have LP : Looks (model P w) h (Bind.printed "*" true ⟨.positional, "*", "KeyError", .self, [⟨"args", .varPos, false⟩]⟩ (some (.ref x))) cd.name.toString := by
    unfold Bind.printed Bind.receiverType
    rw [if_neg (by decide)]
    dsimp only
    rw [if_neg (by decide)]
    refine L0.andThen ?_
    refine Looks.andThen (a := cd.name.toString) ?_ .now
    unfold typeNameWhole
    exact L1.andThen .now
  have LQ : Looks (model P w) h (Bind.printed "KeyError" false ⟨.positional, "*", "KeyError", .self, [⟨"args", .varPos, false⟩]⟩ (some (.ref x))) "KeyError" := by
    unfold Bind.printed
    rw [if_pos (by decide)]
    exact .now
  have hp := check_varPos "KeyError" cd.name.toString "KeyError" 0
  refine Looks.andThen LP (Looks.andThen LQ ?_)
  show Looks _ _ ((Bind.check _ cd.name.toString "KeyError" 0 []).onRaise _) _
  rw [hp]
  exact .now
section
variable {w : World} {M : Model} {A : Around} {E : Value → Shared → Prop} {h : Heap} {g : Array GenState} {d : Drawn} {t : Nat} {os : OsState}
theorem wd_getK {x C : Addr} {Q : Fin → Shared → Prop} (ht : Looks M h (typeOf (.ref x)) (.ref C)) (hs : Looks M h (isSubtype (.ref C) (.type "KeyError")) true)
    (hq : Q (.done (.ret (.ref h.objs.size))) ⟨h.push (bObj "method-wrapper" "KeyError.__init__" x), g, d, t, os⟩) :
    wpAny M A (Builtin.«wrapper_descriptor.__get__» ⟨[.builtin "KeyError.__init__", .ref x, .ref C], []⟩) Q E ⟨h, g, d, t, os⟩ := by
  have hi : Looks M h (isInstance (.ref x) (.type (".".intercalate ("KeyError.__init__".cutAt '.').dropLast))) true := by rw [own_kei]; exact ht.andThen hs
  unfold Builtin.«wrapper_descriptor.__get__»
  repeat (first | with_reducible refine Looks.at hi ?_ | lk)
  exact hq
end
section
variable {w : World} {A : Around} {E : Value → Shared → Prop} {s : Shared} {env : Env} {m : Str → Option Value} {x f cda cc : Addr} {ox of oc oD : Obj} {odx : Option Obj} {fd : FuncData} {ar : Arg} {vs : Array Value} {file : Str} {tf : Tok} {cl : Value} {cld : Option Addr} {csl : Array (Option Value)} {cdC cdD : ClassData} {body : List Stmt} {p0 p1 : Pos}
theorem super_callK {apos pos : Pos} {pl : Sem Bool} {Q : Value → Shared → Prop} (T : TopH w s.heap) (n : s.heap.Ns env.locals m) (I : InstAt s.heap x ox 66 odx)
    (hf : (KK w).lookup f = some of) (hfd : of.data = .func fd) (hp : (fd.params.posonlyargs ++ fd.params.args).head? = some ar) (hv : m ar.arg = some (.ref x))
    (hcode : (KK w).lookup cda = some oc) (hoc : oc.data = .fields vs) (hvs : vs[2]? = some (.str file tf)) (hfile : ((P.main.file : Str) == file) = true)
    (hcell : (KK w).lookup cc = some ⟨cl, cld, .cell (some (.ref 41)), csl⟩) (hD : (KK w).lookup 41 = some oD) (hDt : oD.data = .cls cdD)
    (hg : env.globals = mainGlobals) (hb : env.builtins = builtinsNs) (hfu : env.func = some f) (hco : env.code = .ref cda) (hcl : env.cells.lookup ("__class__" : Str) = some cc) (hk : env.scope.kind = .function)
    (hks : env.kindOf "super" = some .globalImplicit) (hkc : env.kindOf "__class__" = some .free) (hka : env.kindOf ar.arg = some .local)
    (h : ∀ q h', s.heap.get? q = none → h'.get? q = some (bObj "method-wrapper" "KeyError.__init__" x) → (∀ b o, s.heap.get? b = some o → h'.get? b = some o) →
      wpAny (model P w) A (callWith pos (.ref q) [] (backTo pos (starEach [] env)) []) Q E { s with heap := h', toks := s.toks + 1 })
    (he : eval (.Call (.Attribute (.Call (.Name "super" p0) [] [] p1) "__init__" apos) [] [] pos) env = (do
      let ov ← attributeBase (.Call (.Name "super" p0) [] [] p1) "__init__" env (eval (.Call (.Name "super" p0) [] [] p1) env)
      standAt apos.atName
      let (f, first) ← holding [ov] (getMethod ov "__init__" pl)
      callWith pos f first (backTo pos (starEach [] env)) []) := by rfl) :
    PySem.wpAt (model P w) A (.func body env) (eval (.Call (.Attribute (.Call (.Name "super" p0) [] [] p1) "__init__" apos) [] [] pos) env) Q E s := by
  refine ks_wpAt_MethodCall (super_base T n I hf hfd hp hv hcode hoc hvs hfile hcell hD hDt (by kernel_rfl) hg hb hfu hco hcl hk hks hkc hka (by decide) fun h' e k => ?_) he
  obtain ⟨hh, g, d, t, os⟩ := s
  obtain ⟨cdC, hcC, hm, -⟩ := cls_66 w
  have X : (KK w).In h' := fun b o e => k b o (T.K b o e)
  have I' : InstAt h' x ox 66 odx := ⟨k _ _ I.at_, I.cls, I.no, by
    have := I.dict
    revert this
    cases ox.dict <;> cases odx <;> first | exact fun z => z | exact fun z => k _ _ z⟩
  have hC : Looks (model P w) h' (mroOf (.ref 66)) cdC.mro := (looks_clsIn X hcC).andThen .now
  have hl : (cdC.mro.dropWhile (· != .ref 41)).drop 1 = behind (KK w) 66 41 := by unfold behind; rw [hcC]
  have hsub' : Looks (model P w) h' (isSubtype (.ref 66) (.type "KeyError")) true := looks_mroIn X (by kernel_rfl)
  have hx : Looks (model P w) h' (typeOf (.ref x)) (.ref 66) := I'.type
  have hxC : x ≠ 66 := ks_ne X I' hcC
  have nq : hh.get? h'.objs.size = none := by
    cases q : hh.get? h'.objs.size with
    | none => rfl
    | some o => exact absurd (Heap.lt_size (k _ _ q)) (Nat.lt_irrefl _)
  refine getMethod_super e (looks_opaque X (third_no w)) hC hl X (along_init w) ty_kei lk_wd_get slot_wd_get ent_wd_get args_wd_get hx (fun A' E' => wd_getK hx hsub' ⟨rfl, rfl⟩) hxC (by decide) ?_
  exact h _ _ nq (Heap.get?_push_size _ rfl) fun b o q => Heap.get?_push_of_some _ (k b o q)
end
theorem store_in {w : World} {A : Around} {E : Value → Shared → Prop} {h : Heap} {g : Array GenState} {d : Drawn} {t : Nat} {os : OsState} {dx : Addr} {name : Str} {v : Value} {tk : Tok} {mA : Str → Option Value} {ns : List Str} {Q : Fin → Shared → Prop}
    (hns : h.Ns1 dx mA) (hw : Within mA ns) (hz : ns.length ≤ 10) (hQ : ∀ h' tk, h'.Ns1 dx (fun y => if y = name then some v else mA y) → Heap.SameBut dx h h' → (∃ o, h'.get? dx = some o) → Q (.done (.ret .none)) ⟨h', g, d, tk, os⟩) :
    wpAny (model P w) A (Builtin.ObjectAttr.storeInDict dx (.str name tk) name v) Q E ⟨h, g, d, t, os⟩ := by
  unfold Builtin.ObjectAttr.storeInDict Builtin.ObjectAttr.newKeyGuard
  refine wpAny_bind (wpAny_pure (wpAny_bind (wpAny_nsSet1 hns fun h' hn' hs => ?_)))
  obtain ⟨oD, esD, epD, hoD, hdD, hcD⟩ := hn'.count (Within.cons name v hw)
  refine wpAny_bind (wpAny_lookBehind hoD (by rw [hdD]; exact pastItsLine_dict (Nat.le_trans hcD (by rw [List.length_cons, sizeLine_eq]; omega))) (wpAny_pure ?_))
  exact hQ _ _ hn' hs ⟨_, hoD⟩
abbrev eObj (d : Option Addr) (vs : Array Value) : Obj := { cls := .ref 66, dict := d, data := .fields vs }
section
variable {w : World} {A : Around} {h : Heap} {g : Array GenState} {d : Drawn} {t : Nat} {os : OsState} {x dx : Addr} {vs : Array Value} {name : Str} {v : Value} {tk : Tok} {R : Result → Shared → Prop} {fo : Option Value} {mA : Str → Option Value}
theorem set_exc0 (T : TopH w h) (hx : h.get? x = some (eObj none vs)) (hf : findIn (KK w) (.ref 66) name = some fo) (hn : Looks (model P w) h (Builtin.ObjectAttr.storeTaker? fo) none)
    (hR : ∀ h' tk dx, h'.get? x = some (eObj (some dx) vs) → h'.Ns1 dx (fun y => if y = name then some v else none) → x ≠ dx → h.get? dx = none → Ext [x] h h' → R (.ok (.ret .none)) ⟨h', g, d, tk, os⟩) :
    codeAny (model P w) A (.call (.builtin "object.__setattr__") ⟨[.ref x, .str name tk, v], []⟩) R ⟨h, g, d, t, os⟩ := by
  have SF := PySem.F.store_object
  have X := T.K
  obtain ⟨cd, hc, hm, hd⟩ := cls_66 w
  have L0 : Looks (model P w) h (typeOf (.ref x)) (.ref 66) := (Looks.ld hx).andThen .now
  have L1 : Looks (model P w) h (mroOf (.ref 66)) cd.mro := (looks_clsIn X hc).andThen .now
  have L2 : Looks (model P w) h (isInstance (.ref x) (.type "object")) true := L0.andThen (looks_mroIn X (by kernel_rfl))
  have L3 : Looks (model P w) h (typeLookup (.ref 66) name) fo := looks_findIn X hf
  refine codeAny_call_builtin SF.slot.plain SF.entry (@check_slot (model P w) _ _ ⟨h, g, d, t, os⟩ "object.__setattr__" "object" "__setattr__" (.ref x) [.str name tk, v] [] _ SF.kind SF.split L2 (SF.args (.ref x) (.str name tk) v) ?_)
  rw [osa_eq, refuse_eq]
  refine wpAny_bind (wpAny_bind (L0.at (wpAny_bind (L1.at ?_))))
  rw [hm, refuseLoop_ref, refuseLoop_ref, refuseLoop_ref, refuse_exc]
  refine wpAny_pure (wpAny_bind (L0.at (wpAny_bind (L3.at (wpAny_bind (hn.at ?_))))))
  dsimp only
  have L4 := looks_clsIn (M := model P w) X hc
  unfold Builtin.ObjectAttr.storeInOwnDict
  repeat (first | simp only [hd] | lk)
  have hxs : x ≠ h.objs.size := Nat.ne_of_lt (Heap.lt_size hx)
  have hx₁ : (h.push { cls := .type "dict", data := .dict #[] }).get? x = some (eObj none vs) := Heap.get?_push_of_some _ hx
  refine wpAny_update' hx₁ ?_
  refine wpAny_pure ?_
  have hgd : ((h.push { cls := .type "dict", data := .dict #[] }).update x fun o => { cls := o.cls, dict := some h.objs.size, data := o.data, slots := o.slots }).get? h.objs.size
      = some { cls := .type "dict", data := .dict #[] } := (Heap.get?_update_ne _ _ _ _ hxs.symm).trans (Heap.get?_push_at rfl rfl)
  have hnd : ((h.push { cls := .type "dict", data := .dict #[] }).update x fun o => { cls := o.cls, dict := some h.objs.size, data := o.data, slots := o.slots }).Ns h.objs.size (fun _ => none) :=
    ⟨_, #[], _, hgd, rfl, fun e he => absurd he (by simp), fun _ => rfl⟩
  have hx2 : ((h.push { cls := .type "dict", data := .dict #[] }).update x fun o => { cls := o.cls, dict := some h.objs.size, data := o.data, slots := o.slots }).get? x = some (eObj (some h.objs.size) vs) := Heap.get?_update_self _ hx₁ rfl
  have x1 : Ext [x] h ((h.push { cls := .type "dict", data := .dict #[] }).update x fun o => { cls := o.cls, dict := some h.objs.size, data := o.data, slots := o.slots }) :=
    ((Ext.push h _).mono (mod' := [x]) (by simp)).trans (.sameBut (Heap.SameBut.update ..) ⟨_, hx2⟩) fun _ q => .inl q
  show wpAny _ _ (Builtin.ObjectAttr.storeInDict h.objs.size (.str name tk) name v) _ _ _
  refine store_in (Heap.Ns1.of_empty hnd) Within.nil (by simp) fun h' tk' hn' hs ho => ?_
  exact hR _ _ h.objs.size ((hs.2 x hxs).trans hx2) hn' hxs (get_size _) (x1.trans (.sameBut hs ho) fun b q => by rw [List.mem_singleton.mp q]; exact .inr (get_size _))
theorem set_exc1 (T : TopH w h) (hx : h.get? x = some (eObj (some dx) vs)) (hns : h.Ns1 dx mA) {ns : List Str} (hw : Within mA ns) (hz : ns.length ≤ 10) (hxd : x ≠ dx) (hf : findIn (KK w) (.ref 66) name = some fo) (hn : Looks (model P w) h (Builtin.ObjectAttr.storeTaker? fo) none)
    (hR : ∀ h' tk, h'.get? x = some (eObj (some dx) vs) → Ext [dx] h h' → R (.ok (.ret .none)) ⟨h', g, d, tk, os⟩) :
    codeAny (model P w) A (.call (.builtin "object.__setattr__") ⟨[.ref x, .str name tk, v], []⟩) R ⟨h, g, d, t, os⟩ := by
  have SF := PySem.F.store_object
  have X := T.K
  obtain ⟨cd, hc, hm, hd⟩ := cls_66 w
  have L0 : Looks (model P w) h (typeOf (.ref x)) (.ref 66) := (Looks.ld hx).andThen .now
  have L1 : Looks (model P w) h (mroOf (.ref 66)) cd.mro := (looks_clsIn X hc).andThen .now
  have L2 : Looks (model P w) h (isInstance (.ref x) (.type "object")) true := L0.andThen (looks_mroIn X (by kernel_rfl))
  have L3 : Looks (model P w) h (typeLookup (.ref 66) name) fo := looks_findIn X hf
  refine codeAny_call_builtin SF.slot.plain SF.entry (@check_slot (model P w) _ _ ⟨h, g, d, t, os⟩ "object.__setattr__" "object" "__setattr__" (.ref x) [.str name tk, v] [] _ SF.kind SF.split L2 (SF.args (.ref x) (.str name tk) v) ?_)
  rw [osa_eq, refuse_eq]
  refine wpAny_bind (wpAny_bind (L0.at (wpAny_bind (L1.at ?_))))
  rw [hm, refuseLoop_ref, refuseLoop_ref, refuseLoop_ref, refuse_exc]
  refine wpAny_pure (wpAny_bind (L0.at (wpAny_bind (L3.at (wpAny_bind (hn.at ?_))))))
  dsimp only
  have L4 := looks_clsIn (M := model P w) X hc
  unfold Builtin.ObjectAttr.storeInOwnDict
  repeat (first | (with_reducible refine store_in hns hw hz fun h' tk' hn' hs ho => ?_) | simp only [hd] | lk)
  exact hR _ _ ((hs.2 x hxd).trans hx) (.sameBut hs ho)
theorem taker_none : Looks (model P w) h (Builtin.ObjectAttr.storeTaker? none) none := .now
theorem taker_str {x : Str} {u : Tok} : Looks (model P w) h (Builtin.ObjectAttr.storeTaker? (some (.str x u))) none := by
  unfold Builtin.ObjectAttr.storeTaker?
  exact Looks.andThen (a := false) (Looks.of_pure (by kernel_rfl)) .now
end
local macro_rules | `(tactic| walk_at "nl") => `(tactic| refine name_local (Me.ns (by assumption)) (by first | assumption | rfl) ?_)
theorem brk_init {w : World} {A : Around} {s : Shared} {R : Result → Shared → Prop} {x ta : Addr} {k : Str} {tk : Tok} (hA : Rm 500 A) (hh : A.handled = none) (T : TopH w s.heap)
    (hx : s.heap.get? x = some (eObj none #[.ref ta, .none, .none, .none, .bool false, .none])) (hlow : 604 ≤ x)
    (hR : ∀ h' tk ta' dx, h'.get? x = some (eObj dx #[.ref ta', .none, .none, .none, .bool false, .none]) → Ext [x] s.heap h' → R (.ok (.ret .none)) ⟨h', s.gens, s.drawn, tk, s.os⟩) :
    codeAny (model P w) A (.call (.ref 38) ⟨[.ref x, .str k tk], []⟩) R s := by
  refine enterAt [(Str.ofString "self", .ref x), (Str.ofString "description", .str k tk), (Str.ofString "response", .none)] hA T (by rfl) (by rfl) (by rfl) (by rfl) (binds_K T.K rfl (by rfl) rfl rfl rfl) (by decide) (locs rfl) fun h₁ D hA' hh' => ?_
  replace hh' := hh'.trans hh
  have T1 := D.top T (by simp)
  have x1 := D.ext.get hx rfl (by simp)
  have I1 : InstAt h₁ x (eObj none #[.ref ta, .none, .none, .none, .bool false, .none]) 66 none := ⟨x1, rfl, rfl, trivial⟩
  refine ks_wpAt_execs_cons ?_
  refine ks_wpAt_Expr_any ?_
  refine super_callK (x := x) T1 D.ns I1 (by rfl) rfl (by rfl) rfl (by rfl) rfl (by rfl) (by rfl) (by rfl) (by rfl) rfl rfl rfl rfl rfl rfl rfl rfl rfl rfl (fun q h2 nq hq kp => ?_)
  dsimp only
  refine call_b0 (x := x) (T := "method-wrapper") (id := "KeyError.__init__") (.inl rfl) hq ?_
  refine wpAny_call ?_
  have T2 : TopH w h2 := T1.ext (.of_keeps kp) (by simp)
  have x2 := kp _ _ x1
  have I2 : InstAt h2 x (eObj none #[.ref ta, .none, .none, .none, .bool false, .none]) 66 none := ⟨x2, rfl, rfl, trivial⟩
  refine code_bound (.inl rfl) hq (chk_kei T2.K I2) (fun _ => Code.quiet_builtin _ (by decide +kernel)) ent_kei ?_
  refine owsi_base x2 rfl rfl ?_
  have xp := Heap.get?_push_of_some (h := h2) { cls := .type "tuple", data := .seq #[] } x2
  have x3 : ((h2.push { cls := .type "tuple", data := .seq #[] }).update x (Obj.mapFields (·.setIfInBounds 0 (.ref h2.objs.size)))).get? x = some (eObj none #[.ref h2.objs.size, .none, .none, .none, .bool false, .none]) := by rw [Heap.get?_update_self _ xp rfl]; rfl
  have e3 : Ext [x] h2 ((h2.push { cls := .type "tuple", data := .seq #[] }).update x (Obj.mapFields (·.setIfInBounds 0 (.ref h2.objs.size)))) :=
    ((Ext.push h2 _).mono (mod' := [x]) (by simp)).trans (.sameBut (Heap.SameBut.update ..) ⟨_, x3⟩) fun _ q => .inl q
  dsimp only
  generalize h2.objs.size = ta' at x3 e3 ⊢
  generalize (h2.push { cls := .type "tuple", data := .seq #[] }).update x (Obj.mapFields (·.setIfInBounds 0 (.ref ta'))) = h3 at x3 e3 ⊢
  have xL : s.heap.objs.size ≠ x := fun q => by rw [← q, get_size] at hx; cases hx
  have mx : ∀ a ∈ [x], 604 ≤ a := fun a q => by rw [List.mem_singleton.mp q]; exact hlow
  replace D := ((D.call (.of_keeps kp)).may (mod' := [x]) (by simp)).callM e3 (fun a q => .inl q) (by simpa using xL)
  clear e3 xp hq nq kp I1 I2 T2 T1 x1 x2 h2 h₁
  refine ks_wpAt_execs_cons (wpAt_of_wpAny ?_)
  refine wpAny_If ?_
  refine wpAny_isTrue_Compare1 ?_
  walk_at "nl"
  refine wpAny_Constant_none ?_
  refine isNot_none ?_
  refine wpAny_truthy_bool ?_
  rw [if_pos (show (!(Value.str k tk == Value.none)) = true from rfl)]
  have T3 := D.top T mx
  refine wpAny_execs_cons ?_
  refine plainObj_wpAny_Assign_Attribute ?_
  walk_at "nl"
  walk_at "nl"
  refine set_plain T3.K (⟨x3, rfl, rfl, trivial⟩ : InstAt h3 x (eObj none #[.ref ta', .none, .none, .none, .bool false, .none]) 66 none) (by kernel_rfl) ?_
  obtain ⟨xd, ud, hfd⟩ := find_desc w
  refine set_exc0 T3 x3 hfd taker_str (fun h4 tk4 dx x4 n4 ne4 f4 e4 => ?_)
  dsimp only
  have fdx : s.heap.get? dx = none := D.ext.fresh f4
  have Ldx : s.heap.objs.size ≠ dx := fun q => by
    obtain ⟨o, _, _, z, _⟩ := D.ns
    rw [q, f4] at z; cases z
  replace D := D.callM e4 (fun a q => .inl q) (by simpa using xL)
  have T4 := D.top T mx
  clear e4 f4 T3 x3 h3
  refine wpAny_execs_nil ?_
  dsimp only
  refine wpAt_of_wpAny ?_
  refine wpAny_execs_cons ?_
  refine plainObj_wpAny_Assign_Attribute ?_
  walk_at "nl"
  walk_at "nl"
  obtain ⟨on, _, _, eon, _⟩ := id n4
  refine set_plain T4.K (⟨x4, rfl, rfl, eon⟩ : InstAt h4 x (eObj (some dx) #[.ref ta', .none, .none, .none, .bool false, .none]) 66 (some on)) (by kernel_rfl) ?_
  refine set_exc1 T4 x4 n4 (Within.cons _ _ Within.nil) (by simp) ne4 (fo := none) (by kernel_rfl) taker_none (fun h5 tk5 x5 e5 => ?_)
  dsimp only
  refine wpAny_execs_nil ?_
  exact hR _ _ _ _ x5 (D.ext.trans e5 fun a q => by rw [List.mem_singleton.mp q]; exact .inr fdx)
end Mine
end
section
open PySem PySem.W PySem.W.X PyProof.Rows PySem.Calls
set_option maxRecDepth 100000
set_option maxHeartbeats 400000
namespace Mine
local macro_rules | `(tactic| walk_at "nt") => `(tactic| refine name_top (by assumption) rfl (by rfl) ?_)
def RaisableK (E : Value → Shared → Prop) (v : Value) (s₁ : Shared) : Prop :=
  ∃ a ob vs, v = .ref a ∧ s₁.heap.get? a = some ob ∧ ob.cls = .ref 66 ∧ ob.data = .fields vs ∧ vs[1]? = some .none ∧ E (.ref a) s₁
section
variable {w : World} {A : Around} {E : Value → Shared → Prop} {s : Shared} {env : Env}
theorem Raise_K {e : Expr} {pos : Pos} {Q : Flow → Shared → Prop} (hh : A.handled = none)
    (h : wpAny (model P w) A (eval e env) (fun v s₁ => TopH w s₁.heap ∧ RaisableK E v s₁) E s) : wpAny (model P w) A (exec (.Raise (some e) none pos) env) Q E s := by
  show wpAny _ A (do standAt pos; raiseStmt env (some (do let v ← eval e env; standAt pos; pure v)) none) Q E s
  refine wpAny_bind (wpAny_standAt ?_)
  unfold raiseStmt
  dsimp only
  refine wpAny_bind (wpAny_bind (wpAny_mono h (fun v s₁ h₁ => wpAny_bind (wpAny_standAt (wpAny_pure ?_))) fun _ _ x => x))
  obtain ⟨T, a, ob, vs, rfl, ha, hcls, hd, h1, hE⟩ := h₁
  have hnt : ∀ {Q' : Bool → Shared → Prop}, Q' false s₁ → wpAny (model P w) A (isType (.ref a)) Q' E s₁ := by
    intro Q' hq
    simp only [isType, loadHead]
    refine wpAny_bind (wpAny_loadPart ha ?_)
    rw [hd]; exact wpAny_pure hq
  have L0 : Looks (model P w) s₁.heap (typeOf (.ref a)) (.ref 66) := hcls ▸ (Looks.ld ha).andThen .now
  have L1 : Looks (model P w) s₁.heap (isInstance (.ref a) (.type "BaseException")) true := L0.andThen (looks_mroIn T.K (by kernel_rfl))
  have L2 : Looks (model P w) s₁.heap (typeOf (.ref 66)) (.type "type") := looks_typeIn T.K (by rfl)
  refine wpAny_bind (wpAny_pure ?_)
  dsimp only
  refine wpAny_bind (wpAny_holding ?_)
  unfold excFromValue isExcClass
  refine wpAny_bind (wpAny_bind (hnt ?_))
  simp only [Bool.false_eq_true, if_false]
  refine wpAny_pure ?_
  simp only [Bool.false_eq_true, if_false]
  refine wpAny_bind (L1.here ?_)
  simp only [if_true]
  refine wpAny_pure ?_
  refine wpAny_bind (hnt ?_)
  simp only [Bool.false_eq_true, if_false]
  unfold raisedInstance
  refine wpAny_bind (wpAny_bind (L0.here (wpAny_bind (L2.here ?_))))
  rw [if_pos (by decide)]
  refine wpAny_pure ?_
  unfold setFlight raiseNew
  refine wpAny_bind (wpAny_bind (wpAny_field ha hd h1 ?_))
  rw [if_neg (by decide)]
  refine wpAny_pure (wpAny_bind (wpAny_handled ?_))
  rw [hh]
  first
    | exact wpAny_throw hE
    | exact wpAny_bind (wpAny_pure (wpAny_throw hE))
end
theorem make_brk {w : World} {A : Around} {s : Shared} {R : Result → Shared → Prop} {k : Str} {tk : Tok} (hA : Rm 490 A) (hh : A.handled = none) (T : TopH w s.heap)
    (hR : ∀ h' tk e dx ta, h'.get? e = some (eObj dx #[.ref ta, .none, .none, .none, .bool false, .none]) → s.heap.get? e = none → Ext [] s.heap h' → R (.ok (.ret (.ref e))) ⟨h', s.gens, s.drawn, tk, s.os⟩) :
    codeAny (model P w) A (.call (.ref 66) ⟨[.str k tk], []⟩) R s := by
  obtain ⟨h, g, d, t, os⟩ := s
  have X := T.K
  refine make_E (makesE_of X (makes_66 w)) (looks_mroIn X (by kernel_rfl)) (looks_mroIn X (by kernel_rfl)) (by show (1 : Nat) ≤ sizeLine; decide) (looks_findIn X (show findIn (KK w) (.ref 66) "__init__" = some (some (.ref 38)) by kernel_rfl)) (fun self => bind_fn X self (by rfl)) ?_
  dsimp only at T hR X
  have k1 : ∀ b o, h.get? b = some o → ((h.push { cls := .type "tuple", data := .seq [Value.str k tk].toArray }).push (eInst 66 h.objs.size)).get? b = some o := fun b o e => Heap.get?_push_of_some _ (Heap.get?_push_of_some _ e)
  have hx : ((h.push { cls := .type "tuple", data := .seq [Value.str k tk].toArray }).push (eInst 66 h.objs.size)).get? (h.objs.size + 1) = some (eInst 66 h.objs.size) := by heap_get
  have fx : h.get? (h.objs.size + 1) = none := get_fresh (Nat.le_succ _)
  refine brk_init (x := h.objs.size + 1) ((hA.under rfl).mono (by decide)) hh (T.ext (.of_keeps k1) (by simp)) hx (Nat.le_succ_of_le T.low) (fun h' tk' ta' dx e1 e2 => ?_)
  exact ⟨rfl, hR _ _ _ _ _ e1 fx ((Ext.of_keeps k1).trans e2 fun a q => by rw [List.mem_singleton.mp q]; exact .inr fx)⟩
theorem Ext.narrow {mod : List Addr} {h h' : Heap} (x : Ext mod h h') (hm : ∀ a ∈ mod, h.get? a = none) : Ext [] h h' := (Ext.refl h).trans x fun a q => .inr (hm a q)
theorem leave_here {w : World} {A : Around} {E : Value → Shared → Prop} {s : Shared} {env : Env} {outer : List Env} {L e : Addr} {h₀ h₁ : Heap} {oe : Obj} {vs : Array Value} {a0 : Value} {Q : Unit → Shared → Prop} (x : Ext [] h₀ h₁) (y : Ext [] h₁ s.heap) (F : Fs A h₁ (env :: outer)) (hf : env.frame = some L) (hL : h₀.get? L = none)
    (he : s.heap.get? e = some oe) (hen : h₁.get? e = none) (hd : oe.data = .fields vs) (v0 : vs[0]? = some a0) (v1 : vs[1]? = some .none)
    (h : ∀ h', Flown h₀ outer e oe.cls h' → Q () { s with heap := h' }) : wpAny (model P w) A (leaving env (.ref e)) Q E s := by
  have y' : Ext [] h₁ (hideAll s.heap [e]) := ext_hide y hen
  exact leave_first (x.and y') (F.ext0 y') (fun b o q => of_hideAll _ q) hf hL he (hideAll_none _ (.head _)) hd v0 v1 h
local macro_rules | `(tactic| walk_at "nl") => `(tactic| refine name_local (Me.ns (by assumption)) (by first | assumption | rfl) ?_)
theorem comb_item {w : World} {A : Around} {s : Shared} {R : Result → Shared → Prop} {x dx dl b : Addr} {gs : List Grp} {hsh : Int} {t tk : Tok} {n c ep : Nat} {vs : Array Value} {es : Array DictEntry} {k : Str} {l : List Env} (hA : Rm 480 A) (hh : A.handled = none) (T : TopH w s.heap)
    (X : WH w b s.heap x gs dx dl hsh t n c vs es ep) (hlow : 604 ≤ b) (F : Fs A s.heap l)
    (hz : ∀ g ∈ gs, ∀ p ∈ g, p.2.length ≤ 100) (hne : ∀ g ∈ gs, ∀ p ∈ g, p.2 ≠ [])
    (hR1 : ∀ n' r, own gs k = n' :: r → ∀ h' tk tn, Ext [] s.heap h' → R (.ok (.ret (.int n' tn))) ⟨h', s.gens, s.drawn, tk, s.os⟩)
    (hR2 : own gs k = [] → ∀ h' tk e, Flown s.heap l e (.ref 66) h' → R (.error (.ref e)) ⟨h', s.gens, s.drawn, tk, s.os⟩) :
    codeAny (model P w) A (.call (.ref 463) ⟨[.ref x, .str k tk], []⟩) R s := by
  refine enter [(Str.ofString "self", .ref x), (Str.ofString "key", .str k tk)] hA T (by rfl) (by rfl) (by rfl) (by rfl) (BindsTo.of_eq rfl) (by decide) (locs rfl) fun h₁ D hA' hh' => ?_
  replace hh' := hh'.trans hh
  have X1 := X.ext0 D.ext
  have T1 := D.top T (by simp)
  refine wpAny_execs_cons ?_
  refine wpAny_For ?_
  refine Attribute_Name_ ?_
  walk_at "nl"
  refine get_dicts T1 X1 ?_
  refine wpAny_pyIter_list ⟨_, X1.ls, rfl, c, rfl⟩ ?_
  have fit : s.heap.get? h₁.objs.size = none := D.fresh
  have nit : s.heap.objs.size ≠ h₁.objs.size := Nat.ne_of_lt D.ns.lt
  have hit : (h₁.push { cls := .type "list_iterator", data := .fields #[.ref dl, .int 0 0] }).IsListIter h₁.objs.size dl 0 := ⟨_, Heap.get?_push_size _ rfl, rfl, rfl⟩
  replace D := D.call (Ext.push h₁ { cls := .type "list_iterator", data := .fields #[.ref dl, .int 0 0] })
  dsimp only
  generalize h₁.objs.size = it at fit nit hit ⊢
  generalize h₁.push { cls := .type "list_iterator", data := .fields #[.ref dl, .int 0 0] } = h2 at D hit ⊢
  clear X1 T1 h₁
  refine codeAny_forLoop (fun n' s' => ∃ i h' tk' m, n' + i = gs.length ∧ s' = ⟨h', s.gens, s.drawn, tk', s.os⟩ ∧ Me [] s.heap h' s.heap.objs.size m [] ∧ m "self" = some (.ref x) ∧ m "key" = some (.str k tk) ∧ h'.IsListIter it dl i ∧ anyHas (gs.take i) k = false) ?_ gs.length
    ⟨0, h2, _, _, by omega, rfl, D, by rfl, by rfl, hit, rfl⟩
  clear D hit h2
  rintro n' s' ⟨i, h', tk', m, hn, rfl, D, ms, mk, hit, hno⟩
  have X2 := X.ext0 D.ext
  have T2 := D.top T (by simp)
  cases n' with
  | zero =>
    refine wpAny_pyNext_list_end hh' hit ⟨_, X2.ls, rfl, c, rfl⟩ (by rw [Array.getElem?_eq_none_iff, X2.md.1]; omega) (fun h4 he => ?_)
    replace D := D.ownE he fit nit
    have T4 := D.top T (by simp)
    dsimp only
    refine wpAny_execs_nil ?_
    have : gs.take i = gs := List.take_of_length_le (by omega)
    rw [this] at hno
    refine wpAny_execs_cons ?_
    refine Raise_K hh' ?_
    refine wpAny_Call_NameR ?_
    walk_at "nt"
    refine call_fn (by rfl) ?_
    refine wpAny_items_cons ?_
    walk_at "nl"
    refine wpAny_items_nil ?_
    refine ⟨T4, ?_⟩
    refine wpAny_call ?_
    refine make_brk (hA'.mono (by decide)) hh' T4 (fun h5 tk5 e dx5 ta5 ee fe e5 => ?_)
    dsimp only
    refine ⟨T4.ext e5 (by simp), e, _, _, rfl, ee, rfl, rfl, rfl, ?_⟩
    have F4 := (F.ext0 D.ext).call hA' D.ns T.low
    refine leave_here D.ext e5 F4 rfl (get_size _) ee fe rfl rfl rfl (fun h6 fl => ?_)
    exact hR2 (own_no hno) _ _ _ fl
  | succ n' =>
    have hi : i < gs.length := by omega
    obtain ⟨mm, dm, kvs, em, pm, em1, Xm⟩ := X2.md.2 i gs[i] (List.getElem?_eq_getElem hi)
    refine wpAny_pyNext_list_item hit ⟨_, X2.ls, rfl, c, rfl⟩ em1 (fun h4 hit4 sb4 => ?_)
    replace D := D.ownE sb4.extBut fit nit
    dsimp only
    clear X2 T2 hit sb4 Xm
    refine wpAny_assign_Name ?_
    refine wpAny_storeName_local rfl D.ns (fun h5 hn5 hs5 => ?_) rfl
    replace D := D.store hn5 hs5
    have hit5 := hit4.at fun o e => (hs5.2 it (Ne.symm nit)).trans e
    dsimp only
    clear hn5 hs5 hit4 h4
    have X6 := X.ext0 D.ext
    have T6 := D.top T (by simp)
    obtain ⟨mm', dm, kvs, em, pm, em2, Xm⟩ := X6.md.2 i gs[i] (List.getElem?_eq_getElem hi)
    rw [em1] at em2; cases em2
    refine wpAny_execs_cons ?_
    refine wpAny_If ?_
    refine wpAny_isTrue_Compare1 ?_
    refine name_local D.ns (by rw [if_neg (by decide)]; exact mk) ?_
    refine name_local D.ns (by rw [if_pos (by decide)]) ?_
    refine in_MD T6 Xm (Nat.le_trans hlow Xm.lx) ?_
    refine wpAny_truthy_bool ?_
    by_cases hk : k ∈ gs[i].map (·.1)
    · rw [if_pos (decide_eq_true hk)]
      obtain ⟨n0, r0, hl0⟩ := look_yes (hne _ (List.getElem_mem hi)) hk
      refine wpAny_execs_cons ?_
      refine wpAny_Return_some ?_
      refine Subscript_ ?_
      refine name_local D.ns (by rw [if_pos (by decide)]) ?_
      refine name_local D.ns (by rw [if_neg (by decide)]; exact mk) ?_
      refine sub_D (f := 280) T6.K Xm.inst.i (by kernel_rfl) (by rfl) (by rfl) ?_
      refine wpAny_call ?_
      refine mget_spec (hA'.in1.mono (by decide)) hh' T6 Xm (Nat.le_trans hlow Xm.lx) (hz _ (List.getElem_mem hi)) hl0 (fun h7 tk7 tn e7 => ?_)
      obtain ⟨r1, hr1⟩ := own_at hi hno hl0
      exact hR1 _ _ hr1 _ _ _ (D.ext.and e7)
    · rw [if_neg (by simpa using hk)]
      refine wpAny_execs_nil ?_
      dsimp only
      refine wpAny_execs_nil ?_
      refine ⟨n', Nat.lt_succ_self n', i + 1, h5, _, _, by omega, rfl, D, ?_, ?_, hit5, ?_⟩
      · rw [if_neg (by decide)]; exact ms
      · rw [if_neg (by decide)]; exact mk
      · rw [anyHas_take hi, hno, decide_eq_false hk]; rfl
end Mine
end
section
open PySem PySem.W PySem.W.X PyProof.Rows PySem.Calls
set_option maxRecDepth 100000
set_option maxHeartbeats 400000
namespace Mine
local macro_rules | `(tactic| walk_at "nl") => `(tactic| refine name_local (Me.ns (by assumption)) (by first | assumption | rfl) ?_)
local macro_rules | `(tactic| walk_at "nb") => `(tactic| refine name_boot (by assumption) rfl rfl rfl (by boot_by_name) (by decide) ?_)
section
variable {w : World} {A : Around} {E : Value → Shared → Prop} {s : Shared} {env : Env}
theorem excMatches_own {a : Addr} {T : String} {C : Addr} {Q : Bool → Shared → Prop} (hT : Looks (model P w) s.heap (typeOf (.ref a)) (.ref C)) (hexc : isSubtype (.type T) (.type "BaseException") = pure true) (hnt : isSubtype (.type ((Manifest.find? T).elim "type" fun x => x.metatype)) (.type "tuple") = pure false)
    (hs : Looks (model P w) s.heap (isSubtype (.ref C) (.type T)) true) (h : Q true s) : wpAny (model P w) A (excMatches (.ref a) (.type T)) Q E s := by
  obtain ⟨hp, g, d, tk, os⟩ := s
  unfold excMatches
  repeat (first | (with_reducible refine Looks.at (by assumption) ?_) | wp_step)
  exact h
theorem handleBy_own {e : Addr} {T : String} {C : Addr} {t : Expr} {b₀ : Stmt} {suite : List Stmt} {pos : Pos} {rest : List ExceptHandler} {Q : Flow → Shared → Prop}
    (hexc : isSubtype (.type T) (.type "BaseException") = pure true) (hnt : isSubtype (.type ((Manifest.find? T).elim "type" fun x => x.metatype)) (.type "tuple") = pure false)
    (h : wpAny (model P w) (A.mark (some (.ref e))) (eval t env) (fun c s₁ => c = .type T ∧ Looks (model P w) s₁.heap (typeOf (.ref e)) (.ref C) ∧ Looks (model P w) s₁.heap (isSubtype (.ref C) (.type T)) true ∧
      wpAny (model P w) (A.mark (some (.ref e))) (setFlight (.ref e) none) (fun _ s₂ => wpAny (model P w) (A.mark (some (.ref e))) (execs (b₀ :: suite) env) Q (notedBy (model P w) (A.mark (some (.ref e))) env (cameBackBy (model P w) A env E)) s₂) (notedBy (model P w) (A.mark (some (.ref e))) env (cameBackBy (model P w) A env E)) s₁) (notedBy (model P w) (A.mark (some (.ref e))) env (cameBackBy (model P w) A env E)) s) :
    wpAny (model P w) A (handleBy (.ref e) env (.ExceptHandler (some t) none (b₀ :: suite) pos :: rest)) Q E s := by
  refine wpAny_handleBy_cons (codeAny_handlers_test (wpAny_mono h (fun c s₁ h₁ => ?_) fun _ _ x => x)) (by intro q; cases q)
  obtain ⟨rfl, hX, hs, hk⟩ := h₁
  refine excMatches_own hX hexc hnt hs ?_
  exact codeAny_handlers_suite hk
end
theorem first_spec {w : World} {A : Around} {s : Shared} {R : Result → Shared → Prop} {x dx dl b : Addr} {gs : List Grp} {hsh : Int} {t tk : Tok} {n c ep : Nat} {vs : Array Value} {es : Array DictEntry} {k : Str} {l : List Env} (hA : Rm 470 A) (hh : A.handled = none) (T : TopH w s.heap)
    (X : WH w b s.heap x gs dx dl hsh t n c vs es ep) (hlow : 604 ≤ b) (F : Fs A s.heap l)
    (hz : ∀ g ∈ gs, ∀ p ∈ g, p.2.length ≤ 100) (hne : ∀ g ∈ gs, ∀ p ∈ g, p.2 ≠ [])
    (hR : ∀ h' tk a, FExt (fa l) s.heap h' → IL s.heap.objs.size h' a ((own gs k).take 1) → R (.ok (.ret (.ref a))) ⟨h', s.gens, s.drawn, tk, s.os⟩) :
    codeAny (model P w) A (.call (.ref 598) ⟨[.ref x, .str k tk], []⟩) R s := by
  refine enterAt [(Str.ofString "whole", .ref x), (Str.ofString "key", .str k tk)] hA T (by rfl) (by rfl) (by rfl) (by rfl) (BindsTo.of_eq rfl) (by decide) (locs rfl) fun h₁ D hA' hh' => ?_
  replace hh' := hh'.trans hh
  have T1 := D.top T (by simp)
  have X1 := X.ext0 D.ext
  have F1 := (F.ext0 D.ext).call hA' D.ns T.low
  refine ks_wpAt_execs_cons ?_
  refine wpAt_Try ?_
  refine wpAt_of_wpAny ?_
  refine wpAny_execs_cons ?_
  refine wpAny_Return_some ?_
  refine wpAny_List ?_
  refine wpAny_items_cons ?_
  refine Subscript_ ?_
  walk_at "nl"
  walk_at "nl"
  refine sub_D (f := 463) T1.K X1.inst.i (by kernel_rfl) (by rfl) (by rfl) ?_
  refine wpAny_call ?_
  refine comb_item (hA'.in1.mono (by decide)) hh' T1 X1 hlow (F1.same rfl) hz hne (fun n' r ho h2 tk2 tn e2 => ?_) (fun ho h2 tk2 e fl => ?_)
  · dsimp only
    refine wpAny_items_nil ?_
    refine ⟨by show (1 : Nat) ≤ sizeLine; decide, ?_⟩
    dsimp only
    rw [ho] at hR
    replace D := D.call e2
    exact hR _ _ _ (.of (D.ext.and (.push _ _))) ⟨Nat.le_of_lt D.ns.lt, #[.int n' tn], 0, Heap.get?_push_size _ rfl, .cons _ _ .nil⟩
  · dsimp only
    obtain ⟨hm, a0, xm, zf⟩ := fl
    have Fm := F1.ext0 xm
    refine note_again Fm rfl zf (fun h4 z4 => ?_)
    refine land Fm z4 (fun h5 z5 => ?_)
    have x5 := z5.fext Fm
    have T5 := (T1.ext xm (by simp)).fext Fm x5
    obtain ⟨oe, ee, ce⟩ := z5.isA
    refine handleBy_own (T := "KeyError") (C := 66) sub_kb sub_kt ?_
    walk_at "nb"
    refine ⟨rfl, ce ▸ (Looks.ld ee).andThen .now, looks_mroIn T5.K (by kernel_rfl), ?_⟩
    refine land (Fm.same rfl) z5 (fun h6 z6 => ?_)
    have x6 := z6.fext Fm
    refine wpAny_execs_cons ?_
    refine wpAny_Return_some ?_
    refine wpAny_List ?_
    refine wpAny_items_nil ?_
    refine ⟨by simp, ?_⟩
    have nm : hm.Ns s.heap.objs.size _ := Ns_ext xm D.ns (by simp)
    have n6 : h6.Ns s.heap.objs.size _ := x6.ns _ (.head _) _ nm
    rw [ho] at hR
    exact hR _ _ _ ((FExt.leave (D.ext.and xm) x6 (get_size _)).trans (.of (.push _ _))) ⟨Nat.le_of_lt n6.lt, #[], 0, Heap.get?_push_size _ rfl, .nil⟩
end Mine
end
section
open PySem PySem.W PySem.W.X PyProof.Rows PySem.Calls
set_option maxRecDepth 100000
set_option maxHeartbeats 400000
namespace Mine
theorem ent_items : entryFor table "dict.items" = some Builtin.«dict.items» := F.entry_dict_items
abbrev vObj (d : Addr) : Obj := { cls := .type "dict_items", data := .fields #[.ref d] }
section
variable {w : World} {A : Around} {E : Value → Shared → Prop} {h : Heap} {g : Array GenState} {d : Drawn} {t : Nat} {os : OsState} {x C : Addr} {dx : Option Addr} {Cv : Value} {kvs : List (Str × Value)} {es : Array DictEntry} {ep : Nat}
theorem run_items {Q : Fin → Shared → Prop} (X : (KK w).In h) (I : DD w h x (.ref C) dx kvs es ep) (ho : mroIn (KK w) C (.type "collections.OrderedDict") = some false) (hx : (x == sysModules) = false)
    (hq : Q (.done (.ret (.ref h.objs.size))) ⟨h.push (vObj x), g, d, t, os⟩) : wpAny (model P w) A (Builtin.«dict.items» ⟨[.ref x], []⟩) Q E ⟨h, g, d, t, os⟩ := by
  have hI := I.at_
  have L : Looks (model P w) h (typeOf (.ref x)) (.ref C) := (Looks.ld hI).andThen .now
  have L1 : Looks (model P w) h (isInstance (.ref x) (.type "collections.OrderedDict")) false := L.andThen (looks_mroIn X ho)
  have L2 : Looks (model P w) h (isSubtype (.ref C) (.type "collections.OrderedDict")) false := looks_mroIn X ho
  unfold Builtin.«dict.items»
  repeat (first | simp only [hx, Bool.false_eq_true, if_false] | lk)
  exact hq
theorem iter_items {v : Addr} {Q : Value → Shared → Prop} (hv : h.get? v = some (vObj x)) (I : DD w h x Cv dx kvs es ep) (hz : kvs.length ≤ 1000)
    (hQ : Q (.ref h.objs.size) ⟨h.push { cls := .type "dict_itemiterator", data := .fields #[.none, .bool false, .ref x, .int 0 0, .int kvs.length 0, .int ep 0, .none, .none] }, g, d, t, os⟩) :
    wpAny (model P w) A (pyIter (.ref v)) Q E ⟨h, g, d, t, os⟩ := by
  have hV : (⟨h, g, d, t, os⟩ : Shared).TypeIs (.ref v) "dict_items" := ⟨_, hv, rfl⟩
  have hI := I.at_
  have hs := I.size
  refine wpAny_pyIter_slot hV F.slot_dict_items_iter (wpAny_call_entry F.slot_dict_items_iter hV F.entry_dict_items_iter ?_ (F.args_dict_items_iter_1 _))
  unfold Builtin.«dict_items.__iter__»
  repeat (first | simp only [Bool.false_eq_true, if_false] | lk)
  refine ⟨_, rfl, "dict_itemiterator", _, ⟨_, Heap.get?_push_size _ rfl, rfl⟩, F.slot_dict_itemiterator_next.lookup, ?_⟩
  rw [show Builtin.Dict_items.ownsTuple "dict_itemiterator" = true by decide, if_pos rfl, hs]
  exact hQ
def Held (p : Prop) : Prop := p
theorem Held.out {p : Prop} (h : Held p) : p := h
theorem Held.in {p : Prop} (h : p) : Held p := h
theorem next_items {it : Addr} {i : Nat} {k : Str} {v ok ov : Value} {Q : Option Value → Shared → Prop} (hit : IsItemIter h it x i kvs.length ep ok ov) (I : DD w h x Cv dx kvs es ep) (hx : kvs[i]? = some (k, v))
    (hQ : ∀ tk h', IsItemIterOut h' it x (i + 1) kvs.length ep (.str k tk) v h.objs.size →
      h'.get? h.objs.size = some { cls := .type "tuple", data := .seq #[.str k tk, v] } →
      (∀ b o, b ≠ it → h.get? b = some o → h'.get? b = some o) → Q (some (.ref h.objs.size)) ⟨h', g, d, t, os⟩) :
    wpAny (model P w) A (pyNext (.ref it)) Q E ⟨h, g, d, t, os⟩ := by
  have hT : (⟨h, g, d, t, os⟩ : Shared).TypeIs (.ref it) "dict_itemiterator" := ⟨_, hit, rfl⟩
  have hI := I.at_
  have hs := I.size
  have hi : i < kvs.length := (List.getElem?_eq_some_iff.mp hx).1
  have hi' : i < es.size := by rw [hs]; exact hi
  obtain ⟨hkey, hval⟩ := I.prs.get? (e := es[i]) (k := k) (v := v) (by simp [hi']) hx
  obtain ⟨tk, etk⟩ := Value.isStrOf_shape hkey
  have hown : Builtin.Dict_items.ownsTuple "dict_itemiterator" = true := by decide
  have LN : ∀ {h'} {od : Option Addr} {da : Data} {sl : Array (Option Value)}, h'.get? it = some { cls := .type "dict_itemiterator", dict := od, data := da, slots := sl } → Looks (model P w) h' (typeNameOfWhole (.ref it)) "dict_itemiterator" := fun e A Q E s k q => wpAny_typeNameOfWhole_itemiter (s := s) ⟨_, k _ _ e, rfl⟩ q
  have LB : ∀ {h'} {od : Option Addr} {da : Data} {sl : Array (Option Value)} (types : List String), h'.get? it = some { cls := .type "dict_itemiterator", dict := od, data := da, slots := sl } → Looks (model P w) h' (Builtin.Dict_items.isOneOf (.ref it) types) (types.any fun t => [Value.type "dict_itemiterator", Value.type "object"].contains (.type t)) := fun types e A Q E s k q => wpAny_isOneOf_itemiter (s := s) ⟨_, k _ _ e, rfl⟩ q
  have L0 := LN hit
  unfold pyNext
  refine wpAny_bind (wpAny_attempt (wpAny_callSpecial?_slot (name := Str.ofString "__next__") hT F.slot_dict_itemiterator_next
    (wpAny_call_entry F.slot_dict_itemiterator_next hT F.entry_dict_itemiterator_next ?_ (F.args_dict_itemiterator_next_1 _))))
  unfold Builtin.«dict_itemiterator.__next__»
  repeat (first | (with_reducible refine Looks.at (LB _ hit) ?_) | (with_reducible refine ite_no (by simp [hs]) ?_) | simp only [hown, if_true] | lk)
  rw [if_neg (show ¬ ((i : Int) < 0) by omega), Int.toNat_natCast, Array.getElem?_eq_getElem hi']
  dsimp only
  repeat (first | (with_reducible refine Looks.at (LB _ hit) ?_) | simp only [hown, if_true] | (with_reducible refine wpAny_setField_rec hit (by simp) fun h₁ he₁ hs₁ => Held.out ?_) | lk)
  refine Held.in ?_
  replace he₁ : IsItemIter h₁ it x (i + 1) kvs.length ep ok ov := by
    have e : ((i + 1 : Nat) : Int) = (i : Int) + 1 := by omega
    unfold IsItemIter; rw [e]; exact he₁
  replace hs₁ : Heap.SameBut it h h₁ := hs₁
  have he₂ := Heap.get?_push_of_some (h := h₁) { cls := .type "tuple", data := .seq [es[i].key, es[i].val].toArray } he₁
  repeat (first | simp only [if_true] | (with_reducible refine wpAny_setField_rec he₂ (by simp) fun h₃ he₃ hs₃ => Held.out ?_) | lk)
  refine Held.in ?_
  replace he₃ : IsItemIter h₃ it x (i + 1) kvs.length ep es[i].key ov := he₃
  repeat (first | (with_reducible refine wpAny_setField_rec he₃ (by simp) fun h₄ he₄ hs₄ => Held.out ?_) | lk)
  refine Held.in ?_
  replace he₄ : IsItemIter h₄ it x (i + 1) kvs.length ep es[i].key es[i].val := he₄
  repeat (first | (with_reducible refine wpAny_setField_rec he₄ (by simp) fun h₅ he₅ hs₅ => Held.out ?_) | lk)
  refine Held.in ?_
  replace he₅ : IsItemIterOut h₅ it x (i + 1) kvs.length ep es[i].key es[i].val h₁.objs.size := he₅
  repeat (first | (with_reducible refine wpAny_setField_rec he₅ (by simp) fun h₆ he₆ hs₆ => Held.out ?_) | lk)
  refine Held.in ?_
  replace he₆ : IsItemIterOut h₆ it x (i + 1) kvs.length ep es[i].key es[i].val h₁.objs.size := he₆
  repeat (first | (with_reducible refine wpAny_letGo ?_) | lk)
  have z₁ : h₁.objs.size = h.objs.size := hs₁.1
  have hil : it < h.objs.size := Heap.lt_size hit
  rw [etk, hval, z₁] at he₆
  refine ⟨_, rfl, wpAny_pure ?_⟩
  rw [z₁]
  have kb : ∀ {b : Addr} {o : Obj}, b ≠ it → (h₁.push { cls := .type "tuple", data := .seq [es[i].key, es[i].val].toArray }).get? b = some o → h₆.get? b = some o := fun hb e => hs₆.extBut _ _ hb (hs₅.extBut _ _ hb (hs₄.extBut _ _ hb (hs₃.extBut _ _ hb e)))
  refine hQ tk h₆ he₆ ?_ (fun b o hb e => kb hb (Heap.get?_push_of_some _ (hs₁.extBut _ _ hb e)))
  rw [← etk, ← hval]
  refine kb (Nat.ne_of_gt hil) ?_
  rw [← z₁]
  exact Heap.get?_push_size _ rfl
theorem next_items_end {it : Addr} {i : Nat} {ok ov : Value} {Q : Option Value → Shared → Prop} (hh : A.handled = none) (hit : IsItemIter h it x i kvs.length ep ok ov) (I : DD w h x Cv dx kvs es ep) (hx : kvs.length ≤ i)
    (hQ : ∀ h', Heap.ExtBut it h h' → Q none ⟨h', g, d, t, os⟩) :
    wpAny (model P w) A (pyNext (.ref it)) Q E ⟨h, g, d, t, os⟩ := by
  have hT : (⟨h, g, d, t, os⟩ : Shared).TypeIs (.ref it) "dict_itemiterator" := ⟨_, hit, rfl⟩
  have hI := I.at_
  have hs := I.size
  have hown : Builtin.Dict_items.ownsTuple "dict_itemiterator" = true := by decide
  have LN : ∀ {h'} {od : Option Addr} {da : Data} {sl : Array (Option Value)}, h'.get? it = some { cls := .type "dict_itemiterator", dict := od, data := da, slots := sl } → Looks (model P w) h' (typeNameOfWhole (.ref it)) "dict_itemiterator" := fun e A Q E s k q => wpAny_typeNameOfWhole_itemiter (s := s) ⟨_, k _ _ e, rfl⟩ q
  have L0 := LN hit
  unfold pyNext
  refine wpAny_bind (wpAny_attempt (wpAny_callSpecial?_slot (name := Str.ofString "__next__") hT F.slot_dict_itemiterator_next
    (wpAny_call_entry F.slot_dict_itemiterator_next hT F.entry_dict_itemiterator_next ?_ (F.args_dict_itemiterator_next_1 _))))
  unfold Builtin.«dict_itemiterator.__next__»
  repeat (first | (with_reducible refine ite_no (by simp [hs]) ?_) | simp only [hown, if_true] | lk)
  rw [if_neg (show ¬ ((i : Int) < 0) by omega), Int.toNat_natCast, Array.getElem?_eq_none (by rw [hs]; exact hx)]
  dsimp only
  repeat (first | simp only [hown, if_true] | (with_reducible refine wpAny_setField hit rfl (by simp) (Held.out ?_)) | lk)
  refine Held.in ?_
  have sbh := Heap.SameBut.update (a := it) (h := h) (f := Obj.mapFields fun x => x.setIfInBounds 2 Value.none)
  generalize h.update it (Obj.mapFields fun x => x.setIfInBounds 2 Value.none) = h₁ at sbh ⊢
  refine wpAny_bind ?_
  unfold newExc newTuple
  refine wpAny_bind (wpAny_newObj_type ?_ (by size_fits))
  refine wpAny_bind (wpAny_of_eq (a := Value.none) (by first | rfl | (simp only [firstArgMember]; rfl)) (wpAny_newObj_type ?_ (by size_fits)))
  refine wpAny_raiseNew_none (A := A.in1) hh ?_
  refine wpAny_bind (wpAny_isInstance (T := "StopIteration") (b := true) ⟨_, Heap.get?_push_size _ rfl, rfl⟩ isSubtype_stop ?_)
  exact wpAny_pure (hQ _ ((sbh.extBut.push _).push _))
end
end Mine
end
section
open PySem PySem.W PySem.W.X PyProof.Rows PySem.Calls
set_option maxRecDepth 100000
set_option maxHeartbeats 400000
namespace Mine
abbrev No : Value → Shared → Prop := fun _ _ => False
section
variable {M : Model} {A : Around} {R : GenEnd} {Y : Protocol} {n : Nat} {s₀ : Shared} {c : Code} {fs : List Frame} {s : Shared} {env : Env} {K : Flow → Sem Fin} {H : Value → Sem Fin} {gd : Bool → Bool} {lv : List Value → List Value}
theorem seg_do {α : Type} {m : Sem α} {f : α → Sem Flow} (h : wpAny M (A.over c fs) m (fun a s' => Seg M A R Y n s₀ c ((f a).wrap K H gd lv) fs s') No s) : Seg M A R Y n s₀ c ((m >>= f).wrap K H gd lv) fs s := by
  rw [Sem.bind_eq_wrap', Sem.wrap_wrap]
  exact seg_wrap (wpAny_mono h (fun _ _ z => z) fun _ _ z => z.elim)
theorem seg_all {m : Sem Flow} (h : wpAny M (A.over c fs) m (fun a s' => Seg M A R Y n s₀ c (K a) fs s') No s) : Seg M A R Y n s₀ c (m.wrap K H gd lv) fs s :=
  seg_wrap (wpAny_mono h (fun _ _ z => z) fun _ _ z => z.elim)
theorem seg_wrapAt {α : Type} {m : Sem α} {K : α → Sem Fin} {H : Value → Sem Fin} {gd lv} (h : PySem.wpAt M (A.over c []) c m (fun a s' => Seg M A R Y n s₀ c (K a) [] s') No s) : Seg M A R Y n s₀ c (m.wrap K H gd lv) [] s := by
  rw [seg_iff]
  rintro Γ p rfl hΓ
  exact runs_wrap_of_wp K H gd lv m (h (Γ.over []) p rfl (hΓ.over [])) (fun a p' s' h' => seg_iff.mp h' Γ p' rfl hΓ) (fun x p' s' h' => h'.elim)
theorem seg_doAt {α : Type} {m : Sem α} {f : α → Sem Flow} (h : PySem.wpAt M (A.over c []) c m (fun a s' => Seg M A R Y n s₀ c ((f a).wrap K H gd lv) [] s') No s) : Seg M A R Y n s₀ c ((m >>= f).wrap K H gd lv) [] s := by
  rw [Sem.bind_eq_wrap', Sem.wrap_wrap]
  exact seg_wrapAt h
theorem seg_stand {p : Pos} {m : Sem Flow} (h : Seg M A R Y n s₀ c (m.wrap K H gd lv) fs s) : Seg M A R Y n s₀ c ((standAt p >>= fun _ => m).wrap K H gd lv) fs s :=
  seg_do (wpAny_standAt h)
abbrev backK (env : Env) (K : Flow → Sem Fin) (H : Value → Sem Fin) (gd : Bool → Bool) (lv : List Value → List Value) : Result → Sem Fin :=
  fun r => ((match r with | .ok f => (.pure f : Sem Flow) | .error e => .raise e).onRaise fun (x : Value) => do
        if (← field x 1) == Value.none then unsupported "frame.own-activation:exception-without-traceback"
        setFlight x env.frame).wrap K H gd lv
theorem seg_For {target iter : Expr} {body orelse : List Stmt} {pos : Pos}
    (h : wpAny M (A.over c fs) (eval iter env) (fun x s₁ => wpAny M (A.over c fs) (pyIter x) (fun it s₂ => ∀ p, Seg M A R Y n s₀ (.forLoop target it body orelse env) (M.den (.forLoop target it body orelse env))
      (.ret (backK env K H gd lv) none (gd false) (lv []) c p [] :: fs) s₂) No s₁) No s) (hs : ∀ x, foldedSetIterable iter env x = pure x := by intro _; rfl) :
    Seg M A R Y n s₀ c ((exec (.For target iter body orelse pos) env).wrap K H gd lv) fs s := by
  rw [exec_For]
  refine seg_stand ?_
  refine seg_do (wpAny_mono h (fun x s₁ h₁ => ?_) fun _ _ z => z)
  rw [hs x]
  refine seg_do (wpAny_pure ?_)
  refine seg_stand ?_
  refine seg_do (wpAny_holding (wpAny_mono h₁ (fun it s₂ h₂ => ?_) fun _ _ z => z))
  exact seg_call h₂
theorem seg_ForAt {target iter : Expr} {body orelse : List Stmt} {pos : Pos}
    (h : PySem.wpAt M (A.over c []) c (eval iter env) (fun x s₁ => wpAny M (A.over c []) (pyIter x) (fun it s₂ => ∀ p, Seg M A R Y n s₀ (.forLoop target it body orelse env) (M.den (.forLoop target it body orelse env))
      [.ret (backK env K H gd lv) none (gd false) (lv []) c p []] s₂) No s₁) No s) (hs : ∀ x, foldedSetIterable iter env x = pure x := by intro _; rfl) :
    Seg M A R Y n s₀ c ((exec (.For target iter body orelse pos) env).wrap K H gd lv) [] s := by
  rw [exec_For]
  refine seg_stand ?_
  refine seg_doAt (ks_wpAt_mono h (fun x s₁ h₁ => ?_) fun _ _ z => z)
  rw [hs x]
  refine seg_do (wpAny_pure ?_)
  refine seg_stand ?_
  refine seg_do (wpAny_holding (wpAny_mono h₁ (fun it s₂ h₂ => ?_) fun _ _ z => z))
  exact seg_call h₂
theorem seg_If {test : Expr} {body orelse : List Stmt} {pos : Pos}
    (h : wpAny M (A.over c fs) (isTrue test env (eval test env)) (fun b s₁ => Seg M A R Y n s₀ c ((execs (if b = true then body else orelse) env).wrap K H gd lv) fs s₁) No s) :
    Seg M A R Y n s₀ c ((exec (.If test body orelse pos) env).wrap K H gd lv) fs s := by
  have e : exec (.If test body orelse pos) env = (standAt pos >>= fun _ => isTrue test env (eval test env) >>= fun b => execs (if b = true then body else orelse) env) := by
    show (do standAt pos; if ← isTrue test env (eval test env) then execs body env else execs orelse env) = _
    congr 1
    funext _
    congr 1
    funext b
    cases b <;> rfl
  rw [e]
  exact seg_stand (seg_do h)
end
section
variable {w : World} {A : Around} {R : GenEnd} {Y : Protocol} {n : Nat} {s₀ : Shared} {fs : List Frame} {s : Shared} {env : Env}
abbrev turnK (target : Expr) (it : Value) (body : List Stmt) (env : Env) : Flow → Sem Fin := fun f => match f with
  | .next | .cont => .pure (.again (.forLoop target it body [] env))
  | .brk => .pure (.done .next)
  | .ret v => .pure (.done (.ret v))
abbrev turnH (env : Env) : Value → Sem Fin := fun e => (do noteFrame e env; theTreesLotGoes e : Sem Unit).wrap (fun _ => .raise e) .raise id id
theorem seg_forLoop {target : Expr} {it : Value} {body : List Stmt} {k h g l c₁ p₁}
    (q : wpAny (model P w) (A.over (.forLoop target it body [] env) (.ret k h g l c₁ p₁ [] :: fs)) (pyNext it) (fun r s₁ => match r with
      | none => Seg (model P w) A R Y n s₀ c₁ (k (.ok .next)) fs s₁
      | some v => wpAny (model P w) (A.over (.forLoop target it body [] env) (.ret k h g l c₁ p₁ [] :: fs)) (letOwnedTupleGo target it v) (fun _ s₂ =>
          wpAny (model P w) (A.over (.forLoop target it body [] env) (.ret k h g l c₁ p₁ [] :: fs)) (assign target env v) (fun _ s₃ =>
            Seg (model P w) A R Y n s₀ (.forLoop target it body [] env) ((execs body env).wrap (turnK target it body env) (turnH env) id id) (.ret k h g l c₁ p₁ [] :: fs) s₃) No s₂) No s₁) No s) :
    Seg (model P w) A R Y n s₀ (.forLoop target it body [] env) ((model P w).den (.forLoop target it body [] env)) (.ret k h g l c₁ p₁ [] :: fs) s := by
  show Seg _ A R Y n s₀ _ ((forTurn target it body [] env).onRaise (fun x => do noteFrame x env; theTreesLotGoes x)) _ s
  rw [Sem.onRaise_eq_wrap]
  unfold forTurn
  rw [Sem.bind_eq_wrap', Sem.wrap_wrap]
  refine seg_wrap (wpAny_standAt ?_)
  rw [Sem.bind_eq_wrap', Sem.wrap_wrap]
  refine seg_wrap (wpAny_onRaise (wpAny_mono q (fun r s₁ h₁ => ?_) fun _ _ z => z.elim))
  cases r with
  | none =>
    dsimp only at h₁ ⊢
    show Seg _ A R Y n s₀ _ (.pure (.again (.block [] env))) _ s₁
    refine seg_again rfl ?_
    exact seg_leaf (.ok .next) h₁
  | some v =>
    dsimp only at h₁ ⊢
    rw [Sem.bind_eq_wrap', Sem.wrap_wrap]
    refine seg_wrap (wpAny_mono h₁ (fun _ s₂ h₂ => ?_) fun _ _ z => z.elim)
    rw [Sem.bind_eq_wrap', Sem.wrap_wrap]
    refine seg_wrap (wpAny_mono h₂ (fun _ s₃ h₃ => ?_) fun _ _ z => z.elim)
    rw [Sem.bind_eq_wrap', Sem.wrap_wrap]
    refine cast (congrArg (fun t => Seg (model P w) A R Y n s₀ (.forLoop target it body [] env) t (.ret k h g l c₁ p₁ [] :: fs) s₃) ?_) h₃
    exact Sem.wrap_congr _ _ _ (fun f => by cases f <;> rfl) (fun e => (Sem.bind_eq_wrap _ _).symm)
end
end Mine
end
section
open PySem PySem.W PySem.W.X PyProof.Rows PySem.Calls
set_option maxRecDepth 100000
set_option maxHeartbeats 400000
namespace Mine
structure Zone where
  b0 : Addr
  B : Addr
  C : List Addr
  g : Nat
def gcls : List Value := [.type "frame", .type "list_iterator", .type "dict_itemiterator", .type "dict_keyiterator", .type "set"]
def gown (o : Obj) : Prop := (∃ es n, o.data = .dict es n) ∨ o.cls ∈ gcls
def kown (o : Obj) : Prop := gown o ∨ o.cls ∈ [Value.type "generator", Value.type "cell"]
structure ExtP (mod : Addr → Obj → Prop) (h h' : Heap) : Prop where
  keep : ∀ b o, h.get? b = some o → ¬ mod b o → h'.get? b = some o ∨ (b ∈ tabs ∧ ∃ ps more, o = tableObj ps ∧ h'.get? b = some (tableObj (ps ++ more)) ∧ (TriplesOk ps.toList → TriplesOk (ps ++ more).toList))
def Zone.gm (z : Zone) (a : Addr) (o : Obj) : Prop := z.B ≤ a ∧ a ∉ z.C ∧ gown o
def Zone.cm (z : Zone) (a : Addr) (o : Obj) : Prop := ¬ (a < z.b0 ∧ a ∉ z.C) ∧ ¬ (z.B ≤ a ∧ a ∉ z.C ∧ kown o)
section
variable {mod mod' : Addr → Obj → Prop} {h h' h'' : Heap} {z z' : Zone} {s s' s'' : Shared}
theorem ExtP.refl (mod : Addr → Obj → Prop) (h : Heap) : ExtP mod h h := ⟨fun _ _ e _ => .inl e⟩
theorem ExtP.mono (x : ExtP mod h h') (hs : ∀ a o, mod a o → mod' a o) : ExtP mod' h h' := ⟨fun b o e n => x.keep b o e fun m => n (hs b o m)⟩
theorem ExtP.trans (x : ExtP mod h h') (y : ExtP mod h' h'') (ht : ∀ b ∈ tabs, ∀ o, ¬ mod b o) : ExtP mod h h'' := by
  refine ⟨fun b o e n => ?_⟩
  rcases x.keep b o e n with q | ⟨t, ps, more, rfl, q, kq⟩
  · exact y.keep b o q n
  · rcases y.keep b _ q (ht b t _) with r | ⟨_, ps', more', e', r, kr⟩
    · exact .inr ⟨t, ps, more, rfl, r, kq⟩
    · have : ps' = ps ++ more := by
        have z : (tableObj (ps ++ more)).data = (tableObj ps').data := congrArg Obj.data e'
        injection z with z; exact z.symm
      subst this
      exact .inr ⟨t, ps, more ++ more', rfl, by rw [r, Array.append_assoc], fun z => by rw [← Array.append_assoc]; exact kr (kq z)⟩
theorem ExtP.of (x : Ext [] h h') : ExtP mod h h' := ⟨fun b o e _ => x.keep b o e (by simp)⟩
theorem ExtP.ofMod {m : List Addr} (x : Ext m h h') (hm : ∀ a ∈ m, ∀ o, h.get? a = some o → mod a o) : ExtP mod h h' := ⟨fun b o e n => x.keep b o e fun q => n (hm b q o e)⟩
theorem ExtP.get (x : ExtP mod h h') {b : Addr} {o : Obj} (e : h.get? b = some o) (hc : hasCls o = true) (hm : ¬ mod b o) : h'.get? b = some o := by
  rcases x.keep b o e hm with q | ⟨_, ps, more, rfl, _⟩
  · exact q
  · cases hc
theorem ExtP.but {a : Addr} (x : Heap.ExtBut a h h') (hm : ∀ o, h.get? a = some o → mod a o) : ExtP mod h h' :=
  ⟨fun b o e n => .inl (x b o (fun q => n (by subst q; exact hm o e)) e)⟩
theorem ExtP.ns {L : Addr} {m : Str → Option Value} (x : ExtP mod h h') (n : h.Ns L m) (hm : ∀ o, h.get? L = some o → (∃ es n, o.data = .dict es n) → ¬ mod L o) : h'.Ns L m := by
  obtain ⟨o, es, ep, e, hd, r⟩ := n
  rcases x.keep L o e (hm o e ⟨_, _, hd⟩) with q | ⟨_, ps, more, rfl, _⟩
  · exact ⟨o, es, ep, q, hd, r⟩
  · cases hd
structure Zone.Ok (z : Zone) : Prop where
  low : 604 ≤ z.b0
  le : z.b0 ≤ z.B
  c : ∀ a ∈ z.C, 604 ≤ a
theorem tabs_low {b : Addr} (h : b ∈ tabs) : b < 604 := by
  unfold tabs at h
  rcases List.mem_cons.mp h with rfl | h
  · decide
  · rcases List.mem_cons.mp h with rfl | h
    · decide
    · cases h
theorem Zone.Ok.gm_tabs (k : z.Ok) : ∀ b ∈ tabs, ∀ o, ¬ z.gm b o := fun b hb o q => absurd (tabs_low hb) (Nat.not_lt.mpr (Nat.le_trans k.low (Nat.le_trans k.le q.1)))
theorem Zone.Ok.cm_tabs (k : z.Ok) : ∀ b ∈ tabs, ∀ o, ¬ z.cm b o := fun b hb o q => q.1 ⟨Nat.lt_of_lt_of_le (tabs_low hb) k.low, fun m => absurd (tabs_low hb) (Nat.not_lt.mpr (k.c b m))⟩
def Bare (g : Array GenState) : Prop := ∀ x ∈ g, x.bare = true
structure Turn (z : Zone) (s s' : Shared) : Prop where
  heap : ExtP z.gm s.heap s'.heap
  gens : ∀ i, i ≤ z.g → s'.gens[i]? = s.gens[i]?
  bare : Bare s.gens → Bare s'.gens
  drawn : s'.drawn = s.drawn
  os : s'.os = s.os
structure Calm (z : Zone) (s s' : Shared) : Prop where
  heap : ExtP z.cm s.heap s'.heap
  there : ∀ a ∈ z.C, ∀ o, s.heap.get? a = some o → ∃ o', s'.heap.get? a = some o'
  gens : ∀ i, z.g ≤ i → s'.gens[i]? = s.gens[i]?
theorem Turn.refl (z : Zone) (s : Shared) : Turn z s s := ⟨.refl _ _, fun _ _ => rfl, id, rfl, rfl⟩
theorem Turn.trans (k : z.Ok) (x : Turn z s s') (y : Turn z s' s'') : Turn z s s'' :=
  ⟨x.heap.trans y.heap k.gm_tabs, fun i hi => (y.gens i hi).trans (x.gens i hi), fun b => y.bare (x.bare b), y.drawn.trans x.drawn, y.os.trans x.os⟩
theorem Calm.refl (z : Zone) (s : Shared) : Calm z s s := ⟨.refl _ _, fun _ _ o e => ⟨o, e⟩, fun _ _ => rfl⟩
theorem Calm.trans (k : z.Ok) (x : Calm z s s') (y : Calm z s' s'') : Calm z s s'' :=
  ⟨x.heap.trans y.heap k.cm_tabs, fun a m o e => let ⟨o', e'⟩ := x.there a m o e; y.there a m o' e', fun i hi => (y.gens i hi).trans (x.gens i hi)⟩
theorem Turn.step {h₁ h₂ : Heap} {g d t t' os} (x : ExtP z.gm h₁ h₂) : Turn z ⟨h₁, g, d, t, os⟩ ⟨h₂, g, d, t', os⟩ := ⟨x, fun _ _ => rfl, id, rfl, rfl⟩
def Base (z : Zone) (h₀ h : Heap) : Prop := Ext z.C h₀ h
theorem grow_eq {ps ps' more : Array Value} (e : tableObj (ps ++ more) = tableObj ps') : ps' = ps ++ more := by
  have z : (tableObj (ps ++ more)).data = (tableObj ps').data := congrArg Obj.data e
  injection z with z; exact z.symm
theorem Ext.p {m : List Addr} {h₀ : Heap} (x : Ext m h₀ h) (y : ExtP mod h h') (hb : ∀ a o o', h₀.get? a = some o → h.get? a = some o' → a ∉ m → ¬ mod a o') (ht : ∀ b ∈ tabs, ∀ o, ¬ mod b o)
    (hm : ∀ a ∈ m, ∀ o, h.get? a = some o → ∃ o', h'.get? a = some o') : Ext m h₀ h' := by
  have kp : ∀ b o, h₀.get? b = some o → b ∉ m → h'.get? b = some o ∨ (b ∈ tabs ∧ ∃ ps more, o = tableObj ps ∧ h'.get? b = some (tableObj (ps ++ more)) ∧ (TriplesOk ps.toList → TriplesOk (ps ++ more).toList)) := by
    intro b o e n
    rcases x.keep b o e n with q | ⟨t, ps, more, rfl, q, kq⟩
    · exact y.keep b o q (hb b o o e q n)
    · rcases y.keep b _ q (ht b t _) with r | ⟨_, ps', more', e', r, kr⟩
      · exact .inr ⟨t, ps, more, rfl, r, kq⟩
      · have := grow_eq e'
        subst this
        exact .inr ⟨t, ps, more ++ more', rfl, by rw [r, Array.append_assoc], fun z => by rw [← Array.append_assoc]; exact kr (kq z)⟩
  refine ⟨kp, fun b o e => ?_⟩
  by_cases q : b ∈ m
  · obtain ⟨o', e'⟩ := x.there b o e
    exact hm b q o' e'
  · rcases kp b o e q with r | ⟨_, _, _, _, r, _⟩ <;> exact ⟨_, r⟩
theorem ExtP.still (y : ExtP mod h h') {a : Addr} {o : Obj} (e : h.get? a = some o) (n : ¬ mod a o) : ∃ o', h'.get? a = some o' := by
  rcases y.keep a o e n with r | ⟨_, _, _, _, r, _⟩ <;> exact ⟨_, r⟩
theorem Base.turn {h₀ : Heap} (k : z.Ok) (hz : h₀.objs.size ≤ z.b0) (x : Base z h₀ h) (y : ExtP z.gm h h') : Base z h₀ h' :=
  Ext.p x y (fun a o o' e _ _ q => absurd (Heap.lt_size e) (Nat.not_lt.mpr (Nat.le_trans hz (Nat.le_trans k.le q.1)))) k.gm_tabs fun a m o e => y.still e fun q => q.2.1 m
theorem Base.calm {h₀ : Heap} (k : z.Ok) (hz : h₀.objs.size ≤ z.b0) (x : Base z h₀ s.heap) (y : Calm z s s') : Base z h₀ s'.heap :=
  Ext.p x y.heap (fun a o o' e _ n q => q.1 ⟨Nat.lt_of_lt_of_le (Heap.lt_size e) hz, n⟩) k.cm_tabs y.there
structure Zone.In (z' z : Zone) : Prop where
  b0 : z'.b0 = z.b0
  B : z.B ≤ z'.B
  C : ∀ a ∈ z.C, a ∈ z'.C
  g : z.g < z'.g
theorem Turn.outer (n : z'.In z) (x : Turn z' s s') : Turn z s s' :=
  ⟨x.heap.mono fun a o q => ⟨Nat.le_trans n.B q.1, fun m => q.2.1 (n.C a m), q.2.2⟩, fun i hi => x.gens i (Nat.le_trans hi (Nat.le_of_lt n.g)), x.bare, x.drawn, x.os⟩
theorem Calm.inner (n : z'.In z) (x : Calm z s s') (hc : ∀ a ∈ z'.C, a ∉ z.C → ∀ o, s.heap.get? a = some o → z.B ≤ a ∧ kown o) : Calm z' s s' :=
  ⟨x.heap.mono fun a o q => ⟨fun m => q.1 ⟨n.b0 ▸ m.1, fun r => m.2 (n.C a r)⟩, fun m => q.2 ⟨Nat.le_trans n.B m.1, fun r => m.2.1 (n.C a r), m.2.2⟩⟩,
    fun a m o e => by
      by_cases q : a ∈ z.C
      · exact x.there a q o e
      · obtain ⟨h1, h2⟩ := hc a m q o e
        exact x.heap.still e fun r => r.2 ⟨h1, q, h2⟩,
    fun i hi => x.gens i (Nat.le_trans (Nat.le_of_lt n.g) hi)⟩
end
def Zone.fr (z : Zone) (h : Heap) (a : Addr) : Prop := z.B ≤ a ∧ a ∉ z.C ∧ ∀ o, h.get? a = some o → z.gm a o
def Yg (all : List PyData) (z : Zone) : Protocol := fun m s₀ v s kap => ∃ d, all[all.length - 1 - m]? = some d ∧ RdP (z.fr s₀.heap) s.heap v d ∧ Turn z s₀ s ∧ ∀ s'', Calm z s s'' → kap (.send .none) s''
def Rg (fin : Result) (z : Zone) : GenEnd := fun n s₀ r s => r = fin ∧ n = 0 ∧ Turn z s₀ s
def Cs (z : Zone) (h : Heap) : Prop := ∀ c ∈ z.C, ∃ o, h.get? c = some o
structure Feed (w : World) (A : Around) (z : Zone) (fin : Result) (a : Addr) (all : List PyData) (j : Nat) (s : Shared) : Prop where
  ok : z.Ok
  le : j ≤ all.length
  gen : s.heap.IsGen a z.g
  own : z.B ≤ a ∧ a ∉ z.C
  lim : s.heap.NoLimit
  goes : ∃ gs, s.gens[z.g]? = some gs ∧ gs.bare = true ∧ ∀ s'', Calm z (s.setGen z.g .running) s'' → Cs z s''.heap → gs.Goes (model P w) A.in1 (Rg fin z) (Yg all z) (all.length - j) (.send .none) s''
section
variable {w : World} {A : Around} {E : Value → Shared → Prop} {z : Zone} {fin : Result} {a : Addr} {all : List PyData} {j : Nat} {s s' : Shared}
structure Woke (z : Zone) (s s' : Shared) : Prop where
  heap : ExtP z.gm s.heap s'.heap
  gens : ∀ i, i < z.g → s'.gens[i]? = s.gens[i]?
  bare : Bare s.gens → Bare s'.gens
  drawn : s'.drawn = s.drawn
  os : s'.os = s.os
theorem setGen_other {s : Shared} {g i : Nat} {x : GenState} (h : i ≠ g) : (s.setGen g x).gens[i]? = s.gens[i]? := by
  unfold Shared.setGen
  dsimp only
  rw [Array.getElem?_setIfInBounds]
  rw [if_neg (Ne.symm h)]
theorem bare_set {g : Array GenState} {i : Nat} {x : GenState} (h : Bare g) (hx : x.bare = true) : Bare (g.setIfInBounds i x) := by
  intro y hy
  rcases Array.mem_or_eq_of_mem_setIfInBounds hy with hy | rfl
  · exact h y hy
  · exact hx
theorem isStop (h : Heap) (e : Addr) (he : ∃ o, h.get? e = some o ∧ o.cls = .type "StopIteration") (M : Model) : Looks M h (isInstance (.ref e) (.type "StopIteration")) true := by
  obtain ⟨o, ho, hc⟩ := he
  exact Looks.andThen (a := .type "StopIteration") (hc ▸ (Looks.ld ho).andThen .now) (Looks.of_pure isSubtype_stop)
theorem gen_wake {R : GenEnd} {Y : Protocol} {n g : Nat} {gs : GenState} {Q : Option Value → Shared → Prop} (hh : A.handled = none) (hl : s.heap.NoLimit) (hroom : A.depth < recursionLimit) (hfin : fin = .ok (.ret .none) ∨ fin = .ok .next)
    (hg : s.heap.IsGen a g) (hgs : s.gens[g]? = some gs) (hgo : gs.Goes (model P w) A.in1 R Y n (.send .none) (s.setGen g .running))
    (hR : ∀ x s₁, R n (s.setGen g .running) x s₁ → x = fin ∧ ∀ h', Keep s₁.heap h' → Q none { s₁.setGen g .finished with heap := h' })
    (hY : ∀ v s₁ gs', gs'.bare = true → Y (n - 1) (s.setGen g .running) v s₁ (fun r' s'' => match n with | 0 => False | m + 1 => gs'.Goes (model P w) A.in1 R Y m r' s'') → Q (some v) (s₁.setGen g gs')) :
    wpAny (model P w) A (pyNext (.ref a)) Q E s := by
  have hT := hg.typeIs
  unfold pyNext
  refine wpAny_bind (wpAny_attempt (wpAny_callSpecial?_slot (name := Str.ofString "__next__") hT slot_gen_next (wpAny_call_entry slot_gen_next hT entry_gen_next ?_ (args_gen_next _))))
  unfold Builtin.«generator.__next__»
  refine wpAny_bind (wpAny_pure ?_)
  dsimp only
  unfold Builtin.Generator.genWake
  refine wpAny_bind (wpAny_holding (wpAny_genNumber hg ?_))
  refine wpAny_bind (wpAny_genState hgs ?_)
  have stop : ∀ (f : Unit → Sem PySem.Fin) (s₁ : Shared), (∀ h', Keep s₁.heap h' → Q none { s₁.setGen g .finished with heap := h' }) → wpAny (model P w) A.in1 (newExc (.type "StopIteration") [] >>= fun e => (raiseNew e : Sem Unit) >>= f) (fun fin s' => ∃ v, fin = Fin.done (Flow.ret v) ∧ wpAny (model P w) A (pure (some v)) Q E s')
        (fun e s' => wpAny (model P w) A (do let __do_lift ← isInstance e (Value.type "StopIteration"); if __do_lift = true then pure none else throw e) Q E s') (s₁.setGen g .finished) := by
    intro f s₁ q
    refine wpAny_bind ?_
    unfold newExc newTuple
    refine wpAny_bind (wpAny_newObj_type ?_ (by size_fits))
    refine wpAny_bind (wpAny_of_eq (a := Value.none) (by first | rfl | (simp only [firstArgMember]; rfl)) (wpAny_newObj_type ?_ (by size_fits)))
    refine wpAny_bind (wpAny_raiseNew_none (A := A.in1) hh ?_)
    refine wpAny_bind ((isStop _ _ ⟨_, Heap.get?_push_size _ rfl, rfl⟩ _).here ?_)
    exact wpAny_pure (q _ fun b o e => Heap.get?_push_of_some _ (Heap.get?_push_of_some _ e))
  cases gs with
  | running => exact hgo.elim
  | finished => exact hgo.elim
  | _ =>
    refine wpAny_bind (wpAny_roomToWake hl hroom ?_)
    show wpAny _ A.in1 (.resume g (.send .none) [] _) _ _ s
    refine wpAny_resumeQ hgs hgo (fun x s₁ hx => ?_) (fun v s₁ gs' hb hy => ?_)
    · obtain ⟨rfl, q⟩ := hR x s₁ hx
      rcases hfin with rfl | rfl
      · exact stop _ s₁ q
      · exact stop _ s₁ q
    · exact wpAny_pure ⟨v, rfl, wpAny_pure (hY v s₁ gs' hb hy)⟩
theorem Feed.next {d : PyData} {Q : Option Value → Shared → Prop} (f : Feed w A z fin a all j s) (hC : Cs z s.heap) (hh : A.handled = none) (hroom : A.depth < recursionLimit) (hfin : fin = .ok (.ret .none) ∨ fin = .ok .next) (hd : all[j]? = some d)
    (q : ∀ v s', RdP (z.fr s.heap) s'.heap v d → Woke z s s' → Feed w A z fin a all (j + 1) s' → Q (some v) s') : wpAny (model P w) A (pyNext (.ref a)) Q E s := by
  obtain ⟨ok, le, gen, own, lim, gs, hgs, hb, goes⟩ := f
  have hj : j < all.length := (List.getElem?_eq_some_iff.mp hd).1
  obtain ⟨m, hm⟩ : ∃ m, all.length - j = m + 1 := ⟨all.length - j - 1, by omega⟩
  rw [hm] at goes
  have gsm : all.length - (j + 1) = m := by omega
  have gidx : all.length - 1 - (m + 1 - 1) = j := by omega
  refine gen_wake (n := m + 1) hh lim hroom hfin gen hgs (goes _ (.refl _ _) hC) (fun x s₁ hx => absurd hx.2.1 (Nat.succ_ne_zero m)) (fun v s₁ gs' hb' hy => ?_)
  obtain ⟨d', hd', rd, tn, kp⟩ := hy
  rw [gidx, hd] at hd'; cases hd'
  have run : s₁.gens[z.g]? = some .running := (tn.gens z.g (Nat.le_refl _)).trans (setGen_self hgs)
  refine q v _ rd ⟨tn.heap, fun i hi => ?_, fun b => ?_, tn.drawn, tn.os⟩ ⟨ok, hj, ?_, own, ?_, gs', setGen_self run, hb', fun s'' c _ => ?_⟩
  · rw [setGen_other (Nat.ne_of_lt hi)]
    exact (tn.gens i (Nat.le_of_lt hi)).trans (setGen_other (Nat.ne_of_lt hi))
  · exact bare_set (tn.bare (bare_set b rfl)) hb'
  · obtain ⟨o, nm, qn, ho, hc, r⟩ := gen
    exact ⟨o, nm, qn, tn.heap.get ho (by unfold hasCls; rw [hc]) (fun k => by
      rcases k.2.2 with ⟨es, n, q⟩ | q
      · rw [r.1] at q; cases q
      · rw [hc] at q; exact absurd q (by decide)), hc, r⟩
  · obtain ⟨mc, hn, hnn⟩ := lim
    exact ⟨mc, tn.heap.ns hn (fun o _ _ k => absurd (Nat.le_trans ok.low (Nat.le_trans ok.le k.1)) (by decide)), hnn⟩
  · rw [gsm]
    refine kp s'' ⟨c.heap, c.there, fun i hi => (c.gens i hi).trans ?_⟩
    by_cases e : i = z.g
    · subst e
      rw [setGen_self (setGen_self run), run]
    · rw [setGen_other e, setGen_other e]
theorem Feed.stop {Q : Option Value → Shared → Prop} (f : Feed w A z fin a all j s) (hC : Cs z s.heap) (hh : A.handled = none) (hroom : A.depth < recursionLimit) (hfin : fin = .ok (.ret .none) ∨ fin = .ok .next) (hj : j = all.length)
    (q : ∀ s', Woke z s s' → Q none s') : wpAny (model P w) A (pyNext (.ref a)) Q E s := by
  obtain ⟨ok, le, gen, own, lim, gs, hgs, hb, goes⟩ := f
  subst hj
  rw [Nat.sub_self] at goes
  refine gen_wake (n := 0) hh lim hroom hfin gen hgs (goes _ (.refl _ _) hC) (fun x s₁ hx => ⟨hx.1, fun h' k => ?_⟩) (fun v s₁ gs' hb' hy => ?_)
  · have tn := hx.2.2
    refine q _ ⟨tn.heap.trans (.of (.of_keeps k)) ok.gm_tabs, fun i hi => ?_, fun b => bare_set (tn.bare (bare_set b rfl)) rfl, tn.drawn, tn.os⟩
    show (s₁.setGen z.g .finished).gens[i]? = _
    rw [setGen_other (Nat.ne_of_lt hi)]
    exact (tn.gens i (Nat.le_of_lt hi)).trans (setGen_other (Nat.ne_of_lt hi))
  · obtain ⟨_, _, _, _, kp⟩ := hy
    exact (kp _ (.refl _ _)).elim
theorem Feed.calm (f : Feed w A z fin a all j s) (c : Calm z s s') : Feed w A z fin a all j s' := by
  obtain ⟨ok, le, gen, own, lim, gs, hgs, hb, goes⟩ := f
  refine ⟨ok, le, ?_, own, ?_, gs, (c.gens z.g (Nat.le_refl _)).trans hgs, hb, fun s'' c' cs => goes s'' (Calm.trans (s' := s'.setGen z.g .running) ok ⟨c.heap, c.there, fun i hi => ?_⟩ c') cs⟩
  · obtain ⟨o, nm, qn, ho, hc, r⟩ := gen
    exact ⟨o, nm, qn, c.heap.get ho (by unfold hasCls; rw [hc]) (fun k => k.2 ⟨own.1, own.2, .inr (by rw [hc]; decide)⟩), hc, r⟩
  · obtain ⟨mc, hn, hnn⟩ := lim
    exact ⟨mc, c.heap.ns hn (fun o _ _ k => k.1 ⟨Nat.lt_of_lt_of_le (by decide) ok.low, fun m => absurd (ok.c _ m) (by decide)⟩), hnn⟩
  · by_cases e : i = z.g
    · subst e
      exact (setGen_self ((c.gens _ hi).trans hgs)).trans (setGen_self hgs).symm
    · exact (setGen_other e).trans ((c.gens i hi).trans (setGen_other e).symm)
theorem Woke.cs (x : Woke z s s') (hC : Cs z s.heap) : Cs z s'.heap := fun c m => let ⟨o, e⟩ := hC c m; x.heap.still e fun q => q.2.1 m
end
structure GS (z : Zone) (h₀ : Heap) (L : Addr) (m : Str → Option Value) (s₀ s : Shared) : Prop where
  ok : z.Ok
  hz : h₀.objs.size ≤ z.b0
  turn : Turn z s₀ s
  base : Base z h₀ s.heap
  ns : s.heap.Ns L m
  L : z.B ≤ L ∧ L ∉ z.C
  cs : Cs z s.heap
section
variable {z : Zone} {h₀ : Heap} {L : Addr} {m m' : Str → Option Value} {s₀ s s' : Shared} {h h' : Heap} {g : Array GenState} {d : Drawn} {t t' : Nat} {os : OsState}
theorem GS.step (x : GS z h₀ L m s₀ ⟨h, g, d, t, os⟩) (y : ExtP z.gm h h') (n : h'.Ns L m') : GS z h₀ L m' s₀ ⟨h', g, d, t', os⟩ :=
  ⟨x.ok, x.hz, x.turn.trans x.ok (.step y), x.base.turn x.ok x.hz y, n, x.L, fun c q => let ⟨o, e⟩ := x.cs c q; y.still e fun r => r.2.1 q⟩
theorem GS.toks (x : GS z h₀ L m s₀ ⟨h, g, d, t, os⟩) : GS z h₀ L m s₀ ⟨h, g, d, t', os⟩ := x.step (.refl _ _) x.ns
theorem GS.keeps (x : GS z h₀ L m s₀ ⟨h, g, d, t, os⟩) (k : Keep h h') : GS z h₀ L m s₀ ⟨h', g, d, t', os⟩ :=
  x.step (.of (.of_keeps k)) (Ns_ext (.of_keeps k) x.ns (by simp))
theorem GS.ext (x : GS z h₀ L m s₀ ⟨h, g, d, t, os⟩) (k : Ext [] h h') : GS z h₀ L m s₀ ⟨h', g, d, t', os⟩ :=
  x.step (.of k) (Ns_ext k x.ns (by simp))
theorem GS.store (x : GS z h₀ L m s₀ ⟨h, g, d, t, os⟩) (n : h'.Ns L m') (hs : Heap.SameBut L h h') : GS z h₀ L m' s₀ ⟨h', g, d, t', os⟩ := by
  refine x.step (.but hs.extBut fun o e => ⟨x.L.1, x.L.2, .inl ?_⟩) n
  obtain ⟨o', es, ep, e', hd, _⟩ := x.ns
  rw [show o = o' from Option.some.inj (e.symm.trans e')]
  exact ⟨es, ep, hd⟩
theorem GS.ne (x : GS z h₀ L m s₀ s) {a : Addr} {o : Obj} (e : s.heap.get? a = some o) (hd : ∀ es n, o.data ≠ .dict es n) : L ≠ a := by
  rintro rfl
  obtain ⟨o', es, ep, e', hd', _⟩ := x.ns
  rw [show o = o' from Option.some.inj (e.symm.trans e')] at hd
  exact hd _ _ hd'
theorem GS.fresh (x : GS z h₀ L m s₀ s) : z.B ≤ s.heap.objs.size ∧ s.heap.objs.size ∉ z.C :=
  ⟨Nat.le_trans x.L.1 (Nat.le_of_lt x.ns.lt), fun q => by obtain ⟨o, e⟩ := x.cs _ q; exact absurd (Heap.lt_size e) (Nat.lt_irrefl _)⟩
theorem GS.fr (x : GS z h₀ L m s₀ s) {a : Addr} (e : s.heap.get? a = none) (hB : z.B ≤ a) (hC : a ∉ z.C) : z.fr s₀.heap a :=
  ⟨hB, hC, fun o q => by
    by_cases n : z.gm a o
    · exact n
    · obtain ⟨o', e'⟩ := x.turn.heap.still q n
      rw [e] at e'; cases e'⟩
theorem GS.frs (x : GS z h₀ L m s₀ s) : z.fr s₀.heap s.heap.objs.size := x.fr (get_size _) x.fresh.1 x.fresh.2
theorem GS.own (x : GS z h₀ L m s₀ ⟨h, g, d, t, os⟩) {a : Addr} {o : Obj} (he : Heap.ExtBut a h h') (e : h.get? a = some o) (hd : ∀ es n, o.data ≠ .dict es n) (hc : o.cls ∈ gcls) (hB : z.B ≤ a) (hC : a ∉ z.C) : GS z h₀ L m s₀ ⟨h', g, d, t', os⟩ := by
  refine x.step (.but he fun o' e' => ⟨hB, hC, .inr ?_⟩) ?_
  · rw [show o' = o from Option.some.inj (e'.symm.trans e)]; exact hc
  · obtain ⟨o', es, ep, q, r⟩ := x.ns
    exact ⟨o', es, ep, he _ _ (x.ne e hd) q, r⟩
theorem GS.woken (x : GS z h₀ L m s₀ s) (c : Calm z s s') : GS z h₀ L m s' s' :=
  ⟨x.ok, x.hz, .refl _ _, x.base.calm x.ok x.hz c, c.heap.ns x.ns fun o e hd q => q.2 ⟨x.L.1, x.L.2, .inl (.inl hd)⟩, x.L, fun a q => let ⟨o, e⟩ := x.cs a q; c.there a q o e⟩
theorem Calm.kept (c : Calm z s s') {a : Addr} {o : Obj} (e : s.heap.get? a = some o) (hc : o.cls ∈ gcls) (hB : z.B ≤ a) (hC : a ∉ z.C) : s'.heap.get? a = some o := by
  refine c.heap.get e ?_ fun q => q.2 ⟨hB, hC, .inl (.inr hc)⟩
  unfold hasCls
  cases h : o.cls <;> first | rfl | (rw [h] at hc; revert hc; decide)
end
end Mine
end
section
open PySem PySem.W PySem.W.X PyProof.Rows PySem.Calls
set_option maxRecDepth 100000
set_option maxHeartbeats 400000
namespace Mine
theorem Rm.over {n : Nat} {A : Around} (x : Rm n A) {c : Code} {fs : List Frame} (h : c.isCaller = false) (hf : ∀ f ∈ fs, (f.where_).1.isCaller = false) : Rm (n + 5 * (fs.length + 1)) (A.over c fs) := by
  have key : ∀ fs : List Frame, (∀ f ∈ fs, (f.where_).1.isCaller = false) → frameCount (fs.map Frame.where_) ≤ 5 * fs.length ∧ unitsOf (fs.map Frame.where_) ≤ 10 * fs.length := by
    intro fs
    induction fs with
    | nil => intro _; exact ⟨Nat.le_refl _, Nat.le_refl _⟩
    | cons f r ih =>
      intro hf
      obtain ⟨h1, h2⟩ := ih fun f' q => hf f' (.tail _ q)
      have hw := weight_le (hf f (.head _))
      have hu := cUnits_le (f.where_).1
      rw [List.map_cons, List.length_cons]
      obtain ⟨c', p'⟩ : ∃ c' p', f.where_ = (c', p') := ⟨_, _, rfl⟩
      rw [show f.where_ = ((f.where_).1, (f.where_).2) from rfl, frameCount_cons, unitsOf_cons]
      omega
  obtain ⟨k1, k2⟩ := key fs hf
  have hw := weight_le h
  have hu := cUnits_le c
  exact ⟨by have := x.depth; show A.depth + frameCount (fs.map Frame.where_) + c.weight ≤ _; omega, by have := x.units; show A.units + unitsOf (fs.map Frame.where_) + c.cUnits ≤ _; omega⟩
theorem gen_make {w : World} {A : Around} {s : Shared} {R : Result → Shared → Prop} {a : Addr} {o : Obj} {fd : FuncData} {body : List Stmt} {args : Args} (binds : List (Str × Value)) {n : Nat} (hA : Rm n A) (T : TopH w s.heap)
    (ho : (KK w).lookup a = some o) (hdata : o.data = .func fd) (hcd : codeIn (KK w) fd.code fd.qualname = true)
    (hbody : fd.body = .stmts body) (hbind : BindsTo s fd args binds)
    (hcell : ∀ x ∈ fd.scope.names, x.2 ≠ .cell) (hloc : ∀ x ∈ binds, fd.scope.names.lookup x.1 = some .local)
    (h : ∀ h' tk, Keep s.heap h' → h'.Ns s.heap.objs.size (fun x => binds.reverse.lookup x) → h'.IsGen (s.heap.objs.size + 1) s.gens.size →
      R (.ok (.ret (.ref (s.heap.objs.size + 1)))) ⟨h', s.gens.push (.fresh (.func body (callEnv fd s.heap.objs.size a))), s.drawn, tk, s.os⟩)
    (hn : n ≤ 600 := by decide) (hco : fd.scope.isCoroutine = false := by rfl) (hgen : fd.scope.isGenerator = true := by rfl) (hk : fd.scope.kind = .function := by rfl) : codeAny (model P w) A (.call (.ref a) args) R s := by
  refine codeAny_call_generator (hA.dlt hn) (T.K _ _ ho) hdata hco hgen hbody (codeRec_of T.K hcd) (hbind _ _ _ _ ?_)
  refine wpAny_newFunctionEnv hcell hloc (fun h₀ hns hsb => ?_) hk
  have k0 : Keep s.heap h₀ := fun b o e => hsb.extBut b o (Nat.ne_of_lt (Heap.lt_size e)) (Heap.get?_push_of_some _ e)
  have hsz : h₀.objs.size = s.heap.objs.size + 1 := by rw [hsb.1, Heap.size_push]
  refine ⟨(T.ext (.of_keeps k0) (by simp)).lim, ?_⟩
  dsimp only
  rw [hsz]
  refine h _ _ (fun b o e => Heap.get?_push_of_some _ (k0 b o e)) (hns.push _) ?_
  refine ⟨{ cls := .type "generator", data := .fields #[.int s.gens.size 0, .str fd.name (s.toks + binds.length), .str fd.qualname (s.toks + binds.length + 1)] }, _, _, ?_, rfl, rfl, rfl⟩
  have := Heap.get?_push_size (h := h₀) (o := { cls := .type "generator", data := .fields #[.int s.gens.size 0, .str fd.name (s.toks + binds.length), .str fd.qualname (s.toks + binds.length + 1)] }) rfl
  rwa [hsz] at this
theorem seg_loop {w : World} {A : Around} {R : GenEnd} {Y : Protocol} {target : Expr} {it : Value} {body : List Stmt} {env : Env} {k h g l c₁ p₁} {fs : List Frame} (I : Nat → Nat → Shared → Shared → Prop)
    (turn : ∀ m n s₀ s, I m n s₀ s → (∀ m' n' s₀' s', m' < m → I m' n' s₀' s' → Seg (model P w) A R Y n' s₀' (.forLoop target it body [] env) (.pure (.again (.forLoop target it body [] env))) (.ret k h g l c₁ p₁ [] :: fs) s') →
      wpAny (model P w) (A.over (.forLoop target it body [] env) (.ret k h g l c₁ p₁ [] :: fs)) (pyNext it) (fun r s₁ => match r with
      | none => Seg (model P w) A R Y n s₀ c₁ (k (.ok .next)) fs s₁
      | some v => wpAny (model P w) (A.over (.forLoop target it body [] env) (.ret k h g l c₁ p₁ [] :: fs)) (letOwnedTupleGo target it v) (fun _ s₂ =>
          wpAny (model P w) (A.over (.forLoop target it body [] env) (.ret k h g l c₁ p₁ [] :: fs)) (assign target env v) (fun _ s₃ =>
            Seg (model P w) A R Y n s₀ (.forLoop target it body [] env) ((execs body env).wrap (turnK target it body env) (turnH env) id id) (.ret k h g l c₁ p₁ [] :: fs) s₃) No s₂) No s₁) No s)
    (m n : Nat) (s₀ s : Shared) (i : I m n s₀ s) :
    Seg (model P w) A R Y n s₀ (.forLoop target it body [] env) ((model P w).den (.forLoop target it body [] env)) (.ret k h g l c₁ p₁ [] :: fs) s := by
  induction m using Nat.strongRecOn generalizing n s₀ s with
  | _ m ih =>
    refine seg_forLoop (turn m n s₀ s i fun m' n' s₀' s' hm i' => ?_)
    exact seg_again rfl (ih m' hm n' s₀' s' i')
end Mine
end
section
open PySem PySem.W PySem.W.X PyProof.Rows PySem.Calls
set_option maxRecDepth 100000
set_option maxHeartbeats 400000
namespace Mine
def itemsD (g : Grp) : List PyData := g.flatMap fun p => p.2.map fun n => pairD (p.1, n)
theorem itemsD_at {g : Grp} {i : Nat} (hi : i < g.length) {k : Str} {ns : List Int} (e : g[i] = (k, ns)) {j : Nat} (hj : j < ns.length) {n' : Nat} (hn : n' + 1 = ns.length - j + (itemsD (g.drop (i + 1))).length) :
    (itemsD g)[(itemsD g).length - 1 - n']? = some (pairD (k, ns[j])) := by
  have eg : g = g.take i ++ (k, ns) :: g.drop (i + 1) := by rw [← e, ← List.drop_eq_getElem_cons hi, List.take_append_drop]
  have es : itemsD g = itemsD (g.take i) ++ ((ns.map fun n => pairD (k, n)) ++ itemsD (g.drop (i + 1))) := by
    conv => lhs; rw [eg]
    unfold itemsD
    rw [List.flatMap_append, List.flatMap_cons]
  have hl : (itemsD g).length = (itemsD (g.take i)).length + (ns.length + (itemsD (g.drop (i + 1))).length) := by rw [es, List.length_append, List.length_append, List.length_map]
  have hidx : (itemsD g).length - 1 - n' = (itemsD (g.take i)).length + j := by omega
  rw [hidx, es, List.getElem?_append_right (by omega), Nat.add_sub_cancel_left, List.getElem?_append_left (by rw [List.length_map]; exact hj), List.getElem?_map, List.getElem?_eq_getElem hj]
  rfl
theorem it_g : Value.type "dict_itemiterator" ∈ gcls := by decide
theorem li_g : Value.type "list_iterator" ∈ gcls := by decide
theorem items_feed {w : World} {A : Around} {s : Shared} {R : Result → Shared → Prop} {h₀ : Heap} {b0 b x dx ep : Addr} {g : Grp} {kvs : List (Str × Value)} {es : Array DictEntry} (hA : Rm 480 A) (T : TopH w s.heap)
    (T₀ : TopH w h₀) (X : MDI w b h₀ x g dx kvs es ep) (hlow : 604 ≤ b) (hb0 : 604 ≤ b0) (hz : h₀.objs.size ≤ b0) (hb : b0 ≤ s.heap.objs.size) (hg : g.length ≤ 100) (hv : ∀ p ∈ g, p.2.length ≤ 100)
    (hR : ∀ h' tk gs, Keep s.heap h' → gs.bare = true →
      (∀ A' C, Rm 480 A' → A'.handled = none → (∀ c ∈ C, 604 ≤ c ∧ (c < b ∨ h₀.get? c = none) ∧ c ≠ s.heap.objs.size ∧ c ≠ s.heap.objs.size + 1) → Ext C h₀ h' →
        Feed w A' ⟨b0, s.heap.objs.size, C, s.gens.size⟩ (.ok (.ret .none)) (s.heap.objs.size + 1) (itemsD g) 0 ⟨h', s.gens.push gs, s.drawn, tk, s.os⟩) →
      R (.ok (.ret (.ref (s.heap.objs.size + 1)))) ⟨h', s.gens.push gs, s.drawn, tk, s.os⟩) :
    codeAny (model P w) A (.call (.ref 338) ⟨[.ref x, .bool true], []⟩) R s := by
  refine gen_make [(Str.ofString "self", .ref x), (Str.ofString "multi", .bool true)] hA T (by rfl) (by rfl) (by rfl) (by rfl) (binds_K T.K rfl (by rfl) rfl rfl rfl) (by decide) (locs rfl) fun h' tk k n gen => ?_
  refine hR _ _ _ k rfl fun A' C hA' hh' hC hE => ?_
  obtain ⟨L, eL⟩ : ∃ L, L = s.heap.objs.size := ⟨_, rfl⟩
  have hCL : L ∉ C := fun q => (hC L q).2.2.1 eL
  have hCa : s.heap.objs.size + 1 ∉ C := fun q => (hC _ q).2.2.2 rfl
  have ok : Zone.Ok ⟨b0, s.heap.objs.size, C, s.gens.size⟩ := ⟨hb0, hb, fun c q => (hC c q).1⟩
  refine ⟨ok, Nat.zero_le _, gen, ⟨Nat.le_succ _, hCa⟩, (T.ext (.of_keeps k) (by simp)).lim, _, Array.getElem?_push_size, rfl, fun s₁ cm cs => ⟨rfl, ?_⟩⟩
  rw [← eL] at n ok cm cs hb ⊢
  have ns₁ : s₁.heap.Ns L _ := cm.heap.ns n fun o e hd q => q.2 ⟨Nat.le_refl _, hCL, .inl (.inl hd)⟩
  have G : GS ⟨b0, L, C, s.gens.size⟩ h₀ L _ s₁ s₁ := ⟨ok, hz, .refl _ _, Base.calm (s := (Shared.setGen ⟨h', s.gens.push _, s.drawn, tk, s.os⟩ s.gens.size .running)) ok hz hE cm, ns₁, ⟨Nat.le_refl _, hCL⟩, cs⟩
  clear ns₁ cm cs hE k gen n tk h' hR hA A
  rw [Nat.sub_zero]
  generalize hz' : (⟨b0, L, C, s.gens.size⟩ : Zone) = z at G ok ⊢
  have zC : z.C = C := by rw [← hz']
  have zB : z.B = L := by rw [← hz']
  have c604 : ∀ c ∈ z.C, 604 ≤ c := fun c q => (hC c (zC ▸ q)).1
  have cX : ∀ c ∈ z.C, c < b ∨ h₀.get? c = none := fun c q => (hC c (zC ▸ q)).2.1
  have xlow : 604 ≤ x := Nat.le_trans hlow X.lx
  have hkv : kvs.length = g.length := X.gl.len
  clear hz' hC hCa hCL eL T R s
  refine (fun (key : ∀ s₀, GS z h₀ L _ s₀ s₁ → Seg (model P w) _ _ _ _ s₀ _ _ _ s₁) => key _ G) ?_
  clear G
  intro s₀ G
  obtain ⟨h, gn, d, t, os⟩ := s₁
  refine seg_func ?_
  refine seg_execs_cons ?_
  refine seg_all (wpAny_AnnAssign_bare ?_)
  dsimp only
  refine seg_execs_cons ?_
  refine seg_ForAt ?_
  have T1 : TopH w h := T₀.ext G.base c604
  have X1 := X.ext G.base cX
  refine super_call (x := x) (C := 437) (D := 437) (id := "dict.items") (BT := "builtin_function_or_method") T1 G.ns X1.inst.i (by rfl) rfl (by rfl) (by rfl) (by rfl) rfl (by rfl) (by rfl) (by rfl) (by rfl) rfl (by kernel_rfl) (by rfl) (by kernel_rfl) (by kernel_rfl)
    (.inr ⟨md_items, rfl⟩) rfl rfl rfl rfl rfl rfl rfl rfl rfl (by decide) (fun q h2 nq hq kp => ?_)
  replace G := G.keeps (t' := t) kp
  have X2 := X.ext G.base cX
  have T2 : TopH w h2 := T₀.ext G.base c604
  dsimp only at hq ⊢
  clear nq kp X1 T1 h
  refine call_b0 (x := x) (T := "builtin_function_or_method") (id := "dict.items") (.inr rfl) hq ?_
  refine wpAny_call ?_
  have ck := chk_md (id := "dict.items") (args := []) T2.K X2.inst.i (by rfl) (by kernel_rfl) (by rfl) (by decide +kernel) (by decide +kernel) (by kernel_rfl)
  refine code_bound (.inr rfl) hq ck (fun _ => Code.quiet_builtin _ (by decide +kernel)) ent_items ?_
  refine run_items T2.K X2.dd (by kernel_rfl) (not_sys xlow) ?_
  dsimp only
  refine iter_items (Heap.get?_push_size _ rfl) (X2.dd.keeps fun b o e => Heap.get?_push_of_some _ e) (by rw [hkv]; omega) ?_
  intro p
  have fB := (G.keeps (t' := t) (fun b o e => Heap.get?_push_of_some (vObj x) e)).fresh
  have hit : IsItemIter ((h2.push (vObj x)).push { cls := .type "dict_itemiterator", data := .fields #[.none, .bool false, .ref x, .int 0 0, .int kvs.length 0, .int ep 0, .none, .none] }) (h2.push (vObj x)).objs.size x 0 kvs.length ep .none .none := Heap.get?_push_size _ rfl
  replace G := G.keeps (t' := t) (h' := (h2.push (vObj x)).push { cls := .type "dict_itemiterator", data := .fields #[.none, .bool false, .ref x, .int 0 0, .int kvs.length 0, .int ep 0, .none, .none] }) fun b o e => Heap.get?_push_of_some _ (Heap.get?_push_of_some _ e)
  clear X2 T2 hq ck q
  dsimp only at fB
  generalize (h2.push (vObj x)).objs.size = di at fB hit ⊢
  generalize (h2.push (vObj x)).push { cls := .type "dict_itemiterator", data := .fields #[.none, .bool false, .ref x, .int 0 0, .int kvs.length 0, .int ep 0, .none, .none] } = h at hit G ⊢
  obtain ⟨dB, dC⟩ := fB
  refine seg_loop (fun m n s₀ s => ∃ i mm ok ov, m + i = g.length ∧ n = (itemsD (g.drop i)).length ∧ GS z h₀ L mm s₀ s ∧ mm "multi" = some (.bool true) ∧ IsItemIter s.heap di x i kvs.length ep ok ov) ?_ g.length _ _ _ ⟨0, _, _, _, rfl, rfl, G.toks, by rfl, hit⟩
  clear G hit h2 s₀ gn d t os h
  rintro m n s₀ ⟨h, gn, d, t, os⟩ ⟨i, mm, ov, kv, hm, hn, G, mM, hit⟩ IH
  have X1 := X.ext G.base cX
  dsimp only at hit
  cases m with
  | zero =>
    have hi : i = g.length := by omega
    refine next_items_end hh' hit X1.dd (by omega) (fun h' he => ?_)
    dsimp only
    replace G := G.own (t' := t) he hit (fun _ _ q => nomatch q) it_g dB dC
    have : n = 0 := by rw [hn, hi, List.drop_length]; rfl
    exact seg_end (.ok (.ret .none)) ⟨rfl, this, G.turn⟩
  | succ m =>
    have hi : i < g.length := by omega
    have hik : i < kvs.length := by omega
    obtain ⟨ns, la, eg, ev, hla, va, na, ela, ia⟩ := X1.gl.at_ i kvs[i].1 kvs[i].2 (List.getElem?_eq_getElem hik)
    have egi : g[i] = (kvs[i].1, ns) := by rw [List.getElem?_eq_getElem hi] at eg; exact Option.some.inj eg
    refine next_items (k := kvs[i].1) (v := kvs[i].2) hit X1.dd (List.getElem?_eq_getElem hik) (fun tk h' hout htup kb => ?_)
    have gkeep : h'.get? h.objs.size = some { cls := .type "tuple", data := .seq #[.str kvs[i].1 tk, kvs[i].2] } := htup
    replace G := G.own (t' := t) (h' := h') (fun b o q e => kb b o q e) hit (fun _ _ q => nomatch q) it_g dB dC
    dsimp only
    refine wpAny_letOwnedTupleGo_items hout (fun h3 hit3 sb3 => ?_)
    have tne : h.objs.size ≠ di := Nat.ne_of_gt (Heap.lt_size hit)
    have tup3 : IsTup h3 h.objs.size #[.str kvs[i].1 tk, kvs[i].2] := ⟨_, (sb3.2 _ tne).trans gkeep, rfl, 0, rfl⟩
    replace G := G.own (t' := t) (h' := h3) sb3.extBut hout (fun _ _ q => nomatch q) it_g dB dC
    dsimp only
    refine assign_Tuple_tuple (A := A'.in1.over _ _) hh' tup3 rfl rfl (fun h5 he5 => ?_)
    dsimp only at he5 ⊢
    have ext5 := Ext.of_extBut he5
    replace G := G.ext (t' := t) ext5
    have hit5 : IsItemIter h5 di x (i + 1) kvs.length ep (.str kvs[i].1 tk) kvs[i].2 := ext5.get hit3 rfl (by simp)
    clear X1 hit hout htup kb gkeep tne tup3 sb3 hit3 he5 ext5 ela ia h' h3 h va na
    refine wpAny_assignInOrder_more ?_
    refine wpAny_assign_Name ?_
    refine wpAny_storeName_local rfl G.ns (fun h6 hn6 hs6 => ?_) rfl
    have hit6 : IsItemIter h6 di x (i + 1) kvs.length ep (.str kvs[i].1 tk) kvs[i].2 := (hs6.2 di (Ne.symm (G.ne hit5 fun _ _ q => nomatch q))).trans hit5
    replace G := G.store (t' := t) hn6 hs6
    dsimp only
    clear hn6 hs6 hit5 h5
    refine wpAny_assignInOrder_more ?_
    refine wpAny_assign_Name ?_
    refine wpAny_storeName_local rfl G.ns (fun h7 hn7 hs7 => ?_) rfl
    have hit7 : IsItemIter h7 di x (i + 1) kvs.length ep (.str kvs[i].1 tk) kvs[i].2 := (hs7.2 di (Ne.symm (G.ne hit6 fun _ _ q => nomatch q))).trans hit6
    replace G := G.store (t' := t) hn7 hs7
    dsimp only
    clear hn7 hs7 hit6 h6
    refine wpAny_assignInOrder_none ?_
    refine seg_execs_cons ?_
    refine seg_If ?_
    refine isTrue_plain ?_
    refine name_local G.ns (by rw [if_neg (by decide), if_neg (by decide)]; exact mM) ?_
    refine wpAny_truthy_bool ?_
    rw [if_pos rfl]
    refine seg_execs_cons ?_
    refine seg_For ?_
    refine name_local G.ns (by rw [if_pos (by decide)]) ?_
    have X7 := X.ext G.base cX
    obtain ⟨ns', la', eg', ev', hla', va, na, ela, ia⟩ := X7.gl.at_ i kvs[i].1 kvs[i].2 (List.getElem?_eq_getElem hik)
    rw [ev] at ev'; cases ev'
    have nse : ns = ns' := by rw [eg] at eg'; exact congrArg Prod.snd (Option.some.inj eg')
    subst nse
    rw [ev]
    refine wpAny_pyIter_list ⟨_, ela, rfl, na, rfl⟩ ?_
    intro p'
    dsimp only
    obtain ⟨lB, lC⟩ := G.fresh
    have tid : di ≠ h7.objs.size := Nat.ne_of_lt (Heap.lt_size hit7)
    have hit8 : IsItemIter (h7.push { cls := .type "list_iterator", data := .fields #[.ref la, .int 0 0] }) di x (i + 1) kvs.length ep (.str kvs[i].1 tk) kvs[i].2 := Heap.get?_push_of_some _ hit7
    have lit : (h7.push { cls := .type "list_iterator", data := .fields #[.ref la, .int 0 0] }).IsListIter h7.objs.size la 0 := ⟨_, Heap.get?_push_size _ rfl, rfl, rfl⟩
    replace G := G.keeps (t' := t) (h' := h7.push { cls := .type "list_iterator", data := .fields #[.ref la, .int 0 0] }) fun b o e => Heap.get?_push_of_some _ e
    clear X7 ela ia hit7 va na
    dsimp only at lB lC
    generalize h7.objs.size = li at lB lC tid lit ⊢
    generalize h7.push { cls := .type "list_iterator", data := .fields #[.ref la, .int 0 0] } = h8 at hit8 lit G ⊢
    clear h7
    refine seg_loop (fun m' n s₀ s => ∃ j mm, m' + j = ns.length ∧ n = (ns.length - j) + (itemsD (g.drop (i + 1))).length ∧ GS z h₀ L mm s₀ s ∧ mm "multi" = some (.bool true) ∧ mm "key" = some (.str kvs[i].1 tk) ∧
      IsItemIter s.heap di x (i + 1) kvs.length ep (.str kvs[i].1 tk) kvs[i].2 ∧ s.heap.IsListIter li la j) ?_ ns.length _ _ _ ⟨0, _, rfl, ?_, G.toks, ?_, ?_, hit8, lit⟩
    case refine_2 =>
      rw [hn, List.drop_eq_getElem_cons hi, egi]
      unfold itemsD
      rw [List.flatMap_cons, List.length_append, List.length_map, Nat.sub_zero]
    case refine_3 => rw [if_neg (by decide), if_neg (by decide)]; exact mM
    case refine_4 => rw [if_neg (by decide), if_pos (by decide)]
    clear G hit8 lit hn mM h8 gn d t os s₀ n
    rintro m' n s₀ ⟨h, gn, d, t, os⟩ ⟨j, mm, hm', hn, G, mM, mK, hit, lit⟩ IH2
    dsimp only at hit lit
    have X1 := X.ext G.base cX
    obtain ⟨ns', la', eg', ev', hla', va, na, ela, ia⟩ := X1.gl.at_ i kvs[i].1 kvs[i].2 (List.getElem?_eq_getElem hik)
    rw [ev] at ev'; cases ev'
    have nse : ns = ns' := by rw [eg] at eg'; exact congrArg Prod.snd (Option.some.inj eg')
    subst nse
    have hva : va.size = ns.length := by have := ia_len ia; rwa [Array.length_toList] at this
    obtain ⟨ol, eol, col, dol⟩ := id lit
    cases m' with
    | zero =>
      have hj : j = ns.length := by omega
      refine wpAny_pyNext_list_end (A := A'.in1.over _ _) hh' lit ⟨_, ela, rfl, na, rfl⟩ (by rw [Array.getElem?_eq_none_iff]; omega) (fun h4 he => ?_)
      dsimp only
      have hit4 : IsItemIter h4 di x (i + 1) kvs.length ep (.str kvs[i].1 tk) kvs[i].2 := he _ _ tid hit
      replace G := G.own (t' := t) he eol (fun _ _ q => by rw [dol] at q; exact nomatch q) (by rw [col]; exact li_g) lB lC
      exact IH m n s₀ _ (Nat.lt_succ_self m) ⟨i + 1, mm, _, _, by omega, by rw [hn, hj]; omega, G, mM, hit4⟩
    | succ m' =>
      have hj : j < ns.length := by omega
      obtain ⟨tv, etv⟩ := ia_get ia (i := j) (n := ns[j]) (List.getElem?_eq_getElem hj)
      rw [Array.getElem?_toList] at etv
      refine wpAny_pyNext_list_item lit ⟨_, ela, rfl, na, rfl⟩ etv (fun h4 lit4 sb4 => ?_)
      dsimp only
      have hit4 : IsItemIter h4 di x (i + 1) kvs.length ep (.str kvs[i].1 tk) kvs[i].2 := sb4.extBut _ _ tid hit
      replace G := G.own (t' := t) (h' := h4) sb4.extBut eol (fun _ _ q => by rw [dol] at q; exact nomatch q) (by rw [col]; exact li_g) lB lC
      clear X1 ela ia hit lit eol col dol sb4 h
      refine wpAny_pure ?_
      refine wpAny_assign_Name ?_
      refine wpAny_storeName_local rfl G.ns (fun h5 hn5 hs5 => ?_) rfl
      obtain ⟨ol, eol, col, dol⟩ := id lit4
      have hit5 : IsItemIter h5 di x (i + 1) kvs.length ep (.str kvs[i].1 tk) kvs[i].2 := (hs5.2 di (Ne.symm (G.ne hit4 fun _ _ q => nomatch q))).trans hit4
      have lit5 := lit4.at fun o e => (hs5.2 li (Ne.symm (G.ne eol fun _ _ q => by rw [dol] at q; exact nomatch q))).trans e
      replace G := G.store (t' := t) hn5 hs5
      dsimp only
      clear hn5 hs5 hit4 lit4 eol col dol h4
      refine seg_execs_cons ?_
      obtain ⟨n', rfl⟩ : ∃ n', n = n' + 1 := ⟨n - 1, by omega⟩
      refine seg_Expr_Yield rfl rfl rfl ?_
      refine Tuple_ ?_
      refine wpAny_items_cons ?_
      refine name_local G.ns (by rw [if_neg (by decide)]; exact mK) ?_
      refine wpAny_items_cons ?_
      refine name_local G.ns (by rw [if_pos (by decide)]) ?_
      refine wpAny_items_nil ?_
      refine wpAny_newObj_type ?_ (by show (2 : Nat) ≤ sizeLine; decide)
      intro kap hk
      dsimp only
      have frs := G.frs
      have k5 : Keep h5 (h5.push { cls := .type "tuple", data := .seq #[.str kvs[i].1 tk, .int ns[j] tv] }) := fun b o e => Heap.get?_push_of_some _ e
      have G6 := G.keeps (t' := t + 1) k5
      refine ⟨_, itemsD_at hi egi hj (by omega), .tup frs ⟨_, Heap.get?_push_size _ rfl, rfl, 0, rfl⟩ rfl ?_, G6.turn, fun s'' cm => hk .none s'' ?_⟩
      · intro i' v' d' e1 e2
        match i', e1, e2 with
        | 0, e1, e2 => cases e1; cases e2; exact .str _ _
        | 1, e1, e2 => cases e1; cases e2; exact .int _ _
        | n + 2, e1, e2 => simp at e1
      · dsimp only
        obtain ⟨ol, eol, col, dol⟩ := id lit5
        refine IH2 m' n' s'' s'' (Nat.lt_succ_self m') ⟨j + 1, _, by omega, by omega, G6.woken cm, ?_, ?_, cm.kept (k5 _ _ hit5) it_g dB dC, ol, cm.kept (k5 _ _ eol) (by rw [col]; exact li_g) lB lC, col, dol⟩
        · rw [if_neg (by decide)]; exact mM
        · rw [if_neg (by decide)]; exact mK
end Mine
end
section
open PySem PySem.W PySem.W.X PyProof.Rows PySem.Calls
set_option maxRecDepth 100000
set_option maxHeartbeats 400000
namespace Mine
def firstsD (g : Grp) : List PyData := g.map fun p => pairD (p.1, p.2.headD 0)
theorem drop_len {α β : Type} (l : List α) (f : α → β) {i n' : Nat} (hi : i < l.length) (hn : n' + 1 = l.length - i) : (l.map f)[(l.map f).length - 1 - n']? = some (f l[i]) := by
  have : (l.map f).length - 1 - n' = i := by rw [List.length_map]; omega
  rw [this, List.getElem?_map, List.getElem?_eq_getElem hi]; rfl
theorem firsts_feed {w : World} {A : Around} {s : Shared} {R : Result → Shared → Prop} {h₀ : Heap} {b0 b x dx ep : Addr} {g : Grp} {kvs : List (Str × Value)} {es : Array DictEntry} (hA : Rm 480 A) (T : TopH w s.heap)
    (T₀ : TopH w h₀) (X : MDI w b h₀ x g dx kvs es ep) (hlow : 604 ≤ b) (hb0 : 604 ≤ b0) (hz : h₀.objs.size ≤ b0) (hb : b0 ≤ s.heap.objs.size) (hg : g.length ≤ 100) (hv : ∀ p ∈ g, p.2.length ≤ 100) (hne : ∀ p ∈ g, p.2 ≠ [])
    (hR : ∀ h' tk gs, Keep s.heap h' → gs.bare = true →
      (∀ A' C, Rm 480 A' → A'.handled = none → (∀ c ∈ C, 604 ≤ c ∧ (c < b ∨ h₀.get? c = none) ∧ c ≠ s.heap.objs.size ∧ c ≠ s.heap.objs.size + 1) → Ext C h₀ h' →
        Feed w A' ⟨b0, s.heap.objs.size, C, s.gens.size⟩ (.ok (.ret .none)) (s.heap.objs.size + 1) (firstsD g) 0 ⟨h', s.gens.push gs, s.drawn, tk, s.os⟩) →
      R (.ok (.ret (.ref (s.heap.objs.size + 1)))) ⟨h', s.gens.push gs, s.drawn, tk, s.os⟩) :
    codeAny (model P w) A (.call (.ref 338) ⟨[.ref x, .bool false], []⟩) R s := by
  refine gen_make [(Str.ofString "self", .ref x), (Str.ofString "multi", .bool false)] hA T (by rfl) (by rfl) (by rfl) (by rfl) (binds_K T.K rfl (by rfl) rfl rfl rfl) (by decide) (locs rfl) fun h' tk k n gen => ?_
  refine hR _ _ _ k rfl fun A' C hA' hh' hC hE => ?_
  obtain ⟨L, eL⟩ : ∃ L, L = s.heap.objs.size := ⟨_, rfl⟩
  have hCL : L ∉ C := fun q => (hC L q).2.2.1 eL
  have hCa : s.heap.objs.size + 1 ∉ C := fun q => (hC _ q).2.2.2 rfl
  have ok : Zone.Ok ⟨b0, s.heap.objs.size, C, s.gens.size⟩ := ⟨hb0, hb, fun c q => (hC c q).1⟩
  refine ⟨ok, Nat.zero_le _, gen, ⟨Nat.le_succ _, hCa⟩, (T.ext (.of_keeps k) (by simp)).lim, _, Array.getElem?_push_size, rfl, fun s₁ cm cs => ⟨rfl, ?_⟩⟩
  rw [← eL] at n ok cm cs hb ⊢
  have ns₁ : s₁.heap.Ns L _ := cm.heap.ns n fun o e hd q => q.2 ⟨Nat.le_refl _, hCL, .inl (.inl hd)⟩
  have G : GS ⟨b0, L, C, s.gens.size⟩ h₀ L _ s₁ s₁ := ⟨ok, hz, .refl _ _, Base.calm (s := (Shared.setGen ⟨h', s.gens.push _, s.drawn, tk, s.os⟩ s.gens.size .running)) ok hz hE cm, ns₁, ⟨Nat.le_refl _, hCL⟩, cs⟩
  clear ns₁ cm cs hE k gen n tk h' hR hA A
  rw [Nat.sub_zero]
  generalize hz' : (⟨b0, L, C, s.gens.size⟩ : Zone) = z at G ok ⊢
  have zC : z.C = C := by rw [← hz']
  have zB : z.B = L := by rw [← hz']
  have c604 : ∀ c ∈ z.C, 604 ≤ c := fun c q => (hC c (zC ▸ q)).1
  have cX : ∀ c ∈ z.C, c < b ∨ h₀.get? c = none := fun c q => (hC c (zC ▸ q)).2.1
  have xlow : 604 ≤ x := Nat.le_trans hlow X.lx
  have hkv : kvs.length = g.length := X.gl.len
  clear hz' hC hCa hCL eL T R s
  refine (fun (key : ∀ s₀, GS z h₀ L _ s₀ s₁ → Seg (model P w) _ _ _ _ s₀ _ _ _ s₁) => key _ G) ?_
  clear G
  intro s₀ G
  obtain ⟨h, gn, d, t, os⟩ := s₁
  refine seg_func ?_
  refine seg_execs_cons ?_
  refine seg_all (wpAny_AnnAssign_bare ?_)
  dsimp only
  refine seg_execs_cons ?_
  refine seg_ForAt ?_
  have T1 : TopH w h := T₀.ext G.base c604
  have X1 := X.ext G.base cX
  refine super_call (x := x) (C := 437) (D := 437) (id := "dict.items") (BT := "builtin_function_or_method") T1 G.ns X1.inst.i (by rfl) rfl (by rfl) (by rfl) (by rfl) rfl (by rfl) (by rfl) (by rfl) (by rfl) rfl (by kernel_rfl) (by rfl) (by kernel_rfl) (by kernel_rfl)
    (.inr ⟨md_items, rfl⟩) rfl rfl rfl rfl rfl rfl rfl rfl rfl (by decide) (fun q h2 nq hq kp => ?_)
  replace G := G.keeps (t' := t) kp
  have X2 := X.ext G.base cX
  have T2 : TopH w h2 := T₀.ext G.base c604
  dsimp only at hq ⊢
  clear nq kp X1 T1 h
  refine call_b0 (x := x) (T := "builtin_function_or_method") (id := "dict.items") (.inr rfl) hq ?_
  refine wpAny_call ?_
  have ck := chk_md (id := "dict.items") (args := []) T2.K X2.inst.i (by rfl) (by kernel_rfl) (by rfl) (by decide +kernel) (by decide +kernel) (by kernel_rfl)
  refine code_bound (.inr rfl) hq ck (fun _ => Code.quiet_builtin _ (by decide +kernel)) ent_items ?_
  refine run_items T2.K X2.dd (by kernel_rfl) (not_sys xlow) ?_
  dsimp only
  refine iter_items (Heap.get?_push_size _ rfl) (X2.dd.keeps fun b o e => Heap.get?_push_of_some _ e) (by rw [hkv]; omega) ?_
  intro p
  have fB := (G.keeps (t' := t) (fun b o e => Heap.get?_push_of_some (vObj x) e)).fresh
  have hit : IsItemIter ((h2.push (vObj x)).push { cls := .type "dict_itemiterator", data := .fields #[.none, .bool false, .ref x, .int 0 0, .int kvs.length 0, .int ep 0, .none, .none] }) (h2.push (vObj x)).objs.size x 0 kvs.length ep .none .none := Heap.get?_push_size _ rfl
  replace G := G.keeps (t' := t) (h' := (h2.push (vObj x)).push { cls := .type "dict_itemiterator", data := .fields #[.none, .bool false, .ref x, .int 0 0, .int kvs.length 0, .int ep 0, .none, .none] }) fun b o e => Heap.get?_push_of_some _ (Heap.get?_push_of_some _ e)
  clear X2 T2 hq ck q
  dsimp only at fB
  generalize (h2.push (vObj x)).objs.size = di at fB hit ⊢
  generalize (h2.push (vObj x)).push { cls := .type "dict_itemiterator", data := .fields #[.none, .bool false, .ref x, .int 0 0, .int kvs.length 0, .int ep 0, .none, .none] } = h at hit G ⊢
  obtain ⟨dB, dC⟩ := fB
  refine seg_loop (fun m n s₀ s => ∃ i mm ok ov, m + i = g.length ∧ n = g.length - i ∧ GS z h₀ L mm s₀ s ∧ mm "multi" = some (.bool false) ∧ IsItemIter s.heap di x i kvs.length ep ok ov) ?_ g.length _ _ _ ⟨0, _, _, _, rfl, by rw [Nat.sub_zero]; exact List.length_map .., G.toks, by rfl, hit⟩
  clear G hit h2 s₀ gn d t os h
  rintro m n s₀ ⟨h, gn, d, t, os⟩ ⟨i, mm, ov, kv, hm, hn, G, mM, hit⟩ IH
  have X1 := X.ext G.base cX
  dsimp only at hit
  cases m with
  | zero =>
    have hi : i = g.length := by omega
    refine next_items_end hh' hit X1.dd (by omega) (fun h' he => ?_)
    dsimp only
    replace G := G.own (t' := t) he hit (fun _ _ q => nomatch q) it_g dB dC
    have : n = 0 := by omega
    exact seg_end (.ok (.ret .none)) ⟨rfl, this, G.turn⟩
  | succ m =>
    have hi : i < g.length := by omega
    have hik : i < kvs.length := by omega
    obtain ⟨ns, la, eg, ev, hla, va, na, ela, ia⟩ := X1.gl.at_ i kvs[i].1 kvs[i].2 (List.getElem?_eq_getElem hik)
    have egi : g[i] = (kvs[i].1, ns) := by rw [List.getElem?_eq_getElem hi] at eg; exact Option.some.inj eg
    refine next_items (k := kvs[i].1) (v := kvs[i].2) hit X1.dd (List.getElem?_eq_getElem hik) (fun tk h' hout htup kb => ?_)
    have gkeep : h'.get? h.objs.size = some { cls := .type "tuple", data := .seq #[.str kvs[i].1 tk, kvs[i].2] } := htup
    replace G := G.own (t' := t) (h' := h') (fun b o q e => kb b o q e) hit (fun _ _ q => nomatch q) it_g dB dC
    dsimp only
    refine wpAny_letOwnedTupleGo_items hout (fun h3 hit3 sb3 => ?_)
    have tne : h.objs.size ≠ di := Nat.ne_of_gt (Heap.lt_size hit)
    have tup3 : IsTup h3 h.objs.size #[.str kvs[i].1 tk, kvs[i].2] := ⟨_, (sb3.2 _ tne).trans gkeep, rfl, 0, rfl⟩
    replace G := G.own (t' := t) (h' := h3) sb3.extBut hout (fun _ _ q => nomatch q) it_g dB dC
    dsimp only
    refine assign_Tuple_tuple (A := A'.in1.over _ _) hh' tup3 rfl rfl (fun h5 he5 => ?_)
    dsimp only at he5 ⊢
    have ext5 := Ext.of_extBut he5
    replace G := G.ext (t' := t) ext5
    have hit5 : IsItemIter h5 di x (i + 1) kvs.length ep (.str kvs[i].1 tk) kvs[i].2 := ext5.get hit3 rfl (by simp)
    clear X1 hit hout htup kb gkeep tne tup3 sb3 hit3 he5 ext5 ela ia h' h3 h va na
    refine wpAny_assignInOrder_more ?_
    refine wpAny_assign_Name ?_
    refine wpAny_storeName_local rfl G.ns (fun h6 hn6 hs6 => ?_) rfl
    have hit6 : IsItemIter h6 di x (i + 1) kvs.length ep (.str kvs[i].1 tk) kvs[i].2 := (hs6.2 di (Ne.symm (G.ne hit5 fun _ _ q => nomatch q))).trans hit5
    replace G := G.store (t' := t) hn6 hs6
    dsimp only
    clear hn6 hs6 hit5 h5
    refine wpAny_assignInOrder_more ?_
    refine wpAny_assign_Name ?_
    refine wpAny_storeName_local rfl G.ns (fun h7 hn7 hs7 => ?_) rfl
    have hit7 : IsItemIter h7 di x (i + 1) kvs.length ep (.str kvs[i].1 tk) kvs[i].2 := (hs7.2 di (Ne.symm (G.ne hit6 fun _ _ q => nomatch q))).trans hit6
    replace G := G.store (t' := t) hn7 hs7
    dsimp only
    clear hn7 hs7 hit6 h6
    refine wpAny_assignInOrder_none ?_
    refine seg_execs_cons ?_
    refine seg_If ?_
    refine isTrue_plain ?_
    refine name_local G.ns (by rw [if_neg (by decide), if_neg (by decide)]; exact mM) ?_
    refine wpAny_truthy_bool ?_
    rw [if_neg Bool.false_ne_true]
    refine seg_execs_cons ?_
    obtain ⟨n', rfl⟩ : ∃ n', n = n' + 1 := ⟨n - 1, by omega⟩
    have X7 := X.ext G.base cX
    obtain ⟨ns', la', eg', ev', hla', va, na, ela, ia⟩ := X7.gl.at_ i kvs[i].1 kvs[i].2 (List.getElem?_eq_getElem hik)
    rw [ev] at ev'; cases ev'
    have nse : ns = ns' := by rw [eg] at eg'; exact congrArg Prod.snd (Option.some.inj eg')
    subst nse
    have hns : ns ≠ [] := by have := hne _ (List.getElem_mem hi); rwa [egi] at this
    have hns0 : ns.length ≤ 100 := by have := hv _ (List.getElem_mem hi); rwa [egi] at this
    obtain ⟨n0, r0, e0⟩ : ∃ n0 r0, ns = n0 :: r0 := by cases ns with | nil => exact absurd rfl hns | cons a l => exact ⟨a, l, rfl⟩
    have hva : va.size = ns.length := by have := ia_len ia; rwa [Array.length_toList] at this
    obtain ⟨tv, etv⟩ := ia_get ia (i := 0) (n := n0) (by rw [e0]; rfl)
    rw [Array.getElem?_toList] at etv
    refine seg_Expr_Yield rfl rfl rfl ?_
    refine Tuple_ ?_
    refine wpAny_items_cons ?_
    refine name_local G.ns (by rw [if_neg (by decide), if_pos (by decide)]) ?_
    refine wpAny_items_cons ?_
    refine Subscript_ ?_
    refine name_local G.ns (by rw [if_pos (by decide)]) ?_
    refine wpAny_Constant_int ?_
    rw [ev]
    refine item_list ⟨_, ela, rfl, na, rfl⟩ (by decide) (by decide) etv ?_
    refine wpAny_items_nil ?_
    refine wpAny_newObj_type ?_ (by show (2 : Nat) ≤ sizeLine; decide)
    intro kap hk
    dsimp only
    have frs := G.frs
    have k5 : Keep h7 (h7.push { cls := .type "tuple", data := .seq #[.str kvs[i].1 tk, .int n0 tv] }) := fun b o e => Heap.get?_push_of_some _ e
    have G6 := G.keeps (t' := t + 1 + 1 + 1) k5
    refine ⟨_, drop_len g _ hi (by omega), .tup frs ⟨_, Heap.get?_push_size _ rfl, rfl, 0, rfl⟩ rfl ?_, G6.turn, fun s'' cm => hk .none s'' ?_⟩
    · intro i' v' d' e1 e2
      rw [egi, e0] at e2
      match i', e1, e2 with
      | 0, e1, e2 => cases e1; cases e2; exact .str _ _
      | 1, e1, e2 => cases e1; cases e2; exact .int _ _
      | n + 2, e1, e2 => simp at e1
    · dsimp only
      refine IH m n' s'' s'' (Nat.lt_succ_self m) ⟨i + 1, _, _, _, by omega, by omega, G6.woken cm, ?_, cm.kept (k5 _ _ hit7) it_g dB dC⟩
      rw [if_neg (by decide), if_neg (by decide)]; exact mM
end Mine
end
section
open PySem PySem.W PySem.W.X PyProof.Rows PySem.Calls
set_option maxRecDepth 100000
set_option maxHeartbeats 400000
namespace Mine
def listsD (g : Grp) : List PyData := g.map fun p => .tuple [.str p.1, .list (p.2.map .int)]
local macro_rules | `(tactic| walk_at "nb") => `(tactic| refine name_boot (by assumption) rfl rfl rfl (by boot_by_name) (by decide) ?_)
theorem ia_rdp {p : Addr → Prop} {h : Heap} {l : List Value} {ns : List Int} (x : IntsAre l ns) {i : Nat} {v : Value} {d : PyData} (e1 : l[i]? = some v) (e2 : (ns.map PyData.int)[i]? = some d) : RdP p h v d := by
  rw [List.getElem?_map] at e2
  obtain ⟨n, en, rfl⟩ := Option.map_eq_some_iff.mp e2
  obtain ⟨t, et⟩ := ia_get x en
  rw [e1] at et; cases et
  exact .int n t
theorem lists_feed {w : World} {A : Around} {s : Shared} {R : Result → Shared → Prop} {h₀ : Heap} {b0 b x dx ep : Addr} {g : Grp} {kvs : List (Str × Value)} {es : Array DictEntry} (hA : Rm 480 A) (T : TopH w s.heap)
    (T₀ : TopH w h₀) (X : MDI w b h₀ x g dx kvs es ep) (hlow : 604 ≤ b) (hb0 : 604 ≤ b0) (hz : h₀.objs.size ≤ b0) (hb : b0 ≤ s.heap.objs.size) (hg : g.length ≤ 100) (hv : ∀ p ∈ g, p.2.length ≤ 100)
    (hR : ∀ h' tk gs, Keep s.heap h' → gs.bare = true →
      (∀ A' C, Rm 480 A' → A'.handled = none → (∀ c ∈ C, 604 ≤ c ∧ (c < b ∨ h₀.get? c = none) ∧ c ≠ s.heap.objs.size ∧ c ≠ s.heap.objs.size + 1) → Ext C h₀ h' →
        Feed w A' ⟨b0, s.heap.objs.size, C, s.gens.size⟩ (.ok (.ret .none)) (s.heap.objs.size + 1) (listsD g) 0 ⟨h', s.gens.push gs, s.drawn, tk, s.os⟩) →
      R (.ok (.ret (.ref (s.heap.objs.size + 1)))) ⟨h', s.gens.push gs, s.drawn, tk, s.os⟩) :
    codeAny (model P w) A (.call (.ref 346) ⟨[.ref x], []⟩) R s := by
  refine gen_make [(Str.ofString "self", .ref x)] hA T (by rfl) (by rfl) (by rfl) (by rfl) (BindsTo.of_eq rfl) (by decide) (locs rfl) fun h' tk k n gen => ?_
  refine hR _ _ _ k rfl fun A' C hA' hh' hC hE => ?_
  obtain ⟨L, eL⟩ : ∃ L, L = s.heap.objs.size := ⟨_, rfl⟩
  have hCL : L ∉ C := fun q => (hC L q).2.2.1 eL
  have hCa : s.heap.objs.size + 1 ∉ C := fun q => (hC _ q).2.2.2 rfl
  have ok : Zone.Ok ⟨b0, s.heap.objs.size, C, s.gens.size⟩ := ⟨hb0, hb, fun c q => (hC c q).1⟩
  refine ⟨ok, Nat.zero_le _, gen, ⟨Nat.le_succ _, hCa⟩, (T.ext (.of_keeps k) (by simp)).lim, _, Array.getElem?_push_size, rfl, fun s₁ cm cs => ⟨rfl, ?_⟩⟩
  rw [← eL] at n ok cm cs hb ⊢
  have ns₁ : s₁.heap.Ns L _ := cm.heap.ns n fun o e hd q => q.2 ⟨Nat.le_refl _, hCL, .inl (.inl hd)⟩
  have G : GS ⟨b0, L, C, s.gens.size⟩ h₀ L _ s₁ s₁ := ⟨ok, hz, .refl _ _, Base.calm (s := (Shared.setGen ⟨h', s.gens.push _, s.drawn, tk, s.os⟩ s.gens.size .running)) ok hz hE cm, ns₁, ⟨Nat.le_refl _, hCL⟩, cs⟩
  clear ns₁ cm cs hE k gen n tk h' hR hA A
  rw [Nat.sub_zero]
  generalize hz' : (⟨b0, L, C, s.gens.size⟩ : Zone) = z at G ok ⊢
  have zC : z.C = C := by rw [← hz']
  have zB : z.B = L := by rw [← hz']
  have c604 : ∀ c ∈ z.C, 604 ≤ c := fun c q => (hC c (zC ▸ q)).1
  have cX : ∀ c ∈ z.C, c < b ∨ h₀.get? c = none := fun c q => (hC c (zC ▸ q)).2.1
  have xlow : 604 ≤ x := Nat.le_trans hlow X.lx
  have hkv : kvs.length = g.length := X.gl.len
  clear hz' hC hCa hCL eL T R s
  refine (fun (key : ∀ s₀, GS z h₀ L _ s₀ s₁ → Seg (model P w) _ _ _ _ s₀ _ _ _ s₁) => key _ G) ?_
  clear G
  intro s₀ G
  obtain ⟨h, gn, d, t, os⟩ := s₁
  refine seg_func ?_
  refine seg_execs_cons ?_
  refine seg_all (wpAny_AnnAssign_bare ?_)
  dsimp only
  refine seg_execs_cons ?_
  refine seg_ForAt ?_
  have T1 : TopH w h := T₀.ext G.base c604
  have X1 := X.ext G.base cX
  refine super_call (x := x) (C := 437) (D := 437) (id := "dict.items") (BT := "builtin_function_or_method") T1 G.ns X1.inst.i (by rfl) rfl (by rfl) (by rfl) (by rfl) rfl (by rfl) (by rfl) (by rfl) (by rfl) rfl (by kernel_rfl) (by rfl) (by kernel_rfl) (by kernel_rfl)
    (.inr ⟨md_items, rfl⟩) rfl rfl rfl rfl rfl rfl rfl rfl rfl (by decide) (fun q h2 nq hq kp => ?_)
  replace G := G.keeps (t' := t) kp
  have X2 := X.ext G.base cX
  have T2 : TopH w h2 := T₀.ext G.base c604
  dsimp only at hq ⊢
  clear nq kp X1 T1 h
  refine call_b0 (x := x) (T := "builtin_function_or_method") (id := "dict.items") (.inr rfl) hq ?_
  refine wpAny_call ?_
  have ck := chk_md (id := "dict.items") (args := []) T2.K X2.inst.i (by rfl) (by kernel_rfl) (by rfl) (by decide +kernel) (by decide +kernel) (by kernel_rfl)
  refine code_bound (.inr rfl) hq ck (fun _ => Code.quiet_builtin _ (by decide +kernel)) ent_items ?_
  refine run_items T2.K X2.dd (by kernel_rfl) (not_sys xlow) ?_
  dsimp only
  refine iter_items (Heap.get?_push_size _ rfl) (X2.dd.keeps fun b o e => Heap.get?_push_of_some _ e) (by rw [hkv]; omega) ?_
  intro p
  have fB := (G.keeps (t' := t) (fun b o e => Heap.get?_push_of_some (vObj x) e)).fresh
  have hit : IsItemIter ((h2.push (vObj x)).push { cls := .type "dict_itemiterator", data := .fields #[.none, .bool false, .ref x, .int 0 0, .int kvs.length 0, .int ep 0, .none, .none] }) (h2.push (vObj x)).objs.size x 0 kvs.length ep .none .none := Heap.get?_push_size _ rfl
  replace G := G.keeps (t' := t) (h' := (h2.push (vObj x)).push { cls := .type "dict_itemiterator", data := .fields #[.none, .bool false, .ref x, .int 0 0, .int kvs.length 0, .int ep 0, .none, .none] }) fun b o e => Heap.get?_push_of_some _ (Heap.get?_push_of_some _ e)
  clear X2 T2 hq ck q
  dsimp only at fB
  generalize (h2.push (vObj x)).objs.size = di at fB hit ⊢
  generalize (h2.push (vObj x)).push { cls := .type "dict_itemiterator", data := .fields #[.none, .bool false, .ref x, .int 0 0, .int kvs.length 0, .int ep 0, .none, .none] } = h at hit G ⊢
  obtain ⟨dB, dC⟩ := fB
  refine seg_loop (fun m n s₀ s => ∃ i mm ok ov, m + i = g.length ∧ n = g.length - i ∧ GS z h₀ L mm s₀ s ∧ IsItemIter s.heap di x i kvs.length ep ok ov) ?_ g.length _ _ _ ⟨0, _, _, _, rfl, by rw [Nat.sub_zero]; exact List.length_map .., G.toks, hit⟩
  clear G hit h2 s₀ gn d t os h
  rintro m n s₀ ⟨h, gn, d, t, os⟩ ⟨i, mm, ov, kv, hm, hn, G, hit⟩ IH
  have X1 := X.ext G.base cX
  dsimp only at hit
  cases m with
  | zero =>
    have hi : i = g.length := by omega
    refine next_items_end hh' hit X1.dd (by omega) (fun h' he => ?_)
    dsimp only
    replace G := G.own (t' := t) he hit (fun _ _ q => nomatch q) it_g dB dC
    have : n = 0 := by omega
    exact seg_end (.ok (.ret .none)) ⟨rfl, this, G.turn⟩
  | succ m =>
    have hi : i < g.length := by omega
    have hik : i < kvs.length := by omega
    obtain ⟨ns, la, eg, ev, hla, va, na, ela, ia⟩ := X1.gl.at_ i kvs[i].1 kvs[i].2 (List.getElem?_eq_getElem hik)
    have egi : g[i] = (kvs[i].1, ns) := by rw [List.getElem?_eq_getElem hi] at eg; exact Option.some.inj eg
    refine next_items (k := kvs[i].1) (v := kvs[i].2) hit X1.dd (List.getElem?_eq_getElem hik) (fun tk h' hout htup kb => ?_)
    have gkeep : h'.get? h.objs.size = some { cls := .type "tuple", data := .seq #[.str kvs[i].1 tk, kvs[i].2] } := htup
    replace G := G.own (t' := t) (h' := h') (fun b o q e => kb b o q e) hit (fun _ _ q => nomatch q) it_g dB dC
    dsimp only
    refine wpAny_letOwnedTupleGo_items hout (fun h3 hit3 sb3 => ?_)
    have tne : h.objs.size ≠ di := Nat.ne_of_gt (Heap.lt_size hit)
    have tup3 : IsTup h3 h.objs.size #[.str kvs[i].1 tk, kvs[i].2] := ⟨_, (sb3.2 _ tne).trans gkeep, rfl, 0, rfl⟩
    replace G := G.own (t' := t) (h' := h3) sb3.extBut hout (fun _ _ q => nomatch q) it_g dB dC
    dsimp only
    refine assign_Tuple_tuple (A := A'.in1.over _ _) hh' tup3 rfl rfl (fun h5 he5 => ?_)
    dsimp only at he5 ⊢
    have ext5 := Ext.of_extBut he5
    replace G := G.ext (t' := t) ext5
    have hit5 : IsItemIter h5 di x (i + 1) kvs.length ep (.str kvs[i].1 tk) kvs[i].2 := ext5.get hit3 rfl (by simp)
    clear X1 hit hout htup kb gkeep tne tup3 sb3 hit3 he5 ext5 ela ia h' h3 h va na
    refine wpAny_assignInOrder_more ?_
    refine wpAny_assign_Name ?_
    refine wpAny_storeName_local rfl G.ns (fun h6 hn6 hs6 => ?_) rfl
    have hit6 : IsItemIter h6 di x (i + 1) kvs.length ep (.str kvs[i].1 tk) kvs[i].2 := (hs6.2 di (Ne.symm (G.ne hit5 fun _ _ q => nomatch q))).trans hit5
    replace G := G.store (t' := t) hn6 hs6
    dsimp only
    clear hn6 hs6 hit5 h5
    refine wpAny_assignInOrder_more ?_
    refine wpAny_assign_Name ?_
    refine wpAny_storeName_local rfl G.ns (fun h7 hn7 hs7 => ?_) rfl
    have hit7 : IsItemIter h7 di x (i + 1) kvs.length ep (.str kvs[i].1 tk) kvs[i].2 := (hs7.2 di (Ne.symm (G.ne hit6 fun _ _ q => nomatch q))).trans hit6
    replace G := G.store (t' := t) hn7 hs7
    dsimp only
    clear hn7 hs7 hit6 h6
    refine wpAny_assignInOrder_none ?_
    refine seg_execs_cons ?_
    obtain ⟨n', rfl⟩ : ∃ n', n = n' + 1 := ⟨n - 1, by omega⟩
    have X7 := X.ext G.base cX
    obtain ⟨ns', la', eg', ev', hla', va, na, ela, ia⟩ := X7.gl.at_ i kvs[i].1 kvs[i].2 (List.getElem?_eq_getElem hik)
    rw [ev] at ev'; cases ev'
    have nse : ns = ns' := by rw [eg] at eg'; exact congrArg Prod.snd (Option.some.inj eg')
    subst nse
    have hns0 : ns.length ≤ 100 := by have := hv _ (List.getElem_mem hi); rwa [egi] at this
    have hva : va.size = ns.length := by have := ia_len ia; rwa [Array.length_toList] at this
    refine seg_Expr_Yield rfl rfl rfl ?_
    refine Tuple_ ?_
    refine wpAny_items_cons ?_
    refine name_local G.ns (by rw [if_neg (by decide), if_pos (by decide)]) ?_
    refine wpAny_items_cons ?_
    refine wpAny_Call_NameR ?_
    have T7 : TopH w h7 := T₀.ext G.base c604
    walk_at "nb"
    refine call_bi ?_
    refine wpAny_items_cons ?_
    refine name_local G.ns (by rw [if_pos (by decide)]) ?_
    refine wpAny_items_nil ?_
    rw [ev]
    refine call_list_seq la (.inl rfl) ela rfl rfl (fun h8 c' k8 e8 => ?_) (by rw [sizeLine_eq]; omega)
    dsimp only at k8 e8 ⊢
    have frl := G.frs
    have hit8 := k8 _ _ hit7
    replace G := G.keeps (t' := t) k8
    dsimp only at frl
    generalize h7.objs.size = nl at e8 frl ⊢
    clear T7 X7 ela k8 hit7 h7
    refine wpAny_items_nil ?_
    refine wpAny_newObj_type ?_ (by show (2 : Nat) ≤ sizeLine; decide)
    intro kap hk
    dsimp only
    have frs := G.frs
    have k5 : Keep h8 (h8.push { cls := .type "tuple", data := .seq #[.str kvs[i].1 tk, .ref nl] }) := fun b o e => Heap.get?_push_of_some _ e
    have G6 := G.keeps (t' := t + 1 + 1) k5
    refine ⟨_, drop_len g _ hi (by omega), .tup frs ⟨_, Heap.get?_push_size _ rfl, rfl, 0, rfl⟩ rfl ?_, G6.turn, fun s'' cm => hk .none s'' ?_⟩
    · intro i' v' d' e1 e2
      rw [egi] at e2
      match i', e1, e2 with
      | 0, e1, e2 => cases e1; cases e2; exact .str _ _
      | 1, e1, e2 => cases e1; cases e2; exact .list frl ⟨_, k5 _ _ e8, rfl, c', rfl⟩ (by rw [List.length_map]; exact hva) fun i v d e1 e2 => ia_rdp ia (by rwa [Array.getElem?_toList]) e2
      | n + 2, e1, e2 => simp at e1
    · dsimp only
      exact IH m n' s'' s'' (Nat.lt_succ_self m) ⟨i + 1, _, _, _, by omega, by omega, G6.woken cm, cm.kept (k5 _ _ hit8) it_g dB dC⟩
end Mine
end
section
open PySem PySem.W PySem.W.X PyProof.Rows PySem.Calls
set_option maxRecDepth 100000
set_option maxHeartbeats 400000
namespace Mine
section
variable {z z' : Zone} {h₀ : Heap} {L : Addr} {m m' : Str → Option Value} {s₀ s s' : Shared} {h h' : Heap} {g : Array GenState} {d : Drawn} {t t' : Nat} {os : OsState}
theorem Woke.outer (n : z'.In z) (x : Woke z' s s') : Turn z s s' :=
  ⟨x.heap.mono fun a o q => ⟨Nat.le_trans n.B q.1, fun m => q.2.1 (n.C a m), q.2.2⟩, fun i hi => x.gens i (Nat.lt_of_le_of_lt hi n.g), x.bare, x.drawn, x.os⟩
theorem GS.by (x : GS z h₀ L m s₀ s) (y : Turn z s s') (n : s'.heap.Ns L m') : GS z h₀ L m' s₀ s' :=
  ⟨x.ok, x.hz, x.turn.trans x.ok y, x.base.turn x.ok x.hz y.heap, n, x.L, fun c q => let ⟨o, e⟩ := x.cs c q; y.heap.still e fun r => r.2.1 q⟩
theorem Turn.made (hg : z.g < g.size) {x : GenState} (hb : x.bare = true) (k : Keep h h') : Turn z ⟨h, g, d, t, os⟩ ⟨h', g.push x, d, t', os⟩ :=
  ⟨.of (.of_keeps k), fun i hi => by
    have : i < g.size := Nat.lt_of_le_of_lt hi hg
    show (g.push x)[i]? = g[i]?
    rw [Array.getElem?_push, if_neg (by omega)], fun b y hy => by
    rcases Array.mem_push.mp hy with hy | rfl
    · exact b y hy
    · exact hb, rfl, rfl⟩
theorem Calm.keeps (k : Keep h h') : Calm z ⟨h, g, d, t, os⟩ ⟨h', g, d, t', os⟩ := ⟨.of (.of_keeps k), fun a _ o e => ⟨o, k a o e⟩, fun _ _ => rfl⟩
theorem Calm.ext (k : Ext [] h h') : Calm z ⟨h, g, d, t, os⟩ ⟨h', g, d, t', os⟩ := ⟨.of k, fun a _ o e => k.there a o e, fun _ _ => rfl⟩
theorem Calm.but {c : Addr} (hc : c ∈ z.C) (he : Heap.ExtBut c h h') (ht : ∃ o, h'.get? c = some o) : Calm z ⟨h, g, d, t, os⟩ ⟨h', g, d, t', os⟩ :=
  ⟨.but he fun o e => ⟨fun q => q.2 hc, fun q => q.2.1 hc⟩, fun a _ o e => by
    by_cases q : a = c
    · rw [q]; exact ht
    · exact ⟨o, he a o q e⟩, fun _ _ => rfl⟩
theorem Calm.list {c : Addr} (hb : z.b0 ≤ c) (he : Heap.ExtBut c h h') (ht : ∃ o, h'.get? c = some o) (hl : ∀ o, h.get? c = some o → o.cls = .type "list" ∧ ∀ es n, o.data ≠ .dict es n) : Calm z ⟨h, g, d, t, os⟩ ⟨h', g, d, t', os⟩ :=
  ⟨.but he fun o e => ⟨fun q => absurd q.1 (Nat.not_lt.mpr hb), fun q => by
    obtain ⟨h1, h2⟩ := hl o e
    rcases q.2.2 with (⟨es, n, h3⟩ | h3) | h3
    · exact h2 _ _ h3
    · rw [h1] at h3; exact absurd h3 (by decide)
    · rw [h1] at h3; exact absurd h3 (by decide)⟩, fun a _ o e => by
    by_cases q : a = c
    · rw [q]; exact ht
    · exact ⟨o, he a o q e⟩, fun _ _ => rfl⟩
end
theorem seg_loopA {w : World} {A : Around} {R : GenEnd} {Y : Protocol} {target : Expr} {it : Value} {body : List Stmt} {env : Env} {k h g l c₁ p₁} {fs : List Frame} (I : Around → Nat → Nat → Shared → Shared → Prop)
    (turn : ∀ A₂, A₂ = A.over (.forLoop target it body [] env) (.ret k h g l c₁ p₁ [] :: fs) → ∀ m n s₀ s, I A₂ m n s₀ s → (∀ m' n' s₀' s', m' < m → I A₂ m' n' s₀' s' → Seg (model P w) A R Y n' s₀' (.forLoop target it body [] env) (.pure (.again (.forLoop target it body [] env))) (.ret k h g l c₁ p₁ [] :: fs) s') →
      wpAny (model P w) A₂ (pyNext it) (fun r s₁ => match r with
      | none => Seg (model P w) A R Y n s₀ c₁ (k (.ok .next)) fs s₁
      | some v => wpAny (model P w) A₂ (letOwnedTupleGo target it v) (fun _ s₂ =>
          wpAny (model P w) A₂ (assign target env v) (fun _ s₃ =>
            Seg (model P w) A R Y n s₀ (.forLoop target it body [] env) ((execs body env).wrap (turnK target it body env) (turnH env) id id) (.ret k h g l c₁ p₁ [] :: fs) s₃) No s₂) No s₁) No s)
    (m n : Nat) (s₀ s : Shared) (i : I (A.over (.forLoop target it body [] env) (.ret k h g l c₁ p₁ [] :: fs)) m n s₀ s) :
    Seg (model P w) A R Y n s₀ (.forLoop target it body [] env) ((model P w).den (.forLoop target it body [] env)) (.ret k h g l c₁ p₁ [] :: fs) s :=
  seg_loop (I (A.over (.forLoop target it body [] env) (.ret k h g l c₁ p₁ [] :: fs))) (fun m n s₀ s i ih => turn _ rfl m n s₀ s i ih) m n s₀ s i
theorem Rm.over1 {n : Nat} {A : Around} {c : Code} {f : Frame} (x : Rm n A) (h : c.isCaller = false) (hf : (f.where_).1.isCaller = false) : Rm (n + 10) (A.over c [f]) :=
  Rm.over (fs := [f]) x h fun f' q => by rw [List.mem_singleton.mp q]; exact hf
theorem Rm.over2 {n : Nat} {A : Around} {c : Code} {f f₂ : Frame} (x : Rm n A) (h : c.isCaller = false) (hf : (f.where_).1.isCaller = false) (hf₂ : (f₂.where_).1.isCaller = false) : Rm (n + 15) (A.over c [f, f₂]) :=
  Rm.over (fs := [f, f₂]) x h fun f' q => by
    rcases List.mem_cons.mp q with rfl | q
    · exact hf
    · rw [List.mem_singleton.mp q]; exact hf₂
theorem letGo_gen {w : World} {A : Around} {E : Value → Shared → Prop} {s : Shared} {elts : List Expr} {x1} {pos : Pos} {a r : Addr} {g : Nat} {Q : Unit → Shared → Prop} (hg : s.heap.IsGen a g) (hQ : Q () s) :
    wpAny (model P w) A (letOwnedTupleGo (.Tuple elts x1 pos) (.ref a) (.ref r)) Q E s := by
  obtain ⟨o, nm, qn, ho, hc, hd, _⟩ := hg
  unfold letOwnedTupleGo
  refine wpAny_bind (wpAny_load ho ?_)
  rw [hc, hd]
  dsimp only
  rw [if_neg (by simp)]
  exact wpAny_pure hQ
theorem RdP.strE {p : Addr → Prop} {h : Heap} {u : Value} {x : Str} (r : RdP p h u (.str x)) : ∃ t, u = .str x t := by cases r; exact ⟨_, rfl⟩
theorem RdP.intE {p : Addr → Prop} {h : Heap} {u : Value} {x : Int} (r : RdP p h u (.int x)) : ∃ t, u = .int x t := by cases r; exact ⟨_, rfl⟩
theorem itemsD_pair {g : Grp} {j : Nat} (hj : j < (itemsD g).length) : ∃ k n, (itemsD g)[j] = pairD (k, n) := by
  have := List.getElem_mem hj
  unfold itemsD at this
  obtain ⟨p, _, hp⟩ := List.mem_flatMap.mp this
  obtain ⟨n, _, e⟩ := List.mem_map.mp hp
  exact ⟨p.1, n, e.symm⟩
end Mine
end
section
open PySem PySem.W PySem.W.X PyProof.Rows PySem.Calls
set_option maxRecDepth 100000
set_option maxHeartbeats 400000
namespace Mine
local macro_rules | `(tactic| walk_at "nb") => `(tactic| refine name_boot (by assumption) rfl rfl rfl (by boot_by_name) (by decide) ?_)
theorem set_g : Value.type "set" ∈ gcls := by decide
def itemsC (gs : List Grp) : List PyData := gs.flatMap itemsD
theorem itemsC_at {gs : List Grp} {i : Nat} (hi : i < gs.length) {j : Nat} (hj : j < (itemsD gs[i]).length) {n' : Nat} (hn : n' + 1 = (itemsD gs[i]).length - j + (itemsC (gs.drop (i + 1))).length) :
    (itemsC gs)[(itemsC gs).length - 1 - n']? = some (itemsD gs[i])[j] := by
  have eg : gs = gs.take i ++ gs[i] :: gs.drop (i + 1) := by rw [← List.drop_eq_getElem_cons hi, List.take_append_drop]
  have es : itemsC gs = itemsC (gs.take i) ++ (itemsD gs[i] ++ itemsC (gs.drop (i + 1))) := by
    have : itemsC gs = itemsC (gs.take i ++ gs[i] :: gs.drop (i + 1)) := congrArg itemsC eg
    rw [this]
    unfold itemsC
    rw [List.flatMap_append, List.flatMap_cons]
  have hl : (itemsC gs).length = (itemsC (gs.take i)).length + ((itemsD gs[i]).length + (itemsC (gs.drop (i + 1))).length) := by rw [es, List.length_append, List.length_append]
  have hidx : (itemsC gs).length - 1 - n' = (itemsC (gs.take i)).length + j := by omega
  rw [hidx, es, List.getElem?_append_right (by omega), Nat.add_sub_cancel_left, List.getElem?_append_left hj, List.getElem?_eq_getElem hj]
theorem citems_feed {w : World} {A : Around} {s : Shared} {R : Result → Shared → Prop} {b x dx dl ep : Addr} {gs : List Grp} {hsh : Int} {t : Tok} {n c : Nat} {vs : Array Value} {es : Array DictEntry} (hA : Rm 440 A) (T₀ : TopH w s.heap)
    (X : WH w b s.heap x gs dx dl hsh t n c vs es ep) (hlow : 604 ≤ b) (hg : ∀ g ∈ gs, g.length ≤ 100) (hv : ∀ g ∈ gs, ∀ p ∈ g, p.2.length ≤ 100)
    (hR : ∀ h' tk gn, Keep s.heap h' → gn.bare = true →
      (∀ A' C, Rm 440 A' → A'.handled = none → (∀ c ∈ C, 604 ≤ c ∧ (c < b ∨ s.heap.get? c = none) ∧ c ≠ s.heap.objs.size ∧ c ≠ s.heap.objs.size + 1) →
        Feed w A' ⟨s.heap.objs.size, s.heap.objs.size, C, s.gens.size⟩ (.ok (.ret .none)) (s.heap.objs.size + 1) (itemsC gs) 0 ⟨h', s.gens.push gn, s.drawn, tk, s.os⟩) →
      R (.ok (.ret (.ref (s.heap.objs.size + 1)))) ⟨h', s.gens.push gn, s.drawn, tk, s.os⟩) :
    codeAny (model P w) A (.call (.ref 508) ⟨[.ref x], [(Str.ofString "multi", .bool true)]⟩) R s := by
  refine gen_make [(Str.ofString "self", .ref x), (Str.ofString "multi", .bool true)] hA T₀ (by rfl) (by rfl) (by rfl) (by rfl) (binds_K T₀.K rfl (by rfl) rfl rfl rfl) (by decide) (locs rfl) fun h' tk k n gen => ?_
  refine hR _ _ _ k rfl fun A' C hA' hh' hC => ?_
  obtain ⟨L, eL⟩ : ∃ L, L = s.heap.objs.size := ⟨_, rfl⟩
  have hCL : L ∉ C := fun q => (hC L q).2.2.1 eL
  have hCa : s.heap.objs.size + 1 ∉ C := fun q => (hC _ q).2.2.2 rfl
  have ok : Zone.Ok ⟨s.heap.objs.size, s.heap.objs.size, C, s.gens.size⟩ := ⟨T₀.low, Nat.le_refl _, fun c q => (hC c q).1⟩
  refine ⟨ok, Nat.zero_le _, gen, ⟨Nat.le_succ _, hCa⟩, (T₀.ext (.of_keeps k) (by simp)).lim, _, Array.getElem?_push_size, rfl, fun s₁ cm cs => ⟨rfl, ?_⟩⟩
  have run : s₁.gens[s.gens.size]? = some .running := (cm.gens _ (Nat.le_refl _)).trans (setGen_self (s := ⟨h', s.gens.push _, s.drawn, tk, s.os⟩) Array.getElem?_push_size)
  have hE : Ext C s.heap h' := (Ext.of_keeps k).mono (by simp)
  have bs : Base ⟨s.heap.objs.size, s.heap.objs.size, C, s.gens.size⟩ s.heap s₁.heap := Base.calm (s := (Shared.setGen ⟨h', s.gens.push _, s.drawn, tk, s.os⟩ s.gens.size .running)) ok (Nat.le_refl _) hE cm
  have ns₁ : s₁.heap.Ns L _ := cm.heap.ns (eL ▸ n) fun o e hd q => q.2 ⟨Nat.le_of_eq eL.symm, hCL, .inl (.inl hd)⟩
  have G : GS ⟨s.heap.objs.size, s.heap.objs.size, C, s.gens.size⟩ s.heap L _ s₁ s₁ := ⟨ok, Nat.le_refl _, .refl _ _, bs, ns₁, ⟨Nat.le_of_eq eL.symm, hCL⟩, cs⟩
  rw [← eL] at G ok ⊢
  rw [Nat.sub_zero]
  generalize hz' : (⟨L, L, C, s.gens.size⟩ : Zone) = z at G ok ⊢
  have zC : z.C = C := by rw [← hz']
  have zb0 : z.b0 = L := by rw [← hz']
  have zB : z.B = L := by rw [← hz']
  have zg : z.g = s.gens.size := by rw [← hz']
  rw [← zg] at run
  have c604 : ∀ c ∈ z.C, 604 ≤ c := fun c q => (hC c (zC ▸ q)).1
  have cX : ∀ c ∈ z.C, c < b ∨ s.heap.get? c = none := fun c q => (hC c (zC ▸ q)).2.1
  have xlow : 604 ≤ x := Nat.le_trans hlow X.lx
  have hz : s.heap.objs.size ≤ L := Nat.le_of_eq eL.symm
  have L604 : 604 ≤ L := Nat.le_trans T₀.low hz
  generalize s.heap = h₀ at T₀ X G hz cX
  clear hz' hC hCa hCL eL zg bs ns₁ cm cs hE k gen n tk h' hR hA A s
  refine (fun (key : ∀ s₀, GS z h₀ L _ s₀ s₁ → Seg (model P w) _ _ _ _ s₀ _ _ _ s₁) => key _ G) ?_
  clear G
  intro s₀ G
  obtain ⟨h, gn, d, t', os⟩ := s₁
  dsimp only at run
  refine seg_func ?_
  refine seg_execs_cons ?_
  have T1 : TopH w h := T₀.ext G.base c604
  refine seg_all (wpAny_Assign_Name ?_)
  refine wpAny_Call_NameR ?_
  walk_at "nb"
  refine call_bi0 ?_
  refine call_set_0 (fun led => ?_)
  replace G := G.keeps (t' := t') (h' := h.push { cls := .type "set", dict := none, data := .set #[] 0 (.fresh 0 0 led) }) fun b o e => Heap.get?_push_of_some _ e
  dsimp only at G ⊢
  generalize h.objs.size = fo
  generalize h.push { cls := .type "set", dict := none, data := .set #[] 0 (.fresh 0 0 led) } = h1 at G ⊢
  clear T1 h
  refine wpAny_storeName_local rfl G.ns (fun h2 hn2 hs2 => ?_) rfl
  replace G := G.store (t' := t') hn2 hs2
  dsimp only
  clear hn2 hs2 h1
  refine seg_execs_cons ?_
  refine seg_For ?_
  have T2 : TopH w h2 := T₀.ext G.base c604
  have X2 := X.ext G.base cX
  refine Attribute_Name_ ?_
  refine name_local G.ns (by rw [if_neg (by decide)]; rfl) ?_
  refine get_dicts T2 X2 ?_
  refine wpAny_pyIter_list ⟨_, X2.ls, rfl, c, rfl⟩ ?_
  intro p
  obtain ⟨iB, iC⟩ := G.fresh
  have hit : (h2.push { cls := .type "list_iterator", data := .fields #[.ref dl, .int 0 0] }).IsListIter h2.objs.size dl 0 := ⟨_, Heap.get?_push_size _ rfl, rfl, rfl⟩
  replace G := G.keeps (t' := t') (h' := h2.push { cls := .type "list_iterator", data := .fields #[.ref dl, .int 0 0] }) fun b o e => Heap.get?_push_of_some _ e
  dsimp only at iB iC G ⊢
  generalize h2.objs.size = it at iB iC hit ⊢
  generalize h2.push { cls := .type "list_iterator", data := .fields #[.ref dl, .int 0 0] } = h3 at hit G ⊢
  clear T2 X2 h2
  refine seg_loop (fun m n s₀ s => ∃ i mm, m + i = gs.length ∧ n = (itemsC (gs.drop i)).length ∧ GS z h₀ L mm s₀ s ∧ mm "multi" = some (.bool true) ∧ s.heap.IsListIter it dl i ∧ s.gens[z.g]? = some .running) ?_ gs.length _ _ _
    ⟨0, _, rfl, rfl, G.toks, by rw [if_neg (by decide)]; rfl, hit, run⟩
  clear G hit run h3 s₀ gn d t' os
  rintro m n s₀ ⟨h, gn, d, t', os⟩ ⟨i, mm, hm, hn, G, mM, hit, run⟩ IH
  dsimp only at hit run
  have X1 := X.ext G.base cX
  obtain ⟨oi, eoi, coi, doi⟩ := id hit
  cases m with
  | zero =>
    have hi : i = gs.length := by omega
    refine wpAny_pyNext_list_end (A := A'.in1.over _ _) hh' hit ⟨_, X1.ls, rfl, c, rfl⟩ (by rw [Array.getElem?_eq_none_iff, X1.md.1]; omega) (fun h' he => ?_)
    dsimp only
    replace G := G.own (t' := t') he eoi (fun _ _ q => by rw [doi] at q; exact nomatch q) (by rw [coi]; exact li_g) iB iC
    have : n = 0 := by rw [hn, hi, List.drop_length]; rfl
    exact seg_end (.ok (.ret .none)) ⟨rfl, this, G.turn⟩
  | succ m =>
    have hi : i < gs.length := by omega
    obtain ⟨mm0, dm, kvs, em, pm, em0, Xm⟩ := X.md.2 i gs[i] (List.getElem?_eq_getElem hi)
    refine wpAny_pyNext_list_item hit ⟨_, X1.ls, rfl, c, rfl⟩ em0 (fun h4 hit4 sb4 => ?_)
    dsimp only
    replace G := G.own (t' := t') (h' := h4) sb4.extBut eoi (fun _ _ q => by rw [doi] at q; exact nomatch q) (by rw [coi]; exact li_g) iB iC
    clear X1 hit eoi coi doi oi sb4 h
    refine wpAny_pure ?_
    refine wpAny_assign_Name ?_
    refine wpAny_storeName_local rfl G.ns (fun h5 hn5 hs5 => ?_) rfl
    obtain ⟨oi, eoi, coi, doi⟩ := id hit4
    have hit5 := hit4.at fun o e => (hs5.2 it (Ne.symm (G.ne eoi fun _ _ q => by rw [doi] at q; exact nomatch q))).trans e
    replace G := G.store (t' := t') hn5 hs5
    dsimp only
    clear hn5 hs5 hit4 eoi coi doi oi h4
    refine seg_execs_cons ?_
    refine seg_For ?_
    have T6 : TopH w h5 := T₀.ext G.base c604
    have X6 := Xm.ext G.base cX
    refine methodCall_KW ?_
    refine name_local G.ns (by rw [if_pos (by decide)]) ?_
    refine meth_MD (f := 338) T6 X6.inst (by kernel_rfl) (by rfl) ?_
    refine call_fn (by rfl) ?_
    refine wpAny_items_cons ?_
    refine name_local G.ns (by rw [if_neg (by decide)]; exact mM) ?_
    refine wpAny_items_nil ?_
    refine ⟨T6, ?_⟩
    refine wpAny_call ?_
    refine items_feed ((hA'.in1.over1 rfl rfl).mono (by decide)) T6 T₀ Xm hlow L604 hz (Nat.le_of_lt G.ns.lt) (hg _ (List.getElem_mem hi)) (hv _ (List.getElem_mem hi)) (fun h7 tk7 gn7 k7 b7 feed => ?_)
    dsimp only at k7 feed ⊢
    have gsz : z.g < gn.size := by
      rcases Nat.lt_or_ge z.g gn.size with q | q
      · exact q
      · rw [Array.getElem?_eq_none q] at run; cases run
    have hit7 : h7.IsListIter it dl (i + 1) := let ⟨o, e, r⟩ := hit5; ⟨o, k7 _ _ e, r⟩
    have tn7 : Turn z ⟨h5, gn, d, t', os⟩ ⟨h7, gn.push gn7, d, tk7, os⟩ := Turn.made gsz b7 k7
    have ns7 : h7.Ns L _ := Ns_ext (.of_keeps k7) G.ns (by simp)
    have bnd : z.B ≤ h5.objs.size := G.fresh.1
    have C' : ∀ c ∈ L :: it :: z.C, 604 ≤ c ∧ (c < b ∨ h₀.get? c = none) ∧ c ≠ h5.objs.size ∧ c ≠ h5.objs.size + 1 := by
      intro c' q
      have lt : ∀ {a : Addr} {o : Obj}, h5.get? a = some o → a ≠ h5.objs.size ∧ a ≠ h5.objs.size + 1 := fun e => ⟨Nat.ne_of_lt (Heap.lt_size e), Nat.ne_of_lt (Nat.lt_succ_of_lt (Heap.lt_size e))⟩
      rcases List.mem_cons.mp q with rfl | q
      · obtain ⟨o, _, _, e, _⟩ := G.ns
        exact ⟨L604, .inr (get_fresh hz), lt e⟩
      · rcases List.mem_cons.mp q with rfl | q
        · obtain ⟨o, e, _⟩ := hit5
          exact ⟨Nat.le_trans L604 (zB ▸ iB), .inr (get_fresh (Nat.le_trans hz (zB ▸ iB))), lt e⟩
        · obtain ⟨o, e⟩ := G.cs c' q
          exact ⟨c604 c' q, cX c' q, lt e⟩
    have E' : Ext (L :: it :: z.C) h₀ h7 := (Ext.and G.base (.of_keeps k7)).mono fun a q => .tail _ (.tail _ q)
    obtain ⟨z', ez'⟩ : ∃ z' : Zone, z' = ⟨L, h5.objs.size, L :: it :: z.C, gn.size⟩ := ⟨_, rfl⟩
    have hin : z'.In z := by rw [ez']; exact ⟨zb0.symm, bnd, fun a q => .tail _ (.tail _ q), gsz⟩
    have z'C : z'.C = L :: it :: z.C := by rw [ez']
    have feed' := fun A₂ hA₂ hh₂ => feed A₂ (L :: it :: z.C) hA₂ hh₂ C' E'
    rw [← ez'] at feed'
    refine wpAny_pyIter_gen (feed' A'.in1 (hA'.in1.mono (by decide)) hh').gen ?_
    intro p'
    have g' : z'.g = gn.size := by rw [ez']
    replace G := G.by tn7 ns7
    have run7 : (gn.push gn7)[z.g]? = some .running := by rw [Array.getElem?_push, if_neg (by omega)]; exact run
    clear feed E' C' bnd tn7 ns7 k7 b7 hit5 run T6 X6 ez' gsz g'
    generalize h5.objs.size + 1 = ga at feed' ⊢
    refine seg_loopA (fun A₂ m' n s₀ s => ∃ j mm, m' + j = (itemsD gs[i]).length ∧ n = ((itemsD gs[i]).length - j) + (itemsC (gs.drop (i + 1))).length ∧ GS z h₀ L mm s₀ s ∧ mm "multi" = some (.bool true) ∧ s.heap.IsListIter it dl (i + 1) ∧
      s.gens[z.g]? = some .running ∧ Feed w A₂ z' (.ok (.ret .none)) ga (itemsD gs[i]) j s) ?_ (itemsD gs[i]).length _ _ _
      ⟨0, _, rfl, ?_, G, ?_, hit7, run7, feed' _ ((hA'.in1.over2 rfl rfl rfl).mono (by decide)) hh'⟩
    case refine_2 =>
      rw [hn, List.drop_eq_getElem_cons hi]
      unfold itemsC
      rw [List.flatMap_cons, List.length_append, Nat.sub_zero]
    case refine_3 => rw [if_neg (by decide)]; exact mM
    clear G hit7 run7 feed' hn mM h7 h5 s₀ n gn gn7 d tk7 t' os
    intro A₂ eA m' n s₀ s I IH2
    obtain ⟨j, mm, hm', hn, G, mM, hit, run, F⟩ := I
    have hh2 : A₂.handled = none := by rw [eA]; exact hh'
    have hr2 : Rm 460 A₂ := by rw [eA]; exact (hA'.in1.over2 rfl rfl rfl).mono (by decide)
    clear eA
    have hC2 : Cs z' s.heap := by
      intro c' q
      rw [z'C] at q
      rcases List.mem_cons.mp q with rfl | q
      · obtain ⟨o, _, _, e, _⟩ := G.ns; exact ⟨o, e⟩
      · rcases List.mem_cons.mp q with rfl | q
        · obtain ⟨o, e, _⟩ := hit; exact ⟨o, e⟩
        · exact G.cs c' q
    have LC' : L ∈ z'.C := by rw [z'C]; exact .head _
    have iC' : it ∈ z'.C := by rw [z'C]; exact .tail _ (.head _)
    have gon : ∀ s', Woke z' s s' → GS z h₀ L mm s₀ s' ∧ s'.heap.IsListIter it dl (i + 1) ∧ s'.gens[z.g]? = some .running := by
      intro s' wk
      refine ⟨G.by (wk.outer hin) (wk.heap.ns G.ns fun o _ _ q => q.2.1 LC'), ?_, (wk.gens _ hin.g).trans run⟩
      obtain ⟨o, e, hc, r⟩ := hit
      exact ⟨o, wk.heap.get e (by unfold hasCls; rw [hc]) fun q => q.2.1 iC', hc, r⟩
    cases m' with
    | zero =>
      have hj : j = (itemsD gs[i]).length := by omega
      refine F.stop hC2 hh2 (hr2.dlt) (.inl rfl) hj (fun s' wk => ?_)
      obtain ⟨G', hit', run'⟩ := gon s' wk
      dsimp only
      exact IH m n s₀ _ (Nat.lt_succ_self m) ⟨i + 1, mm, by omega, by rw [hn, hj]; omega, G', mM, hit', run'⟩
    | succ m' =>
      have hj : j < (itemsD gs[i]).length := by omega
      obtain ⟨k0, n0, ed⟩ := itemsD_pair hj
      refine F.next hC2 hh2 (hr2.dlt) (.inl rfl) (List.getElem?_eq_getElem hj) (fun v s' rd wk F' => ?_)
      obtain ⟨G', hit', run'⟩ := gon s' wk
      rw [ed] at rd
      obtain ⟨ta, u, zz, rfl, pa, tup, ru, rz⟩ := rd.pairE
      obtain ⟨tu, rfl⟩ := ru.strE
      obtain ⟨tz, rfl⟩ := rz.intE
      clear G hit run F hC2 gon wk rd ru rz pa
      dsimp only
      obtain ⟨h, gn, d, t', os⟩ := s'
      refine letGo_gen F'.gen ?_
      refine assign_Tuple_tuple hh2 tup rfl rfl (fun h5 he5 => ?_)
      dsimp only at he5 hit' run' ⊢
      have ext5 := Ext.of_extBut he5
      replace G' := G'.ext (t' := t') ext5
      replace F' := F'.calm (Calm.ext (t' := t') ext5)
      have hit5 : h5.IsListIter it dl (i + 1) := let ⟨o, e, hc, r⟩ := hit'; ⟨o, ext5.get e (by unfold hasCls; rw [hc]) (by simp), hc, r⟩
      clear tup he5 ext5 hit' h
      have Lns : ∀ {h : Heap}, GS z h₀ L mm s₀ ⟨h, gn, d, t', os⟩ → ∃ o, h.get? L = some o := fun g => let ⟨o, _, _, e, _⟩ := g.ns; ⟨o, e⟩
      refine wpAny_assignInOrder_more ?_
      refine wpAny_assign_Name ?_
      refine wpAny_storeName_local rfl G'.ns (fun h6 hn6 hs6 => ?_) rfl
      obtain ⟨oi, eoi, coi, doi⟩ := id hit5
      have hit6 := hit5.at fun o e => (hs6.2 it (Ne.symm (G'.ne eoi fun _ _ q => by rw [doi] at q; exact nomatch q))).trans e
      replace G' := G'.store (t' := t') hn6 hs6
      replace F' := F'.calm (Calm.but (t' := t') LC' hs6.extBut (let ⟨o, _, _, e, _⟩ := G'.ns; ⟨o, e⟩))
      dsimp only
      clear hn6 hs6 hit5 eoi coi doi oi Lns h5
      refine wpAny_assignInOrder_more ?_
      refine wpAny_assign_Name ?_
      refine wpAny_storeName_local rfl G'.ns (fun h7 hn7 hs7 => ?_) rfl
      obtain ⟨oi, eoi, coi, doi⟩ := id hit6
      have hit7 := hit6.at fun o e => (hs7.2 it (Ne.symm (G'.ne eoi fun _ _ q => by rw [doi] at q; exact nomatch q))).trans e
      replace G' := G'.store (t' := t') hn7 hs7
      replace F' := F'.calm (Calm.but (t' := t') LC' hs7.extBut (let ⟨o, _, _, e, _⟩ := G'.ns; ⟨o, e⟩))
      dsimp only
      clear hn7 hs7 hit6 eoi coi doi oi h6
      refine wpAny_assignInOrder_none ?_
      refine seg_execs_cons ?_
      refine seg_If ?_
      refine isTrue_plain ?_
      refine name_local G'.ns (by rw [if_neg (by decide), if_neg (by decide)]; exact mM) ?_
      refine wpAny_truthy_bool ?_
      rw [if_pos rfl]
      refine seg_execs_cons ?_
      obtain ⟨n', rfl⟩ : ∃ n', n = n' + 1 := ⟨n - 1, by omega⟩
      refine seg_Expr_Yield rfl rfl rfl ?_
      refine Tuple_ ?_
      refine wpAny_items_cons ?_
      refine name_local G'.ns (by rw [if_neg (by decide), if_pos (by decide)]) ?_
      refine wpAny_items_cons ?_
      refine name_local G'.ns (by rw [if_pos (by decide)]) ?_
      refine wpAny_items_nil ?_
      refine wpAny_newObj_type ?_ (by show (2 : Nat) ≤ sizeLine; decide)
      intro kap hk
      dsimp only
      have frs := G'.frs
      have k5 : Keep h7 (h7.push { cls := .type "tuple", data := .seq #[.str k0 tu, .int n0 tz] }) := fun b o e => Heap.get?_push_of_some _ e
      have G6 := G'.keeps (t' := t' + 1 + 1) k5
      refine ⟨pairD (k0, n0), ?_, .tup frs ⟨_, Heap.get?_push_size _ rfl, rfl, 0, rfl⟩ rfl ?_, G6.turn, fun s'' cm => hk .none s'' ?_⟩
      · rw [← ed]; exact itemsC_at hi hj (by omega)
      · intro i' v' d' e1 e2
        match i', e1, e2 with
        | 0, e1, e2 => cases e1; cases e2; exact .str _ _
        | 1, e1, e2 => cases e1; cases e2; exact .int _ _
        | n + 2, e1, e2 => simp at e1
      · dsimp only
        obtain ⟨ol, eol, col, dol⟩ := id hit7
        have F6 := F'.calm (Calm.keeps (t' := t' + 1 + 1) k5)
        refine IH2 m' n' s'' s'' (Nat.lt_succ_self m') ⟨j + 1, _, by omega, by omega, G6.woken cm, ?_, ⟨ol, cm.kept (k5 _ _ eol) (by rw [col]; exact li_g) iB iC, col, dol⟩, (cm.gens z.g (Nat.le_refl _)).trans run', F6.calm (cm.inner hin ?_)⟩
        · rw [if_neg (by decide), if_neg (by decide)]; exact mM
        · intro c' q n' o e
          rw [z'C] at q
          rcases List.mem_cons.mp q with rfl | q
          · obtain ⟨o', es', ep', e', hd', _⟩ := G6.ns
            exact ⟨G6.L.1, .inl (.inl ⟨es', ep', by rw [show o = o' from Option.some.inj (e.symm.trans e')]; exact hd'⟩)⟩
          · rcases List.mem_cons.mp q with rfl | q
            · refine ⟨iB, .inl (.inr ?_)⟩
              rw [show o = ol from Option.some.inj (e.symm.trans (k5 _ _ eol)), col]; exact li_g
            · exact absurd q n'
end Mine
end
section
open PySem PySem.W PySem.W.X PyProof.Rows PySem.Calls
set_option maxRecDepth 100000
set_option maxHeartbeats 400000
namespace Mine
local macro_rules | `(tactic| walk_at "nb") => `(tactic| refine name_boot (by assumption) rfl rfl rfl (by boot_by_name) (by decide) ?_)
def firstsP (g : Grp) : List (Str × Int) := g.map fun p => (p.1, p.2.headD 0)
theorem firstsD_eq (g : Grp) : firstsD g = (firstsP g).map pairD := by unfold firstsD firstsP; rw [List.map_map]; rfl
def unseen : List Str → List (Str × Int) → List (Str × Int)
  | _, [] => []
  | seen, p :: r => if p.1 ∈ seen then unseen seen r else p :: unseen (p.1 :: seen) r
def firstsC (gs : List Grp) : List PyData := (unseen [] (gs.flatMap firstsP)).map pairD
theorem setOf_at {w : World} {h h' : Heap} {a : Addr} {S : Str → Bool} {n : Nat} (x : h.SetOf (KD w) a S n) (e : ∀ o, h.get? a = some o → o.cls = .type "set" → (∀ es n, o.data ≠ .dict es n) → h'.get? a = some o) : h'.SetOf (KD w) a S n := by
  obtain ⟨o, es, ep, t, ho, hx, hd, r⟩ := x
  exact ⟨o, es, ep, t, e o ho hx.1 (fun _ _ q => by rw [hd] at q; cases q), hx, hd, r⟩
theorem setOf_obj {w : World} {h : Heap} {a : Addr} {S : Str → Bool} {n : Nat} (x : h.SetOf (KD w) a S n) : ∃ o, h.get? a = some o ∧ o.cls = .type "set" ∧ ∀ es n, o.data ≠ .dict es n := by
  obtain ⟨o, es, ep, t, ho, hx, hd, r⟩ := x
  exact ⟨o, ho, hx.1, fun _ _ q => by rw [hd] at q; cases q⟩
theorem suffix_at {α : Type} {l pre : List α} {d : α} {r : List α} {n' : Nat} (e : l = pre ++ d :: r) (hn : n' = r.length) : l[l.length - 1 - n']? = some d := by
  have : l.length - 1 - n' = pre.length := by rw [e, List.length_append, List.length_cons]; omega
  rw [this, e, List.getElem?_append_right (Nat.le_refl _), Nat.sub_self]; rfl
theorem cfirsts_feed {w : World} {A : Around} {s : Shared} {R : Result → Shared → Prop} {b x dx dl ep : Addr} {gs : List Grp} {hsh : Int} {t : Tok} {n c : Nat} {vs : Array Value} {es : Array DictEntry} (hA : Rm 440 A) (T₀ : TopH w s.heap)
    (X : WH w b s.heap x gs dx dl hsh t n c vs es ep) (hlow : 604 ≤ b) (hg : ∀ g ∈ gs, g.length ≤ 100) (hv : ∀ g ∈ gs, ∀ p ∈ g, p.2.length ≤ 100) (hne : ∀ g ∈ gs, ∀ p ∈ g, p.2 ≠ []) (hall : (gs.flatMap firstsP).length ≤ 1000)
    (hR : ∀ h' tk gn, Keep s.heap h' → gn.bare = true →
      (∀ A' C, Rm 440 A' → A'.handled = none → (∀ c ∈ C, 604 ≤ c ∧ (c < b ∨ s.heap.get? c = none) ∧ c ≠ s.heap.objs.size ∧ c ≠ s.heap.objs.size + 1) →
        Feed w A' ⟨s.heap.objs.size, s.heap.objs.size, C, s.gens.size⟩ (.ok (.ret .none)) (s.heap.objs.size + 1) (firstsC gs) 0 ⟨h', s.gens.push gn, s.drawn, tk, s.os⟩) →
      R (.ok (.ret (.ref (s.heap.objs.size + 1)))) ⟨h', s.gens.push gn, s.drawn, tk, s.os⟩) :
    codeAny (model P w) A (.call (.ref 508) ⟨[.ref x], []⟩) R s := by
  refine gen_make [(Str.ofString "self", .ref x), (Str.ofString "multi", .bool false)] hA T₀ (by rfl) (by rfl) (by rfl) (by rfl) (binds_K T₀.K rfl (by rfl) rfl rfl rfl) (by decide) (locs rfl) fun h' tk k n gen => ?_
  refine hR _ _ _ k rfl fun A' C hA' hh' hC => ?_
  obtain ⟨L, eL⟩ : ∃ L, L = s.heap.objs.size := ⟨_, rfl⟩
  have hCL : L ∉ C := fun q => (hC L q).2.2.1 eL
  have hCa : s.heap.objs.size + 1 ∉ C := fun q => (hC _ q).2.2.2 rfl
  have ok : Zone.Ok ⟨s.heap.objs.size, s.heap.objs.size, C, s.gens.size⟩ := ⟨T₀.low, Nat.le_refl _, fun c q => (hC c q).1⟩
  refine ⟨ok, Nat.zero_le _, gen, ⟨Nat.le_succ _, hCa⟩, (T₀.ext (.of_keeps k) (by simp)).lim, _, Array.getElem?_push_size, rfl, fun s₁ cm cs => ⟨rfl, ?_⟩⟩
  have run : s₁.gens[s.gens.size]? = some .running := (cm.gens _ (Nat.le_refl _)).trans (setGen_self (s := ⟨h', s.gens.push _, s.drawn, tk, s.os⟩) Array.getElem?_push_size)
  have hE : Ext C s.heap h' := (Ext.of_keeps k).mono (by simp)
  have bs : Base ⟨s.heap.objs.size, s.heap.objs.size, C, s.gens.size⟩ s.heap s₁.heap := Base.calm (s := (Shared.setGen ⟨h', s.gens.push _, s.drawn, tk, s.os⟩ s.gens.size .running)) ok (Nat.le_refl _) hE cm
  have ns₁ : s₁.heap.Ns L _ := cm.heap.ns (eL ▸ n) fun o e hd q => q.2 ⟨Nat.le_of_eq eL.symm, hCL, .inl (.inl hd)⟩
  have G : GS ⟨s.heap.objs.size, s.heap.objs.size, C, s.gens.size⟩ s.heap L _ s₁ s₁ := ⟨ok, Nat.le_refl _, .refl _ _, bs, ns₁, ⟨Nat.le_of_eq eL.symm, hCL⟩, cs⟩
  rw [← eL] at G ok ⊢
  rw [Nat.sub_zero]
  generalize hz' : (⟨L, L, C, s.gens.size⟩ : Zone) = z at G ok ⊢
  have zC : z.C = C := by rw [← hz']
  have zb0 : z.b0 = L := by rw [← hz']
  have zB : z.B = L := by rw [← hz']
  have zg : z.g = s.gens.size := by rw [← hz']
  rw [← zg] at run
  have c604 : ∀ c ∈ z.C, 604 ≤ c := fun c q => (hC c (zC ▸ q)).1
  have cX : ∀ c ∈ z.C, c < b ∨ s.heap.get? c = none := fun c q => (hC c (zC ▸ q)).2.1
  have xlow : 604 ≤ x := Nat.le_trans hlow X.lx
  have hz : s.heap.objs.size ≤ L := Nat.le_of_eq eL.symm
  have L604 : 604 ≤ L := Nat.le_trans T₀.low hz
  generalize s.heap = h₀ at T₀ X G hz cX
  clear hz' hC hCa hCL eL zg bs ns₁ cm cs hE k gen n tk h' hR hA A s
  refine (fun (key : ∀ s₀, GS z h₀ L _ s₀ s₁ → Seg (model P w) _ _ _ _ s₀ _ _ _ s₁) => key _ G) ?_
  clear G
  intro s₀ G
  obtain ⟨h, gn, d, t', os⟩ := s₁
  dsimp only at run
  refine seg_func ?_
  refine seg_execs_cons ?_
  have T1 : TopH w h := T₀.ext G.base c604
  refine seg_all (wpAny_Assign_Name ?_)
  refine wpAny_Call_NameR ?_
  walk_at "nb"
  refine call_bi0 ?_
  refine call_set_0 (fun led => ?_)
  have fF := G.fresh
  replace G := G.keeps (t' := t') (h' := h.push { cls := .type "set", dict := none, data := .set #[] 0 (.fresh 0 0 led) }) fun b o e => Heap.get?_push_of_some _ e
  have hS : (h.push { cls := .type "set", dict := none, data := .set #[] 0 (.fresh 0 0 led) }).SetOf (KD w) h.objs.size (fun _ => false) 0 :=
    ⟨_, #[], 0, _, Heap.get?_push_size _ rfl, ⟨rfl, rfl, rfl⟩, rfl, fun e he => by simp at he, fun k => by simp, by decide, by rfl, rfl⟩
  dsimp only at G fF ⊢
  obtain ⟨fB, fC⟩ := fF
  generalize h.objs.size = fo at hS fB fC ⊢
  generalize h.push { cls := .type "set", dict := none, data := .set #[] 0 (.fresh 0 0 led) } = h1 at G hS ⊢
  clear T1 h
  refine wpAny_storeName_local rfl G.ns (fun h2 hn2 hs2 => ?_) rfl
  replace hS := setOf_at hS fun o e _ hd => (hs2.2 fo (Ne.symm (G.ne e hd))).trans e
  replace G := G.store (t' := t') hn2 hs2
  dsimp only
  clear hn2 hs2 h1
  refine seg_execs_cons ?_
  refine seg_For ?_
  have T2 : TopH w h2 := T₀.ext G.base c604
  have X2 := X.ext G.base cX
  refine Attribute_Name_ ?_
  refine name_local G.ns (by rw [if_neg (by decide)]; rfl) ?_
  refine get_dicts T2 X2 ?_
  refine wpAny_pyIter_list ⟨_, X2.ls, rfl, c, rfl⟩ ?_
  intro p
  obtain ⟨iB, iC⟩ := G.fresh
  have hit : (h2.push { cls := .type "list_iterator", data := .fields #[.ref dl, .int 0 0] }).IsListIter h2.objs.size dl 0 := ⟨_, Heap.get?_push_size _ rfl, rfl, rfl⟩
  replace G := G.keeps (t' := t') (h' := h2.push { cls := .type "list_iterator", data := .fields #[.ref dl, .int 0 0] }) fun b o e => Heap.get?_push_of_some _ e
  replace hS := setOf_at hS fun o e _ _ => Heap.get?_push_of_some { cls := .type "list_iterator", data := .fields #[.ref dl, .int 0 0] } e
  have fi : fo ≠ h2.objs.size := let ⟨o, e, _⟩ := setOf_obj hS; fun q => by rw [q] at hS; obtain ⟨o', e', c', _⟩ := setOf_obj hS; obtain ⟨o'', e'', c'', _⟩ := hit; rw [e''] at e'; cases e'; rw [c''] at c'; exact nomatch c'
  dsimp only at iB iC G ⊢
  generalize h2.objs.size = it at iB iC hit fi ⊢
  generalize h2.push { cls := .type "list_iterator", data := .fields #[.ref dl, .int 0 0] } = h3 at hit G hS ⊢
  clear T2 X2 h2
  refine seg_loop (fun m n s₀ s => ∃ i mm seen pre S nS, m + i = gs.length ∧ n = (unseen seen ((gs.drop i).flatMap firstsP)).length ∧ unseen [] (gs.flatMap firstsP) = pre ++ unseen seen ((gs.drop i).flatMap firstsP) ∧
      seen.length + ((gs.drop i).flatMap firstsP).length ≤ 1000 ∧ s.heap.SetOf (KD w) fo S nS ∧ (∀ k, S k = decide (k ∈ seen)) ∧ nS ≤ seen.length ∧ GS z h₀ L mm s₀ s ∧ mm "multi" = some (.bool false) ∧ mm "found" = some (.ref fo) ∧ s.heap.IsListIter it dl i ∧ s.gens[z.g]? = some .running) ?_ gs.length _ _ _
    ⟨0, _, [], [], _, _, rfl, by rw [List.drop_zero]; exact List.length_map .., by rw [List.drop_zero]; rfl, by rw [List.drop_zero]; simpa using hall, hS, fun k => by simp, Nat.le_refl _, G.toks, by rw [if_neg (by decide)]; rfl, by rw [if_pos (by decide)], hit, run⟩
  clear G hit run hS h3 s₀ gn d t' os
  rintro m n s₀ ⟨h, gn, d, t', os⟩ ⟨i, mm, seen, pre, S, nS, hm, hn, hpre, hle, hS, hSk, hnS, G, mM, mF, hit, run⟩ IH
  dsimp only at hit run hS
  have X1 := X.ext G.base cX
  obtain ⟨oi, eoi, coi, doi⟩ := id hit
  cases m with
  | zero =>
    have hi : i = gs.length := by omega
    refine wpAny_pyNext_list_end (A := A'.in1.over _ _) hh' hit ⟨_, X1.ls, rfl, c, rfl⟩ (by rw [Array.getElem?_eq_none_iff, X1.md.1]; omega) (fun h' he => ?_)
    dsimp only
    replace G := G.own (t' := t') he eoi (fun _ _ q => by rw [doi] at q; exact nomatch q) (by rw [coi]; exact li_g) iB iC
    have : n = 0 := by rw [hn, hi, List.drop_length]; cases seen <;> rfl
    exact seg_end (.ok (.ret .none)) ⟨rfl, this, G.turn⟩
  | succ m =>
    have hi : i < gs.length := by omega
    obtain ⟨mm0, dm, kvs, em, pm, em0, Xm⟩ := X.md.2 i gs[i] (List.getElem?_eq_getElem hi)
    refine wpAny_pyNext_list_item hit ⟨_, X1.ls, rfl, c, rfl⟩ em0 (fun h4 hit4 sb4 => ?_)
    dsimp only
    replace hS := setOf_at hS fun o e _ _ => (sb4.2 fo fi).trans e
    replace G := G.own (t' := t') (h' := h4) sb4.extBut eoi (fun _ _ q => by rw [doi] at q; exact nomatch q) (by rw [coi]; exact li_g) iB iC
    clear X1 hit eoi coi doi oi sb4 h
    refine wpAny_pure ?_
    refine wpAny_assign_Name ?_
    refine wpAny_storeName_local rfl G.ns (fun h5 hn5 hs5 => ?_) rfl
    obtain ⟨oi, eoi, coi, doi⟩ := id hit4
    have hit5 := hit4.at fun o e => (hs5.2 it (Ne.symm (G.ne eoi fun _ _ q => by rw [doi] at q; exact nomatch q))).trans e
    replace hS := setOf_at hS fun o e _ hd => (hs5.2 fo (Ne.symm (G.ne e hd))).trans e
    replace G := G.store (t' := t') hn5 hs5
    dsimp only
    clear hn5 hs5 hit4 eoi coi doi oi h4
    refine seg_execs_cons ?_
    refine seg_For ?_
    have T6 : TopH w h5 := T₀.ext G.base c604
    have X6 := Xm.ext G.base cX
    refine methodCall_KW ?_
    refine name_local G.ns (by rw [if_pos (by decide)]) ?_
    refine meth_MD (f := 338) T6 X6.inst (by kernel_rfl) (by rfl) ?_
    refine call_fn (by rfl) ?_
    refine wpAny_items_cons ?_
    refine name_local G.ns (by rw [if_neg (by decide)]; exact mM) ?_
    refine wpAny_items_nil ?_
    refine ⟨T6, ?_⟩
    refine wpAny_call ?_
    refine firsts_feed ((hA'.in1.over1 rfl rfl).mono (by decide)) T6 T₀ Xm hlow L604 hz (Nat.le_of_lt G.ns.lt) (hg _ (List.getElem_mem hi)) (hv _ (List.getElem_mem hi)) (hne _ (List.getElem_mem hi)) (fun h7 tk7 gn7 k7 b7 feed => ?_)
    dsimp only at k7 feed ⊢
    have gsz : z.g < gn.size := by
      rcases Nat.lt_or_ge z.g gn.size with q | q
      · exact q
      · rw [Array.getElem?_eq_none q] at run; cases run
    have hit7 : h7.IsListIter it dl (i + 1) := let ⟨o, e, r⟩ := hit5; ⟨o, k7 _ _ e, r⟩
    have tn7 : Turn z ⟨h5, gn, d, t', os⟩ ⟨h7, gn.push gn7, d, tk7, os⟩ := Turn.made gsz b7 k7
    have ns7 : h7.Ns L _ := Ns_ext (.of_keeps k7) G.ns (by simp)
    have bnd : z.B ≤ h5.objs.size := G.fresh.1
    have C' : ∀ c ∈ L :: it :: fo :: z.C, 604 ≤ c ∧ (c < b ∨ h₀.get? c = none) ∧ c ≠ h5.objs.size ∧ c ≠ h5.objs.size + 1 := by
      intro c' q
      have lt : ∀ {a : Addr} {o : Obj}, h5.get? a = some o → a ≠ h5.objs.size ∧ a ≠ h5.objs.size + 1 := fun e => ⟨Nat.ne_of_lt (Heap.lt_size e), Nat.ne_of_lt (Nat.lt_succ_of_lt (Heap.lt_size e))⟩
      rcases List.mem_cons.mp q with rfl | q
      · obtain ⟨o, _, _, e, _⟩ := G.ns
        exact ⟨L604, .inr (get_fresh hz), lt e⟩
      · rcases List.mem_cons.mp q with rfl | q
        · obtain ⟨o, e, _⟩ := hit5
          exact ⟨Nat.le_trans L604 (zB ▸ iB), .inr (get_fresh (Nat.le_trans hz (zB ▸ iB))), lt e⟩
        · rcases List.mem_cons.mp q with rfl | q
          · obtain ⟨o, e, _⟩ := setOf_obj hS
            exact ⟨Nat.le_trans L604 (zB ▸ fB), .inr (get_fresh (Nat.le_trans hz (zB ▸ fB))), lt e⟩
          · obtain ⟨o, e⟩ := G.cs c' q
            exact ⟨c604 c' q, cX c' q, lt e⟩
    have E' : Ext (L :: it :: fo :: z.C) h₀ h7 := (Ext.and G.base (.of_keeps k7)).mono fun a q => .tail _ (.tail _ (.tail _ q))
    obtain ⟨z', ez'⟩ : ∃ z' : Zone, z' = ⟨L, h5.objs.size, L :: it :: fo :: z.C, gn.size⟩ := ⟨_, rfl⟩
    have hin : z'.In z := by rw [ez']; exact ⟨zb0.symm, bnd, fun a q => .tail _ (.tail _ (.tail _ q)), gsz⟩
    have z'C : z'.C = L :: it :: fo :: z.C := by rw [ez']
    have feed' := fun A₂ hA₂ hh₂ => feed A₂ (L :: it :: fo :: z.C) hA₂ hh₂ C' E'
    rw [← ez'] at feed'
    refine wpAny_pyIter_gen (feed' A'.in1 (hA'.in1.mono (by decide)) hh').gen ?_
    intro p'
    have g' : z'.g = gn.size := by rw [ez']
    replace hS := setOf_at hS fun o e _ _ => k7 _ _ e
    replace G := G.by tn7 ns7
    have run7 : (gn.push gn7)[z.g]? = some .running := by rw [Array.getElem?_push, if_neg (by omega)]; exact run
    clear feed E' C' bnd tn7 ns7 k7 b7 hit5 run T6 X6 ez' gsz g'
    generalize h5.objs.size + 1 = ga at feed' ⊢
    have hlen : (firstsD gs[i]).length = (firstsP gs[i]).length := by rw [firstsD_eq, List.length_map]
    refine seg_loopA (fun A₂ m' n s₀ s => ∃ j mm seen pre S nS, m' + j = (firstsP gs[i]).length ∧ n = (unseen seen ((firstsP gs[i]).drop j ++ (gs.drop (i + 1)).flatMap firstsP)).length ∧
      unseen [] (gs.flatMap firstsP) = pre ++ unseen seen ((firstsP gs[i]).drop j ++ (gs.drop (i + 1)).flatMap firstsP) ∧ seen.length + ((firstsP gs[i]).drop j ++ (gs.drop (i + 1)).flatMap firstsP).length ≤ 1000 ∧
      s.heap.SetOf (KD w) fo S nS ∧ (∀ k, S k = decide (k ∈ seen)) ∧ nS ≤ seen.length ∧ GS z h₀ L mm s₀ s ∧ mm "multi" = some (.bool false) ∧ mm "found" = some (.ref fo) ∧ s.heap.IsListIter it dl (i + 1) ∧
      s.gens[z.g]? = some .running ∧ Feed w A₂ z' (.ok (.ret .none)) ga (firstsD gs[i]) j s) ?_ (firstsP gs[i]).length _ _ _
      ⟨0, _, seen, pre, S, nS, rfl, ?_, ?_, ?_, hS, hSk, hnS, G, ?_, ?_, hit7, run7, feed' _ ((hA'.in1.over2 rfl rfl rfl).mono (by decide)) hh'⟩
    case refine_2 => rw [hn, List.drop_eq_getElem_cons hi, List.flatMap_cons, List.drop_zero]
    case refine_3 => rw [hpre, List.drop_eq_getElem_cons hi, List.flatMap_cons, List.drop_zero]
    case refine_4 => rw [List.drop_eq_getElem_cons hi, List.flatMap_cons] at hle; rw [List.drop_zero]; exact hle
    case refine_5 => rw [if_neg (by decide)]; exact mM
    case refine_6 => rw [if_neg (by decide)]; exact mF
    clear G hit7 run7 feed' hn hpre hle hS hSk hnS mM mF seen pre S nS h7 h5 s₀ n gn gn7 d tk7 t' os
    intro A₂ eA m' n s₀ s I IH2
    obtain ⟨j, mm, seen, pre, S, nS, hm', hn, hpre, hle, hS, hSk, hnS, G, mM, mF, hit, run, F⟩ := I
    have hh2 : A₂.handled = none := by rw [eA]; exact hh'
    have hr2 : Rm 460 A₂ := by rw [eA]; exact (hA'.in1.over2 rfl rfl rfl).mono (by decide)
    clear eA
    have hC2 : Cs z' s.heap := by
      intro c' q
      rw [z'C] at q
      rcases List.mem_cons.mp q with rfl | q
      · obtain ⟨o, _, _, e, _⟩ := G.ns; exact ⟨o, e⟩
      · rcases List.mem_cons.mp q with rfl | q
        · obtain ⟨o, e, _⟩ := hit; exact ⟨o, e⟩
        · rcases List.mem_cons.mp q with rfl | q
          · obtain ⟨o, e, _⟩ := setOf_obj hS; exact ⟨o, e⟩
          · exact G.cs c' q
    have LC' : L ∈ z'.C := by rw [z'C]; exact .head _
    have iC' : it ∈ z'.C := by rw [z'C]; exact .tail _ (.head _)
    have fC' : fo ∈ z'.C := by rw [z'C]; exact .tail _ (.tail _ (.head _))
    have gon : ∀ s', Woke z' s s' → GS z h₀ L mm s₀ s' ∧ s'.heap.SetOf (KD w) fo S nS ∧ s'.heap.IsListIter it dl (i + 1) ∧ s'.gens[z.g]? = some .running := by
      intro s' wk
      refine ⟨G.by (wk.outer hin) (wk.heap.ns G.ns fun o _ _ q => q.2.1 LC'), setOf_at hS fun o e hc _ => wk.heap.get e (by unfold hasCls; rw [hc]) fun q => q.2.1 fC', ?_, (wk.gens _ hin.g).trans run⟩
      obtain ⟨o, e, hc, r⟩ := hit
      exact ⟨o, wk.heap.get e (by unfold hasCls; rw [hc]) fun q => q.2.1 iC', hc, r⟩
    cases m' with
    | zero =>
      have hj : j = (firstsP gs[i]).length := by omega
      refine F.stop hC2 hh2 (hr2.dlt) (.inl rfl) (by rw [hlen]; exact hj) (fun s' wk => ?_)
      obtain ⟨G', hS', hit', run'⟩ := gon s' wk
      dsimp only
      rw [hj, List.drop_length, List.nil_append] at hn hpre hle
      exact IH m n s₀ _ (Nat.lt_succ_self m) ⟨i + 1, mm, seen, pre, S, nS, by omega, hn, hpre, hle, hS', hSk, hnS, G', mM, mF, hit', run'⟩
    | succ m' =>
      have hj : j < (firstsP gs[i]).length := by omega
      obtain ⟨k0, n0, ed⟩ : ∃ k0 n0, (firstsP gs[i])[j] = (k0, n0) := ⟨_, _, rfl⟩
      have edd : (firstsD gs[i])[j]? = some (pairD (k0, n0)) := by rw [firstsD_eq, List.getElem?_map, List.getElem?_eq_getElem hj, ed]; rfl
      have ecut : (firstsP gs[i]).drop j ++ (gs.drop (i + 1)).flatMap firstsP = (k0, n0) :: ((firstsP gs[i]).drop (j + 1) ++ (gs.drop (i + 1)).flatMap firstsP) := by rw [List.drop_eq_getElem_cons hj, ed]; rfl
      rw [ecut] at hn hpre hle
      rw [List.length_cons] at hle
      refine F.next hC2 hh2 (hr2.dlt) (.inl rfl) edd (fun v s' rd wk F' => ?_)
      obtain ⟨G', hS', hit', run'⟩ := gon s' wk
      obtain ⟨ta, u, zz, rfl, pa, tup, ru, rz⟩ := rd.pairE
      obtain ⟨tu, rfl⟩ := ru.strE
      obtain ⟨tz, rfl⟩ := rz.intE
      clear G hit run hS F hC2 gon wk rd ru rz pa
      dsimp only
      obtain ⟨h, gn, d, t', os⟩ := s'
      refine letGo_gen F'.gen ?_
      refine assign_Tuple_tuple hh2 tup rfl rfl (fun h5 he5 => ?_)
      dsimp only at he5 hit' run' hS' ⊢
      have ext5 := Ext.of_extBut he5
      replace G' := G'.ext (t' := t') ext5
      replace F' := F'.calm (Calm.ext (t' := t') ext5)
      have hit5 : h5.IsListIter it dl (i + 1) := let ⟨o, e, hc, r⟩ := hit'; ⟨o, ext5.get e (by unfold hasCls; rw [hc]) (by simp), hc, r⟩
      replace hS' := setOf_at hS' fun o e hc _ => ext5.get e (by unfold hasCls; rw [hc]) (by simp)
      clear tup he5 ext5 hit' h
      refine wpAny_assignInOrder_more ?_
      refine wpAny_assign_Name ?_
      refine wpAny_storeName_local rfl G'.ns (fun h6 hn6 hs6 => ?_) rfl
      obtain ⟨oi, eoi, coi, doi⟩ := id hit5
      have hit6 := hit5.at fun o e => (hs6.2 it (Ne.symm (G'.ne eoi fun _ _ q => by rw [doi] at q; exact nomatch q))).trans e
      replace hS' := setOf_at hS' fun o e _ hd => (hs6.2 fo (Ne.symm (G'.ne e hd))).trans e
      replace G' := G'.store (t' := t') hn6 hs6
      replace F' := F'.calm (Calm.but (t' := t') LC' hs6.extBut (let ⟨o, _, _, e, _⟩ := G'.ns; ⟨o, e⟩))
      dsimp only
      clear hn6 hs6 hit5 eoi coi doi oi h5
      refine wpAny_assignInOrder_more ?_
      refine wpAny_assign_Name ?_
      refine wpAny_storeName_local rfl G'.ns (fun h7 hn7 hs7 => ?_) rfl
      obtain ⟨oi, eoi, coi, doi⟩ := id hit6
      have hit7 := hit6.at fun o e => (hs7.2 it (Ne.symm (G'.ne eoi fun _ _ q => by rw [doi] at q; exact nomatch q))).trans e
      replace hS' := setOf_at hS' fun o e _ hd => (hs7.2 fo (Ne.symm (G'.ne e hd))).trans e
      replace G' := G'.store (t' := t') hn7 hs7
      replace F' := F'.calm (Calm.but (t' := t') LC' hs7.extBut (let ⟨o, _, _, e, _⟩ := G'.ns; ⟨o, e⟩))
      dsimp only
      clear hn7 hs7 hit6 eoi coi doi oi h6
      refine wpAny_assignInOrder_none ?_
      refine seg_execs_cons ?_
      refine seg_If ?_
      refine isTrue_plain ?_
      refine name_local G'.ns (by rw [if_neg (by decide), if_neg (by decide)]; exact mM) ?_
      refine wpAny_truthy_bool ?_
      rw [if_neg Bool.false_ne_true]
      refine seg_execs_cons ?_
      refine seg_If ?_
      refine wpAny_isTrue_Compare1 ?_
      refine name_local G'.ns (by rw [if_neg (by decide), if_pos (by decide)]) ?_
      refine name_local G'.ns (by rw [if_neg (by decide), if_neg (by decide)]; exact mF) ?_
      refine wpAny_notInSet_of (knd := KD w) (kd_is w k0 tu) rfl hS' ?_
      refine wpAny_truthy_bool ?_
      obtain ⟨oi, eoi, coi, doi⟩ := id hit7
      by_cases hk : k0 ∈ seen
      · rw [if_neg (by rw [hSk k0, decide_eq_true hk]; decide)]
        have eu : unseen seen ((k0, n0) :: ((firstsP gs[i]).drop (j + 1) ++ (gs.drop (i + 1)).flatMap firstsP)) = unseen seen ((firstsP gs[i]).drop (j + 1) ++ (gs.drop (i + 1)).flatMap firstsP) := by
          conv => lhs; unfold unseen
          rw [if_pos hk]
        rw [eu] at hn hpre
        refine IH2 m' n s₀ _ (Nat.lt_succ_self m') ⟨j + 1, _, seen, pre, S, nS, by omega, hn, hpre, by omega, hS', hSk, hnS, G'.toks, ?_, ?_, hit7, run', F'.calm (Calm.keeps fun _ _ e => e)⟩
        · rw [if_neg (by decide), if_neg (by decide)]; exact mM
        · rw [if_neg (by decide), if_neg (by decide)]; exact mF
      rw [if_pos (by rw [hSk k0, decide_eq_false hk]; rfl)]
      have eu : unseen seen ((k0, n0) :: ((firstsP gs[i]).drop (j + 1) ++ (gs.drop (i + 1)).flatMap firstsP)) = (k0, n0) :: unseen (k0 :: seen) ((firstsP gs[i]).drop (j + 1) ++ (gs.drop (i + 1)).flatMap firstsP) := by
        conv => lhs; unfold unseen
        rw [if_neg hk]
      rw [eu] at hn hpre
      rw [List.length_cons] at hn
      refine seg_execs_cons ?_
      refine seg_all (wpAny_Expr_any ?_)
      refine wpAny_Call_method rfl rfl rfl PySem.F.plainAttrs_set PySem.F.slot_set_add PySem.F.type_set_add ?_
      refine name_local G'.ns (by rw [if_neg (by decide), if_neg (by decide)]; exact mF) ?_
      refine ⟨hS'.typeIs, hS'.noDict, ?_⟩
      refine call_bi ?_
      refine wpAny_items_cons ?_
      refine name_local G'.ns (by rw [if_neg (by decide), if_pos (by decide)]) ?_
      refine wpAny_items_nil ?_
      refine call_set_add (knd := KD w) (kd_is w k0 tu) rfl hS' (by show nS + 1 < 4096; omega) (fun h8 sb8 S8 => ?_)
      obtain ⟨so, eso, cso, dso⟩ := setOf_obj hS'
      replace G' := G'.own (t' := t') (h' := h8) sb8.extBut eso dso (by rw [cso]; exact set_g) fB fC
      replace F' := F'.calm (Calm.but (t' := t') fC' sb8.extBut (let ⟨o, e, _⟩ := setOf_obj S8; ⟨o, e⟩))
      have hit8 : h8.IsListIter it dl (i + 1) := ⟨oi, (sb8.2 it (Ne.symm fi)).trans eoi, coi, doi⟩
      rw [if_neg (by rw [hSk k0, decide_eq_false hk]; decide)] at S8
      dsimp only
      clear hit7 eoi hS' sb8 eso h7
      refine seg_execs_cons ?_
      obtain ⟨n', rfl⟩ : ∃ n', n = n' + 1 := ⟨_, hn⟩
      refine seg_Expr_Yield rfl rfl rfl ?_
      refine Tuple_ ?_
      refine wpAny_items_cons ?_
      refine name_local G'.ns (by rw [if_neg (by decide), if_pos (by decide)]) ?_
      refine wpAny_items_cons ?_
      refine name_local G'.ns (by rw [if_pos (by decide)]) ?_
      refine wpAny_items_nil ?_
      refine wpAny_newObj_type ?_ (by show (2 : Nat) ≤ sizeLine; decide)
      intro kap hkap
      dsimp only
      have frs := G'.frs
      have k5 : Keep h8 (h8.push { cls := .type "tuple", data := .seq #[.str k0 tu, .int n0 tz] }) := fun b o e => Heap.get?_push_of_some _ e
      have G6 := G'.keeps (t' := t' + 1 + 1 + 1 + 1) k5
      refine ⟨pairD (k0, n0), ?_, .tup frs ⟨_, Heap.get?_push_size _ rfl, rfl, 0, rfl⟩ rfl ?_, G6.turn, fun s'' cm => hkap .none s'' ?_⟩
      · have := suffix_at (n' := n') hpre (by omega)
        unfold firstsC
        rw [List.length_map, List.getElem?_map, this]; rfl
      · intro i' v' d' e1 e2
        match i', e1, e2 with
        | 0, e1, e2 => cases e1; cases e2; exact .str _ _
        | 1, e1, e2 => cases e1; cases e2; exact .int _ _
        | n + 2, e1, e2 => simp at e1
      · dsimp only
        obtain ⟨ol, eol, col, dol⟩ := id hit8
        have F6 := F'.calm (Calm.keeps (t' := t' + 1 + 1 + 1 + 1) k5)
        refine IH2 m' n' s'' s'' (Nat.lt_succ_self m') ⟨j + 1, _, k0 :: seen, pre ++ [(k0, n0)], _, _, by omega, by omega, by rw [hpre, List.append_assoc]; rfl, by rw [List.length_cons]; omega,
          setOf_at S8 fun o e hc _ => cm.kept (k5 _ _ e) (by rw [hc]; exact set_g) fB fC, fun k => by rw [hSk k]; simp [Bool.or_comm], by rw [List.length_cons]; omega,
          G6.woken cm, ?_, ?_, ⟨ol, cm.kept (k5 _ _ eol) (by rw [col]; exact li_g) iB iC, col, dol⟩, (cm.gens z.g (Nat.le_refl _)).trans run', F6.calm (cm.inner hin ?_)⟩
        · rw [if_neg (by decide), if_neg (by decide)]; exact mM
        · rw [if_neg (by decide), if_neg (by decide)]; exact mF
        · intro c' q n' o e
          rw [z'C] at q
          rcases List.mem_cons.mp q with rfl | q
          · obtain ⟨o', es', ep', e', hd', _⟩ := G6.ns
            exact ⟨G6.L.1, .inl (.inl ⟨es', ep', by rw [show o = o' from Option.some.inj (e.symm.trans e')]; exact hd'⟩)⟩
          · rcases List.mem_cons.mp q with rfl | q
            · refine ⟨iB, .inl (.inr ?_)⟩
              rw [show o = ol from Option.some.inj (e.symm.trans (k5 _ _ eol)), col]; exact li_g
            · rcases List.mem_cons.mp q with rfl | q
              · obtain ⟨so, eso, cso, dso⟩ := setOf_obj S8
                refine ⟨fB, .inl (.inr ?_)⟩
                rw [show o = so from Option.some.inj (e.symm.trans (k5 _ _ eso)), cso]; exact set_g
              · exact absurd q n'
end Mine
end
section
open PySem PySem.W PySem.W.X PyProof.Rows PySem.Calls
set_option maxRecDepth 100000
set_option maxHeartbeats 400000
namespace Mine
theorem RdP.keepS {p : Addr → Prop} {h h' : Heap} {v : Value} {d : PyData} (x : RdP p h v d) (k : ∀ a o, p a → h.get? a = some o → (o.cls = .type "list" ∨ o.cls = .type "tuple") → (∀ es n, o.data ≠ .dict es n) → h'.get? a = some o) : RdP p h' v d := by
  induction x with
  | int i t => exact .int i t
  | str x t => exact .str x t
  | list h1 h2 h3 _ ih =>
    obtain ⟨o, e, hc, n, hd⟩ := h2
    exact .list h1 ⟨o, k _ _ h1 e (.inl hc) (fun _ _ q => by rw [hd] at q; cases q), hc, n, hd⟩ h3 ih
  | tup h1 h2 h3 _ ih =>
    obtain ⟨o, e, hc, n, hd⟩ := h2
    exact .tup h1 ⟨o, k _ _ h1 e (.inr hc) (fun _ _ q => by rw [hd] at q; cases q), hc, n, hd⟩ h3 ih
theorem RdP.imp {p q : Addr → Prop} {h : Heap} {v : Value} {d : PyData} (x : RdP p h v d) (k : ∀ a o, p a → h.get? a = some o → q a) : RdP q h v d := by
  induction x with
  | int i t => exact .int i t
  | str x t => exact .str x t
  | list h1 h2 h3 _ ih => exact .list (let ⟨o, e, _⟩ := h2; k _ _ h1 e) h2 h3 ih
  | tup h1 h2 h3 _ ih => exact .tup (let ⟨o, e, _⟩ := h2; k _ _ h1 e) h2 h3 ih
theorem RowP.keepS {p : Addr → Prop} {h h' : Heap} {vs : Array Value} {ds : List PyData} (x : RowP p h vs ds) (k : ∀ a o, p a → h.get? a = some o → (o.cls = .type "list" ∨ o.cls = .type "tuple") → (∀ es n, o.data ≠ .dict es n) → h'.get? a = some o) : RowP p h' vs ds :=
  ⟨x.1, fun i v d e1 e2 => (x.2 i v d e1 e2).keepS k⟩
structure Took (z : Zone) (s s' : Shared) : Prop where
  heap : ExtP z.gm s.heap s'.heap
  bare : Bare s.gens → Bare s'.gens
  drawn : s'.drawn = s.drawn
  os : s'.os = s.os
theorem seq_not_gm {z : Zone} {a : Addr} {o : Obj} (hc : o.cls = .type "list" ∨ o.cls = .type "tuple") (hd : ∀ es n, o.data ≠ .dict es n) : ¬ z.gm a o := by
  rintro ⟨_, _, ⟨es, n, q⟩ | q⟩
  · exact hd _ _ q
  · rcases hc with hc | hc <;> (rw [hc] at q; exact absurd q (by decide))
theorem get_hasCls {o : Obj} {n : String} (h : o.cls = .type n) : hasCls o = true := by unfold hasCls; rw [h]
section
variable {w : World} {A : Around} {E : Value → Shared → Prop} {z : Zone} {fin : Result} {a S : Addr} {all : List PyData} {R : Result → Shared → Prop}
structure TookS (z : Zone) (S : Addr) (s s' : Shared) : Prop where
  heap : ExtP (fun a o => z.gm a o ∨ a = S) s.heap s'.heap
  bare : Bare s.gens → Bare s'.gens
  drawn : s'.drawn = s.drawn
  os : s'.os = s.os
theorem TookS.trans {s s' s'' : Shared} (ht : ∀ b ∈ tabs, ∀ o, ¬ (z.gm b o ∨ b = S)) (x : TookS z S s s') (y : TookS z S s' s'') : TookS z S s s'' :=
  ⟨x.heap.trans y.heap ht, fun b => y.bare (x.bare b), y.drawn.trans x.drawn, y.os.trans x.os⟩
theorem TookS.of_woke {s s' : Shared} (x : Woke z s s') : TookS z S s s' := ⟨x.heap.mono fun _ _ q => .inl q, x.bare, x.drawn, x.os⟩
theorem TookS.of_but {h h' : Heap} {g d t t' os} (x : Heap.ExtBut S h h') : TookS z S ⟨h, g, d, t, os⟩ ⟨h', g, d, t', os⟩ := ⟨.but x fun _ _ => .inr rfl, id, rfl, rfl⟩
theorem tabs_lm (ok : z.Ok) (hS : 604 ≤ S) : ∀ b ∈ tabs, ∀ o, ¬ (z.gm b o ∨ b = S) := fun b hb o q => by
  rcases q with q | rfl
  · exact ok.gm_tabs b hb o q
  · exact absurd (tabs_low hb) (Nat.not_lt.mpr hS)
theorem extend_loop {res : Value} (hh : A.handled = none) (hA : Rm 500 A) (hfin : fin = .ok (.ret .none) ∨ fin = .ok .next) (hz : all.length ≤ 1000) (hS : z.b0 ≤ S) (hC : z.C = []) (hSB : z.B ≤ S) :
    ∀ (m j : Nat) (s : Shared) (ys : Array Value) (ny : Nat), m + j = all.length → Feed w A.in1 z fin a all j s → s.heap.get? S = some (lsObj ys ny) → RowP (fun x => z.B ≤ x ∧ x ≠ S) s.heap ys (all.take j) →
    (∀ s' ys' ny', TookS z S s s' → s'.heap.get? S = some (lsObj ys' ny') → RowP (fun x => z.B ≤ x ∧ x ≠ S) s'.heap ys' all → R (.ok (.ret res)) s') →
    codeAny (model P w) A (.builtin "list.extend.loop" ⟨[.ref S, .ref a, res], []⟩) R s := by
  intro m
  induction m with
  | zero =>
    intro j s ys ny hm F eS row hR
    have hj : j = all.length := by omega
    refine codeAny_builtin PySem.F.entry_extend_loop ?_
    rw [Around.under_plainId PySem.F.plain_extend_loop]
    unfold Builtin.«list.extend.loop»
    refine wpAny_bind (F.stop (fun c q => by rw [hC] at q; cases q) hh (hA.in1.dlt) hfin hj (fun s' wk => ?_))
    refine wpAny_pure ?_
    have nS : ∀ o, s.heap.get? S = some o → ¬ z.gm S o := fun o e => by rw [e] at eS; cases eS; exact seq_not_gm (.inl rfl) (fun _ _ q => nomatch q)
    refine hR s' ys ny (.of_woke wk) (wk.heap.get eS rfl (nS _ eS)) ?_
    rw [hj, List.take_length] at row
    exact row.keepS fun b o _ e hc hd => wk.heap.get e (by rcases hc with hc | hc <;> exact get_hasCls hc) (seq_not_gm hc hd)
  | succ m ih =>
    intro j s ys ny hm F eS row hR
    have hj : j < all.length := by omega
    refine codeAny_builtin PySem.F.entry_extend_loop ?_
    rw [Around.under_plainId PySem.F.plain_extend_loop]
    unfold Builtin.«list.extend.loop»
    refine wpAny_bind (F.next (fun c q => by rw [hC] at q; cases q) hh (hA.in1.dlt) hfin (List.getElem?_eq_getElem hj) (fun v s' rd wk F' => ?_))
    have nS : ∀ o, s.heap.get? S = some o → ¬ z.gm S o := fun o e => by rw [e] at eS; cases eS; exact seq_not_gm (.inl rfl) (fun _ _ q => nomatch q)
    have eS' := wk.heap.get eS rfl (nS _ eS)
    have row' := row.keepS fun b o _ e hc hd => wk.heap.get e (by rcases hc with hc | hc <;> exact get_hasCls hc) (seq_not_gm hc hd)
    have rd' : RdP (fun x => z.B ≤ x ∧ x ≠ S) s'.heap v all[j] := rd.imp fun b o q e => ⟨q.1, fun r => by rw [r] at q; exact nS _ eS (q.2.2 _ eS)⟩
    have row2 := row'.snoc rd'
    have hys : ys.size ≤ 1000 := by rw [row.1, List.length_take]; omega
    have tw : TookS z S s s' := .of_woke wk
    have ok := F'.ok
    clear F rd rd' row row' nS eS wk
    obtain ⟨h, gn, d, t, os⟩ := s'
    dsimp only at eS' row2
    refine wpAny_bind ?_
    show wpAny _ _ (updateSeq S (·.push v)) _ _ _
    refine wpAny_updateSeq (hz := by rw [sizeLine_eq]; omega) eS' rfl ?_
    obtain ⟨n', e⟩ : ∃ n', Obj.mapSeq (·.push v) (lsObj ys ny) = lsObj (ys.push v) n' := ⟨_, rfl⟩
    have sb : Heap.SameBut S h (h.update S (Obj.mapSeq (·.push v))) := Heap.SameBut.update ..
    have e2 : (h.update S (Obj.mapSeq (·.push v))).get? S = some (lsObj (ys.push v) n') := by rw [← e]; exact Heap.get?_update_self _ eS' rfl
    dsimp only at sb e2 ⊢
    generalize h.update S (Obj.mapSeq (·.push v)) = h2 at sb e2 ⊢
    refine wpAny_pure ⟨plainId_quiet PySem.F.plain_extend_loop _, ih (j + 1) _ _ n' (by omega) (F'.calm (Calm.list hS sb.extBut ⟨_, e2⟩ fun o q => by rw [q] at eS'; cases eS'; exact ⟨rfl, fun _ _ q => nomatch q⟩)) e2 ?_ (fun s'' ys' ny' tk e' r' => hR s'' ys' ny' (.trans (tabs_lm ok (Nat.le_trans ok.low hS)) (.trans (tabs_lm ok (Nat.le_trans ok.low hS)) tw (.of_but sb.extBut)) tk) e' r')⟩
    have : all.take (j + 1) = all.take j ++ [all[j]] := by rw [List.take_succ_eq_append_getElem hj]
    rw [this]
    exact row2.keepS fun b o q e _ _ => (sb.2 b q.2).trans e
theorem list_feed {s : Shared} {Q : Value → Shared → Prop} (hh : A.handled = none) (hA : Rm 490 A) (hfin : fin = .ok (.ret .none) ∨ fin = .ok .next) (hz : all.length ≤ 1000) (hC : z.C = [])
    (F : Feed w A.in1.in1 z fin a all 0 s)
    (hQ : ∀ s' S ys, Took z s s' → LsAt z.B s'.heap S ys all → Q (.ref S) s') :
    wpAny (model P w) A (call (.type "list") [.ref a]) Q E s := by
  refine callType_codes (Q₁ := fun obj s₁ => obj = .ref s.heap.objs.size ∧ s₁ = { s with heap := s.heap.push { cls := .type "list", data := .seq #[] } }) PySem.F.called_list (PySem.F.typeCall_list_1 _) PySem.F.entry_list_init
    (code_list_new _ ⟨rfl, rfl⟩) fun obj s₁ h₁ => ?_
  obtain ⟨rfl, rfl⟩ := h₁
  obtain ⟨h, gn, d, t, os⟩ := s
  have ok := F.ok
  have lS : z.B ≤ h.objs.size := by obtain ⟨o, _, _, e, _⟩ := F.gen; exact Nat.le_trans F.own.1 (Nat.le_of_lt (Heap.lt_size e))
  have hT := F.gen.typeIs
  have hS : (h.push { cls := .type "list", data := .seq #[] }).get? h.objs.size = some (lsObj #[] 0) := Heap.get?_push_size _ rfl
  have k1 : Keep h (h.push { cls := .type "list", data := .seq #[] }) := fun b o e => Heap.get?_push_of_some _ e
  have F1 := F.calm (Calm.keeps (t' := t) k1)
  have fS : h.get? h.objs.size = none := get_size _
  dsimp only
  refine ⟨⟨_, hS, rfl⟩, PySem.F.args_list_init_2 _ _, ?_⟩
  have aS : h.objs.size ≠ a := by obtain ⟨o, _, _, e, _⟩ := F.gen; exact Nat.ne_of_gt (Heap.lt_size e)
  generalize h.objs.size = S at hS fS lS aS ⊢
  generalize h.push { cls := .type "list", data := .seq #[] } = h1 at hS k1 F1 ⊢
  have lst : ∀ {h' : Heap} {ys : Array Value} {n : Nat}, h'.get? S = some (lsObj ys n) → ∀ o, h'.get? S = some o → o.cls = .type "list" ∧ ∀ es n, o.data ≠ .dict es n := fun e o q => by rw [e] at q; cases q; exact ⟨rfl, fun _ _ q => nomatch q⟩
  have b0S : z.b0 ≤ S := Nat.le_trans ok.le lS
  show wpAny _ _ (do let old ← Builtin.List.listItems (.ref S); Builtin.List.listUpdate (.ref S) (fun _ => #[]); letGo old.toList.reverse; Builtin.List.listExtendWith (.ref S) (.ref a) .none) _ _ _
  refine wpAny_bind ?_
  unfold Builtin.List.listItems
  refine wpAny_bind (wpAny_seqItems hS rfl (wpAny_pure ?_))
  refine wpAny_bind ?_
  show wpAny _ _ (updateSeq S (fun _ => #[])) _ _ _
  refine wpAny_updateSeq hS rfl ?_
  have s2 : Heap.SameBut S h1 (h1.update S (Obj.mapSeq (fun _ => (#[] : Array Value)))) := Heap.SameBut.update ..
  obtain ⟨n2, e2⟩ : ∃ n2, (h1.update S (Obj.mapSeq (fun _ => (#[] : Array Value)))).get? S = some (lsObj #[] n2) := ⟨_, Heap.get?_update_self _ hS rfl⟩
  have F2 := F1.calm (Calm.list (t' := t) b0S s2.extBut ⟨_, e2⟩ (lst hS))
  dsimp only
  generalize h1.update S (Obj.mapSeq (fun _ => (#[] : Array Value))) = h2 at s2 e2 F2 ⊢
  refine wpAny_bind (wpAny_letGo ?_)
  unfold Builtin.List.listExtendWith
  have hT2 := F2.gen.typeIs
  refine wpAny_bind (wpAny_typeOf hT2 ?_)
  have q1 : Builtin.List.listSameRef (.ref S) (.ref a) = false := by simp [Builtin.List.listSameRef, aS]
  have q2 : (Value.type "generator" == Value.type "list") = false := by decide
  have q3 : (Value.type "generator" == Value.type "tuple") = false := by decide
  simp only [q1, q2, q3, Bool.or_false, Bool.false_eq_true, if_false]
  refine wpAny_bind (wpAny_pyIter_gen F2.gen ?_)
  refine wpAny_bind (wpAny_holding ?_)
  unfold Builtin.List.listLengthHint
  refine wpAny_bind (wpAny_specialOf hT2 PySem.F.gen_no_len ?_)
  show wpAny _ _ (specialOf (Value.ref a) (Str.ofString "__length_hint__") >>= _) _ _ _
  refine wpAny_bind (wpAny_specialOf hT2 PySem.F.gen_no_hint ?_)
  refine wpAny_pure ?_
  show wpAny _ _ (rule "list.extend.makes-room" >>= fun _ => Builtin.List.listTouch (.ref S) >>= fun _ => again (.builtin "list.extend.loop" ⟨[.ref S, .ref a, .none], []⟩)) _ _ _
  refine wpAny_bind (wpAny_rule ?_)
  refine wpAny_bind ?_
  show wpAny _ _ (updateSeq S (·.push .none) >>= fun _ => updateSeq S (·.pop)) _ _ _
  refine wpAny_bind (wpAny_updateSeq e2 rfl ?_)
  have s3 : Heap.SameBut S h2 (h2.update S (Obj.mapSeq (·.push Value.none))) := Heap.SameBut.update ..
  obtain ⟨n3, e3⟩ : ∃ n3, (h2.update S (Obj.mapSeq (·.push Value.none))).get? S = some (lsObj #[.none] n3) := ⟨_, Heap.get?_update_self _ e2 rfl⟩
  have F3 := F2.calm (Calm.list (t' := t) b0S s3.extBut ⟨_, e3⟩ (lst e2))
  dsimp only
  generalize h2.update S (Obj.mapSeq (·.push Value.none)) = h3 at s3 e3 F3 ⊢
  refine wpAny_updateSeq (hz := by show (1 : Nat) ≤ sizeLine; decide) e3 rfl ?_
  have s4 : Heap.SameBut S h3 (h3.update S (Obj.mapSeq (·.pop))) := Heap.SameBut.update ..
  obtain ⟨n4, e4⟩ : ∃ n4, (h3.update S (Obj.mapSeq (·.pop))).get? S = some (lsObj #[] n4) := ⟨_, Heap.get?_update_self _ e3 rfl⟩
  have F4 := F3.calm (Calm.list (t' := t) b0S s4.extBut ⟨_, e4⟩ (lst e3))
  dsimp only
  generalize h3.update S (Obj.mapSeq (·.pop)) = h4 at s4 e4 F4 ⊢
  refine wpAny_pure ⟨plainId_quiet PySem.F.plain_extend_loop _, ?_⟩
  refine extend_loop (A := A.in1) (z := z) hh (hA.in1.mono (by decide)) hfin hz b0S hC lS all.length 0 _ _ n4 (Nat.add_zero _) F4 e4 ⟨rfl, fun i v d e1 => by simp at e1⟩ (fun s' ys' ny' tk e' r' => ?_)
  have tab := tabs_lm ok (Nat.le_trans ok.low b0S)
  have t1 : ExtP (fun x o => z.gm x o ∨ x = S) h h4 := ((((ExtP.of (.of_keeps k1)).trans (.but s2.extBut fun _ _ => .inr rfl) tab).trans (.but s3.extBut fun _ _ => .inr rfl) tab).trans (.but s4.extBut fun _ _ => .inr rfl) tab)
  have t2 := t1.trans tk.heap tab
  refine ⟨rfl, hQ s' S ys' ⟨⟨fun b o e n => t2.keep b o e fun q => q.elim n fun q => by rw [q, fS] at e; cases e⟩, tk.bare, tk.drawn, tk.os⟩ ?_⟩
  exact (r'.rd fun x q => q.1).at e' lS
end
end Mine
end
section
open PySem PySem.W PySem.W.X PyProof.Rows PySem.Calls
set_option maxRecDepth 100000
set_option maxHeartbeats 400000
namespace Mine
section
variable {b : Addr} {h h' : Heap} {kvs : List (Str × Value)} {g : Grp} {k : Str} {ns : List Int}
theorem GL.pushL (x : GL b h kvs g) (hk : k ∉ kvs.map (·.1)) {a : Addr} (ha : IL b h a ns) (hf : ∀ (i : Nat) (k' : Str) (a' : Addr), kvs[i]? = some (k', .ref a') → a' ≠ a) : GL b h (kvs ++ [(k, .ref a)]) (addL g k ns) := by
  have e0 : addL g k ns = g ++ [(k, ns)] := by unfold addL; rw [if_neg (by rw [← x.keys]; exact hk)]
  rw [e0]
  refine ⟨by simp [x.len], fun i k' v e => ?_, fun i j k₁ k₂ a' e1 e2 => ?_⟩
  · rcases Nat.lt_or_ge i kvs.length with z | z
    · rw [List.getElem?_append_left z] at e
      obtain ⟨ns', a', e1, e2⟩ := x.at_ i k' v e
      exact ⟨ns', a', by rw [List.getElem?_append_left (by rw [← x.len]; exact z)]; exact e1, e2⟩
    · rw [List.getElem?_append_right z] at e
      cases q : i - kvs.length with
      | succ m => rw [q] at e; simp at e
      | zero =>
        rw [q] at e
        simp at e
        obtain ⟨rfl, rfl⟩ := e
        exact ⟨ns, a, by rw [List.getElem?_append_right (by rw [← x.len]; exact z), ← x.len, q]; rfl, rfl, ha⟩
  · have key : ∀ {i : Nat} {k' : Str} {a' : Addr}, (kvs ++ [(k, Value.ref a)])[i]? = some (k', .ref a') → (kvs[i]? = some (k', .ref a')) ∨ (i = kvs.length ∧ a' = a) := by
      intro i k' a' e
      rcases Nat.lt_or_ge i kvs.length with z | z
      · rw [List.getElem?_append_left z] at e; exact .inl e
      · rw [List.getElem?_append_right z] at e
        cases q : i - kvs.length with
        | succ m => rw [q] at e; simp at e
        | zero => rw [q] at e; simp at e; exact .inr ⟨by omega, e.2.symm⟩
    rcases key e1 with z1 | ⟨z1, w1⟩ <;> rcases key e2 with z2 | ⟨z2, w2⟩
    · exact x.inj i j k₁ k₂ a' z1 z2
    · exact absurd w2 (hf _ _ _ z1)
    · exact absurd w1 (hf _ _ _ z2)
    · rw [z1, z2]
theorem GL.appL (x : GL b h kvs g) (nd : (kvs.map (·.1)).Nodup) {i : Nat} {a : Addr} {ms : List Int} (ei : kvs[i]? = some (k, .ref a)) (gi : g[i]? = some (k, ms)) (sb : Heap.SameBut a h h') (ha : IL b h' a (ms ++ ns)) : GL b h' kvs (addL g k ns) := by
  have hk : k ∈ g.map (·.1) := by rw [← x.keys]; exact List.mem_map_of_mem (f := (·.1)) (List.mem_of_getElem? ei)
  have e0 : addL g k ns = g.map (fun p => if p.1 = k then (p.1, p.2 ++ ns) else p) := by unfold addL; rw [if_pos hk]
  rw [e0]
  refine ⟨by simp [x.len], fun j k' v e => ?_, x.inj⟩
  obtain ⟨ns', a', e1, rfl, e3⟩ := x.at_ j k' v e
  by_cases hij : j = i
  · subst hij
    rw [ei] at e; cases e
    rw [gi] at e1; cases e1
    refine ⟨ms ++ ns, a, ?_, rfl, ha⟩
    rw [List.getElem?_map, gi]; simp
  · have hkk : k' ≠ k := by
      rintro rfl
      obtain ⟨l1, q1⟩ := List.getElem?_eq_some_iff.mp e
      obtain ⟨l2, q2⟩ := List.getElem?_eq_some_iff.mp ei
      refine hij ((List.getElem_inj (xs := kvs.map (·.1)) (i := j) (j := i) (h₀ := by rw [List.length_map]; exact l1) (h₁ := by rw [List.length_map]; exact l2) nd).mp ?_)
      rw [List.getElem_map, List.getElem_map, q1, q2]
    have haa : a' ≠ a := fun q => hij (x.inj j i k' k a (by rw [e, q]) ei)
    refine ⟨ns', a', ?_, rfl, e3.sb sb haa⟩
    rw [List.getElem?_map, e1]; simp [hkk]
theorem GL.p {mod : Addr → Obj → Prop} (x : GL b h kvs g) (e : ExtP mod h h') (hm : ∀ a vs n, h.get? a = some (lsObj vs n) → ¬ mod a (lsObj vs n)) : GL b h' kvs g := by
  refine ⟨x.len, fun i k v q => ?_, x.inj⟩
  obtain ⟨ns, a, e1, e2, hb, vs, n, e3, ia⟩ := x.at_ i k v q
  exact ⟨ns, a, e1, e2, hb, vs, n, e.get e3 rfl (hm a vs n e3), ia⟩
end
theorem ls_not_gm {z : Zone} {a : Addr} {vs : Array Value} {n : Nat} : ¬ z.gm a (lsObj vs n) := seq_not_gm (.inl rfl) fun _ _ q => nomatch q
theorem RdP.intsE {p : Addr → Prop} {h : Heap} {u : Value} {ns : List Int} (r : RdP p h u (.list (ns.map PyData.int))) : ∃ a vs, u = .ref a ∧ p a ∧ h.IsList a vs ∧ IntsAre vs.toList ns := by
  cases r with
  | list h1 h2 h3 h4 =>
    rename_i a vs
    refine ⟨a, vs, rfl, h1, h2, ?_⟩
    have hl : vs.toList.length = ns.length := by rw [Array.length_toList, h3, List.length_map]
    have hv : ∀ (i : Nat) (v : Value) (n : Int), vs.toList[i]? = some v → ns[i]? = some n → ∃ t, v = Value.int n t := fun i v n e1 e2 => (h4 i v (.int n) (by rwa [← Array.getElem?_toList]) (by rw [List.getElem?_map, e2]; rfl)).intE
    clear h1 h2 h3 h4
    generalize vs.toList = l at hl hv
    induction l generalizing ns with
    | nil =>
      cases ns with
      | nil => exact .nil
      | cons n ns => simp at hl
    | cons v l ih =>
      cases ns with
      | nil => simp at hl
      | cons n ns =>
        obtain ⟨t, rfl⟩ := hv 0 v n rfl rfl
        exact .cons n t (ih (by simpa using hl) fun i v n e1 e2 => hv (i + 1) v n (by simpa using e1) (by simpa using e2))
theorem Me.took {mod : List Addr} {h₀ h h' : Heap} {L : Addr} {m : Str → Option Value} {z : Zone} (D : Me mod h₀ h L m []) (ok : z.Ok) (x : ExtP z.gm h h') (hb : h₀.objs.size ≤ z.B) (hL : L < z.B ∨ L ∈ z.C) (hm : ∀ a ∈ mod, a < z.B ∨ a ∈ z.C) : Me mod h₀ h' L m [] := by
  have no : ∀ {a : Addr}, a < z.B ∨ a ∈ z.C → ∀ o, ¬ z.gm a o := fun q o r => q.elim (fun q => absurd q (Nat.not_lt.mpr r.1)) r.2.1
  exact ⟨Ext.p D.ext x (fun a o o' e _ _ => no (.inl (Nat.lt_of_lt_of_le (Heap.lt_size e) hb)) _) ok.gm_tabs (fun a q o e => x.still e (no (hm a q) _)), x.ns D.ns fun o _ _ => no hL _, fun _ q => (nomatch q), List.nodup_nil, fun _ q => (nomatch q), fun _ q => (nomatch q), D.offL⟩
theorem extend_ls {w : World} {A : Around} {E : Value → Shared → Prop} {s : Shared} {l b : Addr} {vs us : Array Value} {n : Nat} {Q : Value → Shared → Prop} (hl : s.heap.get? l = some (lsObj vs n)) (hb : s.heap.IsList b us) (hz : vs.size + us.size ≤ 1000)
    (q : ∀ h' n', h'.get? l = some (lsObj (vs ++ us) n') → Heap.SameBut l s.heap h' → Q .none { s with heap := h' }) : wpAny (model P w) A (call (.builtin "list.extend") [.ref l, .ref b]) Q E s := by
  obtain ⟨ob, eb, cb, m, db⟩ := hb
  have hT : s.TypeIs (.ref b) "list" := ⟨ob, eb, cb⟩
  refine wpAny_call_entry PySem.F.slot_list_extend (show s.TypeIs (.ref l) "list" from ⟨_, hl, rfl⟩) PySem.F.entry_list_extend ?_ (PySem.F.args_list_extend_2 _ _)
  show wpAny _ _ (Builtin.List.listExtendWith (.ref l) (.ref b) .none) _ _ s
  unfold Builtin.List.listExtendWith
  refine wpAny_bind (wpAny_typeOf hT ?_)
  rw [if_pos (by simp)]
  unfold Builtin.List.listItems
  refine wpAny_bind (wpAny_bind (wpAny_seqItems eb db (wpAny_pure (wpAny_bind (wpAny_bind (wpAny_seqItems hl rfl (wpAny_pure ?_)))))))
  have long : Builtin.List.listTooLong (vs.size + us.size) = false := by
    unfold Builtin.List.listTooLong
    rw [sizeLine_eq]
    simp
    omega
  dsimp only
  rw [long, Bool.and_false]
  simp only [Bool.false_eq_true, if_false]
  refine wpAny_bind ?_
  show wpAny _ _ (updateSeq l (· ++ us)) _ _ _
  obtain ⟨n', e⟩ : ∃ n', Obj.mapSeq (fun x => x ++ us) (lsObj vs n) = lsObj (vs ++ us) n' := ⟨_, rfl⟩
  refine wpAny_updateSeq (hz := by rw [sizeLine_eq]; omega) hl rfl (wpAny_pure ⟨.none, rfl, q _ n' ?_ (Heap.SameBut.update ..)⟩)
  rw [← e]
  exact Heap.get?_update_self _ hl rfl
end Mine
end
section
open PySem PySem.W PySem.W.X PyProof.Rows PySem.Calls
set_option maxRecDepth 100000
set_option maxHeartbeats 400000
namespace Mine
local macro_rules | `(tactic| walk_at "nl") => `(tactic| refine name_local (Me.ns (by assumption)) (by first | assumption | rfl) ?_)
def mergeOne (r g : Grp) : Grp := g.foldl (fun r p => addL r p.1 p.2) r
def mergeG (gs : List Grp) : Grp := gs.foldl mergeOne []
theorem addL_len (g : Grp) (k : Str) (ns : List Int) : (addL g k ns).length ≤ g.length + 1 := by unfold addL; split <;> simp
theorem addL_each {g : Grp} {k : Str} {ns : List Int} {m c : Nat} (h : ∀ p ∈ g, p.2.length ≤ m) (hn : ns.length ≤ c) : ∀ p ∈ addL g k ns, p.2.length ≤ m + c := by
  intro p hp
  unfold addL at hp
  split at hp
  · obtain ⟨q, hq, rfl⟩ := List.mem_map.mp hp
    have := h q hq
    split <;> simp <;> omega
  · rcases List.mem_append.mp hp with hp | hp
    · have := h p hp; omega
    · rw [List.mem_singleton.mp hp]; show ns.length ≤ m + c; omega
theorem call_items_d {w : World} {A : Around} {E : Value → Shared → Prop} {h : Heap} {g : Array GenState} {d : Drawn} {t : Nat} {os : OsState} {x : Addr} {kvs : List (Str × Value)} {es : Array DictEntry} {ep : Nat} {Q : Value → Shared → Prop} (I : DD w h x (.type "dict") none kvs es ep) (hx : (x == sysModules) = false)
    (hq : Q (.ref h.objs.size) ⟨h.push (vObj x), g, d, t, os⟩) : wpAny (model P w) A (call (.builtin "dict.items") [.ref x]) Q E ⟨h, g, d, t, os⟩ := by
  have hI := I.at_
  have hT : (⟨h, g, d, t, os⟩ : Shared).TypeIs (.ref x) "dict" := ⟨_, hI, rfl⟩
  have L : Looks (model P w) h (typeOf (.ref x)) (.type "dict") := (Looks.ld hI).andThen .now
  have L1 : Looks (model P w) h (isInstance (.ref x) (.type "collections.OrderedDict")) false := L.andThen (Looks.of_pure (by rw [isSubtype_type]; kernel_rfl))
  have L2 : Looks (model P w) h (isSubtype (.type "dict") (.type "collections.OrderedDict")) false := Looks.of_pure (by rw [isSubtype_type]; kernel_rfl)
  refine wpAny_call_entry PySem.F.slot_dict_items hT PySem.F.entry_dict_items ?_ (PySem.F.args_dict_items_1 _)
  unfold Builtin.«dict.items»
  repeat (first | simp only [hx, Bool.false_eq_true, if_false] | lk)
  exact ⟨_, rfl, hq⟩
theorem clists_spec {w : World} {A : Around} {s : Shared} {R : Result → Shared → Prop} {x dx dl b : Addr} {gs : List Grp} {hsh : Int} {t : Tok} {n c ep : Nat} {vs : Array Value} {es : Array DictEntry} (hA : Rm 450 A) (hh : A.handled = none) (T : TopH w s.heap)
    (X : WH w b s.heap x gs dx dl hsh t n c vs es ep) (hlow : 604 ≤ b) (hg : ∀ g ∈ gs, g.length ≤ 6) (hv : ∀ g ∈ gs, ∀ p ∈ g, p.2.length ≤ 6) (hn : gs.length ≤ 5)
    (hR : ∀ h' gn' tk v rv kvs es ep, Ext [] s.heap h' → (Bare s.gens → Bare gn') → h'.get? v = some (vObj rv) → DD w h' rv (.type "dict") none kvs es ep → GL s.heap.objs.size h' kvs (mergeG gs) → s.heap.objs.size ≤ rv →
      R (.ok (.ret (.ref v))) ⟨h', gn', s.drawn, tk, s.os⟩) :
    codeAny (model P w) A (.call (.ref 522) ⟨[.ref x], []⟩) R s := by
  refine enter [(Str.ofString "self", .ref x)] hA T (by rfl) (by rfl) (by rfl) (by rfl) (BindsTo.of_eq rfl) (by decide) (locs rfl) fun h₁ D hA' hh' => ?_
  replace hh' := hh'.trans hh
  generalize hA1 : A.deeper _ = A₁ at hA' hh' ⊢
  clear hA1
  refine wpAny_execs_cons ?_
  refine wpAny_Assign_Name ?_
  refine wpAny_Dict_empty ?_
  have Dd := DD.new (w := w) h₁
  have frv : s.heap.get? h₁.objs.size = none := D.fresh
  have lrv : s.heap.objs.size ≤ h₁.objs.size := Nat.le_of_lt D.ns.lt
  have nrv : s.heap.objs.size ≠ h₁.objs.size := Nat.ne_of_lt D.ns.lt
  replace D := D.call (Ext.push h₁ { cls := .type "dict", data := .dict #[] })
  dsimp only
  change wpAny _ _ _ _ _ ⟨h₁.push { cls := .type "dict", data := .dict #[] }, _, _, _, _⟩
  generalize h₁.objs.size = rv at Dd frv lrv nrv ⊢
  generalize h₁.push { cls := .type "dict", data := .dict #[] } = h2 at D Dd ⊢
  clear h₁
  refine wpAny_storeName_local rfl D.ns (fun h3 hn3 hs3 => ?_) rfl
  replace D := D.store hn3 hs3
  replace Dd := Dd.get (hs3.2 _ (Ne.symm nrv))
  dsimp only
  clear hn3 hs3 h2
  refine wpAny_execs_cons ?_
  refine wpAny_For ?_
  refine Attribute_Name_ ?_
  walk_at "nl"
  have T3 := D.top T (by simp)
  have X3 := X.ext0 D.ext
  refine get_dicts T3 X3 ?_
  refine wpAny_pyIter_list ⟨_, X3.ls, rfl, c, rfl⟩ ?_
  have fit : s.heap.get? h3.objs.size = none := D.fresh
  have nit : s.heap.objs.size ≠ h3.objs.size := Nat.ne_of_lt D.ns.lt
  have lit0 : s.heap.objs.size ≤ h3.objs.size := Nat.le_of_lt D.ns.lt
  have hit : (h3.push { cls := .type "list_iterator", data := .fields #[.ref dl, .int 0 0] }).IsListIter h3.objs.size dl 0 := ⟨_, Heap.get?_push_size _ rfl, rfl, rfl⟩
  replace Dd := Dd.keeps fun b o e => Heap.get?_push_of_some { cls := .type "list_iterator", data := .fields #[.ref dl, .int 0 0] } e
  replace D := D.call (Ext.push h3 { cls := .type "list_iterator", data := .fields #[.ref dl, .int 0 0] })
  dsimp only
  generalize h3.objs.size = it at fit nit hit lit0 ⊢
  generalize h3.push { cls := .type "list_iterator", data := .fields #[.ref dl, .int 0 0] } = h4 at D Dd hit ⊢
  clear X3 T3 h3
  refine codeAny_forLoop (fun n' s' => ∃ i h' gn' tk' m kvs es ep, n' + i = gs.length ∧ s' = ⟨h', gn', s.drawn, tk', s.os⟩ ∧ (Bare s.gens → Bare gn') ∧ Me [] s.heap h' s.heap.objs.size m [] ∧ m "self" = some (.ref x) ∧ m "rv" = some (.ref rv) ∧
    h'.IsListIter it dl i ∧ DD w h' rv (.type "dict") none kvs es ep ∧ GL s.heap.objs.size h' kvs ((gs.take i).foldl mergeOne []) ∧ kvs.length ≤ 6 * i ∧ ∀ p ∈ (gs.take i).foldl mergeOne [], p.2.length ≤ 36 * i) ?_ gs.length
    ⟨0, h4, _, _, _, [], _, _, by omega, rfl, id, D, by rfl, by rfl, hit, Dd, GL.nil _ _, Nat.le_refl _, fun p q => by cases q⟩
  clear D Dd hit h4
  rintro n' s' ⟨i, h', gn', tk', m, kvs, es', ep', hn', rfl, bar, D, ms, mr, hit, Dd, G, hk1, hk2⟩
  have X2 := X.ext0 D.ext
  have T2 := D.top T (by simp)
  cases n' with
  | zero =>
    refine wpAny_pyNext_list_end hh' hit ⟨_, X2.ls, rfl, c, rfl⟩ (by rw [Array.getElem?_eq_none_iff, X2.md.1]; omega) (fun h4 he => ?_)
    have ri : rv ≠ it := iter_dd hit Dd
    replace G : GL s.heap.objs.size h4 kvs ((gs.take i).foldl mergeOne []) := by
      refine ⟨G.len, fun j k v q => ?_, G.inj⟩
      obtain ⟨ns, a, e1, e2, hb, va, na, ea, ia⟩ := G.at_ j k v q
      exact ⟨ns, a, e1, e2, hb, va, na, he _ _ (iter_ne hit ⟨_, ea, rfl, na, rfl⟩) ea, ia⟩
    replace Dd := Dd.get (show h4.get? rv = h'.get? rv by rw [Dd.at_]; exact he _ _ ri Dd.at_)
    replace D := D.ownE he fit nit
    dsimp only
    refine wpAny_execs_nil ?_
    refine wpAny_execs_cons ?_
    refine wpAny_Return_some ?_
    refine wpAny_Call_method rfl rfl rfl PySem.F.plainAttrs_dict PySem.F.slot_dict_items PySem.F.type_dict_items ?_
    refine name_local D.ns mr ?_
    refine ⟨⟨_, Dd.at_, rfl⟩, fun a e => by cases e; exact ⟨_, Dd.at_, rfl⟩, ?_⟩
    refine call_bi0 ?_
    refine call_items_d Dd (not_sys (Nat.le_trans T.low lrv)) ?_
    have kv : Keep h4 (h4.push (vObj rv)) := fun b o e => Heap.get?_push_of_some _ e
    have tk : gs.take i = gs := List.take_of_length_le (by omega)
    rw [tk] at G
    exact hR _ _ _ _ rv kvs _ _ (D.ext.and (.of_keeps kv)) bar (Heap.get?_push_size _ rfl) (Dd.keeps kv) (G.keeps kv) lrv
  | succ n' =>
    have hi : i < gs.length := by omega
    obtain ⟨mm0, dm, kvm, em, pm, em0, Xm⟩ := X.md.2 i gs[i] (List.getElem?_eq_getElem hi)
    refine wpAny_pyNext_list_item hit ⟨_, X2.ls, rfl, c, rfl⟩ em0 (fun h4 hit4 sb4 => ?_)
    have ri : rv ≠ it := iter_dd hit Dd
    replace D := D.ownE sb4.extBut fit nit
    replace G := G.sb' sb4 fun a vs l => iter_ne hit l
    replace Dd := Dd.get (sb4.2 rv ri)
    dsimp only
    clear X2 T2 hit sb4
    refine wpAny_assign_Name ?_
    refine wpAny_storeName_local rfl D.ns (fun h5 hn5 hs5 => ?_) rfl
    replace G := G.sb' hs5 fun a vs l => Ne.symm (ns_ne D.ns l)
    replace D := D.store hn5 hs5
    replace Dd := Dd.get (hs5.2 _ (Ne.symm nrv))
    have hit5 := hit4.at fun o e => (hs5.2 it (Ne.symm nit)).trans e
    dsimp only
    clear hn5 hs5 hit4 h4
    have T6 := D.top T (by simp)
    have X6 := Xm.ext D.ext (by simp)
    refine wpAny_execs_cons ?_
    refine wpAny_For ?_
    refine methodCall_KW ?_
    refine name_local D.ns (by rw [if_pos (by decide)]) ?_
    refine meth_MD (f := 346) T6 X6.inst (by kernel_rfl) (by rfl) ?_
    refine call_fn0 (by rfl) T6 ?_
    refine wpAny_call ?_
    refine lists_feed (b0 := s.heap.objs.size) (hA'.mono (by decide)) T6 T Xm hlow T.low (Nat.le_refl _) (Nat.le_of_lt D.ns.lt) (Nat.le_trans (hg _ (List.getElem_mem hi)) (by decide)) (fun p q => Nat.le_trans (hv _ (List.getElem_mem hi) p q) (by decide)) (fun h7 tk7 gn7 k7 b7 feed => ?_)
    dsimp only at k7 feed ⊢
    have lt5 : ∀ {a : Addr} {o : Obj}, h5.get? a = some o → a ≠ h5.objs.size ∧ a ≠ h5.objs.size + 1 := fun e => ⟨Nat.ne_of_lt (Heap.lt_size e), Nat.ne_of_lt (Nat.lt_succ_of_lt (Heap.lt_size e))⟩
    have C' : ∀ c ∈ [s.heap.objs.size, rv], 604 ≤ c ∧ (c < b ∨ s.heap.get? c = none) ∧ c ≠ h5.objs.size ∧ c ≠ h5.objs.size + 1 := by
      intro c' q
      rcases List.mem_cons.mp q with rfl | q
      · obtain ⟨o, _, _, e, _⟩ := D.ns
        exact ⟨T.low, .inr (get_size _), lt5 e⟩
      · rw [List.mem_singleton.mp q]
        exact ⟨Nat.le_trans T.low lrv, .inr frv, lt5 Dd.at_⟩
    have feed' := fun A₂ hA₂ hh₂ => feed A₂ [s.heap.objs.size, rv] hA₂ hh₂ C' ((D.ext.and (.of_keeps k7)).mono (by simp))
    have lb5 : s.heap.objs.size ≤ h5.objs.size := Nat.le_of_lt D.ns.lt
    have li5 : it < h5.objs.size := by obtain ⟨o, e, _⟩ := hit5; exact Heap.lt_size e
    obtain ⟨z, ez⟩ : ∃ z : Zone, z = ⟨s.heap.objs.size, h5.objs.size, [s.heap.objs.size, rv], gn'.size⟩ := ⟨_, rfl⟩
    rw [← ez] at feed'
    have zb0 : z.b0 = s.heap.objs.size := by rw [ez]
    have zB : s.heap.objs.size ≤ z.B := by rw [ez]; exact lb5
    have ziB : it < z.B := by rw [ez]; exact li5
    have LC : s.heap.objs.size ∈ z.C := by rw [ez]; exact .head _
    have rC : rv ∈ z.C := by rw [ez]; exact .tail _ (.head _)
    have zC : ∀ c ∈ z.C, c = s.heap.objs.size ∨ c = rv := by rw [ez]; intro c q; simpa using q
    refine wpAny_pyIter_gen (feed' A₁ (hA'.mono (by decide)) hh').gen ?_
    have hit7 : h7.IsListIter it dl (i + 1) := let ⟨o, e, r⟩ := hit5; ⟨o, k7 _ _ e, r⟩
    replace G := G.keeps k7
    replace Dd := Dd.keeps k7
    replace D := D.call (.of_keeps k7)
    have bar7 : Bare s.gens → Bare (gn'.push gn7) := fun q y hy => by
      rcases Array.mem_push.mp hy with hy | rfl
      · exact bar q y hy
      · exact b7
    have F0 := feed' A₁ (hA'.mono (by decide)) hh'
    clear feed feed' C' lt5 k7 hit5 T6 X6 ez lb5 li5 bar b7
    generalize h5.objs.size + 1 = ga at F0 ⊢
    generalize gn'.push gn7 = gn8 at F0 bar7 ⊢
    have hll : (listsD gs[i]).length = gs[i].length := by unfold listsD; rw [List.length_map]
    obtain ⟨r0, er0⟩ : ∃ r0, r0 = (gs.take i).foldl mergeOne [] := ⟨_, rfl⟩
    rw [← er0] at G hk2
    refine codeAny_forLoop_any (fun m' s' => ∃ j h' gn' tk' mm kvs es ep, m' + j = gs[i].length ∧ s' = ⟨h', gn', s.drawn, tk', s.os⟩ ∧ (Bare s.gens → Bare gn') ∧ Me [] s.heap h' s.heap.objs.size mm [] ∧ mm "self" = some (.ref x) ∧ mm "rv" = some (.ref rv) ∧
      h'.IsListIter it dl (i + 1) ∧ DD w h' rv (.type "dict") none kvs es ep ∧ GL s.heap.objs.size h' kvs (mergeOne r0 (gs[i].take j)) ∧ kvs.length ≤ 6 * i + j ∧ (∀ p ∈ mergeOne r0 (gs[i].take j), p.2.length ≤ 36 * i + 6 * j) ∧ Feed w A₁ z (.ok (.ret .none)) ga (listsD gs[i]) j s') ?_ gs[i].length
      ⟨0, h7, gn8, _, _, kvs, _, _, rfl, rfl, bar7, D, ?_, ?_, hit7, Dd, G, hk1, hk2, F0⟩
    case refine_2 => rw [if_neg (by decide)]; exact ms
    case refine_3 => rw [if_neg (by decide)]; exact mr
    clear D Dd hit7 G F0 hk1 hk2 bar7 ms mr h7 gn8 h5 tk7 kvs es' ep' m gn'
    rintro m' s' ⟨j, h', gn', tk', mm, kvs, es', ep', hm', rfl, bar, D, ms, mr, hit, Dd, G, hk1, hk2, F⟩
    have hC2 : Cs z h' := by
      intro c' q
      rcases zC c' q with rfl | rfl
      · obtain ⟨o, _, _, e, _⟩ := D.ns; exact ⟨o, e⟩
      · exact ⟨_, Dd.at_⟩
    have gon : ∀ s', Woke z ⟨h', gn', s.drawn, tk', s.os⟩ s' → Me [] s.heap s'.heap s.heap.objs.size mm [] ∧ s'.heap.IsListIter it dl (i + 1) ∧ DD w s'.heap rv (.type "dict") none kvs es' ep' ∧ GL s.heap.objs.size s'.heap kvs (mergeOne r0 (gs[i].take j)) ∧ (Bare s.gens → Bare s'.gens) := by
      intro s' wk
      refine ⟨D.took F.ok wk.heap zB (.inr LC) (by simp), ?_, ?_, G.p wk.heap fun a vs n _ => ls_not_gm, fun q => wk.bare (bar q)⟩
      · obtain ⟨o, e, hc, r⟩ := hit
        exact ⟨o, wk.heap.get e (by unfold hasCls; rw [hc]) fun q => absurd ziB (Nat.not_lt.mpr q.1), hc, r⟩
      · exact ⟨wk.heap.get Dd.at_ rfl fun q => q.2.1 rC, Dd.keys, Dd.prs, Dd.nd⟩
    cases m' with
    | zero =>
      have hj : j = gs[i].length := by omega
      refine F.stop hC2 hh' (hA'.dlt) (.inl rfl) (by rw [hll]; exact hj) (fun s' wk => ?_)
      obtain ⟨D', hit', Dd', G', bar'⟩ := gon s' wk
      obtain ⟨h8, gn8, d8, t8, o8⟩ := s'
      obtain rfl : d8 = s.drawn := wk.drawn
      obtain rfl : o8 = s.os := wk.os
      dsimp only
      refine wpAny_execs_nil ?_
      dsimp only
      refine wpAny_execs_nil ?_
      have tk1 : (gs.take (i + 1)).foldl mergeOne [] = mergeOne r0 gs[i] := by rw [List.take_succ_eq_append_getElem hi, List.foldl_append, ← er0]; rfl
      rw [hj, List.take_length] at G' hk2
      refine ⟨n', Nat.lt_succ_self n', i + 1, h8, gn8, _, mm, kvs, _, _, by omega, rfl, bar', D', ms, mr, hit', Dd', by rw [tk1]; exact G', ?_, ?_⟩
      · have := hg _ (List.getElem_mem hi); omega
      · rw [tk1]; intro p q; have := hk2 p q; have := hg _ (List.getElem_mem hi); omega
    | succ m' =>
      have hj : j < gs[i].length := by omega
      obtain ⟨k0, ns, ep0⟩ : ∃ k0 ns, gs[i][j] = (k0, ns) := ⟨_, _, rfl⟩
      have edd : (listsD gs[i])[j]? = some (.tuple [.str k0, .list (ns.map .int)]) := by unfold listsD; rw [List.getElem?_map, List.getElem?_eq_getElem hj, ep0]; rfl
      refine F.next hC2 hh' (hA'.dlt) (.inl rfl) edd (fun v s' rd wk F' => ?_)
      obtain ⟨D', hit', Dd', G', bar'⟩ := gon s' wk
      obtain ⟨h8, gn8, d8, t8, o8⟩ := s'
      obtain rfl : d8 = s.drawn := wk.drawn
      obtain rfl : o8 = s.os := wk.os
      dsimp only at hit' Dd' G' D' bar' rd ⊢
      clear D Dd hit G F bar hC2 gon wk
      obtain ⟨ta, u, zz, rfl, pa, tup, ru, rz⟩ := rd.pairE
      obtain ⟨tu, rfl⟩ := ru.strE
      obtain ⟨la, lv, rfl, pl, ll, il⟩ := rz.intsE
      clear rd ru rz pa pl h'
      refine letGo_gen F'.gen ?_
      refine assign_Tuple_tuple hh' tup rfl rfl (fun h5 he5 => ?_)
      dsimp only at he5 ⊢
      have ext5 := Ext.of_extBut he5
      replace F' := F'.calm (Calm.ext (t' := t8) ext5)
      replace D' := D'.call ext5
      replace hit' : h5.IsListIter it dl (i + 1) := let ⟨o, e, hc, r⟩ := hit'; ⟨o, ext5.get e (by unfold hasCls; rw [hc]) (by simp), hc, r⟩
      replace Dd' := Dd'.ext ext5 rfl (by simp)
      replace G' := G'.ext ext5 (by simp)
      replace ll := ext5.isList ll (by simp)
      clear tup he5 ext5 h8
      refine wpAny_assignInOrder_more ?_
      refine wpAny_assign_Name ?_
      refine wpAny_storeName_local rfl D'.ns (fun h6 hn6 hs6 => ?_) rfl
      replace G' := G'.sb' hs6 fun a vs l => Ne.symm (ns_ne D'.ns l)
      replace ll := isList_sb ll hs6 (Ne.symm (ns_ne D'.ns ll))
      replace D' := D'.store hn6 hs6
      replace Dd' := Dd'.get (hs6.2 rv (Ne.symm nrv))
      replace hit' := hit'.at fun o e => (hs6.2 it (Ne.symm nit)).trans e
      replace F' := F'.calm (Calm.but (t' := t8) LC hs6.extBut (let ⟨o, _, _, e, _⟩ := D'.ns; ⟨o, e⟩))
      dsimp only at hs6 ⊢
      clear hn6 hs6 h5
      refine wpAny_assignInOrder_more ?_
      refine wpAny_assign_Name ?_
      refine wpAny_storeName_local rfl D'.ns (fun h7 hn7 hs7 => ?_) rfl
      replace G' := G'.sb' hs7 fun a vs l => Ne.symm (ns_ne D'.ns l)
      replace ll := isList_sb ll hs7 (Ne.symm (ns_ne D'.ns ll))
      replace D' := D'.store hn7 hs7
      replace Dd' := Dd'.get (hs7.2 rv (Ne.symm nrv))
      replace hit' := hit'.at fun o e => (hs7.2 it (Ne.symm nit)).trans e
      replace F' := F'.calm (Calm.but (t' := t8) LC hs7.extBut (let ⟨o, _, _, e, _⟩ := D'.ns; ⟨o, e⟩))
      dsimp only at hs7 ⊢
      clear hn7 hs7 h6
      refine wpAny_assignInOrder_none ?_
      refine wpAny_execs_cons ?_
      refine wpAny_Expr_any ?_
      refine wpAny_Call_method rfl rfl rfl PySem.F.plainAttrs_list PySem.F.slot_list_extend PySem.F.type_list_extend ?_
      refine wpAny_Call_method rfl rfl rfl PySem.F.plainAttrs_dict PySem.F.slot_dict_setdefault PySem.F.type_dict_setdefault ?_
      refine name_local D'.ns (by rw [if_neg (by decide), if_neg (by decide)]; exact mr) ?_
      refine ⟨⟨_, Dd'.at_, rfl⟩, fun a e => by cases e; exact ⟨_, Dd'.at_, rfl⟩, ?_⟩
      refine call_bi ?_
      refine wpAny_items_cons ?_
      refine name_local D'.ns (by rw [if_neg (by decide), if_pos (by decide)]) ?_
      refine wpAny_items_cons ?_
      refine wpAny_List ?_
      refine wpAny_items_nil ?_
      refine ⟨by simp, ?_⟩
      refine wpAny_items_nil ?_
      have fnl : s.heap.get? h7.objs.size = none := D'.fresh
      have lnl : s.heap.objs.size ≤ h7.objs.size := Nat.le_of_lt D'.ns.lt
      have nnl : ∀ a o, h7.get? a = some o → a ≠ h7.objs.size := fun a o q => Nat.ne_of_lt (Heap.lt_size q)
      have enl : (h7.push { cls := .type "list", data := .seq #[] }).get? h7.objs.size = some (lsObj #[] 0) := Heap.get?_push_size _ rfl
      have kp : Keep h7 (h7.push { cls := .type "list", data := .seq #[] }) := fun b o e => Heap.get?_push_of_some _ e
      have nG : ∀ (j : Nat) (k' : Str) (a' : Addr), kvs[j]? = some (k', .ref a') → a' ≠ h7.objs.size := fun j k' a' q => by
        obtain ⟨_, _, _, e', il⟩ := G'.at_ j k' _ q
        cases e'
        exact Nat.ne_of_lt il.lt
      replace G' := G'.keeps kp
      have ndd := nnl _ _ Dd'.at_
      have nla : la ≠ h7.objs.size := let ⟨o, e, _⟩ := ll; nnl _ _ e
      replace Dd' := Dd'.keeps kp
      replace ll : Heap.IsList _ la lv := let ⟨o, e, r⟩ := ll; ⟨o, kp _ _ e, r⟩
      have nit7 : it ≠ h7.objs.size := let ⟨o, ho, _⟩ := hit'; nnl _ _ ho
      replace hit' := hit'.at fun o e => kp _ _ e
      have nLl : s.heap.objs.size ≠ h7.objs.size := Nat.ne_of_lt D'.ns.lt
      replace D' := D'.call (.of_keeps kp)
      replace F' := F'.calm (Calm.keeps (t' := t8) kp)
      dsimp only
      change wpAny _ _ _ _ _ ⟨h7.push { cls := .type "list", data := .seq #[] }, _, _, _, _⟩
      generalize h7.objs.size = nl at fnl lnl enl nG ndd nit7 nLl nla ⊢
      generalize h7.push { cls := .type "list", data := .seq #[] } = h8 at enl G' Dd' hit' D' F' ll ⊢
      clear nnl kp h7
      have hns : ns.length ≤ 6 := by have := hv _ (List.getElem_mem hi) _ (List.getElem_mem hj); rwa [ep0] at this
      have hlv : lv.size = ns.length := by have := ia_len il; rwa [Array.length_toList] at this
      have htk : mergeOne r0 (gs[i].take (j + 1)) = addL (mergeOne r0 (gs[i].take j)) k0 ns := by rw [List.take_succ_eq_append_getElem hj, ep0]; unfold mergeOne; rw [List.foldl_append]; rfl
      have hgi := hg _ (List.getElem_mem hi)
      have each : ∀ p ∈ mergeOne r0 (gs[i].take (j + 1)), p.2.length ≤ 36 * i + 6 * (j + 1) := by rw [htk]; intro p q; have := addL_each hk2 hns p q; omega
      refine call_setdefault Dd' (not_sys (Nat.le_trans T.low lrv)) (by omega) ?_ ?_
      · intro u hu
        obtain ⟨i', ms', a, ei, gi, rfl, ila⟩ := G'.there hu
        obtain ⟨hba, va, na, ea, ia⟩ := id ila
        have haL : s.heap.objs.size ≠ a := ns_ne D'.ns ⟨_, ea, rfl, na, rfl⟩
        have haf : s.heap.get? a = none := get_fresh hba
        have hva : va.size ≤ 400 := by have := hk2 _ (List.mem_of_getElem? gi); have := ia_len ia; rw [Array.length_toList] at this; dsimp only at *; omega
        refine ⟨⟨_, ea, rfl⟩, fun a e => by cases e; exact ⟨_, ea, rfl⟩, ?_⟩
        refine call_bi ?_
        refine wpAny_items_cons ?_
        refine name_local D'.ns (by rw [if_pos (by decide)]) ?_
        refine wpAny_items_nil ?_
        refine extend_ls ea ll (by omega) (fun h9 n9 e9 sb9 => ?_)
        dsimp only at sb9 ⊢
        refine wpAny_execs_nil ?_
        refine ⟨m', Nat.lt_succ_self m', j + 1, h9, gn8, _, _, kvs, _, _, by omega, rfl, bar', D'.own sb9 ⟨_, e9⟩ (.inr haf) haL, ?_, ?_, ?_, Dd'.get (sb9.2 _ (Ne.symm (dd_ne Dd' ⟨_, ea, rfl, na, rfl⟩))), ?_, by omega, each, ?_⟩
        · rw [if_neg (by decide), if_neg (by decide)]; exact ms
        · rw [if_neg (by decide), if_neg (by decide)]; exact mr
        · exact hit'.at fun o e => (sb9.2 it (Ne.symm (iter_ne hit' ⟨_, ea, rfl, na, rfl⟩))).trans e
        · rw [htk]
          exact G'.appL Dd'.nd ei gi sb9 ⟨hba, _, _, e9, by rw [Array.toList_append]; exact ia_app ia il⟩
        · exact F'.calm (Calm.list (zb0 ▸ hba) sb9.extBut ⟨_, e9⟩ fun o q => by rw [ea] at q; cases q; exact ⟨rfl, fun _ _ q => nomatch q⟩)
      · intro hk h9 es9 ep9 D9 sb9
        dsimp only at sb9 ⊢
        have e9 : h9.get? nl = some (lsObj #[] 0) := (sb9.2 nl (Ne.symm ndd)).trans enl
        replace D' := D'.own sb9 ⟨_, D9.at_⟩ (.inr frv) nrv
        replace G' := G'.sb' sb9 fun a vs l => dd_ne Dd' l
        replace ll := isList_sb ll sb9 (dd_ne Dd' ll)
        have hit9 := hit'.at fun o e => (sb9.2 it (Ne.symm (iter_dd hit' Dd'))).trans e
        replace F' := F'.calm (Calm.but (t' := t8 + 1) rC sb9.extBut ⟨_, D9.at_⟩)
        clear Dd' hit' sb9 enl
        refine ⟨⟨_, e9, rfl⟩, fun a e => by cases e; exact ⟨_, e9, rfl⟩, ?_⟩
        refine call_bi ?_
        refine wpAny_items_cons ?_
        refine name_local D'.ns (by rw [if_pos (by decide)]) ?_
        refine wpAny_items_nil ?_
        refine extend_ls e9 ll (by rw [hlv]; show 0 + _ ≤ 1000; omega) (fun h10 n10 e10 sb10 => ?_)
        dsimp only at sb10 ⊢
        refine wpAny_execs_nil ?_
        refine ⟨m', Nat.lt_succ_self m', j + 1, h10, gn8, _, _, _, _, _, by omega, rfl, bar', D'.own sb10 ⟨_, e10⟩ (.inr fnl) nLl, ?_, ?_, ?_, D9.get (sb10.2 _ ndd), ?_, by rw [List.length_append, List.length_singleton]; omega, each, ?_⟩
        · rw [if_neg (by decide), if_neg (by decide)]; exact ms
        · rw [if_neg (by decide), if_neg (by decide)]; exact mr
        · exact hit9.at fun o e => (sb10.2 it nit7).trans e
        · rw [htk]
          exact (G'.sb sb10 nG).pushL hk ⟨lnl, _, _, e10, by rw [Array.toList_append]; exact ia_app .nil il⟩ nG
        · exact F'.calm (Calm.list (zb0 ▸ lnl) sb10.extBut ⟨_, e10⟩ fun o q => by rw [e9] at q; cases q; exact ⟨rfl, fun _ _ q => nomatch q⟩)
end Mine
end
section
open PySem PySem.W PySem.W.X PyProof.Rows PySem.Calls
set_option maxRecDepth 100000
set_option maxHeartbeats 400000
namespace Mine
abbrev keyIt (x : Addr) (i n ep : Nat) : Obj := { cls := .type "dict_keyiterator", data := .fields #[.ref x, .int i 0, .int n 0, .int ep 0] }
theorem iter_spec {w : World} {A : Around} {s : Shared} {R : Result → Shared → Prop} {x dx ep : Addr} {es : Array DictEntry} (hA : Rm 500 A) (T : TopH w s.heap) (I : Inst s.heap x 437 dx emptyDict es ep) (hlow : 604 ≤ x)
    (hR : ∀ h' it tk, Ext [] s.heap h' → h'.get? it = some (keyIt x 0 es.size ep) → s.heap.get? it = none → s.heap.objs.size ≤ it → R (.ok (.ret (.ref it))) ⟨h', s.gens, s.drawn, tk, s.os⟩) :
    codeAny (model P w) A (.call (.ref 272) ⟨[.ref x], []⟩) R s := by
  refine enterAt [(Str.ofString "self", .ref x)] hA T (by rfl) (by rfl) (by rfl) (by rfl) (BindsTo.of_eq rfl) (by decide) (locs rfl) fun h₁ D hA' hh' => ?_
  refine ks_wpAt_execs_cons ?_
  refine ks_wpAt_Return_some ?_
  have T1 := D.top T (by simp)
  have I1 : Inst h₁ x 437 dx emptyDict es ep := ⟨D.ext.get I.at_ rfl List.not_mem_nil, D.ext.get I.own rfl List.not_mem_nil⟩
  refine super_call (x := x) (C := 437) (D := 437) (id := "dict.__iter__") (BT := "method-wrapper") T1 D.ns I1.i (by rfl) rfl (by rfl) (by rfl) (by rfl) rfl (by rfl) (by rfl) (by rfl) (by rfl) rfl (by kernel_rfl) (by rfl) (by kernel_rfl) (by kernel_rfl)
    (.inl ⟨wd_iter, rfl⟩) rfl rfl rfl rfl rfl rfl rfl rfl rfl (by decide) (fun q h' nq hq k => ?_)
  refine call_b0 (.inl rfl) hq ?_
  have T2 : TopH w h' := T1.ext (.of_keeps k) (by simp)
  have I2 : Inst h' x 437 dx emptyDict es ep := ⟨k _ _ I1.at_, k _ _ I1.own⟩
  refine wpAny_call ?_
  refine code_bound (.inl rfl) hq ((chk_iter _) _ _) (fun _ => Code.quiet_builtin _ (by decide +kernel)) ent_iter ?_
  refine run_iter T2.K I2 (by kernel_rfl) (not_sys hlow) ?_
  dsimp only
  have e2 := D.ext.and (.of_keeps k)
  exact hR _ _ _ (e2.and (.push _ _)) (Heap.get?_push_size _ rfl) (e2.fresh (get_size _)) (by obtain ⟨o, _, _, e, _⟩ := D.ns; exact Nat.le_of_lt (Heap.lt_size (k _ _ e)))
end Mine
end
section
open PySem PySem.W PySem.W.X PyProof.Rows PySem.Calls
set_option maxRecDepth 100000
set_option maxHeartbeats 400000
namespace Mine
section
variable {w : World} {A : Around} {E : Value → Shared → Prop} {h : Heap} {g : Array GenState} {d : Drawn} {t : Nat} {os : OsState} {x : Addr} {dx : Option Addr} {Cv : Value} {kvs : List (Str × Value)} {es : Array DictEntry} {ep : Nat}
theorem mro_keyit : mroOf (.type "dict_keyiterator") = pure [.type "dict_keyiterator", .type "object"] := by rw [mroOf_type]; kernel_rfl
theorem next_keys {it : Addr} {i : Nat} {k : Str} {v : Value} {Q : Option Value → Shared → Prop} (hit : h.get? it = some (keyIt x i kvs.length ep)) (I : DD w h x Cv dx kvs es ep) (hx : kvs[i]? = some (k, v))
    (hQ : ∀ tk h', h'.get? it = some (keyIt x (i + 1) kvs.length ep) → Heap.SameBut it h h' → Q (some (.str k tk)) ⟨h', g, d, t, os⟩) :
    wpAny (model P w) A (pyNext (.ref it)) Q E ⟨h, g, d, t, os⟩ := by
  have hT : (⟨h, g, d, t, os⟩ : Shared).TypeIs (.ref it) "dict_keyiterator" := ⟨_, hit, rfl⟩
  have hI := I.at_
  have hs := I.size
  have hi : i < kvs.length := (List.getElem?_eq_some_iff.mp hx).1
  have hi' : i < es.size := by rw [hs]; exact hi
  obtain ⟨hkey, hval⟩ := I.prs.get? (e := es[i]) (k := k) (v := v) (by simp [hi']) hx
  obtain ⟨tk, etk⟩ := Value.isStrOf_shape hkey
  have hown : Builtin.Dict_items.ownsTuple "dict_keyiterator" = false := by decide
  have L0 : ∀ {h'} {od : Option Addr} {da : Data} {sl : Array (Option Value)}, h'.get? it = some { cls := .type "dict_keyiterator", dict := od, data := da, slots := sl } → Looks (model P w) h' (typeOf (.ref it)) (.type "dict_keyiterator") := fun e => (Looks.ld e).andThen .now
  have LN : ∀ {h'} {od : Option Addr} {da : Data} {sl : Array (Option Value)}, h'.get? it = some { cls := .type "dict_keyiterator", dict := od, data := da, slots := sl } → Looks (model P w) h' (typeNameOfWhole (.ref it)) "dict_keyiterator" := fun e => by
    unfold typeNameOfWhole shownTypeOf
    refine Looks.andThen (a := .type "dict_keyiterator") ((L0 e).andThen (Looks.of_pure (by rfl))) (Looks.of_pure ?_)
    show typeName (.type "dict_keyiterator") = _
    unfold typeName; rw [find?_eq_fast]; kernel_rfl
  have LB : ∀ {h'} {od : Option Addr} {da : Data} {sl : Array (Option Value)} (types : List String), h'.get? it = some { cls := .type "dict_keyiterator", dict := od, data := da, slots := sl } → Looks (model P w) h' (Builtin.Dict_items.isOneOf (.ref it) types) (types.any fun t => [Value.type "dict_keyiterator", Value.type "object"].contains (.type t)) := fun types e => by
    unfold Builtin.Dict_items.isOneOf
    exact (L0 e).andThen ((Looks.of_pure mro_keyit).andThen .now)
  have N0 := LN hit
  unfold pyNext
  refine wpAny_bind (wpAny_attempt (wpAny_callSpecial?_slot (name := Str.ofString "__next__") hT F.slot_dict_keyiterator_next
    (wpAny_call_entry F.slot_dict_keyiterator_next hT F.entry_dict_keyiterator_next ?_ (F.args_dict_keyiterator_next_1 _))))
  unfold Builtin.«dict_keyiterator.__next__»
  repeat (first | (with_reducible refine Looks.at (LB _ hit) ?_) | (with_reducible refine ite_no (by simp [hs]) ?_) | simp only [hown, Bool.false_eq_true, if_false] | lk)
  rw [if_neg (show ¬ ((i : Int) < 0) by omega), Int.toNat_natCast, Array.getElem?_eq_getElem hi']
  dsimp only
  repeat (first | (with_reducible refine Looks.at (LB _ hit) ?_) | simp only [hown, Bool.false_eq_true, if_false] | (with_reducible refine wpAny_setField_rec hit (by simp) fun h₁ he₁ hs₁ => Held.out ?_) | lk)
  refine Held.in ?_
  replace he₁ : h₁.get? it = some (keyIt x (i + 1) kvs.length ep) := by
    have e : ((i + 1 : Nat) : Int) = (i : Int) + 1 := by omega
    show _ = some ({ cls := .type "dict_keyiterator", data := .fields #[.ref x, .int ((i + 1 : Nat) : Int) 0, .int kvs.length 0, .int ep 0] } : Obj)
    rw [e]; exact he₁
  replace hs₁ : Heap.SameBut it h h₁ := hs₁
  repeat (first | (with_reducible refine Looks.at (LB _ he₁) ?_) | lk)
  rw [etk]
  exact ⟨_, rfl, wpAny_pure (hQ tk h₁ he₁ hs₁)⟩
theorem next_keys_end {it : Addr} {i : Nat} {Q : Option Value → Shared → Prop} (hh : A.handled = none) (hit : h.get? it = some (keyIt x i kvs.length ep)) (I : DD w h x Cv dx kvs es ep) (hx : kvs.length ≤ i)
    (hQ : ∀ h', Heap.ExtBut it h h' → Q none ⟨h', g, d, t, os⟩) :
    wpAny (model P w) A (pyNext (.ref it)) Q E ⟨h, g, d, t, os⟩ := by
  have hT : (⟨h, g, d, t, os⟩ : Shared).TypeIs (.ref it) "dict_keyiterator" := ⟨_, hit, rfl⟩
  have hI := I.at_
  have hs := I.size
  have hown : Builtin.Dict_items.ownsTuple "dict_keyiterator" = false := by decide
  have L0 : Looks (model P w) h (typeOf (.ref it)) (.type "dict_keyiterator") := (Looks.ld hit).andThen .now
  have LN : Looks (model P w) h (typeNameOfWhole (.ref it)) "dict_keyiterator" := by
    unfold typeNameOfWhole shownTypeOf
    refine Looks.andThen (a := .type "dict_keyiterator") (L0.andThen (Looks.of_pure (by rfl))) (Looks.of_pure ?_)
    show typeName (.type "dict_keyiterator") = _
    unfold typeName; rw [find?_eq_fast]; kernel_rfl
  unfold pyNext
  refine wpAny_bind (wpAny_attempt (wpAny_callSpecial?_slot (name := Str.ofString "__next__") hT F.slot_dict_keyiterator_next
    (wpAny_call_entry F.slot_dict_keyiterator_next hT F.entry_dict_keyiterator_next ?_ (F.args_dict_keyiterator_next_1 _))))
  unfold Builtin.«dict_keyiterator.__next__»
  repeat (first | (with_reducible refine ite_no (by simp [hs]) ?_) | simp only [hown, Bool.false_eq_true, if_false] | lk)
  rw [if_neg (show ¬ ((i : Int) < 0) by omega), Int.toNat_natCast, Array.getElem?_eq_none (by rw [hs]; exact hx)]
  dsimp only
  repeat (first | simp only [hown, Bool.false_eq_true, if_false] | (with_reducible refine wpAny_setField hit rfl (by simp) (Held.out ?_)) | lk)
  refine Held.in ?_
  have sbh := Heap.SameBut.update (a := it) (h := h) (f := Obj.mapFields fun x => x.setIfInBounds 0 Value.none)
  generalize h.update it (Obj.mapFields fun x => x.setIfInBounds 0 Value.none) = h₁ at sbh ⊢
  refine wpAny_bind ?_
  unfold newExc newTuple
  refine wpAny_bind (wpAny_newObj_type ?_ (by size_fits))
  refine wpAny_bind (wpAny_of_eq (a := Value.none) (by first | rfl | (simp only [firstArgMember]; rfl)) (wpAny_newObj_type ?_ (by size_fits)))
  refine wpAny_raiseNew_none (A := A.in1) hh ?_
  refine wpAny_bind (wpAny_isInstance (T := "StopIteration") (b := true) ⟨_, Heap.get?_push_size _ rfl, rfl⟩ isSubtype_stop ?_)
  exact wpAny_pure (hQ _ ((sbh.extBut.push _).push _))
end
end Mine
end
section
open PySem PySem.W PySem.W.X PyProof.Rows PySem.Calls
set_option maxRecDepth 100000
set_option maxHeartbeats 400000
namespace Mine
def Give (all : List PyData) (z : Zone) (n : Nat) (s₀ : Shared) (v : Value) (s : Shared) (P : Shared → Prop) : Prop :=
  ∃ d, all[all.length - 1 - n]? = some d ∧ RdP (z.fr s₀.heap) s.heap v d ∧ Turn z s₀ s ∧ ∀ s'', Calm z s s'' → P s''
section
variable {w : World} {A : Around} {all : List PyData} {z : Zone} {fin : Result} {n : Nat} {s₀ s : Shared} {env : Env} {fs : List Frame} {c : Code}
theorem seg_emit {elt : Expr} {K' : Unit → Sem PySem.Fin} {H : Value → Sem PySem.Fin} (hco : env.scope.isCoroutine = false) (hfs : splitAtGen fs = none) (hfg : fs.any Frame.guarded = false)
    (h : wpAny (model P w) (A.over c fs) (eval elt env) (fun y s' => ∃ n', n = n' + 1 ∧ Give all z n' s₀ y s' fun s'' => Seg (model P w) A (Rg fin z) (Yg all z) n' s'' c (K' ()) fs s'') No s) :
    Seg (model P w) A (Rg fin z) (Yg all z) n s₀ c ((do let v ← eval elt env; standAt elt.pos; let _ ← yieldOut env v; pure () : Sem Unit).wrap K' H id id) fs s := by
  have hy : ∀ v, yieldOut env v = yieldValue v := fun v => by simp only [yieldOut, hco, Bool.false_eq_true, if_false]
  simp only [hy]
  rw [Sem.bind_eq_wrap', Sem.wrap_wrap]
  refine seg_wrap (wpAny_mono h (fun y s' h' => ?_) fun _ _ q => q.elim)
  obtain ⟨n', rfl, d, hd, rd, tn, kp⟩ := h'
  exact seg_at (seg_yield hfs rfl hfg ⟨d, hd, rd, tn, fun s'' cm => kp s'' cm⟩)
theorem seg_gen1 {elt target iter : Expr} {scope : Scope} {pos : Pos} {it : Value} (hco : env.scope.isCoroutine = false)
    (h : wpAny (model P w) (A.over (.compLoop (.GeneratorExp elt [⟨target, iter, [], 0⟩] scope pos) 0 it .none env) []) (pyNext it) (fun r s₁ => match r with
      | none => Rg fin z n s₀ (.ok .next) s₁
      | some v => wpAny (model P w) (A.over (.compLoop (.GeneratorExp elt [⟨target, iter, [], 0⟩] scope pos) 0 it .none env) []) (letOwnedTupleGo target it v) (fun _ s₂ =>
          wpAny (model P w) (A.over (.compLoop (.GeneratorExp elt [⟨target, iter, [], 0⟩] scope pos) 0 it .none env) []) (assign target env v) (fun _ s₃ =>
            wpAny (model P w) (A.over (.compLoop (.GeneratorExp elt [⟨target, iter, [], 0⟩] scope pos) 0 it .none env) []) (eval elt env) (fun y s₄ => ∃ n', n = n' + 1 ∧ Give all z n' s₀ y s₄ fun s'' =>
              Seg (model P w) A (Rg fin z) (Yg all z) n' s'' (.compLoop (.GeneratorExp elt [⟨target, iter, [], 0⟩] scope pos) 0 it .none env) (.pure (.again (.compLoop (.GeneratorExp elt [⟨target, iter, [], 0⟩] scope pos) 0 it .none env))) [] s'') No s₃) No s₂) No s₁) No s) :
    Seg (model P w) A (Rg fin z) (Yg all z) n s₀ (.compLoop (.GeneratorExp elt [⟨target, iter, [], 0⟩] scope pos) 0 it .none env) ((model P w).den (.compLoop (.GeneratorExp elt [⟨target, iter, [], 0⟩] scope pos) 0 it .none env)) [] s := by
  show Seg _ A _ _ _ s₀ _ ((compTurn (.GeneratorExp elt [⟨target, iter, [], 0⟩] scope pos) 0 it .none env).onRaise (leaving env)) [] s
  rw [compTurn_gen, Sem.onRaise_eq_wrap]
  rw [Sem.bind_eq_wrap', Sem.wrap_wrap]
  refine seg_wrap (wpAny_standAt ?_)
  rw [Sem.bind_eq_wrap', Sem.wrap_wrap]
  refine seg_wrap (wpAny_mono h (fun r s₁ h₁ => ?_) fun _ _ q => q.elim)
  cases r with
  | none => exact seg_end (.ok .next) h₁
  | some v =>
    dsimp only at h₁ ⊢
    rw [Sem.bind_eq_wrap', Sem.wrap_wrap]
    refine seg_wrap (wpAny_mono h₁ (fun _ s₂ h₂ => ?_) fun _ _ q => q.elim)
    rw [Sem.bind_eq_wrap', Sem.wrap_wrap]
    refine seg_wrap (wpAny_mono h₂ (fun _ s₃ h₃ => ?_) fun _ _ q => q.elim)
    rw [Sem.bind_eq_wrap', Sem.wrap_wrap]
    refine seg_wrap (wpAny_pure ?_)
    simp only [if_true]
    rw [Sem.bind_eq_wrap', Sem.wrap_wrap]
    exact seg_emit hco rfl rfl h₃
theorem seg_gen2in {elt t1 t2 i1 i2 : Expr} {scope : Scope} {pos : Pos} {it : Value} {k h g l c₁ p₁} (hco : env.scope.isCoroutine = false) (hfs : splitAtGen fs = none) (hg : g = false) (hfg : fs.any Frame.guarded = false)
    (q : wpAny (model P w) (A.over (.compLoop (.GeneratorExp elt [⟨t1, i1, [], 0⟩, ⟨t2, i2, [], 0⟩] scope pos) 1 it .none env) (.ret k h g l c₁ p₁ [] :: fs)) (pyNext it) (fun r s₁ => match r with
      | none => Seg (model P w) A (Rg fin z) (Yg all z) n s₀ c₁ (k (.ok .next)) fs s₁
      | some v => wpAny (model P w) (A.over (.compLoop (.GeneratorExp elt [⟨t1, i1, [], 0⟩, ⟨t2, i2, [], 0⟩] scope pos) 1 it .none env) (.ret k h g l c₁ p₁ [] :: fs)) (letOwnedTupleGo t2 it v) (fun _ s₂ =>
          wpAny (model P w) (A.over (.compLoop (.GeneratorExp elt [⟨t1, i1, [], 0⟩, ⟨t2, i2, [], 0⟩] scope pos) 1 it .none env) (.ret k h g l c₁ p₁ [] :: fs)) (assign t2 env v) (fun _ s₃ =>
            wpAny (model P w) (A.over (.compLoop (.GeneratorExp elt [⟨t1, i1, [], 0⟩, ⟨t2, i2, [], 0⟩] scope pos) 1 it .none env) (.ret k h g l c₁ p₁ [] :: fs)) (eval elt env) (fun y s₄ => ∃ n', n = n' + 1 ∧ Give all z n' s₀ y s₄ fun s'' =>
              Seg (model P w) A (Rg fin z) (Yg all z) n' s'' (.compLoop (.GeneratorExp elt [⟨t1, i1, [], 0⟩, ⟨t2, i2, [], 0⟩] scope pos) 1 it .none env) (.pure (.again (.compLoop (.GeneratorExp elt [⟨t1, i1, [], 0⟩, ⟨t2, i2, [], 0⟩] scope pos) 1 it .none env))) (.ret k h g l c₁ p₁ [] :: fs) s'') No s₃) No s₂) No s₁) No s) :
    Seg (model P w) A (Rg fin z) (Yg all z) n s₀ (.compLoop (.GeneratorExp elt [⟨t1, i1, [], 0⟩, ⟨t2, i2, [], 0⟩] scope pos) 1 it .none env) ((model P w).den (.compLoop (.GeneratorExp elt [⟨t1, i1, [], 0⟩, ⟨t2, i2, [], 0⟩] scope pos) 1 it .none env)) (.ret k h g l c₁ p₁ [] :: fs) s := by
  have e : compTurn (.GeneratorExp elt [⟨t1, i1, [], 0⟩, ⟨t2, i2, [], 0⟩] scope pos) 1 it .none env = (do
      standAt i2.pos
      match ← pyNext it with
      | none => pure (.done .next)
      | some v =>
        letOwnedTupleGo t2 it v
        assign t2 env v
        let mut ok := true
        for c in ([] : List Expr) do
          if ok then ok ← isTrue c env (eval c env)
        if ok then
          (do let v ← eval elt env; standAt elt.pos; let _ ← yieldOut env v)
        again (.compLoop (.GeneratorExp elt [⟨t1, i1, [], 0⟩, ⟨t2, i2, [], 0⟩] scope pos) 1 it .none env)) := by rfl
  show Seg _ A _ _ _ s₀ _ ((compTurn (.GeneratorExp elt [⟨t1, i1, [], 0⟩, ⟨t2, i2, [], 0⟩] scope pos) 1 it .none env).onRaise (fun x => do noteFrame x env; theTreesLotGoes x)) _ s
  rw [e, Sem.onRaise_eq_wrap]
  rw [Sem.bind_eq_wrap', Sem.wrap_wrap]
  refine seg_wrap (wpAny_standAt ?_)
  rw [Sem.bind_eq_wrap', Sem.wrap_wrap]
  refine seg_wrap (wpAny_mono q (fun r s₁ h₁ => ?_) fun _ _ q => q.elim)
  cases r with
  | none => exact seg_leaf (.ok .next) h₁
  | some v =>
    dsimp only at h₁ ⊢
    rw [Sem.bind_eq_wrap', Sem.wrap_wrap]
    refine seg_wrap (wpAny_mono h₁ (fun _ s₂ h₂ => ?_) fun _ _ q => q.elim)
    rw [Sem.bind_eq_wrap', Sem.wrap_wrap]
    refine seg_wrap (wpAny_mono h₂ (fun _ s₃ h₃ => ?_) fun _ _ q => q.elim)
    rw [Sem.bind_eq_wrap', Sem.wrap_wrap]
    refine seg_wrap (wpAny_pure ?_)
    simp only [if_true]
    rw [Sem.bind_eq_wrap', Sem.wrap_wrap]
    exact seg_emit hco (by simp only [splitAtGen, hfs, Option.map_none]) (by rw [List.any_cons, hfg, hg]; rfl) h₃
theorem seg_gen2 {elt t1 t2 i1 i2 : Expr} {scope : Scope} {pos : Pos} {it : Value} (hs : ∀ x, foldedSetIterable i2 env x = pure x)
    (q : wpAny (model P w) (A.over (.compLoop (.GeneratorExp elt [⟨t1, i1, [], 0⟩, ⟨t2, i2, [], 0⟩] scope pos) 0 it .none env) []) (pyNext it) (fun r s₁ => match r with
      | none => Rg fin z n s₀ (.ok .next) s₁
      | some v => wpAny (model P w) (A.over (.compLoop (.GeneratorExp elt [⟨t1, i1, [], 0⟩, ⟨t2, i2, [], 0⟩] scope pos) 0 it .none env) []) (letOwnedTupleGo t1 it v) (fun _ s₂ =>
          wpAny (model P w) (A.over (.compLoop (.GeneratorExp elt [⟨t1, i1, [], 0⟩, ⟨t2, i2, [], 0⟩] scope pos) 0 it .none env) []) (assign t1 env v) (fun _ s₃ =>
            wpAny (model P w) (A.over (.compLoop (.GeneratorExp elt [⟨t1, i1, [], 0⟩, ⟨t2, i2, [], 0⟩] scope pos) 0 it .none env) []) (eval i2 env) (fun x s₄ => wpAny (model P w) (A.over (.compLoop (.GeneratorExp elt [⟨t1, i1, [], 0⟩, ⟨t2, i2, [], 0⟩] scope pos) 0 it .none env) []) (pyIter x) (fun it2 s₅ =>
              ∀ (k : Result → Sem PySem.Fin) p, k (.ok .next) = .pure (.again (.compLoop (.GeneratorExp elt [⟨t1, i1, [], 0⟩, ⟨t2, i2, [], 0⟩] scope pos) 0 it .none env)) →
                Seg (model P w) A (Rg fin z) (Yg all z) n s₀ (.compStart (.GeneratorExp elt [⟨t1, i1, [], 0⟩, ⟨t2, i2, [], 0⟩] scope pos) 1 it2 .none env) ((model P w).den (.compStart (.GeneratorExp elt [⟨t1, i1, [], 0⟩, ⟨t2, i2, [], 0⟩] scope pos) 1 it2 .none env))
                  [.ret k none false [] (.compLoop (.GeneratorExp elt [⟨t1, i1, [], 0⟩, ⟨t2, i2, [], 0⟩] scope pos) 0 it .none env) p []] s₅) No s₄) No s₃) No s₂) No s₁) No s) :
    Seg (model P w) A (Rg fin z) (Yg all z) n s₀ (.compLoop (.GeneratorExp elt [⟨t1, i1, [], 0⟩, ⟨t2, i2, [], 0⟩] scope pos) 0 it .none env) ((model P w).den (.compLoop (.GeneratorExp elt [⟨t1, i1, [], 0⟩, ⟨t2, i2, [], 0⟩] scope pos) 0 it .none env)) [] s := by
  have e : compTurn (.GeneratorExp elt [⟨t1, i1, [], 0⟩, ⟨t2, i2, [], 0⟩] scope pos) 0 it .none env = (do
      standAt i1.pos
      match ← pyNext it with
      | none => pure (.done .next)
      | some v =>
        letOwnedTupleGo t1 it v
        assign t1 env v
        let mut ok := true
        for c in ([] : List Expr) do
          if ok then ok ← isTrue c env (eval c env)
        if ok then
          let x ← eval i2 env
          standAt i2.pos
          let x ← foldedSetIterable i2 env x
          let _ ← runOwn (.compStart (.GeneratorExp elt [⟨t1, i1, [], 0⟩, ⟨t2, i2, [], 0⟩] scope pos) 1 (← holding [x] (pyIter x)) .none env) env
        again (.compLoop (.GeneratorExp elt [⟨t1, i1, [], 0⟩, ⟨t2, i2, [], 0⟩] scope pos) 0 it .none env)) := by rfl
  show Seg _ A _ _ _ s₀ _ ((compTurn (.GeneratorExp elt [⟨t1, i1, [], 0⟩, ⟨t2, i2, [], 0⟩] scope pos) 0 it .none env).onRaise (leaving env)) [] s
  rw [e, Sem.onRaise_eq_wrap]
  rw [Sem.bind_eq_wrap', Sem.wrap_wrap]
  refine seg_wrap (wpAny_standAt ?_)
  rw [Sem.bind_eq_wrap', Sem.wrap_wrap]
  refine seg_wrap (wpAny_mono q (fun r s₁ h₁ => ?_) fun _ _ q => q.elim)
  cases r with
  | none => exact seg_end (.ok .next) h₁
  | some v =>
    dsimp only at h₁ ⊢
    rw [Sem.bind_eq_wrap', Sem.wrap_wrap]
    refine seg_wrap (wpAny_mono h₁ (fun _ s₂ h₂ => ?_) fun _ _ q => q.elim)
    rw [Sem.bind_eq_wrap', Sem.wrap_wrap]
    refine seg_wrap (wpAny_mono h₂ (fun _ s₃ h₃ => ?_) fun _ _ q => q.elim)
    rw [Sem.bind_eq_wrap', Sem.wrap_wrap]
    refine seg_wrap (wpAny_pure ?_)
    simp only [if_true]
    rw [Sem.bind_eq_wrap', Sem.wrap_wrap]
    refine seg_wrap (wpAny_mono h₃ (fun x s₄ h₄ => ?_) fun _ _ q => q.elim)
    rw [Sem.bind_eq_wrap', Sem.wrap_wrap]
    refine seg_wrap (wpAny_standAt ?_)
    rw [hs x, Sem.bind_eq_wrap', Sem.wrap_wrap]
    refine seg_wrap (wpAny_pure ?_)
    rw [Sem.bind_eq_wrap', Sem.wrap_wrap]
    refine seg_wrap (wpAny_holding (wpAny_mono h₄ (fun it2 s₅ h₅ => ?_) fun _ _ q => q.elim))
    exact seg_call (fun p => h₅ _ p rfl)
theorem seg_start {elt : Expr} {gens : List Comprehension} {scope : Scope} {pos : Pos} {it : Value} {d : Nat} {hd : Value → Sem Unit} {g0 : Comprehension}
    (hden : (model P w).den (.compStart (.GeneratorExp elt gens scope pos) d it .none env) = (compStart (.GeneratorExp elt gens scope pos) d it .none env).onRaise hd) (hg : gens[d]? = some g0) (hna : (g0.is_async != 0) = false)
    (hi : ∀ Q : Value → Shared → Prop, Q it s → wpAny (model P w) (A.over (.compStart (.GeneratorExp elt gens scope pos) d it .none env) fs) (pyIter it) Q No s)
    (q : Seg (model P w) A (Rg fin z) (Yg all z) n s₀ (.compLoop (.GeneratorExp elt gens scope pos) d it .none env) ((model P w).den (.compLoop (.GeneratorExp elt gens scope pos) d it .none env)) fs s) :
    Seg (model P w) A (Rg fin z) (Yg all z) n s₀ (.compStart (.GeneratorExp elt gens scope pos) d it .none env) ((model P w).den (.compStart (.GeneratorExp elt gens scope pos) d it .none env)) fs s := by
  rw [hden]
  unfold compStart
  rw [Sem.onRaise_eq_wrap]
  have hc : (clausesOf (.GeneratorExp elt gens scope pos))[d]? = some g0 := hg
  simp only [hc, Option.elim_some, hna, Bool.false_eq_true, if_false]
  rw [Sem.bind_eq_wrap', Sem.wrap_wrap]
  refine seg_wrap (wpAny_askSetting ?_)
  split
  · exact seg_again rfl q
  · rw [Sem.bind_eq_wrap', Sem.wrap_wrap]
    refine seg_wrap (wpAny_rule ?_)
    rw [Sem.bind_eq_wrap', Sem.wrap_wrap]
    refine seg_wrap (wpAny_standAt ?_)
    rw [Sem.bind_eq_wrap', Sem.wrap_wrap]
    refine seg_wrap (wpAny_mono (hi (fun v s' => v = it ∧ s' = s) ⟨rfl, rfl⟩) (fun v s' e => ?_) fun _ _ q => q.elim)
    obtain ⟨rfl, rfl⟩ := e
    exact seg_again rfl q
end
def codeTab (o : Obj) (a : Addr) : Bool := match o.cls, o.data with
  | .type n, .fields vs => n == "code" && vs[11]? == some (.ref a) && (match vs.getD 18 .none with | .str .. => true | _ => false) && (match vs.getD 7 .none with | .int .. => true | _ => false) && (match vs.getD 9 .none with | .bool _ => true | _ => false) && (match vs.getD 10 .none with | .int .. => true | _ => false)
  | _, _ => false
section
variable {w : World} {A : Around} {E : Value → Shared → Prop} {s : Shared} {env : Env}
theorem eval_genexp (elt target iter : Expr) (more : List Comprehension) (scope : Scope) (pos : Pos) (hco : scope.isCoroutine = false) (hs : ∀ x, genexprIterable false (⟨target, iter, [], 0⟩ :: more) env x = pure x) :
    eval (.GeneratorExp elt (⟨target, iter, [], 0⟩ :: more) scope pos) env = (do
      let x ← eval iter env
      standAt iter.pos
      let it ← holding [x] (pyIter x)
      enterFrame
      let cl ← closureFor scope env
      let code ← genexprCode env pos (env.qual ++ "<genexpr>") scope
      let bi ← builtinsFor env.globals env.builtins
      let cenv ← newFunctionEnv scope env.globals cl [(".0", it)] (env.qual ++ "<genexpr>.") none code none bi
      newGenerator (.compStart (.GeneratorExp elt (⟨target, iter, [], 0⟩ :: more) scope pos) 0 it .none cenv) "<genexpr>" (env.qual ++ "<genexpr>")) := by
  rw [arm_eval_GeneratorExp]
  simp only [hco, Bool.false_eq_true, if_false]
  show (do
      let x ← eval iter env
      standAt iter.pos
      let x ← genexprIterable false (⟨target, iter, [], 0⟩ :: more) env x
      let it ← holding [x] (pyIter x)
      enterFrame
      let cl ← closureFor scope env
      let code ← genexprCode env pos (env.qual ++ "<genexpr>") scope
      let bi ← builtinsFor env.globals env.builtins
      let cenv ← newFunctionEnv scope env.globals cl [(".0", it)] (env.qual ++ "<genexpr>.") none code none bi
      newGenerator (.compStart (.GeneratorExp elt (⟨target, iter, [], 0⟩ :: more) scope pos) 0 it .none cenv) "<genexpr>" (env.qual ++ "<genexpr>")) = _
  simp only [hs]
  rfl
theorem TopH.code {h : Heap} (T : TopH w h) {c a : Addr} (ha : a ∈ tabs) {oc : Obj} (ho : (KK w).lookup c = some oc) (hok : codeTab oc a = true) : ∃ ps, h.TableAt c a ps ∧ h.IsCode c a ps := by
  obtain ⟨ps, e, k⟩ := T.tab a ha
  have ec := T.K _ _ ho
  have hca : c ≠ a := fun q => (keys_low w c oc ho).2 (q ▸ ha)
  unfold codeTab at hok
  split at hok
  · rename_i n vs hcl hd
    simp only [Bool.and_eq_true, beq_iff_eq] at hok
    obtain ⟨⟨⟨⟨⟨h1, h2⟩, h3⟩, h4⟩, h5⟩, h6⟩ := hok
    subst h1
    have h11 : vs.getD 11 .none = .ref a := by rw [Array.getD_eq_getD_getElem?, h2]; rfl
    split at h3
    · rename_i f tf h18
      split at h4
      · rename_i fl tg h7
        split at h5
        · rename_i inF h9
          split at h6
          · rename_i tx tt h10
            exact ⟨ps, ⟨⟨oc, vs, ec, hcl, hd, h2⟩, e⟩, oc, vs, f, tf, fl, tg, inF, tx, tt, _, ec, hd, h11, h18, h7, h9, h10, e, rfl, k, hca⟩
          · cases h6
        · cases h5
      · cases h4
    · cases h3
  · cases hok
theorem genexp_code {c a : Addr} {pos : Pos} {qualname : Str} {scope : Scope} {Q : Value → Shared → Prop} (T : TopH w s.heap) (hc : env.code = .ref c) (ha : a ∈ tabs) {oc : Obj} (ho : (KK w).lookup c = some oc) (hok : codeTab oc a = true)
    (h : ∀ code h' tk, Ext [] s.heap h' → s.heap.objs.size ≤ h'.objs.size → Q code { s with heap := h', toks := tk }) : wpAny (model P w) A (genexprCode env pos qualname scope) Q E s := by
  obtain ⟨ps, ht, hi⟩ := T.code ha ho hok
  cases hf : codeAmong pos ps.toList with
  | some c' => exact wpAny_genexprCode_hit hc hi hf (h c' s.heap s.toks (.refl _) (Nat.le_refl _))
  | none =>
    refine wpAny_genexprCodeX hc hi ht hf fun c' h' tk he hc1 hc2 hi' _ ht' _ => h _ _ _ ⟨fun b o e n => ?_, fun b o e => ?_⟩ (by omega)
    · by_cases q : b = a
      · subst q
        refine .inr ⟨ha, ps, _, Option.some.inj (e.symm.trans ht.2), ht'.2, fun _ => ?_⟩
        obtain ⟨_, _, _, _, _, _, _, _, _, op, _, _, _, _, _, _, _, ho', hd', k, _⟩ := hi'
        exact k
      · exact .inl (he b o q e)
    · by_cases q : b = a
      · subst q; exact ⟨_, ht'.2⟩
      · exact ⟨o, he b o q e⟩
theorem gl_bi : nsIn (KK w) mainGlobals "__builtins__" = some (some (.ref 4)) := by kernel_rfl
theorem genexp_make {elt target iter : Expr} {more : List Comprehension} {scope : Scope} {pos : Pos} {Q : Value → Shared → Prop} {c a : Addr} {oc : Obj} (hroom : A.depth < recursionLimit) (hco : scope.isCoroutine = false) (hclos : closureFor scope env = pure []) (hcell : ∀ y ∈ scope.names, y.2 ≠ .cell)
    (h0 : scope.names.lookup (".0" : Str) = some NameKind.local) (hkind : scope.kind = .function) (hc : env.code = .ref c) (ha : a ∈ tabs) (ho : (KK w).lookup c = some oc) (hok : codeTab oc a = true) (hbi : env.builtins = builtinsNs) (hgl : env.globals = mainGlobals)
    (h : wpAny (model P w) A (eval iter env) (fun xv s₁ => wpAny (model P w) A (pyIter xv) (fun it s₂ => TopH w s₂.heap ∧
      ∀ code h' tk L, Ext [] s₂.heap h' → h'.Ns L (fun y => if y = ".0" then some it else none) → s₂.heap.objs.size ≤ L → h'.IsGen (L + 1) s₂.gens.size → s₂.heap.get? L = none → (∀ o, h'.get? (L + 1) = some o → o.dict = none) →
        Q (.ref (L + 1)) ⟨h', s₂.gens.push (.fresh (.compStart (.GeneratorExp elt (⟨target, iter, [], 0⟩ :: more) scope pos) 0 it .none (genEnv scope [] L code builtinsNs env))), s₂.drawn, tk, s₂.os⟩) E s₁) E s)
    (hs : ∀ x, genexprIterable false (⟨target, iter, [], 0⟩ :: more) env x = pure x := by intro _; rfl) :
    wpAny (model P w) A (eval (.GeneratorExp elt (⟨target, iter, [], 0⟩ :: more) scope pos) env) Q E s := by
  rw [eval_genexp _ _ _ _ _ _ hco hs, hclos]
  refine wpAny_bind (wpAny_mono h (fun xv s₁ h₁ => ?_) fun _ _ q => q)
  refine wpAny_bind (wpAny_standAt ?_)
  refine wpAny_bind (wpAny_holding (wpAny_mono h₁ (fun it s₂ h₂ => ?_) fun _ _ q => q))
  obtain ⟨T, h₂⟩ := h₂
  refine wpAny_bind (wpAny_enterFrame T.lim hroom ?_)
  refine wpAny_bind (wpAny_pure ?_)
  refine wpAny_bind (genexp_code T hc ha ho hok fun code h' tk e hle => ?_)
  have T' : TopH w h' := T.ext e (by simp)
  obtain ⟨mg, ng⟩ := T'.g
  obtain ⟨ob, eb, cb, db, dab⟩ := T'.bi
  rw [hgl]
  refine wpAny_bind (wpAny_builtinsFor ng (mg_of T'.K ng gl_bi) (by decide) eb cb db dab ?_)
  have hbinds : ∀ y ∈ ([((".0" : Str), it)] : List (Str × Value)), scope.names.lookup y.1 = some NameKind.local := by
    intro y hy
    rw [List.mem_singleton.mp hy]; exact h0
  refine wpAny_bind (wpAny_newFunctionEnv hcell hbinds (fun h3 hn3 hs3 => ?_) hkind)
  have e0 : (fun y : Str => ([((".0" : Str), it)] : List (Str × Value)).reverse.lookup y) = fun y : Str => if y = (".0" : Str) then some it else none := by
    funext y
    by_cases hy : y = ".0"
    · subst hy; simp
    · have : (y == (".0" : Str)) = false := by simpa using hy
      simp [List.lookup, this, hy]
  rw [e0] at hn3
  dsimp only at hn3 hs3 ⊢
  have k3 : Keep h' h3 := fun b o e => hs3.extBut b o (Nat.ne_of_lt (Heap.lt_size e)) (Heap.get?_push_of_some _ e)
  have hsz : h3.objs.size = h'.objs.size + 1 := by rw [hs3.1, Heap.size_push]
  simp only [newGenerator, newFields]
  refine wpAny_bind (wpAny_newGen (wpAny_bind (wpAny_mkText (wpAny_bind (wpAny_mkText (wpAny_newObj_type ?_ (by size_fits)))))))
  dsimp only
  rw [hsz]
  have h₃ := fun h' tk => h₂ code h' tk
  unfold genEnv at h₃
  rw [hgl] at h₃
  refine h₃ _ _ h'.objs.size ((e.trans (.of_keeps k3) (by simp)).trans (.push _ _) (by simp)) (hn3.push _) hle ?_ (Heap.get?_none_of_le hle) (fun o q => ?_)
  · exact ⟨_, _, _, by rw [← hsz]; exact Heap.get?_push_size _ rfl, rfl, rfl, rfl⟩
  · rw [← hsz, Heap.get?_push_size _ rfl] at q; cases q; rfl
end
end Mine
end
section
open PySem PySem.W PySem.W.X PyProof.Rows PySem.Calls
set_option maxRecDepth 100000
set_option maxHeartbeats 800000
namespace Mine
def byText (w : World) : Bool := w.params.followText "set-order"
def SetL (w : World) (h : Heap) (a : Addr) (S : Str → Bool) (n : Nat) : Prop :=
  ∃ o es ep t, h.get? a = some o ∧ o.ExactSet ∧ o.data = .set es ep t ∧ ElemsOf (KD w) es.toList ∧ (∀ k, S k = true ↔ ∃ e ∈ es.toList, (KD w).is k e.2 = true)
    ∧ es.size < scanBound ∧ t.fits es.size = true ∧ es.size = n ∧ (byText w = false → t.led = true) ∧ (0 < es.size → t.plain = false)
section
variable {w : World} {A : Around} {E : Value → Shared → Prop} {s : Shared} {h h' : Heap} {a : Addr} {S S' : Str → Bool} {n n' : Nat}
theorem SetL.of (x : SetL w h a S n) : h.SetOf (KD w) a S n := by
  obtain ⟨o, es, ep, t, h1, h2, h3, h4, h5, h6, h7, h8, _⟩ := x
  exact ⟨o, es, ep, t, h1, h2, h3, h4, h5, h6, h7, h8⟩
theorem SetL.at (x : SetL w h a S n) (k : ∀ o, h.get? a = some o → o.cls = .type "set" → (∀ es n, o.data ≠ .dict es n) → h'.get? a = some o) : SetL w h' a S n := by
  obtain ⟨o, es, ep, t, h1, h2, h3, r⟩ := x
  exact ⟨o, es, ep, t, k o h1 h2.1 (fun _ _ q => by rw [h3] at q; cases q), h2, h3, r⟩
theorem SetL.congr (x : SetL w h a S n) (e : ∀ k, S k = S' k) (en : n = n') : SetL w h a S' n' := by
  have : S = S' := funext e
  subst this; subst en; exact x
theorem SetL.obj (x : SetL w h a S n) : ∃ o, h.get? a = some o ∧ o.cls = .type "set" ∧ ∀ es n, o.data ≠ .dict es n := by
  obtain ⟨o, es, ep, t, ho, hx, hd, r⟩ := x
  exact ⟨o, ho, hx.1, fun _ _ q => by rw [hd] at q; cases q⟩
theorem layNew_led (t : SetTable) (es : Array (Int × Value)) (k : Int) (x : Value) : (layNew t es k x).2.1.led = t.led ∧ (t.plain = false → (layNew t es k x).2.1.plain = false) := by
  unfold layNew
  split
  · rename_i slot wd _
    have e : ∀ n, (((t.put slot).1).orStandIn n).led = t.led ∧ (t.plain = false → (((t.put slot).1).orStandIn n).plain = false) := by
      intro n
      unfold SetTable.orStandIn
      split
      · exact ⟨rfl, id⟩
      · exact ⟨rfl, fun _ => rfl⟩
    exact e _
  · exact ⟨rfl, fun _ => rfl⟩
theorem relayAll_led (t : SetTable) (es : Array (Int × Value)) (m : Nat) : (relayAll t es m).2.1.led = t.led ∧ (t.plain = false → (relayAll t es m).2.1.plain = false) := by
  unfold relayAll
  split
  · rename_i t' order e
    have e' : t'.led = t.led ∧ t'.plain = t.plain := by
      unfold SetTable.relaid SetTable.laid at e
      simp only [Option.bind_eq_bind, Option.bind_eq_some_iff, Option.pure_def, Option.some.injEq, Prod.mk.injEq] at e
      obtain ⟨_, _, rfl, _⟩ := e
      exact ⟨rfl, rfl⟩
    dsimp only
    split
    · exact ⟨e'.1, fun q => e'.2.trans q⟩
    · exact ⟨rfl, fun _ => rfl⟩
  · exact ⟨rfl, fun _ => rfl⟩
theorem SetL_store {o : Obj} {es : Array (Int × Value)} {ep : Nat} {t : SetTable} (ho : h.get? a = some o) (hex : o.ExactSet) (hd : o.data = .set es ep t)
    {es' : Array (Int × Value)} {t' : SetTable} (hel : ElemsOf (KD w) es'.toList) (hmem : ∀ k, S' k = true ↔ ∃ e ∈ es'.toList, (KD w).is k e.2 = true) (hb : es'.size < scanBound) (hf : t'.fits es'.size = true) (hl : byText w = false → t'.led = true) (hp : t'.plain = false) :
    (h.update a (Obj.putSet es' t')).get? a = some { o with data := .set es' (ep + 1) t' } ∧ SetL w (h.update a (Obj.putSet es' t')) a S' es'.size := by
  obtain ⟨hg, _⟩ := SetOf_store (knd := KD w) ho hex hd hel hmem hb hf
  exact ⟨hg, _, es', ep + 1, t', hg, hex, rfl, hel, hmem, hb, hf, rfl, hl, fun _ => hp⟩
theorem addTailL {g : Bool → Sem Unit} (hg : ∀ (b : Bool) (s₁ : Shared) (Q' : Unit → Shared → Prop), Q' () s₁ → wpAny (model P w) A (g b) Q' E s₁)
    {o : Obj} {es : Array (Int × Value)} {ep : Nat} {t : SetTable} (ho : s.heap.get? a = some o) (hex : o.ExactSet) (hd : o.data = .set es ep t)
    {es1 : Array (Int × Value)} {t2 : SetTable} (hel1 : ElemsOf (KD w) es1.toList) (hmem1 : ∀ k', S' k' = true ↔ ∃ e ∈ es1.toList, (KD w).is k' e.2 = true)
    (hb1 : es1.size < scanBound) (hf2 : t2.fits es1.size = true) (hl : byText w = false → t2.led = true) (hpl : t2.plain = false) {wasDummy : Bool} {R : Option Bool → Shared → Prop}
    (h : ∀ h', Heap.SameBut a s.heap h' → SetL w h' a S' es1.size → R (some true) { s with heap := h' }) :
    wpAny (model P w) A (do
        storeSet a es1 t2
        if (!wasDummy && t2.tooFull) = true then do
            g (relayAll t2 es1 (SetTable.grown es1.size)).2.2
            storeSet a (relayAll t2 es1 (SetTable.grown es1.size)).1 (relayAll t2 es1 (SetTable.grown es1.size)).2.1
            pure (some true)
          else pure (some true)) R E s := by
  refine wpAny_bind (wpAny_storeSet_of ho hd ?_ (fits_of_scanBound hb1))
  obtain ⟨ho1, hS1⟩ := SetL_store ho hex hd hel1 hmem1 hb1 hf2 hl hpl
  have hsb1 := Heap.SameBut.update s.heap a (Obj.putSet es1 t2)
  split
  ·
    have hp := relayAll_perm t2 es1 (SetTable.grown es1.size)
    have hfr := relayAll_fits t2 es1 (SetTable.grown es1.size)
    have hlr := relayAll_led t2 es1 (SetTable.grown es1.size)
    generalize hRl : relayAll t2 es1 (SetTable.grown es1.size) = Rl at hp hfr hlr ⊢
    obtain ⟨es2, t3, gave2⟩ := Rl
    dsimp only at hp hfr hlr ⊢
    have hel2 : ElemsOf (KD w) es2.toList := hel1.perm hp
    have hmem2 : ∀ k', S' k' = true ↔ ∃ e ∈ es2.toList, (KD w).is k' e.2 = true := fun k' => (hmem1 k').trans ⟨fun ⟨e, he, q⟩ => ⟨e, hp.mem_iff.mpr he, q⟩, fun ⟨e, he, q⟩ => ⟨e, hp.mem_iff.mp he, q⟩⟩
    have hsz : es2.size = es1.size := by rw [← Array.length_toList, hp.length_eq, Array.length_toList]
    have hb2 : es2.size < scanBound := by rw [hsz]; exact hb1
    refine wpAny_bind (hg _ _ _ ?_)
    refine wpAny_bind (wpAny_storeSet_of ho1 rfl ?_ (fits_of_scanBound hb2))
    obtain ⟨_, hS2⟩ := SetL_store (w := w) ho1 hex rfl hel2 hmem2 hb2 hfr (fun q => hlr.1.trans (hl q)) (hlr.2 hpl)
    rw [hsz] at hS2
    exact wpAny_pure (h _ (hsb1.trans (Heap.SameBut.update _ a _)) hS2)
  · exact wpAny_pure (h _ hsb1 hS1)
theorem setAddL {k : Str} {tk : Tok} {Q : Bool → Shared → Prop} (hS : SetL w s.heap a S n) (hroom : n + 1 < scanBound)
    (h : ∀ h', Heap.SameBut a s.heap h' → SetL w h' a (fun k' => S k' || decide (k' = k)) (if S k then n else n + 1) → Q (!S k) { s with heap := h' }) :
    wpAny (model P w) A (setAddHashed a (.str k tk) ((KD w).hash k)) Q E s := by
  have hkey := kd_is w k tk
  have hsc : (Value.str k tk).scannable = true := rfl
  obtain ⟨o, es, ep, t, ho, hex, hd, hel, hmem, hb, hf, hn, hl, hpl⟩ := hS
  have hb1 : es.size + 1 < scanBound := by rw [hn]; exact hroom
  unfold setAddHashed setAddHashedIn
  refine wpAny_holding (wpAny_bind (wpAny_setState_of ho hd hf ?_))
  dsimp only
  rw [byScan_of hsc hb hel]
  simp only [↓reduceIte]
  unfold setAddByScan
  refine wpAny_bind ?_
  refine wpAny_bind (wpAny_rule ?_)
  refine wpAny_bind (wpAny_setScan_of hkey ho hd hf hel ?_)
  cases hr : List.findIdx? (fun e => (KD w).is k e.2) es.toList with
  | some j =>
    dsimp only
    obtain ⟨hj, hpj, _⟩ := List.findIdx?_eq_some_iff_getElem.mp hr
    have hSk : S k = true := (hmem k).mpr ⟨es.toList[j], List.getElem_mem hj, hpj⟩
    refine wpAny_pure (wpAny_pure ?_)
    have e : s = { s with heap := s.heap } := by cases s; rfl
    have := h s.heap (Heap.SameBut.refl a s.heap) ⟨o, es, ep, t, ho, hex, hd, hel, fun k' => by
      rw [Bool.or_eq_true, decide_eq_true_eq, ← hmem k']
      exact ⟨fun hk => hk.elim id (fun e => e ▸ hSk), .inl⟩, hb, hf, by rw [hSk]; exact hn, hl, hpl⟩
    rw [hSk] at this; rw [e]; exact this
  | none =>
    dsimp only
    have hSk : S k = false := by
      cases hk : S k with
      | false => rfl
      | true => obtain ⟨e, he, hp⟩ := (hmem k).mp hk; have := List.findIdx?_eq_none_iff.mp hr e he; rw [hp] at this; exact Bool.noConfusion this
    have hgw : ∀ (b : Bool) {s₁ : Shared} {Q' : Unit → Shared → Prop}, Q' () s₁ → wpAny (model P w) A (match b with | true => rule "set.scan.the-table-gave-way" | false => pure ()) Q' E s₁ :=
      fun b s₁ Q' hq => by cases b <;> first | exact wpAny_pure hq | exact wpAny_rule hq
    have hperm := layNew_perm t es ((KD w).hash k) (.str k tk)
    have hfits := layNew_fits t es ((KD w).hash k) (.str k tk)
    have hled := layNew_led t es ((KD w).hash k) (.str k tk)
    generalize hL : layNew t es ((KD w).hash k) (.str k tk) = L at hperm hfits hled ⊢
    obtain ⟨es1, t1, wasDummy, gave⟩ := L
    dsimp only at hperm hfits hled ⊢
    rw [Array.toList_push] at hperm
    have hel1 : ElemsOf (KD w) es1.toList := (hel.push hkey hsc).perm hperm
    have hmem1 : ∀ k', (S k' || decide (k' = k)) = true ↔ ∃ e ∈ es1.toList, (KD w).is k' e.2 = true := mem_push_iff hkey hmem hperm
    have hb1' : es1.size < scanBound := by rw [← Array.length_toList, hperm.length_eq, List.length_append, Array.length_toList]; simpa using hb1
    refine wpAny_bind (hgw _ ?_)
    have hsz1 : es1.size = n + 1 := by rw [← Array.length_toList, hperm.length_eq, List.length_append, Array.length_toList, hn]; rfl
    have hend : ∀ h', Heap.SameBut a s.heap h' → SetL w h' a (fun k' => S k' || decide (k' = k)) es1.size → Q true { s with heap := h' } := by
      intro h' hsb hS'; have := h h' hsb; rw [hSk] at this; rw [hsz1] at hS'; exact this hS'
    split
    · refine wpAny_bind ?_
      rw [hashByValue_scannable 8 hsc]
      refine wpAny_pure ?_
      refine addTailL ?_ ho hex hd hel1 hmem1 hb1' ?_ ?_ ?_ ?_
      · intro b s₁ Q' hq; cases b <;> first | exact wpAny_pure hq | exact wpAny_rule hq
      · exact SetTable.fits_plain_off hfits
      · exact fun q => hled.1.trans (hl q)
      · rfl
      · intro h' hsb hS'; dsimp only; exact wpAny_pure (hend h' hsb hS')
    · rename_i np
      refine wpAny_bind (wpAny_pure ?_)
      simp only [↓reduceIte]
      refine addTailL ?_ ho hex hd hel1 hmem1 hb1' hfits (fun q => hled.1.trans (hl q)) (by simpa using np) ?_
      · intro b s₁ Q' hq; cases b <;> first | exact wpAny_pure hq | exact wpAny_rule hq
      · intro h' hsb hS'; dsimp only; exact wpAny_pure (hend h' hsb hS')
theorem setL_fresh (w : World) (hS : h.get? a = some { cls := .type "set", dict := none, data := .set #[] 0 (.fresh 0 0 (!byText w)) }) : SetL w h a (fun _ => false) 0 :=
  ⟨_, #[], 0, .fresh 0 0 (!byText w), hS, ⟨rfl, rfl, rfl⟩, rfl, (fun e he => by simp at he), (fun k => by simp), (by unfold scanBound; decide), rfl, rfl, (fun q => by rw [q]; rfl), (fun q => absurd q (by decide))⟩
theorem set_new_1 (x : Value) {Q₁ : Value → Shared → Prop}
    (h : Q₁ (.ref s.heap.objs.size) { s with heap := s.heap.push { cls := .type "set", dict := none, data := .set #[] 0 (.fresh 0 0 (!byText w)) } }) :
    codeAny (model P w) A (.call (.builtin "set.__new__") ⟨[.type "set", x], []⟩) (wants Q₁ E) s := by
  refine codeAny_of_tree ?_
  show wpAny _ A.in1 (do checkBuiltinCall "set.__new__" ⟨[.type "set", x], []⟩; again (.builtin "set.__new__" ⟨[.type "set", x], []⟩)) _ _ s
  refine wpAny_bind (wpAny_of_eq (F.newCall_set_1 x) (wpAny_pure ⟨plainId_quiet F.plain_set_new _, codeAny_builtin F.entry_set_new ?_⟩))
  rw [Around.under_plainId F.plain_set_new _]
  unfold Builtin.«set.__new__» Builtin.Frozenset.newClass
  have hsub := sub_set_self
  obtain ⟨hp, g, d, tk, os⟩ := s
  dsimp only
  wp_walk
  refine wpAny_askSetting (wpAny_pure ?_)
  dsimp only
  simp only [newObj]
  refine wpAny_bind (wpAny_alloc (wpAny_pure ?_))
  exact wpAny_pure h
end
end Mine
end
section
open PySem PySem.W PySem.W.X PyProof.Rows PySem.Calls
set_option maxRecDepth 100000
set_option maxHeartbeats 800000
namespace Mine
def addK (l : List Str) (k : Str) : List Str := if k ∈ l then l else l ++ [k]
def distinct (ks : List Str) : List Str := ks.foldl addK []
theorem addK_mem (l : List Str) (k k' : Str) : k' ∈ addK l k ↔ k' ∈ l ∨ k' = k := by
  unfold addK; split
  · rename_i h; exact ⟨.inl, fun q => q.elim id fun e => e ▸ h⟩
  · simp
theorem distinct_mem (ks : List Str) (k : Str) : k ∈ distinct ks ↔ k ∈ ks := by
  have key : ∀ (ks l : List Str), k ∈ ks.foldl addK l ↔ k ∈ l ∨ k ∈ ks := by
    intro ks
    induction ks with
    | nil => intro l; simp
    | cons a ks ih => intro l; rw [List.foldl_cons, ih, addK_mem, List.mem_cons, or_assoc]
  unfold distinct
  rw [key]; simp
theorem addK_len (l : List Str) (k : Str) : (addK l k).length = if k ∈ l then l.length else l.length + 1 := by unfold addK; split <;> simp
theorem distinct_le (ks : List Str) : (distinct ks).length ≤ ks.length := by
  have key : ∀ (ks l : List Str), (ks.foldl addK l).length ≤ l.length + ks.length := by
    intro ks
    induction ks with
    | nil => intro l; simp
    | cons a ks ih => intro l; rw [List.foldl_cons, List.length_cons]; have := ih (addK l a); rw [addK_len] at this; split at this <;> omega
  simpa [distinct] using key ks []
section
variable {w : World} {A : Around} {E : Value → Shared → Prop} {z : Zone} {fin : Result} {a S : Addr} {ks : List Str} {R : Result → Shared → Prop}
theorem set_loop (hh : A.handled = none) (hA : Rm 500 A) (hfin : fin = .ok (.ret .none) ∨ fin = .ok .next) (hz : ks.length ≤ 1000) (hC : z.C = [S]) :
    ∀ (m j : Nat) (s : Shared), m + j = ks.length → Feed w A.in1 z fin a (ks.map .str) j s → SetL w s.heap S (fun k => decide (k ∈ distinct (ks.take j))) (distinct (ks.take j)).length →
    (∀ s', TookS z S s s' → SetL w s'.heap S (fun k => decide (k ∈ distinct ks)) (distinct ks).length → R (.ok (.ret .none)) s') →
    codeAny (model P w) A (.builtin "set.update.loop" ⟨[.ref S, .ref a], []⟩) R s := by
  have sC : S ∈ z.C := by rw [hC]; exact .head _
  intro m
  induction m with
  | zero =>
    intro j s hm Fe hS hR
    have hj : j = ks.length := by omega
    have hCs : Cs z s.heap := fun c q => by rw [hC, List.mem_singleton] at q; obtain ⟨o, e, _⟩ := SetL.obj hS; exact ⟨o, q ▸ e⟩
    refine codeAny_builtin F.entry_set_update_loop ?_
    rw [Around.under_plainId F.plain_set_update_loop]
    unfold Builtin.«set.update.loop»
    refine wpAny_bind (Fe.stop hCs hh (hA.in1.dlt) hfin (by rw [List.length_map]; exact hj) (fun s' wk => ?_))
    refine wpAny_pure ?_
    rw [hj, List.take_length] at hS
    exact hR s' (.of_woke wk) (SetL.at hS fun o e hc _ => wk.heap.get e (get_hasCls hc) fun q => q.2.1 sC)
  | succ m ih =>
    intro j s hm Fe hS hR
    have hj : j < ks.length := by omega
    have hCs : Cs z s.heap := fun c q => by rw [hC, List.mem_singleton] at q; obtain ⟨o, e, _⟩ := SetL.obj hS; exact ⟨o, q ▸ e⟩
    refine codeAny_builtin F.entry_set_update_loop ?_
    rw [Around.under_plainId F.plain_set_update_loop]
    unfold Builtin.«set.update.loop»
    refine wpAny_bind (Fe.next hCs hh (hA.in1.dlt) hfin (by rw [List.getElem?_map, List.getElem?_eq_getElem hj]; rfl) (fun v s' rd wk Fe' => ?_))
    obtain ⟨t, rfl⟩ := rd.strE
    have hS' := SetL.at hS fun o e hc _ => wk.heap.get e (get_hasCls hc) fun q => q.2.1 sC
    have tw : TookS z S s s' := .of_woke wk
    have ok := Fe'.ok
    clear Fe hS wk rd hCs
    obtain ⟨h, gn, d, tk, os⟩ := s'
    dsimp only at hS' ⊢
    refine wpAny_bind (wpAny_holding ?_)
    unfold setAdd
    refine wpAny_holding ?_
    refine wpAny_bind ((KD w).pyHash (k := ks[j]) (kd_is w _ t) ?_)
    have hroom : (distinct (ks.take j)).length + 1 < scanBound := by have := distinct_le (ks.take j); rw [List.length_take] at this; show _ < 4096; omega
    refine setAddL (s := ⟨h, gn, d, tk + 1, os⟩) hS' hroom fun h' hsb hS2 => ?_
    have htk : distinct (ks.take (j + 1)) = addK (distinct (ks.take j)) ks[j] := by rw [List.take_succ_eq_append_getElem hj]; unfold distinct; rw [List.foldl_append]; rfl
    have hS3 : SetL w h' S (fun k => decide (k ∈ distinct (ks.take (j + 1)))) (distinct (ks.take (j + 1))).length :=
      SetL.congr hS2 (fun k => by rw [htk]; simp [addK_mem]) (by rw [htk, addK_len]; simp)
    refine wpAny_pure ⟨plainId_quiet F.plain_set_update_loop _, ih (j + 1) _ (by omega) (Fe'.calm (Calm.but sC hsb.extBut (let ⟨o, e, _⟩ := SetL.obj hS3; ⟨o, e⟩))) hS3 (fun s'' tk r' => hR s'' ?_ r')⟩
    have sl : 604 ≤ S := ok.c S sC
    exact .trans (tabs_lm ok sl) (.trans (tabs_lm ok sl) tw (.of_but hsb.extBut)) tk
theorem set_feed {s : Shared} {Q : Value → Shared → Prop} (hh : A.handled = none) (hA : Rm 490 A) (hfin : fin = .ok (.ret .none) ∨ fin = .ok .next) (hz : ks.length ≤ 1000) (hC : z.C = [s.heap.objs.size])
    (Fe : Feed w A.in1.in1.in1 z fin a (ks.map .str) 0 s)
    (hQ : ∀ s' S, Took z s s' → SetL w s'.heap S (fun k => decide (k ∈ distinct ks)) (distinct ks).length → s.heap.get? S = none → S < s'.heap.objs.size → Q (.ref S) s') :
    wpAny (model P w) A (call (.type "set") [.ref a]) Q E s := by
  obtain ⟨c, tl, hmro⟩ := F.called_set.mro
  have hmade := F.called_set.made
  have hsub := F.called_set.sub
  refine wpAny_call (codeAny_of_tree ?_)
  show wpAny _ _ (callAny (.type "set") _) _ _ _
  refine wpAny_pure ⟨Code.quiet_builtin _ (by decide +kernel), codeAny_builtin F.entry_type_call ?_⟩
  rw [Around.under_plain (weight_type_call_type "set" [.ref a] []) rfl]
  have h1 := F.called_set.notType
  have h2 := F.called_set.canCreate
  have hct := F.typeCall_set_1 (.ref a)
  unfold Builtin.«type.__call__»
  repeat (any_goals (first | assumption | wp_step))
  refine codeAny_mono (set_new_1 (.ref a) (E := E) (Q₁ := fun obj s₁ => obj = .ref s.heap.objs.size ∧ s₁ = { s with heap := s.heap.push { cls := .type "set", dict := none, data := .set #[] 0 (.fresh 0 0 (!byText w)) } }) ⟨rfl, rfl⟩) fun r s₁ hr => ?_
  cases r with
  | error e => exact hr
  | ok fl =>
    cases fl with
    | ret obj =>
      obtain ⟨rfl, rfl⟩ := hr
      obtain ⟨h, gn, d, tk, os⟩ := s
      have ok := Fe.ok
      have sC : h.objs.size ∈ z.C := by rw [hC]; exact .head _
      have hS : (h.push { cls := .type "set", dict := none, data := .set #[] 0 (.fresh 0 0 (!byText w)) }).get? h.objs.size = some { cls := .type "set", dict := none, data := .set #[] 0 (.fresh 0 0 (!byText w)) } := Heap.get?_push_size _ rfl
      have k1 : Keep h (h.push { cls := .type "set", dict := none, data := .set #[] 0 (.fresh 0 0 (!byText w)) }) := fun b o e => Heap.get?_push_of_some _ e
      have Fe1 := Fe.calm (Calm.keeps (t' := tk) k1)
      have fS : h.get? h.objs.size = none := get_size _
      have lS : h.objs.size < (h.push { cls := .type "set", dict := none, data := .set #[] 0 (.fresh 0 0 (!byText w)) }).objs.size := by rw [Heap.size_push]; exact Nat.lt_succ_self _
      dsimp only at hC ⊢
      generalize h.objs.size = S at hS fS sC lS hC ⊢
      generalize h.push { cls := .type "set", dict := none, data := .set #[] 0 (.fresh 0 0 (!byText w)) } = h1 at hS k1 Fe1 lS ⊢
      have hT : Shared.TypeIs ⟨h1, gn, d, tk, os⟩ (.ref S) "set" := ⟨_, hS, rfl⟩
      have hTg : Shared.TypeIs ⟨h1, gn, d, tk, os⟩ (.ref a) "generator" := Fe1.gen.typeIs
      have hli := F.called_set.init.lookup
      have hbi := F.called_set.init.bind (.ref S)
      repeat (any_goals (first | assumption | wp_step))
      refine codeAny_mono (codeAny_call_builtin (R := fun r s' => r = .ok (.ret .none) ∧ TookS z S ⟨h1, gn, d, tk, os⟩ s' ∧ SetL w s'.heap S (fun k => decide (k ∈ distinct ks)) (distinct ks).length) F.called_set.init.plain F.entry_set_init (check_set_init_1 hT ?_)) fun r₂ s₂ hr₂ => ?_
      · have hs1 : isSubtype (.type "generator") (.type "set") = pure false := by rw [isSubtype_type]; kernel_rfl
        have hs2 : isSubtype (.type "generator") (.type "frozenset") = pure false := by rw [isSubtype_type]; kernel_rfl
        have hne : (Value.type "generator" == Value.type "dict") = false := by decide
        unfold Builtin.«set.__init__» noKeywords Builtin.Frozenset.updateFrom
        generalize hPI : pyIter = PI
        wp_walk
        subst hPI
        refine wpAny_pyIter_gen Fe1.gen ?_
        refine wpAny_bind (wpAny_runValue ?_)
        have hh2 : A.in1.in1.handled = none := by simp [hh]
        have hS0 : SetL w h1 S (fun k => decide (k ∈ distinct (ks.take 0))) (distinct (ks.take 0)).length :=
          SetL.congr (setL_fresh w hS) (fun _ => rfl) rfl
        refine set_loop (A := A.in1.in1) hh2 (hA.in1.in1.mono (by decide)) hfin hz hC ks.length 0 _ rfl Fe1 hS0 fun s' tk' hS' => ?_
        show wpAny _ _ _ _ _ _
        refine wpAny_pure ?_
        exact wpAny_pure ⟨rfl, tk', hS'⟩
      · obtain ⟨rfl, tk', hS'⟩ := hr₂
        repeat (any_goals (first | assumption | wp_step))
        have tab := tabs_lm ok (ok.c S sC)
        have t2 := (ExtP.of (mod := fun x o => z.gm x o ∨ x = S) (.of_keeps k1)).trans tk'.heap tab
        obtain ⟨oS, eS, _⟩ := SetL.obj hS'
        exact hQ s₂ S ⟨⟨fun b o e n => t2.keep b o e fun q => q.elim n fun q => by rw [q, fS] at e; cases e⟩, tk'.bare, tk'.drawn, tk'.os⟩ hS' fS (Heap.lt_size eS)
    | _ => exact hr.elim
end
end Mine
end
section
open PySem PySem.W PySem.W.X PyProof.Rows PySem.Calls
set_option maxRecDepth 100000
set_option maxHeartbeats 800000
namespace Mine
section
variable {w : World} {A : Around} {all : List PyData} {z : Zone} {fin : Result} {env : Env} {fs : List Frame}
theorem seg_loop1 {elt target iter : Expr} {scope : Scope} {pos : Pos} {it : Value} (hco : env.scope.isCoroutine = false) (I : Nat → Nat → Shared → Shared → Prop)
    (turn : ∀ m n s₀ s, I m n s₀ s → (∀ m' n' s₀' s', m' < m → I m' n' s₀' s' → Seg (model P w) A (Rg fin z) (Yg all z) n' s₀' (.compLoop (.GeneratorExp elt [⟨target, iter, [], 0⟩] scope pos) 0 it .none env) (.pure (.again (.compLoop (.GeneratorExp elt [⟨target, iter, [], 0⟩] scope pos) 0 it .none env))) [] s') →
      wpAny (model P w) (A.over (.compLoop (.GeneratorExp elt [⟨target, iter, [], 0⟩] scope pos) 0 it .none env) []) (pyNext it) (fun r s₁ => match r with
      | none => Rg fin z n s₀ (.ok .next) s₁
      | some v => wpAny (model P w) (A.over (.compLoop (.GeneratorExp elt [⟨target, iter, [], 0⟩] scope pos) 0 it .none env) []) (letOwnedTupleGo target it v) (fun _ s₂ =>
          wpAny (model P w) (A.over (.compLoop (.GeneratorExp elt [⟨target, iter, [], 0⟩] scope pos) 0 it .none env) []) (assign target env v) (fun _ s₃ =>
            wpAny (model P w) (A.over (.compLoop (.GeneratorExp elt [⟨target, iter, [], 0⟩] scope pos) 0 it .none env) []) (eval elt env) (fun y s₄ => ∃ n', n = n' + 1 ∧ Give all z n' s₀ y s₄ fun s'' =>
              Seg (model P w) A (Rg fin z) (Yg all z) n' s'' (.compLoop (.GeneratorExp elt [⟨target, iter, [], 0⟩] scope pos) 0 it .none env) (.pure (.again (.compLoop (.GeneratorExp elt [⟨target, iter, [], 0⟩] scope pos) 0 it .none env))) [] s'') No s₃) No s₂) No s₁) No s)
    (m n : Nat) (s₀ s : Shared) (i : I m n s₀ s) :
    Seg (model P w) A (Rg fin z) (Yg all z) n s₀ (.compLoop (.GeneratorExp elt [⟨target, iter, [], 0⟩] scope pos) 0 it .none env) ((model P w).den (.compLoop (.GeneratorExp elt [⟨target, iter, [], 0⟩] scope pos) 0 it .none env)) [] s := by
  induction m using Nat.strongRecOn generalizing n s₀ s with
  | _ m ih =>
    refine seg_gen1 hco (turn m n s₀ s i fun m' n' s₀' s' hm i' => ?_)
    exact seg_again rfl (ih m' hm n' s₀' s' i')
theorem seg_loop2 {elt t1 t2 i1 i2 : Expr} {scope : Scope} {pos : Pos} {it : Value} (hs : ∀ x, foldedSetIterable i2 env x = pure x) (I : Nat → Nat → Shared → Shared → Prop)
    (turn : ∀ m n s₀ s, I m n s₀ s → (∀ m' n' s₀' s', m' < m → I m' n' s₀' s' → Seg (model P w) A (Rg fin z) (Yg all z) n' s₀' (.compLoop (.GeneratorExp elt [⟨t1, i1, [], 0⟩, ⟨t2, i2, [], 0⟩] scope pos) 0 it .none env) (.pure (.again (.compLoop (.GeneratorExp elt [⟨t1, i1, [], 0⟩, ⟨t2, i2, [], 0⟩] scope pos) 0 it .none env))) [] s') →
      wpAny (model P w) (A.over (.compLoop (.GeneratorExp elt [⟨t1, i1, [], 0⟩, ⟨t2, i2, [], 0⟩] scope pos) 0 it .none env) []) (pyNext it) (fun r s₁ => match r with
      | none => Rg fin z n s₀ (.ok .next) s₁
      | some v => wpAny (model P w) (A.over (.compLoop (.GeneratorExp elt [⟨t1, i1, [], 0⟩, ⟨t2, i2, [], 0⟩] scope pos) 0 it .none env) []) (letOwnedTupleGo t1 it v) (fun _ s₂ =>
          wpAny (model P w) (A.over (.compLoop (.GeneratorExp elt [⟨t1, i1, [], 0⟩, ⟨t2, i2, [], 0⟩] scope pos) 0 it .none env) []) (assign t1 env v) (fun _ s₃ =>
            wpAny (model P w) (A.over (.compLoop (.GeneratorExp elt [⟨t1, i1, [], 0⟩, ⟨t2, i2, [], 0⟩] scope pos) 0 it .none env) []) (eval i2 env) (fun x s₄ => wpAny (model P w) (A.over (.compLoop (.GeneratorExp elt [⟨t1, i1, [], 0⟩, ⟨t2, i2, [], 0⟩] scope pos) 0 it .none env) []) (pyIter x) (fun it2 s₅ =>
              ∀ (k : Result → Sem PySem.Fin) p, k (.ok .next) = .pure (.again (.compLoop (.GeneratorExp elt [⟨t1, i1, [], 0⟩, ⟨t2, i2, [], 0⟩] scope pos) 0 it .none env)) →
                Seg (model P w) A (Rg fin z) (Yg all z) n s₀ (.compStart (.GeneratorExp elt [⟨t1, i1, [], 0⟩, ⟨t2, i2, [], 0⟩] scope pos) 1 it2 .none env) ((model P w).den (.compStart (.GeneratorExp elt [⟨t1, i1, [], 0⟩, ⟨t2, i2, [], 0⟩] scope pos) 1 it2 .none env))
                  [.ret k none false [] (.compLoop (.GeneratorExp elt [⟨t1, i1, [], 0⟩, ⟨t2, i2, [], 0⟩] scope pos) 0 it .none env) p []] s₅) No s₄) No s₃) No s₂) No s₁) No s)
    (m n : Nat) (s₀ s : Shared) (i : I m n s₀ s) :
    Seg (model P w) A (Rg fin z) (Yg all z) n s₀ (.compLoop (.GeneratorExp elt [⟨t1, i1, [], 0⟩, ⟨t2, i2, [], 0⟩] scope pos) 0 it .none env) ((model P w).den (.compLoop (.GeneratorExp elt [⟨t1, i1, [], 0⟩, ⟨t2, i2, [], 0⟩] scope pos) 0 it .none env)) [] s := by
  induction m using Nat.strongRecOn generalizing n s₀ s with
  | _ m ih =>
    refine seg_gen2 hs (turn m n s₀ s i fun m' n' s₀' s' hm i' => ?_)
    exact seg_again rfl (ih m' hm n' s₀' s' i')
theorem seg_loop2in {elt t1 t2 i1 i2 : Expr} {scope : Scope} {pos : Pos} {it : Value} {k h g l c₁ p₁} (hco : env.scope.isCoroutine = false) (hfs : splitAtGen fs = none) (hg : g = false) (hfg : fs.any Frame.guarded = false) (I : Nat → Nat → Shared → Shared → Prop)
    (turn : ∀ m n s₀ s, I m n s₀ s → (∀ m' n' s₀' s', m' < m → I m' n' s₀' s' → Seg (model P w) A (Rg fin z) (Yg all z) n' s₀' (.compLoop (.GeneratorExp elt [⟨t1, i1, [], 0⟩, ⟨t2, i2, [], 0⟩] scope pos) 1 it .none env) (.pure (.again (.compLoop (.GeneratorExp elt [⟨t1, i1, [], 0⟩, ⟨t2, i2, [], 0⟩] scope pos) 1 it .none env))) (.ret k h g l c₁ p₁ [] :: fs) s') →
      wpAny (model P w) (A.over (.compLoop (.GeneratorExp elt [⟨t1, i1, [], 0⟩, ⟨t2, i2, [], 0⟩] scope pos) 1 it .none env) (.ret k h g l c₁ p₁ [] :: fs)) (pyNext it) (fun r s₁ => match r with
      | none => Seg (model P w) A (Rg fin z) (Yg all z) n s₀ c₁ (k (.ok .next)) fs s₁
      | some v => wpAny (model P w) (A.over (.compLoop (.GeneratorExp elt [⟨t1, i1, [], 0⟩, ⟨t2, i2, [], 0⟩] scope pos) 1 it .none env) (.ret k h g l c₁ p₁ [] :: fs)) (letOwnedTupleGo t2 it v) (fun _ s₂ =>
          wpAny (model P w) (A.over (.compLoop (.GeneratorExp elt [⟨t1, i1, [], 0⟩, ⟨t2, i2, [], 0⟩] scope pos) 1 it .none env) (.ret k h g l c₁ p₁ [] :: fs)) (assign t2 env v) (fun _ s₃ =>
            wpAny (model P w) (A.over (.compLoop (.GeneratorExp elt [⟨t1, i1, [], 0⟩, ⟨t2, i2, [], 0⟩] scope pos) 1 it .none env) (.ret k h g l c₁ p₁ [] :: fs)) (eval elt env) (fun y s₄ => ∃ n', n = n' + 1 ∧ Give all z n' s₀ y s₄ fun s'' =>
              Seg (model P w) A (Rg fin z) (Yg all z) n' s'' (.compLoop (.GeneratorExp elt [⟨t1, i1, [], 0⟩, ⟨t2, i2, [], 0⟩] scope pos) 1 it .none env) (.pure (.again (.compLoop (.GeneratorExp elt [⟨t1, i1, [], 0⟩, ⟨t2, i2, [], 0⟩] scope pos) 1 it .none env))) (.ret k h g l c₁ p₁ [] :: fs) s'') No s₃) No s₂) No s₁) No s)
    (m n : Nat) (s₀ s : Shared) (i : I m n s₀ s) :
    Seg (model P w) A (Rg fin z) (Yg all z) n s₀ (.compLoop (.GeneratorExp elt [⟨t1, i1, [], 0⟩, ⟨t2, i2, [], 0⟩] scope pos) 1 it .none env) ((model P w).den (.compLoop (.GeneratorExp elt [⟨t1, i1, [], 0⟩, ⟨t2, i2, [], 0⟩] scope pos) 1 it .none env)) (.ret k h g l c₁ p₁ [] :: fs) s := by
  induction m using Nat.strongRecOn generalizing n s₀ s with
  | _ m ih =>
    refine seg_gen2in hco hfs hg hfg (turn m n s₀ s i fun m' n' s₀' s' hm i' => ?_)
    exact seg_again rfl (ih m' hm n' s₀' s' i')
end
section
variable {w : World} {A : Around} {E : Value → Shared → Prop} {h : Heap} {gn : Array GenState} {d : Drawn} {t : Nat} {os : OsState} {x dx b ep : Addr} {g : Grp} {es : Array DictEntry} {kvs : List (Str × Value)}
theorem pyIter_MD {Q : Value → Shared → Prop} (hA : Rm 480 A) (T : TopH w h) (X : MDI w b h x g dx kvs es ep) (hx : 604 ≤ x)
    (hQ : ∀ h' it tk, Ext [] h h' → h'.get? it = some (keyIt x 0 kvs.length ep) → h.get? it = none → h.objs.size ≤ it → Q (.ref it) ⟨h', gn, d, tk, os⟩) :
    wpAny (model P w) A (pyIter (.ref x)) Q E ⟨h, gn, d, t, os⟩ := by
  have I := X.inst
  have hI := I.at_
  have L : Looks (model P w) h (typeOf (.ref x)) (.ref 437) := (Looks.ld hI).andThen .now
  have L1 : Looks (model P w) h (typeLookup (.ref 437) "__iter__") (some (.ref 272)) := looks_findIn T.K (by kernel_rfl)
  obtain ⟨of, eof, cof⟩ : ∃ o, (KK w).lookup 272 = some o ∧ o.cls = .type "function" := ⟨_, rfl, rfl⟩
  have L2 : Looks (model P w) h (typeOf (.ref 272)) (.type "function") := cof ▸ (Looks.ld (T.K _ _ eof)).andThen .now
  have cl : wpAny (model P w) A (call (.ref 272) [.ref x]) (fun it s' => ∃ h' a tk, it = .ref a ∧ s' = ⟨h', gn, d, tk, os⟩ ∧ Ext [] h h' ∧ h'.get? a = some (keyIt x 0 kvs.length ep) ∧ h.get? a = none ∧ h.objs.size ≤ a) E ⟨h, gn, d, t, os⟩ := by
    refine wpAny_call ?_
    refine iter_spec (hA.mono (by decide)) T I hx fun h' it tk e hi hn hle => ?_
    exact ⟨h', it, tk, rfl, rfl, e, by rw [hi, X.dd.size], hn, hle⟩
  have Ls : Looks (model P w) h (specialOf (.ref x) "__iter__") (some (.ref 272)) := L.andThen L1
  have Lb : Looks (model P w) h (bindSpecial (.ref 272) (.ref x)) (.ref 272, [.ref x]) := L2.andThen .now
  have fin : wpAny (model P w) A (if (Value.ref 272 == Value.none) = true then ((do rule "iter.none"; raiseError "TypeError" s!"'{← typeNameOf (.ref x)}' object is not iterable" : Sem Value) >>= fun v => pure (some v)) else (call (.ref 272) [.ref x] >>= fun v => pure (some v)))
      (fun r s' => ∃ it, r = some it ∧ ∃ h' a tk, it = .ref a ∧ s' = ⟨h', gn, d, tk, os⟩ ∧ Ext [] h h' ∧ h'.get? a = some (keyIt x 0 kvs.length ep) ∧ h.get? a = none ∧ h.objs.size ≤ a) E ⟨h, gn, d, t, os⟩ := by
    rw [if_neg (show ¬ ((Value.ref 272 == Value.none) = true) from Bool.false_ne_true)]
    exact wpAny_bind (wpAny_mono cl (fun v s' h' => wpAny_pure ⟨v, rfl, h'⟩) fun _ _ h' => h')
  unfold pyIter
  refine wpAny_bind (Ls.here ?_)
  dsimp only
  refine wpAny_bind ?_
  refine wpAny_mono (Q := fun r s' => ∃ it, r = some it ∧ ∃ h' a tk, it = .ref a ∧ s' = ⟨h', gn, d, tk, os⟩ ∧ Ext [] h h' ∧ h'.get? a = some (keyIt x 0 kvs.length ep) ∧ h.get? a = none ∧ h.objs.size ≤ a) ?_ (fun r s' q => ?_) fun _ _ q => q
  · unfold callSpecialIfBoundUnlessNone? bindSpecialIfBound?
    refine wpAny_holding (wpAny_bind (wpAny_bind (Ls.here ?_)))
    refine wpAny_bind (wpAny_askSetting (wpAny_ite ?_))
    split
    · refine wpAny_bind (Lb.here (wpAny_pure ?_))
      exact fin
    · refine wpAny_tryCatch (wpAny_bind (Lb.here (wpAny_pure ?_)))
      exact fin
  · obtain ⟨_, rfl, h', a, tk, rfl, rfl, e, hi, hn, hle⟩ := q
    dsimp only
    have hT : (⟨h', gn, d, tk, os⟩ : Shared).TypeIs (.ref a) "dict_keyiterator" := ⟨_, hi, rfl⟩
    refine wpAny_bind (wpAny_specialOf hT F.slot_dict_keyiterator_next.lookup ?_)
    exact wpAny_pure (hQ h' a tk e hi hn hle)
end
end Mine
end
section
open PySem PySem.W PySem.W.X PyProof.Rows PySem.Calls
set_option maxRecDepth 100000
set_option maxHeartbeats 800000
namespace Mine
local macro_rules | `(tactic| walk_at "nb") => `(tactic| refine name_boot (by assumption) rfl rfl rfl (by boot_by_name) (by decide) ?_)
def keysC (gs : List Grp) : List Str := gs.flatMap fun g => g.map (·.1)
theorem kg : Value.type "dict_keyiterator" ∈ gcls := by decide
theorem keys_spec {w : World} {A : Around} {s : Shared} {R : Result → Shared → Prop} {x dx dl b : Addr} {gs : List Grp} {hsh : Int} {t : Tok} {n c ep : Nat} {vs : Array Value} {es : Array DictEntry} (hA : Rm 450 A) (hh : A.handled = none) (T : TopH w s.heap)
    (X : WH w b s.heap x gs dx dl hsh t n c vs es ep) (hlow : 604 ≤ b) (hk : (keysC gs).length ≤ 1000)
    (hR : ∀ h' gn' tk S, Ext [] s.heap h' → (Bare s.gens → Bare gn') → SetL w h' S (fun k => decide (k ∈ distinct (keysC gs))) (distinct (keysC gs)).length → s.heap.get? S = none →
      R (.ok (.ret (.ref S))) ⟨h', gn', s.drawn, tk, s.os⟩) :
    codeAny (model P w) A (.call (.ref 486) ⟨[.ref x], []⟩) R s := by
  refine enter [(Str.ofString "self", .ref x)] hA T (by rfl) (by rfl) (by rfl) (by rfl) (BindsTo.of_eq rfl) (by decide) (locs rfl) fun h₁ D hA' hh' => ?_
  replace hh' := hh'.trans hh
  generalize hA1 : A.deeper _ = A₁ at hA' hh' ⊢
  clear hA1
  have T1 := D.top T (by simp)
  have X1 := X.ext0 D.ext
  refine wpAny_execs_cons ?_
  refine wpAny_Return_some ?_
  refine wpAny_Call_NameR ?_
  walk_at "nb"
  refine call_bi ?_
  refine wpAny_items_cons ?_
  refine genexp_make (c := 485) (a := 481) (hA'.dlt) rfl rfl (by decide) (by rfl) rfl rfl (by decide) rfl (by rfl) rfl rfl ?_
  refine Attribute_Name_ ?_
  refine name_local D.ns (by rfl) ?_
  refine get_dicts T1 X1 ?_
  refine wpAny_pyIter_list ⟨_, X1.ls, rfl, c, rfl⟩ ?_
  have hit : (h₁.push { cls := .type "list_iterator", data := .fields #[.ref dl, .int 0 0] }).IsListIter h₁.objs.size dl 0 := ⟨_, Heap.get?_push_size _ rfl, rfl, rfl⟩
  have fit : h₁.get? h₁.objs.size = none := get_size _
  have b604 : 604 ≤ h₁.objs.size := T1.low
  have szp : (h₁.push { cls := .type "list_iterator", data := .fields #[.ref dl, .int 0 0] }).objs.size = h₁.objs.size + 1 := by rw [Heap.size_push]
  replace D := D.call (Ext.push h₁ { cls := .type "list_iterator", data := .fields #[.ref dl, .int 0 0] })
  have E2 : Ext [] h₁ (h₁.push { cls := .type "list_iterator", data := .fields #[.ref dl, .int 0 0] }) := Ext.push _ _
  dsimp only
  have z0 : h₁.objs.size ≤ h₁.objs.size := Nat.le_refl _
  have k2 : ∀ a o, h₁.get? a = some o → a < h₁.objs.size := fun a o e => Heap.lt_size e
  generalize hitv : h₁.objs.size = it at hit fit b604 szp z0 k2 ⊢
  generalize h₁.push { cls := .type "list_iterator", data := .fields #[.ref dl, .int 0 0] } = h2 at D hit szp E2 ⊢
  refine ⟨T1.ext E2 (by simp), fun code h3 tk L E3 n3 le3 gen3 nL ndict => ?_⟩
  refine wpAny_items_nil ?_
  have ok : Zone.Ok ⟨it, it, [h3.objs.size], s.gens.size⟩ := ⟨b604, Nat.le_refl _, fun a q => by
    rw [List.mem_singleton.mp q]
    obtain ⟨o, _, _, e, _⟩ := gen3
    exact Nat.le_trans b604 (Nat.le_of_lt (Nat.lt_of_lt_of_le (by omega) (Nat.le_of_lt (Heap.lt_size e))))⟩
  have Lh3 : L + 1 < h3.objs.size := by obtain ⟨o, _, _, e, _⟩ := gen3; exact Heap.lt_size e
  have itl : it < L := Nat.lt_of_lt_of_le (szp ▸ Nat.lt_succ_self it) le3
  have itL : it ≤ L + 1 := Nat.le_succ_of_le (Nat.le_of_lt itl)
  have T3 : TopH w h3 := T1.ext (E2.trans E3 (by simp)) (by simp)
  have D3 := D.call E3
  refine set_feed (z := ⟨it, it, [h3.objs.size], s.gens.size⟩) (fin := .ok .next) (ks := keysC gs) hh' (hA'.mono (by decide)) (.inr rfl) hk rfl ?feed (fun s' S tw so nS lS => ?post)
  case post =>
    obtain ⟨h', gn', d', tk', os'⟩ := s'
    obtain ⟨t1, t2, rfl, rfl⟩ := tw
    have sit : s.heap.objs.size ≤ it := Nat.le_of_lt_succ (by have := D.ns.lt; rw [szp] at this; exact this)
    exact hR h' gn' tk' S (Ext.p D3.ext t1 (fun a o o' e _ _ q => absurd (Nat.lt_of_lt_of_le (Heap.lt_size e) sit) (Nat.not_lt.mpr q.1)) ok.gm_tabs (by simp)) (fun q => t2 fun y hy => by
      rcases Array.mem_push.mp hy with hy | rfl
      · exact q y hy
      · rfl) so (D3.ext.fresh nS)
  case feed =>
    refine ⟨ok, Nat.zero_le _, gen3, ⟨itL, fun q => Nat.ne_of_lt Lh3 (List.mem_singleton.mp q)⟩, T3.lim, _, Array.getElem?_push_size, rfl, fun s₁ cm cs => ⟨rfl, ?_⟩⟩
    have E13 : Ext [] h₁ h3 := E2.trans E3 (by simp)
    have X3 := X1
    have hCL : L ∉ [h3.objs.size] := fun q => Nat.ne_of_lt (Nat.lt_trans (Nat.lt_succ_self L) Lh3) (List.mem_singleton.mp q)
    have hCi : it ∉ [h3.objs.size] := fun q => Nat.ne_of_lt (Nat.lt_trans itl (Nat.lt_trans (Nat.lt_succ_self L) Lh3)) (List.mem_singleton.mp q)
    have ns₁ : s₁.heap.Ns L _ := cm.heap.ns n3 fun o e hd q => q.2 ⟨Nat.le_of_lt itl, hCL, .inl (.inl hd)⟩
    have hit3 : h3.IsListIter it dl 0 := by
      obtain ⟨o, e, hc, hd⟩ := hit
      exact ⟨o, E3.get e (by unfold hasCls; rw [hc]) (by simp), hc, hd⟩
    have hit1 : s₁.heap.IsListIter it dl 0 := by
      obtain ⟨o, e, hc, hd⟩ := hit3
      exact ⟨o, cm.kept (s := (Shared.setGen ⟨h3, s.gens.push _, s.drawn, tk, s.os⟩ s.gens.size .running)) e (by rw [hc]; decide) (Nat.le_refl _) hCi, hc, hd⟩
    have run : s₁.gens[s.gens.size]? = some .running := (cm.gens _ (Nat.le_refl _)).trans (setGen_self (s := ⟨h3, s.gens.push _, s.drawn, tk, s.os⟩) Array.getElem?_push_size)
    have G : GS ⟨it, it, [h3.objs.size], s.gens.size⟩ h₁ L _ s₁ s₁ := ⟨ok, hitv ▸ Nat.le_refl _, .refl _ _, Base.calm (s := (Shared.setGen ⟨h3, s.gens.push _, s.drawn, tk, s.os⟩ s.gens.size .running)) ok (hitv ▸ Nat.le_refl _) (E13.mono (by simp)) cm, ns₁, ⟨Nat.le_of_lt itl, hCL⟩, cs⟩
    have c604 : ∀ c ∈ [h3.objs.size], 604 ≤ c := ok.c
    have cX : ∀ c ∈ [h3.objs.size], c < b ∨ h₁.get? c = none := fun c q => .inr (get_fresh (by rw [List.mem_singleton.mp q, hitv]; exact Nat.le_of_lt (Nat.lt_trans itl (Nat.lt_trans (Nat.lt_succ_self L) Lh3))))
    have hA₂ : Rm 460 A₁.in1.in1.in1.in1 := hA'.in1.in1.in1.in1.mono (by decide)
    have hh₂ : A₁.in1.in1.in1.in1.handled = none := hh'
    generalize A₁.in1.in1.in1.in1 = A₂ at hA₂ hh₂ ⊢
    rw [Nat.sub_zero, List.length_map]
    generalize hz' : (⟨it, it, [h3.objs.size], s.gens.size⟩ : Zone) = z at G ok ⊢
    have zC : z.C = [h3.objs.size] := by rw [← hz']
    have zB : z.B = it := by rw [← hz']
    have zg : z.g = s.gens.size := by rw [← hz']
    rw [← zg] at run
    rw [← zC] at c604 cX hCi
    have iB : z.B ≤ it := Nat.le_of_eq zB
    clear ndict hz' zC zB zg hit3 ns₁ cm cs gen3 n3 hit hCL E13 itL itl le3 nL Lh3 szp k2 z0 E3 E2 D3 D T3 X3 hA hA' hh hh' T X hR R h2 h3 A A₁
    obtain ⟨all, eall⟩ : ∃ all, all = (keysC gs).map PyData.str := ⟨_, rfl⟩
    rw [← eall]
    refine (fun (key : ∀ s₀, GS z h₁ L _ s₀ s₁ → Seg (model P w) _ _ _ _ s₀ _ _ _ s₁) => key _ G) ?_
    clear G
    intro s₀ G
    obtain ⟨h, gn, d, t', os⟩ := s₁
    refine seg_start (d := 0) rfl rfl rfl (fun Q q => wpAny_pyIter_listiter hit1 q) ?_
    refine seg_loop2 (fun _ => rfl) (fun m n s₀ s => ∃ i mm, m + i = gs.length ∧ n = (keysC (gs.drop i)).length ∧ GS z h₁ L mm s₀ s ∧ s.heap.IsListIter it dl i ∧ s.gens[z.g]? = some .running) ?_ gs.length _ _ _ ⟨0, _, rfl, rfl, G, hit1, run⟩
    clear G hit1 run h gn d t' os s₀
    rintro m n s₀ ⟨h, gn, d, t', os⟩ ⟨i, mm, hm, hn, G, hit, run⟩ IH
    dsimp only at hit run
    have X2 := X1.ext G.base cX
    obtain ⟨oi, eoi, coi, doi⟩ := id hit
    cases m with
    | zero =>
      have hi : i = gs.length := by omega
      refine wpAny_pyNext_list_end (A := A₂.over _ _) hh₂ hit ⟨_, X2.ls, rfl, c, rfl⟩ (by rw [Array.getElem?_eq_none_iff, X2.md.1]; omega) (fun h' he => ?_)
      dsimp only
      replace G := G.own (t' := t') he eoi (fun _ _ q => by rw [doi] at q; exact nomatch q) (by rw [coi]; exact li_g) iB hCi
      have : n = 0 := by rw [hn, hi, List.drop_length]; rfl
      exact ⟨rfl, this, G.turn⟩
    | succ m =>
      have hi : i < gs.length := by omega
      obtain ⟨mm0, dm, kvs, em, pm, em0, Xm⟩ := X1.md.2 i gs[i] (List.getElem?_eq_getElem hi)
      refine wpAny_pyNext_list_item hit ⟨_, X2.ls, rfl, c, rfl⟩ em0 (fun h4 hit4 sb4 => ?_)
      dsimp only
      replace G := G.own (t' := t') (h' := h4) sb4.extBut eoi (fun _ _ q => by rw [doi] at q; exact nomatch q) (by rw [coi]; exact li_g) iB hCi
      clear X2 hit eoi coi doi oi sb4 h
      refine wpAny_pure ?_
      refine wpAny_assign_Name ?_
      refine wpAny_storeName_local rfl G.ns (fun h5 hn5 hs5 => ?_) rfl
      obtain ⟨oi, eoi, coi, doi⟩ := id hit4
      have hit5 := hit4.at fun o e => (hs5.2 it (Ne.symm (G.ne eoi fun _ _ q => by rw [doi] at q; exact nomatch q))).trans e
      replace G := G.store (t' := t') hn5 hs5
      dsimp only
      clear hn5 hs5 hit4 eoi coi doi oi h4
      have T6 : TopH w h5 := T1.ext G.base c604
      have X6 := Xm.ext G.base cX
      refine name_local G.ns (by rw [if_pos (by decide)]) ?_
      refine pyIter_MD ((hA₂.over (c := .compLoop _ _ _ _ _) (fs := []) rfl (by simp)).mono (by decide)) T6 X6 (Nat.le_trans hlow Xm.lx) (fun h7 ki tk7 e7 hki nki lki => ?_)
      intro k p hkk
      have kB : z.B ≤ ki := Nat.le_trans G.fresh.1 lki
      have kC : ki ∉ z.C := fun q => by obtain ⟨o, e⟩ := G.cs ki q; rw [nki] at e; cases e
      have hit7 : h7.IsListIter it dl (i + 1) := let ⟨o, e, hc, hd⟩ := hit5; ⟨o, e7.get e (by unfold hasCls; rw [hc]) (by simp), hc, hd⟩
      replace G := G.ext (t' := tk7) e7
      clear T6 X6 hit5 e7 nki lki h5
      refine seg_start (d := 1) rfl rfl rfl (fun Q q => wpAny_pyIter_keyiter ⟨_, hki, rfl, rfl⟩ q) ?_
      have hkg : kvs.map (·.1) = gs[i].map (·.1) := Xm.gl.keys
      have hkl : kvs.length = gs[i].length := Xm.gl.len
      have hin : it ≠ ki := fun q => by obtain ⟨o, e, hc, _⟩ := hit7; rw [q, hki] at e; cases e; exact absurd (show Value.type "dict_keyiterator" = .type "list_iterator" from hc) (by decide)
      have eg : gs = gs.take i ++ gs[i] :: gs.drop (i + 1) := by rw [← List.drop_eq_getElem_cons hi, List.take_append_drop]
      have ek : keysC gs = keysC (gs.take i) ++ (kvs.map (·.1) ++ keysC (gs.drop (i + 1))) := by
        conv => lhs; rw [eg]
        unfold keysC
        rw [List.flatMap_append, List.flatMap_cons, hkg]
      refine seg_loop2in rfl rfl rfl rfl (fun m n s₀ s => ∃ j mm, m + j = kvs.length ∧ n = (kvs.length - j) + (keysC (gs.drop (i + 1))).length ∧ GS z h₁ L mm s₀ s ∧ s.heap.IsListIter it dl (i + 1) ∧ s.heap.get? ki = some (keyIt mm0 j kvs.length pm) ∧ s.gens[z.g]? = some .running) ?_ kvs.length _ _ _ ⟨0, _, rfl, ?_, G, hit7, hki, run⟩
      case refine_2 =>
        rw [hn, List.drop_eq_getElem_cons hi]
        unfold keysC
        rw [List.flatMap_cons, List.length_append, List.length_map, hkl, Nat.sub_zero]
      clear G hit7 hki run h7 gn d t' tk7 os s₀ n hn
      rintro m' n s₀ ⟨h, gn, d, t', os⟩ ⟨j, mm, hm', hn, G, hit, hki, run⟩ IH2
      dsimp only at hit hki run
      have X2 := Xm.ext G.base cX
      cases m' with
      | zero =>
        have hj : j = kvs.length := by omega
        refine next_keys_end (A := A₂.over _ _) hh₂ hki X2.dd (by omega) (fun h' he => ?_)
        dsimp only
        replace G := G.own (t' := t') he hki (fun _ _ q => nomatch q) kg kB kC
        rw [hkk]
        refine IH m _ _ _ (Nat.lt_succ_self m) ⟨i + 1, mm, by omega, ?_, G, ?_, run⟩
        · rw [hn, hj, Nat.sub_self, Nat.zero_add]
        · obtain ⟨o, e, r⟩ := hit; exact ⟨o, he _ _ hin e, r⟩
      | succ m' =>
        have hj : j < kvs.length := by omega
        refine next_keys (k := kvs[j].1) (v := kvs[j].2) hki X2.dd (List.getElem?_eq_getElem hj) (fun tk' h' hki' sb => ?_)
        dsimp only
        replace G := G.own (t' := t') (h' := h') sb.extBut hki (fun _ _ q => nomatch q) kg kB kC
        replace hit := hit.at fun o e => (sb.2 it hin).trans e
        clear X2 sb hki h
        refine wpAny_pure ?_
        refine wpAny_assign_Name ?_
        refine wpAny_storeName_local rfl G.ns (fun h5 hn5 hs5 => ?_) rfl
        obtain ⟨oi, eoi, coi, doi⟩ := id hit
        have hit5 := hit.at fun o e => (hs5.2 it (Ne.symm (G.ne eoi fun _ _ q => by rw [doi] at q; exact nomatch q))).trans e
        have hki5 : h5.get? ki = some (keyIt mm0 (j + 1) kvs.length pm) := (hs5.2 ki (Ne.symm (G.ne hki' fun _ _ q => nomatch q))).trans hki'
        replace G := G.store (t' := t') hn5 hs5
        dsimp only
        clear hn5 hs5 hit hki' eoi coi doi oi h'
        refine name_local G.ns (by rw [if_pos (by decide)]) ?_
        replace G := G.toks (t' := t' + 1)
        refine ⟨(kvs.length - (j + 1)) + (keysC (gs.drop (i + 1))).length, by omega, .str kvs[j].1, ?_, .str _ _, G.turn, fun s'' cm => ?_⟩
        · refine suffix_at (pre := (keysC (gs.take i) ++ (kvs.map (·.1)).take j).map .str) (r := ((kvs.map (·.1)).drop (j + 1) ++ keysC (gs.drop (i + 1))).map .str) ?_ ?_
          · have : kvs.map (·.1) = (kvs.map (·.1)).take j ++ kvs[j].1 :: (kvs.map (·.1)).drop (j + 1) := by
              have e := List.drop_eq_getElem_cons (l := kvs.map (·.1)) (i := j) (by rw [List.length_map]; exact hj)
              rw [List.getElem_map] at e
              rw [← e, List.take_append_drop]
            rw [eall, ek]
            conv => lhs; rw [this]
            simp
          · simp
        · have run' : s''.gens[z.g]? = some .running := (cm.gens _ (Nat.le_refl _)).trans run
          have hit' : s''.heap.IsListIter it dl (i + 1) := by
            obtain ⟨o, e, hc, hd⟩ := hit5
            exact ⟨o, cm.kept e (by rw [hc]; exact li_g) iB hCi, hc, hd⟩
          have hki' := cm.kept hki5 kg kB kC
          exact IH2 m' _ _ _ (Nat.lt_succ_self m') ⟨j + 1, _, by omega, rfl, G.woken cm, hit', hki', run'⟩
end Mine
end
section
open PySem PySem.W PySem.W.X PyProof.Rows PySem.Calls
set_option maxRecDepth 100000
set_option maxHeartbeats 800000
namespace Mine
local macro_rules | `(tactic| walk_at "nb") => `(tactic| refine name_boot (by assumption) rfl rfl rfl (by boot_by_name) (by decide) ?_)
section
variable {w : World} {A : Around} {E : Value → Shared → Prop} {s : Shared} {R : Result → Shared → Prop} {x dx dl b : Addr} {gs : List Grp} {hsh : Int} {t : Tok} {n c ep : Nat} {vs : Array Value} {es : Array DictEntry}
theorem keys_call (hA : Rm 440 A) (hh : A.handled = none) (T : TopH w s.heap)
    (X : WH w b s.heap x gs dx dl hsh t n c vs es ep) (hlow : 604 ≤ b) (hk : (keysC gs).length ≤ 1000)
    (hR : ∀ h' gn' tk S, Ext [] s.heap h' → (Bare s.gens → Bare gn') → SetL w h' S (fun k => decide (k ∈ distinct (keysC gs))) (distinct (keysC gs)).length → s.heap.get? S = none →
      R (.ok (.ret (.ref S))) ⟨h', gn', s.drawn, tk, s.os⟩) :
    codeAny (model P w) A (.call (.ref 493) ⟨[.ref x], []⟩) R s := by
  refine enter [(Str.ofString "self", .ref x)] hA T (by rfl) (by rfl) (by rfl) (by rfl) (BindsTo.of_eq rfl) (by decide) (locs rfl) fun h₁ D hA' hh' => ?_
  replace hh' := hh'.trans hh
  have T1 := D.top T (by simp)
  have X1 := X.ext0 D.ext
  refine wpAny_execs_cons ?_
  refine wpAny_Return_some ?_
  refine methodCall_KW ?_
  refine name_local D.ns (by rfl) ?_
  refine meth_WH (f := 486) T1 X1 (by kernel_rfl) (by rfl) (by kernel_rfl) ?_
  refine call_fn0 (by rfl) T1 ?_
  refine wpAny_call ?_
  refine keys_spec (hA'.mono (by decide)) hh' T1 X1 hlow hk fun h' gn' tk S e bar so nS => ?_
  exact hR h' gn' tk S (D.ext.and e) bar so (D.ext.fresh nS)
theorem len_spec (hA : Rm 440 A) (hh : A.handled = none) (T : TopH w s.heap)
    (X : WH w b s.heap x gs dx dl hsh t n c vs es ep) (hlow : 604 ≤ b) (hk : (keysC gs).length ≤ 1000)
    (hR : ∀ h' gn' tk tk', Ext [] s.heap h' → (Bare s.gens → Bare gn') → R (.ok (.ret (.int (distinct (keysC gs)).length tk'))) ⟨h', gn', s.drawn, tk, s.os⟩) :
    codeAny (model P w) A (.call (.ref 543) ⟨[.ref x], []⟩) R s := by
  refine enter [(Str.ofString "self", .ref x)] hA T (by rfl) (by rfl) (by rfl) (by rfl) (BindsTo.of_eq rfl) (by decide) (locs rfl) fun h₁ D hA' hh' => ?_
  replace hh' := hh'.trans hh
  have T1 := D.top T (by simp)
  have X1 := X.ext0 D.ext
  refine wpAny_execs_cons ?_
  refine wpAny_Return_some ?_
  refine wpAny_Call_NameR ?_
  walk_at "nb"
  refine call_bi ?_
  refine wpAny_items_cons ?_
  refine methodCall_KW ?_
  refine name_local D.ns (by rfl) ?_
  refine meth_WH (f := 486) T1 X1 (by kernel_rfl) (by rfl) (by kernel_rfl) ?_
  refine call_fn0 (by rfl) T1 ?_
  refine wpAny_call ?_
  refine keys_spec (hA'.mono (by decide)) hh' T1 X1 hlow hk fun h' gn' tk S e bar so nS => ?_
  refine wpAny_items_nil ?_
  obtain ⟨o, es', ep', tb, h1, h2, h3, _, _, h6, h7, h8, _⟩ := so
  have := distinct_le (keysC gs)
  refine call_len_set (s := ⟨h', gn', _, tk, _⟩) h1 h2 h3 h7 (by omega) ?_
  rw [h8]
  exact hR h' gn' _ _ (D.ext.and e) bar
theorem call_len_WH {Q : Value → Shared → Prop} (hA : Rm 430 A) (hh : A.handled = none) (T : TopH w s.heap)
    (X : WH w b s.heap x gs dx dl hsh t n c vs es ep) (hlow : 604 ≤ b) (hk : (keysC gs).length ≤ 1000)
    (hQ : ∀ h' gn' tk tk', Ext [] s.heap h' → (Bare s.gens → Bare gn') → Q (.int (distinct (keysC gs)).length tk') ⟨h', gn', s.drawn, tk, s.os⟩) :
    wpAny (model P w) A (call (.builtin "len") [.ref x]) Q E s := by
  refine Calls.call_function_entry kind_len plain_len entry_len (args_len1 _) ?_
  unfold Builtin.«len»
  obtain ⟨h, gn, d, tk, os⟩ := s
  have hI := X.inst.at_
  have L : Looks (model P w) h (typeOf (.ref x)) (.ref 560) := (Looks.ld hI).andThen .now
  have L1 : Looks (model P w) h (typeLookup (.ref 560) "__len__") (some (.ref 543)) := looks_findIn T.K (by kernel_rfl)
  obtain ⟨of, eof, cof⟩ : ∃ o, (KK w).lookup 543 = some o ∧ o.cls = .type "function" := ⟨_, rfl, rfl⟩
  have L2 : Looks (model P w) h (typeOf (.ref 543)) (.type "function") := cof ▸ (Looks.ld (T.K _ _ eof)).andThen .now
  have Ls : Looks (model P w) h (specialOf (.ref x) "__len__") (some (.ref 543)) := L.andThen L1
  have Lb : Looks (model P w) h (bindSpecial (.ref 543) (.ref x)) (.ref 543, [.ref x]) := L2.andThen .now
  refine wpAny_bind (m := oneArg "len" _) (wpAny_pure ?_)
  refine wpAny_bind (m := callSpecial? (.ref x) (Str.ofString "__len__")) ?_
  unfold callSpecial?
  refine wpAny_bind (Ls.here ?_)
  dsimp only
  refine wpAny_holding (wpAny_bind (Lb.here ?_))
  refine wpAny_bind ?_
  refine wpAny_call ?_
  refine len_spec (hA.in1.mono (by decide)) hh T X hlow hk fun h' gn' tk1 tk' e bar => ?_
  refine wpAny_pure ?_
  have := distinct_le (keysC gs)
  dsimp only
  refine wpAny_bind (wpAny_holding (wpAny_pure ?_))
  refine wpAny_bind (wpAny_letGo ?_)
  show wpAny _ _ (if (((distinct (keysC gs)).length : Nat) : Int) < 0 then _ else _) _ _ _
  rw [if_neg (by omega)]
  show wpAny _ _ (if (((distinct (keysC gs)).length : Nat) : Int) ≥ 2 ^ 63 then _ else _) _ _ _
  rw [if_neg (by omega)]
  exact wpAny_bind (wpAny_mkInt (wpAny_pure ⟨_, rfl, hQ h' gn' _ _ e bar⟩))
end
end Mine
end
section
open PySem PySem.W PySem.W.X PyProof.Rows PySem.Calls PySem.Spec
set_option maxRecDepth 100000
set_option maxHeartbeats 800000
namespace Mine
def isMd (K : Frag) : Bool := (clsIn K 437).isSome && typeIn K (.ref 437) == some (.type "type") && instIn K (.ref 437) (.type "type") == some true && mroIn K 560 (.ref 437) == some true
theorem is_md (w : World) : isMd (KK w) = true := by kernel_rfl
section
variable {w : World} {A : Around} {E : Value → Shared → Prop} {s : Shared} {x : Addr}
theorem isy_nested {dep : Int} {tk : Tok} {Q : PySem.Fin → Shared → Prop} (X : (KK w).In s.heap) (ht : Looks (model P w) s.heap (typeOf (.ref x)) (.ref 560))
    (h : Q (.done (.ret (.bool true))) s) :
    wpAny (model P w) A (Builtin.«isinstance.nested» ⟨[.ref x, .ref 437, .int dep tk], []⟩) Q E s := by
  obtain ⟨hh, g, d, tt, os⟩ := s
  unfold Builtin.«isinstance.nested»
  refine wpAny_bind (ht.at ?_)
  rw [if_neg (fun q => by cases beq_iff_eq.mp q)]
  have e := is_md w
  unfold isMd at e
  rw [Bool.and_eq_true, Bool.and_eq_true, Bool.and_eq_true] at e
  obtain ⟨⟨⟨e0, e1⟩, e2⟩, e3⟩ := e
  have L1 := looks_typeIn (M := model P w) X (beq_iff_eq.mp e1)
  have L2 := looks_instIn (M := model P w) X (beq_iff_eq.mp e2)
  have L4 : Looks (model P w) hh (isSubtype (.ref 560) (.ref 437)) true := looks_mroIn X (beq_iff_eq.mp e3)
  have L3 : Looks (model P w) hh (isInstance (.ref x) (.ref 437)) true := ht.andThen L4
  refine wpAny_bind (L1.at ?_)
  rw [if_pos (by decide)]
  k_delta "plainIsInstance"
  unfold isType
  repeat lk
  unfold clsIn at e0
  split at e0
  · rename_i ho
    refine nd_load (X _ _ ho) (nd_pure (wpAny_pure ?_))
    simp only [Bool.not_true, Bool.false_eq_true, if_false]
    refine wpAny_bind (L3.at ?_)
    simp only [if_true]
    exact wpAny_pure (wpAny_pure h)
  · cases e0
end
end Mine
end
section
open PySem PySem.W PySem.W.X PyProof.Rows PySem.Calls
set_option maxRecDepth 100000
set_option maxHeartbeats 800000
namespace Mine
theorem slot_gen_ga : Slot "generator" "__getattribute__" "object.__getattribute__" :=
  .of (owner := "object") (n := "__getattribute__") (by rw [typeLookup_type, builtinLookup_eq_fast]; kernel_rfl) (by decide +kernel) (by decide +kernel) (by decide +kernel)
    (by first | exact .inl (by decide +kernel) | exact .inr (by decide +kernel)) (by rw [isSubtype_type]; kernel_rfl)
theorem gen_no_keys : typeLookup (.type "generator") "keys" = pure none := by rw [typeLookup_type, builtinLookup_eq_fast]; kernel_rfl
theorem gen_no_hook : typeLookup (.type "generator") "__getattr__" = pure none := by rw [typeLookup_type, builtinLookup_eq_fast]; kernel_rfl
theorem ga_miss_gen (a : Addr) (xs : Array Value) (sl : Array (Option Value)) (u : Tok) :
    Meets (Builtin.«object.__getattribute__» ⟨[.ref a, .str "keys" u], []⟩) (fun A R s => s.heap.get? a = some { cls := .type "generator", dict := none, data := .fields xs, slots := sl } ∧ raisesAttr (.ref a) "keys" A R s) :=
  Meets.of_wp fun prog w A R s hs => by
    obtain ⟨hp, g, d, tk, os⟩ := s
    obtain ⟨hx, hs⟩ := hs
    have hT : (⟨hp, g, d, tk, os⟩ : Shared).TypeIs (.ref a) "generator" := ⟨_, hx, rfl⟩
    have hmiss := gen_no_keys
    have hname : (["__module__", "__name__", "__qualname__", "__doc__", "__annotations__"] : List Str).contains "keys" = false := by decide
    unfold Builtin.«object.__getattribute__»
    repeat (any_goals (first | assumption | wp_step))
    exact wpAny_raiseAttrError hs.1 hs.2 (attrMsg_fits (by decide +kernel) (by decide))
section
variable {w : World} {A : Around} {E : Value → Shared → Prop} {h : Heap} {g : Array GenState} {d : Drawn} {t : Nat} {os : OsState} {a : Addr} {n : Nat}
theorem keys_none {Q : Option Value → Shared → Prop} (hh : A.handled = none) (hg : h.IsGen a n) (hdn : ∀ o, h.get? a = some o → o.dict = none)
    (hQ : ∀ h' tk, Keep h h' → Q none ⟨h', g, d, tk, os⟩) : wpAny (model P w) A (getAttr? (.ref a) "keys") Q E ⟨h, g, d, t, os⟩ := by
  obtain ⟨o, nm, qn, hx, hc, hdat, _⟩ := hg
  have hd := hdn o hx
  obtain ⟨c, dct, dat, sl⟩ := o
  simp only at hc hdat hd
  subst hc hdat hd
  have hT : ∀ tk', (⟨h, g, d, tk', os⟩ : Shared).TypeIs (.ref a) "generator" := fun _ => ⟨_, hx, rfl⟩
  have f1 := sub_AttributeError
  have f3 := slot_gen_ga.lookup
  have f4 := slot_gen_ga.bind (.ref a)
  have f5 := gen_no_hook
  unfold getAttr? getAttrBy? getAttrBy
  repeat (any_goals (first | assumption | exact hT _ | ((with_reducible show wpAny _ _ (call (Value.builtin "object.__getattribute__") _ _) _ _ _); refine call_meets slot_gen_ga (hT _) F.entry_object_getattribute (F.args_object_getattribute_2 _ _) (ga_miss_gen a _ sl _) ⟨hx, hh, fun h' tk' e hx' => ?_⟩) | wp_step))
  obtain ⟨t', u', he⟩ := hx'.there
  have k := hx'.keeps
  show wpAny _ _ (getattributeRaised _ _ _ _ _ _ _) _ _ _
  unfold getattributeRaised
  repeat (any_goals (first | assumption | wp_step))
  exact hQ _ _ k
end
end Mine
end
section
open PySem PySem.W PySem.W.X PyProof.Rows PySem.Calls
set_option maxRecDepth 100000
set_option maxHeartbeats 800000
namespace Mine
theorem entry_upd_loop : entryFor table "dict.update.loop" = some Builtin.«dict.update.loop» := entryFor_of_fast (by kernel_rfl)
theorem plain_upd_loop : plainId "dict.update.loop" = true := by decide +kernel
section
variable {w : World} {A : Around} {E : Value → Shared → Prop} {z : Zone} {fin : Result} {a o : Addr} {C : Value} {dx : Option Addr} {ks : List Str} {all : List PyData} {R : Result → Shared → Prop}
theorem DD.at' {h h' : Heap} {kvs : List (Str × Value)} {es : Array DictEntry} {ep : Nat} (D : DD w h o C dx kvs es ep) (x : ExtP z.gm h h') (hc : ∀ c, C = c → (∃ n, c = .type n) ∨ ∃ m, c = .ref m) (hC : o ∈ z.C) : DD w h' o C dx kvs es ep := by
  refine D.get ?_
  rw [D.at_]
  refine x.get D.at_ ?_ fun q => q.2.1 hC
  rcases hc C rfl with ⟨n, rfl⟩ | ⟨m, rfl⟩ <;> rfl
theorem upd_loop (hh : A.handled = none) (hA : Rm 500 A) (hfin : fin = .ok (.ret .none) ∨ fin = .ok .next) (hz : all.length ≤ 1000) (hC : z.C = [o]) (hnd : ks.Nodup) (hcls : C = .ref 437) (hl : ks.length = all.length)
    (hall : ∀ (j : Nat) (k : Str), ks[j]? = some k → ∃ d, all[j]? = some (PyData.tuple [PyData.str k, d])) :
    ∀ (m j : Nat) (s : Shared) (kvs : List (Str × Value)) (es : Array DictEntry) (ep : Nat), m + j = all.length → Feed w A.in1 z fin a all j s → DD w s.heap o C dx kvs es ep → kvs.map (·.1) = ks.take j →
    (∀ s' kvs' es' ep', TookS z o s s' → DD w s'.heap o C dx kvs' es' ep' → kvs'.map (·.1) = ks → R (.ok (.ret .none)) s') →
    codeAny (model P w) A (.builtin "dict.update.loop" ⟨[.ref o, .ref a, .int (j : Int) 0, .none], []⟩) R s := by
  have oC : o ∈ z.C := by rw [hC]; exact .head _
  have hcc : ∀ c, C = c → (∃ n, c = .type n) ∨ ∃ m, c = .ref m := fun c q => .inr ⟨437, q ▸ hcls⟩
  intro m
  induction m with
  | zero =>
    intro j s kvs es ep hm Fe D hk hR
    have hj : j = all.length := by omega
    have hCs : Cs z s.heap := fun c q => by rw [hC, List.mem_singleton] at q; exact ⟨_, q ▸ D.at_⟩
    refine codeAny_builtin entry_upd_loop ?_
    rw [Around.under_plainId plain_upd_loop]
    unfold Builtin.«dict.update.loop»
    refine wpAny_bind (Fe.stop hCs hh (hA.in1.dlt) hfin hj (fun s' wk => ?_))
    dsimp only
    unfold Builtin.Dict.addKeywords
    refine wpAny_bind (wpAny_pure ?_)
    refine wpAny_pure ?_
    exact hR s' kvs es ep (.of_woke wk) (D.at' wk.heap hcc oC) (by rw [hk, List.take_of_length_le (by omega)])
  | succ m ih =>
    intro j s kvs es ep hm Fe D hk hR
    have hj : j < ks.length := by omega
    have hCs : Cs z s.heap := fun c q => by rw [hC, List.mem_singleton] at q; exact ⟨_, q ▸ D.at_⟩
    obtain ⟨d, hd⟩ := hall j ks[j] (List.getElem?_eq_getElem hj)
    refine codeAny_builtin entry_upd_loop ?_
    rw [Around.under_plainId plain_upd_loop]
    unfold Builtin.«dict.update.loop»
    refine wpAny_bind (Fe.next hCs hh (hA.in1.dlt) hfin hd (fun v s' rd wk Fe' => ?_))
    have D' := D.at' wk.heap hcc oC
    have tw : TookS z o s s' := .of_woke wk
    have ok := Fe'.ok
    obtain ⟨ta, us, rfl, hfr, htp, hsz, hel⟩ : ∃ ta us, v = .ref ta ∧ z.fr s.heap ta ∧ IsTup s'.heap ta us ∧ us.size = 2 ∧ ∀ (i : Nat) (v : Value) (d' : PyData), us[i]? = some v → [PyData.str ks[j], d][i]? = some d' → RdP (z.fr s.heap) s'.heap v d' := by
      cases rd with
      | tup h1 h2 h3 h4 => exact ⟨_, _, rfl, h1, h2, h3, h4⟩
    obtain ⟨l⟩ := us
    obtain ⟨u, y, rfl⟩ : ∃ u y, l = [u, y] := by
      match l, hsz with
      | [u, y], _ => exact ⟨u, y, rfl⟩
    obtain ⟨tk, rfl⟩ := (hel 0 u _ rfl rfl).strE
    clear Fe D wk rd hCs hel hfr hsz
    obtain ⟨h, gn, dr, t, os⟩ := s'
    dsimp only at D' htp ⊢
    obtain ⟨ot, eot, cot, nt, dot⟩ := htp
    have LT : Looks (model P w) h (typeOf (.ref ta)) (.type "tuple") := cot ▸ (Looks.ld eot).andThen .now
    refine wpAny_bind (wpAny_holding (wpAny_bind ?_))
    refine wpAny_tryCatch ?_
    unfold Builtin.Dict.pairItems
    refine wpAny_bind (LT.here ?_)
    have q3 : (Value.type "tuple" == Value.type "list") = false := by decide
    have q4 : (Value.type "tuple" == Value.type "tuple") = true := by decide
    rw [if_pos (by rw [q3, q4]; rfl)]
    refine wpAny_bind (wpAny_seqItems eot dot (wpAny_pure ?_))
    dsimp only [Option.getD_some]
    refine wpAny_holding ?_
    unfold dictSet
    refine wpAny_holding (wpAny_bind ((KD w).pyHash (kd_is w ks[j] tk) ?_))
    have hn : ks[j] ∉ kvs.map (·.1) := by
      rw [hk]
      intro q
      obtain ⟨i', hi', e'⟩ := List.mem_take_iff_getElem.mp q
      have := List.pairwise_iff_getElem.mp hnd i' j (by omega) hj (by omega)
      exact this e'
    have hkl : kvs.length = j := by
      have := congrArg List.length hk
      rw [List.length_map, List.length_take] at this
      omega
    refine setHashed_DD (s := ⟨h, gn, dr, t + 1, os⟩) D' (by omega) hn fun h2 es2 ep2 D2 sb2 => ?_
    have ob : ∀ h3 : Heap, h3 = h2 → ∃ o', h3.get? o = some o' := fun _ e => ⟨_, e ▸ D2.at_⟩
    have e1 : (rawInt ((j : Int) + 1)) = Value.int ((j + 1 : Nat) : Int) 0 := by unfold rawInt; congr 1
    rw [e1]
    refine wpAny_pure ⟨plainId_quiet plain_upd_loop _, ih (j + 1) _ _ es2 ep2 (by omega) (Fe'.calm (Calm.but oC sb2.extBut ⟨_, D2.at_⟩)) D2 ?_ (fun s'' kvs' es' ep' tk' D3 hk3 => hR s'' kvs' es' ep' ?_ D3 hk3)⟩
    · rw [List.map_append, hk, List.take_succ_eq_append_getElem hj]; rfl
    · have sl : 604 ≤ o := ok.c o oC
      exact .trans (tabs_lm ok sl) (.trans (tabs_lm ok sl) tw (.of_but sb2.extBut)) tk'
end
section
variable {w : World} {A : Around} {E : Value → Shared → Prop} {h : Heap} {g : Array GenState} {d : Drawn} {t : Nat} {os : OsState} {x C dx a : Addr} {es : Array DictEntry} {ep n : Nat} {kvs : List (Str × Value)}
theorem run_init_gen {Q : PySem.Fin → Shared → Prop} (hh : A.handled = none) (X : (KK w).In h) (I : DD w h x (.ref C) (some dx) kvs es ep) (hg : h.IsGen a n) (hdn : ∀ o, h.get? a = some o → o.dict = none) (ho : mroIn (KK w) C (.type "collections.OrderedDict") = some false)
    (q : ∀ h' tk, Keep h h' → Q (.again (.builtin "dict.update.loop" ⟨[.ref x, .ref a, rawInt 0, .none], []⟩)) ⟨h', g, d, tk, os⟩) : wpAny (model P w) A (Builtin.«dict.__init__» ⟨[.ref x, .ref a], []⟩) Q E ⟨h, g, d, t, os⟩ := by
  have hI := I.at_
  obtain ⟨og, _, _, eg, cg, _⟩ := id hg
  have L : Looks (model P w) h (typeOf (.ref x)) (.ref C) := (Looks.ld hI).andThen .now
  have L2 : Looks (model P w) h (isSubtype (.ref C) (.type "collections.OrderedDict")) false := looks_mroIn X ho
  have L3 : Looks (model P w) h (typeOf (.ref a)) (.type "generator") := cg ▸ (Looks.ld eg).andThen .now
  unfold Builtin.«dict.__init__»
  repeat (first | (show wpAny _ _ (getAttr? _ _) _ _ _; refine keys_none hh hg hdn (fun h' tk k => Held.out ?_)) | simp only [Bool.false_eq_true, if_false] | lk)
  refine Held.in ?_
  refine ite_yes rfl ?_
  refine wpAny_bind (wpAny_rule ?_)
  refine wpAny_bind (wpAny_pyIter_gen (hg.keeps k) ?_)
  exact wpAny_pure (q h' tk k)
end
end Mine
end
section
open PySem PySem.W PySem.W.X PyProof.Rows PySem.Calls
set_option maxRecDepth 100000
set_option maxHeartbeats 800000
namespace Mine
local macro_rules | `(tactic| walk_at "nl") => `(tactic| refine name_local (Me.ns (by assumption)) (by first | assumption | rfl) ?_)
local macro_rules | `(tactic| walk_at "nb") => `(tactic| refine name_boot (by assumption) rfl rfl rfl (by boot_by_name) (by decide) ?_)
local macro_rules | `(tactic| walk_at "nt") => `(tactic| refine name_top (by assumption) rfl (by rfl) ?_)
theorem init_copy {w : World} {A : Around} {s : Shared} {R : Result → Shared → Prop} {o dxo b x dx dl ep0 : Addr} {es0 : Array DictEntry} {gs : List Grp} {hsh : Int} {t : Tok} {n c ep : Nat} {vs : Array Value} {es : Array DictEntry} (hA : Rm 430 A) (hh : A.handled = none) (T : TopH w s.heap)
    (I : DD w s.heap o (.ref 437) (some dxo) [] es0 ep0) (Io : s.heap.get? dxo = some emptyDict) (ho : 604 ≤ o)
    (X : WH w b s.heap x gs dx dl hsh t n c vs es ep) (hlow : 604 ≤ b) (hg : ∀ g ∈ gs, g.length ≤ 6) (hv : ∀ g ∈ gs, ∀ p ∈ g, p.2.length ≤ 6) (hn : gs.length ≤ 5)
    (hnd : ((mergeG gs).map (·.1)).Nodup) (hml : (mergeG gs).length ≤ 100) (hmv : ∀ p ∈ mergeG gs, p.2.length ≤ 1000)
    (hR : ∀ h' gn' tk kvs es ep, Ext [o] s.heap h' → (Bare s.gens → Bare gn') → DD w h' o (.ref 437) (some dxo) kvs es ep → kvs.map (·.1) = (mergeG gs).map (·.1) → R (.ok (.ret .none)) ⟨h', gn', s.drawn, tk, s.os⟩) :
    codeAny (model P w) A (.call (.ref 264) ⟨[.ref o, .ref x], []⟩) R s := by
  refine enterAt [(Str.ofString "self", .ref o), (Str.ofString "mapping", .ref x)] hA T (by rfl) (by rfl) (by rfl) (by rfl) (binds_K T.K rfl (by rfl) rfl rfl rfl) (by decide) (locs rfl) fun h₁ D hA' hh' => ?_
  replace hh' := hh'.trans hh
  have T1 := D.top T (by simp)
  have X1 := X.ext0 D.ext
  refine ks_wpAt_execs_cons ?_
  refine ks_wpAt_If (wpAt_of_wpAny ?_)
  refine wpAny_isTrue_Compare1 ?_
  walk_at "nl"
  refine wpAny_Constant_none ?_
  refine is_none ?_
  refine wpAny_truthy_bool ?_
  rw [if_neg (show ¬ ((Value.ref x == Value.none) = true) from Bool.false_ne_true)]
  refine ks_wpAt_execs_cons ?_
  refine ks_wpAt_If (wpAt_of_wpAny ?_)
  refine isTrue_plain ?_
  refine wpAny_Call_NameR ?_
  walk_at "nb"
  refine call_bi ?_
  refine wpAny_items_cons ?_
  walk_at "nl"
  refine wpAny_items_cons ?_
  walk_at "nt"
  refine wpAny_items_nil ?_
  refine call_isinstance_of (isy_nested T1.K ((Looks.ld X1.inst.at_).andThen .now) ?_) (fun q => by cases q)
  refine wpAny_truthy_bool ?_
  rw [if_pos rfl]
  refine ks_wpAt_execs_cons ?_
  refine ks_wpAt_Expr_any ?_
  have I4 := I.ext D.ext rfl (by simp)
  have J4 : Inst h₁ o 437 dxo emptyDict es0 ep0 := ⟨I4.at_, D.ext.get Io rfl (by simp)⟩
  refine super_call (x := o) (C := 437) (D := 437) (id := "dict.__init__") (BT := "method-wrapper") T1 D.ns J4.i (by rfl) rfl (by rfl) (by rfl) (by rfl) rfl (by rfl) (by rfl) (by rfl) (by rfl) rfl (by kernel_rfl) (by rfl) (by kernel_rfl) (by kernel_rfl)
    (.inl ⟨wd_init, rfl⟩) rfl rfl rfl rfl rfl rfl rfl rfl rfl (by decide) (fun q h5 nq hq k => ?_)
  have fq : s.heap.get? q = none := D.ext.fresh nq
  replace D := D.call (.of_keeps k)
  replace I4 := I4.keeps k
  replace X1 := X1.ext0 (.of_keeps k)
  replace T1 : TopH w h5 := T1.ext (.of_keeps k) (by simp)
  dsimp only
  clear J4 nq k h₁
  refine call_b (x := o) (T := "method-wrapper") (id := "dict.__init__") (.inl rfl) ?_
  refine wpAny_items_cons ?_
  refine genexp_make (c := 263) (a := 259) (hA'.dlt) rfl rfl (by decide) (by rfl) rfl rfl (by decide) rfl (by rfl) rfl rfl ?_
  have oL : o < h5.objs.size := Heap.lt_size I4.at_
  refine methodCall_KW ?_
  refine name_local D.ns (by rfl) ?_
  refine meth_WH (f := 522) T1 X1 (by kernel_rfl) (by rfl) (by kernel_rfl) ?_
  refine call_fn0 (by rfl) T1 ?_
  refine wpAny_call ?_
  refine clists_spec (hA'.mono (by decide)) hh' T1 X1 hlow hg hv hn (fun h6 gn6 tk6 v rv kvs es6 ep6 e6 bar6 hv6 Dr Gr lrv => ?_)
  dsimp only
  have kl : kvs.length = (mergeG gs).length := Gr.len
  refine iter_items hv6 Dr (by omega) ?_
  replace D := D.call e6
  have T6 : TopH w h6 := T1.ext e6 (by simp)
  have I6 := I4.ext e6 rfl (by simp)
  have E7 : Ext [] h6 (h6.push { cls := .type "dict_itemiterator", data := .fields #[.none, .bool false, .ref rv, .int 0 0, .int kvs.length 0, .int ep6 0, .none, .none] }) := Ext.push _ _
  have hit7 : IsItemIter (h6.push { cls := .type "dict_itemiterator", data := .fields #[.none, .bool false, .ref rv, .int 0 0, .int kvs.length 0, .int ep6 0, .none, .none] }) h6.objs.size rv 0 kvs.length ep6 .none .none := Heap.get?_push_size _ rfl
  have szp : (h6.push { cls := .type "dict_itemiterator", data := .fields #[.none, .bool false, .ref rv, .int 0 0, .int kvs.length 0, .int ep6 0, .none, .none] }).objs.size = h6.objs.size + 1 := by rw [Heap.size_push]
  have dlow : 604 ≤ h6.objs.size := T6.low
  have o6 : o < h6.objs.size := Heap.lt_size I6.at_
  have s6 : s.heap.objs.size < h6.objs.size := D.ns.lt
  replace D := D.call E7
  generalize hdi : h6.objs.size = di at hit7 szp dlow o6 s6 ⊢
  generalize h6.push { cls := .type "dict_itemiterator", data := .fields #[.none, .bool false, .ref rv, .int 0 0, .int kvs.length 0, .int ep6 0, .none, .none] } = h7 at D E7 hit7 szp ⊢
  refine ⟨T6.ext E7 (by simp), fun code h8 tk8 L E8 n8 le8 gen8 nL hdict => ?_⟩
  refine wpAny_items_nil ?_
  have e58 : Ext [] h5 h8 := (e6.trans E7 (by simp)).trans E8 (by simp)
  have hq8 : h8.get? q = some (bObj "method-wrapper" "dict.__init__" o) := e58.get hq rfl (by simp)
  refine ⟨hq8, ?_⟩
  refine wpAny_call ?_
  have T8 : TopH w h8 := T1.ext e58 (by simp)
  have I8 := I4.ext e58 rfl (by simp)
  have D8 := D.call E8
  have dil : di < L := Nat.lt_of_lt_of_le (szp ▸ Nat.lt_succ_self di) le8
  have hCL : L ∉ [o] := fun q => Nat.ne_of_gt (Nat.lt_trans o6 dil) (List.mem_singleton.mp q)
  have hCd : di ∉ [o] := fun q => Nat.ne_of_gt o6 (List.mem_singleton.mp q)
  have hCg : L + 1 ∉ [o] := fun q => Nat.ne_of_gt (Nat.lt_trans o6 (Nat.lt_succ_of_lt dil)) (List.mem_singleton.mp q)
  have ok : Zone.Ok ⟨di, di, [o], gn6.size⟩ := ⟨dlow, Nat.le_refl _, fun a q => by rw [List.mem_singleton.mp q]; exact ho⟩
  refine code_bound (.inl rfl) hq8 ((chk_init2 _ _) _ _) (fun _ => Code.quiet_builtin _ (by decide +kernel)) ent_init ?_
  refine run_init_gen hh' T8.K I8 gen8 hdict (by kernel_rfl) (fun h9 tk9 k9 => ?_)
  refine ⟨plainId_quiet plain_upd_loop _, ?_⟩
  refine upd_loop (z := ⟨di, di, [o], gn6.size⟩) (ks := (mergeG gs).map (·.1)) (all := listsD (mergeG gs)) (fin := .ok .next) hh' (hA'.mono (by decide)) (.inr rfl) (by unfold listsD; rw [List.length_map]; omega) rfl hnd rfl (by unfold listsD; rw [List.length_map, List.length_map])
    (fun j k e => ?_) _ 0 _ [] _ _ (Nat.add_zero _) (Feed.calm ?feed (Calm.keeps (t := tk8) k9)) (I8.keeps k9) rfl (fun s' kvs' es' ep' tw D' hk' => ?_)
  case feed =>
    refine ⟨ok, Nat.zero_le _, gen8, ⟨Nat.le_succ_of_le (Nat.le_of_lt dil), hCg⟩, T8.lim, _, Array.getElem?_push_size, rfl, fun s₁ cm cs => ⟨rfl, ?_⟩⟩
    have E68 : Ext [] h6 h8 := E7.trans E8 (by simp)
    have ns₁ : s₁.heap.Ns L _ := cm.heap.ns n8 fun o' e hd q => q.2 ⟨Nat.le_of_lt dil, hCL, .inl (.inl hd)⟩
    have hit8 : IsItemIter h8 di rv 0 kvs.length ep6 .none .none := E8.get hit7 rfl (by simp)
    have hit1 : IsItemIter s₁.heap di rv 0 kvs.length ep6 .none .none := cm.kept (s := (Shared.setGen ⟨h8, gn6.push _, s.drawn, tk8, s.os⟩ gn6.size .running)) hit8 it_g (Nat.le_refl _) hCd
    have G : GS ⟨di, di, [o], gn6.size⟩ h6 L _ s₁ s₁ := ⟨ok, hdi ▸ Nat.le_refl _, .refl _ _, Base.calm (s := (Shared.setGen ⟨h8, gn6.push _, s.drawn, tk8, s.os⟩ gn6.size .running)) ok (hdi ▸ Nat.le_refl _) (E68.mono (by simp)) cm, ns₁, ⟨Nat.le_of_lt dil, hCL⟩, cs⟩
    have c604 : ∀ c ∈ [o], 604 ≤ c := ok.c
    have cG : ∀ c ∈ [o], c < h5.objs.size ∨ h6.get? c = none := fun c q => .inl (by rw [List.mem_singleton.mp q]; exact oL)
    have cR : rv ∉ [o] := fun q => Nat.ne_of_gt (Nat.lt_of_lt_of_le oL lrv) (List.mem_singleton.mp q)
    have lll : (listsD (mergeG gs)).length = kvs.length := by unfold listsD; rw [List.length_map, kl]
    rw [Nat.sub_zero, lll]
    generalize hA2 : (A.deeper _).in1.in1 = A₂
    have hh₂ : A₂.handled = none := by rw [← hA2]; exact hh'
    clear hA2
    generalize hz' : (⟨di, di, [o], gn6.size⟩ : Zone) = z at G ok ⊢
    have zC : z.C = [o] := by rw [← hz']
    have zB : z.B = di := by rw [← hz']
    rw [← zC] at c604 cG cR hCd
    have dB : z.B ≤ di := Nat.le_of_eq zB
    generalize hmg : mergeG gs = mg at *
    clear hz' zC zB hit8 ns₁ cm cs gen8 n8 hit7 hCL hCg dil le8 nL szp D D8 I8 I6 I4 X X1 hR hdict e58 E8 E7 E68 T8 hq hq8 fq bar6 hdi hmg hA' hh' hv6 T T1 e6 lll k9
    refine (fun (key : ∀ s₀, GS z h6 L _ s₀ s₁ → Seg (model P w) _ _ _ _ s₀ _ _ _ s₁) => key _ G) ?_
    clear G
    intro s₀ G
    obtain ⟨h, gn, d, t, os⟩ := s₁
    refine seg_start (d := 0) rfl rfl rfl (fun Q q => kcp_self hit1 q) ?_
    refine seg_loop1 rfl (fun m n s₀ s => ∃ i mm ok ov, m + i = kvs.length ∧ n = kvs.length - i ∧ GS z h6 L mm s₀ s ∧ IsItemIter s.heap di rv i kvs.length ep6 ok ov) ?_ kvs.length _ _ _ ⟨0, _, _, _, rfl, rfl, G, hit1⟩
    clear G hit1 h gn d t os s₀
    rintro m n s₀ ⟨h, gn, d, t, os⟩ ⟨i, mm, ov, kv, hm, hn, G, hit⟩ IH
    have Dx := Dr.ext G.base rfl cR
    have Gx := Gr.ext G.base cG
    dsimp only at hit
    cases m with
    | zero =>
      have hi : i = kvs.length := by omega
      refine next_items_end (A := A₂.over _ _) hh₂ hit Dx (by omega) (fun h' he => ?_)
      dsimp only
      replace G := G.own (t' := t) he hit (fun _ _ q => nomatch q) it_g dB hCd
      exact ⟨rfl, by omega, G.turn⟩
    | succ m =>
      have hik : i < kvs.length := by omega
      have hi : i < mg.length := by omega
      obtain ⟨ns, la, eg, ev, hla, va, na, ela, ia⟩ := Gx.at_ i kvs[i].1 kvs[i].2 (List.getElem?_eq_getElem hik)
      have egi : mg[i] = (kvs[i].1, ns) := by rw [List.getElem?_eq_getElem hi] at eg; exact Option.some.inj eg
      refine next_items (k := kvs[i].1) (v := kvs[i].2) hit Dx (List.getElem?_eq_getElem hik) (fun tk h' hout htup kb => ?_)
      have gkeep : h'.get? h.objs.size = some { cls := .type "tuple", data := .seq #[.str kvs[i].1 tk, kvs[i].2] } := htup
      replace G := G.own (t' := t) (h' := h') (fun b o q e => kb b o q e) hit (fun _ _ q => nomatch q) it_g dB hCd
      dsimp only
      refine wpAny_letOwnedTupleGo_items hout (fun h3 hit3 sb3 => ?_)
      have tne : h.objs.size ≠ di := Nat.ne_of_gt (Heap.lt_size hit)
      have tup3 : IsTup h3 h.objs.size #[.str kvs[i].1 tk, kvs[i].2] := ⟨_, (sb3.2 _ tne).trans gkeep, rfl, 0, rfl⟩
      replace G := G.own (t' := t) (h' := h3) sb3.extBut hout (fun _ _ q => nomatch q) it_g dB hCd
      dsimp only
      refine assign_Tuple_tuple (A := A₂.over _ _) hh₂ tup3 rfl rfl (fun h5' he5 => ?_)
      dsimp only at he5 ⊢
      have ext5 := Ext.of_extBut he5
      replace G := G.ext (t' := t) ext5
      have hit5 : IsItemIter h5' di rv (i + 1) kvs.length ep6 (.str kvs[i].1 tk) kvs[i].2 := ext5.get hit3 rfl (by simp)
      clear Dx Gx hit hout htup kb gkeep tne tup3 sb3 hit3 he5 ext5 ela ia h' h3 h va na
      refine wpAny_assignInOrder_more ?_
      refine wpAny_assign_Name ?_
      refine wpAny_storeName_local rfl G.ns (fun h6' hn6 hs6 => ?_) rfl
      have hit6 : IsItemIter h6' di rv (i + 1) kvs.length ep6 (.str kvs[i].1 tk) kvs[i].2 := (hs6.2 di (Ne.symm (G.ne hit5 fun _ _ q => nomatch q))).trans hit5
      replace G := G.store (t' := t) hn6 hs6
      dsimp only
      clear hn6 hs6 hit5 h5'
      refine wpAny_assignInOrder_more ?_
      refine wpAny_assign_Name ?_
      refine wpAny_storeName_local rfl G.ns (fun h7' hn7 hs7 => ?_) rfl
      have hit7 : IsItemIter h7' di rv (i + 1) kvs.length ep6 (.str kvs[i].1 tk) kvs[i].2 := (hs7.2 di (Ne.symm (G.ne hit6 fun _ _ q => nomatch q))).trans hit6
      replace G := G.store (t' := t) hn7 hs7
      dsimp only
      clear hn7 hs7 hit6 h6'
      refine wpAny_assignInOrder_none ?_
      obtain ⟨n', rfl⟩ : ∃ n', n = n' + 1 := ⟨n - 1, by omega⟩
      have Gx := Gr.ext G.base cG
      obtain ⟨ns', la', eg', ev', hla', va, na, ela, ia⟩ := Gx.at_ i kvs[i].1 kvs[i].2 (List.getElem?_eq_getElem hik)
      rw [ev] at ev'; cases ev'
      have nse : ns = ns' := by rw [eg] at eg'; exact congrArg Prod.snd (Option.some.inj eg')
      subst nse
      have hns0 : ns.length ≤ 1000 := by have := hmv _ (List.getElem_mem hi); rwa [egi] at this
      have hva : va.size = ns.length := by have := ia_len ia; rwa [Array.length_toList] at this
      refine Tuple_ ?_
      refine wpAny_items_cons ?_
      refine name_local G.ns (by rw [if_neg (by decide), if_pos (by decide)]) ?_
      refine wpAny_items_cons ?_
      refine wpAny_Subscript_list_slice ?_
      refine name_local G.ns (by rw [if_pos (by decide)]) ?_
      refine wpAny_evalPart_none ?_
      refine wpAny_evalPart_none ?_
      refine ⟨la, va, none, none, ev, ⟨_, ela, rfl, na, rfl⟩, by rw [sizeLine_eq]; omega, .none, .none, ?_⟩
      dsimp only
      rw [slicePick_all]
      have kS : Keep h7' (h7'.push { cls := .type "slice", data := .fields #[.none, .none, .none] }) := fun b o e => Heap.get?_push_of_some _ e
      have szS : h7'.objs.size + 1 = (h7'.push { cls := .type "slice", data := .fields #[.none, .none, .none] }).objs.size := by rw [Heap.size_push]
      rw [szS]
      replace G := G.keeps (t' := t) kS
      have hit8 := kS _ _ hit7
      generalize h7'.push { cls := .type "slice", data := .fields #[.none, .none, .none] } = h8' at G hit8 ⊢
      have frl := G.frs
      have kL : Keep h8' (h8'.push { cls := .type "list", data := .seq va }) := fun b o e => Heap.get?_push_of_some _ e
      have eL : (h8'.push { cls := .type "list", data := .seq va }).get? h8'.objs.size = some { cls := .type "list", data := .seq va } := Heap.get?_push_size _ rfl
      replace G := G.keeps (t' := t) kL
      have hit9 := kL _ _ hit8
      dsimp only at frl
      generalize h8'.objs.size = nl at eL frl ⊢
      generalize h8'.push { cls := .type "list", data := .seq va } = h9' at G eL hit9 ⊢
      clear kL kS szS hit8 hit7 ela Gx h8' h7'
      refine wpAny_items_nil ?_
      refine wpAny_newObj_type ?_ (by show (2 : Nat) ≤ sizeLine; decide)
      have frs := G.frs
      have k5 : Keep h9' (h9'.push { cls := .type "tuple", data := .seq #[.str kvs[i].1 tk, .ref nl] }) := fun b o e => Heap.get?_push_of_some _ e
      have G6 := G.keeps (t' := t + 1 + 1) k5
      refine ⟨n', rfl, _, drop_len mg _ hi (by omega), .tup frs ⟨_, Heap.get?_push_size _ rfl, rfl, 0, rfl⟩ rfl ?_, G6.turn, fun s'' cm => ?_⟩
      · intro i' v' d' e1 e2
        rw [egi] at e2
        match i', e1, e2 with
        | 0, e1, e2 => cases e1; cases e2; exact .str _ _
        | 1, e1, e2 => cases e1; cases e2; exact .list frl ⟨_, k5 _ _ eL, rfl, 0, rfl⟩ (by rw [List.length_map]; exact hva) fun i v d e1 e2 => ia_rdp ia (by rwa [Array.getElem?_toList]) e2
        | n + 2, e1, e2 => simp at e1
      · exact IH m n' s'' s'' (Nat.lt_succ_self m) ⟨i + 1, _, _, _, by omega, by omega, G6.woken cm, cm.kept (k5 _ _ hit9) it_g dB hCd⟩
  · unfold listsD
    rw [List.getElem?_map] at e ⊢
    obtain ⟨p, ep, rfl⟩ := Option.map_eq_some_iff.mp e
    rw [ep]
    exact ⟨_, rfl⟩
  · obtain ⟨h', gn', d', tk', os'⟩ := s'
    obtain ⟨t1, t2, rfl, rfl⟩ := tw
    have D9 := D8.call (.of_keeps k9)
    dsimp only at t1 t2 D' ⊢
    repeat (refine wpAt_of_wpAny (wpAny_execs_nil ?_); dsimp only)
    refine hR h' gn' tk' kvs' es' ep' (Ext.p (m := [o]) (D9.ext.mono (by simp)) t1 (fun a o' o'' e _ n q => ?_) (tabs_lm ok ho) fun a q o' e => ?_) (fun q => t2 fun y hy => ?_) D' hk'
    · rcases q with q | q
      · exact absurd (Nat.lt_trans (Heap.lt_size e) s6) (Nat.not_lt.mpr q.1)
      · exact n (List.mem_singleton.mpr q)
    · rw [List.mem_singleton.mp q]; exact ⟨_, D'.at_⟩
    · rcases Array.mem_push.mp hy with hy | rfl
      · exact bar6 q y hy
      · rfl
end Mine
end
section
open PySem PySem.W PySem.W.X PyProof.Rows PySem.Calls
set_option maxRecDepth 100000
set_option maxHeartbeats 800000
namespace Mine
local macro_rules | `(tactic| walk_at "nl") => `(tactic| refine name_local (Me.ns (by assumption)) (by first | assumption | rfl) ?_)
local macro_rules | `(tactic| walk_at "nt") => `(tactic| refine name_top (by assumption) rfl (by rfl) ?_)
section
variable {w : World} {A : Around} {s : Shared} {R : Result → Shared → Prop} {b x dx dl : Addr} {gs : List Grp} {hsh : Int} {t : Tok} {n c ep : Nat} {vs : Array Value} {es : Array DictEntry}
theorem make_copy (hA : Rm 420 A) (hh : A.handled = none) (T : TopH w s.heap)
    (X : WH w b s.heap x gs dx dl hsh t n c vs es ep) (hlow : 604 ≤ b) (hg : ∀ g ∈ gs, g.length ≤ 6) (hv : ∀ g ∈ gs, ∀ p ∈ g, p.2.length ≤ 6) (hn : gs.length ≤ 5)
    (hnd : ((mergeG gs).map (·.1)).Nodup) (hml : (mergeG gs).length ≤ 100) (hmv : ∀ p ∈ mergeG gs, p.2.length ≤ 1000)
    (hR : ∀ h' gn' tk o dxo kvs es ep, Ext [] s.heap h' → (Bare s.gens → Bare gn') → s.heap.objs.size ≤ o → s.heap.objs.size ≤ dxo → h'.get? dxo = some emptyDict → DD w h' o (.ref 437) (some dxo) kvs es ep → kvs.map (·.1) = (mergeG gs).map (·.1) → R (.ok (.ret (.ref o))) ⟨h', gn', s.drawn, tk, s.os⟩) :
    codeAny (model P w) A (.call (.ref 437) ⟨[.ref x], []⟩) R s := by
  obtain ⟨h, g, d, t, os⟩ := s
  have K := T.K
  refine make_D (makesD_of K (makes_437 w)) (looks_findIn K (show findIn (KK w) (.ref 437) "__init__" = some (some (.ref 264)) by kernel_rfl)) (fun self => bind_fn K self (by rfl)) ?_
  dsimp only at T X hR K
  have k : ∀ b o, h.get? b = some o → ((h.push emptyDict).push (dInst 437 h.objs.size)).get? b = some o := fun b o e => Heap.get?_push_of_some _ (Heap.get?_push_of_some _ e)
  have e1 : ((h.push emptyDict).push (dInst 437 h.objs.size)).get? h.objs.size = some emptyDict := Heap.get?_push_of_some _ (Heap.get?_push_size _ rfl)
  have e2 : ((h.push emptyDict).push (dInst 437 h.objs.size)).get? (h.objs.size + 1) = some (dInst 437 h.objs.size) := by heap_get
  have f2 : h.get? (h.objs.size + 1) = none := by
    cases q : h.get? (h.objs.size + 1) with
    | none => rfl
    | some o => exact absurd (Heap.lt_size q) (Nat.not_lt.mpr (Nat.le_succ _))
  have ex := Ext.of_keeps k
  refine init_copy (o := h.objs.size + 1) (dxo := h.objs.size) ((hA.under rfl).mono (by decide)) hh (T.ext ex (by simp)) ⟨e2, fun _ q => by simp at q, .nil, List.nodup_nil⟩ e1 (Nat.le_succ_of_le T.low) (X.ext0 ex) hlow hg hv hn hnd hml hmv ?_
  intro h' gn' tk kvs es ep e bar D hk
  refine ⟨rfl, hR h' gn' tk _ h.objs.size kvs es ep (ex.trans e (by simp [f2])) bar (Nat.le_succ _) (Nat.le_refl _) (e.get e1 rfl (by simp)) D hk⟩
theorem copy_spec (hA : Rm 400 A) (hh : A.handled = none) (T : TopH w s.heap)
    (X : WH w b s.heap x gs dx dl hsh t n c vs es ep) (hlow : 604 ≤ b) (hg : ∀ g ∈ gs, g.length ≤ 6) (hv : ∀ g ∈ gs, ∀ p ∈ g, p.2.length ≤ 6) (hn : gs.length ≤ 5)
    (hnd : ((mergeG gs).map (·.1)).Nodup) (hml : (mergeG gs).length ≤ 100) (hmv : ∀ p ∈ mergeG gs, p.2.length ≤ 1000)
    (hR : ∀ h' gn' tk o dxo kvs es ep, Ext [] s.heap h' → (Bare s.gens → Bare gn') → s.heap.objs.size ≤ o → s.heap.objs.size ≤ dxo → h'.get? dxo = some emptyDict → DD w h' o (.ref 437) (some dxo) kvs es ep → kvs.map (·.1) = (mergeG gs).map (·.1) → R (.ok (.ret (.ref o))) ⟨h', gn', s.drawn, tk, s.os⟩) :
    codeAny (model P w) A (.call (.ref 536) ⟨[.ref x], []⟩) R s := by
  refine enter [(Str.ofString "self", .ref x)] hA T (by rfl) (by rfl) (by rfl) (by rfl) (BindsTo.of_eq rfl) (by decide) (locs rfl) fun h₁ D hA' hh' => ?_
  replace hh' := hh'.trans hh
  have T1 := D.top T (by simp)
  have X1 := X.ext0 D.ext
  have sz : s.heap.objs.size ≤ h₁.objs.size := Nat.le_of_lt D.ns.lt
  refine wpAny_execs_cons ?_
  refine wpAny_Return_some ?_
  refine wpAny_Call_NameR ?_
  walk_at "nt"
  refine call_fn (by rfl) ?_
  refine wpAny_items_cons ?_
  refine name_local D.ns (by rfl) ?_
  refine wpAny_items_nil ?_
  refine ⟨T1, ?_⟩
  refine wpAny_call ?_
  refine make_copy (hA'.mono (by decide)) hh' T1 X1 hlow hg hv hn hnd hml hmv fun h' gn' tk o dxo kvs es ep e bar lo ldx ed Dd hk => ?_
  exact hR h' gn' tk o dxo kvs es ep (D.ext.and e) bar (Nat.le_trans sz lo) (Nat.le_trans sz ldx) ed Dd hk
end
end Mine
end
section
open PySem PySem.W PySem.W.X PyProof.Rows PySem.Calls
set_option maxRecDepth 100000
set_option maxHeartbeats 800000
namespace Mine
local macro_rules | `(tactic| walk_at "nl") => `(tactic| refine name_local (Me.ns (by assumption)) (by first | assumption | rfl) ?_)
theorem ent_setdefault : entryFor table "dict.setdefault" = some Builtin.«dict.setdefault» := F.entry_dict_setdefault
section
variable {w : World} {A : Around} {E : Value → Shared → Prop} {h : Heap} {g : Array GenState} {d : Drawn} {t : Nat} {os : OsState} {x C dx : Addr} {es : Array DictEntry} {ep : Nat} {kvs : List (Str × Value)} {k : Str} {tk : Tok} {v : Value}
theorem run_setdefault {Q : PySem.Fin → Shared → Prop} (X : (KK w).In h) (I : DD w h x (.ref C) (some dx) kvs es ep) (hx : (x == sysModules) = false) (ho : mroIn (KK w) C (.type "collections.OrderedDict") = some false) (hz : kvs.length ≤ 1000) (hk : k ∉ kvs.map (·.1))
    (q : ∀ h' es' ep', DD w h' x (.ref C) (some dx) (kvs ++ [(k, v)]) es' ep' → Heap.SameBut x h h' → Q (.done (.ret v)) ⟨h', g, d, t + 1, os⟩) :
    wpAny (model P w) A (Builtin.«dict.setdefault» ⟨[.ref x, .str k tk, v], []⟩) Q E ⟨h, g, d, t, os⟩ := by
  have hI := I.at_
  have L : Looks (model P w) h (typeOf (.ref x)) (.ref C) := (Looks.ld hI).andThen .now
  have L2 : Looks (model P w) h (isSubtype (.ref C) (.type "collections.OrderedDict")) false := looks_mroIn X ho
  unfold Builtin.«dict.setdefault»
  repeat (first | (show wpAny _ _ (dictSetDefault _ _ _) _ _ _; refine setDefault_DD (s := ⟨h, g, d, t, os⟩) I hz (fun u hu => Held.out ?_) (fun hn h' es' ep' D sb => Held.out ?_)) | simp only [hx, Bool.false_eq_true, if_false] | lk)
  · refine Held.in ?_
    unfold valueAt at hu
    obtain ⟨kv, e, _⟩ := Option.map_eq_some_iff.mp hu
    exact absurd (List.mem_map.mpr ⟨kv, List.mem_of_find?_eq_some e, by simpa using List.find?_some e⟩) hk
  · refine Held.in ?_
    exact wpAny_pure (q _ _ _ D sb)
end
theorem madd_spec {w : World} {A : Around} {s : Shared} {R : Result → Shared → Prop} {o dxo ep : Addr} {kvs : List (Str × Value)} {es : Array DictEntry} {k : Str} {tk tv : Tok} {v : Int} (hA : Rm 500 A) (hh : A.handled = none) (T : TopH w s.heap)
    (I : DD w s.heap o (.ref 437) (some dxo) kvs es ep) (Io : s.heap.get? dxo = some emptyDict) (ho : 604 ≤ o) (hz : kvs.length ≤ 1000) (hk : k ∉ kvs.map (·.1))
    (hR : ∀ h' tk, Ext [o] s.heap h' → R (.ok (.ret .none)) ⟨h', s.gens, s.drawn, tk, s.os⟩) :
    codeAny (model P w) A (.call (.ref 296) ⟨[.ref o, .str k tk, .int v tv], []⟩) R s := by
  refine enterAt [(Str.ofString "self", .ref o), (Str.ofString "key", .str k tk), (Str.ofString "value", .int v tv)] hA T (by rfl) (by rfl) (by rfl) (by rfl) (BindsTo.of_eq rfl) (by decide) (locs rfl) fun h₁ D hA' hh' => ?_
  replace hh' := hh'.trans hh
  have T1 := D.top T (by simp)
  have I1 := I.ext D.ext rfl (by simp)
  have J1 : Inst h₁ o 437 dxo emptyDict es ep := ⟨I1.at_, D.ext.get Io rfl (by simp)⟩
  refine ks_wpAt_execs_cons ?_
  refine ks_wpAt_Expr_any ?_
  refine ks_wpAt_MethodCall ?_
  refine super_call (x := o) (C := 437) (D := 437) (id := "dict.setdefault") (BT := "builtin_function_or_method") T1 D.ns J1.i (by rfl) rfl (by rfl) (by rfl) (by rfl) rfl (by rfl) (by rfl) (by rfl) (by rfl) rfl (by kernel_rfl) (by rfl) (by kernel_rfl) (by kernel_rfl)
    (.inr ⟨md_setdefault, rfl⟩) rfl rfl rfl rfl rfl rfl rfl rfl rfl (by decide) (fun q h2 nq hq kp => ?_)
  have fq : s.heap.get? q = none := D.ext.fresh nq
  replace D := D.call (.of_keeps kp)
  replace I1 := I1.keeps kp
  replace T1 : TopH w h2 := T1.ext (.of_keeps kp) (by simp)
  have J2 : Inst h2 o 437 dxo emptyDict es ep := ⟨I1.at_, kp _ _ J1.own⟩
  dsimp only
  clear J1 nq kp h₁
  refine call_b (x := o) (T := "builtin_function_or_method") (id := "dict.setdefault") (.inr rfl) ?_
  refine wpAny_items_cons ?_
  walk_at "nl"
  refine wpAny_items_cons ?_
  refine wpAny_List ?_
  refine wpAny_items_nil ?_
  refine ⟨by simp, ?_⟩
  refine wpAny_items_nil ?_
  have kl : Keep h2 (h2.push { cls := .type "list", data := .seq #[] }) := fun b o e => Heap.get?_push_of_some _ e
  have el : (h2.push { cls := .type "list", data := .seq #[] }).get? h2.objs.size = some (lsObj #[] 0) := Heap.get?_push_size _ rfl
  have fl : s.heap.get? h2.objs.size = none := D.fresh
  have nl : s.heap.objs.size ≠ h2.objs.size := Nat.ne_of_lt D.ns.lt
  have no : h2.objs.size ≠ o := Nat.ne_of_gt (Heap.lt_size I1.at_)
  replace D := D.call (.of_keeps kl)
  replace I1 := I1.keeps kl
  replace T1 := T1.ext (.of_keeps kl) (by simp)
  replace hq := kl _ _ hq
  replace J2 : Inst _ o 437 dxo emptyDict es ep := ⟨I1.at_, kl _ _ J2.own⟩
  dsimp only
  change _ ∧ wpAny _ _ _ _ _ ⟨h2.push { cls := .type "list", data := .seq #[] }, _, _, _, _⟩
  generalize h2.objs.size = l at el fl nl no ⊢
  generalize h2.push { cls := .type "list", data := .seq #[] } = h3 at el D I1 T1 hq J2 ⊢
  refine ⟨hq, ?_⟩
  refine wpAny_call ?_
  have ck := chk_md (id := "dict.setdefault") (args := [.str k tk, .ref l]) T1.K J2.i (by rfl) (by kernel_rfl) (by rfl) (by decide +kernel) (by decide +kernel) (by kernel_rfl)
  refine code_bound (.inr rfl) hq ck (fun _ => Code.quiet_builtin _ (by decide +kernel)) ent_setdefault ?_
  refine run_setdefault T1.K I1 (not_sys ho) (by kernel_rfl) hz hk (fun h4 es4 ep4 D4 sb4 => ?_)
  dsimp only
  have el4 : h4.get? l = some (lsObj #[] 0) := (sb4.2 l no).trans el
  have oL : s.heap.objs.size ≠ o := Nat.ne_of_gt (Heap.lt_size I.at_)
  have n4 := D.ns.sameBut sb4 oL
  have E4 : Ext [o] s.heap h4 := (D.ext.mono (by simp)).trans (.sameBut sb4 ⟨_, D4.at_⟩) (by simp)
  refine getMethod_builtin ⟨_, el4, rfl⟩ F.plainAttrs_list F.slot_list_append F.type_list_append (fun b e => by cases e; exact ⟨_, el4, rfl⟩) ?_
  refine call_bi ?_
  refine wpAny_items_cons ?_
  refine name_local n4 (by rfl) ?_
  refine wpAny_items_nil ?_
  refine append_raw el4 (by simp) (fun h5 n5 e5 sb5 => ?_)
  dsimp only
  repeat (refine wpAt_of_wpAny (wpAny_execs_nil ?_); dsimp only)
  exact hR _ _ (E4.trans (.sameBut sb5 ⟨_, e5⟩) (fun a q => .inr (by rw [List.mem_singleton.mp q]; exact fl)))
end Mine
end
section
open PySem PySem.W PySem.W.X PyProof.Rows PySem.Calls
set_option maxRecDepth 100000
set_option maxHeartbeats 800000
namespace Mine
theorem entry_set_iter : entryFor table "set.__iter__" = some Builtin.«frozenset.__iter__» :=
  entryFor_alias (id' := "frozenset.__iter__") (by kernel_rfl) rfl (by decide +kernel) (by kernel_rfl)
theorem slot_seti_next : Slot "set_iterator" "__next__" "set_iterator.__next__" :=
  .of (owner := "set_iterator") (n := "__next__") (by rw [typeLookup_type, builtinLookup_eq_fast]; kernel_rfl) (by decide +kernel) (by decide +kernel) (by decide +kernel)
    (by first | exact .inl (by decide +kernel) | exact .inr (by decide +kernel)) (by rw [isSubtype_type]; kernel_rfl)
theorem entry_seti_next : entryFor table "set_iterator.__next__" = some Builtin.«set_iterator.__next__» := entryFor_of_tree (by kernel_rfl)
theorem args_seti_next (a : Value) : argsOk "set_iterator.__next__" ⟨[a], []⟩ := by unfold argsOk; kernel_rfl
section
variable {α : Type} {w : World} {A : Around} {E : Value → Shared → Prop} {M : Model}
theorem wpAny_choose {s : Shared} {src : Source} {n : Nat} {Q : Nat → Shared → Prop} (hn : n ≠ 0) (h : ∀ i, i < n → Q i { s with drawn := s.drawn.bump src }) : wpAny M A (choose src n) Q E s := fun Γ p hΓ => by
  unfold choose
  rw [Sem.wp_choose]
  exact ⟨hn, h _ (Nat.mod_lt _ (Nat.pos_of_ne_zero hn))⟩
theorem perm_erase : ∀ {l : List α} {i : Nat} (hi : i < l.length), (l[i] :: l.eraseIdx i).Perm l
  | a :: l, 0, _ => .refl _
  | a :: l, i + 1, hi => (List.Perm.swap _ _ _).trans (.cons a (perm_erase (l := l) (i := i) (by simpa using hi)))
theorem drawOrder_any : ∀ (n : Nat) (xs : List α) {s : Shared} {Q : List α → Shared → Prop}, xs.length = n → (∀ ys d', ys.Perm xs → Q ys { s with drawn := d' }) → wpAny M A (drawOrder n xs) Q E s
  | 0, xs, s, Q, hl, h => by
    obtain rfl := List.length_eq_zero_iff.mp hl
    unfold drawOrder
    exact wpAny_pure (h [] s.drawn (.refl _))
  | n + 1, [], s, Q, hl, h => by cases hl
  | n + 1, x :: l, s, Q, hl, h => by
    unfold drawOrder
    refine wpAny_bind (wpAny_choose (by simp) fun i hi => ?_)
    rw [List.getElem?_eq_getElem hi]
    refine wpAny_bind (drawOrder_any n ((x :: l).eraseIdx i) (by rw [List.length_eraseIdx, if_pos hi, hl]; rfl) fun ys d' p => ?_)
    exact wpAny_pure (h _ d' ((List.Perm.cons _ p).trans (perm_erase hi)))
theorem pick_go (f : Nat → Nat) : ∀ (n k : Nat) (l : List α) (out : Array α), l.length = n → (pickOrder.go f n k l out).toList.Perm (out.toList ++ l)
  | 0, k, l, out, hl => by
    obtain rfl := List.length_eq_zero_iff.mp hl
    unfold pickOrder.go
    simp
  | n + 1, k, l, out, hl => by
    unfold pickOrder.go
    have hi : f k % l.length < l.length := Nat.mod_lt _ (by omega)
    rw [List.getElem?_eq_getElem hi]
    dsimp only
    refine (pick_go f n (k + 1) _ _ (by rw [List.length_eraseIdx, if_pos hi, hl]; rfl)).trans ?_
    rw [Array.toList_push, List.append_assoc]
    exact List.Perm.append_left _ (perm_erase hi)
theorem pick_perm (f : Nat → Nat) (xs : Array α) : (pickOrder f xs).toList.Perm xs.toList := by
  unfold pickOrder
  exact (pick_go f xs.size 0 xs.toList #[] (by simp)).trans (by simp)
end
abbrev sIt (first : Value) (i : Nat) (S : Addr) (n ep : Nat) : Obj := { cls := .type "set_iterator", data := .fields #[first, .int (i : Int) 0, .ref S, .int (n : Int) 0, .int (ep : Int) 0] }
structure SIt (w : World) (h : Heap) (it S : Addr) (vs : List Value) (i : Nat) : Prop where
  at_ : ∃ o es ep t first, h.get? S = some o ∧ o.ExactSet ∧ o.data = .set es ep t ∧ t.fits es.size = true ∧ (byText w = false → t.led = true) ∧ h.get? it = some (sIt first i S es.size ep) ∧
    ((byText w = true ∧ first = .int 0 0 ∧ vs = (pickOrder (w.params.setOrder S ep) es).toList.map (·.2)) ∨
     (byText w = false ∧ ∃ tp, ∃ places : List Nat, first = .ref tp ∧ IsTup h tp (places.map fun p : Nat => Value.int (p : Int) 0).toArray ∧ places.Perm (List.range es.size) ∧ vs = places.filterMap (fun p => es[p]?.map (·.2))) ∨
     (byText w = false ∧ es.size ≤ 1 ∧ ∃ slot : Nat, first = .int (slot : Int) 0 ∧ SetTable.below t.place slot = i ∧ vs = es.toList.map (·.2)))
section
variable {w : World} {A : Around} {E : Value → Shared → Prop} {h h' : Heap} {gn : Array GenState} {d : Drawn} {t : Nat} {os : OsState} {S it : Addr} {vs : List Value} {i n : Nat}
theorem looks_by (h : Heap) : Looks (model P w) h setsByText (byText w) := fun _ _ _ _ _ q => by
  unfold setsByText
  exact wpAny_bind (wpAny_askSetting (wpAny_pure q))
theorem looks_state {o : Obj} {es : Array (Int × Value)} {ep : Nat} {tb : SetTable} (ho : h.get? S = some o) (hd : o.data = .set es ep tb) (hf : tb.fits es.size = true) : Looks (model P w) h (setState S) (es, ep, tb) :=
  fun _ _ _ _ k q => wpAny_setState_of (k _ _ ho) hd hf q
theorem pyIter_set {Sf : Str → Bool} {Q : Value → Shared → Prop} (X : SetL w h S Sf n)
    (hQ : ∀ h' it d' vs es, (∃ o ep tb, h.get? S = some o ∧ o.data = .set es ep tb) → Keep h h' → SIt w h' it S vs 0 → vs.Perm (es.toList.map (·.2)) → h.get? it = none → h.objs.size ≤ it → Q (.ref it) ⟨h', gn, d', t, os⟩) :
    wpAny (model P w) A (pyIter (.ref S)) Q E ⟨h, gn, d, t, os⟩ := by
  obtain ⟨o, es, ep, tb, ho, hx, hd, hel, _, hb, hf, hn, hl, hp⟩ := X
  have hT : (⟨h, gn, d, t, os⟩ : Shared).TypeIs (.ref S) "set" := ⟨o, ho, hx.1⟩
  have Ls : ∀ h, h.get? S = some o → Looks (model P w) h (setState S) (es, ep, tb) := fun h ho => looks_state ho hd hf
  refine wpAny_pyIter_slot hT F.slot_set_iter (wpAny_call_entry F.slot_set_iter hT entry_set_iter ?_ (F.args_set_iter_1 _))
  unfold Builtin.«frozenset.__iter__» Builtin.Frozenset.slot0 slotArgs
  simp only [List.isEmpty_nil, Bool.not_true, Bool.false_eq_true, ↓reduceIte, bind_assoc, List.length_nil, bne_self_eq_false]
  unfold Builtin.Frozenset.addrOf Builtin.Frozenset.sizeOf setDrawn
  have L1 := Ls h ho
  have L2 := looks_by (w := w) h
  repeat lk
  change wpAny _ _ (if (!byText w && (!tb.plain && decide (es.size > 1))) = true then _ else _) _ _ _
  have fin : ∀ (first : Value) (h1 : Heap) (d1 : Drawn) (vs : List Value), Keep h h1 → h.objs.size ≤ h1.objs.size → vs.Perm (es.toList.map (·.2)) →
      ((byText w = true ∧ first = .int 0 0 ∧ vs = (pickOrder (w.params.setOrder S ep) es).toList.map (·.2)) ∨
       (byText w = false ∧ ∃ tp, ∃ places : List Nat, first = .ref tp ∧ IsTup h1 tp (places.map fun p : Nat => Value.int (p : Int) 0).toArray ∧ places.Perm (List.range es.size) ∧ vs = places.filterMap (fun p => es[p]?.map (·.2))) ∨
       (byText w = false ∧ es.size ≤ 1 ∧ ∃ slot : Nat, first = .int (slot : Int) 0 ∧ SetTable.below tb.place slot = 0 ∧ vs = es.toList.map (·.2))) →
      wpAny (model P w) A.in1 (do let e ← setEpoch S; let v ← newFields "set_iterator" [first, rawInt 0, .ref S, rawInt es.size, rawInt e]; ret v)
        (fun fin s' => ∃ r, fin = Fin.done (Flow.ret r) ∧ (∃ T' r', s'.TypeIs r T' ∧ typeLookup (.type T') "__next__" = pure (some r') ∧ Q r s')) E ⟨h1, gn, d1, t, os⟩ := by
    intro first h1 d1 vs k hsz hp hord
    refine wpAny_bind (wpAny_setEpoch_of (k _ _ ho) hd hf ?_)
    refine wpAny_bind (wpAny_newObj_type ?_)
    have k2 : Keep h1 (h1.push (sIt first 0 S es.size ep)) := fun b o e => Heap.get?_push_of_some _ e
    have e2 : (h1.push (sIt first 0 S es.size ep)).get? h1.objs.size = some (sIt first 0 S es.size ep) := Heap.get?_push_size _ rfl
    refine wpAny_pure ⟨_, rfl, "set_iterator", _, ⟨_, e2, rfl⟩, slot_seti_next.lookup, hQ _ _ d1 vs es ⟨o, ep, tb, ho, hd⟩ (fun b o e => k2 b o (k b o e)) ⟨o, es, ep, tb, first, k2 _ _ (k _ _ ho), hx, hd, hf, hl, e2, ?_⟩ hp (get_fresh hsz) hsz⟩
    rcases hord with q | ⟨hby, tp, places, q1, ⟨ot, et, r⟩, q3, q4⟩ | q
    · exact .inl q
    · exact .inr (.inl ⟨hby, tp, places, q1, ⟨ot, k2 _ _ et, r⟩, q3, q4⟩)
    · exact .inr (.inr q)
  by_cases hby : byText w = true
  · rw [if_neg (by rw [hby]; simp)]
    refine wpAny_bind (wpAny_pure ?_)
    exact fin _ h d _ (fun _ _ e => e) (Nat.le_refl _) ((pick_perm _ es).map _) (.inl ⟨hby, rfl, rfl⟩)
  · have hby : byText w = false := by simpa using hby
    by_cases hsz : 1 < es.size
    · rw [if_pos (by rw [hby, hp (by omega)]; simpa using hsz)]
      refine wpAny_bind (drawOrder_any es.size _ (List.length_range) fun ys d' p => ?_)
      unfold newTuple
      refine wpAny_bind (wpAny_newObj_type ?_ (by show (List.map (fun i : Nat => rawInt (i : Int)) ys).toArray.size ≤ sizeLine; rw [List.size_toArray, List.length_map, p.length_eq, List.length_range]; exact fits_of_scanBound hb))
      refine fin _ _ d' (ys.filterMap fun p => es[p]?.map (·.2)) (fun b o e => Heap.get?_push_of_some _ e) (by rw [Heap.size_push]; exact Nat.le_succ _) ?_ (.inr (.inl ⟨hby, _, ys, rfl, ⟨_, Heap.get?_push_size _ rfl, rfl, 0, rfl⟩, p, rfl⟩))
      refine (p.filterMap _).trans ?_
      have : (List.range es.size).filterMap (fun p => es[p]?.map (·.2)) = es.toList.map (·.2) := by
        rw [← filterMap_getElem?_range es, List.map_filterMap]
      rw [this]
    · rw [if_neg (by simp; omega)]
      refine wpAny_bind (wpAny_pure ?_)
      refine fin _ h d _ (fun _ _ e => e) (Nat.le_refl _) (.refl _) (.inr (.inr ⟨hby, by omega, 0, rfl, ?_, rfl⟩))
      have hpl : tb.place.size = es.size := by
        simp only [SetTable.fits, Bool.and_eq_true, beq_iff_eq, decide_eq_true_eq] at hf
        exact hf.1
      have h01 : tb.place.size = 0 ∨ tb.place.size = 1 := by omega
      unfold SetTable.below
      rcases h01 with q | q <;> rw [q] <;> simp [SetTable.below.go]
theorem looks_walk {o : Obj} {es : Array (Int × Value)} {ep : Nat} {tb : SetTable} (ho : h.get? S = some o) (hd : o.data = .set es ep tb) (hf : tb.fits es.size = true) (hby : byText w = true) : Looks (model P w) h (setWalk S) (pickOrder (w.params.setOrder S ep) es) := by
  unfold setWalk
  refine (looks_state ho hd hf).andThen ?_
  refine (looks_by h).andThen ?_
  rw [hby]
  simp only [if_true]
  exact fun _ _ _ _ _ q => wpAny_bind (wpAny_askSetting (wpAny_pure q))
theorem looks_next1 {o : Obj} {es : Array (Int × Value)} {ep : Nat} {tb : SetTable} (ho : h.get? S = some o) (hd : o.data = .set es ep tb) (hf : tb.fits es.size = true) (hby : byText w = true) (slot : Nat) :
    Looks (model P w) h (setNext S slot i ep) ((pickOrder (w.params.setOrder S ep) es)[i]?.map fun e => (e.2, slot)) := by
  unfold setNext
  refine (looks_state ho hd hf).andThen ?_
  refine (looks_by h).andThen ?_
  rw [hby]
  simp only [if_true, bne_self_eq_false, Bool.false_eq_true, if_false]
  exact (looks_walk ho hd hf hby).andThen .now
theorem looks_next3 {o : Obj} {es : Array (Int × Value)} {ep : Nat} {tb : SetTable} (ho : h.get? S = some o) (hd : o.data = .set es ep tb) (hf : tb.fits es.size = true) (hby : byText w = false) (hl : tb.led = true) (h1 : es.size ≤ 1) (slot : Nat) :
    Looks (model P w) h (setNext S slot i ep) (match es[SetTable.below tb.place slot]?, tb.place[SetTable.below tb.place slot]? with
      | some (_, x), some j => some (x, j + 1)
      | _, _ => none) := by
  have e : setNext S slot i ep = (do
      let (es, epoch, t) ← setState S
      if ← setsByText then
        if epoch != ep then unsupported "set_iterator.__next__:elements-changed"
        return ((← setWalk S)[i]?).map fun e => (e.2, slot)
      if !t.plain && es.size > 1 then unsupported "set_iterator.__next__:the-table-is-plain-no-more"
      let _ ← (if (!t.led && !es.isEmpty) = true then (unsupported "set:maker-not-led" : Sem Unit) else pure ())
      let i := SetTable.below t.place slot
      return match es[i]?, t.place[i]? with
        | some (_, x), some j => some (x, j + 1)
        | _, _ => none) := by rfl
  rw [e]
  refine (looks_state ho hd hf).andThen ?_
  refine (looks_by h).andThen ?_
  rw [hby, hl]
  simp only [Bool.false_eq_true, if_false, Bool.not_true, Bool.false_and, gt_iff_lt, show ¬ (1 < es.size) by omega, decide_false, Bool.and_false]
  exact Looks.andThen (a := ()) .now .now
theorem looks_next2 {o : Obj} {es : Array (Int × Value)} {ep : Nat} {tb : SetTable} (ho : h.get? S = some o) (hd : o.data = .set es ep tb) (hf : tb.fits es.size = true) {p : Nat} {k : Int} {v : Value} (hv : es[p]? = some (k, v)) :
    Looks (model P w) h (setNextDrawn S p ep) v := by
  unfold setNextDrawn
  refine (looks_state ho hd hf).andThen ?_
  simp only [bne_self_eq_false, Bool.false_eq_true, if_false]
  rw [hv]
  exact .now
theorem places_get {es : Array (Int × Value)} : ∀ {places : List Nat} {i : Nat} {v : Value}, (∀ p ∈ places, p < es.size) → (places.filterMap (fun p => es[p]?.map (·.2)))[i]? = some v → ∃ p k, places[i]? = some p ∧ es[p]? = some (k, v)
  | [], i, v, _, h => by simp at h
  | p :: l, i, v, hp, h => by
    have hp0 := hp p (.head _)
    rw [List.filterMap_cons_some (b := es[p].2) (by rw [Array.getElem?_eq_getElem hp0]; rfl)] at h
    cases i with
    | zero => exact ⟨p, es[p].1, rfl, by rw [Array.getElem?_eq_getElem hp0]; simp at h; rw [← h]⟩
    | succ i => exact places_get (places := l) (fun q m => hp q (.tail _ m)) h
theorem places_len {es : Array (Int × Value)} : ∀ {places : List Nat}, (∀ p ∈ places, p < es.size) → (places.filterMap (fun p => es[p]?.map (·.2))).length = places.length
  | [], _ => rfl
  | p :: l, hp => by
    rw [List.filterMap_cons_some (b := es[p]'(hp p (.head _)) |>.2) (by rw [Array.getElem?_eq_getElem (hp p (.head _))]; rfl), List.length_cons, places_len (places := l) (fun q m => hp q (.tail _ m)), List.length_cons]
theorem next_set {v : Value} {Q : Option Value → Shared → Prop} (X : SIt w h it S vs i) (hx : vs[i]? = some v) (hne : S ≠ it)
    (hQ : ∀ h', SIt w h' it S vs (i + 1) → Heap.SameBut it h h' → Q (some v) ⟨h', gn, d, t, os⟩) :
    wpAny (model P w) A (pyNext (.ref it)) Q E ⟨h, gn, d, t, os⟩ := by
  obtain ⟨o, es, ep, tb, first, ho, hx2, hd, hf, hl, hit, hord⟩ := X
  have hT : (⟨h, gn, d, t, os⟩ : Shared).TypeIs (.ref it) "set_iterator" := ⟨_, hit, rfl⟩
  have L1 : Looks (model P w) h (setState S) (es, ep, tb) := looks_state ho hd hf
  have L2 := looks_by (w := w) h
  unfold pyNext
  refine wpAny_bind (wpAny_attempt (wpAny_callSpecial?_slot (name := Str.ofString "__next__") hT slot_seti_next
    (wpAny_call_entry slot_seti_next hT entry_seti_next ?_ (args_seti_next _))))
  unfold Builtin.«set_iterator.__next__»
  repeat (first | (with_reducible refine ite_no (by simp) ?_) | lk)
  rcases hord with ⟨hby, rfl, rfl⟩ | ⟨hby, tp, places, rfl, htp, hpp, rfl⟩ | ⟨hby, h1, slot, rfl, hsl, rfl⟩
  · dsimp only
    have Ln := looks_next1 (i := i) ho hd hf hby 0
    rw [List.getElem?_map, Array.getElem?_toList] at hx
    cases hp : (pickOrder (w.params.setOrder S ep) es)[i]? with
    | none => rw [hp] at hx; cases hx
    | some e =>
      rw [hp] at hx Ln
      replace hx : e.2 = v := Option.some.inj hx
      replace Ln : Looks (model P w) h (setNext S 0 i ep) (some (e.2, 0)) := Ln
      simp only [Int.toNat_natCast, Int.toNat_zero]
      repeat (first | (with_reducible refine wpAny_setField_rec hit (by simp) fun h₁ he₁ hs₁ => Held.out ?_) | lk)
      refine Held.in ?_
      have he₁' : h₁.get? it = some (sIt (.int 0 0) i S es.size ep) := he₁
      repeat (first | (with_reducible refine wpAny_setField_rec he₁' (by simp) fun h₂ he₂ hs₂ => Held.out ?_) | lk)
      refine Held.in ?_
      refine wpAny_pure ⟨_, rfl, wpAny_pure ?_⟩
      rw [hx]
      have he₂' : h₂.get? it = some (sIt (.int 0 0) (i + 1) S es.size ep) := by
        have e : ((i + 1 : Nat) : Int) = (i : Int) + 1 := by omega
        show _ = some ({ cls := .type "set_iterator", data := .fields #[.int 0 0, .int ((i + 1 : Nat) : Int) 0, .ref S, .int (es.size : Int) 0, .int (ep : Int) 0] } : Obj)
        rw [e]; exact he₂
      have sb : Heap.SameBut it h h₂ := Heap.SameBut.trans hs₁ hs₂
      exact hQ h₂ ⟨o, es, ep, tb, _, (sb.2 S hne).trans ho, hx2, hd, hf, hl, he₂', .inl ⟨hby, rfl, rfl⟩⟩ sb
  · obtain ⟨p, k, hpl, hpe⟩ := places_get (fun p q => List.mem_range.mp (hpp.mem_iff.mp q)) hx
    obtain ⟨ot, eot, cot, nt, dot⟩ := htp
    have Lq : Looks (model P w) h (seqItems? (.ref tp)) (some (places.map fun p : Nat => Value.int (p : Int) 0).toArray) := fun _ _ _ _ k q => wpAny_seqItems (k _ _ eot) dot q
    have Ln := looks_next2 (w := w) ho hd hf hpe
    have hpl2 : (places.map fun p : Nat => Value.int (p : Int) 0).toArray[i]? = some (.int (p : Int) 0) := by rw [List.getElem?_toArray, List.getElem?_map, hpl]; rfl
    have tne : tp ≠ it := fun q => by rw [q, hit] at eot; cases eot; exact absurd (show Value.type "set_iterator" = .type "tuple" from cot) (by decide)
    dsimp only
    simp only [Int.toNat_natCast]
    repeat lk
    rw [hpl2]
    simp only [Int.toNat_natCast]
    repeat (first | (with_reducible refine wpAny_setField_rec hit (by simp) fun h₁ he₁ hs₁ => Held.out ?_) | lk)
    refine Held.in ?_
    refine wpAny_pure ⟨_, rfl, wpAny_pure ?_⟩
    have he₁' : h₁.get? it = some (sIt (.ref tp) (i + 1) S es.size ep) := by
      have e : ((i + 1 : Nat) : Int) = (i : Int) + 1 := by omega
      show _ = some ({ cls := .type "set_iterator", data := .fields #[.ref tp, .int ((i + 1 : Nat) : Int) 0, .ref S, .int (es.size : Int) 0, .int (ep : Int) 0] } : Obj)
      rw [e]; exact he₁
    replace hs₁ : Heap.SameBut it h h₁ := hs₁
    exact hQ h₁ ⟨o, es, ep, tb, _, (hs₁.2 S hne).trans ho, hx2, hd, hf, hl, he₁', .inr (.inl ⟨hby, tp, places, rfl, ⟨ot, (hs₁.2 tp tne).trans eot, cot, nt, dot⟩, hpp, rfl⟩)⟩ hs₁
  · have Ln := looks_next3 (i := i) ho hd hf hby (hl hby) h1 slot
    rw [hsl] at Ln
    rw [List.getElem?_map, Array.getElem?_toList] at hx
    have hi : i < es.size := by
      rcases Nat.lt_or_ge i es.size with q | q
      · exact q
      · rw [Array.getElem?_eq_none q] at hx; cases hx
    have hpl : tb.place.size = es.size := by
      simp only [SetTable.fits, Bool.and_eq_true, beq_iff_eq, decide_eq_true_eq] at hf
      exact hf.1
    have hip : i < tb.place.size := by omega
    rw [Array.getElem?_eq_getElem hi] at hx Ln
    rw [Array.getElem?_eq_getElem hip] at Ln
    replace hx : es[i].2 = v := Option.some.inj hx
    replace Ln : Looks (model P w) h (setNext S slot i ep) (some (es[i].2, tb.place[i] + 1)) := Ln
    have hi0 : i = 0 := by omega
    have hb1 : SetTable.below tb.place (tb.place[i] + 1) = i + 1 := by
      subst hi0
      have q : tb.place.size = 1 := by omega
      unfold SetTable.below
      rw [q]
      simp [SetTable.below.go, Array.getD_eq_getD_getElem?, Array.getElem?_eq_getElem hip]
    dsimp only
    simp only [Int.toNat_natCast]
    repeat (first | (with_reducible refine wpAny_setField_rec hit (by simp) fun h₁ he₁ hs₁ => Held.out ?_) | lk)
    refine Held.in ?_
    have he₁' : h₁.get? it = some (sIt (.int ((tb.place[i] + 1 : Nat) : Int) 0) i S es.size ep) := he₁
    repeat (first | (with_reducible refine wpAny_setField_rec he₁' (by simp) fun h₂ he₂ hs₂ => Held.out ?_) | lk)
    refine Held.in ?_
    refine wpAny_pure ⟨_, rfl, wpAny_pure ?_⟩
    rw [hx]
    have he₂' : h₂.get? it = some (sIt (.int ((tb.place[i] + 1 : Nat) : Int) 0) (i + 1) S es.size ep) := by
      have e : ((i + 1 : Nat) : Int) = (i : Int) + 1 := by omega
      show _ = some ({ cls := .type "set_iterator", data := .fields #[.int ((tb.place[i] + 1 : Nat) : Int) 0, .int ((i + 1 : Nat) : Int) 0, .ref S, .int (es.size : Int) 0, .int (ep : Int) 0] } : Obj)
      rw [e]; exact he₂
    have sb : Heap.SameBut it h h₂ := Heap.SameBut.trans hs₁ hs₂
    exact hQ h₂ ⟨o, es, ep, tb, _, (sb.2 S hne).trans ho, hx2, hd, hf, hl, he₂', .inr (.inr ⟨hby, h1, _, rfl, hb1, rfl⟩)⟩ sb
theorem next_set_end {Q : Option Value → Shared → Prop} (hh : A.handled = none) (X : SIt w h it S vs i) (hx : vs.length ≤ i) (hne : S ≠ it)
    (hQ : ∀ h', Heap.ExtBut it h h' → Q none ⟨h', gn, d, t, os⟩) :
    wpAny (model P w) A (pyNext (.ref it)) Q E ⟨h, gn, d, t, os⟩ := by
  obtain ⟨o, es, ep, tb, first, ho, hx2, hd, hf, hl, hit, hord⟩ := X
  have hT : (⟨h, gn, d, t, os⟩ : Shared).TypeIs (.ref it) "set_iterator" := ⟨_, hit, rfl⟩
  have L1 : Looks (model P w) h (setState S) (es, ep, tb) := looks_state ho hd hf
  have L2 := looks_by (w := w) h
  unfold pyNext
  refine wpAny_bind (wpAny_attempt (wpAny_callSpecial?_slot (name := Str.ofString "__next__") hT slot_seti_next
    (wpAny_call_entry slot_seti_next hT entry_seti_next ?_ (args_seti_next _))))
  unfold Builtin.«set_iterator.__next__»
  repeat (first | (with_reducible refine ite_no (by simp) ?_) | lk)
  have stop : ∀ (h1 : Heap), Heap.ExtBut it h h1 → wpAny (model P w) A.in1 (newExc (.type "StopIteration") [] >>= fun e => (raiseNew e : Sem PySem.Fin)) (fun fin s' => ∃ v, fin = Fin.done (Flow.ret v) ∧ wpAny (model P w) A (pure (some v)) Q E s')
        (fun e s' => wpAny (model P w) A (do let __do_lift ← isInstance e (Value.type "StopIteration"); if __do_lift = true then pure none else throw e) Q E s') ⟨h1, gn, d, t, os⟩ := by
    intro h1 he
    refine wpAny_bind ?_
    unfold newExc newTuple
    refine wpAny_bind (wpAny_newObj_type ?_ (by size_fits))
    refine wpAny_bind (wpAny_of_eq (a := Value.none) (by first | rfl | (simp only [firstArgMember]; rfl)) (wpAny_newObj_type ?_ (by size_fits)))
    refine wpAny_raiseNew_none (A := A.in1) hh ?_
    refine wpAny_bind (wpAny_isInstance (T := "StopIteration") (b := true) ⟨_, Heap.get?_push_size _ rfl, rfl⟩ isSubtype_stop ?_)
    exact wpAny_pure (hQ _ ((he.push _).push _))
  rcases hord with ⟨hby, rfl, rfl⟩ | ⟨hby, tp, places, rfl, htp, hpp, rfl⟩ | ⟨hby, h1, slot, rfl, hsl, rfl⟩
  · have Ln := looks_next1 (i := i) ho hd hf hby 0
    rw [Array.getElem?_eq_none (by simpa using hx)] at Ln
    replace Ln : Looks (model P w) h (setNext S 0 i ep) none := Ln
    dsimp only
    simp only [Int.toNat_natCast, Int.toNat_zero]
    repeat (first | (with_reducible refine wpAny_setField hit rfl (by simp) (Held.out ?_)) | lk)
    refine Held.in ?_
    exact stop _ (Heap.SameBut.update ..).extBut
  · obtain ⟨ot, eot, cot, nt, dot⟩ := htp
    have Lq : Looks (model P w) h (seqItems? (.ref tp)) (some (places.map fun p : Nat => Value.int (p : Int) 0).toArray) := fun _ _ _ _ k q => wpAny_seqItems (k _ _ eot) dot q
    have hpl2 : (places.map fun p : Nat => Value.int (p : Int) 0).toArray[i]? = none := by
      rw [places_len (fun p q => List.mem_range.mp (hpp.mem_iff.mp q))] at hx
      rw [Array.getElem?_eq_none]; simpa using hx
    dsimp only
    simp only [Int.toNat_natCast]
    repeat lk
    rw [hpl2]
    dsimp only
    repeat (first | (with_reducible refine wpAny_setField_rec hit (by simp) fun h₁ he₁ hs₁ => Held.out ?_) | lk)
    refine Held.in ?_
    repeat (first | (with_reducible refine wpAny_setField he₁ rfl (by simp) (Held.out ?_)) | lk)
    refine Held.in ?_
    exact stop _ (Heap.SameBut.trans hs₁ (Heap.SameBut.update ..)).extBut
  · have Ln := looks_next3 (i := i) ho hd hf hby (hl hby) h1 slot
    rw [hsl] at Ln
    rw [Array.getElem?_eq_none (by simpa using hx)] at Ln
    replace Ln : Looks (model P w) h (setNext S slot i ep) none := Ln
    dsimp only
    simp only [Int.toNat_natCast]
    repeat (first | (with_reducible refine wpAny_setField hit rfl (by simp) (Held.out ?_)) | lk)
    refine Held.in ?_
    exact stop _ (Heap.SameBut.update ..).extBut
end
end Mine
end
section
open PySem PySem.W PySem.W.X PyProof.Rows PySem.Calls
set_option maxRecDepth 100000
set_option maxHeartbeats 800000
namespace Mine
section
variable {w : World} {A : Around} {E : Value → Shared → Prop} {h : Heap} {gn : Array GenState} {d : Drawn} {t : Nat} {os : OsState} {S : Addr} {vs : List Value} {ss : List Str} {n : Nat}
theorem sort_tail {Pp : PySem.Fin → Shared → Prop} (hS : StrsAre vs ss) (h64 : vs.length < 64)
    (hQ : ∀ h' L out ss', Keep h h' → h.get? L = none → h.objs.size ≤ L → h'.IsList L out → StrsAre out.toList ss' → ss'.Perm ss → sortedS ss' = true → Pp (.done (.ret (.ref L))) ⟨h', gn, d, t, os⟩) :
    wpAny (model P w) A (do let l ← newList vs; let _ ← holding [l] (call (.builtin "list.sort") [l] []); ret l) Pp E ⟨h, gn, d, t, os⟩ := by
  refine wpAny_bind (wpAny_newList ?_)
  have hoL : (h.push (seqObj "list" vs.toArray 0)).get? h.objs.size = some (seqObj "list" vs.toArray 0) := Heap.get?_push_size _ rfl
  dsimp only
  refine wpAny_bind (wpAny_holding (wpAny_call_entry slot_list_sort ⟨_, hoL, rfl⟩ entry_list_sort (list_sort_treeK strKind_oneLt hoL hS.keysOf (fun v₁ v₂ rest e => keyKind_strs (by rw [← e]; exact hS)) h64 fun st' hp hs => ⟨_, rfl, ?_⟩) (args_list_sort _)))
  obtain ⟨ss', h1, h2, h3⟩ := sorted_out_str hS hp hs
  obtain ⟨e, he⟩ := sortedHeap_at (vs := vs) (out := (arrOf st').map (·.2)) (n := 0) hoL
  refine wpAny_pure (hQ _ h.objs.size _ ss' (fun b o q => ?_) (get_size _) (Nat.le_refl _) ⟨_, he, rfl, _, rfl⟩ h1 h2 h3)
  have lt := Heap.lt_size q
  refine (sortedHeap_old (Nat.ne_of_lt lt) (by rw [Heap.size_push]; exact Nat.lt_succ_of_lt lt)).trans ?_
  exact Heap.get?_push_of_some _ q
theorem SIt.keep {h' : Heap} {it : Addr} {i : Nat} (X : SIt w h it S vs i) (k : ∀ b o, h.get? b = some o → o.cls ≠ .type "list" → h'.get? b = some o) : SIt w h' it S vs i := by
  obtain ⟨o, es, ep, tb, first, ho, hx2, hd, hf, hl, hit, hord⟩ := X
  refine ⟨o, es, ep, tb, first, k _ _ ho (by rw [hx2.1]; decide), hx2, hd, hf, hl, k _ _ hit (by show Value.type "set_iterator" ≠ _; decide), ?_⟩
  rcases hord with q | ⟨hby, tp, places, q1, ⟨ot, eot, cot, r⟩, q2⟩ | q
  · exact .inl q
  · exact .inr (.inl ⟨hby, tp, places, q1, ⟨ot, k _ _ eot (by rw [cot]; decide), cot, r⟩, q2⟩)
  · exact .inr (.inr q)
theorem set_extend {N it : Addr} {res : Value} {R : Result → Shared → Prop} (hh : A.handled = none) (hne : S ≠ it) (hNi : N ≠ it) (hz : vs.length ≤ 1000) :
    ∀ (m i : Nat) (h : Heap) (ys : Array Value) (ny : Nat), m + i = vs.length → SIt w h it S vs i → h.get? N = some (lsObj ys ny) → ys.toList = vs.take i →
    (∀ h' ny', (∀ b o, b ≠ it → b ≠ N → h.get? b = some o → h'.get? b = some o) → h'.get? N = some (lsObj vs.toArray ny') → R (.ok (.ret res)) ⟨h', gn, d, t, os⟩) →
    codeAny (model P w) A (.builtin "list.extend.loop" ⟨[.ref N, .ref it, res], []⟩) R ⟨h, gn, d, t, os⟩ := by
  intro m
  induction m with
  | zero =>
    intro i h ys ny hm X eN hy hR
    have hi : vs.length ≤ i := by omega
    refine codeAny_builtin PySem.F.entry_extend_loop ?_
    rw [Around.under_plainId PySem.F.plain_extend_loop]
    unfold Builtin.«list.extend.loop»
    refine wpAny_bind (next_set_end (A := A.in1) hh X hi hne fun h' he => ?_)
    refine wpAny_pure ?_
    rw [List.take_of_length_le hi] at hy
    have : ys = vs.toArray := by rw [← hy]
    exact hR h' ny (fun b o n1 _ e => he b o n1 e) (by rw [← this]; exact he _ _ hNi eN)
  | succ m ih =>
    intro i h ys ny hm X eN hy hR
    have hi : i < vs.length := by omega
    refine codeAny_builtin PySem.F.entry_extend_loop ?_
    rw [Around.under_plainId PySem.F.plain_extend_loop]
    unfold Builtin.«list.extend.loop»
    refine wpAny_bind (next_set (A := A.in1) X (List.getElem?_eq_getElem hi) hne fun h1 X1 sb1 => ?_)
    have eN1 : h1.get? N = some (lsObj ys ny) := (sb1.2 N hNi).trans eN
    have hys : ys.size ≤ 1000 := by rw [← Array.length_toList, hy, List.length_take]; omega
    refine wpAny_bind ?_
    show wpAny _ _ (updateSeq N (·.push vs[i])) _ _ _
    refine wpAny_updateSeq (hz := by rw [sizeLine_eq]; omega) eN1 rfl ?_
    obtain ⟨n', e⟩ : ∃ n', Obj.mapSeq (·.push vs[i]) (lsObj ys ny) = lsObj (ys.push vs[i]) n' := ⟨_, rfl⟩
    have sb : Heap.SameBut N h1 (h1.update N (Obj.mapSeq (·.push vs[i]))) := Heap.SameBut.update ..
    have e2 : (h1.update N (Obj.mapSeq (·.push vs[i]))).get? N = some (lsObj (ys.push vs[i]) n') := by rw [← e]; exact Heap.get?_update_self _ eN1 rfl
    dsimp only at sb e2 ⊢
    generalize h1.update N (Obj.mapSeq (·.push vs[i])) = h2 at sb e2 ⊢
    have X2 : SIt w h2 it S vs (i + 1) := X1.keep fun b o q c => by
      by_cases n : b = N
      · subst n; rw [eN1] at q; cases q; exact absurd rfl c
      · exact (sb.2 b n).trans q
    refine wpAny_pure ⟨plainId_quiet PySem.F.plain_extend_loop _, ih (i + 1) h2 _ n' (by omega) X2 e2 (by rw [Array.toList_push, hy, List.take_succ_eq_append_getElem hi]) (fun h' ny' k e' => hR h' ny' (fun b o n1 n2 q => k b o n1 n2 ((sb.2 b n2).trans ((sb1.2 b n1).trans q))) e')⟩
theorem hint_set {o : Obj} (eS : h.get? S = some o) (cS : o.cls = .type "set") : Looks (model P w) h (Builtin.List.listLengthHint (.ref S)) false := by
  intro A Q E s k q
  obtain ⟨h2, gn, d2, t, os⟩ := s
  have eS2 := k _ _ eS
  dsimp only at eS2
  have hT2 : (⟨h2, gn, d2, t, os⟩ : Shared).TypeIs (.ref S) "set" := ⟨o, eS2, cS⟩
  unfold Builtin.List.listLengthHint
  refine wpAny_bind (wpAny_specialOf hT2 F.slot_set_len.lookup ?_)
  have LT : Looks (model P w) h2 (typeOf (.ref S)) (.type "set") := cS ▸ (Looks.ld eS2).andThen .now
  have LI : Looks (model P w) h2 (isInstance (.ref S) (.type "set")) true := LT.andThen (Looks.of_pure sub_set_self)
  have hsp : splitId "set.__len__" = some ("set", "__len__") := by kernel_rfl
  simp only [hsp]
  repeat (first | lk)
  exact q
theorem collect_set {Sf : Str → Bool} {Q : List Value → Shared → Prop} (hh : A.handled = none) (X : SetL w h S Sf n) (hz : n ≤ 1000)
    (hQ : ∀ h' d' vs es, (∃ o ep tb, h.get? S = some o ∧ o.data = .set es ep tb) → Keep h h' → vs.Perm (es.toList.map (·.2)) → h.objs.size ≤ h'.objs.size → Q vs ⟨h', gn, d', t, os⟩) :
    wpAny (model P w) A (collect (.ref S)) Q E ⟨h, gn, d, t, os⟩ := by
  unfold collect
  refine wpAny_bind (wpAny_runValue (codeAny_builtin entry_proto_collect' ?_))
  show wpAny _ _ (do again (.builtin "list.__iadd__" ⟨[← newList [], .ref S], []⟩)) _ _ _
  refine wpAny_bind (wpAny_newList (wpAny_pure ⟨Code.quiet_builtin _ (by decide +kernel), codeAny_builtin entry_list_iadd' ?_⟩))
  show wpAny _ _ (Builtin.List.listExtendWith (.ref h.objs.size) (.ref S) (.ref h.objs.size)) _ _ ⟨h.push (lsObj #[] 0), _, _, _, _⟩
  have eN : (h.push (lsObj #[] 0)).get? h.objs.size = some (lsObj #[] 0) := Heap.get?_push_size _ rfl
  have k1 : Keep h (h.push (lsObj #[] 0)) := fun b o e => Heap.get?_push_of_some _ e
  have fN : h.get? h.objs.size = none := get_size _
  have sN : h.objs.size < (h.push (lsObj #[] 0)).objs.size := by rw [Heap.size_push]; exact Nat.lt_succ_self _
  have X1 : SetL w (h.push (lsObj #[] 0)) S Sf n := X.at fun o e _ _ => k1 _ _ e
  have hz0 : h.objs.size ≤ h.objs.size := Nat.le_refl _
  generalize hN : h.objs.size = N at eN fN sN hz0 ⊢
  generalize h.push (lsObj #[] 0) = h1 at eN k1 sN X1 ⊢
  obtain ⟨oS, eS, cS, _⟩ := X1.obj
  have hT : (⟨h1, gn, d, t, os⟩ : Shared).TypeIs (.ref S) "set" := ⟨oS, eS, cS⟩
  have hSN : S ≠ N := fun q => by obtain ⟨o, e, _⟩ := X.obj; rw [q, fN] at e; cases e
  unfold Builtin.List.listExtendWith
  refine wpAny_bind (wpAny_typeOf hT ?_)
  have q1 : Builtin.List.listSameRef (.ref N) (.ref S) = false := by simp [Builtin.List.listSameRef, Ne.symm hSN]
  have q2 : (Value.type "set" == Value.type "list") = false := by decide
  have q3 : (Value.type "set" == Value.type "tuple") = false := by decide
  simp only [q1, q2, q3, Bool.or_false, Bool.false_eq_true, if_false]
  refine wpAny_bind (pyIter_set X1 fun h2 it d2 vs es hes k2 X2 pm nit lit => ?_)
  have LH := hint_set (w := w) (k2 _ _ eS) cS
  refine wpAny_bind (wpAny_holding (LH.here ?_))
  refine ite_yes (by kernel_rfl) ?_
  refine wpAny_bind (wpAny_rule ?_)
  have eN2 : h2.get? N = some (lsObj #[] 0) := k2 _ _ eN
  have iN : it ≠ N := fun q => by rw [q, eN] at nit; cases nit
  have iS : S ≠ it := fun q => by rw [← q, eS] at nit; cases nit
  refine wpAny_bind ?_
  show wpAny _ _ (updateSeq N (·.push .none) >>= fun _ => updateSeq N (·.pop)) _ _ _
  refine wpAny_bind (wpAny_updateSeq eN2 rfl ?_)
  have s3 : Heap.SameBut N h2 (h2.update N (Obj.mapSeq (·.push Value.none))) := Heap.SameBut.update ..
  obtain ⟨n3, e3⟩ : ∃ n3, (h2.update N (Obj.mapSeq (·.push Value.none))).get? N = some (lsObj #[.none] n3) := ⟨_, Heap.get?_update_self _ eN2 rfl⟩
  dsimp only
  generalize h2.update N (Obj.mapSeq (·.push Value.none)) = h3 at s3 e3 ⊢
  refine wpAny_updateSeq (hz := by show (1 : Nat) ≤ sizeLine; decide) e3 rfl ?_
  have s4 : Heap.SameBut N h3 (h3.update N (Obj.mapSeq (·.pop))) := Heap.SameBut.update ..
  obtain ⟨n4, e4⟩ : ∃ n4, (h3.update N (Obj.mapSeq (·.pop))).get? N = some (lsObj #[] n4) := ⟨_, Heap.get?_update_self _ e3 rfl⟩
  dsimp only
  generalize h3.update N (Obj.mapSeq (·.pop)) = h4 at s4 e4 ⊢
  have sb4 : ∀ b, b ≠ N → h4.get? b = h2.get? b := fun b n => (s4.2 b n).trans (s3.2 b n)
  have X4 : SIt w h4 it S vs 0 := X2.keep fun b o q c => by
    by_cases n : b = N
    · subst n; rw [eN2] at q; cases q; exact absurd rfl c
    · exact (sb4 b n).trans q
  have esz : vs.length = n := by
    obtain ⟨o, ep, tb, e1, e2⟩ := hes
    obtain ⟨o', es', ep', tb', f1, f2, f3, _, _, _, _, f8, _⟩ := X1
    rw [e1] at f1; cases f1; rw [e2] at f3; cases f3
    rw [pm.length_eq, List.length_map, Array.length_toList]; exact f8
  refine wpAny_pure ⟨plainId_quiet PySem.F.plain_extend_loop _, ?_⟩
  refine set_extend hh iS (Ne.symm iN) (by omega) vs.length 0 h4 _ n4 (Nat.add_zero _) X4 e4 rfl (fun h' ny' k e' => ?_)
  show wpAny _ _ (do let o ← load N; match o.data with | .seq xs _ => pure xs.toList | _ => unsupported "internal:collect") _ _ _
  refine wpAny_bind (wpAny_load e' ?_)
  refine wpAny_pure ?_
  show Q vs _
  have hes' : ∃ o ep tb, h.get? S = some o ∧ o.data = .set es ep tb := by
    obtain ⟨o, ep, tb, e1, e2⟩ := hes
    obtain ⟨o', e3, _⟩ := X.obj
    rw [k1 _ _ e3] at e1; cases e1
    exact ⟨_, ep, tb, e3, e2⟩
  refine hQ h' d2 vs es hes' (fun b o q => ?_) pm (by rw [hN]; exact Nat.le_of_lt (Heap.lt_size e'))
  have bN : b ≠ N := fun z => by rw [z, fN] at q; cases q
  have bi : b ≠ it := fun z => by have := k1 _ _ q; rw [z, nit] at this; cases this
  exact k b o bi bN ((sb4 b bN).trans (k2 _ _ (k1 _ _ q)))
theorem sorted_set {Sf : Str → Bool} {Q : Value → Shared → Prop} (hh : A.handled = none) (X : SetL w h S Sf n) (hz : n < 64)
    (hQ : ∀ h' d' L out ss, Keep h h' → h.get? L = none → h.objs.size ≤ L → h'.IsList L out → StrsAre out.toList ss → sortedS ss = true → ss.length = n → (∀ k, Sf k = true ↔ k ∈ ss) → Q (.ref L) ⟨h', gn, d', t, os⟩) :
    wpAny (model P w) A (call (.builtin "sorted") [.ref S]) Q E ⟨h, gn, d, t, os⟩ := by
  refine Calls.call_function_entry kind_sorted plain_sorted entry_sorted (args_sorted1 _) ?_
  unfold Builtin.«sorted»
  refine wpAny_bind (m := checkCount "sorted" 1 1 _) (wpAny_pure ?_)
  refine wpAny_bind (collect_set (A := A.in1) hh X (by omega) fun h1 d1 vs es hes k1 pm sz => ?_)
  obtain ⟨o, ep, tb, e1, e2⟩ := hes
  obtain ⟨o', es', ep', tb', f1, f2, f3, f4, f5, _, _, f8, _⟩ := X
  rw [e1] at f1; cases f1; rw [e2] at f3; cases f3
  have hall : ∀ v, v ∈ vs → ∃ x t, v = .str x t := fun v hv => by
    obtain ⟨e, he, rfl⟩ := List.mem_map.mp (pm.mem_iff.mp hv)
    obtain ⟨⟨k, hk, _⟩, _⟩ := f4 e he
    obtain ⟨tk, e⟩ := Value.isStrOf_shape hk
    exact ⟨k, tk, e⟩
  have hS := strsAre_map vs hall
  have hlen : vs.length = n := by rw [pm.length_eq, List.length_map, Array.length_toList]; exact f8
  refine sort_tail hS (by omega) fun h' L out ss' k2 nL lL il sa p so => ?_
  refine ⟨_, rfl, hQ h' d1 L out ss' (fun b o e => k2 b o (k1 b o e)) ?_ (Nat.le_trans sz lL) il sa so (by rw [p.length_eq, List.length_map]; exact hlen) fun k => ?_⟩
  · exact get_fresh (Nat.le_trans sz lL)
  · rw [f5, p.mem_iff]
    constructor
    · rintro ⟨e, he, hk⟩
      obtain ⟨tk, ek⟩ := Value.isStrOf_shape hk
      exact List.mem_map.mpr ⟨e.2, pm.mem_iff.mpr (List.mem_map.mpr ⟨e, he, rfl⟩), by rw [ek]; rfl⟩
    · intro hk
      obtain ⟨v, hv, ev⟩ := List.mem_map.mp hk
      obtain ⟨e, he, rfl⟩ := List.mem_map.mp (pm.mem_iff.mp hv)
      obtain ⟨x, tk, ex⟩ := hall _ hv
      refine ⟨e, he, ?_⟩
      rw [ex] at ev ⊢
      replace ev : x = k := ev
      rw [← ev]; exact kd_is w x tk
theorem sorted_list {l : Addr} {ws : Array Value} {ks : List Str} {Q : Value → Shared → Prop} (hl : h.IsList l ws) (hS : StrsAre ws.toList ks) (hz : ks.length < 64)
    (hQ : ∀ h' L out ss, Keep h h' → h.get? L = none → h.objs.size ≤ L → h'.IsList L out → StrsAre out.toList ss → sortedS ss = true → ss.Perm ks → Q (.ref L) ⟨h', gn, d, t, os⟩) :
    wpAny (model P w) A (call (.builtin "sorted") [.ref l]) Q E ⟨h, gn, d, t, os⟩ := by
  have hz2 : ws.toList.length < 64 := by rw [StrsAre.length hS]; exact hz
  refine sorted_strs (s := ⟨h, gn, d, t, os⟩) (vs := ws.toList) hl hS hz2 fun out ss' a1 a2 a3 => ?_
  obtain ⟨e, he⟩ := sortedAll_at h ws.toList out
  exact hQ _ _ out ss' (fun b o q => sortedAll_old q) (get_fresh (Nat.le_succ _)) (Nat.le_succ _) ⟨_, he, rfl, _, rfl⟩ a1 a3 a2
end
end Mine
end
section
open PySem PySem.W PySem.W.X PyProof.Rows PySem.Calls
set_option maxRecDepth 100000
set_option maxHeartbeats 800000
namespace Mine
noncomputable def lawFd (w : World) : FuncData := match (KK w).lookup 603 with
  | some o => (match o.data with | .func fd => fd | _ => default)
  | none => default
noncomputable def lawSt (w : World) (i : Nat) : Stmt := match (lawFd w).body with
  | .stmts b => b.getD i (.Pass default)
  | _ => .Pass default
noncomputable abbrev lawEnv (w : World) (L : Addr) : Env := callEnvC (lawFd w) L 603
theorem nin {a c : Nat} (h : a ≠ c) : a ∉ [c] := fun q => h (List.mem_singleton.mp q)
structure LW (w : World) (h₀ : Heap) (b : Nat) (h : Heap) (m : Str → Option Value) (kv : Option Value) (st nb : Nat) (at_ : Nat) (x : Addr) (rows : List (List (Str × Int))) (pl : Addr) : Prop where
  T₀ : TopH w h₀
  D : Me [] h₀ h h₀.objs.size m []
  Ck : h.IsCell (h₀.objs.size + 2) kv
  Cs : h.IsCell (h₀.objs.size + 1) (some (.ref st))
  hb : h₀.objs.size + 2 < st ∧ st < b ∧ nb < b ∧ nb ≠ st ∧ h₀.objs.size + 2 < nb
  at_lt : at_ < 900000
  st : ∃ t1, h.IsList st #[.ref nb, .int at_ t1]
  nb : ∃ vs ns, h.IsList nb vs ∧ IntsAre vs.toList ns ∧ 0 < vs.size ∧ vs.size ≤ 100
  X : ∃ dx dl hsh t n c vs es ep, WH w b h x (rows.map grp) dx dl hsh t n c vs es ep
  pl : ∃ us, LsAt b h pl us ((plainOf rows).map pairD)
  nr : rows.length ≤ 4
  row : ∀ ps ∈ rows, ps.length ≤ 6 ∧ ∀ p ∈ ps, p.1 ∈ abcd ∧ 0 ≤ p.2 ∧ p.2 < 9
section
variable {w : World} {A : Around} {h₀ h h' : Heap} {b : Nat} {m m' : Str → Option Value} {kv kv' : Option Value} {st nb : Nat} {x pl : Addr} {at_ : Nat} {rows : List (List (Str × Int))}
theorem LW.top (X : LW w h₀ b h m kv st nb at_ x rows pl) : TopH w h := X.D.top X.T₀ (by simp)
theorem Me.fext {h₀ h h' : Heap} {L : Addr} {m : Str → Option Value} (D : Me [] h₀ h L m []) (y : FExt [L] h h') : Me [] h₀ h' L m [] :=
  ⟨D.ext.trans y.ext fun a q => by rw [List.mem_singleton.mp q]; exact D.offL, y.ns L (.head _) m D.ns, fun _ q => (nomatch q), List.nodup_nil, fun _ q => (nomatch q), fun _ q => (nomatch q), D.offL⟩
theorem Ext.list' {mod : List Addr} (x : Ext mod h h') {a : Addr} {vs : Array Value} (l : h.IsList a vs) (hm : a ∉ mod) : h'.IsList a vs := x.isList l hm
theorem LW.fext (X : LW w h₀ b h m kv st nb at_ x rows pl) (y : FExt [h₀.objs.size] h h') : LW w h₀ b h' m kv st nb at_ x rows pl := by
  obtain ⟨b1, b2, b3, b4, b5⟩ := X.hb
  have hm : ∀ a ∈ [h₀.objs.size], a < b ∨ h.get? a = none := fun a q => .inl (by rw [List.mem_singleton.mp q]; omega)
  obtain ⟨t1, est⟩ := X.st
  obtain ⟨vs, ns, enb, r⟩ := X.nb
  obtain ⟨dx, dl, hsh, t, n, c, vs', es, ep, W⟩ := X.X
  obtain ⟨us, ep'⟩ := X.pl
  exact ⟨X.T₀, X.D.fext y, y.ext.cell X.Ck (nin (by omega)), y.ext.cell X.Cs (nin (by omega)), X.hb, X.at_lt, ⟨t1, y.ext.isList est (nin (by omega))⟩, ⟨vs, ns, y.ext.isList enb (nin (by omega)), r⟩,
    ⟨dx, dl, hsh, t, n, c, vs', es, ep, W.ext y.ext hm⟩, ⟨us, ep'.ext y.ext hm⟩, X.nr, X.row⟩
theorem LW.ext (X : LW w h₀ b h m kv st nb at_ x rows pl) (y : Ext [] h h') : LW w h₀ b h' m kv st nb at_ x rows pl := X.fext (.of y)
theorem LW.store (X : LW w h₀ b h m kv st nb at_ x rows pl) (n : h'.Ns h₀.objs.size m') (hs : Heap.SameBut h₀.objs.size h h') : LW w h₀ b h' m' kv st nb at_ x rows pl := by
  obtain ⟨b1, b2, b3, b4, b5⟩ := X.hb
  have y : Ext [h₀.objs.size] h h' := .sameBut hs (let ⟨o, _, _, e, _⟩ := n; ⟨o, e⟩)
  have hm : ∀ a ∈ [h₀.objs.size], a < b ∨ h.get? a = none := fun a q => .inl (by rw [List.mem_singleton.mp q]; omega)
  obtain ⟨t1, est⟩ := X.st
  obtain ⟨vs, ns, enb, r⟩ := X.nb
  obtain ⟨dx, dl, hsh, t, n', c, vs', es, ep, W⟩ := X.X
  obtain ⟨us, ep'⟩ := X.pl
  exact ⟨X.T₀, X.D.store n hs, y.cell X.Ck (nin (by omega)), y.cell X.Cs (nin (by omega)), X.hb, X.at_lt, ⟨t1, y.isList est (nin (by omega))⟩, ⟨vs, ns, y.isList enb (nin (by omega)), r⟩,
    ⟨dx, dl, hsh, t, n', c, vs', es, ep, W.ext y hm⟩, ⟨us, ep'.ext y hm⟩, X.nr, X.row⟩
theorem LW.key (X : LW w h₀ b h m kv st nb at_ x rows pl) (c : h'.IsCell (h₀.objs.size + 2) kv') (hs : Heap.SameBut (h₀.objs.size + 2) h h') (off : h₀.get? (h₀.objs.size + 2) = none) : LW w h₀ b h' m kv' st nb at_ x rows pl := by
  obtain ⟨b1, b2, b3, b4, b5⟩ := X.hb
  have y : Ext [h₀.objs.size + 2] h h' := .sameBut hs (let ⟨o, e, _⟩ := c; ⟨o, e⟩)
  have hm : ∀ a ∈ [h₀.objs.size + 2], a < b ∨ h.get? a = none := fun a q => .inl (by rw [List.mem_singleton.mp q]; omega)
  obtain ⟨t1, est⟩ := X.st
  obtain ⟨vs, ns, enb, r⟩ := X.nb
  obtain ⟨dx, dl, hsh, t, n', c', vs', es, ep, W⟩ := X.X
  obtain ⟨us, ep'⟩ := X.pl
  have D' : Me [] h₀ h' h₀.objs.size m [] := X.D.own hs (let ⟨o, e, _⟩ := c; ⟨o, e⟩) (.inr off) (Nat.ne_of_lt (Nat.lt_add_of_pos_right (by decide)))
  exact ⟨X.T₀, D', c, y.cell X.Cs (nin (by omega)), X.hb, X.at_lt, ⟨t1, y.isList est (nin (by omega))⟩, ⟨vs, ns, y.isList enb (nin (by omega)), r⟩,
    ⟨dx, dl, hsh, t, n', c', vs', es, ep, W.ext y hm⟩, ⟨us, ep'.ext y hm⟩, X.nr, X.row⟩
theorem LW.next (X : LW w h₀ b h m kv st nb at_ x rows pl) {t3 : Tok} {k : Nat} (y : Ext [st] h h') (l : h'.IsList st #[.ref nb, .int (k : Nat) t3]) (hk : k < 900000) : LW w h₀ b h' m kv st nb k x rows pl := by
  obtain ⟨b1, b2, b3, b4, b5⟩ := X.hb
  have hm : ∀ a ∈ [st], a < b ∨ h.get? a = none := fun a q => .inl (by rw [List.mem_singleton.mp q]; omega)
  obtain ⟨vs, ns, enb, r⟩ := X.nb
  obtain ⟨dx, dl, hsh, t, n', c', vs', es, ep, W⟩ := X.X
  obtain ⟨us, ep'⟩ := X.pl
  have off : h₀.get? st = none := get_fresh (by omega)
  have D' : Me [] h₀ h' h₀.objs.size m [] := ⟨X.D.ext.trans y fun a q => by rw [List.mem_singleton.mp q]; exact .inr off, Ns_ext y X.D.ns (nin (by omega)), fun _ q => (nomatch q), List.nodup_nil, fun _ q => (nomatch q), fun _ q => (nomatch q), X.D.offL⟩
  exact ⟨X.T₀, D', y.cell X.Ck (nin (by omega)), y.cell X.Cs (nin (by omega)), X.hb, hk, ⟨t3, l⟩, ⟨vs, ns, y.isList enb (nin (by omega)), r⟩,
    ⟨dx, dl, hsh, t, n', c', vs', es, ep, W.ext y hm⟩, ⟨us, ep'.ext y hm⟩, X.nr, X.row⟩
end
end Mine
end
section
open PySem PySem.W PySem.W.X PyProof.Rows PySem.Calls
namespace Mine
theorem items_plain (rows : List (List (Str × Int))) : itemsC (rows.map grp) = (plainOf rows).map pairD := by
  unfold itemsC plainOf
  rw [List.flatMap_map, List.map_flatMap]
  congr 1
  funext r
  rw [grp_grpd]
  unfold itemsD un
  rw [List.map_flatMap]
  congr 1
  funext p
  rw [List.map_map]
  rfl
theorem plain_append (a b : List (List (Str × Int))) : plainOf (a ++ b) = plainOf a ++ plainOf b := by unfold plainOf; rw [List.flatMap_append]
theorem vals_plain (rows : List (List (Str × Int))) (k : Str) : valsOf (plainOf rows) k = rows.flatMap fun r => valsOf r k := by
  induction rows with
  | nil => rfl
  | cons r rows ih =>
    rw [List.flatMap_cons, ← ih]
    unfold plainOf
    rw [List.flatMap_cons, vals_append, vals_un]
theorem dk_none {ps : List (Str × Int)} {k : Str} : k ∈ dk ps ↔ valsOf ps k ≠ [] := ⟨vals_some, fun h => Decidable.byContradiction fun q => h (vals_none q)⟩
theorem dk_append (a b : List (Str × Int)) : dk (a ++ b) = b.foldl (fun l p => if p.1 ∈ l then l else l ++ [p.1]) (dk a) := by
  unfold dk; rw [List.foldl_append]
theorem dk_un_from (l : List Str) (ps : List (Str × Int)) : ∀ (ks : List Str), (∀ k ∈ ks, valsOf ps k ≠ []) →
    (un (ks.map fun k => (k, valsOf ps k))).foldl (fun l p => if p.1 ∈ l then l else l ++ [p.1]) l = ks.foldl (fun l k => if k ∈ l then l else l ++ [k]) l := by
  intro ks
  induction ks generalizing l with
  | nil => intro _; rfl
  | cons k ks ih =>
    intro h
    have hk := h k (.head _)
    unfold un
    rw [List.map_cons, List.flatMap_cons, List.foldl_append, List.foldl_cons]
    have : ∀ (ns : List Int) (l : List Str), ns ≠ [] → (ns.map fun n => (k, n)).foldl (fun l p => if p.1 ∈ l then l else l ++ [p.1]) l = if k ∈ l then l else l ++ [k] := by
      intro ns
      induction ns with
      | nil => intro l h; exact absurd rfl h
      | cons n ns ihn =>
        intro l _
        rw [List.map_cons, List.foldl_cons]
        dsimp only
        by_cases hl : k ∈ l
        · rw [if_pos hl]
          cases ns with
          | nil => rfl
          | cons m ns => rw [ihn l (by simp), if_pos hl]
        · rw [if_neg hl]
          cases ns with
          | nil => rfl
          | cons m ns => rw [ihn _ (by simp), if_pos (by simp)]
    rw [this _ _ hk]
    exact ih _ fun q m => h q (.tail _ m)
theorem u_cons (s : List Str) (p : Str × Int) (r : List (Str × Int)) : unseen s (p :: r) = if p.1 ∈ s then unseen s r else p :: unseen (p.1 :: s) r := rfl
theorem unseen_app (f : List (Str × Int)) : ∀ (seen : List Str) (a : List (Str × Int)), unseen seen (a ++ f) = unseen seen a ++ unseen ((unseen seen a).reverse.map (·.1) ++ seen) f := by
  intro seen a
  induction a generalizing seen with
  | nil => rfl
  | cons p a ih =>
    rw [List.cons_append, u_cons, u_cons]
    by_cases hp : p.1 ∈ seen
    · rw [if_pos hp, if_pos hp]; exact ih seen
    · rw [if_neg hp, if_neg hp, ih, List.cons_append, List.reverse_cons, List.map_append]
      simp
theorem unseen_congr (f : List (Str × Int)) : ∀ (s t : List Str), (∀ k, k ∈ s ↔ k ∈ t) → unseen s f = unseen t f := by
  induction f with
  | nil => intro s t _; rfl
  | cons p f ih =>
    intro s t h
    unfold unseen
    by_cases hp : p.1 ∈ s
    · rw [if_pos hp, if_pos ((h _).mp hp)]; exact ih s t h
    · rw [if_neg hp, if_neg fun q => hp ((h _).mpr q)]
      rw [ih (p.1 :: s) (p.1 :: t) fun k => by simp [h]]
theorem unseen_nodup (f : List (Str × Int)) : ∀ (s : List Str), (f.map (·.1)).Nodup → unseen s f = f.filter fun p => decide (p.1 ∉ s) := by
  induction f with
  | nil => intro s _; rfl
  | cons p f ih =>
    intro s h
    rw [List.map_cons, List.nodup_cons] at h
    unfold unseen
    by_cases hp : p.1 ∈ s
    · rw [if_pos hp, ih s h.2, List.filter_cons, if_neg (by simpa using hp)]
    · rw [if_neg hp, ih _ h.2, List.filter_cons, if_pos (by simpa using hp)]
      congr 1
      refine List.filter_congr fun q hq => ?_
      have : q.1 ≠ p.1 := fun e => h.1 (by rw [← e]; exact List.mem_map_of_mem (f := (·.1)) hq)
      simp [this]
theorem fold_add (ks : List Str) : ∀ l : List Str, ks.Nodup → ks.foldl (fun l k => if k ∈ l then l else l ++ [k]) l = l ++ ks.filter fun k => decide (k ∉ l) := by
  induction ks with
  | nil => intro l _; simp
  | cons k ks ih =>
    intro l h
    rw [List.nodup_cons] at h
    rw [List.foldl_cons]
    by_cases hk : k ∈ l
    · rw [if_pos hk, ih l h.2, List.filter_cons, if_neg (by simpa using hk)]
    · rw [if_neg hk, ih _ h.2, List.filter_cons, if_pos (by simpa using hk), List.append_assoc]
      congr 1
      rw [List.singleton_append]
      congr 1
      refine List.filter_congr fun q hq => ?_
      have : q ≠ k := fun e => h.1 (e ▸ hq)
      simp [this]
theorem plain_snoc (rows : List (List (Str × Int))) (r : List (Str × Int)) : plainOf (rows ++ [r]) = plainOf rows ++ un (grpd r) := by
  unfold plainOf; rw [List.flatMap_append, List.flatMap_cons, List.flatMap_nil, List.append_nil]
theorem dk_plain_snoc (rows : List (List (Str × Int))) (r : List (Str × Int)) : dk (plainOf (rows ++ [r])) = dk (plainOf rows) ++ (dk r).filter fun k => decide (k ∉ dk (plainOf rows)) := by
  rw [plain_snoc, dk_append]
  unfold grpd
  rw [dk_un_from _ r (dk r) fun k h => vals_some h, fold_add _ _ (dk_nodup r)]
theorem unseen_plain (rows : List (List (Str × Int))) : unseen [] ((rows.map grp).flatMap firstsP) = (dk (plainOf rows)).map fun k => (k, (valsOf (plainOf rows) k).headD 0) := by
  induction rows using snoc_ind with
  | h0 => rfl
  | h1 rows r ih =>
    rw [List.map_append, List.flatMap_append, unseen_app, ih, dk_plain_snoc, List.map_append]
    have hkeys : ((dk (plainOf rows)).map fun k => (k, (valsOf (plainOf rows) k).headD 0)).reverse.map (·.1) = (dk (plainOf rows)).reverse := by
      rw [← List.map_reverse, List.map_map]; exact List.map_id _
    congr 1
    · refine List.map_congr_left fun k hk => ?_
      have h1 : valsOf (plainOf (rows ++ [r])) k = valsOf (plainOf rows) k ++ valsOf (un (grpd r)) k := by rw [plain_snoc, vals_append]
      have h2 := vals_some hk
      rw [h1]
      cases h : valsOf (plainOf rows) k with
      | nil => exact absurd h h2
      | cons n ns => rfl
    · rw [hkeys, List.map_cons, List.map_nil, List.flatMap_cons, List.flatMap_nil, List.append_nil, List.append_nil]
      have hf : firstsP (grp r) = (dk r).map fun k => (k, (valsOf r k).headD 0) := by rw [grp_grpd]; unfold firstsP grpd; rw [List.map_map]; rfl
      have hn : ((firstsP (grp r)).map (·.1)).Nodup := by
        rw [hf, List.map_map]
        have : (fun p : Str × Int => p.1) ∘ (fun k => (k, (valsOf r k).headD 0)) = id := rfl
        rw [this, List.map_id]; exact dk_nodup r
      rw [unseen_nodup _ _ hn, hf, List.filter_map]
      have e1 : ((fun p : Str × Int => decide (p.1 ∉ (dk (plainOf rows)).reverse)) ∘ fun k => (k, (valsOf r k).headD 0)) = fun k => decide (k ∉ dk (plainOf rows)) := by
        funext k; simp
      rw [e1]
      refine List.map_congr_left fun k hk => ?_
      obtain ⟨h1, h2⟩ := List.mem_filter.mp hk
      have h3 : valsOf (plainOf (rows ++ [r])) k = valsOf r k := by
        rw [plain_snoc, vals_append, vals_none (by simpa using h2), vals_un]; rfl
      rw [h3]
abbrev headD (p : Str × List Int) : PyData := pairD (p.1, p.2.headD 0)
theorem firsts_plain (rows : List (List (Str × Int))) : firstsC (rows.map grp) = (grpd (plainOf rows)).map headD := by
  unfold firstsC
  rw [unseen_plain]
  unfold grpd
  rw [List.map_map, List.map_map]
  rfl
theorem mergeG_plain (rows : List (List (Str × Int))) : mergeG (rows.map grp) = grpd (plainOf rows) := merge_plain rows
theorem flatLen {α β : Type} (f : α → List β) (c : Nat) : ∀ l : List α, (∀ x ∈ l, (f x).length ≤ c) → (l.flatMap f).length ≤ c * l.length
  | [], _ => by simp
  | x :: l, h => by
    rw [List.flatMap_cons, List.length_append, List.length_cons, Nat.mul_succ]
    have h1 := h x (.head _)
    have h2 := flatLen f c l fun y hy => h y (.tail _ hy)
    omega
theorem plain_len {rows : List (List (Str × Int))} (hn : rows.length ≤ 4) (hr : ∀ ps ∈ rows, ps.length ≤ 6) : (plainOf rows).length ≤ 144 := by
  unfold plainOf
  have := flatLen (fun r : List (Str × Int) => un (grpd r)) 36 rows fun r hr' => by
    unfold un
    have h1 := flatLen (fun p : Str × List Int => p.2.map fun n => (p.1, n)) 6 (grpd r) fun p hp => by
      rw [List.length_map]
      rw [← grp_grpd] at hp
      exact Nat.le_trans (grp_each r p hp) (hr r hr')
    have h2 : (grpd r).length ≤ 6 := by rw [← grp_grpd]; exact Nat.le_trans (grp_len r) (hr r hr')
    omega
  omega
theorem nodup_sub {α : Type} [BEq α] [LawfulBEq α] : ∀ (l m : List α), l.Nodup → (∀ x ∈ l, x ∈ m) → l.length ≤ m.length
  | [], _, _, _ => Nat.zero_le _
  | x :: l, m, hn, hs => by
    rw [List.nodup_cons] at hn
    have hx : x ∈ m := hs x (.head _)
    have := nodup_sub l (m.erase x) hn.2 fun y hy => by
      have hne : y ≠ x := fun e => hn.1 (e ▸ hy)
      exact (List.mem_erase_of_ne hne).mpr (hs y (.tail _ hy))
    rw [List.length_erase_of_mem hx] at this
    have : 0 < m.length := List.length_pos_of_mem hx
    rw [List.length_cons]; omega
theorem perm_sub {α : Type} [BEq α] [LawfulBEq α] : ∀ (l m : List α), l.Nodup → (∀ x ∈ l, x ∈ m) → m.length ≤ l.length → m.Perm l
  | [], m, _, _, h => by
    have : m = [] := List.length_eq_zero_iff.mp (by simpa using h)
    rw [this]
  | x :: l, m, hn, hs, h => by
    rw [List.nodup_cons] at hn
    have hx : x ∈ m := hs x (.head _)
    have := perm_sub l (m.erase x) hn.2 (fun y hy => by
      have hne : y ≠ x := fun e => hn.1 (e ▸ hy)
      exact (List.mem_erase_of_ne hne).mpr (hs y (.tail _ hy))) (by rw [List.length_erase_of_mem hx]; rw [List.length_cons] at h; omega)
    exact (List.perm_cons_erase hx).trans (this.cons x)
theorem plain_mem {rows : List (List (Str × Int))} {k : Str} (h : k ∈ dk (plainOf rows)) : ∃ ps ∈ rows, ∃ n, (k, n) ∈ ps := by
  have h1 := vals_some h
  rw [vals_plain] at h1
  obtain ⟨n, hn⟩ := List.exists_mem_of_ne_nil _ h1
  obtain ⟨ps, hps, hm⟩ := List.mem_flatMap.mp hn
  obtain ⟨p, hp, e⟩ := List.mem_map.mp hm
  obtain ⟨hp1, hp2⟩ := List.mem_filter.mp hp
  have : p.1 = k := by simpa using hp2
  exact ⟨ps, hps, n, by rw [← this, ← e]; exact hp1⟩
theorem keys_abcd {rows : List (List (Str × Int))} (hr : ∀ ps ∈ rows, ps.length ≤ 6 ∧ ∀ p ∈ ps, p.1 ∈ abcd ∧ 0 ≤ p.2 ∧ p.2 < 9) {k : Str} (h : k ∈ dk (plainOf rows)) : k ∈ abcd := by
  obtain ⟨ps, hps, n, hn⟩ := plain_mem h
  exact ((hr ps hps).2 _ hn).1
theorem keysC_mem {rows : List (List (Str × Int))} {k : Str} : k ∈ keysC (rows.map grp) ↔ k ∈ dk (plainOf rows) := by
  rw [dk_none, vals_plain]
  unfold keysC
  rw [List.flatMap_map, List.mem_flatMap]
  constructor
  · rintro ⟨r, hr, hk⟩
    rw [grp_grpd, grpd_keys] at hk
    have := vals_some hk
    obtain ⟨n, hn⟩ := List.exists_mem_of_ne_nil _ this
    exact List.ne_nil_of_mem (List.mem_flatMap.mpr ⟨r, hr, hn⟩)
  · intro h
    obtain ⟨n, hn⟩ := List.exists_mem_of_ne_nil _ h
    obtain ⟨r, hr, hm⟩ := List.mem_flatMap.mp hn
    exact ⟨r, hr, by rw [grp_grpd, grpd_keys, dk_none]; exact List.ne_nil_of_mem hm⟩
theorem addK_nodup (l : List Str) (k : Str) (h : l.Nodup) : (addK l k).Nodup := by
  unfold addK
  split
  · exact h
  · rename_i hk
    exact List.nodup_append.mpr ⟨h, by simp, fun x hx y hy q => hk (by rw [← List.mem_singleton.mp hy, ← q]; exact hx)⟩
theorem distinct_nodup (ks : List Str) : (distinct ks).Nodup := by
  have key : ∀ (ks l : List Str), l.Nodup → (ks.foldl addK l).Nodup := by
    intro ks
    induction ks with
    | nil => intro l h; exact h
    | cons a ks ih => intro l h; rw [List.foldl_cons]; exact ih _ (addK_nodup l a h)
  exact key ks [] List.nodup_nil
theorem distinct_len (rows : List (List (Str × Int))) : (distinct (keysC (rows.map grp))).length = (dk (plainOf rows)).length := by
  refine Nat.le_antisymm (nodup_sub _ _ (distinct_nodup _) fun x hx => ?_) (nodup_sub _ _ (dk_nodup _) fun x hx => ?_)
  · exact keysC_mem.mp ((distinct_mem _ _).mp hx)
  · exact (distinct_mem _ _).mpr (keysC_mem.mpr hx)
end Mine
end
section
open PySem PySem.W PySem.W.X PyProof.Rows PySem.Calls PySem.SeqAt PySem.Spec
namespace Mine
theorem canAll {α : Type} (f : α → PyData) : ∀ l : List α, (∀ x ∈ l, (f x).canLay0 = true) → PyData.canLayAll0 (l.map f) = true
  | [], _ => rfl
  | x :: l, h => by rw [List.map_cons, PyData.canLayAll0, h x (.head _), canAll f l fun y hy => h y (.tail _ hy)]; rfl
theorem depAll {α : Type} (f : α → PyData) (c : Nat) : ∀ l : List α, (∀ x ∈ l, (f x).depth ≤ c) → PyData.depthAll (l.map f) ≤ c
  | [], _ => Nat.zero_le _
  | x :: l, h => by
    rw [List.map_cons, PyData.depthAll]
    have h1 := h x (.head _)
    have h2 := depAll f c l fun y hy => h y (.tail _ hy)
    exact Nat.max_le.mpr ⟨h1, h2⟩
theorem shapedList {α : Type} (f : α → PyData) (c : Nat) (l : List α) (hc : c ≤ 60) (h1 : ∀ x ∈ l, (f x).canLay0 = true) (h2 : ∀ x ∈ l, (f x).depth ≤ c) : shaped (.list (l.map f)) = true := by
  unfold shaped
  rw [PyData.canLay0, canAll f l h1, Bool.true_and]
  refine decide_eq_true ?_
  rw [PyData.depth]
  have := depAll f c l h2
  omega
theorem abcd_ok {k : Str} (h : k ∈ abcd) : PyData.strOk k = true := by
  unfold abcd at h
  simp only [List.mem_cons, List.not_mem_nil, or_false] at h
  rcases h with rfl | rfl | rfl | rfl <;> decide +kernel
theorem pair_can {p : Str × Int} (h : p.1 ∈ abcd) : (pairD p).canLay0 = true := by
  simp [PyData.canLay0, PyData.canLayAll0, abcd_ok h]
theorem pair_depth (p : Str × Int) : (pairD p).depth ≤ 3 := by
  simp [PyData.depth, PyData.depthAll]
theorem grpD_can {p : Str × List Int} (h : p.1 ∈ abcd) : (grpD p).canLay0 = true := by
  have : PyData.canLayAll0 (p.2.map .int) = true := canAll _ _ fun _ _ => rfl
  simp [PyData.canLay0, PyData.canLayAll0, abcd_ok h, this]
theorem grpD_depth (p : Str × List Int) : (grpD p).depth ≤ 6 := by
  have : PyData.depthAll (p.2.map .int) ≤ 1 := depAll _ 1 _ fun _ _ => by simp [PyData.depth]
  simp [PyData.depth, PyData.depthAll]
  omega
variable {rows : List (List (Str × Int))}
theorem plain_keys (hr : ∀ ps ∈ rows, ps.length ≤ 6 ∧ ∀ p ∈ ps, p.1 ∈ abcd ∧ 0 ≤ p.2 ∧ p.2 < 9) {p : Str × Int} (h : p ∈ plainOf rows) : p.1 ∈ abcd :=
  keys_abcd hr ((mem_dk _ _).mpr ⟨p.2, h⟩)
theorem shaped_plain (hr : ∀ ps ∈ rows, ps.length ≤ 6 ∧ ∀ p ∈ ps, p.1 ∈ abcd ∧ 0 ≤ p.2 ∧ p.2 < 9) : shaped (.list ((plainOf rows).map pairD)) = true :=
  shapedList _ 3 _ (by decide) (fun p hp => pair_can (plain_keys hr hp)) fun p _ => pair_depth p
theorem shaped_heads (hr : ∀ ps ∈ rows, ps.length ≤ 6 ∧ ∀ p ∈ ps, p.1 ∈ abcd ∧ 0 ≤ p.2 ∧ p.2 < 9) : shaped (.list ((grpd (plainOf rows)).map headD)) = true := by
  refine shapedList _ 3 _ (by decide) (fun p hp => ?_) fun p _ => pair_depth _
  obtain ⟨k, hk, rfl⟩ := List.mem_map.mp hp
  exact pair_can (keys_abcd hr hk)
theorem shaped_grpd (hr : ∀ ps ∈ rows, ps.length ≤ 6 ∧ ∀ p ∈ ps, p.1 ∈ abcd ∧ 0 ≤ p.2 ∧ p.2 < 9) : shaped (.list ((grpd (plainOf rows)).map grpD)) = true := by
  refine shapedList _ 6 _ (by decide) (fun p hp => ?_) fun p _ => grpD_depth _
  obtain ⟨k, hk, rfl⟩ := List.mem_map.mp hp
  exact grpD_can (keys_abcd hr hk)
theorem shaped_ints (ns : List Int) : shaped (.list (ns.map .int)) = true :=
  shapedList _ 1 _ (by decide) (fun _ _ => rfl) fun _ _ => by simp [PyData.depth]
theorem shaped_keys {ks : List Str} (h : ∀ k ∈ ks, k ∈ abcd) : shaped (.list (ks.map .str)) = true :=
  shapedList _ 1 _ (by decide) (fun k hk => by rw [PyData.canLay0]; exact abcd_ok (h k hk)) fun _ _ => by simp [PyData.depth]
end Mine
end
section
open PySem PySem.W PySem.W.X PyProof.Rows PySem.Calls PySem.SeqAt PySem.Spec
set_option maxRecDepth 100000
set_option maxHeartbeats 800000
namespace Mine
local macro_rules | `(tactic| walk_at "nb") => `(tactic| refine name_boot (by assumption) rfl rfl rfl (by boot_by_name) (by decide) ?_)
local macro_rules | `(tactic| walk_at "nt") => `(tactic| refine name_top (by assumption) rfl (by rfl) ?_)
section
variable {w : World} {A : Around} {E : Value → Shared → Prop} {s : Shared} {env : Env} {pos : Pos} {first : List Value}
theorem call_fnk0 {a : Addr} {kws : List Keyword} {Q : Value → Shared → Prop} (hk : keepIn (KK w) (.ref a) = true)
    (h : wpAny (model P w) A (evalAll ((backToKw pos (keywordEach kws env)).map (·.2))) (fun ks s₂ => TopH w s₂.heap ∧ wpAny (model P w) A (call (.ref a) (first ++ []) (((backToKw pos (keywordEach kws env)).filterMap (·.1)).zip ks)) Q E s₂) E s)
    (hall : (backToKw pos (keywordEach kws env)).all (·.1.isSome) = true := by rfl) (hplain : ((backTo pos (starEach [] env)).any (·.1) || (backToKw pos (keywordEach kws env)).any (·.1.isNone)) = false := by rfl) :
    wpAny (model P w) A (callWith pos (.ref a) first (backTo pos (starEach [] env)) (backToKw pos (keywordEach kws env))) Q E s :=
  callWith_of hplain (keeps_fn hk) (evalArgs_kw2_nil hall h)
end
section
variable {w : World} {A : Around} {E : Value → Shared → Prop} {h₀ h : Heap} {gn : Array GenState} {d : Drawn} {t : Nat} {os : OsState} {b st nb : Nat} {m : Str → Option Value} {kv : Option Value} {x pl : Addr} {at_ : Nat} {rows : List (List (Str × Int))}
theorem grp_small (hr : ∀ ps ∈ rows, ps.length ≤ 6 ∧ ∀ p ∈ ps, p.1 ∈ abcd ∧ 0 ≤ p.2 ∧ p.2 < 9) : (∀ g ∈ rows.map grp, g.length ≤ 6) ∧ (∀ g ∈ rows.map grp, ∀ p ∈ g, p.2.length ≤ 6) ∧ (∀ g ∈ rows.map grp, ∀ p ∈ g, p.2 ≠ []) := by
  refine ⟨fun g q => ?_, fun g q p hp => ?_, fun g q p hp => ?_⟩
  · obtain ⟨ps, hps, rfl⟩ := List.mem_map.mp q
    exact Nat.le_trans (grp_len ps) (hr ps hps).1
  · obtain ⟨ps, hps, rfl⟩ := List.mem_map.mp q
    exact Nat.le_trans (grp_each ps p hp) (hr ps hps).1
  · obtain ⟨ps, hps, rfl⟩ := List.mem_map.mp q
    rw [grp_grpd] at hp
    obtain ⟨k, hk, rfl⟩ := List.mem_map.mp hp
    exact vals_some hk
theorem items_multi {Q Q₀ : Value → Shared → Prop} (hK : ∀ g s₁, wpAny (model P w) A (call (.type "list") [g]) Q E s₁ → Q₀ g s₁) (hA : Rm 420 A) (hh : A.handled = none) (X : LW w h₀ b h m kv st nb at_ x rows pl)
    (hQ : ∀ h' gn' tk S ys, LW w h₀ b h' m kv st nb at_ x rows pl → (Bare gn → Bare gn') → LsAt h.objs.size h' S ys ((plainOf rows).map pairD) → Ext [] h h' → Q (.ref S) ⟨h', gn', d, tk, os⟩) :
    wpAny (model P w) A (call (.ref 508) [.ref x] [(Str.ofString "multi", .bool true)]) Q₀ E ⟨h, gn, d, t, os⟩ := by
  refine wpAny_mono (Q := fun g s₁ => wpAny (model P w) A (call (.type "list") [g]) Q E s₁) ?_ hK fun _ _ q => q
  have T := X.top
  obtain ⟨dx, dl, hsh, t', n, c, vs, es, ep, W⟩ := X.X
  have low : 604 ≤ b := Nat.le_trans X.T₀.low (by have := X.hb; omega)
  obtain ⟨g1, g2, g3⟩ := grp_small X.row
  refine wpAny_call ?_
  refine citems_feed (hA.mono (by decide)) T W low (fun g q => Nat.le_trans (g1 g q) (by decide)) (fun g q p hp => Nat.le_trans (g2 g q p hp) (by decide)) (fun h' tk gn' k bg feed => ?_)
  have F := feed A.in1.in1 [] (hA.in1.in1.mono (by decide)) hh (by simp)
  dsimp only at k F ⊢
  rw [items_plain] at F
  refine list_feed (hh := hh) (hA.mono (by decide)) (.inl rfl) ?_ rfl F (fun s' S ys tk' ls => ?_)
  · rw [List.length_map]; have := plain_len X.nr fun ps q => (X.row ps q).1; omega
  · obtain ⟨h2, gn2, d2, t2, os2⟩ := s'
    obtain ⟨e1, e2, rfl, rfl⟩ := tk'
    have e : Ext [] h h2 := Ext.p (.of_keeps k) e1 (fun a o o' e _ _ q => absurd (Heap.lt_size e) (Nat.not_lt.mpr q.1)) F.ok.gm_tabs (by simp)
    exact hQ h2 gn2 t2 S ys (X.ext e) (fun q => e2 fun y hy => by
      rcases Array.mem_push.mp hy with hy | rfl
      · exact q y hy
      · exact bg) ls e
theorem items_first {Q Q₀ : Value → Shared → Prop} (hK : ∀ g s₁, wpAny (model P w) A (call (.type "list") [g]) Q E s₁ → Q₀ g s₁) (hA : Rm 420 A) (hh : A.handled = none) (X : LW w h₀ b h m kv st nb at_ x rows pl)
    (hQ : ∀ h' gn' tk S ys, LW w h₀ b h' m kv st nb at_ x rows pl → (Bare gn → Bare gn') → LsAt h.objs.size h' S ys ((grpd (plainOf rows)).map headD) → Ext [] h h' → Q (.ref S) ⟨h', gn', d, tk, os⟩) :
    wpAny (model P w) A (call (.ref 508) [.ref x] []) Q₀ E ⟨h, gn, d, t, os⟩ := by
  refine wpAny_mono (Q := fun g s₁ => wpAny (model P w) A (call (.type "list") [g]) Q E s₁) ?_ hK fun _ _ q => q
  have T := X.top
  obtain ⟨dx, dl, hsh, t', n, c, vs, es, ep, W⟩ := X.X
  have low : 604 ≤ b := Nat.le_trans X.T₀.low (by have := X.hb; omega)
  obtain ⟨g1, g2, g3⟩ := grp_small X.row
  have hpl := plain_len X.nr fun ps q => (X.row ps q).1
  have hdk := dk_len (plainOf rows)
  refine wpAny_call ?_
  refine cfirsts_feed (hA.mono (by decide)) T W low (fun g q => Nat.le_trans (g1 g q) (by decide)) (fun g q p hp => Nat.le_trans (g2 g q p hp) (by decide)) g3 ?_ (fun h' tk gn' k bg feed => ?_)
  · have := flatLen firstsP 6 (rows.map grp) fun g q => by unfold firstsP; rw [List.length_map]; exact g1 g q
    rw [List.length_map] at this
    have := X.nr
    omega
  have F := feed A.in1.in1 [] (hA.in1.in1.mono (by decide)) hh (by simp)
  dsimp only at k F ⊢
  rw [firsts_plain] at F
  refine list_feed (hh := hh) (hA.mono (by decide)) (.inl rfl) ?_ rfl F (fun s' S ys tk' ls => ?_)
  · rw [List.length_map]; unfold grpd; rw [List.length_map]; omega
  · obtain ⟨h2, gn2, d2, t2, os2⟩ := s'
    obtain ⟨e1, e2, rfl, rfl⟩ := tk'
    have e : Ext [] h h2 := Ext.p (.of_keeps k) e1 (fun a o o' e _ _ q => absurd (Heap.lt_size e) (Nat.not_lt.mpr q.1)) F.ok.gm_tabs (by simp)
    exact hQ h2 gn2 t2 S ys (X.ext e) (fun q => e2 fun y hy => by
      rcases Array.mem_push.mp hy with hy | rfl
      · exact q y hy
      · exact bg) ls e
def headOf : PyData → Option PyData
  | .tuple [.str k, .list (.int n :: _)] => some (.tuple [.str k, .int n])
  | _ => none
theorem head_grp (g : Grp) (h : ∀ p ∈ g, p.2 ≠ []) : (g.map grpD).filterMap headOf = g.map headD := by
  induction g with
  | nil => rfl
  | cons p g ih =>
    have hp := h p (.head _)
    obtain ⟨k, ns⟩ := p
    cases ns with
    | nil => exact absurd rfl hp
    | cons n ns =>
      rw [List.map_cons, List.filterMap_cons_some (b := headD (k, n :: ns)) (by rfl), List.map_cons, ih fun q m => h q (.tail _ m)]
theorem LW.bsz (X : LW w h₀ b h m kv st nb at_ x rows pl) : b ≤ h.objs.size := by
  obtain ⟨dx, dl, hsh, t', n, c, vs, es, ep, W⟩ := X.X
  exact Nat.le_trans W.lx (Nat.le_of_lt (Heap.lt_size W.dd.at_))
theorem head_turn {l : Addr} {s₁ : Shared} {cl : List (Str × Addr)} {env : Env} {scope : Scope} {px py pos p1 p2 p3 p4 : Pos} {k : Nat} {ck : Nat} (hh : A.handled = none) (hk : scope.kind = .function)
    (hx : ∀ C, (cenvOf scope cl C env).kindOf "key" = some .local) (hy : ∀ C, (cenvOf scope cl C env).kindOf "values" = some .local) {g : Str × List Int} (hg : g.2 ≠ []) (hz : g.2.length ≤ 1000) :
    TurnOk w A (.Tuple [.Name "key" p1, .Subscript (.Name "values" p2) (.Constant (.int 0) ck p3) p4] k pos) (.Tuple [.Name "key" px, .Name "values" py] k pos) [] scope cl env s₁ l (grpD g) headOf := by
  obtain ⟨key, ns⟩ := g
  dsimp only at hg hz
  cases ns with
  | nil => exact absurd rfl hg
  | cons n ns =>
    refine TurnOk.pair hh hk hx hy (by decide) fun E p h' tk C mm u z hp hC kp nC fC mx my ru rz => ?_
    rw [show headOf (.tuple [.str key, .list ((n :: ns).map .int)]) = some (.tuple [.str key, .int n]) from rfl]
    refine wpAny_tests_nil ⟨rfl, ?_⟩
    obtain ⟨a, vs, rfl, _, la, ia⟩ := rz.intsE
    have hva : vs.size ≤ 1000 := by have := ia_len ia; rw [Array.length_toList] at this; dsimp only at this; omega
    have hv0 : 0 < vs.size := by have := ia_len ia; rw [Array.length_toList] at this; rw [this]; simp
    obtain ⟨tn, e0⟩ := ia_get ia (i := 0) (n := n) rfl
    rw [Array.getElem?_toList] at e0
    refine Tuple_ ?_
    refine wpAny_items_cons ?_
    refine name_local nC mx ?_ hk (hx C)
    refine wpAny_items_cons ?_
    refine Subscript_ ?_
    refine name_local nC my ?_ hk (hy C)
    refine wpAny_Constant_int ?_
    refine item_list la (by decide) (by omega) e0 ?_
    refine wpAny_items_nil ?_
    refine wpAny_newObj_type ?_ (by show (2 : Nat) ≤ sizeLine; decide)
    have kt : Keep h' (h'.push { cls := .type "tuple", data := .seq #[u, .int n tn] }) := fun b o e => Heap.get?_push_of_some _ e
    refine ⟨.tup (hp _ nC.lt) ⟨_, Heap.get?_push_size _ rfl, rfl, 0, rfl⟩ rfl fun i v d e1 e2 => ?_, _, _, _, rfl, fun b o _ e => kt b o e, nC.push _⟩
    match i, e1, e2 with
    | 0, e1, e2 => cases e1; cases e2; exact ru.keep fun a o _ e => kt a o e
    | 1, e1, e2 => cases e1; cases e2; exact .int _ _
    | i + 2, e1, e2 => simp at e1
theorem law_7 {Q : Flow → Shared → Prop} (hA : Rm 400 A) (hh : A.handled = none) (X : LW w h₀ b h m kv st nb at_ x rows pl) (mw : m "whole" = some (.ref x)) (mp : m "plain" = some (.ref pl))
    (hQ : ∀ h' gn' tk, LW w h₀ b h' m kv st nb at_ x rows pl → (Bare gn → Bare gn') → Ext [] h h' → Q .next ⟨h', gn', d, tk, os⟩) :
    wpAny (model P w) A (exec (lawSt w 7) (lawEnv w h₀.objs.size)) Q E ⟨h, gn, d, t, os⟩ := by
  refine wpAny_If ?_
  refine isTrue_or ?_
  refine wpAny_isTrue_Compare1 ?_
  have T := X.top
  refine wpAny_Call_NameR ?_
  walk_at "nb"
  refine call_bi ?_
  refine wpAny_items_cons ?_
  refine methodCall_KW ?_
  refine name_local X.D.ns mw ?_
  obtain ⟨dx, dl, hsh, t', n, c, vs, es, ep, W⟩ := X.X
  refine meth_WH (f := 508) T W (by kernel_rfl) (by rfl) (by kernel_rfl) ?_
  refine call_fnk0 (by rfl) ?_
  refine kwAll_cons ?_
  refine wpAny_Constant_bool ?_
  refine kwAll_nil ?_
  refine ⟨T, ?_⟩
  refine items_multi (fun g s₁ q => wpAny_items_nil q) (hA.mono (by decide)) hh X (fun h2 gn2 tk2 S ys X2 b2 ls e02 => ?_)
  have T2 := X2.top
  refine name_local X2.D.ns mp ?_
  obtain ⟨us, lp⟩ := X2.pl
  refine ne_rd hA ls.rdl lp.rdl (shaped_plain X.row) ?_
  refine wpAny_truthy_bool ?_
  rw [if_neg Bool.false_ne_true]
  clear T W ls
  refine isTrue_or ?_
  refine wpAny_isTrue_Compare1 ?_
  refine wpAny_Call_NameR ?_
  walk_at "nb"
  refine call_bi ?_
  refine wpAny_items_cons ?_
  refine methodCall_KW ?_
  refine name_local X2.D.ns mw ?_
  obtain ⟨dx, dl, hsh, t', n, c, vs, es, ep, W⟩ := X2.X
  refine meth_WH (f := 508) T2 W (by kernel_rfl) (by rfl) (by kernel_rfl) ?_
  refine call_fn0 (by rfl) T2 ?_
  refine items_first (fun g s₁ q => wpAny_items_nil q) (hA.mono (by decide)) hh X2 (fun h3 gn3 tk3 S3 ys3 X3 b3 ls3 e23 => ?_)
  have T3 := X3.top
  clear W lp us T2
  refine comp_rd (cl := []) headOf hh (by rfl) rfl (by decide) (by decide) ?_
  refine wpAny_Call_NameR ?_
  walk_at "nt"
  refine call_fn (by rfl) ?_
  refine wpAny_items_cons ?_
  refine name_local X3.D.ns mp ?_
  refine wpAny_items_nil ?_
  refine ⟨T3, ?_⟩
  refine wpAny_call ?_
  obtain ⟨us, lp⟩ := X3.pl
  have hpl := plain_len X.nr fun ps q => (X.row ps q).1
  refine grouped_spec (hA.mono (by decide)) hh T3 lp (by omega) X3.bsz (fun h4 tk4 r4 us4 e4 l4 => ?_)
  refine ⟨r4, us4, _, h3.objs.size, rfl, l4, ?_, ?_, fun dd hd => ?_, fun h5 r5 us5 tk5 k5 l5 s5 => ?_⟩
  · rw [List.length_map]; unfold grpd; rw [List.length_map]; have := dk_len (plainOf rows); omega
  · obtain ⟨o, e, _⟩ := l4.ls; exact Nat.le_trans l4.le (Nat.le_of_lt (Heap.lt_size e))
  · obtain ⟨g, hg, rfl⟩ := List.mem_map.mp hd
    obtain ⟨k, hk, rfl⟩ := List.mem_map.mp hg
    refine head_turn hh rfl (fun _ => by rfl) (fun _ => by rfl) (vals_some hk) ?_
    have : (valsOf (plainOf rows) k).length ≤ (plainOf rows).length := by unfold valsOf; rw [List.length_map]; exact List.length_filter_le _ _
    dsimp only; omega
  · rw [head_grp _ fun p hp => by obtain ⟨k, hk, rfl⟩ := List.mem_map.mp hp; exact vals_some hk] at l5
    dsimp only at k5
    have e5 : Ext [] h3 h5 := e4.and (.of_keeps k5)
    refine ne_rd hA (ls3.rdl.ext0 e5) l5.rdl (shaped_heads X.row) ?_
    refine wpAny_truthy_bool ?_
    dsimp only
    rw [if_neg Bool.false_ne_true]
    refine isTrue_or_nil ?_
    rw [if_neg Bool.false_ne_true]
    refine wpAny_execs_nil ?_
    exact hQ h5 gn3 tk5 (X3.ext e5) (fun q => b3 (b2 q)) (e02.and (e23.and e5))
end
end Mine
end
section
open PySem PySem.W PySem.W.X PyProof.Rows PySem.Calls
set_option maxRecDepth 100000
set_option maxHeartbeats 800000
namespace Mine
section
variable {w : World} {A : Around} {E : Value → Shared → Prop} {s : Shared} {env : Env}
theorem comp_view {iter : Expr} {scope : Scope} {px py p1 p2 pos pos2 pos3 : Pos} {k1 k2 : Nat} {Q : Value → Shared → Prop} (hh : A.handled = none) (hclos : closureFor scope env = pure [])
    (hkind : scope.kind = .function) (hcell : ∀ x ∈ scope.names, x.2 ≠ .cell) (hnames : ∀ x ∈ scope.names, x.2 = .local → scope.names.lookup x.1 = some .local)
    (hx : ∀ C, (cenvOf scope [] C env).kindOf "key" = some .local) (hy : ∀ C, (cenvOf scope [] C env).kindOf "values" = some .local)
    (h : wpAny (model P w) A (eval iter env) (fun xv s₁ => ∃ v rv Cv dx kvs es ep g b, xv = .ref v ∧ s₁.heap.get? v = some (vObj rv) ∧ DD w s₁.heap rv Cv dx kvs es ep ∧ GL b s₁.heap kvs g ∧ kvs.length ≤ 900 ∧ b ≤ s₁.heap.objs.size ∧
      ∀ h' r us tk, Keep s₁.heap h' → LsAt b h' r us (g.map grpD) → Q (.ref r) ⟨h', s₁.gens, s₁.drawn, tk, s₁.os⟩) E s)
    (hs : ∀ x, foldedSetIterable iter env x = pure x := by intro _; rfl) :
    wpAny (model P w) A (eval (.ListComp (.Tuple [.Name "key" p1, .Name "values" p2] k1 pos) [⟨.Tuple [.Name "key" px, .Name "values" py] k2 pos2, iter, [], 0⟩] scope pos3) env) Q E s := by
  refine list_compU hclos hkind hcell hnames ?_ hs
  refine wpAny_mono h (fun x s₁ z => ?_) fun _ _ z => z
  obtain ⟨v, rv, Cv, dx, kvs, es, ep, g, b, rfl, hv, Dr, Gr, hz, hb, fin⟩ := z
  clear h
  obtain ⟨h1, g1, d1, t1, o1⟩ := s₁
  dsimp only at hv Dr Gr hb fin ⊢
  refine iter_items hv Dr (by omega) ?_
  have fit : h1.get? h1.objs.size = none := get_fresh (Nat.le_refl _)
  have kit : Keep h1 (h1.push { cls := .type "dict_itemiterator", data := .fields #[.none, .bool false, .ref rv, .int 0 0, .int kvs.length 0, .int ep 0, .none, .none] }) := fun _ _ e => Heap.get?_push_of_some _ e
  have hit : IsItemIter (h1.push { cls := .type "dict_itemiterator", data := .fields #[.none, .bool false, .ref rv, .int 0 0, .int kvs.length 0, .int ep 0, .none, .none] }) h1.objs.size rv 0 kvs.length ep .none .none := Heap.get?_push_size _ rfl
  have lit : h1.objs.size < (h1.push { cls := .type "dict_itemiterator", data := .fields #[.none, .bool false, .ref rv, .int 0 0, .int kvs.length 0, .int ep 0, .none, .none] }).objs.size := by rw [Heap.size_push]; exact Nat.lt_succ_self _
  generalize h1.push { cls := .type "dict_itemiterator", data := .fields #[.none, .bool false, .ref rv, .int 0 0, .int kvs.length 0, .int ep 0, .none, .none] } = h2 at kit hit lit ⊢
  obtain ⟨it, eit⟩ : ∃ it, it = h1.objs.size := ⟨_, rfl⟩
  rw [← eit] at fit hit lit ⊢
  refine ⟨fun E' Q' h' k tk q => kcp_self (s := ⟨h', _, _, _, _⟩) (it := it) (k _ _ hit) q, fun h5 C tk k5 eacc hC nC => ?_⟩
  dsimp only at k5 eacc hC ⊢
  obtain ⟨acc, ea⟩ : ∃ acc, acc = h2.objs.size := ⟨_, rfl⟩
  rw [← ea] at lit eacc hC ⊢
  have aC : acc < C := by rw [hC]; exact Nat.lt_succ_self _
  have iC : it < C := Nat.lt_trans lit aC
  have bit : b ≤ it := by rw [eit]; exact hb
  have lacc : h1.objs.size ≤ acc := by rw [← eit]; exact Nat.le_of_lt lit
  have facc : h1.get? acc = none := get_fresh lacc
  have fC : h1.get? C = none := get_fresh (Nat.le_trans lacc (Nat.le_of_lt aC))
  replace kit : Keep h1 h5 := fun x o e => k5 x o (kit x o e)
  replace hit : IsItemIter h5 it rv 0 kvs.length ep .none .none := k5 _ _ hit
  clear k5 ea hC eit h2
  have hp : ∀ x, C < x → b ≤ x ∧ x ≠ it ∧ x ≠ acc ∧ x ≠ C := fun x l =>
    ⟨Nat.le_trans bit (Nat.le_of_lt (Nat.lt_trans iC l)), Nat.ne_of_gt (Nat.lt_trans iC l), Nat.ne_of_gt (Nat.lt_trans aC l), Nat.ne_of_gt l⟩
  have old : ∀ x o, b ≤ x → h1.get? x = some o → b ≤ x ∧ x ≠ it ∧ x ≠ acc ∧ x ≠ C := fun x o l e =>
    ⟨l, fun q => (by rw [q, fit] at e; cases e), fun q => (by rw [q, facc] at e; cases e), fun q => (by rw [q, fC] at e; cases e)⟩
  have gl : g.length = kvs.length := Gr.len.symm
  refine compLoop_any (fun n s' => ∃ (i : Nat), ∃ h' tk' mC ys ny ok ov, n + i = kvs.length ∧ s' = ⟨h', g1, d1, tk', o1⟩ ∧ Keep h1 h' ∧ h'.Ns C mC ∧ IsItemIter h' it rv i kvs.length ep ok ov ∧ h'.get? acc = some (lsObj ys ny) ∧ ys.size ≤ i ∧ RowP (fun x => b ≤ x ∧ x ≠ it ∧ x ≠ acc ∧ x ≠ C) h' ys ((g.take i).map grpD)) ?_ kvs.length
    ⟨0, h5, tk, _, #[], 0, _, _, by omega, rfl, kit, nC, hit, eacc, Nat.le_refl _, .nil⟩
  clear kit nC hit eacc h5
  rintro n s' ⟨i, h', tk', mC, ys, ny, ok, ov, hn, rfl, kit, nC, hit, ey, sy, row⟩
  have keepE : ∀ {c : Addr} {h' h'' : Heap}, h1.get? c = none → Keep h1 h' → Heap.ExtBut c h' h'' → Keep h1 h'' := fun fc k he x o e => he x o (fun q => by rw [q, fc] at e; cases e) (k x o e)
  have D' := Dr.keeps kit
  cases n with
  | zero =>
    refine next_items_end hh hit D' (by omega) (fun h4 he => ?_)
    replace kit := keepE fit kit he
    have nC4 : h4.Ns C mC := let ⟨o, es, ep, q, r⟩ := nC; ⟨o, es, ep, he _ _ (Nat.ne_of_gt iC) q, r⟩
    replace ey := he _ _ (Nat.ne_of_gt lit) ey
    replace row := row.same he (fun q => q.2.1 rfl)
    dsimp only
    refine ⟨mC, nC4, fun h6 sb6 => ?_⟩
    replace kit := keepE fC kit sb6.extBut
    replace ey := sb6.extBut _ _ (Nat.ne_of_lt aC) ey
    replace row := row.same sb6.extBut (fun q => q.2.2.2 rfl)
    rw [List.take_of_length_le (by omega)] at row
    exact fin _ _ _ _ kit ((row.rd fun x q => q.1).at ey (Nat.le_trans hb lacc))
  | succ n =>
    have hi : i < kvs.length := by omega
    have hig : i < g.length := by omega
    obtain ⟨ns, la, eg, ev, hla, va, na, ela, ia⟩ := Gr.at_ i kvs[i].1 kvs[i].2 (List.getElem?_eq_getElem hi)
    have egi : g[i] = (kvs[i].1, ns) := by rw [List.getElem?_eq_getElem hig] at eg; exact Option.some.inj eg
    have hva : va.size = ns.length := by have := ia_len ia; rwa [Array.length_toList] at this
    have nt : it ≠ h'.objs.size := Nat.ne_of_lt (Heap.lt_size hit)
    refine next_items (k := kvs[i].1) (v := kvs[i].2) hit D' (List.getElem?_eq_getElem hi) (fun tk h4 hout htup kb => ?_)
    have tup4 : h4.get? h'.objs.size = some { cls := .type "tuple", data := .seq #[.str kvs[i].1 tk, kvs[i].2] } := htup
    replace kit : Keep h1 h4 := fun x o e => kb x o (fun q => by rw [q, fit] at e; cases e) (kit x o e)
    replace nC : h4.Ns C mC := let ⟨o, es, ep, q, r⟩ := nC; ⟨o, es, ep, kb _ _ (Nat.ne_of_gt iC) q, r⟩
    replace ey := kb _ _ (Nat.ne_of_gt lit) ey
    replace row := row.keep (h' := h4) fun a o q e => kb a o q.2.1 e
    dsimp only
    refine wpAny_letOwnedTupleGo_items hout (fun h6 hit6 sb6 => ?_)
    have tup6 : IsTup h6 h'.objs.size #[.str kvs[i].1 tk, kvs[i].2] := ⟨_, (sb6.2 _ (Ne.symm nt)).trans tup4, rfl, 0, rfl⟩
    replace kit := keepE fit kit sb6.extBut
    replace nC := nC.sameBut sb6 (Nat.ne_of_gt iC)
    replace ey := sb6.extBut _ _ (Nat.ne_of_gt lit) ey
    replace row := row.same sb6.extBut (fun q => q.2.1 rfl)
    dsimp only
    refine assign_Tuple_tuple hh tup6 rfl rfl (fun h7 he7 => ?_)
    dsimp only at he7 ⊢
    have hk' : ((cenvOf scope [] C env).scope.kind == .class || ((cenvOf scope [] C env).scope.kind == .module && (cenvOf scope [] C env).locals != (cenvOf scope [] C env).globals)) = false := by
      show (scope.kind == .class || (scope.kind == .module && _)) = false
      rw [hkind]; rfl
    have e7 : Keep h6 h7 := fun b o q => he7 b o (Nat.ne_of_lt (Heap.lt_size q)) q
    replace nC : h7.Ns C mC := let ⟨o, es, ep, q, r⟩ := nC; ⟨o, es, ep, e7 _ _ q, r⟩
    replace kit : Keep h1 h7 := fun x o e => e7 x o (kit x o e)
    replace ey := e7 _ _ ey
    replace row := row.keep (h' := h7) fun a o _ e => e7 a o e
    have hit7 : IsItemIter h7 it rv (i + 1) kvs.length ep (.str kvs[i].1 tk) kvs[i].2 := e7 _ _ hit6
    clear e7 he7 hit6 tup6 sb6 hout htup tup4 kb hit D' h6 h4 nt h'
    refine wpAny_assignInOrder_more ?_
    refine wpAny_assign_Name ?_
    refine wpAny_storeName_local (s := ⟨h7, _, _, _, _⟩) (hx C) nC (fun h8 n8 s8 => ?_) hk'
    dsimp only at n8 s8 ⊢
    replace kit := keepE fC kit s8.extBut
    replace ey := s8.extBut _ _ (Nat.ne_of_lt aC) ey
    replace row := row.same s8.extBut (fun q => q.2.2.2 rfl)
    have hit8 : IsItemIter h8 it rv (i + 1) kvs.length ep (.str kvs[i].1 tk) kvs[i].2 := s8.extBut _ _ (Nat.ne_of_lt iC) hit7
    clear s8 hit7 nC h7
    refine wpAny_assignInOrder_more ?_
    refine wpAny_assign_Name ?_
    refine wpAny_storeName_local (s := ⟨h8, _, _, _, _⟩) (hy C) n8 (fun h9 n9 s9 => ?_) hk'
    dsimp only at n9 s9 ⊢
    replace kit := keepE fC kit s9.extBut
    replace ey := s9.extBut _ _ (Nat.ne_of_lt aC) ey
    replace row := row.same s9.extBut (fun q => q.2.2.2 rfl)
    have hit9 : IsItemIter h9 it rv (i + 1) kvs.length ep (.str kvs[i].1 tk) kvs[i].2 := s9.extBut _ _ (Nat.ne_of_lt iC) hit8
    clear s9 hit8 n8 h8
    refine wpAny_assignInOrder_none ?_
    refine wpAny_tests_nil ?_
    rw [if_pos rfl]
    refine Tuple_ ?_
    refine wpAny_items_cons ?_
    refine name_local n9 (by rw [if_neg (by decide), if_pos (by decide)]) ?_ hkind (hx C)
    refine wpAny_items_cons ?_
    refine name_local n9 (by rw [if_pos (by decide)]) ?_ hkind (hy C)
    refine wpAny_items_nil ?_
    refine wpAny_newObj_type ?_ (by show (2 : Nat) ≤ sizeLine; decide)
    have kt : Keep h9 (h9.push { cls := .type "tuple", data := .seq #[.str kvs[i].1 tk, kvs[i].2] }) := fun b o e => Heap.get?_push_of_some _ e
    have et : (h9.push { cls := .type "tuple", data := .seq #[.str kvs[i].1 tk, kvs[i].2] }).get? h9.objs.size = some { cls := .type "tuple", data := .seq #[.str kvs[i].1 tk, kvs[i].2] } := Heap.get?_push_size _ rfl
    have lt : C < h9.objs.size := n9.lt
    replace kit : Keep h1 (h9.push { cls := .type "tuple", data := .seq #[.str kvs[i].1 tk, kvs[i].2] }) := fun x o e => kt x o (kit x o e)
    replace ey := kt _ _ ey
    replace row := row.keep fun a o _ e => kt a o e
    have n10 := n9.push { cls := .type "tuple", data := .seq #[.str kvs[i].1 tk, kvs[i].2] }
    have hit10 := kt _ _ hit9
    dsimp only
    generalize h9.objs.size = ta at et lt ⊢
    generalize h9.push { cls := .type "tuple", data := .seq #[.str kvs[i].1 tk, kvs[i].2] } = h10 at kit ey row n10 hit10 et ⊢
    clear kt n9 hit9 h9
    have ru : RdP (fun x => b ≤ x ∧ x ≠ it ∧ x ≠ acc ∧ x ≠ C) h10 (.ref ta) (grpD g[i]) := by
      rw [egi]
      refine .tup (hp _ lt) ⟨_, et, rfl, 0, rfl⟩ rfl fun i' v' d' e1 e2 => ?_
      match i', e1, e2 with
      | 0, e1, e2 => cases e1; cases e2; exact .str _ _
      | 1, e1, e2 =>
        cases e1; cases e2
        rw [ev]
        exact .list (old _ _ hla ela) ⟨_, kit _ _ ela, rfl, na, rfl⟩ (by rw [List.length_map]; exact hva) fun i v d e1 e2 => ia_rdp ia (by rwa [Array.getElem?_toList]) e2
      | n + 2, e1, e2 => simp at e1
    replace row := row.snoc ru
    refine append_raw ey (by omega) (fun h11 n11 e11 sb11 => ?_)
    dsimp only
    refine ⟨n, Nat.lt_succ_self n, i + 1, h11, _, _, ys.push (.ref ta), n11, _, _, by omega, rfl, keepE facc kit sb11.extBut, n10.sameBut sb11 (Nat.ne_of_gt aC), sb11.extBut _ _ (Nat.ne_of_lt lit) hit10, e11, by rw [Array.size_push]; omega, ?_⟩
    have tk1 : g.take (i + 1) = g.take i ++ [g[i]] := by rw [List.take_succ_eq_append_getElem hig]
    rw [tk1, List.map_append]
    exact row.same sb11.extBut (fun q => q.2.2.1 rfl)
end
end Mine
end
section
open PySem PySem.W PySem.W.X PyProof.Rows PySem.Calls
set_option maxRecDepth 100000
set_option maxHeartbeats 800000
namespace Mine
section
variable {w : World} {A : Around} {E : Value → Shared → Prop} {s : Shared} {env : Env}
theorem list_compA {elt target iter : Expr} {ifs : List Expr} {scope : Scope} {pos : Pos} {cl : List (Str × Addr)} {y : Str} {py spos : Pos} {Q : Flow → Shared → Prop} (hsw : swapsWith (.ListComp elt [⟨target, iter, ifs, 0⟩] scope pos) (some (.Name y py)) spos.line env = pure true) (hclos : closureFor scope env = pure cl)
    (hkind : scope.kind = .function) (hcell : ∀ x ∈ scope.names, x.2 ≠ .cell) (hnames : ∀ x ∈ scope.names, x.2 = .local → scope.names.lookup x.1 = some .local)
    (h : wpAny (model P w) A (eval iter env) (fun x s₁ => wpAny (model P w) A (pyIter x) (fun it s₂ =>
      (∀ (E' : Value → Shared → Prop) (Q' : Value → Shared → Prop) h', (∀ b o, s₂.heap.get? b = some o → h'.get? b = some o) → ∀ tk, Q' it { s₂ with heap := h', toks := tk } → wpAny (model P w) A (pyIter it) Q' E' { s₂ with heap := h', toks := tk }) ∧
      ∀ h' C tk, (∀ b o, s₂.heap.get? b = some o → h'.get? b = some o) → h'.get? s₂.heap.objs.size = some (lsObj #[] 0) → C = s₂.heap.objs.size + 1 → h'.Ns C (fun _ => none) →
        codeAny (model P w) A (.compLoop (.ListComp elt [⟨target, iter, ifs, 0⟩] scope pos) 0 it (.ref s₂.heap.objs.size) (cenvOf scope cl C env))
          (fun r s' => match r with | .ok _ => wpAny (model P w) A (assign (.Name y py) env (.ref s₂.heap.objs.size)) (fun _ s'' => ∃ m, s''.heap.Ns C m ∧ ∀ h', Heap.SameBut C s''.heap h' → Q .next { s'' with heap := h' }) E s' | .error _ => False) { s₂ with heap := h', toks := tk }) E s₁) E s)
    (hs : ∀ x, foldedSetIterable iter env x = pure x := by intro _; rfl) :
    wpAny (model P w) A (exec (.Assign [.Name y py] (.ListComp elt [⟨target, iter, ifs, 0⟩] scope pos) spos) env) Q E s := by
  rw [exec_Assign_Name_used _ _ _ _ hsw]
  refine wpAny_bind (wpAny_standAt (wpAny_bind ?_))
  show wpAny _ A (do let _ ← comprehension (.ListComp elt [⟨target, iter, ifs, 0⟩] scope pos) scope env _ (newList []) false (eval iter env) (some (assign (.Name y py) env))) _ _ s
  refine wpAny_bind (wpAny_mono (Q := fun _ s' => Q .next s') ?_ (fun _ s' hq => wpAny_pure (wpAny_pure hq)) fun _ _ e => e)
  refine wpAny_comprehension_free (use := some (assign (.Name y py) env)) (Q := fun _ s' => Q .next s') rfl hs hclos hkind hnames ?_
  refine wpAny_mono h (fun x s₁ h₁ => wpAny_mono h₁ (fun it s₂ h₂ => ?_) fun _ _ z => z) fun _ _ z => z
  obtain ⟨hi, hl⟩ := h₂
  refine wpAny_newList ?_
  refine wpAny_newFunctionEnv hcell (fun _ q => (nomatch q)) (fun h' hn hsb => ?_) hkind
  have k1 : ∀ b o, s₂.heap.get? b = some o → (s₂.heap.push (lsObj #[] 0)).get? b = some o := fun b o e => Heap.get?_push_of_some _ e
  have hsz : (s₂.heap.push (lsObj #[] 0)).objs.size = s₂.heap.objs.size + 1 := Heap.size_push ..
  dsimp only at hn hsb ⊢
  have hn' : h'.Ns (s₂.heap.objs.size + 1) (fun _ => none) := by have := hn; rw [show ([] : List Value).toArray = #[] from rfl, hsz] at this; exact this
  have k2 : ∀ b o, (s₂.heap.push (lsObj #[] 0)).get? b = some o → h'.get? b = some o := fun b o e => hsb.extBut b o (Nat.ne_of_lt (Heap.lt_size e)) (Heap.get?_push_of_some _ e)
  have k := fun b o e => k2 b o (k1 b o e)
  have ea : h'.get? s₂.heap.objs.size = some (lsObj #[] 0) := k2 _ _ (Heap.get?_push_size _ rfl)
  have loop := hl h' (s₂.heap.objs.size + 1) s₂.toks k ea rfl hn'
  have fin : codeAny (model P w) A (.compLoop (.ListComp elt [⟨target, iter, ifs, 0⟩] scope pos) 0 it (.ref s₂.heap.objs.size) (cenvOf scope cl (s₂.heap.objs.size + 1) env)) (compPost (model P w) A E (some (assign (.Name y py) env)) (fun _ s' => Q .next s') (.ref s₂.heap.objs.size) (s₂.heap.objs.size + 1)) { s₂ with heap := h' } := by
    refine codeAny_mono loop fun r s' z => ?_
    cases r with
    | ok f => exact z
    | error e => exact z.elim
  rw [show ([] : List Value).toArray = #[] from rfl, hsz]
  refine codeAny_compStart_list fin (hi _ _ h' k s₂.toks fin)
theorem comp_rdA {elt target iter : Expr} {ifs : List Expr} {scope : Scope} {pos : Pos} {cl : List (Str × Addr)} {y : Str} {py spos : Pos} {L : Addr} {mL : Str → Option Value} {Q : Flow → Shared → Prop} (f : PyData → Option PyData) (hh : A.handled = none) (hsw : swapsWith (.ListComp elt [⟨target, iter, ifs, 0⟩] scope pos) (some (.Name y py)) spos.line env = pure true) (hy : env.kindOf y = some .local) (hek : env.scope.kind = .function) (hL : env.locals = L) (hclos : closureFor scope env = pure cl)
    (hkind : scope.kind = .function) (hcell : ∀ x ∈ scope.names, x.2 ≠ .cell) (hnames : ∀ x ∈ scope.names, x.2 = .local → scope.names.lookup x.1 = some .local)
    (h : wpAny (model P w) A (eval iter env) (fun x s₁ => ∃ a vs ds b, x = .ref a ∧ LsAt b s₁.heap a vs ds ∧ ds.length ≤ 1000 ∧ b ≤ s₁.heap.objs.size ∧ (∀ d ∈ ds, TurnOk w A elt target ifs scope cl env s₁ a d f) ∧
      L < b ∧ s₁.heap.Ns L mL ∧ ∀ h' r us tk, (∀ c o, c ≠ L → s₁.heap.get? c = some o → h'.get? c = some o) → h'.Ns L (fun z => if z = y then some (.ref r) else mL z) → LsAt b h' r us (ds.filterMap f) → s₁.heap.objs.size ≤ r → Q .next ⟨h', s₁.gens, s₁.drawn, tk, s₁.os⟩) E s)
    (hs : ∀ x, foldedSetIterable iter env x = pure x := by intro _; rfl) :
    wpAny (model P w) A (exec (.Assign [.Name y py] (.ListComp elt [⟨target, iter, ifs, 0⟩] scope pos) spos) env) Q E s := by
  refine list_compA hsw hclos hkind hcell hnames ?_ hs
  refine wpAny_mono h (fun x s₁ z => ?_) fun _ _ z => z
  obtain ⟨a, vs, ds, b, rfl, hl, hz, hb, turn, hLb, nL, fin⟩ := z
  clear h
  obtain ⟨h1, g1, d1, t1, o1⟩ := s₁
  dsimp only at hl hb turn nL fin ⊢
  refine wpAny_pyIter_list hl.ls ?_
  have fit : h1.get? h1.objs.size = none := get_fresh (Nat.le_refl _)
  have kit : Keep h1 (h1.push { cls := .type "list_iterator", data := .fields #[.ref a, .int 0 0] }) := fun _ _ e => Heap.get?_push_of_some _ e
  have hit : (h1.push { cls := .type "list_iterator", data := .fields #[.ref a, .int 0 0] }).IsListIter h1.objs.size a 0 := ⟨_, Heap.get?_push_size _ rfl, rfl, rfl⟩
  have lit : h1.objs.size < (h1.push { cls := .type "list_iterator", data := .fields #[.ref a, .int 0 0] }).objs.size := by rw [Heap.size_push]; exact Nat.lt_succ_self _
  generalize h1.push { cls := .type "list_iterator", data := .fields #[.ref a, .int 0 0] } = h2 at kit hit lit ⊢
  obtain ⟨it, eit⟩ : ∃ it, it = h1.objs.size := ⟨_, rfl⟩
  rw [← eit] at fit hit lit ⊢
  refine ⟨fun E' Q' h' k tk q => wpAny_pyIter_listiter (s := ⟨h', _, _, _, _⟩) (hit.at fun o e => k _ _ e) q, fun h5 C tk k5 eacc hC nC => ?_⟩
  dsimp only at k5 eacc hC ⊢
  obtain ⟨acc, ea⟩ : ∃ acc, acc = h2.objs.size := ⟨_, rfl⟩
  rw [← ea] at lit eacc hC ⊢
  have aC : acc < C := by rw [hC]; exact Nat.lt_succ_self _
  have iC : it < C := Nat.lt_trans lit aC
  have bit : b ≤ it := by rw [eit]; exact hb
  have lacc : h1.objs.size ≤ acc := by rw [← eit]; exact Nat.le_of_lt lit
  have facc : h1.get? acc = none := get_fresh lacc
  have fC : h1.get? C = none := get_fresh (Nat.le_trans lacc (Nat.le_of_lt aC))
  replace kit : Keep h1 h5 := fun x o e => k5 x o (kit x o e)
  replace hit : h5.IsListIter it a 0 := hit.at fun o e => k5 _ _ e
  clear k5 ea hC eit h2
  have hp : ∀ x, C < x → b ≤ x ∧ x ≠ it ∧ x ≠ acc ∧ x ≠ C := fun x l =>
    ⟨Nat.le_trans bit (Nat.le_of_lt (Nat.lt_trans iC l)), Nat.ne_of_gt (Nat.lt_trans iC l), Nat.ne_of_gt (Nat.lt_trans aC l), Nat.ne_of_gt l⟩
  have old : ∀ x o, b ≤ x → h1.get? x = some o → b ≤ x ∧ x ≠ it ∧ x ≠ acc ∧ x ≠ C := fun x o l e =>
    ⟨l, fun q => (by rw [q, fit] at e; cases e), fun q => (by rw [q, facc] at e; cases e), fun q => (by rw [q, fC] at e; cases e)⟩
  have lsat : ∀ h', Keep h1 h' → h'.IsList a vs := fun h' k => let ⟨o, e, r⟩ := hl.ls; ⟨o, k _ _ e, r⟩
  refine compLoop_any (fun n s' => ∃ (i : Nat), ∃ h' tk' mC ys ny, n + i = ds.length ∧ s' = ⟨h', g1, d1, tk', o1⟩ ∧ Keep h1 h' ∧ h'.Ns C mC ∧ h'.IsListIter it a i ∧ h'.get? acc = some (lsObj ys ny) ∧ ys.size ≤ i ∧ RowP (fun x => b ≤ x ∧ x ≠ it ∧ x ≠ acc ∧ x ≠ C) h' ys ((ds.take i).filterMap f)) ?_ ds.length
    ⟨0, h5, tk, _, #[], 0, by omega, rfl, kit, nC, hit, eacc, Nat.le_refl _, .nil⟩
  clear kit nC hit eacc h5
  rintro n s' ⟨i, h', tk', mC, ys, ny, hn, rfl, kit, nC, hit, ey, sy, row⟩
  have keepE : ∀ {c : Addr} {h' h'' : Heap}, h1.get? c = none → Keep h1 h' → Heap.ExtBut c h' h'' → Keep h1 h'' := fun fc k he x o e => he x o (fun q => by rw [q, fc] at e; cases e) (k x o e)
  cases n with
  | zero =>
    refine wpAny_pyNext_list_end hh hit (lsat _ kit) (by rw [Array.getElem?_eq_none_iff, hl.sz]; omega) (fun h4 he => ?_)
    replace kit := keepE fit kit he
    have nC4 : h4.Ns C mC := let ⟨o, es, ep, q, r⟩ := nC; ⟨o, es, ep, he _ _ (Nat.ne_of_gt iC) q, r⟩
    replace ey := he _ _ (Nat.ne_of_gt lit) ey
    replace row := row.same he (fun q => q.2.1 rfl)
    dsimp only
    have nL4 : h4.Ns L mL := let ⟨o, es, ep, q, r⟩ := nL; ⟨o, es, ep, kit _ _ q, r⟩
    refine wpAny_assign_Name ?_
    refine wpAny_storeName_local hy (hL ▸ nL4) (fun hS nS sS => ?_) (by rw [hek]; rfl)
    rw [hL] at nS sS
    have LC : L ≠ C := fun q => by obtain ⟨o, _, _, e, _⟩ := nL; rw [q, fC] at e; cases e
    have La : L ≠ acc := fun q => by obtain ⟨o, _, _, e, _⟩ := nL; rw [q, facc] at e; cases e
    refine ⟨mC, nC4.sameBut sS (Ne.symm LC), fun h6 sb6 => ?_⟩
    dsimp only at sS sb6 ⊢
    have nL6 := nS.sameBut sb6 LC
    replace kit : ∀ c o, c ≠ L → h1.get? c = some o → h6.get? c = some o := fun c o n e => sb6.extBut _ _ (fun q => by rw [q, fC] at e; cases e) (sS.extBut _ _ n (kit _ _ e))
    replace ey := sb6.extBut _ _ (Nat.ne_of_lt aC) (sS.extBut _ _ (Ne.symm La) ey)
    replace row := (row.same sS.extBut (fun q => absurd q.1 (Nat.not_le.mpr hLb))).same sb6.extBut (fun q => q.2.2.2 rfl)
    rw [List.take_of_length_le (by omega)] at row
    exact fin _ _ _ _ kit nL6 ((row.rd fun x q => q.1).at ey (Nat.le_trans hb lacc)) lacc
  | succ n =>
    have hi : i < ds.length := by omega
    have hiv : i < vs.size := by rw [hl.sz]; exact hi
    refine wpAny_pyNext_list_item hit (lsat _ kit) (Array.getElem?_eq_getElem hiv) (fun h4 hit4 sb4 => ?_)
    have rv := ((hl.rd i vs[i] ds[i] (Array.getElem?_eq_getElem hiv) (List.getElem?_eq_getElem hi)).toP old).keep (h' := h') fun x o _ e => kit x o e
    replace rv := rv.same sb4.extBut (fun q => q.2.1 rfl)
    replace kit := keepE fit kit sb4.extBut
    replace nC := nC.sameBut sb4 (Nat.ne_of_gt iC)
    replace ey := sb4.extBut _ _ (Nat.ne_of_gt lit) ey
    replace row := row.same sb4.extBut (fun q => q.2.1 rfl)
    dsimp only
    clear sb4 hit h'
    have t := fun E => turn ds[i] (List.getElem_mem hi) E _ h4 tk' C mC it (i + 1) vs[i] hp (fun q => q.2.2.2 rfl) kit hit4 nC fC rv
    have tk1 : ds.take (i + 1) = ds.take i ++ [ds[i]] := by rw [List.take_add_one, List.getElem?_eq_getElem hi]; rfl
    refine wpAny_mono (t _) (fun _ s1 z1 => wpAny_mono z1 (fun _ s2 z2 => wpAny_mono z2 (fun ok s3 z3 => ?_) (fun _ _ q => q)) (fun _ _ q => q)) (fun _ _ q => q)
    clear t z1 z2 turn
    cases hf : f ds[i] with
    | none =>
      rw [hf] at z3
      obtain ⟨rfl, h6, tk6, m6, rfl, he6, n6⟩ := z3
      rw [if_neg Bool.false_ne_true]
      refine ⟨n, Nat.lt_succ_self n, i + 1, h6, tk6, m6, ys, ny, by omega, rfl, keepE fC kit he6, n6, hit4.at fun o e => he6 _ _ (Nat.ne_of_lt iC) e, he6 _ _ (Nat.ne_of_lt aC) ey, by omega, ?_⟩
      rw [tk1, List.filterMap_append, List.filterMap_cons_none hf, List.filterMap_nil, List.append_nil]
      exact row.same he6 (fun q => q.2.2.2 rfl)
    | some d' =>
      rw [hf] at z3
      obtain ⟨rfl, z4⟩ := z3
      rw [if_pos rfl]
      refine wpAny_mono z4 (fun u s4 z5 => ?_) (fun _ _ q => q)
      obtain ⟨ru, h6, tk6, m6, rfl, he6, n6⟩ := z5
      dsimp only at ru
      replace row := (row.same he6 (fun q => q.2.2.2 rfl)).snoc ru
      refine append_raw (he6 _ _ (Nat.ne_of_lt aC) ey) (by omega) (fun h7 n7 e7 sb7 => ?_)
      dsimp only
      refine ⟨n, Nat.lt_succ_self n, i + 1, h7, tk6, m6, ys.push u, n7, by omega, rfl, keepE facc (keepE fC kit he6) sb7.extBut, n6.sameBut sb7 (Nat.ne_of_gt aC), hit4.at fun o e => sb7.extBut _ _ (Nat.ne_of_lt lit) (he6 _ _ (Nat.ne_of_lt iC) e), e7, by rw [Array.size_push]; omega, ?_⟩
      rw [tk1, List.filterMap_append, List.filterMap_cons_some hf, List.filterMap_nil]
      exact row.same sb7.extBut (fun q => q.2.2.1 rfl)
end
end Mine
end
section
open PySem PySem.W PySem.W.X PyProof.Rows PySem.Calls PySem.SeqAt PySem.Spec
set_option maxRecDepth 100000
set_option maxHeartbeats 800000
namespace Mine
local macro_rules | `(tactic| walk_at "nb") => `(tactic| refine name_boot (by assumption) rfl rfl rfl (by boot_by_name) (by decide) ?_)
local macro_rules | `(tactic| walk_at "nt") => `(tactic| refine name_top (by assumption) rfl (by rfl) ?_)
section
variable {w : World} {A : Around} {E : Value → Shared → Prop} {h₀ h : Heap} {gn : Array GenState} {d : Drawn} {t : Nat} {os : OsState} {b st nb : Nat} {m : Str → Option Value} {kv : Option Value} {x pl : Addr} {at_ : Nat} {rows : List (List (Str × Int))}
theorem LW.storeE {m' : Str → Option Value} {h' : Heap} (X : LW w h₀ b h m kv st nb at_ x rows pl) (n : h'.Ns h₀.objs.size m') (he : ∀ c o, c ≠ h₀.objs.size → h.get? c = some o → h'.get? c = some o) : LW w h₀ b h' m' kv st nb at_ x rows pl := by
  obtain ⟨b1, b2, b3, b4, b5⟩ := X.hb
  have y : Ext [h₀.objs.size] h h' := ⟨fun c o e q => .inl (he c o (fun z => q (List.mem_singleton.mpr z)) e), fun c o e => by
    by_cases z : c = h₀.objs.size
    · obtain ⟨o, _, _, e, _⟩ := n; exact ⟨o, z ▸ e⟩
    · exact ⟨o, he c o z e⟩⟩
  have hm : ∀ a ∈ [h₀.objs.size], a < b ∨ h.get? a = none := fun a q => .inl (by rw [List.mem_singleton.mp q]; omega)
  obtain ⟨t1, est⟩ := X.st
  obtain ⟨vs, ns, enb, r⟩ := X.nb
  obtain ⟨dx, dl, hsh, t, n', c, vs', es, ep, W⟩ := X.X
  obtain ⟨us, ep'⟩ := X.pl
  have D' : Me [] h₀ h' h₀.objs.size m' [] := ⟨X.D.ext.trans y fun a q => by rw [List.mem_singleton.mp q]; exact X.D.offL, n, fun _ q => (nomatch q), List.nodup_nil, fun _ q => (nomatch q), fun _ q => (nomatch q), X.D.offL⟩
  exact ⟨X.T₀, D', y.cell X.Ck (nin (by omega)), y.cell X.Cs (nin (by omega)), X.hb, X.at_lt, ⟨t1, y.isList est (nin (by omega))⟩, ⟨vs, ns, y.isList enb (nin (by omega)), r⟩,
    ⟨dx, dl, hsh, t, n', c, vs', es, ep, W.ext y hm⟩, ⟨us, ep'.ext y hm⟩, X.nr, X.row⟩
theorem law_6 {Q : Flow → Shared → Prop} (hA : Rm 400 A) (hh : A.handled = none) (X : LW w h₀ b h m kv st nb at_ x rows pl) (mp : m "plain" = some (.ref pl))
    (hQ : ∀ h' tk kr us, LW w h₀ b h' (fun y => if y = "keys" then some (.ref kr) else m y) kv st nb at_ x rows pl → LsAt h.objs.size h' kr us ((dk (plainOf rows)).map .str) → Q .next ⟨h', gn, d, tk, os⟩) :
    wpAny (model P w) A (exec (lawSt w 6) (lawEnv w h₀.objs.size)) Q E ⟨h, gn, d, t, os⟩ := by
  have T := X.top
  refine comp_rdA (cl := []) (L := h₀.objs.size) (mL := m) firstOf hh (by rfl) (by rfl) (by rfl) (by rfl) (by rfl) rfl (by decide) (by decide) ?_
  refine wpAny_Call_NameR ?_
  walk_at "nt"
  refine call_fn (by rfl) ?_
  refine wpAny_items_cons ?_
  refine name_local X.D.ns mp ?_
  refine wpAny_items_nil ?_
  refine ⟨T, ?_⟩
  refine wpAny_call ?_
  obtain ⟨us, lp⟩ := X.pl
  have hpl := plain_len X.nr fun ps q => (X.row ps q).1
  refine grouped_spec (hA.mono (by decide)) hh T lp (by omega) X.bsz (fun h4 tk4 r4 us4 e4 l4 => ?_)
  refine ⟨r4, us4, _, h.objs.size, rfl, l4, ?_, ?_, fun dd hd => ?_, X.D.ns.lt, (X.ext e4).D.ns, fun h5 r5 us5 tk5 k5 n5 l5 s5 => ?_⟩
  · rw [List.length_map]; unfold grpd; rw [List.length_map]; have := dk_len (plainOf rows); omega
  · obtain ⟨o, e, _⟩ := l4.ls; exact Nat.le_trans l4.le (Nat.le_of_lt (Heap.lt_size e))
  · obtain ⟨p, _, rfl⟩ := List.mem_map.mp hd
    refine TurnOk.pair hh rfl (fun _ => by rfl) (fun _ => by rfl) (by decide) fun E p' h' tk C m u z hp hC kp nC fC mx my ru rz => ?_
    refine wpAny_tests_nil ⟨rfl, ?_⟩
    refine name_local nC mx ?_
    exact ⟨ru, _, _, _, rfl, fun _ _ _ e => e, nC⟩
  · rw [first_grp, grpd_keys] at l5
    exact hQ h5 tk5 r5 us5 ((X.ext e4).storeE n5 k5) l5
theorem strs_rd {h : Heap} {a : Addr} {vs : Array Value} {ks : List Str} (l : h.IsList a vs) (hS : StrsAre vs.toList ks) : Rd 0 h (.ref a) (.list (ks.map .str)) := by
  refine .list (Nat.zero_le _) l (by rw [List.length_map, ← StrsAre.length hS, Array.length_toList]) fun i v d e1 e2 => ?_
  have key : ∀ {l : List Value} {ks : List Str}, StrsAre l ks → ∀ {i : Nat} {v : Value} {d : PyData}, l[i]? = some v → (ks.map PyData.str)[i]? = some d → Rd 0 h v d := by
    intro l ks x
    induction x with
    | nil => intro i v d e1; simp at e1
    | cons x t r ih =>
      intro i v d e1 e2
      cases i with
      | zero => cases e1; cases e2; exact .str _ _
      | succ i => exact ih (by simpa using e1) (by simpa using e2)
  exact key hS (by rwa [Array.getElem?_toList]) e2
def leS (a b : Str) : Prop := ltCps b.cps.toList a.cps.toList = false
theorem leS_trans {a b c : Str} (h1 : leS a b) (h2 : leS b c) : leS a c := by
  unfold leS at *
  rw [ltCps_eq, decide_eq_false_iff_not] at *
  exact List.not_lt.mpr (List.le_trans (List.not_lt.mp h1) (List.not_lt.mp h2))
theorem leS_anti {a b : Str} (h1 : leS a b) (h2 : leS b a) : a = b := by
  unfold leS at *
  rw [ltCps_eq, decide_eq_false_iff_not] at *
  have := List.le_antisymm (List.not_lt.mp h1) (List.not_lt.mp h2)
  obtain ⟨⟨x⟩⟩ := a
  obtain ⟨⟨y⟩⟩ := b
  dsimp only at this
  rw [this]
theorem rising_pw : ∀ (p : Str) (l : List Str), risingS p l = true → (p :: l).Pairwise leS
  | p, [], _ => List.pairwise_singleton _ _
  | p, x :: r, h => by
    have h' : (!ltCps x.cps.toList p.cps.toList && risingS x r) = true := h
    rw [Bool.and_eq_true, Bool.not_eq_true'] at h'
    have ih := rising_pw x r h'.2
    refine List.pairwise_cons.mpr ⟨fun y hy => ?_, ih⟩
    rcases List.mem_cons.mp hy with rfl | hy
    · exact h'.1
    · exact leS_trans h'.1 ((List.pairwise_cons.mp ih).1 y hy)
theorem sorted_pw : ∀ (l : List Str), sortedS l = true → l.Pairwise leS
  | [], _ => .nil
  | x :: r, h => rising_pw x r h
theorem pw_eq : ∀ (l l' : List Str), l.Perm l' → l.Pairwise leS → l'.Pairwise leS → l = l'
  | [], l', p, _, _ => (List.nil_perm.mp p).symm
  | x :: l, [], p, _, _ => absurd p.length_eq (by simp)
  | x :: l, y :: l', p, h1, h2 => by
    have e : x = y := by
      have hx : x ∈ y :: l' := p.mem_iff.mp (.head _)
      have hy : y ∈ x :: l := p.mem_iff.mpr (.head _)
      rcases List.mem_cons.mp hx with q | hx
      · exact q
      · rcases List.mem_cons.mp hy with q | hy
        · exact q.symm
        · exact leS_anti ((List.pairwise_cons.mp h1).1 y hy) ((List.pairwise_cons.mp h2).1 x hx)
    subst e
    rw [pw_eq l l' (List.perm_cons _ |>.mp p) (List.pairwise_cons.mp h1).2 (List.pairwise_cons.mp h2).2]
theorem sorted_eq {l l' : List Str} (p : l.Perm l') (h1 : sortedS l = true) (h2 : sortedS l' = true) : l = l' := pw_eq l l' p (sorted_pw l h1) (sorted_pw l' h2)
theorem law_8 {Q : Flow → Shared → Prop} {kr c : Addr} {ks : Array Value} (hA : Rm 400 A) (hh : A.handled = none) (X : LW w h₀ b h m kv st nb at_ x rows pl) (mw : m "whole" = some (.ref x)) (mp : m "plain" = some (.ref pl)) (mk : m "keys" = some (.ref kr)) (lk : LsAt c h kr ks ((dk (plainOf rows)).map .str))
    (hQ : ∀ h' gn' tk d', LW w h₀ b h' m kv st nb at_ x rows pl → (Bare gn → Bare gn') → Q .next ⟨h', gn', d', tk, os⟩) :
    wpAny (model P w) A (exec (lawSt w 8) (lawEnv w h₀.objs.size)) Q E ⟨h, gn, d, t, os⟩ := by
  have low : 604 ≤ b := Nat.le_trans X.T₀.low (by have := X.hb; omega)
  obtain ⟨g1, g2, g3⟩ := grp_small X.row
  have hpl := plain_len X.nr fun ps q => (X.row ps q).1
  have hdk := dk_len (plainOf rows)
  have hkc : (keysC (rows.map grp)).length ≤ 1000 := by
    have := flatLen (fun g : Grp => g.map (·.1)) 6 (rows.map grp) fun g q => by rw [List.length_map]; exact g1 g q
    have := X.nr
    rw [List.length_map] at *
    unfold keysC; omega
  refine wpAny_If ?_
  refine isTrue_or ?_
  refine wpAny_isTrue_Compare1 ?_
  have T := X.top
  refine comp_view hh (by rfl) rfl (by decide) (by decide) (fun _ => by rfl) (fun _ => by rfl) ?_
  refine methodCall_KW ?_
  refine name_local X.D.ns mw ?_
  obtain ⟨dx, dl, hsh, t', n, c', vs, es, ep, W⟩ := X.X
  refine meth_WH (f := 522) T W (by kernel_rfl) (by rfl) (by kernel_rfl) ?_
  refine call_fn0 (by rfl) T ?_
  refine wpAny_call ?_
  refine clists_spec (hA.mono (by decide)) hh T W low g1 g2 (by rw [List.length_map]; have := X.nr; omega) (fun h2 gn2 tk2 v rv kvs es2 ep2 e2 bar2 hv2 Dr Gr lrv => ?_)
  rw [mergeG_plain] at Gr
  have kl : kvs.length = (grpd (plainOf rows)).length := Gr.len
  have gl : (grpd (plainOf rows)).length ≤ 144 := by unfold grpd; rw [List.length_map]; omega
  have s2 : h.objs.size ≤ h2.objs.size := Nat.le_trans lrv (Nat.le_of_lt (Heap.lt_size Dr.at_))
  refine ⟨v, rv, _, _, kvs, _, _, _, h.objs.size, rfl, hv2, Dr, Gr, by omega, s2, fun h3 r3 us3 tk3 k3 l3 => ?_⟩
  dsimp only at k3 ⊢
  have X3 := X.ext (e2.and (.of_keeps k3))
  have lk3 := lk.ext (e2.and (.of_keeps k3)) (by simp)
  clear T W e2 hv2 Dr Gr lrv k3 kl s2
  have T3 := X3.top
  refine wpAny_Call_NameR ?_
  walk_at "nt"
  refine call_fn (by rfl) ?_
  refine wpAny_items_cons ?_
  refine name_local X3.D.ns mp ?_
  refine wpAny_items_nil ?_
  refine ⟨T3, ?_⟩
  refine wpAny_call ?_
  obtain ⟨us, lp⟩ := X3.pl
  refine grouped_spec (hA.mono (by decide)) hh T3 lp (by omega) X3.bsz (fun h4 tk4 r4 us4 e4 l4 => ?_)
  have X4 := X3.ext e4
  replace lk3 := lk3.ext e4 (by simp)
  refine ne_rd hA (l3.rdl.ext0 e4) l4.rdl (shaped_grpd X.row) ?_
  refine wpAny_truthy_bool ?_
  dsimp only
  rw [if_neg Bool.false_ne_true]
  clear T3 lp us l3 l4 e4 X3 h3 h2 X
  have T4 := X4.top
  refine isTrue_or ?_
  refine wpAny_isTrue_Compare1 ?_
  refine wpAny_Call_NameR ?_
  walk_at "nb"
  refine call_bi ?_
  refine wpAny_items_cons ?_
  refine name_local X4.D.ns mw ?_
  refine wpAny_items_nil ?_
  obtain ⟨dx, dl, hsh, t', n, c', vs, es, ep, W⟩ := X4.X
  refine call_len_WH (s := ⟨h4, gn2, d, tk4, os⟩) (hA.mono (by decide)) hh T4 W low hkc (fun h5 gn5 tk5 tk5' e5 b5 => ?_)
  dsimp only
  have X5 := X4.ext e5
  have lk5 := lk3.ext e5 (by simp)
  have T5 := X5.top
  refine wpAny_Call_NameR ?_
  walk_at "nb"
  refine call_bi ?_
  refine wpAny_items_cons ?_
  refine name_local X5.D.ns mk ?_
  refine wpAny_items_nil ?_
  refine len_list lk5.ls (by rw [lk5.sz, List.length_map]; omega) ?_
  refine PyProof.Rows.ne_int ?_
  refine wpAny_truthy_bool ?_
  dsimp only
  rw [if_neg (by rw [lk5.sz, List.length_map, distinct_len]; simp)]
  clear T4 W lk3 e5 X4
  dsimp only at b5 bar2
  refine isTrue_or ?_
  refine wpAny_isTrue_Compare1 ?_
  refine wpAny_Call_NameR ?_
  walk_at "nb"
  refine call_bi ?_
  refine wpAny_items_cons ?_
  refine methodCall_KW ?_
  refine name_local X5.D.ns mw ?_
  obtain ⟨dx, dl, hsh, t', n, c', vs, es, ep, W⟩ := X5.X
  refine meth_WH (f := 493) T5 W (by kernel_rfl) (by rfl) (by kernel_rfl) ?_
  refine call_fn0 (by rfl) T5 ?_
  refine wpAny_call ?_
  refine keys_call (hA.mono (by decide)) hh T5 W low hkc (fun h6 gn6 tk6 S6 e6 b6 so6 nS6 => ?_)
  refine wpAny_items_nil ?_
  have hd5 : (distinct (keysC (rows.map grp))).length ≤ 4 := by
    rw [distinct_len]
    exact nodup_sub _ abcd (dk_nodup _) fun k hk => keys_abcd X5.row hk
  refine sorted_set hh so6 (by omega) (fun h7 d7 L7 out7 ss7 k7 nL7 lL7 il7 sa7 so7 len7 mem7 => ?_)
  have X7 := (X5.ext e6).ext (.of_keeps k7)
  have lk7 := (lk5.ext e6 (by simp)).ext (.of_keeps k7) (by simp)
  have T7 := X7.top
  clear T5 W e6 so6 X5 lk5
  refine wpAny_Call_NameR ?_
  walk_at "nb"
  refine call_bi ?_
  refine wpAny_items_cons ?_
  refine name_local X7.D.ns mk ?_
  refine wpAny_items_nil ?_
  have hks : StrsAre ks.toList (dk (plainOf rows)) := strs_of (b := c) ⟨by rw [Array.toArray_toList, lk7.sz], fun j v d e1 e2 => lk7.rd j v d (by simpa using e1) e2⟩
  have hd7 : (dk (plainOf rows)).length ≤ 4 := by rw [← distinct_len]; exact hd5
  refine sorted_list lk7.ls hks (by omega) (fun h8 L8 out8 ss8 k8 nL8 lL8 il8 sa8 so8 p8 => ?_)
  have X8 := X7.ext (.of_keeps k8)
  have ess : ss7 = ss8 := by
    refine sorted_eq ((perm_sub _ _ (dk_nodup (plainOf rows)) (fun k hk => ?_) ?_).trans p8.symm) so7 so8
    · exact (mem7 k).mp (decide_eq_true ((distinct_mem _ _).mpr (keysC_mem.mpr hk)))
    · exact Nat.le_of_eq (len7.trans (distinct_len rows))
  subst ess
  have ab : ∀ k ∈ ss7, k ∈ abcd := fun k hk => keys_abcd X7.row (p8.mem_iff.mp hk)
  refine ne_rd hA (d := .list (ss7.map .str)) (b := 0) (b' := 0) (strs_rd (il7.at fun o e => k8 _ _ e) sa7) (strs_rd il8 sa8) (shaped_keys ab) ?_
  refine wpAny_truthy_bool ?_
  dsimp only
  rw [if_neg Bool.false_ne_true]
  refine isTrue_or_nil ?_
  rw [if_neg Bool.false_ne_true]
  refine wpAny_execs_nil ?_
  exact hQ h8 gn6 _ d7 X8 (fun q => b6 (b5 (bar2 q)))
end
end Mine
end
section
open PySem PySem.W PySem.W.X PyProof.Rows PySem.Calls PySem.SeqAt PySem.Spec
set_option maxRecDepth 100000
set_option maxHeartbeats 800000
namespace Mine
local macro_rules | `(tactic| walk_at "nb") => `(tactic| refine name_boot (by assumption) rfl rfl rfl (by boot_by_name) (by decide) ?_)
local macro_rules | `(tactic| walk_at "nt") => `(tactic| refine name_top (by assumption) rfl (by rfl) ?_)
section
variable {w : World} {A : Around} {E : Value → Shared → Prop} {h₀ h h' : Heap} {gn : Array GenState} {d : Drawn} {t : Nat} {os : OsState} {b st nb : Nat} {m m' : Str → Option Value} {kv : Option Value} {x pl : Addr} {at_ : Nat} {rows : List (List (Str × Int))}
theorem LW.storeX (X : LW w h₀ b h m kv st nb at_ x rows pl) (n : h'.Ns h₀.objs.size m') (y : Ext [h₀.objs.size] h h') : LW w h₀ b h' m' kv st nb at_ x rows pl := by
  obtain ⟨b1, b2, b3, b4, b5⟩ := X.hb
  have hm : ∀ a ∈ [h₀.objs.size], a < b ∨ h.get? a = none := fun a q => .inl (by rw [List.mem_singleton.mp q]; omega)
  obtain ⟨t1, est⟩ := X.st
  obtain ⟨vs, ns, enb, r⟩ := X.nb
  obtain ⟨dx, dl, hsh, t, n', c, vs', es, ep, W⟩ := X.X
  obtain ⟨us, ep'⟩ := X.pl
  have D' : Me [] h₀ h' h₀.objs.size m' [] := ⟨X.D.ext.trans y fun a q => by rw [List.mem_singleton.mp q]; exact X.D.offL, n, fun _ q => (nomatch q), List.nodup_nil, fun _ q => (nomatch q), fun _ q => (nomatch q), X.D.offL⟩
  exact ⟨X.T₀, D', y.cell X.Ck (nin (by omega)), y.cell X.Cs (nin (by omega)), X.hb, X.at_lt, ⟨t1, y.isList est (nin (by omega))⟩, ⟨vs, ns, y.isList enb (nin (by omega)), r⟩,
    ⟨dx, dl, hsh, t, n', c, vs', es, ep, W.ext y hm⟩, ⟨us, ep'.ext y hm⟩, X.nr, X.row⟩
structure Cp (w : World) (h₀ hb h : Heap) (m : Str → Option Value) (o : Nat) (rows : List (List (Str × Int))) : Prop where
  ext : Ext [h₀.objs.size] hb h
  ns : h.Ns h₀.objs.size m
  new : hb.get? o = none
  low : 604 ≤ o
  nL : o ≠ h₀.objs.size
  dd : ∃ dxo kvs es ep, h.get? dxo = some emptyDict ∧ DD w h o (.ref 437) (some dxo) kvs es ep ∧ kvs.map (·.1) = dk (plainOf rows)
theorem law_9 {Q : Flow → Shared → Prop} (hA : Rm 380 A) (hh : A.handled = none) (X : LW w h₀ b h m kv st nb at_ x rows pl) (mw : m "whole" = some (.ref x))
    (hQ : ∀ h' gn' tk o, Cp w h₀ h h' (fun y => if y = "other" then some (.ref o) else m y) o rows → (Bare gn → Bare gn') → Q .next ⟨h', gn', d, tk, os⟩) :
    wpAny (model P w) A (exec (lawSt w 9) (lawEnv w h₀.objs.size)) Q E ⟨h, gn, d, t, os⟩ := by
  have low : 604 ≤ b := Nat.le_trans X.T₀.low (by have := X.hb; omega)
  obtain ⟨g1, g2, g3⟩ := grp_small X.row
  have hpl := plain_len X.nr fun ps q => (X.row ps q).1
  have hd5 : (dk (plainOf rows)).length ≤ 4 := nodup_sub _ abcd (dk_nodup _) fun k hk => keys_abcd X.row hk
  have T := X.top
  obtain ⟨dx, dl, hsh, t', n, c', vs, es, ep, W⟩ := X.X
  refine wpAny_Assign_Name ?_
  refine methodCall_KW ?_
  refine name_local X.D.ns mw ?_
  refine meth_WH (f := 536) T W (by kernel_rfl) (by rfl) (by kernel_rfl) ?_
  refine call_fn0 (by rfl) T ?_
  refine wpAny_call ?_
  refine copy_spec (hA.mono (by decide)) hh T W low g1 g2 (by rw [List.length_map]; have := X.nr; omega) (by rw [mergeG_plain, grpd_keys]; exact dk_nodup _) (by rw [mergeG_plain]; unfold grpd; rw [List.length_map]; omega) (fun p hp => ?_) (fun h2 gn2 tk2 o dxo kvs es2 ep2 e2 bar lo ldx ed Dd hk => ?_)
  · rw [mergeG_plain] at hp
    obtain ⟨k, _, rfl⟩ := List.mem_map.mp hp
    have : (valsOf (plainOf rows) k).length ≤ (plainOf rows).length := by unfold valsOf; rw [List.length_map]; exact List.length_filter_le _ _
    dsimp only; omega
  · rw [mergeG_plain, grpd_keys] at hk
    have Lh : h₀.objs.size < h.objs.size := X.D.ns.lt
    have oL : o ≠ h₀.objs.size := Nat.ne_of_gt (Nat.lt_of_lt_of_le Lh lo)
    have n2 := (X.ext e2).D.ns
    refine wpAny_storeName_local rfl n2 (fun h3 hn3 hs3 => ?_) rfl
    have dL : dxo ≠ h₀.objs.size := Nat.ne_of_gt (Nat.lt_of_lt_of_le Lh ldx)
    exact hQ h3 gn2 _ o ⟨(e2.mono (by simp)).trans (.sameBut hs3 (let ⟨o, _, _, e, _⟩ := hn3; ⟨o, e⟩)) (fun a q => .inl q), hn3, get_fresh lo, Nat.le_trans low (Nat.le_trans X.bsz lo), oL, dxo, kvs, es2, ep2, (hs3.2 _ dL).trans ed, Dd.get (hs3.2 _ oL), hk⟩ bar
theorem law_10 {Q : Flow → Shared → Prop} {hb : Heap} {o : Nat} (hA : Rm 380 A) (hh : A.handled = none) (X : LW w h₀ b hb m kv st nb at_ x rows pl) (C : Cp w h₀ hb h m' o rows) (mo : m' "other" = some (.ref o))
    (hQ : ∀ h' tk, LW w h₀ b h' m' kv st nb at_ x rows pl → Q .next ⟨h', gn, d, tk, os⟩) :
    wpAny (model P w) A (exec (lawSt w 10) (lawEnv w h₀.objs.size)) Q E ⟨h, gn, d, t, os⟩ := by
  have X1 := X.storeX C.ns C.ext
  have T := X1.top
  obtain ⟨dxo, kvs, es, ep, ed, Dd, hk⟩ := C.dd
  have hd5 : (dk (plainOf rows)).length ≤ 4 := nodup_sub _ abcd (dk_nodup _) fun k hk => keys_abcd X.row hk
  have kl : kvs.length ≤ 4 := by rw [← List.length_map (f := (·.1)), hk]; exact hd5
  refine wpAny_Expr_any ?_
  refine methodCall_KW ?_
  refine name_local C.ns mo ?_
  refine meth_MD (f := 296) T ⟨Dd.at_, ed⟩ (by kernel_rfl) (by rfl) ?_
  refine call_fn (by rfl) ?_
  refine wpAny_items_cons ?_
  refine wpAny_Constant_str ?_
  refine wpAny_items_cons ?_
  refine wpAny_Constant_int ?_
  refine wpAny_items_nil ?_
  refine ⟨T, ?_⟩
  refine wpAny_call ?_
  refine madd_spec (hA.mono (by decide)) hh T Dd ed C.low (by omega) (by rw [hk]; exact fun q => absurd (keys_abcd X.row q) (by decide +kernel)) (fun h2 tk2 e2 => ?_)
  have n2 : h2.Ns h₀.objs.size m' := Ns_ext e2 C.ns (nin (Ne.symm C.nL))
  exact hQ h2 tk2 (X.storeX n2 (C.ext.trans e2 fun a q => .inr (by rw [List.mem_singleton.mp q]; exact C.new)))
end
end Mine
end
section
open PySem PySem.W PySem.W.X PyProof.Rows PySem.Calls PySem.SeqAt PySem.Spec
set_option maxRecDepth 100000
set_option maxHeartbeats 800000
namespace Mine
local macro_rules | `(tactic| walk_at "nb") => `(tactic| refine name_boot (by assumption) rfl rfl rfl (by boot_by_name) (by decide) ?_)
local macro_rules | `(tactic| walk_at "nt") => `(tactic| refine name_top (by assumption) rfl (by rfl) ?_)
section
variable {w : World} {A : Around} {E : Value → Shared → Prop} {h₀ h h' : Heap} {gn : Array GenState} {d : Drawn} {t : Nat} {os : OsState} {b st nb : Nat} {m m' : Str → Option Value} {kv : Option Value} {x pl : Addr} {at_ : Nat} {rows : List (List (Str × Int))}
theorem in_WH {Q : Value → Shared → Prop} {k : Str} {tk : Tok} (hA : Rm 480 A) (hh : A.handled = none) (X : LW w h₀ b h m kv st nb at_ x rows pl)
    (hQ : ∀ h' tk', Ext [] h h' → Q (.bool (anyHas (rows.map grp) k)) ⟨h', gn, d, tk', os⟩) :
    wpAny (model P w) A (compareOp .In (.str k tk) (.ref x)) Q E ⟨h, gn, d, t, os⟩ := by
  have T := X.top
  have low : 604 ≤ b := Nat.le_trans X.T₀.low (by have := X.hb; omega)
  obtain ⟨dx, dl, hsh, t', n, c', vs, es, ep, W⟩ := X.X
  have L : Looks (model P w) h (typeOf (.ref x)) (.ref 560) := (Looks.ld W.inst.at_).andThen .now
  have L1 : Looks (model P w) h (typeLookup (.ref 560) "__contains__") (some (.ref 550)) := looks_findIn T.K (by kernel_rfl)
  obtain ⟨of, eof, cof⟩ : ∃ o, (KK w).lookup 550 = some o ∧ o.cls = .type "function" := ⟨_, rfl, rfl⟩
  have L2 : Looks (model P w) h (typeOf (.ref 550)) (.type "function") := cof ▸ (Looks.ld (T.K _ _ eof)).andThen .now
  show wpAny _ _ (do return .bool (← contains (.ref x) (.str k tk))) Q E _
  refine wpAny_bind ?_
  unfold contains
  repeat (first | with_reducible refine wpAny_call ?_ | lk)
  show codeAny _ _ (.call (.ref 550) ⟨[.ref x, .str k tk], []⟩) _ _
  refine comb_contains (hA.mono (by decide)) hh T W low fun h' tk' e => ?_
  dsimp only
  refine wpAny_pure ?_
  refine wpAny_truthy_bool ?_
  exact wpAny_pure (hQ h' tk' e)
theorem law_11 {Q : Flow → Shared → Prop} (hA : Rm 380 A) (hh : A.handled = none) (F : A.frames = some [lawEnv w h₀.objs.size]) (X : LW w h₀ b h m kv st nb at_ x rows pl) (mw : m "whole" = some (.ref x)) (mp : m "plain" = some (.ref pl))
    (hat : at_ < 800000) (hQ : ∀ h' gn' tk k, LW w h₀ b h' m kv st nb k x rows pl → (Bare gn → Bare gn') → Q .next ⟨h', gn', d, tk, os⟩) :
    wpAny (model P w) A (exec (lawSt w 11) (lawEnv w h₀.objs.size)) Q E ⟨h, gn, d, t, os⟩ := by
  have low : 604 ≤ b := Nat.le_trans X.T₀.low (by have := X.hb; omega)
  have hz : ("z" : Str) ∉ dk (plainOf rows) := fun q => absurd (keys_abcd X.row q) (by decide +kernel)
  refine wpAny_If ?_
  refine isTrue_or ?_
  refine wpAny_isTrue_Compare1 ?_
  refine wpAny_Constant_str ?_
  refine name_local X.D.ns mw ?_
  refine in_WH (hA.mono (by decide)) hh X fun h1 tk1 e1 => ?_
  refine wpAny_truthy_bool ?_
  dsimp only
  rw [anyHas_plain, vals_none hz, if_neg (by simp)]
  replace X := X.ext e1
  clear e1
  have T := X.top
  refine isTrue_or ?_
  refine isTrue_not ?_
  refine isTrue_plain ?_
  refine wpAny_Call_NameR ?_
  walk_at "nt"
  refine call_fn (by rfl) ?_
  refine wpAny_items_cons ?_
  refine name_local X.D.ns mw ?_
  refine wpAny_items_cons ?_
  refine wpAny_Call_NameR ?_
  walk_at "nt"
  refine call_fn (by rfl) ?_
  refine wpAny_items_cons ?_
  refine wpAny_Name (wpAny_loadName_cell rfl rfl (c := h₀.objs.size + 1) rfl X.Cs ?_) (by decide)
  refine wpAny_items_cons ?_
  refine wpAny_Constant_int ?_
  refine wpAny_items_nil ?_
  refine ⟨T, ?_⟩
  refine wpAny_call ?_
  obtain ⟨t1, est⟩ := X.st
  obtain ⟨nvs, ns, enb, hi, hl, hl2⟩ := X.nb
  obtain ⟨b1, b2, b3, b4, b5⟩ := X.hb
  refine next_spec (hA.mono (by decide)) hh T est enb hi hl hl2 (by omega) (by decide) (by decide) b4 (Nat.le_trans X.T₀.low (by omega)) (fun h2 tk2 v tv t3 e2 l2 v0 v4 => ?_)
  dsimp only
  replace X := X.next e2 l2 (by omega)
  clear e2 l2 est enb T
  have T := X.top
  refine wpAny_items_nil ?_
  refine ⟨T, ?_⟩
  refine wpAny_call ?_
  obtain ⟨dx, dl, hsh, t', n, c', vs, es, ep, W⟩ := X.X
  have Fs0 : Fs A h2 [lawEnv w h₀.objs.size] := ⟨F, fun env he => by
    rw [List.mem_singleton.mp he]
    exact ⟨(fun q => by rw [show (lawEnv w h₀.objs.size).scope.kind = ScopeKind.function from rfl] at q; cases q), h₀.objs.size, m, rfl, X.D.ns, X.T₀.low⟩⟩
  refine refused_spec (hA.mono (by decide)) hh T W Fs0 (fun h3 tk3 e3 => ?_)
  dsimp only
  replace X := X.fext e3
  clear e3 W Fs0 T
  have T := X.top
  refine wpAny_truthy_bool ?_
  rw [if_neg (by simp)]
  refine isTrue_or ?_
  refine wpAny_isTrue_Compare1 ?_
  refine wpAny_Call_NameR ?_
  walk_at "nb"
  refine call_bi ?_
  refine wpAny_items_cons ?_
  refine methodCall_KW ?_
  refine name_local X.D.ns mw ?_
  obtain ⟨dx, dl, hsh, t', n, c, vs, es, ep, W⟩ := X.X
  refine meth_WH (f := 508) T W (by kernel_rfl) (by rfl) (by kernel_rfl) ?_
  refine call_fnk0 (by rfl) ?_
  refine kwAll_cons ?_
  refine wpAny_Constant_bool ?_
  refine kwAll_nil ?_
  refine ⟨T, ?_⟩
  refine items_multi (fun g s₁ q => wpAny_items_nil q) (hA.mono (by decide)) hh X (fun h4 gn4 tk4 S ys X4 b4 ls _ => ?_)
  refine name_local X4.D.ns mp ?_
  obtain ⟨us, lp⟩ := X4.pl
  refine ne_rd hA ls.rdl lp.rdl (shaped_plain X.row) ?_
  refine wpAny_truthy_bool ?_
  rw [if_neg Bool.false_ne_true]
  refine isTrue_or_nil ?_
  rw [if_neg Bool.false_ne_true]
  refine wpAny_execs_nil ?_
  exact hQ h4 gn4 tk4 _ X4 b4
end
end Mine
end
section
open PySem PySem.W PySem.W.X PyProof.Rows PySem.Calls PySem.SeqAt PySem.Spec
set_option maxRecDepth 100000
set_option maxHeartbeats 800000
namespace Mine
local macro_rules | `(tactic| walk_at "nb") => `(tactic| refine name_boot (by assumption) rfl rfl rfl (by boot_by_name) (by decide) ?_)
local macro_rules | `(tactic| walk_at "nt") => `(tactic| refine name_top (by assumption) rfl (by rfl) ?_)
section
variable {w : World} {A : Around} {E : Value → Shared → Prop} {h₀ h h' : Heap} {gn : Array GenState} {d : Drawn} {t : Nat} {os : OsState} {b st nb : Nat} {m m' : Str → Option Value} {kv : Option Value} {x pl : Addr} {at_ : Nat} {rows : List (List (Str × Int))}
theorem one_md {env : Env} {p0 p1 p2 p3 p4 p5 : Pos} {c1 c2 k1 : Nat} {key : Str} {n : Int} {Q : Value → Shared → Prop} (hA : Rm 400 A) (hh : A.handled = none) (T : TopH w h) (hg : env.globals = mainGlobals) (hk : env.scope.kind = .function) (hx : env.kindOf "MultiDict" = some .globalImplicit)
    (hQ : ∀ h' tk x dx kvs es ep, Ext [] h h' → MDI w h.objs.size h' x [(key, [n])] dx kvs es ep → Q (.ref x) ⟨h', gn, d, tk, os⟩) :
    wpAny (model P w) A (eval (.Call (.Name "MultiDict" p0) [.List [.Tuple [.Constant (.str key) c1 p1, .Constant (.int n) c2 p2] k1 p3] p4] [] p5) env) Q E ⟨h, gn, d, t, os⟩ := by
  refine wpAny_Call_NameR ?_
  refine name_top T hg (by rfl) ?_ hk hx
  refine call_fn (by rfl) ?_
  refine wpAny_items_cons ?_
  refine wpAny_List ?_
  refine wpAny_items_cons ?_
  refine Tuple_ ?_
  refine wpAny_items_cons ?_
  refine wpAny_Constant_str ?_
  refine wpAny_items_cons ?_
  refine wpAny_Constant_int ?_
  refine wpAny_items_nil ?_
  refine wpAny_newObj_type ?_ (by show (2 : Nat) ≤ sizeLine; decide)
  dsimp only
  have e1 : Ext [] h (h.push { cls := .type "tuple", data := .seq #[.str key (t + 1 - 1), .int n (t + 1)] }) := Ext.push _ _
  have tp : IsTup (h.push { cls := .type "tuple", data := .seq #[.str key t, .int n (t + 1)] }) h.objs.size #[.str key t, .int n (t + 1)] := ⟨_, Heap.get?_push_size _ rfl, rfl, 0, rfl⟩
  replace e1 : Ext [] h (h.push { cls := .type "tuple", data := .seq #[.str key t, .int n (t + 1)] }) := Ext.push _ _
  have sz1 : (h.push { cls := .type "tuple", data := .seq #[.str key t, .int n (t + 1)] }).objs.size = h.objs.size + 1 := Heap.size_push ..
  change wpAny _ _ _ _ _ ⟨h.push { cls := .type "tuple", data := .seq #[.str key t, .int n (t + 1)] }, _, _, _, _⟩
  generalize hta : h.objs.size = ta at tp sz1 ⊢
  generalize h.push { cls := .type "tuple", data := .seq #[.str key t, .int n (t + 1)] } = h1 at e1 tp sz1 ⊢
  refine wpAny_items_nil ?_
  refine ⟨by simp [sizeLine_eq], ?_⟩
  refine wpAny_items_nil ?_
  have e2 : Ext [] h1 (h1.push { cls := .type "list", data := .seq #[.ref ta] }) := Ext.push _ _
  have ls : (h1.push { cls := .type "list", data := .seq #[.ref ta] }).IsList h1.objs.size #[.ref ta] := ⟨_, Heap.get?_push_size _ rfl, rfl, 0, rfl⟩
  have tp2 : IsTup (h1.push { cls := .type "list", data := .seq #[.ref ta] }) ta #[.str key t, .int n (t + 1)] := e2.isTup tp (by simp)
  change _ ∧ wpAny _ _ _ _ _ ⟨h1.push { cls := .type "list", data := .seq #[.ref ta] }, _, _, _, _⟩
  have sz2 : (h1.push { cls := .type "list", data := .seq #[.ref ta] }).objs.size = h1.objs.size + 1 := Heap.size_push ..
  generalize h1.objs.size = la at ls sz1 sz2 ⊢
  generalize h1.push { cls := .type "list", data := .seq #[.ref ta] } = h2 at e2 ls tp2 sz2 ⊢
  have e02 : Ext [] h h2 := e1.and e2
  refine ⟨T.ext e02 (by simp), ?_⟩
  refine wpAny_call ?_
  have lsat : LsAt ta h2 la #[.ref ta] ([(key, n)].map pairD) := by
    refine ⟨by rw [sz1]; exact Nat.le_succ _, ls, rfl, fun i v d q1 q2 => ?_⟩
    match i, q1, q2 with
    | 0, q1, q2 =>
      cases q1; cases q2
      refine .tup (Nat.le_refl _) tp2 rfl fun i v d q1 q2 => ?_
      match i, q1, q2 with
      | 0, q1, q2 => cases q1; cases q2; exact .str _ _
      | 1, q1, q2 => cases q1; cases q2; exact .int _ _
      | i + 2, q1, q2 => simp at q1
    | i + 1, q1, q2 => simp at q1
  refine make_md (hA.mono (by decide)) hh (T.ext e02 (by simp)) lsat (by simp) (fun h3 tk3 x dx kvs es ep e3 M => ?_)
  exact hQ h3 tk3 x dx kvs es ep (e02.and e3) (M.mono (by show h.objs.size ≤ h2.objs.size; rw [hta, sz2, sz1]; exact Nat.le_succ_of_le (Nat.le_succ _)))
theorem law_12 {Q : Flow → Shared → Prop} (hA : Rm 380 A) (hh : A.handled = none) (F : A.frames = some [lawEnv w h₀.objs.size]) (X : LW w h₀ b h m kv st nb at_ x rows pl)
    (hQ : ∀ h' tk, LW w h₀ b h' m kv st nb at_ x rows pl → Q (.ret (.bool true)) ⟨h', gn, d, tk, os⟩) :
    wpAny (model P w) A (exec (lawSt w 12) (lawEnv w h₀.objs.size)) Q E ⟨h, gn, d, t, os⟩ := by
  have T := X.top
  refine wpAny_Return_some ?_
  refine wpAny_Compare1 ?_
  refine methodCall_KW ?_
  refine wpAny_Call_NameR ?_
  walk_at "nt"
  refine call_fn (by rfl) ?_
  refine wpAny_items_cons ?_
  refine wpAny_List ?_
  refine wpAny_items_cons ?_
  refine one_md (hA.mono (by decide)) hh T rfl rfl rfl (fun h1 tk1 x1 dx1 kvs1 es1 ep1 e1 M1 => ?_)
  have T1 := T.ext e1 (by simp)
  refine wpAny_items_cons ?_
  refine one_md (hA.mono (by decide)) hh T1 rfl rfl rfl (fun h2 tk2 x2 dx2 kvs2 es2 ep2 e2 M2 => ?_)
  have T2 := T1.ext e2 (by simp)
  have lh : h.objs.size ≤ h1.objs.size := Nat.le_trans M1.lx (Nat.le_of_lt (Heap.lt_size M1.dd.at_))
  have lh2 : h1.objs.size ≤ h2.objs.size := Nat.le_trans M2.lx (Nat.le_of_lt (Heap.lt_size M2.dd.at_))
  have M1' := M1.ext e2 (by simp)
  have M2' := M2.mono lh
  refine wpAny_items_nil ?_
  refine ⟨by simp [sizeLine_eq], ?_⟩
  refine wpAny_items_nil ?_
  have e3 : Ext [] h2 (h2.push (lsObj #[.ref x1, .ref x2] 0)) := Ext.push _ _
  have ls : (h2.push (lsObj #[.ref x1, .ref x2] 0)).get? h2.objs.size = some (lsObj #[.ref x1, .ref x2] 0) := Heap.get?_push_size _ rfl
  change _ ∧ wpAny _ _ _ _ _ ⟨h2.push (lsObj #[.ref x1, .ref x2] 0), _, _, _, _⟩
  have T3 := T2.ext e3 (by simp)
  have N1 := M1'.ext e3 (by simp)
  have N2 := M2'.ext e3 (by simp)
  have lh3 : h2.objs.size ≤ (h2.push (lsObj #[.ref x1, .ref x2] 0)).objs.size := by rw [Heap.size_push]; exact Nat.le_succ _
  dsimp only
  generalize h2.objs.size = la at ls ⊢
  generalize h2.push (lsObj #[.ref x1, .ref x2] 0) = h3 at e3 ls T3 N1 N2 lh3 ⊢
  refine ⟨T3, ?_⟩
  refine wpAny_call ?_
  refine make_comb (gs := [[("a", [1])], [("a", [2])]]) (b := h.objs.size) (hA.mono (by decide)) T3 ls ?_ (Nat.le_trans lh (Nat.le_trans lh2 lh3)) (by show (2 : Nat) ≤ 100; decide) (fun h4 tk4 y dx l hsh tt n c es ep e4 W => ?_)
  · refine ⟨rfl, fun i g q => ?_⟩
    match i, q with
    | 0, q => cases q; exact ⟨x1, dx1, kvs1, es1, ep1, rfl, N1⟩
    | 1, q => cases q; exact ⟨x2, dx2, kvs2, es2, ep2, rfl, N2⟩
    | i + 2, q => simp at q
  have e04 : Ext [] h h4 := (((e1.trans e2 (by simp)).trans e3 (by simp)).trans e4 (by simp))
  have T4 := T.ext e04 (by simp)
  have X4 := X.ext e04
  dsimp only
  refine meth_WH (f := 479) T4 W (by kernel_rfl) (by rfl) (by kernel_rfl) ?_
  refine call_fn (by rfl) ?_
  refine wpAny_items_cons ?_
  refine wpAny_Constant_str ?_
  refine wpAny_items_nil ?_
  refine ⟨T4, ?_⟩
  refine wpAny_call ?_
  have Fs0 : Fs A h4 [lawEnv w h₀.objs.size] := ⟨F, fun env he => by
    rw [List.mem_singleton.mp he]
    exact ⟨(fun q => by rw [show (lawEnv w h₀.objs.size).scope.kind = ScopeKind.function from rfl] at q; cases q), h₀.objs.size, m, rfl, X4.D.ns, X.T₀.low⟩⟩
  have Lh : h₀.objs.size < h.objs.size := X.D.ns.lt
  refine comb_getlist (hA.mono (by decide)) hh T4 W (Nat.le_trans X.T₀.low (Nat.le_of_lt Lh)) Fs0 (fun a q => by rw [List.mem_singleton.mp (show a ∈ [h₀.objs.size] from q)]; exact Lh) (by decide) (by decide) (fun h5 tk5 a e5 il => ?_)
  have X5 := X4.fext e5
  dsimp only
  refine wpAny_List ?_
  refine wpAny_items_cons ?_
  refine wpAny_Constant_int ?_
  refine wpAny_items_cons ?_
  refine wpAny_Constant_int ?_
  refine wpAny_items_nil ?_
  refine ⟨by simp [sizeLine_eq], ?_⟩
  change wpAny _ _ (compareOp .Eq (.ref a) (.ref h5.objs.size)) _ _ ⟨h5.push { cls := .type "list", data := .seq #[.int 1 tk5, .int 2 (tk5 + 1)] }, _, _, _, _⟩
  have e6 : Ext [] h5 (h5.push { cls := .type "list", data := .seq #[.int 1 tk5, .int 2 (tk5 + 1)] }) := Ext.push _ _
  have ra := il.rd.ext0 e6
  refine eq_rd hA (d := .list (([1, 2] : List Int).map .int)) (b' := 0) ra (.list (vs := #[.int 1 tk5, .int 2 (tk5 + 1)]) (Nat.zero_le _) ⟨_, Heap.get?_push_size _ rfl, rfl, 0, rfl⟩ rfl fun i v d q1 q2 => ?_) (shaped_ints _) ?_
  · match i, q1, q2 with
    | 0, q1, q2 => cases q1; cases q2; exact .int _ _
    | 1, q1, q2 => cases q1; cases q2; exact .int _ _
    | i + 2, q1, q2 => simp at q1
  · exact hQ _ _ (X5.ext e6)
end
end Mine
end
section
open PySem PySem.W PySem.W.X PyProof.Rows PySem.Calls PySem.SeqAt PySem.Spec
set_option maxRecDepth 100000
set_option maxHeartbeats 1600000
namespace Mine
local macro_rules | `(tactic| walk_at "nb") => `(tactic| refine name_boot (by assumption) rfl rfl rfl (by boot_by_name) (by decide) ?_)
local macro_rules | `(tactic| walk_at "nt") => `(tactic| refine name_top (by assumption) rfl (by rfl) ?_)
section
variable {w : World} {A : Around} {E : Value → Shared → Prop} {h₀ h h' : Heap} {gn : Array GenState} {d : Drawn} {t : Nat} {os : OsState} {b st nb : Nat} {m m' : Str → Option Value} {kv : Option Value} {x pl : Addr} {at_ : Nat} {rows : List (List (Str × Int))}
theorem add_ls {l c : Addr} {vs ws : Array Value} {Q : Value → Shared → Prop} (hl : h.IsList l vs) (hb : h.IsList c ws) (hsz : vs.size + ws.size ≤ 1000)
    (hQ : Q (.ref h.objs.size) ⟨h.push { cls := .type "list", data := .seq (vs ++ ws) }, gn, d, t, os⟩) : wpAny (model P w) A (binaryOp .Add (.ref l) (.ref c)) Q E ⟨h, gn, d, t, os⟩ := by
  obtain ⟨⟨cls, dd, data, sl⟩, ho, hc, n, hd⟩ := id hl
  obtain ⟨⟨cls2, dd2, data2, sl2⟩, ho2, hc2, n2, hd2⟩ := id hb
  simp only at hc hd hc2 hd2
  subst hc hd hc2 hd2
  exact concat_meets ⟨_, ho, rfl⟩ ⟨_, ho2, rfl⟩ noFill_list_add seq_list_add PySem.F.slot_list_add PySem.F.entry_list_add (PySem.F.args_list_add_2 _ _) (list_addW l c vs ws n n2 dd dd2 sl sl2 (by rw [sizeLine_eq]; omega)) ⟨ho, ho2, hQ⟩
theorem LW.re {hb : Heap} {M : List Addr} (X : LW w h₀ b hb m kv st nb at_ x rows pl) (y : Ext M hb h') (hM : ∀ a ∈ M, a = h₀.objs.size ∨ a = h₀.objs.size + 2 ∨ hb.get? a = none) (n : h'.Ns h₀.objs.size m') {kv' : Option Value} (c : h'.IsCell (h₀.objs.size + 2) kv') : LW w h₀ b h' m' kv' st nb at_ x rows pl := by
  obtain ⟨b1, b2, b3, b4, b5⟩ := X.hb
  have hm : ∀ a ∈ M, a < b ∨ hb.get? a = none := fun a q => by
    rcases hM a q with rfl | rfl | z
    · exact .inl (Nat.lt_trans (Nat.lt_of_le_of_lt (Nat.le_add_right _ 2) b1) b2)
    · exact .inl (Nat.lt_trans b1 b2)
    · exact .inr z
  have out : ∀ (a : Nat) o, hb.get? a = some o → a ≠ h₀.objs.size → a ≠ h₀.objs.size + 2 → a ∉ M := fun a o e n1 n2 q => by
    rcases hM a q with z | z | z
    · exact n1 z
    · exact n2 z
    · rw [z] at e; cases e
  obtain ⟨t1, est⟩ := X.st
  obtain ⟨vs, ns, enb, r⟩ := X.nb
  obtain ⟨dx, dl, hsh, t, n', c', vs', es, ep, W⟩ := X.X
  obtain ⟨us, ep'⟩ := X.pl
  have D' : Me [] h₀ h' h₀.objs.size m' [] := ⟨X.D.ext.trans y fun a q => by
    rcases hM a q with rfl | rfl | z
    · exact .inr (get_size _)
    · exact .inr (get_fresh (Nat.le_add_right _ _))
    · exact .inr (X.D.ext.fresh z), n, fun _ q => (nomatch q), List.nodup_nil, fun _ q => (nomatch q), fun _ q => (nomatch q), X.D.offL⟩
  have oc : h₀.objs.size + 1 ∉ M := by
    obtain ⟨o, e, _⟩ := X.Cs
    exact out _ o e (Nat.ne_of_gt (Nat.lt_succ_self _)) (Nat.ne_of_lt (Nat.lt_succ_self _))
  have ost : st ∉ M := by obtain ⟨o, e, _⟩ := est; exact out _ o e (by omega) (by omega)
  have onb : nb ∉ M := by obtain ⟨o, e, _⟩ := enb; exact out _ o e (by omega) (by omega)
  exact ⟨X.T₀, D', c, y.cell X.Cs oc, X.hb, X.at_lt, ⟨t1, y.isList est ost⟩, ⟨vs, ns, y.isList enb onb, r⟩,
    ⟨dx, dl, hsh, t, n', c', vs', es, ep, W.ext y hm⟩, ⟨us, ep'.ext y hm⟩, X.nr, X.row⟩
theorem item_temp {value slice : Expr} {s : Shared} {l : Addr} {items : Array Value} {k : Int} {u : Tok} {y : Value} {Q : Value → Shared → Prop} (hl : s.heap.IsList l items)
    (h0 : 0 ≤ k) (hfit : k < 2 ^ 63) (hx : items[k.toNat]? = some y) (h : Q y s)
    (hs : subscripted slice false (.ref l) (.int k u) = operate [.ref l, .int k u] (getItem (.ref l) (.int k u)) := by with_unfolding_all rfl) :
    wpAny (model P w) A (subscriptTail value slice (.ref l) (.int k u)) Q E s := by
  have hT := hl.typeIs
  unfold subscriptTail
  refine wpAny_bind ?_
  rw [getitemInPython_of_ne hT.not_modules]
  refine wpAny_bind (wpAny_specialOf hT slot_list_getitem.lookup ?_)
  have fin : wpAny (model P w) A (subscripted slice false (.ref l) (.int k u)) (fun r s₃ => wpAny (model P w) A (letTemporaryGo value (.ref l) r >>= fun _ => pure r) Q E s₃) E s := by
    rw [hs]
    exact wpAny_operating (wpAny_mono (wpAny_getItem_list (Q := Q) hl h0 hfit hx h) (fun r s₃ h₃ => wpAny_bind (wpAny_letTemporaryGo (wpAny_pure h₃))) fun _ _ x => x)
  first
    | exact wpAny_pure (wpAny_bind fin)
    | exact wpAny_bind (wpAny_pure (wpAny_bind fin))
    | exact wpAny_bind fin
def five : List Str := ["a", "b", "c", "d", "e"]
theorem law_5 {Q : Flow → Shared → Prop} (hA : Rm 380 A) (hh : A.handled = none) (F : A.frames = some [lawEnv w h₀.objs.size]) (X : LW w h₀ b h m kv st nb at_ x rows pl) (mw : m "whole" = some (.ref x)) (mp : m "plain" = some (.ref pl))
    (hQ : ∀ h' tk m' kv', LW w h₀ b h' m' kv' st nb at_ x rows pl → m' "whole" = some (.ref x) → m' "plain" = some (.ref pl) → Q .next ⟨h', gn, d, tk, os⟩) :
    wpAny (model P w) A (exec (lawSt w 5) (lawEnv w h₀.objs.size)) Q E ⟨h, gn, d, t, os⟩ := by
  have off : h₀.get? (h₀.objs.size + 2) = none := get_fresh (Nat.le_add_right _ _)
  have low : 604 ≤ b := Nat.le_trans X.T₀.low (by have := X.hb; omega)
  refine wpAny_For ?_
  refine wpAny_List ?_
  refine wpAny_items_cons ?_
  refine wpAny_Constant_str ?_
  refine wpAny_items_cons ?_
  refine wpAny_Constant_str ?_
  refine wpAny_items_cons ?_
  refine wpAny_Constant_str ?_
  refine wpAny_items_cons ?_
  refine wpAny_Constant_str ?_
  refine wpAny_items_cons ?_
  refine wpAny_Constant_str ?_
  refine wpAny_items_nil ?_
  refine ⟨by simp [sizeLine_eq], ?_⟩
  have Lh : h₀.objs.size < h.objs.size := X.D.ns.lt
  have Ch : h₀.objs.size + 2 < h.objs.size := by obtain ⟨o, e, _⟩ := X.Ck; exact Heap.lt_size e
  have e1 : Ext [] h (h.push { cls := .type "list", data := .seq #[.str "a" t, .str "b" (t + 1), .str "c" (t + 1 + 1), .str "d" (t + 1 + 1 + 1), .str "e" (t + 1 + 1 + 1 + 1)] }) := Ext.push _ _
  have l1 : (h.push { cls := .type "list", data := .seq #[.str "a" t, .str "b" (t + 1), .str "c" (t + 1 + 1), .str "d" (t + 1 + 1 + 1), .str "e" (t + 1 + 1 + 1 + 1)] }).IsList h.objs.size #[.str "a" t, .str "b" (t + 1), .str "c" (t + 1 + 1), .str "d" (t + 1 + 1 + 1), .str "e" (t + 1 + 1 + 1 + 1)] := ⟨_, Heap.get?_push_size _ rfl, rfl, 0, rfl⟩
  change wpAny _ _ (pyIter (.ref h.objs.size)) _ _ ⟨h.push { cls := .type "list", data := .seq #[.str "a" t, .str "b" (t + 1), .str "c" (t + 1 + 1), .str "d" (t + 1 + 1 + 1), .str "e" (t + 1 + 1 + 1 + 1)] }, _, _, _, _⟩
  have five_at : ∀ (i : Nat) (v : Value), (#[.str "a" t, .str "b" (t + 1), .str "c" (t + 1 + 1), .str "d" (t + 1 + 1 + 1), .str "e" (t + 1 + 1 + 1 + 1)] : Array Value)[i]? = some v → ∃ k tk, v = .str k tk := by
    intro i v q
    match i, q with
    | 0, q => cases q; exact ⟨_, _, rfl⟩
    | 1, q => cases q; exact ⟨_, _, rfl⟩
    | 2, q => cases q; exact ⟨_, _, rfl⟩
    | 3, q => cases q; exact ⟨_, _, rfl⟩
    | 4, q => cases q; exact ⟨_, _, rfl⟩
    | i + 5, q => simp at q
  have kL : h.objs.size ≠ h₀.objs.size := Nat.ne_of_gt Lh
  have kC : h.objs.size ≠ h₀.objs.size + 2 := Nat.ne_of_gt Ch
  obtain ⟨five, efive⟩ : ∃ five : Array Value, five = #[.str "a" t, .str "b" (t + 1), .str "c" (t + 1 + 1), .str "d" (t + 1 + 1 + 1), .str "e" (t + 1 + 1 + 1 + 1)] := ⟨_, rfl⟩
  have f5 : five.size = 5 := by rw [efive]; rfl
  rw [← efive] at l1 five_at e1 ⊢
  clear efive
  have X1 := X.ext e1
  have sz1 : h.objs.size < (h.push { cls := .type "list", data := .seq five }).objs.size := by rw [Heap.size_push]; exact Nat.lt_succ_self _
  generalize h.objs.size = kl at l1 kL kC sz1 Lh Ch ⊢
  generalize h.push { cls := .type "list", data := .seq five } = h1 at e1 l1 X1 sz1 ⊢
  refine wpAny_pyIter_list l1 ?_
  have e2 : Ext [] h1 (h1.push { cls := .type "list_iterator", data := .fields #[.ref kl, .int 0 0] }) := Ext.push _ _
  have hit : (h1.push { cls := .type "list_iterator", data := .fields #[.ref kl, .int 0 0] }).IsListIter h1.objs.size kl 0 := ⟨_, Heap.get?_push_size _ rfl, rfl, rfl⟩
  have X2 := X1.ext e2
  have nit1 : h1.get? h1.objs.size = none := get_size _
  have l2 := e2.isList l1 (by simp)
  have iL : h1.objs.size ≠ h₀.objs.size := Nat.ne_of_gt (Nat.lt_trans Lh sz1)
  have iC : h1.objs.size ≠ h₀.objs.size + 2 := Nat.ne_of_gt (Nat.lt_trans Ch sz1)
  have fit : h₀.get? h1.objs.size = none := get_fresh (Nat.le_of_lt (Nat.lt_trans Lh sz1))
  have iK : h1.objs.size ≠ kl := Nat.ne_of_gt sz1
  dsimp only
  generalize h1.objs.size = it at hit iL iC fit iK nit1 ⊢
  generalize h1.push { cls := .type "list_iterator", data := .fields #[.ref kl, .int 0 0] } = h2 at X2 l2 hit e2 ⊢
  clear e1 l1 X sz1
  have hM : ∀ a ∈ [h₀.objs.size, h₀.objs.size + 2, it], a = h₀.objs.size ∨ a = h₀.objs.size + 2 ∨ h1.get? a = none := fun a q => by
    rcases List.mem_cons.mp q with rfl | q
    · exact .inl rfl
    · rcases List.mem_cons.mp q with rfl | q
      · exact .inr (.inl rfl)
      · exact .inr (.inr (by rw [List.mem_singleton.mp q]; exact nit1))
  refine codeAny_forLoop_any (fun n s' => ∃ i h' tk' m' kv', n + i = 5 ∧ s' = ⟨h', gn, d, tk', os⟩ ∧ Ext [h₀.objs.size, h₀.objs.size + 2, it] h1 h' ∧ LW w h₀ b h' m' kv' st nb at_ x rows pl ∧ m' "whole" = some (.ref x) ∧ m' "plain" = some (.ref pl) ∧ h'.IsListIter it kl i ∧ h'.IsList kl five) ?_ 5
    ⟨0, h2, _, m, kv, rfl, rfl, e2.mono (by simp), X2, mw, mp, hit, l2⟩
  clear X2 mw mp hit l2 e2 h2
  rintro n s' ⟨i, h2, tk1, m', kv', hn, rfl, y, X, mw, mp, hit, ls⟩
  have atit : ∀ h3, Heap.ExtBut it h2 h3 → Ext [h₀.objs.size, h₀.objs.size + 2, it] h1 h3 ∧ LW w h₀ b h3 m' kv' st nb at_ x rows pl := fun h3 he => by
    have ni : ∀ {c o}, h1.get? c = some o → c ≠ it := fun {c o} e z => by rw [z, nit1] at e; cases e
    have y3 : Ext [h₀.objs.size, h₀.objs.size + 2, it] h1 h3 := ⟨fun c o e q => by
      rcases y.keep c o e q with z | ⟨ht, ps, more, rfl, z, kz⟩
      · exact .inl (he c o (ni e) z)
      · exact .inr ⟨ht, ps, more, rfl, he c _ (ni e) z, kz⟩, fun c o e => by
      obtain ⟨o', z⟩ := y.there c o e
      exact ⟨o', he c o' (ni e) z⟩⟩
    refine ⟨y3, X1.re y3 hM ?_ (cell_keeps X.Ck he (Ne.symm iC))⟩
    obtain ⟨o, es, ep, e, r⟩ := X.D.ns
    exact ⟨o, es, ep, he _ _ (Ne.symm iL) e, r⟩
  cases n with
  | zero =>
    refine wpAny_pyNext_list_end hh hit ls (by rw [Array.getElem?_eq_none_iff, f5]; omega) (fun h3 he => ?_)
    obtain ⟨y3, X3⟩ := atit h3 he
    dsimp only
    refine wpAny_execs_nil ?_
    exact hQ h3 tk1 m' kv' X3 mw mp
  | succ n =>
    have hi : i < five.size := by omega
    obtain ⟨k, tk, ek⟩ := five_at i five[i] (Array.getElem?_eq_getElem hi)
    refine wpAny_pyNext_list_item hit ls (by rw [Array.getElem?_eq_getElem hi, ek]) (fun h3 hit3 sb3 => ?_)
    obtain ⟨y3, X3⟩ := atit h3 sb3.extBut
    replace ls := isList_sb ls sb3 (Ne.symm iK)
    dsimp only
    clear atit X y hit sb3
    refine wpAny_pure ?_
    refine wpAny_assign_Name ?_
    refine wpAny_storeName_cell rfl rfl (c := h₀.objs.size + 2) rfl X3.Ck (fun h4 C4 sb4 => ?_)
    have X4 := X3.key C4 sb4 off
    have y4 := y3.trans (.sameBut sb4 (let ⟨o, e, _⟩ := C4; ⟨o, e⟩)) (fun a q => .inl (by rw [List.mem_singleton.mp q]; simp))
    have hit4 := hit3.at fun o e => (sb4.2 it iC).trans e
    replace ls := isList_sb ls sb4 kC
    dsimp only
    clear X3 y3 hit3 sb4 C4 h3
    refine wpAny_execs_cons ?_
    refine comp_rdA (cl := [(Str.ofString "key", h₀.objs.size + 2)]) (L := h₀.objs.size) (mL := m') (sndIf k) hh (by rfl) (by rfl) (by rfl) (by rfl) (by rfl) rfl (by decide) (by decide) ?_
    refine name_local X4.D.ns mp ?_
    obtain ⟨us, lp⟩ := X4.pl
    have hpl := plain_len X4.nr fun ps q => (X4.row ps q).1
    refine ⟨pl, us, _, b, rfl, lp, by rw [List.length_map]; omega, X4.bsz, fun dd hd => ?_, Nat.lt_trans (Nat.lt_of_le_of_lt (Nat.le_add_right _ 2) X4.hb.1) X4.hb.2.1, X4.D.ns, fun h5 r5 us5 tk5 k5 n5 l5 s5 => ?_⟩
    · obtain ⟨p, _, rfl⟩ := List.mem_map.mp hd
      refine TurnOk.pair hh rfl (fun _ => by rfl) (fun _ => by rfl) (by decide) fun E p' h' tk' C m u z hp hC kp nC fC mx my ru rz => ?_
      obtain ⟨t1, rfl⟩ := ru.strE
      refine wpAny_tests_one ?_
      refine wpAny_isTrue_Compare1 ?_
      refine name_local nC mx ?_
      refine wpAny_Name (wpAny_loadName_cell rfl rfl (c := h₀.objs.size + 2) rfl ((Ext.of_keeps kp).cell X4.Ck List.not_mem_nil) ?_) (by decide)
      refine PyProof.Rows.eq_str ?_
      refine wpAny_truthy_bool ?_
      by_cases he : p.1 = k
      · rw [show sndIf k (pairD p) = some (.int p.2) by unfold sndIf; simp only [if_pos he]]
        refine ⟨by simpa using he, ?_⟩
        refine name_local nC my ?_
        exact ⟨rz, _, _, _, rfl, fun _ _ _ e => e, nC⟩
      · rw [show sndIf k (pairD p) = none by unfold sndIf; simp only [if_neg he]]
        exact ⟨by simpa using he, _, _, _, rfl, fun _ _ _ e => e, nC⟩
    · rw [snd_vals] at l5
      dsimp only at k5 n5
      obtain ⟨mm, X5, mow, mwh, mpl⟩ : ∃ mm : Str → Option Value, LW w h₀ b h5 mm (some (.str k tk)) st nb at_ x rows pl ∧ mm "own" = some (.ref r5) ∧ mm "whole" = some (.ref x) ∧ mm "plain" = some (.ref pl) :=
        ⟨_, X4.storeE n5 k5, if_pos rfl, (if_neg (by decide)).trans mw, (if_neg (by decide)).trans mp⟩
      have y5 := y4.trans (mod' := [h₀.objs.size]) ⟨fun c o e q => .inl (k5 c o (fun z => q (List.mem_singleton.mpr z)) e), fun c o e => by
        by_cases z : c = h₀.objs.size
        · obtain ⟨o, _, _, e, _⟩ := n5; exact ⟨o, z ▸ e⟩
        · exact ⟨o, k5 c o z e⟩⟩ (fun a q => .inl (by rw [List.mem_singleton.mp q]; simp))
      have hit5 := hit4.at fun o e => k5 _ _ iL e
      have ls5 : h5.IsList kl five := let ⟨o, e, r⟩ := ls; ⟨o, k5 _ _ kL e, r⟩
      clear X4 y4 hit4 ls lp k5 n5
      have Lb : h₀.objs.size < b := Nat.lt_trans (Nat.lt_of_le_of_lt (Nat.le_add_right _ 2) X5.hb.1) X5.hb.2.1
      have hm5 : ∀ a ∈ [h₀.objs.size], a < b ∨ h5.get? a = none := fun a q => .inl (by rw [List.mem_singleton.mp q]; exact Lb)
      obtain ⟨g1, g2, g3⟩ := grp_small X5.row
      have g100 : ∀ g ∈ rows.map grp, ∀ p ∈ g, p.2.length ≤ 100 := fun g q p hp => Nat.le_trans (g2 g q p hp) (by decide)
      have hvl : (valsOf (plainOf rows) k).length ≤ 144 := by
        have : (valsOf (plainOf rows) k).length ≤ (plainOf rows).length := by unfold valsOf; rw [List.length_map]; exact List.length_filter_le _ _
        omega
      have us5l : us5.size = (valsOf (plainOf rows) k).length := by rw [l5.sz, List.length_map]
      have Fs0 : ∀ h6, LW w h₀ b h6 mm (some (.str k tk)) st nb at_ x rows pl → Fs A h6 [lawEnv w h₀.objs.size] := fun h6 X6 => ⟨F, fun env he => by
        rw [List.mem_singleton.mp he]
        exact ⟨(fun q => by rw [show (lawEnv w h₀.objs.size).scope.kind = ScopeKind.function from rfl] at q; cases q), h₀.objs.size, _, rfl, X6.D.ns, X6.T₀.low⟩⟩
      dsimp only
      refine wpAny_execs_cons ?_
      refine wpAny_If ?_
      refine isTrue_or ?_
      refine wpAny_isTrue_Compare1 ?_
      have T5 := X5.top
      refine methodCall_KW ?_
      refine name_local X5.D.ns mwh ?_
      obtain ⟨dx, dl, hsh, t', nn, c', vs, es, ep, W⟩ := X5.X
      refine meth_WH (f := 479) T5 W (by kernel_rfl) (by rfl) (by kernel_rfl) ?_
      refine call_fn (by rfl) ?_
      refine wpAny_items_cons ?_
      refine wpAny_Name (wpAny_loadName_cell rfl rfl (c := h₀.objs.size + 2) rfl X5.Ck ?_) (by decide)
      refine wpAny_items_nil ?_
      refine ⟨T5, ?_⟩
      refine wpAny_call ?_
      refine comb_getlist (hA.mono (by decide)) hh T5 W low (Fs0 _ X5) (fun a q => by rw [List.mem_singleton.mp (show a ∈ [h₀.objs.size] from q)]; exact Lb) g100 (by rw [List.length_map]; have := X5.nr; omega) (fun h6 tk6 a6 z6 il6 => ?_)
      replace z6 : FExt [h₀.objs.size] h5 h6 := z6
      have il6' : IL h5.objs.size h6 a6 (valsOf (plainOf rows) k) := by rw [← own_plain]; exact il6
      have X6 := X5.fext z6
      have l6 := l5.ext z6.ext hm5
      have T6 := X6.top
      clear W il6 T5
      dsimp only
      refine name_local X6.D.ns mow ?_
      refine ne_rd hA il6'.rd l6.rdl (shaped_ints _) ?_
      refine wpAny_truthy_bool ?_
      rw [if_neg Bool.false_ne_true]
      clear il6'
      refine isTrue_or ?_
      refine wpAny_isTrue_Compare1 ?_
      refine wpAny_Call_NameR ?_
      walk_at "nt"
      refine call_fn (by rfl) ?_
      refine wpAny_items_cons ?_
      refine name_local X6.D.ns mwh ?_
      refine wpAny_items_cons ?_
      refine wpAny_Name (wpAny_loadName_cell rfl rfl (c := h₀.objs.size + 2) rfl X6.Ck ?_) (by decide)
      refine wpAny_items_nil ?_
      refine ⟨T6, ?_⟩
      refine wpAny_call ?_
      obtain ⟨dx, dl, hsh, t', nn, c', vs, es, ep, W⟩ := X6.X
      refine first_spec (hA.mono (by decide)) hh T6 W low (Fs0 _ X6) g100 g3 (fun h7 tk7 a7 z7' il7 => ?_)
      replace z7' : FExt [h₀.objs.size] h6 h7 := z7'
      have z7 := z6.trans z7'
      rw [own_plain] at il7
      have X7 := X5.fext z7
      have l7 := l5.ext z7.ext hm5
      have T7 := X7.top
      clear W z7' z6 X6 l6 T6
      dsimp only at il7 ⊢
      refine wpAny_Subscript_list_slice ?_
      refine name_local X7.D.ns mow ?_
      refine wpAny_evalPart_none ?_
      refine wpAny_evalPart_some ?_
      refine wpAny_Constant_int ?_
      refine ⟨r5, us5, none, some 1, rfl, l7.ls, by rw [sizeLine_eq]; omega, .none, .int _ _, ?_⟩
      dsimp only
      have e8 : Ext [] h7 ((h7.push { cls := .type "slice", data := .fields #[.none, .int 1 tk7, .none] }).push { cls := .type "list", data := .seq (slicePick us5 none (some 1) none) }) := (Ext.push _ _).trans (Ext.push _ _) (by simp)
      have ls8 : ((h7.push { cls := .type "slice", data := .fields #[.none, .int 1 tk7, .none] }).push { cls := .type "list", data := .seq (slicePick us5 none (some 1) none) }).IsList (h7.objs.size + 1) (slicePick us5 none (some 1) none) := by
        refine ⟨{ cls := .type "list", data := .seq (slicePick us5 none (some 1) none) }, ?_, rfl, 0, rfl⟩
        have := Heap.get?_push_size (h7.push { cls := .type "slice", data := .fields #[.none, .int 1 tk7, .none] }) (o := { cls := .type "list", data := .seq (slicePick us5 none (some 1) none) }) rfl
        rwa [Heap.size_push] at this
      generalize (h7.push { cls := .type "slice", data := .fields #[.none, .int 1 tk7, .none] }).push { cls := .type "list", data := .seq (slicePick us5 none (some 1) none) } = h8 at e8 ls8 ⊢
      have z8 := z7.trans (.of e8)
      have X8 := X5.fext z8
      have l8 := l5.ext z8.ext hm5
      have rs8 : Rd 0 h8 (.ref (h7.objs.size + 1)) (.list (((valsOf (plainOf rows) k).take 1).map .int)) := by
        rw [show slicePick us5 none (some 1) none = (us5.toList.take 1).toArray from slicePick_upto' us5 1] at ls8
        refine .list (Nat.zero_le _) ls8 (by simp [us5l]) fun i' v' d' q1 q2 => ?_
        have hi1 : i' < 1 := by
          rcases Nat.lt_or_ge i' 1 with z | z
          · exact z
          · rw [List.getElem?_toArray, List.getElem?_take, if_neg (by omega)] at q1; cases q1
        rw [List.getElem?_toArray, List.getElem?_take, if_pos hi1, Array.getElem?_toList] at q1
        rw [List.map_take, List.getElem?_take, if_pos hi1] at q2
        exact (l8.rd i' v' d' q1 q2).mono (Nat.zero_le _)
      refine ne_rd hA (il7.rd.ext0 e8) rs8 (shaped_ints _) ?_
      refine wpAny_truthy_bool ?_
      rw [if_neg Bool.false_ne_true]
      clear rs8 ls8 e8 il7 T7 l7 X7 z7
      have T8 := X8.top
      refine isTrue_or ?_
      refine wpAny_isTrue_Compare1 ?_
      refine methodCall_KW ?_
      refine name_local X8.D.ns mwh ?_
      obtain ⟨dx, dl, hsh, t', nn, c', vs, es, ep, W⟩ := X8.X
      refine meth_WH (f := 471) T8 W (by kernel_rfl) (by rfl) (by kernel_rfl) ?_
      refine call_fn (by rfl) ?_
      refine wpAny_items_cons ?_
      refine wpAny_Name (wpAny_loadName_cell rfl rfl (c := h₀.objs.size + 2) rfl X8.Ck ?_) (by decide)
      refine wpAny_items_cons ?_
      refine wpAny_Constant_str ?_
      refine wpAny_items_nil ?_
      refine ⟨T8, ?_⟩
      refine wpAny_call ?_
      refine codeAny_mono (R := fun r s' => ∃ h9 tk9 v9, r = .ok (.ret v9) ∧ s' = ⟨h9, gn, d, tk9, os⟩ ∧ Ext [] h8 h9 ∧ ((∃ n' r' tn, valsOf (plainOf rows) k = n' :: r' ∧ v9 = .int n' tn) ∨ (valsOf (plainOf rows) k = [] ∧ ∃ tn, v9 = .str "none" tn))) ?_ (fun r s' q => ?_)
      · refine comb_get (hA.mono (by decide)) hh T8 W low g100 g3 (fun n' r' q h9 tk9 tn e9 => ?_) (fun q h9 tk9 e9 => ?_)
        · rw [own_plain] at q
          exact ⟨h9, tk9, _, rfl, rfl, e9, .inl ⟨n', r', tn, q, rfl⟩⟩
        · rw [own_plain] at q
          exact ⟨h9, tk9, _, rfl, rfl, e9, .inr ⟨q, _, rfl⟩⟩
      obtain ⟨h9, tk9, v9, rfl, rfl, e9, hv9⟩ := q
      have z9 := z8.trans (.of e9)
      have X9 := X5.fext z9
      have l9 := l5.ext z9.ext hm5
      clear W T8 X8 l8 z8 e9
      dsimp only
      refine Subscript_ ?_
      refine wpAny_BinOp ?_
      refine name_local X9.D.ns mow ?_
      refine wpAny_List ?_
      refine wpAny_items_cons ?_
      refine wpAny_Constant_str ?_
      refine wpAny_items_nil ?_
      refine ⟨by simp [sizeLine_eq], ?_⟩
      change wpAny _ _ (binaryOp .Add (.ref r5) (.ref h9.objs.size)) _ _ ⟨h9.push { cls := .type "list", data := .seq #[.str "none" tk9] }, _, _, _, _⟩
      have e10 : Ext [] h9 (h9.push { cls := .type "list", data := .seq #[.str "none" tk9] }) := Ext.push _ _
      have ls10 : (h9.push { cls := .type "list", data := .seq #[.str "none" tk9] }).IsList h9.objs.size #[.str "none" tk9] := ⟨_, Heap.get?_push_size _ rfl, rfl, 0, rfl⟩
      generalize h9.push { cls := .type "list", data := .seq #[.str "none" tk9] } = h10 at e10 ls10 ⊢
      have l10 := l9.ext e10 (by simp)
      refine add_ls l10.ls ls10 (by rw [us5l]; show _ + 1 ≤ 1000; omega) ?_
      have e11 : Ext [] h10 (h10.push { cls := .type "list", data := .seq (us5 ++ #[.str "none" tk9]) }) := Ext.push _ _
      have ls11 : (h10.push { cls := .type "list", data := .seq (us5 ++ #[.str "none" tk9]) }).IsList h10.objs.size (us5 ++ #[.str "none" tk9]) := ⟨_, Heap.get?_push_size _ rfl, rfl, 0, rfl⟩
      have l11 := l10.ext e11 (by simp)
      dsimp only
      generalize h10.push { cls := .type "list", data := .seq (us5 ++ #[.str "none" tk9]) } = h11 at e11 ls11 l11 ⊢
      have z11 := z9.trans (.of (e10.and e11))
      have X11 := X5.fext z11
      obtain ⟨y0, hy0, hcmp⟩ : ∃ y0, (us5 ++ #[.str "none" tk9])[0]? = some y0 ∧ ∀ (s' : Shared) (Q' E' : Value → Shared → Prop), Q' (.bool false) s' → wpAny (model P w) A (compareOp .NotEq v9 y0) Q' E' s' := by
        rcases hv9 with ⟨n', r', tn, q, rfl⟩ | ⟨q, tn, rfl⟩
        · have h0 : 0 < us5.size := by rw [us5l, q]; simp
          have r0 := l11.rd 0 us5[0] (.int n') (Array.getElem?_eq_getElem h0) (by rw [q]; rfl)
          obtain ⟨t0, e0⟩ := r0.intE
          refine ⟨.int n' t0, by rw [Array.getElem?_append_left h0, Array.getElem?_eq_getElem h0, e0], fun s' Q' E' hq => ?_⟩
          refine PyProof.Rows.ne_int ?_
          rw [show (n' != n') = false by simp]; exact hq
        · have h0 : us5.size = 0 := by rw [us5l, q]; rfl
          refine ⟨.str "none" tk9, by rw [Array.getElem?_append_right (by omega), h0]; rfl, fun s' Q' E' hq => ?_⟩
          refine PyProof.Rows.ne_str ?_
          rw [show (("none" : Str) != "none") = false by simp]; exact hq
      clear hv9 ls10 e10 e11 l9 l10 X9 z9
      refine wpAny_Constant_int ?_
      refine item_temp ls11 (by decide) (by decide) hy0 ?_
      refine hcmp _ _ _ ?_
      refine wpAny_truthy_bool ?_
      rw [if_neg Bool.false_ne_true]
      clear hcmp hy0 ls11
      refine isTrue_or ?_
      refine wpAny_isTrue_Compare1 ?_
      refine wpAny_Compare1 ?_
      refine wpAny_Name (wpAny_loadName_cell rfl rfl (c := h₀.objs.size + 2) rfl X11.Ck ?_) (by decide)
      refine name_local X11.D.ns mwh ?_
      refine in_WH (hA.mono (by decide)) hh X11 fun h12 tk12 e12 => ?_
      have z12 := z11.trans (.of e12)
      have X12 := X5.fext z12
      have l12 := l11.ext e12 (by simp)
      dsimp only
      refine wpAny_Compare1 ?_
      refine name_local X12.D.ns mow ?_
      refine wpAny_List ?_
      refine wpAny_items_nil ?_
      refine ⟨by simp, ?_⟩
      change wpAny _ _ (compareOp .NotEq (.ref r5) (.ref h12.objs.size)) _ _ ⟨h12.push { cls := .type "list", data := .seq #[] }, _, _, _, _⟩
      have e13 : Ext [] h12 (h12.push { cls := .type "list", data := .seq #[] }) := Ext.push _ _
      have ls13 : (h12.push { cls := .type "list", data := .seq #[] }).IsList h12.objs.size #[] := ⟨_, Heap.get?_push_size _ rfl, rfl, 0, rfl⟩
      generalize h12.push { cls := .type "list", data := .seq #[] } = h13 at e13 ls13 ⊢
      have z13 := z12.trans (.of e13)
      have X13 := X5.fext z13
      have l13 := l12.ext e13 (by simp)
      refine ne_nil hA l13.rdl (.list (b := 0) (Nat.zero_le _) ls13 rfl fun i v d q => by simp at q) (shaped_ints _) ?_
      refine PyProof.Rows.ne_bool ?_
      refine wpAny_truthy_bool ?_
      rw [if_neg (by rw [anyHas_plain]; cases valsOf (plainOf rows) k <;> simp)]
      refine isTrue_or_nil ?_
      rw [if_neg Bool.false_ne_true]
      refine wpAny_execs_nil ?_
      dsimp only
      refine wpAny_execs_nil ?_
      refine ⟨n, Nat.lt_succ_self n, i + 1, h13, _, mm, _, by omega, rfl, y5.trans z13.ext (fun a q => .inl (by rw [List.mem_singleton.mp q]; simp)), X13, mwh, mpl, ?_, z13.ext.isList ls5 (nin kL)⟩
      obtain ⟨o, e, hc, hd⟩ := hit5
      exact ⟨o, z13.ext.get e (by unfold hasCls; rw [hc]) (nin iL), hc, hd⟩
end
end Mine
end
section
open PySem PySem.W PySem.W.X PyProof.Rows PySem.Calls PySem.SeqAt PySem.Spec
set_option maxRecDepth 100000
set_option maxHeartbeats 1600000
namespace Mine
local macro_rules | `(tactic| walk_at "nb") => `(tactic| refine name_boot (by assumption) rfl rfl rfl (by boot_by_name) (by decide) ?_)
local macro_rules | `(tactic| walk_at "nt") => `(tactic| refine name_top (by assumption) rfl (by rfl) ?_)
abbrev rowD (ps : List (Str × Int)) : PyData := .list (ps.map pairD)
def GoodRow (ps : List (Str × Int)) : Prop := ps.length ≤ 6 ∧ ∀ p ∈ ps, p.1 ∈ abcd ∧ 0 ≤ p.2 ∧ p.2 < 9
structure LS (w : World) (h₀ : Heap) (h : Heap) (m : Str → Option Value) (kv : Option Value) (st nb : Nat) (at_ : Nat) : Prop where
  T₀ : TopH w h₀
  D : Me [] h₀ h h₀.objs.size m []
  Ck : h.IsCell (h₀.objs.size + 2) kv
  Cs : h.IsCell (h₀.objs.size + 1) (some (.ref st))
  hb : h₀.objs.size + 2 < st ∧ nb ≠ st ∧ h₀.objs.size + 2 < nb
  at_lt : at_ < 900000
  st : ∃ t1, h.IsList st #[.ref nb, .int at_ t1]
  nb : ∃ vs ns, h.IsList nb vs ∧ IntsAre vs.toList ns ∧ 0 < vs.size ∧ vs.size ≤ 100
section
variable {w : World} {A : Around} {E : Value → Shared → Prop} {h₀ h h' : Heap} {gn : Array GenState} {d : Drawn} {t : Nat} {os : OsState} {st nb : Nat} {m m' : Str → Option Value} {kv kv' : Option Value} {at_ : Nat}
theorem LS.top (X : LS w h₀ h m kv st nb at_) : TopH w h := X.D.top X.T₀ (by simp)
theorem LS.re {M : List Addr} (X : LS w h₀ h m kv st nb at_) (y : Ext M h h') (hM : ∀ a ∈ M, a = h₀.objs.size ∨ a = h₀.objs.size + 2 ∨ h.get? a = none) (n : h'.Ns h₀.objs.size m') (c : h'.IsCell (h₀.objs.size + 2) kv') : LS w h₀ h' m' kv' st nb at_ := by
  obtain ⟨b1, b4, b5⟩ := X.hb
  have out : ∀ (a : Nat) o, h.get? a = some o → a ≠ h₀.objs.size → a ≠ h₀.objs.size + 2 → a ∉ M := fun a o e n1 n2 q => by
    rcases hM a q with z | z | z
    · exact n1 z
    · exact n2 z
    · rw [z] at e; cases e
  obtain ⟨t1, est⟩ := X.st
  obtain ⟨vs, ns, enb, r⟩ := X.nb
  have D' : Me [] h₀ h' h₀.objs.size m' [] := ⟨X.D.ext.trans y fun a q => by
    rcases hM a q with rfl | rfl | z
    · exact .inr (get_size _)
    · exact .inr (get_fresh (Nat.le_add_right _ _))
    · exact .inr (X.D.ext.fresh z), n, fun _ q => (nomatch q), List.nodup_nil, fun _ q => (nomatch q), fun _ q => (nomatch q), X.D.offL⟩
  have oc : h₀.objs.size + 1 ∉ M := by
    obtain ⟨o, e, _⟩ := X.Cs
    exact out _ o e (Nat.ne_of_gt (Nat.lt_succ_self _)) (Nat.ne_of_lt (Nat.lt_succ_self _))
  have ost : st ∉ M := by obtain ⟨o, e, _⟩ := est; exact out _ o e (by omega) (by omega)
  have onb : nb ∉ M := by obtain ⟨o, e, _⟩ := enb; exact out _ o e (by omega) (by omega)
  exact ⟨X.T₀, D', c, y.cell X.Cs oc, X.hb, X.at_lt, ⟨t1, y.isList est ost⟩, ⟨vs, ns, y.isList enb onb, r⟩⟩
theorem LS.next (X : LS w h₀ h m kv st nb at_) {t3 : Tok} {k : Nat} (y : Ext [st] h h') (l : h'.IsList st #[.ref nb, .int (k : Nat) t3]) (hk : k < 900000) : LS w h₀ h' m kv st nb k := by
  obtain ⟨b1, b4, b5⟩ := X.hb
  obtain ⟨vs, ns, enb, r⟩ := X.nb
  have off : h₀.get? st = none := get_fresh (by omega)
  have D' : Me [] h₀ h' h₀.objs.size m [] := ⟨X.D.ext.trans y fun a q => by rw [List.mem_singleton.mp q]; exact .inr off, Ns_ext y X.D.ns (nin (by omega)), fun _ q => (nomatch q), List.nodup_nil, fun _ q => (nomatch q), fun _ q => (nomatch q), X.D.offL⟩
  exact ⟨X.T₀, D', y.cell X.Ck (nin (by omega)), y.cell X.Cs (nin (by omega)), X.hb, hk, ⟨t3, l⟩, ⟨vs, ns, y.isList enb (nin (by omega)), r⟩⟩
theorem LS.ext (X : LS w h₀ h m kv st nb at_) (y : Ext [] h h') : LS w h₀ h' m kv st nb at_ :=
  X.re y (fun _ q => nomatch q) (Ns_ext y X.D.ns (by simp)) (y.cell X.Ck (by simp))
theorem law_1 {Q : Flow → Shared → Prop} (hA : Rm 380 A) (hh : A.handled = none) (X : LS w h₀ h m kv st nb at_) (hat : at_ < 1000)
    (hQ : ∀ h' tk rl rus (pss : List (List (Str × Int))) at2, LS w h₀ h' (fun y => if y = "rows" then some (.ref rl) else m y) kv st nb at2 → LsAt (h₀.objs.size + 3) h' rl rus (pss.map rowD) → pss.length ≤ 4 → (∀ ps ∈ pss, GoodRow ps) → at2 < 2000 → Q .next ⟨h', gn, d, tk, os⟩) :
    wpAny (model P w) A (exec (lawSt w 1) (lawEnv w h₀.objs.size)) Q E ⟨h, gn, d, t, os⟩ := by
  have T := X.top
  obtain ⟨b1, b4, b5⟩ := X.hb
  obtain ⟨t1, est⟩ := X.st
  obtain ⟨nvs, ns, enb, hi, hl, hl2⟩ := X.nb
  have Lst : st ≠ h₀.objs.size := by omega
  have Cst : h₀.objs.size + 1 ≠ st := by omega
  have stlow : 604 ≤ st := Nat.le_trans X.T₀.low (by omega)
  have sth : st < h.objs.size := by obtain ⟨o, e, _⟩ := est; exact Heap.lt_size e
  have Lh : h₀.objs.size < h.objs.size := X.D.ns.lt
  refine list_compA (cl := [(Str.ofString "state", h₀.objs.size + 1)]) (by rfl) (by rfl) rfl (by decide) (by decide) ?_
  refine wpAny_Call_NameR ?_
  walk_at "nb"
  refine call_bi ?_
  refine wpAny_items_cons ?_
  refine wpAny_Call_NameR ?_
  walk_at "nt"
  refine call_fn (by rfl) ?_
  refine wpAny_items_cons ?_
  refine wpAny_Name (wpAny_loadName_cell rfl rfl (c := h₀.objs.size + 1) rfl X.Cs ?_) (by decide)
  refine wpAny_items_cons ?_
  refine wpAny_Constant_int ?_
  refine wpAny_items_nil ?_
  refine ⟨T, ?_⟩
  refine wpAny_call ?_
  refine next_spec (hA.mono (by decide)) hh T est enb hi hl hl2 (by omega) (by decide) (by decide) b4 stlow (fun h2 tk2 cnt tcn t3 y2 hst2 hc0 hc5 => ?_)
  dsimp only
  refine wpAny_items_nil ?_
  refine call_range_1 ?_
  try dsimp only
  refine wpAny_pyIter_range (IsRange.new ..) (small_one (by decide) (by decide) (by omega) (by omega)) ?_
  rw [rangeSize_one]
  have hcn : (if (0 : Int) < cnt then cnt - 0 else 0) = cnt := by split <;> omega
  rw [hcn]
  try dsimp only
  have X2 := X.next y2 hst2 (by omega)
  have e3 : Ext [] h2 (h2.push { cls := .type "range", data := .fields #[.int 0 tk2, .int cnt tcn, .int 1 (tk2 + 1)] }) := Ext.push _ _
  have X3 := X2.ext e3
  have y3 : Ext [st] h (h2.push { cls := .type "range", data := .fields #[.int 0 tk2, .int cnt tcn, .int 1 (tk2 + 1)] }) := y2.and e3
  replace hst2 := e3.isList hst2 (by simp)
  generalize h2.push { cls := .type "range", data := .fields #[.int 0 tk2, .int cnt tcn, .int 1 (tk2 + 1)] } = h3 at X3 y3 hst2 ⊢
  clear X2 e3 y2 h2
  have nit : h.get? h3.objs.size = none := y3.fresh (get_size _)
  have e4 : Ext [] h3 (h3.push { cls := .type "range_iterator", data := .fields #[rawInt 0, rawInt cnt, rawInt 1] }) := Ext.push _ _
  have hit : IsRangeIter (h3.push { cls := .type "range_iterator", data := .fields #[rawInt 0, rawInt cnt, rawInt 1] }) h3.objs.size 0 cnt 1 := Heap.get?_push_size _ rfl
  have X4 := X3.ext e4
  have y4 := y3.and e4
  replace hst2 := e4.isList hst2 (by simp)
  have Lit : h₀.objs.size < h3.objs.size := X3.D.ns.lt
  have Cit : h₀.objs.size + 2 < h3.objs.size := by obtain ⟨o, e, _⟩ := X3.Ck; exact Heap.lt_size e
  have stit : st < h3.objs.size := by obtain ⟨_, o, e, _⟩ := X3.st; exact Heap.lt_size e
  generalize h3.objs.size = it at nit hit Lit Cit stit ⊢
  generalize h3.push { cls := .type "range_iterator", data := .fields #[rawInt 0, rawInt cnt, rawInt 1] } = h4 at X4 y4 hst2 hit ⊢
  clear e4 X3 y3 h3
  refine ⟨fun E' Q' h' k tk q => wpAny_pyIter_rangeiter (s := ⟨h', _, _, _, _⟩) (k _ _ hit) q, ?_⟩
  intro h5 Cc tk k5 eacc hC nC
  try dsimp only at k5 eacc hC ⊢
  have nacc : h.get? h4.objs.size = none := y4.fresh (get_size _)
  have ia : it < h4.objs.size := Heap.lt_size hit
  have aC : h4.objs.size < Cc := by rw [hC]; exact Nat.lt_succ_self _
  have nCc : h.get? Cc = none := y4.fresh (get_fresh (Nat.le_of_lt aC))
  replace hit : IsRangeIter h5 it 0 cnt 1 := k5 _ _ hit
  replace hst2 := (Ext.of_keeps k5).isList hst2 (by simp)
  have X5 := X4.ext (.of_keeps k5)
  have y5 := y4.and (.of_keeps k5)
  generalize h4.objs.size = acc at *
  clear k5 hC y4 X4 h4
  refine codeAny_compLoop_list (fun n s' => ∃ (i : Nat), ∃ h' tk' mC ys ny, ∃ (at2 : Nat), ∃ pss : List (List (Str × Int)), (n : Int) + (i : Int) = cnt ∧ s' = ⟨h', gn, d, tk', os⟩ ∧ Ext [st] h h' ∧ LS w h₀ h' m kv st nb at2 ∧ h'.Ns Cc mC ∧ IsRangeIter h' it (i : Int) (cnt - (i : Int)) 1 ∧ h'.get? acc = some (lsObj ys ny) ∧ RdAll (Cc + 1) h' ys (pss.map rowD) ∧ pss.length = i ∧ at2 ≤ at_ + 1 + 13 * i ∧ ∀ ps ∈ pss, GoodRow ps) ?_ cnt.toNat
    ⟨0, h5, _, _, #[], 0, at_ + 1, [], by omega, rfl, y5, X5, nC, by simpa using hit, eacc, .nil, rfl, by omega, fun p q => nomatch q⟩
  clear X5 y5 nC hst2 hit eacc h5
  rintro n s' ⟨i, h', tk', mC, ys, ny, at2, pss, hn, rfl, y, X', nC, hit, ey, rd, lp, lat, good⟩
  have LC : Cc ≠ h₀.objs.size := Nat.ne_of_gt (Nat.lt_trans Lit (Nat.lt_trans ia aC))
  have La : acc ≠ h₀.objs.size := Nat.ne_of_gt (Nat.lt_trans Lit ia)
  have Cia : it ≠ Cc := Nat.ne_of_lt (Nat.lt_trans ia aC)
  have cC : Cc ≠ h₀.objs.size + 2 := Nat.ne_of_gt (Nat.lt_trans Cit (Nat.lt_trans ia aC))
  have iC : it ≠ h₀.objs.size + 2 := Nat.ne_of_gt Cit
  have iL : it ≠ h₀.objs.size := Nat.ne_of_gt Lit
  have exL : ∃ o, h.get? h₀.objs.size = some o := by obtain ⟨o, _, _, e, _⟩ := X.D.ns; exact ⟨o, e⟩
  have exk : ∃ o, h.get? (h₀.objs.size + 2) = some o := by obtain ⟨o, e, _⟩ := X.Ck; exact ⟨o, e⟩
  have exs : ∃ o, h.get? (h₀.objs.size + 1) = some o := by obtain ⟨o, e, _⟩ := X.Cs; exact ⟨o, e⟩
  have est' : ∃ o, h.get? st = some o := by obtain ⟨o, e, _⟩ := est; exact ⟨o, e⟩
  have enb' : ∃ o, h.get? nb = some o := by obtain ⟨o, e, _⟩ := enb; exact ⟨o, e⟩
  have nx : ∀ {a c : Nat}, h.get? a = none → (∃ o, h.get? c = some o) → c ≠ a := fun {a c} na ⟨o, e⟩ z => by rw [z, na] at e; cases e
  have ownL : ∀ (h1 h2 : Heap) (m1 : Str → Option Value) (a : Nat) (atn : Nat), h.get? a = none → LS w h₀ h1 m1 kv st nb atn → Heap.ExtBut a h1 h2 → LS w h₀ h2 m1 kv st nb atn := by
    intro h1 h2 m1 a atn na Z he
    refine ⟨Z.T₀, ?_, cell_keeps Z.Ck he (nx na exk), cell_keeps Z.Cs he (nx na exs), Z.hb, Z.at_lt, ?_, ?_⟩
    · exact Z.D.ownE he (X.D.ext.fresh na) (nx na exL)
    · obtain ⟨t1, o, e, r⟩ := Z.st; exact ⟨t1, o, he _ _ (nx na est') e, r⟩
    · obtain ⟨vs, ns, ⟨o, e, r⟩, r2⟩ := Z.nb; exact ⟨vs, ns, ⟨o, he _ _ (nx na enb') e, r⟩, r2⟩
  have ownY : ∀ (h1 h2 : Heap) (a : Nat), h.get? a = none → Ext [st] h h1 → Heap.ExtBut a h1 h2 → Ext [st] h h2 := by
    intro h1 h2 a na y1 he
    refine ⟨fun c o e q => ?_, fun c o e => ?_⟩
    · rcases y1.keep c o e q with z | ⟨ht, ps, more, rfl, z, kz⟩
      · exact .inl (he c o (nx na ⟨_, e⟩) z)
      · exact .inr ⟨ht, ps, more, rfl, he c _ (nx na ⟨_, e⟩) z, kz⟩
    · obtain ⟨o', z⟩ := y1.there c o e
      exact ⟨o', he c o' (nx na ⟨_, e⟩) z⟩
  cases n with
  | zero =>
    refine wpAny_pyNext_range_end hh hit (by omega) (fun h6 he => ?_)
    have X6 := ownL _ h6 _ _ _ nit X' he
    have nC6 : h6.Ns Cc mC := let ⟨o, es, ep, q, r⟩ := nC; ⟨o, es, ep, he _ _ (Ne.symm Cia) q, r⟩
    replace ey := he _ _ (Nat.ne_of_gt ia) ey
    replace rd := rd.same he (Nat.lt_succ_of_lt (Nat.lt_trans ia aC))
    dsimp only
    refine wpAny_assign_Name ?_
    refine wpAny_storeName_local rfl X6.D.ns (fun h7 hn7 hs7 => ?_) rfl
    replace hs7 : Heap.SameBut h₀.objs.size h6 h7 := hs7
    have X7 : LS w h₀ h7 (fun y => if y = "rows" then some (.ref acc) else m y) kv st nb at2 := X6.re (M := [h₀.objs.size]) (.sameBut hs7 (let ⟨o, _, _, e, _⟩ := hn7; ⟨o, e⟩)) (fun a q => .inl (List.mem_singleton.mp q)) hn7 (cell_keeps X6.Ck hs7.extBut (Nat.ne_of_gt (Nat.lt_add_of_pos_right (by decide))))
    refine ⟨mC, nC6.sameBut hs7 LC, fun h8 sb8 => ?_⟩
    dsimp only
    have X8 := ownL _ h8 _ _ _ nCc X7 sb8.extBut
    replace ey := (sb8.2 _ (Nat.ne_of_lt aC)).trans ((hs7.2 _ La).trans ey)
    replace rd := (rd.same hs7.extBut (Nat.lt_succ_of_lt (Nat.lt_trans Lit (Nat.lt_trans ia aC)))).same sb8.extBut (Nat.lt_succ_self _)
    have b3 : h₀.objs.size + 3 ≤ acc := Nat.le_trans (Nat.succ_le_of_lt Cit) (Nat.le_of_lt ia)
    refine hQ h8 _ acc ys pss at2 X8 ((rd.mono (Nat.le_trans b3 (Nat.le_succ_of_le (Nat.le_of_lt aC)))).at ey b3) (by omega) good (by omega)
  | succ n =>
    refine wpAny_pyNext_range_item hit (by omega) (fun h5 hit5 sb5 => ?_)
    replace sb5 : Heap.SameBut it h' h5 := sb5
    have X5 := ownL _ h5 _ _ _ nit X' sb5.extBut
    have y5 := ownY _ h5 _ nit y sb5.extBut
    replace nC := nC.sameBut sb5 (Ne.symm Cia)
    replace ey := (sb5.2 _ (Nat.ne_of_gt ia)).trans ey
    replace rd := rd.same sb5.extBut (Nat.lt_succ_of_lt (Nat.lt_trans ia aC))
    dsimp only
    clear sb5 hit X' y
    refine wpAny_assign_Name ?_
    refine wpAny_storeName_local rfl nC (fun h6 hn6 hs6 => ?_) rfl
    replace hs6 : Heap.SameBut Cc h5 h6 := hs6
    have X6 := ownL _ h6 _ _ _ nCc X5 hs6.extBut
    have y6 := ownY _ h6 _ nCc y5 hs6.extBut
    replace ey := (hs6.2 _ (Nat.ne_of_lt aC)).trans ey
    replace rd := rd.same hs6.extBut (Nat.lt_succ_self _)
    replace hit5 : IsRangeIter h6 it _ _ _ := (hs6.2 _ Cia).trans hit5
    dsimp only
    clear hs6 nC X5 y5
    have T6 := X6.top
    obtain ⟨t2, est6⟩ := X6.st
    obtain ⟨nvs6, ns6, enb6, hi6, hl6, hl26⟩ := X6.nb
    refine wpAny_Call_NameR ?_
    walk_at "nt"
    refine call_fn (by rfl) ?_
    refine wpAny_items_cons ?_
    refine wpAny_Name (wpAny_loadName_cell rfl rfl (c := h₀.objs.size + 1) rfl X6.Cs ?_) (by decide)
    refine wpAny_items_nil ?_
    refine ⟨T6, ?_⟩
    refine wpAny_call ?_
    refine pairs_spec (hA.mono (by decide)) hh T6 est6 enb6 hi6 hl6 hl26 (by omega) b4 stlow (fun h7 tk7 r us ps at3 t4 e7 l7 la3 ls7 lps gps => ?_)
    dsimp only at ls7 ⊢
    have C6 : Cc < h6.objs.size := hn6.lt
    have X7 := X6.next e7 l7 (by omega)
    have y7 := y6.trans e7 (fun a q => .inl q)
    have stC : st ≠ Cc := nx nCc est'
    have sta : st ≠ acc := nx nacc est'
    have sti : st ≠ it := nx nit est'
    replace hn6 := Ns_ext e7 hn6 (nin (Ne.symm stC))
    replace ey := e7.get ey rfl (nin (Ne.symm sta))
    replace rd := (rd.ext e7 (fun a q => .inl (by rw [List.mem_singleton.mp q]; exact Nat.lt_succ_of_lt (Nat.lt_trans stit (Nat.lt_trans ia aC))))).snoc (ls7.rdl.mono (b' := Cc + 1) C6)
    replace hit5 : IsRangeIter h7 it _ _ _ := e7.get hit5 rfl (nin (Ne.symm sti))
    have sy : ys.size = i := by have := rd.1; rw [Array.size_push, List.length_append, List.length_map, List.length_singleton] at this; omega
    refine append_raw ey (by omega) (fun h10 n10 e10 sb10 => ?_)
    replace sb10 : Heap.SameBut acc h7 h10 := sb10
    dsimp only
    refine ⟨n, Nat.lt_succ_self n, i + 1, h10, _, _, _, n10, at3, pss ++ [ps], by omega, rfl, ownY _ h10 _ nacc y7 sb10.extBut, ownL _ h10 _ _ _ nacc X7 sb10.extBut, hn6.sameBut sb10 (Nat.ne_of_gt aC), ?_, e10, ?_, by rw [List.length_append, lp]; rfl, by omega, ?_⟩
    · have := (sb10.2 _ (Nat.ne_of_lt ia)).trans hit5
      have z : cnt - ((i + 1 : Nat) : Int) = cnt - (i : Int) - 1 := by omega
      rw [z]
      exact this
    · rw [List.map_append]
      exact rd.same sb10.extBut (Nat.lt_succ_of_lt aC)
    · intro p hp
      rcases List.mem_append.mp hp with hp | hp
      · exact good p hp
      · rw [List.mem_singleton.mp hp]; exact ⟨lps, gps⟩
end
end Mine
end
section
open PySem PySem.W PySem.W.X PyProof.Rows PySem.Calls PySem.SeqAt PySem.Spec
set_option maxRecDepth 100000
set_option maxHeartbeats 1600000
namespace Mine
local macro_rules | `(tactic| walk_at "nb") => `(tactic| refine name_boot (by assumption) rfl rfl rfl (by boot_by_name) (by decide) ?_)
local macro_rules | `(tactic| walk_at "nt") => `(tactic| refine name_top (by assumption) rfl (by rfl) ?_)
section
variable {w : World} {A : Around} {E : Value → Shared → Prop} {h₀ h h' : Heap} {gn : Array GenState} {d : Drawn} {t : Nat} {os : OsState} {st nb : Nat} {m m' : Str → Option Value} {kv kv' : Option Value} {at_ : Nat} {rl : Addr} {rus : Array Value} {pss : List (List (Str × Int))}
theorem Ext.own {a : Addr} {h1 h2 : Heap} (y : Ext [] h h1) (na : h.get? a = none) (he : Heap.ExtBut a h1 h2) : Ext [] h h2 := by
  have nx : ∀ {c o}, h.get? c = some o → c ≠ a := fun e z => by rw [z, na] at e; cases e
  refine ⟨fun c o e q => ?_, fun c o e => ?_⟩
  · rcases y.keep c o e q with z | ⟨ht, ps, more, rfl, z, kz⟩
    · exact .inl (he c o (nx e) z)
    · exact .inr ⟨ht, ps, more, rfl, he c _ (nx e) z, kz⟩
  · obtain ⟨o', z⟩ := y.there c o e
    exact ⟨o', he c o' (nx e) z⟩
theorem MDI.ownE {b a x dx ep : Addr} {h1 h2 : Heap} {g : Grp} {kvs : List (Str × Value)} {es : Array DictEntry} (X : MDI w b h1 x g dx kvs es ep) (he : Heap.ExtBut a h1 h2) (ha : a < b) : MDI w b h2 x g dx kvs es ep := by
  have ne : ∀ {c : Addr}, b ≤ c → c ≠ a := fun {c} hc q => absurd (q ▸ hc) (Nat.not_le.mpr ha)
  refine ⟨X.lx, X.ld, X.dd.get ((he _ _ (ne X.lx) X.dd.at_).trans X.dd.at_.symm), he _ _ (ne X.ld) X.own, X.gl.len, fun i k v q => ?_, X.gl.inj⟩
  obtain ⟨ns, c, e1, e2, hb, va, na, ea, ia⟩ := X.gl.at_ i k v q
  exact ⟨ns, c, e1, e2, hb, va, na, he _ _ (ne hb) ea, ia⟩
theorem LM.ownE {b a : Addr} {h1 h2 : Heap} {ys : Array Value} {gs : List Grp} (X : LM w b h1 ys gs) (he : Heap.ExtBut a h1 h2) (ha : a < b) : LM w b h2 ys gs :=
  ⟨X.1, fun i g q => let ⟨m, dx, kvs, es, ep, e1, e2⟩ := X.2 i g q; ⟨m, dx, kvs, es, ep, e1, e2.ownE he ha⟩⟩
theorem LM.snoc {b x dx ep : Addr} {ys : Array Value} {gs : List Grp} {g : Grp} {kvs : List (Str × Value)} {es : Array DictEntry} (X : LM w b h ys gs) (M : MDI w b h x g dx kvs es ep) : LM w b h (ys.push (.ref x)) (gs ++ [g]) := by
  refine ⟨by rw [Array.size_push, List.length_append, X.1]; rfl, fun i g' q => ?_⟩
  by_cases hi : i < gs.length
  · rw [List.getElem?_append_left hi] at q
    obtain ⟨m, dx', kvs', es', ep', e1, e2⟩ := X.2 i g' q
    have hi' : i < ys.size := by rw [X.1]; exact hi
    exact ⟨m, dx', kvs', es', ep', by rw [Array.getElem?_push, if_neg (by omega)]; exact e1, e2⟩
  · have hl := (List.getElem?_eq_some_iff.mp q).1
    rw [List.length_append, List.length_singleton] at hl
    have : i = gs.length := by omega
    subst this
    rw [List.getElem?_append_right (Nat.le_refl _), Nat.sub_self] at q
    cases q
    exact ⟨x, dx, kvs, es, ep, by rw [Array.getElem?_push, if_pos X.1.symm], M⟩
theorem law_2 {Q : Flow → Shared → Prop} (hA : Rm 380 A) (hh : A.handled = none) (X : LS w h₀ h m kv st nb at_) (mr : m "rows" = some (.ref rl)) (lr : LsAt (h₀.objs.size + 3) h rl rus (pss.map rowD)) (hn : pss.length ≤ 4) (hg : ∀ ps ∈ pss, GoodRow ps)
    (hQ : ∀ h' tk x (b : Nat), LS w h₀ h' (fun y => if y = "whole" then some (.ref x) else m y) kv st nb at_ → (∃ dx dl hsh t n c vs es ep, WH w b h' x (pss.map grp) dx dl hsh t n c vs es ep) → LsAt (h₀.objs.size + 3) h' rl rus (pss.map rowD) → st < b → nb < b → Q .next ⟨h', gn, d, tk, os⟩) :
    wpAny (model P w) A (exec (lawSt w 2) (lawEnv w h₀.objs.size)) Q E ⟨h, gn, d, t, os⟩ := by
  have T := X.top
  have Lh : h₀.objs.size < h.objs.size := X.D.ns.lt
  have sth : st < h.objs.size := by obtain ⟨_, o, e, _⟩ := X.st; exact Heap.lt_size e
  have nbh : nb < h.objs.size := by obtain ⟨_, _, ⟨o, e, _⟩, _⟩ := X.nb; exact Heap.lt_size e
  refine wpAny_Assign_Name ?_
  refine wpAny_Call_NameR ?_
  walk_at "nt"
  refine call_fn (by rfl) ?_
  refine wpAny_items_cons ?_
  refine list_comp (cl := []) (by rfl) rfl (by decide) (by decide) ?_
  refine name_local X.D.ns mr ?_
  refine wpAny_pyIter_list lr.ls ?_
  have nit : h.get? h.objs.size = none := get_size _
  have lit0 : h.objs.size ≤ h.objs.size := Nat.le_refl _
  have y2 : Ext [] h (h.push { cls := .type "list_iterator", data := .fields #[.ref rl, .int 0 0] }) := Ext.push _ _
  have hit : (h.push { cls := .type "list_iterator", data := .fields #[.ref rl, .int 0 0] }).IsListIter h.objs.size rl 0 := ⟨_, Heap.get?_push_size _ rfl, rfl, rfl⟩
  have sz2 : h.objs.size < (h.push { cls := .type "list_iterator", data := .fields #[.ref rl, .int 0 0] }).objs.size := by rw [Heap.size_push]; exact Nat.lt_succ_self _
  dsimp only
  generalize hit0 : h.objs.size = it at nit hit sz2 lit0 ⊢
  generalize h.push { cls := .type "list_iterator", data := .fields #[.ref rl, .int 0 0] } = h2 at y2 hit sz2 ⊢
  refine ⟨fun E' Q' h' k tk q => wpAny_pyIter_listiter (s := ⟨h', _, _, _, _⟩) (hit.at fun o e => k _ _ e) q, ?_⟩
  intro h5 Cc tk k5 eacc hC nC
  have nacc : h.get? h2.objs.size = none := y2.fresh (get_size _)
  have ia : it < h2.objs.size := sz2
  have aC : h2.objs.size < Cc := by rw [hC]; exact Nat.lt_succ_self _
  have nCc : h.get? Cc = none := y2.fresh (get_fresh (Nat.le_of_lt aC))
  replace hit := hit.at fun o e => k5 _ _ e
  have y5 := y2.and (.of_keeps k5)
  generalize h2.objs.size = acc at *
  clear k5 hC y2 sz2 h2
  have Cia : it ≠ Cc := Nat.ne_of_lt (Nat.lt_trans ia aC)
  have stC : st < Cc + 1 := by rw [hit0] at sth; exact Nat.lt_succ_of_lt (Nat.lt_trans sth (Nat.lt_trans ia aC))
  have nbC : nb < Cc + 1 := by rw [hit0] at nbh; exact Nat.lt_succ_of_lt (Nat.lt_trans nbh (Nat.lt_trans ia aC))
  refine codeAny_compLoop_list (fun n s' => ∃ (i : Nat), ∃ h' tk' mC ys ny, n + i = pss.length ∧ s' = ⟨h', gn, d, tk', os⟩ ∧ Ext [] h h' ∧ h'.Ns Cc mC ∧ h'.IsListIter it rl i ∧ h'.get? acc = some (lsObj ys ny) ∧ LM w (Cc + 1) h' ys ((pss.take i).map grp)) ?_ pss.length
    ⟨0, h5, _, _, #[], 0, rfl, rfl, y5, nC, hit, eacc, ⟨rfl, fun i g q => by simp at q⟩⟩
  clear y5 nC hit eacc h5
  rintro n s' ⟨i, h', tk', mC, ys, ny, hn', rfl, y, nC, hit, ey, lm⟩
  have lr' := lr.ext y (by simp)
  cases n with
  | zero =>
    have hi : i = pss.length := by omega
    refine wpAny_pyNext_list_end hh hit lr'.ls (by rw [Array.getElem?_eq_none_iff, lr'.sz, List.length_map]; omega) (fun h6 he => ?_)
    have y6 := y.own nit he
    have nC6 : h6.Ns Cc mC := let ⟨o, es, ep, q, r⟩ := nC; ⟨o, es, ep, he _ _ (Ne.symm Cia) q, r⟩
    replace ey := he _ _ (Nat.ne_of_gt ia) ey
    have lm6 : LM w (Cc + 1) h6 ys (pss.map grp) := by
      rw [hi, List.take_length] at lm
      exact lm.ownE he (Nat.lt_succ_of_lt (Nat.lt_trans ia aC))
    dsimp only
    refine ⟨mC, nC6, fun h7 sb7 => ?_⟩
    have y7 := y6.own nCc sb7.extBut
    replace ey := (sb7.2 _ (Nat.ne_of_lt aC)).trans ey
    replace sb7 : Heap.SameBut Cc h6 h7 := sb7
    have lm7 := lm6.ownE sb7.extBut (Nat.lt_succ_self _)
    refine wpAny_items_nil ?_
    have T7 := T.ext y7 (by simp)
    refine ⟨T7, ?_⟩
    refine wpAny_call ?_
    have sz7 : Cc + 1 ≤ h7.objs.size := by rw [sb7.1]; exact Nat.succ_le_of_lt nC6.lt
    refine make_comb (hA.mono (by decide)) T7 ey lm7 sz7 (by rw [lm7.1, List.length_map]; omega) (fun h8 tk8 x dx l hsh tt n c es ep e8 W => ?_)
    dsimp only
    have X8 := X.ext (y7.and e8)
    refine wpAny_storeName_local rfl X8.D.ns (fun h9 hn9 hs9 => ?_) rfl
    replace hs9 : Heap.SameBut h₀.objs.size h8 h9 := hs9
    have y9 : Ext [h₀.objs.size] h8 h9 := .sameBut hs9 (let ⟨o, _, _, e, _⟩ := hn9; ⟨o, e⟩)
    have X9 := X8.re y9 (fun a q => .inl (List.mem_singleton.mp q)) hn9 (cell_keeps X8.Ck hs9.extBut (Nat.ne_of_gt (Nat.lt_add_of_pos_right (by decide))))
    have LC : h₀.objs.size < Cc + 1 := by rw [hit0] at Lh; exact Nat.lt_succ_of_lt (Nat.lt_trans Lh (Nat.lt_trans ia aC))
    exact hQ h9 _ x (Cc + 1) X9 ⟨_, _, _, _, _, _, _, _, _, W.ext y9 fun a q => .inl (by rw [List.mem_singleton.mp q]; exact LC)⟩ ((lr.ext (y7.and e8) (by simp)).ext y9 fun a q => .inl (by rw [List.mem_singleton.mp q]; exact Nat.lt_add_of_pos_right (by decide))) stC nbC
  | succ n =>
    have hi : i < pss.length := by omega
    obtain ⟨v, hv, rv⟩ := lr.item (i := i) (d := rowD pss[i]) (by rw [List.getElem?_map, List.getElem?_eq_getElem hi]; rfl)
    obtain ⟨ra, rvs, rfl, lra⟩ := LsAt.of rv
    refine wpAny_pyNext_list_item hit lr'.ls hv (fun h5 hit5 sb5 => ?_)
    replace sb5 : Heap.SameBut it h' h5 := sb5
    have y5 := y.own nit sb5.extBut
    replace nC := nC.sameBut sb5 (Ne.symm Cia)
    replace ey := (sb5.2 _ (Nat.ne_of_gt ia)).trans ey
    replace lm := lm.ownE sb5.extBut (Nat.lt_succ_of_lt (Nat.lt_trans ia aC))
    dsimp only
    refine wpAny_assign_Name ?_
    refine wpAny_storeName_local rfl nC (fun h6 hn6 hs6 => ?_) rfl
    replace hs6 : Heap.SameBut Cc h5 h6 := hs6
    have y6 := y5.own nCc hs6.extBut
    replace ey := (hs6.2 _ (Nat.ne_of_lt aC)).trans ey
    replace hit5 := hit5.at fun o e => (hs6.2 it Cia).trans e
    replace lm := lm.ownE hs6.extBut (Nat.lt_succ_self _)
    have lra6 : LsAt (h₀.objs.size + 3) h6 ra rvs (pss[i].map pairD) := lra.ext y6 (by simp)
    dsimp only
    clear sb5 hs6 nC y5 y
    have T6 := T.ext y6 (by simp)
    refine wpAny_Call_NameR ?_
    walk_at "nt"
    refine call_fn (by rfl) ?_
    refine wpAny_items_cons ?_
    refine name_local hn6 (by rw [if_pos (by decide)]) ?_
    refine wpAny_items_nil ?_
    refine ⟨T6, ?_⟩
    refine wpAny_call ?_
    refine make_md (hA.mono (by decide)) hh T6 lra6 (by have := (hg _ (List.getElem_mem hi)).1; omega) (fun h7 tk7 x dx kvs es ep e7 M => ?_)
    dsimp only at M ⊢
    have C6 : Cc + 1 ≤ h6.objs.size := Nat.succ_le_of_lt hn6.lt
    replace ey := e7.get ey rfl (by simp)
    have lm7 := lm.ext e7 (by simp)
    have sy : ys.size ≤ 4 := by rw [lm.1, List.length_map, List.length_take]; omega
    refine append_raw ey (by omega) (fun h10 n10 e10 sb10 => ?_)
    replace sb10 : Heap.SameBut acc h7 h10 := sb10
    dsimp only
    refine ⟨n, Nat.lt_succ_self n, i + 1, h10, _, _, _, n10, by omega, rfl, (y6.and e7).own nacc sb10.extBut, (Ns_ext e7 hn6 (by simp)).sameBut sb10 (Nat.ne_of_gt aC), ?_, e10, ?_⟩
    · obtain ⟨o, e, hc, hd⟩ := hit5
      exact ⟨o, (sb10.2 _ (Nat.ne_of_lt ia)).trans (e7.get e (by unfold hasCls; rw [hc]) (by simp)), hc, hd⟩
    · have tk1 : pss.take (i + 1) = pss.take i ++ [pss[i]] := by rw [List.take_succ_eq_append_getElem hi]
      rw [tk1, List.map_append]
      exact (lm7.snoc (M.mono C6)).ownE sb10.extBut (Nat.lt_succ_of_lt aC)
end
end Mine
end
section
open PySem PySem.W PySem.W.X PyProof.Rows PySem.Calls PySem.SeqAt PySem.Spec
set_option maxRecDepth 100000
set_option maxHeartbeats 1600000
namespace Mine
theorem IsList.butIt {a it l : Addr} {i : Nat} {vs : Array Value} {h h' : Heap} (hit : h.IsListIter it l i) (he : Heap.ExtBut it h h') (x : h.IsList a vs) : h'.IsList a vs := by
  obtain ⟨o, e, hc, hd⟩ := x
  refine ⟨o, he a o (fun q => ?_) e, hc, hd⟩
  obtain ⟨o', e', hc', _⟩ := hit
  rw [q, e'] at e; cases e; rw [hc'] at hc; exact nomatch hc
theorem IsTup.butIt {a it l : Addr} {i : Nat} {vs : Array Value} {h h' : Heap} (hit : h.IsListIter it l i) (he : Heap.ExtBut it h h') (x : IsTup h a vs) : IsTup h' a vs := by
  obtain ⟨o, e, hc, hd⟩ := x
  refine ⟨o, he a o (fun q => ?_) e, hc, hd⟩
  obtain ⟨o', e', hc', _⟩ := hit
  rw [q, e'] at e; cases e; rw [hc'] at hc; exact nomatch hc
theorem Rd.butIt {b it l : Addr} {i : Nat} {h h' : Heap} {v : Value} {d : PyData} (hit : h.IsListIter it l i) (he : Heap.ExtBut it h h') (x : Rd b h v d) : Rd b h' v d := by
  induction x with
  | int i t => exact .int i t
  | str x t => exact .str x t
  | list h1 h2 h3 _ ih => exact .list h1 (IsList.butIt hit he h2) h3 ih
  | tup h1 h2 h3 _ ih => exact .tup h1 (IsTup.butIt hit he h2) h3 ih
theorem LsAt.butIt {b a it l : Addr} {i : Nat} {vs : Array Value} {ds : List PyData} {h h' : Heap} (hit : h.IsListIter it l i) (he : Heap.ExtBut it h h') (x : LsAt b h a vs ds) : LsAt b h' a vs ds :=
  ⟨x.le, IsList.butIt hit he x.ls, x.sz, fun i v d e1 e2 => (x.rd i v d e1 e2).butIt hit he⟩
theorem LsAt.mono {b c a : Addr} {vs : Array Value} {ds : List PyData} {h : Heap} (x : LsAt b h a vs ds) (l : c ≤ b) : LsAt c h a vs ds :=
  ⟨Nat.le_trans l x.le, x.ls, x.sz, fun i v d e1 e2 => (x.rd i v d e1 e2).mono l⟩
theorem RdAll.app {b : Addr} {h : Heap} {vs ws : Array Value} {ds es : List PyData} (x : RdAll b h vs ds) (y : RdAll b h ws es) : RdAll b h (vs ++ ws) (ds ++ es) := by
  refine ⟨by rw [Array.size_append, List.length_append, x.1, y.1], fun i v d e1 e2 => ?_⟩
  by_cases hi : i < vs.size
  · rw [Array.getElem?_append_left hi] at e1
    rw [List.getElem?_append_left (by rw [← x.1]; exact hi)] at e2
    exact x.2 i v d e1 e2
  · rw [Array.getElem?_append_right (by omega)] at e1
    rw [List.getElem?_append_right (by rw [← x.1]; omega), ← x.1] at e2
    exact y.2 _ v d e1 e2
theorem Ext.ownM {M : List Addr} {a : Addr} {h h1 h2 : Heap} (y : Ext M h h1) (na : h.get? a = none) (he : Heap.ExtBut a h1 h2) : Ext M h h2 := by
  have nx : ∀ {c o}, h.get? c = some o → c ≠ a := fun e z => by rw [z, na] at e; cases e
  refine ⟨fun c o e q => ?_, fun c o e => ?_⟩
  · rcases y.keep c o e q with z | ⟨ht, ps, more, rfl, z, kz⟩
    · exact .inl (he c o (nx e) z)
    · exact .inr ⟨ht, ps, more, rfl, he c _ (nx e) z, kz⟩
  · obtain ⟨o', z⟩ := y.there c o e
    exact ⟨o', he c o' (nx e) z⟩
section
variable {w : World} {A : Around} {E : Value → Shared → Prop} {env : Env}
theorem TurnOk.name {elt : Expr} {x : Str} {px : Pos} {ifs : List Expr} {scope : Scope} {cl : List (Str × Addr)} {s₁ : Shared} {l : Nat} {dx : PyData} {f : PyData → Option PyData}
    (hk : scope.kind = .function) (hx : ∀ C, (cenvOf scope cl C env).kindOf x = some .local)
    (h : ∀ (E : Value → Shared → Prop) (p : Addr → Prop) h' tk C m u, (∀ a, C < a → p a) → ¬ p C → Keep s₁.heap h' → h'.Ns C m → s₁.heap.get? C = none → m x = some u → RdP p h' u dx →
      wpAny (model P w) A (forIn ifs true fun c r => if r = true then do let ok ← isTrue c (cenvOf scope cl C env) (eval c (cenvOf scope cl C env)); pure (ForInStep.yield ok) else pure (ForInStep.yield r)) (fun ok s₃ =>
        match f dx with
        | none => ok = false ∧ Turned C s₁ h' s₃
        | some d' => ok = true ∧ wpAny (model P w) A (eval elt (cenvOf scope cl C env)) (fun u s₄ => RdP p s₄.heap u d' ∧ Turned C s₁ h' s₄) E s₃) E ⟨h', s₁.gens, s₁.drawn, tk, s₁.os⟩) :
    TurnOk w A elt (.Name x px) ifs scope cl env s₁ l dx f := by
  intro E p h' tk C mC it j v hp hC kp hit nC fC rv
  have hk' : ∀ C, ((cenvOf scope cl C env).scope.kind == .class || ((cenvOf scope cl C env).scope.kind == .module && (cenvOf scope cl C env).locals != (cenvOf scope cl C env).globals)) = false := fun C => by
    show (scope.kind == .class || (scope.kind == .module && _)) = false
    rw [hk]; rfl
  refine wpAny_pure ?_
  refine wpAny_assign_Name ?_
  refine wpAny_storeName_local (s := ⟨h', _, _, _, _⟩) (hx C) nC (fun h7 n7 s7 => ?_) (hk' C)
  dsimp only at n7 s7 ⊢
  have e7 : Heap.ExtBut C h' h7 := s7.extBut
  refine wpAny_mono (h E p h7 _ C _ v hp hC (fun b o e => e7 b o (fun q => by rw [q, fC] at e; cases e) (kp b o e)) n7 fC (by rw [if_pos rfl]) (rv.same e7 hC)) (fun ok s₃ z => ?_) fun _ _ q => q
  cases hf : f dx with
  | none => rw [hf] at z; exact ⟨z.1, z.2.back e7⟩
  | some d' =>
    rw [hf] at z
    exact ⟨z.1, wpAny_mono z.2 (fun _ _ q => ⟨q.1, q.2.back e7⟩) fun _ _ q => q⟩
end
structure LP (L b x rl : Nat) (h h' : Heap) (m' : Str → Option Value) (kv' : Option Value) (pl : Addr) (qs : List (Str × Int)) : Prop where
  y : Ext [L, L + 2] h h'
  n : h'.Ns L m'
  c : h'.IsCell (L + 2) kv'
  mw : m' "whole" = some (.ref x)
  mr : m' "rows" = some (.ref rl)
  mp : m' "plain" = some (.ref pl)
  lp : ∃ us, LsAt b h' pl us (qs.map pairD)
  off : L + 2 < b
  eL : ∃ o, h.get? L = some o
  eC : ∃ o, h.get? (L + 2) = some o
section
variable {L b x rl : Nat} {h h' h'' : Heap} {m' m'' : Str → Option Value} {kv' kv'' : Option Value} {pl pl' : Addr} {qs : List (Str × Int)}
theorem LP.it (P : LP L b x rl h h' m' kv' pl qs) {a l : Addr} {i : Nat} (na : h.get? a = none) (hit : h'.IsListIter a l i) (he : Heap.ExtBut a h' h'') : LP L b x rl h h'' m' kv' pl qs := by
  have nx : ∀ {c}, (∃ o, h.get? c = some o) → c ≠ a := fun ⟨o, e⟩ z => by rw [z, na] at e; cases e
  refine ⟨P.y.ownM na he, ?_, cell_keeps P.c he (nx P.eC), P.mw, P.mr, P.mp, ?_, P.off, P.eL, P.eC⟩
  · obtain ⟨o, es, ep, e, r⟩ := P.n
    exact ⟨o, es, ep, he _ _ (nx P.eL) e, r⟩
  · obtain ⟨us, lp⟩ := P.lp; exact ⟨us, lp.butIt hit he⟩
theorem LP.ext (P : LP L b x rl h h' m' kv' pl qs) (e : Ext [] h' h'') : LP L b x rl h h'' m' kv' pl qs :=
  ⟨P.y.trans e (fun a q => nomatch q), Ns_ext e P.n (by simp), e.cell P.c (by simp), P.mw, P.mr, P.mp, P.lp.elim fun us lp => ⟨us, lp.ext e (by simp)⟩, P.off, P.eL, P.eC⟩
theorem LP.put (P : LP L b x rl h h' m' kv' pl qs) (n : h''.Ns L m'') (hs : Heap.SameBut L h' h'') (mw : m'' "whole" = some (.ref x)) (mr : m'' "rows" = some (.ref rl)) (mp : m'' "plain" = some (.ref pl)) : LP L b x rl h h'' m'' kv' pl qs := by
  have y : Ext [L] h' h'' := .sameBut hs (let ⟨o, _, _, e, _⟩ := n; ⟨o, e⟩)
  exact ⟨P.y.trans y fun a q => .inl (by rw [List.mem_singleton.mp q]; simp), n, cell_keeps P.c hs.extBut (Nat.ne_of_gt (Nat.lt_add_of_pos_right (by decide))), mw, mr, mp, P.lp.elim fun us lp => ⟨us, lp.ext y fun a q => .inl (by rw [List.mem_singleton.mp q]; exact Nat.lt_of_le_of_lt (Nat.le_add_right L 2) P.off)⟩, P.off, P.eL, P.eC⟩
theorem LP.plain (P : LP L b x rl h h' m' kv' pl qs) {us : Array Value} {rs : List (Str × Int)} (l : LsAt b h' pl' us (rs.map pairD)) (n : h''.Ns L m'') (hs : Heap.SameBut L h' h'') (mw : m'' "whole" = some (.ref x)) (mr : m'' "rows" = some (.ref rl)) (mp : m'' "plain" = some (.ref pl')) : LP L b x rl h h'' m'' kv' pl' rs := by
  have y : Ext [L] h' h'' := .sameBut hs (let ⟨o, _, _, e, _⟩ := n; ⟨o, e⟩)
  exact ⟨P.y.trans y fun a q => .inl (by rw [List.mem_singleton.mp q]; simp), n, cell_keeps P.c hs.extBut (Nat.ne_of_gt (Nat.lt_add_of_pos_right (by decide))), mw, mr, mp, ⟨us, l.ext y fun a q => .inl (by rw [List.mem_singleton.mp q]; exact Nat.lt_of_le_of_lt (Nat.le_add_right L 2) P.off)⟩, P.off, P.eL, P.eC⟩
theorem LP.key (P : LP L b x rl h h' m' kv' pl qs) (c : h''.IsCell (L + 2) kv'') (hs : Heap.SameBut (L + 2) h' h'') : LP L b x rl h h'' m' kv'' pl qs := by
  have y : Ext [L + 2] h' h'' := .sameBut hs (let ⟨o, e, _⟩ := c; ⟨o, e⟩)
  refine ⟨P.y.trans y fun a q => .inl (by rw [List.mem_singleton.mp q]; simp), P.n.sameBut hs (Nat.ne_of_lt (Nat.lt_add_of_pos_right (by decide))), c, P.mw, P.mr, P.mp, P.lp.elim fun us lp => ⟨us, lp.ext y fun a q => .inl (by rw [List.mem_singleton.mp q]; exact P.off)⟩, P.off, P.eL, P.eC⟩
end
def pairOf (k : Str) : PyData → Option PyData
  | .int n => some (pairD (k, n))
  | _ => none
theorem pairOf_map (k : Str) (ns : List Int) : (ns.map PyData.int).filterMap (pairOf k) = (ns.map fun n => (k, n)).map pairD := by
  induction ns with
  | nil => rfl
  | cons n ns ih => rw [List.map_cons, List.filterMap_cons_some (show pairOf k (.int n) = some (pairD (k, n)) from rfl), ih]; rfl
theorem un_succ {g : Grp} {j : Nat} (hj : j < g.length) : un (g.take (j + 1)) = un (g.take j) ++ g[j].2.map fun n => (g[j].1, n) := by
  unfold un
  rw [List.take_succ_eq_append_getElem hj, List.flatMap_append, List.flatMap_singleton]
theorem un_take (g : Grp) (j : Nat) : (un (g.take j)).length ≤ (un g).length := by
  have : un g = un (g.take j) ++ un (g.drop j) := by unfold un; rw [← List.flatMap_append, List.take_append_drop]
  rw [this, List.length_append]; omega
theorem plain_succ {pss : List (List (Str × Int))} {i : Nat} (hi : i < pss.length) : plainOf (pss.take (i + 1)) = plainOf (pss.take i) ++ un (grpd pss[i]) := by
  unfold plainOf
  rw [List.take_succ_eq_append_getElem hi, List.flatMap_append, List.flatMap_singleton]
end Mine
end
section
open PySem PySem.W PySem.W.X PyProof.Rows PySem.Calls PySem.SeqAt PySem.Spec
set_option maxRecDepth 100000
set_option maxHeartbeats 1600000
namespace Mine
local macro_rules | `(tactic| walk_at "nb") => `(tactic| refine name_boot (by assumption) rfl rfl rfl (by boot_by_name) (by decide) ?_)
local macro_rules | `(tactic| walk_at "nt") => `(tactic| refine name_top (by assumption) rfl (by rfl) ?_)
section
variable {w : World} {A : Around} {E : Value → Shared → Prop} {h₀ h h' : Heap} {gn : Array GenState} {d : Drawn} {t : Nat} {os : OsState} {st nb b : Nat} {m m' : Str → Option Value} {kv kv' : Option Value} {at_ : Nat} {rl x : Addr} {rus : Array Value} {pss : List (List (Str × Int))}
theorem law_3 {Q : Flow → Shared → Prop} (X : LS w h₀ h m kv st nb at_)
    (hQ : ∀ h' tk pl, LS w h₀ h' (fun y => if y = "plain" then some (.ref pl) else m y) kv st nb at_ → Ext [h₀.objs.size] h h' → LsAt h.objs.size h' pl #[] [] → Q .next ⟨h', gn, d, tk, os⟩) :
    wpAny (model P w) A (exec (lawSt w 3) (lawEnv w h₀.objs.size)) Q E ⟨h, gn, d, t, os⟩ := by
  refine wpAny_Assign_Name ?_
  refine wpAny_List ?_
  refine wpAny_items_nil ?_
  refine ⟨by simp, ?_⟩
  have e1 : Ext [] h (h.push { cls := .type "list", data := .seq #[] }) := Ext.push _ _
  have ls1 : (h.push { cls := .type "list", data := .seq #[] }).IsList h.objs.size #[] := ⟨_, Heap.get?_push_size _ rfl, rfl, 0, rfl⟩
  have Lh : h₀.objs.size < h.objs.size := X.D.ns.lt
  change wpAny _ _ _ _ _ ⟨h.push { cls := .type "list", data := .seq #[] }, _, _, _, _⟩
  generalize h.push { cls := .type "list", data := .seq #[] } = h1 at e1 ls1 ⊢
  have X1 := X.ext e1
  refine wpAny_storeName_local rfl X1.D.ns (fun h9 hn9 hs9 => ?_) rfl
  replace hs9 : Heap.SameBut h₀.objs.size h1 h9 := hs9
  have y9 : Ext [h₀.objs.size] h1 h9 := .sameBut hs9 (let ⟨o, _, _, e, _⟩ := hn9; ⟨o, e⟩)
  have X9 := X1.re y9 (fun a q => .inl (List.mem_singleton.mp q)) hn9 (cell_keeps X1.Ck hs9.extBut (Nat.ne_of_gt (Nat.lt_add_of_pos_right (by decide))))
  exact hQ h9 _ _ X9 ((e1.mono (by simp)).trans y9 fun a q => .inl q) ⟨Nat.le_refl _, y9.isList ls1 (nin (Nat.ne_of_gt Lh)), rfl, fun i v d e => by simp at e⟩
theorem law_4 {Q : Flow → Shared → Prop} (hA : Rm 380 A) (hh : A.handled = none) (X : LS w h₀ h m kv st nb at_) (mr : m "rows" = some (.ref rl)) (mw : m "whole" = some (.ref x)) {p0 : Addr} (mp : m "plain" = some (.ref p0)) (lr : LsAt (h₀.objs.size + 3) h rl rus (pss.map rowD)) (lp : LsAt b h p0 #[] [])
    (hn : pss.length ≤ 4) (hg : ∀ ps ∈ pss, GoodRow ps) (hW : ∃ dx dl hsh t n c vs es ep, WH w b h x (pss.map grp) dx dl hsh t n c vs es ep) (bst : st < b) (bnb : nb < b)
    (hQ : ∀ h' tk m' kv' pl, LW w h₀ b h' m' kv' st nb at_ x pss pl → m' "whole" = some (.ref x) → m' "plain" = some (.ref pl) → Q .next ⟨h', gn, d, tk, os⟩) :
    wpAny (model P w) A (exec (lawSt w 4) (lawEnv w h₀.objs.size)) Q E ⟨h, gn, d, t, os⟩ := by
  have T := X.top
  obtain ⟨hb1, hb2, hb3⟩ := X.hb
  have offL : h₀.objs.size + 2 < b := by omega
  have bsz : b ≤ h.objs.size := by obtain ⟨_, _, _, _, _, _, _, _, _, W⟩ := hW; exact Nat.le_trans W.lx (Nat.le_of_lt (Heap.lt_size W.dd.at_))
  have exL : ∃ o, h.get? h₀.objs.size = some o := by obtain ⟨o, _, _, e, _⟩ := X.D.ns; exact ⟨o, e⟩
  have exC : ∃ o, h.get? (h₀.objs.size + 2) = some o := by obtain ⟨o, e, _⟩ := X.Ck; exact ⟨o, e⟩
  have Ck : h.IsCell (h₀.objs.size + 2) kv := X.Ck
  have P0 : LP h₀.objs.size b x rl h h m kv p0 [] := ⟨(Ext.refl h).mono (by simp), X.D.ns, Ck, mw, mr, mp, ⟨_, lp⟩, offL, exL, exC⟩
  have hM : ∀ a ∈ [h₀.objs.size, h₀.objs.size + 2], a = h₀.objs.size ∨ a = h₀.objs.size + 2 ∨ h.get? a = none := fun a q => by
    rcases List.mem_cons.mp q with rfl | q
    · exact .inl rfl
    · exact .inr (.inl (List.mem_singleton.mp q))
  have hM3 : ∀ a ∈ [h₀.objs.size, h₀.objs.size + 2], a < h₀.objs.size + 3 ∨ h.get? a = none := fun a q => by
    rcases List.mem_cons.mp q with rfl | q
    · exact .inl (Nat.lt_add_of_pos_right (by decide))
    · exact .inl (by rw [List.mem_singleton.mp q]; exact Nat.lt_succ_self _)
  have hMb : ∀ a ∈ [h₀.objs.size, h₀.objs.size + 2], a < b ∨ h.get? a = none := fun a q => by
    rcases List.mem_cons.mp q with rfl | q
    · exact .inl (Nat.lt_of_le_of_lt (Nat.le_add_right _ 2) offL)
    · exact .inl (by rw [List.mem_singleton.mp q]; exact offL)
  have top : ∀ {h' m' kv' pl qs}, LP h₀.objs.size b x rl h h' m' kv' pl qs → TopH w h' := fun {h' m' kv' pl qs} P => (X.re P.y hM (P.n) (P.c)).top
  refine wpAny_For ?_
  refine name_local X.D.ns mr ?_
  refine wpAny_pyIter_list lr.ls ?_
  have nit : h.get? h.objs.size = none := get_size _
  have hit0 : (h.push { cls := .type "list_iterator", data := .fields #[.ref rl, .int 0 0] }).IsListIter h.objs.size rl 0 := ⟨_, Heap.get?_push_size _ rfl, rfl, rfl⟩
  have P1 := P0.ext (Ext.push h { cls := .type "list_iterator", data := .fields #[.ref rl, .int 0 0] })
  have itL : h.objs.size ≠ h₀.objs.size := fun q => by obtain ⟨o, e⟩ := exL; rw [← q, nit] at e; cases e
  have itC : h.objs.size ≠ h₀.objs.size + 2 := fun q => by obtain ⟨o, e⟩ := exC; rw [← q, nit] at e; cases e
  dsimp only
  generalize h.objs.size = it at nit hit0 itL itC bsz ⊢
  generalize h.push { cls := .type "list_iterator", data := .fields #[.ref rl, .int 0 0] } = h1 at P1 hit0 ⊢
  refine codeAny_forLoop_any (fun n s' => ∃ i h' tk' m' kv' pl, n + i = pss.length ∧ s' = ⟨h', gn, d, tk', os⟩ ∧ LP h₀.objs.size b x rl h h' m' kv' pl (plainOf (pss.take i)) ∧ h'.IsListIter it rl i) ?_ pss.length
    ⟨0, h1, _, m, kv, p0, rfl, rfl, P1, hit0⟩
  clear P1 P0 hit0 h1
  rintro n s' ⟨i, h2, tk2, m2, kv2, pl2, hni, rfl, P2, hit⟩
  have lr2 := lr.ext P2.y hM3
  cases n with
  | zero =>
    refine wpAny_pyNext_list_end hh hit lr2.ls (by rw [Array.getElem?_eq_none_iff, lr2.sz, List.length_map]; omega) (fun h3 he => ?_)
    have P3 := P2.it nit hit he
    rw [List.take_of_length_le (by omega)] at P3
    dsimp only
    refine wpAny_execs_nil ?_
    obtain ⟨dx, dl, hsh, t1, n1, c1, vs1, es1, ep1, W⟩ := hW
    obtain ⟨us, lp3⟩ := P3.lp
    have X3 := X.re P3.y hM (P3.n) (P3.c)
    exact hQ h3 tk2 m2 kv2 pl2 ⟨X3.T₀, X3.D, X3.Ck, X3.Cs, ⟨hb1, bst, bnb, hb2, hb3⟩, X3.at_lt, X3.st, X3.nb, ⟨dx, dl, hsh, t1, n1, c1, vs1, es1, ep1, W.ext P3.y hMb⟩, ⟨us, lp3⟩, hn, hg⟩ P3.mw P3.mp
  | succ n =>
    have hi : i < pss.length := by omega
    have hgi := hg _ (List.getElem_mem hi)
    obtain ⟨v, hv, rv⟩ := lr2.item (i := i) (d := rowD pss[i]) (by rw [List.getElem?_map, List.getElem?_eq_getElem hi]; rfl)
    obtain ⟨ra, rvs, rfl, lra⟩ := LsAt.of rv
    refine wpAny_pyNext_list_item hit lr2.ls hv (fun h3 hit3 sb3 => ?_)
    replace sb3 : Heap.SameBut it h2 h3 := sb3
    have P3 := P2.it nit hit sb3.extBut
    replace lra := lra.butIt hit sb3.extBut
    dsimp only
    clear P2 hit lr2 rv sb3 hv
    refine wpAny_pure ?_
    refine wpAny_assign_Name ?_
    refine wpAny_storeName_local rfl (P3.n) (fun h4 hn4 hs4 => ?_) rfl
    have P4 := P3.put hn4 hs4 ((if_neg (by decide)).trans P3.mw) ((if_neg (by decide)).trans P3.mr) ((if_neg (by decide)).trans P3.mp)
    replace hs4 : Heap.SameBut h₀.objs.size h3 h4 := hs4
    have hit4 := hit3.at fun o e => (hs4.2 _ itL).trans e
    have lra4 : LsAt (h₀.objs.size + 3) h4 ra rvs (pss[i].map pairD) := lra.ext (.sameBut hs4 (let ⟨o, _, _, e, _⟩ := hn4; ⟨o, e⟩) : Ext [h₀.objs.size] h3 h4) fun a q => .inl (by rw [List.mem_singleton.mp q]; exact Nat.lt_add_of_pos_right (by decide))
    dsimp only
    clear P3 hit3 lra hs4
    refine wpAny_execs_cons ?_
    refine wpAny_For ?_
    have T4 := top P4
    refine wpAny_Call_NameR ?_
    walk_at "nt"
    refine call_fn (by rfl) ?_
    refine wpAny_items_cons ?_
    refine name_local hn4 (if_pos rfl) ?_
    refine wpAny_items_nil ?_
    refine ⟨T4, ?_⟩
    refine wpAny_call ?_
    have L4 : h₀.objs.size + 3 ≤ h4.objs.size := by obtain ⟨o, e, _⟩ := P4.c; exact Nat.succ_le_of_lt (Heap.lt_size e)
    refine grouped_spec (hA.mono (by decide)) hh T4 lra4 (by have := hgi.1; omega) L4 (fun h5 tk5 r5 us5 e5 l5 => ?_)
    dsimp only at l5 ⊢
    have b4 : b ≤ h4.objs.size := Nat.le_trans bsz (Nat.le_of_lt (by obtain ⟨o, e, _⟩ := hit4; exact Heap.lt_size e))
    have it4 : it < h4.objs.size := by obtain ⟨o, e, _⟩ := hit4; exact Heap.lt_size e
    have P5 := P4.ext e5
    have hit5 : h5.IsListIter it rl (i + 1) := let ⟨o, e, hc, hd⟩ := hit4; ⟨o, e5.get e (by unfold hasCls; rw [hc]) (by simp), hc, hd⟩
    clear P4 hit4 lra4 e5 T4 hn4
    generalize h4.objs.size = b5 at l5 b4 L4 it4
    clear h4 h3 h2
    refine wpAny_pyIter_list l5.ls ?_
    have nit2 : h.get? h5.objs.size = none := P5.y.fresh (get_size _)
    have hit20 : (h5.push { cls := .type "list_iterator", data := .fields #[.ref r5, .int 0 0] }).IsListIter h5.objs.size r5 0 := ⟨_, Heap.get?_push_size _ rfl, rfl, rfl⟩
    have e6 : Ext [] h5 (h5.push { cls := .type "list_iterator", data := .fields #[.ref r5, .int 0 0] }) := Ext.push _ _
    have P6 := P5.ext e6
    have l6 := l5.ext e6 (by simp)
    have hit6 : (h5.push { cls := .type "list_iterator", data := .fields #[.ref r5, .int 0 0] }).IsListIter it rl (i + 1) := hit5.at fun o e => Heap.get?_push_of_some _ e
    have it25 : it ≠ h5.objs.size := by obtain ⟨o, e, _⟩ := hit5; exact Nat.ne_of_lt (Heap.lt_size e)
    have it2L : h5.objs.size ≠ h₀.objs.size := fun q => by obtain ⟨o, e⟩ := exL; rw [← q, nit2] at e; cases e
    have it2C : h5.objs.size ≠ h₀.objs.size + 2 := fun q => by obtain ⟨o, e⟩ := exC; rw [← q, nit2] at e; cases e
    have b55 : b5 ≤ h5.objs.size := by obtain ⟨o, e, _⟩ := l5.ls; exact Nat.le_trans l5.le (Nat.le_of_lt (Heap.lt_size e))
    dsimp only
    generalize h5.objs.size = it2 at nit2 hit20 it25 it2L it2C b55 ⊢
    generalize h5.push { cls := .type "list_iterator", data := .fields #[.ref r5, .int 0 0] } = h6 at P6 l6 hit6 hit20 ⊢
    clear P5 l5 hit5 e6 h5
    have hn4 : (pss.take i).length ≤ 4 := by rw [List.length_take]; omega
    have lpl := plain_len hn4 fun ps q => (hg ps (List.mem_of_mem_take q)).1
    have lun : (un (grpd pss[i])).length ≤ 144 := by
      have := plain_len (rows := [pss[i]]) (by simp) fun ps q => by rw [List.mem_singleton.mp q]; exact hgi.1
      simpa [plainOf] using this
    have hMb5 : ∀ a ∈ [h₀.objs.size, h₀.objs.size + 2], a < b5 := fun a q => by
      rcases List.mem_cons.mp q with rfl | q
      · exact Nat.lt_of_lt_of_le (Nat.lt_add_of_pos_right (by decide)) L4
      · rw [List.mem_singleton.mp q]; exact Nat.lt_of_lt_of_le (Nat.lt_succ_self _) L4
    refine codeAny_forLoop_any (fun n2 s' => ∃ j h' tk' m' kv' pl, n2 + j = (grpd pss[i]).length ∧ s' = ⟨h', gn, d, tk', os⟩ ∧ LP h₀.objs.size b x rl h h' m' kv' pl (plainOf (pss.take i) ++ un ((grpd pss[i]).take j)) ∧ h'.IsListIter it rl (i + 1) ∧ h'.IsListIter it2 r5 j ∧ LsAt b5 h' r5 us5 ((grpd pss[i]).map grpD)) ?_ (grpd pss[i]).length
      ⟨0, h6, _, _, _, _, rfl, rfl, by simpa [un] using P6, hit6, hit20, l6⟩
    clear P6 hit6 hit20 l6 h6
    rintro n2 s' ⟨j, h7, tk7, m7, kv7, pl7, hn2, rfl, P7, hita, hit, l7⟩
    cases n2 with
    | zero =>
      refine wpAny_pyNext_list_end hh hit l7.ls (by rw [Array.getElem?_eq_none_iff, l7.sz, List.length_map]; omega) (fun h8 he => ?_)
      have P8 := P7.it nit2 hit he
      have hj : j = (grpd pss[i]).length := by omega
      rw [hj, List.take_length] at P8
      rw [← plain_succ hi] at P8
      dsimp only
      refine wpAny_execs_nil ?_
      refine wpAny_execs_nil ?_
      exact ⟨n, Nat.lt_succ_self n, i + 1, h8, tk7, m7, kv7, pl7, by omega, rfl, P8, hita.at fun o e => he _ _ it25 e⟩
    | succ n2 =>
      have hj : j < (grpd pss[i]).length := by omega
      obtain ⟨v, hv, rv⟩ := l7.item (i := j) (d := grpD (grpd pss[i])[j]) (by rw [List.getElem?_map, List.getElem?_eq_getElem hj]; rfl)
      refine wpAny_pyNext_list_item hit l7.ls hv (fun h8 hit8 sb8 => ?_)
      replace sb8 : Heap.SameBut it2 h7 h8 := sb8
      have P8 := P7.it nit2 hit sb8.extBut
      replace l7 := l7.butIt hit sb8.extBut
      replace rv := rv.butIt hit sb8.extBut
      replace hita := hita.at fun o e => sb8.extBut _ _ it25 e
      obtain ⟨ta, u, z, rfl, _, ht, ru, rz⟩ := rv.pairE
      obtain ⟨tu, rfl⟩ := ru.strE
      obtain ⟨va, vvs, rfl, lv⟩ := LsAt.of rz
      have hgj : (grpd pss[i])[j].2.length ≤ 144 := by
        have h1 := un_take (grpd pss[i]) (j + 1)
        rw [un_succ hj, List.length_append, List.length_map] at h1
        omega
      have huj := un_take (grpd pss[i]) j
      generalize hG : (grpd pss[i])[j] = G at lv hgj ht ⊢
      dsimp only
      clear hit P7 sb8 rv rz ru hv
      refine wpAny_letOwnedTupleGo_listiter hit8 ?_
      refine assign_Tuple_tuple hh ht rfl rfl (fun h9 he9 => ?_)
      try dsimp only at he9 ⊢
      have k9 : Keep h8 h9 := fun b o q => he9 b o (Nat.ne_of_lt (Heap.lt_size q)) q
      have P9 := P8.ext (.of_keeps k9)
      replace l7 := l7.ext (.of_keeps k9) (by simp)
      replace lv := lv.ext (.of_keeps k9) (by simp)
      replace hita := hita.at fun o e => k9 _ _ e
      have hit9 := hit8.at fun o e => k9 _ _ e
      clear P8 hit8 ht he9 k9 h8 h7
      refine wpAny_assignInOrder_more ?_
      refine wpAny_assign_Name ?_
      refine wpAny_storeName_cell rfl rfl (c := h₀.objs.size + 2) rfl P9.c (fun h10 C10 sb10 => ?_)
      have P10 := P9.key C10 sb10
      have y10 : Ext [h₀.objs.size + 2] h9 h10 := .sameBut sb10 (let ⟨o, e, _⟩ := C10; ⟨o, e⟩)
      replace l7 := l7.ext y10 (fun a q => .inl (hMb5 a (List.mem_cons_of_mem _ q)))
      replace lv := lv.ext y10 (fun a q => .inl (hMb5 a (List.mem_cons_of_mem _ q)))
      replace hita := hita.at fun o e => (sb10.2 _ itC).trans e
      have hit10 := hit9.at fun o e => (sb10.2 _ it2C).trans e
      dsimp only
      clear P9 C10 sb10 y10 hit9 h9
      refine wpAny_assignInOrder_more ?_
      refine wpAny_assign_Name ?_
      refine wpAny_storeName_local rfl P10.n (fun h11 hn11 hs11 => ?_) rfl
      replace hs11 : Heap.SameBut h₀.objs.size h10 h11 := hs11
      have P11 := P10.put hn11 hs11 ((if_neg (by decide)).trans P10.mw) ((if_neg (by decide)).trans P10.mr) ((if_neg (by decide)).trans P10.mp)
      have y11 : Ext [h₀.objs.size] h10 h11 := .sameBut hs11 (let ⟨o, _, _, e, _⟩ := hn11; ⟨o, e⟩)
      have hm11 : ∀ a ∈ [h₀.objs.size], a < b5 ∨ h10.get? a = none := fun a q => .inl (hMb5 a (by rw [List.mem_singleton.mp q]; exact .head _))
      replace l7 := l7.ext y11 hm11
      replace lv := lv.ext y11 hm11
      replace hita := hita.at fun o e => (hs11.2 _ itL).trans e
      have hit11 := hit10.at fun o e => (hs11.2 _ it2L).trans e
      dsimp only
      clear P10 hs11 y11 hm11 hit10 h10
      refine wpAny_assignInOrder_none ?_
      refine wpAny_execs_cons ?_
      refine wpAny_Assign_Name ?_
      refine wpAny_BinOp ?_
      refine name_local P11.n P11.mp ?_
      refine comp_rd (cl := [(Str.ofString "key", h₀.objs.size + 2)]) (pairOf G.1) hh (by rfl) rfl (by decide) (by decide) ?_
      refine name_local P11.n (if_pos rfl) ?_
      refine ⟨va, vvs, _, b5, rfl, lv, by rw [List.length_map]; omega, ?_, fun dd hd => ?_, ?_⟩
      · obtain ⟨o, e, _⟩ := lv.ls; exact Nat.le_trans lv.le (Nat.le_of_lt (Heap.lt_size e))
      · obtain ⟨n0, _, rfl⟩ := List.mem_map.mp hd
        refine TurnOk.name rfl (fun _ => by rfl) fun E p' h' tk' C mm u hp hC kp nC fC mx ru => ?_
        obtain ⟨t1, rfl⟩ := ru.intE
        rw [show pairOf G.1 (.int n0) = some (pairD (G.1, n0)) from rfl]
        refine wpAny_tests_nil ⟨rfl, ?_⟩
        refine Tuple_ ?_
        refine wpAny_items_cons ?_
        refine wpAny_Name (wpAny_loadName_cell rfl rfl (c := h₀.objs.size + 2) rfl ((Ext.of_keeps kp).cell P11.c List.not_mem_nil) ?_) (by decide)
        refine wpAny_items_cons ?_
        refine name_local nC mx ?_
        refine wpAny_items_nil ?_
        refine wpAny_newObj_type ?_ (by show (2 : Nat) ≤ sizeLine; decide)
        have kt : Keep h' (h'.push { cls := .type "tuple", data := .seq #[.str G.1 tu, .int n0 t1] }) := fun b o e => Heap.get?_push_of_some _ e
        refine ⟨.tup (hp _ nC.lt) ⟨_, Heap.get?_push_size _ rfl, rfl, 0, rfl⟩ rfl fun i v d e1 e2 => ?_, _, _, _, rfl, fun b o _ e => kt b o e, nC.push _⟩
        match i, e1, e2 with
        | 0, e1, e2 => cases e1; cases e2; exact .str _ _
        | 1, e1, e2 => cases e1; cases e2; exact .int _ _
        | i + 2, e1, e2 => simp at e1
      intro h12 r12 us12 tk12 k12 l12 b12
      try dsimp only at k12 b12 ⊢
      rw [pairOf_map] at l12
      have P12 := P11.ext (.of_keeps k12)
      replace l7 := l7.ext (.of_keeps k12) (by simp)
      replace hita := hita.at fun o e => k12 _ _ e
      have hit12 := hit11.at fun o e => k12 _ _ e
      clear P11 hit11 k12 hn11 b12 lv h11
      obtain ⟨us, lp12⟩ := P12.lp
      have z1 := lp12.sz
      have z2 := l12.sz
      rw [List.length_map, List.length_append] at z1
      rw [List.length_map, List.length_map] at z2
      refine add_ls lp12.ls l12.ls (by omega) ?_
      have e13 : Ext [] h12 (h12.push { cls := .type "list", data := .seq (us ++ us12) }) := Ext.push _ _
      have ls13 : (h12.push { cls := .type "list", data := .seq (us ++ us12) }).IsList h12.objs.size (us ++ us12) := ⟨_, Heap.get?_push_size _ rfl, rfl, 0, rfl⟩
      have bz12 : b ≤ h12.objs.size := by obtain ⟨o, e, _⟩ := lp12.ls; exact Nat.le_trans lp12.le (Nat.le_of_lt (Heap.lt_size e))
      have row : RdAll b _ (us ++ us12) ((plainOf (pss.take i) ++ un ((grpd pss[i]).take j)).map pairD ++ (G.2.map fun n => (G.1, n)).map pairD) :=
        (show RdAll b h12 us _ from ⟨lp12.sz, lp12.rd⟩).app (show RdAll b h12 us12 _ from ⟨(l12.mono b4).sz, (l12.mono b4).rd⟩)
      have lp13 : LsAt b (h12.push { cls := .type "list", data := .seq (us ++ us12) }) h12.objs.size (us ++ us12) ((plainOf (pss.take i) ++ un ((grpd pss[i]).take (j + 1))).map pairD) := by
        have row13 := row.ext e13 (by simp)
        rw [← List.map_append, List.append_assoc, ← hG, ← un_succ hj] at row13
        exact ⟨bz12, ls13, row13.1, row13.2⟩
      have P13 := P12.ext e13
      replace l7 := l7.ext e13 (by simp)
      replace hita : (h12.push { cls := .type "list", data := .seq (us ++ us12) }).IsListIter it rl (i + 1) := hita.at fun o e => Heap.get?_push_of_some _ e
      have hit13 : (h12.push { cls := .type "list", data := .seq (us ++ us12) }).IsListIter it2 r5 (j + 1) := hit12.at fun o e => Heap.get?_push_of_some _ e
      clear P12 hit12 row e13 ls13 lp12 l12
      generalize h12.objs.size = pl13 at lp13 ⊢
      generalize h12.push { cls := .type "list", data := .seq (us ++ us12) } = h13 at *
      refine wpAny_storeName_local rfl P13.n (fun h14 hn14 hs14 => ?_) rfl
      replace hs14 : Heap.SameBut h₀.objs.size h13 h14 := hs14
      have P14 := P13.plain lp13 hn14 hs14 ((if_neg (by decide)).trans P13.mw) ((if_neg (by decide)).trans P13.mr) (if_pos rfl)
      have y14 : Ext [h₀.objs.size] h13 h14 := .sameBut hs14 (let ⟨o, _, _, e, _⟩ := hn14; ⟨o, e⟩)
      have hm14 : ∀ a ∈ [h₀.objs.size], a < b5 ∨ h13.get? a = none := fun a q => .inl (hMb5 a (by rw [List.mem_singleton.mp q]; exact .head _))
      replace l7 := l7.ext y14 hm14
      replace hita := hita.at fun o e => (hs14.2 _ itL).trans e
      have hit14 := hit13.at fun o e => (hs14.2 _ it2L).trans e
      refine wpAny_execs_nil ?_
      exact ⟨n2, Nat.lt_succ_self n2, j + 1, h14, _, _, _, pl13, by omega, rfl, P14, hita, hit14, l7⟩
end
end Mine
end
section
open PySem PySem.W PySem.W.X PyProof.Rows PySem.Calls PySem.SeqAt PySem.Spec
set_option maxRecDepth 100000
set_option maxHeartbeats 1600000
namespace Mine
local macro_rules | `(tactic| walk_at "nb") => `(tactic| refine name_boot (by assumption) rfl rfl rfl (by boot_by_name) (by decide) ?_)
local macro_rules | `(tactic| walk_at "nt") => `(tactic| refine name_top (by assumption) rfl (by rfl) ?_)
section
variable {w : World} {A : Around}
theorem law_spec {s : Shared} {R : Result → Shared → Prop} {sc : Addr} {svs : Array Value} {ns : List Int} (hA : Rm 379 A) (hh : A.handled = none) (F : A.frames = some []) (T : TopH w s.heap)
    (hl : s.heap.IsList sc svs) (hi : IntsAre svs.toList ns) (hz : svs.size ≤ 1000)
    (hR : ∀ h' gn' tk d', Ext [] s.heap h' → (Bare s.gens → Bare gn') → R (.ok (.ret (.bool true))) ⟨h', gn', d', tk, s.os⟩) :
    codeAny (model P w) A (.call (.ref 603) ⟨[.ref sc], []⟩) R s := by
  refine enterC (fd := lawFd w) (body := [lawSt w 0, lawSt w 1, lawSt w 2, lawSt w 3, lawSt w 4, lawSt w 5, lawSt w 6, lawSt w 7, lawSt w 8, lawSt w 9, lawSt w 10, lawSt w 11, lawSt w 12]) [(Str.ofString "script", .ref sc)] hA T (by rfl) (by rfl) (by rfl) (by kernel_rfl) (by kernel_rfl) (by rfl) (fun x q => by rw [List.mem_singleton.mp q]; exact .inl (by rfl)) (fun h₁ tk0 D X hA' hh' => ?_)
  replace hh' := hh'.trans hh
  have F' : (A.deeper (lawEnv w s.heap.objs.size)).frames = some [lawEnv w s.heap.objs.size] := by
    show A.frames.map _ = _
    rw [F]; rfl
  obtain ⟨h₀, gn, d, t, os⟩ := s
  dsimp only at T hl hR D X hA' hh' F' ⊢
  have Cs : h₁.IsCell (h₀.objs.size + 1) none := X (Str.ofString "state") (h₀.objs.size + 1) rfl
  have Ck : h₁.IsCell (h₀.objs.size + 2) none := X (Str.ofString "key") (h₀.objs.size + 2) rfl
  clear X
  have T1 := D.top T (by simp)
  refine wpAny_execs_cons ?_
  change wpAny _ _ (exec (lawSt w 0) (lawEnv w h₀.objs.size)) _ _ _
  generalize A.deeper (lawEnv w h₀.objs.size) = A1 at hA' hh' F' ⊢
  refine wpAny_Assign_Name ?_
  refine wpAny_Call_NameR ?_
  walk_at "nt"
  refine call_fn (by rfl) ?_
  refine wpAny_items_cons ?_
  refine name_local D.ns (by rfl) ?_
  refine wpAny_items_nil ?_
  refine ⟨T1, ?_⟩
  refine wpAny_call ?_
  refine state_spec (hA'.mono (by decide)) hh' T1 (D.ext.isList hl (by simp)) hi hz (fun h2 tk2 st nb vs ms c c' t1 e2 est enb hms h0 h100 lst nst lnb => ?_)
  dsimp only at lst lnb e2 ⊢
  have C1 : h₀.objs.size + 2 < h₁.objs.size := by obtain ⟨o, e, _⟩ := Ck; exact Heap.lt_size e
  have D2 := D.call e2
  replace Cs := e2.cell Cs (by simp)
  replace Ck := e2.cell Ck (by simp)
  refine wpAny_storeName_cell rfl rfl (c := h₀.objs.size + 1) rfl Cs (fun h3 C3 sb3 => ?_)
  have n1 : h₀.objs.size + 1 ≠ st := by omega
  have n2 : h₀.objs.size + 1 ≠ nb := by omega
  have fC : h₀.get? (h₀.objs.size + 1) = none := get_fresh (Nat.le_succ _)
  have D3 := D2.own sb3 (let ⟨o, e, _⟩ := C3; ⟨o, e⟩) (.inr fC) (Nat.ne_of_lt (Nat.lt_succ_self _))
  have Ck3 := cell_keeps Ck sb3.extBut (Nat.ne_of_gt (Nat.lt_succ_self _))
  have est3 : h3.IsList st #[.ref nb, .int (0 : Nat) t1] := ⟨_, (sb3.2 _ (Ne.symm n1)).trans est, rfl, c, rfl⟩
  have enb3 : h3.IsList nb vs := ⟨_, (sb3.2 _ (Ne.symm n2)).trans enb, rfl, c', rfl⟩
  have S : LS w h₀ h3 _ none st nb 0 := ⟨T, D3, Ck3, C3, ⟨Nat.lt_of_lt_of_le C1 lst, nst, Nat.lt_of_lt_of_le C1 lnb⟩, by decide, ⟨t1, est3⟩, ⟨vs, ms, enb3, hms, h0, h100⟩⟩
  clear D3 Ck3 est3 enb3 C3 sb3 n1 n2 fC Cs Ck D2 est enb hms h0 h100 lst nst lnb C1 e2 T1 D
  generalize (bindL _ _ _ : Str → Option Value) = m at S
  dsimp only
  refine wpAny_execs_cons ?_
  refine law_1 (hA'.mono (by decide)) hh' S (by decide) (fun h4 tk4 rl rus pss at2 S4 lr hn hg hat => ?_)
  dsimp only
  clear S h3
  refine wpAny_execs_cons ?_
  refine law_2 (hA'.mono (by decide)) hh' S4 (if_pos rfl) lr hn hg (fun h5 tk5 x b S5 hW lr5 bst bnb => ?_)
  dsimp only
  clear S4 lr h4
  obtain ⟨bsz, hW⟩ : b ≤ h5.objs.size ∧ _ := ⟨by obtain ⟨_, _, _, _, _, _, _, _, _, W⟩ := hW; exact Nat.le_trans W.lx (Nat.le_of_lt (Heap.lt_size W.dd.at_)), hW⟩
  refine wpAny_execs_cons ?_
  refine law_3 S5 (fun h6 tk6 p0 S6 y6 lp6 => ?_)
  dsimp only
  have hb := S5.hb
  have hM3 : ∀ a ∈ [h₀.objs.size], a < h₀.objs.size + 3 ∨ h5.get? a = none := fun a q => .inl (by rw [List.mem_singleton.mp q]; exact Nat.lt_add_of_pos_right (by decide))
  have hMb : ∀ a ∈ [h₀.objs.size], a < b ∨ h5.get? a = none := fun a q => .inl (by rw [List.mem_singleton.mp q]; exact Nat.lt_trans (Nat.lt_of_le_of_lt (Nat.le_add_right _ 2) hb.1) bst)
  refine wpAny_execs_cons ?_
  refine law_4 (hA'.mono (by decide)) hh' S6 (m := fun y => if y = "plain" then some (.ref p0) else if y = "whole" then some (.ref x) else if y = "rows" then some (.ref rl) else m y) (by rfl) (by rfl) (by rfl) (lr5.ext y6 hM3) (lp6.mono bsz) hn hg
    (let ⟨a1, a2, a3, a4, a5, a6, a7, a8, a9, W⟩ := hW; ⟨a1, a2, a3, a4, a5, a6, a7, a8, a9, W.ext y6 hMb⟩) bst bnb (fun h7 tk7 m7 kv7 pl X7 mw7 mp7 => ?_)
  dsimp only
  clear S5 S6 y6 lp6 lr5 hW hM3 hMb hb bsz
  refine wpAny_execs_cons ?_
  refine law_5 (hA'.mono (by decide)) hh' F' X7 mw7 mp7 (fun h8 tk8 m8 kv8 X8 mw8 mp8 => ?_)
  dsimp only
  clear X7 mw7 mp7
  refine wpAny_execs_cons ?_
  refine law_6 (hA'.mono (by decide)) hh' X8 mp8 (fun h9 tk9 kr us9 X9 lk9 => ?_)
  dsimp only
  clear X8
  refine wpAny_execs_cons ?_
  refine law_7 (hA'.mono (by decide)) hh' X9 ((if_neg (by decide)).trans mw8) ((if_neg (by decide)).trans mp8) (fun h10 gn10 tk10 X10 b10 e10 => ?_)
  dsimp only
  replace lk9 := lk9.ext e10 (by simp)
  clear X9 e10
  refine wpAny_execs_cons ?_
  refine law_8 (hA'.mono (by decide)) hh' X10 ((if_neg (by decide)).trans mw8) ((if_neg (by decide)).trans mp8) (if_pos rfl) lk9 (fun h11 gn11 tk11 d11 X11 b11 => ?_)
  dsimp only
  clear X10 lk9
  refine wpAny_execs_cons ?_
  refine law_9 (hA'.mono (by decide)) hh' X11 ((if_neg (by decide)).trans mw8) (fun h12 gn12 tk12 o12 C12 b12 => ?_)
  dsimp only
  refine wpAny_execs_cons ?_
  refine law_10 (hA'.mono (by decide)) hh' X11 C12 (if_pos rfl) (fun h13 tk13 X13 => ?_)
  dsimp only
  clear X11 C12
  refine wpAny_execs_cons ?_
  refine law_11 (hA'.mono (by decide)) hh' F' X13 ((if_neg (by decide)).trans ((if_neg (by decide)).trans mw8)) ((if_neg (by decide)).trans ((if_neg (by decide)).trans mp8)) (by omega) (fun h14 gn14 tk14 k14 X14 b14 => ?_)
  dsimp only
  clear X13
  refine wpAny_execs_cons ?_
  refine law_12 (hA'.mono (by decide)) hh' F' X14 (fun h15 tk15 X15 => ?_)
  exact hR h15 gn14 tk15 d11 X15.D.ext (fun q => b14 (b12 (b11 (b10 q))))
end
end Mine
end
section
open PySem PySem.W PySem.W.X PyProof.Rows PySem.Calls
set_option maxRecDepth 100000
set_option maxHeartbeats 1600000
namespace Mine
noncomputable def K2 (P : Params) : Frag := (481, tableObj #[]) :: (259, tableObj #[]) :: (4, { cls := .type "module", dict := some 0, data := .plain }) :: hd.heap_39 P
def keys2 : List Addr := 481 :: 259 :: 4 :: [2, 3, 15, 17, 18, 20, 21, 22, 25, 30, 31, 32, 34, 35, 37, 38, 39, 40, 41, 42, 45, 52, 53, 54, 57, 64, 65, 66, 76, 78, 79, 81, 82, 83, 84, 85, 86, 87, 90, 91, 92, 94, 95, 97, 98, 106, 107, 109, 110, 112, 113, 114, 116, 117, 119, 120, 121, 123, 124, 126, 127, 128, 129, 131, 132, 134, 135, 136, 138, 139, 141, 142, 143, 145, 146, 148, 149, 150, 152, 153, 155, 156, 157, 159, 160, 162, 163, 164, 165, 166, 167, 168, 171, 178, 180, 181, 183, 184, 185, 187, 188, 190, 191, 192, 194, 195, 197, 198, 199, 201, 202, 204, 205, 206, 207, 209, 210, 212, 213, 214, 215, 216, 219, 221, 222, 224, 225, 226, 233, 234, 236, 237, 239, 240, 241, 242, 243, 244, 245, 248, 251, 256, 257, 258, 260, 261, 263, 264, 265, 266, 268, 269, 271, 272, 273, 274, 276, 277, 279, 280, 281, 282, 284, 285, 287, 288, 289, 290, 292, 293, 295, 296, 297, 298, 299, 301, 302, 304, 305, 306, 307, 309, 310, 312, 313, 314, 315, 317, 318, 320, 321, 322, 323, 325, 326, 328, 329, 330, 331, 332, 334, 335, 337, 338, 339, 340, 342, 343, 345, 346, 347, 348, 350, 351, 353, 354, 355, 357, 358, 360, 361, 362, 364, 365, 367, 368, 369, 370, 372, 373, 375, 376, 377, 379, 380, 382, 383, 384, 386, 387, 389, 390, 391, 392, 393, 395, 396, 398, 399, 400, 402, 403, 405, 406, 407, 409, 410, 412, 413, 414, 416, 417, 419, 420, 421, 423, 424, 426, 427, 428, 430, 431, 433, 434, 435, 436, 437, 440, 443, 448, 449, 450, 452, 453, 455, 456, 457, 459, 460, 462, 463, 464, 465, 467, 468, 470, 471, 472, 473, 475, 476, 478, 479, 480, 482, 483, 485, 486, 487, 489, 490, 492, 493, 494, 496, 497, 499, 500, 501, 502, 504, 505, 507, 508, 509, 511, 512, 514, 515, 516, 518, 519, 521, 522, 523, 525, 526, 528, 529, 530, 532, 533, 535, 536, 537, 539, 540, 542, 543, 544, 546, 547, 549, 550, 551, 553, 554, 556, 557, 558, 559, 560, 563, 565, 566, 568, 569, 570, 573, 574, 575, 578, 579, 580, 583, 584, 585, 587, 588, 590, 591, 592, 594, 595, 597, 598, 599, 602, 603]
theorem keys2_eq : ∀ P, keys2 = (K2 P).map (·.1) := fun _ => by kernel_rfl
theorem tables_at {w : World} {h : Heap} (K : (KK w).In h) : ∀ a ∈ tabs, isCodeTable h a := fun a q => by
  unfold tabs at q
  rcases List.mem_cons.mp q with rfl | q
  · exact ⟨485, _, _, K 485 _ (by rfl), by rfl, by rfl, by rfl⟩
  · rw [List.mem_singleton.mp q]; exact ⟨263, _, _, K 263 _ (by rfl), by rfl, by rfl, by rfl⟩
theorem oldK_of {w : World} {h h' : Heap} (K : (KK w).In h) (y : Ext [] h h') : OldK h h' := by
  refine ⟨fun b o e => ?_, fun b o e => y.there b o e⟩
  rcases y.keep b o e (fun q => nomatch q) with z | ⟨ht, ps, more, rfl, z, _⟩
  · exact .inl z
  · exact .inr (.inl ⟨tables_at K b ht, rfl, ps, more, rfl, z⟩)
theorem no4 (w : World) : ∀ p ∈ (KK w).map (·.1), p ≠ 4 := by
  have e : ((KK w).map (·.1)).all (fun p => decide (p ≠ 4)) = true := by kernel_rfl
  intro p hp
  simpa using List.all_eq_true.mp e p hp
theorem lookup_mem {K : Frag} {a : Addr} {o : Obj} (e : K.lookup a = some o) : a ∈ K.map (·.1) := by
  induction K with
  | nil => cases e
  | cons x l ih =>
    obtain ⟨b, ob⟩ := x
    rw [List.lookup_cons] at e
    by_cases q : (a == b) = true
    · have : a = b := by simpa using q
      subst this; exact .head _
    · simp only [q] at e
      exact .tail _ (ih e)
theorem topH_of {w : World} {h : Heap} {mg mb : Str → Option Value} (X : (K2 w.params).In h) (g : h.Ns mainGlobals mg) (b : h.Ns builtinsNs mb) (hb : ∀ x : Str, x ≠ "__name__" → mb x = bootBuiltins x) (lim : h.NoLimit) : TopH w h where
  K := fun a o e => by
    have h1 := keys_low w a o e
    have h4 := no4 w a (lookup_mem e)
    have n1 : a ≠ 481 := fun q => h1.2 (q ▸ .head _)
    have n2 : a ≠ 259 := fun q => h1.2 (q ▸ .tail _ (.head _))
    refine X a o ?_
    unfold K2
    rw [List.lookup_cons, List.lookup_cons, List.lookup_cons, show (a == 481) = false from beq_false_of_ne n1, show (a == 259) = false from beq_false_of_ne n2, show (a == 4) = false from beq_false_of_ne h4]
    exact e
  g := ⟨mg, g⟩
  b := ⟨mb, b, hb⟩
  lim := lim
  tab := fun a q => by
    unfold tabs at q
    rcases List.mem_cons.mp q with rfl | q
    · exact ⟨#[], X 481 _ (by rfl), trivial⟩
    · rw [List.mem_singleton.mp q]; exact ⟨#[], X 259 _ (by rfl), trivial⟩
  bi := ⟨_, X 4 _ (by rfl), rfl, rfl, rfl⟩
theorem fin_law {w : World} {s₁ : Shared} {mg mb : Str → Option Value} {c : ClaimW} {cl : Str → Option Addr} {mean : ExcName → Option Value} {args : List WData} {fa sc : Addr} {svs : Array Value} {ns : List Int}
    (X : (K2 w.params).In s₁.heap) (g : s₁.heap.Ns mainGlobals mg) (b : s₁.heap.Ns builtinsNs mb) (hb : ∀ x : Str, x ≠ "__name__" → mb x = bootBuiltins x) (lim : s₁.heap.NoLimit)
    (hfa : mg "law" = some (.ref fa)) (hg : s₁.gens = #[]) (hl : s₁.heap.IsList sc svs) (hi : IntsAre svs.toList ns) (hz : svs.size ≤ 1000) (hr : ∀ cls, c.raises args cls = false) (hp : c.post args (.bool true) args = true) :
    codeAny (model P w) callerA (.call (.ref fa) ⟨[.ref sc], []⟩) (GoodWG c cl mean args s₁) s₁ := by
  have T := topH_of X g b hb lim
  have e : nsIn (K2 w.params) mainGlobals "law" = some (some (.ref 603)) := by kernel_rfl
  have hm := mg_of X g e
  rw [hfa] at hm
  cases hm
  refine law_spec (ns := ns) ⟨by decide, by decide⟩ rfl rfl T hl hi hz fun h' gn' tk d' y bg => ?_
  exact ⟨.inl ⟨_, _, [], rfl, hr, ReadsW.bool true, hp, fun _ => ⟨List.nodup_nil, fun _ hm => (nomatch hm)⟩⟩, oldK_of T.K y, rfl, bg fun x q => by rw [hg] at q; simp at q⟩
end Mine
end
section
open PySem PySem.W PySem.W.X PyProof.Rows PySem.Calls
set_option maxRecDepth 100000
set_option maxHeartbeats 0
theorem PySem.Challenge.cw_bf0059_01_holds : PySem.Challenge.rw_bf0059_01.Holds := by
  w_on
  o_law
  o_head (PySem.W.kHook Mine.K2 Mine.keys2 Mine.keys2_eq)
  case hw => w_witness2
  k_fill
  intro w s₀ s₁ mg mb G Y fa o pm cd doc dV kV ho hd hcd hD hmg hg args vals as hpre hlay hrd hwl hlo
  have KX := kIn_of Y
  refine Ground.open G ?_
  intro T B D TE TW
  clear hd hcd hD TE TW B
  wrow_args hpre hlay hrd hwl hlo
  all_goals (
    first | refine callC_kw (enter_call ?_) | refine enter_call ?_ | refine callC_kw (enter_callW ?_) | refine enter_callW ?_ | w_how)
  w_top on
  rename_i zs _ _ _ _ _ _ _ sc us _ hL _ _ _ hI _ hc _
  refine Mine.fin_law (ns := zs) KX T.g T.b T.builtins T.nolimit hmg hg hL (by simpa using hI) ?_ (fun _ => rfl) ?_
  · have := Mine.ia_len hI
    rw [List.size_toArray]
    omega
  · first | rfl | wrow_post
end
