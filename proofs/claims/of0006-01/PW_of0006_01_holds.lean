import PyProof.Rows.All
import Wide.All
import OpenK.AllK
import Wide.FinOn
import PySem.Challenge.RW_of0006_01
open PySem PySem.W PyProof.Rows
set_option Elab.async false
set_option compiler.extract_closed false
set_option genInjectivity false
set_option maxRecDepth 100000
set_option maxHeartbeats 8000000
namespace Mine
open_top hd for PySem.Challenge.rw_of0006_01
end Mine

open PySem.Calls
set_option maxRecDepth 100000
set_option maxHeartbeats 400000
namespace Mine

/-- the symbolic state within one frame -/
structure Sy (base : Heap) (s₀ : Shared) (Z : List Addr) (g : Heap) (fr : List Addr) (L : Addr) (vars : List (Str × Value)) (news : List (Addr × Obj)) (s : Shared) : Prop where
  gens : s.gens = s₀.gens
  os : s.os = s₀.os
  ns : ∃ m, s.heap.Ns L m ∧ ∀ p ∈ vars, m p.1 = some p.2
  vd : (vars.map (·.1)).Nodup
  keep : ∀ b o, g.get? b = some o → s.heap.get? b = some o
  off : ∀ b ∈ L :: fr, g.get? b = none
  led : ∀ p ∈ news, s.heap.get? p.1 = some p.2 ∧ p.1 ∉ L :: fr ∧ g.get? p.1 = none
  nd : (news.map (·.1)).Nodup
  up : ∀ b ∈ fr, ∀ o, s₀.heap.get? b = some o → ∃ sl, s.heap.get? b = some { o with slots := sl }
  nL : L ∉ fr
  fr0 : ∀ b ∈ fr, ∃ o, s₀.heap.get? b = some o ∧ ∀ vs, o.data ≠ .fields vs
  gb : base.StaysIn g
  gs : ∀ b o, s₀.heap.get? b = some o → b ∉ Z → b ∉ fr → g.get? b = some o

inductive SetV (x : Str) (v : Value) : List (Str × Value) → List (Str × Value) → Prop
  | nil : SetV x v [] [(x, v)]
  | hit {u r} : SetV x v ((x, u) :: r) ((x, v) :: r)
  | skip {y u r r'} : y ≠ x → SetV x v r r' → SetV x v ((y, u) :: r) ((y, u) :: r')

inductive SetN (a : Addr) (o o' : Obj) : List (Addr × Obj) → List (Addr × Obj) → Prop
  | hit {r} : SetN a o o' ((a, o) :: r) ((a, o') :: r)
  | skip {p r r'} : SetN a o o' r r' → SetN a o o' (p :: r) (p :: r')

theorem SetN.adr {a : Addr} {o o' : Obj} {n n' : List (Addr × Obj)} (h : SetN a o o' n n') : n'.map (·.1) = n.map (·.1) := by
  induction h with
  | hit => rfl
  | skip _ ih => simp only [List.map_cons, ih]
theorem SetN.mem {a : Addr} {o o' : Obj} {n n' : List (Addr × Obj)} (h : SetN a o o' n n') : (a, o) ∈ n := by
  induction h with
  | hit => exact .head _
  | skip _ ih => exact .tail _ ih
theorem SetN.mem' {a : Addr} {o o' : Obj} {n n' : List (Addr × Obj)} (h : SetN a o o' n n') : (a, o') ∈ n' := by
  induction h with
  | hit => exact .head _
  | skip _ ih => exact .tail _ ih
theorem SetN.of {a : Addr} {o o' : Obj} {n n' : List (Addr × Obj)} (h : SetN a o o' n n') (nd : (n.map (·.1)).Nodup) :
    ∀ p ∈ n', p = (a, o') ∨ (p ∈ n ∧ p.1 ≠ a) := by
  induction h with
  | @hit r =>
    intro p hp
    rcases List.mem_cons.mp hp with rfl | hp
    · exact .inl rfl
    · refine .inr ⟨.tail _ hp, fun e => ?_⟩
      simp only [List.map_cons, List.nodup_cons] at nd
      exact nd.1 (e ▸ List.mem_map_of_mem hp)
  | @skip q r r' hs ih =>
    intro p hp
    simp only [List.map_cons, List.nodup_cons] at nd
    rcases List.mem_cons.mp hp with rfl | hp
    · refine .inr ⟨.head _, fun e => nd.1 ?_⟩
      rw [e]; exact List.mem_map_of_mem (f := (·.1)) hs.mem
    · rcases ih nd.2 p hp with e | ⟨e1, e2⟩
      · exact .inl e
      · exact .inr ⟨.tail _ e1, e2⟩

theorem SetV.names {x : Str} {v : Value} {l l' : List (Str × Value)} (h : SetV x v l l') : ∀ y ∈ l'.map (·.1), y = x ∨ y ∈ l.map (·.1) := by
  induction h with
  | nil => intro y hy; simp only [List.map_cons, List.map_nil, List.mem_singleton] at hy; exact .inl hy
  | hit => intro y hy; exact .inr hy
  | skip _ _ ih =>
    intro y hy
    simp only [List.map_cons, List.mem_cons] at hy ⊢
    rcases hy with e | e
    · exact .inr (.inl e)
    · rcases ih y e with e | e
      · exact .inl e
      · exact .inr (.inr e)
theorem SetV.of {x : Str} {v : Value} {l l' : List (Str × Value)} (h : SetV x v l l') (nd : (l.map (·.1)).Nodup) :
    (l'.map (·.1)).Nodup ∧ ∀ p ∈ l', p = (x, v) ∨ (p ∈ l ∧ p.1 ≠ x) := by
  induction h with
  | nil => exact ⟨by simp, fun p hp => .inl (List.mem_singleton.mp hp)⟩
  | hit =>
    refine ⟨nd, fun p hp => ?_⟩
    simp only [List.map_cons, List.nodup_cons] at nd
    rcases List.mem_cons.mp hp with rfl | hp
    · exact .inl rfl
    · exact .inr ⟨.tail _ hp, fun e => nd.1 (e ▸ List.mem_map_of_mem hp)⟩
  | @skip y u r r' hy hs ih =>
    simp only [List.map_cons, List.nodup_cons] at nd ⊢
    obtain ⟨i1, i2⟩ := ih nd.2
    refine ⟨⟨fun hm => ?_, i1⟩, fun p hp => ?_⟩
    · rcases hs.names y hm with e | e
      · exact hy e
      · exact nd.1 e
    · rcases List.mem_cons.mp hp with rfl | hp
      · exact .inr ⟨.head _, hy⟩
      · rcases i2 p hp with e | ⟨e1, e2⟩
        · exact .inl e
        · exact .inr ⟨.tail _ e1, e2⟩

section
variable {base : Heap} {s₀ : Shared} {g : Heap} {Z fr : List Addr} {L : Addr} {vars vars' : List (Str × Value)} {news news' : List (Addr × Obj)} {s : Shared}

theorem Sy.tk (H : Sy base s₀ Z g fr L vars news s) (k : Nat) : Sy base s₀ Z g fr L vars news { s with toks := k } :=
  ⟨H.gens, H.os, H.ns, H.vd, H.keep, H.off, H.led, H.nd, H.up, H.nL, H.fr0, H.gb, H.gs⟩

theorem Sy.frs (H : Sy base s₀ Z g fr L vars news s) : ∀ b ∈ fr, ∃ o, s.heap.get? b = some o ∧ ∀ vs, o.data ≠ .fields vs := fun b hb => by
  obtain ⟨o, ho, hd⟩ := H.fr0 b hb
  obtain ⟨sl, h⟩ := H.up b hb o ho
  exact ⟨_, h, hd⟩

theorem Sy.push (H : Sy base s₀ Z g fr L vars news s) (o : Obj) (k : Nat) (ho : o.isFreed = false := by rfl) :
    Sy base s₀ Z g fr L vars ((s.heap.objs.size, o) :: news) { s with heap := s.heap.push o, toks := k } := by
  obtain ⟨m, hm, hv⟩ := H.ns
  have hnone : s.heap.get? s.heap.objs.size = none := Heap.get?_none_of_le (Nat.le_refl _)
  refine ⟨H.gens, H.os, ⟨m, hm.push o, hv⟩, H.vd, fun b ob e => Heap.get?_push_of_some o (H.keep b ob e), H.off, fun p hp => ?_, ?_, fun b hb ob e => ?_, H.nL, H.fr0, H.gb, H.gs⟩
  · rcases List.mem_cons.mp hp with rfl | hp
    · refine ⟨Heap.get?_push_size _ ho, fun hm' => ?_, ?_⟩
      · rcases List.mem_cons.mp hm' with e | e
        · exact absurd hm.lt (by show ¬ L < s.heap.objs.size; rw [← e]; exact Nat.lt_irrefl _)
        · obtain ⟨ob, hob, _⟩ := H.frs _ e
          exact absurd (Heap.lt_size hob) (Nat.lt_irrefl _)
      · cases q : g.get? s.heap.objs.size with
        | none => rfl
        | some ob => rw [H.keep _ _ q] at hnone; cases hnone
    · exact ⟨Heap.get?_push_of_some o (H.led p hp).1, (H.led p hp).2⟩
  · rw [List.map_cons, List.nodup_cons]
    refine ⟨fun hm' => ?_, H.nd⟩
    obtain ⟨p, hp, e⟩ := List.mem_map.mp hm'
    exact absurd (Heap.lt_size (H.led p hp).1) (by rw [e]; exact Nat.lt_irrefl _)
  · obtain ⟨sl, h⟩ := H.up b hb ob e
    exact ⟨sl, Heap.get?_push_of_some o h⟩

/-- kept: all but S; the frames fr up to their slots -/
noncomputable def Ext (S fr : List Addr) (h h' : Heap) : Prop := ∀ b o, h.get? b = some o → b ∉ S → (b ∉ fr → h'.get? b = some o) ∧ ∃ sl, h'.get? b = some { o with slots := sl }

theorem Ext.refl (S fr : List Addr) (h : Heap) : Ext S fr h h := fun _ o e _ => ⟨fun _ => e, o.slots, e⟩
theorem Ext.trans {S fr : List Addr} {h h₁ h₂ : Heap} (x : Ext S fr h h₁) (y : Ext S fr h₁ h₂) : Ext S fr h h₂ := fun b o e hS => by
  obtain ⟨x1, sl, x2⟩ := x b o e hS
  refine ⟨fun hf => (y b o (x1 hf) hS).1 hf, ?_⟩
  obtain ⟨_, sl', y2⟩ := y b _ x2 hS
  exact ⟨sl', y2⟩
theorem Ext.of_keeps {S fr : List Addr} {h h' : Heap} (k : ∀ b o, h.get? b = some o → h'.get? b = some o) : Ext S fr h h' := fun b o e _ => ⟨fun _ => k b o e, o.slots, k b o e⟩
theorem Ext.mono {S S' fr : List Addr} {h h' : Heap} (x : Ext S fr h h') (hs : ∀ a ∈ S, a ∈ S') : Ext S' fr h h' := fun b o e n => x b o e fun q => n (hs b q)

theorem Sy.ext (H : Sy base s₀ Z g fr L vars news s) {S : List Addr} {s' : Shared} (hx : Ext S (L :: fr) s.heap s'.heap) (hg : s'.gens = s.gens) (ho : s'.os = s.os) (hS : ∀ a ∈ S, a ∈ news.map (·.1))
    (hl : ∀ p ∈ news', s'.heap.get? p.1 = some p.2 ∧ p.1 ∈ news.map (·.1)) (hnd : (news'.map (·.1)).Nodup) : Sy base s₀ Z g fr L vars news' s' := by
  have off : ∀ a ∈ news.map (·.1), a ∉ L :: fr ∧ g.get? a = none := fun a ha => by
    obtain ⟨p, hp, rfl⟩ := List.mem_map.mp ha
    exact (H.led p hp).2
  obtain ⟨m, ⟨oL, es, ep, hL, hd, r⟩, hv⟩ := H.ns
  refine ⟨hg.trans H.gens, ho.trans H.os, ⟨m, ?_, hv⟩, H.vd, fun b o e => ?_, H.off, fun p hp => ⟨(hl p hp).1, off _ (hl p hp).2⟩, hnd, fun b hb o e => ?_, H.nL, H.fr0, H.gb, H.gs⟩
  · obtain ⟨_, sl, e⟩ := hx L oL hL fun q => (off L (hS L q)).1 (.head _)
    exact ⟨_, es, ep, e, hd, r⟩
  · refine (hx b o (H.keep b o e) fun q => ?_).1 fun q => ?_
    · rw [(off b (hS b q)).2] at e; cases e
    · rw [H.off b q] at e; cases e
  · obtain ⟨sl, e'⟩ := H.up b hb o e
    obtain ⟨_, sl', e''⟩ := hx b _ e' fun q => (off b (hS b q)).1 (.tail _ hb)
    exact ⟨sl', e''⟩

theorem Sy.set (H : Sy base s₀ Z g fr L vars news s) {a : Addr} {o o' : Obj} {h' : Heap} {k : Nat} (U : SetN a o o' news news') (hs : Heap.SameBut a s.heap h') (ho : h'.get? a = some o') :
    Sy base s₀ Z g fr L vars news' { s with heap := h', toks := k } := by
  refine H.ext (S := [a]) (fun b ob e hb => ?_) rfl rfl (fun b hb => ?_) (fun p hp => ?_) (by rw [U.adr]; exact H.nd)
  · have := (hs.2 b fun q => hb (q ▸ List.mem_singleton.mpr rfl)).trans e
    exact ⟨fun _ => this, ob.slots, this⟩
  · rw [List.mem_singleton.mp hb]; exact List.mem_map_of_mem (f := (·.1)) U.mem
  · rcases U.of H.nd p hp with rfl | ⟨hp, hne⟩
    · exact ⟨ho, List.mem_map_of_mem (f := (·.1)) U.mem⟩
    · exact ⟨(hs.2 _ hne).trans (H.led p hp).1, List.mem_map_of_mem hp⟩

theorem Sy.upd (H : Sy base s₀ Z g fr L vars news s) {a : Addr} {o o' : Obj} {f : Obj → Obj} {k : Nat} (U : SetN a o o' news news') (e : f o = o') (hf : o'.isFreed = false := by rfl) :
    Sy base s₀ Z g fr L vars news' { s with heap := s.heap.update a f, toks := k } :=
  H.set U (Heap.SameBut.update ..) (e ▸ Heap.get?_update_self f (H.led _ U.mem).1 (e ▸ hf))

/-- nothing but new objects -/
theorem Sy.grown (H : Sy base s₀ Z g fr L vars news s) {h' : Heap} {k : Nat} (hk : ∀ b o, s.heap.get? b = some o → h'.get? b = some o) : Sy base s₀ Z g fr L vars news { s with heap := h', toks := k } :=
  H.ext (S := []) (Ext.of_keeps hk) rfl rfl (fun _ h => nomatch h) (fun p hp => ⟨hk _ _ (H.led p hp).1, List.mem_map_of_mem hp⟩) H.nd

theorem Sy.sub (H : Sy base s₀ Z g fr L vars news s) (hn : news'.Sublist news) : Sy base s₀ Z g fr L vars news' s :=
  H.ext (S := []) (Ext.refl _ _ _) rfl rfl (fun _ h => nomatch h) (fun p hp => ⟨(H.led p (hn.mem hp)).1, List.mem_map_of_mem (hn.mem hp)⟩) (H.nd.sublist (hn.map _))
theorem Sy.perm (H : Sy base s₀ Z g fr L vars news s) (hn : news'.Perm news) : Sy base s₀ Z g fr L vars news' s :=
  H.ext (S := []) (Ext.refl _ _ _) rfl rfl (fun _ h => nomatch h) (fun p hp => ⟨(H.led p (hn.mem_iff.mp hp)).1, List.mem_map_of_mem (hn.mem_iff.mp hp)⟩) ((hn.map (·.1)).nodup_iff.mpr H.nd)
theorem Sy.vsub (H : Sy base s₀ Z g fr L vars news s) (hn : vars'.Sublist vars) : Sy base s₀ Z g fr L vars' news s :=
  let ⟨m, hm, hv⟩ := H.ns
  ⟨H.gens, H.os, ⟨m, hm, fun p hp => hv p (hn.mem hp)⟩, H.vd.sublist (hn.map _), H.keep, H.off, H.led, H.nd, H.up, H.nL, H.fr0, H.gb, H.gs⟩

theorem Sy.store (H : Sy base s₀ Z g fr L vars news s) {x : Str} {v : Value} {h' : Heap} {k : Nat} {m : Str → Option Value} (hm : s.heap.Ns L m) (hn : h'.Ns L fun y => if y = x then some v else m y) (hs : Heap.SameBut L s.heap h') (V : SetV x v vars vars') :
    Sy base s₀ Z g fr L vars' news { s with heap := h', toks := k } := by
  obtain ⟨m', hm', hv⟩ := H.ns
  obtain rfl : m = m' := hm.eq_nsMap.trans hm'.eq_nsMap.symm
  obtain ⟨v1, v2⟩ := V.of H.vd
  refine ⟨H.gens, H.os, ⟨_, hn, fun p hp => ?_⟩, v1, fun b o e => ?_, H.off, fun p hp => ?_, H.nd, fun b hb o e => ?_, H.nL, H.fr0, H.gb, H.gs⟩
  · rcases v2 p hp with rfl | ⟨hp, hne⟩
    · simp
    · simp only [if_neg hne]; exact hv p hp
  · refine (hs.2 b fun q => ?_).trans (H.keep b o e)
    rw [q, H.off L (.head _)] at e; cases e
  · exact ⟨(hs.2 _ fun q => (H.led p hp).2.1 (q ▸ .head _)).trans (H.led p hp).1, (H.led p hp).2⟩
  · obtain ⟨sl, e'⟩ := H.up b hb o e
    exact ⟨sl, (hs.2 b fun q => H.nL (q ▸ hb)).trans e'⟩

theorem Sy.stays (H : Sy base s₀ Z g fr L vars news s) : base.StaysIn s.heap := fun b o e => H.keep b o (H.gb b o e)
/-- all else may be frozen -/
theorem Sy.reground (H : Sy base s₀ Z g fr L vars news s) : Sy base s₀ Z (hideAll s.heap (news.map (·.1) ++ L :: fr)) fr L vars news s := by
  have up : ∀ b o, g.get? b = some o → (hideAll s.heap (news.map (·.1) ++ L :: fr)).get? b = some o := fun b o e => hideAll_get _ (H.keep b o e) fun hm => by
    rcases List.mem_append.mp hm with hm | hm
    · obtain ⟨p, hp, rfl⟩ := List.mem_map.mp hm
      rw [(H.led p hp).2.2] at e; cases e
    · rw [H.off b hm] at e; cases e
  exact ⟨H.gens, H.os, H.ns, H.vd, fun b o e => of_hideAll _ e, fun b hb => hideAll_none _ (List.mem_append_right _ hb), fun p hp => ⟨(H.led p hp).1, (H.led p hp).2.1, hideAll_none _ (List.mem_append_left _ (List.mem_map_of_mem hp))⟩,
    H.nd, H.up, H.nL, H.fr0, fun b o e => up b o (H.gb b o e), fun b o e h1 h2 => up b o (H.gs b o e h1 h2)⟩
theorem Sy.frozen (H : Sy base s₀ Z g fr L vars news s) (hn : news'.Sublist news) {a : Addr} {o : Obj} (hm : (a, o) ∈ news) (ha : a ∉ news'.map (·.1)) : (hideAll s.heap (news'.map (·.1) ++ L :: fr)).get? a = some o :=
  let _ := hn
  hideAll_get _ (H.led _ hm).1 fun q => (List.mem_append.mp q).elim ha (H.led _ hm).2.1
theorem Sy.frozen_g (H : Sy base s₀ Z g fr L vars news s) {a : Addr} {o : Obj} (hm : g.get? a = some o) : (hideAll s.heap (news.map (·.1) ++ L :: fr)).get? a = some o :=
  hideAll_get _ (H.keep _ _ hm) fun hm' => by
    rcases List.mem_append.mp hm' with q | q
    · obtain ⟨p, hp, rfl⟩ := List.mem_map.mp q
      rw [(H.led p hp).2.2] at hm; cases hm
    · rw [H.off a q] at hm; cases hm

/-- the library's two facts over nothing, all objects among the entries; and the way back -/
noncomputable def heap0 : Heap := ⟨#[], {}⟩
theorem heap0_get (b : Addr) : heap0.get? b = none := by simp [heap0, Heap.get?]
theorem Sy.lib (H : Sy base s₀ Z g fr L vars news s) : ∃ m all, Fr heap0 L s.heap m ∧ News heap0 L s.heap all ∧
    (∀ s', s'.gens = s.gens → s'.os = s.os → Fr heap0 L s'.heap m → News heap0 L s'.heap all → Sy base s₀ Z g fr L vars news s') ∧
    (∀ s' d o, s'.gens = s.gens → s'.os = s.os → s.heap.get? d = none → Fr heap0 L s'.heap m → News heap0 L s'.heap ((d, o) :: all) → Sy base s₀ Z g fr L vars ((d, o) :: news) s') := by
  obtain ⟨m, hm, hv⟩ := H.ns
  obtain ⟨all, h1, h2⟩ : ∃ all : List (Addr × Obj), (∀ p ∈ all, s.heap.get? p.1 = some p.2 ∧ p.1 ≠ L) ∧ ∀ b o, s.heap.get? b = some o → b ≠ L → (b, o) ∈ all := by
    refine ⟨(List.range s.heap.objs.size).filterMap fun b => if b = L then none else (s.heap.get? b).map fun o => (b, o), fun p hp => ?_, fun b o e hb => ?_⟩
    · obtain ⟨b, _, hb⟩ := List.mem_filterMap.mp hp
      split at hb
      · cases hb
      · obtain ⟨o, ho, rfl⟩ := Option.map_eq_some_iff.mp hb
        exact ⟨ho, by assumption⟩
    · exact List.mem_filterMap.mpr ⟨b, List.mem_range.mpr (Heap.lt_size e), by rw [if_neg hb, e]; rfl⟩
  have keep0 : ∀ (s' : Shared) (news' : List (Addr × Obj)), News heap0 L s'.heap (news' ++ all) → Fr heap0 L s'.heap m → s'.gens = s.gens → s'.os = s.os → Sy base s₀ Z g fr L vars news s' ∧ ∀ b o, s.heap.get? b = some o → b ≠ L → s'.heap.get? b = some o := by
    intro s' news' N' F' e1 e2
    have k : ∀ b o, s.heap.get? b = some o → b ≠ L → s'.heap.get? b = some o := fun b o e hb => (N' _ (List.mem_append_right _ (h2 b o e hb))).1
    refine ⟨⟨e1.trans H.gens, e2.trans H.os, ⟨m, F'.ns, hv⟩, H.vd, fun b o e => k b o (H.keep b o e) fun q => ?_, H.off, fun p hp => ⟨k _ _ (H.led p hp).1 fun q => (H.led p hp).2.1 (q ▸ .head _), (H.led p hp).2⟩, H.nd, fun b hb o e => ?_, H.nL, H.fr0, H.gb, H.gs⟩, k⟩
    · rw [q, H.off L (.head _)] at e; cases e
    · obtain ⟨sl, q⟩ := H.up b hb o e
      exact ⟨sl, k _ _ q fun z => H.nL (z ▸ hb)⟩
  refine ⟨m, all, ⟨hm, (fun b o e => by rw [heap0_get] at e; cases e), Nat.zero_le _⟩, fun p hp => ⟨(h1 p hp).1, (h1 p hp).2, heap0_get _⟩, fun s' e1 e2 F' N' => (keep0 s' [] N' F' e1 e2).1, fun s' d o e1 e2 hd F' N' => ?_⟩
  obtain ⟨H', k⟩ := keep0 s' [(d, o)] N' F' e1 e2
  have hdo := N' (d, o) (.head _)
  have hdn : ∀ b o', s.heap.get? b = some o' → d ≠ b := fun b o' e q => by rw [← q, hd] at e; cases e
  refine ⟨H'.gens, H'.os, H'.ns, H'.vd, H'.keep, H'.off, fun p hp => ?_, ?_, H'.up, H'.nL, H'.fr0, H'.gb, H'.gs⟩
  · rcases List.mem_cons.mp hp with rfl | hp
    · refine ⟨hdo.1, fun q => ?_, ?_⟩
      · rcases List.mem_cons.mp q with q | q
        · exact hdo.2.1 q
        · obtain ⟨o', ho', _⟩ := H.frs _ q
          exact hdn _ _ ho' rfl
      · cases q : g.get? d with
        | none => rfl
        | some o' => exact absurd rfl (hdn _ _ (H.keep _ _ q))
    · exact H'.led p hp
  · rw [List.map_cons, List.nodup_cons]
    refine ⟨fun q => ?_, H'.nd⟩
    obtain ⟨p, hp, e⟩ := List.mem_map.mp q
    exact hdn _ _ (H.led p hp).1 e.symm

theorem Sy.get (H : Sy base s₀ Z g fr L vars news s) {a : Addr} {o : Obj} (hm : (a, o) ∈ news) : s.heap.get? a = some o := (H.led _ hm).1
end
end Mine

set_option maxRecDepth 100000
set_option maxHeartbeats 400000
namespace Mine

/-- what a call finds -/
structure Pre (base : Heap) (A : Around) (fs : List Env) (fr : List Addr) (news : List (Addr × Obj)) (s : Shared) : Prop where
  hh : A.handled = none
  hf : A.frames = some fs
  hfr : fs.filterMap (·.frame) = fr
  hk : ∀ env ∈ fs, env.scope.kind ≠ .module ∧ ∃ b, env.frame = some b
  stays : base.StaysIn s.heap
  fb : ∀ b ∈ fr, base.get? b = none ∧ ∃ o, s.heap.get? b = some o ∧ ∀ vs, o.data ≠ .fields vs
  nb : ∀ p ∈ news, s.heap.get? p.1 = some p.2 ∧ p.1 ∉ fr ∧ base.get? p.1 = none
  nd : (news.map (·.1)).Nodup

theorem funFrames_of {h B : Heap} : ∀ {fs : List Env}, (∀ env ∈ fs, env.scope.kind ≠ .module ∧ ∃ b, env.frame = some b) →
    (∀ b ∈ fs.filterMap (·.frame), B.get? b = none ∧ ∃ o, h.get? b = some o ∧ ∀ vs, o.data ≠ .fields vs) → h.FunFrames B fs
  | [], _, _ => trivial
  | env :: fs, hk, hb => by
    obtain ⟨k1, b, k2⟩ := hk env (.head _)
    have hb' := hb b (List.mem_filterMap.mpr ⟨env, .head _, k2⟩)
    obtain ⟨n, o, ho, hd⟩ := hb'
    refine ⟨k1, ⟨b, o, k2, n, ho, hd⟩, funFrames_of (fun e he => hk e (.tail _ he)) fun c hc => hb c ?_⟩
    obtain ⟨e, he, h1⟩ := List.mem_filterMap.mp hc
    exact List.mem_filterMap.mpr ⟨e, .tail _ he, h1⟩

section
variable {base : Heap} {s₀ : Shared} {g : Heap} {Z fr : List Addr} {L : Addr} {vars vars' : List (Str × Value)} {news news' news₀ : List (Addr × Obj)} {s : Shared} {A : Around} {fs : List Env}

theorem Sy.frEnv (H : Sy base s₀ Z g fr L vars news s) : ∀ b ∈ L :: fr, base.get? b = none ∧ ∃ o, s.heap.get? b = some o ∧ ∀ vs, o.data ≠ .fields vs := fun b hb => by
  refine ⟨?_, ?_⟩
  · cases q : base.get? b with
    | none => rfl
    | some o => have := H.off b hb; rw [H.gb b o q] at this; cases this
  · rcases List.mem_cons.mp hb with rfl | hb
    · obtain ⟨m, ⟨o, es, ep, ho, hd, _⟩, _⟩ := H.ns
      exact ⟨o, ho, fun vs q => by rw [hd] at q; cases q⟩
    · exact H.frs b hb

theorem Sy.pre (H : Sy base s₀ Z g fr L vars news s) (P : Pre base A fs fr news₀ s₀) {env : Env} (hfe : env.frame = some L) (hke : env.scope.kind = .function) (hn : news'.Sublist news) :
    Pre base (A.deeper env) (env :: fs) (L :: fr) news' s := by
  refine ⟨P.hh, Around.frames_deeper P.hf, by rw [List.filterMap_cons, hfe, P.hfr], fun e he => ?_, H.stays, H.frEnv, fun p hp => ?_, H.nd.sublist (hn.map _)⟩
  · rcases List.mem_cons.mp he with rfl | he
    · exact ⟨by rw [hke]; decide, L, hfe⟩
    · exact P.hk e he
  · have := H.led p (hn.mem hp)
    refine ⟨this.1, this.2.1, ?_⟩
    cases q : base.get? p.1 with
    | none => rfl
    | some o => have z := this.2.2; rw [H.gb _ o q] at z; cases z

theorem Sy.done (H : Sy base s₀ Z g fr L vars news s) : Ext Z fr s₀.heap s.heap := fun b o e hS => by
  by_cases hb : b ∈ fr
  · exact ⟨fun q => absurd hb q, H.up b hb o e⟩
  · have := H.keep b o (H.gs b o e hS hb)
    exact ⟨fun _ => this, o.slots, this⟩
end

section
variable {prog : Program} {w : World} {base : Heap} {A : Around} {fs : List Env} {Z fr : List Addr} {news : List (Addr × Obj)} {s : Shared} {Q E : Value → Shared → Prop}
  {name qual : Str} {params : Arguments} {body : List Stmt} {scope : Scope} {cl : List (Str × Addr)} {dV kV doc pm cdv ct : Value} {an : Option Addr} {fo : Obj} {f : Addr} {args : List Value} {binds : List (Str × Value)}

theorem lookup_reverse_of_nodup : ∀ {binds : List (Str × Value)}, (binds.map (·.1)).Nodup → ∀ p ∈ binds, binds.reverse.lookup p.1 = some p.2
  | [], _, p, hp => nomatch hp
  | q :: r, nd, p, hp => by
    simp only [List.map_cons, List.nodup_cons] at nd
    rw [List.reverse_cons, List.lookup_append]
    rcases List.mem_cons.mp hp with rfl | hp
    · have : r.reverse.lookup p.1 = none := by
        rw [List.lookup_eq_none_iff]
        intro q hq
        simp only [bne_iff_ne, ne_eq]
        intro e
        exact nd.1 (e ▸ List.mem_map_of_mem (List.mem_reverse.mp hq))
      rw [this]
      obtain ⟨x, v⟩ := p
      simp [List.lookup_cons]
    · rw [lookup_reverse_of_nodup nd.2 p hp]; rfl

theorem enter (P : Pre base A fs fr news s) (hlim : base.NoLimit) (ho : s.heap.get? f = some fo) (hd : fo.data = .func (fnX name qual params body scope cl dV kV doc pm an cdv ct)) (hcd : s.heap.CodeRec cdv qual)
    (hroom : A.depth < recursionLimit) (hbind : BindsTo s (fnX name qual params body scope cl dV kV doc pm an cdv ct) ⟨args, []⟩ binds) (hbd : (binds.map (·.1)).Nodup)
    (h : ∀ L s', Sy base s (news.map (·.1)) (hideAll s.heap (news.map (·.1) ++ fr)) fr L binds news s' →
      wpAny (model prog w) (A.deeper (envX qual scope L f cdv cl)) (execs body (envX qual scope L f cdv cl))
        (fun fl s'' => Q (match fl with | .ret v => v | _ => .none) s'')
        (fun e s'' => wpAny (model prog w) (A.deeper (envX qual scope L f cdv cl)) (leaving (envX qual scope L f cdv cl) e) (fun _ s3 => E e s3) (fun e' s3 => E e' s3) s'') s')
    (hloc : ∀ y ∈ binds, scope.names.lookup y.1 = some .local) (hcell : ∀ x ∈ scope.names, x.2 ≠ .cell)
    (hco : scope.isCoroutine = false := by rfl) (hgen : scope.isGenerator = false := by rfl) (hk : scope.kind = .function := by rfl) : wpAny (model prog w) A (call (.ref f) args) Q E s := by
  refine wpAny_call (codeAny_call_def (fd := fnX name qual params body scope cl dV kV doc pm an cdv ct) (body := body) (binds := binds) hroom ho hd (hlim.keeps P.stays) hcd rfl hbind hcell hloc (fun h₁ hns hk₁ => ?_) hco hgen hk)
  refine h s.heap.objs.size _ ⟨rfl, rfl, ⟨_, hns, lookup_reverse_of_nodup hbd⟩, hbd, fun b o e => hk₁ b o (of_hideAll _ e), fun b hb => ?_, fun p hp => ?_, P.nd, fun b hb o e => ?_, fun hm => ?_, fun b hb => (P.fb b hb).2, fun b o e => ?_, fun b o e h1 h2 => ?_⟩
  · rcases List.mem_cons.mp hb with rfl | hb
    · cases q : (hideAll s.heap (news.map (·.1) ++ fr)).get? s.heap.objs.size with
      | none => rfl
      | some o => exact absurd (Heap.lt_size (of_hideAll _ q)) (Nat.lt_irrefl _)
    · exact hideAll_none _ (List.mem_append_right _ hb)
  · refine ⟨hk₁ _ _ (P.nb p hp).1, fun hm => ?_, hideAll_none _ (List.mem_append_left _ (List.mem_map_of_mem hp))⟩
    rcases List.mem_cons.mp hm with e | hm
    · exact absurd (Heap.lt_size (P.nb p hp).1) (by rw [e]; exact Nat.lt_irrefl _)
    · exact (P.nb p hp).2.1 hm
  · exact ⟨o.slots, hk₁ b o e⟩
  · obtain ⟨_, o, ho', _⟩ := P.fb _ hm
    exact absurd (Heap.lt_size ho') (Nat.lt_irrefl _)
  · refine hideAll_get _ (P.stays b o e) fun hm => ?_
    rcases List.mem_append.mp hm with hm | hm
    · obtain ⟨p, hp, rfl⟩ := List.mem_map.mp hm
      rw [(P.nb p hp).2.2] at e; cases e
    · rw [(P.fb b hm).1] at e; cases e
  · exact hideAll_get _ e fun q => (List.mem_append.mp q).elim h1 h2
end

/-- an exception flies out of a call -/
noncomputable def Flown (S : List Addr) (fs : List Env) (fr : List Addr) (h : Heap) (e : Addr) (cls : Value) (vs : List Value) (post : List (Addr × Obj)) (h' : Heap) : Prop :=
  ∃ B t, (∀ b o, h.get? b = some o → b ∉ S → b ∉ fr → B.get? b = some o) ∧ (∀ p ∈ post, B.get? p.1 = some p.2) ∧ Heap.FlyingW B fs e cls (.ref t) h' ∧ B.get? t = none ∧ h'.TupAt t vs ∧
    ∀ b ∈ fr, ∀ o, h.get? b = some o → (∀ vs, o.data ≠ .fields vs) → ∃ sl, h'.get? b = some { o with slots := sl }

section
variable {M : Model} {base : Heap} {s₀ : Shared} {g : Heap} {Z fr : List Addr} {L : Addr} {vars vars' : List (Str × Value)} {news news' news₀ post post' : List (Addr × Obj)} {s s' : Shared} {A : Around} {fs : List Env}
  {E : Value → Shared → Prop} {Q : Unit → Shared → Prop} {env : Env} {e : Addr} {cls : Value} {vs : List Value}

theorem Sy.ground (H : Sy base s₀ Z g fr L vars news s) {b : Addr} {o : Obj} (e : s₀.heap.get? b = some o) (hS : b ∉ Z) (hf : b ∉ fr) : s.heap.get? b = some o ∧ b ∉ L :: fr ∧ b ∉ news.map (·.1) := by
  have hg := H.gs b o e hS hf
  refine ⟨H.keep b o hg, fun q => ?_, fun q => ?_⟩
  · rw [H.off b q] at hg; cases hg
  · obtain ⟨p, hp, rfl⟩ := List.mem_map.mp q
    rw [(H.led p hp).2.2] at hg; cases hg

theorem leave_raise (P : Pre base A fs fr news₀ s₀) (H : Sy base s₀ Z g fr L vars news s) (hfe : env.frame = some L) (hke : env.scope.kind = .function) (hx : Heap.MadeExcOf s.heap s'.heap e cls vs)
    (hg : s'.gens = s.gens) (ho : s'.os = s.os) (hp : ∀ p ∈ post, p ∈ news)
    (hQ : ∀ s'', s''.gens = s₀.gens → s''.os = s₀.os → Flown Z fs fr s₀.heap e cls vs post s''.heap → Q () s'') :
    wpAny M (A.deeper env) (leaving env (.ref e)) Q E s' := by
  have hB : (hideAll s.heap (L :: fr)).StaysIn s.heap := fun b o q => of_hideAll _ q
  have hFF : s.heap.FunFrames (hideAll s.heap (L :: fr)) (env :: fs) := funFrames_of (fun e he => by
      rcases List.mem_cons.mp he with rfl | he
      · exact ⟨by rw [hke]; decide, L, hfe⟩
      · exact P.hk e he) fun b hb => by
      rw [List.filterMap_cons, hfe, P.hfr] at hb
      exact ⟨hideAll_none _ hb, (H.frEnv b hb).2⟩
  refine wpAny_leaves_madeW (Around.frames_deeper P.hf) hfe hB hFF hx fun h' t x1 x2 x3 x4 => ?_
  refine hQ _ (hg.trans H.gens) (ho.trans H.os) ⟨_, t, fun b o q hS hf => ?_, fun p hp' => ?_, x1, x3, x2, fun b hb o q hd => ?_⟩
  · obtain ⟨q1, q2, _⟩ := H.ground q hS hf
    exact hideAll_get _ q1 q2
  · have := H.led p (hp p hp')
    exact hideAll_get _ this.1 this.2.1
  · obtain ⟨sl, q'⟩ := H.up b hb o q
    obtain ⟨sl', q''⟩ := x4 b _ (hx.keeps _ _ q') hd
    exact ⟨sl', q''⟩

theorem leave_on (P : Pre base A fs fr news₀ s₀) (H : Sy base s₀ Z g fr L vars news s) {S : List Addr} (hfe : env.frame = some L) (hx : Flown S (env :: fs) (L :: fr) s.heap e cls vs post s'.heap)
    (hg : s'.gens = s.gens) (ho : s'.os = s.os) (hS : ∀ a ∈ S, a ∈ news.map (·.1)) (hp : ∀ p ∈ post', p ∈ post ∨ (p ∈ news ∧ p.1 ∉ S))
    (hQ : ∀ s'', s''.gens = s₀.gens → s''.os = s₀.os → Flown Z fs fr s₀.heap e cls vs post' s''.heap → Q () s'') :
    wpAny M (A.deeper env) (leaving env (.ref e)) Q E s' := by
  obtain ⟨B, t, h1, h2, h3, h4, h5, h6⟩ := hx
  refine wpAny_leaves_onW (Around.frames_deeper P.hf) hfe h3 fun h' x1 x2 => ?_
  refine hQ _ (hg.trans H.gens) (ho.trans H.os) ⟨B, t, fun b o q hS' hf => ?_, fun p hp' => ?_, x1, h4, h5.of_slots x2, fun b hb o q hd => ?_⟩
  · obtain ⟨q1, q2, q3⟩ := H.ground q hS' hf
    exact h1 b o q1 (fun z => q3 (hS b z)) q2
  · rcases hp p hp' with q | ⟨q1, q2⟩
    · exact h2 p q
    · exact h1 _ _ (H.led p q1).1 q2 (H.led p q1).2.1
  · obtain ⟨sl, q'⟩ := H.up b hb o q
    obtain ⟨sl', q''⟩ := h6 b (.tail _ hb) _ q' hd
    obtain ⟨sl'', q3⟩ := x2 b _ q'' hd
    exact ⟨sl'', q3⟩
end
end Mine

set_option maxRecDepth 100000
set_option maxHeartbeats 400000
namespace Mine

noncomputable def Seq (M : Model) (A : Around) (env : Env) (rest : List Stmt) (Q : Flow → Shared → Prop) (E : Value → Shared → Prop) : Flow → Shared → Prop :=
  fun f s' => match f with | .next => wpAny M A (execs rest env) Q E s' | f => Q f s'

section
variable {M : Model} {A : Around} {E : Value → Shared → Prop} {s : Shared} {env : Env} {Q : Flow → Shared → Prop} {rest : List Stmt}
theorem seq_next (h : wpAny M A (execs rest env) Q E s) : Seq M A env rest Q E .next s := h
theorem seq_ret {v : Value} (h : Q (.ret v) s) : Seq M A env rest Q E (.ret v) s := h
theorem seq_brk (h : Q .brk s) : Seq M A env rest Q E .brk s := h
theorem seq_nil {f : Flow} (h : Q f s) : Seq M A env [] Q E f s := by
  cases f <;> first | exact wpAny_execs_nil h | exact h
theorem x_cons {st : Stmt} (h : wpAny M A (exec st env) (Seq M A env rest Q E) E s) : wpAny M A (execs (st :: rest) env) Q E s := wpAny_execs_cons h
theorem x_assign {x : Str} {p p' : Pos} {value : Expr} (h : wpAny M A (eval value env) (fun v s₁ => wpAny M A (storeName env x v) (fun _ s₂ => wpAny M A (execs rest env) Q E s₂) E s₁) E s)
    (hs : swapsWith value (some (.Name x p')) p.line env = pure false := by rfl) : wpAny M A (execs (.Assign [.Name x p'] value p :: rest) env) Q E s := x_cons (wpAny_Assign_Name h hs)
theorem x_return {e : Expr} {p : Pos} (h : wpAny M A (eval e env) (fun v s' => Q (.ret v) s') E s) : wpAny M A (execs (.Return (some e) p :: rest) env) Q E s := x_cons (wpAny_Return_some h)
theorem x_if {test : Expr} {body orelse : List Stmt} {p : Pos}
    (h : wpAny M A (isTrue test env (eval test env)) (fun b s₂ => if b then wpAny M A (execs body env) (Seq M A env rest Q E) E s₂ else wpAny M A (execs orelse env) (Seq M A env rest Q E) E s₂) E s) :
    wpAny M A (execs (.If test body orelse p :: rest) env) Q E s := x_cons (wpAny_If h)
end
section
variable {prog : Program} {w : World} {A : Around} {E : Value → Shared → Prop} {s : Shared} {env : Env} {Q : Flow → Shared → Prop} {rest : List Stmt}
theorem x_expr {e : Expr} {p : Pos} (h : wpAny (model prog w) A (eval e env) (fun _ s' => wpAny (model prog w) A (execs rest env) Q E s') E s)
    (hi : interactive env = false := by rfl) (hs : swapsWith e none p.line env = pure false := by rfl) : wpAny (model prog w) A (execs (.Expr e p :: rest) env) Q E s := x_cons (wpAny_Expr_any h hi hs)
end

section
variable {M : Model} {A : Around} {E : Value → Shared → Prop} {s s₀ : Shared} {base g : Heap} {Z fr : List Addr} {L : Addr} {vars vars' : List (Str × Value)} {news news' : List (Addr × Obj)}
  {cn : Str} {cs : Scope} {a : Addr} {ccd : Value} {cl : List (Str × Addr)} {x : Str} {v : Value} {pos : Pos} {K : Frag} {p : Program} {loose : List Str} {mean : ExcName → Option Value} {mg mb : Str → Option Value} {α : Type}

theorem r_tk {t : Sem α} {Q : α → Shared → Prop} {k : Nat} (H : Sy base s₀ Z g fr L vars news s) (h : ∀ s', Sy base s₀ Z g fr L vars news s' → wpAny M A t Q E s') : wpAny M A t Q E { s with toks := k } := h _ (H.tk k)

theorem r_local {Q : Value → Shared → Prop} (H : Sy base s₀ Z g fr L vars news s) (hv : (x, v) ∈ vars) (h : Q v s)
    (hk : cs.kind = .function := by rfl) (hx : (envX cn cs L a ccd cl).kindOf x = some .local := by rfl) (hd : (x == ("__debug__" : Str)) = false := by decide) :
    wpAny M A (eval (.Name x pos) (envX cn cs L a ccd cl)) Q E s := by
  obtain ⟨m, hm, hmv⟩ := H.ns
  exact wpAny_Name (wpAny_loadName_local hk hx hm (hmv _ hv) h) hd

theorem r_free {Q : Value → Shared → Prop} {c : Addr} {o : Obj} (H : Sy base s₀ Z g fr L vars news s) (hc : cl.lookup x = some c) (hm : (c, o) ∈ news) (hd : o.data = .cell (some v)) (h : Q v s)
    (hk : cs.kind = .function := by rfl) (hx : (envX cn cs L a ccd cl).kindOf x = some .free := by rfl) (hb : (x == ("__debug__" : Str)) = false := by decide) (hn : (x == ("__classdict__" : Str)) = false := by decide) :
    wpAny M A (eval (.Name x pos) (envX cn cs L a ccd cl)) Q E s := wpAny_Name (wpAny_loadName_free hk hx hc ⟨o, H.get hm, hd⟩ h hn) hb

theorem r_global {Q : Value → Shared → Prop} (H : Sy base s₀ Z g fr L vars news s) (XB : K.In base) (TB : Top p loose mean mg mb base) (e : nsIn K mainGlobals x = some (some v)) (h : Q v s)
    (hk : cs.kind = .function := by rfl) (hx : (envX cn cs L a ccd cl).kindOf x = some .globalImplicit := by rfl) (hd : (x == ("__debug__" : Str)) = false := by decide) :
    wpAny M A (eval (.Name x pos) (envX cn cs L a ccd cl)) Q E s :=
  Name_function_global hk hx (loadGlobal_global (env := envX cn cs L a ccd cl) (TB.g.keeps H.stays) (mg_of XB TB.g e) h) hd
theorem r_builtin {Q : Value → Shared → Prop} (H : Sy base s₀ Z g fr L vars news s) (XB : K.In base) (TB : Top p loose mean mg mb base) (e : nsIn K mainGlobals x = some none) (hv : bootBuiltins x = some v) (h : Q v s)
    (hn : x ≠ "__name__" := by decide) (hk : cs.kind = .function := by rfl) (hx : (envX cn cs L a ccd cl).kindOf x = some .globalImplicit := by rfl) (hd : (x == ("__debug__" : Str)) = false := by decide) :
    wpAny M A (eval (.Name x pos) (envX cn cs L a ccd cl)) Q E s :=
  Name_function_global hk hx (loadGlobal_builtin (env := envX cn cs L a ccd cl) (TB.g.keeps H.stays) (mg_none_of XB TB.g e) (TB.b.keeps H.stays) ((TB.builtins x hn).trans hv) h) hd

theorem r_store {Q : Unit → Shared → Prop} (H : Sy base s₀ Z g fr L vars news s) (V : SetV x v vars vars') (h : ∀ s', Sy base s₀ Z g fr L vars' news s' → Q () s')
    (hk : cs.kind = .function := by rfl) (hx : (envX cn cs L a ccd cl).kindOf x = some .local := by rfl) : wpAny M A (storeName (envX cn cs L a ccd cl) x v) Q E s := by
  obtain ⟨m, hm, hmv⟩ := H.ns
  exact wpAny_storeName_local hx hm (fun h' hn hs => h _ (H.store hm hn hs V)) (by show (cs.kind == .class || (cs.kind == .module && L != mainGlobals)) = false; rw [hk]; rfl)

theorem r_newList {vs : List Value} {Q : Value → Shared → Prop} (H : Sy base s₀ Z g fr L vars news s) (h : ∀ a s', Sy base s₀ Z g fr L vars ((a, { cls := .type "list", data := .seq vs.toArray }) :: news) s' → Q (.ref a) s') (hsz : vs.length ≤ sizeLine := by size_fits) :
    wpAny M A (newList vs) Q E s := wpAny_newObj_type (h _ _ (H.push _ s.toks)) (by show vs.toArray.size ≤ sizeLine; rw [List.size_toArray]; exact hsz)
theorem r_newTuple {vs : List Value} {Q : Value → Shared → Prop} (H : Sy base s₀ Z g fr L vars news s) (h : ∀ a s', Sy base s₀ Z g fr L vars ((a, { cls := .type "tuple", data := .seq vs.toArray }) :: news) s' → Q (.ref a) s') (hsz : vs.length ≤ sizeLine := by size_fits) :
    wpAny M A (newTuple vs) Q E s := wpAny_newObj_type (h _ _ (H.push _ s.toks)) (by show vs.toArray.size ≤ sizeLine; rw [List.size_toArray]; exact hsz)

theorem r_callK {env : Env} {f : Addr} {e : Expr} {rest : List Expr} {Q : Value → Shared → Prop} (XB : K.In base) (hf : fnIn K f = true)
    (h : wpAny M A (spliced (backTo pos (starEach (e :: rest) env))) (fun vs s₁ => base.StaysIn s₁.heap ∧ wpAny M A (call (.ref f) vs) Q E s₁) E s)
    (he : starEach (e :: rest) env = (false, eval e env) :: starEach rest env := by rfl) :
    wpAny M A (callWith pos (.ref f) [] (backTo pos (starEach (e :: rest) env)) []) Q E s := by
  unfold fnIn at hf
  split at hf
  · rename_i q
    exact callWith_def rfl (wpAny_mono h (fun vs s₁ h₁ => ⟨h₁.1 _ _ (XB _ _ q), h₁.2⟩) fun _ _ x => x) he
  · cases hf
theorem enterK {prog : Program} {w : World} {fs : List Env} {name qual : Str} {params : Arguments} {body : List Stmt} {scope : Scope} {dV kV doc pm cdv ct oc : Value} {an od : Option Addr} {osl : Array (Option Value)} {f : Addr} {args : List Value} {Q : Value → Shared → Prop} (binds : List (Str × Value)) (nms : List Str)
    (P : Pre base A fs fr news s) (XB : K.In base) (TB : Top p loose mean mg mb base) (ho : K.lookup f = some ⟨oc, od, .func (fnX name qual params body scope [] dV kV doc pm an cdv ct), osl⟩) (hcd : codeIn K cdv qual = true)
    (hroom : A.depth < recursionLimit) (hbind : bindArgs (fnX name qual params body scope [] dV kV doc pm an cdv ct) ⟨args, []⟩ = pure binds) (hnm : binds.map (·.1) = nms) (hnd : nms.Nodup)
    (h : ∀ L s', Sy base s (news.map (·.1)) (hideAll s.heap (news.map (·.1) ++ fr)) fr L binds news s' →
      wpAny (model prog w) (A.deeper (envX qual scope L f cdv [])) (execs body (envX qual scope L f cdv []))
        (fun fl s'' => Q (match fl with | .ret v => v | _ => .none) s'')
        (fun e s'' => wpAny (model prog w) (A.deeper (envX qual scope L f cdv [])) (leaving (envX qual scope L f cdv []) e) (fun _ s3 => E e s3) (fun e' s3 => E e' s3) s'') s')
    (hloc : ∀ y ∈ nms, scope.names.lookup y = some .local) (hcell : ∀ x ∈ scope.names, x.2 ≠ .cell)
    (hco : scope.isCoroutine = false) (hgen : scope.isGenerator = false) (hk : scope.kind = .function) : wpAny (model prog w) A (call (.ref f) args) Q E s :=
  enter P TB.nolimit ((XB.keeps P.stays) _ _ ho) rfl (codeRec_of (XB.keeps P.stays) hcd) hroom (BindsTo.of_eq hbind) (hnm ▸ hnd) h (fun y hy => hloc _ (hnm ▸ List.mem_map_of_mem hy)) hcell hco hgen hk
theorem r_stays {P : Prop} (H : Sy base s₀ Z g fr L vars news s) (h : P) : base.StaysIn s.heap ∧ P := ⟨H.stays, h⟩
end
section
variable {M : Model} {A : Around} {E : Value → Shared → Prop} {s : Shared}
/-- what is asked may be given a name -/
noncomputable def Cont {α : Type} (Q Q' : α → Shared → Prop) : Prop := ∀ v s, Q v s → Q' v s
theorem calmQ {α : Type} {t : Sem α} {Q : α → Shared → Prop} (h : ∀ Q' : α → Shared → Prop, Cont Q Q' → wpAny M A t Q' E s) : wpAny M A t Q E s := h _ fun _ _ x => x
theorem cont_use {α : Type} {Q Q' : α → Shared → Prop} {v : α} (h : Cont Q Q') (hq : Q v s) : Q' v s := h v s hq
theorem calmE {α : Type} {t : Sem α} {Q : α → Shared → Prop} (h : ∀ E' : Value → Shared → Prop, Cont E E' → wpAny M A t Q E' s) : wpAny M A t Q E s := h _ fun _ _ x => x
/-- nothing is raised; what is handed back -/
theorem calm {t : Sem Flow} {Q : Value → Shared → Prop} (h : ∀ Q' : Flow → Shared → Prop, (∀ v s, Q v s → Q' (.ret v) s) → wpAny M A t Q' (fun _ _ => False) s) : wpAny M A t (fun fl s'' => Q (match fl with | .ret v => v | _ => .none) s'') E s :=
  wpAny_mono (h _ fun _ _ x => x) (fun _ _ x => x) fun _ _ x => x.elim
theorem calmA {t : Sem Flow} {Q : Value → Shared → Prop} (hh : A.handled = none) (h : ∀ A' : Around, A'.handled = none → ∀ Q' : Flow → Shared → Prop, (∀ v s, Q v s → Q' (.ret v) s) → wpAny M A' t Q' (fun _ _ => False) s) :
    wpAny M A t (fun fl s'' => Q (match fl with | .ret v => v | _ => .none) s'') E s := calm (h A hh)
/-- the same where something may be raised -/
theorem calmR {t : Sem Flow} {Q : Value → Shared → Prop} (h : ∀ (Q' : Flow → Shared → Prop) (E' : Value → Shared → Prop), (∀ v s, Q v s → Q' (.ret v) s) → Cont E E' → wpAny M A t Q' E' s) : wpAny M A t (fun fl s'' => Q (match fl with | .ret v => v | _ => .none) s'') E s :=
  h _ _ (fun _ _ x => x) fun _ _ x => x
end
theorem ifT {c : Prop} [Decidable c] {X Y : Prop} (hc : c) (h : X) : if c then X else Y := by rw [if_pos hc]; exact h
theorem ifF {c : Prop} [Decidable c] {X Y : Prop} (hc : ¬ c) (h : Y) : if c then X else Y := by rw [if_neg hc]; exact h
end Mine

set_option maxRecDepth 100000
set_option maxHeartbeats 400000
namespace Mine
section
variable {M : Model} {A : Around} {E : Value → Shared → Prop} {s s₀ : Shared} {base g : Heap} {Z fr : List Addr} {L : Addr} {vars vars' : List (Str × Value)} {news news' : List (Addr × Obj)} {env : Env} {pos : Pos} {Q : Value → Shared → Prop}
theorem r_cint {i : Int} {k : Nat} (H : Sy base s₀ Z g fr L vars news s) (h : ∀ t s', Sy base s₀ Z g fr L vars news s' → Q (.int i t) s') : wpAny M A (eval (.Constant (.int i) k pos) env) Q E s := wpAny_Constant_int (h _ _ (H.tk _))
theorem r_cstr {x : Str} {k : Nat} (H : Sy base s₀ Z g fr L vars news s) (h : ∀ t s', Sy base s₀ Z g fr L vars news s' → Q (.str x t) s') : wpAny M A (eval (.Constant (.str x) k pos) env) Q E s := Constant_str (h _ _ (H.tk _))
end
end Mine



set_option maxRecDepth 100000
set_option maxHeartbeats 400000
namespace Mine
noncomputable abbrev lst (vs : List Value) (n : Nat) : Obj := { cls := .type "list", data := .seq vs.toArray n }
noncomputable abbrev slo (l u : Value) : Obj := { cls := .type "slice", data := .fields #[l, u, .none] }
section
variable {prog : Program} {w : World} {M : Model} {A : Around} {E : Value → Shared → Prop} {s s₀ : Shared} {base g : Heap} {Z fr : List Addr} {L : Addr} {vars vars' : List (Str × Value)} {news news' : List (Addr × Obj)} {env : Env} {pos : Pos} {Q : Value → Shared → Prop} {QB : Bool → Shared → Prop} {QU : Unit → Shared → Prop}
  {x y z : Str} {t u v : Tok} {a b : Int} {l c : Addr} {vs : List Value} {n : Nat} {val : Value}

theorem r_add_int (H : Sy base s₀ Z g fr L vars news s) (h : ∀ t s', Sy base s₀ Z g fr L vars news s' → Q (.int (a + b) t) s') : wpAny (model prog w) A (binaryOp .Add (.int a t) (.int b u)) Q E s := add_int (h _ _ (H.tk _))
theorem r_mod_int (H : Sy base s₀ Z g fr L vars news s) (hb : 0 < b) (h : ∀ t s', Sy base s₀ Z g fr L vars news s' → Q (.int (a % b) t) s') : wpAny (model prog w) A (binaryOp .Mod (.int a t) (.int b u)) Q E s :=
  mod_int (by omega) (by rw [Int.fmod_eq_emod_of_nonneg a (Int.le_of_lt hb)]; exact h _ _ (H.tk _))
theorem r_div_int (H : Sy base s₀ Z g fr L vars news s) (hb : 0 < b) (hb2 : b < 1000) (h : ∀ t s', Sy base s₀ Z g fr L vars news s' → Q (.int (a / b) t) s') : wpAny (model prog w) A (binaryOp .FloorDiv (.int a t) (.int b u)) Q E s :=
  floordiv_int (by omega) (by rw [Int.fdiv_eq_ediv_of_nonneg a (Int.le_of_lt hb)]; exact h _ _ (H.tk _))
    (.inl (PyProof.noPylong_of_log2 (Nat.lt_of_le_of_lt (Nat.log2_le_self _) (by omega))))
theorem r_add_str (H : Sy base s₀ Z g fr L vars news s) (hsz : x.length + y.length ≤ 16777216) (h : ∀ t s', Sy base s₀ Z g fr L vars news s' → Q (.str (x ++ y) t) s') : wpAny (model prog w) A (binaryOp .Add (.str x t) (.str y u)) Q E s :=
  add_str (fun _ _ => h _ _ (H.tk _)) (by rw [sizeLine_eq]; exact hsz)
theorem r_len_str (H : Sy base s₀ Z g fr L vars news s) (hsz : x.length ≤ 16777216) (h : ∀ t s', Sy base s₀ Z g fr L vars news s' → Q (.int (x.length : Nat) t) s') : wpAny (model prog w) A (call (.builtin "len") [.str x t]) Q E s :=
  SBL.len (by omega) (h _ _ (H.tk _))
theorem r_chr (H : Sy base s₀ Z g fr L vars news s) (h0 : 0 ≤ a) (h1 : a ≤ 255) (h : ∀ t s', Sy base s₀ Z g fr L vars news s' → Q (.str ⟨#[a.toNat]⟩ t) s') : wpAny (model prog w) A (call (.builtin "chr") [.int a t]) Q E s :=
  chr_of_range h0 (by omega) (h _ _ (H.tk _))
theorem r_ord {k : Nat} (H : Sy base s₀ Z g fr L vars news s) (h : ∀ t s', Sy base s₀ Z g fr L vars news s' → Q (.int (k : Nat) t) s') : wpAny (model prog w) A (call (.builtin "ord") [.str ⟨#[k]⟩ t]) Q E s :=
  ord_of_one rfl (h _ _ (H.tk _))
theorem r_str_int (H : Sy base s₀ Z g fr L vars news s) (h0 : 0 ≤ a) (h1 : a < 1000) (h : ∀ t s', Sy base s₀ Z g fr L vars news s' → Q (.str (Str.ofString (toString a)) t) s') : wpAny (model prog w) A (call (.type "str") [.int a t]) Q E s :=
  P.str_of_int (Nat.lt_of_le_of_lt (Nat.log2_le_self _) (by omega)) (h _ _ (H.tk _))
theorem r_replace (H : Sy base s₀ Z g fr L vars news s) (hu : u ≠ 0) (hv : v ≠ 0) (huv : u ≠ v) (hyz : (y == z) = false) (hx : x.length ≤ 1048576) (hz : z.length ≤ 14)
    (h : ∀ t s', Sy base s₀ Z g fr L vars news s' → Q (.str (Txt.replace x y z) t) s') : wpAny (model prog w) A (call (.builtin "str.replace") [.str x t, .str y u, .str z v]) Q E s :=
  SC.replaceW hu hv huv hyz hx hz fun _ _ => h _ _ (H.tk _)
theorem r_len_bytes {bs : Array UInt8} (H : Sy base s₀ Z g fr L vars news s) (hsz : bs.size ≤ 16777216) (h : ∀ t s', Sy base s₀ Z g fr L vars news s' → Q (.int (bs.size : Nat) t) s') : wpAny (model prog w) A (call (.builtin "len") [.bytes bs t]) Q E s :=
  len_bytes (by omega) (h _ _ (H.tk _))
theorem r_truthy_bytes {bs : Array UInt8} (H : Sy base s₀ Z g fr L vars news s) (hsz : bs.size ≤ 16777216) (h : ∀ s', Sy base s₀ Z g fr L vars news s' → QB (decide (0 < bs.size)) s') : wpAny (model prog w) A (truthy (.bytes bs t)) QB E s := by
  refine truthy_bytes (by omega) ?_
  have e : (((bs.size : Nat) : Int) != 0) = decide (0 < bs.size) := by
    cases bs.size with
    | zero => rfl
    | succ k => simp; omega
  rw [e]
  exact h _ (H.tk (s.toks + 1 + 1))
theorem r_add_bytes {bs cs : Array UInt8} (H : Sy base s₀ Z g fr L vars news s) (hsz : bs.size + cs.size ≤ 16777216) (h : ∀ t s', Sy base s₀ Z g fr L vars news s' → Q (.bytes (bs ++ cs) t) s') : wpAny (model prog w) A (binaryOp .Add (.bytes bs t) (.bytes cs u)) Q E s :=
  KBy.add_bytes hsz fun _ _ => h _ _ (H.tk _)
theorem r_item_bytes {bs : Array UInt8} {k : UInt8} (H : Sy base s₀ Z g fr L vars news s) (hsz : bs.size ≤ 16777216) (h0 : 0 ≤ a) (hk : bs[a.toNat]? = some k) (h : ∀ t s', Sy base s₀ Z g fr L vars news s' → Q (.int (k.toNat : Nat) t) s') {value slice : Expr}
    (hs : subscripted slice false (.bytes bs t) (.int a u) = operate [.bytes bs t, .int a u] (getItem (.bytes bs t) (.int a u)) := by with_unfolding_all rfl)
    (ht : ∀ r, letTemporaryGo value (.bytes bs t) r = pure () := by intro _; with_unfolding_all rfl) :
    wpAny (model prog w) A (subscriptTail value slice (.bytes bs t) (.int a u)) Q E s := by
  obtain ⟨lb⟩ := bs
  simp only [List.getElem?_toArray] at hk
  obtain ⟨hlt, hk'⟩ := List.getElem?_eq_some_iff.mp hk
  refine tail_of_ItemOn ⟨"bytes", _, FB.slot_bytes_getitem.lookup, typeIs_bytes _ _ _, getItem_bytes (l := lb) (by simp at hsz; omega) h0 (by omega) ?_⟩ hs ht
  rw [List.getD_eq_getElem?_getD, hk]
  exact h _ _ (H.tk _)

theorem r_cstrT {k : Nat} (H : Sy base s₀ Z g fr L vars news s) (h : ∀ s', s'.toks = s.toks + 1 → Sy base s₀ Z g fr L vars news s' → Q (.str x s.toks) s') : wpAny M A (eval (.Constant (.str x) k pos) env) Q E s := Constant_str (h _ rfl (H.tk _))
-- lists of the ledger
theorem r_len_list (H : Sy base s₀ Z g fr L vars news s) (hm : (l, lst vs n) ∈ news) (hsz : vs.length ≤ 16777216) (h : ∀ t s', Sy base s₀ Z g fr L vars news s' → Q (.int (vs.length : Nat) t) s') : wpAny (model prog w) A (call (.builtin "len") [.ref l]) Q E s := by
  refine call_len_list (items := vs.toArray) ⟨_, H.get hm, rfl, n, rfl⟩ (by simp only [List.size_toArray]; omega) ?_
  simp only [List.size_toArray]
  exact h _ _ (H.tk _)
theorem r_item_list (H : Sy base s₀ Z g fr L vars news s) (hm : (l, lst vs n) ∈ news) (h0 : 0 ≤ a) (h1 : a < 16777216) (hx : vs[a.toNat]? = some val) (h : Q val s) {value slice : Expr}
    (hs : subscripted slice false (.ref l) (.int a u) = operate [.ref l, .int a u] (getItem (.ref l) (.int a u)) := by with_unfolding_all rfl) :
    wpAny (model prog w) A (subscriptTail value slice (.ref l) (.int a u)) Q E s :=
  item_litK ⟨_, H.get hm, rfl, n, rfl⟩ h0 (by omega) hx h hs
theorem r_meth_list {name : Str} {id : String} {pl : Sem Bool} {Q : Value × List Value → Shared → Prop} (H : Sy base s₀ Z g fr L vars news s) (hm : (l, lst vs n) ∈ news) (slot : Slot "list" name id) (hty : typeOf (.builtin id) = pure (.type "method_descriptor"))
    (h : Q (.builtin id, [.ref l]) s) : wpAny M A (getMethod (.ref l) name pl) Q E s :=
  getMethod_builtin ⟨_, H.get hm, rfl⟩ PySem.F.plainAttrs_list slot hty (fun a e => by cases e; exact ⟨_, H.get hm, rfl⟩) h
theorem r_append (H : Sy base s₀ Z g fr L vars news s) (U : SetN l (lst vs n) (lst (vs ++ [val]) (n + 1)) news news') (hsz : vs.length ≤ 1000000) (h : ∀ s', Sy base s₀ Z g fr L vars news' s' → Q .none s') :
    wpAny (model prog w) A (call (.builtin "list.append") [.ref l, val]) Q E s := by
  refine append_at (its := vs.toArray) (H.get U.mem) (fun h' hs ho => h _ (H.set U hs ?_)) (by rw [sizeLine_eq, List.size_toArray]; omega)
  rw [ho, List.push_toArray]
theorem r_extend {ws : List Value} {n2 : Nat} (H : Sy base s₀ Z g fr L vars news s) (hm : (c, lst ws n2) ∈ news) (U : SetN l (lst vs n) (lst (vs ++ ws) (if ws.length = 0 then n else n + 1)) news news') (hsz : vs.length + ws.length ≤ 1000000) (h : ∀ s', Sy base s₀ Z g fr L vars news' s' → Q .none s') :
    wpAny (model prog w) A (call (.builtin "list.extend") [.ref l, .ref c]) Q E s := by
  refine call_meets PySem.F.slot_list_extend ⟨_, H.get U.mem, rfl⟩ PySem.F.entry_list_extend (PySem.F.args_list_extend_2 _ _) (PySem.AutoSeq1.list_extend_list_list_0 l vs.toArray n c ws.toArray n2 ?_ ?_ ?_) ⟨H.get U.mem, H.get hm, h _ (H.upd U ?_)⟩
  · simp only [Builtin.List.listTooLong, sizeLine, List.size_toArray, Bool.and_eq_true, Bool.not_eq_true', decide_eq_true_eq]
    omega
  · rw [sizeLine_eq, List.size_toArray]; omega
  · rw [sizeLine_eq, List.size_toArray, List.size_toArray]; omega
  · simp only [Obj.mapSeq, List.append_toArray, List.size_toArray, List.length_append, beq_iff_eq]
    by_cases q : ws.length = 0
    · simp [q]
    · rw [if_neg (by omega), if_neg q]
theorem r_add_list {ws : List Value} {n2 : Nat} (H : Sy base s₀ Z g fr L vars news s) (hm : (l, lst vs n) ∈ news) (hm2 : (c, lst ws n2) ∈ news) (hsz : vs.length + ws.length ≤ 1000000) (h : ∀ d s', Sy base s₀ Z g fr L vars ((d, lst (vs ++ ws) 0) :: news) s' → Q (.ref d) s') :
    wpAny (model prog w) A (binaryOp .Add (.ref l) (.ref c)) Q E s := by
  refine P.add_list (items := vs.toArray) (items2 := ws.toArray) (H.get hm) (H.get hm2) ?_ (by rw [sizeLine_eq, List.size_toArray, List.size_toArray]; omega)
  rw [List.append_toArray]
  exact h _ _ (H.push _ s.toks)
theorem r_set_list (H : Sy base s₀ Z g fr L vars news s) (U : SetN l (lst vs n) (lst (vs.set a.toNat val) n) news news') (h0 : 0 ≤ a) (h1 : a < vs.length) (h2 : a < 16777216) (h : ∀ s', Sy base s₀ Z g fr L vars news' s' → QU () s') :
    wpAny (model prog w) A (setItem (.ref l) (.int a t) val) QU E s := by
  have ho := H.get U.mem
  have hl : s.heap.IsList l vs.toArray := ⟨_, ho, rfl, n, rfl⟩
  unfold setItem
  try with_reducible refine wpAny_holding ?_
  first | refine wpAny_bind (wpAny_pure ?_) | skip
  refine wpAny_bind (wpAny_sequenceKey hl.typeIs (by decide) ?_)
  refine wpAny_bind (wpAny_callSpecial?_slot (name := Str.ofString "__setitem__") hl.typeIs slot_list_setitem
    (wpAny_call_entry slot_list_setitem hl.typeIs entry_list_setitem ?_ (args_list_setitem _ _ _)))
  show wpAny _ _ (Builtin.List.listSubscript? (.int a t) >>= _) _ _ s
  refine wpAny_bind (wpAny_listSubscript_int (fitsIndex_of h0 (by omega)) ?_)
  obtain ⟨j, rfl⟩ := Int.eq_ofNat_of_zero_le h0
  have hj : j < vs.toArray.size := by simp only [List.size_toArray]; omega
  have hx' : vs.toArray[j]? = some vs.toArray[j] := Array.getElem?_eq_getElem hj
  show wpAny _ _ ((seqItemAt l j >>= fun r => pure (r.map (j, ·))) >>= _) _ _ s
  refine wpAny_bind (wpAny_bind (wpAny_seqItemAt ho rfl (wpAny_pure ?_)))
  rw [hx']
  show wpAny _ _ (setSeqItemAt l j val >>= _) _ _ s
  have fin : Sy base s₀ Z g fr L vars news' { s with heap := s.heap.update l (Obj.mapSeq (·.setIfInBounds j val)) } := H.upd (k := s.toks) U (by simp [Obj.mapSeq])
  refine wpAny_bind (wpAny_setSeqItemAt ho rfl ?_)
  first
    | exact wpAny_bind (wpAny_pure (wpAny_pure ⟨.none, rfl, wpAny_pure (h _ fin)⟩))
    | exact wpAny_pure ⟨.none, rfl, wpAny_pure (h _ fin)⟩

-- slices
noncomputable def cut (value slice : Expr) (o l u : Value) : Sem Value := do let a ← alloc (slo l u); subscriptTail value slice o (.ref a)
theorem r_sub_cut {value : Expr} {lower upper : Option Expr} {p : Pos}
    (h : wpAny M A (eval value env) (fun o s₁ => wpAny M A (evalPart lower env) (fun l s₂ => wpAny M A (evalPart upper env) (fun u s₃ => wpAny M A (cut value (.Slice lower upper none p) o l u) Q E s₃) E s₂) E s₁) E s) :
    wpAny M A (eval (.Subscript value (.Slice lower upper none p) pos) env) Q E s := by
  refine Subscript_ (wpAny_mono h (fun o s₁ h₁ => wpAny_Slice (wpAny_mono h₁ (fun l s₂ h₂ => wpAny_mono h₂ (fun u s₃ h₃ => evalPart_none_step fun Γ p hΓ => ?_) fun _ _ x => x) fun _ _ x => x)) fun _ _ x => x)
  have := h₃ Γ p hΓ
  unfold cut at this
  simpa only [Sem.wp_bind', Sem.wp_cmd_alloc] using this
theorem Sy.kept : KeptByPush (Sy base s₀ Z g fr L vars news) := fun _ ob _ H => H.grown fun _ _ e => Heap.get?_push_of_some ob e
theorem cut_intro {value slice : Expr} {o vl vu : Value} (h : wpAny M A (subscriptTail value slice o (.ref s.heap.objs.size)) Q E { s with heap := s.heap.push (slo vl vu) }) : wpAny M A (cut value slice o vl vu) Q E s := by
  unfold cut
  exact wpAny_bind (wpAny_alloc h)
theorem r_cut_str {value slice : Expr} {vl vu : Value} {lo hi : Option Int} (H : Sy base s₀ Z g fr L vars news s) (pl : IsPart vl lo) (pu : IsPart vu hi) (hsz : x.length ≤ 16777216) (h : ∀ t s', Sy base s₀ Z g fr L vars news s' → Q (.str (Txt.slice x lo hi) t) s')
    (hs : ∀ b, subscripted slice false (.str x t) (.ref b) = operate [.ref b, .str x t] (getItem (.str x t) (.ref b)) := by intro _; with_unfolding_all rfl)
    (ht : ∀ r, letTemporaryGo value (.str x t) r = pure () := by intro _; with_unfolding_all rfl) : wpAny (model prog w) A (cut value slice (.str x t) vl vu) Q E s := by
  have hz : x.length ≤ sizeLine := by rw [sizeLine_eq]; exact hsz
  refine cut_intro ?_
  cases pl <;> cases pu
  · exact tail_of_ItemOn (SBG.sliceItem_nn Sy.kept H (fun s' t' H' => h t' s' H') hz) (hs _) ht
  · exact tail_of_ItemOn (SBG.sliceItem_ns Sy.kept H (fun s' t' H' => h t' s' H') hz) (hs _) ht
  · exact tail_of_ItemOn (SBG.sliceItem_sn Sy.kept H (fun s' t' H' => h t' s' H') hz) (hs _) ht
  · exact tail_of_ItemOn (SBG.sliceItem_ss Sy.kept H (fun s' t' H' => h t' s' H') hz) (hs _) ht
theorem r_cut_bytes {value slice : Expr} {vl vu : Value} {lo hi : Option Int} {bs : Array UInt8} (H : Sy base s₀ Z g fr L vars news s) (pl : IsPart vl lo) (pu : IsPart vu hi) (hsz : bs.size ≤ 16777216) (h : ∀ t s', Sy base s₀ Z g fr L vars news s' → Q (.bytes (KBy.picked bs lo hi) t) s')
    (hs : ∀ b, subscripted slice false (.bytes bs t) (.ref b) = operate [.ref b, .bytes bs t] (getItem (.bytes bs t) (.ref b)) := by intro _; with_unfolding_all rfl)
    (ht : ∀ r, letTemporaryGo value (.bytes bs t) r = pure () := by intro _; with_unfolding_all rfl) : wpAny (model prog w) A (cut value slice (.bytes bs t) vl vu) Q E s := by
  refine cut_intro (tail_of_ItemOn ⟨"bytes", _, FB.slot_bytes_getitem.lookup, typeIs_bytes _ _ _, getItem_meets (typeIs_bytes _ _ _) (by decide) FB.slot_bytes_getitem FB.entry_bytes_getitem (FB.args_bytes_getitem_2 _ _) (KBc.meets_slice2 bs t _ pl pu)
    ⟨Heap.IsSliceOf.new _ _ _ _, Nat.le_trans (KBc.size_picked_le bs lo hi) (by rw [sizeLine_eq]; exact hsz), fun t' k => h _ _ (Sy.kept _ _ k H)⟩⟩ (hs _) ht)
theorem r_cut_list {value slice : Expr} {vl vu : Value} {lo hi : Option Int} (H : Sy base s₀ Z g fr L vars news s) (hl : s.heap.IsList l vs.toArray) (pl : IsPart vl lo) (pu : IsPart vu hi) (hsz : vs.length ≤ 1000000) (h : ∀ d s', Sy base s₀ Z g fr L vars ((d, lst (slicePick vs.toArray lo hi none).toList 0) :: news) s' → Q (.ref d) s')
    (hs : ∀ b, subscripted slice false (.ref l) (.ref b) = operate [.ref b, .ref l] (getItem (.ref l) (.ref b)) := by intro _; with_unfolding_all rfl)
    (ht : ∀ r, letTemporaryGo value (.ref l) r = pure () := by intro _; with_unfolding_all rfl) : wpAny (model prog w) A (cut value slice (.ref l) vl vu) Q E s := by
  obtain ⟨m, all, F, N, _, back⟩ := H.lib
  refine cut_intro (slice_list F N hl pl pu (fun h' F' N' => h _ _ ?_) (hs _) ht (by rw [sizeLine_eq, List.size_toArray]; omega))
  exact back _ _ _ rfl rfl (Heap.get?_none_of_le (Nat.le_succ _)) F' (by simpa only [Array.toArray_toList] using N')
theorem r_mul_list (H : Sy base s₀ Z g fr L vars news s) (hm : (l, lst [val] n) ∈ news) (h0 : 0 ≤ a) (h1 : a ≤ 1000000) (h : ∀ d s', Sy base s₀ Z g fr L vars ((d, lst (List.replicate a.toNat val) 0) :: news) s' → Q (.ref d) s') :
    wpAny (model prog w) A (binaryOp .Mult (.ref l) (.int a t)) Q E s := by
  obtain ⟨m, all, F, N, _, back⟩ := H.lib
  refine mul_list F N (items := #[val]) (k := n) (H.get hm) (by omega) (by omega) (by simp; omega) fun h' F' N' => h _ _ (back _ _ _ rfl rfl (Heap.get?_none_of_le (Nat.le_refl _)) F' ?_)
  have e : List.foldl (fun x1 x2 => x1 ++ x2) #[] (List.replicate (if (#[val] : Array Value).isEmpty = true then 0 else a.toNat) #[val]) = (List.replicate a.toNat val).toArray := by
    have : ∀ (k : Nat) (acc : Array Value), List.foldl (fun x1 x2 => x1 ++ x2) acc (List.replicate k #[val]) = acc ++ (List.replicate k val).toArray := by
      intro k
      induction k with
      | zero => intro acc; simp
      | succ k ih => intro acc; rw [List.replicate_succ, List.foldl_cons, ih]; apply Array.toList_inj.mp; simp [List.replicate_succ]
    have h3 := this a.toNat #[]
    simpa using h3
  rw [e] at N'
  exact N'
end
end Mine

set_option maxRecDepth 100000
set_option maxHeartbeats 400000
namespace Mine
/-- texts as lists of numbers -/
noncomputable def S (l : List Nat) : Str := ⟨l.toArray⟩
theorem S_append (a b : List Nat) : S a ++ S b = S (a ++ b) := by
  show Str.mk _ = Str.mk _
  simp [S]
theorem S_length (l : List Nat) : (S l).length = l.length := by simp [S, Str.length]
theorem S_cps (l : List Nat) : (S l).cps = l.toArray := rfl
theorem S_inj {a b : List Nat} (h : S a = S b) : a = b := by
  have := congrArg Str.cps h
  exact List.toArray_inj this
theorem S_beq (a b : List Nat) : (S a == S b) = decide (a = b) := by
  by_cases h : a = b
  · subst h; simp
  · rw [decide_eq_false h]
    exact beq_eq_false_iff_ne.mpr fun e => h (S_inj e)
theorem S_bne (a b : List Nat) : (S a != S b) = decide (a ≠ b) := by
  rw [bne, S_beq]; simp

/-- doubled quotes -/
noncomputable def dblq : List Nat → List Nat
  | [] => []
  | k :: r => if k = 34 then 34 :: 34 :: dblq r else k :: dblq r
theorem dbl_eq : ∀ l, StrLaws.dbl 34 l = dblq l
  | [] => rfl
  | k :: r => by
    have ih := dbl_eq r
    simp only [StrLaws.dbl, dblq, ih]
    first | rfl | (by_cases h : k = 34 <;> simp [h])
theorem dblq_length : ∀ l, (dblq l).length ≤ 2 * l.length
  | [] => Nat.le_refl _
  | k :: r => by
    have ih := dblq_length r
    unfold dblq
    split <;> simp only [List.length_cons] <;> omega
noncomputable def tailq (z : Int) : List Nat := if z % 3 = 0 then [] else if z % 3 = 1 then [32] else [32, 34, 97, 34]
noncomputable def quotedL (l : List Nat) (z : Int) : List Nat := [50, 53, 55, 32, 34] ++ dblq l ++ [34] ++ tailq z
theorem replace_S (l : List Nat) : Txt.replace (S l) (Str.ofString "\"") (Str.ofString "\"\"") = S (dblq l) := by
  rw [replace_dbl (S l) _ _ 34 (by decide) (by decide), S_cps, ← dbl_eq]
  rfl
end Mine


set_option maxRecDepth 100000
set_option maxHeartbeats 4000000
namespace Mine
theorem quoted_spec {w : World} {p : Program} {loose : List Str} {mean : ExcName → Option Value} {mg mb : Str → Option Value} {base : Heap} {A : Around} {fs : List Env} {fr : List Addr} {s : Shared} {Q E : Value → Shared → Prop}
    (XB : (hd.heap_39 w.params).In base) (TB : Top p loose mean mg mb base) (P : Pre base A fs fr [] s) (hroom : A.depth < recursionLimit)
    {l : List Nat} {t : Tok} {z : Int} {tz : Tok} (hl : l.length ≤ 100)
    (hret : ∀ t s', s'.gens = s.gens → s'.os = s.os → Ext [] fr s.heap s'.heap → Q (.str (S (quotedL l z)) t) s') :
    wpAny (model PySem.Challenge.rw_of0006_01.row.prog w) A (call (.ref 109) [.str (S l) t, .int z tz]) Q E s := by
  revert XB; k_fill; intro XB
  refine' enterK [(Str.ofString "piece", .str (S l) t), (Str.ofString "z", .int z tz)] [Str.ofString "piece", Str.ofString "z"] P XB TB ?o ?c hroom ?bi ?nm ?nd ?_ ?lo ?ce ?x1 ?x2 ?x3
  (case o => k_is)
  (case c => k_is)
  (case bi => exact rfl)
  (case nm => exact rfl)
  (case nd => decide)
  (case lo => decide)
  (case ce => decide)
  (case x1 => rfl)
  (case x2 => rfl)
  (case x3 => rfl)
  intro _ _ _
  have hlS := S_length l
  have hdl := dblq_length l
  have hdS := S_length (dblq l)
  repeat' ((fail_if_success ((with_reducible show PySem.wpAny _ _ (PySem.eval (PySem.Expr.Constant (PySem.Const.str _) _ _) _) _ _ _))); first | (with_reducible refine wpAny_BinOp ?_) | (with_reducible refine x_return ?_))
  refine r_cstrT (by with_reducible assumption) ?_
  intro s1 h1 H1
  repeat' ((fail_if_success ((with_reducible show PySem.wpAny _ _ (PySem.eval (PySem.Expr.Constant (PySem.Const.str _) _ _) _) _ _ _))); first | ((with_reducible show wpAny _ _ (eval (Expr.Name _ _) _) _ _ _); with_reducible refine r_local (by with_reducible assumption) (by with_reducible repeat (first | exact List.mem_cons_self | refine List.mem_cons_of_mem _ ?_)) ?_ (by with_unfolding_all rfl) (by with_unfolding_all rfl) (by with_unfolding_all decide)) | (with_reducible refine MethodCall_ ?_ (by with_unfolding_all rfl)) | ((with_reducible show wpAny _ _ (getMethod _ _ _) _ _ _); with_reducible refine GM.replace ?_) | ((with_reducible show wpAny _ _ (spliced _) _ _ _); with_reducible refine spliced_more ?_ (by with_unfolding_all rfl)) | ((with_reducible show wpAny _ _ (callWith _ _ _ _ _) _ _ _); with_reducible refine callWith_method1 ?_ (by with_unfolding_all rfl) (by with_unfolding_all rfl); dsimp only [List.cons_append, List.nil_append]))
  refine r_cstrT (by with_reducible assumption) ?_
  intro s2 h2 H2
  repeat' ((fail_if_success ((with_reducible show PySem.wpAny _ _ (PySem.eval (PySem.Expr.Constant (PySem.Const.str _) _ _) _) _ _ _))); ((with_reducible show wpAny _ _ (spliced _) _ _ _); with_reducible refine spliced_more ?_ (by with_unfolding_all rfl)))
  refine r_cstrT (by with_reducible assumption) ?_
  intro s3 h3 H3
  (((with_reducible show wpAny _ _ (spliced _) _ _ _); with_reducible refine spliced_none ?_))
  refine r_replace (by with_reducible assumption) (by show @Ne Nat _ _; omega) (by show @Ne Nat _ _; omega) (by show @Ne Nat _ _; omega) (by decide) (by omega) (by decide) ?_
  rw [replace_S]
  intro t4 s4 H4
  have e1 : Str.ofString "257 \"" = S [50, 53, 55, 32, 34] := by decide
  have e2 : Str.ofString "\"" = S [34] := by decide
  rw [e1]
  refine r_add_str (by with_reducible assumption) (by rw [S_length, S_length]; simp only [List.length_cons, List.length_nil]; omega) ?_
  rw [S_append]
  intro t5 s5 H5
  ((with_reducible refine r_cstr (by with_reducible assumption) ?_; intro _ _ _))
  rw [e2]
  refine r_add_str (by with_reducible assumption) (by rw [S_length, S_length]; simp only [List.length_append, List.length_cons, List.length_nil]; omega) ?_
  rw [S_append]
  intro t6 s6 H6
  repeat' (first | ((with_reducible show wpAny _ _ (eval (Expr.Name _ _) _) _ _ _); with_reducible refine r_local (by with_reducible assumption) (by with_reducible repeat (first | exact List.mem_cons_self | refine List.mem_cons_of_mem _ ?_)) ?_ (by with_unfolding_all rfl) (by with_unfolding_all rfl) (by with_unfolding_all decide)) | (with_reducible refine r_cint (by with_reducible assumption) ?_; intro _ _ _) | (with_reducible refine r_cstr (by with_reducible assumption) ?_; intro _ _ _) | (with_reducible refine wpAny_BinOp ?_) | (with_reducible refine Subscript_ ?_) | (with_reducible refine List_ ?_) | ((with_reducible show wpAny _ _ (binaryOp _ _ _) _ _ _); with_reducible refine r_mod_int (by with_reducible assumption) (by with_unfolding_all decide) ?_; intro _ _ _) | ((with_reducible show wpAny _ _ (spliced _) _ _ _); with_reducible refine spliced_none ?_) | ((with_reducible show wpAny _ _ (spliced _) _ _ _); with_reducible refine spliced_more ?_ (by with_unfolding_all rfl)) | ((with_reducible show wpAny _ _ (newList _) _ _ _); refine r_newList (by with_reducible assumption) ?_; intro _ _ _))
  have hz : z % 3 = 0 ∨ z % 3 = 1 ∨ z % 3 = 2 := by omega
  rcases hz with e | e | e
  all_goals (
    rw [e]
    refine r_item_list (by with_reducible assumption) (by with_reducible repeat (first | exact List.mem_cons_self | refine List.mem_cons_of_mem _ ?_)) (by decide) (by decide) rfl ?_)
  · rw [show Str.ofString "" = S [] from by decide]
    refine r_add_str (by with_reducible assumption) (by rw [S_length, S_length]; simp only [List.length_append, List.length_cons, List.length_nil]; omega) ?_
    rw [S_append]
    intro t9 s9 H9
    have := hret t9 s9 H9.gens H9.os H9.done
    simpa only [quotedL, tailq, e, if_true] using this
  · rw [show Str.ofString " " = S [32] from by decide]
    refine r_add_str (by with_reducible assumption) (by rw [S_length, S_length]; simp only [List.length_append, List.length_cons, List.length_nil]; omega) ?_
    rw [S_append]
    intro t9 s9 H9
    have := hret t9 s9 H9.gens H9.os H9.done
    simpa [quotedL, tailq, e] using this
  · rw [show Str.ofString " \"a\"" = S [32, 34, 97, 34] from by decide]
    refine r_add_str (by with_reducible assumption) (by rw [S_length, S_length]; simp only [List.length_append, List.length_cons, List.length_nil]; omega) ?_
    rw [S_append]
    intro t9 s9 H9
    have := hret t9 s9 H9.gens H9.os H9.done
    simpa [quotedL, tailq, e] using this
end Mine

set_option maxRecDepth 100000
set_option maxHeartbeats 400000
namespace Mine
noncomputable def Turn (M : Model) (A : Around) (env : Env) (rest : List Stmt) (Q : Flow → Shared → Prop) (E : Value → Shared → Prop) (J : Shared → Prop) : Flow → Shared → Prop := fun f s => match f with
  | .next | .cont => J s
  | .brk => wpAny M A (execs rest env) Q E s
  | .ret v => Q (.ret v) s
section
variable {prog : Program} {w : World} {M : Model} {A : Around} {E : Value → Shared → Prop} {s s₀ : Shared} {base g : Heap} {Z fr : List Addr} {L : Addr} {vars vars' : List (Str × Value)} {news news' : List (Addr × Obj)} {env : Env} {pos p : Pos} {Q : Flow → Shared → Prop} {rest body : List Stmt} {J : Shared → Prop}
theorem turn_next (h : J s) : Turn M A env rest Q E J .next s := h
theorem turn_brk (h : wpAny M A (execs rest env) Q E s) : Turn M A env rest Q E J .brk s := h
theorem turn_ret {v : Value} (h : Q (.ret v) s) : Turn M A env rest Q E J (.ret v) s := h
theorem x_break (h : Q .brk s) : wpAny M A (execs (.Break p :: rest) env) Q E s := x_cons (wpAny_Break (Q := Seq M A env rest Q E) h)

theorem x_while {test : Expr} (I : Nat → Shared → Prop) (n : Nat) (h0 : I n s)
    (turn : ∀ n s, I n s → wpAny (model prog w) A (isTrue test env (eval test env)) (fun b s₂ => if b then wpAny (model prog w) A (execs body env) (Turn (model prog w) A env rest Q E fun s₃ => ∃ m, m < n ∧ I m s₃) E s₂ else wpAny (model prog w) A (execs rest env) Q E s₂) E s)
    (hE : PassesOwn (model prog w) A env E := by passes_own) : wpAny (model prog w) A (execs (.While test body [] p :: rest) env) Q E s := by
  refine x_cons (wpAny_While (codeAny_whileLoop I (fun n s hI => wpAny_passesOwn hE (wpAny_mono (turn n s hI) (fun b s₂ h₂ => ?_) fun _ _ e => e)) n h0))
  cases b with
  | true =>
    simp only [if_true] at h₂ ⊢
    refine wpAny_passesOwn hE (wpAny_mono h₂ (fun f s₃ h₃ => ?_) fun _ _ e => e)
    cases f <;> exact h₃
  | false =>
    simp only [Bool.false_eq_true, if_false] at h₂ ⊢
    exact wpAny_execs_nil h₂

theorem x_for {x : Str} {px : Pos} {iter : Expr} (h : wpAny (model prog w) A (eval iter env) (fun v s₁ => wpAny (model prog w) A (pyIter v) (fun it s₂ =>
      codeAny (model prog w) A (.forLoop (.Name x px) it body [] env) (fun r s' => match r with | .ok f => Seq (model prog w) A env rest Q E f s' | .error e => cameBackBy (model prog w) A env E e s') s₂) E s₁) E s)
    (hs : ∀ x, foldedSetIterable iter env x = pure x := by intro _; rfl) : wpAny (model prog w) A (execs (.For (.Name x px) iter body [] p :: rest) env) Q E s := x_cons (wpAny_For h hs)

theorem r_for_list {x : Str} {px : Pos} {l : Addr} {items : List Value} (I : Nat → Heap → List (Str × Value) → List (Addr × Obj) → Prop)
    (hh : A.handled = none) (H : Sy base s₀ Z g fr L vars news s) (h0 : I 0 g vars news)
    (hl : ∀ i g vars news s, I i g vars news → Sy base s₀ Z g fr L vars news s → s.heap.IsList l items.toArray)
    (turn : ∀ i v g vars it o news s, items[i]? = some v → I i g vars news → Sy base s₀ Z g fr L vars ((it, o) :: news) s →
      wpAny (model prog w) A (storeName env x v) (fun _ s₁ => wpAny (model prog w) A (execs body env) (Turn (model prog w) A env rest Q E fun s₂ => ∃ g' vars' news', I (i + 1) g' vars' news' ∧ Sy base s₀ Z g' fr L vars' ((it, o) :: news') s₂) E s₁) E s)
    (fin : ∀ g vars news s, I items.length g vars news → Sy base s₀ Z g fr L vars news s → wpAny (model prog w) A (execs rest env) Q E s)
    (hE : PassesOwn (model prog w) A env E := by passes_own) :
    wpAny (model prog w) A (pyIter (.ref l)) (fun it s₂ => codeAny (model prog w) A (.forLoop (.Name x px) it body [] env) (fun r s' => match r with | .ok f => Seq (model prog w) A env rest Q E f s' | .error e => cameBackBy (model prog w) A env E e s') s₂) E s := by
  refine wpAny_pyIter_list (hl _ _ _ _ _ h0 H) ?_
  have H1 := H.push { cls := .type "list_iterator", data := .fields #[.ref l, .int 0 0] } s.toks
  let it := s.heap.objs.size
  refine codeAny_forLoop (fun n s' => ∃ i g vars news o, n = items.length + 1 - i ∧ i ≤ items.length ∧ I i g vars news ∧ o.cls = .type "list_iterator" ∧ o.data = .fields #[.ref l, .int (i : Nat) 0] ∧ Sy base s₀ Z g fr L vars ((it, o) :: news) s') ?_ (items.length + 1) ⟨0, g, vars, news, _, rfl, Nat.zero_le _, h0, rfl, rfl, H1⟩
  rintro n s' ⟨i, g, vars, news, o, rfl, hi, hI, hc, hd, H'⟩
  have hit : s'.heap.IsListIter it l i := ⟨o, H'.get (.head _), hc, hd⟩
  have hls : s'.heap.IsList l items.toArray := hl _ _ _ _ _ hI (H'.sub (.cons _ (.refl _)))
  cases hv : items[i]? with
  | none =>
    have hsz : i = items.length := Nat.le_antisymm hi (by simpa using hv)
    refine wpAny_pyNext_list_end hh hit hls (by simpa using hv) fun h₁ he₁ => wpAny_execs_nil ?_
    refine seq_next (fin g vars news _ (hsz ▸ hI) (H'.ext (S := [it]) (fun b ob e hb => ?_) rfl rfl (fun b hb => by rw [List.mem_singleton.mp hb]; exact .head _) (fun p hp => ⟨he₁ _ _ (fun q => ?_) (H'.led p (.tail _ hp)).1, .tail _ (List.mem_map_of_mem hp)⟩) (List.nodup_cons.mp H'.nd).2))
    · have := he₁ b ob (fun q => hb (q ▸ List.mem_singleton.mpr rfl)) e
      exact ⟨fun _ => this, ob.slots, this⟩
    · exact (List.nodup_cons.mp H'.nd).1 (by show it ∈ _; rw [show it = p.1 from q.symm]; exact List.mem_map_of_mem hp)
  | some v =>
    have hlt : i < items.length := (List.getElem?_eq_some_iff.mp hv).1
    refine wpAny_pyNext_list_item hit hls (by simpa using hv) fun h₁ hit₁ hs₁ => ?_
    obtain ⟨o₁, ho₁, hc₁, hd₁⟩ := hit₁
    refine wpAny_assign_Name ?_
    refine wpAny_passesOwn hE (wpAny_mono (turn i v g vars it o₁ news _ hv hI (H'.set (k := s'.toks) .hit hs₁ ho₁)) (fun _ s₂ h₂ => wpAny_passesOwn hE (wpAny_mono h₂ (fun f s₃ h₃ => ?_) fun _ _ e => e)) fun _ _ e => e)
    have fin' : (∃ g' vars' news', I (i + 1) g' vars' news' ∧ Sy base s₀ Z g' fr L vars' ((it, o₁) :: news') s₃) → ∃ m, m < items.length + 1 - i ∧ ∃ i g vars news o, m = items.length + 1 - i ∧ i ≤ items.length ∧ I i g vars news ∧ o.cls = .type "list_iterator" ∧ o.data = .fields #[.ref l, .int (i : Nat) 0] ∧ Sy base s₀ Z g fr L vars ((it, o) :: news) s₃ := by
      rintro ⟨g', vars', news', hI', H3⟩
      exact ⟨items.length + 1 - (i + 1), by omega, i + 1, g', vars', news', o₁, rfl, hlt, hI', hc₁, hd₁, H3⟩
    cases f with
    | next => exact fin' h₃
    | cont => exact fin' h₃
    | brk => exact seq_next h₃
    | ret v => exact h₃
end

section
variable {prog : Program} {w : World} {A : Around} {E : Value → Shared → Prop} {s s₀ : Shared} {base g : Heap} {Z fr : List Addr} {L a : Addr} {vars vars' : List (Str × Value)} {news news' : List (Addr × Obj)} {pos np cpos : Pos} {Q : Flow → Shared → Prop} {rest : List Stmt} {K : Frag} {p : Program} {loose : List Str} {mean : ExcName → Option Value} {mg mb : Str → Option Value}
  {cn : Str} {cs : Scope} {ccd : Value} {x : Str} {C : Addr} {e₀ : Expr} {more : List Expr} {newId initId B : String} {bm : List Value} {env : Env}

theorem x_raise_own (H : Sy base s₀ Z g fr L vars news s) (XB : K.In base) (TB : Top p loose mean mg mb base) (hh : A.handled = none) (hn : nsIn K mainGlobals x = some (some (.ref C))) (hq : excIn K C bm newId = true) (FB : ExcBaseFacts B newId initId bm)
    (h : wpAny (model prog w) A (spliced (backTo cpos (starEach (e₀ :: more) (envX cn cs L a ccd [])))) (fun vs s₂ => ∃ vars news, Sy base s₀ Z g fr L vars news s₂ ∧ vs.length ≤ 1000 ∧
      ∀ s₃ e, s₃.gens = s₂.gens → s₃.os = s₂.os → Heap.MadeExcOf s₂.heap s₃.heap e (.ref C) vs → E (.ref e) s₃) E s)
    (he : starEach (e₀ :: more) (envX cn cs L a ccd []) = (false, eval e₀ (envX cn cs L a ccd [])) :: starEach more (envX cn cs L a ccd []) := by rfl)
    (hplain : (backTo cpos (starEach more (envX cn cs L a ccd []))).any (·.1) = false := by rfl)
    (hk : cs.kind = .function := by rfl) (hx : (envX cn cs L a ccd []).kindOf x = some .globalImplicit := by rfl) (hd : (x == ("__debug__" : Str)) = false := by decide) :
    wpAny (model prog w) A (execs (.Raise (some (.Call (.Name x np) (e₀ :: more) [] cpos)) none pos :: rest) (envX cn cs L a ccd [])) Q E s := by
  refine x_cons ?_
  obtain ⟨tl, N, nm, q, bs, hdct, sn, sub, ab, col, dd, k0, k1, k2, k3, k5, mN, hC, hN, hni, T⟩ := (own_of_in XB (topRead_of TB) hn hq).obj
  refine wpAny_Raise_call_subT (C := C) (nm := nm) (q := q) (N := N) (bs := bs) (bm := tl) (hdct := hdct) (sn := sn) (sub := sub) (ab := ab) (col := col) (dd := dd) (k0 := k0) (k1 := k1) (k2 := k2) (k3 := k3) (k5 := k5)
    FB (mN := mN) (T.hasType FB.hasBase) hh (by rw [he]; show (false || (backTo cpos (starEach more (envX cn cs L a ccd []))).any (·.1)) = false; rw [hplain]; rfl) hni (r_global H XB TB hn ⟨rfl, ?_⟩ hk hx hd)
  rw [he] at h ⊢
  exact Calls.evalArgs_plain (wpAny_mono h (fun vs s₂ h₂ => by
    obtain ⟨vars, news, H₂, h1, h2⟩ := h₂
    exact ⟨rfl, by (show vs.length ≤ _); rw [sizeLine_eq]; omega, H₂.stays _ _ hC, hN.keeps H₂.stays, T.keeps H₂.stays, fun h' e hx => h2 _ e rfl rfl hx⟩) fun _ _ y => y)

theorem x_raise_VE (H : Sy base s₀ Z g fr L vars news s) (XB : K.In base) (TB : Top p loose mean mg mb base) (hh : A.handled = none) {cl : List (Str × Addr)} (hn : nsIn K mainGlobals (Str.ofString "ValueError") = some none)
    (h : wpAny (model prog w) A (spliced (backTo cpos (starEach (e₀ :: more) (envX cn cs L a ccd cl)))) (fun vs s₂ => vs.length ≤ 1000 ∧
      ∀ s₃ e, s₃.gens = s₂.gens → s₃.os = s₂.os → Heap.MadeExcOf s₂.heap s₃.heap e (.type "ValueError") vs → E (.ref e) s₃) E s)
    (he : starEach (e₀ :: more) (envX cn cs L a ccd cl) = (false, eval e₀ (envX cn cs L a ccd cl)) :: starEach more (envX cn cs L a ccd cl) := by rfl)
    (hplain : (backTo cpos (starEach more (envX cn cs L a ccd cl))).any (·.1) = false := by rfl)
    (hk : cs.kind = .function := by rfl) (hx : (envX cn cs L a ccd cl).kindOf (Str.ofString "ValueError") = some .globalImplicit := by rfl) :
    wpAny (model prog w) A (execs (.Raise (some (.Call (.Name (Str.ofString "ValueError") np) (e₀ :: more) [] cpos)) none pos :: rest) (envX cn cs L a ccd cl)) Q E s := by
  refine x_cons (Raise_madeB F.excCall_ValueError F.excRaise_ValueError hh (r_builtin H XB TB hn (v := .type "ValueError") (by boot_by_name) ⟨rfl, ?_⟩ (by decide) hk hx) he hplain)
  exact wpAny_mono h (fun vs s₂ h₂ => ⟨by rw [sizeLine_eq]; omega, fun h' e hx => h₂.2 _ e rfl rfl hx.of⟩) fun _ _ y => y
end
section
variable {M : Model} {A : Around} {E : Value → Shared → Prop} {s : Shared} {env : Env} {rest : List Stmt}
theorem calmRP {t : Sem Flow} {Q : Value → Shared → Prop} (hp : PassesOwn M A env E) (h : ∀ (Q' : Flow → Shared → Prop) (E' : Value → Shared → Prop), (∀ v s, Q v s → Q' (.ret v) s) → (∀ e s, E e s → E' e s) → PassesOwn M A env E' → wpAny M A t Q' E' s) :
    wpAny M A t (fun fl s'' => Q (match fl with | .ret v => v | _ => .none) s'') E s := h _ _ (fun _ _ x => x) (fun _ _ x => x) hp
theorem calmT {t : Sem Unit} {t2 : Sem Flow} {Q : Flow → Shared → Prop} {J : Shared → Prop} (h : ∀ R : Flow → Shared → Prop, (∀ s, J s → R .next s) → wpAny M A t (fun _ s₁ => wpAny M A t2 R E s₁) E s) :
    wpAny M A t (fun _ s₁ => wpAny M A t2 (Turn M A env rest Q E J) E s₁) E s := h _ fun _ x => x
end
end Mine
local macro_rules | `(tactic| walk_at "Msub") => `(tactic| with_reducible first | exact List.nil_sublist _ | exact List.Sublist.refl _ | (refine List.Sublist.cons_cons _ ?_; walk_at "Msub") | (refine List.Sublist.cons _ ?_; walk_at "Msub"))

set_option maxRecDepth 100000
set_option maxHeartbeats 400000
namespace Mine
open PySem.Builtin PySem.Builtin.Str

theorem indices_clip (lo hi : Option Int) (n : Nat) : strSliceIndices lo hi 1 n = (List.range (hi.elim n (clipAt n) - lo.elim 0 (clipAt n))).map (lo.elim 0 (clipAt n) + ·) := by
  have c : ∀ i : Int, max 0 (min (if i < 0 then i + (n : Int) else i) (n : Int)) = ((clipAt n i : Nat) : Int) := fun i => (clipAt_cast n i).symm ▸ rfl
  have := sliceRange_one (lo.elim 0 (clipAt n)) (hi.elim n (clipAt n))
  rw [← this]
  unfold strSliceIndices
  cases lo <;> cases hi <;> simp [c]
theorem clip_le (n : Nat) (i : Int) : clipAt n i ≤ n := by
  unfold clipAt
  omega
theorem slice_S (l : List Nat) (lo hi : Option Int) : Txt.slice (S l) lo hi = S ((l.drop (lo.elim 0 (clipAt l.length))).take (hi.elim l.length (clipAt l.length) - lo.elim 0 (clipAt l.length))) := by
  have ha : lo.elim 0 (clipAt l.length) ≤ l.length := by cases lo <;> simp [clip_le]
  have hb : hi.elim l.length (clipAt l.length) ≤ l.length := by cases hi <;> simp [clip_le]
  unfold Txt.slice
  rw [S_length, indices_clip]
  generalize lo.elim 0 (clipAt l.length) = a at ha ⊢
  generalize hi.elim l.length (clipAt l.length) = b at hb ⊢
  split
  · rename_i h
    simp only [List.length_map, List.length_range, Bool.and_eq_true, beq_iff_eq] at h
    have : b - a = l.length := h.2
    by_cases h0 : l.length = 0
    · have : l = [] := List.eq_nil_of_length_eq_zero h0
      subst this
      simp
    · obtain rfl : a = 0 := by omega
      rw [List.drop_zero, this, List.take_length]
  · have := pick_run l.toArray a (b - a)
    simp only [S_cps]
    rw [this]
    rfl
theorem slice_to (l : List Nat) (n : Nat) : Txt.slice (S l) none (some (n : Int)) = S (l.take n) := by
  rw [slice_S]
  simp only [Option.elim, clipAt_nat, List.drop_zero, Nat.sub_zero]
  by_cases h : n ≤ l.length
  · rw [Nat.min_eq_left h]
  · rw [Nat.min_eq_right (by omega), List.take_length, List.take_of_length_le (by omega)]
theorem slice_from (l : List Nat) (n : Nat) : Txt.slice (S l) (some (n : Int)) none = S (l.drop n) := by
  rw [slice_S]
  simp only [Option.elim, clipAt_nat]
  by_cases h : n ≤ l.length
  · rw [Nat.min_eq_left h, List.take_of_length_le (by simp)]
  · rw [Nat.min_eq_right (by omega), List.drop_length, List.drop_of_length_le (by omega)]
    simp
theorem slice_mid (l : List Nat) (a b : Nat) : Txt.slice (S l) (some (a : Int)) (some (b : Int)) = S ((l.drop a).take (b - a)) := by
  rw [slice_S]
  simp only [Option.elim, clipAt_nat]
  congr 1
  by_cases h : a ≤ l.length
  · rw [Nat.min_eq_left h]
    by_cases h2 : b ≤ l.length
    · rw [Nat.min_eq_left h2]
    · rw [Nat.min_eq_right (by omega), List.take_of_length_le (by simp), List.take_of_length_le (by simp; omega)]
  · rw [Nat.min_eq_right (by omega : l.length ≤ a), List.drop_length, List.drop_of_length_le (by omega)]
    simp
/-- one sign of a text -/
theorem r_item_S {prog : Program} {w : World} {A : Around} {E : Value → Shared → Prop} {s s₀ : Shared} {base g : Heap} {Z fr : List Addr} {L : Addr} {vars : List (Str × Value)} {news : List (Addr × Obj)} {Q : Value → Shared → Prop} {l : List Nat} {t u : Tok} {i : Int} {k : Nat} {value slice : PySem.Expr}
    (H : Sy base s₀ Z g fr L vars news s) (h0 : 0 ≤ i) (h1 : i < 16777216) (hk : l[i.toNat]? = some k) (h : ∀ t s', Sy base s₀ Z g fr L vars news s' → Q (.str (S [k]) t) s')
    (hs : subscripted slice false (.str (S l) t) (.int i u) = operate [.str (S l) t, .int i u] (getItem (.str (S l) t) (.int i u)) := by with_unfolding_all rfl)
    (ht : ∀ r, letTemporaryGo value (.str (S l) t) r = pure () := by intro _; with_unfolding_all rfl) :
    wpAny (model prog w) A (subscriptTail value slice (.str (S l) t) (.int i u)) Q E s := by
  have hlt : i.toNat < l.length := (List.getElem?_eq_some_iff.mp hk).1
  refine item_str (by simp [fitsSsize]; omega) (by omega) (by rw [S_length]; omega) (fun _ => ?_) hs ht
  have e : Txt.item (S l) i = S [k] := by
    have : Txt.charAt (S l) i = some k := by
      unfold Txt.charAt seqIndex?
      rw [S_length]
      have h3 : ¬ i < 0 := by omega
      have h4 : i < (l.length : Int) := by omega
      simp only [h3, if_false, h0, h4, decide_true, Bool.and_self, if_true, Option.bind_some, S_cps, List.getElem?_toArray]
      exact hk
    unfold Txt.item
    rw [this]
    rfl
  rw [e]
  exact h _ _ (H.tk _)

/-- what parse257 reads behind the first quote -/
noncomputable def scan : List Nat → List Nat
  | [] => []
  | [k] => if k = 34 then [] else [k]
  | k :: m :: r => if k = 34 then (if m = 34 then 34 :: scan r else []) else k :: scan (m :: r)
theorem scan_cons {k : Nat} (hk : k ≠ 34) : ∀ r, scan (k :: r) = k :: scan r
  | [] => by simp [scan, hk]
  | m :: r => by simp [scan, hk]
theorem scan_q1 {r : List Nat} (h : r = [] ∨ ∃ m r', r = m :: r' ∧ m ≠ 34) : scan (34 :: r) = [] := by
  rcases h with rfl | ⟨m, r', rfl, hm⟩
  · rfl
  · simp [scan, hm]
theorem scan_q2 (r : List Nat) : scan (34 :: 34 :: r) = 34 :: scan r := by simp [scan]
end Mine

set_option maxRecDepth 100000
set_option maxHeartbeats 4000000
namespace Mine
theorem parse_spec {w : World} {p : Program} {loose : List Str} {mean : ExcName → Option Value} {mg mb : Str → Option Value} {base : Heap} {A : Around} {fs : List Env} {fr : List Addr} {s : Shared} {Q E : Value → Shared → Prop}
    (XB : (hd.heap_39 w.params).In base) (TB : Top p loose mean mg mb base) (P : Pre base A fs fr [] s) (hroom : A.depth < recursionLimit)
    {l : List Nat} {t : Tok} (hl : l.length ≤ 1000)
    (hret : l.take 3 = [50, 53, 55] → ∀ t s', s'.gens = s.gens → s'.os = s.os → Ext [] fr s.heap s'.heap → Q (.str (S (if (l.drop 3).take 2 = [32, 34] then scan (l.drop 5) else [])) t) s')
    (hexc : l.take 3 ≠ [50, 53, 55] → ∀ e s', s'.gens = s.gens → s'.os = s.os → Flown [] fs fr s.heap e (.ref 79) [.str (S l) t] [] s'.heap → E (.ref e) s') :
    wpAny (model PySem.Challenge.rw_of0006_01.row.prog w) A (call (.ref 88) [.str (S l) t]) Q E s := by
  revert XB; k_fill; intro XB
  refine' enterK [(Str.ofString "resp", .str (S l) t)] [Str.ofString "resp"] P XB TB ?o ?c hroom ?bi ?nm ?nd ?_ ?lo ?ce ?x1 ?x2 ?x3
  (case o => k_is)
  (case c => k_is)
  (case bi => exact rfl)
  (case nm => exact rfl)
  (case nd => decide)
  (case lo => decide)
  (case ce => decide)
  (case x1 => rfl)
  (case x2 => rfl)
  (case x3 => rfl)
  intro _ _ _
  rename Sy _ _ _ _ _ _ _ _ _ => H0
  rename_i L s1
  replace H0 : Sy base s [] (hideAll s.heap fr) fr L [(Str.ofString "resp", .str (S l) t)] [] s1 := H0
  refine calmRP (by passes_own) ?_
  intro Q2 E2 hQ2 hE2 hP2
  have hlS := S_length l
  repeat' (first | (with_reducible refine r_sub_cut ?_) | ((with_reducible show wpAny _ _ (eval (Expr.Name _ _) _) _ _ _); with_reducible refine r_local (by with_reducible assumption) (by with_reducible repeat (first | exact List.mem_cons_self | refine List.mem_cons_of_mem _ ?_)) ?_ (by with_unfolding_all rfl) (by with_unfolding_all rfl) (by with_unfolding_all decide)) | (with_reducible refine r_cint (by with_reducible assumption) ?_; intro _ _ _) | (with_reducible refine r_cstr (by with_reducible assumption) ?_; intro _ _ _) | (with_reducible refine x_if ?_) | (with_reducible refine ne_str ?_) | (with_reducible refine evalPart_none_step ?_) | (with_reducible refine evalPart_some_step ?_) | (with_reducible refine wpAny_truthy_bool ?_) | (with_reducible refine r_cut_str (by with_reducible assumption) (by constructor) (by constructor) (by omega) ?_ (by intro _; with_unfolding_all rfl) (by intro _; with_unfolding_all rfl); intro _ _ _) | ((with_reducible show wpAny _ _ (isTrue _ _ _) _ _ _); with_reducible refine wpAny_isTrue_Compare1 ?_ (by with_unfolding_all rfl)))
  have e3 : Txt.slice (S l) none (some 3) = S (l.take 3) := slice_to l 3
  have e5 : Txt.slice (S l) (some 3) (some 5) = S ((l.drop 3).take 2) := slice_mid l 3 5
  rw [e3, show Str.ofString "257" = S [50, 53, 55] from by decide, S_bne]
  by_cases h3 : l.take 3 = [50, 53, 55]
  · refine ifF (by simp [h3]) ?_
    repeat' (first | (with_reducible refine r_sub_cut ?_) | ((with_reducible show wpAny _ _ (eval (Expr.Name _ _) _) _ _ _); with_reducible refine r_local (by with_reducible assumption) (by with_reducible repeat (first | exact List.mem_cons_self | refine List.mem_cons_of_mem _ ?_)) ?_ (by with_unfolding_all rfl) (by with_unfolding_all rfl) (by with_unfolding_all decide)) | (with_reducible refine r_cint (by with_reducible assumption) ?_; intro _ _ _) | (with_reducible refine r_cstr (by with_reducible assumption) ?_; intro _ _ _) | (with_reducible refine x_if ?_) | (with_reducible refine wpAny_execs_nil ?_) | (with_reducible refine ne_str ?_) | (with_reducible refine evalPart_some_step ?_) | (with_reducible refine wpAny_truthy_bool ?_) | (with_reducible refine r_cut_str (by with_reducible assumption) (by constructor) (by constructor) (by omega) ?_ (by intro _; with_unfolding_all rfl) (by intro _; with_unfolding_all rfl); intro _ _ _) | ((with_reducible show wpAny _ _ (isTrue _ _ _) _ _ _); with_reducible refine wpAny_isTrue_Compare1 ?_ (by with_unfolding_all rfl)) | (with_reducible refine seq_next ?_))
    rw [e5, show Str.ofString " \"" = S [32, 34] from by decide, S_bne]
    by_cases h5 : (l.drop 3).take 2 = [32, 34]
    · refine ifF (by simp [h5]) ?_
      have hl5 : 5 ≤ l.length := by
        have := congrArg List.length h5
        simp at this
        omega
      repeat' (first | ((with_reducible show wpAny _ _ (eval (Expr.Name _ _) _) _ _ _); with_reducible refine r_local (by with_reducible assumption) (by with_reducible repeat (first | exact List.mem_cons_self | refine List.mem_cons_of_mem _ ?_)) ?_ (by with_unfolding_all rfl) (by with_unfolding_all rfl) (by with_unfolding_all decide)) | ((with_reducible show wpAny _ _ (eval (Expr.Name _ _) _) _ _ _); refine r_builtin (by with_reducible assumption) (by with_reducible assumption) (by with_reducible assumption) (by k_is) (by boot_by_name) ?_) | (with_reducible refine r_cint (by with_reducible assumption) ?_; intro _ _ _) | (with_reducible refine r_cstr (by with_reducible assumption) ?_; intro _ _ _) | (with_reducible refine Call_ ?_ (by with_unfolding_all rfl)) | (with_reducible refine wpAny_execs_nil ?_) | (with_reducible refine x_assign ?_ (by with_unfolding_all rfl)) | ((with_reducible show wpAny _ _ (call (Value.builtin "len") _ _) _ _ _); with_reducible refine r_len_str (by with_reducible assumption) (by omega) ?_; intro _ _ _) | ((with_reducible show wpAny _ _ (spliced _) _ _ _); with_reducible refine spliced_none ?_) | ((with_reducible show wpAny _ _ (spliced _) _ _ _); with_reducible refine spliced_more ?_ (by with_unfolding_all rfl)) | ((with_reducible show wpAny _ _ (callWith _ _ _ _ _) _ _ _); with_reducible refine PyProof.Rows.callWith_builtin1 ?_ (by with_unfolding_all rfl) (by with_unfolding_all rfl)) | ((with_reducible show wpAny _ _ (storeName _ _ _) _ _ _); with_reducible refine r_store (by with_reducible assumption) (by with_reducible repeat (first | exact SetV.hit | exact SetV.nil | apply SetV.skip (by with_unfolding_all decide))) ?_ (by with_unfolding_all rfl) (by with_unfolding_all rfl); intro _ _) | (with_reducible refine seq_next ?_))
      rename Sy _ _ _ _ _ _ _ _ _ => H
      rw [hlS, show Str.ofString "" = S [] from by decide] at H
      obtain ⟨I, hI⟩ : ∃ I : Nat → Shared → Prop, ∀ n s', I n s' ↔ (∃ (i : Nat) (d : List Nat) (t1 t2 t3 : Tok), i ≤ l.length ∧ n = l.length - i ∧ d.length ≤ i ∧ d ++ scan (l.drop i) = scan (l.drop 5) ∧
        Sy base s [] (hideAll s.heap fr) fr L [(Str.ofString "resp", .str (S l) t), (Str.ofString "dirname", .str (S d) t1), (Str.ofString "i", .int (i : Nat) t2), (Str.ofString "n", .int (l.length : Nat) t3)] [] s') := ⟨_, fun _ _ => Iff.rfl⟩
      refine x_while I (l.length - 5) ((hI _ _).mpr ⟨5, [], _, _, _, hl5, rfl, by simp, by simp, H⟩) ?_ hP2
      intro n s' hIn
      obtain ⟨i, d, t1, t2, t3, hi, rfl, hd, hs, H⟩ := (hI _ _).mp hIn
      clear hIn
      repeat' (first | ((with_reducible show wpAny _ _ (eval (Expr.Name _ _) _) _ _ _); with_reducible refine r_local (by with_reducible assumption) (by with_reducible repeat (first | exact List.mem_cons_self | refine List.mem_cons_of_mem _ ?_)) ?_ (by with_unfolding_all rfl) (by with_unfolding_all rfl) (by with_unfolding_all decide)) | (with_reducible refine lt_int ?_) | (with_reducible refine wpAny_truthy_bool ?_) | ((with_reducible show wpAny _ _ (isTrue _ _ _) _ _ _); with_reducible refine wpAny_isTrue_Compare1 ?_ (by with_unfolding_all rfl)))
      by_cases hlt : i < l.length
      · refine ifT (by simpa using hlt) ?_
        obtain ⟨k, hk⟩ : ∃ k, l[i]? = some k := ⟨_, List.getElem?_eq_getElem hlt⟩
        have hdrop : l.drop i = k :: l.drop (i + 1) := by
          rw [List.drop_eq_getElem_cons hlt]
          rw [List.getElem?_eq_getElem hlt] at hk
          rw [Option.some.inj hk]
        repeat' (first | ((with_reducible show wpAny _ _ (eval (Expr.Name _ _) _) _ _ _); with_reducible refine r_local (by with_reducible assumption) (by with_reducible repeat (first | exact List.mem_cons_self | refine List.mem_cons_of_mem _ ?_)) ?_ (by with_unfolding_all rfl) (by with_unfolding_all rfl) (by with_unfolding_all decide)) | (with_reducible refine Subscript_ ?_) | (with_reducible refine x_assign ?_ (by with_unfolding_all rfl)))
        refine r_item_S (by with_reducible assumption) (by omega) (by omega) (by simpa using hk) ?_
        intro t4 s4 H4
        repeat' (first | ((with_reducible show wpAny _ _ (eval (Expr.Name _ _) _) _ _ _); with_reducible refine r_local (by with_reducible assumption) (by with_reducible repeat (first | exact List.mem_cons_self | refine List.mem_cons_of_mem _ ?_)) ?_ (by with_unfolding_all rfl) (by with_unfolding_all rfl) (by with_unfolding_all decide)) | (with_reducible refine r_cint (by with_reducible assumption) ?_; intro _ _ _) | (with_reducible refine r_cstr (by with_reducible assumption) ?_; intro _ _ _) | (with_reducible refine wpAny_BinOp ?_) | (with_reducible refine x_if ?_) | (with_reducible refine x_assign ?_ (by with_unfolding_all rfl)) | ((with_reducible show wpAny _ _ (binaryOp _ _ _) _ _ _); with_reducible refine r_add_int (by with_reducible assumption) ?_; intro _ _ _) | (with_reducible refine eq_str ?_) | (with_reducible refine wpAny_truthy_bool ?_) | ((with_reducible show wpAny _ _ (storeName _ _ _) _ _ _); with_reducible refine r_store (by with_reducible assumption) (by with_reducible repeat (first | exact SetV.hit | exact SetV.nil | apply SetV.skip (by with_unfolding_all decide))) ?_ (by with_unfolding_all rfl) (by with_unfolding_all rfl); intro _ _) | ((with_reducible show wpAny _ _ (isTrue _ _ _) _ _ _); with_reducible refine wpAny_isTrue_Compare1 ?_ (by with_unfolding_all rfl)))
        rw [show Str.ofString "\"" = S [34] from by decide, S_beq]
        by_cases hq : k = 34
        · refine ifT (by simp [hq]) ?_
          repeat' (first | ((with_reducible show wpAny _ _ (eval (Expr.Name _ _) _) _ _ _); with_reducible refine r_local (by with_reducible assumption) (by with_reducible repeat (first | exact List.mem_cons_self | refine List.mem_cons_of_mem _ ?_)) ?_ (by with_unfolding_all rfl) (by with_unfolding_all rfl) (by with_unfolding_all decide)) | (with_reducible refine x_if ?_) | (with_reducible refine ge_int ?_) | (with_reducible refine wpAny_truthy_bool ?_) | ((with_reducible show wpAny _ _ (isTrue _ _ _) _ _ _); with_reducible refine isTrue_or ?_) | ((with_reducible show wpAny _ _ (isTrue _ _ _) _ _ _); with_reducible refine wpAny_isTrue_Compare1 ?_ (by with_unfolding_all rfl)))
          by_cases hend : l.length ≤ i + 1
          · refine ifT (by simp; omega) ?_
            refine ifT rfl ?_
            repeat' (first | (with_reducible refine x_break ?_) | (with_reducible refine seq_brk ?_) | (with_reducible refine turn_brk ?_) | ((with_reducible show wpAny _ _ (eval (Expr.Name _ _) _) _ _ _); with_reducible refine r_local (by with_reducible assumption) (by with_reducible repeat (first | exact List.mem_cons_self | refine List.mem_cons_of_mem _ ?_)) ?_ (by with_unfolding_all rfl) (by with_unfolding_all rfl) (by with_unfolding_all decide)) | (with_reducible refine x_return ?_))
            rename Sy _ _ _ _ _ _ _ _ _ => H9
            have := hret h3 t1 _ H9.gens H9.os H9.done
            rw [if_pos h5, ← hs, hdrop, hq, scan_q1 (.inl (List.drop_of_length_le hend)), List.append_nil] at this
            exact hQ2 _ _ this
          · refine ifF (by simp; omega) ?_
            have hlt2 : i + 1 < l.length := by omega
            obtain ⟨k2, hk2⟩ : ∃ k, l[i + 1]? = some k := ⟨_, List.getElem?_eq_getElem hlt2⟩
            have hdrop2 : l.drop (i + 1) = k2 :: l.drop (i + 2) := by
              rw [List.drop_eq_getElem_cons hlt2]
              rw [List.getElem?_eq_getElem hlt2] at hk2
              rw [Option.some.inj hk2]
            repeat' (first | ((with_reducible show wpAny _ _ (eval (Expr.Name _ _) _) _ _ _); with_reducible refine r_local (by with_reducible assumption) (by with_reducible repeat (first | exact List.mem_cons_self | refine List.mem_cons_of_mem _ ?_)) ?_ (by with_unfolding_all rfl) (by with_unfolding_all rfl) (by with_unfolding_all decide)) | (with_reducible refine Subscript_ ?_) | ((with_reducible show wpAny _ _ (isTrue _ _ _) _ _ _); with_reducible refine isTrue_or ?_) | ((with_reducible show wpAny _ _ (isTrue _ _ _) _ _ _); with_reducible refine wpAny_isTrue_Compare1 ?_ (by with_unfolding_all rfl)))
            refine r_item_S (by with_reducible assumption) (by omega) (by omega) (by rw [show ((i : Int) + 1).toNat = i + 1 by omega]; exact hk2) ?_
            intro t5 s5 H5
            repeat' (first | (with_reducible refine r_cstr (by with_reducible assumption) ?_; intro _ _ _) | (with_reducible refine ne_str ?_) | (with_reducible refine wpAny_truthy_bool ?_))
            rw [S_bne]
            by_cases hq2 : k2 = 34
            · refine ifF (by simp [hq2]) ?_
              repeat' (((with_reducible show wpAny _ _ (isTrue _ _ _) _ _ _); with_reducible refine isTrue_or_nil ?_))
              refine ifF (by decide) ?_
              repeat' (first | ((with_reducible show wpAny _ _ (eval (Expr.Name _ _) _) _ _ _); with_reducible refine r_local (by with_reducible assumption) (by with_reducible repeat (first | exact List.mem_cons_self | refine List.mem_cons_of_mem _ ?_)) ?_ (by with_unfolding_all rfl) (by with_unfolding_all rfl) (by with_unfolding_all decide)) | (with_reducible refine r_cint (by with_reducible assumption) ?_; intro _ _ _) | (with_reducible refine wpAny_BinOp ?_) | (with_reducible refine wpAny_execs_nil ?_) | (with_reducible refine x_assign ?_ (by with_unfolding_all rfl)) | ((with_reducible show wpAny _ _ (binaryOp _ _ _) _ _ _); with_reducible refine r_add_int (by with_reducible assumption) ?_; intro _ _ _) | ((with_reducible show wpAny _ _ (storeName _ _ _) _ _ _); with_reducible refine r_store (by with_reducible assumption) (by with_reducible repeat (first | exact SetV.hit | exact SetV.nil | apply SetV.skip (by with_unfolding_all decide))) ?_ (by with_unfolding_all rfl) (by with_unfolding_all rfl); intro _ _) | (with_reducible refine seq_next ?_))
              refine r_add_str (by with_reducible assumption) (by rw [S_length, S_length]; simp only [List.length_cons, List.length_nil]; omega) ?_
              rw [S_append]
              intro t6 s6 H6
              repeat' (first | (with_reducible refine turn_next ?_) | (with_reducible refine wpAny_execs_nil ?_) | ((with_reducible show wpAny _ _ (storeName _ _ _) _ _ _); with_reducible refine r_store (by with_reducible assumption) (by with_reducible repeat (first | exact SetV.hit | exact SetV.nil | apply SetV.skip (by with_unfolding_all decide))) ?_ (by with_unfolding_all rfl) (by with_unfolding_all rfl); intro _ _))
              rename Sy _ _ _ _ _ _ _ _ _ => H9
              rw [show ((i : Int) + 1 + 1) = ((i + 2 : Nat) : Int) by omega] at H9
              refine ⟨l.length - (i + 2), by omega, (hI _ _).mpr ⟨i + 2, d ++ [k], _, _, _, by omega, rfl, by simp; omega, ?_, H9.vsub (by walk_at "Msub")⟩⟩
              rw [← hs, hdrop, hdrop2, hq, hq2, scan_q2]
              simp
            · refine ifT (by simp [hq2]) ?_
              refine ifT rfl ?_
              repeat' (first | (with_reducible refine x_break ?_) | (with_reducible refine seq_brk ?_) | (with_reducible refine turn_brk ?_) | ((with_reducible show wpAny _ _ (eval (Expr.Name _ _) _) _ _ _); with_reducible refine r_local (by with_reducible assumption) (by with_reducible repeat (first | exact List.mem_cons_self | refine List.mem_cons_of_mem _ ?_)) ?_ (by with_unfolding_all rfl) (by with_unfolding_all rfl) (by with_unfolding_all decide)) | (with_reducible refine x_return ?_))
              rename Sy _ _ _ _ _ _ _ _ _ => H9
              have := hret h3 t1 _ H9.gens H9.os H9.done
              rw [if_pos h5, ← hs, hdrop, hq, scan_q1 (.inr ⟨_, _, hdrop2, hq2⟩), List.append_nil] at this
              exact hQ2 _ _ this
        · refine ifF (by simp [hq]) ?_
          repeat' (first | ((with_reducible show wpAny _ _ (eval (Expr.Name _ _) _) _ _ _); with_reducible refine r_local (by with_reducible assumption) (by with_reducible repeat (first | exact List.mem_cons_self | refine List.mem_cons_of_mem _ ?_)) ?_ (by with_unfolding_all rfl) (by with_unfolding_all rfl) (by with_unfolding_all decide)) | (with_reducible refine wpAny_BinOp ?_) | (with_reducible refine wpAny_execs_nil ?_) | (with_reducible refine x_assign ?_ (by with_unfolding_all rfl)) | (with_reducible refine seq_next ?_))
          refine r_add_str (by with_reducible assumption) (by rw [S_length, S_length]; simp only [List.length_cons, List.length_nil]; omega) ?_
          rw [S_append]
          intro t6 s6 H6
          repeat' (first | (with_reducible refine turn_next ?_) | (with_reducible refine wpAny_execs_nil ?_) | ((with_reducible show wpAny _ _ (storeName _ _ _) _ _ _); with_reducible refine r_store (by with_reducible assumption) (by with_reducible repeat (first | exact SetV.hit | exact SetV.nil | apply SetV.skip (by with_unfolding_all decide))) ?_ (by with_unfolding_all rfl) (by with_unfolding_all rfl); intro _ _))
          rename Sy _ _ _ _ _ _ _ _ _ => H9
          rw [show ((i : Int) + 1) = ((i + 1 : Nat) : Int) by omega] at H9
          refine ⟨l.length - (i + 1), by omega, (hI _ _).mpr ⟨i + 1, d ++ [k], _, _, _, by omega, rfl, by simp; omega, ?_, H9.vsub (by walk_at "Msub")⟩⟩
          rw [← hs, hdrop, scan_cons hq]
          simp
      · refine ifF (by simpa using hlt) ?_
        repeat' (first | ((with_reducible show wpAny _ _ (eval (Expr.Name _ _) _) _ _ _); with_reducible refine r_local (by with_reducible assumption) (by with_reducible repeat (first | exact List.mem_cons_self | refine List.mem_cons_of_mem _ ?_)) ?_ (by with_unfolding_all rfl) (by with_unfolding_all rfl) (by with_unfolding_all decide)) | (with_reducible refine x_return ?_))
        rename Sy _ _ _ _ _ _ _ _ _ => H9
        have := hret h3 t1 _ H9.gens H9.os H9.done
        rw [if_pos h5, ← hs, List.drop_of_length_le (by omega)] at this
        refine hQ2 _ _ ?_
        simpa [scan] using this
    · refine ifT (by simp [h5]) ?_
      repeat' (first | (with_reducible refine r_cstr (by with_reducible assumption) ?_; intro _ _ _) | (with_reducible refine x_return ?_) | (with_reducible refine seq_ret ?_))
      rename Sy _ _ _ _ _ _ _ _ _ => H
      rw [if_neg h5] at hret
      rw [show Str.ofString "" = S [] from by decide]
      exact hQ2 _ _ (hret h3 _ _ H.gens H.os H.done)
  · refine ifT (by simp [h3]) ?_
    refine' x_raise_own (by with_reducible assumption) XB TB P.hh ?n ?q F.excBase_Exception ?_
    case n => k_is
    case q => k_exc
    repeat' (first | ((with_reducible show wpAny _ _ (eval (Expr.Name _ _) _) _ _ _); with_reducible refine r_local (by with_reducible assumption) (by with_reducible repeat (first | exact List.mem_cons_self | refine List.mem_cons_of_mem _ ?_)) ?_ (by with_unfolding_all rfl) (by with_unfolding_all rfl) (by with_unfolding_all decide)) | ((with_reducible show wpAny _ _ (spliced _) _ _ _); with_reducible refine spliced_none ?_) | ((with_reducible show wpAny _ _ (spliced _) _ _ _); with_reducible refine spliced_more ?_ (by with_unfolding_all rfl)))
    rename Sy _ _ _ _ _ _ _ _ _ => H
    refine ⟨_, _, H, by simp, fun s₃ e g1 g2 hx => hE2 _ _ (leave_raise P H rfl rfl hx g1 g2 (post := []) (fun _ h => nomatch h) fun s4 q1 q2 hf => hexc h3 e s4 q1 q2 hf)⟩
end Mine

set_option maxRecDepth 100000
set_option maxHeartbeats 400000
namespace Mine
/-- octets as numbers -/
noncomputable def B (l : List Nat) : Array UInt8 := (l.map Nat.toUInt8).toArray
theorem S_of (x : Str) : S x.cps.toList = x := by simp [S]
noncomputable def txt (x : String) : List Nat := (Str.ofString x).cps.toList
theorem S_txt (x : String) : S (txt x) = Str.ofString x := S_of _
theorem B_size (l : List Nat) : (B l).size = l.length := by simp [B]
noncomputable def Has (h : Heap) (l : List (Addr × Obj)) : Prop := ∀ p ∈ l, h.get? p.1 = some p.2
noncomputable def OffL (l : List (Addr × Obj)) (as : List Addr) : Prop := ∀ p ∈ l, p.1 ∉ as

noncomputable abbrev Out := Except (Value × List Nat) (List Nat)

/-- an object with a read of its own -/
structure Strm (σ : Type) where
  fn : Addr
  fo : Obj
  fd : FuncData
  fz : List (Addr × Obj)
  adr : List Addr
  Ok : σ → List (Addr × Obj) → Prop
  next : σ → Nat → Out × σ
  hfo : (fn, fo) ∈ fz
  hfd : fo.data = .func fd
  hoff : OffL fz adr
  hadr : ∀ x ld, Ok x ld → ld.map (·.1) = adr
  hbyte : ∀ x ld n bs x', Ok x ld → next x n = (.ok bs, x') → (∀ b ∈ bs, b < 256) ∧ bs.length ≤ n

noncomputable abbrev PR : Program := PySem.Challenge.rw_of0006_01.row.prog

/-- what a call hands back, or raises -/
noncomputable def Ends (Z : List Addr) {σ : Type} (Ok : σ → List (Addr × Obj) → Prop) (fs : List Env) (fr : List Addr) (s : Shared) (Q E : Value → Shared → Prop) {α : Type} (val : α → Tok → Value) : Except (Value × List Nat) α × σ → Prop
  | (.ok v, x') => ∀ t ld' s', s'.gens = s.gens → s'.os = s.os → Ext Z fr s.heap s'.heap → Ok x' ld' → Has s'.heap ld' → Q (val v t) s'
  | (.error (c, m), x') => ∀ e t ld' s', s'.gens = s.gens → s'.os = s.os → Ok x' ld' → Flown Z fs fr s.heap e c [.str (S m) t] ld' s'.heap → E (.ref e) s'

noncomputable def Strm.Works {σ : Type} (T : Strm σ) (w : World) (base : Heap) (d : Nat) : Prop :=
  ∀ (A : Around) (fs : List Env) (fr : List Addr) (s : Shared) (ld : List (Addr × Obj)) (x : σ) (n : Nat) (t : Tok) (Q E : Value → Shared → Prop),
    Pre base A fs fr ld s → Has s.heap T.fz → OffL T.fz fr → T.Ok x ld → A.depth + d < recursionLimit → n ≤ 300 →
    Ends T.adr T.Ok fs fr s Q E (fun bs t => .bytes (B bs) t) (T.next x n) → wpAny (model PR w) A (call (.ref T.fn) [.int (n : Nat) t]) Q E s

/-- the object that bears it -/
structure Strm.At {σ : Type} (T : Strm σ) (x dx : Addr) (es : List DictEntry) (k : Nat) : Prop where
  i : (x, (⟨.ref 52, some dx, .plain, #[]⟩ : Obj)) ∈ T.fz
  d : (dx, dictOf es k) ∈ T.fz
  g : getL (Str.ofString "read") es = some (some (.ref T.fn))

section
variable {σ : Type} {T : Strm σ} {w : World} {base g : Heap} {d : Nat} {A : Around} {fs : List Env} {Z fr : List Addr} {s s₀ : Shared} {vars : List (Str × Value)} {news₀ ld rest : List (Addr × Obj)} {L : Addr} {env : Env} {x : σ} {n : Nat} {t : Tok} {Q E : Value → Shared → Prop}

theorem Sy.app0 (H : Sy base s₀ Z g fr L vars ld s) : Sy base s₀ Z g fr L vars (ld ++ []) s := by rw [List.append_nil]; exact H
theorem Sy.has (H : Sy base s₀ Z g fr L vars ld s) {l : List (Addr × Obj)} (h : Has g l) : Has s.heap l := fun p hp => H.keep _ _ (h p hp)
theorem Sy.offL (H : Sy base s₀ Z g fr L vars ld s) {l : List (Addr × Obj)} (h : Has g l) : OffL l (L :: fr) := fun p hp hm => by
  have := h p hp
  rw [H.off _ hm] at this; cases this

theorem Sy.swap (H : Sy base s₀ Z g fr L vars (ld ++ rest) s) {Z' : List Addr} {ld' : List (Addr × Obj)} {s' : Shared} (e1 : ld.map (·.1) = Z') (e2 : ld'.map (·.1) = Z') (hx : Ext Z' (L :: fr) s.heap s'.heap) (hg : s'.gens = s.gens) (ho : s'.os = s.os) (hh : Has s'.heap ld') :
    Sy base s₀ Z g fr L vars (ld' ++ rest) s' := by
  have hnd := H.nd
  rw [List.map_append, e1] at hnd
  refine H.ext (S := Z') hx hg ho (fun a ha => ?_) (fun p hp => ?_) (by rw [List.map_append, e2]; exact hnd)
  · rw [List.map_append, e1]; exact List.mem_append_left _ ha
  · rw [List.map_append, e1]
    rcases List.mem_append.mp hp with hp | hp
    · exact ⟨hh p hp, List.mem_append_left _ (e2 ▸ List.mem_map_of_mem hp)⟩
    · refine ⟨(hx _ _ (H.led p (List.mem_append_right _ hp)).1 fun q => ?_).1 (H.led p (List.mem_append_right _ hp)).2.1, List.mem_append_right _ (List.mem_map_of_mem hp)⟩
      exact (List.nodup_append.mp hnd).2.2 _ q _ (List.mem_map_of_mem hp) rfl

theorem call_strm (hT : T.Works w base d) (P : Pre base A fs fr news₀ s₀) (H : Sy base s₀ Z g fr L vars (ld ++ rest) s) (hfe : env.frame = some L) (hke : env.scope.kind = .function) (hfz : Has g T.fz) (hok : T.Ok x ld) (hd : A.depth + 1 + d < recursionLimit) (hn : n ≤ 300)
    (h : match T.next x n with
      | (.ok bs, x') => ∀ t ld' s', T.Ok x' ld' → Sy base s₀ Z g fr L vars (ld' ++ rest) s' → Q (.bytes (B bs) t) s'
      | (.error (c, m), x') => ∀ e t ld' s', s'.gens = s.gens → s'.os = s.os → T.Ok x' ld' → Flown T.adr (env :: fs) (L :: fr) s.heap e c [.str (S m) t] ld' s'.heap → E (.ref e) s') :
    wpAny (model PR w) (A.deeper env) (call (.ref T.fn) [.int (n : Nat) t]) Q E s := by
  refine hT _ (env :: fs) (L :: fr) s ld x n t Q E (H.pre P hfe hke (List.sublist_append_left _ _)) (H.has hfz) (H.offL hfz) hok (by show A.depth + 1 + d < _; exact hd) hn ?_
  revert h
  cases T.next x n with
  | mk r x' =>
    cases r with
    | ok bs => exact fun h t ld' s' g1 g2 hx ho hh => h t ld' s' ho (H.swap (T.hadr _ _ hok) (T.hadr _ _ ho) hx g1 g2 hh)
    | error cm => exact fun h => h

theorem r_meth_inst {prog : Program} {A : Around} {K : Frag} {news : List (Addr × Obj)} {y C : Addr} {ox : Obj} {es : List DictEntry} {k : Nat} {name : Str} {v : Value} {pl : Sem Bool} {Q : Value × List Value → Shared → Prop} (H : Sy base s₀ Z g fr L vars news s) (XB : K.In base) (I : InstAt s.heap y ox C (some (dictOf es k))) (hg : plainGet K C name = true) (hh : hasDictIn K C = true)
    (hf : findIn K (.ref C) name = some none) (hl : getL name es = some (some v)) (hv : handedIn v = true) (h : ∀ s', Sy base s₀ Z g fr L vars news s' → Q (v, []) s') : wpAny (model prog w) A (getMethod (.ref y) name pl) Q E s :=
  let X := XB.keeps H.stays
  method_usual X I (plainGet_of hg).1 (plainGet_of hg).2 hf rfl (get_value X I (plainGet_of hg).1 (findObj_own hh hf rfl hl) hv (h _ (H.tk _)))

theorem r_callF {M : Model} {pos : Pos} {news : List (Addr × Obj)} {f : Addr} {o : Obj} {fd : FuncData} {e : Expr} {more : List Expr} (_H : Sy base s₀ Z g fr L vars news s) (hd : o.data = .func fd) (hg : g.get? f = some o)
    (h : wpAny M A (spliced (backTo pos (starEach (e :: more) env))) (fun vs s₁ => (∃ vars news, Sy base s₀ Z g fr L vars news s₁) ∧ wpAny M A (call (.ref f) vs) Q E s₁) E s)
    (he : starEach (e :: more) env = (false, eval e env) :: starEach more env := by rfl) :
    wpAny M A (callWith pos (.ref f) [] (backTo pos (starEach (e :: more) env)) []) Q E s :=
  callWith_def hd (wpAny_mono h (fun vs s₁ h₁ => by
    obtain ⟨⟨vars, news, H⟩, h2⟩ := h₁
    exact ⟨H.keep _ _ hg, h2⟩) fun _ _ x => x) he
end

noncomputable def noUint : List Nat := txt "not enough data in stream to read uint1"
noncomputable def readU {σ : Type} (next : σ → Nat → Out × σ) (x : σ) : Except (Value × List Nat) Nat × σ :=
  match next x 1 with
  | (.error e, x') => (.error e, x')
  | (.ok [], x') => (.error (.type "ValueError", noUint), x')
  | (.ok (k :: _), x') => (.ok k, x')
end Mine

set_option maxRecDepth 100000
set_option maxHeartbeats 4000000
namespace Mine
theorem uint_spec {w : World} {p : Program} {loose : List Str} {mean : ExcName → Option Value} {mg mb : Str → Option Value} {base : Heap} {A : Around} {fs : List Env} {fr : List Addr} {s : Shared} {Q E : Value → Shared → Prop} {σ : Type} {T : Strm σ} {d : Nat} {x dx : Addr} {es : List DictEntry} {k : Nat} {st : σ} {ld : List (Addr × Obj)}
    (XB : (hd.heap_39 w.params).In base) (TB : Top p loose mean mg mb base) (hT : T.Works w base d) (hA : T.At x dx es k) (P : Pre base A fs fr ld s) (hfz : Has s.heap T.fz) (hof : OffL T.fz fr) (hok : T.Ok st ld) (hroom : A.depth + 1 + d < recursionLimit)
    (h : Ends T.adr T.Ok fs fr s Q E (fun (k : Nat) t => .int (k : Nat) t) (readU T.next st)) :
    wpAny (model PySem.Challenge.rw_of0006_01.row.prog w) A (call (.ref 21) [.ref x]) Q E s := by
  revert XB; k_fill; intro XB
  refine' enterK [(Str.ofString "f", .ref x)] [Str.ofString "f"] P XB TB ?o ?c (by omega) ?bi ?nm ?nd ?_ ?lo ?ce ?x1 ?x2 ?x3
  (case o => k_is)
  (case c => k_is)
  (case bi => exact rfl)
  (case nm => exact rfl)
  (case nd => decide)
  (case lo => decide)
  (case ce => decide)
  (case x1 => rfl)
  (case x2 => rfl)
  (case x3 => rfl)
  intro _ _ _
  rename Sy _ _ _ _ _ _ _ _ _ => H
  have hZ := T.hadr _ _ hok
  have hg : Has (hideAll s.heap (ld.map (·.1) ++ fr)) T.fz := fun p hp => hideAll_get _ (hfz p hp) fun q => (List.mem_append.mp q).elim (hZ ▸ T.hoff p hp) (hof p hp)
  repeat' (first | ((with_reducible show wpAny _ _ (eval (Expr.Name _ _) _) _ _ _); with_reducible refine r_local (by with_reducible assumption) (by with_reducible repeat (first | exact List.mem_cons_self | refine List.mem_cons_of_mem _ ?_)) ?_ (by with_unfolding_all rfl) (by with_unfolding_all rfl) (by with_unfolding_all decide)) | (with_reducible refine MethodCall_ ?_ (by with_unfolding_all rfl)) | (with_reducible refine x_assign ?_ (by with_unfolding_all rfl)))
  refine' r_meth_inst H XB ⟨H.has hg _ hA.i, rfl, rfl, H.has hg _ hA.d⟩ ?g1 ?g2 ?g3 hA.g rfl ?_
  case g1 => k_is
  case g2 => k_is
  case g3 => k_is
  clear H
  intro s2 H
  dsimp only
  refine r_callF H T.hfd (hg _ T.hfo) ?_
  repeat' (first | (with_reducible refine r_cint (by with_reducible assumption) ?_; intro _ _ _) | ((with_reducible show wpAny _ _ (spliced _) _ _ _); with_reducible refine spliced_none ?_) | ((with_reducible show wpAny _ _ (spliced _) _ _ _); with_reducible refine spliced_more ?_ (by with_unfolding_all rfl)))
  clear H
  rename Sy _ _ _ _ _ _ _ _ _ => H
  refine ⟨⟨_, _, H⟩, ?_⟩
  refine call_strm (n := 1) hT P H.app0 rfl rfl hg hok hroom (by decide) ?_
  have hb := T.hbyte st ld 1
  unfold readU at h
  revert h hb
  cases T.next st 1 with
  | mk r st' =>
    cases r with
    | error cm =>
      intro h _
      obtain ⟨c, m⟩ := cm
      intro e t ld' s3 g1 g2 ho hf
      refine leave_on P H (S := T.adr) rfl hf g1 g2 (fun a ha => hZ ▸ ha) (post' := ld') (fun p hp => .inl hp) fun s4 q1 q2 hf' => ?_
      exact h e t ld' s4 q1 q2 ho (hZ ▸ hf')
    | ok bs =>
      intro h hb
      obtain ⟨hb1, hb2⟩ := hb bs st' hok rfl
      intro t ld' s3 ho H3
      rw [List.append_nil] at H3
      clear H
      have hbs := B_size bs
      repeat' (first | ((with_reducible show wpAny _ _ (eval (Expr.Name _ _) _) _ _ _); with_reducible refine r_local (by with_reducible assumption) (by with_reducible repeat (first | exact List.mem_cons_self | refine List.mem_cons_of_mem _ ?_)) ?_ (by with_unfolding_all rfl) (by with_unfolding_all rfl) (by with_unfolding_all decide)) | (with_reducible refine x_if ?_) | (with_reducible refine r_truthy_bytes (by with_reducible assumption) (by omega) ?_; intro _ _) | ((with_reducible show wpAny _ _ (storeName _ _ _) _ _ _); with_reducible refine r_store (by with_reducible assumption) (by with_reducible repeat (first | exact SetV.hit | exact SetV.nil | apply SetV.skip (by with_unfolding_all decide))) ?_ (by with_unfolding_all rfl) (by with_unfolding_all rfl); intro _ _) | ((with_reducible show wpAny _ _ (isTrue _ _ _) _ _ _); refine isTrue_plain ?_))
      cases bs with
      | nil =>
        rw [if_neg (by simp [B_size])]
        repeat' (first | (with_reducible refine wpAny_execs_nil ?_) | (with_reducible refine seq_next ?_))
        refine' x_raise_VE (A := A.deeper _) (by with_reducible assumption) XB TB P.hh ?n ?_
        case n => k_is
        repeat' (first | (with_reducible refine r_cstr (by with_reducible assumption) ?_; intro _ _ _) | ((with_reducible show wpAny _ _ (spliced _) _ _ _); with_reducible refine spliced_none ?_) | ((with_reducible show wpAny _ _ (spliced _) _ _ _); with_reducible refine spliced_more ?_ (by with_unfolding_all rfl)))
        clear H3
        rename Sy _ _ _ _ _ _ _ _ _ => H
        refine ⟨by simp, fun s5 e g1 g2 hx => ?_⟩
        refine leave_raise P H rfl rfl hx g1 g2 (post := ld') (fun p hp => hp) fun s6 q1 q2 hf => ?_
        rw [← S_txt] at hf
        exact h e _ ld' s6 q1 q2 ho (hZ ▸ hf)
      | cons b r =>
        rw [if_pos (by simp [B_size])]
        repeat' (first | ((with_reducible show wpAny _ _ (eval (Expr.Name _ _) _) _ _ _); with_reducible refine r_local (by with_reducible assumption) (by with_reducible repeat (first | exact List.mem_cons_self | refine List.mem_cons_of_mem _ ?_)) ?_ (by with_unfolding_all rfl) (by with_unfolding_all rfl) (by with_unfolding_all decide)) | (with_reducible refine r_cint (by with_reducible assumption) ?_; intro _ _ _) | (with_reducible refine Subscript_ ?_) | (with_reducible refine x_return ?_))
        refine r_item_bytes (k := b.toUInt8) (by with_reducible assumption) (by rw [B_size]; omega) (by decide) (by simp [B]) ?_
        clear H3
        intro t5 s5 H
        repeat' ((with_reducible refine seq_ret ?_))
        have hb3 : b < 256 := hb1 b (.head _)
        have e1 : (b.toUInt8.toNat : Nat) = b := by
          simp only [Nat.toUInt8_eq, UInt8.toNat_ofNat']
          omega
        rw [e1]
        exact h t5 ld' s5 H.gens H.os (hZ ▸ H.done) ho (fun p hp => (H.led p hp).1)
end Mine

set_option maxRecDepth 100000
set_option maxHeartbeats 4000000
namespace Mine
theorem r_fmtS {prog : Program} {w : World} {A : Around} {E : Value → Shared → Prop} {s s₀ : Shared} {base g : Heap} {Z fr : List Addr} {L b : Addr} {vars : List (Str × Value)} {news : List (Addr × Obj)} {Q : Value → Shared → Prop} {n k : Int} {t u v : Tok}
    (H : Sy base s₀ Z g fr L vars news s) (hm : (b, ({ cls := .type "tuple", data := .seq [.int n u, .int k v].toArray 0 } : Obj)) ∈ news) (q1 : 0 ≤ n) (q2 : n < 1000) (q3 : 0 ≤ k) (q4 : k < 1000)
    (h : ∀ t s', Sy base s₀ Z g fr L vars news s' → Q (.str (Str.ofString "expected " ++ Str.ofString (toString n) ++ Str.ofString " bytes in a string1, but only " ++ Str.ofString (toString k) ++ Str.ofString " remain") t) s') :
    wpAny (model prog w) A (binaryOp .Mod (.str (Str.ofString "expected %d bytes in a string1, but only %d remain") t) (.ref b)) Q E s := by
  have N1 : News heap0 L s.heap [(b, ({ cls := .type "tuple", data := .seq [.int n u, .int k v].toArray 0 } : Obj))] := fun p hp => by
    rw [List.mem_singleton.mp hp]
    exact ⟨H.get hm, fun e => (H.led _ hm).2.1 (e ▸ .head _), heap0_get _⟩
  refine' KPt.mod_tuple N1 ?kptb ?kptF ?kptm ?_
  case kptb => exact List.mem_singleton.mpr rfl
  case kptF => kpt_eq
  case kptm => kpt_run
  intro t' k'
  exact h _ _ (H.tk _)
end Mine

set_option maxRecDepth 100000
set_option maxHeartbeats 4000000
namespace Mine
theorem r_fmtB {prog : Program} {w : World} {A : Around} {E : Value → Shared → Prop} {s s₀ : Shared} {base g : Heap} {Z fr : List Addr} {L b : Addr} {vars : List (Str × Value)} {news : List (Addr × Obj)} {Q : Value → Shared → Prop} {n k : Int} {t u v : Tok}
    (H : Sy base s₀ Z g fr L vars news s) (hm : (b, ({ cls := .type "tuple", data := .seq [.int n u, .int k v].toArray 0 } : Obj)) ∈ news) (q1 : 0 ≤ n) (q2 : n < 1000) (q3 : 0 ≤ k) (q4 : k < 1000)
    (h : ∀ t s', Sy base s₀ Z g fr L vars news s' → Q (.str (Str.ofString "expected " ++ Str.ofString (toString n) ++ Str.ofString " bytes in a bytes1, but only " ++ Str.ofString (toString k) ++ Str.ofString " remain") t) s') :
    wpAny (model prog w) A (binaryOp .Mod (.str (Str.ofString "expected %d bytes in a bytes1, but only %d remain") t) (.ref b)) Q E s := by
  have N1 : News heap0 L s.heap [(b, ({ cls := .type "tuple", data := .seq [.int n u, .int k v].toArray 0 } : Obj))] := fun p hp => by
    rw [List.mem_singleton.mp hp]
    exact ⟨H.get hm, fun e => (H.led _ hm).2.1 (e ▸ .head _), heap0_get _⟩
  refine' KPt.mod_tuple N1 ?kptb ?kptF ?kptm ?_
  case kptb => exact List.mem_singleton.mpr rfl
  case kptF => kpt_eq
  case kptm => kpt_run
  intro t' k'
  exact h _ _ (H.tk _)
end Mine

set_option maxRecDepth 100000
set_option maxHeartbeats 4000000
namespace Mine
theorem r_fmtP {prog : Program} {w : World} {A : Around} {E : Value → Shared → Prop} {s s₀ : Shared} {base g : Heap} {Z fr : List Addr} {L b : Addr} {vars : List (Str × Value)} {news : List (Addr × Obj)} {Q : Value → Shared → Prop} {n k : Int} {x : Str} {t u v v2 : Tok}
    (H : Sy base s₀ Z g fr L vars news s) (hm : (b, ({ cls := .type "tuple", data := .seq [.int n u, .str x v2, .int k v].toArray 0 } : Obj)) ∈ news) (q1 : 0 ≤ n) (q2 : n < 1000) (q3 : 0 ≤ k) (q4 : k < 1000) (q5 : x.length ≤ 1000000)
    (h : ∀ t s', Sy base s₀ Z g fr L vars news s' → Q (.str (Str.ofString "expected " ++ Str.ofString (toString n) ++ Str.ofString " bytes in a " ++ x ++ Str.ofString ", but only " ++ Str.ofString (toString k) ++ Str.ofString " remain") t) s') :
    wpAny (model prog w) A (binaryOp .Mod (.str (Str.ofString "expected %d bytes in a %s, but only %d remain") t) (.ref b)) Q E s := by
  have N1 : News heap0 L s.heap [(b, ({ cls := .type "tuple", data := .seq [.int n u, .str x v2, .int k v].toArray 0 } : Obj))] := fun p hp => by
    rw [List.mem_singleton.mp hp]
    exact ⟨H.get hm, fun e => (H.led _ hm).2.1 (e ▸ .head _), heap0_get _⟩
  refine' KPt.mod_tuple N1 ?kptb ?kptF ?kptm ?_
  case kptb => exact List.mem_singleton.mpr rfl
  case kptF => kpt_eq
  case kptm => kpt_run
  intro t' k'
  exact h _ _ (H.tk _)
end Mine

set_option maxRecDepth 100000
set_option maxHeartbeats 400000
namespace Mine
namespace L1
open Builtin
theorem args_decode_2 (a b : Value) : argsOk "bytes.decode" ⟨[a, b], []⟩ := by
  unfold argsOk; rw [signature?_of (id := "bytes.decode") (n := ['e', 'd', 'o', 'c', 'e', 'd']) (o := ['s', 'e', 't', 'y', 'b']) (by kernel_rfl) FB.owner_bytes]; kernel_rfl
theorem road_eq {id : String} {b : Array UInt8} : _codecs.decodeRoad id b (PySem.Str.ofString "latin-1") none [] = (_codecs.runDecoder id _codecs.latin1Decoder none true b 0 [] >>= fun r => mkStr ⟨r.1⟩) := by kernel_rfl
theorem entry_eq {c : UInt8} {cs : List UInt8} {t t1 : Tok} : «bytes.decode» ⟨[.bytes (c :: cs).toArray t, .str (PySem.Str.ofString "latin-1") t1], []⟩ = (mkStr (PySem.Str.ofString "utf-8") >>= fun _ => mkStr (PySem.Str.ofString "latin-1") >>= fun e => mkStr (PySem.Str.ofString "bytes.decode") >>= fun d =>
    call (.builtin "_codecs.decode.text") [.bytes (c :: cs).toArray t, e, .none, d] >>= fun v => ret v) := by kernel_rfl
theorem entry_nil {t t1 : Tok} : «bytes.decode» ⟨[.bytes #[] t, .str (PySem.Str.ofString "latin-1") t1], []⟩ = (rule "bytes.decode.empty" >>= fun _ => retStr PySem.Str.empty) := by kernel_rfl
theorem loop_eq {b : Array UInt8} {st : _codecs.Faults} {f : Nat → Nat × Array Nat × _codecs.Faults → Sem (ForInStep (Nat × Array Nat × _codecs.Faults))} (hf : ∀ x p out, p < b.size → out.size ≤ p → f x (p, out, st) = pure (.yield (p + 1, out ++ #[(b.getD p 0).toNat], st))) :
    ∀ (l : List Nat) (p : Nat) (out : Array Nat), out.size ≤ p → p + l.length = b.size → forIn l (p, out, st) f = pure (b.size, out ++ ((b.toList.drop p).map (·.toNat)).toArray, st)
  | [], p, out, _, h => by
    simp only [List.length_nil, Nat.add_zero] at h
    subst h
    have : b.toList.drop b.size = [] := List.drop_of_length_le (by simp)
    rw [this]
    simp
  | x :: l, p, out, ho, h => by
    simp only [List.length_cons] at h
    rw [List.forIn_cons, hf x p out (by omega) ho, pure_bind]
    show forIn l _ f = _
    rw [loop_eq hf l (p + 1) _ (by simp; omega) (by omega)]
    have hp : p < b.toList.length := by rw [Array.length_toList]; omega
    rw [List.drop_eq_getElem_cons hp]
    have : b.getD p 0 = b.toList[p] := by
      rw [Array.getD_eq_getD_getElem?, Array.getElem?_eq_getElem (by omega)]
      simp
    rw [this]
    congr 3
    apply Array.toList_inj.mp
    simp
theorem run_eq {id : String} {b : Array UInt8} (hb : b.size ≤ 1000) : _codecs.runDecoder id _codecs.latin1Decoder none true b 0 [] = pure ((b.toList.map (·.toNat)).toArray, b.size) := by
  unfold _codecs.runDecoder
  simp only [Std.Legacy.Range.forIn_eq_forIn_range', Std.Legacy.Range.size]
  rw [loop_eq (b := b) (st := {}) ?_ _ 0 #[] (Nat.le_refl _) (by simp)]
  · rw [pure_bind]
    simp
  · intro x p out hp ho
    have h1 : ¬ (out.size > sizeLine) := by rw [sizeLine_eq]; omega
    have h2 : ¬ (p ≥ b.size) := by omega
    simp only [h1, h2, if_false]
    rfl
section
variable {prog : Program} {w : World} {A : Around} {E : Value → Shared → Prop} {s : Shared} {b : Array UInt8} {t t1 t2 : Tok}
theorem meets_text {d : PySem.Str} (hb : b.size ≤ 1000) :
    Meets («_codecs.decode.text» ⟨[.bytes b t, .str (PySem.Str.ofString "latin-1") t1, .none, .str d t2], []⟩) (fun _ R s => R (.ok (.ret (.str (S (b.toList.map (·.toNat))) s.toks))) { s with toks := s.toks + 1 }) := by
  refine .of_wp fun prog w A R s h => ?_
  show wpAny _ _ (Bytes.bytesLike _ (.bytes b t) >>= fun r => _) _ _ s
  refine wpAny_bind (wpAny_of_eq KBd.like_eq ?_)
  refine wpAny_bind (wpAny_of_eq KBd.held_eq ?_)
  show wpAny _ _ (_codecs.decodeRoad _ b (PySem.Str.ofString "latin-1") none [] >>= fun v => _) _ _ s
  rw [road_eq, run_eq hb]
  refine wpAny_bind (wpAny_bind (wpAny_pure ?_))
  exact wpAny_mkStr (wpAny_pure ⟨_, rfl, h⟩) (by rw [sizeLine_eq]; simp [Str.length]; omega)
theorem meets_decode (hb : b.size ≤ 1000) :
    Meets («bytes.decode» ⟨[.bytes b t, .str (PySem.Str.ofString "latin-1") t1], []⟩) (fun _ R s => ∀ t' k, R (.ok (.ret (.str (S (b.toList.map (·.toNat))) t'))) { s with toks := k }) := by
  refine .of_wp fun prog w A R s h => ?_
  obtain ⟨l⟩ := b
  cases l with
  | nil =>
    rw [entry_nil]
    refine wpAny_bind (wpAny_rule ?_)
    exact wpAny_bind (wpAny_mkStr (wpAny_pure ⟨_, rfl, h _ _⟩) (by decide))
  | cons c cs =>
    rw [entry_eq]
    refine wpAny_bind (wpAny_mkStr ?_ (by decide))
    refine wpAny_bind (wpAny_mkStr ?_ (by decide))
    refine wpAny_bind (wpAny_mkStr ?_ (by decide))
    exact wpAny_bind (call_function_meets KBd.kind_text KBd.plain_text KBd.entry_text (KBd.args_text _ _ _ _) (meets_text hb) (wpAny_pure ⟨_, rfl, h _ _⟩))
end
end L1
section
variable {prog : Program} {w : World} {A : Around} {E : Value → Shared → Prop} {s s₀ : Shared} {base g : Heap} {Z fr : List Addr} {L : Addr} {vars : List (Str × Value)} {news : List (Addr × Obj)} {Q : Value → Shared → Prop} {t u : Tok} {l : List Nat}
theorem B_back (h : ∀ b ∈ l, b < 256) : (B l).toList.map (·.toNat) = l := by
  induction l with
  | nil => rfl
  | cons b r ih =>
    have e1 : (b.toUInt8.toNat : Nat) = b := by
      have := h b (.head _)
      simp only [Nat.toUInt8_eq, UInt8.toNat_ofNat']
      omega
    have := ih fun b hb => h b (.tail _ hb)
    simp only [B, List.map_cons] at this ⊢
    rw [e1, this]
theorem r_latin (H : Sy base s₀ Z g fr L vars news s) (hb : l.length ≤ 1000) (hl : ∀ b ∈ l, b < 256) (h : ∀ t s', Sy base s₀ Z g fr L vars news s' → Q (.str (S l) t) s') :
    wpAny (model prog w) A (call (.builtin "bytes.decode") [.bytes (B l) t, .str (Str.ofString "latin-1") u]) Q E s :=
  call_meets FB.slot_bytes_decode (typeIs_bytes _ _ _) FB.entry_bytes_decode (L1.args_decode_2 _ _) (L1.meets_decode (by rw [B_size]; exact hb)) fun t' k => by
    rw [B_back hl]; exact h _ _ (H.tk _)
end
end Mine

set_option maxRecDepth 100000
set_option maxHeartbeats 400000
namespace Mine
noncomputable def lackL (mid : String) (n k : Int) : List Nat := txt "expected " ++ txt (toString n) ++ txt mid ++ txt (toString k) ++ txt " remain"
theorem S_lackL (mid : String) (n k : Int) : Str.ofString "expected " ++ Str.ofString (toString n) ++ Str.ofString mid ++ Str.ofString (toString k) ++ Str.ofString " remain" = S (lackL mid n k) := by
  unfold lackL
  simp only [← S_append, S_txt]
noncomputable abbrev midS := " bytes in a string1, but only "
noncomputable abbrev midB := " bytes in a bytes1, but only "
noncomputable def readN {σ : Type} (mid : String) (next : σ → Nat → Out × σ) (x : σ) : Except (Value × List Nat) (List Nat) × σ :=
  match readU next x with
  | (.error e, x') => (.error e, x')
  | (.ok n, x') => match next x' n with
    | (.error e, x'') => (.error e, x'')
    | (.ok bs, x'') => if bs.length = n then (.ok bs, x'') else (.error (.type "ValueError", lackL mid (n : Nat) (bs.length : Nat)), x'')
section
variable {M : Model} {A : Around} {E : Value → Shared → Prop} {s : Shared} {env : Env} {Q : Flow → Shared → Prop} {rest : List Stmt}
theorem x_assert {test : Expr} {msg : Option Expr} {pos : Pos} (h : wpAny M A (isTrue test env (eval test env)) (fun b s₁ => b = true ∧ wpAny M A (execs rest env) Q E s₁) E s) : wpAny M A (execs (.Assert test msg pos :: rest) env) Q E s :=
  x_cons (wpAny_Assert_holds h)
end
theorem readU_byte {σ : Type} {T : Strm σ} {x x' : σ} {ld : List (Addr × Obj)} {n : Nat} (hok : T.Ok x ld) (h : readU T.next x = (.ok n, x')) : n < 256 := by
  unfold readU at h
  have hb := T.hbyte x ld 1
  revert h hb
  cases T.next x 1 with
  | mk r y =>
    cases r with
    | error e => intro h; cases h
    | ok bs =>
      cases bs with
      | nil => intro h; cases h
      | cons k r =>
        intro h hb
        cases h
        exact (hb _ _ hok rfl).1 _ (.head _)
end Mine

set_option maxRecDepth 100000
set_option maxHeartbeats 4000000
namespace Mine
theorem string_spec {w : World} {p : Program} {loose : List Str} {mean : ExcName → Option Value} {mg mb : Str → Option Value} {base : Heap} {A : Around} {fs : List Env} {fr : List Addr} {s : Shared} {Q E : Value → Shared → Prop} {σ : Type} {T : Strm σ} {d : Nat} {x dx : Addr} {es : List DictEntry} {k : Nat} {st : σ} {ld : List (Addr × Obj)}
    (XB : (hd.heap_39 w.params).In base) (TB : Top p loose mean mg mb base) (hT : T.Works w base d) (hA : T.At x dx es k) (P : Pre base A fs fr ld s) (hfz : Has s.heap T.fz) (hof : OffL T.fz fr) (hok : T.Ok st ld) (hroom : A.depth + 2 + d < recursionLimit)
    (h : Ends T.adr T.Ok fs fr s Q E (fun bs t => .str (S bs) t) (readN midS T.next st)) :
    wpAny (model PySem.Challenge.rw_of0006_01.row.prog w) A (call (.ref 28) [.ref x]) Q E s := by
  have XB0 := XB
  revert XB; k_fill; intro XB
  refine' enterK [(Str.ofString "f", .ref x)] [Str.ofString "f"] P XB TB ?o ?c (by omega) ?bi ?nm ?nd ?_ ?lo ?ce ?x1 ?x2 ?x3
  (case o => k_is)
  (case c => k_is)
  (case bi => exact rfl)
  (case nm => exact rfl)
  (case nd => decide)
  (case lo => decide)
  (case ce => decide)
  (case x1 => rfl)
  (case x2 => rfl)
  (case x3 => rfl)
  intro _ _ _
  rename Sy _ _ _ _ _ _ _ _ _ => H
  have hZ := T.hadr _ _ hok
  have hg : Has (hideAll s.heap (ld.map (·.1) ++ fr)) T.fz := fun p hp => hideAll_get _ (hfz p hp) fun q => (List.mem_append.mp q).elim (hZ ▸ T.hoff p hp) (hof p hp)
  repeat' (first | ((with_reducible show wpAny _ _ (eval (Expr.Name _ _) _) _ _ _); with_reducible refine r_local (by with_reducible assumption) (by with_reducible repeat (first | exact List.mem_cons_self | refine List.mem_cons_of_mem _ ?_)) ?_ (by with_unfolding_all rfl) (by with_unfolding_all rfl) (by with_unfolding_all decide)) | ((with_reducible show wpAny _ _ (eval (Expr.Name _ _) _) _ _ _); refine r_global (by with_reducible assumption) (by with_reducible assumption) (by with_reducible assumption) (by k_is) ?_) | (with_reducible refine Call_ ?_ (by with_unfolding_all rfl)) | (with_reducible refine x_assign ?_ (by with_unfolding_all rfl)) | ((with_reducible show wpAny _ _ (spliced _) _ _ _); with_reducible refine spliced_none ?_) | ((with_reducible show wpAny _ _ (spliced _) _ _ _); with_reducible refine spliced_more ?_ (by with_unfolding_all rfl)) | ((with_reducible show wpAny _ _ (callWith _ _ _ _ _) _ _ _); with_reducible refine r_callK (by with_reducible assumption) (by k_is) ?_ (by with_unfolding_all rfl)) | (with_reducible refine r_stays (by with_reducible assumption) ?_))
  refine uint_spec XB0 TB hT hA (H.pre P rfl rfl (List.Sublist.refl _)) (H.has hg) (H.offL hg) hok (by show A.depth + 1 + 1 + d < _; omega) ?_
  unfold readN at h
  revert h
  cases hU : readU T.next st with
  | mk r st' =>
    cases r with
    | error cm =>
      intro h
      obtain ⟨c, m⟩ := cm
      intro e t ld' s3 g1 g2 ho hf
      refine leave_on P H (S := T.adr) rfl hf g1 g2 (fun a ha => hZ ▸ ha) (post' := ld') (fun p hp => .inl hp) fun s4 q1 q2 hf' => ?_
      exact h e t ld' s4 q1 q2 ho (hZ ▸ hf')
    | ok n =>
      have hn := readU_byte hok hU
      intro h
      dsimp only at h
      intro t ld' s3 g1 g2 hx ho hh
      have H3 := H.app0.swap hZ (T.hadr _ _ ho) hx g1 g2 hh
      rw [List.append_nil] at H3
      clear H
      repeat' (first | ((with_reducible show wpAny _ _ (eval (Expr.Name _ _) _) _ _ _); with_reducible refine r_local (by with_reducible assumption) (by with_reducible repeat (first | exact List.mem_cons_self | refine List.mem_cons_of_mem _ ?_)) ?_ (by with_unfolding_all rfl) (by with_unfolding_all rfl) (by with_unfolding_all decide)) | (with_reducible refine r_cint (by with_reducible assumption) ?_; intro _ _ _) | (with_reducible refine x_assert ?_) | (with_reducible refine ge_int ?_) | (with_reducible refine wpAny_truthy_bool ?_) | ((with_reducible show wpAny _ _ (storeName _ _ _) _ _ _); with_reducible refine r_store (by with_reducible assumption) (by with_reducible repeat (first | exact SetV.hit | exact SetV.nil | apply SetV.skip (by with_unfolding_all decide))) ?_ (by with_unfolding_all rfl) (by with_unfolding_all rfl); intro _ _) | ((with_reducible show wpAny _ _ (isTrue _ _ _) _ _ _); with_reducible refine wpAny_isTrue_Compare1 ?_ (by with_unfolding_all rfl)))
      refine ⟨by simp, ?_⟩
      repeat' (first | ((with_reducible show wpAny _ _ (eval (Expr.Name _ _) _) _ _ _); with_reducible refine r_local (by with_reducible assumption) (by with_reducible repeat (first | exact List.mem_cons_self | refine List.mem_cons_of_mem _ ?_)) ?_ (by with_unfolding_all rfl) (by with_unfolding_all rfl) (by with_unfolding_all decide)) | (with_reducible refine MethodCall_ ?_ (by with_unfolding_all rfl)) | (with_reducible refine x_assign ?_ (by with_unfolding_all rfl)))
      clear H3
      rename Sy _ _ _ _ _ _ _ _ _ => H
      refine' r_meth_inst H XB ⟨H.has hg _ hA.i, rfl, rfl, H.has hg _ hA.d⟩ ?g1 ?g2 ?g3 hA.g rfl ?_
      case g1 => k_is
      case g2 => k_is
      case g3 => k_is
      clear H
      intro s4 H
      dsimp only
      refine r_callF H T.hfd (hg _ T.hfo) ?_
      repeat' (first | ((with_reducible show wpAny _ _ (eval (Expr.Name _ _) _) _ _ _); with_reducible refine r_local (by with_reducible assumption) (by with_reducible repeat (first | exact List.mem_cons_self | refine List.mem_cons_of_mem _ ?_)) ?_ (by with_unfolding_all rfl) (by with_unfolding_all rfl) (by with_unfolding_all decide)) | ((with_reducible show wpAny _ _ (spliced _) _ _ _); with_reducible refine spliced_none ?_) | ((with_reducible show wpAny _ _ (spliced _) _ _ _); with_reducible refine spliced_more ?_ (by with_unfolding_all rfl)))
      refine ⟨⟨_, _, H⟩, ?_⟩
      refine call_strm (n := n) hT P H.app0 rfl rfl hg ho (by omega) (by omega) ?_
      have hb := T.hbyte st' ld' n
      revert h hb
      cases T.next st' n with
      | mk r st2 =>
        cases r with
        | error cm =>
          intro h _
          obtain ⟨c, m⟩ := cm
          intro e t ld2 s5 g1 g2 ho2 hf
          refine leave_on P H (S := T.adr) rfl hf g1 g2 (fun a ha => (T.hadr _ _ ho) ▸ ha) (post' := ld2) (fun p hp => .inl hp) fun s6 q1 q2 hf' => ?_
          exact h e t ld2 s6 q1 q2 ho2 (hZ ▸ hf')
        | ok bs =>
          intro h hb
          obtain ⟨hb1, hb2⟩ := hb bs st2 ho rfl
          intro t ld2 s5 ho2 H3
          rw [List.append_nil] at H3
          clear H
          have hbs := B_size bs
          repeat' (first | ((with_reducible show wpAny _ _ (eval (Expr.Name _ _) _) _ _ _); with_reducible refine r_local (by with_reducible assumption) (by with_reducible repeat (first | exact List.mem_cons_self | refine List.mem_cons_of_mem _ ?_)) ?_ (by with_unfolding_all rfl) (by with_unfolding_all rfl) (by with_unfolding_all decide)) | ((with_reducible show wpAny _ _ (eval (Expr.Name _ _) _) _ _ _); refine r_builtin (by with_reducible assumption) (by with_reducible assumption) (by with_reducible assumption) (by k_is) (by boot_by_name) ?_) | (with_reducible refine Call_ ?_ (by with_unfolding_all rfl)) | (with_reducible refine x_if ?_) | (with_reducible refine eq_int ?_) | ((with_reducible show wpAny _ _ (call (Value.builtin "len") _ _) _ _ _); with_reducible refine r_len_bytes (by with_reducible assumption) (by omega) ?_; intro _ _ _) | (with_reducible refine wpAny_truthy_bool ?_) | ((with_reducible show wpAny _ _ (spliced _) _ _ _); with_reducible refine spliced_none ?_) | ((with_reducible show wpAny _ _ (spliced _) _ _ _); with_reducible refine spliced_more ?_ (by with_unfolding_all rfl)) | ((with_reducible show wpAny _ _ (callWith _ _ _ _ _) _ _ _); with_reducible refine PyProof.Rows.callWith_builtin1 ?_ (by with_unfolding_all rfl) (by with_unfolding_all rfl)) | ((with_reducible show wpAny _ _ (storeName _ _ _) _ _ _); with_reducible refine r_store (by with_reducible assumption) (by with_reducible repeat (first | exact SetV.hit | exact SetV.nil | apply SetV.skip (by with_unfolding_all decide))) ?_ (by with_unfolding_all rfl) (by with_unfolding_all rfl); intro _ _) | ((with_reducible show wpAny _ _ (isTrue _ _ _) _ _ _); with_reducible refine wpAny_isTrue_Compare1 ?_ (by with_unfolding_all rfl)))
          rw [hbs]
          dsimp only at h
          by_cases hlen : bs.length = n
          · rw [if_pos hlen] at h
            rw [if_pos (by simp [hlen])]
            repeat' (first | ((with_reducible show wpAny _ _ (eval (Expr.Name _ _) _) _ _ _); with_reducible refine r_local (by with_reducible assumption) (by with_reducible repeat (first | exact List.mem_cons_self | refine List.mem_cons_of_mem _ ?_)) ?_ (by with_unfolding_all rfl) (by with_unfolding_all rfl) (by with_unfolding_all decide)) | (with_reducible refine r_cstr (by with_reducible assumption) ?_; intro _ _ _) | (with_reducible refine MethodCall_ ?_ (by with_unfolding_all rfl)) | (with_reducible refine x_return ?_) | ((with_reducible show wpAny _ _ (getMethod _ _ _) _ _ _); with_reducible refine PySem.W.KBd.method ?_) | ((with_reducible show wpAny _ _ (spliced _) _ _ _); with_reducible refine spliced_none ?_) | ((with_reducible show wpAny _ _ (spliced _) _ _ _); with_reducible refine spliced_more ?_ (by with_unfolding_all rfl)) | ((with_reducible show wpAny _ _ (callWith _ _ _ _ _) _ _ _); with_reducible refine callWith_method1 ?_ (by with_unfolding_all rfl) (by with_unfolding_all rfl); dsimp only [List.cons_append, List.nil_append]))
            refine r_latin (by with_reducible assumption) (by omega) hb1 ?_
            clear H3
            intro t5 s5 H
            exact h t5 ld2 s5 H.gens H.os (hZ ▸ H.done) ho2 (fun p hp => (H.led p hp).1)
          · rw [if_neg hlen] at h
            rw [if_neg (by simp; omega)]
            repeat' (first | (with_reducible refine wpAny_execs_nil ?_) | (with_reducible refine seq_next ?_))
            refine' x_raise_VE (A := A.deeper _) (by with_reducible assumption) XB TB P.hh ?n ?_
            case n => k_is
            repeat' (first | ((with_reducible show wpAny _ _ (eval (Expr.Name _ _) _) _ _ _); with_reducible refine r_local (by with_reducible assumption) (by with_reducible repeat (first | exact List.mem_cons_self | refine List.mem_cons_of_mem _ ?_)) ?_ (by with_unfolding_all rfl) (by with_unfolding_all rfl) (by with_unfolding_all decide)) | ((with_reducible show wpAny _ _ (eval (Expr.Name _ _) _) _ _ _); refine r_builtin (by with_reducible assumption) (by with_reducible assumption) (by with_reducible assumption) (by k_is) (by boot_by_name) ?_) | (with_reducible refine r_cstr (by with_reducible assumption) ?_; intro _ _ _) | (with_reducible refine wpAny_BinOp ?_) | (with_reducible refine Call_ ?_ (by with_unfolding_all rfl)) | (with_reducible refine Tuple_ ?_) | ((with_reducible show wpAny _ _ (call (Value.builtin "len") _ _) _ _ _); with_reducible refine r_len_bytes (by with_reducible assumption) (by omega) ?_; intro _ _ _) | ((with_reducible show wpAny _ _ (spliced _) _ _ _); with_reducible refine spliced_none ?_) | ((with_reducible show wpAny _ _ (spliced _) _ _ _); with_reducible refine spliced_more ?_ (by with_unfolding_all rfl)) | ((with_reducible show wpAny _ _ (callWith _ _ _ _ _) _ _ _); with_reducible refine PyProof.Rows.callWith_builtin1 ?_ (by with_unfolding_all rfl) (by with_unfolding_all rfl)) | ((with_reducible show wpAny _ _ (newTuple _) _ _ _); refine r_newTuple (by with_reducible assumption) ?_; intro _ _ _))
            refine r_fmtS (by with_reducible assumption) (by with_reducible repeat (first | exact List.mem_cons_self | refine List.mem_cons_of_mem _ ?_)) (by omega) (by omega) (by omega) (by omega) ?_
            clear H3
            intro t6 s6 H
            repeat' (((with_reducible show wpAny _ _ (spliced _) _ _ _); with_reducible refine spliced_none ?_))
            refine ⟨by simp, fun s7 e g1 g2 hx => ?_⟩
            refine leave_raise P H rfl rfl hx g1 g2 (post := ld2) (fun p hp => .tail _ hp) fun s6 q1 q2 hf => ?_
            rw [S_lackL, hbs] at hf
            exact h e _ ld2 s6 q1 q2 ho2 (hZ ▸ hf)
end Mine

set_option maxRecDepth 100000
set_option maxHeartbeats 4000000
namespace Mine
theorem bytes_spec {w : World} {p : Program} {loose : List Str} {mean : ExcName → Option Value} {mg mb : Str → Option Value} {base : Heap} {A : Around} {fs : List Env} {fr : List Addr} {s : Shared} {Q E : Value → Shared → Prop} {σ : Type} {T : Strm σ} {d : Nat} {x dx : Addr} {es : List DictEntry} {k : Nat} {st : σ} {ld : List (Addr × Obj)}
    (XB : (hd.heap_39 w.params).In base) (TB : Top p loose mean mg mb base) (hT : T.Works w base d) (hA : T.At x dx es k) (P : Pre base A fs fr ld s) (hfz : Has s.heap T.fz) (hof : OffL T.fz fr) (hok : T.Ok st ld) (hroom : A.depth + 2 + d < recursionLimit)
    (h : Ends T.adr T.Ok fs fr s Q E (fun bs t => .bytes (B bs) t) (readN midB T.next st)) :
    wpAny (model PySem.Challenge.rw_of0006_01.row.prog w) A (call (.ref 35) [.ref x]) Q E s := by
  have XB0 := XB
  revert XB; k_fill; intro XB
  refine' enterK [(Str.ofString "f", .ref x)] [Str.ofString "f"] P XB TB ?o ?c (by omega) ?bi ?nm ?nd ?_ ?lo ?ce ?x1 ?x2 ?x3
  (case o => k_is)
  (case c => k_is)
  (case bi => exact rfl)
  (case nm => exact rfl)
  (case nd => decide)
  (case lo => decide)
  (case ce => decide)
  (case x1 => rfl)
  (case x2 => rfl)
  (case x3 => rfl)
  intro _ _ _
  rename Sy _ _ _ _ _ _ _ _ _ => H
  have hZ := T.hadr _ _ hok
  have hg : Has (hideAll s.heap (ld.map (·.1) ++ fr)) T.fz := fun p hp => hideAll_get _ (hfz p hp) fun q => (List.mem_append.mp q).elim (hZ ▸ T.hoff p hp) (hof p hp)
  repeat' (first | ((with_reducible show wpAny _ _ (eval (Expr.Name _ _) _) _ _ _); with_reducible refine r_local (by with_reducible assumption) (by with_reducible repeat (first | exact List.mem_cons_self | refine List.mem_cons_of_mem _ ?_)) ?_ (by with_unfolding_all rfl) (by with_unfolding_all rfl) (by with_unfolding_all decide)) | ((with_reducible show wpAny _ _ (eval (Expr.Name _ _) _) _ _ _); refine r_global (by with_reducible assumption) (by with_reducible assumption) (by with_reducible assumption) (by k_is) ?_) | (with_reducible refine Call_ ?_ (by with_unfolding_all rfl)) | (with_reducible refine x_assign ?_ (by with_unfolding_all rfl)) | ((with_reducible show wpAny _ _ (spliced _) _ _ _); with_reducible refine spliced_none ?_) | ((with_reducible show wpAny _ _ (spliced _) _ _ _); with_reducible refine spliced_more ?_ (by with_unfolding_all rfl)) | ((with_reducible show wpAny _ _ (callWith _ _ _ _ _) _ _ _); with_reducible refine r_callK (by with_reducible assumption) (by k_is) ?_ (by with_unfolding_all rfl)) | (with_reducible refine r_stays (by with_reducible assumption) ?_))
  refine uint_spec XB0 TB hT hA (H.pre P rfl rfl (List.Sublist.refl _)) (H.has hg) (H.offL hg) hok (by show A.depth + 1 + 1 + d < _; omega) ?_
  unfold readN at h
  revert h
  cases hU : readU T.next st with
  | mk r st' =>
    cases r with
    | error cm =>
      intro h
      obtain ⟨c, m⟩ := cm
      intro e t ld' s3 g1 g2 ho hf
      refine leave_on P H (S := T.adr) rfl hf g1 g2 (fun a ha => hZ ▸ ha) (post' := ld') (fun p hp => .inl hp) fun s4 q1 q2 hf' => ?_
      exact h e t ld' s4 q1 q2 ho (hZ ▸ hf')
    | ok n =>
      have hn := readU_byte hok hU
      intro h
      dsimp only at h
      intro t ld' s3 g1 g2 hx ho hh
      have H3 := H.app0.swap hZ (T.hadr _ _ ho) hx g1 g2 hh
      rw [List.append_nil] at H3
      clear H
      repeat' (first | ((with_reducible show wpAny _ _ (eval (Expr.Name _ _) _) _ _ _); with_reducible refine r_local (by with_reducible assumption) (by with_reducible repeat (first | exact List.mem_cons_self | refine List.mem_cons_of_mem _ ?_)) ?_ (by with_unfolding_all rfl) (by with_unfolding_all rfl) (by with_unfolding_all decide)) | (with_reducible refine r_cint (by with_reducible assumption) ?_; intro _ _ _) | (with_reducible refine x_assert ?_) | (with_reducible refine ge_int ?_) | (with_reducible refine wpAny_truthy_bool ?_) | ((with_reducible show wpAny _ _ (storeName _ _ _) _ _ _); with_reducible refine r_store (by with_reducible assumption) (by with_reducible repeat (first | exact SetV.hit | exact SetV.nil | apply SetV.skip (by with_unfolding_all decide))) ?_ (by with_unfolding_all rfl) (by with_unfolding_all rfl); intro _ _) | ((with_reducible show wpAny _ _ (isTrue _ _ _) _ _ _); with_reducible refine wpAny_isTrue_Compare1 ?_ (by with_unfolding_all rfl)))
      refine ⟨by simp, ?_⟩
      repeat' (first | ((with_reducible show wpAny _ _ (eval (Expr.Name _ _) _) _ _ _); with_reducible refine r_local (by with_reducible assumption) (by with_reducible repeat (first | exact List.mem_cons_self | refine List.mem_cons_of_mem _ ?_)) ?_ (by with_unfolding_all rfl) (by with_unfolding_all rfl) (by with_unfolding_all decide)) | (with_reducible refine MethodCall_ ?_ (by with_unfolding_all rfl)) | (with_reducible refine x_assign ?_ (by with_unfolding_all rfl)))
      clear H3
      rename Sy _ _ _ _ _ _ _ _ _ => H
      refine' r_meth_inst H XB ⟨H.has hg _ hA.i, rfl, rfl, H.has hg _ hA.d⟩ ?g1 ?g2 ?g3 hA.g rfl ?_
      case g1 => k_is
      case g2 => k_is
      case g3 => k_is
      clear H
      intro s4 H
      dsimp only
      refine r_callF H T.hfd (hg _ T.hfo) ?_
      repeat' (first | ((with_reducible show wpAny _ _ (eval (Expr.Name _ _) _) _ _ _); with_reducible refine r_local (by with_reducible assumption) (by with_reducible repeat (first | exact List.mem_cons_self | refine List.mem_cons_of_mem _ ?_)) ?_ (by with_unfolding_all rfl) (by with_unfolding_all rfl) (by with_unfolding_all decide)) | ((with_reducible show wpAny _ _ (spliced _) _ _ _); with_reducible refine spliced_none ?_) | ((with_reducible show wpAny _ _ (spliced _) _ _ _); with_reducible refine spliced_more ?_ (by with_unfolding_all rfl)))
      refine ⟨⟨_, _, H⟩, ?_⟩
      refine call_strm (n := n) hT P H.app0 rfl rfl hg ho (by omega) (by omega) ?_
      have hb := T.hbyte st' ld' n
      revert h hb
      cases T.next st' n with
      | mk r st2 =>
        cases r with
        | error cm =>
          intro h _
          obtain ⟨c, m⟩ := cm
          intro e t ld2 s5 g1 g2 ho2 hf
          refine leave_on P H (S := T.adr) rfl hf g1 g2 (fun a ha => (T.hadr _ _ ho) ▸ ha) (post' := ld2) (fun p hp => .inl hp) fun s6 q1 q2 hf' => ?_
          exact h e t ld2 s6 q1 q2 ho2 (hZ ▸ hf')
        | ok bs =>
          intro h hb
          obtain ⟨hb1, hb2⟩ := hb bs st2 ho rfl
          intro t ld2 s5 ho2 H3
          rw [List.append_nil] at H3
          clear H
          have hbs := B_size bs
          repeat' (first | ((with_reducible show wpAny _ _ (eval (Expr.Name _ _) _) _ _ _); with_reducible refine r_local (by with_reducible assumption) (by with_reducible repeat (first | exact List.mem_cons_self | refine List.mem_cons_of_mem _ ?_)) ?_ (by with_unfolding_all rfl) (by with_unfolding_all rfl) (by with_unfolding_all decide)) | ((with_reducible show wpAny _ _ (eval (Expr.Name _ _) _) _ _ _); refine r_builtin (by with_reducible assumption) (by with_reducible assumption) (by with_reducible assumption) (by k_is) (by boot_by_name) ?_) | (with_reducible refine Call_ ?_ (by with_unfolding_all rfl)) | (with_reducible refine x_if ?_) | (with_reducible refine eq_int ?_) | ((with_reducible show wpAny _ _ (call (Value.builtin "len") _ _) _ _ _); with_reducible refine r_len_bytes (by with_reducible assumption) (by omega) ?_; intro _ _ _) | (with_reducible refine wpAny_truthy_bool ?_) | ((with_reducible show wpAny _ _ (spliced _) _ _ _); with_reducible refine spliced_none ?_) | ((with_reducible show wpAny _ _ (spliced _) _ _ _); with_reducible refine spliced_more ?_ (by with_unfolding_all rfl)) | ((with_reducible show wpAny _ _ (callWith _ _ _ _ _) _ _ _); with_reducible refine PyProof.Rows.callWith_builtin1 ?_ (by with_unfolding_all rfl) (by with_unfolding_all rfl)) | ((with_reducible show wpAny _ _ (storeName _ _ _) _ _ _); with_reducible refine r_store (by with_reducible assumption) (by with_reducible repeat (first | exact SetV.hit | exact SetV.nil | apply SetV.skip (by with_unfolding_all decide))) ?_ (by with_unfolding_all rfl) (by with_unfolding_all rfl); intro _ _) | ((with_reducible show wpAny _ _ (isTrue _ _ _) _ _ _); with_reducible refine wpAny_isTrue_Compare1 ?_ (by with_unfolding_all rfl)))
          rw [hbs]
          dsimp only at h
          by_cases hlen : bs.length = n
          · rw [if_pos hlen] at h
            rw [if_pos (by simp [hlen])]
            repeat' (first | ((with_reducible show wpAny _ _ (eval (Expr.Name _ _) _) _ _ _); with_reducible refine r_local (by with_reducible assumption) (by with_reducible repeat (first | exact List.mem_cons_self | refine List.mem_cons_of_mem _ ?_)) ?_ (by with_unfolding_all rfl) (by with_unfolding_all rfl) (by with_unfolding_all decide)) | (with_reducible refine x_return ?_) | (with_reducible refine seq_ret ?_))
            clear H3
            rename Sy _ _ _ _ _ _ _ _ _ => H
            exact h _ ld2 _ H.gens H.os (hZ ▸ H.done) ho2 (fun p hp => (H.led p hp).1)
          · rw [if_neg hlen] at h
            rw [if_neg (by simp; omega)]
            repeat' (first | (with_reducible refine wpAny_execs_nil ?_) | (with_reducible refine seq_next ?_))
            refine' x_raise_VE (A := A.deeper _) (by with_reducible assumption) XB TB P.hh ?n ?_
            case n => k_is
            repeat' (first | ((with_reducible show wpAny _ _ (eval (Expr.Name _ _) _) _ _ _); with_reducible refine r_local (by with_reducible assumption) (by with_reducible repeat (first | exact List.mem_cons_self | refine List.mem_cons_of_mem _ ?_)) ?_ (by with_unfolding_all rfl) (by with_unfolding_all rfl) (by with_unfolding_all decide)) | ((with_reducible show wpAny _ _ (eval (Expr.Name _ _) _) _ _ _); refine r_builtin (by with_reducible assumption) (by with_reducible assumption) (by with_reducible assumption) (by k_is) (by boot_by_name) ?_) | (with_reducible refine r_cstr (by with_reducible assumption) ?_; intro _ _ _) | (with_reducible refine wpAny_BinOp ?_) | (with_reducible refine Call_ ?_ (by with_unfolding_all rfl)) | (with_reducible refine Tuple_ ?_) | ((with_reducible show wpAny _ _ (call (Value.builtin "len") _ _) _ _ _); with_reducible refine r_len_bytes (by with_reducible assumption) (by omega) ?_; intro _ _ _) | ((with_reducible show wpAny _ _ (spliced _) _ _ _); with_reducible refine spliced_none ?_) | ((with_reducible show wpAny _ _ (spliced _) _ _ _); with_reducible refine spliced_more ?_ (by with_unfolding_all rfl)) | ((with_reducible show wpAny _ _ (callWith _ _ _ _ _) _ _ _); with_reducible refine PyProof.Rows.callWith_builtin1 ?_ (by with_unfolding_all rfl) (by with_unfolding_all rfl)) | ((with_reducible show wpAny _ _ (newTuple _) _ _ _); refine r_newTuple (by with_reducible assumption) ?_; intro _ _ _))
            refine r_fmtB (by with_reducible assumption) (by with_reducible repeat (first | exact List.mem_cons_self | refine List.mem_cons_of_mem _ ?_)) (by omega) (by omega) (by omega) (by omega) ?_
            clear H3
            intro t6 s6 H
            repeat' (((with_reducible show wpAny _ _ (spliced _) _ _ _); with_reducible refine spliced_none ?_))
            refine ⟨by simp, fun s7 e g1 g2 hx => ?_⟩
            refine leave_raise P H rfl rfl hx g1 g2 (post := ld2) (fun p hp => .tail _ hp) fun s6 q1 q2 hf => ?_
            rw [S_lackL, hbs] at hf
            exact h e _ ld2 s6 q1 q2 ho2 (hZ ▸ hf)
end Mine

set_option maxRecDepth 100000
set_option maxHeartbeats 400000
namespace Mine
section
variable {base : Heap} {s₀ : Shared} {g : Heap} {Z fr : List Addr} {L : Addr} {vars vars' : List (Str × Value)} {news news' news₀ : List (Addr × Obj)} {s sA : Shared}

/-- all kept but the frame's own object and one entry -/
theorem Sy.but (H : Sy base s₀ Z g fr L vars news s) {d : Addr} {o o' : Obj} {s' : Shared} {m : Str → Option Value} (U : SetN d o o' news news') (e1 : s'.gens = s.gens) (e2 : s'.os = s.os) (hm : s.heap.Ns L m) (hn : s'.heap.Ns L m)
    (k : ∀ b ob, s.heap.get? b = some ob → b ≠ L → b ≠ d → s'.heap.get? b = some ob) (ho : s'.heap.get? d = some o') : Sy base s₀ Z g fr L vars news' s' := by
  obtain ⟨m', hm', hv⟩ := H.ns
  obtain rfl : m = m' := hm.eq_nsMap.trans hm'.eq_nsMap.symm
  have hd := H.led _ U.mem
  refine ⟨e1.trans H.gens, e2.trans H.os, ⟨m, hn, hv⟩, H.vd, fun b ob e => k b ob (H.keep b ob e) (fun q => ?_) (fun q => ?_), H.off, fun p hp => ?_, by rw [U.adr]; exact H.nd, fun b hb ob e => ?_, H.nL, H.fr0, H.gb, H.gs⟩
  · rw [q, H.off L (.head _)] at e; cases e
  · rw [q] at e; have := hd.2.2; dsimp only at this; rw [e] at this; cases this
  · rcases U.of H.nd p hp with rfl | ⟨hp, hne⟩
    · exact ⟨ho, hd.2⟩
    · exact ⟨k _ _ (H.led p hp).1 (fun q => (H.led p hp).2.1 (q ▸ .head _)) hne, (H.led p hp).2⟩
  · obtain ⟨sl, q⟩ := H.up b hb ob e
    exact ⟨sl, k _ _ q (fun z => H.nL (z ▸ hb)) fun z => hd.2.1 (z ▸ .tail _ hb)⟩

theorem Sy.lib2 (H : Sy base s₀ Z g fr L vars news s) {d : Addr} {o : Obj} (hd : (d, o) ∈ news) : ∃ m post, Fr heap0 L s.heap m ∧ News heap0 L s.heap ((d, o) :: post) ∧ (∀ p ∈ post, p.1 ≠ d) ∧
    ∀ s' o' news', s'.gens = s.gens → s'.os = s.os → SetN d o o' news news' → Fr heap0 L s'.heap m → News heap0 L s'.heap ((d, o') :: post) → Sy base s₀ Z g fr L vars news' s' := by
  obtain ⟨m, hm, hv⟩ := H.ns
  obtain ⟨post, h1, h2⟩ : ∃ all : List (Addr × Obj), (∀ p ∈ all, s.heap.get? p.1 = some p.2 ∧ p.1 ≠ L ∧ p.1 ≠ d) ∧ ∀ b o, s.heap.get? b = some o → b ≠ L → b ≠ d → (b, o) ∈ all := by
    refine ⟨(List.range s.heap.objs.size).filterMap fun b => if b = L ∨ b = d then none else (s.heap.get? b).map fun o => (b, o), fun p hp => ?_, fun b o e hb hb2 => ?_⟩
    · obtain ⟨b, _, hb⟩ := List.mem_filterMap.mp hp
      split at hb
      · cases hb
      · obtain ⟨o, ho, rfl⟩ := Option.map_eq_some_iff.mp hb
        rename_i hq
        exact ⟨ho, fun q => hq (.inl q), fun q => hq (.inr q)⟩
    · exact List.mem_filterMap.mpr ⟨b, List.mem_range.mpr (Heap.lt_size e), by rw [if_neg (fun q => q.elim hb hb2), e]; rfl⟩
  have hd0 := H.led _ hd
  refine ⟨m, post, ⟨hm, (fun b o e => by rw [heap0_get] at e; cases e), Nat.zero_le _⟩, fun p hp => ?_, fun p hp => (h1 p hp).2.2, fun s' o' news' e1 e2 U F' N' => ?_⟩
  · rcases List.mem_cons.mp hp with rfl | hp
    · exact ⟨hd0.1, fun q => hd0.2.1 (q ▸ .head _), heap0_get _⟩
    · exact ⟨(h1 p hp).1, (h1 p hp).2.1, heap0_get _⟩
  · exact H.but U e1 e2 hm F'.ns (fun b ob e hL hb => (N' _ (.tail _ (h2 b ob e hL hb))).1) (N' _ (.head _)).1

theorem Sy.adopt (H₀ : Sy base s₀ Z g fr L vars news₀ sA) (H : Sy base s₀ Z g fr L vars news s) (e : news.map (·.1) = news₀.map (·.1)) {c : Addr} {o : Obj} (h0 : sA.heap.get? c = none) (hc : s.heap.get? c = some o) : Sy base s₀ Z g fr L vars ((c, o) :: news) s := by
  have ne : ∀ b o', sA.heap.get? b = some o' → c ≠ b := fun b o' q z => by rw [← z, h0] at q; cases q
  refine ⟨H.gens, H.os, H.ns, H.vd, H.keep, H.off, fun p hp => ?_, ?_, H.up, H.nL, H.fr0, H.gb, H.gs⟩
  · rcases List.mem_cons.mp hp with rfl | hp
    · refine ⟨hc, fun q => ?_, ?_⟩
      · obtain ⟨_, o', ho', _⟩ := H₀.frEnv _ q
        exact ne _ _ ho' rfl
      · cases q : g.get? c with
        | none => rfl
        | some o' => exact absurd rfl (ne _ _ (H₀.keep _ _ q))
    · exact H.led p hp
  · rw [List.map_cons, List.nodup_cons]
    refine ⟨fun q => ?_, H.nd⟩
    rw [e] at q
    obtain ⟨p, hp, z⟩ := List.mem_map.mp q
    exact ne _ _ (H₀.led p hp).1 z.symm
end

section
variable {prog : Program} {w : World} {M : Model} {A : Around} {E : Value → Shared → Prop} {s s₀ : Shared} {base g : Heap} {Z fr : List Addr} {L a c P : Addr} {vars vars' : List (Str × Value)} {news news' : List (Addr × Obj)} {env : Env} {pos : Pos}
  {cn : Str} {cs : Scope} {ccd : Value} {cl : List (Str × Addr)} {p : Program} {loose : List Str} {mean : ExcName → Option Value} {mg mb : Str → Option Value} {K : Frag} {x : Str} {v : Value} {o : Obj}
theorem r_cell {Q : Value → Shared → Prop} (H : Sy base s₀ Z g fr L vars news s) (hc : cl.lookup x = some c) (hm : (c, o) ∈ news) (hd : o.data = .cell (some v)) (h : Q v s)
    (hk : cs.kind = .function := by rfl) (hx : (envX cn cs L a ccd cl).kindOf x = some .cell := by rfl) (hb : (x == ("__debug__" : Str)) = false := by decide) :
    wpAny M A (eval (.Name x pos) (envX cn cs L a ccd cl)) Q E s := wpAny_Name (wpAny_loadName_cell hk hx hc ⟨o, H.get hm, hd⟩ h) hb
theorem r_storeC {Q : Unit → Shared → Prop} {v₀ : Option Value} {nw : Obj → List (Addr × Obj)} (H : Sy base s₀ Z g fr L vars news s) (hc : cl.lookup x = some c) (U : ∀ o', SetN c o o' news (nw o')) (hd : o.data = .cell v₀)
    (h : ∀ o' s', o'.data = .cell (some v) → Sy base s₀ Z g fr L vars (nw o') s' → Q () s')
    (hk : cs.kind = .function := by rfl) (hx : (envX cn cs L a ccd cl).kindOf x = some .cell := by rfl) : wpAny M A (storeName (envX cn cs L a ccd cl) x v) Q E s := by
  refine wpAny_storeName_cell hk hx hc ⟨o, H.get (U o).mem, hd⟩ fun h' hv hs => ?_
  obtain ⟨o', ho', hd'⟩ := hv
  exact h o' _ hd' (H.set (k := s.toks) (U o') hs ho')

theorem r_nest {name qual : Str} {params : Arguments} {body : List Stmt} {scope : Scope} {ps : Array Value} {firstLine : Nat} {clos : List (Str × Addr)} {Q : Value → Shared → Prop} {nw : Obj → List (Addr × Obj)} (H : Sy base s₀ Z g fr L vars news s) (TB : Top p loose mean mg mb base) (C : CodeHd base c P) (hcd : ccd = .ref c)
    (U : ∀ o', SetN P (tabObj ps) o' news (nw o')) (ht : TriplesOk ps.toList) (hnf : codeAmong pos ps.toList = none) (hcl : closureFor scope (envX cn cs L a ccd cl) = pure clos)
    (h : ∀ f c' oc vs t ctv doc ps' s', Sy base s₀ Z g fr L vars ((f, fnMade name qual params body scope clos doc ((mg "__name__").getD .none) c' ctv) :: (c', oc) :: nw (tabObj ps')) s' → oc.data = .fields vs → vs[1]? = some (.str qual t) → Q (.ref f) s') :
    wpAny M A (makeFunction name qual params (.stmts body) scope (envX cn cs L a ccd cl) [] [] [] pos firstLine) Q E s := by
  have hm := H.led _ (U (tabObj ps)).mem
  have hgs := TB.g.keeps H.stays
  obtain ⟨bm, ob, b1, b2, b3, b4, b5, b6⟩ := TB.bmain
  have hgP : mainGlobals ≠ P := fun q => by
    obtain ⟨o, es, ep, e, hd, _⟩ := hgs
    rw [q, hm.1] at e; cases e; cases hd
  have hbP : bm ≠ P := fun q => by
    have e := H.stays _ _ b3
    rw [q, hm.1] at e; cases e; cases b4
  have hbG : bm ≠ mainGlobals := fun q => by
    obtain ⟨o, es, ep, e, hd, _⟩ := TB.g
    rw [q, e] at b3; cases b3; rw [hd] at b6; cases b6
  refine makeFunction_K (mg := mg) hcl rfl hgs hcd (C.keeps H.stays) hm.1 ht hnf hgP ⟨bm, ob, b1, b2, hbG, hbP, H.stays _ _ b3, b4, b5, b6⟩ fun c' ctv doc h' tk hx hge hlt hrec htb => ?_
  obtain ⟨c₂, oc, vs, t, e2, hoc, hd, hv⟩ := hrec
  cases e2
  have H1 : Sy base s₀ Z g fr L vars (nw (tabObj (ps ++ #[rawInt pos.line, rawInt pos.col, .ref c']))) { s with heap := h', toks := tk } := by
    refine H.ext (S := [P]) (fun b ob e hb => ?_) rfl rfl (fun b hb => ?_) (fun p hp => ?_) (by rw [(U _).adr]; exact H.nd)
    · have := hx b ob (fun q => hb (q ▸ List.mem_singleton.mpr rfl)) e
      exact ⟨fun _ => this, ob.slots, this⟩
    · rw [List.mem_singleton.mp hb]; exact List.mem_map_of_mem (f := (·.1)) (U (tabObj ps)).mem
    · rcases (U _).of H.nd p hp with rfl | ⟨hp, hne⟩
      · exact ⟨htb, List.mem_map_of_mem (f := (·.1)) (U (tabObj ps)).mem⟩
      · exact ⟨hx _ _ hne (H.led p hp).1, List.mem_map_of_mem hp⟩
  have H2 := H.adopt H1 (U _).adr (Heap.get?_none_of_le hge) hoc
  exact h _ c' oc vs t ctv doc _ _ (H2.push (fnMade name qual params body scope clos doc ((mg "__name__").getD .none) c' ctv) tk) hd hv

theorem x_def {name : Str} {params : Arguments} {body rest : List Stmt} {scope : Scope} {Q : Flow → Shared → Prop} (hd0 : params.defaults = []) (hk0 : params.kw_defaults = []) (ha : annTrees params none env = [])
    (h : wpAny M A (makeFunction name (qualnameIn env name name) params (.stmts body) scope env [] [] [] pos pos.line) (fun v s' => wpAny M A (storeName env name v) (fun _ s'' => wpAny M A (execs rest env) Q E s'') E s') E s) :
    wpAny M A (execs (.FunctionDef name params body [] none [] scope none name pos :: rest) env) Q E s := x_cons (nestDef_K hd0 hk0 ha h)
theorem x_assignA {o : Expr} {attr : Str} {pos' : Pos} {value : Expr} {rest : List Stmt} {Q : Flow → Shared → Prop}
    (h : wpAny M A (eval value env) (fun v s₁ => wpAny M A (eval o env) (fun ov s₂ => wpAny M A (setAttr ov attr v) (fun _ s₃ => wpAny M A (execs rest env) Q E s₃) E s₂) E s₁) E s)
    (hs : swapsWith value (some (.Attribute o attr pos')) pos.line env = pure false := by rfl) :
    wpAny M A (execs (.Assign [.Attribute o attr pos'] value pos :: rest) env) Q E s := x_cons (plainObj_wpAny_Assign_Attribute h hs)

theorem r_setattr {name : Str} {y C dx : Addr} {sl : Array (Option Value)} {es : List DictEntry} {n : Nat} {Q : Unit → Shared → Prop} {nw : Tok → List (Addr × Obj)} (H : Sy base s₀ Z g fr L vars news s) (XB : K.In base) (hx : (y, (⟨.ref C, some dx, .plain, sl⟩ : Obj)) ∈ news)
    (U : ∀ t, SetN dx (dictOf es n) (dictOf (putL name (PyData.keyHash w.params name) (.str name t) v es) (putN name es n)) news (nw t))
    (hs : findIn K (.ref C) "__setattr__" = some (some (.builtin "object.__setattr__"))) (hp : plainOver K C = true) (ht : takerIn K C name = some none) (hh : hasDictIn K C = true) (hl : (getL name es).isSome = true)
    (hz : ∀ t, (putL name (PyData.keyHash w.params name) (.str name t) v es).length ≤ 1000)
    (h : ∀ t s', Sy base s₀ Z g fr L vars (nw t) s' → Q () s') : wpAny (model prog w) A (setAttr (.ref y) name v) Q E s := by
  obtain ⟨m, post, F, N, hpost, back⟩ := H.lib2 (U 0).mem
  have X := XB.keeps H.stays
  have I : InstAt s.heap y ⟨.ref C, some dx, .plain, sl⟩ C (some (dictOf es n)) := ⟨H.get hx, rfl, rfl, H.get (U 0).mem⟩
  refine set_plain X I hs (osa_dict (s := { s with toks := s.toks + 1 }) (pre := []) (post := post) F N X I rfl hp ht hh hl (fun _ q => nomatch q) hpost (putName_dict ..) rfl (hz _) fun h' F' N' => ?_)
  exact h (s.toks + 1) _ (back _ _ _ rfl rfl (U _) F' N')
end

section
variable {prog : Program} {w : World} {base : Heap} {A : Around} {fs : List Env} {Z fr : List Addr} {news : List (Addr × Obj)} {s : Shared} {R : Result → Shared → Prop}
  {name qual : Str} {params : Arguments} {body : List Stmt} {scope : Scope} {cl : List (Str × Addr)} {dV kV doc pm cdv ct : Value} {an : Option Addr} {fo : Obj} {f : Addr} {args : List Value} {binds : List (Str × Value)}

theorem enter_code (P : Pre base A fs fr news s) (hlim : base.NoLimit) (ho : s.heap.get? f = some fo) (hd : fo.data = .func (fnX name qual params body scope cl dV kV doc pm an cdv ct)) (hcd : s.heap.CodeRec cdv qual)
    (hroom : A.depth < recursionLimit) (hbind : BindsTo s (fnX name qual params body scope cl dV kV doc pm an cdv ct) ⟨args, []⟩ binds) (hbd : (binds.map (·.1)).Nodup)
    (h : ∀ L s', Sy base s (news.map (·.1)) (hideAll s.heap (news.map (·.1) ++ fr)) fr L binds news s' →
      wpAny (model prog w) (A.deeper (envX qual scope L f cdv cl)) (execs body (envX qual scope L f cdv cl))
        (fun fl s'' => R (.ok (.ret (match fl with | .ret v => v | _ => .none))) s'')
        (fun e s'' => wpAny (model prog w) (A.deeper (envX qual scope L f cdv cl)) (leaving (envX qual scope L f cdv cl) e) (fun _ s3 => R (.error e) s3) (fun e' s3 => R (.error e') s3) s'') s')
    (hloc : ∀ y ∈ binds, scope.names.lookup y.1 = some .local) (hcell : ∀ x ∈ scope.names, x.2 ≠ .cell)
    (hco : scope.isCoroutine = false := by rfl) (hgen : scope.isGenerator = false := by rfl) (hk : scope.kind = .function := by rfl) : codeAny (model prog w) A (.call (.ref f) ⟨args, []⟩) R s := by
  refine codeAny_call_def (fd := fnX name qual params body scope cl dV kV doc pm an cdv ct) (body := body) (binds := binds) hroom ho hd (hlim.keeps P.stays) hcd rfl hbind hcell hloc (fun h₁ hns hk₁ => ?_) hco hgen hk
  refine h s.heap.objs.size _ ⟨rfl, rfl, ⟨_, hns, lookup_reverse_of_nodup hbd⟩, hbd, fun b o e => hk₁ b o (of_hideAll _ e), fun b hb => ?_, fun p hp => ?_, P.nd, fun b hb o e => ?_, fun hm => ?_, fun b hb => (P.fb b hb).2, fun b o e => ?_, fun b o e h1 h2 => ?_⟩
  · rcases List.mem_cons.mp hb with rfl | hb
    · cases q : (hideAll s.heap (news.map (·.1) ++ fr)).get? s.heap.objs.size with
      | none => rfl
      | some o => exact absurd (Heap.lt_size (of_hideAll _ q)) (Nat.lt_irrefl _)
    · exact hideAll_none _ (List.mem_append_right _ hb)
  · refine ⟨hk₁ _ _ (P.nb p hp).1, fun hm => ?_, hideAll_none _ (List.mem_append_left _ (List.mem_map_of_mem hp))⟩
    rcases List.mem_cons.mp hm with e | hm
    · exact absurd (Heap.lt_size (P.nb p hp).1) (by rw [e]; exact Nat.lt_irrefl _)
    · exact (P.nb p hp).2.1 hm
  · exact ⟨o.slots, hk₁ b o e⟩
  · obtain ⟨_, o, ho', _⟩ := P.fb _ hm
    exact absurd (Heap.lt_size ho') (Nat.lt_irrefl _)
  · refine hideAll_get _ (P.stays b o e) fun hm => ?_
    rcases List.mem_append.mp hm with hm | hm
    · obtain ⟨p, hp, rfl⟩ := List.mem_map.mp hm
      rw [(P.nb p hp).2.2] at e; cases e
    · rw [(P.fb b hm).1] at e; cases e
  · exact hideAll_get _ e fun q => (List.mem_append.mp q).elim h1 h2

/-- a function with cells, all of its parameters among them -/
theorem enterC {Q E : Value → Shared → Prop} (P : Pre base A fs fr news s) (hlim : base.NoLimit) (ho : s.heap.get? f = some fo) (hd : fo.data = .func (fnX name qual params body scope [] dV kV doc pm an cdv ct)) (hcd : s.heap.CodeRec cdv qual)
    (hroom : A.depth < recursionLimit) (hbind : bindArgs (fnX name qual params body scope [] dV kV doc pm an cdv ct) ⟨args, []⟩ = pure binds)
    (hkind : (binds.all fun y => scope.names.lookup y.1 == some .local || scope.names.lookup y.1 == some .cell) = true) (hnd : ((cellsFrom 0 scope.names []).map (·.1)).Nodup)
    (h : ∀ L cells s', Sy base s (news.map (·.1)) (hideAll s.heap (news.map (·.1) ++ fr)) fr L [] (cells ++ news) s' → CellsAre (bindC (envOfC qual scope L f cdv).kindOf binds fun _ => none) (cellsFrom (L + 1) scope.names []) cells →
      wpAny (model prog w) (A.deeper (envX qual scope L f cdv (cellsFrom (L + 1) scope.names []))) (execs body (envX qual scope L f cdv (cellsFrom (L + 1) scope.names [])))
        (fun fl s'' => Q (match fl with | .ret v => v | _ => .none) s'')
        (fun e s'' => wpAny (model prog w) (A.deeper (envX qual scope L f cdv (cellsFrom (L + 1) scope.names []))) (leaving (envX qual scope L f cdv (cellsFrom (L + 1) scope.names [])) e) (fun _ s3 => E e s3) (fun e' s3 => E e' s3) s'') s')
    (hco : scope.isCoroutine = false := by rfl) (hgen : scope.isGenerator = false := by rfl) (hk : scope.kind = .function := by rfl) : wpAny (model prog w) A (call (.ref f) args) Q E s := by
  refine wpAny_call (codeAny_call_function hroom ho hd hco hgen rfl hcd (BindsTo.of_eq hbind _ _ _ _ ?_))
  refine wpAny_newFunctionEnv_cells hk (kindsX hkind _) fun env' he s' x => ?_
  subst he
  refine ⟨(hlim.keeps P.stays).keeps x.toInCall.keep, codeAny_func ?_⟩
  obtain ⟨h₁, tk, rfl, _⟩ := x.done
  have hk₁ := x.toInCall.keep
  have hnd' := cellsFrom_names scope.names 0 (s.heap.objs.size + 1) [] [] rfl ▸ hnd
  obtain ⟨cells, NC, Y⟩ := Cl.news (h₀ := s.heap) (Nat.le_refl _) fun n c hm => ⟨x.cell n c (lookup_of_mem_nodup hnd' hm), x.above n c hm⟩
  have hcn : ∀ {cm : Str → Option Value} {cs : List (Str × Addr)} {cells : List (Addr × Obj)}, CellsAre cm cs cells → cells.map (·.1) = cs.map (·.2) := by
    intro cm cs cells Y
    induction Y with
    | nil => rfl
    | cons _ _ ih => simp only [List.map_cons, ih]
  have hap : (cells.map (·.1)).Nodup := by
    rw [hcn Y]
    exact List.pairwise_map.mpr x.apart
  refine h s.heap.objs.size cells _ ⟨rfl, rfl, ⟨_, x.toInCall.ns, fun _ q => nomatch q⟩, List.nodup_nil, fun b o e => hk₁ b o (of_hideAll _ e), fun b hb => ?_, fun p hp => ?_, ?_, fun b hb o e => ?_, fun hm => ?_, fun b hb => (P.fb b hb).2, fun b o e => ?_, fun b o e h1 h2 => ?_⟩ Y
  · rcases List.mem_cons.mp hb with rfl | hb
    · cases q : (hideAll s.heap (news.map (·.1) ++ fr)).get? s.heap.objs.size with
      | none => rfl
      | some o => exact absurd (Heap.lt_size (of_hideAll _ q)) (Nat.lt_irrefl _)
    · exact hideAll_none _ (List.mem_append_right _ hb)
  · rcases List.mem_append.mp hp with hp | hp
    · have n := NC p hp
      refine ⟨n.1, fun hm => ?_, ?_⟩
      · rcases List.mem_cons.mp hm with e | hm
        · exact n.2.1 e
        · obtain ⟨_, o, ho', _⟩ := P.fb _ hm
          rw [n.2.2] at ho'; cases ho'
      · cases q : (hideAll s.heap (news.map (·.1) ++ fr)).get? p.1 with
        | none => rfl
        | some o => have := of_hideAll _ q; rw [n.2.2] at this; cases this
    · refine ⟨hk₁ _ _ (P.nb p hp).1, fun hm => ?_, hideAll_none _ (List.mem_append_left _ (List.mem_map_of_mem hp))⟩
      rcases List.mem_cons.mp hm with e | hm
      · exact absurd (Heap.lt_size (P.nb p hp).1) (by rw [e]; exact Nat.lt_irrefl _)
      · exact (P.nb p hp).2.1 hm
  · rw [List.map_append]
    refine List.nodup_append.mpr ⟨hap, P.nd, fun a ha b hb e => ?_⟩
    obtain ⟨p, hp, rfl⟩ := List.mem_map.mp ha
    obtain ⟨q, hq, rfl⟩ := List.mem_map.mp hb
    have n := (NC p hp).2.2
    rw [e, (P.nb q hq).1] at n; cases n
  · exact ⟨o.slots, hk₁ b o e⟩
  · obtain ⟨_, o, ho', _⟩ := P.fb _ hm
    exact absurd (Heap.lt_size ho') (Nat.lt_irrefl _)
  · refine hideAll_get _ (P.stays b o e) fun hm => ?_
    rcases List.mem_append.mp hm with hm | hm
    · obtain ⟨p, hp, rfl⟩ := List.mem_map.mp hm
      rw [(P.nb p hp).2.2] at e; cases e
    · rw [(P.fb b hm).1] at e; cases e
  · exact hideAll_get _ e fun q => (List.mem_append.mp q).elim h1 h2
theorem enterKc {K : Frag} {p : Program} {loose : List Str} {mean : ExcName → Option Value} {mg mb : Str → Option Value} {oc : Value} {od : Option Addr} {osl : Array (Option Value)} (binds : List (Str × Value)) (nms : List Str)
    (P : Pre base A fs fr news s) (XB : K.In base) (TB : Top p loose mean mg mb base) (ho : K.lookup f = some ⟨oc, od, .func (fnX name qual params body scope [] dV kV doc pm an cdv ct), osl⟩) (hcd : codeIn K cdv qual = true)
    (hroom : A.depth < recursionLimit) (hbind : bindArgs (fnX name qual params body scope [] dV kV doc pm an cdv ct) ⟨args, []⟩ = pure binds) (hnm : binds.map (·.1) = nms) (hnd : nms.Nodup)
    (h : ∀ L s', Sy base s (news.map (·.1)) (hideAll s.heap (news.map (·.1) ++ fr)) fr L binds news s' →
      wpAny (model prog w) (A.deeper (envX qual scope L f cdv [])) (execs body (envX qual scope L f cdv []))
        (fun fl s'' => R (.ok (.ret (match fl with | .ret v => v | _ => .none))) s'')
        (fun e s'' => wpAny (model prog w) (A.deeper (envX qual scope L f cdv [])) (leaving (envX qual scope L f cdv []) e) (fun _ s3 => R (.error e) s3) (fun e' s3 => R (.error e') s3) s'') s')
    (hloc : ∀ y ∈ nms, scope.names.lookup y = some .local) (hcell : ∀ x ∈ scope.names, x.2 ≠ .cell)
    (hco : scope.isCoroutine = false) (hgen : scope.isGenerator = false) (hk : scope.kind = .function) : codeAny (model prog w) A (.call (.ref f) ⟨args, []⟩) R s :=
  enter_code P TB.nolimit ((XB.keeps P.stays) _ _ ho) rfl (codeRec_of (XB.keeps P.stays) hcd) hroom (BindsTo.of_eq hbind) (hnm ▸ hnd) h (fun y hy => hloc _ (hnm ▸ List.mem_map_of_mem hy)) hcell hco hgen hk
theorem enterKC {Q E : Value → Shared → Prop} {K : Frag} {p : Program} {loose : List Str} {mean : ExcName → Option Value} {mg mb : Str → Option Value} {oc : Value} {od : Option Addr} {osl : Array (Option Value)} (binds : List (Str × Value)) (nms : List Str)
    (P : Pre base A fs fr news s) (XB : K.In base) (TB : Top p loose mean mg mb base) (ho : K.lookup f = some ⟨oc, od, .func (fnX name qual params body scope [] dV kV doc pm an cdv ct), osl⟩) (hcd : codeIn K cdv qual = true)
    (hroom : A.depth < recursionLimit) (hbind : bindArgs (fnX name qual params body scope [] dV kV doc pm an cdv ct) ⟨args, []⟩ = pure binds) (hnm : binds.map (·.1) = nms) (hnd : ((cellsFrom 0 scope.names []).map (·.1)).Nodup)
    (h : ∀ L cells s', Sy base s (news.map (·.1)) (hideAll s.heap (news.map (·.1) ++ fr)) fr L [] (cells ++ news) s' → CellsAre (bindC (envOfC qual scope L f cdv).kindOf binds fun _ => none) (cellsFrom (L + 1) scope.names []) cells →
      wpAny (model prog w) (A.deeper (envX qual scope L f cdv (cellsFrom (L + 1) scope.names []))) (execs body (envX qual scope L f cdv (cellsFrom (L + 1) scope.names [])))
        (fun fl s'' => Q (match fl with | .ret v => v | _ => .none) s'')
        (fun e s'' => wpAny (model prog w) (A.deeper (envX qual scope L f cdv (cellsFrom (L + 1) scope.names []))) (leaving (envX qual scope L f cdv (cellsFrom (L + 1) scope.names [])) e) (fun _ s3 => E e s3) (fun e' s3 => E e' s3) s'') s')
    (hloc : (nms.all fun y => scope.names.lookup y == some .local || scope.names.lookup y == some .cell) = true)
    (hco : scope.isCoroutine = false) (hgen : scope.isGenerator = false) (hk : scope.kind = .function) : wpAny (model prog w) A (call (.ref f) args) Q E s :=
  enterC P TB.nolimit ((XB.keeps P.stays) _ _ ho) rfl (codeRec_of (XB.keeps P.stays) hcd) hroom hbind (by rw [← hnm, List.all_map] at hloc; exact hloc) hnd h hco hgen hk
end
end Mine


set_option maxRecDepth 100000
set_option maxHeartbeats 4000000
namespace Mine
theorem r_callC {M : Model} {A : Around} {E : Value → Shared → Prop} {s : Shared} {env : Env} {pos : Pos} {base : Heap} {K : Frag} {f : Value} {e : Expr} {rest : List Expr} {Q : Value → Shared → Prop} (XB : K.In base) (hk : keepIn K f = true)
    (h : wpAny M A (spliced (backTo pos (starEach (e :: rest) env))) (fun vs s₁ => base.StaysIn s₁.heap ∧ wpAny M A (call f vs) Q E s₁) E s)
    (he : starEach (e :: rest) env = (false, eval e env) :: starEach rest env := by rfl) (hplain : (backTo pos (starEach rest env)).any (·.1) = false := by rfl) :
    wpAny M A (callWith pos f [] (backTo pos (starEach (e :: rest) env)) []) Q E s :=
  callWith_K XB hk (wpAny_mono h (fun _ _ h₁ => ⟨XB.keeps h₁.1, h₁.2⟩) fun _ _ x => x) he hplain
theorem mk1 {prog : Program} {w : World} {A : Around} {K : Frag} {C fI : Addr} {R : Result → Shared → Prop} {h : Heap} {g : Array GenState} {d : Drawn} {t : Nat} {os : OsState} {rest : List Value} (X : K.In h) (hm : makesIn K C = true)
    (hi : findIn K (.ref C) "__init__" = some (some (.ref fI))) (hf : isFn K (.ref fI) = true)
    (hq : codeAny (model prog w) (A.under (.builtin "type.__call__" ⟨.ref C :: rest, []⟩)) (.call (.ref fI) ⟨.ref (h.objs.size + 1) :: rest, []⟩) (InitBack (h.objs.size + 1) R) ⟨(h.push emptyDict).push (instObj C h.objs.size), g, d, t, os⟩) :
    codeAny (model prog w) A (.call (.ref C) ⟨rest, []⟩) R ⟨h, g, d, t, os⟩ :=
  make_core (makes_of X hm) (looks_findIn X hi) (fun self => bind_fn X self (beq_iff_eq.mp hf)) (.inl rfl) hq
/-- the one entry that __init__ lays -/
noncomputable abbrev exEs (w : World) (t : Tok) : List DictEntry := [⟨PyData.keyHash w.params (Str.ofString "value"), .str (Str.ofString "value") t, .none⟩]
theorem example_spec {w : World} {p : Program} {loose : List Str} {mean : ExcName → Option Value} {mg mb : Str → Option Value} {base : Heap} {A : Around} {fs : List Env} {fr : List Addr} {s s₀ : Shared} {Q E : Value → Shared → Prop} {Z : List Addr} {g : Heap} {L : Addr} {vars : List (Str × Value)} {news news₀ : List (Addr × Obj)} {env : Env}
    (XB : (hd.heap_39 w.params).In base) (TB : Top p loose mean mg mb base) (P : Pre base A fs fr news₀ s₀) (H : Sy base s₀ Z g fr L vars news s) (hfe : env.frame = some L) (hke : env.scope.kind = .function) (hroom : A.depth + 2 < recursionLimit)
    (h : ∀ x dx t s', Sy base s₀ Z g fr L vars ((x, instObj 52 dx) :: (dx, dictOf (exEs w t) 1) :: news) s' → Q (.ref x) s') :
    wpAny (model PySem.Challenge.rw_of0006_01.row.prog w) (A.deeper env) (call (.ref 52) [.none]) Q E s := by
  revert XB; k_fill; intro XB
  have X := XB.keeps H.stays
  obtain ⟨hh, gg, dd, tt, oo⟩ := s
  refine wpAny_call ?_
  refine' mk1 X ?hm ?hi ?hf ?_
  case hm => k_is
  case hi => k_is
  case hf => k_is
  have H1 := (H.push emptyDict tt).push (instObj 52 hh.objs.size) tt
  rw [Heap.size_push] at H1
  have P1 := H1.pre P hfe hke (news' := [(hh.objs.size + 1, instObj 52 hh.objs.size), (hh.objs.size, emptyDict)]) (.cons_cons _ (.cons_cons _ (List.nil_sublist _)))
  have P2 : Pre base ((A.deeper env).under (.builtin "type.__call__" ⟨[.ref 52, .none], []⟩)) (env :: fs) (L :: fr) _ _ := ⟨P1.hh, P1.hf, P1.hfr, P1.hk, P1.stays, P1.fb, P1.nb, P1.nd⟩
  refine' enterKc [(Str.ofString "self", .ref (hh.objs.size + 1)), (Str.ofString "value", .none)] [Str.ofString "self", Str.ofString "value"] P2 XB TB ?e1 ?e2 (by show A.depth + 1 + 1 < _; omega) ?e3 ?e4 ?e5 ?_ ?e6 ?e7 ?e8 ?e9 ?e10
  (case e1 => k_is)
  (case e2 => k_is)
  (case e3 => exact rfl)
  (case e4 => exact rfl)
  (case e5 => decide)
  (case e6 => decide)
  (case e7 => decide)
  (case e8 => rfl)
  (case e9 => rfl)
  (case e10 => rfl)
  intro _ _ _
  rename Sy _ _ _ _ (L :: fr) _ _ _ _ => H2
  repeat' (first | ((with_reducible show wpAny _ _ (eval (Expr.Name _ _) _) _ _ _); with_reducible refine r_local (by with_reducible assumption) (by with_reducible repeat (first | exact List.mem_cons_self | refine List.mem_cons_of_mem _ ?_)) ?_ (by with_unfolding_all rfl) (by with_unfolding_all rfl) (by with_unfolding_all decide)) | (with_reducible refine x_assignA ?_ (by with_unfolding_all rfl)))
  refine' r_setattr (K := hd.heap_39 w.params) H2 XB List.mem_cons_self (fun t => .skip .hit) ?s1 ?s2 ?s3 ?s4 rfl (fun t => by show 1 ≤ 1000; decide) ?_
  case s1 => k_is
  case s2 => k_is
  case s3 => k_is
  case s4 => k_is
  intro t s3 H3
  refine wpAny_execs_nil ⟨rfl, ?_⟩
  exact h _ _ t _ (H1.swap (ld := [(hh.objs.size + 1, instObj 52 hh.objs.size), (hh.objs.size, emptyDict)]) (ld' := [(hh.objs.size + 1, instObj 52 hh.objs.size), (hh.objs.size, dictOf (exEs w t) 1)]) (rest := news) rfl rfl H3.done H3.gens H3.os fun p hp => (H3.led p hp).1)
end Mine

set_option maxRecDepth 100000
set_option maxHeartbeats 400000
namespace Mine
section
variable {prog : Program} {w : World} {M : Model} {A : Around} {E : Value → Shared → Prop} {s s₀ : Shared} {base g : Heap} {Z fr : List Addr} {L a c P : Addr} {vars vars' : List (Str × Value)} {news news' : List (Addr × Obj)} {env : Env} {pos : Pos}
  {cn : Str} {cs : Scope} {ccd : Value} {cl : List (Str × Addr)} {p : Program} {loose : List Str} {mean : ExcName → Option Value} {mg mb : Str → Option Value} {K : Frag} {x : Str} {v : Value} {o : Obj}
theorem r_freeG {Q : Value → Shared → Prop} {c : Addr} {o : Obj} (H : Sy base s₀ Z g fr L vars news s) (hc : cl.lookup x = some c) (hm : g.get? c = some o) (hd : o.data = .cell (some v)) (h : Q v s)
    (hk : cs.kind = .function := by rfl) (hx : (envX cn cs L a ccd cl).kindOf x = some .free := by rfl) (hb : (x == ("__debug__" : Str)) = false := by decide) (hn : (x == ("__classdict__" : Str)) = false := by decide) :
    wpAny M A (eval (.Name x pos) (envX cn cs L a ccd cl)) Q E s := wpAny_Name (wpAny_loadName_free hk hx hc ⟨o, H.keep _ _ hm, hd⟩ h hn) hb
theorem x_assignS {o i : Expr} {pos' : Pos} {value : Expr} {rest : List Stmt} {Q : Flow → Shared → Prop}
    (h : wpAny M A (eval value env) (fun v s₁ => wpAny M A (eval o env) (fun ov s₂ => wpAny M A (eval i env) (fun iv s₃ => wpAny M A (setItem ov iv v) (fun _ s₄ => wpAny M A (execs rest env) Q E s₄) E s₃) E s₂) E s₁) E s)
    (hs : swapsWith value (some (.Subscript o i pos')) pos.line env = pure false := by rfl) :
    wpAny M A (execs (.Assign [.Subscript o i pos'] value pos :: rest) env) Q E s := x_cons (wpAny_Assign_Subscript h hs)
/-- new addresses -/
noncomputable def New (h : Heap) (as : List Addr) : Prop := ∀ a ∈ as, h.get? a = none
theorem Sy.new (H : Sy base s₀ Z g fr L vars news s) {as : List Addr} (hn : New s.heap as) : ∀ a ∈ as, a ∉ news.map (·.1) ∧ a ∉ L :: fr := fun a ha => by
  refine ⟨fun q => ?_, fun q => ?_⟩
  · obtain ⟨p, hp, rfl⟩ := List.mem_map.mp q
    have := (H.led p hp).1
    rw [hn _ ha] at this; cases this
  · obtain ⟨_, o, ho, _⟩ := H.frEnv a q
    rw [hn _ ha] at ho; cases ho
theorem Sy.isNew (H : Sy base s₀ Z g fr L vars news s) {a : Addr} {o : Obj} (hm : (a, o) ∈ news) (hz : a ∉ Z) : s₀.heap.get? a = none := by
  have hl := H.led _ hm
  cases q : s₀.heap.get? a with
  | none => rfl
  | some o' =>
    have := H.gs a o' q hz fun z => hl.2.1 (.tail _ z)
    rw [hl.2.2] at this; cases this
end
theorem enterF {prog : Program} {w : World} {base : Heap} {A : Around} {fs : List Env} {fr : List Addr} {news : List (Addr × Obj)} {s : Shared} {Q E : Value → Shared → Prop}
    {name qual : Str} {params : Arguments} {body : List Stmt} {scope : Scope} {cl : List (Str × Addr)} {dV kV doc pm cdv ct : Value} {an : Option Addr} {fo : Obj} {f : Addr} {args : List Value} (binds : List (Str × Value)) (nms : List Str)
    (P : Pre base A fs fr news s) (hlim : base.NoLimit) (ho : s.heap.get? f = some fo) (hd : fo.data = .func (fnX name qual params body scope cl dV kV doc pm an cdv ct)) (hcd : s.heap.CodeRec cdv qual)
    (hroom : A.depth < recursionLimit) (hbind : bindArgs (fnX name qual params body scope cl dV kV doc pm an cdv ct) ⟨args, []⟩ = pure binds) (hnm : binds.map (·.1) = nms) (hnd : nms.Nodup)
    (h : ∀ L s', Sy base s (news.map (·.1)) (hideAll s.heap (news.map (·.1) ++ fr)) fr L binds news s' →
      wpAny (model prog w) (A.deeper (envX qual scope L f cdv cl)) (execs body (envX qual scope L f cdv cl))
        (fun fl s'' => Q (match fl with | .ret v => v | _ => .none) s'')
        (fun e s'' => wpAny (model prog w) (A.deeper (envX qual scope L f cdv cl)) (leaving (envX qual scope L f cdv cl) e) (fun _ s3 => E e s3) (fun e' s3 => E e' s3) s'') s')
    (hloc : ∀ y ∈ nms, scope.names.lookup y = some .local) (hcell : ∀ x ∈ scope.names, x.2 ≠ .cell)
    (hco : scope.isCoroutine = false) (hgen : scope.isGenerator = false) (hk : scope.kind = .function) : wpAny (model prog w) A (call (.ref f) args) Q E s :=
  enter P hlim ho hd hcd hroom (BindsTo.of_eq hbind) (hnm ▸ hnd) h (fun y hy => hloc _ (hnm ▸ List.mem_map_of_mem hy)) hcell hco hgen hk
theorem picked_B (l : List Nat) (a n : Nat) : KBy.picked (B l) (some (a : Int)) (some ((a : Int) + (n : Int))) = B ((l.drop a).take n) := by
  rw [KBc.picked_eq, show (a : Int) + (n : Int) = ((a + n : Nat) : Int) by omega]
  simp only [Option.elim, clipAt_nat, B_size]
  unfold B
  rw [List.map_take, List.map_drop]
  generalize hm : l.map Nat.toUInt8 = m
  have hlen : l.length = m.length := by rw [← hm, List.length_map]
  rw [hlen]
  congr 1
  show List.take _ (List.drop _ m) = _
  by_cases h : a ≤ m.length
  · rw [Nat.min_eq_left h]
    by_cases h2 : a + n ≤ m.length
    · rw [Nat.min_eq_left h2, Nat.add_sub_cancel_left]
    · rw [Nat.min_eq_right (by omega), List.take_of_length_le (by simp), List.take_of_length_le (by simp; omega)]
  · rw [Nat.min_eq_right (by omega : m.length ≤ a), List.drop_length, List.drop_of_length_le (by omega)]
    simp
end Mine


set_option maxRecDepth 100000
set_option maxHeartbeats 400000
namespace Mine
section
variable {prog : Program} {w : World} {A : Around} {E : Value → Shared → Prop} {s s₀ : Shared} {base g : Heap} {Z fr : List Addr} {L : Addr} {vars : List (Str × Value)} {news : List (Addr × Obj)} {env : Env} {pos px : Pos} {Q : Value → Shared → Prop}
  {elt iter : Expr} {x : Str} {scope : Scope} {cl : List (Str × Addr)}

theorem paired_map {α β γ : Type} {F : α → β → Prop} {G : γ → β → Prop} {R : α → γ → Prop} (hF : ∀ a b c, R a c → F a b → G c b) : ∀ {l : List α} {m : List β} {k : List γ}, Paired R l k → Paired F l m → Paired G k m
  | _, _, _, .nil, .nil => .nil
  | _, _, _, .cons h r, .cons h' r' => .cons (hF _ _ _ h h') (paired_map hF r r')

theorem signs_paired : ∀ {vs : List Value} {l : List Nat}, vs.length = l.length → (∀ (j : Nat) (v : Value), vs[j]? = some v → ∃ k u, l[j]? = some k ∧ v = Value.str ⟨#[k]⟩ u) → Paired (fun (v : Value) (k : Nat) => ∃ u, v = Value.str ⟨#[k]⟩ u) vs l
  | [], [], _, _ => .nil
  | [], _ :: _, h, _ => by simp at h
  | _ :: _, [], h, _ => by simp at h
  | v :: r, k :: m, h, hP => by
    obtain ⟨k', u, h1, h2⟩ := hP 0 v rfl
    simp at h1
    subst h1
    exact .cons ⟨u, h2⟩ (signs_paired (by simpa using h) fun j v e => by
      obtain ⟨k, u, h1, h2⟩ := hP (j + 1) v (by simpa using e)
      exact ⟨k, u, by simpa using h1, h2⟩)
/-- what a comprehension does once its values are at hand -/
noncomputable def Comp (prog : Program) (w : World) (A : Around) (E : Value → Shared → Prop) (env : Env) (elt : Expr) (x : Str) (scope : Scope) (cl : List (Str × Addr)) (F : Value → Value → Prop) (Q : Value → Shared → Prop) (xv : Value) (s₁ : Shared) : Prop :=
  wpAny (model prog w) A (pyIter xv) (fun it s₂ => ∃ I fp wr n P St, it = .ref I ∧ Walks prog w A I fp wr n P St ∧ n ≤ sizeLine ∧ St 0 s₂.heap ∧ (∀ b ∈ fp, b < s₂.heap.objs.size) ∧
      QuietOnC prog w A env scope cl x [] elt wr P (fun _ => true) F s₂ ∧
      (∀ D h' tk ys (vs : List Value), s₂.heap.get? D = none → h'.IsList D ys → h'.PlainList D ys → vs.length = n → (∀ j v, vs[j]? = some v → P j v) → Paired F (vs.filter fun _ => true) ys.toList →
        (∀ b o, b ∉ wr → s₂.heap.get? b = some o → h'.get? b = some o) → Q (.ref D) { s₂ with heap := h', toks := tk })) E s₁
theorem r_comp (F : Value → Value → Prop) (hclos : closureFor scope env = pure cl) (hcell : ∀ y ∈ scope.names, y.2 ≠ .cell) (hkind : scope.kind = .function)
    (hnames : ∀ y ∈ scope.names, y.2 = .local → scope.names.lookup y.1 = some .local) (hx : scope.names.lookup x = some .local)
    (h : wpAny (model prog w) A (eval iter env) (fun xv s₁ => Comp prog w A E env elt x scope cl F Q xv s₁) E s)
    (hs : ∀ x, foldedSetIterable iter env x = pure x := by intro _; rfl) :
    wpAny (model prog w) A (eval (.ListComp elt [⟨.Name x px, iter, [], 0⟩] scope pos) env) Q E s := wpAny_ListComp_free (fun _ => true) F hclos hcell hkind hnames hx h hs

/-- the element's tree, for one value -/
noncomputable def Elt (prog : Program) (w : World) (A : Around) (env : Env) (elt : Expr) (x : Str) (scope : Scope) (cl : List (Str × Addr)) (base : Heap) (F : Value → Value → Prop) (v : Value) : Prop :=
  ∀ C s₃ m₃ E', s₃.heap.Ns C m₃ → m₃ x = some v → base.StaysIn s₃.heap → wpAny (model prog w) A (eval elt (compEnvC scope cl C env)) (fun y s₄ => F v y ∧ Keeps s₃ s₄) E' s₃

theorem comp_list {l : Addr} {items : List Value} {F : Value → Value → Prop} (hh : A.handled = none) (H : Sy base s₀ Z g fr L vars news s) (hl : s.heap.IsList l items.toArray) (hsz : items.length ≤ 1000000) (helt : ∀ v ∈ items, Elt prog w A env elt x scope cl base F v)
    (h : ∀ D n ys s', Paired F items ys → Sy base s₀ Z g fr L vars ((D, lst ys n) :: news) s' → Q (.ref D) s') : Comp prog w A E env elt x scope cl F Q (.ref l) s := by
  unfold Comp
  obtain ⟨ol, hol, hlr⟩ := id hl
  have hlt := Heap.lt_size hol
  refine wpAny_pyIter_list hl ?_
  have W := Walks.list (prog := prog) (w := w) hh s.heap.objs.size l (Nat.ne_of_lt hlt) items.toArray
  have fresh : ∀ b o, s.heap.get? b = some o → b ∉ [s.heap.objs.size] := fun b o e q => absurd (Heap.lt_size e) (by rw [List.mem_singleton.mp q]; exact Nat.lt_irrefl _)
  refine ⟨_, _, _, _, _, _, rfl, W, by rw [sizeLine_eq, List.size_toArray]; omega, ⟨⟨_, Heap.get?_push_size _ rfl, rfl, rfl⟩, hl.at fun o e => Heap.get?_push_of_some _ e⟩, fun b hb => ?_, ⟨?_, ?_⟩, ?_⟩
  · rw [Heap.size_push]
    rcases List.mem_cons.mp hb with rfl | hb
    · exact Nat.lt_succ_self _
    · rw [List.mem_singleton.mp hb]; exact Nat.lt_succ_of_lt hlt
  · intro C i v s₃ m₃ E' _ _ hn hm _ _
    exact wpAny_pure ⟨rfl, s₃.heap, s₃.toks, rfl, fun _ _ e => e⟩
  · intro C i v s₃ m₃ E' _ hP _ hn hm hk _
    exact helt v (by simp only [List.getElem?_toArray] at hP; exact List.mem_of_getElem? hP) C s₃ m₃ E' hn hm fun b o e => hk b o (fresh b o (H.stays b o e)) (Heap.get?_push_of_some _ (H.stays b o e))
  · intro D h' tk ys vs hD hil hpl hlen hP hF hk
    obtain ⟨n, hpl⟩ := hpl
    have e : vs = items := by
      refine List.ext_getElem? fun j => ?_
      by_cases hj : j < vs.length
      · have h1 := hP j vs[j] (List.getElem?_eq_getElem hj)
        rw [List.getElem?_eq_getElem hj]
        simpa using h1.symm
      · rw [List.getElem?_eq_none (by omega), List.getElem?_eq_none (by rw [hlen, List.size_toArray] at hj; omega)]
    subst e
    have hF : Paired F vs ys.toList := by rwa [List.filter_eq_self.mpr (fun _ _ => rfl)] at hF
    have kp : ∀ b o, s.heap.get? b = some o → h'.get? b = some o := fun b o e => hk b o (fresh b o e) (Heap.get?_push_of_some _ e)
    have hD0 : s.heap.get? D = none := by
      cases q : s.heap.get? D with
      | none => rfl
      | some o =>
        have hD' : (s.heap.push { cls := .type "list_iterator", data := .fields #[.ref l, .int 0 0] }).get? D = none := hD
        rw [Heap.get?_push_of_some _ q] at hD'; cases hD'
    exact h D n ys.toList _ hF (H.adopt (H.grown (k := tk) kp) rfl hD0 (by simpa using hpl))

theorem comp_str {l : List Nat} {t : Tok} {F : Value → Value → Prop} {G : Nat → Value → Prop} (hh : A.handled = none) (H : Sy base s₀ Z g fr L vars news s) (hsz : l.length ≤ 1000000) (hG : ∀ k u y, F (.str ⟨#[k]⟩ u) y → G k y) (helt : ∀ k ∈ l, ∀ u, Elt prog w A env elt x scope cl base F (.str ⟨#[k]⟩ u))
    (h : ∀ D n ys s', Paired G l ys → Sy base s₀ Z g fr L vars ((D, lst ys n) :: news) s' → Q (.ref D) s') : Comp prog w A E env elt x scope cl F Q (.str (S l) t) s := by
  unfold Comp
  refine wpAny_pyIter_str fun o St hW hSt => ?_
  have W := hW A hh
  have fresh : ∀ b o, s.heap.get? b = some o → b ∉ [s.heap.objs.size] := fun b o e q => absurd (Heap.lt_size e) (by rw [List.mem_singleton.mp q]; exact Nat.lt_irrefl _)
  refine ⟨_, _, _, _, _, _, rfl, W, by rw [sizeLine_eq, S_cps, List.size_toArray]; omega, hSt, fun b hb => ?_, ⟨?_, ?_⟩, ?_⟩
  · rw [Heap.size_push, List.mem_singleton.mp hb]
    exact Nat.lt_succ_self _
  · intro C i v s₃ m₃ E' _ _ hn hm _ _
    exact wpAny_pure ⟨rfl, s₃.heap, s₃.toks, rfl, fun _ _ e => e⟩
  · intro C i v s₃ m₃ E' _ hP _ hn hm hk _
    obtain ⟨k, u, hk1, rfl⟩ := hP
    rw [S_cps, List.getElem?_toArray] at hk1
    exact helt k (List.mem_of_getElem? hk1) u C s₃ m₃ E' hn hm fun b o e => hk b o (fresh b o (H.stays b o e)) (Heap.get?_push_of_some _ (H.stays b o e))
  · intro D h' tk ys vs hD hil hpl hlen hP hF hk
    obtain ⟨n, hpl⟩ := hpl
    have hF : Paired F vs ys.toList := by rwa [List.filter_eq_self.mpr (fun _ _ => rfl)] at hF
    have hR := signs_paired (vs := vs) (l := l) (by rw [S_cps, List.size_toArray] at hlen; exact hlen) fun j v e => by
      obtain ⟨k, u, h1, h2⟩ := hP j v e
      exact ⟨k, u, by simpa [S_cps] using h1, h2⟩
    have kp : ∀ b o, s.heap.get? b = some o → h'.get? b = some o := fun b o e => hk b o (fresh b o e) (Heap.get?_push_of_some _ e)
    have hD0 : s.heap.get? D = none := by
      cases q : s.heap.get? D with
      | none => rfl
      | some o' =>
        have hD' : (s.heap.push o).get? D = none := hD
        rw [Heap.get?_push_of_some _ q] at hD'; cases hD'
    exact h D n ys.toList _ (paired_map (fun a b c hr hf => by obtain ⟨u, rfl⟩ := hr; exact hG _ _ _ hf) hR hF) (H.adopt (H.grown (k := tk) kp) rfl hD0 (by simpa using hpl))
end
end Mine

set_option maxRecDepth 100000
set_option maxHeartbeats 400000
namespace Mine
section
variable {prog : Program} {w : World} {A : Around} {s : Shared} {base : Heap} {L a : Addr} {px p1 p2 p3 : Pos} {kk : Nat}
  {x : Str} {scope : Scope} {cl clE : List (Str × Addr)} {cn : Str} {cs : Scope} {ccd : Value} {K : Frag} {p : Program} {loose : List Str} {mean : ExcName → Option Value} {mg mb : Str → Option Value}
theorem c_local {M : Model} {E : Value → Shared → Prop} {C : Addr} {m : Str → Option Value} {v : Value} {env : Env} {Q : Value → Shared → Prop} (hn : s.heap.Ns C m) (hm : m x = some v) (h : Q v s) (hk : scope.kind = .function) (hx : (compEnvC scope cl C env).kindOf x = some .local) (hd : (x == ("__debug__" : Str)) = false) :
    wpAny M A (eval (.Name x px) (compEnvC scope cl C env)) Q E s := wpAny_Name (wpAny_loadName_local (by show (relabel scope env).kind = _; exact hk) hx hn hm h) hd
theorem c_builtin {M : Model} {E : Value → Shared → Prop} {C : Addr} {y : Str} {v : Value} {Q : Value → Shared → Prop} (hst : base.StaysIn s.heap) (XB : K.In base) (TB : Top p loose mean mg mb base) (e : nsIn K mainGlobals y = some none) (hv : bootBuiltins y = some v) (h : Q v s) (hk : scope.kind = .function)
    (hx : (compEnvC scope cl C (envX cn cs L a ccd clE)).kindOf y = some .globalImplicit) (hn : y ≠ "__name__") (hd : (y == ("__debug__" : Str)) = false) :
    wpAny M A (eval (.Name y px) (compEnvC scope cl C (envX cn cs L a ccd clE))) Q E s :=
  Name_function_global (by show (relabel scope _).kind = _; exact hk) hx (loadGlobal_builtin (env := compEnvC scope cl C (envX cn cs L a ccd clE)) (TB.g.keeps hst) (mg_none_of XB TB.g e) (TB.b.keeps hst) ((TB.builtins y hn).trans hv) h) hd
theorem elt_ord {k : Nat} {u : Tok} (XB : K.In base) (TB : Top p loose mean mg mb base) (e : nsIn K mainGlobals (Str.ofString "ord") = some none) (hk : scope.kind = .function) (hx : ∀ C, (compEnvC scope cl C (envX cn cs L a ccd clE)).kindOf x = some .local)
    (ho : ∀ C, (compEnvC scope cl C (envX cn cs L a ccd clE)).kindOf (Str.ofString "ord") = some .globalImplicit) (hd : (x == ("__debug__" : Str)) = false) :
    Elt prog w A (envX cn cs L a ccd clE) (.Call (.Name (Str.ofString "ord") p1) [.Name x p2] [] p3) x scope cl base (fun v y => ∃ k u t, v = .str ⟨#[k]⟩ u ∧ y = .int (k : Nat) t) (.str ⟨#[k]⟩ u) := by
  intro C s₃ m₃ E' hn hm hst
  refine Call_ ?_
  refine c_builtin (v := .builtin "ord") hst XB TB e (by boot_by_name) ?_ hk (ho C) (by decide) (by decide)
  refine PyProof.Rows.callWith_builtin1 ?_
  refine spliced_more (c_local hn hm ?_ hk (hx C) hd)
  refine spliced_none ?_
  exact ord_of_one rfl ⟨⟨k, u, _, rfl, rfl⟩, s₃.heap, _, rfl, fun _ _ e => e⟩
theorem elt_chr {k : Nat} {u : Tok} (XB : K.In base) (TB : Top p loose mean mg mb base) (e : nsIn K mainGlobals (Str.ofString "chr") = some none) (hk : scope.kind = .function) (hx : ∀ C, (compEnvC scope cl C (envX cn cs L a ccd clE)).kindOf x = some .local)
    (ho : ∀ C, (compEnvC scope cl C (envX cn cs L a ccd clE)).kindOf (Str.ofString "chr") = some .globalImplicit) (hd : (x == ("__debug__" : Str)) = false) (hk2 : k < 256) :
    Elt prog w A (envX cn cs L a ccd clE) (.Call (.Name (Str.ofString "chr") p1) [.Name x p2] [] p3) x scope cl base (fun v y => ∃ k u t, v = .int (k : Nat) u ∧ y = .str ⟨#[k]⟩ t) (.int (k : Nat) u) := by
  intro C s₃ m₃ E' hn hm hst
  refine Call_ ?_
  refine c_builtin (v := .builtin "chr") hst XB TB e (by boot_by_name) ?_ hk (ho C) (by decide) (by decide)
  refine PyProof.Rows.callWith_builtin1 ?_
  refine spliced_more (c_local hn hm ?_ hk (hx C) hd)
  refine spliced_none ?_
  exact chr_of_range (by omega) (by omega) ⟨⟨k, u, _, rfl, rfl⟩, s₃.heap, _, rfl, fun _ _ e => e⟩
theorem elt_mod {i b : Int} {u : Tok} (hb : 0 < b) (hk : scope.kind = .function) (hx : ∀ C, (compEnvC scope cl C (envX cn cs L a ccd clE)).kindOf x = some .local) (hd : (x == ("__debug__" : Str)) = false) :
    Elt prog w A (envX cn cs L a ccd clE) (.BinOp (.Name x p1) .Mod (.Constant (.int b) kk p2) p3) x scope cl base (fun v y => ∃ i u t, v = .int i u ∧ y = .int (i % b) t) (.int i u) := by
  intro C s₃ m₃ E' hn hm hst
  refine wpAny_BinOp (c_local hn hm ?_ hk (hx C) hd)
  refine wpAny_Constant_int ?_
  refine mod_int (by omega) ?_
  rw [Int.fmod_eq_emod_of_nonneg i (Int.le_of_lt hb)]
  exact ⟨⟨i, u, _, rfl, rfl⟩, s₃.heap, _, rfl, fun _ _ e => e⟩
theorem elt_div {i b : Int} {u : Tok} (hb : 0 < b) (hb2 : b < 1000) (hk : scope.kind = .function) (hx : ∀ C, (compEnvC scope cl C (envX cn cs L a ccd clE)).kindOf x = some .local) (hd : (x == ("__debug__" : Str)) = false) :
    Elt prog w A (envX cn cs L a ccd clE) (.BinOp (.Name x p1) .FloorDiv (.Constant (.int b) kk p2) p3) x scope cl base (fun v y => ∃ i u t, v = .int i u ∧ y = .int (i / b) t) (.int i u) := by
  intro C s₃ m₃ E' hn hm hst
  refine wpAny_BinOp (c_local hn hm ?_ hk (hx C) hd)
  refine wpAny_Constant_int ?_
  refine floordiv_int (by omega) ?_ (.inl (PyProof.noPylong_of_log2 (Nat.lt_of_le_of_lt (Nat.log2_le_self _) (by omega))))
  rw [Int.fdiv_eq_ediv_of_nonneg i (Int.le_of_lt hb)]
  exact ⟨⟨i, u, _, rfl, rfl⟩, s₃.heap, _, rfl, fun _ _ e => e⟩
end
/-- whole numbers, as values -/
noncomputable abbrev IsInts (l : List Nat) (ys : List Value) : Prop := Paired (fun (k : Nat) y => ∃ t, y = Value.int (k : Nat) t) l ys
theorem IsInts.are {l : List Nat} {ys : List Value} (h : IsInts l ys) : IntsAre ys (l.map fun k => ((k : Nat) : Int)) := by
  induction h with
  | nil => exact .nil
  | cons h _ ih => obtain ⟨t, rfl⟩ := h; exact .cons _ _ ih
theorem Paired.length' {α β : Type} {F : α → β → Prop} {l : List α} {m : List β} (h : Paired F l m) : m.length = l.length := by
  induction h with
  | nil => rfl
  | cons _ _ ih => simp [ih]
section
variable {prog : Program} {w : World} {A : Around} {E : Value → Shared → Prop} {s s₀ : Shared} {base g : Heap} {Z fr : List Addr} {L : Addr} {vars : List (Str × Value)} {news : List (Addr × Obj)} {Q : Value → Shared → Prop}
theorem r_bytes {D : Addr} {n : Nat} {l : List Nat} {ys : List Value} (hh : A.handled = none) (H : Sy base s₀ Z g fr L vars news s) (hm : (D, lst ys n) ∈ news) (hi : IsInts l ys) (hb : ∀ k ∈ l, k < 256) (hz : l.length ≤ 1000000)
    (h : ∀ t s', Sy base s₀ Z g fr L vars news s' → Q (.bytes (B l) t) s') : wpAny (model prog w) A (call (.type "bytes") [.ref D]) Q E s := by
  refine call_bytes_ints ⟨_, H.get hm, rfl, n, rfl⟩ hi.are (fun i hi => ?_) (by rw [Paired.length' hi, sizeLine_eq]; omega) hh fun h' t k hk => ?_
  · obtain ⟨k, hk, rfl⟩ := List.mem_map.mp hi
    have := hb k hk
    omega
  · have e : byteArr (l.map fun k => ((k : Nat) : Int)) = B l := by
      unfold byteArr B
      rw [List.map_map]
      rfl
    rw [e]
    exact h t _ (H.grown hk)
end
end Mine

set_option maxRecDepth 100000
set_option maxHeartbeats 400000
namespace Mine
theorem nodup_ne {l : List Nat} (nd : l.Nodup) {i j a b : Nat} (hi : l[i]? = some a) (hj : l[j]? = some b) (h : i ≠ j) : a ≠ b := fun e => by
  obtain ⟨h1, rfl⟩ := List.getElem?_eq_some_iff.mp hi
  obtain ⟨h2, rfl⟩ := List.getElem?_eq_some_iff.mp hj
  rcases Nat.lt_or_gt_of_ne h with q | q
  · exact List.pairwise_iff_getElem.mp nd i j h1 h2 q e
  · exact List.pairwise_iff_getElem.mp nd j i h2 h1 q e.symm
/-- the plain stream -/
noncomputable def nextB (l : List Nat) (at_ n : Nat) : Out × Nat := (.ok ((l.drop at_).take n), at_ + ((l.drop at_).take n).length)
noncomputable def okB (l : List Nat) (pl : Addr) (at_ : Nat) (ld : List (Addr × Obj)) : Prop := at_ ≤ l.length ∧ ∃ t, ld = [(pl, lst [.int (at_ : Nat) t] 0)]
theorem nextB_le (l : List Nat) (a n : Nat) (h : a ≤ l.length) : (nextB l a n).2 ≤ l.length := by
  simp only [nextB, List.length_take, List.length_drop]
  omega
/-- what parse257 makes of a reply -/
noncomputable def parseR (r : List Nat) : Except (Value × List Nat) (List Nat) :=
  if r.take 3 = [50, 53, 55] then .ok (if (r.drop 3).take 2 = [32, 34] then scan (r.drop 5) else []) else .error (.ref 79, r)
structure Inn where
  rest : List (List Nat)
  kept : List Nat
  ended : Bool
noncomputable def pull (n : Nat) : List (List Nat) → List Nat → Bool → Except (Value × List Nat) Unit × Inn
  | [], kept, ended => (.ok (), ⟨[], kept, ended⟩)
  | r :: rest, kept, ended => if n ≤ kept.length ∨ ended = true then (.ok (), ⟨r :: rest, kept, ended⟩) else
    match parseR r with
    | .error e => (.error e, ⟨rest, kept, false⟩)
    | .ok name => pull n rest (kept ++ name) (decide (name = []))
theorem pull_stop {n : Nat} {rest : List (List Nat)} {kept : List Nat} {ended : Bool} (h : n ≤ kept.length ∨ ended = true) : pull n rest kept ended = (.ok (), ⟨rest, kept, ended⟩) := by
  cases rest with
  | nil => rfl
  | cons r rest => rw [pull, if_pos h]
theorem pull_err {n : Nat} {r : List Nat} {rest : List (List Nat)} {kept : List Nat} {e : Value × List Nat} (h : kept.length < n) (hp : parseR r = .error e) : pull n (r :: rest) kept false = (.error e, ⟨rest, kept, false⟩) := by
  rw [pull, if_neg (by simp; omega), hp]
theorem pull_ok {n : Nat} {r name : List Nat} {rest : List (List Nat)} {kept : List Nat} (h : kept.length < n) (hp : parseR r = .ok name) : pull n (r :: rest) kept false = pull n rest (kept ++ name) (decide (name = [])) := by
  rw [pull, if_neg (by simp; omega), hp]
noncomputable def nextI (x : Inn) (n : Nat) : Out × Inn := match pull n x.rest x.kept x.ended with
  | (.error e, y) => (.error e, y)
  | (.ok _, y) => (.ok (y.kept.take n), { y with kept := y.kept.drop n })
noncomputable def flat (rest : List (List Nat)) : List Nat := rest.flatMap fun r => r.length :: r
theorem flat_cons (r : List Nat) (rest : List (List Nat)) : flat (r :: rest) = r.length :: (r ++ flat rest) := by simp [flat]
/-- a state that the text can come to -/
structure GoodI (l tail : List Nat) (at_ : Nat) (x : Inn) : Prop where
  le : at_ ≤ l.length
  drop : l.drop at_ = flat x.rest ++ tail
  fin : x.ended = false → ∃ r ∈ x.rest, parseR r = .ok []
  rep : ∀ r ∈ x.rest, r.length ≤ 255 ∧ ∀ b ∈ r, b < 256
  kb : ∀ b ∈ x.kept, b < 256
  sz : x.kept.length + (flat x.rest).length ≤ 100000
theorem scan_sub : ∀ (l : List Nat), (∀ b ∈ scan l, b ∈ l) ∧ (scan l).length ≤ l.length
  | [] => ⟨fun _ h => h, Nat.le_refl _⟩
  | [k] => by
    unfold scan
    split <;> simp
  | k :: m :: r => by
    unfold scan
    split
    · split
      · rename_i h1 h2
        obtain ⟨a, b⟩ := scan_sub r
        refine ⟨fun x hx => ?_, by simp; omega⟩
        rcases List.mem_cons.mp hx with rfl | hx
        · rw [h1]; exact .head _
        · exact .tail _ (.tail _ (a x hx))
      · simp
    · obtain ⟨a, b⟩ := scan_sub (m :: r)
      refine ⟨fun x hx => ?_, by simp only [List.length_cons] at b ⊢; omega⟩
      rcases List.mem_cons.mp hx with rfl | hx
      · exact .head _
      · exact .tail _ (a x hx)
theorem parseR_ok {r name : List Nat} (h : parseR r = .ok name) : (∀ b ∈ name, b ∈ r) ∧ name.length ≤ r.length := by
  unfold parseR at h
  split at h
  · cases h
    split
    · obtain ⟨a, b⟩ := scan_sub (r.drop 5)
      exact ⟨fun x hx => List.mem_of_mem_drop (a x hx), Nat.le_trans b (by rw [List.length_drop]; omega)⟩
    · simp
  · cases h
/-- one reply read -/
theorem readN_B {l tail r : List Nat} {rest : List (List Nat)} {at_ : Nat} (hd : l.drop at_ = flat (r :: rest) ++ tail) : readN midS (nextB l) at_ = (.ok r, at_ + 1 + r.length) ∧ l.drop (at_ + 1 + r.length) = flat rest ++ tail := by
  rw [flat_cons, List.cons_append, List.append_assoc] at hd
  have h1 : l.drop (at_ + 1) = r ++ (flat rest ++ tail) := by
    rw [← List.drop_drop, hd]; rfl
  have h2 : l.drop (at_ + 1 + r.length) = flat rest ++ tail := by
    rw [← List.drop_drop, h1, List.drop_left]
  refine ⟨?_, h2⟩
  have e1 : readU (nextB l) at_ = (.ok r.length, at_ + 1) := by
    unfold readU nextB
    rw [hd]
    rfl
  unfold readN
  rw [e1]
  simp only [nextB, h1, List.take_left', if_true]
theorem drop_le {l m : List Nat} {a : Nat} (h : l.drop a = m) (hm : m ≠ []) : a ≤ l.length := by
  rcases Nat.lt_or_ge a l.length with q | q
  · omega
  · rw [List.drop_of_length_le q] at h
    exact absurd h.symm hm
theorem GoodI.step {l tail : List Nat} {at_ : Nat} {r : List Nat} {rest : List (List Nat)} {kept : List Nat} (ht : tail ≠ []) (G : GoodI l tail at_ ⟨r :: rest, kept, false⟩) {name : List Nat} (hp : parseR r = .ok name) :
    GoodI l tail (at_ + 1 + r.length) ⟨rest, kept ++ name, decide (name = [])⟩ := by
  obtain ⟨g1, g2, g3, g4, g5, g6⟩ := G
  obtain ⟨p1, p2⟩ := parseR_ok hp
  have h2 := (readN_B g2).2
  refine ⟨drop_le h2 (by simp [ht]), h2, fun he => ?_, fun q hq => g4 q (.tail _ hq), fun b hb => ?_, ?_⟩
  · obtain ⟨q, hq, hq2⟩ := g3 rfl
    rcases List.mem_cons.mp hq with rfl | hq
    · rw [hp] at hq2
      cases hq2
      simp at he
    · exact ⟨q, hq, hq2⟩
  · rcases List.mem_append.mp hb with hb | hb
    · exact g5 b hb
    · exact (g4 r (.head _)).2 b (p1 b hb)
  · dsimp only at g6 ⊢
    rw [flat_cons] at g6
    simp only [List.length_append, List.length_cons] at g6 ⊢
    omega
theorem GoodI.fail {l tail : List Nat} {at_ : Nat} {r : List Nat} {rest : List (List Nat)} {kept : List Nat} (ht : tail ≠ []) (G : GoodI l tail at_ ⟨r :: rest, kept, false⟩) {e : Value × List Nat} (hp : parseR r = .error e) :
    GoodI l tail (at_ + 1 + r.length) ⟨rest, kept, false⟩ := by
  obtain ⟨g1, g2, g3, g4, g5, g6⟩ := G
  have h2 := (readN_B g2).2
  refine ⟨drop_le h2 (by simp [ht]), h2, fun he => ?_, fun q hq => g4 q (.tail _ hq), g5, ?_⟩
  · obtain ⟨q, hq, hq2⟩ := g3 rfl
    rcases List.mem_cons.mp hq with rfl | hq
    · rw [hp] at hq2
      cases hq2
    · exact ⟨q, hq, hq2⟩
  · dsimp only at g6 ⊢
    rw [flat_cons] at g6
    simp only [List.length_append, List.length_cons] at g6 ⊢
    omega
theorem GoodI.cut {l tail : List Nat} {at_ : Nat} {x : Inn} (G : GoodI l tail at_ x) (n : Nat) : GoodI l tail at_ { x with kept := x.kept.drop n } :=
  ⟨G.le, G.drop, G.fin, G.rep, fun b hb => G.kb b (List.mem_of_mem_drop hb), by have := G.sz; simp only [List.length_drop]; omega⟩
theorem pull_good {l tail : List Nat} (ht : tail ≠ []) {n : Nat} {y : Inn} : ∀ {rest : List (List Nat)} {kept : List Nat} {ended : Bool} {at_ : Nat}, GoodI l tail at_ ⟨rest, kept, ended⟩ → pull n rest kept ended = (.ok (), y) → ∃ at', GoodI l tail at' y
  | [], kept, ended, at_, G, h => by cases h; exact ⟨at_, G⟩
  | r :: rest, kept, ended, at_, G, h => by
    by_cases hs : n ≤ kept.length ∨ ended = true
    · rw [pull_stop hs] at h; cases h; exact ⟨at_, G⟩
    · have he : ended = false := by cases ended with | false => rfl | true => exact absurd (.inr rfl) hs
      subst he
      have hlt : kept.length < n := by have := fun q => hs (.inl q); omega
      cases hp : parseR r with
      | error e => rw [pull_err hlt hp] at h; cases h
      | ok name => rw [pull_ok hlt hp] at h; exact pull_good ht (G.step ht hp) h
/-- the ledger that goes with it -/
noncomputable def okI (l tail : List Nat) (pl kp en : Addr) (x : Inn) (ld : List (Addr × Obj)) : Prop :=
  ∃ at_ t0 t1 oe, GoodI l tail at_ x ∧ ld = [(pl, lst [.int (at_ : Nat) t0] 0), (kp, lst [.str (S x.kept) t1] 0), (en, oe)] ∧ (x.ended = false → oe = lst [] 0) ∧ (x.ended = true → ∃ v, oe = lst [v] 1)
theorem x_while2 {prog : Program} {w : World} {A : Around} {E : Value → Shared → Prop} {s : Shared} {env : Env} {p : Pos} {Q : Flow → Shared → Prop} {rest body : List Stmt} {test : Expr} (I : Nat → Shared → Prop) (J : Shared → Prop) (n : Nat) (h0 : I n s)
    (turn : ∀ n s, I n s → wpAny (model prog w) A (isTrue test env (eval test env)) (fun b s₂ => if b then wpAny (model prog w) A (execs body env) (Turn (model prog w) A env rest Q E fun s₃ => ∃ m, m < n ∧ I m s₃) E s₂ else J s₂) E s)
    (fin : ∀ s, J s → wpAny (model prog w) A (execs rest env) Q E s) (hE : PassesOwn (model prog w) A env E := by passes_own) : wpAny (model prog w) A (execs (.While test body [] p :: rest) env) Q E s :=
  x_while I n h0 (fun n s hI => wpAny_mono (turn n s hI) (fun b s₂ h₂ => by
    cases b with
    | true => exact h₂
    | false => exact fin _ h₂) fun _ _ e => e) hE
end Mine

set_option maxRecDepth 100000
set_option maxHeartbeats 4000000
namespace Mine
theorem stream_spec {w : World} {p : Program} {loose : List Str} {mean : ExcName → Option Value} {mg mb : Str → Option Value} {base : Heap} {A : Around} {fs : List Env} {fr : List Addr} {s : Shared} {Q E : Value → Shared → Prop} {l : List Nat} {t : Tok}
    (XB : (hd.heap_39 w.params).In base) (TB : Top p loose mean mg mb base) (C : CodeHd base 94 90) (P : Pre base A fs fr [(90, tabObj #[])] s) (hroom : A.depth + 10 < recursionLimit) (hl : l.length ≤ 100000) (hby : ∀ b ∈ l, b < 256)
    (h : ∀ r (T : Strm Nat) x dx es k pl ps' ld s', s'.gens = s.gens → s'.os = s.os → Ext [90] fr s.heap s'.heap → T.Works w base 1 → T.At x dx es k → T.next = nextB l → T.adr = [pl] → T.Ok = okB l pl → okB l pl 0 ld → Has s'.heap T.fz → Has s'.heap ld →
      s'.heap.get? r = some (lst [.ref x, .ref pl] 0) → s'.heap.get? 90 = some (tabObj ps') → New s.heap (r :: pl :: T.fz.map (·.1)) → r ≠ pl → Q (.ref r) s') :
    wpAny (model PySem.Challenge.rw_of0006_01.row.prog w) A (call (.ref 95) [.bytes (B l) t]) Q E s := by
  have XB0 := XB
  revert XB; k_fill; intro XB
  refine' enterKC [(Str.ofString "octets", .bytes (B l) t)] [Str.ofString "octets"] P XB TB ?e1 ?e2 (by omega) ?e3 ?e4 ?e5 ?_ ?e6 ?e8 ?e9 ?e10
  case e1 => k_is
  case e2 => k_is
  case e3 => exact rfl
  case e4 => exact rfl
  case e5 => decide
  case e6 => decide
  case e8 => rfl
  case e9 => rfl
  case e10 => rfl
  intro L cells s1 H Y
  refine calm ?_
  intro Q2 hQ2
  obtain ⟨o1, o2, rfl, d1, d2⟩ := CellsAre.two Y
  clear Y
  have d1 : o1.data = .cell none := d1
  have d2 : o2.data = .cell (some (.bytes (B l) t)) := d2
  dsimp only [List.cons_append, List.nil_append] at H
  repeat' ((fail_if_success ((with_reducible show PySem.wpAny _ _ (PySem.newList _) _ _ _))); first | (with_reducible refine r_cint (by with_reducible assumption) ?_; intro _ _ _) | (with_reducible refine List_ ?_) | (with_reducible refine x_assign ?_ (by with_unfolding_all rfl)) | ((with_reducible show wpAny _ _ (spliced _) _ _ _); with_reducible refine spliced_none ?_) | ((with_reducible show wpAny _ _ (spliced _) _ _ _); with_reducible refine spliced_more ?_ (by with_unfolding_all rfl)))
  clear H
  rename Sy _ _ _ _ _ _ _ _ _ => H
  rename_i tz _
  refine r_newList H ?_
  clear H
  intro pl s2 H
  refine' r_storeC H ?lk (fun o' => .skip .hit) d1 ?_ rfl rfl
  case lk => exact rfl
  clear H
  intro o3 s3 d3 H
  repeat' ((with_reducible refine x_def (by with_unfolding_all rfl) (by with_unfolding_all rfl) (by with_unfolding_all rfl) ?_))
  refine' r_nest H TB C rfl (fun o' => .skip (.skip (.skip .hit))) ?tr ?am ?cl ?_
  case tr => kn_triples
  case am => kn_among
  case cl => exact rfl
  clear H
  intro f c' oc vs tq ctv doc ps' s4 H hcd hcv
  generalize hfo : fnMade _ _ _ _ _ _ _ _ _ _ = fo at H
  have hW : ∀ (A' : Around) (fs' : List Env) (fr' : List Addr) (s'' : Shared) (at_ n : Nat) (t0 tn : Tok) (Q' E' : Value → Shared → Prop), Pre base A' fs' fr' [(pl, lst [.int (at_ : Nat) t0] 0)] s'' →
      (∀ q ∈ [(f, fo), (c', oc), (L + 1 + 1, o3), (L + 1, o2)], s''.heap.get? q.1 = some q.2 ∧ q.1 ∉ pl :: fr') → A'.depth < recursionLimit → n ≤ 300 → at_ ≤ l.length →
      (∀ t t0 s', s'.gens = s''.gens → s'.os = s''.os → Ext [pl] fr' s''.heap s'.heap → s'.heap.get? pl = some (lst [.int ((at_ + ((l.drop at_).take n).length : Nat) : Int) t0] 0) → Q' (.bytes (B ((l.drop at_).take n)) t) s') →
      wpAny (model PySem.Challenge.rw_of0006_01.row.prog w) A' (call (.ref f) [.int (n : Nat) tn]) Q' E' s'' := by
    clear H h
    intro A' fs' fr' s'' at_ n t0 tn Q' E' P' hz hr hn hat hret
    subst hfo
    have z1 := hz _ (.head _)
    have z2 := hz _ (.tail _ (.head _))
    have z3 := hz _ (.tail _ (.tail _ (.head _)))
    have z4 := hz _ (.tail _ (.tail _ (.tail _ (.head _))))
    refine' enterF [(Str.ofString "n", .int (n : Nat) tn)] [Str.ofString "n"] P' TB.nolimit z1.1 rfl ⟨c', oc, vs, tq, rfl, z2.1, hcd, hcv⟩ hr ?bi ?nm ?nd ?_ ?lo ?ce ?x1 ?x2 ?x3
    case bi => exact rfl
    case nm => exact rfl
    case nd => decide
    case lo => decide
    case ce => decide
    case x1 => rfl
    case x2 => rfl
    case x3 => rfl
    intro L' s5 H
    refine calm ?_
    intro Q3 hQ3
    replace H : Sy base s'' [pl] (hideAll s''.heap (pl :: fr')) fr' L' _ _ s5 := H
    have g3 := hideAll_get _ z3.1 z3.2
    have g4 := hideAll_get _ z4.1 z4.2
    have hBl := B_size l
    have item0 : ∀ {i : Int} {t0 t1 : Tok} {s6 : Shared} {vars : List (Str × Value)} {news : List (Addr × Obj)} {value slice : Expr} {A2 : Around} {Q2 E2 : Value → Shared → Prop}, Sy base s'' [pl] (hideAll s''.heap (pl :: fr')) fr' L' vars ((pl, lst [.int i t0] 0) :: news) s6 → Q2 (.int i t0) s6 →
        subscripted slice false (.ref pl) (.int 0 t1) = operate [.ref pl, .int 0 t1] (getItem (.ref pl) (.int 0 t1)) → wpAny (model PySem.Challenge.rw_of0006_01.row.prog w) A2 (subscriptTail value slice (.ref pl) (.int 0 t1)) Q2 E2 s6 :=
      fun H' hq hs => r_item_list H' List.mem_cons_self (by decide) (by decide) rfl hq hs
    repeat' (first | (with_reducible refine r_sub_cut ?_) | (with_reducible refine x_assign ?_ (by with_unfolding_all rfl)))
    ((refine' r_freeG (by with_reducible assumption) ?lk g4 d2 ?_ (by with_unfolding_all rfl) (by with_unfolding_all rfl)); (case lk => exact rfl))
    repeat' (first | (with_reducible refine Subscript_ ?_) | (with_reducible refine evalPart_some_step ?_))
    ((refine' r_freeG (by with_reducible assumption) ?lk g3 d3 ?_ (by with_unfolding_all rfl) (by with_unfolding_all rfl)); (case lk => exact rfl))
    repeat' ((with_reducible refine r_cint (by with_reducible assumption) ?_; intro _ _ _))
    refine item0 (by with_reducible assumption) ?_ (by with_unfolding_all rfl)
    repeat' (first | (with_reducible refine wpAny_BinOp ?_) | (with_reducible refine Subscript_ ?_) | (with_reducible refine evalPart_some_step ?_))
    ((refine' r_freeG (by with_reducible assumption) ?lk g3 d3 ?_ (by with_unfolding_all rfl) (by with_unfolding_all rfl)); (case lk => exact rfl))
    repeat' ((with_reducible refine r_cint (by with_reducible assumption) ?_; intro _ _ _))
    refine item0 (by with_reducible assumption) ?_ (by with_unfolding_all rfl)
    repeat' (first | ((with_reducible show wpAny _ _ (eval (Expr.Name _ _) _) _ _ _); with_reducible refine r_local (by with_reducible assumption) (by with_reducible repeat (first | exact List.mem_cons_self | refine List.mem_cons_of_mem _ ?_)) ?_ (by with_unfolding_all rfl) (by with_unfolding_all rfl) (by with_unfolding_all decide)) | (with_reducible refine wpAny_BinOp ?_) | (with_reducible refine Subscript_ ?_) | (with_reducible refine x_assignS ?_ (by with_unfolding_all rfl)) | ((with_reducible show wpAny _ _ (binaryOp _ _ _) _ _ _); with_reducible refine r_add_int (by with_reducible assumption) ?_; intro _ _ _) | (with_reducible refine r_cut_bytes (by with_reducible assumption) (by constructor) (by constructor) (by omega) ?_ (by intro _; with_unfolding_all rfl) (by intro _; with_unfolding_all rfl); intro _ _ _) | ((with_reducible show wpAny _ _ (storeName _ _ _) _ _ _); with_reducible refine r_store (by with_reducible assumption) (by with_reducible repeat (first | exact SetV.hit | exact SetV.nil | apply SetV.skip (by with_unfolding_all decide))) ?_ (by with_unfolding_all rfl) (by with_unfolding_all rfl); intro _ _))
    clear H
    rename Sy _ _ _ _ _ _ _ _ _ => H
    rw [picked_B] at H
    have hBp := B_size ((l.drop at_).take n)
    have hBq : ((l.drop at_).take n).length ≤ 300 := by rw [List.length_take]; omega
    repeat' (fail)
    ((refine' r_freeG (by with_reducible assumption) ?lk g3 d3 ?_ (by with_unfolding_all rfl) (by with_unfolding_all rfl)); (case lk => exact rfl))
    repeat' ((with_reducible refine r_cint (by with_reducible assumption) ?_; intro _ _ _))
    refine item0 (by with_reducible assumption) ?_ (by with_unfolding_all rfl)
    repeat' (first | ((with_reducible show wpAny _ _ (eval (Expr.Name _ _) _) _ _ _); with_reducible refine r_local (by with_reducible assumption) (by with_reducible repeat (first | exact List.mem_cons_self | refine List.mem_cons_of_mem _ ?_)) ?_ (by with_unfolding_all rfl) (by with_unfolding_all rfl) (by with_unfolding_all decide)) | ((with_reducible show wpAny _ _ (eval (Expr.Name _ _) _) _ _ _); refine r_builtin (by with_reducible assumption) (by with_reducible assumption) (by with_reducible assumption) (by k_is) (by boot_by_name) ?_) | (with_reducible refine Call_ ?_ (by with_unfolding_all rfl)) | ((with_reducible show wpAny _ _ (binaryOp _ _ _) _ _ _); with_reducible refine r_add_int (by with_reducible assumption) ?_; intro _ _ _) | ((with_reducible show wpAny _ _ (call (Value.builtin "len") _ _) _ _ _); with_reducible refine r_len_bytes (by with_reducible assumption) (by omega) ?_; intro _ _ _) | ((with_reducible show wpAny _ _ (spliced _) _ _ _); with_reducible refine spliced_none ?_) | ((with_reducible show wpAny _ _ (spliced _) _ _ _); with_reducible refine spliced_more ?_ (by with_unfolding_all rfl)) | ((with_reducible show wpAny _ _ (callWith _ _ _ _ _) _ _ _); with_reducible refine PyProof.Rows.callWith_builtin1 ?_ (by with_unfolding_all rfl) (by with_unfolding_all rfl)))
    ((refine' r_freeG (by with_reducible assumption) ?lk g3 d3 ?_ (by with_unfolding_all rfl) (by with_unfolding_all rfl)); (case lk => exact rfl))
    repeat' ((with_reducible refine r_cint (by with_reducible assumption) ?_; intro _ _ _))
    refine' r_set_list (by with_reducible assumption) .hit (by decide) ?_ (by decide) ?_
    · show (0 : Int) < 1; decide
    clear H
    intro s7 H
    repeat' (first | ((with_reducible show wpAny _ _ (eval (Expr.Name _ _) _) _ _ _); with_reducible refine r_local (by with_reducible assumption) (by with_reducible repeat (first | exact List.mem_cons_self | refine List.mem_cons_of_mem _ ?_)) ?_ (by with_unfolding_all rfl) (by with_unfolding_all rfl) (by with_unfolding_all decide)) | (with_reducible refine x_return ?_))
    have hh := (H.led _ (.head _)).1
    rw [hBp] at hh
    exact hQ3 _ _ (hret _ _ _ H.gens H.os H.done hh)
  obtain ⟨fd, hfd⟩ : ∃ fd, fo.data = .func fd := ⟨_, by rw [← hfo]⟩
  clear hfo hcd hcv
  repeat' (first | ((with_reducible show wpAny _ _ (eval (Expr.Name _ _) _) _ _ _); refine r_global (by with_reducible assumption) (by with_reducible assumption) (by with_reducible assumption) (by k_is) ?_) | (with_reducible refine Call_ ?_ (by with_unfolding_all rfl)) | (with_reducible refine x_assign ?_ (by with_unfolding_all rfl)) | ((with_reducible show wpAny _ _ (storeName _ _ _) _ _ _); with_reducible refine r_store (by with_reducible assumption) (by with_reducible repeat (first | exact SetV.hit | exact SetV.nil | apply SetV.skip (by with_unfolding_all decide))) ?_ (by with_unfolding_all rfl) (by with_unfolding_all rfl); intro _ _))
  refine' r_callC XB ?k1 ?_
  case k1 => k_is
  repeat' (first | (with_reducible refine wpAny_Constant_none ?_) | ((with_reducible show wpAny _ _ (spliced _) _ _ _); with_reducible refine spliced_none ?_) | ((with_reducible show wpAny _ _ (spliced _) _ _ _); with_reducible refine spliced_more ?_ (by with_unfolding_all rfl)) | (with_reducible refine r_stays (by with_reducible assumption) ?_))
  clear H
  rename Sy _ _ _ _ _ _ _ _ _ => H
  refine example_spec XB0 TB P H rfl rfl (by omega) ?_
  clear H
  intro x dx tv s5 H
  repeat' (first | ((with_reducible show wpAny _ _ (eval (Expr.Name _ _) _) _ _ _); with_reducible refine r_local (by with_reducible assumption) (by with_reducible repeat (first | exact List.mem_cons_self | refine List.mem_cons_of_mem _ ?_)) ?_ (by with_unfolding_all rfl) (by with_unfolding_all rfl) (by with_unfolding_all decide)) | (with_reducible refine x_assignA ?_ (by with_unfolding_all rfl)) | ((with_reducible show wpAny _ _ (storeName _ _ _) _ _ _); with_reducible refine r_store (by with_reducible assumption) (by with_reducible repeat (first | exact SetV.hit | exact SetV.nil | apply SetV.skip (by with_unfolding_all decide))) ?_ (by with_unfolding_all rfl) (by with_unfolding_all rfl); intro _ _))
  clear H
  rename Sy _ _ _ _ _ _ _ _ _ => H
  refine' r_setattr H XB List.mem_cons_self (fun t => .skip .hit) ?s1 ?s2 ?s3 ?s4 rfl (fun t => by show 2 ≤ 1000; decide) ?_
  case s1 => k_is
  case s2 => k_is
  case s3 => k_is
  case s4 => k_is
  clear H
  intro tr s6 H
  repeat' (first | ((with_reducible show wpAny _ _ (eval (Expr.Name _ _) _) _ _ _); with_reducible refine r_local (by with_reducible assumption) (by with_reducible repeat (first | exact List.mem_cons_self | refine List.mem_cons_of_mem _ ?_)) ?_ (by with_unfolding_all rfl) (by with_unfolding_all rfl) (by with_unfolding_all decide)) | (with_reducible refine List_ ?_) | (with_reducible refine x_return ?_) | ((with_reducible show wpAny _ _ (spliced _) _ _ _); with_reducible refine spliced_more ?_ (by with_unfolding_all rfl)))
  refine' r_cell (by with_reducible assumption) ?lk (by with_reducible repeat (first | exact List.mem_cons_self | refine List.mem_cons_of_mem _ ?_)) d3 ?_ (by with_unfolding_all rfl) (by with_unfolding_all rfl)
  case lk => exact rfl
  repeat' ((fail_if_success ((with_reducible show PySem.wpAny _ _ (PySem.newList _) _ _ _))); ((with_reducible show wpAny _ _ (spliced _) _ _ _); with_reducible refine spliced_none ?_))
  refine r_newList (by with_reducible assumption) ?_
  clear H
  intro r s7 H
  generalize hes : putL _ _ _ _ (exEs w tv) = es at H
  generalize hk : putN _ _ _ = k at H
  have hget : getL (Str.ofString "read") es = some (some (.ref f)) := by rw [← hes]; with_unfolding_all rfl
  have nd : List.Nodup (α := Nat) [r, x, dx, f, c', pl, L + 1 + 1, L + 1, 90] := H.nd
  have hne : ∀ q ∈ [(f, fo), (c', oc), (L + 1 + 1, o3), (L + 1, o2), (x, instObj 52 dx), (dx, dictOf es k)], q.1 ∉ [pl] := by
    intro q hq he
    have he : @Eq Nat q.1 pl := List.mem_singleton.mp he
    simp only [List.mem_cons, List.not_mem_nil, or_false] at hq
    rcases hq with rfl | rfl | rfl | rfl | rfl | rfl
    · exact nodup_ne nd (i := 3) (j := 5) rfl rfl (by decide) he
    · exact nodup_ne nd (i := 4) (j := 5) rfl rfl (by decide) he
    · exact nodup_ne nd (i := 6) (j := 5) rfl rfl (by decide) he
    · exact nodup_ne nd (i := 7) (j := 5) rfl rfl (by decide) he
    · exact nodup_ne nd (i := 1) (j := 5) rfl rfl (by decide) he
    · exact nodup_ne nd (i := 2) (j := 5) rfl rfl (by decide) he
  let T : Strm Nat := { fn := f, fo := fo, fd := fd, fz := [(f, fo), (c', oc), (L + 1 + 1, o3), (L + 1, o2), (x, instObj 52 dx), (dx, dictOf es k)], adr := [pl], Ok := okB l pl, next := nextB l, hfo := .head _, hfd := hfd, hoff := hne, hadr := ?_, hbyte := ?_ }
  rotate_left
  · rintro a ld ⟨_, t0, rfl⟩; rfl
  · rintro a ld n bs x' - hq
    simp only [nextB, Prod.mk.injEq, Except.ok.injEq] at hq
    obtain ⟨rfl, -⟩ := hq
    exact ⟨fun b hb => hby b (List.mem_of_mem_drop (List.mem_of_mem_take hb)), by rw [List.length_take]; omega⟩
  have hWk : T.Works w base 1 := by
    intro A' fs' fr' s'' ld at_ n t Q' E' P' hfz hof hok hd hn hend
    obtain ⟨hat, t0, rfl⟩ := hok
    refine hW A' fs' fr' s'' at_ n t0 t Q' E' P' (fun q hq => ?_) (by omega) hn hat fun t1 t2 s8 g1 g2 hx hp => ?_
    · have hq' : q ∈ T.fz := by
        simp only [List.mem_cons, List.not_mem_nil, or_false] at hq
        show q ∈ [(f, fo), (c', oc), (L + 1 + 1, o3), (L + 1, o2), (x, instObj 52 dx), (dx, dictOf es k)]
        simp only [List.mem_cons, List.not_mem_nil, or_false]
        rcases hq with q | q | q | q
        · exact .inl q
        · exact .inr (.inl q)
        · exact .inr (.inr (.inl q))
        · exact .inr (.inr (.inr (.inl q)))
      refine ⟨hfz q hq', fun z => ?_⟩
      rcases List.mem_cons.mp z with z | z
      · exact hne q hq' (List.mem_singleton.mpr z)
      · exact hof q hq' z
    · exact hend t1 [(pl, lst [.int _ t2] 0)] s8 g1 g2 hx ⟨nextB_le l at_ n hat, t2, rfl⟩ fun p hp' => by rw [List.mem_singleton.mp hp']; exact hp
  have hmx : (x, instObj 52 dx) ∈ T.fz := show _ ∈ [(f, fo), (c', oc), (L + 1 + 1, o3), (L + 1, o2), (x, instObj 52 dx), (dx, dictOf es k)] from by with_reducible repeat (first | exact List.mem_cons_self | refine List.mem_cons_of_mem _ ?_)
  have hmd : (dx, dictOf es k) ∈ T.fz := show _ ∈ [(f, fo), (c', oc), (L + 1 + 1, o3), (L + 1, o2), (x, instObj 52 dx), (dx, dictOf es k)] from by with_reducible repeat (first | exact List.mem_cons_self | refine List.mem_cons_of_mem _ ?_)
  have hnew : ∀ a o, (a, o) ∈ _ → a ≠ 90 → s.heap.get? a = none := fun a o hm hz => H.isNew hm (by simpa using hz)
  have h90 : ∀ q ∈ [(r, lst [.ref x, .ref pl] 0), (pl, lst [.int 0 tz] 0), (f, fo), (c', oc), (L + 1 + 1, o3), (L + 1, o2), (x, instObj 52 dx), (dx, dictOf es k)], q.1 ≠ 90 := by
    intro q hq he
    have he : @Eq Nat q.1 90 := he
    simp only [List.mem_cons, List.not_mem_nil, or_false] at hq
    rcases hq with rfl | rfl | rfl | rfl | rfl | rfl | rfl | rfl
    · exact nodup_ne nd (i := 0) (j := 8) rfl rfl (by decide) he
    · exact nodup_ne nd (i := 5) (j := 8) rfl rfl (by decide) he
    · exact nodup_ne nd (i := 3) (j := 8) rfl rfl (by decide) he
    · exact nodup_ne nd (i := 4) (j := 8) rfl rfl (by decide) he
    · exact nodup_ne nd (i := 6) (j := 8) rfl rfl (by decide) he
    · exact nodup_ne nd (i := 7) (j := 8) rfl rfl (by decide) he
    · exact nodup_ne nd (i := 1) (j := 8) rfl rfl (by decide) he
    · exact nodup_ne nd (i := 2) (j := 8) rfl rfl (by decide) he
  refine hQ2 _ _ ?_
  refine h r T x dx es k pl ps' [(pl, lst [.int 0 tz] 0)] s7 H.gens H.os H.done hWk ⟨hmx, hmd, hget⟩ rfl rfl rfl ⟨Nat.zero_le _, _, rfl⟩ (fun p hp => ?_) (fun p hp => ?_) (H.led _ (.head _)).1 (H.led (90, tabObj ps') (by with_reducible repeat (first | exact List.mem_cons_self | refine List.mem_cons_of_mem _ ?_))).1 (fun a ha => ?_) ?_
  · exact (H.led p (by
      have hp : p ∈ [(f, fo), (c', oc), (L + 1 + 1, o3), (L + 1, o2), (x, instObj 52 dx), (dx, dictOf es k)] := hp
      simp only [List.mem_cons, List.not_mem_nil, or_false] at hp
      rcases hp with rfl | rfl | rfl | rfl | rfl | rfl <;> with_reducible repeat (first | exact List.mem_cons_self | refine List.mem_cons_of_mem _ ?_))).1
  · rw [List.mem_singleton.mp hp]
    exact (H.led _ (by with_reducible repeat (first | exact List.mem_cons_self | refine List.mem_cons_of_mem _ ?_))).1
  · obtain ⟨q, hq, rfl⟩ : ∃ q ∈ [(r, lst [.ref x, .ref pl] 0), (pl, lst [.int 0 tz] 0), (f, fo), (c', oc), (L + 1 + 1, o3), (L + 1, o2), (x, instObj 52 dx), (dx, dictOf es k)], q.1 = a := List.mem_map.mp ha
    refine hnew q.1 q.2 ?_ (h90 q hq)
    simp only [List.mem_cons, List.not_mem_nil, or_false] at hq
    rcases hq with rfl | rfl | rfl | rfl | rfl | rfl | rfl | rfl <;> (dsimp only; with_reducible repeat (first | exact List.mem_cons_self | refine List.mem_cons_of_mem _ ?_))
  · intro he
    exact nodup_ne nd (i := 0) (j := 5) rfl rfl (by decide) he
end Mine

set_option maxRecDepth 100000
set_option maxHeartbeats 4000000
namespace Mine
theorem inner_spec {w : World} {p : Program} {loose : List Str} {mean : ExcName → Option Value} {mg mb : Str → Option Value} {base : Heap} {A : Around} {fs : List Env} {fr : List Addr} {s : Shared} {Q E : Value → Shared → Prop} {l tail : List Nat}
    {T1 : Strm Nat} {xo dxo pl : Addr} {eso : List DictEntry} {ko : Nat} {o0 : Obj}
    (XB : (hd.heap_39 w.params).In base) (TB : Top p loose mean mg mb base) (C : CodeHd base 101 97) (P : Pre base A fs fr [(97, tabObj #[])] s) (hroom : A.depth + 20 < recursionLimit)
    (hT1 : T1.Works w base 1) (hA1 : T1.At xo dxo eso ko) (hn1 : T1.next = nextB l) (ha1 : T1.adr = [pl]) (hO1 : T1.Ok = okB l pl) (hf1 : Has s.heap T1.fz) (hpl : s.heap.get? pl = some o0) (hof1 : OffL T1.fz (97 :: fr)) (hpl1 : pl ∉ 97 :: fr) (ht : tail ≠ [])
    (h : ∀ (T : Strm Inn) x dx es k kp en ps' t1 s', s'.gens = s.gens → s'.os = s.os → Ext [97] fr s.heap s'.heap → T.Works w base 4 → T.At x dx es k → T.next = nextI → T.adr = [pl, kp, en] → T.Ok = okI l tail pl kp en → Has s'.heap T.fz → (∀ a ∈ T.fz.map (·.1), s.heap.get? a = none ∨ a ∈ T1.fz.map (·.1)) →
      s'.heap.get? kp = some (lst [.str (S []) t1] 0) → s'.heap.get? en = some (lst [] 0) → s'.heap.get? 97 = some (tabObj ps') → New s.heap [kp, en] → kp ≠ en → Q (.ref x) s') :
    wpAny (model PySem.Challenge.rw_of0006_01.row.prog w) A (call (.ref 102) [.ref xo]) Q E s := by
  have XB0 := XB
  revert XB; k_fill; intro XB
  refine' enterKC [(Str.ofString "outer", .ref xo)] [Str.ofString "outer"] P XB TB ?e1 ?e2 (by omega) ?e3 ?e4 ?e5 ?_ ?e6 ?e8 ?e9 ?e10
  case e1 => k_is
  case e2 => k_is
  case e3 => exact rfl
  case e4 => exact rfl
  case e5 => decide
  case e6 => decide
  case e8 => rfl
  case e9 => rfl
  case e10 => rfl
  intro L cells s1 H Y
  refine calm ?_
  intro Q2 hQ2
  obtain ⟨o1, o2, o3, rfl, d1, d2, d3⟩ := CellsAre.three Y
  clear Y
  replace d1 : o1.data = .cell none := d1
  replace d2 : o2.data = .cell none := d2
  replace d3 : o3.data = .cell (some (.ref xo)) := d3
  dsimp only [List.cons_append, List.nil_append] at H
  repeat' ((fail_if_success ((with_reducible show PySem.wpAny _ _ (PySem.newList _) _ _ _))); first | (with_reducible refine r_cstr (by with_reducible assumption) ?_; intro _ _ _) | (with_reducible refine List_ ?_) | (with_reducible refine x_assign ?_ (by with_unfolding_all rfl)) | ((with_reducible show wpAny _ _ (spliced _) _ _ _); with_reducible refine spliced_none ?_) | ((with_reducible show wpAny _ _ (spliced _) _ _ _); with_reducible refine spliced_more ?_ (by with_unfolding_all rfl)))
  clear H
  rename Sy _ _ _ _ _ _ _ _ _ => H
  rename_i tz _
  refine r_newList H ?_
  clear H
  intro kp s2 H
  refine' r_storeC H ?lk (fun o' => .skip .hit) d1 ?_ rfl rfl
  case lk => exact rfl
  clear H
  intro o4 s3 d4 H
  repeat' ((fail_if_success ((with_reducible show PySem.wpAny _ _ (PySem.newList _) _ _ _))); first | (with_reducible refine List_ ?_) | (with_reducible refine x_assign ?_ (by with_unfolding_all rfl)) | ((with_reducible show wpAny _ _ (spliced _) _ _ _); with_reducible refine spliced_none ?_))
  refine r_newList H ?_
  clear H
  intro en s4 H
  refine' r_storeC H ?lk (fun o' => .skip (.skip (.skip .hit))) d2 ?_ rfl rfl
  case lk => exact rfl
  clear H
  intro o5 s5 d5 H
  repeat' ((fail_if_success ((with_reducible show PySem.wpAny _ _ (PySem.newList _) _ _ _))); (with_reducible refine x_def (by with_unfolding_all rfl) (by with_unfolding_all rfl) (by with_unfolding_all rfl) ?_))
  refine' r_nest H TB C rfl (fun o' => .skip (.skip (.skip (.skip (.skip .hit))))) ?tr ?am ?cl ?_
  case tr => kn_triples
  case am => kn_among
  case cl => exact rfl
  clear H
  intro f c' oc vs tq ctv doc ps' s6 H hcd hcv
  generalize hfo : fnMade _ _ _ _ _ _ _ _ _ _ = fo at H
  have hW : ∀ (A' : Around) (fs' : List Env) (fr' : List Addr) (s'' : Shared) (x : Inn) (ld : List (Addr × Obj)) (n : Nat) (tn : Tok) (Q' E' : Value → Shared → Prop), Pre base A' fs' fr' ld s'' → okI l tail pl kp en x ld →
      (∀ q ∈ [(f, fo), (c', oc), (L + 1 + 1 + 1, o4), (L + 1 + 1, o5), (L + 1, o3)], s''.heap.get? q.1 = some q.2 ∧ q.1 ∉ pl :: kp :: en :: fr') → Has s''.heap T1.fz → OffL T1.fz (pl :: kp :: en :: fr') → A'.depth + 4 < recursionLimit → n ≤ 300 →
      Ends [pl, kp, en] (okI l tail pl kp en) fs' fr' s'' Q' E' (fun bs t => .bytes (B bs) t) (nextI x n) →
      wpAny (model PySem.Challenge.rw_of0006_01.row.prog w) A' (call (.ref f) [.int (n : Nat) tn]) Q' E' s'' := by
    clear H h
    intro A' fs' fr' s'' x ld n tn Q' E' P' hok hz hf1' hof1' hr hn hend
    obtain ⟨at0, ta, tb, oe0, G, rfl, he1, he2⟩ := hok
    subst hfo
    have z1 := hz _ (.head _)
    have z2 := hz _ (.tail _ (.head _))
    have z3 := hz _ (.tail _ (.tail _ (.head _)))
    have z4 := hz _ (.tail _ (.tail _ (.tail _ (.head _))))
    have z5 := hz _ (.tail _ (.tail _ (.tail _ (.tail _ (.head _)))))
    refine' enterF [(Str.ofString "n", .int (n : Nat) tn)] [Str.ofString "n"] P' TB.nolimit z1.1 rfl ⟨c', oc, vs, tq, rfl, z2.1, hcd, hcv⟩ (by omega) ?bi ?nm ?nd ?_ ?lo ?ce ?x1 ?x2 ?x3
    case bi => exact rfl
    case nm => exact rfl
    case nd => decide
    case lo => decide
    case ce => decide
    case x1 => rfl
    case x2 => rfl
    case x3 => rfl
    intro L' s7 H
    refine calmRP (by passes_own) ?_
    intro Q3 E3 hQ3 hE3 hP3
    replace H : Sy base s'' [pl, kp, en] (hideAll s''.heap (pl :: kp :: en :: fr')) fr' L' [(Str.ofString "n", .int (n : Nat) tn)] [(pl, lst [.int (at0 : Nat) ta] 0), (kp, lst [.str (S x.kept) tb] 0), (en, oe0)] s7 := H
    have g3 := hideAll_get _ z3.1 z3.2
    have g4 := hideAll_get _ z4.1 z4.2
    have g5 := hideAll_get _ z5.1 z5.2
    have hg : Has (hideAll s''.heap (pl :: kp :: en :: fr')) T1.fz := fun p hp => hideAll_get _ (hf1' p hp) (hof1' p hp)
    have oeLen : ∀ {ended : Bool} {oe : Obj}, (ended = false → oe = lst [] 0) → (ended = true → ∃ v, oe = lst [v] 1) → ∃ vs k, oe = lst vs k ∧ vs.length = (if ended then 1 else 0) := by
      intro ended oe h1 h2
      cases ended with
      | false => exact ⟨[], 0, h1 rfl, rfl⟩
      | true => obtain ⟨v, rfl⟩ := h2 rfl; exact ⟨[v], 1, rfl, rfl⟩
    obtain ⟨I, hI⟩ : ∃ I : Nat → Shared → Prop, ∀ m s', I m s' ↔ (∃ (y : Inn) (at_ : Nat) (t0 t1 : Tok) (oe : Obj), m = y.rest.length ∧ GoodI l tail at_ y ∧ (y.ended = false → oe = lst [] 0) ∧ (y.ended = true → ∃ v, oe = lst [v] 1) ∧ pull n y.rest y.kept y.ended = pull n x.rest x.kept x.ended ∧
        Sy base s'' [pl, kp, en] (hideAll s''.heap (pl :: kp :: en :: fr')) fr' L' [(Str.ofString "n", .int (n : Nat) tn)] [(pl, lst [.int (at_ : Nat) t0] 0), (kp, lst [.str (S y.kept) t1] 0), (en, oe)] s') := ⟨_, fun _ _ => Iff.rfl⟩
    obtain ⟨J, hJ⟩ : ∃ J : Shared → Prop, ∀ s', J s' ↔ (∃ (y : Inn) (at_ : Nat) (t0 t1 : Tok) (oe : Obj), GoodI l tail at_ y ∧ (y.ended = false → oe = lst [] 0) ∧ (y.ended = true → ∃ v, oe = lst [v] 1) ∧ pull n x.rest x.kept x.ended = (.ok (), y) ∧
        Sy base s'' [pl, kp, en] (hideAll s''.heap (pl :: kp :: en :: fr')) fr' L' [(Str.ofString "n", .int (n : Nat) tn)] [(pl, lst [.int (at_ : Nat) t0] 0), (kp, lst [.str (S y.kept) t1] 0), (en, oe)] s') := ⟨_, fun _ => Iff.rfl⟩
    refine x_while2 I J x.rest.length ((hI _ _).mpr ⟨x, at0, ta, tb, oe0, rfl, G, he1, he2, rfl, H⟩) ?_ ?_ hP3
    all_goals clear H G he1 he2
    all_goals have item0 : ∀ {i : Str} {t0 t1 : Tok} {s6 : Shared} {vars : List (Str × Value)} {q : Addr × Obj} {news : List (Addr × Obj)} {value slice : Expr} {A2 : Around} {Q2 E2 : Value → Shared → Prop}, Sy base s'' [pl, kp, en] (hideAll s''.heap (pl :: kp :: en :: fr')) fr' L' vars (q :: (kp, lst [.str i t0] 0) :: news) s6 → Q2 (.str i t0) s6 →
        subscripted slice false (.ref kp) (.int 0 t1) = operate [.ref kp, .int 0 t1] (getItem (.ref kp) (.int 0 t1)) → wpAny (model PySem.Challenge.rw_of0006_01.row.prog w) A2 (subscriptTail value slice (.ref kp) (.int 0 t1)) Q2 E2 s6 :=
      fun H' hq hs => r_item_list H' (.tail _ (.head _)) (by decide) (by decide) rfl hq hs
    · intro m s8 hIm
      obtain ⟨y, at_, t0, t1, oe, rfl, G, he1, he2, hpull, H⟩ := (hI _ _).mp hIm
      clear hIm
      obtain ⟨ovs, ok, rfl, hov⟩ := oeLen he1 he2
      have hkl := S_length y.kept
      have hks := G.sz
      repeat' (first | ((with_reducible show wpAny _ _ (eval (Expr.Name _ _) _) _ _ _); refine r_builtin (by with_reducible assumption) (by with_reducible assumption) (by with_reducible assumption) (by k_is) (by boot_by_name) ?_) | (with_reducible refine Call_ ?_ (by with_unfolding_all rfl)) | (with_reducible refine Subscript_ ?_) | ((with_reducible show wpAny _ _ (spliced _) _ _ _); with_reducible refine spliced_more ?_ (by with_unfolding_all rfl)) | ((with_reducible show wpAny _ _ (callWith _ _ _ _ _) _ _ _); with_reducible refine PyProof.Rows.callWith_builtin1 ?_ (by with_unfolding_all rfl) (by with_unfolding_all rfl)) | ((with_reducible show wpAny _ _ (isTrue _ _ _) _ _ _); with_reducible refine isTrue_and ?_) | ((with_reducible show wpAny _ _ (isTrue _ _ _) _ _ _); with_reducible refine wpAny_isTrue_Compare1 ?_ (by with_unfolding_all rfl)))
      ((refine' r_freeG (by with_reducible assumption) ?lk g3 d4 ?_ (by with_unfolding_all rfl) (by with_unfolding_all rfl)); (case lk => exact rfl))
      repeat' ((with_reducible refine r_cint (by with_reducible assumption) ?_; intro _ _ _))
      refine item0 (by with_reducible assumption) ?_ (by with_unfolding_all rfl)
      repeat' (first | ((with_reducible show wpAny _ _ (eval (Expr.Name _ _) _) _ _ _); with_reducible refine r_local (by with_reducible assumption) (by with_reducible repeat (first | exact List.mem_cons_self | refine List.mem_cons_of_mem _ ?_)) ?_ (by with_unfolding_all rfl) (by with_unfolding_all rfl) (by with_unfolding_all decide)) | (with_reducible refine lt_int ?_) | ((with_reducible show wpAny _ _ (call (Value.builtin "len") _ _) _ _ _); with_reducible refine r_len_str (by with_reducible assumption) (by omega) ?_; intro _ _ _) | (with_reducible refine wpAny_truthy_bool ?_) | ((with_reducible show wpAny _ _ (spliced _) _ _ _); with_reducible refine spliced_none ?_))
      by_cases hlt : y.kept.length < n
      · refine ifT (by rw [hkl]; simpa using hlt) ?_
        repeat' (first | ((with_reducible show wpAny _ _ (eval (Expr.Name _ _) _) _ _ _); refine r_builtin (by with_reducible assumption) (by with_reducible assumption) (by with_reducible assumption) (by k_is) (by boot_by_name) ?_) | (with_reducible refine Call_ ?_ (by with_unfolding_all rfl)) | ((with_reducible show wpAny _ _ (spliced _) _ _ _); with_reducible refine spliced_more ?_ (by with_unfolding_all rfl)) | ((with_reducible show wpAny _ _ (callWith _ _ _ _ _) _ _ _); with_reducible refine PyProof.Rows.callWith_builtin1 ?_ (by with_unfolding_all rfl) (by with_unfolding_all rfl)) | ((with_reducible show wpAny _ _ (isTrue _ _ _) _ _ _); with_reducible refine isTrue_and ?_) | ((with_reducible show wpAny _ _ (isTrue _ _ _) _ _ _); with_reducible refine wpAny_isTrue_Compare1 ?_ (by with_unfolding_all rfl)))
        ((refine' r_freeG (by with_reducible assumption) ?lk g4 d5 ?_ (by with_unfolding_all rfl) (by with_unfolding_all rfl)); (case lk => exact rfl))
        have hov' : ovs.length ≤ 1 := by rw [hov]; split <;> omega
        repeat' (first | (with_reducible refine r_cint (by with_reducible assumption) ?_; intro _ _ _) | (with_reducible refine eq_int ?_) | ((with_reducible show wpAny _ _ (call (Value.builtin "len") _ _) _ _ _); with_reducible refine r_len_list (by with_reducible assumption) (by with_reducible repeat (first | exact List.mem_cons_self | refine List.mem_cons_of_mem _ ?_)) (by omega) ?_; intro _ _ _) | (with_reducible refine wpAny_truthy_bool ?_) | ((with_reducible show wpAny _ _ (spliced _) _ _ _); with_reducible refine spliced_none ?_))
        cases hen : y.ended with
        | true =>
          rw [hen] at hov
          have hov : ovs.length = 1 := hov
          refine ifF (by simp [hov]) ?_
          repeat' (fail)
          refine ifF (by decide) ?_
          clear H
          rename Sy _ _ _ _ _ _ _ _ _ => H
          exact (hJ _).mpr ⟨y, at_, t0, t1, _, G, he1, he2, by rw [← hpull, pull_stop (.inr hen)], H⟩
        | false =>
          rw [hen] at hov
          have hov : ovs.length = 0 := hov
          obtain rfl : ovs = [] := List.eq_nil_of_length_eq_zero hov
          obtain rfl : ok = 0 := by have := he1 hen; cases this; rfl
          refine ifT (by simp) ?_
          repeat' (((with_reducible show wpAny _ _ (isTrue _ _ _) _ _ _); with_reducible refine isTrue_and_nil ?_))
          refine ifT rfl ?_
          obtain ⟨yr, yk, ye⟩ := y
          dsimp only at hen hks G hkl hlt hpull he1 he2
          subst hen
          cases yr with
          | nil => obtain ⟨r, hr, _⟩ := G.fin rfl; cases hr
          | cons r rs =>
            repeat' (first | ((with_reducible show wpAny _ _ (eval (Expr.Name _ _) _) _ _ _); refine r_global (by with_reducible assumption) (by with_reducible assumption) (by with_reducible assumption) (by k_is) ?_) | (with_reducible refine Call_ ?_ (by with_unfolding_all rfl)) | (with_reducible refine x_assign ?_ (by with_unfolding_all rfl)) | ((with_reducible show wpAny _ _ (spliced _) _ _ _); with_reducible refine spliced_more ?_ (by with_unfolding_all rfl)) | ((with_reducible show wpAny _ _ (callWith _ _ _ _ _) _ _ _); with_reducible refine r_callK (by with_reducible assumption) (by k_is) ?_ (by with_unfolding_all rfl)))
            ((refine' r_freeG (by with_reducible assumption) ?lk g5 d3 ?_ (by with_unfolding_all rfl) (by with_unfolding_all rfl)); (case lk => exact rfl))
            repeat' (first | ((with_reducible show wpAny _ _ (spliced _) _ _ _); with_reducible refine spliced_none ?_) | (with_reducible refine r_stays (by with_reducible assumption) ?_))
            clear H
            rename Sy _ _ _ _ _ _ _ _ _ => H
            have hrd := readN_B G.drop
            have hr255 := (G.rep r (.head _)).1
            refine string_spec XB0 TB hT1 hA1 (H.pre P' rfl rfl (news' := [(pl, lst [.int (at_ : Nat) t0] 0)]) (.cons_cons _ (List.nil_sublist _))) (H.has hg) (H.offL hg) (st := at_) (by rw [hO1]; exact ⟨G.le, t0, rfl⟩) (by show A'.depth + 1 + 2 + 1 < _; omega) ?_
            rw [hn1, hrd.1]
            intro tr ld' s9 g1 g2 hx hok' hh
            rw [hO1] at hok'
            obtain ⟨hle', t0', rfl⟩ := hok'
            rw [ha1] at hx
            have H9 := H.swap (ld := [(pl, lst [.int (at_ : Nat) t0] 0)]) (ld' := [(pl, lst [.int ((at_ + 1 + r.length : Nat) : Int) t0'] 0)]) (rest := [(kp, lst [.str (S yk) t1] 0), (en, lst [] 0)]) rfl rfl hx g1 g2 hh
            dsimp only [List.cons_append, List.nil_append] at H9
            clear H
            repeat' (first | ((with_reducible show wpAny _ _ (spliced _) _ _ _); with_reducible refine spliced_none ?_) | (with_reducible refine r_stays (by with_reducible assumption) ?_))
            refine parse_spec XB0 TB (H9.pre P' rfl rfl (List.nil_sublist _)) (by show A'.depth + 1 < _; omega) (l := r) (by omega) ?_ ?_
            · intro h3 tp s10 q1 q2 hx2
              have hp : parseR r = .ok (if (r.drop 3).take 2 = [32, 34] then scan (r.drop 5) else []) := by unfold parseR; rw [if_pos h3]
              generalize (if (r.drop 3).take 2 = [32, 34] then scan (r.drop 5) else []) = name at hp ⊢
              have hpn := (parseR_ok hp).2
              have hnl := S_length name
              have H10 := H9.ext (S := []) hx2 q1 q2 (fun _ h => nomatch h) (fun p hp => ⟨(hx2 _ _ (H9.led p hp).1 (fun h => nomatch h)).1 (H9.led p hp).2.1, List.mem_map_of_mem hp⟩) H9.nd
              clear H9
              have hG' := G.step ht hp
              have hpl2 := pull_ok (rest := rs) hlt hp
              repeat' (first | ((with_reducible show wpAny _ _ (eval (Expr.Name _ _) _) _ _ _); with_reducible refine r_local (by with_reducible assumption) (by with_reducible repeat (first | exact List.mem_cons_self | refine List.mem_cons_of_mem _ ?_)) ?_ (by with_unfolding_all rfl) (by with_unfolding_all rfl) (by with_unfolding_all decide)) | (with_reducible refine r_cstr (by with_reducible assumption) ?_; intro _ _ _) | (with_reducible refine x_if ?_) | (with_reducible refine eq_str ?_) | (with_reducible refine wpAny_truthy_bool ?_) | ((with_reducible show wpAny _ _ (storeName _ _ _) _ _ _); with_reducible refine r_store (by with_reducible assumption) (by with_reducible repeat (first | exact SetV.hit | exact SetV.nil | apply SetV.skip (by with_unfolding_all decide))) ?_ (by with_unfolding_all rfl) (by with_unfolding_all rfl); intro _ _) | ((with_reducible show wpAny _ _ (isTrue _ _ _) _ _ _); with_reducible refine wpAny_isTrue_Compare1 ?_ (by with_unfolding_all rfl)))
              rw [show Str.ofString "" = S [] from by decide, S_beq]
              by_cases hnm : name = []
              · refine ifT (by simp [hnm]) ?_
                repeat' (first | (with_reducible refine MethodCall_ ?_ (by with_unfolding_all rfl)) | (with_reducible refine x_expr ?_ (by with_unfolding_all rfl) (by with_unfolding_all rfl)))
                ((refine' r_freeG (by with_reducible assumption) ?lk g4 d5 ?_ (by with_unfolding_all rfl) (by with_unfolding_all rfl)); (case lk => exact rfl))
                repeat' (first | ((with_reducible show wpAny _ _ (eval (Expr.Name _ _) _) _ _ _); with_reducible refine r_local (by with_reducible assumption) (by with_reducible repeat (first | exact List.mem_cons_self | refine List.mem_cons_of_mem _ ?_)) ?_ (by with_unfolding_all rfl) (by with_unfolding_all rfl) (by with_unfolding_all decide)) | (with_reducible refine wpAny_BinOp ?_) | (with_reducible refine Subscript_ ?_) | (with_reducible refine x_assignS ?_ (by with_unfolding_all rfl)) | (with_reducible refine wpAny_execs_nil ?_) | ((with_reducible show wpAny _ _ (call (Value.builtin "list.append") _ _) _ _ _); with_reducible refine r_append (by with_reducible assumption) (by with_reducible repeat (first | exact SetN.hit | apply SetN.skip)) (by omega) ?_; intro _ _) | ((with_reducible show wpAny _ _ (getMethod _ _ _) _ _ _); with_reducible refine r_meth_list (by with_reducible assumption) (by with_reducible repeat (first | exact List.mem_cons_self | refine List.mem_cons_of_mem _ ?_)) PySem.F.slot_list_append PySem.F.type_list_append ?_) | ((with_reducible show wpAny _ _ (spliced _) _ _ _); with_reducible refine spliced_none ?_) | ((with_reducible show wpAny _ _ (spliced _) _ _ _); with_reducible refine spliced_more ?_ (by with_unfolding_all rfl)) | ((with_reducible show wpAny _ _ (callWith _ _ _ _ _) _ _ _); with_reducible refine callWith_method1 ?_ (by with_unfolding_all rfl) (by with_unfolding_all rfl); dsimp only [List.cons_append, List.nil_append]) | (with_reducible refine seq_next ?_))
                ((refine' r_freeG (by with_reducible assumption) ?lk g3 d4 ?_ (by with_unfolding_all rfl) (by with_unfolding_all rfl)); (case lk => exact rfl))
                repeat' ((with_reducible refine r_cint (by with_reducible assumption) ?_; intro _ _ _))
                refine item0 (by with_reducible assumption) ?_ (by with_unfolding_all rfl)
                repeat' (first | ((with_reducible show wpAny _ _ (eval (Expr.Name _ _) _) _ _ _); with_reducible refine r_local (by with_reducible assumption) (by with_reducible repeat (first | exact List.mem_cons_self | refine List.mem_cons_of_mem _ ?_)) ?_ (by with_unfolding_all rfl) (by with_unfolding_all rfl) (by with_unfolding_all decide)) | ((with_reducible show wpAny _ _ (binaryOp _ _ _) _ _ _); with_reducible refine r_add_str (by with_reducible assumption) (by omega) ?_; intro _ _ _))
                rw [S_append]
                ((refine' r_freeG (by with_reducible assumption) ?lk g3 d4 ?_ (by with_unfolding_all rfl) (by with_unfolding_all rfl)); (case lk => exact rfl))
                repeat' ((with_reducible refine r_cint (by with_reducible assumption) ?_; intro _ _ _))
                refine' r_set_list (by with_reducible assumption) (.skip .hit) (by decide) ?_ (by decide) ?_
                · show (0 : Int) < 1; decide
                clear H10
                intro s11 H
                repeat' (first | (with_reducible refine turn_next ?_) | (with_reducible refine wpAny_execs_nil ?_))
                refine ⟨rs.length, by simp, (hI _ _).mpr ⟨⟨rs, yk ++ name, decide (name = [])⟩, at_ + 1 + r.length, t0', _, _, rfl, hG', ?_, ?_, by rw [← hpull, hpl2], H.vsub (by walk_at "Msub")⟩⟩
                · intro q; simp [hnm] at q
                · intro _; exact ⟨_, rfl⟩
              · refine ifF (by simp [hnm]) ?_
                repeat' (first | (with_reducible refine wpAny_BinOp ?_) | (with_reducible refine Subscript_ ?_) | (with_reducible refine x_assignS ?_ (by with_unfolding_all rfl)) | (with_reducible refine wpAny_execs_nil ?_) | (with_reducible refine seq_next ?_))
                ((refine' r_freeG (by with_reducible assumption) ?lk g3 d4 ?_ (by with_unfolding_all rfl) (by with_unfolding_all rfl)); (case lk => exact rfl))
                repeat' ((with_reducible refine r_cint (by with_reducible assumption) ?_; intro _ _ _))
                refine item0 (by with_reducible assumption) ?_ (by with_unfolding_all rfl)
                repeat' (first | ((with_reducible show wpAny _ _ (eval (Expr.Name _ _) _) _ _ _); with_reducible refine r_local (by with_reducible assumption) (by with_reducible repeat (first | exact List.mem_cons_self | refine List.mem_cons_of_mem _ ?_)) ?_ (by with_unfolding_all rfl) (by with_unfolding_all rfl) (by with_unfolding_all decide)) | ((with_reducible show wpAny _ _ (binaryOp _ _ _) _ _ _); with_reducible refine r_add_str (by with_reducible assumption) (by omega) ?_; intro _ _ _))
                rw [S_append]
                ((refine' r_freeG (by with_reducible assumption) ?lk g3 d4 ?_ (by with_unfolding_all rfl) (by with_unfolding_all rfl)); (case lk => exact rfl))
                repeat' ((with_reducible refine r_cint (by with_reducible assumption) ?_; intro _ _ _))
                refine' r_set_list (by with_reducible assumption) (.skip .hit) (by decide) ?_ (by decide) ?_
                · show (0 : Int) < 1; decide
                clear H10
                intro s11 H
                repeat' (first | (with_reducible refine turn_next ?_) | (with_reducible refine wpAny_execs_nil ?_))
                refine ⟨rs.length, by simp, (hI _ _).mpr ⟨⟨rs, yk ++ name, decide (name = [])⟩, at_ + 1 + r.length, t0', _, _, rfl, hG', ?_, ?_, by rw [← hpull, hpl2], H.vsub (by walk_at "Msub")⟩⟩
                · intro _; rfl
                · intro q; simp [hnm] at q
            · intro h3 e s10 q1 q2 hf
              have hp : parseR r = .error (.ref 79, r) := by unfold parseR; rw [if_neg h3]
              have hpl2 := pull_err (rest := rs) hlt hp
              have hN : nextI x n = (.error (.ref 79, r), ⟨rs, yk, false⟩) := by unfold nextI; rw [← hpull, hpl2]
              rw [hN] at hend
              refine hE3 _ _ ?_
              refine leave_on P' H9 (S := []) rfl hf q1 q2 (fun _ h => nomatch h) (post' := [(pl, lst [.int ((at_ + 1 + r.length : Nat) : Int) t0'] 0), (kp, lst [.str (S yk) t1] 0), (en, lst [] 0)]) (fun p hp => .inr ⟨hp, fun h => nomatch h⟩) fun s11 q3 q4 hf' => ?_
              exact hend e tr _ s11 q3 q4 ⟨at_ + 1 + r.length, t0', t1, _, G.fail ht hp, rfl, fun _ => rfl, fun h => nomatch h⟩ hf'
      · refine ifF (by rw [hkl]; simpa using hlt) ?_
        repeat' (fail)
        refine ifF (by decide) ?_
        clear H
        rename Sy _ _ _ _ _ _ _ _ _ => H
        exact (hJ _).mpr ⟨y, at_, t0, t1, _, G, he1, he2, by rw [← hpull, pull_stop (.inl (by omega))], H⟩
    · intro s8 hJs
      obtain ⟨y, at_, t0, t1, oe, G, he1, he2, hpull, H⟩ := (hJ _).mp hJs
      clear hJs
      have hkl := S_length y.kept
      have hks := G.sz
      repeat' (first | (with_reducible refine r_sub_cut ?_) | (with_reducible refine Subscript_ ?_) | (with_reducible refine x_assign ?_ (by with_unfolding_all rfl)))
      ((refine' r_freeG (by with_reducible assumption) ?lk g3 d4 ?_ (by with_unfolding_all rfl) (by with_unfolding_all rfl)); (case lk => exact rfl))
      repeat' ((with_reducible refine r_cint (by with_reducible assumption) ?_; intro _ _ _))
      refine item0 (by with_reducible assumption) ?_ (by with_unfolding_all rfl)
      repeat' (first | (with_reducible refine r_sub_cut ?_) | ((with_reducible show wpAny _ _ (eval (Expr.Name _ _) _) _ _ _); with_reducible refine r_local (by with_reducible assumption) (by with_reducible repeat (first | exact List.mem_cons_self | refine List.mem_cons_of_mem _ ?_)) ?_ (by with_unfolding_all rfl) (by with_unfolding_all rfl) (by with_unfolding_all decide)) | (with_reducible refine Subscript_ ?_) | (with_reducible refine x_assignS ?_ (by with_unfolding_all rfl)) | (with_reducible refine evalPart_none_step ?_) | (with_reducible refine evalPart_some_step ?_) | (with_reducible refine r_cut_str (by with_reducible assumption) (by constructor) (by constructor) (by omega) ?_ (by intro _; with_unfolding_all rfl) (by intro _; with_unfolding_all rfl); intro _ _ _) | ((with_reducible show wpAny _ _ (storeName _ _ _) _ _ _); with_reducible refine r_store (by with_reducible assumption) (by with_reducible repeat (first | exact SetV.hit | exact SetV.nil | apply SetV.skip (by with_unfolding_all decide))) ?_ (by with_unfolding_all rfl) (by with_unfolding_all rfl); intro _ _))
      clear H
      rename Sy _ _ _ _ _ _ _ _ _ => H
      rw [slice_to] at H
      ((refine' r_freeG (by with_reducible assumption) ?lk g3 d4 ?_ (by with_unfolding_all rfl) (by with_unfolding_all rfl)); (case lk => exact rfl))
      repeat' ((with_reducible refine r_cint (by with_reducible assumption) ?_; intro _ _ _))
      refine item0 (by with_reducible assumption) ?_ (by with_unfolding_all rfl)
      repeat' (first | ((with_reducible show wpAny _ _ (eval (Expr.Name _ _) _) _ _ _); with_reducible refine r_local (by with_reducible assumption) (by with_reducible repeat (first | exact List.mem_cons_self | refine List.mem_cons_of_mem _ ?_)) ?_ (by with_unfolding_all rfl) (by with_unfolding_all rfl) (by with_unfolding_all decide)) | (with_reducible refine evalPart_none_step ?_) | (with_reducible refine evalPart_some_step ?_) | (with_reducible refine r_cut_str (by with_reducible assumption) (by constructor) (by constructor) (by omega) ?_ (by intro _; with_unfolding_all rfl) (by intro _; with_unfolding_all rfl); intro _ _ _))
      rw [slice_from]
      ((refine' r_freeG (by with_reducible assumption) ?lk g3 d4 ?_ (by with_unfolding_all rfl) (by with_unfolding_all rfl)); (case lk => exact rfl))
      repeat' ((with_reducible refine r_cint (by with_reducible assumption) ?_; intro _ _ _))
      refine' r_set_list (by with_reducible assumption) (.skip .hit) (by decide) ?_ (by decide) ?_
      · show (0 : Int) < 1; decide
      clear H
      intro s9 H
      repeat' (first | ((with_reducible show wpAny _ _ (eval (Expr.Name _ _) _) _ _ _); refine r_builtin (by with_reducible assumption) (by with_reducible assumption) (by with_reducible assumption) (by k_is) (by boot_by_name) ?_) | (with_reducible refine Call_ ?_ (by with_unfolding_all rfl)) | (with_reducible refine x_return ?_) | ((with_reducible show wpAny _ _ (spliced _) _ _ _); with_reducible refine spliced_more ?_ (by with_unfolding_all rfl)) | ((with_reducible show wpAny _ _ (callWith _ _ _ _ _) _ _ _); with_reducible refine PyProof.Rows.callWith_type1 ?_ (by with_unfolding_all rfl) (by with_unfolding_all rfl)))
      refine' r_comp (fun v y => ∃ k u t, v = .str ⟨#[k]⟩ u ∧ y = .int (k : Nat) t) ?c1 ?c2 ?c3 ?c4 ?c5 ?_
      case c1 => exact rfl
      case c2 => decide
      case c3 => rfl
      case c4 => decide
      case c5 => decide
      repeat' (((with_reducible show wpAny _ _ (eval (Expr.Name _ _) _) _ _ _); with_reducible refine r_local (by with_reducible assumption) (by with_reducible repeat (first | exact List.mem_cons_self | refine List.mem_cons_of_mem _ ?_)) ?_ (by with_unfolding_all rfl) (by with_unfolding_all rfl) (by with_unfolding_all decide)))
      have hnord : nsIn (hd.heap_39 w.params) mainGlobals (Str.ofString "ord") = some none := by k_is
      have htl : (y.kept.take n).length ≤ 300 := by rw [List.length_take]; omega
      refine comp_str (G := fun k y => ∃ t, y = .int (k : Nat) t) P'.hh H (by omega) (fun k u y hq => ?_) (fun k hk u => elt_ord XB TB hnord rfl (fun C => rfl) (fun C => rfl) (by decide)) ?_
      · obtain ⟨k', u', t', e1, e2⟩ := hq
        cases e1
        exact ⟨t', e2⟩
      clear H
      intro D nD ys s10 hys H
      repeat' (((with_reducible show wpAny _ _ (spliced _) _ _ _); with_reducible refine spliced_none ?_))
      refine r_bytes P'.hh (by with_reducible assumption) List.mem_cons_self hys (fun k hk => G.kb k (List.mem_of_mem_take hk)) (by omega) ?_
      clear H
      intro t s11 H
      have hN : nextI x n = (.ok (y.kept.take n), { y with kept := y.kept.drop n }) := by unfold nextI; rw [hpull]
      rw [hN] at hend
      exact hQ3 _ _ (hend t _ s11 H.gens H.os H.done ⟨at_, t0, _, oe, G.cut n, rfl, he1, he2⟩ fun p hp => (H.led p (.tail _ hp)).1)
  obtain ⟨fd, hfd⟩ : ∃ fd, fo.data = .func fd := ⟨_, by rw [← hfo]⟩
  clear hfo hcd hcv
  repeat' (first | ((with_reducible show wpAny _ _ (eval (Expr.Name _ _) _) _ _ _); refine r_global (by with_reducible assumption) (by with_reducible assumption) (by with_reducible assumption) (by k_is) ?_) | (with_reducible refine Call_ ?_ (by with_unfolding_all rfl)) | (with_reducible refine x_assign ?_ (by with_unfolding_all rfl)) | ((with_reducible show wpAny _ _ (storeName _ _ _) _ _ _); with_reducible refine r_store (by with_reducible assumption) (by with_reducible repeat (first | exact SetV.hit | exact SetV.nil | apply SetV.skip (by with_unfolding_all decide))) ?_ (by with_unfolding_all rfl) (by with_unfolding_all rfl); intro _ _))
  refine' r_callC XB ?k1 ?_
  case k1 => k_is
  repeat' (first | (with_reducible refine wpAny_Constant_none ?_) | ((with_reducible show wpAny _ _ (spliced _) _ _ _); with_reducible refine spliced_none ?_) | ((with_reducible show wpAny _ _ (spliced _) _ _ _); with_reducible refine spliced_more ?_ (by with_unfolding_all rfl)) | (with_reducible refine r_stays (by with_reducible assumption) ?_))
  clear H
  rename Sy _ _ _ _ _ _ _ _ _ => H
  refine example_spec XB0 TB P H rfl rfl (by omega) ?_
  clear H
  intro x dx tv s7 H
  repeat' (first | ((with_reducible show wpAny _ _ (eval (Expr.Name _ _) _) _ _ _); with_reducible refine r_local (by with_reducible assumption) (by with_reducible repeat (first | exact List.mem_cons_self | refine List.mem_cons_of_mem _ ?_)) ?_ (by with_unfolding_all rfl) (by with_unfolding_all rfl) (by with_unfolding_all decide)) | (with_reducible refine x_assignA ?_ (by with_unfolding_all rfl)) | ((with_reducible show wpAny _ _ (storeName _ _ _) _ _ _); with_reducible refine r_store (by with_reducible assumption) (by with_reducible repeat (first | exact SetV.hit | exact SetV.nil | apply SetV.skip (by with_unfolding_all decide))) ?_ (by with_unfolding_all rfl) (by with_unfolding_all rfl); intro _ _))
  clear H
  rename Sy _ _ _ _ _ _ _ _ _ => H
  refine' r_setattr H XB List.mem_cons_self (fun t => .skip .hit) ?s1 ?s2 ?s3 ?s4 rfl (fun t => by show 2 ≤ 1000; decide) ?_
  case s1 => k_is
  case s2 => k_is
  case s3 => k_is
  case s4 => k_is
  clear H
  intro tr s8 H
  repeat' (first | ((with_reducible show wpAny _ _ (eval (Expr.Name _ _) _) _ _ _); with_reducible refine r_local (by with_reducible assumption) (by with_reducible repeat (first | exact List.mem_cons_self | refine List.mem_cons_of_mem _ ?_)) ?_ (by with_unfolding_all rfl) (by with_unfolding_all rfl) (by with_unfolding_all decide)) | (with_reducible refine x_return ?_))
  generalize hes : putL _ _ _ _ (exEs w tv) = es at H
  generalize hk : putN _ _ _ = k at H
  have hget : getL (Str.ofString "read") es = some (some (.ref f)) := by rw [← hes]; with_unfolding_all rfl
  have nd : List.Nodup (α := Nat) [x, dx, f, c', en, kp, L + 1 + 1 + 1, L + 1 + 1, L + 1, 97] := H.nd
  have hnew : ∀ a o, (a, o) ∈ _ → a ≠ 97 → s.heap.get? a = none := fun a o hm hz => H.isNew hm (by simpa using hz)
  have nkp := hnew kp _ (by with_reducible repeat (first | exact List.mem_cons_self | refine List.mem_cons_of_mem _ ?_)) (nodup_ne nd (i := 5) (j := 9) rfl rfl (by decide))
  have nen := hnew en _ (by with_reducible repeat (first | exact List.mem_cons_self | refine List.mem_cons_of_mem _ ?_)) (nodup_ne nd (i := 4) (j := 9) rfl rfl (by decide))
  let own : List (Addr × Obj) := [(f, fo), (c', oc), (L + 1 + 1 + 1, o4), (L + 1 + 1, o5), (L + 1, o3), (x, instObj 52 dx), (dx, dictOf es k)]
  have ownF : ∀ q ∈ own, s.heap.get? q.1 = none ∧ s8.heap.get? q.1 = some q.2 ∧ q.1 ≠ kp ∧ q.1 ≠ en := by
    intro q hq
    have hq : q ∈ [(f, fo), (c', oc), (L + 1 + 1 + 1, o4), (L + 1 + 1, o5), (L + 1, o3), (x, instObj 52 dx), (dx, dictOf es k)] := hq
    simp only [List.mem_cons, List.not_mem_nil, or_false] at hq
    rcases hq with rfl | rfl | rfl | rfl | rfl | rfl | rfl
    · exact ⟨hnew f _ (by with_reducible repeat (first | exact List.mem_cons_self | refine List.mem_cons_of_mem _ ?_)) (nodup_ne nd (i := 2) (j := 9) rfl rfl (by decide)), H.get (by with_reducible repeat (first | exact List.mem_cons_self | refine List.mem_cons_of_mem _ ?_)), nodup_ne nd (i := 2) (j := 5) rfl rfl (by decide), nodup_ne nd (i := 2) (j := 4) rfl rfl (by decide)⟩
    · exact ⟨hnew c' _ (by with_reducible repeat (first | exact List.mem_cons_self | refine List.mem_cons_of_mem _ ?_)) (nodup_ne nd (i := 3) (j := 9) rfl rfl (by decide)), H.get (by with_reducible repeat (first | exact List.mem_cons_self | refine List.mem_cons_of_mem _ ?_)), nodup_ne nd (i := 3) (j := 5) rfl rfl (by decide), nodup_ne nd (i := 3) (j := 4) rfl rfl (by decide)⟩
    · exact ⟨hnew (L + 1 + 1 + 1) _ (by with_reducible repeat (first | exact List.mem_cons_self | refine List.mem_cons_of_mem _ ?_)) (nodup_ne nd (i := 6) (j := 9) rfl rfl (by decide)), H.get (by with_reducible repeat (first | exact List.mem_cons_self | refine List.mem_cons_of_mem _ ?_)), nodup_ne nd (i := 6) (j := 5) rfl rfl (by decide), nodup_ne nd (i := 6) (j := 4) rfl rfl (by decide)⟩
    · exact ⟨hnew (L + 1 + 1) _ (by with_reducible repeat (first | exact List.mem_cons_self | refine List.mem_cons_of_mem _ ?_)) (nodup_ne nd (i := 7) (j := 9) rfl rfl (by decide)), H.get (by with_reducible repeat (first | exact List.mem_cons_self | refine List.mem_cons_of_mem _ ?_)), nodup_ne nd (i := 7) (j := 5) rfl rfl (by decide), nodup_ne nd (i := 7) (j := 4) rfl rfl (by decide)⟩
    · exact ⟨hnew (L + 1) _ (by with_reducible repeat (first | exact List.mem_cons_self | refine List.mem_cons_of_mem _ ?_)) (nodup_ne nd (i := 8) (j := 9) rfl rfl (by decide)), H.get (by with_reducible repeat (first | exact List.mem_cons_self | refine List.mem_cons_of_mem _ ?_)), nodup_ne nd (i := 8) (j := 5) rfl rfl (by decide), nodup_ne nd (i := 8) (j := 4) rfl rfl (by decide)⟩
    · exact ⟨hnew x _ (by with_reducible repeat (first | exact List.mem_cons_self | refine List.mem_cons_of_mem _ ?_)) (nodup_ne nd (i := 0) (j := 9) rfl rfl (by decide)), H.get (by with_reducible repeat (first | exact List.mem_cons_self | refine List.mem_cons_of_mem _ ?_)), nodup_ne nd (i := 0) (j := 5) rfl rfl (by decide), nodup_ne nd (i := 0) (j := 4) rfl rfl (by decide)⟩
    · exact ⟨hnew dx _ (by with_reducible repeat (first | exact List.mem_cons_self | refine List.mem_cons_of_mem _ ?_)) (nodup_ne nd (i := 1) (j := 9) rfl rfl (by decide)), H.get (by with_reducible repeat (first | exact List.mem_cons_self | refine List.mem_cons_of_mem _ ?_)), nodup_ne nd (i := 1) (j := 5) rfl rfl (by decide), nodup_ne nd (i := 1) (j := 4) rfl rfl (by decide)⟩
  have hoffT : ∀ q ∈ own ++ T1.fz, q.1 ∉ [pl, kp, en] := by
    intro q hq he
    simp only [List.mem_cons, List.not_mem_nil, or_false] at he
    rcases List.mem_append.mp hq with hq | hq
    · obtain ⟨w1, w2, w3, w4⟩ := ownF q hq
      rcases he with e | e | e
      · rw [e, hpl] at w1; cases w1
      · exact w3 e
      · exact w4 e
    · rcases he with e | e | e
      · exact T1.hoff q hq (by rw [ha1]; exact List.mem_singleton.mpr e)
      · have := hf1 q hq; rw [e, nkp] at this; cases this
      · have := hf1 q hq; rw [e, nen] at this; cases this
  let T : Strm Inn := { fn := f, fo := fo, fd := fd, fz := own ++ T1.fz, adr := [pl, kp, en], Ok := okI l tail pl kp en, next := nextI, hfo := .head _, hfd := hfd, hoff := hoffT, hadr := ?_, hbyte := ?_ }
  rotate_left
  · rintro y ld ⟨_, _, _, _, _, rfl, _, _⟩; rfl
  · rintro y ld n bs x' ⟨at_, t0, t1, oe, G, _, _, _⟩ hq
    unfold nextI at hq
    cases hpl : pull n y.rest y.kept y.ended with
    | mk r z =>
      rw [hpl] at hq
      cases r with
      | error e => cases hq
      | ok u =>
        obtain ⟨at', G'⟩ := pull_good ht G hpl
        cases hq
        exact ⟨fun b hb => G'.kb b (List.mem_of_mem_take hb), by rw [List.length_take]; omega⟩
  have hWk : T.Works w base 4 := by
    intro A' fs' fr' s'' ld y n t Q' E' P' hfz hof hok hd hn hend
    have off : ∀ q ∈ own ++ T1.fz, q.1 ∉ pl :: kp :: en :: fr' := fun q hq z => by
      rcases List.mem_append.mp (show q.1 ∈ [pl, kp, en] ++ fr' from z) with z | z
      · exact hoffT q hq z
      · exact hof q hq z
    refine hW A' fs' fr' s'' y ld n t Q' E' P' hok (fun q hq => ?_) (fun q hq => hfz q (List.mem_append_right _ hq)) (fun q hq => off q (List.mem_append_right _ hq)) (by omega) hn hend
    have hq' : q ∈ own ++ T1.fz := List.mem_append_left _ (by
      show q ∈ [(f, fo), (c', oc), (L + 1 + 1 + 1, o4), (L + 1 + 1, o5), (L + 1, o3), (x, instObj 52 dx), (dx, dictOf es k)]
      exact (List.mem_append_left [(x, instObj 52 dx), (dx, dictOf es k)] hq))
    exact ⟨hfz q hq', off q hq'⟩
  have hmx : (x, instObj 52 dx) ∈ own := show _ ∈ [(f, fo), (c', oc), (L + 1 + 1 + 1, o4), (L + 1 + 1, o5), (L + 1, o3), (x, instObj 52 dx), (dx, dictOf es k)] from by with_reducible repeat (first | exact List.mem_cons_self | refine List.mem_cons_of_mem _ ?_)
  have hmd : (dx, dictOf es k) ∈ own := show _ ∈ [(f, fo), (c', oc), (L + 1 + 1 + 1, o4), (L + 1 + 1, o5), (L + 1, o3), (x, instObj 52 dx), (dx, dictOf es k)] from by with_reducible repeat (first | exact List.mem_cons_self | refine List.mem_cons_of_mem _ ?_)
  have hgk : s8.heap.get? kp = some (lst [.str (S []) tz] 0) := (H.led (kp, lst [.str (Str.ofString "") tz] 0) (by with_reducible repeat (first | exact List.mem_cons_self | refine List.mem_cons_of_mem _ ?_))).1
  have hge : s8.heap.get? en = some (lst [] 0) := (H.led (en, lst [] 0) (by with_reducible repeat (first | exact List.mem_cons_self | refine List.mem_cons_of_mem _ ?_))).1
  refine hQ2 _ _ ?_
  refine h T x dx es k kp en ps' tz s8 H.gens H.os H.done hWk ⟨List.mem_append_left _ hmx, List.mem_append_left _ hmd, hget⟩ rfl rfl rfl (fun q hq => ?_) (fun a ha => ?_) hgk hge (H.led (97, tabObj ps') (by with_reducible repeat (first | exact List.mem_cons_self | refine List.mem_cons_of_mem _ ?_))).1 (fun a ha => ?_) (nodup_ne nd (i := 5) (j := 4) rfl rfl (by decide))
  · rcases List.mem_append.mp hq with hq | hq
    · exact (ownF q hq).2.1
    · have n1 := hof1 q hq
      exact (H.done q.1 q.2 (hf1 q hq) fun z => n1 ((List.mem_singleton.mp z) ▸ .head _)).1 fun z => n1 (.tail _ z)
  · obtain ⟨q, hq, rfl⟩ := List.mem_map.mp ha
    rcases List.mem_append.mp hq with hq | hq
    · exact .inl (ownF q hq).1
    · exact .inr (List.mem_map_of_mem hq)
  · simp only [List.mem_cons, List.not_mem_nil, or_false] at ha
    rcases ha with rfl | rfl
    · exact nkp
    · exact nen
end Mine

set_option maxRecDepth 100000
set_option maxHeartbeats 400000
namespace Mine
theorem Paired.get' {α β : Type} {F : α → β → Prop} : ∀ {l : List α} {m : List β}, Paired F l m → ∀ {i : Nat} {b : β}, m[i]? = some b → ∃ a, l[i]? = some a ∧ F a b
  | _, _, .nil, _, _, h => by simp at h
  | _, _, .cons h _, 0, _, e => by simp at e; subst e; exact ⟨_, rfl, h⟩
  | _, _, .cons _ r, i + 1, _, e => by simp at e ⊢; exact Paired.get' r e
theorem Paired.get2' {α β : Type} {F : α → β → Prop} : ∀ {l : List α} {m : List β}, Paired F l m → ∀ {i : Nat} {a : α}, l[i]? = some a → ∃ b, m[i]? = some b ∧ F a b
  | _, _, .nil, _, _, h => by simp at h
  | _, _, .cons h _, 0, _, e => by simp at e; subst e; exact ⟨_, rfl, h⟩
  | _, _, .cons _ r, i + 1, _, e => by simp at e ⊢; exact Paired.get2' r e
theorem Paired.app {α β : Type} {F : α → β → Prop} : ∀ {l : List α} {m : List β} {l' : List α} {m' : List β}, Paired F l m → Paired F l' m' → Paired F (l ++ l') (m ++ m')
  | _, _, _, _, .nil, h => h
  | _, _, _, _, .cons h r, h' => .cons h (Paired.app r h')
theorem Paired.one' {α β : Type} {F : α → β → Prop} {a : α} {b : β} (h : F a b) : Paired F [a] [b] := .cons h .nil
/-- texts, as values -/
noncomputable abbrev IsStrs (l : List (List Nat)) (ys : List Value) : Prop := Paired (fun (r : List Nat) y => ∃ t, y = Value.str (S r) t) l ys
theorem take_get {α : Type} {l : List α} {i : Nat} {a : α} (h : l[i]? = some a) : l.take (i + 1) = l.take i ++ [a] := by
  rw [List.take_add_one, h]; rfl
theorem flat_app (a b : List (List Nat)) : flat (a ++ b) = flat a ++ flat b := by simp [flat]
theorem flat_take_le (l : List (List Nat)) (i : Nat) : (flat (l.take i)).length ≤ (flat l).length := by
  have : flat l = flat (l.take i) ++ flat (l.drop i) := by rw [← flat_app, List.take_append_drop]
  rw [this, List.length_append]; omega
theorem flat_byte {l : List (List Nat)} (h : ∀ r ∈ l, r.length ≤ 255 ∧ ∀ b ∈ r, b < 256) : ∀ b ∈ flat l, b < 256 := fun b hb => by
  obtain ⟨r, hr, hb⟩ := List.mem_flatMap.mp hb
  rcases List.mem_cons.mp hb with rfl | hb
  · have := (h r hr).1; omega
  · exact (h r hr).2 b hb
end Mine

set_option maxRecDepth 100000
set_option maxHeartbeats 4000000
namespace Mine
theorem written_spec {w : World} {p : Program} {loose : List Str} {mean : ExcName → Option Value} {mg mb : Str → Option Value} {base : Heap} {A : Around} {fs : List Env} {fr : List Addr} {s : Shared} {Q E : Value → Shared → Prop} {rl : Addr} {reps : List (List Nat)} {rv : List Value} {rn : Nat}
    (XB : (hd.heap_39 w.params).In base) (TB : Top p loose mean mg mb base) (P : Pre base A fs fr [] s) (hroom : A.depth + 10 < recursionLimit)
    (hrl : s.heap.get? rl = some (lst rv rn)) (hrf : rl ∉ fr) (hrs : IsStrs reps rv) (hrep : ∀ r ∈ reps, r.length ≤ 255 ∧ ∀ b ∈ r, b < 256) (hsz : (flat reps).length ≤ 100000)
    (h : ∀ t s', s'.gens = s.gens → s'.os = s.os → Ext [] fr s.heap s'.heap → Q (.bytes (B (flat reps)) t) s') :
    wpAny (model PySem.Challenge.rw_of0006_01.row.prog w) A (call (.ref 121) [.ref rl]) Q E s := by
  have XB0 := XB
  revert XB; k_fill; intro XB
  refine' enterK [(Str.ofString "replies", .ref rl)] [Str.ofString "replies"] P XB TB ?o ?c (by omega) ?bi ?nm ?nd ?_ ?lo ?ce ?x1 ?x2 ?x3
  (case o => k_is)
  (case c => k_is)
  (case bi => exact rfl)
  (case nm => exact rfl)
  (case nd => decide)
  (case lo => decide)
  (case ce => decide)
  (case x1 => rfl)
  (case x2 => rfl)
  (case x3 => rfl)
  intro _ _ _
  refine calmA P.hh ?_
  intro A' hh Q' hQ
  rename Sy _ _ _ _ _ _ _ _ _ => H
  rename_i L s1
  have hg : (hideAll s.heap fr).get? rl = some (lst rv rn) := hideAll_get _ hrl hrf
  replace H : Sy base s [] (hideAll s.heap fr) fr L [(Str.ofString "replies", .ref rl)] [] s1 := H
  repeat' ((fail_if_success ((with_reducible show PySem.wpAny _ _ (PySem.newList _) _ _ _))); first | (with_reducible refine List_ ?_) | (with_reducible refine x_assign ?_ (by with_unfolding_all rfl)) | ((with_reducible show wpAny _ _ (spliced _) _ _ _); with_reducible refine spliced_none ?_))
  refine r_newList H ?_
  clear H
  intro o s2 H
  repeat' (((with_reducible show wpAny _ _ (storeName _ _ _) _ _ _); with_reducible refine r_store (by with_reducible assumption) (by with_reducible repeat (first | exact SetV.hit | exact SetV.nil | apply SetV.skip (by with_unfolding_all decide))) ?_ (by with_unfolding_all rfl) (by with_unfolding_all rfl); intro _ _))
  clear H
  rename Sy _ _ _ _ _ _ _ _ _ => H
  refine x_for ?_
  repeat' (((with_reducible show wpAny _ _ (eval (Expr.Name _ _) _) _ _ _); with_reducible refine r_local (by with_reducible assumption) (by with_reducible repeat (first | exact List.mem_cons_self | refine List.mem_cons_of_mem _ ?_)) ?_ (by with_unfolding_all rfl) (by with_unfolding_all rfl) (by with_unfolding_all decide)))
  have hnord : nsIn (hd.heap_39 w.params) mainGlobals (Str.ofString "ord") = some none := by k_is
  refine r_for_list (items := rv) (fun i g vars news => ∃ ys n, g = hideAll s.heap fr ∧ vars = [(Str.ofString "replies", .ref rl), (Str.ofString "octets", .ref o)] ∧ news = [(o, lst ys n)] ∧ IsInts (flat (reps.take i)) ys) hh H ⟨[], 0, rfl, rfl, rfl, .nil⟩ ?_ ?_ ?_
  · rintro i g vars news s' ⟨ys, n, rfl, rfl, rfl, -⟩ H'
    exact ⟨_, H'.keep _ _ hg, rfl, rn, rfl⟩
  · clear H
    rintro i v g vars it io news s' hv ⟨ys, n, rfl, rfl, rfl, hys⟩ H
    obtain ⟨r, hr, tr, rfl⟩ := Paired.get' hrs hv
    have hr2 := hrep r (List.mem_of_getElem? hr)
    have hrl2 := S_length r
    refine calmT ?_
    intro R hRn
    have hyl : ys.length ≤ 100000 := by rw [Paired.length' hys]; exact Nat.le_trans (flat_take_le reps i) hsz
    repeat' (first | ((with_reducible show wpAny _ _ (eval (Expr.Name _ _) _) _ _ _); with_reducible refine r_local (by with_reducible assumption) (by with_reducible repeat (first | exact List.mem_cons_self | refine List.mem_cons_of_mem _ ?_)) ?_ (by with_unfolding_all rfl) (by with_unfolding_all rfl) (by with_unfolding_all decide)) | ((with_reducible show wpAny _ _ (eval (Expr.Name _ _) _) _ _ _); refine r_builtin (by with_reducible assumption) (by with_reducible assumption) (by with_reducible assumption) (by k_is) (by boot_by_name) ?_) | (with_reducible refine MethodCall_ ?_ (by with_unfolding_all rfl)) | (with_reducible refine Call_ ?_ (by with_unfolding_all rfl)) | (with_reducible refine x_expr ?_ (by with_unfolding_all rfl) (by with_unfolding_all rfl)) | ((with_reducible show wpAny _ _ (call (Value.builtin "len") _ _) _ _ _); with_reducible refine r_len_str (by with_reducible assumption) (by omega) ?_; intro _ _ _) | ((with_reducible show wpAny _ _ (call (Value.builtin "list.append") _ _) _ _ _); with_reducible refine r_append (by with_reducible assumption) (by with_reducible repeat (first | exact SetN.hit | apply SetN.skip)) (by omega) ?_; intro _ _) | ((with_reducible show wpAny _ _ (getMethod _ _ _) _ _ _); with_reducible refine r_meth_list (by with_reducible assumption) (by with_reducible repeat (first | exact List.mem_cons_self | refine List.mem_cons_of_mem _ ?_)) PySem.F.slot_list_append PySem.F.type_list_append ?_) | ((with_reducible show wpAny _ _ (getMethod _ _ _) _ _ _); with_reducible refine r_meth_list (by with_reducible assumption) (by with_reducible repeat (first | exact List.mem_cons_self | refine List.mem_cons_of_mem _ ?_)) PySem.F.slot_list_extend PySem.F.type_list_extend ?_) | ((with_reducible show wpAny _ _ (spliced _) _ _ _); with_reducible refine spliced_none ?_) | ((with_reducible show wpAny _ _ (spliced _) _ _ _); with_reducible refine spliced_more ?_ (by with_unfolding_all rfl)) | ((with_reducible show wpAny _ _ (callWith _ _ _ _ _) _ _ _); with_reducible refine PyProof.Rows.callWith_builtin1 ?_ (by with_unfolding_all rfl) (by with_unfolding_all rfl)) | ((with_reducible show wpAny _ _ (callWith _ _ _ _ _) _ _ _); with_reducible refine callWith_method1 ?_ (by with_unfolding_all rfl) (by with_unfolding_all rfl); dsimp only [List.cons_append, List.nil_append]) | ((with_reducible show wpAny _ _ (storeName _ _ _) _ _ _); with_reducible refine r_store (by with_reducible assumption) (by with_reducible repeat (first | exact SetV.hit | exact SetV.nil | apply SetV.skip (by with_unfolding_all decide))) ?_ (by with_unfolding_all rfl) (by with_unfolding_all rfl); intro _ _))
    clear H
    rename Sy _ _ _ _ _ _ _ _ _ => H
    refine' r_comp (fun v y => ∃ k u t, v = .str ⟨#[k]⟩ u ∧ y = .int (k : Nat) t) ?c1 ?c2 ?c3 ?c4 ?c5 ?_
    case c1 => exact rfl
    case c2 => decide
    case c3 => rfl
    case c4 => decide
    case c5 => decide
    repeat' (((with_reducible show wpAny _ _ (eval (Expr.Name _ _) _) _ _ _); with_reducible refine r_local (by with_reducible assumption) (by with_reducible repeat (first | exact List.mem_cons_self | refine List.mem_cons_of_mem _ ?_)) ?_ (by with_unfolding_all rfl) (by with_unfolding_all rfl) (by with_unfolding_all decide)))
    refine comp_str (G := fun k y => ∃ t, y = .int (k : Nat) t) hh H (by omega) (fun k u y hq => ?_) (fun k hk u => elt_ord XB TB hnord rfl (fun C => rfl) (fun C => rfl) (by decide)) ?_
    · obtain ⟨k', u', t', e1, e2⟩ := hq
      cases e1
      exact ⟨t', e2⟩
    clear H
    intro D nD zs s6 hzs H
    have hzl := Paired.length' hzs
    repeat' (((with_reducible show wpAny _ _ (spliced _) _ _ _); with_reducible refine spliced_none ?_))
    refine r_extend (by with_reducible assumption) (by with_reducible repeat (first | exact List.mem_cons_self | refine List.mem_cons_of_mem _ ?_)) (by with_reducible repeat (first | exact SetN.hit | apply SetN.skip)) (by simp only [List.length_append, List.length_cons, List.length_nil]; omega) ?_
    clear H
    intro s7 H
    repeat' ((with_reducible refine wpAny_execs_nil ?_))
    refine hRn _ ?_
    refine ⟨_, _, _, ⟨_, _, rfl, rfl, rfl, ?_⟩, (H.vsub (by walk_at "Msub")).sub (by walk_at "Msub")⟩
    rw [take_get hr, flat_app]
    have e1 : flat [r] = [r.length] ++ r := by simp [flat]
    rw [e1, ← List.append_assoc]
    exact Paired.app (Paired.app hys (Paired.one' ⟨_, by rw [hrl2]⟩)) hzs
  · rintro g vars news s' ⟨ys, n, rfl, rfl, rfl, hys⟩ H
    have hlen : rv.length = reps.length := Paired.length' hrs
    rw [hlen, List.take_length] at hys
    repeat' (first | ((with_reducible show wpAny _ _ (eval (Expr.Name _ _) _) _ _ _); with_reducible refine r_local (by with_reducible assumption) (by with_reducible repeat (first | exact List.mem_cons_self | refine List.mem_cons_of_mem _ ?_)) ?_ (by with_unfolding_all rfl) (by with_unfolding_all rfl) (by with_unfolding_all decide)) | ((with_reducible show wpAny _ _ (eval (Expr.Name _ _) _) _ _ _); refine r_builtin (by with_reducible assumption) (by with_reducible assumption) (by with_reducible assumption) (by k_is) (by boot_by_name) ?_) | (with_reducible refine Call_ ?_ (by with_unfolding_all rfl)) | (with_reducible refine x_return ?_) | ((with_reducible show wpAny _ _ (spliced _) _ _ _); with_reducible refine spliced_none ?_) | ((with_reducible show wpAny _ _ (spliced _) _ _ _); with_reducible refine spliced_more ?_ (by with_unfolding_all rfl)) | ((with_reducible show wpAny _ _ (callWith _ _ _ _ _) _ _ _); with_reducible refine PyProof.Rows.callWith_type1 ?_ (by with_unfolding_all rfl) (by with_unfolding_all rfl)))
    refine r_bytes hh (by with_reducible assumption) List.mem_cons_self hys (flat_byte hrep) (by omega) ?_
    clear H
    intro t s5 H
    exact hQ _ _ (h t s5 H.gens H.os H.done)
end Mine

set_option maxRecDepth 100000
set_option maxHeartbeats 400000
namespace Mine
theorem preSum_eq (ns : List Nat) : ∀ k, k ≤ ns.length → preSum (fun i => ((ns.getD i 0 : Nat) : Int)) k = (((ns.take k).sum : Nat) : Int)
  | 0, _ => by simp [preSum]
  | k + 1, h => by
    have ih := preSum_eq ns k (by omega)
    have e : ns[k]? = some (ns.getD k 0) := by
      rw [List.getD_eq_getElem?_getD, List.getElem?_eq_getElem (by omega)]; rfl
    rw [take_get e, List.sum_append]
    simp only [preSum, ih, List.sum_cons, List.sum_nil]
    omega
theorem sum_bound {ns : List Nat} (h : ∀ k ∈ ns, k < 1000) : ns.sum ≤ 1000 * ns.length := by
  induction ns with
  | nil => simp
  | cons a r ih =>
    have h1 := h a (.head _)
    have h2 := ih fun k hk => h k (.tail _ hk)
    simp only [List.sum_cons, List.length_cons]
    omega
section
variable {prog : Program} {w : World} {A : Around} {E : Value → Shared → Prop} {s s₀ : Shared} {base g : Heap} {Z fr : List Addr} {L : Addr} {vars : List (Str × Value)} {news : List (Addr × Obj)} {Q : Value → Shared → Prop}
theorem r_sum {l : Addr} {vs : List Value} {ns : List Nat} (hh : A.handled = none) (H : Sy base s₀ Z g fr L vars news s) (hl : s.heap.IsList l vs.toArray) (hi : IsInts ns vs) (hb : ∀ k ∈ ns, k < 1000) (hn : ns.length ≤ 1000)
    (h : ∀ t s', Sy base s₀ Z g fr L vars news s' → Q (.int ((ns.sum : Nat) : Int) t) s') : wpAny (model prog w) A (call (.builtin "sum") [.ref l]) Q E s := by
  obtain ⟨ol, hol, hlr⟩ := id hl
  have hlt := Heap.lt_size hol
  have hlen := Paired.length' hi
  refine call_sum_walk (wpAny_pyIter_list hl ?_)
  have W := Walks.list (prog := prog) (w := w) (A := A.in1) hh s.heap.objs.size l (Nat.ne_of_lt hlt) vs.toArray
  have fresh : ∀ b o, s.heap.get? b = some o → b ∉ [s.heap.objs.size] := fun b o e q => absurd (Heap.lt_size e) (by rw [List.mem_singleton.mp q]; exact Nat.lt_irrefl _)
  refine ⟨_, _, _, _, _, _, fun i => ((ns.getD i 0 : Nat) : Int), rfl, W, ⟨⟨_, Heap.get?_push_size _ rfl, rfl, rfl⟩, hl.at fun o e => Heap.get?_push_of_some _ e⟩, fun b hb => ?_, fun i v hv => ?_, fun j hj => ?_, fun h' tk t' hk => ?_⟩
  · rw [Heap.size_push]
    rcases List.mem_cons.mp hb with rfl | hb
    · exact Nat.lt_succ_self _
    · rw [List.mem_singleton.mp hb]; exact Nat.lt_succ_of_lt hlt
  · obtain ⟨k, hk, t, rfl⟩ := Paired.get' hi (by simpa using hv)
    exact ⟨t, by dsimp only; rw [List.getD_eq_getElem?_getD, hk]; rfl⟩
  · rw [List.size_toArray, hlen] at hj
    have h1 : ns.getD j 0 < 1000 := by
      rw [List.getD_eq_getElem?_getD, List.getElem?_eq_getElem hj]
      exact hb _ (List.getElem_mem hj)
    have h2 : (ns.take (j + 1)).sum ≤ 1000 * 1000 := Nat.le_trans (sum_bound fun k hk => hb k (List.mem_of_mem_take hk)) (by rw [List.length_take]; omega)
    rw [preSum_eq ns (j + 1) (by omega)]
    constructor <;> (unfold InLong; (try dsimp only); omega)
  · rw [List.size_toArray, hlen, preSum_eq ns _ (Nat.le_refl _), List.take_length]
    exact h t' _ (H.grown fun b o e => hk b o (fresh b o e) (Heap.get?_push_of_some _ e))
theorem r_item_last {l : Addr} {vs : List Value} {n : Nat} {val : Value} {u : Tok} {value slice : Expr} (H : Sy base s₀ Z g fr L vars news s) (hm : (l, lst (vs ++ [val]) n) ∈ news) (h : Q val s)
    (hs : subscripted slice false (.ref l) (.int (-1) u) = operate [.ref l, .int (-1) u] (getItem (.ref l) (.int (-1) u)) := by with_unfolding_all rfl) :
    wpAny (model prog w) A (subscriptTail value slice (.ref l) (.int (-1) u)) Q E s := by
  have hl : s.heap.IsList l (vs ++ [val]).toArray := ⟨_, H.get hm, rfl, n, rfl⟩
  refine tail_any hl.typeIs slot_list_getitem.lookup (wpAny_getItem_list_neg hl (by decide) ?_ (by decide) ?_ h) hs
  · simp; omega
  · rw [show (-1 + (((vs ++ [val]).toArray.size : Nat) : Int)).toNat = vs.length by simp; omega]
    simp
end
end Mine

set_option maxRecDepth 100000
set_option maxHeartbeats 400000
namespace Mine
noncomputable def octOf (z : Nat) : Nat := match z % 8 with | 0 => 0 | 1 => 1 | 2 => 2 | 3 => 3 | 4 => 34 | 5 => 65 | 6 => 150 | _ => 2
noncomputable def t250 (z : Nat) : List Nat := txt "250 " ++ txt (toString (z : Int))
structure Laid where
  octs : List Nat
  marks : List (Nat × List Nat)
  reps : List (List Nat)
  piece : List Nat
noncomputable def btw (z : Nat) : Bool := decide (z / 24 % 4 = 0)
noncomputable def layStep (x : Laid) (z : Nat) : Laid :=
  let octs := x.octs ++ [octOf z]
  let piece := x.piece ++ [octOf z]
  let cutq := btw z || decide (z / 8 % 3 = 0)
  let reps := if cutq then x.reps ++ [quotedL piece (z : Nat)] else x.reps
  { octs, piece := if cutq then [] else piece,
    reps := if btw z then reps ++ [t250 z] else reps,
    marks := if btw z then x.marks ++ [(octs.length, t250 z)] else x.marks }
noncomputable def layAll (zs : List Nat) : Laid := zs.foldl layStep ⟨[], [], [], []⟩
noncomputable def endR (k : Nat) : List Nat := match k % 5 with
  | 0 => txt "257 \"\" \"x\"" | 1 => txt "257 \"\"" | 2 => txt "257" | 3 => txt "257-\"x\"" | _ => txt "257 xy"
noncomputable def laidReps (zs : List Nat) : List (List Nat) := (layAll zs).reps ++ (if (layAll zs).piece = [] then [] else [quotedL (layAll zs).piece 0]) ++ [endR zs.sum]
theorem layAll_snoc {zs : List Nat} {i z : Nat} (h : zs[i]? = some z) : layAll (zs.take (i + 1)) = layStep (layAll (zs.take i)) z := by
  rw [take_get h, layAll, List.foldl_append]; rfl
/-- marks, as values -/
noncomputable def MarksAt (g : Heap) (marks : List (Nat × List Nat)) (mv : List Value) : Prop := Paired (fun (m : Nat × List Nat) v => ∃ a t u, v = Value.ref a ∧ g.get? a = some (lst [.int (m.1 : Nat) t, .str (S m.2) u] 0)) marks mv
theorem MarksAt.mono {g g' : Heap} {marks : List (Nat × List Nat)} {mv : List Value} (h : MarksAt g marks mv) (k : ∀ b o, g.get? b = some o → g'.get? b = some o) : MarksAt g' marks mv := by
  unfold MarksAt at h ⊢
  induction h with
  | nil => exact .nil
  | cons h _ ih => obtain ⟨a, t, u, e, hg⟩ := h; exact .cons ⟨a, t, u, e, k _ _ hg⟩ ih
theorem layAll_len : ∀ zs : List Nat, (layAll zs).octs.length = zs.length ∧ (layAll zs).piece.length ≤ zs.length ∧ (layAll zs).reps.length ≤ 2 * zs.length ∧ (layAll zs).marks.length ≤ zs.length := by
  have key : ∀ (zs : List Nat) (x : Laid) (n : Nat), x.octs.length = n → x.piece.length ≤ n → x.reps.length ≤ 2 * n → x.marks.length ≤ n →
      (zs.foldl layStep x).octs.length = n + zs.length ∧ (zs.foldl layStep x).piece.length ≤ n + zs.length ∧ (zs.foldl layStep x).reps.length ≤ 2 * (n + zs.length) ∧ (zs.foldl layStep x).marks.length ≤ n + zs.length := by
    intro zs
    induction zs with
    | nil => intro x n h1 h2 h3 h4; simp; omega
    | cons z r ih =>
      intro x n h1 h2 h3 h4
      have a1 : (layStep x z).octs.length = n + 1 := by simp [layStep]; omega
      have a2 : (layStep x z).piece.length ≤ n + 1 := by
        unfold layStep; dsimp only; split
        · exact Nat.zero_le _
        · rw [List.length_append, List.length_singleton]; omega
      have a3 : (layStep x z).reps.length ≤ 2 * (n + 1) := by
        unfold layStep; dsimp only
        split <;> split <;> (try simp only [List.length_append, List.length_singleton]) <;> omega
      have a4 : (layStep x z).marks.length ≤ n + 1 := by
        unfold layStep; dsimp only
        split
        · rw [List.length_append, List.length_singleton]; omega
        · omega
      have := ih (layStep x z) (n + 1) a1 a2 a3 a4
      rw [List.foldl_cons, List.length_cons]
      omega
  intro zs
  have := key zs ⟨[], [], [], []⟩ 0 rfl (by simp) (by simp) (by simp)
  simpa [layAll] using this
theorem oct_item (t0 t1 t2 t3 t4 t5 t6 t7 : Tok) (z : Nat) : ∃ t, [Value.int 0 t0, .int 1 t1, .int 2 t2, .int 3 t3, .int 34 t4, .int 65 t5, .int 150 t6, .int 2 t7][((z : Int) % 8).toNat]? = some (.int (octOf z : Nat) t) := by
  rw [show ((z : Int) % 8).toNat = z % 8 by omega]
  have h : z % 8 = 0 ∨ z % 8 = 1 ∨ z % 8 = 2 ∨ z % 8 = 3 ∨ z % 8 = 4 ∨ z % 8 = 5 ∨ z % 8 = 6 ∨ z % 8 = 7 := by omega
  unfold octOf
  rcases h with h | h | h | h | h | h | h | h <;> rw [h] <;> exact ⟨_, rfl⟩
theorem octOf_le (z : Nat) : octOf z ≤ 150 := by
  unfold octOf
  split <;> decide
theorem end_item (t0 t1 t2 t3 t4 : Tok) (k : Nat) : ∃ t, [Value.str (Str.ofString "257 \"\" \"x\"") t0, .str (Str.ofString "257 \"\"") t1, .str (Str.ofString "257") t2, .str (Str.ofString "257-\"x\"") t3, .str (Str.ofString "257 xy") t4][((k : Int) % 5).toNat]? = some (.str (S (endR k)) t) := by
  rw [show ((k : Int) % 5).toNat = k % 5 by omega]
  have h : k % 5 = 0 ∨ k % 5 = 1 ∨ k % 5 = 2 ∨ k % 5 = 3 ∨ k % 5 = 4 := by omega
  unfold endR
  rcases h with h | h | h | h | h <;> rw [h] <;> exact ⟨_, by simp only [S_txt]; rfl⟩
theorem t250_facts : ∀ z < 288, (t250 z).length ≤ 7 ∧ (t250 z).take 3 = [50, 53, 48] ∧ ∀ b ∈ t250 z, b < 256 := by decide +kernel
section
variable {prog : Program} {w : World} {A : Around} {E : Value → Shared → Prop} {s s₀ : Shared} {base g : Heap} {Z fr : List Addr} {L : Addr} {vars : List (Str × Value)} {news : List (Addr × Obj)} {Q : Value → Shared → Prop}
theorem r_250 {z : Nat} {t u : Tok} (H : Sy base s₀ Z g fr L vars news s) (hz : z < 288) (h : ∀ t s', Sy base s₀ Z g fr L vars news s' → Q (.str (S (t250 z)) t) s') : wpAny (model prog w) A (binaryOp .Add (.str (Str.ofString "250 ") t) (.str (Str.ofString (toString (z : Int))) u)) Q E s := by
  have hl := (t250_facts z hz).1
  have e : Str.ofString "250 " ++ Str.ofString (toString (z : Int)) = S (t250 z) := by unfold t250; rw [← S_append, S_txt, S_txt]
  refine r_add_str H ?_ (by rw [e]; exact h)
  rw [← S_txt "250 ", ← S_txt (toString (z : Int)), S_length, S_length]
  unfold t250 at hl
  rw [List.length_append] at hl
  omega
theorem r_oct {l : Addr} {t0 t1 t2 t3 t4 t5 t6 t7 u : Tok} {z : Nat} {value slice : Expr} (H : Sy base s₀ Z g fr L vars news s) (hm : (l, lst [Value.int 0 t0, .int 1 t1, .int 2 t2, .int 3 t3, .int 34 t4, .int 65 t5, .int 150 t6, .int 2 t7] 0) ∈ news) (h : ∀ t, Q (.int (octOf z : Nat) t) s)
    (hs : subscripted slice false (.ref l) (.int ((z : Int) % 8) u) = operate [.ref l, .int ((z : Int) % 8) u] (getItem (.ref l) (.int ((z : Int) % 8) u)) := by with_unfolding_all rfl) :
    wpAny (model prog w) A (subscriptTail value slice (.ref l) (.int ((z : Int) % 8) u)) Q E s := by
  obtain ⟨t, ht⟩ := oct_item t0 t1 t2 t3 t4 t5 t6 t7 z
  exact r_item_list H hm (by omega) (by omega) ht (h t) hs
theorem r_end {l : Addr} {t0 t1 t2 t3 t4 u : Tok} {k : Nat} {value slice : Expr} (H : Sy base s₀ Z g fr L vars news s) (hm : (l, lst [Value.str (Str.ofString "257 \"\" \"x\"") t0, .str (Str.ofString "257 \"\"") t1, .str (Str.ofString "257") t2, .str (Str.ofString "257-\"x\"") t3, .str (Str.ofString "257 xy") t4] 0) ∈ news) (h : ∀ t, Q (.str (S (endR k)) t) s)
    (hs : subscripted slice false (.ref l) (.int ((k : Int) % 5) u) = operate [.ref l, .int ((k : Int) % 5) u] (getItem (.ref l) (.int ((k : Int) % 5) u)) := by with_unfolding_all rfl) :
    wpAny (model prog w) A (subscriptTail value slice (.ref l) (.int ((k : Int) % 5) u)) Q E s := by
  obtain ⟨t, ht⟩ := end_item t0 t1 t2 t3 t4 k
  exact r_item_list H hm (by omega) (by omega) ht (h t) hs
theorem Sy.ext0 (H : Sy base s₀ Z g fr L vars news s) {s' : Shared} (hx : Ext [] (L :: fr) s.heap s'.heap) (g1 : s'.gens = s.gens) (g2 : s'.os = s.os) : Sy base s₀ Z g fr L vars news s' :=
  H.ext (S := []) hx g1 g2 (fun _ h => nomatch h) (fun p hp => ⟨(hx _ _ (H.led p hp).1 (fun h => nomatch h)).1 (H.led p hp).2.1, List.mem_map_of_mem hp⟩) H.nd
theorem Sy.freeze1 {a b : Addr} {oa ob : Obj} (H : Sy base s₀ Z g fr L vars ((a, oa) :: (b, ob) :: news) s) : ∃ g', Sy base s₀ Z g' fr L vars news s ∧ g'.get? a = some oa ∧ ∀ c oc, g.get? c = some oc → g'.get? c = some oc :=
  ⟨_, (H.sub ((List.Sublist.refl _).cons _ |>.cons _)).reground, H.frozen ((List.Sublist.refl news).cons _ |>.cons _) List.mem_cons_self (fun hq => (List.nodup_cons.mp H.nd).1 (.tail _ hq)), fun _ _ e => (H.sub ((List.Sublist.refl _).cons _ |>.cons _)).frozen_g e⟩
theorem r_neg {a : Int} {t : Tok} (H : Sy base s₀ Z g fr L vars news s) (h : ∀ t s', Sy base s₀ Z g fr L vars news s' → Q (.int (-a) t) s') : wpAny (model prog w) A (unaryOp .USub (.int a t)) Q E s := neg_int (h _ _ (H.tk _))
end
end Mine

set_option maxRecDepth 100000
set_option maxHeartbeats 4000000
namespace Mine
inductive LaidX (nl o m q : Addr) (nv : List Value) (nn : Nat) (s : Shared) (X : Laid) (g : Heap) : List (Str × Value) → List (Addr × Obj) → Prop
  | mk (ov mv rv : List Value) (no nm nr : Nat) (t : Tok) (hg : g.get? nl = some (lst nv nn)) (ho : IsInts X.octs ov) (hm : MarksAt g X.marks mv) (hr : IsStrs X.reps rv) (hmn : ∀ v ∈ mv, ∃ a, v = .ref a ∧ s.heap.get? a = none) :
    LaidX nl o m q nv nn s X g [(Str.ofString "numbers", .ref nl), (Str.ofString "octets", .ref o), (Str.ofString "marks", .ref m), (Str.ofString "replies", .ref q), (Str.ofString "piece", .str (S X.piece) t)] [(q, lst rv nr), (m, lst mv nm), (o, lst ov no)]
theorem laid_spec {w : World} {p : Program} {loose : List Str} {mean : ExcName → Option Value} {mg mb : Str → Option Value} {base : Heap} {A : Around} {fs : List Env} {fr : List Addr} {s : Shared} {Q E : Value → Shared → Prop} {nl : Addr} {zs : List Nat} {nv : List Value} {nn : Nat}
    (XB : (hd.heap_39 w.params).In base) (TB : Top p loose mean mg mb base) (P : Pre base A fs fr [] s) (hroom : A.depth + 10 < recursionLimit)
    (hnl : s.heap.get? nl = some (lst nv nn)) (hnf : nl ∉ fr) (hzs : IsInts zs nv) (hz : ∀ z ∈ zs, z < 288) (hn : zs.length ≤ 16)
    (h : ∀ r ov mv rv o m q no nm nr s', s'.gens = s.gens → s'.os = s.os → Ext [] fr s.heap s'.heap → s'.heap.get? r = some (lst [.ref o, .ref m, .ref q] 0) → s'.heap.get? o = some (lst ov no) → s'.heap.get? m = some (lst mv nm) → s'.heap.get? q = some (lst rv nr) →
      IsInts (layAll zs).octs ov → MarksAt s'.heap (layAll zs).marks mv → IsStrs (laidReps zs) rv → New s.heap [r, o, m, q] → (∀ v ∈ mv, ∃ a, v = .ref a ∧ s.heap.get? a = none) → Q (.ref r) s') :
    wpAny (model PySem.Challenge.rw_of0006_01.row.prog w) A (call (.ref 116) [.ref nl]) Q E s := by
  have XB0 := XB
  revert XB; k_fill; intro XB
  refine' enterK [(Str.ofString "numbers", .ref nl)] [Str.ofString "numbers"] P XB TB ?o ?c (by omega) ?bi ?nm ?nd ?_ ?lo ?ce ?x1 ?x2 ?x3
  (case o => k_is)
  (case c => k_is)
  (case bi => exact rfl)
  (case nm => exact rfl)
  (case nd => decide)
  (case lo => decide)
  (case ce => decide)
  (case x1 => rfl)
  (case x2 => rfl)
  (case x3 => rfl)
  intro _ _ _
  refine calm ?_
  intro Q' hQ
  rename Sy _ _ _ _ _ _ _ _ _ => H
  rename_i L s1
  have hg0 : (hideAll s.heap fr).get? nl = some (lst nv nn) := hideAll_get _ hnl hnf
  replace H : Sy base s [] (hideAll s.heap fr) fr L [(Str.ofString "numbers", .ref nl)] [] s1 := H
  repeat' ((fail_if_success ((with_reducible show PySem.wpAny _ _ (PySem.newList _) _ _ _))); first | (with_reducible refine List_ ?_) | (with_reducible refine x_assign ?_ (by with_unfolding_all rfl)) | ((with_reducible show wpAny _ _ (spliced _) _ _ _); with_reducible refine spliced_none ?_))
  refine r_newList H ?_
  clear H
  intro o s2 H
  repeat' ((fail_if_success ((with_reducible show PySem.wpAny _ _ (PySem.newList _) _ _ _))); first | (with_reducible refine List_ ?_) | (with_reducible refine x_assign ?_ (by with_unfolding_all rfl)) | ((with_reducible show wpAny _ _ (spliced _) _ _ _); with_reducible refine spliced_none ?_) | ((with_reducible show wpAny _ _ (storeName _ _ _) _ _ _); with_reducible refine r_store (by with_reducible assumption) (by with_reducible repeat (first | exact SetV.hit | exact SetV.nil | apply SetV.skip (by with_unfolding_all decide))) ?_ (by with_unfolding_all rfl) (by with_unfolding_all rfl); intro _ _))
  clear H
  rename Sy _ _ _ _ _ _ _ _ _ => H
  refine r_newList H ?_
  clear H
  intro m s3 H
  repeat' ((fail_if_success ((with_reducible show PySem.wpAny _ _ (PySem.newList _) _ _ _))); first | (with_reducible refine List_ ?_) | (with_reducible refine x_assign ?_ (by with_unfolding_all rfl)) | ((with_reducible show wpAny _ _ (spliced _) _ _ _); with_reducible refine spliced_none ?_) | ((with_reducible show wpAny _ _ (storeName _ _ _) _ _ _); with_reducible refine r_store (by with_reducible assumption) (by with_reducible repeat (first | exact SetV.hit | exact SetV.nil | apply SetV.skip (by with_unfolding_all decide))) ?_ (by with_unfolding_all rfl) (by with_unfolding_all rfl); intro _ _))
  clear H
  rename Sy _ _ _ _ _ _ _ _ _ => H
  refine r_newList H ?_
  clear H
  intro q s4 H
  repeat' (first | (with_reducible refine r_cstr (by with_reducible assumption) ?_; intro _ _ _) | (with_reducible refine x_assign ?_ (by with_unfolding_all rfl)) | ((with_reducible show wpAny _ _ (storeName _ _ _) _ _ _); with_reducible refine r_store (by with_reducible assumption) (by with_reducible repeat (first | exact SetV.hit | exact SetV.nil | apply SetV.skip (by with_unfolding_all decide))) ?_ (by with_unfolding_all rfl) (by with_unfolding_all rfl); intro _ _))
  clear H
  rename Sy _ _ _ _ _ _ _ _ _ => H
  rw [show Str.ofString "" = S [] from by decide] at H
  refine x_for ?_
  repeat' (((with_reducible show wpAny _ _ (eval (Expr.Name _ _) _) _ _ _); with_reducible refine r_local (by with_reducible assumption) (by with_reducible repeat (first | exact List.mem_cons_self | refine List.mem_cons_of_mem _ ?_)) ?_ (by with_unfolding_all rfl) (by with_unfolding_all rfl) (by with_unfolding_all decide)))
  refine r_for_list (items := nv) (fun i g vars news => LaidX nl o m q nv nn s (layAll (zs.take i)) g vars news) P.hh H (.mk [] [] [] 0 0 0 _ hg0 .nil .nil .nil (fun _ h => nomatch h)) ?_ ?_ ?_
  · rintro i g vars news s' ⟨ov, mv, rv, no, nm, nr, t, hg⟩ H'
    exact ⟨_, H'.keep _ _ hg, rfl, nn, rfl⟩
  · clear H
    rintro i v g vars it io news s' hv ⟨ov, mv, rv, no, nm, nr, t, hg, ho, hm, hr, hmn⟩ H
    obtain ⟨z, hzi, tz, rfl⟩ := Paired.get' hzs hv
    have hz288 := hz z (List.mem_of_getElem? hzi)
    have hi16 : i < 16 := by have := (List.getElem?_eq_some_iff.mp hzi).1; omega
    have hlay := layAll_snoc hzi
    obtain ⟨l1, l2, l3, l4⟩ := layAll_len (zs.take i)
    have htk : (zs.take i).length ≤ 16 := by rw [List.length_take]; omega
    have lo := Paired.length' ho
    have lm := Paired.length' hm
    have lr := Paired.length' hr
    generalize layAll (zs.take i) = X at *
    have hoz := octOf_le z
    have hpS := S_length X.piece
    refine calmT ?_
    intro R hRn
    repeat' (first | ((with_reducible show wpAny _ _ (eval (Expr.Name _ _) _) _ _ _); with_reducible refine r_local (by with_reducible assumption) (by with_reducible repeat (first | exact List.mem_cons_self | refine List.mem_cons_of_mem _ ?_)) ?_ (by with_unfolding_all rfl) (by with_unfolding_all rfl) (by with_unfolding_all decide)) | (with_reducible refine r_cint (by with_reducible assumption) ?_; intro _ _ _) | (with_reducible refine wpAny_BinOp ?_) | (with_reducible refine MethodCall_ ?_ (by with_unfolding_all rfl)) | (with_reducible refine Subscript_ ?_) | (with_reducible refine List_ ?_) | (with_reducible refine x_expr ?_ (by with_unfolding_all rfl) (by with_unfolding_all rfl)) | ((with_reducible show wpAny _ _ (binaryOp _ _ _) _ _ _); with_reducible refine r_mod_int (by with_reducible assumption) (by with_unfolding_all decide) ?_; intro _ _ _) | ((with_reducible show wpAny _ _ (getMethod _ _ _) _ _ _); with_reducible refine r_meth_list (by with_reducible assumption) (by with_reducible repeat (first | exact List.mem_cons_self | refine List.mem_cons_of_mem _ ?_)) PySem.F.slot_list_append PySem.F.type_list_append ?_) | ((with_reducible show wpAny _ _ (spliced _) _ _ _); with_reducible refine spliced_none ?_) | ((with_reducible show wpAny _ _ (spliced _) _ _ _); with_reducible refine spliced_more ?_ (by with_unfolding_all rfl)) | ((with_reducible show wpAny _ _ (callWith _ _ _ _ _) _ _ _); with_reducible refine callWith_method1 ?_ (by with_unfolding_all rfl) (by with_unfolding_all rfl); dsimp only [List.cons_append, List.nil_append]) | ((with_reducible show wpAny _ _ (storeName _ _ _) _ _ _); with_reducible refine r_store (by with_reducible assumption) (by with_reducible repeat (first | exact SetV.hit | exact SetV.nil | apply SetV.skip (by with_unfolding_all decide))) ?_ (by with_unfolding_all rfl) (by with_unfolding_all rfl); intro _ _) | ((with_reducible show wpAny _ _ (newList _) _ _ _); refine r_newList (by with_reducible assumption) ?_; intro _ _ _))
    refine r_oct (by with_reducible assumption) List.mem_cons_self ?_
    intro tO
    repeat' (first | (with_reducible refine wpAny_UnaryOp ?_) | ((with_reducible show wpAny _ _ (eval (Expr.Name _ _) _) _ _ _); with_reducible refine r_local (by with_reducible assumption) (by with_reducible repeat (first | exact List.mem_cons_self | refine List.mem_cons_of_mem _ ?_)) ?_ (by with_unfolding_all rfl) (by with_unfolding_all rfl) (by with_unfolding_all decide)) | ((with_reducible show wpAny _ _ (eval (Expr.Name _ _) _) _ _ _); refine r_builtin (by with_reducible assumption) (by with_reducible assumption) (by with_reducible assumption) (by k_is) (by boot_by_name) ?_) | (with_reducible refine r_cint (by with_reducible assumption) ?_; intro _ _ _) | (with_reducible refine wpAny_BinOp ?_) | (with_reducible refine Call_ ?_ (by with_unfolding_all rfl)) | (with_reducible refine Subscript_ ?_) | (with_reducible refine x_assign ?_ (by with_unfolding_all rfl)) | (with_reducible refine r_neg (by with_reducible assumption) ?_; intro _ _ _) | ((with_reducible show wpAny _ _ (call (Value.builtin "list.append") _ _) _ _ _); with_reducible refine r_append (by with_reducible assumption) (by with_reducible repeat (first | exact SetN.hit | apply SetN.skip)) (by first | omega | (simp only [List.length_append, List.length_cons, List.length_nil]; omega)) ?_; intro _ _) | ((with_reducible show wpAny _ _ (spliced _) _ _ _); with_reducible refine spliced_none ?_) | ((with_reducible show wpAny _ _ (spliced _) _ _ _); with_reducible refine spliced_more ?_ (by with_unfolding_all rfl)) | ((with_reducible show wpAny _ _ (callWith _ _ _ _ _) _ _ _); with_reducible refine PyProof.Rows.callWith_builtin1 ?_ (by with_unfolding_all rfl) (by with_unfolding_all rfl)))
    refine r_item_last (by with_reducible assumption) (by with_reducible repeat (first | exact List.mem_cons_self | refine List.mem_cons_of_mem _ ?_)) ?_
    repeat' (((with_reducible show wpAny _ _ (spliced _) _ _ _); with_reducible refine spliced_none ?_))
    refine r_chr (by with_reducible assumption) (by omega) (by omega) ?_
    clear H
    intro tC sC H
    rw [show (⟨#[((octOf z : Nat) : Int).toNat]⟩ : Str) = S [octOf z] from rfl]
    have hp1 := S_length [octOf z]
    refine r_add_str (by with_reducible assumption) (by rw [hpS, hp1]; simp only [List.length_singleton]; omega) ?_
    rw [S_append]
    clear H
    intro tP sP H
    repeat' (first | ((with_reducible show wpAny _ _ (eval (Expr.Name _ _) _) _ _ _); with_reducible refine r_local (by with_reducible assumption) (by with_reducible repeat (first | exact List.mem_cons_self | refine List.mem_cons_of_mem _ ?_)) ?_ (by with_unfolding_all rfl) (by with_unfolding_all rfl) (by with_unfolding_all decide)) | (with_reducible refine r_cint (by with_reducible assumption) ?_; intro _ _ _) | (with_reducible refine wpAny_BinOp ?_) | (with_reducible refine wpAny_Compare1 ?_ (by with_unfolding_all rfl)) | (with_reducible refine x_if ?_) | (with_reducible refine x_assign ?_ (by with_unfolding_all rfl)) | ((with_reducible show wpAny _ _ (binaryOp _ _ _) _ _ _); with_reducible refine r_mod_int (by with_reducible assumption) (by with_unfolding_all decide) ?_; intro _ _ _) | ((with_reducible show wpAny _ _ (binaryOp _ _ _) _ _ _); with_reducible refine r_div_int (by with_reducible assumption) (by with_unfolding_all decide) (by with_unfolding_all decide) ?_; intro _ _ _) | (with_reducible refine eq_int ?_) | (with_reducible refine wpAny_truthy_bool ?_) | ((with_reducible show wpAny _ _ (storeName _ _ _) _ _ _); with_reducible refine r_store (by with_reducible assumption) (by with_reducible repeat (first | exact SetV.hit | exact SetV.nil | apply SetV.skip (by with_unfolding_all decide))) ?_ (by with_unfolding_all rfl) (by with_unfolding_all rfl); intro _ _) | ((with_reducible show wpAny _ _ (isTrue _ _ _) _ _ _); with_reducible refine isTrue_or ?_) | ((with_reducible show wpAny _ _ (isTrue _ _ _) _ _ _); refine isTrue_plain ?_))
    clear H
    rename Sy _ _ _ _ _ _ _ _ _ => H
    have hbz : ((z : Int) / 24 % 4 == 0) = btw z := by
      unfold btw
      rw [Bool.eq_iff_iff]
      simp only [beq_iff_eq, decide_eq_true_eq]
      omega
    rw [hbz] at H ⊢
    have hXo : (X.octs ++ [octOf z]).length = ov.length + 1 := by simp [lo]
    have hpl : (X.piece ++ [octOf z]).length ≤ 100 := by rw [List.length_append, List.length_singleton]; omega
    cases hbt : btw z with
    | true =>
      rw [hbt] at H
      refine ifT rfl ?_
      refine ifT rfl ?_
      repeat' (first | ((with_reducible show wpAny _ _ (eval (Expr.Name _ _) _) _ _ _); with_reducible refine r_local (by with_reducible assumption) (by with_reducible repeat (first | exact List.mem_cons_self | refine List.mem_cons_of_mem _ ?_)) ?_ (by with_unfolding_all rfl) (by with_unfolding_all rfl) (by with_unfolding_all decide)) | ((with_reducible show wpAny _ _ (eval (Expr.Name _ _) _) _ _ _); refine r_global (by with_reducible assumption) (by with_reducible assumption) (by with_reducible assumption) (by k_is) ?_) | (with_reducible refine MethodCall_ ?_ (by with_unfolding_all rfl)) | (with_reducible refine Call_ ?_ (by with_unfolding_all rfl)) | (with_reducible refine x_expr ?_ (by with_unfolding_all rfl) (by with_unfolding_all rfl)) | ((with_reducible show wpAny _ _ (getMethod _ _ _) _ _ _); with_reducible refine r_meth_list (by with_reducible assumption) (by with_reducible repeat (first | exact List.mem_cons_self | refine List.mem_cons_of_mem _ ?_)) PySem.F.slot_list_append PySem.F.type_list_append ?_) | ((with_reducible show wpAny _ _ (spliced _) _ _ _); with_reducible refine spliced_none ?_) | ((with_reducible show wpAny _ _ (spliced _) _ _ _); with_reducible refine spliced_more ?_ (by with_unfolding_all rfl)) | ((with_reducible show wpAny _ _ (callWith _ _ _ _ _) _ _ _); with_reducible refine callWith_method1 ?_ (by with_unfolding_all rfl) (by with_unfolding_all rfl); dsimp only [List.cons_append, List.nil_append]) | ((with_reducible show wpAny _ _ (callWith _ _ _ _ _) _ _ _); with_reducible refine r_callK (by with_reducible assumption) (by k_is) ?_ (by with_unfolding_all rfl)) | (with_reducible refine r_stays (by with_reducible assumption) ?_))
      refine quoted_spec XB0 TB (H.pre P rfl rfl (List.nil_sublist _)) (by show A.depth + 1 < _; omega) hpl ?_
      intro tq sq g1 g2 hx
      have H := H.ext0 hx g1 g2
      repeat' (first | ((with_reducible show wpAny _ _ (eval (Expr.Name _ _) _) _ _ _); with_reducible refine r_local (by with_reducible assumption) (by with_reducible repeat (first | exact List.mem_cons_self | refine List.mem_cons_of_mem _ ?_)) ?_ (by with_unfolding_all rfl) (by with_unfolding_all rfl) (by with_unfolding_all decide)) | (with_reducible refine r_cstr (by with_reducible assumption) ?_; intro _ _ _) | (with_reducible refine x_if ?_) | (with_reducible refine wpAny_execs_nil ?_) | (with_reducible refine x_assign ?_ (by with_unfolding_all rfl)) | ((with_reducible show wpAny _ _ (call (Value.builtin "list.append") _ _) _ _ _); with_reducible refine r_append (by with_reducible assumption) (by with_reducible repeat (first | exact SetN.hit | apply SetN.skip)) (by first | omega | (simp only [List.length_append, List.length_cons, List.length_nil]; omega)) ?_; intro _ _) | (with_reducible refine wpAny_truthy_bool ?_) | ((with_reducible show wpAny _ _ (spliced _) _ _ _); with_reducible refine spliced_none ?_) | ((with_reducible show wpAny _ _ (storeName _ _ _) _ _ _); with_reducible refine r_store (by with_reducible assumption) (by with_reducible repeat (first | exact SetV.hit | exact SetV.nil | apply SetV.skip (by with_unfolding_all decide))) ?_ (by with_unfolding_all rfl) (by with_unfolding_all rfl); intro _ _) | ((with_reducible show wpAny _ _ (isTrue _ _ _) _ _ _); refine isTrue_plain ?_) | (with_reducible refine seq_next ?_))
      refine ifT rfl ?_
      repeat' (first | ((with_reducible show wpAny _ _ (eval (Expr.Name _ _) _) _ _ _); with_reducible refine r_local (by with_reducible assumption) (by with_reducible repeat (first | exact List.mem_cons_self | refine List.mem_cons_of_mem _ ?_)) ?_ (by with_unfolding_all rfl) (by with_unfolding_all rfl) (by with_unfolding_all decide)) | ((with_reducible show wpAny _ _ (eval (Expr.Name _ _) _) _ _ _); refine r_builtin (by with_reducible assumption) (by with_reducible assumption) (by with_reducible assumption) (by k_is) (by boot_by_name) ?_) | (with_reducible refine r_cstr (by with_reducible assumption) ?_; intro _ _ _) | (with_reducible refine wpAny_BinOp ?_) | (with_reducible refine MethodCall_ ?_ (by with_unfolding_all rfl)) | (with_reducible refine Call_ ?_ (by with_unfolding_all rfl)) | (with_reducible refine x_expr ?_ (by with_unfolding_all rfl) (by with_unfolding_all rfl)) | ((with_reducible show wpAny _ _ (getMethod _ _ _) _ _ _); with_reducible refine r_meth_list (by with_reducible assumption) (by with_reducible repeat (first | exact List.mem_cons_self | refine List.mem_cons_of_mem _ ?_)) PySem.F.slot_list_append PySem.F.type_list_append ?_) | ((with_reducible show wpAny _ _ (spliced _) _ _ _); with_reducible refine spliced_none ?_) | ((with_reducible show wpAny _ _ (spliced _) _ _ _); with_reducible refine spliced_more ?_ (by with_unfolding_all rfl)) | ((with_reducible show wpAny _ _ (callWith _ _ _ _ _) _ _ _); with_reducible refine callWith_method1 ?_ (by with_unfolding_all rfl) (by with_unfolding_all rfl); dsimp only [List.cons_append, List.nil_append]) | ((with_reducible show wpAny _ _ (callWith _ _ _ _ _) _ _ _); with_reducible refine PyProof.Rows.callWith_type1 ?_ (by with_unfolding_all rfl) (by with_unfolding_all rfl)))
      refine r_str_int (by with_reducible assumption) (by omega) (by omega) ?_
      intro t1 s5 H5
      refine r_250 H5 hz288 ?_
      intro t2 s6 H6
      clear H5
      repeat' (first | ((with_reducible show wpAny _ _ (eval (Expr.Name _ _) _) _ _ _); with_reducible refine r_local (by with_reducible assumption) (by with_reducible repeat (first | exact List.mem_cons_self | refine List.mem_cons_of_mem _ ?_)) ?_ (by with_unfolding_all rfl) (by with_unfolding_all rfl) (by with_unfolding_all decide)) | ((with_reducible show wpAny _ _ (eval (Expr.Name _ _) _) _ _ _); refine r_builtin (by with_reducible assumption) (by with_reducible assumption) (by with_reducible assumption) (by k_is) (by boot_by_name) ?_) | (with_reducible refine r_cstr (by with_reducible assumption) ?_; intro _ _ _) | (with_reducible refine wpAny_BinOp ?_) | (with_reducible refine MethodCall_ ?_ (by with_unfolding_all rfl)) | (with_reducible refine Call_ ?_ (by with_unfolding_all rfl)) | (with_reducible refine List_ ?_) | (with_reducible refine x_expr ?_ (by with_unfolding_all rfl) (by with_unfolding_all rfl)) | ((with_reducible show wpAny _ _ (call (Value.builtin "len") _ _) _ _ _); with_reducible refine r_len_list (by with_reducible assumption) (by with_reducible repeat (first | exact List.mem_cons_self | refine List.mem_cons_of_mem _ ?_)) (by first | omega | (simp only [List.length_append, List.length_cons, List.length_nil]; omega)) ?_; intro _ _ _) | ((with_reducible show wpAny _ _ (call (Value.builtin "list.append") _ _) _ _ _); with_reducible refine r_append (by with_reducible assumption) (by with_reducible repeat (first | exact SetN.hit | apply SetN.skip)) (by first | omega | (simp only [List.length_append, List.length_cons, List.length_nil]; omega)) ?_; intro _ _) | ((with_reducible show wpAny _ _ (getMethod _ _ _) _ _ _); with_reducible refine r_meth_list (by with_reducible assumption) (by with_reducible repeat (first | exact List.mem_cons_self | refine List.mem_cons_of_mem _ ?_)) PySem.F.slot_list_append PySem.F.type_list_append ?_) | ((with_reducible show wpAny _ _ (spliced _) _ _ _); with_reducible refine spliced_none ?_) | ((with_reducible show wpAny _ _ (spliced _) _ _ _); with_reducible refine spliced_more ?_ (by with_unfolding_all rfl)) | ((with_reducible show wpAny _ _ (callWith _ _ _ _ _) _ _ _); with_reducible refine PyProof.Rows.callWith_builtin1 ?_ (by with_unfolding_all rfl) (by with_unfolding_all rfl)) | ((with_reducible show wpAny _ _ (callWith _ _ _ _ _) _ _ _); with_reducible refine callWith_method1 ?_ (by with_unfolding_all rfl) (by with_unfolding_all rfl); dsimp only [List.cons_append, List.nil_append]) | ((with_reducible show wpAny _ _ (callWith _ _ _ _ _) _ _ _); with_reducible refine PyProof.Rows.callWith_type1 ?_ (by with_unfolding_all rfl) (by with_unfolding_all rfl)))
      refine r_str_int (by with_reducible assumption) (by omega) (by omega) ?_
      intro t3 s7 H7
      clear H6
      refine r_250 H7 hz288 ?_
      intro t4 s8 H8
      clear H7
      repeat' ((fail_if_success ((with_reducible show PySem.wpAny _ _ (PySem.newList _) _ _ _))); ((with_reducible show wpAny _ _ (spliced _) _ _ _); with_reducible refine spliced_none ?_))
      refine r_newList (by with_reducible assumption) ?_
      intro mk s9 H9
      clear H8
      repeat' (first | (with_reducible refine wpAny_execs_nil ?_) | ((with_reducible show wpAny _ _ (call (Value.builtin "list.append") _ _) _ _ _); with_reducible refine r_append (by with_reducible assumption) (by with_reducible repeat (first | exact SetN.hit | apply SetN.skip)) (by first | omega | (simp only [List.length_append, List.length_cons, List.length_nil]; omega)) ?_; intro _ _) | ((with_reducible show wpAny _ _ (spliced _) _ _ _); with_reducible refine spliced_none ?_) | (with_reducible refine seq_next ?_))
      clear H9
      rename Sy _ _ _ _ _ _ _ _ _ => H9
      rw [show Str.ofString "" = S [] from by decide, show (ov ++ [Value.int ((octOf z : Nat) : Int) tO]).length = (X.octs ++ [octOf z]).length by simp [lo]] at H9
      have e : layAll (zs.take (i + 1)) = ⟨X.octs ++ [octOf z], X.marks ++ [((X.octs ++ [octOf z]).length, t250 z)], X.reps ++ [quotedL (X.piece ++ [octOf z]) (z : Nat)] ++ [t250 z], []⟩ := by rw [hlay]; simp [layStep, hbt]
      refine hRn _ ?_
      rw [e]
      have H10 := H9.vsub (vars' := [(Str.ofString "numbers", .ref nl), (Str.ofString "octets", .ref o), (Str.ofString "marks", .ref m), (Str.ofString "replies", .ref q), (Str.ofString "piece", _)]) (by walk_at "Msub")
      obtain ⟨g', H11, hmk, hold⟩ := H10.freeze1
      refine ⟨_, _, _, ⟨_, _, _, _, _, _, _, hold _ _ hg, Paired.app ho (Paired.one' ⟨tO, rfl⟩), Paired.app (hm.mono hold) (Paired.one' ⟨mk, _, _, rfl, hmk⟩), Paired.app (Paired.app hr (Paired.one' ⟨tq, rfl⟩)) (Paired.one' ⟨t2, rfl⟩), fun v hv => ?_⟩, H11⟩
      rcases List.mem_append.mp hv with hv | hv
      · exact hmn v hv
      · exact ⟨mk, List.mem_singleton.mp hv, H10.isNew List.mem_cons_self fun h => nomatch h⟩
    | false =>
      rw [hbt] at H
      refine ifF (by decide) ?_
      repeat' (first | ((with_reducible show wpAny _ _ (eval (Expr.Name _ _) _) _ _ _); with_reducible refine r_local (by with_reducible assumption) (by with_reducible repeat (first | exact List.mem_cons_self | refine List.mem_cons_of_mem _ ?_)) ?_ (by with_unfolding_all rfl) (by with_unfolding_all rfl) (by with_unfolding_all decide)) | (with_reducible refine r_cint (by with_reducible assumption) ?_; intro _ _ _) | (with_reducible refine wpAny_BinOp ?_) | ((with_reducible show wpAny _ _ (binaryOp _ _ _) _ _ _); with_reducible refine r_mod_int (by with_reducible assumption) (by with_unfolding_all decide) ?_; intro _ _ _) | ((with_reducible show wpAny _ _ (binaryOp _ _ _) _ _ _); with_reducible refine r_div_int (by with_reducible assumption) (by with_unfolding_all decide) (by with_unfolding_all decide) ?_; intro _ _ _) | (with_reducible refine eq_int ?_) | (with_reducible refine wpAny_truthy_bool ?_) | ((with_reducible show wpAny _ _ (isTrue _ _ _) _ _ _); with_reducible refine isTrue_or ?_) | ((with_reducible show wpAny _ _ (isTrue _ _ _) _ _ _); with_reducible refine wpAny_isTrue_Compare1 ?_ (by with_unfolding_all rfl)))
      clear H
      rename Sy _ _ _ _ _ _ _ _ _ => H
      by_cases h8 : z / 8 % 3 = 0
      · rw [if_pos (by rw [beq_iff_eq]; omega), if_pos rfl]
        repeat' (first | ((with_reducible show wpAny _ _ (eval (Expr.Name _ _) _) _ _ _); with_reducible refine r_local (by with_reducible assumption) (by with_reducible repeat (first | exact List.mem_cons_self | refine List.mem_cons_of_mem _ ?_)) ?_ (by with_unfolding_all rfl) (by with_unfolding_all rfl) (by with_unfolding_all decide)) | ((with_reducible show wpAny _ _ (eval (Expr.Name _ _) _) _ _ _); refine r_global (by with_reducible assumption) (by with_reducible assumption) (by with_reducible assumption) (by k_is) ?_) | (with_reducible refine MethodCall_ ?_ (by with_unfolding_all rfl)) | (with_reducible refine Call_ ?_ (by with_unfolding_all rfl)) | (with_reducible refine x_expr ?_ (by with_unfolding_all rfl) (by with_unfolding_all rfl)) | ((with_reducible show wpAny _ _ (getMethod _ _ _) _ _ _); with_reducible refine r_meth_list (by with_reducible assumption) (by with_reducible repeat (first | exact List.mem_cons_self | refine List.mem_cons_of_mem _ ?_)) PySem.F.slot_list_append PySem.F.type_list_append ?_) | ((with_reducible show wpAny _ _ (spliced _) _ _ _); with_reducible refine spliced_none ?_) | ((with_reducible show wpAny _ _ (spliced _) _ _ _); with_reducible refine spliced_more ?_ (by with_unfolding_all rfl)) | ((with_reducible show wpAny _ _ (callWith _ _ _ _ _) _ _ _); with_reducible refine callWith_method1 ?_ (by with_unfolding_all rfl) (by with_unfolding_all rfl); dsimp only [List.cons_append, List.nil_append]) | ((with_reducible show wpAny _ _ (callWith _ _ _ _ _) _ _ _); with_reducible refine r_callK (by with_reducible assumption) (by k_is) ?_ (by with_unfolding_all rfl)) | (with_reducible refine r_stays (by with_reducible assumption) ?_))
        refine quoted_spec XB0 TB (H.pre P rfl rfl (List.nil_sublist _)) (by show A.depth + 1 < _; omega) hpl ?_
        intro tq sq g1 g2 hx
        have H := H.ext0 hx g1 g2
        repeat' (first | ((with_reducible show wpAny _ _ (eval (Expr.Name _ _) _) _ _ _); with_reducible refine r_local (by with_reducible assumption) (by with_reducible repeat (first | exact List.mem_cons_self | refine List.mem_cons_of_mem _ ?_)) ?_ (by with_unfolding_all rfl) (by with_unfolding_all rfl) (by with_unfolding_all decide)) | (with_reducible refine r_cstr (by with_reducible assumption) ?_; intro _ _ _) | (with_reducible refine x_if ?_) | (with_reducible refine wpAny_execs_nil ?_) | (with_reducible refine x_assign ?_ (by with_unfolding_all rfl)) | ((with_reducible show wpAny _ _ (call (Value.builtin "list.append") _ _) _ _ _); with_reducible refine r_append (by with_reducible assumption) (by with_reducible repeat (first | exact SetN.hit | apply SetN.skip)) (by first | omega | (simp only [List.length_append, List.length_cons, List.length_nil]; omega)) ?_; intro _ _) | (with_reducible refine wpAny_truthy_bool ?_) | ((with_reducible show wpAny _ _ (spliced _) _ _ _); with_reducible refine spliced_none ?_) | ((with_reducible show wpAny _ _ (storeName _ _ _) _ _ _); with_reducible refine r_store (by with_reducible assumption) (by with_reducible repeat (first | exact SetV.hit | exact SetV.nil | apply SetV.skip (by with_unfolding_all decide))) ?_ (by with_unfolding_all rfl) (by with_unfolding_all rfl); intro _ _) | ((with_reducible show wpAny _ _ (isTrue _ _ _) _ _ _); refine isTrue_plain ?_) | (with_reducible refine seq_next ?_))
        refine ifF (by decide) ?_
        repeat' (first | (with_reducible refine wpAny_execs_nil ?_) | (with_reducible refine seq_next ?_))
        rename Sy _ _ _ _ _ _ _ _ _ => H9
        rw [show Str.ofString "" = S [] from by decide] at H9
        have e : layAll (zs.take (i + 1)) = ⟨X.octs ++ [octOf z], X.marks, X.reps ++ [quotedL (X.piece ++ [octOf z]) (z : Nat)], []⟩ := by rw [hlay]; simp [layStep, hbt, h8]
        refine hRn _ ?_
        rw [e]
        exact ⟨_, _, _, ⟨_, _, _, _, _, _, _, hg, Paired.app ho (Paired.one' ⟨tO, rfl⟩), hm, Paired.app hr (Paired.one' ⟨tq, rfl⟩), hmn⟩, (H9.vsub (by walk_at "Msub")).sub (by walk_at "Msub")⟩
      · refine ifF (by rw [beq_iff_eq]; omega) ?_
        repeat' (((with_reducible show wpAny _ _ (isTrue _ _ _) _ _ _); with_reducible refine isTrue_or_nil ?_))
        refine ifF (by decide) ?_
        repeat' (first | ((with_reducible show wpAny _ _ (eval (Expr.Name _ _) _) _ _ _); with_reducible refine r_local (by with_reducible assumption) (by with_reducible repeat (first | exact List.mem_cons_self | refine List.mem_cons_of_mem _ ?_)) ?_ (by with_unfolding_all rfl) (by with_unfolding_all rfl) (by with_unfolding_all decide)) | (with_reducible refine x_if ?_) | (with_reducible refine wpAny_execs_nil ?_) | (with_reducible refine wpAny_truthy_bool ?_) | ((with_reducible show wpAny _ _ (isTrue _ _ _) _ _ _); refine isTrue_plain ?_) | (with_reducible refine seq_next ?_))
        refine ifF (by decide) ?_
        repeat' (first | (with_reducible refine wpAny_execs_nil ?_) | (with_reducible refine seq_next ?_))
        rename Sy _ _ _ _ _ _ _ _ _ => H9
        have e : layAll (zs.take (i + 1)) = ⟨X.octs ++ [octOf z], X.marks, X.reps, X.piece ++ [octOf z]⟩ := by rw [hlay]; simp [layStep, hbt, h8]
        refine hRn _ ?_
        rw [e]
        exact ⟨_, _, _, ⟨_, _, _, _, _, _, _, hg, Paired.app ho (Paired.one' ⟨tO, rfl⟩), hm, hr, hmn⟩, (H9.vsub (by walk_at "Msub")).sub (by walk_at "Msub")⟩
  · rintro g vars news s' ⟨ov, mv, rv, no, nm, nr, t, hg, ho, hm, hr, hmn⟩ H
    have hlen : nv.length = zs.length := Paired.length' hzs
    rw [hlen, List.take_length] at ho hm hr H
    obtain ⟨l1, l2, l3, l4⟩ := layAll_len zs
    have lo := Paired.length' ho
    have lm := Paired.length' hm
    have lr := Paired.length' hr
    have hpS := S_length (layAll zs).piece
    have hils : ∀ {vars : List (Str × Value)} {news : List (Addr × Obj)} {s' : Shared}, Sy base s [] g fr L vars news s' → s'.heap.IsList nl nv.toArray := fun H' => ⟨_, H'.keep _ _ hg, rfl, nn, rfl⟩
    repeat' (first | ((with_reducible show wpAny _ _ (eval (Expr.Name _ _) _) _ _ _); with_reducible refine r_local (by with_reducible assumption) (by with_reducible repeat (first | exact List.mem_cons_self | refine List.mem_cons_of_mem _ ?_)) ?_ (by with_unfolding_all rfl) (by with_unfolding_all rfl) (by with_unfolding_all decide)) | (with_reducible refine r_cstr (by with_reducible assumption) ?_; intro _ _ _) | (with_reducible refine x_if ?_) | (with_reducible refine ne_str ?_) | (with_reducible refine wpAny_truthy_bool ?_) | ((with_reducible show wpAny _ _ (isTrue _ _ _) _ _ _); with_reducible refine wpAny_isTrue_Compare1 ?_ (by with_unfolding_all rfl)))
    clear H
    rename Sy _ _ _ _ _ _ _ _ _ => H
    rw [show Str.ofString "" = S [] from by decide, S_bne]
    by_cases hp : (layAll zs).piece = []
    · refine ifF (by simp [hp]) ?_
      repeat' (first | ((with_reducible show wpAny _ _ (eval (Expr.Name _ _) _) _ _ _); with_reducible refine r_local (by with_reducible assumption) (by with_reducible repeat (first | exact List.mem_cons_self | refine List.mem_cons_of_mem _ ?_)) ?_ (by with_unfolding_all rfl) (by with_unfolding_all rfl) (by with_unfolding_all decide)) | ((with_reducible show wpAny _ _ (eval (Expr.Name _ _) _) _ _ _); refine r_builtin (by with_reducible assumption) (by with_reducible assumption) (by with_reducible assumption) (by k_is) (by boot_by_name) ?_) | (with_reducible refine r_cstr (by with_reducible assumption) ?_; intro _ _ _) | (with_reducible refine wpAny_BinOp ?_) | (with_reducible refine MethodCall_ ?_ (by with_unfolding_all rfl)) | (with_reducible refine Call_ ?_ (by with_unfolding_all rfl)) | (with_reducible refine Subscript_ ?_) | (with_reducible refine List_ ?_) | (with_reducible refine wpAny_execs_nil ?_) | (with_reducible refine x_expr ?_ (by with_unfolding_all rfl) (by with_unfolding_all rfl)) | ((with_reducible show wpAny _ _ (getMethod _ _ _) _ _ _); with_reducible refine r_meth_list (by with_reducible assumption) (by with_reducible repeat (first | exact List.mem_cons_self | refine List.mem_cons_of_mem _ ?_)) PySem.F.slot_list_append PySem.F.type_list_append ?_) | ((with_reducible show wpAny _ _ (spliced _) _ _ _); with_reducible refine spliced_none ?_) | ((with_reducible show wpAny _ _ (spliced _) _ _ _); with_reducible refine spliced_more ?_ (by with_unfolding_all rfl)) | ((with_reducible show wpAny _ _ (callWith _ _ _ _ _) _ _ _); with_reducible refine PyProof.Rows.callWith_builtin1 ?_ (by with_unfolding_all rfl) (by with_unfolding_all rfl)) | ((with_reducible show wpAny _ _ (callWith _ _ _ _ _) _ _ _); with_reducible refine callWith_method1 ?_ (by with_unfolding_all rfl) (by with_unfolding_all rfl); dsimp only [List.cons_append, List.nil_append]) | ((with_reducible show wpAny _ _ (newList _) _ _ _); refine r_newList (by with_reducible assumption) ?_; intro _ _ _) | (with_reducible refine seq_next ?_))
      clear H
      rename Sy _ _ _ _ _ _ _ _ _ => H
      refine r_sum P.hh (by with_reducible assumption) (hils H) hzs (fun k hk => by have := hz k hk; omega) (by omega) ?_
      intro tS sS HS
      repeat' (first | (with_reducible refine r_cint (by with_reducible assumption) ?_; intro _ _ _) | ((with_reducible show wpAny _ _ (binaryOp _ _ _) _ _ _); with_reducible refine r_mod_int (by with_reducible assumption) (by with_unfolding_all decide) ?_; intro _ _ _))
      refine r_end (by with_reducible assumption) List.mem_cons_self ?_
      intro tE
      repeat' ((fail_if_success ((with_reducible show PySem.wpAny _ _ (PySem.newList _) _ _ _))); first | ((with_reducible show wpAny _ _ (eval (Expr.Name _ _) _) _ _ _); with_reducible refine r_local (by with_reducible assumption) (by with_reducible repeat (first | exact List.mem_cons_self | refine List.mem_cons_of_mem _ ?_)) ?_ (by with_unfolding_all rfl) (by with_unfolding_all rfl) (by with_unfolding_all decide)) | (with_reducible refine List_ ?_) | (with_reducible refine x_return ?_) | ((with_reducible show wpAny _ _ (call (Value.builtin "list.append") _ _) _ _ _); with_reducible refine r_append (by with_reducible assumption) (by with_reducible repeat (first | exact SetN.hit | apply SetN.skip)) (by first | omega | (simp only [List.length_append, List.length_cons, List.length_nil]; omega)) ?_; intro _ _) | ((with_reducible show wpAny _ _ (spliced _) _ _ _); with_reducible refine spliced_none ?_) | ((with_reducible show wpAny _ _ (spliced _) _ _ _); with_reducible refine spliced_more ?_ (by with_unfolding_all rfl)))
      refine r_newList (by with_reducible assumption) ?_
      intro r sR HR
      have nw : ∀ a ob, (a, ob) ∈ _ → s.heap.get? a = none := fun a ob hm => HR.isNew hm fun h => nomatch h
      refine hQ _ _ ?_
      refine h r ov mv _ o m q _ _ _ sR HR.gens HR.os HR.done (HR.led _ List.mem_cons_self).1 (HR.led (o, lst ov no) (by with_reducible repeat (first | exact List.mem_cons_self | refine List.mem_cons_of_mem _ ?_))).1 (HR.led (m, lst mv nm) (by with_reducible repeat (first | exact List.mem_cons_self | refine List.mem_cons_of_mem _ ?_))).1 (HR.led (q, _) (by with_reducible repeat (first | exact List.mem_cons_self | refine List.mem_cons_of_mem _ ?_))).1 ho (hm.mono HR.keep) ?_ (fun a ha => ?_) hmn
      · unfold laidReps
        (rw [if_pos hp, List.append_nil]; exact Paired.app hr (Paired.one' ⟨tE, rfl⟩))
      · simp only [List.mem_cons, List.not_mem_nil, or_false] at ha
        rcases ha with rfl | rfl | rfl | rfl
        · exact nw _ _ List.mem_cons_self
        · exact nw _ (lst ov no) (by with_reducible repeat (first | exact List.mem_cons_self | refine List.mem_cons_of_mem _ ?_))
        · exact nw _ (lst mv nm) (by with_reducible repeat (first | exact List.mem_cons_self | refine List.mem_cons_of_mem _ ?_))
        · exact nw _ _ (by with_reducible repeat (first | exact List.mem_cons_self | refine List.mem_cons_of_mem _ ?_))
    · refine ifT (by simp [hp]) ?_
      repeat' (first | ((with_reducible show wpAny _ _ (eval (Expr.Name _ _) _) _ _ _); with_reducible refine r_local (by with_reducible assumption) (by with_reducible repeat (first | exact List.mem_cons_self | refine List.mem_cons_of_mem _ ?_)) ?_ (by with_unfolding_all rfl) (by with_unfolding_all rfl) (by with_unfolding_all decide)) | ((with_reducible show wpAny _ _ (eval (Expr.Name _ _) _) _ _ _); refine r_global (by with_reducible assumption) (by with_reducible assumption) (by with_reducible assumption) (by k_is) ?_) | (with_reducible refine r_cint (by with_reducible assumption) ?_; intro _ _ _) | (with_reducible refine MethodCall_ ?_ (by with_unfolding_all rfl)) | (with_reducible refine Call_ ?_ (by with_unfolding_all rfl)) | (with_reducible refine x_expr ?_ (by with_unfolding_all rfl) (by with_unfolding_all rfl)) | ((with_reducible show wpAny _ _ (getMethod _ _ _) _ _ _); with_reducible refine r_meth_list (by with_reducible assumption) (by with_reducible repeat (first | exact List.mem_cons_self | refine List.mem_cons_of_mem _ ?_)) PySem.F.slot_list_append PySem.F.type_list_append ?_) | ((with_reducible show wpAny _ _ (spliced _) _ _ _); with_reducible refine spliced_none ?_) | ((with_reducible show wpAny _ _ (spliced _) _ _ _); with_reducible refine spliced_more ?_ (by with_unfolding_all rfl)) | ((with_reducible show wpAny _ _ (callWith _ _ _ _ _) _ _ _); with_reducible refine callWith_method1 ?_ (by with_unfolding_all rfl) (by with_unfolding_all rfl); dsimp only [List.cons_append, List.nil_append]) | ((with_reducible show wpAny _ _ (callWith _ _ _ _ _) _ _ _); with_reducible refine r_callK (by with_reducible assumption) (by k_is) ?_ (by with_unfolding_all rfl)) | (with_reducible refine r_stays (by with_reducible assumption) ?_))
      clear H
      rename Sy _ _ _ _ _ _ _ _ _ => H
      refine quoted_spec XB0 TB (H.pre P rfl rfl (List.nil_sublist _)) (by show A.depth + 1 < _; omega) (by omega) ?_
      intro tq sq g1 g2 hx
      have H := H.ext0 hx g1 g2
      repeat' (first | ((with_reducible show wpAny _ _ (eval (Expr.Name _ _) _) _ _ _); with_reducible refine r_local (by with_reducible assumption) (by with_reducible repeat (first | exact List.mem_cons_self | refine List.mem_cons_of_mem _ ?_)) ?_ (by with_unfolding_all rfl) (by with_unfolding_all rfl) (by with_unfolding_all decide)) | ((with_reducible show wpAny _ _ (eval (Expr.Name _ _) _) _ _ _); refine r_builtin (by with_reducible assumption) (by with_reducible assumption) (by with_reducible assumption) (by k_is) (by boot_by_name) ?_) | (with_reducible refine r_cstr (by with_reducible assumption) ?_; intro _ _ _) | (with_reducible refine wpAny_BinOp ?_) | (with_reducible refine MethodCall_ ?_ (by with_unfolding_all rfl)) | (with_reducible refine Call_ ?_ (by with_unfolding_all rfl)) | (with_reducible refine Subscript_ ?_) | (with_reducible refine List_ ?_) | (with_reducible refine wpAny_execs_nil ?_) | (with_reducible refine x_expr ?_ (by with_unfolding_all rfl) (by with_unfolding_all rfl)) | ((with_reducible show wpAny _ _ (call (Value.builtin "list.append") _ _) _ _ _); with_reducible refine r_append (by with_reducible assumption) (by with_reducible repeat (first | exact SetN.hit | apply SetN.skip)) (by first | omega | (simp only [List.length_append, List.length_cons, List.length_nil]; omega)) ?_; intro _ _) | ((with_reducible show wpAny _ _ (getMethod _ _ _) _ _ _); with_reducible refine r_meth_list (by with_reducible assumption) (by with_reducible repeat (first | exact List.mem_cons_self | refine List.mem_cons_of_mem _ ?_)) PySem.F.slot_list_append PySem.F.type_list_append ?_) | ((with_reducible show wpAny _ _ (spliced _) _ _ _); with_reducible refine spliced_none ?_) | ((with_reducible show wpAny _ _ (spliced _) _ _ _); with_reducible refine spliced_more ?_ (by with_unfolding_all rfl)) | ((with_reducible show wpAny _ _ (callWith _ _ _ _ _) _ _ _); with_reducible refine PyProof.Rows.callWith_builtin1 ?_ (by with_unfolding_all rfl) (by with_unfolding_all rfl)) | ((with_reducible show wpAny _ _ (callWith _ _ _ _ _) _ _ _); with_reducible refine callWith_method1 ?_ (by with_unfolding_all rfl) (by with_unfolding_all rfl); dsimp only [List.cons_append, List.nil_append]) | ((with_reducible show wpAny _ _ (newList _) _ _ _); refine r_newList (by with_reducible assumption) ?_; intro _ _ _) | (with_reducible refine seq_next ?_))
      rename Sy _ _ _ _ _ _ _ _ _ => H2
      refine r_sum P.hh (by with_reducible assumption) (hils H2) hzs (fun k hk => by have := hz k hk; omega) (by omega) ?_
      intro tS sS HS
      repeat' (first | (with_reducible refine r_cint (by with_reducible assumption) ?_; intro _ _ _) | ((with_reducible show wpAny _ _ (binaryOp _ _ _) _ _ _); with_reducible refine r_mod_int (by with_reducible assumption) (by with_unfolding_all decide) ?_; intro _ _ _))
      refine r_end (by with_reducible assumption) List.mem_cons_self ?_
      intro tE
      repeat' ((fail_if_success ((with_reducible show PySem.wpAny _ _ (PySem.newList _) _ _ _))); first | ((with_reducible show wpAny _ _ (eval (Expr.Name _ _) _) _ _ _); with_reducible refine r_local (by with_reducible assumption) (by with_reducible repeat (first | exact List.mem_cons_self | refine List.mem_cons_of_mem _ ?_)) ?_ (by with_unfolding_all rfl) (by with_unfolding_all rfl) (by with_unfolding_all decide)) | (with_reducible refine List_ ?_) | (with_reducible refine x_return ?_) | ((with_reducible show wpAny _ _ (call (Value.builtin "list.append") _ _) _ _ _); with_reducible refine r_append (by with_reducible assumption) (by with_reducible repeat (first | exact SetN.hit | apply SetN.skip)) (by first | omega | (simp only [List.length_append, List.length_cons, List.length_nil]; omega)) ?_; intro _ _) | ((with_reducible show wpAny _ _ (spliced _) _ _ _); with_reducible refine spliced_none ?_) | ((with_reducible show wpAny _ _ (spliced _) _ _ _); with_reducible refine spliced_more ?_ (by with_unfolding_all rfl)))
      refine r_newList (by with_reducible assumption) ?_
      intro r sR HR
      have nw : ∀ a ob, (a, ob) ∈ _ → s.heap.get? a = none := fun a ob hm => HR.isNew hm fun h => nomatch h
      refine hQ _ _ ?_
      refine h r ov mv _ o m q _ _ _ sR HR.gens HR.os HR.done (HR.led _ List.mem_cons_self).1 (HR.led (o, lst ov no) (by with_reducible repeat (first | exact List.mem_cons_self | refine List.mem_cons_of_mem _ ?_))).1 (HR.led (m, lst mv nm) (by with_reducible repeat (first | exact List.mem_cons_self | refine List.mem_cons_of_mem _ ?_))).1 (HR.led (q, _) (by with_reducible repeat (first | exact List.mem_cons_self | refine List.mem_cons_of_mem _ ?_))).1 ho (hm.mono HR.keep) ?_ (fun a ha => ?_) hmn
      · unfold laidReps
        (rw [if_neg hp]; exact Paired.app (Paired.app hr (Paired.one' ⟨tq, rfl⟩)) (Paired.one' ⟨tE, rfl⟩))
      · simp only [List.mem_cons, List.not_mem_nil, or_false] at ha
        rcases ha with rfl | rfl | rfl | rfl
        · exact nw _ _ List.mem_cons_self
        · exact nw _ (lst ov no) (by with_reducible repeat (first | exact List.mem_cons_self | refine List.mem_cons_of_mem _ ?_))
        · exact nw _ (lst mv nm) (by with_reducible repeat (first | exact List.mem_cons_self | refine List.mem_cons_of_mem _ ?_))
        · exact nw _ _ (by with_reducible repeat (first | exact List.mem_cons_self | refine List.mem_cons_of_mem _ ?_))
end Mine

set_option maxRecDepth 100000
set_option maxHeartbeats 400000
namespace Mine
inductive Row where
  | num (k : Nat) | octs (l : List Nat) | text (l : List Nat) | code (l : List Nat) | lack (l : List Nat) | place (k : Nat)
noncomputable def Row.vals : Row → List Value → Prop
  | .num k, vs => ∃ t u, vs = [.str (Str.ofString "number") t, .int (k : Nat) u]
  | .octs l, vs => ∃ t u, vs = [.str (Str.ofString "octets") t, .bytes (B l) u, .bool true]
  | .text l, vs => ∃ t u, vs = [.str (Str.ofString "text") t, .str (S l) u]
  | .code l, vs => ∃ t u, vs = [.str (Str.ofString "another code") t, .str (S l) u]
  | .lack l, vs => ∃ t u, vs = [.str (Str.ofString "lacking") t, .str (S l) u]
  | .place k, vs => ∃ t u, vs = [.str (Str.ofString "place") t, .int (k : Nat) u]
noncomputable def RowAt (g : Heap) (r : Row) (v : Value) : Prop := ∃ a vs, v = .ref a ∧ g.get? a = some (lst vs 0) ∧ r.vals vs
noncomputable def RowsAt (g : Heap) (rows : List Row) (vs : List Value) : Prop := Paired (RowAt g) rows vs
theorem RowsAt.mono {g g' : Heap} {rows : List Row} {mv : List Value} (h : RowsAt g rows mv) (k : ∀ b o, g.get? b = some o → g'.get? b = some o) : RowsAt g' rows mv := by
  unfold RowsAt at h ⊢
  induction h with
  | nil => exact .nil
  | cons h _ ih => obtain ⟨a, vs, e, hg, hr⟩ := h; exact .cons ⟨a, vs, e, k _ _ hg, hr⟩ ih

/-- the mark that is due before a place -/
noncomputable def due (marks : List (Nat × List Nat)) (met bound : Nat) : Option (List Nat) := match marks[met]? with
  | some m => if m.1 < bound then some m.2 else none
  | none => none
structure Pl where
  rows : List Row
  at_ : Nat
  met : Nat
noncomputable def plainStep (octs : List Nat) (marks : List (Nat × List Nat)) (x : Pl) (kind : Nat) : Pl :=
  match due marks x.met (x.at_ + 1) with
  | some m => ⟨x.rows ++ [.code m], x.at_, x.met + 1⟩
  | none => match octs[x.at_]? with
    | none => ⟨x.rows ++ [.lack noUint], x.at_, x.met⟩
    | some head => if kind = 0 then ⟨x.rows ++ [.num head], x.at_ + 1, x.met⟩ else
      match due marks x.met (x.at_ + 1 + head) with
      | some m => ⟨x.rows ++ [.code m], x.at_ + 1, x.met + 1⟩
      | none =>
        let body := (octs.drop (x.at_ + 1)).take head
        ⟨x.rows ++ [if body.length < head then .lack (lackL (if kind = 1 then midB else midS) (head : Nat) (body.length : Nat)) else if kind = 1 then .octs body else .text body], x.at_ + 1 + body.length, x.met⟩
noncomputable def plainAll (octs : List Nat) (marks : List (Nat × List Nat)) (kinds : List Nat) : Pl := kinds.foldl (plainStep octs marks) ⟨[], 0, 0⟩

noncomputable def errRow (c : Value) (m : List Nat) : Row := if c = .ref 79 then .code m else .lack m
noncomputable def toldStep (x : List Row × Inn) (kind : Nat) : List Row × Inn :=
  if kind = 0 then match readU nextI x.2 with
    | (.ok k, y) => (x.1 ++ [.num k], y)
    | (.error (c, m), y) => (x.1 ++ [errRow c m], y)
  else if kind = 1 then match readN midB nextI x.2 with
    | (.ok l, y) => (x.1 ++ [.octs l], y)
    | (.error (c, m), y) => (x.1 ++ [errRow c m], y)
  else match readN midS nextI x.2 with
    | (.ok l, y) => (x.1 ++ [.text l], y)
    | (.error (c, m), y) => (x.1 ++ [errRow c m], y)
noncomputable def toldAll (x : Inn) (kinds : List Nat) : List Row × Inn := kinds.foldl toldStep ([], x)
end Mine

set_option maxRecDepth 100000
set_option maxHeartbeats 400000
namespace Mine
noncomputable def namesOf : List (List Nat) → List Nat
  | [] => []
  | r :: rest => (match parseR r with | .ok n => n | .error _ => []) ++ namesOf rest
noncomputable def marksOf : Nat → List (List Nat) → List (Nat × List Nat)
  | _, [] => []
  | b, r :: rest => match parseR r with | .ok n => marksOf (b + n.length) rest | .error e => (b, e.2) :: marksOf b rest
noncomputable def EndsWell : List (List Nat) → Prop
  | [] => False
  | [e] => parseR e = .ok []
  | r :: rest => parseR r ≠ .ok [] ∧ EndsWell rest
structure Rel (octs : List Nat) (marks : List (Nat × List Nat)) (y : Inn) (at_ met : Nat) : Prop where
  o : octs.drop at_ = y.kept ++ namesOf y.rest
  ol : at_ ≤ octs.length
  ml : met ≤ marks.length
  m : marks.drop met = marksOf (at_ + y.kept.length) y.rest
  e1 : y.ended = true → y.rest = []
  e2 : y.ended = false → EndsWell y.rest
theorem parseR_err {r : List Nat} {e : Value × List Nat} (h : parseR r = .error e) : e = (.ref 79, r) := by
  unfold parseR at h
  split at h
  · cases h
  · cases h; rfl
theorem due_of {marks : List (Nat × List Nat)} {met bound : Nat} : due marks met bound = match (marks.drop met).head? with | some m => if m.1 < bound then some m.2 else none | none => none := by
  unfold due
  rw [List.head?_drop]
  try (cases marks[met]? <;> rfl)
theorem marksOf_ge : ∀ (rest : List (List Nat)) (b : Nat), ∀ m ∈ marksOf b rest, b ≤ m.1
  | [], _, m, h => nomatch h
  | r :: rest, b, m, h => by
    unfold marksOf at h
    split at h
    · have := marksOf_ge rest _ m h; omega
    · rcases List.mem_cons.mp h with rfl | h
      · exact Nat.le_refl _
      · exact marksOf_ge rest b m h
theorem pull_spec {octs : List Nat} {marks : List (Nat × List Nat)} {at_ met n : Nat} : ∀ {rest : List (List Nat)} {kept : List Nat} {ended : Bool}, Rel octs marks ⟨rest, kept, ended⟩ at_ met →
    (∀ m, due marks met (at_ + n) = some m → ∃ y', pull n rest kept ended = (.error (.ref 79, m), y') ∧ Rel octs marks y' at_ (met + 1)) ∧
    (due marks met (at_ + n) = none → ∃ y', pull n rest kept ended = (.ok (), y') ∧ Rel octs marks y' at_ met ∧ y'.kept.take n = (octs.drop at_).take n ∧ (n ≤ y'.kept.length ∨ y'.ended = true)) := by
  intro rest
  induction rest with
  | nil =>
    intro kept ended R
    have hm := R.m
    simp only [marksOf] at hm
    refine ⟨fun m h => ?_, fun _ => ⟨_, rfl, R, ?_, ?_⟩⟩
    · rw [due_of, hm] at h; cases h
    · have := R.o; simp only [namesOf, List.append_nil] at this; rw [this]
    · cases ended with
      | true => exact .inr rfl
      | false => exact (R.e2 rfl).elim
  | cons r rest ih =>
    intro kept ended R
    cases ended with
    | true => have := R.e1 rfl; cases this
    | false =>
      by_cases hn : n ≤ kept.length
      · rw [pull_stop (.inl hn)]
        refine ⟨fun m h => ?_, fun _ => ⟨_, rfl, R, ?_, .inl hn⟩⟩
        · rw [due_of, R.m] at h
          cases hh : (marksOf (at_ + kept.length) (r :: rest)).head? with
          | none => simp only [hh] at h; cases h
          | some q =>
            simp only [hh] at h
            have := marksOf_ge _ _ q (List.mem_of_head? hh)
            rw [if_neg (by omega)] at h
            cases h
        · rw [R.o, List.take_append_of_le_length hn]
      · have hlt : kept.length < n := by omega
        cases hp : parseR r with
        | error e =>
          have he := parseR_err hp
          subst he
          rw [pull_err hlt hp]
          have hm := R.m
          simp only [marksOf, hp] at hm
          have hd : due marks met (at_ + n) = some r := by rw [due_of, hm]; simp only [List.head?_cons]; rw [if_pos (by omega)]
          have hml : met < marks.length := by
            rcases Nat.lt_or_ge met marks.length with q | q
            · exact q
            · rw [List.drop_of_length_le q] at hm; cases hm
          refine ⟨fun m h => ?_, fun h => by rw [hd] at h; cases h⟩
          rw [hd] at h
          cases h
          refine ⟨_, rfl, ⟨?_, R.ol, hml, ?_, (fun h => nomatch h), fun _ => ?_⟩⟩
          · have := R.o; simp only [namesOf, hp, List.nil_append] at this; exact this
          · rw [← List.drop_drop, hm]; rfl
          · have := R.e2 rfl
            cases rest with
            | nil => simp only [EndsWell] at this; rw [hp] at this; cases this
            | cons r2 rs => exact this.2
        | ok name =>
          rw [pull_ok hlt hp]
          refine ih ⟨?_, R.ol, R.ml, ?_, fun h => ?_, fun h => ?_⟩
          · have := R.o; simp only [namesOf, hp] at this; rw [this, List.append_assoc]
          · have := R.m; simp only [marksOf, hp] at this; rw [this, List.length_append, Nat.add_assoc]
          · have hnm : name = [] := by simpa using h
            have := R.e2 rfl
            cases rest with
            | nil => rfl
            | cons r2 rs => exact absurd (hnm ▸ hp) this.1
          · have hnm : name ≠ [] := by simpa using h
            have := R.e2 rfl
            cases rest with
            | nil => simp only [EndsWell] at this; rw [hp] at this; cases this; exact absurd rfl hnm
            | cons r2 rs => exact this.2
theorem nextI_spec {octs : List Nat} {marks : List (Nat × List Nat)} {at_ met : Nat} {y : Inn} (R : Rel octs marks y at_ met) (n : Nat) :
    (∀ m, due marks met (at_ + n) = some m → ∃ y', nextI y n = (.error (.ref 79, m), y') ∧ Rel octs marks y' at_ (met + 1)) ∧
    (due marks met (at_ + n) = none → ∃ y', nextI y n = (.ok ((octs.drop at_).take n), y') ∧ Rel octs marks y' (at_ + ((octs.drop at_).take n).length) met ∧ (((octs.drop at_).take n).length < n → y'.ended = true)) := by
  obtain ⟨p1, p2⟩ := pull_spec (n := n) (rest := y.rest) (kept := y.kept) (ended := y.ended) R
  refine ⟨fun m h => ?_, fun h => ?_⟩
  · obtain ⟨y', h1, h2⟩ := p1 m h
    exact ⟨y', by unfold nextI; rw [h1], h2⟩
  · obtain ⟨z, h1, h2, h3, h4⟩ := p2 h
    have hl : ((octs.drop at_).take n).length = min n z.kept.length := by rw [← h3, List.length_take]
    refine ⟨{ z with kept := z.kept.drop n }, by unfold nextI; rw [h1, ← h3], ⟨?_, ?_, h2.ml, ?_, h2.e1, h2.e2⟩, fun hlt => ?_⟩
    · rw [hl, ← List.drop_drop, h2.o]
      by_cases hn : n ≤ z.kept.length
      · rw [Nat.min_eq_left hn, List.drop_append_of_le_length hn]
      · rw [Nat.min_eq_right (by omega), List.drop_left, List.drop_of_length_le (by omega : z.kept.length ≤ n)]; rfl
    · have := congrArg List.length h2.o
      rw [List.length_drop, List.length_append] at this
      have := h2.ol
      rw [hl]; omega
    · rw [h2.m, hl]
      by_cases hn : n ≤ z.kept.length
      · rw [Nat.min_eq_left hn, List.length_drop]
        congr 1; omega
      · have he : z.ended = true := h4.resolve_left hn
        have hr := h2.e1 he
        show marksOf _ z.rest = marksOf _ z.rest
        rw [hr]; rfl
    · rw [hl] at hlt
      exact h4.resolve_left (by omega)
theorem readU_spec {octs : List Nat} {marks : List (Nat × List Nat)} {at_ met : Nat} {y : Inn} (R : Rel octs marks y at_ met) :
    match due marks met (at_ + 1) with
    | some m => ∃ y', readU nextI y = (.error (.ref 79, m), y') ∧ Rel octs marks y' at_ (met + 1)
    | none => match octs[at_]? with
      | none => ∃ y', readU nextI y = (.error (.type "ValueError", noUint), y') ∧ Rel octs marks y' at_ met ∧ y'.ended = true
      | some k => ∃ y', readU nextI y = (.ok k, y') ∧ Rel octs marks y' (at_ + 1) met := by
  obtain ⟨p1, p2⟩ := nextI_spec R 1
  cases hd : due marks met (at_ + 1) with
  | some m =>
    obtain ⟨y', h1, h2⟩ := p1 m hd
    exact ⟨y', by unfold readU; rw [h1], h2⟩
  | none =>
    obtain ⟨y', h1, h2, h3⟩ := p2 hd
    cases hk : octs[at_]? with
    | none =>
      have hdr : octs.drop at_ = [] := List.drop_of_length_le (by simpa using hk)
      rw [hdr] at h1 h2 h3
      exact ⟨y', by unfold readU; rw [h1]; rfl, h2, h3 (by simp)⟩
    | some k =>
      obtain ⟨hlt, hke⟩ := List.getElem?_eq_some_iff.mp hk
      have hdr : octs.drop at_ = k :: octs.drop (at_ + 1) := by rw [List.drop_eq_getElem_cons hlt, hke]
      rw [hdr] at h1 h2
      exact ⟨y', by unfold readU; rw [h1]; rfl, h2⟩
theorem readN_spec {octs : List Nat} {marks : List (Nat × List Nat)} {at_ met : Nat} {y : Inn} (mid : String) (R : Rel octs marks y at_ met) :
    match due marks met (at_ + 1) with
    | some m => ∃ y', readN mid nextI y = (.error (.ref 79, m), y') ∧ Rel octs marks y' at_ (met + 1)
    | none => match octs[at_]? with
      | none => ∃ y', readN mid nextI y = (.error (.type "ValueError", noUint), y') ∧ Rel octs marks y' at_ met ∧ y'.ended = true
      | some k => match due marks met (at_ + 1 + k) with
        | some m => ∃ y', readN mid nextI y = (.error (.ref 79, m), y') ∧ Rel octs marks y' (at_ + 1) (met + 1)
        | none => ∃ y', readN mid nextI y = (if ((octs.drop (at_ + 1)).take k).length = k then .ok ((octs.drop (at_ + 1)).take k) else .error (.type "ValueError", lackL mid (k : Nat) (((octs.drop (at_ + 1)).take k).length : Nat)), y') ∧
            Rel octs marks y' (at_ + 1 + ((octs.drop (at_ + 1)).take k).length) met := by
  have hU := readU_spec R
  cases hd : due marks met (at_ + 1) with
  | some m =>
    rw [hd] at hU
    obtain ⟨y', h1, h2⟩ := hU
    exact ⟨y', by unfold readN; rw [h1], h2⟩
  | none =>
    rw [hd] at hU
    cases hk : octs[at_]? with
    | none =>
      rw [hk] at hU
      obtain ⟨y', h1, h2, h3⟩ := hU
      exact ⟨y', by unfold readN; rw [h1], h2, h3⟩
    | some k =>
      rw [hk] at hU
      obtain ⟨y1, h1, h2⟩ := hU
      obtain ⟨p1, p2⟩ := nextI_spec h2 k
      dsimp only
      cases hd2 : due marks met (at_ + 1 + k) with
      | some m =>
        obtain ⟨y', h3, h4⟩ := p1 m hd2
        exact ⟨y', by unfold readN; rw [h1]; dsimp only; rw [h3], h4⟩
      | none =>
        obtain ⟨y', h3, h4, _⟩ := p2 hd2
        refine ⟨y', ?_, h4⟩
        unfold readN
        rw [h1]
        dsimp only
        rw [h3]
        dsimp only
        split <;> rfl
end Mine

set_option maxRecDepth 100000
set_option maxHeartbeats 400000
namespace Mine
theorem due_lt {marks : List (Nat × List Nat)} {met b : Nat} {m : List Nat} (_ : due marks met b = some m) : True := trivial
theorem errRow_79 (m : List Nat) : errRow (.ref 79) m = .code m := by unfold errRow; rw [if_pos rfl]
theorem errRow_VE (m : List Nat) : errRow (.type "ValueError") m = .lack m := by unfold errRow; rw [if_neg (fun h => nomatch h)]
/-- one step told, one step plain -/
theorem step_eq {octs : List Nat} {marks : List (Nat × List Nat)} {at_ met : Nat} {y : Inn} {rows : List Row} (R : Rel octs marks y at_ met) (kind : Nat) :
    ∃ y' x', toldStep (rows, y) kind = (x'.rows, y') ∧ plainStep octs marks ⟨rows, at_, met⟩ kind = x' ∧ Rel octs marks y' x'.at_ x'.met ∧ (y'.ended = true ∨ at_ + met + 1 ≤ x'.at_ + x'.met) := by
  by_cases k0 : kind = 0
  · have hU := readU_spec R
    unfold toldStep plainStep
    rw [if_pos k0]
    dsimp only
    cases hd : due marks met (at_ + 1) with
    | some m =>
      rw [hd] at hU
      obtain ⟨y', h1, h2⟩ := hU
      exact ⟨y', _, by rw [h1]; dsimp only; rw [errRow_79], rfl, h2, .inr (by dsimp only; omega)⟩
    | none =>
      rw [hd] at hU
      cases hk : octs[at_]? with
      | none =>
        rw [hk] at hU
        obtain ⟨y', h1, h2, h3⟩ := hU
        exact ⟨y', _, by rw [h1]; dsimp only; rw [errRow_VE], rfl, h2, .inl h3⟩
      | some k =>
        rw [hk] at hU
        obtain ⟨y', h1, h2⟩ := hU
        dsimp only
        rw [if_pos k0]
        exact ⟨y', _, by rw [h1], rfl, h2, .inr (by dsimp only; omega)⟩
  · have key : ∀ (mid : String) (f : List Nat → Row), (kind = 1 → mid = midB ∧ f = .octs) → (kind ≠ 1 → mid = midS ∧ f = .text) →
        toldStep (rows, y) kind = (match readN mid nextI y with | (.ok l, y) => (rows ++ [f l], y) | (.error (c, m), y) => (rows ++ [errRow c m], y)) →
        ∃ y' x', toldStep (rows, y) kind = (x'.rows, y') ∧ plainStep octs marks ⟨rows, at_, met⟩ kind = x' ∧ Rel octs marks y' x'.at_ x'.met ∧ (y'.ended = true ∨ at_ + met + 1 ≤ x'.at_ + x'.met) := by
      intro mid f hm1 hm2 ht
      have hN := readN_spec mid R
      rw [ht]
      unfold plainStep
      dsimp only
      cases hd : due marks met (at_ + 1) with
      | some m =>
        rw [hd] at hN
        obtain ⟨y', h1, h2⟩ := hN
        exact ⟨y', _, by rw [h1]; dsimp only; rw [errRow_79], rfl, h2, .inr (by dsimp only; omega)⟩
      | none =>
        rw [hd] at hN
        cases hk : octs[at_]? with
        | none =>
          rw [hk] at hN
          obtain ⟨y', h1, h2, h3⟩ := hN
          exact ⟨y', _, by rw [h1]; dsimp only; rw [errRow_VE], rfl, h2, .inl h3⟩
        | some k =>
          rw [hk] at hN
          dsimp only at hN ⊢
          rw [if_neg k0]
          cases hd2 : due marks met (at_ + 1 + k) with
          | some m =>
            rw [hd2] at hN
            obtain ⟨y', h1, h2⟩ := hN
            exact ⟨y', _, by rw [h1]; dsimp only; rw [errRow_79], rfl, h2, .inr (by dsimp only; omega)⟩
          | none =>
            rw [hd2] at hN
            obtain ⟨y', h1, h2⟩ := hN
            refine ⟨y', _, ?_, rfl, h2, .inr (by dsimp only; omega)⟩
            rw [h1]
            have hle : ((octs.drop (at_ + 1)).take k).length ≤ k := by rw [List.length_take]; omega
            by_cases hb : ((octs.drop (at_ + 1)).take k).length = k
            · rw [if_pos hb, if_neg (by omega)]
              by_cases k1 : kind = 1
              · rw [if_pos k1, (hm1 k1).2]
              · rw [if_neg k1, (hm2 k1).2]
            · rw [if_neg hb, if_pos (by omega)]
              dsimp only
              rw [errRow_VE]
              by_cases k1 : kind = 1
              · rw [if_pos k1, (hm1 k1).1]
              · rw [if_neg k1, (hm2 k1).1]
    by_cases k1 : kind = 1
    · exact key midB .octs (fun _ => ⟨rfl, rfl⟩) (fun h => absurd k1 h) (by unfold toldStep; rw [if_neg k0, if_pos k1]; try (dsimp only; rcases readN midB nextI y with ⟨(⟨c, m⟩ | l), z⟩ <;> rfl))
    · exact key midS .text (fun h => absurd h k1) (fun _ => ⟨rfl, rfl⟩) (by unfold toldStep; rw [if_neg k0, if_neg k1]; try (dsimp only; rcases readN midS nextI y with ⟨(⟨c, m⟩ | l), z⟩ <;> rfl))
theorem pull_ended {n : Nat} {kept : List Nat} {rest : List (List Nat)} (hr : rest = []) : (pull n rest kept true).2.ended = true := by subst hr; rfl
theorem all_eq {octs : List Nat} {marks : List (Nat × List Nat)} : ∀ (kinds : List Nat) {at_ met : Nat} {y : Inn} {rows : List Row}, Rel octs marks y at_ met →
    ∃ y' x', kinds.foldl toldStep (rows, y) = (x'.rows, y') ∧ kinds.foldl (plainStep octs marks) ⟨rows, at_, met⟩ = x' ∧ Rel octs marks y' x'.at_ x'.met
  | [], at_, met, y, rows, R => ⟨y, ⟨rows, at_, met⟩, rfl, rfl, R⟩
  | k :: ks, at_, met, y, rows, R => by
    obtain ⟨y1, x1, h1, h2, h3, _⟩ := step_eq (rows := rows) R k
    obtain ⟨y2, x2, g1, g2, g3⟩ := all_eq ks (rows := x1.rows) h3
    exact ⟨y2, x2, by rw [List.foldl_cons, h1, g1], by rw [List.foldl_cons, h2]; exact g2, g3⟩
theorem nextI_ended {y : Inn} (n : Nat) (h : y.ended = true ∧ y.rest = []) : (nextI y n).2.ended = true ∧ (nextI y n).2.rest = [] := by
  obtain ⟨r, k, e⟩ := y
  obtain ⟨h1, h2⟩ := h
  dsimp only at h1 h2
  subst h1 h2
  exact ⟨rfl, rfl⟩
theorem readU_ended {y : Inn} (h : y.ended = true ∧ y.rest = []) : (readU nextI y).2.ended = true ∧ (readU nextI y).2.rest = [] := by
  have := nextI_ended 1 h
  unfold readU
  revert this
  rcases nextI y 1 with ⟨(e | l), z⟩
  · exact fun h => h
  · cases l <;> exact fun h => h
theorem readN_ended {y : Inn} (mid : String) (h : y.ended = true ∧ y.rest = []) : (readN mid nextI y).2.ended = true ∧ (readN mid nextI y).2.rest = [] := by
  have h1 := readU_ended h
  unfold readN
  revert h1
  rcases readU nextI y with ⟨(e | n), z⟩
  · exact fun h => h
  · intro h1
    have h2 := nextI_ended n h1
    dsimp only at h2 ⊢
    revert h2
    rcases nextI z n with ⟨(e | l), q⟩
    · exact fun h => h
    · intro h2
      dsimp only
      split <;> exact h2
theorem told_ended {y : Inn} {rows : List Row} (k : Nat) (h : y.ended = true ∧ y.rest = []) : (toldStep (rows, y) k).2.ended = true ∧ (toldStep (rows, y) k).2.rest = [] := by
  unfold toldStep
  split
  · have := readU_ended h
    revert this
    dsimp only
    rcases readU nextI y with ⟨(⟨c, m⟩ | l), z⟩ <;> exact fun h => h
  · split
    · have := readN_ended midB h
      revert this
      dsimp only
      rcases readN midB nextI y with ⟨(⟨c, m⟩ | l), z⟩ <;> exact fun h => h
    · have := readN_ended midS h
      revert this
      dsimp only
      rcases readN midS nextI y with ⟨(⟨c, m⟩ | l), z⟩ <;> exact fun h => h
theorem all_end {octs : List Nat} {marks : List (Nat × List Nat)} : ∀ (kinds : List Nat) {at_ met : Nat} {y : Inn} {rows : List Row}, Rel octs marks y at_ met → (octs.length + marks.length < at_ + met + kinds.length ∨ y.ended = true) → (kinds.foldl toldStep (rows, y)).2.ended = true
  | [], at_, met, y, rows, R, h => by
    rcases h with h | h
    · have := R.ol; have := R.ml; simp only [List.length_nil] at h; omega
    · exact h
  | k :: ks, at_, met, y, rows, R, h => by
    obtain ⟨y1, x1, h1, h2, h3, h4⟩ := step_eq (rows := rows) R k
    rw [List.foldl_cons, h1]
    refine all_end ks h3 ?_
    rcases h with h | h
    · rcases h4 with h4 | h4
      · exact .inr h4
      · refine .inl ?_
        rw [List.length_cons] at h
        omega
    · refine .inr ?_
      have := (told_ended (rows := rows) k ⟨h, R.e1 h⟩).1
      rw [h1] at this
      exact this
end Mine

set_option maxRecDepth 100000
set_option maxHeartbeats 400000
namespace Mine
theorem scan_dblq : ∀ (l tail : List Nat), (tail = [] ∨ ∃ m r, tail = m :: r ∧ m ≠ 34) → scan (dblq l ++ 34 :: tail) = l
  | [], tail, h => scan_q1 h
  | k :: l, tail, h => by
    have ih := scan_dblq l tail h
    unfold dblq
    by_cases hk : k = 34
    · rw [if_pos hk, List.cons_append, List.cons_append, scan_q2, ih, hk]
    · rw [if_neg hk, List.cons_append, scan_cons hk, ih]
theorem parse_quoted (l : List Nat) (z : Int) : parseR (quotedL l z) = .ok l := by
  unfold parseR quotedL
  have e : [50, 53, 55, 32, 34] ++ dblq l ++ [34] ++ tailq z = 50 :: 53 :: 55 :: 32 :: 34 :: (dblq l ++ 34 :: tailq z) := by simp
  rw [e]
  have ht : tailq z = [] ∨ ∃ m r, tailq z = m :: r ∧ m ≠ 34 := by
    unfold tailq
    split
    · exact .inl rfl
    · split
      · exact .inr ⟨_, _, rfl, by decide⟩
      · exact .inr ⟨_, _, rfl, by decide⟩
  have := scan_dblq l (tailq z) ht
  simp [this]
theorem parse_end (k : Nat) : parseR (endR k) = .ok [] := by
  have h : k % 5 = 0 ∨ k % 5 = 1 ∨ k % 5 = 2 ∨ k % 5 = 3 ∨ k % 5 = 4 := by omega
  unfold endR
  rcases h with h | h | h | h | h <;> rw [h] <;> kernel_rfl
theorem parse_250 {z : Nat} (h : z < 288) : parseR (t250 z) = .error (.ref 79, t250 z) := by
  unfold parseR
  rw [(t250_facts z h).2.1, if_neg (by decide)]
theorem namesOf_app : ∀ (a b : List (List Nat)), namesOf (a ++ b) = namesOf a ++ namesOf b
  | [], _ => rfl
  | r :: a, b => by simp only [List.cons_append, namesOf, namesOf_app a b, List.append_assoc]
theorem marksOf_app : ∀ (a b : List (List Nat)) (k : Nat), marksOf k (a ++ b) = marksOf k a ++ marksOf (k + (namesOf a).length) b
  | [], _, _ => rfl
  | r :: a, b, k => by
    simp only [List.cons_append, marksOf, namesOf]
    split
    · rw [marksOf_app a b]
      congr 2
      rw [List.length_append]; omega
    · rw [marksOf_app a b, List.cons_append]
      simp
/-- what has been laid so far -/
structure LaidOk (x : Laid) : Prop where
  names : namesOf x.reps ++ x.piece = x.octs
  marks : marksOf 0 x.reps = x.marks
  ok : ∀ r ∈ x.reps, parseR r ≠ .ok []
theorem namesOf_q (l : List Nat) (z : Int) : namesOf [quotedL l z] = l := by simp [namesOf, parse_quoted]
theorem marksOf_q (k : Nat) (l : List Nat) (z : Int) : marksOf k [quotedL l z] = [] := by simp [marksOf, parse_quoted]
theorem namesOf_250 {z : Nat} (h : z < 288) : namesOf [t250 z] = [] := by simp [namesOf, parse_250 h]
theorem marksOf_250 {z : Nat} (k : Nat) (h : z < 288) : marksOf k [t250 z] = [(k, t250 z)] := by simp [marksOf, parse_250 h]
theorem LaidOk.step {x : Laid} {z : Nat} (h : LaidOk x) (hz : z < 288) : LaidOk (layStep x z) := by
  obtain ⟨h1, h2, h3⟩ := h
  have hq : ∀ r ∈ x.reps ++ [quotedL (x.piece ++ [octOf z]) (z : Nat)], parseR r ≠ .ok [] := fun r hr => by
    rcases List.mem_append.mp hr with hr | hr
    · exact h3 r hr
    · rw [List.mem_singleton.mp hr, parse_quoted]; simp
  cases hb : btw z with
  | true =>
    have e : layStep x z = ⟨x.octs ++ [octOf z], x.marks ++ [((x.octs ++ [octOf z]).length, t250 z)], x.reps ++ [quotedL (x.piece ++ [octOf z]) (z : Nat)] ++ [t250 z], []⟩ := by simp [layStep, hb]
    rw [e]
    have hn : namesOf (x.reps ++ [quotedL (x.piece ++ [octOf z]) (z : Nat)]) = x.octs ++ [octOf z] := by rw [namesOf_app, namesOf_q, ← h1, List.append_assoc]
    refine ⟨?_, ?_, fun r hr => ?_⟩
    · dsimp only; rw [namesOf_app, hn, namesOf_250 hz]; simp
    · dsimp only; rw [marksOf_app, hn, marksOf_250 _ hz, marksOf_app, marksOf_q, h2]; simp
    · rcases List.mem_append.mp hr with hr | hr
      · exact hq r hr
      · rw [List.mem_singleton.mp hr, parse_250 hz]; simp
  | false =>
    by_cases h8 : z / 8 % 3 = 0
    · have e : layStep x z = ⟨x.octs ++ [octOf z], x.marks, x.reps ++ [quotedL (x.piece ++ [octOf z]) (z : Nat)], []⟩ := by simp [layStep, hb, h8]
      rw [e]
      refine ⟨?_, ?_, hq⟩
      · dsimp only; rw [namesOf_app, namesOf_q, ← h1]; simp
      · dsimp only; rw [marksOf_app, marksOf_q, h2]; simp
    · have e : layStep x z = ⟨x.octs ++ [octOf z], x.marks, x.reps, x.piece ++ [octOf z]⟩ := by simp [layStep, hb, h8]
      rw [e]
      exact ⟨by dsimp only; rw [← h1]; simp, h2, h3⟩
theorem laidOk_all : ∀ (zs : List Nat) {x : Laid}, LaidOk x → (∀ z ∈ zs, z < 288) → LaidOk (zs.foldl layStep x)
  | [], _, h, _ => h
  | z :: r, _, h, hz => laidOk_all r (h.step (hz z (.head _))) fun q hq => hz q (.tail _ hq)
theorem endsWell_snoc {e : List Nat} (he : parseR e = .ok []) : ∀ {l : List (List Nat)}, (∀ r ∈ l, parseR r ≠ .ok []) → EndsWell (l ++ [e])
  | [], _ => he
  | [r], h => ⟨h r (.head _), he⟩
  | r :: q :: l, h => ⟨h r (.head _), endsWell_snoc he (l := q :: l) fun x hx => h x (.tail _ hx)⟩
/-- told and plain begin alike -/
theorem rel_start {zs : List Nat} (hz : ∀ z ∈ zs, z < 288) : Rel (layAll zs).octs (layAll zs).marks ⟨laidReps zs, [], false⟩ 0 0 := by
  have h : LaidOk (layAll zs) := laidOk_all zs ⟨rfl, rfl, fun _ h => nomatch h⟩ hz
  obtain ⟨h1, h2, h3⟩ := h
  unfold laidReps
  refine ⟨?_, Nat.zero_le _, Nat.zero_le _, ?_, (fun h => nomatch h), fun _ => ?_⟩
  · dsimp only
    rw [namesOf_app, namesOf_app, ← h1]
    have : namesOf [endR zs.sum] = [] := by simp [namesOf, parse_end]
    rw [this]
    split
    · rename_i hp; rw [hp]; simp [namesOf]
    · rw [namesOf_q]; simp
  · dsimp only
    rw [marksOf_app, marksOf_app]
    have : ∀ k, marksOf k [endR zs.sum] = [] := fun k => by simp [marksOf, parse_end]
    rw [this]
    split
    · simp [marksOf, h2]
    · rw [marksOf_q]; simp [h2]
  · refine endsWell_snoc (parse_end _) fun r hr => ?_
    rcases List.mem_append.mp hr with hr | hr
    · exact h3 r hr
    · split at hr
      · cases hr
      · rename_i hp
        rw [List.mem_singleton.mp hr, parse_quoted]
        simpa using hp
end Mine

set_option maxRecDepth 100000
set_option maxHeartbeats 400000
namespace Mine
noncomputable def RepOk (r : List Nat) : Prop := r.length ≤ 255 ∧ ∀ b ∈ r, b < 256
theorem dblq_mem : ∀ {l : List Nat}, (∀ b ∈ l, b < 256) → ∀ b ∈ dblq l, b < 256
  | [], _, _, h => nomatch h
  | k :: l, h, b, hb => by
    unfold dblq at hb
    split at hb
    · rcases List.mem_cons.mp hb with rfl | hb
      · decide
      · rcases List.mem_cons.mp hb with rfl | hb
        · decide
        · exact dblq_mem (fun q hq => h q (.tail _ hq)) b hb
    · rcases List.mem_cons.mp hb with rfl | hb
      · exact h b (.head _)
      · exact dblq_mem (fun q hq => h q (.tail _ hq)) b hb
theorem tailq_ok (z : Int) : (tailq z).length ≤ 4 ∧ ∀ b ∈ tailq z, b < 256 := by
  unfold tailq
  split
  · exact ⟨by decide, by decide⟩
  · split <;> exact ⟨by decide, by decide⟩
theorem quoted_ok {l : List Nat} {z : Int} (h1 : l.length ≤ 100) (h2 : ∀ b ∈ l, b < 256) : RepOk (quotedL l z) := by
  have hd := dblq_length l
  have ht := tailq_ok z
  unfold quotedL
  refine ⟨by simp only [List.length_append, List.length_cons, List.length_nil]; omega, fun b hb => ?_⟩
  simp only [List.mem_append] at hb
  rcases hb with ((hb | hb) | hb) | hb
  · revert b; decide
  · exact dblq_mem h2 b hb
  · revert b; decide
  · exact ht.2 b hb
theorem end_ok (k : Nat) : RepOk (endR k) := by
  have h : k % 5 = 0 ∨ k % 5 = 1 ∨ k % 5 = 2 ∨ k % 5 = 3 ∨ k % 5 = 4 := by omega
  unfold endR RepOk
  rcases h with h | h | h | h | h <;> rw [h] <;> exact ⟨by decide +kernel, by decide +kernel⟩
theorem reps_ok : ∀ (zs : List Nat) (x : Laid) (n : Nat), x.piece.length ≤ n → n + zs.length ≤ 100 → (∀ b ∈ x.piece, b < 256) → (∀ r ∈ x.reps, RepOk r) → (∀ z ∈ zs, z < 288) →
    (zs.foldl layStep x).piece.length ≤ 100 ∧ (∀ b ∈ (zs.foldl layStep x).piece, b < 256) ∧ ∀ r ∈ (zs.foldl layStep x).reps, RepOk r
  | [], x, n, h1, h2, h3, h4, _ => ⟨by simp at h2; simp; omega, h3, h4⟩
  | z :: zs, x, n, h1, h2, h3, h4, h5 => by
    have hz := h5 z (.head _)
    have hp1 : (x.piece ++ [octOf z]).length ≤ n + 1 := by rw [List.length_append, List.length_singleton]; omega
    have hp2 : ∀ b ∈ x.piece ++ [octOf z], b < 256 := fun b hb => by
      rcases List.mem_append.mp hb with hb | hb
      · exact h3 b hb
      · rw [List.mem_singleton.mp hb]; have := octOf_le z; omega
    have hq : RepOk (quotedL (x.piece ++ [octOf z]) (z : Nat)) := quoted_ok (by simp at h2; omega) hp2
    have h250 : RepOk (t250 z) := ⟨by have := (t250_facts z hz).1; omega, (t250_facts z hz).2.2⟩
    rw [List.foldl_cons]
    refine reps_ok zs (layStep x z) (n + 1) ?_ (by simp at h2; omega) ?_ ?_ fun q hq => h5 q (.tail _ hq)
    · unfold layStep; dsimp only; split
      · exact Nat.zero_le _
      · exact hp1
    · unfold layStep; dsimp only; split
      · exact fun _ h => nomatch h
      · exact hp2
    · unfold layStep; dsimp only
      intro r hr
      split at hr <;> split at hr <;> (try simp only [List.mem_append, List.mem_singleton] at hr) <;> (first | (rcases hr with (hr | rfl) | rfl <;> first | exact h4 r hr | assumption) | (rcases hr with hr | rfl <;> first | exact h4 r hr | assumption) | exact h4 r hr)
theorem laidReps_ok {zs : List Nat} (hn : zs.length ≤ 16) (hz : ∀ z ∈ zs, z < 288) : ∀ r ∈ laidReps zs, RepOk r := by
  obtain ⟨h1, h2, h3⟩ := reps_ok zs ⟨[], [], [], []⟩ 0 (by simp) (by omega) (fun _ h => nomatch h) (fun _ h => nomatch h) hz
  intro r hr
  unfold laidReps at hr
  rcases List.mem_append.mp hr with hr | hr
  · rcases List.mem_append.mp hr with hr | hr
    · exact h3 r hr
    · split at hr
      · cases hr
      · rw [List.mem_singleton.mp hr]; exact quoted_ok h1 h2
  · rw [List.mem_singleton.mp hr]; exact end_ok _
theorem flat_len_le : ∀ {l : List (List Nat)}, (∀ r ∈ l, RepOk r) → (flat l).length ≤ 256 * l.length
  | [], _ => by simp [flat]
  | r :: l, h => by
    have h1 := (h r (.head _)).1
    have h2 := flat_len_le fun q hq => h q (.tail _ hq)
    rw [flat_cons, List.length_cons, List.length_append, List.length_cons]
    omega
theorem laidReps_len {zs : List Nat} (hn : zs.length ≤ 16) : (laidReps zs).length ≤ 34 := by
  obtain ⟨_, _, h3, _⟩ := layAll_len zs
  unfold laidReps
  rw [List.length_append, List.length_append, List.length_singleton]
  split
  · simp only [List.length_nil]; omega
  · simp only [List.length_singleton]; omega
end Mine

set_option maxRecDepth 100000
set_option maxHeartbeats 400000
namespace Mine
section
variable {prog : Program} {w : World} {A : Around} {E : Value → Shared → Prop} {s s₀ : Shared} {base g : Heap} {Z fr : List Addr} {L : Addr} {vars : List (Str × Value)} {news : List (Addr × Obj)} {Q : Value → Shared → Prop} {l : Addr} {vs : List Value} {n : Nat} {a : Int} {u : Tok} {val : Value}
theorem r_len_G (H : Sy base s₀ Z g fr L vars news s) (hm : g.get? l = some (lst vs n)) (hsz : vs.length ≤ 16777216) (h : ∀ t s', Sy base s₀ Z g fr L vars news s' → Q (.int (vs.length : Nat) t) s') : wpAny (model prog w) A (call (.builtin "len") [.ref l]) Q E s := by
  refine call_len_list (items := vs.toArray) ⟨_, H.keep _ _ hm, rfl, n, rfl⟩ (by simp only [List.size_toArray]; omega) ?_
  simp only [List.size_toArray]
  exact h _ _ (H.tk _)
theorem r_item_G (H : Sy base s₀ Z g fr L vars news s) (hm : g.get? l = some (lst vs n)) (h0 : 0 ≤ a) (h1 : a < 16777216) (hx : vs[a.toNat]? = some val) (h : Q val s) {value slice : Expr}
    (hs : subscripted slice false (.ref l) (.int a u) = operate [.ref l, .int a u] (getItem (.ref l) (.int a u)) := by with_unfolding_all rfl) :
    wpAny (model prog w) A (subscriptTail value slice (.ref l) (.int a u)) Q E s :=
  item_litK ⟨_, H.keep _ _ hm, rfl, n, rfl⟩ h0 (by omega) hx h hs
end
theorem plainAll_snoc {octs : List Nat} {marks : List (Nat × List Nat)} {kinds : List Nat} {i k : Nat} (h : kinds[i]? = some k) : plainAll octs marks (kinds.take (i + 1)) = plainStep octs marks (plainAll octs marks (kinds.take i)) k := by
  rw [take_get h, plainAll, List.foldl_append]; rfl
end Mine


set_option maxRecDepth 100000
set_option maxHeartbeats 400000
namespace Mine
theorem due_some {marks : List (Nat × List Nat)} {met b : Nat} {m : List Nat} (h : due marks met b = some m) : ∃ mp, marks[met]? = some (mp, m) ∧ mp < b := by
  unfold due at h
  split at h
  · rename_i q hq
    split at h
    · cases h; exact ⟨q.1, hq, by assumption⟩
    · cases h
  · cases h
theorem Paired.drop' {α β : Type} {F : α → β → Prop} : ∀ {l : List α} {m : List β}, Paired F l m → ∀ (i : Nat), Paired F (l.drop i) (m.drop i)
  | _, _, h, 0 => h
  | _, _, .nil, _ + 1 => .nil
  | _, _, .cons _ r, i + 1 => Paired.drop' r i
theorem Paired.take' {α β : Type} {F : α → β → Prop} : ∀ {l : List α} {m : List β}, Paired F l m → ∀ (i : Nat), Paired F (l.take i) (m.take i)
  | _, _, _, 0 => .nil
  | _, _, .nil, _ + 1 => .nil
  | _, _, .cons h r, i + 1 => .cons h (Paired.take' r i)
theorem pick_run' (vs : List Value) (a n : Nat) : (slicePick vs.toArray (some (a : Int)) (some ((a : Int) + (n : Int))) none).toList = (vs.drop a).take n := by
  rw [kms_pick_eq]
  show kms_pick vs _ _ = _
  unfold kms_pick kms_lo kms_hi
  rw [show (a : Int) + (n : Int) = ((a + n : Nat) : Int) by omega]
  have h1 : ¬ (((a : Nat) : Int) < 0) := by omega
  have h2 : ¬ (((a + n : Nat) : Int) < 0) := by omega
  simp only [h1, h2, if_false, Int.toNat_natCast]
  by_cases h : a ≤ vs.length
  · rw [Nat.min_eq_left h]
    by_cases h2 : a + n ≤ vs.length
    · rw [Nat.min_eq_left h2, Nat.add_sub_cancel_left]
    · rw [Nat.min_eq_right (by omega), List.take_of_length_le (by simp), List.take_of_length_le (by simp; omega)]
  · rw [Nat.min_eq_right (by omega : vs.length ≤ a), List.drop_length, List.drop_of_length_le (by omega)]
    simp
section
variable {prog : Program} {w : World} {A : Around} {E : Value → Shared → Prop} {s s₀ : Shared} {base g : Heap} {Z fr : List Addr} {L : Addr} {vars : List (Str × Value)} {news news' : List (Addr × Obj)} {Q : Value → Shared → Prop} {l : Addr} {vs : List Value} {n : Nat} {a : Int} {u : Tok} {val : Value}
theorem Sy.freezeH {a : Addr} {oa : Obj} (H : Sy base s₀ Z g fr L vars ((a, oa) :: news) s) (hn : news'.Sublist news) : ∃ g', Sy base s₀ Z g' fr L vars news' s ∧ g'.get? a = some oa ∧ ∀ c oc, g.get? c = some oc → g'.get? c = some oc :=
  ⟨_, (H.sub (hn.cons _)).reground, H.frozen (hn.cons _) List.mem_cons_self (fun hq => (List.nodup_cons.mp H.nd).1 ((hn.map (·.1)).mem hq)), fun _ _ e => (H.sub (hn.cons _)).frozen_g e⟩
theorem r_join {D : Addr} {t : Tok} {k : Nat} {l : List Nat} {ys : List Value} (H : Sy base s₀ Z g fr L vars news s) (hm : (D, lst ys k) ∈ news) (hy : Paired (fun (k : Nat) y => ∃ t, y = Value.str ⟨#[k]⟩ t) l ys) (hl : l.length ≤ 1000)
    (h : ∀ t s', Sy base s₀ Z g fr L vars news s' → Q (.str (S l) t) s') : wpAny (model prog w) A (call (.builtin "str.join") [.str (Str.ofString "") t, .ref D]) Q E s := by
  have hst : StrsAre ys (l.map fun k => (⟨#[k]⟩ : Str)) := by
    clear hm hl H h
    induction hy with
    | nil => exact .nil
    | cons h _ ih => obtain ⟨t, rfl⟩ := h; exact .cons _ _ ih
  have hsum : ((l.map fun k => (⟨#[k]⟩ : Str)).map (·.length)).sum = l.length := by
    clear hy hl h hst
    induction l with
    | nil => rfl
    | cons a r ih => simp only [List.map_cons, List.sum_cons, List.length_cons, ih]; show 1 + r.length = _; omega
  have hj' : ∀ l : List Str, Txt.join (Str.ofString "") l = Str.join (Str.ofString "") l := fun l => beq_iff_eq.mp (join_plain_closes _ l)
  have hj : ∀ l : List Nat, Txt.join (Str.ofString "") (l.map fun k => (⟨#[k]⟩ : Str)) = S l := by
    intro l
    rw [hj']
    induction l with
    | nil => rfl
    | cons a r ih =>
      cases r with
      | nil => rfl
      | cons b r =>
        have e : Str.join (Str.ofString "") ((a :: b :: r).map fun k => (⟨#[k]⟩ : Str)) = (⟨#[a]⟩ : Str) ++ Str.ofString "" ++ Str.join (Str.ofString "") ((b :: r).map fun k => (⟨#[k]⟩ : Str)) := rfl
        rw [e, ih]
        show S [a] ++ S [] ++ S (b :: r) = _
        rw [S_append, S_append]; rfl
  refine join_listW (items := ys.toArray) ⟨_, H.get hm, rfl, k, rfl⟩ hst (by decide) (by rw [hsum, List.length_map]; omega) fun t' k' => ?_
  rw [hj]
  exact h _ _ (H.tk _)
theorem r_cbool {M : Model} {env : Env} {b : Bool} {k : Nat} {pos : Pos} (h : Q (.bool b) s) : wpAny M A (eval (.Constant (.bool b) k pos) env) Q E s := by
  first | exact wpAny_Constant_bool h | exact Constant_bool h
end
end Mine

set_option maxRecDepth 100000
set_option maxHeartbeats 400000
namespace Mine
structure PlC where
  o : Addr
  m : Addr
  kl : Addr
  rl : Addr
  ov : List Value
  mv : List Value
  kv : List Value
  no : Nat
  nm : Nat
  nk : Nat
  octs : List Nat
  marks : List (Nat × List Nat)
  kinds : List Nat
noncomputable abbrev plVars (c : PlC) (ia im : Int) (t1 t2 : Tok) : List (Str × Value) := [(Str.ofString "octets", .ref c.o), (Str.ofString "marks", .ref c.m), (Str.ofString "kinds", .ref c.kl), (Str.ofString "rows", .ref c.rl), (Str.ofString "at", .int ia t1), (Str.ofString "met", .int im t2)]
/-- what holds of plain's loop before turn i, where X is what has been done -/
inductive PlainX (c : PlC) (s : Shared) (i : Nat) (X : Pl) (g : Heap) : List (Str × Value) → List (Addr × Obj) → Prop
  | mk (rv : List Value) (n : Nat) (t1 t2 : Tok) (g1 : g.get? c.o = some (lst c.ov c.no)) (g2 : g.get? c.m = some (lst c.mv c.nm)) (g3 : g.get? c.kl = some (lst c.kv c.nk)) (hM : MarksAt g c.marks c.mv) (hR : RowsAt g X.rows rv)
    (hN : ∀ v ∈ rv, ∃ a, v = .ref a ∧ s.heap.get? a = none) (ha : X.at_ ≤ c.octs.length) (hm : X.met ≤ c.marks.length) (hl : rv.length ≤ i) : PlainX c s i X g (plVars c (X.at_ : Nat) (X.met : Nat) t1 t2) [(c.rl, lst rv n)]
noncomputable def PlainI (c : PlC) (s : Shared) (i : Nat) (g : Heap) (vars : List (Str × Value)) (news : List (Addr × Obj)) : Prop := PlainX c s i (plainAll c.octs c.marks (c.kinds.take i)) g vars news
theorem plain_close {c : PlC} {s : Shared} {i k : Nat} {X : Pl} {base g : Heap} {fr : List Addr} {L r : Addr} {row : Row} {vals rv : List Value} {n at' met' : Nat} {ia im : Int} {t1 t2 : Tok} {vars : List (Str × Value)} {rest : List (Addr × Obj)} {itp : Addr × Obj} {s' : Shared}
    (hall : plainAll c.octs c.marks (c.kinds.take (i + 1)) = plainStep c.octs c.marks X k) (hst : plainStep c.octs c.marks X k = ⟨X.rows ++ [row], at', met'⟩) (hrow : row.vals vals) (h1 : at' ≤ c.octs.length) (h2 : met' ≤ c.marks.length) (e1 : ia = (at' : Nat)) (e2 : im = (met' : Nat))
    (g1 : g.get? c.o = some (lst c.ov c.no)) (g2 : g.get? c.m = some (lst c.mv c.nm)) (g3 : g.get? c.kl = some (lst c.kv c.nk)) (hM : MarksAt g c.marks c.mv) (hR : RowsAt g X.rows rv) (hN : ∀ v ∈ rv, ∃ a, v = .ref a ∧ s.heap.get? a = none) (hl : rv.length ≤ i)
    (H : Sy base s [] g fr L vars ((r, lst vals 0) :: rest) s') (hv : (plVars c ia im t1 t2).Sublist vars) (hn : [itp, (c.rl, lst (rv ++ [.ref r]) (n + 1))].Sublist rest) :
    ∃ g' vars' news', PlainI c s (i + 1) g' vars' news' ∧ Sy base s [] g' fr L vars' (itp :: news') s' := by
  subst e1 e2
  obtain ⟨g', H', hr, mono⟩ := (H.vsub hv).freezeH hn
  refine ⟨g', _, _, ?_, H'⟩
  unfold PlainI
  rw [hall, hst]
  refine PlainX.mk (X := ⟨X.rows ++ [row], at', met'⟩) (rv ++ [.ref r]) (n + 1) t1 t2 (mono _ _ g1) (mono _ _ g2) (mono _ _ g3) (hM.mono mono) ?_ (fun v hv => ?_) h1 h2 ?_
  · exact Paired.app (hR.mono mono) (Paired.one' ⟨r, vals, rfl, hr, hrow⟩)
  · rcases List.mem_append.mp hv with hv | hv
    · exact hN v hv
    · exact ⟨r, List.mem_singleton.mp hv, H.isNew List.mem_cons_self fun h => nomatch h⟩
  · rw [List.length_append, List.length_singleton]; omega
theorem kind_item (t0 t1 t2 : Tok) {k : Nat} (h : k = 1 ∨ k = 2) : ∃ t, [Value.str (Str.ofString "") t0, .str (Str.ofString "bytes1") t1, .str (Str.ofString "string1") t2][((k : Nat) : Int).toNat]? = some (.str (Str.ofString (if k = 1 then "bytes1" else "string1")) t) := by
  rcases h with rfl | rfl
  · exact ⟨_, rfl⟩
  · exact ⟨_, rfl⟩
theorem lack_eq {k : Nat} (n b : Int) : Str.ofString "expected " ++ Str.ofString (toString n) ++ Str.ofString " bytes in a " ++ Str.ofString (if k = 1 then "bytes1" else "string1") ++ Str.ofString ", but only " ++ Str.ofString (toString b) ++ Str.ofString " remain" = S (lackL (if k = 1 then midB else midS) n b) := by
  unfold lackL
  by_cases h : k = 1
  · simp only [if_pos h]
    have e : txt midB = txt " bytes in a " ++ txt "bytes1" ++ txt ", but only " := by decide +kernel
    rw [e]
    simp only [← S_txt, S_append, List.append_assoc]
  · simp only [if_neg h]
    have e : txt midS = txt " bytes in a " ++ txt "string1" ++ txt ", but only " := by decide +kernel
    rw [e]
    simp only [← S_txt, S_append, List.append_assoc]
end Mine

set_option maxRecDepth 100000
set_option maxHeartbeats 4000000
namespace Mine
theorem chr_paired : ∀ {l : List Nat} {bv ys : List Value}, IsInts l bv → Paired (fun v y => ∃ (k : Nat) (u t : Tok), v = Value.int (k : Nat) u ∧ y = Value.str ⟨#[k]⟩ t) bv ys → Paired (fun (k : Nat) y => ∃ t, y = Value.str ⟨#[k]⟩ t) l ys
  | _, _, _, .nil, .nil => .nil
  | _, _, _, .cons h r, .cons h' r' => .cons (by
      obtain ⟨t, e⟩ := h
      obtain ⟨k, u, t', e1, e2⟩ := h'
      rw [e] at e1
      injection e1 with e1 _
      have : @Eq Nat _ k := Int.ofNat.inj e1
      subst this
      exact ⟨t', e2⟩) (chr_paired r r')
theorem plain_spec {w : World} {p : Program} {loose : List Str} {mean : ExcName → Option Value} {mg mb : Str → Option Value} {base : Heap} {A : Around} {fs : List Env} {fr : List Addr} {s : Shared} {Q E : Value → Shared → Prop} {o m kl : Addr} {octs : List Nat} {marks : List (Nat × List Nat)} {kinds : List Nat} {ov mv kv : List Value} {no nm nk : Nat}
    (XB : (hd.heap_39 w.params).In base) (TB : Top p loose mean mg mb base) (P : Pre base A fs fr [] s) (hroom : A.depth + 10 < recursionLimit)
    (hgo : s.heap.get? o = some (lst ov no)) (hgm : s.heap.get? m = some (lst mv nm)) (hgk : s.heap.get? kl = some (lst kv nk)) (hof : o ∉ fr ∧ m ∉ fr ∧ kl ∉ fr) (ho : IsInts octs ov) (hm : MarksAt (hideAll s.heap fr) marks mv) (hk : IsInts kinds kv)
    (hob : ∀ b ∈ octs, b < 256) (hol : octs.length ≤ 100) (hml : marks.length ≤ 100) (hkl : kinds.length ≤ 1000) (hk2 : ∀ k ∈ kinds, k ≤ 2)
    (h : ∀ rl rv n s', s'.gens = s.gens → s'.os = s.os → Ext [] fr s.heap s'.heap → s'.heap.get? rl = some (lst rv n) → RowsAt s'.heap (plainAll octs marks kinds).rows rv → s.heap.get? rl = none → (∀ v ∈ rv, ∃ a, v = .ref a ∧ s.heap.get? a = none) → Q (.ref rl) s') :
    wpAny (model PySem.Challenge.rw_of0006_01.row.prog w) A (call (.ref 133) [.ref o, .ref m, .ref kl]) Q E s := by
  have XB0 := XB
  revert XB; k_fill; intro XB
  refine' enterK [(Str.ofString "octets", .ref o), (Str.ofString "marks", .ref m), (Str.ofString "kinds", .ref kl)] [Str.ofString "octets", Str.ofString "marks", Str.ofString "kinds"] P XB TB ?o ?c (by omega) ?bi ?nm ?nd ?_ ?lo ?ce ?x1 ?x2 ?x3
  (case o => k_is)
  (case c => k_is)
  (case bi => exact rfl)
  (case nm => exact rfl)
  (case nd => decide)
  (case lo => decide)
  (case ce => decide)
  (case x1 => rfl)
  (case x2 => rfl)
  (case x3 => rfl)
  intro _ _ _
  refine calmA P.hh ?_
  intro A' hh Q' hQ
  rename Sy _ _ _ _ _ _ _ _ _ => H
  rename_i L s1
  replace H : Sy base s [] (hideAll s.heap fr) fr L _ [] s1 := H
  repeat' ((fail_if_success ((with_reducible show PySem.wpAny _ _ (PySem.newList _) _ _ _))); first | (with_reducible refine List_ ?_) | (with_reducible refine x_assign ?_ (by with_unfolding_all rfl)) | ((with_reducible show wpAny _ _ (spliced _) _ _ _); with_reducible refine spliced_none ?_))
  refine r_newList H ?_
  clear H
  intro rl s2 H
  repeat' (first | (with_reducible refine r_cint (by with_reducible assumption) ?_; intro _ _ _) | (with_reducible refine x_assign ?_ (by with_unfolding_all rfl)) | ((with_reducible show wpAny _ _ (storeName _ _ _) _ _ _); with_reducible refine r_store (by with_reducible assumption) (by with_reducible repeat (first | exact SetV.hit | exact SetV.nil | apply SetV.skip (by with_unfolding_all decide))) ?_ (by with_unfolding_all rfl) (by with_unfolding_all rfl); intro _ _))
  clear H
  rename Sy _ _ _ _ _ _ _ _ _ => H
  have hnchr : nsIn (hd.heap_39 w.params) mainGlobals (Str.ofString "chr") = some none := by k_is
  refine x_for ?_
  repeat' (((with_reducible show wpAny _ _ (eval (Expr.Name _ _) _) _ _ _); with_reducible refine r_local (by with_reducible assumption) (by with_reducible repeat (first | exact List.mem_cons_self | refine List.mem_cons_of_mem _ ?_)) ?_ (by with_unfolding_all rfl) (by with_unfolding_all rfl) (by with_unfolding_all decide)))
  have f1 := hideAll_get _ hgo hof.1
  have f2 := hideAll_get _ hgm hof.2.1
  have f3 := hideAll_get _ hgk hof.2.2
  let c : PlC := ⟨o, m, kl, rl, ov, mv, kv, no, nm, nk, octs, marks, kinds⟩
  refine r_for_list (items := kv) (PlainI c s) hh H (.mk [] 0 _ _ f1 f2 f3 hm .nil (fun _ h => nomatch h) (Nat.zero_le _) (Nat.zero_le _) (Nat.le_refl _)) ?_ ?_ ?_
  · rintro i g vars news s' ⟨rv, n, t1, t2, g1, g2, g3⟩ H'
    exact ⟨_, H'.keep _ _ g3, rfl, nk, rfl⟩
  · clear H
    rintro i v g vars it io news s' hv ⟨rv, n, t1, t2, g1, g2, g3, hM, hR, hN, ha, hme, hrl⟩ H
    replace H : Sy base s [] g fr L [(Str.ofString "octets", .ref o), (Str.ofString "marks", .ref m), (Str.ofString "kinds", .ref kl), (Str.ofString "rows", .ref rl), (Str.ofString "at", .int ((plainAll octs marks (kinds.take i)).at_ : Nat) t1), (Str.ofString "met", .int ((plainAll octs marks (kinds.take i)).met : Nat) t2)] [(it, io), (rl, lst rv n)] s' := H
    replace g1 : g.get? o = some (lst ov no) := g1
    replace g2 : g.get? m = some (lst mv nm) := g2
    replace g3 : g.get? kl = some (lst kv nk) := g3
    replace hM : MarksAt g marks mv := hM
    replace hR : RowsAt g (plainAll octs marks (kinds.take i)).rows rv := hR
    replace ha : (plainAll octs marks (kinds.take i)).at_ ≤ octs.length := ha
    replace hme : (plainAll octs marks (kinds.take i)).met ≤ marks.length := hme
    obtain ⟨k, hki, tk, rfl⟩ := Paired.get' hk hv
    have hall : plainAll c.octs c.marks (c.kinds.take (i + 1)) = plainStep c.octs c.marks (plainAll octs marks (kinds.take i)) k := plainAll_snoc (octs := octs) (marks := marks) hki
    have hk22 := hk2 k (List.mem_of_getElem? hki)
    have hi : i < 1000 := by have := (List.getElem?_eq_some_iff.mp hki).1; omega
    have lo := Paired.length' ho
    have lm := Paired.length' hM
    generalize plainAll octs marks (kinds.take i) = X at *
    refine calmT ?_
    intro R hRn
    repeat' ((fail_if_success ((with_reducible show PySem.wpAny _ _ (PySem.isTrue _ _ _) _ _ _))); first | (with_reducible refine x_if ?_) | ((with_reducible show wpAny _ _ (storeName _ _ _) _ _ _); with_reducible refine r_store (by with_reducible assumption) (by with_reducible repeat (first | exact SetV.hit | exact SetV.nil | apply SetV.skip (by with_unfolding_all decide))) ?_ (by with_unfolding_all rfl) (by with_unfolding_all rfl); intro _ _))
    clear H
    rename Sy _ _ _ _ _ _ _ _ _ => H
    refine wpAny_mono (Q := fun b s' => b = (due marks X.met (X.at_ + 1)).isSome ∧ Sy base s [] g fr L [(Str.ofString "octets", .ref o), (Str.ofString "marks", .ref m), (Str.ofString "kinds", .ref kl), (Str.ofString "rows", .ref rl), (Str.ofString "at", .int (X.at_ : Nat) t1), (Str.ofString "met", .int (X.met : Nat) t2), (Str.ofString "kind", .int (k : Nat) tk)] [(it, io), (rl, lst rv n)] s') ?_ ?_ (fun _ _ e => e)
    · repeat' (first | ((with_reducible show wpAny _ _ (eval (Expr.Name _ _) _) _ _ _); with_reducible refine r_local (by with_reducible assumption) (by with_reducible repeat (first | exact List.mem_cons_self | refine List.mem_cons_of_mem _ ?_)) ?_ (by with_unfolding_all rfl) (by with_unfolding_all rfl) (by with_unfolding_all decide)) | ((with_reducible show wpAny _ _ (eval (Expr.Name _ _) _) _ _ _); refine r_builtin (by with_reducible assumption) (by with_reducible assumption) (by with_reducible assumption) (by k_is) (by boot_by_name) ?_) | (with_reducible refine Call_ ?_ (by with_unfolding_all rfl)) | ((with_reducible show wpAny _ _ (spliced _) _ _ _); with_reducible refine spliced_none ?_) | ((with_reducible show wpAny _ _ (spliced _) _ _ _); with_reducible refine spliced_more ?_ (by with_unfolding_all rfl)) | ((with_reducible show wpAny _ _ (callWith _ _ _ _ _) _ _ _); with_reducible refine PyProof.Rows.callWith_builtin1 ?_ (by with_unfolding_all rfl) (by with_unfolding_all rfl)) | ((with_reducible show wpAny _ _ (isTrue _ _ _) _ _ _); with_reducible refine isTrue_and ?_) | ((with_reducible show wpAny _ _ (isTrue _ _ _) _ _ _); with_reducible refine wpAny_isTrue_Compare1 ?_ (by with_unfolding_all rfl)))
      refine r_len_G H g2 (by omega) ?_
      clear H
      intro tl s3 H
      repeat' (first | (with_reducible refine lt_int ?_) | (with_reducible refine wpAny_truthy_bool ?_))
      by_cases hlt : X.met < marks.length
      · obtain ⟨⟨mp, mt⟩, hmk⟩ : ∃ q, marks[X.met]? = some q := ⟨_, List.getElem?_eq_getElem hlt⟩
        obtain ⟨_, hmv, am, tm, um, rfl, gam⟩ := Paired.get2' hM hmk
        refine ifT (by simp; omega) ?_
        repeat' (first | ((with_reducible show wpAny _ _ (eval (Expr.Name _ _) _) _ _ _); with_reducible refine r_local (by with_reducible assumption) (by with_reducible repeat (first | exact List.mem_cons_self | refine List.mem_cons_of_mem _ ?_)) ?_ (by with_unfolding_all rfl) (by with_unfolding_all rfl) (by with_unfolding_all decide)) | (with_reducible refine Subscript_ ?_) | ((with_reducible show wpAny _ _ (isTrue _ _ _) _ _ _); with_reducible refine isTrue_and ?_) | ((with_reducible show wpAny _ _ (isTrue _ _ _) _ _ _); with_reducible refine wpAny_isTrue_Compare1 ?_ (by with_unfolding_all rfl)))
        refine r_item_G (by with_reducible assumption) g2 (by omega) (by omega) (by simpa using hmv) ?_
        repeat' ((with_reducible refine r_cint (by with_reducible assumption) ?_; intro _ _ _))
        refine r_item_G (by with_reducible assumption) gam (by decide) (by decide) rfl ?_
        repeat' (first | ((with_reducible show wpAny _ _ (eval (Expr.Name _ _) _) _ _ _); with_reducible refine r_local (by with_reducible assumption) (by with_reducible repeat (first | exact List.mem_cons_self | refine List.mem_cons_of_mem _ ?_)) ?_ (by with_unfolding_all rfl) (by with_unfolding_all rfl) (by with_unfolding_all decide)) | (with_reducible refine r_cint (by with_reducible assumption) ?_; intro _ _ _) | (with_reducible refine wpAny_BinOp ?_) | ((with_reducible show wpAny _ _ (binaryOp _ _ _) _ _ _); with_reducible refine r_add_int (by with_reducible assumption) ?_; intro _ _ _) | (with_reducible refine lt_int ?_) | (with_reducible refine wpAny_truthy_bool ?_))
        clear H
        rename Sy _ _ _ _ _ _ _ _ _ => H
        by_cases hb : mp < X.at_ + 1
        · refine ifT (by simp; omega) ?_
          repeat' (((with_reducible show wpAny _ _ (isTrue _ _ _) _ _ _); with_reducible refine isTrue_and_nil ?_))
          exact ⟨by unfold due; rw [hmk]; simp only [if_pos hb]; rfl, H⟩
        · refine ifF (by simp; omega) ?_
          repeat' (fail)
          exact ⟨by unfold due; rw [hmk]; simp only [if_neg hb]; rfl, H⟩
      · refine ifF (by simp; omega) ?_
        repeat' (fail)
        exact ⟨by unfold due; rw [List.getElem?_eq_none (by omega)]; rfl, H⟩
    clear H
    rintro b s3 ⟨rfl, H⟩
    cases hd : due marks X.met (X.at_ + 1) with
    | some mt =>
      obtain ⟨mp, hmk, hmp⟩ := due_some hd
      obtain ⟨_, hmv, am, tm, um, rfl, gam⟩ := Paired.get2' hM hmk
      have hmlt := (List.getElem?_eq_some_iff.mp hmk).1
      refine ifT (show (some mt).isSome = true from rfl) ?_
      repeat' (first | ((with_reducible show wpAny _ _ (eval (Expr.Name _ _) _) _ _ _); with_reducible refine r_local (by with_reducible assumption) (by with_reducible repeat (first | exact List.mem_cons_self | refine List.mem_cons_of_mem _ ?_)) ?_ (by with_unfolding_all rfl) (by with_unfolding_all rfl) (by with_unfolding_all decide)) | (with_reducible refine r_cstr (by with_reducible assumption) ?_; intro _ _ _) | (with_reducible refine MethodCall_ ?_ (by with_unfolding_all rfl)) | (with_reducible refine Subscript_ ?_) | (with_reducible refine List_ ?_) | (with_reducible refine x_expr ?_ (by with_unfolding_all rfl) (by with_unfolding_all rfl)) | ((with_reducible show wpAny _ _ (getMethod _ _ _) _ _ _); with_reducible refine r_meth_list (by with_reducible assumption) (by with_reducible repeat (first | exact List.mem_cons_self | refine List.mem_cons_of_mem _ ?_)) PySem.F.slot_list_append PySem.F.type_list_append ?_) | ((with_reducible show wpAny _ _ (spliced _) _ _ _); with_reducible refine spliced_more ?_ (by with_unfolding_all rfl)) | ((with_reducible show wpAny _ _ (callWith _ _ _ _ _) _ _ _); with_reducible refine callWith_method1 ?_ (by with_unfolding_all rfl) (by with_unfolding_all rfl); dsimp only [List.cons_append, List.nil_append]))
      refine r_item_G (by with_reducible assumption) g2 (by omega) (by omega) (by simpa using hmv) ?_
      repeat' ((with_reducible refine r_cint (by with_reducible assumption) ?_; intro _ _ _))
      refine r_item_G (by with_reducible assumption) gam (by decide) (by decide) rfl ?_
      repeat' (first | ((with_reducible show wpAny _ _ (eval (Expr.Name _ _) _) _ _ _); with_reducible refine r_local (by with_reducible assumption) (by with_reducible repeat (first | exact List.mem_cons_self | refine List.mem_cons_of_mem _ ?_)) ?_ (by with_unfolding_all rfl) (by with_unfolding_all rfl) (by with_unfolding_all decide)) | (with_reducible refine r_cint (by with_reducible assumption) ?_; intro _ _ _) | (with_reducible refine wpAny_BinOp ?_) | (with_reducible refine wpAny_execs_nil ?_) | (with_reducible refine x_assign ?_ (by with_unfolding_all rfl)) | ((with_reducible show wpAny _ _ (binaryOp _ _ _) _ _ _); with_reducible refine r_add_int (by with_reducible assumption) ?_; intro _ _ _) | ((with_reducible show wpAny _ _ (call (Value.builtin "list.append") _ _) _ _ _); with_reducible refine r_append (by with_reducible assumption) (by with_reducible repeat (first | exact SetN.hit | apply SetN.skip)) (by first | omega | (simp only [List.length_append, List.length_cons, List.length_nil]; omega)) ?_; intro _ _) | ((with_reducible show wpAny _ _ (spliced _) _ _ _); with_reducible refine spliced_none ?_) | ((with_reducible show wpAny _ _ (storeName _ _ _) _ _ _); with_reducible refine r_store (by with_reducible assumption) (by with_reducible repeat (first | exact SetV.hit | exact SetV.nil | apply SetV.skip (by with_unfolding_all decide))) ?_ (by with_unfolding_all rfl) (by with_unfolding_all rfl); intro _ _) | ((with_reducible show wpAny _ _ (newList _) _ _ _); refine r_newList (by with_reducible assumption) ?_; intro _ _ _) | (with_reducible refine seq_next ?_))
      clear H
      rename Sy _ _ _ _ _ _ _ _ _ => H
      refine hRn _ ?_
      exact plain_close (c := c) (itp := (it, io)) hall (row := .code mt) (at' := X.at_) (met' := X.met + 1) (ia := (X.at_ : Int)) (im := (X.met : Int) + 1) (by unfold plainStep; rw [show due c.marks X.met (X.at_ + 1) = some mt from hd]) ⟨_, _, rfl⟩ ha (by show X.met + 1 ≤ marks.length; omega) rfl (by omega) g1 g2 g3 hM hR hN hrl H (by walk_at "Msub") (by walk_at "Msub")
    | none =>
      refine ifF (show ¬ ((none : Option (List Nat)).isSome = true) from by simp) ?_
      repeat' (first | ((with_reducible show wpAny _ _ (eval (Expr.Name _ _) _) _ _ _); with_reducible refine r_local (by with_reducible assumption) (by with_reducible repeat (first | exact List.mem_cons_self | refine List.mem_cons_of_mem _ ?_)) ?_ (by with_unfolding_all rfl) (by with_unfolding_all rfl) (by with_unfolding_all decide)) | ((with_reducible show wpAny _ _ (eval (Expr.Name _ _) _) _ _ _); refine r_builtin (by with_reducible assumption) (by with_reducible assumption) (by with_reducible assumption) (by k_is) (by boot_by_name) ?_) | (with_reducible refine Call_ ?_ (by with_unfolding_all rfl)) | (with_reducible refine x_if ?_) | ((with_reducible show wpAny _ _ (spliced _) _ _ _); with_reducible refine spliced_none ?_) | ((with_reducible show wpAny _ _ (spliced _) _ _ _); with_reducible refine spliced_more ?_ (by with_unfolding_all rfl)) | ((with_reducible show wpAny _ _ (callWith _ _ _ _ _) _ _ _); with_reducible refine PyProof.Rows.callWith_builtin1 ?_ (by with_unfolding_all rfl) (by with_unfolding_all rfl)) | ((with_reducible show wpAny _ _ (isTrue _ _ _) _ _ _); with_reducible refine wpAny_isTrue_Compare1 ?_ (by with_unfolding_all rfl)))
      refine r_len_G (by with_reducible assumption) g1 (by omega) ?_
      clear H
      intro tl s4 H
      repeat' (first | (with_reducible refine eq_int ?_) | (with_reducible refine wpAny_truthy_bool ?_))
      rw [lo]
      by_cases hat : X.at_ = octs.length
      · refine ifT (by simp [hat]) ?_
        repeat' (first | ((with_reducible show wpAny _ _ (eval (Expr.Name _ _) _) _ _ _); with_reducible refine r_local (by with_reducible assumption) (by with_reducible repeat (first | exact List.mem_cons_self | refine List.mem_cons_of_mem _ ?_)) ?_ (by with_unfolding_all rfl) (by with_unfolding_all rfl) (by with_unfolding_all decide)) | (with_reducible refine r_cstr (by with_reducible assumption) ?_; intro _ _ _) | (with_reducible refine MethodCall_ ?_ (by with_unfolding_all rfl)) | (with_reducible refine List_ ?_) | (with_reducible refine wpAny_execs_nil ?_) | (with_reducible refine x_expr ?_ (by with_unfolding_all rfl) (by with_unfolding_all rfl)) | ((with_reducible show wpAny _ _ (call (Value.builtin "list.append") _ _) _ _ _); with_reducible refine r_append (by with_reducible assumption) (by with_reducible repeat (first | exact SetN.hit | apply SetN.skip)) (by first | omega | (simp only [List.length_append, List.length_cons, List.length_nil]; omega)) ?_; intro _ _) | ((with_reducible show wpAny _ _ (getMethod _ _ _) _ _ _); with_reducible refine r_meth_list (by with_reducible assumption) (by with_reducible repeat (first | exact List.mem_cons_self | refine List.mem_cons_of_mem _ ?_)) PySem.F.slot_list_append PySem.F.type_list_append ?_) | ((with_reducible show wpAny _ _ (spliced _) _ _ _); with_reducible refine spliced_none ?_) | ((with_reducible show wpAny _ _ (spliced _) _ _ _); with_reducible refine spliced_more ?_ (by with_unfolding_all rfl)) | ((with_reducible show wpAny _ _ (callWith _ _ _ _ _) _ _ _); with_reducible refine callWith_method1 ?_ (by with_unfolding_all rfl) (by with_unfolding_all rfl); dsimp only [List.cons_append, List.nil_append]) | ((with_reducible show wpAny _ _ (newList _) _ _ _); refine r_newList (by with_reducible assumption) ?_; intro _ _ _) | (with_reducible refine seq_next ?_))
        clear H
        rename Sy _ _ _ _ _ _ _ _ _ => H
        have hnone : octs[X.at_]? = none := List.getElem?_eq_none (by omega)
        refine hRn _ ?_
        exact plain_close (c := c) (itp := (it, io)) hall (row := .lack noUint) (at' := X.at_) (met' := X.met) (by unfold plainStep; rw [show due c.marks X.met (X.at_ + 1) = none from hd]; dsimp only; rw [show c.octs[X.at_]? = none from hnone]) ⟨_, _, by unfold noUint; rw [S_txt]⟩ ha hme rfl rfl g1 g2 g3 hM hR hN hrl H (by walk_at "Msub") (by walk_at "Msub")
      · refine ifF (by simp; omega) ?_
        have halt : X.at_ < octs.length := by omega
        obtain ⟨hdv, hhd⟩ : ∃ q, octs[X.at_]? = some q := ⟨_, List.getElem?_eq_getElem halt⟩
        have hhb := hob hdv (List.mem_of_getElem? hhd)
        obtain ⟨_, hov, th, rfl⟩ := Paired.get2' ho hhd
        repeat' (first | ((with_reducible show wpAny _ _ (eval (Expr.Name _ _) _) _ _ _); with_reducible refine r_local (by with_reducible assumption) (by with_reducible repeat (first | exact List.mem_cons_self | refine List.mem_cons_of_mem _ ?_)) ?_ (by with_unfolding_all rfl) (by with_unfolding_all rfl) (by with_unfolding_all decide)) | (with_reducible refine r_cint (by with_reducible assumption) ?_; intro _ _ _) | (with_reducible refine x_if ?_) | (with_reducible refine eq_int ?_) | (with_reducible refine wpAny_truthy_bool ?_) | ((with_reducible show wpAny _ _ (isTrue _ _ _) _ _ _); with_reducible refine wpAny_isTrue_Compare1 ?_ (by with_unfolding_all rfl)))
        by_cases hk0 : k = 0
        · refine ifT (by simp [hk0]) ?_
          repeat' (first | ((with_reducible show wpAny _ _ (eval (Expr.Name _ _) _) _ _ _); with_reducible refine r_local (by with_reducible assumption) (by with_reducible repeat (first | exact List.mem_cons_self | refine List.mem_cons_of_mem _ ?_)) ?_ (by with_unfolding_all rfl) (by with_unfolding_all rfl) (by with_unfolding_all decide)) | (with_reducible refine r_cstr (by with_reducible assumption) ?_; intro _ _ _) | (with_reducible refine MethodCall_ ?_ (by with_unfolding_all rfl)) | (with_reducible refine Subscript_ ?_) | (with_reducible refine List_ ?_) | (with_reducible refine x_expr ?_ (by with_unfolding_all rfl) (by with_unfolding_all rfl)) | ((with_reducible show wpAny _ _ (getMethod _ _ _) _ _ _); with_reducible refine r_meth_list (by with_reducible assumption) (by with_reducible repeat (first | exact List.mem_cons_self | refine List.mem_cons_of_mem _ ?_)) PySem.F.slot_list_append PySem.F.type_list_append ?_) | ((with_reducible show wpAny _ _ (spliced _) _ _ _); with_reducible refine spliced_more ?_ (by with_unfolding_all rfl)) | ((with_reducible show wpAny _ _ (callWith _ _ _ _ _) _ _ _); with_reducible refine callWith_method1 ?_ (by with_unfolding_all rfl) (by with_unfolding_all rfl); dsimp only [List.cons_append, List.nil_append]))
          refine r_item_G (by with_reducible assumption) g1 (by omega) (by omega) (by simpa using hov) ?_
          repeat' (first | ((with_reducible show wpAny _ _ (eval (Expr.Name _ _) _) _ _ _); with_reducible refine r_local (by with_reducible assumption) (by with_reducible repeat (first | exact List.mem_cons_self | refine List.mem_cons_of_mem _ ?_)) ?_ (by with_unfolding_all rfl) (by with_unfolding_all rfl) (by with_unfolding_all decide)) | (with_reducible refine r_cint (by with_reducible assumption) ?_; intro _ _ _) | (with_reducible refine wpAny_BinOp ?_) | (with_reducible refine wpAny_execs_nil ?_) | (with_reducible refine x_assign ?_ (by with_unfolding_all rfl)) | ((with_reducible show wpAny _ _ (binaryOp _ _ _) _ _ _); with_reducible refine r_add_int (by with_reducible assumption) ?_; intro _ _ _) | ((with_reducible show wpAny _ _ (call (Value.builtin "list.append") _ _) _ _ _); with_reducible refine r_append (by with_reducible assumption) (by with_reducible repeat (first | exact SetN.hit | apply SetN.skip)) (by first | omega | (simp only [List.length_append, List.length_cons, List.length_nil]; omega)) ?_; intro _ _) | ((with_reducible show wpAny _ _ (spliced _) _ _ _); with_reducible refine spliced_none ?_) | ((with_reducible show wpAny _ _ (storeName _ _ _) _ _ _); with_reducible refine r_store (by with_reducible assumption) (by with_reducible repeat (first | exact SetV.hit | exact SetV.nil | apply SetV.skip (by with_unfolding_all decide))) ?_ (by with_unfolding_all rfl) (by with_unfolding_all rfl); intro _ _) | ((with_reducible show wpAny _ _ (newList _) _ _ _); refine r_newList (by with_reducible assumption) ?_; intro _ _ _) | (with_reducible refine seq_next ?_))
          clear H
          rename Sy _ _ _ _ _ _ _ _ _ => H
          refine hRn _ ?_
          exact plain_close (c := c) (itp := (it, io)) hall (row := .num hdv) (at' := X.at_ + 1) (met' := X.met) (ia := (X.at_ : Int) + 1) (im := (X.met : Int)) (by unfold plainStep; rw [show due c.marks X.met (X.at_ + 1) = none from hd]; dsimp only; rw [show c.octs[X.at_]? = some hdv from hhd]; dsimp only; rw [if_pos hk0]) ⟨_, _, rfl⟩ halt hme (by omega) rfl g1 g2 g3 hM hR hN hrl H (by walk_at "Msub") (by walk_at "Msub")
        · refine ifF (by simp; omega) ?_
          repeat' (first | ((with_reducible show wpAny _ _ (eval (Expr.Name _ _) _) _ _ _); with_reducible refine r_local (by with_reducible assumption) (by with_reducible repeat (first | exact List.mem_cons_self | refine List.mem_cons_of_mem _ ?_)) ?_ (by with_unfolding_all rfl) (by with_unfolding_all rfl) (by with_unfolding_all decide)) | (with_reducible refine Subscript_ ?_) | (with_reducible refine x_assign ?_ (by with_unfolding_all rfl)))
          refine r_item_G (by with_reducible assumption) g1 (by omega) (by omega) (by simpa using hov) ?_
          repeat' ((fail_if_success ((with_reducible show PySem.wpAny _ _ (PySem.isTrue _ _ _) _ _ _))); first | (with_reducible refine r_sub_cut ?_) | ((with_reducible show wpAny _ _ (eval (Expr.Name _ _) _) _ _ _); with_reducible refine r_local (by with_reducible assumption) (by with_reducible repeat (first | exact List.mem_cons_self | refine List.mem_cons_of_mem _ ?_)) ?_ (by with_unfolding_all rfl) (by with_unfolding_all rfl) (by with_unfolding_all decide)) | (with_reducible refine r_cint (by with_reducible assumption) ?_; intro _ _ _) | (with_reducible refine wpAny_BinOp ?_) | (with_reducible refine x_assign ?_ (by with_unfolding_all rfl)) | ((with_reducible show wpAny _ _ (binaryOp _ _ _) _ _ _); with_reducible refine r_add_int (by with_reducible assumption) ?_; intro _ _ _) | (with_reducible refine evalPart_some_step ?_) | ((with_reducible show wpAny _ _ (storeName _ _ _) _ _ _); with_reducible refine r_store (by with_reducible assumption) (by with_reducible repeat (first | exact SetV.hit | exact SetV.nil | apply SetV.skip (by with_unfolding_all decide))) ?_ (by with_unfolding_all rfl) (by with_unfolding_all rfl); intro _ _))
          refine r_cut_list (by with_reducible assumption) (by refine ⟨_, Sy.keep (by with_reducible assumption) _ _ g1, rfl, no, rfl⟩) (by constructor) (by constructor) (by omega) ?_
          clear H
          intro bd s5 H
          rw [show (X.at_ : Int) + 1 = ((X.at_ + 1 : Nat) : Int) by omega] at H
          rw [pick_run'] at H
          repeat' ((fail_if_success ((with_reducible show PySem.wpAny _ _ (PySem.isTrue _ _ _) _ _ _))); first | (with_reducible refine x_if ?_) | ((with_reducible show wpAny _ _ (storeName _ _ _) _ _ _); with_reducible refine r_store (by with_reducible assumption) (by with_reducible repeat (first | exact SetV.hit | exact SetV.nil | apply SetV.skip (by with_unfolding_all decide))) ?_ (by with_unfolding_all rfl) (by with_unfolding_all rfl); intro _ _))
          clear H
          rename Sy _ _ _ _ _ _ _ _ _ => H
          generalize hbv : List.take hdv (List.drop (X.at_ + 1) ov) = bv at H
          have hbo : IsInts ((octs.drop (X.at_ + 1)).take hdv) bv := by rw [← hbv]; exact Paired.take' (Paired.drop' ho _) _
          have hst : ∀ m, due marks X.met (X.at_ + 1 + hdv) = some m → plainStep c.octs c.marks X k = ⟨X.rows ++ [.code m], X.at_ + 1, X.met + 1⟩ := fun m hm => by
            unfold plainStep; rw [show due c.marks X.met (X.at_ + 1) = none from hd]; dsimp only; rw [show c.octs[X.at_]? = some hdv from hhd]; dsimp only; rw [if_neg hk0, show due c.marks X.met (X.at_ + 1 + hdv) = some m from hm]
          have hst2 : due marks X.met (X.at_ + 1 + hdv) = none → plainStep c.octs c.marks X k = ⟨X.rows ++ [if ((octs.drop (X.at_ + 1)).take hdv).length < hdv then .lack (lackL (if k = 1 then midB else midS) (hdv : Nat) (((octs.drop (X.at_ + 1)).take hdv).length : Nat)) else if k = 1 then .octs ((octs.drop (X.at_ + 1)).take hdv) else .text ((octs.drop (X.at_ + 1)).take hdv)], X.at_ + 1 + ((octs.drop (X.at_ + 1)).take hdv).length, X.met⟩ := fun hm => by
            unfold plainStep; rw [show due c.marks X.met (X.at_ + 1) = none from hd]; dsimp only; rw [show c.octs[X.at_]? = some hdv from hhd]; dsimp only; rw [if_neg hk0, show due c.marks X.met (X.at_ + 1 + hdv) = none from hm]
          have hble : X.at_ + 1 + ((octs.drop (X.at_ + 1)).take hdv).length ≤ octs.length := by rw [List.length_take, List.length_drop]; omega
          have hbby : ∀ b ∈ (octs.drop (X.at_ + 1)).take hdv, b < 256 := fun b hb => hob b (List.mem_of_mem_drop (List.mem_of_mem_take hb))
          have hbl := Paired.length' hbo
          generalize (octs.drop (X.at_ + 1)).take hdv = body at *
          clear hbv
          refine wpAny_mono (Q := fun b s' => b = (due marks X.met (X.at_ + 1 + hdv)).isSome ∧ ∃ t3, Sy base s [] g fr L [(Str.ofString "octets", .ref o), (Str.ofString "marks", .ref m), (Str.ofString "kinds", .ref kl), (Str.ofString "rows", .ref rl), (Str.ofString "at", .int ((X.at_ + 1 : Nat) : Int) t3), (Str.ofString "met", .int (X.met : Nat) t2), (Str.ofString "kind", .int (k : Nat) tk), (Str.ofString "head", .int (hdv : Nat) th), (Str.ofString "body", .ref bd)] [(bd, lst bv 0), (it, io), (rl, lst rv n)] s') ?_ ?_ (fun _ _ e => e)
          · repeat' (first | ((with_reducible show wpAny _ _ (eval (Expr.Name _ _) _) _ _ _); with_reducible refine r_local (by with_reducible assumption) (by with_reducible repeat (first | exact List.mem_cons_self | refine List.mem_cons_of_mem _ ?_)) ?_ (by with_unfolding_all rfl) (by with_unfolding_all rfl) (by with_unfolding_all decide)) | ((with_reducible show wpAny _ _ (eval (Expr.Name _ _) _) _ _ _); refine r_builtin (by with_reducible assumption) (by with_reducible assumption) (by with_reducible assumption) (by k_is) (by boot_by_name) ?_) | (with_reducible refine Call_ ?_ (by with_unfolding_all rfl)) | ((with_reducible show wpAny _ _ (spliced _) _ _ _); with_reducible refine spliced_none ?_) | ((with_reducible show wpAny _ _ (spliced _) _ _ _); with_reducible refine spliced_more ?_ (by with_unfolding_all rfl)) | ((with_reducible show wpAny _ _ (callWith _ _ _ _ _) _ _ _); with_reducible refine PyProof.Rows.callWith_builtin1 ?_ (by with_unfolding_all rfl) (by with_unfolding_all rfl)) | ((with_reducible show wpAny _ _ (isTrue _ _ _) _ _ _); with_reducible refine isTrue_and ?_) | ((with_reducible show wpAny _ _ (isTrue _ _ _) _ _ _); with_reducible refine wpAny_isTrue_Compare1 ?_ (by with_unfolding_all rfl)))
            refine r_len_G (by with_reducible assumption) g2 (by omega) ?_
            clear H
            intro tl s3 H
            repeat' (first | (with_reducible refine lt_int ?_) | (with_reducible refine wpAny_truthy_bool ?_))
            by_cases hlt : X.met < marks.length
            · obtain ⟨⟨mp, mt⟩, hmk⟩ : ∃ q, marks[X.met]? = some q := ⟨_, List.getElem?_eq_getElem hlt⟩
              obtain ⟨_, hmv, am, tm, um, rfl, gam⟩ := Paired.get2' hM hmk
              refine ifT (by simp; omega) ?_
              repeat' (first | ((with_reducible show wpAny _ _ (eval (Expr.Name _ _) _) _ _ _); with_reducible refine r_local (by with_reducible assumption) (by with_reducible repeat (first | exact List.mem_cons_self | refine List.mem_cons_of_mem _ ?_)) ?_ (by with_unfolding_all rfl) (by with_unfolding_all rfl) (by with_unfolding_all decide)) | (with_reducible refine Subscript_ ?_) | ((with_reducible show wpAny _ _ (isTrue _ _ _) _ _ _); with_reducible refine isTrue_and ?_) | ((with_reducible show wpAny _ _ (isTrue _ _ _) _ _ _); with_reducible refine wpAny_isTrue_Compare1 ?_ (by with_unfolding_all rfl)))
              refine r_item_G (by with_reducible assumption) g2 (by omega) (by omega) (by simpa using hmv) ?_
              repeat' ((with_reducible refine r_cint (by with_reducible assumption) ?_; intro _ _ _))
              refine r_item_G (by with_reducible assumption) gam (by decide) (by decide) rfl ?_
              repeat' (first | ((with_reducible show wpAny _ _ (eval (Expr.Name _ _) _) _ _ _); with_reducible refine r_local (by with_reducible assumption) (by with_reducible repeat (first | exact List.mem_cons_self | refine List.mem_cons_of_mem _ ?_)) ?_ (by with_unfolding_all rfl) (by with_unfolding_all rfl) (by with_unfolding_all decide)) | (with_reducible refine wpAny_BinOp ?_) | ((with_reducible show wpAny _ _ (binaryOp _ _ _) _ _ _); with_reducible refine r_add_int (by with_reducible assumption) ?_; intro _ _ _) | (with_reducible refine lt_int ?_) | (with_reducible refine wpAny_truthy_bool ?_))
              clear H
              rename Sy _ _ _ _ _ _ _ _ _ => H
              by_cases hb : mp < X.at_ + 1 + hdv
              · refine ifT (by simp; omega) ?_
                repeat' (((with_reducible show wpAny _ _ (isTrue _ _ _) _ _ _); with_reducible refine isTrue_and_nil ?_))
                exact ⟨by unfold due; rw [hmk]; simp only [if_pos hb]; rfl, _, H⟩
              · refine ifF (by simp; omega) ?_
                repeat' (fail)
                exact ⟨by unfold due; rw [hmk]; simp only [if_neg hb]; rfl, _, H⟩
            · refine ifF (by simp; omega) ?_
              repeat' (fail)
              exact ⟨by unfold due; rw [List.getElem?_eq_none (by omega)]; rfl, _, H⟩
          clear H
          rintro b s3 ⟨rfl, t3, H⟩
          cases hd2 : due marks X.met (X.at_ + 1 + hdv) with
          | some mt =>
            have hst := hst mt hd2
            obtain ⟨mp, hmk, hmp⟩ := due_some hd2
            obtain ⟨_, hmv, am, tm, um, rfl, gam⟩ := Paired.get2' hM hmk
            have hmlt := (List.getElem?_eq_some_iff.mp hmk).1
            refine ifT (show (some mt).isSome = true from rfl) ?_
            repeat' (first | ((with_reducible show wpAny _ _ (eval (Expr.Name _ _) _) _ _ _); with_reducible refine r_local (by with_reducible assumption) (by with_reducible repeat (first | exact List.mem_cons_self | refine List.mem_cons_of_mem _ ?_)) ?_ (by with_unfolding_all rfl) (by with_unfolding_all rfl) (by with_unfolding_all decide)) | (with_reducible refine r_cstr (by with_reducible assumption) ?_; intro _ _ _) | (with_reducible refine MethodCall_ ?_ (by with_unfolding_all rfl)) | (with_reducible refine Subscript_ ?_) | (with_reducible refine List_ ?_) | (with_reducible refine x_expr ?_ (by with_unfolding_all rfl) (by with_unfolding_all rfl)) | ((with_reducible show wpAny _ _ (getMethod _ _ _) _ _ _); with_reducible refine r_meth_list (by with_reducible assumption) (by with_reducible repeat (first | exact List.mem_cons_self | refine List.mem_cons_of_mem _ ?_)) PySem.F.slot_list_append PySem.F.type_list_append ?_) | ((with_reducible show wpAny _ _ (spliced _) _ _ _); with_reducible refine spliced_more ?_ (by with_unfolding_all rfl)) | ((with_reducible show wpAny _ _ (callWith _ _ _ _ _) _ _ _); with_reducible refine callWith_method1 ?_ (by with_unfolding_all rfl) (by with_unfolding_all rfl); dsimp only [List.cons_append, List.nil_append]))
            refine r_item_G (by with_reducible assumption) g2 (by omega) (by omega) (by simpa using hmv) ?_
            repeat' ((with_reducible refine r_cint (by with_reducible assumption) ?_; intro _ _ _))
            refine r_item_G (by with_reducible assumption) gam (by decide) (by decide) rfl ?_
            repeat' (first | ((with_reducible show wpAny _ _ (eval (Expr.Name _ _) _) _ _ _); with_reducible refine r_local (by with_reducible assumption) (by with_reducible repeat (first | exact List.mem_cons_self | refine List.mem_cons_of_mem _ ?_)) ?_ (by with_unfolding_all rfl) (by with_unfolding_all rfl) (by with_unfolding_all decide)) | (with_reducible refine r_cint (by with_reducible assumption) ?_; intro _ _ _) | (with_reducible refine wpAny_BinOp ?_) | (with_reducible refine wpAny_execs_nil ?_) | (with_reducible refine x_assign ?_ (by with_unfolding_all rfl)) | ((with_reducible show wpAny _ _ (binaryOp _ _ _) _ _ _); with_reducible refine r_add_int (by with_reducible assumption) ?_; intro _ _ _) | ((with_reducible show wpAny _ _ (call (Value.builtin "list.append") _ _) _ _ _); with_reducible refine r_append (by with_reducible assumption) (by with_reducible repeat (first | exact SetN.hit | apply SetN.skip)) (by first | omega | (simp only [List.length_append, List.length_cons, List.length_nil]; omega)) ?_; intro _ _) | ((with_reducible show wpAny _ _ (spliced _) _ _ _); with_reducible refine spliced_none ?_) | ((with_reducible show wpAny _ _ (storeName _ _ _) _ _ _); with_reducible refine r_store (by with_reducible assumption) (by with_reducible repeat (first | exact SetV.hit | exact SetV.nil | apply SetV.skip (by with_unfolding_all decide))) ?_ (by with_unfolding_all rfl) (by with_unfolding_all rfl); intro _ _) | ((with_reducible show wpAny _ _ (newList _) _ _ _); refine r_newList (by with_reducible assumption) ?_; intro _ _ _) | (with_reducible refine seq_next ?_))
            clear H
            rename Sy _ _ _ _ _ _ _ _ _ => H
            refine hRn _ ?_
            exact plain_close (c := c) (itp := (it, io)) hall (row := .code mt) (at' := X.at_ + 1) (met' := X.met + 1) (ia := ((X.at_ + 1 : Nat) : Int)) (im := (X.met : Int) + 1) hst ⟨_, _, rfl⟩ halt (by show X.met + 1 ≤ marks.length; omega) rfl (by omega) g1 g2 g3 hM hR hN hrl H (by walk_at "Msub") (by walk_at "Msub")
          | none =>
            have hst2 := hst2 hd2
            refine ifF (show ¬ ((none : Option (List Nat)).isSome = true) from by simp) ?_
            repeat' (first | ((with_reducible show wpAny _ _ (eval (Expr.Name _ _) _) _ _ _); with_reducible refine r_local (by with_reducible assumption) (by with_reducible repeat (first | exact List.mem_cons_self | refine List.mem_cons_of_mem _ ?_)) ?_ (by with_unfolding_all rfl) (by with_unfolding_all rfl) (by with_unfolding_all decide)) | ((with_reducible show wpAny _ _ (eval (Expr.Name _ _) _) _ _ _); refine r_builtin (by with_reducible assumption) (by with_reducible assumption) (by with_reducible assumption) (by k_is) (by boot_by_name) ?_) | (with_reducible refine wpAny_BinOp ?_) | (with_reducible refine Call_ ?_ (by with_unfolding_all rfl)) | (with_reducible refine x_if ?_) | (with_reducible refine x_assign ?_ (by with_unfolding_all rfl)) | ((with_reducible show wpAny _ _ (binaryOp _ _ _) _ _ _); with_reducible refine r_add_int (by with_reducible assumption) ?_; intro _ _ _) | (with_reducible refine lt_int ?_) | ((with_reducible show wpAny _ _ (call (Value.builtin "len") _ _) _ _ _); with_reducible refine r_len_list (by with_reducible assumption) (by with_reducible repeat (first | exact List.mem_cons_self | refine List.mem_cons_of_mem _ ?_)) (by first | omega | (simp only [List.length_append, List.length_cons, List.length_nil]; omega)) ?_; intro _ _ _) | (with_reducible refine wpAny_truthy_bool ?_) | ((with_reducible show wpAny _ _ (spliced _) _ _ _); with_reducible refine spliced_none ?_) | ((with_reducible show wpAny _ _ (spliced _) _ _ _); with_reducible refine spliced_more ?_ (by with_unfolding_all rfl)) | ((with_reducible show wpAny _ _ (callWith _ _ _ _ _) _ _ _); with_reducible refine PyProof.Rows.callWith_builtin1 ?_ (by with_unfolding_all rfl) (by with_unfolding_all rfl)) | ((with_reducible show wpAny _ _ (storeName _ _ _) _ _ _); with_reducible refine r_store (by with_reducible assumption) (by with_reducible repeat (first | exact SetV.hit | exact SetV.nil | apply SetV.skip (by with_unfolding_all decide))) ?_ (by with_unfolding_all rfl) (by with_unfolding_all rfl); intro _ _) | ((with_reducible show wpAny _ _ (isTrue _ _ _) _ _ _); with_reducible refine wpAny_isTrue_Compare1 ?_ (by with_unfolding_all rfl)))
            clear H
            rename Sy _ _ _ _ _ _ _ _ _ => H
            rw [hbl] at H ⊢
            by_cases hbh : body.length < hdv
            · rw [if_pos hbh] at hst2
              refine ifT (by simp; omega) ?_
              repeat' (first | ((with_reducible show wpAny _ _ (eval (Expr.Name _ _) _) _ _ _); with_reducible refine r_local (by with_reducible assumption) (by with_reducible repeat (first | exact List.mem_cons_self | refine List.mem_cons_of_mem _ ?_)) ?_ (by with_unfolding_all rfl) (by with_unfolding_all rfl) (by with_unfolding_all decide)) | (with_reducible refine r_cstr (by with_reducible assumption) ?_; intro _ _ _) | (with_reducible refine wpAny_BinOp ?_) | (with_reducible refine MethodCall_ ?_ (by with_unfolding_all rfl)) | (with_reducible refine Subscript_ ?_) | (with_reducible refine List_ ?_) | (with_reducible refine Tuple_ ?_) | (with_reducible refine x_expr ?_ (by with_unfolding_all rfl) (by with_unfolding_all rfl)) | ((with_reducible show wpAny _ _ (getMethod _ _ _) _ _ _); with_reducible refine r_meth_list (by with_reducible assumption) (by with_reducible repeat (first | exact List.mem_cons_self | refine List.mem_cons_of_mem _ ?_)) PySem.F.slot_list_append PySem.F.type_list_append ?_) | ((with_reducible show wpAny _ _ (spliced _) _ _ _); with_reducible refine spliced_none ?_) | ((with_reducible show wpAny _ _ (spliced _) _ _ _); with_reducible refine spliced_more ?_ (by with_unfolding_all rfl)) | ((with_reducible show wpAny _ _ (callWith _ _ _ _ _) _ _ _); with_reducible refine callWith_method1 ?_ (by with_unfolding_all rfl) (by with_unfolding_all rfl); dsimp only [List.cons_append, List.nil_append]) | ((with_reducible show wpAny _ _ (newList _) _ _ _); refine r_newList (by with_reducible assumption) ?_; intro _ _ _))
              obtain ⟨tw, hkw⟩ := kind_item _ _ _ (show k = 1 ∨ k = 2 by omega)
              refine r_item_list (by with_reducible assumption) (by with_reducible repeat (first | exact List.mem_cons_self | refine List.mem_cons_of_mem _ ?_)) (by omega) (by omega) hkw ?_
              repeat' (first | ((with_reducible show wpAny _ _ (eval (Expr.Name _ _) _) _ _ _); with_reducible refine r_local (by with_reducible assumption) (by with_reducible repeat (first | exact List.mem_cons_self | refine List.mem_cons_of_mem _ ?_)) ?_ (by with_unfolding_all rfl) (by with_unfolding_all rfl) (by with_unfolding_all decide)) | ((with_reducible show wpAny _ _ (eval (Expr.Name _ _) _) _ _ _); refine r_builtin (by with_reducible assumption) (by with_reducible assumption) (by with_reducible assumption) (by k_is) (by boot_by_name) ?_) | (with_reducible refine Call_ ?_ (by with_unfolding_all rfl)) | ((with_reducible show wpAny _ _ (call (Value.builtin "len") _ _) _ _ _); with_reducible refine r_len_list (by with_reducible assumption) (by with_reducible repeat (first | exact List.mem_cons_self | refine List.mem_cons_of_mem _ ?_)) (by first | omega | (simp only [List.length_append, List.length_cons, List.length_nil]; omega)) ?_; intro _ _ _) | ((with_reducible show wpAny _ _ (spliced _) _ _ _); with_reducible refine spliced_none ?_) | ((with_reducible show wpAny _ _ (spliced _) _ _ _); with_reducible refine spliced_more ?_ (by with_unfolding_all rfl)) | ((with_reducible show wpAny _ _ (callWith _ _ _ _ _) _ _ _); with_reducible refine PyProof.Rows.callWith_builtin1 ?_ (by with_unfolding_all rfl) (by with_unfolding_all rfl)) | ((with_reducible show wpAny _ _ (newTuple _) _ _ _); refine r_newTuple (by with_reducible assumption) ?_; intro _ _ _))
              refine r_fmtP (by with_reducible assumption) (by with_reducible repeat (first | exact List.mem_cons_self | refine List.mem_cons_of_mem _ ?_)) (by omega) (by omega) (by omega) (by omega) (by split <;> decide) ?_
              clear H
              intro tF sF H
              repeat' (first | (with_reducible refine wpAny_execs_nil ?_) | ((with_reducible show wpAny _ _ (call (Value.builtin "list.append") _ _) _ _ _); with_reducible refine r_append (by with_reducible assumption) (by with_reducible repeat (first | exact SetN.hit | apply SetN.skip)) (by first | omega | (simp only [List.length_append, List.length_cons, List.length_nil]; omega)) ?_; intro _ _) | ((with_reducible show wpAny _ _ (spliced _) _ _ _); with_reducible refine spliced_none ?_) | ((with_reducible show wpAny _ _ (newList _) _ _ _); refine r_newList (by with_reducible assumption) ?_; intro _ _ _) | (with_reducible refine seq_next ?_))
              clear H
              rename Sy _ _ _ _ _ _ _ _ _ => H
              rw [lack_eq, hbl] at H
              refine hRn _ ?_
              exact plain_close (c := c) (itp := (it, io)) hall (at' := X.at_ + 1 + body.length) (met' := X.met) (ia := ((X.at_ + 1 : Nat) : Int) + (body.length : Int)) (im := (X.met : Int)) hst2 ⟨_, _, rfl⟩ hble hme (by omega) rfl g1 g2 g3 hM hR hN hrl H (by walk_at "Msub") (by walk_at "Msub")
            · rw [if_neg hbh] at hst2
              refine ifF (by simp; omega) ?_
              repeat' (first | ((with_reducible show wpAny _ _ (eval (Expr.Name _ _) _) _ _ _); with_reducible refine r_local (by with_reducible assumption) (by with_reducible repeat (first | exact List.mem_cons_self | refine List.mem_cons_of_mem _ ?_)) ?_ (by with_unfolding_all rfl) (by with_unfolding_all rfl) (by with_unfolding_all decide)) | (with_reducible refine r_cint (by with_reducible assumption) ?_; intro _ _ _) | (with_reducible refine x_if ?_) | (with_reducible refine eq_int ?_) | (with_reducible refine wpAny_truthy_bool ?_) | ((with_reducible show wpAny _ _ (isTrue _ _ _) _ _ _); with_reducible refine wpAny_isTrue_Compare1 ?_ (by with_unfolding_all rfl)))
              by_cases hk1 : k = 1
              · rw [if_pos hk1] at hst2
                refine ifT (by simp [hk1]) ?_
                repeat' (first | ((with_reducible show wpAny _ _ (eval (Expr.Name _ _) _) _ _ _); with_reducible refine r_local (by with_reducible assumption) (by with_reducible repeat (first | exact List.mem_cons_self | refine List.mem_cons_of_mem _ ?_)) ?_ (by with_unfolding_all rfl) (by with_unfolding_all rfl) (by with_unfolding_all decide)) | ((with_reducible show wpAny _ _ (eval (Expr.Name _ _) _) _ _ _); refine r_builtin (by with_reducible assumption) (by with_reducible assumption) (by with_reducible assumption) (by k_is) (by boot_by_name) ?_) | (with_reducible refine r_cstr (by with_reducible assumption) ?_; intro _ _ _) | (with_reducible refine MethodCall_ ?_ (by with_unfolding_all rfl)) | (with_reducible refine Call_ ?_ (by with_unfolding_all rfl)) | (with_reducible refine List_ ?_) | (with_reducible refine x_expr ?_ (by with_unfolding_all rfl) (by with_unfolding_all rfl)) | ((with_reducible show wpAny _ _ (getMethod _ _ _) _ _ _); with_reducible refine r_meth_list (by with_reducible assumption) (by with_reducible repeat (first | exact List.mem_cons_self | refine List.mem_cons_of_mem _ ?_)) PySem.F.slot_list_append PySem.F.type_list_append ?_) | ((with_reducible show wpAny _ _ (spliced _) _ _ _); with_reducible refine spliced_none ?_) | ((with_reducible show wpAny _ _ (spliced _) _ _ _); with_reducible refine spliced_more ?_ (by with_unfolding_all rfl)) | ((with_reducible show wpAny _ _ (callWith _ _ _ _ _) _ _ _); with_reducible refine callWith_method1 ?_ (by with_unfolding_all rfl) (by with_unfolding_all rfl); dsimp only [List.cons_append, List.nil_append]) | ((with_reducible show wpAny _ _ (callWith _ _ _ _ _) _ _ _); with_reducible refine PyProof.Rows.callWith_type1 ?_ (by with_unfolding_all rfl) (by with_unfolding_all rfl)))
                refine r_bytes hh (by with_reducible assumption) (by with_reducible repeat (first | exact List.mem_cons_self | refine List.mem_cons_of_mem _ ?_)) hbo hbby (by omega) ?_
                clear H
                intro tF sF H
                repeat' (first | (with_reducible refine r_cbool ?_) | (with_reducible refine wpAny_execs_nil ?_) | ((with_reducible show wpAny _ _ (call (Value.builtin "list.append") _ _) _ _ _); with_reducible refine r_append (by with_reducible assumption) (by with_reducible repeat (first | exact SetN.hit | apply SetN.skip)) (by first | omega | (simp only [List.length_append, List.length_cons, List.length_nil]; omega)) ?_; intro _ _) | ((with_reducible show wpAny _ _ (spliced _) _ _ _); with_reducible refine spliced_none ?_) | ((with_reducible show wpAny _ _ (spliced _) _ _ _); with_reducible refine spliced_more ?_ (by with_unfolding_all rfl)) | ((with_reducible show wpAny _ _ (newList _) _ _ _); refine r_newList (by with_reducible assumption) ?_; intro _ _ _) | (with_reducible refine seq_next ?_))
                clear H
                rename Sy _ _ _ _ _ _ _ _ _ => H
                refine hRn _ ?_
                exact plain_close (c := c) (itp := (it, io)) hall (at' := X.at_ + 1 + body.length) (met' := X.met) (ia := ((X.at_ + 1 : Nat) : Int) + (body.length : Int)) (im := (X.met : Int)) hst2 ⟨_, _, rfl⟩ hble hme (by omega) rfl g1 g2 g3 hM hR hN hrl H (by walk_at "Msub") (by walk_at "Msub")
              · rw [if_neg hk1] at hst2
                refine ifF (by simp; omega) ?_
                repeat' (first | ((with_reducible show wpAny _ _ (eval (Expr.Name _ _) _) _ _ _); with_reducible refine r_local (by with_reducible assumption) (by with_reducible repeat (first | exact List.mem_cons_self | refine List.mem_cons_of_mem _ ?_)) ?_ (by with_unfolding_all rfl) (by with_unfolding_all rfl) (by with_unfolding_all decide)) | (with_reducible refine r_cstr (by with_reducible assumption) ?_; intro _ _ _) | (with_reducible refine MethodCall_ ?_ (by with_unfolding_all rfl)) | (with_reducible refine List_ ?_) | (with_reducible refine x_expr ?_ (by with_unfolding_all rfl) (by with_unfolding_all rfl)) | ((with_reducible show wpAny _ _ (getMethod _ _ _) _ _ _); with_reducible refine r_meth_list (by with_reducible assumption) (by with_reducible repeat (first | exact List.mem_cons_self | refine List.mem_cons_of_mem _ ?_)) PySem.F.slot_list_append PySem.F.type_list_append ?_) | ((with_reducible show wpAny _ _ (getMethod _ _ _) _ _ _); with_reducible refine GM.join ?_) | ((with_reducible show wpAny _ _ (spliced _) _ _ _); with_reducible refine spliced_more ?_ (by with_unfolding_all rfl)) | ((with_reducible show wpAny _ _ (callWith _ _ _ _ _) _ _ _); with_reducible refine callWith_method1 ?_ (by with_unfolding_all rfl) (by with_unfolding_all rfl); dsimp only [List.cons_append, List.nil_append]))
                refine' r_comp (fun v y => ∃ k u t, v = .int (k : Nat) u ∧ y = .str ⟨#[k]⟩ t) ?c1 ?c2 ?c3 ?c4 ?c5 ?_
                case c1 => exact rfl
                case c2 => decide
                case c3 => rfl
                case c4 => decide
                case c5 => decide
                repeat' (((with_reducible show wpAny _ _ (eval (Expr.Name _ _) _) _ _ _); with_reducible refine r_local (by with_reducible assumption) (by with_reducible repeat (first | exact List.mem_cons_self | refine List.mem_cons_of_mem _ ?_)) ?_ (by with_unfolding_all rfl) (by with_unfolding_all rfl) (by with_unfolding_all decide)))
                clear H
                rename Sy _ _ _ _ _ _ _ _ _ => H
                refine comp_list (items := bv) hh H ⟨_, H.get (by with_reducible repeat (first | exact List.mem_cons_self | refine List.mem_cons_of_mem _ ?_)), rfl, 0, rfl⟩ (by omega) (fun v hv => ?_) ?_
                · obtain ⟨j, hj⟩ := List.getElem?_of_mem hv
                  obtain ⟨q, hq, tq, rfl⟩ := Paired.get' hbo hj
                  exact elt_chr XB TB hnchr rfl (fun C => rfl) (fun C => rfl) (by decide) (hbby q (List.mem_of_getElem? hq))
                clear H
                intro D nD ys s6 hys H
                have hys2 : Paired (fun (k : Nat) y => ∃ t, y = Value.str ⟨#[k]⟩ t) body ys := chr_paired hbo hys
                repeat' (((with_reducible show wpAny _ _ (spliced _) _ _ _); with_reducible refine spliced_none ?_))
                refine r_join (by with_reducible assumption) (by with_reducible repeat (first | exact List.mem_cons_self | refine List.mem_cons_of_mem _ ?_)) hys2 (by omega) ?_
                clear H
                intro tF sF H
                repeat' (first | (with_reducible refine wpAny_execs_nil ?_) | ((with_reducible show wpAny _ _ (call (Value.builtin "list.append") _ _) _ _ _); with_reducible refine r_append (by with_reducible assumption) (by with_reducible repeat (first | exact SetN.hit | apply SetN.skip)) (by first | omega | (simp only [List.length_append, List.length_cons, List.length_nil]; omega)) ?_; intro _ _) | ((with_reducible show wpAny _ _ (spliced _) _ _ _); with_reducible refine spliced_none ?_) | ((with_reducible show wpAny _ _ (newList _) _ _ _); refine r_newList (by with_reducible assumption) ?_; intro _ _ _) | (with_reducible refine seq_next ?_))
                clear H
                rename Sy _ _ _ _ _ _ _ _ _ => H
                refine hRn _ ?_
                exact plain_close (c := c) (itp := (it, io)) hall (at' := X.at_ + 1 + body.length) (met' := X.met) (ia := ((X.at_ + 1 : Nat) : Int) + (body.length : Int)) (im := (X.met : Int)) hst2 ⟨_, _, rfl⟩ hble hme (by omega) rfl g1 g2 g3 hM hR hN hrl H (by walk_at "Msub") (by walk_at "Msub")
  · clear H
    rintro g vars news s' ⟨rv, n, t1, t2, g1, g2, g3, hM, hR, hN, ha, hme, hrl⟩ H
    have hlen : kv.length = kinds.length := Paired.length' hk
    replace hR : RowsAt g (plainAll octs marks (kinds.take kv.length)).rows rv := hR
    rw [hlen, List.take_length] at hR
    replace H : Sy base s [] g fr L [(Str.ofString "octets", .ref o), (Str.ofString "marks", .ref m), (Str.ofString "kinds", .ref kl), (Str.ofString "rows", .ref rl), _, _] [(rl, lst rv n)] s' := H
    repeat' (first | ((with_reducible show wpAny _ _ (eval (Expr.Name _ _) _) _ _ _); with_reducible refine r_local (by with_reducible assumption) (by with_reducible repeat (first | exact List.mem_cons_self | refine List.mem_cons_of_mem _ ?_)) ?_ (by with_unfolding_all rfl) (by with_unfolding_all rfl) (by with_unfolding_all decide)) | (with_reducible refine x_return ?_))
    refine hQ _ _ ?_
    exact h rl rv n s' H.gens H.os H.done (H.led _ List.mem_cons_self).1 (hR.mono H.keep) (H.isNew List.mem_cons_self fun h => nomatch h) hN
end Mine

set_option maxRecDepth 100000
set_option maxHeartbeats 400000
namespace Mine
/-- an exception in hand -/
structure Has1 (e t : Addr) (cls : Value) (vs : List Value) (h : Heap) : Prop where
  obj : ∃ o fs, h.get? e = some o ∧ o.cls = cls ∧ o.data = .fields fs ∧ fs[0]? = some (.ref t)
  tup : h.TupAt t vs
section
variable {prog : Program} {w : World} {M : Model} {A : Around} {E : Value → Shared → Prop} {s s₀ : Shared} {base g : Heap} {Z fr : List Addr} {L : Addr} {vars vars' : List (Str × Value)} {news news₀ ld ld' rest : List (Addr × Obj)} {Q : Value → Shared → Prop} {e t : Addr} {cls : Value} {vs : List Value} {env : Env} {fs : List Env} {K : Frag} {m : Str} {tk : Tok} {C : Addr}

theorem r_cstrH {x : Str} {k : Nat} {pos : Pos} (H : Sy base s₀ Z g fr L vars news s) (h : ∀ t s', s'.heap = s.heap → Sy base s₀ Z g fr L vars news s' → Q (.str x t) s') : wpAny M A (eval (.Constant (.str x) k pos) env) Q E s := Constant_str (h _ _ rfl (H.tk _))
theorem Has1.sameL (x : Has1 e t cls vs s.heap) (H : Sy base s₀ Z g fr L vars news s) {h' : Heap} (hs : Heap.SameBut L s.heap h') : Has1 e t cls vs h' := by
  obtain ⟨m, ⟨oL, es, ep, hL, hdL, _⟩, _⟩ := H.ns
  obtain ⟨⟨o, fs, ho, hc, hd, h0⟩, ⟨ot, n, hot, hct, hdt⟩⟩ := x
  refine ⟨⟨o, fs, (hs.2 e fun q => ?_).trans ho, hc, hd, h0⟩, ⟨ot, n, (hs.2 t fun q => ?_).trans hot, hct, hdt⟩⟩
  · rw [q, hL] at ho; cases ho; rw [hdL] at hd; cases hd
  · rw [q, hL] at hot; cases hot; rw [hdL] at hdt; cases hdt

theorem bexcArgs_own {Q : Value × List Value → Shared → Prop} (x : Has1 e t cls vs s.heap) (hq : Q (.ref t, vs) s) : wpAny M A (Builtin.BaseException.bexcArgs (.ref e)) Q E s := by
  obtain ⟨⟨o, fs, ho, hc, hd, h0⟩, ⟨ot, n, hot, hct, hdt⟩⟩ := x
  unfold Builtin.BaseException.bexcArgs
  refine wpAny_bind (wpAny_field ho hd h0 (wpAny_bind (wpAny_seqItems hot hdt ?_)))
  have : vs.toArray.toList = vs := by simp
  show wpAny M A (pure (Value.ref t, vs.toArray.toList)) Q E s
  rw [this]; exact wpAny_pure hq
open Builtin in
theorem bexcStr_own {Q : Fin → Shared → Prop} (x : Has1 e t cls [.str m tk] s.heap) (hq : Q (.done (.ret (.str m tk))) s) :
    wpAny (model prog w) A (Builtin.«BaseException.__str__» ⟨[.ref e], []⟩) Q E s := by
  unfold Builtin.«BaseException.__str__»
  repeat (first | with_reducible refine bexcArgs_own x ?_ | wp_step)
  exact hq
open Builtin Builtin.Str in
theorem strOf_own (hu : A.units < cLine) (X : K.In s.heap) (hs : findIn K (.ref C) "__str__" = some (some (.builtin "BaseException.__str__"))) (hm : mroIn K C (.type "BaseException") = some true) (x : Has1 e t (.ref C) [.str m tk] s.heap) (hq : Q (.str m tk) s) :
    wpAny (model prog w) A (PySem.Builtin.Str.strOf (.ref e)) Q E s := by
  obtain ⟨o, fs, ho, hc, hd, h0⟩ := x.obj
  have LT : ∀ M : Model, Looks M s.heap (typeOf (.ref e)) (.ref C) := fun M => hc ▸ (Looks.ld ho).andThen .now
  have hcall : wpAny (model prog w) A (callSpecial? (.ref e) (PySem.Str.ofString "__str__") []) (fun r s' => r = some (.str m tk) ∧ s' = s) E s := by
    refine wpAny_bind (wpAny_bind ((LT _).here ((looks_findIn X hs).here (wpAny_holding (wpAny_bind ((Looks.of_pure (PySem.F.excStr_ValueError.str.bind _)).here (wpAny_bind (wpAny_mono ?_ (fun v s' (z : v = .str m tk ∧ s' = s) => wpAny_pure ⟨congrArg some z.1, z.2⟩) fun _ _ z => z))))))))
    exact wpAny_call (codeAny_call_builtin PySem.F.excStr_ValueError.str.plain PySem.F.entry_bexc_str (check_slot (i := "BaseException.__str__") (owner := "BaseException") (n := "__str__") (by decide +kernel) (by decide +kernel) ((LT _).andThen (looks_mroIn X hm)) (PySem.F.args_bexc_str _) (bexcStr_own x ⟨rfl, rfl⟩)))
  unfold PySem.Builtin.Str.strOf
  rw [show isExactStr (.ref e) = false from rfl]
  repeat (first | with_reducible refine wpAny_cRoomFor hu ?_ | with_reducible refine wpAny_bind (wpAny_mono hcall (fun r s' z => ?_) fun _ _ z => z) | wp_step)
  obtain ⟨rfl, rfl⟩ := z
  repeat (first | wp_step)
  exact hq
open Builtin Builtin.Str in
theorem r_str_own (X : K.In s.heap) (hs : findIn K (.ref C) "__str__" = some (some (.builtin "BaseException.__str__"))) (hm : mroIn K C (.type "BaseException") = some true) (x : Has1 e t (.ref C) [.str m tk] s.heap) (hu : A.units + 2 < cLine) (h : Q (.str m tk) s) :
    wpAny (model prog w) A (call (.type "str") [.ref e]) Q E s :=
  callType_new PySem.F.called_str (by decide) (PySem.F.typeCall_str_1 _) (PySem.F.newCall_str_1 _) (fun obj => PySem.F.args_object_init_2 obj _) PySem.F.entry_str_new
    (meets_str_new (S := fun A' R s' => A'.units + 1 < cLine ∧ K.In s'.heap ∧ Has1 e t (.ref C) [.str m tk] s'.heap ∧ R (.ok (.ret (.str m tk))) s')
      fun _ _ A' _ _ hq => strOf_own (A := A'.in1) hq.1 hq.2.1 hs hm hq.2.2.1 hq.2.2.2)
    ⟨(show A.units + 1 + 1 < cLine from hu), X, x, typeIs_str _ _ _, h⟩
theorem r_str_VE (x : Has1 e t (.type "ValueError") [.str m tk] s.heap) (hu : A.units + 2 < cLine) (h : Q (.str m tk) s) : wpAny (model prog w) A (call (.type "str") [.ref e]) Q E s :=
  P.str_of_exc_one PySem.F.excStr_ValueError hu (by obtain ⟨o, fs, h⟩ := x.obj; exact ⟨o, fs, h⟩) x.tup h
end
end Mine

set_option maxRecDepth 100000
set_option maxHeartbeats 400000
namespace Mine
/-- an exception that a call has let out, seen from the frame above -/
noncomputable def Fly (S : List Addr) (l : List Env) (fr : List Addr) (h0 : Heap) (e t : Addr) (cls : Value) (vs : List Value) (ld : List (Addr × Obj)) (h : Heap) : Prop :=
  ∃ B, (∀ b o, h0.get? b = some o → b ∉ S → b ∉ fr → B.get? b = some o) ∧ Has B ld ∧ Heap.FlyingW B l e cls (.ref t) h ∧ h.TupAt t vs ∧
    ∀ b ∈ fr, ∀ o, h0.get? b = some o → (∀ vs, o.data ≠ .fields vs) → ∃ sl, h.get? b = some { o with slots := sl }
theorem Fly.up {S : List Addr} {l : List Env} {fr : List Addr} {h0 : Heap} {e t : Addr} {cls : Value} {vs : List Value} {ld : List (Addr × Obj)} {h h' : Heap} (x : Fly S l fr h0 e t cls vs ld h)
    (u : h.UpToSlots h') (hf : ∀ B, Heap.FlyingW B l e cls (.ref t) h → Heap.FlyingW B l e cls (.ref t) h') : Fly S l fr h0 e t cls vs ld h' := by
  obtain ⟨B, h1, h2, h3, h4, h5⟩ := x
  refine ⟨B, h1, h2, hf B h3, h4.of_slots u, fun b hb o e hd => ?_⟩
  obtain ⟨sl, q⟩ := h5 b hb o e hd
  obtain ⟨sl', q'⟩ := u b _ q hd
  exact ⟨sl', q'⟩
theorem Fly.has1 {S : List Addr} {l : List Env} {fr : List Addr} {h0 : Heap} {e t : Addr} {cls : Value} {vs : List Value} {ld : List (Addr × Obj)} {h : Heap} (x : Fly S l fr h0 e t cls vs ld h) : Has1 e t cls vs h := by
  obtain ⟨B, h1, h2, h3, h4, h5⟩ := x
  obtain ⟨oe, ws, hoe, hoec, hoed, hoe0⟩ := h3.first
  exact ⟨⟨oe, ws, hoe, hoec, hoed, hoe0⟩, h4⟩
section
variable {prog : Program} {w : World} {M : Model} {A : Around} {E : Value → Shared → Prop} {s s' s₀ : Shared} {base g : Heap} {Z S fr : List Addr} {L a : Addr} {vars vars' : List (Str × Value)} {news news₀ ld ld' rest : List (Addr × Obj)} {Q : Flow → Shared → Prop} {e t : Addr} {cls : Value} {vs : List Value} {env : Env} {fs : List Env} {K : Frag} {m : Str} {tk : Tok} {C : Addr}
  {cn : Str} {cs : Scope} {ccd : Value} {p : Program} {loose : List Str} {mean : ExcName → Option Value} {mg mb : Str → Option Value} {hs more : List ExceptHandler} {x n : Str} {np pos : Pos} {b₀ : Stmt} {suite : List Stmt}

theorem Fly.sy (x : Fly S (env :: fs) (L :: fr) s.heap e t cls vs ld' s'.heap) (H : Sy base s₀ Z g fr L vars (ld ++ rest) s) (e1 : ld.map (·.1) = S) (e2 : ld'.map (·.1) = S) (hg : s'.gens = s.gens) (ho : s'.os = s.os) : Sy base s₀ Z g fr L vars (ld' ++ rest) s' := by
  obtain ⟨B, h1, h2, h3, h4, h5⟩ := x
  refine H.swap e1 e2 (fun b o q hb => ?_) hg ho fun p hp => h3.1 _ _ (h2 p hp)
  by_cases hf : b ∈ L :: fr
  · obtain ⟨_, o', ho', hd⟩ := H.frEnv b hf
    rw [q] at ho'; cases ho'
    exact ⟨fun z => absurd hf z, h5 b hf o q hd⟩
  · have := h3.1 _ _ (h1 b o q hb hf)
    exact ⟨fun _ => this, o.slots, this⟩

/-- it lands in the frame -/
theorem land (P : Pre base A fs fr news₀ s₀) (hfe : env.frame = some L) (hx : Flown S (env :: fs) (L :: fr) s.heap e cls vs ld' s'.heap)
    (h : ∀ t s₃, s₃.gens = s'.gens → s₃.os = s'.os → Fly S (env :: fs) (L :: fr) s.heap e t cls vs ld' s₃.heap → wpAny M (A.deeper env) (handleBy (.ref e) env hs) Q E s₃) :
    wpAny M (A.deeper env) (noteFrame (.ref e) env) (fun _ s₂ => wpAny M (A.deeper env) (setFlight (.ref e) none) (fun _ s₃ => wpAny M (A.deeper env) (handleBy (.ref e) env hs) Q E s₃) E s₂) E s' := by
  obtain ⟨B, t, h1, h2, h3, h4, h5, h6⟩ := hx
  refine wpAny_looks_onW (Around.frames_deeper P.hf) hfe h3 fun h₄ hheld hsm => ?_
  refine wpAny_landsW hheld fun h₅ hfl hsm' => ?_
  refine h t _ rfl rfl ⟨B, h1, h2, hfl, (h5.of_slots hsm).of_slots hsm', fun b hb o q hd => ?_⟩
  obtain ⟨sl, q1⟩ := h6 b hb o q hd
  obtain ⟨sl', q2⟩ := (hsm.trans hsm') b _ q1 hd
  exact ⟨sl', q2⟩

theorem Fly.type (x : Fly S (env :: fs) fr s.heap e t cls vs ld' s'.heap) : Looks M s'.heap (typeOf (.ref e)) cls := by
  obtain ⟨o, _, ho, hc, _⟩ := x.has1.obj
  exact hc ▸ (Looks.ld ho).andThen .now

theorem Sy.goes (H : Sy base s₀ Z g fr L vars news s) {v : Option Value} {h' : Heap} {k : Nat} {m : Str → Option Value} (hm : s.heap.Ns L m) (hn : h'.Ns L fun y => if y = n then v else m y) (hs : Heap.SameBut L s.heap h') (hsub : vars'.Sublist vars) (hne : n ∉ vars'.map (·.1)) :
    Sy base s₀ Z g fr L vars' news { s with heap := h', toks := k } := by
  have H := H.vsub hsub
  obtain ⟨m', hm', hv⟩ := H.ns
  obtain rfl : m = m' := hm.eq_nsMap.trans hm'.eq_nsMap.symm
  refine ⟨H.gens, H.os, ⟨_, hn, fun p hp => ?_⟩, H.vd, fun b o e => ?_, H.off, fun p hp => ?_, H.nd, fun b hb o e => ?_, H.nL, H.fr0, H.gb, H.gs⟩
  · have : p.1 ≠ n := fun q => hne (q ▸ List.mem_map_of_mem hp)
    simp only [if_neg this]; exact hv p hp
  · refine (hs.2 b fun q => ?_).trans (H.keep b o e)
    rw [q, H.off L (.head _)] at e; cases e
  · exact ⟨(hs.2 _ fun q => (H.led p hp).2.1 (q ▸ .head _)).trans (H.led p hp).1, (H.led p hp).2⟩
  · obtain ⟨sl, e'⟩ := H.up b hb o e
    exact ⟨sl, (hs.2 b fun q => H.nL (q ▸ hb)).trans e'⟩

/-- a clause that does not fit -/
theorem pass_own (H : Sy base s₀ Z g fr L vars news s') (XB : K.In base) (TB : Top p loose mean mg mb base) (x : Fly S (env :: fs) (L :: fr) s.heap e t cls vs ld' s'.heap) {y : Str} {c : Value} (hn : nsIn K mainGlobals y = some (some c)) (hm : exmOne K cls c = some false)
    (h : wpAny (model prog w) A (handleBy (.ref e) (envX cn cs L a ccd []) more) Q E s')
    (hk : cs.kind = .function := by rfl) (hx : (envX cn cs L a ccd []).kindOf y = some .globalImplicit := by rfl) (hd : (y == ("__debug__" : Str)) = false := by decide) :
    wpAny (model prog w) A (handleBy (.ref e) (envX cn cs L a ccd []) (.ExceptHandler (some (.Name y np)) (some n) (b₀ :: suite) pos :: more)) Q E s' := by
  refine wpAny_handleBy_cons (codeAny_handlers_test (r_global H XB TB hn ?_ hk hx hd)) (by intro q; cases q)
  exact (exm_one (XB.keeps H.stays) x.type hm).here h
theorem fit_own (P : Pre base A fs fr news₀ s₀) (H : Sy base s₀ Z g fr L vars (ld ++ rest) s) (e1 : ld.map (·.1) = S) (e2 : ld'.map (·.1) = S) (hg : s'.gens = s.gens) (ho : s'.os = s.os) (x : Fly S (envX cn cs L a ccd [] :: fs) (L :: fr) s.heap e t cls vs ld' s'.heap)
    {tst : Expr} {c : Value} (htest : ∀ (E' : Value → Shared → Prop) (Q' : Value → Shared → Prop), Q' c s' → wpAny (model prog w) ((A.deeper (envX cn cs L a ccd [])).mark (some (.ref e))) (eval tst (envX cn cs L a ccd [])) Q' E' s') (XB : K.In base) (hm : exmOne K cls c = some true) (V : SetV n (.ref e) vars vars')
    (h : ∀ s₄ E', s₄.gens = s.gens → s₄.os = s.os → Sy base s₀ Z g fr L vars' (ld' ++ rest) s₄ → Has1 e t cls vs s₄.heap →
      wpAny (model prog w) ((A.deeper (envX cn cs L a ccd [])).mark (some (.ref e))) (execs (b₀ :: suite) (envX cn cs L a ccd []))
        (fun f s₅ => ∃ g₂ v₂ v₃ n₂, Sy base s₀ Z g₂ fr L v₂ n₂ s₅ ∧ v₃.Sublist v₂ ∧ n ∉ v₃.map (·.1) ∧ ∀ s₆, Sy base s₀ Z g₂ fr L v₃ n₂ s₆ → Q f s₆) E' s₄)
    (hk : cs.kind = .function := by rfl) (hlo : (envX cn cs L a ccd []).kindOf n = some .local := by rfl) :
    wpAny (model prog w) (A.deeper (envX cn cs L a ccd [])) (handleBy (.ref e) (envX cn cs L a ccd []) (.ExceptHandler (some tst) (some n) (b₀ :: suite) pos :: more)) Q E s' := by
  have H' := x.sy H e1 e2 hg ho
  have hp : ((envX cn cs L a ccd []).scope.kind == .class || ((envX cn cs L a ccd []).scope.kind == .module && (envX cn cs L a ccd []).locals != (envX cn cs L a ccd []).globals)) = false := by
    show (cs.kind == .class || (cs.kind == .module && L != mainGlobals)) = false; rw [hk]; rfl
  refine wpAny_handleBy_cons (codeAny_handlers_test (htest _ _ ?_)) (by intro q; cases q)
  refine (exm_one (XB.keeps H'.stays) x.type hm).here (codeAny_handlers_suite_as ?_)
  obtain ⟨B, x1, x2, x3, x4, x5⟩ := x
  refine lands_againW x3 fun h₆ hfl hsm => ?_
  have x' : Fly S (envX cn cs L a ccd [] :: fs) (L :: fr) s.heap e t cls vs ld' h₆ := ⟨B, x1, x2, hfl, x4.of_slots hsm, fun b hb o q hd => by
    obtain ⟨sl, q1⟩ := x5 b hb o q hd
    obtain ⟨sl', q2⟩ := hsm b _ q1 hd
    exact ⟨sl', q2⟩⟩
  have H6 : Sy base s₀ Z g fr L vars (ld' ++ rest) { s' with heap := h₆ } := Fly.sy (s' := { s' with heap := h₆ }) x' H e1 e2 hg ho
  obtain ⟨m, hmn, hmv⟩ := H6.ns
  refine wpAny_storeName_local hlo hmn (fun h' hn hs => ?_) hp
  refine wpAny_mono (h _ _ hg ho (H6.store (k := _) hmn hn hs V) (Has1.sameL (s := { s' with heap := h₆ }) x'.has1 H6 hs)) (fun f s₅ q => ?_) fun _ _ z => z
  obtain ⟨g₂, v₂, v₃, n₂, H5, hsub, hne, hq⟩ := q
  obtain ⟨m5, hm5, _⟩ := H5.ns
  refine wpAny_nameGoes_keeps hlo hm5 hp fun h'' v hn'' hs'' => ?_
  exact hq _ (H5.goes hm5 hn'' hs'' hsub hne)
theorem x_try {body rest : List Stmt} {h₀ : ExceptHandler}
    (h : wpAny (model prog w) A (execs body env) (Seq (model prog w) A env [] (Seq (model prog w) A env rest Q E) E)
      (fun e s₁ => wpAny (model prog w) A (noteFrame e env) (fun _ s₂ => wpAny (model prog w) A (setFlight e none) (fun _ s₃ => wpAny (model prog w) A (handleBy e env (h₀ :: more)) (Seq (model prog w) A env rest Q E) E s₃) E s₂) E s₁) s) :
    wpAny (model prog w) A (execs (.Try body (h₀ :: more) [] [] pos :: rest) env) Q E s := x_cons (wpAny_Try_except h)
end
end Mine

set_option maxRecDepth 100000
set_option maxHeartbeats 400000
namespace Mine
section
variable {prog : Program} {w : World} {A : Around} {E : Value → Shared → Prop} {s s₀ : Shared} {base g : Heap} {Z fr : List Addr} {L : Addr} {vars : List (Str × Value)} {news : List (Addr × Obj)} {env : Env}
theorem draw_list {it l : Addr} {items : Array Value} (hne : l ≠ it) : ∀ (n i : Nat) (s : Shared) (Q : List Value → Shared → Prop), s.heap.IsListIter it l i → s.heap.IsList l items → i + n ≤ items.size →
    (∀ h', h'.IsListIter it l (i + n) → Heap.SameBut it s.heap h' → Q ((items.toList.drop i).take n) { s with heap := h' }) → wpAny (model prog w) A (draw (.ref it) n) Q E s
  | 0, i, s, Q, hit, _, _, hQ => by
    show wpAny _ _ (pure []) Q E s
    exact wpAny_pure (by simpa using hQ s.heap hit (Heap.SameBut.refl ..))
  | n + 1, i, s, Q, hit, ht, hle, hQ => by
    have hlt : i < items.size := by omega
    show wpAny _ _ (pyNext (.ref it) >>= _) Q E s
    refine wpAny_bind (wpAny_pyNext_list_item hit ht (x := items[i]) (by simp [hlt]) fun h₁ hit₁ hs₁ => ?_)
    refine wpAny_bind (wpAny_holding (draw_list hne n (i + 1) _ _ hit₁ (ht.at fun o e => (hs₁.2 l hne).trans e) (by omega) fun h₂ hit₂ hs₂ => wpAny_pure ?_))
    have hd : items.toList.drop i = items[i] :: items.toList.drop (i + 1) := by simp [List.drop_eq_getElem_cons, hlt]
    have := hQ h₂ (by rw [show i + (n + 1) = i + 1 + n by omega]; exact hit₂) (hs₁.trans hs₂)
    rw [hd, List.take_succ_cons] at this
    exact this
theorem unpackItems_list {l : Addr} {items : Array Value} {Q : List Value → Shared → Prop} (hh : A.handled = none) (ht : s.heap.IsList l items)
    (hQ : ∀ h', Heap.ExtBut s.heap.objs.size s.heap h' → Q items.toList { s with heap := h' }) : wpAny (model prog w) A (unpackItems (.ref l) items.size none) Q E s := by
  have hlt : l ≠ s.heap.objs.size := by obtain ⟨o, ho, _⟩ := ht; exact Nat.ne_of_lt (Heap.lt_size ho)
  unfold unpackItems
  refine wpAny_bind ?_
  · unfold notIterableAtAll
    refine wpAny_bind (wpAny_specialOf ht.typeIs slot_list_iter.lookup ?_)
    refine wpAny_pure ?_
    simp only [Bool.false_eq_true, if_false]
    refine wpAny_bind (wpAny_holding (wpAny_pyIter_list ht ?_))
    refine wpAny_bind (wpAny_holding (draw_list hlt items.size 0 _ _ ⟨_, Heap.get?_push_size _ rfl, rfl, rfl⟩ (ht.at fun o e => Heap.get?_push_of_some _ e) (by omega) fun h₁ hit₁ hs₁ => ?_))
    have hall : List.take items.size (List.drop 0 items.toList) = items.toList := by
      rw [List.drop_zero]; exact List.take_of_length_le (by simp)
    rw [hall]
    rw [if_neg (by simp)]
    have ht₁ : h₁.IsList l items := ht.at fun o e => (hs₁.2 l hlt).trans (Heap.get?_push_of_some _ e)
    refine wpAny_bind (wpAny_holding (wpAny_pyNext_list_end hh hit₁ ht₁ (by simp) fun h₂ he₂ => ?_))
    simp only [Option.isSome_none, Bool.false_eq_true, if_false]
    refine wpAny_pure (hQ h₂ fun b o hb e => he₂ b o hb (hs₁.extBut b o hb (Heap.get?_push_of_some _ e)))
theorem x_unpack {elts : List Expr} {k} {tpos pos : Pos} {value : Expr} {rest : List Stmt} {Q : Flow → Shared → Prop}
    (h : wpAny (model prog w) A (eval value env) (fun v s₁ => wpAny (model prog w) A (assign (.Tuple elts k tpos) env v) (fun _ s₂ => wpAny (model prog w) A (execs rest env) Q E s₂) E s₁) E s)
    (hs : swapsWithSole [.Tuple elts k tpos] value pos.line env = pure false := by rfl) (hw : swappedStores [.Tuple elts k tpos] value env = pure none := by rfl) :
    wpAny (model prog w) A (execs (.Assign [.Tuple elts k tpos] value pos :: rest) env) Q E s := x_cons (Assign_Tuple (Q := Seq (model prog w) A env rest Q E) h hs hw)
theorem r_unpack {elts : List Expr} {k} {pos : Pos} {l : Addr} {vs : List Value} {Q : Unit → Shared → Prop} (hh : A.handled = none) (H : Sy base s₀ Z g fr L vars news s) (hl : s.heap.IsList l vs.toArray)
    (hn : (assignEach elts env).length = vs.length) (hstar : (assignEach elts env).findIdx? (·.1) = none)
    (h : ∀ s', Sy base s₀ Z g fr L vars news s' → wpAny (model prog w) A (assignInOrder ((assignEach elts env).map (·.2)) vs) Q E s') :
    wpAny (model prog w) A (assign (.Tuple elts k pos) env (.ref l)) Q E s := by
  rw [assign_Tuple]
  refine wpAny_bind (wpAny_standAt ?_)
  unfold unpack
  rw [hstar, show (assignEach elts env).length = vs.toArray.size by rw [hn, List.size_toArray]]
  refine wpAny_bind (wpAny_holding (unpackItems_list hh hl fun h' he => ?_))
  have := h { s with heap := h' } (H.grown (k := s.toks) fun b o e => he b o (fun q => absurd (Heap.lt_size e) (by rw [q]; exact Nat.lt_irrefl _)) e)
  simpa using this
theorem sub_bytes_bytes : isSubtype (.type "bytes") (.type "bytes") = pure true := by rw [isSubtype_type]; kernel_rfl
theorem r_isbytes {b : Array UInt8} {t : Tok} {Q : Value → Shared → Prop} (h : Q (.bool true) s) : wpAny (model prog w) A (call (.builtin "isinstance") [.bytes b t, .type "bytes"]) Q E s :=
  call_isinstance (isinstance_true (Tx := "bytes") (by kernel_rfl) sub_bytes_bytes) ⟨typeIs_bytes _ _ _, h⟩
end
-- equality of rows
section
open PySem.SeqAt
variable {prog : Program} {w : World} {A : Around} {E : Value → Shared → Prop} {s : Shared}
theorem all_range_true (n : Nat) : (List.range n).all (fun _ => true) = true := by simp
theorem eqAt_bytes (b : Array UInt8) (t u : Tok) : EqAt A s (.bytes b t) (.bytes b u) true := fun _ _ _ _ h => eqBool_bytes (by simpa using h)
theorem eqAt_str (x : Str) (t u : Tok) : EqAt A s (.str x t) (.str x u) true := fun _ _ _ _ h => eqBool_str (by simpa using h)
theorem eqAt_int (x : Int) (t u : Tok) : EqAt A s (.int x t) (.int x u) true := fun _ _ _ _ h => wpAny_eqBool_int (by simpa using h)
/-- item by item -/
noncomputable def EqAll (A : Around) (s : Shared) (vs us : List Value) : Prop := vs.length = us.length ∧ ∀ (j : Nat) (x y : Value), vs[j]? = some x → us[j]? = some y → EqAt A s x y true
theorem EqAll.nil : EqAll A s [] [] := ⟨rfl, fun _ _ _ h => by simp at h⟩
theorem EqAll.cons {v u : Value} {vs us : List Value} (h : EqAt A s v u true) (r : EqAll A s vs us) : EqAll A s (v :: vs) (u :: us) := ⟨by simp [r.1], fun j x y h1 h2 => by
  cases j with
  | zero => simp at h1 h2; subst h1 h2; exact h
  | succ j => simp at h1 h2; exact r.2 j x y h1 h2⟩
theorem rc_lists {l b : Addr} {vs us : List Value} (hl : s.heap.IsList l vs.toArray) (hb : s.heap.IsList b us.toArray) (hu : A.units < cLine) (he : EqAll A.in1 s vs us) : RcAt A s (.ref l) (.ref b) true := by
  have := RcAt.lists (e := fun _ => true) hl hb (by simp [he.1]) hu fun j h1 h2 => by
    simp only [List.size_toArray] at h1 h2
    exact he.2 j _ _ (by rw [List.getElem?_eq_getElem h1]; simp) (by rw [List.getElem?_eq_getElem h2]; simp)
  rwa [all_range_true] at this
theorem eqAt_row {r : Row} {v u : Value} (h1 : RowAt s.heap r v) (h2 : RowAt s.heap r u) (hu : A.units + 1 < cLine) : EqAt A s v u true := by
  obtain ⟨a, vs, rfl, ga, ha⟩ := h1
  obtain ⟨b, us, rfl, gb, hb⟩ := h2
  by_cases hab : a = b
  · subst hab; exact EqAt.same _
  · refine EqAt.of_refs hab (rc_lists ⟨_, ga, rfl, 0, rfl⟩ ⟨_, gb, rfl, 0, rfl⟩ (by omega) ?_)
    cases r <;> obtain ⟨t, u, rfl⟩ := ha <;> obtain ⟨t', u', rfl⟩ := hb
    · exact .cons (eqAt_str _ _ _) (.cons (eqAt_int _ _ _) .nil)
    · exact .cons (eqAt_str _ _ _) (.cons (eqAt_bytes _ _ _) (.cons (EqAt.same _) .nil))
    · exact .cons (eqAt_str _ _ _) (.cons (eqAt_str _ _ _) .nil)
    · exact .cons (eqAt_str _ _ _) (.cons (eqAt_str _ _ _) .nil)
    · exact .cons (eqAt_str _ _ _) (.cons (eqAt_str _ _ _) .nil)
    · exact .cons (eqAt_str _ _ _) (.cons (eqAt_int _ _ _) .nil)
theorem eqAll_rows (hu : A.units + 1 < cLine) : ∀ {rows : List Row} {vs us : List Value}, RowsAt s.heap rows vs → RowsAt s.heap rows us → EqAll A s vs us
  | [], _, _, .nil, .nil => .nil
  | _ :: _, _, _, .cons h r, .cons h' r' => .cons (eqAt_row h h' hu) (eqAll_rows hu r r')
theorem r_eq_rows {l b : Addr} {rows : List Row} {vs us : List Value} {n n2 : Nat} {Q : Value → Shared → Prop} (hl : s.heap.get? l = some (lst vs n)) (hb : s.heap.get? b = some (lst us n2)) (h1 : RowsAt s.heap rows vs) (h2 : RowsAt s.heap rows us) (hu : A.units + 2 < cLine) (h : Q (.bool true) s) :
    wpAny (model prog w) A (compareOp .Eq (.ref l) (.ref b)) Q E s :=
  rc_lists ⟨_, hl, rfl, n, rfl⟩ ⟨_, hb, rfl, n2, rfl⟩ (by omega) (eqAll_rows (A := A.in1) (show A.units + 1 + 1 < cLine by omega) h1 h2) prog w E Q h
end
end Mine

set_option maxRecDepth 100000
set_option maxHeartbeats 400000
namespace Mine
theorem toldAll_snoc {x : Inn} {kinds : List Nat} {i k : Nat} (h : kinds[i]? = some k) : toldAll x (kinds.take (i + 1)) = toldStep (toldAll x (kinds.take i)) k := by
  rw [take_get h, toldAll, List.foldl_append]; rfl
section
variable {base : Heap} {s₀ : Shared} {g : Heap} {Z fr : List Addr} {L : Addr} {vars : List (Str × Value)} {news news₀ : List (Addr × Obj)} {s sA : Shared}
theorem Sy.adoptN (H₀ : Sy base s₀ Z g fr L vars news₀ sA) (H : Sy base s₀ Z g fr L vars news s) {c : Addr} {o : Obj} (hnew : c ∉ news.map (·.1)) (h0 : sA.heap.get? c = none) (hc : s.heap.get? c = some o) : Sy base s₀ Z g fr L vars ((c, o) :: news) s := by
  have ne : ∀ b o', sA.heap.get? b = some o' → c ≠ b := fun b o' q z => by rw [← z, h0] at q; cases q
  refine ⟨H.gens, H.os, H.ns, H.vd, H.keep, H.off, fun p hp => ?_, ?_, H.up, H.nL, H.fr0, H.gb, H.gs⟩
  · rcases List.mem_cons.mp hp with rfl | hp
    · refine ⟨hc, fun q => ?_, ?_⟩
      · obtain ⟨_, o', ho', _⟩ := H₀.frEnv _ q
        exact ne _ _ ho' rfl
      · cases q : g.get? c with
        | none => rfl
        | some o' => exact absurd rfl (ne _ _ (H₀.keep _ _ q))
    · exact H.led p hp
  · rw [List.map_cons, List.nodup_cons]
    exact ⟨hnew, H.nd⟩
end
structure ToC where
  ex : List (Addr × Obj)
  l : List Nat
  tail : List Nat
  pl : Addr
  kp : Addr
  en : Addr
  kl : Addr
  rl : Addr
  xo : Addr
  xi : Addr
  kv : List Value
  nk : Nat
  t : Tok
  kinds : List Nat
  x0 : Inn
noncomputable abbrev toVars (c : ToC) : List (Str × Value) := [(Str.ofString "written", .bytes (B c.l) c.t), (Str.ofString "kinds", .ref c.kl), (Str.ofString "outer", .ref c.xo), (Str.ofString "place", .ref c.pl), (Str.ofString "inner", .ref c.xi), (Str.ofString "rows", .ref c.rl)]
/-- what holds of told's loop before turn i -/
noncomputable def ToldI (c : ToC) (i : Nat) (g : Heap) (vars : List (Str × Value)) (news : List (Addr × Obj)) : Prop :=
  ∃ ld rv n, vars = toVars c ∧ news = ld ++ [(c.rl, lst rv n)] ∧ okI c.l c.tail c.pl c.kp c.en (toldAll c.x0 (c.kinds.take i)).2 ld ∧ Has g c.ex ∧ g.get? c.kl = some (lst c.kv c.nk) ∧ RowsAt g (toldAll c.x0 (c.kinds.take i)).1 rv ∧ rv.length ≤ i
theorem told_close {c : ToC} {s s' : Shared} {i k : Nat} {X : List Row × Inn} {y' : Inn} {base g : Heap} {Z fr : List Addr} {L r : Addr} {row : Row} {vals rv : List Value} {n : Nat} {vars : List (Str × Value)} {rest ld : List (Addr × Obj)} {itp : Addr × Obj}
    (hall : toldAll c.x0 (c.kinds.take (i + 1)) = toldStep X k) (hst : toldStep X k = (X.1 ++ [row], y')) (hok : okI c.l c.tail c.pl c.kp c.en y' ld) (hrow : row.vals vals) (hf : Has g c.ex) (hk : g.get? c.kl = some (lst c.kv c.nk)) (hR : RowsAt g X.1 rv) (hl : rv.length ≤ i)
    (H : Sy base s Z g fr L vars ((r, lst vals 0) :: rest) s') (hv : (toVars c).Sublist vars) (hn : (ld ++ [itp, (c.rl, lst (rv ++ [.ref r]) (n + 1))]).Sublist rest) :
    ∃ g' vars' news', ToldI c (i + 1) g' vars' news' ∧ Sy base s Z g' fr L vars' (itp :: news') s' := by
  obtain ⟨g', H', hr, mono⟩ := (H.vsub hv).freezeH hn
  refine ⟨g', _, ld ++ [(c.rl, lst (rv ++ [.ref r]) (n + 1))], ⟨ld, rv ++ [.ref r], n + 1, rfl, rfl, ?_, fun p hp => mono _ _ (hf p hp), mono _ _ hk, ?_, ?_⟩, H'.perm ?_⟩
  · rw [hall, hst]; exact hok
  · rw [hall, hst]
    exact Paired.app (hR.mono mono) (Paired.one' ⟨r, vals, rfl, hr, hrow⟩)
  · rw [List.length_append, List.length_singleton]; omega
  · exact List.perm_middle.symm
/-- a try whose body lets out only what is said -/
theorem x_try2 {prog : Program} {w : World} {A : Around} {E : Value → Shared → Prop} {s : Shared} {env : Env} {pos : Pos} {Q : Flow → Shared → Prop} {body rest : List Stmt} {h₀ : ExceptHandler} {more : List ExceptHandler} (E1 : Env → Value → Shared → Prop)
    (h : wpAny (model prog w) A (execs body env) (Seq (model prog w) A env [] (Seq (model prog w) A env rest Q E) E) (E1 env) s)
    (hE : ∀ e s₁, E1 env e s₁ → wpAny (model prog w) A (noteFrame e env) (fun _ s₂ => wpAny (model prog w) A (setFlight e none) (fun _ s₃ => wpAny (model prog w) A (handleBy e env (h₀ :: more)) (Seq (model prog w) A env rest Q E) E s₃) E s₂) E s₁) :
    wpAny (model prog w) A (execs (.Try body (h₀ :: more) [] [] pos :: rest) env) Q E s := x_try (wpAny_mono h (fun _ _ x => x) hE)
/-- the same, what is let out and what comes next under names of their own -/
theorem x_try3 {prog : Program} {w : World} {A : Around} {E : Value → Shared → Prop} {s : Shared} {env : Env} {pos : Pos} {Q : Flow → Shared → Prop} {body : List Stmt} {h₀ : ExceptHandler} {more : List ExceptHandler} (E1 : Env → Value → Shared → Prop)
    (h : ∀ E' : Value → Shared → Prop, (∀ e s, E1 env e s → E' e s) → ∀ R : Flow → Shared → Prop, (∀ s, Q .next s → R .next s) → wpAny (model prog w) A (execs body env) R E' s)
    (hE : ∀ e s₁, E1 env e s₁ → wpAny (model prog w) A (noteFrame e env) (fun _ s₂ => wpAny (model prog w) A (setFlight e none) (fun _ s₃ => wpAny (model prog w) A (handleBy e env (h₀ :: more)) (Seq (model prog w) A env [] Q E) E s₃) E s₂) E s₁) :
    wpAny (model prog w) A (execs (.Try body (h₀ :: more) [] [] pos :: []) env) Q E s :=
  x_try2 E1 (h _ (fun _ _ x => x) _ fun _ x => wpAny_execs_nil (wpAny_execs_nil x)) hE
noncomputable def IsErr (c : Value) : Prop := c = .ref 79 ∨ c = .type "ValueError"
theorem pull_errs {n : Nat} : ∀ {rest : List (List Nat)} {kept : List Nat} {ended : Bool} {e : Value × List Nat} {y : Inn}, pull n rest kept ended = (.error e, y) → e.1 = .ref 79
  | [], _, _, _, _, h => by cases h
  | r :: rest, kept, ended, e, y, h => by
    unfold pull at h
    split at h
    · cases h
    · split at h
      · rename_i e' hp
        cases h
        rw [parseR_err hp]
      · exact pull_errs h
theorem nextI_errs {y y' : Inn} {n : Nat} {e : Value × List Nat} (h : nextI y n = (.error e, y')) : IsErr e.1 := by
  unfold nextI at h
  split at h
  · rename_i hp
    cases h
    exact .inl (pull_errs hp)
  · cases h
theorem readU_errs {y y' : Inn} {e : Value × List Nat} (h : readU nextI y = (.error e, y')) : IsErr e.1 := by
  unfold readU at h
  split at h
  · rename_i hp; cases h; exact nextI_errs hp
  · cases h; exact .inr rfl
  · cases h
theorem readN_errs {mid : String} {y y' : Inn} {e : Value × List Nat} (h : readN mid nextI y = (.error e, y')) : IsErr e.1 := by
  unfold readN at h
  split at h
  · rename_i hp; cases h; exact readU_errs hp
  · split at h
    · rename_i hp; cases h; exact nextI_errs hp
    · split at h
      · cases h
      · cases h; exact .inr rfl
end Mine

set_option maxRecDepth 100000
set_option maxHeartbeats 4000000
namespace Mine
theorem told_spec {w : World} {p : Program} {loose : List Str} {mean : ExcName → Option Value} {mg mb : Str → Option Value} {base : Heap} {A : Around} {fs : List Env} {fr : List Addr} {s : Shared} {Q E : Value → Shared → Prop} {kl : Addr} {l tail kinds : List Nat} {kv : List Value} {nk : Nat} {reps : List (List Nat)} {t : Tok}
    (XB : (hd.heap_39 w.params).In base) (TB : Top p loose mean mg mb base) (C1 : CodeHd base 94 90) (C2 : CodeHd base 101 97) (P : Pre base A fs fr [(90, tabObj #[]), (97, tabObj #[])] s) (hroom : A.depth + 30 < recursionLimit) (hun : A.units + 30 < cLine)
    (hgk : s.heap.get? kl = some (lst kv nk)) (hkf : kl ∉ fr) (hkz : kl ≠ 90 ∧ kl ≠ 97) (hk : IsInts kinds kv) (hkl : kinds.length ≤ 1000) (hk2 : ∀ k ∈ kinds, k ≤ 2)
    (hl : l.length ≤ 100000) (hby : ∀ b ∈ l, b < 256) (ht : tail ≠ []) (hG : GoodI l tail 0 ⟨reps, [], false⟩)
    (h : ∀ r rv n at_ ps1 ps2 s', s'.heap.get? 90 = some (tabObj ps1) → s'.heap.get? 97 = some (tabObj ps2) → s'.gens = s.gens → s'.os = s.os → Ext [90, 97] fr s.heap s'.heap → s'.heap.get? r = some (lst rv n) → RowsAt s'.heap ((toldAll ⟨reps, [], false⟩ kinds).1 ++ [.place at_]) rv → GoodI l tail at_ (toldAll ⟨reps, [], false⟩ kinds).2 → Q (.ref r) s') :
    wpAny (model PySem.Challenge.rw_of0006_01.row.prog w) A (call (.ref 128) [.bytes (B l) t, .ref kl]) Q E s := by
  have XB0 := XB
  revert XB; k_fill; intro XB
  refine' enterK [(Str.ofString "written", .bytes (B l) t), (Str.ofString "kinds", .ref kl)] [Str.ofString "written", Str.ofString "kinds"] P XB TB ?o ?c (by omega) ?bi ?nm ?nd ?_ ?lo ?ce ?x1 ?x2 ?x3
  (case o => k_is)
  (case c => k_is)
  (case bi => exact rfl)
  (case nm => exact rfl)
  (case nd => decide)
  (case lo => decide)
  (case ce => decide)
  (case x1 => rfl)
  (case x2 => rfl)
  (case x3 => rfl)
  intro _ _ _
  refine calm ?_
  intro Q' hQ
  rename Sy _ _ _ _ _ _ _ _ _ => H
  rename_i L s1
  replace H : Sy base s [90, 97] (hideAll s.heap (90 :: 97 :: fr)) fr L [(Str.ofString "written", .bytes (B l) t), (Str.ofString "kinds", .ref kl)] [(90, tabObj #[]), (97, tabObj #[])] s1 := H
  have gk : (hideAll s.heap (90 :: 97 :: fr)).get? kl = some (lst kv nk) := hideAll_get _ hgk (by simp only [List.mem_cons, not_or]; exact ⟨hkz.1, hkz.2, hkf⟩)
  repeat' (first | ((with_reducible show wpAny _ _ (eval (Expr.Name _ _) _) _ _ _); with_reducible refine r_local (by with_reducible assumption) (by with_reducible repeat (first | exact List.mem_cons_self | refine List.mem_cons_of_mem _ ?_)) ?_ (by with_unfolding_all rfl) (by with_unfolding_all rfl) (by with_unfolding_all decide)) | ((with_reducible show wpAny _ _ (eval (Expr.Name _ _) _) _ _ _); refine r_global (by with_reducible assumption) (by with_reducible assumption) (by with_reducible assumption) (by k_is) ?_) | (with_reducible refine Call_ ?_ (by with_unfolding_all rfl)) | (with_reducible refine x_unpack ?_ (by with_unfolding_all rfl) (by with_unfolding_all rfl)) | ((with_reducible show wpAny _ _ (spliced _) _ _ _); with_reducible refine spliced_none ?_) | ((with_reducible show wpAny _ _ (spliced _) _ _ _); with_reducible refine spliced_more ?_ (by with_unfolding_all rfl)) | ((with_reducible show wpAny _ _ (callWith _ _ _ _ _) _ _ _); with_reducible refine r_callK (by with_reducible assumption) (by k_is) ?_ (by with_unfolding_all rfl)) | (with_reducible refine r_stays (by with_reducible assumption) ?_))
  refine stream_spec XB0 TB C1 (H.pre P rfl rfl (by walk_at "Msub")) (by show A.depth + 1 + 10 < _; omega) hl hby ?_
  intro r T1 xo dxo eso ko pl ps1 ld s2 q1 q2 hx hT1 hA1 hn1 ha1 hO1 hok1 hf1 hld hr h90 hnew hrp
  obtain ⟨-, t0, rfl⟩ := hok1
  have hpl : s2.heap.get? pl = some (lst [.int (0 : Nat) t0] 0) := hld _ (.head _)
  have h90s : s1.heap.get? 90 = some (tabObj #[]) := H.get (by with_reducible repeat (first | exact List.mem_cons_self | refine List.mem_cons_of_mem _ ?_))
  have h97s : s1.heap.get? 97 = some (tabObj #[]) := H.get (by with_reducible repeat (first | exact List.mem_cons_self | refine List.mem_cons_of_mem _ ?_))
  have H2 : Sy base s [90, 97] (hideAll s.heap (90 :: 97 :: fr)) fr L [(Str.ofString "written", .bytes (B l) t), (Str.ofString "kinds", .ref kl)] [(90, tabObj ps1), (97, tabObj #[])] s2 :=
    H.swap (ld := [(90, tabObj #[])]) (ld' := [(90, tabObj ps1)]) (rest := [(97, tabObj #[])]) rfl rfl hx q1 q2 (fun p hp => by rw [List.mem_singleton.mp hp]; exact h90)
  have H3 := H.adopt H2 rfl (hnew pl (.tail _ (.head _))) hpl
  have hne1 : ∀ a ∈ r :: T1.fz.map (·.1), a ∉ [pl, 90, 97] ++ L :: fr := by
    intro a ha hm
    have hz := H.new hnew a ((List.mem_cons.mp ha).elim (fun e => e ▸ .head _) fun e => .tail _ (.tail _ e))
    rcases List.mem_append.mp hm with hm | hm
    · rcases List.mem_cons.mp hm with e | hm
      · rcases List.mem_cons.mp ha with e2 | e2
        · exact hrp (e2.symm.trans e)
        · obtain ⟨q, hq, e3⟩ := List.mem_map.mp e2
          exact T1.hoff q hq (by rw [ha1, e3, e]; exact .head _)
      · exact hz.1 hm
    · exact hz.2 hm
  obtain ⟨g1, H4, f1, fr1, fk1⟩ : ∃ g1, Sy base s [90, 97] g1 fr L [(Str.ofString "written", .bytes (B l) t), (Str.ofString "kinds", .ref kl)] [(pl, lst [.int (0 : Nat) t0] 0), (90, tabObj ps1), (97, tabObj #[])] s2 ∧ Has g1 T1.fz ∧ g1.get? r = some (lst [.ref xo, .ref pl] 0) ∧ g1.get? kl = some (lst kv nk) :=
    ⟨_, H3.reground, fun q hq => hideAll_get _ (hf1 q hq) (hne1 _ (.tail _ (List.mem_map_of_mem hq))), hideAll_get _ hr (hne1 _ (.head _)), H3.frozen_g gk⟩
  clear H H2 H3 hne1 gk
  refine r_unpack P.hh H4 ⟨_, H4.keep _ _ fr1, rfl, 0, rfl⟩ (by with_unfolding_all rfl) (by with_unfolding_all rfl) ?_
  clear H4
  intro s3 H
  refine assignInOrder_cons (assign_Name ?_)
  repeat' (((with_reducible show wpAny _ _ (storeName _ _ _) _ _ _); with_reducible refine r_store (by with_reducible assumption) (by with_reducible repeat (first | exact SetV.hit | exact SetV.nil | apply SetV.skip (by with_unfolding_all decide))) ?_ (by with_unfolding_all rfl) (by with_unfolding_all rfl); intro _ _))
  refine assignInOrder_cons (assign_Name ?_)
  repeat' (((with_reducible show wpAny _ _ (storeName _ _ _) _ _ _); with_reducible refine r_store (by with_reducible assumption) (by with_reducible repeat (first | exact SetV.hit | exact SetV.nil | apply SetV.skip (by with_unfolding_all decide))) ?_ (by with_unfolding_all rfl) (by with_unfolding_all rfl); intro _ _))
  refine assignInOrder_nil ?_
  repeat' (first | ((with_reducible show wpAny _ _ (eval (Expr.Name _ _) _) _ _ _); with_reducible refine r_local (by with_reducible assumption) (by with_reducible repeat (first | exact List.mem_cons_self | refine List.mem_cons_of_mem _ ?_)) ?_ (by with_unfolding_all rfl) (by with_unfolding_all rfl) (by with_unfolding_all decide)) | ((with_reducible show wpAny _ _ (eval (Expr.Name _ _) _) _ _ _); refine r_global (by with_reducible assumption) (by with_reducible assumption) (by with_reducible assumption) (by k_is) ?_) | (with_reducible refine Call_ ?_ (by with_unfolding_all rfl)) | (with_reducible refine x_assign ?_ (by with_unfolding_all rfl)) | ((with_reducible show wpAny _ _ (spliced _) _ _ _); with_reducible refine spliced_none ?_) | ((with_reducible show wpAny _ _ (spliced _) _ _ _); with_reducible refine spliced_more ?_ (by with_unfolding_all rfl)) | ((with_reducible show wpAny _ _ (callWith _ _ _ _ _) _ _ _); with_reducible refine r_callK (by with_reducible assumption) (by k_is) ?_ (by with_unfolding_all rfl)) | (with_reducible refine r_stays (by with_reducible assumption) ?_))
  clear H
  rename Sy _ _ _ _ _ _ _ _ _ => H
  rename_i s4
  have hfo := H.offL f1
  have h97n : g1.get? 97 = none := (H.led (97, tabObj #[]) (by with_reducible repeat (first | exact List.mem_cons_self | refine List.mem_cons_of_mem _ ?_))).2.2
  have hof1 : OffL T1.fz (97 :: L :: fr) := fun q hq hm => by
    rcases List.mem_cons.mp hm with e | hm
    · have := f1 q hq; rw [e, h97n] at this; cases this
    · exact hfo q hq hm
  have hpl4 := H.led (pl, lst [.int (0 : Nat) t0] 0) (by with_reducible repeat (first | exact List.mem_cons_self | refine List.mem_cons_of_mem _ ?_))
  have nd4 : List.Nodup (α := Nat) [pl, 90, 97] := H.nd
  refine inner_spec (tail := tail) XB0 TB C2 (H.pre P rfl rfl (by walk_at "Msub")) (by show A.depth + 1 + 20 < _; omega) hT1 hA1 hn1 ha1 hO1 (H.has f1) hpl4.1 hof1 ?_ ht ?_
  · intro hm
    rcases List.mem_cons.mp hm with e | hm
    · exact nodup_ne nd4 (i := 0) (j := 2) rfl rfl (by decide) e
    · exact hpl4.2.1 hm
  intro T x dx es k kp en ps2 t1 s5 q3 q4 hx2 hT hA hnx had hOk hfz hfzn hkp hen h97 hnew2 hke
  have H5 : Sy base s [90, 97] g1 fr L [(Str.ofString "written", .bytes (B l) t), (Str.ofString "kinds", .ref kl), (Str.ofString "outer", .ref xo), (Str.ofString "place", .ref pl)] [(97, tabObj ps2), (pl, lst [.int (0 : Nat) t0] 0), (90, tabObj ps1)] s5 := (H.perm (news' := [(97, tabObj #[]), (pl, lst [.int (0 : Nat) t0] 0), (90, tabObj ps1)]) (List.perm_append_comm (l₁ := [_]) (l₂ := [_, _]))).swap (ld := [(97, tabObj #[])]) (ld' := [(97, tabObj ps2)]) (rest := [(pl, lst [.int (0 : Nat) t0] 0), (90, tabObj ps1)]) rfl rfl hx2 q3 q4 (fun p hp => by rw [List.mem_singleton.mp hp]; exact h97)
  have nw := H.new hnew2
  have H6 := H.adoptN H5 (c := kp) (fun hm => (nw kp (.head _)).1 (by
    rcases List.mem_cons.mp hm with e | hm
    · exact e ▸ .tail _ (.tail _ (.head _))
    · rcases List.mem_cons.mp hm with e | hm
      · exact e ▸ .head _
      · exact (List.mem_singleton.mp hm) ▸ .tail _ (.head _))) (hnew2 kp (.head _)) hkp
  have H7 := H.adoptN H6 (c := en) (fun hm => by
    rcases List.mem_cons.mp hm with e | hm
    · exact hke e.symm
    refine (nw en (.tail _ (.head _))).1 ?_
    rcases List.mem_cons.mp hm with e | hm
    · exact e ▸ .tail _ (.tail _ (.head _))
    · rcases List.mem_cons.mp hm with e | hm
      · exact e ▸ .head _
      · exact (List.mem_singleton.mp hm) ▸ .tail _ (.head _)) (hnew2 en (.tail _ (.head _))) hen
  have H8 := (H7.sub (news' := [(en, lst [] 0), (kp, lst [.str (S []) t1] 0), (pl, lst [.int (0 : Nat) t0] 0)]) (by walk_at "Msub")).perm (List.reverse_perm _)
  replace H8 : Sy base s [90, 97] g1 fr L [(Str.ofString "written", .bytes (B l) t), (Str.ofString "kinds", .ref kl), (Str.ofString "outer", .ref xo), (Str.ofString "place", .ref pl)] [(pl, lst [.int (0 : Nat) t0] 0), (kp, lst [.str (S []) t1] 0), (en, lst [] 0)] s5 := H8
  obtain ⟨g2, H9, f2, fk2, f90, f97⟩ : ∃ g2, Sy base s [90, 97] g2 fr L [(Str.ofString "written", .bytes (B l) t), (Str.ofString "kinds", .ref kl), (Str.ofString "outer", .ref xo), (Str.ofString "place", .ref pl)] [(pl, lst [.int (0 : Nat) t0] 0), (kp, lst [.str (S []) t1] 0), (en, lst [] 0)] s5 ∧ Has g2 T.fz ∧ g2.get? kl = some (lst kv nk) ∧ g2.get? 90 = some (tabObj ps1) ∧ g2.get? 97 = some (tabObj ps2) := by
    have nd7 : List.Nodup (α := Nat) [en, kp, 97, pl, 90] := H7.nd
    have off7 : ∀ (a : Addr) (o : Obj), (a, o) ∈ [(97, tabObj ps2), (90, tabObj ps1)] → a ∉ [pl, kp, en] ++ L :: fr := fun a o hm hq => by
      have hin : (a, o) ∈ [(en, lst [] 0), (kp, lst [.str (S []) t1] 0), (97, tabObj ps2), (pl, lst [.int (0 : Nat) t0] 0), (90, tabObj ps1)] := by
        simp only [List.mem_cons, List.not_mem_nil, or_false] at hm ⊢
        rcases hm with e | e
        · exact .inr (.inr (.inl e))
        · exact .inr (.inr (.inr (.inr e)))
      rcases List.mem_append.mp hq with hq | hq
      · simp only [List.mem_cons, List.not_mem_nil, or_false, Prod.mk.injEq] at hm hq
        rcases hm with ⟨e, -⟩ | ⟨e, -⟩ <;> rcases hq with e' | e' | e'
        · exact nodup_ne nd7 (i := 2) (j := 3) rfl rfl (by decide) (e.symm.trans e')
        · exact nodup_ne nd7 (i := 2) (j := 1) rfl rfl (by decide) (e.symm.trans e')
        · exact nodup_ne nd7 (i := 2) (j := 0) rfl rfl (by decide) (e.symm.trans e')
        · exact nodup_ne nd7 (i := 4) (j := 3) rfl rfl (by decide) (e.symm.trans e')
        · exact nodup_ne nd7 (i := 4) (j := 1) rfl rfl (by decide) (e.symm.trans e')
        · exact nodup_ne nd7 (i := 4) (j := 0) rfl rfl (by decide) (e.symm.trans e')
      · exact (H7.led _ hin).2.1 hq
    refine ⟨_, H8.reground, fun q hq => hideAll_get _ (hfz q hq) fun hm => ?_, H8.frozen_g fk1, hideAll_get _ (H7.led (90, tabObj ps1) (by with_reducible repeat (first | exact List.mem_cons_self | refine List.mem_cons_of_mem _ ?_))).1 (off7 _ _ (.tail _ (.head _))), hideAll_get _ (H7.led (97, tabObj ps2) (by with_reducible repeat (first | exact List.mem_cons_self | refine List.mem_cons_of_mem _ ?_))).1 (off7 _ _ (.head _))⟩
    rcases List.mem_append.mp hm with hm | hm
    · exact T.hoff q hq (by rw [had]; exact hm)
    · rcases hfzn q.1 (List.mem_map_of_mem hq) with e | e
      · exact (H.new (as := [q.1]) (fun a ha => by rw [List.mem_singleton.mp ha]; exact e) q.1 (.head _)).2 hm
      · obtain ⟨q', hq', e'⟩ := List.mem_map.mp e
        exact hfo q' hq' (e' ▸ hm)
  clear H H5 H6 H7 H8
  clear hfzn hfz hnew2 hkp hen h97 hx2 hpl4 hof1 h97n hfo f1 fr1 fk1 hnew hr h90 hpl hld hx hf1 h90s h97s
  repeat' ((fail_if_success ((with_reducible show PySem.wpAny _ _ (PySem.newList _) _ _ _))); first | (with_reducible refine List_ ?_) | (with_reducible refine x_assign ?_ (by with_unfolding_all rfl)) | ((with_reducible show wpAny _ _ (spliced _) _ _ _); with_reducible refine spliced_none ?_) | ((with_reducible show wpAny _ _ (storeName _ _ _) _ _ _); with_reducible refine r_store (by with_reducible assumption) (by with_reducible repeat (first | exact SetV.hit | exact SetV.nil | apply SetV.skip (by with_unfolding_all decide))) ?_ (by with_unfolding_all rfl) (by with_unfolding_all rfl); intro _ _))
  clear H9
  rename Sy _ _ _ _ _ _ _ _ _ => H
  refine r_newList H ?_
  clear H
  intro rl s6 H
  repeat' (((with_reducible show wpAny _ _ (storeName _ _ _) _ _ _); with_reducible refine r_store (by with_reducible assumption) (by with_reducible repeat (first | exact SetV.hit | exact SetV.nil | apply SetV.skip (by with_unfolding_all decide))) ?_ (by with_unfolding_all rfl) (by with_unfolding_all rfl); intro _ _))
  clear H
  rename Sy _ _ _ _ _ _ _ _ _ => H
  replace H := H.perm (news' := [(pl, lst [.int (0 : Nat) t0] 0), (kp, lst [.str (S []) t1] 0), (en, lst [] 0), (rl, lst [] 0)]) (List.perm_append_comm (l₁ := [_, _, _]) (l₂ := [_]))
  have hner : nsIn (hd.heap_39 w.params) mainGlobals (Str.ofString "error_reply") = some (some (.ref 79)) := by k_is
  have hnve : nsIn (hd.heap_39 w.params) mainGlobals (Str.ofString "ValueError") = some none := by k_is
  have hm1 : exmOne (hd.heap_39 w.params) (.ref 79) (.ref 79) = some true := by kernel_rfl
  have hm2 : exmOne (hd.heap_39 w.params) (.type "ValueError") (.ref 79) = some false := by kernel_rfl
  have hm3 : exmOne (hd.heap_39 w.params) (.type "ValueError") (.type "ValueError") = some true := by kernel_rfl
  have hfs : findIn (hd.heap_39 w.params) (.ref 79) "__str__" = some (some (.builtin "BaseException.__str__")) := by k_is
  have hms : mroIn (hd.heap_39 w.params) 79 (.type "BaseException") = some true := by k_is
  refine x_for ?_
  repeat' (((with_reducible show wpAny _ _ (eval (Expr.Name _ _) _) _ _ _); with_reducible refine r_local (by with_reducible assumption) (by with_reducible repeat (first | exact List.mem_cons_self | refine List.mem_cons_of_mem _ ?_)) ?_ (by with_unfolding_all rfl) (by with_unfolding_all rfl) (by with_unfolding_all decide)))
  let c : ToC := ⟨(90, tabObj ps1) :: (97, tabObj ps2) :: T.fz, l, tail, pl, kp, en, kl, rl, xo, x, kv, nk, t, kinds, ⟨reps, [], false⟩⟩
  have hex0 : Has g2 ((90, tabObj ps1) :: (97, tabObj ps2) :: T.fz) := fun p hp => by
    rcases List.mem_cons.mp hp with rfl | hp
    · exact f90
    · rcases List.mem_cons.mp hp with rfl | hp
      · exact f97
      · exact f2 p hp
  refine r_for_list (items := kv) (ToldI c) P.hh H ⟨_, [], 0, rfl, rfl, ⟨0, t0, t1, _, hG, rfl, fun _ => rfl, fun h => nomatch h⟩, hex0, fk2, .nil, Nat.le_refl _⟩ ?_ ?_ ?_
  · rintro i g vars news s' ⟨ld, rv, n, rfl, rfl, -, -, g3, -⟩ H'
    exact ⟨_, H'.keep _ _ g3, rfl, nk, rfl⟩
  · clear H
    rintro i v g vars it io news s' hv ⟨ld, rv, n, rfl, rfl, hok, hfg, g3, hR, hrl⟩ H
    obtain ⟨kd, hki, tk, rfl⟩ := Paired.get' hk hv
    have hall : toldAll c.x0 (c.kinds.take (i + 1)) = toldStep (toldAll c.x0 (c.kinds.take i)) kd := toldAll_snoc hki
    have hk22 := hk2 kd (List.mem_of_getElem? hki)
    have hi : i < 1000 := by have := (List.getElem?_eq_some_iff.mp hki).1; omega
    generalize toldAll c.x0 (c.kinds.take i) = X at hall hok hR
    obtain ⟨rows, y⟩ := X
    replace hok : okI l tail pl kp en y ld := hok
    replace hR : RowsAt g rows rv := hR
    have hex := hfg
    replace hfg : Has g T.fz := fun p hp => hex p (.tail _ (.tail _ hp))
    have hZ : ld.map (·.1) = [pl, kp, en] := by obtain ⟨_, _, _, _, _, rfl, _, _⟩ := hok; rfl
    refine calmT ?_
    intro R hRn
    replace H := H.perm (news' := ld ++ [(it, io), (rl, lst rv n)]) List.perm_middle
    replace H : Sy base s [90, 97] g fr L [(Str.ofString "written", .bytes (B l) t), (Str.ofString "kinds", .ref kl), (Str.ofString "outer", .ref xo), (Str.ofString "place", .ref pl), (Str.ofString "inner", .ref x), (Str.ofString "rows", .ref rl)] (ld ++ [(it, io), (rl, lst rv n)]) s' := H
    repeat' (((with_reducible show wpAny _ _ (storeName _ _ _) _ _ _); with_reducible refine r_store (by with_reducible assumption) (by with_reducible repeat (first | exact SetV.hit | exact SetV.nil | apply SetV.skip (by with_unfolding_all decide))) ?_ (by with_unfolding_all rfl) (by with_unfolding_all rfl); intro _ _))
    clear H
    rename Sy _ _ _ _ _ _ _ _ _ => H
    refine x_try3 (fun env e s₁ => ∃ ea cc m tE ld' y' s8, e = Value.ref ea ∧ Sy base s [90, 97] g fr L [(Str.ofString "written", .bytes (B l) t), (Str.ofString "kinds", .ref kl), (Str.ofString "outer", .ref xo), (Str.ofString "place", .ref pl), (Str.ofString "inner", .ref x), (Str.ofString "rows", .ref rl), (Str.ofString "kind", .int (kd : Nat) tk)] (ld ++ [(it, io), (rl, lst rv n)]) s8 ∧
      Flown [pl, kp, en] (env :: fs) (L :: fr) s8.heap ea cc [.str (S m) tE] ld' s₁.heap ∧ s₁.gens = s8.gens ∧ s₁.os = s8.os ∧ okI l tail pl kp en y' ld' ∧ IsErr cc ∧ toldStep (rows, y) kd = (rows ++ [errRow cc m], y')) ?_ ?_
    · intro E1 hE1 R1 hR1
      have hok0 := hok
      obtain ⟨at_, ta, tb, oe, hGd, rfl, he1, he2⟩ := hok
      replace H : Sy base s [90, 97] g fr L [(Str.ofString "written", .bytes (B l) t), (Str.ofString "kinds", .ref kl), (Str.ofString "outer", .ref xo), (Str.ofString "place", .ref pl), (Str.ofString "inner", .ref x), (Str.ofString "rows", .ref rl), (Str.ofString "kind", .int (kd : Nat) tk)] [(pl, lst [.int (at_ : Nat) ta] 0), (kp, lst [.str (S y.kept) tb] 0), (en, oe), (it, io), (rl, lst rv n)] _ := H
      repeat' (first | ((with_reducible show wpAny _ _ (eval (Expr.Name _ _) _) _ _ _); with_reducible refine r_local (by with_reducible assumption) (by with_reducible repeat (first | exact List.mem_cons_self | refine List.mem_cons_of_mem _ ?_)) ?_ (by with_unfolding_all rfl) (by with_unfolding_all rfl) (by with_unfolding_all decide)) | (with_reducible refine r_cint (by with_reducible assumption) ?_; intro _ _ _) | (with_reducible refine x_if ?_) | (with_reducible refine eq_int ?_) | (with_reducible refine wpAny_truthy_bool ?_) | ((with_reducible show wpAny _ _ (isTrue _ _ _) _ _ _); with_reducible refine wpAny_isTrue_Compare1 ?_ (by with_unfolding_all rfl)))
      by_cases hk0 : kd = 0
      · refine ifT (by simp [hk0]) ?_
        repeat' (first | ((with_reducible show wpAny _ _ (eval (Expr.Name _ _) _) _ _ _); with_reducible refine r_local (by with_reducible assumption) (by with_reducible repeat (first | exact List.mem_cons_self | refine List.mem_cons_of_mem _ ?_)) ?_ (by with_unfolding_all rfl) (by with_unfolding_all rfl) (by with_unfolding_all decide)) | ((with_reducible show wpAny _ _ (eval (Expr.Name _ _) _) _ _ _); refine r_global (by with_reducible assumption) (by with_reducible assumption) (by with_reducible assumption) (by k_is) ?_) | (with_reducible refine r_cstr (by with_reducible assumption) ?_; intro _ _ _) | (with_reducible refine MethodCall_ ?_ (by with_unfolding_all rfl)) | (with_reducible refine Call_ ?_ (by with_unfolding_all rfl)) | (with_reducible refine List_ ?_) | (with_reducible refine x_expr ?_ (by with_unfolding_all rfl) (by with_unfolding_all rfl)) | ((with_reducible show wpAny _ _ (getMethod _ _ _) _ _ _); with_reducible refine r_meth_list (by with_reducible assumption) (by with_reducible repeat (first | exact List.mem_cons_self | refine List.mem_cons_of_mem _ ?_)) PySem.F.slot_list_append PySem.F.type_list_append ?_) | ((with_reducible show wpAny _ _ (spliced _) _ _ _); with_reducible refine spliced_none ?_) | ((with_reducible show wpAny _ _ (spliced _) _ _ _); with_reducible refine spliced_more ?_ (by with_unfolding_all rfl)) | ((with_reducible show wpAny _ _ (callWith _ _ _ _ _) _ _ _); with_reducible refine callWith_method1 ?_ (by with_unfolding_all rfl) (by with_unfolding_all rfl); dsimp only [List.cons_append, List.nil_append]) | ((with_reducible show wpAny _ _ (callWith _ _ _ _ _) _ _ _); with_reducible refine r_callK (by with_reducible assumption) (by k_is) ?_ (by with_unfolding_all rfl)) | (with_reducible refine r_stays (by with_reducible assumption) ?_))
        clear H
        rename Sy _ _ _ _ _ _ _ _ _ => H
        refine uint_spec XB0 TB hT hA (H.pre P rfl rfl (List.sublist_append_left [(pl, lst [.int (at_ : Nat) ta] 0), (kp, lst [.str (S y.kept) tb] 0), (en, oe)] [(it, io), (rl, lst rv n)])) (H.has hfg) (H.offL hfg) (hOk ▸ hok0) (by show A.depth + 1 + 1 + 4 < _; omega) ?_
        rw [hnx, had, hOk]
        cases hU : readU nextI y with
        | mk res y' =>
          cases res with
          | error cm =>
            obtain ⟨cc, m⟩ := cm
            intro e t' ld' s9 q1 q2 ho hf
            exact hE1 _ _ ⟨e, cc, m, t', ld', y', _, rfl, H, hf, q1, q2, ho, readU_errs hU, (by unfold toldStep; rw [if_pos hk0]; dsimp only; rw [hU])⟩
          | ok kk =>
            intro t' ld' s9 q1 q2 hx9 ho hh9
            have hZ' : ld'.map (·.1) = [pl, kp, en] := by obtain ⟨_, _, _, _, _, rfl, _, _⟩ := ho; rfl
            have H9 := Sy.swap (ld := [(pl, lst [.int (at_ : Nat) ta] 0), (kp, lst [.str (S y.kept) tb] 0), (en, oe)]) (rest := [(it, io), (rl, lst rv n)]) H rfl hZ' hx9 q1 q2 hh9
            clear H
            have ho0 := ho
            obtain ⟨at', ta', tb', oe', hGd', rfl, he1', he2'⟩ := ho
            dsimp only [List.cons_append, List.nil_append] at H9
            repeat' (first | (with_reducible refine wpAny_execs_nil ?_) | ((with_reducible show wpAny _ _ (call (Value.builtin "list.append") _ _) _ _ _); with_reducible refine r_append (by with_reducible assumption) (by with_reducible repeat (first | exact SetN.hit | apply SetN.skip)) (by first | omega | (simp only [List.length_append, List.length_cons, List.length_nil]; omega)) ?_; intro _ _) | ((with_reducible show wpAny _ _ (spliced _) _ _ _); with_reducible refine spliced_none ?_) | ((with_reducible show wpAny _ _ (newList _) _ _ _); refine r_newList (by with_reducible assumption) ?_; intro _ _ _) | (with_reducible refine seq_next ?_))
            clear H9
            rename Sy _ _ _ _ _ _ _ _ _ => H
            exact hR1 _ (hRn _ (told_close (c := c) (itp := (it, io)) (row := .num kk) hall (by unfold toldStep; rw [if_pos hk0]; dsimp only; rw [hU]) ho0 ⟨_, _, rfl⟩ hex g3 hR hrl H (by walk_at "Msub") (by dsimp only [List.cons_append, List.nil_append]; walk_at "Msub")))
      · refine ifF (by simp; omega) ?_
        repeat' (first | ((with_reducible show wpAny _ _ (eval (Expr.Name _ _) _) _ _ _); with_reducible refine r_local (by with_reducible assumption) (by with_reducible repeat (first | exact List.mem_cons_self | refine List.mem_cons_of_mem _ ?_)) ?_ (by with_unfolding_all rfl) (by with_unfolding_all rfl) (by with_unfolding_all decide)) | (with_reducible refine r_cint (by with_reducible assumption) ?_; intro _ _ _) | (with_reducible refine x_if ?_) | (with_reducible refine eq_int ?_) | (with_reducible refine wpAny_truthy_bool ?_) | ((with_reducible show wpAny _ _ (isTrue _ _ _) _ _ _); with_reducible refine wpAny_isTrue_Compare1 ?_ (by with_unfolding_all rfl)))
        by_cases hk1 : kd = 1
        · refine ifT (by simp [hk1]) ?_
          repeat' (first | ((with_reducible show wpAny _ _ (eval (Expr.Name _ _) _) _ _ _); with_reducible refine r_local (by with_reducible assumption) (by with_reducible repeat (first | exact List.mem_cons_self | refine List.mem_cons_of_mem _ ?_)) ?_ (by with_unfolding_all rfl) (by with_unfolding_all rfl) (by with_unfolding_all decide)) | ((with_reducible show wpAny _ _ (eval (Expr.Name _ _) _) _ _ _); refine r_global (by with_reducible assumption) (by with_reducible assumption) (by with_reducible assumption) (by k_is) ?_) | (with_reducible refine Call_ ?_ (by with_unfolding_all rfl)) | (with_reducible refine x_assign ?_ (by with_unfolding_all rfl)) | ((with_reducible show wpAny _ _ (spliced _) _ _ _); with_reducible refine spliced_none ?_) | ((with_reducible show wpAny _ _ (spliced _) _ _ _); with_reducible refine spliced_more ?_ (by with_unfolding_all rfl)) | ((with_reducible show wpAny _ _ (callWith _ _ _ _ _) _ _ _); with_reducible refine r_callK (by with_reducible assumption) (by k_is) ?_ (by with_unfolding_all rfl)) | (with_reducible refine r_stays (by with_reducible assumption) ?_))
          clear H
          rename Sy _ _ _ _ _ _ _ _ _ => H
          refine bytes_spec XB0 TB hT hA (H.pre P rfl rfl (List.sublist_append_left [(pl, lst [.int (at_ : Nat) ta] 0), (kp, lst [.str (S y.kept) tb] 0), (en, oe)] [(it, io), (rl, lst rv n)])) (H.has hfg) (H.offL hfg) (hOk ▸ hok0) (by show A.depth + 1 + 2 + 4 < _; omega) ?_
          rw [hnx, had, hOk]
          cases hU : readN midB nextI y with
          | mk res y' =>
            cases res with
            | error cm =>
              obtain ⟨cc, m⟩ := cm
              intro e t' ld' s9 q1 q2 ho hf
              exact hE1 _ _ ⟨e, cc, m, t', ld', y', _, rfl, H, hf, q1, q2, ho, readN_errs hU, (by unfold toldStep; rw [if_neg hk0, if_pos hk1]; dsimp only; rw [hU])⟩
            | ok kk =>
              intro t' ld' s9 q1 q2 hx9 ho hh9
              have hZ' : ld'.map (·.1) = [pl, kp, en] := by obtain ⟨_, _, _, _, _, rfl, _, _⟩ := ho; rfl
              have H9 := Sy.swap (ld := [(pl, lst [.int (at_ : Nat) ta] 0), (kp, lst [.str (S y.kept) tb] 0), (en, oe)]) (rest := [(it, io), (rl, lst rv n)]) H rfl hZ' hx9 q1 q2 hh9
              clear H
              have ho0 := ho
              obtain ⟨at', ta', tb', oe', hGd', rfl, he1', he2'⟩ := ho
              dsimp only [List.cons_append, List.nil_append] at H9
              repeat' (first | ((with_reducible show wpAny _ _ (eval (Expr.Name _ _) _) _ _ _); with_reducible refine r_local (by with_reducible assumption) (by with_reducible repeat (first | exact List.mem_cons_self | refine List.mem_cons_of_mem _ ?_)) ?_ (by with_unfolding_all rfl) (by with_unfolding_all rfl) (by with_unfolding_all decide)) | ((with_reducible show wpAny _ _ (eval (Expr.Name _ _) _) _ _ _); refine r_builtin (by with_reducible assumption) (by with_reducible assumption) (by with_reducible assumption) (by k_is) (by boot_by_name) ?_) | (with_reducible refine r_cstr (by with_reducible assumption) ?_; intro _ _ _) | (with_reducible refine MethodCall_ ?_ (by with_unfolding_all rfl)) | (with_reducible refine Call_ ?_ (by with_unfolding_all rfl)) | (with_reducible refine List_ ?_) | (with_reducible refine wpAny_execs_nil ?_) | (with_reducible refine x_expr ?_ (by with_unfolding_all rfl) (by with_unfolding_all rfl)) | ((with_reducible show wpAny _ _ (call (Value.builtin _) _ _) _ _ _); with_reducible refine r_isbytes ?_) | ((with_reducible show wpAny _ _ (call (Value.builtin "list.append") _ _) _ _ _); with_reducible refine r_append (by with_reducible assumption) (by with_reducible repeat (first | exact SetN.hit | apply SetN.skip)) (by first | omega | (simp only [List.length_append, List.length_cons, List.length_nil]; omega)) ?_; intro _ _) | ((with_reducible show wpAny _ _ (getMethod _ _ _) _ _ _); with_reducible refine r_meth_list (by with_reducible assumption) (by with_reducible repeat (first | exact List.mem_cons_self | refine List.mem_cons_of_mem _ ?_)) PySem.F.slot_list_append PySem.F.type_list_append ?_) | ((with_reducible show wpAny _ _ (spliced _) _ _ _); with_reducible refine spliced_none ?_) | ((with_reducible show wpAny _ _ (spliced _) _ _ _); with_reducible refine spliced_more ?_ (by with_unfolding_all rfl)) | ((with_reducible show wpAny _ _ (callWith _ _ _ _ _) _ _ _); with_reducible refine PyProof.Rows.callWith_builtin1 ?_ (by with_unfolding_all rfl) (by with_unfolding_all rfl)) | ((with_reducible show wpAny _ _ (callWith _ _ _ _ _) _ _ _); with_reducible refine callWith_method1 ?_ (by with_unfolding_all rfl) (by with_unfolding_all rfl); dsimp only [List.cons_append, List.nil_append]) | ((with_reducible show wpAny _ _ (storeName _ _ _) _ _ _); with_reducible refine r_store (by with_reducible assumption) (by with_reducible repeat (first | exact SetV.hit | exact SetV.nil | apply SetV.skip (by with_unfolding_all decide))) ?_ (by with_unfolding_all rfl) (by with_unfolding_all rfl); intro _ _) | ((with_reducible show wpAny _ _ (newList _) _ _ _); refine r_newList (by with_reducible assumption) ?_; intro _ _ _) | (with_reducible refine seq_next ?_))
              clear H9
              rename Sy _ _ _ _ _ _ _ _ _ => H
              exact hR1 _ (hRn _ (told_close (c := c) (itp := (it, io)) (row := .octs kk) hall (by unfold toldStep; rw [if_neg hk0, if_pos hk1]; dsimp only; rw [hU]) ho0 ⟨_, _, rfl⟩ hex g3 hR hrl H (by walk_at "Msub") (by dsimp only [List.cons_append, List.nil_append]; walk_at "Msub")))
        · refine ifF (by simp; omega) ?_
          repeat' (first | ((with_reducible show wpAny _ _ (eval (Expr.Name _ _) _) _ _ _); with_reducible refine r_local (by with_reducible assumption) (by with_reducible repeat (first | exact List.mem_cons_self | refine List.mem_cons_of_mem _ ?_)) ?_ (by with_unfolding_all rfl) (by with_unfolding_all rfl) (by with_unfolding_all decide)) | ((with_reducible show wpAny _ _ (eval (Expr.Name _ _) _) _ _ _); refine r_global (by with_reducible assumption) (by with_reducible assumption) (by with_reducible assumption) (by k_is) ?_) | (with_reducible refine r_cstr (by with_reducible assumption) ?_; intro _ _ _) | (with_reducible refine MethodCall_ ?_ (by with_unfolding_all rfl)) | (with_reducible refine Call_ ?_ (by with_unfolding_all rfl)) | (with_reducible refine List_ ?_) | (with_reducible refine x_expr ?_ (by with_unfolding_all rfl) (by with_unfolding_all rfl)) | ((with_reducible show wpAny _ _ (getMethod _ _ _) _ _ _); with_reducible refine r_meth_list (by with_reducible assumption) (by with_reducible repeat (first | exact List.mem_cons_self | refine List.mem_cons_of_mem _ ?_)) PySem.F.slot_list_append PySem.F.type_list_append ?_) | ((with_reducible show wpAny _ _ (spliced _) _ _ _); with_reducible refine spliced_none ?_) | ((with_reducible show wpAny _ _ (spliced _) _ _ _); with_reducible refine spliced_more ?_ (by with_unfolding_all rfl)) | ((with_reducible show wpAny _ _ (callWith _ _ _ _ _) _ _ _); with_reducible refine callWith_method1 ?_ (by with_unfolding_all rfl) (by with_unfolding_all rfl); dsimp only [List.cons_append, List.nil_append]) | ((with_reducible show wpAny _ _ (callWith _ _ _ _ _) _ _ _); with_reducible refine r_callK (by with_reducible assumption) (by k_is) ?_ (by with_unfolding_all rfl)) | (with_reducible refine r_stays (by with_reducible assumption) ?_))
          clear H
          rename Sy _ _ _ _ _ _ _ _ _ => H
          refine string_spec XB0 TB hT hA (H.pre P rfl rfl (List.sublist_append_left [(pl, lst [.int (at_ : Nat) ta] 0), (kp, lst [.str (S y.kept) tb] 0), (en, oe)] [(it, io), (rl, lst rv n)])) (H.has hfg) (H.offL hfg) (hOk ▸ hok0) (by show A.depth + 1 + 2 + 4 < _; omega) ?_
          rw [hnx, had, hOk]
          cases hU : readN midS nextI y with
          | mk res y' =>
            cases res with
            | error cm =>
              obtain ⟨cc, m⟩ := cm
              intro e t' ld' s9 q1 q2 ho hf
              exact hE1 _ _ ⟨e, cc, m, t', ld', y', _, rfl, H, hf, q1, q2, ho, readN_errs hU, (by unfold toldStep; rw [if_neg hk0, if_neg hk1]; dsimp only; rw [hU])⟩
            | ok kk =>
              intro t' ld' s9 q1 q2 hx9 ho hh9
              have hZ' : ld'.map (·.1) = [pl, kp, en] := by obtain ⟨_, _, _, _, _, rfl, _, _⟩ := ho; rfl
              have H9 := Sy.swap (ld := [(pl, lst [.int (at_ : Nat) ta] 0), (kp, lst [.str (S y.kept) tb] 0), (en, oe)]) (rest := [(it, io), (rl, lst rv n)]) H rfl hZ' hx9 q1 q2 hh9
              clear H
              have ho0 := ho
              obtain ⟨at', ta', tb', oe', hGd', rfl, he1', he2'⟩ := ho
              dsimp only [List.cons_append, List.nil_append] at H9
              repeat' (first | (with_reducible refine wpAny_execs_nil ?_) | ((with_reducible show wpAny _ _ (call (Value.builtin "list.append") _ _) _ _ _); with_reducible refine r_append (by with_reducible assumption) (by with_reducible repeat (first | exact SetN.hit | apply SetN.skip)) (by first | omega | (simp only [List.length_append, List.length_cons, List.length_nil]; omega)) ?_; intro _ _) | ((with_reducible show wpAny _ _ (spliced _) _ _ _); with_reducible refine spliced_none ?_) | ((with_reducible show wpAny _ _ (newList _) _ _ _); refine r_newList (by with_reducible assumption) ?_; intro _ _ _) | (with_reducible refine seq_next ?_))
              clear H9
              rename Sy _ _ _ _ _ _ _ _ _ => H
              exact hR1 _ (hRn _ (told_close (c := c) (itp := (it, io)) (row := .text kk) hall (by unfold toldStep; rw [if_neg hk0, if_neg hk1]; dsimp only; rw [hU]) ho0 ⟨_, _, rfl⟩ hex g3 hR hrl H (by walk_at "Msub") (by dsimp only [List.cons_append, List.nil_append]; walk_at "Msub")))
    · rintro _ s₁ ⟨ea, cc, m, tE, ld', y', s8, rfl, H8, hfl, q1, q2, hok', hc, hst⟩
      clear H
      have hZ' : ld'.map (·.1) = [pl, kp, en] := by obtain ⟨_, _, _, _, _, rfl, _, _⟩ := hok'; rfl
      refine land P rfl hfl ?_
      intro t3 s9 q3 q4 x9
      have H9 := x9.sy H8 hZ hZ' (q3.trans q1) (q4.trans q2)
      rcases hc with rfl | rfl
      · refine fit_own P H8 hZ hZ' (q3.trans q1) (q4.trans q2) x9 (c := .ref 79) (fun E' Q' hq => r_global H9 XB TB hner hq rfl rfl (by decide)) XB hm1 (by with_reducible repeat (first | exact SetV.hit | exact SetV.nil | apply SetV.skip (by with_unfolding_all decide))) ?_
        clear H8 H9 x9
        intro s10 E' q5 q6 H hone
        obtain ⟨at', ta, tb, oe', hGd', rfl, he1', he2'⟩ := hok'
        dsimp only [List.cons_append, List.nil_append] at H
        repeat' ((fail_if_success ((with_reducible show PySem.wpAny _ _ (PySem.eval (PySem.Expr.Constant (PySem.Const.str _) _ _) _) _ _ _))); first | ((with_reducible show wpAny _ _ (eval (Expr.Name _ _) _) _ _ _); with_reducible refine r_local (by with_reducible assumption) (by with_reducible repeat (first | exact List.mem_cons_self | refine List.mem_cons_of_mem _ ?_)) ?_ (by with_unfolding_all rfl) (by with_unfolding_all rfl) (by with_unfolding_all decide)) | (with_reducible refine MethodCall_ ?_ (by with_unfolding_all rfl)) | (with_reducible refine List_ ?_) | (with_reducible refine x_expr ?_ (by with_unfolding_all rfl) (by with_unfolding_all rfl)) | ((with_reducible show wpAny _ _ (getMethod _ _ _) _ _ _); with_reducible refine r_meth_list (by with_reducible assumption) (by with_reducible repeat (first | exact List.mem_cons_self | refine List.mem_cons_of_mem _ ?_)) PySem.F.slot_list_append PySem.F.type_list_append ?_) | ((with_reducible show wpAny _ _ (spliced _) _ _ _); with_reducible refine spliced_more ?_ (by with_unfolding_all rfl)) | ((with_reducible show wpAny _ _ (callWith _ _ _ _ _) _ _ _); with_reducible refine callWith_method1 ?_ (by with_unfolding_all rfl) (by with_unfolding_all rfl); dsimp only [List.cons_append, List.nil_append]))
        refine r_cstrH (by with_reducible assumption) ?_
        intro tc s11 hh H
        rw [← hh] at hone
        repeat' (first | ((with_reducible show wpAny _ _ (eval (Expr.Name _ _) _) _ _ _); with_reducible refine r_local (by with_reducible assumption) (by with_reducible repeat (first | exact List.mem_cons_self | refine List.mem_cons_of_mem _ ?_)) ?_ (by with_unfolding_all rfl) (by with_unfolding_all rfl) (by with_unfolding_all decide)) | ((with_reducible show wpAny _ _ (eval (Expr.Name _ _) _) _ _ _); refine r_builtin (by with_reducible assumption) (by with_reducible assumption) (by with_reducible assumption) (by k_is) (by boot_by_name) ?_) | (with_reducible refine Call_ ?_ (by with_unfolding_all rfl)) | ((with_reducible show wpAny _ _ (spliced _) _ _ _); with_reducible refine spliced_none ?_) | ((with_reducible show wpAny _ _ (spliced _) _ _ _); with_reducible refine spliced_more ?_ (by with_unfolding_all rfl)) | ((with_reducible show wpAny _ _ (callWith _ _ _ _ _) _ _ _); with_reducible refine PyProof.Rows.callWith_type1 ?_ (by with_unfolding_all rfl) (by with_unfolding_all rfl)))
        refine r_str_own (XB.keeps H.stays) hfs hms hone (by rw [Around.mark_units, units_deeper]; omega) ?_
        repeat' (first | (with_reducible refine wpAny_execs_nil ?_) | ((with_reducible show wpAny _ _ (call (Value.builtin "list.append") _ _) _ _ _); with_reducible refine r_append (by with_reducible assumption) (by with_reducible repeat (first | exact SetN.hit | apply SetN.skip)) (by first | omega | (simp only [List.length_append, List.length_cons, List.length_nil]; omega)) ?_; intro _ _) | ((with_reducible show wpAny _ _ (spliced _) _ _ _); with_reducible refine spliced_none ?_) | ((with_reducible show wpAny _ _ (newList _) _ _ _); refine r_newList (by with_reducible assumption) ?_; intro _ _ _))
        clear H
        rename Sy _ _ _ _ _ _ _ _ _ => H
        refine ⟨_, _, [(Str.ofString "written", .bytes (B l) t), (Str.ofString "kinds", .ref kl), (Str.ofString "outer", .ref xo), (Str.ofString "place", .ref pl), (Str.ofString "inner", .ref x), (Str.ofString "rows", .ref rl)], _, H, by walk_at "Msub", by show Str.ofString "refused" ∉ [Str.ofString "written", Str.ofString "kinds", Str.ofString "outer", Str.ofString "place", Str.ofString "inner", Str.ofString "rows"]; decide, fun s₆ H6 => ?_⟩
        repeat' (first | (with_reducible refine wpAny_execs_nil ?_) | (with_reducible refine seq_next ?_))
        refine hRn _ ?_
        exact told_close (c := c) (itp := (it, io)) hall hst ⟨at', ta, tb, oe', hGd', rfl, he1', he2'⟩ (by rw [errRow_79]; exact ⟨_, _, rfl⟩) hex g3 hR hrl H6 (by walk_at "Msub") (by dsimp only [List.cons_append, List.nil_append]; walk_at "Msub")
      · refine pass_own H9 XB TB x9 (c := .ref 79) hner hm2 ?_ rfl rfl (by decide)
        refine fit_own P H8 hZ hZ' (q3.trans q1) (q4.trans q2) x9 (c := .type "ValueError") (fun E' Q' hq => r_builtin H9 XB TB hnve (by boot_by_name) hq (by decide) rfl rfl (by decide)) XB hm3 (by with_reducible repeat (first | exact SetV.hit | exact SetV.nil | apply SetV.skip (by with_unfolding_all decide))) ?_
        clear H8 H9 x9
        intro s10 E' q5 q6 H hone
        obtain ⟨at', ta, tb, oe', hGd', rfl, he1', he2'⟩ := hok'
        dsimp only [List.cons_append, List.nil_append] at H
        repeat' ((fail_if_success ((with_reducible show PySem.wpAny _ _ (PySem.eval (PySem.Expr.Constant (PySem.Const.str _) _ _) _) _ _ _))); first | ((with_reducible show wpAny _ _ (eval (Expr.Name _ _) _) _ _ _); with_reducible refine r_local (by with_reducible assumption) (by with_reducible repeat (first | exact List.mem_cons_self | refine List.mem_cons_of_mem _ ?_)) ?_ (by with_unfolding_all rfl) (by with_unfolding_all rfl) (by with_unfolding_all decide)) | (with_reducible refine MethodCall_ ?_ (by with_unfolding_all rfl)) | (with_reducible refine List_ ?_) | (with_reducible refine x_expr ?_ (by with_unfolding_all rfl) (by with_unfolding_all rfl)) | ((with_reducible show wpAny _ _ (getMethod _ _ _) _ _ _); with_reducible refine r_meth_list (by with_reducible assumption) (by with_reducible repeat (first | exact List.mem_cons_self | refine List.mem_cons_of_mem _ ?_)) PySem.F.slot_list_append PySem.F.type_list_append ?_) | ((with_reducible show wpAny _ _ (spliced _) _ _ _); with_reducible refine spliced_more ?_ (by with_unfolding_all rfl)) | ((with_reducible show wpAny _ _ (callWith _ _ _ _ _) _ _ _); with_reducible refine callWith_method1 ?_ (by with_unfolding_all rfl) (by with_unfolding_all rfl); dsimp only [List.cons_append, List.nil_append]))
        refine r_cstrH (by with_reducible assumption) ?_
        intro tc s11 hh H
        rw [← hh] at hone
        repeat' (first | ((with_reducible show wpAny _ _ (eval (Expr.Name _ _) _) _ _ _); with_reducible refine r_local (by with_reducible assumption) (by with_reducible repeat (first | exact List.mem_cons_self | refine List.mem_cons_of_mem _ ?_)) ?_ (by with_unfolding_all rfl) (by with_unfolding_all rfl) (by with_unfolding_all decide)) | ((with_reducible show wpAny _ _ (eval (Expr.Name _ _) _) _ _ _); refine r_builtin (by with_reducible assumption) (by with_reducible assumption) (by with_reducible assumption) (by k_is) (by boot_by_name) ?_) | (with_reducible refine Call_ ?_ (by with_unfolding_all rfl)) | ((with_reducible show wpAny _ _ (spliced _) _ _ _); with_reducible refine spliced_none ?_) | ((with_reducible show wpAny _ _ (spliced _) _ _ _); with_reducible refine spliced_more ?_ (by with_unfolding_all rfl)) | ((with_reducible show wpAny _ _ (callWith _ _ _ _ _) _ _ _); with_reducible refine PyProof.Rows.callWith_type1 ?_ (by with_unfolding_all rfl) (by with_unfolding_all rfl)))
        refine r_str_VE hone (by rw [Around.mark_units, units_deeper]; omega) ?_
        repeat' (first | (with_reducible refine wpAny_execs_nil ?_) | ((with_reducible show wpAny _ _ (call (Value.builtin "list.append") _ _) _ _ _); with_reducible refine r_append (by with_reducible assumption) (by with_reducible repeat (first | exact SetN.hit | apply SetN.skip)) (by first | omega | (simp only [List.length_append, List.length_cons, List.length_nil]; omega)) ?_; intro _ _) | ((with_reducible show wpAny _ _ (spliced _) _ _ _); with_reducible refine spliced_none ?_) | ((with_reducible show wpAny _ _ (newList _) _ _ _); refine r_newList (by with_reducible assumption) ?_; intro _ _ _))
        clear H
        rename Sy _ _ _ _ _ _ _ _ _ => H
        refine ⟨_, _, [(Str.ofString "written", .bytes (B l) t), (Str.ofString "kinds", .ref kl), (Str.ofString "outer", .ref xo), (Str.ofString "place", .ref pl), (Str.ofString "inner", .ref x), (Str.ofString "rows", .ref rl)], _, H, by walk_at "Msub", by show Str.ofString "refused" ∉ [Str.ofString "written", Str.ofString "kinds", Str.ofString "outer", Str.ofString "place", Str.ofString "inner", Str.ofString "rows"]; decide, fun s₆ H6 => ?_⟩
        repeat' (first | (with_reducible refine wpAny_execs_nil ?_) | (with_reducible refine seq_next ?_))
        refine hRn _ ?_
        exact told_close (c := c) (itp := (it, io)) hall hst ⟨at', ta, tb, oe', hGd', rfl, he1', he2'⟩ (by rw [errRow_VE]; exact ⟨_, _, rfl⟩) hex g3 hR hrl H6 (by walk_at "Msub") (by dsimp only [List.cons_append, List.nil_append]; walk_at "Msub")
  · clear H
    rintro g vars news s' ⟨ld, rv, n, rfl, rfl, hok, hfg, g3, hR, hrl⟩ H
    have hlen : kv.length = kinds.length := Paired.length' hk
    replace hok : okI l tail pl kp en (toldAll ⟨reps, [], false⟩ (kinds.take kv.length)).2 ld := hok
    replace hR : RowsAt g (toldAll ⟨reps, [], false⟩ (kinds.take kv.length)).1 rv := hR
    rw [hlen, List.take_length] at hok hR
    obtain ⟨at_, ta, tb, oe, hGd, rfl, he1, he2⟩ := hok
    replace H : Sy base s [90, 97] g fr L [(Str.ofString "written", .bytes (B l) t), (Str.ofString "kinds", .ref kl), (Str.ofString "outer", .ref xo), (Str.ofString "place", .ref pl), (Str.ofString "inner", .ref x), (Str.ofString "rows", .ref rl)] [(pl, lst [.int (at_ : Nat) ta] 0), (kp, lst [.str (S (toldAll ⟨reps, [], false⟩ kinds).2.kept) tb] 0), (en, oe), (rl, lst rv n)] s' := H
    have hrl2 : rv.length ≤ 1000 := by omega
    repeat' (first | ((with_reducible show wpAny _ _ (eval (Expr.Name _ _) _) _ _ _); with_reducible refine r_local (by with_reducible assumption) (by with_reducible repeat (first | exact List.mem_cons_self | refine List.mem_cons_of_mem _ ?_)) ?_ (by with_unfolding_all rfl) (by with_unfolding_all rfl) (by with_unfolding_all decide)) | (with_reducible refine r_cint (by with_reducible assumption) ?_; intro _ _ _) | (with_reducible refine r_cstr (by with_reducible assumption) ?_; intro _ _ _) | (with_reducible refine wpAny_BinOp ?_) | (with_reducible refine Subscript_ ?_) | (with_reducible refine List_ ?_) | (with_reducible refine x_return ?_) | ((with_reducible show wpAny _ _ (spliced _) _ _ _); with_reducible refine spliced_more ?_ (by with_unfolding_all rfl)))
    refine r_item_list (by with_reducible assumption) (by with_reducible repeat (first | exact List.mem_cons_self | refine List.mem_cons_of_mem _ ?_)) (by decide) (by decide) rfl ?_
    repeat' ((fail_if_success ((with_reducible show PySem.wpAny _ _ (PySem.newList _) _ _ _))); ((with_reducible show wpAny _ _ (spliced _) _ _ _); with_reducible refine spliced_none ?_))
    refine r_newList (by with_reducible assumption) ?_
    clear H
    intro pr s7 H
    repeat' ((fail_if_success ((with_reducible show PySem.wpAny _ _ (PySem.newList _) _ _ _))); ((with_reducible show wpAny _ _ (spliced _) _ _ _); with_reducible refine spliced_none ?_))
    refine r_newList (by with_reducible assumption) ?_
    clear H
    intro pq s8 H
    refine r_add_list H (by with_reducible repeat (first | exact List.mem_cons_self | refine List.mem_cons_of_mem _ ?_)) (by with_reducible repeat (first | exact List.mem_cons_self | refine List.mem_cons_of_mem _ ?_)) (by simp only [List.length_cons, List.length_nil]; omega) ?_
    clear H
    intro d s9 H
    repeat' (fail)
    refine hQ _ _ ?_
    refine h d _ 0 at_ ps1 ps2 s9 (H.keep _ _ (hfg (90, tabObj ps1) (.head _))) (H.keep _ _ (hfg (97, tabObj ps2) (.tail _ (.head _)))) H.gens H.os H.done (H.led _ List.mem_cons_self).1 ?_ hGd
    exact Paired.app (hR.mono H.keep) (Paired.one' ⟨pr, _, rfl, (H.led (pr, lst _ 0) (by with_reducible repeat (first | exact List.mem_cons_self | refine List.mem_cons_of_mem _ ?_))).1, ⟨_, _, rfl⟩⟩)
end Mine

set_option maxRecDepth 100000
set_option maxHeartbeats 400000
namespace Mine
/-- the law's own frame -/
theorem Sy.start {base : Heap} {s : Shared} {L : Addr} {m : Str → Option Value} {vars : List (Str × Value)} {news : List (Addr × Obj)} (F : Fr base L s.heap m) (N : News base L s.heap news) (hv : ∀ p ∈ vars, m p.1 = some p.2) (vd : (vars.map (·.1)).Nodup) (nd : (news.map (·.1)).Nodup) :
    Sy base { s with heap := base } [] base [] L vars news s := by
  refine ⟨rfl, rfl, ⟨m, F.ns, hv⟩, vd, F.keep, fun b hb => ?_, fun p hp => ⟨(N p hp).1, fun q => (N p hp).2.1 (List.mem_singleton.mp q), (N p hp).2.2⟩, nd, (fun _ h => nomatch h), (fun h => nomatch h), (fun _ h => nomatch h), fun _ _ e => e, fun b o e _ _ => e⟩
  rw [List.mem_singleton.mp hb]
  exact Heap.get?_none_of_le F.above
theorem Pre.start {base : Heap} {A : Around} {s : Shared} (hh : A.handled = none) (hf : A.frames = some []) : Pre base A [] [] [] { s with heap := base } :=
  ⟨hh, hf, rfl, (fun _ h => nomatch h), (fun _ _ e => e), (fun _ h => nomatch h), (fun _ h => nomatch h), List.nodup_nil⟩
section
variable {base : Heap} {s₀ : Shared} {g : Heap} {Z fr : List Addr} {L : Addr} {vars : List (Str × Value)} {news : List (Addr × Obj)} {s : Shared}
/-- all lists may be frozen, where only tables are in the ledger -/
theorem Sy.freezeL (H : Sy base s₀ Z g [] L vars news s) (ht : ∀ p ∈ news, ∃ ps, p.2 = tabObj ps) : ∃ g', Sy base s₀ Z g' [] L vars news s ∧ (∀ a vs n, s.heap.get? a = some (lst vs n) → g'.get? a = some (lst vs n)) ∧ ∀ c oc, g.get? c = some oc → g'.get? c = some oc := by
  refine ⟨_, H.reground, fun a vs n e => hideAll_get _ e fun hm => ?_, fun _ _ e => H.frozen_g e⟩
  rcases List.mem_append.mp hm with hm | hm
  · obtain ⟨p, hp, rfl⟩ := List.mem_map.mp hm
    obtain ⟨ps, hps⟩ := ht p hp
    have := (H.led p hp).1
    rw [e, hps] at this
    cases this
  · obtain ⟨m, ⟨oL, es, ep, hL, hdL, _⟩, _⟩ := H.ns
    rw [List.mem_singleton.mp hm, hL] at e
    cases e
    cases hdL
end
theorem RowsAt.monoL {g g' : Heap} {rows : List Row} {mv : List Value} (h : RowsAt g rows mv) (k : ∀ a vs n, g.get? a = some (lst vs n) → g'.get? a = some (lst vs n)) : RowsAt g' rows mv := by
  unfold RowsAt at h ⊢
  induction h with
  | nil => exact .nil
  | cons h _ ih => obtain ⟨a, vs, e, hg, hr⟩ := h; exact .cons ⟨a, vs, e, k _ _ _ hg, hr⟩ ih
theorem MarksAt.monoL {g g' : Heap} {marks : List (Nat × List Nat)} {mv : List Value} (h : MarksAt g marks mv) (k : ∀ a vs n, g.get? a = some (lst vs n) → g'.get? a = some (lst vs n)) : MarksAt g' marks mv := by
  unfold MarksAt at h ⊢
  induction h with
  | nil => exact .nil
  | cons h _ ih => obtain ⟨a, t, u, e, hg⟩ := h; exact .cons ⟨a, t, u, e, k _ _ _ hg⟩ ih
end Mine
namespace Mine
/-- how the law ends -/
noncomputable def LawEnd (base : Heap) (s : Shared) (f : Flow) (s' : Shared) : Prop := f = .ret (.bool true) ∧ s'.gens = s.gens ∧ s'.os = s.os ∧ base.StaysIn s'.heap ∧ GrownAt 97 s'.heap ∧ GrownAt 90 s'.heap
theorem law_in {prog : Program} {w : World} {A : Around} {E : Value → Shared → Prop} {Q : Flow → Shared → Prop} {s : Shared} {base : Heap} {n : Str} {scope : Scope} {L a sl : Addr} {cd : Value} {body : List Stmt} {m : Str → Option Value} {news : List (Addr × Obj)} (F : Fr base L s.heap m) (N : News base L s.heap news) (nd : (news.map (·.1)).Nodup)
    (hv : m (Str.ofString "script") = some (.ref sl)) (hQ : ∀ f s', LawEnd base s f s' → Q f s')
    (h : ∀ E s₀, s₀ = { s with heap := base } → Sy base s₀ [] base [] L [(Str.ofString "script", .ref sl)] news s → wpAny (model prog w) (A.deeper (envX n scope L a cd [])) (execs body (envX n scope L a cd [])) (LawEnd base s₀) E s) :
    wpAny (model prog w) (A.deeper (envOf n scope L a cd)) (execs body (envOf n scope L a cd)) Q E s :=
  wpAny_mono (h _ _ rfl (Sy.start F N (fun p hp => by rw [List.mem_singleton.mp hp]; exact hv) (by simp) nd)) hQ fun _ _ e => e
end Mine

set_option maxRecDepth 100000
set_option maxHeartbeats 400000
namespace Mine
noncomputable def lawNums (ns : List Int) : List Nat := [226, 124, 13, 33] ++ (ns.take 12).map fun i => (i % 288).toNat
noncomputable def lawKinds (zs : List Nat) : List Nat := zs.map (· / 96) ++ List.replicate ((layAll zs).octs.length + (layAll zs).marks.length + 1) 0
theorem lawNums_lt {ns : List Int} : ∀ z ∈ lawNums ns, z < 288 := by
  intro z hz
  rcases List.mem_append.mp hz with hz | hz
  · simp only [List.mem_cons, List.not_mem_nil, or_false] at hz; omega
  · obtain ⟨i, _, rfl⟩ := List.mem_map.mp hz
    omega
theorem lawNums_len (ns : List Int) : (lawNums ns).length ≤ 16 := by
  unfold lawNums
  simp only [List.length_append, List.length_map, List.length_take, List.length_cons, List.length_nil]
  omega
theorem lawKinds_le {zs : List Nat} (h : ∀ z ∈ zs, z < 288) : ∀ k ∈ lawKinds zs, k ≤ 2 := by
  intro k hk
  rcases List.mem_append.mp hk with hk | hk
  · obtain ⟨z, hz, rfl⟩ := List.mem_map.mp hk
    have := h z hz
    omega
  · rw [(List.mem_replicate.mp hk).2]; decide
theorem lawKinds_len {zs : List Nat} (h : zs.length ≤ 16) : (lawKinds zs).length ≤ 100 := by
  obtain ⟨l1, _, _, l4⟩ := layAll_len zs
  unfold lawKinds
  simp only [List.length_append, List.length_map, List.length_replicate]
  omega
theorem goodI_start {zs tail : List Nat} (hn : zs.length ≤ 16) (hz : ∀ z ∈ zs, z < 288) : GoodI (flat (laidReps zs) ++ tail) tail 0 ⟨laidReps zs, [], false⟩ := by
  have h1 := laidReps_ok hn hz
  have h2 := flat_len_le h1
  have h3 := laidReps_len hn
  refine ⟨Nat.zero_le _, rfl, fun _ => ⟨endR zs.sum, ?_, parse_end _⟩, h1, (fun _ h => nomatch h), ?_⟩
  · unfold laidReps
    exact List.mem_append_right _ (.head _)
  · dsimp only [List.length_nil]
    omega
theorem law_rows {zs tail : List Nat} (hz : ∀ z ∈ zs, z < 288) :
    (toldAll ⟨laidReps zs, [], false⟩ (lawKinds zs)).1 = (plainAll (layAll zs).octs (layAll zs).marks (lawKinds zs)).rows ∧
      ∀ at_, GoodI (flat (laidReps zs) ++ tail) tail at_ (toldAll ⟨laidReps zs, [], false⟩ (lawKinds zs)).2 → at_ = (flat (laidReps zs)).length := by
  have R := rel_start hz
  obtain ⟨y', x', h1, h2, h3⟩ := all_eq (lawKinds zs) (rows := []) R
  have h4 := all_end (lawKinds zs) (rows := []) R (.inl (by unfold lawKinds; simp only [List.length_append, List.length_map, List.length_replicate]; omega))
  have e1 : toldAll ⟨laidReps zs, [], false⟩ (lawKinds zs) = (x'.rows, y') := h1
  have e2 : plainAll (layAll zs).octs (layAll zs).marks (lawKinds zs) = x' := h2
  rw [h1] at h4
  refine ⟨by rw [e1, e2], fun at_ G => ?_⟩
  rw [e1] at G
  have hr := h3.e1 h4
  have hd := G.drop
  have hle := G.le
  dsimp only at hd
  rw [hr] at hd
  have := congrArg List.length hd
  simp only [List.length_drop, List.length_append, flat, List.flatMap_nil, List.length_nil] at this hle ⊢
  omega
theorem pick_to (vs : List Value) : (slicePick vs.toArray none (some 12) none).toList = vs.take 12 := by
  rw [kms_pick_eq]
  show kms_pick vs _ _ = _
  unfold kms_pick kms_lo kms_hi
  simp only [List.drop_zero, Nat.sub_zero]
  rw [if_neg (by decide)]
  show List.take (min 12 vs.length) vs = _
  by_cases h : 12 ≤ vs.length
  · rw [Nat.min_eq_left h]
  · rw [Nat.min_eq_right (by omega), List.take_length, List.take_of_length_le (by omega)]
theorem ints_take : ∀ {vs : List Value} {ns : List Int} (k : Nat), IntsAre vs ns → IntsAre (vs.take k) (ns.take k)
  | _, _, 0, _ => .nil
  | _, _, _ + 1, .nil => .nil
  | _, _, k + 1, .cons i t r => .cons i t (ints_take k r)
theorem mod_paired : ∀ {vs ys : List Value} {ns : List Int}, IntsAre vs ns → Paired (fun v y => ∃ (i : Int) (u t : Tok), v = Value.int i u ∧ y = Value.int (i % 288) t) vs ys → IsInts (ns.map fun i => (i % 288).toNat) ys
  | _, _, _, .nil, .nil => .nil
  | _, _, _, .cons i t r, .cons h r' => .cons (by
      obtain ⟨i', u', t', e1, e2⟩ := h
      injection e1 with e1 _
      subst e1
      refine ⟨t', e2.trans ?_⟩
      congr 1
      dsimp only
      omega) (mod_paired r r')
theorem div_paired : ∀ {l : List Nat} {vs ys : List Value}, IsInts l vs → Paired (fun v y => ∃ (i : Int) (u t : Tok), v = Value.int i u ∧ y = Value.int (i / 96) t) vs ys → IsInts (l.map (· / 96)) ys
  | _, _, _, .nil, .nil => .nil
  | _, _, _, .cons h r, .cons h' r' => .cons (by
      obtain ⟨t, e⟩ := h
      obtain ⟨i', u', t', e1, e2⟩ := h'
      rw [e] at e1
      injection e1 with e1 _
      subst e1
      refine ⟨t', e2.trans ?_⟩
      congr 1) (div_paired r r')
theorem rep_ints (t : Tok) : ∀ n : Nat, IsInts (List.replicate n 0) (List.replicate n (Value.int 0 t))
  | 0 => .nil
  | n + 1 => .cons ⟨t, rfl⟩ (rep_ints t n)
theorem B_append (a b : List Nat) : B a ++ B b = B (a ++ b) := by
  unfold B
  simp
section
variable {prog : Program} {w : World} {A : Around} {E : Value → Shared → Prop} {s s₀ : Shared} {base g : Heap} {Z fr : List Addr} {L : Addr} {vars : List (Str × Value)} {news : List (Addr × Obj)} {Q : Value → Shared → Prop} {l c : Addr} {vs ws : List Value} {n n2 : Nat}
theorem r_add_listH (H : Sy base s₀ Z g fr L vars news s) (hm : s.heap.get? l = some (lst vs n)) (hm2 : s.heap.get? c = some (lst ws n2)) (hsz : vs.length + ws.length ≤ 1000000) (h : ∀ d s', Sy base s₀ Z g fr L vars ((d, lst (vs ++ ws) 0) :: news) s' → Q (.ref d) s') :
    wpAny (model prog w) A (binaryOp .Add (.ref l) (.ref c)) Q E s := by
  refine P.add_list (items := vs.toArray) (items2 := ws.toArray) hm hm2 ?_ (by rw [sizeLine_eq, List.size_toArray, List.size_toArray]; omega)
  rw [List.append_toArray]
  exact h _ _ (H.push _ s.toks)
end
end Mine
namespace Mine
theorem ints_mem : ∀ {vs : List Value} {ns : List Int}, IntsAre vs ns → ∀ {v : Value}, v ∈ vs → ∃ i u, v = .int i u
  | _, _, .cons i t r, v, h => by
    rcases List.mem_cons.mp h with rfl | h
    · exact ⟨i, t, rfl⟩
    · exact ints_mem r h
theorem tabs2 {ps qs : Array Value} : ∀ p ∈ [((97 : Addr), tabObj ps), (90, tabObj qs)], ∃ ps, p.2 = tabObj ps := fun p hp => by
  rcases List.mem_cons.mp hp with rfl | hp
  · exact ⟨_, rfl⟩
  · rw [List.mem_singleton.mp hp]; exact ⟨_, rfl⟩
theorem four_ints (t1 t2 t3 t4 : Tok) {zs : List Nat} {ys : List Value} (h : IsInts zs ys) : IsInts ([226, 124, 13, 33] ++ zs) ([Value.int 226 t1, .int 124 t2, .int 13 t3, .int 33 t4] ++ ys) :=
  .cons ⟨t1, rfl⟩ (.cons ⟨t2, rfl⟩ (.cons ⟨t3, rfl⟩ (.cons ⟨t4, rfl⟩ h)))
end Mine
namespace Mine
theorem octs_lt : ∀ (zs : List Nat) (x : Laid), (∀ b ∈ x.octs, b < 256) → ∀ b ∈ (zs.foldl layStep x).octs, b < 256
  | [], _, h => h
  | z :: r, x, h => octs_lt r (layStep x z) fun b hb => by
    have hb : b ∈ x.octs ++ [octOf z] := hb
    rcases List.mem_append.mp hb with hb | hb
    · exact h b hb
    · rw [List.mem_singleton.mp hb]; have := octOf_le z; omega
theorem zz_facts : (txt "257 \"zz\"").length = 8 ∧ ∀ b ∈ txt "257 \"zz\"", b < 256 := by decide +kernel
theorem zz_rep : ∀ r ∈ [txt "257 \"zz\""], r.length ≤ 255 ∧ ∀ b ∈ r, b < 256 := fun r hr => by
  rw [List.mem_singleton.mp hr]
  exact ⟨by rw [zz_facts.1]; decide, zz_facts.2⟩
theorem zz_flat : (flat [txt "257 \"zz\""]).length = 9 := by
  rw [flat_cons, List.length_cons, List.length_append, zz_facts.1]; rfl
end Mine
namespace Mine
theorem Sy.noff {base : Heap} {s₀ : Shared} {g : Heap} {Z fr : List Addr} {L : Addr} {vars : List (Str × Value)} {news : List (Addr × Obj)} {s : Shared} (H : Sy base s₀ Z g fr L vars news s) {a : Addr} {o : Obj} (e : g.get? a = some o) : a ∉ L :: fr := fun hm => by
  rw [H.off _ hm] at e; cases e
theorem plainStep_len (octs : List Nat) (marks : List (Nat × List Nat)) (x : Pl) (k : Nat) : (plainStep octs marks x k).rows.length = x.rows.length + 1 := by
  unfold plainStep
  split
  · simp
  · split
    · simp
    · split
      · simp
      · split <;> simp
theorem plainAll_len (octs : List Nat) (marks : List (Nat × List Nat)) : ∀ (kinds : List Nat) (x : Pl), (kinds.foldl (plainStep octs marks) x).rows.length = x.rows.length + kinds.length
  | [], _ => rfl
  | k :: r, x => by rw [List.foldl_cons, plainAll_len octs marks r, plainStep_len, List.length_cons]; omega
end Mine

set_option maxRecDepth 100000
set_option maxHeartbeats 8000000
open Mine in
theorem Mine.law_holds : PySem.Challenge.rw_of0006_01.Holds := Mine.hd (by
  w_strict (
    k_go0
    rename Fr (ghostOf _ _) _ _ _ => FR
    rename News (ghostOf _ _) _ _ _ => NW
    rename Top _ _ _ _ _ (ghostOf _ _) => TB
    rename Frag.In _ (ghostOf _ _) => XB
    rename CodeHd _ (94, 90).1 _ => C1
    rename CodeHd _ (101, 97).1 _ => C2
    rename Heap.IsList (ghostOf _ _) _ _ => hsl
    rename IntsAre _ _ => hints
    rename ¬ (_ < (List.length _ : Int)) => hlen
    rename (_ = (#[] : Array GenState)) => hgens
    refine law_in FR NW (by decide) (by with_unfolding_all rfl) (fun f s' hE => ?fin) ?_
    case fin =>
      obtain ⟨rfl, e1, e2, e3, e4, e5⟩ := hE
      refine ⟨⟨.inl ⟨.bool true, .bool true, [], rfl, raisesW_false ?_, .bool true, ?_, fun _ => ⟨.nil, fun _ h => nomatch h⟩⟩, e3, e2, e1.trans hgens⟩, ⟨e4, e5, trivial⟩⟩
      · wrow_none_raised
      · kc_post
    intro EE s0 hs0 H
    dsimp only
    dsimp only at H
    replace C1 : CodeHd _ 94 90 := C1
    replace C2 : CodeHd _ 101 97 := C2
    clear FR NW
    generalize ghostOf _ _ = base at *
    have P : Pre base callerA [] [] [] s0 := hs0 ▸ Pre.start rfl rfl
    clear hs0
    rename List Int => ns
    have hdep : callerA.depth + 40 < recursionLimit := by decide
    have hun : callerA.units + 40 < cLine := by decide
    have XB0 := XB
    revert XB; k_fill; intro XB
    repeat' (first | (with_reducible refine r_cint (by with_reducible assumption) ?_; intro _ _ _) | (with_reducible refine wpAny_BinOp ?_) | (with_reducible refine List_ ?_) | (with_reducible refine x_assign ?_ (by with_unfolding_all rfl)) | ((with_reducible show wpAny _ _ (spliced _) _ _ _); with_reducible refine spliced_none ?_) | ((with_reducible show wpAny _ _ (spliced _) _ _ _); with_reducible refine spliced_more ?_ (by with_unfolding_all rfl)) | ((with_reducible show wpAny _ _ (newList _) _ _ _); refine r_newList (by with_reducible assumption) ?_; intro _ _ _))
    clear H
    rename Sy _ _ _ _ _ _ _ _ _ => H
    refine' r_comp (fun v y => ∃ i u t, v = .int i u ∧ y = .int (i % 288) t) ?c1 ?c2 ?c3 ?c4 ?c5 ?_
    case c1 => exact rfl
    case c2 => decide
    case c3 => rfl
    case c4 => decide
    case c5 => decide
    repeat' (first | (with_reducible refine r_sub_cut ?_) | ((with_reducible show wpAny _ _ (eval (Expr.Name _ _) _) _ _ _); with_reducible refine r_local (by with_reducible assumption) (by with_reducible repeat (first | exact List.mem_cons_self | refine List.mem_cons_of_mem _ ?_)) ?_ (by with_unfolding_all rfl) (by with_unfolding_all rfl) (by with_unfolding_all decide)) | (with_reducible refine r_cint (by with_reducible assumption) ?_; intro _ _ _) | (with_reducible refine evalPart_none_step ?_) | (with_reducible refine evalPart_some_step ?_))
    clear H
    rename Sy _ _ _ _ _ _ _ _ _ => H
    have hvl := hints.length
    refine r_cut_list H (hsl.at fun o e => H.keep _ _ e) (by constructor) (by constructor) (by omega) ?_
    clear H
    intro dsl s2 H
    rw [pick_to] at H
    refine comp_list P.hh H ⟨_, H.get List.mem_cons_self, rfl, 0, rfl⟩ (by rw [List.length_take]; omega) (fun v hv => ?_) ?_
    · obtain ⟨i, u, rfl⟩ := ints_mem (ints_take 12 hints) hv
      exact elt_mod (by decide) rfl (fun C => rfl) (by decide)
    clear H
    intro D nD ys s3 hys H
    have hz12 := mod_paired (ints_take 12 hints) hys
    have hyl : ys.length ≤ 12 := by rw [Paired.length' hz12, List.length_map, List.length_take]; omega
    refine r_add_list H (vs := [.int 226 _, .int 124 _, .int 13 _, .int 33 _]) (by with_reducible repeat (first | exact List.mem_cons_self | refine List.mem_cons_of_mem _ ?_)) (by with_reducible repeat (first | exact List.mem_cons_self | refine List.mem_cons_of_mem _ ?_)) (by simp only [List.length_cons, List.length_nil]; omega) ?_
    clear H
    intro nl s4 H
    obtain ⟨nv, hzs, hnl0⟩ : ∃ nv, IsInts (lawNums ns) nv ∧ s4.heap.get? nl = some (lst nv 0) := by
      refine ⟨_, ?_, H.get List.mem_cons_self⟩
      exact four_ints _ _ _ _ hz12
    clear hys hz12
    have hz := lawNums_lt (ns := ns)
    have hzl := lawNums_len ns
    generalize lawNums ns = zs at *
    obtain ⟨g1, H1, fz1, mono1⟩ := (H.sub (news' := [(97, tabObj #[]), (90, tabObj #[])]) (by walk_at "Msub")).freezeL tabs2
    have gn := fz1 _ _ _ hnl0
    clear H hnl0 fz1
    repeat' (first | ((with_reducible show wpAny _ _ (eval (Expr.Name _ _) _) _ _ _); with_reducible refine r_local (by with_reducible assumption) (by with_reducible repeat (first | exact List.mem_cons_self | refine List.mem_cons_of_mem _ ?_)) ?_ (by with_unfolding_all rfl) (by with_unfolding_all rfl) (by with_unfolding_all decide)) | ((with_reducible show wpAny _ _ (eval (Expr.Name _ _) _) _ _ _); refine r_global (by with_reducible assumption) (by with_reducible assumption) (by with_reducible assumption) (by k_is) ?_) | (with_reducible refine Call_ ?_ (by with_unfolding_all rfl)) | (with_reducible refine x_unpack ?_ (by with_unfolding_all rfl) (by with_unfolding_all rfl)) | ((with_reducible show wpAny _ _ (spliced _) _ _ _); with_reducible refine spliced_none ?_) | ((with_reducible show wpAny _ _ (spliced _) _ _ _); with_reducible refine spliced_more ?_ (by with_unfolding_all rfl)) | ((with_reducible show wpAny _ _ (callWith _ _ _ _ _) _ _ _); with_reducible refine r_callK (by with_reducible assumption) (by k_is) ?_ (by with_unfolding_all rfl)) | ((with_reducible show wpAny _ _ (storeName _ _ _) _ _ _); with_reducible refine r_store (by with_reducible assumption) (by with_reducible repeat (first | exact SetV.hit | exact SetV.nil | apply SetV.skip (by with_unfolding_all decide))) ?_ (by with_unfolding_all rfl) (by with_unfolding_all rfl); intro _ _) | (with_reducible refine r_stays (by with_reducible assumption) ?_))
    clear H1
    rename Sy _ _ _ _ _ _ _ _ _ => H
    refine laid_spec XB0 TB (H.pre P rfl rfl (List.nil_sublist _)) (by show callerA.depth + 1 + 10 < _; omega) (H.keep _ _ gn) (fun hm => ?_) hzs hz hzl ?_
    · have := H.off _ hm; rw [gn] at this; cases this
    intro r ov mv rv o m q no nm nr s5 q1 q2 hx hr hgo hgm hgq ho hm hrs hnew hmn
    obtain ⟨g2, H2, fz2, mono2⟩ := (H.ext0 hx q1 q2).freezeL tabs2
    replace hr := fz2 _ _ _ hr
    replace hgo := fz2 _ _ _ hgo
    replace hgm := fz2 _ _ _ hgm
    replace hgq := fz2 _ _ _ hgq
    replace hm := hm.monoL fz2
    replace gn := mono2 _ _ gn
    clear H hx hnew hmn fz2
    refine r_unpack P.hh H2 ⟨_, H2.keep _ _ hr, rfl, 0, rfl⟩ (by with_unfolding_all rfl) (by with_unfolding_all rfl) ?_
    clear H2
    intro s6 H
    refine assignInOrder_cons (assign_Name ?_)
    repeat' (((with_reducible show wpAny _ _ (storeName _ _ _) _ _ _); with_reducible refine r_store (by with_reducible assumption) (by with_reducible repeat (first | exact SetV.hit | exact SetV.nil | apply SetV.skip (by with_unfolding_all decide))) ?_ (by with_unfolding_all rfl) (by with_unfolding_all rfl); intro _ _))
    refine assignInOrder_cons (assign_Name ?_)
    repeat' (((with_reducible show wpAny _ _ (storeName _ _ _) _ _ _); with_reducible refine r_store (by with_reducible assumption) (by with_reducible repeat (first | exact SetV.hit | exact SetV.nil | apply SetV.skip (by with_unfolding_all decide))) ?_ (by with_unfolding_all rfl) (by with_unfolding_all rfl); intro _ _))
    refine assignInOrder_cons (assign_Name ?_)
    repeat' (((with_reducible show wpAny _ _ (storeName _ _ _) _ _ _); with_reducible refine r_store (by with_reducible assumption) (by with_reducible repeat (first | exact SetV.hit | exact SetV.nil | apply SetV.skip (by with_unfolding_all decide))) ?_ (by with_unfolding_all rfl) (by with_unfolding_all rfl); intro _ _))
    refine assignInOrder_nil ?_
    repeat' (first | (with_reducible refine wpAny_BinOp ?_) | (with_reducible refine x_assign ?_ (by with_unfolding_all rfl)))
    clear H
    rename Sy _ _ _ _ _ _ _ _ _ => H
    obtain ⟨ll1, ll2, ll3, ll4⟩ := layAll_len zs
    have lo := Paired.length' ho
    have lm := Paired.length' hm
    have lz := Paired.length' hzs
    refine' r_comp (fun v y => ∃ i u t, v = .int i u ∧ y = .int (i / 96) t) ?c1 ?c2 ?c3 ?c4 ?c5 ?_
    case c1 => exact rfl
    case c2 => decide
    case c3 => rfl
    case c4 => decide
    case c5 => decide
    repeat' (((with_reducible show wpAny _ _ (eval (Expr.Name _ _) _) _ _ _); with_reducible refine r_local (by with_reducible assumption) (by with_reducible repeat (first | exact List.mem_cons_self | refine List.mem_cons_of_mem _ ?_)) ?_ (by with_unfolding_all rfl) (by with_unfolding_all rfl) (by with_unfolding_all decide)))
    refine comp_list (items := nv) P.hh H ⟨_, H.keep _ _ gn, rfl, 0, rfl⟩ (by omega) (fun v hv => ?_) ?_
    · obtain ⟨j, hj⟩ := List.getElem?_of_mem hv
      obtain ⟨z, _, tz, rfl⟩ := Paired.get' hzs hj
      exact elt_div (by decide) (by decide) rfl (fun C => rfl) (by decide)
    clear H
    intro D2 nD2 ys2 s7 hys2 H
    have hkz := div_paired hzs hys2
    have hkzl := Paired.length' hkz
    rw [List.length_map] at hkzl
    clear hys2
    repeat' (first | ((with_reducible show wpAny _ _ (eval (Expr.Name _ _) _) _ _ _); with_reducible refine r_local (by with_reducible assumption) (by with_reducible repeat (first | exact List.mem_cons_self | refine List.mem_cons_of_mem _ ?_)) ?_ (by with_unfolding_all rfl) (by with_unfolding_all rfl) (by with_unfolding_all decide)) | ((with_reducible show wpAny _ _ (eval (Expr.Name _ _) _) _ _ _); refine r_builtin (by with_reducible assumption) (by with_reducible assumption) (by with_reducible assumption) (by k_is) (by boot_by_name) ?_) | (with_reducible refine r_cint (by with_reducible assumption) ?_; intro _ _ _) | (with_reducible refine wpAny_BinOp ?_) | (with_reducible refine Call_ ?_ (by with_unfolding_all rfl)) | (with_reducible refine List_ ?_) | ((with_reducible show wpAny _ _ (spliced _) _ _ _); with_reducible refine spliced_none ?_) | ((with_reducible show wpAny _ _ (spliced _) _ _ _); with_reducible refine spliced_more ?_ (by with_unfolding_all rfl)) | ((with_reducible show wpAny _ _ (callWith _ _ _ _ _) _ _ _); with_reducible refine PyProof.Rows.callWith_builtin1 ?_ (by with_unfolding_all rfl) (by with_unfolding_all rfl)) | ((with_reducible show wpAny _ _ (newList _) _ _ _); refine r_newList (by with_reducible assumption) ?_; intro _ _ _))
    clear H
    rename Sy _ _ _ _ _ _ _ _ _ => H
    refine r_len_G H hgo (by omega) ?_
    clear H
    intro tl1 s8 H
    repeat' (first | ((with_reducible show wpAny _ _ (eval (Expr.Name _ _) _) _ _ _); with_reducible refine r_local (by with_reducible assumption) (by with_reducible repeat (first | exact List.mem_cons_self | refine List.mem_cons_of_mem _ ?_)) ?_ (by with_unfolding_all rfl) (by with_unfolding_all rfl) (by with_unfolding_all decide)) | ((with_reducible show wpAny _ _ (eval (Expr.Name _ _) _) _ _ _); refine r_builtin (by with_reducible assumption) (by with_reducible assumption) (by with_reducible assumption) (by k_is) (by boot_by_name) ?_) | (with_reducible refine Call_ ?_ (by with_unfolding_all rfl)) | ((with_reducible show wpAny _ _ (spliced _) _ _ _); with_reducible refine spliced_none ?_) | ((with_reducible show wpAny _ _ (spliced _) _ _ _); with_reducible refine spliced_more ?_ (by with_unfolding_all rfl)) | ((with_reducible show wpAny _ _ (callWith _ _ _ _ _) _ _ _); with_reducible refine PyProof.Rows.callWith_builtin1 ?_ (by with_unfolding_all rfl) (by with_unfolding_all rfl)))
    refine r_len_G H hgm (by omega) ?_
    clear H
    intro tl2 s9 H
    repeat' (first | (with_reducible refine r_cint (by with_reducible assumption) ?_; intro _ _ _) | ((with_reducible show wpAny _ _ (binaryOp _ _ _) _ _ _); with_reducible refine r_add_int (by with_reducible assumption) ?_; intro _ _ _))
    clear H
    rename Sy _ _ _ _ _ _ _ _ _ => H
    refine r_mul_list H List.mem_cons_self (by omega) (by omega) ?_
    clear H
    intro dm s10 H
    refine r_add_list H (vs := ys2) (by with_reducible repeat (first | exact List.mem_cons_self | refine List.mem_cons_of_mem _ ?_)) (by with_reducible repeat (first | exact List.mem_cons_self | refine List.mem_cons_of_mem _ ?_)) (by rw [List.length_replicate]; omega) ?_
    clear H
    intro kl s11 H
    obtain ⟨kv, hks, hkl0⟩ : ∃ kv, IsInts (lawKinds zs) kv ∧ s11.heap.get? kl = some (lst kv 0) := by
      refine ⟨_, ?_, H.get List.mem_cons_self⟩
      have e : (((ov.length : Nat) : Int) + ((mv.length : Nat) : Int) + 1).toNat = (layAll zs).octs.length + (layAll zs).marks.length + 1 := by omega
      rw [e]
      exact Paired.app hkz (rep_ints _ _)
    obtain ⟨g3, H3, fz3, mono3⟩ := (H.sub (news' := [(97, tabObj #[]), (90, tabObj #[])]) (by walk_at "Msub")).freezeL tabs2
    have gk := fz3 _ _ _ hkl0
    replace hgo := mono3 _ _ hgo
    replace hgm := mono3 _ _ hgm
    replace hgq := mono3 _ _ hgq
    replace hm := hm.mono mono3
    clear H hkl0 fz3 gn hkz hkzl mono3
    have hkk := lawKinds_le hz
    have hkn := lawKinds_len hzl
    have hrep := laidReps_ok hzl hz
    have hfl := flat_len_le hrep
    have hrn := laidReps_len hzl
    repeat' (first | ((with_reducible show wpAny _ _ (eval (Expr.Name _ _) _) _ _ _); with_reducible refine r_local (by with_reducible assumption) (by with_reducible repeat (first | exact List.mem_cons_self | refine List.mem_cons_of_mem _ ?_)) ?_ (by with_unfolding_all rfl) (by with_unfolding_all rfl) (by with_unfolding_all decide)) | ((with_reducible show wpAny _ _ (eval (Expr.Name _ _) _) _ _ _); refine r_global (by with_reducible assumption) (by with_reducible assumption) (by with_reducible assumption) (by k_is) ?_) | (with_reducible refine Call_ ?_ (by with_unfolding_all rfl)) | (with_reducible refine x_assign ?_ (by with_unfolding_all rfl)) | ((with_reducible show wpAny _ _ (spliced _) _ _ _); with_reducible refine spliced_none ?_) | ((with_reducible show wpAny _ _ (spliced _) _ _ _); with_reducible refine spliced_more ?_ (by with_unfolding_all rfl)) | ((with_reducible show wpAny _ _ (callWith _ _ _ _ _) _ _ _); with_reducible refine r_callK (by with_reducible assumption) (by k_is) ?_ (by with_unfolding_all rfl)) | ((with_reducible show wpAny _ _ (storeName _ _ _) _ _ _); with_reducible refine r_store (by with_reducible assumption) (by with_reducible repeat (first | exact SetV.hit | exact SetV.nil | apply SetV.skip (by with_unfolding_all decide))) ?_ (by with_unfolding_all rfl) (by with_unfolding_all rfl); intro _ _) | (with_reducible refine r_stays (by with_reducible assumption) ?_))
    clear H3
    rename Sy _ _ _ _ _ _ _ _ _ => H
    refine written_spec XB0 TB (H.pre P rfl rfl (List.nil_sublist _)) (by show callerA.depth + 1 + 10 < _; omega) (H.keep _ _ hgq) (fun hm => ?_) hrs hrep (by omega) ?_
    · have := H.off _ hm; rw [hgq] at this; cases this
    intro tw s12 q3 q4 hx2
    replace H := H.ext0 hx2 q3 q4
    repeat' ((fail_if_success ((with_reducible show PySem.wpAny _ _ (PySem.newList _) _ _ _))); first | ((with_reducible show wpAny _ _ (eval (Expr.Name _ _) _) _ _ _); with_reducible refine r_local (by with_reducible assumption) (by with_reducible repeat (first | exact List.mem_cons_self | refine List.mem_cons_of_mem _ ?_)) ?_ (by with_unfolding_all rfl) (by with_unfolding_all rfl) (by with_unfolding_all decide)) | ((with_reducible show wpAny _ _ (eval (Expr.Name _ _) _) _ _ _); refine r_global (by with_reducible assumption) (by with_reducible assumption) (by with_reducible assumption) (by k_is) ?_) | (with_reducible refine r_cstr (by with_reducible assumption) ?_; intro _ _ _) | (with_reducible refine wpAny_BinOp ?_) | (with_reducible refine Call_ ?_ (by with_unfolding_all rfl)) | (with_reducible refine List_ ?_) | (with_reducible refine x_assign ?_ (by with_unfolding_all rfl)) | ((with_reducible show wpAny _ _ (spliced _) _ _ _); with_reducible refine spliced_none ?_) | ((with_reducible show wpAny _ _ (spliced _) _ _ _); with_reducible refine spliced_more ?_ (by with_unfolding_all rfl)) | ((with_reducible show wpAny _ _ (callWith _ _ _ _ _) _ _ _); with_reducible refine r_callK (by with_reducible assumption) (by k_is) ?_ (by with_unfolding_all rfl)) | ((with_reducible show wpAny _ _ (storeName _ _ _) _ _ _); with_reducible refine r_store (by with_reducible assumption) (by with_reducible repeat (first | exact SetV.hit | exact SetV.nil | apply SetV.skip (by with_unfolding_all decide))) ?_ (by with_unfolding_all rfl) (by with_unfolding_all rfl); intro _ _))
    clear H
    rename Sy _ _ _ _ _ _ _ _ _ => H
    refine r_newList H ?_
    clear H
    intro za s13 H
    repeat' (first | ((with_reducible show wpAny _ _ (spliced _) _ _ _); with_reducible refine spliced_none ?_) | (with_reducible refine r_stays (by with_reducible assumption) ?_))
    have hza := H.led _ List.mem_cons_self
    refine written_spec (reps := [txt "257 \"zz\""]) (rn := 0) XB0 TB (H.pre P rfl rfl (List.nil_sublist _)) (by show callerA.depth + 1 + 10 < _; omega) hza.1 hza.2.1 (.cons ⟨_, by rw [S_txt]⟩ .nil) zz_rep (by rw [zz_flat]; decide) ?_
    intro tz2 s14 q5 q6 hx3
    replace H := (H.ext0 hx3 q5 q6).sub (news' := [(97, tabObj #[]), (90, tabObj #[])]) (by walk_at "Msub")
    clear hza hx3
    have htl := zz_flat
    have hty := flat_byte zz_rep
    have htn : flat [txt "257 \"zz\""] ≠ [] := fun e => by rw [e] at htl; cases htl
    generalize flat [txt "257 \"zz\""] = tail at *
    refine r_add_bytes H (by rw [B_size, B_size]; omega) ?_
    rw [B_append]
    clear H
    intro tb s15 H
    repeat' (first | ((with_reducible show wpAny _ _ (eval (Expr.Name _ _) _) _ _ _); with_reducible refine r_local (by with_reducible assumption) (by with_reducible repeat (first | exact List.mem_cons_self | refine List.mem_cons_of_mem _ ?_)) ?_ (by with_unfolding_all rfl) (by with_unfolding_all rfl) (by with_unfolding_all decide)) | ((with_reducible show wpAny _ _ (spliced _) _ _ _); with_reducible refine spliced_none ?_) | ((with_reducible show wpAny _ _ (spliced _) _ _ _); with_reducible refine spliced_more ?_ (by with_unfolding_all rfl)) | (with_reducible refine r_stays (by with_reducible assumption) ?_))
    replace H := H.perm (news' := [(90, tabObj #[]), (97, tabObj #[])]) (List.Perm.swap _ _ _)
    have g90 := (H.led (90, tabObj #[]) (by with_reducible repeat (first | exact List.mem_cons_self | refine List.mem_cons_of_mem _ ?_))).2.2
    have g97 := (H.led (97, tabObj #[]) (by with_reducible repeat (first | exact List.mem_cons_self | refine List.mem_cons_of_mem _ ?_))).2.2
    refine told_spec XB0 TB C1 C2 (H.pre P rfl rfl (List.Sublist.refl _)) (by show callerA.depth + 1 + 30 < _; omega) (by rw [units_deeper]; omega) (H.keep _ _ gk) (fun hm => ?_) ⟨fun e => ?_, fun e => ?_⟩ hks (by omega) hkk (by rw [List.length_append]; omega) (fun b hb => ?_) htn (goodI_start hzl hz) ?_
    · have := H.off _ hm; rw [gk] at this; cases this
    · rw [e, g90] at gk; cases gk
    · rw [e, g97] at gk; cases gk
    · rcases List.mem_append.mp hb with hb | hb
      · exact flat_byte hrep b hb
      · exact hty b hb
    intro tr tv n at_ ps1 ps2 s16 h90 h97 q7 q8 hx4 htr htrows hGf
    have H4 := (Sy.swap (ld := [(90, tabObj #[]), (97, tabObj #[])]) (ld' := [(90, tabObj ps1), (97, tabObj ps2)]) (rest := []) H rfl rfl hx4 q7 q8 (fun p hp => by
      rcases List.mem_cons.mp hp with rfl | hp
      · exact h90
      · rw [List.mem_singleton.mp hp]; exact h97)).perm (news' := [(97, tabObj ps2), (90, tabObj ps1)]) (List.Perm.swap _ _ _)
    obtain ⟨g4, H5, fz4, mono4⟩ := H4.freezeL tabs2
    replace htr := fz4 _ _ _ htr
    replace htrows := htrows.monoL fz4
    replace hgo := mono4 _ _ hgo
    replace hgm := mono4 _ _ hgm
    replace gk := mono4 _ _ gk
    replace hm := hm.mono mono4
    clear H H4 fz4 hx4 g90 g97 h90 h97 hgq mono4
    repeat' (first | ((with_reducible show wpAny _ _ (eval (Expr.Name _ _) _) _ _ _); with_reducible refine r_local (by with_reducible assumption) (by with_reducible repeat (first | exact List.mem_cons_self | refine List.mem_cons_of_mem _ ?_)) ?_ (by with_unfolding_all rfl) (by with_unfolding_all rfl) (by with_unfolding_all decide)) | ((with_reducible show wpAny _ _ (eval (Expr.Name _ _) _) _ _ _); refine r_global (by with_reducible assumption) (by with_reducible assumption) (by with_reducible assumption) (by k_is) ?_) | (with_reducible refine wpAny_BinOp ?_) | (with_reducible refine wpAny_Compare1 ?_ (by with_unfolding_all rfl)) | (with_reducible refine Call_ ?_ (by with_unfolding_all rfl)) | (with_reducible refine x_return ?_) | ((with_reducible show wpAny _ _ (spliced _) _ _ _); with_reducible refine spliced_none ?_) | ((with_reducible show wpAny _ _ (spliced _) _ _ _); with_reducible refine spliced_more ?_ (by with_unfolding_all rfl)) | ((with_reducible show wpAny _ _ (callWith _ _ _ _ _) _ _ _); with_reducible refine r_callK (by with_reducible assumption) (by k_is) ?_ (by with_unfolding_all rfl)) | ((with_reducible show wpAny _ _ (storeName _ _ _) _ _ _); with_reducible refine r_store (by with_reducible assumption) (by with_reducible repeat (first | exact SetV.hit | exact SetV.nil | apply SetV.skip (by with_unfolding_all decide))) ?_ (by with_unfolding_all rfl) (by with_unfolding_all rfl); intro _ _) | (with_reducible refine r_stays (by with_reducible assumption) ?_))
    clear H5
    rename Sy _ _ _ _ _ _ _ _ _ => H
    refine plain_spec XB0 TB (H.pre P rfl rfl (List.nil_sublist _)) (by show callerA.depth + 1 + 10 < _; omega) (H.keep _ _ hgo) (H.keep _ _ hgm) (H.keep _ _ gk) ⟨H.noff hgo, H.noff hgm, H.noff gk⟩ ho (hm.mono fun b ob e => hideAll_get _ (H.keep _ _ e) (H.noff e)) hks (octs_lt zs _ fun _ h => nomatch h) (by omega) (by omega) (by omega) hkk ?_
    intro pl pv n' s17 q9 q10 hx5 hpl hprows _ _
    obtain ⟨g5, H6, fz5, mono5⟩ := (H.ext0 hx5 q9 q10).freezeL tabs2
    replace hpl := fz5 _ _ _ hpl
    replace hprows := hprows.monoL fz5
    replace htr := mono5 _ _ htr
    replace htrows := htrows.mono mono5
    clear H hx5 fz5
    have hBw := B_size (flat (laidReps zs))
    have hpvl : pv.length ≤ 1000 := by
      rw [Paired.length' hprows, plainAll, plainAll_len]
      show 0 + _ ≤ 1000
      omega
    repeat' ((fail_if_success ((with_reducible show PySem.wpAny _ _ (PySem.newList _) _ _ _))); first | ((with_reducible show wpAny _ _ (eval (Expr.Name _ _) _) _ _ _); with_reducible refine r_local (by with_reducible assumption) (by with_reducible repeat (first | exact List.mem_cons_self | refine List.mem_cons_of_mem _ ?_)) ?_ (by with_unfolding_all rfl) (by with_unfolding_all rfl) (by with_unfolding_all decide)) | ((with_reducible show wpAny _ _ (eval (Expr.Name _ _) _) _ _ _); refine r_builtin (by with_reducible assumption) (by with_reducible assumption) (by with_reducible assumption) (by k_is) (by boot_by_name) ?_) | (with_reducible refine r_cstr (by with_reducible assumption) ?_; intro _ _ _) | (with_reducible refine Call_ ?_ (by with_unfolding_all rfl)) | (with_reducible refine List_ ?_) | ((with_reducible show wpAny _ _ (call (Value.builtin "len") _ _) _ _ _); with_reducible refine r_len_bytes (by with_reducible assumption) (by first | omega | (simp only [List.length_append, List.length_cons, List.length_nil]; omega)) ?_; intro _ _ _) | ((with_reducible show wpAny _ _ (spliced _) _ _ _); with_reducible refine spliced_none ?_) | ((with_reducible show wpAny _ _ (spliced _) _ _ _); with_reducible refine spliced_more ?_ (by with_unfolding_all rfl)) | ((with_reducible show wpAny _ _ (callWith _ _ _ _ _) _ _ _); with_reducible refine PyProof.Rows.callWith_builtin1 ?_ (by with_unfolding_all rfl) (by with_unfolding_all rfl)))
    clear H6
    rename Sy _ _ _ _ _ _ _ _ _ => H
    refine r_newList H ?_
    clear H
    intro pr s18 H
    repeat' ((fail_if_success ((with_reducible show PySem.wpAny _ _ (PySem.newList _) _ _ _))); ((with_reducible show wpAny _ _ (spliced _) _ _ _); with_reducible refine spliced_none ?_))
    refine r_newList H ?_
    clear H
    intro pq s19 H
    refine r_add_listH H (H.keep _ _ hpl) (H.get List.mem_cons_self) (by simp only [List.length_cons, List.length_nil]; omega) ?_
    clear H
    intro d s20 H
    obtain ⟨lr1, lr2⟩ := law_rows (tail := tail) hz
    have hat := lr2 at_ hGf
    rw [lr1, hat] at htrows
    refine r_eq_rows (H.keep _ _ htr) (H.get List.mem_cons_self) (htrows.mono H.keep) (Paired.app (hprows.mono H.keep) (Paired.one' ⟨pr, _, rfl, H.get (o := lst _ 0) (by with_reducible repeat (first | exact List.mem_cons_self | refine List.mem_cons_of_mem _ ?_)), ⟨_, _, by rw [hBw]⟩⟩)) (by rw [units_deeper]; omega) ?_
    exact ⟨rfl, H.gens, H.os, H.stays, ⟨_, H.get (a := 97) (by with_reducible repeat (first | exact List.mem_cons_self | refine List.mem_cons_of_mem _ ?_))⟩, ⟨_, H.get (a := 90) (by with_reducible repeat (first | exact List.mem_cons_self | refine List.mem_cons_of_mem _ ?_))⟩⟩))

theorem PySem.Challenge.cw_of0006_01_holds : PySem.Challenge.rw_of0006_01.Holds :=
  Mine.law_holds
