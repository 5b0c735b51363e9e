import PyProof.Rows.All
import Wide.All
import OpenK.AllK
import Wide.FinOn
import Lean
import PySem.Challenge.RW_in0052_01
set_option Elab.async false
set_option linter.all false
section
open PySem PySem.W PyProof.Rows
namespace Mine
noncomputable def prog0 : Program := PySem.Challenge.rw_in0052_01.row.toRowW.prog
noncomputable def viewP : Program := { prog0 with main := { prog0.main with body := [0, 1, 3, 4, 6, 7, 9, 10, 12, 13, 14, 19, 20, 21, 22, 24, 25, 26, 27, 28, 29, 30, 31].filterMap fun i => prog0.main.body[i]? } }
abbrev looseP : List Str := [Str.ofString "_twin_re_1", Str.ofString "_special_chars_map", Str.ofString "b2a_base64", Str.ofString "b64encode"]
noncomputable abbrev xtP : Shared → Bool := fun s => xlAt viewP [] s && recOk (RowW.records PySem.Challenge.rw_in0052_01.row.toRowW) s
theorem holds2 {r : OpenRow} {q : Program} {loose : List Str} {Xt : Shared → Bool} {XP : (Str → Option Value) → Heap → Prop} {α : Type} {Yf : Shared → α} {Ya : World → α} {YP : World → Heap → Prop} {d : DefRec} {kwd : List (Str × Expr)} {N : Nat}
    (h1 : ∀ (w : World) (s : Shared), Yf s = Ya w → YP w s.heap) (h2 : ∀ (w : World) (h h' : Heap), YP w h → (∀ (b : Addr) (o : Obj), h.get? b = some o → h'.get? b = some o) → YP w h')
    (h3 : ∀ (s : Shared), Xt s = true → XP (s.heap.nsMap mainGlobals) s.heap) (h4 : ∀ (mg : Str → Option Value) (h h' : Heap), XP mg h → (∀ (b : Addr) (o : Obj), h.get? b = some o → h'.get? b = some o) → XP mg h')
    (h5 : defOf q r.name = some (d, kwd)) (h6 : r.prog.theDef r.name = some (d.params, d.body, d.scope)) (h7 : kwWritten? d.params.kwonlyargs d.params.kw_defaults = some kwd) (h8 : ∀ (s : Shared), Xt s = true → RecFacts r.records s.heap)
    (h9 : (!r.writes || List.isEmpty r.records) = true) (h10 : r.wellSaid = true) (h11 : (chainsOk q && opensWell r.prog && (frees r.toRowW && r.within.isEmpty)) = true) (h12 : r.prog.bare) (h13 : r.promised)
    (both : LeftO r.prog q loose Xt Yf Ya N ∧ WalkO q loose XP YP r.toRowW d kwd fun f vs => call f vs) : r.Holds := holds_open both.1 h1 h2 h3 h4 h5 h6 h7 h8 h9 h10 h11 h12 h13 both.2
local macro_rules | `(tactic| o_law) => `(tactic| refine holds_law (by decide +kernel) fun said => ?_)
local macro_rules | `(tactic| o_head $H) => `(tactic| (
  refine holds2 (q := viewP) (loose := looseP) (Xt := xtP) (XP := XL viewP []) (Yf := Hook.obs $H) (Ya := Hook.val $H) (YP := Hook.says $H) (N := 4230)
    (Hook.of $H) (Hook.keeps $H) (fun s e => xl_of s (Bool.and_eq_true_iff.mp e).1) XL.keeps (by rfl) (by rfl) (by rfl) (fun s e => recFacts_of (Bool.and_eq_true_iff.mp e).2) (by rfl) (by first | assumption | decide +kernel) (by decide +kernel) ⟨rfl, rfl, rfl, rfl, rfl, by decide +kernel⟩ ?hw ?hc))
set_option maxRecDepth 100000 in
set_option maxHeartbeats 8000000 in
open_top hd for PySem.Challenge.rw_in0052_01
noncomputable abbrev hookP : Hook := kmHook Mine.hd.heap_1 [2, 3, 32, 34, 35, 37, 38, 42, 43, 44, 46, 47, 49, 50, 52, 56, 58, 59, 61, 62, 63, 65, 66, 68, 69, 70, 72, 73, 75, 76, 77, 79, 80, 82, 83, 84, 86, 87, 89, 90, 91, 92, 94, 95, 97, 98, 99, 100, 102, 103, 105, 106, 107, 109, 110, 112, 113, 114, 116, 117, 119, 120, 121, 123, 124, 126, 127, 128, 130, 131, 133, 134, 135, 138, 139, 140, 142, 143, 145, 146, 147, 150, 151, 152, 154, 155, 157, 158, 159, 162, 163, 164, 167, 168, 169, 172, 173, 174, 177, 178] (fun _ => by kernel_rfl) [64]
def Leaf (p q : Program) (loose : List Str) (Xt : Shared → Bool) {α : Type} (Yf : Shared → α) (Ya : World → α) (N : Nat) (w : World) : Prop :=
  (openEnds treeTable p w N).map (fun s => (openSeen q loose (importedModules p.main.body) Xt true s, Yf s)) = some (openGood q loose, Ya w)
theorem left_of {p q : Program} {loose : List Str} {Xt : Shared → Bool} {α : Type} {Yf : Shared → α} {Ya : World → α} {N : Nat}
    (ff : ∀ w : World, Leaf p q loose Xt Yf Ya N ((w.withFollow "comprehension-iter-twice" false).withFollow "special-get-raises" false)) (ft : ∀ w : World, Leaf p q loose Xt Yf Ya N ((w.withFollow "comprehension-iter-twice" false).withFollow "special-get-raises" true)) (tf : ∀ w : World, Leaf p q loose Xt Yf Ya N ((w.withFollow "comprehension-iter-twice" true).withFollow "special-get-raises" false)) (tt : ∀ w : World, Leaf p q loose Xt Yf Ya N ((w.withFollow "comprehension-iter-twice" true).withFollow "special-get-raises" true)) : LeftO p q loose Xt Yf Ya N := byRow2 "special-get-raises" (byRow2 "comprehension-iter-twice" ff tf) (byRow2 "comprehension-iter-twice" ft tt)
set_option maxRecDepth 100000 in
theorem leaf_ff : ∀ w : World, Leaf PySem.Challenge.rw_in0052_01.row.prog viewP looseP xtP (Hook.obs hookP) (Hook.val hookP) 4230 ((w.withFollow "comprehension-iter-twice" false).withFollow "special-get-raises" false) := by intro w; unfold Leaf openEnds fencedOpening topFrom; rw [PySem.W.Fast.te10274390034422433532, PySem.W.Fast.te14289696077712309145, PySem.W.Fast.te14082659384304107361, PySem.W.Fast.te1435165496053646825, PySem.W.Fast.te4187177175401517315, PySem.W.Fast.te5923862056798008813]; kernel_rfl
set_option maxRecDepth 100000 in
theorem leaf_ft : ∀ w : World, Leaf PySem.Challenge.rw_in0052_01.row.prog viewP looseP xtP (Hook.obs hookP) (Hook.val hookP) 4230 ((w.withFollow "comprehension-iter-twice" false).withFollow "special-get-raises" true) := by intro w; unfold Leaf openEnds fencedOpening topFrom; rw [PySem.W.Fast.te10274390034422433532, PySem.W.Fast.te14289696077712309145, PySem.W.Fast.te14082659384304107361, PySem.W.Fast.te1435165496053646825, PySem.W.Fast.te4187177175401517315, PySem.W.Fast.te5923862056798008813]; kernel_rfl
set_option maxRecDepth 100000 in
theorem leaf_tf : ∀ w : World, Leaf PySem.Challenge.rw_in0052_01.row.prog viewP looseP xtP (Hook.obs hookP) (Hook.val hookP) 4230 ((w.withFollow "comprehension-iter-twice" true).withFollow "special-get-raises" false) := by intro w; unfold Leaf openEnds fencedOpening topFrom; rw [PySem.W.Fast.te10274390034422433532, PySem.W.Fast.te14289696077712309145, PySem.W.Fast.te14082659384304107361, PySem.W.Fast.te1435165496053646825, PySem.W.Fast.te4187177175401517315, PySem.W.Fast.te5923862056798008813]; kernel_rfl
set_option maxRecDepth 100000 in
theorem leaf_tt : ∀ w : World, Leaf PySem.Challenge.rw_in0052_01.row.prog viewP looseP xtP (Hook.obs hookP) (Hook.val hookP) 4230 ((w.withFollow "comprehension-iter-twice" true).withFollow "special-get-raises" true) := by intro w; unfold Leaf openEnds fencedOpening topFrom; rw [PySem.W.Fast.te10274390034422433532, PySem.W.Fast.te14289696077712309145, PySem.W.Fast.te14082659384304107361, PySem.W.Fast.te1435165496053646825, PySem.W.Fast.te4187177175401517315, PySem.W.Fast.te5923862056798008813]; kernel_rfl
theorem left : LeftO PySem.Challenge.rw_in0052_01.row.prog viewP looseP xtP (Hook.obs hookP) (Hook.val hookP) 4230 := left_of leaf_ff leaf_ft leaf_tf leaf_tt
end Mine
end
section
open PySem PySem.W PyProof.Rows PySem.Calls
namespace Mine
abbrev Lv := List (Str × Option Value)
abbrev Nw := List (Addr × Obj)
def lvm (lv : Lv) : Str → Option Value := fun x => match lv.lookup x with | some v => v | none => none
structure Cx where
  p : Program
  w : World
  A : Around
  env : Env
  hb : Heap
  g : Array GenState
  d : Drawn
  os : OsState
structure St where
  lv : Lv
  nw : Nw
def Keeps (h h' : Heap) : Prop := (∀ b o, h.get? b = some o → h'.get? b = some o) ∧ h.objs.size ≤ h'.objs.size
theorem Keeps.refl (h : Heap) : Keeps h h := ⟨fun _ _ e => e, Nat.le_refl _⟩
theorem Keeps.trans {a b c : Heap} (x : Keeps a b) (y : Keeps b c) : Keeps a c := ⟨fun p o e => y.1 p o (x.1 p o e), Nat.le_trans x.2 y.2⟩
def Owns (hb h : Heap) (nw : Nw) : Prop := (∀ p ∈ nw, h.get? p.1 = some p.2 ∧ hb.get? p.1 = none) ∧ (nw.map (·.1)).Nodup
structure Own (C : Cx) (st : St) (s : Shared) : Prop where
  eq : s = ⟨s.heap, C.g, C.d, s.toks, C.os⟩
  F : Fr C.hb C.env.locals s.heap (lvm st.lv)
  N : News C.hb C.env.locals s.heap st.nw
  nd : (st.nw.map (·.1)).Nodup
  ln : (st.lv.map (·.1)).Nodup
abbrev FF : Value → Shared → Prop := fun _ _ => False
def Ev {α : Type} (C : Cx) (m : Sem α) (st : St) (Q : α → St → Prop) : Prop :=
  ∀ s, Own C st s → wpAny (model C.p C.w) C.A m (fun a s' => ∃ st', Own C st' s' ∧ Q a st') FF s
section
variable {α β : Type} {C : Cx} {st : St}
theorem Ev_of {m : Sem α} {Q : α → St → Prop} (h : ∀ s, Own C st s → wpAny (model C.p C.w) C.A m (fun a s' => ∃ st', Own C st' s' ∧ Q a st') FF s) : Ev C m st Q := h
theorem Ev_mono {m : Sem α} {Q Q' : α → St → Prop} (h : Ev C m st Q) (hq : ∀ a st', Q a st' → Q' a st') : Ev C m st Q' := fun s o =>
  wpAny_mono (h s o) (fun a _ ⟨st', o', q⟩ => ⟨st', o', hq a st' q⟩) fun _ _ f => f
theorem Ev_pure {a : α} {Q : α → St → Prop} (h : Q a st) : Ev C (pure a) st Q := fun _ o => wpAny_pure ⟨st, o, h⟩
theorem Ev_bind {m : Sem α} {f : α → Sem β} {Q : β → St → Prop} (h : Ev C m st (fun a st' => Ev C (f a) st' Q)) : Ev C (m >>= f) st Q := fun s o =>
  wpAny_bind (wpAny_mono (h s o) (fun _ s' ⟨_, o', q⟩ => q s' o') fun _ _ f => f.elim)
theorem Ev_bindM {m : Sem α} {f : α → Sem β} {P : α → St → Prop} {Q : β → St → Prop} (h : Ev C m st P) (k : ∀ a st', P a st' → Ev C (f a) st' Q) : Ev C (m >>= f) st Q := Ev_bind (Ev_mono h k)
theorem Ev_map {m : Sem α} {f : α → β} {Q : β → St → Prop} (h : Ev C m st (fun a st' => Q (f a) st')) : Ev C (f <$> m) st Q := fun s o => wpAny_map (h s o)
theorem Ev_holding {vs : List Value} {m : Sem α} {Q : α → St → Prop} (h : Ev C m st Q) : Ev C (holding vs m) st Q := fun s o => wpAny_holding (h s o)
theorem Ev_standAt {p : Pos} {Q : Unit → St → Prop} (h : Q () st) : Ev C (standAt p) st Q := fun _ o => wpAny_standAt ⟨st, o, h⟩
theorem Ev_rule {t : String} {Q : Unit → St → Prop} (h : Q () st) : Ev C (rule t) st Q := fun _ o => wpAny_rule ⟨st, o, h⟩
theorem Ev_point {Q : Unit → St → Prop} (h : Q () st) : Ev C point st Q := fun _ o => wpAny_point ⟨st, o, h⟩
theorem Ev_release {vs keep : List Value} {Q : Unit → St → Prop} (h : Q () st) : Ev C (release vs keep) st Q := fun _ o => wpAny_release ⟨st, o, h⟩
theorem Ev_of_eq {m : Sem α} {a : α} {Q : α → St → Prop} (e : m = pure a) (h : Q a st) : Ev C m st Q := by rw [e]; exact Ev_pure h
theorem Ev_eq {m m' : Sem α} {Q : α → St → Prop} (e : m = m') (h : Ev C m' st Q) : Ev C m st Q := by rw [e]; exact h
theorem Ev_operate {vs : List Value} {m : Sem Value} {Q : Value → St → Prop} (h : Ev C m st Q) : Ev C (operate vs m) st Q := by
  unfold operate
  exact Ev_bind (Ev_holding (Ev_mono h fun a st' q => Ev_bind (Ev_release (Ev_pure q))))
theorem Ev_keep {vs : List Value} {m : Sem α} {Q : α → St → Prop} (h : Ev C m st Q) : Ev C (m.keep vs) st Q := fun s o => wpAny_keep (h s o)
theorem Ev_askSetting {Q : Setting → St → Prop} (h : Q ⟨C.p, C.w.params⟩ st) : Ev C ask st Q := fun _ o => wpAny_askSetting ⟨st, o, h⟩
theorem Ev_letGo {a b : List Value} {Q : Unit → St → Prop} (h : Q () st) : Ev C (letGo a b) st Q := fun _ o => wpAny_letGo ⟨st, o, h⟩
theorem Ev_ite {c : Prop} [Decidable c] {a b : Sem α} {Q : α → St → Prop} (h1 : c → Ev C a st Q) (h2 : ¬ c → Ev C b st Q) : Ev C (if c then a else b) st Q := by
  split
  · exact h1 ‹_›
  · exact h2 ‹_›
theorem Own.tok {s : Shared} (o : Own C st s) (t : Nat) : Own C st { s with toks := t } := by
  obtain ⟨h1, h2, h3, h4, h5⟩ := o
  refine ⟨?_, h2, h3, h4, h5⟩
  rw [h1]
theorem Ev_mkInt {i : Int} {Q : Value → St → Prop} (h : ∀ t, Q (.int i t) st) : Ev C (mkInt i) st Q := fun s o => wpAny_mkInt ⟨st, o.tok _, h _⟩
theorem Ev_mkText {x : Str} {Q : Value → St → Prop} (h : ∀ t, Q (.str x t) st) : Ev C (mkText x) st Q := fun s o => wpAny_mkText ⟨st, o.tok _, h _⟩
theorem Ev_mkStr {x : Str} {Q : Value → St → Prop} (h : ∀ t, Q (.str x t) st) (hx : x.length ≤ sizeLine) : Ev C (mkStr x) st Q := fun s o => wpAny_mkStr ⟨st, o.tok _, h _⟩ hx
end
theorem Own.drop {C : Cx} {st : St} {s : Shared} (o : Own C st s) {nw : Nw} (h : nw.Sublist st.nw) : Own C ⟨st.lv, nw⟩ s :=
  ⟨o.eq, o.F, fun p hp => o.N p (h.subset hp), o.nd.sublist (h.map _), o.ln⟩
theorem Own.perm {C : Cx} {st : St} {s : Shared} (o : Own C st s) {nw : Nw} (h : st.nw.Perm nw) : Own C ⟨st.lv, nw⟩ s :=
  ⟨o.eq, o.F, fun p hp => o.N p (h.mem_iff.mpr hp), (h.map _).nodup_iff.mp o.nd, o.ln⟩
theorem Ev_drop {α : Type} {C : Cx} {lv : Lv} {nw nw' : Nw} {m : Sem α} {Q : α → St → Prop} (h : nw'.Sublist nw) (k : Ev C m ⟨lv, nw'⟩ Q) : Ev C m ⟨lv, nw⟩ Q := fun s o => k s (o.drop h)
theorem Ev_perm {α : Type} {C : Cx} {lv : Lv} {nw nw' : Nw} {m : Sem α} {Q : α → St → Prop} (h : nw.Perm nw') (k : Ev C m ⟨lv, nw'⟩ Q) : Ev C m ⟨lv, nw⟩ Q := fun s o => k s (o.perm h)
theorem Own.alloc {C : Cx} {st : St} {s : Shared} (o : Own C st s) (ob : Obj) (hf : ob.isFreed = false) :
    Own C ⟨st.lv, (s.heap.objs.size, ob) :: st.nw⟩ { s with heap := s.heap.push ob } := by
  refine ⟨?_, o.F.push ob, o.N.push o.F ob hf, ?_, o.ln⟩
  · rw [o.eq]
  · rw [List.map_cons, List.nodup_cons]
    refine ⟨fun hm => ?_, o.nd⟩
    obtain ⟨p, hp, e⟩ := List.mem_map.mp hm
    have := Heap.lt_size (o.N p hp).1
    rw [e] at this
    exact Nat.lt_irrefl _ this
theorem Own.fresh {C : Cx} {st : St} {s : Shared} (o : Own C st s) : ∀ p ∈ st.nw, p.1 < s.heap.objs.size := fun p hp => Heap.lt_size (o.N p hp).1
theorem Ev_alloc {C : Cx} {lv : Lv} {nw : Nw} {ob : Obj} {Q : Addr → St → Prop} (h : ∀ a, Q a ⟨lv, (a, ob) :: nw⟩) (hf : ob.isFreed = false := by rfl) : Ev C (alloc ob) ⟨lv, nw⟩ Q := fun s o =>
  wpAny_alloc ⟨_, o.alloc ob hf, h _⟩
inductive Upd1 (a : Addr) (o o' : Obj) : Nw → Nw → Prop
  | head {r} : Upd1 a o o' ((a, o) :: r) ((a, o') :: r)
  | tail {p r r'} : Upd1 a o o' r r' → Upd1 a o o' (p :: r) (p :: r')
theorem Upd1.keys {a : Addr} {o o' : Obj} {l l' : Nw} (u : Upd1 a o o' l l') : l'.map (·.1) = l.map (·.1) := by
  induction u with
  | head => rfl
  | tail _ ih => rw [List.map_cons, List.map_cons, ih]
theorem Upd1.mem {a : Addr} {o o' : Obj} {l l' : Nw} (u : Upd1 a o o' l l') : (a, o) ∈ l := by
  induction u with
  | head => exact List.mem_cons_self
  | tail _ ih => exact List.mem_cons_of_mem _ ih
theorem Upd1.mem' {a : Addr} {o o' : Obj} {l l' : Nw} (u : Upd1 a o o' l l') : ∀ p ∈ l', p = (a, o') ∨ p ∈ l := by
  induction u with
  | head => intro p hp; exact (List.mem_cons.mp hp).imp id fun h => List.mem_cons_of_mem _ h
  | tail _ ih => intro p hp; rcases List.mem_cons.mp hp with rfl | hp
                 · exact .inr List.mem_cons_self
                 · exact (ih p hp).imp id fun h => List.mem_cons_of_mem _ h
theorem Upd1.apart {a : Addr} {o o' : Obj} {l l' : Nw} (u : Upd1 a o o' l l') (nd : (l.map (·.1)).Nodup) : ∀ p ∈ l', p = (a, o') ∨ (p ∈ l ∧ p.1 ≠ a) := by
  induction u with
  | head =>
    intro p hp
    rw [List.map_cons, List.nodup_cons] at nd
    refine (List.mem_cons.mp hp).imp id fun h => ⟨List.mem_cons_of_mem _ h, fun e => nd.1 ?_⟩
    have := List.mem_map_of_mem (f := (·.1)) h
    exact e ▸ this
  | @tail q r r' u ih =>
    intro p hp
    rw [List.map_cons, List.nodup_cons] at nd
    rcases List.mem_cons.mp hp with rfl | hp
    · refine .inr ⟨List.mem_cons_self, fun e => nd.1 ?_⟩
      have := List.mem_map_of_mem (f := (·.1)) u.mem
      exact e ▸ this
    · exact (ih nd.2 p hp).imp id fun h => ⟨List.mem_cons_of_mem _ h.1, h.2⟩
theorem Own.upd {C : Cx} {st : St} {s : Shared} {h' : Heap} {a : Addr} {ob ob' : Obj} {nw' : Nw} (o : Own C st s) (u : Upd1 a ob ob' st.nw nw') (hs : Heap.SameBut a s.heap h') (hg : h'.get? a = some ob') :
    Own C ⟨st.lv, nw'⟩ { s with heap := h' } := by
  have ha := o.N _ u.mem
  refine ⟨by rw [o.eq], ⟨o.F.ns.sameBut hs (Ne.symm ha.2.1), fun b x e => (hs.2 b fun q => ?_).trans (o.F.keep b x e), o.F.above⟩, fun p hp => ?_, ?_, o.ln⟩
  · rw [q, ha.2.2] at e; cases e
  · rcases u.apart o.nd p hp with rfl | ⟨h1, h2⟩
    · exact ⟨hg, ha.2.1, ha.2.2⟩
    · exact ⟨(hs.2 _ h2).trans (o.N p h1).1, (o.N p h1).2⟩
  · rw [u.keys]; exact o.nd
def At (C : Cx) (st : St) (a : Addr) (o : Obj) : Prop := (a, o) ∈ st.nw ∨ C.hb.get? a = some o
theorem Own.at {C : Cx} {st : St} {s : Shared} (o : Own C st s) {a : Addr} {ob : Obj} (h : At C st a ob) : s.heap.get? a = some ob := h.elim (fun h => (o.N _ h).1) fun h => o.F.keep _ _ h
theorem Ev_load {C : Cx} {st : St} {a : Addr} {ob : Obj} {Q : Obj → St → Prop} (h : At C st a ob) (k : Q ob st) : Ev C (load a) st Q := fun s o => wpAny_load (o.at h) ⟨st, o, k⟩
inductive Put (x : Str) (v : Value) : Lv → Lv → Prop
  | head {u r} : Put x v ((x, u) :: r) ((x, some v) :: r)
  | tail {p r r'} : Put x v r r' → Put x v (p :: r) (p :: r')
theorem Put.names {x : Str} {v : Value} {l l' : Lv} (u : Put x v l l') : l'.map (·.1) = l.map (·.1) := by
  induction u with
  | head => rfl
  | tail _ ih => rw [List.map_cons, List.map_cons, ih]
theorem Put.has {x : Str} {v : Value} {l l' : Lv} (u : Put x v l l') : x ∈ l.map (·.1) := by
  induction u with
  | head => exact List.mem_cons_self
  | tail _ ih => rw [List.map_cons]; exact List.mem_cons_of_mem _ ih
theorem Put.lookup {x : Str} {v : Value} {l l' : Lv} (u : Put x v l l') (nd : (l.map (·.1)).Nodup) : lvm l' = fun y => if y = x then some v else lvm l y := by
  induction u with
  | @head u r =>
    funext y
    by_cases h : y = x
    · subst h; simp [lvm, List.lookup]
    · have hb : (y == x) = false := by simpa using h
      simp [lvm, List.lookup, hb, h]
  | @tail p r r' u ih =>
    rw [List.map_cons, List.nodup_cons] at nd
    have ih := ih nd.2
    funext y
    by_cases hp : y = p.1
    · subst hp
      have hne : p.1 ≠ x := fun e => nd.1 (e ▸ u.has)
      obtain ⟨p1, p2⟩ := p
      simp only [lvm, List.lookup, beq_self_eq_true]
      rw [if_neg hne]
    · have hb : (y == p.1) = false := by simpa using hp
      have := congrFun ih y
      obtain ⟨p1, p2⟩ := p
      simp only [lvm, List.lookup, hb] at this ⊢
      exact this
theorem lvm_mem {x : Str} {v : Value} : ∀ {l : Lv}, (l.map (·.1)).Nodup → (x, some v) ∈ l → lvm l x = some v
  | (y, u) :: r, nd, h => by
    rw [List.map_cons, List.nodup_cons] at nd
    rcases List.mem_cons.mp h with e | h
    · cases e; simp [lvm, List.lookup]
    · have hne : x ≠ y := fun e => nd.1 (e ▸ List.mem_map_of_mem (f := (·.1)) h)
      have hb : (x == y) = false := by simpa using hne
      have := lvm_mem nd.2 h
      simp only [lvm, List.lookup, hb] at this ⊢
      exact this
inductive HasL (x : Str) (v : Value) : Lv → Prop
  | head {r} : HasL x v ((x, some v) :: r)
  | tail {p r} : HasL x v r → HasL x v (p :: r)
theorem HasL.mem {x : Str} {v : Value} {l : Lv} (h : HasL x v l) : (x, some v) ∈ l := by
  induction h with
  | head => exact List.mem_cons_self
  | tail _ ih => exact List.mem_cons_of_mem _ ih
inductive HasN (a : Addr) (o : Obj) : Nw → Prop
  | head {r} : HasN a o ((a, o) :: r)
  | tail {p r} : HasN a o r → HasN a o (p :: r)
theorem HasN.mem {a : Addr} {o : Obj} {l : Nw} (h : HasN a o l) : (a, o) ∈ l := by
  induction h with
  | head => exact List.mem_cons_self
  | tail _ ih => exact List.mem_cons_of_mem _ ih
theorem Own.put {C : Cx} {st : St} {s : Shared} {h' : Heap} {x : Str} {v : Value} {lv' : Lv} (o : Own C st s) (p : Put x v st.lv lv') (hn : h'.Ns C.env.locals (fun y => if y = x then some v else lvm st.lv y)) (hs : Heap.SameBut C.env.locals s.heap h') (t : Nat) :
    Own C ⟨lv', st.nw⟩ { s with heap := h', toks := t } :=
  ⟨by rw [o.eq], by rw [p.lookup o.ln]; exact o.F.set hn hs, o.N.set hs, o.nd, by rw [p.names]; exact o.ln⟩
abbrev cellO (v : Option Value) : Obj := { cls := .type "cell", data := .cell v }
section
variable {C : Cx} {st : St}
theorem Ev_storeL {x : Str} {v : Value} {lv lv' : Lv} {nw : Nw} {Q : Unit → St → Prop} (hk : C.env.scope.kind = .function) (hl : C.env.kindOf x = some .local) (p : Put x v lv lv') (h : Q () ⟨lv', nw⟩) :
    Ev C (storeName C.env x v) ⟨lv, nw⟩ Q := fun s o =>
  wpAny_storeName_local hl o.F.ns (fun h' hn hs => ⟨_, o.put p hn hs _, h⟩) (by rw [hk]; rfl)
theorem Ev_storeC {x : Str} {v : Value} {v₀ : Option Value} {c : Addr} {lv : Lv} {nw nw' : Nw} {Q : Unit → St → Prop} (hk : C.env.scope.kind = .function) (hl : C.env.kindOf x = some .cell) (hc : C.env.cells.lookup x = some c)
    (u : Upd1 c (cellO v₀) (cellO (some v)) nw nw') (h : Q () ⟨lv, nw'⟩) : Ev C (storeName C.env x v) ⟨lv, nw⟩ Q := fun s o => by
  have hg := (o.N _ u.mem).1
  unfold storeName
  simp only [hl, hk]
  refine wpAny_bind (wpAny_cellOf hc ?_)
  unfold cellSet
  refine wpAny_bind (wpAny_load hg ?_)
  exact wpAny_update hg ⟨_, o.upd u (Heap.SameBut.update ..) (Heap.get?_update_self _ hg rfl), h⟩
theorem Ev_loadL {x : Str} {v : Value} {Q : Value → St → Prop} (hk : C.env.scope.kind = .function) (hl : C.env.kindOf x = some .local) (hm : HasL x v st.lv) (h : Q v st) : Ev C (loadName C.env x) st Q := fun s o =>
  wpAny_loadName_local hk hl o.F.ns (lvm_mem o.ln hm.mem) ⟨st, o, h⟩
theorem Ev_loadC {x : Str} {v : Value} {c : Addr} {Q : Value → St → Prop} (hk : C.env.scope.kind = .function) (hl : C.env.kindOf x = some .cell) (hc : C.env.cells.lookup x = some c) (hm : At C st c (cellO (some v))) (h : Q v st) :
    Ev C (loadName C.env x) st Q := fun s o => wpAny_loadName_cell hk hl hc ⟨_, o.at hm, rfl⟩ ⟨st, o, h⟩
theorem Ev_loadF {x : Str} {v : Value} {c : Addr} {Q : Value → St → Prop} (hk : C.env.scope.kind = .function) (hl : C.env.kindOf x = some .free) (hc : C.env.cells.lookup x = some c) (hm : At C st c (cellO (some v))) (h : Q v st)
    (hn : (x == ("__classdict__" : Str)) = false := by decide) : Ev C (loadName C.env x) st Q := fun s o => wpAny_loadName_free hk hl hc ⟨_, o.at hm, rfl⟩ ⟨st, o, h⟩ hn
end
structure Room (k : Nat) (A : Around) : Prop where
  hd : A.handled = none
  dp : A.depth + k < recursionLimit
  un : A.units + 10 * k < cLine
theorem Room.le {k k' : Nat} {A : Around} (r : Room k A) (h : k' ≤ k) : Room k' A := ⟨r.hd, by have := r.dp; omega, by have := r.un; omega⟩
theorem Room.deeper {k : Nat} {A : Around} (r : Room (k + 1) A) (env : Env) : Room k (A.deeper env) := ⟨r.hd, by have := r.dp; show A.depth + 1 + k < _; omega, by have := r.un; show A.units + 3 + 10 * k < _; omega⟩
theorem Room.in1 {k : Nat} {A : Around} (r : Room (k + 1) A) : Room k A.in1 := ⟨r.hd, by have := r.dp; show A.depth + k < _; omega, by have := r.un; show A.units + 1 + 10 * k < _; omega⟩
theorem Room.units {k : Nat} {A : Around} (r : Room k A) : A.units < cLine := by have := r.un; omega
theorem Room.depth {k : Nat} {A : Around} (r : Room k A) : A.depth < recursionLimit := by have := r.dp; omega
end Mine
end
section
open PySem PySem.W PyProof.Rows PySem.Calls
namespace Mine
noncomputable abbrev KF : Params → Frag := Mine.hd.heap_1
structure Bs (w : World) (h : Heap) : Prop where
  K : (KF w.params).In h
  T : ∃ p loose mean mg mb, Top p loose mean mg mb h
theorem Bs.keeps {w : World} {h h' : Heap} (b : Bs w h) (k : Keeps h h') : Bs w h' :=
  ⟨b.K.keeps k.1, let ⟨p, l, m, g, c, t⟩ := b.T; ⟨p, l, m, g, c, t.keeps k.1⟩⟩
structure Ok (k : Nat) (C : Cx) : Prop where
  B : Bs C.w C.hb
  R : Room k C.A
  hk : C.env.scope.kind = .function
  hg : C.env.globals = mainGlobals
  hbn : C.env.builtins = builtinsNs
section
variable {α β : Type} {C : Cx} {st : St} {k : Nat}
def onB (b : Bool) (P R : Prop) : Prop := match b with | true => P | false => R
theorem onB_t {P R : Prop} (h : P) : onB true P R := h
theorem onB_f {P R : Prop} (h : R) : onB false P R := h
theorem onB_split {b : Bool} {P R : Prop} (h1 : b = true → P) (h2 : b = false → R) : onB b P R := by cases b; exact h2 rfl; exact h1 rfl
theorem onB_dt {p : Prop} [Decidable p] {P R : Prop} (hp : p) (h : P) : onB (decide p) P R := by rw [decide_eq_true hp]; exact h
theorem onB_df {p : Prop} [Decidable p] {P R : Prop} (hp : ¬ p) (h : R) : onB (decide p) P R := by rw [decide_eq_false hp]; exact h
theorem onB_eq {b c : Bool} {P R : Prop} (e : b = c) (h : onB c P R) : onB b P R := e ▸ h
def nextK (C : Cx) (r : List Stmt) (Q : Flow → St → Prop) (f : Flow) (st : St) : Prop := match f with | .next => Ev C (execs r C.env) st Q | f => Q f st
theorem nextK_n {r : List Stmt} {Q : Flow → St → Prop} (h : Ev C (execs r C.env) st Q) : nextK C r Q .next st := h
theorem nextK_r {r : List Stmt} {Q : Flow → St → Prop} {v : Value} (h : Q (.ret v) st) : nextK C r Q (.ret v) st := h
theorem nextK_b {r : List Stmt} {Q : Flow → St → Prop} (h : Q .brk st) : nextK C r Q .brk st := h
theorem nextK_c {r : List Stmt} {Q : Flow → St → Prop} (h : Q .cont st) : nextK C r Q .cont st := h
def loopK (P : St → Prop) (Q : Flow → St → Prop) (f : Flow) (st : St) : Prop := match f with | .next => P st | .cont => P st | .brk => Q .next st | .ret v => Q (.ret v) st
theorem loopK_n {P : St → Prop} {Q : Flow → St → Prop} (h : P st) : loopK P Q .next st := h
theorem loopK_c {P : St → Prop} {Q : Flow → St → Prop} (h : P st) : loopK P Q .cont st := h
theorem loopK_b {P : St → Prop} {Q : Flow → St → Prop} (h : Q .next st) : loopK P Q .brk st := h
theorem loopK_r {P : St → Prop} {Q : Flow → St → Prop} {v : Value} (h : Q (.ret v) st) : loopK P Q (.ret v) st := h
def retK (R : Value → Nw → Prop) (f : Flow) (st : St) : Prop := R (match f with | .ret v => v | _ => .none) st.nw
theorem retK_r {R : Value → Nw → Prop} {v : Value} {lv : Lv} {nw : Nw} (h : R v nw) : retK R (.ret v) ⟨lv, nw⟩ := h
theorem retK_n {R : Value → Nw → Prop} {lv : Lv} {nw : Nw} (h : R .none nw) : retK R .next ⟨lv, nw⟩ := h
def drawK (P : St → Prop) (N : Value → St → Prop) (r : Option Value) (st : St) : Prop := match r with | none => P st | some v => N v st
theorem drawK_n {P : St → Prop} {N : Value → St → Prop} (h : P st) : drawK P N none st := h
theorem drawK_s {P : St → Prop} {N : Value → St → Prop} {v : Value} (h : N v st) : drawK P N (some v) st := h
theorem Ev_glob {x : Str} {v : Value} {Q : Value → St → Prop} (hC : Ok k C) (hx : C.env.kindOf x = some .globalImplicit) (e : nsIn (KF C.w.params) mainGlobals x = some (some v)) (h : Q v st) : Ev C (loadName C.env x) st Q := fun s o => by
  obtain ⟨p, l, m, mg, mb, T⟩ := hC.B.T
  unfold loadName
  simp only [Env.blockKind, hC.hk, hx, ScopeKind.isAnnotationScope, Bool.false_and, Bool.false_eq_true, if_false]
  exact loadGlobal_global (by rw [hC.hg]; exact T.g.keeps o.F.keep) (mg_of hC.B.K T.g e) ⟨st, o, h⟩
theorem Ev_bltn {x : Str} {v : Value} {Q : Value → St → Prop} (hC : Ok k C) (hx : C.env.kindOf x = some .globalImplicit) (e : nsIn (KF C.w.params) mainGlobals x = some none) (hv : bootBuiltins x = some v) (h : Q v st)
    (hn : x ≠ "__name__" := by decide +kernel) : Ev C (loadName C.env x) st Q := fun s o => by
  obtain ⟨p, l, m, mg, mb, T⟩ := hC.B.T
  unfold loadName
  simp only [Env.blockKind, hC.hk, hx, ScopeKind.isAnnotationScope, Bool.false_and, Bool.false_eq_true, if_false]
  exact loadGlobal_builtin (by rw [hC.hg]; exact T.g.keeps o.F.keep) (mg_none_of hC.B.K T.g e) (by rw [hC.hbn]; exact T.b.keeps o.F.keep) ((T.builtins x hn).trans hv) ⟨st, o, h⟩
theorem Ev_Name {x : Str} {pos : Pos} {Q : Value → St → Prop} (h : Ev C (loadName C.env x) st Q) (hd : (x == ("__debug__" : Str)) = false := by decide +kernel) : Ev C (eval (.Name x pos) C.env) st Q :=
  Ev_eq (eval_Name C.env x pos hd) (Ev_bind (Ev_standAt h))
theorem Ev_Int {i : Int} {n : Nat} {pos : Pos} {Q : Value → St → Prop} (h : ∀ t, Q (.int i t) st) : Ev C (eval (.Constant (.int i) n pos) C.env) st Q := Ev_mkInt h
theorem Ev_Str {x : Str} {n : Nat} {pos : Pos} {Q : Value → St → Prop} (h : ∀ t, Q (.str x t) st) : Ev C (eval (.Constant (.str x) n pos) C.env) st Q := Ev_mkText h
theorem Ev_None {n : Nat} {pos : Pos} {Q : Value → St → Prop} (h : Q .none st) : Ev C (eval (.Constant .none n pos) C.env) st Q := Ev_pure h
theorem Ev_Bool {b : Bool} {n : Nat} {pos : Pos} {Q : Value → St → Prop} (h : Q (.bool b) st) : Ev C (eval (.Constant (.bool b) n pos) C.env) st Q := Ev_pure h
theorem Ev_Bytes {b : List UInt8} {n : Nat} {pos : Pos} {Q : Value → St → Prop} (h : ∀ t, Q (.bytes b.toArray t) st) : Ev C (eval (.Constant (.bytes b) n pos) C.env) st Q := fun s o =>
  wpAny_mkTextBytes ⟨st, o.tok _, h _⟩
theorem Ev_BinOp {op : Operator} {l r : Expr} {pos : Pos} {Q : Value → St → Prop}
    (h : Ev C (eval l C.env) st (fun a st1 => Ev C (eval r C.env) st1 (fun b st2 => Ev C (binaryOp op a b) st2 Q))) : Ev C (eval (.BinOp l op r pos) C.env) st Q := by
  rw [arm_eval_BinOp]
  exact Ev_bindM h fun a s1 h1 => Ev_bindM (Ev_holding h1) fun b s2 h2 => Ev_bind (Ev_standAt (Ev_operate h2))
theorem Ev_UnaryOp {op : UnaryOp} {x : Expr} {pos : Pos} {Q : Value → St → Prop} (h : Ev C (eval x C.env) st (fun a st1 => Ev C (unaryOp op a) st1 Q)) : Ev C (eval (.UnaryOp op x pos) C.env) st Q := by
  rw [arm_eval_UnaryOp]
  exact Ev_bindM h fun a s1 h1 => Ev_bind (Ev_standAt (Ev_holding h1))
theorem Ev_Compare {op : CmpOp} {l r : Expr} {pos : Pos} {Q : Value → St → Prop}
    (h : Ev C (eval l C.env) st (fun a st1 => Ev C (eval r C.env) st1 (fun b st2 => Ev C (compareOp op a b) st2 Q))) (hm : behindInMarks op r = false := by rfl) : Ev C (eval (.Compare l [op] [r] pos) C.env) st Q := by
  rw [eval_Compare1, markedBehindIn_of_false hm]
  exact Ev_bindM h fun a s1 h1 => Ev_bindM (Ev_holding h1) fun b s2 h2 => Ev_bind (Ev_standAt (Ev_operate h2))
theorem Ev_isCompare {op : CmpOp} {l r : Expr} {pos : Pos} {whole : Sem Value} {Q : Bool → St → Prop}
    (h : Ev C (eval l C.env) st (fun a st1 => Ev C (eval r C.env) st1 (fun b st2 => Ev C (compareOp op a b) st2 (fun c st3 => Ev C (truthy c) st3 Q)))) (hm : behindInMarks op r = false := by rfl) :
    Ev C (isTrue (.Compare l [op] [r] pos) C.env whole) st Q := by
  rw [isTrue_Compare1, markedBehindIn_of_false hm]
  exact Ev_bindM h fun a s1 h1 => Ev_bindM (Ev_holding h1) fun b s2 h2 => Ev_bind (Ev_standAt (Ev_bindM (Ev_operate h2) fun c s3 h3 => Ev_holding h3))
theorem Ev_isNot {x : Expr} {pos : Pos} {whole : Sem Value} {Q : Bool → St → Prop} (h : Ev C (isTrue x C.env (eval x C.env)) st (fun b st1 => Q (!b) st1)) : Ev C (isTrue (.UnaryOp .Not x pos) C.env whole) st Q := by
  rw [arm_isTrue_UnaryOp]
  exact Ev_bindM h fun b s1 h1 => Ev_pure h1
theorem Ev_isBoolOp {op : BoolOp} {vs : List Expr} {pos : Pos} {whole : Sem Value} {Q : Bool → St → Prop} (h : Ev C (allTrue op vs C.env) st Q) : Ev C (isTrue (.BoolOp op vs pos) C.env whole) st Q := by
  rw [arm_isTrue_BoolOp]; exact h
theorem Ev_and_nil {Q : Bool → St → Prop} (h : Q true st) : Ev C (allTrue .And [] C.env) st Q := Ev_pure h
theorem Ev_or_nil {Q : Bool → St → Prop} (h : Q false st) : Ev C (allTrue .Or [] C.env) st Q := Ev_pure h
theorem Ev_and_cons {x : Expr} {r : List Expr} {Q : Bool → St → Prop} (h : Ev C (isTrue x C.env (eval x C.env)) st (fun b st1 => onB b (Ev C (allTrue .And r C.env) st1 Q) (Q false st1))) :
    Ev C (allTrue .And (x :: r) C.env) st Q := by
  rw [arm_allTrue_cons]
  refine Ev_bindM h fun b s1 h1 => ?_
  cases b
  · exact Ev_pure h1
  · exact h1
theorem Ev_or_cons {x : Expr} {r : List Expr} {Q : Bool → St → Prop} (h : Ev C (isTrue x C.env (eval x C.env)) st (fun b st1 => onB b (Q true st1) (Ev C (allTrue .Or r C.env) st1 Q))) :
    Ev C (allTrue .Or (x :: r) C.env) st Q := by
  rw [arm_allTrue_cons]
  refine Ev_bindM h fun b s1 h1 => ?_
  cases b
  · exact h1
  · exact Ev_pure h1
theorem Ev_isValue {e : Expr} {whole : Sem Value} {Q : Bool → St → Prop} (h : Ev C whole st (fun v st1 => Ev C (truthy v) st1 Q)) (he : isTrue e C.env whole = (do let v ← whole; standAt e.pos; holding [v] (truthy v)) := by rfl) :
    Ev C (isTrue e C.env whole) st Q := by
  rw [he]
  exact Ev_bindM h fun v s1 h1 => Ev_bind (Ev_standAt (Ev_holding h1))
theorem Ev_IfExp {t b o : Expr} {pos : Pos} {Q : Value → St → Prop} (h : Ev C (isTrue t C.env (eval t C.env)) st (fun c st1 => onB c (Ev C (eval b C.env) st1 Q) (Ev C (eval o C.env) st1 Q))) :
    Ev C (eval (.IfExp t b o pos) C.env) st Q := by
  rw [arm_eval_IfExp]
  refine Ev_bindM h fun c s1 h1 => ?_
  cases c <;> exact h1
theorem Ev_bool {b : Bool} {Q : Bool → St → Prop} (h : Q b st) : Ev C (truthy (.bool b)) st Q := fun s o => wpAny_truthy_bool ⟨st, o, h⟩
theorem Ev_sp_nil {Q : List Value → St → Prop} (h : Q [] st) : Ev C (spliced []) st Q := Ev_pure h
theorem Ev_sp_cons {x : Sem Value} {r : List (Bool × Sem Value)} {Q : List Value → St → Prop} (h : Ev C x st (fun v st1 => Ev C (spliced r) st1 (fun vs st2 => Q (v :: vs) st2))) : Ev C (spliced ((false, x) :: r)) st Q := fun s o =>
  spliced_cons (wpAny_mono (h s o) (fun v s1 ⟨st1, o1, h1⟩ => h1 s1 o1) fun _ _ f => f)
theorem Ev_newTuple {vs : List Value} {lv : Lv} {nw : Nw} {Q : Value → St → Prop} (h : ∀ a, Q (.ref a) ⟨lv, (a, { cls := .type "tuple", data := .seq vs.toArray }) :: nw⟩) (hz : vs.length ≤ sizeLine) : Ev C (newTuple vs) ⟨lv, nw⟩ Q := fun s o =>
  wpAny_newObj_type ⟨_, o.alloc _ rfl, h _⟩ (by show vs.toArray.size ≤ sizeLine; rw [List.size_toArray]; exact hz)
theorem Ev_newList {vs : List Value} {lv : Lv} {nw : Nw} {Q : Value → St → Prop} (h : ∀ a, Q (.ref a) ⟨lv, (a, { cls := .type "list", data := .seq vs.toArray }) :: nw⟩) (hz : vs.length ≤ sizeLine) : Ev C (newList vs) ⟨lv, nw⟩ Q := fun s o =>
  wpAny_newObj_type ⟨_, o.alloc _ rfl, h _⟩ (by show vs.toArray.size ≤ sizeLine; rw [List.size_toArray]; exact hz)
theorem Ev_Tuple {es : List Expr} {n : Nat} {pos : Pos} {Q : Value → St → Prop} (h : Ev C (spliced (backTo pos (starEach es C.env))) st (fun vs st1 => Ev C (newTuple vs) st1 Q)) : Ev C (eval (.Tuple es n pos) C.env) st Q := by
  rw [arm_eval_Tuple]
  exact Ev_bind (Ev_standAt (Ev_bind h))
theorem Ev_List {es : List Expr} {pos : Pos} {Q : Value → St → Prop} (h : Ev C (spliced (backTo pos (starEach es C.env))) st (fun vs st1 => Ev C (newList vs) st1 Q)) : Ev C (eval (.List es pos) C.env) st Q := by
  rw [arm_eval_List]
  exact Ev_bind (Ev_standAt (Ev_bind h))
theorem Ev_nil {Q : Flow → St → Prop} (h : Q .next st) : Ev C (execs [] C.env) st Q := Ev_pure h
theorem Ev_cons {x : Stmt} {r : List Stmt} {Q : Flow → St → Prop} (h : Ev C (exec x C.env) st (nextK C r Q)) : Ev C (execs (x :: r) C.env) st Q := by
  rw [execs_cons]
  refine Ev_bindM h fun f s1 h1 => ?_
  cases f <;> first | exact h1 | exact Ev_pure h1
theorem Ev_bindName {x : Str} {v : Value} {Q : Unit → St → Prop} (h : Ev C (storeName C.env x v) st Q) : Ev C (bindName C.env x v) st Q := fun s o => wpAny_bindName (h s o)
theorem Ev_Assign {x : Str} {p' pos : Pos} {e : Expr} {Q : Flow → St → Prop} (h : Ev C (eval e C.env) st (fun v st1 => Ev C (storeName C.env x v) st1 (fun _ st2 => Q .next st2)))
    (hs : swapsWith e (some (.Name x p')) pos.line C.env = pure false := by rfl) : Ev C (exec (.Assign [.Name x p'] e pos) C.env) st Q := by
  rw [exec_Assign_Name C.env x p' e pos hs]
  exact Ev_bind (Ev_standAt (Ev_bindM h fun v s1 h1 => Ev_bind (Ev_standAt (Ev_bindM (Ev_bindName h1) fun _ s2 h2 => Ev_pure h2))))
theorem Ev_AugAssign {x : Str} {p' pos : Pos} {op : Operator} {e : Expr} {Q : Flow → St → Prop} (h : Ev C (loadName C.env x) st (fun a st0 => Ev C (eval e C.env) st0 (fun b st1 => Ev C (inplaceOp op a b) st1 (fun v st2 => Ev C (storeName C.env x v) st2 (fun _ st3 => Q .next st3))))) :
    Ev C (exec (.AugAssign (.Name x p') op e pos) C.env) st Q := by
  rw [exec_AugAssign_Name]
  exact Ev_bind (Ev_standAt (Ev_bindM h fun a s0 h0 => Ev_bindM (Ev_holding h0) fun b s1 h1 => Ev_bind (Ev_standAt (Ev_bindM (Ev_operate h1) fun v s2 h2 => Ev_bind (Ev_standAt (Ev_bindM (Ev_bindName h2) fun _ s3 h3 => Ev_pure h3))))))
theorem Ev_If {t : Expr} {b o : List Stmt} {pos : Pos} {Q : Flow → St → Prop} (h : Ev C (isTrue t C.env (eval t C.env)) st (fun c st1 => onB c (Ev C (execs b C.env) st1 Q) (Ev C (execs o C.env) st1 Q))) :
    Ev C (exec (.If t b o pos) C.env) st Q := by
  rw [exec_If]
  refine Ev_bind (Ev_standAt (Ev_bindM h fun c s1 h1 => ?_))
  cases c <;> exact h1
theorem Ev_Return {e : Expr} {pos : Pos} {Q : Flow → St → Prop} (h : Ev C (eval e C.env) st (fun v st1 => Q (.ret v) st1)) : Ev C (exec (.Return (some e) pos) C.env) st Q := by
  rw [exec_Return_some]
  exact Ev_bind (Ev_standAt (Ev_bindM h fun v s1 h1 => Ev_pure h1))
theorem Ev_Assert {t : Expr} {m : Option Expr} {pos : Pos} {Q : Flow → St → Prop} (h : Ev C (isTrue t C.env (eval t C.env)) st (fun c st1 => c = true ∧ Q .next st1)) : Ev C (exec (.Assert t m pos) C.env) st Q := by
  rw [arm_exec_Assert]
  refine Ev_bind (Ev_standAt (Ev_bindM h fun c s1 h1 => ?_))
  obtain ⟨rfl, h1⟩ := h1
  exact Ev_pure h1
theorem Ev_Break {pos : Pos} {Q : Flow → St → Prop} (h : Q .brk st) : Ev C (exec (.Break pos) C.env) st Q := by rw [arm_exec_Break]; exact Ev_bind (Ev_standAt (Ev_pure h))
theorem Ev_Continue {pos : Pos} {Q : Flow → St → Prop} (h : Q .cont st) : Ev C (exec (.Continue pos) C.env) st Q := by rw [arm_exec_Continue]; exact Ev_bind (Ev_standAt (Ev_pure h))
theorem Ev_Expr {e : Expr} {pos : Pos} {Q : Flow → St → Prop} (h : Ev C (eval e C.env) st (fun v st1 => v = .none ∧ Q .next st1)) (hi : interactive C.env = false := by rfl) (hs : swapsWith e none pos.line C.env = pure false := by rfl) :
    Ev C (exec (.Expr e pos) C.env) st Q := by
  rw [exec_Expr C.env e pos hi hs]
  refine Ev_bind (Ev_standAt (Ev_bindM h fun v s1 h1 => ?_))
  obtain ⟨rfl, h1⟩ := h1
  rw [dropValue_plain (by intro a ha; cases ha)]
  exact Ev_pure h1
def LoopW (C : Cx) (t : Expr) (b o : List Stmt) (st : St) (Q : Flow → St → Prop) : Prop :=
  ∀ s, Own C st s → codeAny (model C.p C.w) C.A (.whileLoop t b o C.env) (fun r s' => ∃ f st', r = .ok f ∧ Own C st' s' ∧ Q f st') s
theorem LoopW.turn {t : Expr} {b o : List Stmt} {Q : Flow → St → Prop}
    (h : Ev C (isTrue t C.env (eval t C.env)) st (fun c st1 => onB c (Ev C (execs b C.env) st1 (loopK (fun st2 => LoopW C t b o st2 Q) Q)) (Ev C (execs o C.env) st1 Q))) : LoopW C t b o st Q := fun s ow => by
  refine codeAny_of_tree ?_
  show wpAny _ C.A ((whileTurn t b o C.env).onRaise (fun x => do noteFrame x C.env; theTreesLotGoes x)) _ _ s
  refine wpAny_noted ?_
  simp only [whileTurn]
  refine wpAny_bind (wpAny_mono (h s ow) (fun c s1 h1 => ?_) fun _ _ f => f.elim)
  obtain ⟨st1, o1, h1⟩ := h1
  cases c with
  | true =>
    simp only [if_true]
    refine wpAny_bind (wpAny_mono (h1 s1 o1) (fun f s2 h2 => ?_) fun _ _ f => f.elim)
    obtain ⟨st2, o2, h2⟩ := h2
    cases f with
    | next => exact wpAny_pure ⟨rfl, h2 s2 o2⟩
    | cont => exact wpAny_pure ⟨rfl, h2 s2 o2⟩
    | brk => exact wpAny_pure ⟨_, st2, rfl, o2, h2⟩
    | ret v => exact wpAny_pure ⟨_, st2, rfl, o2, h2⟩
  | false =>
    simp only [Bool.false_eq_true, if_false]
    refine wpAny_bind (wpAny_mono (h1 s1 o1) (fun f s2 h2 => ?_) fun _ _ f => f.elim)
    obtain ⟨st2, o2, h2⟩ := h2
    exact wpAny_pure ⟨_, st2, rfl, o2, h2⟩
theorem LoopW.ind {t : Expr} {b o : List Stmt} {Q : Flow → St → Prop} (I : Nat → St → Prop)
    (turn : ∀ n st, I n st → Ev C (isTrue t C.env (eval t C.env)) st (fun c st1 => onB c (Ev C (execs b C.env) st1 (loopK (fun st2 => ∃ m, m < n ∧ I m st2) Q)) (Ev C (execs o C.env) st1 Q))) (n : Nat) (h : I n st) : LoopW C t b o st Q := by
  induction n using Nat.strongRecOn generalizing st with
  | ind n ih =>
    refine LoopW.turn (Ev_mono (turn n st h) fun c st1 h1 => ?_)
    cases c with
    | false => exact h1
    | true =>
      refine Ev_mono h1 fun f st2 h2 => ?_
      cases f with
      | next => obtain ⟨m, hm, hi⟩ := h2; exact ih m hm hi
      | cont => obtain ⟨m, hm, hi⟩ := h2; exact ih m hm hi
      | brk => exact h2
      | ret v => exact h2
theorem mark_none (A : Around) : A.mark none = A := by cases A; rfl
theorem Ev_While {t : Expr} {b o : List Stmt} {pos : Pos} {Q : Flow → St → Prop} (h : LoopW C t b o st Q) : Ev C (exec (.While t b o pos) C.env) st Q := fun s ow => by
  refine wpAny_While (codeAny_mono (h s ow) fun r s' hr => ?_)
  obtain ⟨f, st', rfl, o', q⟩ := hr
  exact ⟨st', o', q⟩
def LoopF (C : Cx) (tg : Expr) (it : Value) (b o : List Stmt) (st : St) (Q : Flow → St → Prop) : Prop :=
  ∀ s, Own C st s → codeAny (model C.p C.w) C.A (.forLoop tg it b o C.env) (fun r s' => ∃ f st', r = .ok f ∧ Own C st' s' ∧ Q f st') s
theorem LoopF.turn {tg : Expr} {it : Value} {b o : List Stmt} {Q : Flow → St → Prop}
    (h : Ev C (pyNext it) st (drawK (fun st1 => Ev C (execs o C.env) st1 Q) (fun v st1 => Ev C (assign tg C.env v) st1 (fun _ st2 => Ev C (execs b C.env) st2 (loopK (fun st3 => LoopF C tg it b o st3 Q) Q)))))
    (ht : ∀ v, letOwnedTupleGo tg it v = pure () := by intro _; rfl) : LoopF C tg it b o st Q := fun s ow => by
  refine codeAny_of_tree ?_
  show wpAny _ C.A ((forTurn tg it b o C.env).onRaise (fun x => do noteFrame x C.env; theTreesLotGoes x)) _ _ s
  refine wpAny_noted ?_
  simp only [forTurn]
  refine wpAny_bind (wpAny_standAt (wpAny_bind (wpAny_onRaise (wpAny_mono (h s ow) (fun r s1 h1 => ?_) fun _ _ f => f.elim))))
  obtain ⟨st1, o1, h1⟩ := h1
  cases r with
  | none =>
    refine wpAny_pure ⟨rfl, codeAny_block (wpAny_mono (h1 s1 o1) (fun f s2 h2 => ?_) fun _ _ f => f.elim)⟩
    obtain ⟨st2, o2, h2⟩ := h2
    exact ⟨_, st2, rfl, o2, h2⟩
  | some v =>
    refine wpAny_bind (wpAny_of_eq (ht v) ?_)
    refine wpAny_bind (wpAny_mono (h1 s1 o1) (fun _ s2 h2 => ?_) fun _ _ f => f.elim)
    obtain ⟨st2, o2, h2⟩ := h2
    refine wpAny_bind (wpAny_mono (h2 s2 o2) (fun f s3 h3 => ?_) fun _ _ f => f.elim)
    obtain ⟨st3, o3, h3⟩ := h3
    cases f with
    | next => exact wpAny_pure ⟨rfl, h3 s3 o3⟩
    | cont => exact wpAny_pure ⟨rfl, h3 s3 o3⟩
    | brk => exact wpAny_pure ⟨_, st3, rfl, o3, h3⟩
    | ret v => exact wpAny_pure ⟨_, st3, rfl, o3, h3⟩
theorem LoopF.ind {tg : Expr} {it : Value} {b o : List Stmt} {Q : Flow → St → Prop} (I : Nat → St → Prop)
    (turn : ∀ n st, I n st → Ev C (pyNext it) st (drawK (fun st1 => Ev C (execs o C.env) st1 Q) (fun v st1 => Ev C (assign tg C.env v) st1 (fun _ st2 => Ev C (execs b C.env) st2 (loopK (fun st3 => ∃ m, m < n ∧ I m st3) Q)))))
    (n : Nat) (h : I n st) (ht : ∀ v, letOwnedTupleGo tg it v = pure () := by intro _; rfl) : LoopF C tg it b o st Q := by
  induction n using Nat.strongRecOn generalizing st with
  | ind n ih =>
    refine LoopF.turn (Ev_mono (turn n st h) fun r st1 h1 => ?_) ht
    cases r with
    | none => exact h1
    | some v =>
      refine Ev_mono h1 fun _ st2 h2 => Ev_mono h2 fun f st3 h3 => ?_
      cases f with
      | next => obtain ⟨m, hm, hi⟩ := h3; exact ih m hm hi
      | cont => obtain ⟨m, hm, hi⟩ := h3; exact ih m hm hi
      | brk => exact h3
      | ret v => exact h3
theorem Ev_For {tg it : Expr} {b o : List Stmt} {pos : Pos} {Q : Flow → St → Prop} (h : Ev C (eval it C.env) st (fun x st1 => Ev C (pyIter x) st1 (fun iv st2 => LoopF C tg iv b o st2 Q)))
    (hs : ∀ x, foldedSetIterable it C.env x = pure x := by intro _; rfl) : Ev C (exec (.For tg it b o pos) C.env) st Q := fun s ow => by
  refine wpAny_For (wpAny_mono (h s ow) (fun x s1 h1 => ?_) fun _ _ f => f.elim) hs
  obtain ⟨st1, o1, h1⟩ := h1
  refine wpAny_mono (h1 s1 o1) (fun iv s2 h2 => ?_) fun _ _ f => f.elim
  obtain ⟨st2, o2, h2⟩ := h2
  refine codeAny_mono (h2 s2 o2) fun r s' hr => ?_
  obtain ⟨f, st', rfl, o', q⟩ := hr
  exact ⟨st', o', q⟩
def Imp (A K : Flow → St → Prop) : Prop := ∀ f st, A f st → K f st
theorem Ev_absQ {α : Type} {m : Sem α} {Q : α → St → Prop} (h : ∀ Q' : α → St → Prop, (∀ a st, Q a st → Q' a st) → Ev C m st Q') : Ev C m st Q := h Q fun _ _ x => x
theorem LoopW.indo {t : Expr} {b o : List Stmt} {Q : Flow → St → Prop} (I₀ : Nat → St → Prop)
    (turn : ∀ (I : Nat → St → Prop), (∀ n st, I₀ n st → I n st) → ∀ Q' : Flow → St → Prop, Imp Q Q' → ∀ n st, I₀ n st → Ev C (isTrue t C.env (eval t C.env)) st (fun c st1 => onB c (Ev C (execs b C.env) st1 (loopK (fun st2 => ∃ m, m < n ∧ I m st2) Q')) (Ev C (execs o C.env) st1 Q'))) (n : Nat) (h : I₀ n st) : LoopW C t b o st Q :=
  LoopW.ind I₀ (turn I₀ (fun _ _ h => h) Q fun _ _ h => h) n h
theorem LoopF.indo {tg : Expr} {it : Value} {b o : List Stmt} {Q : Flow → St → Prop} (I₀ : Nat → St → Prop)
    (turn : ∀ (I : Nat → St → Prop), (∀ n st, I₀ n st → I n st) → ∀ Q' : Flow → St → Prop, Imp Q Q' → ∀ n st, I₀ n st → Ev C (pyNext it) st (drawK (fun st1 => Ev C (execs o C.env) st1 Q') (fun v st1 => Ev C (assign tg C.env v) st1 (fun _ st2 => Ev C (execs b C.env) st2 (loopK (fun st3 => ∃ m, m < n ∧ I m st3) Q')))))
    (n : Nat) (h : I₀ n st) (ht : ∀ v, letOwnedTupleGo tg it v = pure () := by intro _; rfl) : LoopF C tg it b o st Q :=
  LoopF.ind I₀ (turn I₀ (fun _ _ h => h) Q fun _ _ h => h) n h ht
theorem ix_lt {g j N : Nat} (h : g + 1 + j = N) : j < N := by omega
theorem ix_next {g j N : Nat} (h : g + 1 + j = N) : g + (j + 1) = N := by omega
theorem ix_end {j N : Nat} (h : 0 + j = N) : j = N := (Nat.zero_add j).symm.trans h
theorem ix_sz {n j N : Nat} (h : n = min j N) (hN : N ≤ 11) : n ≤ 16777216 := by omega
theorem ix_sz2 {n j N : Nat} (h : n = min j N) (hN : N ≤ 8) : n ≤ 16777216 := by omega
theorem Imp.use {A K : Flow → St → Prop} {f : Flow} {st : St} (h : Imp A K) (x : A f st) : K f st := h f st x
theorem Ev_consK {x : Stmt} {r : List Stmt} {Q : Flow → St → Prop} (h : ∀ K : Flow → St → Prop, Imp (nextK C r Q) K → Ev C (exec x C.env) st K) : Ev C (execs (x :: r) C.env) st Q := Ev_cons (h _ fun _ _ x => x)
end
end Mine
end
section
open PySem PySem.W PyProof.Rows PySem.Calls
namespace Mine
def FnA (p : Program) (w : World) (k : Nat) (hb : Heap) (f : Value) (args : Args) (nw : Nw) (R : Value → Nw → Prop) : Prop :=
  ∀ A h g d tk os, Room k A → Keeps hb h → Owns hb h nw →
    codeAny (model p w) A (.call f args) (fun r s' => ∃ v nw', r = .ok (.ret v) ∧ s' = ⟨s'.heap, g, d, s'.toks, os⟩ ∧ Keeps hb s'.heap ∧ Owns hb s'.heap nw' ∧ R v nw') ⟨h, g, d, tk, os⟩
abbrev Fn (p : Program) (w : World) (k : Nat) (hb : Heap) (f : Value) (vs : List Value) (nw : Nw) (R : Value → Nw → Prop) : Prop := FnA p w k hb f ⟨vs, []⟩ nw R
theorem FnA.mono {p : Program} {w : World} {k : Nat} {hb : Heap} {f : Value} {args : Args} {nw : Nw} {R R' : Value → Nw → Prop} (h : FnA p w k hb f args nw R) (hR : ∀ v nw', R v nw' → R' v nw') : FnA p w k hb f args nw R' :=
  fun A h₁ g d tk os r kp ow => codeAny_mono (h A h₁ g d tk os r kp ow) fun _ _ ⟨v, nw', a, b, c, e, q⟩ => ⟨v, nw', a, b, c, e, hR v nw' q⟩
theorem FnA.le {p : Program} {w : World} {k k' : Nat} {hb : Heap} {f : Value} {args : Args} {nw : Nw} {R : Value → Nw → Prop} (h : FnA p w k hb f args nw R) (hk : k ≤ k') : FnA p w k' hb f args nw R :=
  fun A h₁ g d tk os r kp ow => h A h₁ g d tk os (r.le hk) kp ow
section
variable {C : Cx} {st : St} {k : Nat}
theorem Own.ground {C : Cx} {lv : Lv} {nw1 nw2 : Nw} {s : Shared} (o : Own C ⟨lv, nw1 ++ nw2⟩ s) :
    Keeps C.hb (hideAll s.heap (nw1.map (·.1))) ∧ Keeps (hideAll s.heap (nw1.map (·.1))) s.heap ∧ Owns (hideAll s.heap (nw1.map (·.1))) s.heap nw1 ∧
    ∀ s' nw1', s' = ⟨s'.heap, C.g, C.d, s'.toks, C.os⟩ → Keeps (hideAll s.heap (nw1.map (·.1))) s'.heap → Owns (hideAll s.heap (nw1.map (·.1))) s'.heap nw1' → Own C ⟨lv, nw1' ++ nw2⟩ s' := by
  have hL : C.env.locals < s.heap.objs.size := o.F.ns.lt
  have hsz : C.hb.objs.size ≤ s.heap.objs.size := Nat.le_trans o.F.above (Nat.le_of_lt hL)
  have nd := o.nd
  rw [show (⟨lv, nw1 ++ nw2⟩ : St).nw = nw1 ++ nw2 from rfl, List.map_append, List.nodup_append] at nd
  have k1 : Keeps C.hb (hideAll s.heap (nw1.map (·.1))) := by
    refine ⟨fun b x e => hideAll_get _ (o.F.keep b x e) fun hm => ?_, by rw [hideAll_size]; exact hsz⟩
    obtain ⟨p, hp, rfl⟩ := List.mem_map.mp hm
    have := (o.N p (List.mem_append_left _ hp)).2.2
    rw [this] at e; cases e
  refine ⟨k1, ⟨fun b x e => of_hideAll _ e, by rw [hideAll_size]; exact Nat.le_refl _⟩, ⟨fun p hp => ⟨(o.N p (List.mem_append_left _ hp)).1, hideAll_none _ (List.mem_map_of_mem hp)⟩, nd.1⟩, ?_⟩
  intro s' nw1' es kp ow
  obtain ⟨oL, ees, ep, gL, rL⟩ := o.F.ns
  have hLn : C.env.locals ∉ nw1.map (·.1) := fun hm => by
    obtain ⟨p, hp, e⟩ := List.mem_map.mp hm
    exact (o.N p (List.mem_append_left _ hp)).2.1 e
  have gL' := hideAll_get _ gL hLn
  have in2 : ∀ p ∈ nw2, (hideAll s.heap (nw1.map (·.1))).get? p.1 = some p.2 := fun p hp => hideAll_get _ (o.N p (List.mem_append_right _ hp)).1 fun hm => by
    exact nd.2.2 _ hm _ (List.mem_map_of_mem hp) rfl
  refine ⟨es, ⟨⟨oL, ees, ep, kp.1 _ _ gL', rL⟩, fun b x e => kp.1 _ _ (k1.1 b x e), o.F.above⟩, fun p hp => ?_, ?_, o.ln⟩
  · rcases List.mem_append.mp hp with hp | hp
    · refine ⟨(ow.1 p hp).1, fun e => ?_, ?_⟩
      · have := (ow.1 p hp).2; rw [e, gL'] at this; cases this
      · cases q : C.hb.get? p.1 with
        | none => rfl
        | some x => have := (ow.1 p hp).2; rw [k1.1 _ _ q] at this; cases this
    · exact ⟨kp.1 _ _ (in2 p hp), (o.N p (List.mem_append_right _ hp)).2⟩
  · show ((nw1' ++ nw2).map (·.1)).Nodup
    rw [List.map_append, List.nodup_append]
    refine ⟨ow.2, nd.2.1, fun a ha b hb e => ?_⟩
    obtain ⟨p, hp, rfl⟩ := List.mem_map.mp ha
    obtain ⟨q, hq, rfl⟩ := List.mem_map.mp hb
    have h1 := (ow.1 p hp).2
    have h2 := in2 q hq
    rw [e, h2] at h1; cases h1
theorem Ev_fn {f : Value} {vs : List Value} {kw : List (Str × Value)} {lv : Lv} {nw nw1 nw2 : Nw} {Q : Value → St → Prop} (hp : nw.Perm (nw1 ++ nw2)) (hR : Room k C.A)
    (h : ∀ hb', Keeps C.hb hb' → FnA C.p C.w k hb' f ⟨vs, kw⟩ nw1 (fun v nw1' => Q v ⟨lv, nw1' ++ nw2⟩)) : Ev C (call f vs kw) ⟨lv, nw⟩ Q := fun s o => by
  obtain ⟨k1, k2, ow, back⟩ := (o.perm hp).ground
  refine wpAny_call ?_
  have h1 := h _ k1 C.A s.heap C.g C.d s.toks C.os hR k2 ow
  rw [← o.eq] at h1
  refine codeAny_mono h1 fun r s' hr => ?_
  obtain ⟨v, nw', rfl, es, kp, ow', q⟩ := hr
  exact ⟨_, back s' nw' es kp ow', q⟩
def bindAll (env : Env) : List (Str × Value) → Sem Unit
  | [] => pure ()
  | (n, v) :: r => do storeName env n v; bindAll env r
theorem Ev_bind_nil {Q : Unit → St → Prop} (h : Q () st) : Ev C (bindAll C.env []) st Q := Ev_pure h
theorem Ev_bind_cons {n : Str} {v : Value} {r : List (Str × Value)} {Q : Unit → St → Prop} (h : Ev C (storeName C.env n v) st (fun _ st1 => Ev C (bindAll C.env r) st1 Q)) : Ev C (bindAll C.env ((n, v) :: r)) st Q := Ev_bind h
theorem forIn_bindAll {env : Env} (f : Str × Value → PUnit → Sem (ForInStep PUnit)) (hf : ∀ n v u, f (n, v) u = (do storeName env n v; pure (.yield ⟨⟩))) : ∀ binds : List (Str × Value), forIn binds ⟨⟩ f = bindAll env binds
  | [] => rfl
  | (n, v) :: r => by
    rw [List.forIn_cons, hf, bind_assoc]
    unfold bindAll
    refine congrArg (fun t => storeName env n v >>= t) (funext fun _ => ?_)
    rw [pure_bind]
    exact forIn_bindAll f hf r
def cellNames (names : List (Str × NameKind)) : List Str := names.filterMap fun p => if p.2 == .cell then some p.1 else none
def cellAddrs : Nat → List (Str × NameKind) → List Addr
  | _, [] => []
  | n, (_, kd) :: r => if kd == .cell then n :: cellAddrs (n + 1) r else cellAddrs n r
theorem cellAddrs_len : ∀ (names : List (Str × NameKind)) (n : Nat), (cellAddrs n names).length = (cellNames names).length
  | [], _ => rfl
  | (x, kd) :: r, n => by
    unfold cellAddrs cellNames
    cases h : kd == .cell
    · simp only [Bool.false_eq_true, if_false, List.filterMap_cons, h]; exact cellAddrs_len r n
    · simp only [if_true, List.filterMap_cons, h, List.length_cons]; rw [cellAddrs_len r (n + 1)]; rfl
theorem cellAddrs_ge : ∀ (names : List (Str × NameKind)) (n : Nat), ∀ a ∈ cellAddrs n names, n ≤ a
  | [], _, _, h => nomatch h
  | (x, kd) :: r, n, a, h => by
    unfold cellAddrs at h
    split at h
    · rcases List.mem_cons.mp h with rfl | h
      · exact Nat.le_refl _
      · exact Nat.le_of_succ_le (cellAddrs_ge r (n + 1) a h)
    · exact cellAddrs_ge r n a h
theorem cellAddrs_nodup : ∀ (names : List (Str × NameKind)) (n : Nat), (cellAddrs n names).Nodup
  | [], _ => List.nodup_nil
  | (x, kd) :: r, n => by
    unfold cellAddrs
    split
    · exact List.nodup_cons.mpr ⟨fun h => Nat.lt_irrefl _ (cellAddrs_ge r (n + 1) n h), cellAddrs_nodup r _⟩
    · exact cellAddrs_nodup r n
theorem cellsFrom_eq : ∀ (names : List (Str × NameKind)) (n : Nat) (acc : List (Str × Addr)), cellsFrom n names acc = ((cellNames names).zip (cellAddrs n names)).reverse ++ acc
  | [], _, _ => rfl
  | (x, kd) :: r, n, acc => by
    unfold cellsFrom cellAddrs
    have e : cellNames ((x, kd) :: r) = if kd == .cell then x :: cellNames r else cellNames r := by
      unfold cellNames; rw [List.filterMap_cons]; dsimp only; split <;> simp_all
    rw [e]
    split
    · rw [cellsFrom_eq r]; simp [List.zip_cons_cons]
    · exact cellsFrom_eq r n acc
theorem pushCells_new : ∀ (names : List (Str × NameKind)) (h : Heap), ∀ a ∈ cellAddrs h.objs.size names, (pushCells h names).get? a = some (cellO none)
  | [], _, _, h => nomatch h
  | (x, kd) :: r, h, a, hm => by
    unfold cellAddrs at hm
    unfold pushCells
    split at hm
    · rename_i hk
      rw [if_pos hk]
      rcases List.mem_cons.mp hm with rfl | hm
      · exact pushCells_keeps r _ _ _ (Heap.get?_push_size _ rfl)
      · refine pushCells_new r _ a ?_
        rw [Heap.size_push]; exact hm
    · rename_i hk
      rw [if_neg hk]
      exact pushCells_new r h a hm
theorem lvm_none (ls : List Str) : lvm (ls.map fun x => (x, none)) = fun _ => none := by
  funext y
  unfold lvm
  induction ls with
  | nil => rfl
  | cons x r ih =>
    rw [List.map_cons, List.lookup_cons]
    cases y == x
    · exact ih
    · rfl
inductive BindR (env : Env) : List (Str × Value) → Lv → Nw → Lv → Nw → Prop
  | nil {lv nw} : BindR env [] lv nw lv nw
  | loc {n v r lv lv1 lv2 nw nw2} : env.kindOf n = some .local → Put n v lv lv1 → BindR env r lv1 nw lv2 nw2 → BindR env ((n, v) :: r) lv nw lv2 nw2
  | cell {n v r lv lv2 nw nw1 nw2 c v₀} : env.kindOf n = some .cell → env.cells.lookup n = some c → Upd1 c (cellO v₀) (cellO (some v)) nw nw1 → BindR env r lv nw1 lv2 nw2 → BindR env ((n, v) :: r) lv nw lv2 nw2
theorem BindR.ev {binds : List (Str × Value)} {lv lv' : Lv} {nw nw' : Nw} (b : BindR C.env binds lv nw lv' nw') (hk : C.env.scope.kind = .function) {Q : Unit → St → Prop} (h : Q () ⟨lv', nw'⟩) : Ev C (bindAll C.env binds) ⟨lv, nw⟩ Q := by
  induction b with
  | nil => exact Ev_pure h
  | loc h1 h2 _ ih => exact Ev_bind (Ev_storeL hk h1 h2 (ih h))
  | cell h1 h2 h3 _ ih => exact Ev_bind (Ev_storeC hk h1 h2 h3 (ih h))
theorem Fn_def {p : Program} {w : World} {k : Nat} {hb : Heap} {f : Addr} {args : Args} {nw : Nw} {R : Value → Nw → Prop} {name qual : Str} {params : Arguments} {body : List Stmt} {scope : Scope} {dV kV doc pm cdv ct oc : Value} {an od : Option Addr} {osl : Array (Option Value)} {binds : List (Str × Value)} (ls cn : List Str)
    (B : Bs w hb) (ho : (KF w.params).lookup f = some ⟨oc, od, .func (fnOf name qual params body scope dV kV doc pm an cdv ct), osl⟩) (hcd : codeIn (KF w.params) cdv qual = true)
    (hbind : ∀ s : Shared, (KF w.params).In s.heap → BindsTo s (fnOf name qual params body scope dV kV doc pm an cdv ct) args binds)
    (hcn : cellNames scope.names = cn) (hls : ls.Nodup)
    (h : ∀ (C : Cx) (ca : List Addr), ca.length = cn.length → Ok k C → C.hb = hb → C.p = p → C.w = w → C.env.scope = scope → C.env.cells = (cn.zip ca).reverse → C.env.qual = qual ++ ".<locals>." → C.env.code = cdv →
      ∃ lv' nw', BindR C.env binds (ls.map fun x => (x, none)) ((ca.map fun a => (a, cellO none)) ++ nw) lv' nw' ∧ Ev C (execs body C.env) ⟨lv', nw'⟩ (retK R))
    (hco : scope.isCoroutine = false := by rfl) (hgen : scope.isGenerator = false := by rfl) (hk : scope.kind = .function := by rfl) : FnA p w (k + 1) hb (.ref f) args nw R := by
  intro A h₁ g d tk os hR kp ow
  have Kh := B.K.keeps kp.1
  obtain ⟨pp, l, me, mg, mb, T⟩ := B.T
  refine codeAny_call_function (fd := fnOf name qual params body scope dV kV doc pm an cdv ct) (body := body) (hR.le (Nat.le_succ _)).depth (Kh _ _ ho) rfl hco hgen rfl (codeRec_of Kh hcd) ?_
  refine hbind _ Kh _ _ _ _ ?_
  simp only [newFunctionEnv, Option.isSome_none, Bool.false_eq_true, if_false]
  refine wpAny_bind (wpAny_alloc ?_)
  refine wpAny_bind (wpAny_layCells _ (fun name kind cells => by cases hkc : kind == NameKind.cell <;> simp [hkc]) _ _ _ _ ?_)
  rw [forIn_bindAll (env := { scope := scope, locals := h₁.objs.size, globals := mainGlobals, cells := cellsFrom (h₁.push { cls := .type "frame", data := .dict #[] }).objs.size scope.names [], qual := qual ++ ".<locals>.", func := some f, code := cdv, frame := some h₁.objs.size, builtins := builtinsNs }) _ (fun _ _ _ => rfl)]
  have hlen := cellAddrs_len scope.names (h₁.push { cls := .type "frame", data := .dict #[] }).objs.size
  rw [hcn] at hlen
  have hge := cellAddrs_ge scope.names (h₁.push { cls := .type "frame", data := .dict #[] }).objs.size
  have hnd := cellAddrs_nodup scope.names (h₁.push { cls := .type "frame", data := .dict #[] }).objs.size
  have hnew := pushCells_new scope.names (h₁.push { cls := .type "frame", data := .dict #[] })
  have hkeep : ∀ b o, h₁.get? b = some o → (pushCells (h₁.push { cls := .type "frame", data := .dict #[] }) scope.names).get? b = some o := fun b o e => pushCells_keeps _ _ _ _ (Heap.get?_push_of_some _ e)
  have hsz : (h₁.push { cls := .type "frame", data := .dict #[] }).objs.size = h₁.objs.size + 1 := Heap.size_push ..
  generalize hca : cellAddrs (h₁.push { cls := .type "frame", data := .dict #[] }).objs.size scope.names = ca at hlen hge hnd hnew
  have hcells : cellsFrom (h₁.push { cls := .type "frame", data := .dict #[] }).objs.size scope.names [] = (cn.zip ca).reverse := by rw [cellsFrom_eq, hca, hcn, List.append_nil]
  rw [hcells]
  generalize hE : ({ scope := scope, locals := h₁.objs.size, globals := mainGlobals, cells := (cn.zip ca).reverse, qual := qual ++ ".<locals>.", func := some f, code := cdv, frame := some h₁.objs.size, builtins := builtinsNs } : Env) = env
  have none_ge : ∀ a, h₁.objs.size ≤ a → hb.get? a = none := fun a ha => by
    cases q : hb.get? a with
    | none => rfl
    | some x => exact absurd (Nat.lt_of_lt_of_le (Heap.lt_size q) (Nat.le_trans kp.2 ha)) (Nat.lt_irrefl _)
  have H := h ⟨p, w, A.deeper env, env, hb, g, d, os⟩ ca hlen ⟨B, hR.deeper env, by subst hE; exact hk, by subst hE; rfl, by subst hE; rfl⟩ rfl rfl rfl (by subst hE; rfl) (by subst hE; rfl) (by subst hE; rfl) (by subst hE; rfl)
  have O : Own ⟨p, w, A.deeper env, env, hb, g, d, os⟩ ⟨ls.map fun x => (x, none), (ca.map fun a => (a, cellO none)) ++ nw⟩ ⟨pushCells (h₁.push { cls := .type "frame", data := .dict #[] }) scope.names, g, d, tk, os⟩ := by
    have hloc : env.locals = h₁.objs.size := by subst hE; rfl
    refine ⟨rfl, ⟨?_, fun b x e => hkeep b x (kp.1 b x e), ?_⟩, fun p hp => ?_, ?_, ?_⟩
    · show Heap.Ns _ env.locals _
      rw [hloc, lvm_none]
      exact (Heap.Ns.new h₁ (.type "frame")).keeps (pushCells_keeps _ _)
    · show _ ≤ env.locals
      rw [hloc]; exact kp.2
    · show _ ∧ p.1 ≠ env.locals ∧ _
      rw [hloc]
      rcases List.mem_append.mp hp with hp | hp
      · obtain ⟨a, ha, rfl⟩ := List.mem_map.mp hp
        have := hge a ha
        rw [hsz] at this
        exact ⟨hnew a ha, Nat.ne_of_gt this, none_ge a (Nat.le_of_succ_le this)⟩
      · have h2 := ow.1 p hp
        exact ⟨hkeep _ _ h2.1, Nat.ne_of_lt (Heap.lt_size h2.1), h2.2⟩
    · show (((ca.map fun a => (a, cellO none)) ++ nw).map (·.1)).Nodup
      rw [List.map_append, List.nodup_append]
      refine ⟨by rw [List.map_map]; simpa [Function.comp_def] using hnd, ow.2, fun a ha b hb' e => ?_⟩
      rw [List.map_map] at ha
      obtain ⟨a', ha', rfl⟩ := List.mem_map.mp ha
      obtain ⟨q, hq, rfl⟩ := List.mem_map.mp hb'
      have h1 := hge a' ha'
      have h2 := Heap.lt_size (ow.1 q hq).1
      have e' : a' = q.1 := e
      rw [hsz] at h1
      exact absurd (e' ▸ h2) (Nat.not_lt.mpr (Nat.le_of_succ_le h1))
    · show ((ls.map fun x => (x, none)).map (·.1)).Nodup
      rw [List.map_map]; simpa [Function.comp_def] using hls
  obtain ⟨lv', nw', hbr, hbody⟩ := H
  have hbw : wpAny (model p w) A.in1 (bindAll env binds) (fun _ s' => ∃ st', Own ⟨p, w, A.deeper env, env, hb, g, d, os⟩ st' s' ∧ Ev ⟨p, w, A.deeper env, env, hb, g, d, os⟩ (execs body env) st' (retK R)) FF
      ⟨pushCells (h₁.push { cls := .type "frame", data := .dict #[] }) scope.names, g, d, tk, os⟩ := by
    have O' : Own ⟨p, w, A.in1, env, hb, g, d, os⟩ ⟨ls.map fun x => (x, none), (ca.map fun a => (a, cellO none)) ++ nw⟩ ⟨pushCells (h₁.push { cls := .type "frame", data := .dict #[] }) scope.names, g, d, tk, os⟩ := ⟨O.eq, O.F, O.N, O.nd, O.ln⟩
    have e1 : Ev ⟨p, w, A.in1, env, hb, g, d, os⟩ (bindAll env binds) ⟨ls.map fun x => (x, none), (ca.map fun a => (a, cellO none)) ++ nw⟩ (fun _ st => st = ⟨lv', nw'⟩) := BindR.ev (C := ⟨p, w, A.in1, env, hb, g, d, os⟩) hbr (by show env.scope.kind = .function; subst hE; exact hk) rfl
    refine wpAny_mono (e1 _ O') (fun _ s' hs' => ?_) fun _ _ f => f
    obtain ⟨st', o', rfl⟩ := hs'
    exact ⟨_, ⟨o'.eq, o'.F, o'.N, o'.nd, o'.ln⟩, hbody⟩
  refine wpAny_bind (wpAny_mono hbw (fun _ s' hs' => ?_) fun _ _ f => f.elim)
  obtain ⟨st1, o1, h1⟩ := hs'
  refine wpAny_pure ⟨T.nolimit.keeps o1.F.keep, codeAny_func (wpAny_mono (h1 s' o1) (fun fl s2 h2 => ?_) fun _ _ f => f.elim)⟩
  obtain ⟨st2, o2, q⟩ := h2
  refine ⟨_, st2.nw, rfl, o2.eq, ⟨o2.F.keep, ?_⟩, ⟨fun p hp => ⟨(o2.N p hp).1, (o2.N p hp).2.2⟩, o2.nd⟩, q⟩
  exact Nat.le_trans o2.F.above (Nat.le_of_lt o2.F.ns.lt)
end
end Mine
end
section
open PySem PySem.W PyProof.Rows PySem.Calls
namespace Mine
section
variable {C : Cx} {st : St} {k : Nat}
def TyAt (C : Cx) (st : St) (v : Value) (T : String) : Prop := match v with
  | .ref a => ∃ o, At C st a o ∧ o.cls = .type T ∧ o.dict = none
  | v => typeOf v = pure (.type T)
theorem TyAt.is {v : Value} {T : String} (h : TyAt C st v T) {s : Shared} (o : Own C st s) : s.TypeIs v T := by
  cases v with
  | ref a => obtain ⟨x, h1, h2, _⟩ := h; exact ⟨x, o.at h1, h2⟩
  | _ => exact h
theorem TyAt.dict {v : Value} {T : String} (h : TyAt C st v T) {s : Shared} (o : Own C st s) : ∀ a, v = .ref a → ∃ ob, s.heap.get? a = some ob ∧ ob.dict = none := by
  rintro a rfl
  obtain ⟨x, h1, _, h3⟩ := h
  exact ⟨x, o.at h1, h3⟩
theorem Ev_evalAll_nil {Q : List Value → St → Prop} (h : Q [] st) : Ev C (evalAll []) st Q := Ev_pure h
theorem Ev_evalAll_cons {x : Sem Value} {r : List (Sem Value)} {Q : List Value → St → Prop} (h : Ev C x st (fun v st1 => Ev C (evalAll r) st1 (fun vs st2 => Q (v :: vs) st2))) : Ev C (evalAll (x :: r)) st Q := by
  rw [evalAll]
  exact Ev_bindM h fun v s1 h1 => Ev_bindM (Ev_holding h1) fun vs s2 h2 => Ev_pure h2
theorem Ev_evalArgs {f : Value} {args : List (Bool × Sem Value)} {Q : Args → St → Prop} (hn : args.any (·.1) = false) (h : Ev C (spliced args) st (fun vs st1 => Q ⟨vs, []⟩ st1)) : Ev C (evalArgs f true args []) st Q := by
  unfold evalArgs
  have e : Ev C (spliced args) st (fun vs st1 => Q ⟨vs, []⟩ st1) := h
  match args, hn with
  | [], _ => exact Ev_bindM h fun vs s1 h1 => Ev_bind (Ev_pure (Ev_holding (Ev_bind (Ev_pure (Ev_bind (Ev_pure (Ev_pure h1)))))))
  | (false, x) :: r, _ => exact Ev_bindM h fun vs s1 h1 => Ev_bind (Ev_pure (Ev_holding (Ev_bind (Ev_pure (Ev_bind (Ev_pure (Ev_pure h1)))))))
  | (true, x) :: r, hn => exact absurd hn (by simp)
theorem Ev_evalArgsK {f : Value} {args : List (Bool × Sem Value)} {kws : List (Option Str × Sem Value)} {Q : Args → St → Prop} (hn : args.any (·.1) = false) (hk : kws.all (·.1.isSome) = true)
    (h : Ev C (spliced args) st (fun vs st1 => Ev C (evalAll (kws.map (·.2))) st1 (fun ks st2 => Q ⟨vs, (kws.filterMap (·.1)).zip ks⟩ st2))) : Ev C (evalArgs f true args kws) st Q := by
  unfold evalArgs
  match args, hn with
  | [], _ =>
    refine Ev_bindM h fun vs s1 h1 => Ev_bind (Ev_pure (Ev_holding ?_))
    simp only [hk, if_true]
    exact Ev_bindM h1 fun ks s2 h2 => Ev_bind (Ev_pure (Ev_pure h2))
  | (false, x) :: r, _ =>
    refine Ev_bindM h fun vs s1 h1 => Ev_bind (Ev_pure (Ev_holding ?_))
    simp only [hk, if_true]
    exact Ev_bindM h1 fun ks s2 h2 => Ev_bind (Ev_pure (Ev_pure h2))
  | (true, x) :: r, hn => exact absurd hn (by simp)
def Callee (C : Cx) (st : St) (f : Value) : Prop := Ev C (keeperOf f) st (fun _ st1 => st1 = st)
theorem callee_val {f : Value} (h : ∀ a, f ≠ .ref a) : Callee C st f := by
  unfold Callee keeperOf
  cases f with
  | ref a => exact absurd rfl (h a)
  | _ => exact Ev_pure rfl
theorem callee_builtin {id : String} : Callee C st (.builtin id) := callee_val (by intro a h; cases h)
theorem callee_type {id : String} : Callee C st (.type id) := callee_val (by intro a h; cases h)
theorem callee_func {a : Addr} {o : Obj} {fd : FuncData} (h : At C st a o) (hd : o.data = .func fd) : Callee C st (.ref a) := by
  unfold Callee keeperOf
  refine Ev_bind (Ev_load h ?_)
  rw [hd]; exact Ev_pure rfl
theorem callee_bm {a : Addr} {vs : Array Value} {o : Obj} (h : At C st a o) (hc : o.cls = .type "builtin_function_or_method") (hd : o.data = .fields vs) : Callee C st (.ref a) := by
  unfold Callee keeperOf
  refine Ev_bind (Ev_load h ?_)
  rw [hd, hc]
  exact Ev_pure rfl
theorem Ev_callWith {pos : Pos} {f : Value} {first : List Value} {args : List (Bool × Sem Value)} {kws : List (Option Str × Sem Value)} {Q : Value → St → Prop}
    (h : Ev C (evalArgs f true args kws) st (fun a st1 => Callee C st1 f ∧ Ev C (call f (first ++ a.pos) a.kw) st1 Q)) : Ev C (callWith pos f first args kws) st Q := by
  unfold callWith
  refine Ev_bind (Ev_holding (Ev_mono h fun a s1 h1 => Ev_bind (Ev_standAt ?_)))
  obtain ⟨hc, hq⟩ := h1
  have tail : ∀ {t : Sem Value}, Ev C t s1 Q → Ev C (t >>= fun r => holding [r] point >>= fun _ => pure r) s1 Q :=
    fun ht => Ev_bindM ht fun r s2 hr => Ev_bind (Ev_holding (Ev_point (Ev_pure hr)))
  refine Ev_bindM hc fun kp s2 he => ?_
  subst he
  have mk : ∀ {m : Nat}, True := fun {_} => trivial
  cases kp <;> cases (args.any (·.1) || kws.any (·.1.isNone)) <;> dsimp only
  all_goals first
    | exact tail hq
    | exact tail (by unfold callMarked; exact Ev_keep hq)
    | exact tail (Ev_operate hq)
    | (split <;> first | exact tail hq | exact tail (by unfold callMarked; exact Ev_keep hq))
theorem Ev_CallN {x : Str} {p pos : Pos} {args : List Expr} {kws : List Keyword} {Q : Value → St → Prop}
    (h : Ev C (loadName C.env x) st (fun f st1 => Ev C (callWith pos f [] (backTo pos (starEach args C.env)) (backToKw pos (keywordEach kws C.env))) st1 Q)) (hd : (x == ("__debug__" : Str)) = false := by decide +kernel) :
    Ev C (eval (.Call (.Name x p) args kws pos) C.env) st Q :=
  show Ev C (do callWith pos (← eval (.Name x p) C.env) [] (backTo pos (starEach args C.env)) (backToKw pos (keywordEach kws C.env))) st Q from Ev_bind (Ev_Name h hd)
theorem Ev_Call {x : Str} {p pos : Pos} {args : List Expr} {Q : Value → St → Prop}
    (h : Ev C (loadName C.env x) st (fun f st1 => Ev C (spliced (backTo pos (starEach args C.env))) st1 (fun vs st2 => Callee C st2 f ∧ Ev C (call f vs) st2 Q)))
    (hn : (backTo pos (starEach args C.env)).any (·.1) = false := by rfl) (hd : (x == ("__debug__" : Str)) = false := by decide +kernel) : Ev C (eval (.Call (.Name x p) args [] pos) C.env) st Q :=
  Ev_CallN (Ev_mono h fun f s1 h1 => Ev_callWith (Ev_evalArgs hn (Ev_mono h1 fun vs s2 h2 => h2))) hd
theorem Ev_Meth {o : Expr} {name : Str} {apos pos : Pos} {args : List Expr} {Q : Value → St → Prop} (T id : String)
    (h : Ev C (eval o C.env) st (fun ov st1 => TyAt C st1 ov T ∧ Ev C (spliced (backTo pos (starEach args C.env))) st1 (fun vs st2 => Ev C (call (.builtin id) (ov :: vs)) st2 Q)))
    (pa : PlainAttrs T) (slot : Slot T name id) (hty : typeOf (.builtin id) = pure (.type "method_descriptor"))
    (hbase : attributeBase o name C.env (eval o C.env) = eval o C.env := by rfl)
    (hform : methodCallForm (args.length + ([] : List Keyword).length) (backTo pos (starEach args C.env)) (backToKw pos (keywordEach [] C.env)) = true := by rfl)
    (hline : (apos.endLine == pos.line) = true := by rfl) (hn : (backTo pos (starEach args C.env)).any (·.1) = false := by rfl) :
    Ev C (eval (.Call (.Attribute o name apos) args [] pos) C.env) st Q := by
  rw [arm_eval_Call, hbase]
  refine Ev_bindM h fun ov s1 h1 => Ev_bind (Ev_standAt ?_)
  obtain ⟨hT, hc⟩ := h1
  have hpos : methodCallPos true o C.env apos pos = pure pos := by unfold methodCallPos; simp [hline]
  unfold methodCall
  rw [hform]
  refine Ev_bind (Ev_holding ?_)
  show Ev C (getMethod ov name _) s1 _
  refine fun s o => getMethod_builtin (hT.is o) pa slot hty (hT.dict o) ⟨s1, o, ?_⟩
  refine Ev_bind (Ev_of_eq hpos (Ev_callWith (Ev_evalArgs hn (Ev_mono hc fun vs s2 h2 => ⟨callee_builtin, h2⟩))))
theorem Ev_opt {e : Expr} {Q : Value → St → Prop} (h : Ev C (eval e C.env) st Q) : Ev C (valueOrNone (evalOpt (some e) C.env)) st Q := h
theorem Ev_opt_none {Q : Value → St → Prop} (h : Q .none st) : Ev C (valueOrNone (evalOpt none C.env)) st Q := Ev_pure h
theorem Ev_Subscript {v i : Expr} {pos : Pos} {Q : Value → St → Prop}
    (h : Ev C (eval v C.env) st (fun o st1 => Ev C (eval i C.env) st1 (fun iv st2 => ∃ T id, TyAt C st2 o T ∧ typeLookup (.type T) "__getitem__" = pure (some (.builtin id)) ∧ Ev C (getItem o iv) st2 Q))) :
    Ev C (eval (.Subscript v i pos) C.env) st Q := by
  rw [arm_eval_Subscript]
  refine Ev_bindM h fun o s1 h1 => Ev_bindM (Ev_holding h1) fun iv s2 h2 => Ev_bind (Ev_standAt ?_)
  obtain ⟨T, id, hT, hl, hq⟩ := h2
  have hg : Ev C (getitemInPython o) s2 (fun b s3 => b = false ∧ s3 = s2) := fun s ow => by
    rw [getitemInPython_of_ne (hT.is ow).not_modules]
    refine wpAny_bind (wpAny_specialOf (hT.is ow) hl ?_)
    exact wpAny_pure ⟨s2, ow, rfl, rfl⟩
  refine Ev_bindM hg fun b s3 hb => ?_
  obtain ⟨rfl, rfl⟩ := hb
  have fin : ∀ {ops : List Value}, Ev C (operate ops (getItem o iv)) s3 (fun r s4 => Ev C (letTemporaryGo v o r >>= fun _ => pure r) s4 Q) := fun {ops} =>
    Ev_operate (Ev_mono hq fun r s4 h4 => Ev_bind fun s ow => wpAny_letTemporaryGo ⟨s4, ow, Ev_pure h4⟩)
  unfold subscripted
  split
  · exact Ev_bind fin
  · contradiction
  · exact Ev_bind fin
abbrev sliceO (l u s : Value) : Obj := { cls := .type "slice", data := .fields #[l, u, s] }
theorem Ev_Slice {l u s : Option Expr} {pos : Pos} {Q : Value → St → Prop}
    (h : Ev C (valueOrNone (evalOpt l C.env)) st (fun lv st1 => Ev C (valueOrNone (evalOpt u C.env)) st1 (fun uv st2 => Ev C (valueOrNone (evalOpt s C.env)) st2 (fun sv st3 => ∀ a, Q (.ref a) ⟨st3.lv, (a, sliceO lv uv sv) :: st3.nw⟩)))) :
    Ev C (eval (.Slice l u s pos) C.env) st Q := by
  rw [arm_eval_Slice]
  refine Ev_bindM h fun lv s1 h1 => Ev_bindM (Ev_holding h1) fun uv s2 h2 => Ev_bindM (Ev_holding h2) fun sv s3 h3 => ?_
  exact fun s o => wpAny_newObj_type ⟨_, o.alloc _ rfl, h3 _⟩ (by show _ ≤ sizeLine + 2; rw [sizeLine_eq]; simp)
abbrev listO (xs : List Value) (n : Nat) : Obj := { cls := .type "list", data := .seq xs.toArray n }
def CompL (C : Cx) (e : Expr) (depth : Nat) (it acc : Value) (st : St) (Q : St → Prop) : Prop :=
  ∀ s, Own C st s → codeAny (model C.p C.w) C.A (.compLoop e depth it acc C.env) (fun r s' => ∃ st', r = .ok .next ∧ Own C st' s' ∧ Q st') s
theorem CompL.mono {e : Expr} {d : Nat} {it acc : Value} {Q Q' : St → Prop} (h : CompL C e d it acc st Q) (hq : ∀ st, Q st → Q' st) : CompL C e d it acc st Q' := fun s o =>
  codeAny_mono (h s o) fun r s' ⟨st', a, b, c⟩ => ⟨st', a, b, hq _ c⟩
theorem CompL.turn1 {elt tg iter : Expr} {scope : Scope} {pos : Pos} {it acc : Value} {Q : St → Prop}
    (h : Ev C (pyNext it) st (drawK Q (fun v st1 => Ev C (assign tg C.env v) st1 (fun _ st2 => Ev C (eval elt C.env) st2 (fun x st3 => Ev C (call (.builtin "list.append") [acc, x]) st3 (fun _ st4 => CompL C (.ListComp elt [⟨tg, iter, [], 0⟩] scope pos) 0 it acc st4 Q))))))
    (ht : ∀ v, letOwnedTupleGo tg it v = pure () := by intro _; rfl) : CompL C (.ListComp elt [⟨tg, iter, [], 0⟩] scope pos) 0 it acc st Q := fun s ow => by
  refine codeAny_of_tree ?_
  show wpAny _ C.A ((compTurn (.ListComp elt [⟨tg, iter, [], 0⟩] scope pos) 0 it acc C.env).onRaise (fun x => do noteFrame x C.env; theTreesLotGoes x)) _ _ s
  refine wpAny_noted ?_
  rw [compTurn_list1]
  refine wpAny_bind (wpAny_standAt (wpAny_bind (wpAny_mono (h s ow) (fun r s1 h1 => ?_) fun _ _ f => f.elim)))
  obtain ⟨st1, o1, h1⟩ := h1
  cases r with
  | none => exact wpAny_pure ⟨st1, rfl, o1, h1⟩
  | some v =>
    refine wpAny_bind (wpAny_of_eq (ht v) (wpAny_bind (wpAny_mono (h1 s1 o1) (fun _ s2 h2 => ?_) fun _ _ f => f.elim)))
    obtain ⟨st2, o2, h2⟩ := h2
    refine wpAny_bind (wpAny_bind (wpAny_mono (h2 s2 o2) (fun x s3 h3 => ?_) fun _ _ f => f.elim))
    obtain ⟨st3, o3, h3⟩ := h3
    refine wpAny_bind (wpAny_mono (h3 s3 o3) (fun _ s4 h4 => ?_) fun _ _ f => f.elim)
    obtain ⟨st4, o4, h4⟩ := h4
    exact wpAny_pure (wpAny_pure ⟨rfl, h4 s4 o4⟩)
theorem CompL.turn1t {elt tg iter c : Expr} {scope : Scope} {pos : Pos} {it acc : Value} {Q : St → Prop}
    (h : Ev C (pyNext it) st (drawK Q (fun v st1 => Ev C (assign tg C.env v) st1 (fun _ st2 => Ev C (isTrue c C.env (eval c C.env)) st2 (fun b st3 => onB b
        (Ev C (eval elt C.env) st3 (fun x st4 => Ev C (call (.builtin "list.append") [acc, x]) st4 (fun _ st5 => CompL C (.ListComp elt [⟨tg, iter, [c], 0⟩] scope pos) 0 it acc st5 Q)))
        (CompL C (.ListComp elt [⟨tg, iter, [c], 0⟩] scope pos) 0 it acc st3 Q))))))
    (ht : ∀ v, letOwnedTupleGo tg it v = pure () := by intro _; rfl) : CompL C (.ListComp elt [⟨tg, iter, [c], 0⟩] scope pos) 0 it acc st Q := fun s ow => by
  refine codeAny_of_tree ?_
  show wpAny _ C.A ((compTurn (.ListComp elt [⟨tg, iter, [c], 0⟩] scope pos) 0 it acc C.env).onRaise (fun x => do noteFrame x C.env; theTreesLotGoes x)) _ _ s
  refine wpAny_noted ?_
  rw [compTurn_list]
  refine wpAny_bind (wpAny_standAt (wpAny_bind (wpAny_mono (h s ow) (fun r s1 h1 => ?_) fun _ _ f => f.elim)))
  obtain ⟨st1, o1, h1⟩ := h1
  cases r with
  | none => exact wpAny_pure ⟨st1, rfl, o1, h1⟩
  | some v =>
    refine wpAny_bind (wpAny_of_eq (ht v) (wpAny_bind (wpAny_mono (h1 s1 o1) (fun _ s2 h2 => ?_) fun _ _ f => f.elim)))
    obtain ⟨st2, o2, h2⟩ := h2
    refine wpAny_bind (wpAny_tests_one (wpAny_mono (h2 s2 o2) (fun b s3 h3 => ?_) fun _ _ f => f.elim))
    obtain ⟨st3, o3, h3⟩ := h3
    cases b with
    | false => exact wpAny_pure ⟨rfl, h3 s3 o3⟩
    | true =>
      refine wpAny_bind (wpAny_bind (wpAny_mono (h3 s3 o3) (fun x s4 h4 => ?_) fun _ _ f => f.elim))
      obtain ⟨st4, o4, h4⟩ := h4
      refine wpAny_bind (wpAny_mono (h4 s4 o4) (fun _ s5 h5 => ?_) fun _ _ f => f.elim)
      obtain ⟨st5, o5, h5⟩ := h5
      exact wpAny_pure (wpAny_pure ⟨rfl, h5 s5 o5⟩)
theorem compTurn_two0 (elt t0 i0 t1 i1 : Expr) (scope : Scope) (pos : Pos) (it acc : Value) (env : Env) :
    compTurn (.ListComp elt [⟨t0, i0, [], 0⟩, ⟨t1, i1, [], 0⟩] scope pos) 0 it acc env = (do
      standAt i0.pos
      match ← pyNext it with
      | none => pure (.done .next)
      | some v =>
        letOwnedTupleGo t0 it v
        assign t0 env v
        let x ← eval i1 env
        standAt i1.pos
        let x ← foldedSetIterable i1 env x
        let _ ← runOwn (.compStart (.ListComp elt [⟨t0, i0, [], 0⟩, ⟨t1, i1, [], 0⟩] scope pos) 1 (← holding [x] (pyIter x)) acc env) env
        again (.compLoop (.ListComp elt [⟨t0, i0, [], 0⟩, ⟨t1, i1, [], 0⟩] scope pos) 0 it acc env)) := by rfl
theorem compTurn_two1 (elt t0 i0 t1 i1 : Expr) (scope : Scope) (pos : Pos) (it acc : Value) (env : Env) :
    compTurn (.ListComp elt [⟨t0, i0, [], 0⟩, ⟨t1, i1, [], 0⟩] scope pos) 1 it acc env = (do
      standAt i1.pos
      match ← pyNext it with
      | none => pure (.done .next)
      | some v =>
        letOwnedTupleGo t1 it v
        assign t1 env v
        (do let _ ← call (.builtin "list.append") [acc, ← eval elt env])
        again (.compLoop (.ListComp elt [⟨t0, i0, [], 0⟩, ⟨t1, i1, [], 0⟩] scope pos) 1 it acc env)) := by rfl
def CompS (C : Cx) (e : Expr) (depth : Nat) (it acc : Value) (st : St) (Q : St → Prop) : Prop :=
  ∀ s, Own C st s → codeAny (model C.p C.w) C.A (.compStart e depth it acc C.env) (fun r s' => ∃ st', r = .ok .next ∧ Own C st' s' ∧ Q st') s
theorem CompS.of {elt : Expr} {gs : List Comprehension} {scope : Scope} {pos : Pos} {depth : Nat} {it acc : Value} {Q : St → Prop} (hd : (gs[depth]?).elim false (·.is_async != 0) = false) (hs : gs[depth]?.isSome = true)
    (self : Ev C (pyIter it) st (fun v st1 => v = it ∧ st1 = st)) (h : CompL C (.ListComp elt gs scope pos) depth it acc st Q) : CompS C (.ListComp elt gs scope pos) depth it acc st Q := fun s ow => by
  refine codeAny_of_tree ?_
  show wpAny _ C.A ((compStart (.ListComp elt gs scope pos) depth it acc C.env).onRaise (fun x => do noteFrame x C.env; standAt theWindowsPlace)) _ _ s
  refine wpAny_notedAt ?_
  unfold compStart
  show wpAny _ C.A (if (gs[depth]?).elim false (·.is_async != 0) = true then _ else _) _ _ s
  rw [hd]
  show wpAny _ C.A (ask >>= _) _ _ s
  refine wpAny_bind (wpAny_askSetting (wpAny_ite ?_))
  split
  · first
      | exact wpAny_bind (wpAny_pure (wpAny_pure (And.intro rfl (h s ow))))
      | exact wpAny_pure (And.intro rfl (h s ow))
  · obtain ⟨g, hg⟩ := Option.isSome_iff_exists.mp hs
    have hcl : (clausesOf (.ListComp elt gs scope pos))[depth]? = some g := hg
    rw [hcl]
    refine wpAny_bind (wpAny_rule ?_)
    refine wpAny_bind (wpAny_standAt (wpAny_bind (wpAny_mono (self s ow) (fun v s1 h1 => ?_) fun _ _ f => f.elim)))
    obtain ⟨st1, o1, rfl, rfl⟩ := h1
    exact wpAny_pure ⟨rfl, h s1 o1⟩
theorem CompL.turn20 {elt t0 i0 t1 i1 : Expr} {scope : Scope} {pos : Pos} {it acc : Value} {Q : St → Prop}
    (h : Ev C (pyNext it) st (drawK Q (fun v st1 => Ev C (assign t0 C.env v) st1 (fun _ st2 => Ev C (eval i1 C.env) st2 (fun x st3 => Ev C (pyIter x) st3 (fun it1 st4 =>
        CompS C (.ListComp elt [⟨t0, i0, [], 0⟩, ⟨t1, i1, [], 0⟩] scope pos) 1 it1 acc st4 (fun st5 => CompL C (.ListComp elt [⟨t0, i0, [], 0⟩, ⟨t1, i1, [], 0⟩] scope pos) 0 it acc st5 Q)))))))
    (ht : ∀ v, letOwnedTupleGo t0 it v = pure () := by intro _; rfl) (hs : ∀ x, foldedSetIterable i1 C.env x = pure x := by intro _; rfl) : CompL C (.ListComp elt [⟨t0, i0, [], 0⟩, ⟨t1, i1, [], 0⟩] scope pos) 0 it acc st Q := fun s ow => by
  refine codeAny_of_tree ?_
  show wpAny _ C.A ((compTurn (.ListComp elt [⟨t0, i0, [], 0⟩, ⟨t1, i1, [], 0⟩] scope pos) 0 it acc C.env).onRaise (fun x => do noteFrame x C.env; theTreesLotGoes x)) _ _ s
  refine wpAny_noted ?_
  rw [compTurn_two0]
  refine wpAny_bind (wpAny_standAt (wpAny_bind (wpAny_mono (h s ow) (fun r s1 h1 => ?_) fun _ _ f => f.elim)))
  obtain ⟨st1, o1, h1⟩ := h1
  cases r with
  | none => exact wpAny_pure ⟨st1, rfl, o1, h1⟩
  | some v =>
    refine wpAny_bind (wpAny_of_eq (ht v) (wpAny_bind (wpAny_mono (h1 s1 o1) (fun _ s2 h2 => ?_) fun _ _ f => f.elim)))
    obtain ⟨st2, o2, h2⟩ := h2
    refine wpAny_bind (wpAny_mono (h2 s2 o2) (fun x s3 h3 => ?_) fun _ _ f => f.elim)
    obtain ⟨st3, o3, h3⟩ := h3
    refine wpAny_bind (wpAny_standAt (wpAny_bind (wpAny_of_eq (hs x) (wpAny_bind (wpAny_holding (wpAny_mono (h3 s3 o3) (fun it1 s4 h4 => ?_) fun _ _ f => f.elim))))))
    obtain ⟨st4, o4, h4⟩ := h4
    refine wpAny_bind (wpAny_runOwn (codeAny_mono (h4 s4 o4) fun r s5 h5 => ?_))
    obtain ⟨st5, rfl, o5, h5⟩ := h5
    exact wpAny_pure ⟨rfl, h5 s5 o5⟩
theorem CompL.turn21 {elt t0 i0 t1 i1 : Expr} {scope : Scope} {pos : Pos} {it acc : Value} {Q : St → Prop}
    (h : Ev C (pyNext it) st (drawK Q (fun v st1 => Ev C (assign t1 C.env v) st1 (fun _ st2 => Ev C (eval elt C.env) st2 (fun x st3 => Ev C (call (.builtin "list.append") [acc, x]) st3 (fun _ st4 => CompL C (.ListComp elt [⟨t0, i0, [], 0⟩, ⟨t1, i1, [], 0⟩] scope pos) 1 it acc st4 Q))))))
    (ht : ∀ v, letOwnedTupleGo t1 it v = pure () := by intro _; rfl) : CompL C (.ListComp elt [⟨t0, i0, [], 0⟩, ⟨t1, i1, [], 0⟩] scope pos) 1 it acc st Q := fun s ow => by
  refine codeAny_of_tree ?_
  show wpAny _ C.A ((compTurn (.ListComp elt [⟨t0, i0, [], 0⟩, ⟨t1, i1, [], 0⟩] scope pos) 1 it acc C.env).onRaise (fun x => do noteFrame x C.env; theTreesLotGoes x)) _ _ s
  refine wpAny_noted ?_
  rw [compTurn_two1]
  refine wpAny_bind (wpAny_standAt (wpAny_bind (wpAny_mono (h s ow) (fun r s1 h1 => ?_) fun _ _ f => f.elim)))
  obtain ⟨st1, o1, h1⟩ := h1
  cases r with
  | none => exact wpAny_pure ⟨st1, rfl, o1, h1⟩
  | some v =>
    refine wpAny_bind (wpAny_of_eq (ht v) (wpAny_bind (wpAny_mono (h1 s1 o1) (fun _ s2 h2 => ?_) fun _ _ f => f.elim)))
    obtain ⟨st2, o2, h2⟩ := h2
    refine wpAny_bind (wpAny_bind (wpAny_mono (h2 s2 o2) (fun x s3 h3 => ?_) fun _ _ f => f.elim))
    obtain ⟨st3, o3, h3⟩ := h3
    refine wpAny_bind (wpAny_mono (h3 s3 o3) (fun _ s4 h4 => ?_) fun _ _ f => f.elim)
    obtain ⟨st4, o4, h4⟩ := h4
    exact wpAny_pure (wpAny_pure ⟨rfl, h4 s4 o4⟩)
end
end Mine
end
section
open PySem PySem.W PyProof.Rows PySem.Calls
namespace Mine
section
variable {C : Cx} {st : St} {k : Nat}
theorem Own.other {s : Shared} {h' : Heap} {b : Addr} (o : Own C st s) (hs : Heap.SameBut b s.heap h') (h1 : b ≠ C.env.locals) (h2 : C.hb.get? b = none) (h3 : ∀ p ∈ st.nw, p.1 ≠ b) : Own C st { s with heap := h' } :=
  ⟨by rw [o.eq], ⟨o.F.ns.sameBut hs (Ne.symm h1), fun a x e => (hs.2 a fun q => by rw [q, h2] at e; cases e).trans (o.F.keep a x e), o.F.above⟩,
   fun p hp => ⟨(hs.2 _ (h3 p hp)).trans (o.N p hp).1, (o.N p hp).2⟩, o.nd, o.ln⟩
structure CompCx (C C' : Cx) (scope : Scope) (cl : List (Str × Addr)) (nw2 : Nw) : Prop where
  p : C'.p = C.p
  w : C'.w = C.w
  A : C'.A = C.A
  hb : Keeps C.hb C'.hb
  sc : C'.env.scope = relabel scope C.env
  cells : C'.env.cells = cl
  glob : C'.env.globals = C.env.globals
  blt : C'.env.builtins = C.env.builtins
  qual : C'.env.qual = C.env.qual
  froz : ∀ p ∈ nw2, C'.hb.get? p.1 = some p.2
theorem CompCx.ok {C C' : Cx} {scope : Scope} {cl : List (Str × Addr)} {nw2 : Nw} (x : CompCx C C' scope cl nw2) (h : Ok k C) (hk : scope.kind = .function) : Ok k C' :=
  ⟨by rw [x.w]; exact h.B.keeps x.hb, by rw [x.A]; exact h.R, by rw [x.sc]; exact hk, x.glob.trans h.hg, x.blt.trans h.hbn⟩
theorem comp_core {elt : Expr} {gs : List Comprehension} {scope : Scope} {pos : Pos} {cl : List (Str × Addr)} {it : Value} {nw1 nw2 : Nw} {Q : Value → St → Prop} {s : Shared} (ls : List Str)
    (hkind : scope.kind = .function) (hcell : ∀ x ∈ scope.names, x.2 ≠ .cell) (hls : ls.Nodup) {lv : Lv} (o : Own C ⟨lv, nw1 ++ nw2⟩ s)
    (h : ∀ C' acc, CompCx C C' scope cl nw2 → CompS C' (.ListComp elt gs scope pos) 0 it (.ref acc) ⟨ls.map fun x => (x, none), (acc, listO [] 0) :: nw1⟩ (fun st' => Q (.ref acc) ⟨lv, st'.nw ++ nw2⟩))
    {R : Value → Addr → Result → Shared → Prop}
    (hR : ∀ (acc : Addr) (L' : Addr) (st' : St) (s' : Shared), Own C ⟨lv, st'.nw ++ nw2⟩ s' → L' ≠ C.env.locals → C.hb.get? L' = none → (∀ p ∈ st'.nw ++ nw2, p.1 ≠ L') → (∃ m, s'.heap.Ns L' m) → Q (.ref acc) ⟨lv, st'.nw ++ nw2⟩ → R (.ref acc) L' (.ok .next) s') :
    wpAny (model C.p C.w) C.A (newList []) (fun acc s₃ => wpAny (model C.p C.w) C.A (newFunctionEnv scope C.env.globals cl [] C.env.qual none .none (some C.env)) (fun cenv s₄ =>
      codeAny (model C.p C.w) C.A (.compStart (.ListComp elt gs scope pos) 0 it acc { cenv with scope := relabel scope C.env }) (R acc cenv.locals) s₄) FF s₃) FF s := by
  obtain ⟨k1, k2, ow, back⟩ := o.ground
  refine wpAny_newObj_type ?_ (by show (0 : Nat) ≤ _; exact Nat.zero_le _)
  have hLs : C.env.locals < s.heap.objs.size := o.F.ns.lt
  have hsz0 : C.hb.objs.size ≤ s.heap.objs.size := Nat.le_trans o.F.above (Nat.le_of_lt hLs)
  refine wpAny_newFunctionEnv hcell (by intro y hy; simp at hy) (fun h₁ hns₁ hsb₁ => ?_) hkind
  dsimp only at hns₁ hsb₁ ⊢
  generalize hH2 : s.heap.push { cls := .type "list", dict := none, data := .seq ([] : List Value).toArray } = H2 at hns₁ hsb₁ ⊢
  have hC : H2.objs.size = s.heap.objs.size + 1 := by rw [← hH2, Heap.size_push]
  have keep1 : ∀ b x, s.heap.get? b = some x → h₁.get? b = some x := fun b x e => by
    have hlt := Heap.lt_size e
    refine hsb₁.extBut b x (by rw [hC]; exact Nat.ne_of_lt (Nat.lt_succ_of_lt hlt)) (Heap.get?_push_of_some _ ?_)
    rw [← hH2]; exact Heap.get?_push_of_some _ e
  have hacc : h₁.get? s.heap.objs.size = some (listO [] 0) := by
    refine hsb₁.extBut _ _ (by rw [hC]; exact Nat.ne_of_lt (Nat.lt_succ_self _)) (Heap.get?_push_of_some _ ?_)
    rw [← hH2]; exact Heap.get?_push_size _ rfl
  have none_ge : ∀ a, s.heap.objs.size ≤ a → (hideAll s.heap (nw1.map (·.1))).get? a = none := fun a ha => by
    cases q : (hideAll s.heap (nw1.map (·.1))).get? a with
    | none => rfl
    | some x => exact absurd (Nat.lt_of_lt_of_le (Heap.lt_size (of_hideAll _ q)) ha) (Nat.lt_irrefl _)
  have none_ge' : ∀ a, s.heap.objs.size ≤ a → C.hb.get? a = none := fun a ha => by
    cases q : C.hb.get? a with
    | none => rfl
    | some x => exact absurd (Nat.lt_of_lt_of_le (Heap.lt_size q) (Nat.le_trans hsz0 ha)) (Nat.lt_irrefl _)
  have nd := o.nd
  rw [show (⟨lv, nw1 ++ nw2⟩ : St).nw = nw1 ++ nw2 from rfl, List.map_append, List.nodup_append] at nd
  have hlt1 : ∀ p ∈ nw1 ++ nw2, p.1 < s.heap.objs.size := fun p hp => Heap.lt_size (o.N p hp).1
  have O : Own ⟨C.p, C.w, C.A, compEnvC scope cl H2.objs.size C.env, hideAll s.heap (nw1.map (·.1)), C.g, C.d, C.os⟩ ⟨ls.map fun x => (x, none), (s.heap.objs.size, listO [] 0) :: nw1⟩
      { s with heap := h₁, toks := s.toks + ([] : List (Str × Value)).length } := by
    refine ⟨by rw [o.eq], ⟨?_, fun b x e => keep1 b x (of_hideAll _ e), ?_⟩, fun p hp => ?_, ?_, ?_⟩
    · show h₁.Ns H2.objs.size _
      rw [lvm_none]; exact hns₁
    · show (hideAll _ _).objs.size ≤ H2.objs.size
      rw [hideAll_size, hC]; exact Nat.le_succ _
    · show _ ∧ p.1 ≠ H2.objs.size ∧ _
      rw [hC]
      rcases List.mem_cons.mp hp with rfl | hp
      · exact ⟨hacc, Nat.ne_of_lt (Nat.lt_succ_self _), none_ge _ (Nat.le_refl _)⟩
      · exact ⟨keep1 _ _ (o.N p (List.mem_append_left _ hp)).1, Nat.ne_of_lt (Nat.lt_succ_of_lt (hlt1 p (List.mem_append_left _ hp))), (ow.1 p hp).2⟩
    · show ((_ :: nw1).map (·.1)).Nodup
      rw [List.map_cons, List.nodup_cons]
      refine ⟨fun hm => ?_, nd.1⟩
      obtain ⟨p, hp, e⟩ := List.mem_map.mp hm
      have := hlt1 p (List.mem_append_left _ hp)
      rw [e] at this
      exact Nat.lt_irrefl _ this
    · show ((ls.map fun x => (x, none)).map (·.1)).Nodup
      rw [List.map_map]; simpa [Function.comp_def] using hls
  have hfroz : ∀ p ∈ nw2, (hideAll s.heap (nw1.map (·.1))).get? p.1 = some p.2 := fun p hp => hideAll_get _ (o.N p (List.mem_append_right _ hp)).1 fun hm => nd.2.2 _ hm _ (List.mem_map_of_mem hp) rfl
  have H := h ⟨C.p, C.w, C.A, compEnvC scope cl H2.objs.size C.env, hideAll s.heap (nw1.map (·.1)), C.g, C.d, C.os⟩ s.heap.objs.size ⟨rfl, rfl, rfl, k1, rfl, rfl, rfl, rfl, rfl, hfroz⟩ _ O
  refine codeAny_mono H fun r s' hr => ?_
  obtain ⟨st', rfl, o', q⟩ := hr
  have kp' : Keeps (hideAll s.heap (nw1.map (·.1))) s'.heap := ⟨o'.F.keep, Nat.le_trans o'.F.above (Nat.le_of_lt o'.F.ns.lt)⟩
  have ow' : Owns (hideAll s.heap (nw1.map (·.1))) s'.heap st'.nw := ⟨fun p hp => ⟨(o'.N p hp).1, (o'.N p hp).2.2⟩, o'.nd⟩
  refine hR _ H2.objs.size st' s' (back s' st'.nw o'.eq kp' ow') (by rw [hC]; exact Nat.ne_of_gt (Nat.lt_succ_of_lt hLs)) (none_ge' _ (by rw [hC]; exact Nat.le_succ _)) (fun p hp => ?_) ⟨_, o'.F.ns⟩ q
  rcases List.mem_append.mp hp with hp | hp
  · exact (o'.N p hp).2.1
  · rw [hC]; exact Nat.ne_of_lt (Nat.lt_succ_of_lt (hlt1 p (List.mem_append_right _ hp)))
theorem Ev_ListComp {elt : Expr} {g : Comprehension} {gs : List Comprehension} {scope : Scope} {pos : Pos} {Q : Value → St → Prop} (ls : List Str) (cl : List (Str × Addr))
    (h : Ev C (eval g.iter C.env) st (fun x st1 => Ev C (pyIter x) st1 (fun it st2 => ∃ nw1 nw2, st2.nw.Perm (nw1 ++ nw2) ∧
      ∀ C' acc, CompCx C C' scope cl nw2 → CompS C' (.ListComp elt (g :: gs) scope pos) 0 it (.ref acc) ⟨ls.map fun x => (x, none), (acc, listO [] 0) :: nw1⟩ (fun st' => Q (.ref acc) ⟨st2.lv, st'.nw ++ nw2⟩))))
    (hclos : closureFor scope C.env = pure cl) (hls : ls.Nodup := by decide +kernel) (hkind : scope.kind = .function := by rfl) (hcell : ∀ x ∈ scope.names, x.2 ≠ .cell := by decide +kernel)
    (hnames : ∀ y ∈ scope.names, y.2 = .local → scope.names.lookup y.1 = some .local := by decide +kernel) (hs : ∀ x, foldedSetIterable g.iter C.env x = pure x := by intro _; rfl) (ha : (g.is_async != 0) = false := by rfl) :
    Ev C (eval (.ListComp elt (g :: gs) scope pos) C.env) st Q := fun s o => by
  rw [eval_ListComp]
  have hfa : firstAsync (g :: gs) = false := by obtain ⟨a, b, c, d⟩ := g; exact ha
  rw [hfa]
  refine wpAny_comprehension_free (use := none) rfl hs hclos hkind hnames ?_
  have hfi : firstIter (g :: gs) C.env = eval g.iter C.env := by obtain ⟨a, b, c, d⟩ := g; rfl
  rw [hfi]
  refine wpAny_mono (h s o) (fun x s1 h1 => ?_) fun _ _ f => f.elim
  obtain ⟨st1, o1, h1⟩ := h1
  refine wpAny_mono (h1 s1 o1) (fun it s2 h2 => ?_) fun _ _ f => f.elim
  obtain ⟨st2, o2, nw1, nw2, hp, h2⟩ := h2
  refine comp_core (R := fun acc L r s' => compPost (model C.p C.w) C.A FF none (fun v s' => ∃ st', Own C st' s' ∧ Q v st') acc L r s') ls hkind hcell hls (o2.perm hp) h2 ?_
  intro acc L' st' s' o' a1 a2 a3 a4 q
  obtain ⟨m, hm⟩ := a4
  exact ⟨m, hm, fun h' hs' => ⟨_, o'.other hs' a1 a2 a3, q⟩⟩
theorem Ev_AssignComp {elt : Expr} {g : Comprehension} {gs : List Comprehension} {scope : Scope} {pos py spos : Pos} {y : Str} {Q : Flow → St → Prop} (ls : List Str) (cl : List (Str × Addr))
    (h : Ev C (eval g.iter C.env) st (fun x st1 => Ev C (pyIter x) st1 (fun it st2 => ∃ nw1 nw2, st2.nw.Perm (nw1 ++ nw2) ∧
      ∀ C' acc, CompCx C C' scope cl nw2 → CompS C' (.ListComp elt (g :: gs) scope pos) 0 it (.ref acc) ⟨ls.map fun x => (x, none), (acc, listO [] 0) :: nw1⟩ (fun st' => ∃ lv', Put y (.ref acc) st2.lv lv' ∧ Q .next ⟨lv', st'.nw ++ nw2⟩))))
    (hsw : swapsWith (.ListComp elt (g :: gs) scope pos) (some (.Name y py)) spos.line C.env = pure true) (hy : C.env.kindOf y = some .local) (hk : C.env.scope.kind = .function)
    (hclos : closureFor scope C.env = pure cl) (hls : ls.Nodup := by decide +kernel) (hkind : scope.kind = .function := by rfl) (hcell : ∀ x ∈ scope.names, x.2 ≠ .cell := by decide +kernel)
    (hnames : ∀ y ∈ scope.names, y.2 = .local → scope.names.lookup y.1 = some .local := by decide +kernel) (hs : ∀ x, foldedSetIterable g.iter C.env x = pure x := by intro _; rfl) (ha : (g.is_async != 0) = false := by rfl) :
    Ev C (exec (.Assign [.Name y py] (.ListComp elt (g :: gs) scope pos) spos) C.env) st Q := fun s o => by
  rw [exec_Assign_Name_used _ _ _ _ hsw]
  refine wpAny_bind (wpAny_standAt (wpAny_bind ?_))
  have hfa : firstAsync (g :: gs) = false := by obtain ⟨a, b, c, d⟩ := g; exact ha
  have hfi : firstIter (g :: gs) C.env = eval g.iter C.env := by obtain ⟨a, b, c, d⟩ := g; rfl
  show wpAny _ C.A (do let _ ← comprehension (.ListComp elt (g :: gs) scope pos) scope C.env (firstIterPos (g :: gs) pos) (newList []) (firstAsync (g :: gs)) (firstIter (g :: gs) C.env) (some (assign (.Name y py) C.env))) _ _ s
  rw [hfa, hfi]
  refine wpAny_bind (wpAny_mono (Q := fun _ s' => ∃ st', Own C st' s' ∧ Q .next st') (wpAny_comprehension_free (use := some (assign (.Name y py) C.env)) rfl hs hclos hkind hnames ?_) (fun _ s' h' => wpAny_pure (wpAny_pure h')) fun _ _ f => f)
  refine wpAny_mono (h s o) (fun x s1 h1 => ?_) fun _ _ f => f.elim
  obtain ⟨st1, o1, h1⟩ := h1
  refine wpAny_mono (h1 s1 o1) (fun it s2 h2 => ?_) fun _ _ f => f.elim
  obtain ⟨st2, o2, nw1, nw2, hp, h2⟩ := h2
  refine comp_core (Q := fun acc st' => ∃ lv', Put y acc st2.lv lv' ∧ Q .next ⟨lv', st'.nw⟩)
    (R := fun acc L r s' => compPost (model C.p C.w) C.A FF (some (assign (.Name y py) C.env)) (fun v s' => ∃ st', Own C st' s' ∧ Q .next st') acc L r s') ls hkind hcell hls (o2.perm hp) h2 ?_
  intro acc L' st' s' o' a1 a2 a3 a4 q
  obtain ⟨m, hm⟩ := a4
  obtain ⟨lv', hput, hq⟩ := q
  refine wpAny_assign_Name (wpAny_storeName_local hy o'.F.ns (fun h' hn hs' => ?_) (by rw [hk]; rfl))
  exact ⟨m, hm.sameBut hs' a1, fun h'' hs'' => ⟨_, (o'.put hput hn hs' _).other hs'' a1 a2 a3, hq⟩⟩
end
end Mine
end
section
open PySem PySem.W PyProof.Rows PySem.Calls
namespace Mine
section
variable {C : Cx} {st : St} {k : Nat}
section
variable {a b : Int} {t u : Tok} {Q : Value → St → Prop}
theorem Ev_add (h : ∀ t, Q (.int (a + b) t) st) : Ev C (binaryOp .Add (.int a t) (.int b u)) st Q := by
  intro s o; with_reducible refine add_int ?_; exact ⟨st, o.tok _, h _⟩
theorem Ev_iadd (h : ∀ t, Q (.int (a + b) t) st) : Ev C (inplaceOp .Add (.int a t) (.int b u)) st Q := by
  intro s o; with_reducible refine iadd_int ?_; exact ⟨st, o.tok _, h _⟩
theorem Ev_sub (h : ∀ t, Q (.int (a - b) t) st) : Ev C (binaryOp .Sub (.int a t) (.int b u)) st Q := by
  intro s o; with_reducible refine sub_int ?_; exact ⟨st, o.tok _, h _⟩
theorem Ev_mul (h : ∀ t, Q (.int (a * b) t) st) (hm : IntMulOk a b) : Ev C (binaryOp .Mult (.int a t) (.int b u)) st Q := by
  intro s o; with_reducible refine P.mul_int ?_ hm; exact ⟨st, o.tok _, h _⟩
theorem Ev_mod (hb : b ≠ 0) (h : ∀ t, Q (.int (a.fmod b) t) st) : Ev C (binaryOp .Mod (.int a t) (.int b u)) st Q := by
  intro s o; with_reducible refine mod_int hb ?_; exact ⟨st, o.tok _, h _⟩
theorem Ev_rshift (hn : 0 ≤ b) (h : ∀ t, Q (.int (a.fdiv (2 ^ b.toNat)) t) st) : Ev C (binaryOp .RShift (.int a t) (.int b u)) st Q := by
  intro s o; with_reducible refine rshift_int hn ?_; exact ⟨st, o.tok _, h _⟩
theorem Ev_lshift (hn : 0 ≤ b) (hn2 : b ≤ 1000000) (ha : a.natAbs < 2 ^ 64) (h : ∀ t, Q (.int (a * 2 ^ b.toNat) t) st) : Ev C (binaryOp .LShift (.int a t) (.int b u)) st Q := by
  intro s o; with_reducible refine lshift_int_small hn hn2 ha ?_; exact ⟨st, o.tok _, h _⟩
theorem Ev_bitand (h : ∀ t, Q (.int (Builtin.bitAnd a b) t) st) : Ev C (binaryOp .BitAnd (.int a t) (.int b u)) st Q := by
  intro s o; with_reducible refine and_int ?_; exact ⟨st, o.tok _, h _⟩
theorem Ev_bitor (h : ∀ t, Q (.int (Builtin.bitOr a b) t) st) : Ev C (binaryOp .BitOr (.int a t) (.int b u)) st Q := by
  intro s o; with_reducible refine or_int ?_; exact ⟨st, o.tok _, h _⟩
theorem Ev_neg (h : ∀ t, Q (.int (-a) t) st) : Ev C (unaryOp .USub (.int a t)) st Q := by
  intro s o; with_reducible refine P.neg_int ?_; exact ⟨st, o.tok _, h _⟩
theorem Ev_lt (h : Q (.bool (decide (a < b))) st) : Ev C (compareOp .Lt (.int a t) (.int b u)) st Q := by
  intro s o; with_reducible refine lt_int ?_; exact ⟨st, o, h⟩
theorem Ev_gt (h : Q (.bool (decide (b < a))) st) : Ev C (compareOp .Gt (.int a t) (.int b u)) st Q := by
  intro s o; with_reducible refine gt_int ?_; exact ⟨st, o, h⟩
theorem Ev_le (h : Q (.bool (decide (a ≤ b))) st) : Ev C (compareOp .LtE (.int a t) (.int b u)) st Q := by
  intro s o; with_reducible refine P.le_int ?_; exact ⟨st, o, h⟩
theorem Ev_ge (h : Q (.bool (decide (a ≥ b))) st) : Ev C (compareOp .GtE (.int a t) (.int b u)) st Q := by
  intro s o; with_reducible refine P.ge_int ?_; exact ⟨st, o, h⟩
theorem Ev_eqI (h : Q (.bool (a == b)) st) : Ev C (compareOp .Eq (.int a t) (.int b u)) st Q := by
  intro s o; with_reducible refine eq_int ?_; exact ⟨st, o, h⟩
theorem Ev_neI (h : Q (.bool (a != b)) st) : Ev C (compareOp .NotEq (.int a t) (.int b u)) st Q := by
  intro s o; with_reducible refine ne_int ?_; exact ⟨st, o, h⟩
end
theorem isListO {h : Heap} {a : Addr} {xs : List Value} {n : Nat} (e : h.get? a = some (listO xs n)) : h.IsList a xs.toArray := ⟨_, e, rfl, n, rfl⟩
theorem Own.list {s : Shared} {a : Addr} {xs : List Value} {n : Nat} (o : Own C st s) (h : At C st a (listO xs n)) : s.heap.IsList a xs.toArray := isListO (o.at h)
theorem ty_list {a : Addr} {xs : List Value} {n : Nat} (h : At C st a (listO xs n)) : TyAt C st (.ref a) "list" := ⟨_, h, rfl, rfl⟩
theorem Ev_getList {l : Addr} {xs : List Value} {n : Nat} {i : Int} {t : Tok} {x : Value} {Q : Value → St → Prop} (hl : At C st l (listO xs n)) (h0 : 0 ≤ i) (hi : i < 2 ^ 63) (hx : xs[i.toNat]? = some x) (h : Q x st) :
    Ev C (getItem (.ref l) (.int i t)) st Q := fun s o => wpAny_getItem_list (o.list hl) h0 hi (by simpa using hx) ⟨st, o, h⟩
theorem Ev_setList {l : Addr} {xs : List Value} {n : Nat} {i : Int} {t : Tok} {v : Value} {lv : Lv} {nw nw' : Nw} {Q : Unit → St → Prop} (u : Upd1 l (listO xs n) (listO (xs.set i.toNat v) n) nw nw') (h0 : 0 ≤ i) (hi : i < 2 ^ 63) (hn : i < xs.length)
    (h : Q () ⟨lv, nw'⟩) : Ev C (setItem (.ref l) (.int i t) v) ⟨lv, nw⟩ Q := fun s o => by
  have ho := (o.N _ u.mem).1
  have hl := isListO ho
  unfold setItem
  try with_reducible refine wpAny_holding ?_
  first | refine wpAny_bind (wpAny_pure ?_) | skip
  refine wpAny_bind (wpAny_sequenceKey hl.typeIs (by decide) ?_)
  refine wpAny_bind (wpAny_callSpecial?_slot (name := Str.ofString "__setitem__") hl.typeIs slot_list_setitem
    (wpAny_call_entry slot_list_setitem hl.typeIs entry_list_setitem ?_ (args_list_setitem _ _ _)))
  show wpAny _ _ (Builtin.List.listSubscript? (.int i t) >>= _) _ _ s
  refine wpAny_bind (wpAny_listSubscript_int (fitsIndex_of h0 hi) ?_)
  clear hi
  obtain ⟨j, rfl⟩ := Int.eq_ofNat_of_zero_le h0
  have hj : j < xs.length := by omega
  have hx' : xs.toArray[j]? = some xs[j] := by simp [hj]
  show wpAny _ _ ((seqItemAt l j >>= fun r => pure (r.map (j, ·))) >>= _) _ _ s
  refine wpAny_bind (wpAny_bind (wpAny_seqItemAt ho rfl (wpAny_pure ?_)))
  rw [hx']
  show wpAny _ _ (setSeqItemAt l j v >>= _) _ _ s
  have e : Obj.mapSeq (·.setIfInBounds j v) (listO xs n) = listO (xs.set j v) n := by simp [Obj.mapSeq, listO]
  have hg := Heap.get?_update_self (Obj.mapSeq (·.setIfInBounds j v)) ho (by rw [e]; rfl)
  rw [e] at hg
  have fin := o.upd u (Heap.SameBut.update ..) hg
  refine wpAny_bind (wpAny_setSeqItemAt ho rfl ?_)
  first
    | exact wpAny_bind (wpAny_pure (wpAny_pure ⟨.none, rfl, wpAny_pure ⟨_, fin, h⟩⟩))
    | exact wpAny_pure ⟨.none, rfl, wpAny_pure ⟨_, fin, h⟩⟩
theorem Ev_append {l : Addr} {xs : List Value} {n : Nat} {x : Value} {lv : Lv} {nw nw' : Nw} {Q : Value → St → Prop} (u : Upd1 l (listO xs n) (listO (xs ++ [x]) (n + 1)) nw nw') (hz : xs.length ≤ sizeLine) (h : Q .none ⟨lv, nw'⟩) :
    Ev C (call (.builtin "list.append") [.ref l, x]) ⟨lv, nw⟩ Q := fun s o => by
  have ho := (o.N _ u.mem).1
  have hl := isListO ho
  refine wpAny_call_entry slot_list_append hl.typeIs entry_list_append ?_ (args_list_append _ _)
  show wpAny _ _ (updateSeq l (·.push x) >>= fun _ => ret .none) _ _ s
  have e : Obj.mapSeq (·.push x) (listO xs n) = listO (xs ++ [x]) (n + 1) := by simp [Obj.mapSeq, listO]
  have hg := Heap.get?_update_self (Obj.mapSeq (·.push x)) ho (by rw [e]; rfl)
  rw [e] at hg
  refine wpAny_bind (wpAny_updateSeq ho rfl ?_ (by simpa using hz) (by simp; omega))
  exact wpAny_pure ⟨.none, rfl, _, o.upd u (Heap.SameBut.update ..) hg, h⟩
theorem Ev_subList {l : Addr} {xs : List Value} {n : Nat} {i : Int} {t : Tok} {x : Value} {Q : Value → St → Prop} (hl : At C st l (listO xs n)) (h0 : 0 ≤ i) (hi : i < 2 ^ 63) (hx : xs[i.toNat]? = some x) (h : Q x st) :
    ∃ T id, TyAt C st (.ref l) T ∧ typeLookup (.type T) "__getitem__" = pure (some (.builtin id)) ∧ Ev C (getItem (.ref l) (.int i t)) st Q := ⟨"list", _, ty_list hl, slot_list_getitem.lookup, Ev_getList hl h0 hi hx h⟩
theorem Ev_lenList {l : Addr} {xs : List Value} {n : Nat} {Q : Value → St → Prop} (hl : At C st l (listO xs n)) (hz : (xs.length : Int) < 2 ^ 63) (h : ∀ t, Q (.int xs.length t) st) : Ev C (call (.builtin "len") [.ref l]) st Q := fun s o =>
  call_len_list (o.list hl) (by simpa using hz) ⟨st, o.tok _, by simpa using h _⟩
theorem Ev_truthyList {l : Addr} {xs : List Value} {n : Nat} {Q : Bool → St → Prop} (hl : At C st l (listO xs n)) (hz : (xs.length : Int) < 2 ^ 63) (h : Q (!xs.isEmpty) st) : Ev C (truthy (.ref l)) st Q := fun s o =>
  wpAny_truthy_list (o.list hl) (by simpa using hz) ⟨st, o.tok _, by simpa using h⟩
end
end Mine
end
section
open PySem PySem.W PyProof.Rows PySem.Calls
namespace Mine
section
variable {C : Cx} {st : St} {k : Nat}
theorem Ev_AssignSub {o i e : Expr} {p pos : Pos} {Q : Flow → St → Prop}
    (h : Ev C (eval e C.env) st (fun v st1 => Ev C (eval o C.env) st1 (fun ov st2 => Ev C (eval i C.env) st2 (fun iv st3 => Ev C (setItem ov iv v) st3 (fun _ st4 => Q .next st4)))))
    (hs : swapsWith e (some (.Subscript o i p)) pos.line C.env = pure false) (hw : swappedStores [.Subscript o i p] e C.env = pure none) :
    Ev C (exec (.Assign [.Subscript o i p] e pos) C.env) st Q := by
  rw [arm_exec_Assign]
  refine Ev_bind (Ev_standAt (Ev_bind ?_))
  show Ev C (swapsWith e (some (.Subscript o i p)) pos.line C.env) st _
  refine Ev_of_eq hs ?_
  show Ev C (do let v ← eval e C.env; assignStores C.env v (← swappedStores [.Subscript o i p] e C.env) [assign (.Subscript o i p) C.env]) st Q
  refine Ev_bindM h fun v s1 h1 => Ev_bind (Ev_of_eq hw ?_)
  show Ev C (do assignAll v [assign (.Subscript o i p) C.env]; pure Flow.next) s1 Q
  refine Ev_bind ?_
  show Ev C (assign (.Subscript o i p) C.env v) s1 _
  rw [arm_assign_Subscript]
  refine Ev_bindM (Ev_holding h1) fun ov s2 h2 => Ev_bindM (Ev_holding h2) fun iv s3 h3 => Ev_bind (Ev_standAt (Ev_bindM (Ev_holding h3) fun _ s4 h4 => Ev_release (Ev_pure h4)))
theorem Ev_ExprS {e : Expr} {pos : Pos} {Q : Flow → St → Prop} (h : Ev C (eval e C.env) st (fun v st1 => v = .none ∧ Q .next st1)) (hk : C.env.scope.kind = .function) (hs : swapsWith e none pos.line C.env = pure false) :
    Ev C (exec (.Expr e pos) C.env) st Q := Ev_Expr h (by unfold interactive; rw [hk]; rfl) hs
theorem callee_K {f : Addr} (hC : Ok k C) (e : fnIn (KF C.w.params) f = true) : Callee C st (.ref f) := by
  unfold fnIn at e
  split at e
  · rename_i a b fd c hl
    exact callee_func (Or.inr (hC.B.K _ _ hl)) rfl
  · cases e
theorem Ev_mulN {a b : Nat} {t u : Tok} {Q : Value → St → Prop} (h : ∀ t, Q (.int ((a * b : Nat) : Int) t) st) (hm : IntMulOk (a : Int) (b : Int)) : Ev C (binaryOp .Mult (.int a t) (.int b u)) st Q := by
  refine Ev_mul (fun t => ?_) hm
  have := h t
  rwa [Int.natCast_mul] at this
theorem Ev_rshiftN {a b : Nat} {t u : Tok} {Q : Value → St → Prop} (h : ∀ t, Q (.int ((a / 2 ^ b : Nat) : Int) t) st) : Ev C (binaryOp .RShift (.int a t) (.int b u)) st Q := by
  refine Ev_rshift (Int.natCast_nonneg _) fun t => ?_
  rw [Int.toNat_natCast]
  have e : ((a : Int).fdiv (2 ^ b)) = ((a / 2 ^ b : Nat) : Int) := by
    rw [Int.fdiv_eq_ediv_of_nonneg _ (by exact_mod_cast Nat.zero_le (2 ^ b))]; simp
  rw [e]; exact h t
end
end Mine
end
section
open PySem PySem.W PyProof.Rows PySem.Calls
namespace Mine
inductive Del1 (a : Addr) : Nw → Nw → Prop
  | head {o r} : Del1 a ((a, o) :: r) r
  | tail {p r r'} : Del1 a r r' → Del1 a (p :: r) (p :: r')
theorem Del1.sub {a : Addr} {l l' : Nw} (d : Del1 a l l') : l'.Sublist l := by
  induction d with
  | head => exact List.sublist_cons_self _ _
  | tail _ ih => exact ih.cons_cons _
theorem Del1.has {a : Addr} {l l' : Nw} (d : Del1 a l l') : ∃ o, (a, o) ∈ l := by
  induction d with
  | head => exact ⟨_, List.mem_cons_self⟩
  | tail _ ih => obtain ⟨o, h⟩ := ih; exact ⟨o, List.mem_cons_of_mem _ h⟩
theorem Del1.apart {a : Addr} {l l' : Nw} (d : Del1 a l l') (nd : (l.map (·.1)).Nodup) : ∀ p ∈ l', p.1 ≠ a := by
  induction d with
  | head =>
    intro p hp e
    rw [List.map_cons, List.nodup_cons] at nd
    have := List.mem_map_of_mem (f := (·.1)) hp
    exact nd.1 (e ▸ this)
  | @tail q r r' d ih =>
    intro p hp e
    rw [List.map_cons, List.nodup_cons] at nd
    rcases List.mem_cons.mp hp with rfl | hp
    · obtain ⟨o, ho⟩ := d.has
      have := List.mem_map_of_mem (f := (·.1)) ho
      exact nd.1 (e ▸ this)
    · exact ih nd.2 p hp e
section
variable {C : Cx} {st : St} {k : Nat}
theorem Own.ext {lv : Lv} {nw nw' : Nw} {s : Shared} {h' : Heap} {a : Addr} (o : Own C ⟨lv, nw⟩ s) (d : Del1 a nw nw') (hs : Heap.ExtBut a s.heap h') : Own C ⟨lv, nw'⟩ { s with heap := h' } := by
  obtain ⟨oa, ha⟩ := d.has
  have hN := o.N _ ha
  exact ⟨by rw [o.eq], ⟨o.F.ns.extBut hs (Ne.symm hN.2.1), fun b x e => hs b x (fun q => by rw [q, hN.2.2] at e; cases e) (o.F.keep b x e), o.F.above⟩,
    fun p hp => ⟨hs _ _ (d.apart o.nd p hp) (o.N p (d.sub.subset hp)).1, (o.N p (d.sub.subset hp)).2⟩, o.nd.sublist (d.sub.map _), o.ln⟩
theorem Own.turn {lv : Lv} {g : Obj → Nw} {s : Shared} {h' : Heap} {a : Addr} {ob ob' : Obj} (o : Own C ⟨lv, g ob⟩ s) (hg : ∀ o', Upd1 a ob o' (g ob) (g o')) (hs : Heap.SameBut a s.heap h') (e : h'.get? a = some ob') (t : Nat) :
    Own C ⟨lv, g ob'⟩ { s with heap := h', toks := t } := (o.upd (hg ob') hs e).tok t
structure ItL (o : Obj) (l : Addr) (i : Nat) : Prop where
  c : o.cls = .type "list_iterator"
  d : o.data = .fields #[.ref l, .int i 0]
structure ItB (o : Obj) (b : Array UInt8) (t : Tok) (i : Nat) : Prop where
  c : o.cls = .type "bytes_iterator"
  d : o.data = .fields #[.bytes b t, .int i 0]
structure ItS (o : Obj) (x : Str) (t : Tok) (i : Nat) : Prop where
  c : o.cls = .type "str_ascii_iterator"
  d : o.data = .fields #[.str x t, .int i 0]
abbrev itR (x left step : Int) : Obj := { cls := .type "range_iterator", dict := none, data := .fields #[rawInt x, rawInt left, rawInt step], slots := #[] }
abbrev rangeO (a b c : Int) (t u v : Tok) : Obj := { cls := .type "range", dict := none, data := .fields #[.int a t, .int b u, .int c v], slots := #[] }
section
variable {lv : Lv} {nw nw' : Nw} {g : Obj → Nw} {it l : Addr} {o : Obj} {i : Nat}
theorem Ev_iterL {xs : List Value} {n : Nat} {Q : Value → St → Prop} (hl : At C ⟨lv, nw⟩ l (listO xs n)) (h : ∀ it o, ItL o l 0 → Q (.ref it) ⟨lv, (it, o) :: nw⟩) : Ev C (pyIter (.ref l)) ⟨lv, nw⟩ Q := fun s ow =>
  wpAny_pyIter_list (ow.list hl) ⟨_, ow.alloc _ rfl, h _ _ ⟨rfl, rfl⟩⟩
theorem Ev_selfL {Q : Value → St → Prop} (hi : HasN it o st.nw) (ho : ItL o l i) (h : Q (.ref it) st) : Ev C (pyIter (.ref it)) st Q := fun s ow =>
  wpAny_pyIter_listiter ⟨o, (ow.N _ hi.mem).1, ho.c, ho.d⟩ ⟨_, ow, h⟩
theorem Ev_nextL {xs : List Value} {n : Nat} {v : Value} {Q : Option Value → St → Prop} (ho : ItL o l i) (hg : ∀ o', Upd1 it o o' (g o) (g o')) (hl : At C ⟨lv, g o⟩ l (listO xs n)) (hx : xs[i]? = some v) (h : ∀ o', ItL o' l (i + 1) → Q (some v) ⟨lv, g o'⟩) :
    Ev C (pyNext (.ref it)) ⟨lv, g o⟩ Q := fun s ow => by
  refine wpAny_pyNext_list_item ⟨o, (ow.N _ (hg o).mem).1, ho.c, ho.d⟩ (ow.list hl) (x := v) (by simpa using hx) fun h' hit hs => ?_
  obtain ⟨o', e, c, d⟩ := hit
  exact ⟨_, ow.turn hg hs e _, h o' ⟨c, d⟩⟩
theorem Ev_endL {xs : List Value} {n : Nat} {Q : Option Value → St → Prop} (hR : Room k C.A) (ho : ItL o l i) (hi : HasN it o nw) (hd : Del1 it nw nw') (hl : At C ⟨lv, nw⟩ l (listO xs n)) (hx : xs[i]? = none) (h : Q none ⟨lv, nw'⟩) :
    Ev C (pyNext (.ref it)) ⟨lv, nw⟩ Q := fun s ow => by
  exact wpAny_pyNext_list_end hR.hd ⟨o, (ow.N _ hi.mem).1, ho.c, ho.d⟩ (ow.list hl) (by simpa using hx) fun h' he => ⟨_, ow.ext hd he, h⟩
theorem Ev_iterB {b : Array UInt8} {t : Tok} {Q : Value → St → Prop} (h : ∀ it o, ItB o b t 0 → Q (.ref it) ⟨lv, (it, o) :: nw⟩) : Ev C (pyIter (.bytes b t)) ⟨lv, nw⟩ Q := fun s ow =>
  KBw.pyIter_bytes ⟨_, ow.alloc _ rfl, h _ _ ⟨rfl, rfl⟩⟩
theorem Ev_selfB {b : Array UInt8} {t : Tok} {Q : Value → St → Prop} (hi : HasN it o st.nw) (ho : ItB o b t i) (h : Q (.ref it) st) : Ev C (pyIter (.ref it)) st Q := fun s ow =>
  KBw.pyIter_self ⟨o, (ow.N _ hi.mem).1, ho.c, ho.d⟩ ⟨_, ow, h⟩
theorem Ev_nextB {b : Array UInt8} {t : Tok} {c : UInt8} {Q : Option Value → St → Prop} (ho : ItB o b t i) (hg : ∀ o', Upd1 it o o' (g o) (g o')) (hx : b[i]? = some c) (h : ∀ o' u, ItB o' b t (i + 1) → Q (some (.int (c.toNat : Int) u)) ⟨lv, g o'⟩) :
    Ev C (pyNext (.ref it)) ⟨lv, g o⟩ Q := fun s ow => by
  refine KBw.next_item ⟨o, (ow.N _ (hg o).mem).1, ho.c, ho.d⟩ hx fun h' hit hs => ?_
  obtain ⟨o', e, c, d⟩ := hit
  exact ⟨_, ow.turn hg hs e _, h o' _ ⟨c, d⟩⟩
theorem Ev_endB {b : Array UInt8} {t : Tok} {Q : Option Value → St → Prop} (hR : Room k C.A) (ho : ItB o b t i) (hi : HasN it o nw) (hd : Del1 it nw nw') (hx : b[i]? = none) (h : Q none ⟨lv, nw'⟩) : Ev C (pyNext (.ref it)) ⟨lv, nw⟩ Q := fun s ow =>
  KBw.next_end hR.hd ⟨o, (ow.N _ hi.mem).1, ho.c, ho.d⟩ hx fun h' he => ⟨_, ow.ext hd he, h⟩
theorem Ev_iterS {x : Str} {t : Tok} {Q : Value → St → Prop} (ha : x.cps.all (· < 128) = true) (h : ∀ it o, ItS o x t 0 → Q (.ref it) ⟨lv, (it, o) :: nw⟩) : Ev C (pyIter (.str x t)) ⟨lv, nw⟩ Q := fun s ow =>
  wpAny_pyIter_ascii ha ⟨_, ow.alloc _ rfl, h _ _ ⟨rfl, rfl⟩⟩
theorem Ev_selfS {x : Str} {t : Tok} {Q : Value → St → Prop} (hi : HasN it o st.nw) (ho : ItS o x t i) (h : Q (.ref it) st) : Ev C (pyIter (.ref it)) st Q := fun s ow =>
  wpAny_pyIter_striter_ascii ⟨o, (ow.N _ hi.mem).1, ho.c, ho.d⟩ ⟨_, ow, h⟩
theorem Ev_nextS {x : Str} {t : Tok} {c : Nat} {Q : Option Value → St → Prop} (ho : ItS o x t i) (hg : ∀ o', Upd1 it o o' (g o) (g o')) (hx : x.cps[i]? = some c) (h : ∀ o' u, ItS o' x t (i + 1) → Q (some (.str ⟨#[c]⟩ u)) ⟨lv, g o'⟩) :
    Ev C (pyNext (.ref it)) ⟨lv, g o⟩ Q := fun s ow => by
  refine wpAny_pyNext_ascii_item ⟨o, (ow.N _ (hg o).mem).1, ho.c, ho.d⟩ hx fun h' hit hs => ?_
  obtain ⟨o', e, c, d⟩ := hit
  exact ⟨_, ow.turn hg hs e _, h o' _ ⟨c, d⟩⟩
theorem Ev_endS {x : Str} {t : Tok} {Q : Option Value → St → Prop} (hR : Room k C.A) (ho : ItS o x t i) (hi : HasN it o nw) (hd : Del1 it nw nw') (hx : x.cps[i]? = none) (h : Q none ⟨lv, nw'⟩) : Ev C (pyNext (.ref it)) ⟨lv, nw⟩ Q := fun s ow =>
  wpAny_pyNext_ascii_end hR.hd ⟨o, (ow.N _ hi.mem).1, ho.c, ho.d⟩ hx fun h' he => ⟨_, ow.ext hd he, h⟩
theorem Ev_range1 {n : Int} {t : Tok} {Q : Value → St → Prop} (h : ∀ a t u v, Q (.ref a) ⟨lv, (a, rangeO 0 n 1 t u v) :: nw⟩) : Ev C (call (.type "range") [.int n t]) ⟨lv, nw⟩ Q := fun s ow =>
  call_range_1 ⟨_, (ow.alloc _ rfl).tok _, h _ _ _ _⟩
theorem Ev_range2 {a b : Int} {t u : Tok} {Q : Value → St → Prop} (h : ∀ r t u v, Q (.ref r) ⟨lv, (r, rangeO a b 1 t u v) :: nw⟩) : Ev C (call (.type "range") [.int a t, .int b u]) ⟨lv, nw⟩ Q := fun s ow =>
  call_range_2 ⟨_, (ow.alloc _ rfl).tok _, h _ _ _ _⟩
theorem Ev_iterR {r : Addr} {a b c : Int} {t u v : Tok} {Q : Value → St → Prop} (hr : At C ⟨lv, nw⟩ r (rangeO a b c t u v)) (hs : Builtin.Range.small a b c = true) (h : ∀ it, Q (.ref it) ⟨lv, (it, itR a (Builtin.Range.rangeSize a b c) c) :: nw⟩) :
    Ev C (pyIter (.ref r)) ⟨lv, nw⟩ Q := fun s ow => wpAny_pyIter_range (ow.at hr) hs ⟨_, ow.alloc _ rfl, h _⟩
theorem Ev_selfR {x left step : Int} {Q : Value → St → Prop} (hi : HasN it (itR x left step) st.nw) (h : Q (.ref it) st) : Ev C (pyIter (.ref it)) st Q := fun s ow => wpAny_pyIter_rangeiter (ow.N _ hi.mem).1 ⟨_, ow, h⟩
theorem Ev_nextR {x left step : Int} {Q : Option Value → St → Prop} (u : Upd1 it (itR x left step) (itR (x + step) (left - 1) step) nw nw') (hl : 0 < left) (h : ∀ t, Q (some (.int x t)) ⟨lv, nw'⟩) : Ev C (pyNext (.ref it)) ⟨lv, nw⟩ Q := fun s ow =>
  wpAny_pyNext_range_item (ow.N _ u.mem).1 hl fun h' hit hs => ⟨_, (ow.upd u hs hit).tok _, h _⟩
theorem Ev_endR {x left step : Int} {Q : Option Value → St → Prop} (hR : Room k C.A) (hi : HasN it (itR x left step) nw) (hd : Del1 it nw nw') (hl : left ≤ 0) (h : Q none ⟨lv, nw'⟩) : Ev C (pyNext (.ref it)) ⟨lv, nw⟩ Q := fun s ow =>
  wpAny_pyNext_range_end hR.hd (ow.N _ hi.mem).1 hl fun h' he => ⟨_, ow.ext hd he, h⟩
end
section
variable {prog : Program} {w : World} {A : Around} {E : Value → Shared → Prop} {s : Shared}
theorem sub_ri_reversed : isSubtype (.type "range_iterator") (.type "reversed") = pure false := by rw [isSubtype_type]; kernel_rfl
theorem call_range_rev {r : Addr} {a b c : Int} {t u v : Tok} {Q : Value → Shared → Prop} (hr : IsRange s.heap r a b c t u v)
    (hs : (Builtin.Range.rangeFitsLong a && Builtin.Range.rangeFitsLong b && Builtin.Range.rangeFitsLong c && Builtin.Range.rangeFitsLong (-c) && Builtin.Range.rangeFitsLong (a - c) && Builtin.Range.rangeFitsLong (Builtin.Range.rangeSize a b c)) = true)
    (h : Q (.ref s.heap.objs.size) { s with heap := s.heap.push (itR (a + (Builtin.Range.rangeSize a b c - 1) * c) (Builtin.Range.rangeSize a b c) (-c)) }) :
    wpAny (model prog w) A (call (.builtin "range.__reversed__") [.ref r]) Q E s := by
  refine wpAny_call_entry F.slot_range_reversed ⟨_, hr, rfl⟩ F.entry_range_reversed ?_ (F.args_range_reversed_1 _)
  unfold Builtin.«range.__reversed__»
  refine wpAny_bind (wpAny_of_eq (a := Value.ref r) rfl ?_)
  refine wpAny_bind ?_
  unfold Builtin.Range.rangeFields
  refine wpAny_bind (wpAny_field hr rfl (x := .int a t) rfl (wpAny_bind (wpAny_of_eq (a := some a) rfl ?_)))
  refine wpAny_bind (wpAny_field hr rfl (x := .int b u) rfl (wpAny_bind (wpAny_of_eq (a := some b) rfl ?_)))
  refine wpAny_bind (wpAny_field hr rfl (x := .int c v) rfl (wpAny_bind (wpAny_of_eq (a := some c) rfl ?_)))
  refine wpAny_pure ?_
  dsimp only
  simp only [hs, Bool.not_true, Bool.false_eq_true, if_false, if_true]
  exact wpAny_bind (wpAny_newObj_type (wpAny_pure ⟨_, rfl, h⟩))
theorem code_reversed_range {r : Addr} {a b c : Int} {t u v : Tok} {Q₁ : Value → Shared → Prop} (hr : IsRange s.heap r a b c t u v)
    (hs : (Builtin.Range.rangeFitsLong a && Builtin.Range.rangeFitsLong b && Builtin.Range.rangeFitsLong c && Builtin.Range.rangeFitsLong (-c) && Builtin.Range.rangeFitsLong (a - c) && Builtin.Range.rangeFitsLong (Builtin.Range.rangeSize a b c)) = true)
    (h : Q₁ (.ref s.heap.objs.size) { s with heap := s.heap.push (itR (a + (Builtin.Range.rangeSize a b c - 1) * c) (Builtin.Range.rangeSize a b c) (-c)) }) :
    codeAny (model prog w) A (.call (.builtin "reversed.__new__") ⟨[.type "reversed", .ref r], []⟩) (wants Q₁ E) s := by
  refine codeAny_of_tree ?_
  show wpAny _ A.in1 (do checkBuiltinCall "reversed.__new__" ⟨[.type "reversed", .ref r], []⟩; again (.builtin "reversed.__new__" ⟨[.type "reversed", .ref r], []⟩)) _ _ s
  refine wpAny_bind (wpAny_of_eq (F.newCall_reversed_1 _) (wpAny_pure ⟨plainId_quiet F.plain_reversed_new _, codeAny_builtin F.entry_reversed_new ?_⟩))
  rw [Around.under_plainId F.plain_reversed_new _]
  unfold Builtin.«reversed.__new__»
  refine wpAny_bind (wpAny_of_eq (newClass_reversed _) ?_)
  refine wpAny_bind (wpAny_of_eq (a := ()) (by first | rfl | kernel_rfl) ?_)
  refine wpAny_bind (wpAny_of_eq (a := ()) (by first | rfl | kernel_rfl) ?_)
  refine wpAny_bind (wpAny_specialOf ⟨_, hr, rfl⟩ F.slot_range_reversed.lookup ?_)
  refine wpAny_bind (wpAny_of_eq (F.slot_range_reversed.bind _) ?_)
  show wpAny _ _ (if (Value.builtin "range.__reversed__" == Value.none) = true then _ else _) _ _ _
  rw [if_neg (show ¬ ((Value.builtin "range.__reversed__" == Value.none) = true) from Bool.false_ne_true)]
  refine wpAny_bind (wpAny_rule ?_)
  refine wpAny_bind (m := runValue (.call (.builtin "range.__reversed__") ⟨[.ref r], []⟩)) (show wpAny _ _ (call (.builtin "range.__reversed__") [.ref r]) _ _ _ from call_range_rev hr hs ?_)
  first
  | exact wpAny_pure h
  | exact wpAny_bind (wpAny_pure (wpAny_pure h))
end
theorem Ev_reversedR {lv : Lv} {nw : Nw} {r : Addr} {a b c : Int} {t u v : Tok} {Q : Value → St → Prop} (hr : At C ⟨lv, nw⟩ r (rangeO a b c t u v))
    (hs : (Builtin.Range.rangeFitsLong a && Builtin.Range.rangeFitsLong b && Builtin.Range.rangeFitsLong c && Builtin.Range.rangeFitsLong (-c) && Builtin.Range.rangeFitsLong (a - c) && Builtin.Range.rangeFitsLong (Builtin.Range.rangeSize a b c)) = true)
    (h : ∀ it, Q (.ref it) ⟨lv, (it, itR (a + (Builtin.Range.rangeSize a b c - 1) * c) (Builtin.Range.rangeSize a b c) (-c)) :: nw⟩) : Ev C (call (.type "reversed") [.ref r]) ⟨lv, nw⟩ Q := fun s ow => by
  refine callType_other (U := "range_iterator") (Q₁ := fun obj s₁ => obj = .ref s.heap.objs.size ∧ s₁ = { s with heap := s.heap.push (itR (a + (Builtin.Range.rangeSize a b c - 1) * c) (Builtin.Range.rangeSize a b c) (-c)) }) (by decide +kernel) F.create_reversed ⟨_, _, F.mro_reversed⟩ F.made_reversed sub_ri_reversed (F.typeCall_reversed_1 _) (code_reversed_range (ow.at hr) hs ⟨rfl, rfl⟩) ?_
  rintro obj s₁ ⟨rfl, rfl⟩
  exact ⟨⟨_, Heap.get?_push_size _ rfl, rfl⟩, _, ow.alloc _ rfl, h _⟩
theorem Ev_assignN {x : Str} {p : Pos} {v : Value} {Q : Unit → St → Prop} (h : Ev C (storeName C.env x v) st Q) : Ev C (assign (.Name x p) C.env v) st Q := by
  rw [PySem.assign_Name]; exact Ev_bind (Ev_standAt (Ev_bindName h))
theorem Ev_floordiv {a b : Int} {t u : Tok} {Q : Value → St → Prop} (hb : b ≠ 0) (hs : b.natAbs < 1073741824) (h : ∀ t, Q (.int (a.fdiv b) t) st) : Ev C (binaryOp .FloorDiv (.int a t) (.int b u)) st Q := by
  intro s o
  with_reducible refine floordiv_int hb ?_ ?_
  · exact ⟨st, o.tok _, h _⟩
  · exact Or.inl (PyProof.noPylong_small hs)
end
section
variable {C : Cx} {st : St}
theorem CompL.ind1 {elt tg iter : Expr} {scope : Scope} {pos : Pos} {it acc : Value} {Q : St → Prop} (I : Nat → St → Prop)
    (turn : ∀ n st, I n st → Ev C (pyNext it) st (drawK Q (fun v st1 => Ev C (assign tg C.env v) st1 (fun _ st2 => Ev C (eval elt C.env) st2 (fun x st3 => Ev C (call (.builtin "list.append") [acc, x]) st3 (fun _ st4 => ∃ m, m < n ∧ I m st4))))))
    (n : Nat) (h : I n st) (ht : ∀ v, letOwnedTupleGo tg it v = pure () := by intro _; rfl) : CompL C (.ListComp elt [⟨tg, iter, [], 0⟩] scope pos) 0 it acc st Q := by
  induction n using Nat.strongRecOn generalizing st with
  | ind n ih =>
    refine CompL.turn1 (Ev_mono (turn n st h) fun r st1 h1 => ?_) ht
    cases r with
    | none => exact h1
    | some v => exact Ev_mono h1 fun _ st2 h2 => Ev_mono h2 fun x st3 h3 => Ev_mono h3 fun _ st4 h4 => by obtain ⟨m, hm, hi⟩ := h4; exact ih m hm hi
theorem CompL.ind1t {elt tg iter c : Expr} {scope : Scope} {pos : Pos} {it acc : Value} {Q : St → Prop} (I : Nat → St → Prop)
    (turn : ∀ n st, I n st → Ev C (pyNext it) st (drawK Q (fun v st1 => Ev C (assign tg C.env v) st1 (fun _ st2 => Ev C (isTrue c C.env (eval c C.env)) st2 (fun b st3 => onB b
        (Ev C (eval elt C.env) st3 (fun x st4 => Ev C (call (.builtin "list.append") [acc, x]) st4 (fun _ st5 => ∃ m, m < n ∧ I m st5))) (∃ m, m < n ∧ I m st3))))))
    (n : Nat) (h : I n st) (ht : ∀ v, letOwnedTupleGo tg it v = pure () := by intro _; rfl) : CompL C (.ListComp elt [⟨tg, iter, [c], 0⟩] scope pos) 0 it acc st Q := by
  induction n using Nat.strongRecOn generalizing st with
  | ind n ih =>
    refine CompL.turn1t (Ev_mono (turn n st h) fun r st1 h1 => ?_) ht
    cases r with
    | none => exact h1
    | some v =>
      refine Ev_mono h1 fun _ st2 h2 => Ev_mono h2 fun b st3 h3 => ?_
      cases b with
      | true => exact Ev_mono h3 fun x st4 h4 => Ev_mono h4 fun _ st5 h5 => by obtain ⟨m, hm, hi⟩ := h5; exact ih m hm hi
      | false => obtain ⟨m, hm, hi⟩ := h3; exact ih m hm hi
theorem CompL.ind1o {elt tg iter : Expr} {scope : Scope} {pos : Pos} {it acc : Value} {Q : St → Prop} (I₀ : Nat → St → Prop)
    (turn : ∀ (I : Nat → St → Prop), (∀ n st, I₀ n st → I n st) → ∀ Q' : St → Prop, (∀ st, Q st → Q' st) → ∀ n st, I₀ n st → Ev C (pyNext it) st (drawK Q' (fun v st1 => Ev C (assign tg C.env v) st1 (fun _ st2 => Ev C (eval elt C.env) st2 (fun x st3 => Ev C (call (.builtin "list.append") [acc, x]) st3 (fun _ st4 => ∃ m, m < n ∧ I m st4))))))
    (n : Nat) (h : I₀ n st) (ht : ∀ v, letOwnedTupleGo tg it v = pure () := by intro _; rfl) : CompL C (.ListComp elt [⟨tg, iter, [], 0⟩] scope pos) 0 it acc st Q :=
  CompL.ind1 I₀ (turn I₀ (fun _ _ h => h) Q fun _ h => h) n h ht
theorem CompL.ind1to {elt tg iter c : Expr} {scope : Scope} {pos : Pos} {it acc : Value} {Q : St → Prop} (I₀ : Nat → St → Prop)
    (turn : ∀ (I : Nat → St → Prop), (∀ n st, I₀ n st → I n st) → ∀ Q' : St → Prop, (∀ st, Q st → Q' st) → ∀ n st, I₀ n st → Ev C (pyNext it) st (drawK Q' (fun v st1 => Ev C (assign tg C.env v) st1 (fun _ st2 => Ev C (isTrue c C.env (eval c C.env)) st2 (fun b st3 => onB b
        (Ev C (eval elt C.env) st3 (fun x st4 => Ev C (call (.builtin "list.append") [acc, x]) st4 (fun _ st5 => ∃ m, m < n ∧ I m st5))) (∃ m, m < n ∧ I m st3))))))
    (n : Nat) (h : I₀ n st) (ht : ∀ v, letOwnedTupleGo tg it v = pure () := by intro _; rfl) : CompL C (.ListComp elt [⟨tg, iter, [c], 0⟩] scope pos) 0 it acc st Q :=
  CompL.ind1t I₀ (turn I₀ (fun _ _ h => h) Q fun _ h => h) n h ht
end
end Mine
end
section
open PySem PySem.W PyProof.Rows PySem.Calls
namespace Mine
theorem Upd1.toUpd {a : Addr} {o o' : Obj} {l l' : Nw} (u : Upd1 a o o' l l') (nd : (l.map (·.1)).Nodup) : Upd a o o' l l' := by
  induction u with
  | @head r =>
    rw [List.map_cons, List.nodup_cons] at nd
    refine .head fun p hp e => nd.1 ?_
    have := List.mem_map_of_mem (f := (·.1)) hp
    exact e ▸ this
  | @tail q r r' u ih =>
    rw [List.map_cons, List.nodup_cons] at nd
    refine .tail (fun e => nd.1 ?_) (ih nd.2)
    have := List.mem_map_of_mem (f := (·.1)) u.mem
    exact e ▸ this
inductive Pick (p : Addr × Obj) : Nw → Nw → Prop
  | head {r} : Pick p (p :: r) r
  | tail {q r r'} : Pick p r r' → Pick p (q :: r) (q :: r')
theorem Pick.perm {p : Addr × Obj} {l l' : Nw} (h : Pick p l l') : l.Perm (p :: l') := by
  induction h with
  | head => exact List.Perm.refl _
  | tail _ ih => exact (ih.cons _).trans (List.Perm.swap _ _ _)
inductive Take : Nw → Nw → Nw → Prop
  | nil {l} : Take [] l l
  | cons {p t l l' r} : Pick p l l' → Take t l' r → Take (p :: t) l r
theorem Take.perm {t l r : Nw} (h : Take t l r) : l.Perm (t ++ r) := by
  induction h with
  | nil => exact List.Perm.refl _
  | cons hp _ ih => exact hp.perm.trans (ih.cons _)
section
variable {C : Cx} {lv : Lv} {nw t r : Nw}
theorem Own.take {s : Shared} (o : Own C ⟨lv, nw⟩ s) (h : Take t nw r) : Own C ⟨lv, t⟩ s := (o.perm h.perm).drop (List.sublist_append_left _ _)
theorem Ev_take {α : Type} {m : Sem α} {Q : α → St → Prop} (h : Take t nw r) (k : Ev C m ⟨lv, t⟩ Q) : Ev C m ⟨lv, nw⟩ Q := fun s o => k s (o.take h)
theorem LoopF.take {tg : Expr} {it : Value} {b o : List Stmt} {Q : Flow → St → Prop} (h : Take t nw r) (k : LoopF C tg it b o ⟨lv, t⟩ Q) : LoopF C tg it b o ⟨lv, nw⟩ Q := fun s ow => k s (ow.take h)
theorem LoopW.take {te : Expr} {b o : List Stmt} {Q : Flow → St → Prop} (h : Take t nw r) (k : LoopW C te b o ⟨lv, t⟩ Q) : LoopW C te b o ⟨lv, nw⟩ Q := fun s ow => k s (ow.take h)
theorem CompS.take {e : Expr} {d : Nat} {it acc : Value} {Q : St → Prop} (h : Take t nw r) (k : CompS C e d it acc ⟨lv, t⟩ Q) : CompS C e d it acc ⟨lv, nw⟩ Q := fun s ow => k s (ow.take h)
theorem CompL.take {e : Expr} {d : Nat} {it acc : Value} {Q : St → Prop} (h : Take t nw r) (k : CompL C e d it acc ⟨lv, t⟩ Q) : CompL C e d it acc ⟨lv, nw⟩ Q := fun s ow => k s (ow.take h)
theorem nextK_take {x : List Stmt} {Q : Flow → St → Prop} (h : Take t nw r) (k : nextK C x Q .next ⟨lv, t⟩) : nextK C x Q .next ⟨lv, nw⟩ := Ev_take h k
theorem Ev_call {k : Nat} {f : Value} {vs : List Value} {kw : List (Str × Value)} {Q : Value → St → Prop} (nw1 : Nw) {nw2 : Nw} (hp : Take nw1 nw nw2) (hR : Room k C.A)
    (h : ∀ hb', Mine.Keeps C.hb hb' → FnA C.p C.w k hb' f ⟨vs, kw⟩ nw1 (fun v nw1' => Q v ⟨lv, nw1' ++ nw2⟩)) : Ev C (call f vs kw) ⟨lv, nw⟩ Q := Ev_fn hp.perm hR h
end
section
variable {C : Cx} {st : St} {k : Nat}
theorem Own.ofFN {lv : Lv} {nw nw' : Nw} {s : Shared} {h' : Heap} (o : Own C ⟨lv, nw⟩ s) (F : Fr C.hb C.env.locals h' (lvm lv)) (N : News C.hb C.env.locals h' nw') (e : nw'.map (·.1) = nw.map (·.1)) (t : Nat) : Own C ⟨lv, nw'⟩ { s with heap := h', toks := t } :=
  ⟨by rw [o.eq], F, N, by show (nw'.map _).Nodup; rw [e]; exact o.nd, o.ln⟩
theorem Ev_pop {lv : Lv} {nw nw' : Nw} {l : Addr} {xs : List Value} {y : Value} {n : Nat} {Q : Value → St → Prop} (u : Upd1 l (listO (xs ++ [y]) n) (listO xs (n + 1)) nw nw') (hz : xs.length + 1 ≤ sizeLine) (h : Q y ⟨lv, nw'⟩) :
    Ev C (call (.builtin "list.pop") [.ref l]) ⟨lv, nw⟩ Q := fun s o =>
  kl_pop (p := xs) (y := y) (its := (xs ++ [y]).toArray) (n := n) o.F o.N (by simpa using kpa_last y xs) (u.toUpd o.nd) (by simpa using hz) fun h' F' N' => ⟨_, o.ofFN F' N' u.keys _, h⟩
end
end Mine
end
section
open PySem PySem.W PyProof.Rows PySem.Calls
namespace Mine
section
variable {C : Cx} {st : St}
theorem Ev_bltn' {k : Nat} {x : Str} {v : Value} {Q : Value → St → Prop} (hC : Ok k C) (hx : C.env.kindOf x = some .globalImplicit) (e : nsIn (KF C.w.params) mainGlobals x = some none ∧ bootBuiltins x = some v) (h : Q v st)
    (hn : x ≠ "__name__" := by decide +kernel) : Ev C (loadName C.env x) st Q := Ev_bltn hC hx e.1 e.2 h hn
theorem Ev_arg_cons {e : Expr} {r : List Expr} {pos : Pos} {Q : List Value → St → Prop} (h : Ev C (eval e C.env) st (fun v st1 => Ev C (spliced (backTo pos (starEach r C.env))) st1 (fun vs st2 => Q (v :: vs) st2)))
    (hs : starEach (e :: r) C.env = (false, eval e C.env) :: starEach r C.env) : Ev C (spliced (backTo pos (starEach (e :: r) C.env))) st Q := by
  rw [hs]
  exact Ev_sp_cons h
theorem Ev_arg_nil {pos : Pos} {Q : List Value → St → Prop} (h : Q [] st) : Ev C (spliced (backTo pos (starEach [] C.env))) st Q := Ev_sp_nil h
theorem isEval {e : Expr} {Q : Value → St → Prop} (h : Ev C (eval e C.env) st Q) : Ev C (eval e C.env) st Q := h
theorem isLoad {x : Str} {Q : Value → St → Prop} (h : Ev C (loadName C.env x) st Q) : Ev C (loadName C.env x) st Q := h
theorem isStore {x : Str} {v : Value} {Q : Unit → St → Prop} (h : Ev C (storeName C.env x v) st Q) : Ev C (storeName C.env x v) st Q := h
theorem isExec {x : Stmt} {Q : Flow → St → Prop} (h : Ev C (exec x C.env) st Q) : Ev C (exec x C.env) st Q := h
theorem isBin {op : Operator} {a b : Value} {Q : Value → St → Prop} (h : Ev C (binaryOp op a b) st Q) : Ev C (binaryOp op a b) st Q := h
theorem isCmp {op : CmpOp} {a b : Value} {Q : Value → St → Prop} (h : Ev C (compareOp op a b) st Q) : Ev C (compareOp op a b) st Q := h
theorem isTest {e : Expr} {w : Sem Value} {Q : Bool → St → Prop} (h : Ev C (isTrue e C.env w) st Q) : Ev C (isTrue e C.env w) st Q := h
theorem isAll {op : BoolOp} {es : List Expr} {Q : Bool → St → Prop} (h : Ev C (allTrue op es C.env) st Q) : Ev C (allTrue op es C.env) st Q := h
theorem isSp {es : List (Bool × Sem Value)} {Q : List Value → St → Prop} (h : Ev C (spliced es) st Q) : Ev C (spliced es) st Q := h
end
theorem kind_at {C : Cx} {sc : Scope} {x : Str} {kd : NameKind} (h : C.env.scope = sc) (e : sc.names.lookup x = some kd) : C.env.kindOf x = some kd := by unfold Env.kindOf; rw [h]; exact e
theorem cell_at {C : Cx} {cl : List (Str × Addr)} {x : Str} {c : Addr} (h : C.env.cells = cl) (e : cl.lookup x = some c) : C.env.cells.lookup x = some c := by rw [h]; exact e
theorem cl_head {x : Str} {c : Addr} {r : List (Str × Addr)} : ((x, c) :: r).lookup x = some c := by simp [List.lookup]
theorem cl_tail {x y : Str} {c d : Addr} {r : List (Str × Addr)} (h : (x == y) = false) (e : r.lookup x = some c) : ((y, d) :: r).lookup x = some c := by simp [List.lookup, h, e]
theorem g_translate (P : Params) : nsIn (KF P) mainGlobals (Str.ofString "translate") = some (some (.ref 50)) := by kernel_rfl
theorem gu_special_chars_map (P : Params) : nsIn (KF P) mainGlobals (Str.ofString "_special_chars_map") = some (some (.ref 52)) := by kernel_rfl
theorem g_escape (P : Params) : nsIn (KF P) mainGlobals (Str.ofString "escape") = some (some (.ref 62)) := by kernel_rfl
theorem gu_translate (P : Params) : nsIn (KF P) mainGlobals (Str.ofString "_translate") = some (some (.ref 69)) := by kernel_rfl
theorem gu_join_translated_parts (P : Params) : nsIn (KF P) mainGlobals (Str.ofString "_join_translated_parts") = some (some (.ref 76)) := by kernel_rfl
theorem gu_buffer (P : Params) : nsIn (KF P) mainGlobals (Str.ofString "_buffer") = some (some (.ref 83)) := by kernel_rfl
theorem gu_truth (P : Params) : nsIn (KF P) mainGlobals (Str.ofString "_truth") = some (some (.ref 90)) := by kernel_rfl
theorem g_b2a_base64 (P : Params) : nsIn (KF P) mainGlobals (Str.ofString "b2a_base64") = some (some (.ref 98)) := by kernel_rfl
theorem g_b64encode (P : Params) : nsIn (KF P) mainGlobals (Str.ofString "b64encode") = some (some (.ref 106)) := by kernel_rfl
theorem g_heappop (P : Params) : nsIn (KF P) mainGlobals (Str.ofString "heappop") = some (some (.ref 113)) := by kernel_rfl
theorem g_heapify (P : Params) : nsIn (KF P) mainGlobals (Str.ofString "heapify") = some (some (.ref 120)) := by kernel_rfl
theorem gu_siftdown (P : Params) : nsIn (KF P) mainGlobals (Str.ofString "_siftdown") = some (some (.ref 127)) := by kernel_rfl
theorem gu_siftup (P : Params) : nsIn (KF P) mainGlobals (Str.ofString "_siftup") = some (some (.ref 134)) := by kernel_rfl
theorem gu_law_row (P : Params) : nsIn (KF P) mainGlobals (Str.ofString "_law_row") = some (some (.ref 139)) := by kernel_rfl
theorem gu_law_alphabet (P : Params) : nsIn (KF P) mainGlobals (Str.ofString "_law_alphabet") = some (some (.ref 146)) := by kernel_rfl
theorem gu_law_pattern (P : Params) : nsIn (KF P) mainGlobals (Str.ofString "_law_pattern") = some (some (.ref 151)) := by kernel_rfl
theorem gu_law_fits (P : Params) : nsIn (KF P) mainGlobals (Str.ofString "_law_fits") = some (some (.ref 158)) := by kernel_rfl
theorem gu_law_pairs (P : Params) : nsIn (KF P) mainGlobals (Str.ofString "_law_pairs") = some (some (.ref 163)) := by kernel_rfl
theorem gu_law_popped (P : Params) : nsIn (KF P) mainGlobals (Str.ofString "_law_popped") = some (some (.ref 168)) := by kernel_rfl
theorem gu_law_right (P : Params) : nsIn (KF P) mainGlobals (Str.ofString "_law_right") = some (some (.ref 173)) := by kernel_rfl
theorem gu_twin_re_1 (P : Params) : nsIn (KF P) mainGlobals (Str.ofString "_twin_re_1") = some (some (.ref 43)) := by kernel_rfl
theorem gu_wall (P : Params) : nsIn (KF P) mainGlobals (Str.ofString "_wall") = some (some (.ref 38)) := by kernel_rfl
theorem b_len (P : Params) : nsIn (KF P) mainGlobals (Str.ofString "len") = some none ∧ bootBuiltins (Str.ofString "len") = some (.builtin "len") := ⟨by kernel_rfl, by kernel_rfl⟩
theorem b_range (P : Params) : nsIn (KF P) mainGlobals (Str.ofString "range") = some none ∧ bootBuiltins (Str.ofString "range") = some (.type "range") := ⟨by kernel_rfl, by kernel_rfl⟩
theorem b_bytes (P : Params) : nsIn (KF P) mainGlobals (Str.ofString "bytes") = some none ∧ bootBuiltins (Str.ofString "bytes") = some (.type "bytes") := ⟨by kernel_rfl, by kernel_rfl⟩
theorem b_sum (P : Params) : nsIn (KF P) mainGlobals (Str.ofString "sum") = some none ∧ bootBuiltins (Str.ofString "sum") = some (.builtin "sum") := ⟨by kernel_rfl, by kernel_rfl⟩
theorem b_chr (P : Params) : nsIn (KF P) mainGlobals (Str.ofString "chr") = some none ∧ bootBuiltins (Str.ofString "chr") = some (.builtin "chr") := ⟨by kernel_rfl, by kernel_rfl⟩
theorem b_type (P : Params) : nsIn (KF P) mainGlobals (Str.ofString "type") = some none ∧ bootBuiltins (Str.ofString "type") = some (.type "type") := ⟨by kernel_rfl, by kernel_rfl⟩
theorem b_sorted (P : Params) : nsIn (KF P) mainGlobals (Str.ofString "sorted") = some none ∧ bootBuiltins (Str.ofString "sorted") = some (.builtin "sorted") := ⟨by kernel_rfl, by kernel_rfl⟩
theorem b_list (P : Params) : nsIn (KF P) mainGlobals (Str.ofString "list") = some none ∧ bootBuiltins (Str.ofString "list") = some (.type "list") := ⟨by kernel_rfl, by kernel_rfl⟩
theorem b_reversed (P : Params) : nsIn (KF P) mainGlobals (Str.ofString "reversed") = some none ∧ bootBuiltins (Str.ofString "reversed") = some (.type "reversed") := ⟨by kernel_rfl, by kernel_rfl⟩
theorem b_object (P : Params) : nsIn (KF P) mainGlobals (Str.ofString "object") = some none ∧ bootBuiltins (Str.ofString "object") = some (.type "object") := ⟨by kernel_rfl, by kernel_rfl⟩
theorem b_isinstance (P : Params) : nsIn (KF P) mainGlobals (Str.ofString "isinstance") = some none ∧ bootBuiltins (Str.ofString "isinstance") = some (.builtin "isinstance") := ⟨by kernel_rfl, by kernel_rfl⟩
theorem b_str (P : Params) : nsIn (KF P) mainGlobals (Str.ofString "str") = some none ∧ bootBuiltins (Str.ofString "str") = some (.type "str") := ⟨by kernel_rfl, by kernel_rfl⟩
theorem b_bytearray (P : Params) : nsIn (KF P) mainGlobals (Str.ofString "bytearray") = some none ∧ bootBuiltins (Str.ofString "bytearray") = some (.type "bytearray") := ⟨by kernel_rfl, by kernel_rfl⟩
theorem b_bool (P : Params) : nsIn (KF P) mainGlobals (Str.ofString "bool") = some none ∧ bootBuiltins (Str.ofString "bool") = some (.type "bool") := ⟨by kernel_rfl, by kernel_rfl⟩
theorem b_int (P : Params) : nsIn (KF P) mainGlobals (Str.ofString "int") = some none ∧ bootBuiltins (Str.ofString "int") = some (.type "int") := ⟨by kernel_rfl, by kernel_rfl⟩
end Mine
end
section
open PySem
namespace Mine
def sdGo (lt : Value → Value → Bool) (x : Value) (start : Nat) : Nat → List Value → Nat → List Value
  | 0, xs, pos => xs.set pos x
  | f + 1, xs, pos => if start < pos then (if lt x (xs.getD ((pos - 1) / 2) .none) then sdGo lt x start f (xs.set pos (xs.getD ((pos - 1) / 2) .none)) ((pos - 1) / 2) else xs.set pos x) else xs.set pos x
def suGo (lt : Value → Value → Bool) : Nat → List Value → Nat → List Value × Nat
  | 0, xs, pos => (xs, pos)
  | f + 1, xs, pos => if 2 * pos + 1 < xs.length then
      (let c := if 2 * pos + 2 < xs.length ∧ lt (xs.getD (2 * pos + 1) .none) (xs.getD (2 * pos + 2) .none) = false then 2 * pos + 2 else 2 * pos + 1
       suGo lt f (xs.set pos (xs.getD c .none)) c) else (xs, pos)
def suF (lt : Value → Value → Bool) (xs : List Value) (pos : Nat) : List Value :=
  let r := suGo lt xs.length xs pos
  sdGo lt (xs.getD pos .none) pos r.2 (r.1.set r.2 (xs.getD pos .none)) r.2
def hfGo (lt : Value → Value → Bool) : Nat → List Value → List Value
  | 0, xs => xs
  | m + 1, xs => hfGo lt m (suF lt xs m)
def popF (lt : Value → Value → Bool) (xs : List Value) : List Value := if xs.dropLast = [] then [] else suF lt (xs.dropLast.set 0 (xs.getLastD .none)) 0
theorem swap_perm {xs : List Value} {i j : Nat} {x : Value} (hi : i < xs.length) (hj : j < xs.length) (hij : i ≠ j) : ((xs.set i (xs.getD j .none)).set j x).Perm (xs.set i x) := by
  have h := Array.swap_perm (xs := (xs.set i x).toArray) (i := i) (j := j) (h₁ := by simpa using hi) (h₂ := by simpa using hj)
  have e : ((xs.set i x).toArray.swap i j (by simpa using hi) (by simpa using hj)).toList = (xs.set i (xs.getD j .none)).set j x := by
    simp only [Array.swap_def, List.getElem_toArray, List.set_toArray, Array.toList_set]
    rw [List.getElem_set_self, List.getElem_set_ne hij, List.set_set]
    simp [List.getD, hj]
  rw [Array.perm_iff_toList_perm] at h
  rw [e] at h
  simpa using h
theorem sdGo_perm (lt : Value → Value → Bool) (x : Value) (start : Nat) : ∀ (f : Nat) (xs : List Value) (pos : Nat), pos < xs.length → (sdGo lt x start f xs pos).Perm (xs.set pos x)
  | 0, xs, pos, _ => List.Perm.refl _
  | f + 1, xs, pos, h => by
    unfold sdGo
    split
    · split
      · refine (sdGo_perm lt x start f _ _ (by rw [List.length_set]; omega)).trans (swap_perm h (by omega) (by omega))
      · exact List.Perm.refl _
    · exact List.Perm.refl _
theorem suGo_perm (lt : Value → Value → Bool) (x : Value) : ∀ (f : Nat) (xs : List Value) (pos : Nat), pos < xs.length → ((suGo lt f xs pos).1.set (suGo lt f xs pos).2 x).Perm (xs.set pos x) ∧ (suGo lt f xs pos).1.length = xs.length ∧ (suGo lt f xs pos).2 < xs.length
  | 0, xs, pos, h => ⟨List.Perm.refl _, rfl, h⟩
  | f + 1, xs, pos, h => by
    unfold suGo
    split
    · rename_i hc
      generalize hcc : (if 2 * pos + 2 < xs.length ∧ lt (xs.getD (2 * pos + 1) .none) (xs.getD (2 * pos + 2) .none) = false then 2 * pos + 2 else 2 * pos + 1) = c
      have hcl : c < xs.length := by split at hcc <;> omega
      have hcq : pos < c := by split at hcc <;> omega
      have ih := suGo_perm lt x f (xs.set pos (xs.getD c .none)) c (by rw [List.length_set]; exact hcl)
      refine ⟨ih.1.trans (swap_perm h hcl (by omega)), ?_, ?_⟩
      · simpa using ih.2.1
      · simpa using ih.2.2
    · exact ⟨List.Perm.refl _, rfl, h⟩
theorem suF_perm {lt : Value → Value → Bool} {xs : List Value} {pos : Nat} (h : pos < xs.length) : (suF lt xs pos).Perm xs := by
  unfold suF
  have h1 := suGo_perm lt (xs.getD pos .none) xs.length xs pos h
  refine (sdGo_perm lt _ pos _ _ _ (by rw [List.length_set, h1.2.1]; exact h1.2.2)).trans ?_
  rw [List.set_set]
  refine h1.1.trans ?_
  have : xs.set pos (xs.getD pos .none) = xs := by
    have e : xs.getD pos .none = xs[pos] := by simp [List.getD, h]
    rw [e]; exact List.set_getElem_self h
  rw [this]
theorem hfGo_perm {lt : Value → Value → Bool} : ∀ (m : Nat) {xs : List Value}, m ≤ xs.length → (hfGo lt m xs).Perm xs
  | 0, _, _ => List.Perm.refl _
  | m + 1, xs, h => by
    unfold hfGo
    have p := suF_perm (lt := lt) (show m < xs.length by omega)
    exact (hfGo_perm m (by rw [p.length_eq]; omega)).trans p
end Mine
end
section
open PySem PySem.W PyProof.Rows PySem.Calls
namespace Mine
def slc {α : Type} (l : List α) (lo hi : Option Int) : List α := (l.drop (lo.elim 0 (clipAt l.length))).take (hi.elim l.length (clipAt l.length) - lo.elim 0 (clipAt l.length))
theorem clip_nat (n k : Nat) : clipAt n (k : Int) = min k n := clipAt_nat n k
theorem slc_to {α : Type} (l : List α) (k : Nat) : slc l none (some (k : Int)) = l.take k := by
  simp only [slc, Option.elim, List.drop_zero, Nat.sub_zero, clip_nat]
  rw [List.take_eq_take_iff]; omega
theorem slc_from {α : Type} (l : List α) (k : Nat) : slc l (some (k : Int)) none = l.drop k := by
  simp only [slc, Option.elim, clip_nat]
  by_cases h : k ≤ l.length
  · rw [Nat.min_eq_left h, List.take_of_length_le (by simp)]
  · rw [Nat.min_eq_right (by omega), List.drop_eq_nil_of_le (by omega), List.drop_eq_nil_of_le (by omega)]; simp
theorem slc_mid {α : Type} (l : List α) (a b : Nat) (hb : b ≤ l.length) (hab : a ≤ b) : slc l (some (a : Int)) (some (b : Int)) = (l.take b).drop a := by
  simp only [slc, Option.elim, clip_nat]
  rw [Nat.min_eq_left (by omega), Nat.min_eq_left (by omega), List.drop_take]
theorem slc_len {α : Type} (l : List α) (lo hi : Option Int) : (slc l lo hi).length ≤ l.length := by
  unfold slc; rw [List.length_take, List.length_drop]; omega
theorem slc_map {α β : Type} (f : α → β) (l : List α) (lo hi : Option Int) : slc (l.map f) lo hi = (slc l lo hi).map f := by
  unfold slc; rw [List.length_map, List.map_take, List.map_drop]
abbrev S (l : List Nat) : Str := ⟨l.toArray⟩
theorem S_eq (x : Str) : x = S x.cps.toList := by cases x; simp
section
variable {C : Cx} {st : St} {lv : Lv} {nw nw' : Nw} {s : Shared}
theorem Own.kept {h' : Heap} (o : Own C ⟨lv, nw⟩ s) (hk : ∀ b x, s.heap.get? b = some x → h'.get? b = some x) (t : Nat) : Own C ⟨lv, nw⟩ { s with heap := h', toks := t } :=
  o.ofFN (o.F.keeps hk) (fun q hq => ⟨hk _ _ (o.N q hq).1, (o.N q hq).2⟩) rfl t
theorem Own.kept' {h' : Heap} (o : Own C st s) (hk : ∀ b x, s.heap.get? b = some x → h'.get? b = some x) (t : Nat) : Own C st { s with heap := h', toks := t } := Own.kept (lv := st.lv) (nw := st.nw) o hk t
theorem Ev_powN {a b : Nat} {t u : Tok} {Q : Value → St → Prop} (hs : Builtin.Int.intBits (a : Int) * b ≤ 2 ^ 27) (h : ∀ t, Q (.int ((a ^ b : Nat) : Int) t) st) : Ev C (binaryOp .Pow (.int a t) (.int b u)) st Q := by
  intro s o; with_reducible refine pow_int (Int.natCast_nonneg _) (by rw [← Int.natCast_mul]; generalize Builtin.Int.intBits (a : Int) * b = z at hs ⊢; omega) ?_
  refine ⟨st, o.tok _, ?_⟩
  rw [Int.toNat_natCast]
  have := h s.toks
  rwa [Int.natCast_pow] at this
theorem Ev_bytesInts {l : Addr} {vs : List Value} {ns : List Int} {n : Nat} {Q : Value → St → Prop} (hR : C.A.handled = none) (hl : At C st l (listO vs n)) (hi : IntsAre vs ns) (hr : ∀ n ∈ ns, 0 ≤ n ∧ n < 256) (hz : vs.length ≤ sizeLine)
    (h : ∀ t, Q (.bytes (byteArr ns) t) st) : Ev C (call (.type "bytes") [.ref l]) st Q := by
  intro s o
  refine call_bytes_ints (o.list hl) hi hr hz hR fun h' t k hk => ⟨st, o.kept' hk k, h t⟩
theorem Ev_sumInts {l : Addr} {vs : List Value} {ns : List Int} {n : Nat} {Q : Value → St → Prop} (hR : C.A.handled = none) (hl : At C ⟨lv, nw⟩ l (listO vs n)) (hi : IntsAre vs ns)
    (h : ∀ t, Q (.int ns.sum t) ⟨lv, nw⟩) : Ev C (call (.builtin "sum") [.ref l]) ⟨lv, nw⟩ Q := by
  intro s o
  exact LSm.sum_ints o.F o.N hR (o.list hl) hi fun h' tk t' F' N' => ⟨_, o.ofFN F' N' rfl tk, h _⟩
section
variable {b c : Array UInt8} {t u : Tok}
theorem Ev_lenB {Q : Value → St → Prop} (hz : b.size ≤ 1099511627776) (h : ∀ t, Q (.int b.size t) st) : Ev C (call (.builtin "len") [.bytes b t]) st Q := by
  intro s o; with_reducible refine len_bytes hz ?_; exact ⟨st, o.tok _, h _⟩
theorem Ev_eqB {Q : Value → St → Prop} (h : Q (.bool (b.toList == c.toList)) st) : Ev C (compareOp .Eq (.bytes b t) (.bytes c u)) st Q := by
  intro s o; with_reducible refine W.eq_bytes ?_; exact ⟨st, o, h⟩
theorem Ev_getB {l : List UInt8} {i : Nat} {x : UInt8} {Q : Value → St → Prop} (hz : l.length ≤ 1099511627776) (hx : l[i]? = some x) (h : ∀ t, Q (.int (x.toNat : Int) t) st) : Ev C (getItem (.bytes l.toArray t) (.int i u)) st Q := by
  intro s o
  obtain ⟨hl, e⟩ := List.getElem?_eq_some_iff.mp hx
  with_reducible refine getItem_bytes hz (Int.natCast_nonneg _) (by exact_mod_cast hl) ?_
  refine ⟨st, o.tok _, ?_⟩
  rw [Int.toNat_natCast]
  have e2 : l.getD i 0 = x := by simp [List.getD, hx]
  rw [e2]; exact h _
theorem ty_bytes : TyAt C st (.bytes b t) "bytes" := rfl
theorem Ev_sliceB {a : Addr} {l u' : Value} {lo hi : Option Int} {Q : Value → St → Prop} (ha : At C st a (sliceO l u' .none)) (hl : IsPart l lo) (hu : IsPart u' hi) (hz : b.size ≤ sizeLine)
    (h : ∀ t, Q (.bytes (slc b.toList lo hi).toArray t) st) : Ev C (getItem (.bytes b t) (.ref a)) st Q := by
  intro s o
  have e : KBy.picked b lo hi = (slc b.toList lo hi).toArray := by rw [KBc.picked_eq]; unfold slc; rw [Array.length_toList]
  refine getItem_meets (typeIs_bytes _ _ _) (by decide) FB.slot_bytes_getitem FB.entry_bytes_getitem (FB.args_bytes_getitem_2 _ _) (KBc.meets_slice2 b t _ hl hu) ⟨⟨_, o.at ha, rfl, rfl⟩, Nat.le_trans (KBc.size_picked_le b lo hi) hz, fun t' k => ?_⟩
  rw [e]
  exact ⟨st, o.tok _, h _⟩
theorem Ev_subSliceB {a : Addr} {l u' : Value} {lo hi : Option Int} {Q : Value → St → Prop} (ha : At C st a (sliceO l u' .none)) (hl : IsPart l lo) (hu : IsPart u' hi) (hz : b.size ≤ sizeLine)
    (h : ∀ t, Q (.bytes (slc b.toList lo hi).toArray t) st) : ∃ T id, TyAt C st (.bytes b t) T ∧ typeLookup (.type T) "__getitem__" = pure (some (.builtin id)) ∧ Ev C (getItem (.bytes b t) (.ref a)) st Q :=
  ⟨"bytes", _, ty_bytes, FB.slot_bytes_getitem.lookup, Ev_sliceB ha hl hu hz h⟩
theorem Ev_subB {l : List UInt8} {i : Nat} {x : UInt8} {Q : Value → St → Prop} (hz : l.length ≤ 1099511627776) (hx : l[i]? = some x) (h : ∀ t, Q (.int (x.toNat : Int) t) st) :
    ∃ T id, TyAt C st (.bytes l.toArray t) T ∧ typeLookup (.type T) "__getitem__" = pure (some (.builtin id)) ∧ Ev C (getItem (.bytes l.toArray t) (.int i u)) st Q :=
  ⟨"bytes", _, ty_bytes, FB.slot_bytes_getitem.lookup, Ev_getB hz hx h⟩
end
theorem slicePick_slc (items : Array Value) (lo hi : Option Int) : slicePick items lo hi none = (slc items.toList lo hi).toArray := by
  unfold slicePick slc
  rw [sliceBounds_plain, Array.length_toList]
  simp only [sliceRange_one, pick_run]
theorem Ev_sliceL3 {a l : Addr} {xs : List Value} {n : Nat} {vl vu vs : Value} {lo hi st : Option Int} {Q : Value → St → Prop} (hl : At C ⟨lv, nw⟩ l (listO xs n)) (ha : At C ⟨lv, nw⟩ a (sliceO vl vu vs)) (pl : IsPart vl lo) (pu : IsPart vu hi) (ps : IsPart vs st) (h0 : st ≠ some 0) (hz : xs.length ≤ sizeLine)
    (h : ∀ d, Q (.ref d) ⟨lv, (d, listO (slicePick xs.toArray lo hi st).toList 0) :: nw⟩) : ∃ T id, TyAt C ⟨lv, nw⟩ (.ref l) T ∧ typeLookup (.type T) "__getitem__" = pure (some (.builtin id)) ∧ Ev C (getItem (.ref l) (.ref a)) ⟨lv, nw⟩ Q := by
  refine ⟨"list", _, ty_list hl, slot_list_getitem.lookup, ?_⟩
  intro s o
  refine wpAny_getItem_list_slice (o.list hl) ⟨_, o.at ha, rfl, rfl⟩ pl pu ps h0 ⟨_, o.alloc _ rfl, ?_⟩ (by simpa using hz)
  have := h s.heap.objs.size
  rw [listO, Array.toArray_toList] at this
  exact this
theorem Ev_sliceL {a l : Addr} {xs : List Value} {n : Nat} {vl vu : Value} {lo hi : Option Int} {Q : Value → St → Prop} (hl : At C ⟨lv, nw⟩ l (listO xs n)) (ha : At C ⟨lv, nw⟩ a (sliceO vl vu .none)) (pl : IsPart vl lo) (pu : IsPart vu hi) (hz : xs.length ≤ sizeLine)
    (h : ∀ d, Q (.ref d) ⟨lv, (d, listO (slc xs lo hi) 0) :: nw⟩) : ∃ T id, TyAt C ⟨lv, nw⟩ (.ref l) T ∧ typeLookup (.type T) "__getitem__" = pure (some (.builtin id)) ∧ Ev C (getItem (.ref l) (.ref a)) ⟨lv, nw⟩ Q :=
  Ev_sliceL3 hl ha pl pu .none (by simp) hz fun d => by have := h d; rw [slicePick_slc]; exact this
section
variable {x y : List Nat} {t u : Tok}
theorem strSlice_slc (x : List Nat) (lo hi : Option Int) : (Builtin.Str.strSliceIndices lo hi 1 (S x).length).filterMap ((S x).cps[·]?) = slc x lo hi := by
  have e : Builtin.Str.strSliceIndices lo hi 1 (S x).length = sliceRange (sliceBounds lo hi none x.length).1 (sliceBounds lo hi none x.length).2.1 1 := by
    unfold Builtin.Str.strSliceIndices sliceBounds
    simp [Str.length]
    cases lo <;> cases hi <;> simp
  rw [e, sliceBounds_plain, sliceRange_one, pick_run]
  rfl
theorem ty_str {x : Str} : TyAt C st (.str x t) "str" := rfl
theorem Ev_sliceS {a : Addr} {l u' : Option (Int × Tok)} {Q : Value → St → Prop} (ha : At C st a (sliceO (partValue l) (partValue u') .none)) (hz : x.length ≤ sizeLine)
    (h : ∀ t, Q (.str (S (slc x (l.map (·.1)) (u'.map (·.1)))) t) st) : Ev C (getItem (.str (S x) t) (.ref a)) st Q := by
  intro s o
  refine wpAny_getItem_str_slice (l := l) (u := u') (st := none) ⟨_, o.at ha, rfl, rfl⟩ rfl ?_
  have e : slicePicked (S x) l u' none = Builtin.Str.strSliceIndices (l.map (·.1)) (u'.map (·.1)) 1 (S x).length := rfl
  unfold sliceMade
  split
  · rename_i hc
    have h' := h t
    have hc' : (slicePicked (S x) l u' none).length = (S x).length := by simpa using hc
    have e2 : slc x (l.map (·.1)) (u'.map (·.1)) = x := by
      rw [← strSlice_slc, ← e]
      have := StrLaws.sliced_plain (S x) (a := 0) (b := x.length) (by omega) (by simp [Str.length])
      have hl2 : (slc x (l.map (·.1)) (u'.map (·.1))).length = x.length := by
        rw [← strSlice_slc, ← e]
        have hsub : ∀ i ∈ slicePicked (S x) l u' none, i < x.length := by
          intro i hi
          rw [e] at hi
          have e3 : Builtin.Str.strSliceIndices (l.map (·.1)) (u'.map (·.1)) 1 (S x).length = sliceRange (sliceBounds (l.map (·.1)) (u'.map (·.1)) none x.length).1 (sliceBounds (l.map (·.1)) (u'.map (·.1)) none x.length).2.1 1 := by
            unfold Builtin.Str.strSliceIndices sliceBounds
            simp [Str.length]
            cases l <;> cases u' <;> simp
          rw [e3, sliceBounds_plain, sliceRange_one] at hi
          obtain ⟨k, hk, rfl⟩ := List.mem_map.mp hi
          rw [List.mem_range] at hk
          have : ((u'.map (·.1)).elim x.length (clipAt x.length)) ≤ x.length := by
            cases u' with
            | none => exact Nat.le_refl _
            | some q => have := clipAt_cast x.length q.1; simp only [Option.map, Option.elim]; omega
          omega
        rw [List.length_filterMap_eq_countP, List.countP_eq_length.mpr]
        · exact hc'
        · intro i hi; simp [hsub i hi]
      rw [e, strSlice_slc]
      unfold slc at hl2 ⊢
      rw [List.length_take, List.length_drop] at hl2
      have h0 : (l.map (·.1)).elim 0 (clipAt x.length) = 0 ∨ x = [] := by
        by_cases hx : x = []
        · exact Or.inr hx
        · have : 0 < x.length := List.length_pos_iff.mpr hx
          left; omega
      rcases h0 with h0 | rfl
      · rw [h0] at hl2 ⊢
        rw [List.drop_zero, List.take_of_length_le (by omega)]
      · simp
    rw [e2] at h'
    exact ⟨st, o, h'⟩
  · refine ⟨?_, st, o.tok _, ?_⟩
    · show (List.filterMap _ _).toArray.size ≤ _
      rw [List.size_toArray, e, strSlice_slc]
      exact Nat.le_trans (slc_len _ _ _) hz
    · rw [e, strSlice_slc]; exact h _
theorem Ev_subSliceS {a : Addr} (l u' : Option (Int × Tok)) {Q : Value → St → Prop} (ha : At C st a (sliceO (partValue l) (partValue u') .none)) (hz : x.length ≤ sizeLine)
    (h : ∀ t, Q (.str (S (slc x (l.map (·.1)) (u'.map (·.1)))) t) st) : ∃ T id, TyAt C st (.str (S x) t) T ∧ typeLookup (.type T) "__getitem__" = pure (some (.builtin id)) ∧ Ev C (getItem (.str (S x) t) (.ref a)) st Q :=
  ⟨"str", _, ty_str, F.slot_str_getitem.lookup, Ev_sliceS ha hz h⟩
theorem Ev_subS {i : Int} {c : Nat} {x : Str} {Q : Value → St → Prop} (hr : (decide (i < -(2 ^ 63 : Int)) || decide (i ≥ 2 ^ 63)) = false) (hc : (seqIndex? i x.length).bind (x.cps[·]?) = some c) (h : ∀ t, Q (.str (S [c]) t) st) :
    ∃ T id, TyAt C st (.str x t) T ∧ typeLookup (.type T) "__getitem__" = pure (some (.builtin id)) ∧ Ev C (getItem (.str x t) (.int i u)) st Q := by
  refine ⟨"str", _, ty_str, F.slot_str_getitem.lookup, ?_⟩
  intro s o; with_reducible refine PyProof.Rows.getItem_str hr hc ?_; exact ⟨st, o.tok _, h _⟩
theorem Ev_subSN {i : Nat} {c : Nat} {Q : Value → St → Prop} (hi : i < 2 ^ 63) (hc : x[i]? = some c) (h : ∀ t, Q (.str (S [c]) t) st) :
    ∃ T id, TyAt C st (.str (S x) t) T ∧ typeLookup (.type T) "__getitem__" = pure (some (.builtin id)) ∧ Ev C (getItem (.str (S x) t) (.int i u)) st Q := by
  refine Ev_subS (c := c) ?_ ?_ h
  · simp; omega
  · obtain ⟨hl, e⟩ := List.getElem?_eq_some_iff.mp hc
    have : seqIndex? (i : Int) (S x).length = some i := by
      have h1 : ¬ ((i : Int) < 0) := by omega
      simp [seqIndex?, h1, Str.length]; omega
    rw [this]; simp [hl, e]
theorem Ev_lenS {Q : Value → St → Prop} (hz : (x.length : Int) < 2 ^ 63) (h : ∀ t, Q (.int x.length t) st) : Ev C (call (.builtin "len") [.str (S x) t]) st Q := by
  intro s o; with_reducible refine PyProof.Rows.len_str (by simp [Str.length]; omega) ?_
  exact ⟨st, o.tok _, by simpa [Str.length] using h _⟩
theorem Ev_eqS {Q : Value → St → Prop} (h : Q (.bool (x == y)) st) : Ev C (compareOp .Eq (.str (S x) t) (.str (S y) u)) st Q := by
  intro s o; with_reducible refine PyProof.Rows.eq_str ?_
  have : (S x == S y) = (x == y) := by rw [← toList_beq]
  exact ⟨st, o, by rw [this]; exact h⟩
theorem Ev_neS {Q : Value → St → Prop} (h : Q (.bool (x != y)) st) : Ev C (compareOp .NotEq (.str (S x) t) (.str (S y) u)) st Q := by
  intro s o; with_reducible refine PyProof.Rows.ne_str ?_
  have : (S x != S y) = (x != y) := by rw [← toList_bne]
  exact ⟨st, o, by rw [this]; exact h⟩
theorem Ev_addS {Q : Value → St → Prop} (hz : x.length + y.length ≤ sizeLine) (h : ∀ t, Q (.str (S (x ++ y)) t) st) : Ev C (binaryOp .Add (.str (S x) t) (.str (S y) u)) st Q := by
  intro s o
  with_reducible refine PyProof.Rows.add_str (fun t' tk => ?_) (by simpa [Str.length] using hz)
  have e : S x ++ S y = S (x ++ y) := by show Str.append _ _ = _; simp [Str.append]
  rw [e]; exact ⟨st, o.tok _, h _⟩
theorem Ev_inS1 {c : Nat} {Q : Value → St → Prop} (h : Q (.bool (decide (c ∈ x))) st) : Ev C (compareOp .In (.str (S [c]) u) (.str (S x) t)) st Q := by
  intro s o; with_reducible refine PyProof.Rows.in_str ?_
  have := StrLaws.found_one (S x) c
  refine ⟨st, o, ?_⟩
  rw [show (S [c]) = ⟨#[c]⟩ from rfl, this]; exact h
theorem Ev_notInS1 {c : Nat} {Q : Value → St → Prop} (h : Q (.bool (!decide (c ∈ x))) st) : Ev C (compareOp .NotIn (.str (S [c]) u) (.str (S x) t)) st Q := by
  intro s o; with_reducible refine PyProof.Rows.notIn_str ?_
  have := StrLaws.found_one (S x) c
  refine ⟨st, o, ?_⟩
  rw [show (S [c]) = ⟨#[c]⟩ from rfl, this]; exact h
end
end
end Mine
end
section
open PySem PySem.W PyProof.Rows PySem.Calls
namespace Mine
def closG (cells : List (Str × Addr)) : List (Str × NameKind) → List (Str × Addr) → Option (List (Str × Addr))
  | [], acc => some acc
  | (n, k) :: r, acc => if k == .free then (match cells.lookup n with | some c => closG cells r ((n, c) :: acc) | none => none) else closG cells r acc
theorem clos_of {scope : Scope} {env : Env} {cells cl : List (Str × Addr)} (hc : env.cells = cells) (h : closG cells scope.names [] = some cl) : closureFor scope env = pure cl := by
  subst hc
  unfold closureFor
  have go : ∀ (l : List (Str × NameKind)) (acc : List (Str × Addr)), closG env.cells l acc = some cl →
      (forIn l acc fun (x : Str × NameKind) (r : List (Str × Addr)) => match x with
        | (name, kind) => if (kind == .free) = true then (do let a ← cellOf env name; pure (ForInStep.yield ((name, a) :: r)) : Sem (ForInStep (List (Str × Addr)))) else pure (ForInStep.yield r)) = (pure cl : Sem _) := by
    intro l
    induction l with
    | nil => intro acc h; simp only [closG, Option.some.injEq] at h; subst h; rfl
    | cons x r ih =>
      intro acc h
      obtain ⟨n, k⟩ := x
      rw [List.forIn_cons]
      unfold closG at h
      dsimp only
      split at h
      · rename_i hk
        rw [if_pos hk]
        split at h
        · rename_i c hl
          have e : cellOf env n = pure c := by unfold cellOf; rw [hl]
          rw [e, pure_bind, pure_bind]
          exact ih _ h
        · cases h
      · rename_i hk
        rw [if_neg hk, pure_bind]
        exact ih _ h
  have := go scope.names [] h
  exact (bind_pure _).trans this
def relabelS (scope sc : Scope) : Scope := { scope with names := scope.names.map fun (n, k) => if (k == .free && sc.kind == .function && sc.names.lookup n == some .cell) then (n, .cell) else (n, k) }
theorem CompCx.sc' {C C' : Cx} {scope sc : Scope} {cl : List (Str × Addr)} {nw2 : Nw} (X : CompCx C C' scope cl nw2) (h : C.env.scope = sc) : C'.env.scope = relabelS scope sc := by
  rw [X.sc, ← h]; rfl
theorem CompCx.cell {C C' : Cx} {scope : Scope} {cl : List (Str × Addr)} {nw2 : Nw} (X : CompCx C C' scope cl nw2) {a : Addr} {o : Obj} (h : HasN a o nw2) : C'.hb.get? a = some o := X.froz _ h.mem
theorem At.own {C : Cx} {lv : Lv} {nw : Nw} {a : Addr} {o : Obj} (h : HasN a o nw) : At C ⟨lv, nw⟩ a o := Or.inl h.mem
theorem At.base {C : Cx} {st : St} {a : Addr} {o : Obj} (h : C.hb.get? a = some o) : At C st a o := Or.inr h
section
variable {C : Cx} {lv : Lv} {nw nw' : Nw} {k : Nat} {it r : Addr}
theorem rangeN (n : Nat) : Builtin.Range.rangeSize 0 (n : Int) 1 = (n : Int) := by rw [rangeSize_one]; split <;> omega
abbrev itN (i n : Nat) : Obj := itR (i : Int) (n : Int) 1
theorem Ev_iterN {n : Nat} {t u v : Tok} {Q : Value → St → Prop} (hr : At C ⟨lv, nw⟩ r (rangeO 0 (n : Int) 1 t u v)) (hn : n < 2 ^ 60) (h : ∀ it, Q (.ref it) ⟨lv, (it, itN 0 n) :: nw⟩) : Ev C (pyIter (.ref r)) ⟨lv, nw⟩ Q := by
  refine Ev_iterR hr ?_ fun it => ?_
  · have e := rangeN n
    simp [Builtin.Range.small, Builtin.Range.rangeFitsLong] at e ⊢
    rw [e]
    omega
  · rw [rangeN]; exact h it
theorem Ev_nextN {i g : Nat} {Q : Option Value → St → Prop} (u : Upd1 it (itN i (g + 1)) (itN (i + 1) g) nw nw') (h : ∀ t, Q (some (.int (i : Int) t)) ⟨lv, nw'⟩) : Ev C (pyNext (.ref it)) ⟨lv, nw⟩ Q := by
  refine Ev_nextR (x := (i : Int)) (left := ((g + 1 : Nat) : Int)) (step := 1) ?_ (by omega) h
  rw [show (i : Int) + 1 = ((i + 1 : Nat) : Int) by omega, show ((g + 1 : Nat) : Int) - 1 = (g : Int) by omega]
  exact u
theorem Ev_endN {i : Nat} {Q : Option Value → St → Prop} (hR : Room k C.A) (hi : HasN it (itN i 0) nw) (hd : Del1 it nw nw') (h : Q none ⟨lv, nw'⟩) : Ev C (pyNext (.ref it)) ⟨lv, nw⟩ Q := Ev_endR hR hi hd (Int.le_refl 0) h
end
theorem ints_snoc {vs : List Value} {ns : List Int} (h : IntsAre vs ns) (n : Int) (t : Tok) : IntsAre (vs ++ [.int n t]) (ns ++ [n]) := h.append (.cons n t .nil)
end Mine
end
section
open PySem PySem.W PyProof.Rows PySem.Calls
namespace Mine
def b64L : List UInt8 := [65, 66, 67, 68, 69, 70, 71, 72, 73, 74, 75, 76, 77, 78, 79, 80, 81, 82, 83, 84, 85, 86, 87, 88, 89, 90, 97, 98, 99, 100, 101, 102, 103, 104, 105, 106, 107, 108, 109, 110, 111, 112, 113, 114, 115, 116, 117, 118, 119, 120, 121, 122, 48, 49, 50, 51, 52, 53, 54, 55, 56, 57, 43, 47]
theorem gu_B64 (P : Params) : nsIn (KF P) mainGlobals (Str.ofString "_B64") = some (some (.bytes b64L.toArray 545)) := by kernel_rfl
theorem FnA.clean {p : Program} {w : World} {k : Nat} {hb : Heap} {f : Value} {args : Args} {nw : Nw} {P : Value → Prop} (h : FnA p w k hb f args nw (fun v _ => P v)) : FnA p w k hb f args nw (fun v nw' => P v ∧ nw' = []) :=
  fun A h₁ g d tk os r kp ow => codeAny_mono (h A h₁ g d tk os r kp ow) fun r s' hr => by
    obtain ⟨v, nw', a, b, c, e, q⟩ := hr
    exact ⟨v, [], a, b, c, And.intro (fun p hp => nomatch hp) List.nodup_nil, And.intro q rfl⟩
section
variable {C : Cx} {st : St} {lv : Lv} {nw nw' : Nw}
theorem Ev_typeOf {v : Value} {T : String} {Q : Value → St → Prop} (hT : TyAt C st v T) (h : Q (.type T) st) (hn : (Value.type T == Value.type "builtin_function_or_method") = false := by decide +kernel) : Ev C (call (.type "type") [v]) st Q := fun s o =>
  call_type_of (hT.is o) hn ⟨st, o, h⟩
theorem Ev_isP {a b : Value} {Q : Value → St → Prop} (hp : plainIs a b = true) (h : Q (.bool (a == b)) st) : Ev C (compareOp .Is a b) st Q := by
  intro s o; with_reducible refine wpAny_is_plain hp ?_; exact ⟨st, o, h⟩
theorem Ev_isNotP {a b : Value} {Q : Value → St → Prop} (hp : plainIs a b = true) (h : Q (.bool (!(a == b))) st) : Ev C (compareOp .IsNot a b) st Q := by
  intro s o; with_reducible refine wpAny_isNot_plain hp ?_; exact ⟨st, o, h⟩
theorem Ev_isSame {a : Value} {Q : Value → St → Prop} (hp : plainIs a a = true) (h : Q (.bool true) st) : Ev C (compareOp .Is a a) st Q := by
  intro s o; with_reducible refine wpAny_is_self hp ?_; exact ⟨st, o, h⟩
theorem Ev_isOther {a b : Value} {Q : Value → St → Prop} (hp : plainIs a b = true) (hb : (a == b) = false) (h : Q (.bool false) st) : Ev C (compareOp .Is a b) st Q := Ev_isP hp (by rw [hb]; exact h)
theorem Ev_isNotOther {a b : Value} {Q : Value → St → Prop} (hp : plainIs a b = true) (hb : (a == b) = false) (h : Q (.bool true) st) : Ev C (compareOp .IsNot a b) st Q := Ev_isNotP hp (by rw [hb]; exact h)
theorem Ev_isNotSame {a : Value} {Q : Value → St → Prop} (hp : plainIs a a = true) (h : Q (.bool false) st) : Ev C (compareOp .IsNot a a) st Q := by
  intro s o; with_reducible refine wpAny_isNot_self hp ?_; exact ⟨st, o, h⟩
theorem bitAndN (a k : Nat) : Builtin.bitAnd (a : Int) (2 ^ k - 1) = ((a % 2 ^ k : Nat) : Int) := by
  rw [kbt_mask]; simp
theorem bitOrN (a b : Nat) : Builtin.bitOr (a : Int) (b : Int) = ((a ||| b : Nat) : Int) := by
  unfold Builtin.bitOr Builtin.bitAnd
  have h1 : ¬ (0 ≤ Builtin.bitNot (a : Int)) := by unfold Builtin.bitNot; omega
  have h2 : ¬ (0 ≤ Builtin.bitNot (b : Int)) := by unfold Builtin.bitNot; omega
  rw [decide_eq_false h1, decide_eq_false h2]
  have e : ∀ z : Int, Builtin.bitNot (Builtin.bitNot z) = z := by intro z; unfold Builtin.bitNot; omega
  simp only [e, Int.toNat_natCast]
theorem orShift (a b k : Nat) (h : b < 2 ^ k) : (a * 2 ^ k) ||| b = a * 2 ^ k + b := by
  have := Nat.shiftLeft_add_eq_or_of_lt h a
  rw [Nat.shiftLeft_eq] at this
  exact this.symm
theorem Ev_lshiftN {a b : Nat} {t u : Tok} {Q : Value → St → Prop} (hb : b ≤ 1000000) (ha : a < 2 ^ 64) (h : ∀ t, Q (.int ((a * 2 ^ b : Nat) : Int) t) st) : Ev C (binaryOp .LShift (.int a t) (.int b u)) st Q := by
  refine Ev_lshift (Int.natCast_nonneg _) (by omega) (by rw [Int.natAbs_natCast]; exact ha) fun t => ?_
  rw [Int.toNat_natCast]
  have := h t
  rw [Int.natCast_mul, Int.natCast_pow] at this
  exact this
theorem Ev_bitorN {a b k : Nat} {t u : Tok} {Q : Value → St → Prop} (hb : b < 2 ^ k) (h : ∀ t, Q (.int ((a * 2 ^ k + b : Nat) : Int) t) st) : Ev C (binaryOp .BitOr (.int ((a * 2 ^ k : Nat) : Int) t) (.int b u)) st Q :=
  Ev_bitor fun t => by rw [bitOrN, orShift a b k hb]; exact h t
theorem Ev_maskN {a : Nat} (k : Nat) {m : Int} {t u : Tok} {Q : Value → St → Prop} (hm : m = 2 ^ k - 1) (h : ∀ t, Q (.int ((a % 2 ^ k : Nat) : Int) t) st) : Ev C (binaryOp .BitAnd (.int a t) (.int m u)) st Q := by
  subst hm
  exact Ev_bitand fun t => by rw [bitAndN]; exact h t
end
end Mine
end
section
open PySem PySem.W PyProof.Rows PySem.Calls
set_option maxRecDepth 100000
namespace Mine
theorem md_get : typeLookup (.type "method_descriptor") "__get__" = pure (some (.builtin "method_descriptor.__get__")) := by rw [typeLookup_type, builtinLookup_eq_fast]; kernel_rfl
theorem md_set : typeLookup (.type "method_descriptor") "__set__" = pure none := by rw [typeLookup_type, builtinLookup_eq_fast]; kernel_rfl
theorem md_del : typeLookup (.type "method_descriptor") "__delete__" = pure none := by rw [typeLookup_type, builtinLookup_eq_fast]; kernel_rfl
theorem find_append {prog : Program} {w : World} {A : Around} {E : Value → Shared → Prop} {s : Shared} {a : Addr} {xs : Array Value} {k : Nat} {Q : Builtin.ObjectAttr.Found → Shared → Prop}
    (hx : s.heap.get? a = some { cls := .type "list", data := .seq xs k }) 
    (h : Q (.bind (.builtin "method_descriptor.__get__") (.builtin "list.append")) s) :
    wpAny (model prog w) A (Builtin.ObjectAttr.find (.ref a) (.type "list") "append") Q E s := by
  have hm : ∀ s : Shared, s.TypeIs (.builtin "list.append") "method_descriptor" := fun s => F.type_list_append
  unfold Builtin.ObjectAttr.find
  refine wpAny_bind (wpAny_of_eq F.slot_list_append.lookup ?_)
  unfold Builtin.ObjectAttr.getOf
  refine wpAny_bind (wpAny_specialOf (hm _) md_get ?_)
  unfold Builtin.ObjectAttr.dataDescriptor?
  refine wpAny_bind (wpAny_bind ?_)
  unfold Builtin.ObjectAttr.takesStores
  refine wpAny_bind (wpAny_specialOf (hm _) md_set ?_)
  dsimp only [Option.isSome]
  refine wpAny_ite ?_
  rw [if_neg (by decide)]
  refine wpAny_bind (wpAny_specialOf (hm _) md_del ?_)
  dsimp only [Option.isSome]
  refine wpAny_pure ?_
  rw [if_neg (by decide)]
  refine wpAny_pure ?_
  dsimp only
  unfold Builtin.ObjectAttr.ownThenClass Builtin.ObjectAttr.inOwnDict Builtin.ObjectAttr.ownDict
  dsimp only
  repeat (any_goals (first | assumption | wp_step))
theorem slot_md : Slot "method_descriptor" "__get__" "method_descriptor.__get__" :=
  .of (owner := "method_descriptor") (n := "__get__") (by rw [typeLookup_type, builtinLookup_eq_fast]; kernel_rfl) (by decide +kernel) (by decide +kernel) (by decide +kernel)
    (by first | exact .inl (by decide +kernel) | exact .inr (by decide +kernel)) (by rw [isSubtype_type]; kernel_rfl)
theorem entry_md : entryFor table "method_descriptor.__get__" = some Builtin.«method_descriptor.__get__» := entryFor_of_tree (by kernel_rfl)
theorem args_md (a b c : Value) : argsOk "method_descriptor.__get__" ⟨[a, b, c], []⟩ := by unfold argsOk; kernel_rfl
theorem sub_list_list : isSubtype (.type "list") (.type "list") = pure true := by rw [isSubtype_type]; kernel_rfl
abbrev bmO (a : Addr) : Obj := { cls := .type "builtin_function_or_method", data := .fields #[.builtin "list.append", .ref a] }
theorem md_call {prog : Program} {w : World} {A : Around} {E : Value → Shared → Prop} {s : Shared} {a : Addr} {xs : Array Value} {k : Nat} {Q : Value → Shared → Prop}
    (hx : s.heap.get? a = some { cls := .type "list", data := .seq xs k }) (h : Q (.ref s.heap.objs.size) { s with heap := s.heap.push (bmO a) }) :
    wpAny (model prog w) A (call (.builtin "method_descriptor.__get__") [.builtin "list.append", .ref a, .type "list"]) Q E s := by
  have hm : ∀ s : Shared, s.TypeIs (.builtin "list.append") "method_descriptor" := fun s => F.type_list_append
  refine wpAny_call_entry slot_md (hm _) entry_md ?_ (args_md _ _ _)
  unfold Builtin.«method_descriptor.__get__»
  refine wpAny_bind (wpAny_of_eq (a := (Value.builtin "list.append", some (.ref a), some (.type "list"))) (by kernel_rfl) ?_)
  dsimp only
  rw [if_neg (by decide +kernel)]
  refine wpAny_bind (Q := fun fin s' => ∃ v, fin = Fin.done (Flow.ret v) ∧ Q v s') ?_
  refine wpAny_bind ?_
  refine wpAny_of_eq (a := ((Str.ofString "append"), Value.type "list")) (by kernel_rfl) ?_
  refine wpAny_bind (wpAny_isInstance (⟨_, hx, rfl⟩ : s.TypeIs (.ref a) "list") sub_list_list ?_)
  rw [if_neg (by decide)]
  refine wpAny_pure (wpAny_bind ?_)
  unfold newFields
  refine wpAny_newObj_type (wpAny_pure ⟨_, rfl, h⟩) ?_
  show _ ≤ sizeLine + 2
  rw [sizeLine_eq]; simp
theorem ga_append {prog : Program} {w : World} {A : Around} {E : Value → Shared → Prop} {s : Shared} {a : Addr} {xs : Array Value} {k : Nat} {u : Tok} {Q : Value → Shared → Prop}
    (hx : s.heap.get? a = some { cls := .type "list", data := .seq xs k }) (h : Q (.ref s.heap.objs.size) { s with heap := s.heap.push (bmO a) }) :
    wpAny (model prog w) A (call (.builtin "list.__getattribute__") [.ref a, .str "append" u]) Q E s := by
  have hT : s.TypeIs (.ref a) "list" := ⟨_, hx, rfl⟩
  refine wpAny_call_entry F.slot_list_getattribute hT am_entry_list_getattribute ?_ (F.args_list_getattribute_2 _ _)
  unfold Builtin.«object.__getattribute__»
  refine wpAny_bind (wpAny_of_eq (a := (Value.ref a, [.str "append" u])) (by kernel_rfl) ?_)
  dsimp only
  refine wpAny_bind (wpAny_of_eq (a := (Str.ofString "append")) (by kernel_rfl) ?_)
  refine wpAny_bind (wpAny_typeOf hT ?_)
  refine wpAny_bind (find_append hx ?_)
  dsimp only
  unfold Builtin.ObjectAttr.bindTo
  dsimp only
  refine wpAny_bind (wpAny_holding (md_call hx ?_))
  exact wpAny_pure ⟨_, rfl, h⟩
theorem getattr_append {prog : Program} {w : World} {A : Around} {E : Value → Shared → Prop} {s : Shared} {a : Addr} {xs : Array Value} {k : Nat} {Q : Value → Shared → Prop}
    (hx : s.heap.get? a = some { cls := .type "list", data := .seq xs k })
    (h : ∀ tk, Q (.ref s.heap.objs.size) { s with heap := s.heap.push (bmO a), toks := tk }) :
    wpAny (model prog w) A (getAttr (.ref a) "append" true) Q E s := by
  have hT : ∀ tk', ({ s with toks := tk' } : Shared).TypeIs (.ref a) "list" := fun _ => ⟨_, hx, rfl⟩
  unfold getAttr
  refine wpAny_bind (wpAny_mkText ?_)
  unfold getAttrBy
  refine wpAny_holding (wpAny_bind (wpAny_typeOf (hT _) (wpAny_bind (wpAny_of_eq F.slot_list_getattribute.lookup ?_))))
  dsimp only
  rw [if_neg (by decide)]
  unfold getAttrByItsOwn
  refine wpAny_bind (wpAny_of_eq (a := none) rfl ?_)
  refine wpAny_bind (wpAny_attempt (wpAny_holding ?_))
  unfold callGetattribute
  rw [if_neg (by decide)]
  unfold boundAndCalled
  refine wpAny_bind (wpAny_of_eq (F.slot_list_getattribute.bind (.ref a)) ?_)
  refine ga_append hx ?_
  exact wpAny_pure (h _)
theorem sig_app : ∃ sig, Manifest.signature? "list.append" = some sig ∧ ∀ (l x : Value), Bind.checkArgs "list.append" { machinery := sig.machinery, full := toString (Bind.lastOf "list") ++ toString "." ++ toString (Bind.lastOf "list.append"), short := sig.short, receiver := sig.receiver, params := sig.params } ⟨[l, x], []⟩ = pure () := by
  refine ⟨(Manifest.sig_list.lookup "append").getD ⟨.hand, "", "", .none, []⟩, ?_, fun l x => ?_⟩
  · rw [signature?_of (id := "list.append") (n := ['d', 'n', 'e', 'p', 'p', 'a']) (o := ['t', 's', 'i', 'l']) (by kernel_rfl) F.owner_list]
    kernel_rfl
  · kernel_rfl
theorem sub_list_module : isSubtype (.type "list") (.type "module") = pure false := by rw [isSubtype_type]; kernel_rfl
theorem plain_list_append : plainId "list.append" = true := by decide +kernel
theorem call_bm {prog : Program} {w : World} {A : Around} {E : Value → Shared → Prop} {s : Shared} {l q : Addr} {x : Value} {Q : Value → Shared → Prop}
    (hq : s.heap.get? q = some (bmO l)) {xs : Array Value} {k : Nat} (hx : s.heap.get? l = some { cls := .type "list", data := .seq xs k })
    (h : wpAny (model prog w) A.in1 (Builtin.«list.append» ⟨[.ref l, x], []⟩) (fun fin s' => ∃ v, fin = .done (.ret v) ∧ Q v s') E s) :
    wpAny (model prog w) A (call (.ref q) [x]) Q E s := by
  have hl : s.TypeIs (.ref l) "list" := ⟨_, hx, rfl⟩
  refine wpAny_call (codeAny_of_tree ?_)
  show wpAny _ A.in1 (callAny (.ref q) ⟨[x], []⟩) _ _ _
  unfold callAny
  refine wpAny_bind (wpAny_load hq ?_)
  dsimp only
  simp only [show (Value.type "builtin_function_or_method" == Value.type "method" || Value.type "builtin_function_or_method" == Value.type "builtin_function_or_method" || Value.type "builtin_function_or_method" == Value.type "method-wrapper") = true by decide, if_true]
  refine KFB.if_so (by decide) ?_
  refine wpAny_bind ?_
  obtain ⟨sig, e1, e2⟩ := sig_app
  unfold checkBoundCall
  rw [e1, show builtinKind "list.append" = some .method by decide +kernel]
  show wpAny _ A.in1 (if _ then _ else _) _ _ _
  rw [if_neg (by decide)]
  refine wpAny_bind (wpAny_isInstance hl sub_list_module ?_)
  rw [if_neg (by decide +kernel)]
  refine wpAny_bind (m := isType (.ref l)) (Q := _) (wpAny_mono (Q := fun b s' => b = false ∧ s' = s) ?_ ?_ fun _ _ f => f)
  · unfold isType
    repeat (any_goals (first | assumption | rfl | wp_step))
    exact ⟨rfl, rfl⟩
  · rintro _ _ ⟨rfl, rfl⟩
    refine KFB.if_not rfl ?_
    refine wpAny_bind (m := typeOf (.ref l)) (wpAny_typeOf hl ?_)
    refine wpAny_of_eq (a := ()) (e2 _ _) ?_
    refine wpAny_bind (wpAny_pure (wpAny_pure ?_))
    refine ⟨plainId_quiet plain_list_append _, codeAny_builtin entry_list_append ?_⟩
    rw [Around.under_plainId plain_list_append _]
    refine wpAny_mono h (fun fin s' hf => ?_) fun _ _ e => e
    obtain ⟨v, rfl, hv⟩ := hf
    exact hv
section
variable {C : Cx} {st : St} {lv : Lv} {nw nw' : Nw}
theorem ty_list' {l : Addr} {s : Shared} {xs : List Value} {n : Nat} (o : Own C st s) (h : At C st l (listO xs n)) : s.heap.get? l = some { cls := .type "list", data := .seq xs.toArray n } := o.at h
theorem Ev_append_bm {q l : Addr} {xs : List Value} {n : Nat} {x : Value} {Q : Value → St → Prop} (hq : At C ⟨lv, nw⟩ q (bmO l)) (u : Upd1 l (listO xs n) (listO (xs ++ [x]) (n + 1)) nw nw') (hz : xs.length ≤ sizeLine) (h : Q .none ⟨lv, nw'⟩) :
    Ev C (call (.ref q) [x]) ⟨lv, nw⟩ Q := fun s o => by
  have ho := (o.N _ u.mem).1
  refine call_bm (o.at hq) ho ?_
  show wpAny _ _ (updateSeq l (·.push x) >>= fun _ => ret .none) _ _ s
  have e : Obj.mapSeq (·.push x) (listO xs n) = listO (xs ++ [x]) (n + 1) := by simp [Obj.mapSeq, listO]
  have hg := Heap.get?_update_self (Obj.mapSeq (·.push x)) ho (by rw [e]; rfl)
  rw [e] at hg
  refine wpAny_bind (wpAny_updateSeq ho rfl ?_ (by simpa using hz) (by simp; omega))
  exact wpAny_pure ⟨.none, rfl, _, o.upd u (Heap.SameBut.update ..) hg, h⟩
theorem Ev_getAppend {l : Addr} {xs : List Value} {n : Nat} {Q : Value → St → Prop} (hl : At C ⟨lv, nw⟩ l (listO xs n)) (h : ∀ q, Q (.ref q) ⟨lv, (q, bmO l) :: nw⟩) :
    Ev C (getAttr (.ref l) "append" true) ⟨lv, nw⟩ Q := fun s o => by
  refine getattr_append (o.at hl) fun tk => ⟨_, (o.alloc (bmO l) rfl).tok tk, h _⟩
theorem Ev_AttrName {n attr : Str} {np pos : Pos} {Q : Value → St → Prop} (h : Ev C (eval (.Name n np) C.env) st (fun o st1 => Ev C (getAttr o attr true) st1 Q)) : Ev C (eval (.Attribute (.Name n np) attr pos) C.env) st Q := fun s o => by
  refine Attribute_name (wpAny_mono (h s o) (fun v s1 h1 => ?_) fun _ _ f => f)
  obtain ⟨st1, o1, h1⟩ := h1
  exact h1 s1 o1
theorem callee_bmO {q l : Addr} (h : At C st q (bmO l)) : Callee C st (.ref q) := callee_bm h rfl rfl
end
end Mine
end
section
open PySem PySem.W PyProof.Rows PySem.Calls
set_option maxRecDepth 100000
namespace Mine
noncomputable def mapEs (P : Params) : Array DictEntry := match (KF P).lookup 52 with | some ⟨_, _, .dict es _, _⟩ => es | _ => #[]
theorem map_obj (P : Params) : ∃ o ep, (KF P).lookup 52 = some o ∧ o.ExactDict ∧ o.data = .dict (mapEs P) ep := by
  refine ⟨_, _, rfl, ?_, rfl⟩
  exact ⟨rfl, rfl, rfl⟩
def alphaL : List Nat := b64L.map (·.toNat)
def escC (c : Nat) : List Nat := if c = 43 then [92, 43] else [c]
theorem map_keys (P : Params) (prog : Program) (w : World) : KeysOf (intKind prog w) (mapEs P) := by
  have h : (mapEs P).toList.all (fun e => match e.key with | .int j _ => e.hash == hashInt j | _ => false) = true := by kernel_rfl
  intro e he
  have := List.all_eq_true.mp h e (by simpa using he)
  split at this
  · rename_i j t hk
    exact ⟨j, by rw [hk]; simp [intKind, Value.isInt], by simpa [intKind] using this⟩
  · cases this
theorem map_miss (P : Params) : ∀ c ∈ alphaL, c ≠ 43 → findBy Value.isInt (mapEs P) (c : Int) = none := by
  have h : alphaL.all (fun c => c == 43 || (findBy Value.isInt (mapEs P) (c : Int)).isNone) = true := by kernel_rfl
  intro c hc hne
  have := List.all_eq_true.mp h c hc
  simpa [hne] using this
theorem map_hit (P : Params) : ∃ t, findBy Value.isInt (mapEs P) 43 = some (.str (S [92, 43]) t) := by
  have h : (match findBy Value.isInt (mapEs P) 43 with | some (.str x _) => x.cps.toList == [92, 43] | _ => false) = true := by kernel_rfl
  split at h
  · rename_i x t e
    refine ⟨t, ?_⟩
    rw [e]
    have : x.cps.toList = [92, 43] := by simpa using h
    rw [S_eq x, this]
  · cases h
section
variable {prog : Program} {w : World} {A : Around} {E : Value → Shared → Prop} {s : Shared}
theorem mapOf {h : Heap} (X : (KF w.params).In h) : h.MapOf (intKind prog w) 52 (fun k => findBy Value.isInt (mapEs w.params) k) := by
  obtain ⟨o, ep, ho, he, hd⟩ := map_obj w.params
  exact ⟨o, _, ep, X _ _ ho, he, hd, map_keys _ _ _, fun k => rfl⟩
theorem intIs (k : Int) (t : Tok) : (intKind prog w).is k (.int k t) = true := by simp [intKind, Value.isInt]
theorem sub_key_lookup : isSubtype (.type "KeyError") (.type "LookupError") = pure true := by rw [isSubtype_type]; kernel_rfl
theorem tl_hit {Q : Builtin.Str.Mapped → Shared → Prop} (X : (KF w.params).In s.heap) (h : ∀ tk, Q (.text (S [92, 43])) { s with toks := tk }) : wpAny (model prog w) A (Builtin.Str.tableLookup (.ref 52) 43) Q E s := by
  unfold Builtin.Str.tableLookup
  refine wpAny_bind (wpAny_attempt ?_)
  refine wpAny_bind (wpAny_mkInt ?_)
  have hm : ({ s with toks := s.toks + 1 } : Shared).heap.MapOf (intKind prog w) 52 (fun k => findBy Value.isInt (mapEs w.params) k) := mapOf X
  obtain ⟨t, ht⟩ := map_hit w.params
  refine wpAny_getItem_slot hm.typeIs (by decide) F.slot_dict_getitem (call_meetsIn F.slot_dict_getitem hm.typeIs F.entry_dict_getitem (F.args_dict_getitem_2 _ _) (meets_dict_getitem (intKind prog w) 52 (intIs _ _)) ?_)
  refine ⟨_, _, hm, ht, ?_⟩
  show wpAny _ _ _ _ _ _
  dsimp only
  refine wpAny_bind (wpAny_of_eq (a := none) rfl ?_)
  dsimp only
  refine wpAny_bind (wpAny_of_eq (a := some (S [92, 43])) rfl ?_)
  exact wpAny_pure (h _)
theorem tl_miss {c : Nat} {Q : Builtin.Str.Mapped → Shared → Prop} (X : (KF w.params).In s.heap) (hA : A.handled = none) (hc : c ∈ alphaL) (hne : c ≠ 43)
    (h : ∀ h' tk, (∀ b o, s.heap.get? b = some o → h'.get? b = some o) → Q .keep { s with heap := h', toks := tk }) : wpAny (model prog w) A (Builtin.Str.tableLookup (.ref 52) c) Q E s := by
  unfold Builtin.Str.tableLookup
  refine wpAny_bind (wpAny_attempt ?_)
  refine wpAny_bind (wpAny_mkInt ?_)
  have hm : ({ s with toks := s.toks + 1 } : Shared).heap.MapOf (intKind prog w) 52 (fun k => findBy Value.isInt (mapEs w.params) k) := mapOf X
  refine wpAny_getItem_slot hm.typeIs (by decide) F.slot_dict_getitem (call_meetsIn F.slot_dict_getitem hm.typeIs F.entry_dict_getitem (F.args_dict_getitem_2 _ _) (meets_dict_getitem_missing (intKind prog w) 52 (intIs _ _) (by decide +kernel)) ?_)
  refine ⟨hA, _, hm, map_miss w.params c hc hne, fun h' e hx => ?_⟩
  show wpAny _ _ _ _ _ _
  dsimp only
  obtain ⟨ob, t, ho, hcl, _⟩ := hx.there
  refine wpAny_bind (wpAny_isInstance ⟨_, ho, hcl⟩ sub_key_lookup ?_)
  rw [if_pos rfl]
  exact wpAny_bind (wpAny_rule (wpAny_pure (h _ _ hx.keeps)))
theorem tr_body {c : Nat} {t : Tok} {Q : Fin → Shared → Prop} (X : (KF w.params).In s.heap) (hA : A.handled = none) (hc : c ∈ alphaL)
    (h : ∀ h' tk t', (∀ b o, s.heap.get? b = some o → h'.get? b = some o) → Q (.done (.ret (.str (S (escC c)) t'))) { s with heap := h', toks := tk }) : wpAny (model prog w) A (Builtin.«str.translate» ⟨[.str (S [c]) t, .ref 52], []⟩) Q E s := by
  have hlt : c < 128 := by
    have : alphaL.all (· < 128) = true := by decide +kernel
    simpa using List.all_eq_true.mp this c hc
  unfold Builtin.«str.translate»
  refine wpAny_bind (wpAny_of_eq (a := (Value.str (S [c]) t, S [c], Value.ref 52)) (by kernel_rfl) ?_)
  dsimp only
  rw [if_neg (by simp [Str.length])]
  rw [← Array.forIn_toList]
  show wpAny _ _ (forIn [c] _ _ >>= _) _ _ _
  rw [List.forIn_cons]
  refine wpAny_bind (wpAny_bind ?_)
  dsimp only
  rw [if_neg (by decide), if_pos (by simp [hlt])]
  dsimp only [List.lookup]
  refine wpAny_bind ?_
  by_cases h43 : c = 43
  · subst h43
    refine tl_hit X fun tk => ?_
    show wpAny _ _ (rule _ >>= _) _ _ _
    refine wpAny_bind (wpAny_rule ?_)
    rw [if_neg (by decide)]
    refine wpAny_bind (tl_hit X fun tk => ?_)
    dsimp only
    refine wpAny_pure ?_
    dsimp only
    rw [List.forIn_nil]
    refine wpAny_pure ?_
    dsimp only
    rw [if_neg (by decide)]
    refine wpAny_bind (wpAny_mkStr (wpAny_pure ?_) (by decide))
    exact h _ _ _ fun _ _ e => e
  · refine tl_miss X hA hc h43 fun h' tk hk => ?_
    dsimp only
    refine wpAny_bind (wpAny_pure ?_)
    dsimp only
    refine wpAny_pure ?_
    dsimp only
    rw [List.forIn_nil]
    refine wpAny_pure ?_
    dsimp only
    rw [if_neg (by decide)]
    refine wpAny_bind (wpAny_mkStr (wpAny_pure ?_) (by show (1 : Nat) ≤ _; rw [sizeLine_eq]; omega))
    have := h h' (tk + 1) tk hk
    unfold escC at this
    rw [if_neg h43] at this
    exact this
end
section
variable {C : Cx} {st : St}
theorem Ev_translate1 {k : Nat} (hC : Ok k C) {c : Nat} {t : Tok} {Q : Value → St → Prop} (hc : c ∈ alphaL) (h : ∀ t, Q (.str (S (escC c)) t) st) : Ev C (call (.builtin "str.translate") [.str (S [c]) t, .ref 52]) st Q := fun s o => by
  refine wpAny_call_entry F.slot_str_translate (typeIs_str _ _ _) F.entry_str_translate ?_ (F.args_str_translate_2 _ _)
  exact tr_body (hC.B.K.keeps o.F.keep) hC.R.hd hc fun h' tk t' hk => ⟨_, rfl, st, o.kept' hk tk, h t'⟩
end
end Mine
end
section
open PySem PySem.W PyProof.Rows PySem.Calls
set_option maxRecDepth 100000
namespace Mine
theorem ob_mro : mroOf (.type "object") = pure [.type "object"] := by rw [mroOf_type]; kernel_rfl
theorem ob_new : typeLookup (.type "object") "__new__" = pure (some (.builtin "object.__new__")) := by rw [typeLookup_type, builtinLookup_eq_fast]; kernel_rfl
theorem ob_slot : Slot "object" "__init__" "object.__init__" :=
  .of (owner := "object") (n := "__init__") (by rw [typeLookup_type, builtinLookup_eq_fast]; kernel_rfl) (by decide +kernel) (by decide +kernel) (by decide +kernel)
    (by first | exact .inl (by decide +kernel) | exact .inr (by decide +kernel)) (by rw [isSubtype_type]; kernel_rfl)
theorem ob_called : TypeCalled "object" "object.__new__" "object.__init__" :=
  ⟨by decide +kernel, by decide +kernel, ⟨_, _, ob_mro⟩, madeBy_type ob_mro ob_new (by decide +kernel), by decide +kernel, by rw [isSubtype_type]; kernel_rfl, ob_slot⟩
theorem ob_typeCall : checkTypeCall "object" ⟨[], []⟩ = pure () := by kernel_rfl
theorem ob_newCall : checkBuiltinCall "object.__new__" ⟨[.type "object"], []⟩ = pure () := by kernel_rfl
theorem ob_plain : plainId "object.__new__" = true := by decide +kernel
theorem ob_made : Bind.madeHere "object.__new__" (.type "object") = pure () := by kernel_rfl
abbrev obO : Obj := { cls := .type "object", data := .plain }
section
variable {prog : Program} {w : World} {A : Around} {E : Value → Shared → Prop} {s : Shared}
theorem ob_code {Q : Value → Shared → Prop} (h : Q (.ref s.heap.objs.size) { s with heap := s.heap.push obO }) :
    codeAny (model prog w) A (.call (.builtin "object.__new__") ⟨[.type "object"], []⟩) (wants Q E) s := by
  refine codeAny_of_tree ?_
  show wpAny _ A.in1 (do checkBuiltinCall "object.__new__" ⟨[.type "object"], []⟩; again (.builtin "object.__new__" ⟨[.type "object"], []⟩)) _ _ s
  refine wpAny_bind (wpAny_of_eq ob_newCall (wpAny_pure ⟨plainId_quiet ob_plain _, codeAny_builtin PySem.F.entry_object_new ?_⟩))
  rw [Around.under_plainId ob_plain _]
  unfold Builtin.«object.__new__»
  dsimp only
  refine wpAny_bind (wpAny_of_eq (a := true) rfl ?_)
  rw [if_neg (by decide)]
  rw [if_neg (by decide +kernel)]
  refine wpAny_bind (wpAny_of_eq ob_made ?_)
  rw [if_neg (by decide)]
  rw [if_neg (by decide +kernel)]
  refine wpAny_bind (wpAny_pure (wpAny_bind (wpAny_newObj_type ?_ ?_)))
  · rw [if_neg (by decide +kernel)]
    exact wpAny_pure h
  · first | trivial | size_fits
theorem ob_call {Q : Value → Shared → Prop} (h : Q (.ref s.heap.objs.size) { s with heap := s.heap.push obO }) : wpAny (model prog w) A (call (.type "object") []) Q E s := by
  refine callType_codes (Q₁ := fun obj s₁ => s₁.TypeIs obj "object" ∧ Q obj s₁) ob_called ob_typeCall PySem.F.entry_object_init (ob_code ⟨⟨obO, Heap.get?_push_size _ rfl, rfl⟩, h⟩) fun obj s₁ h₁ => ⟨h₁.1, PySem.F.args_object_init_1 obj, ?_⟩
  unfold Builtin.«object.__init__»
  dsimp only
  rw [if_neg (by decide)]
  exact wpAny_pure ⟨rfl, h₁.2⟩
end
section
variable {C : Cx} {st : St} {lv : Lv} {nw : Nw}
theorem Ev_object {Q : Value → St → Prop} (h : ∀ a, Q (.ref a) ⟨lv, (a, obO) :: nw⟩) : Ev C (call (.type "object") []) ⟨lv, nw⟩ Q := fun s o => ob_call ⟨_, o.alloc obO rfl, h _⟩
theorem Ev_isiStr {x : Str} {t : Tok} {Q : Value → St → Prop} (h : Q (.bool true) st) : Ev C (call (.builtin "isinstance") [.str x t, .type "str"]) st Q := fun s o => IsiPair.str_str ⟨st, o, h⟩
theorem Ev_isNotRef {x : Addr} {Q : Value → St → Prop} (h : Q (.bool false) st) : Ev C (compareOp .IsNot (.ref x) (.ref x)) st Q := fun s o => wpAny_isNot_ref_self ⟨st, o, h⟩
theorem Ev_isRef {x : Addr} {Q : Value → St → Prop} (h : Q (.bool true) st) : Ev C (compareOp .Is (.ref x) (.ref x)) st Q := fun s o => wpAny_is_ref_self ⟨st, o, h⟩
end
end Mine
end
section
open PySem PySem.W PyProof.Rows PySem.Calls
set_option maxRecDepth 100000
namespace Mine
abbrev tupO (xs : List Value) : Obj := { cls := .type "tuple", data := .seq xs.toArray }
theorem env_sc {env : Env} {sc : Scope} (h : env.scope = sc) : env = { env with scope := sc } := by subst h; rfl
section
variable {C : Cx} {st : St} {lv : Lv} {nw nw' : Nw} {k : Nat}
theorem Own.tup {t : Addr} {xs : List Value} {s : Shared} (o : Own C st s) (h : At C st t (tupO xs)) : IsTup s.heap t xs.toArray := ⟨_, o.at h, rfl, 0, rfl⟩
theorem Ev_unpack {t : Addr} {xs : List Value} {n : Nat} {Q : List Value → St → Prop} (hR : C.A.handled = none) (ht : At C ⟨lv, nw⟩ t (tupO xs)) (hn : xs.length = n) (h : Q xs ⟨lv, nw⟩) : Ev C (unpackItems (.ref t) n none) ⟨lv, nw⟩ Q := fun s o => by
  refine unpackItemsN_ o.F o.N (o.tup ht) hR (by simp [hn]) fun h' F' N' => ⟨_, o.ofFN F' N' rfl s.toks, ?_⟩
  exact h
def Stores (C : Cx) (Q : St → Prop) : List Str → List Value → St → Prop
  | n :: ns, v :: vs, st => Ev C (storeName C.env n v) st (fun _ st1 => Stores C Q ns vs st1)
  | _, _, st => Q st
theorem Stores_nil {Q : St → Prop} (h : Q st) : Stores C Q [] [] st := h
theorem Stores_cons {Q : St → Prop} {n : Str} {ns : List Str} {v : Value} {vs : List Value} (h : Ev C (storeName C.env n v) st (fun _ st1 => Stores C Q ns vs st1)) : Stores C Q (n :: ns) (v :: vs) st := h
theorem Ev_aio {Q : Unit → St → Prop} : ∀ (ns : List Str) (vs : List Value) {st : St}, Stores C (Q ()) ns vs st → Ev C (assignInOrder (ns.map fun n => bindName C.env n) vs) st Q
  | [], [], st, h => Ev_pure h
  | [], v :: vs, st, h => Ev_pure h
  | n :: ns, [], st, h => Ev_pure h
  | n :: ns, v :: vs, st, h => Ev_bind (Ev_holding (Ev_bindName (Ev_mono h fun _ st1 h1 => Ev_aio ns vs h1)))
theorem Stores.mono {Q Q' : St → Prop} (hq : ∀ st, Q st → Q' st) : ∀ (ns : List Str) (vs : List Value) {st : St}, Stores C Q ns vs st → Stores C Q' ns vs st
  | [], [], st, h => hq st h
  | [], v :: vs, st, h => hq st h
  | n :: ns, [], st, h => hq st h
  | n :: ns, v :: vs, st, h => Ev_mono h fun _ st1 h1 => Stores.mono hq ns vs h1
theorem Ev_AssignSw {ts : List Expr} {tk : Nat} {p pos : Pos} {e : Expr} {names : List Str} {Q : Flow → St → Prop} (hR : C.A.handled = none)
    (h : Ev C (eval e C.env) st (fun v st1 => ∃ t xs, v = .ref t ∧ At C st1 t (tupO xs) ∧ xs.length = names.length ∧ Stores C (Q .next) names.reverse xs.reverse st1))
    (hs : swapsWith e (some (.Tuple ts tk p)) pos.line C.env = pure false) (hw : swappedStores [.Tuple ts tk p] e C.env = pure (some names)) : Ev C (exec (.Assign [.Tuple ts tk p] e pos) C.env) st Q := by
  rw [arm_exec_Assign]
  refine Ev_bind (Ev_standAt (Ev_bind ?_))
  show Ev C (swapsWith e (some (.Tuple ts tk p)) pos.line C.env) st _
  refine Ev_of_eq hs ?_
  show Ev C (do let v ← eval e C.env; assignStores C.env v (← swappedStores [.Tuple ts tk p] e C.env) _) st Q
  refine Ev_bindM h fun v s1 h1 => Ev_bind (Ev_of_eq hw ?_)
  obtain ⟨t, xs, rfl, ht, hn, h1⟩ := h1
  show Ev C (do rule "assign.swapped-stores"; let items ← unpackItems (.ref t) names.length none; assignInOrder (names.reverse.map fun n => bindName C.env n) items.reverse; pure .next) s1 Q
  refine Ev_bind (Ev_rule (Ev_bind (Ev_unpack (lv := s1.lv) (nw := s1.nw) hR ht hn ?_)))
  refine Ev_bind ?_
  exact Ev_aio (C := C) (Q := fun _ st1 => Ev C (pure Flow.next) st1 Q) names.reverse xs.reverse (Stores.mono (fun st1 h2 => Ev_pure h2) _ _ h1)
theorem Ev_aio_nil {Q : Unit → St → Prop} (h : Q () st) : Ev C (assignInOrder ((assignEach [] C.env).map (·.2)) []) st Q := Ev_pure h
theorem Ev_aio_cons {e : Expr} {es : List Expr} {v : Value} {vs : List Value} {Q : Unit → St → Prop} (h : Ev C (assign e C.env v) st (fun _ st1 => Ev C (assignInOrder ((assignEach es C.env).map (·.2)) vs) st1 Q))
    (he : assignEach (e :: es) C.env = (false, assign e C.env) :: assignEach es C.env) : Ev C (assignInOrder ((assignEach (e :: es) C.env).map (·.2)) (v :: vs)) st Q := by
  rw [he]
  exact Ev_bind (Ev_holding h)
theorem Ev_assignTup {es : List Expr} {tk : Nat} {p : Pos} {t : Addr} {xs : List Value} {Q : Unit → St → Prop} (hR : C.A.handled = none) (ht : At C st t (tupO xs)) (hn : (assignEach es C.env).length = xs.length) (hst : (assignEach es C.env).findIdx? (·.1) = none)
    (h : Ev C (assignInOrder ((assignEach es C.env).map (·.2)) xs) st Q) : Ev C (assign (.Tuple es tk p) C.env (.ref t)) st Q := fun s o => by
  refine unpackN_ o.F o.N (o.tup ht) hR (by simp [hn]) hst fun h' F' N' => ?_
  exact h _ (Own.ofFN (lv := st.lv) (nw := st.nw) o F' N' rfl s.toks)
theorem Ev_AssignTu {ts : List Expr} {tk : Nat} {p pos : Pos} {e : Expr} {Q : Flow → St → Prop}
    (h : Ev C (eval e C.env) st (fun v st1 => Ev C (assign (.Tuple ts tk p) C.env v) st1 (fun _ st2 => Q .next st2)))
    (hs : swapsWith e (some (.Tuple ts tk p)) pos.line C.env = pure false) (hw : swappedStores [.Tuple ts tk p] e C.env = pure none) : Ev C (exec (.Assign [.Tuple ts tk p] e pos) C.env) st Q := by
  rw [arm_exec_Assign]
  refine Ev_bind (Ev_standAt (Ev_bind ?_))
  show Ev C (swapsWith e (some (.Tuple ts tk p)) pos.line C.env) st _
  refine Ev_of_eq hs ?_
  show Ev C (do let v ← eval e C.env; assignStores C.env v (← swappedStores [.Tuple ts tk p] e C.env) _) st Q
  refine Ev_bindM h fun v s1 h1 => Ev_bind (Ev_of_eq hw ?_)
  show Ev C (do assignAll v [assign (.Tuple ts tk p) C.env]; pure Flow.next) s1 Q
  refine Ev_bind ?_
  show Ev C (assign (.Tuple ts tk p) C.env v) s1 _
  exact Ev_mono h1 fun _ s2 h2 => Ev_pure h2
end
end Mine
end
section
open PySem PySem.W PyProof.Rows PySem.Calls
set_option maxRecDepth 100000
namespace Mine
section
variable {C : Cx} {st : St} {lv : Lv} {nw nw' : Nw} {k : Nat} {s : Shared}
theorem Own.extUpd {h' : Heap} {a : Addr} {ob ob' : Obj} (o : Own C ⟨lv, nw⟩ s) (u : Upd1 a ob ob' nw nw') (hs : Heap.ExtBut a s.heap h') (hg : h'.get? a = some ob') (t : Nat) : Own C ⟨lv, nw'⟩ { s with heap := h', toks := t } := by
  have ha := o.N _ u.mem
  refine ⟨by rw [o.eq], ⟨o.F.ns.extBut hs (Ne.symm ha.2.1), fun b x e => hs b x (fun q => ?_) (o.F.keep b x e), o.F.above⟩, fun p hp => ?_, ?_, o.ln⟩
  · rw [q, ha.2.2] at e; cases e
  · rcases u.apart o.nd p hp with rfl | ⟨h1, h2⟩
    · exact ⟨hg, ha.2.1, ha.2.2⟩
    · exact ⟨hs _ _ h2 (o.N p h1).1, (o.N p h1).2⟩
  · show (nw'.map _).Nodup
    rw [u.keys]; exact o.nd
def TabSt (pos : Pos) (ps : Array Value) : Prop := ps = #[] ∨ ∃ c : Addr, ps = #[rawInt pos.line, rawInt pos.col, .ref c]
structure FnO (o : Obj) : Prop where
  c : o.cls = .type "function"
  d : o.dict = none
  f : o.isFreed = false
theorem codeHd68 {P : Params} : codeHdIn (KF P) 68 64 = true := by kernel_rfl
theorem Ev_Lambda {params : Arguments} {body : Expr} {scope : Scope} {pos : Pos} {ps : Array Value} {g : Array Value → Nw} {Q : Value → St → Prop} (hC : Ok k C) (hcode : C.env.code = .ref 68) (hd : defaultsOf params C.env = ([], [])) (hcl : closureFor scope C.env = pure [])
    (hu : ∀ ps', Upd1 64 (tabObj ps) (tabObj ps') (g ps) (g ps')) (hps : TabSt pos ps) (h : ∀ f fo ps', TabSt pos ps' → FnO fo → Q (.ref f) ⟨lv, (f, fo) :: g ps'⟩) : Ev C (eval (.Lambda params body scope pos) C.env) ⟨lv, g ps⟩ Q := fun s o => by
  refine kla_eval hd ?_
  obtain ⟨p, loose, mean, mg, mb, T⟩ := hC.B.T
  have hm := o.N _ (hu ps).mem
  have hgs := T.g.keeps o.F.keep
  obtain ⟨bm, ob, b1, b2, b3, b4, b5, b6⟩ := T.bmain
  have hbP : bm ≠ 64 := fun q => by rw [q, hm.2.2] at b3; cases b3
  have hgP : mainGlobals ≠ 64 := by decide
  have hbG : bm ≠ mainGlobals := fun q => by
    obtain ⟨o, es, ep, e, hd, _⟩ := T.g
    rw [q, e] at b3; cases b3; rw [hd] at b6; cases b6
  have HB : s.heap.BuiltinsAt mg 64 := ⟨bm, ob, b1, b2, hbG, hbP, o.F.keep _ _ b3, b4, b5, b6⟩
  have HC : CodeHd s.heap 68 64 := (codeHd_of_K hC.B.K codeHd68).keeps o.F.keep
  rcases hps with rfl | ⟨c, rfl⟩
  · refine kla_makeFunction (mg := mg) hcl hC.hg hgs hcode HC hm.1 trivial rfl hgP HB fun c' ctv h' tk hx hge hlt hrec htb => ?_
    have o2 := o.extUpd (hu _) hx htb tk
    exact ⟨_, o2.alloc _ rfl, h _ _ _ (Or.inr ⟨c', rfl⟩) ⟨rfl, rfl, rfl⟩⟩
  · refine kla_makeFunctionHit (mg := mg) hcl hC.hg hgs hcode HC hm.1 ?_ (cv := .ref c) ?_ HB fun ctv h' tk hk hsz => ?_
    · trivial
    · show (if ((pos.line : Int) == pos.line && (pos.col : Int) == pos.col) = true then some (Value.ref c) else _) = _
      simp
    · have o2 := o.kept hk tk
      exact ⟨_, o2.alloc _ rfl, h _ _ _ (Or.inr ⟨c, rfl⟩) ⟨rfl, rfl, rfl⟩⟩
end
end Mine
end
section
open PySem PySem.W PyProof.Rows PySem.Calls
set_option maxRecDepth 100000
namespace Mine
theorem re_plain : PlainAttrs "re.Pattern" :=
  ⟨⟨"object.__getattribute__", by rw [typeLookup_type, builtinLookup_eq_fast]; kernel_rfl, by decide +kernel⟩, by rw [typeLookup_type, builtinLookup_eq_fast]; kernel_rfl⟩
theorem re_slot : Slot "re.Pattern" "sub" "re.Pattern.sub" :=
  .of (owner := "re.Pattern") (n := "sub") (by rw [typeLookup_type, builtinLookup_eq_fast]; kernel_rfl) (by decide +kernel) (by decide +kernel) (by decide +kernel)
    (by first | exact .inl (by decide +kernel) | exact .inr (by decide +kernel)) (by rw [isSubtype_type]; kernel_rfl)
theorem re_type : typeOf (.builtin "re.Pattern.sub") = pure (.type "method_descriptor") := by show builtinType _ = _; rw [builtinType_eq_fast]; kernel_rfl
theorem re_entry : entryFor table "re.Pattern.sub" = some Builtin.«re.Pattern.sub» := entryFor_of_tree (by kernel_rfl)
theorem re_entryL : entryFor table "re.Pattern.sub.loop" = some Builtin.«re.Pattern.sub.loop» := entryFor_of_tree (by kernel_rfl)
theorem re_plainL : plainId "re.Pattern.sub.loop" = true := by decide +kernel
theorem re_args (a b c : Value) : argsOk "re.Pattern.sub" ⟨[a, b, c], []⟩ := by unfold argsOk; kernel_rfl
def reCode : Array Nat := #[14, 14, 4, 1, 1, 9, 0, 64, 0, 1342177280, 0, 0, 0, 0, 0, 17, 0, 13, 11, 9, 0, 64, 0, 1342177280, 0, 0, 0, 0, 0, 17, 1, 1]
def setOf (k n : Nat) : List Nat := (alphaL.drop k).take n
noncomputable def reK (P : Params) : Frag := KF P
theorem re_whole (P : Params) (S0 : Setting) (x : List Nat) (t : Tok) : peek (KF P) S0 (Builtin.Re.reWholeTarget (.ref 43) (.str (S x) t)) = some ⟨.ref 43, .str (S x) t, reCode, x.toArray, 0, 1, 0, x.length⟩ := by
  kernel_rfl
theorem re_none16 (P : Params) (S0 : Setting) (v : Value) : (List.range 4).all (fun j => (peek (KF P) S0 (Builtin.Re.reNextFound ⟨.ref 43, v, reCode, (setOf (16 * j) 16).toArray, 0, 1, 0, 16⟩ 0 false)).elim false Option.isNone) = true := by
  kernel_rfl
theorem re_none4 (P : Params) (S0 : Setting) (v : Value) : (List.range 16).all (fun j => (peek (KF P) S0 (Builtin.Re.reNextFound ⟨.ref 43, v, reCode, (setOf (4 * j) 4).toArray, 0, 1, 0, 4⟩ 0 false)).elim false Option.isNone) = true := by
  kernel_rfl
def SetOk (cs : List Nat) : Prop := (∃ j, j < 4 ∧ cs = setOf (16 * j) 16) ∨ (∃ j, j < 16 ∧ cs = setOf (4 * j) 4)
theorem SetOk.alpha {cs : List Nat} (h : SetOk cs) : cs ≠ [] ∧ (∀ c ∈ cs, c ∈ alphaL) ∧ cs.length ≤ 16 := by
  have e1 : (List.range 4).all (fun j => !(setOf (16 * j) 16).isEmpty && (setOf (16 * j) 16).all (alphaL.contains ·) && decide ((setOf (16 * j) 16).length ≤ 16)) = true := by decide +kernel
  have e2 : (List.range 16).all (fun j => !(setOf (4 * j) 4).isEmpty && (setOf (4 * j) 4).all (alphaL.contains ·) && decide ((setOf (4 * j) 4).length ≤ 16)) = true := by decide +kernel
  have fin : ∀ cs : List Nat, (!cs.isEmpty && cs.all (alphaL.contains ·) && decide (cs.length ≤ 16)) = true → cs ≠ [] ∧ (∀ c ∈ cs, c ∈ alphaL) ∧ cs.length ≤ 16 := by
    intro cs h
    simp only [Bool.and_eq_true, decide_eq_true_eq, List.all_eq_true, List.contains_iff_mem] at h
    refine ⟨?_, h.1.2, h.2⟩
    rintro rfl
    simp at h
  rcases h with ⟨j, hj, rfl⟩ | ⟨j, hj, rfl⟩
  · exact fin _ (List.all_eq_true.mp e1 j (List.mem_range.mpr hj))
  · exact fin _ (List.all_eq_true.mp e2 j (List.mem_range.mpr hj))
theorem re_none (P : Params) (S0 : Setting) (v : Value) {cs : List Nat} (h : SetOk cs) : peek (KF P) S0 (Builtin.Re.reNextFound ⟨.ref 43, v, reCode, cs.toArray, 0, 1, 0, cs.length⟩ 0 false) = some none := by
  have fin : ∀ r : Option (Option Sre.M), r.elim false Option.isNone = true → r = some none := by
    intro r hr; rcases r with _ | _ | _ <;> simp_all
  rcases h with ⟨j, hj, rfl⟩ | ⟨j, hj, rfl⟩
  · have e1 : (List.range 4).all (fun j => decide ((setOf (16 * j) 16).length = 16)) = true := by decide +kernel
    have e2 := of_decide_eq_true (List.all_eq_true.mp e1 j (List.mem_range.mpr hj))
    rw [e2]
    exact fin _ (List.all_eq_true.mp (re_none16 P S0 v) j (List.mem_range.mpr hj))
  · have e1 : (List.range 16).all (fun j => decide ((setOf (4 * j) 4).length = 4)) = true := by decide +kernel
    have e2 := of_decide_eq_true (List.all_eq_true.mp e1 j (List.mem_range.mpr hj))
    rw [e2]
    exact fin _ (List.all_eq_true.mp (re_none4 P S0 v) j (List.mem_range.mpr hj))
theorem fn_call : typeLookup (.type "function") "__call__" = pure (some (.builtin "function.__call__")) := by rw [typeLookup_type, builtinLookup_eq_fast]; kernel_rfl
theorem sub_str_bytearray : isSubtype (.type "str") (.type "bytearray") = pure false := by rw [isSubtype_type]; kernel_rfl
theorem str_append (a b : List Nat) : S a ++ S b = S (a ++ b) := by show Str.append _ _ = _; simp [Str.append]
theorem str_join : ∀ ys : List (List Nat), Str.join (S []) (ys.map S) = S ys.flatten
  | [] => rfl
  | [x] => by show S x = _; simp
  | x :: y :: r => by
    have ih := str_join (y :: r)
    show S x ++ S [] ++ Str.join (S []) ((y :: r).map S) = _
    rw [ih, str_append, str_append]
    simp
theorem txt_join (ys : List (List Nat)) : Txt.join (S []) (ys.map S) = S ys.flatten := by
  unfold Txt.join
  rw [StrLaws.glued_eq_join]
  exact str_join ys
section
variable {prog : Program} {w : World} {A : Around} {E : Value → Shared → Prop} {s : Shared}
theorem re_loop {cs : List Nat} {t : Tok} {f : Value} {l : Addr} {Q : Value → Shared → Prop} (X : (KF w.params).In s.heap) (hcs : SetOk cs) (hl : s.heap.get? l = some (listO [] 0)) 
    (h : ∀ h' tk t', Heap.SameBut l s.heap h' → Q (.str (S cs) t') { s with heap := h', toks := tk }) :
    wpAny (model prog w) A (Builtin.«re.Pattern.sub.loop» ⟨[.ref 43, .str (S cs) t, f, rawInt 1, rawInt 0, rawInt 0, rawInt 0, rawInt 0, .bool false, .ref l, .bool false], []⟩) (fun fin s' => ∃ v, fin = .done (.ret v) ∧ Q v s') E s := by
  obtain ⟨hne, hal, hlen⟩ := hcs.alpha
  have hpos : 0 < cs.length := List.length_pos_iff.mpr hne
  unfold Builtin.«re.Pattern.sub.loop»
  dsimp only [rawInt]
  have L1 : Looks (model prog w) s.heap (Builtin.Re.reWholeTarget (.ref 43) (.str (S cs) t)) ⟨.ref 43, .str (S cs) t, reCode, cs.toArray, 0, 1, 0, cs.length⟩ := Looks.of_peek X (re_whole w.params _ cs t)
  refine wpAny_bind (L1.here ?_)
  refine KFB.if_not rfl ?_
  refine wpAny_bind (KFB.if_not rfl ?_)
  have L2 : Looks (model prog w) s.heap (Builtin.Re.reNextFound ⟨.ref 43, .str (S cs) t, reCode, cs.toArray, 0, 1, 0, cs.length⟩ (Int.toNat 0) false) none := Looks.of_peek X (re_none w.params _ _ hcs)
  refine L2.here ?_
  dsimp only
  rw [if_pos (show Int.toNat 0 < cs.length from hpos)]
  unfold Builtin.Re.reSlice
  refine wpAny_bind (KFB.if_so rfl ?_)
  refine wpAny_mkStr ?_ (by show (cs.toArray.extract _ _).size ≤ _; rw [sizeLine_eq]; simp; omega)
  have hcsE : cs.toArray.extract (Int.toNat 0) cs.length = cs.toArray := by simp
  rw [hcsE]
  have e : Obj.mapSeq (·.push (.str (S cs) s.toks)) (listO [] 0) = listO [.str (S cs) s.toks] 1 := by simp [Obj.mapSeq, listO]
  have hg := Heap.get?_update_self (Obj.mapSeq (·.push (.str (S cs) s.toks))) hl (by rw [e]; rfl)
  rw [e] at hg
  refine wpAny_bind (wpAny_updateSeq (s := { s with toks := s.toks + 1 }) hl rfl ?_ (by simp) (by simp))
  refine wpAny_bind (KFB.if_so rfl ?_)
  refine wpAny_mkStr ?_ (by show (cs.toArray.extract _ _).size ≤ _; rw [sizeLine_eq]; simp)
  have hcsE0 : cs.toArray.extract 0 0 = #[] := by simp
  rw [hcsE0]
  refine wpAny_bind ?_
  unfold seqItems?
  refine wpAny_bind (wpAny_load hg ?_)
  refine wpAny_pure ?_
  dsimp only [Option.getD]
  rw [if_neg (by simp)]
  refine wpAny_bind (m := call (.builtin "str.join") [.str (S []) (s.toks + 1), .ref l]) (join_list (items := [Value.str (S cs) s.toks].toArray) (ys := [cs].map S) ⟨_, hg, rfl, 1, rfl⟩ (.cons _ _ .nil) (by simp [Str.length]; omega) fun t' k => ?_)
  rw [txt_join]
  refine KFB.if_not rfl ?_
  refine wpAny_pure ⟨_, rfl, ?_⟩
  rw [show [cs].flatten = cs by simp]
  exact h _ k t' (Heap.SameBut.update ..)
theorem re_call {cs : List Nat} {t : Tok} {f : Addr} {fo : Obj} {Q : Value → Shared → Prop} (X : (KF w.params).In s.heap) (hcs : SetOk cs) (hf : s.heap.get? f = some fo) (hfo : fo.cls = .type "function")
    (h : ∀ h' tk t', (∀ b o, s.heap.get? b = some o → h'.get? b = some o) → Q (.str (S cs) t') { s with heap := h', toks := tk }) :
    wpAny (model prog w) A (call (.builtin "re.Pattern.sub") [.ref 43, .ref f, .str (S cs) t]) Q E s := by
  have hT : s.TypeIs (.ref 43) "re.Pattern" := ⟨_, X 43 _ rfl, rfl⟩
  have hF : s.TypeIs (.ref f) "function" := ⟨_, hf, hfo⟩
  refine wpAny_call (codeAny_call_builtin re_slot.plain re_entry (re_slot.check _ _ _ _ _ _ _ _ hT (re_args _ _ _) ?_))
  unfold Builtin.«re.Pattern.sub» Builtin.Re.reSubstitute
  dsimp only
  refine wpAny_bind (wpAny_of_eq (a := [some (.ref f), some (.str (S cs) t), none]) (by kernel_rfl) ?_)
  dsimp only
  refine wpAny_bind (wpAny_of_eq (a := (0 : Int)) rfl ?_)
  refine wpAny_bind (wpAny_specialOf hF fn_call ?_)
  dsimp only [Option.isSome]
  refine KFB.if_so rfl ?_
  refine wpAny_bind (wpAny_pure ?_)
  refine KFB.if_so rfl ?_
  refine wpAny_bind (wpAny_pure ?_)
  dsimp only
  have L1 : Looks (model prog w) s.heap (Builtin.Re.reWholeTarget (.ref 43) (.str (S cs) t)) ⟨.ref 43, .str (S cs) t, reCode, cs.toArray, 0, 1, 0, cs.length⟩ := Looks.of_peek X (re_whole w.params _ cs t)
  refine wpAny_bind (wpAny_holding (L1.here ?_))
  refine KFB.if_so rfl ?_
  unfold Builtin.Re.reNotHeld
  refine wpAny_bind (wpAny_bind (wpAny_isInstance (typeIs_str s (S cs) t) sub_str_bytearray ?_))
  refine KFB.if_not rfl ?_
  refine wpAny_pure ?_
  unfold newList
  refine wpAny_bind (wpAny_newObj_type ?_ (by show (0 : Nat) ≤ _; exact Nat.zero_le _))
  refine wpAny_pure ⟨plainId_quiet re_plainL _, codeAny_builtin re_entryL ?_⟩
  rw [Around.under_plainId re_plainL _]
  refine wpAny_mono (re_loop (s := { s with heap := s.heap.push { cls := .type "list", data := .seq ([] : List Value).toArray } }) (fun b o e => Heap.get?_push_of_some _ (X b o e)) hcs (Heap.get?_push_size _ rfl) (Q := fun v s' => Q v s') fun h' tk t' hs => ?_) (fun fin s' hf => ?_) fun _ _ e => e
  · refine h h' tk t' fun b o e => ?_
    exact hs.extBut b o (Nat.ne_of_lt (Heap.lt_size e)) (Heap.get?_push_of_some _ e)
  · obtain ⟨v, rfl, hv⟩ := hf
    exact hv
end
section
variable {C : Cx} {st : St} {lv : Lv} {nw : Nw} {k : Nat}
theorem Ev_reSub {cs : List Nat} {t : Tok} {f : Addr} {fo : Obj} {Q : Value → St → Prop} (hC : Ok k C) (hcs : SetOk cs) (hf : At C st f fo) (hfo : fo.cls = .type "function") (h : ∀ t', Q (.str (S cs) t') st) :
    Ev C (call (.builtin "re.Pattern.sub") [.ref 43, .ref f, .str (S cs) t]) st Q := fun s o =>
  re_call (hC.B.K.keeps o.F.keep) hcs (o.at hf) hfo fun h' tk t' hk => ⟨st, o.kept' hk tk, h t'⟩
theorem ty_re (hC : Ok k C) : TyAt C st (.ref 43) "re.Pattern" := ⟨_, Or.inr (hC.B.K 43 _ rfl), rfl, rfl⟩
end
end Mine
end
section
open PySem PySem.W PyProof.Rows PySem.Calls
set_option maxRecDepth 100000
namespace Mine
theorem SetOk.all {p : List Nat → Bool} (h1 : (List.range 4).all (fun j => p (setOf (16 * j) 16)) = true) (h2 : (List.range 16).all (fun j => p (setOf (4 * j) 4)) = true) {cs : List Nat} (h : SetOk cs) : p cs = true := by
  rcases h with ⟨j, hj, rfl⟩ | ⟨j, hj, rfl⟩
  · exact List.all_eq_true.mp h1 j (List.mem_range.mpr hj)
  · exact List.all_eq_true.mp h2 j (List.mem_range.mpr hj)
theorem SetOk.occ {cs : List Nat} (h : SetOk cs) : (Builtin.Str.occurrences (S cs) (S [92]) 0 (S cs).length ((S cs).length + 1)).isEmpty = true :=
  SetOk.all (p := fun cs => (Builtin.Str.occurrences (S cs) (S [92]) 0 (S cs).length ((S cs).length + 1)).isEmpty) (by decide +kernel) (by decide +kernel) h
section
variable {C : Cx} {st : St} {lv : Lv} {nw : Nw} {k : Nat}
theorem Ev_replace0 {cs : List Nat} {t u v : Tok} {Q : Value → St → Prop} (hcs : SetOk cs) (h : ∀ t', Q (.str (S cs) t') st) : Ev C (call (.builtin "str.replace") [.str (S cs) t, .str (S [92]) u, .str (S [92, 92]) v]) st Q := fun s o => by
  refine call_gives F.slot_str_replace (typeIs_str _ _ _) F.entry_str_replace (F.args_str_replace_3 _ _ _) (PySem.gives_str_replace (S cs) (S [92]) (S [92, 92]) t u v fun hc => ?_) ?_
  · rw [hcs.occ] at hc; cases hc
  · rw [hcs.occ]
    exact ⟨st, o, h t⟩
theorem Ev_negIdxL {l : Addr} {xs : List Value} {x : Value} {n : Nat} {t : Tok} {Q : Value → St → Prop} (hl : At C st l (listO (xs ++ [x]) n)) (hz : xs.length < 2 ^ 20) (h : Q x st) :
    ∃ T id, TyAt C st (.ref l) T ∧ typeLookup (.type T) "__getitem__" = pure (some (.builtin id)) ∧ Ev C (getItem (.ref l) (.int (-1) t)) st Q := by
  refine ⟨"list", _, ty_list hl, slot_list_getitem.lookup, fun s o => ?_⟩
  refine wpAny_getItem_list_neg (o.list hl) (by decide) (by simp; omega) (by decide) ?_ ⟨st, o, h⟩
  have e : ((-1 : Int) + ((xs ++ [x]).toArray.size : Int)).toNat = xs.length := by simp; omega
  rw [e]
  simp
def JoinE (C : Cx) (Q : Value → St → Prop) : List Expr → List Nat → St → Prop
  | [], acc, st => ∀ t, Q (.str (S acc) t) st
  | e :: r, acc, st => Ev C (eval e C.env) st (fun v st1 => ∃ y t, v = .str (S y) t ∧ acc.length + y.length ≤ sizeLine ∧ JoinE C Q r (acc ++ y) st1)
theorem JoinE_nil {Q : Value → St → Prop} {acc : List Nat} (h : ∀ t, Q (.str (S acc) t) st) : JoinE C Q [] acc st := h
theorem JoinE_cons {Q : Value → St → Prop} {e : Expr} {r : List Expr} {acc : List Nat} (h : Ev C (eval e C.env) st (fun v st1 => ∃ y t, v = .str (S y) t ∧ acc.length + y.length ≤ sizeLine ∧ JoinE C Q r (acc ++ y) st1)) : JoinE C Q (e :: r) acc st := h
theorem JoinE.joins {Q : Value → St → Prop} : ∀ (es : List Expr) (acc : List Nat) {st : St}, acc.length ≤ sizeLine → JoinE C Q es acc st → ∀ s, Own C st s → Joins (model C.p C.w) C.A FF (evalEach es C.env) (S acc) (fun out s₁ => out.length ≤ sizeLine ∧ ∃ st', Own C st' { s₁ with toks := s₁.toks + 1 } ∧ Q (.str out s₁.toks) st') s
  | [], acc, st, hz, h, s, o => ⟨by simpa [Str.length] using hz, st, o.tok _, h _⟩
  | e :: r, acc, st, hz, h, s, o => by
    show wpAny _ _ (eval e C.env) _ _ s
    refine wpAny_mono (h s o) (fun v s1 h1 => ?_) fun _ _ f => f
    obtain ⟨st1, o1, y, t, rfl, hz1, h1⟩ := h1
    refine ⟨S y, t, rfl, ?_, ?_⟩
    · rw [str_append]; simpa [Str.length] using hz1
    · rw [str_append]
      exact JoinE.joins r (acc ++ y) (by simpa using hz1) h1 s1 o1
theorem Ev_JoinedStr {e1 e2 : Expr} {r : List Expr} {pos : Pos} {Q : Value → St → Prop} (h : JoinE C Q (e1 :: e2 :: r) [] st) : Ev C (eval (.JoinedStr (e1 :: e2 :: r) pos) C.env) st Q := fun s o =>
  wpAny_JoinedStr (JoinE.joins _ [] (Nat.zero_le _) h s o)
theorem Ev_Formatted {e : Expr} {pos : Pos} {Q : Value → St → Prop} (h : Ev C (eval e C.env) st (fun v st1 => ∃ x t, v = .str (S x) t ∧ x.length ≤ sizeLine ∧ ∀ t', Q (.str (S x) t') st1)) : Ev C (eval (.FormattedValue e (-1) none pos) C.env) st Q := fun s o => by
  refine PySem.wpAny_FormattedValue_plain (wpAny_mono (h s o) (fun v s1 h1 => ?_) fun _ _ f => f)
  obtain ⟨st1, o1, x, t, rfl, hz, h1⟩ := h1
  exact PySem.wpAny_formatField_str ⟨st1, o1, h1 t⟩ ⟨st1, o1.tok _, h1 _⟩ (by simpa [Str.length] using hz)
theorem strs_app {vs ws : List Value} {xs ys : List Str} (h1 : StrsAre vs xs) (h2 : StrsAre ws ys) : StrsAre (vs ++ ws) (xs ++ ys) := by
  induction h1 with
  | nil => exact h2
  | cons y t _ ih => exact .cons y t ih
theorem strs_len {vs : List Value} {xs : List Str} (h : StrsAre vs xs) : vs.length = xs.length := by
  induction h with
  | nil => rfl
  | cons y t _ ih => simp [ih]
theorem S_beq (x y : List Nat) : (S x == S y) = (x == y) := by rw [← toList_beq]
theorem Ev_inTup2 {c a b : Nat} {tp : Addr} {t u v : Tok} {Q : Value → St → Prop} (ht : At C st tp (tupO [.str (S [a]) u, .str (S [b]) v])) (h : Q (.bool (a == c || b == c)) st) : Ev C (compareOp .In (.str (S [c]) t) (.ref tp)) st Q := fun s o => by
  refine SeqAt.in_tupleAt (e := fun y => match y with | .str y _ => y == S [c] | _ => false) (o.tup ht) ?_ ⟨st, o, ?_⟩
  · intro y hy
    simp only [List.mem_toArray, List.mem_cons, List.not_mem_nil, or_false] at hy
    rcases hy with rfl | rfl
    · exact SeqAt.EqAt.str_str _ _ _ _
    · exact SeqAt.EqAt.str_str _ _ _ _
  · have e : ([Value.str (S [a]) u, .str (S [b]) v].toArray.any fun y => match y with | .str y _ => y == S [c] | _ => false) = (a == c || b == c) := by
      simp only [List.any_toArray, List.any_cons, List.any_nil, Bool.or_false, S_beq]
      simp
    rw [e]; exact h
theorem Ev_truthyS {x : List Nat} {t : Tok} {Q : Bool → St → Prop} (hz : (x.length : Int) < 2 ^ 63) (h : Q (!x.isEmpty) st) : Ev C (truthy (.str (S x) t)) st Q := by
  intro s o
  with_reducible refine PySem.P.truthy_str (by simp [Str.length]; omega) ?_
  refine ⟨st, o.tok _, ?_⟩
  have e : (((S x).length : Int) != 0) = !x.isEmpty := by
    cases x with
    | nil => rfl
    | cons a r => simp [Str.length]; omega
  rw [e]; exact h
end
end Mine
end
section
open PySem PySem.W PyProof.Rows PySem.Calls
set_option maxRecDepth 100000
namespace Mine
open Builtin Builtin.Str in
theorem occ_first (x : List Nat) (c i : Nat) (hi : x[i]? = some c) : ∀ (m a free : Nat), free ≤ a → a ≤ i → i < a + m → (∀ j, a ≤ j → j < i → x[j]? ≠ some c) →
    ∃ rest, (forIn (List.range' a m) ((#[] : Array Nat), free) (StrLaws.occBody (S x) (S [c]) (S x).length 1)).run.fst.toList = i :: rest
  | 0, a, free, _, h1, h2, _ => absurd h2 (by omega)
  | m + 1, a, free, hf, h1, h2, hn => by
    rw [List.range'_succ, List.forIn_cons]
    have hsa := StrLaws.subAt_one (S x) c a
    by_cases hai : a = i
    · subst hai
      have hc := hsa.mpr hi
      unfold StrLaws.occBody
      rw [if_pos ⟨⟨⟨by simp, hf⟩, hc.1⟩, hc.2⟩]
      have full : ∀ (l : List Nat) (st : Array Nat × Nat), st.fst = #[a] → (forIn l st (StrLaws.occBody (S x) (S [c]) (S x).length 1)).run.fst = #[a] := by
        intro l
        induction l with
        | nil => intro st h; exact h
        | cons b l ih =>
          intro st h
          rw [List.forIn_cons]
          unfold StrLaws.occBody
          rw [if_neg (by rw [h]; simp)]
          exact ih (st.fst, st.snd) h
      refine ⟨[], ?_⟩
      have := full (List.range' (a + 1) m) (#[a], a + (S [c]).length) rfl
      have e := congrArg Array.toList this
      exact e
    · have hne : ¬ (x[a]? = some c) := hn a (Nat.le_refl _) (by omega)
      have hc2 : ¬ (a + (S [c]).length ≤ (S x).length ∧ subAt (S x) (S [c]) a = true) := fun h => hne (hsa.mp h)
      unfold StrLaws.occBody
      rw [if_neg (fun h => hc2 ⟨h.1.2, h.2⟩)]
      exact occ_first x c i hi m (a + 1) free (by omega) (by omega) (by omega) fun j hj hj2 => hn j (by omega) hj2
theorem occ_at (x : List Nat) (c i lo : Nat) (hi : x[i]? = some c) (hlo : lo ≤ i) (hn : ∀ j, lo ≤ j → j < i → x[j]? ≠ some c) : ∃ rest, Builtin.Str.occurrences (S x) (S [c]) lo (S x).length 1 = i :: rest := by
  have hil : i < x.length := (List.getElem?_eq_some_iff.mp hi).1
  rw [StrLaws.occ_eq]
  exact occ_first x c i hi _ lo lo (Nat.le_refl _) hlo (by show i < lo + (x.length + 1 - lo); omega) hn
open Builtin Builtin.Str in
theorem gives_index3 (x y : Str) (t u v : Tok) (n i : Nat) (rest : List Nat) (h : occurrences x y n x.length 1 = i :: rest) : Gives (Builtin.«str.index» ⟨[.str x t, .str y u, .int (n : Int) v], []⟩) (.int i) := by
  show Gives (match occurrences x y (max 0 (if (n : Int) < 0 then (n : Int) + x.length else (n : Int))).toNat (min x.length x.length) 1 with | i :: _ => retInt i | [] => (do rule "str.index.not-found"; raiseError "ValueError" "substring not found")) _
  have e : (max 0 (if (n : Int) < 0 then (n : Int) + x.length else (n : Int))).toNat = n := by
    rw [if_neg (by omega)]; omega
  rw [Nat.min_self, e, h]
  exact .of_eq rfl
section
variable {C : Cx} {st : St} {lv : Lv} {nw : Nw} {k : Nat}
theorem Ev_index2 {x : List Nat} {c i : Nat} {t u : Tok} {Q : Value → St → Prop} (hi : x[i]? = some c) (hn : ∀ j, j < i → x[j]? ≠ some c) (h : ∀ t, Q (.int (i : Int) t) st) : Ev C (call (.builtin "str.index") [.str (S x) t, .str (S [c]) u]) st Q := fun s o => by
  obtain ⟨rest, hr⟩ := occ_at x c i 0 hi (Nat.zero_le _) fun j _ hj => hn j hj
  exact call_gives F.slot_str_index (typeIs_str _ _ _) F.entry_str_index (F.args_str_index_2 _ _) (gives_str_index (S x) (S [c]) t u i rest hr) ⟨st, o.tok _, h _⟩
theorem Ev_index3 {x : List Nat} {c i n : Nat} {t u v : Tok} {Q : Value → St → Prop} (hi : x[i]? = some c) (hlo : n ≤ i) (hn : ∀ j, n ≤ j → j < i → x[j]? ≠ some c) (h : ∀ t, Q (.int (i : Int) t) st) : Ev C (call (.builtin "str.index") [.str (S x) t, .str (S [c]) u, .int (n : Int) v]) st Q := fun s o => by
  obtain ⟨rest, hr⟩ := occ_at x c i n hi hlo hn
  exact call_gives F.slot_str_index (typeIs_str _ _ _) F.entry_str_index (F.args_str_index_3 _ _ _) (gives_index3 (S x) (S [c]) t u v n i rest hr) ⟨st, o.tok _, h _⟩
theorem Ev_isalnum {x : List Nat} {t : Tok} {b : Bool} {Q : Value → St → Prop} (hb : (decide (x.length > 0) && x.all Unicode.isAlnum) = b) (h : Q (.bool b) st) : Ev C (call (.builtin "str.isalnum") [.str (S x) t]) st Q := fun s o => by
  refine call_gives F.slot_str_isalnum (typeIs_str _ _ _) F.entry_str_isalnum (F.args_str_isalnum_1 _) (gives_str_isalnum (S x) t) ⟨st, o, ?_⟩
  have e : (decide ((S x).length > 0) && (S x).cps.all Unicode.isAlnum) = b := by rw [← hb]; simp [Str.length]
  rw [e]; exact h
end
end Mine
end
section
open PySem PySem.W PyProof.Rows PySem.Calls
set_option maxRecDepth 100000
namespace Mine
theorem FnA.trim {p : Program} {w : World} {k : Nat} {hb : Heap} {f : Value} {args : Args} {nw : Nw} {R : Value → Nw → Prop} (h : FnA p w k hb f args nw (fun v nw' => ∃ t r, Take t nw' r ∧ R v t)) : FnA p w k hb f args nw R :=
  fun A h₁ g d tk os r kp ow => codeAny_mono (h A h₁ g d tk os r kp ow) fun r s' hr => by
    obtain ⟨v, nw', a, b, c, e, t, rr, ht, q⟩ := hr
    have hp := ht.perm
    refine ⟨v, t, a, b, c, And.intro (fun p hp' => e.1 p (hp.mem_iff.mpr (List.mem_append_left _ hp'))) ?_, q⟩
    have := (hp.map (·.1)).nodup_iff.mp e.2
    rw [List.map_append] at this
    exact (List.nodup_append.mp this).1
section
variable {C : Cx} {st : St} {lv : Lv} {nw nw' : Nw} {k : Nat}
theorem Ev_callF {f : Value} {vs : List Value} {kw : List (Str × Value)} {Q : Value → St → Prop} (nw1 : Nw) {nw2 : Nw} (hp : Take nw1 nw nw2) (hR : Room k C.A)
    (h : ∀ hb', Mine.Keeps C.hb hb' → (∀ p ∈ nw2, hb'.get? p.1 = some p.2) → FnA C.p C.w k hb' f ⟨vs, kw⟩ nw1 (fun v nw1' => Q v ⟨lv, nw1' ++ nw2⟩)) : Ev C (call f vs kw) ⟨lv, nw⟩ Q := fun s o => by
  have op := o.perm hp.perm
  obtain ⟨k1, k2, ow, back⟩ := op.ground
  have nd := op.nd
  rw [show (⟨lv, nw1 ++ nw2⟩ : St).nw = nw1 ++ nw2 from rfl, List.map_append, List.nodup_append] at nd
  have in2 : ∀ p ∈ nw2, (hideAll s.heap (nw1.map (·.1))).get? p.1 = some p.2 := fun p hp => hideAll_get _ (op.N p (List.mem_append_right _ hp)).1 fun hm => nd.2.2 _ hm _ (List.mem_map_of_mem hp) rfl
  refine wpAny_call ?_
  have h1 := h _ k1 in2 C.A s.heap C.g C.d s.toks C.os hR k2 ow
  rw [← o.eq] at h1
  refine codeAny_mono h1 fun r s' hr => ?_
  obtain ⟨v, nw', rfl, es, kp, ow', q⟩ := hr
  exact ⟨_, back s' nw' es kp ow', q⟩
inductive BysAre : List Value → List (List UInt8) → Prop
  | nil : BysAre [] []
  | cons (b : List UInt8) (t : Tok) {vs bs} : BysAre vs bs → BysAre (.bytes b.toArray t :: vs) (b :: bs)
theorem bys_len {vs : List Value} {bs : List (List UInt8)} (h : BysAre vs bs) : vs.length = bs.length := by
  induction h with
  | nil => rfl
  | cons b t _ ih => simp [ih]
theorem bys_app {vs ws : List Value} {xs ys : List (List UInt8)} (h1 : BysAre vs xs) (h2 : BysAre ws ys) : BysAre (vs ++ ws) (xs ++ ys) := by
  induction h1 with
  | nil => exact h2
  | cons y t _ ih => exact .cons y t ih
theorem bys_at {vs : List Value} : ∀ {bs : List (List UInt8)}, BysAre vs bs → ∀ {i : Nat} {b : List UInt8}, bs[i]? = some b → ∃ t, vs[i]? = some (.bytes b.toArray t) := by
  induction vs with
  | nil => intro ns h i n hn; cases h; simp at hn
  | cons a r ih =>
    intro ns h i n hn
    cases h with
    | cons m t h =>
      cases i with
      | zero => simp at hn; subst hn; exact ⟨t, rfl⟩
      | succ i => exact ih h (by simpa using hn)
def bools (bs : List Bool) : List Value := bs.map .bool
theorem reads_bools {h : Heap} : ∀ bs : List Bool, ReadsAll h (bools bs) (bs.map .bool) []
  | [] => .nil
  | b :: r => ReadsAll.cons (Reads.bool b) (reads_bools r)
theorem bools_ok : ∀ bs : List Bool, PyData.canLayAll0 (bs.map PyData.bool) = true ∧ PyData.depthAll (bs.map PyData.bool) = 0
  | [] => ⟨rfl, rfl⟩
  | b :: r => by
    have ih := bools_ok r
    simp [PyData.canLayAll0, PyData.depthAll, PyData.canLay0, PyData.depth, ih.1, ih.2]
theorem bools_eqv : ∀ bs cs : List Bool, PyData.eqvAll (bs.map PyData.bool) (cs.map PyData.bool) = decide (bs = cs)
  | [], [] => rfl
  | [], c :: r => by simp [PyData.eqvAll]
  | b :: r, [] => by simp [PyData.eqvAll]
  | b :: r, c :: t => by
    simp only [List.map_cons, PyData.eqvAll, PyData.eqv, bools_eqv r t]
    by_cases h : b = c <;> by_cases h' : r = t <;> simp [h, h']
theorem Ev_eqBools {a b : Addr} {bs cs : List Bool} {n m : Nat} {Q : Value → St → Prop} (hR : Room 20 C.A) (ha : At C st a (listO (bools bs) n)) (hb : At C st b (listO (bools cs) m)) (h : Q (.bool (decide (bs = cs))) st) : Ev C (compareOp .Eq (.ref a) (.ref b)) st Q := fun s o => by
  refine eq_dataH (da := .list (bs.map .bool)) (db := .list (cs.map .bool)) (reads_list_at (o.at ha) rfl rfl (by simpa using reads_bools bs)) (reads_list_at (o.at hb) rfl rfl (by simpa using reads_bools cs)) ?_ ?_ (by have := hR.un; omega) ⟨st, o, ?_⟩
  · simp [SeqAt.shaped, PyData.canLay0, PyData.depth, (bools_ok bs).1, (bools_ok bs).2]
  · simp [SeqAt.shaped, PyData.canLay0, PyData.depth, (bools_ok cs).1, (bools_ok cs).2]
  · simp only [PyData.eqv, bools_eqv]; exact h
end
end Mine
end
namespace Mine
open PySem PySem.W PyProof.Rows PySem.Calls
local macro_rules | `(tactic| kct_strs) => `(tactic| first | (with_reducible refine At.own ?_; (repeat (first | with_reducible exact HasN.head | with_reducible apply HasN.tail)); done) | (with_reducible refine At.base ?_; assumption))
local macro_rules | `(tactic| k_ne) => `(tactic| first | with_reducible exact Nat.lt_add_one _ | with_reducible exact Int.natCast_nonneg _ | with_reducible exact ix_lt (by assumption) | with_reducible exact ix_next (by assumption) | with_reducible exact ix_end (by assumption) | with_reducible exact ix_sz (by assumption) (by assumption) | with_reducible exact ix_sz2 (by assumption) (by assumption) | with_reducible exact Nat.le_of_eq (by assumption) | with_reducible exact Nat.add_zero _ | with_reducible assumption | omega)
local macro_rules | `(tactic| kst_all1) => `(tactic| repeat (first | with_reducible exact Upd1.head | with_reducible apply Upd1.tail))
local macro_rules | `(tactic| kas_types) => `(tactic| repeat (first | with_reducible exact Take.nil | (with_reducible apply Take.cons (by repeat (first | with_reducible exact Pick.head | with_reducible apply Pick.tail)))))
local macro_rules | `(tactic| kat_tups) => `(tactic| first | with_reducible exact g_translate _ | with_reducible exact gu_special_chars_map _ | with_reducible exact g_escape _ | with_reducible exact gu_translate _ | with_reducible exact gu_join_translated_parts _ | with_reducible exact gu_buffer _ | with_reducible exact gu_truth _ | with_reducible exact g_b2a_base64 _ | with_reducible exact g_b64encode _ | with_reducible exact g_heappop _ | with_reducible exact g_heapify _ | with_reducible exact gu_siftdown _ | with_reducible exact gu_siftup _ | with_reducible exact gu_law_row _ | with_reducible exact gu_law_alphabet _ | with_reducible exact gu_law_pattern _ | with_reducible exact gu_law_fits _ | with_reducible exact gu_law_pairs _ | with_reducible exact gu_law_popped _ | with_reducible exact gu_law_right _ | with_reducible exact gu_twin_re_1 _ | with_reducible exact gu_B64 _)
local macro_rules | `(tactic| got_up) => `(tactic| first | with_reducible exact b_len _ | with_reducible exact b_range _ | with_reducible exact b_bytes _ | with_reducible exact b_sum _ | with_reducible exact b_chr _ | with_reducible exact b_type _ | with_reducible exact b_sorted _ | with_reducible exact b_list _ | with_reducible exact b_reversed _ | with_reducible exact b_object _ | with_reducible exact b_isinstance _ | with_reducible exact b_str _ | with_reducible exact b_bytearray _ | with_reducible exact b_bool _ | with_reducible exact b_int _)
local macro_rules | `(tactic| kpt_turns) => `(tactic| (with_reducible show Ev _ (loadName _ _) _ _); first
  | with_reducible refine Ev_loadL (Ok.hk (by assumption)) (kind_at (by assumption) (by kernel_rfl!)) (by (repeat (first | with_reducible exact HasL.head | with_reducible apply HasL.tail)); first | done | fail "no") ?_
  | with_reducible refine Ev_glob (by assumption) (kind_at (by assumption) (by kernel_rfl!)) (by kat_tups) ?_
  | with_reducible refine Ev_bltn' (by assumption) (kind_at (by assumption) (by kernel_rfl!)) (by got_up) ?_ (by decide +kernel)
  | with_reducible refine Ev_loadC (Ok.hk (by assumption)) (kind_at (by assumption) (by kernel_rfl!)) (cell_at (by assumption) (by repeat (first | with_reducible exact cl_head | (with_reducible apply cl_tail (by decide +kernel))))) (by kct_strs) ?_
  | with_reducible refine Ev_loadF (Ok.hk (by assumption)) (kind_at (by assumption) (by kernel_rfl!)) (cell_at (by assumption) (by repeat (first | with_reducible exact cl_head | (with_reducible apply cl_tail (by decide +kernel))))) (by kct_strs) ?_ (by decide +kernel))
local macro_rules | `(tactic| kfm_turns) => `(tactic| (with_reducible show Ev _ (storeName _ _ _) _ _); first
  | with_reducible refine Ev_storeL (Ok.hk (by assumption)) (kind_at (by assumption) (by kernel_rfl!)) (by (repeat (first | with_reducible exact Put.head | with_reducible apply Put.tail)); first | done | fail "no") ?_
  | with_reducible refine Ev_storeC (Ok.hk (by assumption)) (kind_at (by assumption) (by kernel_rfl!)) (cell_at (by assumption) (by repeat (first | with_reducible exact cl_head | (with_reducible apply cl_tail (by decide +kernel))))) (by (repeat (first | with_reducible exact Upd1.head | with_reducible apply Upd1.tail)); first | done | fail "no") ?_)
local macro_rules | `(tactic| kpc_turns) => `(tactic| first
  | ((with_reducible show Ev _ (eval _ _) _ _); first | with_reducible refine Ev_Name ?_ (by decide +kernel) | (with_reducible refine Ev_Int ?_; intro _) | with_reducible refine Ev_BinOp ?_ | with_reducible refine Ev_Subscript ?_ | with_reducible refine Ev_Call ?_ (by kernel_rfl) (by decide +kernel) | (with_reducible refine Ev_Str ?_; intro _) | with_reducible refine Ev_Bool ?_ | with_reducible refine Ev_None ?_ | (with_reducible refine Ev_Bytes ?_; intro _) | with_reducible refine Ev_Compare ?_ (by kernel_rfl) | with_reducible refine Ev_IfExp ?_ | with_reducible refine Ev_Tuple ?_ | with_reducible refine Ev_List ?_ | with_reducible refine Ev_UnaryOp ?_ | with_reducible refine Ev_Slice ?_ | with_reducible refine Ev_JoinedStr ?_ | with_reducible refine Ev_Formatted ?_ | refine Ev_Meth "list" "list.append" ?_ F.plainAttrs_list F.slot_list_append F.type_list_append | refine Ev_Meth "str" "str.replace" ?_ F.plainAttrs_str F.slot_str_replace F.type_str_replace)
  | kpt_turns
  | kfm_turns
  | with_reducible refine nextK_n ?_
  | with_reducible refine Ev_consK fun K hK => ?_
  | with_reducible refine Imp.use (by assumption) ?_
  | ((with_reducible show Ev _ (exec _ _) _ _); first | with_reducible refine Ev_Assign ?_ (by kernel_rfl) | with_reducible refine Ev_Return ?_ | with_reducible refine Ev_AugAssign ?_ | with_reducible refine Ev_AssignSub ?_ (by kernel_rfl) (by kernel_rfl) | with_reducible refine Ev_While ?_ | with_reducible refine Ev_ExprS ?_ (Ok.hk (by assumption)) (by kernel_rfl) | with_reducible refine Ev_Break ?_ | with_reducible refine Ev_Continue ?_)
  | ((with_reducible show Ev _ (isTrue _ _ _) _ _); first | with_reducible refine Ev_isCompare ?_ (by kernel_rfl) | with_reducible refine Ev_isNot ?_ | with_reducible refine Ev_isBoolOp ?_ | with_reducible refine Ev_isValue ?_ (by kernel_rfl))
  | ((with_reducible show Ev _ (compareOp _ _ _) _ _); first | with_reducible refine Ev_isSame (by kernel_rfl!) ?_ | with_reducible refine Ev_isOther (by kernel_rfl!) (by kernel_rfl!) ?_ | with_reducible refine Ev_isNotSame (by kernel_rfl!) ?_ | with_reducible refine Ev_isNotOther (by kernel_rfl!) (by kernel_rfl!) ?_ | with_reducible refine Ev_isNotRef ?_ | with_reducible refine Ev_isRef ?_ | with_reducible refine Ev_lt ?_ | with_reducible refine Ev_gt ?_ | with_reducible refine Ev_le ?_ | with_reducible refine Ev_ge ?_ | with_reducible refine Ev_eqI ?_ | with_reducible refine Ev_neI ?_)
  | with_reducible refine Ev_bool ?_
  | ((with_reducible show Ev _ (binaryOp _ _ _) _ _); first | (with_reducible refine Ev_add ?_; intro _) | (with_reducible refine Ev_sub ?_; intro _))
  | (with_reducible refine Ev_iadd ?_; intro _)
  | ((with_reducible show Ev _ (spliced _) _ _); first | with_reducible refine Ev_arg_cons ?_ (by kernel_rfl) | with_reducible refine Ev_arg_nil ?_)
  | ((with_reducible show Ev _ (allTrue _ _ _) _ _); first | with_reducible refine Ev_and_cons ?_ | with_reducible refine Ev_and_nil ?_ | with_reducible refine Ev_or_cons ?_ | with_reducible refine Ev_or_nil ?_)
  | with_reducible refine onB_t ?_
  | with_reducible refine onB_f ?_
  | with_reducible refine Ev_nil ?_
  | with_reducible refine nextK_r ?_
  | with_reducible refine nextK_b ?_
  | with_reducible refine nextK_c ?_
  | with_reducible refine loopK_n ?_
  | with_reducible refine loopK_b ?_
  | with_reducible refine loopK_c ?_
  | with_reducible refine loopK_r ?_
  | with_reducible refine retK_r ?_
  | with_reducible refine retK_n ?_
  | with_reducible refine drawK_s ?_
  | with_reducible refine drawK_n ?_
  | with_reducible refine Ev_opt ?_
  | (with_reducible refine ⟨callee_K (by assumption) (by kernel_rfl!), ?_⟩)
  | (with_reducible refine ⟨callee_builtin, ?_⟩)
  | (with_reducible refine ⟨callee_type, ?_⟩)
  | with_reducible refine Ev_opt_none ?_
  | (with_reducible refine ⟨ty_list (by kct_strs), ?_⟩)
  | (with_reducible refine ⟨ty_str, ?_⟩)
  | with_reducible refine Stores_cons ?_
  | with_reducible refine Stores_nil ?_
  | with_reducible refine Ev_AttrName ?_
  | with_reducible refine Ev_object fun _ => ?_
  | with_reducible refine JoinE_cons ?_
  | with_reducible refine JoinE_nil ?_)
section
open PySem PySem.W PyProof.Rows PySem.Calls
local macro_rules | `(tactic| kpc_turns) => `(tactic| with_reducible refine Ev_cons ?_)
def CmpLt (p : Program) (w : World) (k : Nat) (hb : Heap) (V : Value → Prop) (lt : Value → Value → Bool) : Prop :=
  ∀ (C : Cx) st u v, C.p = p → C.w = w → Room k C.A → Mine.Keeps hb C.hb → V u → V v → Ev C (compareOp .Lt u v) st (fun r st' => r = .bool (lt u v) ∧ st' = st)
set_option maxRecDepth 100000
theorem siftdown_spec {p : Program} {w : World} {k : Nat} {hb : Heap} {V : Value → Prop} {lt : Value → Value → Bool} (B : Bs w hb) (hc : CmpLt p w k hb V lt) {l : Addr} {xs : List Value} {n : Nat} {start pos : Nat} {t1 t2 : Tok}
    (hV : ∀ v ∈ xs, V v) (h2 : pos < xs.length) (h3 : xs.length < 2 ^ 20) :
    Fn p w (k + 1) hb (.ref 127) [.ref l, .int start t1, .int pos t2] [(l, listO xs n)] (fun v nw' => v = .none ∧ nw' = [(l, listO (sdGo lt (xs.getD pos .none) start pos xs pos) n)]) := by
  refine Fn_def (["heap", "startpos", "pos", "newitem", "parentpos", "parent"] : List Str) [] B rfl (by kernel_rfl) (fun s _ => BindsTo.of_eq (binds := [(Str.ofString "heap", .ref l), (Str.ofString "startpos", .int start t1), (Str.ofString "pos", .int pos t2)]) rfl) (by kernel_rfl) (by decide +kernel) ?_
  rintro C ca hlen hC rfl rfl rfl hsc hcells _ _
  obtain rfl : ca = [] := List.length_eq_zero_iff.mp hlen
  refine ⟨_, _, .loc (kind_at hsc rfl) .head (.loc (kind_at hsc rfl) (.tail .head) (.loc (kind_at hsc rfl) (.tail (.tail .head)) .nil)), ?_⟩
  dsimp only [List.map, List.nil_append]
  repeat kpc_turns
  refine Ev_subList (n := n) (by kct_strs) (Int.natCast_nonneg _) (by k_ne) (by rw [Int.toNat_natCast]; exact List.getElem?_eq_getElem h2) ?_
  repeat kpc_turns
  have hx : xs.getD pos .none = xs[pos] := by simp [List.getD, h2]
  rw [hx]
  have hVx : V xs[pos] := hV _ (List.getElem_mem h2)
  generalize xs[pos] = x at hVx
  refine LoopW.indo (fun f st => ∃ (q : Nat) (ys : List Value) (t : Tok) (a b : Option Value), st = ⟨[(Str.ofString "heap", some (Value.ref l)), (Str.ofString "startpos", some (Value.int (↑start) t1)),
          (Str.ofString "pos", some (Value.int (↑q) t)), (Str.ofString "newitem", some x),
          (Str.ofString "parentpos", a), (Str.ofString "parent", b)], [(l, listO ys n)]⟩ ∧ q ≤ f ∧ q < ys.length ∧ ys.length < 2 ^ 20 ∧ (∀ v ∈ ys, V v) ∧ sdGo lt x start f ys q = sdGo lt x start pos xs pos) ?_ pos ⟨pos, xs, t2, none, none, rfl, Nat.le_refl _, h2, h3, hV, rfl⟩
  rintro I_f hI_f Q_f hQ_f f st ⟨q, ys, t, a, b, hst, hq1, hq3, hq4, hV', hE⟩
  subst hst
  repeat kpc_turns
  by_cases hlt : start < q
  · refine onB_dt (by k_ne) ?_
    repeat kpc_turns
    rw [show (q : Int) - 1 = ((q - 1 : Nat) : Int) by k_ne]
    refine Ev_rshiftN (b := 1) fun _ => ?_
    repeat kpc_turns
    have hpp : (q - 1) / 2 ^ 1 < ys.length := by k_ne
    refine Ev_subList (n := n) (by kct_strs) (Int.natCast_nonneg _) (by k_ne) (by rw [Int.toNat_natCast]; exact List.getElem?_eq_getElem hpp) ?_
    repeat kpc_turns
    refine Ev_If ?_
    repeat kpc_turns
    refine Ev_mono (hc C _ _ _ rfl rfl hC.R (Keeps.refl _) hVx (hV' _ (List.getElem_mem hpp))) ?_
    rintro _ _ ⟨rfl, rfl⟩
    repeat kpc_turns
    have hgd : ys.getD ((q - 1) / 2) .none = ys[(q - 1) / 2 ^ 1] := by simp [List.getD, hpp]
    by_cases hl : lt x ys[(q - 1) / 2 ^ 1] = true
    · refine onB_eq hl ?_
      repeat kpc_turns
      refine Ev_setList (n := n) (by kst_all1) (Int.natCast_nonneg _) (by k_ne) (by k_ne) ?_
      repeat kpc_turns
      refine ⟨f - 1, by k_ne, hI_f _ _ ⟨(q - 1) / 2 ^ 1, _, _, _, _, rfl, by k_ne, by simpa using hpp, by simpa using hq4, ?_, ?_⟩⟩
      · intro v hv
        rcases List.mem_or_eq_of_mem_set hv with hv | rfl
        · exact hV' v hv
        · exact hV' _ (List.getElem_mem hpp)
      · rw [← hE]
        obtain ⟨g, rfl⟩ : ∃ g, f = g + 1 := ⟨f - 1, by k_ne⟩
        conv => rhs; unfold sdGo
        rw [if_pos hlt, hgd, if_pos hl]
        simp
    · have hl' : lt x ys[(q - 1) / 2 ^ 1] = false := by simpa using hl
      refine onB_eq hl' ?_
      repeat kpc_turns
      refine Ev_setList (n := n) (by kst_all1) (Int.natCast_nonneg _) (by k_ne) (by k_ne) ?_
      repeat kpc_turns
      refine ⟨rfl, ?_⟩
      rw [← hE]
      obtain ⟨g, rfl⟩ : ∃ g, f = g + 1 := ⟨f - 1, by k_ne⟩
      unfold sdGo
      rw [if_pos hlt, hgd, hl']
      simp
  · refine onB_df (by k_ne) ?_
    repeat kpc_turns
    refine Ev_setList (n := n) (by kst_all1) (Int.natCast_nonneg _) (by k_ne) (by k_ne) ?_
    repeat kpc_turns
    refine ⟨rfl, ?_⟩
    rw [← hE]
    cases f with
    | zero => simp [sdGo]
    | succ f => unfold sdGo; rw [if_neg hlt]; simp
theorem CmpLt.up {p : Program} {w : World} {k : Nat} {hb hb' : Heap} {V : Value → Prop} {lt : Value → Value → Bool} (h : CmpLt p w k hb V lt) (kp : Mine.Keeps hb hb') : CmpLt p w k hb' V lt :=
  fun C st u v a b c d e f => h C st u v a b c (kp.trans d) e f
theorem CmpLt.le {p : Program} {w : World} {k k' : Nat} {hb : Heap} {V : Value → Prop} {lt : Value → Value → Bool} (h : CmpLt p w k hb V lt) (hk : k ≤ k') : CmpLt p w k' hb V lt :=
  fun C st u v a b c d e f => h C st u v a b (c.le hk) d e f
theorem siftup_spec {p : Program} {w : World} {k : Nat} {hb : Heap} {V : Value → Prop} {lt : Value → Value → Bool} (B : Bs w hb) (hc : CmpLt p w k hb V lt) {l : Addr} {xs : List Value} {n : Nat} {pos : Nat} {t2 : Tok}
    (hV : ∀ v ∈ xs, V v) (h2 : pos < xs.length) (h3 : xs.length < 2 ^ 20) :
    Fn p w (k + 2) hb (.ref 134) [.ref l, .int pos t2] [(l, listO xs n)] (fun v nw' => v = .none ∧ nw' = [(l, listO (suF lt xs pos) n)]) := by
  refine Fn_def (["heap", "pos", "endpos", "startpos", "newitem", "childpos", "rightpos"] : List Str) [] B rfl (by kernel_rfl) (fun s _ => BindsTo.of_eq (binds := [(Str.ofString "heap", .ref l), (Str.ofString "pos", .int pos t2)]) rfl) (by kernel_rfl) (by decide +kernel) ?_
  rintro C ca hlen hC rfl rfl rfl hsc hcells _ _
  obtain rfl : ca = [] := List.length_eq_zero_iff.mp hlen
  refine ⟨_, _, .loc (kind_at hsc rfl) .head (.loc (kind_at hsc rfl) (.tail .head) .nil), ?_⟩
  dsimp only [List.map, List.nil_append]
  repeat kpc_turns
  refine Ev_lenList (n := n) (by kct_strs) (by k_ne) fun tn => ?_
  repeat kpc_turns
  refine Ev_subList (n := n) (by kct_strs) (Int.natCast_nonneg _) (by k_ne) (by rw [Int.toNat_natCast]; exact List.getElem?_eq_getElem h2) ?_
  repeat kpc_turns
  have hx : xs.getD pos .none = xs[pos] := by simp [List.getD, h2]
  unfold suF
  rw [hx]
  have hVx : V xs[pos] := hV _ (List.getElem_mem h2)
  generalize xs[pos] = x at hVx
  refine Ev_mulN (a := 2) (fun _ => ?_) (IntMulOk.of_left (intBits_le_64 (by k_ne) (by k_ne)))
  repeat kpc_turns
  refine LoopW.indo (fun f st => ∃ (q : Nat) (ys : List Value) (t t' : Tok) (a : Option Value), st = ⟨[(Str.ofString "heap", some (Value.ref l)), (Str.ofString "pos", some (Value.int (↑q) t)),
          (Str.ofString "endpos", some (Value.int (↑xs.length) tn)),
          (Str.ofString "startpos", some (Value.int (↑pos) t2)), (Str.ofString "newitem", some x),
          (Str.ofString "childpos", some (Value.int ((2 * q + 1 : Nat) : Int) t')), (Str.ofString "rightpos", a)], [(l, listO ys n)]⟩ ∧ xs.length ≤ q + f ∧ q < ys.length ∧ ys.length = xs.length ∧ (∀ v ∈ ys, V v) ∧ suGo lt f ys q = suGo lt xs.length xs pos) ?_ xs.length
      ⟨pos, xs, t2, _, none, rfl, by k_ne, h2, rfl, hV, rfl⟩
  rintro I_f hI_f Q_f hQ_f f st ⟨q, ys, t, t', a, hst, hf, hq, hl, hV', hE⟩
  subst hst
  obtain ⟨g, rfl⟩ : ∃ g, f = g + 1 := ⟨f - 1, by k_ne⟩
  repeat kpc_turns
  by_cases hc1 : 2 * q + 1 < xs.length
  · refine onB_dt (by k_ne) ?_
    repeat kpc_turns
    rw [show ((2 * q + 1 : Nat) : Int) + 1 = ((2 * q + 2 : Nat) : Int) by k_ne]
    have hg1 : ys.getD (2 * q + 1) .none = ys[2 * q + 1]'(by k_ne) := by simp [List.getD, hl, hc1]
    refine Ev_mono (Q := fun f st1 => f = Flow.next ∧ ∃ (c : Nat) (ta tb tc : Tok), c = (if 2 * q + 2 < ys.length ∧ lt (ys.getD (2 * q + 1) .none) (ys.getD (2 * q + 2) .none) = false then 2 * q + 2 else 2 * q + 1) ∧
      st1 = ⟨[(Str.ofString "heap", some (Value.ref l)), (Str.ofString "pos", some (Value.int (↑q) ta)), (Str.ofString "endpos", some (Value.int (↑xs.length) tn)),
            (Str.ofString "startpos", some (Value.int (↑pos) t2)), (Str.ofString "newitem", some x), (Str.ofString "childpos", some (Value.int (c : Nat) tb)), (Str.ofString "rightpos", some (Value.int ((2 * q + 2 : Nat) : Int) tc))], [(l, listO ys n)]⟩) ?_ ?_
    · refine Ev_If ?_
      repeat kpc_turns
      by_cases hc2 : 2 * q + 2 < xs.length
      · refine onB_dt (by k_ne) ?_
        have hg2 : ys.getD (2 * q + 2) .none = ys[2 * q + 2]'(by k_ne) := by simp [List.getD, hl, hc2]
        repeat kpc_turns
        refine Ev_subList (n := n) (by kct_strs) (Int.natCast_nonneg _) (by k_ne) (by rw [Int.toNat_natCast]; exact List.getElem?_eq_getElem (by k_ne)) ?_
        repeat kpc_turns
        refine Ev_subList (n := n) (by kct_strs) (Int.natCast_nonneg _) (by k_ne) (by rw [Int.toNat_natCast]; exact List.getElem?_eq_getElem (by k_ne)) ?_
        refine Ev_mono (hc C _ _ _ rfl rfl (hC.R.le (by k_ne)) (Keeps.refl _) (hV' _ (List.getElem_mem _)) (hV' _ (List.getElem_mem _))) ?_
        rintro _ _ ⟨rfl, rfl⟩
        repeat kpc_turns
        rw [hg1, hg2]
        cases hlt : lt (ys[2 * q + 1]'(by k_ne)) (ys[2 * q + 2]'(by k_ne))
        · refine onB_t ?_
          repeat kpc_turns
          exact ⟨rfl, 2 * q + 2, _, _, _, (if_pos ⟨by k_ne, rfl⟩).symm, rfl⟩
        · refine onB_f ?_
          repeat kpc_turns
          exact ⟨rfl, 2 * q + 1, _, _, _, (if_neg (by simp)).symm, rfl⟩
      · refine onB_df (by k_ne) ?_
        repeat kpc_turns
        exact ⟨rfl, 2 * q + 1, _, _, _, (if_neg (by k_ne)).symm, rfl⟩
    · rintro _ _ ⟨rfl, c, ta, tb, tc, hcv, rfl⟩
      have hcl : c < ys.length := by split at hcv <;> omega
      have hcq : q < c := by split at hcv <;> omega
      repeat kpc_turns
      refine Ev_subList (n := n) (by kct_strs) (Int.natCast_nonneg _) (by k_ne) (by rw [Int.toNat_natCast]; exact List.getElem?_eq_getElem hcl) ?_
      repeat kpc_turns
      refine Ev_setList (n := n) (by kst_all1) (Int.natCast_nonneg _) (by k_ne) (by k_ne) ?_
      repeat kpc_turns
      refine Ev_mulN (a := 2) (fun _ => ?_) (IntMulOk.of_left (intBits_le_64 (by k_ne) (by k_ne)))
      repeat kpc_turns
      refine ⟨g, Nat.lt_add_one _, hI_f _ _ ⟨c, _, _, _, _, rfl, by k_ne, by simpa using hcl, by simpa using hl, ?_, ?_⟩⟩
      · intro v hv
        rcases List.mem_or_eq_of_mem_set hv with hv | rfl
        · exact hV' v hv
        · exact hV' _ (List.getElem_mem hcl)
      · rw [← hE]
        conv => rhs; unfold suGo
        rw [if_pos (by k_ne)]
        simp only [← hcv]
        have hgc : ys.getD c .none = ys[c] := by simp [List.getD, hcl]
        rw [hgc]; simp
  · refine onB_df (by k_ne) ?_
    repeat kpc_turns
    refine Ev_setList (n := n) (by kst_all1) (Int.natCast_nonneg _) (by k_ne) (by k_ne) ?_
    repeat kpc_turns
    have hr : suGo lt xs.length xs pos = (ys, q) := by rw [← hE]; unfold suGo; rw [if_neg (by k_ne)]
    refine Ev_fn (k := k + 1) (nw1 := [(l, listO (ys.set q x) n)]) (nw2 := []) (by simp) hC.R fun hb' kp => (siftdown_spec (B.keeps kp) (hc.up kp) ?_ ?_ ?_).mono ?_
    · intro v hv
      rcases List.mem_or_eq_of_mem_set hv with hv | rfl
      · exact hV' v hv
      · exact hVx
    · simpa using hq
    · simpa [hl] using h3
    · rintro _ _ ⟨rfl, rfl⟩
      refine ⟨rfl, ?_⟩
      repeat kpc_turns
      refine ⟨rfl, ?_⟩
      have hgx : (ys.set q x).getD q .none = x := by simp [List.getD, hq]
      rw [hr, hgx]; rfl
end
section
open PySem PySem.W PyProof.Rows PySem.Calls
local macro_rules | `(tactic| kpc_turns) => `(tactic| with_reducible refine Ev_cons ?_)
set_option maxRecDepth 100000
theorem heapify_spec {p : Program} {w : World} {k : Nat} {hb : Heap} {V : Value → Prop} {lt : Value → Value → Bool} (B : Bs w hb) (hc : CmpLt p w k hb V lt) {l : Addr} {xs : List Value} {n : Nat}
    (hV : ∀ v ∈ xs, V v) (h3 : xs.length < 2 ^ 20) :
    Fn p w (k + 3) hb (.ref 120) [.ref l] [(l, listO xs n)] (fun v nw' => v = .none ∧ nw' = [(l, listO (hfGo lt (xs.length / 2) xs) n)]) := by
  refine Fn_def (["x", "n", "i"] : List Str) [] B rfl (by kernel_rfl) (fun s _ => BindsTo.of_eq (binds := [(Str.ofString "x", .ref l)]) rfl) (by kernel_rfl) (by decide +kernel) ?_
  rintro C ca hlen hC rfl rfl rfl hsc hcells _ _
  obtain rfl : ca = [] := List.length_eq_zero_iff.mp hlen
  refine ⟨_, _, .loc (kind_at hsc rfl) .head .nil, ?_⟩
  dsimp only [List.map, List.nil_append]
  repeat kpc_turns
  refine Ev_lenList (n := n) (by kct_strs) (by k_ne) fun tn => ?_
  repeat kpc_turns
  refine Ev_For ?_
  repeat kpc_turns
  refine Ev_floordiv (by decide) (by decide) fun _ => ?_
  rw [show (xs.length : Int).fdiv 2 = ((xs.length / 2 : Nat) : Int) from by rw [Int.fdiv_eq_ediv_of_nonneg _ (by decide)]; omega]
  repeat kpc_turns
  refine Ev_range1 fun r t u v => ?_
  repeat kpc_turns
  have hm : xs.length / 2 ≤ xs.length := by k_ne
  generalize xs.length / 2 = m at hm
  have hz : Builtin.Range.rangeSize 0 (m : Int) 1 = (m : Int) := by rw [rangeSize_one]; split <;> omega
  refine Ev_reversedR (by kct_strs) (by rw [hz]; simp only [Builtin.Range.rangeFitsLong, Bool.and_eq_true, decide_eq_true_eq]; omega) fun it => ?_
  refine Ev_selfR .head ?_
  rw [hz, show (0:Int) + ((m:Int)-1)*1 = (m:Int)-1 by k_ne]
  refine LoopF.take (t := [(l, listO xs n), (it, itR ((m : Int) - 1) m (-1)), (r, rangeO 0 m 1 t u v)]) (by kas_types) ?_
  refine LoopF.indo (fun f st => ∃ (ys : List Value) (a : Option Value), st = ⟨[(Str.ofString "x", some (Value.ref l)), (Str.ofString "n", some (Value.int (↑xs.length) tn)), (Str.ofString "i", a)],
      [(l, listO ys n), (it, itR ((f : Int) - 1) f (-1)), (r, rangeO 0 m 1 t u v)]⟩ ∧ f ≤ ys.length ∧ ys.length = xs.length ∧ (∀ v ∈ ys, V v) ∧ hfGo lt f ys = hfGo lt m xs) ?_ m
      ⟨xs, none, rfl, hm, rfl, hV, rfl⟩
  rintro I_f hI_f Q_f hQ_f f st ⟨ys, a, hst, hf, hl, hV', hE⟩
  subst hst
  cases f with
  | zero =>
    refine Ev_endR hC.R (.tail .head) (.tail .head) (Int.le_refl 0) ?_
    refine drawK_n (Ev_take (t := [(l, listO ys n)]) (by kas_types) ?_)
    repeat kpc_turns
    refine ⟨rfl, ?_⟩
    rw [← hE]; rfl
  | succ g =>
    refine Ev_nextR (.tail .head) (by k_ne) fun _ => ?_
    rw [show ((g + 1 : Nat) : Int) - 1 = (g : Int) by k_ne]
    repeat kpc_turns
    refine Ev_assignN ?_
    repeat kpc_turns
    refine Ev_absQ fun Q_c hQ_c => ?_
    refine Ev_call (k := k + 2) [(l, listO ys n)] (by kas_types) hC.R fun hb' kp => (siftup_spec (B.keeps kp) (hc.up kp) hV' (by k_ne) (by k_ne)).mono ?_
    rintro _ _ ⟨rfl, rfl⟩
    refine hQ_c _ _ ?_
    refine ⟨rfl, ?_⟩
    repeat kpc_turns
    have hp := suF_perm (lt := lt) (show g < ys.length by k_ne)
    refine ⟨g, Nat.lt_add_one _, hI_f _ _ ⟨suF lt ys g, _, rfl, ?_, ?_, ?_, ?_⟩⟩
    · rw [hp.length_eq]; omega
    · rw [hp.length_eq]; exact hl
    · exact fun v hv => hV' v (hp.mem_iff.mp hv)
    · rw [← hE]; rfl
theorem heappop_spec {p : Program} {w : World} {k : Nat} {hb : Heap} {V : Value → Prop} {lt : Value → Value → Bool} (B : Bs w hb) (hc : CmpLt p w k hb V lt) {l : Addr} {xs : List Value} {y : Value} {n : Nat}
    (hV : ∀ v ∈ xs, V v) (hy : V y) (h3 : xs.length < 2 ^ 19) :
    Fn p w (k + 3) hb (.ref 113) [.ref l] [(l, listO (xs ++ [y]) n)] (fun v nw' => (xs = [] ∧ v = y ∧ nw' = [(l, listO [] (n + 1))]) ∨ (xs ≠ [] ∧ v = xs.getD 0 .none ∧ nw' = [(l, listO (suF lt (xs.set 0 y) 0) (n + 1))])) := by
  refine Fn_def (["heap", "lastelt", "returnitem"] : List Str) [] B rfl (by kernel_rfl) (fun s _ => BindsTo.of_eq (binds := [(Str.ofString "heap", .ref l)]) rfl) (by kernel_rfl) (by decide +kernel) ?_
  rintro C ca hlen hC rfl rfl rfl hsc hcells _ _
  obtain rfl : ca = [] := List.length_eq_zero_iff.mp hlen
  refine ⟨_, _, .loc (kind_at hsc rfl) .head .nil, ?_⟩
  dsimp only [List.map, List.nil_append]
  repeat kpc_turns
  refine Ev_Meth "list" "list.pop" ?_ F.plainAttrs_list F.slot_list_pop F.type_list_pop
  repeat kpc_turns
  refine Ev_pop .head (by rw [sizeLine_eq]; k_ne) ?_
  repeat kpc_turns
  refine Ev_If ?_
  repeat kpc_turns
  refine Ev_truthyList (n := n + 1) (by kct_strs) (by k_ne) ?_
  cases xs with
  | nil =>
    refine onB_f ?_
    repeat kpc_turns
    exact Or.inl ⟨rfl, rfl, rfl⟩
  | cons x r =>
    refine onB_t ?_
    repeat kpc_turns
    refine Ev_subList (n := n + 1) (by kct_strs) (by k_ne) (by k_ne) (x := x) rfl ?_
    repeat kpc_turns
    refine Ev_setList (n := n + 1) (by kst_all1) (by k_ne) (by k_ne) (by simp) ?_
    rw [show Int.toNat 0 = 0 from rfl]
    repeat kpc_turns
    refine Ev_absQ fun Q_c hQ_c => ?_
    refine Ev_call (k := k + 2) [(l, listO ((x :: r).set 0 y) (n + 1))] (by kas_types) hC.R fun hb' kp => (siftup_spec (pos := 0) (B.keeps kp) (hc.up kp) ?_ (by simp) (by simp at h3 ⊢; omega)).mono ?_
    · intro v hv
      rcases List.mem_cons.mp hv with rfl | hv
      · exact hy
      · exact hV v (List.mem_cons_of_mem _ hv)
    · rintro _ _ ⟨rfl, rfl⟩
      refine hQ_c _ _ ?_
      refine ⟨rfl, ?_⟩
      repeat kpc_turns
      exact Or.inr ⟨by simp, rfl, rfl⟩
end
section
open PySem PySem.W PyProof.Rows PySem.Calls
set_option maxRecDepth 100000
theorem row_spec {p : Program} {w : World} {k : Nat} {hb : Heap} (B : Bs w hb) {x : Int} {t : Tok} :
    Fn p w (k + 1) hb (.ref 139) [.int x t] [] (fun v nw' => ∃ b t', v = .bytes b t' ∧ 1 ≤ b.size ∧ b.size ≤ 4) := by
  refine Fn_def ([] : List Str) ["x"] B rfl (by kernel_rfl) (fun s _ => BindsTo.of_eq (binds := [(Str.ofString "x", .int x t)]) rfl) (by kernel_rfl) (by decide +kernel) ?_
  rintro C ca hlen hC rfl rfl rfl hsc hcells _ _
  obtain ⟨cx, rfl⟩ : ∃ cx, ca = [cx] := List.length_eq_one_iff.mp hlen
  replace hcells : C.env.cells = [(Str.ofString "x", cx)] := hcells
  refine ⟨_, _, .cell (kind_at hsc rfl) (cell_at hcells cl_head) .head .nil, ?_⟩
  dsimp only [List.map, List.nil_append, List.cons_append, List.append]
  repeat kpc_turns
  refine Ev_ListComp ["k"] [("x", cx)] ?_ (clos_of hcells (by kernel_rfl))
  dsimp only
  repeat kpc_turns
  refine Ev_mod (by decide) fun _ => ?_
  repeat kpc_turns
  refine Ev_range1 fun r t1 u1 v1 => ?_
  obtain ⟨m, hm, hm4⟩ : ∃ m : Nat, 1 + x.fmod 4 = ((m + 1 : Nat) : Int) ∧ m < 4 := ⟨(x.fmod 4).toNat, by have := Int.fmod_nonneg_of_pos x (show (0:Int) < 4 by decide); have := Int.fmod_lt_of_pos x (show (0:Int) < 4 by decide); omega⟩
  rw [hm]
  refine Ev_iterN (by kct_strs) (by k_ne) fun it => ?_
  refine ⟨[_], _, Take.perm (by kas_types), fun C' acc X => ?_⟩
  have hC' := X.ok hC rfl
  have hsc' := X.sc' hsc
  have hcells' := X.cells
  have hx := X.cell (a := cx) (by repeat (first | with_reducible exact HasN.head | with_reducible apply HasN.tail))
  refine CompS.of rfl rfl (Ev_selfR (.tail .head) ⟨rfl, rfl⟩) ?_
  refine CompL.ind1o (fun n st => ∃ (i : Nat) (a : Option Value) (vs : List Value) (ns : List Int), st = ⟨[(Str.ofString "k", a)], [(acc, listO vs i), (it, itN i n)]⟩ ∧ n + i = m + 1 ∧ IntsAre vs ns ∧ ns.length = i ∧ ∀ z ∈ ns, 0 ≤ z ∧ z < 256) ?_ (m + 1)
      ⟨0, none, [], [], rfl, by k_ne, .nil, rfl, by simp⟩
  rintro I_n hI_n Q_n hQ_n n st ⟨i, a, vs, ns, hst, hn, hi, hl, hr⟩
  subst hst
  cases n with
  | zero =>
    refine Ev_endN hC'.R (.tail .head) (.tail .head) ?_
    refine drawK_n ?_
    refine hQ_n _ ?_
    dsimp only [List.cons_append, List.nil_append]
    repeat kpc_turns
    refine Ev_bytesInts hC.R.hd (n := i) (by kct_strs) hi hr (by rw [hi.length, sizeLine_eq]; k_ne) fun t' => ?_
    repeat kpc_turns
    refine ⟨_, _, rfl, ?_, ?_⟩ <;> rw [byteArr_size] <;> omega
  | succ g =>
    refine Ev_nextN (.tail .head) fun _ => ?_
    repeat kpc_turns
    refine Ev_assignN ?_
    repeat kpc_turns
    refine Ev_floordiv (by decide) (by decide) fun _ => ?_
    repeat kpc_turns
    refine Ev_powN (a := 256) (by have e : Builtin.Int.intBits ((256 : Nat) : Int) = 9 := by decide +kernel
                                  rw [e]; omega) fun _ => ?_
    have h256 : 256 ^ i ≤ 256 ^ 3 := Nat.pow_le_pow_right (by decide) (by k_ne)
    have h256' : 0 < 256 ^ i := Nat.pow_pos (by decide)
    refine Ev_floordiv (by k_ne) (by rw [Int.natAbs_natCast]; omega) fun _ => ?_
    repeat kpc_turns
    refine Ev_mod (by decide) fun _ => ?_
    repeat kpc_turns
    refine Ev_append (by kst_all1) (by rw [hi.length, sizeLine_eq]; k_ne) ?_
    refine ⟨g, Nat.lt_add_one _, hI_n _ _ ⟨i + 1, _, _, _, rfl, by k_ne, ints_snoc hi _ _, by rw [List.length_append, hl]; rfl, ?_⟩⟩
    intro z hz
    rcases List.mem_append.mp hz with hz | hz
    · exact hr z hz
    · obtain rfl := List.mem_singleton.mp hz
      exact ⟨Int.fmod_nonneg_of_pos _ (by decide), Int.fmod_lt_of_pos _ (by decide)⟩
end
section
open PySem PySem.W PyProof.Rows PySem.Calls
local macro_rules | `(tactic| kpc_turns) => `(tactic| with_reducible refine Ev_cons ?_)
set_option maxRecDepth 100000
theorem buffer_spec {p : Program} {w : World} {k : Nat} {hb : Heap} (B : Bs w hb) {b : Array UInt8} {t : Tok} :
    Fn p w (k + 1) hb (.ref 83) [.bytes b t] [] (fun v nw' => v = .bytes b t ∧ nw' = []) := by
  refine FnA.clean ?_
  refine Fn_def (["data", "t"] : List Str) [] B rfl (by kernel_rfl) (fun s _ => BindsTo.of_eq (binds := [(Str.ofString "data", .bytes b t)]) rfl) (by kernel_rfl) (by decide +kernel) ?_
  rintro C ca hlen hC rfl rfl rfl hsc hcells _ _
  obtain rfl : ca = [] := List.length_eq_zero_iff.mp hlen
  refine ⟨_, _, .loc (kind_at hsc rfl) .head .nil, ?_⟩
  dsimp only [List.map, List.nil_append]
  repeat kpc_turns
  refine Ev_typeOf ty_bytes ?_
  repeat kpc_turns
  refine Ev_If ?_
  repeat kpc_turns
  rfl
theorem truth_spec {p : Program} {w : World} {k : Nat} {hb : Heap} (B : Bs w hb) :
    Fn p w (k + 1) hb (.ref 90) [.bool false] [] (fun v nw' => v = .bool false ∧ nw' = []) := by
  refine FnA.clean ?_
  refine Fn_def (["x", "t"] : List Str) [] B rfl (by kernel_rfl) (fun s _ => BindsTo.of_eq (binds := [(Str.ofString "x", .bool false)]) rfl) (by kernel_rfl) (by decide +kernel) ?_
  rintro C ca hlen hC rfl rfl rfl hsc hcells _ _
  obtain rfl : ca = [] := List.length_eq_zero_iff.mp hlen
  refine ⟨_, _, .loc (kind_at hsc rfl) .head .nil, ?_⟩
  dsimp only [List.map, List.nil_append]
  repeat kpc_turns
  refine Ev_typeOf (T := "bool") rfl ?_
  repeat kpc_turns
  refine Ev_If ?_
  repeat kpc_turns
  rfl
def B64 (i : Nat) : Nat := (b64L.getD i 0).toNat
def bW : Nat → Nat → Nat → List Nat → Nat × List Nat
  | 0, _, lb, out => (lb, out)
  | f + 1, lc, lb, out => if 6 ≤ lb then bW f lc (lb - 6) (out ++ [B64 (lc / 2 ^ (lb - 6) % 2 ^ 6)]) else (lb, out)
def bF : List UInt8 → Nat → Nat → List Nat → Nat × Nat × List Nat
  | [], lc, lb, out => (lc, lb, out)
  | b :: r, lc, lb, out => bF r ((lc * 2 ^ 8 + b.toNat) % 2 ^ 16) (bW (lb + 8) ((lc * 2 ^ 8 + b.toNat) % 2 ^ 16) (lb + 8) out).1 (bW (lb + 8) ((lc * 2 ^ 8 + b.toNat) % 2 ^ 16) (lb + 8) out).2
def bE (x : Nat × Nat × List Nat) : List Nat :=
  if x.2.1 = 2 then x.2.2 ++ [B64 (x.1 % 2 ^ 2 * 2 ^ 4)] ++ [61] ++ [61] else if x.2.1 = 4 then x.2.2 ++ [B64 (x.1 % 2 ^ 4 * 2 ^ 2)] ++ [61] else x.2.2
def enc (bs : List UInt8) : List Nat := bE (bF bs 0 0 [])
def byteA (ns : List Nat) : Array UInt8 := byteArr (ns.map fun n : Nat => (n : Int))
theorem bW_lt : ∀ (f lc lb : Nat) (out : List Nat), lb ≤ f → (bW f lc lb out).1 < 6
  | 0, _, lb, _, h => by unfold bW; dsimp only; omega
  | f + 1, lc, lb, out, h => by
    unfold bW
    split
    · exact bW_lt f lc _ _ (by k_ne)
    · dsimp only; omega
theorem bW_len : ∀ (f lc lb : Nat) (out : List Nat), 6 * (bW f lc lb out).2.length + (bW f lc lb out).1 = 6 * out.length + lb
  | 0, _, lb, _ => rfl
  | f + 1, lc, lb, out => by
    unfold bW
    split
    · rw [bW_len f lc _ _, List.length_append, List.length_singleton]; omega
    · rfl
theorem B64_byte (i : Nat) : 0 ≤ ((B64 i : Nat) : Int) ∧ ((B64 i : Nat) : Int) < 256 := by
  unfold B64
  have := (b64L.getD i 0).toNat_lt
  omega
theorem bW_byte : ∀ (f lc lb : Nat) (out : List Nat), (∀ z ∈ out, z < 256) → ∀ z ∈ (bW f lc lb out).2, z < 256
  | 0, _, lb, _, h => h
  | f + 1, lc, lb, out, h => by
    unfold bW
    split
    · refine bW_byte f lc _ _ fun z hz => ?_
      rcases List.mem_append.mp hz with hz | hz
      · exact h z hz
      · obtain rfl := List.mem_singleton.mp hz
        have := B64_byte (lc / 2 ^ (lb - 6) % 2 ^ 6); omega
    · exact h
theorem natsAre {vs : List Value} {ns : List Nat} (h : IntsAre vs (ns.map fun n : Nat => (n : Int))) (n : Nat) (t : Tok) : IntsAre (vs ++ [.int n t]) ((ns ++ [n]).map fun n : Nat => (n : Int)) := by
  rw [List.map_append]; exact ints_snoc h _ _
theorem b2a_spec {p : Program} {w : World} {k : Nat} {hb : Heap} (B : Bs w hb) {b : List UInt8} {t : Tok} (hb4 : b.length ≤ 4) :
    FnA p w (k + 2) hb (.ref 98) ⟨[.bytes b.toArray t], [("newline", .bool false)]⟩ [] (fun v nw' => (∃ t', v = .bytes (byteA (enc b)) t') ∧ nw' = []) := by
  refine FnA.clean ?_
  refine Fn_def (["data", "newline", "bin_data", "out", "leftbits", "leftchar", "b"] : List Str) [] B rfl (by kernel_rfl) (fun s _ => BindsTo.of_eq (binds := [(Str.ofString "data", .bytes b.toArray t), (Str.ofString "newline", .bool false)]) rfl) (by kernel_rfl) (by decide +kernel) ?_
  rintro C ca hlen hC rfl rfl rfl hsc hcells _ _
  obtain rfl : ca = [] := List.length_eq_zero_iff.mp hlen
  refine ⟨_, _, .loc (kind_at hsc rfl) .head (.loc (kind_at hsc rfl) (.tail .head) .nil), ?_⟩
  dsimp only [List.map, List.nil_append]
  repeat kpc_turns
  refine Ev_absQ fun Q_c hQ_c => ?_
  refine Ev_call (k := k + 1) [] (by kas_types) hC.R fun hb' kp => (buffer_spec (B.keeps kp)).mono ?_
  rintro _ _ ⟨rfl, rfl⟩
  refine hQ_c _ _ ?_
  dsimp only [List.nil_append]
  repeat kpc_turns
  refine Ev_absQ fun Q_c hQ_c => ?_
  refine Ev_call (k := k + 1) [] (by kas_types) hC.R fun hb' kp => (truth_spec (B.keeps kp)).mono ?_
  rintro _ _ ⟨rfl, rfl⟩
  refine hQ_c _ _ ?_
  dsimp only [List.nil_append]
  repeat kpc_turns
  refine Ev_newList (fun l => ?_) (by decide)
  repeat kpc_turns
  refine Ev_For ?_
  repeat kpc_turns
  refine Ev_iterB fun it o ho => ?_
  refine LoopF.indo (fun f st => ∃ (i lc lb : Nat) (out : List Nat) (vs : List Value) (o : Obj) (t1 t2 : Tok) (a : Option Value),
      st = ⟨[(Str.ofString "data", some (Value.bytes b.toArray t)), (Str.ofString "newline", some (Value.bool false)), (Str.ofString "bin_data", some (Value.bytes b.toArray t)), (Str.ofString "out", some (.ref l)),
          (Str.ofString "leftbits", some (.int (lb : Nat) t1)), (Str.ofString "leftchar", some (.int (lc : Nat) t2)), (Str.ofString "b", a)], [(it, o), (l, listO vs out.length)]⟩ ∧
      ItB o b.toArray t i ∧ f + i = b.length ∧ IntsAre vs (out.map fun n : Nat => (n : Int)) ∧ (∀ z ∈ out, z < 256) ∧ lc < 2 ^ 16 ∧ lb < 6 ∧ 6 * out.length + lb = 8 * i ∧ bF (b.drop i) lc lb out = bF b 0 0 []) ?_ b.length
      ⟨0, 0, 0, [], [], o, _, _, none, rfl, ho, rfl, .nil, by simp, by decide, by decide, rfl, rfl⟩
  clear ho
  rintro I_f hI_f Q_f hQ_f f st ⟨i, lc, lb, out, vs, o, t1, t2, a, hst, ho, hf, hi, hz, hlc, hlb, hlen2, hE⟩
  subst hst
  have hvl : vs.length = out.length := by rw [hi.length, List.length_map]
  cases f with
  | zero =>
    refine Ev_endB hC.R ho .head .head (by simp; omega) ?_
    rw [List.drop_eq_nil_of_le (by k_ne)] at hE
    refine drawK_n ?_
    repeat kpc_turns
    have hen : enc b = bE (lc, lb, out) := by unfold enc; rw [← hE]; rfl
    refine Ev_mono (Q := fun f st1 => f = Flow.next ∧ ∃ (vs' : List Value) (n' : Nat), IntsAre vs' ((enc b).map fun n : Nat => (n : Int)) ∧ (∀ z ∈ enc b, z < 256) ∧ (enc b).length ≤ out.length + 3 ∧ 
      st1 = ⟨[(Str.ofString "data", some (Value.bytes b.toArray t)), (Str.ofString "newline", some (Value.bool false)), (Str.ofString "bin_data", some (Value.bytes b.toArray t)), (Str.ofString "out", some (.ref l)),
          (Str.ofString "leftbits", some (.int (lb : Nat) t1)), (Str.ofString "leftchar", some (.int (lc : Nat) t2)), (Str.ofString "b", a)], [(l, listO vs' n')]⟩) ?_ ?_
    · refine Ev_If ?_
      repeat kpc_turns
      by_cases h2 : lb = 2
      · subst h2
        rw [hen]
        refine onB_eq (c := true) rfl ?_
        have hB := (B64_byte (lc % 2 ^ 2 * 2 ^ 4)).2
        repeat kpc_turns
        refine Ev_maskN 2 rfl fun _ => ?_
        repeat kpc_turns
        have hlt2 : lc % 2 ^ 2 < 2 ^ 2 := Nat.mod_lt _ (by decide)
        refine Ev_lshiftN (b := 4) (by decide) (by k_ne) fun _ => ?_
        have hlt : lc % 2 ^ 2 * 2 ^ 4 < b64L.length := by show _ < 64; omega
        refine Ev_subB (l := b64L) (i := lc % 2 ^ 2 * 2 ^ 4) (x := b64L[lc % 2 ^ 2 * 2 ^ 4]) (by decide) (List.getElem?_eq_getElem hlt) fun _ => ?_
        have hBe : b64L[lc % 2 ^ 2 * 2 ^ 4].toNat = B64 (lc % 2 ^ 2 * 2 ^ 4) := by unfold B64; rw [List.getD_eq_getElem?_getD, List.getElem?_eq_getElem hlt]; rfl
        rw [hBe]
        repeat kpc_turns
        refine Ev_append (by kst_all1) (by simp only [List.length_append, List.length_singleton, hvl, sizeLine_eq]; k_ne) ?_
        refine ⟨rfl, ?_⟩
        repeat kpc_turns
        refine Ev_append (by kst_all1) (by simp only [List.length_append, List.length_singleton, hvl, sizeLine_eq]; k_ne) ?_
        refine ⟨rfl, ?_⟩
        repeat kpc_turns
        refine Ev_append (by kst_all1) (by simp only [List.length_append, List.length_singleton, hvl, sizeLine_eq]; k_ne) ?_
        refine ⟨rfl, ?_⟩
        repeat kpc_turns
        refine ⟨rfl, _, _, natsAre (natsAre (natsAre hi _ _) 61 _) 61 _, ?_, ?_, rfl⟩
        · intro z hz'
          simp only [bE, if_true, List.mem_append, List.mem_singleton] at hz'
          rcases hz' with ((hz' | rfl) | rfl) | rfl
          · exact hz z hz'
          · omega
          · omega
          · omega
        · simp [bE]
      · refine onB_eq (c := false) (by simp; omega) ?_
        repeat kpc_turns
        refine Ev_If ?_
        repeat kpc_turns
        by_cases h4 : lb = 4
        · subst h4
          rw [hen]
          refine onB_eq (c := true) rfl ?_
          have hB := (B64_byte (lc % 2 ^ 4 * 2 ^ 2)).2
          repeat kpc_turns
          refine Ev_maskN 4 rfl fun _ => ?_
          repeat kpc_turns
          have hlt2 : lc % 2 ^ 4 < 2 ^ 4 := Nat.mod_lt _ (by decide)
          refine Ev_lshiftN (b := 2) (by decide) (by k_ne) fun _ => ?_
          have hlt : lc % 2 ^ 4 * 2 ^ 2 < b64L.length := by show _ < 64; omega
          refine Ev_subB (l := b64L) (i := lc % 2 ^ 4 * 2 ^ 2) (x := b64L[lc % 2 ^ 4 * 2 ^ 2]) (by decide) (List.getElem?_eq_getElem hlt) fun _ => ?_
          have hBe : b64L[lc % 2 ^ 4 * 2 ^ 2].toNat = B64 (lc % 2 ^ 4 * 2 ^ 2) := by unfold B64; rw [List.getD_eq_getElem?_getD, List.getElem?_eq_getElem hlt]; rfl
          rw [hBe]
          repeat kpc_turns
          refine Ev_append (by kst_all1) (by simp only [List.length_append, List.length_singleton, hvl, sizeLine_eq]; k_ne) ?_
          refine ⟨rfl, ?_⟩
          repeat kpc_turns
          refine Ev_append (by kst_all1) (by simp only [List.length_append, List.length_singleton, hvl, sizeLine_eq]; k_ne) ?_
          refine ⟨rfl, ?_⟩
          repeat kpc_turns
          refine ⟨rfl, _, _, natsAre (natsAre hi _ _) 61 _, ?_, ?_, rfl⟩
          · intro z hz'
            simp only [bE, if_true, if_neg (show ¬ (4 = 2) by decide), List.mem_append, List.mem_singleton] at hz'
            rcases hz' with (hz' | rfl) | rfl
            · exact hz z hz'
            · omega
            · omega
          · simp [bE]
        · refine onB_eq (c := false) (by simp; omega) ?_
          repeat kpc_turns
          have he : enc b = out := by rw [hen]; unfold bE; dsimp only; rw [if_neg h2, if_neg h4]
          rw [he]
          exact ⟨rfl, _, _, hi, hz, by k_ne, rfl⟩
    · rintro _ _ ⟨rfl, vs', n', hi', hz', hl', rfl⟩
      repeat kpc_turns
      refine Ev_If ?_
      repeat kpc_turns
      refine Ev_bytesInts hC.R.hd (n := n') (by kct_strs) hi' ?_ (by rw [hi'.length, List.length_map, sizeLine_eq]; k_ne) fun t' => ?_
      · intro z hz2
        obtain ⟨y, hy, rfl⟩ := List.mem_map.mp hz2
        have := hz' y hy
        omega
      repeat kpc_turns
      exact ⟨t', rfl⟩
  | succ g =>
    have hib : i < b.length := by k_ne
    refine Ev_nextB (g := fun o => [(it, o), (l, listO vs out.length)]) ho (fun _ => .head) (c := b[i]) (by simp [hib]) fun o' u ho' => ?_
    clear ho o
    repeat kpc_turns
    refine Ev_assignN ?_
    repeat kpc_turns
    refine Ev_lshiftN (b := 8) (by decide) (by k_ne) fun _ => ?_
    repeat kpc_turns
    have hby : b[i].toNat < 2 ^ 8 := b[i].toNat_lt
    refine Ev_bitorN (k := 8) hby fun _ => ?_
    repeat kpc_turns
    refine Ev_maskN 16 rfl fun _ => ?_
    repeat kpc_turns
    rw [List.drop_eq_getElem_cons hib] at hE
    rw [bF] at hE
    generalize hlc' : (lc * 2 ^ 8 + b[i].toNat) % 2 ^ 16 = lc' at hE ⊢
    have hlc2 : lc' < 2 ^ 16 := by rw [← hlc']; exact Nat.mod_lt _ (by decide)
    rw [show (lb : Int) + 8 = ((lb + 8 : Nat) : Int) by k_ne]
    refine LoopW.indo (fun f st => ∃ (lb2 : Nat) (out2 : List Nat) (vs2 : List Value) (t1 t2 : Tok),
      st = ⟨[(Str.ofString "data", some (Value.bytes b.toArray t)), (Str.ofString "newline", some (Value.bool false)), (Str.ofString "bin_data", some (Value.bytes b.toArray t)), (Str.ofString "out", some (.ref l)),
          (Str.ofString "leftbits", some (.int (lb2 : Nat) t1)), (Str.ofString "leftchar", some (.int (lc' : Nat) t2)), (Str.ofString "b", some (.int (b[i].toNat : Int) u))], [(it, o'), (l, listO vs2 out2.length)]⟩ ∧
      lb2 ≤ f ∧ IntsAre vs2 (out2.map fun n : Nat => (n : Int)) ∧ (∀ z ∈ out2, z < 256) ∧ 6 * out2.length + lb2 = 6 * out.length + (lb + 8) ∧ bW f lc' lb2 out2 = bW (lb + 8) lc' (lb + 8) out) ?_ (lb + 8)
      ⟨lb + 8, out, vs, _, _, rfl, Nat.le_refl _, hi, hz, rfl, rfl⟩
    rintro I_f2 hI_f2 Q_f2 hQ_f2 f2 st ⟨lb2, out2, vs2, t1', t2', hst, hf2, hi2, hz2, hl2, hE2⟩
    subst hst
    have hvl2 : vs2.length = out2.length := by rw [hi2.length, List.length_map]
    repeat kpc_turns
    by_cases h6 : 6 ≤ lb2
    · refine onB_dt (by k_ne) ?_
      obtain ⟨f3, rfl⟩ : ∃ f3, f2 = f3 + 1 := ⟨f2 - 1, by k_ne⟩
      repeat kpc_turns
      rw [show (lb2 : Int) - 6 = ((lb2 - 6 : Nat) : Int) by k_ne]
      refine Ev_rshiftN (b := lb2 - 6) fun _ => ?_
      repeat kpc_turns
      refine Ev_maskN 6 rfl fun _ => ?_
      have hlt : lc' / 2 ^ (lb2 - 6) % 2 ^ 6 < b64L.length := Nat.mod_lt _ (by decide)
      refine Ev_subB (l := b64L) (i := lc' / 2 ^ (lb2 - 6) % 2 ^ 6) (x := b64L[lc' / 2 ^ (lb2 - 6) % 2 ^ 6]) (by decide) (List.getElem?_eq_getElem hlt) fun _ => ?_
      have hBe : b64L[lc' / 2 ^ (lb2 - 6) % 2 ^ 6].toNat = B64 (lc' / 2 ^ (lb2 - 6) % 2 ^ 6) := by unfold B64; rw [List.getD_eq_getElem?_getD, List.getElem?_eq_getElem hlt]; rfl
      rw [hBe]
      repeat kpc_turns
      refine Ev_append (by kst_all1) (by rw [hvl2, sizeLine_eq]; k_ne) ?_
      refine ⟨rfl, ?_⟩
      repeat kpc_turns
      rw [show (lb2 : Int) - 6 = ((lb2 - 6 : Nat) : Int) by k_ne]
      refine ⟨f3, Nat.lt_add_one _, hI_f2 _ _ ⟨lb2 - 6, out2 ++ [_], _, _, _, by rw [List.length_append]; rfl, by k_ne, natsAre hi2 _ _, ?_, by rw [List.length_append, List.length_singleton]; omega, ?_⟩⟩
      · intro z hz
        rcases List.mem_append.mp hz with hz | hz
        · exact hz2 z hz
        · obtain rfl := List.mem_singleton.mp hz
          have := B64_byte (lc' / 2 ^ (lb2 - 6) % 2 ^ 6); omega
      · rw [← hE2]
        conv => rhs; unfold bW
        rw [if_pos h6]
    · refine onB_df (by k_ne) ?_
      have hR2 : bW f2 lc' lb2 out2 = (lb2, out2) := by
        cases f2 with
        | zero => rfl
        | succ f3 => unfold bW; rw [if_neg h6]
      rw [hR2] at hE2
      rw [← hE2] at hE
      repeat kpc_turns
      exact ⟨g, Nat.lt_add_one _, hI_f _ _ ⟨i + 1, lc', lb2, out2, vs2, o', _, _, _, rfl, ho', by k_ne, hi2, hz2, hlc2, by k_ne, by k_ne, hE⟩⟩
end
section
open PySem PySem.W PyProof.Rows PySem.Calls
set_option maxRecDepth 100000
theorem b64_spec {p : Program} {w : World} {k : Nat} {hb : Heap} (B : Bs w hb) {b : List UInt8} {t : Tok} (hb4 : b.length ≤ 4) :
    Fn p w (k + 3) hb (.ref 106) [.bytes b.toArray t] [] (fun v nw' => (∃ t', v = .bytes (byteA (enc b)) t') ∧ nw' = []) := by
  refine FnA.clean ?_
  refine Fn_def (["s", "altchars", "encoded"] : List Str) [] B rfl (by kernel_rfl) (binds := [(Str.ofString "s", .bytes b.toArray t), (Str.ofString "altchars", .none)]) (fun s X => kp_binds X (fun _ => by kernel_rfl)) (by kernel_rfl) (by decide +kernel) ?_
  rintro C ca hlen hC rfl rfl rfl hsc hcells _ _
  obtain rfl : ca = [] := List.length_eq_zero_iff.mp hlen
  refine ⟨_, _, .loc (kind_at hsc rfl) .head (.loc (kind_at hsc rfl) (.tail .head) .nil), ?_⟩
  dsimp only [List.map, List.nil_append]
  repeat kpc_turns
  refine Ev_CallN ?_ (by decide +kernel)
  repeat kpc_turns
  refine Ev_callWith (Ev_evalArgsK (by rfl) (by rfl) ?_)
  repeat kpc_turns
  refine Ev_evalAll_cons ?_
  refine Ev_bind ?_
  repeat kpc_turns
  refine Ev_bind (Ev_standAt (Ev_pure ?_))
  refine Ev_evalAll_nil ?_
  refine ⟨callee_K hC (by kernel_rfl), ?_⟩
  show Ev C (call (.ref 98) [.bytes b.toArray t] [("newline", .bool false)]) _ _
  refine Ev_absQ fun Q_c hQ_c => ?_
  refine Ev_call (k := k + 2) [] (by kas_types) hC.R fun hb' kp => (b2a_spec (B.keeps kp) hb4).mono ?_
  rintro _ _ ⟨⟨t', rfl⟩, rfl⟩
  refine hQ_c _ _ ?_
  dsimp only [List.nil_append]
  repeat kpc_turns
  refine Ev_If ?_
  repeat kpc_turns
  exact ⟨_, rfl⟩
end
section
open PySem PySem.W PyProof.Rows PySem.Calls
set_option maxRecDepth 100000
theorem lit_star : Str.ofString "*" = S [42] := rfl
theorem lit_q : Str.ofString "?" = S [63] := rfl
theorem lit_sb : Str.ofString "[" = S [91] := rfl
theorem lit_ex : Str.ofString "!" = S [33] := rfl
theorem lit_eb : Str.ofString "]" = S [93] := rfl
theorem lit_mi : Str.ofString "-" = S [45] := rfl
theorem lit_bs : Str.ofString "\\" = S [92] := rfl
theorem lit_bs2 : Str.ofString "\\\\" = S [92, 92] := rfl
theorem lit_ca : Str.ofString "^" = S [94] := rfl
theorem lit_e : Str.ofString "" = S [] := rfl
theorem lit_dot : Str.ofString "." = S [46] := rfl
theorem escape_spec {p : Program} {w : World} {k : Nat} {hb : Heap} (B : Bs w hb) {c : Nat} {t : Tok} (hc : c ∈ alphaL) :
    Fn p w (k + 1) hb (.ref 62) [.str (S [c]) t] [] (fun v nw' => (∃ t', v = .str (S (escC c)) t') ∧ nw' = []) := by
  refine FnA.clean ?_
  refine Fn_def (["pattern"] : List Str) [] B rfl (by kernel_rfl) (fun s _ => BindsTo.of_eq (binds := [(Str.ofString "pattern", .str (S [c]) t)]) rfl) (by kernel_rfl) (by decide +kernel) ?_
  rintro C ca hlen hC rfl rfl rfl hsc hcells _ _
  obtain rfl : ca = [] := List.length_eq_zero_iff.mp hlen
  refine ⟨_, _, .loc (kind_at hsc rfl) .head .nil, ?_⟩
  dsimp only [List.map, List.nil_append]
  repeat kpc_turns
  refine Ev_If ?_
  repeat kpc_turns
  refine Ev_isiStr ?_
  repeat kpc_turns
  refine Ev_Meth "str" "str.translate" ?_ F.plainAttrs_str F.slot_str_translate F.type_str_translate
  repeat kpc_turns
  refine Ev_translate1 hC hc fun t' => ?_
  repeat kpc_turns
  exact ⟨t', rfl⟩
def lamPos : Pos := ⟨66, 39, 66, 76⟩
theorem strs_last {vs : List Value} {v : Value} : ∀ {xs : List Str}, StrsAre (vs ++ [v]) xs → ∃ z tz, v = .str z tz := by
  induction vs with
  | nil => intro xs h; cases h with | cons y t _ => exact ⟨y, t, rfl⟩
  | cons a r ih => intro xs h; cases h with | cons y t h => exact ih h
inductive Shape : List Nat → List (List Nat) → Prop
  | star : Shape [42] []
  | sign {c r o} : c ∈ alphaL → Shape r o → Shape (c :: r) (escC c :: o)
  | set {cs r o} : SetOk cs → Shape r o → Shape (91 :: (cs ++ 93 :: r)) ((91 :: (cs ++ [93])) :: o)
theorem alpha_not {c : Nat} (h : c ∈ alphaL) : c ≠ 42 ∧ c ≠ 63 ∧ c ≠ 91 ∧ c ≠ 33 ∧ c ≠ 93 ∧ c ≠ 94 ∧ c ≠ 45 := by
  have : alphaL.all (fun c => c != 42 && c != 63 && c != 91 && c != 33 && c != 93 && c != 94 && c != 45) = true := by decide +kernel
  have := List.all_eq_true.mp this c h
  simp only [Bool.and_eq_true, bne_iff_ne] at this
  exact ⟨this.1.1.1.1.1.1, this.1.1.1.1.1.2, this.1.1.1.1.2, this.1.1.1.2, this.1.1.2, this.1.2, this.2⟩
set_option maxHeartbeats 2000000 in
theorem translate2_spec {p : Program} {w : World} {k : Nat} {hb : Heap} (B : Bs w hb) {P : List Nat} {O : List (List Nat)} {t u : Tok} {star : Addr} {ps : Array Value} (hps : TabSt lamPos ps) (hsh : Shape P O) (hP : P.length < 2 ^ 20) :
    Fn p w (k + 3) hb (.ref 69) [.str (S P) t, .ref star, .str (S [46]) u] [(star, obO), (64, tabObj ps)] (fun v nw' => ∃ l vs n ps', v = .ref l ∧ StrsAre vs (O.map S) ∧ TabSt lamPos ps' ∧ nw' = [(l, listO (vs ++ [.ref star]) n), (star, obO), (64, tabObj ps')]) := by
  refine Fn_def (["pat", "STAR", "QUESTION_MARK", "res", "add", "i", "n", "c", "j", "stuff"] : List Str) [] B rfl (by kernel_rfl) (fun s _ => BindsTo.of_eq (binds := [(Str.ofString "pat", .str (S P) t), (Str.ofString "STAR", .ref star), (Str.ofString "QUESTION_MARK", .str (S [46]) u)]) rfl) (by kernel_rfl) (by decide +kernel) ?_
  rintro C ca hlen hC rfl rfl rfl hsc hcells _ _
  obtain rfl : ca = [] := List.length_eq_zero_iff.mp hlen
  refine ⟨_, _, .loc (kind_at hsc rfl) .head (.loc (kind_at hsc rfl) (.tail .head) (.loc (kind_at hsc rfl) (.tail (.tail .head)) .nil)), ?_⟩
  dsimp only [List.map, List.nil_append]
  simp only [lit_star, lit_q, lit_sb, lit_ex, lit_eb, lit_mi, lit_bs, lit_bs2, lit_ca, lit_e, lit_dot]
  repeat kpc_turns
  refine Ev_newList (fun l => ?_) (by decide)
  repeat kpc_turns
  refine Ev_getAppend (xs := []) (n := 0) (Or.inl HasN.head.mem) fun q => ?_
  repeat kpc_turns
  refine Ev_AssignSw (names := ["i", "n"]) hC.R.hd ?_ (by kernel_rfl) (by rw [env_sc hsc]; kernel_rfl)
  repeat kpc_turns
  refine Ev_lenS (by k_ne) fun tn => ?_
  repeat kpc_turns
  refine Ev_newTuple (fun tp => ?_) (by show (2 : Nat) ≤ _; rw [sizeLine_eq]; k_ne)
  refine ⟨_, _, rfl, At.own .head, rfl, ?_⟩
  simp only [List.reverse_cons, List.reverse_nil, List.nil_append, List.cons_append]
  repeat kpc_turns
  refine LoopW.take (t := [(q, bmO l), (l, listO [] 0), (star, obO), (64, tabObj ps)]) (by kas_types) ?_
  refine LoopW.indo (fun f st => ∃ (i : Nat) (vs' : List Value) (n' : Nat) (ti tn : Tok) (cc jj ss : Option Value) (ps : Array Value),
      st = ⟨[(Str.ofString "pat", some (Value.str (S P) t)), (Str.ofString "STAR", some (Value.ref star)),
          (Str.ofString "QUESTION_MARK", some (Value.str (S [46]) u)), (Str.ofString "res", some (Value.ref l)),
          (Str.ofString "add", some (Value.ref q)), (Str.ofString "i", some (Value.int (i : Nat) ti)), (Str.ofString "n", some (Value.int (P.length : Nat) tn)), (Str.ofString "c", cc),
          (Str.ofString "j", jj), (Str.ofString "stuff", ss)], [(q, bmO l), (l, listO vs' n'), (star, obO), (64, tabObj ps)]⟩ ∧ TabSt lamPos ps ∧ f + i = P.length ∧
      ((∃ (o ws : List (List Nat)), Shape (P.drop i) o ∧ StrsAre vs' (ws.map S) ∧ ws ++ o = O ∧ ws.length ≤ i) ∨ (i = P.length ∧ ∃ vs, StrsAre vs (O.map S) ∧ vs' = vs ++ [.ref star]))) ?_ P.length
      ⟨0, [], 0, _, _, none, none, none, ps, rfl, hps, rfl, Or.inl ⟨O, [], hsh, .nil, rfl, Nat.le_refl _⟩⟩
  rintro I_f hI_f Q_f hQ_f f st ⟨i, vs', n', ti, tn, cc, jj, ss, ps', hst, hps', hf, hI⟩
  subst hst
  repeat kpc_turns
  rcases hI with ⟨o, ws, hs, hvs, hO, hwl⟩ | ⟨rfl, vs, hvs, rfl⟩
  · have hlv : vs'.length = ws.length := by rw [strs_len hvs, List.length_map]
    generalize hR : P.drop i = R at hs
    have hi : i < P.length := by
      rcases Nat.lt_or_ge i P.length with h | h
      · exact h
      · rw [List.drop_eq_nil_of_le h] at hR
        subst hR
        cases hs
    refine onB_dt (by k_ne) ?_
    have hc0 : P.drop i = P[i] :: P.drop (i + 1) := List.drop_eq_getElem_cons hi
    obtain ⟨g, rfl⟩ : ∃ g, f = g + 1 := ⟨f - 1, by k_ne⟩
    repeat kpc_turns
    refine Ev_subSN (c := P[i]) (by k_ne) (List.getElem?_eq_getElem hi) fun _ => ?_
    repeat kpc_turns
    rw [show (i : Int) + 1 = ((i + 1 : Nat) : Int) by k_ne]
    generalize hPi : P[i] = c at hc0 ⊢
    rw [hR] at hc0
    refine Ev_If ?_
    repeat kpc_turns
    refine Ev_eqS ?_
    repeat kpc_turns
    cases hs with
    | star =>
      injection hc0 with h1 h2
      subst h1
      refine onB_eq (c := true) rfl ?_
      rw [List.append_nil] at hO
      subst hO
      have hlast : i + 1 = P.length := by
        have := congrArg List.length h2
        simp at this; omega
      repeat kpc_turns
      refine Ev_mono (Q := fun f st1 => f = Flow.next ∧ ∃ (m : Nat) (ti2 : Tok) (c2 : Option Value), st1 = ⟨[(Str.ofString "pat", some (Value.str (S P) t)), (Str.ofString "STAR", some (Value.ref star)),
          (Str.ofString "QUESTION_MARK", some (Value.str (S [46]) u)), (Str.ofString "res", some (Value.ref l)),
          (Str.ofString "add", some (Value.ref q)), (Str.ofString "i", some (Value.int ((i + 1 : Nat) : Int) ti2)), (Str.ofString "n", some (Value.int (P.length : Nat) tn)), (Str.ofString "c", c2),
          (Str.ofString "j", jj), (Str.ofString "stuff", ss)], [(q, bmO l), (l, listO (vs' ++ [.ref star]) m), (star, obO), (64, tabObj ps')]⟩) (Ev_If ?_) ?_
      · repeat kpc_turns
        refine Ev_truthyList (n := n') (by kct_strs) (by k_ne) ?_
        rw [Bool.not_not]
        rcases List.eq_nil_or_concat vs' with rfl | ⟨vs0, v0, rfl⟩
        · refine onB_t ?_
          repeat kpc_turns
          refine ⟨callee_bmO (by kct_strs), ?_⟩
          refine Ev_append_bm (by kct_strs) (by kst_all1) (by simp) ?_
          refine ⟨rfl, ?_⟩
          repeat kpc_turns
          exact ⟨rfl, _, _, _, rfl⟩
        · refine onB_eq (c := false) (by simp) ?_
          repeat kpc_turns
          refine Ev_neg fun _ => ?_
          rw [List.concat_eq_append] at hlv hvs ⊢
          rw [List.length_append] at hlv
          refine Ev_negIdxL (n := n') (by kct_strs) (by k_ne) ?_
          obtain ⟨z, tz, rfl⟩ : ∃ z tz, v0 = .str z tz := strs_last hvs
          repeat kpc_turns
          refine ⟨callee_bmO (by kct_strs), ?_⟩
          refine Ev_append_bm (by kct_strs) (by kst_all1) (by rw [List.length_append, sizeLine_eq]; k_ne) ?_
          refine ⟨rfl, ?_⟩
          repeat kpc_turns
          exact ⟨rfl, _, _, _, rfl⟩
      · rintro _ _ ⟨rfl, m, ti2, c2, rfl⟩
        repeat kpc_turns
        exact ⟨g, Nat.lt_add_one _, hI_f _ _ ⟨i + 1, _, _, _, _, _, _, _, _, rfl, hps', by k_ne, Or.inr ⟨hlast, _, hvs, rfl⟩⟩⟩
    | @sign c' r o2 hca hs2 =>
      injection hc0 with h1 h2
      subst h1
      obtain ⟨n1, n2, n3, n4, n5, n6, n7⟩ := alpha_not hca
      refine onB_eq (c := false) (by simp [n1]) ?_
      repeat kpc_turns
      refine Ev_If ?_
      repeat kpc_turns
      refine Ev_eqS ?_
      repeat kpc_turns
      refine onB_eq (c := false) (by simp [n2]) ?_
      repeat kpc_turns
      refine Ev_If ?_
      repeat kpc_turns
      refine Ev_eqS ?_
      repeat kpc_turns
      refine onB_eq (c := false) (by simp [n3]) ?_
      repeat kpc_turns
      refine Ev_absQ fun Q_c hQ_c => ?_
      refine Ev_call (k := k + 2) [] (by kas_types) hC.R fun hb' kp => (escape_spec (k := k + 1) (B.keeps kp) hca).mono ?_
      rintro _ _ ⟨⟨te, rfl⟩, rfl⟩
      refine hQ_c _ _ ?_
      dsimp only [List.nil_append]
      repeat kpc_turns
      refine ⟨callee_bmO (by kct_strs), ?_⟩
      refine Ev_append_bm (by kct_strs) (by kst_all1) (by rw [sizeLine_eq]; k_ne) ?_
      refine ⟨rfl, ?_⟩
      repeat kpc_turns
      refine ⟨g, Nat.lt_add_one _, hI_f _ _ ⟨i + 1, _, _, _, _, _, _, _, _, rfl, hps', by k_ne, Or.inl ⟨_, ws ++ [escC c'], by rw [← h2]; exact hs2, ?_, by rw [List.append_assoc]; exact hO, by rw [List.length_append, List.length_singleton]; omega⟩⟩⟩
      rw [List.map_append]
      exact strs_app hvs (.cons _ _ .nil)
    | @set cs r o2 hset hs2 =>
      injection hc0 with h1 h2
      subst h1
      refine onB_eq (c := false) rfl ?_
      repeat kpc_turns
      refine Ev_If ?_
      repeat kpc_turns
      refine Ev_eqS ?_
      repeat kpc_turns
      refine onB_eq (c := false) rfl ?_
      repeat kpc_turns
      refine Ev_If ?_
      repeat kpc_turns
      refine Ev_eqS ?_
      repeat kpc_turns
      refine onB_eq (c := true) rfl ?_
      obtain ⟨hne, hal, hlen16⟩ := hset.alpha
      have hin : ∀ j, j < cs.length → P[i + 1 + j]? = cs[j]? := fun j hj => by
        rw [← List.getElem?_drop, ← h2, List.getElem?_append_left hj]
      have hend : P[i + 1 + cs.length]? = some 93 := by
        rw [← List.getElem?_drop, ← h2, List.getElem?_append_right (Nat.le_refl _)]; simp
      have hlt : i + 1 + cs.length < P.length := (List.getElem?_eq_some_iff.mp hend).1
      obtain ⟨c0, cr, hcs⟩ : ∃ c0 cr, cs = c0 :: cr := by
        cases cs with
        | nil => exact absurd rfl hne
        | cons a b => exact ⟨a, b, rfl⟩
      have hcp : 0 < cs.length := by rw [hcs]; simp
      have h0 : P[i + 1]? = some c0 := by have := hin 0 hcp; rw [hcs] at this; simpa using this
      have hc0s : cs[0]? = some c0 := by rw [hcs]; rfl
      obtain ⟨n1, n2, n3, n4, n5, n6, n7⟩ := alpha_not (hal c0 (by rw [hcs]; exact List.mem_cons_self))
      repeat kpc_turns
      refine Ev_If ?_
      repeat kpc_turns
      refine onB_dt (by k_ne) ?_
      repeat kpc_turns
      refine Ev_subSN (c := c0) (by k_ne) h0 fun _ => ?_
      repeat kpc_turns
      refine Ev_eqS ?_
      repeat kpc_turns
      refine onB_eq (c := false) (by simp [n4]) ?_
      repeat kpc_turns
      refine Ev_If ?_
      repeat kpc_turns
      refine onB_dt (by k_ne) ?_
      repeat kpc_turns
      refine Ev_subSN (c := c0) (by k_ne) h0 fun _ => ?_
      repeat kpc_turns
      refine Ev_eqS ?_
      repeat kpc_turns
      refine onB_eq (c := false) (by simp [n5]) ?_
      repeat kpc_turns
      refine LoopW.indo (fun f2 st => ∃ (j : Nat) (tj ti2 : Tok) (c2 : Option Value), st = ⟨[(Str.ofString "pat", some (Value.str (S P) t)), (Str.ofString "STAR", some (Value.ref star)),
          (Str.ofString "QUESTION_MARK", some (Value.str (S [46]) u)), (Str.ofString "res", some (Value.ref l)),
          (Str.ofString "add", some (Value.ref q)), (Str.ofString "i", some (Value.int ((i + 1 : Nat) : Int) ti2)), (Str.ofString "n", some (Value.int (P.length : Nat) tn)), (Str.ofString "c", c2),
          (Str.ofString "j", some (Value.int ((i + 1 + j : Nat) : Int) tj)), (Str.ofString "stuff", ss)], [(q, bmO l), (l, listO vs' n'), (star, obO), (64, tabObj ps')]⟩ ∧ f2 + j = cs.length) ?_ cs.length
          ⟨0, _, _, _, rfl, rfl⟩
      rintro I_f2 hI_f2 Q_f2 hQ_f2 f2 st ⟨j, tj, ti2, c2, hst, hf2⟩
      subst hst
      repeat kpc_turns
      refine onB_dt (by k_ne) ?_
      repeat kpc_turns
      cases f2 with
      | succ f3 =>
        have hj : j < cs.length := by k_ne
        refine Ev_subSN (c := cs[j]) (by k_ne) (by rw [hin j hj]; exact List.getElem?_eq_getElem hj) fun _ => ?_
        repeat kpc_turns
        refine Ev_neS ?_
        repeat kpc_turns
        have hn := (alpha_not (hal cs[j] (List.getElem_mem hj))).2.2.2.2.1
        refine onB_eq (c := true) (by simp [hn]) ?_
        repeat kpc_turns
        rw [show ((i + 1 + j : Nat) : Int) + 1 = ((i + 1 + (j + 1) : Nat) : Int) by k_ne]
        exact ⟨f3, Nat.lt_add_one _, hI_f2 _ _ ⟨j + 1, _, _, _, rfl, by k_ne⟩⟩
      | zero =>
        obtain rfl : j = cs.length := by k_ne
        refine Ev_subSN (c := 93) (by k_ne) hend fun _ => ?_
        repeat kpc_turns
        refine Ev_neS ?_
        repeat kpc_turns
        refine onB_eq (c := false) rfl ?_
        repeat kpc_turns
        refine Ev_If ?_
        repeat kpc_turns
        refine onB_df (by k_ne) ?_
        repeat kpc_turns
        intro sl
        refine Ev_subSliceS (some (_, _)) (some (_, _)) (At.own .head) (by rw [sizeLine_eq]; k_ne) fun _ => ?_
        have hsl : slc P (some ((i + 1 : Nat) : Int)) (some ((i + 1 + cs.length : Nat) : Int)) = cs := by
          rw [slc_mid P _ _ (by k_ne) (by k_ne), List.drop_take, ← h2]
          rw [show i + 1 + cs.length - (i + 1) = cs.length by k_ne]
          simp
        dsimp only [Option.map]
        rw [hsl]
        repeat kpc_turns
        refine Ev_take (t := [(q, bmO l), (l, listO vs' n'), (star, obO), (64, tabObj ps')]) (by kas_types) ?_
        refine Ev_If ?_
        repeat kpc_turns
        refine Ev_notInS1 ?_
        repeat kpc_turns
        refine onB_eq (c := true) (by simp; exact fun h => (alpha_not (hal _ h)).2.2.2.2.2.2 rfl) ?_
        repeat kpc_turns
        refine Ev_replace0 hset fun _ => ?_
        repeat kpc_turns
        refine Ev_Meth "re.Pattern" "re.Pattern.sub" ?_ re_plain re_slot re_type
        repeat kpc_turns
        refine ⟨ty_re hC, ?_⟩
        repeat kpc_turns
        refine Ev_Lambda (g := fun ps => [(q, bmO l), (l, listO vs' n'), (star, obO), (64, tabObj ps)]) hC (by assumption) rfl (clos_of hcells (by kernel_rfl)) (fun _ => .tail (.tail (.tail .head))) hps' fun fa fo ps2 hps2 hfo => ?_
        repeat kpc_turns
        refine Ev_reSub hC hset (At.own .head) hfo.c fun _ => ?_
        repeat kpc_turns
        rw [show ((i + 1 + cs.length : Nat) : Int) + 1 = ((i + 1 + cs.length + 1 : Nat) : Int) by k_ne]
        repeat kpc_turns
        refine Ev_If ?_
        repeat kpc_turns
        refine Ev_truthyS (by k_ne) ?_
        refine onB_eq (c := false) (by rw [hcs]; rfl) ?_
        repeat kpc_turns
        refine Ev_If ?_
        repeat kpc_turns
        refine Ev_eqS ?_
        repeat kpc_turns
        refine onB_eq (c := false) (by rw [hcs]; simp [n4]) ?_
        repeat kpc_turns
        refine Ev_If ?_
        repeat kpc_turns
        refine Ev_subSN (i := 0) (c := c0) (by decide) hc0s fun _ => ?_
        repeat kpc_turns
        refine Ev_eqS ?_
        repeat kpc_turns
        refine onB_eq (c := false) (by simp [n4]) ?_
        repeat kpc_turns
        refine Ev_If ?_
        repeat kpc_turns
        refine Ev_subSN (i := 0) (c := c0) (by decide) hc0s fun _ => ?_
        repeat kpc_turns
        refine Ev_newTuple (fun tp2 => ?_) (by show (2 : Nat) ≤ _; rw [sizeLine_eq]; k_ne)
        refine Ev_inTup2 (a := 94) (b := 91) (At.own .head) ?_
        repeat kpc_turns
        refine onB_eq (c := false) (by simp; exact ⟨fun h => n6 h.symm, fun h => n3 h.symm⟩) ?_
        repeat kpc_turns
        refine ⟨[91], _, rfl, by rw [sizeLine_eq]; simp, ?_⟩
        repeat kpc_turns
        refine ⟨cs, _, rfl, by rw [sizeLine_eq]; omega, fun _ => ?_⟩
        refine ⟨cs, _, rfl, by rw [sizeLine_eq]; simp; omega, ?_⟩
        repeat kpc_turns
        refine ⟨[93], _, rfl, by rw [sizeLine_eq]; simp; omega, ?_⟩
        repeat kpc_turns
        intro tz
        repeat kpc_turns
        refine ⟨callee_bmO (by kct_strs), ?_⟩
        refine Ev_append_bm (by kct_strs) (by kst_all1) (by rw [sizeLine_eq]; k_ne) ?_
        refine ⟨rfl, ?_⟩
        (try refine Imp.use (by assumption) ?_)
        refine nextK_take (t := [(q, bmO l), (l, listO (vs' ++ [.str (S ([] ++ [91] ++ cs ++ [93])) tz]) (n' + 1)), (star, obO), (64, tabObj ps2)]) (by kas_types) ?_
        repeat kpc_turns
        have hdr : P.drop (i + 1 + cs.length + 1) = r := by
          rw [show i + 1 + cs.length + 1 = (i + 1) + (cs.length + 1) by k_ne, ← List.drop_drop, ← h2]
          simp
        refine ⟨P.length - (i + 1 + cs.length + 1), by k_ne, hI_f _ _ ⟨i + 1 + cs.length + 1, _, _, _, _, _, _, _, _, rfl, hps2, by k_ne, Or.inl ⟨o2, ws ++ [91 :: (cs ++ [93])], by rw [hdr]; exact hs2, ?_, by rw [List.append_assoc]; exact hO, by rw [List.length_append, List.length_singleton]; omega⟩⟩⟩
        rw [List.map_append]
        refine strs_app hvs ?_
        exact .cons _ _ .nil
  · refine onB_df (by k_ne) ?_
    repeat kpc_turns
    refine Ev_take (t := [(l, listO (vs ++ [.ref star]) n'), (star, obO), (64, tabObj ps')]) (by kas_types) ?_
    refine Ev_Assert ?_
    repeat kpc_turns
    refine ⟨by simp, ?_⟩
    repeat kpc_turns
    exact ⟨l, vs, n', ps', rfl, hvs, hps', rfl⟩
end
section
open PySem PySem.W PyProof.Rows PySem.Calls
local macro_rules | `(tactic| kpc_turns) => `(tactic| with_reducible refine Ev_cons ?_)
set_option maxRecDepth 100000
theorem lit_ds : Str.ofString ".*" = S [46, 42] := rfl
theorem lit_op : Str.ofString "(?s:" = S [40, 63, 115, 58] := rfl
theorem lit_cl : Str.ofString ")\\Z" = S [41, 92, 90] := rfl
theorem strs_at {vs : List Value} : ∀ {xs : List Str}, StrsAre vs xs → ∀ {i : Nat} {x : Str}, xs[i]? = some x → ∃ t, vs[i]? = some (.str x t) := by
  induction vs with
  | nil => intro xs h i x hx; cases h; simp at hx
  | cons a r ih =>
    intro xs h i x hx
    cases h with
    | cons y t h =>
      cases i with
      | zero => simp at hx; subst hx; exact ⟨t, rfl⟩
      | succ i => exact ih h (by simpa using hx)
theorem sum_len {O : List (List Nat)} {m : Nat} (h : ∀ x ∈ O, x.length ≤ m) : O.flatten.length ≤ m * O.length := by
  induction O with
  | nil => simp
  | cons a r ih =>
    have h1 := h a List.mem_cons_self
    have h2 := ih fun x hx => h x (List.mem_cons_of_mem _ hx)
    rw [List.flatten_cons, List.length_append, List.length_cons, Nat.mul_succ]
    omega
theorem flat_len (ys : List (List Nat)) : ((ys.map S).map (·.length)).sum = ys.flatten.length := by
  induction ys with
  | nil => rfl
  | cons a r ih => simp [Str.length] at ih ⊢; omega
theorem Ev_join {C : Cx} {st : St} {l : Addr} {ws : List Value} {ys : List (List Nat)} {n : Nat} {t : Tok} {Q : Value → St → Prop} (hl : At C st l (listO ws n)) (hi : StrsAre ws (ys.map S)) (hz : ys.flatten.length ≤ 16777216) (h : ∀ t, Q (.str (S ys.flatten) t) st) :
    Ev C (call (.builtin "str.join") [.str (S []) t, .ref l]) st Q := fun s o => by
  refine join_list (items := ws.toArray) (ys := ys.map S) (o.list hl) hi ?_ fun t' k => ?_
  · rw [flat_len]
    show ys.flatten.length + (ys.map S).length * 0 ≤ 16777216
    omega
  · rw [txt_join]; exact ⟨st, o.tok _, h t'⟩
def madeS (O : List (List Nat)) : List Nat := [40, 63, 115, 58] ++ (O ++ [[46, 42]]).flatten ++ [41, 92, 90]
set_option maxHeartbeats 2000000 in
theorem join_spec {p : Program} {w : World} {k : Nat} {hb : Heap} (B : Bs w hb) {O : List (List Nat)} {l0 star : Addr} {vs : List Value} {n0 : Nat} (hvs : StrsAre vs (O.map S)) (hO : O.length < 2 ^ 10) (hsz : ∀ x ∈ O, x.length ≤ 20) :
    Fn p w (k + 1) hb (.ref 76) [.ref l0, .ref star] [(l0, listO (vs ++ [.ref star]) n0), (star, obO)] (fun v nw' => (∃ t, v = .str (S (madeS O)) t) ∧ nw' = []) := by
  refine FnA.clean ?_
  refine Fn_def (["inp", "STAR", "res", "add", "i", "n", "fixed"] : List Str) [] B rfl (by kernel_rfl) (fun s _ => BindsTo.of_eq (binds := [(Str.ofString "inp", .ref l0), (Str.ofString "STAR", .ref star)]) rfl) (by kernel_rfl) (by decide +kernel) ?_
  rintro C ca hlen hC rfl rfl rfl hsc hcells _ _
  obtain rfl : ca = [] := List.length_eq_zero_iff.mp hlen
  refine ⟨_, _, .loc (kind_at hsc rfl) .head (.loc (kind_at hsc rfl) (.tail .head) .nil), ?_⟩
  dsimp only [List.map, List.nil_append]
  simp only [lit_ds, lit_op, lit_cl, lit_e]
  have hvl : vs.length = O.length := by rw [strs_len hvs, List.length_map]
  repeat kpc_turns
  refine Ev_newList (fun l => ?_) (by decide)
  repeat kpc_turns
  refine Ev_getAppend (xs := []) (n := 0) (Or.inl HasN.head.mem) fun q => ?_
  repeat kpc_turns
  refine Ev_AssignSw (names := ["i", "n"]) hC.R.hd ?_ (by kernel_rfl) (by rw [env_sc hsc]; kernel_rfl)
  repeat kpc_turns
  refine Ev_lenList (n := n0) (by kct_strs) (by rw [List.length_append, List.length_singleton]; omega) fun tn => ?_
  repeat kpc_turns
  refine Ev_newTuple (fun tp => ?_) (by show (2 : Nat) ≤ _; rw [sizeLine_eq]; k_ne)
  refine ⟨_, _, rfl, At.own .head, rfl, ?_⟩
  simp only [List.reverse_cons, List.reverse_nil, List.nil_append, List.cons_append]
  repeat kpc_turns
  refine LoopW.take (t := [(q, bmO l), (l, listO [] 0), (l0, listO (vs ++ [.ref star]) n0)]) (by kas_types) ?_
  have hlen1 : (vs ++ [Value.ref star]).length = O.length + 1 := by rw [List.length_append, hvl]; rfl
  rw [hlen1]
  refine LoopW.indo (fun f st => ∃ (i : Nat) (ws : List Value) (n' : Nat) (ti : Tok), st = ⟨[(Str.ofString "inp", some (.ref l0)), (Str.ofString "STAR", some (Value.ref star)), (Str.ofString "res", some (Value.ref l)),
      (Str.ofString "add", some (Value.ref q)), (Str.ofString "i", some (Value.int (i : Nat) ti)), (Str.ofString "n", some (Value.int ((O.length + 1 : Nat) : Int) tn)), (Str.ofString "fixed", none)],
      [(q, bmO l), (l, listO ws n'), (l0, listO (vs ++ [.ref star]) n0)]⟩ ∧ f + i = O.length ∧ StrsAre ws ((O.take i).map S)) ?_ O.length ⟨0, [], 0, _, rfl, rfl, .nil⟩
  rintro I_f hI_f Q_f hQ_f f st ⟨i, ws, n', ti, hst, hf, hws⟩
  subst hst
  have hwl : ws.length = i := by rw [strs_len hws, List.length_map, List.length_take]; omega
  repeat kpc_turns
  refine onB_dt (by k_ne) ?_
  repeat kpc_turns
  cases f with
  | succ g =>
    have hi : i < O.length := by k_ne
    obtain ⟨tv, htv⟩ := strs_at hvs (i := i) (x := S O[i]) (by simp [hi])
    have hx : (vs ++ [Value.ref star])[i]? = some (.str (S O[i]) tv) := by rw [List.getElem?_append_left (by k_ne)]; exact htv
    refine Ev_subList (n := n0) (by kct_strs) (by k_ne) (by k_ne) (by rw [Int.toNat_natCast]; exact hx) ?_
    repeat kpc_turns
    refine Ev_subList (n := n0) (by kct_strs) (by k_ne) (by k_ne) (by rw [Int.toNat_natCast]; exact hx) ?_
    repeat kpc_turns
    refine ⟨callee_bmO (by kct_strs), ?_⟩
    refine Ev_append_bm (by kct_strs) (by kst_all1) (by rw [sizeLine_eq]; k_ne) ?_
    refine ⟨rfl, ?_⟩
    repeat kpc_turns
    rw [show (i : Int) + 1 = ((i + 1 : Nat) : Int) by k_ne]
    refine ⟨g, Nat.lt_add_one _, hI_f _ _ ⟨i + 1, _, _, _, rfl, by k_ne, ?_⟩⟩
    rw [List.take_add_one, List.getElem?_eq_getElem hi, List.map_append]
    exact strs_app hws (.cons _ _ .nil)
  | zero =>
    obtain rfl : i = O.length := by k_ne
    have hx : (vs ++ [Value.ref star])[O.length]? = some (.ref star) := by rw [← hvl]; simp
    refine Ev_subList (n := n0) (by kct_strs) (by k_ne) (by k_ne) (by rw [Int.toNat_natCast]; exact hx) ?_
    repeat kpc_turns
    rw [List.take_length] at hws
    refine LoopW.turn ?_
    repeat kpc_turns
    refine onB_dt (by k_ne) ?_
    repeat kpc_turns
    refine Ev_Assert ?_
    repeat kpc_turns
    refine Ev_subList (n := n0) (by kct_strs) (by k_ne) (by k_ne) (by rw [Int.toNat_natCast]; exact hx) ?_
    repeat kpc_turns
    refine ⟨rfl, ?_⟩
    repeat kpc_turns
    refine Ev_If ?_
    repeat kpc_turns
    refine onB_eq (c := true) (by simp) ?_
    repeat kpc_turns
    refine ⟨callee_bmO (by kct_strs), ?_⟩
    refine Ev_append_bm (by kct_strs) (by kst_all1) (by rw [sizeLine_eq]; k_ne) ?_
    refine ⟨rfl, ?_⟩
    repeat kpc_turns
    refine Ev_Assert ?_
    repeat kpc_turns
    refine ⟨by simp, ?_⟩
    repeat kpc_turns
    have hfl : (O ++ [[46, 42]]).flatten.length ≤ 20 * 1024 + 2 := by
      rw [List.flatten_append, List.length_append]
      have := sum_len hsz
      have e : ([[46, 42]] : List (List Nat)).flatten.length = 2 := rfl
      omega
    refine Ev_Meth "str" "str.join" ?_ F.plainAttrs_str F.slot_str_join F.type_str_join
    repeat kpc_turns
    refine Ev_join (ys := O ++ [[46, 42]]) (n := n' + 1) (by kct_strs) (by rw [List.map_append]; exact strs_app hws (.cons _ _ .nil)) (by k_ne) fun _ => ?_
    have hE : madeS O = [40, 63, 115, 58] ++ (O ++ [[46, 42]]).flatten ++ [41, 92, 90] := rfl
    rw [hE]
    generalize (O ++ [[46, 42]]).flatten = F at hfl ⊢
    repeat kpc_turns
    refine ⟨[40, 63, 115, 58], _, rfl, by rw [sizeLine_eq]; simp, ?_⟩
    repeat kpc_turns
    refine ⟨_, _, rfl, by rw [sizeLine_eq]; omega, fun _ => ?_⟩
    refine ⟨_, _, rfl, by rw [sizeLine_eq, List.length_append]; simp; omega, ?_⟩
    repeat kpc_turns
    refine ⟨[41, 92, 90], _, rfl, by rw [sizeLine_eq]; simp; omega, ?_⟩
    repeat kpc_turns
    intro tz
    repeat kpc_turns
    exact ⟨tz, by simp⟩
end
section
open PySem PySem.W PyProof.Rows PySem.Calls
local macro_rules | `(tactic| kpc_turns) => `(tactic| with_reducible refine Ev_cons ?_)
set_option maxRecDepth 100000
theorem Shape.bound {P : List Nat} {O : List (List Nat)} (h : Shape P O) : (∀ x ∈ O, x.length ≤ 20) ∧ O.length ≤ P.length := by
  induction h with
  | star => exact ⟨by simp, by simp⟩
  | @sign c r o hc hs ih =>
    refine ⟨fun x hx => ?_, by simp only [List.length_cons]; omega⟩
    rcases List.mem_cons.mp hx with rfl | hx
    · unfold escC; split <;> simp
    · exact ih.1 x hx
  | @set cs r o hc hs ih =>
    refine ⟨fun x hx => ?_, by simp only [List.length_cons, List.length_append]; omega⟩
    rcases List.mem_cons.mp hx with rfl | hx
    · have := hc.alpha.2.2
      simp only [List.length_cons, List.length_append, List.length_nil]; omega
    · exact ih.1 x hx
theorem translate_spec {p : Program} {w : World} {k : Nat} {hb : Heap} (B : Bs w hb) {P : List Nat} {O : List (List Nat)} {t : Tok} {ps : Array Value} (hps : TabSt lamPos ps) (hsh : Shape P O) (hP : P.length < 2 ^ 10) :
    Fn p w (k + 4) hb (.ref 50) [.str (S P) t] [(64, tabObj ps)] (fun v nw' => ∃ t' ps', v = .str (S (madeS O)) t' ∧ TabSt lamPos ps' ∧ nw' = [(64, tabObj ps')]) := by
  refine Fn_def (["pat", "STAR", "parts"] : List Str) [] B rfl (by kernel_rfl) (fun s _ => BindsTo.of_eq (binds := [(Str.ofString "pat", .str (S P) t)]) rfl) (by kernel_rfl) (by decide +kernel) ?_
  rintro C ca hlen hC rfl rfl rfl hsc hcells _ _
  obtain rfl : ca = [] := List.length_eq_zero_iff.mp hlen
  refine ⟨_, _, .loc (kind_at hsc rfl) .head .nil, ?_⟩
  dsimp only [List.map, List.nil_append]
  simp only [lit_dot]
  repeat kpc_turns
  rename_i star _
  refine Ev_absQ fun Q_c hQ_c => ?_
  refine Ev_call (k := k + 3) [(star, obO), (64, tabObj ps)] (by kas_types) hC.R fun hb' kp => (translate2_spec (B.keeps kp) hps hsh (by k_ne)).mono ?_
  rintro _ _ ⟨l, vs, n, ps', rfl, hvs, hps', rfl⟩
  refine hQ_c _ _ ?_
  dsimp only [List.cons_append, List.nil_append]
  repeat kpc_turns
  refine Ev_absQ fun Q_c hQ_c => ?_
  refine Ev_call (k := k + 3) [(l, listO (vs ++ [.ref star]) n), (star, obO)] (by kas_types) hC.R fun hb' kp => (join_spec (k := k + 2) (B.keeps kp) hvs (by have := hsh.bound.2; omega) hsh.bound.1).mono ?_
  rintro _ _ ⟨⟨t', rfl⟩, rfl⟩
  refine hQ_c _ _ ?_
  dsimp only [List.nil_append]
  repeat kpc_turns
  exact ⟨t', ps', rfl, hps', rfl⟩
end
section
open PySem PySem.W PyProof.Rows PySem.Calls
set_option maxRecDepth 100000
theorem lit_ed : Str.ofString ".*)\\Z" = S [46, 42, 41, 92, 90] := rfl
theorem lit_sl : Str.ofString "/" = S [47] := rfl
theorem slc_neg {α : Type} (l : List α) (k : Nat) (hk : k ≤ l.length) (h0 : 0 < k) : slc l (some (-(k : Int))) none = l.drop (l.length - k) := by
  have e : clipAt l.length (-(k : Int)) = l.length - k := by unfold clipAt; rw [if_pos (by k_ne)]; omega
  simp only [slc, Option.elim, e]
  rw [List.take_of_length_le (by simp)]
theorem slc_to_neg {α : Type} (l : List α) (a k : Nat) (hk : k ≤ l.length) (h0 : 0 < k) (ha : a ≤ l.length - k) : slc l (some (a : Int)) (some (-(k : Int))) = (l.take (l.length - k)).drop a := by
  have e : clipAt l.length (-(k : Int)) = l.length - k := by unfold clipAt; rw [if_pos (by k_ne)]; omega
  simp only [slc, Option.elim, e, clip_nat]
  rw [Nat.min_eq_left (by k_ne), List.drop_take]
inductive Item : List Nat → List Nat → Prop
  | sign {c} : c ∈ alphaL → Item (escC c) [c]
  | set {cs} : SetOk cs → Item (91 :: (cs ++ [93])) cs
inductive Items : List (List Nat) → List (List Nat) → Prop
  | nil : Items [] []
  | cons {o i O I} : Item o i → Items O I → Items (o :: O) (i :: I)
def fitsF : List (List Nat) → List Nat → Bool
  | [], _ => true
  | _ :: _, [] => false
  | s :: r, c :: t => decide (c ∈ s) && fitsF r t
theorem alnum_of {c : Nat} (h : c ∈ alphaL) (h1 : c ≠ 43) (h2 : c ≠ 47) : Unicode.isAlnum c = true := by
  have : alphaL.all (fun c => c == 43 || c == 47 || Unicode.isAlnum c) = true := by decide +kernel
  have := List.all_eq_true.mp this c h
  simpa [h1, h2] using this
set_option maxHeartbeats 4000000 in
theorem fits_spec {p : Program} {w : World} {k : Nat} {hb : Heap} (B : Bs w hb) {O I : List (List Nat)} {R : List Nat} {t u : Tok} (hOI : Items O I) (hO : O.flatten.length < 2 ^ 18) (hR : R.length < 2 ^ 18) :
    Fn p w (k + 1) hb (.ref 158) [.str (S (madeS O)) t, .str (S R) u] [] (fun v nw' => v = .bool (fitsF I R) ∧ nw' = []) := by
  refine FnA.clean ?_
  refine Fn_def (["made", "row", "text", "place", "k", "signs", "behind"] : List Str) [] B rfl (by kernel_rfl) (fun s _ => BindsTo.of_eq (binds := [(Str.ofString "made", .str (S (madeS O)) t), (Str.ofString "row", .str (S R) u)]) rfl) (by kernel_rfl) (by decide +kernel) ?_
  rintro C ca hlen hC rfl rfl rfl hsc hcells _ _
  obtain rfl : ca = [] := List.length_eq_zero_iff.mp hlen
  refine ⟨_, _, .loc (kind_at hsc rfl) .head (.loc (kind_at hsc rfl) (.tail .head) .nil), ?_⟩
  dsimp only [List.map, List.nil_append]
  simp only [lit_op, lit_ed, lit_bs, lit_sb, lit_eb, lit_ca, lit_sl, lit_e]
  have hmade : madeS O = [40, 63, 115, 58] ++ O.flatten ++ [46, 42, 41, 92, 90] := by unfold madeS; simp
  have hml : (madeS O).length = O.flatten.length + 9 := by rw [hmade]; simp
  repeat kpc_turns
  refine Ev_If ?_
  repeat kpc_turns
  intro s1
  refine Ev_subSliceS none (some (_, _)) (At.own .head) (by rw [sizeLine_eq]; k_ne) fun _ => ?_
  have e1 : slc (madeS O) none (some (4 : Int)) = [40, 63, 115, 58] := by rw [show (4 : Int) = ((4 : Nat) : Int) from rfl, slc_to, hmade]; rfl
  dsimp only [Option.map]
  rw [e1]
  repeat kpc_turns
  refine Ev_neS ?_
  repeat kpc_turns
  refine onB_eq (c := false) rfl ?_
  repeat kpc_turns
  refine Ev_neg fun _ => ?_
  repeat kpc_turns
  intro s2
  refine Ev_subSliceS (some (_, _)) none (At.own .head) (by rw [sizeLine_eq]; k_ne) fun _ => ?_
  have e2 : slc (madeS O) (some (-5 : Int)) none = [46, 42, 41, 92, 90] := by
    rw [show (-5 : Int) = -((5 : Nat) : Int) from rfl, slc_neg _ 5 (by k_ne) (by decide), hml, hmade]
    rw [show O.flatten.length + 9 - 5 = ([40, 63, 115, 58] ++ O.flatten).length by simp, List.drop_left]
  dsimp only [Option.map]
  rw [e2]
  repeat kpc_turns
  refine Ev_neS ?_
  repeat kpc_turns
  refine onB_eq (c := false) rfl ?_
  repeat kpc_turns
  refine Ev_take (t := []) (by kas_types) ?_
  refine Ev_AssignSw (names := ["text", "place", "k"]) hC.R.hd ?_ (by kernel_rfl) (by rw [env_sc hsc]; kernel_rfl)
  repeat kpc_turns
  refine Ev_neg fun _ => ?_
  repeat kpc_turns
  intro s3
  refine Ev_subSliceS (some (_, _)) (some (_, _)) (At.own .head) (by rw [sizeLine_eq]; k_ne) fun _ => ?_
  have e3 : slc (madeS O) (some (4 : Int)) (some (-5 : Int)) = O.flatten := by
    rw [show (-5 : Int) = -((5 : Nat) : Int) from rfl, show (4 : Int) = ((4 : Nat) : Int) from rfl, slc_to_neg _ 4 5 (by k_ne) (by decide) (by k_ne), hml, hmade]
    rw [show O.flatten.length + 9 - 5 = ([40, 63, 115, 58] ++ O.flatten).length by simp, List.take_left]
    rfl
  dsimp only [Option.map]
  rw [e3]
  repeat kpc_turns
  refine Ev_newTuple (fun tp => ?_) (by show (3 : Nat) ≤ _; rw [sizeLine_eq]; k_ne)
  refine ⟨_, _, rfl, At.own .head, rfl, ?_⟩
  simp only [List.reverse_cons, List.reverse_nil, List.nil_append, List.cons_append]
  repeat kpc_turns
  refine LoopW.take (t := []) (by kas_types) ?_
  refine LoopW.indo (fun f st => ∃ (place kk : Nat) (tt t1 t2 : Tok) (sg bh : Option Value) (nwx : Nw) (O' I' : List (List Nat)), st = ⟨[(Str.ofString "made", some (.str (S (madeS O)) t)), (Str.ofString "row", some (.str (S R) u)), (Str.ofString "text", some (.str (S O.flatten) tt)), (Str.ofString "place", some (.int (place : Nat) t1)), (Str.ofString "k", some (.int (kk : Nat) t2)), (Str.ofString "signs", sg), (Str.ofString "behind", bh)], nwx⟩ ∧ Items O' I' ∧ O.flatten.drop place = O'.flatten ∧ place + O'.flatten.length = O.flatten.length ∧ f = O'.length ∧ kk ≤ R.length ∧ fitsF I' (R.drop kk) = fitsF I R) ?_ O.length
      ⟨0, 0, _, _, _, none, none, [], O, I, rfl, hOI, rfl, by k_ne, rfl, Nat.zero_le _, rfl⟩
  rintro I_f hI_f Q_f hQ_f f st ⟨place, kk, tt, t1, t2, sg, bh, nwx, O', I', hst, hI, hdr, hpl, hf, hkk, hF⟩
  subst hst
  refine Ev_take (t := []) .nil ?_
  repeat kpc_turns
  refine Ev_lenS (by k_ne) fun _ => ?_
  repeat kpc_turns
  cases hI with
  | nil =>
    have hpl' : place + 0 = O.flatten.length := hpl
    refine onB_df (by k_ne) ?_
    repeat kpc_turns
    rw [← hF]; rfl
  | @cons o i O2 I2 hio hI2 =>
    have hol : 0 < o.length := by
      cases hio with
      | sign h => unfold escC; split <;> simp
      | set h => simp
    rw [List.flatten_cons] at hdr hpl
    rw [List.length_append] at hpl
    obtain ⟨g, rfl⟩ : ∃ g, f = g + 1 := ⟨f - 1, by rw [hf]; simp⟩
    have hT : ∀ j, j < o.length → O.flatten[place + j]? = o[j]? := fun j hj => by
      rw [← List.getElem?_drop, hdr, List.getElem?_append_left hj]
    have hT0 : O.flatten[place]? = some o[0] := by have := hT 0 hol; rw [Nat.add_zero] at this; rw [this]; exact List.getElem?_eq_getElem hol
    refine onB_dt (by k_ne) ?_
    repeat kpc_turns
    refine Ev_AssignSw (names := ["signs", "behind"]) hC.R.hd ?_ (by kernel_rfl) (by rw [env_sc hsc]; kernel_rfl)
    repeat kpc_turns
    refine Ev_subSN (c := o[0]) (by k_ne) hT0 fun _ => ?_
    repeat kpc_turns
    rw [show (place : Int) + 1 = ((place + 1 : Nat) : Int) by k_ne]
    refine Ev_newTuple (fun tp => ?_) (by show (2 : Nat) ≤ _; rw [sizeLine_eq]; k_ne)
    refine ⟨_, _, rfl, At.own .head, rfl, ?_⟩
    simp only [List.reverse_cons, List.reverse_nil, List.nil_append, List.cons_append]
    repeat kpc_turns
    refine Ev_take (t := []) (by kas_types) ?_
    refine Ev_mono (Q := fun f st1 => f = Flow.next ∧ ∃ (ts tb : Tok) (nwx : Nw), st1 = ⟨[(Str.ofString "made", some (.str (S (madeS O)) t)), (Str.ofString "row", some (.str (S R) u)), (Str.ofString "text", some (.str (S O.flatten) tt)), (Str.ofString "place", some (.int (place : Nat) t1)), (Str.ofString "k", some (.int (kk : Nat) t2)), (Str.ofString "signs", some (.str (S i) ts)), (Str.ofString "behind", some (.int ((place + o.length : Nat) : Int) tb))], nwx⟩) (Ev_If ?_) ?_
    · repeat kpc_turns
      refine Ev_eqS ?_
      repeat kpc_turns
      cases hio with
      | @sign c hca =>
        by_cases h43 : c = 43
        · subst h43
          refine onB_eq (c := true) rfl ?_
          repeat kpc_turns
          refine Ev_AssignSw (names := ["signs", "behind"]) hC.R.hd ?_ (by kernel_rfl) (by rw [env_sc hsc]; kernel_rfl)
          repeat kpc_turns
          refine Ev_Meth "str" "str.isalnum" ?_ F.plainAttrs_str F.slot_str_isalnum F.type_str_isalnum
          repeat kpc_turns
          refine Ev_subSN (c := 43) (by k_ne) (hT 1 (by decide)) fun _ => ?_
          repeat kpc_turns
          refine Ev_isalnum (b := false) (by decide +kernel) ?_
          repeat kpc_turns
          refine Ev_subSN (c := 43) (by k_ne) (hT 1 (by decide)) fun _ => ?_
          repeat kpc_turns
          rw [show ((place + 1 : Nat) : Int) + 1 = ((place + (escC 43).length : Nat) : Int) by show _ = ((place + 2 : Nat) : Int); omega]
          refine Ev_newTuple (fun tp => ?_) (by show (2 : Nat) ≤ _; rw [sizeLine_eq]; k_ne)
          refine ⟨_, _, rfl, At.own .head, rfl, ?_⟩
          simp only [List.reverse_cons, List.reverse_nil, List.nil_append, List.cons_append]
          repeat kpc_turns
          exact ⟨rfl, _, _, _, rfl⟩
        · obtain ⟨n1, n2, n3, n4, n5, n6, n7⟩ := alpha_not hca
          have n8 : c ≠ 92 := by
            have : alphaL.all (fun c => c != 92) = true := by decide +kernel
            simpa using List.all_eq_true.mp this c hca
          have ho : escC c = [c] := by unfold escC; rw [if_neg h43]
          have ho0 : (escC c)[0] = c := by simp [ho]
          have hol1 : (escC c).length = 1 := by rw [ho]; rfl
          rw [ho0, hol1]
          refine onB_eq (c := false) (by simp [n8]) ?_
          repeat kpc_turns
          refine Ev_If ?_
          repeat kpc_turns
          refine Ev_eqS ?_
          repeat kpc_turns
          refine onB_eq (c := false) (by simp [n3]) ?_
          repeat kpc_turns
          refine Ev_If ?_
          repeat kpc_turns
          refine Ev_Meth "str" "str.isalnum" ?_ F.plainAttrs_str F.slot_str_isalnum F.type_str_isalnum
          repeat kpc_turns
          by_cases h47 : c = 47
          · subst h47
            refine Ev_isalnum (b := false) (by decide +kernel) ?_
            repeat kpc_turns
            refine onB_eq (c := true) rfl ?_
            repeat kpc_turns
            refine Ev_neS ?_
            repeat kpc_turns
            refine onB_eq (c := false) rfl ?_
            repeat kpc_turns
            exact ⟨rfl, _, _, _, rfl⟩
          · refine Ev_isalnum (b := true) (by simp [alnum_of hca h43 h47]) ?_
            repeat kpc_turns
            refine onB_eq (c := false) rfl ?_
            repeat kpc_turns
            exact ⟨rfl, _, _, _, rfl⟩
      | set hset =>
        obtain ⟨hne, hal, hlen16⟩ := hset.alpha
        obtain ⟨c0, cr, hcs⟩ : ∃ c0 cr, i = c0 :: cr := by
          cases i with
          | nil => exact absurd rfl hne
          | cons a b => exact ⟨a, b, rfl⟩
        obtain ⟨n1, n2, n3, n4, n5, n6, n7⟩ := alpha_not (hal c0 (by rw [hcs]; exact List.mem_cons_self))
        have hol2 : (91 :: (i ++ [93])).length = i.length + 2 := by simp
        rw [hol2] at hT hpl
        have hend : O.flatten[place + (i.length + 1)]? = some 93 := by rw [hT _ (by k_ne)]; simp
        have hmid : ∀ j, j < i.length → O.flatten[place + (j + 1)]? = i[j]? := fun j hj => by rw [hT _ (by k_ne)]; simp [List.getElem?_append_left hj]
        refine onB_eq (c := false) rfl ?_
        repeat kpc_turns
        refine Ev_If ?_
        repeat kpc_turns
        refine Ev_eqS ?_
        repeat kpc_turns
        refine onB_eq (c := true) rfl ?_
        repeat kpc_turns
        refine Ev_Meth "str" "str.index" ?_ F.plainAttrs_str F.slot_str_index F.type_str_index
        repeat kpc_turns
        refine Ev_index3 (i := place + (i.length + 1)) hend (by k_ne) ?_ fun _ => ?_
        · intro j hj1 hj2 he
          obtain ⟨d, rfl⟩ : ∃ d, j = place + d := ⟨j - place, by k_ne⟩
          cases d with
          | zero => rw [hT 0 (by k_ne)] at he; cases he
          | succ d =>
            rw [hmid d (by k_ne)] at he
            exact (alpha_not (hal 93 (List.mem_of_getElem? he))).2.2.2.2.1 rfl
        repeat kpc_turns
        rw [show ((place + (i.length + 1) : Nat) : Int) + 1 = ((place + (91 :: (i ++ [93])).length : Nat) : Int) by rw [hol2]; omega]
        rw [show (place : Int) + 1 = ((place + 1 : Nat) : Int) by k_ne]
        refine Ev_subSN (c := c0) (by k_ne) (by rw [hmid 0 (by rw [hcs]; simp), hcs]; rfl) fun _ => ?_
        repeat kpc_turns
        refine Ev_eqS ?_
        repeat kpc_turns
        refine onB_eq (c := false) (by simp [n6]) ?_
        repeat kpc_turns
        intro s4
        rw [show ((place + (91 :: (i ++ [93])).length : Nat) : Int) - 1 = ((place + 1 + i.length : Nat) : Int) by rw [hol2]; omega]
        rw [show (place : Int) + 1 = ((place + 1 : Nat) : Int) by k_ne]
        refine Ev_subSliceS (some (_, _)) (some (_, _)) (At.own .head) (by rw [sizeLine_eq]; k_ne) fun _ => ?_
        have e4 : slc O.flatten (some ((place + 1 : Nat) : Int)) (some ((place + 1 + i.length : Nat) : Int)) = i := by
          rw [slc_mid _ _ _ (by k_ne) (by k_ne), List.drop_take, ← List.drop_drop, hdr]
          rw [show place + 1 + i.length - (place + 1) = i.length by k_ne]
          simp
        dsimp only [Option.map]
        rw [e4]
        repeat kpc_turns
        exact ⟨rfl, _, _, _, rfl⟩
    · rintro _ _ ⟨rfl, ts, tb, nwx, rfl⟩
      (try refine Imp.use (by assumption) ?_)
      refine nextK_take (t := []) .nil ?_
      repeat kpc_turns
      refine Ev_If ?_
      repeat kpc_turns
      refine Ev_lenS (by k_ne) fun _ => ?_
      repeat kpc_turns
      by_cases hkR : kk = R.length
      · refine onB_eq (c := true) (by simp [hkR]) ?_
        repeat kpc_turns
        rw [← hF, hkR, List.drop_length]; rfl
      · have hkl : kk < R.length := by k_ne
        refine onB_eq (c := false) (by simp; omega) ?_
        repeat kpc_turns
        refine Ev_subSN (c := R[kk]) (by k_ne) (List.getElem?_eq_getElem hkl) fun _ => ?_
        repeat kpc_turns
        refine Ev_notInS1 ?_
        repeat kpc_turns
        rw [List.drop_eq_getElem_cons hkl] at hF
        rw [fitsF] at hF
        by_cases hin : R[kk] ∈ i
        · refine onB_eq (c := false) (by simp [hin]) ?_
          repeat kpc_turns
          refine Ev_AssignSw (names := ["place", "k"]) hC.R.hd ?_ (by kernel_rfl) (by rw [env_sc hsc]; kernel_rfl)
          repeat kpc_turns
          rw [show (kk : Int) + 1 = ((kk + 1 : Nat) : Int) by k_ne]
          refine Ev_newTuple (fun tp => ?_) (by show (2 : Nat) ≤ _; rw [sizeLine_eq]; k_ne)
          refine ⟨_, _, rfl, At.own .head, rfl, ?_⟩
          simp only [List.reverse_cons, List.reverse_nil, List.nil_append, List.cons_append]
          repeat kpc_turns
          refine ⟨g, Nat.lt_add_one _, hI_f _ _ ⟨place + o.length, kk + 1, _, _, _, _, _, _, O2, I2, rfl, hI2, ?_, by k_ne, by simpa using hf, by k_ne, ?_⟩⟩
          · rw [← List.drop_drop, hdr, List.drop_left]
          · rw [← hF]; simp [hin]
        · refine onB_eq (c := true) (by simp [hin]) ?_
          repeat kpc_turns
          rw [← hF]; simp [hin]
end
section
open PySem PySem.W PyProof.Rows PySem.Calls
local macro_rules | `(tactic| kpc_turns) => `(tactic| with_reducible refine Ev_cons ?_)
set_option maxRecDepth 100000
theorem lit_al : Str.ofString "ABCDEFGHIJKLMNOPQRSTUVWXYZabcdefghijklmnopqrstuvwxyz0123456789+/" = S alphaL := by decide +kernel
theorem lit_es : Str.ofString "]*" = S [93, 42] := rfl
theorem alpha_spec {p : Program} {w : World} {k : Nat} {hb : Heap} (B : Bs w hb) :
    Fn p w (k + 1) hb (.ref 146) [] [] (fun v nw' => (∃ t, v = .str (S alphaL) t) ∧ nw' = []) := by
  refine FnA.clean ?_
  refine Fn_def ([] : List Str) [] B rfl (by kernel_rfl) (fun s _ => BindsTo.of_eq (binds := []) rfl) (by kernel_rfl) (by decide +kernel) ?_
  rintro C ca hlen hC rfl rfl rfl hsc hcells _ _
  obtain rfl : ca = [] := List.length_eq_zero_iff.mp hlen
  refine ⟨_, _, .nil, ?_⟩
  dsimp only [List.map, List.nil_append]
  simp only [lit_al]
  repeat kpc_turns
  exact ⟨_, rfl⟩
theorem Ev_floordivL {C : Cx} {st : St} {a b : Int} {t u : Tok} {Q : Value → St → Prop} (hb : b ≠ 0) (hs : b.natAbs < 2 ^ 64) (h : ∀ t, Q (.int (a.fdiv b) t) st) : Ev C (binaryOp .FloorDiv (.int a t) (.int b u)) st Q := by
  intro s o
  refine floordiv_int hb ⟨st, o.tok _, h _⟩ (Or.inl (PyProof.noPylong_of_log2 ?_))
  have h1 := (Nat.log2_lt (n := b.natAbs) (k := 64) (by k_ne)).mpr hs
  omega
theorem divmodN (a b m : Nat) : ((a : Int).fdiv (b : Int)).fmod (m : Int) = ((a / b % m : Nat) : Int) := by
  rw [Int.fdiv_eq_ediv_of_nonneg _ (Int.natCast_nonneg b), Int.fmod_eq_emod_of_nonneg _ (Int.natCast_nonneg m)]
  simp
def alp (i : Nat) : Nat := alphaL.getD i 0
theorem ints_at {vs : List Value} : ∀ {ns : List Int}, IntsAre vs ns → ∀ {i : Nat} {n : Int}, ns[i]? = some n → ∃ t, vs[i]? = some (.int n t) := by
  induction vs with
  | nil => intro ns h i n hn; cases h; simp at hn
  | cons a r ih =>
    intro ns h i n hn
    cases h with
    | cons m t h =>
      cases i with
      | zero => simp at hn; subst hn; exact ⟨t, rfl⟩
      | succ i => exact ih h (by simpa using hn)
theorem ints_last {n : Int} : ∀ {ns : List Int} {vs : List Value}, IntsAre vs (ns ++ [n]) → ∃ v0 t, vs = v0 ++ [.int n t] := by
  intro ns
  induction ns with
  | nil => intro vs h; cases h with | cons m t h => cases h; exact ⟨[], t, rfl⟩
  | cons a r ih => intro vs h; cases h with | cons m t h => obtain ⟨v0, t', rfl⟩ := ih h; exact ⟨.int a t :: v0, t', rfl⟩
theorem slc_dropLast {α : Type} (l : List α) : slc l none (some (-1 : Int)) = l.dropLast := by
  have e : clipAt l.length (-1 : Int) = l.length - 1 := by unfold clipAt; rw [if_pos (by k_ne)]; omega
  simp only [slc, Option.elim, e, List.drop_zero, Nat.sub_zero]
  rw [List.dropLast_eq_take]
theorem slc_run {α : Type} (l : List α) (a d : Nat) : slc l (some (a : Int)) (some ((a + d : Nat) : Int)) = (l.drop a).take d := by
  simp only [slc, Option.elim, clip_nat]
  by_cases h : a ≤ l.length
  · have e : min (a + d) l.length - a = min d (l.length - a) := by
      have := Nat.sub_min_sub_right (a + d) l.length a
      rw [← this, Nat.add_sub_cancel_left]
    rw [Nat.min_eq_left h, e, ← List.length_drop, ← List.take_eq_take_min]
  · have h' : l.length ≤ a := Nat.le_of_not_le h
    rw [Nat.min_eq_right h', List.drop_length, List.drop_eq_nil_of_le h', List.take_nil, List.take_nil]
theorem sing_flat (sx : List Nat) : (sx.map fun s => [alp s]).flatten = sx.map alp := by
  induction sx with
  | nil => rfl
  | cons a r ih => simp at ih ⊢; exact ih
theorem alp_get {s : Nat} (h : s < 64) : alphaL[s]? = some (alp s) := by
  unfold alp
  rw [List.getD_eq_getElem?_getD, List.getElem?_eq_getElem (by show s < 64; exact h)]; rfl
def beN (h : List UInt8) : Nat := h.foldl (fun a b => a * 256 + b.toNat) 0
def spN (n : Nat) : Nat := ((-8 * (n : Int)).fmod 6).toNat
def mnN (n : Nat) : Nat := (8 * n + spN n) / 6
def sxN (N m : Nat) : List Nat := ((List.range m).map fun k => N / 64 ^ k % 64).reverse
def patF (h : List UInt8) : List Nat :=
  let sx := sxN (beN h * 2 ^ spN h.length) (mnN h.length)
  if spN h.length = 0 then sx.map alp ++ [42] else (sx.map alp).dropLast ++ [91] ++ (alphaL.drop (sx.getLastD 0)).take (2 ^ spN h.length) ++ [93, 42]
set_option maxHeartbeats 4000000 in
theorem pattern_spec {p : Program} {w : World} {k : Nat} {hb : Heap} (B : Bs w hb) {h : List UInt8} {t : Tok} (h1 : 1 ≤ h.length) (h4 : h.length ≤ 4) :
    Fn p w (k + 2) hb (.ref 151) [.bytes h.toArray t] [] (fun v nw' => (∃ t, v = .str (S (patF h)) t) ∧ nw' = []) := by
  refine FnA.clean ?_
  refine Fn_def (["head", "spare", "octet", "many", "signs", "whole"] : List Str) ["number"] B rfl (by kernel_rfl) (fun s _ => BindsTo.of_eq (binds := [(Str.ofString "head", .bytes h.toArray t)]) rfl) (by kernel_rfl) (by decide +kernel) ?_
  rintro C ca hlen hC rfl rfl rfl hsc hcells _ _
  obtain ⟨cn, rfl⟩ : ∃ cn, ca = [cn] := List.length_eq_one_iff.mp hlen
  replace hcells : C.env.cells = [(Str.ofString "number", cn)] := hcells
  refine ⟨_, _, .loc (kind_at hsc rfl) .head .nil, ?_⟩
  dsimp only [List.map, List.nil_append, List.cons_append, List.append]
  simp only [lit_star, lit_sb, lit_es, lit_e]
  have hsp : ∀ n : Nat, n = 1 ∨ n = 2 ∨ n = 3 ∨ n = 4 → (-8 * (n : Int)).fmod 6 = (spN n : Int) ∧ spN n ≤ 4 := by
    intro n hn; rcases hn with rfl | rfl | rfl | rfl <;> decide
  have hsp1 := hsp h.length (by k_ne)
  repeat kpc_turns
  refine Ev_AssignTu ?_ (by kernel_rfl) (by rw [env_sc hsc]; kernel_rfl)
  repeat kpc_turns
  refine Ev_neg fun _ => ?_
  repeat kpc_turns
  refine Ev_lenB (by simp; omega) fun _ => ?_
  refine Ev_mul (fun _ => ?_) (IntMulOk.of_left (intBits_le_64 (by k_ne) (by k_ne)))
  repeat kpc_turns
  refine Ev_mod (by decide) fun x1 => ?_
  rw [show -8 * (h.toArray.size : Int) = -8 * (h.length : Int) by simp, hsp1.1]
  repeat kpc_turns
  refine Ev_newTuple (fun tp => ?_) (by show (2 : Nat) ≤ _; rw [sizeLine_eq]; k_ne)
  refine Ev_assignTup hC.R.hd (At.own .head) rfl rfl ?_
  refine Ev_aio_cons ?_ rfl
  refine Ev_assignN ?_
  repeat kpc_turns
  refine Ev_aio_cons ?_ rfl
  refine Ev_assignN ?_
  repeat kpc_turns
  refine Ev_aio_nil ?_
  repeat kpc_turns
  refine Ev_For ?_
  repeat kpc_turns
  refine Ev_iterB fun it o ho => ?_
  generalize hsv : spN h.length = sp at hsp1
  refine LoopF.take (t := [(it, o), (cn, cellO (some (.int 0 _)))]) (by kas_types) ?_
  refine LoopF.indo (fun f st => ∃ (i : Nat) (o : Obj) (tk : Tok) (a : Option Value), st = ⟨[(Str.ofString "head", some (Value.bytes h.toArray t)), (Str.ofString "spare", some (.int (sp : Nat) x1)), (Str.ofString "octet", a), (Str.ofString "many", none), (Str.ofString "signs", none), (Str.ofString "whole", none)],
      [(it, o), (cn, cellO (some (.int (beN (h.take i) : Nat) tk)))]⟩ ∧ ItB o h.toArray t i ∧ f + i = h.length ∧ beN (h.take i) < 256 ^ i) ?_ h.length ⟨0, o, _, none, rfl, ho, rfl, by simp [beN]⟩
  clear ho
  rintro I_f hI_f Q_f hQ_f f st ⟨i, o, tk, a, hst, ho, hf, hN⟩
  subst hst
  cases f with
  | succ g =>
    have hi : i < h.length := by k_ne
    refine Ev_nextB (g := fun o => [(it, o), (cn, cellO (some (.int (beN (h.take i) : Nat) tk)))]) ho (fun _ => .head) (c := h[i]) (by simp [hi]) fun o' u ho' => ?_
    repeat kpc_turns
    refine Ev_assignN ?_
    repeat kpc_turns
    have h256 : 256 ^ i ≤ 256 ^ 3 := Nat.pow_le_pow_right (by decide) (by k_ne)
    refine Ev_mulN (b := 256) (fun _ => ?_) (IntMulOk.of_left (intBits_le_64 (by k_ne) (by k_ne)))
    repeat kpc_turns
    have hby : h[i].toNat < 256 := h[i].toNat_lt
    have hbe : beN (h.take (i + 1)) = beN (h.take i) * 256 + h[i].toNat := by
      unfold beN; rw [List.take_add_one, List.getElem?_eq_getElem hi, List.foldl_append]; rfl
    rw [show ((beN (h.take i) * 256 : Nat) : Int) + (h[i].toNat : Int) = ((beN (h.take (i + 1)) : Nat) : Int) by rw [hbe]; omega]
    refine ⟨g, Nat.lt_add_one _, hI_f _ _ ⟨i + 1, o', _, _, rfl, ho', by k_ne, ?_⟩⟩
    rw [hbe, Nat.pow_succ]; omega
  | zero =>
    obtain rfl : i = h.length := by k_ne
    refine Ev_endB hC.R ho .head .head (by simp) ?_
    refine drawK_n ?_
    rw [List.take_length] at hN ⊢
    have hN4 : beN h < 256 ^ 4 := Nat.lt_of_lt_of_le hN (Nat.pow_le_pow_right (by decide) h4)
    have hsx : patF h = (if sp = 0 then (sxN (beN h * 2 ^ sp) (mnN h.length)).map alp ++ [42] else ((sxN (beN h * 2 ^ sp) (mnN h.length)).map alp).dropLast ++ [91] ++ (alphaL.drop ((sxN (beN h * 2 ^ sp) (mnN h.length)).getLastD 0)).take (2 ^ sp) ++ [93, 42]) := by unfold patF; rw [hsv]
    refine Ev_nil ?_
    refine Imp.use hQ_f ?_
    rw [hsx]
    have hmn : mnN h.length = (8 * h.length + sp) / 6 := by unfold mnN; rw [hsv]
    rw [hmn]
    clear hsx hmn
    generalize beN h = N at hN hN4 ⊢
    repeat kpc_turns
    refine Ev_AssignTu ?_ (by kernel_rfl) (by rw [env_sc hsc]; kernel_rfl)
    repeat kpc_turns
    refine Ev_powN (a := 2) (by have e : Builtin.Int.intBits ((2 : Nat) : Int) = 2 := by decide +kernel
                                rw [e]; omega) fun _ => ?_
    have h2s : 2 ^ sp ≤ 2 ^ 4 := Nat.pow_le_pow_right (by decide) hsp1.2
    refine Ev_mulN (fun _ => ?_) (IntMulOk.of_left (intBits_le_64 (by k_ne) (by k_ne)))
    repeat kpc_turns
    refine Ev_lenB (by simp; omega) fun _ => ?_
    refine Ev_mul (fun _ => ?_) (IntMulOk.of_left (intBits_le_64 (by k_ne) (by k_ne)))
    repeat kpc_turns
    rw [show 8 * (h.toArray.size : Int) + (sp : Int) = ((8 * h.length + sp : Nat) : Int) by simp]
    refine Ev_floordiv (by decide) (by decide) fun _ => ?_
    rw [show ((8 * h.length + sp : Nat) : Int).fdiv 6 = (((8 * h.length + sp) / 6 : Nat) : Int) from by rw [Int.fdiv_eq_ediv_of_nonneg _ (by decide)]; omega]
    have hm6 : (8 * h.length + sp) / 6 ≤ 6 := by k_ne
    have hm1 : 1 ≤ (8 * h.length + sp) / 6 := by k_ne
    generalize (8 * h.length + sp) / 6 = m at hm6 hm1 ⊢
    repeat kpc_turns
    refine Ev_newTuple (fun tp => ?_) (by show (2 : Nat) ≤ _; rw [sizeLine_eq]; k_ne)
    refine Ev_assignTup hC.R.hd (At.own .head) rfl rfl ?_
    refine Ev_aio_cons ?_ rfl
    refine Ev_assignN ?_
    repeat kpc_turns
    refine Ev_aio_cons ?_ rfl
    refine Ev_assignN ?_
    repeat kpc_turns
    refine Ev_aio_nil ?_
    repeat kpc_turns
    have hN2 : N * 2 ^ sp ≤ N * 16 := Nat.mul_le_mul_left _ h2s
    generalize N * 2 ^ sp = N2 at hN2 ⊢
    refine Ev_ListComp ["k"] [("number", cn)] ?_ (clos_of hcells (by kernel_rfl))
    dsimp only
    repeat kpc_turns
    refine Ev_range1 fun r t1 u1 v1 => ?_
    refine Ev_iterN (by kct_strs) (by k_ne) fun it => ?_
    refine ⟨[(it, itN 0 m)], _, Take.perm (by kas_types), fun C' acc X => ?_⟩
    have hC' := X.ok hC rfl
    have hsc' := X.sc' hsc
    have hcells' := X.cells
    have hx := X.cell (a := cn) (by repeat (first | with_reducible exact HasN.head | with_reducible apply HasN.tail))
    refine CompS.of rfl rfl (Ev_selfR (.tail .head) ⟨rfl, rfl⟩) ?_
    refine CompL.ind1o (fun n st => ∃ (i : Nat) (a : Option Value) (vs : List Value), st = ⟨[(Str.ofString "k", a)], [(acc, listO vs i), (it, itN i n)]⟩ ∧ n + i = m ∧ IntsAre vs ((List.range i).map fun k => ((N2 / 64 ^ k % 64 : Nat) : Int))) ?_ m ⟨0, none, [], rfl, by k_ne, .nil⟩
    rintro I_n hI_n Q_n hQ_n n st ⟨i, a, vs, hst, hn, hi⟩
    subst hst
    have hvl : vs.length = i := by rw [hi.length]; simp
    cases n with
    | succ g =>
      refine Ev_nextN (.tail .head) fun _ => ?_
      repeat kpc_turns
      refine Ev_assignN ?_
      repeat kpc_turns
      refine Ev_powN (a := 64) (by have e : Builtin.Int.intBits ((64 : Nat) : Int) = 7 := by decide +kernel
                                   rw [e]; omega) fun _ => ?_
      have h64 : 64 ^ i ≤ 64 ^ 5 := Nat.pow_le_pow_right (by decide) (by k_ne)
      have h64' : 0 < 64 ^ i := Nat.pow_pos (by decide)
      refine Ev_floordivL (by k_ne) (by rw [Int.natAbs_natCast]; omega) fun _ => ?_
      repeat kpc_turns
      refine Ev_mod (by decide) fun _ => ?_
      rw [show (64 : Int) = ((64 : Nat) : Int) from rfl, divmodN]
      repeat kpc_turns
      refine Ev_append (by kst_all1) (by rw [hvl, sizeLine_eq]; k_ne) ?_
      refine ⟨g, Nat.lt_add_one _, hI_n _ _ ⟨i + 1, _, _, rfl, by k_ne, ?_⟩⟩
      rw [List.range_succ, List.map_append]
      exact hi.append (.cons _ _ .nil)
    | zero =>
      obtain rfl : i = m := by k_ne
      refine Ev_endN hC'.R (.tail .head) (.tail .head) ?_
      refine drawK_n ?_
      refine hQ_n _ ?_
      dsimp only [List.cons_append, List.nil_append]
      repeat kpc_turns
      refine Ev_neg fun _ => ?_
      repeat kpc_turns
      intro sl
      refine Ev_sliceL3 (n := i) (by kct_strs) (At.own .head) .none .none (.int _ _) (by decide) (by rw [hvl, sizeLine_eq]; k_ne) fun sg => ?_
      rw [krv_pick]
      dsimp only
      have hi2 := hi.reverse
      rw [← List.map_reverse] at hi2
      repeat kpc_turns
      refine Ev_take (t := [(sg, listO vs.reverse 0)]) (by kas_types) ?_
      have hi3 : IntsAre vs.reverse ((sxN N2 i).map fun s : Nat => (s : Int)) := by unfold sxN; rw [← List.map_reverse, List.map_map]; exact hi2
      have hs64 : ∀ s ∈ sxN N2 i, s < 64 := by
        intro s hs
        obtain ⟨k, _, rfl⟩ := List.mem_map.mp (List.mem_reverse.mp hs)
        exact Nat.mod_lt _ (by decide)
      have hsl : (sxN N2 i).length = i := by unfold sxN; simp
      clear hi hi2 hvl
      generalize sxN N2 i = sx at hi3 hs64 hsl ⊢
      generalize vs.reverse = ws at hi3 ⊢
      have hwl : ws.length = sx.length := by rw [hi3.length, List.length_map]
      refine Ev_Meth "str" "str.join" ?_ F.plainAttrs_str F.slot_str_join F.type_str_join
      repeat kpc_turns
      refine Ev_ListComp ["one"] [] ?_ (clos_of hcells (by kernel_rfl))
      dsimp only
      repeat kpc_turns
      refine Ev_iterL (n := 0) (by kct_strs) fun it o ho => ?_
      refine ⟨[(it, o)], _, Take.perm (by kas_types), fun C' acc X => ?_⟩
      have hC' := X.ok hC rfl
      have hsc' := X.sc' hsc
      have hcells' := X.cells
      have hx := X.cell (a := sg) (by repeat (first | with_reducible exact HasN.head | with_reducible apply HasN.tail))
      refine CompS.of rfl rfl (Ev_selfL (.tail .head) ho ⟨rfl, rfl⟩) ?_
      refine CompL.ind1o (fun n st => ∃ (j : Nat) (o : Obj) (a : Option Value) (us : List Value), st = ⟨[(Str.ofString "one", a)], [(acc, listO us j), (it, o)]⟩ ∧ ItL o sg j ∧ n + j = sx.length ∧ StrsAre us (((sx.take j).map fun s => [alp s]).map S)) ?_ sx.length ⟨0, o, none, [], rfl, ho, rfl, .nil⟩
      clear ho
      rintro I_n hI_n Q_n hQ_n n st ⟨j, o, a, us, hst, ho, hn, hu⟩
      subst hst
      have hul : us.length = j := by rw [strs_len hu]; simp; omega
      cases n with
      | succ g =>
        have hj : j < sx.length := by k_ne
        obtain ⟨ti, hti⟩ := ints_at hi3 (i := j) (n := (sx[j] : Int)) (by simp [hj])
        refine Ev_nextL (g := fun o => [(acc, listO us j), (it, o)]) (xs := ws) (n := 0) ho (fun _ => .tail .head) (At.base hx) hti fun o' ho' => ?_
        repeat kpc_turns
        refine Ev_assignN ?_
        repeat kpc_turns
        refine Ev_absQ fun Q_c hQ_c => ?_
        refine Ev_call (k := k + 1) [] (by kas_types) hC'.R fun hb' kp => (alpha_spec (k := k) (hC'.B.keeps kp)).mono ?_
        rintro _ _ ⟨⟨ta, rfl⟩, rfl⟩
        refine hQ_c _ _ ?_
        dsimp only [List.nil_append]
        repeat kpc_turns
        have h64 := hs64 _ (List.getElem_mem hj)
        refine Ev_subSN (c := alp sx[j]) (by k_ne) (alp_get h64) fun _ => ?_
        repeat kpc_turns
        refine Ev_append (by kst_all1) (by rw [hul, sizeLine_eq]; k_ne) ?_
        refine ⟨g, Nat.lt_add_one _, hI_n _ _ ⟨j + 1, _, _, _, rfl, ho', by k_ne, ?_⟩⟩
        rw [List.take_add_one, List.getElem?_eq_getElem hj, List.map_append, List.map_append]
        exact strs_app hu (.cons _ _ .nil)
      | zero =>
        obtain rfl : j = sx.length := by k_ne
        refine Ev_endL hC'.R ho (.tail .head) (.tail .head) (At.base hx) (by rw [List.getElem?_eq_none]; omega) ?_
        refine drawK_n ?_
        refine hQ_n _ ?_
        dsimp only [List.cons_append, List.nil_append]
        rw [List.take_length] at hu
        repeat kpc_turns
        have hfl := sing_flat sx
        refine Ev_join (ys := sx.map fun s => [alp s]) (n := sx.length) (by kct_strs) hu (by rw [hfl]; simp; omega) fun _ => ?_
        rw [hfl]
        repeat kpc_turns
        refine Ev_If ?_
        repeat kpc_turns
        by_cases hs0 : sp = 0
        · refine onB_eq (c := true) (by simp [hs0]) ?_
          repeat kpc_turns
          refine Ev_addS (by rw [sizeLine_eq]; simp; omega) fun _ => ?_
          repeat kpc_turns
          rw [if_pos hs0]
          exact ⟨_, rfl⟩
        · refine onB_eq (c := false) (by simp [hs0]) ?_
          obtain ⟨sx0, la, hsxe⟩ : ∃ sx0 la, sx = sx0 ++ [la] := by
            rcases List.eq_nil_or_concat sx with h | ⟨a, b, h⟩
            · rw [h] at hsl; simp at hsl; omega
            · exact ⟨a, b, by rw [h, List.concat_eq_append]⟩
          have hla : sx.getLastD 0 = la := by rw [hsxe]; simp
          have hi4 := hi3
          rw [hsxe, List.map_append] at hi4
          obtain ⟨w0, tw, hwe⟩ := ints_last hi4
          subst hwe
          have hw0 : w0.length < 2 ^ 20 := by rw [List.length_append] at hwl; omega
          repeat kpc_turns
          refine Ev_neg fun _ => ?_
          repeat kpc_turns
          intro s5
          refine Ev_subSliceS none (some (_, _)) (At.own .head) (by rw [sizeLine_eq]; simp; omega) fun _ => ?_
          dsimp only [Option.map]
          rw [slc_dropLast]
          repeat kpc_turns
          refine Ev_addS (by rw [sizeLine_eq]; simp; omega) fun _ => ?_
          repeat kpc_turns
          refine Ev_absQ fun Q_c hQ_c => ?_
          refine Ev_call (k := k + 1) [] (by kas_types) hC.R fun hb' kp => (alpha_spec (k := k) (B.keeps kp)).mono ?_
          rintro _ _ ⟨⟨ta, rfl⟩, rfl⟩
          refine hQ_c _ _ ?_
          dsimp only [List.nil_append]
          repeat kpc_turns
          refine Ev_neg fun _ => ?_
          repeat kpc_turns
          refine Ev_negIdxL (n := 0) (by kct_strs) hw0 ?_
          repeat kpc_turns
          refine Ev_neg fun _ => ?_
          repeat kpc_turns
          refine Ev_negIdxL (n := 0) (by kct_strs) hw0 ?_
          repeat kpc_turns
          refine Ev_powN (a := 2) (by have e : Builtin.Int.intBits ((2 : Nat) : Int) = 2 := by decide +kernel
                                      rw [e]; omega) fun _ => ?_
          repeat kpc_turns
          intro s6
          rw [show (la : Int) + ((2 ^ sp : Nat) : Int) = ((la + 2 ^ sp : Nat) : Int) by k_ne]
          refine Ev_subSliceS (some (_, _)) (some (_, _)) (At.own .head) (by rw [sizeLine_eq]; decide) fun _ => ?_
          dsimp only [Option.map]
          rw [slc_run]
          have hl1 : ((alphaL.drop la).take (2 ^ sp)).length ≤ 16 := by rw [List.length_take]; omega
          refine Ev_addS (by rw [sizeLine_eq]; simp only [List.length_append, List.length_dropLast, List.length_map, List.length_cons, List.length_nil]; omega) fun _ => ?_
          repeat kpc_turns
          refine Ev_addS (by rw [sizeLine_eq]; simp only [List.length_append, List.length_dropLast, List.length_map, List.length_cons, List.length_nil]; omega) fun _ => ?_
          repeat kpc_turns
          rw [if_neg hs0, hla]
          exact ⟨_, rfl⟩
end
section
open PySem PySem.W PyProof.Rows PySem.Calls
set_option maxRecDepth 100000
def itemsF (h : List UInt8) : List (List Nat) :=
  let sx := sxN (beN h * 2 ^ spN h.length) (mnN h.length)
  if spN h.length = 0 then sx.map fun s => [alp s] else (sx.dropLast.map fun s => [alp s]) ++ [(alphaL.drop (sx.getLastD 0)).take (2 ^ spN h.length)]
theorem alp_mem {s : Nat} (h : s < 64) : alp s ∈ alphaL := by
  have := alp_get h
  exact List.mem_of_getElem? this
theorem shape_signs {r : List Nat} {o I : List (List Nat)} (hs : Shape r o) (hi : Items o I) : ∀ sx : List Nat, (∀ s ∈ sx, s < 64) → ∃ o', Shape (sx.map alp ++ r) o' ∧ Items o' ((sx.map fun s => [alp s]) ++ I)
  | [], _ => ⟨o, hs, hi⟩
  | s :: sx, h => by
    obtain ⟨o', h1, h2⟩ := shape_signs hs hi sx fun x hx => h x (List.mem_cons_of_mem _ hx)
    have hm := alp_mem (h s List.mem_cons_self)
    exact ⟨_, .sign hm h1, .cons (.sign hm) h2⟩
theorem sx_lt {N m : Nat} : ∀ s ∈ sxN N m, s < 64 := by
  intro s hs
  obtain ⟨k, _, rfl⟩ := List.mem_map.mp (List.mem_reverse.mp hs)
  exact Nat.mod_lt _ (by decide)
theorem sx_last {N m : Nat} (hm : 1 ≤ m) : ∃ s0, sxN N m = s0 ++ [N % 64] := by
  obtain ⟨g, rfl⟩ : ∃ g, m = g + 1 := ⟨m - 1, by omega⟩
  unfold sxN
  rw [List.range_succ_eq_map, List.map_cons, List.reverse_cons]
  exact ⟨(List.map (fun k => N / 64 ^ k % 64) (List.map Nat.succ (List.range g))).reverse, by rw [Nat.pow_zero, Nat.div_one]⟩
theorem sp_cases {h : List UInt8} (h1 : 1 ≤ h.length) (h4 : h.length ≤ 4) : (spN h.length = 0 ∨ spN h.length = 2 ∨ spN h.length = 4) ∧ 1 ≤ mnN h.length ∧ mnN h.length ≤ 6 := by
  have : h.length = 1 ∨ h.length = 2 ∨ h.length = 3 ∨ h.length = 4 := by omega
  rcases this with e | e | e | e <;> rw [e] <;> decide
theorem pat_shape {h : List UInt8} (h1 : 1 ≤ h.length) (h4 : h.length ≤ 4) : ∃ O, Shape (patF h) O ∧ Items O (itemsF h) := by
  obtain ⟨hsp, hm1, hm6⟩ := sp_cases h1 h4
  unfold patF itemsF
  generalize beN h = N
  generalize spN h.length = sp at hsp
  generalize mnN h.length = m at hm1 hm6
  dsimp only
  obtain ⟨s0, he⟩ := sx_last (N := N * 2 ^ sp) hm1
  by_cases h0 : sp = 0
  · rw [if_pos h0, if_pos h0]
    obtain ⟨o', a, b⟩ := shape_signs .star .nil (sxN (N * 2 ^ sp) m) sx_lt
    exact ⟨o', a, by simpa using b⟩
  · rw [if_neg h0, if_neg h0]
    have hset : SetOk ((alphaL.drop ((sxN (N * 2 ^ sp) m).getLastD 0)).take (2 ^ sp)) := by
      rw [he]
      have e : (s0 ++ [N * 2 ^ sp % 64]).getLastD 0 = N * 2 ^ sp % 64 := by simp
      rw [e]
      rcases hsp with h | h | h
      · exact absurd h h0
      · subst h
        exact Or.inr ⟨N % 16, by omega, by unfold setOf; rw [show N * 2 ^ 2 % 64 = 4 * (N % 16) by omega]⟩
      · subst h
        exact Or.inl ⟨N % 4, by omega, by unfold setOf; rw [show N * 2 ^ 4 % 64 = 16 * (N % 4) by omega]⟩
    have hl : ∀ s ∈ (sxN (N * 2 ^ sp) m).dropLast, s < 64 := fun s hs => sx_lt s (List.dropLast_subset _ hs)
    obtain ⟨o', a, b⟩ := shape_signs (.set hset .star) (.cons (.set hset) .nil) (sxN (N * 2 ^ sp) m).dropLast hl
    refine ⟨o', ?_, b⟩
    have e2 : ((sxN (N * 2 ^ sp) m).map alp).dropLast ++ [91] ++ (alphaL.drop ((sxN (N * 2 ^ sp) m).getLastD 0)).take (2 ^ sp) ++ [93, 42] = (sxN (N * 2 ^ sp) m).dropLast.map alp ++ (91 :: ((alphaL.drop ((sxN (N * 2 ^ sp) m).getLastD 0)).take (2 ^ sp) ++ 93 :: [42])) := by
      rw [List.map_dropLast]; simp
    rw [e2]; exact a
theorem pat_len {h : List UInt8} (h1 : 1 ≤ h.length) (h4 : h.length ≤ 4) : (patF h).length < 100 := by
  obtain ⟨hsp, hm1, hm6⟩ := sp_cases h1 h4
  unfold patF
  generalize beN h = N
  generalize spN h.length = sp at hsp
  generalize mnN h.length = m at hm1 hm6
  have hl : (sxN (N * 2 ^ sp) m).length = m := by unfold sxN; simp
  have h2 : 2 ^ sp ≤ 16 := by rcases hsp with rfl | rfl | rfl <;> decide
  dsimp only
  split <;> simp [hl] <;> omega
end
section
open PySem PySem.W PyProof.Rows PySem.Calls
set_option maxRecDepth 100000
set_option maxHeartbeats 4000000 in
theorem right_spec {p : Program} {w : World} {k : Nat} {hb : Heap} (B : Bs w hb) {h : List UInt8} {t : Tok} {ra ta : Addr} {rv tv : List Value} {rn tn : Nat} {Rw : List (List UInt8)} {T : List (List Nat)} {ps : Array Value} (hps : TabSt lamPos ps)
    (h1 : 1 ≤ h.length) (h4 : h.length ≤ 4) (hra : hb.get? ra = some (listO rv rn)) (hta : hb.get? ta = some (listO tv tn)) (hrv : BysAre rv Rw) (htv : StrsAre tv (T.map S)) (hRl : Rw.length < 2 ^ 10) (hTl : T.length < 2 ^ 10) (hR4 : ∀ r ∈ Rw, r.length ≤ 4) (hT8 : ∀ x ∈ T, x.length ≤ 20) :
    Fn p w (k + 30) hb (.ref 173) [.bytes h.toArray t, .ref ra, .ref ta] [(64, tabObj ps)] (fun v nw' => ∃ ps', v = .bool (decide (T.map (fitsF (itemsF h)) = Rw.map fun r => r.take h.length == h)) ∧ TabSt lamPos ps' ∧ nw' = [(64, tabObj ps')]) := by
  refine FnA.trim ?_
  refine Fn_def (["rows", "texts"] : List Str) ["head", "made"] B rfl (by kernel_rfl) (fun s _ => BindsTo.of_eq (binds := [(Str.ofString "head", .bytes h.toArray t), (Str.ofString "rows", .ref ra), (Str.ofString "texts", .ref ta)]) rfl) (by kernel_rfl) (by decide +kernel) ?_
  rintro C ca hlen hC rfl rfl rfl hsc hcells _ _
  obtain ⟨ch, cm, rfl⟩ : ∃ ch cm, ca = [ch, cm] := by match ca, hlen with | [a, b], _ => exact ⟨a, b, rfl⟩
  replace hcells : C.env.cells = [(Str.ofString "made", cm), (Str.ofString "head", ch)] := hcells
  refine ⟨_, _, .cell (kind_at hsc rfl) (cell_at hcells (cl_tail (by decide +kernel) cl_head)) .head (.loc (kind_at hsc rfl) .head (.loc (kind_at hsc rfl) (.tail .head) .nil)), ?_⟩
  dsimp only [List.map, List.nil_append, List.cons_append, List.append]
  repeat kpc_turns
  refine Ev_absQ fun Q_c hQ_c => ?_
  refine Ev_call (k := k + 29) [] (by kas_types) hC.R fun hb' kp => (pattern_spec (k := k + 27) (B.keeps kp) h1 h4).mono ?_
  rintro _ _ ⟨⟨tp, rfl⟩, rfl⟩
  refine hQ_c _ _ ?_
  dsimp only [List.nil_append]
  repeat kpc_turns
  obtain ⟨O, hsh, hit⟩ := pat_shape h1 h4
  refine Ev_absQ fun Q_c hQ_c => ?_
  refine Ev_call (k := k + 29) [(64, tabObj ps)] (by kas_types) hC.R fun hb' kp => (translate_spec (k := k + 25) (B.keeps kp) hps hsh (by have := pat_len h1 h4; omega)).mono ?_
  rintro _ _ ⟨tm, ps', rfl, hps', rfl⟩
  refine hQ_c _ _ ?_
  dsimp only [List.cons_append, List.nil_append]
  have hOl : O.flatten.length < 2 ^ 18 := by have a := sum_len hsh.bound.1; have b := hsh.bound.2; have c := pat_len h1 h4; omega
  repeat kpc_turns
  refine Ev_ListComp ["text"] [("made", cm)] ?_ (clos_of hcells (by kernel_rfl))
  dsimp only
  repeat kpc_turns
  refine Ev_iterL (n := tn) (At.base hta) fun it o ho => ?_
  refine ⟨[(it, o)], _, Take.perm (by kas_types), fun C' acc X => ?_⟩
  have hC' := X.ok hC rfl
  have hsc' := X.sc' hsc
  have hcells' := X.cells
  have hx := X.cell (a := cm) (by repeat (first | with_reducible exact HasN.head | with_reducible apply HasN.tail))
  have hta' := X.hb.1 _ _ hta
  refine CompS.of rfl rfl (Ev_selfL (.tail .head) ho ⟨rfl, rfl⟩) ?_
  refine CompL.ind1o (fun n st => ∃ (j : Nat) (o : Obj) (a : Option Value), st = ⟨[(Str.ofString "text", a)], [(acc, listO (bools ((T.take j).map (fitsF (itemsF h)))) j), (it, o)]⟩ ∧ ItL o ta j ∧ n + j = T.length) ?_ T.length ⟨0, o, none, rfl, ho, rfl⟩
  clear ho
  rintro I_n hI_n Q_n hQ_n n st ⟨j, o, a, hst, ho, hn⟩
  subst hst
  have htl : tv.length = T.length := by rw [strs_len htv, List.length_map]
  cases n with
  | succ g =>
    have hj : j < T.length := by k_ne
    obtain ⟨ti, hti⟩ := strs_at htv (i := j) (x := S T[j]) (by simp [hj])
    refine Ev_nextL (g := fun o => [(acc, listO (bools ((T.take j).map (fitsF (itemsF h)))) j), (it, o)]) ho (fun _ => .tail .head) (At.base hta') hti fun o' ho' => ?_
    repeat kpc_turns
    refine Ev_assignN ?_
    repeat kpc_turns
    refine Ev_absQ fun Q_c hQ_c => ?_
    refine Ev_call (k := k + 29) [] (by kas_types) hC'.R fun hb' kp => (fits_spec (k := k + 28) (hC'.B.keeps kp) hit hOl (by have := hT8 _ (List.getElem_mem hj); omega)).mono ?_
    rintro _ _ ⟨rfl, rfl⟩
    refine hQ_c _ _ ?_
    dsimp only [List.nil_append]
    repeat kpc_turns
    refine Ev_append (by kst_all1) (by simp [bools, sizeLine_eq]; k_ne) ?_
    have e1 : bools ((T.take (j + 1)).map (fitsF (itemsF h))) = bools ((T.take j).map (fitsF (itemsF h))) ++ [.bool (fitsF (itemsF h) T[j])] := by
      rw [List.take_add_one, List.getElem?_eq_getElem hj, List.map_append]; simp [bools]
    rw [← e1]
    exact ⟨g, Nat.lt_add_one _, hI_n _ _ ⟨j + 1, o', _, rfl, ho', by k_ne⟩⟩
  | zero =>
    obtain rfl : j = T.length := by k_ne
    refine Ev_endL hC'.R ho (.tail .head) (.tail .head) (At.base hta') (by rw [List.getElem?_eq_none]; omega) ?_
    refine drawK_n ?_
    refine hQ_n _ ?_
    dsimp only [List.cons_append, List.nil_append]
    rw [List.take_length]
    repeat kpc_turns
    clear ho hx hta' hcells' hsc' hC' X
    refine Ev_ListComp ["row"] [("head", ch)] ?_ (clos_of hcells (by kernel_rfl))
    dsimp only
    repeat kpc_turns
    refine Ev_iterL (n := rn) (At.base hra) fun it o ho => ?_
    refine ⟨[(it, o)], _, Take.perm (by kas_types), fun C' acc2 X => ?_⟩
    have hC' := X.ok hC rfl
    have hsc' := X.sc' hsc
    have hcells' := X.cells
    have hx := X.cell (a := ch) (by repeat (first | with_reducible exact HasN.head | with_reducible apply HasN.tail))
    have hra' := X.hb.1 _ _ hra
    refine CompS.of rfl rfl (Ev_selfL (.tail .head) ho ⟨rfl, rfl⟩) ?_
    refine CompL.ind1o (fun n st => ∃ (j : Nat) (o : Obj) (a : Option Value), st = ⟨[(Str.ofString "row", a)], [(acc2, listO (bools ((Rw.take j).map fun r => r.take h.length == h)) j), (it, o)]⟩ ∧ ItL o ra j ∧ n + j = Rw.length) ?_ Rw.length ⟨0, o, none, rfl, ho, rfl⟩
    clear ho
    rintro I_n hI_n Q_n hQ_n n st ⟨j, o, a, hst, ho, hn⟩
    subst hst
    have hrl : rv.length = Rw.length := bys_len hrv
    cases n with
    | succ g =>
      have hj : j < Rw.length := by k_ne
      obtain ⟨ti, hti⟩ := bys_at hrv (i := j) (b := Rw[j]) (by simp [hj])
      refine Ev_nextL (g := fun o => [(acc2, listO (bools ((Rw.take j).map fun r => r.take h.length == h)) j), (it, o)]) ho (fun _ => .tail .head) (At.base hra') hti fun o' ho' => ?_
      repeat kpc_turns
      refine Ev_assignN ?_
      repeat kpc_turns
      refine Ev_lenB (by simp; omega) fun _ => ?_
      repeat kpc_turns
      intro sl
      have h4r := hR4 _ (List.getElem_mem hj)
      refine Ev_subSliceB (At.own .head) .none (.int _ _) (by rw [sizeLine_eq]; simp; omega) fun _ => ?_
      rw [show (h.toArray.size : Int) = ((h.length : Nat) : Int) by simp, slc_to]
      repeat kpc_turns
      refine Ev_eqB ?_
      refine Ev_take (t := [(acc2, listO (bools ((Rw.take j).map fun r => r.take h.length == h)) j), (it, o')]) (by kas_types) ?_
      refine Ev_append (by kst_all1) (by simp [bools, sizeLine_eq]; k_ne) ?_
      have e1 : bools ((Rw.take (j + 1)).map fun r => r.take h.length == h) = bools ((Rw.take j).map fun r => r.take h.length == h) ++ [.bool (Rw[j].take h.length == h)] := by
        rw [List.take_add_one, List.getElem?_eq_getElem hj, List.map_append]; simp [bools]
      dsimp only
      rw [← e1]
      exact ⟨g, Nat.lt_add_one _, hI_n _ _ ⟨j + 1, o', _, rfl, ho', by k_ne⟩⟩
    | zero =>
      obtain rfl : j = Rw.length := by k_ne
      refine Ev_endL hC'.R ho (.tail .head) (.tail .head) (At.base hra') (by rw [List.getElem?_eq_none]; omega) ?_
      refine drawK_n ?_
      refine hQ_n _ ?_
      dsimp only [List.cons_append, List.nil_append]
      rw [List.take_length]
      refine Ev_eqBools (n := T.length) (m := Rw.length) (hC.R.le (by k_ne)) (by kct_strs) (by kct_strs) ?_
      repeat kpc_turns
      exact ⟨[(64, tabObj ps')], _, by kas_types, ps', rfl, hps', rfl⟩
end
section
open PySem PySem.W PyProof.Rows PySem.Calls
set_option maxRecDepth 100000
theorem lit_eq : Str.ofString "=" = S [61] := rfl
theorem idxOf_spec {c : Nat} : ∀ {l : List Nat}, c ∈ l → l[l.idxOf c]? = some c ∧ ∀ j, j < l.idxOf c → l[j]? ≠ some c
  | [], h => nomatch h
  | a :: r, h => by
    by_cases hac : a = c
    · subst hac; simp
    · have hr : c ∈ r := by rcases List.mem_cons.mp h with e | e; exact absurd e.symm hac; exact e
      obtain ⟨h1, h2⟩ := idxOf_spec hr
      have e : (a :: r).idxOf c = r.idxOf c + 1 := by
        rw [List.idxOf_cons]
        have : (a == c) = false := by simp [hac]
        rw [this]; rfl
      rw [e]
      refine ⟨by simpa using h1, fun j hj => ?_⟩
      cases j with
      | zero => simp [hac]
      | succ j => simpa using h2 j (by k_ne)
def decT (x : List Nat) : List Nat := x.filterMap fun c => if c = 61 then none else some (alphaL.idxOf c)
def PO (refs : List Value) (idx : List (List Nat)) (objs : Nw) : Prop := refs.length = idx.length ∧ ∀ i (h : i < idx.length), ∃ t l tok vs n, refs[i]? = some (.ref t) ∧ (t, tupO [.ref l, .int (i : Nat) tok]) ∈ objs ∧ (l, listO vs n) ∈ objs ∧ IntsAre vs (idx[i].map fun s : Nat => (s : Int))
theorem PO.snoc {refs : List Value} {idx : List (List Nat)} {objs : Nw} (h : PO refs idx objs) {t l : Addr} {tok : Tok} {vs : List Value} {n : Nat} {x : List Nat} (hv : IntsAre vs (x.map fun s : Nat => (s : Int))) :
    PO (refs ++ [.ref t]) (idx ++ [x]) ((t, tupO [.ref l, .int (idx.length : Nat) tok]) :: (l, listO vs n) :: objs) := by
  refine ⟨by simp [h.1], fun i hi => ?_⟩
  by_cases hlt : i < idx.length
  · obtain ⟨t', l', tok', vs', n', a, b, c, d⟩ := h.2 i hlt
    exact ⟨t', l', tok', vs', n', by rw [List.getElem?_append_left (by rw [h.1]; exact hlt)]; exact a, List.mem_cons_of_mem _ (List.mem_cons_of_mem _ b), List.mem_cons_of_mem _ (List.mem_cons_of_mem _ c), by rw [List.getElem_append_left hlt]; exact d⟩
  · obtain rfl : i = idx.length := by simp at hi; omega
    refine ⟨t, l, tok, vs, n, by rw [show (idx.length = refs.length) from h.1.symm, List.getElem?_append_right (Nat.le_refl _)]; simp, List.mem_cons_self, List.mem_cons_of_mem _ List.mem_cons_self, by simpa using hv⟩
theorem PO.mono {refs : List Value} {idx : List (List Nat)} {objs objs' : Nw} (h : PO refs idx objs) (hs : ∀ p ∈ objs, p ∈ objs') : PO refs idx objs' := ⟨h.1, fun i hi => by
  obtain ⟨t', l', tok', vs', n', a, b, c, d⟩ := h.2 i hi
  exact ⟨t', l', tok', vs', n', a, hs _ b, hs _ c, d⟩⟩
theorem Take.all : ∀ l : Nw, Take l l []
  | [] => .nil
  | p :: r => .cons .head (Take.all r)
theorem alpha_lt {c : Nat} (h : c ∈ alphaL) : c < 128 ∧ c ≠ 61 := by
  have : alphaL.all (fun c => decide (c < 128) && c != 61) = true := by decide +kernel
  have := List.all_eq_true.mp this c h
  simpa using this
theorem decT_snoc {x : List Nat} {j c : Nat} (h : x[j]? = some c) : decT (x.take (j + 1)) = decT (x.take j) ++ (if c = 61 then [] else [alphaL.idxOf c]) := by
  unfold decT
  rw [List.take_add_one, h, List.filterMap_append]
  congr 1
  by_cases hc : c = 61 <;> simp [hc]
set_option maxHeartbeats 4000000 in
theorem pairs_spec {p : Program} {w : World} {k : Nat} {hb : Heap} (B : Bs w hb) {ta : Addr} {tv : List Value} {tn : Nat} {T : List (List Nat)} (hta : hb.get? ta = some (listO tv tn)) (htv : StrsAre tv (T.map S)) (hTl : T.length < 2 ^ 10)
    (hT8 : ∀ x ∈ T, x.length ≤ 20) (hTc : ∀ x ∈ T, ∀ c ∈ x, c = 61 ∨ c ∈ alphaL) :
    Fn p w (k + 2) hb (.ref 163) [.ref ta] [] (fun v nw' => ∃ l refs n objs, v = .ref l ∧ nw' = (l, listO refs n) :: objs ∧ PO refs (T.map decT) objs) := by
  refine FnA.trim ?_
  refine Fn_def ([] : List Str) ["texts"] B rfl (by kernel_rfl) (fun s _ => BindsTo.of_eq (binds := [(Str.ofString "texts", .ref ta)]) rfl) (by kernel_rfl) (by decide +kernel) ?_
  rintro C ca hlen hC rfl rfl rfl hsc hcells _ _
  obtain ⟨ct, rfl⟩ : ∃ ct, ca = [ct] := List.length_eq_one_iff.mp hlen
  replace hcells : C.env.cells = [(Str.ofString "texts", ct)] := hcells
  refine ⟨_, _, .cell (kind_at hsc rfl) (cell_at hcells cl_head) .head .nil, ?_⟩
  dsimp only [List.map, List.nil_append, List.cons_append, List.append]
  simp only [lit_eq]
  have htl : tv.length = T.length := by rw [strs_len htv, List.length_map]
  repeat kpc_turns
  refine Ev_ListComp ["k"] [("texts", ct)] ?_ (clos_of hcells (by kernel_rfl))
  dsimp only
  repeat kpc_turns
  refine Ev_lenList (n := tn) (At.base hta) (by k_ne) fun _ => ?_
  repeat kpc_turns
  refine Ev_range1 fun r t1 u1 v1 => ?_
  refine Ev_iterN (by kct_strs) (by k_ne) fun it => ?_
  refine ⟨[(it, itN 0 tv.length)], _, Take.perm (by kas_types), fun C' acc X => ?_⟩
  have hC' := X.ok hC rfl
  have hsc' := X.sc' hsc
  have hcells' := X.cells
  have hx := X.cell (a := ct) (by repeat (first | with_reducible exact HasN.head | with_reducible apply HasN.tail))
  have hta' := X.hb.1 _ _ hta
  refine CompS.of rfl rfl (Ev_selfR (.tail .head) ⟨rfl, rfl⟩) ?_
  refine CompL.ind1o (fun n st => ∃ (i : Nat) (a : Option Value) (refs : List Value) (objs : Nw), st = ⟨[(Str.ofString "k", a)], (acc, listO refs i) :: (it, itN i n) :: objs⟩ ∧ n + i = T.length ∧ PO refs ((T.take i).map decT) objs) ?_ tv.length ⟨0, none, [], [], rfl, by k_ne, ⟨rfl, fun i hi => absurd hi (by simp)⟩⟩
  rintro I_n hI_n Q_n hQ_n n st ⟨i, a, refs, objs, hst, hn, hpo⟩
  subst hst
  cases n with
  | zero =>
    obtain rfl : i = T.length := by k_ne
    refine Ev_endN hC'.R (.tail .head) (.tail .head) ?_
    refine drawK_n ?_
    refine hQ_n _ ?_
    dsimp only [List.cons_append, List.nil_append]
    repeat kpc_turns
    rw [List.take_length] at hpo
    exact ⟨_, [], Take.all _, acc, refs, _, _, rfl, rfl, hpo.mono fun p hp => List.mem_append_left _ hp⟩
  | succ g =>
    have hi : i < T.length := by k_ne
    refine Ev_nextN (.tail .head) fun tk => ?_
    repeat kpc_turns
    refine Ev_assignN ?_
    repeat kpc_turns
    have hil : ((T.take i).map decT).length = i := by simp; omega
    obtain ⟨tt, htt⟩ := strs_at htv (i := i) (x := S T[i]) (by simp [hi])
    have hxc := hTc _ (List.getElem_mem hi)
    have hx8 := hT8 _ (List.getElem_mem hi)
    have hTi : (T.take (i + 1)).map decT = (T.take i).map decT ++ [decT T[i]] := by rw [List.take_add_one, List.getElem?_eq_getElem hi, List.map_append]; rfl
    generalize T[i] = x at htt hxc hx8 hTi
    refine Ev_ListComp ["sign"] [] ?_ (clos_of hcells' (by kernel_rfl))
    dsimp only
    repeat kpc_turns
    refine Ev_subList (n := tn) (At.base hta') (by k_ne) (by k_ne) (by rw [Int.toNat_natCast]; exact htt) ?_
    refine Ev_iterS (by simp; intro c hc; rcases hxc c hc with rfl | h; decide; exact (alpha_lt h).1) fun it2 o ho => ?_
    refine ⟨[(it2, o)], _, List.Perm.refl _, fun C2 acc2 X2 => ?_⟩
    have hC2 := X2.ok hC' rfl
    have hsc2 := X2.sc' hsc'
    have hcells2 := X2.cells
    refine CompS.of rfl rfl (Ev_selfS (.tail .head) ho ⟨rfl, rfl⟩) ?_
    refine CompL.ind1to (fun n st => ∃ (j : Nat) (o : Obj) (a : Option Value) (vs : List Value) (m : Nat), st = ⟨[(Str.ofString "sign", a)], [(acc2, listO vs m), (it2, o)]⟩ ∧ ItS o (S x) tt j ∧ n + j = x.length ∧ IntsAre vs ((decT (x.take j)).map fun s : Nat => (s : Int)) ∧ vs.length ≤ j) ?_ x.length ⟨0, o, none, [], 0, rfl, ho, rfl, .nil, Nat.le_refl _⟩
    clear ho
    rintro I_n2 hI_n2 Q_n2 hQ_n2 n2 st ⟨j, o, a2, vs, m, hst, ho, hn2, hvs, hvj⟩
    subst hst
    cases n2 with
    | zero =>
      obtain rfl : j = x.length := by k_ne
      refine Ev_endS hC2.R ho (.tail .head) (.tail .head) (by simp) ?_
      refine drawK_n ?_
      refine hQ_n2 _ ?_
      dsimp only [List.cons_append, List.nil_append]
      rw [List.take_length] at hvs
      repeat kpc_turns
      refine Ev_newTuple (fun tp => ?_) (by show (2 : Nat) ≤ _; rw [sizeLine_eq]; k_ne)
      refine Ev_perm (nw' := (acc, listO refs i) :: (it, itN (i + 1) g) :: (tp, tupO [.ref acc2, .int (i : Nat) tk]) :: (acc2, listO vs m) :: objs) ?_ ?_
      · exact (List.perm_append_comm (l₁ := [(tp, tupO [.ref acc2, .int (i : Nat) tk]), (acc2, listO vs m)]) (l₂ := [(acc, listO refs i), (it, itN (i + 1) g)])).append_right objs
      · refine Ev_append .head (by rw [hpo.1, hil, sizeLine_eq]; k_ne) ?_
        refine ⟨g, Nat.lt_add_one _, hI_n _ _ ⟨i + 1, _, _, _, rfl, by k_ne, ?_⟩⟩
        rw [hTi]
        have := PO.snoc (t := tp) (l := acc2) (tok := tk) (n := m) hpo hvs
        rw [hil] at this
        exact this
    | succ g2 =>
      have hj : j < x.length := by k_ne
      have hxj : x[j]? = some x[j] := List.getElem?_eq_getElem hj
      have hcj := hxc _ (List.getElem_mem hj)
      have hdec := decT_snoc hxj
      generalize x[j] = c at hxj hcj hdec
      refine Ev_nextS (g := fun o => [(acc2, listO vs m), (it2, o)]) ho (fun _ => .tail .head) (c := c) (by simpa using hxj) fun o' u ho' => ?_
      repeat kpc_turns
      refine Ev_assignN ?_
      repeat kpc_turns
      refine Ev_neS ?_
      repeat kpc_turns
      by_cases h61 : c = 61
      · refine onB_eq (c := false) (by simp [h61]) ?_
        refine ⟨g2, Nat.lt_add_one _, hI_n2 _ _ ⟨j + 1, o', _, vs, m, rfl, ho', by k_ne, ?_, by k_ne⟩⟩
        rw [hdec, if_pos h61, List.append_nil]; exact hvs
      · have hca : c ∈ alphaL := hcj.resolve_left h61
        refine onB_eq (c := true) (by simp [h61]) ?_
        refine Ev_Meth "str" "str.index" ?_ F.plainAttrs_str F.slot_str_index F.type_str_index
        repeat kpc_turns
        refine Ev_absQ fun Q_c hQ_c => ?_
        refine Ev_call (k := k + 1) [] (by kas_types) hC2.R fun hb' kp => (alpha_spec (k := k) (hC2.B.keeps kp)).mono ?_
        rintro _ _ ⟨⟨ta, rfl⟩, rfl⟩
        refine hQ_c _ _ ?_
        dsimp only [List.nil_append]
        repeat kpc_turns
        obtain ⟨q1, q2⟩ := idxOf_spec hca
        refine Ev_index2 q1 q2 fun _ => ?_
        refine Ev_append (by kst_all1) (by rw [sizeLine_eq]; k_ne) ?_
        refine ⟨g2, Nat.lt_add_one _, hI_n2 _ _ ⟨j + 1, o', _, _, _, rfl, ho', by k_ne, ?_, by rw [List.length_append, List.length_singleton]; omega⟩⟩
        rw [hdec, if_neg h61]
        exact natsAre hvs _ _
end
section
set_option maxRecDepth 100000
open PySem PySem.W PyProof.Rows PySem.Calls PySem.SeqAt PySem.MeetsSeq
def LtAt (A : Around) (s : Shared) (x y : Value) (b : Bool) : Prop := ∀ (prog : Program) (w : World) (E : Value → Shared → Prop) (Q : Value → Shared → Prop), Q (.bool b) s → wpAny (model prog w) A (richCompare .Lt x y) Q E s
def ltGo (eq lt : Nat → Bool) (n m : Nat) : Nat → Nat → Bool
  | 0, _ => decide (n < m)
  | f + 1, i => if i < n ∧ i < m then (if eq i then ltGo eq lt n m f (i + 1) else lt i) else decide (n < m)
theorem lt_loopAt (l b : Addr) (items items2 : Array Value) (n n2 : Nat) (e lt : Nat → Bool) (k : Nat) :
    ∀ i : Nat, min items.size items2.size - i = k → Meets (Builtin.«list.__eq__.loop» ⟨[.ref l, .ref b, rawInt i, rawInt 0], []⟩)
      (fun A R s => s.heap.get? l = some { cls := .type "list", data := .seq items n } ∧ s.heap.get? b = some { cls := .type "list", data := .seq items2 n2 } ∧
        (∀ j (h1 : j < items.size) (h2 : j < items2.size), EqAt A.in1 s items[j] items2[j] (e j)) ∧ (∀ j (h1 : j < items.size) (h2 : j < items2.size), LtAt A.in1 s items[j] items2[j] (lt j)) ∧
        R (.ok (.ret (.bool (ltGo e lt items.size items2.size k i)))) s) := by
  induction k with
  | zero =>
    intro i hk prog w A R s h
    obtain ⟨hp, g, d, tk, os⟩ := s; obtain ⟨hl, hb, he, hlt, h⟩ := h
    wp_walk using wpAny_loadPart' hl, wpAny_loadPart' hb
    have hno : items[((i : Nat) : Int).toNat]? = none ∨ items2[((i : Nat) : Int).toNat]? = none := by
      simp; omega
    rcases Nat.lt_or_ge i items.size with h1 | h1
    · have hi1 : items[((i : Nat) : Int).toNat]? = some items[i] := by simp [h1]
      have hi2 : items2[((i : Nat) : Int).toNat]? = none := by simp; omega
      rw [hi1, hi2]
      wp_walk using wpAny_loadPart' hl, wpAny_loadPart' hb
      exact h
    · have hi1 : items[((i : Nat) : Int).toNat]? = none := by simp; omega
      rw [hi1]
      cases hi2 : items2[((i : Nat) : Int).toNat]?
      · wp_walk using wpAny_loadPart' hl, wpAny_loadPart' hb
        exact h
      · wp_walk using wpAny_loadPart' hl, wpAny_loadPart' hb
        exact h
  | succ k ih =>
    intro i hk prog w A R s h
    obtain ⟨hp, g, d, tk, os⟩ := s; obtain ⟨hl, hb, he, hlt, h⟩ := h
    wp_walk using wpAny_loadPart' hl, wpAny_loadPart' hb
    have h1 : i < items.size := by omega
    have h2 : i < items2.size := by omega
    have hi1 : items[((i : Nat) : Int).toNat]? = some items[i] := by simp [h1]
    have hi2 : items2[((i : Nat) : Int).toNat]? = some items2[i] := by simp [h2]
    have hc : ((i : Int) + 1) = ((i + 1 : Nat) : Int) := by push_cast; rfl
    unfold ltGo at h
    rw [if_pos ⟨h1, h2⟩] at h
    rw [hi1, hi2]
    refine wpAny_bind (he i h1 h2 prog w _ _ ?_)
    cases hb' : e i with
    | true =>
      rw [hb', if_pos rfl] at h
      wp_walk
      rw [hc]
      exact ⟨plainId_quiet MeetsSeq3.plain_eq_loop _, codeAny_builtin MeetsSeq3.entry_eq_loop (by
        rw [Around.under_plainId MeetsSeq3.plain_eq_loop _]
        exact ih (i + 1) (by omega) prog w A R _ ⟨hl, hb, he, hlt, h⟩)⟩
    | false =>
      rw [hb', if_neg (by simp)] at h
      wp_walk using wpAny_loadPart' hl, wpAny_loadPart' hb
      rw [hi1, hi2]
      dsimp only
      refine wpAny_bind (hlt i h1 h2 prog w _ _ ?_)
      exact wpAny_pure h
theorem list_ltCall {prog : Program} {w : World} {E : Value → Shared → Prop} {Q : Value → Shared → Prop} {A : Around} {s : Shared} {l b : Addr} {items items2 : Array Value} {n n2 : Nat} {e lt : Nat → Bool} (hl : s.heap.get? l = some { cls := .type "list", data := .seq items n }) (hb : s.heap.get? b = some { cls := .type "list", data := .seq items2 n2 })
    (he : ∀ j (h1 : j < items.size) (h2 : j < items2.size), EqAt A.in1 s items[j] items2[j] (e j)) (hlt : ∀ j (h1 : j < items.size) (h2 : j < items2.size), LtAt A.in1 s items[j] items2[j] (lt j))
    (hq : Q (.bool (ltGo e lt items.size items2.size (min items.size items2.size) 0)) s) : wpAny (model prog w) A (call (.builtin "list.__lt__") [.ref l, .ref b]) Q E s := by
  have g : Meets (Builtin.«list.__lt__» ⟨[.ref l, .ref b], []⟩)
      (fun A R s => s.heap.get? l = some { cls := .type "list", data := .seq items n } ∧ s.heap.get? b = some { cls := .type "list", data := .seq items2 n2 } ∧
        (∀ j (h1 : j < items.size) (h2 : j < items2.size), EqAt A.in1 s items[j] items2[j] (e j)) ∧ (∀ j (h1 : j < items.size) (h2 : j < items2.size), LtAt A.in1 s items[j] items2[j] (lt j)) ∧
        R (.ok (.ret (.bool (ltGo e lt items.size items2.size (min items.size items2.size) 0)))) s) := by
    intro prog w A R s h
    obtain ⟨hp, g, d, tk, os⟩ := s; obtain ⟨hl, hb, he, hlt, h⟩ := h
    have f3 := AutoSeq1.sub_list_list
    wp_walk using wpAny_loadPart' hl, wpAny_loadPart' hb
    exact ⟨plainId_quiet MeetsSeq3.plain_eq_loop _, codeAny_builtin MeetsSeq3.entry_eq_loop (by
      rw [Around.under_plainId MeetsSeq3.plain_eq_loop _]
      exact lt_loopAt l b items items2 n n2 e lt _ 0 (by omega) prog w A R _ ⟨hl, hb, he, hlt, h⟩)⟩
  exact call_meets F.slot_list_lt ⟨_, hl, rfl⟩ F.entry_list_lt (F.args_list_lt_2 _ _) g ⟨hl, hb, he, hlt, hq⟩
theorem list_ltAt {A : Around} {s : Shared} {l b : Addr} {items items2 : Array Value} {n n2 : Nat} {e lt : Nat → Bool} (hl : s.heap.get? l = some { cls := .type "list", data := .seq items n }) (hb : s.heap.get? b = some { cls := .type "list", data := .seq items2 n2 })
    (he : ∀ j (h1 : j < items.size) (h2 : j < items2.size), EqAt A.in1 s items[j] items2[j] (e j)) (hlt : ∀ j (h1 : j < items.size) (h2 : j < items2.size), LtAt A.in1 s items[j] items2[j] (lt j)) (hu : A.units < cLine) :
    LtAt A s (.ref l) (.ref b) (ltGo e lt items.size items2.size (min items.size items2.size) 0) := fun prog w E Q hq =>
  wpAny_richCompare_same_room (op := .Lt) ⟨_, hl, rfl⟩ ⟨_, hb, rfl⟩ F.slot_list_lt (list_ltCall hl hb he hlt ⟨(fun x => nomatch x), hq⟩) hu
theorem tup_ltAt {A : Around} {s : Shared} {l b : Addr} {x1 x2 y1 y2 : Value} {e1 e2 l1 l2 : Bool} (hl : s.heap.get? l = some (tupO [x1, x2])) (hb : s.heap.get? b = some (tupO [y1, y2]))
    (he1 : EqAt A.in1 s x1 y1 e1) (he2 : EqAt A.in1 s x2 y2 e2) (hl1 : LtAt A.in1 s x1 y1 l1) (hl2 : LtAt A.in1 s x2 y2 l2) (hu : A.units < cLine) :
    LtAt A s (.ref l) (.ref b) (if e1 then (if e2 then false else l2) else l1) := fun prog w E Q hq => by
  have g : Meets (Builtin.«tuple.__lt__» ⟨[.ref l, .ref b], []⟩)
      (fun A R s => s.heap.get? l = some (tupO [x1, x2]) ∧ s.heap.get? b = some (tupO [y1, y2]) ∧ EqAt A.in1 s x1 y1 e1 ∧ EqAt A.in1 s x2 y2 e2 ∧ LtAt A.in1 s x1 y1 l1 ∧ LtAt A.in1 s x2 y2 l2 ∧
        R (.ok (.ret (.bool (if e1 then (if e2 then false else l2) else l1)))) s) := by
    refine .of_wp fun prog w A R s h => ?_
    obtain ⟨hp, g, d, tk, os⟩ := s; obtain ⟨hl, hb, he1, he2, hl1, hl2, h⟩ := h
    have f2 := AutoSeq1.sub_tuple_tuple
    wp_walk using wpAny_loadPart' hl, wpAny_loadPart' hb, wpAny_forIn_list _ (fun rest b s' => b.1 = none ∧ s' = ⟨hp, g, d, tk, os⟩ ∧ (rest = [(x1, y1), (x2, y2)] ∨ (rest = [(x2, y2)] ∧ e1 = true) ∨ (rest = [] ∧ e1 = true ∧ e2 = true))) _
    case turn =>
      rintro ⟨y, x⟩ rest b s' ⟨hb', rfl, hc⟩
      rcases hc with hc | ⟨hc, he1'⟩ | ⟨hc, _⟩
      · injection hc with hc1 hc2
        injection hc1 with h1 h2
        subst h1 h2 hc2
        refine wpAny_bind (he1 prog w _ _ ?_)
        cases e1 with
        | true => exact wpAny_pure ⟨rfl, rfl, Or.inr (Or.inl ⟨rfl, rfl⟩)⟩
        | false =>
          refine wpAny_bind (wpAny_rule (wpAny_bind (hl1 prog w _ _ ?_)))
          exact wpAny_bind (wpAny_pure (wpAny_pure (wpAny_pure ⟨_, rfl, h⟩)))
      · injection hc with hc1 hc2
        injection hc1 with h1 h2
        subst h1 h2 hc2 he1'
        refine wpAny_bind (he2 prog w _ _ ?_)
        cases e2 with
        | true => exact wpAny_pure ⟨rfl, rfl, Or.inr (Or.inr ⟨rfl, rfl, rfl⟩)⟩
        | false =>
          refine wpAny_bind (wpAny_rule (wpAny_bind (hl2 prog w _ _ ?_)))
          exact wpAny_bind (wpAny_pure (wpAny_pure (wpAny_pure ⟨_, rfl, h⟩)))
      · cases hc
    case fin =>
      rintro ⟨b1, b2⟩ s' ⟨hb', rfl, hc⟩
      simp only at hb'
      subst hb'
      rcases hc with hc | ⟨hc, he1'⟩ | ⟨hc, he1', he2'⟩
      · cases hc
      · cases hc
      · subst he1' he2'
        exact wpAny_pure ⟨_, rfl, h⟩
    exact ⟨rfl, rfl, Or.inl rfl⟩
  exact richCompare_meets_room (op := .Lt) ⟨_, hl, rfl⟩ ⟨_, hb, rfl⟩ F.slot_tuple_lt F.entry_tuple_lt (F.args_tuple_lt_2 _ _) g ⟨hl, hb, he1, he2, hl1, hl2, ⟨(fun x => nomatch x), hq⟩⟩ hu
end
section
set_option maxRecDepth 100000
open PySem PySem.W PyProof.Rows PySem.Calls PySem.SeqAt PySem.MeetsSeq
def lexL : List Int → List Int → Bool
  | [], [] => false
  | [], _ :: _ => true
  | _ :: _, [] => false
  | a :: r, b :: t => if a = b then lexL r t else decide (a < b)
theorem ltGo_lex (xs ys : List Int) : ∀ (f i : Nat), f = min xs.length ys.length - i → i ≤ min xs.length ys.length →
    ltGo (fun j => decide (xs.getD j 0 = ys.getD j 0)) (fun j => decide (xs.getD j 0 < ys.getD j 0)) xs.length ys.length f i = lexL (xs.drop i) (ys.drop i)
  | 0, i, hf, hi => by
    unfold ltGo
    rcases Nat.lt_or_ge i xs.length with h1 | h1
    · have h2 : ys.length ≤ i := by omega
      rw [List.drop_eq_nil_of_le h2, List.drop_eq_getElem_cons h1]
      unfold lexL
      simp; omega
    · rw [List.drop_eq_nil_of_le h1]
      rcases Nat.lt_or_ge i ys.length with h2 | h2
      · rw [List.drop_eq_getElem_cons h2]
        unfold lexL; simp; omega
      · rw [List.drop_eq_nil_of_le h2]
        unfold lexL; simp; omega
  | f + 1, i, hf, hi => by
    have h1 : i < xs.length := by omega
    have h2 : i < ys.length := by omega
    unfold ltGo
    rw [if_pos ⟨h1, h2⟩, List.drop_eq_getElem_cons h1, List.drop_eq_getElem_cons h2]
    have e1 : xs.getD i 0 = xs[i] := by simp [List.getD, h1]
    have e2 : ys.getD i 0 = ys[i] := by simp [List.getD, h2]
    unfold lexL
    rw [e1, e2]
    by_cases he : xs[i] = ys[i]
    · rw [if_pos (by simp [he]), if_pos he]
      exact ltGo_lex xs ys f (i + 1) (by omega) (by omega)
    · rw [if_neg (by simp [he]), if_neg he]
theorem ltAt_int {A : Around} {s : Shared} {a b : Int} {t u : Tok} : LtAt A s (.int a t) (.int b u) (decide (a < b)) := fun prog w E Q hq => lt_int (prog := prog) (w := w) (A := A) (E := E) (t := t) (u := u) hq
theorem reads_ints {h : Heap} {vs : List Value} {ns : List Int} (hi : IntsAre vs ns) : ReadsAll h vs (ns.map .int) [] := by
  induction hi with
  | nil => exact .nil
  | cons n t _ ih => exact ReadsAll.cons (Reads.int n t) ih
theorem ints_ok : ∀ ns : List Int, PyData.canLayAll0 (ns.map PyData.int) = true ∧ PyData.depthAll (ns.map PyData.int) = 0
  | [] => ⟨rfl, rfl⟩
  | b :: r => by
    have ih := ints_ok r
    simp [PyData.canLayAll0, PyData.depthAll, PyData.canLay0, PyData.depth, ih.1, ih.2]
theorem ints_get {vs : List Value} {ns : List Int} (hi : IntsAre vs ns) {j : Nat} (h : j < vs.toArray.size) : ∃ t, vs.toArray[j] = .int (ns.getD j 0) t := by
  have hl := hi.length
  have hj : j < ns.length := by simp at h; omega
  obtain ⟨t, ht⟩ := ints_at hi (i := j) (n := ns[j]) (List.getElem?_eq_getElem hj)
  refine ⟨t, ?_⟩
  have e : ns.getD j 0 = ns[j] := by simp [List.getD, hj]
  rw [e]
  have : vs[j]? = some vs.toArray[j] := by simp
  rw [this] at ht
  exact Option.some.inj ht
def PairsIn (hb : Heap) (refs : List Value) (idx : List (List Int)) : Prop := refs.length = idx.length ∧ ∀ i (h : i < idx.length), ∃ t l tok vs n, refs[i]? = some (.ref t) ∧ hb.get? t = some (tupO [.ref l, .int (i : Nat) tok]) ∧ hb.get? l = some (listO vs n) ∧ IntsAre vs idx[i]
def pairLt (idx : List (List Int)) (i j : Nat) : Bool := if idx.getD i [] = idx.getD j [] then (if i = j then false else decide (i < j)) else lexL (idx.getD i []) (idx.getD j [])
theorem PairsIn.keeps {hb hb' : Heap} {refs : List Value} {idx : List (List Int)} (h : PairsIn hb refs idx) (kp : Mine.Keeps hb hb') : PairsIn hb' refs idx := ⟨h.1, fun i hi => by
  obtain ⟨t, l, tok, vs, n, a, b, c, d⟩ := h.2 i hi
  exact ⟨t, l, tok, vs, n, a, kp.1 _ _ b, kp.1 _ _ c, d⟩⟩
theorem PairsIn.nodup {hb : Heap} {refs : List Value} {idx : List (List Int)} (h : PairsIn hb refs idx) {i j : Nat} (hi : i < idx.length) (hj : j < idx.length) (e : refs[i]? = refs[j]?) : i = j := by
  obtain ⟨t, l, tok, vs, n, a, b, c, d⟩ := h.2 i hi
  obtain ⟨t', l', tok', vs', n', a', b', c', d'⟩ := h.2 j hj
  rw [a, a'] at e
  injection e with e; injection e with e
  subst e
  rw [b] at b'
  injection b' with b'
  have := congrArg Obj.data b'
  injection this with this
  have := congrArg Array.toList this
  simp at this
  omega
theorem pair_lt {hb : Heap} {refs : List Value} {idx : List (List Int)} (h : PairsIn hb refs idx) {A : Around} {s : Shared} (hu : A.units + 64 < cLine) (hk : ∀ b o, hb.get? b = some o → s.heap.get? b = some o) {i j : Nat} (hi : i < idx.length) (hj : j < idx.length) {u v : Value} (eu : refs[i]? = some u) (ev : refs[j]? = some v) :
    LtAt A s u v (pairLt idx i j) := by
  obtain ⟨t, l, tok, vs, n, a, b, c, d⟩ := h.2 i hi
  obtain ⟨t', l', tok', vs', n', a', b', c', d'⟩ := h.2 j hj
  rw [eu] at a; rw [ev] at a'
  injection a with a; injection a' with a'
  subst a a'
  have hu1 : A.in1.units + 63 ≤ A.units + 64 := by show A.units + 1 + 63 ≤ _; omega
  have gi : idx.getD i [] = idx[i] := by simp [List.getD, hi]
  have gj : idx.getD j [] = idx[j] := by simp [List.getD, hj]
  have he1 : EqAt A.in1 s (.ref l) (.ref l') (decide (idx[i] = idx[j])) := by
    have := eqAt_reads (.list (idx[i].map .int)) (.list (idx[j].map .int)) A.in1 s (.ref l) (.ref l') _ _ (reads_list_at (hk _ _ c) rfl rfl (by simpa using reads_ints d)) (reads_list_at (hk _ _ c') rfl rfl (by simpa using reads_ints d')) (by simp [PyData.canLay0, (ints_ok _).1]) (by simp [PyData.canLay0, (ints_ok _).1]) (by simp [PyData.depth, (ints_ok _).2]; omega)
    have e : PyData.eqv (.list (idx[i].map .int)) (.list (idx[j].map .int)) = decide (idx[i] = idx[j]) := by simp only [PyData.eqv, ked_eqvAll]
    rwa [e] at this
  have hl1 : LtAt A.in1 s (.ref l) (.ref l') (lexL idx[i] idx[j]) := by
    have hh := list_ltAt (A := A.in1) (s := s) (e := fun m => decide ((idx[i]).getD m 0 = (idx[j]).getD m 0)) (lt := fun m => decide ((idx[i]).getD m 0 < (idx[j]).getD m 0)) (hk _ _ c) (hk _ _ c') ?_ ?_ (by omega)
    · have e1 : vs.toArray.size = (idx[i]).length := by simp [d.length]
      have e2 : vs'.toArray.size = (idx[j]).length := by simp [d'.length]
      rw [e1, e2] at hh
      have hg := ltGo_lex idx[i] idx[j] _ 0 rfl (Nat.zero_le _)
      rw [Nat.sub_zero] at hg
      rw [hg] at hh
      exact hh
    · intro m h1 h2
      obtain ⟨t1, g1⟩ := ints_get d h1
      obtain ⟨t2, g2⟩ := ints_get d' h2
      rw [g1, g2]
      have := EqAt.int_int (A := A.in1.in1) (s := s) ((idx[i]).getD m 0) t1 ((idx[j]).getD m 0) t2
      rwa [show ((idx[i]).getD m 0 == (idx[j]).getD m 0) = decide ((idx[i]).getD m 0 = (idx[j]).getD m 0) from rfl] at this
    · intro m h1 h2
      obtain ⟨t1, g1⟩ := ints_get d h1
      obtain ⟨t2, g2⟩ := ints_get d' h2
      rw [g1, g2]
      exact ltAt_int
  have hh := tup_ltAt (A := A) (s := s) (hk _ _ b) (hk _ _ b') he1 (EqAt.int_int (i : Int) tok (j : Int) tok') hl1 (ltAt_int (a := (i : Int)) (b := (j : Int))) (by omega)
  have e : (if decide (idx[i] = idx[j]) = true then (if ((i : Int) == (j : Int)) = true then false else decide ((i : Int) < (j : Int))) else lexL idx[i] idx[j]) = pairLt idx i j := by
    unfold pairLt
    rw [gi, gj]
    by_cases h1 : idx[i] = idx[j]
    · simp only [h1, decide_true, if_true]
      by_cases h2 : i = j
      · simp [h2]
      · have h3 : ((i : Int) == (j : Int)) = false := by simp; omega
        have h4 : decide ((i : Int) < (j : Int)) = decide (i < j) := by simp
        rw [h3, if_neg h2, h4]; simp
    · simp [h1]
  rwa [e] at hh
theorem pairs_cmp {p : Program} {w : World} {hb : Heap} {refs : List Value} {idx : List (List Int)} (h : PairsIn hb refs idx) : CmpLt p w 20 hb (fun v => v ∈ refs) (fun u v => pairLt idx (refs.idxOf u) (refs.idxOf v)) := by
  rintro C st u v rfl rfl hR kp hu hv s o
  have q1 : refs[refs.idxOf u]? = some u := by
    have := List.idxOf_lt_length_of_mem hu
    rw [List.getElem?_eq_getElem this, List.getElem_idxOf this]
  have q2 : refs[refs.idxOf v]? = some v := by
    have := List.idxOf_lt_length_of_mem hv
    rw [List.getElem?_eq_getElem this, List.getElem_idxOf this]
  have l1 := List.idxOf_lt_length_of_mem hu
  have l2 := List.idxOf_lt_length_of_mem hv
  rw [h.1] at l1 l2
  exact pair_lt h (A := C.A) (s := s) (by have := hR.un; omega) (fun b x e => o.F.keep _ _ (kp.1 _ _ e)) l1 l2 q1 q2 C.p C.w _ _ ⟨st, o, rfl, rfl⟩
end
section
set_option maxRecDepth 100000
open PySem PySem.W PyProof.Rows PySem.Calls
section
variable {C : Cx} {st : St} {lv : Lv} {nw nw' : Nw} {k : Nat}
theorem Own.ofNew {nw : Nw} {s : Shared} {h' : Heap} {d : Addr} {ob : Obj} (o : Own C ⟨lv, nw⟩ s) (F : Fr C.hb C.env.locals h' (lvm lv)) (N : News C.hb C.env.locals h' ((d, ob) :: nw)) (hd : ∀ q ∈ nw, q.1 < d) (t : Nat) : Own C ⟨lv, (d, ob) :: nw⟩ { s with heap := h', toks := t } := by
  refine ⟨by rw [o.eq], F, N, ?_, o.ln⟩
  show (((d, ob) :: nw).map (·.1)).Nodup
  rw [List.map_cons, List.nodup_cons]
  refine ⟨fun hm => ?_, o.nd⟩
  obtain ⟨q, hq, e⟩ := List.mem_map.mp hm
  have := hd q hq
  rw [e] at this
  exact Nat.lt_irrefl _ this
theorem Ev_listCopy {l : Addr} {xs : List Value} {n : Nat} {Q : Value → St → Prop} (hl : At C ⟨lv, nw⟩ l (listO xs n)) (hz : xs.length ≤ sizeLine) (h : ∀ d c, Q (.ref d) ⟨lv, (d, listO xs c) :: nw⟩) : Ev C (call (.type "list") [.ref l]) ⟨lv, nw⟩ Q := fun s o => by
  refine list_copyK o.F o.N (o.list hl) (fun D c h' F' N' l1 => ⟨_, o.ofNew F' N' l1 s.toks, h D c⟩) (by simpa using hz)
end
def pop1 (lt : Value → Value → Bool) (zs : List Value) : Value × List Value := if zs.dropLast = [] then (zs.getLastD .none, []) else (zs.dropLast.getD 0 .none, suF lt (zs.dropLast.set 0 (zs.getLastD .none)) 0)
def popN (lt : Value → Value → Bool) : Nat → List Value → List Value
  | 0, _ => []
  | n + 1, zs => (pop1 lt zs).1 :: popN lt n (pop1 lt zs).2
def popS (lt : Value → Value → Bool) : Nat → List Value → List Value × List Value
  | 0, zs => ([], zs)
  | n + 1, zs => ((popS lt n zs).1 ++ [(pop1 lt (popS lt n zs).2).1], (pop1 lt (popS lt n zs).2).2)
theorem pop1_mem {lt : Value → Value → Bool} {zs : List Value} (hne : zs ≠ []) : (pop1 lt zs).1 ∈ zs ∧ (∀ v ∈ (pop1 lt zs).2, v ∈ zs) ∧ (pop1 lt zs).2.length + 1 = zs.length := by
  obtain ⟨xs, y, rfl⟩ : ∃ xs y, zs = xs ++ [y] := by
    rcases List.eq_nil_or_concat zs with h | ⟨a, b, h⟩
    · exact absurd h hne
    · exact ⟨a, b, by rw [h, List.concat_eq_append]⟩
  unfold pop1
  rw [List.dropLast_concat]
  have hl : (xs ++ [y]).getLastD .none = y := by simp
  rw [hl]
  by_cases hx : xs = []
  · subst hx; simp
  · rw [if_neg hx]
    have hpos : 0 < xs.length := List.length_pos_iff.mpr hx
    have hp := suF_perm (lt := lt) (xs := xs.set 0 y) (pos := 0) (by simpa using hpos)
    refine ⟨?_, ?_, ?_⟩
    · have e : xs.getD 0 .none = xs[0] := by simp [List.getD, hpos]
      rw [e]; exact List.mem_append_left _ (List.getElem_mem hpos)
    · intro v hv
      have := hp.mem_iff.mp hv
      rcases List.mem_or_eq_of_mem_set this with h | rfl
      · exact List.mem_append_left _ h
      · exact List.mem_append_right _ List.mem_cons_self
    · have := hp.length_eq
      simp at this ⊢; omega
theorem popS_mem {lt : Value → Value → Bool} {zs : List Value} : ∀ n, n ≤ zs.length → (∀ v ∈ (popS lt n zs).2, v ∈ zs) ∧ (popS lt n zs).2.length + n = zs.length ∧ (popS lt n zs).1.length = n
  | 0, _ => ⟨fun v h => h, rfl, rfl⟩
  | n + 1, h => by
    obtain ⟨h1, h2, h3⟩ := popS_mem (lt := lt) (zs := zs) n (by omega)
    have hne : (popS lt n zs).2 ≠ [] := by intro e; rw [e] at h2; simp at h2; omega
    obtain ⟨a, b, c⟩ := pop1_mem (lt := lt) hne
    refine ⟨fun v hv => h1 v (b v hv), ?_, ?_⟩
    · show (pop1 lt (popS lt n zs).2).2.length + (n + 1) = _; omega
    · show ((popS lt n zs).1 ++ [_]).length = _; simp [h3]
end
section
open PySem PySem.W PyProof.Rows PySem.Calls
local macro_rules | `(tactic| kpc_turns) => `(tactic| with_reducible refine Ev_cons ?_)
set_option maxRecDepth 100000
theorem popped_spec {p : Program} {w : World} {hb : Heap} (B : Bs w hb) {V : Value → Prop} {lt : Value → Value → Bool} (hc : CmpLt p w 20 hb V lt) {l : Addr} {refs : List Value} {m : Nat} (hl : hb.get? l = some (listO refs m)) (hV : ∀ v ∈ refs, V v) (hz : refs.length < 2 ^ 10) :
    Fn p w 30 hb (.ref 168) [.ref l] [] (fun v nw' => ∃ r n, v = .ref r ∧ nw' = [(r, listO (popS lt refs.length (hfGo lt (refs.length / 2) refs)).1 n)]) := by
  refine FnA.trim ?_
  refine Fn_def (["pairs"] : List Str) ["heap"] B rfl (by kernel_rfl) (fun s _ => BindsTo.of_eq (binds := [(Str.ofString "pairs", .ref l)]) rfl) (by kernel_rfl) (by decide +kernel) ?_
  rintro C ca hlen hC rfl rfl rfl hsc hcells _ _
  obtain ⟨ch, rfl⟩ : ∃ ch, ca = [ch] := List.length_eq_one_iff.mp hlen
  replace hcells : C.env.cells = [(Str.ofString "heap", ch)] := hcells
  refine ⟨_, _, .loc (kind_at hsc rfl) .head .nil, ?_⟩
  dsimp only [List.map, List.nil_append, List.cons_append, List.append]
  repeat kpc_turns
  refine Ev_listCopy (n := m) (At.base hl) (by rw [sizeLine_eq]; k_ne) fun h c => ?_
  repeat kpc_turns
  refine Ev_absQ fun Q_c hQ_c => ?_
  refine Ev_call (k := 29) [(h, listO refs c)] (by kas_types) hC.R fun hb' kp => ((heapify_spec (B.keeps kp) (hc.up kp) hV (by k_ne)).le (by decide)).mono ?_
  rintro _ _ ⟨rfl, rfl⟩
  refine hQ_c _ _ ?_
  dsimp only [List.cons_append, List.nil_append]
  refine ⟨rfl, ?_⟩
  repeat kpc_turns
  have hperm := hfGo_perm (lt := lt) (refs.length / 2) (xs := refs) (by k_ne)
  have hlen0 := hperm.length_eq
  have hV0 : ∀ v ∈ hfGo lt (refs.length / 2) refs, V v := fun v hv => hV v (hperm.mem_iff.mp hv)
  generalize hfGo lt (refs.length / 2) refs = H at hlen0 hV0 ⊢
  refine Ev_ListComp ["pair"] [("heap", ch)] ?_ (clos_of hcells (by kernel_rfl))
  dsimp only
  repeat kpc_turns
  refine Ev_iterL (n := m) (At.base hl) fun it o ho => ?_
  refine ⟨[(it, o), (h, listO H c)], _, Take.perm (by kas_types), fun C' acc X => ?_⟩
  have hC' := X.ok hC rfl
  have hsc' := X.sc' hsc
  have hcells' := X.cells
  have hx := X.cell (a := ch) (by repeat (first | with_reducible exact HasN.head | with_reducible apply HasN.tail))
  have hl' := X.hb.1 _ _ hl
  refine CompS.of rfl rfl (Ev_selfL (.tail .head) ho ⟨rfl, rfl⟩) ?_
  refine CompL.ind1o (fun n st => ∃ (j : Nat) (o : Obj) (a : Option Value) (c1 : Nat), st = ⟨[(Str.ofString "pair", a)], [(acc, listO (popS lt j H).1 j), (it, o), (h, listO (popS lt j H).2 c1)]⟩ ∧ ItL o l j ∧ n + j = refs.length) ?_ refs.length ⟨0, o, none, c, rfl, ho, rfl⟩
  clear ho
  rintro I_n hI_n Q_n hQ_n n st ⟨j, o, a, c1, hst, ho, hn⟩
  subst hst
  obtain ⟨q1, q2, q3⟩ := popS_mem (lt := lt) (zs := H) j (by k_ne)
  cases n with
  | zero =>
    obtain rfl : j = refs.length := by k_ne
    refine Ev_endL hC'.R ho (.tail .head) (.tail .head) (At.base hl') (by rw [List.getElem?_eq_none]; omega) ?_
    refine drawK_n ?_
    refine hQ_n _ ?_
    dsimp only [List.cons_append, List.nil_append]
    repeat kpc_turns
    exact ⟨[(acc, _)], _, by kas_types, acc, _, rfl, rfl⟩
  | succ g =>
    have hj : j < refs.length := by k_ne
    refine Ev_nextL (g := fun o => [(acc, listO (popS lt j H).1 j), (it, o), (h, listO (popS lt j H).2 c1)]) ho (fun _ => .tail .head) (At.base hl') (List.getElem?_eq_getElem hj) fun o' ho' => ?_
    repeat kpc_turns
    refine Ev_assignN ?_
    repeat kpc_turns
    have hS : popS lt (j + 1) H = ((popS lt j H).1 ++ [(pop1 lt (popS lt j H).2).1], (pop1 lt (popS lt j H).2).2) := rfl
    generalize popS lt j H = P at q1 q2 q3 hS ⊢
    obtain ⟨P1, P2⟩ := P
    dsimp only at q1 q2 q3 hS ⊢
    obtain ⟨xs, y, rfl⟩ : ∃ xs y, P2 = xs ++ [y] := by
      rcases List.eq_nil_or_concat P2 with h | ⟨a, b, h⟩
      · subst h; simp at q2; omega
      · exact ⟨a, b, by rw [h, List.concat_eq_append]⟩
    have hVx : ∀ v ∈ xs ++ [y], V v := fun v hv => hV0 v (q1 v hv)
    have hxl : xs.length < 2 ^ 19 := by rw [List.length_append] at q2; omega
    have kph := X.hb
    refine Ev_call (k := 29) [(h, listO (xs ++ [y]) c1)] (by kas_types) hC'.R fun hb' kp => ?_
    have hcc : CmpLt C'.p C'.w 20 hb' V lt := by rw [X.p, X.w]; exact hc.up (kph.trans kp)
    refine ((heappop_spec (hC'.B.keeps kp) hcc (fun v hv => hVx v (List.mem_append_left _ hv)) (hVx y (List.mem_append_right _ List.mem_cons_self)) hxl).le (by decide)).mono ?_
    intro v nw' hv
    have hpop : v = (pop1 lt (xs ++ [y])).1 ∧ nw' = [(h, listO (pop1 lt (xs ++ [y])).2 (c1 + 1))] := by
      unfold pop1
      rw [List.dropLast_concat]
      have hlst : (xs ++ [y]).getLastD .none = y := by simp
      rw [hlst]
      rcases hv with ⟨rfl, rfl, rfl⟩ | ⟨hne, rfl, rfl⟩
      · simp
      · rw [if_neg hne]; exact ⟨rfl, rfl⟩
    obtain ⟨rfl, rfl⟩ := hpop
    dsimp only [List.cons_append, List.nil_append]
    refine Ev_take (t := [(acc, listO P1 j), (it, o'), (h, listO (pop1 lt (xs ++ [y])).2 (c1 + 1))]) (by kas_types) ?_
    refine Ev_append .head (by rw [q3, sizeLine_eq]; k_ne) ?_
    exact ⟨g, Nat.lt_add_one _, hI_n _ _ ⟨j + 1, o', some refs[j], c1 + 1, by rw [hS], ho', by k_ne⟩⟩
end
section
set_option maxRecDepth 100000
open PySem PySem.W PyProof.Rows PySem.Calls
section
variable {C : Cx} {st : St} {lv : Lv} {nw nw' : Nw} {k : Nat}
def LsAt (C : Cx) (a : Addr) (xs : List Value) : Prop := C.hb.IsList a xs.toArray
theorem LsAt.is {a : Addr} {xs : List Value} (h : LsAt C a xs) {s : Shared} (o : Own C st s) : s.heap.IsList a xs.toArray := by
  obtain ⟨ob, h1, h2⟩ := h
  exact ⟨ob, o.F.keep _ _ h1, h2⟩
theorem Ev_SubscriptI {v i : Expr} {pos : Pos} {Q : Value → St → Prop}
    (h : Ev C (eval v C.env) st (fun o st1 => Ev C (eval i C.env) st1 (fun iv st2 => (∀ s, Own C st2 s → s.TypeIs o "list") ∧ Ev C (getItem o iv) st2 Q))) :
    Ev C (eval (.Subscript v i pos) C.env) st Q := by
  rw [arm_eval_Subscript]
  refine Ev_bindM h fun o s1 h1 => Ev_bindM (Ev_holding h1) fun iv s2 h2 => Ev_bind (Ev_standAt ?_)
  obtain ⟨hT, hq⟩ := h2
  have hg : Ev C (getitemInPython o) s2 (fun b s3 => b = false ∧ s3 = s2) := fun s ow => by
    rw [getitemInPython_of_ne (hT s ow).not_modules]
    refine wpAny_bind (wpAny_specialOf (hT s ow) slot_list_getitem.lookup ?_)
    exact wpAny_pure ⟨s2, ow, rfl, rfl⟩
  refine Ev_bindM hg fun b s3 hb => ?_
  obtain ⟨rfl, rfl⟩ := hb
  have fin : ∀ {ops : List Value}, Ev C (operate ops (getItem o iv)) s3 (fun r s4 => Ev C (letTemporaryGo v o r >>= fun _ => pure r) s4 Q) := fun {ops} =>
    Ev_operate (Ev_mono hq fun r s4 h4 => Ev_bind fun s ow => wpAny_letTemporaryGo ⟨s4, ow, Ev_pure h4⟩)
  unfold subscripted
  split
  · exact Ev_bind fin
  · contradiction
  · exact Ev_bind fin
theorem Ev_sliceI {a l : Addr} {xs : List Value} {vl vu vs : Value} {lo hi st : Option Int} {Q : Value → St → Prop} (hl : LsAt C l xs) (ha : At C ⟨lv, nw⟩ a (sliceO vl vu vs)) (pl : IsPart vl lo) (pu : IsPart vu hi) (ps : IsPart vs st) (h0 : st ≠ some 0) (hz : xs.length ≤ sizeLine)
    (h : ∀ d, Q (.ref d) ⟨lv, (d, listO (slicePick xs.toArray lo hi st).toList 0) :: nw⟩) : (∀ s, Own C ⟨lv, nw⟩ s → s.TypeIs (.ref l) "list") ∧ Ev C (getItem (.ref l) (.ref a)) ⟨lv, nw⟩ Q := by
  refine ⟨fun s o => (hl.is o).typeIs, ?_⟩
  intro s o
  refine wpAny_getItem_list_slice (hl.is o) ⟨_, o.at ha, rfl, rfl⟩ pl pu ps h0 ⟨_, o.alloc _ rfl, ?_⟩ (by simpa using hz)
  have := h s.heap.objs.size
  rw [listO, Array.toArray_toList] at this
  exact this
theorem Ev_addList {a b : Addr} {xs ys : List Value} {n m : Nat} {Q : Value → St → Prop} (ha : At C ⟨lv, nw⟩ a (listO xs n)) (hb : At C ⟨lv, nw⟩ b (listO ys m)) (hz : xs.length + ys.length ≤ sizeLine) (h : ∀ d, Q (.ref d) ⟨lv, (d, listO (xs ++ ys) 0) :: nw⟩) :
    Ev C (binaryOp .Add (.ref a) (.ref b)) ⟨lv, nw⟩ Q := by
  intro s o
  exact add_lists o.F o.N (o.list ha) (o.list hb) (fun h' F' N' => ⟨_, o.ofNew F' N' (fun q hq => Heap.lt_size (o.N q hq).1) s.toks, h _⟩) hz
theorem Ev_chr {i : Nat} {t : Tok} {Q : Value → St → Prop} (hi : i < 256) (h : ∀ t, Q (.str (S [i]) t) st) : Ev C (call (.builtin "chr") [.int (i : Int) t]) st Q := by
  intro s o
  refine PySem.P.chr_of_int (by simp; omega) ⟨st, o.tok _, ?_⟩
  rw [Int.toNat_natCast]; exact h _
theorem Ev_mulStr {c n : Nat} {t u : Tok} {Q : Value → St → Prop} (hn : n ≤ 2) (h : ∀ t, Q (.str (S (List.replicate n c)) t) st) : Ev C (binaryOp .Mult (.str (S [c]) t) (.int (n : Int) u)) st Q := by
  intro s o
  have hlen : (S [c]).length = 1 := rfl
  have hc : n = 0 ∨ n = 1 ∨ n = 2 := by omega
  rcases hc with rfl | rfl | rfl
  · exact PySem.P.mul_str_none (by decide) (by decide) ⟨st, o.tok _, h _⟩
  · refine PySem.P.mul_str (by decide) (fun _ h => absurd h (by simp)) (fun _ h => absurd h (by simp)) ?_
    exact ⟨st, o, h t⟩
  · refine PySem.P.mul_str (by decide) (fun _ _ => by rw [hlen]; decide) (fun _ _ => by rw [hlen]; decide) ?_
    exact ⟨by show (2 : Nat) ≤ _; rw [sizeLine_eq]; omega, st, o.tok _, h _⟩
theorem Ev_lstrip {x y : List Nat} {t u : Tok} {Q : Value → St → Prop} (hz : x.length ≤ sizeLine) (h : ∀ t, Q (.str (S (x.drop (x.takeWhile (fun c => y.contains c)).length)) t) st) : Ev C (call (.builtin "str.lstrip") [.str (S x) t, .str (S y) u]) st Q := by
  intro s o
  refine PySem.SC.lstripChars (fun t' k => ?_) (by simpa [Str.length] using hz)
  have e : Txt.lstripChars (S x) (S y) = S (x.drop (x.takeWhile (fun c => y.contains c)).length) := by
    have hlo : PySem.stripLo (S y).cps.contains true (S x) = (x.takeWhile (fun c => y.contains c)).length := by
      unfold PySem.stripLo
      rw [if_pos rfl]
      have : (S y).cps.contains = fun c => y.contains c := by funext c; simp
      rw [this]
    have hhi : ∀ lo, PySem.stripHi (S y).cps.contains false (S x) lo = x.length := fun lo => rfl
    unfold Txt.lstripChars Txt.stripBy
    split
    · rename_i hs
      unfold PySem.stripSame at hs
      rw [hlo] at hs
      simp only [Bool.and_eq_true, beq_iff_eq] at hs
      rw [hs.1, List.drop_zero]
    · unfold PySem.stripped
      rw [hlo, hhi]
      rw [S_eq (Builtin.Str.strSub _ _ _), StrLaws.strSub_toList]
      congr 1
      show List.take _ (List.drop _ x) = _
      rw [List.take_of_length_le (by simp)]
  rw [e]; exact ⟨st, o.tok _, h _⟩
end
end
section
open PySem PySem.W PyProof.Rows
def KOk {α : Type} (n : Nat) (c : Nat → Nat → Bool) : KasT α → (α → Prop) → Prop
  | .ret a, P => P a
  | .ask i j k, P => i < n ∧ j < n ∧ KOk n c (k (c i j)) P
theorem KOk.bind {α β : Type} {n : Nat} {c : Nat → Nat → Bool} {f : α → KasT β} {P : β → Prop} : ∀ {t : KasT α}, KOk n c t (fun a => KOk n c (f a) P) → KOk n c (t.bind f) P
  | .ret _, h => h
  | .ask _ _ _, h => ⟨h.1, h.2.1, KOk.bind h.2.2⟩
theorem KOk.mono {α : Type} {n : Nat} {c : Nat → Nat → Bool} {P P' : α → Prop} (hp : ∀ a, P a → P' a) : ∀ {t : KasT α}, KOk n c t P → KOk n c t P'
  | .ret a, h => hp a h
  | .ask _ _ _, h => ⟨h.1, h.2.1, KOk.mono hp h.2.2⟩
theorem KOk.run {α : Type} {n : Nat} {c : Nat → Nat → Bool} {cmp : Nat → Nat → (Bool → Shared → Prop) → Shared → Prop} {I : Shared → Prop} (hc : ∀ i j, i < n → j < n → ∀ (K : Bool → Shared → Prop) s, I s → (∀ s', I s' → K (c i j) s') → cmp i j K s)
    {P : α → Prop} {Q : α → Shared → Prop} (hq : ∀ a s, P a → I s → Q a s) : ∀ {t : KasT α} {s : Shared}, KOk n c t P → I s → t.kasWp cmp Q s
  | .ret a, s, h, hi => hq a s h hi
  | .ask i j k, s, h, hi => hc i j h.1 h.2.1 _ s hi fun s' hi' => KOk.run hc hq h.2.2 hi'
structure Strict (n : Nat) (c : Nat → Nat → Bool) : Prop where
  irr : ∀ i, i < n → c i i = false
  trans : ∀ i j k, i < n → j < n → k < n → c i j = true → c j k = true → c i k = true
  tot : ∀ i j, i < n → j < n → i ≠ j → c i j = true ∨ c j i = true
theorem Strict.asym {n : Nat} {c : Nat → Nat → Bool} (h : Strict n c) {i j : Nat} (hi : i < n) (hj : j < n) (e : c i j = true) : c j i = false := by
  cases q : c j i with
  | false => rfl
  | true => have := h.trans i j i hi hj hi e q; rw [h.irr i hi] at this; cases this
def PmA (n : Nat) (p : Array Nat) : Prop := p.toList.Perm (List.range n)
theorem PmA.size {n : Nat} {p : Array Nat} (h : PmA n p) : p.size = n := by have := h.length_eq; simpa using this
theorem PmA.lt {n : Nat} {p : Array Nat} (h : PmA n p) {i : Nat} (hi : i < n) : p.getD i 0 < n := by
  have hs := h.size
  have hi' : i < p.size := by omega
  have e : p.getD i 0 = p[i] := by simp [Array.getD, hi']
  rw [e]
  have := h.mem_iff.mp (show p[i] ∈ p.toList by simp)
  exact List.mem_range.mp this
theorem PmA.ne {n : Nat} {p : Array Nat} (h : PmA n p) {i j : Nat} (hi : i < n) (hj : j < n) (hij : i ≠ j) : p.getD i 0 ≠ p.getD j 0 := by
  have hs := h.size
  have hi' : i < p.size := by omega
  have hj' : j < p.size := by omega
  have e : p.getD i 0 = p[i] := by simp [Array.getD, hi']
  have e2 : p.getD j 0 = p[j] := by simp [Array.getD, hj']
  have nd : p.toList.Nodup := h.nodup_iff.mpr List.nodup_range
  rw [e, e2]
  intro q
  have := (List.getElem_inj (xs := p.toList) (h₀ := by simpa using hi') (h₁ := by simpa using hj') nd).mp (by simpa using q)
  exact hij this
theorem PmA.rev {n : Nat} {p : Array Nat} (h : PmA n p) (i j : Nat) : PmA n (kas_rev p i j) := by
  have := mirror_perm p i j ((j - i) / 2)
  rw [Array.perm_iff_toList_perm] at this
  exact this.trans h
theorem PmA.bub {n : Nat} {p : Array Nat} (h : PmA n p) (i j : Nat) : PmA n (bubble p i j) := by
  have := bubble_perm p i j
  rw [Array.perm_iff_toList_perm] at this
  exact this.trans h
theorem rev_get {p : Array Nat} {i j k : Nat} (hj : j ≤ p.size) : (kas_rev p i j).getD k 0 = if i ≤ k ∧ k < j then p.getD (i + j - 1 - k) 0 else p.getD k 0 := by
  rw [Array.getD_eq_getD_getElem?, Array.getD_eq_getD_getElem?, Array.getD_eq_getD_getElem?]
  unfold kas_rev
  rw [getElem?_mirror_all hj k]
  split <;> rfl
theorem bub_get {p : Array Nat} {s d k : Nat} (hs : s < p.size) (hd : d ≤ s) : (bubble p s d).getD k 0 = if k = s - d then p.getD s 0 else if s - d < k ∧ k ≤ s then p.getD (k - 1) 0 else p.getD k 0 := by
  rw [Array.getD_eq_getD_getElem?, Array.getD_eq_getD_getElem?, Array.getD_eq_getD_getElem?, Array.getD_eq_getD_getElem?]
  rw [getElem?_bubble hs d hd k]
  split
  · rfl
  · split <;> rfl
def AscP (c : Nat → Nat → Bool) (p : Array Nat) (m : Nat) : Prop := ∀ i j, i < j → j < m → c (p.getD i 0) (p.getD j 0) = true
def DescP (c : Nat → Nat → Bool) (p : Array Nat) (m : Nat) : Prop := ∀ i j, i < j → j < m → c (p.getD j 0) (p.getD i 0) = true
theorem bub_asc {R : Nat → Nat → Prop} {f : Nat → Nat} {k l : Nat} (ha : ∀ i j, i < j → j < k → R (f i) (f j)) (b : ∀ i, i < l → R (f i) (f k)) (d : ∀ i, l ≤ i → i < k → R (f k) (f i)) (hl : l ≤ k) {i j : Nat} (hij : i < j) (hj : j < k + 1) :
    R (if i = l then f k else if l < i ∧ i ≤ k then f (i - 1) else f i) (if j = l then f k else if l < j ∧ j ≤ k then f (j - 1) else f j) := by
  have hj' := Nat.le_of_lt_succ hj
  clear hj
  by_cases h1 : j = l
  · subst h1
    rw [if_neg (Nat.ne_of_lt hij), if_neg (fun h => Nat.lt_asymm h.1 hij), if_pos rfl]
    exact b i hij
  · by_cases h2 : i = l
    · subst h2
      rw [if_pos rfl, if_neg h1, if_pos ⟨hij, hj'⟩]
      exact d _ (Nat.le_sub_one_of_lt hij) (Nat.lt_of_lt_of_le (Nat.sub_lt (Nat.lt_of_le_of_lt (Nat.zero_le _) hij) Nat.one_pos) hj')
    · rw [if_neg h2, if_neg h1]
      have hjk : j - 1 < k := Nat.lt_of_lt_of_le (Nat.sub_lt (Nat.lt_of_le_of_lt (Nat.zero_le _) hij) Nat.one_pos) hj'
      by_cases hi : l < i
      · have hlj := Nat.lt_trans hi hij
        rw [if_pos ⟨hi, Nat.le_trans (Nat.le_of_lt hij) hj'⟩, if_pos ⟨hlj, hj'⟩]
        exact ha _ _ (Nat.sub_lt_sub_right (Nat.lt_of_le_of_lt (Nat.zero_le _) hi) hij) hjk
      · have hil : i < l := Nat.lt_of_le_of_ne (Nat.le_of_not_lt hi) h2
        rw [if_neg (fun h => hi h.1)]
        by_cases hlj : l < j
        · rw [if_pos ⟨hlj, hj'⟩]
          exact ha _ _ (Nat.lt_of_lt_of_le hil (Nat.le_sub_one_of_lt hlj)) hjk
        · rw [if_neg (fun h => hlj h.1)]
          exact ha _ _ hij (Nat.lt_of_lt_of_le (Nat.lt_of_le_of_ne (Nat.le_of_not_lt hlj) h1) hl)
section
variable {N : Nat} {c : Nat → Nat → Bool} (S : Strict N c) {p : Array Nat}
include S
theorem AscP.step {m : Nat} (hp : PmA N p) (h1 : 1 ≤ m) (hm : m < N) (h : AscP c p m) (e : c (p.getD (m - 1) 0) (p.getD m 0) = true) : AscP c p (m + 1) := by
  intro i j hij hj
  by_cases hjm : j < m
  · exact h i j hij hjm
  · obtain rfl : j = m := by omega
    by_cases hi : i = j - 1
    · subst hi; exact e
    · exact S.trans _ _ _ (hp.lt (by omega)) (hp.lt (by omega)) (hp.lt hm) (h i (j - 1) (by omega) (by omega)) e
theorem DescP.step {m : Nat} (hp : PmA N p) (h1 : 1 ≤ m) (hm : m < N) (h : DescP c p m) (e : c (p.getD m 0) (p.getD (m - 1) 0) = true) : DescP c p (m + 1) := by
  intro i j hij hj
  by_cases hjm : j < m
  · exact h i j hij hjm
  · obtain rfl : j = m := by omega
    by_cases hi : i = j - 1
    · subst hi; exact e
    · exact S.trans _ _ _ (hp.lt hm) (hp.lt (by omega)) (hp.lt (by omega)) e (h i (j - 1) (by omega) (by omega))
theorem asc_ok (hp : PmA N p) : ∀ (f n : Nat), 1 ≤ n → n + f ≤ N → AscP c p n → KOk N c (kas_asc p f n) (fun m => n ≤ m ∧ m ≤ n + f ∧ AscP c p m ∧ (m < n + f → c (p.getD m 0) (p.getD (m - 1) 0) = true))
  | 0, n, h1, hn, ha => ⟨Nat.le_refl _, Nat.le_refl _, ha, fun h => absurd h (by omega)⟩
  | f + 1, n, h1, hn, ha => by
    refine ⟨hp.lt (by omega), hp.lt (by omega), ?_⟩
    cases e : c (p.getD n 0) (p.getD (n - 1) 0) with
    | true => exact ⟨Nat.le_refl _, by omega, ha, fun _ => e⟩
    | false =>
      have hd : c (p.getD (n - 1) 0) (p.getD n 0) = true := by
        rcases S.tot _ _ (hp.lt (i := n) (by omega)) (hp.lt (i := n - 1) (by omega)) (hp.ne (by omega) (by omega) (by omega)) with h | h
        · rw [e] at h; cases h
        · exact h
      show KOk N c (kas_asc p f (n + 1)) _
      refine KOk.mono (fun m hm => ?_) (asc_ok hp f (n + 1) (by omega) (by omega) (ha.step S hp h1 (by omega) hd))
      exact ⟨by omega, by omega, hm.2.2.1, fun h => hm.2.2.2 (by omega)⟩
theorem desc_ok (hp : PmA N p) : ∀ (f n : Nat), 1 ≤ n → n + f ≤ N → DescP c p n → KOk N c (kas_desc f p n 0) (fun r => r.1 = p ∧ r.2.2 = 0 ∧ n ≤ r.2.1 ∧ r.2.1 ≤ n + f ∧ DescP c p r.2.1)
  | 0, n, h1, hn, ha => ⟨rfl, rfl, Nat.le_refl _, Nat.le_refl _, ha⟩
  | f + 1, n, h1, hn, ha => by
    refine ⟨hp.lt (by omega), hp.lt (by omega), ?_⟩
    cases e : c (p.getD n 0) (p.getD (n - 1) 0) with
    | true =>
      show KOk N c (kas_desc f p (n + 1) 0) _
      refine KOk.mono (fun m hm => ?_) (desc_ok hp f (n + 1) (by omega) (by omega) (ha.step S hp h1 (by omega) e))
      exact ⟨hm.1, hm.2.1, by omega, by omega, hm.2.2.2.2⟩
    | false =>
      have hd : c (p.getD (n - 1) 0) (p.getD n 0) = true := by
        rcases S.tot _ _ (hp.lt (i := n) (by omega)) (hp.lt (i := n - 1) (by omega)) (hp.ne (by omega) (by omega) (by omega)) with h | h
        · rw [e] at h; cases h
        · exact h
      refine ⟨hp.lt (by omega), hp.lt (by omega), ?_⟩
      rw [hd]
      exact ⟨rfl, rfl, Nat.le_refl _, (show n ≤ n + (f + 1) by omega), ha⟩
theorem tail3_ok (hp : PmA N p) {n : Nat} (h1 : 1 ≤ n) (hn : n ≤ N) (h : DescP c p n) : KOk N c (kas_tail3 n N p) (fun r => 1 ≤ r.1 ∧ r.1 ≤ N ∧ PmA N r.2 ∧ AscP c r.2 r.1) := by
  unfold kas_tail3
  refine KOk.bind ?_
  refine KOk.mono (fun m hm => ?_) (asc_ok S (hp.rev 0 n) (N - n) n h1 (by omega) ?_)
  · exact ⟨by omega, by omega, hp.rev _ _, hm.2.2.1⟩
  · intro i j hij hj
    have hs := hp.size
    rw [rev_get (by omega), rev_get (by omega), if_pos ⟨by omega, by omega⟩, if_pos ⟨by omega, by omega⟩]
    exact h _ _ (by omega) (by omega)
theorem descPart_ok (hp : PmA N p) {n : Nat} (h1 : 1 ≤ n) (hn : n + 1 ≤ N) (h : DescP c p (n + 1)) : KOk N c (kas_descPart n N p) (fun r => 1 ≤ r.1 ∧ r.1 ≤ N ∧ PmA N r.2 ∧ AscP c r.2 r.1) := by
  unfold kas_descPart
  refine KOk.bind ?_
  refine KOk.mono (fun r hr => ?_) (desc_ok S hp (N - (n + 1)) (n + 1) (by omega) (by omega) h)
  obtain ⟨r1, r2, r3⟩ := r
  obtain ⟨a, b, d, e, f⟩ := hr
  dsimp only at a b d e f ⊢
  subst a b
  rw [if_neg (by omega)]
  exact tail3_ok S hp (by omega) (by omega) f
theorem count_ok (hp : PmA N p) (h1 : 1 ≤ N) : KOk N c (kas_count N p) (fun r => 1 ≤ r.1 ∧ r.1 ≤ N ∧ PmA N r.2 ∧ AscP c r.2 r.1) := by
  unfold kas_count
  refine KOk.bind ?_
  refine KOk.mono (fun n hn => ?_) (asc_ok S hp (N - 1) 1 (Nat.le_refl _) (by omega) (fun i j a b => absurd b (by omega)))
  obtain ⟨a, b, d, e⟩ := hn
  split
  · exact ⟨by omega, by omega, hp, d⟩
  · rename_i hne
    have hne' : n ≠ N := by simpa using hne
    split
    · rename_i hn1
      have hc : c (p.getD 0 0) (p.getD (n - 1) 0) = true := d 0 (n - 1) (by omega) (by omega)
      refine ⟨hp.lt (by omega), hp.lt (by omega), ?_⟩
      rw [hc]
      exact ⟨by omega, by omega, hp, d⟩
    · obtain rfl : n = 1 := by omega
      have e' := e (by omega)
      refine descPart_ok S hp (Nat.le_refl _) (by omega) fun i j hij hj => ?_
      obtain rfl : i = 0 := by omega
      obtain rfl : j = 1 := by omega
      exact e'
theorem place_ok (hp : PmA N p) {k : Nat} (hk : k < N) : ∀ (f l r : Nat), r - l ≤ f → l ≤ r → r ≤ k → (∀ i, i < l → c (p.getD i 0) (p.getD k 0) = true) → (∀ i, r ≤ i → i < k → c (p.getD k 0) (p.getD i 0) = true) → AscP c p k →
    KOk N c (kas_place p k f l r) (fun l => l ≤ k ∧ (∀ i, i < l → c (p.getD i 0) (p.getD k 0) = true) ∧ ∀ i, l ≤ i → i < k → c (p.getD k 0) (p.getD i 0) = true)
  | 0, l, r, hf, hlr, hr, h1, h2, ha => by
    obtain rfl : l = r := by omega
    exact ⟨hr, h1, h2⟩
  | f + 1, l, r, hf, hlr, hr, h1, h2, ha => by
    unfold kas_place
    split
    · obtain rfl : l = r := by omega
      exact ⟨hr, h1, h2⟩
    · rename_i hlt
      have hlt := Nat.lt_of_not_le hlt
      have hm1 : l ≤ (l + r) / 2 := by omega
      have hm2 : (l + r) / 2 < r := by omega
      generalize (l + r) / 2 = m at hm1 hm2 ⊢
      have hmk := Nat.lt_of_lt_of_le hm2 hr
      have hmN := Nat.lt_trans hmk hk
      refine ⟨hp.lt hk, hp.lt hmN, ?_⟩
      cases e : c (p.getD k 0) (p.getD m 0) with
      | true =>
        show KOk N c (kas_place p k f l m) _
        refine place_ok hp hk f _ _ (Nat.le_of_lt_succ (Nat.lt_of_lt_of_le (Nat.sub_lt_sub_right hm1 hm2) hf)) hm1 (Nat.le_of_lt hmk) h1 (fun i hi hik => ?_) ha
        by_cases hq : i = m
        · subst hq; exact e
        · exact S.trans _ _ _ (hp.lt hk) (hp.lt hmN) (hp.lt (Nat.lt_trans hik hk)) e (ha _ _ (Nat.lt_of_le_of_ne hi (Ne.symm hq)) hik)
      | false =>
        show KOk N c (kas_place p k f (m + 1) r) _
        have hd : c (p.getD m 0) (p.getD k 0) = true := by
          rcases S.tot _ _ (hp.lt hk) (hp.lt hmN) (hp.ne hk hmN (Nat.ne_of_gt hmk)) with h | h
          · rw [e] at h; cases h
          · exact h
        refine place_ok hp hk f _ _ (by clear h1 h2 ha; omega) hm2 hr (fun i hi => ?_) h2 ha
        by_cases hq : i = m
        · subst hq; exact hd
        · have him := Nat.lt_of_le_of_ne (Nat.le_of_lt_succ hi) hq
          exact S.trans _ _ _ (hp.lt (Nat.lt_trans him hmN)) (hp.lt hmN) (hp.lt hk) (ha _ _ him hmk) hd
theorem bin_ok : ∀ (f : Nat) (p : Array Nat) (k : Nat), PmA N p → k + f = N → AscP c p k → KOk N c (kas_bin f p k) (fun r => PmA N r ∧ AscP c r N)
  | 0, p, k, hp, hk, ha => by
    obtain rfl : k = N := by omega
    exact ⟨hp, ha⟩
  | f + 1, p, k, hp, hk, ha => by
    unfold kas_bin
    refine KOk.bind ?_
    refine KOk.mono (fun l hl => ?_) (place_ok S hp (show k < N by omega) k 0 k (by omega) (by omega) (Nat.le_refl _) (fun i hi => absurd hi (by omega)) (fun i a b => absurd b (by omega)) ha)
    obtain ⟨a, b, d⟩ := hl
    refine bin_ok f _ (k + 1) (hp.bub _ _) (by rw [← hk, Nat.add_assoc, Nat.add_comm 1 f]) fun i j hij hj => ?_
    have hks : k < p.size := by rw [hp.size, ← hk]; exact Nat.lt_add_of_pos_right (Nat.succ_pos f)
    have hkl : k - l ≤ k := Nat.sub_le _ _
    rw [bub_get hks hkl, bub_get hks hkl, Nat.sub_sub_self a]
    exact bub_asc (R := fun x y => c x y = true) (f := fun i => p.getD i 0) ha b d a hij hj
theorem sort_ok (h1 : 1 ≤ N) : KOk N c (kas_sort N) (fun r => PmA N r ∧ AscP c r N) := by
  unfold kas_sort
  refine KOk.bind ?_
  refine KOk.mono (fun r hr => ?_) (count_ok S (p := List.toArray (List.range N)) (by unfold PmA; exact List.Perm.refl _) h1)
  obtain ⟨a, b, d, e⟩ := hr
  split
  · rw [Nat.max_eq_left a]
    exact bin_ok S _ _ _ d (by omega) e
  · obtain he : r.1 = N := by omega
    rw [he] at e
    exact ⟨d, e⟩
end
end
section
open PySem PySem.W PyProof.Rows PySem.Calls
set_option maxRecDepth 100000
def encB (r : List UInt8) : List UInt8 := (byteA (enc r)).toList
def txt (r : List UInt8) : List Nat := (encB r).map UInt8.toNat
theorem flat_one (l : List UInt8) : (l.map fun c => [c.toNat]).flatten = l.map UInt8.toNat := by
  induction l with
  | nil => rfl
  | cons a r ih => rw [List.map_cons, List.flatten_cons, List.map_cons, ih]; rfl
def sx6 : List UInt8 → List Nat
  | [a] => [a.toNat / 4, a.toNat % 4 * 16]
  | [a, b] => [a.toNat / 4, a.toNat % 4 * 16 + b.toNat / 16, b.toNat % 16 * 4]
  | [a, b, c] => [a.toNat / 4, a.toNat % 4 * 16 + b.toNat / 16, b.toNat % 16 * 4 + c.toNat / 64, c.toNat % 64]
  | [a, b, c, d] => [a.toNat / 4, a.toNat % 4 * 16 + b.toNat / 16, b.toNat % 16 * 4 + c.toNat / 64, c.toNat % 64, d.toNat / 4, d.toNat % 4 * 16]
  | _ => []
def padN (r : List UInt8) : Nat := (3 - r.length % 3) % 3
theorem len_cases {r : List UInt8} (h1 : 1 ≤ r.length) (h4 : r.length ≤ 4) : (∃ a, r = [a]) ∨ (∃ a b, r = [a, b]) ∨ (∃ a b c, r = [a, b, c]) ∨ ∃ a b c d, r = [a, b, c, d] := by
  match r, h1, h4 with
  | [a], _, _ => exact .inl ⟨a, rfl⟩
  | [a, b], _, _ => exact .inr (.inl ⟨a, b, rfl⟩)
  | [a, b, c], _, _ => exact .inr (.inr (.inl ⟨a, b, c, rfl⟩))
  | [a, b, c, d], _, _ => exact .inr (.inr (.inr ⟨a, b, c, d, rfl⟩))
theorem B64_alp (i : Nat) : B64 i = alp i := by
  unfold B64 alp alphaL
  simp only [List.getD_eq_getElem?_getD, List.getElem?_map]
  cases b64L[i]? <;> rfl
theorem u8b (a : UInt8) : a.toNat < 256 := a.toNat_lt
theorem n1 {a : Nat} (h : a < 256) : (0 * 2 ^ 8 + a) % 2 ^ 16 = a := by rw [Nat.zero_mul, Nat.zero_add]; exact Nat.mod_eq_of_lt (Nat.lt_trans h (by decide))
theorem n2 {a b : Nat} (h : a < 256) (hb : b < 256) : (a * 2 ^ 8 + b) % 2 ^ 16 = a * 256 + b := by omega
theorem n3 {a b c : Nat} (hb : b < 256) (hc : c < 256) : ((a * 256 + b) * 2 ^ 8 + c) % 2 ^ 16 = b * 256 + c := by omega
theorem sh {M c m : Nat} (hc : c < 256) : (M * 256 + c) / (256 * m) = M / m := by
  rw [← Nat.div_div_eq_div_mul, Nat.add_comm, Nat.add_mul_div_right _ _ (by decide), Nat.div_eq_of_lt hc, Nat.zero_add]
theorem q1 {a : Nat} (h : a < 256) : a / 4 < 64 := Nat.div_lt_of_lt_mul h
theorem d1 {a : Nat} (h : a < 256) : a / 2 ^ 2 % 2 ^ 6 = a / 4 := Nat.mod_eq_of_lt (q1 h)
theorem d2 {a b : Nat} (hb : b < 256) : (a * 256 + b) / 2 ^ 4 % 2 ^ 6 = a % 4 * 16 + b / 16 := by omega
theorem d3 {b c : Nat} (hc : c < 256) : (b * 256 + c) / 2 ^ 6 % 2 ^ 6 = b % 16 * 4 + c / 64 := by omega
theorem l64 (b c : Nat) : (b * 256 + c) % 64 = c % 64 := by
  rw [show b * 256 = b * 4 * 64 from (Nat.mul_assoc b 4 64).symm, Nat.add_comm, Nat.add_mul_mod_self_right]
theorem d4 (b c : Nat) : (b * 256 + c) / 2 ^ 0 % 2 ^ 6 = c % 64 := by
  rw [Nat.pow_zero, Nat.div_one]; exact l64 b c
theorem d5 {c d : Nat} (hd : d < 256) : (c * 256 + d) / 2 ^ 2 % 2 ^ 6 = d / 4 := by
  rw [show c * 256 = c * 64 * 2 ^ 2 from (Nat.mul_assoc c 64 4).symm, Nat.add_comm, Nat.add_mul_div_right _ _ (by decide), show (2 : Nat) ^ 6 = 64 from rfl, Nat.add_mul_mod_self_right]
  exact Nat.mod_eq_of_lt (q1 hd)
theorem m1 (a : Nat) : a % 2 ^ 2 * 2 ^ 4 = a % 4 * 16 := rfl
theorem m2 (a b : Nat) : (a * 256 + b) % 2 ^ 4 * 2 ^ 2 = b % 16 * 4 := by
  rw [show a * 256 = a * 16 * 2 ^ 4 from (Nat.mul_assoc a 16 16).symm, Nat.add_comm, Nat.add_mul_mod_self_right]
theorem m4 (a b : Nat) : (a * 256 + b) % 2 ^ 2 * 2 ^ 4 = b % 4 * 16 := by
  rw [show a * 256 = a * 64 * 2 ^ 2 from (Nat.mul_assoc a 64 4).symm, Nat.add_comm, Nat.add_mul_mod_self_right]
theorem enc_eq {r : List UInt8} (h1 : 1 ≤ r.length) (h4 : r.length ≤ 4) : enc r = (sx6 r).map alp ++ List.replicate (padN r) 61 := by
  rcases len_cases h1 h4 with ⟨a, rfl⟩ | ⟨a, b, rfl⟩ | ⟨a, b, c, rfl⟩ | ⟨a, b, c, d, rfl⟩
  · show [B64 ((0 * 2 ^ 8 + a.toNat) % 2 ^ 16 / 2 ^ 2 % 2 ^ 6), B64 ((0 * 2 ^ 8 + a.toNat) % 2 ^ 16 % 2 ^ 2 * 2 ^ 4), 61, 61] = [alp _, alp _, 61, 61]
    rw [n1 (u8b a), d1 (u8b a), m1, B64_alp, B64_alp]
  · show [B64 ((0 * 2 ^ 8 + a.toNat) % 2 ^ 16 / 2 ^ 2 % 2 ^ 6), B64 (((0 * 2 ^ 8 + a.toNat) % 2 ^ 16 * 2 ^ 8 + b.toNat) % 2 ^ 16 / 2 ^ 4 % 2 ^ 6), B64 (((0 * 2 ^ 8 + a.toNat) % 2 ^ 16 * 2 ^ 8 + b.toNat) % 2 ^ 16 % 2 ^ 4 * 2 ^ 2), 61] = [alp _, alp _, alp _, 61]
    rw [n1 (u8b a), n2 (u8b a) (u8b b), d1 (u8b a), d2 (u8b b), m2, B64_alp, B64_alp, B64_alp]
  · have e : enc [a, b, c] = [B64 ((0 * 2 ^ 8 + a.toNat) % 2 ^ 16 / 2 ^ 2 % 2 ^ 6), B64 (((0 * 2 ^ 8 + a.toNat) % 2 ^ 16 * 2 ^ 8 + b.toNat) % 2 ^ 16 / 2 ^ 4 % 2 ^ 6), B64 ((((0 * 2 ^ 8 + a.toNat) % 2 ^ 16 * 2 ^ 8 + b.toNat) % 2 ^ 16 * 2 ^ 8 + c.toNat) % 2 ^ 16 / 2 ^ 6 % 2 ^ 6), B64 ((((0 * 2 ^ 8 + a.toNat) % 2 ^ 16 * 2 ^ 8 + b.toNat) % 2 ^ 16 * 2 ^ 8 + c.toNat) % 2 ^ 16 / 2 ^ 0 % 2 ^ 6)] := by kernel_rfl
    rw [e]
    refine Eq.trans (b := [alp (a.toNat / 4), alp (a.toNat % 4 * 16 + b.toNat / 16), alp (b.toNat % 16 * 4 + c.toNat / 64), alp (c.toNat % 64)]) ?_ (by kernel_rfl)
    rw [n1 (u8b a), n2 (u8b a) (u8b b), n3 (u8b b) (u8b c), d1 (u8b a), d2 (u8b b), d3 (u8b c), d4, B64_alp, B64_alp, B64_alp, B64_alp]
  · have e : enc [a, b, c, d] = [B64 ((0 * 2 ^ 8 + a.toNat) % 2 ^ 16 / 2 ^ 2 % 2 ^ 6), B64 (((0 * 2 ^ 8 + a.toNat) % 2 ^ 16 * 2 ^ 8 + b.toNat) % 2 ^ 16 / 2 ^ 4 % 2 ^ 6), B64 ((((0 * 2 ^ 8 + a.toNat) % 2 ^ 16 * 2 ^ 8 + b.toNat) % 2 ^ 16 * 2 ^ 8 + c.toNat) % 2 ^ 16 / 2 ^ 6 % 2 ^ 6), B64 ((((0 * 2 ^ 8 + a.toNat) % 2 ^ 16 * 2 ^ 8 + b.toNat) % 2 ^ 16 * 2 ^ 8 + c.toNat) % 2 ^ 16 / 2 ^ 0 % 2 ^ 6),
      B64 (((((0 * 2 ^ 8 + a.toNat) % 2 ^ 16 * 2 ^ 8 + b.toNat) % 2 ^ 16 * 2 ^ 8 + c.toNat) % 2 ^ 16 * 2 ^ 8 + d.toNat) % 2 ^ 16 / 2 ^ 2 % 2 ^ 6), B64 (((((0 * 2 ^ 8 + a.toNat) % 2 ^ 16 * 2 ^ 8 + b.toNat) % 2 ^ 16 * 2 ^ 8 + c.toNat) % 2 ^ 16 * 2 ^ 8 + d.toNat) % 2 ^ 16 % 2 ^ 2 * 2 ^ 4), 61, 61] := by kernel_rfl
    rw [e]
    refine Eq.trans (b := [alp (a.toNat / 4), alp (a.toNat % 4 * 16 + b.toNat / 16), alp (b.toNat % 16 * 4 + c.toNat / 64), alp (c.toNat % 64), alp (d.toNat / 4), alp (d.toNat % 4 * 16), 61, 61]) ?_ (by kernel_rfl)
    rw [n1 (u8b a), n2 (u8b a) (u8b b), n3 (u8b b) (u8b c), n3 (u8b c) (u8b d), d1 (u8b a), d2 (u8b b), d3 (u8b c), d4, d5 (u8b d), m4, B64_alp, B64_alp, B64_alp, B64_alp, B64_alp, B64_alp]
theorem q2 {a b : Nat} (h : b < 256) : a % 4 * 16 + b / 16 < 64 := by
  have h1 : a % 4 < 4 := Nat.mod_lt _ (by decide)
  have h2 : b / 16 < 16 := Nat.div_lt_of_lt_mul h
  generalize a % 4 = p at h1 ⊢
  generalize b / 16 = q at h2 ⊢
  omega
theorem q3 {b c : Nat} (h : c < 256) : b % 16 * 4 + c / 64 < 64 := by
  have h1 : b % 16 < 16 := Nat.mod_lt _ (by decide)
  have h2 : c / 64 < 4 := Nat.div_lt_of_lt_mul h
  generalize b % 16 = p at h1 ⊢
  generalize c / 64 = q at h2 ⊢
  omega
theorem q4 {c : Nat} : c % 64 < 64 := Nat.mod_lt _ (by decide)
theorem q5 {a : Nat} : a % 4 * 16 < 64 := Nat.mul_lt_mul_of_pos_right (k := 16) (Nat.mod_lt a (show 4 > 0 by decide)) (by decide)
theorem q6 {b : Nat} : b % 16 * 4 < 64 := Nat.mul_lt_mul_of_pos_right (k := 4) (Nat.mod_lt b (show 16 > 0 by decide)) (by decide)
theorem all_nil {p : Nat → Prop} : ∀ s ∈ ([] : List Nat), p s := fun _ h => nomatch h
theorem all_cons {p : Nat → Prop} {a : Nat} {l : List Nat} (h : p a) (t : ∀ s ∈ l, p s) : ∀ s ∈ a :: l, p s := List.forall_mem_cons.mpr ⟨h, t⟩
theorem sx6_lt {r : List UInt8} (h1 : 1 ≤ r.length) (h4 : r.length ≤ 4) : ∀ s ∈ sx6 r, s < 64 := by
  rcases len_cases h1 h4 with ⟨a, rfl⟩ | ⟨a, b, rfl⟩ | ⟨a, b, c, rfl⟩ | ⟨a, b, c, d, rfl⟩
  · exact all_cons (q1 (u8b a)) (all_cons q5 all_nil)
  · exact all_cons (q1 (u8b a)) (all_cons (q2 (u8b b)) (all_cons q6 all_nil))
  · exact all_cons (q1 (u8b a)) (all_cons (q2 (u8b b)) (all_cons (q3 (u8b c)) (all_cons q4 all_nil)))
  · exact all_cons (q1 (u8b a)) (all_cons (q2 (u8b b)) (all_cons (q3 (u8b c)) (all_cons q4 (all_cons (q1 (u8b d)) (all_cons q5 all_nil)))))
theorem byteA_nat {ns : List Nat} (h : ∀ n ∈ ns, n < 256) : (byteA ns).toList.map UInt8.toNat = ns := by
  unfold byteA byteArr
  simp only [List.map_map]
  refine (List.map_congr_left fun n hn => ?_).trans (List.map_id _)
  have := h n hn
  simp; omega
theorem alp_lt (s : Nat) : alp s < 256 := by
  rw [← B64_alp]
  have := B64_byte s
  omega
theorem txt_eq {r : List UInt8} (h1 : 1 ≤ r.length) (h4 : r.length ≤ 4) : txt r = (sx6 r).map alp ++ List.replicate (padN r) 61 := by
  unfold txt encB
  rw [enc_eq h1 h4]
  refine byteA_nat fun n hn => ?_
  rcases List.mem_append.mp hn with hn | hn
  · obtain ⟨s, _, rfl⟩ := List.mem_map.mp hn
    exact alp_lt s
  · rw [(List.mem_replicate.mp hn).2]; decide
theorem sx6_len {r : List UInt8} (h1 : 1 ≤ r.length) (h4 : r.length ≤ 4) : (sx6 r).length + padN r = (r.length + 2) / 3 * 4 := by
  rcases len_cases h1 h4 with ⟨a, rfl⟩ | ⟨a, b, rfl⟩ | ⟨a, b, c, rfl⟩ | ⟨a, b, c, d, rfl⟩
  · show 2 + (3 - 1 % 3) % 3 = (1 + 2) / 3 * 4; decide
  · show 3 + (3 - 2 % 3) % 3 = (2 + 2) / 3 * 4; decide
  · show 4 + (3 - 3 % 3) % 3 = (3 + 2) / 3 * 4; decide
  · show 6 + (3 - 4 % 3) % 3 = (4 + 2) / 3 * 4; decide
theorem txt_len {r : List UInt8} (h1 : 1 ≤ r.length) (h4 : r.length ≤ 4) : (txt r).length = (r.length + 2) / 3 * 4 := by
  rw [txt_eq h1 h4, List.length_append, List.length_map, List.length_replicate, sx6_len h1 h4]
theorem encB_len {r : List UInt8} (h : r.length ≤ 4) : (encB r).length ≤ 8 := by
  by_cases h0 : r = []
  · subst h0; decide +kernel
  · have h1 : 1 ≤ r.length := List.length_pos_iff.mpr h0
    have := txt_len h1 h
    unfold txt at this
    rw [List.length_map] at this
    omega
theorem alp_in {s : Nat} (h : s < 64) : alp s ∈ alphaL := alp_mem h
theorem no61 : (61 : Nat) ∉ alphaL := by decide +kernel
theorem txt_strip {r : List UInt8} (h1 : 1 ≤ r.length) (h4 : r.length ≤ 4) : (txt r).drop ((txt r).takeWhile fun c => alphaL.contains c).length = List.replicate ((3 - r.length % 3) % 3) 61 := by
  rw [txt_eq h1 h4]
  have e : ((sx6 r).map alp ++ List.replicate (padN r) 61).takeWhile (fun c => alphaL.contains c) = (sx6 r).map alp := by
    rw [List.takeWhile_append_of_pos]
    · have : (List.replicate (padN r) 61).takeWhile (fun c => alphaL.contains c) = [] := by
        have h61 : alphaL.contains 61 = false := by decide +kernel
        cases padN r with
        | zero => rfl
        | succ n => rw [List.replicate_succ, List.takeWhile_cons, h61]; rfl
      rw [this, List.append_nil]
    · intro c hc
      obtain ⟨s, hs, rfl⟩ := List.mem_map.mp hc
      exact List.contains_iff_mem.mpr (alp_in (sx6_lt h1 h4 s hs))
  rw [e, List.drop_left]
  rfl
theorem txt_chars {r : List UInt8} (h1 : 1 ≤ r.length) (h4 : r.length ≤ 4) : ∀ c ∈ txt r, c = 61 ∨ c ∈ alphaL := by
  rw [txt_eq h1 h4]
  intro c hc
  rcases List.mem_append.mp hc with hc | hc
  · obtain ⟨s, hs, rfl⟩ := List.mem_map.mp hc
    exact .inr (alp_in (sx6_lt h1 h4 s hs))
  · exact .inl (List.mem_replicate.mp hc).2
theorem idx_alp {s : Nat} (h : s < 64) : alphaL.idxOf (alp s) = s := by
  have : (List.range 64).all (fun s => alphaL.idxOf (alp s) == s) = true := by decide +kernel
  exact eq_of_beq (List.all_eq_true.mp this s (List.mem_range.mpr h))
theorem alp_inj {s t : Nat} (hs : s < 64) (ht : t < 64) (e : alp s = alp t) : s = t := by rw [← idx_alp hs, e, idx_alp ht]
theorem alp_61 {s : Nat} (h : s < 64) : alp s ≠ 61 := fun e => no61 (e ▸ alp_in h)
theorem decT_txt {r : List UInt8} (h1 : 1 ≤ r.length) (h4 : r.length ≤ 4) : decT (txt r) = sx6 r := by
  rw [txt_eq h1 h4]
  unfold decT
  rw [List.filterMap_append]
  have hl := sx6_lt h1 h4
  generalize sx6 r = l at hl
  have e1 : ∀ l : List Nat, (∀ s ∈ l, s < 64) → List.filterMap (fun c => if c = 61 then none else some (alphaL.idxOf c)) (l.map alp) = l := by
    intro l
    induction l with
    | nil => intro _; rfl
    | cons s t ih =>
      intro h
      have hs := h s List.mem_cons_self
      rw [List.map_cons, List.filterMap_cons, if_neg (alp_61 hs), idx_alp hs, ih fun x hx => h x (List.mem_cons_of_mem _ hx)]
  rw [e1 l hl]
  have e2 : ∀ n, List.filterMap (fun c => if c = 61 then none else some (alphaL.idxOf c)) (List.replicate n 61) = [] := by
    intro n
    induction n with
    | zero => rfl
    | succ n ih => rw [List.replicate_succ, List.filterMap_cons, if_pos rfl, ih]
  rw [e2, List.append_nil]
def setI (p : Nat × Nat) : List Nat := (alphaL.drop p.1).take p.2
def fitsT : List (Nat × Nat) → List Nat → Bool
  | [], _ => true
  | _ :: _, [] => false
  | p :: r, s :: t => decide (p.1 ≤ s ∧ s < p.1 + p.2) && fitsT r t
theorem mem_setI {lo w s : Nat} (hw : lo + w ≤ 64) (hs : s < 64) : alp s ∈ setI (lo, w) ↔ lo ≤ s ∧ s < lo + w := by
  unfold setI
  dsimp only
  constructor
  · intro h
    obtain ⟨i, hi, e⟩ := List.getElem_of_mem h
    rw [List.length_take, List.length_drop] at hi
    have hi2 : i < w := Nat.lt_of_lt_of_le hi (Nat.min_le_left _ _)
    have h64 : lo + i < 64 := Nat.lt_of_lt_of_le (Nat.add_lt_add_left hi2 _) hw
    rw [List.getElem_take, List.getElem_drop] at e
    have e2 : alp (lo + i) = alphaL[lo + i]'h64 := by
      have := alp_get (s := lo + i) h64
      rw [List.getElem?_eq_getElem h64] at this
      exact (Option.some.inj this).symm
    have := alp_inj h64 hs (e2.trans e)
    exact ⟨this ▸ Nat.le_add_right _ _, this ▸ Nat.add_lt_add_left hi2 _⟩
  · rintro ⟨h1, h2⟩
    have e2 : alphaL[s]? = some (alp s) := alp_get hs
    refine List.mem_of_getElem? (i := s - lo) ?_
    rw [List.getElem?_take, if_pos (Nat.sub_lt_left_of_lt_add h1 h2), List.getElem?_drop, Nat.add_sub_cancel' h1]
    exact e2
theorem no61_setI (p : Nat × Nat) : (61 : Nat) ∉ setI p := fun h => no61 (List.mem_of_mem_drop (List.mem_of_mem_take h))
theorem fits_eq (n : Nat) : ∀ (is : List (Nat × Nat)) (ss : List Nat), (∀ p ∈ is, p.1 + p.2 ≤ 64) → (∀ s ∈ ss, s < 64) → fitsF (is.map setI) (ss.map alp ++ List.replicate n 61) = fitsT is ss
  | [], ss, _, _ => by cases ss <;> rfl
  | p :: is, [], h, _ => by
    rw [List.map_nil, List.nil_append, List.map_cons]
    cases n with
    | zero => rfl
    | succ n =>
      rw [List.replicate_succ]
      unfold fitsF fitsT
      rw [decide_eq_false (no61_setI p), Bool.false_and]
  | p :: is, s :: ss, h, hs => by
    rw [List.map_cons, List.map_cons, List.cons_append]
    unfold fitsF fitsT
    rw [fits_eq n is ss (fun q hq => h q (List.mem_cons_of_mem _ hq)) (fun q hq => hs q (List.mem_cons_of_mem _ hq))]
    have := mem_setI (lo := p.1) (w := p.2) (h p List.mem_cons_self) (hs s List.mem_cons_self)
    rw [show decide (alp s ∈ setI p) = decide (p.1 ≤ s ∧ s < p.1 + p.2) from decide_eq_decide.mpr this]
def itv : List UInt8 → List (Nat × Nat)
  | [a] => [(a.toNat / 4, 1), (a.toNat % 4 * 16, 16)]
  | [a, b] => [(a.toNat / 4, 1), (a.toNat % 4 * 16 + b.toNat / 16, 1), (b.toNat % 16 * 4, 4)]
  | [a, b, c] => [(a.toNat / 4, 1), (a.toNat % 4 * 16 + b.toNat / 16, 1), (b.toNat % 16 * 4 + c.toNat / 64, 1), (c.toNat % 64, 1)]
  | [a, b, c, d] => [(a.toNat / 4, 1), (a.toNat % 4 * 16 + b.toNat / 16, 1), (b.toNat % 16 * 4 + c.toNat / 64, 1), (c.toNat % 64, 1), (d.toNat / 4, 1), (d.toNat % 4 * 16, 16)]
  | _ => []
theorem setI_one {s : Nat} (h : s < 64) : [alp s] = setI (s, 1) := by
  unfold setI
  dsimp only
  have e2 : alphaL[s]? = some (alp s) := alp_get h
  have h64 : s < alphaL.length := h
  rw [List.drop_eq_getElem_cons h64, List.take_succ_cons, List.take_zero]
  rw [List.getElem?_eq_getElem h64] at e2
  rw [Option.some.inj e2]
theorem sxN_1 (N : Nat) : sxN N 2 = [N / 64 ^ 1 % 64, N / 64 ^ 0 % 64] := rfl
theorem sxN_2 (N : Nat) : sxN N 3 = [N / 64 ^ 2 % 64, N / 64 ^ 1 % 64, N / 64 ^ 0 % 64] := rfl
theorem sxN_3 (N : Nat) : sxN N 4 = [N / 64 ^ 3 % 64, N / 64 ^ 2 % 64, N / 64 ^ 1 % 64, N / 64 ^ 0 % 64] := rfl
theorem sxN_4 (N : Nat) : sxN N 6 = [N / 64 ^ 5 % 64, N / 64 ^ 4 % 64, N / 64 ^ 3 % 64, N / 64 ^ 2 % 64, N / 64 ^ 1 % 64, N / 64 ^ 0 % 64] := rfl
theorem z11 {a : Nat} (h : a < 256) : (0 * 256 + a) * 2 ^ 4 / 64 ^ 1 % 64 = a / 4 := by
  rw [Nat.zero_mul, Nat.zero_add, show (64 : Nat) ^ 1 = 4 * 2 ^ 4 from rfl, Nat.mul_div_mul_right _ _ (by decide)]; exact d1 h
theorem z12 (a : Nat) : (0 * 256 + a) * 2 ^ 4 / 64 ^ 0 % 64 = a % 4 * 16 := by
  rw [Nat.zero_mul, Nat.zero_add, Nat.pow_zero, Nat.div_one, show (64 : Nat) = 4 * 2 ^ 4 from rfl, Nat.mul_mod_mul_right]
theorem z22 {a b : Nat} (hb : b < 256) : ((0 * 256 + a) * 256 + b) * 2 ^ 2 / 64 ^ 1 % 64 = a % 4 * 16 + b / 16 := by
  rw [Nat.zero_mul, Nat.zero_add, show (64 : Nat) ^ 1 = 2 ^ 4 * 2 ^ 2 from rfl, Nat.mul_div_mul_right _ _ (by decide)]; exact d2 hb
theorem z21 {a b : Nat} (h : a < 256) (hb : b < 256) : ((0 * 256 + a) * 256 + b) * 2 ^ 2 / 64 ^ 2 % 64 = a / 4 := by
  rw [Nat.zero_mul, Nat.zero_add, show (64 : Nat) ^ 2 = 256 * 4 * 2 ^ 2 from rfl, Nat.mul_div_mul_right _ _ (by decide), sh hb]; exact d1 h
theorem z23 (a b : Nat) : ((0 * 256 + a) * 256 + b) * 2 ^ 2 / 64 ^ 0 % 64 = b % 16 * 4 := by
  rw [Nat.pow_zero, Nat.div_one, show (64 : Nat) = 2 ^ 4 * 2 ^ 2 from rfl, Nat.mul_mod_mul_right]; exact m2 _ b
theorem z31 {a b c : Nat} (h : a < 256) (hb : b < 256) (hc : c < 256) : (((0 * 256 + a) * 256 + b) * 256 + c) * 2 ^ 0 / 64 ^ 3 % 64 = a / 4 := by
  rw [Nat.zero_mul, Nat.zero_add, Nat.pow_zero, Nat.mul_one, show (64 : Nat) ^ 3 = 256 * (256 * 4) from rfl, sh hc, sh hb]; exact d1 h
theorem z32 {a b c : Nat} (hb : b < 256) (hc : c < 256) : (((0 * 256 + a) * 256 + b) * 256 + c) * 2 ^ 0 / 64 ^ 2 % 64 = a % 4 * 16 + b / 16 := by
  rw [Nat.zero_mul, Nat.zero_add, Nat.pow_zero, Nat.mul_one, show (64 : Nat) ^ 2 = 256 * 16 from rfl, sh hc]; exact d2 hb
theorem z33 {a b c : Nat} (hc : c < 256) : (((0 * 256 + a) * 256 + b) * 256 + c) * 2 ^ 0 / 64 ^ 1 % 64 = b % 16 * 4 + c / 64 := by
  rw [Nat.pow_zero, Nat.mul_one]
  have := d3 (b := (0 * 256 + a) * 256 + b) hc
  rw [show ((0 * 256 + a) * 256 + b) % 16 = b % 16 by rw [show (256 : Nat) = 16 * 16 from rfl, ← Nat.mul_assoc ((0 * (16 * 16) + a)), Nat.add_comm, Nat.add_mul_mod_self_right]] at this
  exact this
theorem z34 (a b c : Nat) : (((0 * 256 + a) * 256 + b) * 256 + c) * 2 ^ 0 / 64 ^ 0 % 64 = c % 64 := by
  rw [Nat.pow_zero, Nat.mul_one, Nat.div_one]; exact l64 _ c
theorem z4x {M d : Nat} (hd : d < 256) (k : Nat) : (M * 256 + d) * 2 ^ 4 / 64 ^ (k + 2) % 64 = M * 2 ^ 0 / 64 ^ k % 64 := by
  have e : (M * 256 + d) * 2 ^ 4 / 64 ^ 2 = M := by
    rw [show (64 : Nat) ^ 2 = 256 * 1 * 2 ^ 4 from rfl, Nat.mul_div_mul_right _ _ (by decide), sh hd, Nat.div_one]
  rw [Nat.pow_add, Nat.mul_comm (64 ^ k), ← Nat.div_div_eq_div_mul, e, Nat.pow_zero, Nat.mul_one]
theorem z45 {M d : Nat} (hd : d < 256) : (M * 256 + d) * 2 ^ 4 / 64 ^ 1 % 64 = d / 4 := by
  rw [show (64 : Nat) ^ 1 = 2 ^ 2 * 2 ^ 4 from rfl, Nat.mul_div_mul_right _ _ (by decide)]; exact d5 hd
theorem z46 (M d : Nat) : (M * 256 + d) * 2 ^ 4 / 64 ^ 0 % 64 = d % 4 * 16 := by
  rw [Nat.pow_zero, Nat.div_one, show (64 : Nat) = 2 ^ 2 * 2 ^ 4 from rfl, Nat.mul_mod_mul_right]; exact m4 M d
theorem w1 {n : Nat} (h : n < 64) : n + 1 ≤ 64 := h
theorem w16 {a : Nat} : a % 4 * 16 + 16 ≤ 64 := Nat.succ_mul (a % 4) 16 ▸ Nat.mul_le_mul_right 16 (Nat.mod_lt a (show 4 > 0 by decide))
theorem w4 {b : Nat} : b % 16 * 4 + 4 ≤ 64 := Nat.succ_mul (b % 16) 4 ▸ Nat.mul_le_mul_right 4 (Nat.mod_lt b (show 16 > 0 by decide))
theorem pr_nil {p : Nat × Nat → Prop} : ∀ s ∈ ([] : List (Nat × Nat)), p s := fun _ h => nomatch h
theorem pr_cons {p : Nat × Nat → Prop} {a : Nat × Nat} {l : List (Nat × Nat)} (h : p a) (t : ∀ s ∈ l, p s) : ∀ s ∈ a :: l, p s := List.forall_mem_cons.mpr ⟨h, t⟩
theorem items_eq {h : List UInt8} (h1 : 1 ≤ h.length) (h4 : h.length ≤ 4) : itemsF h = (itv h).map setI ∧ ∀ p ∈ itv h, p.1 + p.2 ≤ 64 := by
  rcases len_cases h1 h4 with ⟨a, rfl⟩ | ⟨a, b, rfl⟩ | ⟨a, b, c, rfl⟩ | ⟨a, b, c, d, rfl⟩
  · have e : sxN (beN [a] * 2 ^ spN 1) (mnN 1) = [a.toNat / 4, a.toNat % 4 * 16] := by
      rw [show spN 1 = 4 from rfl, show mnN 1 = 2 from rfl, sxN_1, show beN [a] = 0 * 256 + a.toNat from rfl, z11 (u8b a), z12]
    refine ⟨?_, pr_cons (w1 (q1 (u8b a))) (pr_cons w16 pr_nil)⟩
    unfold itemsF
    rw [show [a].length = 1 from rfl, e, if_neg (by decide)]
    refine Eq.trans (b := [[alp (a.toNat / 4)], setI (a.toNat % 4 * 16, 16)]) (by kernel_rfl) ?_
    rw [setI_one (q1 (u8b a))]; rfl
  · have e : sxN (beN [a, b] * 2 ^ spN 2) (mnN 2) = [a.toNat / 4, a.toNat % 4 * 16 + b.toNat / 16, b.toNat % 16 * 4] := by
      rw [show spN 2 = 2 from rfl, show mnN 2 = 3 from rfl, sxN_2, show beN [a, b] = (0 * 256 + a.toNat) * 256 + b.toNat from rfl, z21 (u8b a) (u8b b), z22 (u8b b), z23]
    refine ⟨?_, pr_cons (w1 (q1 (u8b a))) (pr_cons (w1 (q2 (u8b b))) (pr_cons w4 pr_nil))⟩
    unfold itemsF
    rw [show [a, b].length = 2 from rfl, e, if_neg (by decide)]
    refine Eq.trans (b := [[alp (a.toNat / 4)], [alp (a.toNat % 4 * 16 + b.toNat / 16)], setI (b.toNat % 16 * 4, 4)]) (by kernel_rfl) ?_
    rw [setI_one (q1 (u8b a)), setI_one (q2 (u8b b))]; rfl
  · have e : sxN (beN [a, b, c] * 2 ^ spN 3) (mnN 3) = [a.toNat / 4, a.toNat % 4 * 16 + b.toNat / 16, b.toNat % 16 * 4 + c.toNat / 64, c.toNat % 64] := by
      rw [show spN 3 = 0 from rfl, show mnN 3 = 4 from rfl, sxN_3, show beN [a, b, c] = ((0 * 256 + a.toNat) * 256 + b.toNat) * 256 + c.toNat from rfl, z31 (u8b a) (u8b b) (u8b c), z32 (u8b b) (u8b c), z33 (u8b c), z34]
    refine ⟨?_, pr_cons (w1 (q1 (u8b a))) (pr_cons (w1 (q2 (u8b b))) (pr_cons (w1 (q3 (u8b c))) (pr_cons (w1 q4) pr_nil)))⟩
    unfold itemsF
    rw [show [a, b, c].length = 3 from rfl, e, if_pos (by decide)]
    refine Eq.trans (b := [[alp (a.toNat / 4)], [alp (a.toNat % 4 * 16 + b.toNat / 16)], [alp (b.toNat % 16 * 4 + c.toNat / 64)], [alp (c.toNat % 64)]]) (by kernel_rfl) ?_
    rw [setI_one (q1 (u8b a)), setI_one (q2 (u8b b)), setI_one (q3 (u8b c)), setI_one q4]; rfl
  · have e : sxN (beN [a, b, c, d] * 2 ^ spN 4) (mnN 4) = [a.toNat / 4, a.toNat % 4 * 16 + b.toNat / 16, b.toNat % 16 * 4 + c.toNat / 64, c.toNat % 64, d.toNat / 4, d.toNat % 4 * 16] := by
      rw [show spN 4 = 4 from rfl, show mnN 4 = 6 from rfl, sxN_4, show beN [a, b, c, d] = (((0 * 256 + a.toNat) * 256 + b.toNat) * 256 + c.toNat) * 256 + d.toNat from rfl,
        z4x (u8b d) 3, z4x (u8b d) 2, z4x (u8b d) 1, z4x (u8b d) 0, z45 (u8b d), z46, z31 (u8b a) (u8b b) (u8b c), z32 (u8b b) (u8b c), z33 (u8b c), z34]
    refine ⟨?_, pr_cons (w1 (q1 (u8b a))) (pr_cons (w1 (q2 (u8b b))) (pr_cons (w1 (q3 (u8b c))) (pr_cons (w1 q4) (pr_cons (w1 (q1 (u8b d))) (pr_cons w16 pr_nil)))))⟩
    unfold itemsF
    rw [show [a, b, c, d].length = 4 from rfl, e, if_neg (by decide)]
    refine Eq.trans (b := [[alp (a.toNat / 4)], [alp (a.toNat % 4 * 16 + b.toNat / 16)], [alp (b.toNat % 16 * 4 + c.toNat / 64)], [alp (c.toNat % 64)], [alp (d.toNat / 4)], setI (d.toNat % 4 * 16, 16)]) (by kernel_rfl) ?_
    rw [setI_one (q1 (u8b a)), setI_one (q2 (u8b b)), setI_one (q3 (u8b c)), setI_one q4, setI_one (q1 (u8b d))]; rfl
theorem u8_eq {a b : UInt8} : a = b ↔ a.toNat = b.toNat := UInt8.toNat_inj.symm
theorem iv1 {s t : Nat} : (s ≤ t ∧ t < s + 1) ↔ t = s := ⟨fun h => Nat.le_antisymm (Nat.le_of_lt_succ h.2) h.1, fun h => h ▸ ⟨Nat.le_refl _, Nat.lt_succ_self _⟩⟩
theorem v16 {y : Nat} (h : y < 256) : y / 16 < 16 := Nat.div_lt_of_lt_mul h
theorem v64 {y : Nat} (h : y < 256) : y / 64 < 4 := Nat.div_lt_of_lt_mul h
theorem U16 {p q u v : Nat} (hu : u < 16) (hv : v < 16) : p * 16 + u = q * 16 + v ↔ (p = q ∧ u = v) := by omega
theorem U4 {p q u v : Nat} (hu : u < 4) (hv : v < 4) : p * 4 + u = q * 4 + v ↔ (p = q ∧ u = v) := by omega
theorem X (m : Nat) {a x : Nat} : (x / m = a / m ∧ x % m = a % m) ↔ x = a :=
  ⟨fun h => by rw [← Nat.div_add_mod x m, h.1, h.2, Nat.div_add_mod], fun h => by rw [h]; exact ⟨rfl, rfl⟩⟩
theorem E1 {a b x y : Nat} (hb : b < 256) (hy : y < 256) : (x / 4 = a / 4 ∧ x % 4 * 16 + y / 16 = a % 4 * 16 + b / 16) ↔ (x = a ∧ y / 16 = b / 16) := by
  rw [U16 (v16 hy) (v16 hb), ← and_assoc, X]
theorem E2 {b c y z : Nat} (hc : c < 256) (hz : z < 256) : (y / 16 = b / 16 ∧ y % 16 * 4 + z / 64 = b % 16 * 4 + c / 64) ↔ (y = b ∧ z / 64 = c / 64) := by
  rw [U4 (v64 hz) (v64 hc), ← and_assoc, X]
theorem E3 {c z : Nat} : (z / 64 = c / 64 ∧ z % 64 = c % 64) ↔ z = c := X 64
theorem V16 {p q v : Nat} (hv : v < 16) : (p * 16 ≤ q * 16 + v ∧ q * 16 + v < p * 16 + 16) ↔ q = p := by omega
theorem V4 {p q v : Nat} (hv : v < 4) : (p * 4 ≤ q * 4 + v ∧ q * 4 + v < p * 4 + 4) ↔ q = p := by omega
theorem F1 {a x v : Nat} (hv : v < 16) : (x / 4 = a / 4 ∧ (a % 4 * 16 ≤ x % 4 * 16 + v ∧ x % 4 * 16 + v < a % 4 * 16 + 16)) ↔ x = a := by rw [V16 hv, X]
theorem F2 {b y v : Nat} (hv : v < 4) : (y / 16 = b / 16 ∧ (b % 16 * 4 ≤ y % 16 * 4 + v ∧ y % 16 * 4 + v < b % 16 * 4 + 4)) ↔ y = b := by rw [V4 hv, X]
theorem E1' {a b x y : Nat} {X : Prop} (hb : b < 256) (hy : y < 256) : (x / 4 = a / 4 ∧ x % 4 * 16 + y / 16 = a % 4 * 16 + b / 16 ∧ X) ↔ (x = a ∧ y / 16 = b / 16 ∧ X) := by rw [← and_assoc, E1 hb hy, and_assoc]
theorem E2' {b c y z : Nat} {X : Prop} (hc : c < 256) (hz : z < 256) : (y / 16 = b / 16 ∧ y % 16 * 4 + z / 64 = b % 16 * 4 + c / 64 ∧ X) ↔ (y = b ∧ z / 64 = c / 64 ∧ X) := by rw [← and_assoc, E2 hc hz, and_assoc]
theorem E3' {c z : Nat} {X : Prop} : (z / 64 = c / 64 ∧ z % 64 = c % 64 ∧ X) ↔ (z = c ∧ X) := by rw [← and_assoc, E3]
theorem F1z {a x : Nat} : (x / 4 = a / 4 ∧ (a % 4 * 16 ≤ x % 4 * 16 ∧ x % 4 * 16 < a % 4 * 16 + 16)) ↔ x = a := F1 (v := 0) (by decide)
theorem F2z {b y : Nat} : (y / 16 = b / 16 ∧ (b % 16 * 4 ≤ y % 16 * 4 ∧ y % 16 * 4 < b % 16 * 4 + 4)) ↔ y = b := F2 (v := 0) (by decide)
theorem fits_pre {h r : List UInt8} (h1 : 1 ≤ h.length) (h4 : h.length ≤ 4) (r1 : 1 ≤ r.length) (r4 : r.length ≤ 4) : fitsT (itv h) (sx6 r) = (r.take h.length == h) := by
  rw [Bool.eq_iff_iff, beq_iff_eq]
  rcases len_cases h1 h4 with ⟨a, rfl⟩ | ⟨a, b, rfl⟩ | ⟨a, b, c, rfl⟩ | ⟨a, b, c, d, rfl⟩ <;> rcases len_cases r1 r4 with ⟨x, rfl⟩ | ⟨x, y, rfl⟩ | ⟨x, y, z, rfl⟩ | ⟨x, y, z, u, rfl⟩ <;>
    simp only [itv, sx6, fitsT, List.take, List.length_cons, List.length_nil, Nat.zero_add, Nat.reduceAdd, Bool.and_eq_true, decide_eq_true_eq, Bool.and_false, Bool.false_eq_true, and_true, List.cons.injEq, u8_eq, reduceCtorEq, and_false, iv1]
  · exact F1z
  · exact F1 (v16 (u8b y))
  · exact F1 (v16 (u8b y))
  · exact F1 (v16 (u8b y))
  · rw [E1' (u8b b) (u8b y), F2z]
  · rw [E1' (u8b b) (u8b y), F2 (v64 (u8b z))]
  · rw [E1' (u8b b) (u8b y), F2 (v64 (u8b z))]
  · rw [E1' (u8b b) (u8b y), E2' (u8b c) (u8b z), E3]
  · rw [E1' (u8b b) (u8b y), E2' (u8b c) (u8b z), E3]
  · rw [E1' (u8b b) (u8b y), E2' (u8b c) (u8b z), E3', F1z]
theorem fits_txt {h r : List UInt8} (h1 : 1 ≤ h.length) (h4 : h.length ≤ 4) (r1 : 1 ≤ r.length) (r4 : r.length ≤ 4) : fitsF (itemsF h) (txt r) = (r.take h.length == h) := by
  obtain ⟨e1, e2⟩ := items_eq h1 h4
  rw [e1, txt_eq r1 r4, fits_eq _ _ _ e2 (sx6_lt r1 r4), fits_pre h1 h4 r1 r4]
end
section
open PySem PySem.W PyProof.Rows PySem.Calls
set_option maxRecDepth 100000
def intsN (l : List Nat) : List Int := l.map fun s : Nat => (s : Int)
def intsB (r : List UInt8) : List Int := r.map fun s : UInt8 => (s.toNat : Int)
theorem lexL_nn : (lexL [] [] = true) = False := eq_false Bool.false_ne_true
theorem lexL_nc (b : Int) (t : List Int) : (lexL [] (b :: t) = true) = True := eq_true rfl
theorem lexL_cn (b : Int) (t : List Int) : (lexL (b :: t) [] = true) = False := eq_false Bool.false_ne_true
theorem lexL_cc (a b : Int) (r t : List Int) : (lexL (a :: r) (b :: t) = true) = (a < b ∨ a = b ∧ lexL r t = true) := by
  apply propext
  rw [lexL]
  by_cases h : a = b
  · subst h; rw [if_pos rfl]; exact ⟨fun x => .inr ⟨rfl, x⟩, fun x => x.elim (fun x => absurd x (Int.lt_irrefl _)) (·.2)⟩
  · rw [if_neg h, decide_eq_true_eq]; exact ⟨.inl, fun x => x.elim id fun x => absurd x.1 h⟩
theorem Dm {m a x : Nat} {X : Prop} (hm : 0 < m) : (a < x ∨ a = x ∧ X) ↔ (a / m < x / m ∨ a / m = x / m ∧ (a % m < x % m ∨ a % m = x % m ∧ X)) := by
  have ea := Nat.div_add_mod a m
  have ex := Nat.div_add_mod x m
  constructor
  · rintro (h | ⟨rfl, h⟩)
    · rcases Nat.lt_or_ge (a / m) (x / m) with q | q
      · exact .inl q
      · have e := Nat.le_antisymm (Nat.div_le_div_right (c := m) (Nat.le_of_lt h)) q
        refine .inr ⟨e, .inl ?_⟩
        rw [← ea, ← ex, e] at h
        exact Nat.lt_of_add_lt_add_left h
    · exact .inr ⟨rfl, .inr ⟨rfl, h⟩⟩
  · rintro (h | ⟨e, h | ⟨h, hx⟩⟩)
    · exact .inl (Nat.lt_of_not_le fun q => Nat.not_le_of_lt h (Nat.div_le_div_right q))
    · refine .inl ?_
      rw [← ea, ← ex, e]
      exact Nat.add_lt_add_left h _
    · exact .inr ⟨by rw [← ea, ← ex, e, h], hx⟩
theorem Gm {m p q u v : Nat} {X : Prop} (hu : u < m) (hv : v < m) : (p * m + u < q * m + v ∨ p * m + u = q * m + v ∧ X) ↔ (p < q ∨ p = q ∧ (u < v ∨ u = v ∧ X)) := by
  have hm : 0 < m := Nat.lt_of_le_of_lt (Nat.zero_le _) hu
  have e1 : ∀ p u, u < m → (p * m + u) / m = p := fun p u hu => by rw [Nat.add_comm, Nat.add_mul_div_right _ _ hm, Nat.div_eq_of_lt hu, Nat.zero_add]
  have e2 : ∀ p u, u < m → (p * m + u) % m = u := fun p u hu => by rw [Nat.add_comm, Nat.add_mul_mod_self_right, Nat.mod_eq_of_lt hu]
  rw [Dm hm, e1 p u hu, e1 q v hv, e2 p u hu, e2 q v hv]
theorem G16 {p q u v : Nat} {X : Prop} (hu : u < 16) (hv : v < 16) : (p * 16 + u < q * 16 + v ∨ p * 16 + u = q * 16 + v ∧ X) ↔ (p < q ∨ p = q ∧ (u < v ∨ u = v ∧ X)) := Gm hu hv
theorem G4 {p q u v : Nat} {X : Prop} (hu : u < 4) (hv : v < 4) : (p * 4 + u < q * 4 + v ∨ p * 4 + u = q * 4 + v ∧ X) ↔ (p < q ∨ p = q ∧ (u < v ∨ u = v ∧ X)) := Gm hu hv
theorem D4 {a x : Nat} {X : Prop} : (a < x ∨ a = x ∧ X) ↔ (a / 4 < x / 4 ∨ a / 4 = x / 4 ∧ (a % 4 < x % 4 ∨ a % 4 = x % 4 ∧ X)) := Dm (by decide)
theorem D16 {a x : Nat} {X : Prop} : (a < x ∨ a = x ∧ X) ↔ (a / 16 < x / 16 ∨ a / 16 = x / 16 ∧ (a % 16 < x % 16 ∨ a % 16 = x % 16 ∧ X)) := Dm (by decide)
theorem D64 {a x : Nat} {X : Prop} : (a < x ∨ a = x ∧ X) ↔ (a / 64 < x / 64 ∨ a / 64 = x / 64 ∧ (a % 64 < x % 64 ∨ a % 64 = x % 64 ∧ X)) := Dm (by decide)
theorem T1 {a b x y : Nat} {X : Prop} (hb : b < 256) (hy : y < 256) : (a / 4 < x / 4 ∨ a / 4 = x / 4 ∧ (a % 4 * 16 + b / 16 < x % 4 * 16 + y / 16 ∨ a % 4 * 16 + b / 16 = x % 4 * 16 + y / 16 ∧ X)) ↔ (a < x ∨ a = x ∧ (b / 16 < y / 16 ∨ b / 16 = y / 16 ∧ X)) := by
  rw [G16 (v16 hb) (v16 hy), ← D4]
theorem T2 {b c y z : Nat} {X : Prop} (hc : c < 256) (hz : z < 256) : (b / 16 < y / 16 ∨ b / 16 = y / 16 ∧ (b % 16 * 4 + c / 64 < y % 16 * 4 + z / 64 ∨ b % 16 * 4 + c / 64 = y % 16 * 4 + z / 64 ∧ X)) ↔ (b < y ∨ b = y ∧ (c / 64 < z / 64 ∨ c / 64 = z / 64 ∧ X)) := by
  rw [G4 (v64 hc) (v64 hz), ← D16]
theorem T3 {c z : Nat} {X : Prop} : (c / 64 < z / 64 ∨ c / 64 = z / 64 ∧ (c % 64 < z % 64 ∨ c % 64 = z % 64 ∧ X)) ↔ (c < z ∨ c = z ∧ X) := D64.symm
theorem P16 {p q v : Nat} (hv : v < 16) : (p * 16 < q * 16 + v ∨ p * 16 = q * 16 + v) ↔ (p < q ∨ p = q) := by omega
theorem P16' {p q v : Nat} (hv : v < 16) : p * 16 + v < q * 16 ↔ p < q := by omega
theorem P4 {p q v : Nat} (hv : v < 4) : (p * 4 < q * 4 + v ∨ p * 4 = q * 4 + v) ↔ (p < q ∨ p = q) := by omega
theorem P4' {p q v : Nat} (hv : v < 4) : p * 4 + v < q * 4 ↔ p < q := by omega
theorem D4t {a x : Nat} : (a / 4 < x / 4 ∨ a / 4 = x / 4 ∧ (a % 4 < x % 4 ∨ a % 4 = x % 4)) ↔ (a < x ∨ a = x) := by
  have := D4 (a := a) (x := x) (X := True); rw [and_true, and_true] at this; exact this.symm
theorem D4f {a x : Nat} : (a / 4 < x / 4 ∨ a / 4 = x / 4 ∧ a % 4 < x % 4) ↔ a < x := by
  have := D4 (a := a) (x := x) (X := False); rw [and_false, and_false, or_false, or_false] at this; exact this.symm
theorem D16t {a x : Nat} : (a / 16 < x / 16 ∨ a / 16 = x / 16 ∧ (a % 16 < x % 16 ∨ a % 16 = x % 16)) ↔ (a < x ∨ a = x) := by
  have := D16 (a := a) (x := x) (X := True); rw [and_true, and_true] at this; exact this.symm
theorem D16f {a x : Nat} : (a / 16 < x / 16 ∨ a / 16 = x / 16 ∧ a % 16 < x % 16) ↔ a < x := by
  have := D16 (a := a) (x := x) (X := False); rw [and_false, and_false, or_false, or_false] at this; exact this.symm
theorem S1 {a x v : Nat} (hv : v < 16) : (a / 4 < x / 4 ∨ a / 4 = x / 4 ∧ (a % 4 * 16 < x % 4 * 16 + v ∨ a % 4 * 16 = x % 4 * 16 + v)) ↔ (a < x ∨ a = x) := by rw [P16 hv, D4t]
theorem S2 {a x v : Nat} (hv : v < 16) : (a / 4 < x / 4 ∨ a / 4 = x / 4 ∧ a % 4 * 16 + v < x % 4 * 16) ↔ a < x := by rw [P16' hv, D4f]
theorem S3 {a x : Nat} : (a / 4 < x / 4 ∨ a / 4 = x / 4 ∧ a % 4 * 16 < x % 4 * 16) ↔ a < x := S2 (v := 0) (by decide)
theorem S4 {b y v : Nat} (hv : v < 4) : (b / 16 < y / 16 ∨ b / 16 = y / 16 ∧ (b % 16 * 4 < y % 16 * 4 + v ∨ b % 16 * 4 = y % 16 * 4 + v)) ↔ (b < y ∨ b = y) := by rw [P4 hv, D16t]
theorem S5 {b y v : Nat} (hv : v < 4) : (b / 16 < y / 16 ∨ b / 16 = y / 16 ∧ b % 16 * 4 + v < y % 16 * 4) ↔ b < y := by rw [P4' hv, D16f]
theorem S6 {b y : Nat} : (b / 16 < y / 16 ∨ b / 16 = y / 16 ∧ b % 16 * 4 < y % 16 * 4) ↔ b < y := S5 (v := 0) (by decide)
theorem S7 {c z : Nat} : (c / 64 < z / 64 ∨ c / 64 = z / 64 ∧ c % 64 < z % 64) ↔ c < z := by
  have := D64 (a := c) (x := z) (X := False); rw [and_false, and_false, or_false, or_false] at this; exact this.symm
theorem S8 {c z : Nat} : (c / 64 < z / 64 ∨ c / 64 = z / 64 ∧ (c % 64 < z % 64 ∨ c % 64 = z % 64)) ↔ (c < z ∨ c = z) := by
  have := D64 (a := c) (x := z) (X := True); rw [and_true, and_true] at this; exact this.symm
theorem lex_sx6 {h r : List UInt8} (h1 : 1 ≤ h.length) (h4 : h.length ≤ 4) (r1 : 1 ≤ r.length) (r4 : r.length ≤ 4) : lexL (intsN (sx6 h)) (intsN (sx6 r)) = lexL (intsB h) (intsB r) := by
  rw [Bool.eq_iff_iff]
  rcases len_cases h1 h4 with ⟨a, rfl⟩ | ⟨a, b, rfl⟩ | ⟨a, b, c, rfl⟩ | ⟨a, b, c, d, rfl⟩ <;> rcases len_cases r1 r4 with ⟨x, rfl⟩ | ⟨x, y, rfl⟩ | ⟨x, y, z, rfl⟩ | ⟨x, y, z, u, rfl⟩ <;>
    simp only [intsN, intsB, sx6, List.map_cons, List.map_nil, lexL_cc, lexL_nn, lexL_nc, lexL_cn, Int.ofNat_lt, Int.natCast_inj, and_true, and_false, or_false]
  · exact S3
  · exact S1 (v16 (u8b y))
  · exact S1 (v16 (u8b y))
  · exact S1 (v16 (u8b y))
  · exact S2 (v16 (u8b b))
  · rw [T1 (u8b b) (u8b y), S6]
  · rw [T1 (u8b b) (u8b y), S4 (v64 (u8b z))]
  · rw [T1 (u8b b) (u8b y), S4 (v64 (u8b z))]
  · exact S2 (v16 (u8b b))
  · rw [T1 (u8b b) (u8b y), S5 (v64 (u8b c))]
  · rw [T1 (u8b b) (u8b y), T2 (u8b c) (u8b z), S7]
  · rw [T1 (u8b b) (u8b y), T2 (u8b c) (u8b z), S8]
  · exact S2 (v16 (u8b b))
  · rw [T1 (u8b b) (u8b y), S5 (v64 (u8b c))]
  · rw [T1 (u8b b) (u8b y), T2 (u8b c) (u8b z), S7]
  · rw [T1 (u8b b) (u8b y), T2 (u8b c) (u8b z), T3, S3]
theorem lexL_irr : ∀ a : List Int, lexL a a = false
  | [] => rfl
  | a :: r => by rw [lexL, if_pos rfl]; exact lexL_irr r
theorem lexL_trans : ∀ a b c : List Int, lexL a b = true → lexL b c = true → lexL a c = true
  | [], [], c, h1, h2 => by cases h1
  | [], _ :: _, [], h1, h2 => by cases h2
  | [], _ :: _, _ :: _, h1, h2 => rfl
  | _ :: _, [], c, h1, h2 => by cases h1
  | _ :: _, _ :: _, [], h1, h2 => by cases h2
  | x :: r, y :: s, z :: t, h1, h2 => by
    rw [lexL_cc] at h1 h2 ⊢
    rcases h1 with h1 | ⟨h1, h1'⟩ <;> rcases h2 with h2 | ⟨h2, h2'⟩
    · exact .inl (Int.lt_trans h1 h2)
    · exact .inl (h2 ▸ h1)
    · exact .inl (h1 ▸ h2)
    · exact .inr ⟨h1.trans h2, lexL_trans r s t h1' h2'⟩
theorem lexL_tot : ∀ a b : List Int, a ≠ b → lexL a b = true ∨ lexL b a = true
  | [], [], h => absurd rfl h
  | [], _ :: _, h => .inl rfl
  | _ :: _, [], h => .inr rfl
  | x :: r, y :: s, h => by
    rw [lexL_cc, lexL_cc]
    by_cases e : x = y
    · subst e
      exact (lexL_tot r s fun q => h (by rw [q])).imp (fun q => .inr ⟨rfl, q⟩) fun q => .inr ⟨rfl, q⟩
    · exact (Int.lt_or_gt_of_ne e).imp .inl .inl
theorem intsB_inj {a b : List UInt8} : intsB a = intsB b ↔ a = b := by
  refine ⟨fun h => (List.map_inj_right (f := fun s : UInt8 => (s.toNat : Int)) fun x y e => UInt8.toNat_inj.mp (Int.ofNat.inj e)).mp h, fun h => by rw [h]⟩
theorem sx6_inj {h r : List UInt8} (h1 : 1 ≤ h.length) (h4 : h.length ≤ 4) (r1 : 1 ≤ r.length) (r4 : r.length ≤ 4) : intsN (sx6 h) = intsN (sx6 r) ↔ h = r := by
  refine ⟨fun e => ?_, fun e => by rw [e]⟩
  have a := lex_sx6 h1 h4 r1 r4
  have b := lex_sx6 r1 r4 h1 h4
  rw [e, lexL_irr] at a
  rw [e, lexL_irr] at b
  refine intsB_inj.mp (Classical.byContradiction fun q => ?_)
  rcases lexL_tot _ _ q with t | t
  · rw [← a] at t; cases t
  · rw [← b] at t; cases t
theorem ltb_true {i j : Nat} (h : (if i = j then false else decide (i < j)) = true) : i < j := by
  by_cases q : i = j
  · rw [if_pos q] at h; cases h
  · rw [if_neg q] at h; exact of_decide_eq_true h
theorem ltb_of {i j : Nat} (h : i < j) : (if i = j then false else decide (i < j)) = true := by rw [if_neg (Nat.ne_of_lt h), decide_eq_true h]
theorem pairLt_strict (idx : List (List Int)) (n : Nat) : Mine.Strict n (pairLt idx) where
  irr i hi := by unfold pairLt; rw [if_pos rfl, if_pos rfl]
  trans i j k hi hj hk h1 h2 := by
    unfold pairLt at h1 h2 ⊢
    generalize idx.getD i [] = a at h1 h2 ⊢
    generalize idx.getD j [] = b at h1 h2 ⊢
    generalize idx.getD k [] = c at h1 h2 ⊢
    by_cases e1 : a = b
    · subst e1
      rw [if_pos rfl] at h1
      by_cases e2 : a = c
      · subst e2
        rw [if_pos rfl] at h2 ⊢
        exact ltb_of (Nat.lt_trans (ltb_true h1) (ltb_true h2))
      · rw [if_neg e2] at h2 ⊢
        exact h2
    · rw [if_neg e1] at h1
      by_cases e2 : b = c
      · subst e2
        rw [if_neg e1]; exact h1
      · rw [if_neg e2] at h2
        have h3 := lexL_trans _ _ _ h1 h2
        by_cases e3 : a = c
        · subst e3
          rw [lexL_irr] at h3; cases h3
        · rw [if_neg e3]; exact h3
  tot i j hi hj hne := by
    unfold pairLt
    generalize idx.getD i [] = a
    generalize idx.getD j [] = b
    by_cases e : a = b
    · subst e
      rw [if_pos rfl, if_pos rfl]
      exact (Nat.lt_or_gt_of_ne hne).imp ltb_of ltb_of
    · rw [if_neg e, if_neg (Ne.symm e)]
      exact lexL_tot _ _ e
theorem getD_of {α β : Type} (f : α → List β) (l : List α) {k : Nat} (hk : k < l.length) : (l.map f).getD k [] = f l[k] := by
  rw [List.getD_eq_getElem?_getD, List.getElem?_map, List.getElem?_eq_getElem hk]; rfl
theorem pairLt_rows {RR : List (List UInt8)} (hRR : ∀ r ∈ RR, 1 ≤ r.length ∧ r.length ≤ 4) {i j : Nat} (hi : i < RR.length) (hj : j < RR.length) : pairLt (RR.map fun r => intsN (sx6 r)) i j = pairLt (RR.map intsB) i j := by
  unfold pairLt
  rw [getD_of _ _ hi, getD_of _ _ hj, getD_of _ _ hi, getD_of _ _ hj]
  obtain ⟨a1, a4⟩ := hRR _ (List.getElem_mem hi)
  obtain ⟨b1, b4⟩ := hRR _ (List.getElem_mem hj)
  rw [lex_sx6 a1 a4 b1 b4]
  have e1 := sx6_inj a1 a4 b1 b4
  by_cases q : RR[i] = RR[j]
  · rw [if_pos (e1.mpr q), if_pos (intsB_inj.mpr q)]
  · rw [if_neg fun h => q (e1.mp h), if_neg fun h => q (intsB_inj.mp h)]
end
section
open PySem
theorem par_lt {j : Nat} (h : 0 < j) : (j - 1) / 2 < j := Nat.lt_of_le_of_lt (Nat.div_le_self _ _) (Nat.sub_lt h Nat.one_pos)
theorem par_len {j n : Nat} (h : j < n) : (j - 1) / 2 < n := Nat.lt_of_le_of_lt (Nat.le_trans (Nat.div_le_self _ _) (Nat.sub_le _ _)) h
theorem par_c {c q : Nat} (h : c = 2 * q + 1 ∨ c = 2 * q + 2) : (c - 1) / 2 = q := by omega
theorem kids {j q : Nat} (h : 0 < j) (e : (j - 1) / 2 = q) : j = 2 * q + 1 ∨ j = 2 * q + 2 := by omega
theorem par_ne {j : Nat} (h : 0 < j) : (j - 1) / 2 ≠ j := Nat.ne_of_lt (par_lt h)
local macro_rules | `(tactic| k_ne) => `(tactic| first | with_reducible exact par_lt (by assumption) | with_reducible exact par_len (by assumption) | with_reducible exact par_c (by assumption) | with_reducible exact kids (by assumption) (by assumption) | with_reducible exact par_c (Or.inl rfl) | with_reducible exact par_c (Or.inr rfl) | with_reducible exact Nat.le_refl _ | with_reducible assumption | omega)
structure LeOn (V : Value → Prop) (lt : Value → Value → Bool) : Prop where
  trans : ∀ a b c, V a → V b → V c → lt b a = false → lt c b = false → lt c a = false
  tot : ∀ a b, V a → V b → lt a b = true → lt b a = false
theorem LeOn.refl {V : Value → Prop} {lt : Value → Value → Bool} (O : LeOn V lt) {a : Value} (h : V a) : lt a a = false := by
  cases e : lt a a with
  | false => rfl
  | true => have := O.tot a a h h e; rw [e] at this; cases this
def AllV (V : Value → Prop) (xs : List Value) : Prop := ∀ i, i < xs.length → V (xs.getD i .none)
theorem getD_set (xs : List Value) (i j : Nat) (v : Value) (hi : i < xs.length) : (xs.set i v).getD j .none = if j = i then v else xs.getD j .none := by
  simp only [List.getD_eq_getElem?_getD, List.getElem?_set]
  by_cases h : i = j
  · subst h; simp [hi]
  · have h' : ¬ j = i := fun e => h e.symm
    simp [h, h']
theorem AllV.set {V : Value → Prop} {xs : List Value} (h : AllV V xs) {i : Nat} {v : Value} (hv : V v) (hi : i < xs.length) : AllV V (xs.set i v) := fun j hj => by
  rw [getD_set xs i j v hi]
  split
  · exact hv
  · exact h j (by simpa using hj)
theorem AllV.of_mem {V : Value → Prop} {xs : List Value} (h : ∀ v ∈ xs, V v) : AllV V xs := fun i hi => by
  have e : xs.getD i .none = xs[i] := by simp [List.getD, hi]
  rw [e]; exact h _ (List.getElem_mem hi)
def Hp (lt : Value → Value → Bool) (s : Nat) (xs : List Value) : Prop := ∀ j, 0 < j → j < xs.length → s ≤ (j - 1) / 2 → lt (xs.getD j .none) (xs.getD ((j - 1) / 2) .none) = false
inductive Desc (s : Nat) : Nat → Prop
  | refl : Desc s s
  | left {p : Nat} : Desc s p → Desc s (2 * p + 1)
  | right {p : Nat} : Desc s p → Desc s (2 * p + 2)
theorem Desc.ge {s p : Nat} (h : Desc s p) : s ≤ p := by
  induction h with
  | refl => exact Nat.le_refl _
  | left _ ih => omega
  | right _ ih => omega
theorem Desc.up {s p : Nat} (h : Desc s p) (hp : s < p) : Desc s ((p - 1) / 2) := by
  cases h with
  | refl => exact absurd hp (Nat.lt_irrefl _)
  | @left q h => rw [show (2 * q + 1 - 1) / 2 = q by k_ne]; exact h
  | @right q h => rw [show (2 * q + 2 - 1) / 2 = q by k_ne]; exact h
section
variable {V : Value → Prop} {lt : Value → Value → Bool} (O : LeOn V lt)
include O
theorem sd_hp {x : Value} (hx : V x) {start : Nat} : ∀ (f : Nat) (xs : List Value) (pos : Nat), pos ≤ f → pos < xs.length → Desc start pos → AllV V xs →
    (∀ j, 0 < j → j < xs.length → start ≤ (j - 1) / 2 → j ≠ pos → (j - 1) / 2 ≠ pos → lt (xs.getD j .none) (xs.getD ((j - 1) / 2) .none) = false) →
    (∀ j, 0 < j → j < xs.length → (j - 1) / 2 = pos → lt (xs.getD j .none) x = false) →
    (∀ j, 0 < j → j < xs.length → (j - 1) / 2 = pos → start < pos → lt (xs.getD j .none) (xs.getD ((pos - 1) / 2) .none) = false) →
    Hp lt start (sdGo lt x start f xs pos)
  | 0, xs, pos, hf, hl, hd, hV, h1, h2, h3 => by
    obtain rfl : pos = 0 := by k_ne
    obtain rfl : start = 0 := by have := hd.ge; omega
    unfold sdGo
    intro j hj hjl hs
    rw [getD_set _ _ _ _ hl, getD_set _ _ _ _ hl, if_neg (Nat.ne_of_gt hj)]
    rw [List.length_set] at hjl
    split
    · rename_i e; exact h2 j hj hjl e
    · rename_i e; exact h1 j hj hjl hs (Nat.ne_of_gt hj) e
  | f + 1, xs, pos, hf, hl, hd, hV, h1, h2, h3 => by
    have stop : (start < pos → lt x (xs.getD ((pos - 1) / 2) .none) = false) → Hp lt start (xs.set pos x) := by
      intro hq j hj hjl hs
      rw [List.length_set] at hjl
      rw [getD_set _ _ _ _ hl, getD_set _ _ _ _ hl]
      by_cases e1 : j = pos
      · subst e1
        rw [if_pos rfl, if_neg (par_ne hj)]
        exact hq (Nat.lt_of_le_of_lt hs (par_lt hj))
      · rw [if_neg e1]
        split
        · rename_i e; exact h2 j hj hjl e
        · rename_i e; exact h1 j hj hjl hs e1 e
    unfold sdGo
    split
    · rename_i hsp
      split
      · rename_i hlt
        have hu := hd.up hsp
        have hps := hu.ge
        have hpos : 0 < pos := Nat.lt_of_le_of_lt (Nat.zero_le _) hsp
        have hpp := par_ne hpos
        have hpl : (pos - 1) / 2 < xs.length := par_len hl
        have hVp := hV _ hpl
        refine sd_hp hx f _ _ (Nat.le_of_lt_succ (Nat.lt_of_lt_of_le (par_lt hpos) hf)) (by rw [List.length_set]; exact hpl) hu (hV.set hVp hl) ?_ ?_ ?_
        · intro j hj hjl hs e1 e2
          rw [List.length_set] at hjl
          rw [getD_set _ _ _ _ hl, getD_set _ _ _ _ hl]
          have e3 : j ≠ pos := fun e => e2 (by rw [e])
          rw [if_neg e3]
          split
          · rename_i e; exact h3 j hj hjl e hsp
          · rename_i e; exact h1 j hj hjl hs e3 e
        · intro j hj hjl e
          rw [List.length_set] at hjl
          rw [getD_set _ _ _ _ hl]
          have hxp : lt (xs.getD ((pos - 1) / 2) .none) x = false := O.tot _ _ hx hVp hlt
          split
          · exact hxp
          · rename_i e3
            have := h1 j hj hjl (by rw [e]; exact hps) e3 (by rw [e]; exact hpp)
            rw [e] at this
            exact O.trans _ _ _ hx hVp (hV _ hjl) hxp this
        · intro j hj hjl e hsp2
          rw [List.length_set] at hjl
          rw [getD_set _ _ _ _ hl, getD_set _ _ _ _ hl]
          have hup := (hu.up hsp2).ge
          have hp2 : 0 < (pos - 1) / 2 := Nat.lt_of_le_of_lt (Nat.zero_le _) hsp2
          have hpq : ((pos - 1) / 2 - 1) / 2 ≠ pos := Nat.ne_of_lt (Nat.lt_trans (par_lt hp2) (par_lt hpos))
          have hg := h1 ((pos - 1) / 2) hp2 hpl hup hpp hpq
          rw [if_neg hpq]
          split
          · exact hg
          · rename_i e3
            have := h1 j hj hjl (by rw [e]; exact Nat.le_of_lt hsp2) e3 (by rw [e]; exact hpp)
            rw [e] at this
            exact O.trans _ _ _ (hV _ (par_len hpl)) hVp (hV _ hjl) hg this
      · rename_i hlt
        exact stop fun _ => by simpa using hlt
    · rename_i hsp
      exact stop fun h => absurd h hsp
theorem su_hp {start : Nat} : ∀ (f : Nat) (xs : List Value) (pos : Nat), xs.length ≤ f + pos → pos < xs.length → Desc start pos → AllV V xs → (pos = start → Hp lt (start + 1) xs) → (pos ≠ start → Hp lt start xs) →
    (suGo lt f xs pos).2 < xs.length ∧ (suGo lt f xs pos).1.length = xs.length ∧ Desc start (suGo lt f xs pos).2 ∧ AllV V (suGo lt f xs pos).1 ∧ xs.length ≤ 2 * (suGo lt f xs pos).2 + 1 ∧
      ((suGo lt f xs pos).2 = start → Hp lt (start + 1) (suGo lt f xs pos).1) ∧ ((suGo lt f xs pos).2 ≠ start → Hp lt start (suGo lt f xs pos).1)
  | 0, xs, pos, hf, hl, hd, hV, h1, h2 => absurd hl (by k_ne)
  | f + 1, xs, pos, hf, hl, hd, hV, h1, h2 => by
    unfold suGo
    split
    · rename_i hc
      have main : ∀ c, c < xs.length → (c = 2 * pos + 1 ∨ c = 2 * pos + 2) → (∀ j, 0 < j → j < xs.length → (j - 1) / 2 = pos → lt (xs.getD j .none) (xs.getD c .none) = false) →
          (let r := suGo lt f (xs.set pos (xs.getD c .none)) c; r.2 < xs.length ∧ r.1.length = xs.length ∧ Desc start r.2 ∧ AllV V r.1 ∧ xs.length ≤ 2 * r.2 + 1 ∧ (r.2 = start → Hp lt (start + 1) r.1) ∧ (r.2 ≠ start → Hp lt start r.1)) := by
        intro c hcl hcc hmin
        have hdc : Desc start c := by rcases hcc with rfl | rfl; exact .left hd; exact .right hd
        have hge := hd.ge
        have hcp : (c - 1) / 2 = pos := par_c hcc
        have hpc : pos + 1 ≤ c := by rcases hcc with rfl | rfl <;> omega
        have hH : Hp lt start (xs.set pos (xs.getD c .none)) := by
          intro j hj hjl hs
          rw [List.length_set] at hjl
          rw [getD_set _ _ _ _ hl, getD_set _ _ _ _ hl]
          by_cases e1 : j = pos
          · subst e1
            rw [if_pos rfl, if_neg (par_ne hj)]
            have hne : j ≠ start := Nat.ne_of_gt (Nat.lt_of_le_of_lt hs (par_lt hj))
            have g1 := h2 hne c (Nat.lt_of_lt_of_le (Nat.succ_pos _) hpc) hcl (by rw [hcp]; exact hge)
            rw [hcp] at g1
            have g2 := h2 hne j hj hjl hs
            exact O.trans _ _ _ (hV _ (par_len hjl)) (hV _ hjl) (hV _ hcl) g2 g1
          · rw [if_neg e1]
            split
            · rename_i e; exact hmin j hj hjl e
            · rename_i e
              by_cases hps : pos = start
              · exact h1 hps j hj hjl (Nat.lt_of_le_of_ne hs fun q => e (q.symm.trans hps.symm))
              · exact h2 hps j hj hjl hs
        have ih := su_hp f (xs.set pos (xs.getD c .none)) c (by rw [List.length_set]; rw [Nat.add_assoc, Nat.add_comm 1 pos] at hf; exact Nat.le_trans hf (Nat.add_le_add_left hpc _)) (by rw [List.length_set]; exact hcl) hdc (hV.set (hV _ hcl) hl) (fun e => absurd e (Nat.ne_of_gt (Nat.lt_of_le_of_lt hge hpc))) (fun _ => hH)
        rw [List.length_set] at ih
        exact ih
      split
      · rename_i hq
        obtain ⟨q1, q2⟩ := hq
        refine main _ q1 (Or.inr rfl) fun j hj hjl e => ?_
        have : j = 2 * pos + 1 ∨ j = 2 * pos + 2 := by k_ne
        rcases this with rfl | rfl
        · exact q2
        · exact O.refl (hV _ hjl)
      · rename_i hq
        refine main _ hc (Or.inl rfl) fun j hj hjl e => ?_
        have : j = 2 * pos + 1 ∨ j = 2 * pos + 2 := by k_ne
        rcases this with rfl | rfl
        · exact O.refl (hV _ hjl)
        · have hlt : lt (xs.getD (2 * pos + 1) .none) (xs.getD (2 * pos + 2) .none) = true := by
            cases e2 : lt (xs.getD (2 * pos + 1) .none) (xs.getD (2 * pos + 2) .none) with
            | true => rfl
            | false => exact absurd ⟨hjl, e2⟩ hq
          exact O.tot _ _ (hV _ hc) (hV _ hjl) hlt
    · exact ⟨hl, rfl, hd, hV, by k_ne, h1, h2⟩
theorem suF_hp {xs : List Value} {pos : Nat} (hl : pos < xs.length) (hV : AllV V xs) (h : Hp lt (pos + 1) xs) : Hp lt pos (suF lt xs pos) := by
  unfold suF
  obtain ⟨a, b, d, e, g, i1, i2⟩ := su_hp O (start := pos) xs.length xs pos (by k_ne) hl .refl hV (fun _ => h) (fun q => absurd rfl q)
  generalize suGo lt xs.length xs pos = r at a b d e g i1 i2
  obtain ⟨ys, q⟩ := r
  dsimp only at a b d e g i1 i2 ⊢
  have hge := d.ge
  have hq : q < ys.length := by k_ne
  refine sd_hp O (hV _ hl) q _ q (Nat.le_refl _) (by rw [List.length_set]; exact hq) d (e.set (hV _ hl) hq) ?_ ?_ ?_
  · intro j hj hjl hs e1 e2
    rw [List.length_set] at hjl
    rw [getD_set _ _ _ _ hq, getD_set _ _ _ _ hq, if_neg e1, if_neg e2]
    by_cases hqs : q = pos
    · exact i1 hqs j hj hjl (by k_ne)
    · exact i2 hqs j hj hjl hs
  · intro j hj hjl e1
    rw [List.length_set] at hjl
    omega
  · intro j hj hjl e1
    rw [List.length_set] at hjl
    omega
theorem hf_hp : ∀ (m : Nat) (xs : List Value), m ≤ xs.length → AllV V xs → Hp lt m xs → Hp lt 0 (hfGo lt m xs)
  | 0, xs, hm, hV, h => h
  | m + 1, xs, hm, hV, h => by
    unfold hfGo
    have p := suF_perm (lt := lt) (show m < xs.length by k_ne)
    refine hf_hp m _ (by rw [p.length_eq]; omega) ?_ (suF_hp O (by k_ne) hV h)
    refine AllV.of_mem fun v hv => ?_
    have := p.mem_iff.mp hv
    obtain ⟨i, hi, rfl⟩ := List.getElem_of_mem this
    have := hV i hi
    have e : xs.getD i .none = xs[i] := by simp [List.getD, hi]
    rwa [e] at this
theorem heap_min {xs : List Value} (hV : AllV V xs) (h : Hp lt 0 xs) : ∀ j, j < xs.length → lt (xs.getD j .none) (xs.getD 0 .none) = false := by
  intro j
  induction j using Nat.strongRecOn with
  | ind j ih =>
    intro hj
    by_cases h0 : j = 0
    · subst h0; exact O.refl (hV _ hj)
    · have := h j (Nat.pos_of_ne_zero h0) hj (Nat.zero_le _)
      exact O.trans _ _ _ (hV _ (Nat.lt_of_le_of_lt (Nat.zero_le _) hj)) (hV _ (par_len hj)) (hV _ hj) (ih ((j - 1) / 2) (par_lt (Nat.pos_of_ne_zero h0)) (par_len hj)) this
theorem pop1_hp {zs : List Value} (hne : zs ≠ []) (hV : ∀ v ∈ zs, V v) (h : Hp lt 0 zs) : ((pop1 lt zs).1 :: (pop1 lt zs).2).Perm zs ∧ Hp lt 0 (pop1 lt zs).2 ∧ ∀ b ∈ zs, lt b (pop1 lt zs).1 = false := by
  have hA := AllV.of_mem hV
  have hmin := heap_min O hA h
  obtain ⟨xs, y, rfl⟩ : ∃ xs y, zs = xs ++ [y] := by
    rcases List.eq_nil_or_concat zs with h | ⟨a, b, h⟩
    · exact absurd h hne
    · exact ⟨a, b, by rw [h, List.concat_eq_append]⟩
  have hmem : ∀ b ∈ xs ++ [y], lt b ((xs ++ [y]).getD 0 .none) = false := fun b hb => by
    obtain ⟨i, hi, rfl⟩ := List.getElem_of_mem hb
    have := hmin i hi
    have e : (xs ++ [y]).getD i .none = (xs ++ [y])[i] := by rw [List.getD_eq_getElem?_getD, List.getElem?_eq_getElem hi]; rfl
    rwa [e] at this
  unfold pop1
  rw [List.dropLast_concat]
  have hl : (xs ++ [y]).getLastD .none = y := by simp
  rw [hl]
  cases xs with
  | nil =>
    rw [if_pos rfl]
    exact ⟨List.Perm.refl _, fun j a b => absurd b (by simp), hmem⟩
  | cons a t =>
    rw [if_neg (by simp)]
    have e0 : (a :: t).set 0 y = y :: t := rfl
    have hp := suF_perm (lt := lt) (xs := y :: t) (pos := 0) (by simp)
    have hsub : ∀ v ∈ y :: t, v ∈ a :: t ++ [y] := fun v hv => by
      rcases List.mem_cons.mp hv with rfl | hv
      · simp
      · simp [hv]
    refine ⟨?_, ?_, hmem⟩
    · refine (hp.cons a).trans ?_
      refine List.Perm.cons a ?_
      exact (List.perm_append_comm (l₁ := t) (l₂ := [y])).symm
    · rw [e0]
      refine suF_hp O (by simp) (AllV.of_mem fun v hv => hV v (hsub v hv)) fun j hj hjl hs => ?_
      have hj1 : 0 < (j - 1) / 2 := by k_ne
      have hjl' : j < t.length + 1 := by simpa using hjl
      have hg := h j hj (by simp; omega) (Nat.zero_le _)
      have eq : ∀ i, 0 < i → i < t.length + 1 → (a :: t ++ [y]).getD i .none = (y :: t).getD i .none := fun i h0 hi => by
        obtain ⟨i, rfl⟩ : ∃ k, i = k + 1 := ⟨i - 1, by k_ne⟩
        have hi' : i < t.length := by k_ne
        simp [List.getD, List.getElem?_append_left hi']
      rw [eq j hj hjl', eq _ hj1 (by k_ne)] at hg
      exact hg
theorem popS_hp {zs : List Value} (hV : ∀ v ∈ zs, V v) (h : Hp lt 0 zs) : ∀ n, n ≤ zs.length →
    ((popS lt n zs).1 ++ (popS lt n zs).2).Perm zs ∧ Hp lt 0 (popS lt n zs).2 ∧ (popS lt n zs).1.Pairwise (fun a b => lt b a = false) ∧ (∀ a ∈ (popS lt n zs).1, ∀ b ∈ (popS lt n zs).2, lt b a = false) ∧ (popS lt n zs).2.length + n = zs.length
  | 0, _ => ⟨List.Perm.refl _, h, List.Pairwise.nil, fun a ha => absurd ha (by simp [popS]), rfl⟩
  | n + 1, hn => by
    obtain ⟨p1, p2, p3, p4, p5⟩ := popS_hp hV h n (by k_ne)
    have hS : popS lt (n + 1) zs = ((popS lt n zs).1 ++ [(pop1 lt (popS lt n zs).2).1], (pop1 lt (popS lt n zs).2).2) := rfl
    rw [hS]
    generalize popS lt n zs = P at p1 p2 p3 p4 p5
    obtain ⟨A, B⟩ := P
    dsimp only at p1 p2 p3 p4 p5 ⊢
    have hne : B ≠ [] := by intro e; rw [e] at p5; simp at p5; omega
    have hVB : ∀ v ∈ B, V v := fun v hv => hV v (p1.mem_iff.mp (List.mem_append_right _ hv))
    obtain ⟨q1, q2, q3⟩ := pop1_hp O hne hVB p2
    have hlen := q1.length_eq
    refine ⟨?_, q2, ?_, ?_, ?_⟩
    · rw [List.append_assoc]
      exact (q1.append_left A).trans p1
    · rw [List.pairwise_append]
      refine ⟨p3, List.pairwise_singleton _ _, fun a ha b hb => ?_⟩
      rw [List.mem_singleton] at hb
      subst hb
      exact p4 a ha _ (q1.mem_iff.mp List.mem_cons_self)
    · intro a ha b hb
      have hbB : b ∈ B := q1.mem_iff.mp (List.mem_cons_of_mem _ hb)
      rcases List.mem_append.mp ha with ha | ha
      · exact p4 a ha b hbB
      · rw [List.mem_singleton] at ha
        subst ha
        exact q3 b hbB
    · simp at hlen; omega
theorem popped_sorted {zs : List Value} (hV : ∀ v ∈ zs, V v) : ((popS lt zs.length (hfGo lt (zs.length / 2) zs)).1).Perm zs ∧ ((popS lt zs.length (hfGo lt (zs.length / 2) zs)).1).Pairwise (fun a b => lt b a = false) := by
  have hp := hfGo_perm (lt := lt) (zs.length / 2) (xs := zs) (by k_ne)
  have hh := hf_hp O (zs.length / 2) zs (by k_ne) (AllV.of_mem hV) fun j hj hjl hs => absurd hs (by k_ne)
  generalize hfGo lt (zs.length / 2) zs = H at hp hh
  obtain ⟨p1, p2, p3, p4, p5⟩ := popS_hp O (fun v hv => hV v (hp.mem_iff.mp hv)) hh zs.length (by rw [hp.length_eq]; exact Nat.le_refl _)
  have hlen := hp.length_eq
  have h0 : (popS lt zs.length H).2 = [] := List.length_eq_zero_iff.mp (by k_ne)
  rw [h0, List.append_nil] at p1
  exact ⟨p1.trans hp, p3⟩
end
end
section
set_option maxRecDepth 100000
open PySem PySem.W PyProof.Rows PySem.Calls
def toldD (r : List UInt8) : List PyData := [.bool true, .int (((r.length + 2) / 3 * 4 : Nat) : Int), .str (S (List.replicate ((3 - r.length % 3) % 3) 61))]
end
section
set_option maxRecDepth 100000
open PySem PySem.W PyProof.Rows PySem.Calls
theorem reads_lists {h : Heap} : ∀ (dss : List (List PyData)) (refs : List Value), refs.length = dss.length → (∀ i (hi : i < dss.length), ∃ l vs n, refs[i]? = some (.ref l) ∧ h.get? l = some (listO vs n) ∧ ReadsAll h vs dss[i] []) → ∃ as, ReadsAll h refs (dss.map .list) as
  | [], [], _, _ => ⟨[], .nil⟩
  | d :: ds, [], e, _ => by simp at e
  | [], v :: vs, e, _ => by simp at e
  | d :: ds, v :: vs, e, h1 => by
    obtain ⟨l, ws, n, a, b, c⟩ := h1 0 (by simp)
    obtain rfl : v = .ref l := by simpa using a
    obtain ⟨as, ih⟩ := reads_lists ds vs (by simpa using e) (fun i hi => by
      obtain ⟨l, ws, n, a, b, c⟩ := h1 (i + 1) (by simpa using hi)
      exact ⟨l, ws, n, by simpa using a, b, by simpa using c⟩)
    exact ⟨_, .cons (reads_list_at b rfl rfl (by simpa using c)) ih⟩
structure LO (refs : List Value) (dss : List (List PyData)) (objs : Nw) : Prop where
  len : refs.length = dss.length
  at' : ∀ i (hi : i < dss.length), ∃ l vs n, refs[i]? = some (.ref l) ∧ (l, listO vs n) ∈ objs ∧ ∀ h, ReadsAll h vs dss[i] []
theorem LO.nil : LO [] [] [] := ⟨rfl, fun i hi => absurd hi (by simp)⟩
theorem LO.mono {refs : List Value} {dss : List (List PyData)} {objs objs' : Nw} (h : LO refs dss objs) (hs : ∀ p ∈ objs, p ∈ objs') : LO refs dss objs' := ⟨h.1, fun i hi => by
  obtain ⟨l, vs, n, a, b, c⟩ := h.2 i hi
  exact ⟨l, vs, n, a, hs _ b, c⟩⟩
theorem LO.snoc {refs : List Value} {dss : List (List PyData)} {objs : Nw} (h : LO refs dss objs) {l : Addr} {vs : List Value} {n : Nat} {d : List PyData} (hv : ∀ h, ReadsAll h vs d []) :
    LO (refs ++ [.ref l]) (dss ++ [d]) ((l, listO vs n) :: objs) := by
  refine ⟨by simp [h.1], fun i hi => ?_⟩
  by_cases hlt : i < dss.length
  · obtain ⟨l', vs', n', a, b, c⟩ := h.2 i hlt
    exact ⟨l', vs', n', by rw [List.getElem?_append_left (by rw [h.1]; exact hlt)]; exact a, List.mem_cons_of_mem _ b, by rw [List.getElem_append_left hlt]; exact c⟩
  · obtain rfl : i = dss.length := by simp at hi; omega
    exact ⟨l, vs, n, by rw [show (dss.length = refs.length) from h.1.symm, List.getElem?_append_right (Nat.le_refl _)]; simp, List.mem_cons_self, by simpa using hv⟩
section
variable {C : Cx} {st : St} {lv : Lv} {nw nw' : Nw} {k : Nat}
theorem Ev_neSame {a b : Value} {d : PyData} {Q : Value → St → Prop} (hR : Room 20 C.A) (ha : ∀ s, Own C st s → ∃ as, Reads s.heap a d as) (hb : ∀ s, Own C st s → ∃ as, Reads s.heap b d as) (hd : SeqAt.shaped d = true) (h : Q (.bool false) st) : Ev C (compareOp .NotEq a b) st Q := fun s o => by
  obtain ⟨as, ra⟩ := ha s o
  obtain ⟨bs, rb⟩ := hb s o
  refine ne_dataH ra rb hd hd (by have := hR.un; omega) ⟨st, o, ?_⟩
  rw [SeqAt.eqv_refl d (by simp [SeqAt.shaped] at hd; exact hd.1)]
  exact h
theorem LO.reads {refs : List Value} {dss : List (List PyData)} {objs : Nw} {a : Addr} {n : Nat} (h : LO refs dss objs) (ha : At C st a (listO refs n)) (ho : ∀ p ∈ objs, At C st p.1 p.2) (s : Shared) (o : Own C st s) : ∃ as, Reads s.heap (.ref a) (.list (dss.map .list)) as := by
  obtain ⟨as, r⟩ := reads_lists dss refs h.1 (fun i hi => by
    obtain ⟨l, vs, n, a, b, c⟩ := h.2 i hi
    exact ⟨l, vs, n, a, o.at (ho _ b), c _⟩)
  exact ⟨_, reads_list_at (o.at ha) rfl rfl (by simpa using r)⟩
end
theorem Ev_newListP {C : Cx} {vs : List Value} {lv : Lv} {nw : Nw} {Q : Value → St → Prop} (P : List Value → Prop) (hp : P vs) (hz : vs.length ≤ sizeLine) (h : ∀ a ws, P ws → Q (.ref a) ⟨lv, (a, listO ws 0) :: nw⟩) : Ev C (newList vs) ⟨lv, nw⟩ Q := Ev_newList (fun a => h a vs hp) hz
theorem swaps_cell {C : Cx} {elt : Expr} {gs : List Comprehension} {scope : Scope} {pos py : Pos} {y : Str} {line : Nat} (hl : C.env.kindOf y = some .cell) : swapsWith (.ListComp elt gs scope pos) (some (.Name y py)) line C.env = pure false := by
  show (pure (C.env.blockKind == .function && C.env.kindOf y == some .local && py.line == (Expr.ListComp elt gs scope pos).pos.line && !(scope.names.any fun (n, k) => n == y && (k == .local || k == .cell))) : Sem Bool) = _
  rw [hl, show (some NameKind.cell == some NameKind.local) = false from rfl, Bool.and_false, Bool.false_and, Bool.false_and]
theorem Ev_AssignCell {C : Cx} {st : St} {elt : Expr} {gs : List Comprehension} {scope : Scope} {pos py sp : Pos} {x : Str} {Q : Flow → St → Prop} (hl : C.env.kindOf x = some .cell)
    (h : Ev C (eval (.ListComp elt gs scope pos) C.env) st (fun v st1 => Ev C (storeName C.env x v) st1 (fun _ st2 => Q .next st2))) : Ev C (exec (.Assign [.Name x py] (.ListComp elt gs scope pos) sp) C.env) st Q := Ev_Assign h (swaps_cell hl)
theorem swaps_local {C : Cx} {elt : Expr} {gs : List Comprehension} {scope : Scope} {pos py : Pos} {y : Str} {line : Nat} (hk : C.env.scope.kind = .function) (hl : C.env.kindOf y = some .local) (hp : (py.line == pos.line) = true)
    (hn : (scope.names.any fun (n, k) => n == y && (k == .local || k == .cell)) = false) : swapsWith (.ListComp elt gs scope pos) (some (.Name y py)) line C.env = pure true := by
  show (pure (C.env.blockKind == .function && C.env.kindOf y == some .local && py.line == pos.line && !(scope.names.any fun (n, k) => n == y && (k == .local || k == .cell))) : Sem Bool) = _
  have hb : C.env.blockKind = .function := by unfold Env.blockKind; rw [hk]; rfl
  rw [hl, hb, hp, hn]; rfl
theorem isAssC {C : Cx} {st : St} {elt : Expr} {gs : List Comprehension} {scope : Scope} {pos py sp : Pos} {x : Str} {Q : Flow → St → Prop} (h : Ev C (exec (.Assign [.Name x py] (.ListComp elt gs scope pos) sp) C.env) st Q) : Ev C (exec (.Assign [.Name x py] (.ListComp elt gs scope pos) sp) C.env) st Q := h
theorem Take.left : ∀ l r : Nw, Take l (l ++ r) r
  | [], r => .nil
  | p :: l, r => .cons .head (Take.left l r)
theorem Ev_execsEq {C : Cx} {st : St} {l l' : List Stmt} {Q : Flow → St → Prop} (e : l = l') (h : Ev C (execs l' C.env) st Q) : Ev C (execs l C.env) st Q := by rw [e]; exact h
noncomputable def lawFd (P : Params) : FuncData := match (KF P).lookup 178 with
  | some ⟨_, _, .func fd, _⟩ => fd
  | _ => default
noncomputable def lawRest (n : Nat) (P : Params) : List Stmt := match (lawFd P).body with
  | .stmts b => b.drop n
  | _ => []
theorem Ev_lawRest {C : Cx} {st : St} {n : Nat} {P : Params} {Q : Flow → St → Prop} {name qual : Str} {params : Arguments} {body : List Stmt} {scope : Scope} {dV kV doc pm cdv ct oc : Value} {an od : Option Addr} {osl : Array (Option Value)}
    (ho : (KF P).lookup 178 = some ⟨oc, od, .func (fnOf name qual params body scope dV kV doc pm an cdv ct), osl⟩) (h : Ev C (execs (body.drop n) C.env) st Q) : Ev C (execs (lawRest n P) C.env) st Q := by
  have : lawRest n P = body.drop n := by unfold lawRest lawFd; rw [ho]
  rw [this]; exact h
end
section
set_option maxRecDepth 100000
open PySem PySem.W PyProof.Rows PySem.Calls PySem.SeqAt PySem.MeetsSeq
theorem slot_bytes_lt : Slot "bytes" (cmpInfo .Lt).2.1 "bytes.__lt__" :=
  .of (owner := "bytes") (n := "__lt__") (by rw [typeLookup_type, builtinLookup_eq_fast]; kernel_rfl) (by decide +kernel) (by decide +kernel) (by decide +kernel)
    (by first | exact .inl (by decide +kernel) | exact .inr (by decide +kernel)) (by rw [isSubtype_type]; kernel_rfl)
theorem entry_bytes_lt : entryFor table "bytes.__lt__" = some Builtin.«bytes.__lt__» := entryFor_of_tree (by kernel_rfl)
theorem args_bytes_lt_2 (a b : Value) : argsOk "bytes.__lt__" ⟨[a, b], []⟩ := by
  unfold argsOk; rw [signature?_of (id := "bytes.__lt__") (n := ['_', '_', 't', 'l', '_', '_']) (o := ['s', 'e', 't', 'y', 'b']) (by kernel_rfl) FB.owner_bytes]; kernel_rfl
theorem order_lt : ∀ a b : List UInt8, (Builtin.Bytes.order a b == .lt) = lexL (intsB a) (intsB b)
  | [], [] => rfl
  | [], _ :: _ => rfl
  | _ :: _, [] => rfl
  | x :: a, y :: b => by
    show _ = lexL ((x.toNat : Int) :: intsB a) ((y.toNat : Int) :: intsB b)
    simp only [Builtin.Bytes.order]
    rw [lexL]
    by_cases h1 : x < y
    · have h1' : x.toNat < y.toNat := UInt8.lt_iff_toNat_lt.mp h1
      rw [if_pos h1, if_neg (by omega), decide_eq_true (by omega)]; rfl
    · have h1' : ¬ x.toNat < y.toNat := fun h => h1 (UInt8.lt_iff_toNat_lt.mpr h)
      rw [if_neg h1]
      by_cases h2 : x > y
      · have h2' : y.toNat < x.toNat := UInt8.lt_iff_toNat_lt.mp h2
        rw [if_pos h2, if_neg (by omega), decide_eq_false (by omega)]; rfl
      · have h2' : ¬ y.toNat < x.toNat := fun h => h2 (UInt8.lt_iff_toNat_lt.mpr h)
        rw [if_neg h2, if_pos (by omega)]
        exact order_lt a b
theorem gives_bytes_lt (b c : List UInt8) (t u : Tok) : Gives (Builtin.«bytes.__lt__» ⟨[.bytes b.toArray t, .bytes c.toArray u], []⟩) (.val (.bool (lexL (intsB b) (intsB c)))) := by
  refine .of_wp fun M A E s Q hq => ?_
  show wpAny M A (isInstance (.bytes c.toArray u) (.type "bytes") >>= fun r => _) _ E s
  refine wpAny_bind (wpAny_isInstance (typeIs_bytes s _ u) F.sub_bytes_bytes ?_)
  exact wpAny_pure ⟨_, rfl, by rw [← order_lt] at hq; exact hq⟩
theorem ltAt_bytes {A : Around} {s : Shared} {b c : List UInt8} {t u : Tok} : LtAt A s (.bytes b.toArray t) (.bytes c.toArray u) (lexL (intsB b) (intsB c)) := fun prog w E Q hq =>
  richCompare_gives (op := .Lt) (T := "bytes") rfl rfl slot_bytes_lt entry_bytes_lt (args_bytes_lt_2 _ _) (gives_bytes_lt b c t u) (fun x => nomatch x) hq
theorem eqAt_bytes {A : Around} {s : Shared} {b c : List UInt8} {t u : Tok} : EqAt A s (.bytes b.toArray t) (.bytes c.toArray u) (decide (b = c)) := fun prog w E Q hq => eqBool_bytes (by simpa using hq)
def KeysIn (hb : Heap) (refs : List Value) (RR : List (List UInt8)) : Prop := refs.length = RR.length ∧ ∀ i (h : i < RR.length), ∃ l t u n, refs[i]? = some (.ref l) ∧ hb.get? l = some (listO [.bytes (RR[i]).toArray t, .int (i : Nat) u] n)
theorem key_cmp {prog : Program} {w : World} {A : Around} {E : Value → Shared → Prop} {Q : Bool → Shared → Prop} {s : Shared} {refs : List Value} {RR : List (List UInt8)} (h : KeysIn s.heap refs RR) (hu : A.units + 4 < cLine) {i j : Nat} (hi : i < RR.length) (hj : j < RR.length)
    (hq : Q (pairLt (RR.map intsB) i j) s) : wpAny (model prog w) A (keyLt' oneType' (refs.getD i Value.none) (refs.getD j Value.none)) Q E s := by
  obtain ⟨l, t, u, n, a, b⟩ := h.2 i hi
  obtain ⟨l', t', u', n', a', b'⟩ := h.2 j hj
  have e1 : refs.getD i Value.none = .ref l := by rw [List.getD_eq_getElem?_getD, a]; rfl
  have e2 : refs.getD j Value.none = .ref l' := by rw [List.getD_eq_getElem?_getD, a']; rfl
  rw [e1, e2, keyLt'_oneType, oneLt'_eq]
  simp only [if_true]
  refine wpAny_bind (wpAny_cRoomFor (by omega) ?_)
  refine wpAny_bind (wpAny_callSpecialIfBound?_slot ⟨_, b, rfl⟩ F.slot_list_lt ?_)
  refine list_ltCall (e := fun m => if m = 0 then decide (RR[i] = RR[j]) else ((i : Int) == (j : Int))) (lt := fun m => if m = 0 then lexL (intsB RR[i]) (intsB RR[j]) else decide ((i : Int) < (j : Int))) b b' ?_ ?_ ?_
  · intro m h1 h2
    have : m = 0 ∨ m = 1 := by simp at h1; omega
    rcases this with rfl | rfl
    · exact eqAt_bytes
    · exact EqAt.int_int (i : Int) u (j : Int) u'
  · intro m h1 h2
    have : m = 0 ∨ m = 1 := by simp at h1; omega
    rcases this with rfl | rfl
    · exact ltAt_bytes
    · exact ltAt_int (a := (i : Int)) (b := (j : Int))
  · have ev : ltGo (fun m => if m = 0 then decide (RR[i] = RR[j]) else ((i : Int) == (j : Int))) (fun m => if m = 0 then lexL (intsB RR[i]) (intsB RR[j]) else decide ((i : Int) < (j : Int))) 2 2 2 0 = pairLt (RR.map intsB) i j := by
      have gi : (RR.map intsB).getD i [] = intsB RR[i] := by simp [List.getD, hi]
      have gj : (RR.map intsB).getD j [] = intsB RR[j] := by simp [List.getD, hj]
      unfold pairLt
      rw [gi, gj]
      have e2 : intsB RR[i] = intsB RR[j] ↔ RR[i] = RR[j] := by
        constructor
        · intro h
          refine (List.map_inj_right (f := fun s : UInt8 => (s.toNat : Int)) fun x y e => ?_).mp h
          exact UInt8.toNat_inj.mp (by exact_mod_cast e)
        · intro h; rw [h]
      by_cases q : RR[i] = RR[j]
      · rw [if_pos (e2.mpr q)]
        by_cases q2 : i = j
        · subst q2; simp [ltGo]
        · have q3 : ¬ (i : Int) = (j : Int) := by omega
          simp [ltGo, q, q2, q3]
      · rw [if_neg fun h => q (e2.mp h)]
        simp [ltGo, q]
    show wpAny _ _ (truthOfDropped (.bool (ltGo _ _ 2 2 2 0))) _ _ _
    rw [ev]
    exact wpAny_truthy_bool hq
section
variable {C : Cx} {st : St} {lv : Lv} {nw nw' : Nw} {k : Nat}
theorem Ev_sorted {l : Addr} {vs : List Value} {n : Nat} {RR : List (List UInt8)} {Q : Value → St → Prop} (hR : Room k C.A) (hk : 1 ≤ k) (hl : At C ⟨lv, nw⟩ l (listO vs n)) (h2 : 2 ≤ RR.length) (h64 : RR.length < 64)
    (hks : ∀ h, Fr C.hb C.env.locals h (lvm lv) → News C.hb C.env.locals h nw → KeysIn h vs RR)
    (h : ∀ D c (p : Array Nat), PmA RR.length p → AscP (pairLt (RR.map intsB)) p RR.length → Q (.ref D) ⟨lv, (D, listO (p.toList.map fun i => vs.getD i Value.none) c) :: nw⟩) : Ev C (call (.builtin "sorted") [.ref l]) ⟨lv, nw⟩ Q := fun s o => by
  have K0 := hks _ o.F o.N
  have hlen := K0.1
  refine kas_sorted (T := .type "list") o.F o.N (o.list hl) (by omega) (by omega) ?_ (by decide +kernel) ?_
  · intro h' F' N' v hv A Q' E' s' kp hq
    have K1 := hks h' F' N'
    obtain ⟨i, hi, e⟩ := List.getElem_of_mem hv
    obtain ⟨l', t, u, m, a, b⟩ := K1.2 i (by omega)
    have ev : v = .ref l' := by rw [← e]; rw [List.getElem?_eq_getElem hi] at a; exact Option.some.inj a
    subst ev
    exact wpAny_typeOf (T := "list") ⟨_, kp _ _ b, rfl⟩ hq
  · intro D e1 h' F' N' hD
    have N0 : News C.hb C.env.locals h' nw := fun p hp => N' p (.tail _ hp)
    have K1 := hks h' F' N0
    rw [hlen]
    refine KOk.run (I := fun s' => s' = { s with heap := h' }) (n := RR.length) (c := pairLt (RR.map intsB)) ?_ ?_ (sort_ok (pairLt_strict (RR.map intsB) RR.length) (by omega)) rfl
    · rintro i j hi hj K s' rfl hK
      unfold kas_ask
      refine key_cmp (s := { s with heap := h' }) K1 (by have := hR.un; show C.A.units + 1 + 1 + 4 < _; omega) hi hj (hK _ rfl)
    · rintro p s' ⟨hp1, hp2⟩ rfl
      refine KasFin.intro F' N' (.head fun q hq => Nat.ne_of_lt (hD q hq)) fun h'' c F'' N'' => ?_
      refine ⟨_, o.ofNew F'' N'' hD s.toks, ?_⟩
      exact h D c p hp1 hp2
end
end
section
set_option maxRecDepth 100000
open PySem PySem.W PyProof.Rows PySem.Calls
section
variable {C : Cx} {st : St} {lv : Lv} {nw nw' : Nw} {k : Nat}
theorem At.weak {p : Addr × Obj} {a : Addr} {o : Obj} (h : At C ⟨lv, nw⟩ a o) : At C ⟨lv, p :: nw⟩ a o := h.imp (fun h => List.mem_cons_of_mem _ h) id
theorem Ev_unpackL {l : Addr} {x y : Value} {n : Nat} {Q : List Value → St → Prop} (hR : Room k C.A) (hl : At C ⟨lv, nw⟩ l (listO [x, y] n)) (h : Q [x, y] ⟨lv, nw⟩) : Ev C (unpackItems (.ref l) 2 none) ⟨lv, nw⟩ Q := by
  unfold unpackItems
  have h1 : Ev C (notIterableAtAll (.ref l)) ⟨lv, nw⟩ (fun b st' => b = false ∧ st' = ⟨lv, nw⟩) := fun s o => by
    unfold notIterableAtAll
    refine wpAny_bind (wpAny_specialOf (o.list hl).typeIs slot_list_iter.lookup ?_)
    exact wpAny_pure ⟨_, o, rfl, rfl⟩
  refine Ev_bindM h1 fun b st' hb => ?_
  obtain ⟨rfl, rfl⟩ := hb
  refine Ev_bind (Ev_holding (Ev_iterL hl fun it o ho => ?_))
  dsimp only
  refine Ev_bind (Ev_holding ?_)
  show Ev C (draw (.ref it) 2) _ _
  unfold draw
  refine Ev_bind (Ev_nextL (g := fun o => (it, o) :: nw) ho (fun _ => .head) hl.weak (v := x) rfl fun o1 h1 => ?_)
  refine Ev_bind (Ev_holding ?_)
  unfold draw
  refine Ev_bind (Ev_nextL (g := fun o => (it, o) :: nw) h1 (fun _ => .head) hl.weak (v := y) rfl fun o2 h2 => ?_)
  refine Ev_bind (Ev_holding ?_)
  unfold draw
  refine Ev_pure (Ev_pure (Ev_pure ?_))
  show Ev C (do let r ← holding [x, y] (pyNext (.ref it)); _) _ _
  refine Ev_bind (Ev_holding (Ev_endL hR h2 .head .head hl.weak rfl ?_))
  exact Ev_pure h
theorem Ev_assignL2 {a b : Expr} {tk : Nat} {p : Pos} {l : Addr} {x y : Value} {n : Nat} {Q : Unit → St → Prop} (hR : Room k C.A) (hl : At C ⟨lv, nw⟩ l (listO [x, y] n)) (hn : (assignEach [a, b] C.env).length = 2) (hst : (assignEach [a, b] C.env).findIdx? (·.1) = none)
    (h : Ev C (assignInOrder ((assignEach [a, b] C.env).map (·.2)) [x, y]) ⟨lv, nw⟩ Q) : Ev C (assign (.Tuple [a, b] tk p) C.env (.ref l)) ⟨lv, nw⟩ Q := by
  rw [assign_Tuple]
  refine Ev_bind (Ev_standAt ?_)
  unfold unpack
  rw [hn, hst]
  exact Ev_bind (Ev_holding (Ev_unpackL hR hl h))
theorem Ev_letOwned {tg : Expr} {it : Addr} {o : Obj} {l : Addr} {i : Nat} {v : Value} {Q : Unit → St → Prop} (hi : HasN it o nw) (ho : ItL o l i) (h : Q () ⟨lv, nw⟩) : Ev C (letOwnedTupleGo tg (.ref it) v) ⟨lv, nw⟩ Q := by
  have main : Ev C (do
      let (.ref r, .ref a) := ((.ref it : Value), v) | pure ()
      let o ← load r
      match o.cls, o.data with
      | .type n, .fields vs =>
        if ["enumerate", "zip", "dict_itemiterator", "dict_reverseitemiterator", "odict_iterator", "itertools.zip_longest", "itertools.pairwise"].contains n && vs[0]? == some (rawInt a) then do
          rule "for.unpacks-the-owned-tuple"
          updateField r 0 .none
        else pure ()
      | _, _ => pure ()) ⟨lv, nw⟩ Q := by
    cases v with
    | ref a =>
      refine Ev_bind (Ev_load (At.own hi) ?_)
      obtain ⟨c, d⟩ := ho
      rw [c, d]
      exact Ev_pure h
    | _ => exact Ev_pure h
  unfold letOwnedTupleGo
  split
  · exact main
  · exact main
  · exact Ev_pure h
theorem CompL.turn1T {elt tg iter : Expr} {scope : Scope} {pos : Pos} {it acc : Value} {Q : St → Prop}
    (h : Ev C (pyNext it) st (drawK Q (fun v st1 => Ev C (letOwnedTupleGo tg it v) st1 (fun _ st1' => Ev C (assign tg C.env v) st1' (fun _ st2 => Ev C (eval elt C.env) st2 (fun x st3 => Ev C (call (.builtin "list.append") [acc, x]) st3 (fun _ st4 => CompL C (.ListComp elt [⟨tg, iter, [], 0⟩] scope pos) 0 it acc st4 Q))))))) :
    CompL C (.ListComp elt [⟨tg, iter, [], 0⟩] scope pos) 0 it acc st Q := fun s ow => by
  refine codeAny_of_tree ?_
  show wpAny _ C.A ((compTurn (.ListComp elt [⟨tg, iter, [], 0⟩] scope pos) 0 it acc C.env).onRaise (fun x => do noteFrame x C.env; theTreesLotGoes x)) _ _ s
  refine wpAny_noted ?_
  rw [compTurn_list1]
  refine wpAny_bind (wpAny_standAt (wpAny_bind (wpAny_mono (h s ow) (fun r s1 h1 => ?_) fun _ _ f => f.elim)))
  obtain ⟨st1, o1, h1⟩ := h1
  cases r with
  | none => exact wpAny_pure ⟨st1, rfl, o1, h1⟩
  | some v =>
    refine wpAny_bind (wpAny_mono (h1 s1 o1) (fun _ s1' h1' => ?_) fun _ _ f => f.elim)
    obtain ⟨st1', o1', h1'⟩ := h1'
    refine wpAny_bind (wpAny_mono (h1' s1' o1') (fun _ s2 h2 => ?_) fun _ _ f => f.elim)
    obtain ⟨st2, o2, h2⟩ := h2
    refine wpAny_bind (wpAny_bind (wpAny_mono (h2 s2 o2) (fun x s3 h3 => ?_) fun _ _ f => f.elim))
    obtain ⟨st3, o3, h3⟩ := h3
    refine wpAny_bind (wpAny_mono (h3 s3 o3) (fun _ s4 h4 => ?_) fun _ _ f => f.elim)
    obtain ⟨st4, o4, h4⟩ := h4
    exact wpAny_pure (wpAny_pure ⟨rfl, h4 s4 o4⟩)
theorem CompL.ind1T {elt tg iter : Expr} {scope : Scope} {pos : Pos} {it acc : Value} {Q : St → Prop} (I : Nat → St → Prop)
    (turn : ∀ n st, I n st → Ev C (pyNext it) st (drawK Q (fun v st1 => Ev C (letOwnedTupleGo tg it v) st1 (fun _ st1' => Ev C (assign tg C.env v) st1' (fun _ st2 => Ev C (eval elt C.env) st2 (fun x st3 => Ev C (call (.builtin "list.append") [acc, x]) st3 (fun _ st4 => ∃ m, m < n ∧ I m st4)))))))
    (n : Nat) (h : I n st) : CompL C (.ListComp elt [⟨tg, iter, [], 0⟩] scope pos) 0 it acc st Q := by
  induction n using Nat.strongRecOn generalizing st with
  | ind n ih =>
    refine CompL.turn1T (Ev_mono (turn n st h) fun r st1 h1 => ?_)
    cases r with
    | none => exact h1
    | some v => exact Ev_mono h1 fun _ st1' h1' => Ev_mono h1' fun _ st2 h2 => Ev_mono h2 fun x st3 h3 => Ev_mono h3 fun _ st4 h4 => by obtain ⟨m, hm, hi⟩ := h4; exact ih m hm hi
theorem CompL.ind1To {elt tg iter : Expr} {scope : Scope} {pos : Pos} {it acc : Value} {Q : St → Prop} (I₀ : Nat → St → Prop)
    (turn : ∀ (I : Nat → St → Prop), (∀ n st, I₀ n st → I n st) → ∀ Q' : St → Prop, (∀ st, Q st → Q' st) → ∀ n st, I₀ n st → Ev C (pyNext it) st (drawK Q' (fun v st1 => Ev C (letOwnedTupleGo tg it v) st1 (fun _ st1' => Ev C (assign tg C.env v) st1' (fun _ st2 => Ev C (eval elt C.env) st2 (fun x st3 => Ev C (call (.builtin "list.append") [acc, x]) st3 (fun _ st4 => ∃ m, m < n ∧ I m st4)))))))
    (n : Nat) (h : I₀ n st) : CompL C (.ListComp elt [⟨tg, iter, [], 0⟩] scope pos) 0 it acc st Q :=
  CompL.ind1T I₀ (turn I₀ (fun _ _ h => h) Q fun _ h => h) n h
end
theorem popped_order {refs : List Value} {idx idx2 : List (List Int)} {n : Nat} (hl : refs.length = n) (hnd : refs.Nodup) (hcmp : ∀ i j, i < n → j < n → pairLt idx i j = pairLt idx2 i j) {p : Array Nat} (hp : PmA n p) (ha : AscP (pairLt idx2) p n) :
    (popS (fun u v => pairLt idx (refs.idxOf u) (refs.idxOf v)) refs.length (hfGo (fun u v => pairLt idx (refs.idxOf u) (refs.idxOf v)) (refs.length / 2) refs)).1 = p.toList.map fun i => refs.getD i .none := by
  have hS := pairLt_strict idx n
  have hix : ∀ v ∈ refs, refs.idxOf v < n := fun v hv => hl ▸ List.idxOf_lt_length_of_mem hv
  have hget : ∀ v ∈ refs, refs.getD (refs.idxOf v) .none = v := fun v hv => by
    have := List.idxOf_lt_length_of_mem hv
    rw [List.getD_eq_getElem?_getD, List.getElem?_eq_getElem this, List.getElem_idxOf this]; rfl
  have hidx : ∀ i, i < n → refs.idxOf (refs.getD i .none) = i := fun i hi => by
    have h1 : i < refs.length := by omega
    have e : refs.getD i .none = refs[i] := by simp [List.getD, h1]
    rw [e]
    exact hnd.idxOf_getElem i h1
  have hO : LeOn (fun v => v ∈ refs) (fun u v => pairLt idx (refs.idxOf u) (refs.idxOf v)) := by
    constructor
    · intro a b c ha hb hc h1 h2
      have e1 := hix a ha; have e2 := hix b hb; have e3 := hix c hc
      generalize refs.idxOf a = i at *
      generalize refs.idxOf b = j at *
      generalize refs.idxOf c = m at *
      by_cases q1 : i = j
      · subst q1; exact h2
      · by_cases q2 : j = m
        · subst q2; exact h1
        · have t1 : pairLt idx i j = true := (hS.tot i j e1 e2 q1).resolve_right (by rw [h1]; exact Bool.false_ne_true)
          have t2 : pairLt idx j m = true := (hS.tot j m e2 e3 q2).resolve_right (by rw [h2]; exact Bool.false_ne_true)
          exact hS.asym e1 e3 (hS.trans i j m e1 e2 e3 t1 t2)
    · intro a b ha hb h
      exact hS.asym (hix a ha) (hix b hb) h
  obtain ⟨p1, p2⟩ := popped_sorted hO (zs := refs) fun v hv => hv
  generalize (popS (fun u v => pairLt idx (refs.idxOf u) (refs.idxOf v)) refs.length (hfGo (fun u v => pairLt idx (refs.idxOf u) (refs.idxOf v)) (refs.length / 2) refs)).1 = P at p1 p2
  have hpl := hp.size
  have q1 : (p.toList.map fun i => refs.getD i .none).Perm refs := by
    refine (hp.map _).trans ?_
    have : (List.range n).map (fun i => refs.getD i .none) = refs := by
      refine List.ext_getElem (by simp [hl]) fun i h1 h2 => ?_
      rw [List.getElem_map, List.getElem_range]
      simp [List.getD, h2]
    rw [this]
  have q2 : (p.toList.map fun i => refs.getD i .none).Pairwise (fun a b => (fun u v => pairLt idx (refs.idxOf u) (refs.idxOf v)) b a = false) := by
    rw [List.pairwise_map, List.pairwise_iff_getElem]
    intro i j hi hj hij
    have hi' : i < n := by simpa [hpl] using hi
    have hj' : j < n := by simpa [hpl] using hj
    have a1 := hp.lt hi'
    have a2 := hp.lt hj'
    have e1 : p.getD i 0 = p.toList[i] := by simp [Array.getD, show i < p.size by omega]
    have e2 : p.getD j 0 = p.toList[j] := by simp [Array.getD, show j < p.size by omega]
    have hlt := ha i j hij hj'
    rw [← e1, ← e2]
    dsimp only
    rw [hidx _ a1, hidx _ a2]
    refine hS.asym a1 a2 ?_
    rw [hcmp _ _ a1 a2]
    exact hlt
  refine List.Perm.eq_of_pairwise (fun a b ha hb h1 h2 => ?_) p2 q2 (p1.trans q1.symm)
  have ma : a ∈ refs := p1.mem_iff.mp ha
  have mb : b ∈ refs := q1.mem_iff.mp hb
  by_cases q : refs.idxOf a = refs.idxOf b
  · rw [← hget a ma, ← hget b mb, q]
  · rcases hS.tot _ _ (hix a ma) (hix b mb) q with h | h
    · rw [h] at h2; cases h2
    · rw [h] at h1; cases h1
end
section
set_option maxRecDepth 100000
open PySem PySem.W PyProof.Rows PySem.Calls PySem.SeqAt PySem.MeetsSeq
section
variable {C : Cx} {st : St} {lv : Lv} {nw nw' : Nw} {k : Nat}
theorem Ev_neSameL {a b : Addr} {xs : List Value} {n m : Nat} {Q : Value → St → Prop} (hR : Room k C.A) (ha : At C st a (listO xs n)) (hb : At C st b (listO xs m)) (h : Q (.bool false) st) : Ev C (compareOp .NotEq (.ref a) (.ref b)) st Q := fun s o => by
  show wpAny _ _ (richCompare .NotEq _ _) _ _ _
  refine richCompare_meets_room (op := .NotEq) ⟨_, o.at ha, rfl⟩ ⟨_, o.at hb, rfl⟩ F.slot_list_ne F.entry_list_ne (F.args_list_ne_2 _ _) (list_neAt a b xs.toArray xs.toArray n m none none #[] #[] rfl (fun _ => true)) ⟨o.at ha, o.at hb, fun j h1 h2 => EqAt.same _, ⟨(fun x => nomatch x), ?_⟩⟩ hR.units
  have e : (!(List.range xs.toArray.size).all fun _ => true) = false := by simp
  rw [e]
  exact ⟨st, o, h⟩
theorem Ev_notInB {l : Addr} {vs : List Value} {bs : List (List UInt8)} {b : List UInt8} {t : Tok} {n : Nat} {Q : Value → St → Prop} (hl : At C st l (listO vs n)) (hv : BysAre vs bs) (h : ∀ c, Q (.bool c) st) : Ev C (compareOp .NotIn (.bytes b.toArray t) (.ref l)) st Q := fun s o => by
  refine notIn_listAt (fun y => match y with | .bytes x _ => decide (x.toList = b) | _ => false) (o.list hl) ?_ ⟨st, o, h _⟩
  intro y hy
  have hy' : y ∈ vs := by simpa using hy
  obtain ⟨i, hi, rfl⟩ := List.getElem_of_mem hy'
  obtain ⟨t', e⟩ := bys_at hv (i := i) (b := bs[i]'(by rw [← bys_len hv]; exact hi)) (List.getElem?_eq_getElem _)
  rw [List.getElem?_eq_getElem hi] at e
  rw [Option.some.inj e]
  exact eqAt_bytes
theorem CompL.ind20 {elt t0 i0 t1 i1 : Expr} {scope : Scope} {pos : Pos} {it acc : Value} {Q : St → Prop} (I : Nat → St → Prop)
    (turn : ∀ n st, I n st → Ev C (pyNext it) st (drawK Q (fun v st1 => Ev C (assign t0 C.env v) st1 (fun _ st2 => Ev C (eval i1 C.env) st2 (fun x st3 => Ev C (pyIter x) st3 (fun it1 st4 =>
        CompS C (.ListComp elt [⟨t0, i0, [], 0⟩, ⟨t1, i1, [], 0⟩] scope pos) 1 it1 acc st4 (fun st5 => ∃ m, m < n ∧ I m st5)))))))
    (n : Nat) (h : I n st) (ht : ∀ v, letOwnedTupleGo t0 it v = pure () := by intro _; rfl) (hs : ∀ x, foldedSetIterable i1 C.env x = pure x := by intro _; rfl) : CompL C (.ListComp elt [⟨t0, i0, [], 0⟩, ⟨t1, i1, [], 0⟩] scope pos) 0 it acc st Q := by
  induction n using Nat.strongRecOn generalizing st with
  | ind n ih =>
    refine CompL.turn20 (Ev_mono (turn n st h) fun r st1 h1 => ?_) ht hs
    cases r with
    | none => exact h1
    | some v =>
      refine Ev_mono h1 fun _ st2 h2 => Ev_mono h2 fun x st3 h3 => Ev_mono h3 fun it1 st4 h4 => ?_
      intro s o
      refine codeAny_mono (h4 s o) fun r s' hr => ?_
      obtain ⟨st5, rfl, o5, m, hm, hi⟩ := hr
      exact ⟨st5, rfl, o5, ih m hm hi⟩
theorem CompL.ind21 {elt t0 i0 t1 i1 : Expr} {scope : Scope} {pos : Pos} {it acc : Value} {Q : St → Prop} (I : Nat → St → Prop)
    (turn : ∀ n st, I n st → Ev C (pyNext it) st (drawK Q (fun v st1 => Ev C (assign t1 C.env v) st1 (fun _ st2 => Ev C (eval elt C.env) st2 (fun x st3 => Ev C (call (.builtin "list.append") [acc, x]) st3 (fun _ st4 => ∃ m, m < n ∧ I m st4))))))
    (n : Nat) (h : I n st) (ht : ∀ v, letOwnedTupleGo t1 it v = pure () := by intro _; rfl) : CompL C (.ListComp elt [⟨t0, i0, [], 0⟩, ⟨t1, i1, [], 0⟩] scope pos) 1 it acc st Q := by
  induction n using Nat.strongRecOn generalizing st with
  | ind n ih =>
    refine CompL.turn21 (Ev_mono (turn n st h) fun r st1 h1 => ?_) ht
    cases r with
    | none => exact h1
    | some v => exact Ev_mono h1 fun _ st2 h2 => Ev_mono h2 fun x st3 h3 => Ev_mono h3 fun _ st4 h4 => by obtain ⟨m, hm, hi⟩ := h4; exact ih m hm hi
theorem Ev_iter1 {r : Addr} {n : Nat} {t u v : Tok} {Q : Value → St → Prop} (hr : At C ⟨lv, nw⟩ r (rangeO 1 (((n + 1 : Nat)) : Int) 1 t u v)) (hn : n < 2 ^ 60) (h : ∀ it, Q (.ref it) ⟨lv, (it, itN 1 n) :: nw⟩) : Ev C (pyIter (.ref r)) ⟨lv, nw⟩ Q := by
  have e : Builtin.Range.rangeSize 1 ((n + 1 : Nat) : Int) 1 = (n : Int) := by rw [rangeSize_one]; split <;> omega
  refine Ev_iterR hr ?_ fun it => ?_
  · simp [Builtin.Range.small, Builtin.Range.rangeFitsLong] at e ⊢
    rw [e]
    omega
  · rw [e]; exact h it
theorem CompL.ind20o {elt t0 i0 t1 i1 : Expr} {scope : Scope} {pos : Pos} {it acc : Value} {Q : St → Prop} (I₀ : Nat → St → Prop)
    (turn : ∀ (I : Nat → St → Prop), (∀ n st, I₀ n st → I n st) → ∀ Q' : St → Prop, (∀ st, Q st → Q' st) → ∀ n st, I₀ n st → Ev C (pyNext it) st (drawK Q' (fun v st1 => Ev C (assign t0 C.env v) st1 (fun _ st2 => Ev C (eval i1 C.env) st2 (fun x st3 => Ev C (pyIter x) st3 (fun it1 st4 =>
        CompS C (.ListComp elt [⟨t0, i0, [], 0⟩, ⟨t1, i1, [], 0⟩] scope pos) 1 it1 acc st4 (fun st5 => ∃ m, m < n ∧ I m st5)))))))
    (n : Nat) (h : I₀ n st) (ht : ∀ v, letOwnedTupleGo t0 it v = pure () := by intro _; rfl) (hs : ∀ x, foldedSetIterable i1 C.env x = pure x := by intro _; rfl) : CompL C (.ListComp elt [⟨t0, i0, [], 0⟩, ⟨t1, i1, [], 0⟩] scope pos) 0 it acc st Q :=
  CompL.ind20 I₀ (turn I₀ (fun _ _ h => h) Q fun _ h => h) n h ht hs
theorem CompL.ind21o {elt t0 i0 t1 i1 : Expr} {scope : Scope} {pos : Pos} {it acc : Value} {Q : St → Prop} (I₀ : Nat → St → Prop)
    (turn : ∀ (I : Nat → St → Prop), (∀ n st, I₀ n st → I n st) → ∀ Q' : St → Prop, (∀ st, Q st → Q' st) → ∀ n st, I₀ n st → Ev C (pyNext it) st (drawK Q' (fun v st1 => Ev C (assign t1 C.env v) st1 (fun _ st2 => Ev C (eval elt C.env) st2 (fun x st3 => Ev C (call (.builtin "list.append") [acc, x]) st3 (fun _ st4 => ∃ m, m < n ∧ I m st4))))))
    (n : Nat) (h : I₀ n st) (ht : ∀ v, letOwnedTupleGo t1 it v = pure () := by intro _; rfl) : CompL C (.ListComp elt [⟨t0, i0, [], 0⟩, ⟨t1, i1, [], 0⟩] scope pos) 1 it acc st Q :=
  CompL.ind21 I₀ (turn I₀ (fun _ _ h => h) Q fun _ h => h) n h ht
end
end
section
open PySem PySem.W PyProof.Rows PySem.Calls
set_option maxRecDepth 100000
theorem isSubs {C : Cx} {st : St} {v i : Expr} {pos : Pos} {Q : Value → St → Prop} (h : Ev C (eval (.Subscript v i pos) C.env) st Q) : Ev C (eval (.Subscript v i pos) C.env) st Q := h
theorem bys_take {vs : List Value} {bs : List (List UInt8)} (h : BysAre vs bs) : ∀ i, BysAre (vs.take i) (bs.take i) := by
  induction h with
  | nil => intro i; simp; exact .nil
  | cons b t _ ih =>
    intro i
    cases i with
    | zero => exact .nil
    | succ i => exact .cons b t (ih i)
theorem Ev_trim {α : Type} {C : Cx} {st : St} {m : Sem α} {Q : α → St → Prop} (h : Ev C m st (fun a st' => ∃ t r, Take t st'.nw r ∧ Q a ⟨st'.lv, t⟩)) : Ev C m st Q := fun s o =>
  wpAny_mono (h s o) (fun a s' ⟨st', o', t, r, ht, q⟩ => ⟨_, Own.take (lv := st'.lv) (nw := st'.nw) o' ht, q⟩) fun _ _ f => f
theorem subN {xs : List Value} {i : Nat} {v : Value} (h : xs[i]? = some v) : xs[((i : Nat) : Int).toNat]? = some v := by rw [Int.toNat_natCast]; exact h
set_option maxHeartbeats 8000000 in
theorem law_tail9 {C : Cx} {va vb vc : Value} {tl2 rl c2 c4 c6 : Addr} {n1 n3 : Nat} {rv tv : List Value} {RR : List (List UInt8)} (hC : Ok 79 C) (hsc : C.env.scope = (lawFd C.w.params).scope)
    {c1 c3 c5 : Addr}
    (hcells : C.env.cells = [(Str.ofString "heads", c6), (Str.ofString "pairs", c5), (Str.ofString "texts", c4), (Str.ofString "octets", c3), (Str.ofString "rows", c2), (Str.ofString "script", c1)])
    (hrv : BysAre rv RR) (hRR : ∀ r ∈ RR, 1 ≤ r.length ∧ r.length ≤ 4) (hRn : RR.length ≤ 11) (htv : StrsAre tv ((RR.map txt).map S)) :
    Ev C (execs (lawRest 9 C.w.params) C.env) ⟨[(Str.ofString "told", some va), (Str.ofString "popped", some vb), (Str.ofString "order", some vc), (Str.ofString "unlike", none)],
      [(tl2, listO tv n1), (rl, listO rv n3), (c2, cellO (some (.ref rl))), (c4, cellO (some (.ref tl2))), (c6, cellO none), (64, tabObj #[])]⟩
      (retK fun v nw' => ∃ t r, Take t nw' r ∧ (v = .bool true ∧ ∃ ps, TabSt lamPos ps ∧ t = [(64, tabObj ps)])) := by
  refine Ev_lawRest rfl ?_
  dsimp only [List.drop]
  repeat ((fail_if_success (with_reducible refine isAssC ?_)); kpc_turns)
  refine Ev_AssignCell (kind_at hsc (by kernel_rfl)) ?_
  refine Ev_ListComp ["row", "k"] [] ?_ (clos_of hcells (by kernel_rfl))
  dsimp only
  repeat kpc_turns
  refine Ev_iterL (n := n3) (At.own (.tail .head)) fun it o ho => ?_
  refine ⟨[(it, o)], _, Take.perm (by kas_types), fun C' hl X => ?_⟩
  have hC' := X.ok hC rfl
  have hsc' := X.sc' hsc
  have hcells' := X.cells
  have hx : C'.hb.get? rl = some (listO rv n3) := X.cell (a := rl) (by repeat (first | with_reducible exact HasN.head | with_reducible apply HasN.tail))
  have hrl := bys_len hrv
  refine CompS.of rfl rfl (Ev_selfL (.tail .head) ho ⟨rfl, rfl⟩) ?_
  refine CompL.ind20o (fun n st => ∃ (j m : Nat) (o : Obj) (a b : Option Value) (hv : List Value) (H : List (List UInt8)), st = ⟨[(Str.ofString "row", a), (Str.ofString "k", b)], [(hl, listO hv m), (it, o)]⟩ ∧ ItL o rl j ∧ n + j = RR.length ∧ BysAre hv H ∧ m = H.length ∧ H.length ≤ 4 * j ∧ ∀ h ∈ H, 1 ≤ h.length ∧ h.length ≤ 4) ?_ RR.length ⟨0, 0, o, none, none, [], [], rfl, ho, rfl, .nil, rfl, Nat.zero_le _, by simp⟩
  clear ho
  rintro I_n hI_n Q_n hQ_n n st ⟨j, m, o, a, b, hv, H, hst, ho, hn, hhv, hm, hH4, hHH⟩
  subst hst
  cases n with
  | succ g =>
    have hj : j < RR.length := by k_ne
    obtain ⟨ti, hti⟩ := bys_at hrv (i := j) (b := RR[j]) (by simp [hj])
    obtain ⟨hr1, hr4⟩ := hRR _ (List.getElem_mem hj)
    generalize RR[j] = r at hti hr1 hr4
    refine Ev_nextL (g := fun o => [(hl, listO hv m), (it, o)]) ho (fun _ => .tail .head) (At.base hx) hti fun o' ho' => ?_
    repeat kpc_turns
    refine Ev_assignN ?_
    repeat kpc_turns
    refine Ev_lenB (by simp; omega) fun _ => ?_
    repeat kpc_turns
    rw [show (r.toArray.size : Int) + 1 = ((r.length + 1 : Nat) : Int) by simp]
    refine Ev_range2 fun rg t1 u1 v1 => ?_
    refine Ev_iter1 (At.own .head) (by k_ne) fun it1 => ?_
    refine CompS.take (t := [(hl, listO hv m), (it, o'), (it1, itN 1 r.length)]) (by kas_types) ?_
    refine CompS.of rfl rfl (Ev_selfR (.tail (.tail .head)) ⟨rfl, rfl⟩) ?_
    refine CompL.ind21o (fun n st => ∃ (i : Nat) (b : Option Value) (hv2 : List Value) (H2 : List (List UInt8)), st = ⟨[(Str.ofString "row", some (.bytes r.toArray ti)), (Str.ofString "k", b)], [(hl, listO hv2 H2.length), (it, o'), (it1, itN (i + 1) n)]⟩ ∧ n + i = r.length ∧ BysAre hv2 H2 ∧ H2.length = H.length + i ∧ ∀ h ∈ H2, 1 ≤ h.length ∧ h.length ≤ 4) ?_ r.length ⟨0, b, hv, H, by rw [hm], rfl, hhv, rfl, hHH⟩
    rintro I_n2 hI_n2 Q_n2 hQ_n2 n2 st ⟨i, b2, hv2, H2, hst, hn2, hhv2, hl2, hHH2⟩
    subst hst
    cases n2 with
    | succ g2 =>
      refine Ev_nextN (.tail (.tail .head)) fun _ => ?_
      repeat kpc_turns
      refine Ev_assignN ?_
      repeat kpc_turns
      intro sl
      refine Ev_subSliceB (At.own .head) .none (.int _ _) (by rw [sizeLine_eq]; simp; omega) fun _ => ?_
      rw [slc_to]
      refine Ev_take (t := [(hl, listO hv2 H2.length), (it, o'), (it1, itN (i + 1 + 1) g2)]) (by kas_types) ?_
      refine Ev_append .head (by rw [bys_len hhv2, hl2, sizeLine_eq]; k_ne) ?_
      refine ⟨g2, Nat.lt_add_one _, hI_n2 _ _ ⟨i + 1, _, _, H2 ++ [r.take (i + 1)], by rw [List.length_append]; rfl, by k_ne, bys_app hhv2 (.cons (r.take (i + 1)) _ .nil), by rw [List.length_append, hl2]; rfl, ?_⟩⟩
      intro h hh
      rcases List.mem_append.mp hh with hh | hh
      · exact hHH2 h hh
      · obtain rfl := List.mem_singleton.mp hh
        rw [List.length_take]; omega
    | zero =>
      refine Ev_endN hC'.R (.tail (.tail .head)) (.tail (.tail .head)) ?_
      refine drawK_n ?_
      refine hQ_n2 _ ?_
      exact ⟨g, Nat.lt_add_one _, hI_n _ _ ⟨j + 1, H2.length, o', _, _, hv2, H2, rfl, ho', by k_ne, hhv2, rfl, by k_ne, hHH2⟩⟩
  | zero =>
    obtain rfl : j = RR.length := by k_ne
    subst hm
    refine Ev_endL hC'.R ho (.tail .head) (.tail .head) (At.base hx) (by rw [List.getElem?_eq_none]; omega) ?_
    refine drawK_n ?_
    refine hQ_n _ ?_
    dsimp only [List.cons_append, List.nil_append]
    clear ho hx hcells' hsc' hC' X
    have hHn : H.length ≤ 44 := by k_ne
    have hHl := bys_len hhv
    repeat ((fail_if_success (with_reducible refine isAssC ?_)); kpc_turns)
    refine Ev_take (t := [(hl, listO hv H.length), (tl2, listO tv n1), (rl, listO rv n3), (c2, cellO (some (.ref rl))), (c4, cellO (some (.ref tl2))), (c6, cellO (some (.ref hl))), (64, tabObj #[])]) (by kas_types) ?_
    repeat ((fail_if_success (with_reducible refine isAssC ?_)); kpc_turns)
    refine Ev_AssignComp ["k"] [("heads", c6)] ?_ (swaps_local hC.hk (kind_at hsc (by kernel_rfl)) (by kernel_rfl) (by kernel_rfl)) (kind_at hsc (by kernel_rfl)) hC.hk (clos_of hcells (by kernel_rfl))
    dsimp only
    repeat kpc_turns
    refine Ev_lenList (n := H.length) (by kct_strs) (by k_ne) fun _ => ?_
    rw [hHl]
    repeat kpc_turns
    refine Ev_range1 fun r t1 u1 v1 => ?_
    refine Ev_iterN (by kct_strs) (by k_ne) fun it => ?_
    refine ⟨[(it, itN 0 H.length)], _, Take.perm (by kas_types), fun C' ul X => ?_⟩
    have hC' := X.ok hC rfl
    have hsc' := X.sc' hsc
    have hcells' := X.cells
    have hx6 := X.cell (a := c6) (by repeat (first | with_reducible exact HasN.head | with_reducible apply HasN.tail))
    have hx : C'.hb.get? hl = some (listO hv H.length) := X.cell (a := hl) (by repeat (first | with_reducible exact HasN.head | with_reducible apply HasN.tail))
    refine CompS.of rfl rfl (Ev_selfR (.tail .head) ⟨rfl, rfl⟩) ?_
    refine CompL.ind1to (fun n st => ∃ (i : Nat) (a : Option Value) (uv : List Value) (U : List (List UInt8)), st = ⟨[(Str.ofString "k", a)], [(ul, listO uv U.length), (it, itN i n)]⟩ ∧ n + i = H.length ∧ BysAre uv U ∧ U.length ≤ i ∧ ∀ h ∈ U, 1 ≤ h.length ∧ h.length ≤ 4) ?_ H.length ⟨0, none, [], [], rfl, rfl, .nil, Nat.zero_le _, by simp⟩
    rintro I_n hI_n Q_n hQ_n n st ⟨i, a, uv, U, hst, hn, huv, hUi, hUU⟩
    subst hst
    cases n with
    | succ g =>
      have hi : i < H.length := by k_ne
      obtain ⟨ti, hti⟩ := bys_at hhv (i := i) (b := H[i]) (by simp [hi])
      have hhi := hHH _ (List.getElem_mem hi)
      generalize H[i] = hd at hti hhi
      refine Ev_nextN (.tail .head) fun _ => ?_
      repeat kpc_turns
      refine Ev_assignN ?_
      repeat kpc_turns
      refine Ev_subList (n := H.length) (At.base hx) (by k_ne) (by k_ne) (subN hti) ?_
      repeat kpc_turns
      intro sd
      refine Ev_sliceL (n := H.length) (At.base hx) (At.own .head) .none (.int _ _) (by rw [hHl, sizeLine_eq]; k_ne) fun sl => ?_
      rw [slc_to]
      refine Ev_notInB (At.own .head) (bys_take hhv i) fun c => ?_
      refine Ev_trim (Ev_bool ⟨[(ul, listO uv U.length), (it, itN (i + 1) g)], _, by kas_types, ?_⟩)
      dsimp only
      cases c with
      | false =>
        refine onB_f ?_
        exact ⟨g, Nat.lt_add_one _, hI_n _ _ ⟨i + 1, _, uv, U, rfl, by k_ne, huv, by k_ne, hUU⟩⟩
      | true =>
        refine onB_t ?_
        repeat kpc_turns
        refine Ev_subList (n := H.length) (At.base hx) (by k_ne) (by k_ne) (subN hti) ?_
        refine Ev_append .head (by rw [bys_len huv, sizeLine_eq]; k_ne) ?_
        refine ⟨g, Nat.lt_add_one _, hI_n _ _ ⟨i + 1, _, _, U ++ [hd], by rw [List.length_append]; rfl, by k_ne, bys_app huv (.cons hd _ .nil), by rw [List.length_append]; simp; omega, ?_⟩⟩
        intro h hh
        rcases List.mem_append.mp hh with hh | hh
        · exact hUU h hh
        · obtain rfl := List.mem_singleton.mp hh
          exact hhi
    | zero =>
      obtain rfl : i = H.length := by k_ne
      refine Ev_endN hC'.R (.tail .head) (.tail .head) ?_
      refine drawK_n ?_
      refine hQ_n _ ?_
      dsimp only [List.cons_append, List.nil_append]
      clear hx hx6 hcells' hsc' hC' X
      have hUl := bys_len huv
      refine ⟨_, by repeat (first | with_reducible exact Put.head | with_reducible apply Put.tail), ?_⟩
      repeat kpc_turns
      refine Ev_ListComp ["head"] [("texts", c4), ("rows", c2)] ?_ (clos_of hcells (by kernel_rfl))
      dsimp only
      repeat kpc_turns
      refine Ev_iterL (n := U.length) (At.own .head) fun it o ho => ?_
      refine ⟨[(it, o), (64, tabObj #[])], _, Take.perm (by kas_types), fun C' fl X => ?_⟩
      have hC' := X.ok hC rfl
      have hsc' := X.sc' hsc
      have hcells' := X.cells
      have hx2 := X.cell (a := c2) (by repeat (first | with_reducible exact HasN.head | with_reducible apply HasN.tail))
      have hx4 := X.cell (a := c4) (by repeat (first | with_reducible exact HasN.head | with_reducible apply HasN.tail))
      have hxr : C'.hb.get? rl = some (listO rv n3) := X.cell (a := rl) (by repeat (first | with_reducible exact HasN.head | with_reducible apply HasN.tail))
      have hxt : C'.hb.get? tl2 = some (listO tv n1) := X.cell (a := tl2) (by repeat (first | with_reducible exact HasN.head | with_reducible apply HasN.tail))
      have hxu : C'.hb.get? ul = some (listO uv U.length) := X.cell (a := ul) (by repeat (first | with_reducible exact HasN.head | with_reducible apply HasN.tail))
      refine CompS.of rfl rfl (Ev_selfL (.tail .head) ho ⟨rfl, rfl⟩) ?_
      refine CompL.ind1to (fun n st => ∃ (j : Nat) (o : Obj) (a : Option Value) (ps : Array Value), st = ⟨[(Str.ofString "head", a)], [(fl, listO [] 0), (it, o), (64, tabObj ps)]⟩ ∧ ItL o ul j ∧ n + j = U.length ∧ TabSt lamPos ps) ?_ U.length ⟨0, o, none, #[], rfl, ho, rfl, Or.inl rfl⟩
      clear ho
      rintro I_n hI_n Q_n hQ_n n st ⟨j, o, a, ps, hst, ho, hn, hps⟩
      subst hst
      cases n with
      | succ g =>
        have hj : j < U.length := by k_ne
        obtain ⟨ti, hti⟩ := bys_at huv (i := j) (b := U[j]) (by simp [hj])
        obtain ⟨hh1, hh4⟩ := hUU _ (List.getElem_mem hj)
        generalize U[j] = hd at hti hh1 hh4
        refine Ev_nextL (g := fun o => [(fl, listO [] 0), (it, o), (64, tabObj ps)]) ho (fun _ => .tail .head) (At.base hxu) hti fun o' ho' => ?_
        repeat kpc_turns
        refine Ev_assignN ?_
        repeat kpc_turns
        refine Ev_absQ fun Q_c hQ_c => ?_
        refine Ev_call (k := 79) [(64, tabObj ps)] (by kas_types) hC'.R fun hb' kp => (right_spec (k := 49) (hC'.B.keeps kp) hps hh1 hh4 (kp.1 _ _ hxr) (kp.1 _ _ hxt) hrv htv (by k_ne) (by rw [List.length_map]; omega) (fun r hr => (hRR r hr).2) ?_).mono ?_
        · intro x hx
          obtain ⟨r, hr, rfl⟩ := List.mem_map.mp hx
          have := txt_len (hRR r hr).1 (hRR r hr).2
          have := (hRR r hr).2
          omega
        rintro _ _ ⟨ps', rfl, hps', rfl⟩
        refine hQ_c _ _ ?_
        dsimp only [List.cons_append, List.nil_append]
        have hall : (RR.map txt).map (fitsF (itemsF hd)) = RR.map fun r => r.take hd.length == hd := by
          rw [List.map_map]
          exact List.map_congr_left fun r hr => fits_txt hh1 hh4 (hRR r hr).1 (hRR r hr).2
        rw [decide_eq_true hall]
        refine Ev_trim (Ev_bool ⟨[(fl, listO [] 0), (it, o'), (64, tabObj ps')], _, by kas_types, ?_⟩)
        dsimp only
        refine onB_f ?_
        exact ⟨g, Nat.lt_add_one _, hI_n _ _ ⟨j + 1, o', _, ps', rfl, ho', by k_ne, hps'⟩⟩
      | zero =>
        obtain rfl : j = U.length := by k_ne
        refine Ev_endL hC'.R ho (.tail .head) (.tail .head) (At.base hxu) (by rw [List.getElem?_eq_none]; omega) ?_
        refine drawK_n ?_
        refine hQ_n _ ?_
        dsimp only [List.cons_append, List.nil_append]
        repeat kpc_turns
        refine Ev_newList (fun el => ?_) (Nat.zero_le _)
        refine Ev_eqBools (bs := []) (cs := []) (n := 0) (m := 0) (hC.R.le (by k_ne)) (At.own (.tail .head)) (At.own .head) ?_
        repeat kpc_turns
        exact ⟨[(64, tabObj ps)], _, by kas_types, rfl, ps, hps, rfl⟩
end
section
open PySem PySem.W PyProof.Rows PySem.Calls
set_option maxRecDepth 100000
set_option maxHeartbeats 8000000 in
theorem law_tail7 {C : Cx} {va : Value} {tl2 rl ql pl c2 c4 c6 : Addr} {n1 n3 qn pn : Nat} {rv tv prefs PV : List Value} {RR : List (List UInt8)} (hC : Ok 79 C) (hsc : C.env.scope = (lawFd C.w.params).scope)
    {c1 c3 c5 : Addr}
    (hcells : C.env.cells = [(Str.ofString "heads", c6), (Str.ofString "pairs", c5), (Str.ofString "texts", c4), (Str.ofString "octets", c3), (Str.ofString "rows", c2), (Str.ofString "script", c1)])
    (hrv : BysAre rv RR) (hRR : ∀ r ∈ RR, 1 ≤ r.length ∧ r.length ≤ 4) (hRn : RR.length ≤ 11) (hR2 : 2 ≤ RR.length) (htv : StrsAre tv ((RR.map txt).map S)) (hpl : prefs.length = RR.length)
    (hPV : ∀ p : Array Nat, PmA RR.length p → AscP (pairLt (RR.map intsB)) p RR.length → PV = p.toList.map fun i => prefs.getD i .none) :
    Ev C (execs (lawRest 7 C.w.params) C.env) ⟨[(Str.ofString "told", some va), (Str.ofString "popped", some (.ref ql)), (Str.ofString "order", none), (Str.ofString "unlike", none)],
      [(ql, listO PV qn), (pl, listO prefs pn), (tl2, listO tv n1), (rl, listO rv n3), (c2, cellO (some (.ref rl))), (c4, cellO (some (.ref tl2))), (c5, cellO (some (.ref pl))), (c6, cellO none), (64, tabObj #[])]⟩
      (retK fun v nw' => ∃ t r, Take t nw' r ∧ (v = .bool true ∧ ∃ ps, TabSt lamPos ps ∧ t = [(64, tabObj ps)])) := by
  refine Ev_lawRest rfl ?_
  dsimp only [List.drop]
  repeat ((fail_if_success (with_reducible refine isAssC ?_)); kpc_turns)
  refine Ev_AssignComp ["row", "k"] [] ?_ (swaps_local hC.hk (kind_at hsc (by kernel_rfl)) (by kernel_rfl) (by kernel_rfl)) (kind_at hsc (by kernel_rfl)) hC.hk (clos_of hcells (by kernel_rfl))
  dsimp only
  repeat kpc_turns
  refine Ev_ListComp ["k"] [("rows", c2)] ?_ (clos_of hcells (by kernel_rfl))
  dsimp only
  have hrl := bys_len hrv
  repeat kpc_turns
  refine Ev_lenList (n := n3) (by kct_strs) (by k_ne) fun _ => ?_
  rw [hrl]
  repeat kpc_turns
  refine Ev_range1 fun r t1 u1 v1 => ?_
  refine Ev_iterN (by kct_strs) (by k_ne) fun it => ?_
  refine ⟨[(it, itN 0 RR.length)], _, Take.perm (by kas_types), fun C' kl X => ?_⟩
  have hC' := X.ok hC rfl
  have hsc' := X.sc' hsc
  have hcells' := X.cells
  have hx2 := X.cell (a := c2) (by repeat (first | with_reducible exact HasN.head | with_reducible apply HasN.tail))
  have hxr : C'.hb.get? rl = some (listO rv n3) := X.cell (a := rl) (by repeat (first | with_reducible exact HasN.head | with_reducible apply HasN.tail))
  refine CompS.of rfl rfl (Ev_selfR (.tail .head) ⟨rfl, rfl⟩) ?_
  refine CompL.ind1o (fun n st => ∃ (i : Nat) (a : Option Value) (ks : List Value) (objs : Nw), st = ⟨[(Str.ofString "k", a)], (kl, listO ks i) :: (it, itN i n) :: objs⟩ ∧ n + i = RR.length ∧ ks.length = i ∧ ∀ j (hj : j < i) (hj2 : j < RR.length), ∃ l t u n, ks[j]? = some (.ref l) ∧ (l, listO [.bytes (RR[j]).toArray t, .int (j : Nat) u] n) ∈ objs) ?_ RR.length ⟨0, none, [], [], rfl, rfl, rfl, fun j hj => absurd hj (Nat.not_lt_zero _)⟩
  rintro I_n hI_n Q_n hQ_n n st ⟨i, a, ks, objs, hst, hn, hkl, hks⟩
  subst hst
  cases n with
  | succ g =>
    have hi : i < RR.length := by k_ne
    obtain ⟨ti, hti⟩ := bys_at hrv (i := i) (b := RR[i]) (by simp [hi])
    refine Ev_nextN (.tail .head) fun tk => ?_
    repeat kpc_turns
    refine Ev_assignN ?_
    repeat kpc_turns
    refine Ev_subList (n := n3) (At.base hxr) (by k_ne) (by k_ne) (subN hti) ?_
    repeat kpc_turns
    refine Ev_newList (fun l => ?_) (by show (2 : Nat) ≤ _; rw [sizeLine_eq]; k_ne)
    refine Ev_perm (nw' := (kl, listO ks i) :: (it, itN (i + 1) g) :: (l, listO [.bytes (RR[i]).toArray ti, .int (i : Nat) tk] 0) :: objs) ?_ ?_
    · exact (List.perm_append_comm (l₁ := [(l, _)]) (l₂ := [(kl, listO ks i), (it, itN (i + 1) g)])).append_right objs
    refine Ev_append .head (by rw [hkl, sizeLine_eq]; k_ne) ?_
    refine ⟨g, Nat.lt_add_one _, hI_n _ _ ⟨i + 1, _, _, _, rfl, by k_ne, by rw [List.length_append, hkl]; rfl, ?_⟩⟩
    intro j hj hj2
    by_cases hji : j < i
    · obtain ⟨l', t, u, n, e1, e2⟩ := hks j hji hj2
      exact ⟨l', t, u, n, by rw [List.getElem?_append_left (by k_ne)]; exact e1, List.mem_cons_of_mem _ e2⟩
    · obtain rfl : j = i := by k_ne
      exact ⟨l, ti, _, 0, by rw [List.getElem?_append_right (by k_ne), hkl, Nat.sub_self]; rfl, List.mem_cons_self⟩
  | zero =>
    obtain rfl : i = RR.length := by k_ne
    refine Ev_endN hC'.R (.tail .head) (.tail .head) ?_
    refine drawK_n ?_
    refine hQ_n _ ?_
    dsimp only [List.cons_append, List.nil_append]
    clear hx2 hxr hcells' hsc' hC' X
    repeat kpc_turns
    refine Ev_sorted (k := 79) (RR := RR) hC.R (by decide) (n := RR.length) (At.own .head) hR2 (by k_ne) ?_ fun D c p hp1 hp2 => ?_
    · intro h F N
      refine ⟨hkl, fun j hj => ?_⟩
      obtain ⟨l', t, u, n, e1, e2⟩ := hks j hj hj
      exact ⟨l', t, u, n, e1, (N (l', _) (List.mem_cons_of_mem _ (List.mem_append_left _ e2))).1⟩
    repeat kpc_turns
    refine Ev_iterL (At.own .head) fun it o ho => ?_
    refine ⟨[(it, o)], _, Take.perm (by kas_types), fun C' ol X => ?_⟩
    have hC' := X.ok hC rfl
    have hsc' := X.sc' hsc
    have hcells' := X.cells
    have hx : C'.hb.get? D = some (listO (p.toList.map fun i => ks.getD i Value.none) c) := X.cell (a := D) (by repeat (first | with_reducible exact HasN.head | with_reducible apply HasN.tail))
    have hxk : ∀ j (hj : j < RR.length), ∃ l t u n, ks.getD j .none = .ref l ∧ C'.hb.get? l = some (listO [.bytes (RR[j]).toArray t, .int (j : Nat) u] n) := fun j hj => by
      obtain ⟨l', t, u, n, e1, e2⟩ := hks j hj hj
      exact ⟨l', t, u, n, by rw [List.getD_eq_getElem?_getD, e1]; rfl, X.froz _ (List.mem_cons_of_mem _ (List.mem_cons_of_mem _ (List.mem_append_left _ e2)))⟩
    refine CompS.of rfl rfl (Ev_selfL (.tail .head) ho ⟨rfl, rfl⟩) ?_
    refine CompL.ind1To (fun n st => ∃ (j : Nat) (o : Obj) (a b : Option Value) (os : List Value), st = ⟨[(Str.ofString "row", a), (Str.ofString "k", b)], [(ol, listO os j), (it, o)]⟩ ∧ ItL o D j ∧ n + j = RR.length ∧ IntsAre os ((p.toList.take j).map fun i : Nat => (i : Int))) ?_ RR.length ⟨0, o, none, none, [], rfl, ho, rfl, .nil⟩
    clear ho
    rintro I_n hI_n Q_n hQ_n n st ⟨j, o, a, b, os, hst, ho, hn, hos⟩
    subst hst
    have hps := hp1.size
    have hol : os.length = min j RR.length := by simpa [hps] using hos.length
    cases n with
    | succ g =>
      have hj : j < RR.length := by k_ne
      have hpj := hp1.lt hj
      have hpe : p.toList[j]? = some (p.getD j 0) := by simp [Array.getD, hps, hj]
      obtain ⟨l, t, u, n, e1, e2⟩ := hxk _ hpj
      refine Ev_nextL (g := fun o => [(ol, listO os j), (it, o)]) ho (fun _ => .tail .head) (At.base hx) (v := .ref l) (by rw [List.getElem?_map, hpe, ← e1]; rfl) fun o' ho' => ?_
      refine drawK_s ?_
      refine Ev_letOwned (.tail .head) ho' ?_
      refine Ev_assignL2 hC'.R (At.base e2) (by rfl) (by rfl) ?_
      refine Ev_aio_cons ?_ (by rfl)
      refine Ev_assignN ?_
      repeat kpc_turns
      refine Ev_aio_cons ?_ (by rfl)
      refine Ev_assignN ?_
      repeat kpc_turns
      refine Ev_aio_nil ?_
      repeat kpc_turns
      refine Ev_append .head (by rw [hol, sizeLine_eq]; k_ne) ?_
      refine ⟨g, Nat.lt_add_one _, hI_n _ _ ⟨j + 1, o', _, _, _, rfl, ho', by k_ne, ?_⟩⟩
      rw [List.take_add_one, hpe, List.map_append]
      exact ints_snoc hos _ _
    | zero =>
      obtain rfl : j = RR.length := by k_ne
      refine Ev_endL hC'.R ho (.tail .head) (.tail .head) (At.base hx) (by rw [List.getElem?_eq_none]; simp [hps]) ?_
      refine drawK_n ?_
      refine hQ_n _ ?_
      dsimp only [List.cons_append, List.nil_append]
      rw [List.take_of_length_le (by simp [hps])] at hos
      clear hx hxk hcells' hsc' hC' X
      refine ⟨_, by repeat (first | with_reducible exact Put.head | with_reducible apply Put.tail), ?_⟩
      (try refine Imp.use (by assumption) ?_)
      refine nextK_n ?_
      refine Ev_drop (nw' := [(ol, listO os RR.length), (ql, listO PV qn), (pl, listO prefs pn), (tl2, listO tv n1), (rl, listO rv n3), (c2, cellO (some (.ref rl))), (c4, cellO (some (.ref tl2))), (c5, cellO (some (.ref pl))), (c6, cellO none), (64, tabObj #[])]) ?_ ?_
      · exact .cons_cons _ (.cons _ (.cons _ ((List.sublist_cons_self _ _).trans (List.sublist_append_right _ _))))
      have hPV' := hPV p hp1 hp2
      have hlp : p.toList.length = RR.length := by simp [hps]
      have hlt : ∀ v ∈ p.toList, v < RR.length := fun v hv => List.mem_range.mp (hp1.mem_iff.mp hv)
      generalize p.toList = pL at hPV' hlp hos hlt
      clear hp1 hp2 hps hks hPV hkl
      refine Ev_cons ?_
      refine Ev_If ?_
      repeat kpc_turns
      refine Ev_ListComp ["k"] [("pairs", c5)] ?_ (clos_of hcells (by kernel_rfl))
      dsimp only
      repeat kpc_turns
      refine Ev_iterL (n := RR.length) (At.own .head) fun it o ho => ?_
      refine ⟨[(it, o)], _, Take.perm (by kas_types), fun C' zl X => ?_⟩
      have hC' := X.ok hC rfl
      have hsc' := X.sc' hsc
      have hcells' := X.cells
      have hx5 := X.cell (a := c5) (by repeat (first | with_reducible exact HasN.head | with_reducible apply HasN.tail))
      have hxp : C'.hb.get? pl = some (listO prefs pn) := X.cell (a := pl) (by repeat (first | with_reducible exact HasN.head | with_reducible apply HasN.tail))
      have hxo : C'.hb.get? ol = some (listO os RR.length) := X.cell (a := ol) (by repeat (first | with_reducible exact HasN.head | with_reducible apply HasN.tail))
      refine CompS.of rfl rfl (Ev_selfL (.tail .head) ho ⟨rfl, rfl⟩) ?_
      refine CompL.ind1o (fun n st => ∃ (j : Nat) (o : Obj) (a : Option Value), st = ⟨[(Str.ofString "k", a)], [(zl, listO ((pL.take j).map fun i => prefs.getD i .none) j), (it, o)]⟩ ∧ ItL o ol j ∧ n + j = RR.length) ?_ RR.length ⟨0, o, none, rfl, ho, rfl⟩
      clear ho
      rintro I_n hI_n Q_n hQ_n n st ⟨j, o, a, hst, ho, hn⟩
      subst hst
      cases n with
      | succ g =>
        have hj : j < pL.length := by k_ne
        have hv := hlt _ (List.getElem_mem hj)
        have hpe : pL[j]? = some pL[j] := List.getElem?_eq_getElem hj
        have hTj : (pL.take (j + 1)).map (fun i => prefs.getD i .none) = (pL.take j).map (fun i => prefs.getD i .none) ++ [prefs.getD pL[j] .none] := by rw [List.take_add_one, hpe, List.map_append]; rfl
        obtain ⟨ti, hti⟩ := ints_at hos (i := j) (n := (pL[j] : Int)) (by rw [List.getElem?_map, hpe]; rfl)
        generalize pL[j] = q at hv hTj hti
        have hpq : prefs[q]? = some (prefs.getD q .none) := by rw [List.getD_eq_getElem?_getD, List.getElem?_eq_getElem (by k_ne)]; rfl
        refine Ev_nextL (g := fun o => [(zl, listO ((pL.take j).map fun i => prefs.getD i .none) j), (it, o)]) ho (fun _ => .tail .head) (At.base hxo) hti fun o' ho' => ?_
        repeat kpc_turns
        refine Ev_assignN ?_
        repeat kpc_turns
        refine Ev_subList (n := pn) (At.base hxp) (by k_ne) (by k_ne) (subN hpq) ?_
        refine Ev_append .head (by rw [List.length_map, List.length_take, sizeLine_eq]; k_ne) ?_
        rw [← hTj]
        exact ⟨g, Nat.lt_add_one _, hI_n _ _ ⟨j + 1, o', _, rfl, ho', by k_ne⟩⟩
      | zero =>
        obtain rfl : j = RR.length := by k_ne
        refine Ev_endL hC'.R ho (.tail .head) (.tail .head) (At.base hxo) (by rw [List.getElem?_eq_none]; omega) ?_
        refine drawK_n ?_
        refine hQ_n _ ?_
        dsimp only [List.cons_append, List.nil_append]
        rw [List.take_of_length_le (by k_ne), ← hPV']
        refine Ev_neSameL (n := qn) (m := RR.length) hC.R (At.own (.tail (.tail .head))) (At.own .head) ?_
        refine Ev_bool ?_
        refine onB_f ?_
        refine Ev_nil ?_
        (try refine Imp.use (by assumption) ?_)
        refine nextK_n ?_
        refine Ev_take (t := [(tl2, listO tv n1), (rl, listO rv n3), (c2, cellO (some (.ref rl))), (c4, cellO (some (.ref tl2))), (c6, cellO none), (64, tabObj #[])]) (by kas_types) ?_
        refine Ev_execsEq (l' := lawRest 9 C.w.params) (by kernel_rfl) ?_
        exact law_tail9 hC hsc hcells hrv hRR hRn htv
end
section
open PySem PySem.W PyProof.Rows PySem.Calls
set_option maxRecDepth 100000
set_option maxHeartbeats 8000000 in
theorem law_tail5 {C : Cx} {va : Value} {tl2 ol rl sl c1 c2 c3 c4 c5 c6 : Addr} {n1 n2 n3 : Nat} {rv ov tv : List Value} {RR : List (List UInt8)} (hC : Ok 79 C) (hsc : C.env.scope = (lawFd C.w.params).scope)
    (hcells : C.env.cells = [(Str.ofString "heads", c6), (Str.ofString "pairs", c5), (Str.ofString "texts", c4), (Str.ofString "octets", c3), (Str.ofString "rows", c2), (Str.ofString "script", c1)])
    (hrv : BysAre rv RR) (hRR : ∀ r ∈ RR, 1 ≤ r.length ∧ r.length ≤ 4) (hRn : RR.length ≤ 11) (hR2 : 2 ≤ RR.length) (hov : BysAre ov (RR.map encB)) (htv : StrsAre tv ((RR.map txt).map S)) :
    Ev C (execs (lawRest 5 C.w.params) C.env) ⟨[(Str.ofString "told", some va), (Str.ofString "popped", none), (Str.ofString "order", none), (Str.ofString "unlike", none)],
      [(tl2, listO tv n1), (ol, listO ov n2), (rl, listO rv n3), (c1, cellO (some (.ref sl))), (c2, cellO (some (.ref rl))), (c3, cellO (some (.ref ol))), (c4, cellO (some (.ref tl2))), (c5, cellO none), (c6, cellO none), (64, tabObj #[])]⟩
      (retK fun v nw' => ∃ t r, Take t nw' r ∧ (v = .bool true ∧ ∃ ps, TabSt lamPos ps ∧ t = [(64, tabObj ps)])) := by
  refine Ev_lawRest rfl ?_
  dsimp only [List.drop]
  repeat kpc_turns
  have hT4 : ∀ x ∈ RR.map txt, ∃ r ∈ RR, txt r = x := fun x hx => List.mem_map.mp hx
  refine Ev_absQ fun Q_c hQ_c => ?_
  refine Ev_callF (k := 79) [] .nil hC.R fun hb' kp hfz => ((pairs_spec (k := 77) (tn := n1) (T := RR.map txt) (hC.B.keeps kp) (hfz (tl2, listO tv n1) (by simp)) htv (by rw [List.length_map]; omega) ?_ ?_).mono ?_)
  · intro x hx
    obtain ⟨r, hr, rfl⟩ := hT4 x hx
    have h1 := encB_len (hRR r hr).2
    rw [txt, List.length_map]; omega
  · intro x hx
    obtain ⟨r, hr, rfl⟩ := hT4 x hx
    exact txt_chars (hRR r hr).1 (hRR r hr).2
  rintro _ _ ⟨pl, prefs, pn, objs, rfl, rfl, hpo⟩
  refine hQ_c _ _ ?_
  dsimp only [List.cons_append, List.nil_append]
  refine Ev_perm (nw' := (pl, listO prefs pn) :: (tl2, listO tv n1) :: (ol, listO ov n2) :: (rl, listO rv n3) :: (c1, cellO (some (.ref sl))) :: (c2, cellO (some (.ref rl))) :: (c3, cellO (some (.ref ol))) :: (c4, cellO (some (.ref tl2))) :: (c5, cellO none) :: (c6, cellO none) :: (64, tabObj #[]) :: objs) ?_ ?_
  · exact (List.perm_append_comm (l₁ := objs) (l₂ := [(tl2, listO tv n1), (ol, listO ov n2), (rl, listO rv n3), (c1, cellO (some (.ref sl))), (c2, cellO (some (.ref rl))), (c3, cellO (some (.ref ol))), (c4, cellO (some (.ref tl2))), (c5, cellO none), (c6, cellO none), (64, tabObj #[])])).cons _
  repeat kpc_turns
  have hpl := hpo.1
  rw [List.length_map, List.length_map] at hpl
  have hidx : ((RR.map txt).map decT).map (fun x => x.map fun s : Nat => (s : Int)) = RR.map fun r => intsN (sx6 r) := by
    rw [List.map_map, List.map_map]
    refine List.map_congr_left fun r hr => ?_
    show (decT (txt r)).map _ = _
    rw [decT_txt (hRR r hr).1 (hRR r hr).2]; rfl
  refine Ev_absQ fun Q_c hQ_c => ?_
  refine Ev_callF (k := 79) [] .nil hC.R fun hb' kp hfz => ?_
  have hPI : PairsIn hb' prefs (((RR.map txt).map decT).map fun x => x.map fun s : Nat => (s : Int)) := by
    refine ⟨by rw [hpl]; simp, fun i hi => ?_⟩
    obtain ⟨t, l, tok, vs, n, a, b, c, d⟩ := hpo.2 i (by simpa using hi)
    exact ⟨t, l, tok, vs, n, a, hfz (t, _) (by simp [b]), hfz (l, _) (by simp [c]), by simpa using d⟩
  have hnd : prefs.Nodup := by
    rw [List.Nodup, List.pairwise_iff_getElem]
    intro i j hi hj hij e
    have : i = j := hPI.nodup (by simpa [hpl] using hi) (by simpa [hpl] using hj) (by rw [List.getElem?_eq_getElem hi, List.getElem?_eq_getElem hj, e])
    omega
  rw [hidx] at hPI
  refine ((popped_spec (m := pn) (hC.B.keeps kp) (pairs_cmp hPI) (hfz (pl, listO prefs pn) (by simp)) (fun v hv => hv) (by k_ne)).le (by decide)).mono ?_
  have hPV := fun (p : Array Nat) (hp : PmA RR.length p) (ha : AscP (pairLt (RR.map intsB)) p RR.length) => popped_order (idx := RR.map fun r => intsN (sx6 r)) (idx2 := RR.map intsB) hpl hnd (fun i j hi hj => pairLt_rows hRR hi hj) hp ha
  rintro _ _ ⟨ql, qn, rfl, rfl⟩
  refine hQ_c _ _ ?_
  generalize (popS (fun u v => pairLt (RR.map fun r => intsN (sx6 r)) (prefs.idxOf u) (prefs.idxOf v)) prefs.length (hfGo (fun u v => pairLt (RR.map fun r => intsN (sx6 r)) (prefs.idxOf u) (prefs.idxOf v)) (prefs.length / 2) prefs)).1 = PV at hPV
  dsimp only [List.cons_append, List.nil_append]
  kpc_turns
  (try refine Imp.use (by assumption) ?_)
  refine nextK_n ?_
  refine Ev_drop (nw' := [(ql, listO PV qn), (pl, listO prefs pn), (tl2, listO tv n1), (rl, listO rv n3), (c2, cellO (some (.ref rl))), (c4, cellO (some (.ref tl2))), (c5, cellO (some (.ref pl))), (c6, cellO none), (64, tabObj #[])]) ?_ ?_
  · exact .cons_cons _ (.cons_cons _ (.cons_cons _ (.cons _ (.cons_cons _ (.cons _ (.cons_cons _ (.cons _ (.cons_cons _ (.cons_cons _ (.cons_cons _ (.cons_cons _ (List.nil_sublist _))))))))))))
  refine Ev_execsEq (l' := lawRest 7 C.w.params) (by kernel_rfl) ?_
  exact law_tail7 hC hsc hcells hrv hRR hRn hR2 htv hpl hPV
end
section
open PySem PySem.W PyProof.Rows PySem.Calls
set_option maxRecDepth 100000
theorem told_ok (r : List UInt8) : PyData.canLay0 (.list (toldD r)) = true ∧ PyData.depth (.list (toldD r)) = 1 := by
  have h : ∀ n : Nat, n < 3 → PyData.strOk (S (List.replicate n 61)) = true := by decide +kernel
  simp [toldD, PyData.canLay0, PyData.canLayAll0, PyData.depth, PyData.depthAll, h ((3 - r.length % 3) % 3) (Nat.mod_lt _ (by decide))]
theorem shaped_told (RR : List (List UInt8)) : SeqAt.shaped (.list ((RR.map toldD).map .list)) = true := by
  have : PyData.canLayAll0 ((RR.map toldD).map .list) = true ∧ PyData.depthAll ((RR.map toldD).map .list) ≤ 1 := by
    induction RR with
    | nil => exact ⟨rfl, by decide⟩
    | cons r t ih =>
      have h := told_ok r
      simp only [List.map_cons, PyData.canLayAll0, PyData.depthAll, h.1, h.2, ih.1, Bool.true_and, true_and]
      have := ih.2
      omega
  have h2 := this.2
  simp only [SeqAt.shaped, PyData.canLay0, PyData.depth, this.1, Bool.true_and, decide_eq_true_eq]
  exact decide_eq_true (by k_ne)
set_option maxHeartbeats 8000000 in
theorem law_tail {C : Cx} {acc tl2 ol rl sl c1 c2 c3 c4 c5 c6 : Addr} {nA n1 n2 n3 : Nat} {objs : Nw} {refs rv ov tv : List Value} {RR : List (List UInt8)} (hC : Ok 79 C) (hsc : C.env.scope = (lawFd C.w.params).scope)
    (hcells : C.env.cells = [(Str.ofString "heads", c6), (Str.ofString "pairs", c5), (Str.ofString "texts", c4), (Str.ofString "octets", c3), (Str.ofString "rows", c2), (Str.ofString "script", c1)])
    (hlo : LO refs (RR.map toldD) objs) (hrv : BysAre rv RR) (hRR : ∀ r ∈ RR, 1 ≤ r.length ∧ r.length ≤ 4) (hRn : RR.length ≤ 11) (hR2 : 2 ≤ RR.length) (hov : BysAre ov (RR.map encB)) (htv : StrsAre tv ((RR.map txt).map S)) :
    Ev C (execs (lawRest 4 C.w.params) C.env) ⟨[(Str.ofString "told", some (.ref acc)), (Str.ofString "popped", none), (Str.ofString "order", none), (Str.ofString "unlike", none)],
      (tl2, listO tv n1) :: (ol, listO ov n2) :: (rl, listO rv n3) :: (c1, cellO (some (.ref sl))) :: (c2, cellO (some (.ref rl))) :: (c3, cellO (some (.ref ol))) :: (c4, cellO (some (.ref tl2))) :: (c5, cellO none) :: (c6, cellO none) :: (64, tabObj #[]) :: (acc, listO refs nA) :: objs⟩
      (retK fun v nw' => ∃ t r, Take t nw' r ∧ (v = .bool true ∧ ∃ ps, TabSt lamPos ps ∧ t = [(64, tabObj ps)])) := by
  refine Ev_lawRest rfl ?_
  dsimp only [List.drop]
  simp only [lit_e, lit_eq]
  refine Ev_cons ?_
  refine Ev_If ?_
  repeat kpc_turns
  refine Ev_ListComp ["row"] [] ?_ (clos_of hcells (by kernel_rfl))
  dsimp only
  repeat kpc_turns
  have hrl := bys_len hrv
  refine Ev_iterL (n := n3) (At.own (.tail (.tail .head))) fun it o ho => ?_
  refine ⟨[(it, o)], _, Take.perm (by kas_types), fun C' acc2 X => ?_⟩
  have hC' := X.ok hC rfl
  have hsc' := X.sc' hsc
  have hcells' := X.cells
  have hx : C'.hb.get? rl = some (listO rv n3) := X.cell (a := rl) (by repeat (first | with_reducible exact HasN.head | with_reducible apply HasN.tail))
  refine CompS.of rfl rfl (Ev_selfL (.tail .head) ho ⟨rfl, rfl⟩) ?_
  refine CompL.ind1o (fun n st => ∃ (j : Nat) (o : Obj) (a : Option Value) (refs2 : List Value) (objs2 : Nw), st = ⟨[(Str.ofString "row", a)], (acc2, listO refs2 j) :: (it, o) :: objs2⟩ ∧ ItL o rl j ∧ n + j = RR.length ∧ LO refs2 ((RR.take j).map toldD) objs2) ?_ RR.length ⟨0, o, none, [], [], rfl, ho, rfl, .nil⟩
  clear ho
  rintro I_n hI_n Q_n hQ_n n st ⟨j, o, a, refs2, objs2, hst, ho, hn, hlo2⟩
  subst hst
  have hll := hlo2.len
  rw [List.length_map, List.length_take] at hll
  cases n with
  | succ g =>
    have hj : j < RR.length := by k_ne
    obtain ⟨ti, hti⟩ := bys_at hrv (i := j) (b := RR[j]) (by simp [hj])
    obtain ⟨hr1, hr4⟩ := hRR _ (List.getElem_mem hj)
    have hTi : (RR.take (j + 1)).map toldD = (RR.take j).map toldD ++ [toldD RR[j]] := by rw [List.take_add_one, List.getElem?_eq_getElem hj, List.map_append]; rfl
    generalize RR[j] = r at hti hr1 hr4 hTi
    refine Ev_nextL (g := fun o => (acc2, listO refs2 j) :: (it, o) :: objs2) ho (fun _ => .tail .head) (At.base hx) hti fun o' ho' => ?_
    repeat kpc_turns
    refine Ev_assignN ?_
    repeat kpc_turns
    refine Ev_lenB (by simp; omega) fun _ => ?_
    repeat kpc_turns
    have e1 : ((r.toArray.size : Int) + 2).fdiv 3 * 4 = (((r.length + 2) / 3 * 4 : Nat) : Int) := by
      rw [show (r.toArray.size : Int) = (r.length : Int) by simp, Int.fdiv_eq_ediv_of_nonneg _ (by decide)]; omega
    have e2 : (-(r.toArray.size : Int)).fmod 3 = (((3 - r.length % 3) % 3 : Nat) : Int) := by
      rw [show (r.toArray.size : Int) = (r.length : Int) by simp, Int.fmod_eq_emod_of_nonneg _ (by decide)]; omega
    refine Ev_floordiv (by decide) (by decide) fun _ => ?_
    repeat kpc_turns
    refine Ev_mul (fun _ => ?_) (IntMulOk.of_left (intBits_le_64 (by rw [show (r.toArray.size : Int) = (r.length : Int) by simp, Int.fdiv_eq_ediv_of_nonneg _ (by decide)]; omega) (by rw [show (r.toArray.size : Int) = (r.length : Int) by simp, Int.fdiv_eq_ediv_of_nonneg _ (by decide)]; omega)))
    rw [e1]
    repeat kpc_turns
    refine Ev_lenB (by simp; omega) fun _ => ?_
    repeat kpc_turns
    refine Ev_neg fun _ => ?_
    repeat kpc_turns
    refine Ev_mod (by decide) fun _ => ?_
    rw [e2]
    refine Ev_mulStr (by k_ne) fun ts => ?_
    repeat kpc_turns
    refine Ev_newListP (fun ws => ∀ h, ReadsAll h ws (toldD r) []) (fun h => .cons (.bool _) (.cons (.int _ _) (.cons (.str _ _) .nil))) (by show (3 : Nat) ≤ _; rw [sizeLine_eq]; k_ne) fun dl us hus => ?_
    refine Ev_perm (nw' := (acc2, listO refs2 j) :: (it, o') :: (dl, listO us 0) :: objs2) ?_ ?_
    · exact (List.perm_append_comm (l₁ := [(dl, listO us 0)]) (l₂ := [(acc2, listO refs2 j), (it, o')])).append_right objs2
    refine Ev_append .head (by rw [sizeLine_eq]; k_ne) ?_
    refine ⟨g, Nat.lt_add_one _, hI_n _ _ ⟨j + 1, o', _, _, _, rfl, ho', by k_ne, ?_⟩⟩
    rw [hTi]
    exact hlo2.snoc hus
  | zero =>
    obtain rfl : j = RR.length := by k_ne
    refine Ev_endL hC'.R ho (.tail .head) (.tail .head) (At.base hx) (by rw [List.getElem?_eq_none]; omega) ?_
    refine drawK_n ?_
    refine hQ_n _ ?_
    dsimp only [List.cons_append, List.nil_append]
    rw [List.take_length] at hlo2
    refine Ev_neSame (d := .list ((RR.map toldD).map .list)) (hC.R.le (by k_ne)) (hlo.reads (n := nA) (.inl (by simp)) fun p hp => .inl (by simp [hp])) (hlo2.reads (n := RR.length) (.inl (by simp)) fun p hp => .inl (by simp [hp])) (shaped_told RR) ?_
    refine Ev_bool ?_
    refine onB_f ?_
    refine Ev_nil ?_
    (try refine Imp.use (by assumption) ?_)
    refine nextK_n ?_
    refine Ev_perm (nw' := [(tl2, listO tv n1), (ol, listO ov n2), (rl, listO rv n3), (c1, cellO (some (.ref sl))), (c2, cellO (some (.ref rl))), (c3, cellO (some (.ref ol))), (c4, cellO (some (.ref tl2))), (c5, cellO none), (c6, cellO none), (64, tabObj #[])] ++ ((acc, listO refs nA) :: objs ++ ((acc2, listO refs2 RR.length) :: objs2))) ?_ ?_
    · exact List.perm_append_comm (l₁ := (acc2, listO refs2 RR.length) :: objs2) (l₂ := (tl2, listO tv n1) :: (ol, listO ov n2) :: (rl, listO rv n3) :: (c1, cellO (some (.ref sl))) :: (c2, cellO (some (.ref rl))) :: (c3, cellO (some (.ref ol))) :: (c4, cellO (some (.ref tl2))) :: (c5, cellO none) :: (c6, cellO none) :: (64, tabObj #[]) :: (acc, listO refs nA) :: objs)
    refine Ev_take (Take.left _ _) ?_
    refine Ev_execsEq (l' := lawRest 5 C.w.params) (by kernel_rfl) ?_
    exact law_tail5 hC hsc hcells hrv hRR hRn hR2 hov htv
end
section
open PySem PySem.W PyProof.Rows PySem.Calls
set_option maxRecDepth 100000
theorem take4 (sv : List Value) : slicePick sv.toArray none (some (4 : Int)) none = (sv.take 4).toArray := by
  rw [slicePick_slc, show (4 : Int) = ((4 : Nat) : Int) from rfl, slc_to]
def tailRows : List (List UInt8) := [[65, 67], [65], [67, 255, 65], [0], [65, 67, 0, 65], [251, 255], [65, 0]]
set_option maxHeartbeats 8000000 in
theorem law_spec {p : Program} {w : World} {hb : Heap} (B : Bs w hb) {sl : Addr} {sv : List Value} {si : List Int} (hsl : hb.IsList sl sv.toArray) (hsi : IntsAre sv si) (hz : sv.length < 64) :
    Fn p w 80 hb (.ref 178) [.ref sl] [(64, tabObj #[])] (fun v nw' => v = .bool true ∧ ∃ ps, TabSt lamPos ps ∧ nw' = [(64, tabObj ps)]) := by
  refine FnA.trim ?_
  refine Fn_def (["told", "popped", "order", "unlike"] : List Str) ["script", "rows", "octets", "texts", "pairs", "heads"] B rfl (by kernel_rfl) (fun s _ => BindsTo.of_eq (binds := [(Str.ofString "script", .ref sl)]) rfl) (by kernel_rfl) (by decide +kernel) ?_
  rintro C ca hlen hC rfl rfl rfl hsc hcells _ _
  obtain ⟨c1, c2, c3, c4, c5, c6, rfl⟩ : ∃ c1 c2 c3 c4 c5 c6, ca = [c1, c2, c3, c4, c5, c6] := by match ca, hlen with | [a, b, c, d, e, f], _ => exact ⟨a, b, c, d, e, f, rfl⟩
  replace hcells : C.env.cells = [(Str.ofString "heads", c6), (Str.ofString "pairs", c5), (Str.ofString "texts", c4), (Str.ofString "octets", c3), (Str.ofString "rows", c2), (Str.ofString "script", c1)] := hcells
  refine ⟨_, _, .cell (kind_at hsc rfl) (cell_at hcells (by repeat (first | with_reducible exact cl_head | (with_reducible apply cl_tail (by decide +kernel))))) .head .nil, ?_⟩
  dsimp only [List.map, List.nil_append, List.cons_append, List.append]
  simp only [lit_e, lit_eq]
  repeat kpc_turns
  refine Ev_ListComp ["k"] [("script", c1)] ?_ (clos_of hcells (by kernel_rfl))
  dsimp only
  repeat ((fail_if_success (with_reducible refine isSubs ?_)); kpc_turns)
  refine Ev_SubscriptI ?_
  repeat kpc_turns
  intro s1
  refine Ev_sliceI (xs := sv) hsl (At.own .head) .none (.int _ _) .none (by decide) (by rw [sizeLine_eq]; k_ne) fun sd => ?_
  rw [take4]
  dsimp only
  have hm4 : (sv.take 4).length ≤ 4 := by rw [List.length_take]; omega
  repeat kpc_turns
  refine Ev_lenList (n := 0) (by kct_strs) (by k_ne) fun _ => ?_
  generalize (sv.take 4).length = m at hm4
  repeat kpc_turns
  refine Ev_range1 fun r t1 u1 v1 => ?_
  refine Ev_iterN (by kct_strs) (by k_ne) fun it => ?_
  refine ⟨[(it, itN 0 m)], _, Take.perm (by kas_types), fun C' acc X => ?_⟩
  have hC' := X.ok hC rfl
  have hsc' := X.sc' hsc
  have hcells' := X.cells
  have hx := X.cell (a := c1) (by repeat (first | with_reducible exact HasN.head | with_reducible apply HasN.tail))
  have hsl' : LsAt C' sl sv := by obtain ⟨o, a, b⟩ := hsl; exact ⟨o, X.hb.1 _ _ a, b⟩
  refine CompS.of rfl rfl (Ev_selfR (.tail .head) ⟨rfl, rfl⟩) ?_
  refine CompL.ind1o (fun n st => ∃ (i : Nat) (a : Option Value) (vs : List Value) (Rs : List (List UInt8)), st = ⟨[(Str.ofString "k", a)], [(acc, listO vs i), (it, itN i n)]⟩ ∧ n + i = m ∧ BysAre vs Rs ∧ Rs.length = i ∧ ∀ r ∈ Rs, 1 ≤ r.length ∧ r.length ≤ 4) ?_ m
      ⟨0, none, [], [], rfl, by k_ne, .nil, rfl, by simp⟩
  rintro I_n hI_n Q_n hQ_n n st ⟨i, a, vs, Rs, hst, hn, hvs, hRl, hR4⟩
  subst hst
  cases n with
  | succ g =>
    refine Ev_nextN (.tail .head) fun _ => ?_
    repeat kpc_turns
    refine Ev_assignN ?_
    repeat ((fail_if_success (with_reducible refine isSubs ?_)); kpc_turns)
    refine Ev_SubscriptI ?_
    repeat kpc_turns
    intro s2
    refine Ev_sliceI (xs := sv) hsl' (At.own .head) (.int _ _) .none (.int _ _) (by decide) (by rw [sizeLine_eq]; k_ne) fun sd2 => ?_
    dsimp only
    have hpk := hsi.pick (some (i : Int)) none (some 4)
    repeat kpc_turns
    refine Ev_sumInts hC'.R.hd (n := 0) (by kct_strs) hpk fun _ => ?_
    repeat kpc_turns
    refine Ev_absQ fun Q_c hQ_c => ?_
    refine Ev_call (k := 79) [] (by kas_types) hC'.R fun hb' kp => ((row_spec (k := 78) (hC'.B.keeps kp)).clean).mono ?_
    rintro _ _ ⟨⟨b, tb, rfl, hb1, hb4⟩, rfl⟩
    refine hQ_c _ _ ?_
    dsimp only [List.nil_append]
    repeat kpc_turns
    refine Ev_take (t := [(acc, listO vs i), (it, itN (i + 1) g)]) (by kas_types) ?_
    refine Ev_append .head (by rw [bys_len hvs, hRl, sizeLine_eq]; k_ne) ?_
    refine ⟨g, Nat.lt_add_one _, hI_n _ _ ⟨i + 1, _, _, Rs ++ [b.toList], rfl, by k_ne, ?_, by rw [List.length_append, hRl]; rfl, ?_⟩⟩
    · have hone : BysAre [.bytes b tb] [b.toList] := by
        have := BysAre.cons b.toList tb .nil
        simpa using this
      exact bys_app hvs hone
    · intro r hr
      rcases List.mem_append.mp hr with hr | hr
      · exact hR4 r hr
      · obtain rfl := List.mem_singleton.mp hr
        simpa using ⟨hb1, hb4⟩
  | zero =>
    obtain rfl : i = m := by k_ne
    refine Ev_endN hC'.R (.tail .head) (.tail .head) ?_
    refine drawK_n ?_
    refine hQ_n _ ?_
    dsimp only [List.cons_append, List.nil_append]
    repeat kpc_turns
    clear hx hsl' hcells' hsc' hC' X
    refine Ev_newListP (fun ws => BysAre ws tailRows) (.cons _ _ (.cons _ _ (.cons _ _ (.cons _ _ (.cons _ _ (.cons _ _ (.cons _ _ .nil))))))) (by show (7 : Nat) ≤ _; rw [sizeLine_eq]; k_ne) fun tl ws hws => ?_
    have hrv := bys_app hvs hws
    have hwl : ws.length = 7 := bys_len hws
    have hvl := bys_len hvs
    refine Ev_addList (n := i) (m := 0) (At.own (.tail .head)) (At.own .head) (by rw [sizeLine_eq, hvl, hRl, hwl]; omega) fun rl => ?_
    have hRR : ∀ r ∈ Rs ++ tailRows, 1 ≤ r.length ∧ r.length ≤ 4 := by
      intro r hr
      rcases List.mem_append.mp hr with hr | hr
      · exact hR4 r hr
      · exact (by decide : ∀ r ∈ tailRows, 1 ≤ r.length ∧ r.length ≤ 4) r hr
    have hRn : (Rs ++ tailRows).length ≤ 11 := by rw [List.length_append, hRl]; show i + 7 ≤ 11; omega
    have hR2 : 2 ≤ (Rs ++ tailRows).length := by rw [List.length_append, hRl]; show 2 ≤ i + 7; omega
    generalize Rs ++ tailRows = RR at hrv hRR hRn hR2 ⊢
    generalize vs ++ ws = rv at hrv ⊢
    repeat ((fail_if_success (with_reducible refine isAssC ?_)); kpc_turns)
    clear hvl hvs hRl hR4 hm4
    refine Ev_take (t := [(rl, listO rv 0), (c1, cellO (some (.ref sl))), (c2, cellO (some (.ref rl))), (c3, cellO none), (c4, cellO none), (c5, cellO none), (c6, cellO none), (64, tabObj #[])]) (by kas_types) ?_
    repeat ((fail_if_success (with_reducible refine isAssC ?_)); kpc_turns)
    refine Ev_AssignCell (kind_at hsc (by kernel_rfl)) ?_
    refine Ev_ListComp ["row"] [] ?_ (clos_of hcells (by kernel_rfl))
    dsimp only
    repeat kpc_turns
    have hrl := bys_len hrv
    refine Ev_iterL (n := 0) (At.own .head) fun it o ho => ?_
    refine ⟨[(it, o)], _, Take.perm (by kas_types), fun C' ol X => ?_⟩
    have hC' := X.ok hC rfl
    have hsc' := X.sc' hsc
    have hcells' := X.cells
    have hx : C'.hb.get? rl = some (listO rv 0) := X.cell (a := rl) (by repeat (first | with_reducible exact HasN.head | with_reducible apply HasN.tail))
    refine CompS.of rfl rfl (Ev_selfL (.tail .head) ho ⟨rfl, rfl⟩) ?_
    refine CompL.ind1o (fun n st => ∃ (j : Nat) (o : Obj) (a : Option Value) (vs : List Value), st = ⟨[(Str.ofString "row", a)], [(ol, listO vs j), (it, o)]⟩ ∧ ItL o rl j ∧ n + j = RR.length ∧ BysAre vs ((RR.take j).map encB)) ?_ RR.length ⟨0, o, none, [], rfl, ho, rfl, .nil⟩
    clear ho
    rintro I_n hI_n Q_n hQ_n n st ⟨j, o, a, ov, hst, ho, hn, hov⟩
    subst hst
    have hwl := bys_len hov
    rw [List.length_map, List.length_take] at hwl
    cases n with
    | succ g =>
      have hj : j < RR.length := by k_ne
      obtain ⟨ti, hti⟩ := bys_at hrv (i := j) (b := RR[j]) (by simp [hj])
      refine Ev_nextL (g := fun o => [(ol, listO ov j), (it, o)]) ho (fun _ => .tail .head) (At.base hx) hti fun o' ho' => ?_
      repeat kpc_turns
      refine Ev_assignN ?_
      repeat kpc_turns
      refine Ev_absQ fun Q_c hQ_c => ?_
      refine Ev_call (k := 79) [] (by kas_types) hC'.R fun hb' kp => (b64_spec (k := 76) (hC'.B.keeps kp) (hRR _ (List.getElem_mem hj)).2).mono ?_
      rintro _ _ ⟨⟨tb, rfl⟩, rfl⟩
      refine hQ_c _ _ ?_
      dsimp only [List.nil_append]
      repeat kpc_turns
      refine Ev_append (by kst_all1) (by rw [sizeLine_eq]; k_ne) ?_
      refine ⟨g, Nat.lt_add_one _, hI_n _ _ ⟨j + 1, o', _, _, rfl, ho', by k_ne, ?_⟩⟩
      rw [List.take_add_one, List.getElem?_eq_getElem hj, List.map_append]
      exact bys_app hov (.cons (encB RR[j]) tb .nil)
    | zero =>
      obtain rfl : j = RR.length := by k_ne
      refine Ev_endL hC'.R ho (.tail .head) (.tail .head) (At.base hx) (by rw [List.getElem?_eq_none]; omega) ?_
      refine drawK_n ?_
      refine hQ_n _ ?_
      dsimp only [List.cons_append, List.nil_append]
      rw [List.take_length] at hov
      repeat ((fail_if_success (with_reducible refine isAssC ?_)); kpc_turns)
      refine Ev_take (t := [(ol, listO ov RR.length), (rl, listO rv 0), (c1, cellO (some (.ref sl))), (c2, cellO (some (.ref rl))), (c3, cellO (some (.ref ol))), (c4, cellO none), (c5, cellO none), (c6, cellO none), (64, tabObj #[])]) (by kas_types) ?_
      clear ho hx hcells' hsc' hC' X hwl
      repeat ((fail_if_success (with_reducible refine isAssC ?_)); kpc_turns)
      refine Ev_AssignCell (kind_at hsc (by kernel_rfl)) ?_
      refine Ev_ListComp ["row"] [] ?_ (clos_of hcells (by kernel_rfl))
      dsimp only
      repeat kpc_turns
      refine Ev_iterL (n := RR.length) (At.own .head) fun it o ho => ?_
      refine ⟨[(it, o)], _, Take.perm (by kas_types), fun C' tl2 X => ?_⟩
      have hC' := X.ok hC rfl
      have hsc' := X.sc' hsc
      have hcells' := X.cells
      have hx : C'.hb.get? ol = some (listO ov RR.length) := X.cell (a := ol) (by repeat (first | with_reducible exact HasN.head | with_reducible apply HasN.tail))
      refine CompS.of rfl rfl (Ev_selfL (.tail .head) ho ⟨rfl, rfl⟩) ?_
      refine CompL.ind1o (fun n st => ∃ (j : Nat) (o : Obj) (a : Option Value) (tv : List Value), st = ⟨[(Str.ofString "row", a)], [(tl2, listO tv j), (it, o)]⟩ ∧ ItL o ol j ∧ n + j = RR.length ∧ StrsAre tv (((RR.take j).map txt).map S)) ?_ RR.length ⟨0, o, none, [], rfl, ho, rfl, .nil⟩
      clear ho
      rintro I_n hI_n Q_n hQ_n n st ⟨j, o, a, tv, hst, ho, hn, htv⟩
      subst hst
      have hvl := strs_len htv
      rw [List.length_map, List.length_map, List.length_take] at hvl
      have hwl : ov.length = RR.length := by rw [bys_len hov, List.length_map]
      cases n with
      | succ g =>
        have hj : j < RR.length := by k_ne
        obtain ⟨ti, hti⟩ := bys_at hov (i := j) (b := encB RR[j]) (by simp [hj])
        have hr4 := (hRR _ (List.getElem_mem hj)).2
        have hTi : ((RR.take (j + 1)).map txt).map S = ((RR.take j).map txt).map S ++ [S (txt RR[j])] := by rw [List.take_add_one, List.getElem?_eq_getElem hj, List.map_append, List.map_append]; rfl
        generalize RR[j] = r at hti hr4 hTi
        refine Ev_nextL (g := fun o => [(tl2, listO tv j), (it, o)]) ho (fun _ => .tail .head) (At.base hx) hti fun o' ho' => ?_
        repeat kpc_turns
        refine Ev_assignN ?_
        repeat kpc_turns
        refine Ev_Meth "str" "str.join" ?_ F.plainAttrs_str F.slot_str_join F.type_str_join
        repeat kpc_turns
        refine Ev_ListComp ["sign"] [] ?_ (clos_of hcells' (by kernel_rfl))
        dsimp only
        repeat kpc_turns
        refine Ev_iterB fun it2 o2 ho2 => ?_
        refine ⟨[(it2, o2)], _, Take.perm (by kas_types), fun C2 acc2 X2 => ?_⟩
        have hC2 := X2.ok hC' rfl
        have hsc2 := X2.sc' hsc'
        have hcells2 := X2.cells
        refine CompS.of rfl rfl (Ev_selfB (.tail .head) ho2 ⟨rfl, rfl⟩) ?_
        refine CompL.ind1o (fun n st => ∃ (j : Nat) (o : Obj) (a : Option Value) (tv : List Value), st = ⟨[(Str.ofString "sign", a)], [(acc2, listO tv j), (it2, o)]⟩ ∧ ItB o (encB r).toArray ti j ∧ n + j = (encB r).length ∧ StrsAre tv ((((encB r).take j).map fun c => [c.toNat]).map S)) ?_ (encB r).length ⟨0, o2, none, [], rfl, ho2, rfl, .nil⟩
        clear ho2
        rintro I_n2 hI_n2 Q_n2 hQ_n2 n2 st ⟨i2, o2, a2, us, hst, ho2, hn2, hus⟩
        subst hst
        have hel := encB_len hr4
        have hul := strs_len hus
        rw [List.length_map, List.length_map, List.length_take] at hul
        cases n2 with
        | succ g2 =>
          have hi2 : i2 < (encB r).length := by k_ne
          refine Ev_nextB (g := fun o => [(acc2, listO us i2), (it2, o)]) ho2 (fun _ => .tail .head) (c := (encB r)[i2]) (by simp [hi2]) fun o3 u3 ho3 => ?_
          repeat kpc_turns
          refine Ev_assignN ?_
          repeat kpc_turns
          refine Ev_chr (by exact (encB r)[i2].toNat_lt) fun tc => ?_
          repeat kpc_turns
          refine Ev_append (by kst_all1) (by rw [sizeLine_eq]; k_ne) ?_
          refine ⟨g2, Nat.lt_add_one _, hI_n2 _ _ ⟨i2 + 1, o3, _, _, rfl, ho3, by k_ne, ?_⟩⟩
          rw [List.take_add_one, List.getElem?_eq_getElem hi2, List.map_append, List.map_append]
          exact strs_app hus (.cons _ tc .nil)
        | zero =>
          obtain rfl : i2 = (encB r).length := by k_ne
          refine Ev_endB hC2.R ho2 (.tail .head) (.tail .head) (by simp) ?_
          refine drawK_n ?_
          refine hQ_n2 _ ?_
          dsimp only [List.cons_append, List.nil_append]
          rw [List.take_length] at hus
          repeat kpc_turns
          have hfl : ((encB r).map fun c => [c.toNat]).flatten = txt r := flat_one _
          refine Ev_join (At.own .head) hus (by rw [hfl, txt, List.length_map]; omega) fun tj => ?_
          rw [hfl]
          refine Ev_take (t := [(tl2, listO tv j), (it, o')]) (by kas_types) ?_
          refine Ev_append (by kst_all1) (by rw [sizeLine_eq]; k_ne) ?_
          refine ⟨g, Nat.lt_add_one _, hI_n _ _ ⟨j + 1, o', _, _, rfl, ho', by k_ne, ?_⟩⟩
          rw [hTi]
          exact strs_app htv (.cons _ tj .nil)
      | zero =>
        obtain rfl : j = RR.length := by k_ne
        refine Ev_endL hC'.R ho (.tail .head) (.tail .head) (At.base hx) (by rw [List.getElem?_eq_none]; omega) ?_
        refine drawK_n ?_
        refine hQ_n _ ?_
        dsimp only [List.cons_append, List.nil_append]
        rw [List.take_length] at htv
        repeat ((fail_if_success (with_reducible refine isAssC ?_)); kpc_turns)
        refine Ev_take (t := [(tl2, listO tv RR.length), (ol, listO ov RR.length), (rl, listO rv 0), (c1, cellO (some (.ref sl))), (c2, cellO (some (.ref rl))), (c3, cellO (some (.ref ol))), (c4, cellO (some (.ref tl2))), (c5, cellO none), (c6, cellO none), (64, tabObj #[])]) (by kas_types) ?_
        clear ho hx hcells' hsc' hC' X hvl
        repeat ((fail_if_success (with_reducible refine isAssC ?_)); kpc_turns)
        refine Ev_AssignComp ["k"] [("texts", c4), ("octets", c3)] ?_ (swaps_local (Ok.hk hC) (kind_at hsc (by kernel_rfl)) rfl (by decide +kernel)) (kind_at hsc (by kernel_rfl)) (Ok.hk hC) (clos_of hcells (by kernel_rfl))
        dsimp only
        repeat kpc_turns
        refine Ev_lenList (n := 0) (by kct_strs) (by k_ne) fun _ => ?_
        rw [hrl]
        repeat kpc_turns
        refine Ev_range1 fun r t1 u1 v1 => ?_
        refine Ev_iterN (by kct_strs) (by k_ne) fun it => ?_
        refine ⟨[(it, itN 0 RR.length)], _, Take.perm (by kas_types), fun C' acc X => ?_⟩
        have hC' := X.ok hC rfl
        have hsc' := X.sc' hsc
        have hcells' := X.cells
        have hx3 := X.cell (a := c3) (by repeat (first | with_reducible exact HasN.head | with_reducible apply HasN.tail))
        have hx4 := X.cell (a := c4) (by repeat (first | with_reducible exact HasN.head | with_reducible apply HasN.tail))
        have hxo : C'.hb.get? ol = some (listO ov RR.length) := X.cell (a := ol) (by repeat (first | with_reducible exact HasN.head | with_reducible apply HasN.tail))
        have hxt : C'.hb.get? tl2 = some (listO tv RR.length) := X.cell (a := tl2) (by repeat (first | with_reducible exact HasN.head | with_reducible apply HasN.tail))
        refine CompS.of rfl rfl (Ev_selfR (.tail .head) ⟨rfl, rfl⟩) ?_
        refine CompL.ind1o (fun n st => ∃ (i : Nat) (a : Option Value) (refs : List Value) (objs : Nw), st = ⟨[(Str.ofString "k", a)], (acc, listO refs i) :: (it, itN i n) :: objs⟩ ∧ n + i = RR.length ∧ LO refs ((RR.take i).map toldD) objs) ?_ RR.length ⟨0, none, [], [], rfl, by k_ne, .nil⟩
        rintro I_n hI_n Q_n hQ_n n st ⟨i, a, refs, objs, hst, hn, hlo⟩
        subst hst
        have hll := hlo.len
        rw [List.length_map, List.length_take] at hll
        cases n with
        | succ g =>
          have hi : i < RR.length := by k_ne
          refine Ev_nextN (.tail .head) fun tk => ?_
          repeat kpc_turns
          refine Ev_assignN ?_
          repeat kpc_turns
          obtain ⟨to, hto⟩ := bys_at hov (i := i) (b := encB RR[i]) (by simp [hi])
          obtain ⟨tt, htt⟩ := strs_at htv (i := i) (x := S (txt RR[i])) (by simp [hi])
          obtain ⟨hr1, hr4⟩ := hRR _ (List.getElem_mem hi)
          have hTi : (RR.take (i + 1)).map toldD = (RR.take i).map toldD ++ [toldD RR[i]] := by rw [List.take_add_one, List.getElem?_eq_getElem hi, List.map_append]; rfl
          generalize RR[i] = r at hto htt hr1 hr4 hTi
          refine Ev_subList (n := RR.length) (At.base hxo) (by k_ne) (by k_ne) (by rw [Int.toNat_natCast]; exact hto) ?_
          repeat kpc_turns
          refine Ev_typeOf ty_bytes ?_
          repeat kpc_turns
          refine Ev_subList (n := RR.length) (At.base hxt) (by k_ne) (by k_ne) (by rw [Int.toNat_natCast]; exact htt) ?_
          repeat kpc_turns
          have hxl := txt_len hr1 hr4
          refine Ev_lenS (x := txt r) (by k_ne) fun tl => ?_
          rw [txt_len hr1 hr4]
          repeat kpc_turns
          refine Ev_Meth "str" "str.lstrip" ?_ F.plainAttrs_str F.slot_str_lstrip F.type_str_lstrip
          repeat kpc_turns
          refine Ev_subList (n := RR.length) (At.base hxt) (by k_ne) (by k_ne) (by rw [Int.toNat_natCast]; exact htt) ?_
          repeat kpc_turns
          refine Ev_absQ fun Q_c hQ_c => ?_
          refine Ev_call (k := 79) [] (by kas_types) hC'.R fun hb' kp => (alpha_spec (k := 78) (hC'.B.keeps kp)).mono ?_
          rintro _ _ ⟨⟨ta, rfl⟩, rfl⟩
          refine hQ_c _ _ ?_
          dsimp only [List.nil_append]
          repeat kpc_turns
          refine Ev_lstrip (by rw [sizeLine_eq]; k_ne) fun ts => ?_
          rw [txt_strip hr1 hr4]
          repeat kpc_turns
          refine Ev_newListP (fun ws => ∀ h, ReadsAll h ws (toldD r) []) (fun h => .cons (.bool _) (.cons (.int _ _) (.cons (.str _ _) .nil))) (by show (3 : Nat) ≤ _; rw [sizeLine_eq]; k_ne) fun dl us hus => ?_
          refine Ev_perm (nw' := (acc, listO refs i) :: (it, itN (i + 1) g) :: (dl, listO us 0) :: objs) ?_ ?_
          · exact (List.perm_append_comm (l₁ := [(dl, listO us 0)]) (l₂ := [(acc, listO refs i), (it, itN (i + 1) g)])).append_right objs
          refine Ev_append .head (by rw [sizeLine_eq]; k_ne) ?_
          refine ⟨g, Nat.lt_add_one _, hI_n _ _ ⟨i + 1, _, _, _, rfl, by k_ne, ?_⟩⟩
          rw [hTi]
          exact hlo.snoc hus
        | zero =>
          obtain rfl : i = RR.length := by k_ne
          refine Ev_endN hC'.R (.tail .head) (.tail .head) ?_
          refine drawK_n ?_
          refine hQ_n _ ?_
          dsimp only [List.cons_append, List.nil_append]
          rw [List.take_length] at hlo
          refine ⟨_, .head, ?_⟩
          (try refine Imp.use (by assumption) ?_)
          refine nextK_n ?_
          refine Ev_perm (nw' := ([(tl2, listO tv RR.length), (ol, listO ov RR.length), (rl, listO rv 0), (c1, cellO (some (.ref sl))), (c2, cellO (some (.ref rl))), (c3, cellO (some (.ref ol))), (c4, cellO (some (.ref tl2))), (c5, cellO none), (c6, cellO none), (64, tabObj #[])] ++ ((acc, listO refs RR.length) :: objs)) ++ [(r, rangeO 0 (RR.length : Nat) 1 t1 u1 v1)]) ?_ ?_
          · exact (List.perm_append_comm (l₁ := (acc, listO refs RR.length) :: objs) (l₂ := (r, rangeO 0 (RR.length : Nat) 1 t1 u1 v1) :: [(tl2, listO tv RR.length), (ol, listO ov RR.length), (rl, listO rv 0), (c1, cellO (some (.ref sl))), (c2, cellO (some (.ref rl))), (c3, cellO (some (.ref ol))), (c4, cellO (some (.ref tl2))), (c5, cellO none), (c6, cellO none), (64, tabObj #[])])).trans (List.perm_append_comm (l₁ := [(r, rangeO 0 (RR.length : Nat) 1 t1 u1 v1)]) (l₂ := [(tl2, listO tv RR.length), (ol, listO ov RR.length), (rl, listO rv 0), (c1, cellO (some (.ref sl))), (c2, cellO (some (.ref rl))), (c3, cellO (some (.ref ol))), (c4, cellO (some (.ref tl2))), (c5, cellO none), (c6, cellO none), (64, tabObj #[])] ++ ((acc, listO refs RR.length) :: objs)))
          refine Ev_take (Take.left _ _) ?_
          refine Ev_execsEq (l' := lawRest 4 C.w.params) (by kernel_rfl) ?_
          exact law_tail hC (hsc.trans (by kernel_rfl)) hcells hlo hrv hRR hRn hR2 hov htv
end
end Mine
open PySem PySem.W PyProof.Rows PySem.Calls
set_option maxRecDepth 100000 in
theorem Mine.room_caller : Mine.Room 80 callerA := ⟨rfl, by decide +kernel, by decide +kernel⟩
set_option maxRecDepth 100000 in
theorem Mine.law_end {p : Program} {w : World} {loose : List Str} {mean : ExcName → Option Value} {mg mb : Str → Option Value} {q : Program} {s₁ : Shared} {l : Addr} {vs : List Value} {ns : List Int} {c : ClaimW} {cl : Str → Option Addr} {mean' : ExcName → Option Value} {args : List WData}
    (hT : TabsAt [(68, 64)] s₁.heap) (h64 : s₁.heap.get? 64 = some (tabObj #[])) (KX : (Mine.KF w.params).In s₁.heap) (T : Top q loose mean mg mb s₁.heap) (hL : s₁.heap.IsList l vs.toArray) (hI : IntsAre vs ns) (hz : ¬ ((63 : Int) < (ns.length : Int))) (hg : s₁.gens = #[])
    (hr : ∀ cls, c.raises args cls = false) (hp : c.post args (.bool true) args = true) :
    codeAny (model p w) callerA (.call (.ref 178) { pos := [.ref l] }) (fun r s' => GoodW c cl mean' args { s₁ with heap := ghostOf s₁.heap [(68, 64)] } r s' ∧ GrownAll [(68, 64)] s'.heap) s₁ := by
  have B : Mine.Bs w (ghostOf s₁.heap [(68, 64)]) := ⟨ghost_K hT KX (by kernel_rfl), _, _, _, _, _, ghost_top hT T⟩
  have hzz : vs.length < 64 := by have := hI.length; omega
  have hkeep : Mine.Keeps (ghostOf s₁.heap [(68, 64)]) s₁.heap := ⟨fun b o e => of_hideAll _ e, Nat.le_of_eq (hideAll_size _ _)⟩
  have hown : Mine.Owns (ghostOf s₁.heap [(68, 64)]) s₁.heap [(64, tabObj #[])] := by
    refine ⟨fun p hp => ?_, by simp⟩
    obtain rfl := List.mem_singleton.mp hp
    exact ⟨h64, hideAll_none _ (by simp)⟩
  have H := Mine.law_spec (p := p) B (ghost_list hT hL) hI hzz callerA s₁.heap s₁.gens s₁.drawn s₁.toks s₁.os Mine.room_caller hkeep hown
  refine codeAny_mono H fun r s' hr' => ?_
  obtain ⟨v, nw', rfl, es, kp, ow, rfl, ps, hps, rfl⟩ := hr'
  have h64' := (ow.1 (64, tabObj ps) List.mem_cons_self).1
  refine ⟨⟨.inl ⟨.bool true, _, [], rfl, hr, .bool true, hp, unshared_nil⟩, kp.1, ?_, ?_⟩, ⟨ps, h64'⟩, trivial⟩
  · rw [es]
  · rw [es]; exact hg
set_option maxRecDepth 100000 in
set_option maxHeartbeats 8000000 in
theorem PySem.Challenge.cw_in0052_01_holds : PySem.Challenge.rw_in0052_01.Holds := by
  refine Mine.hd ⟨Mine.left, ?_⟩
  k_fill
  intro w s₀ s₁ mg mb G Y fa o pm cd doc dV kV ho hd hcd hD hmg hg args vals as hpre hlay hrd hwl hlo
  have KX := km_in_of Y
  km_tabs Y
  have X := (Ground.X G).1
  have V := (Ground.X G).2
  refine Ground.open G ?_
  intro T B D TE TW
  try (refine guard_noD D (by decide +kernel) ?_; clear D)
  km_lay T hmg ho hd cd
  have hfa : fa = 178 := by
    have q : mg (Str.ofString "law") = some (.ref 178) := mg_of KX T.g (by kernel_rfl)
    have := hmg.symm.trans q
    injection this with this
    injection this
  subst hfa
  clear hmg hd ho hcd
  wrow_args hpre hlay hrd hwl hlo
  all_goals (
    first | refine callC_kw (enter_call ?_) | refine enter_call ?_
    w_top on
    kn_posts
    rename_i hL ra w1 r0 hI hr hc1 hc2
    refine Mine.law_end hT9 (hT8 64 List.mem_cons_self) KX T hL hI (by omega) hg (fun _ => rfl) ?_
    exact postW_of (by wrow_shape) (by wtm_val) (by w_fin))
