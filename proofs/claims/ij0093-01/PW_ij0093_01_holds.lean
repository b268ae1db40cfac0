import PyProof.Rows.All
import Wide.All
import OpenK.AllK
import Wide.FinOn
import PySem.Challenge.RW_ij0093_01
open PySem PySem.W PySem.Spec PySem.Calls PyProof.Rows
set_option Elab.async false
set_option maxRecDepth 100000
set_option hygiene false in
local macro_rules | `(tactic| walk_at "e1") => `(tactic| first | (with_reducible refine r_str (by assumption) fun t s' S => ?_) | (with_reducible refine r_int (by assumption) fun t s' S => ?_) | (with_reducible refine wpAny_BinOp ?_) | (with_reducible refine o_add (by assumption) fun t s' S => ?_) | (with_reducible refine o_sub (by assumption) fun t s' S => ?_) | (with_reducible refine Subscript_ ?_))
set_option hygiene false in
local macro_rules | `(tactic| walk_at "rl") => `(tactic| with_reducible refine r_local (by assumption) ?_ (by kernel_rfl) (by k_dflt rfl) (by kernel_rfl))
set_option hygiene false in
local macro_rules | `(tactic| walk_at "ev") => `(tactic| repeat (first | walk_at "rl" | walk_at "e1"))
set_option hygiene false in
local macro_rules | `(tactic| walk_at "rc") => `(tactic| with_reducible refine r_cell (by assumption) ?_ (by k_dflt rfl) (by assumption) (by simp) (by kernel_rfl))
set_option hygiene false in
local macro_rules | `(tactic| walk_at "lk") => `(tactic| first | assumption | exact updm_eq | (refine (updm_ne (by kernel_rfl)).trans ?_; walk_at "lk") | (k_dflt rfl))
set_option hygiene false in
local macro_rules | `(tactic| walk_at "rk") => `(tactic| with_reducible refine r_local (by assumption) ?_ (by kernel_rfl) (by walk_at "lk") (by kernel_rfl))
namespace Mine
section
local macro_rules | `(tactic| o_head $_) => `(tactic| assumption)
set_option maxHeartbeats 8000000 in
/-- the written part of the heap, by the kit's own maker -/
theorem kmaker (h : PySem.Challenge.rw_ij0093_01.row.Holds) : PySem.Challenge.rw_ij0093_01.row.Holds := by
  km_head
end
noncomputable def hk : Hook := kmHook kmaker.heap_1 [2, 3, 6, 11, 12, 41, 42, 43, 45, 46, 48, 49, 51, 55, 57, 58, 60, 61, 62, 64, 65, 67, 68, 69, 71, 72, 74, 75, 76, 79,
  84, 85, 87, 88, 90, 91, 92, 94, 95, 97, 98, 99, 100, 101, 102, 103, 106, 108, 109, 111, 112, 113, 116, 117, 118, 121,
  122, 123, 126, 127, 128, 131, 132] (fun _ => by kernel_rfl) [93, 63, 129]
end Mine
namespace Mine

noncomputable abbrev pw : Program := PySem.Challenge.pw_ij0093_01
noncomputable abbrev mo (w : World) : Model := model pw w
noncomputable abbrev KK (w : World) : Frag := kmaker.heap_1 w.params

/-- the table of code objects of _translate -/
noncomputable def tabs3 : List Addr := [63]

/-- a table grows -/
noncomputable def Grow (h h' : Heap) : Prop := ∀ x ∈ tabs3, ∀ ps, h.get? x = some (PySem.W.X.tableObj ps) → ∃ more, h'.get? x = some (PySem.W.X.tableObj (ps ++ more))
theorem Grow.refl (h : Heap) : Grow h h := fun _ _ ps e => ⟨#[], by simpa using e⟩
theorem Grow.trans {h h' h'' : Heap} (a : Grow h h') (b : Grow h' h'') : Grow h h'' := fun x hx ps e => by
  obtain ⟨m, e'⟩ := a x hx ps e
  obtain ⟨m', e''⟩ := b x hx _ e'
  exact ⟨m ++ m', by rw [e'', Array.append_assoc]⟩
theorem Grow.of_eq {h h' : Heap} (e : ∀ x ∈ tabs3, h'.get? x = h.get? x) : Grow h h' := fun x hx ps q => ⟨#[], by rw [e x hx, q, Array.append_empty]⟩
theorem Grow.of_keep {h h' : Heap} (e : ∀ x ∈ tabs3, ∀ o, h.get? x = some o → h'.get? x = some o) : Grow h h' := fun x hx ps q => ⟨#[], by rw [e x hx _ q, Array.append_empty]⟩

noncomputable abbrev PM := Addr → Option Obj

/-- the state at hand, in a frame at L: P holds the frozen objects, M the changeable ones -/
structure At (s₀ : Shared) (P : PM) (L : Addr) (m : Str → Option Value) (M : List (Addr × Obj)) (s : Shared) : Prop where
  ns : s.heap.Ns L m
  keep : ∀ a o, P a = some o → s.heap.get? a = some o
  live : ∀ p ∈ M, s.heap.get? p.1 = some p.2
  out : ∀ x ∈ L :: M.map (·.1), P x = none
  nd : (L :: M.map (·.1)).Nodup
  tb : ∀ x ∈ tabs3, P x = none ∧ x ∉ L :: M.map (·.1)
  grow : Grow s₀.heap s.heap
  tx : ∀ x ∈ tabs3, ∃ vs, s.heap.get? x = some (PySem.W.X.tableObj vs) ∧ TriplesOk vs.toList
  os : s.os = s₀.os
  gens : AllBare s₀.gens → AllBare s.gens
  tp : s₀.toks ≤ s.toks
  above : ∀ x ∈ L :: M.map (·.1), s₀.heap.objs.size ≤ x

/-- from s to s': every old object but the tables is as it was -/
structure Mv (X : List Addr) (s s' : Shared) : Prop where
  keep : ∀ a o, a ∉ tabs3 → a ∉ X → s.heap.get? a = some o → s'.heap.get? a = some o
  grow : Grow s.heap s'.heap
  tx : ∀ x ∈ tabs3, ∃ vs, s'.heap.get? x = some (PySem.W.X.tableObj vs) ∧ TriplesOk vs.toList
  os : s'.os = s.os
  gens : AllBare s.gens → AllBare s'.gens
  tp : s.toks ≤ s'.toks

noncomputable def updm (m : Str → Option Value) (x : Str) (v : Value) : Str → Option Value := fun y => if y = x then some v else m y

section
variable {s₀ s : Shared} {P : PM} {L : Addr} {m : Str → Option Value} {M : List (Addr × Obj)}

theorem At.size (S : At s₀ P L m M s) : s₀.heap.objs.size ≤ s.heap.objs.size := Nat.le_of_lt (Nat.lt_of_le_of_lt (S.above L (.head _)) S.ns.lt)
theorem At.toks1 (S : At s₀ P L m M s) (n : Nat) : At s₀ P L m M { s with toks := s.toks + n } :=
  { S with tp := Nat.le_trans S.tp (Nat.le_add_right _ _) }
theorem At.lt (S : At s₀ P L m M s) {x : Addr} (hx : x ∈ L :: M.map (·.1)) : x < s.heap.objs.size := by
  rcases List.mem_cons.mp hx with rfl | hx
  · exact S.ns.lt
  · obtain ⟨p, hp, rfl⟩ := List.mem_map.mp hx
    exact Heap.lt_size (S.live p hp)
theorem At.ltP (S : At s₀ P L m M s) {a : Addr} {o : Obj} (e : P a = some o) : a < s.heap.objs.size := Heap.lt_size (S.keep a o e)
theorem At.ltT (S : At s₀ P L m M s) {a : Addr} (e : a ∈ tabs3) : a < s.heap.objs.size := let ⟨_, h, _⟩ := S.tx a e; Heap.lt_size h

theorem At.reroot (S : At s₀ P L m M s) {n : Nat} (h : n ≤ s.toks) : At { s₀ with toks := n } P L m M s := { S with tp := h }

/-- all the objects at hand stand in another heap, but for one address -/
theorem At.change (S : At s₀ P L m M s) {h' : Heap} (k : ∀ b o, s.heap.get? b = some o → h'.get? b = some o) : At s₀ P L m M { s with heap := h' } :=
  { S with
    ns := S.ns.keeps k
    keep := fun a o e => k _ _ (S.keep a o e)
    live := fun p hp => k _ _ (S.live p hp)
    grow := S.grow.trans (.of_keep fun x _ o e => k x o e)
    tx := fun x hx => let ⟨vs, e, z⟩ := S.tx x hx; ⟨vs, k _ _ e, z⟩ }

theorem At.store (S : At s₀ P L m M s) {m' : Str → Option Value} {h' : Heap} (hn : h'.Ns L m') (hs : Heap.SameBut L s.heap h') : At s₀ P L m' M { s with heap := h' } :=
  { S with
    ns := hn
    keep := fun a o e => (hs.2 a (fun q => by have := S.out L (.head _); rw [← q, e] at this; cases this)).trans (S.keep a o e)
    live := fun p hp => (hs.2 p.1 (fun q => (List.nodup_cons.mp S.nd).1 (q ▸ List.mem_map_of_mem hp))).trans (S.live p hp)
    grow := S.grow.trans (.of_eq fun x hx => hs.2 x fun q => (S.tb x hx).2 (q ▸ List.mem_cons_self ..))
    tx := fun x hx => let ⟨vs, e, z⟩ := S.tx x hx; ⟨vs, (hs.2 x fun q => (S.tb x hx).2 (q ▸ List.mem_cons_self ..)).trans e, z⟩ }

/-- a new object, changeable -/
theorem At.push (S : At s₀ P L m M s) (o : Obj) (hf : o.isFreed = false := by rfl) : At s₀ P L m ((s.heap.objs.size, o) :: M) { s with heap := s.heap.push o } := by
  have T := S.change (h' := s.heap.push o) (fun b ob e => Heap.get?_push_of_some _ e)
  have ne : ∀ x ∈ L :: M.map (·.1), x ≠ s.heap.objs.size := fun x hx => Nat.ne_of_lt (S.lt hx)
  exact { T with
    live := fun p hp => by
      rcases List.mem_cons.mp hp with rfl | hp
      · exact Heap.get?_push_size _ hf
      · exact T.live p hp
    out := fun x hx => by
      rcases List.mem_cons.mp hx with rfl | hx
      · exact S.out _ (.head _)
      · rw [List.map_cons] at hx
        rcases List.mem_cons.mp hx with rfl | hx
        · cases e : P s.heap.objs.size with
          | none => rfl
          | some o => exact absurd (S.ltP e) (Nat.lt_irrefl _)
        · exact S.out _ (.tail _ hx)
    nd := by
      have h := S.nd
      rw [List.nodup_cons] at h ⊢
      rw [List.map_cons, List.nodup_cons]
      refine ⟨fun q => ?_, fun q => ?_, h.2⟩
      · rcases List.mem_cons.mp q with q | q
        · exact ne L (.head _) q
        · exact h.1 q
      · exact ne _ (.tail _ q) rfl
    tb := fun x hx => ⟨(S.tb x hx).1, fun q => by
      rcases List.mem_cons.mp q with q | q
      · exact (S.tb x hx).2 (q ▸ List.mem_cons_self ..)
      · rw [List.map_cons] at q
        rcases List.mem_cons.mp q with q | q
        · exact Nat.ne_of_lt (S.ltT hx) q
        · exact (S.tb x hx).2 (.tail _ q)⟩
    above := fun x hx => by
      rcases List.mem_cons.mp hx with rfl | hx
      · exact S.above _ (.head _)
      · rw [List.map_cons] at hx
        rcases List.mem_cons.mp hx with rfl | hx
        · exact S.size
        · exact S.above _ (.tail _ hx) }
/-- a new object that is dropped -/
theorem At.drop1 (S : At s₀ P L m M s) (o : Obj) : At s₀ P L m M { s with heap := s.heap.push o } :=
  S.change (fun b ob e => Heap.get?_push_of_some _ e)

/-- fewer changeable objects -/
theorem At.weak (S : At s₀ P L m M s) {M' : List (Addr × Obj)} (h : M'.Sublist M) : At s₀ P L m M' s :=
  { S with
    live := fun p hp => S.live p (h.subset hp)
    out := fun x hx => by
      rcases List.mem_cons.mp hx with rfl | hx
      · exact S.out _ (.head _)
      · exact S.out _ (.tail _ ((h.map _).subset hx))
    nd := S.nd.sublist ((h.map _).cons_cons L)
    tb := fun x hx => ⟨(S.tb x hx).1, fun q => (S.tb x hx).2 (by
      rcases List.mem_cons.mp q with rfl | q
      · exact .head _
      · exact .tail _ ((h.map _).subset q))⟩
    above := fun x hx => by
      rcases List.mem_cons.mp hx with rfl | hx
      · exact S.above _ (.head _)
      · exact S.above _ (.tail _ ((h.map _).subset hx)) }

/-- a changed object -/
theorem At.upd (S : At s₀ P L m M s) {pre post : List (Addr × Obj)} {a : Addr} {o o' : Obj} {h' : Heap} (hM : M = pre ++ (a, o) :: post) (hs : Heap.SameBut a s.heap h') (ho : h'.get? a = some o') :
    At s₀ P L m (pre ++ (a, o') :: post) { s with heap := h' } := by
  subst hM
  have hk : (pre ++ (a, o') :: post).map (·.1) = (pre ++ (a, o) :: post).map (·.1) := by simp
  have hin : a ∈ (pre ++ (a, o) :: post).map (·.1) := by simp
  have hL : L ≠ a := fun q => (List.nodup_cons.mp S.nd).1 (q ▸ hin)
  have hn := (List.nodup_cons.mp S.nd).2
  rw [List.map_append, List.map_cons] at hn
  have hpre : ∀ p ∈ pre, p.1 ≠ a := fun p hp q => by
    have := (List.nodup_append.mp hn).2.2 p.1 (List.mem_map_of_mem hp) a (.head _)
    exact this q
  have hpost : ∀ p ∈ post, p.1 ≠ a := fun p hp q => by
    have h1 : p.1 ∈ post.map (·.1) := List.mem_map_of_mem hp
    exact (List.nodup_cons.mp (List.nodup_append.mp hn).2.1).1 (q ▸ h1)
  have hP : ∀ x ob, P x = some ob → x ≠ a := fun x ob e q => by
    have := S.out a (.tail _ hin)
    rw [← q, e] at this; cases this
  have hT : ∀ x ∈ tabs3, x ≠ a := fun x hx q => (S.tb x hx).2 (.tail _ (q ▸ hin))
  exact { S with
    ns := S.ns.sameBut hs hL
    keep := fun x ob e => (hs.2 x (hP x ob e)).trans (S.keep x ob e)
    live := fun p hp => by
      rcases List.mem_append.mp hp with hp | hp
      · exact (hs.2 _ (hpre p hp)).trans (S.live p (List.mem_append_left _ hp))
      · rcases List.mem_cons.mp hp with rfl | hp
        · exact ho
        · exact (hs.2 _ (hpost p hp)).trans (S.live p (List.mem_append_right _ (.tail _ hp)))
    out := hk ▸ S.out
    nd := hk ▸ S.nd
    tb := hk ▸ S.tb
    above := hk ▸ S.above
    grow := S.grow.trans (.of_eq fun x hx => hs.2 x (hT x hx))
    tx := fun x hx => let ⟨vs, e, z⟩ := S.tx x hx; ⟨vs, (hs.2 x (hT x hx)).trans e, z⟩ }

/-- a call has been made -/
theorem At.mv (S : At s₀ P L m M s) {s' : Shared} (v : Mv [] s s') : At s₀ P L m M s' := by
  have k : ∀ a o, a ∉ tabs3 → s.heap.get? a = some o → s'.heap.get? a = some o := fun a o h e => v.keep a o h (by simp) e
  have hT : ∀ x ∈ L :: M.map (·.1), x ∉ tabs3 := fun x hx q => (S.tb x q).2 hx
  refine { S with
    ns := ?_
    keep := fun a o e => k a o (fun q => by have := (S.tb a q).1; rw [e] at this; cases this) (S.keep a o e)
    live := fun p hp => k _ _ (hT _ (.tail _ (List.mem_map_of_mem hp))) (S.live p hp)
    grow := S.grow.trans v.grow
    tx := v.tx
    os := v.os.trans S.os
    gens := fun h => v.gens (S.gens h)
    tp := Nat.le_trans S.tp v.tp }
  obtain ⟨o, es, ep, ho, r⟩ := S.ns
  exact ⟨o, es, ep, k _ _ (hT L (.head _)) ho, r⟩

/-- a changeable object is frozen -/
noncomputable def PM.put (P : PM) (a : Addr) (o : Obj) : PM := fun x => if x = a then some o else P x
theorem At.freeze (S : At s₀ P L m M s) {pre post : List (Addr × Obj)} {a : Addr} {o : Obj} (hM : M = pre ++ (a, o) :: post) : At s₀ (PM.put P a o) L m (pre ++ post) s := by
  subst hM
  have hn := (List.nodup_cons.mp S.nd).2
  rw [List.map_append, List.map_cons] at hn
  have hin : a ∈ (pre ++ (a, o) :: post).map (·.1) := by simp
  have hsub : (pre ++ post).Sublist (pre ++ (a, o) :: post) := List.Sublist.append_left (List.sublist_cons_self ..) _
  have W := S.weak hsub
  have ha : ∀ x ∈ L :: (pre ++ post).map (·.1), x ≠ a := fun x hx q => by
    rcases List.mem_cons.mp hx with rfl | hx
    · exact (List.nodup_cons.mp S.nd).1 (by rw [q]; simp)
    · rw [List.map_append] at hx
      rcases List.mem_append.mp hx with hx | hx
      · exact (List.nodup_append.mp hn).2.2 x hx a (.head _) q
      · exact (List.nodup_cons.mp (List.nodup_append.mp hn).2.1).1 (q ▸ hx)
  exact { W with
    keep := fun x ob e => by
      unfold PM.put at e
      split at e
      · rename_i q; cases e; rw [q]; exact S.live (a, o) (by simp)
      · exact S.keep x ob e
    out := fun x hx => by
      unfold PM.put
      rw [if_neg (ha x hx)]; exact W.out x hx
    tb := fun x hx => ⟨by
      unfold PM.put
      have hxa : x ≠ a := fun q => (S.tb x hx).2 (.tail _ (by rw [q]; exact hin))
      rw [if_neg hxa]; exact (S.tb x hx).1, (W.tb x hx).2⟩ }
end

theorem Mv.refl {X : List Addr} {s : Shared} (h : ∀ x ∈ tabs3, ∃ vs, s.heap.get? x = some (PySem.W.X.tableObj vs) ∧ TriplesOk vs.toList) : Mv X s s := ⟨fun _ _ _ _ e => e, .refl _, h, rfl, id, Nat.le_refl _⟩
theorem Mv.trans {X : List Addr} {s s' s'' : Shared} (a : Mv X s s') (b : Mv X s' s'') : Mv X s s'' :=
  ⟨fun x o h1 h2 e => b.keep x o h1 h2 (a.keep x o h1 h2 e), a.grow.trans b.grow, b.tx, b.os.trans a.os, fun h => b.gens (a.gens h), Nat.le_trans a.tp b.tp⟩

/-- the whole heap but the tables, as frozen -/
noncomputable def allOf (h : Heap) : PM := fun a => if a ∈ tabs3 then none else h.get? a
theorem At.mvOut {s₀ s : Shared} {P : PM} {L m M} (S : At s₀ P L m M s) (hP : ∀ a o, allOf s₀.heap a = some o → P a = some o) : Mv [] s₀ s :=
  ⟨fun a o h _ e => S.keep a o (hP a o (by unfold allOf; rw [if_neg h]; exact e)), S.grow, S.tx, S.os, S.gens, S.tp⟩

/-- the module builtins -/
noncomputable def ModO (o : Obj) : Prop := o.cls = .type "module" ∧ o.dict = some builtinsNs ∧ o.data = .plain
/-- the ground: the written part, the built-ins, the tables -/
structure Ok (w : World) (s : Shared) : Prop where
  K : (KK w).In s.heap
  bm : ∃ o, s.heap.get? 4 = some o ∧ ModO o
  B : ∃ mb, s.heap.Ns builtinsNs mb ∧ ∀ x, x ≠ ("__name__" : Str) → mb x = bootBuiltins x
  T : ∀ x ∈ tabs3, ∃ vs, s.heap.get? x = some (PySem.W.X.tableObj vs) ∧ TriplesOk vs.toList
theorem keys_K (w : World) : (KK w).all (fun p => !tabs3.contains p.1) = true := by kernel_rfl
theorem lookup_mem {K : Frag} {a : Addr} {o : Obj} (e : K.lookup a = some o) : (a, o) ∈ K := by
  induction K with
  | nil => cases e
  | cons p r ih =>
    obtain ⟨b, ob⟩ := p
    rw [List.lookup_cons] at e
    split at e
    · rename_i h; cases e; rw [beq_iff_eq.mp h]; exact .head _
    · exact .tail _ (ih e)
theorem not_tab {w : World} {a : Addr} {o : Obj} (e : (KK w).lookup a = some o) : a ∉ tabs3 := fun h => by
  have := List.all_eq_true.mp (keys_K w) _ (lookup_mem e)
  simp at this
  exact this h
theorem Ok.mv {w : World} {s s' : Shared} (O : Ok w s) (v : Mv [] s s') : Ok w s' := by
  refine ⟨fun a o e => v.keep a o (not_tab e) (by simp) (O.K a o e), (let ⟨o, e, r⟩ := O.bm; ⟨o, v.keep _ _ (by decide) (by simp) e, r⟩), ?_, v.tx⟩
  obtain ⟨mb, ⟨o, es, ep, ho, r⟩, hb⟩ := O.B
  exact ⟨mb, ⟨o, es, ep, v.keep _ _ (by decide) (by simp) ho, r⟩, hb⟩
end Mine
namespace Mine

noncomputable abbrev NoE : Value → Shared → Prop := fun _ _ => False
theorem lift {α : Type} {M : Model} {A : Around} {t : Sem α} {Q : α → Shared → Prop} {E : Value → Shared → Prop} {s : Shared} (h : wpAny M A t Q NoE s) : wpAny M A t Q E s :=
  wpAny_mono h (fun _ _ q => q) fun _ _ x => x.elim

noncomputable def PM.le (P P' : PM) : Prop := ∀ a o, P a = some o → P' a = some o
theorem PM.le.refl (P : PM) : P.le P := fun _ _ e => e
theorem PM.le.trans {P P' P'' : PM} (a : P.le P') (b : P'.le P'') : P.le P'' := fun x o e => b x o (a x o e)
theorem PM.le_put {P : PM} {a : Addr} {o : Obj} (h : P a = none) : P.le (P.put a o) := fun x ob e => by
  unfold PM.put
  split
  · rename_i q; rw [q, h] at e; cases e
  · exact e
theorem PM.put_self (P : PM) (a : Addr) (o : Obj) : P.put a o a = some o := by unfold PM.put; rw [if_pos rfl]

structure Base (w : World) (P : PM) : Prop where
  K : ∀ a o, (KK w).lookup a = some o → P a = some o
  bm : ∃ o, P 4 = some o ∧ ModO o
  B : ∃ o es ep, P builtinsNs = some o ∧ o.data = .dict es ep ∧ StrKeys es ∧ ∀ x, x ≠ ("__name__" : Str) → nsFind es x = bootBuiltins x
theorem Base.mono {w : World} {P P' : PM} (B : Base w P) (h : P.le P') : Base w P' :=
  ⟨fun a o e => h _ _ (B.K a o e), (let ⟨o, e, r⟩ := B.bm; ⟨o, h _ _ e, r⟩), let ⟨o, es, ep, e, r⟩ := B.B; ⟨o, es, ep, h _ _ e, r⟩⟩
theorem Ok.base {w : World} {s : Shared} (O : Ok w s) : Base w (allOf s.heap) := by
  refine ⟨fun a o e => ?_, ?_, ?_⟩
  · unfold allOf; rw [if_neg (not_tab e)]; exact O.K a o e
  · obtain ⟨o, e, r⟩ := O.bm
    refine ⟨o, ?_, r⟩
    unfold allOf; rw [if_neg (by decide)]; exact e
  · obtain ⟨mb, ⟨o, es, ep, ho, hd, hk, hf⟩, hb⟩ := O.B
    refine ⟨o, es, ep, ?_, hd, hk, fun x hx => (hf x).trans (hb x hx)⟩
    unfold allOf; rw [if_neg (by decide)]; exact ho

theorem strKeys_of {es : Array DictEntry} (h : es.all (fun e => match e.key with | .str _ _ => true | _ => false) = true) : StrKeys es := fun e he => by
  have := Array.all_eq_true'.mp h e he
  split at this
  · exact ⟨_, _, by assumption⟩
  · cases this

section
variable {w : World} {A : Around} {E : Value → Shared → Prop} {env : Env} {s₀ : Shared} {L : Addr} {P : PM} {m : Str → Option Value} {M : List (Addr × Obj)} {s : Shared}

theorem At.inK (S : At s₀ P L m M s) (B : Base w P) : (KK w).In s.heap := fun a o e => S.keep a o (B.K a o e)
theorem At.ok (S : At s₀ P L m M s) (B : Base w P) : Ok w s := by
  refine ⟨S.inK B, (let ⟨o, e, r⟩ := B.bm; ⟨o, S.keep _ _ e, r⟩), ?_, S.tx⟩
  obtain ⟨o, es, ep, ho, hd, hk, hf⟩ := B.B
  exact ⟨fun x => nsFind es x, ⟨o, es, ep, S.keep _ _ ho, hd, hk, fun _ => rfl⟩, hf⟩

/-- the globals of the module -/
theorem globs (w : World) : ∃ o es ep, (KK w).lookup mainGlobals = some o ∧ o.data = .dict es ep ∧ StrKeys es := by
  refine ⟨_, _, _, rfl, rfl, strKeys_of ?_⟩
  kernel_rfl
theorem nolim (w : World) : ∃ o es ep, (KK w).lookup cStatics = some o ∧ o.data = .dict es ep ∧ StrKeys es ∧ nsFind es "sys.recursionlimit" = none := by
  refine ⟨_, _, _, rfl, rfl, strKeys_of ?_, ?_⟩
  · kernel_rfl
  · kernel_rfl
theorem In.glob {h : Heap} (X : (KK w).In h) : ∃ mg, h.Ns mainGlobals mg := by
  obtain ⟨o, es, ep, ho, hd, hk⟩ := globs w
  exact ⟨_, o, es, ep, X _ _ ho, hd, hk, fun _ => rfl⟩
theorem In.nolimit {h : Heap} (X : (KK w).In h) : h.NoLimit := by
  obtain ⟨o, es, ep, ho, hd, hk, hn⟩ := nolim w
  exact ⟨_, ⟨o, es, ep, X _ _ ho, hd, hk, fun _ => rfl⟩, hn⟩

theorem r_local0 {M' : Model} {x : Str} {pos : Pos} {v : Value} {Q : Value → Shared → Prop} (S : At s₀ P L m M s) (h : Q v s) (hL : env.locals = L := by kernel_rfl) (hm : m x = some v := by k_dflt rfl)
    (hk : env.scope.kind = .function := by kernel_rfl) (hx : env.kindOf x = some .local := by kernel_rfl) (hd : (x == ("__debug__" : Str)) = false := by kernel_rfl) : wpAny M' A (eval (.Name x pos) env) Q E s :=
  wpAny_Name (wpAny_loadName_local hk hx (hL ▸ S.ns) hm h) hd
theorem r_glob0 {M' : Model} {x : Str} {pos : Pos} {v : Value} {Q : Value → Shared → Prop} (S : At s₀ P L m M s) (B : Base w P) (h : Q v s) (e : nsIn (KK w) mainGlobals x = some (some v) := by k_dflt rfl) (hg : env.globals = mainGlobals := by kernel_rfl)
    (hk : env.scope.kind = .function := by kernel_rfl) (hx : env.kindOf x = some .globalImplicit := by kernel_rfl) (hd : (x == ("__debug__" : Str)) = false := by kernel_rfl) : wpAny M' A (eval (.Name x pos) env) Q E s := by
  obtain ⟨mg, hm⟩ := In.glob (S.inK B)
  exact Name_function_global hk hx (loadGlobal_global (hg ▸ hm) (mg_of (S.inK B) hm e) h) hd
theorem r_built0 {M' : Model} {x : Str} {pos : Pos} {v : Value} {Q : Value → Shared → Prop} (S : At s₀ P L m M s) (B : Base w P) (h : Q v s) (e : nsIn (KK w) mainGlobals x = some none := by kernel_rfl) (hv : bootBuiltins x = some v := by boot_fast)
    (hn : (x == ("__name__" : Str)) = false := by kernel_rfl) (hg : env.globals = mainGlobals := by kernel_rfl) (hb : env.builtins = builtinsNs := by kernel_rfl)
    (hk : env.scope.kind = .function := by kernel_rfl) (hx : env.kindOf x = some .globalImplicit := by kernel_rfl) (hd : (x == ("__debug__" : Str)) = false := by kernel_rfl) : wpAny M' A (eval (.Name x pos) env) Q E s := by
  obtain ⟨mg, hm⟩ := In.glob (S.inK B)
  obtain ⟨mb, hB, hBx⟩ := (S.ok B).B
  exact Name_function_global hk hx (loadGlobal_builtin (hg ▸ hm) (mg_none_of (S.inK B) hm e) (hb ▸ hB) ((hBx x (by intro q; rw [q] at hn; revert hn; decide +kernel)).trans hv) h) hd

theorem r_store0 {M' : Model} {x : Str} {v : Value} {Q : Unit → Shared → Prop} (S : At s₀ P L m M s) (h : ∀ s', At s₀ P L (updm m x v) M s' → Q () s') (hL : env.locals = L := by kernel_rfl)
    (hk : env.scope.kind = .function := by kernel_rfl) (hx : env.kindOf x = some .local := by kernel_rfl) : wpAny M' A (storeName env x v) Q E s :=
  wpAny_storeName_local hx (hL ▸ S.ns) (fun h' hn hs => h _ ((S.store (hL ▸ hn) (hL ▸ hs)).toks1 1)) (by rw [hk]; rfl)

/-! one look at a name -/
noncomputable def locS (env : Env) (x : Str) : Bool := (match env.scope.kind with | .function => true | _ => false) && (match env.kindOf x with | some .local => true | _ => false)
noncomputable def locB (env : Env) (x : Str) : Bool := locS env x && !(x == ("__debug__" : Str))
noncomputable def gloB (env : Env) (x : Str) : Bool := (match env.scope.kind with | .function => true | _ => false) && (match env.kindOf x with | some .globalImplicit => true | _ => false) && !(x == ("__debug__" : Str)) && Nat.beq env.globals mainGlobals
noncomputable def bltB (env : Env) (x : Str) : Bool := gloB env x && Nat.beq env.builtins builtinsNs && !(x == ("__name__" : Str))
theorem locS_k {x : Str} (h : locS env x = true) : env.scope.kind = .function ∧ env.kindOf x = some .local := by
  unfold locS at h
  obtain ⟨h1, h2⟩ := Bool.and_eq_true_iff.mp h
  constructor
  · split at h1 <;> first | assumption | cases h1
  · split at h2 <;> first | assumption | cases h2
theorem neg_k {b : Bool} (h : (!b) = true) : b = false := by cases b <;> first | rfl | cases h
theorem locB_k {x : Str} (h : locB env x = true) : (env.scope.kind = .function ∧ env.kindOf x = some .local) ∧ (x == ("__debug__" : Str)) = false :=
  let ⟨h1, h2⟩ := Bool.and_eq_true_iff.mp h
  ⟨locS_k h1, neg_k h2⟩
theorem gloB_k {x : Str} (h : gloB env x = true) : (env.scope.kind = .function ∧ env.kindOf x = some .globalImplicit) ∧ (x == ("__debug__" : Str)) = false ∧ env.globals = mainGlobals := by
  obtain ⟨h, h4⟩ := Bool.and_eq_true_iff.mp h
  obtain ⟨h, h3⟩ := Bool.and_eq_true_iff.mp h
  obtain ⟨h1, h2⟩ := Bool.and_eq_true_iff.mp h
  refine ⟨⟨?_, ?_⟩, neg_k h3, Nat.eq_of_beq_eq_true h4⟩
  · split at h1 <;> first | assumption | cases h1
  · split at h2 <;> first | assumption | cases h2
theorem bltB_k {x : Str} (h : bltB env x = true) : gloB env x = true ∧ env.builtins = builtinsNs ∧ (x == ("__name__" : Str)) = false := by
  obtain ⟨h, h3⟩ := Bool.and_eq_true_iff.mp h
  obtain ⟨h1, h2⟩ := Bool.and_eq_true_iff.mp h
  exact ⟨h1, Nat.eq_of_beq_eq_true h2, neg_k h3⟩
theorem r_local {M' : Model} {x : Str} {pos : Pos} {v : Value} {Q : Value → Shared → Prop} (S : At s₀ P L m M s) (h : Q v s) (hL : env.locals = L := by kernel_rfl) (hm : m x = some v := by k_dflt rfl)
    (hb : locB env x = true := by kernel_rfl) : wpAny M' A (eval (.Name x pos) env) Q E s := r_local0 S h hL hm (locB_k hb).1.1 (locB_k hb).1.2 (locB_k hb).2
theorem r_glob {M' : Model} {x : Str} {pos : Pos} {v : Value} {Q : Value → Shared → Prop} (S : At s₀ P L m M s) (B : Base w P) (h : Q v s) (e : nsIn (KK w) mainGlobals x = some (some v) := by k_dflt rfl) (hb : gloB env x = true := by kernel_rfl) :
    wpAny M' A (eval (.Name x pos) env) Q E s := r_glob0 S B h e (gloB_k hb).2.2 (gloB_k hb).1.1 (gloB_k hb).1.2 (gloB_k hb).2.1
theorem r_built {M' : Model} {x : Str} {pos : Pos} {v : Value} {Q : Value → Shared → Prop} (S : At s₀ P L m M s) (B : Base w P) (h : Q v s) (e : nsIn (KK w) mainGlobals x = some none := by kernel_rfl) (hv : bootBuiltins x = some v := by boot_fast) (hb : bltB env x = true := by kernel_rfl) :
    wpAny M' A (eval (.Name x pos) env) Q E s := let g := bltB_k hb; r_built0 S B h e hv g.2.2 (gloB_k g.1).2.2 g.2.1 (gloB_k g.1).1.1 (gloB_k g.1).1.2 (gloB_k g.1).2.1
theorem r_store {M' : Model} {x : Str} {v : Value} {Q : Unit → Shared → Prop} (S : At s₀ P L m M s) (h : ∀ s', At s₀ P L (updm m x v) M s' → Q () s') (hL : env.locals = L := by kernel_rfl) (hb : locS env x = true := by kernel_rfl) :
    wpAny M' A (storeName env x v) Q E s := r_store0 S h hL (locS_k hb).1 (locS_k hb).2

theorem updm_ne {m : Str → Option Value} {x y : Str} {v : Value} (h : (y == x) = false) : updm m x v y = m y := by
  unfold updm; rw [if_neg (by intro e; rw [e] at h; simp at h)]
theorem updm_eq {m : Str → Option Value} {x : Str} {v : Value} : updm m x v x = some v := by unfold updm; rw [if_pos rfl]
theorem r_storeT {M' : Model} {x : Str} {v : Value} {Q : Unit → Shared → Prop} (S : At s₀ P L m M s) (h : ∀ s', 0 < s'.toks → At s₀ P L (updm m x v) M s' → Q () s') (hL : env.locals = L := by kernel_rfl)
    (hk : env.scope.kind = .function := by kernel_rfl) (hx : env.kindOf x = some .local := by kernel_rfl) : wpAny M' A (storeName env x v) Q E s :=
  wpAny_storeName_local hx (hL ▸ S.ns) (fun h' hn hs => h _ (Nat.succ_pos _) ((S.store (hL ▸ hn) (hL ▸ hs)).toks1 1)) (by rw [hk]; rfl)

/-- a post as a variable -/
theorem absQ {α : Type} {M' : Model} {t : Sem α} {Q : α → Shared → Prop} (h : ∀ K : α → Shared → Prop, (∀ a s', Q a s' → K a s') → wpAny M' A t K E s) : wpAny M' A t Q E s := h Q fun _ _ q => q
/-- a value is at hand to be stored -/
inductive Stored (M' : Model) (A : Around) (env : Env) (rest : List Stmt) (Q : Flow → Shared → Prop) (E : Value → Shared → Prop) (s₀ : Shared) (L : Addr) (x : Str) (v : Value) (s₁ : Shared) : Prop
  | mk (P' : PM) (m' : Str → Option Value) (M₁ : List (Addr × Obj)) (S : At s₀ P' L m' M₁ s₁) (h : ∀ s', At s₀ P' L (updm m' x v) M₁ s' → wpAny M' A (execs rest env) Q E s')
/-- a statement that stores a value -/
theorem x_assign {M' : Model} {x : Str} {p pos : Pos} {e : Expr} {rest : List Stmt} {Q : Flow → Shared → Prop} (_S : At s₀ P L m M s)
    (h : wpAny M' A (eval e env) (fun v s₁ => Stored M' A env rest Q E s₀ L x v s₁) E s) (hL : env.locals = L := by kernel_rfl)
    (hb : locS env x = true := by kernel_rfl) (hs : swapsWith e (some (.Name x p)) pos.line env = pure false := by kernel_rfl) : wpAny M' A (execs (.Assign [.Name x p] e pos :: rest) env) Q E s :=
  wpAny_execs_cons (wpAny_Assign_Name (wpAny_mono h (fun _ _ ⟨_, _, _, S, q⟩ => r_store S q hL hb) fun _ _ x => x) hs)
theorem x_return {M' : Model} {pos : Pos} {e : Expr} {rest : List Stmt} {Q : Flow → Shared → Prop}
    (h : wpAny M' A (eval e env) (fun v s' => Q (.ret v) s') E s) : wpAny M' A (execs (.Return (some e) pos :: rest) env) Q E s :=
  wpAny_execs_cons (wpAny_Return_some (wpAny_mono h (fun _ _ q => q) fun _ _ x => x))
theorem x_nil {M' : Model} {Q : Flow → Shared → Prop} (h : Q .next s) : wpAny M' A (execs [] env) Q E s := wpAny_execs_nil h

/-- what is new since s₀ -/
noncomputable def nw (s₀ : Shared) (P : PM) : PM := fun a => if s₀.heap.get? a = none then P a else none
theorem nw_le {P : PM} : (nw s₀ P).le P := fun a o e => by
  unfold nw at e
  split at e
  · exact e
  · cases e
theorem nw_mono {P P' : PM} (h : P.le P') : (nw s₀ P).le (nw s₀ P') := fun a o e => by
  unfold nw at e ⊢
  split at e
  · rename_i q; rw [if_pos q]; exact h _ _ e
  · cases e
theorem nw_of {P : PM} {a : Addr} {o : Obj} (e : P a = some o) (h : s₀.heap.get? a = none) : nw s₀ P a = some o := by unfold nw; rw [if_pos h]; exact e
/-- the new objects of a call -/
noncomputable def newOf (s s' : Shared) : PM := nw s fun a => s'.heap.get? a
theorem nw_newOf {P : PM} (S : At s₀ P L m M s) : (nw s₀ P).le (newOf s₀ s) := nw_mono fun a o e => S.keep a o e
noncomputable def PM.or (P N : PM) : PM := fun a => match P a with | some o => some o | none => N a
theorem PM.le_or (P N : PM) : P.le (P.or N) := fun a o e => by unfold PM.or; rw [e]
theorem At.adopt (S : At s₀ P L m M s) {s' : Shared} (v : Mv [] s s') : At s₀ (P.or (newOf s s')) L m M s' ∧ P.le (P.or (newOf s s')) ∧ (newOf s s').le (P.or (newOf s s')) := by
  have T := S.mv v
  have hno : ∀ x o, s.heap.get? x = some o → newOf s s' x = none := fun x o e => by unfold newOf nw; rw [if_neg (by rw [e]; simp)]
  refine ⟨{ T with
    keep := fun a o e => ?_
    out := fun x hx => ?_
    tb := fun x hx => ⟨?_, (T.tb x hx).2⟩ }, PM.le_or _ _, fun a o e => ?_⟩
  · unfold PM.or at e
    split at e
    · rename_i o' h; cases e; exact T.keep a _ h
    · unfold newOf at e; exact nw_le a o e
  · unfold PM.or
    rw [S.out x hx]
    have hl := S.lt hx
    rcases List.mem_cons.mp hx with rfl | hx'
    · obtain ⟨o, _, _, ho, _⟩ := S.ns; exact hno _ o ho
    · obtain ⟨p, hp, rfl⟩ := List.mem_map.mp hx'; exact hno _ p.2 (S.live p hp)
  · unfold PM.or
    rw [(S.tb x hx).1]
    obtain ⟨vs, e, _⟩ := S.tx x hx
    exact hno _ _ e
  · unfold PM.or
    cases h : P a with
    | none => exact e
    | some o' => rw [hno a o' (S.keep a o' h)] at e; cases e

/-- a new list, frozen at once -/
theorem At.pushP (S : At s₀ P L m M s) (o : Obj) (hf : o.isFreed = false := by kernel_rfl) : P s.heap.objs.size = none ∧ At s₀ (P.put s.heap.objs.size o) L m M { s with heap := s.heap.push o } := by
  refine ⟨?_, (S.push o hf).freeze (pre := []) rfl⟩
  cases e : P s.heap.objs.size with
  | none => rfl
  | some o => exact absurd (S.ltP e) (Nat.lt_irrefl _)

theorem r_newlist {M' : Model} {vs : List Value} {Q : Value → Shared → Prop} (S : At s₀ P L m M s)
    (h : ∀ a P' s', P.le P' → P' a = some (listOf vs.toArray 0) → s₀.heap.get? a = none → At s₀ P' L m M s' → Q (.ref a) s') (hsz : vs.length ≤ sizeLine := by size_fits) : wpAny M' A (newList vs) Q E s :=
  wpAny_newList (by
    obtain ⟨hn, T⟩ := S.pushP (listOf vs.toArray 0)
    refine h _ _ _ (PM.le_put hn) (PM.put_self ..) ?_ T
    cases e : s₀.heap.get? s.heap.objs.size with
    | none => rfl
    | some o => exact absurd (Nat.lt_of_lt_of_le (Heap.lt_size e) S.size) (Nat.lt_irrefl _)) hsz

/-- the def at an address -/
noncomputable def fdOf (w : World) (f : Addr) : FuncData := match (KK w).lookup f with
  | some ⟨_, _, .func fd, _⟩ => fd
  | _ => default
noncomputable def IsDef (w : World) (f : Addr) : Prop := ∃ oc od osl, (KK w).lookup f = some ⟨oc, od, .func (fdOf w f), osl⟩
noncomputable abbrev envF (w : World) (f L : Addr) : Env := callEnv (fdOf w f) L f

/-- entering a def of the text without cells -/
theorem enter {f : Addr} {body : List Stmt} {args : Args} {R : Result → Shared → Prop} (binds : List (Str × Value))
    (O : Ok w s) (hd : A.depth < recursionLimit) (ho : IsDef w f) (hcd : codeIn (KK w) (fdOf w f).code (fdOf w f).qualname = true) (hbody : (fdOf w f).body = .stmts body)
    (hbind : bindArgs (fdOf w f) args = pure binds) (hcell : ((fdOf w f).scope.names.all fun x => x.2 != .cell) = true) (hloc : (binds.all fun x => (fdOf w f).scope.names.lookup x.1 == some .local) = true)
    (hco : (fdOf w f).scope.isCoroutine = false) (hgen : (fdOf w f).scope.isGenerator = false) (hk : (fdOf w f).scope.kind = .function)
    (h : ∀ L s₁, At s (allOf s.heap) L (fun x => binds.reverse.lookup x) [] s₁ → Base w (allOf s.heap) →
      wpAny (mo w) (A.deeper (envF w f L)) (execs body (envF w f L)) (fun fl s' => R (.ok (.ret (match fl with | .ret v => v | _ => .none))) s') NoE s₁) :
    codeAny (mo w) A (.call (.ref f) args) R s := by
  have hcell' : ∀ x ∈ (fdOf w f).scope.names, x.2 ≠ .cell := fun x hx q => by
    have := List.all_eq_true.mp hcell x hx
    rw [q] at this; cases this
  have hloc' : ∀ x ∈ binds, (fdOf w f).scope.names.lookup x.1 = some .local := fun x hx => eq_of_beq (List.all_eq_true.mp hloc x hx)
  obtain ⟨oc, od, osl, ho⟩ := ho
  refine codeAny_call_def hd (O.K _ _ ho) rfl (In.nolimit O.K) (codeRec_of O.K hcd) hbody (BindsTo.of_eq hbind) hcell' hloc' (fun h₀ hns hk₀ => ?_) hco hgen hk
  have hL : s.heap.get? s.heap.objs.size = none := by
    cases e : s.heap.get? s.heap.objs.size with
    | none => rfl
    | some o => exact absurd (Heap.lt_size e) (Nat.lt_irrefl _)
  have hLt : s.heap.objs.size ∉ tabs3 := fun q => by obtain ⟨vs, e, _⟩ := O.T _ q; rw [hL] at e; cases e
  refine lift (h s.heap.objs.size _ ?_ O.base)
  exact {
    ns := hns
    keep := fun a o e => by
      unfold allOf at e
      split at e
      · cases e
      · exact hk₀ a o e
    live := fun p hp => nomatch hp
    out := fun x hx => by
      rcases List.mem_cons.mp hx with rfl | hx
      · unfold allOf; rw [if_neg hLt]; exact hL
      · cases hx
    nd := List.nodup_cons.mpr ⟨fun q => (nomatch q), List.nodup_nil⟩
    tb := fun x hx => ⟨by unfold allOf; rw [if_pos hx], fun q => by
      rcases List.mem_cons.mp q with rfl | q
      · exact hLt hx
      · cases q⟩
    grow := .of_keep fun x _ o e => hk₀ x o e
    tx := fun x hx => let ⟨vs, e, z⟩ := O.T x hx; ⟨vs, hk₀ _ _ e, z⟩
    os := rfl
    gens := id
    tp := Nat.le_add_right _ _
    above := fun x hx => by
      rcases List.mem_cons.mp hx with rfl | hx
      · exact Nat.le_refl _
      · cases hx }

/-- a call of a def of the text, by its contract -/
theorem r_call {f : Value} {vs : List Value} {R Q : Value → Shared → Prop} (S : At s₀ P L m M s)
    (c : wpAny (mo w) A (call f vs) (fun v s' => Mv [] s s' ∧ R v s') NoE s)
    (h : ∀ v P' s', P.le P' → (newOf s s').le P' → At s₀ P' L m M s' → Mv [] s s' → R v s' → Q v s') : wpAny (mo w) A (call f vs) Q E s :=
  wpAny_mono c (fun v s' ⟨q, r⟩ => h v _ s' (S.adopt q).2.1 (S.adopt q).2.2 (S.adopt q).1 q r) fun _ _ x => x.elim
end

/-! the data of frozen objects -/
mutual
inductive Rd (P : PM) : Value → PyData → Prop
  | int (i t) : Rd P (.int i t) (.int i)
  | str (x t) : Rd P (.str x t) (.str x)
  | list {a vs n ds} : P a = some (listOf vs n) → Rds P vs.toList ds → Rd P (.ref a) (.list ds)
inductive Rds (P : PM) : List Value → List PyData → Prop
  | nil : Rds P [] []
  | cons {v vs d ds} : Rd P v d → Rds P vs ds → Rds P (v :: vs) (d :: ds)
end
mutual
theorem Rd.mono {P P' : PM} (h : P.le P') : ∀ {v d}, Rd P v d → Rd P' v d
  | _, _, .int i t => .int i t
  | _, _, .str x t => .str x t
  | _, _, .list e r => .list (h _ _ e) (Rds.mono h r)
theorem Rds.mono {P P' : PM} (h : P.le P') : ∀ {v d}, Rds P v d → Rds P' v d
  | _, _, .nil => .nil
  | _, _, .cons a b => .cons (Rd.mono h a) (Rds.mono h b)
end
theorem Rds.append {P : PM} : ∀ {vs ds ws es}, Rds P vs ds → Rds P ws es → Rds P (vs ++ ws) (ds ++ es)
  | _, _, _, _, .nil, h => h
  | _, _, _, _, .cons a b, h => .cons a (Rds.append b h)
theorem Rds.length {P : PM} : ∀ {vs ds}, Rds P vs ds → vs.length = ds.length
  | _, _, .nil => rfl
  | _, _, .cons _ b => by rw [List.length_cons, List.length_cons, Rds.length b]
theorem Rds.get {P : PM} : ∀ {vs : List Value} {ds : List PyData}, Rds P vs ds → ∀ {i : Nat} {d : PyData}, ds[i]? = some d → ∃ v, vs[i]? = some v ∧ Rd P v d
  | _, _, .nil, _, _, e => by simp at e
  | _, _, .cons a b, 0, _, e => by
    simp only [List.getElem?_cons_zero, Option.some.injEq] at e
    subst e; exact ⟨_, rfl, a⟩
  | _, _, .cons a b, i + 1, d, e => by
    simp only [List.getElem?_cons_succ] at e
    obtain ⟨v, h, r⟩ := Rds.get b e
    exact ⟨v, by simpa using h, r⟩

/-- what a display of constants says -/
noncomputable def litD : Nat → Expr → Option PyData
  | 0, _ => none
  | _ + 1, .Constant (.str x) _ _ => some (.str x)
  | _ + 1, .Constant (.int i) _ _ => some (.int i)
  | n + 1, .List elts _ => if elts.length ≤ 1000 then (elts.mapM (litD n)).map .list else none
  | _ + 1, _ => none

section
variable {w : World} {A : Around} {E : Value → Shared → Prop} {s₀ : Shared} {L : Addr} {m : Str → Option Value} {M : List (Addr × Obj)} {env : Env}
theorem ev_lits {M' : Model} {n : Nat} (ih : ∀ {e d}, litD n e = some d → ∀ (P s) (Q : Value → Shared → Prop), At s₀ P L m M s → (∀ v P' s', P.le P' → Rd (nw s₀ P') v d → At s₀ P' L m M s' → Q v s') → wpAny M' A (eval e env) Q E s) :
    ∀ {elts : List Expr} {ds}, elts.mapM (litD n) = some ds → ∀ (P s pos) (Q : List Value → Shared → Prop), At s₀ P L m M s → (∀ vs P' s', P.le P' → Rds (nw s₀ P') vs ds → At s₀ P' L m M s' → Q vs s') →
      wpAny M' A (spliced (backTo pos (starEach elts env))) Q E s := by
  intro elts
  induction elts with
  | nil =>
    intro ds hd P s pos Q S h
    simp only [List.mapM_nil, Option.pure_def, Option.some.injEq] at hd
    subst hd
    exact spliced_none (h _ _ _ (.refl _) .nil S)
  | cons e r ihr =>
    intro ds hd P s pos Q S h
    rw [List.mapM_cons] at hd
    cases he : litD n e with
    | none => rw [he] at hd; cases hd
    | some d =>
      rw [he] at hd
      cases hr : r.mapM (litD n) with
      | none => rw [hr] at hd; cases hd
      | some ds' =>
        rw [hr] at hd
        cases hd
        have hs : starEach (e :: r) env = (false, eval e env) :: starEach r env := by
          cases n with
          | zero => cases he
          | succ n => cases e <;> first | rfl | cases he
        refine spliced_more (ih he _ _ _ S fun v P₁ s₁ l₁ r₁ S₁ => ?_) hs
        exact ihr hr _ _ _ _ S₁ fun vs P₂ s₂ l₂ r₂ S₂ => h _ _ _ (l₁.trans l₂) (.cons (r₁.mono (nw_mono l₂)) r₂) S₂
theorem mapM_length {α β : Type} {f : α → Option β} : ∀ {l : List α} {r : List β}, l.mapM f = some r → r.length = l.length
  | [], r, h => by simp only [List.mapM_nil, Option.pure_def, Option.some.injEq] at h; subst h; rfl
  | x :: l, r, h => by
    rw [List.mapM_cons] at h
    cases hx : f x with
    | none => rw [hx] at h; cases h
    | some y =>
      rw [hx] at h
      cases hl : l.mapM f with
      | none => rw [hl] at h; cases h
      | some ys => rw [hl] at h; cases h; simp [mapM_length hl]
theorem ev_lit {M' : Model} : ∀ {n : Nat} {e : Expr} {d}, litD n e = some d → ∀ (P s) (Q : Value → Shared → Prop), At s₀ P L m M s → (∀ v P' s', P.le P' → Rd (nw s₀ P') v d → At s₀ P' L m M s' → Q v s') → wpAny M' A (eval e env) Q E s
  | 0, _, _, h => by cases h
  | n + 1, e, d, hd => by
    intro P s Q S h
    unfold litD at hd
    split at hd
    · cases hd
    · rename_i q; cases q
      cases hd
      exact wpAny_Constant_str (h _ _ _ (.refl _) (.str ..) (S.toks1 1))
    · cases hd
      exact wpAny_Constant_int (h _ _ _ (.refl _) (.int ..) (S.toks1 1))
    · rename_i n' elts pos q
      cases q
      split at hd
      · rename_i hz
        cases hm : elts.mapM (litD n) with
        | none => rw [hm] at hd; cases hd
        | some ds =>
          rw [hm] at hd
          cases hd
          refine List_ (ev_lits (fun he => ev_lit he) hm _ _ _ _ S fun vs P₁ s₁ l₁ r₁ S₁ => ?_)
          have hl : vs.length ≤ sizeLine := by rw [r₁.length, mapM_length hm, sizeLine_eq]; (first | lia | omega)
          exact r_newlist S₁ (fun a P₂ s₂ l₂ e₂ f₂ S₂ => h _ _ _ (l₁.trans l₂) (.list (nw_of e₂ f₂) (by simpa using r₁.mono (nw_mono l₂))) S₂) hl
      · cases hd
    · cases hd
end
end Mine
namespace Mine

/-- an object that is a namespace -/
noncomputable def NsO (o : Obj) (m : Str → Option Value) : Prop := ∃ es ep, o.data = .dict es ep ∧ StrKeys es ∧ ∀ name, nsFind es name = m name
theorem ns_iff {h : Heap} {a : Addr} {m : Str → Option Value} : h.Ns a m ↔ ∃ o, h.get? a = some o ∧ NsO o m :=
  ⟨fun ⟨o, es, ep, e, r⟩ => ⟨o, e, es, ep, r⟩, fun ⟨o, e, es, ep, r⟩ => ⟨o, es, ep, e, r⟩⟩
noncomputable def IterO (o : Obj) (l : Addr) (i : Nat) : Prop := o.cls = .type "list_iterator" ∧ o.data = .fields #[.ref l, .int i 0]

section
variable {w : World} {A : Around} {E : Value → Shared → Prop} {env : Env} {s₀ : Shared} {L : Addr} {P : PM} {m : Str → Option Value} {M : List (Addr × Obj)} {s : Shared}

/-- another frame takes the turn -/
theorem At.swap (S : At s₀ P L m M s) {pre post : List (Addr × Obj)} {C : Addr} {oC : Obj} {mC : Str → Option Value} (hM : M = pre ++ (C, oC) :: post) (hC : NsO oC mC) :
    ∃ oL, NsO oL m ∧ At s₀ P C mC (pre ++ (L, oL) :: post) s := by
  subst hM
  obtain ⟨oL, hL, nL⟩ := ns_iff.mp S.ns
  have hp : (C :: (pre ++ (L, oL) :: post).map (·.1)).Perm (L :: (pre ++ (C, oC) :: post).map (·.1)) := by
    rw [List.map_append, List.map_append, List.map_cons, List.map_cons]
    refine (List.Perm.cons C List.perm_middle).trans ?_
    refine (List.Perm.swap _ _ _).trans ?_
    exact List.Perm.cons L List.perm_middle.symm
  refine ⟨oL, nL, { S with
    ns := ns_iff.mpr ⟨oC, S.live (C, oC) (by simp), hC⟩
    live := fun p hq => ?_
    out := fun x hx => S.out x (hp.subset hx)
    nd := hp.nodup_iff.mpr S.nd
    tb := fun x hx => ⟨(S.tb x hx).1, fun q => (S.tb x hx).2 (hp.subset q)⟩
    above := fun x hx => S.above x (hp.subset hx) }⟩
  rcases List.mem_append.mp hq with hq | hq
  · exact S.live p (List.mem_append_left _ hq)
  · rcases List.mem_cons.mp hq with rfl | hq
    · exact hL
    · exact S.live p (List.mem_append_right _ (.tail _ hq))

/-- pyNext of a list's iterator -/
theorem r_next {pre post : List (Addr × Obj)} {I l : Addr} {oI : Obj} {i n : Nat} {vs : Array Value} {v : Value} {Q : Option Value → Shared → Prop} (S : At s₀ P L m M s) (hM : M = pre ++ (I, oI) :: post) (hI : IterO oI l i)
    (hl : P l = some (listOf vs n)) (hv : vs[i]? = some v) (h : ∀ oI' s', IterO oI' l (i + 1) → At s₀ P L m (pre ++ (I, oI') :: post) s' → Q (some v) s') : wpAny (mo w) A (pyNext (.ref I)) Q E s := by
  have hg := S.live (I, oI) (by rw [hM]; simp)
  refine wpAny_pyNext_list_item (i := i) ⟨_, hg, hI⟩ ⟨_, S.keep _ _ hl, rfl, n, rfl⟩ hv fun h' hi hs => ?_
  obtain ⟨o, ho, hc, hd⟩ := hi
  exact h o _ ⟨hc, hd⟩ (S.upd (o' := o) hM hs ho)
theorem At.ext (S : At s₀ P L m M s) {pre post : List (Addr × Obj)} {I : Addr} {oI : Obj} (hM : M = pre ++ (I, oI) :: post) {h' : Heap} (he : Heap.ExtBut I s.heap h') : At s₀ P L m (pre ++ post) { s with heap := h' } := by
  have T := S.freeze hM
  subst hM
  have hin : I ∈ (pre ++ (I, oI) :: post).map (·.1) := by simp
  have W := S.weak (M' := pre ++ post) (List.Sublist.append_left (List.sublist_cons_self ..) _)
  have hn := S.nd
  have ne : ∀ x ∈ L :: (pre ++ post).map (·.1), x ≠ I := fun x hx q => by
    have := T.out x hx
    rw [q] at this
    rw [PM.put_self] at this; cases this
  have hP : ∀ a o, P a = some o → a ≠ I := fun a o e q => by
    have := S.out I (.tail _ hin)
    rw [← q, e] at this; cases this
  have hT : ∀ x ∈ tabs3, x ≠ I := fun x hx q => (S.tb x hx).2 (.tail _ (q ▸ hin))
  exact { W with
    ns := by
      obtain ⟨o, ho, r⟩ := ns_iff.mp S.ns
      exact ns_iff.mpr ⟨o, he _ _ (ne L (.head _)) ho, r⟩
    keep := fun a o e => he _ _ (hP a o e) (S.keep a o e)
    live := fun p hp => he _ _ (ne _ (.tail _ (List.mem_map_of_mem hp))) (W.live p hp)
    grow := W.grow.trans (.of_keep fun x hx o e => he _ _ (hT x hx) e)
    tx := fun x hx => let ⟨vs, e, z⟩ := W.tx x hx; ⟨vs, he _ _ (hT x hx) e, z⟩ }
theorem r_end {pre post : List (Addr × Obj)} {I l : Addr} {oI : Obj} {i n : Nat} {vs : Array Value} {Q : Option Value → Shared → Prop} (hh : A.handled = none) (S : At s₀ P L m M s) (hM : M = pre ++ (I, oI) :: post) (hI : IterO oI l i)
    (hl : P l = some (listOf vs n)) (hv : vs[i]? = none) (h : ∀ s', At s₀ P L m (pre ++ post) s' → Q none s') : wpAny (mo w) A (pyNext (.ref I)) Q E s := by
  have hg := S.live (I, oI) (by rw [hM]; simp)
  exact wpAny_pyNext_list_end (i := i) hh ⟨_, hg, hI⟩ ⟨_, S.keep _ _ hl, rfl, n, rfl⟩ hv fun h' he => h _ (S.ext hM he)

noncomputable def LetOk (target : Expr) : Prop := (∀ it v, letOwnedTupleGo target it v = pure ()) ∨ ∃ elts k p, target = .Tuple elts k p
theorem r_let {target : Expr} (ht : LetOk target) {I l : Addr} {oI : Obj} {i : Nat} {v : Value} {Q : Unit → Shared → Prop} (hg : s.heap.get? I = some oI) (hI : IterO oI l i) (h : Q () s) :
    wpAny (mo w) A (letOwnedTupleGo target (.ref I) v) Q E s := by
  rcases ht with ht | ⟨elts, k, p, rfl⟩
  · rw [ht]; exact wpAny_pure h
  · cases v with
    | ref a => exact wpAny_letOwnedTupleGo_listiter ⟨_, hg, hI⟩ h
    | _ => exact wpAny_pure h


/-- what can be run through: n items, the i-th one with V i -/
structure Its (w : World) (A : Around) (s₀ : Shared) (P : PM) (x : Value) (n : Nat) (V : Nat → Value → Prop) (It : Nat → Obj → Prop) : Prop where
  start : ∀ {E : Value → Shared → Prop} {L m M s} {Q : Value → Shared → Prop}, At s₀ P L m M s → (∀ o, o.isFreed = false → It 0 o → Q (.ref s.heap.objs.size) { s with heap := s.heap.push o }) → wpAny (mo w) A (pyIter x) Q E s
  again : ∀ {E : Value → Shared → Prop} {i I o s} {Q : Value → Shared → Prop}, s.heap.get? I = some o → It i o → Q (.ref I) s → wpAny (mo w) A (pyIter (.ref I)) Q E s
  next : ∀ {E : Value → Shared → Prop} {P' L m M s I o i} {pre post : List (Addr × Obj)} {Q : Option Value → Shared → Prop}, P.le P' → At s₀ P' L m M s → M = pre ++ (I, o) :: post → It i o → i < n →
    (∀ v o' s', V i v → It (i + 1) o' → At s₀ P' L m (pre ++ (I, o') :: post) s' → Q (some v) s') → wpAny (mo w) A (pyNext (.ref I)) Q E s
  stop : ∀ {E : Value → Shared → Prop} {P' L m M s I o} {pre post : List (Addr × Obj)} {Q : Option Value → Shared → Prop}, P.le P' → At s₀ P' L m M s → M = pre ++ (I, o) :: post → It n o →
    (∀ s', At s₀ P' L m (pre ++ post) s' → Q none s') → wpAny (mo w) A (pyNext (.ref I)) Q E s

structure LetIt (w : World) (A : Around) (target : Expr) (It : Nat → Obj → Prop) : Prop where
  go : ∀ {E : Value → Shared → Prop} {i I o v s} {Q : Unit → Shared → Prop}, s.heap.get? I = some o → It i o → Q () s → wpAny (mo w) A (letOwnedTupleGo target (.ref I) v) Q E s
theorem LetIt.plain {target : Expr} {It : Nat → Obj → Prop} (h : ∀ it v, letOwnedTupleGo target it v = pure ()) : LetIt w A target It := ⟨fun _ _ q => by rw [h]; exact wpAny_pure q⟩
theorem LetIt.list {target : Expr} {l : Addr} (h : LetOk target) : LetIt w A target (fun i o => IterO o l i) := ⟨fun hg hI q => r_let h hg hI q⟩

theorem Its.list {l : Addr} {vs : Array Value} {n : Nat} (hh : A.handled = none) (hl : P l = some (listOf vs n)) : Its w A s₀ P (.ref l) vs.size (fun i v => vs[i]? = some v) (fun i o => IterO o l i) where
  start S h := wpAny_pyIter_list ⟨_, S.keep _ _ hl, rfl, n, rfl⟩ (h _ rfl ⟨rfl, rfl⟩)
  again hg hI q := wpAny_pyIter_listiter (l := l) ⟨_, hg, hI.1, hI.2⟩ q
  next := by
    intro E P' L m M s I o i pre post Q hle S hM hI hi h
    exact r_next S hM hI (hle _ _ hl) (v := vs[i]) (by simp [hi]) fun o' s' hI' S' => h _ o' s' (by simp [hi]) hI' S'
  stop hle S hM hI h := r_end hh S hM hI (hle _ _ hl) (by simp) h

/-- the iterator of a range -/
noncomputable def RangeO (a c : Int) (n : Nat) (i : Nat) (o : Obj) : Prop := o = { cls := .type "range_iterator", dict := none, data := .fields #[rawInt (a + i * c), rawInt (n - i), rawInt c], slots := #[] }
theorem Its.range {r : Addr} {a b c : Int} {t u v : Tok} {n : Nat} (hh : A.handled = none) (hr : P r = some { cls := .type "range", dict := none, data := .fields #[.int a t, .int b u, .int c v], slots := #[] })
    (hsmall : Builtin.Range.small a b c = true) (hn : Builtin.Range.rangeSize a b c = (n : Int)) : Its w A s₀ P (.ref r) n (fun i v => ∃ t, v = .int (a + i * c) t) (RangeO a c n) where
  start S h := wpAny_pyIter_range (S.keep _ _ hr) hsmall (h _ rfl (by unfold RangeO; simp [hn]))
  again := by
    intro E i I o s Q hg hI q
    unfold RangeO at hI
    subst hI
    exact wpAny_pyIter_rangeiter hg q
  next := by
    intro E P' L m M s I o i pre post Q hle S hM hI hi h
    have hg := S.live (I, o) (by rw [hM]; simp)
    unfold RangeO at hI
    subst hI
    refine wpAny_pyNext_range_item hg (by (first | lia | omega)) fun h' hi' hs => ?_
    have U := (S.upd hM hs hi').toks1 1
    refine h _ _ _ ⟨_, rfl⟩ ?_ U
    unfold RangeO
    have e1 : a + (i : Int) * c + c = a + ((i + 1 : Nat) : Int) * c := by
      have : ((i + 1 : Nat) : Int) = (i : Int) + 1 := by (first | lia | omega)
      rw [this, Int.add_mul, Int.one_mul, Int.add_assoc]
    have e2 : ((n : Int) - (i : Int) - 1) = (n : Int) - ((i + 1 : Nat) : Int) := by (first | lia | omega)
    rw [e1, e2]
  stop := by
    intro E P' L m M s I o pre post Q hle S hM hI h
    have hg := S.live (I, o) (by rw [hM]; simp)
    unfold RangeO at hI
    subst hI
    exact wpAny_pyNext_range_end hh hg (by (first | lia | omega)) fun h' he => h _ (S.ext hM he)

noncomputable abbrev testsOf (ifs : List Expr) (env : Env) : Sem Bool := forIn ifs true fun c r => if r = true then do let ok ← isTrue c env (eval c env); pure (ForInStep.yield ok) else pure (ForInStep.yield r)

/-- a turn is done -/
inductive Turned (s₀ : Shared) (P' : PM) (L : Addr) (X : List (Addr × Obj)) (J : PM → List (Addr × Obj) → Prop) (s₃ : Shared) : Prop
  | mk (P'' : PM) (M'' : List (Addr × Obj)) (mc' : Str → Option Value) (l : P'.le P'') (h : J P'' M'') (S : At s₀ P'' L mc' (X ++ M'') s₃)
/-- what a turn of a comprehension does -/
noncomputable def Turn (w : World) (A : Around) (s₀ : Shared) (target elt : Expr) (ifs : List Expr) (cenv : Env) (P : PM) (n : Nat) (V : Nat → Value → Prop) (J : Nat → List Value → PM → List (Addr × Obj) → Prop) : Prop :=
  ∀ k v acc P' M' X mc s' (K : Value → Shared → Prop) (N : Shared → Prop), k < n → V k v → P.le P' → J k acc P' M' → At s₀ P' cenv.locals mc (X ++ M') s' →
    (∀ y s₃, Turned s₀ P' cenv.locals X (J (k + 1) (acc ++ [y])) s₃ → K y s₃) → (∀ s₂, Turned s₀ P' cenv.locals X (J (k + 1) acc) s₂ → N s₂) →
    wpAny (mo w) A (assign target cenv v) (fun _ s₁ => wpAny (mo w) A (testsOf ifs cenv) (fun ok s₂ => if ok = true then wpAny (mo w) A (eval elt cenv) K NoE s₂ else N s₂) NoE s₁) NoE s'

theorem comp_loop {elt target iter : Expr} {ifs : List Expr} {scope : Scope} {pos : Pos} {cenv : Env} {x : Value} {I D : Addr} {n : Nat} {V : Nat → Value → Prop} {It : Nat → Obj → Prop} {R : Result → Shared → Prop}
    (J : Nat → List Value → PM → List (Addr × Obj) → Prop) (hsz : n ≤ sizeLine) (hlet : LetIt w A target It) (W : Its w A s₀ P x n V It)
    (turn : Turn w A s₀ target elt ifs cenv P n V J)
    (fin : ∀ P' M' mc acc j s', P.le P' → J n acc P' M' → At s₀ P' cenv.locals mc ((D, listOf acc.toArray j) :: M ++ M') s' → R (.ok .next) s')
    {M₀ : List (Addr × Obj)} {oI : Obj} {mc₀ : Str → Option Value} (hI : It 0 oI) (hJ : J 0 [] P M₀)
    (S : At s₀ P cenv.locals mc₀ ((D, listOf #[] 0) :: (I, oI) :: M ++ M₀) s) :
    codeAny (mo w) A (.compLoop (.ListComp elt [⟨target, iter, ifs, 0⟩] scope pos) 0 (.ref I) (.ref D) cenv) R s := by
  refine codeAny_loop rfl (fun r s => ∃ k acc P' M' mc oI j, r + k = n ∧ acc.length ≤ k ∧ P.le P' ∧ J k acc P' M' ∧ It k oI ∧ At s₀ P' cenv.locals mc ((D, listOf acc.toArray j) :: (I, oI) :: M ++ M') s)
    (fun r s hi => ?_) n ⟨0, [], P, M₀, mc₀, oI, 0, rfl, Nat.le_refl _, .refl _, hJ, hI, S⟩
  show wpAny _ _ ((compTurn (.ListComp elt [⟨target, iter, ifs, 0⟩] scope pos) 0 (.ref I) (.ref D) cenv).onRaise (fun x => do noteFrame x cenv; theTreesLotGoes x)) _ _ s
  obtain ⟨k, acc, P', M', mc, oI, j, hk, ha, hle, hJ, hI, S⟩ := hi
  refine wpAny_noted ?_
  rw [compTurn_list]
  refine wpAny_bind (wpAny_standAt (wpAny_bind ?_))
  cases r with
  | zero =>
    have hk' : k = n := by (first | lia | omega)
    subst hk'
    refine W.stop (pre := [(D, listOf acc.toArray j)]) hle S rfl hI fun s' S => ?_
    exact wpAny_pure (fin P' M' mc acc j s' hle hJ S)
  | succ r =>
    have hlt : k < n := by (first | lia | omega)
    refine W.next (pre := [(D, listOf acc.toArray j)]) hle S rfl hI hlt fun v oI' s₁ hv hI' S => ?_
    refine wpAny_bind (hlet.go (S.live (I, oI') (by simp)) hI' ?_)
    have T := turn k v acc P' M' ((D, listOf acc.toArray j) :: (I, oI') :: M) mc s₁ (fun y s₃ => Turned s₀ P' cenv.locals ((D, listOf acc.toArray j) :: (I, oI') :: M) (J (k + 1) (acc ++ [y])) s₃) (fun s₂ => Turned s₀ P' cenv.locals ((D, listOf acc.toArray j) :: (I, oI') :: M) (J (k + 1) acc) s₂) hlt hv hle hJ S (fun _ _ h => h) fun _ h => h
    refine wpAny_bind (lift (wpAny_mono T (fun _ s₂ T => ?_) fun _ _ x => x))
    refine wpAny_bind (lift (wpAny_mono T (fun ok s₃ T => ?_) fun _ _ x => x))
    cases ok with
    | false =>
      simp only [Bool.false_eq_true, if_false] at T ⊢
      obtain ⟨P'', M'', mc', hle', hJ', S⟩ := T
      exact wpAny_pure ⟨rfl, r, Nat.lt_succ_self r, k + 1, acc, P'', M'', mc', oI', j, by (first | lia | omega), by (first | lia | omega), hle.trans hle', hJ', hI', S⟩
    | true =>
      simp only [if_true] at T ⊢
      refine wpAny_bind (wpAny_bind (lift (wpAny_mono T (fun y s₄ T => ?_) fun _ _ x => x)))
      obtain ⟨P'', M'', mc', hle', hJ', S⟩ := T
      refine wpAny_bind (append_at (hsz := by simp; (first | lia | omega)) (S.live (D, listOf acc.toArray j) (by simp)) fun h' hs he => ?_)
      have U := S.upd (pre := []) (o' := listOf (acc.toArray.push y) (j + 1)) rfl hs he
      refine wpAny_pure (wpAny_pure ⟨rfl, r, Nat.lt_succ_self r, k + 1, acc ++ [y], P'', M'', mc', oI', j + 1, by (first | lia | omega), by simp; (first | lia | omega), hle.trans hle', hJ', hI', ?_⟩)
      have e : (acc ++ [y]).toArray = acc.toArray.push y := by simp
      rw [e]
      exact U
end
end Mine
namespace Mine

section
variable {w : World} {A : Around} {E : Value → Shared → Prop} {env : Env} {s₀ : Shared} {L : Addr} {P : PM} {m : Str → Option Value} {M : List (Addr × Obj)} {s : Shared}

theorem At.perm (S : At s₀ P L m M s) {M' : List (Addr × Obj)} (h : M.Perm M') : At s₀ P L m M' s :=
  let hp : (L :: M.map (·.1)).Perm (L :: M'.map (·.1)) := (h.map _).cons L
  { S with
    live := fun p hp => S.live p (h.symm.subset hp)
    out := fun x hx => S.out x (hp.symm.subset hx)
    nd := hp.nodup_iff.mp S.nd
    tb := fun x hx => ⟨(S.tb x hx).1, fun q => (S.tb x hx).2 (hp.symm.subset q)⟩
    above := fun x hx => S.above x (hp.symm.subset hx) }

theorem NsO.of_ns {h : Heap} {a : Addr} {m : Str → Option Value} (x : h.Ns a m) : ∃ o, h.get? a = some o ∧ NsO o m := ns_iff.mp x

theorem comp_run {elt target iter : Expr} {ifs : List Expr} {scope : Scope} {pos : Pos} {cl : List (Str × Addr)} {x : Value} {n : Nat} {V : Nat → Value → Prop} {It : Nat → Obj → Prop} {RR : Value → Addr → Result → Shared → Prop}
    (J : Nat → List Value → PM → List (Addr × Obj) → Prop) (S : At s₀ P L m M s) (hcell : (scope.names.all fun x => x.2 != .cell) = true) (hk : scope.kind = .function)
    (hsz : n ≤ sizeLine) (hlet : LetIt w A target It) (W : Its w A s₀ P x n V It) (hJ : J 0 [] P M)
    (turn : ∀ C, Turn w A s₀ target elt ifs (compEnvC scope cl C env) P n V J)
    (fin : ∀ C D oL P' M' mc acc j s', P.le P' → J n acc P' M' → NsO oL m → At s₀ P' C mc ((D, listOf acc.toArray j) :: (L, oL) :: M') s' → RR (.ref D) C (.ok .next) s') :
    wpAny (mo w) A (pyIter x) (fun it s₂ => wpAny (mo w) A (newList []) (fun acc s₃ => wpAny (mo w) A (newFunctionEnv scope env.globals cl [] env.qual none .none (some env))
      (fun cenv s₄ => codeAny (mo w) A (.compStart (.ListComp elt [⟨target, iter, ifs, 0⟩] scope pos) 0 it acc { cenv with scope := relabel scope env }) (RR acc cenv.locals) s₄) E s₃) E s₂) E s := by
  have hcell' : ∀ x ∈ scope.names, x.2 ≠ .cell := fun x hx q => by
    have := List.all_eq_true.mp hcell x hx
    rw [q] at this; cases this
  refine W.start S fun oI hfr hI0 => ?_
  have S₁ := S.push oI hfr
  refine wpAny_newList ?_
  have S₂ := S₁.push (listOf #[] 0)
  have S₃ := S₂.push { cls := .type "dict", data := .dict #[] }
  refine wpAny_newFunctionEnv hcell' (by simp) (fun h' hn hs => ?_) hk
  dsimp only [Option.isSome_some, if_true] at hs
  obtain ⟨oC, hoC, nC⟩ := ns_iff.mp hn
  have S₄ := S₃.upd (pre := []) (o' := oC) rfl hs hoC
  obtain ⟨oL, nL, S₅⟩ := S₄.swap (pre := []) rfl nC
  generalize hI : s.heap.objs.size = I at S₁ S₂ S₃ S₄ S₅ hn hs ⊢
  generalize hD : (s.heap.push oI).objs.size = D at S₂ S₃ S₄ S₅ hn hs hoC ⊢
  generalize hC : ((s.heap.push oI).push (listOf #[] 0)).objs.size = C at S₃ S₄ S₅ hn hs hoC ⊢
  have S₆ := (S₅.perm (M' := (D, listOf #[] 0) :: (I, oI) :: [(L, oL)] ++ M) (by
    simp only [List.nil_append, List.cons_append]
    exact (List.Perm.swap _ _ _).trans ((List.Perm.swap _ _ _).cons _))).toks1 0
  have loop : codeAny (mo w) A (.compLoop (.ListComp elt [⟨target, iter, ifs, 0⟩] scope pos) 0 (.ref I) (.ref D) (compEnvC scope cl C env)) (RR (.ref D) C) _ :=
    comp_loop (cenv := compEnvC scope cl C env) (M := [(L, oL)]) J hsz hlet W (turn C) (fun P' M' mc acc j s' hle hJ' S' => fin C D oL P' M' mc acc j s' hle hJ' nL S') (oI := oI) hI0 hJ S₆
  refine codeAny_compStart_list loop (W.again (S₆.live (I, oI) (by simp)) hI0 loop)

/-- what a comprehension runs through is at hand -/
inductive CompOk (w : World) (A : Around) (s₀ : Shared) (L : Addr) (target elt : Expr) (ifs : List Expr) (scope : Scope) (cl : List (Str × Addr)) (env : Env) (Q : Value → Shared → Prop) (x : Value) (s₁ : Shared) : Prop
  | mk (P₁ : PM) (m₁ : Str → Option Value) (M₁ : List (Addr × Obj)) (n : Nat) (V : Nat → Value → Prop) (It : Nat → Obj → Prop) (J : Nat → List Value → PM → List (Addr × Obj) → Prop) (S : At s₀ P₁ L m₁ M₁ s₁) (W : Its w A s₀ P₁ x n V It) (hlet : LetIt w A target It) (hsz : n ≤ sizeLine) (hJ : J 0 [] P₁ M₁)
    (turn : ∀ C, Turn w A s₀ target elt ifs (compEnvC scope cl C env) P₁ n V J) (fin : ∀ D P' M' acc j s', P₁.le P' → J n acc P' M' → At s₀ P' L m₁ ((D, listOf acc.toArray j) :: M') s' → Q (.ref D) s')
/-- a comprehension as a value -/
theorem ev_comp {elt target iter : Expr} {ifs : List Expr} {scope : Scope} {pos : Pos}  {Q : Value → Shared → Prop} (_S : At s₀ P L m M s) (cl : List (Str × Addr))
    (hcell : (scope.names.all fun x => x.2 != .cell) = true) (hk : scope.kind = .function) (hnames : (scope.names.all fun x => x.2 != .local || scope.names.lookup x.1 == some .local) = true)
    (hclos : closureFor scope env = pure cl) (hs : ∀ x, foldedSetIterable iter env x = pure x)
    (h : wpAny (mo w) A (eval iter env) (fun x s₁ => CompOk w A s₀ L target elt ifs scope cl env Q x s₁) E s) :
    wpAny (mo w) A (eval (.ListComp elt [⟨target, iter, ifs, 0⟩] scope pos) env) Q E s := by
  rw [eval_ListComp]
  refine wpAny_comprehension_free (g := ⟨target, iter, ifs, 0⟩) (gs := []) rfl hs hclos hk (fun x hx hl => ?_) (wpAny_mono h (fun x s₁ h₁ => ?_) fun _ _ x => x)
  · have := List.all_eq_true.mp hnames x hx
    rw [hl] at this
    simpa using this
  · obtain ⟨P₁, m₁, M₁, n, V, It, J, S, W, hlet, hsz, hJ, turn, fin⟩ := h₁
    refine comp_run (RR := fun acc C => compPost (mo w) A E none Q acc C) J S hcell hk hsz hlet W hJ turn fun C D oL P' M' mc acc j s' hle hJ' nL S' => ?_
    refine ⟨mc, S'.ns, fun h' hs' => ?_⟩
    obtain ⟨oC, nC, S''⟩ := S'.swap (pre := [(D, listOf acc.toArray j)]) rfl nL
    exact fin D P' M' acc j _ hle hJ' (S''.ext (pre := [(D, listOf acc.toArray j)]) rfl hs'.extBut)

end
end Mine
namespace Mine

noncomputable abbrev cellO (v : Option Value) : Obj := { cls := .type "cell", data := .cell v }
noncomputable abbrev cellsM (cs : List (Str × Addr)) : List (Addr × Obj) := cs.map fun p => (p.2, cellO none)

section
variable {w : World} {A : Around} {E : Value → Shared → Prop} {env : Env} {s₀ : Shared} {L : Addr} {P : PM} {m : Str → Option Value} {M : List (Addr × Obj)} {s : Shared}

theorem lay_cells {M' : Model} (f : Str × NameKind → List (Str × Addr) → Sem (ForInStep (List (Str × Addr))))
    (hf : ∀ name kind cells, f (name, kind) cells = if kind == .cell then (do let a ← alloc { cls := .type "cell", data := .cell none }; pure (.yield ((name, a) :: cells))) else pure (.yield cells)) :
    ∀ (names : List (Str × NameKind)) (acc : List (Str × Addr)) (s : Shared) (Q : List (Str × Addr) → Shared → Prop), At s₀ P L m (cellsM acc) s →
      (∀ s', At s₀ P L m (cellsM (cellsFrom s.heap.objs.size names acc)) s' → Q (cellsFrom s.heap.objs.size names acc) s') → wpAny M' A (forIn names acc f) Q E s
  | [], acc, s, Q, S, h => by rw [List.forIn_nil]; exact wpAny_pure (h s S)
  | (name, kind) :: r, acc, s, Q, S, h => by
    rw [List.forIn_cons, hf]
    unfold cellsFrom at h
    split at h
    · rename_i hk
      rw [if_pos hk]
      refine wpAny_bind (wpAny_bind (wpAny_alloc (wpAny_pure ?_)))
      have T := S.push (cellO none)
      have e : ({ s with heap := s.heap.push (cellO none) } : Shared).heap.objs.size = s.heap.objs.size + 1 := Heap.size_push ..
      refine lay_cells f hf r ((name, s.heap.objs.size) :: acc) _ Q T fun s' S' => ?_
      rw [e] at S' ⊢
      exact h s' S'
    · rename_i hk
      rw [if_neg hk]
      exact wpAny_bind (wpAny_pure (lay_cells f hf r acc s Q S h))

theorem lay_binds {M' : Model} {f : Str × Value → PUnit → Sem (ForInStep PUnit)} (hf : ∀ n v u, f (n, v) u = (do storeName env n v; pure (.yield ⟨⟩))) (hL : env.locals = L) (hk : env.scope.kind = .function) :
    ∀ (binds : List (Str × Value)) (m : Str → Option Value) (s : Shared) (Q : PUnit → Shared → Prop), (binds.all fun x => env.kindOf x.1 == some .local) = true → At s₀ P L m M s →
      (∀ s', At s₀ P L (binds.foldl (fun m x => updm m x.1 x.2) m) M s' → Q ⟨⟩ s') → wpAny M' A (forIn binds PUnit.unit f) Q E s
  | [], m, s, Q, _, S, h => by rw [List.forIn_nil]; exact wpAny_pure (h s S)
  | (n, v) :: r, m, s, Q, hl, S, h => by
    rw [List.forIn_cons, hf]
    rw [List.all_cons, Bool.and_eq_true] at hl
    refine wpAny_bind (wpAny_bind (r_store0 S (fun s₁ S₁ => wpAny_pure ?_) hL hk (eq_of_beq hl.1)))
    exact lay_binds hf hL hk r _ _ Q hl.2 S₁ h

noncomputable abbrev envC (w : World) (f L : Addr) : Env := callEnvC (fdOf w f) L f

theorem allOf_none {h : Heap} {a : Addr} (e : h.get? a = none) : allOf h a = none := by unfold allOf; split <;> first | rfl | exact e
theorem get_size (h : Heap) : h.get? h.objs.size = none := by
  cases e : h.get? h.objs.size with
  | none => rfl
  | some o => exact absurd (Heap.lt_size e) (Nat.lt_irrefl _)

/-- entering a def of the text with cells, its arguments plain locals -/
theorem enterC {f : Addr} {body : List Stmt} {args : Args} {R : Result → Shared → Prop} (binds : List (Str × Value))
    (O : Ok w s) (hd : A.depth < recursionLimit) (ho : IsDef w f) (hcd : codeIn (KK w) (fdOf w f).code (fdOf w f).qualname = true) (hbody : (fdOf w f).body = .stmts body)
    (hbind : bindArgs (fdOf w f) args = pure binds) (hclo : (fdOf w f).closure = []) (hloc : ∀ L, (binds.all fun x => (envC w f L).kindOf x.1 == some .local) = true)
    (hco : (fdOf w f).scope.isCoroutine = false) (hgen : (fdOf w f).scope.isGenerator = false) (hk : (fdOf w f).scope.kind = .function)
    (h : ∀ L s₁, At s (allOf s.heap) L (binds.foldl (fun m x => updm m x.1 x.2) fun _ => none) (cellsM (cellsFrom (L + 1) (fdOf w f).scope.names [])) s₁ → Base w (allOf s.heap) →
      wpAny (mo w) (A.deeper (envC w f L)) (execs body (envC w f L)) (fun fl s' => R (.ok (.ret (match fl with | .ret v => v | _ => .none))) s') NoE s₁) :
    codeAny (mo w) A (.call (.ref f) args) R s := by
  obtain ⟨oc, od, osl, ho⟩ := ho
  refine codeAny_call_function hd (O.K _ _ ho) rfl hco hgen hbody (codeRec_of O.K hcd) ?_
  rw [hbind, hclo]
  refine wpAny_pure ?_
  simp only [newFunctionEnv, Option.isSome_none, Bool.false_eq_true, if_false]
  have hL := get_size s.heap
  have hLt : s.heap.objs.size ∉ tabs3 := fun q => by obtain ⟨vs, e, _⟩ := O.T _ q; rw [hL] at e; cases e
  have S : At s (allOf s.heap) s.heap.objs.size (fun _ => none) [] { s with heap := s.heap.push { cls := .type "frame", data := .dict #[] } } := {
    ns := Heap.Ns.new s.heap (.type "frame")
    keep := fun a o e => by
      unfold allOf at e
      split at e
      · cases e
      · exact Heap.get?_push_of_some _ e
    live := fun p hp => nomatch hp
    out := fun x hx => by
      rcases List.mem_cons.mp hx with rfl | hx
      · exact allOf_none hL
      · cases hx
    nd := List.nodup_cons.mpr ⟨fun q => (nomatch q), List.nodup_nil⟩
    tb := fun x hx => ⟨by unfold allOf; rw [if_pos hx], fun q => by
      rcases List.mem_cons.mp q with rfl | q
      · exact hLt hx
      · cases q⟩
    grow := .of_keep fun x _ o e => Heap.get?_push_of_some _ e
    tx := fun x hx => let ⟨vs, e, z⟩ := O.T x hx; ⟨vs, Heap.get?_push_of_some _ e, z⟩
    os := rfl
    gens := id
    tp := Nat.le_refl _
    above := fun x hx => by
      rcases List.mem_cons.mp hx with rfl | hx
      · exact Nat.le_refl _
      · cases hx }
  have e1 : ({ s with heap := s.heap.push { cls := .type "frame", data := .dict #[] } } : Shared).heap.objs.size = s.heap.objs.size + 1 := Heap.size_push ..
  refine wpAny_bind (wpAny_alloc ?_)
  refine wpAny_bind (lay_cells (acc := []) _ (fun name kind cells => by cases hkc : kind == NameKind.cell <;> simp [hkc]) _ _ _ S fun s₁ S₁ => ?_)
  rw [e1] at S₁ ⊢
  refine wpAny_bind (lay_binds (env := envC w f s.heap.objs.size) (fun _ _ _ => rfl) rfl hk binds _ _ _ (hloc _) S₁ fun s₂ S₂ => wpAny_pure ?_)
  refine ⟨In.nolimit (S₂.inK O.base), codeAny_func (lift (h s.heap.objs.size s₂ S₂ O.base))⟩

/-! cells -/
theorem r_cell0 {M' : Model} {x : Str} {pos : Pos} {v : Value} {c : Addr} {o : Obj} {Q : Value → Shared → Prop} (S : At s₀ P L m M s) (h : Q v s) (hc : env.cells.lookup x = some c := by k_dflt rfl) (ho : o.data = .cell (some v) := by assumption) (hm : (c, o) ∈ M := by simp)
    (hk : env.scope.kind = .function := by kernel_rfl) (hx : env.kindOf x = some .cell := by kernel_rfl) (hd : (x == ("__debug__" : Str)) = false := by kernel_rfl) : wpAny M' A (eval (.Name x pos) env) Q E s :=
  wpAny_Name (wpAny_loadName_cell hk hx hc ⟨o, S.live _ hm, ho⟩ h) hd
noncomputable def celB (env : Env) (x : Str) : Bool := (match env.scope.kind with | .function => true | _ => false) && (match env.kindOf x with | some .cell => true | _ => false) && !(x == ("__debug__" : Str))
theorem celB_k {x : Str} (h : celB env x = true) : (env.scope.kind = .function ∧ env.kindOf x = some .cell) ∧ (x == ("__debug__" : Str)) = false := by
  obtain ⟨h, h3⟩ := Bool.and_eq_true_iff.mp h
  obtain ⟨h1, h2⟩ := Bool.and_eq_true_iff.mp h
  refine ⟨⟨?_, ?_⟩, neg_k h3⟩
  · split at h1 <;> first | assumption | cases h1
  · split at h2 <;> first | assumption | cases h2
theorem r_cell {M' : Model} {x : Str} {pos : Pos} {v : Value} {c : Addr} {o : Obj} {Q : Value → Shared → Prop} (S : At s₀ P L m M s) (h : Q v s) (hc : env.cells.lookup x = some c := by k_dflt rfl) (ho : o.data = .cell (some v) := by assumption) (hm : (c, o) ∈ M := by simp)
    (hb : celB env x = true := by kernel_rfl) : wpAny M' A (eval (.Name x pos) env) Q E s := r_cell0 S h hc ho hm (celB_k hb).1.1 (celB_k hb).1.2 (celB_k hb).2
theorem r_storeC {M' : Model} {x : Str} {v : Value} {v₀ : Option Value} {c : Addr} {o : Obj} {pre post : List (Addr × Obj)} {Q : Unit → Shared → Prop} (S : At s₀ P L m M s) (hM : M = pre ++ (c, o) :: post) (hc : env.cells.lookup x = some c) (ho : o.data = .cell v₀)
    (h : ∀ o' s', o'.data = .cell (some v) → At s₀ P L m (pre ++ (c, o') :: post) s' → Q () s')
    (hk : env.scope.kind = .function := by kernel_rfl) (hx : env.kindOf x = some .cell := by kernel_rfl) : wpAny M' A (storeName env x v) Q E s := by
  refine wpAny_storeName_cell hk hx hc ⟨o, S.live (c, o) (by rw [hM]; simp), ho⟩ fun h' hv hs => ?_
  obtain ⟨o', ho', hd'⟩ := hv
  exact h o' _ hd' (S.upd hM hs ho')
/-- a value is at hand for a cell -/
inductive StoredC (M' : Model) (A : Around) (env : Env) (rest : List Stmt) (Q : Flow → Shared → Prop) (E : Value → Shared → Prop) (s₀ : Shared) (L c : Addr) (v : Value) (s₁ : Shared) : Prop
  | mk (P' : PM) (m' : Str → Option Value) (pre post : List (Addr × Obj)) (o : Obj) (v₀ : Option Value) (S : At s₀ P' L m' (pre ++ (c, o) :: post) s₁) (ho : o.data = .cell v₀) (h : ∀ o' s', o'.data = .cell (some v) → At s₀ P' L m' (pre ++ (c, o') :: post) s' → wpAny M' A (execs rest env) Q E s')
theorem x_assignC {M' : Model} {x : Str} {p pos : Pos} {e : Expr} {rest : List Stmt} {Q : Flow → Shared → Prop} (_S : At s₀ P L m M s) {c : Addr}
    (h : wpAny M' A (eval e env) (fun v s₁ => StoredC M' A env rest Q E s₀ L c v s₁) E s) (hc : env.cells.lookup x = some c := by k_dflt rfl)
    (hb : celB env x = true := by kernel_rfl) (hs : swapsWith e (some (.Name x p)) pos.line env = pure false := by kernel_rfl) : wpAny M' A (execs (.Assign [.Name x p] e pos :: rest) env) Q E s :=
  wpAny_execs_cons (wpAny_Assign_Name (wpAny_mono h (fun _ _ ⟨_, _, _, _, _, _, S, ho, q⟩ => r_storeC S rfl hc ho q (celB_k hb).1.1 (celB_k hb).1.2) fun _ _ x => x) hs)
end
end Mine
namespace Mine

section
variable {w : World} {A : Around} {E : Value → Shared → Prop} {env : Env} {s₀ : Shared} {L : Addr} {P : PM} {m : Str → Option Value} {M : List (Addr × Obj)} {s : Shared}

theorem r_str {M' : Model} {x : Str} {k pos} {Q : Value → Shared → Prop} (S : At s₀ P L m M s) (h : ∀ t s', At s₀ P L m M s' → Q (.str x t) s') : wpAny M' A (eval (.Constant (.str x) k pos) env) Q E s :=
  wpAny_Constant_str (h _ _ (S.toks1 1))
theorem r_strT {M' : Model} {x : Str} {k pos} {Q : Value → Shared → Prop} (S : At s₀ P L m M s) (h : ∀ t s', s₀.toks ≤ t → At s₀ P L m M s' → Q (.str x t) s') : wpAny M' A (eval (.Constant (.str x) k pos) env) Q E s :=
  wpAny_Constant_str (h _ _ S.tp (S.toks1 1))
theorem r_int {M' : Model} {x : Int} {k pos} {Q : Value → Shared → Prop} (S : At s₀ P L m M s) (h : ∀ t s', At s₀ P L m M s' → Q (.int x t) s') : wpAny M' A (eval (.Constant (.int x) k pos) env) Q E s :=
  wpAny_Constant_int (h _ _ (S.toks1 1))

/-! operators -/
theorem o_add {a b : Int} {t u : Tok} {Q : Value → Shared → Prop} (S : At s₀ P L m M s) (h : ∀ t s', At s₀ P L m M s' → Q (.int (a + b) t) s') : wpAny (mo w) A (binaryOp .Add (.int a t) (.int b u)) Q E s := PyProof.Rows.add_int (h _ _ (S.toks1 1))
theorem o_sub {a b : Int} {t u : Tok} {Q : Value → Shared → Prop} (S : At s₀ P L m M s) (h : ∀ t s', At s₀ P L m M s' → Q (.int (a - b) t) s') : wpAny (mo w) A (binaryOp .Sub (.int a t) (.int b u)) Q E s := PyProof.Rows.sub_int (h _ _ (S.toks1 1))
theorem o_iadd {a b : Int} {t u : Tok} {Q : Value → Shared → Prop} (S : At s₀ P L m M s) (h : ∀ t s', At s₀ P L m M s' → Q (.int (a + b) t) s') : wpAny (mo w) A (inplaceOp .Add (.int a t) (.int b u)) Q E s := PyProof.Rows.iadd_int (h _ _ (S.toks1 1))
theorem o_neg {a : Int} {t : Tok} {Q : Value → Shared → Prop} (S : At s₀ P L m M s) (h : ∀ t s', At s₀ P L m M s' → Q (.int (-a) t) s') : wpAny (mo w) A (unaryOp .USub (.int a t)) Q E s := PySem.P.neg_int (h _ _ (S.toks1 1))
theorem o_mod {a b : Int} {t u : Tok} {Q : Value → Shared → Prop} (S : At s₀ P L m M s) (hb : b ≠ 0) (h : ∀ t s', At s₀ P L m M s' → Q (.int (a.fmod b) t) s') : wpAny (mo w) A (binaryOp .Mod (.int a t) (.int b u)) Q E s := mod_int' hb (h _ _ (S.toks1 1))
theorem o_div {a b : Int} {t u : Tok} {Q : Value → Shared → Prop} (S : At s₀ P L m M s) (hb : b ≠ 0) (hp : Builtin.divisionGoesByPylong a b = false) (h : ∀ t s', At s₀ P L m M s' → Q (.int (a.fdiv b) t) s') : wpAny (mo w) A (binaryOp .FloorDiv (.int a t) (.int b u)) Q E s := floordiv_int hb (h _ _ (S.toks1 1)) (.inl hp)
theorem post_val_or {x : Str} {t : Tok} {c : Bool} {Q : Value → Shared → Prop} (S : At s₀ P L m M s) (hsz : x.length ≤ 16777216) (h : ∀ t s', At s₀ P L m M s' → Q (.str x t) s') : (if c = true then Made.val (.str x t) else Made.str x).post Q s := by
  cases c
  · exact ⟨by rw [sizeLine_eq]; exact hsz, h _ _ (S.toks1 1)⟩
  · exact h _ _ S
theorem o_cat {x y : Str} {t u : Tok} {Q : Value → Shared → Prop} (S : At s₀ P L m M s) (hsz : x.length + y.length ≤ 16777216) (h : ∀ t s', At s₀ P L m M s' → Q (.str (x ++ y) t) s') : wpAny (mo w) A (binaryOp .Add (.str x t) (.str y u)) Q E s := by
  refine PySem.P.add_str ?_
  split
  · rename_i hx
    have := h u _ S
    rw [Str.append_left_empty hx] at this
    exact this
  · split
    · rename_i hy
      have := h t _ S
      rw [Str.append_right_empty hy] at this
      exact this
    · exact ⟨by rw [size_cat, sizeLine_eq]; exact hsz, h _ _ (S.toks1 1)⟩
theorem o_icat {x y : Str} {t u : Tok} {Q : Value → Shared → Prop} (S : At s₀ P L m M s) (hsz : x.length + y.length ≤ 16777216) (h : ∀ t s', At s₀ P L m M s' → Q (.str (x ++ y) t) s') : wpAny (mo w) A (inplaceOp .Add (.str x t) (.str y u)) Q E s := by
  refine PySem.P.iadd_str ?_
  split
  · rename_i hx
    have := h u _ S
    rw [Str.append_left_empty hx] at this
    exact this
  · split
    · rename_i hy
      have := h t _ S
      rw [Str.append_right_empty hy] at this
      exact this
    · exact ⟨by rw [size_cat, sizeLine_eq]; exact hsz, h _ _ (S.toks1 1)⟩
theorem o_len {a : Addr} {vs : Array Value} {n : Nat} {Q : Value → Shared → Prop} (S : At s₀ P L m M s) (hl : s.heap.get? a = some (listOf vs n)) (hsz : vs.size ≤ 16777216) (h : ∀ t s', At s₀ P L m M s' → Q (.int vs.size t) s') : wpAny (mo w) A (call (.builtin "len") [.ref a]) Q E s :=
  call_len_list ⟨_, hl, rfl, n, rfl⟩ (by (first | lia | omega)) (h _ _ (S.toks1 (1 + 1)))
theorem o_lenS {x : Str} {t : Tok} {Q : Value → Shared → Prop} (S : At s₀ P L m M s) (hsz : x.length ≤ 16777216) (h : ∀ t s', At s₀ P L m M s' → Q (.int x.length t) s') : wpAny (mo w) A (call (.builtin "len") [.str x t]) Q E s :=
  PyProof.Rows.len_str (by (first | lia | omega)) (h _ _ (S.toks1 (1 + 1)))

/-- an item of a list -/
theorem o_item {value slice : Expr} {a : Addr} {vs : Array Value} {n : Nat} {k : Int} {u : Tok} {x : Value} {Q : Value → Shared → Prop} (hl : s.heap.get? a = some (listOf vs n)) (h0 : 0 ≤ k) (hx : vs[k.toNat]? = some x) (hsz : vs.size ≤ 16777216) (h : Q x s)
    (hs : subscripted slice false (.ref a) (.int k u) = operate [.ref a, .int k u] (getItem (.ref a) (.int k u)) := by with_unfolding_all rfl) (hg : ∀ r, letTemporaryGo value (.ref a) r = pure () := by intro _; with_unfolding_all rfl) :
    wpAny (mo w) A (subscriptTail value slice (.ref a) (.int k u)) Q E s := by
  have hk : k.toNat < vs.size := by
    by_cases q : k.toNat < vs.size
    · exact q
    · rw [Array.getElem?_eq_none (by (first | lia | omega))] at hx; cases hx
  exact item_list ⟨_, hl, rfl, n, rfl⟩ h0 (by (first | lia | omega)) hx h hs hg
theorem o_itemN {value slice : Expr} {a : Addr} {vs : Array Value} {n : Nat} {k : Int} {u : Tok} {x : Value} {Q : Value → Shared → Prop} (hl : s.heap.get? a = some (listOf vs n)) (h0 : k < 0) (h1 : -(vs.size : Int) ≤ k) (hx : vs[(k + vs.size).toNat]? = some x) (hsz : vs.size ≤ 16777216) (h : Q x s)
    (hs : subscripted slice false (.ref a) (.int k u) = operate [.ref a, .int k u] (getItem (.ref a) (.int k u)) := by with_unfolding_all rfl) (hg : ∀ r, letTemporaryGo value (.ref a) r = pure () := by intro _; with_unfolding_all rfl) :
    wpAny (mo w) A (subscriptTail value slice (.ref a) (.int k u)) Q E s :=
  have il : s.heap.IsList a vs := ⟨_, hl, rfl, n, rfl⟩
  subscriptTail_builtin il.typeIs slot_list_getitem.lookup (wpAny_getItem_list_neg il h0 h1 (by (first | lia | omega)) hx h) hs hg

/-- calls of names -/
theorem c_def0 {x : Str} {p pos : Pos} {a : Addr} {Q : Value → Shared → Prop} (S : At s₀ P L m M s) (B : Base w P) (h : wpAny (mo w) A (call (.ref a) []) Q E s) (e : nsIn (KK w) mainGlobals x = some (some (.ref a))) (hk : keepIn (KK w) (.ref a) = true)
    (hb : gloB env x = true := by kernel_rfl) :
    wpAny (mo w) A (eval (.Call (.Name x p) [] [] pos) env) Q E s :=
  wpAny_Call_NameR (r_glob S B (callWith_K0 (S.inK B) hk h) e hb)
/-- the ground stands -/
inductive AtBase (w : World) (s₀ : Shared) (L : Addr) (s₁ : Shared) : Prop
  | mk (P₁ : PM) (m₁ : Str → Option Value) (M₁ : List (Addr × Obj)) (S : At s₀ P₁ L m₁ M₁ s₁) (B : Base w P₁)
theorem c_def {x : Str} {p pos : Pos} {a : Addr} {e : Expr} {rest : List Expr} {Q : Value → Shared → Prop} (S : At s₀ P L m M s) (B : Base w P)
    (h : wpAny (mo w) A (spliced (backTo pos (starEach (e :: rest) env))) (fun vs s₁ => AtBase w s₀ L s₁ ∧ wpAny (mo w) A (call (.ref a) vs) Q E s₁) E s)
    (en : nsIn (KK w) mainGlobals x = some (some (.ref a))) (hk : keepIn (KK w) (.ref a) = true)
    (hb : gloB env x = true := by kernel_rfl)
    (he : starEach (e :: rest) env = (false, eval e env) :: starEach rest env := by rfl) (hplain : (backTo pos (starEach rest env)).any (·.1) = false := by rfl) :
    wpAny (mo w) A (eval (.Call (.Name x p) (e :: rest) [] pos) env) Q E s :=
  wpAny_Call_NameR (r_glob S B (callWith_K (S.inK B) hk (wpAny_mono h (fun _ _ ⟨⟨_, _, _, S₁, B₁⟩, q⟩ => ⟨S₁.inK B₁, q⟩) fun _ _ x => x) he hplain) en hb)
theorem c_built {x : Str} {p pos : Pos} {id : String} {e : Expr} {rest : List Expr} {Q : Value → Shared → Prop} (S : At s₀ P L m M s) (B : Base w P)
    (h : wpAny (mo w) A (spliced (backTo pos (starEach (e :: rest) env))) (fun vs s₁ => wpAny (mo w) A (call (.builtin id) vs) Q E s₁) E s)
    (en : nsIn (KK w) mainGlobals x = some none := by kernel_rfl) (hv : bootBuiltins x = some (.builtin id) := by boot_fast) (hb : bltB env x = true := by kernel_rfl)
    (he : starEach (e :: rest) env = (false, eval e env) :: starEach rest env := by rfl) (hplain : (backTo pos (starEach rest env)).any (·.1) = false := by rfl) :
    wpAny (mo w) A (eval (.Call (.Name x p) (e :: rest) [] pos) env) Q E s :=
  wpAny_Call_NameR (r_built S B (PyProof.Rows.callWith_builtin1 h he hplain) en hv hb)
theorem c_type {x : Str} {p pos : Pos} {T : String} {e : Expr} {rest : List Expr} {Q : Value → Shared → Prop} (S : At s₀ P L m M s) (B : Base w P)
    (h : wpAny (mo w) A (spliced (backTo pos (starEach (e :: rest) env))) (fun vs s₁ => wpAny (mo w) A (call (.type T) vs) Q E s₁) E s)
    (en : nsIn (KK w) mainGlobals x = some none := by kernel_rfl) (hv : bootBuiltins x = some (.type T) := by boot_fast) (hb : bltB env x = true := by kernel_rfl)
    (he : starEach (e :: rest) env = (false, eval e env) :: starEach rest env := by rfl) (hplain : (backTo pos (starEach rest env)).any (·.1) = false := by rfl) :
    wpAny (mo w) A (eval (.Call (.Name x p) (e :: rest) [] pos) env) Q E s :=
  wpAny_Call_NameR (r_built S B (PyProof.Rows.callWith_type1 h he hplain) en hv hb)

theorem newOf_nw {s' : Shared} {P' : PM} (hP : (allOf s₀.heap).le P) (S : At s₀ P L m M s) (h : (newOf s s').le P') : (newOf s s').le (nw s₀ P') := fun a o e => by
  refine nw_of (h a o e) ?_
  cases q : s₀.heap.get? a with
  | none => rfl
  | some ob =>
    exfalso
    have hs : s.heap.get? a = none := by
      unfold newOf nw at e
      split at e
      · assumption
      · cases e
    by_cases ht : a ∈ tabs3
    · obtain ⟨vs, e', _⟩ := S.tx a ht
      rw [hs] at e'; cases e'
    · have := S.keep a ob (hP a ob (by unfold allOf; rw [if_neg ht]; exact q))
      rw [hs] at this; cases this

/-- values are at hand for a list -/
inductive ListOk (s₀ : Shared) (L : Addr) (Q : Value → Shared → Prop) (vs : List Value) (s₁ : Shared) : Prop
  | mk (hl : vs.length ≤ 1000) (P₁ : PM) (m₁ : Str → Option Value) (M₁ : List (Addr × Obj)) (S : At s₀ P₁ L m₁ M₁ s₁) (h : ∀ a P' s', P₁.le P' → P' a = some (listOf vs.toArray 0) → s₀.heap.get? a = none → At s₀ P' L m₁ M₁ s' → Q (.ref a) s')
/-- a new list of values that are no objects of their own -/
theorem r_listv {M' : Model} {elts : List Expr} {pos : Pos} {Q : Value → Shared → Prop} (_S : At s₀ P L m M s)
    (h : wpAny M' A (spliced (backTo pos (starEach elts env))) (fun vs s₁ => ListOk s₀ L Q vs s₁) E s) :
    wpAny M' A (eval (.List elts pos) env) Q E s :=
  List_ (wpAny_mono h (fun _ _ ⟨hl, _, _, _, S, q⟩ => r_newlist S q (by rw [sizeLine_eq]; (first | lia | omega))) fun _ _ x => x)

/-- range(..) and what it runs through -/
theorem o_range1 {b : Int} {t : Tok} {Q : Value → Shared → Prop} (S : At s₀ P L m M s) (hh : A.handled = none) (hb : 0 ≤ b ∧ b < 2 ^ 62)
    (h : ∀ r P' s', P.le P' → At s₀ P' L m M s' → Its w A s₀ P' (.ref r) b.toNat (fun i v => ∃ t, v = .int (0 + i * 1) t) (RangeO 0 1 b.toNat) → Q (.ref r) s') : wpAny (mo w) A (call (.type "range") [.int b t]) Q E s := by
  refine call_range_1 ?_
  obtain ⟨hn, T⟩ := S.pushP { cls := .type "range", data := .fields #[.int 0 s.toks, .int b t, .int 1 (s.toks + 1)] }
  refine h _ _ _ (PM.le_put hn) (T.toks1 (1 + 1)) (.range hh (PM.put_self ..) (small_one (by decide) (by decide) (by (first | lia | omega)) (by (first | lia | omega))) ?_)
  rw [rangeSize_one]; split <;> (first | lia | omega)
theorem At.isNew (S : At s₀ P L m M s) {x : Addr} (h : x ∈ L :: M.map (·.1)) : s₀.heap.get? x = none := by
  cases e : s₀.heap.get? x with
  | none => rfl
  | some o => exact absurd (Nat.lt_of_lt_of_le (Heap.lt_size e) (S.above x h)) (Nat.lt_irrefl _)
/-- what is frozen stands in the whole heap -/
theorem At.leAll (S : At s₀ P L m M s) : P.le (allOf s.heap) := fun a o e => by
  unfold allOf
  rw [if_neg fun h => by rw [(S.tb a h).1] at e; cases e]
  exact S.keep a o e
theorem At.leNew (S : At s₀ P L m M s) : (nw s₀ P).le (allOf s.heap) := nw_le.trans S.leAll
/-- a list, made here, is given back -/
theorem At.fin (hP : (allOf s₀.heap).le P) {pre post : List (Addr × Obj)} {D : Addr} {acc : List Value} {j : Nat} {ds : List PyData} (S : At s₀ P L m M s) (hM : M = pre ++ (D, listOf acc.toArray j) :: post) (h : Rds (nw s₀ P) acc ds) :
    Mv [] s₀ s ∧ Rd (newOf s₀ s) (.ref D) (.list ds) := by
  have T := S.freeze hM
  have hD : D ∈ L :: M.map (·.1) := by rw [hM]; simp
  have hle : P.le (PM.put P D (listOf acc.toArray j)) := PM.le_put (S.out D hD)
  exact ⟨T.mvOut (hP.trans hle), Rd.mono (nw_newOf T) (.list (vs := acc.toArray) (n := j) (nw_of (PM.put_self ..) (S.isNew hD)) (h.mono (nw_mono hle)))⟩

/-- a list of two is taken apart -/
theorem r_pair {e₁ e₂ : Expr} {k : Nat} {pos : Pos} {l : Addr} {x y : Value} {n : Nat} {Q : Unit → Shared → Prop} (S : At s₀ P L m M s) (hh : A.handled = none) (hl : P l = some (listOf #[x, y] n))
    (h : ∀ s', At s₀ P L m M s' → wpAny (mo w) A (assignInOrder [assign e₁ env, assign e₂ env] [x, y]) Q E s')
    (he : assignEach [e₁, e₂] env = [(false, assign e₁ env), (false, assign e₂ env)] := by rfl) : wpAny (mo w) A (assign (.Tuple [e₁, e₂] k pos) env (.ref l)) Q E s := by
  rw [PyProof.Rows.assign_Tuple, he]
  refine wpAny_bind (wpAny_standAt ?_)
  have W : Its w A s₀ P (.ref l) 2 _ _ := Its.list hh hl
  have hil : s.heap.IsList l #[x, y] := ⟨_, S.keep _ _ hl, rfl, n, rfl⟩
  refine wpAny_bind (wpAny_holding (show wpAny _ A (unpackItems (.ref l) 2 none) _ _ _ from ?_))
  unfold unpackItems
  refine wpAny_bind ?_
  unfold notIterableAtAll
  refine wpAny_bind (wpAny_specialOf hil.typeIs slot_list_iter.lookup ?_)
  refine wpAny_pure ?_
  simp only [Bool.false_eq_true, if_false]
  refine wpAny_bind (wpAny_holding (W.start S fun o hf hI => ?_))
  have S₁ := S.push o hf
  refine wpAny_bind (wpAny_holding ?_)
  show wpAny _ _ (pyNext _ >>= _) _ _ _
  refine wpAny_bind (W.next (pre := []) (.refl _) S₁ rfl hI (by decide) fun v o' s' hv hI S₂ => ?_)
  cases (Option.some.inj hv : x = v)
  refine wpAny_bind (wpAny_holding ?_)
  show wpAny _ _ (pyNext _ >>= _) _ _ _
  refine wpAny_bind (W.next (pre := []) (.refl _) S₂ rfl hI (by decide) fun v o' s' hv hI S₃ => ?_)
  cases (Option.some.inj hv : y = v)
  refine wpAny_bind (wpAny_holding (wpAny_pure (wpAny_pure (wpAny_pure ?_))))
  rw [if_neg (by simp)]
  refine wpAny_bind (wpAny_holding (W.stop (pre := []) (.refl _) S₃ rfl hI fun s' S₄ => ?_))
  simp only [Option.isSome_none, Bool.false_eq_true, if_false]
  exact wpAny_pure (h s' S₄)
end

/-! a walk over an expression -/
end Mine
namespace Mine

noncomputable abbrev strsD (r : List Str) : PyData := .list (r.map .str)
theorem Rds.strs {P : PM} : ∀ {vs : List Value} {ps : List Str}, Rds P vs (ps.map .str) → ∃ l : List (Str × Tok), vs = strValues l ∧ l.map (·.1) = ps
  | _, [], .nil => ⟨[], rfl, rfl⟩
  | _, p :: ps, h => by
    cases h with | cons a b =>
    cases a
    obtain ⟨l, rfl, e⟩ := Rds.strs b
    exact ⟨(p, _) :: l, rfl, by simp [e]⟩
theorem Rds.ofStrs {P : PM} : ∀ {l : List (Str × Tok)}, Rds P (strValues l) ((l.map (·.1)).map .str)
  | [] => .nil
  | (x, t) :: r => .cons (.str x t) Rds.ofStrs

theorem Rds.drop {P : PM} : ∀ {vs : List Value} {ds : List PyData}, Rds P vs ds → ∀ k, Rds P (vs.drop k) (ds.drop k)
  | _, _, .nil, k => by rw [List.drop_nil, List.drop_nil]; exact .nil
  | _, _, .cons a b, 0 => .cons a b
  | _, _, .cons _ b, k + 1 => b.drop k
theorem Rds.take {P : PM} : ∀ {vs : List Value} {ds : List PyData}, Rds P vs ds → ∀ k, Rds P (vs.take k) (ds.take k)
  | _, _, .nil, k => by rw [List.take_nil, List.take_nil]; exact .nil
  | _, _, .cons _ _, 0 => .nil
  | _, _, .cons a b, k + 1 => .cons a (b.take k)
theorem slicePick_mid (vs : Array Value) (h : 1 ≤ vs.size) : slicePick vs (some 1) (some (-1)) none = ((vs.toList.drop 1).take (vs.size - 2)).toArray := by
  have e : sliceBounds (some 1) (some (-1)) none vs.size = (((1 : Nat) : Int), ((vs.size - 1 : Nat) : Int), 1) := by
    simp only [sliceBounds, Option.getD_none, show (1 : Int) > 0 by decide, if_true, show ¬ ((1 : Int) < 0) by decide, if_false, show ((-1 : Int) < 0) by decide]
    congr 1
    · (first | lia | omega)
    · congr 1; (first | lia | omega)
  unfold slicePick
  rw [e]
  simp only [sliceRange_one, pick_run]
  congr 2

section
variable {w : World} {A : Around} {E : Value → Shared → Prop} {env : Env} {s₀ : Shared} {L : Addr} {P : PM} {m : Str → Option Value} {M : List (Addr × Obj)} {s : Shared}

theorem onStr0 {name : Str} {id : String} {x : Str} {t : Tok} {pos : Pos} {Q : Value → Shared → Prop} (slot : Slot "str" name id) (ty : typeOf (.builtin id) = pure (.type "method_descriptor"))
    (h : wpAny (mo w) A (call (.builtin id) [.str x t]) Q E s) : MethodOnS pw w A E name (.str x t) pos [] Q s :=
  ⟨"str", id, F.plainAttrs_str, slot, ty, typeIs_str _ _ _, (fun _ e => nomatch e), callWith_builtin rfl (evalArgs_nil3 h)⟩
theorem onStr1 {name : Str} {id : String} {x : Str} {t : Tok} {pos : Pos} {a : Sem Value} {Q : Value → Shared → Prop} (slot : Slot "str" name id) (ty : typeOf (.builtin id) = pure (.type "method_descriptor"))
    (h : wpAny (mo w) A a (fun v s₁ => wpAny (mo w) A (call (.builtin id) [.str x t, v]) Q E s₁) E s) : MethodOnS pw w A E name (.str x t) pos [(false, a)] Q s :=
  ⟨"str", id, F.plainAttrs_str, slot, ty, typeIs_str _ _ _, (fun _ e => nomatch e), callWith_builtin rfl (evalArgs_plain (spliced_cons (wpAny_mono h (fun _ _ h₁ => spliced_nil h₁) fun _ _ e => e)))⟩
theorem onStr2 {name : Str} {id : String} {x : Str} {t : Tok} {pos : Pos} {a b : Sem Value} {Q : Value → Shared → Prop} (slot : Slot "str" name id) (ty : typeOf (.builtin id) = pure (.type "method_descriptor"))
    (h : wpAny (mo w) A a (fun v s₁ => wpAny (mo w) A b (fun u s₂ => wpAny (mo w) A (call (.builtin id) [.str x t, v, u]) Q E s₂) E s₁) E s) : MethodOnS pw w A E name (.str x t) pos [(false, a), (false, b)] Q s :=
  ⟨"str", id, F.plainAttrs_str, slot, ty, typeIs_str _ _ _, (fun _ e => nomatch e), callWith_builtin rfl (evalArgs_plain (spliced_cons (wpAny_mono h (fun _ _ h₁ => spliced_cons (wpAny_mono h₁ (fun _ _ h₂ => spliced_nil h₂) fun _ _ e => e)) fun _ _ e => e)))⟩

theorem o_join {D : Addr} {vs : Array Value} {n : Nat} {ps : List Str} {x : Str} {t : Tok} {Q : Value → Shared → Prop} (S : At s₀ P L m M s) (hl : s.heap.get? D = some (listOf vs n)) {P' : PM} (r : Rds P' vs.toList (ps.map .str)) (hok : JoinOk x ps = true)
    (h : ∀ t s', At s₀ P L m M s' → Q (.str (Txt.join x ps) t) s') : wpAny (mo w) A (call (.builtin "str.join") [.str x t, .ref D]) Q E s := by
  obtain ⟨l, e, hp⟩ := r.strs
  have hi : s.heap.IsList D (strValues l).toArray := ⟨_, hl, rfl, n, by rw [← e, Array.toArray_toList]⟩
  subst hp
  have hok' := hok
  unfold JoinOk at hok
  rw [Bool.not_eq_true'] at hok
  refine call_meets F.slot_str_join (typeIs_str _ _ _) F.entry_str_join (F.args_str_join_2 _ _) (meets_str_join_list x t D l hok) ⟨hi, ?_⟩
  have hf := joinFit_length hok
  match l, h, hf with
  | [], h, hf => exact ⟨hf, h _ _ (S.toks1 1)⟩
  | [p], h, _ => exact h p.2 s S
  | _ :: _ :: _, h, hf => exact ⟨hf, h _ _ (S.toks1 1)⟩

theorem o_split {x y : Str} {t u : Tok} {Q : Value → Shared → Prop} (S : At s₀ P L m M s) (hy : (y.length == 0) = false) (hx : x.length ≤ 16777216) (hn : (Builtin.Str.partsBetween x (Builtin.Str.occurrences x y 0 x.length (x.length + 1)) y.length).length ≤ 16777216)
    (h : ∀ D vs P' s', P.le P' → At s₀ P' L m M s' → P' D = some (listOf vs 0) → s₀.heap.get? D = none → Rds (nw s₀ P') vs.toList ((Txt.split x y).map .str) → Q (.ref D) s') : wpAny (mo w) A (call (.builtin "str.split") [.str x t, .str y u]) Q E s := by
  have key : ∀ (l : List (Str × Tok)) tk, l.map (·.1) = Txt.split x y → Q (.ref s.heap.objs.size) { s with heap := s.heap.push (listOf (strValues l).toArray 0), toks := s.toks + tk } := fun l tk hl => by
    obtain ⟨hno, T⟩ := S.pushP (listOf (strValues l).toArray 0)
    refine h _ _ _ _ (PM.le_put hno) (T.toks1 tk) (PM.put_self ..) ?_ ?_
    · cases e : s₀.heap.get? s.heap.objs.size with
      | none => rfl
      | some o => exact absurd (Nat.lt_of_lt_of_le (Heap.lt_size e) S.size) (Nat.lt_irrefl _)
    · rw [← hl]; exact Rds.ofStrs
  rw [← sizeLine_eq] at hx hn
  cases h1 : (decide (x.length < y.length) || decide (Builtin.Str.strKind x < Builtin.Str.strKind y))
  · cases hf : (Builtin.Str.occurrences x y 0 x.length (x.length + 1)).isEmpty
    · refine call_meets F.slot_str_split (typeIs_str _ _ _) F.entry_str_split (F.args_str_split_2 _ _) (meets_str_split_sep x y t u h1 hy hf hx hn) ?_
      rw [strsFrom_eq]
      exact key (numbered s.toks _) _ ((numbered_texts _ _).trans ((if_neg (ne_true_of_eq_false h1)).trans (if_neg (ne_true_of_eq_false hf))).symm)
    · exact call_meets F.slot_str_split (typeIs_str _ _ _) F.entry_str_split (F.args_str_split_2 _ _) (meets_str_split_not_found x y t u h1 hy hf) (key [(x, t)] 0 ((if_neg (ne_true_of_eq_false h1)).trans (if_pos hf)).symm)
  · exact call_meets F.slot_str_split (typeIs_str _ _ _) F.entry_str_split (F.args_str_split_2 _ _) (meets_str_split_cannot_occur x y t u h1) (key [(x, t)] 0 (if_pos h1).symm)

/-- a list and its bounds are at hand -/
inductive SliceOk (s₀ : Shared) (L : Addr) (Q : Value → Shared → Prop) (o vl vu : Value) (s₃ : Shared) : Prop
  | mk (l : Addr) (items : Array Value) (n : Nat) (lo hi : Option Int) (P₁ : PM) (m₁ : Str → Option Value) (M₁ : List (Addr × Obj)) (ho : o = .ref l) (S : At s₀ P₁ L m₁ M₁ s₃) (hl : s₃.heap.get? l = some (listOf items n)) (hsz : items.size ≤ 16777216) (pl : IsPart vl lo) (pu : IsPart vu hi)
    (h : ∀ D P' s', P₁.le P' → At s₀ P' L m₁ M₁ s' → P' D = some (listOf (slicePick items lo hi none) 0) → s₀.heap.get? D = none → Q (.ref D) s')
/-- a slice of a list -/
theorem r_sliceL {value : Expr} {lower upper : Option Expr} {p pos : Pos} {Q : Value → Shared → Prop} (_S : At s₀ P L m M s)
    (h : wpAny (mo w) A (eval value env) (fun o s₁ => wpAny (mo w) A (evalPart lower env) (fun vl s₂ => wpAny (mo w) A (evalPart upper env) (fun vu s₃ => SliceOk s₀ L Q o vl vu s₃) E s₂) E s₁) E s)
    (ht : ∀ o r, letTemporaryGo value o r = pure () := by intro _ _; rfl) : wpAny (mo w) A (eval (.Subscript value (.Slice lower upper none p) pos) env) Q E s := by
  refine wpAny_Subscript_list_slice (wpAny_mono h (fun o s₁ h₁ => wpAny_mono h₁ (fun vl s₂ h₂ => wpAny_mono h₂ (fun vu s₃ h₃ => ?_) fun _ _ e => e) fun _ _ e => e) fun _ _ e => e) ht
  obtain ⟨l, items, n, lo, hi, P₁, m₁, M₁, rfl, S, hl, hsz, pl, pu, q⟩ := h₃
  refine ⟨l, items, lo, hi, rfl, ⟨_, hl, rfl, n, rfl⟩, by rw [sizeLine_eq]; exact hsz, pl, pu, ?_⟩
  have S₁ := S.drop1 { cls := .type "slice", data := .fields #[vl, vu, .none] }
  obtain ⟨hno, T⟩ := S₁.pushP (listOf (slicePick items lo hi none) 0)
  have e : (s₃.heap.push { cls := .type "slice", data := .fields #[vl, vu, .none] }).objs.size = s₃.heap.objs.size + 1 := Heap.size_push ..
  rw [e] at hno T
  refine q _ _ _ (PM.le_put hno) T (PM.put_self ..) ?_
  cases e' : s₀.heap.get? (s₃.heap.objs.size + 1) with
  | none => rfl
  | some o =>
    exact absurd (Nat.lt_of_lt_of_le (Heap.lt_size e') (Nat.le_succ_of_le S.size)) (Nat.lt_irrefl _)

/-- a sign of a text, a slice of a text -/
theorem o_sign {value slice : Expr} {x : Str} {t : Tok} {i : Int} {u : Tok} {Q : Value → Shared → Prop} (S : At s₀ P L m M s) (hx : x.length ≤ 16777216) (h1 : -(x.length : Int) ≤ i) (h2 : i < x.length)
    (h : ∀ t s', At s₀ P L m M s' → Q (.str (Txt.item x i) t) s')
    (hs : subscripted slice false (.str x t) (.int i u) = operate [.str x t, .int i u] (getItem (.str x t) (.int i u)) := by with_unfolding_all rfl)
    (ht : ∀ r, letTemporaryGo value (.str x t) r = pure () := by intro _; with_unfolding_all rfl) : wpAny (mo w) A (subscriptTail value slice (.str x t) (.int i u)) Q E s :=
  item_str (by unfold fitsSsize; simp; (first | lia | omega)) h1 h2 (fun _ => h _ _ (S.toks1 1)) hs ht
end

/-- the bounds of a slice, step one -/
noncomputable def clipI (v : Option Int) (d : Int) (n : Nat) : Int := match v with
  | none => d
  | some i => max 0 (min (if i < 0 then i + n else i) n)
noncomputable def cutL {α : Type} (x : List α) (l u : Option Int) : List α := (x.drop (clipI l 0 x.length).toNat).take ((clipI u x.length x.length).toNat - (clipI l 0 x.length).toNat)
noncomputable def strSlice (x : Str) (l u : Option Int) : Str := ⟨(cutL x.cps.toList l u).toArray⟩
theorem clipI_bounds {v : Option Int} {d : Int} {n : Nat} (h : 0 ≤ d ∧ d ≤ n) : 0 ≤ clipI v d n ∧ clipI v d n ≤ n := by
  unfold clipI
  split
  · exact h
  · (first | lia | omega)
theorem picked_eq (x : Str) (l u : Option Int) : Builtin.Str.strSliceIndices l u 1 x.length = (List.range ((clipI u x.length x.length).toNat - (clipI l 0 x.length).toNat)).map ((clipI l 0 x.length).toNat + ·) := by
  have hl := clipI_bounds (v := l) (d := 0) (n := x.length) (by (first | lia | omega))
  have hu := clipI_bounds (v := u) (d := x.length) (n := x.length) (by (first | lia | omega))
  have e : Builtin.Str.strSliceIndices l u 1 x.length = sliceRange (clipI l 0 x.length) (clipI u x.length x.length) 1 := by
    unfold Builtin.Str.strSliceIndices clipI
    cases l <;> cases u <;> simp
  rw [e]
  have key : ∀ a b : Int, 0 ≤ a → 0 ≤ b → sliceRange a b 1 = (List.range (b.toNat - a.toNat)).map (a.toNat + ·) := fun a b ha hb => by
    obtain ⟨a, rfl⟩ := Int.eq_ofNat_of_zero_le ha
    obtain ⟨b, rfl⟩ := Int.eq_ofNat_of_zero_le hb
    exact sliceRange_one a b
  exact key _ _ hl.1 hu.1
theorem picks_eq (x : Str) (l u : Option Int) : (Builtin.Str.strSliceIndices l u 1 x.length).filterMap (x.cps[·]?) = cutL x.cps.toList l u := by
  rw [picked_eq, pick_run]
  unfold cutL
  simp [Str.length]
theorem cut_whole {x : Str} {l u : Option Int} (h : (Builtin.Str.strSliceIndices l u 1 x.length).length = x.length) : cutL x.cps.toList l u = x.cps.toList := by
  rw [picked_eq, List.length_map, List.length_range] at h
  have hl := clipI_bounds (v := l) (d := 0) (n := x.length) (by (first | lia | omega))
  have hu := clipI_bounds (v := u) (d := x.length) (n := x.length) (by (first | lia | omega))
  unfold cutL
  have e : x.cps.toList.length = x.length := by simp [Str.length]
  rw [e]
  by_cases h0 : x.length = 0
  · have : x.cps.toList = [] := List.eq_nil_of_length_eq_zero (by rw [e]; exact h0)
    rw [this]; simp
  · have h1 : (clipI l 0 x.length).toNat = 0 := by (first | lia | omega)
    rw [h1, h1] at *
    rw [List.drop_zero, Nat.sub_zero] at *
    rw [List.take_of_length_le (by (first | lia | omega))]
theorem cut_len {α : Type} (x : List α) (l u : Option Int) : (cutL x l u).length ≤ x.length := by
  unfold cutL
  exact Nat.le_trans (List.length_take_le' ..) (by rw [List.length_drop]; exact Nat.sub_le ..)

section
variable {w : World} {A : Around} {E : Value → Shared → Prop} {env : Env} {s₀ : Shared} {L : Addr} {P : PM} {m : Str → Option Value} {M : List (Addr × Obj)} {s : Shared}
/-- a text and its bounds are at hand -/
inductive SliceSOk (s₀ : Shared) (L : Addr) (Q : Value → Shared → Prop) (o vl vu : Value) (s₃ : Shared) : Prop
  | mk (x : Str) (t : Tok) (l u : Option (Int × Tok)) (P₁ : PM) (m₁ : Str → Option Value) (M₁ : List (Addr × Obj)) (ho : o = .str x t) (S : At s₀ P₁ L m₁ M₁ s₃) (hx : x.length ≤ 16777216) (hl : vl = partValue l) (hu : vu = partValue u)
    (h : ∀ t' s', At s₀ P₁ L m₁ M₁ s' → Q (.str (strSlice x (l.map (·.1)) (u.map (·.1))) t') s')
theorem r_sliceS {value : Expr} {lower upper : Option Expr} {p pos : Pos} {Q : Value → Shared → Prop} (_S : At s₀ P L m M s)
    (h : wpAny (mo w) A (eval value env) (fun o s₁ => wpAny (mo w) A (evalPart lower env) (fun vl s₂ => wpAny (mo w) A (evalPart upper env) (fun vu s₃ => SliceSOk s₀ L Q o vl vu s₃) E s₂) E s₁) E s)
    (ht : ∀ o r, letTemporaryGo value o r = pure () := by intro _ _; rfl) : wpAny (mo w) A (eval (.Subscript value (.Slice lower upper none p) pos) env) Q E s := by
  refine wpAny_Subscript_str_slice (wpAny_mono h (fun o s₁ h₁ => wpAny_mono h₁ (fun vl s₂ h₂ => wpAny_mono h₂ (fun vu s₃ h₃ => ?_) fun _ _ e => e) fun _ _ e => e) fun _ _ e => e) ht
  obtain ⟨x, t, l, u, P₁, m₁, M₁, rfl, S, hx, rfl, rfl, q⟩ := h₃
  refine ⟨x, t, l, u, rfl, rfl, rfl, ?_⟩
  have S₁ := S.drop1 { cls := .type "slice", data := .fields #[partValue l, partValue u, .none] }
  have ep : slicePicked x l u none = Builtin.Str.strSliceIndices (l.map (·.1)) (u.map (·.1)) 1 x.length := rfl
  unfold sliceMade
  rw [ep, picks_eq]
  split
  · rename_i hw
    have e : strSlice x (l.map (·.1)) (u.map (·.1)) = x := by
      unfold strSlice
      rw [cut_whole (by simpa using hw)]
    have := q t _ S₁
    rw [e] at this
    exact this
  · refine ⟨?_, q _ _ (S₁.toks1 1)⟩
    rw [sizeLine_eq]
    show (cutL x.cps.toList (l.map (·.1)) (u.map (·.1))).toArray.size ≤ _
    have := cut_len x.cps.toList (l.map (·.1)) (u.map (·.1))
    have e : x.cps.toList.length = x.length := by simp [Str.length]
    simp only [List.size_toArray]
    (first | lia | omega)
end
end Mine
namespace Mine

theorem slot_md_get : Slot "method_descriptor" "__get__" "method_descriptor.__get__" :=
  .of (owner := "method_descriptor") (n := "__get__") (by rw [typeLookup_type, builtinLookup_eq_fast]; kernel_rfl) (by decide +kernel) (by decide +kernel) (by decide +kernel)
    (by first | exact .inl (by decide +kernel) | exact .inr (by decide +kernel)) (by rw [isSubtype_type]; kernel_rfl)
theorem entry_md_get : entryFor table "method_descriptor.__get__" = some Builtin.«method_descriptor.__get__» := entryFor_of_tree (by kernel_rfl)
theorem args_md_get (a b c : Value) : argsOk "method_descriptor.__get__" ⟨[a, b, c], []⟩ := by unfold argsOk; kernel_rfl
theorem md_no_set : typeLookup (.type "method_descriptor") "__set__" = pure none := by rw [typeLookup_type, builtinLookup_eq_fast]; kernel_rfl
theorem md_no_del : typeLookup (.type "method_descriptor") "__delete__" = pure none := by rw [typeLookup_type, builtinLookup_eq_fast]; kernel_rfl

section
variable {w : World} {A : Around} {E : Value → Shared → Prop} {env : Env} {s₀ : Shared} {L : Addr} {P : PM} {m : Str → Option Value} {M : List (Addr × Obj)} {s : Shared}
noncomputable abbrev boundO (id : String) (a : Addr) : Obj := { cls := .type "builtin_function_or_method", data := .fields #[.builtin id, .ref a] }

set_option maxHeartbeats 1000000 in
theorem get_append {a : Addr} {vs : Array Value} {n : Nat} {Q : Value → Shared → Prop} (hl : s.heap.get? a = some (listOf vs n))
    (h : Q (.ref s.heap.objs.size) { s with heap := s.heap.push (boundO "list.append" a), toks := s.toks + 1 }) : wpAny (mo w) A (getAttr (.ref a) "append" true) Q E s := by
  obtain ⟨hp, g, d, tk, os⟩ := s
  have hT : ∀ tk', (⟨hp, g, d, tk', os⟩ : Shared).TypeIs (.ref a) "list" := fun _ => ⟨_, hl, rfl⟩
  have hT5 : ∀ tk', (⟨hp, g, d, tk', os⟩ : Shared).TypeIs (.builtin "list.append") "method_descriptor" := fun _ => type_list_append
  have f3 := F.slot_list_getattribute.lookup
  have f4 := F.slot_list_getattribute.bind (.ref a)
  have f5 := am_list_getattr_none
  have f6 := slot_list_append.lookup
  have f7 := slot_md_get.lookup
  have f8 := md_no_set
  have f9 := md_no_del
  have f10 := type_list_append
  unfold getAttr getAttrBy
  repeat (any_goals (first | assumption | exact hT _ | ((with_reducible show wpAny _ _ (call (Value.builtin "list.__getattribute__") _ _) _ _ _); refine wpAny_call_entry F.slot_list_getattribute (hT _) am_entry_list_getattribute ?_ (F.args_list_getattribute_2 _ _)) | wp_step))
  refine codeAny_call_builtin slot_md_get.plain entry_md_get (slot_md_get.check _ _ _ _ _ _ _ _ (hT5 _) (args_md_get _ _ _) ?_)
  have f11 : (".".intercalate ("list.append".cutAt '.').dropLast) = "list" := by
    have e0 : "list.append".cutAt '.' = ["list", "append"] := by first | rfl | decide +kernel
    rw [e0]; decide +kernel
  have f12 : isSubtype (.type "list") (.type (".".intercalate ("list.append".cutAt '.').dropLast)) = pure true := by
    rw [f11, isSubtype_type]; kernel_rfl
  unfold Builtin.«method_descriptor.__get__»
  repeat (any_goals (first | assumption | exact hT _ | exact hT5 _ | wp_step))
  exact ⟨_, rfl, wpAny_pure h⟩

end
end Mine
namespace Mine

noncomputable def cd101 (w : World) : ClassData := match (KK w).lookup 101 with
  | some ⟨_, _, .cls cd, _⟩ => cd
  | _ => default
noncomputable abbrev bookO (dA : Addr) (fac : Value) (es : Array DictEntry) (ep : Nat) : Obj := { cls := .ref 101, dict := some dA, data := .dict es ep, slots := #[some fac] }
section
variable {w : World} {A : Around} {R : Result → Shared → Prop} {h : Heap} {g : Array GenState} {d : Drawn} {t : Nat} {os : OsState}

theorem c101 (w : World) : ∃ oc od sl, (KK w).lookup 101 = some ⟨oc, od, .cls (cd101 w), sl⟩ ∧ (cd101 w).abstract = false ∧ (cd101 w).hasDel = false ∧ (cd101 w).mro = [.ref 101, .type "collections.defaultdict", .type "dict", .type "object"] ∧ (sl.toList[4]?).join = some (.builtin "dict.__new__") :=
  ⟨_, _, _, rfl, rfl, rfl, rfl, rfl⟩

theorem entry_dn : entryFor table "dict.__new__" = some Builtin.«dict.__new__» := entryFor_of_tree (by kernel_rfl)
theorem entry_ddi : entryFor table "collections.defaultdict.__init__" = some Builtin.«collections.defaultdict.__init__» := entryFor_of_tree (by kernel_rfl)
theorem entry_di : entryFor table "dict.__init__" = some Builtin.«dict.__init__» := entryFor_of_tree (by kernel_rfl)
theorem ddi_kind : builtinKind "collections.defaultdict.__init__" = some .slot := by decide +kernel
theorem ddi_split : splitId "collections.defaultdict.__init__" = some ("collections.defaultdict", "__init__") := by decide +kernel
theorem fn_call2 : typeLookup (.type "function") "__call__" = pure (some (.builtin "function.__call__")) := by rw [typeLookup_type, builtinLookup_eq_fast]; kernel_rfl
theorem ddi_args (x f : Addr) : argsOk "collections.defaultdict.__init__" ⟨[.ref x, .ref f], []⟩ := by unfold argsOk; kernel_rfl
theorem ddi_quiet (args : Args) : (Code.builtin "collections.defaultdict.__init__" args).quiet = true := Code.quiet_builtin _ (by decide +kernel)
set_option maxHeartbeats 1000000 in
theorem book_init {x dA f : Addr} (X1 : (KK w).In h) (hx : h.get? x = some { cls := .ref 101, dict := some dA, data := .dict #[] }) (hxK : (KK w).lookup x = none) (hf1 : ∃ fo, h.get? f = some fo ∧ fo.cls = .type "function")
    (hq : ∀ h', Heap.SameBut x h h' → h'.get? x = some (bookO dA (.ref f) #[] 0) → R (.ok (.ret .none)) ⟨h', g, d, t, os⟩) :
    codeAny (mo w) A (.call (.builtin "collections.defaultdict.__init__") ⟨[.ref x, .ref f], []⟩) R ⟨h, g, d, t, os⟩ := by
  obtain ⟨oc, od, sl, ho, e1, e2, e3, e4⟩ := c101 w
  have hC1 := X1 _ _ ho
  have t1 : Looks (mo w) h (typeOf (.ref x)) (.ref 101) := (Looks.ld hx).andThen .now
  have inst : Looks (mo w) h (isInstance (.ref x) (.type "collections.defaultdict")) true := t1.andThen (looks_mroIn X1 (by kernel_rfl))
  refine codeAny_call_builtin_at (ddi_quiet _) entry_ddi ?_
  refine check_slot (i := "collections.defaultdict.__init__") (owner := "collections.defaultdict") (n := "__init__") (self := .ref x) (rest := [.ref f]) (kw := []) ddi_kind ddi_split inst (ddi_args x f) ?_
  unfold Builtin.«collections.defaultdict.__init__»
  obtain ⟨fo, ef, cf⟩ := hf1
  have tf : Looks (mo w) h (typeOf (.ref f)) (.type "function") := (Looks.ld ef).andThen (by rw [cf]; exact .now)
  have lf : Looks (mo w) h (specialOf (.ref f) "__call__") (some (.builtin "function.__call__")) := tf.andThen (Looks.of_pure fn_call2)
  repeat (first | with_reducible refine wpAny_call ?_ | lk)
  show wpAny _ _ (updatePart x (some (slotPart 0)) _) _ _ _
  refine wpAny_updatePart hx ?_
  have hb : (h.update x (fun o => { cls := o.cls, dict := o.dict, data := o.data, slots := (o.slots ++ Array.replicate (0 + 1 - o.slots.size) none).setIfInBounds 0 [Value.ref f].head? })).get? x = some (bookO dA (.ref f) #[] 0) := Heap.get?_update_self _ hx rfl
  have hsb : Heap.SameBut x h (h.update x (fun o => { cls := o.cls, dict := o.dict, data := o.data, slots := (o.slots ++ Array.replicate (0 + 1 - o.slots.size) none).setIfInBounds 0 [Value.ref f].head? })) := Heap.SameBut.update ..
  replace hq := hq _ hsb hb
  have X2 : (KK w).In (h.update x (fun o => { cls := o.cls, dict := o.dict, data := o.data, slots := (o.slots ++ Array.replicate (0 + 1 - o.slots.size) none).setIfInBounds 0 [Value.ref f].head? })) := fun a o e => (hsb.2 a (fun q => by rw [q, hxK] at e; cases e)).trans (X1 a o e)
  show wpAny (mo w) _ _ _ _ ⟨h.update x (fun o => { cls := o.cls, dict := o.dict, data := o.data, slots := (o.slots ++ Array.replicate (0 + 1 - o.slots.size) none).setIfInBounds 0 [Value.ref f].head? }), g, d, t, os⟩
  generalize (h.update x (fun o => { cls := o.cls, dict := o.dict, data := o.data, slots := (o.slots ++ Array.replicate (0 + 1 - o.slots.size) none).setIfInBounds 0 [Value.ref f].head? })) = h2 at hb hsb X2 hq ⊢
  clear tf lf t1 inst hC1 X1
  have hC2 := X2 _ _ ho
  have t2 : Looks (mo w) h2 (typeOf (.ref x)) (.ref 101) := (Looks.ld hb).andThen .now
  have oD : Looks (mo w) h2 (isInstance (.ref x) (.type "collections.OrderedDict")) false := t2.andThen (looks_mroIn X2 (by kernel_rfl))
  refine wpAny_bind (wpAny_holding ?_)
  refine wpAny_runValue (codeAny_builtin entry_di ?_)
  unfold Builtin.«dict.__init__»
  repeat (first | with_reducible refine wpAny_call ?_ | lk)
  exact hq
theorem ddi_slot : Slot "collections.defaultdict" "__init__" "collections.defaultdict.__init__" :=
  .of (owner := "collections.defaultdict") (n := "__init__") (by rw [typeLookup_type, builtinLookup_eq_fast]; kernel_rfl) (by decide +kernel) (by decide +kernel) (by decide +kernel)
    (by first | exact .inl (by decide +kernel) | exact .inr (by decide +kernel)) (by rw [isSubtype_type]; kernel_rfl)
set_option maxHeartbeats 1000000 in
theorem book_new {f : Addr} (X : (KK w).In h) (hf : ∃ fo, h.get? f = some fo ∧ fo.cls = .type "function")
    (hq : ∀ h', Heap.SameBut (h.push emptyDict).objs.size ((h.push emptyDict).push { cls := .ref 101, dict := some h.objs.size, data := .dict #[] }) h' → h'.get? (h.push emptyDict).objs.size = some (bookO h.objs.size (.ref f) #[] 0) →
      R (.ok (.ret (.ref (h.push emptyDict).objs.size))) ⟨h', g, d, t, os⟩) :
    codeAny (mo w) A (.call (.ref 101) ⟨[.ref f], []⟩) R ⟨h, g, d, t, os⟩ := by
  obtain ⟨oc, od, sl, ho, e1, e2, e3, e4⟩ := c101 w
  have hC := X _ _ ho
  have call : Looks (mo w) h (specialOf (.ref 101) "__call__") (some (.builtin "type.__call__")) := looks_specialIn X (by k_dflt rfl)
  refine codeAny_of_tree ?_
  show wpAny _ _ (callAny (.ref 101) _) _ _ _
  refine nd_load hC ?_
  show wpAny _ _ (callAny.viaDunder (.ref 101) _) _ _ _
  unfold callAny.viaDunder
  refine wpAny_bind (call.at ?_)
  dsimp only
  rw [tc_bind]
  refine wpAny_bind (wpAny_pure (wpAny_bind (wpAny_pure ?_)))
  refine wpAny_pure (a := Fin.again (.call (.builtin "type.__call__") ⟨.ref 101 :: [.ref f], []⟩)) (And.intro rfl ?_)
  have typ : Looks (mo w) h (isInstance (.ref 101) (.type "type")) true := looks_instIn X (by k_dflt rfl)
  refine codeAny_call_builtin_at (Code.quiet_builtin _ (by decide +kernel)) entry_typeCall (check_slot tc_kind tc_split typ (tc_args _ _ _) ?_)
  unfold Builtin.«type.__call__»
  have hm : Looks (mo w) h (mroOf (.ref 101)) (cd101 w).mro := ((Looks.ld (part := none) hC).andThen .now).andThen .now
  rw [e3] at hm
  have made : Looks (mo w) h (Bind.madeBy (.ref 101)) (some "dict.__new__") := Looks.of_peek X (by kernel_rfl)
  repeat (first | with_reducible refine wpAny_call ?_ | lk)
  have hck : Looks (mo w) h (checkBuiltinCall "dict.__new__" ⟨[.ref 101, .ref f], []⟩) () := Looks.of_peek X (by kernel_rfl)
  have hsubD : Looks (mo w) h (isSubtype (.ref 101) (.type "dict")) true := looks_mroIn X (by kernel_rfl)
  refine codeAny_call_builtin_at (Code.quiet_builtin _ (by decide +kernel)) entry_dn (hck.at ?_)
  unfold Builtin.«dict.__new__»
  repeat (first | with_reducible refine wpAny_call ?_ | lk)
  refine nd_load (Heap.get?_push_of_some _ (Heap.get?_push_of_some _ hC)) ?_
  repeat (first | with_reducible refine wpAny_call ?_ | lk)
  have k : ∀ b o, h.get? b = some o → ((h.push emptyDict).push { cls := .ref 101, dict := some h.objs.size, data := .dict #[] }).get? b = some o := fun b o e => Heap.get?_push_of_some _ (Heap.get?_push_of_some _ e)
  have hsz : (h.push emptyDict).objs.size = h.objs.size + 1 := Heap.size_push ..
  have X1 : (KK w).In ((h.push emptyDict).push { cls := .ref 101, dict := some h.objs.size, data := .dict #[] }) := fun a o e => k _ _ (X a o e)
  have hx : ((h.push emptyDict).push { cls := .ref 101, dict := some h.objs.size, data := .dict #[] }).get? (h.push emptyDict).objs.size = some { cls := .ref 101, dict := some h.objs.size, data := .dict #[] } := Heap.get?_push_size _ rfl
  have hC1 := k _ _ hC
  have hf1 : ∃ fo, ((h.push emptyDict).push { cls := .ref 101, dict := some h.objs.size, data := .dict #[] }).get? f = some fo ∧ fo.cls = .type "function" := let ⟨fo, e, c⟩ := hf; ⟨fo, k _ _ e, c⟩
  have hxK : (KK w).lookup (h.push emptyDict).objs.size = none := by
    cases q : (KK w).lookup (h.push emptyDict).objs.size with
    | none => rfl
    | some o =>
      have := Heap.lt_size (X _ _ q)
      rw [hsz] at this
      exact absurd (Nat.lt_trans (Nat.lt_succ_self _) this) (Nat.lt_irrefl _)
  clear hsz typ hck hsubD hm made call hC hf X e4 k
  generalize (h.push emptyDict).objs.size = x at hx hq hxK ⊢
  show wpAny (mo w) _ _ _ _ ⟨(h.push emptyDict).push { cls := .ref 101, dict := some h.objs.size, data := .dict #[] }, g, d, t, os⟩
  generalize (h.push emptyDict).push { cls := .ref 101, dict := some h.objs.size, data := .dict #[] } = h1 at X1 hx hC1 hf1 hq ⊢
  have t1 : Looks (mo w) h1 (typeOf (.ref x)) (.ref 101) := (Looks.ld hx).andThen .now
  have s1 : Looks (mo w) h1 (isSubtype (.ref 101) (.ref 101)) true := looks_mroIn X1 (by kernel_rfl)
  have i1 : Looks (mo w) h1 (typeLookup (.ref 101) "__init__") (some (.builtin "collections.defaultdict.__init__")) := looks_findIn X1 (by k_dflt rfl)
  have b1 : Looks (mo w) h1 (bindSpecial (.builtin "collections.defaultdict.__init__") (.ref x)) (.builtin "collections.defaultdict.__init__", [.ref x]) := Looks.of_pure (ddi_slot.bind _)
  repeat (first | with_reducible refine wpAny_call ?_ | lk)
  refine book_init X1 hx hxK hf1 fun h2 hsb hb => ?_
  refine wpAny_pure ?_
  repeat (first | with_reducible refine wpAny_call ?_ | lk)
  exact hq h2 hsb hb
end
end Mine
namespace Mine

section
variable {w : World} {A : Around} {E : Value → Shared → Prop} {env : Env} {s₀ : Shared} {L : Addr} {P : PM} {m : Str → Option Value} {M : List (Addr × Obj)} {s : Shared}

/-- the heap has grown by one object at hand -/
theorem At.grown (S : At s₀ P L m M s) {h' : Heap} {a : Addr} {o : Obj} (ha : a = s.heap.objs.size) (k : ∀ b o, s.heap.get? b = some o → h'.get? b = some o) (ho : h'.get? a = some o) : At s₀ P L m ((a, o) :: M) { s with heap := h' } := by
  have T := S.change k
  subst ha
  have ne : ∀ x ∈ L :: M.map (·.1), x ≠ s.heap.objs.size := fun x hx => Nat.ne_of_lt (S.lt hx)
  exact { T with
    live := fun p hp => by
      rcases List.mem_cons.mp hp with rfl | hp
      · exact ho
      · exact T.live p hp
    out := fun x hx => by
      rcases List.mem_cons.mp hx with rfl | hx
      · exact S.out _ (.head _)
      · rw [List.map_cons] at hx
        rcases List.mem_cons.mp hx with rfl | hx
        · cases e : P s.heap.objs.size with
          | none => rfl
          | some o => exact absurd (S.ltP e) (Nat.lt_irrefl _)
        · exact S.out _ (.tail _ hx)
    nd := by
      have h := S.nd
      rw [List.nodup_cons] at h ⊢
      rw [List.map_cons, List.nodup_cons]
      refine ⟨fun q => ?_, fun q => ?_, h.2⟩
      · rcases List.mem_cons.mp q with q | q
        · exact ne L (.head _) q
        · exact h.1 q
      · exact ne _ (.tail _ q) rfl
    tb := fun x hx => ⟨(S.tb x hx).1, fun q => by
      rcases List.mem_cons.mp q with q | q
      · exact (S.tb x hx).2 (q ▸ List.mem_cons_self ..)
      · rw [List.map_cons] at q
        rcases List.mem_cons.mp q with q | q
        · exact Nat.ne_of_lt (S.ltT hx) q
        · exact (S.tb x hx).2 (.tail _ q)⟩
    above := fun x hx => by
      rcases List.mem_cons.mp hx with rfl | hx
      · exact S.above _ (.head _)
      · rw [List.map_cons] at hx
        rcases List.mem_cons.mp hx with rfl | hx
        · exact S.size
        · exact S.above _ (.tail _ hx) }

/-- a new frame takes the turn -/
theorem At.frame (S : At s₀ P L m M s) {h' : Heap} {m' : Str → Option Value} (k : ∀ b o, s.heap.get? b = some o → h'.get? b = some o) (hn : h'.Ns s.heap.objs.size m') :
    ∃ oL, NsO oL m ∧ At s₀ P s.heap.objs.size m' ((L, oL) :: M) { s with heap := h' } := by
  obtain ⟨oC, hoC, nC⟩ := ns_iff.mp hn
  have T := S.grown rfl k hoC
  obtain ⟨oL, nL, U⟩ := T.swap (pre := []) rfl nC
  exact ⟨oL, nL, U⟩
/-- and is left -/
theorem At.leave {L' : Addr} {m' : Str → Option Value} {pre post : List (Addr × Obj)} {oL : Obj} (S : At s₀ P L' m' (pre ++ (L, oL) :: post) s) (n : NsO oL m) : At s₀ P L m (pre ++ post) s := by
  obtain ⟨oC, nC, U⟩ := S.swap rfl n
  exact U.weak (List.Sublist.append_left (List.sublist_cons_self ..) _)

/-- entering a def, the caller's objects at hand -/
theorem enterIn {f : Addr} {fo : Obj} {fd : FuncData} {body : List Stmt} {args : Args} {R : Result → Shared → Prop} (binds : List (Str × Value)) (S : At s₀ P L m M s) (B : Base w P)
    (hd : A.depth < recursionLimit) (ho : s.heap.get? f = some fo) (hfd : fo.data = .func fd) (hcd : s.heap.CodeRec fd.code fd.qualname) (hbody : fd.body = .stmts body)
    (hbind : bindArgs fd args = pure binds) (hcell : (fd.scope.names.all fun x => x.2 != .cell) = true) (hloc : (binds.all fun x => fd.scope.names.lookup x.1 == some .local) = true)
    (hco : fd.scope.isCoroutine = false) (hgen : fd.scope.isGenerator = false) (hk : fd.scope.kind = .function)
    (h : ∀ L' oL s₁, NsO oL m → At s₀ P L' (fun x => binds.reverse.lookup x) ((L, oL) :: M) s₁ →
      PySem.wpAt (mo w) (A.deeper (callEnv fd L' f)) (.func body (callEnv fd L' f)) (execs body (callEnv fd L' f)) (fun fl s' => R (.ok (.ret (match fl with | .ret v => v | _ => .none))) s') NoE s₁) :
    codeAny (mo w) A (.call (.ref f) args) R s := by
  have hcell' : ∀ x ∈ fd.scope.names, x.2 ≠ .cell := fun x hx q => by
    have := List.all_eq_true.mp hcell x hx
    rw [q] at this; cases this
  have hloc' : ∀ x ∈ binds, fd.scope.names.lookup x.1 = some .local := fun x hx => eq_of_beq (List.all_eq_true.mp hloc x hx)
  refine ks_codeAny_call_defAt hd ho hfd (In.nolimit (S.inK B)) hcd hbody (BindsTo.of_eq hbind) hcell' hloc' (fun h₀ hns hk₀ => ?_) hco hgen hk
  obtain ⟨oL, nL, U⟩ := S.frame hk₀ hns
  exact PySem.ks_wpAt_mono (h _ oL _ nL (U.toks1 _)) (fun _ _ q => q) fun _ _ x => x.elim

/-- entering a lambda -/
theorem enterE {f : Addr} {fo : Obj} {fd : FuncData} {body : Expr} {args : Args} {R : Result → Shared → Prop} (binds : List (Str × Value)) (S : At s₀ P L m M s) (B : Base w P)
    (hd : A.depth < recursionLimit) (ho : s.heap.get? f = some fo) (hfd : fo.data = .func fd) (hcd : s.heap.CodeRec fd.code fd.qualname) (hbody : fd.body = .expr body)
    (hbind : bindArgs fd args = pure binds) (hcell : (fd.scope.names.all fun x => x.2 != .cell) = true) (hloc : (binds.all fun x => fd.scope.names.lookup x.1 == some .local) = true)
    (hco : fd.scope.isCoroutine = false) (hgen : fd.scope.isGenerator = false) (hk : fd.scope.kind = .function)
    (h : ∀ L' oL s₁, NsO oL m → At s₀ P L' (fun x => binds.reverse.lookup x) ((L, oL) :: M) s₁ →
      wpAny (mo w) (A.deeper (callEnv fd L' f)) (eval body (callEnv fd L' f)) (fun v s' => R (.ok (.ret v)) s') NoE s₁) :
    codeAny (mo w) A (.call (.ref f) args) R s := by
  have hcell' : ∀ x ∈ fd.scope.names, x.2 ≠ .cell := fun x hx q => by
    have := List.all_eq_true.mp hcell x hx
    rw [q] at this; cases this
  have hloc' : ∀ x ∈ binds, fd.scope.names.lookup x.1 = some .local := fun x hx => eq_of_beq (List.all_eq_true.mp hloc x hx)
  refine kla_callFunE hd ho hfd hco hgen hbody hcd ?_
  rw [hbind]
  refine wpAny_pure ?_
  refine wpAny_newFunctionEnv hcell' hloc' (fun h₀ hns hsb => ?_) hk
  have k : ∀ b o, s.heap.get? b = some o → h₀.get? b = some o := fun b o e => hsb.extBut b o (Nat.ne_of_lt (Heap.lt_size e)) (Heap.get?_push_of_some _ e)
  obtain ⟨oL, nL, U⟩ := S.frame k hns
  have U := U.toks1 binds.length
  exact ⟨In.nolimit (U.inK B), kla_codeExpr (lift (h _ oL _ nL U))⟩
end

/-! the book's slots -/
theorem dlen_slot : Slot "dict" "__len__" "dict.__len__" :=
  .of (owner := "dict") (n := "__len__") (by rw [typeLookup_type, builtinLookup_eq_fast]; kernel_rfl) (by decide +kernel) (by decide +kernel) (by decide +kernel)
    (by first | exact .inl (by decide +kernel) | exact .inr (by decide +kernel)) (by rw [isSubtype_type]; kernel_rfl)
theorem dlen_entry : entryFor table "dict.__len__" = some Builtin.«dict.__len__» := entryFor_of_tree (by kernel_rfl)
theorem dlen_kind : builtinKind "dict.__len__" = some .slot := by decide +kernel
theorem dlen_split : splitId "dict.__len__" = some ("dict", "__len__") := by decide +kernel
theorem dlen_args (x : Value) : argsOk "dict.__len__" ⟨[x], []⟩ := by unfold argsOk; kernel_rfl

section
variable {w : World} {A : Around} {E : Value → Shared → Prop} {env : Env} {s₀ : Shared} {L : Addr} {P : PM} {m : Str → Option Value} {M : List (Addr × Obj)} {s : Shared}
variable {h : Heap} {g : Array GenState} {d : Drawn} {t : Nat} {os : OsState}
/-- what the machine sees of the book -/
structure BookL (w : World) (h : Heap) (bk dA : Addr) (fac : Value) (es : Array DictEntry) (ep : Nat) : Prop where
  X : (KK w).In h
  ho : h.get? bk = some (bookO dA fac es ep)
  ty : Looks (mo w) h (typeOf (.ref bk)) (.ref 101)
theorem BookL.of {bk dA : Addr} {fac : Value} {es : Array DictEntry} {ep : Nat} (X : (KK w).In h) (ho : h.get? bk = some (bookO dA fac es ep)) : BookL w h bk dA fac es ep :=
  ⟨X, ho, (Looks.ld ho).andThen .now⟩
theorem BookL.inst {bk dA : Addr} {fac : Value} {es : Array DictEntry} {ep : Nat} (b : BookL w h bk dA fac es ep) {T : String} {r : Bool} (e : mroIn (KK w) 101 (.type T) = some r) : Looks (mo w) h (isInstance (.ref bk) (.type T)) r :=
  b.ty.andThen (looks_mroIn b.X e)


set_option maxHeartbeats 400000 in
theorem g_len {bk dA : Addr} {fac : Value} {es : Array DictEntry} {ep : Nat} {Q : Value → Shared → Prop} (b : BookL w h bk dA fac es ep) (hbk : (bk == sysModules) = false) (hsz : es.size ≤ 1000000)
    (hQ : Q (.int es.size (t + 1)) ⟨h, g, d, t + 1 + 1, os⟩) : wpAny (mo w) A (call (.builtin "len") [.ref bk]) Q E ⟨h, g, d, t, os⟩ := by
  refine call_function_entry kind_len plain_len entry_len (args_len1 _) ?_
  unfold Builtin.«len»
  refine wpAny_bind (m := oneArg "len" _) (wpAny_pure ?_)
  have t1 := b.ty
  have l1 : Looks (mo w) h (typeLookup (.ref 101) "__len__") (some (.builtin "dict.__len__")) := looks_findIn b.X (by k_dflt rfl)
  have b1 : Looks (mo w) h (bindSpecial (.builtin "dict.__len__") (.ref bk)) (.builtin "dict.__len__", [.ref bk]) := Looks.of_pure (dlen_slot.bind _)
  have inst : Looks (mo w) h (isInstance (.ref bk) (.type "dict")) true := b.inst (by kernel_rfl)
  repeat (first | with_reducible refine wpAny_call ?_ | lk)
  refine codeAny_call_builtin_at (Code.quiet_builtin _ (by decide +kernel)) dlen_entry ?_
  refine check_slot (i := "dict.__len__") (owner := "dict") (n := "__len__") (self := .ref bk) (rest := []) (kw := []) dlen_kind dlen_split inst (dlen_args _) ?_
  unfold Builtin.«dict.__len__»
  have ho := b.ho
  repeat (first | with_reducible refine wpAny_call ?_ | lk)
  rw [if_neg (by rw [hbk]; exact Bool.false_ne_true)]
  repeat (first | with_reducible refine wpAny_call ?_ | lk)
  rw [if_neg (by (first | lia | omega))]
  have e : ((es.size : Nat) : Int) + ((0 : Nat) : Int) = es.size := by (first | lia | omega)
  rw [e]
  exact wpAny_bind (wpAny_mkInt (wpAny_pure ⟨_, rfl, hQ⟩))

/-- the factory of the book: lambda: len(book) -/
structure FacO (fo : Obj) (fd : FuncData) (cB : Addr) : Prop where
  data : fo.data = .func fd
  body : ∃ p1 p2 p3, fd.body = .expr (.Call (.Name "len" p1) [.Name "book" p2] [] p3)
  par : bindArgs fd ⟨[], []⟩ = pure []
  cell : (fd.scope.names.all fun x => x.2 != .cell) = true
  co : fd.scope.isCoroutine = false
  gen : fd.scope.isGenerator = false
  kind : fd.scope.kind = .function
  len : fd.scope.names.lookup ("len" : Str) = some .globalImplicit
  book : fd.scope.names.lookup ("book" : Str) = some .free
  clo : fd.closure.lookup ("book" : Str) = some cB
  glo : fd.globals = mainGlobals
  bui : fd.builtins = builtinsNs
/-- the book in hand: its cell, its factory, the two objects -/
structure BookM (w : World) (P : PM) (M : List (Addr × Obj)) (f cB bk dA : Addr) (es : Array DictEntry) (ep : Nat) : Prop where
  fac : ∃ fo fd, P f = some fo ∧ FacO fo fd cB ∧ ∃ c oc vs t, fd.code = .ref c ∧ P c = some oc ∧ oc.data = .fields vs ∧ vs[1]? = some (.str fd.qualname t)
  cell : ∃ oB, (cB, oB) ∈ M ∧ oB.data = .cell (some (.ref bk))
  inM : (bk, bookO dA (.ref f) es ep) ∈ M
  sys : (bk == sysModules) = false
  size : es.size ≤ 1000000
theorem c_fac {f cB bk dA : Addr} {es : Array DictEntry} {ep : Nat} {R : Result → Shared → Prop} (S : At s₀ P L m M s) (B : Base w P) (K : BookM w P M f cB bk dA es ep) (hd : A.depth < recursionLimit)
    (hQ : ∀ t s', At s₀ P L m M s' → R (.ok (.ret (.int es.size t))) s') : codeAny (mo w) A (.call (.ref f) ⟨[], []⟩) R s := by
  obtain ⟨⟨fo, fd, ho, F, c, oc, vs, tc, hc1, hc2, hc3, hc4⟩, ⟨oB, hcB, hoB⟩, hbk, hbs, hsz⟩ := K
  obtain ⟨p1, p2, p3, hbody⟩ := F.body
  have hcd : s.heap.CodeRec fd.code fd.qualname := ⟨c, oc, vs, tc, hc1, S.keep _ _ hc2, hc3, hc4⟩
  refine enterE [] S B hd (S.keep _ _ ho) F.data hcd hbody F.par F.cell rfl F.co F.gen F.kind fun L' oL s₁ nL S₁ => ?_
  refine wpAny_Call_NameR (r_built0 S₁ B (v := .builtin "len") ?_ (by kernel_rfl) (by boot_fast) (by kernel_rfl) F.glo F.bui F.kind F.len (by kernel_rfl))
  refine PyProof.Rows.callWith_builtin1 ?_ (by k_dflt rfl) (by k_dflt rfl)
  refine spliced_more ?_ (by k_dflt rfl)
  refine wpAny_Name (wpAny_loadName_free F.kind F.book F.clo ⟨oB, S₁.live (cB, oB) (.tail _ hcB), hoB⟩ ?_) (by kernel_rfl)
  refine spliced_none ?_
  have hh := S₁.live (bk, bookO dA (.ref f) es ep) (.tail _ hbk)
  have X := S₁.inK B
  have S₂ := S₁.toks1 (1 + 1)
  obtain ⟨h, g, d, t, os⟩ := s₁
  refine g_len (BookL.of X hh) hbs hsz ?_
  exact hQ _ _ (At.leave (pre := []) S₂ nL)
theorem o_fac {f cB bk dA : Addr} {es : Array DictEntry} {ep : Nat} {Q : Value → Shared → Prop} (S : At s₀ P L m M s) (B : Base w P) (K : BookM w P M f cB bk dA es ep) (hd : A.depth < recursionLimit)
    (hQ : ∀ t s', At s₀ P L m M s' → Q (.int es.size t) s') : wpAny (mo w) A (call (.ref f) []) Q E s := wpAny_call (c_fac S B K hd hQ)
theorem o_facB {f cB bk dA : Addr} {es : Array DictEntry} {ep : Nat} {Q : Value → Shared → Prop} (S : At s₀ P L m M s) (B : Base w P) (K : BookM w P M f cB bk dA es ep) (hd : A.depth < recursionLimit)
    (hQ : ∀ t s', At s₀ P L m M s' → Q (.int es.size t) s') : wpAny (mo w) A (callBorrowed (.ref f)) Q E s := by
  exact fun Γ p hΓ => (c_fac S B K hd (R := fun r s' => Sem.wp (mo w) Γ (match r with | .ok (.ret v) => Sem.pure v | .ok _ => Sem.unsupported "internal:call-without-return-value" | .error e => Sem.raise e) (fun a _ s' => Q a s') (fun e _ s' => E e s') p s') hQ) _ p rfl (hΓ.enter _ none p (by intro x; cases x))
end
end Mine
namespace Mine

theorem ddm_entry : entryFor table "collections.defaultdict.__missing__" = some Builtin.«collections.defaultdict.__missing__» := entryFor_of_tree (by kernel_rfl)
theorem dsd_entry : entryFor table "dict.setdefault" = some Builtin.«dict.setdefault» := entryFor_of_tree (by kernel_rfl)

section
variable {w : World} {A : Around} {E : Value → Shared → Prop} {env : Env} {s₀ : Shared} {L : Addr} {P : PM} {m : Str → Option Value} {M : List (Addr × Obj)} {s : Shared}
variable {h : Heap} {g : Array GenState} {d : Drawn} {t : Nat} {os : OsState}

noncomputable abbrev sk (w : World) := strKind pw w
/-- the place of a key -/
noncomputable def place (w : World) (es : Array DictEntry) (x : Str) : Option Nat := es.findIdx? fun e => (sk w).is x e.key

theorem g_dictGet {bk dA : Addr} {fac : Value} {es : Array DictEntry} {ep : Nat} {x : Str} {tx : Tok} {Q : Option Value → Shared → Prop} (ho : s.heap.get? bk = some (bookO dA fac es ep)) (hk : KeysOf (sk w) es)
    (hQ : Q ((place w es x).bind fun i => (es[i]?).map (·.val)) { s with toks := s.toks + 1 }) : wpAny (mo w) A (dictGet bk (.str x tx)) Q E s := by
  have hkey : (sk w).is x (.str x tx) = true := strKind_is _ _ _ _
  unfold dictGet
  try with_reducible refine wpAny_holding ?_
  refine wpAny_bind ((sk w).pyHash hkey (wpAny_bind (wpAny_dictFind_of (s := { s with toks := s.toks + 1 }) hkey ho rfl hk ?_)))
  unfold place at hQ
  cases hi : es.findIdx? fun e => (sk w).is x e.key with
  | none => rw [hi] at hQ; exact wpAny_pure hQ
  | some i => rw [hi] at hQ; exact wpAny_bind (wpAny_dictEntries (s := { s with toks := s.toks + 1 }) ho rfl (wpAny_pure hQ))

theorem g_setdef {bk dA : Addr} {fac : Value} {es : Array DictEntry} {ep : Nat} {x : Str} {tx : Tok} {v : Value} {Q : Value → Shared → Prop} (ho : s.heap.get? bk = some (bookO dA fac es ep)) (hk : KeysOf (sk w) es) (hn : place w es x = none) (hsz : es.size ≤ sizeLine)
    (hQ : ∀ h', Heap.SameBut bk s.heap h' → h'.get? bk = some (bookO dA fac (es.push ⟨(sk w).hash x, .str x tx, v⟩) (ep + 1)) → Q v { s with heap := h', toks := s.toks + 1 }) : wpAny (mo w) A (dictSetDefault bk (.str x tx) v) Q E s := by
  have hkey : (sk w).is x (.str x tx) = true := strKind_is _ _ _ _
  unfold dictSetDefault
  try with_reducible refine wpAny_holding ?_
  refine wpAny_bind ((sk w).pyHash hkey ?_)
  refine wpAny_bind (wpAny_dictFind_of (s := { s with toks := s.toks + 1 }) hkey ho rfl hk ?_)
  unfold place at hn
  rw [hn]
  refine wpAny_bind (wpAny_rule (wpAny_bind (wpAny_updateDictKeys (hz := hsz) (s := { s with toks := s.toks + 1 }) ho rfl (wpAny_pure (hQ _ (Heap.SameBut.update ..) ?_)))))
  exact Heap.get?_update_self _ ho rfl

set_option maxHeartbeats 1000000 in
/-- defaultdict.__missing__, bound to the book -/
theorem o_ddmiss {b f cB bk dA : Addr} {es : Array DictEntry} {ep : Nat} {x : Str} {tx : Tok} {pre post : List (Addr × Obj)} {Q : Value → Shared → Prop} (S : At s₀ P L m M s) (B : Base w P) (K : BookM w P M f cB bk dA es ep) (hd : A.depth < recursionLimit)
    (hb : P b = some (boundO "collections.defaultdict.__missing__" bk))
    (hM : M = pre ++ (bk, bookO dA (.ref f) es ep) :: post) (hk : KeysOf (sk w) es) (hn : place w es x = none)
    (hQ : ∀ t s', At s₀ P L m (pre ++ (bk, bookO dA (.ref f) (es.push ⟨(sk w).hash x, .str x tx, .int es.size t⟩) (ep + 1)) :: post) s' → Q (.int es.size t) s') : wpAny (mo w) A (call (.ref b) [.str x tx]) Q E s := by
  have hbk : (bk, bookO dA (.ref f) es ep) ∈ M := by rw [hM]; simp
  have ho := S.live _ hbk
  have X := S.inK B
  refine wpAny_call (codeAny_of_tree ?_)
  show wpAny _ _ (callAny (.ref b) _) _ _ _
  unfold callAny
  refine wpAny_bind (wpAny_load (S.keep _ _ hb) ?_)
  show wpAny _ _ (do checkBoundCall "collections.defaultdict.__missing__" ⟨[.ref bk, .str x tx], []⟩; again (.builtin "collections.defaultdict.__missing__" ⟨[.ref bk, .str x tx], []⟩)) _ _ _
  obtain ⟨fo, fd, hfo, F, _⟩ := K.fac
  have hff' := S.keep _ _ hfo
  have hfd := F.data
  have S0 := S
  obtain ⟨h, g, d, t, os⟩ := s
  have t1 := (BookL.of X ho).ty
  have im : Looks (mo w) h (isInstance (.ref bk) (.type "module")) false := (BookL.of X ho).inst (by kernel_rfl)
  obtain ⟨oc, od, sl, hc1, e1, e2, e3, e4⟩ := c101 w
  have hC := X _ _ hc1
  have tC : Looks (mo w) h (typeOf (.ref 101)) (.type "type") := looks_typeIn X (by k_dflt rfl)
  unfold checkBoundCall
  repeat (first | with_reducible refine wpAny_call ?_ | lk)
  refine ⟨Code.quiet_builtin _ (by decide +kernel), codeAny_builtin ddm_entry ?_⟩
  unfold Builtin.«collections.defaultdict.__missing__»
  repeat (first | with_reducible refine wpAny_call ?_ | lk)
  rw [hfd]
  repeat (first | with_reducible refine wpAny_call ?_ | lk)
  show wpAny (mo w) _ (callBorrowed (.ref f)) _ _ _
  refine o_facB S0 B K hd fun tv s' S1 => ?_
  refine wpAny_pure ⟨Code.quiet_builtin _ (by decide +kernel), codeAny_builtin dsd_entry ?_⟩
  have ho1 := S1.live _ hbk
  have X1 := S1.inK B
  clear t1 im hC tC hff' ho X hfo
  have hset : ∀ (A : Around) (E : Value → Shared → Prop) (Q' : Value → Shared → Prop), (∀ s2, At s₀ P L m (pre ++ (bk, bookO dA (.ref f) (es.push ⟨(sk w).hash x, .str x tx, .int es.size tv⟩) (ep + 1)) :: post) s2 → Q' (.int es.size tv) s2) → wpAny (mo w) A (dictSetDefault bk (.str x tx) (.int es.size tv)) Q' E s' := fun A E Q' q =>
    g_setdef ho1 hk hn (by have := K.size; rw [sizeLine_eq]; (first | lia | omega)) fun h' hs hg => q _ ((S1.upd hM hs hg).toks1 1)
  have hQ := hQ tv
  obtain ⟨h1, g1, d1, t1, os1⟩ := s'
  have ty := (BookL.of X1 ho1).ty
  have od : Looks (mo w) h1 (isSubtype (.ref 101) (.type "collections.OrderedDict")) false := looks_mroIn X1 (by kernel_rfl)
  unfold Builtin.«dict.setdefault»
  repeat (first | with_reducible refine wpAny_call ?_ | (with_reducible show wpAny _ _ (dictSetDefault _ _ _) _ _ _; refine hset _ _ _ fun s2 S2 => ?_) | lk)
  rw [if_neg (by rw [K.sys]; exact Bool.false_ne_true)]
  refine wpAny_bind (hset _ _ _ fun s2 S2 => ?_)
  exact wpAny_pure (hQ _ S2)
end
end Mine
namespace Mine

theorem type_ddm : typeOf (.builtin "collections.defaultdict.__missing__") = pure (.type "method_descriptor") := by show builtinType _ = _; rw [builtinType_eq_fast]; kernel_rfl
section
variable {M : Model} {A : Around} {c : Code} {E : Value → Shared → Prop} {s : Shared} {env : Env}
theorem at_spliced_cons {x : Sem Value} {rest : List (Bool × Sem Value)} {Q : List Value → Shared → Prop} (h : PySem.wpAt M A c x (fun v s₁ => PySem.wpAt M A c (spliced rest) (fun vs s₂ => Q (v :: vs) s₂) E s₁) E s) :
    PySem.wpAt M A c (spliced ((false, x) :: rest)) Q E s := by
  show PySem.wpAt M A c (x >>= fun v => (pure [v] : Sem (List Value)) >>= fun here => holding here (spliced rest) >>= fun r => pure (here ++ r)) Q E s
  refine PySem.wpAt_bind (PySem.ks_wpAt_mono h (fun v s₁ h₁ => ?_) fun _ _ e => e)
  refine PySem.wpAt_bind (PySem.wpAt_of_wpAny (wpAny_pure ?_))
  exact PySem.wpAt_bind (PySem.ks_wpAt_holding (PySem.ks_wpAt_mono h₁ (fun vs s₂ h₂ => PySem.wpAt_of_wpAny (wpAny_pure h₂)) fun _ _ e => e))
theorem at_evalArgs {f : Value} {x : Sem Value} {rest : List (Bool × Sem Value)} {Q : Args → Shared → Prop}
    (h : PySem.wpAt M A c (spliced ((false, x) :: rest)) (fun vs s' => Q ⟨vs, []⟩ s') E s) : PySem.wpAt M A c (evalArgs f true ((false, x) :: rest) []) Q E s := by
  unfold evalArgs
  show PySem.wpAt M A c (spliced ((false, x) :: rest) >>= _) Q E s
  refine PySem.wpAt_bind (PySem.ks_wpAt_mono h (fun vs s' h' => ?_) fun _ _ x => x)
  refine PySem.wpAt_of_wpAny (wpAny_holding ?_)
  exact wpAny_bind (wpAny_pure (wpAny_bind (wpAny_pure (wpAny_pure h'))))
theorem at_callWith {pos : Pos} {id : String} {first : List Value} {args : List (Bool × Sem Value)} {Q : Value → Shared → Prop} (hplain : args.any (·.1) = false)
    (h : PySem.wpAt M A c (evalArgs (.builtin id) true args []) (fun a s₁ => wpAny M A (call (.builtin id) (first ++ a.pos) a.kw) Q E s₁) E s) :
    PySem.wpAt M A c (callWith pos (.builtin id) first args []) Q E s := by
  unfold callWith
  refine PySem.wpAt_bind (PySem.ks_wpAt_holding (PySem.ks_wpAt_mono h (fun a s₁ h₁ => PySem.wpAt_of_wpAny (wpAny_bind (wpAny_standAt ?_))) fun _ _ x => x))
  simp only [hplain, List.any_nil, Bool.or_false]
  refine wpAny_bind (wpAny_pure ?_)
  exact wpAny_bind (wpAny_mono h₁ (fun r s₂ hr => wpAny_bind (wpAny_holding (wpAny_point (wpAny_pure hr)))) fun _ _ x => x)
theorem at_Attribute {value : Expr} {attr : Str} {pos : Pos} {Q : Value → Shared → Prop} (h : PySem.wpAt M A c (attributeBase value attr env (eval value env)) (fun o s₁ => wpAny M A (getAttr o attr true) (fun r s₂ => wpAny M A (letTemporaryGo value o r) (fun _ s₃ => Q r s₃) E s₂) E s₁) E s) :
    PySem.wpAt M A c (eval (.Attribute value attr pos) env) Q E s := by
  rw [arm_eval_Attribute]
  refine PySem.wpAt_bind (PySem.ks_wpAt_mono h (fun o s₁ h₁ => PySem.wpAt_of_wpAny (wpAny_bind (wpAny_standAt (wpAny_bind (wpAny_holding (wpAny_mono h₁ (fun r s₂ h₂ => wpAny_bind (wpAny_mono h₂ (fun _ s₃ h₃ => wpAny_pure h₃) fun _ _ e => e)) fun _ _ e => e)))))) fun _ _ e => e)
end

section
variable {w : World} {A : Around} {E : Value → Shared → Prop} {env : Env} {s₀ : Shared} {L : Addr} {P : PM} {m : Str → Option Value} {M : List (Addr × Obj)} {s : Shared}
variable {h : Heap} {g : Array GenState} {d : Drawn} {t : Nat} {os : OsState}

/-- super().__missing__ as a value -/
theorem g_superget {so bk dA : Addr} {fac : Value} {es : Array DictEntry} {ep : Nat} {Q : Value → Shared → Prop} (b : BookL w h bk dA fac es ep) (hne : (Value.ref bk == Value.ref 101) = false) (hso : h.get? so = some { cls := .type "super", dict := none, data := .fields #[.ref 101, .ref bk, .ref 101], slots := #[] })
    (hQ : Q (.ref h.objs.size) ⟨h.push (boundO "collections.defaultdict.__missing__" bk), g, d, t + 1, os⟩) : wpAny (mo w) A (getAttr (.ref so) "__missing__" true) Q E ⟨h, g, d, t, os⟩ := by
  have ts : Looks (mo w) h (typeOf (.ref so)) (.type "super") := (Looks.ld hso).andThen .now
  have l1 : Looks (mo w) h (typeLookup (.type "super") "__getattribute__") (some (.builtin "super.__getattribute__")) := Looks.of_pure F.ks_slot_super_ga.lookup
  unfold getAttr getAttrBy
  repeat (first | with_reducible refine wpAny_call ?_ | with_reducible refine wpAny_attempt ?_ | lk)
  have inst : Looks (mo w) h (isInstance (.ref so) (.type "super")) true := ts.andThen (Looks.of_pure (by rw [isSubtype_type]; kernel_rfl))
  refine codeAny_call_builtin_at (Code.quiet_builtin _ (by decide +kernel)) F.ks_entry_super_ga ?_
  refine check_slot (i := "super.__getattribute__") (owner := "super") (n := "__getattribute__") (self := .ref so) (rest := [.str "__missing__" t]) (kw := []) (by decide +kernel) (by decide +kernel) inst (F.ks_gaArgs_super _ _) ?_
  have hop : Looks (mo w) h (nsGet cStatics "thirdparty.any") none := looks_nsIn b.X (by k_dflt rfl)
  obtain ⟨oc, od, sl, hc1, e1, e2, e3, e4⟩ := c101 w
  have hC := b.X _ _ hc1
  have hm : Looks (mo w) h (mroOf (.ref 101)) (cd101 w).mro := ((Looks.ld (part := none) hC).andThen .now).andThen .now
  rw [e3] at hm
  unfold Builtin.«super.__getattribute__»
  repeat (first | with_reducible refine wpAny_call ?_ | with_reducible refine wpAny_attempt ?_ | lk)
  rw [show (toString "method_descriptor" ++ toString "." ++ toString (Str.ofString "__get__").toString) = "method_descriptor.__get__" from by decide +kernel,
    show (toString "collections.defaultdict" ++ toString "." ++ toString (Str.ofString "__missing__").toString) = "collections.defaultdict.__missing__" from by decide +kernel]
  rw [show (if ((#[Value.ref 101, Value.ref bk, Value.ref 101] : Array Value)[1] == (#[Value.ref 101, Value.ref bk, Value.ref 101] : Array Value)[2]) = true then Value.none else (#[Value.ref 101, Value.ref bk, Value.ref 101] : Array Value)[1]) = Value.ref bk from (by
    show (if (Value.ref bk == Value.ref 101) = true then Value.none else Value.ref bk) = _
    rw [hne]; rfl)]
  have hT5 : (⟨h, g, d, t + 1, os⟩ : Shared).TypeIs (.builtin "collections.defaultdict.__missing__") "method_descriptor" := type_ddm
  refine codeAny_call_builtin slot_md_get.plain entry_md_get (slot_md_get.check _ _ _ _ _ _ _ _ hT5 (args_md_get _ _ _) ?_)
  have f11 : (".".intercalate ("collections.defaultdict.__missing__".cutAt '.').dropLast) = "collections.defaultdict" := by decide +kernel
  have f12 : Looks (mo w) h (isSubtype (.ref 101) (.type (".".intercalate ("collections.defaultdict.__missing__".cutAt '.').dropLast))) true := by
    rw [f11]; exact looks_mroIn b.X (by kernel_rfl)
  have tb := b.ty
  have ib : Looks (mo w) h (isInstance (.ref bk) (.type (".".intercalate ("collections.defaultdict.__missing__".cutAt '.').dropLast))) true := tb.andThen f12
  unfold Builtin.«method_descriptor.__get__»
  repeat (first | with_reducible refine wpAny_call ?_ | with_reducible refine wpAny_attempt ?_ | lk)
  exact hQ

end
end Mine
namespace Mine

section
variable {w : World} {A : Around} {E : Value → Shared → Prop} {env : Env} {s₀ : Shared} {L : Addr} {P : PM} {m : Str → Option Value} {M : List (Addr × Obj)} {s : Shared}
variable {h : Heap} {g : Array GenState} {d : Drawn} {t : Nat} {os : OsState}
theorem getattr_kind : builtinKind "getattr" = none := by decide +kernel
theorem getattr_entry : entryFor table "getattr" = some Builtin.«getattr» := entryFor_of_tree (by kernel_rfl)
theorem getattr_plain : plainId "getattr" = true := by decide +kernel
theorem getattr_args (a b c : Value) : argsOk "getattr" ⟨[a, b, c], []⟩ := by unfold argsOk; kernel_rfl
theorem dga_entry : entryFor table "collections.defaultdict.__getattribute__" = some Builtin.«object.__getattribute__» := entryFor_alias (id' := "object.__getattribute__") (by kernel_rfl) (by decide +kernel) (by decide +kernel) (by kernel_rfl)
theorem dga_slot : Slot "collections.defaultdict" "__getattribute__" "collections.defaultdict.__getattribute__" :=
  .of (owner := "collections.defaultdict") (n := "__getattribute__") (by rw [typeLookup_type, builtinLookup_eq_fast]; kernel_rfl) (by decide +kernel) (by decide +kernel) (by decide +kernel)
    (by first | exact .inl (by decide +kernel) | exact .inr (by decide +kernel)) (by rw [isSubtype_type]; kernel_rfl)
theorem dga_args (x y : Value) : argsOk "collections.defaultdict.__getattribute__" ⟨[x, y], []⟩ := by unfold argsOk; kernel_rfl

theorem dga_quiet (a : Args) : (Code.builtin "collections.defaultdict.__getattribute__" a).quiet = true := Code.quiet_builtin _ (by decide +kernel)
theorem dga_kind : builtinKind "collections.defaultdict.__getattribute__" = some .slot := by decide +kernel
theorem dga_split : splitId "collections.defaultdict.__getattribute__" = some ("collections.defaultdict", "__getattribute__") := by decide +kernel
theorem nm_short (w : World) : Array.foldl (fun k c => k + (Str.utf8Of c).length) 0 (cd101 w).name.cps ≤ 100 := of_decide_eq_true (by kernel_rfl)
theorem nm_msg (w : World) : (Str.ofString (toString "'" ++ toString (cd101 w).name.toString ++ toString "' object has no attribute '") ++ Str.ofString "_frozen" ++ Str.ofString "'").length ≤ sizeLine := of_decide_eq_true (by kernel_rfl)
set_option maxHeartbeats 1000000 in
theorem c_gaMiss {bk dA : Addr} {fac : Value} {es : Array DictEntry} {ep : Nat} {dO : Obj} {tf : Tok} {R : Result → Shared → Prop} (b : BookL w h bk dA fac es ep) (hd : h.get? dA = some dO) (hl : lookIn "_frozen" dO = some none) (hh : A.handled = none)
    (hR : ∀ h' tk e, Heap.NewAttrErr h h' e (.ref bk) "_frozen" → R (.error (.ref e)) ⟨h', g, d, tk, os⟩) :
    codeAny (mo w) A (.call (.builtin "collections.defaultdict.__getattribute__") ⟨[.ref bk, .str "_frozen" tf], []⟩) R ⟨h, g, d, t, os⟩ := by
  have tb := b.ty
  have ho := b.ho
  have id2 : Looks (mo w) h (isInstance (.ref bk) (.type "collections.defaultdict")) true := b.inst (by kernel_rfl)
  refine codeAny_call_builtin_at (dga_quiet _) dga_entry ?_
  refine check_slot (i := "collections.defaultdict.__getattribute__") (owner := "collections.defaultdict") (n := "__getattribute__") (self := .ref bk) (rest := [.str "_frozen" tf]) (kw := []) dga_kind dga_split id2 (dga_args _ _) ?_
  have l3 : Looks (mo w) h (typeLookup (.ref 101) "_frozen") none := looks_findIn b.X (by k_dflt rfl)
  have hns : Looks (mo w) h (nsGet dA "_frozen") none := fun A Q E s k q => wpAny_bind (wpAny_loadPart (k _ _ hd) (by rw [nsLook_of hl]; exact wpAny_pure q))
  obtain ⟨oc, od, sl, hc1, e1, e2, e3, e4⟩ := c101 w
  have hC := b.X _ _ hc1
  unfold Builtin.«object.__getattribute__»
  iterate 72 (try (first | with_reducible refine wpAny_call ?_ | with_reducible refine wpAny_attempt ?_ | lk))
  show wpAny _ _ (Builtin.ObjectAttr.noSuchAttribute (.ref bk) "_frozen") _ _ _
  unfold Builtin.ObjectAttr.noSuchAttribute
  iterate 20 (try (first | with_reducible refine wpAny_call ?_ | with_reducible refine wpAny_attempt ?_ | lk))
  rw [if_pos (nm_short w)]
  refine wpAny_pure ?_
  have hm := nm_msg w
  generalize (Str.ofString (toString "'" ++ toString (cd101 w).name.toString ++ toString "' object has no attribute '") ++ Str.ofString "_frozen" ++ Str.ofString "'") = msg at hm ⊢
  exact wpAny_raiseAttrError hh (fun h' tk e n => hR h' tk e n) hm

set_option maxHeartbeats 1000000 in
/-- getattr(book, '_frozen', dflt), not frozen -/
theorem g_getu {bk dA : Addr} {fac dflt : Value} {es : Array DictEntry} {ep : Nat} {dO : Obj} {tf : Tok} {Q : Value → Shared → Prop} (b : BookL w h bk dA fac es ep) (hd : h.get? dA = some dO) (hl : lookIn "_frozen" dO = some none) (hh : A.handled = none)
    (hQ : ∀ h' k, (∀ a o, h.get? a = some o → h'.get? a = some o) → Q dflt ⟨h', g, d, k, os⟩) : wpAny (mo w) A (call (.builtin "getattr") [.ref bk, .str "_frozen" tf, dflt]) Q E ⟨h, g, d, t, os⟩ := by
  refine call_function_entry getattr_kind getattr_plain getattr_entry (getattr_args _ _ _) ?_
  unfold Builtin.«getattr»
  have tb := b.ty
  have ho := b.ho
  have im : Looks (mo w) h (isInstance (.ref bk) (.type "module")) false := b.inst (by kernel_rfl)
  have l1 : Looks (mo w) h (typeLookup (.ref 101) "__getattribute__") (some (.builtin "collections.defaultdict.__getattribute__")) := looks_findIn b.X (by k_dflt rfl)
  have l2 : Looks (mo w) h (typeLookup (.ref 101) "__getattr__") none := looks_findIn b.X (by k_dflt rfl)
  have b1 : Looks (mo w) h (bindSpecial (.builtin "collections.defaultdict.__getattribute__") (.ref bk)) (.builtin "collections.defaultdict.__getattribute__", [.ref bk]) := Looks.of_pure (dga_slot.bind _)
  repeat (first | with_reducible refine wpAny_call ?_ | with_reducible refine wpAny_attempt ?_ | lk)
  refine c_gaMiss b hd hl hh fun h' tk e n => ?_
  obtain ⟨te, ue, hte⟩ := n.there
  have X1 : (KK w).In h' := fun a o q => n.keeps _ _ (b.X a o q)
  have ty1 : Looks (mo w) h' (typeOf (.ref e)) (.type "AttributeError") := (Looks.ld hte).andThen .now
  have ie : Looks (mo w) h' (isInstance (.ref e) (.type "AttributeError")) true := ty1.andThen (Looks.of_pure (by rw [isSubtype_type]; kernel_rfl))
  have hQ := hQ h' tk n.keeps
  repeat (first | with_reducible refine wpAny_call ?_ | with_reducible refine wpAny_attempt ?_ | lk)
  show wpAny _ _ (throw (Value.ref e)) _ _ _
  refine wpAny_throw ?_
  repeat (first | with_reducible refine wpAny_call ?_ | with_reducible refine wpAny_attempt ?_ | lk)
  exact ⟨_, rfl, hQ⟩

set_option maxHeartbeats 1000000 in
theorem c_gaHit {bk dA ff : Addr} {fac : Value} {es : Array DictEntry} {ep : Nat} {dO fo : Obj} {tf : Tok} {R : Result → Shared → Prop} (b : BookL w h bk dA fac es ep) (hd : h.get? dA = some dO) (hl : lookIn "_frozen" dO = some (some (.ref ff)))
    (hR : R (.ok (.ret (.ref ff))) ⟨h, g, d, t, os⟩) :
    codeAny (mo w) A (.call (.builtin "collections.defaultdict.__getattribute__") ⟨[.ref bk, .str "_frozen" tf], []⟩) R ⟨h, g, d, t, os⟩ := by
  have tb := b.ty
  have ho := b.ho
  have id2 : Looks (mo w) h (isInstance (.ref bk) (.type "collections.defaultdict")) true := b.inst (by kernel_rfl)
  refine codeAny_call_builtin_at (dga_quiet _) dga_entry ?_
  refine check_slot (i := "collections.defaultdict.__getattribute__") (owner := "collections.defaultdict") (n := "__getattribute__") (self := .ref bk) (rest := [.str "_frozen" tf]) (kw := []) dga_kind dga_split id2 (dga_args _ _) ?_
  have l3 : Looks (mo w) h (typeLookup (.ref 101) "_frozen") none := looks_findIn b.X (by k_dflt rfl)
  have hns : Looks (mo w) h (nsGet dA "_frozen") (some (.ref ff)) := fun A Q E s k q => wpAny_bind (wpAny_loadPart (k _ _ hd) (by rw [nsLook_of hl]; exact wpAny_pure q))
  obtain ⟨oc, od, sl, hc1, e1, e2, e3, e4⟩ := c101 w
  have hC := b.X _ _ hc1
  unfold Builtin.«object.__getattribute__»
  repeat (first | with_reducible refine wpAny_call ?_ | with_reducible refine wpAny_attempt ?_ | lk)
  exact hR

set_option maxHeartbeats 1000000 in
theorem g_getf {bk dA ff : Addr} {fac dflt : Value} {es : Array DictEntry} {ep : Nat} {dO fo : Obj} {tf : Tok} {Q : Value → Shared → Prop} (b : BookL w h bk dA fac es ep) (hd : h.get? dA = some dO) (hl : lookIn "_frozen" dO = some (some (.ref ff))) (hff : h.get? ff = some fo) (hfc : fo.cls = .type "function")
    (hQ : Q (.ref ff) ⟨h, g, d, t, os⟩) : wpAny (mo w) A (call (.builtin "getattr") [.ref bk, .str "_frozen" tf, dflt]) Q E ⟨h, g, d, t, os⟩ := by
  refine call_function_entry getattr_kind getattr_plain getattr_entry (getattr_args _ _ _) ?_
  unfold Builtin.«getattr»
  have tb := b.ty
  have ho := b.ho
  have im : Looks (mo w) h (isInstance (.ref bk) (.type "module")) false := b.inst (by kernel_rfl)
  have l1 : Looks (mo w) h (typeLookup (.ref 101) "__getattribute__") (some (.builtin "collections.defaultdict.__getattribute__")) := looks_findIn b.X (by k_dflt rfl)
  have l2 : Looks (mo w) h (typeLookup (.ref 101) "__getattr__") none := looks_findIn b.X (by k_dflt rfl)
  have b1 : Looks (mo w) h (bindSpecial (.builtin "collections.defaultdict.__getattribute__") (.ref bk)) (.builtin "collections.defaultdict.__getattribute__", [.ref bk]) := Looks.of_pure (dga_slot.bind _)
  repeat (first | with_reducible refine wpAny_call ?_ | with_reducible refine wpAny_attempt ?_ | lk)
  refine c_gaHit (fo := fo) b hd hl ?_
  repeat (first | with_reducible refine wpAny_call ?_ | with_reducible refine wpAny_attempt ?_ | lk)
  exact ⟨_, rfl, hQ⟩
end
end Mine
namespace Mine

section
variable {w : World} {A : Around} {E : Value → Shared → Prop} {env : Env} {s₀ : Shared} {L : Addr} {P : PM} {m : Str → Option Value} {M : List (Addr × Obj)} {s : Shared}
/-- the call of a bound append -/
theorem call_bound {b a : Addr} {its : Array Value} {n : Nat} {x : Value} {Q : Value → Shared → Prop} (hb : s.heap.get? b = some (boundO "list.append" a)) (ho : s.heap.get? a = some (listOf its n))
    (h : ∀ h', Heap.SameBut a s.heap h' → h'.get? a = some (listOf (its.push x) (n + 1)) → Q .none { s with heap := h' }) (hsz : its.size ≤ sizeLine) : wpAny (mo w) A (call (.ref b) [x]) Q E s := by
  refine wpAny_call (codeAny_of_tree ?_)
  show wpAny _ _ (callAny (.ref b) _) _ _ _
  unfold callAny
  refine wpAny_bind (wpAny_load hb ?_)
  show wpAny _ _ (do checkBoundCall "list.append" ⟨[.ref a, x], []⟩; again (.builtin "list.append" ⟨[.ref a, x], []⟩)) _ _ _
  have hT : s.TypeIs (.ref a) "list" := ⟨_, ho, rfl⟩
  have hsig : Manifest.signature? "list.append" = some (⟨.oneArg, "list.append", "append", .self, [⟨"object", .posOnly, true⟩]⟩ : Manifest.Signature) := by
    rw [signature?_of (id := "list.append") (n := ['d', 'n', 'e', 'p', 'p', 'a']) (o := ['t', 's', 'i', 'l']) (by kernel_rfl) F.owner_list]; kernel_rfl
  have hkind : builtinKind "list.append" = some .method := by decide +kernel
  have hva : Manifest.varargsMethods.contains "list.append" = false := by decide +kernel
  have hck : Bind.checkArgs "list.append" { (⟨.oneArg, "list.append", "append", .self, [⟨"object", .posOnly, true⟩]⟩ : Manifest.Signature) with full := s!"{Bind.lastOf "list"}.{Bind.lastOf "list.append"}" } ⟨[.ref a, x], []⟩ = pure () := by kernel_rfl
  have hsub : isSubtype (.type "list") (.type "module") = pure false := by rw [isSubtype_type]; kernel_rfl
  refine wpAny_bind ?_
  unfold checkBoundCall
  rw [hsig]
  dsimp only
  rw [hkind]
  dsimp only
  repeat (any_goals (first | assumption | wp_step))
  refine ⟨Code.quiet_builtin _ (by decide +kernel), codeAny_builtin entry_list_append ?_⟩
  show wpAny _ _ (updateSeq a (·.push x) >>= fun _ => ret .none) _ _ s
  refine wpAny_bind ?_
  refine wpAny_updateSeq (hz := hsz) (_hz' := by simp; exact hsz) ho rfl (wpAny_pure ?_)
  refine h _ (Heap.SameBut.update ..) ?_
  rw [Heap.get?_update_self _ ho (by rw [mapSeq_push]; rfl), mapSeq_push]

theorem keeps_bound {Mo : Model} {b a : Addr} {id : String} (h : Heap) (hb : h.get? b = some (boundO id a)) : ∃ k, (k = Keeper.frame ∨ k = Keeper.machine ∨ k = Keeper.boundFrame) ∧ Looks Mo h (keeperOf (.ref b)) k :=
  ⟨.machine, .inr (.inl rfl), (Looks.ld (part := none) hb).andThen .now⟩

/-- res.append as a value -/
theorem r_append {x : Str} {xp pos : Pos} {a : Addr} {vs : Array Value} {n : Nat} {Q : Value → Shared → Prop} (S : At s₀ P L m M s) (hm : m x = some (.ref a)) (ha : (a, listOf vs n) ∈ M)
    (h : ∀ b P' s', P.le P' → P' b = some (boundO "list.append" a) → At s₀ P' L m M s' → Q (.ref b) s') (hL : env.locals = L := by kernel_rfl) (hn : locB env x = true := by kernel_rfl)
    (he : eval (.Attribute (.Name x xp) "append" pos) env = (do
      let o ← eval (.Name x xp) env
      standAt pos.atName
      let r ← holding [o] (getAttr o "append" true)
      letTemporaryGo (.Name x xp) o r
      pure r) := by with_unfolding_all rfl) : wpAny (mo w) A (eval (.Attribute (.Name x xp) "append" pos) env) Q E s := by
  refine PyProof.Rows.Attribute_Name_ (r_local S (get_append (S.live (a, _) ha) ?_) hL hm hn) he
  obtain ⟨hn, T⟩ := S.pushP (boundO "list.append" a)
  exact h _ _ _ (PM.le_put hn) (PM.put_self ..) (T.toks1 1)

/-- a value is at hand to be added -/
inductive AddOk (s₀ : Shared) (L b : Addr) (Q : Value → Shared → Prop) (v : Value) (s₁ : Shared) : Prop
  | mk (P' : PM) (m' : Str → Option Value) (M' : List (Addr × Obj)) (a : Addr) (pre post : List (Addr × Obj)) (vs : Array Value) (n : Nat) (S : At s₀ P' L m' M' s₁) (hb : P' b = some (boundO "list.append" a)) (hM : M' = pre ++ (a, listOf vs n) :: post) (hsz : vs.size ≤ 16777216)
    (h : ∀ s', At s₀ P' L m' (pre ++ (a, listOf (vs.push v) (n + 1)) :: post) s' → Q .none s')
/-- add(e) -/
theorem r_addcall {x : Str} {p pos : Pos} {e : Expr} {b : Addr} {Q : Value → Shared → Prop} (S : At s₀ P L m M s) (hm : m x = some (.ref b))
    (h : wpAny (mo w) A (eval e env) (fun v s₁ => AddOk s₀ L b Q v s₁) E s)
    (hL : env.locals = L := by kernel_rfl) (hn : locB env x = true := by kernel_rfl)
    (he : starEach [e] env = [(false, eval e env)] := by rfl) : wpAny (mo w) A (eval (.Call (.Name x p) [e] [] pos) env) Q E s := by
  refine wpAny_Call_NameR (r_local S ?_ hL hm hn)
  rw [he]
  refine callWith_of (P := fun h => ∃ a, h.get? b = some (boundO "list.append" a)) rfl (fun h ⟨a, hb⟩ => keeps_bound h hb) (evalArgs_plain (spliced_cons (wpAny_mono h (fun v s₁ h₁ => spliced_nil ?_) fun _ _ x => x)))
  obtain ⟨P', m', M', a, pre, post, vs, n, S', hb, rfl, hsz, q⟩ := h₁
  refine ⟨⟨a, S'.keep _ _ hb⟩, call_bound (S'.keep _ _ hb) (S'.live (a, listOf vs n) (by simp)) (fun h' hs ho => q _ ?_) (by rw [sizeLine_eq]; exact hsz)⟩
  exact S'.upd rfl hs ho

/-! statements -/
theorem x_if {test : Expr} {body orelse rest : List Stmt} {pos : Pos} {Q : Flow → Shared → Prop}
    (h : wpAny (mo w) A (isTrue test env (eval test env)) (fun b s₂ => if b = true then wpAny (mo w) A (execs body env) (fun f s' => match f with | .next => wpAny (mo w) A (execs rest env) Q E s' | f => Q f s') E s₂
      else wpAny (mo w) A (execs orelse env) (fun f s' => match f with | .next => wpAny (mo w) A (execs rest env) Q E s' | f => Q f s') E s₂) E s) : wpAny (mo w) A (execs (.If test body orelse pos :: rest) env) Q E s :=
  wpAny_execs_cons (wpAny_If h)
theorem x_expr {e : Expr} {rest : List Stmt} {pos : Pos} {Q : Flow → Shared → Prop}
    (h : wpAny (mo w) A (eval e env) (fun v s' => match v with | .ref _ => False | _ => wpAny (mo w) A (execs rest env) Q E s') E s)
    (hi : interactive env = false := by kernel_rfl) (hs : swapsWith e none pos.line env = pure false := by kernel_rfl) : wpAny (mo w) A (execs (.Expr e pos :: rest) env) Q E s :=
  wpAny_execs_cons (wpAny_Expr h hi hs)
theorem x_assert {test : Expr} {msg : Option Expr} {rest : List Stmt} {pos : Pos} {Q : Flow → Shared → Prop}
    (h : wpAny (mo w) A (isTrue test env (eval test env)) (fun b s₁ => b = true ∧ wpAny (mo w) A (execs rest env) Q E s₁) E s) : wpAny (mo w) A (execs (.Assert test msg pos :: rest) env) Q E s :=
  wpAny_execs_cons (wpAny_Assert_holds h)
theorem x_aug {x : Str} {p pos : Pos} {op : Operator} {e : Expr} {v : Value} {rest : List Stmt} {Q : Flow → Shared → Prop} (S : At s₀ P L m M s) (hm : m x = some v)
    (h : wpAny (mo w) A (eval e env) (fun u s₂ => wpAny (mo w) A (inplaceOp op v u) (fun r s₃ => Stored (mo w) A env rest Q E s₀ L x r s₃) E s₂) E s)
    (hL : env.locals = L := by kernel_rfl) (hn : locS env x = true := by kernel_rfl) :
    wpAny (mo w) A (execs (.AugAssign (.Name x p) op e pos :: rest) env) Q E s :=
  wpAny_execs_cons (wpAny_AugAssign_Name (wpAny_loadName_local (locS_k hn).1 (locS_k hn).2 (hL ▸ S.ns) hm (wpAny_mono h (fun _ _ h₂ => wpAny_mono h₂ (fun _ _ ⟨_, _, _, S', q⟩ => r_store S' q hL hn) fun _ _ x => x) fun _ _ x => x)))
theorem x_break {rest : List Stmt} {pos : Pos} {Q : Flow → Shared → Prop} (h : Q .brk s) : wpAny (mo w) A (execs (.Break pos :: rest) env) Q E s := wpAny_execs_cons (wpAny_Break h)

/-- a while loop with a measure -/
theorem x_while {test : Expr} {body orelse rest : List Stmt} {pos : Pos} {Q : Flow → Shared → Prop} (I : Nat → Shared → Prop) (n : Nat) (h0 : I n s)
    (turn : ∀ n s, I n s → wpAny (mo w) A (isTrue test env (eval test env)) (fun b s₂ =>
        if b = true then wpAny (mo w) A (execs body env) (fun f s₃ => match f with
            | .next | .cont => ∃ m, m < n ∧ I m s₃
            | .brk => wpAny (mo w) A (execs rest env) Q E s₃
            | .ret v => Q (.ret v) s₃) NoE s₂
        else wpAny (mo w) A (execs orelse env) (fun f s₃ => match f with | .next => wpAny (mo w) A (execs rest env) Q E s₃ | f => Q f s₃) NoE s₂) NoE s) :
    wpAny (mo w) A (execs (.While test body orelse pos :: rest) env) Q E s := by
  refine wpAny_execs_cons (wpAny_While ?_)
  refine codeAny_whileLoop I (fun n s hI => lift (wpAny_mono (turn n s hI) (fun b s₂ h₂ => ?_) fun _ _ x => x)) n h0
  cases b with
  | true =>
    simp only [if_true] at h₂ ⊢
    refine lift (wpAny_mono h₂ (fun f s₃ h₃ => ?_) fun _ _ x => x)
    cases f <;> exact h₃
  | false =>
    simp only [Bool.false_eq_true, if_false] at h₂ ⊢
    exact lift (wpAny_mono h₂ (fun f s₃ h₃ => h₃) fun _ _ x => x)

/-- an if that comes last -/
theorem x_ifT {test : Expr} {body orelse : List Stmt} {pos : Pos} {Q : Flow → Shared → Prop}
    (h : wpAny (mo w) A (isTrue test env (eval test env)) (fun b s₂ => if b = true then wpAny (mo w) A (execs body env) Q E s₂ else wpAny (mo w) A (execs orelse env) Q E s₂) E s) : wpAny (mo w) A (execs [.If test body orelse pos] env) Q E s := by
  refine x_if (wpAny_mono h (fun b s₂ h₂ => ?_) fun _ _ x => x)
  cases b with
  | true =>
    rw [if_pos rfl] at h₂ ⊢
    exact wpAny_mono h₂ (fun f s₃ h₃ => by cases f <;> first | exact wpAny_execs_nil h₃ | exact h₃) fun _ _ x => x
  | false =>
    rw [if_neg Bool.false_ne_true] at h₂ ⊢
    exact wpAny_mono h₂ (fun f s₃ h₃ => by cases f <;> first | exact wpAny_execs_nil h₃ | exact h₃) fun _ _ x => x
/-- a while loop that is left with R -/
theorem x_loop {test : Expr} {body orelse rest : List Stmt} {pos : Pos} {Q : Flow → Shared → Prop} (I : Nat → Shared → Prop) (R : Shared → Prop) (n : Nat) (h0 : I n s)
    (turn : ∀ n s, I n s → wpAny (mo w) A (isTrue test env (eval test env)) (fun b s₂ =>
        if b = true then wpAny (mo w) A (execs body env) (fun f s₃ => match f with
            | .next | .cont => ∃ m, m < n ∧ I m s₃
            | .brk => R s₃
            | .ret v => Q (.ret v) s₃) NoE s₂
        else wpAny (mo w) A (execs orelse env) (fun f s₃ => f = .next ∧ R s₃) NoE s₂) NoE s) (h : ∀ s', R s' → wpAny (mo w) A (execs rest env) Q E s') :
    wpAny (mo w) A (execs (.While test body orelse pos :: rest) env) Q E s := by
  refine x_while I n h0 fun n s hI => wpAny_mono (turn n s hI) (fun b s₂ h₂ => ?_) fun _ _ x => x
  cases b with
  | true =>
    simp only [if_true] at h₂ ⊢
    refine wpAny_mono h₂ (fun f s₃ h₃ => ?_) fun _ _ x => x
    cases f with
    | brk => exact h _ h₃
    | _ => exact h₃
  | false =>
    simp only [Bool.false_eq_true, if_false] at h₂ ⊢
    refine wpAny_mono h₂ (fun f s₃ h₃ => ?_) fun _ _ x => x
    obtain ⟨rfl, h₃⟩ := h₃
    exact h _ h₃
/-- the same, its posts variables -/
theorem x_loopA {test : Expr} {body orelse rest : List Stmt} {pos : Pos} {Q : Flow → Shared → Prop} (I : Nat → Shared → Prop) (R : Shared → Prop) (n : Nat) (h0 : I n s)
    (turn : ∀ (n : Nat) (s : Shared) (K K' : Flow → Shared → Prop), I n s → (∀ m s', m < n → I m s' → K .next s') → (∀ s', R s' → K .brk s') → (∀ s', R s' → K' .next s') →
      wpAny (mo w) A (isTrue test env (eval test env)) (fun b s₂ => if b = true then wpAny (mo w) A (execs body env) K NoE s₂ else wpAny (mo w) A (execs orelse env) K' NoE s₂) NoE s) (h : ∀ s', R s' → wpAny (mo w) A (execs rest env) Q E s') :
    wpAny (mo w) A (execs (.While test body orelse pos :: rest) env) Q E s :=
  x_loop I R n h0 (fun n s hI => turn n s (fun f s₃ => match f with | .next | .cont => ∃ m, m < n ∧ I m s₃ | .brk => R s₃ | .ret v => Q (.ret v) s₃) (fun f s₃ => f = .next ∧ R s₃) hI (fun m _ hm h => ⟨m, hm, h⟩) (fun _ h => h) fun _ h => ⟨rfl, h⟩) h
end
end Mine
namespace Mine

section
variable {w : World} {A : Around} {E : Value → Shared → Prop} {env : Env} {s₀ : Shared} {L : Addr} {P : PM} {m : Str → Option Value} {M : List (Addr × Obj)} {s : Shared}

/-- an empty list, to be changed -/
theorem r_empty {pos : Pos} {Q : Value → Shared → Prop} (S : At s₀ P L m M s) (h : ∀ a s', At s₀ P L m ((a, listOf #[] 0) :: M) s' → Q (.ref a) s') : wpAny (mo w) A (eval (.List [] pos) env) Q E s :=
  List_ (spliced_none (wpAny_newList (h _ _ (S.push (listOf #[] 0)))))

/-- two values are at hand to be stored -/
inductive Stored2 (M' : Model) (A : Around) (env : Env) (rest : List Stmt) (Q : Flow → Shared → Prop) (E : Value → Shared → Prop) (s₀ : Shared) (L : Addr) (x y : Str) (v u : Value) (s₁ : Shared) : Prop
  | mk (P' : PM) (m' : Str → Option Value) (M₁ : List (Addr × Obj)) (S : At s₀ P' L m' M₁ s₁) (h : ∀ s', At s₀ P' L (updm (updm m' y u) x v) M₁ s' → wpAny M' A (execs rest env) Q E s')
/-- x, y = (e₁, e₂) -/
theorem x_tup2 {x y : Str} {px py tp vp pos : Pos} {k k' : Nat} {e₁ e₂ : Expr} {rest : List Stmt} {Q : Flow → Shared → Prop} (_S : At s₀ P L m M s) (hh : A.handled = none)
    (h : wpAny (mo w) A (eval e₁ env) (fun v s₁ => wpAny (mo w) A (eval e₂ env) (fun u s₂ => Stored2 (mo w) A env rest Q E s₀ L x y v u s₂) E s₁) E s)
    (hL : env.locals = L := by kernel_rfl) (hn : (locS env x && locS env y) = true := by kernel_rfl)
    (hs : swapsWithSole [.Tuple [.Name x px, .Name y py] k tp] (.Tuple [e₁, e₂] k' vp) pos.line env = pure false := by kernel_rfl)
    (hw : swappedStores [.Tuple [.Name x px, .Name y py] k tp] (.Tuple [e₁, e₂] k' vp) env = pure (some [x, y]) := by kernel_rfl)
    (he : starEach [e₁, e₂] env = (false, eval e₁ env) :: starEach [e₂] env := by k_dflt rfl) (he2 : starEach [e₂] env = (false, eval e₂ env) :: starEach [] env := by k_dflt rfl) :
    wpAny (mo w) A (execs (.Assign [.Tuple [.Name x px, .Name y py] k tp] (.Tuple [e₁, e₂] k' vp) pos :: rest) env) Q E s := by
  refine wpAny_execs_cons (Assign_Tuple_swapped (names := [x, y]) ?_ hs hw)
  refine Tuple_ (spliced_more (wpAny_mono h (fun v s₁ h₁ => spliced_more (wpAny_mono h₁ (fun u s₂ h₂ => spliced_none ?_) fun _ _ x => x) he2) fun _ _ x => x) he)
  obtain ⟨P', m', M', S, q⟩ := h₂
  refine wpAny_newTuple ?_ (by show 2 ≤ _; decide)
  have S₁ := S.drop1 { cls := .type "tuple", data := .seq [v, u].toArray }
  refine unpackItems_tuple (items := #[v, u]) hh ⟨_, Heap.get?_push_size _ rfl, rfl, 0, rfl⟩ fun h' he => ?_
  have S₂ : At s₀ P' L m' M' { s₂ with heap := h' } := S₁.change fun b o e => he _ _ (Nat.ne_of_lt (Heap.lt_size e)) e
  refine wpAny_assignInOrder_more (wpAny_bindName (r_store S₂ (fun s' S => ?_) hL (Bool.and_eq_true_iff.mp hn).2))
  refine wpAny_assignInOrder_more (wpAny_bindName (r_store S (fun s' S => ?_) hL (Bool.and_eq_true_iff.mp hn).1))
  exact wpAny_assignInOrder_none (q _ S)

/-- a value is at hand to be appended -/
inductive AppOk (s₀ : Shared) (L a : Addr) (Q : Value → Shared → Prop) (v : Value) (s₁ : Shared) : Prop
  | mk (P' : PM) (m' : Str → Option Value) (M' : List (Addr × Obj)) (pre post : List (Addr × Obj)) (vs : Array Value) (n : Nat) (S : At s₀ P' L m' M' s₁) (hM : M' = pre ++ (a, listOf vs n) :: post) (hsz : vs.size ≤ 16777216)
    (h : ∀ s', At s₀ P' L m' (pre ++ (a, listOf (vs.push v) (n + 1)) :: post) s' → Q .none s')
/-- x.append(e), x a list to be changed -/
theorem r_methappend {x : Str} {xp apos pos : Pos} {e : Expr} {a : Addr} {Q : Value → Shared → Prop} (S : At s₀ P L m M s) (hm : m x = some (.ref a)) {vs₀ : Array Value} {n₀ : Nat} (ha : (a, listOf vs₀ n₀) ∈ M)
    (h : wpAny (mo w) A (eval e env) (fun v s₁ => AppOk s₀ L a Q v s₁) E s)
    (hL : env.locals = L := by kernel_rfl) (hn : locB env x = true := by kernel_rfl)
    (hb : attributeBase (.Name x xp) "append" env (eval (.Name x xp) env) = eval (.Name x xp) env := by k_dflt rfl) (hl : (apos.endLine == pos.line) = true := by k_dflt rfl)
    (he : backTo pos (starEach [e] env) = [(false, eval e env)] := by k_dflt rfl) : wpAny (mo w) A (eval (.Call (.Attribute (.Name x xp) "append" apos) [e] [] pos) env) Q E s := by
  refine wpAny_Call_method1_late hb hl he (r_local S ?_ hL hm hn)
  refine ⟨"list", "list.append", F.plainAttrs_list, slot_list_append, type_list_append, ⟨_, S.live (a, listOf vs₀ n₀) ha, rfl⟩, fun b e => ?_, ?_⟩
  · cases e; exact ⟨_, S.live (a, listOf vs₀ n₀) ha, rfl⟩
  · refine callWith_builtin rfl (evalArgs_plain (spliced_cons (wpAny_mono h (fun v s₁ h₁ => spliced_nil ?_) fun _ _ x => x)))
    obtain ⟨P', m', M', pre, post, vs, n, S', rfl, hsz, q⟩ := h₁
    exact append_at (hsz := by rw [sizeLine_eq]; exact hsz) (S'.live (a, listOf vs n) (by simp)) fun h' hs ho => q _ (S'.upd rfl hs ho)

/-- f'c1{e}c2' -/
theorem r_fstr {c1 c2 : Str} {e : Expr} {k1 k2 : Nat} {p1 p2 pe pos : Pos} {Q : Value → Shared → Prop} (S : At s₀ P L m M s) (hc : c1.length ≤ 1000)
    (h : ∀ s₁, At s₀ P L m M s₁ → wpAny (mo w) A (eval e env) (fun v s₂ => ∃ x t P' m' M', v = .str x t ∧ At s₀ P' L m' M' s₂ ∧ c1.length + x.length + c2.length ≤ 16777216 ∧
      ∀ t' s', s₀.toks ≤ t' → At s₀ P' L m' M' s' → Q (.str (c1 ++ x ++ c2) t') s') E s₁) :
    wpAny (mo w) A (eval (.JoinedStr [.Constant (.str c1) k1 p1, .FormattedValue e (-1) none pe, .Constant (.str c2) k2 p2] pos) env) Q E s := by
  refine PyProof.Rows.JoinedStr_many (PyProof.Rows.joinParts_cons (r_str S fun t s' S => ?_))
  show (Str.empty ++ c1).length ≤ sizeLine ∧ wpAny (mo w) A (joinParts (Str.empty ++ c1) _) Q E s'
  have e1 : Str.empty ++ c1 = c1 := Str.empty_append c1
  rw [e1]
  refine ⟨by rw [sizeLine_eq]; (first | lia | omega), PyProof.Rows.joinParts_cons (PyProof.Rows.FormattedValue_plain (wpAny_mono (h _ S) (fun v s₂ h₂ => ?_) fun _ _ x => x))⟩
  obtain ⟨x, t, P', m', M', rfl, S', hz, q⟩ := h₂
  have key : ∀ s', At s₀ P' L m' M' s' → (c1 ++ x).length ≤ sizeLine ∧ wpAny (mo w) A (joinParts (c1 ++ x) (evalEach [.Constant (.str c2) k2 p2] env)) Q E s' := fun s' S => by
    refine ⟨by rw [Str.length_append, sizeLine_eq]; (first | lia | omega), ?_⟩
    refine PyProof.Rows.joinParts_consE (PyProof.Rows.joinParts_cons (r_str S fun t s' S => ?_))
    exact ⟨by rw [Str.length_append, Str.length_append, sizeLine_eq]; (first | lia | omega), PyProof.Rows.joinParts_nilE (PyProof.Rows.joinParts_nil (q _ _ S.tp (S.toks1 1)) (by rw [Str.length_append, Str.length_append, sizeLine_eq]; (first | lia | omega)))⟩
  exact wpAny_formatField_str (key _ S') (key _ (S'.toks1 1)) (by rw [sizeLine_eq]; (first | lia | omega))

/-! parts -/
noncomputable def SigOK : Value → Prop
  | .str _ u => u ≠ 0
  | .ref _ => True
  | _ => False
noncomputable def Apart : Value → Str → Tok → Prop
  | .str y u, x, t => t ≠ 0 ∧ t ≠ u ∧ x ≠ y
  | _, _, _ => True
noncomputable def PVal (σ : Value) (v : Value) : Option Str → Prop
  | none => v = σ
  | some x => ∃ t, v = .str x t ∧ Apart σ x t
theorem same_self {y : Str} {u : Tok} (h : u ≠ 0) : isSame (.str y u) (.str y u) = pure true := by
  show isSame.created (y == y) u u = _
  unfold isSame.created
  have h0 : (u == 0) = false := beq_eq_false_iff_ne.mpr h
  simp [h0]
theorem same_not {x y : Str} {t u : Tok} (ht : t ≠ 0) (hu : u ≠ 0) (h : t ≠ u) (hx : x ≠ y) : isSame (.str x t) (.str y u) = pure false := by
  show isSame.created (x == y) t u = _
  unfold isSame.created
  have h0 : (t == 0) = false := beq_eq_false_iff_ne.mpr ht
  have h1 : (u == 0) = false := beq_eq_false_iff_ne.mpr hu
  have h2 : (t == u) = false := beq_eq_false_iff_ne.mpr h
  have h3 : (x == y) = false := beq_eq_false_iff_ne.mpr hx
  simp [h0, h1, h2, h3]
theorem isSame_part {σ v : Value} {p : Option Str} {Q : Bool → Shared → Prop} (hσ : SigOK σ) (h : PVal σ v p) (q : Q p.isNone s) : wpAny (mo w) A (isSame v σ) Q E s := by
  cases p with
  | none =>
    cases h
    cases σ with
    | str y u => exact wpAny_of_eq (same_self hσ) q
    | ref a => exact wpAny_isSame_ref_self q
    | _ => exact hσ.elim
  | some x =>
    obtain ⟨t, rfl, ha⟩ := h
    cases σ with
    | str y u => exact wpAny_of_eq (same_not ha.1 hσ ha.2.1 ha.2.2) q
    | ref a => exact wpAny_isSame_plain rfl q
    | _ => exact hσ.elim
theorem isnot_part {σ v : Value} {p : Option Str} {Q : Value → Shared → Prop} (hσ : SigOK σ) (h : PVal σ v p) (q : Q (.bool (!p.isNone)) s) : wpAny (mo w) A (compareOp .IsNot v σ) Q E s := by
  show wpAny _ A (do return .bool (!(← isSame v σ))) Q E s
  exact wpAny_bind (isSame_part hσ h (wpAny_pure q))
theorem is_part {σ v : Value} {p : Option Str} {Q : Value → Shared → Prop} (hσ : SigOK σ) (h : PVal σ v p) (q : Q (.bool p.isNone) s) : wpAny (mo w) A (compareOp .Is v σ) Q E s := by
  show wpAny _ A (do return .bool (← isSame v σ)) Q E s
  exact wpAny_bind (isSame_part hσ h (wpAny_pure q))
end

/-- a list of parts -/
structure PVs (σ : Value) (vs : Array Value) (ps : List (Option Str)) : Prop where
  size : vs.size = ps.length
  get : ∀ (k : Nat) (p : Option Str), ps[k]? = some p → ∃ v, vs[k]? = some v ∧ PVal σ v p
theorem PVs.nil (σ : Value) : PVs σ #[] [] := ⟨rfl, fun k p h => by simp at h⟩
theorem PVs.push {σ : Value} {vs : Array Value} {ps : List (Option Str)} (h : PVs σ vs ps) {v : Value} {p : Option Str} (hv : PVal σ v p) : PVs σ (vs.push v) (ps ++ [p]) := by
  refine ⟨by simp [h.size], fun k q hq => ?_⟩
  by_cases e : k < ps.length
  · rw [List.getElem?_append_left e] at hq
    obtain ⟨u, hu, hp⟩ := h.get k q hq
    refine ⟨u, ?_, hp⟩
    rw [Array.getElem?_push, if_neg (by rw [h.size]; (first | lia | omega))]
    exact hu
  · rw [List.getElem?_append_right (by (first | lia | omega))] at hq
    have hk : k - ps.length = 0 := by
      cases hz : k - ps.length with
      | zero => rfl
      | succ n => rw [hz] at hq; simp at hq
    rw [hk] at hq
    simp only [List.getElem?_cons_zero, Option.some.injEq] at hq
    subst hq
    exact ⟨v, by rw [Array.getElem?_push, if_pos (by rw [h.size]; (first | lia | omega))], hv⟩
end Mine
namespace Mine

section
variable {w : World} {A : Around} {E : Value → Shared → Prop} {env : Env} {s₀ : Shared} {L : Addr} {P : PM} {m : Str → Option Value} {M : List (Addr × Obj)} {s : Shared}
theorem At.keepAll {h : Heap} {g : Array GenState} {d : Drawn} {t : Nat} {os : OsState} (S : At s₀ P L m M ⟨h, g, d, t, os⟩) {h' : Heap} {tk : Nat} (k : ∀ b o, h.get? b = some o → h'.get? b = some o) (ht : t ≤ tk) : At s₀ P L m M ⟨h', g, d, tk, os⟩ :=
  let T := S.change k
  { T with tp := Nat.le_trans S.tp ht }
theorem at_Call {Mo : Model} {c : Code} {f : Expr} {args : List Expr} {pos : Pos} {Q : Value → Shared → Prop} (h : PySem.wpAt Mo A c (eval f env) (fun fv s₁ => PySem.wpAt Mo A c (callWith pos fv [] (backTo pos (starEach args env)) []) Q E s₁) E s)
    (he : eval (.Call f args [] pos) env = (do callWith pos (← eval f env) [] (backTo pos (starEach args env)) (backToKw pos (keywordEach [] env)))) : PySem.wpAt Mo A c (eval (.Call f args [] pos) env) Q E s := by
  rw [he]
  exact PySem.wpAt_bind h

/-- the file of a code object -/
theorem file92 (w : World) : ∃ c oc vs file tf, (fdOf w 91).code = .ref c ∧ (KK w).lookup c = some oc ∧ oc.data = .fields vs ∧ vs[2]? = some (.str file tf) ∧ ((pw.main.file : Str) == file) = true :=
  ⟨_, _, _, _, _, rfl, rfl, rfl, rfl, by kernel_rfl⟩
theorem cell91 (w : World) : ∃ cc oc, (fdOf w 91).closure = [(("__class__" : Str), cc)] ∧ (KK w).lookup cc = some oc ∧ oc.data = .cell (some (.ref 101)) := ⟨_, _, rfl, rfl, rfl⟩

/-- getattr(self, '_frozen', super().__missing__) in __missing__ -/
theorem at_getattr {L' bk dA : Addr} {m' : Str → Option Value} {fac : Value} {es : Array DictEntry} {ep : Nat} {dO : Obj} {p1 p2 p3 p4 p5 p6 p7 : Pos} {k1 : Nat} {body : List Stmt} {Q : Value → Shared → Prop} (S : At s₀ P L' m' M s) (B : Base w P) (hh : A.handled = none)
    (hself : m' "self" = some (.ref bk)) (hbk : (bk, bookO dA fac es ep) ∈ M) (hdA : (dA, dO) ∈ M) (hne : (Value.ref bk == Value.ref 101) = false)
    (hQ : ∀ b P' s', P.le P' → P' b = some (boundO "collections.defaultdict.__missing__" bk) → At s₀ P' L' m' M s' → ∀ tf, wpAny (mo w) A (call (.builtin "getattr") [.ref bk, .str "_frozen" tf, .ref b]) Q E s') :
    PySem.wpAt (mo w) A (.func body (envF w 91 L')) (eval (.Call (.Name "getattr" p1) [.Name "self" p2, .Constant (.str "_frozen") k1 p3, .Attribute (.Call (.Name "super" p4) [] [] p5) "__missing__" p6] [] p7) (envF w 91 L')) Q E s := by
  refine at_Call ?_ (by k_dflt rfl)
  refine PySem.wpAt_of_wpAny (r_built S B (v := .builtin "getattr") ?_)
  show PySem.wpAt _ _ _ (callWith p7 (.builtin "getattr") [] [(false, eval (.Name "self" p2) (envF w 91 L')), (false, eval (.Constant (.str "_frozen") k1 p3) (envF w 91 L')), (false, eval (.Attribute (.Call (.Name "super" p4) [] [] p5) "__missing__" p6) (envF w 91 L'))] []) _ _ _
  refine at_callWith rfl (at_evalArgs (at_spliced_cons ?_))
  refine PySem.wpAt_of_wpAny (r_local S ?_ (by kernel_rfl) hself)
  refine at_spliced_cons (PySem.wpAt_of_wpAny (r_str S fun tf s' S => ?_))
  refine at_spliced_cons (at_Attribute ?_)
  obtain ⟨c, oc, vs, file, tf', hco, hoc, hvs, hfile, hf2⟩ := file92 w
  obtain ⟨cc, occ, hclo, hocc, hcd⟩ := cell91 w
  have X := S.inK B
  obtain ⟨o91, d91, sl91, h91⟩ : IsDef w 91 := ⟨_, _, _, rfl⟩
  refine PySem.ks_wpAt_super_base (env := envF w 91 L') (by kernel_rfl) (by kernel_rfl) (by kernel_rfl) (by k_dflt rfl) (X _ _ h91) rfl (ar := { arg := "self", annotation := none, pos := ⟨110, 20, 110, 24⟩ }) (by k_dflt rfl) hco (X _ _ hoc) hvs hfile hf2 (by kernel_rfl) ?_
  obtain ⟨mg, hm⟩ := In.glob X
  obtain ⟨mb, hB, hBx⟩ := (S.ok B).B
  refine ks_loadName_global (by kernel_rfl) (by kernel_rfl) (loadGlobal_builtin hm (mg_none_of X hm (by kernel_rfl)) hB ((hBx "super" (by decide)).trans (by kernel_rfl)) ⟨rfl, ?_⟩)
  refine wpAny_loadName_free (by kernel_rfl) (by kernel_rfl) (by show (fdOf w 91).closure.lookup _ = _; rw [hclo]; rfl) ⟨_, X _ _ hocc, hcd⟩ ?_
  refine wpAny_loadName_local (by kernel_rfl) (by kernel_rfl) S.ns hself ?_
  obtain ⟨oc1, od1, sl1, hc1, e1, e2, e3, e4⟩ := c101 w
  have hC := X _ _ hc1
  have ho := S.live _ hbk
  have S0 := S
  obtain ⟨h, g, d, t, os⟩ := s'
  refine PySem.ks_wpAny_isType_cls hC rfl ⟨rfl, ?_⟩
  refine PySem.ks_wpAny_call_super hC rfl ho rfl (fun c e => nomatch e) (looks_mroIn X (by kernel_rfl)) fun h' hso k => ?_
  have S1 := S0.keepAll k (Nat.le_refl t)
  have X1 := S1.inK B
  have ho1 := S1.live _ hbk
  refine g_superget (BookL.of X1 ho1) hne hso ?_
  obtain ⟨hn, T⟩ := S1.pushP (boundO "collections.defaultdict.__missing__" bk)
  have T := T.toks1 1
  refine wpAny_letTemporaryGo (PySem.wpAt_of_wpAny (wpAny_pure ?_))
  exact hQ _ _ _ (PM.le_put hn) (PM.put_self ..) T tf

theorem wpAny_of_At {Mo : Model} {A : Around} {c : Code} {E : Value → Shared → Prop} {s : Shared} {α : Type} {t : Sem α} {Q : α → Shared → Prop} (h : wpAny Mo A t Q E s) : PySem.wpAt Mo A c t Q E s := PySem.wpAt_of_wpAny h

set_option maxHeartbeats 1000000 in
/-- the class's own __missing__, not frozen -/
theorem c_missU {f cB bk dA : Addr} {es : Array DictEntry} {ep : Nat} {dO : Obj} {x : Str} {tx : Tok} {pre post : List (Addr × Obj)} {R : Result → Shared → Prop} (S : At s₀ P L m M s) (B : Base w P) (K : BookM w P M f cB bk dA es ep) (hd : A.depth + 1 < recursionLimit) (hh : A.handled = none)
    (hM : M = pre ++ (bk, bookO dA (.ref f) es ep) :: post) (hdA : (dA, dO) ∈ M) (hlk : lookIn "_frozen" dO = some none) (hne : (Value.ref bk == Value.ref 101) = false) (hk : KeysOf (sk w) es) (hn : place w es x = none)
    (hQ : ∀ P' t s', P.le P' → At s₀ P' L m (pre ++ (bk, bookO dA (.ref f) (es.push ⟨(sk w).hash x, .str x tx, .int es.size t⟩) (ep + 1)) :: post) s' → R (.ok (.ret (.int es.size t))) s') : codeAny (mo w) A (.call (.ref 91) ⟨[.ref bk, .str x tx], []⟩) R s := by
  obtain ⟨o91, d91, sl91, h91⟩ : IsDef w 91 := ⟨_, _, _, rfl⟩
  have X := S.inK B
  obtain ⟨body, hbody⟩ : ∃ body, (fdOf w 91).body = .stmts body := ⟨_, rfl⟩
  refine enterIn (fd := fdOf w 91) [("self", .ref bk), ("key", .str x tx)] S B (by (first | lia | omega)) (X _ _ h91) rfl (codeRec_of X (by kernel_rfl)) hbody (by kernel_rfl) (by kernel_rfl) (by kernel_rfl) (by kernel_rfl) (by kernel_rfl) (by kernel_rfl) fun L' oL s₁ nL S₁ => ?_
  cases hbody
  have hA1 : (A.deeper (envF w 91 L')).handled = none := hh
  have hA2 : (A.deeper (envF w 91 L')).depth < recursionLimit := by show A.depth + 1 < _; exact hd
  refine PySem.ks_wpAt_execs_cons (PySem.ks_wpAt_Return_some ?_)
  refine at_Call (at_getattr (M := (L, oL) :: M) S₁ B hA1 rfl (.tail _ K.inM) (.tail _ hdA) hne fun b P1 s' l1 hb S₂ tf => ?_) (by k_dflt rfl)
  have B1 := B.mono l1
  have X2 := S₂.inK B1
  have ho2 := S₂.live (bk, bookO dA (.ref f) es ep) (.tail _ K.inM)
  have hd2 := S₂.live (dA, dO) (.tail _ hdA)
  have S0 := S₂
  obtain ⟨h, g, d, t, os⟩ := s'
  refine wpAny_with_toks (n := t) (Nat.le_refl _) ?_
  refine g_getu (BookL.of X2 ho2) hd2 hlk hA1 fun h' k hkk htk => ?_
  have S₃ := S0.keepAll (tk := k) hkk htk
  refine PySem.wpAt_of_wpAny ?_
  show wpAny _ _ (callWith _ (.ref b) [] [(false, eval (.Name "key" _) (envF w 91 L'))] []) _ _ _
  refine callWith_of (P := fun h => h.get? b = some (boundO "collections.defaultdict.__missing__" bk)) rfl (fun h hb => keeps_bound h hb) (evalArgs_plain (spliced_cons (r_local S₃ (spliced_nil ?_) (by kernel_rfl) rfl)))
  refine ⟨S₃.keep _ _ hb, ?_⟩
  have K1 : BookM w P1 ((L, oL) :: M) f cB bk dA es ep := ⟨(let ⟨fo, fd, e, F, c, oc, vs, t, a1, a2, a3⟩ := K.fac; ⟨fo, fd, l1 _ _ e, F, c, oc, vs, t, a1, l1 _ _ a2, a3⟩), (let ⟨oB, e, q⟩ := K.cell; ⟨oB, .tail _ e, q⟩), .tail _ K.inM, K.sys, K.size⟩
  refine o_ddmiss (pre := (L, oL) :: pre) (post := post) S₃ B1 K1 hA2 hb (by rw [hM]; rfl) hk hn fun tv s' S₄ => ?_
  exact hQ P1 tv s' l1 (At.leave (pre := []) S₄ nL)
end
end Mine
namespace Mine

theorem dgi_entry : entryFor table "dict.__getitem__" = some Builtin.«dict.__getitem__» := entryFor_of_tree (by kernel_rfl)
theorem dgi_split : splitId "dict.__getitem__" = some ("dict", "__getitem__") := by decide +kernel
theorem dgi_kind : builtinKind "dict.__getitem__" = some .method := by decide +kernel
theorem dgi_args (x y : Value) : argsOk "dict.__getitem__" ⟨[x, y], []⟩ := by unfold argsOk; kernel_rfl
theorem dgi_quiet (a : Args) : (Code.builtin "dict.__getitem__" a).quiet = true := Code.quiet_builtin _ (by decide +kernel)
section
variable {w : World} {A : Around} {E : Value → Shared → Prop} {env : Env} {s₀ : Shared} {L : Addr} {P : PM} {m : Str → Option Value} {M : List (Addr × Obj)} {s : Shared}
variable {h : Heap} {g : Array GenState} {d : Drawn} {t : Nat} {os : OsState}
set_option maxHeartbeats 1000000 in
theorem g_getitem {bk dA : Addr} {fac : Value} {es : Array DictEntry} {ep : Nat} {x : Str} {tx : Tok} {Q : Value → Shared → Prop} (b : BookL w h bk dA fac es ep) (hbs : (bk == sysModules) = false) (hk : KeysOf (sk w) es)
    (h1 : ∀ i e, place w es x = some i → es[i]? = some e → Q e.val ⟨h, g, d, t + 1, os⟩)
    (h2 : place w es x = none → ∀ (A' : Around) (R : Result → Shared → Prop), A'.handled = A.handled → A'.depth = A.depth → (∀ v s', Q v s' → R (.ok (.ret v)) s') → codeAny (mo w) A' (.call (.ref 91) ⟨[.ref bk, .str x tx], []⟩) R ⟨h, g, d, t + 1, os⟩) :
    wpAny (mo w) A (getItem (.ref bk) (.str x tx)) Q E ⟨h, g, d, t, os⟩ := by
  have tb := b.ty
  have ho := b.ho
  have l1 : Looks (mo w) h (typeLookup (.ref 101) "__getitem__") (some (.builtin "dict.__getitem__")) := looks_findIn b.X (by k_dflt rfl)
  have b1 : Looks (mo w) h (bindSpecial (.builtin "dict.__getitem__") (.ref bk)) (.builtin "dict.__getitem__", [.ref bk]) := Looks.of_pure (F.slot_dict_getitem.bind _)
  have inst : Looks (mo w) h (isInstance (.ref bk) (.type "dict")) true := b.inst (by kernel_rfl)
  have skey : Looks (mo w) h (sequenceKey (.ref bk) (.str x tx) "__getitem__") (.str x tx) := b.ty.andThen (Looks.of_peek b.X (by kernel_rfl))
  unfold getItem
  repeat (first | with_reducible refine wpAny_call ?_ | with_reducible refine wpAny_attempt ?_ | lk)
  refine codeAny_call_builtin_at (dgi_quiet _) dgi_entry ?_
  have hck : Looks (mo w) h (checkBuiltinCall "dict.__getitem__" ⟨[.ref bk, .str x tx], []⟩) () := fun A Q E s k q => by
    obtain ⟨h', g', d', t', os'⟩ := s
    have inst' := inst.keeps k
    simp only [checkBuiltinCall, dgi_kind, dgi_split]
    repeat (first | with_reducible refine wpAny_call ?_ | lk)
    exact q
  refine hck.at ?_
  unfold Builtin.«dict.__getitem__»
  repeat (first | with_reducible refine wpAny_call ?_ | (with_reducible show wpAny _ _ (dictGet _ _) _ _ _; refine g_dictGet (s := ⟨h, g, d, t, os⟩) ho hk ?_) | lk)
  cases hp : place w es x with
  | some i =>
    have hi : i < es.size := by
      unfold place at hp
      exact (Array.findIdx?_eq_some_iff_getElem.mp hp).1
    have he : es[i]? = some es[i] := Array.getElem?_eq_getElem hi
    rw [Option.bind_some, he, Option.map_some]
    have hQ := h1 i _ hp he
    repeat (first | with_reducible refine wpAny_call ?_ | lk)
    exact hQ
  | none =>
    have l2 : Looks (mo w) h (typeLookup (.ref 101) "__missing__") (some (.ref 91)) := looks_findIn b.X (by k_dflt rfl)
    have b2 : Looks (mo w) h (bindSpecial (.ref 91) (.ref bk)) (.ref 91, [.ref bk]) := bind_fn b.X _ (by k_dflt rfl)
    rw [Option.bind_none]
    show wpAny (mo w) _ _ _ _ ⟨h, g, d, t + 1, os⟩
    unfold Builtin.Dict.missed
    dsimp only
    rw [if_neg (by rw [hbs]; exact Bool.false_ne_true)]
    repeat (first | with_reducible refine wpAny_call ?_ | lk)
    refine h2 hp _ _ rfl rfl fun v s' hv => ?_
    repeat (first | with_reducible refine wpAny_call ?_ | lk)
    exact hv

/-- book[x] -/
theorem o_bsub {value slice : Expr} {bk dA : Addr} {fac : Value} {es : Array DictEntry} {ep : Nat} {x : Str} {tx : Tok} {Q : Value → Shared → Prop} (X : (KK w).In s.heap) (ho : s.heap.get? bk = some (bookO dA fac es ep)) (h : wpAny (mo w) A (getItem (.ref bk) (.str x tx)) Q E s)
    (hs : subscripted slice false (.ref bk) (.str x tx) = operate [.ref bk, .str x tx] (getItem (.ref bk) (.str x tx)) := by with_unfolding_all rfl) (ht : ∀ r, letTemporaryGo value (.ref bk) r = pure () := by intro _; with_unfolding_all rfl) :
    wpAny (mo w) A (subscriptTail value slice (.ref bk) (.str x tx)) Q E s := by
  obtain ⟨h', g, d, t, os⟩ := s
  have b := BookL.of X ho
  have l1 : Looks (mo w) h' (typeLookup (.ref 101) "__getitem__") (some (.builtin "dict.__getitem__")) := looks_findIn b.X (by k_dflt rfl)
  have gp : Looks (mo w) h' (getitemInPython (.ref bk)) false := (show Looks (mo w) h' (specialOf (.ref bk) "__getitem__") _ from b.ty.andThen l1).andThen .now
  unfold subscriptTail
  refine wpAny_bind (gp.at (wpAny_bind ?_))
  rw [hs]
  exact wpAny_operating (wpAny_mono h (fun r s₃ h₃ => wpAny_bind (wpAny_of_eq (ht r) (wpAny_pure h₃))) fun _ _ x => x)
/-- a key that is there -/
theorem o_subThere {value slice : Expr} {f cB bk dA : Addr} {es : Array DictEntry} {ep : Nat} {x : Str} {tx : Tok} {i : Nat} {e : DictEntry} {Q : Value → Shared → Prop} (S : At s₀ P L m M s) (B : Base w P) (K : BookM w P M f cB bk dA es ep) (hk : KeysOf (sk w) es)
    (hp : place w es x = some i) (he : es[i]? = some e) (hQ : ∀ s', At s₀ P L m M s' → Q e.val s')
    (hs : subscripted slice false (.ref bk) (.str x tx) = operate [.ref bk, .str x tx] (getItem (.ref bk) (.str x tx)) := by with_unfolding_all rfl) (ht : ∀ r, letTemporaryGo value (.ref bk) r = pure () := by intro _; with_unfolding_all rfl) :
    wpAny (mo w) A (subscriptTail value slice (.ref bk) (.str x tx)) Q E s := by
  have X := S.inK B
  have ho := S.live _ K.inM
  refine o_bsub X ho ?_ hs ht
  have S1 := S.toks1 1
  obtain ⟨h', g, d, t, os⟩ := s
  refine g_getitem (BookL.of X ho) K.sys hk (fun i' e' hp' he' => ?_) fun hn => ?_
  · rw [hp] at hp'
    cases hp'
    rw [he] at he'
    cases he'
    exact hQ _ S1
  · rw [hp] at hn; cases hn
/-- a key that is not there, and the book not frozen -/
theorem o_subNew {value slice : Expr} {f cB bk dA : Addr} {es : Array DictEntry} {ep : Nat} {dO : Obj} {x : Str} {tx : Tok} {pre post : List (Addr × Obj)} {Q : Value → Shared → Prop} (S : At s₀ P L m M s) (B : Base w P) (K : BookM w P M f cB bk dA es ep) (hd : A.depth + 1 < recursionLimit) (hh : A.handled = none) (hk : KeysOf (sk w) es)
    (hM : M = pre ++ (bk, bookO dA (.ref f) es ep) :: post) (hdA : (dA, dO) ∈ M) (hlk : lookIn "_frozen" dO = some none) (hne : (Value.ref bk == Value.ref 101) = false) (hn : place w es x = none)
    (hQ : ∀ P' t s', P.le P' → At s₀ P' L m (pre ++ (bk, bookO dA (.ref f) (es.push ⟨(sk w).hash x, .str x tx, .int es.size t⟩) (ep + 1)) :: post) s' → Q (.int es.size t) s')
    (hs : subscripted slice false (.ref bk) (.str x tx) = operate [.ref bk, .str x tx] (getItem (.ref bk) (.str x tx)) := by with_unfolding_all rfl) (ht : ∀ r, letTemporaryGo value (.ref bk) r = pure () := by intro _; with_unfolding_all rfl) :
    wpAny (mo w) A (subscriptTail value slice (.ref bk) (.str x tx)) Q E s := by
  have X := S.inK B
  have ho := S.live _ K.inM
  refine o_bsub X ho ?_ hs ht
  have S1 := S.toks1 1
  obtain ⟨h', g, d, t, os⟩ := s
  refine g_getitem (BookL.of X ho) K.sys hk (fun i' e' hp' he' => ?_) fun _ A' R ha hb hR => ?_
  · rw [hn] at hp'; cases hp'
  · exact c_missU S1 B K (by (first | lia | omega)) (ha.trans hh) hM hdA hlk hne hk hn fun P' t s' l S' => hR _ _ (hQ P' t s' l S')
end
end Mine
namespace Mine

theorem slot_mem_get : Slot "member_descriptor" "__get__" "member_descriptor.__get__" :=
  .of (owner := "member_descriptor") (n := "__get__") (by rw [typeLookup_type, builtinLookup_eq_fast]; kernel_rfl) (by decide +kernel) (by decide +kernel) (by decide +kernel)
    (by first | exact .inl (by decide +kernel) | exact .inr (by decide +kernel)) (by rw [isSubtype_type]; kernel_rfl)
theorem entry_mem_get : entryFor table "member_descriptor.__get__" = some Builtin.«member_descriptor.__get__» := entryFor_of_tree (by kernel_rfl)
theorem args_mem_get (a b c : Value) : argsOk "member_descriptor.__get__" ⟨[a, b, c], []⟩ := by unfold argsOk; kernel_rfl
theorem type_df : typeOf (.builtin "collections.defaultdict.default_factory") = pure (.type "member_descriptor") := by show builtinType _ = _; rw [builtinType_eq_fast]; kernel_rfl
theorem entry_df : entryFor table "collections.defaultdict.default_factory" = some Builtin.«collections.defaultdict.default_factory» := entryFor_of_tree (by kernel_rfl)
section
variable {w : World} {A : Around} {E : Value → Shared → Prop} {env : Env} {s₀ : Shared} {L : Addr} {P : PM} {m : Str → Option Value} {M : List (Addr × Obj)} {s : Shared}
variable {h : Heap} {g : Array GenState} {d : Drawn} {t : Nat} {os : OsState}
set_option maxHeartbeats 1000000 in
/-- book.default_factory, to be called -/
theorem g_df {bk dA f : Addr} {es : Array DictEntry} {ep : Nat} {dO : Obj} {pl : Sem Bool} {Q : Value × List Value → Shared → Prop} (b : BookL w h bk dA (.ref f) es ep) (hd : h.get? dA = some dO)
    (hQ : Q (.ref f, []) ⟨h, g, d, t + 1, os⟩) : wpAny (mo w) A (getMethod (.ref bk) "default_factory" pl) Q E ⟨h, g, d, t, os⟩ := by
  have tb := b.ty
  have ho := b.ho
  have l1 : Looks (mo w) h (typeLookup (.ref 101) "__getattribute__") (some (.builtin "collections.defaultdict.__getattribute__")) := looks_findIn b.X (by k_dflt rfl)
  have l2 : Looks (mo w) h (typeLookup (.ref 101) "__getattr__") none := looks_findIn b.X (by k_dflt rfl)
  have l3 : Looks (mo w) h (typeLookup (.ref 101) "default_factory") (some (.builtin "collections.defaultdict.default_factory")) := looks_findIn b.X (by k_dflt rfl)
  have b1 : Looks (mo w) h (bindSpecial (.builtin "collections.defaultdict.__getattribute__") (.ref bk)) (.builtin "collections.defaultdict.__getattribute__", [.ref bk]) := Looks.of_pure (dga_slot.bind _)
  unfold getMethod getAttr getAttrBy
  repeat (first | with_reducible refine wpAny_call ?_ | with_reducible refine wpAny_attempt ?_ | lk)
  have id2 : Looks (mo w) h (isInstance (.ref bk) (.type "collections.defaultdict")) true := b.inst (by kernel_rfl)
  refine codeAny_call_builtin_at (dga_quiet _) dga_entry ?_
  refine check_slot (i := "collections.defaultdict.__getattribute__") (owner := "collections.defaultdict") (n := "__getattribute__") (self := .ref bk) (rest := [.str "default_factory" t]) (kw := []) dga_kind dga_split id2 (dga_args _ _) ?_
  have ty : Looks (mo w) h (typeOf (.builtin "collections.defaultdict.default_factory")) (.type "member_descriptor") := looks_typeIn b.X (by k_dflt rfl)
  have tk : Looks (mo w) h (Builtin.ObjectAttr.takesStores (.builtin "collections.defaultdict.default_factory")) true := looks_takesIn b.X (by k_dflt rfl)
  have gt : Looks (mo w) h (typeLookup (.type "member_descriptor") "__get__") (some (.builtin "member_descriptor.__get__")) := looks_findIn b.X (by k_dflt rfl)
  unfold Builtin.«object.__getattribute__»
  repeat (first | with_reducible refine wpAny_call ?_ | with_reducible refine wpAny_attempt ?_ | lk)
  have hT5 : (⟨h, g, d, t + 1, os⟩ : Shared).TypeIs (.builtin "collections.defaultdict.default_factory") "member_descriptor" := type_df
  refine codeAny_call_builtin slot_mem_get.plain entry_mem_get (slot_mem_get.check _ _ _ _ _ _ _ _ hT5 (args_mem_get _ _ _) ?_)
  have f11 : (".".intercalate ("collections.defaultdict.default_factory".cutAt '.').dropLast) = "collections.defaultdict" := by decide +kernel
  have f12 : Looks (mo w) h (isSubtype (.ref 101) (.type (".".intercalate ("collections.defaultdict.default_factory".cutAt '.').dropLast))) true := by
    rw [f11]; exact looks_mroIn b.X (by kernel_rfl)
  unfold Builtin.«member_descriptor.__get__»
  repeat (first | with_reducible refine wpAny_call ?_ | with_reducible refine wpAny_attempt ?_ | lk)
  refine ⟨Code.quiet_builtin _ (by decide +kernel), codeAny_builtin entry_df ?_⟩
  unfold Builtin.«collections.defaultdict.default_factory»
  repeat (first | with_reducible refine wpAny_call ?_ | with_reducible refine wpAny_attempt ?_ | lk)
  exact hQ

/-- the frozen lambda: lambda key: self.default_factory() -/
structure FrozO (fo : Obj) (fd : FuncData) (cS : Addr) : Prop where
  data : fo.data = .func fd
  body : ∃ p1 p2 p3, fd.body = .expr (.Call (.Attribute (.Name "self" p1) "default_factory" p2) [] [] p3) ∧ (p2.endLine == p3.line) = true
  par : ∀ v, bindArgs fd ⟨[v], []⟩ = pure [(("key" : Str), v)]
  cell : (fd.scope.names.all fun x => x.2 != .cell) = true
  co : fd.scope.isCoroutine = false
  gen : fd.scope.isGenerator = false
  kind : fd.scope.kind = .function
  key : fd.scope.names.lookup ("key" : Str) = some .local
  self : fd.scope.names.lookup ("self" : Str) = some .free
  clo : fd.closure.lookup ("self" : Str) = some cS
  glo : fd.globals = mainGlobals
  bui : fd.builtins = builtinsNs
theorem c_frozen {ff cS f cB bk dA : Addr} {fo oS dO : Obj} {fd : FuncData} {es : Array DictEntry} {ep : Nat} {v : Value} {R : Result → Shared → Prop} (S : At s₀ P L m M s) (B : Base w P) (K : BookM w P M f cB bk dA es ep) (hd : A.depth + 1 < recursionLimit)
    (hff : P ff = some fo) (F : FrozO fo fd cS) (hcd : s.heap.CodeRec fd.code fd.qualname) (hcS : (cS, oS) ∈ M) (hoS : oS.data = .cell (some (.ref bk))) (hdA : (dA, dO) ∈ M)
    (hQ : ∀ t s', At s₀ P L m M s' → R (.ok (.ret (.int es.size t))) s') : codeAny (mo w) A (.call (.ref ff) ⟨[v], []⟩) R s := by
  obtain ⟨p1, p2, p3, hbody, hline⟩ := F.body
  refine enterE [("key", v)] S B (by (first | lia | omega)) (S.keep _ _ hff) F.data hcd hbody (F.par v) F.cell (by rw [List.all_cons, F.key]; rfl) F.co F.gen F.kind fun L' oL s₁ nL S₁ => ?_
  have hA2 : (A.deeper (callEnv fd L' ff)).depth < recursionLimit := by show A.depth + 1 < _; exact hd
  rw [arm_eval_Call]
  refine wpAny_bind (m := attributeBase _ _ _ _) (show wpAny _ _ (eval (.Name "self" p1) (callEnv fd L' ff)) _ _ _ from ?_)
  refine wpAny_Name (wpAny_loadName_free F.kind F.self F.clo ⟨oS, S₁.live (cS, oS) (.tail _ hcS), hoS⟩ ?_) (by kernel_rfl)
  refine wpAny_bind (wpAny_standAt ?_)
  unfold methodCall
  refine wpAny_bind (wpAny_holding ?_)
  show wpAny _ _ (getMethod (.ref bk) "default_factory" _) _ _ _
  have X1 := S₁.inK B
  have ho1 := S₁.live (bk, bookO dA (.ref f) es ep) (.tail _ K.inM)
  have hd1 := S₁.live (dA, dO) (.tail _ hdA)
  have S2 := S₁.toks1 1
  have K1 : BookM w P ((L, oL) :: M) f cB bk dA es ep := ⟨K.fac, (let ⟨oB, e, q⟩ := K.cell; ⟨oB, .tail _ e, q⟩), .tail _ K.inM, K.sys, K.size⟩
  obtain ⟨fo1, fd1, hfo1, F1, _⟩ := K.fac
  obtain ⟨h, g, d, t, os⟩ := s₁
  refine g_df (BookL.of X1 ho1) hd1 ?_
  show wpAny _ _ (methodCallPos true _ _ p2 p3 >>= _) _ _ _
  unfold methodCallPos
  rw [if_pos (by rw [hline]; rfl)]
  refine wpAny_bind (wpAny_pure ?_)
  show wpAny _ _ (callWith p3 (.ref f) [] [] []) _ _ _
  refine callWith_function (fd := fd1) (o := fo1) (evalArgs_nil3 ⟨⟨S2.keep _ _ hfo1, F1.data⟩, ?_⟩)
  exact o_fac S2 B K1 hA2 fun t s' S' => hQ t s' (At.leave (pre := []) S' nL)

/-- the frozen state: the instance's dict holds the lambda -/
structure FrozenM (P : PM) (M : List (Addr × Obj)) (bk dA ff : Addr) : Prop where
  obj : ∃ fo fd cS oS, P ff = some fo ∧ fo.cls = .type "function" ∧ FrozO fo fd cS ∧ (∃ c oc vs t, fd.code = .ref c ∧ P c = some oc ∧ oc.data = .fields vs ∧ vs[1]? = some (.str fd.qualname t)) ∧ (cS, oS) ∈ M ∧ oS.data = .cell (some (.ref bk))
  dict : ∃ dO, (dA, dO) ∈ M ∧ lookIn "_frozen" dO = some (some (.ref ff))
set_option maxHeartbeats 1000000 in
/-- the class's own __missing__, frozen -/
theorem c_missF {f cB bk dA ff : Addr} {es : Array DictEntry} {ep : Nat} {x : Str} {tx : Tok} {R : Result → Shared → Prop} (S : At s₀ P L m M s) (B : Base w P) (K : BookM w P M f cB bk dA es ep) (Z : FrozenM P M bk dA ff) (hd : A.depth + 2 < recursionLimit) (hh : A.handled = none)
    (hne : (Value.ref bk == Value.ref 101) = false)
    (hQ : ∀ P' t s', P.le P' → At s₀ P' L m M s' → R (.ok (.ret (.int es.size t))) s') : codeAny (mo w) A (.call (.ref 91) ⟨[.ref bk, .str x tx], []⟩) R s := by
  obtain ⟨⟨fo, fd, cS, oS, hff, hfc, F, ⟨c, oc, vs, tc, hc1, hc2, hc3, hc4⟩, hcS, hoS⟩, dO, hdA, hlk⟩ := Z
  obtain ⟨o91, d91, sl91, h91⟩ : IsDef w 91 := ⟨_, _, _, rfl⟩
  have X := S.inK B
  obtain ⟨body, hbody⟩ : ∃ body, (fdOf w 91).body = .stmts body := ⟨_, rfl⟩
  refine enterIn (fd := fdOf w 91) [("self", .ref bk), ("key", .str x tx)] S B (by (first | lia | omega)) (X _ _ h91) rfl (codeRec_of X (by kernel_rfl)) hbody (by kernel_rfl) (by kernel_rfl) (by kernel_rfl) (by kernel_rfl) (by kernel_rfl) (by kernel_rfl) fun L' oL s₁ nL S₁ => ?_
  cases hbody
  have hA1 : (A.deeper (envF w 91 L')).handled = none := hh
  have hA2 : (A.deeper (envF w 91 L')).depth + 1 < recursionLimit := by show A.depth + 1 + 1 < _; (first | lia | omega)
  refine PySem.ks_wpAt_execs_cons (PySem.ks_wpAt_Return_some ?_)
  refine at_Call (at_getattr (M := (L, oL) :: M) S₁ B hA1 rfl (.tail _ K.inM) (.tail _ hdA) hne fun b P1 s' l1 hb S₂ tf => ?_) (by k_dflt rfl)
  have B1 := B.mono l1
  have X2 := S₂.inK B1
  have ho2 := S₂.live (bk, bookO dA (.ref f) es ep) (.tail _ K.inM)
  have hd2 := S₂.live (dA, dO) (.tail _ hdA)
  have hf2 := S₂.keep _ _ (l1 _ _ hff)
  have hcd : s'.heap.CodeRec fd.code fd.qualname := ⟨c, oc, vs, tc, hc1, S₂.keep _ _ (l1 _ _ hc2), hc3, hc4⟩
  have S0 := S₂
  obtain ⟨h, g, d, t, os⟩ := s'
  refine g_getf (BookL.of X2 ho2) hd2 hlk hf2 hfc ?_
  refine PySem.wpAt_of_wpAny ?_
  show wpAny _ _ (callWith _ (.ref ff) [] [(false, eval (.Name "key" _) (envF w 91 L'))] []) _ _ _
  refine callWith_function (fd := fd) (o := fo) (evalArgs_plain (spliced_cons (r_local S0 (spliced_nil ?_) (by kernel_rfl) rfl)))
  refine ⟨⟨hf2, F.data⟩, ?_⟩
  have K1 : BookM w P1 ((L, oL) :: M) f cB bk dA es ep := ⟨(let ⟨fo, fd, e, F, c, oc, vs, t, a1, a2, a3⟩ := K.fac; ⟨fo, fd, l1 _ _ e, F, c, oc, vs, t, a1, l1 _ _ a2, a3⟩), (let ⟨oB, e, q⟩ := K.cell; ⟨oB, .tail _ e, q⟩), .tail _ K.inM, K.sys, K.size⟩
  refine wpAny_call (c_frozen S0 B1 K1 hA2 (l1 _ _ hff) F hcd (.tail _ hcS) hoS (.tail _ hdA) fun tv s' S₄ => ?_)
  exact hQ P1 tv s' l1 (At.leave (pre := []) S₄ nL)
/-- a key that is not there, the book frozen -/
theorem o_subFrozen {value slice : Expr} {f cB bk dA ff : Addr} {es : Array DictEntry} {ep : Nat} {x : Str} {tx : Tok} {Q : Value → Shared → Prop} (S : At s₀ P L m M s) (B : Base w P) (K : BookM w P M f cB bk dA es ep) (Z : FrozenM P M bk dA ff) (hd : A.depth + 2 < recursionLimit) (hh : A.handled = none) (hk : KeysOf (sk w) es)
    (hne : (Value.ref bk == Value.ref 101) = false) (hn : place w es x = none)
    (hQ : ∀ P' t s', P.le P' → At s₀ P' L m M s' → Q (.int es.size t) s')
    (hs : subscripted slice false (.ref bk) (.str x tx) = operate [.ref bk, .str x tx] (getItem (.ref bk) (.str x tx)) := by with_unfolding_all rfl) (ht : ∀ r, letTemporaryGo value (.ref bk) r = pure () := by intro _; with_unfolding_all rfl) :
    wpAny (mo w) A (subscriptTail value slice (.ref bk) (.str x tx)) Q E s := by
  have X := S.inK B
  have ho := S.live _ K.inM
  refine o_bsub X ho ?_ hs ht
  have S1 := S.toks1 1
  obtain ⟨h', g, d, t, os⟩ := s
  refine g_getitem (BookL.of X ho) K.sys hk (fun i' e' hp' he' => ?_) fun _ A' R ha hb hR => ?_
  · rw [hn] at hp'; cases hp'
  · exact c_missF S1 B K Z (by (first | lia | omega)) (ha.trans hh) hne fun P' t s' l S' => hR _ _ (hQ P' t s' l S')
end
end Mine
namespace Mine

theorem entry_str_find' : entryFor table "str.find" = some Builtin.«str.find» := PySem.F.entry_str_find
section
variable {w : World} {A : Around} {E : Value → Shared → Prop} {env : Env} {s₀ : Shared} {L : Addr} {P : PM} {m : Str → Option Value} {M : List (Addr × Obj)} {s : Shared}
set_option maxHeartbeats 1000000 in
theorem o_find4 {x y : Str} {t u v z : Tok} {k j : Int} {Q : Value → Shared → Prop} (S : At s₀ P L m M s) (hk : 0 ≤ k ∧ k < 2 ^ 62) (hj : 0 ≤ j ∧ j < 2 ^ 62)
    (h : ∀ t s', At s₀ P L m M s' → Q (.int (match Builtin.Str.occurrences x y k.toNat (min j.toNat x.length) 1 with | i :: _ => (i : Int) | [] => -1) t) s') :
    wpAny (mo w) A (call (.builtin "str.find") [.str x t, .str y u, .int k v, .int j z]) Q E s := by
  refine wpAny_call_entry PySem.F.slot_str_find (typeIs_str _ _ _) PySem.F.entry_str_find ?_ (PySem.F.args_str_find_4 _ _ _ _)
  have f1 := PySem.F.slot_int_index.lookup
  have S1 := S.toks1 1
  have h' := fun t => h t _ S1
  unfold Builtin.«str.find»
  repeat (any_goals (first | assumption | wp_step))
  have ek : (max 0 (if k < 0 then k + (x.length : Int) else k)).toNat = k.toNat := by rw [if_neg (by (first | lia | omega))]; (first | lia | omega)
  have ej : (max 0 (if j < 0 then j + (x.length : Int) else j)).toNat = j.toNat := by rw [if_neg (by (first | lia | omega))]; (first | lia | omega)
  rw [ek, ej]
  have h2 := h s.toks _ (S.toks1 1)
  generalize Builtin.Str.occurrences x y k.toNat (min j.toNat x.length) 1 = l at h2 ⊢
  cases l with
  | cons i tl => exact wpAny_bind (wpAny_mkInt (wpAny_pure ⟨_, rfl, h2⟩))
  | nil => exact wpAny_bind (wpAny_rule (wpAny_bind (wpAny_mkInt (wpAny_pure ⟨_, rfl, h2⟩))))

theorem o_replace {x y z : Str} {t u v : Tok} {Q : Value → Shared → Prop} (S : At s₀ P L m M s) (hu : u ≠ 0) (hv : v ≠ 0) (huv : u ≠ v) (hyz : (y == z) = false) (hx : x.length ≤ 1000) (hz : z.length ≤ 10)
    (h : ∀ t s', At s₀ P L m M s' → Q (.str (Txt.replace x y z) t) s') : wpAny (mo w) A (call (.builtin "str.replace") [.str x t, .str y u, .str z v]) Q E s := by
  have hmul : (x.length + 1) * z.length ≤ (x.length + 1) * 10 := Nat.mul_le_mul_left _ hz
  have hb : x.length + (x.length + 1) * z.length ≤ 16777216 := by (first | lia | omega)
  have ho := StrLaws.occ_length_le x y 0 x.length (x.length + 1)
  have hom : (Builtin.Str.occurrences x y 0 x.length (x.length + 1)).length * z.length ≤ (x.length + 1) * z.length := Nat.mul_le_mul_right _ ho
  have hl : Builtin.Str.tooLong (x.length + (Builtin.Str.occurrences x y 0 x.length (x.length + 1)).length * z.length) = false := by
    have e : (2 : Nat) ^ 24 = 16777216 := by decide
    unfold Builtin.Str.tooLong sizeLine
    exact decide_eq_false (by (first | lia | omega))
  refine call_gives PySem.F.slot_str_replace (typeIs_str _ _ _) PySem.F.entry_str_replace (PySem.F.args_str_replace_3 _ _ _)
    (gives_str_replace x y z t u v fun _ => ⟨by simp [hu, hv], by simp [huv], hyz, hl⟩) ?_
  unfold Txt.replace at h
  split
  · rename_i c
    rw [if_pos c] at h
    exact h t s S
  · rename_i c
    rw [if_neg c] at h
    exact ⟨fits_replaced y hb, h _ _ (S.toks1 1)⟩
/-- two texts written one behind the other -/
theorem r_str2 {M' : Model} {x y : Str} {k k' p p'} {e : Env} {Q : Value → Value → Shared → Prop} (S : At s₀ P L m M s) (h0 : s₀.toks ≠ 0) (h : ∀ t u s', t ≠ 0 → u ≠ 0 → t ≠ u → At s₀ P L m M s' → Q (.str x t) (.str y u) s') :
    wpAny M' A (eval (.Constant (.str x) k p) e) (fun v s₁ => wpAny M' A (eval (.Constant (.str y) k' p') e) (fun u s₂ => Q v u s₂) E s₁) E s := by
  have ht := S.tp
  exact wpAny_Constant_str (wpAny_Constant_str (h _ _ _ (show s.toks ≠ 0 by (first | lia | omega)) (Nat.succ_ne_zero _) (Nat.ne_of_lt (Nat.lt_succ_self _)) ((S.toks1 1).toks1 1)))
end
end Mine
namespace Mine

/-- code objects and their tables -/
noncomputable def cvs (w : World) (c : Addr) : Array Value := match (KK w).lookup c with
  | some ⟨_, _, .fields vs, _⟩ => vs
  | _ => #[]
theorem code63 {w : World} {h : Heap} (X : (KK w).In h) : CodeHd h 67 63 := by
  obtain ⟨o, file, tf, flags, tg, inF, text, tt, e, r1, r2, r3, r4, r5, r6, r7, r8⟩ : ∃ o file tf flags tg inF text tt, (KK w).lookup 67 = some o ∧ o.cls = .type "code" ∧ o.data = .fields (cvs w 67) ∧ (cvs w 67)[11]? = some (.ref 63) ∧ (cvs w 67).getD 11 .none = .ref 63 ∧ (cvs w 67).getD 18 .none = .str file tf ∧
    (cvs w 67).getD 7 .none = .int flags tg ∧ (cvs w 67).getD 9 .none = .bool inF ∧ (cvs w 67).getD 10 .none = .int text tt := ⟨_, _, _, _, _, _, _, _, rfl, rfl, rfl, rfl, rfl, rfl, rfl, rfl, rfl⟩
  exact ⟨o, _, file, tf, flags, tg, inF, text, tt, X _ _ e, r1, r2, r3, r4, r5, r6, r7, r8, by decide⟩
theorem Ok.built {w : World} {s : Shared} (O : Ok w s) {T : Addr} (hT : T ∈ tabs3) : ∃ mg, s.heap.Ns mainGlobals mg ∧ s.heap.BuiltinsAt mg T := by
  obtain ⟨mg, hm⟩ := In.glob O.K
  obtain ⟨o, e, h1, h2, h3⟩ := O.bm
  exact ⟨mg, hm, 4, o, mg_of O.K hm (by k_dflt rfl), by decide, by decide, (by rintro rfl; revert hT; decide), e, h1, h2, h3⟩

theorem mv_tab {s s' : Shared} {T : Addr} {ps more : Array Value} (tx : ∀ x ∈ tabs3, ∃ vs, s.heap.get? x = some (PySem.W.X.tableObj vs) ∧ TriplesOk vs.toList) (hx : ∀ b o, b ≠ T → s.heap.get? b = some o → s'.heap.get? b = some o)
    (hT : T ∈ tabs3) (e : s.heap.get? T = some (PySem.W.X.tableObj ps)) (e' : s'.heap.get? T = some (PySem.W.X.tableObj (ps ++ more))) (ht : TriplesOk (ps ++ more).toList) (os : s'.os = s.os) (g : AllBare s.gens → AllBare s'.gens) (tp : s.toks ≤ s'.toks) : Mv [] s s' where
  keep := fun a o h _ q => hx a o (fun q => h (q ▸ hT)) q
  grow := fun x hx' vs q => by
    by_cases h : x = T
    · subst h
      rw [e] at q
      have q := Option.some.inj q
      have : ps = vs := by injection q with _ _ q; injection q
      exact ⟨more, by rw [← this]; exact e'⟩
    · exact ⟨#[], by rw [hx x _ h q, Array.append_empty]⟩
  tx := fun x hx' => by
    by_cases h : x = T
    · subst h; exact ⟨_, e', ht⟩
    · obtain ⟨vs, q, r⟩ := tx x hx'
      exact ⟨vs, hx x _ h q, r⟩
  os := os
  gens := g
  tp := tp

section
variable {w : World} {A : Around} {E : Value → Shared → Prop} {env : Env} {s₀ : Shared} {L : Addr} {P : PM} {m : Str → Option Value} {M : List (Addr × Obj)} {s : Shared}

/-- a lambda is made; its code may stand in the table already -/
theorem r_lambda {T c : Addr} {params : Arguments} {body : Expr} {scope : Scope} {pos : Pos} {clos : List (Str × Addr)} {Q : Value → Shared → Prop} (S : At s₀ P L m M s) (B : Base w P) (hT : T ∈ tabs3) (C : CodeHd s.heap c T) (hcode : env.code = .ref c)
    (hdef : defaultsOf params env = ([], [])) (hcl : closureFor scope env = pure clos) (hge0 : env.globals = mainGlobals)
    (h : ∀ f fo P' s', P.le P' → P' f = some fo → fo.cls = .type "function" → At s₀ P' L m M s' → Q (.ref f) s') : wpAny (mo w) A (eval (.Lambda params body scope pos) env) Q E s := by
  obtain ⟨ps, e, ht⟩ := S.tx T hT
  obtain ⟨mg, hm, hb⟩ := (S.ok B).built hT
  have hgT : mainGlobals ≠ T := by rintro rfl; revert hT; decide
  refine kla_eval hdef (wpAny_with_toks (Nat.le_refl s.toks) ?_)
  have fin : ∀ (h' : Heap) (fo : Obj) (tk : Tok) more, fo.cls = .type "function" → fo.isFreed = false → (∀ b o, b ≠ T → s.heap.get? b = some o → h'.get? b = some o) → h'.get? T = some (PySem.W.X.tableObj (ps ++ more)) → TriplesOk (ps ++ more).toList →
      s.heap.objs.size ≤ h'.objs.size → s.toks ≤ tk → Q (.ref h'.objs.size) { s with heap := h'.push fo, toks := tk } := fun h' fo tk more hc hf hx e' ht' hsz htk => by
    have v : Mv [] s { s with heap := h'.push fo, toks := tk } := mv_tab S.tx (fun b o hb q => Heap.get?_push_of_some _ (hx b o hb q)) hT e (Heap.get?_push_of_some _ e') ht' rfl id htk
    obtain ⟨S', l, ln⟩ := S.adopt v
    refine h _ fo _ _ l (ln _ _ ?_) hc S'
    unfold newOf nw
    rw [if_pos]
    · exact Heap.get?_push_size _ hf
    · cases q : s.heap.get? h'.objs.size with
      | none => rfl
      | some o => exact absurd (Nat.lt_of_lt_of_le (Heap.lt_size q) hsz) (Nat.lt_irrefl _)
  cases hf : codeAmong pos ps.toList with
  | none =>
    refine kla_makeFunction hcl hge0 hm hcode C e ht hf hgT hb fun c' ctv h' tk hx hge hlt hrec htb htk => ?_
    exact fin h' _ tk _ rfl rfl (fun b o hb q => hx b o hb q) htb (by simpa using TriplesOk_snoc _ _ _ _ ht) (by (first | lia | omega)) htk
  | some cv =>
    refine kla_makeFunctionHit hcl hge0 hm hcode C e ht hf hb fun ctv h' tk hx hsz htk => ?_
    refine fin h' _ tk #[] rfl rfl (fun b o _ q => hx b o q) (by rw [Array.append_empty]; exact hx _ _ e) (by rw [Array.append_empty]; exact ht) hsz htk

/-- sep.join(f(x) for x in a list) -/
theorem o_genjoin {T c cA : Addr} {nn : Nat} {x : Str} {px gpos : Pos} {elt iter : Expr} {scope : Scope} {l : List (Str × Tok)} {f : Str → Str} {sep : Str} {t : Tok} {Q : Value → Shared → Prop} (S : At s₀ P L m M s) (B : Base w P) (hh : A.handled = none) (hroom : A.depth < recursionLimit)
    (hT : T ∈ tabs3) (C : CodeHd s.heap c T) (hcode : env.code = .ref c) (hge0 : env.globals = mainGlobals)
    (hco : scope.isCoroutine = false) (hclos : closureFor scope env = pure []) (hcell : (scope.names.all fun x => x.2 != .cell) = true) (h0 : scope.names.lookup (".0" : Str) = some NameKind.local)
    (hx : scope.names.lookup x = some .local) (hkind : scope.kind = .function) (hs : ∀ x, genFold iter env x = pure x)
    (hiter : ∀ (E : Value → Shared → Prop) (Q : Value → Shared → Prop), Q (.ref cA) s → wpAny (mo w) A (eval iter env) Q E s) (hcA : (cA, listOf (strValues l).toArray nn) ∈ M) (hl : l.length ≤ 10000) (hok : JoinOk sep (l.map fun p => f p.1) = true)
    (helt : ∀ (C : Addr) (code : Value) (bi : Addr) (A' : Around) (E' : Value → Shared → Prop) (a : Str) (t : Tok) (s₂ : Shared) m₂, A'.handled = none → (a, t) ∈ l → s₂.heap.Ns (genEnv scope [] C code bi env).locals m₂ → m₂ x = some (.str a t) →
      wpAny (mo w) A' (eval elt (genEnv scope [] C code bi env)) (fun y s₃ => (∃ u, y = .str (f a) u) ∧ Keeps s₂ s₃) E' s₂)
    (h : ∀ t' s', At s₀ P L m M s' → Q (.str (Txt.join sep (l.map fun p => f p.1)) t') s') :
    wpAny (mo w) A (eval (.GeneratorExp elt [⟨.Name x px, iter, [], 0⟩] scope gpos) env) (fun v s₁ => wpAny (mo w) A (call (.builtin "str.join") [.str sep t, v]) Q E s₁) E s := by
  have hcell' : ∀ x ∈ scope.names, x.2 ≠ .cell := fun x hx q => by
    have := List.all_eq_true.mp hcell x hx
    rw [q] at this; cases this
  obtain ⟨ps, e, ht⟩ := S.tx T hT
  obtain ⟨mg, hm, hb⟩ := (S.ok B).built hT
  have hgT : mainGlobals ≠ T := by rintro rfl; revert hT; decide
  have hlive := S.live _ hcA
  have hil : s.heap.IsList cA (strValues l).toArray := ⟨_, hlive, rfl, nn, rfl⟩
  have hclt : cA < s.heap.objs.size := Heap.lt_size hlive
  have hlim : s.heap.NoLimit := In.nolimit (S.inK B)
  have hcT : cA ≠ T := fun q => by rw [q, e] at hlive; cases hlive
  have hTlt : T < s.heap.objs.size := Heap.lt_size e
  have hcsT : cStatics ≠ T := by rintro rfl; revert hT; decide
  obtain ⟨bm, ob, hbm, hne0, _, hneP, hbo, hcls, hdict, hdata⟩ := hb
  refine wpAny_with_toks (Nat.le_refl s.toks) ?_
  refine wpAny_GeneratorExp_walksQ hh hco hclos hcell' h0 hx hkind hroom (hiter _ _ ?_) hs
  refine wpAny_pyIter_list hil ⟨hlim.push _, ?_⟩
  have key : ∀ (code : Value) (h₃ : Heap) (tk₃ : Tok) more, (∀ b o, b ≠ T → (s.heap.push { cls := .type "list_iterator", data := .fields #[.ref cA, .int 0 0] }).get? b = some o → h₃.get? b = some o) → h₃.get? T = some (PySem.W.X.tableObj (ps ++ more)) → TriplesOk (ps ++ more).toList → s.heap.objs.size + 1 ≤ h₃.objs.size →
      wpAny (mo w) A (builtinsFor env.globals env.builtins) (fun bi s₄ =>
        ∃ I fp wr n₀ P St₀ pz F, Value.ref s.heap.objs.size = .ref I ∧ (∀ A' : Around, A'.handled = none → Walks pw w A' I fp wr n₀ P St₀) ∧ St₀ 0 s₄.heap ∧ (∀ b ∈ fp, b < s₄.heap.objs.size) ∧ s₄.heap.NoLimit ∧ cStatics ∉ wr ∧
          (∀ href : Heap, (∀ b o, s₄.heap.get? b = some o → href.get? b = some o) →
            QuietGen pw w (genEnv scope [] s₄.heap.objs.size code bi env) x [] elt (List.range s₄.heap.objs.size) wr P pz F href) ∧
          (∀ a h₅ tk gs, gs.bare = true → s₄.heap.objs.size < a → h₅.objs.size = a + 1 → (∀ b o, s₄.heap.get? b = some o → h₅.get? b = some o) →
            WalksS pw w A.in4 a (a :: s₄.heap.objs.size :: List.range s₄.heap.objs.size) (s₄.heap.objs.size :: wr) (GenOnlyQ s₄.gens.size) (passing pz n₀ 0).length
              (fun j y => ∃ i, (passing pz n₀ 0)[j]? = some i ∧ F i y) (GenAt pw w A.in4 a s₄.gens.size s₄.heap.objs.size (List.range s₄.heap.objs.size) wr pz n₀ F) →
            GenAt pw w A.in4 a s₄.gens.size s₄.heap.objs.size (List.range s₄.heap.objs.size) wr pz n₀ F 0 { s₄ with gens := s₄.gens.push gs, toks := tk, heap := h₅ } →
            (s.toks ≤ tk → wpAny (mo w) A (call (.builtin "str.join") [.str sep t, .ref a]) Q E { s₄ with gens := s₄.gens.push gs, toks := tk, heap := h₅ })))
        (fun e' s' => s.toks ≤ s'.toks → E e' s') { s with heap := h₃, toks := tk₃ } := fun code h₃ tk₃ more hx₃ eT₃ ht₃ hsz₃ => by
    have up : ∀ b o, b ≠ T → s.heap.get? b = some o → h₃.get? b = some o := fun b o hb q => hx₃ b o hb (Heap.get?_push_of_some _ q)
    have hg₃ : Heap.Ns h₃ mainGlobals mg := hm.at' fun o q => up _ o hgT q
    rw [hge0]
    refine wpAny_builtinsFor hg₃ hbm hne0 (up _ _ hneP hbo) hcls hdict hdata ?_
    have hIT : s.heap.objs.size ≠ T := fun q => Nat.lt_irrefl _ (q ▸ hTlt)
    have hiI : h₃.get? s.heap.objs.size = some { cls := .type "list_iterator", data := .fields #[.ref cA, .int 0 0] } := hx₃ _ _ hIT (Heap.get?_push_size _ rfl)
    have hl₃ : Heap.IsList h₃ cA (strValues l).toArray := ⟨_, up _ _ hcT hlive, rfl, nn, rfl⟩
    refine ⟨s.heap.objs.size, [s.heap.objs.size, cA], [s.heap.objs.size], (strValues l).toArray.size, _, _, fun _ => true, fun i y => ∃ p, l[i]? = some p ∧ ∃ u, y = Value.str (f p.1) u, rfl,
      (fun A' hA => Walks.list hA _ _ (Nat.ne_of_lt hclt) (strValues l).toArray), ⟨⟨_, hiI, rfl, rfl⟩, hl₃⟩, ?_, ?_, ?_, ?_, ?_⟩
    · intro b hb
      have hsz' : s.heap.objs.size + 1 ≤ h₃.objs.size := hsz₃
      show b < h₃.objs.size
      rcases List.mem_cons.mp hb with rfl | hb
      · exact Nat.lt_of_lt_of_le (Nat.lt_succ_self _) hsz'
      · rcases List.mem_cons.mp hb with rfl | hb
        · exact Nat.lt_trans hclt (Nat.lt_of_lt_of_le (Nat.lt_succ_self _) hsz')
        · cases hb
    · obtain ⟨mc, hn, hnn⟩ := hlim
      exact ⟨mc, hn.at' fun o q => up _ o hcsT q, hnn⟩
    · intro q
      rcases List.mem_cons.mp q with q | q
      · obtain ⟨_, hn, _⟩ := hlim
        exact Nat.lt_irrefl _ (q ▸ hn.lt)
      · cases q
    · intro href hhref
      refine ⟨fun A' E' i v s₂ m₂ _ hP hn hm _ => ?_, fun A' E' i v s₂ m₂ hA' hP _ hn hm _ => ?_⟩
      · exact wpAny_pure ⟨rfl, _, _, rfl, fun _ _ e => e⟩
      · have hlt : ∃ p, l[i]? = some p ∧ v = .str p.1 p.2 := by
          have h1 : (strValues l)[i]? = some v := by simpa using hP
          unfold strValues at h1
          rw [List.getElem?_map] at h1
          cases q : l[i]? with
          | none => rw [q] at h1; cases h1
          | some p => rw [q] at h1; exact ⟨p, rfl, (Option.some.inj h1).symm⟩
        obtain ⟨p, hp, rfl⟩ := hlt
        refine wpAny_mono (helt _ code _ A' E' p.1 p.2 s₂ m₂ hA' (List.mem_of_getElem? hp) hn hm) (fun y s₃ hy => ⟨⟨p, hp, hy.1⟩, hy.2⟩) fun _ _ e => e
    · intro a h₅ tk gs hgb hag hsz₅ hk₅ W hat htk
      have hpz : ∀ j, (passing (fun _ => true) (strValues l).toArray.size 0)[j]? = if j < l.length then some j else none := fun j => by
        have e0 : (passing (fun _ => true) (strValues l).toArray.size 0) = List.range l.length := by
          unfold passing; simp [strValues]
        rw [e0]
        by_cases q : j < l.length
        · rw [if_pos q]; simp [q]
        · rw [if_neg q]; simp; (first | lia | omega)
      have hpl : (passing (fun _ => true) (strValues l).toArray.size 0).length = l.length := by
        have e0 : (passing (fun _ => true) (strValues l).toArray.size 0) = List.range l.length := by
          unfold passing; simp [strValues]
        rw [e0, List.length_range]
      refine wpAny_with_toks (n := tk) (Nat.le_refl _) ?_
      refine SC.joinGen W.in4_2 (fun i s' st => st.1.typeIs) hat ?_ (List.mem_cons_self) (fun j v hv => ?_) (fun s' lt hmv hacc => ?_) ?_
      · intro b hb
        show b < h₅.objs.size
        rw [hsz₅]
        rcases List.mem_cons.mp hb with rfl | hb
        · exact Nat.lt_succ_self _
        · rcases List.mem_cons.mp hb with rfl | hb
          · exact Nat.lt_succ_of_lt hag
          · exact Nat.lt_succ_of_lt (Nat.lt_trans (List.mem_range.mp hb) hag)
      · obtain ⟨i, _, p, _, u, rfl⟩ := hv
        exact ⟨_, u, rfl⟩
      · have hlt : lt.map (·.1) = l.map fun p => f p.1 := by
          have hlen : lt.length = l.length := by have := hacc.1; rw [hpl] at this; simpa [strValues] using this
          apply List.ext_getElem?
          intro j
          by_cases hj : j < l.length
          · obtain ⟨i, hi, p, hp, u, hv⟩ := hacc.2 j (.str (lt[j]'(by (first | lia | omega))).1 (lt[j]'(by (first | lia | omega))).2) (by simp [strValues, List.getElem?_eq_getElem (show j < lt.length by (first | lia | omega))])
            rw [hpz j, if_pos hj] at hi
            cases hi
            rw [List.getElem?_map, List.getElem?_map, hp, List.getElem?_eq_getElem (by (first | lia | omega))]
            injection hv with h1 _
            simp [h1]
          · rw [List.getElem?_eq_none (by simp; (first | lia | omega)), List.getElem?_eq_none (by simp; (first | lia | omega))]
        rw [hlt]
        refine ⟨hok, fun t' k htk' => ?_⟩
        refine h t' _ (S.mv (mv_tab (more := more) S.tx (fun b o hb q => ?_) hT e ?_ ht₃ hmv.os (fun g => ?_) (Nat.le_trans htk htk')))
        · have hlt : b < s.heap.objs.size := Heap.lt_size q
          refine hmv.heap b o (fun hmem => ?_) (hk₅ b o (up b o hb q))
          rcases List.mem_cons.mp hmem with q' | hmem
          · have : b < h₃.objs.size := Heap.lt_size (up b o hb q)
            exact Nat.lt_irrefl _ (q' ▸ this)
          · rcases List.mem_cons.mp hmem with q' | hmem
            · exact Nat.lt_irrefl _ (q' ▸ hlt)
            · cases hmem
        · refine hmv.heap T _ (fun hmem => ?_) (hk₅ _ _ eT₃)
          rcases List.mem_cons.mp hmem with q' | hmem
          · have : T < h₃.objs.size := Heap.lt_size eT₃
            exact Nat.lt_irrefl _ (q' ▸ this)
          · rcases List.mem_cons.mp hmem with q' | hmem
            · exact Nat.lt_irrefl _ (q' ▸ hTlt)
            · cases hmem
        · exact (AllBare.push g hgb).moved hmv.gens
      · rw [hpl, sizeLine_eq]; (first | lia | omega)
  have C' := C.keeps (h' := s.heap.push { cls := .type "list_iterator", data := .fields #[.ref cA, .int 0 0] }) fun b o q => Heap.get?_push_of_some _ q
  have e1 := Heap.get?_push_of_some { cls := .type "list_iterator", data := .fields #[.ref cA, .int 0 0] } e
  cases hf : codeAmong gpos ps.toList with
  | none =>
    refine wpAny_genexprCodeX hcode (C'.code e1 ht) (C'.tab e1) hf fun c' h' tk hx hge hlt _ hrec htb _ => ?_
    refine key _ h' tk _ (fun b o hb q => hx b o hb q) htb.2 (by simpa using TriplesOk_snoc _ _ _ _ ht) ?_
    refine Nat.le_trans (Nat.le_of_eq (Heap.size_push ..).symm) (Nat.le_trans hge (Nat.le_of_lt hlt))
  | some cv =>
    refine wpAny_genexprCode_hit hcode (C'.code e1 ht) hf ?_
    exact key cv _ s.toks #[] (fun b o _ q => q) (by rw [Array.append_empty]; exact e1) (by rw [Array.append_empty]; exact ht) (by rw [Heap.size_push]; (first | lia | omega))
end
end Mine
namespace Mine

section
variable {w : World} {A : Around} {E : Value → Shared → Prop} {env : Env} {s₀ : Shared} {L : Addr} {P : PM} {m : Str → Option Value} {M : List (Addr × Obj)} {s : Shared}
/-- a changeable object has changed, and new objects have come -/
theorem At.exts (S : At s₀ P L m M s) {pre post : List (Addr × Obj)} {a : Addr} {o o' : Obj} {h' : Heap} (hM : M = pre ++ (a, o) :: post) (hs : Heap.ExtBut a s.heap h') (ho : h'.get? a = some o') :
    At s₀ P L m (pre ++ (a, o') :: post) { s with heap := h' } := by
  subst hM
  have hk : (pre ++ (a, o') :: post).map (·.1) = (pre ++ (a, o) :: post).map (·.1) := by simp
  have hin : a ∈ (pre ++ (a, o) :: post).map (·.1) := by simp
  have hL : L ≠ a := fun q => (List.nodup_cons.mp S.nd).1 (q ▸ hin)
  have hn := (List.nodup_cons.mp S.nd).2
  rw [List.map_append, List.map_cons] at hn
  have hpre : ∀ p ∈ pre, p.1 ≠ a := fun p hp q => by
    have := (List.nodup_append.mp hn).2.2 p.1 (List.mem_map_of_mem hp) a (.head _)
    exact this q
  have hpost : ∀ p ∈ post, p.1 ≠ a := fun p hp q => by
    have h1 : p.1 ∈ post.map (·.1) := List.mem_map_of_mem hp
    exact (List.nodup_cons.mp (List.nodup_append.mp hn).2.1).1 (q ▸ h1)
  have hP : ∀ x ob, P x = some ob → x ≠ a := fun x ob e q => by
    have := S.out a (.tail _ hin)
    rw [← q, e] at this; cases this
  have hT : ∀ x ∈ tabs3, x ≠ a := fun x hx q => (S.tb x hx).2 (.tail _ (q ▸ hin))
  exact { S with
    ns := S.ns.extBut hs hL
    keep := fun x ob e => hs _ _ (hP x ob e) (S.keep x ob e)
    live := fun p hp => by
      rcases List.mem_append.mp hp with hp | hp
      · exact hs _ _ (hpre p hp) (S.live p (List.mem_append_left _ hp))
      · rcases List.mem_cons.mp hp with rfl | hp
        · exact ho
        · exact hs _ _ (hpost p hp) (S.live p (List.mem_append_right _ (.tail _ hp)))
    out := hk ▸ S.out
    nd := hk ▸ S.nd
    tb := hk ▸ S.tb
    above := hk ▸ S.above
    grow := S.grow.trans (.of_keep fun x hx o e => hs x o (hT x hx) e)
    tx := fun x hx => let ⟨vs, e, z⟩ := S.tx x hx; ⟨vs, hs x _ (hT x hx) e, z⟩ }
/-- an object that stands is taken among the frozen -/
theorem At.take (S : At s₀ P L m M s) {a : Addr} {o : Obj} (ha : s.heap.get? a = some o) (hn : a ∉ L :: M.map (·.1)) (ht : a ∉ tabs3) : At s₀ (P.put a o) L m M s ∧ P.le (P.put a o) := by
  refine ⟨{ S with
    keep := fun x ob e => by
      unfold PM.put at e
      split at e
      · rename_i q; cases e; rw [q]; exact ha
      · exact S.keep x ob e
    out := fun x hx => by
      unfold PM.put
      rw [if_neg (by rintro rfl; exact hn hx)]; exact S.out x hx
    tb := fun x hx => ⟨by
      unfold PM.put
      rw [if_neg (by rintro rfl; exact ht hx)]; exact (S.tb x hx).1, (S.tb x hx).2⟩ }, fun x ob e => ?_⟩
  unfold PM.put
  split
  · rename_i q; subst q; rw [← ha]; exact (S.keep _ _ e)
  · exact e

/-- a lambda is made, for the first time, its table at hand -/
theorem r_lamT {T c : Addr} {ps : Array Value} {params : Arguments} {body : Expr} {scope : Scope} {pos : Pos} {clos : List (Str × Addr)} {pre post : List (Addr × Obj)} {Q : Value → Shared → Prop} (S : At s₀ P L m M s) (B : Base w P)
    (hM : M = pre ++ (T, PySem.W.X.tableObj ps) :: post) (ht : TriplesOk ps.toList) (hnf : codeAmong pos ps.toList = none) (hgT : mainGlobals ≠ T) (h4T : (4 : Addr) ≠ T) (C : CodeHd s.heap c T) (hcode : env.code = .ref c)
    (hdef : defaultsOf params env = ([], [])) (hcl : closureFor scope env = pure clos) (hge0 : env.globals = mainGlobals)
    (h : ∀ f c' ctv pm P' s' ps', P.le P' → P' f = some (kla_obj "<lambda>" (env.qual ++ "<lambda>") params body scope clos pm c' ctv) → (∃ oc vs t, P' c' = some oc ∧ oc.data = .fields vs ∧ vs[1]? = some (.str (env.qual ++ "<lambda>") t)) →
      At s₀ P' L m (pre ++ (T, PySem.W.X.tableObj ps') :: post) s' → Q (.ref f) s') : wpAny (mo w) A (eval (.Lambda params body scope pos) env) Q E s := by
  have hTM : (T, PySem.W.X.tableObj ps) ∈ M := by rw [hM]; simp
  have e := S.live _ hTM
  obtain ⟨mg, hm⟩ := In.glob (S.inK B)
  obtain ⟨o4, e4, h1, h2, h3⟩ := (S.ok B).bm
  have hb : s.heap.BuiltinsAt mg T := ⟨4, o4, mg_of (S.inK B) hm (by k_dflt rfl), by decide, by decide, h4T, e4, h1, h2, h3⟩
  refine kla_eval hdef (wpAny_with_toks (Nat.le_refl s.toks) ?_)
  refine kla_makeFunction hcl hge0 hm hcode C e ht hnf hgT hb fun c' ctv h' tk hx hge hlt hrec htb htk => ?_
  obtain ⟨c₂, oc, vs, t, e2, hoc, hd, hv⟩ := hrec
  cases e2
  have S1 := S.exts hM hx htb
  have S1 : At s₀ P L m _ { s with heap := h', toks := tk } := { S1 with tp := Nat.le_trans S1.tp htk }
  have hkeys : ∀ x ∈ L :: (pre ++ (T, PySem.W.X.tableObj (ps ++ #[rawInt pos.line, rawInt pos.col, .ref c'])) :: post).map (·.1), x < s.heap.objs.size := fun x hx => S.lt (by rw [hM]; simpa using hx)
  have htabs : ∀ x ∈ tabs3, x < s.heap.objs.size := fun x hx => S.ltT hx
  obtain ⟨S2, l2⟩ := S1.take (a := c') hoc (fun q => Nat.lt_irrefl _ (Nat.lt_of_lt_of_le (hkeys _ q) hge)) (fun q => Nat.lt_irrefl _ (Nat.lt_of_lt_of_le (htabs _ q) hge))
  obtain ⟨hn, S3⟩ := S2.pushP (kla_obj "<lambda>" (env.qual ++ "<lambda>") params body scope clos ((mg "__name__").getD .none) c' ctv)
  exact h _ c' ctv _ _ _ _ (l2.trans (PM.le_put hn)) (PM.put_self ..) ⟨oc, vs, t, PM.le_put hn _ _ (PM.put_self ..), hd, hv⟩ S3
end
end Mine
namespace Mine

theorem entry_osa : entryFor table "object.__setattr__" = some Builtin.«object.__setattr__» := entryFor_of_tree (by kernel_rfl)
theorem osa_kind : builtinKind "object.__setattr__" = some .slot := by decide +kernel
theorem osa_split : splitId "object.__setattr__" = some ("object", "__setattr__") := by decide +kernel
theorem osa_args (a b c : Value) : argsOk "object.__setattr__" ⟨[a, b, c], []⟩ := by unfold argsOk; kernel_rfl
theorem osa_passes (self : Value) : refuseLoop self "__setattr__" [.type "collections.defaultdict", .type "dict", .type "object"] = pure () := by kernel_rfl
structure Stop (p : Prop) : Prop where
  get : p
theorem lookIn_of {o : Obj} {es : Array DictEntry} {ep : Nat} {x : Str} {v : Option Value} (hd : o.data = .dict es ep) (hk : StrKeys es) (hf : nsFind es x = v) : lookIn x o = some v := by
  unfold lookIn
  rw [hd]
  dsimp only
  unfold nsFind at hf
  have hr : es.toList.any (·.refKey) = false := by
    rw [List.any_eq_false]
    intro e he
    obtain ⟨n, t, q⟩ := hk e (by simpa using he)
    unfold DictEntry.refKey
    rw [q]
    simp
  rw [hr, if_neg (by simp)]
  unfold findBy at hf
  rw [← Array.find?_toList] at hf
  rw [← hf]
  have e : (fun x_1 : DictEntry => x_1.key.isStr x) = (fun e => (fun n v => v.isStr n) x e.key) := rfl
  rw [e]
  cases List.find? (fun e : DictEntry => (fun n v => v.isStr n) x e.key) es.toList <;> rfl
section
variable {w : World} {A : Around} {E : Value → Shared → Prop} {env : Env} {s₀ : Shared} {L : Addr} {P : PM} {m : Str → Option Value} {M : List (Addr × Obj)} {s : Shared}
variable {h : Heap} {g : Array GenState} {d : Drawn} {t : Nat} {os : OsState}
set_option maxHeartbeats 1000000 in
theorem g_setfrozen {bk dA : Addr} {fac v : Value} {es : Array DictEntry} {ep : Nat} {Q : Unit → Shared → Prop} (b : BookL w h bk dA fac es ep) (hd : h.get? dA = some emptyDict)
    (hQ : ∀ h' t' dO, Heap.SameBut dA h h' → h'.get? dA = some dO → lookIn "_frozen" dO = some (some v) → (∀ x, x ≠ ("_frozen" : Str) → lookIn x dO = some none) → Q () ⟨h', g, d, t', os⟩) : wpAny (mo w) A (setAttr (.ref bk) "_frozen" v) Q E ⟨h, g, d, t, os⟩ := by
  have tb := b.ty
  have ho := b.ho
  have l1 : Looks (mo w) h (typeLookup (.ref 101) "__setattr__") (some (.builtin "object.__setattr__")) := looks_findIn b.X (by k_dflt rfl)
  have b1 : Looks (mo w) h (bindSpecial (.builtin "object.__setattr__") (.ref bk)) (.builtin "object.__setattr__", [.ref bk]) := Looks.of_pure (F.slot_object_setattr.bind _)
  unfold setAttr
  repeat (first | with_reducible refine wpAny_call ?_ | with_reducible refine wpAny_attempt ?_ | lk)
  have id2 : Looks (mo w) h (isInstance (.ref bk) (.type "object")) true := b.inst (by kernel_rfl)
  refine codeAny_call_builtin_at (Code.quiet_builtin _ (by decide +kernel)) entry_osa ?_
  refine check_slot (i := "object.__setattr__") (owner := "object") (n := "__setattr__") (self := .ref bk) (rest := [.str "_frozen" t, v]) (kw := []) osa_kind osa_split id2 (osa_args _ _ _) ?_
  obtain ⟨oc, od, sl, hc1, e1, e2, e3, e4⟩ := c101 w
  have hC := b.X _ _ hc1
  have hm : Looks (mo w) h (mroOf (.ref 101)) (cd101 w).mro := ((Looks.ld (part := none) hC).andThen .now).andThen .now
  rw [e3] at hm
  have l3 : Looks (mo w) h (typeLookup (.ref 101) "_frozen") none := looks_findIn b.X (by k_dflt rfl)
  have rf : Looks (mo w) h (Builtin.ObjectAttr.refuseIfOverridden (.ref bk) "__setattr__") () := by
    rw [refuse_eq]
    refine tb.andThen (hm.andThen ?_)
    rw [refuseLoop_ref, osa_passes]
    exact .now
  unfold Builtin.«object.__setattr__»
  have hns : h.Ns dA (fun _ => none) := ⟨_, #[], _, hd, rfl, fun e he => absurd he (by simp), fun _ => rfl⟩
  suffices hk : ∀ h' : Heap, h'.Ns1 dA (fun x => if x = "_frozen" then some v else none) → Heap.SameBut dA h h' → Q () ⟨h', g, d, t + 1 + 1, os⟩ by
    repeat (first | with_reducible refine wpAny_call ?_ | with_reducible refine wpAny_attempt ?_ | (with_reducible refine wpAny_nsSet1 (s := ⟨h, g, d, t + 1, os⟩) (Heap.Ns1.of_empty hns) (fun h' hn' hs => ?_); revert h' hn' hs; refine Stop.get ?_) | lk)
    refine ⟨fun h' hn' hs => ?_⟩
    obtain ⟨oD, esD, epD, hoD, hdD, hcD⟩ := hn'.count (Within.cons "_frozen" v Within.nil)
    refine wpAny_bind (wpAny_lookBehind hoD (by rw [hdD]; exact pastItsLine_dict (Nat.le_trans hcD (by rw [List.length_cons, List.length_nil, sizeLine_eq]; (first | lia | omega)))) ?_)
    refine wpAny_pure ?_
    refine wpAny_pure ?_
    refine wpAny_pure ?_
    exact hk h' hn' hs
  intro h' hn' hs
  have hn2 := hn'
  obtain ⟨o2, es2, ep2, q1, q2, q3, q4, q5⟩ := hn'
  exact hQ h' _ o2 hs q1 (lookIn_of q2 q3 ((q5 _).trans (if_pos rfl))) fun x hx => lookIn_of q2 q3 ((q5 _).trans (if_neg hx))
end
end Mine
namespace Mine

section
variable {w : World} {A : Around} {E : Value → Shared → Prop} {env : Env} {s₀ : Shared} {L : Addr} {P : PM} {m : Str → Option Value} {M : List (Addr × Obj)} {s : Shared}
variable {h : Heap} {g : Array GenState} {d : Drawn} {t : Nat} {os : OsState}
set_option maxHeartbeats 1000000 in
/-- book.freeze, to be called -/
theorem g_frz {bk dA : Addr} {fac : Value} {es : Array DictEntry} {ep : Nat} {pl : Sem Bool} {Q : Value × List Value → Shared → Prop} (b : BookL w h bk dA fac es ep) (hd : h.get? dA = some emptyDict)
    (hQ : Q (.ref 98, [.ref bk]) ⟨h, g, d, t, os⟩) : wpAny (mo w) A (getMethod (.ref bk) "freeze" pl) Q E ⟨h, g, d, t, os⟩ := by
  have tb := b.ty
  have ho := b.ho
  have l1 : Looks (mo w) h (typeLookup (.ref 101) "__getattribute__") (some (.builtin "collections.defaultdict.__getattribute__")) := looks_findIn b.X (by k_dflt rfl)
  have l2 : Looks (mo w) h (typeLookup (.ref 101) "__getattr__") none := looks_findIn b.X (by k_dflt rfl)
  have l3 : Looks (mo w) h (typeLookup (.ref 101) "freeze") (some (.ref 98)) := looks_findIn b.X (by k_dflt rfl)
  have l4 : Looks (mo w) h (typeOf (.ref 98)) (.type "function") := looks_typeIn b.X (by k_dflt rfl)
  have hns : Looks (mo w) h (nsGet dA "freeze") none := fun A Q E s k q => wpAny_bind (wpAny_loadPart (k _ _ hd) (by rw [nsLook_of (r := none) (by kernel_rfl)]; exact wpAny_pure q))
  unfold getMethod
  repeat (first | with_reducible refine wpAny_call ?_ | with_reducible refine wpAny_attempt ?_ | lk)
  exact hQ

theorem c_freeze {f cB bk dA : Addr} {es : Array DictEntry} {ep : Nat} {m1 m2 m3 : List (Addr × Obj)} {R : Result → Shared → Prop} (S : At s₀ P L m M s) (B : Base w P) (K : BookM w P M f cB bk dA es ep) (hd : A.depth < recursionLimit)
    (hM : M = m1 ++ (dA, emptyDict) :: (m2 ++ (93, PySem.W.X.tableObj #[]) :: m3))
    (hQ : ∀ P' ff cS oS dO ps s', P.le P' → At s₀ P' L m ((cS, oS) :: (m1 ++ (dA, dO) :: (m2 ++ (93, PySem.W.X.tableObj ps) :: m3))) s' →
      (∀ N, (cS, oS) ∈ N → (dA, dO) ∈ N → FrozenM P' N bk dA ff) → lookIn "items" dO = some none → R (.ok (.ret .none)) s') : codeAny (mo w) A (.call (.ref 98) ⟨[.ref bk], []⟩) R s := by
  obtain ⟨o98, d98, sl98, h98⟩ : IsDef w 98 := ⟨_, _, _, rfl⟩
  have X := S.inK B
  obtain ⟨body, hbody⟩ : ∃ body, (fdOf w 98).body = .stmts body := ⟨_, rfl⟩
  refine codeAny_call_function (fd := fdOf w 98) hd (X _ _ h98) rfl (by kernel_rfl) (by kernel_rfl) hbody (codeRec_of X (by kernel_rfl)) ?_
  have hbind : bindArgs (fdOf w 98) ⟨[.ref bk], []⟩ = pure [(("self" : Str), Value.ref bk)] := by kernel_rfl
  have hclo : (fdOf w 98).closure = [] := rfl
  have hnm : (fdOf w 98).scope.names = [(("self" : Str), NameKind.cell)] := rfl
  rw [hbind, hclo]
  refine wpAny_pure ?_
  simp only [newFunctionEnv, Option.isSome_none, Bool.false_eq_true, if_false, hnm, List.forIn_cons, List.forIn_nil]
  have hns : (s.heap.push { cls := .type "frame", data := .dict #[] }).Ns s.heap.objs.size (fun _ => none) := Heap.Ns.new s.heap (.type "frame")
  obtain ⟨oL, nL, S1⟩ := S.frame (h' := s.heap.push { cls := .type "frame", data := .dict #[] }) (fun b o e => Heap.get?_push_of_some _ e) hns
  refine wpAny_bind (wpAny_alloc ?_)
  have S2 := S1.push (cellO none)
  have e1 : ({ s with heap := s.heap.push { cls := .type "frame", data := .dict #[] } } : Shared).heap.objs.size = s.heap.objs.size + 1 := Heap.size_push ..
  rw [e1] at S2
  rw [if_pos (by rfl)]
  refine wpAny_bind (wpAny_bind (wpAny_bind (wpAny_alloc (wpAny_pure ?_))))
  rw [e1]
  refine wpAny_pure ?_
  refine wpAny_bind (wpAny_bind (wpAny_bind (r_storeC (pre := []) S2 rfl (by k_dflt rfl) rfl (fun oS s3 hoS S3 => ?_) (by kernel_rfl) (by kernel_rfl))))
  refine wpAny_pure (wpAny_pure (wpAny_pure ⟨In.nolimit (S3.inK B), ?_⟩))
  show codeAny _ _ (.func body (envC w 98 s.heap.objs.size)) _ _
  refine codeAny_func (lift ?_)
  generalize s.heap.objs.size = L' at S3 ⊢
  cases hbody
  refine wpAny_execs_cons (plainObj_wpAny_Assign_Attribute ?_ (by kernel_rfl))
  refine r_lamT (T := 93) (c := 97) (pre := (L' + 1, oS) :: (L, oL) :: (m1 ++ (dA, emptyDict) :: m2)) (post := m3) (clos := [("self", L' + 1)]) (ps := #[]) S3 B (by rw [hM]; simp) trivial (by kernel_rfl) (by decide) (by decide) (codeHd_of_K (S3.inK B) (by kernel_rfl)) (by k_dflt rfl) (by k_dflt rfl) (by k_dflt rfl) (by kernel_rfl) fun ff c' ctv pm P1 s4 ps l1 hff hoc S4 => ?_
  have B4 := B.mono l1
  refine r_cell S4 ?_ (by k_dflt rfl) hoS (.head _) (by kernel_rfl)
  have hbm : (bk, bookO dA (.ref f) es ep) ∈ (L' + 1, oS) :: (L, oL) :: (m1 ++ (dA, emptyDict) :: m2) ++ (93, PySem.W.X.tableObj ps) :: m3 := by
    have := K.inM
    rw [hM] at this
    simp only [List.mem_append, List.mem_cons, Prod.mk.injEq, List.cons_append, List.append_assoc] at this ⊢
    rcases this with h | ⟨_, h⟩ | h | ⟨_, h⟩ | h
    · exact .inr (.inr (.inl h))
    · cases h
    · exact .inr (.inr (.inr (.inr (.inl h))))
    · cases h
    · exact .inr (.inr (.inr (.inr (.inr (.inr h)))))
  have hdm : (dA, emptyDict) ∈ (L' + 1, oS) :: (L, oL) :: (m1 ++ (dA, emptyDict) :: m2) ++ (93, PySem.W.X.tableObj ps) :: m3 := by simp
  have ho4 := S4.live _ hbm
  have hd4 := S4.live _ hdm
  have X4 := S4.inK B4
  have S5 := S4
  obtain ⟨h, g, d, t, os⟩ := s4
  refine wpAny_with_toks (n := t) (Nat.le_refl _) ?_
  refine g_setfrozen (BookL.of X4 ho4) hd4 fun h' t' dO hsb hdO hlk hoth ht' => ?_
  refine wpAny_execs_nil ?_
  have S6 := S5.upd (pre := (L' + 1, oS) :: (L, oL) :: m1) (o := emptyDict) (post := m2 ++ (93, PySem.W.X.tableObj ps) :: m3) (by simp) hsb hdO
  have S6 : At s₀ P1 L' (fun _ => none) _ ⟨h', g, d, t', os⟩ := { S6 with tp := Nat.le_trans S6.tp ht' }
  have S7 := At.leave (pre := [(L' + 1, oS)]) (post := m1 ++ (dA, dO) :: (m2 ++ (93, PySem.W.X.tableObj ps) :: m3)) S6 nL
  refine hQ P1 ff (L' + 1) oS dO ps _ l1 S7 (fun N hN1 hN2 => ⟨?_, dO, hN2, hlk⟩) (hoth _ (by decide))
  obtain ⟨oc, vs, tt, q1, q2, q3⟩ := hoc
  exact ⟨_, _, L' + 1, oS, hff, rfl, { data := rfl, body := ⟨_, _, _, rfl, by kernel_rfl⟩, par := fun v => by kernel_rfl, cell := by kernel_rfl, co := rfl, gen := rfl, kind := rfl, key := by kernel_rfl, self := by kernel_rfl, clo := by kernel_rfl, glo := rfl, bui := rfl }, ⟨_, oc, vs, tt, rfl, q1, q2, q3⟩, hN1, hoS⟩
/-- book.freeze() -/
theorem r_freeze {p1 p2 p3 : Pos} {f cB bk dA : Addr} {es : Array DictEntry} {ep : Nat} {m1 m2 m3 : List (Addr × Obj)} {Q : Value → Shared → Prop} (S : At s₀ P L m M s) (B : Base w P) (K : BookM w P M f cB bk dA es ep) (hd : A.depth < recursionLimit)
    (hM : M = m1 ++ (dA, emptyDict) :: (m2 ++ (93, PySem.W.X.tableObj #[]) :: m3)) (hc : env.cells.lookup ("book" : Str) = some cB)
    (hQ : ∀ P' ff cS oS dO ps s', P.le P' → At s₀ P' L m ((cS, oS) :: (m1 ++ (dA, dO) :: (m2 ++ (93, PySem.W.X.tableObj ps) :: m3))) s' →
      (∀ N, (cS, oS) ∈ N → (dA, dO) ∈ N → FrozenM P' N bk dA ff) → lookIn "items" dO = some none → Q .none s')
    (hk : env.scope.kind = .function := by kernel_rfl) (hx : env.kindOf "book" = some .cell := by kernel_rfl) (hline : (p2.endLine == p3.line) = true := by kernel_rfl) :
    wpAny (mo w) A (eval (.Call (.Attribute (.Name "book" p1) "freeze" p2) [] [] p3) env) Q E s := by
  obtain ⟨oB, hcB, hoB⟩ := K.cell
  rw [arm_eval_Call]
  refine wpAny_bind (m := attributeBase _ _ _ _) (show wpAny _ _ (eval (.Name "book" p1) env) _ _ _ from ?_)
  refine r_cell0 S ?_ hc hoB hcB hk hx (by kernel_rfl)
  refine wpAny_bind (wpAny_standAt ?_)
  unfold methodCall
  refine wpAny_bind (wpAny_holding ?_)
  show wpAny _ _ (getMethod (.ref bk) "freeze" _) _ _ _
  have X1 := S.inK B
  have ho1 := S.live (bk, bookO dA (.ref f) es ep) K.inM
  have hd1 := S.live (dA, emptyDict) (by rw [hM]; simp)
  have S2 := S
  obtain ⟨h, g, d, t, os⟩ := s
  refine g_frz (BookL.of X1 ho1) hd1 ?_
  show wpAny _ _ (methodCallPos true _ _ p2 p3 >>= _) _ _ _
  unfold methodCallPos
  rw [if_pos (by rw [hline]; rfl)]
  refine wpAny_bind (wpAny_pure ?_)
  show wpAny _ _ (callWith p3 (.ref 98) [.ref bk] [] []) _ _ _
  obtain ⟨o98, d98, sl98, h98⟩ : IsDef w 98 := ⟨_, _, _, rfl⟩
  refine callWith_function (fd := fdOf w 98) (evalArgs_nil3 ⟨⟨X1 _ _ h98, rfl⟩, ?_⟩)
  exact wpAny_call (c_freeze S2 B K hd hM fun P' ff cS oS dO ps s' l S' Z hi => hQ P' ff cS oS dO ps s' l S' Z hi)
end
end Mine
namespace Mine

/-- law's statements -/
noncomputable def lawB (w : World) : List Stmt := match (fdOf w 132).body with | .stmts b => b | _ => []
section
variable {w : World} {A : Around} {E : Value → Shared → Prop} {env : Env} {s₀ : Shared} {L : Addr} {P : PM} {m : Str → Option Value} {M : List (Addr × Obj)} {s : Shared}
theorem new_ne {a x : Addr} (S : At s₀ P L m M s) (B : Base w P) (hx : x ∈ L :: M.map (·.1)) (ha : ∃ o, (KK w).lookup a = some o) : x ≠ a := fun q => by
  obtain ⟨o, e⟩ := ha
  have := S.out x hx
  rw [q, B.K _ _ e] at this
  cases this
/-- book = FreezableDefaultDict(lambda: len(book)) -/
theorem law4 {st : Stmt} {rest : List Stmt} {oB : Obj} {v₀ : Option Value} {m1 m2 : List (Addr × Obj)} {Q : Flow → Shared → Prop} (hst : (lawB w)[4]? = some st) (S : At s₀ P L m M s) (B : Base w P) (hd : A.depth < recursionLimit)
    (hM : M = (L + 4, oB) :: (m1 ++ (129, PySem.W.X.tableObj #[]) :: m2)) (hoB : oB.data = .cell v₀)
    (hQ : ∀ P' f bk dA oB' ps s', P.le P' → At s₀ P' L m ((bk, bookO dA (.ref f) #[] 0) :: (dA, emptyDict) :: (L + 4, oB') :: (m1 ++ (129, PySem.W.X.tableObj ps) :: m2)) s' → oB'.data = .cell (some (.ref bk)) →
      BookM w P' ((bk, bookO dA (.ref f) #[] 0) :: (dA, emptyDict) :: (L + 4, oB') :: (m1 ++ (129, PySem.W.X.tableObj ps) :: m2)) f (L + 4) bk dA #[] 0 → (Value.ref bk == Value.ref 101) = false →
      wpAny (mo w) A (execs rest (envC w 132 L)) Q E s') :
    wpAny (mo w) A (execs (st :: rest) (envC w 132 L)) Q E s := by
  cases hst
  refine x_assignC S (c := L + 4) ?_ (by k_dflt rfl) (by kernel_rfl) (by kernel_rfl)
  refine c_def S B (a := 101) ?_ (by kernel_rfl) (by kernel_rfl) (by kernel_rfl) (by k_dflt rfl) (by k_dflt rfl)
  refine spliced_more ?_ (by k_dflt rfl)
  refine r_lamT (T := 129) (c := 131) (pre := (L + 4, oB) :: m1) (post := m2) (clos := [("book", L + 4)]) (ps := #[]) S B (by rw [hM]; rfl) trivial (by kernel_rfl) (by decide) (by decide) (codeHd_of_K (S.inK B) (by kernel_rfl)) (by k_dflt rfl) (by k_dflt rfl) (by k_dflt rfl) (by kernel_rfl) fun f c' ctv pm P1 s1 ps l1 hff hoc S1 => ?_
  have B1 := B.mono l1
  refine spliced_none ⟨⟨_, _, _, S1, B1⟩, ?_⟩
  have X1 := S1.inK B1
  have hf := S1.keep _ _ hff
  refine wpAny_call ?_
  have S2 := S1.push emptyDict
  have S3 := S2.push { cls := .ref 101, dict := some s1.heap.objs.size, data := .dict #[] }
  obtain ⟨h, g, d, t, os⟩ := s1
  refine book_new X1 ⟨_, hf, rfl⟩ fun h' hsb hb => ?_
  have S4 := S3.upd (pre := []) (o' := bookO h.objs.size (.ref f) #[] 0) rfl hsb hb
  have ne101 := new_ne S4 B1 (a := 101) (x := (h.push emptyDict).objs.size) (by simp) (let ⟨oc, od, sl, e, _⟩ := c101 w; ⟨_, e⟩)
  have hlt : 101 < h.objs.size := let ⟨oc, od, sl, e, _⟩ := c101 w; Heap.lt_size (X1 _ _ e)
  have nesys : (h.push emptyDict).objs.size ≠ sysModules := fun q => by
    rw [show (h.push emptyDict).objs.size = h.objs.size + 1 from Heap.size_push .., show sysModules = 1 from rfl] at q
    (first | lia | omega)
  generalize (h.push emptyDict).objs.size = bk at S4 ne101 nesys ⊢
  generalize h.objs.size = dA at S4 ⊢
  refine ⟨P1, m, [(bk, bookO dA (.ref f) #[] 0), (dA, emptyDict)], m1 ++ (129, PySem.W.X.tableObj ps) :: m2, oB, v₀, S4, hoB, fun oB' s' hoB' S5 => ?_⟩
  obtain ⟨oc, vs, tt, q1, q2, q3⟩ := hoc
  refine hQ P1 f bk dA oB' ps s' l1 S5 hoB' ⟨?_, ⟨oB', by simp, hoB'⟩, by simp, beq_false_of_ne nesys, by decide⟩ ?_
  · exact ⟨_, _, hff, { data := rfl, body := ⟨_, _, _, rfl⟩, par := by kernel_rfl, cell := by kernel_rfl, co := rfl, gen := rfl, kind := rfl, len := by kernel_rfl, book := by kernel_rfl, clo := by kernel_rfl, glo := rfl, bui := rfl }, _, oc, vs, tt, rfl, q1, q2, q3⟩
  · refine beq_false_of_ne fun q => ne101 ?_
    injection q
end
end Mine
namespace Mine

section
variable {w : World} {A : Around} {E : Value → Shared → Prop} {env : Env} {s₀ : Shared} {L : Addr} {P : PM} {m : Str → Option Value} {M : List (Addr × Obj)} {s : Shared}
theorem r_cat {va vb : Value} {xs ys : List PyData} {Q : Value → Shared → Prop} (S : At s₀ P L m M s) (ha : Rd (nw s₀ P) va (.list xs)) (hb : Rd (nw s₀ P) vb (.list ys)) (hsz : xs.length + ys.length ≤ 1000)
    (h : ∀ v P' s', P.le P' → Rd (nw s₀ P') v (.list (xs ++ ys)) → At s₀ P' L m M s' → Q v s') : wpAny (mo w) A (binaryOp .Add va vb) Q E s := by
  cases ha with
  | @list a vs n _ e r =>
    cases hb with
    | @list b ws n' _ e' r' =>
      refine PySem.P.add_list (S.keep _ _ (nw_le _ _ e)) (S.keep _ _ (nw_le _ _ e')) ?_ ?_
      · obtain ⟨hn, T⟩ := S.pushP (listOf (vs ++ ws) 0)
        have hle := PM.le_put (o := listOf (vs ++ ws) 0) hn
        refine h _ _ _ hle (.list (vs := vs ++ ws) (n := 0) (nw_of (PM.put_self ..) ?_) ?_) T
        · cases e : s₀.heap.get? s.heap.objs.size with
          | none => rfl
          | some o => exact absurd (Nat.lt_of_lt_of_le (Heap.lt_size e) S.size) (Nat.lt_irrefl _)
        · rw [Array.toList_append]
          exact (r.mono (nw_mono hle)).append (r'.mono (nw_mono hle))
      · have h1 := r.length; have h2 := r'.length
        rw [Array.length_toList] at h1 h2
        rw [sizeLine_eq]; (first | lia | omega)
end

noncomputable abbrev S' (x : String) : PyData := .str (Str.ofString x)
noncomputable abbrev pr (x y : String) : PyData := .list [S' x, S' y]
noncomputable def g1 : List PyData := [pr "*" "*", pr "***" "*"]
noncomputable def g2 : List PyData := [pr "?" ".", pr "[!b-a]" ".", pr "[b-a]" "(?!)", pr "[d-cb-a]" "(?!)"]
noncomputable def g3 : List PyData := [pr "[ab]" "[ab]", pr "[d-cab]" "[ab]", pr "[a-c]" "[a-c]", pr "[a-cd-c]" "[a-c]"]
noncomputable def g4 : List PyData := [pr "[!a]" "[^a]", pr "[d-c!a]" "[^a]"]
noncomputable def g5 : List PyData := [pr "[^]" "[\\^]", pr "[b-a^]" "[\\^]", pr "[-]" "[\\-]", pr "[b-a-]" "[\\-]"]
noncomputable def g6 : List PyData := [pr "a" "a", pr "." "\\.", pr "]" "\\]", pr "!" "!"]
noncomputable def dressD : List PyData := g1 ++ g2 ++ g3 ++ g4 ++ g5 ++ g6

set_option hygiene false in
local macro_rules | `(tactic| walk_at "asg") => `(tactic| with_reducible refine x_assign (by assumption) ?_)

set_option maxHeartbeats 100000 in
theorem dresses_spec {w : World} {A : Around} {s : Shared} (O : Ok w s) (hd : A.depth < recursionLimit) :
    wpAny (mo w) A (call (.ref 112) []) (fun v s' => Mv [] s s' ∧ Rd (newOf s s') v (.list dressD)) NoE s := by
  refine wpAny_call (enter [] O hd ⟨_, _, _, rfl⟩ (by kernel_rfl) rfl (by kernel_rfl) (by kernel_rfl) rfl rfl rfl rfl fun L s₁ S B => absQ fun KR kR => ?_)
  walk_at "asg"
  with_reducible refine ev_lit (n := 4) (d := .list g1) (by kernel_rfl) _ _ _ S fun v1 P1 s' l1 r1 S => ⟨_, _, _, S, fun s' S => ?_⟩
  walk_at "asg"
  with_reducible refine ev_lit (n := 4) (d := .list g2) (by kernel_rfl) _ _ _ S fun v2 P2 s' l2 r2 S => ⟨_, _, _, S, fun s' S => ?_⟩
  walk_at "asg"
  with_reducible refine ev_lit (n := 4) (d := .list g3) (by kernel_rfl) _ _ _ S fun v3 P3 s' l3 r3 S => ⟨_, _, _, S, fun s' S => ?_⟩
  walk_at "asg"
  with_reducible refine ev_lit (n := 4) (d := .list g4) (by kernel_rfl) _ _ _ S fun v4 P4 s' l4 r4 S => ⟨_, _, _, S, fun s' S => ?_⟩
  walk_at "asg"
  with_reducible refine ev_lit (n := 4) (d := .list g5) (by kernel_rfl) _ _ _ S fun v5 P5 s' l5 r5 S => ⟨_, _, _, S, fun s' S => ?_⟩
  walk_at "asg"
  with_reducible refine ev_lit (n := 4) (d := .list g6) (by kernel_rfl) _ _ _ S fun v6 P6 s' l6 r6 S => ⟨_, _, _, S, fun s' S => ?_⟩
  with_reducible refine x_return ?_
  have r1 := r1.mono (nw_mono (l2.trans (l3.trans (l4.trans (l5.trans l6)))))
  have r2 := r2.mono (nw_mono (l3.trans (l4.trans (l5.trans l6))))
  have r3 := r3.mono (nw_mono (l4.trans (l5.trans l6)))
  have r4 := r4.mono (nw_mono (l5.trans l6))
  have r5 := r5.mono (nw_mono l6)
  have lP := l1.trans (l2.trans (l3.trans (l4.trans (l5.trans l6))))
  with_reducible refine wpAny_BinOp (wpAny_BinOp (wpAny_BinOp (wpAny_BinOp (wpAny_BinOp ?_))))
  refine r_local S (r_local S (r_cat S r1 r2 (by decide) fun v P7 s8 l7 r S => ?_))
  refine r_local S (r_cat S r (r3.mono (nw_mono l7)) (by decide) fun v P8 s9 l8 r S => ?_)
  refine r_local S (r_cat S r (r4.mono (nw_mono (l7.trans l8))) (by decide) fun v P9 sa l9 r S => ?_)
  refine r_local S (r_cat S r (r5.mono (nw_mono (l7.trans (l8.trans l9)))) (by decide) fun v Pa sb la r S => ?_)
  refine r_local S (r_cat S r (r6.mono (nw_mono (l7.trans (l8.trans (l9.trans la))))) (by decide) fun v Pb sc lb r S => ?_)
  exact kR _ _ ⟨S.mvOut (lP.trans (l7.trans (l8.trans (l9.trans (la.trans lb))))), r.mono (nw_newOf S)⟩
end Mine
namespace Mine

noncomputable def digs (y : Int) : List Int := [y.fmod 21, (y.fdiv 21).fmod 21, (y.fdiv 441).fmod 21, (y.fdiv 9261).fmod 21]
noncomputable def rowD (ds : List Int) : List PyData := ds.filterMap fun d => if 0 < d then dressD[(d - 1).toNat]? else none
theorem digs_lt {y d : Int} (h : d ∈ digs y) : 0 ≤ d ∧ d < 21 := by
  have key : ∀ x : Int, 0 ≤ x.fmod 21 ∧ x.fmod 21 < 21 := fun x => by
    rw [Int.fmod_eq_emod_of_nonneg x (by decide)]
    (first | lia | omega)
  simp only [digs, List.mem_cons, List.not_mem_nil, or_false] at h
  rcases h with rfl | rfl | rfl | rfl <;> exact key _


theorem rowD_take {ds : List Int} {k : Nat} {d : Int} (h : ds[k]? = some d) : rowD (ds.take (k + 1)) = rowD (ds.take k) ++ (if 0 < d then (dressD[(d - 1).toNat]?).toList else []) := by
  unfold rowD
  rw [List.take_add_one, h, List.filterMap_append]
  congr 1
  rw [Option.toList_some, List.filterMap_cons, List.filterMap_nil]
  by_cases q : 0 < d
  · rw [if_pos q, if_pos q]
    cases dressD[(d - 1).toNat]? <;> rfl
  · rw [if_neg q, if_neg q]
set_option maxHeartbeats 400000 in
theorem row_spec {w : World} {A : Around} {s : Shared} {y : Int} {t : Tok} (O : Ok w s) (hd : A.depth + 1 < recursionLimit) (hh : A.handled = none) (hy : 0 ≤ y ∧ y < 194481) :
    wpAny (mo w) A (call (.ref 117) [.int y t]) (fun v s' => Mv [] s s' ∧ Rd (newOf s s') v (.list (rowD (digs y)))) NoE s := by
  refine wpAny_call (enterC [("y", .int y t)] O (by (first | lia | omega)) ⟨_, _, _, rfl⟩ (by kernel_rfl) rfl (by kernel_rfl) rfl (fun L => by kernel_rfl) rfl rfl rfl fun L s₁ S B => absQ fun KR kR => ?_)
  have hA : (A.deeper (envC w 117 L)).handled = none := hh
  have hA2 : (A.deeper (envC w 117 L)).depth < recursionLimit := hd
  replace S : At s (allOf s.heap) L (updm (fun _ => none) "y" (.int y t)) [(L + 1, cellO none)] s₁ := S
  with_reducible refine x_assignC S (c := L + 1) ?_
  with_reducible refine c_def0 (a := 112) S B ?_ (by k_dflt rfl) (by kernel_rfl)
  with_reducible refine r_call S (dresses_spec (S.ok B) hA2) fun v P1 s2 l1 n1 S v1 r1 => ?_
  have r1 := r1.mono (newOf_nw (.refl _) ‹At s (allOf s.heap) L _ _ s₁› n1)
  refine ⟨_, _, [], _, _, _, S, rfl, fun o' s3 ho S => ?_⟩
  with_reducible refine x_return ?_
  with_reducible refine ev_comp S [("dresses", L + 1)] (by kernel_rfl) (by kernel_rfl) (by kernel_rfl) (by k_dflt rfl) (by intro x; k_dflt rfl) ?_
  with_reducible refine r_listv S ?_
  with_reducible refine spliced_more ?_ ?_
  rotate_left
  · rfl
  walk_at "ev"
  with_reducible refine o_mod S (by decide) fun ta s' S => ?_
  with_reducible refine spliced_more ?_ ?_
  rotate_left
  · rfl
  walk_at "ev"
  with_reducible refine o_div S (by decide) (PyProof.noPylong_small (by (first | lia | omega))) fun _ s' S => ?_
  walk_at "ev"
  with_reducible refine o_mod S (by decide) fun tb s' S => ?_
  with_reducible refine spliced_more ?_ ?_
  rotate_left
  · rfl
  walk_at "ev"
  with_reducible refine o_div S (by decide) (PyProof.noPylong_small (by (first | lia | omega))) fun _ s' S => ?_
  walk_at "ev"
  with_reducible refine o_mod S (by decide) fun tc s' S => ?_
  with_reducible refine spliced_more ?_ ?_
  rotate_left
  · rfl
  walk_at "ev"
  with_reducible refine o_div S (by decide) (PyProof.noPylong_small (by (first | lia | omega))) fun _ s' S => ?_
  walk_at "ev"
  with_reducible refine o_mod S (by decide) fun td s' S => ?_
  with_reducible refine spliced_none ?_
  refine ⟨by show 4 ≤ 1000; decide, _, _, _, S, fun l P2 s' l2 hl hn S => ?_⟩
  cases r1 with | @list da dvs dn _ de dr => ?_
  refine ⟨P2, _, _, 4, _, _, fun k acc P' M' => M' = [] ++ [(L + 1, o')] ∧ Rds (nw s P') acc (rowD ((digs y).take k)), S, Its.list hA hl, LetIt.plain (fun _ _ => rfl), by decide, ⟨rfl, .nil⟩, fun C => ?_, fun D P' M' acc j s' hle hJ S => ?_⟩
  · intro k v acc P' M' X mc s' K N hk hv hle hJ S kK kN
    obtain ⟨rfl, hJ⟩ := hJ
    have hv' : ∃ d t, v = .int d t ∧ (digs y)[k]? = some d := by
      rcases k with _ | _ | _ | _ | k
      · exact ⟨_, _, (Option.some.inj hv).symm, rfl⟩
      · exact ⟨_, _, (Option.some.inj hv).symm, rfl⟩
      · exact ⟨_, _, (Option.some.inj hv).symm, rfl⟩
      · exact ⟨_, _, (Option.some.inj hv).symm, rfl⟩
      · (first | lia | omega)
    obtain ⟨d, td, rfl, hd'⟩ := hv'
    have hdl := digs_lt (List.mem_of_getElem? hd')
    refine wpAny_assign_Name (r_store S (fun s' S => ?_) rfl)
    refine wpAny_tests_one (wpAny_isTrue_Compare1 ?_)
    walk_at "ev"
    refine PyProof.Rows.gt_int (wpAny_truthy_bool ?_)
    have htk := rowD_take hd'
    by_cases q : 0 < d
    · rw [if_pos (decide_eq_true q)]
      have hdr : ∃ x, dressD[(d - 1).toNat]? = some x := by
        refine ⟨_, List.getElem?_eq_getElem ?_⟩
        have : dressD.length = 20 := rfl
        (first | lia | omega)
      obtain ⟨x, hx⟩ := hdr
      obtain ⟨vx, hvx, rx⟩ := dr.get hx
      rw [if_pos q, hx] at htk
      with_reducible refine Subscript_ (r_cell S ?_ (by k_dflt rfl) ho (List.mem_append_right _ (List.mem_cons_self ..)) (by kernel_rfl))
      walk_at "ev"
      refine o_item (S.keep _ _ (hle _ _ (l2 _ _ (nw_le _ _ de)))) (by (first | lia | omega)) (by simpa using hvx) ?_ ?_
      · have := dr.length
        rw [Array.length_toList] at this
        rw [this]; decide
      refine kK _ _ ⟨P', _, _, .refl _, ⟨rfl, ?_⟩, S⟩
      rw [htk]
      exact hJ.append (.cons (rx.mono (nw_mono (l2.trans hle))) .nil)
    · rw [if_neg (by simpa using q)]
      rw [if_neg q, List.append_nil] at htk
      exact kN _ ⟨P', _, _, .refl _, ⟨rfl, htk ▸ hJ⟩, S⟩
  · obtain ⟨rfl, hJ⟩ := hJ
    have T := S.freeze (pre := []) rfl
    have hle' : P'.le (PM.put P' D (listOf acc.toArray j)) := PM.le_put (S.out D (by simp))
    refine kR _ _ ⟨T.mvOut (l1.trans (l2.trans (hle.trans hle'))), ?_⟩
    refine Rd.mono (nw_newOf T) (.list (vs := acc.toArray) (n := j) (nw_of (PM.put_self ..) ?_) ?_)
    · cases e : s.heap.get? D with
      | none => rfl
      | some o => exact absurd (Nat.lt_of_lt_of_le (Heap.lt_size e) (S.above D (by simp))) (Nat.lt_irrefl _)
    · exact hJ.mono (nw_mono hle')
end Mine
namespace Mine

set_option hygiene false in
local macro_rules | `(tactic| walk_at "ev") => `(tactic| repeat (first | walk_at "rl" | walk_at "rc" | walk_at "e1"))

noncomputable abbrev pairD (p : Str × Str) : PyData := .list [.str p.1, .str p.2]
noncomputable abbrev rowsD (r : List (Str × Str)) : PyData := .list (r.map pairD)

noncomputable def keepAt (ps : List Str) (k : Nat) : Bool := k == 0 || (ps[k]? != some ("*" : Str) || ps[k - 1]? != some ("*" : Str))
noncomputable def dedupTo (ps : List Str) (k : Nat) : List Str := (List.range k).filterMap fun k => if keepAt ps k then ps[k]? else none
noncomputable def dedup (ps : List Str) : List Str := dedupTo ps ps.length

theorem Rd.str_inv {P : PM} {v : Value} {x : Str} (h : Rd P v (.str x)) : ∃ t, v = .str x t := by cases h; exact ⟨_, rfl⟩
theorem Rd.list_inv {P : PM} {v : Value} {ds : List PyData} (h : Rd P v (.list ds)) : ∃ a vs n, v = .ref a ∧ P a = some (listOf vs n) ∧ Rds P vs.toList ds := by cases h with | list e r => exact ⟨_, _, _, rfl, e, r⟩
theorem Rds.size {P : PM} {vs : Array Value} {ds : List PyData} (h : Rds P vs.toList ds) : vs.size = ds.length := by rw [← h.length, Array.length_toList]
theorem Rds.getA {P : PM} {vs : Array Value} {ds : List PyData} (h : Rds P vs.toList ds) {i : Nat} {d : PyData} (e : ds[i]? = some d) : ∃ v, vs[i]? = some v ∧ Rd P v d := by
  obtain ⟨v, hv, r⟩ := h.get e
  exact ⟨v, by simpa using hv, r⟩
theorem Rd.pair_inv {P : PM} {v : Value} {x y : Str} (h : Rd P v (pairD (x, y))) : ∃ a n t u, v = .ref a ∧ P a = some (listOf #[.str x t, .str y u] n) := by
  obtain ⟨a, vs, n, rfl, e, r⟩ := h.list_inv
  obtain ⟨l⟩ := vs
  cases r with | cons r1 r2 => cases r2 with | cons r2 r3 => cases r3; cases r1; cases r2; exact ⟨a, n, _, _, rfl, e⟩

set_option maxHeartbeats 400000 in
theorem parts_spec {w : World} {A : Around} {s : Shared} {v : Value} {rows : List (Str × Str)} (O : Ok w s) (hd : A.depth + 1 < recursionLimit) (hh : A.handled = none) (rv : Rd (allOf s.heap) v (rowsD rows)) (hn : rows.length ≤ 1000) :
    wpAny (mo w) A (call (.ref 122) [v]) (fun v s' => Mv [] s s' ∧ Rd (newOf s s') v (strsD (dedup (rows.map (·.2))))) NoE s := by
  refine wpAny_call (enterC [("row", v)] O (by (first | lia | omega)) ⟨_, _, _, rfl⟩ (by kernel_rfl) rfl (by kernel_rfl) rfl (fun L => by kernel_rfl) rfl rfl rfl fun L s₁ S B => absQ fun KR kR => ?_)
  have hA : (A.deeper (envC w 122 L)).handled = none := hh
  have hA2 : (A.deeper (envC w 122 L)).depth < recursionLimit := hd
  replace S : At s (allOf s.heap) L (updm (fun _ => none) "row" v) [(L + 1, cellO none)] s₁ := S
  with_reducible refine x_assignC S (c := L + 1) ?_
  with_reducible refine ev_comp S [] (by kernel_rfl) (by kernel_rfl) (by kernel_rfl) (by k_dflt rfl) (by intro x; k_dflt rfl) ?_
  walk_at "ev"
  obtain ⟨a, vs, n, rfl, e, r⟩ := rv.list_inv
  have hsz := r.size
  rw [List.length_map] at hsz
  refine ⟨_, _, _, vs.size, _, _, fun k acc P' M' => M' = [(L + 1, cellO none)] ∧ Rds (nw s P') acc (((rows.take k).map (·.2)).map .str), S, Its.list hA e, LetIt.list (.inr ⟨_, _, _, rfl⟩), by rw [sizeLine_eq]; (first | lia | omega), ⟨rfl, .nil⟩, fun C => ?_, fun D P' M' acc j s' hle hJ S => ?_⟩
  · intro k v acc P' M' X mc s' K N hk hv hle hJ S kK kN
    obtain ⟨rfl, hJ⟩ := hJ
    have hkl : k < rows.length := by (first | lia | omega)
    have hr : rows[k]? = some (rows[k]) := List.getElem?_eq_getElem hkl
    obtain ⟨v', hv', rv'⟩ := r.getA (i := k) (d := pairD rows[k]) (by rw [List.getElem?_map, hr]; rfl)
    have : v' = v := by rw [hv'] at hv; exact Option.some.inj hv
    subst this
    obtain ⟨a', n', t, u, rfl, e'⟩ := rv'.pair_inv
    have e2 := hle _ _ e'
    with_reducible refine r_pair S hA e2 (fun s' S => ?_) (by k_dflt rfl)
    refine wpAny_assignInOrder_more (wpAny_assign_Name (r_store S (fun s' S => ?_) rfl))
    refine wpAny_assignInOrder_more (wpAny_assign_Name (r_store S (fun s' S => ?_) rfl))
    refine wpAny_assignInOrder_none (wpAny_tests_nil ?_)
    rw [if_pos rfl]
    walk_at "ev"
    refine kK _ _ ⟨P', _, _, .refl _, ⟨rfl, ?_⟩, S⟩
    rw [List.take_add_one, hr, List.map_append, List.map_append]
    exact hJ.append (.cons (.str ..) .nil)
  · obtain ⟨rfl, hJ⟩ := hJ
    refine ⟨P', _, [(D, listOf acc.toArray j)], [], _, _, S, rfl, fun o' s' ho S => ?_⟩
    have S0 := S
    have S := S.freeze (pre := []) rfl
    have l1 : P'.le (PM.put P' D (listOf acc.toArray j)) := PM.le_put (S0.out D (by simp))
    have eD := PM.put_self P' D (listOf acc.toArray j)
    generalize hP2 : PM.put P' D (listOf acc.toArray j) = P2 at S l1 eD
    have hJ := hJ.mono (nw_mono l1)
    have B := B.mono (hle.trans l1)
    have hps : ((rows.take vs.size).map (·.2)) = rows.map (·.2) := by rw [hsz, List.take_length]
    rw [hps] at hJ
    generalize hqs : rows.map (·.2) = ps at hJ kR
    have hlen : acc.length = ps.length := by have := hJ.length; simpa using this
    have hpl : ps.length ≤ 1000 := by rw [← hqs]; simpa using hn
    have hget : ∀ k (h : k < ps.length), ∃ t, acc.toArray[k]? = some (.str ps[k] t) := fun k h => by
      obtain ⟨v, hv, r⟩ := hJ.get (i := k) (d := .str ps[k]) (by rw [List.getElem?_map, List.getElem?_eq_getElem h]; rfl)
      obtain ⟨t, rfl⟩ := r.str_inv
      exact ⟨t, by simpa using hv⟩
    with_reducible refine x_return ?_
    with_reducible refine ev_comp S [("parts", L + 1)] (by kernel_rfl) (by kernel_rfl) (by kernel_rfl) (by k_dflt rfl) (by intro x; k_dflt rfl) ?_
    with_reducible refine c_type S B ?_ (he := by k_dflt rfl) (hplain := by k_dflt rfl)
    with_reducible refine spliced_more (c_built S B ?_ (he := by k_dflt rfl) (hplain := by k_dflt rfl)) (by k_dflt rfl)
    with_reducible refine spliced_more (r_cell S ?_ (by k_dflt rfl) ho (List.mem_append_right _ (List.mem_cons_self ..)) (by kernel_rfl)) (by k_dflt rfl)
    with_reducible refine spliced_none ?_
    refine o_len S (S.keep _ _ eD) (by simp; (first | lia | omega)) fun t s' S => ?_
    with_reducible refine spliced_none ?_
    refine o_range1 S hA (by simp; (first | lia | omega)) fun rg P3 s' l3 S W => ?_
    have hn2 : ((acc.toArray.size : Nat) : Int).toNat = ps.length := by simp [hlen]
    rw [hn2] at W
    refine ⟨P3, _, _, ps.length, _, _, fun k acc P' M' => M' = [] ++ [(L + 1, o')] ∧ Rds (nw s P') acc ((dedupTo ps k).map .str), S, W, LetIt.plain (fun _ _ => rfl), by rw [sizeLine_eq]; (first | lia | omega), ⟨rfl, .nil⟩, fun C => ?_, fun D2 P' M' acc2 j2 s' hle2 hJ2 S => ?_⟩
    · intro k v acc2 P' M' X mc s' K N hk hv hle2 hJ2 S kK kN
      obtain ⟨rfl, hJ2⟩ := hJ2
      obtain ⟨tk, rfl⟩ := hv
      have hkl : k < ps.length := hk
      have hps : ps[k]? = some ps[k] := List.getElem?_eq_getElem hkl
      obtain ⟨t1, h1⟩ := hget k hkl
      have e1 := hle2 _ _ (l3 _ _ eD)
      have hsz1 : acc.toArray.size ≤ 16777216 := by simp; (first | lia | omega)
      refine wpAny_assign_Name (r_store S (fun s' S => ?_) rfl)
      have hd1 : dedupTo ps (k + 1) = dedupTo ps k ++ (if keepAt ps k then [ps[k]] else []) := by
        unfold dedupTo
        rw [List.range_succ, List.filterMap_append, List.filterMap_cons, List.filterMap_nil, hps]
        cases keepAt ps k <;> rfl
      refine wpAny_tests_one (wpAny_mono (Q := fun b s' => b = keepAt ps k ∧ At s P' C (updm mc "k" (.int (0 + k * 1) tk)) (X ++ ([] ++ [(L + 1, o')])) s') ?_ (fun b s' ⟨hb, S⟩ => ?_) fun _ _ x => x)
      · refine wpAny_isTrue_BoolOp (wpAny_allTrue_Or_cons (wpAny_isTrue_Compare1 ?_))
        walk_at "ev"
        refine PyProof.Rows.eq_int (wpAny_truthy_bool ?_)
        by_cases q0 : k = 0
        · subst q0
          exact ⟨rfl, S⟩
        · rw [if_neg (by simp; (first | lia | omega))]
          refine wpAny_allTrue_Or_cons (wpAny_isTrue_Compare1 ?_)
          walk_at "ev"
          refine o_item (S.keep _ _ e1) (by (first | lia | omega)) (k := 0 + (k : Int) * 1) (x := .str ps[k] t1) (by simpa using h1) hsz1 ?_
          walk_at "ev"
          refine PyProof.Rows.ne_str (wpAny_truthy_bool ?_)
          by_cases q1 : ps[k] = ("*" : Str)
          · rw [if_neg (by simp [q1])]
            refine wpAny_allTrue_Or_cons (wpAny_isTrue_Compare1 ?_)
            walk_at "ev"
            obtain ⟨t2, h2⟩ := hget (k - 1) (by (first | lia | omega))
            have hk1 : (0 + (k : Int) * 1 - 1).toNat = k - 1 := by (first | lia | omega)
            refine o_item (S.keep _ _ e1) (by (first | lia | omega)) (x := .str (ps[k - 1]'(by (first | lia | omega))) t2) (by rw [hk1]; exact h2) hsz1 ?_
            walk_at "ev"
            refine PyProof.Rows.ne_str (wpAny_truthy_bool ?_)
            have hps1 : ps[k - 1]? = some (ps[k - 1]'(by (first | lia | omega))) := List.getElem?_eq_getElem _
            by_cases q2 : (ps[k - 1]'(by (first | lia | omega))) = ("*" : Str)
            · rw [if_neg (by simp [q2])]
              refine wpAny_allTrue_Or_nil ⟨?_, S⟩
              unfold keepAt
              rw [hps, hps1, q1, q2]
              simp [q0]
            · rw [if_pos (by simpa using q2)]
              refine ⟨?_, S⟩
              unfold keepAt
              rw [hps1]
              simp [q2]
          · rw [if_pos (by simpa using q1)]
            refine ⟨?_, S⟩
            unfold keepAt
            rw [hps]
            simp [q1]
      · subst hb
        cases hb : keepAt ps k
        · rw [if_neg (by simp)]
          rw [hb] at hd1
          refine kN _ ⟨P', _, _, .refl _, ⟨rfl, ?_⟩, S⟩
          rw [hd1]; simpa using hJ2
        · rw [if_pos rfl]
          walk_at "ev"
          refine o_item (S.keep _ _ e1) (by (first | lia | omega)) (k := 0 + (k : Int) * 1) (x := .str ps[k] t1) (by simpa using h1) hsz1 ?_
          rw [hb] at hd1
          refine kK _ _ ⟨P', _, _, .refl _, ⟨rfl, ?_⟩, S⟩
          rw [hd1, if_pos rfl, List.map_append]
          exact hJ2.append (.cons (.str ..) .nil)
    · obtain ⟨rfl, hJ2⟩ := hJ2
      exact kR _ _ (S.fin (hle.trans (l1.trans (l3.trans hle2))) (pre := []) rfl hJ2)
end Mine
namespace Mine

set_option hygiene false in
local macro_rules | `(tactic| walk_at "ev") => `(tactic| repeat (first | walk_at "rl" | walk_at "rc" | walk_at "e1"))

noncomputable abbrev heldS (r : Str) : Str := "(?>.*?" ++ r ++ ")"
noncomputable def runsS (ps : List Str) : List Str := Txt.split (Txt.join "" ps) "*"
noncomputable def frameS (runs : List Str) : Str := "(?s:" ++ runs.getD 0 "" ++ Txt.join "" (((runs.drop 1).take (runs.length - 2)).map heldS) ++ (if 1 < runs.length then ".*" ++ runs.getD (runs.length - 1) "" else "") ++ ")\\Z"
noncomputable def joinedS (ps : List Str) : Str := frameS (runsS ps)

noncomputable def wt (ps : List Str) : Nat := (ps.map (·.length)).sum
theorem len_app (a b : Str) : (a ++ b).length = a.length + b.length := Str.length_append a b
theorem joinE_len : ∀ ps : List Str, (Txt.join "" ps).length = wt ps
  | [] => rfl
  | p :: r => by
    have e : Txt.join "" (p :: r) = p ++ Txt.join "" r := by
      show Builtin.Str.glued _ _ = _ ++ Builtin.Str.glued _ _
      rw [StrLaws.glued_eq_join, StrLaws.glued_eq_join]
      exact PyProof.Rows.join_nil_cons p r
    rw [e, len_app, joinE_len r]; rfl

theorem wt_cons (p : Str) (r : List Str) : wt (p :: r) = p.length + wt r := by unfold wt; simp
theorem wt_app (a b : List Str) : wt (a ++ b) = wt a + wt b := by unfold wt; simp
theorem wt_mem {p : Str} : ∀ {ps : List Str}, p ∈ ps → p.length ≤ wt ps
  | q :: r, h => by
    rw [wt_cons]
    rcases List.mem_cons.mp h with rfl | h
    · (first | lia | omega)
    · have := wt_mem h; (first | lia | omega)
theorem wt_held : ∀ l : List Str, wt (l.map heldS) = wt l + 7 * l.length
  | [] => rfl
  | p :: r => by
    have h6 : Str.length "(?>.*?" = 6 := rfl
    have h1 : Str.length ")" = 1 := rfl
    rw [List.map_cons, wt_cons, wt_cons, wt_held r, len_app, len_app, h6, h1, List.length_cons]
    (first | lia | omega)
theorem wt_take (k : Nat) (l : List Str) : wt (l.take k) ≤ wt l := by
  have h := congrArg wt (List.take_append_drop k l)
  rw [wt_app] at h; (first | lia | omega)
theorem wt_drop (k : Nat) (l : List Str) : wt (l.drop k) ≤ wt l := by
  have h := congrArg wt (List.take_append_drop k l)
  rw [wt_app] at h; (first | lia | omega)

set_option maxHeartbeats 400000 in
theorem joined_spec {w : World} {A : Around} {s : Shared} {v : Value} {ps : List Str} (O : Ok w s) (hd : A.depth + 1 < recursionLimit) (hh : A.handled = none) (rv : Rd (allOf s.heap) v (strsD ps)) (hn : ps.length ≤ 100) (hw : wt ps ≤ 10000) :
    wpAny (mo w) A (call (.ref 127) [v]) (fun v s' => Mv [] s s' ∧ ∃ t, v = .str (joinedS ps) t) NoE s := by
  refine wpAny_call (enter [("parts", v)] O (by (first | lia | omega)) ⟨_, _, _, rfl⟩ (by kernel_rfl) rfl (by kernel_rfl) (by kernel_rfl) (by kernel_rfl) rfl rfl rfl fun L s₁ S B => absQ fun KR kR => ?_)
  have hA : (A.deeper (envF w 127 L)).handled = none := hh
  obtain ⟨a, vs, n, rfl, e, r⟩ := rv.list_inv
  have S0 := S
  have hjl := joinE_len ps
  have hsl := split_le (Txt.join "" ps) "*"
  have hsp := split_pos (Txt.join "" ps) "*"
  have hsw := split_weight (Txt.join "" ps) "*" (by decide)
  have hpb : (Builtin.Str.partsBetween (Txt.join "" ps) (Builtin.Str.occurrences (Txt.join "" ps) "*" 0 (Txt.join "" ps).length ((Txt.join "" ps).length + 1)) (Str.length "*")).length ≤ 16777216 := by
    rw [len_partsBetween]
    have := StrLaws.occ_length_le (Txt.join "" ps) "*" 0 (Txt.join "" ps).length ((Txt.join "" ps).length + 1)
    (first | lia | omega)
  with_reducible refine x_assign S ?_
  with_reducible refine PySem.Call_method1 (by k_dflt rfl) (by k_dflt rfl) (by k_dflt rfl) ?_
  with_reducible refine PySem.Call_method1 (by k_dflt rfl) (by k_dflt rfl) (by k_dflt rfl) ?_
  walk_at "ev"
  refine onStr1 F.slot_str_join F.type_str_join ?_
  walk_at "ev"
  refine o_join S (S.keep _ _ e) r (joinOk_of (by show wt ps + _ ≤ _; have : Str.length "" = 0 := rfl; rw [show (Str.ofString "").length = 0 from rfl]; (first | lia | omega))) fun t s' S => ?_
  refine onStr1 F.slot_str_split F.type_str_split ?_
  walk_at "ev"
  refine o_split S rfl (by (first | lia | omega)) hpb fun D rs P1 s' l1 S eD hD rr => ?_
  refine ⟨_, _, _, S, fun s' S => ?_⟩
  have hrs := rr.size
  rw [List.length_map] at hrs
  have hRle : (Txt.split (Txt.join "" ps) "*").length ≤ 10002 := by (first | lia | omega)
  have hRw : ((Txt.split (Txt.join "" ps) "*").map (·.length)).sum ≤ 10001 := by (first | lia | omega)
  have hjs : joinedS ps = frameS (Txt.split (Txt.join "" ps) "*") := rfl
  generalize hR : Txt.split (Txt.join "" ps) "*" = R at rr hsp hrs hRle hRw ⊢
  have hget : ∀ k (h : k < R.length), ∃ t, rs[k]? = some (.str R[k] t) := fun k h => by
    obtain ⟨v, hv, r⟩ := rr.getA (i := k) (d := .str R[k]) (by rw [List.getElem?_map, List.getElem?_eq_getElem h]; rfl)
    obtain ⟨t, rfl⟩ := r.str_inv
    exact ⟨t, hv⟩
  with_reducible refine x_assign S ?_
  with_reducible refine PySem.Call_method1 (by k_dflt rfl) (by k_dflt rfl) (by k_dflt rfl) ?_
  walk_at "ev"
  refine onStr1 F.slot_str_join F.type_str_join ?_
  with_reducible refine ev_comp S [] (by kernel_rfl) (by kernel_rfl) (by kernel_rfl) (by k_dflt rfl) (by intro x; k_dflt rfl) ?_
  with_reducible refine r_sliceL S ?_ (by intro o r; k_dflt rfl)
  walk_at "ev"
  with_reducible refine PySem.wpAny_evalPart_some ?_
  walk_at "ev"
  with_reducible refine PySem.wpAny_evalPart_some ?_
  with_reducible refine wpAny_UnaryOp ?_
  walk_at "ev"
  refine o_neg S fun t s' S => ?_
  refine ⟨D, rs, 0, _, _, _, _, _, rfl, S, S.keep _ _ eD, by (first | lia | omega), .int _ _, .int _ _, fun D2 P2 s' l2 S eD2 hD2 => ?_⟩
  have hrs1 : 1 ≤ rs.size := by (first | lia | omega)
  rw [slicePick_mid rs hrs1] at eD2
  have rm := (rr.drop 1).take (rs.size - 2)
  rw [← List.map_drop, ← List.map_take, hrs] at rm
  rw [hrs] at eD2
  generalize hmid : (rs.toList.drop 1).take (R.length - 2) = mv at eD2 rm
  have hml := rm.length
  have hRm : ∀ y ∈ (R.drop 1).take (R.length - 2), y.length ≤ 10001 := fun y hy => by
    have h1 := wt_mem (List.mem_of_mem_drop (List.mem_of_mem_take hy))
    unfold wt at h1
    (first | lia | omega)
  have hRmw : wt ((R.drop 1).take (R.length - 2)) ≤ 10001 := Nat.le_trans (wt_take ..) (Nat.le_trans (wt_drop ..) hRw)
  have hRml : ((R.drop 1).take (R.length - 2)).length ≤ 10002 := by rw [List.length_take, List.length_drop]; (first | lia | omega)
  have hfr : frameS R = "(?s:" ++ R.getD 0 "" ++ Txt.join "" (((R.drop 1).take (R.length - 2)).map heldS) ++ (if 1 < R.length then ".*" ++ R.getD (R.length - 1) "" else "") ++ ")\\Z" := rfl
  generalize hRmid : (R.drop 1).take (R.length - 2) = Rm at rm hml hRm hRml hRmw
  rw [List.length_map] at hml
  refine ⟨P2, _, _, mv.toArray.size, _, _, fun k acc P' M' => M' = [] ∧ Rds (nw s P') acc (((Rm.take k).map heldS).map .str), S, Its.list hA eD2, LetIt.plain (fun _ _ => rfl), by rw [sizeLine_eq]; simp; (first | lia | omega), ⟨rfl, .nil⟩, fun C => ?_, fun D3 P' M' acc j s' hle hJ S => ?_⟩
  · intro k v acc P' M' X mc s' K N hk hv hle hJ S kK kN
    obtain ⟨rfl, hJ⟩ := hJ
    have hkl : k < Rm.length := by simp at hk; (first | lia | omega)
    have hr : Rm[k]? = some Rm[k] := List.getElem?_eq_getElem hkl
    obtain ⟨v', hv', rv'⟩ := rm.get (i := k) (d := .str Rm[k]) (by rw [List.getElem?_map, hr]; rfl)
    obtain ⟨t', rfl⟩ := rv'.str_inv
    have : Value.str Rm[k] t' = v := by
      have h2 : mv.toArray[k]? = mv[k]? := by simp
      rw [h2, hv'] at hv; exact Option.some.inj hv
    subst this
    have hl1 := hRm _ (List.getElem_mem hkl)
    refine wpAny_assign_Name (r_store S (fun s' S => ?_) rfl)
    refine wpAny_tests_nil ?_
    rw [if_pos rfl]
    walk_at "ev"
    refine o_cat S (by have : Str.length "(?>.*?" = 6 := rfl; rw [this]; (first | lia | omega)) fun t s' S => ?_
    walk_at "ev"
    refine o_cat S (by have h6 : Str.length "(?>.*?" = 6 := rfl; have h1 : Str.length ")" = 1 := rfl; rw [len_app, h6, h1]; (first | lia | omega)) fun t s' S => ?_
    refine kK _ _ ⟨P', _, _, .refl _, ⟨rfl, ?_⟩, S⟩
    rw [List.take_add_one, hr, List.map_append, List.map_append]
    exact hJ.append (.cons (.str ..) .nil)
  · obtain ⟨rfl, hJ⟩ := hJ
    have S0 := S
    have S := S.freeze (pre := []) rfl
    have l3 : P'.le (PM.put P' D3 (listOf acc.toArray j)) := PM.le_put (S0.out D3 (by simp))
    have eD3 := PM.put_self P' D3 (listOf acc.toArray j)
    generalize hP3 : PM.put P' D3 (listOf acc.toArray j) = P3 at S l3 eD3
    have hmv : mv.toArray.size = Rm.length := by simp [hml]
    rw [hmv, List.take_length] at hJ
    have hwh := wt_held Rm
    have hjh := joinE_len (Rm.map heldS)
    have e0 : Str.length (Str.ofString "") = 0 := rfl
    refine o_join S (S.keep _ _ eD3) (ps := Rm.map heldS) hJ (joinOk_of (by show wt _ + _ ≤ _; rw [e0]; (first | lia | omega))) fun th s' S => ?_
    refine ⟨_, _, _, S, fun s' S => ?_⟩
    generalize hH : Txt.join "" (Rm.map heldS) = H at hjh S
    have eD' := l3 _ _ (hle _ _ (l2 _ _ eD))
    obtain ⟨t0, h0⟩ := hget 0 (by (first | lia | omega))
    obtain ⟨t1, h1⟩ := hget (R.length - 1) (by (first | lia | omega))
    have w0 := wt_mem (List.getElem_mem (show 0 < R.length by (first | lia | omega)))
    have w1 := wt_mem (List.getElem_mem (show R.length - 1 < R.length by (first | lia | omega)))
    have hRw' : wt R ≤ 10001 := hRw
    have hH1 : H.length ≤ 90000 := by (first | lia | omega)
    with_reducible refine x_return ?_
    walk_at "ev"
    refine o_item (S.keep _ _ eD') (by (first | lia | omega)) h0 (by (first | lia | omega)) ?_
    refine o_cat S (by rw [show Str.length (Str.ofString "(?s:") = 4 from rfl]; (first | lia | omega)) fun ta s' S => ?_
    walk_at "ev"
    refine o_cat S (by rw [len_app, show Str.length (Str.ofString "(?s:") = 4 from rfl]; (first | lia | omega)) fun tb s' S => ?_
    have g0 : R.getD 0 "" = R[0] := by simp [List.getD_eq_getElem?_getD, List.getElem?_eq_getElem (show 0 < R.length by (first | lia | omega))]
    have g1 : R.getD (R.length - 1) "" = R[R.length - 1] := by simp [List.getD_eq_getElem?_getD, List.getElem?_eq_getElem (show R.length - 1 < R.length by (first | lia | omega))]
    have B1 := B.mono (l1.trans (l2.trans (hle.trans l3)))
    have h2 : Str.length (Str.ofString ".*") = 2 := rfl
    have h4 : Str.length (Str.ofString "(?s:") = 4 := rfl
    have h3 : Str.length (Str.ofString ")\\Z") = 3 := rfl
    have hX : Str.length (Str.ofString "(?s:" ++ R[0] ++ H) ≤ 110000 := by rw [len_app, len_app, h4]; (first | lia | omega)
    have lP := l1.trans (l2.trans (hle.trans l3))
    generalize hXe : Str.ofString "(?s:" ++ R[0] ++ H = X at hX ⊢
    refine wpAny_mono (Q := fun v s' => ∃ t, v = .str (if 1 < R.length then ".*" ++ R[R.length - 1] else "") t ∧ ∃ m' M', At s P3 L m' M' s') ?_ (fun v s' ⟨t, hv, _, _, S⟩ => ?_) fun _ _ x => x
    · refine wpAny_IfExp (wpAny_isTrue_Compare1 ?_)
      with_reducible refine c_built S B1 ?_ (he := by k_dflt rfl) (hplain := by k_dflt rfl)
      with_reducible refine spliced_more ?_ (by k_dflt rfl)
      walk_at "ev"
      with_reducible refine spliced_none ?_
      refine o_len S (S.keep _ _ eD') (by (first | lia | omega)) fun t s' S => ?_
      walk_at "ev"
      refine PyProof.Rows.gt_int (wpAny_truthy_bool ?_)
      by_cases q : 1 < R.length
      · rw [if_pos (decide_eq_true (by (first | lia | omega))), if_pos q]
        walk_at "ev"
        with_reducible refine wpAny_UnaryOp ?_
        walk_at "ev"
        refine o_neg S fun t s' S => ?_
        refine o_itemN (S.keep _ _ eD') (by (first | lia | omega)) (by (first | lia | omega)) (x := .str R[R.length - 1] t1) ?_ (by (first | lia | omega)) ?_
        · have : (-1 + (rs.size : Int)).toNat = R.length - 1 := by (first | lia | omega)
          rw [this]; exact h1
        · exact o_cat S (by rw [h2]; (first | lia | omega)) fun t s' S => ⟨_, rfl, _, _, S⟩
      · rw [if_neg (by simp; (first | lia | omega)), if_neg q]
        walk_at "ev"
        exact ⟨_, rfl, _, _, S⟩
    · subst hv
      have hY : Str.length (if 1 < R.length then Str.ofString ".*" ++ R[R.length - 1] else Str.ofString "") ≤ 11000 := by
        split
        · rw [len_app, h2]; (first | lia | omega)
        · rw [e0]; (first | lia | omega)
      refine o_cat S (by (first | lia | omega)) fun t s' S => ?_
      walk_at "ev"
      refine o_cat S (by rw [len_app, h3]; (first | lia | omega)) fun t s' S => ?_
      exact kR _ _ ⟨S.mvOut lP, _, by rw [hjs, hR, hfr, hRmid, hH, g0, g1, hXe]⟩
end Mine
namespace Mine

section
variable {w : World} {A : Around} {E : Value → Shared → Prop} {env : Env} {s₀ : Shared} {L : Addr} {P : PM} {m : Str → Option Value} {M : List (Addr × Obj)} {s : Shared}
/-- what a comprehension runs through is at hand, its list to be stored -/
inductive CompOkL (w : World) (A : Around) (s₀ : Shared) (L : Addr) (target elt : Expr) (ifs : List Expr) (scope : Scope) (cl : List (Str × Addr)) (env : Env) (rest : List Stmt) (y : Str) (Q : Flow → Shared → Prop) (E : Value → Shared → Prop) (x : Value) (s₁ : Shared) : Prop
  | mk (P₁ : PM) (m₁ : Str → Option Value) (M₁ : List (Addr × Obj)) (n : Nat) (V : Nat → Value → Prop) (It : Nat → Obj → Prop) (J : Nat → List Value → PM → List (Addr × Obj) → Prop) (S : At s₀ P₁ L m₁ M₁ s₁) (W : Its w A s₀ P₁ x n V It) (hlet : LetIt w A target It) (hsz : n ≤ sizeLine) (hJ : J 0 [] P₁ M₁)
    (turn : ∀ C, Turn w A s₀ target elt ifs (compEnvC scope cl C env) P₁ n V J) (fin : ∀ D P' M' acc j s', P₁.le P' → J n acc P' M' → At s₀ P' L (updm m₁ y (.ref D)) ((D, listOf acc.toArray j) :: M') s' → wpAny (mo w) A (execs rest env) Q E s')
/-- a comprehension that is stored in a local -/
theorem x_compL {elt target iter : Expr} {ifs : List Expr} {scope : Scope} {pos : Pos} {y : Str} {py apos : Pos} {rest : List Stmt} {Q : Flow → Shared → Prop} (_S : At s₀ P L m M s) (cl : List (Str × Addr))
    (hcell : (scope.names.all fun x => x.2 != .cell) = true) (hk : scope.kind = .function) (hnames : (scope.names.all fun x => x.2 != .local || scope.names.lookup x.1 == some .local) = true)
    (hclos : closureFor scope env = pure cl) (hs : ∀ x, foldedSetIterable iter env x = pure x)
    (hsw : swapsWith (.ListComp elt [⟨target, iter, ifs, 0⟩] scope pos) (some (.Name y py)) apos.line env = pure true)
    (hL : env.locals = L) (hke : env.scope.kind = .function) (hy : env.kindOf y = some .local)
    (h : wpAny (mo w) A (eval iter env) (fun x s₁ => CompOkL w A s₀ L target elt ifs scope cl env rest y Q E x s₁) E s) :
    wpAny (mo w) A (execs (.Assign [.Name y py] (.ListComp elt [⟨target, iter, ifs, 0⟩] scope pos) apos :: rest) env) Q E s := by
  refine wpAny_execs_cons ?_
  rw [exec_Assign_Name_used _ _ _ _ hsw]
  refine wpAny_bind (wpAny_standAt (wpAny_bind ?_))
  show wpAny _ A (do let _ ← comprehension (.ListComp elt [⟨target, iter, ifs, 0⟩] scope pos) scope env _ (newList []) false (eval iter env) (some (assign (.Name y py) env))) _ _ s
  refine wpAny_bind (wpAny_mono (wpAny_comprehension_free (Q := fun _ s' => wpAny (mo w) A (execs rest env) Q E s') (g := ⟨target, iter, ifs, 0⟩) (gs := []) rfl hs hclos hk (fun x hx hl => ?_) (wpAny_mono h (fun x s₁ h₁ => ?_) fun _ _ x => x))
    (fun _ s' hq => wpAny_pure (wpAny_pure hq)) fun _ _ e => e)
  · have := List.all_eq_true.mp hnames x hx
    rw [hl] at this
    simpa using this
  · obtain ⟨P₁, m₁, M₁, n, V, It, J, S, W, hlet, hsz, hJ, turn, fin⟩ := h₁
    refine comp_run (RR := fun acc C => compPost (mo w) A E (some (assign (.Name y py) env)) (fun _ s' => wpAny (mo w) A (execs rest env) Q E s') acc C) J S hcell hk hsz hlet W hJ turn fun C D oL P' M' mc acc j s' hle hJ' nL S' => ?_
    obtain ⟨oC, nC, S''⟩ := S'.swap (pre := [(D, listOf acc.toArray j)]) rfl nL
    have S₃ := S''.perm (List.Perm.swap (C, oC) (D, listOf acc.toArray j) M')
    refine wpAny_assign_Name (r_store0 S₃ (fun s₂ S₄ => ?_) hL hke hy)
    refine ⟨mc, ns_iff.mpr ⟨oC, S₄.live (C, oC) (by simp), nC⟩, fun h' hs' => ?_⟩
    exact fin D P' M' acc j _ hle hJ' (S₄.ext (pre := []) rfl hs'.extBut)

theorem slicePick_take (vs : Array Value) (k : Nat) : slicePick vs none (some (k : Int)) none = (vs.toList.take k).toArray := by
  have e : sliceBounds none (some (k : Int)) none vs.size = (((0 : Nat) : Int), ((min k vs.size : Nat) : Int), 1) := by
    simp only [sliceBounds, Option.getD_none, show (1 : Int) > 0 by decide, if_true, show ¬ ((k : Int) < 0) by (first | lia | omega), if_false]
    congr 1
    congr 1; (first | lia | omega)
  unfold slicePick
  rw [e]
  simp only [sliceRange_one, pick_run]
  rw [List.drop_zero, Nat.sub_zero]
  congr 1
  rw [← Array.length_toList]
  exact (List.take_eq_take_min ..).symm
end
end Mine
namespace Mine


noncomputable abbrev intsD (ns : List Int) : PyData := .list (ns.map .int)
theorem Rds.ints {P : PM} : ∀ {vs : List Value} {ns : List Int}, Rds P vs (ns.map .int) → ∃ l : List (Int × Tok), vs = (l.map fun p => Value.int p.1 p.2) ∧ l.map (·.1) = ns
  | _, [], .nil => ⟨[], rfl, rfl⟩
  | _, n :: ns, .cons r rs => by
    obtain ⟨l, rfl, rfl⟩ := rs.ints
    cases r
    exact ⟨(_, _) :: l, rfl, rfl⟩
section
variable {w : World} {A : Around} {E : Value → Shared → Prop} {env : Env} {s₀ : Shared} {L : Addr} {P : PM} {m : Str → Option Value} {M : List (Addr × Obj)} {s : Shared}
theorem o_sum {a : Addr} {vs : Array Value} {n : Nat} {ns : List Int} {Q : Value → Shared → Prop} (S : At s₀ P L m M s) (hh : A.handled = none) (e : P a = some (listOf vs n)) (r : Rds P vs.toList (ns.map .int))
    (h : ∀ t s', At s₀ P L m M s' → Q (.int ns.sum t) s') : wpAny (mo w) A (call (.builtin "sum") [.ref a]) Q E s := by
  obtain ⟨l, hl, rfl⟩ := r.ints
  have hi : vs = intItems l.toArray := by
    rw [← Array.toList_inj, hl]
    simp [intItems]
  refine wpAny_with_toks (Nat.le_refl s.toks) ?_
  refine PySem.sum_intListG (xs := l.toArray) hh ⟨_, S.keep _ _ e, rfl, n, by rw [← hi]⟩ fun h' tk t' hk htk => ?_
  rw [preSum_eq, List.take_of_length_le (by simp)]
  exact h t' _ { S.change hk with tp := Nat.le_trans S.tp htk }
theorem o_catL {a b : Addr} {vs ws : Array Value} {n n' : Nat} {Q : Value → Shared → Prop} (S : At s₀ P L m M s) (ha : s.heap.get? a = some (listOf vs n)) (hb : s.heap.get? b = some (listOf ws n')) (hsz : vs.size + ws.size ≤ 16777216)
    (h : ∀ D P' s', P.le P' → P' D = some (listOf (vs ++ ws) 0) → s₀.heap.get? D = none → At s₀ P' L m M s' → Q (.ref D) s') : wpAny (mo w) A (binaryOp .Add (.ref a) (.ref b)) Q E s := by
  refine PySem.concat_meets ⟨_, ha, rfl⟩ ⟨_, hb, rfl⟩ noFill_list_add seq_list_add F.slot_list_add F.entry_list_add (F.args_list_add_2 _ _) (AutoSeq1.list___add___list_list_0 a vs n b ws n' (by rw [sizeLine_eq]; exact hsz)) ⟨ha, hb, ?_⟩
  obtain ⟨hn, T⟩ := S.pushP (listOf (vs ++ ws) 0)
  refine h _ _ _ (PM.le_put hn) (PM.put_self ..) ?_ T
  cases e : s₀.heap.get? s.heap.objs.size with
  | none => rfl
  | some o => exact absurd (Nat.lt_of_lt_of_le (Heap.lt_size e) S.size) (Nat.lt_irrefl _)

noncomputable def numsOf' (xs : List Int) : List Int := (xs.take 6).map fun x => x.fmod 194481
/-- numbers = [x % 194481 for x in script[:6]] -/
theorem law0 {st : Stmt} {rest : List Stmt} {v : Value} {xs : List Int} {Q : Flow → Shared → Prop} (hst : (lawB w)[0]? = some st) (S : At s₀ P L m M s) (hh : A.handled = none)
    (hm : m "script" = some v) (rv : Rd P v (intsD xs)) (hx : xs.length ≤ 1000)
    (hQ : ∀ P' D s', P.le P' → Rd P' (.ref D) (intsD (numsOf' xs)) → At s₀ P' L (updm m "numbers" (.ref D)) M s' → wpAny (mo w) A (execs rest (envC w 132 L)) Q E s') :
    wpAny (mo w) A (execs (st :: rest) (envC w 132 L)) Q E s := by
  cases hst
  obtain ⟨a, vs, n, rfl, e, r⟩ := rv.list_inv
  have hsz := r.size
  rw [List.length_map] at hsz
  refine x_compL S [] (by kernel_rfl) (by kernel_rfl) (by kernel_rfl) (by k_dflt rfl) (by intro x; k_dflt rfl) (by kernel_rfl) rfl (by kernel_rfl) (by kernel_rfl) ?_
  refine r_sliceL S ?_ (by intro o r; k_dflt rfl)
  refine r_local S ?_ (by kernel_rfl) hm (by kernel_rfl)
  refine wpAny_evalPart_none ?_
  with_reducible refine PySem.wpAny_evalPart_some ?_
  walk_at "ev"
  refine ⟨a, vs, n, none, some 6, _, _, _, rfl, S, S.keep _ _ e, by (first | lia | omega), .none, .int _ _, fun D P1 s' l1 S eD hD => ?_⟩
  rw [show (some 6 : Option Int) = some ((6 : Nat) : Int) from rfl, slicePick_take] at eD
  have r6 := (r.take 6).mono l1
  rw [← List.map_take] at r6
  generalize hys : xs.take 6 = ys at r6
  have hyl : ys.length ≤ 6 := by rw [← hys]; exact List.length_take_le ..
  generalize (vs.toList.take 6) = us at eD r6
  have hul := r6.length
  rw [List.length_map] at hul
  refine ⟨P1, m, M, us.toArray.size, _, _, fun k acc P' M' => M = M' ∧ Rds P' acc ((numsOf' (ys.take k)).map .int), S, Its.list hh eD, LetIt.plain (fun _ _ => rfl), by rw [sizeLine_eq]; simp; (first | lia | omega), ⟨rfl, .nil⟩, fun C => ?_, fun D2 P' M' acc j s' hle hJ S => ?_⟩
  · intro k v acc P' M' X mc s' K N hk hv hle hJ S kK kN
    obtain ⟨rfl, hJ⟩ := hJ
    have hkl : k < ys.length := by simpa [hul] using hk
    obtain ⟨u, hu, ru⟩ := r6.get (i := k) (d := .int ys[k]) (by rw [List.getElem?_map, List.getElem?_eq_getElem hkl]; rfl)
    have : u = v := by have := hv; simp only [List.getElem?_toArray] at this; rw [hu] at this; exact Option.some.inj this
    subst this
    cases ru
    refine wpAny_assign_Name (r_store S (fun s' S => ?_) rfl)
    refine wpAny_tests_nil ?_
    rw [if_pos rfl]
    walk_at "ev"
    refine o_mod S (by decide) fun ta s' S => ?_
    refine kK _ _ ⟨P', _, _, .refl _, ⟨rfl, ?_⟩, S⟩
    have e1 : numsOf' (ys.take (k + 1)) = numsOf' (ys.take k) ++ [ys[k].fmod 194481] := by
      unfold numsOf'
      rw [List.take_take, List.take_take, Nat.min_eq_right (by (first | lia | omega)), Nat.min_eq_right (by (first | lia | omega)), List.take_add_one, List.getElem?_eq_getElem hkl, List.map_append]
      rfl
    rw [e1, List.map_append]
    exact hJ.append (.cons (.int ..) .nil)
  · obtain ⟨rfl, hJ⟩ := hJ
    have S0 := S
    have S1 := S.freeze (pre := []) rfl
    have l2 : P'.le (PM.put P' D2 (listOf acc.toArray j)) := PM.le_put (S0.out D2 (by simp))
    have hn : numsOf' (ys.take us.toArray.size) = numsOf' xs := by
      have : us.toArray.size = ys.length := by simp [hul]
      rw [this, List.take_length]
      unfold numsOf'
      rw [← hys, List.take_take, Nat.min_self]
    rw [hn] at hJ
    exact hQ _ D2 s' (l1.trans (hle.trans l2)) (.list (PM.put_self ..) (hJ.mono l2)) S1
end
end Mine
namespace Mine


/-- a new list of ints -/
theorem Rds.one {P : PM} {v : Value} {d : PyData} (h : Rd P v d) : Rds P [v] [d] := .cons h .nil
section
variable {w : World} {A : Around} {E : Value → Shared → Prop} {env : Env} {s₀ : Shared} {L : Addr} {P : PM} {m : Str → Option Value} {M : List (Addr × Obj)} {s : Shared}
noncomputable def momentOf (ns : List Int) : Int := 1 + ns.sum.fmod (ns.length + 1)
/-- moment = 1 + sum(numbers) % (len(numbers) + 1) -/
theorem law1 {st : Stmt} {rest : List Stmt} {v : Value} {ns : List Int} {Q : Flow → Shared → Prop} (hst : (lawB w)[1]? = some st) (S : At s₀ P L m M s) (B : Base w P) (hh : A.handled = none)
    (hm : m "numbers" = some v) (rv : Rd P v (intsD ns)) (hx : ns.length ≤ 1000)
    (hQ : ∀ t s', At s₀ P L (updm m "moment" (.int (momentOf ns) t)) M s' → wpAny (mo w) A (execs rest (envC w 132 L)) Q E s') :
    wpAny (mo w) A (execs (st :: rest) (envC w 132 L)) Q E s := by
  cases hst
  obtain ⟨a, vs, n, rfl, e, r⟩ := rv.list_inv
  have hsz := r.size
  rw [List.length_map] at hsz
  refine x_assign S ?_ 
  walk_at "ev"
  refine c_built S B (id := "sum") ?_ (he := by k_dflt rfl) (hplain := by k_dflt rfl)
  refine spliced_more ?_ (by k_dflt rfl)
  refine r_local S ?_ (by kernel_rfl) hm (by kernel_rfl)
  refine spliced_none ?_
  refine o_sum S hh e r fun t1 s1 S => ?_
  walk_at "ev"
  refine c_built S B (id := "len") ?_ (he := by k_dflt rfl) (hplain := by k_dflt rfl)
  refine spliced_more ?_ (by k_dflt rfl)
  refine r_local S ?_ (by kernel_rfl) hm (by kernel_rfl)
  refine spliced_none ?_
  refine o_len S (S.keep _ _ e) (by (first | lia | omega)) fun t2 s2 S => ?_
  walk_at "ev"
  refine o_mod S (by (first | lia | omega)) fun t3 s3 S => ?_
  refine o_add S fun t4 s4 S => ?_
  refine ⟨_, _, _, S, fun s5 S => ?_⟩
  rw [hsz] at S
  exact hQ _ _ S

noncomputable def rowsOf (ns : List Int) : List Int := [1797] ++ ns ++ [2438, 100572]
/-- the rows' values: of each number the row -/
noncomputable abbrev rowsDD (ys : List Int) : PyData := .list (ys.map fun y => .list (rowD (digs y)))
/-- rows = [_law_row(y) for y in [1797] + numbers + [2438, 100572]] -/
theorem law2 {st : Stmt} {rest : List Stmt} {v : Value} {ns : List Int} {Q : Flow → Shared → Prop} (hst : (lawB w)[2]? = some st) (S : At s₀ P L m M s) (B : Base w P) (hh : A.handled = none) (hd : A.depth + 2 < recursionLimit)
    (hm : m "numbers" = some v) (rv : Rd P v (intsD ns)) (hx : ns.length ≤ 1000) (hns : ∀ y ∈ ns, 0 ≤ y ∧ y < 194481)
    (hQ : ∀ P' D s', P.le P' → Rd P' (.ref D) (rowsDD (rowsOf ns)) → At s₀ P' L (updm m "rows" (.ref D)) M s' → wpAny (mo w) A (execs rest (envC w 132 L)) Q E s') :
    wpAny (mo w) A (execs (st :: rest) (envC w 132 L)) Q E s := by
  cases hst
  obtain ⟨a, vs, n, rfl, e, r⟩ := rv.list_inv
  have hsz := r.size
  rw [List.length_map] at hsz
  refine x_compL S [] (by kernel_rfl) (by kernel_rfl) (by kernel_rfl) (by k_dflt rfl) (by intro x; k_dflt rfl) (by kernel_rfl) rfl (by kernel_rfl) (by kernel_rfl) ?_
  refine wpAny_BinOp (wpAny_BinOp ?_)
  refine r_listv S (spliced_more ?_ (by k_dflt rfl))
  refine r_int S fun t1 s1 S => spliced_none ⟨by simp, _, _, _, S, fun D1 P1 s2 l1 e1 hD1 S => ?_⟩
  refine r_local S ?_ (by kernel_rfl) hm (by kernel_rfl)
  refine o_catL S (S.keep _ _ e1) (S.keep _ _ (l1 _ _ e)) (by simp; (first | lia | omega)) fun D2 P2 s3 l2 e2 hD2 S => ?_
  refine r_listv S (spliced_more ?_ (by k_dflt rfl))
  refine r_int S fun t2 s4 S => spliced_more ?_ (by k_dflt rfl)
  refine r_int S fun t3 s5 S => spliced_none ⟨by simp, _, _, _, S, fun D3 P3 s6 l3 e3 hD3 S => ?_⟩
  refine o_catL S (S.keep _ _ (l3 _ _ e2)) (S.keep _ _ e3) (by simp; (first | lia | omega)) fun D4 P4 s7 l4 e4 hD4 S => ?_
  have l14 : P.le P4 := l1.trans (l2.trans (l3.trans l4))
  have rr : Rds P4 (([Value.int 1797 t1].toArray ++ vs) ++ [Value.int 2438 t2, Value.int 100572 t3].toArray).toList ((rowsOf ns).map .int) := by
    unfold rowsOf
    rw [List.map_append, List.map_append, Array.toList_append, Array.toList_append]
    exact ((Rds.one (.int ..)).append (r.mono l14)).append (.cons (.int ..) (.cons (.int ..) .nil))
  have hys : ∀ y ∈ rowsOf ns, 0 ≤ y ∧ y < 194481 := fun y hy => by
    unfold rowsOf at hy
    simp only [List.mem_append, List.mem_cons, List.not_mem_nil, or_false] at hy
    rcases hy with (rfl | hy) | rfl | rfl
    · decide
    · exact hns y hy
    · decide
    · decide
  have hyl : (rowsOf ns).length = ns.length + 3 := by unfold rowsOf; simp
  generalize (([Value.int 1797 t1].toArray ++ vs) ++ [Value.int 2438 t2, Value.int 100572 t3].toArray) = us at e4 rr
  generalize rowsOf ns = ys at rr hys hyl hQ
  have hul := rr.size
  rw [List.length_map] at hul
  have B4 := B.mono l14
  refine ⟨P4, m, M, us.size, _, _, fun k acc P' M' => M = M' ∧ Rds P' acc ((ys.take k).map fun y => .list (rowD (digs y))), S, Its.list hh e4, LetIt.plain (fun _ _ => rfl), by rw [sizeLine_eq]; (first | lia | omega), ⟨rfl, .nil⟩, fun C => ?_, fun D2 P' M' acc j s' hle hJ S => ?_⟩
  · intro k v acc P' M' X mc s' K N hk hv hle hJ S kK kN
    obtain ⟨rfl, hJ⟩ := hJ
    have hkl : k < ys.length := by (first | lia | omega)
    obtain ⟨u, hu, ru⟩ := rr.getA (i := k) (d := .int ys[k]) (by rw [List.getElem?_map, List.getElem?_eq_getElem hkl]; rfl)
    have : u = v := by rw [hu] at hv; exact Option.some.inj hv
    subst this
    cases ru
    have hyk := hys ys[k] (List.getElem_mem hkl)
    refine wpAny_assign_Name (r_store S (fun s' S => ?_) rfl)
    refine wpAny_tests_nil ?_
    rw [if_pos rfl]
    refine c_def S (B4.mono hle) (a := 117) ?_ (by kernel_rfl) (by kernel_rfl) (by kernel_rfl) (by k_dflt rfl) (by k_dflt rfl)
    refine spliced_more ?_ (by k_dflt rfl)
    walk_at "ev"
    refine spliced_none ⟨⟨_, _, _, S, B4.mono hle⟩, ?_⟩
    refine r_call S (row_spec (S.ok (B4.mono hle)) (by show A.depth + 1 < recursionLimit; (first | lia | omega)) hh hyk) fun v1 P5 s8 l5 n5 S v1' r5 => ?_
    refine kK _ _ ⟨P5, _, _, l5, ⟨rfl, ?_⟩, S⟩
    rw [List.take_add_one, List.getElem?_eq_getElem hkl, List.map_append]
    exact (hJ.mono l5).append (.cons (r5.mono n5) .nil)
  · obtain ⟨rfl, hJ⟩ := hJ
    have S0 := S
    have S1 := S.freeze (pre := []) rfl
    have l5 : P'.le (PM.put P' D2 (listOf acc.toArray j)) := PM.le_put (S0.out D2 (by simp))
    rw [hul, List.take_length] at hJ
    exact hQ _ D2 s' (l14.trans (hle.trans l5)) (.list (PM.put_self ..) (hJ.mono l5)) S1
/-- star = '*' -/
theorem law3 {st : Stmt} {rest : List Stmt} {Q : Flow → Shared → Prop} (hst : (lawB w)[3]? = some st) (S : At s₀ P L m M s)
    (hQ : ∀ t s', s₀.toks ≤ t → At s₀ P L (updm m "star" (.str "*" t)) M s' → wpAny (mo w) A (execs rest (envC w 132 L)) Q E s') :
    wpAny (mo w) A (execs (st :: rest) (envC w 132 L)) Q E s := by
  cases hst
  refine x_assign S ?_
  refine r_strT S fun t s' ht S => ⟨_, _, _, S, fun s5 S => ?_⟩
  exact hQ _ _ ht S
/-- told = [] -/
theorem law5 {st : Stmt} {rest : List Stmt} {Q : Flow → Shared → Prop} (hst : (lawB w)[5]? = some st) (S : At s₀ P L m M s)
    (hQ : ∀ D s', At s₀ P L (updm m "told" (.ref D)) ((D, listOf #[] 0) :: M) s' → wpAny (mo w) A (execs rest (envC w 132 L)) Q E s') :
    wpAny (mo w) A (execs (st :: rest) (envC w 132 L)) Q E s := by
  cases hst
  refine x_assign S ?_
  refine r_empty S fun D s' S => ⟨_, _, _, S, fun s5 S => ?_⟩
  exact hQ _ _ S
end
end Mine
namespace Mine

/-- the text of a part -/
noncomputable def txt : Option Str → Str
  | some x => x
  | none => "*"
noncomputable def GoodP (p : Option Str) : Prop := p ≠ some "*"
theorem txt_inj {p q : Option Str} (hp : GoodP p) (hq : GoodP q) (h : txt p = txt q) : p = q := by
  cases p with
  | none =>
    cases q with
    | none => rfl
    | some y => exact absurd (congrArg some h.symm) hq
  | some x =>
    cases q with
    | none => exact absurd (congrArg some h) hp
    | some y => exact congrArg some h
/-- one lookup -/
noncomputable def bkStep (fz : Bool) (ks : List (Option Str)) (p : Option Str) : List (Option Str) := if fz || ks.contains p then ks else ks ++ [p]
noncomputable abbrev sig (u : Tok) : Value := .str "*" u
/-- the entries of the book -/
structure BkO (w : World) (u : Tok) (es : Array DictEntry) (ks : List (Option Str)) : Prop where
  size : es.size = ks.length
  get : ∀ (i : Nat) (p : Option Str), ks[i]? = some p → ∃ kv t, es[i]? = some (DictEntry.mk ((sk w).hash (txt p)) kv (.int i t)) ∧ PVal (sig u) kv p
  nd : ks.Nodup
theorem PVal.str {u : Tok} {v : Value} {p : Option Str} (h : PVal (sig u) v p) : (∃ t, v = .str (txt p) t) ∧ GoodP p := by
  cases p with
  | none => exact ⟨⟨u, h⟩, by intro q; cases q⟩
  | some x =>
    obtain ⟨t, rfl, _, _, hx⟩ := h
    exact ⟨⟨t, rfl⟩, fun q => hx (Option.some.inj q)⟩
section
variable {w : World} {u : Tok} {es : Array DictEntry} {ks : List (Option Str)}
theorem BkO.good (b : BkO w u es ks) {p : Option Str} (h : p ∈ ks) : GoodP p := by
  obtain ⟨i, hi, rfl⟩ := List.mem_iff_getElem.mp h
  obtain ⟨kv, t, _, hv⟩ := b.get i _ (List.getElem?_eq_getElem hi)
  exact hv.str.2
theorem BkO.keys (b : BkO w u es ks) : KeysOf (sk w) es := fun e he => by
  obtain ⟨i, hi, rfl⟩ := Array.mem_iff_getElem.mp he
  have hk : i < ks.length := b.size ▸ hi
  obtain ⟨kv, t, q, hv⟩ := b.get i _ (List.getElem?_eq_getElem hk)
  rw [Array.getElem?_eq_getElem hi] at q
  rw [Option.some.inj q]
  obtain ⟨⟨t', rfl⟩, _⟩ := hv.str
  exact ⟨txt ks[i], strKind_is _ _ _ _, rfl⟩
theorem BkO.place (b : BkO w u es ks) {p : Option Str} (hp : GoodP p) : place w es (txt p) = if p ∈ ks then some (ks.idxOf p) else none := by
  have key : ∀ i (h : i < es.size), (sk w).is (txt p) es[i].key = decide (ks[i]? = some p) := fun i hi => by
    have hk : i < ks.length := b.size ▸ hi
    obtain ⟨kv, t, q, hv⟩ := b.get i _ (List.getElem?_eq_getElem hk)
    rw [Array.getElem?_eq_getElem hi] at q
    rw [Option.some.inj q]
    obtain ⟨⟨t', rfl⟩, hg⟩ := hv.str
    rw [KeyKind.is_eq_decide (knd := sk w) (k := txt ks[i]) (strKind_is _ _ _ _), List.getElem?_eq_getElem hk]
    by_cases e : txt p = txt ks[i]
    · rw [decide_eq_true e, decide_eq_true (congrArg some (txt_inj hg hp e.symm))]
    · rw [decide_eq_false e, decide_eq_false fun q => e (by rw [Option.some.inj q])]
  unfold Mine.place
  by_cases h : p ∈ ks
  · rw [if_pos h]
    have hi := List.idxOf_lt_length_of_mem h
    rw [Array.findIdx?_eq_some_iff_getElem]
    refine ⟨b.size ▸ hi, ?_, fun j hj => ?_⟩
    · rw [key, decide_eq_true]
      rw [List.getElem?_eq_getElem hi, List.getElem_idxOf]
    · rw [key, decide_eq_false (by
        intro q
        have hj' : j < ks.length := Nat.lt_trans hj hi
        rw [List.getElem?_eq_getElem hj'] at q
        have h1 := List.not_of_lt_findIdx (p := (· == p)) (xs := ks) (i := j) hj
        rw [Option.some.inj q] at h1
        simp at h1)]
      simp
  · rw [if_neg h, Array.findIdx?_eq_none_iff]
    intro e he
    obtain ⟨i, hi, rfl⟩ := Array.mem_iff_getElem.mp he
    rw [key]
    exact decide_eq_false fun q => h (List.mem_of_getElem? q)
theorem BkO.push (b : BkO w u es ks) {p : Option Str} {kv : Value} {t : Tok} (hv : PVal (sig u) kv p) (hn : p ∉ ks) : BkO w u (es.push (DictEntry.mk ((sk w).hash (txt p)) kv (.int es.size t))) (ks ++ [p]) := by
  refine ⟨by simp [b.size], fun i q hq => ?_, ?_⟩
  · by_cases e : i < ks.length
    · rw [List.getElem?_append_left e] at hq
      obtain ⟨kv', t', h1, h2⟩ := b.get i q hq
      refine ⟨kv', t', ?_, h2⟩
      rw [Array.getElem?_push, if_neg (by rw [b.size]; (first | lia | omega))]
      exact h1
    · rw [List.getElem?_append_right (by (first | lia | omega))] at hq
      have hk : i = ks.length := by
        cases hz : i - ks.length with
        | zero => (first | lia | omega)
        | succ n => rw [hz] at hq; simp at hq
      subst hk
      simp only [Nat.sub_self, List.getElem?_cons_zero, Option.some.injEq] at hq
      subst hq
      refine ⟨kv, t, ?_, hv⟩
      rw [Array.getElem?_push, if_pos b.size.symm, b.size]
  · rw [List.nodup_append]
    exact ⟨b.nd, by simp, fun a ha c hc q => hn (by simp at hc; rw [← hc, ← q]; exact ha)⟩
theorem BkO.nil : BkO w u #[] [] := ⟨rfl, fun i p h => by simp at h, .nil⟩
end
end Mine
namespace Mine

theorem mem_change {pre post : List (Addr × Obj)} {a x : Addr} {o o' ox : Obj} (h : (x, ox) ∈ pre ++ (a, o) :: post) (hne : ox ≠ o) : (x, ox) ∈ pre ++ (a, o') :: post := by
  rcases List.mem_append.mp h with h | h
  · exact List.mem_append_left _ h
  · rcases List.mem_cons.mp h with h | h
    · exact absurd (Prod.mk.inj h).2 hne
    · exact List.mem_append_right _ (.tail _ h)
section
variable {w : World} {A : Around} {E : Value → Shared → Prop} {env : Env} {s₀ : Shared} {L : Addr} {P : PM} {m : Str → Option Value} {M : List (Addr × Obj)} {s : Shared}
theorem BookM.mono {P' : PM} {M' : List (Addr × Obj)} {f cB bk dA : Addr} {es : Array DictEntry} {ep : Nat} (K : BookM w P M f cB bk dA es ep) (l : P.le P') (h : ∀ x ∈ M, x ∈ M') : BookM w P' M' f cB bk dA es ep :=
  ⟨(let ⟨fo, fd, e, F, c, oc, vs, t, a1, a2, a3⟩ := K.fac; ⟨fo, fd, l _ _ e, F, c, oc, vs, t, a1, l _ _ a2, a3⟩), (let ⟨oB, e, q⟩ := K.cell; ⟨oB, h _ e, q⟩), h _ K.inM, K.sys, K.size⟩
theorem FrozenM.mono {P' : PM} {M' : List (Addr × Obj)} {bk dA ff : Addr} (Z : FrozenM P M bk dA ff) (l : P.le P') (h : ∀ x ∈ M, x ∈ M') : FrozenM P' M' bk dA ff := by
  obtain ⟨⟨fo, fd, cS, oS, h1, h2, F, ⟨c, oc, vs, t, a1, a2, a3⟩, h3, h4⟩, dO, h5, h6⟩ := Z
  exact ⟨⟨fo, fd, cS, oS, l _ _ h1, h2, F, ⟨c, oc, vs, t, a1, l _ _ a2, a3⟩, h _ h3, h4⟩, dO, h _ h5, h6⟩
/-- the state of the book -/
structure BkS (w : World) (P : PM) (M : List (Addr × Obj)) (f cB bk dA : Addr) (u : Tok) (fz : Bool) (es : Array DictEntry) (ep : Nat) (ks : List (Option Str)) : Prop where
  K : BookM w P M f cB bk dA es ep
  O : BkO w u es ks
  ne : (Value.ref bk == Value.ref 101) = false
  st : if fz = true then ∃ ff, FrozenM P M bk dA ff else (dA, emptyDict) ∈ M
theorem BkS.mono {P' : PM} {M' : List (Addr × Obj)} {f cB bk dA : Addr} {u : Tok} {fz : Bool} {es : Array DictEntry} {ep : Nat} {ks : List (Option Str)} (Z : BkS w P M f cB bk dA u fz es ep ks) (l : P.le P') (h : ∀ x ∈ M, x ∈ M') : BkS w P' M' f cB bk dA u fz es ep ks := by
  refine ⟨Z.K.mono l h, Z.O, Z.ne, ?_⟩
  have := Z.st
  cases fz
  · rw [if_neg (by decide)] at this ⊢
    exact h _ this
  · rw [if_pos rfl] at this ⊢
    obtain ⟨ff, z⟩ := this
    exact ⟨ff, z.mono l h⟩
theorem emptyDict_look : lookIn "_frozen" emptyDict = some none := by kernel_rfl
/-- book[part] -/
theorem o_bk {value slice : Expr} {f cB bk dA : Addr} {u : Tok} {fz : Bool} {es : Array DictEntry} {ep : Nat} {ks : List (Option Str)} {p : Option Str} {v : Value} {pre post : List (Addr × Obj)} {Q : Value → Shared → Prop} (S : At s₀ P L m M s) (B : Base w P) (Z : BkS w P M f cB bk dA u fz es ep ks) (hd : A.depth + 2 < recursionLimit) (hh : A.handled = none)
    (hM : M = pre ++ (bk, bookO dA (.ref f) es ep) :: post) (hv : PVal (sig u) v p) (hroom : ks.length < 1000000)
    (hQ : ∀ P' es' ep' t s', P.le P' → At s₀ P' L m (pre ++ (bk, bookO dA (.ref f) es' ep') :: post) s' →
      (∀ pre' post', BkS w P (pre' ++ (bk, bookO dA (.ref f) es ep) :: post') f cB bk dA u fz es ep ks → BkS w P' (pre' ++ (bk, bookO dA (.ref f) es' ep') :: post') f cB bk dA u fz es' ep' (bkStep fz ks p)) → Q (.int (ks.idxOf p : Nat) t) s')
    (hs : ∀ x tx, subscripted slice false (.ref bk) (.str x tx) = operate [.ref bk, .str x tx] (getItem (.ref bk) (.str x tx)) := by intro _ _; with_unfolding_all rfl) (ht : ∀ r, letTemporaryGo value (.ref bk) r = pure () := by intro _; with_unfolding_all rfl) :
    wpAny (mo w) A (subscriptTail value slice (.ref bk) v) Q E s := by
  obtain ⟨⟨t, rfl⟩, hp⟩ := hv.str
  have hpl := Z.O.place hp
  by_cases hmem : p ∈ ks
  · rw [if_pos hmem] at hpl
    have hi := List.idxOf_lt_length_of_mem hmem
    obtain ⟨kv, t', he, _⟩ := Z.O.get (ks.idxOf p) p (by rw [List.getElem?_eq_getElem hi, List.getElem_idxOf])
    refine o_subThere S B Z.K Z.O.keys hpl he (fun s' S' => ?_) (hs _ _) ht
    have e1 : bkStep fz ks p = ks := by unfold bkStep; rw [List.contains_iff_mem.mpr hmem, Bool.or_true]; rfl
    refine hQ P es ep t' s' (.refl _) (hM ▸ S') fun _ _ Z => ?_
    rw [e1]
    exact Z
  · rw [if_neg hmem] at hpl
    have hcf : ks.contains p = false := by simpa using hmem
    have hidx : ks.idxOf p = ks.length := List.idxOf_eq_length hmem
    have hst := Z.st
    cases fz
    · rw [if_neg (by decide)] at hst
      refine o_subNew S B Z.K (by (first | lia | omega)) hh Z.O.keys hM hst emptyDict_look Z.ne hpl (fun P' tv s' l S' => ?_) (hs _ _) ht
      have e1 : bkStep false ks p = ks ++ [p] := by unfold bkStep; rw [hcf]; rfl
      have hQ' := hQ P' _ _ tv s' l S'
      rw [e1, hidx] at hQ'
      rw [Z.O.size]
      refine hQ' fun pre' post' Z => ?_
      have hst := Z.st
      rw [if_neg (by decide)] at hst
      have hb : ∀ x ox, (x, ox) ∈ pre' ++ (bk, bookO dA (.ref f) es ep) :: post' → ox ≠ bookO dA (.ref f) es ep → (x, ox) ∈ pre' ++ (bk, bookO dA (.ref f) (es.push ⟨(sk w).hash (txt p), .str (txt p) t, .int es.size tv⟩) (ep + 1)) :: post' := fun x ox h1 h2 => mem_change h1 h2
      refine ⟨⟨?_, ?_, by simp, Z.K.sys, by rw [Array.size_push, Z.O.size]; (first | lia | omega)⟩, Z.O.push hv hmem, Z.ne, ?_⟩
      · obtain ⟨fo, fd, e, F, c, oc, vs, t, a1, a2, a3⟩ := Z.K.fac
        exact ⟨fo, fd, l _ _ e, F, c, oc, vs, t, a1, l _ _ a2, a3⟩
      · obtain ⟨oB, e, q⟩ := Z.K.cell
        exact ⟨oB, hb _ _ e (fun h => by rw [h] at q; cases q), q⟩
      · rw [if_neg (by decide)]
        exact hb _ _ hst (fun h => by cases h)
    · rw [if_pos rfl] at hst
      obtain ⟨ff, z⟩ := hst
      refine o_subFrozen S B Z.K z hd hh Z.O.keys Z.ne hpl (fun P' tv s' l S' => ?_) (hs _ _) ht
      have e1 : bkStep true ks p = ks := rfl
      have hQ' := hQ P' es ep tv s' l (hM ▸ S')
      rw [e1, hidx] at hQ'
      rw [Z.O.size]
      exact hQ' fun _ _ Z => Z.mono l fun _ h => h
end
end Mine
namespace Mine

noncomputable def subL : List Str := ["", "!", "ab", "a-c", "!a", "^", "\\-"]
noncomputable def reCode : Array Nat := #[14, 14, 4, 1, 1, 9, 0, 64, 0, 1342177280, 0, 0, 0, 0, 0, 17, 0, 13, 11, 9, 0, 64, 0, 1342177280, 0, 0, 0, 0, 0, 17, 1, 1]
noncomputable def lastM : Nat → Sre.M → Sre.M
  | 0, m => m
  | k + 1, m => if (m.runFor Builtin.Re.reTurnSteps).outcome.isSome then m.runFor Builtin.Re.reTurnSteps else lastM k (m.runFor Builtin.Re.reTurnSteps)
theorem none_found {x : Str} (h : x ∈ subL) : (lastM 60 (Sre.forSearch reCode x.cps 1 0 x.cps.size false)).outcome = some .failed := by
  simp only [subL, List.mem_cons, List.not_mem_nil, or_false] at h
  rcases h with rfl | rfl | rfl | rfl | rfl | rfl | rfl <;> kernel_rfl
section
variable {w : World} {A : Around} {E : Value → Shared → Prop} {s : Shared}
theorem wp_drive : ∀ (k N : Nat) (m : Sre.M) (Q : Sre.M → Shared → Prop), k + 1 ≤ N → (lastM (k + 1) m).outcome.isSome = true → Q (lastM (k + 1) m) s → wpAny (mo w) A (Builtin.Re.reDrive N m) Q E s := by
  intro k
  induction k with
  | zero =>
    intro N m Q hN h q
    obtain ⟨N, rfl⟩ : ∃ n, N = n + 1 := ⟨N - 1, by (first | lia | omega)⟩
    unfold Builtin.Re.reDrive
    unfold lastM at h q
    by_cases c : (m.runFor Builtin.Re.reTurnSteps).outcome.isSome = true
    · rw [if_pos c] at h q
      simp only [c, if_true]
      exact wpAny_pure q
    · rw [if_neg c] at h
      exact absurd h c
  | succ k ih =>
    intro N m Q hN h q
    obtain ⟨N, rfl⟩ : ∃ n, N = n + 1 := ⟨N - 1, by (first | lia | omega)⟩
    unfold Builtin.Re.reDrive
    rw [lastM] at h q
    by_cases c : (m.runFor Builtin.Re.reTurnSteps).outcome.isSome = true
    · rw [if_pos c] at h q
      simp only [c, if_true]
      exact wpAny_pure q
    · rw [if_neg c] at h q
      simp only [c, Bool.false_eq_true, if_false]
      exact wpAny_bind (wpAny_rule (ih N _ Q (by (first | lia | omega)) h q))
theorem wp_rules {f : Nat → PUnit → Sem (ForInStep PUnit)} (hf : ∀ i u, ∃ (c : Bool) (r : String), f i u = if c = true then (do rule r; pure (.yield ⟨⟩)) else pure (.yield ⟨⟩)) : ∀ (l : List Nat) (Q : PUnit → Shared → Prop), Q ⟨⟩ s → wpAny (mo w) A (forIn l PUnit.unit f) Q E s
  | [], Q, q => by rw [List.forIn_nil]; exact wpAny_pure q
  | i :: r, Q, q => by
    rw [List.forIn_cons]
    obtain ⟨c, n, e⟩ := hf i ⟨⟩
    rw [e]
    cases c
    · exact wpAny_bind (wpAny_pure (wp_rules hf r Q q))
    · exact wpAny_bind (wpAny_bind (wpAny_rule (wpAny_pure (wp_rules hf r Q q))))
theorem wp_found {m : Sre.M} {Q : Option Sre.M → Shared → Prop} (h1 : (lastM 60 m).outcome = some .failed) (q : Q none s) : wpAny (mo w) A (Builtin.Re.reRunToEnd m) Q E s := by
  unfold Builtin.Re.reRunToEnd
  refine wpAny_bind (wp_drive 59 _ m _ (by decide) (by rw [h1]; rfl) ?_)
  refine wpAny_bind (wp_rules (fun i u => ⟨_, _, rfl⟩) _ _ ?_)
  rw [h1]
  exact wpAny_pure q
end
theorem slot_pat_sub : Slot "re.Pattern" "sub" "re.Pattern.sub" :=
  .of (owner := "re.Pattern") (n := "sub") (by rw [typeLookup_type, builtinLookup_eq_fast]; kernel_rfl) (by decide +kernel) (by decide +kernel) (by decide +kernel)
    (by first | exact .inl (by decide +kernel) | exact .inr (by decide +kernel)) (by rw [isSubtype_type]; kernel_rfl)
theorem type_pat_sub : typeOf (.builtin "re.Pattern.sub") = pure (.type "method_descriptor") := by show builtinType _ = _; rw [builtinType_eq_fast]; kernel_rfl
theorem entry_pat_sub : entryFor table "re.Pattern.sub" = some Builtin.«re.Pattern.sub» := entryFor_of_tree (by kernel_rfl)
theorem entry_pat_loop : entryFor table "re.Pattern.sub.loop" = some Builtin.«re.Pattern.sub.loop» := entryFor_of_tree (by kernel_rfl)
theorem attrs_pat : PlainAttrs "re.Pattern" :=
  ⟨⟨"object.__getattribute__", by rw [typeLookup_type, builtinLookup_eq_fast]; kernel_rfl, by decide +kernel⟩, by rw [typeLookup_type, builtinLookup_eq_fast]; kernel_rfl⟩
theorem fn_call : ∃ id, typeLookup (.type "function") "__call__" = pure (some (.builtin id)) := ⟨_, by rw [typeLookup_type, builtinLookup_eq_fast]; rfl⟩
theorem args_pat_sub (a b c : Value) : argsOk "re.Pattern.sub" ⟨[a, b, c], []⟩ := by unfold argsOk; kernel_rfl
section
variable {w : World} {A : Around} {E : Value → Shared → Prop} {env : Env} {s₀ : Shared} {L : Addr} {P : PM} {m : Str → Option Value} {M : List (Addr × Obj)} {s : Shared}
theorem wp_target {x : Str} {t : Tok} {Q : Builtin.Re.ReTarget → Shared → Prop} (X : (KK w).In s.heap) (h : Q ⟨.ref 42, .str x t, reCode, x.cps, 0, 1, 0, x.cps.size⟩ s) : wpAny (mo w) A (Builtin.Re.reWholeTarget (.ref 42) (.str x t)) Q E s := by
  have hpo : (KK w).lookup 42 = some { cls := .type "re.Pattern", data := .fields #[.str "([&~|])" 327, .int 32 362, .int 1 0, .none, .none, .ref 41, .int 0 0] } := rfl
  obtain ⟨cs, n, hco, hcs⟩ : ∃ cs n, (KK w).lookup 41 = some { cls := .type "tuple", data := .seq cs n } ∧ (cs.map Builtin.Re.reRawOf).map (·.toNat) = reCode := ⟨_, _, rfl, by kernel_rfl⟩
  have h42 := X _ _ hpo
  have h41 := X _ _ hco
  have hT41 : s.TypeIs (.ref 41) "tuple" := ⟨_, h41, rfl⟩
  rw [← hcs] at h
  unfold Builtin.Re.reWholeTarget
  repeat (any_goals (first | assumption | wp_step))
set_option maxHeartbeats 2000000 in
theorem o_resub {f : Addr} {fo : Obj} {x : Str} {t : Tok} {Q : Value → Shared → Prop} (S : At s₀ P L m M s) (B : Base w P) (hf : P f = some fo) (hfc : fo.cls = .type "function") (hx : x ∈ subL) (h : ∀ t' s', At s₀ P L m M s' → Q (.str x t') s') :
    wpAny (mo w) A (call (.builtin "re.Pattern.sub") [.ref 42, .ref f, .str x t]) Q E s := by
  have hpo : (KK w).lookup 42 = some { cls := .type "re.Pattern", data := .fields #[.str "([&~|])" 327, .int 32 362, .int 1 0, .none, .none, .ref 41, .int 0 0] } := rfl
  have h42 := S.inK B _ _ hpo
  have hT : s.TypeIs (.ref 42) "re.Pattern" := ⟨_, h42, rfl⟩
  have hTf : s.TypeIs (.ref f) "function" := ⟨_, S.keep _ _ hf, hfc⟩
  have X := S.inK B
  have S₁ := S.push (listOf #[] 0)
  have X₁ := S₁.inK B
  obtain ⟨idc, hcall⟩ := fn_call
  have hsb : isSubtype (.type "str") (.type "bytearray") = pure false := by rw [isSubtype_type]; kernel_rfl
  refine wpAny_call (codeAny_call_builtin slot_pat_sub.plain entry_pat_sub (slot_pat_sub.check _ _ _ _ _ _ _ _ hT (args_pat_sub _ _ _) ?_))
  unfold Builtin.«re.Pattern.sub» Builtin.Re.reSubstitute
  repeat (any_goals (first | assumption | ((with_reducible show wpAny _ _ (Builtin.Re.reWholeTarget _ _) _ _ _); refine wp_target (by assumption) ?_) | wp_step))
  refine ⟨Code.quiet_builtin _ (by decide +kernel), codeAny_builtin entry_pat_loop ?_⟩
  have hnf : ∀ (A : Around) (E : Value → Shared → Prop) (s : Shared) (Q : Option Sre.M → Shared → Prop), Q none s → wpAny (mo w) A (Builtin.Re.reNextFound ⟨.ref 42, .str x t, reCode, x.cps, 0, 1, 0, x.cps.size⟩ 0 false) Q E s := fun A E s Q q => wp_found (none_found hx) q
  have hl := S₁.live (_, _) (.head _)
  have hTl : Shared.TypeIs { s with heap := s.heap.push (listOf #[] 0) } (.ref s.heap.objs.size) "list" := ⟨_, hl, rfl⟩
  have hxs : x.cps.size ≤ 3 := by
    simp only [subL, List.mem_cons, List.not_mem_nil, or_false] at hx
    rcases hx with rfl | rfl | rfl | rfl | rfl | rfl | rfl <;> decide +kernel
  have hsl : ∀ (A : Around) (E : Value → Shared → Prop) (s : Shared) (Q : Value → Shared → Prop), Q (.str x s.toks) { s with toks := s.toks + 1 } → wpAny (mo w) A (Builtin.Re.reSlice x.cps 0 0 x.cps.size) Q E s := fun A E s Q q => by
    have e : (⟨x.cps.extract 0 x.cps.size⟩ : Str) = x := by cases x; simp
    show wpAny (mo w) A (mkStr ⟨x.cps.extract 0 x.cps.size⟩) Q E s
    rw [e]
    exact wpAny_mkStr q (by rw [sizeLine_eq]; show x.cps.size ≤ _; (first | lia | omega))
  have hs0 : ∀ (A : Around) (E : Value → Shared → Prop) (s : Shared) (Q : Value → Shared → Prop), Q (.str ⟨#[]⟩ s.toks) { s with toks := s.toks + 1 } → wpAny (mo w) A (Builtin.Re.reSlice x.cps 0 0 0) Q E s := fun A E s Q q => by
    have e : (⟨x.cps.extract 0 0⟩ : Str) = ⟨#[]⟩ := by simp
    show wpAny (mo w) A (mkStr ⟨x.cps.extract 0 0⟩) Q E s
    rw [e]
    exact wpAny_mkStr q (by decide)
  unfold Builtin.«re.Pattern.sub.loop»
  refine wpAny_bind (wp_target X₁ ?_)
  refine wpAny_bind (m := Builtin.Re.reNextFound ⟨.ref 42, .str x t, reCode, x.cps, 0, 1, 0, x.cps.size⟩ 0 false) (hnf _ _ _ _ ?_)
  by_cases h0 : 0 < x.cps.size
  · have hc : decide (Int.toNat 0 < x.cps.size) = true := by simpa using h0
    show wpAny _ _ (if Int.toNat 0 < x.cps.size then _ else _) _ _ _
    rw [if_pos (show Int.toNat 0 < x.cps.size by simpa using h0)]
    refine wpAny_bind (hsl _ _ _ _ ?_)
    have hu := Heap.get?_update_self (Obj.mapSeq (·.push (Value.str x s.toks))) hl (by rw [mapSeq_push]; rfl)
    rw [mapSeq_push] at hu
    have S₂ := (S₁.toks1 1).upd (pre := []) rfl (Heap.SameBut.update ..) hu
    refine wpAny_bind (wpAny_updateSeq (hz := by decide) (_hz' := by simp) hl rfl ?_)
    refine wpAny_bind (hs0 _ _ _ _ ?_)
    have S₃ := S₂.toks1 1
    have hl3 := S₃.live (s.heap.objs.size, listOf #[Value.str x s.toks] 1) (by simp)
    refine wpAny_bind (wpAny_seqItems hl3 rfl ?_)
    show wpAny _ _ (call (.builtin "str.join") [.str ⟨#[]⟩ _, .ref s.heap.objs.size] >>= _) _ _ _
    refine wpAny_bind (o_join S₃ hl3 (ps := [x]) (P' := P) (.cons (.str ..) .nil) (joinOk_of ?_) fun t' s' S' => ?_)
    · show ([x].map (·.length)).sum + _ ≤ _
      simp [Str.length]; (first | lia | omega)
    · exact wpAny_pure (h t' s' (S'.weak (by simp)))
  · have hx0 : x.cps.size = 0 := by (first | lia | omega)
    rw [if_neg (show ¬ Int.toNat 0 < x.cps.size by simpa using h0)]
    refine wpAny_bind (hs0 _ _ _ _ ?_)
    have S₃ := S₁.toks1 1
    refine wpAny_bind (wpAny_seqItems hl rfl ?_)
    have e : x = ⟨#[]⟩ := by cases x; simp at hx0; simp [hx0]
    rw [e] at h
    exact wpAny_pure (h _ _ (S₃.weak (by simp)))
end
end Mine
namespace Mine
noncomputable def sg (x : List Nat) : Str := ⟨x.toArray⟩
/-- where the sign c comes first, counted from k -/
noncomputable def findC (c : Nat) : List Nat → Nat → Option Nat
  | [], _ => none
  | d :: r, k => if d = c then some k else findC c r (k + 1)
noncomputable def closeAt (r : List Nat) : Option Nat :=
  let j0 := if r[0]? = some 33 then 1 else 0
  let j1 := if r[j0]? = some 93 then j0 + 1 else j0
  findC 93 (r.drop j1) j1
noncomputable def chunksGo (w : List Nat) : Nat → Nat → Nat → List (List Nat) → Option (Nat × List (List Nat))
  | 0, _, _, _ => none
  | f + 1, i, k, acc => match findC 45 (w.drop k) k with
    | none => some (i, acc)
    | some p => chunksGo w f (p + 1) (p + 3) (acc ++ [(w.take p).drop i])
noncomputable def mergeGo : Nat → List (List Nat) → Option (List (List Nat))
  | 0, cs => some cs
  | k + 1, cs => match cs[k]?, cs[k + 1]? with
    | some a, some b => match a.getLast?, b.head? with
      | some x, some y => if y < x then mergeGo k ((cs.set k (a.dropLast ++ b.tail)).eraseIdx (k + 1)) else mergeGo k cs
      | _, _ => none
    | _, _ => none
noncomputable def chunks (w : List Nat) : Option (List (List Nat)) :=
  match chunksGo w (w.length + 1) 0 (if w[0]? = some 33 then 2 else 1) [] with
  | none => none
  | some (i, cs) => match w.drop i with
    | [] => none
    | c :: r => mergeGo cs.length (cs ++ [c :: r])
noncomputable def chunkL : List Str := ["", "!", "ab", "a", "c", "!a", "^", "-"]
noncomputable def plainL : List Str := ["ab", "!a", "^"]
noncomputable def repC (c : Str) : Str := Txt.replace c "-" "\\-"
noncomputable def stuffOf (w : List Nat) : Option Str :=
  if 45 ∈ w then match chunks w with
    | none => none
    | some cs => if (cs.all fun c => chunkL.contains (sg c)) && subL.contains (Txt.join "-" (cs.map fun c => repC (sg c))) then some (Txt.join "-" (cs.map fun c => repC (sg c))) else none
  else if plainL.contains (sg w) then some (sg w) else none
noncomputable def pieceOf (st : Str) : Str :=
  if st = "" then "(?!)" else if st = "!" then "." else if st = "!a" then "[^a]" else if st = "^" then "[\\^]" else "[" ++ st ++ "]"
noncomputable def brk (r : List Nat) : Option (Str × Nat) := match closeAt r with
  | none => none
  | some j => match stuffOf (r.take j) with
    | none => none
    | some st => some (pieceOf st, j + 1)
noncomputable def pushStar (ps : List (Option Str)) : List (Option Str) := if ps.getLast? = some none then ps else ps ++ [none]
noncomputable def escB (c : Nat) : Bool := [97, 46, 93, 33].contains c
noncomputable def escT (c : Nat) : Str := if c = 46 ∨ c = 93 then ⟨#[92, c]⟩ else ⟨#[c]⟩
noncomputable def tr : Nat → List Nat → List (Option Str) → Option (List (Option Str))
  | _, [], acc => some acc
  | 0, _ :: _, _ => none
  | f + 1, c :: r, acc =>
    if c = 42 then tr f r (pushStar acc)
    else if c = 63 then tr f r (acc ++ [some ("." : Str)])
    else if c = 91 then (match brk r with
      | none => none
      | some (p, n) => tr f (r.drop n) (acc ++ [some p]))
    else if escB c then tr f r (acc ++ [some (escT c)]) else none
noncomputable def s2 (x : String) : List Nat := x.toList.map (·.toNat)
end Mine
namespace Mine

noncomputable def escL : List Nat := [40, 41, 91, 93, 123, 125, 63, 42, 43, 45, 124, 94, 36, 92, 46, 38, 126, 35, 32, 9, 10, 13, 11, 12]
noncomputable def escD : List (PyData × PyData) := escL.map fun (c : Nat) => (.int (c : Int), .str ⟨#[92, c]⟩)
theorem esc_tab {w : World} {h : Heap} (X : (KK w).In h) : IntTab pw w h 51 escD := by
  obtain ⟨o, es, ep, ho, hc, hd, hs, hdat, hes⟩ : ∃ o es ep, (KK w).lookup 51 = some o ∧ o.cls = .type "dict" ∧ o.dict = none ∧ o.slots = #[] ∧ o.data = .dict es ep ∧ entriesAreInt es.toList escD = true := ⟨_, _, _, rfl, rfl, rfl, rfl, rfl, by kernel_rfl⟩
  obtain ⟨kvs, p, f, ks⟩ := entries_spec (prog := pw) (w := w) hes
  exact ⟨by decide, kvs, ⟨o, es, ep, X _ _ ho, ⟨hc, hd, hs⟩, hdat, fun e he => ks e (by simpa using he), p, nodup_of_apart f (by decide +kernel)⟩, f⟩

section
variable {w : World} {A : Around} {E : Value → Shared → Prop} {env : Env} {s₀ : Shared} {L : Addr} {P : PM} {m : Str → Option Value} {M : List (Addr × Obj)} {s : Shared}

theorem look_text {c : Nat} {x : Str} {Q : Builtin.Str.Mapped → Shared → Prop} (S : At s₀ P L m M s) (B : Base w P) (hl : lookup (.int c) escD = some (.str x)) (h : ∀ s', At s₀ P L m M s' → Q (.text x) s') :
    wpAny (mo w) A (Builtin.Str.tableLookup (.ref 51) c) Q E s := by
  obtain ⟨lo, kvs, hd, hf⟩ := esc_tab (S.inK B)
  obtain ⟨v, hv, hfl⟩ := hf.of_lookup (fun a b => PyProof.V.same_int a b) hl
  unfold Builtin.Str.tableLookup
  refine wpAny_bind (wpAny_attempt (wpAny_bind (wpAny_mkInt (wpAny_getItem_of (knd := intKind pw w) (k := (c : Int)) (by show Value.isInt (c : Int) (Value.int (c : Int) s.toks) = true; simp [Value.isInt]) hd.mapOf hv ?_))))
  obtain ⟨t, rfl⟩ : ∃ t, v = .str x t := by
    cases hfl {} with
    | str => exact ⟨_, rfl⟩
  have T := h _ (S.toks1 (1 + 1))
  repeat (any_goals (first | assumption | wp_step))

theorem look_keep {c : Nat} {Q : Builtin.Str.Mapped → Shared → Prop} (S : At s₀ P L m M s) (B : Base w P) (hh : A.handled = none) (hl : lookup (.int c) escD = none) (h : ∀ s', At s₀ P L m M s' → Q .keep s') :
    wpAny (mo w) A (Builtin.Str.tableLookup (.ref 51) c) Q E s := by
  obtain ⟨lo, kvs, hd, hf⟩ := esc_tab (S.inK B)
  unfold Builtin.Str.tableLookup
  refine wpAny_bind (wpAny_attempt (wpAny_bind (wpAny_mkInt (wpAny_getItem_missing_of (knd := intKind pw w) (k := (c : Int)) (by show Value.isInt (c : Int) (Value.int (c : Int) s.toks) = true; simp [Value.isInt]) lo hh hd.mapOf (hf.none_of_lookup (fun a b => PyProof.V.same_int a b) hl) fun h' e he => ?_))))
  obtain ⟨ob, t, ho, hc, _⟩ := he.there
  have S' := ((S.toks1 1).change he.keeps).toks1 1
  have T := h _ S'
  refine wpAny_bind (wpAny_isInstance (T := "KeyError") (b := true) ⟨ob, ho, hc⟩ (by rw [isSubtype_type]; kernel_rfl) ?_)
  repeat (any_goals (first | assumption | wp_step))

set_option maxHeartbeats 1000000 in
theorem o_translate_keep {c : Nat} {t : Tok} {Q : Value → Shared → Prop} (S : At s₀ P L m M s) (B : Base w P) (hh : A.handled = none) (hc : c < 128) (hl : lookup (.int c) escD = none) (h : ∀ t' s', s₀.toks ≤ t' → At s₀ P L m M s' → Q (.str ⟨#[c]⟩ t') s') :
    wpAny (mo w) A (call (.builtin "str.translate") [.str ⟨#[c]⟩ t, .ref 51]) Q E s := by
  refine wpAny_call_entry PySem.F.slot_str_translate (typeIs_str _ _ _) PySem.F.entry_str_translate ?_ (PySem.F.args_str_translate_2 _ _)
  have hlook : ∀ (Q : Builtin.Str.Mapped → Shared → Prop), (∀ s', At s₀ P L m M s' → Q .keep s') → wpAny (mo w) A.in1 (Builtin.Str.tableLookup (.ref 51) c) Q E s := fun Q h => look_keep S B hh hl h
  unfold Builtin.«str.translate»
  repeat (any_goals (first | assumption | ((with_reducible show wpAny _ _ (Builtin.Str.tableLookup _ _) _ _ _); refine hlook _ (fun s2 S2 => ?_)) | wp_step))
  exact ⟨.str ⟨#[c]⟩ s2.toks, rfl, h _ _ S2.tp (S2.toks1 1)⟩

set_option maxHeartbeats 1000000 in
theorem o_translate_text {c : Nat} {t : Tok} {Q : Value → Shared → Prop} (S : At s₀ P L m M s) (B : Base w P) (hc : c < 128) (hl : lookup (.int c) escD = some (.str ⟨#[92, c]⟩)) (h : ∀ t' s', s₀.toks ≤ t' → At s₀ P L m M s' → Q (.str ⟨#[92, c]⟩ t') s') :
    wpAny (mo w) A (call (.builtin "str.translate") [.str ⟨#[c]⟩ t, .ref 51]) Q E s := by
  refine wpAny_call_entry PySem.F.slot_str_translate (typeIs_str _ _ _) PySem.F.entry_str_translate ?_ (PySem.F.args_str_translate_2 _ _)
  have hlook : ∀ s (Q : Builtin.Str.Mapped → Shared → Prop), At s₀ P L m M s → (∀ s', At s₀ P L m M s' → Q (.text ⟨#[92, c]⟩) s') → wpAny (mo w) A.in1 (Builtin.Str.tableLookup (.ref 51) c) Q E s := fun s Q S h => look_text S B hl h
  unfold Builtin.«str.translate»
  repeat (any_goals (first | assumption | ((with_reducible show wpAny _ _ (Builtin.Str.tableLookup _ _) _ _ _); refine hlook _ _ (by assumption) (fun s2 S2 => ?_)) | wp_step))
  exact ⟨.str ⟨#[92, c]⟩ s2.toks, rfl, h _ _ S2.tp (S2.toks1 1)⟩
end

set_option hygiene false in
local macro_rules | `(tactic| walk_at "ev") => `(tactic| repeat (first | walk_at "rk" | walk_at "e1"))

noncomputable def escS (c : Nat) : Str := match lookup (.int c) escD with
  | some (.str x) => x
  | _ => ⟨#[c]⟩
noncomputable def EscOk (c : Nat) : Prop := c < 128 ∧ (lookup (.int c) escD = none ∨ lookup (.int c) escD = some (.str ⟨#[92, c]⟩))
set_option maxHeartbeats 400000 in
theorem escape_spec {w : World} {A : Around} {s : Shared} {c : Nat} {t : Tok} (O : Ok w s) (hd : A.depth + 1 < recursionLimit) (hh : A.handled = none) (hc : EscOk c) :
    wpAny (mo w) A (call (.ref 61) [.str ⟨#[c]⟩ t]) (fun v s' => Mv [] s s' ∧ ∃ t', v = .str (escS c) t' ∧ s.toks ≤ t') NoE s := by
  refine wpAny_call (enter [("pattern", .str ⟨#[c]⟩ t)] O (by (first | lia | omega)) ⟨_, _, _, rfl⟩ (by kernel_rfl) rfl (by kernel_rfl) (by kernel_rfl) (by kernel_rfl) rfl rfl rfl fun L s₁ S B => ?_)
  have hA : (A.deeper (envF w 61 L)).handled = none := hh
  with_reducible refine x_if ?_
  with_reducible refine wpAny_isTrue_value ?_ (by k_dflt rfl)
  with_reducible refine c_built S B ?_ (he := by k_dflt rfl) (hplain := by k_dflt rfl)
  with_reducible refine spliced_more ?_ (by k_dflt rfl)
  walk_at "ev"
  with_reducible refine spliced_more ?_ (by k_dflt rfl)
  with_reducible refine r_built S B ?_ (v := .type "str")
  with_reducible refine spliced_none ?_
  refine call_isinstance_yes (typeIs_str _ _ _) (by kernel_rfl) (by rw [isSubtype_type]; kernel_rfl) (wpAny_truthy_bool ?_)
  rw [if_pos rfl]
  with_reducible refine x_return ?_
  with_reducible refine PySem.Call_method1 (by k_dflt rfl) (by k_dflt rfl) (by k_dflt rfl) ?_
  walk_at "ev"
  refine onStr1 PySem.F.slot_str_translate PySem.F.type_str_translate ?_
  with_reducible refine r_glob S B (v := .ref 51) ?_
  obtain ⟨h1, h2 | h2⟩ := hc
  · refine o_translate_keep S B hA h1 h2 fun t' s' ht S => ⟨S.mvOut (PM.le.refl _), t', ?_, ht⟩
    unfold escS; rw [h2]
  · refine o_translate_text S B h1 h2 fun t' s' ht S => ⟨S.mvOut (PM.le.refl _), t', ?_, ht⟩
    unfold escS; rw [h2]
end Mine
namespace Mine

theorem findC_spec {c : Nat} : ∀ {l : List Nat} {k : Nat}, match findC c l k with
    | some p => ∃ n : Nat, p = k + n ∧ l[n]? = some c ∧ ∀ i : Nat, i < n → l[i]? ≠ some c
    | none => ∀ i : Nat, l[i]? ≠ some c
  | [], k => fun i => by simp
  | d :: r, k => by
    unfold findC
    by_cases h : d = c
    · rw [if_pos h]
      exact ⟨0, rfl, by simp [h], fun i hi => absurd hi (Nat.not_lt_zero _)⟩
    · rw [if_neg h]
      have ih := findC_spec (c := c) (l := r) (k := k + 1)
      split
      · rename_i p hp
        rw [hp] at ih
        obtain ⟨n, e, h1, h2⟩ := ih
        refine ⟨n + 1, by (first | lia | omega), by simpa using h1, fun i hi => ?_⟩
        cases i with
        | zero => simpa using h
        | succ i => simpa using h2 i (by (first | lia | omega))
      · rename_i hp
        rw [hp] at ih
        intro i
        cases i with
        | zero => simpa using h
        | succ i => simpa using ih i

/-- the first place of a sign between two bounds -/
theorem occ_find (x : Str) (c lo hi : Nat) (hhi : hi ≤ x.length) :
    (match Builtin.Str.occurrences x ⟨#[c]⟩ lo hi 1 with | i :: _ => (i : Int) | [] => -1) = (match findC c ((x.cps.toList.take hi).drop lo) lo with | some p => (p : Int) | none => -1) := by
  have hspec := findC_spec (c := c) (l := (x.cps.toList.take hi).drop lo) (k := lo)
  have hget : ∀ i, ((x.cps.toList.take hi).drop lo)[i]? = if lo + i < hi then x.cps.toList[lo + i]? else none := fun i => by
    rw [List.getElem?_drop, List.getElem?_take]
  have hat : ∀ i, StrLaws.At x ⟨#[c]⟩ hi i ↔ (i < hi ∧ x.cps.toList[i]? = some c) := fun i => by
    unfold StrLaws.At
    rw [← StrLaws.subAt_one]
    show (i + 1 ≤ hi ∧ _) ↔ (i < hi ∧ (i + 1 ≤ x.length ∧ _))
    constructor
    · rintro ⟨h1, h2⟩; exact ⟨h1, by (first | lia | omega), h2⟩
    · rintro ⟨h1, _, h2⟩; exact ⟨h1, h2⟩
  have hmem : ∀ i, i ∈ List.range' lo (hi + 1 - lo) ↔ (lo ≤ i ∧ i < hi + 1) := fun i => by
    rw [List.mem_range'_1]; (first | lia | omega)
  rw [StrLaws.occ_eq]
  rcases StrLaws.occ_first x ⟨#[c]⟩ hi 1 (Nat.le_refl _) (List.range' lo (hi + 1 - lo)) lo (fun i h => ((hmem i).mp h).1) with ⟨h0, hn⟩ | ⟨pre, a, post, e, h0, ha, hn⟩
  · rw [h0]
    have hnone : ∀ i, ((x.cps.toList.take hi).drop lo)[i]? ≠ some c := fun i q => by
      rw [hget] at q
      split at q
      · rename_i hlt
        exact hn (lo + i) ((hmem _).mpr ⟨by (first | lia | omega), by (first | lia | omega)⟩) ((hat _).mpr ⟨hlt, q⟩)
      · cases q
    split at hspec
    · rename_i p hp
      obtain ⟨n, _, h1, _⟩ := hspec
      exact absurd h1 (hnone n)
    · rfl
  · have hal : a ∈ List.range' lo (hi + 1 - lo) := by rw [e]; simp
    obtain ⟨ha1, ha2⟩ := (hmem a).mp hal
    obtain ⟨ha3, ha4⟩ := (hat a).mp ha
    have hfirst : ∀ i, lo ≤ i → i < a → x.cps.toList[i]? ≠ some c := fun i h1 h2 q => by
      refine hn i ?_ ((hat i).mpr ⟨by (first | lia | omega), q⟩)
      have hi' : i ∈ List.range' lo (hi + 1 - lo) := (hmem i).mpr ⟨h1, by (first | lia | omega)⟩
      rw [e] at hi'
      rcases List.mem_append.mp hi' with h | h
      · exact h
      · exfalso
        have hs : (List.range' lo (hi + 1 - lo)).Pairwise (· < ·) := List.pairwise_lt_range'
        rw [e] at hs
        have hs2 := (List.pairwise_append.mp hs).2.1
        rcases List.mem_cons.mp h with rfl | h
        · (first | lia | omega)
        · have := (List.pairwise_cons.mp hs2).1 i h
          (first | lia | omega)
    have hL : (forIn (List.range' lo (hi + 1 - lo)) ((#[] : Array Nat), lo) (StrLaws.occBody x ⟨#[c]⟩ hi 1)).run.fst.toList = a :: (forIn (List.range' lo (hi + 1 - lo)) ((#[] : Array Nat), lo) (StrLaws.occBody x ⟨#[c]⟩ hi 1)).run.fst.toList.tail := by
      generalize (forIn (List.range' lo (hi + 1 - lo)) ((#[] : Array Nat), lo) (StrLaws.occBody x ⟨#[c]⟩ hi 1)).run.fst = arr at h0
      have h1 : arr.toList[0]? = some a := by simpa using h0
      cases hL : arr.toList with
      | nil => rw [hL] at h1; cases h1
      | cons b t => rw [hL] at h1; simp at h1; rw [h1]; rfl
    rw [hL]
    have hin : ((x.cps.toList.take hi).drop lo)[a - lo]? = some c := by
      rw [hget, if_pos (by (first | lia | omega))]
      have : lo + (a - lo) = a := by (first | lia | omega)
      rw [this]; exact ha4
    split at hspec
    · rename_i p hp
      obtain ⟨n, e1, h1, h2⟩ := hspec
      rw [hget] at h1
      split at h1
      · have hle : a ≤ lo + n := Nat.le_of_not_lt fun q => hfirst (lo + n) (by (first | lia | omega)) q h1
        have hge : n ≤ a - lo := Nat.le_of_not_lt fun q => h2 _ q hin
        show (a : Int) = (p : Int)
        (first | lia | omega)
      · cases h1
    · exact absurd hin (hspec _)

theorem item_at {x : Str} {k : Nat} {c : Nat} (h : x.cps.toList[k]? = some c) : Txt.item x (k : Int) = ⟨#[c]⟩ := by
  have hlt : k < x.length := by
    obtain ⟨q, _⟩ := List.getElem?_eq_some_iff.mp h
    simpa [Str.length] using q
  unfold Txt.item Txt.charAt
  rw [seqIndex_of (by (first | lia | omega)) (by (first | lia | omega))]
  have : x.cps[k]? = some c := by simpa using h
  simp [this]
theorem slice_at {x : Str} {a b : Nat} (hb : b ≤ x.length) (ha : a ≤ x.length) : strSlice x (some (a : Int)) (some (b : Int)) = ⟨((x.cps.toList.take b).drop a).toArray⟩ := by
  unfold strSlice cutL
  have e : x.cps.toList.length = x.length := by simp [Str.length]
  have h1 : clipI (some (a : Int)) 0 x.length = a := by
    show max 0 (min (if (a : Int) < 0 then (a : Int) + x.length else a) x.length) = _
    rw [if_neg (by (first | lia | omega))]; (first | lia | omega)
  have h2 : clipI (some (b : Int)) x.length x.length = b := by
    show max 0 (min (if (b : Int) < 0 then (b : Int) + x.length else b) x.length) = _
    rw [if_neg (by (first | lia | omega))]; (first | lia | omega)
  rw [e, h1, h2]
  rw [List.drop_take]
  simp only [Int.toNat_natCast]
theorem slice_tail (c : List Nat) : strSlice (sg c) (some 1) none = sg c.tail := by
  unfold strSlice cutL sg
  have e : (⟨c.toArray⟩ : Str).length = c.length := by simp [Str.length]
  show (⟨_⟩ : Str) = _
  simp only [clipI]
  cases c with
  | nil => rfl
  | cons a r =>
    have h1 : (max 0 (min (if (1 : Int) < 0 then 1 + (((a :: r).length : Nat) : Int) else 1) (((a :: r).length : Nat) : Int))).toNat = 1 := by rw [if_neg (by (first | lia | omega))]; simp only [List.length_cons]; (first | lia | omega)
    simp only [List.tail_cons, h1]
    simp
theorem slice_init (c : List Nat) : strSlice (sg c) none (some (-1)) = sg c.dropLast := by
  unfold strSlice cutL sg
  show (⟨_⟩ : Str) = _
  simp only [clipI]
  have h1 : (max 0 (min (if (-1 : Int) < 0 then -1 + ((c.length : Nat) : Int) else -1) ((c.length : Nat) : Int))).toNat = c.length - 1 := by rw [if_pos (by (first | lia | omega))]; (first | lia | omega)
  simp only [h1, Int.toNat_zero, List.drop_zero, Nat.sub_zero]
  rw [List.dropLast_eq_take]
theorem item_last {c : List Nat} {x : Nat} (h : c.getLast? = some x) : Txt.item (sg c) (-1) = ⟨#[x]⟩ := by
  have hne : c ≠ [] := by rintro rfl; cases h
  have hl : 0 < c.length := List.length_pos_iff.mpr hne
  unfold Txt.item Txt.charAt sg
  have e : (⟨c.toArray⟩ : Str).length = c.length := by simp [Str.length]
  rw [e, PySem.seqIndex_neg (by (first | lia | omega)) (by (first | lia | omega))]
  have h2 : (-1 + (c.length : Int)).toNat = c.length - 1 := by (first | lia | omega)
  rw [h2]
  have : c[c.length - 1]? = some x := by rw [← List.getLast?_eq_getElem?]; exact h
  simp [this]
theorem item_head {c : List Nat} {x : Nat} (h : c.head? = some x) : Txt.item (sg c) 0 = ⟨#[x]⟩ := by
  have : c[0]? = some x := by cases c with | nil => cases h | cons a r => simpa using h
  have := item_at (x := sg c) (k := 0) (c := x) (by simpa [sg] using this)
  exact this

section
variable {w : World} {A : Around} {E : Value → Shared → Prop} {env : Env} {s₀ : Shared} {L : Addr} {P : PM} {m : Str → Option Value} {M : List (Addr × Obj)} {s : Shared}

/-- one item of a list is set -/
theorem o_setitem {l : Addr} {items : Array Value} {n : Nat} {k : Int} {t : Tok} {v : Value} {pre post : List (Addr × Obj)} {Q : Unit → Shared → Prop} (S : At s₀ P L m M s) (hM : M = pre ++ (l, listOf items n) :: post)
    (h0 : 0 ≤ k) (hfit : k < 2 ^ 63) (hn : k < items.size) (h : ∀ s' n', At s₀ P L m (pre ++ (l, listOf (items.setIfInBounds k.toNat v) n') :: post) s' → Q () s') :
    wpAny (mo w) A (setItem (.ref l) (.int k t) v) Q E s := by
  have ho : s.heap.get? l = some (listOf items n) := S.live (l, listOf items n) (by rw [hM]; simp)
  have hl : s.heap.IsList l items := ⟨_, ho, rfl, n, rfl⟩
  unfold setItem
  try with_reducible refine wpAny_holding ?_
  first | refine wpAny_bind (wpAny_pure ?_) | skip
  refine wpAny_bind (wpAny_sequenceKey hl.typeIs (by decide) ?_)
  refine wpAny_bind (wpAny_callSpecial?_slot (name := Str.ofString "__setitem__") hl.typeIs slot_list_setitem
    (wpAny_call_entry slot_list_setitem hl.typeIs entry_list_setitem ?_ (args_list_setitem _ _ _)))
  show wpAny _ _ (Builtin.List.listSubscript? (.int k t) >>= _) _ _ s
  refine wpAny_bind (wpAny_listSubscript_int (fitsIndex_of h0 hfit) ?_)
  clear hfit
  obtain ⟨j, rfl⟩ := Int.eq_ofNat_of_zero_le h0
  have hj : j < items.size := by (first | lia | omega)
  have hx' : items[j]? = some items[j] := Array.getElem?_eq_getElem hj
  show wpAny _ _ ((seqItemAt l j >>= fun r => pure (r.map (j, ·))) >>= _) _ _ s
  refine wpAny_bind (wpAny_bind (wpAny_seqItemAt ho rfl (wpAny_pure ?_)))
  rw [hx']
  show wpAny _ _ (setSeqItemAt l j v >>= _) _ _ s
  have hms : ∃ n', Obj.mapSeq (·.setIfInBounds j v) (listOf items n) = listOf (items.setIfInBounds j v) n' := ⟨_, rfl⟩
  obtain ⟨n', hms⟩ := hms
  have hget : (s.heap.update l (Obj.mapSeq (·.setIfInBounds j v))).get? l = some (listOf (items.setIfInBounds j v) n') := by
    rw [Heap.get?_update_self _ ho (by rw [hms]; rfl), hms]
  have S' := S.upd hM (Heap.SameBut.update ..) hget
  refine wpAny_bind (wpAny_setSeqItemAt ho rfl ?_)
  first
    | exact wpAny_bind (wpAny_pure (wpAny_pure ⟨.none, rfl, wpAny_pure (h _ _ S')⟩))
    | exact wpAny_pure ⟨.none, rfl, wpAny_pure (h _ _ S')⟩

/-- one item of a list is deleted -/
theorem o_delitem {l : Addr} {items : Array Value} {n : Nat} {k : Int} {t : Tok} {pre post : List (Addr × Obj)} {Q : Unit → Shared → Prop} (S : At s₀ P L m M s) (hM : M = pre ++ (l, listOf items n) :: post)
    (h0 : 0 ≤ k) (hfit : k < 2 ^ 63) (hn : k < items.size) (hsz : items.size ≤ 16777216) (h : ∀ s' n', At s₀ P L m (pre ++ (l, listOf (items.toList.eraseIdx k.toNat).toArray n') :: post) s' → Q () s') :
    wpAny (mo w) A (delItem (.ref l) (.int k t)) Q E s := by
  have ho : s.heap.get? l = some (listOf items n) := S.live (l, listOf items n) (by rw [hM]; simp)
  refine delItem_at ho (fitsIndex_of h0 hfit) (seqIndex_of h0 hn) (fun h' hs he => h _ _ (S.upd hM hs he)) (by rw [sizeLine_eq]; exact hsz)

/-- a turn of a for loop is done -/
inductive TurnedF (s₀ : Shared) (P' : PM) (L : Addr) (X : List (Addr × Obj)) (J : PM → (Str → Option Value) → List (Addr × Obj) → Prop) (s₃ : Shared) : Prop
  | mk (P'' : PM) (m'' : Str → Option Value) (M'' : List (Addr × Obj)) (l : P'.le P'') (h : J P'' m'' M'') (S : At s₀ P'' L m'' (X ++ M'') s₃)
/-- what a for loop runs through is at hand -/
inductive ForOk (w : World) (A : Around) (s₀ : Shared) (L : Addr) (target : Expr) (body rest : List Stmt) (env : Env) (Q : Flow → Shared → Prop) (E : Value → Shared → Prop) (x : Value) (s₁ : Shared) : Prop
  | mk (P₁ : PM) (m₁ : Str → Option Value) (M₁ : List (Addr × Obj)) (n : Nat) (V : Nat → Value → Prop) (It : Nat → Obj → Prop) (J : Nat → PM → (Str → Option Value) → List (Addr × Obj) → Prop) (S : At s₀ P₁ L m₁ M₁ s₁) (W : Its w A s₀ P₁ x n V It) (hlet : LetIt w A target It) (hJ : J 0 P₁ m₁ M₁)
    (turn : ∀ k v P' m' M' X s' (K : Flow → Shared → Prop), k < n → V k v → P₁.le P' → J k P' m' M' → At s₀ P' L m' (X ++ M') s' → (∀ s₃, TurnedF s₀ P' L X (J (k + 1)) s₃ → K .next s₃) →
        wpAny (mo w) A (assign target env v) (fun _ s₂ => wpAny (mo w) A (execs body env) K NoE s₂) NoE s')
    (fin : ∀ P' m' M' s', P₁.le P' → J n P' m' M' → At s₀ P' L m' M' s' → wpAny (mo w) A (execs rest env) Q E s')
/-- a for loop over what can be run through -/
theorem x_for {target iter : Expr} {body rest : List Stmt} {pos : Pos} {Q : Flow → Shared → Prop} (_S : At s₀ P L m M s)
    (h : wpAny (mo w) A (eval iter env) (fun x s₁ => ForOk w A s₀ L target body rest env Q E x s₁) E s)
    (hs : ∀ x, foldedSetIterable iter env x = pure x := by intro _; rfl) :
    wpAny (mo w) A (execs (.For target iter body [] pos :: rest) env) Q E s := by
  refine wpAny_execs_cons (wpAny_For (wpAny_mono h (fun x s₁ h₁ => ?_) fun _ _ x => x) hs)
  obtain ⟨P₁, m₁, M₁, n, V, It, J, S, W, hlet, hJ, turn, fin⟩ := h₁
  refine W.start S fun oI hfr hI0 => ?_
  have S₁ := S.push oI hfr
  generalize s₁.heap.objs.size = I at S₁ ⊢
  refine codeAny_forLoop_any (fun r s => ∃ k P' m' M' oI, r + k = n ∧ P₁.le P' ∧ J k P' m' M' ∧ It k oI ∧ At s₀ P' L m' ((I, oI) :: M') s) (fun r s hi => ?_) n ⟨0, P₁, m₁, M₁, oI, rfl, .refl _, hJ, hI0, S₁⟩
  obtain ⟨k, P', m', M', oI, hk, hle, hJ, hI, S⟩ := hi
  cases r with
  | zero =>
    have hk' : k = n := by (first | lia | omega)
    subst hk'
    refine W.stop (pre := []) hle S rfl hI fun s' S => ?_
    exact wpAny_execs_nil (fin P' m' M' s' hle hJ S)
  | succ r =>
    have hlt : k < n := by (first | lia | omega)
    refine W.next (pre := []) hle S rfl hI hlt fun v oI' s₁ hv hI' S => ?_
    refine hlet.go (S.live (I, oI') (by simp)) hI' ?_
    have T := turn k v P' m' M' [(I, oI')] s₁ (fun f s₃ => f = .next ∧ TurnedF s₀ P' L [(I, oI')] (J (k + 1)) s₃) hlt hv hle hJ S fun _ h => ⟨rfl, h⟩
    refine lift (wpAny_mono T (fun _ s₂ T => ?_) fun _ _ x => x)
    refine lift (wpAny_mono T (fun f s₃ T => ?_) fun _ _ x => x)
    obtain ⟨rfl, P'', m'', M'', hle', hJ', S⟩ := T
    exact ⟨r, Nat.lt_succ_self r, k + 1, P'', m'', M'', oI', by (first | lia | omega), hle.trans hle', hJ', hI', S⟩
end
end Mine
namespace Mine
set_option hygiene false in
local macro_rules | `(tactic| walk_at "ev") => `(tactic| repeat (first | walk_at "rk" | walk_at "e1"))

section
variable {w : World} {A : Around} {E : Value → Shared → Prop} {env : Env} {s₀ : Shared} {L : Addr} {P : PM} {m : Str → Option Value} {M : List (Addr × Obj)} {s : Shared}
/-- an if whose ways meet -/
theorem x_ifR {test : Expr} {body orelse rest : List Stmt} {pos : Pos} {Q : Flow → Shared → Prop} (R : Shared → Prop)
    (h : wpAny (mo w) A (isTrue test env (eval test env)) (fun b s₂ => if b = true then wpAny (mo w) A (execs body env) (fun f s' => f = .next ∧ R s') NoE s₂
      else wpAny (mo w) A (execs orelse env) (fun f s' => f = .next ∧ R s') NoE s₂) E s) (k : ∀ s', R s' → wpAny (mo w) A (execs rest env) Q E s') : wpAny (mo w) A (execs (.If test body orelse pos :: rest) env) Q E s := by
  refine x_if (wpAny_mono h (fun b s₂ h₂ => ?_) fun _ _ x => x)
  cases b with
  | true =>
    simp only [if_true] at h₂ ⊢
    refine lift (wpAny_mono h₂ (fun f s₃ h₃ => ?_) fun _ _ x => x)
    obtain ⟨rfl, h₃⟩ := h₃
    exact k _ h₃
  | false =>
    simp only [Bool.false_eq_true, if_false] at h₂ ⊢
    refine lift (wpAny_mono h₂ (fun f s₃ h₃ => ?_) fun _ _ x => x)
    obtain ⟨rfl, h₃⟩ := h₃
    exact k _ h₃
/-- the same, its post a variable -/
theorem x_ifRA {test : Expr} {body orelse rest : List Stmt} {pos : Pos} {Q : Flow → Shared → Prop} (R : Shared → Prop)
    (h : ∀ K : Flow → Shared → Prop, (∀ s', R s' → K .next s') → wpAny (mo w) A (isTrue test env (eval test env)) (fun b s₂ => if b = true then wpAny (mo w) A (execs body env) K NoE s₂ else wpAny (mo w) A (execs orelse env) K NoE s₂) E s)
    (k : ∀ s', R s' → wpAny (mo w) A (execs rest env) Q E s') : wpAny (mo w) A (execs (.If test body orelse pos :: rest) env) Q E s :=
  x_ifR R (h (fun f s' => f = .next ∧ R s') fun _ h => ⟨rfl, h⟩) k
end

/-- the names of _translate -/
structure TF (m : Str → Option Value) (pat : Str) (tq : Tok) (σ : Value) (D b : Addr) (i : Nat) : Prop where
  patn : ∃ t, m "pat" = some (.str pat t)
  star : m "STAR" = some σ
  qm : m "QUESTION_MARK" = some (.str "." tq)
  add : m "add" = some (.ref b)
  res : m "res" = some (.ref D)
  n : ∃ t, m "n" = some (.int pat.length t)
  i : ∃ t, m "i" = some (.int i t)
noncomputable def tfL : List Str := ["pat", "STAR", "QUESTION_MARK", "add", "res", "n"]
theorem TF.other {m : Str → Option Value} {pat : Str} {tq : Tok} {σ : Value} {D b : Addr} {i : Nat} (F : TF m pat tq σ D b i) {x : Str} {v : Value} (h : (("i" : Str) :: tfL).all (fun y => !(y == x)) = true) : TF (updm m x v) pat tq σ D b i := by
  have ne : ∀ y ∈ (("i" : Str) :: tfL), updm m x v y = m y := fun y hy => updm_ne (by have := List.all_eq_true.mp h y hy; simpa using this)
  obtain ⟨⟨t1, f1⟩, f2, f3, f4, f5, ⟨t6, f6⟩, ⟨t7, f7⟩⟩ := F
  exact ⟨⟨t1, (ne _ (by simp [tfL])).trans f1⟩, (ne _ (by simp [tfL])).trans f2, (ne _ (by simp [tfL])).trans f3, (ne _ (by simp [tfL])).trans f4, (ne _ (by simp [tfL])).trans f5, ⟨t6, (ne _ (by simp [tfL])).trans f6⟩, ⟨t7, (ne _ (by simp [tfL])).trans f7⟩⟩
theorem TF.step {m : Str → Option Value} {pat : Str} {tq : Tok} {σ : Value} {D b : Addr} {i i' : Nat} (F : TF m pat tq σ D b i) {z : Int} {t : Tok} (h : z = i') : TF (updm m "i" (.int z t)) pat tq σ D b i' := by
  subst h
  obtain ⟨⟨t1, f1⟩, f2, f3, f4, f5, ⟨t6, f6⟩, ⟨t7, f7⟩⟩ := F
  exact ⟨⟨t1, by walk_at "lk"⟩, by walk_at "lk", by walk_at "lk", by walk_at "lk", by walk_at "lk", ⟨t6, by walk_at "lk"⟩, ⟨t, by walk_at "lk"⟩⟩

theorem len_toList (x : Str) : x.cps.toList.length = x.length := by simp [Str.length]
theorem list_eq_one (a c : Nat) : (((⟨#[a]⟩ : Str).cps.toList == (⟨#[c]⟩ : Str).cps.toList) : Bool) = decide (a = c) := by
  show ([a] == [c]) = _
  by_cases h : a = c <;> simp [h]

section
variable {w : World} {A : Around} {E : Value → Shared → Prop} {s₀ s : Shared} {P : PM} {L : Addr} {m : Str → Option Value} {M : List (Addr × Obj)}
/-- j < n and pat[j] == c -/
theorem t_eq {pat : Str} {tp tj tn : Tok} {z : Str} {r : List Nat} {I k c : Nat} {p1 p2 p3 p4 p5 p6 p7 p8 p9 : Pos} {kk : Nat} {Q : Bool → Shared → Prop} (S : At s₀ P L m M s) (hj : m "j" = some (.int ((I + k : Nat) : Int) tj)) (hn : m "n" = some (.int pat.length tn)) (hp : m "pat" = some (.str pat tp))
    (hr : pat.cps.toList.drop I = r) (hI : I ≤ pat.length) (hsz : pat.length ≤ 10000) (h : ∀ s', At s₀ P L m M s' → Q (decide (r[k]? = some c)) s') (hz : z = ⟨#[c]⟩ := by kernel_rfl) :
    wpAny (mo w) A (isTrue (.BoolOp .And [.Compare (.Name "j" p1) [.Lt] [.Name "n" p2] p3, .Compare (.Subscript (.Name "pat" p4) (.Name "j" p5) p6) [.Eq] [.Constant (.str z) kk p7] p8] p9) (envF w 68 L)
      (eval (.BoolOp .And [.Compare (.Name "j" p1) [.Lt] [.Name "n" p2] p3, .Compare (.Subscript (.Name "pat" p4) (.Name "j" p5) p6) [.Eq] [.Constant (.str z) kk p7] p8] p9) (envF w 68 L))) Q E s := by
  subst hz
  have hrl : r.length = pat.length - I := by rw [← hr, List.length_drop, len_toList]
  refine wpAny_isTrue_BoolOp (wpAny_allTrue_And_cons (wpAny_isTrue_Compare1 ?_))
  walk_at "ev"
  refine PyProof.Rows.lt_int (wpAny_truthy_bool ?_)
  by_cases hk : k < r.length
  · rw [if_pos (decide_eq_true (by (first | lia | omega)))]
    refine wpAny_allTrue_And_cons (wpAny_isTrue_Compare1 ?_)
    walk_at "ev"
    have hget : pat.cps.toList[I + k]? = some r[k] := by
      have : r[k]? = some r[k] := List.getElem?_eq_getElem hk
      rw [← this, ← hr, List.getElem?_drop]
    refine o_sign S (by (first | lia | omega)) (by (first | lia | omega)) (by (first | lia | omega)) fun t s' S => ?_
    rw [item_at hget]
    walk_at "ev"
    refine PySem.P.eq_str (wpAny_truthy_bool ?_)
    rw [list_eq_one]
    have hd : decide (r[k] = c) = decide (r[k]? = some c) := by
      rw [List.getElem?_eq_getElem hk]; simp
    rw [hd]
    by_cases q : r[k]? = some c
    · rw [if_pos (decide_eq_true q)]
      refine wpAny_allTrue_And_nil ?_
      have := h _ S
      rw [decide_eq_true q] at this
      exact this
    · rw [if_neg (by simpa using q)]
      have := h _ S
      rw [decide_eq_false q] at this
      exact this
  · rw [if_neg (by simp; (first | lia | omega))]
    have := h _ S
    rw [decide_eq_false (by rw [List.getElem?_eq_none (by (first | lia | omega))]; simp)] at this
    exact this
/-- j < n and pat[j] != c -/
theorem t_ne {pat : Str} {tp tj tn : Tok} {z : Str} {r : List Nat} {I k c : Nat} {p1 p2 p3 p4 p5 p6 p7 p8 p9 : Pos} {kk : Nat} {Q : Bool → Shared → Prop} (S : At s₀ P L m M s) (hj : m "j" = some (.int ((I + k : Nat) : Int) tj)) (hn : m "n" = some (.int pat.length tn)) (hp : m "pat" = some (.str pat tp))
    (hr : pat.cps.toList.drop I = r) (hI : I ≤ pat.length) (hsz : pat.length ≤ 10000) (hk : k < r.length) (h : ∀ s', At s₀ P L m M s' → Q (!decide (r[k]? = some c)) s') (hz : z = ⟨#[c]⟩ := by kernel_rfl) :
    wpAny (mo w) A (isTrue (.BoolOp .And [.Compare (.Name "j" p1) [.Lt] [.Name "n" p2] p3, .Compare (.Subscript (.Name "pat" p4) (.Name "j" p5) p6) [.NotEq] [.Constant (.str z) kk p7] p8] p9) (envF w 68 L)
      (eval (.BoolOp .And [.Compare (.Name "j" p1) [.Lt] [.Name "n" p2] p3, .Compare (.Subscript (.Name "pat" p4) (.Name "j" p5) p6) [.NotEq] [.Constant (.str z) kk p7] p8] p9) (envF w 68 L))) Q E s := by
  subst hz
  have hrl : r.length = pat.length - I := by rw [← hr, List.length_drop, len_toList]
  refine wpAny_isTrue_BoolOp (wpAny_allTrue_And_cons (wpAny_isTrue_Compare1 ?_))
  walk_at "ev"
  refine PyProof.Rows.lt_int (wpAny_truthy_bool ?_)
  rw [if_pos (decide_eq_true (by (first | lia | omega)))]
  refine wpAny_allTrue_And_cons (wpAny_isTrue_Compare1 ?_)
  walk_at "ev"
  have hget : pat.cps.toList[I + k]? = some r[k] := by
    have : r[k]? = some r[k] := List.getElem?_eq_getElem hk
    rw [← this, ← hr, List.getElem?_drop]
  refine o_sign S (by (first | lia | omega)) (by (first | lia | omega)) (by (first | lia | omega)) fun t s' S => ?_
  rw [item_at hget]
  walk_at "ev"
  refine PySem.P.ne_str (wpAny_truthy_bool ?_)
  have e : (((⟨#[r[k]]⟩ : Str).cps.toList != (⟨#[c]⟩ : Str).cps.toList) : Bool) = !decide (r[k] = c) := by rw [← list_eq_one]; rfl
  rw [e]
  have hd : decide (r[k] = c) = decide (r[k]? = some c) := by
    rw [List.getElem?_eq_getElem hk]; simp
  rw [hd]
  by_cases q : r[k]? = some c
  · rw [if_neg (by simpa using q)]
    have := h _ S
    rw [decide_eq_true q] at this
    exact this
  · rw [if_pos (by simpa using q)]
    refine wpAny_allTrue_And_nil ?_
    have := h _ S
    rw [decide_eq_false q] at this
    exact this
end

theorem tr_fuel : ∀ {f g : Nat} {r : List Nat} {acc : List (Option Str)}, r.length ≤ f → r.length ≤ g → tr f r acc = tr g r acc
  | f, g, [], acc, _, _ => by cases f <;> cases g <;> rfl
  | 0, _, _ :: _, _, h, _ => by simp at h
  | _, 0, _ :: _, _, _, h => by simp at h
  | f + 1, g + 1, c :: r, acc, hf, hg => by
    have hf' : r.length ≤ f := by simpa using hf
    have hg' : r.length ≤ g := by simpa using hg
    rw [tr, tr]
    rw [tr_fuel (acc := pushStar acc) hf' hg', tr_fuel (acc := acc ++ [some ("." : Str)]) hf' hg', tr_fuel (acc := acc ++ [some (escT c)]) hf' hg']
    cases hb : brk r with
    | none => rfl
    | some q =>
      have h1 : (r.drop q.2).length ≤ f := by rw [List.length_drop]; (first | lia | omega)
      have h2 : (r.drop q.2).length ≤ g := by rw [List.length_drop]; (first | lia | omega)
      simp only [tr_fuel (acc := acc ++ [some q.1]) h1 h2]
theorem findC_get {c : Nat} {l : List Nat} {k p : Nat} (h : findC c (l.drop k) k = some p) : k ≤ p ∧ p < l.length := by
  have := findC_spec (c := c) (l := l.drop k) (k := k)
  rw [h] at this
  obtain ⟨n, rfl, h1, _⟩ := this
  obtain ⟨h2, _⟩ := List.getElem?_eq_some_iff.mp h1
  rw [List.length_drop] at h2
  (first | lia | omega)
theorem findC_next {c : Nat} {l : List Nat} {k p : Nat} (h : findC c (l.drop k) k = some p) : if l[k]? = some c then p = k else findC c (l.drop (k + 1)) (k + 1) = some p := by
  have hk : k < l.length := by have := findC_get h; (first | lia | omega)
  rw [List.drop_eq_getElem_cons hk, findC] at h
  rw [List.getElem?_eq_getElem hk]
  by_cases q : l[k] = c
  · rw [if_pos q] at h; rw [if_pos (by rw [q])]; exact (Option.some.inj h).symm
  · rw [if_neg q] at h; rw [if_neg (by simpa using q)]; exact h
theorem brk_inv {r : List Nat} {p : Str} {n : Nat} (h : brk r = some (p, n)) : ∃ J st, closeAt r = some J ∧ stuffOf (r.take J) = some st ∧ p = pieceOf st ∧ n = J + 1 := by
  unfold brk at h
  split at h
  · cases h
  · rename_i J hJ
    split at h
    · cases h
    · rename_i st hst
      cases h
      exact ⟨J, st, hJ, hst, rfl, rfl⟩
end Mine
namespace Mine

section
variable {w : World} {A : Around} {E : Value → Shared → Prop} {env : Env} {s₀ : Shared} {L : Addr} {P : PM} {m : Str → Option Value} {M : List (Addr × Obj)} {s : Shared}

theorem Call_method3 {o e₁ e₂ e₃ : Expr} {name : Str} {apos pos : Pos} {Q : Value → Shared → Prop}
    (hbase : attributeBase o name env (eval o env) = eval o env) (hs : starEach [e₁, e₂, e₃] env = [(false, eval e₁ env), (false, eval e₂ env), (false, eval e₃ env)]) (hline : (apos.endLine == pos.line) = true)
    (h : wpAny (mo w) A (eval o env) (fun ov s₁ => MethodOnS pw w A E name ov pos [(false, eval e₁ env), (false, eval e₂ env), (false, eval e₃ env)] Q s₁) E s) :
    wpAny (mo w) A (eval (.Call (.Attribute o name apos) [e₁, e₂, e₃] [] pos) env) Q E s := by
  refine wpAny_Call_method_lateS hbase (by rw [hs]; rfl) hline ?_
  rw [hs]; exact h
theorem onStr3 {name : Str} {id : String} {x : Str} {t : Tok} {pos : Pos} {a b c : Sem Value} {Q : Value → Shared → Prop} (slot : Slot "str" name id) (ty : typeOf (.builtin id) = pure (.type "method_descriptor"))
    (h : wpAny (mo w) A a (fun v s₁ => wpAny (mo w) A b (fun u s₂ => wpAny (mo w) A c (fun z s₃ => wpAny (mo w) A (call (.builtin id) [.str x t, v, u, z]) Q E s₃) E s₂) E s₁) E s) : MethodOnS pw w A E name (.str x t) pos [(false, a), (false, b), (false, c)] Q s :=
  ⟨"str", id, F.plainAttrs_str, slot, ty, typeIs_str _ _ _, (fun _ e => nomatch e), callWith_builtin rfl (evalArgs_plain (spliced_cons (wpAny_mono h (fun _ _ h₁ => spliced_cons (wpAny_mono h₁ (fun _ _ h₂ => spliced_cons (wpAny_mono h₂ (fun _ _ h₃ => spliced_nil h₃) fun _ _ e => e)) fun _ _ e => e)) fun _ _ e => e)))⟩
theorem onPat2 {pos : Pos} {a b : Sem Value} {o : Obj} {Q : Value → Shared → Prop} (ho : s.heap.get? 42 = some o) (hc : o.cls = .type "re.Pattern") (hd : o.dict = none)
    (h : wpAny (mo w) A a (fun v s₁ => wpAny (mo w) A b (fun u s₂ => wpAny (mo w) A (call (.builtin "re.Pattern.sub") [.ref 42, v, u]) Q E s₂) E s₁) E s) : MethodOnS pw w A E "sub" (.ref 42) pos [(false, a), (false, b)] Q s :=
  ⟨"re.Pattern", "re.Pattern.sub", attrs_pat, slot_pat_sub, type_pat_sub, ⟨o, ho, hc⟩, (fun _ e => by cases e; exact ⟨o, ho, hd⟩), callWith_builtin rfl (evalArgs_plain (spliced_cons (wpAny_mono h (fun _ _ h₁ => spliced_cons (wpAny_mono h₁ (fun _ _ h₂ => spliced_nil h₂) fun _ _ e => e)) fun _ _ e => e)))⟩

theorem g_replace {x y z : Str} {t u v : Tok} {Q : Value → Shared → Prop} (hu : u ≠ 0) (hv : v ≠ 0) (huv : u ≠ v) (hyz : (y == z) = false) (hx : x.length ≤ 1000) (hz : z.length ≤ 10)
    (h : ∀ t k, Q (.str (Txt.replace x y z) t) { s with toks := k }) : wpAny (mo w) A (call (.builtin "str.replace") [.str x t, .str y u, .str z v]) Q E s := by
  have hmul : (x.length + 1) * z.length ≤ (x.length + 1) * 10 := Nat.mul_le_mul_left _ hz
  have hb : x.length + (x.length + 1) * z.length ≤ 16777216 := by (first | lia | omega)
  have ho := StrLaws.occ_length_le x y 0 x.length (x.length + 1)
  have hom : (Builtin.Str.occurrences x y 0 x.length (x.length + 1)).length * z.length ≤ (x.length + 1) * z.length := Nat.mul_le_mul_right _ ho
  have hl : Builtin.Str.tooLong (x.length + (Builtin.Str.occurrences x y 0 x.length (x.length + 1)).length * z.length) = false := by
    have e : (2 : Nat) ^ 24 = 16777216 := by decide
    unfold Builtin.Str.tooLong sizeLine
    exact decide_eq_false (by (first | lia | omega))
  refine call_gives PySem.F.slot_str_replace (typeIs_str _ _ _) PySem.F.entry_str_replace (PySem.F.args_str_replace_3 _ _ _)
    (gives_str_replace x y z t u v fun _ => ⟨by simp [hu, hv], by simp [huv], hyz, hl⟩) ?_
  unfold Txt.replace at h
  split
  · rename_i c
    rw [if_pos c] at h
    exact h t s.toks
  · rename_i c
    rw [if_neg c] at h
    exact ⟨fits_replaced y hb, h _ _⟩
theorem g_replace0 {x y z : Str} {t u v : Tok} {Q : Value → Shared → Prop} (hc : (Builtin.Str.occurrences x y 0 x.length (x.length + 1)).isEmpty = true) (h : Q (.str x t) s) : wpAny (mo w) A (call (.builtin "str.replace") [.str x t, .str y u, .str z v]) Q E s := by
  refine call_gives PySem.F.slot_str_replace (typeIs_str _ _ _) PySem.F.entry_str_replace (PySem.F.args_str_replace_3 _ _ _)
    (gives_str_replace x y z t u v fun q => by rw [hc] at q; cases q) ?_
  rw [hc]
  exact h

theorem no_back {x : Str} (h : x ∈ chunkL) : (Builtin.Str.occurrences x "\\" 0 x.length (x.length + 1)).isEmpty = true ∧ x.length ≤ 10 := by
  simp only [chunkL, List.mem_cons, List.not_mem_nil, or_false] at h
  rcases h with rfl | rfl | rfl | rfl | rfl | rfl | rfl | rfl <;> exact ⟨by kernel_rfl, by decide⟩
theorem no_back2 {x : Str} (h : x ∈ plainL) : (Builtin.Str.occurrences x "\\" 0 x.length (x.length + 1)).isEmpty = true ∧ x ∈ subL := by
  simp only [plainL, List.mem_cons, List.not_mem_nil, or_false] at h
  rcases h with rfl | rfl | rfl <;> exact ⟨by kernel_rfl, by decide⟩

/-- s.replace('\\', '\\\\').replace('-', '\\-') in the generator -/
theorem elt_rep {p1 p2 p3 p4 p5 p6 p7 p8 : Pos} {k1 k2 k3 k4 : Nat} {scope : Scope} {C bi : Addr} {code : Value} {A' : Around} {E' : Value → Shared → Prop} {a : Str} {t : Tok} {s₂ : Shared} {m₂ : Str → Option Value} {p9 : Pos}
    (hk : scope.kind = .function) (hx : scope.names.lookup ("s" : Str) = some .local) (ha : a ∈ chunkL) (hn : s₂.heap.Ns C m₂) (hm : m₂ "s" = some (.str a t)) (hl1 : (p2.endLine == p5.line) = true) (hl2 : (p6.endLine == p9.line) = true) :
    wpAny (mo w) A' (eval (.Call (.Attribute (.Call (.Attribute (.Name "s" p1) "replace" p2) [.Constant (.str "\\") k1 p3, .Constant (.str "\\\\") k2 p4] [] p5) "replace" p6) [.Constant (.str "-") k3 p7, .Constant (.str "\\-") k4 p8] [] p9) (genEnv scope [] C code bi env))
      (fun y s₃ => (∃ u, y = .str (repC a) u) ∧ Keeps s₂ s₃) E' s₂ := by
  obtain ⟨h1, h2⟩ := no_back ha
  refine PySem.Call_method2 (by k_dflt rfl) (by k_dflt rfl) hl2 ?_
  refine PySem.Call_method2 (by k_dflt rfl) (by k_dflt rfl) hl1 ?_
  refine wpAny_Name (wpAny_loadName_local (env := genEnv scope [] C code bi env) hk hx hn hm ?_) (by kernel_rfl)
  refine onStr2 PySem.F.slot_str_replace PySem.F.type_str_replace ?_
  refine wpAny_Constant_str (wpAny_Constant_str ?_)
  refine g_replace0 h1 ?_
  refine onStr2 PySem.F.slot_str_replace PySem.F.type_str_replace ?_
  refine wpAny_Constant_str (wpAny_Constant_str ?_)
  refine g_replace (Nat.succ_ne_zero _) (Nat.succ_ne_zero _) (Nat.ne_of_lt (Nat.lt_succ_self _)) (by kernel_rfl) (by (first | lia | omega)) (by decide) fun t k => ?_
  exact ⟨⟨t, rfl⟩, _, _, rfl, fun _ _ e => e⟩

/-- range(b, 0, -1) -/
theorem o_rangeD {n : Nat} {t u v : Tok} {Q : Value → Shared → Prop} (S : At s₀ P L m M s) (hh : A.handled = none) (hb : n < 1000000)
    (h : ∀ r P' s', P.le P' → At s₀ P' L m M s' → Its w A s₀ P' (.ref r) n (fun i v => ∃ t, v = .int ((n : Int) + i * (-1)) t) (RangeO n (-1) n) → Q (.ref r) s') : wpAny (mo w) A (call (.type "range") [.int n t, .int 0 u, .int (-1) v]) Q E s := by
  refine call_range_3 (by decide) ?_ (.inl (PyProof.noPylong_small (by (first | lia | omega))))
  obtain ⟨hn, T⟩ := S.pushP { cls := .type "range", data := .fields #[.int n t, .int 0 u, .int (-1) v] }
  refine h _ _ _ (PM.le_put hn) (T.toks1 0) (.range hh (PM.put_self ..) (PySem.W.small_down (by (first | lia | omega)) (by (first | lia | omega)) (by (first | lia | omega)) (by (first | lia | omega))) ?_)
  rw [PySem.W.rangeSize_downNat]
  (first | lia | omega)
theorem findC_shift {c : Nat} (a : Nat) : ∀ (l : List Nat) (k : Nat), findC c l (a + k) = (findC c l k).map (a + ·)
  | [], _ => rfl
  | d :: r, k => by
    unfold findC
    by_cases h : d = c
    · rw [if_pos h, if_pos h]; rfl
    · rw [if_neg h, if_neg h]; exact findC_shift a r (k + 1)

/-- a slice of a text that an expression gives -/
theorem r_sliceS' {value : Expr} {lower upper : Option Expr} {p pos : Pos} {Q : Value → Shared → Prop} (_S : At s₀ P L m M s)
    (h : wpAny (mo w) A (eval value env) (fun o s₁ => wpAny (mo w) A (evalPart lower env) (fun vl s₂ => wpAny (mo w) A (evalPart upper env) (fun vu s₃ => SliceSOk s₀ L Q o vl vu s₃) E s₂) E s₁) E s)
    (hs : ∀ x t a, subscripted (.Slice lower upper none p) false (.str x t) (.ref a) = operate [.ref a, .str x t] (getItem (.str x t) (.ref a)) := by intro _ _ _; with_unfolding_all rfl)
    (ht : ∀ x t r, letTemporaryGo value (.str x t) r = pure () := by intro _ _ _; with_unfolding_all rfl) : wpAny (mo w) A (eval (.Subscript value (.Slice lower upper none p) pos) env) Q E s := by
  refine Subscript_ (wpAny_mono h (fun o s₁ h₁ => wpAny_Slice (wpAny_mono h₁ (fun vl s₂ h₂ => wpAny_mono h₂ (fun vu s₃ h₃ => ?_) fun _ _ e => e) fun _ _ e => e)) fun _ _ e => e)
  obtain ⟨x, t, l, u, P₁, m₁, M₁, rfl, S, hx, rfl, rfl, q⟩ := h₃
  rw [evalPart_none]
  refine wpAny_pure ?_
  have S₁ := S.drop1 { cls := .type "slice", data := .fields #[partValue l, partValue u, .none] }
  have ep : slicePicked x l u none = Builtin.Str.strSliceIndices (l.map (·.1)) (u.map (·.1)) 1 x.length := rfl
  have hpost : (sliceMade x t l u none).post Q { s₃ with heap := s₃.heap.push { cls := .type "slice", data := .fields #[partValue l, partValue u, .none] } } := by
    unfold sliceMade
    rw [ep, picks_eq]
    split
    · rename_i hw
      have e : strSlice x (l.map (·.1)) (u.map (·.1)) = x := by
        unfold strSlice
        rw [cut_whole (by simpa using hw)]
      have := q t _ S₁
      rw [e] at this
      exact this
    · refine ⟨?_, q _ _ (S₁.toks1 1)⟩
      rw [sizeLine_eq]
      show (cutL x.cps.toList (l.map (·.1)) (u.map (·.1))).toArray.size ≤ _
      have := cut_len x.cps.toList (l.map (·.1)) (u.map (·.1))
      have e : x.cps.toList.length = x.length := by simp [Str.length]
      simp only [List.size_toArray]
      (first | lia | omega)
  unfold subscriptTail
  refine wpAny_bind ?_
  rw [getitemInPython_of_ne (typeIs_str s₃ x t).not_modules]
  refine wpAny_bind (wpAny_specialOf (typeIs_str _ x t) F.slot_str_getitem.lookup ?_)
  have hitem : wpAny (mo w) A (getItem (.str x t) (.ref s₃.heap.objs.size)) Q E { s₃ with heap := s₃.heap.push { cls := .type "slice", data := .fields #[partValue l, partValue u, .none] } } :=
    wpAny_getItem_str_slice (l := l) (u := u) (st := none) ⟨_, Heap.get?_push_size _ rfl, rfl, rfl⟩ rfl hpost
  have fin : wpAny (mo w) A (subscripted (.Slice lower upper none p) false (.str x t) (.ref s₃.heap.objs.size)) (fun r s₄ => wpAny (mo w) A (letTemporaryGo value (.str x t) r >>= fun _ => pure r) Q E s₄) E { s₃ with heap := s₃.heap.push { cls := .type "slice", data := .fields #[partValue l, partValue u, .none] } } := by
    rw [hs]
    exact wpAny_operating (wpAny_mono hitem (fun r s₃ h₃ => wpAny_bind (wpAny_of_eq (ht x t r) (wpAny_pure h₃))) fun _ _ x => x)
  first
    | exact wpAny_pure (wpAny_bind fin)
    | exact wpAny_bind (wpAny_pure (wpAny_bind fin))
    | exact wpAny_bind fin

noncomputable def dashI (I : Nat) : Option Nat → Int
  | some p => ((I + p : Nat) : Int)
  | none => -1
theorem o_findD {pat : Str} {t u v z : Tok} {I ka J : Nat} {W : List Nat} {Q : Value → Shared → Prop} (S : At s₀ P L m M s) (hJ : I + J ≤ pat.length) (hk : ka ≤ 10000) (hsz : pat.length ≤ 10000) (hW : (pat.cps.toList.take (I + J)).drop (I + ka) = W)
    (h : ∀ t s', At s₀ P L m M s' → Q (.int (dashI I (findC 45 W ka)) t) s') :
    wpAny (mo w) A (call (.builtin "str.find") [.str pat t, .str "-" u, .int ((I + ka : Nat) : Int) v, .int ((I + J : Nat) : Int) z]) Q E s := by
  refine o_find4 S (by (first | lia | omega)) (by (first | lia | omega)) fun t s' S => ?_
  have e := occ_find pat 45 (I + ka) (I + J) hJ
  rw [hW, findC_shift] at e
  have e2 : (match Option.map (fun x => I + x) (findC 45 W ka) with | some p => (p : Int) | none => -1) = dashI I (findC 45 W ka) := by cases findC 45 W ka <;> rfl
  have hmin : min (((I + J : Nat) : Int)).toNat pat.length = I + J := by (first | lia | omega)
  rw [hmin, Int.toNat_natCast]
  have q := h t s' S
  rw [← e.trans e2] at q
  exact q
end

theorem get_of_map {l : List (Str × Tok)} {cs : List (List Nat)} {k : Nat} {a : List Nat} (h : l.map (·.1) = cs.map sg) (hk : cs[k]? = some a) : ∃ t, l[k]? = some (sg a, t) := by
  have h1 := congrArg (fun l => l[k]?) h
  simp only [List.getElem?_map, hk, Option.map_some] at h1
  cases hl : l[k]? with
  | none => rw [hl] at h1; cases h1
  | some p => rw [hl] at h1; obtain ⟨x, t⟩ := p; cases h1; exact ⟨t, rfl⟩
theorem get_strs {l : List (Str × Tok)} {k : Nat} {x : Str} {t : Tok} (h : l[k]? = some (x, t)) : (strValues l).toArray[k]? = some (.str x t) := by
  simp [strValues, h]
theorem gt_signs (x y : Nat) : decide ((⟨#[y]⟩ : Str).cps.toList < (⟨#[x]⟩ : Str).cps.toList) = decide (y < x) := by
  show decide ([y] < [x]) = _
  by_cases h : y < x
  · rw [decide_eq_true h, decide_eq_true]
    simp [List.cons_lt_cons_iff, h]
  · rw [decide_eq_false h, decide_eq_false]
    simp [List.cons_lt_cons_iff, h]
theorem sg_app (a b : List Nat) : sg a ++ sg b = sg (a ++ b) := by
  show Str.append (sg a) (sg b) = _
  simp [Str.append, sg]
theorem sg_len (a : List Nat) : (sg a).length = a.length := by simp [sg, Str.length]

noncomputable def lsum (cs : List (List Nat)) : Nat := (cs.map List.length).sum
theorem lsum_app (a b : List (List Nat)) : lsum (a ++ b) = lsum a + lsum b := by unfold lsum; simp
theorem lsum_mem {c : List Nat} : ∀ {cs : List (List Nat)} {k : Nat}, cs[k]? = some c → c.length ≤ lsum cs
  | [], _, h => by simp at h
  | d :: r, 0, h => by
    simp only [List.getElem?_cons_zero, Option.some.injEq] at h
    subst h
    unfold lsum; simp
  | d :: r, k + 1, h => by
    simp only [List.getElem?_cons_succ] at h
    have := lsum_mem h
    unfold lsum at this ⊢
    simp; (first | lia | omega)
theorem lsum_merge {a b : List Nat} : ∀ {cs : List (List Nat)} {k : Nat}, cs[k]? = some a → cs[k + 1]? = some b → lsum ((cs.set k (a.dropLast ++ b.tail)).eraseIdx (k + 1)) ≤ lsum cs
  | [], _, h, _ => by simp at h
  | d :: [], 0, _, h => by simp at h
  | d :: e :: r, 0, h1, h2 => by
    simp only [List.getElem?_cons_zero, Option.some.injEq, List.getElem?_cons_succ] at h1 h2
    subst h1 h2
    simp only [List.set_cons_zero, List.eraseIdx_cons_succ, List.eraseIdx_cons_zero, lsum, List.map_cons, List.sum_cons, List.length_append, List.length_dropLast, List.length_tail]
    (first | lia | omega)
  | d :: r, k + 1, h1, h2 => by
    simp only [List.getElem?_cons_succ] at h1 h2
    have := lsum_merge h1 h2
    simp only [List.set_cons_succ, List.eraseIdx_cons_succ, lsum, List.map_cons, List.sum_cons] at this ⊢
    (first | lia | omega)

theorem map_erase {α β : Type} (f : α → β) : ∀ (l : List α) (k : Nat), (l.map f).eraseIdx k = (l.eraseIdx k).map f
  | [], _ => rfl
  | _ :: _, 0 => rfl
  | a :: r, k + 1 => by simp [map_erase f r k]
theorem rep_len {x : Str} (h : x ∈ chunkL) : (repC x).length ≤ 10 := by
  simp only [chunkL, List.mem_cons, List.not_mem_nil, or_false] at h
  rcases h with rfl | rfl | rfl | rfl | rfl | rfl | rfl | rfl <;> exact of_decide_eq_true (by kernel_rfl)
theorem sum_le10 : ∀ {ys : List Str}, (∀ y ∈ ys, y.length ≤ 10) → (ys.map (·.length)).sum ≤ 10 * ys.length
  | [], _ => Nat.le_refl _
  | y :: r, h => by
    have h1 := h y (.head _)
    have h2 := sum_le10 (ys := r) fun z hz => h z (.tail _ hz)
    simp only [List.map_cons, List.sum_cons, List.length_cons]
    (first | lia | omega)

theorem piece_star {st : Str} (h : st ∈ subL) : pieceOf st ≠ "*" := by
  simp only [subL, List.mem_cons, List.not_mem_nil, or_false] at h
  rcases h with rfl | rfl | rfl | rfl | rfl | rfl | rfl <;> decide +kernel
end Mine
namespace Mine
set_option hygiene false in
local macro_rules | `(tactic| walk_at "ev") => `(tactic| repeat (first | walk_at "rk" | walk_at "e1"))

theorem esc_ok {c : Nat} (h : escB c = true) : EscOk c ∧ escS c = escT c ∧ escT c ≠ "*" := by
  simp only [escB, List.contains_cons, List.contains_nil, Bool.or_false, Bool.or_eq_true, beq_iff_eq] at h
  rcases h with rfl | rfl | rfl | rfl
  · exact ⟨⟨by decide, .inl rfl⟩, rfl, by decide⟩
  · exact ⟨⟨by decide, .inr rfl⟩, rfl, by decide⟩
  · exact ⟨⟨by decide, .inr rfl⟩, rfl, by decide⟩
  · exact ⟨⟨by decide, .inl rfl⟩, rfl, by decide⟩

/-- what a star may be -/
noncomputable def StarOK (σ : Value) (n : Nat) : Prop := match σ with
  | .str y u => u ≠ 0 ∧ u < n ∧ y = "*"
  | .ref _ => True
  | _ => False
theorem StarOK.sig {σ : Value} {n : Nat} (h : StarOK σ n) : SigOK σ := by
  cases σ with
  | str y u => exact h.1
  | ref a => trivial
  | _ => exact h.elim
theorem StarOK.apart {σ : Value} {n : Nat} (h : StarOK σ n) {x : Str} {t : Tok} (ht : n ≤ t) (hx : x ≠ "*") : Apart σ x t := by
  cases σ with
  | str y u =>
    obtain ⟨h1, h2, rfl⟩ := h
    exact ⟨Nat.ne_of_gt (Nat.lt_of_lt_of_le (Nat.lt_of_le_of_lt (Nat.zero_le u) h2) ht), Nat.ne_of_gt (Nat.lt_of_lt_of_le h2 ht), hx⟩
  | _ => trivial

/-! what holds at the turns and ends of _translate's loops and ifs -/
inductive T1 (w : World) (s : Shared) (L : Addr) (pat : Str) (tq : Tok) (σ : Value) (D b : Addr) (out : List (Option Str)) (r : Nat) (s' : Shared) : Prop
  | mk (P' : PM) (pre rest : List Nat) (m' : Str → Option Value) (vs : Array Value) (nn : Nat) (acc : List (Option Str)) (h1 : (allOf s.heap).le P') (h2 : Base w P') (h3 : P' b = some (boundO "list.append" D)) (h4 : pat.cps.toList = pre ++ rest)
    (h5 : r = rest.length) (h6 : tr rest.length rest acc = some out) (h7 : TF m' pat tq σ D b pre.length) (h8 : PVs σ vs acc) (h9 : acc.length ≤ 2 * pre.length) (h10 : At s P' L m' [(D, listOf vs nn)] s')
inductive T2 (s : Shared) (L : Addr) (pat : Str) (tq : Tok) (σ : Value) (D b : Addr) (out : List (Option Str)) (s' : Shared) : Prop
  | mk (P' : PM) (m' : Str → Option Value) (vs : Array Value) (nn : Nat) (h1 : (allOf s.heap).le P') (h2 : TF m' pat tq σ D b pat.length) (h3 : PVs σ vs out) (h4 : At s P' L m' [(D, listOf vs nn)] s')
inductive TJ (s : Shared) (P' : PM) (L : Addr) (pat : Str) (tq : Tok) (σ : Value) (D b : Addr) (I : Nat) (vs : Array Value) (nn N : Nat) (s' : Shared) : Prop
  | mk (m' : Str → Option Value) (h1 : TF m' pat tq σ D b I) (h2 : ∃ tj, m' "j" = some (.int (N : Int) tj)) (h3 : At s P' L m' [(D, listOf vs nn)] s')
inductive T3 (s : Shared) (P' : PM) (L : Addr) (pat : Str) (tq : Tok) (σ : Value) (D b : Addr) (I : Nat) (vs : Array Value) (nn : Nat) (rest : List Nat) (J q : Nat) (s' : Shared) : Prop
  | mk (k : Nat) (m' : Str → Option Value) (h0 : q = rest.length - k) (h1 : findC 93 (rest.drop k) k = some J) (h2 : TF m' pat tq σ D b I) (h3 : ∃ tj, m' "j" = some (.int ((I + k : Nat) : Int) tj)) (h4 : At s P' L m' [(D, listOf vs nn)] s')
inductive T4 (s : Shared) (P' : PM) (L : Addr) (pat : Str) (tq : Tok) (σ : Value) (D b : Addr) (vs : Array Value) (nn N : Nat) (st : Str) (s' : Shared) : Prop
  | mk (P2 : PM) (m' : Str → Option Value) (ii : Nat) (h0 : P'.le P2) (h1 : st ∈ subL) (h2 : TF m' pat tq σ D b ii) (h3 : ∃ tj, m' "j" = some (.int (N : Int) tj)) (h4 : ∃ t, m' "stuff" = some (.str st t)) (h5 : At s P2 L m' [(D, listOf vs nn)] s')
inductive T5 (s : Shared) (P' : PM) (L : Addr) (pat : Str) (tq : Tok) (σ : Value) (D b : Addr) (I : Nat) (vs : Array Value) (nn J : Nat) (W : List Nat) (iE : Nat) (cs0 : List (List Nat)) (Cc : Addr) (q : Nat) (s' : Shared) : Prop
  | mk (ia ka : Nat) (ac : List (List Nat)) (l : List (Str × Tok)) (nl : Nat) (m' : Str → Option Value) (h1 : chunksGo W q ia ka ac = some (iE, cs0)) (h2 : l.map (·.1) = ac.map sg) (h3 : TF m' pat tq σ D b (I + ia)) (h4 : ∃ t, m' "k" = some (.int ((I + ka : Nat) : Int) t)) (h5 : ∃ tj, m' "j" = some (.int ((I + J : Nat) : Int) tj))
    (h6 : m' "chunks" = some (.ref Cc)) (h7 : ia ≤ J) (h8 : ia ≤ ka) (h9 : ka ≤ J + 3) (h10 : ac.length + q ≤ J + 1) (h11 : lsum ac ≤ ia) (h12 : At s P' L m' [(Cc, listOf (strValues l).toArray nl), (D, listOf vs nn)] s')
inductive T6 (s : Shared) (P' : PM) (L : Addr) (pat : Str) (tq : Tok) (σ : Value) (D b : Addr) (I : Nat) (vs : Array Value) (nn J iE : Nat) (cs0 : List (List Nat)) (Cc : Addr) (s' : Shared) : Prop
  | mk (l : List (Str × Tok)) (nl : Nat) (m' : Str → Option Value) (h2 : l.map (·.1) = cs0.map sg) (h3 : TF m' pat tq σ D b (I + iE)) (h5 : ∃ tj, m' "j" = some (.int ((I + J : Nat) : Int) tj))
    (h6 : m' "chunks" = some (.ref Cc)) (h7 : iE ≤ J) (h8 : cs0.length ≤ 1001) (h9 : lsum cs0 ≤ iE) (h12 : At s P' L m' [(Cc, listOf (strValues l).toArray nl), (D, listOf vs nn)] s')
inductive T7 (pat : Str) (tq : Tok) (σ : Value) (D b : Addr) (I N : Nat) (vs : Array Value) (nn : Nat) (cs : List (List Nat)) (n0 : Nat) (Cc : Addr) (kk : Nat) (m' : Str → Option Value) (M' : List (Addr × Obj)) : Prop
  | mk (cs' : List (List Nat)) (l : List (Str × Tok)) (nl : Nat) (h1 : mergeGo (n0 - kk) cs' = some cs) (h2 : l.map (·.1) = cs'.map sg) (h3 : l.length ≤ 1002) (h4 : lsum cs' ≤ 1000) (h5 : TF m' pat tq σ D b I) (h6 : ∃ tj, m' "j" = some (.int (N : Int) tj)) (h7 : m' "chunks" = some (.ref Cc))
    (h8 : M' = [(Cc, listOf (strValues l).toArray nl), (D, listOf vs nn)])
inductive T8 (s : Shared) (P3 : PM) (L : Addr) (pat : Str) (tq : Tok) (σ : Value) (D b : Addr) (I : Nat) (vs : Array Value) (nn : Nat) (st : Str) (s' : Shared) : Prop
  | mk (m2 : Str → Option Value) (st2 : Str) (t2 : Tok) (h1 : TF m2 pat tq σ D b I) (h2 : m2 "stuff" = some (.str st2 t2)) (h3 : "[" ++ st2 ++ "]" = pieceOf st) (h4 : st2.length ≤ 10) (h5 : At s P3 L m2 [(D, listOf vs nn)] s')

set_option maxHeartbeats 1000000 in
theorem trans_spec {w : World} {A : Around} {s : Shared} {pat : Str} {tp tq : Tok} {σ : Value} {out : List (Option Str)} (O : Ok w s) (hd : A.depth + 2 < recursionLimit) (hh : A.handled = none)
    (hσ : StarOK σ s.toks) (hq : Apart σ "." tq) (hs0 : 0 < s.toks) (hlen : pat.length ≤ 1000) (htr : tr pat.length pat.cps.toList [] = some out) :
    wpAny (mo w) A (call (.ref 68) [.str pat tp, σ, .str "." tq]) (fun v s' => Mv [] s s' ∧ ∃ a vs n, v = .ref a ∧ newOf s s' a = some (listOf vs n) ∧ PVs σ vs out) NoE s := by
  refine wpAny_call (enter [("pat", .str pat tp), ("STAR", σ), ("QUESTION_MARK", .str "." tq)] O (by (first | lia | omega)) ⟨_, _, _, rfl⟩ (by kernel_rfl) rfl (by kernel_rfl) (by kernel_rfl) (by kernel_rfl) rfl rfl rfl fun L s₁ S B => absQ fun KR kR => ?_)
  have hA : (A.deeper (envF w 68 L)).handled = none := hh
  have hA1 : (A.deeper (envF w 68 L)).depth + 1 < recursionLimit := by show A.depth + 1 + 1 < _; (first | lia | omega)
  have hsig := hσ.sig
  with_reducible refine x_assign S ?_
  with_reducible refine r_empty S fun D s' S => ?_
  refine ⟨_, _, _, S, fun s' S => ?_⟩
  with_reducible refine x_assign S ?_
  refine r_append (vs := #[]) (n := 0) S rfl (by simp) fun b P1 s' l1 eb S => ?_
  refine ⟨_, _, _, S, fun s' S => ?_⟩
  have B := B.mono l1
  with_reducible refine x_tup2 S hA ?_
  walk_at "ev"
  with_reducible refine c_built S B ?_ (he := by k_dflt rfl) (hplain := by k_dflt rfl)
  with_reducible refine spliced_more ?_ (by k_dflt rfl)
  walk_at "ev"
  with_reducible refine spliced_none ?_
  refine o_lenS S (by (first | lia | omega)) fun tn s' S => ?_
  refine ⟨_, _, _, S, fun s' S => ?_⟩
  refine x_loopA (fun r s' => T1 w s L pat tq σ D b out r s')
    (fun s' => T2 s L pat tq σ D b out s')
    pat.length ⟨P1, [], pat.cps.toList, _, #[], 0, [], l1, B, eb, rfl, (len_toList pat).symm, by rw [len_toList]; exact htr, ⟨⟨_, by walk_at "lk"⟩, by walk_at "lk", by walk_at "lk", by walk_at "lk", by walk_at "lk", ⟨_, by walk_at "lk"⟩, ⟨_, by walk_at "lk"⟩⟩, .nil σ, Nat.le_refl _, S⟩ (fun r s' K K' hI kN kB kE => ?_) (fun s' hR => ?_)
  · clear S B eb l1
    obtain ⟨P', pre, rest, m', vs, nn, acc, l1, B, eb, hpat, hr, htr, F, hvs, hacc, S⟩ := hI
    have hF := F
    obtain ⟨⟨t1, f1⟩, f2, f3, f4, f5, ⟨t6, f6⟩, ⟨t7, f7⟩⟩ := F
    have hN : pat.length = pre.length + rest.length := by rw [← len_toList, hpat, List.length_append]
    have hvl := hvs.size
    refine wpAny_isTrue_Compare1 ?_
    walk_at "ev"
    refine PyProof.Rows.lt_int (wpAny_truthy_bool ?_)
    cases rest with
    | nil =>
      have hN : pat.length = pre.length := by simpa using hN
      rw [if_neg (by simp; (first | lia | omega))]
      refine x_nil (kE _ ⟨P', m', vs, nn, l1, hN ▸ hF, ?_, S⟩)
      cases Option.some.inj htr
      exact hvs
    | cons c rest =>
      have hN1 : pat.length = pre.length + rest.length + 1 := by rw [List.length_cons] at hN; (first | lia | omega)
      rw [if_pos (decide_eq_true (by (first | lia | omega)))]
      with_reducible refine x_assign S ?_
      walk_at "ev"
      have hget : pat.cps.toList[pre.length]? = some c := by rw [hpat]; simp
      refine o_sign S (by (first | lia | omega)) (by (first | lia | omega)) (by (first | lia | omega)) fun tc s' S => ?_
      rw [item_at hget]
      refine ⟨_, _, _, S, fun s' S => ?_⟩
      with_reducible refine x_assign S ?_
      walk_at "ev"
      refine ⟨_, _, _, S, fun s' S => ?_⟩
      have hF := (hF.other (x := "c") (v := .str ⟨#[c]⟩ tc) (by kernel_rfl)).step (i' := (pre ++ [c]).length) (z := (pre.length : Int) + 1) (t := t) (by simp)
      have hpat1 : pat.cps.toList = (pre ++ [c]) ++ rest := by rw [hpat]; simp
      have hc : updm (updm m' "c" (.str ⟨#[c]⟩ tc)) "i" (.int ((pre.length : Int) + 1) t) "c" = some (.str ⟨#[c]⟩ tc) := by walk_at "lk"
      generalize updm (updm m' "c" (.str ⟨#[c]⟩ tc)) "i" (.int ((pre.length : Int) + 1) t) = m1 at S hF hc
      have hp1 : (pre ++ [c]).length = pre.length + 1 := by simp
      have hL1 : pat.length = (pre ++ [c]).length + rest.length := by (first | lia | omega)
      have hN1 : pat.length = pre.length + rest.length + 1 := hN1
      generalize pre ++ [c] = pre1 at hF hpat1 hp1 hL1
      rw [show (c :: rest).length = rest.length + 1 from rfl, tr] at htr
      have hr1 : rest.length < r := by rw [hr]; simp
      clear f1 f2 f3 f4 f5 f6 f7 hget hpat hN
      obtain ⟨⟨t1, f1⟩, f2, f3, f4, f5, ⟨t6, f6⟩, ⟨t7, f7⟩⟩ := id hF
      with_reducible refine x_ifT (wpAny_isTrue_Compare1 ?_)
      walk_at "ev"
      refine PySem.P.eq_str (wpAny_truthy_bool ?_)
      rw [show (Str.ofString "*") = ⟨#[42]⟩ from by kernel_rfl, list_eq_one]
      by_cases h42 : c = 42
      · rw [if_pos (decide_eq_true h42)]
        rw [if_pos h42] at htr
        have fin : ∀ vs' nn' s', At s P' L m1 [(D, listOf vs' nn')] s' → PVs σ vs' (pushStar acc) → K .next s' := fun vs' nn' s' S hv => kN rest.length _ hr1 ⟨P', pre1, rest, m1, vs', nn', _, l1, B, eb, hpat1, rfl, htr, hF, hv, by
            have : (pushStar acc).length ≤ acc.length + 1 := by unfold pushStar; split <;> simp
            (first | lia | omega), S⟩
        with_reducible refine x_ifT (wpAny_mono (Q := fun b s' => b = decide (acc.getLast? ≠ some none) ∧ At s P' L m1 [(D, listOf vs nn)] s') ?_ (fun b s' ⟨hb, S⟩ => ?_) fun _ _ x => x)
        · refine wpAny_isTrue_BoolOp (wpAny_allTrue_Or_cons (wpAny_isTrue_Not ?_))
          with_reducible refine wpAny_isTrue_value ?_ (by k_dflt rfl)
          walk_at "ev"
          refine wpAny_truthy_list ⟨_, S.live (D, listOf vs nn) (by simp), rfl, nn, rfl⟩ (by (first | lia | omega)) ?_
          have S := S.toks1 2
          by_cases ha : acc = []
          · have hv0 : vs.isEmpty = true := by rw [Array.isEmpty_iff_size_eq_zero, hvl, ha]; rfl
            rw [hv0]
            exact ⟨by rw [ha]; rfl, S⟩
          · have hal : 0 < acc.length := List.length_pos_iff.mpr ha
            have hv0 : vs.isEmpty = false := by
              cases q : vs.isEmpty with
              | false => rfl
              | true => rw [Array.isEmpty_iff_size_eq_zero] at q; (first | lia | omega)
            rw [hv0]
            show wpAny (mo w) _ (allTrue .Or _ _) _ _ _
            refine wpAny_allTrue_Or_cons (wpAny_isTrue_Compare1 ?_)
            with_reducible refine Subscript_ ?_
            with_reducible refine r_local S ?_ (by kernel_rfl) (by walk_at "lk") (by kernel_rfl)
            with_reducible refine wpAny_UnaryOp ?_
            walk_at "ev"
            refine o_neg S fun t s' S => ?_
            have hlast : acc.getLast? = some (acc.getLast ha) := List.getLast?_eq_some_getLast ha
            obtain ⟨v, hv, hpv⟩ := hvs.get (acc.length - 1) (acc.getLast ha) (by rw [← List.getLast?_eq_getElem?]; exact hlast)
            refine o_itemN (S.live (D, listOf vs nn) (by simp)) (by (first | lia | omega)) (by (first | lia | omega)) (x := v) ?_ (by (first | lia | omega)) ?_
            · have : (-1 + (vs.size : Int)).toNat = acc.length - 1 := by (first | lia | omega)
              rw [this]; exact hv
            · walk_at "ev"
              refine isnot_part hsig hpv (wpAny_truthy_bool ?_)
              rw [hlast]
              cases acc.getLast ha with
              | none => exact wpAny_allTrue_Or_nil ⟨rfl, S⟩
              | some x => exact ⟨by simp, S⟩
        · subst hb
          by_cases ha : acc.getLast? = some none
          · rw [if_neg (by simpa using ha)]
            exact x_nil (fin _ _ _ S (by unfold pushStar; rw [if_pos ha]; exact hvs))
          · rw [if_pos (decide_eq_true ha)]
            with_reducible refine x_expr ?_
            refine r_addcall S f4 ?_ (he := by k_dflt rfl)
            walk_at "ev"
            refine ⟨_, _, _, D, [], [], _, _, S, eb, rfl, by (first | lia | omega), fun s' S => x_nil (fin _ _ _ S ?_)⟩
            unfold pushStar
            rw [if_neg ha]
            exact hvs.push rfl
      rw [if_neg (by simpa using h42)]
      rw [if_neg h42] at htr
      with_reducible refine x_ifT (wpAny_isTrue_Compare1 ?_)
      walk_at "ev"
      refine PySem.P.eq_str (wpAny_truthy_bool ?_)
      rw [show (Str.ofString "?") = ⟨#[63]⟩ from by kernel_rfl, list_eq_one]
      by_cases h63 : c = 63
      · rw [if_pos (decide_eq_true h63)]
        rw [if_pos h63] at htr
        with_reducible refine x_expr ?_
        refine r_addcall S f4 ?_ (he := by k_dflt rfl)
        walk_at "ev"
        refine ⟨_, _, _, D, [], [], _, _, S, eb, rfl, by (first | lia | omega), fun s' S => ?_⟩
        refine x_nil (kN rest.length _ hr1 ⟨P', pre1, rest, m1, _, _, _, l1, B, eb, hpat1, rfl, htr, hF, hvs.push (p := some ".") ⟨tq, rfl, hq⟩, by simp; (first | lia | omega), S⟩)
      rw [if_neg (by simpa using h63)]
      rw [if_neg h63] at htr
      with_reducible refine x_ifT (wpAny_isTrue_Compare1 ?_)
      walk_at "ev"
      refine PySem.P.eq_str (wpAny_truthy_bool ?_)
      rw [show (Str.ofString "[") = ⟨#[91]⟩ from by kernel_rfl, list_eq_one]
      by_cases h91 : c = 91
      · rw [if_pos (decide_eq_true h91)]
        rw [if_pos h91] at htr
        cases hbk : brk rest with
        | none => rw [hbk] at htr; cases htr
        | some pn =>
        obtain ⟨pc, nB⟩ := pn
        rw [hbk] at htr
        simp only at htr
        obtain ⟨J, st, hJ, hst, rfl, rfl⟩ := brk_inv hbk
        have hdrop : pat.cps.toList.drop pre1.length = rest := by rw [hpat1]; simp
        have hIle : pre1.length ≤ pat.length := by (first | lia | omega)
        have hszp : pat.length ≤ 10000 := by (first | lia | omega)
        with_reducible refine x_assign S ?_
        walk_at "ev"
        refine ⟨_, _, _, S, fun s' S => ?_⟩
        -- j0
        refine x_ifRA (R := fun s' => TJ s P' L pat tq σ D b pre1.length vs nn (pre1.length + (if rest[0]? = some 33 then 1 else 0)) s') (fun K1 k1 => t_eq S (k := 0) (c := 33) (r := rest) (I := pre1.length) (by walk_at "lk") (by walk_at "lk") (by walk_at "lk") hdrop hIle hszp fun s' S => ?_) fun s' hR => ?_
        · by_cases q : rest[0]? = some 33
          · rw [if_pos (decide_eq_true q)]
            with_reducible refine x_assign S ?_
            walk_at "ev"
            refine ⟨_, _, _, S, fun s' S => x_nil (k1 _ ⟨_, (hF.other (by kernel_rfl)).other (by kernel_rfl), ?_, S⟩)⟩
            rw [if_pos q]
            exact ⟨_, updm_eq⟩
          · rw [if_neg (by simpa using q)]
            refine x_nil (k1 _ ⟨_, hF.other (by kernel_rfl), ?_, S⟩)
            rw [if_neg q]
            exact ⟨_, updm_eq⟩
        clear S f1 f2 f3 f4 f5 f6 f7 hc hF
        obtain ⟨m2, hF, ⟨tj, hj⟩, S⟩ := hR
        obtain ⟨⟨t1, f1⟩, f2, f3, f4, f5, ⟨t6, f6⟩, ⟨t7, f7⟩⟩ := id hF
        unfold closeAt at hJ
        simp only at hJ
        generalize (if rest[0]? = some 33 then 1 else 0) = j0 at hJ hj
        -- j1
        refine x_ifRA (R := fun s' => TJ s P' L pat tq σ D b pre1.length vs nn (pre1.length + (if rest[j0]? = some 93 then j0 + 1 else j0)) s') (fun K1 k1 => t_eq S (k := j0) (c := 93) (r := rest) (I := pre1.length) (by walk_at "lk") (by walk_at "lk") (by walk_at "lk") hdrop hIle hszp fun s' S => ?_) fun s' hR => ?_
        · by_cases q : rest[j0]? = some 93
          · rw [if_pos (decide_eq_true q)]
            with_reducible refine x_assign S ?_
            walk_at "ev"
            refine ⟨_, _, _, S, fun s' S => x_nil (k1 _ ⟨_, hF.other (by kernel_rfl), ?_, S⟩)⟩
            rw [if_pos q]
            exact ⟨_, updm_eq⟩
          · rw [if_neg (by simpa using q)]
            refine x_nil (k1 _ ⟨_, hF, ?_, S⟩)
            rw [if_neg q]
            exact ⟨_, hj⟩
        clear S f1 f2 f3 f4 f5 f6 f7 hF hj
        obtain ⟨m3, hF, ⟨tj, hj⟩, S⟩ := hR
        generalize (if rest[j0]? = some 93 then j0 + 1 else j0) = j1 at hJ hj
        -- the closing bracket
        refine x_loopA (fun q s' => T3 s P' L pat tq σ D b pre1.length vs nn rest J q s')
          (fun s' => TJ s P' L pat tq σ D b pre1.length vs nn (pre1.length + J) s')
          (rest.length - j1) ⟨j1, m3, rfl, hJ, hF, ⟨tj, hj⟩, S⟩ (fun q s' K1 K2 hI k1 _ k2 => ?_) (fun s' hR => ?_)
        · clear S hF hj
          obtain ⟨k, m', hq, hfk, hF, ⟨tj, hj⟩, S⟩ := hI
          obtain ⟨⟨t1, f1⟩, f2, f3, f4, f5, ⟨t6, f6⟩, ⟨t7, f7⟩⟩ := id hF
          obtain ⟨hkJ, hJl⟩ := findC_get hfk
          have hnx := findC_next hfk
          refine t_ne S (k := k) (c := 93) (r := rest) (I := pre1.length) (by walk_at "lk") (by walk_at "lk") (by walk_at "lk") hdrop hIle hszp (by (first | lia | omega)) fun s' S => ?_
          by_cases q : rest[k]? = some 93
          · rw [if_pos q] at hnx
            rw [if_neg (by simpa using q)]
            exact x_nil (k2 _ ⟨m', hF, ⟨tj, hnx ▸ hj⟩, S⟩)
          · rw [if_neg q] at hnx
            rw [if_pos (by simpa using q)]
            with_reducible refine x_assign S ?_
            walk_at "ev"
            exact ⟨_, _, _, S, fun s' S => x_nil (k1 (rest.length - (k + 1)) _ (by (first | lia | omega)) ⟨k + 1, _, rfl, hnx, hF.other (by kernel_rfl), ⟨_, updm_eq⟩, S⟩)⟩
        have hJl : J < rest.length := (findC_get hJ).2
        clear S hF hj hJ
        obtain ⟨m4, hF, ⟨tj, hj⟩, S⟩ := hR
        obtain ⟨⟨t1, f1⟩, f2, f3, f4, f5, ⟨t6, f6⟩, ⟨t7, f7⟩⟩ := id hF
        with_reducible refine x_ifT (wpAny_isTrue_Compare1 ?_)
        walk_at "ev"
        refine PySem.P.ge_int (wpAny_truthy_bool ?_)
        rw [if_neg (by simp; (first | lia | omega))]
        -- stuff
        with_reducible refine x_assign S ?_
        with_reducible refine r_sliceS S ?_ (by intro o r; k_dflt rfl)
        walk_at "ev"
        with_reducible refine PySem.wpAny_evalPart_some ?_
        walk_at "ev"
        with_reducible refine PySem.wpAny_evalPart_some ?_
        walk_at "ev"
        refine ⟨pat, t1, some (((pre1.length : Nat) : Int), _), some (((pre1.length + J : Nat) : Int), _), _, _, _, rfl, S, by (first | lia | omega), rfl, rfl, fun ts s' S => ?_⟩
        refine ⟨_, _, _, S, fun s' S => ?_⟩
        have hsl : strSlice pat (some ((pre1.length : Nat) : Int)) (some ((pre1.length + J : Nat) : Int)) = sg (rest.take J) := by
          rw [slice_at (by (first | lia | omega)) (by (first | lia | omega)), hpat1]
          unfold sg
          congr 2
          rw [List.take_append]
          simp
        simp only [Option.map_some] at S
        rw [hsl] at S
        have hF := hF.other (x := "stuff") (v := .str (sg (rest.take J)) ts) (by kernel_rfl)
        have hj : updm m4 "stuff" (.str (sg (rest.take J)) ts) "j" = some (.int ((pre1.length + J : Nat) : Int) tj) := by walk_at "lk"
        have hst0 : updm m4 "stuff" (.str (sg (rest.take J)) ts) "stuff" = some (.str (sg (rest.take J)) ts) := updm_eq
        clear f1 f2 f3 f4 f5 f6 f7 hsl
        generalize updm m4 "stuff" (.str (sg (rest.take J)) ts) = m5 at S hF hj hst0
        have hWl : (rest.take J).length = J := by rw [List.length_take]; (first | lia | omega)
        have hW0 : ∀ i, i < J → (rest.take J)[i]? = rest[i]? := fun i hi => by rw [List.getElem?_take, if_pos hi]
        have hpatW : ∀ k, ((pat.cps.toList.take (pre1.length + J)).drop (pre1.length + k)) = (rest.take J).drop k := fun k => by
          apply List.ext_getElem?
          intro i
          rw [List.getElem?_drop, List.getElem?_drop, List.getElem?_take, List.getElem?_take, hpat1, List.getElem?_append_right (by (first | lia | omega)), show pre1.length + k + i - pre1.length = k + i by (first | lia | omega)]
          by_cases q : k + i < J
          · rw [if_pos q, if_pos (by (first | lia | omega))]
          · rw [if_neg q, if_neg (by (first | lia | omega))]
        generalize rest.take J = W at hWl hW0 hst hst0 hpatW
        have hJ1000 : J ≤ 1000 := by (first | lia | omega)
        obtain ⟨⟨t1, f1⟩, f2, f3, f4, f5, ⟨t6, f6⟩, ⟨t7, f7⟩⟩ := id hF
        refine x_ifRA (R := fun s' => T4 s P' L pat tq σ D b vs nn (pre1.length + J) st s') (fun K1 k1 => wpAny_isTrue_Compare1 ?_) fun s' hR => ?_
        · walk_at "ev"
          refine PySem.P.notIn_str (wpAny_truthy_bool ?_)
          rw [show (Str.ofString "-") = ⟨#[45]⟩ from by kernel_rfl, StrLaws.found_one]
          unfold stuffOf at hst
          by_cases h45 : 45 ∈ W
          · rw [show decide (45 ∈ (sg W).cps.toList) = true from decide_eq_true h45, if_neg (by simp)]
            rw [if_pos h45] at hst
            cases hcs : chunks W with
            | none => rw [hcs] at hst; cases hst
            | some cs =>
            rw [hcs] at hst
            simp only at hst
            by_cases hall : ((cs.all fun c => chunkL.contains (sg c)) && subL.contains (Txt.join "-" (cs.map fun c => repC (sg c)))) = true
            rotate_left
            · rw [if_neg hall] at hst; cases hst
            rw [if_pos hall] at hst
            cases Option.some.inj hst
            clear hst
            obtain ⟨hall1, hall2⟩ := Bool.and_eq_true_iff.mp hall
            have hJ0 : 0 < J := by
              rw [← hWl]
              exact List.length_pos_iff.mpr (by rintro rfl; cases h45)
            unfold chunks at hcs
            cases hgo : chunksGo W (W.length + 1) 0 (if W[0]? = some 33 then 2 else 1) [] with
            | none => rw [hgo] at hcs; cases hcs
            | some pq =>
            obtain ⟨iE, cs0⟩ := pq
            rw [hgo] at hcs
            simp only at hcs
            with_reducible refine x_assign S ?_
            with_reducible refine r_empty S fun Cc s' S => ?_
            refine ⟨_, _, _, S, fun s' S => ?_⟩
            with_reducible refine x_assign S ?_
            have hW00 : rest[0]? = W[0]? := (hW0 0 hJ0).symm
            obtain ⟨c0, hc0⟩ : ∃ c0, W[0]? = some c0 := ⟨_, List.getElem?_eq_getElem (by (first | lia | omega))⟩
            have hg0 : pat.cps.toList[pre1.length]? = some c0 := by rw [hpat1, List.getElem?_append_right (by (first | lia | omega)), Nat.sub_self, hW00, hc0]
            refine wpAny_mono (Q := fun v s' => (∃ t, v = .int ((pre1.length + (if W[0]? = some 33 then 2 else 1) : Nat) : Int) t) ∧ At s P' L (updm m5 "chunks" (.ref Cc)) [(Cc, listOf #[] 0), (D, listOf vs nn)] s') ?_ (fun v s' ⟨⟨tk, hv⟩, S⟩ => ?_) fun _ _ x => x
            · refine wpAny_IfExp (wpAny_isTrue_Compare1 ?_)
              walk_at "ev"
              refine o_sign S (by (first | lia | omega)) (by (first | lia | omega)) (by (first | lia | omega)) fun t s' S => ?_
              rw [item_at hg0]
              walk_at "ev"
              refine PySem.P.eq_str (wpAny_truthy_bool ?_)
              rw [show (Str.ofString "!") = ⟨#[33]⟩ from by kernel_rfl, list_eq_one, hc0]
              by_cases h33 : c0 = 33
              · rw [if_pos (decide_eq_true h33), if_pos (by rw [h33])]
                walk_at "ev"
                exact ⟨⟨_, rfl⟩, S⟩
              · rw [if_neg (by simpa using h33), if_neg (by simpa using h33)]
                walk_at "ev"
                exact ⟨⟨_, rfl⟩, S⟩
            subst hv
            refine ⟨_, _, _, S, fun s' S => ?_⟩
            have hF := (hF.other (x := "chunks") (v := .ref Cc) (by kernel_rfl)).other (x := "k") (v := .int ((pre1.length + (if W[0]? = some 33 then 2 else 1) : Nat) : Int) tk) (by kernel_rfl)
            -- the chunks
            refine x_loopA (fun q s' => T5 s P' L pat tq σ D b pre1.length vs nn J W iE cs0 Cc q s') (fun s' => T6 s P' L pat tq σ D b pre1.length vs nn J iE cs0 Cc s')
              (W.length + 1) ⟨0, _, [], [], 0, _, hgo, rfl, hF, ⟨_, updm_eq⟩, ⟨_, by walk_at "lk"⟩, by walk_at "lk", Nat.zero_le _, Nat.zero_le _, by split <;> (first | lia | omega), by rw [hWl]; simp, Nat.le_refl _, S⟩ (fun q s' K3 K4 hI k3 k3b k4 => ?_) (fun s' hR => ?_)
            · clear S hF hgo hcs f1 f2 f3 f4 f5 f6 f7
              obtain ⟨ia, ka, ac, l, nl, m', hgo, hl, hF, ⟨tk, hk⟩, ⟨tj, hj⟩, hch, hia, hika, hka, haq, hsum, S⟩ := hI
              obtain ⟨⟨t1, f1⟩, f2, f3, f4, f5, ⟨t6, f6⟩, ⟨t7, f7⟩⟩ := id hF
              cases q with
              | zero => cases hgo
              | succ q =>
              with_reducible refine wpAny_isTrue_value ?_ (by k_dflt rfl)
              refine wpAny_Constant_bool (wpAny_truthy_bool ?_)
              rw [if_pos rfl]
              with_reducible refine x_assign S ?_
              with_reducible refine Call_method3 (by k_dflt rfl) (by k_dflt rfl) (by k_dflt rfl) ?_
              walk_at "ev"
              refine onStr3 PySem.F.slot_str_find PySem.F.type_str_find ?_
              walk_at "ev"
              refine o_findD S (by (first | lia | omega)) (by (first | lia | omega)) (by (first | lia | omega)) (hpatW ka) fun t s' S => ?_
              refine ⟨_, _, _, S, fun s' S => ?_⟩
              rw [chunksGo] at hgo
              have hF := hF.other (x := "k") (v := .int (dashI pre1.length (findC 45 (W.drop ka) ka)) t) (by kernel_rfl)
              with_reducible refine x_if (wpAny_isTrue_Compare1 ?_)
              walk_at "ev"
              refine PyProof.Rows.lt_int (wpAny_truthy_bool ?_)
              cases hfc : findC 45 (W.drop ka) ka with
              | none =>
                rw [hfc] at hgo S hF
                cases Option.some.inj hgo
                rw [show dashI pre1.length none = -1 from rfl] at S hF ⊢
                rw [if_pos (by decide)]
                exact x_break (k3b _ ⟨l, nl, _, hl, hF, ⟨tj, by walk_at "lk"⟩, by walk_at "lk", hia, by (first | lia | omega), hsum, S⟩)
              | some p =>
                rw [hfc] at hgo S hF
                obtain ⟨hp1, hp2⟩ := findC_get hfc
                rw [hWl] at hp2
                rw [show dashI pre1.length (some p) = ((pre1.length + p : Nat) : Int) from rfl] at S hF ⊢
                rw [if_neg (by rw [decide_eq_true_eq]; (first | lia | omega))]
                refine x_nil ?_
                obtain ⟨⟨u1, g1⟩, g2, g3, g4, g5, ⟨u6, g6⟩, ⟨u7, g7⟩⟩ := id hF
                with_reducible refine x_expr ?_
                refine r_methappend (vs₀ := (strValues l).toArray) (n₀ := nl) S (a := Cc) (by walk_at "lk") (by simp) ?_
                with_reducible refine r_sliceS S ?_ (by intro o r; k_dflt rfl)
                walk_at "ev"
                with_reducible refine PySem.wpAny_evalPart_some ?_
                walk_at "ev"
                with_reducible refine PySem.wpAny_evalPart_some ?_
                walk_at "ev"
                refine ⟨pat, u1, some (((pre1.length + ia : Nat) : Int), _), some (((pre1.length + p : Nat) : Int), _), _, _, _, rfl, S, by (first | lia | omega), rfl, rfl, fun tc s' S => ?_⟩
                simp only [Option.map_some]
                rw [slice_at (by (first | lia | omega)) (by (first | lia | omega))]
                have hcut : ((pat.cps.toList.take (pre1.length + p)).drop (pre1.length + ia)) = (W.take p).drop ia := by
                  have h1 := hpatW ia
                  apply List.ext_getElem?
                  intro i
                  have h2 := congrArg (fun l => l[i]?) h1
                  simp only [List.getElem?_drop, List.getElem?_take] at h2 ⊢
                  by_cases q : ia + i < p
                  · rw [if_pos (by (first | lia | omega)), if_pos q]
                    rw [if_pos (by (first | lia | omega))] at h2
                    exact h2
                  · rw [if_neg (by (first | lia | omega)), if_neg q]
                rw [hcut]
                have hsl : (strValues l).toArray.size = l.length := by simp [strValues]
                have hll : l.length = ac.length := by have := congrArg List.length hl; simpa using this
                have hLl : ∀ (l : List (Str × Tok)) x t, (strValues (l ++ [(x, t)])).toArray = (strValues l).toArray.push (.str x t) := fun l x t => by simp [strValues]
                refine ⟨_, _, _, [], _, _, _, S, rfl, by (first | lia | omega), fun s' S => ?_⟩
                with_reducible refine x_assign S ?_
                walk_at "ev"
                refine ⟨_, _, _, S, fun s' S => ?_⟩
                with_reducible refine x_assign S ?_
                walk_at "ev"
                refine ⟨_, _, _, S, fun s' S => x_nil ?_⟩
                rw [List.nil_append, ← hLl] at S
                refine k3 q _ (Nat.lt_succ_self q) ⟨p + 1, p + 3, _, l ++ [(sg ((W.take p).drop ia), tc)], nl + 1, _, hgo, by rw [List.map_append, hl, List.map_append]; rfl, (hF.step (by (first | lia | omega))).other (by kernel_rfl), (by rw [show ((pre1.length + (p + 3) : Nat) : Int) = ((pre1.length + p : Nat) : Int) + 3 by (first | lia | omega)]; exact ⟨_, updm_eq⟩), ⟨tj, by walk_at "lk"⟩, by walk_at "lk", by (first | lia | omega), by (first | lia | omega), by (first | lia | omega), by rw [List.length_append, List.length_singleton]; (first | lia | omega), by rw [lsum_app]; simp [lsum] at hsum ⊢; (first | lia | omega), S⟩
            · clear S hF hgo f1 f2 f3 f4 f5 f6 f7
              obtain ⟨l, nl, m', hl, hF, ⟨tj, hj⟩, hch, hiE, hcl, hsum, S⟩ := hR
              obtain ⟨⟨t1, f1⟩, f2, f3, f4, f5, ⟨t6, f6⟩, ⟨t7, f7⟩⟩ := id hF
              cases hdr : W.drop iE with
              | nil => rw [hdr] at hcs; cases hcs
              | cons w0 wr =>
              rw [hdr] at hcs
              simp only at hcs
              with_reducible refine x_assign S ?_
              with_reducible refine r_sliceS S ?_ (by intro o r; k_dflt rfl)
              walk_at "ev"
              with_reducible refine PySem.wpAny_evalPart_some ?_
              walk_at "ev"
              with_reducible refine PySem.wpAny_evalPart_some ?_
              walk_at "ev"
              refine ⟨pat, t1, some (((pre1.length + iE : Nat) : Int), _), some (((pre1.length + J : Nat) : Int), _), _, _, _, rfl, S, by (first | lia | omega), rfl, rfl, fun tc s' S => ?_⟩
              refine ⟨_, _, _, S, fun s' S => ?_⟩
              have hcut : strSlice pat (some ((pre1.length + iE : Nat) : Int)) (some ((pre1.length + J : Nat) : Int)) = sg (w0 :: wr) := by
                rw [slice_at (by (first | lia | omega)) (by (first | lia | omega)), hpatW, hdr]
                rfl
              simp only [Option.map_some] at S
              rw [hcut] at S
              have hF := hF.other (x := "chunk") (v := .str (sg (w0 :: wr)) tc) (by kernel_rfl)
              have hwr : (w0 :: wr).length ≤ J := by rw [← hdr, List.length_drop]; (first | lia | omega)
              have hsgl : (sg (w0 :: wr)).length = (w0 :: wr).length := by simp [sg, Str.length]
              with_reducible refine x_if ?_
              with_reducible refine wpAny_isTrue_value ?_ (by k_dflt rfl)
              walk_at "ev"
              refine PySem.P.truthy_str (by (first | lia | omega)) ?_
              have S := S.toks1 2
              rw [if_pos (by rw [hsgl]; simp; (first | lia | omega))]
              with_reducible refine x_expr ?_
              refine r_methappend (vs₀ := (strValues l).toArray) (n₀ := nl) S (a := Cc) (by walk_at "lk") (by simp) ?_
              walk_at "ev"
              have hsl : ∀ l : List (Str × Tok), (strValues l).toArray.size = l.length := fun l => by simp [strValues]
              have hll : l.length = cs0.length := by have := congrArg List.length hl; simpa using this
              have hLl : ∀ (l : List (Str × Tok)) x t, (strValues (l ++ [(x, t)])).toArray = (strValues l).toArray.push (.str x t) := fun l x t => by simp [strValues]
              refine ⟨_, _, _, [], _, _, _, S, rfl, by rw [hsl]; (first | lia | omega), fun s' S => x_nil ?_⟩
              rw [List.nil_append, ← hLl] at S
              have hl : (l ++ [(sg (w0 :: wr), tc)]).map (·.1) = (cs0 ++ [w0 :: wr]).map sg := by rw [List.map_append, hl, List.map_append]; rfl
              have hj : updm m' "chunk" (.str (sg (w0 :: wr)) tc) "j" = some (.int ((pre1.length + J : Nat) : Int) tj) := by walk_at "lk"
              have hch : updm m' "chunk" (.str (sg (w0 :: wr)) tc) "chunks" = some (.ref Cc) := by walk_at "lk"
              generalize updm m' "chunk" (.str (sg (w0 :: wr)) tc) = m6 at S hF hj hch
              have hll : (l ++ [(sg (w0 :: wr), tc)]).length = cs0.length + 1 := by simp [hll]
              generalize l ++ [(sg (w0 :: wr), tc)] = l6 at S hl hll
              have hsum : lsum (cs0 ++ [w0 :: wr]) ≤ 1000 := by
                have e : (w0 :: wr).length = J - iE := by rw [← hdr, List.length_drop]; (first | lia | omega)
                rw [lsum_app]
                simp only [lsum, List.map_cons, List.map_nil, List.sum_cons, List.sum_nil] at hsum ⊢
                (first | lia | omega)
              generalize cs0 ++ [w0 :: wr] = cs6 at hl hcs hsum
              clear f1 f2 f3 f4 f5 f6 f7
              -- the merging
              with_reducible refine x_for S ?_ (by intro x; k_dflt rfl)
              with_reducible refine c_type S B ?_ (he := by k_dflt rfl) (hplain := by k_dflt rfl)
              with_reducible refine spliced_more ?_ (by k_dflt rfl)
              with_reducible refine wpAny_BinOp ?_
              with_reducible refine c_built S B ?_ (he := by k_dflt rfl) (hplain := by k_dflt rfl)
              with_reducible refine spliced_more ?_ (by k_dflt rfl)
              walk_at "ev"
              with_reducible refine spliced_none ?_
              refine o_len S (S.live (Cc, listOf (strValues l6).toArray (nl + 1)) (by simp)) (by rw [hsl]; (first | lia | omega)) fun t s' S => ?_
              walk_at "ev"
              with_reducible refine spliced_more ?_ (by k_dflt rfl)
              walk_at "ev"
              with_reducible refine spliced_more ?_ (by k_dflt rfl)
              with_reducible refine wpAny_UnaryOp ?_
              walk_at "ev"
              refine o_neg S fun t s' S => ?_
              with_reducible refine spliced_none ?_
              rw [hsl, hll, show (((cs0.length + 1 : Nat) : Int) - 1) = ((cs0.length : Nat) : Int) by (first | lia | omega)]
              refine o_rangeD S hA (by (first | lia | omega)) fun rg P2 s' l2 S W => ?_
              refine ⟨P2, _, _, cs0.length, _, _, fun kk P' m' M' => T7 pat tq σ D b (pre1.length + iE) (pre1.length + J) vs nn cs cs0.length Cc kk m' M',
                S, W, LetIt.plain (fun _ _ => rfl), ⟨cs6, l6, nl + 1, hcs, hl, by (first | lia | omega), hsum, hF, ⟨_, hj⟩, hch, rfl⟩, ?_, ?_⟩
              · intro kk v P3 m7 M7 X s' K3 hkk hv hle hJ S k3
                obtain ⟨cs', l, nl', hm, hl, hl1, hsum, hF, ⟨tj, hj⟩, hch, rfl⟩ := hJ
                obtain ⟨tk, rfl⟩ := hv
                obtain ⟨κ, hκ⟩ : ∃ κ, cs0.length - kk = κ + 1 := ⟨cs0.length - kk - 1, by (first | lia | omega)⟩
                rw [hκ, mergeGo] at hm
                have hκ' : cs0.length - (kk + 1) = κ := by (first | lia | omega)
                have hki : ((cs0.length : Nat) : Int) + (kk : Int) * (-1) = ((κ + 1 : Nat) : Int) := by (first | lia | omega)
                rw [hki]
                cases hca : cs'[κ]? with
                | none => rw [hca] at hm; cases hm
                | some a =>
                cases hcb : cs'[κ + 1]? with
                | none => rw [hca, hcb] at hm; cases hm
                | some bb =>
                rw [hca, hcb] at hm
                simp only at hm
                cases hxa : a.getLast? with
                | none => rw [hxa] at hm; cases hm
                | some xa =>
                cases hxb : bb.head? with
                | none => rw [hxa, hxb] at hm; cases hm
                | some xb =>
                rw [hxa, hxb] at hm
                simp only at hm
                obtain ⟨ta, hla⟩ := get_of_map hl hca
                obtain ⟨tb, hlb⟩ := get_of_map hl hcb
                obtain ⟨hlt, _⟩ := List.getElem?_eq_some_iff.mp hlb
                have hga := get_strs hla
                have hgb := get_strs hlb
                have hks : (((κ + 1 : Nat) : Int) - 1) = ((κ : Nat) : Int) := by (first | lia | omega)
                refine wpAny_assign_Name (r_store S (fun s' S => ?_) rfl)
                have hF := hF.other (x := "k") (v := .int ((κ + 1 : Nat) : Int) tk) (by kernel_rfl)
                with_reducible refine x_ifT (wpAny_isTrue_Compare1 ?_)
                walk_at "ev"
                rw [hks]
                refine o_item (S.live (Cc, listOf (strValues l).toArray nl') (by simp)) (by (first | lia | omega)) (x := .str (sg a) ta) hga (by rw [hsl]; (first | lia | omega)) ?_
                with_reducible refine wpAny_UnaryOp ?_
                walk_at "ev"
                refine o_neg S fun t s' S => ?_
                have hal := lsum_mem hca
                have hbl := lsum_mem hcb
                have ha0 : 0 < a.length := List.length_pos_iff.mpr (by rintro rfl; cases hxa)
                have hb0 : 0 < bb.length := List.length_pos_iff.mpr (by rintro rfl; cases hxb)
                have hsga := sg_len a
                have hsgb := sg_len bb
                refine o_sign S (by (first | lia | omega)) (by (first | lia | omega)) (by (first | lia | omega)) fun t s' S => ?_
                rw [item_last hxa]
                walk_at "ev"
                refine o_item (S.live (Cc, listOf (strValues l).toArray nl') (by simp)) (by (first | lia | omega)) (x := .str (sg bb) tb) (by simpa using hgb) (by rw [hsl]; (first | lia | omega)) ?_
                walk_at "ev"
                refine o_sign S (by (first | lia | omega)) (by (first | lia | omega)) (by (first | lia | omega)) fun t s' S => ?_
                rw [item_head hxb]
                refine PySem.P.gt_str (wpAny_truthy_bool ?_)
                rw [gt_signs]
                by_cases hlt2 : xb < xa
                · rw [if_pos (decide_eq_true hlt2)]
                  rw [if_pos hlt2] at hm
                  refine wpAny_execs_cons (wpAny_Assign_Subscript ?_ (by k_dflt rfl))
                  with_reducible refine wpAny_BinOp ?_
                  with_reducible refine r_sliceS' S ?_ (by intro _ _ _; k_dflt rfl) (by intro _ _ _; k_dflt rfl)
                  walk_at "ev"
                  rw [hks]
                  refine o_item (S.live (Cc, listOf (strValues l).toArray nl') (by simp)) (by (first | lia | omega)) (x := .str (sg a) ta) hga (by rw [hsl]; (first | lia | omega)) ?_
                  with_reducible refine PySem.wpAny_evalPart_none ?_
                  with_reducible refine PySem.wpAny_evalPart_some ?_
                  with_reducible refine wpAny_UnaryOp ?_
                  walk_at "ev"
                  refine o_neg S fun t s' S => ?_
                  refine ⟨sg a, ta, none, some (-1, _), _, _, _, rfl, S, by (first | lia | omega), rfl, rfl, fun t s' S => ?_⟩
                  simp only [Option.map_some, Option.map_none]
                  rw [slice_init]
                  with_reducible refine r_sliceS' S ?_ (by intro _ _ _; k_dflt rfl) (by intro _ _ _; k_dflt rfl)
                  walk_at "ev"
                  refine o_item (S.live (Cc, listOf (strValues l).toArray nl') (by simp)) (by (first | lia | omega)) (x := .str (sg bb) tb) (by simpa using hgb) (by rw [hsl]; (first | lia | omega)) ?_
                  with_reducible refine PySem.wpAny_evalPart_some ?_
                  walk_at "ev"
                  with_reducible refine PySem.wpAny_evalPart_none ?_
                  refine ⟨sg bb, tb, some (1, _), none, _, _, _, rfl, S, by (first | lia | omega), rfl, rfl, fun t s' S => ?_⟩
                  simp only [Option.map_some, Option.map_none]
                  rw [slice_tail]
                  refine o_cat S (by rw [sg_len, sg_len, List.length_dropLast, List.length_tail]; (first | lia | omega)) fun tm s' S => ?_
                  rw [sg_app]
                  walk_at "ev"
                  rw [hks]
                  refine o_setitem (pre := X) (post := [(D, listOf vs nn)]) S rfl (by (first | lia | omega)) (by (first | lia | omega)) (by rw [hsl]; (first | lia | omega)) fun s' nl2 S => ?_
                  refine wpAny_execs_cons (wpAny_Delete (wpAny_deleteEach_cons (wpAny_delete_Subscript ?_)))
                  walk_at "ev"
                  refine o_delitem (pre := X) (post := [(D, listOf vs nn)]) S rfl (by (first | lia | omega)) (by (first | lia | omega)) (by rw [Array.size_setIfInBounds, hsl]; (first | lia | omega)) (by rw [Array.size_setIfInBounds, hsl]; (first | lia | omega)) fun s' nl3 S => ?_
                  refine wpAny_deleteEach_nil (x_nil ?_)
                  have hcl2 : cs'.length = l.length := by have := congrArg List.length hl; simpa using this.symm
                  have harr : ((((strValues l).toArray.setIfInBounds ((κ : Nat) : Int).toNat (.str (sg (a.dropLast ++ bb.tail)) tm)).toList.eraseIdx ((κ + 1 : Nat) : Int).toNat).toArray) = (strValues ((l.set κ (sg (a.dropLast ++ bb.tail), tm)).eraseIdx (κ + 1))).toArray := by
                    rw [Int.toNat_natCast, Int.toNat_natCast]
                    simp only [strValues, Array.toList_setIfInBounds, ← map_erase, List.map_set]
                  rw [harr] at S
                  refine k3 _ ⟨P3, _, _, .refl _, ⟨_, (l.set κ (sg (a.dropLast ++ bb.tail), tm)).eraseIdx (κ + 1), nl3, hκ' ▸ hm, ?_, ?_, Nat.le_trans (lsum_merge hca hcb) hsum, hF, ⟨tj, by walk_at "lk"⟩, by walk_at "lk", rfl⟩, S⟩
                  · simp only [← map_erase, List.map_set, hl]
                  · rw [List.length_eraseIdx]
                    split <;> simp <;> (first | lia | omega)
                · rw [if_neg (by simpa using hlt2)]
                  rw [if_neg hlt2] at hm
                  refine x_nil (k3 _ ⟨P3, _, _, .refl _, ⟨cs', l, nl', hκ' ▸ hm, hl, hl1, hsum, hF, ⟨tj, by walk_at "lk"⟩, by walk_at "lk", rfl⟩, S⟩)
              · intro P3 m7 M7 s' hle hJ S
                obtain ⟨cs', l, nl', hm, hl, hl1, hsum, hF, ⟨tj, hj⟩, hch, rfl⟩ := hJ
                rw [Nat.sub_self, mergeGo] at hm
                cases Option.some.inj hm
                obtain ⟨⟨t1, f1⟩, f2, f3, f4, f5, ⟨t6, f6⟩, ⟨t7, f7⟩⟩ := id hF
                have hmem : ∀ p ∈ l, p.1 ∈ chunkL := fun p hp => by
                  have h1 : p.1 ∈ l.map (·.1) := List.mem_map_of_mem hp
                  rw [hl] at h1
                  obtain ⟨c, hc, e⟩ := List.mem_map.mp h1
                  have := List.all_eq_true.mp hall1 c hc
                  rw [← e]; simpa using this
                have hmap : (l.map fun p => repC p.1) = cs.map fun c => repC (sg c) := by
                  have h1 := congrArg (List.map repC) hl
                  rw [List.map_map, List.map_map] at h1
                  exact h1
                have hsub : Txt.join "-" (cs.map fun c => repC (sg c)) ∈ subL := by simpa using hall2
                have hlen3 : ∀ x ∈ subL, x.length ≤ 3 := by decide
                have B3 := B.mono (l2.trans hle)
                with_reducible refine x_assign S ?_
                with_reducible refine PySem.Call_method1 (by k_dflt rfl) (by k_dflt rfl) (by k_dflt rfl) ?_
                with_reducible refine r_str S fun t s' S => ?_
                refine onStr1 PySem.F.slot_str_join PySem.F.type_str_join ?_
                refine o_genjoin (T := 63) (c := 67) (cA := Cc) (nn := nl') (l := l) (f := repC) S B3 hA (by (first | lia | omega)) (by decide) (code63 (S.inK B3)) (by kernel_rfl) (by kernel_rfl) (by kernel_rfl) (by k_dflt rfl) (by kernel_rfl) (by kernel_rfl) (by kernel_rfl) (by kernel_rfl) (by intro x; k_dflt rfl)
                  (fun E Q q => r_local (E := E) S q (by kernel_rfl) (by walk_at "lk") (by kernel_rfl)) (by simp) (by (first | lia | omega)) ?_ (fun C code bi A' E' a t s₂ m₂ hA' hat hn hm => ?_) fun t' s' S => ?_
                · have hsum10 := sum_le10 (ys := l.map fun p => repC p.1) fun y hy => by
                    obtain ⟨p, hp, rfl⟩ := List.mem_map.mp hy
                    exact rep_len (hmem p hp)
                  rw [List.length_map] at hsum10
                  exact joinOk_of_weight (by rw [List.length_map]; (first | lia | omega)) (by decide)
                · exact elt_rep (by kernel_rfl) (by kernel_rfl) (hmem _ hat) hn hm (by kernel_rfl) (by kernel_rfl)
                · rw [hmap]
                  exact ⟨_, _, _, S.weak (M' := [(D, listOf vs nn)]) (by simp), fun s' S => x_nil (k1 _ ⟨P3, _, _, l2.trans hle, hsub, hF.other (by kernel_rfl), ⟨tj, by walk_at "lk"⟩, ⟨_, updm_eq⟩, S⟩)⟩
          · rw [show decide (45 ∈ (sg W).cps.toList) = false from decide_eq_false h45, if_pos (show (!false) = true from rfl)]
            rw [if_neg h45] at hst
            by_cases hpl : plainL.contains (sg W) = true
            · rw [if_pos hpl] at hst
              cases Option.some.inj hst
              have hpl : sg W ∈ plainL := by simpa using hpl
              obtain ⟨e1, e2⟩ := no_back2 hpl
              with_reducible refine x_assign S ?_
              with_reducible refine PySem.Call_method2 (by k_dflt rfl) (by k_dflt rfl) (by k_dflt rfl) ?_
              walk_at "ev"
              refine onStr2 PySem.F.slot_str_replace PySem.F.type_str_replace ?_
              walk_at "ev"
              refine g_replace0 e1 ?_
              exact ⟨_, _, _, S, fun s' S => x_nil (k1 _ ⟨P', _, _, .refl _, e2, hF.other (by kernel_rfl), ⟨tj, by walk_at "lk"⟩, ⟨_, updm_eq⟩, S⟩)⟩
            · rw [if_neg hpl] at hst; cases hst
        clear S hF hj hst0 f1 f2 f3 f4 f5 f6 f7
        obtain ⟨P2, m', ii, l2, hsub, hF, ⟨tj, hj⟩, ⟨tst, hst1⟩, S⟩ := hR
        have B2 := B.mono l2
        with_reducible refine x_assign S ?_
        with_reducible refine PySem.Call_method2 (by k_dflt rfl) (by k_dflt rfl) (by k_dflt rfl) ?_
        with_reducible refine r_glob S B2 (v := .ref 42) ?_
        refine onPat2 (S.inK B2 _ _ rfl) rfl rfl ?_
        refine r_lambda (T := 63) (c := 67) S B2 (by decide) (code63 (S.inK B2)) (by kernel_rfl) (by k_dflt rfl) (by k_dflt rfl) (by kernel_rfl) fun f fo P3 s' l3 ef hfc S => ?_
        walk_at "ev"
        have B3 := B2.mono l3
        refine o_resub S B3 ef hfc hsub fun t' s' S => ?_
        refine ⟨_, _, _, S, fun s' S => ?_⟩
        with_reducible refine x_assign S ?_
        walk_at "ev"
        refine ⟨_, _, _, S, fun s' S => ?_⟩
        have hF := (hF.other (x := "stuff") (v := .str st t') (by kernel_rfl)).step (i' := pre1.length + (J + 1)) (z := ((pre1.length + J : Nat) : Int) + 1) (t := t) (by (first | lia | omega))
        have hst1 : updm (updm m' "stuff" (.str st t')) "i" (.int (((pre1.length + J : Nat) : Int) + 1) t) "stuff" = some (.str st t') := by walk_at "lk"
        generalize updm (updm m' "stuff" (.str st t')) "i" (.int (((pre1.length + J : Nat) : Int) + 1) t) = m7 at S hF hst1
        have hst3 : st.length ≤ 3 := (show ∀ x ∈ subL, x.length ≤ 3 by decide) _ hsub
        have hps := piece_star hsub
        have l1' := l1.trans (l2.trans l3)
        have eb3 := l3 _ _ (l2 _ _ eb)
        have hps0 := hvs.push (v := .none) (p := none)
        have fin : ∀ {v m2 s'}, At s P3 L m2 [(D, listOf (vs.push v) (nn + 1))] s' → TF m2 pat tq σ D b (pre1.length + (J + 1)) → PVal σ v (some (pieceOf st)) →
            K .next s' := fun {v m2 s'} S hF hv => by
          have hpre : (pre1 ++ rest.take (J + 1)).length = pre1.length + (J + 1) := by rw [List.length_append, List.length_take]; (first | lia | omega)
          refine kN (rest.drop (J + 1)).length _ (by rw [List.length_drop]; (first | lia | omega)) ⟨P3, pre1 ++ rest.take (J + 1), rest.drop (J + 1), m2, _, _, _, l1', B3, eb3, by rw [hpat1, List.append_assoc, List.take_append_drop], rfl, ?_, hpre ▸ hF, hvs.push hv, by rw [hpre]; simp; (first | lia | omega), S⟩
          rw [tr_fuel (Nat.le_refl _) (show (rest.drop (J + 1)).length ≤ rest.length by rw [List.length_drop]; (first | lia | omega))]
          exact htr
        clear hps0
        obtain ⟨⟨t1, f1⟩, f2, f3, f4, f5, ⟨t6, f6⟩, ⟨t7, f7⟩⟩ := id hF
        with_reducible refine x_ifT (wpAny_isTrue_Not ?_)
        with_reducible refine wpAny_isTrue_value ?_ (by k_dflt rfl)
        walk_at "ev"
        refine PySem.P.truthy_str (by (first | lia | omega)) ?_
        have S := S.toks1 2
        by_cases hs1 : st = ""
        · rw [hs1, if_pos (by decide)]
          with_reducible refine x_expr ?_
          refine r_addcall S f4 ?_ (he := by k_dflt rfl)
          with_reducible refine r_strT S fun t s' ht S => ?_
          refine ⟨_, _, _, D, [], [], _, _, S, eb3, rfl, by (first | lia | omega), fun s' S => ?_⟩
          repeat refine x_nil ?_
          refine fin S hF ⟨t, ?_, hσ.apart ht hps⟩
          rw [hs1]; rfl
        have hs1l : st.length ≠ 0 := fun q => hs1 (by cases st with | mk a => simp [Str.length] at q; subst q; rfl)
        rw [if_neg (by simp; (first | lia | omega))]
        with_reducible refine x_ifT (wpAny_isTrue_Compare1 ?_)
        walk_at "ev"
        refine PySem.P.eq_str (wpAny_truthy_bool ?_)
        by_cases hs2 : st = "!"
        · rw [hs2, if_pos (by decide)]
          with_reducible refine x_expr ?_
          refine r_addcall S f4 ?_ (he := by k_dflt rfl)
          with_reducible refine r_strT S fun t s' ht S => ?_
          refine ⟨_, _, _, D, [], [], _, _, S, eb3, rfl, by (first | lia | omega), fun s' S => ?_⟩
          repeat refine x_nil ?_
          refine fin S hF ⟨t, ?_, hσ.apart ht hps⟩
          rw [hs2]; rfl
        have h5 : st = "ab" ∨ st = "a-c" ∨ st = "!a" ∨ st = "^" ∨ st = "\\-" := by
          have h7 := hsub
          simp only [subL, List.mem_cons, List.not_mem_nil, or_false] at h7
          rcases h7 with h | h | h | h | h | h | h
          · exact absurd h hs1
          · exact absurd h hs2
          · exact .inl h
          · exact .inr (.inl h)
          · exact .inr (.inr (.inl h))
          · exact .inr (.inr (.inr (.inl h)))
          · exact .inr (.inr (.inr (.inr h)))
        rw [if_neg (by rcases h5 with rfl | rfl | rfl | rfl | rfl <;> decide)]
        refine x_ifRA (R := fun s' => T8 s P3 L pat tq σ D b (pre1.length + (J + 1)) vs nn st s') (fun K1 k1 => wpAny_isTrue_Compare1 ?_) fun s' hR => ?_
        · walk_at "ev"
          refine o_sign S (by (first | lia | omega)) (by (first | lia | omega)) (by (first | lia | omega)) fun t s' S => ?_
          walk_at "ev"
          refine PySem.P.eq_str (wpAny_truthy_bool ?_)
          by_cases hs3 : st = "!a"
          · rw [if_pos (by rw [hs3]; decide)]
            with_reducible refine x_assign S ?_
            with_reducible refine wpAny_BinOp ?_
            with_reducible refine r_str S fun t s' S => ?_
            with_reducible refine r_sliceS S ?_ (by intro o r; k_dflt rfl)
            walk_at "ev"
            with_reducible refine PySem.wpAny_evalPart_some ?_
            walk_at "ev"
            with_reducible refine PySem.wpAny_evalPart_none ?_
            refine ⟨st, t', some (1, _), none, _, _, _, rfl, S, by (first | lia | omega), rfl, rfl, fun t s' S => ?_⟩
            simp only [Option.map_some, Option.map_none]
            rw [show strSlice st (some 1) none = "a" from by rw [hs3]; decide +kernel]
            refine o_cat S (by decide) fun tm s' S => ?_
            refine ⟨_, _, _, S, fun s' S => x_nil (k1 _ ⟨_, _, _, hF.other (by kernel_rfl), updm_eq, ?_, ?_, S⟩)⟩
            · rw [hs3]; decide +kernel
            · decide +kernel
          · rw [if_neg (by rcases h5 with rfl | rfl | rfl | rfl | rfl <;> first | decide | exact absurd rfl hs3)]
            with_reducible refine x_ifT (wpAny_isTrue_Compare1 ?_)
            walk_at "ev"
            refine o_sign S (by (first | lia | omega)) (by (first | lia | omega)) (by (first | lia | omega)) fun t s' S => ?_
            refine Tuple_ ?_
            with_reducible refine spliced_more ?_ (by k_dflt rfl)
            with_reducible refine r_str S fun tu1 s' S => ?_
            with_reducible refine spliced_more ?_ (by k_dflt rfl)
            with_reducible refine r_str S fun tu2 s' S => ?_
            with_reducible refine spliced_none ?_
            refine wpAny_newTuple ?_ (by show 2 ≤ _; decide)
            refine SeqAt.in_tupleAt (fun y => match y with | .str z _ => z == Txt.item st 0 | _ => false) ⟨_, Heap.get?_push_size _ rfl, rfl, 0, rfl⟩ (fun y hy => ?_) (wpAny_truthy_bool ?_)
            · simp only [List.mem_toArray, List.mem_cons, List.not_mem_nil, or_false] at hy
              rcases hy with rfl | rfl <;> exact SeqAt.EqAt.str_str _ _ _ _
            replace S := S.drop1 { cls := .type "tuple", data := .seq [Value.str (Str.ofString "^") tu1, Value.str ⟨#[91]⟩ tu2].toArray }
            by_cases hs4 : st = "^"
            · rw [if_pos (by simp only [List.any_toArray, List.any_cons, List.any_nil, Bool.or_false]; rw [hs4]; decide +kernel)]
              with_reducible refine x_assign S ?_
              walk_at "ev"
              refine o_cat S (by rw [hs4]; decide) fun tm s' S => ?_
              refine ⟨_, _, _, S, fun s' S => ?_⟩
              repeat refine x_nil ?_
              refine k1 _ ⟨_, _, _, hF.other (by kernel_rfl), updm_eq, ?_, ?_, S⟩
              · rw [hs4]; decide +kernel
              · rw [hs4]; decide
            · rw [if_neg (by simp only [List.any_toArray, List.any_cons, List.any_nil, Bool.or_false]; rcases h5 with rfl | rfl | rfl | rfl | rfl <;> first | exact absurd rfl hs3 | exact absurd rfl hs4 | decide +kernel)]
              repeat refine x_nil ?_
              refine k1 _ ⟨_, st, t', hF, hst1, ?_, by (first | lia | omega), S⟩
              rcases h5 with rfl | rfl | rfl | rfl | rfl <;> first | exact absurd rfl hs3 | exact absurd rfl hs4 | decide +kernel
        · obtain ⟨m2, st2, t2, hF, hst2, hp2, hl2, S⟩ := hR
          obtain ⟨⟨t1, f1⟩, f2, f3, f4, f5, ⟨t6, f6⟩, ⟨t7, f7⟩⟩ := id hF
          with_reducible refine x_expr ?_
          refine r_addcall S f4 ?_ (he := by k_dflt rfl)
          refine r_fstr S (by decide) fun s' S => ?_
          walk_at "ev"
          refine ⟨st2, t2, _, _, _, rfl, S, by show 1 + st2.length + 1 ≤ _; (first | lia | omega), fun tf s' ht S => ?_⟩
          refine ⟨_, _, _, D, [], [], _, _, S, eb3, rfl, by (first | lia | omega), fun s' S => ?_⟩
          repeat refine x_nil ?_
          refine fin S hF ⟨tf, ?_, hσ.apart ht hps⟩
          rw [← hp2]; rfl
      rw [if_neg (by simpa using h91)]
      rw [if_neg h91] at htr
      by_cases he : escB c = true
      · rw [if_pos he] at htr
        obtain ⟨e1, e2, e3⟩ := esc_ok he
        with_reducible refine x_expr ?_
        refine r_addcall S f4 ?_ (he := by k_dflt rfl)
        with_reducible refine c_def (a := 61) S B ?_ (by k_dflt rfl) (by kernel_rfl) (he := by k_dflt rfl) (hplain := by k_dflt rfl)
        with_reducible refine spliced_more ?_ (by k_dflt rfl)
        walk_at "ev"
        with_reducible refine spliced_none ?_
        refine ⟨⟨_, _, _, S, B⟩, ?_⟩
        with_reducible refine r_call S (escape_spec (S.ok B) hA1 hA e1) fun v P2 s2 l2 n2 S v2 r2 => ?_
        obtain ⟨te, rfl, hte⟩ := r2
        have ht0 := Nat.le_trans (‹At s P' L m1 _ s'›).tp hte
        refine ⟨_, _, _, D, [], [], _, _, S, l2 _ _ eb, rfl, by (first | lia | omega), fun s' S => ?_⟩
        refine x_nil (kN rest.length _ hr1 ⟨P2, pre1, rest, m1, _, _, _, l1.trans l2, B.mono l2, l2 _ _ eb, hpat1, rfl, htr, hF, hvs.push (p := some (escT c)) ⟨te, by rw [← e2], hσ.apart ht0 e3⟩, by simp; (first | lia | omega), S⟩)
      · rw [if_neg he] at htr; cases htr
  · obtain ⟨P', m', vs, nn, l1, F, hvs, S⟩ := hR
    obtain ⟨⟨t1, f1⟩, f2, f3, f4, f5, ⟨t6, f6⟩, ⟨t7, f7⟩⟩ := F
    with_reducible refine x_assert (wpAny_isTrue_Compare1 ?_)
    walk_at "ev"
    refine PyProof.Rows.eq_int (wpAny_truthy_bool ⟨by simp, ?_⟩)
    with_reducible refine x_return ?_
    walk_at "ev"
    have T := S.freeze (pre := []) rfl
    have hD : D ∈ L :: [(D, listOf vs nn)].map (·.1) := by simp
    refine kR _ _ ⟨T.mvOut (l1.trans (PM.le_put (S.out D hD))), D, vs, nn, rfl, nw_newOf T _ _ (nw_of (PM.put_self ..) (S.isNew hD)), hvs⟩
end Mine
namespace Mine


/-- the body of law's first loop -/
noncomputable def loopB (w : World) : List Stmt := match (lawB w)[6]? with | some (Stmt.For _ _ b _ _) => b | _ => []
/-- the dresses in pairs -/
noncomputable def dressP : List (Str × Str) := dressD.map fun d => match d with | .list [.str x, .str y] => (x, y) | _ => ("", "")
theorem dressD_pairs : dressD = dressP.map pairD := by rfl
noncomputable def rowP (y : Int) : List (Str × Str) := (digs y).filterMap fun d => if 0 < d then dressP[(d - 1).toNat]? else none
theorem rowD_pairs (y : Int) : rowD (digs y) = (rowP y).map pairD := by
  unfold rowD rowP
  rw [List.map_filterMap]
  congr 1
  funext d
  by_cases q : 0 < d
  · rw [if_pos q, if_pos q, dressD_pairs, List.getElem?_map]
  · rw [if_neg q, if_neg q]; rfl
theorem rowP_len (y : Int) : (rowP y).length ≤ 4 := Nat.le_trans (List.length_filterMap_le ..) (by simp [digs])
theorem dress_len : ∀ p ∈ dressP, p.1.length ≤ 8 ∧ p.2.length ≤ 8 := by decide +kernel
theorem rowP_mem {y : Int} {p : Str × Str} (h : p ∈ rowP y) : p ∈ dressP := by
  unfold rowP at h
  obtain ⟨d, _, hd⟩ := List.mem_filterMap.mp h
  split at hd
  · exact List.mem_of_getElem? hd
  · cases hd
/-- the pattern of a number -/
noncomputable def patOf (y : Int) : Str := Txt.join "" ((rowP y).map (·.1))
theorem wt_le {c : Nat} : ∀ {l : List Str}, (∀ x ∈ l, x.length ≤ c) → wt l ≤ c * l.length
  | [], _ => by simp [wt]
  | a :: l, h => by
    rw [wt_cons, List.length_cons, Nat.mul_succ]
    have h1 := wt_le fun x hx => h x (.tail _ hx)
    have h2 := h a (.head _)
    (first | lia | omega)
theorem rowP_wt (y : Int) : wt ((rowP y).map (·.1)) ≤ 32 := by
  have h := wt_le (c := 8) (l := (rowP y).map (·.1)) fun x hx => by
    obtain ⟨p, hp, rfl⟩ := List.mem_map.mp hx
    exact (dress_len p (rowP_mem hp)).1
  have := rowP_len y
  rw [List.length_map] at h
  (first | lia | omega)
section
variable {w : World} {A : Around} {E : Value → Shared → Prop} {env : Env} {s₀ : Shared} {L : Addr} {P : PM} {m : Str → Option Value} {M : List (Addr × Obj)} {s : Shared}
/-- pattern = ''.join([dress for dress, part in rows[k]]) -/
theorem lp1 {st : Stmt} {rest : List Stmt} {v : Value} {ys : List Int} {k : Nat} {tk : Tok} {y : Int} {Q : Flow → Shared → Prop} (hst : (loopB w)[1]? = some st) (S : At s₀ P L m M s) (hh : A.handled = none)
    (hm : m "rows" = some v) (rv : Rd P v (rowsDD ys)) (hx : ys.length ≤ 1000) (hk : m "k" = some (.int (0 + (k : Int) * 1) tk)) (hy : ys[k]? = some y)
    (hQ : ∀ P' t s', P.le P' → At s₀ P' L (updm m "pattern" (.str (patOf y) t)) M s' → wpAny (mo w) A (execs rest (envC w 132 L)) Q E s') :
    wpAny (mo w) A (execs (st :: rest) (envC w 132 L)) Q E s := by
  cases hst
  obtain ⟨a, vs, n, rfl, e, r⟩ := rv.list_inv
  have hsz := r.size
  rw [List.length_map] at hsz
  obtain ⟨u, hu, ru⟩ := r.getA (i := k) (d := .list (rowD (digs y))) (by rw [List.getElem?_map, hy]; rfl)
  rw [rowD_pairs] at ru
  obtain ⟨b, us, n2, rfl, e2, r2⟩ := ru.list_inv
  have hsz2 := r2.size
  rw [List.length_map] at hsz2
  have hl4 := rowP_len y
  have hwt := rowP_wt y
  refine x_assign S ?_
  with_reducible refine PySem.Call_method1 (by k_dflt rfl) (by k_dflt rfl) (by k_dflt rfl) ?_
  walk_at "ev"
  refine onStr1 F.slot_str_join F.type_str_join ?_
  refine ev_comp S [] (by kernel_rfl) (by kernel_rfl) (by kernel_rfl) (by k_dflt rfl) (by intro x; k_dflt rfl) ?_
  with_reducible refine Subscript_ ?_
  refine r_local S ?_ (by kernel_rfl) hm (by kernel_rfl)
  refine r_local S ?_ (by kernel_rfl) hk (by kernel_rfl)
  refine o_item (S.keep _ _ e) (by (first | lia | omega)) (k := 0 + (k : Int) * 1) (by rw [show (0 + (k : Int) * 1).toNat = k by (first | lia | omega)]; exact hu) (by (first | lia | omega)) ?_
  unfold patOf at hQ
  generalize rowP y = R at r2 hsz2 hl4 hwt hQ
  refine ⟨_, _, _, us.size, _, _, fun k acc P' M' => M = M' ∧ Rds P' acc (((R.take k).map (·.1)).map .str), S, Its.list hh e2, LetIt.list (.inr ⟨_, _, _, rfl⟩), by rw [sizeLine_eq]; (first | lia | omega), ⟨rfl, .nil⟩, fun C => ?_, fun D P' M' acc j s' hle hJ S => ?_⟩
  · intro k v acc P' M' X mc s' K N hk hv hle hJ S kK kN
    obtain ⟨rfl, hJ⟩ := hJ
    have hkl : k < R.length := by (first | lia | omega)
    have hr : R[k]? = some R[k] := List.getElem?_eq_getElem hkl
    obtain ⟨v', hv', rv'⟩ := r2.getA (i := k) (d := pairD R[k]) (by rw [List.getElem?_map, hr]; rfl)
    have : v' = v := by rw [hv'] at hv; exact Option.some.inj hv
    subst this
    obtain ⟨a', n', t, u, rfl, e'⟩ := rv'.pair_inv
    have e2 := hle _ _ e'
    refine r_pair S hh e2 (fun s' S => ?_) (by k_dflt rfl)
    refine wpAny_assignInOrder_more (wpAny_assign_Name (r_store S (fun s' S => ?_) rfl))
    refine wpAny_assignInOrder_more (wpAny_assign_Name (r_store S (fun s' S => ?_) rfl))
    refine wpAny_assignInOrder_none (wpAny_tests_nil ?_)
    rw [if_pos rfl]
    walk_at "ev"
    refine kK _ _ ⟨P', _, _, .refl _, ⟨rfl, ?_⟩, S⟩
    rw [List.take_add_one, hr, List.map_append, List.map_append]
    exact hJ.append (.cons (.str ..) .nil)
  · obtain ⟨rfl, hJ⟩ := hJ
    rw [hsz2, List.take_length] at hJ
    have eD := S.live (D, listOf acc.toArray j) (.head _)
    refine o_join S eD (ps := R.map (·.1)) (P' := P') (by simpa using hJ) (joinOk_of (by show wt _ + _ ≤ _; rw [List.length_map, show (Str.ofString "").length = 0 from rfl]; (first | lia | omega))) fun t s' S => ?_
    · refine ⟨_, _, _, S, fun s'' S => hQ P' t s'' hle (S.weak (List.sublist_cons_self ..))⟩
end
end Mine
namespace Mine


/-- the numbers that the book tells -/
noncomputable def bkKeys (fz : Bool) (ks ps : List (Option Str)) : List (Option Str) := ps.foldl (bkStep fz) ks
noncomputable def bkNums (fz : Bool) : List (Option Str) → List (Option Str) → List Nat
  | _, [] => []
  | ks, p :: r => ks.idxOf p :: bkNums fz (bkStep fz ks p) r
theorem bkKeys_snoc (fz : Bool) (ks l : List (Option Str)) (p : Option Str) : bkKeys fz ks (l ++ [p]) = bkStep fz (bkKeys fz ks l) p := by
  unfold bkKeys; rw [List.foldl_append]; rfl
theorem bkNums_snoc (fz : Bool) (p : Option Str) : ∀ (ks l : List (Option Str)), bkNums fz ks (l ++ [p]) = bkNums fz ks l ++ [(bkKeys fz ks l).idxOf p]
  | _, [] => rfl
  | ks, q :: r => by
    show ks.idxOf q :: bkNums fz (bkStep fz ks q) (r ++ [p]) = _
    rw [bkNums_snoc fz p (bkStep fz ks q) r]
    rfl
theorem bkStep_len (fz : Bool) (ks : List (Option Str)) (p : Option Str) : (bkStep fz ks p).length ≤ ks.length + 1 := by
  unfold bkStep
  split
  · (first | lia | omega)
  · simp
theorem bkKeys_len (fz : Bool) : ∀ (ps ks : List (Option Str)), (bkKeys fz ks ps).length ≤ ks.length + ps.length
  | [], ks => by simp [bkKeys]
  | p :: r, ks => by
    have := bkKeys_len fz r (bkStep fz ks p)
    have h2 := bkStep_len fz ks p
    show (bkKeys fz (bkStep fz ks p) r).length ≤ _
    rw [List.length_cons]
    (first | lia | omega)
noncomputable abbrev natsD (ns : List Nat) : PyData := .list (ns.map fun n : Nat => .int (n : Int))
section
variable {w : World} {A : Around} {E : Value → Shared → Prop} {env : Env} {s₀ : Shared} {L : Addr} {P : PM} {m : Str → Option Value} {M : List (Addr × Obj)} {s : Shared}
theorem BkS.chg {pre post : List (Addr × Obj)} {T : Addr} {vs vs' : Array Value} {n n' : Nat} {f cB bk dA : Addr} {u : Tok} {fz : Bool} {es : Array DictEntry} {ep : Nat} {ks : List (Option Str)} (Z : BkS w P (pre ++ (T, listOf vs n) :: post) f cB bk dA u fz es ep ks) :
    BkS w P (pre ++ (T, listOf vs' n') :: post) f cB bk dA u fz es ep ks := by
  have mc : ∀ x ox, (x, ox) ∈ pre ++ (T, listOf vs n) :: post → ox ≠ listOf vs n → (x, ox) ∈ pre ++ (T, listOf vs' n') :: post := fun x ox h1 h2 => mem_change h1 h2
  refine ⟨⟨Z.K.fac, ?_, mc _ _ Z.K.inM (fun h => by cases h), Z.K.sys, Z.K.size⟩, Z.O, Z.ne, ?_⟩
  · obtain ⟨oB, e, q⟩ := Z.K.cell
    exact ⟨oB, mc _ _ e (fun h => by rw [h] at q; cases q), q⟩
  · have := Z.st
    cases fz
    · rw [if_neg (by decide)] at this ⊢
      exact mc _ _ this (fun h => by have h := congrArg Obj.data h; cases h)
    · rw [if_pos rfl] at this ⊢
      obtain ⟨ff, ⟨fo, fd, cS, oS, h1, h2, F, z, h3, h4⟩, dO, h5, h6⟩ := this
      exact ⟨ff, ⟨fo, fd, cS, oS, h1, h2, F, z, mc _ _ h3 (fun h => by rw [h] at h4; cases h4), h4⟩, dO, mc _ _ h5 (fun h => by rw [h] at h6; cases h6), h6⟩

/-- told.append([book[part] for part in _translate(pattern, star, '.')]) -/
theorem lp2 {st : Stmt} {rest : List Stmt} {T f bk dA : Addr} {u tp : Tok} {fz : Bool} {es : Array DictEntry} {ep tn : Nat} {ks out : List (Option Str)} {tvs : Array Value} {pat : Str} {X Y : List (Addr × Obj)} {Q : Flow → Shared → Prop} (hst : (loopB w)[2]? = some st) (S : At s₀ P L m M s) (B : Base w P)
    (hM : M = X ++ (T, listOf tvs tn) :: (bk, bookO dA (.ref f) es ep) :: Y) (Z : BkS w P M f (L + 4) bk dA u fz es ep ks) (hd : A.depth + 3 < recursionLimit) (hh : A.handled = none)
    (hp : m "pattern" = some (.str pat tp)) (hs : m "star" = some (.str "*" u)) (hT : m "told" = some (.ref T)) (hu0 : u ≠ 0) (hus : u < s₀.toks)
    (hlen : pat.length ≤ 1000) (htr : tr pat.length pat.cps.toList [] = some out) (hroom : ks.length + out.length < 1000000) (htv : tvs.size ≤ 1000)
    (hQ : ∀ P' D es' ep' s', P.le P' → Rd P' (.ref D) (natsD (bkNums fz ks out)) → At s₀ P' L m (X ++ (T, listOf (tvs.push (.ref D)) (tn + 1)) :: (bk, bookO dA (.ref f) es' ep') :: Y) s' →
      (∀ X', BkS w P (X' ++ (T, listOf tvs tn) :: (bk, bookO dA (.ref f) es ep) :: Y) f (L + 4) bk dA u fz es ep ks → BkS w P' (X' ++ (T, listOf (tvs.push (.ref D)) (tn + 1)) :: (bk, bookO dA (.ref f) es' ep') :: Y) f (L + 4) bk dA u fz es' ep' (bkKeys fz ks out)) → wpAny (mo w) A (execs rest (envC w 132 L)) Q E s') :
    wpAny (mo w) A (execs (st :: rest) (envC w 132 L)) Q E s := by
  cases hst
  refine x_expr ?_
  refine r_methappend S hT (vs₀ := tvs) (n₀ := tn) (by rw [hM]; simp) ?_ (by kernel_rfl) (by kernel_rfl) (by k_dflt rfl) (by k_dflt rfl) (by k_dflt rfl)
  refine ev_comp S [("book", L + 4)] (by kernel_rfl) (by kernel_rfl) (by kernel_rfl) (by k_dflt rfl) (by intro x; k_dflt rfl) ?_
  refine c_def S B (a := 68) ?_ (by kernel_rfl) (by kernel_rfl) (by kernel_rfl) (by k_dflt rfl) (by k_dflt rfl)
  refine spliced_more ?_ (by k_dflt rfl)
  refine r_local S ?_ (by kernel_rfl) hp (by kernel_rfl)
  refine spliced_more ?_ (by k_dflt rfl)
  refine r_local S ?_ (by kernel_rfl) hs (by kernel_rfl)
  refine spliced_more ?_ (by k_dflt rfl)
  refine r_strT S fun tq s1 htq S => spliced_none ⟨⟨_, _, _, S, B⟩, ?_⟩
  have hstp := S.tp
  refine r_call S (trans_spec (S.ok B) (by show A.depth + 2 < recursionLimit; (first | lia | omega)) hh (σ := .str "*" u) (show u ≠ 0 ∧ u < s1.toks ∧ _ from ⟨hu0, Nat.lt_of_lt_of_le hus hstp, rfl⟩) (show tq ≠ 0 ∧ tq ≠ u ∧ (Str.ofString "." ≠ Str.ofString "*") from ⟨fun q => Nat.not_lt_zero u (Nat.lt_of_lt_of_le hus (q ▸ htq)), fun q => Nat.lt_irrefl u (Nat.lt_of_lt_of_le hus (q ▸ htq)), by decide⟩) (Nat.lt_of_le_of_lt (Nat.zero_le u) (Nat.lt_of_lt_of_le hus hstp)) hlen htr) fun v P1 s2 l1 n1 S v1 hv => ?_
  obtain ⟨a, vs, n, rfl, e, hPV⟩ := hv
  have e1 := n1 _ _ e
  have hsz : vs.size = out.length := hPV.size
  have hM2 : M = (X ++ [(T, listOf tvs tn)]) ++ (bk, bookO dA (.ref f) es ep) :: Y := by rw [hM]; simp
  have B1 := B.mono l1
  refine ⟨P1, m, M, vs.size, _, _, fun k acc P' M' => ∃ es' ep', M' = (X ++ [(T, listOf tvs tn)]) ++ (bk, bookO dA (.ref f) es' ep') :: Y ∧
      (∀ X', BkS w P ((X' ++ [(T, listOf tvs tn)]) ++ (bk, bookO dA (.ref f) es ep) :: Y) f (L + 4) bk dA u fz es ep ks → BkS w P' ((X' ++ [(T, listOf tvs tn)]) ++ (bk, bookO dA (.ref f) es' ep') :: Y) f (L + 4) bk dA u fz es' ep' (bkKeys fz ks (out.take k))) ∧ Rds P' acc ((bkNums fz ks (out.take k)).map fun n : Nat => PyData.int (n : Int)),
    S, Its.list hh e1, LetIt.plain (fun _ _ => rfl), by rw [sizeLine_eq]; (first | lia | omega), ⟨es, ep, hM2, fun X' Z => Z.mono l1 fun _ h => h, .nil⟩, fun C => ?_, fun D P' M' acc j s' hle hJ S => ?_⟩
  · intro k v acc P' M' XX mc s' K N hk hv hle hJ S kK kN
    obtain ⟨es', ep', rfl, F', hJ⟩ := hJ
    have Z' := F' X (hM2 ▸ Z)
    have hkl : k < out.length := by (first | lia | omega)
    have ho : out[k]? = some out[k] := List.getElem?_eq_getElem hkl
    obtain ⟨v', hv', rv'⟩ := hPV.get k _ ho
    have : v' = v := by rw [hv'] at hv; exact Option.some.inj hv
    subst this
    have hkk := bkKeys_len fz (out.take k) ks
    have htl : (out.take k).length ≤ out.length := List.length_take_le' ..
    have B' := B1.mono hle
    refine wpAny_assign_Name (r_store S (fun s' S => ?_) rfl)
    refine wpAny_tests_nil ?_
    rw [if_pos rfl]
    obtain ⟨oB, hcB, hoB⟩ := Z'.K.cell
    with_reducible refine Subscript_ ?_
    refine r_cell S ?_ (by k_dflt rfl) hoB (List.mem_append_right _ hcB) (by kernel_rfl)
    walk_at "ev"
    have Z2 := Z'.mono (M' := XX ++ ((X ++ [(T, listOf tvs tn)]) ++ (bk, bookO dA (.ref f) es' ep') :: Y)) (.refl _) fun x h => List.mem_append_right _ h
    refine o_bk (pre := XX ++ (X ++ [(T, listOf tvs tn)])) (post := Y) S B' Z2 (by show A.depth + 2 < recursionLimit; (first | lia | omega)) hh (by simp) rv' (by (first | lia | omega)) (fun P'' es'' ep'' t s'' l S' Z'' => ?_)
    have e2 : out.take (k + 1) = out.take k ++ [out[k]] := by rw [List.take_add_one, ho]; rfl
    refine kK _ _ ⟨P'', (X ++ [(T, listOf tvs tn)]) ++ (bk, bookO dA (.ref f) es'' ep'') :: Y, _, l, ⟨es'', ep'', rfl, ?_, ?_⟩, by rw [← List.append_assoc]; exact S'⟩
    · intro X' ZZ
      rw [e2, bkKeys_snoc]
      exact Z'' _ _ (F' X' ZZ)
    · rw [e2, bkNums_snoc, List.map_append]
      exact (hJ.mono l).append (.cons (.int ..) .nil)
  · obtain ⟨es', ep', rfl, Z', hJ⟩ := hJ
    have S0 := S
    have S1 := S.freeze (pre := []) rfl
    have l2 : P'.le (PM.put P' D (listOf acc.toArray j)) := PM.le_put (S0.out D (by simp))
    rw [hsz, List.take_length] at hJ
    simp only [hsz, List.take_length] at Z'
    have hD : Rd (PM.put P' D (listOf acc.toArray j)) (.ref D) (natsD (bkNums fz ks out)) := .list (PM.put_self ..) (hJ.mono l2)
    generalize PM.put P' D (listOf acc.toArray j) = P2 at S1 l2 hD
    refine ⟨P2, m, _, X, (bk, bookO dA (.ref f) es' ep') :: Y, tvs, tn, S1, by simp, by (first | lia | omega), fun s3 S3 => ?_⟩
    refine hQ P2 D es' ep' s3 (l1.trans (hle.trans l2)) hD S3 fun X' ZZ => ?_
    have Z3 : BkS w P2 (X' ++ (T, listOf tvs tn) :: (bk, bookO dA (.ref f) es' ep') :: Y) f (L + 4) bk dA u fz es' ep' (bkKeys fz ks out) := (Z' X' (by simpa using ZZ)).mono l2 fun x h => by simpa using h
    exact Z3.chg
end
end Mine
namespace Mine


/-- the keys ahead of row k, the numbers of row k -/
noncomputable def keysAt (c : Nat) (R : List (List (Option Str))) : Nat → List (Option Str)
  | 0 => []
  | k + 1 => bkKeys (decide (c ≤ k)) (keysAt c R k) (R.getD k [])
noncomputable def numsAt (c : Nat) (R : List (List (Option Str))) (k : Nat) : List Nat := bkNums (decide (c ≤ k)) (keysAt c R k) (R.getD k [])
theorem keysAt_len {c d : Nat} {R : List (List (Option Str))} (h : ∀ r ∈ R, r.length ≤ d) : ∀ k, (keysAt c R k).length ≤ d * k
  | 0 => by simp [keysAt]
  | k + 1 => by
    have h1 := keysAt_len (c := c) h k
    have h2 := bkKeys_len (decide (c ≤ k)) (R.getD k []) (keysAt c R k)
    have h3 : (R.getD k []).length ≤ d := by
      rw [List.getD_eq_getElem?_getD]
      cases q : R[k]? with
      | none => exact Nat.zero_le _
      | some r => exact h r (List.mem_of_getElem? q)
    show (bkKeys _ _ _).length ≤ _
    rw [Nat.mul_succ]
    (first | lia | omega)
/-- the names that the first loop reads -/
structure LN (m : Str → Option Value) (vR : Value) (u : Tok) (T : Addr) (c : Nat) : Prop where
  rows : m "rows" = some vR
  star : m "star" = some (.str "*" u)
  told : m "told" = some (.ref T)
  moment : ∃ t, m "moment" = some (.int c t)
theorem LN.upd {m : Str → Option Value} {vR : Value} {u : Tok} {T : Addr} {c : Nat} (h : LN m vR u T c) {x : Str} {v : Value} (hx : (x == "rows") = false ∧ (x == "star") = false ∧ (x == "told") = false ∧ (x == "moment") = false) : LN (updm m x v) vR u T c := by
  obtain ⟨h1, h2, h3, h4⟩ := hx
  have ne : ∀ {y : Str}, (x == y) = false → (y == x) = false := fun {y} q => by rw [Bool.eq_false_iff] at q ⊢; intro e; exact q (by rw [eq_of_beq e]; exact beq_self_eq_true _)
  obtain ⟨t, ht⟩ := h.moment
  exact ⟨(updm_ne (ne h1)).trans h.rows, (updm_ne (ne h2)).trans h.star, (updm_ne (ne h3)).trans h.told, t, (updm_ne (ne h4)).trans ht⟩
section
variable {w : World} {A : Around} {E : Value → Shared → Prop} {env : Env} {s₀ : Shared} {L : Addr} {P : PM} {m : Str → Option Value} {M : List (Addr × Obj)} {s : Shared}
/-- if k == moment: book.freeze() -/
theorem lp0 {st : Stmt} {rest : List Stmt} {vR : Value} {T f bk dA : Addr} {u : Tok} {c k : Nat} {tk : Tok} {tvs : Array Value} {tn : Nat} {es : Array DictEntry} {ep : Nat} {ks : List (Option Str)} {XX X r1 r2 : List (Addr × Obj)} {dO : Obj} {ps : Array Value} {Q : Flow → Shared → Prop} (hst : (loopB w)[0]? = some st) (S : At s₀ P L m (XX ++ (X ++ (T, listOf tvs tn) :: (bk, bookO dA (.ref f) es ep) :: (dA, dO) :: (r1 ++ (93, PySem.W.X.tableObj ps) :: r2))) s) (B : Base w P) (hd : A.depth < recursionLimit)
    (Z : BkS w P (X ++ (T, listOf tvs tn) :: (bk, bookO dA (.ref f) es ep) :: (dA, dO) :: (r1 ++ (93, PySem.W.X.tableObj ps) :: r2)) f (L + 4) bk dA u (decide (c < k)) es ep ks) (hz : ¬ c < k → X = [] ∧ dO = emptyDict ∧ ps = #[]) (hi : lookIn "items" dO = some none)
    (N : LN m vR u T c) (hk : m "k" = some (.int (0 + (k : Int) * 1) tk))
    (hQ : ∀ P' X' dO' ps' s', P.le P' → At s₀ P' L m (XX ++ (X' ++ (T, listOf tvs tn) :: (bk, bookO dA (.ref f) es ep) :: (dA, dO') :: (r1 ++ (93, PySem.W.X.tableObj ps') :: r2))) s' →
      BkS w P' (X' ++ (T, listOf tvs tn) :: (bk, bookO dA (.ref f) es ep) :: (dA, dO') :: (r1 ++ (93, PySem.W.X.tableObj ps') :: r2)) f (L + 4) bk dA u (decide (c ≤ k)) es ep ks → (¬ c ≤ k → X' = [] ∧ dO' = emptyDict ∧ ps' = #[]) → lookIn "items" dO' = some none →
      wpAny (mo w) A (execs rest (envC w 132 L)) Q E s') :
    wpAny (mo w) A (execs (st :: rest) (envC w 132 L)) Q E s := by
  cases hst
  refine x_ifR (fun s' => ∃ P' X' dO' ps', P.le P' ∧ At s₀ P' L m (XX ++ (X' ++ (T, listOf tvs tn) :: (bk, bookO dA (.ref f) es ep) :: (dA, dO') :: (r1 ++ (93, PySem.W.X.tableObj ps') :: r2))) s' ∧
      BkS w P' (X' ++ (T, listOf tvs tn) :: (bk, bookO dA (.ref f) es ep) :: (dA, dO') :: (r1 ++ (93, PySem.W.X.tableObj ps') :: r2)) f (L + 4) bk dA u (decide (c ≤ k)) es ep ks ∧ (¬ c ≤ k → X' = [] ∧ dO' = emptyDict ∧ ps' = #[]) ∧ lookIn "items" dO' = some none) ?_ fun s' h => ?_
  · obtain ⟨tm, hm⟩ := N.moment
    refine wpAny_isTrue_Compare1 ?_
    refine r_local S ?_ (by kernel_rfl) hk (by kernel_rfl)
    refine r_local S ?_ (by kernel_rfl) hm (by kernel_rfl)
    refine PyProof.Rows.eq_int (wpAny_truthy_bool ?_)
    by_cases q : c = k
    · subst q
      rw [if_pos (by simp)]
      obtain ⟨rfl, rfl, rfl⟩ := hz (Nat.lt_irrefl _)
      have Z2 := Z.mono (M' := XX ++ ([] ++ (T, listOf tvs tn) :: (bk, bookO dA (.ref f) es ep) :: (dA, emptyDict) :: (r1 ++ (93, PySem.W.X.tableObj #[]) :: r2))) (.refl _) fun x h => List.mem_append_right _ h
      refine x_expr (r_freeze S B Z2.K hd (m1 := XX ++ [(T, listOf tvs tn), (bk, bookO dA (.ref f) es ep)]) (m2 := r1) (m3 := r2) (by simp) (by k_dflt rfl) (fun P' ff cS oS dO ps s' l S' F hi' => ?_) (by kernel_rfl) (by kernel_rfl) (by kernel_rfl))
      refine x_nil ⟨rfl, P', [(cS, oS)], dO, ps, l, S'.perm ?_, ?_, fun h => absurd (Nat.le_refl _) h, hi'⟩
      · simp only [List.append_assoc, List.cons_append, List.nil_append]
        exact List.perm_middle.symm
      · refine ⟨⟨(let ⟨fo, fd, e, F, c, oc, vs, t, a1, a2, a3⟩ := Z.K.fac; ⟨fo, fd, l _ _ e, F, c, oc, vs, t, a1, l _ _ a2, a3⟩), ?_, by simp, Z.K.sys, Z.K.size⟩, Z.O, Z.ne, ?_⟩
        · obtain ⟨oB, e, hoB⟩ := Z.K.cell
          refine ⟨oB, ?_, hoB⟩
          simp only [List.nil_append, List.mem_cons, List.mem_append, Prod.mk.injEq, List.cons_append] at e ⊢
          rcases e with ⟨_, e⟩ | ⟨_, e⟩ | ⟨_, e⟩ | e | ⟨_, e⟩ | e
          · rw [e] at hoB; cases hoB
          · rw [e] at hoB; cases hoB
          · rw [e] at hoB; cases hoB
          · exact .inr (.inr (.inr (.inr (.inl e))))
          · rw [e] at hoB; cases hoB
          · exact .inr (.inr (.inr (.inr (.inr (.inr e)))))
        · rw [if_pos (by simp)]
          exact ⟨ff, F _ (by simp) (by simp)⟩
    · rw [if_neg (by simp; (first | lia | omega))]
      refine x_nil ⟨rfl, P, X, dO, ps, .refl _, S, ?_, fun h => hz (by (first | lia | omega)), hi⟩
      have e : decide (c ≤ k) = decide (c < k) := by
        by_cases h : c < k
        · rw [decide_eq_true h, decide_eq_true (by (first | lia | omega))]
        · rw [decide_eq_false h, decide_eq_false (by (first | lia | omega))]
      rw [e]
      exact Z
  · obtain ⟨P', X', dO', ps', l, S', Z', hz', hi'⟩ := h
    exact hQ P' X' dO' ps' s' l S' Z' hz' hi'
end
end Mine
namespace Mine

section
variable {w : World} {A : Around} {E : Value → Shared → Prop} {env : Env} {s₀ : Shared} {L : Addr} {P : PM} {m : Str → Option Value} {M : List (Addr × Obj)} {s : Shared}
/-- the state of the first loop -/
structure LS (w : World) (L T f bk dA : Addr) (u : Tok) (c : Nat) (R : List (List (Option Str))) (vR : Value) (r1 r2 : List (Addr × Obj)) (k : Nat) (P : PM) (m : Str → Option Value) (M : List (Addr × Obj)) (X : List (Addr × Obj)) (tvs : Array Value) (tn : Nat) (es : Array DictEntry) (ep : Nat) (dO : Obj) (ps : Array Value) : Prop where
  eqM : M = X ++ (T, listOf tvs tn) :: (bk, bookO dA (.ref f) es ep) :: (dA, dO) :: (r1 ++ (93, PySem.W.X.tableObj ps) :: r2)
  Z : BkS w P M f (L + 4) bk dA u (decide (c < k)) es ep (keysAt c R k)
  hz : ¬ c < k → X = [] ∧ dO = emptyDict ∧ ps = #[]
  hi : lookIn "items" dO = some none
  told : Rds P tvs.toList ((List.range k).map fun i => natsD (numsAt c R i))
  N : LN m vR u T c
/-- for k in range(len(rows)): .. -/
theorem law6 {st : Stmt} {rest : List Stmt} {T f bk dA : Addr} {u : Tok} {c : Nat} {ys : List Int} {outOf : Int → List (Option Str)} {vR : Value} {r1 r2 : List (Addr × Obj)} {Q : Flow → Shared → Prop} (hst : (lawB w)[6]? = some st) (S : At s₀ P L m M s) (B : Base w P) (hd : A.depth + 3 < recursionLimit) (hh : A.handled = none)
    (hM : M = (T, listOf #[] 0) :: (bk, bookO dA (.ref f) #[] 0) :: (dA, emptyDict) :: (r1 ++ (93, PySem.W.X.tableObj #[]) :: r2)) (Z : BkS w P M f (L + 4) bk dA u false #[] 0 [])
    (N : LN m vR u T c) (rv : Rd P vR (rowsDD ys)) (hy : ys.length ≤ 1000) (hu0 : u ≠ 0) (hus : u < s₀.toks)
    (hout : ∀ y ∈ ys, (patOf y).length ≤ 1000 ∧ tr (patOf y).length (patOf y).cps.toList [] = some (outOf y) ∧ (outOf y).length ≤ 100)
    (hQ : ∀ P' m' M' X tvs tn es ep dO ps s', P.le P' → At s₀ P' L m' M' s' → LS w L T f bk dA u c (ys.map outOf) vR r1 r2 ys.length P' m' M' X tvs tn es ep dO ps → wpAny (mo w) A (execs rest (envC w 132 L)) Q E s') :
    wpAny (mo w) A (execs (st :: rest) (envC w 132 L)) Q E s := by
  cases hst
  obtain ⟨a, vs, n, rfl, e, r⟩ := rv.list_inv
  have hsz := r.size
  rw [List.length_map] at hsz
  refine x_for S ?_ (by intro x; k_dflt rfl)
  refine c_type S B (T := "range") ?_ (he := by k_dflt rfl) (hplain := by k_dflt rfl)
  refine spliced_more ?_ (by k_dflt rfl)
  refine c_built S B (id := "len") ?_ (he := by k_dflt rfl) (hplain := by k_dflt rfl)
  refine spliced_more ?_ (by k_dflt rfl)
  refine r_local S ?_ (by kernel_rfl) N.rows (by kernel_rfl)
  refine spliced_none ?_
  refine o_len S (S.keep _ _ e) (by (first | lia | omega)) fun t s1 S => ?_
  refine spliced_none ?_
  refine o_range1 S hh (by (first | lia | omega)) fun rg P1 s2 l1 S W => ?_
  have hn2 : ((vs.size : Nat) : Int).toNat = ys.length := by (first | lia | omega)
  rw [hn2] at W
  have B1 := B.mono l1
  refine ⟨P1, m, M, ys.length, _, _, fun k P' m' M' => ∃ X tvs tn es ep dO ps, LS w L T f bk dA u c (ys.map outOf) (.ref a) r1 r2 k P' m' M' X tvs tn es ep dO ps, S, W, LetIt.plain (fun _ _ => rfl), ?_, ?_, ?_⟩
  · refine ⟨[], #[], 0, #[], 0, emptyDict, #[], hM, ?_, fun _ => ⟨rfl, rfl, rfl⟩, by kernel_rfl, .nil, N⟩
    rw [decide_eq_false (Nat.not_lt_zero c)]
    exact Z.mono l1 fun _ h => h
  · intro k v P' m' M' XX s' K hk hv hle hJ S kK
    obtain ⟨X, tvs, tn, es, ep, dO, ps, J⟩ := hJ
    obtain ⟨tk, rfl⟩ := hv
    have hkl : ys[k]? = some ys[k] := List.getElem?_eq_getElem hk
    obtain ⟨hl1, htr, hol⟩ := hout ys[k] (List.getElem_mem hk)
    have hR : (ys.map outOf).getD k [] = outOf ys[k] := by
      rw [List.getD_eq_getElem?_getD, List.getElem?_map, hkl]; rfl
    have hkeys := keysAt_len (c := c) (d := 100) (R := ys.map outOf) (fun r hr => by
      obtain ⟨y, hy, rfl⟩ := List.mem_map.mp hr
      exact (hout y hy).2.2) k
    have hMM := J.eqM
    subst hMM
    refine wpAny_assign_Name (r_store S (fun s3 S => ?_) rfl)
    have Nk := J.N.upd (x := "k") (v := .int (0 + (k : Int) * 1) tk) ⟨by decide, by decide, by decide, by decide⟩
    refine lp0 (w := w) rfl S (B1.mono hle) (by (first | lia | omega)) J.Z J.hz J.hi Nk updm_eq fun P2 X2 dO2 ps2 s4 l2 S Z2 hz2 hi2 => ?_
    refine lp1 (w := w) rfl S hh Nk.rows (rv.mono (l1.trans (hle.trans l2))) hy updm_eq hkl fun P3 tp s5 l3 S => ?_
    have Np := Nk.upd (x := "pattern") (v := .str (patOf ys[k]) tp) ⟨by decide, by decide, by decide, by decide⟩
    have B3 := ((B1.mono hle).mono l2).mono l3
    have Z3 := Z2.mono (M' := XX ++ (X2 ++ (T, listOf tvs tn) :: (bk, bookO dA (.ref f) es ep) :: (dA, dO2) :: (r1 ++ (93, PySem.W.X.tableObj ps2) :: r2))) l3 fun x h => List.mem_append_right _ h
    have htl := J.told.size
    rw [List.length_map, List.length_range] at htl
    refine lp2 (w := w) (tvs := tvs) (tn := tn) (es := es) (ep := ep) (X := XX ++ X2) (Y := (dA, dO2) :: (r1 ++ (93, PySem.W.X.tableObj ps2) :: r2)) rfl S B3 (by simp) Z3 hd hh updm_eq Np.star Np.told hu0 hus hl1 htr (by (first | lia | omega)) (by (first | lia | omega)) fun P4 D es' ep' s6 l4 rD S Z4 => ?_
    refine x_nil (kK _ ⟨P4, _, X2 ++ (T, listOf (tvs.push (.ref D)) (tn + 1)) :: (bk, bookO dA (.ref f) es' ep') :: (dA, dO2) :: (r1 ++ (93, PySem.W.X.tableObj ps2) :: r2), l2.trans (l3.trans l4), ⟨X2, tvs.push (.ref D), tn + 1, es', ep', dO2, ps2, rfl, ?_, ?_, hi2, ?_, Np⟩, by rw [← List.append_assoc]; exact S⟩)
    · have hdk : decide (c < k + 1) = decide (c ≤ k) := by
        by_cases h : c ≤ k
        · rw [decide_eq_true h, decide_eq_true (by (first | lia | omega))]
        · rw [decide_eq_false h, decide_eq_false (by (first | lia | omega))]
      rw [hdk]
      show BkS w P4 _ f (L + 4) bk dA u (decide (c ≤ k)) es' ep' (bkKeys (decide (c ≤ k)) (keysAt c (ys.map outOf) k) ((ys.map outOf).getD k []))
      rw [hR]
      exact Z4 X2 (Z2.mono l3 fun _ h => h)
    · exact fun h => hz2 (by (first | lia | omega))
    · rw [List.range_succ, List.map_append, Array.toList_push]
      refine (J.told.mono (l2.trans (l3.trans l4))).append (.one ?_)
      show Rd P4 (.ref D) (natsD (bkNums (decide (c ≤ k)) (keysAt c (ys.map outOf) k) ((ys.map outOf).getD k [])))
      rw [hR]
      exact rD
  · intro P' m' M' s' hle hJ S
    obtain ⟨X, tvs, tn, es, ep, dO, ps, J⟩ := hJ
    exact hQ P' m' M' X tvs tn es ep dO ps s' (l1.trans hle) S J
end
end Mine
namespace Mine

noncomputable abbrev twoFor (x y : Str) (px py py' : Pos) (i1 i2 : Expr) (scope : Scope) (pos : Pos) : Expr := .ListComp (.Name y py) [⟨.Name x px, i1, [], 0⟩, ⟨.Name y py', i2, [], 0⟩] scope pos
theorem turn_in (x y : Str) (px py py' : Pos) (i1 i2 : Expr) (scope : Scope) (pos : Pos) (it acc : Value) (env : Env) :
    compTurn (twoFor x y px py py' i1 i2 scope pos) 1 it acc env = (standAt i2.pos >>= fun _ => pyNext it >>= fun r => match r with
      | none => pure (.done .next)
      | some v => letOwnedTupleGo (.Name y py') it v >>= fun _ => assign (.Name y py') env v >>= fun _ =>
        (eval (.Name y py) env >>= fun x => call (.builtin "list.append") [acc, x] >>= fun _ => pure ()) >>= fun _ =>
          again (.compLoop (twoFor x y px py py' i1 i2 scope pos) 1 it acc env)) := by rfl
theorem turn_out (x y : Str) (px py py' : Pos) (i1 i2 : Expr) (scope : Scope) (pos : Pos) (it acc : Value) (env : Env) :
    compTurn (twoFor x y px py py' i1 i2 scope pos) 0 it acc env = (standAt i1.pos >>= fun _ => pyNext it >>= fun r => match r with
      | none => pure (.done .next)
      | some v => letOwnedTupleGo (.Name x px) it v >>= fun _ => assign (.Name x px) env v >>= fun _ =>
        (eval i2 env >>= fun z => standAt i2.pos >>= fun _ => foldedSetIterable i2 env z >>= fun z => holding [z] (pyIter z) >>= fun it2 =>
          runOwn (.compStart (twoFor x y px py py' i1 i2 scope pos) 1 it2 acc env) env >>= fun _ =>
          again (.compLoop (twoFor x y px py py' i1 i2 scope pos) 0 it acc env))) := by rfl
section
variable {w : World} {A : Around} {E : Value → Shared → Prop} {R : Result → Shared → Prop} {env cenv : Env} {s₀ : Shared} {L : Addr} {P : PM} {m : Str → Option Value} {M : List (Addr × Obj)} {s : Shared}
theorem start_in {x y : Str} {px py py' : Pos} {i1 i2 : Expr} {scope : Scope} {pos : Pos} {it acc : Value}
    (h0 : codeAny (mo w) A (.compLoop (twoFor x y px py py' i1 i2 scope pos) 1 it acc env) R s)
    (h : wpAny (mo w) A (pyIter it) (fun it' s' => codeAny (mo w) A (.compLoop (twoFor x y px py py' i1 i2 scope pos) 1 it' acc env) R s')
      (notedBy (mo w) A env fun x s' => R (.error x) s') s) :
    codeAny (mo w) A (.compStart (twoFor x y px py py' i1 i2 scope pos) 1 it acc env) R s := by
  refine codeAny_of_tree ?_
  show wpAny _ _ ((compStart (twoFor x y px py py' i1 i2 scope pos) 1 it acc env).onRaise (fun x => do noteFrame x env; standAt theWindowsPlace)) _ _ s
  refine wpAny_notedAt ?_
  unfold compStart
  show wpAny _ _ (ask >>= _) _ _ s
  refine wpAny_bind (wpAny_askSetting (wpAny_ite ?_))
  split
  · first
      | exact wpAny_bind (wpAny_pure (wpAny_pure (And.intro rfl h0)))
      | exact wpAny_pure (And.intro rfl h0)
  · first
      | exact wpAny_bind (wpAny_rule (wpAny_bind (wpAny_standAt (wpAny_bind (wpAny_mono h (fun it' s' h' => wpAny_pure (And.intro rfl h')) fun _ _ x => x)))))
      | (refine wpAny_bind (wpAny_rule ?_); show wpAny _ _ (standAt i2.pos >>= _) _ _ s; exact wpAny_bind (wpAny_standAt (wpAny_bind (wpAny_mono h (fun it' s' h' => wpAny_pure (And.intro rfl h')) fun _ _ x => x))))

theorem flat_inner {x y : Str} {px py py' : Pos} {i1 i2 : Expr} {scope : Scope} {pos : Pos} {l D : Addr} {us : Array Value} {nn : Nat} (hh : A.handled = none) (hl : P l = some (listOf us nn)) {acc0 : List Value} {Z : List (Addr × Obj)}
    (hy : cenv.kindOf y = some .local) (hk : cenv.scope.kind = .function) (hyd : (y == ("__debug__" : Str)) = false) (hsz : acc0.length + us.size ≤ 16777216)
    (fin : ∀ mc j s', At s₀ P cenv.locals mc ((D, listOf (acc0 ++ us.toList).toArray j) :: Z) s' → R (.ok .next) s') {I : Addr} {oI : Obj} {j0 : Nat} {mc : Str → Option Value} (hI : IterO oI l 0)
    (S : At s₀ P cenv.locals mc ((D, listOf acc0.toArray j0) :: (I, oI) :: Z) s) :
    codeAny (mo w) A (.compLoop (twoFor x y px py py' i1 i2 scope pos) 1 (.ref I) (.ref D) cenv) R s := by
  have W : Its w A s₀ P (.ref l) us.size _ _ := Its.list hh hl
  refine codeAny_loop rfl (fun r s => ∃ k mc oI j, r + k = us.size ∧ IterO oI l k ∧ At s₀ P cenv.locals mc ((D, listOf (acc0 ++ us.toList.take k).toArray j) :: (I, oI) :: Z) s)
    (fun r s hi => ?_) us.size ⟨0, mc, oI, j0, rfl, hI, by simpa using S⟩
  show wpAny _ _ ((compTurn (twoFor x y px py py' i1 i2 scope pos) 1 (.ref I) (.ref D) cenv).onRaise (fun x => do noteFrame x cenv; theTreesLotGoes x)) _ _ s
  obtain ⟨k, mc, oI, j, hkr, hI, S⟩ := hi
  refine wpAny_noted ?_
  rw [turn_in]
  refine wpAny_bind (wpAny_standAt (wpAny_bind ?_))
  cases r with
  | zero =>
    have hk' : k = us.size := by (first | lia | omega)
    subst hk'
    refine W.stop (pre := [(D, listOf (acc0 ++ us.toList.take us.size).toArray j)]) (.refl _) S rfl hI fun s' S => ?_
    have e : us.toList.take us.size = us.toList := by rw [← Array.length_toList, List.take_length]
    rw [e] at S
    exact wpAny_pure (fin mc j s' S)
  | succ r =>
    have hlt : k < us.size := by (first | lia | omega)
    refine W.next (pre := [(D, listOf (acc0 ++ us.toList.take k).toArray j)]) (.refl _) S rfl hI hlt fun v oI' s₁ hv hI' S => ?_
    refine wpAny_bind (wpAny_pure ?_)
    refine wpAny_bind (wpAny_assign_Name (r_store0 S (fun s2 S => ?_) rfl hk hy))
    refine wpAny_bind (wpAny_bind (r_local0 S ?_ rfl updm_eq hk hy hyd))
    refine wpAny_bind (append_at (hsz := by rw [sizeLine_eq]; simp only [List.size_toArray, List.length_append, List.length_take, Array.length_toList]; (first | lia | omega)) (S.live (D, listOf (acc0 ++ us.toList.take k).toArray j) (by simp)) fun h' hs he => ?_)
    have U := S.upd (pre := []) (o' := listOf ((acc0 ++ us.toList.take k).toArray.push v) (j + 1)) rfl hs he
    refine wpAny_pure (wpAny_pure ⟨rfl, r, Nat.lt_succ_self r, k + 1, updm mc y v, oI', j + 1, by (first | lia | omega), hI', ?_⟩)
    have e : (acc0 ++ us.toList.take (k + 1)).toArray = (acc0 ++ us.toList.take k).toArray.push v := by
      have hv' : us.toList[k]? = some v := by simpa using hv
      rw [List.take_add_one, hv', ← List.append_assoc]; simp
    rw [e]
    exact U

theorem flat_outer {x y : Str} {px py py' pz : Pos} {i1 : Expr} {scope : Scope} {pos : Pos} {a D : Addr} {vs : Array Value} {n : Nat} {pss : List (List Str)} (hh : A.handled = none) (ha : P a = some (listOf vs n)) (hr : Rds P vs.toList (pss.map strsD)) {Z : List (Addr × Obj)}
    (hx : cenv.kindOf x = some .local) (hy : cenv.kindOf y = some .local) (hk : cenv.scope.kind = .function) (hyd : (y == ("__debug__" : Str)) = false) (hxd : (x == ("__debug__" : Str)) = false) (hsz : pss.flatten.length ≤ 1000000) (hs : ∀ z, foldedSetIterable (.Name x pz) cenv z = pure z)
    (fin : ∀ mc acc j s', Rds P acc (pss.flatten.map .str) → At s₀ P cenv.locals mc ((D, listOf acc.toArray j) :: Z) s' → R (.ok .next) s') {I : Addr} {oI : Obj} {mc : Str → Option Value} (hI : IterO oI a 0)
    (S : At s₀ P cenv.locals mc ((D, listOf #[] 0) :: (I, oI) :: Z) s) :
    codeAny (mo w) A (.compLoop (twoFor x y px py py' i1 (.Name x pz) scope pos) 0 (.ref I) (.ref D) cenv) R s := by
  have W : Its w A s₀ P (.ref a) vs.size _ _ := Its.list hh ha
  have hvsz := hr.size
  rw [List.length_map] at hvsz
  refine codeAny_loop rfl (fun r s => ∃ k mc oI acc j, r + k = vs.size ∧ IterO oI a k ∧ Rds P acc ((pss.take k).flatten.map .str) ∧ At s₀ P cenv.locals mc ((D, listOf acc.toArray j) :: (I, oI) :: Z) s)
    (fun r s hi => ?_) vs.size ⟨0, mc, oI, [], 0, rfl, hI, .nil, S⟩
  show wpAny _ _ ((compTurn (twoFor x y px py py' i1 (.Name x pz) scope pos) 0 (.ref I) (.ref D) cenv).onRaise (fun x => do noteFrame x cenv; theTreesLotGoes x)) _ _ s
  obtain ⟨k, mc, oI, acc, j, hkr, hI, hA, S⟩ := hi
  refine wpAny_noted ?_
  rw [turn_out]
  refine wpAny_bind (wpAny_standAt (wpAny_bind ?_))
  cases r with
  | zero =>
    have hk' : k = vs.size := by (first | lia | omega)
    subst hk'
    refine W.stop (pre := [(D, listOf acc.toArray j)]) (.refl _) S rfl hI fun s' S => ?_
    rw [hvsz, List.take_length] at hA
    exact wpAny_pure (fin mc acc j s' hA S)
  | succ r =>
    have hlt : k < vs.size := by (first | lia | omega)
    have hkp : k < pss.length := by (first | lia | omega)
    refine W.next (pre := [(D, listOf acc.toArray j)]) (.refl _) S rfl hI hlt fun v oI' s₁ hv hI' S => ?_
    refine wpAny_bind (wpAny_pure ?_)
    refine wpAny_bind (wpAny_assign_Name (r_store0 S (fun s2 S => ?_) rfl hk hx))
    obtain ⟨v', hv', rv⟩ := hr.getA (i := k) (d := strsD pss[k]) (by rw [List.getElem?_map, List.getElem?_eq_getElem hkp]; rfl)
    have : v' = v := by rw [hv'] at hv; exact Option.some.inj hv
    subst this
    obtain ⟨l, us, nn, rfl, el, ru⟩ := rv.list_inv
    refine wpAny_bind (r_local0 S ?_ rfl updm_eq hk hx hxd)
    refine wpAny_bind (wpAny_standAt ?_)
    refine wpAny_bind (wpAny_of_eq (hs _) ?_)
    have W2 : Its w A s₀ P (.ref l) us.size _ _ := Its.list hh el
    refine wpAny_bind (wpAny_holding (W2.start S fun o2 hf2 hI2 => ?_))
    have S2 := S.push o2 hf2
    generalize s2.heap.objs.size = I2 at S2 ⊢
    have S3 := S2.perm (List.Perm.swap (D, listOf acc.toArray j) (I2, o2) ((I, oI') :: Z))
    have hal := hA.length
    have hul := ru.size
    rw [List.length_map] at hal hul
    have htot : acc.length + us.size ≤ 1000000 := by
      have e1 : pss.flatten.length = (pss.take k).flatten.length + (pss.drop k).flatten.length := by
        rw [← List.length_append, ← List.flatten_append, List.take_append_drop]
      have e2 : pss.drop k = pss[k] :: pss.drop (k + 1) := List.drop_eq_getElem_cons hkp
      rw [e2, List.flatten_cons, List.length_append] at e1
      (first | lia | omega)
    have hnext : (pss.take (k + 1)).flatten = (pss.take k).flatten ++ pss[k] := by
      rw [List.take_add_one, List.getElem?_eq_getElem hkp, List.flatten_append]; show _ ++ [pss[k]].flatten = _; rw [List.flatten_cons, List.flatten_nil, List.append_nil]
    refine wpAny_bind (wpAny_runOwn (start_in ?_ (W2.again (S3.live (I2, o2) (by simp)) hI2 ?_)))
    all_goals
      refine flat_inner hh el (acc0 := acc) (Z := (I, oI') :: Z) hy hk hyd (by (first | lia | omega)) (fun mc' j' s' S' => ?_) hI2 S3
      refine wpAny_pure ⟨rfl, r, Nat.lt_succ_self r, k + 1, mc', oI', acc ++ us.toList, j', by (first | lia | omega), hI', ?_, S'⟩
      rw [hnext, List.map_append]
      exact hA.append ru
end
end Mine
namespace Mine


section
variable {w : World} {A : Around} {E : Value → Shared → Prop} {env : Env} {s₀ : Shared} {L : Addr} {P : PM} {m : Str → Option Value} {M : List (Addr × Obj)} {s : Shared}
theorem ev_flat {x y : Str} {px py py' pz : Pos} {i1 : Expr} {scope : Scope} {pos : Pos} {Q : Value → Shared → Prop} (_S : At s₀ P L m M s) (hh : A.handled = none)
    (hcell : (scope.names.all fun x => x.2 != .cell) = true) (hk : scope.kind = .function) (hnames : (scope.names.all fun x => x.2 != .local || scope.names.lookup x.1 == some .local) = true)
    (hclos : closureFor scope env = pure []) (hs : ∀ x, foldedSetIterable i1 env x = pure x)
    (hx : ∀ C, (compEnvC scope [] C env).kindOf x = some .local) (hy : ∀ C, (compEnvC scope [] C env).kindOf y = some .local) (hck : ∀ C, (compEnvC scope [] C env).scope.kind = .function) (hyd : (y == ("__debug__" : Str)) = false) (hxd : (x == ("__debug__" : Str)) = false)
    (hs2 : ∀ C z, foldedSetIterable (.Name x pz) (compEnvC scope [] C env) z = pure z)
    (h : wpAny (mo w) A (eval i1 env) (fun v s₁ => ∃ P₁ m₁ M₁ a vs n, ∃ pss : List (List Str), v = .ref a ∧ At s₀ P₁ L m₁ M₁ s₁ ∧ P₁ a = some (listOf vs n) ∧ Rds P₁ vs.toList (pss.map strsD) ∧ pss.flatten.length ≤ 1000000 ∧
      ∀ D acc j s', Rds P₁ acc (pss.flatten.map .str) → At s₀ P₁ L m₁ ((D, listOf acc.toArray j) :: M₁) s' → Q (.ref D) s') E s) :
    wpAny (mo w) A (eval (twoFor x y px py py' i1 (.Name x pz) scope pos) env) Q E s := by
  rw [eval_ListComp]
  refine wpAny_comprehension_free (g := ⟨.Name x px, i1, [], 0⟩) (gs := [⟨.Name y py', .Name x pz, [], 0⟩]) rfl hs hclos hk (fun x hx hl => ?_) (wpAny_mono h (fun v s₁ h₁ => ?_) fun _ _ x => x)
  · have := List.all_eq_true.mp hnames x hx
    rw [hl] at this
    simpa using this
  · obtain ⟨P₁, m₁, M₁, a, vs, n, pss, rfl, S, ha, hr, hsz, fin⟩ := h₁
    have hcell' : ∀ x ∈ scope.names, x.2 ≠ .cell := fun x hx q => by
      have := List.all_eq_true.mp hcell x hx
      rw [q] at this; cases this
    have W : Its w A s₀ P₁ (.ref a) vs.size _ _ := Its.list hh ha
    refine W.start S fun oI hfr hI0 => ?_
    have S₁ := S.push oI hfr
    refine wpAny_newList ?_
    have S₂ := S₁.push (listOf #[] 0)
    have S₃ := S₂.push { cls := .type "dict", data := .dict #[] }
    refine wpAny_newFunctionEnv hcell' (by simp) (fun h' hn hs => ?_) hk
    dsimp only [Option.isSome_some, if_true] at hs
    obtain ⟨oC, hoC, nC⟩ := ns_iff.mp hn
    have S₄ := S₃.upd (pre := []) (o' := oC) rfl hs hoC
    obtain ⟨oL, nL, S₅⟩ := S₄.swap (pre := []) rfl nC
    generalize hI : s₁.heap.objs.size = I at S₁ S₂ S₃ S₄ S₅ hn hs ⊢
    generalize hD : (s₁.heap.push oI).objs.size = D at S₂ S₃ S₄ S₅ hn hs hoC ⊢
    generalize hC : ((s₁.heap.push oI).push (listOf #[] 0)).objs.size = C at S₃ S₄ S₅ hn hs hoC ⊢
    have S₆ := (S₅.perm (M' := (D, listOf #[] 0) :: (I, oI) :: (L, oL) :: M₁) (by
      simp only [List.nil_append, List.cons_append]
      exact (List.Perm.swap _ _ _).trans ((List.Perm.swap _ _ _).cons _))).toks1 0
    have loop : codeAny (mo w) A (.compLoop (twoFor x y px py py' i1 (.Name x pz) scope pos) 0 (.ref I) (.ref D) (compEnvC scope [] C env)) (compPost (mo w) A E none Q (.ref D) C) _ :=
      flat_outer (cenv := compEnvC scope [] C env) (Z := (L, oL) :: M₁) hh ha hr (hx C) (hy C) (hck C) hyd hxd hsz (hs2 C) (fun mc acc j s' hA S' => by
        refine ⟨mc, S'.ns, fun h' hs' => ?_⟩
        obtain ⟨oC, nC, S''⟩ := S'.swap (pre := [(D, listOf acc.toArray j)]) rfl nL
        exact fin D acc j _ hA (S''.ext (pre := [(D, listOf acc.toArray j)]) rfl hs'.extBut)) hI0 S₆
    exact codeAny_compStart_list loop (W.again (S₆.live (I, oI) (by simp)) hI0 loop)

/-- the parts due of a number -/
noncomputable def dueOf (y : Int) : List Str := dedup ((rowP y).map (·.2))
/-- due = [_law_parts(row) for row in rows] -/
theorem law7 {st : Stmt} {rest : List Stmt} {v : Value} {ys : List Int} {Q : Flow → Shared → Prop} (hst : (lawB w)[7]? = some st) (S : At s₀ P L m M s) (B : Base w P) (hh : A.handled = none) (hd : A.depth + 2 < recursionLimit)
    (hm : m "rows" = some v) (rv : Rd P v (rowsDD ys)) (hx : ys.length ≤ 1000)
    (hQ : ∀ P' D s', P.le P' → Rd P' (.ref D) (.list ((ys.map dueOf).map strsD)) → At s₀ P' L (updm m "due" (.ref D)) M s' → wpAny (mo w) A (execs rest (envC w 132 L)) Q E s') :
    wpAny (mo w) A (execs (st :: rest) (envC w 132 L)) Q E s := by
  cases hst
  obtain ⟨a, vs, n, rfl, e, r⟩ := rv.list_inv
  have hsz := r.size
  rw [List.length_map] at hsz
  refine x_compL S [] (by kernel_rfl) (by kernel_rfl) (by kernel_rfl) (by k_dflt rfl) (by intro x; k_dflt rfl) (by kernel_rfl) rfl (by kernel_rfl) (by kernel_rfl) ?_
  refine r_local S ?_ (by kernel_rfl) hm (by kernel_rfl)
  refine ⟨P, m, M, vs.size, _, _, fun k acc P' M' => M = M' ∧ Rds P' acc (((ys.take k).map dueOf).map strsD), S, Its.list hh e, LetIt.plain (fun _ _ => rfl), by rw [sizeLine_eq]; (first | lia | omega), ⟨rfl, .nil⟩, fun C => ?_, fun D2 P' M' acc j s' hle hJ S => ?_⟩
  · intro k v acc P' M' X mc s' K N hk hv hle hJ S kK kN
    obtain ⟨rfl, hJ⟩ := hJ
    have hkl : k < ys.length := by (first | lia | omega)
    obtain ⟨u, hu, ru⟩ := r.getA (i := k) (d := .list (rowD (digs ys[k]))) (by rw [List.getElem?_map, List.getElem?_eq_getElem hkl]; rfl)
    have : u = v := by rw [hu] at hv; exact Option.some.inj hv
    subst this
    rw [rowD_pairs] at ru
    have hl4 := rowP_len ys[k]
    refine wpAny_assign_Name (r_store S (fun s' S => ?_) rfl)
    refine wpAny_tests_nil ?_
    rw [if_pos rfl]
    refine c_def S (B.mono hle) (a := 122) ?_ (by kernel_rfl) (by kernel_rfl) (by kernel_rfl) (by k_dflt rfl) (by k_dflt rfl)
    refine spliced_more ?_ (by k_dflt rfl)
    walk_at "ev"
    refine spliced_none ⟨⟨_, _, _, S, B.mono hle⟩, ?_⟩
    refine r_call S (parts_spec (S.ok (B.mono hle)) (by show A.depth + 1 < recursionLimit; (first | lia | omega)) hh ((ru.mono hle).mono S.leAll) (by (first | lia | omega))) fun v1 P5 s8 l5 n5 S v1' r5 => ?_
    refine kK _ _ ⟨P5, _, _, l5, ⟨rfl, ?_⟩, S⟩
    rw [List.take_add_one, List.getElem?_eq_getElem hkl, List.map_append, List.map_append]
    exact (hJ.mono l5).append (.cons (r5.mono n5) .nil)
  · obtain ⟨rfl, hJ⟩ := hJ
    have S0 := S
    have S1 := S.freeze (pre := []) rfl
    have l5 : P'.le (PM.put P' D2 (listOf acc.toArray j)) := PM.le_put (S0.out D2 (by simp))
    rw [hsz, List.take_length] at hJ
    exact hQ _ D2 s' (hle.trans l5) (.list (PM.put_self ..) (hJ.mono l5)) S1

/-- flat = [part for parts in due[:moment] for part in parts] -/
theorem law8 {st : Stmt} {rest : List Stmt} {v : Value} {pss : List (List Str)} {c : Nat} {tm : Tok} {oF : Obj} {v₀ : Option Value} {m1 m2 : List (Addr × Obj)} {Q : Flow → Shared → Prop} (hst : (lawB w)[8]? = some st) (S : At s₀ P L m M s) (hh : A.handled = none)
    (hM : M = m1 ++ (L + 1, oF) :: m2) (hoF : oF.data = .cell v₀)
    (hm : m "due" = some v) (hmo : m "moment" = some (.int c tm)) (rv : Rd P v (.list (pss.map strsD))) (hx : pss.length ≤ 1000) (hfl : (pss.take c).flatten.length ≤ 1000000)
    (hQ : ∀ P' D oF' s', P.le P' → Rd P' (.ref D) (strsD (pss.take c).flatten) → oF'.data = .cell (some (.ref D)) → At s₀ P' L m (m1 ++ (L + 1, oF') :: m2) s' → wpAny (mo w) A (execs rest (envC w 132 L)) Q E s') :
    wpAny (mo w) A (execs (st :: rest) (envC w 132 L)) Q E s := by
  cases hst
  obtain ⟨a, vs, n, rfl, e, r⟩ := rv.list_inv
  have hsz := r.size
  rw [List.length_map] at hsz
  refine x_assignC S (c := L + 1) ?_ (by k_dflt rfl) (by kernel_rfl) (by kernel_rfl)
  refine ev_flat S hh (by kernel_rfl) (by kernel_rfl) (by kernel_rfl) (by k_dflt rfl) (by intro x; k_dflt rfl) (fun C => by kernel_rfl) (fun C => by kernel_rfl) (fun C => by kernel_rfl) (by kernel_rfl) (by kernel_rfl) (fun C z => by k_dflt rfl) ?_
  refine r_sliceL S ?_ (by intro o r; k_dflt rfl)
  refine r_local S ?_ (by kernel_rfl) hm (by kernel_rfl)
  refine wpAny_evalPart_none ?_
  with_reducible refine PySem.wpAny_evalPart_some ?_
  refine r_local S ?_ (by kernel_rfl) hmo (by kernel_rfl)
  refine ⟨a, vs, n, none, some (c : Int), _, _, _, rfl, S, S.keep _ _ e, by (first | lia | omega), .none, .int _ _, fun D P1 s' l1 S eD hD => ?_⟩
  rw [slicePick_take] at eD
  have r6 := (r.take c).mono l1
  rw [← List.map_take] at r6
  refine ⟨P1, m, M, D, _, _, pss.take c, rfl, S, eD, by simpa using r6, hfl, fun D2 acc j s2 hA S => ?_⟩
  have S0 := S
  have S1 := S.freeze (pre := []) rfl
  have l5 : P1.le (PM.put P1 D2 (listOf acc.toArray j)) := PM.le_put (S0.out D2 (by simp))
  have rD : Rd (PM.put P1 D2 (listOf acc.toArray j)) (.ref D2) (strsD (pss.take c).flatten) := .list (PM.put_self ..) (hA.mono l5)
  generalize PM.put P1 D2 (listOf acc.toArray j) = P2 at S1 l5 rD
  subst hM
  exact ⟨P2, m, m1, m2, oF, v₀, S1, hoF, fun oF' s3 hoF' S3 => hQ P2 D2 oF' s3 (l1.trans l5) rD hoF' S3⟩
end
end Mine
namespace Mine


mutual
theorem Rd.reads {P : PM} {h : Heap} (k : ∀ a o, P a = some o → h.get? a = some o) : ∀ {v : Value} {d : PyData}, Rd P v d → ∃ as, Reads h v d as
  | _, _, .int i t => ⟨_, .int i t⟩
  | _, _, .str x t => ⟨_, .str x t⟩
  | _, _, .list e r => by
    obtain ⟨as, q⟩ := Rds.reads k r
    exact ⟨_, .list (k _ _ e) rfl rfl q⟩
theorem Rds.reads {P : PM} {h : Heap} (k : ∀ a o, P a = some o → h.get? a = some o) : ∀ {vs : List Value} {ds : List PyData}, Rds P vs ds → ∃ as, ReadsAll h vs ds as
  | _, _, .nil => ⟨_, .nil⟩
  | _, _, .cons r rs => by
    obtain ⟨as, q⟩ := Rd.reads k r
    obtain ⟨bs, q'⟩ := Rds.reads k rs
    exact ⟨_, .cons q q'⟩
end
theorem lay_str {x : Str} (h : PyData.strOk x = true) : (PyData.str x).canLay0 = true := by rw [PyData.canLay0]; exact h
theorem canLay_strs : ∀ {ps : List Str}, (∀ x ∈ ps, PyData.strOk x = true) → PyData.canLayAll0 (ps.map .str) = true
  | [], _ => rfl
  | x :: r, h => by
    show (PyData.canLay0 (.str x) && PyData.canLayAll0 (r.map .str)) = true
    rw [canLay_strs fun y hy => h y (.tail _ hy), Bool.and_true]
    exact lay_str (h x (.head _))
theorem depth_strs : ∀ {ps : List Str}, PyData.depthAll (ps.map .str) = 0
  | [] => rfl
  | x :: r => by
    show max (PyData.depth (.str x)) (PyData.depthAll (r.map .str)) = 0
    rw [depth_strs]; rfl
theorem any_strs (x : Str) : ∀ (ps : List Str), ((ps.map PyData.str).any fun y => PyData.eqv y (.str x)) = decide (x ∈ ps)
  | [] => rfl
  | y :: r => by
    rw [List.map_cons, List.any_cons, any_strs x r]
    show ((y == x) || decide (x ∈ r)) = decide (x ∈ y :: r)
    by_cases q : y = x
    · subst q; simp
    · rw [beq_false_of_ne q, Bool.false_or]
      have : x ∈ y :: r ↔ x ∈ r := by
        rw [List.mem_cons]; exact ⟨fun h => h.resolve_left fun e => q e.symm, .inr⟩
      simp [this]
section
variable {w : World} {A : Around} {E : Value → Shared → Prop} {env : Env} {s₀ : Shared} {L : Addr} {P : PM} {m : Str → Option Value} {M : List (Addr × Obj)} {s : Shared}
theorem o_in {x : Str} {t : Tok} {c : Value} {ps : List Str} {Q : Value → Shared → Prop} (S : At s₀ P L m M s) (r : Rd P c (strsD ps)) (hps : ∀ y ∈ ps, PyData.strOk y = true) (hx : PyData.strOk x = true) (hu : A.units + 1 < cLine)
    (h : Q (.bool (decide (x ∈ ps))) s) : wpAny (mo w) A (compareOp .In (.str x t) c) Q E s := by
  obtain ⟨as, q⟩ := r.reads S.keep
  refine SeqAt.in_list_reads q (.str x t) (canLay_strs hps) (lay_str hx) (by rw [depth_strs]; simpa using hu) ?_
  rw [any_strs]
  exact h
theorem o_notIn {x : Str} {t : Tok} {c : Value} {ps : List Str} {Q : Value → Shared → Prop} (S : At s₀ P L m M s) (r : Rd P c (strsD ps)) (hps : ∀ y ∈ ps, PyData.strOk y = true) (hx : PyData.strOk x = true) (hu : A.units + 1 < cLine)
    (h : Q (.bool (!decide (x ∈ ps))) s) : wpAny (mo w) A (compareOp .NotIn (.str x t) c) Q E s := by
  obtain ⟨as, q⟩ := r.reads S.keep
  refine SeqAt.notIn_list_reads q (.str x t) (canLay_strs hps) (lay_str hx) (by rw [depth_strs]; simpa using hu) ?_
  rw [any_strs]
  exact h
theorem o_ne {a b : Value} {da db : PyData} {Q : Value → Shared → Prop} (S : At s₀ P L m M s) (ra : Rd P a da) (rb : Rd P b db) (ha : da.canLay0 = true) (hb : db.canLay0 = true) (hu : A.units + min da.depth db.depth < cLine)
    (h : Q (.bool (!PyData.eqv da db)) s) : wpAny (mo w) A (compareOp .NotEq a b) Q E s := by
  obtain ⟨as, q⟩ := ra.reads S.keep
  obtain ⟨bs, q'⟩ := rb.reads S.keep
  exact SeqAt.compareNe_reads q q' ha hb hu h

/-- each item once, by prefix -/
noncomputable def uniqTo (fl : List Str) (k : Nat) : List Str := (List.range k).filterMap fun i => match fl[i]? with | some x => if x ∈ fl.take i then none else some x | none => none
noncomputable def uniq (fl : List Str) : List Str := uniqTo fl fl.length
/-- known = [flat[k] for k in range(len(flat)) if flat[k] not in flat[:k]] -/
theorem law9 {st : Stmt} {rest : List Stmt} {v : Value} {fl : List Str} {oF oK : Obj} {v₀ : Option Value} {m1 m2 : List (Addr × Obj)} {Q : Flow → Shared → Prop} (hst : (lawB w)[9]? = some st) (S : At s₀ P L m M s) (B : Base w P) (hh : A.handled = none) (hu : A.units + 1 < cLine)
    (hM : M = m1 ++ (L + 2, oK) :: m2) (hoK : oK.data = .cell v₀) (hFM : (L + 1, oF) ∈ m1 ++ m2) (hoF : oF.data = .cell (some v)) (rv : Rd P v (strsD fl)) (hfl : fl.length ≤ 1000000) (hok : ∀ y ∈ fl, PyData.strOk y = true)
    (hQ : ∀ P' D oK' s', P.le P' → Rd P' (.ref D) (strsD (uniq fl)) → oK'.data = .cell (some (.ref D)) → At s₀ P' L m (m1 ++ (L + 2, oK') :: m2) s' → wpAny (mo w) A (execs rest (envC w 132 L)) Q E s') :
    wpAny (mo w) A (execs (st :: rest) (envC w 132 L)) Q E s := by
  cases hst
  obtain ⟨a, vs, n, rfl, e, r⟩ := rv.list_inv
  have hsz := r.size
  rw [List.length_map] at hsz
  have hF : (L + 1, oF) ∈ M := by
    rw [hM]
    rcases List.mem_append.mp hFM with h | h
    · exact List.mem_append_left _ h
    · exact List.mem_append_right _ (.tail _ h)
  refine x_assignC S (c := L + 2) ?_ (by k_dflt rfl) (by kernel_rfl) (by kernel_rfl)
  refine ev_comp S [("flat", L + 1)] (by kernel_rfl) (by kernel_rfl) (by kernel_rfl) (by k_dflt rfl) (by intro x; k_dflt rfl) ?_
  refine c_type S B (T := "range") ?_ (he := by k_dflt rfl) (hplain := by k_dflt rfl)
  refine spliced_more (c_built S B (id := "len") ?_ (he := by k_dflt rfl) (hplain := by k_dflt rfl)) (by k_dflt rfl)
  refine spliced_more (r_cell S ?_ (by k_dflt rfl) hoF hF (by kernel_rfl)) (by k_dflt rfl)
  refine spliced_none ?_
  refine o_len S (S.keep _ _ e) (by (first | lia | omega)) fun t s1 S => ?_
  refine spliced_none ?_
  refine o_range1 S hh (by (first | lia | omega)) fun rg P1 s2 l1 S W => ?_
  have hn2 : ((vs.size : Nat) : Int).toNat = fl.length := by (first | lia | omega)
  rw [hn2] at W
  refine ⟨P1, m, M, fl.length, _, _, fun k acc P' M' => M = M' ∧ Rds P' acc ((uniqTo fl k).map .str), S, W, LetIt.plain (fun _ _ => rfl), by rw [sizeLine_eq]; (first | lia | omega), ⟨rfl, .nil⟩, fun C => ?_, fun D P' M' acc j s' hle hJ S => ?_⟩
  · intro k v acc P' M' X mc s' K N hk hv hle hJ S kK kN
    obtain ⟨rfl, hJ⟩ := hJ
    obtain ⟨tk, rfl⟩ := hv
    have hkl : fl[k]? = some fl[k] := List.getElem?_eq_getElem hk
    have e1 := hle _ _ (l1 _ _ e)
    obtain ⟨v', hv', rv'⟩ := r.getA (i := k) (d := .str fl[k]) (by rw [List.getElem?_map, hkl]; rfl)
    obtain ⟨t1, rfl⟩ := rv'.str_inv
    have hun : uniqTo fl (k + 1) = uniqTo fl k ++ (if fl[k] ∈ fl.take k then [] else [fl[k]]) := by
      unfold uniqTo
      rw [List.range_succ, List.filterMap_append, List.filterMap_cons, List.filterMap_nil, hkl]
      by_cases q : fl[k] ∈ fl.take k
      · simp only [if_pos q]
      · simp only [if_neg q]
    refine wpAny_assign_Name (r_store S (fun s' S => ?_) rfl)
    refine wpAny_tests_one (wpAny_isTrue_Compare1 ?_)
    with_reducible refine Subscript_ (r_cell S ?_ (by k_dflt rfl) hoF (List.mem_append_right _ hF) (by kernel_rfl))
    walk_at "ev"
    refine o_item (S.keep _ _ e1) (by (first | lia | omega)) (k := 0 + (k : Int) * 1) (x := .str fl[k] t1) (by rw [show (0 + (k : Int) * 1).toNat = k by (first | lia | omega)]; exact hv') (by (first | lia | omega)) ?_
    refine r_sliceL S ?_ (by intro o r; k_dflt rfl)
    refine r_cell S ?_ (by k_dflt rfl) hoF (List.mem_append_right _ hF) (by kernel_rfl)
    refine wpAny_evalPart_none ?_
    with_reducible refine PySem.wpAny_evalPart_some ?_
    walk_at "ev"
    refine ⟨a, vs, n, none, some (0 + (k : Int) * 1), _, _, _, rfl, S, S.keep _ _ e1, by (first | lia | omega), .none, .int _ _, fun D P2 s3 l2 S eD hD => ?_⟩
    rw [show (some (0 + (k : Int) * 1)) = some ((k : Nat) : Int) by congr 1; (first | lia | omega), slicePick_take] at eD
    have r6 := (r.take k).mono (l1.trans (hle.trans l2))
    rw [← List.map_take] at r6
    refine o_notIn S (ps := fl.take k) (.list eD (by simpa using r6)) (fun y hy => hok y (List.mem_of_mem_take hy)) (hok _ (List.getElem_mem hk)) (by exact hu) (wpAny_truthy_bool ?_)
    by_cases q : fl[k] ∈ fl.take k
    · rw [if_neg (by simp [q])]
      rw [if_pos q, List.append_nil] at hun
      exact kN _ ⟨P2, _, _, l2, ⟨rfl, hun ▸ hJ.mono l2⟩, S⟩
    · rw [if_pos (by simp [q])]
      rw [if_neg q] at hun
      with_reducible refine Subscript_ (r_cell S ?_ (by k_dflt rfl) hoF (List.mem_append_right _ hF) (by kernel_rfl))
      walk_at "ev"
      refine o_item (S.keep _ _ (l2 _ _ e1)) (by (first | lia | omega)) (k := 0 + (k : Int) * 1) (x := .str fl[k] t1) (by rw [show (0 + (k : Int) * 1).toNat = k by (first | lia | omega)]; exact hv') (by (first | lia | omega)) ?_
      refine kK _ _ ⟨P2, _, _, l2, ⟨rfl, ?_⟩, S⟩
      rw [hun, List.map_append]
      exact (hJ.mono l2).append (.cons (.str ..) .nil)
  · obtain ⟨rfl, hJ⟩ := hJ
    have S0 := S
    have S1 := S.freeze (pre := []) rfl
    have l5 : P'.le (PM.put P' D (listOf acc.toArray j)) := PM.le_put (S0.out D (by simp))
    have rD : Rd (PM.put P' D (listOf acc.toArray j)) (.ref D) (strsD (uniq fl)) := .list (PM.put_self ..) (hJ.mono l5)
    generalize PM.put P' D (listOf acc.toArray j) = P2 at S1 l5 rD
    subst hM
    exact ⟨P2, m, m1, m2, oK, v₀, S1, hoK, fun oK' s3 hoK' S3 => hQ P2 D oK' s3 (l1.trans (hle.trans l5)) rD hoK' S3⟩
end
end Mine
namespace Mine

section
variable {w : World} {A : Around} {E : Value → Shared → Prop} {env : Env} {s₀ : Shared} {L : Addr} {P : PM} {m : Str → Option Value} {M : List (Addr × Obj)} {s : Shared}
theorem x_assign0 {M' : Model} {x : Str} {p pos : Pos} {e : Expr} {rest : List Stmt} {Q : Flow → Shared → Prop}
    (h : wpAny M' A (eval e env) (fun v s₁ => Stored M' A env rest Q E s₀ L x v s₁) E s)
    (hL : env.locals = L := by kernel_rfl) (hb : locS env x = true := by kernel_rfl) (hs : swapsWith e (some (.Name x p)) pos.line env = pure false := by kernel_rfl) :
    wpAny M' A (execs (.Assign [.Name x p] e pos :: rest) env) Q E s :=
  wpAny_execs_cons (wpAny_Assign_Name (wpAny_mono h (fun _ _ ⟨_, _, _, S, q⟩ => r_store S q hL hb) fun _ _ x => x) hs)
/-- star = '*', the root's tokens raised -/
theorem law3' {st : Stmt} {rest : List Stmt} {Q : Flow → Shared → Prop} (hst : (lawB w)[3]? = some st) (S : At s₀ P L m M s)
    (hQ : ∀ t s', s₀.toks ≤ t → At { s₀ with toks := t + 1 } P L (updm m "star" (.str "*" t)) M s' → wpAny (mo w) A (execs rest (envC w 132 L)) Q E s') :
    wpAny (mo w) A (execs (st :: rest) (envC w 132 L)) Q E s := by
  cases hst
  refine x_assign0 (L := L) (s₀ := { s₀ with toks := s.toks + 1 }) ?_ (by kernel_rfl) (by kernel_rfl) (by kernel_rfl)
  refine wpAny_Constant_str ?_
  exact ⟨P, m, M, (S.toks1 1).reroot (Nat.le_refl _), fun s' S' => hQ s.toks s' S.tp S'⟩
/-- return True -/
theorem law14 {st : Stmt} {rest : List Stmt} {Q : Flow → Shared → Prop} (hst : (lawB w)[14]? = some st) (hQ : Q (.ret (.bool true)) s) : wpAny (mo w) A (execs (st :: rest) (envC w 132 L)) Q E s := by
  cases hst
  refine x_return ?_
  exact wpAny_Constant_bool hQ
theorem law_len (w : World) : (lawB w).length = 15 := by kernel_rfl
end
end Mine
namespace Mine


section
variable {w : World} {A : Around} {E : Value → Shared → Prop} {env : Env} {s₀ : Shared} {L : Addr} {P : PM} {m : Str → Option Value} {M : List (Addr × Obj)} {s : Shared}
noncomputable def isX (x : Str) : Value → Bool
  | .str y _ => y == x
  | _ => false
/-- list.index of a text that is there -/
theorem o_index {a : Addr} {vs : Array Value} {n : Nat} {ps : List Str} {x : Str} {t : Tok} {Q : Value → Shared → Prop} (S : At s₀ P L m M s) (e : s.heap.get? a = some (listOf vs n)) {P' : PM} (r : Rds P' vs.toList (ps.map .str)) (hps : ∀ y ∈ ps, PyData.strOk y = true) (hx : x ∈ ps) (hsz : ps.length ≤ 1000000) (hu : A.units + 1 < cLine)
    (h : ∀ t' s', At s₀ P L m M s' → Q (.int (ps.idxOf x : Nat) t') s') : wpAny (mo w) A (call (.builtin "list.index") [.ref a, .str x t]) Q E s := by
  obtain ⟨l, hl, hp⟩ := r.strs
  have hlen : l.length = ps.length := by rw [← hp, List.length_map]
  have hvs : vs.size = ps.length := by have := r.size; rwa [List.length_map] at this
  have hj := List.idxOf_lt_length_of_mem hx
  have at_ : ∀ i (hi : i < vs.size), ∃ u, vs[i] = .str (ps[i]'(hvs ▸ hi)) u := fun i hi => by
    have h1 : vs.toList[i]? = some vs[i] := by simp [hi]
    have hil : i < l.length := by (first | lia | omega)
    rw [hl] at h1
    unfold strValues at h1
    rw [List.getElem?_map, List.getElem?_eq_getElem hil] at h1
    have h2 : ps[i]'(hvs ▸ hi) = l[i].1 := by
      have : ps[i]? = some l[i].1 := by rw [← hp, List.getElem?_map, List.getElem?_eq_getElem hil]; rfl
      rw [List.getElem?_eq_getElem (hvs ▸ hi)] at this
      exact Option.some.inj this
    refine ⟨l[i].2, ?_⟩
    rw [h2]
    exact (Option.some.inj h1).symm
  have hisx : ∀ i (hi : i < vs.size), isX x vs[i] = (ps[i]'(hvs ▸ hi) == x) := fun i hi => by
    obtain ⟨u, hu⟩ := at_ i hi
    rw [hu]; rfl
  refine call_meets F.slot_list_index ⟨_, e, rfl⟩ F.entry_list_index (F.args_list_index_2 _ _) (SeqAt.list_indexAt a vs n none #[] (.str x t) (isX x) (ps.idxOf x) (by (first | lia | omega)) (by (first | lia | omega)) ?_ fun k hk hlt => ?_) ⟨e, fun y hy => ?_, h _ _ (S.toks1 1)⟩
  · rw [hisx]
    rw [List.getElem_idxOf]
    exact beq_self_eq_true _
  · rw [hisx]
    exact List.not_of_lt_findIdx (p := (· == x)) (xs := ps) hlt
  · obtain ⟨i, hi, rfl⟩ := Array.mem_iff_getElem.mp hy
    obtain ⟨u, hv⟩ := at_ i hi
    rw [hisx, hv]
    exact SeqAt.eqAt_reads (.str _) (.str x) _ _ _ _ _ _ (.str _ u) (.str x t) (lay_str (hps _ (List.getElem_mem _))) (lay_str (hps _ hx)) (by exact hu)
theorem onListIx {a : Addr} {vs : Array Value} {n : Nat} {pos : Pos} {x : Sem Value} {Q : Value → Shared → Prop} (e : s.heap.get? a = some (listOf vs n))
    (h : wpAny (mo w) A x (fun v s₁ => wpAny (mo w) A (call (.builtin "list.index") [.ref a, v]) Q E s₁) E s) : MethodOnS pw w A E "index" (.ref a) pos [(false, x)] Q s :=
  ⟨"list", "list.index", F.plainAttrs_list, F.slot_list_index, F.type_list_index, ⟨_, e, rfl⟩, fun b q => by cases q; exact ⟨_, e, rfl⟩, callWith_builtin rfl (evalArgs_plain (spliced_cons (wpAny_mono h (fun _ _ h₁ => spliced_nil h₁) fun _ _ e => e)))⟩
end
theorem eqv_nats : ∀ (ns : List Nat), PyData.eqvAll (ns.map fun n : Nat => .int (n : Int)) (ns.map fun n : Nat => .int (n : Int)) = true
  | [] => rfl
  | n :: r => by
    show (PyData.eqv (.int (n : Int)) (.int (n : Int)) && PyData.eqvAll _ _) = true
    rw [eqv_nats r, Bool.and_true]
    show ((n : Int) == (n : Int)) = true
    exact beq_self_eq_true _
theorem eqv_natss : ∀ (ns : List (List Nat)), PyData.eqvAll (ns.map natsD) (ns.map natsD) = true
  | [] => rfl
  | n :: r => by
    show (PyData.eqv (natsD n) (natsD n) && PyData.eqvAll _ _) = true
    rw [eqv_natss r, Bool.and_true]
    exact eqv_nats n
theorem lay_nats : ∀ (ns : List Nat), PyData.canLayAll0 (ns.map fun n : Nat => .int (n : Int)) = true
  | [] => rfl
  | n :: r => by
    show (PyData.canLay0 (.int (n : Int)) && PyData.canLayAll0 _) = true
    rw [lay_nats r, Bool.and_true]; rfl
theorem lay_natss : ∀ (ns : List (List Nat)), PyData.canLayAll0 (ns.map natsD) = true
  | [] => rfl
  | n :: r => by
    show (PyData.canLay0 (natsD n) && PyData.canLayAll0 _) = true
    rw [lay_natss r, Bool.and_true]
    show PyData.canLay0 (.list _) = true
    rw [PyData.canLay0]
    exact lay_nats n
theorem depth_nats : ∀ (ns : List Nat), PyData.depthAll (ns.map fun n : Nat => .int (n : Int)) = 0
  | [] => rfl
  | n :: r => by
    show max (PyData.depth (.int (n : Int))) (PyData.depthAll _) = 0
    rw [depth_nats r]; rfl
theorem depth_natss : ∀ (ns : List (List Nat)), PyData.depthAll (ns.map natsD) ≤ 1
  | [] => Nat.zero_le _
  | n :: r => by
    show max (PyData.depth (natsD n)) (PyData.depthAll _) ≤ 1
    refine Nat.max_le.mpr ⟨?_, depth_natss r⟩
    show PyData.depthAll _ + 1 ≤ 1
    rw [depth_nats]; exact Nat.le_refl _
end Mine
namespace Mine


section
variable {w : World} {A : Around} {E : Value → Shared → Prop} {env : Env} {s₀ : Shared} {L : Addr} {P : PM} {m : Str → Option Value} {M : List (Addr × Obj)} {s : Shared}
/-- if told != [[known.index(part) if part in known else len(known) for part in parts] for parts in due]: return False -/
theorem law11 {st : Stmt} {rest : List Stmt} {vT vD vK : Value} {pss : List (List Str)} {kn : List Str} {oK : Obj} {Q : Flow → Shared → Prop} (hst : (lawB w)[11]? = some st) (S : At s₀ P L m M s) (B : Base w P) (hh : A.handled = none) (hu : A.units + 4 < cLine)
    (hT : m "told" = some vT) (rT : Rd P vT (.list ((pss.map fun ps => ps.map kn.idxOf).map natsD))) (hD : m "due" = some vD) (rD : Rd P vD (.list (pss.map strsD))) (hK : (L + 2, oK) ∈ M) (hoK : oK.data = .cell (some vK)) (rK : Rd P vK (strsD kn))
    (hps : ∀ ps ∈ pss, ps.length ≤ 1000 ∧ ∀ y ∈ ps, PyData.strOk y = true) (hpl : pss.length ≤ 1000) (hkn : ∀ y ∈ kn, PyData.strOk y = true) (hkl : kn.length ≤ 1000000)
    (hQ : ∀ P' s', P.le P' → At s₀ P' L m M s' → wpAny (mo w) A (execs rest (envC w 132 L)) Q E s') :
    wpAny (mo w) A (execs (st :: rest) (envC w 132 L)) Q E s := by
  cases hst
  obtain ⟨a, vs, n, rfl, e, r⟩ := rD.list_inv
  obtain ⟨aK, vk, nk, rfl, eK, rk⟩ := rK.list_inv
  have hsz := r.size
  have hsk := rk.size
  rw [List.length_map] at hsz hsk
  refine x_if (wpAny_isTrue_Compare1 ?_)
  refine r_local S ?_ (by kernel_rfl) hT (by kernel_rfl)
  refine ev_comp S [("known", L + 2)] (by kernel_rfl) (by kernel_rfl) (by kernel_rfl) (by k_dflt rfl) (by intro x; k_dflt rfl) ?_
  refine r_local S ?_ (by kernel_rfl) hD (by kernel_rfl)
  refine ⟨P, m, M, vs.size, _, _, fun k acc P' M' => M = M' ∧ Rds P' acc (((pss.take k).map fun ps => ps.map kn.idxOf).map natsD), S, Its.list hh e, LetIt.plain (fun _ _ => rfl), by rw [sizeLine_eq]; (first | lia | omega), ⟨rfl, .nil⟩, fun C => ?_, fun D P' M' acc j s' hle hJ S => ?_⟩
  · intro k v acc P' M' X mc s' K N hk hv hle hJ S kK kN
    obtain ⟨rfl, hJ⟩ := hJ
    have hkp : k < pss.length := by (first | lia | omega)
    have hpk : pss[k]? = some pss[k] := List.getElem?_eq_getElem hkp
    obtain ⟨v', hv', rv⟩ := r.getA (i := k) (d := strsD pss[k]) (by rw [List.getElem?_map, hpk]; rfl)
    have : v' = v := by rw [hv'] at hv; exact Option.some.inj hv
    subst this
    obtain ⟨hl1, hok⟩ := hps pss[k] (List.getElem_mem hkp)
    have htk : (pss.take (k + 1)).map (fun ps => ps.map kn.idxOf) = (pss.take k).map (fun ps => ps.map kn.idxOf) ++ [pss[k].map kn.idxOf] := by
      rw [List.take_add_one, hpk, List.map_append]; rfl
    generalize pss[k] = ps at rv hl1 hok htk
    obtain ⟨l, us, nn, rfl, el, ru⟩ := rv.list_inv
    have hus := ru.size
    rw [List.length_map] at hus
    have el' := hle _ _ el
    have eK' := hle _ _ eK
    refine wpAny_assign_Name (r_store S (fun s' S => ?_) rfl)
    refine wpAny_tests_nil ?_
    rw [if_pos rfl]
    refine ev_comp S [("known", L + 2)] (by kernel_rfl) (by kernel_rfl) (by kernel_rfl) (by k_dflt rfl) (by intro x; k_dflt rfl) ?_
    walk_at "ev"
    refine ⟨P', _, X ++ M, us.size, _, _, fun i acc' P'' M'' => X ++ M = M'' ∧ Rds P'' acc' (((ps.take i).map kn.idxOf).map fun n : Nat => PyData.int (n : Int)), S, Its.list hh el', LetIt.plain (fun _ _ => rfl), by rw [sizeLine_eq]; (first | lia | omega), ⟨rfl, .nil⟩, fun C2 => ?_, fun D P'' M'' acc' j s' hle2 hJ2 S => ?_⟩
    · intro i v acc' P'' M'' X2 mc2 s' K2 N2 hi hv hle2 hJ2 S kK2 kN2
      obtain ⟨rfl, hJ2⟩ := hJ2
      have hip : i < ps.length := by (first | lia | omega)
      have hpi : ps[i]? = some ps[i] := List.getElem?_eq_getElem hip
      obtain ⟨v', hv', rv'⟩ := ru.getA (i := i) (d := .str ps[i]) (by rw [List.getElem?_map, hpi]; rfl)
      obtain ⟨t1, rfl⟩ := rv'.str_inv
      have : Value.str ps[i] t1 = v := by rw [hv'] at hv; exact Option.some.inj hv
      subst this
      have hoki := hok _ (List.getElem_mem hip)
      have hti : ((ps.take (i + 1)).map kn.idxOf).map (fun n : Nat => PyData.int (n : Int)) = ((ps.take i).map kn.idxOf).map (fun n : Nat => PyData.int (n : Int)) ++ [.int (kn.idxOf ps[i] : Nat)] := by
        rw [List.take_add_one, hpi, List.map_append, List.map_append]; rfl
      have rK2 : Rd P'' (.ref aK) (strsD kn) := rK.mono (hle.trans hle2)
      have hK2 : (L + 2, oK) ∈ X2 ++ (X ++ M) := List.mem_append_right _ (List.mem_append_right _ hK)
      generalize ps[i] = x at hoki hti
      refine wpAny_assign_Name (r_store S (fun s' S => ?_) rfl)
      refine wpAny_tests_nil ?_
      rw [if_pos rfl]
      refine wpAny_IfExp (wpAny_isTrue_Compare1 ?_)
      walk_at "ev"
      refine r_cell S ?_ (by k_dflt rfl) hoK hK2 (by kernel_rfl)
      refine o_in S rK2 hkn hoki (by show A.units + 1 < cLine; (first | lia | omega)) (wpAny_truthy_bool ?_)
      by_cases q : x ∈ kn
      · rw [if_pos (by simp [q])]
        with_reducible refine PySem.Call_method1 (by k_dflt rfl) (by k_dflt rfl) (by k_dflt rfl) ?_
        refine r_cell S ?_ (by k_dflt rfl) hoK hK2 (by kernel_rfl)
        refine onListIx (S.keep _ _ (hle2 _ _ eK')) ?_
        walk_at "ev"
        refine o_index S (S.keep _ _ (hle2 _ _ eK')) rk hkn q hkl (by show A.units + 1 < cLine; (first | lia | omega)) fun t' s' S => ?_
        refine kK2 _ _ ⟨P'', _, _, .refl _, ⟨rfl, ?_⟩, S⟩
        rw [hti]
        exact hJ2.append (.one (.int ..))
      · rw [if_neg (by simp [q])]
        refine c_built S (B.mono (hle.trans hle2)) (id := "len") ?_ (he := by k_dflt rfl) (hplain := by k_dflt rfl)
        refine spliced_more (r_cell S ?_ (by k_dflt rfl) hoK hK2 (by kernel_rfl)) (by k_dflt rfl)
        refine spliced_none ?_
        refine o_len S (S.keep _ _ (hle2 _ _ eK')) (by (first | lia | omega)) fun t s1 S => ?_
        refine kK2 _ _ ⟨P'', _, _, .refl _, ⟨rfl, ?_⟩, S⟩
        rw [hti, List.idxOf_eq_length q, hsk]
        exact hJ2.append (.one (.int ..))
    · obtain ⟨rfl, hJ2⟩ := hJ2
      have S0 := S
      have S1 := S.freeze (pre := []) rfl
      have l5 : P''.le (PM.put P'' D (listOf acc'.toArray j)) := PM.le_put (S0.out D (by simp))
      rw [hus, List.take_length] at hJ2
      have rD2 : Rd (PM.put P'' D (listOf acc'.toArray j)) (.ref D) (natsD (ps.map kn.idxOf)) := .list (PM.put_self ..) (hJ2.mono l5)
      refine kK _ _ ⟨_, _, _, hle2.trans l5, ⟨rfl, ?_⟩, S1⟩
      rw [htk, List.map_append]
      exact (hJ.mono (hle2.trans l5)).append (.one rD2)
  · obtain ⟨rfl, hJ⟩ := hJ
    have S0 := S
    have S1 := S.freeze (pre := []) rfl
    have l5 : P'.le (PM.put P' D (listOf acc.toArray j)) := PM.le_put (S0.out D (by simp))
    rw [hsz, List.take_length] at hJ
    have rD2 : Rd (PM.put P' D (listOf acc.toArray j)) (.ref D) (.list ((pss.map fun ps => ps.map kn.idxOf).map natsD)) := .list (PM.put_self ..) (hJ.mono l5)
    generalize PM.put P' D (listOf acc.toArray j) = P2 at S1 l5 rD2
    refine o_ne S1 (rT.mono (hle.trans l5)) rD2 (by rw [PyData.canLay0]; exact lay_natss _) (by rw [PyData.canLay0]; exact lay_natss _) ?_ (wpAny_truthy_bool ?_)
    · have hdd := depth_natss (pss.map fun ps => ps.map kn.idxOf)
      have : (PyData.list ((pss.map fun ps => ps.map kn.idxOf).map natsD)).depth = PyData.depthAll ((pss.map fun ps => ps.map kn.idxOf).map natsD) + 1 := by rw [PyData.depth]
      rw [this, Nat.min_self]
      (first | lia | omega)
    · have hev : PyData.eqv (.list ((pss.map fun ps => ps.map kn.idxOf).map natsD)) (.list ((pss.map fun ps => ps.map kn.idxOf).map natsD)) = true := by rw [PyData.eqv]; exact eqv_natss _
      rw [hev, if_neg (by simp)]
      exact x_nil (hQ P2 _ (hle.trans l5) S1)
end
end Mine
namespace Mine

set_option hygiene false in
local macro_rules | `(tactic| walk_at "ev") => `(tactic| repeat (first | walk_at "rk" | walk_at "rc" | walk_at "e1"))

/-- the texts at the head of a list of parts, and what comes behind -/
noncomputable def headT (ps : List (Option Str)) : List Str := (ps.takeWhile (·.isSome)).filterMap id
noncomputable def tailT (ps : List (Option Str)) : List (Option Str) := ps.dropWhile (·.isSome)
noncomputable def stars : Nat → List (Option Str) → Option (List Str)
  | _, [] => some []
  | 0, _ => none
  | n + 1, none :: r => match r with
    | [] => some [".*"]
    | none :: _ => none
    | some x :: r' =>
      if (tailT (some x :: r')).isEmpty then some [".*", Txt.join "" (headT (some x :: r'))]
      else (stars n (tailT (some x :: r'))).map (heldS (Txt.join "" (headT (some x :: r'))) :: ·)
  | _ + 1, some _ :: _ => none
noncomputable def wrapS (l : List Str) : Str := "(?s:" ++ Txt.join "" l ++ ")\\Z"
noncomputable def joinP (ps : List (Option Str)) : Option Str := (stars ps.length (tailT ps)).map fun l => wrapS (headT ps ++ l)

structure JF (m : Str → Option Value) (a D b : Addr) (σ : Value) (N k : Nat) : Prop where
  inp : m "inp" = some (.ref a)
  star : m "STAR" = some σ
  add : m "add" = some (.ref b)
  res : m "res" = some (.ref D)
  n : ∃ t, m "n" = some (.int N t)
  i : ∃ t, m "i" = some (.int k t)
theorem JF.step {m : Str → Option Value} {a D b : Addr} {σ : Value} {N k k' : Nat} (F : JF m a D b σ N k) {i : Int} {t : Tok} (h : i = k') : JF (updm m "i" (.int i t)) a D b σ N k' := by
  subst h
  obtain ⟨f1, f2, f3, f4, ⟨t5, f5⟩, _⟩ := F
  exact ⟨by walk_at "lk", by walk_at "lk", by walk_at "lk", by walk_at "lk", ⟨t5, by walk_at "lk"⟩, ⟨t, by walk_at "lk"⟩⟩
theorem JF.fixed {m : Str → Option Value} {a D b : Addr} {σ : Value} {N k : Nat} (F : JF m a D b σ N k) {v : Value} : JF (updm m "fixed" v) a D b σ N k := by
  obtain ⟨f1, f2, f3, f4, ⟨t5, f5⟩, ⟨t6, f6⟩⟩ := F
  exact ⟨by walk_at "lk", by walk_at "lk", by walk_at "lk", by walk_at "lk", ⟨t5, by walk_at "lk"⟩, ⟨t6, by walk_at "lk"⟩⟩
theorem len_of_mem {ps : List (Option Str)} (hw : ∀ x, some x ∈ ps → x.length ≤ 100) : ∀ {qs : List (Option Str)}, (∀ q ∈ qs, q ∈ ps) → wt (qs.filterMap id) ≤ 100 * qs.length
  | [], _ => Nat.le_refl _
  | none :: r, h => by
    have := len_of_mem hw (qs := r) fun q hq => h q (.tail _ hq)
    simp only [List.filterMap_cons_none (f := (id : Option Str → Option Str)) (l := r) (a := none) rfl, List.length_cons]
    (first | lia | omega)
  | some x :: r, h => by
    have h1 := len_of_mem hw (qs := r) fun q hq => h q (.tail _ hq)
    have h2 := hw x (h _ (.head _))
    rw [List.filterMap_cons_some (f := (id : Option Str → Option Str)) (b := x) rfl, wt_cons, List.length_cons]
    (first | lia | omega)

/-! what holds at the turns and ends of the loops -/
inductive J1 (s : Shared) (P1 : PM) (L a D b : Addr) (σ : Value) (ps : List (Option Str)) (r : Nat) (s' : Shared) : Prop
  | mk (pre suf : List (Option Str)) (m' : Str → Option Value) (l : List (Str × Tok)) (nn : Nat) (h1 : ps = pre ++ suf) (h2 : r = suf.length) (h3 : headT ps = pre.filterMap id ++ headT suf) (h4 : tailT ps = tailT suf) (h5 : JF m' a D b σ ps.length pre.length) (h6 : l.map (·.1) = pre.filterMap id) (h7 : At s P1 L m' [(D, listOf (strValues l).toArray nn)] s')
inductive J2 (s : Shared) (P1 : PM) (L a D b : Addr) (σ : Value) (ps : List (Option Str)) (s' : Shared) : Prop
  | mk (pre suf : List (Option Str)) (m' : Str → Option Value) (l : List (Str × Tok)) (nn : Nat) (h1 : ps = pre ++ suf) (h2 : tailT ps = suf) (h5 : JF m' a D b σ ps.length pre.length) (h6 : l.map (·.1) = headT ps) (h7 : At s P1 L m' [(D, listOf (strValues l).toArray nn)] s')
inductive J3 (s : Shared) (P1 : PM) (L a D b : Addr) (σ : Value) (ps : List (Option Str)) (W : List Str) (r : Nat) (s' : Shared) : Prop
  | mk (pre suf : List (Option Str)) (m' : Str → Option Value) (l : List (Str × Tok)) (nn f : Nat) (o : List Str) (h1 : ps = pre ++ suf) (h2 : r = suf.length) (h3 : stars f suf = some o) (h5 : JF m' a D b σ ps.length pre.length) (h6 : l.map (·.1) ++ o = W) (h8 : l.length ≤ 2 * pre.length) (h7 : At s P1 L m' [(D, listOf (strValues l).toArray nn)] s')
inductive J4 (s : Shared) (P1 : PM) (L a D b : Addr) (σ : Value) (ps : List (Option Str)) (W : List Str) (s' : Shared) : Prop
  | mk (m' : Str → Option Value) (l : List (Str × Tok)) (nn : Nat) (h5 : JF m' a D b σ ps.length ps.length) (h6 : l.map (·.1) = W) (h7 : At s P1 L m' [(D, listOf (strValues l).toArray nn)] s')
inductive J5 (s : Shared) (P1 : PM) (L a D b : Addr) (σ : Value) (ps pre1 Z : List (Option Str)) (D2 : Addr) (l : List (Str × Tok)) (nn r : Nat) (s' : Shared) : Prop
  | mk (pr sf : List (Option Str)) (m' : Str → Option Value) (k : List (Str × Tok)) (nk : Nat) (h1 : ps = pr ++ sf) (h2 : r = sf.length) (h3 : pre1.length ≤ pr.length) (h4 : headT Z = k.map (·.1) ++ headT sf) (h5 : tailT Z = tailT sf) (h6 : k.length ≤ pr.length) (h7 : JF m' a D b σ ps.length pr.length) (h8 : m' "fixed" = some (.ref D2))
    (h9 : At s P1 L m' [(D2, listOf (strValues k).toArray nk), (D, listOf (strValues l).toArray nn)] s')
inductive J6 (s : Shared) (P1 : PM) (L a D b : Addr) (σ : Value) (ps pre1 Z : List (Option Str)) (D2 : Addr) (l : List (Str × Tok)) (nn : Nat) (s' : Shared) : Prop
  | mk (pr sf : List (Option Str)) (m' : Str → Option Value) (k : List (Str × Tok)) (nk : Nat) (h1 : ps = pr ++ sf) (h3 : pre1.length ≤ pr.length) (h4 : headT Z = k.map (·.1)) (h5 : tailT Z = sf) (h7 : JF m' a D b σ ps.length pr.length) (h8 : m' "fixed" = some (.ref D2))
    (h9 : At s P1 L m' [(D2, listOf (strValues k).toArray nk), (D, listOf (strValues l).toArray nn)] s')

set_option maxHeartbeats 400000 in
theorem join_spec {w : World} {A : Around} {s : Shared} {a : Addr} {σ : Value} {vs : Array Value} {n : Nat} {ps : List (Option Str)} {out : Str} (O : Ok w s) (hd : A.depth + 1 < recursionLimit) (hh : A.handled = none)
    (ha : allOf s.heap a = some (listOf vs n)) (hp : PVs σ vs ps) (hσ : SigOK σ) (hn : ps.length ≤ 100) (hw : ∀ x, some x ∈ ps → x.length ≤ 100) (hj : joinP ps = some out) (hout : out.length ≤ 10000) :
    wpAny (mo w) A (call (.ref 75) [.ref a, σ]) (fun v s' => Mv [] s s' ∧ ∃ t, v = .str out t) NoE s := by
  refine wpAny_call (enter [("inp", .ref a), ("STAR", σ)] O (by (first | lia | omega)) ⟨_, _, _, rfl⟩ (by kernel_rfl) rfl (by kernel_rfl) (by kernel_rfl) (by kernel_rfl) rfl rfl rfl fun L s₁ S B => absQ fun KR kR => ?_)
  have hA : (A.deeper (envF w 75 L)).handled = none := hh
  have hsz := hp.size
  with_reducible refine x_assign S ?_
  with_reducible refine r_empty S fun D s' S => ?_
  refine ⟨_, _, _, S, fun s' S => ?_⟩
  with_reducible refine x_assign S ?_
  refine r_append (vs := #[]) (n := 0) S rfl (by simp) fun b P1 s' l1 eb S => ?_
  refine ⟨_, _, _, S, fun s' S => ?_⟩
  have B := B.mono l1
  have ea := l1 _ _ ha
  with_reducible refine x_tup2 S hA ?_
  walk_at "ev"
  with_reducible refine c_built S B ?_ (he := by k_dflt rfl) (hplain := by k_dflt rfl)
  with_reducible refine spliced_more ?_ (by k_dflt rfl)
  walk_at "ev"
  with_reducible refine spliced_none ?_
  refine o_len S (S.keep _ _ ea) (by (first | lia | omega)) fun tn s' S => ?_
  refine ⟨_, _, _, S, fun s' S => ?_⟩
  -- the first loop
  obtain ⟨o₁, ho₁, rfl⟩ : ∃ l, stars ps.length (tailT ps) = some l ∧ wrapS (headT ps ++ l) = out := by
    unfold joinP at hj
    cases h : stars ps.length (tailT ps) with
    | none => rw [h] at hj; cases hj
    | some l => rw [h] at hj; exact ⟨l, rfl, Option.some.inj hj⟩
  have gp : ∀ {pre suf : List (Option Str)} {p}, ps = pre ++ p :: suf → ∃ v, vs[pre.length]? = some v ∧ PVal σ v p := fun {pre suf p} e =>
    hp.get pre.length p (by rw [e]; simp)
  refine x_loopA (fun r s' => J1 s P1 L a D b σ ps r s')
    (fun s' => J2 s P1 L a D b σ ps s')
    ps.length ⟨[], ps, _, [], 0, rfl, rfl, rfl, rfl, ⟨by walk_at "lk", by walk_at "lk", by walk_at "lk", by walk_at "lk", ⟨tn, by rw [← hsz]; walk_at "lk"⟩, ⟨_, by walk_at "lk"⟩⟩, rfl, S⟩ (fun r s' K K' hI kN kB kE => ?_) (fun s' hR => ?_)
  · obtain ⟨pre, suf, m', l, nn, hps, hr, hhd, htl, F, hl, S⟩ := hI
    have hF := F
    obtain ⟨f1, f2, f3, f4, ⟨t5, f5⟩, ⟨t6, f6⟩⟩ := F
    have hlen : ps.length = pre.length + suf.length := by rw [hps, List.length_append]
    refine wpAny_isTrue_BoolOp (wpAny_allTrue_And_cons (wpAny_isTrue_Compare1 ?_))
    walk_at "ev"
    refine PyProof.Rows.lt_int (wpAny_truthy_bool ?_)
    cases suf with
    | cons p suf' =>
      rw [if_pos (decide_eq_true (by simp at hlen; (first | lia | omega)))]
      obtain ⟨v, hv, hpv⟩ := gp hps
      refine wpAny_allTrue_And_cons (wpAny_isTrue_Compare1 ?_)
      walk_at "ev"
      refine o_item (S.keep _ _ ea) (by (first | lia | omega)) (k := (pre.length : Int)) (by simpa using hv) (by (first | lia | omega)) ?_
      walk_at "ev"
      refine isnot_part hσ hpv (wpAny_truthy_bool ?_)
      cases p with
      | some x =>
        rw [if_pos (show (!(some x).isNone) = true from rfl)]
        refine wpAny_allTrue_And_nil ?_
        rw [if_pos rfl]
        obtain ⟨tx, rfl, hap⟩ := hpv
        with_reducible refine x_expr ?_
        refine r_addcall S f3 ?_ (he := by k_dflt rfl)
        walk_at "ev"
        refine o_item (S.keep _ _ ea) (by (first | lia | omega)) (k := (pre.length : Int)) (by simpa using hv) (by (first | lia | omega)) ?_
        refine ⟨_, _, _, D, [], [], _, _, S, eb, rfl, ?_, fun s' S => ?_⟩
        · have := congrArg List.length hl
          have h2 := List.length_filterMap_le (id : Option Str → Option Str) pre
          rw [List.length_map] at this
          simp only [List.size_toArray, strValues, List.length_map]
          (first | lia | omega)
        with_reducible refine x_aug S f6 ?_
        walk_at "ev"
        refine o_iadd S fun ti s' S => ⟨_, _, _, S, fun s' S => x_nil ?_⟩
        refine kN suf'.length _ (by rw [hr]; simp) ⟨pre ++ [some x], suf', _, l ++ [(x, tx)], nn + 1, by rw [hps]; simp, rfl, ?_, htl, hF.step (i := (pre.length : Int) + 1) (t := ti) (by simp), ?_, ?_⟩
        · rw [hhd]; simp [headT]
        · rw [List.map_append, hl, List.filterMap_append]; rfl
        · have e : (strValues (l ++ [(x, tx)])).toArray = (strValues l).toArray.push (.str x tx) := by simp [strValues]
          rw [e]; exact S
      | none =>
        rw [if_neg (by simp), if_neg (by simp)]
        refine x_nil (kE _ ⟨pre, none :: suf', m', l, nn, hps, ?_, hF, ?_, S⟩)
        · rw [htl]; rfl
        · rw [hl, hhd]; simp [headT]
    | nil =>
      rw [if_neg (by simp at hlen ⊢; (first | lia | omega)), if_neg (by simp)]
      refine x_nil (kE _ ⟨pre, [], m', l, nn, hps, ?_, hF, ?_, S⟩)
      · rw [htl]; rfl
      · rw [hl, hhd]; simp [headT]
  · obtain ⟨pre, suf, m', l, nn, hps, htl, F, hl, S⟩ := hR
    rw [htl] at ho₁
    have hwall : wt (headT ps ++ o₁) ≤ 10000 := by
      have h1 := joinE_len (headT ps ++ o₁)
      unfold wrapS at hout
      rw [len_app, len_app, h1] at hout
      (first | lia | omega)
    have hl0 : l.length ≤ 2 * pre.length := by
      have h1 := congrArg List.length hl
      have h2 := List.length_filterMap_le (id : Option Str → Option Str) (ps.takeWhile (·.isSome))
      have h3 : (ps.takeWhile (·.isSome)).length + suf.length = ps.length := by
        have := congrArg List.length (List.takeWhile_append_dropWhile (p := fun x : Option Str => x.isSome) (l := ps))
        rw [List.length_append] at this
        rw [← htl]; exact this
      have h4 := congrArg List.length hps
      rw [List.length_append] at h4
      rw [List.length_map] at h1
      unfold headT at h1
      (first | lia | omega)
    generalize hW : headT ps ++ o₁ = W at hwall ⊢
    refine x_loopA (fun r s' => J3 s P1 L a D b σ ps W r s')
      (fun s' => J4 s P1 L a D b σ ps W s')
      suf.length ⟨pre, suf, m', l, nn, ps.length, o₁, hps, rfl, ho₁, F, by rw [hl, hW], hl0, S⟩ (fun r s' K K' hI kN kB kE => ?_) (fun s' hR => ?_)
    · clear S F hl hps htl ho₁ hl0 hW
      obtain ⟨pre, suf, m', l, nn, f, o, hps, hr, hst, F, hl, hl0, S⟩ := hI
      have hF := F
      obtain ⟨f1, f2, f3, f4, ⟨t5, f5⟩, ⟨t6, f6⟩⟩ := F
      have hlen : ps.length = pre.length + suf.length := by rw [hps, List.length_append]
      refine wpAny_isTrue_Compare1 ?_
      walk_at "ev"
      refine PyProof.Rows.lt_int (wpAny_truthy_bool ?_)
      cases suf with
      | nil =>
        rw [if_neg (by simp at hlen ⊢; (first | lia | omega))]
        have ho : o = [] := by
          cases f <;> exact (Option.some.inj hst).symm
        refine x_nil (kE _ ⟨m', l, nn, ?_, by rw [← hl, ho, List.append_nil], S⟩)
        have e : pre.length = ps.length := by simp at hlen; (first | lia | omega)
        rw [← e]; rw [← e] at hF; exact hF
      | cons p suf =>
        rw [if_pos (decide_eq_true (by simp at hlen; (first | lia | omega)))]
        cases f with
        | zero => cases hst
        | succ f =>
        cases p with
        | some x => cases hst
        | none =>
        obtain ⟨v, hv, hpv⟩ := gp hps
        with_reducible refine x_assert (wpAny_isTrue_Compare1 ?_)
        walk_at "ev"
        refine o_item (S.keep _ _ ea) (by (first | lia | omega)) (k := (pre.length : Int)) (by simpa using hv) (by (first | lia | omega)) ?_
        walk_at "ev"
        refine is_part hσ hpv (wpAny_truthy_bool ⟨rfl, ?_⟩)
        with_reducible refine x_aug S f6 ?_
        walk_at "ev"
        refine o_iadd S fun ti s' S => ⟨_, _, _, S, fun s' S => ?_⟩
        have hF1 := hF.step (i := (pre.length : Int) + 1) (t := ti) (k' := (pre ++ [none]).length) (by simp)
        have hps1 : ps = (pre ++ [none]) ++ suf := by rw [hps]; simp
        have hlen1 : ps.length = (pre ++ [none]).length + suf.length := by rw [hps1, List.length_append]
        have hpl : (pre ++ [none]).length = pre.length + 1 := by simp
        generalize updm m' "i" (.int ((pre.length : Int) + 1) ti) = m1 at S hF1
        generalize hpre1 : pre ++ [none] = pre1 at hF1 hps1 hlen1 hpl
        obtain ⟨g1, g2, g3, g4, ⟨u5, g5⟩, ⟨u6, g6⟩⟩ := hF1
        with_reducible refine x_if (wpAny_isTrue_Compare1 ?_)
        walk_at "ev"
        refine PyProof.Rows.eq_int (wpAny_truthy_bool ?_)
        have hsl : (strValues l).toArray.size = l.length := by simp [strValues]
        have hLl : ∀ (l : List (Str × Tok)) x t, (strValues (l ++ [(x, t)])).toArray = (strValues l).toArray.push (.str x t) := fun l x t => by simp [strValues]
        cases suf with
        | nil =>
          have ho : o = [(".*" : Str)] := (Option.some.inj hst).symm
          rw [if_pos (by simp at hlen1 ⊢; (first | lia | omega))]
          with_reducible refine x_expr ?_
          refine r_addcall S g3 ?_ (he := by k_dflt rfl)
          with_reducible refine r_str S fun t s' S => ?_
          refine ⟨_, _, _, D, [], [], _, _, S, eb, rfl, by rw [hsl]; (first | lia | omega), fun s' S => x_break ?_⟩
          refine kB _ ⟨m1, l ++ [((".*" : Str), t)], nn + 1, ⟨g1, g2, g3, g4, ⟨u5, g5⟩, ⟨u6, ?_⟩⟩, ?_, ?_⟩
          · have e : pre1.length = ps.length := by simp at hlen1; (first | lia | omega)
            rw [← e]; exact g6
          · rw [List.map_append, ← hl, ho]; rfl
          · rw [hLl]; exact S
        | cons p suf =>
        rw [if_neg (by simp at hlen1 ⊢; (first | lia | omega))]
        refine x_nil ?_
        cases p with
        | none => cases hst
        | some x =>
        obtain ⟨v, hv, hpv⟩ := gp hps1
        with_reducible refine x_assert (wpAny_isTrue_Compare1 ?_)
        walk_at "ev"
        refine o_item (S.keep _ _ ea) (by (first | lia | omega)) (k := (pre1.length : Int)) (by simpa using hv) (by (first | lia | omega)) ?_
        walk_at "ev"
        refine isnot_part hσ hpv (wpAny_truthy_bool ⟨rfl, ?_⟩)
        with_reducible refine x_assign S ?_
        with_reducible refine r_empty S fun D2 s' S => ?_
        refine ⟨_, _, _, S, fun s' S => ?_⟩
        have hst' : (if (tailT (some x :: suf)).isEmpty then some [(".*" : Str), Txt.join "" (headT (some x :: suf))] else (stars f (tailT (some x :: suf))).map (heldS (Txt.join "" (headT (some x :: suf))) :: ·)) = some o := hst
        generalize hZ : some x :: suf = Z at hps1 hlen1 hst'
        have hZl : Z.length = suf.length + 1 := by rw [← hZ]; simp
        -- the inner loop
        refine x_loopA (fun r s' => J5 s P1 L a D b σ ps pre1 Z D2 l nn r s') (fun s' => J6 s P1 L a D b σ ps pre1 Z D2 l nn s')
          Z.length ⟨pre1, Z, _, [], 0, hps1, rfl, Nat.le_refl _, rfl, rfl, Nat.zero_le _, JF.fixed ⟨g1, g2, g3, g4, ⟨u5, g5⟩, ⟨u6, g6⟩⟩, by walk_at "lk", S⟩ (fun r s' K2 K2' hI k2N k2B k2E => ?_) (fun s' hR => ?_)
        · clear S g1 g2 g3 g4 g5 g6
          obtain ⟨pr, sf, m', k, nk, hps, hr, hpr, hhd, htl, hkl, F, hfx, S⟩ := hI
          have hF := F
          obtain ⟨f1, f2, f3, f4, ⟨t5, f5⟩, ⟨t6, f6⟩⟩ := F
          have hlen : ps.length = pr.length + sf.length := by rw [hps, List.length_append]
          refine wpAny_isTrue_BoolOp (wpAny_allTrue_And_cons (wpAny_isTrue_Compare1 ?_))
          walk_at "ev"
          refine PyProof.Rows.lt_int (wpAny_truthy_bool ?_)
          cases sf with
          | cons p sf' =>
            rw [if_pos (decide_eq_true (by simp at hlen; (first | lia | omega)))]
            obtain ⟨v, hv, hpv⟩ := gp hps
            refine wpAny_allTrue_And_cons (wpAny_isTrue_Compare1 ?_)
            walk_at "ev"
            refine o_item (S.keep _ _ ea) (by (first | lia | omega)) (k := (pr.length : Int)) (by simpa using hv) (by (first | lia | omega)) ?_
            walk_at "ev"
            refine isnot_part hσ hpv (wpAny_truthy_bool ?_)
            cases p with
            | some x =>
              rw [if_pos (show (!(some x).isNone) = true from rfl)]
              refine wpAny_allTrue_And_nil ?_
              rw [if_pos rfl]
              obtain ⟨tx, rfl, hap⟩ := hpv
              with_reducible refine x_expr ?_
              refine r_methappend (vs₀ := (strValues k).toArray) (n₀ := nk) S hfx (by simp) ?_
              walk_at "ev"
              refine o_item (S.keep _ _ ea) (by (first | lia | omega)) (k := (pr.length : Int)) (by simpa using hv) (by (first | lia | omega)) ?_
              refine ⟨_, _, _, [], _, _, _, S, rfl, by simp [strValues]; (first | lia | omega), fun s' S => ?_⟩
              with_reducible refine x_aug S f6 ?_
              walk_at "ev"
              refine o_iadd S fun ti s' S => ⟨_, _, _, S, fun s' S => x_nil ?_⟩
              refine k2N sf'.length _ (by rw [hr]; simp) ⟨pr ++ [some x], sf', _, k ++ [(x, tx)], nk + 1, by rw [hps]; simp, rfl, by simp; (first | lia | omega), ?_, htl, by simp; (first | lia | omega), hF.step (i := (pr.length : Int) + 1) (t := ti) (by simp), by walk_at "lk", ?_⟩
              · rw [hhd]; simp [headT]
              · rw [hLl]; exact S
            | none =>
              rw [if_neg (by simp), if_neg (by simp)]
              refine x_nil (k2E _ ⟨pr, none :: sf', m', k, nk, hps, hpr, ?_, ?_, hF, hfx, S⟩)
              · rw [hhd]; simp [headT]
              · rw [htl]; rfl
          | nil =>
            rw [if_neg (by simp at hlen ⊢; (first | lia | omega)), if_neg (by simp)]
            refine x_nil (k2E _ ⟨pr, [], m', k, nk, hps, hpr, ?_, ?_, hF, hfx, S⟩)
            · rw [hhd]; simp [headT]
            · rw [htl]; rfl
        · clear S g1 g2 g3 g4 g5 g6
          obtain ⟨pr, sf, m', k, nk, hps, hpr, hhd, htl, F, hfx, S⟩ := hR
          rw [htl, hhd] at hst'
          have hF := F
          obtain ⟨f1, f2, f3, f4, ⟨t5, f5⟩, ⟨t6, f6⟩⟩ := F
          have hlen : ps.length = pr.length + sf.length := by rw [hps, List.length_append]
          have hjl := joinE_len (k.map (·.1))
          have hJ : wt (k.map (·.1)) ≤ 10000 := by
            have h2 := congrArg wt hl
            rw [wt_app] at h2
            by_cases q : sf.isEmpty
            · rw [if_pos q] at hst'
              rw [← Option.some.inj hst', wt_cons, wt_cons, hjl] at h2
              (first | lia | omega)
            · rw [if_neg q] at hst'
              cases hs : stars f sf with
              | none => rw [hs] at hst'; cases hst'
              | some o' =>
                rw [hs] at hst'
                rw [← Option.some.inj hst', wt_cons, len_app, len_app, hjl] at h2
                (first | lia | omega)
          with_reducible refine x_assign S ?_
          with_reducible refine PySem.Call_method1 (by k_dflt rfl) (by k_dflt rfl) (by k_dflt rfl) ?_
          with_reducible refine r_str S fun t s' S => ?_
          refine onStr1 PySem.F.slot_str_join PySem.F.type_str_join ?_
          walk_at "ev"
          refine o_join S (S.live (D2, listOf (strValues k).toArray nk) (by simp)) (ps := k.map (·.1)) (P' := P1) Rds.ofStrs (joinOk_of (by show wt _ + _ ≤ _; rw [show (Str.ofString "").length = 0 from rfl]; (first | lia | omega))) fun tf s' S => ?_
          refine ⟨_, _, _, S.weak (M' := [(D, listOf (strValues l).toArray nn)]) (by simp), fun s' S => ?_⟩
          have hF := hF.fixed (v := .str (Txt.join "" (k.map (·.1))) tf)
          have hfx : updm m' "fixed" (.str (Txt.join "" (k.map (·.1))) tf) "fixed" = some (.str (Txt.join "" (k.map (·.1))) tf) := updm_eq
          clear f1 f2 f3 f4 f5 f6
          generalize updm m' "fixed" (.str (Txt.join "" (k.map (·.1))) tf) = m2 at hF hfx S
          have hF' := hF
          obtain ⟨f1, f2, f3, f4, ⟨t5, f5⟩, ⟨t6, f6⟩⟩ := hF
          generalize hJe : Txt.join "" (k.map (·.1)) = J at hst' hjl hfx
          have hpp : pre.length < pr.length := by (first | lia | omega)
          with_reducible refine x_ifT (wpAny_isTrue_Compare1 ?_)
          walk_at "ev"
          refine PyProof.Rows.eq_int (wpAny_truthy_bool ?_)
          cases sf with
          | nil =>
            rw [if_pos (by simp at hlen ⊢; (first | lia | omega))]
            rw [if_pos (show ([] : List (Option Str)).isEmpty = true from rfl)] at hst'
            have ho := Option.some.inj hst'
            have e : pr.length = ps.length := by simp at hlen; (first | lia | omega)
            with_reducible refine x_expr ?_
            refine r_addcall S f3 ?_ (he := by k_dflt rfl)
            with_reducible refine r_str S fun t s' S => ?_
            refine ⟨_, _, _, D, [], [], _, _, S, eb, rfl, by rw [hsl]; (first | lia | omega), fun s' S => ?_⟩
            with_reducible refine x_expr ?_
            refine r_addcall S f3 ?_ (he := by k_dflt rfl)
            walk_at "ev"
            refine ⟨_, _, _, D, [], [], _, _, S, eb, rfl, by simp [strValues]; (first | lia | omega), fun s' S => x_nil ?_⟩
            refine kN 0 _ (by rw [hr]; simp) ⟨pr, [], m2, l ++ [((".*" : Str), t)] ++ [(J, tf)], nn + 1 + 1, 0, [], by rw [hps], rfl, rfl, hF', ?_, ?_, ?_⟩
            · rw [← hl, ← ho]; simp
            · simp; (first | lia | omega)
            · rw [hLl, hLl]; exact S
          | cons q sf =>
            rw [if_neg (by simp at hlen ⊢; (first | lia | omega))]
            rw [if_neg (by simp)] at hst'
            cases hs : stars f (q :: sf) with
            | none => rw [hs] at hst'; cases hst'
            | some o' =>
              rw [hs] at hst'
              have ho := Option.some.inj hst'
              with_reducible refine x_expr ?_
              refine r_addcall S f3 ?_ (he := by k_dflt rfl)
              refine r_fstr S (by decide) fun s' S => ?_
              walk_at "ev"
              refine ⟨J, tf, _, _, _, rfl, S, by rw [show Str.length (Str.ofString "(?>.*?") = 6 from rfl, show Str.length (Str.ofString ")") = 1 from rfl]; (first | lia | omega), fun th s' _ S => ?_⟩
              refine ⟨_, _, _, D, [], [], _, _, S, eb, rfl, by rw [hsl]; (first | lia | omega), fun s' S => x_nil ?_⟩
              refine kN (q :: sf).length _ (by rw [hr]; simp at hlen hlen1 ⊢; (first | lia | omega)) ⟨pr, q :: sf, m2, l ++ [(heldS J, th)], nn + 1, f, o', hps, rfl, hs, hF', ?_, ?_, ?_⟩
              · rw [← hl, ← ho]; simp
              · simp; (first | lia | omega)
              · rw [hLl]; exact S
    · obtain ⟨m', l, nn, F, hl, S⟩ := hR
      obtain ⟨f1, f2, f3, f4, ⟨t5, f5⟩, ⟨t6, f6⟩⟩ := F
      with_reducible refine x_assert (wpAny_isTrue_Compare1 ?_)
      walk_at "ev"
      refine PyProof.Rows.eq_int (wpAny_truthy_bool ⟨by simp, ?_⟩)
      with_reducible refine x_assign S ?_
      with_reducible refine PySem.Call_method1 (by k_dflt rfl) (by k_dflt rfl) (by k_dflt rfl) ?_
      with_reducible refine r_str S fun t s' S => ?_
      refine onStr1 PySem.F.slot_str_join PySem.F.type_str_join ?_
      walk_at "ev"
      have hjl := joinE_len W
      refine o_join S (S.live (D, listOf (strValues l).toArray nn) (by simp)) (ps := W) (P' := P1) (by rw [← hl]; exact Rds.ofStrs) (joinOk_of (by show wt _ + _ ≤ _; rw [show (Str.ofString "").length = 0 from rfl]; (first | lia | omega))) fun tf s' S => ?_
      refine ⟨_, _, _, S, fun s' S => ?_⟩
      with_reducible refine x_return ?_
      refine r_fstr S (by decide) fun s' S => ?_
      walk_at "ev"
      refine ⟨_, tf, _, _, _, rfl, S, by rw [show Str.length (Str.ofString "(?s:") = 4 from rfl, show Str.length (Str.ofString ")\\Z") = 3 from rfl]; (first | lia | omega), fun th s' _ S => ?_⟩
      exact kR _ _ ⟨S.mvOut l1, th, by rw [hW]; rfl⟩
end Mine
namespace Mine

theorem mro_obj : mroOf (.type "object") = pure [.type "object"] := by kernel_rfl
theorem lookup_object_new : typeLookup (.type "object") "__new__" = pure (some (.builtin "object.__new__")) := by rw [typeLookup_type, builtinLookup_eq_fast]; kernel_rfl
theorem called_object : TypeCalled "object" "object.__new__" "object.__init__" :=
  ⟨by decide +kernel, by decide +kernel, ⟨_, _, mro_obj⟩, madeBy_type mro_obj lookup_object_new (by decide +kernel), by decide +kernel, by rw [isSubtype_type]; kernel_rfl, F.slot_object_init⟩
theorem typeCall_object : checkTypeCall "object" ⟨[], []⟩ = pure () := by kernel_rfl
theorem newCall_object : checkBuiltinCall "object.__new__" ⟨[.type "object"], []⟩ = pure () := by kernel_rfl
section
variable {w : World} {A : Around} {E : Value → Shared → Prop} {env : Env} {s₀ : Shared} {L : Addr} {P : PM} {m : Str → Option Value} {M : List (Addr × Obj)} {s : Shared}
theorem object_new : MeetsIn pw w (Builtin.«object.__new__» ⟨[.type "object"], []⟩) (fun A R s => R (.ok (.ret (Value.ref s.heap.objs.size))) { s with heap := s.heap.push { cls := .type "object", data := .plain } }) :=
  .of_wp fun A R s h => by
    obtain ⟨hp, g, d, tk, os⟩ := s
    have hmade := called_object.made
    repeat (any_goals (first | assumption | wp_step))
    exact ⟨_, rfl, h⟩
theorem o_object {Q : Value → Shared → Prop} (S : At s₀ P L m M s) (h : ∀ a s', At s₀ P L m M s' → Q (.ref a) s') : wpAny (mo w) A (call (.type "object") []) Q E s := by
  refine callType_meetsIn (Q₁ := fun obj s₁ => s₁.TypeIs obj "object" ∧ Q obj s₁) called_object typeCall_object newCall_object F.entry_object_new F.entry_object_init object_new ⟨⟨_, Heap.get?_push_size _ rfl, rfl⟩, h _ _ (S.drop1 _)⟩ fun obj s₁ hq => ?_
  refine ⟨hq.1, F.args_object_init_1 obj, fun _ R s => R (.ok (.ret .none)) s, Meets.of_wp fun prog w A R s hs => wpAny_pure ⟨_, rfl, hs⟩, rfl, hq.2⟩

/-- a call of a type without arguments -/
theorem c_type0 {x : Str} {p pos : Pos} {T : String} {Q : Value → Shared → Prop} (S : At s₀ P L m M s) (B : Base w P) (h : wpAny (mo w) A (call (.type T) []) Q E s)
    (en : nsIn (KK w) mainGlobals x = some none := by kernel_rfl) (hv : bootBuiltins x = some (.type T) := by boot_fast) (hb : bltB env x = true := by kernel_rfl) :
    wpAny (mo w) A (eval (.Call (.Name x p) [] [] pos) env) Q E s :=
  wpAny_Call_NameR (r_built S B (callWith_type0 h) en hv hb)
end

set_option hygiene false in
local macro_rules | `(tactic| walk_at "ev") => `(tactic| repeat (first | walk_at "rk" | (with_reducible refine r_strT (by assumption) fun t s' ht S => ?_) | (with_reducible refine wpAny_BinOp ?_)))

set_option maxHeartbeats 400000 in
theorem translate_spec {w : World} {A : Around} {s : Shared} {pat : Str} {tp : Tok} {ps : List (Option Str)} {out : Str} (O : Ok w s) (hd : A.depth + 3 < recursionLimit) (hh : A.handled = none)
    (hs0 : 0 < s.toks) (hlen : pat.length ≤ 1000) (htr : tr pat.length pat.cps.toList [] = some ps) (hn : ps.length ≤ 100) (hw : ∀ x, some x ∈ ps → x.length ≤ 100) (hj : joinP ps = some out) (hout : out.length ≤ 10000) :
    wpAny (mo w) A (call (.ref 49) [.str pat tp]) (fun v s' => Mv [] s s' ∧ ∃ t, v = .str out t) NoE s := by
  refine wpAny_call (enter [("pat", .str pat tp)] O (by (first | lia | omega)) ⟨_, _, _, rfl⟩ (by kernel_rfl) rfl (by kernel_rfl) (by kernel_rfl) (by kernel_rfl) rfl rfl rfl fun L s₁ S B => absQ fun KR kR => ?_)
  have hA : (A.deeper (envF w 49 L)).handled = none := hh
  have hA1 : (A.deeper (envF w 49 L)).depth + 2 < recursionLimit := by show A.depth + 1 + 2 < _; (first | lia | omega)
  with_reducible refine x_assign S ?_
  with_reducible refine c_type0 S B ?_
  refine o_object S fun a s' S => ⟨_, _, _, S, fun s' S => ?_⟩
  with_reducible refine x_assign S ?_
  with_reducible refine c_def (a := 68) S B ?_ (by k_dflt rfl) (by kernel_rfl) (he := by k_dflt rfl) (hplain := by k_dflt rfl)
  with_reducible refine spliced_more ?_ (by k_dflt rfl)
  walk_at "ev"
  with_reducible refine spliced_more ?_ (by k_dflt rfl)
  walk_at "ev"
  with_reducible refine spliced_more ?_ (by k_dflt rfl)
  with_reducible refine r_strT S fun tq s' ht S => ?_
  with_reducible refine spliced_none ?_
  refine ⟨⟨_, _, _, S, B⟩, ?_⟩
  have htp := S.tp
  have hσ : ∀ n, StarOK (.ref a) n := fun _ => trivial
  have hq : Apart (.ref a) "." tq := trivial
  have hsg : SigOK (.ref a) := trivial
  with_reducible refine r_call S (trans_spec (σ := .ref a) (S.ok B) hA1 hA (hσ _) hq (Nat.lt_of_lt_of_le hs0 htp) hlen htr) fun v P2 s2 l2 n2 S v2 r2 => ?_
  obtain ⟨la, lvs, ln, rfl, hla, hpv⟩ := r2
  have B2 := B.mono l2
  have ela := n2 _ _ hla
  refine ⟨_, _, _, S, fun s' S => ?_⟩
  with_reducible refine x_return ?_
  with_reducible refine c_def (a := 75) S B2 ?_ (by k_dflt rfl) (by kernel_rfl) (he := by k_dflt rfl) (hplain := by k_dflt rfl)
  with_reducible refine spliced_more ?_ (by k_dflt rfl)
  walk_at "ev"
  with_reducible refine spliced_more ?_ (by k_dflt rfl)
  walk_at "ev"
  with_reducible refine spliced_none ?_
  refine ⟨⟨_, _, _, S, B2⟩, ?_⟩
  have hall := S.leAll la _ ela
  with_reducible refine r_call S (join_spec (σ := .ref a) (S.ok B2) (by (first | lia | omega)) hA hall hpv hsg hn hw hj hout) fun v P3 s3 l3 n3 S v3 r3 => ?_
  exact kR _ _ ⟨S.mvOut (l2.trans l3), r3⟩
end Mine
namespace Mine


noncomputable def loop2B (w : World) : List Stmt := match (lawB w)[13]? with | some (Stmt.For _ _ b _ _) => b | _ => []
noncomputable def dotted (kn : List Str) (x : Str) : Str := if x ∈ kn then x else "."
noncomputable def bareW (kn : List Str) (p : Str × Str) : Str := if p.2 ∈ kn then p.1 else "?"
noncomputable def bareOf (kn : List Str) (R : List (Str × Str)) : Str := Txt.join "" (R.map (bareW kn))
section
variable {w : World} {A : Around} {E : Value → Shared → Prop} {env : Env} {s₀ : Shared} {L : Addr} {P : PM} {m : Str → Option Value} {M : List (Addr × Obj)} {s : Shared}
/-- joined = _law_joined([part if part in known else '.' for part in due[k]]) -/
theorem lq0 {st : Stmt} {rest : List Stmt} {vD vK : Value} {pss : List (List Str)} {ps kn : List Str} {k : Nat} {tk : Tok} {oK : Obj} {Q : Flow → Shared → Prop} (hst : (loop2B w)[0]? = some st) (S : At s₀ P L m M s) (B : Base w P) (hh : A.handled = none) (hd : A.depth + 2 < recursionLimit) (hu : A.units + 4 < cLine)
    (hD : m "due" = some vD) (rD : Rd P vD (.list (pss.map strsD))) (hK : (L + 2, oK) ∈ M) (hoK : oK.data = .cell (some vK)) (rK : Rd P vK (strsD kn)) (hk : m "k" = some (.int (0 + (k : Int) * 1) tk)) (hp : pss[k]? = some ps)
    (hps : ps.length ≤ 100 ∧ ∀ y ∈ ps, PyData.strOk y = true ∧ y.length ≤ 100) (hpl : pss.length ≤ 1000) (hkn : ∀ y ∈ kn, PyData.strOk y = true)
    (hQ : ∀ P' t s', P.le P' → At s₀ P' L (updm m "joined" (.str (joinedS (ps.map (dotted kn))) t)) M s' → wpAny (mo w) A (execs rest (envC w 132 L)) Q E s') :
    wpAny (mo w) A (execs (st :: rest) (envC w 132 L)) Q E s := by
  cases hst
  obtain ⟨a, vs, n, rfl, e, r⟩ := rD.list_inv
  have hsz := r.size
  rw [List.length_map] at hsz
  obtain ⟨v', hv', rv⟩ := r.getA (i := k) (d := strsD ps) (by rw [List.getElem?_map, hp]; rfl)
  obtain ⟨l, us, nn, rfl, el, ru⟩ := rv.list_inv
  have hus := ru.size
  rw [List.length_map] at hus
  obtain ⟨hl1, hok⟩ := hps
  refine x_assign S ?_
  refine c_def S B (a := 127) ?_ (by kernel_rfl) (by kernel_rfl) (by kernel_rfl) (by k_dflt rfl) (by k_dflt rfl)
  refine spliced_more ?_ (by k_dflt rfl)
  refine ev_comp S [("known", L + 2)] (by kernel_rfl) (by kernel_rfl) (by kernel_rfl) (by k_dflt rfl) (by intro x; k_dflt rfl) ?_
  with_reducible refine Subscript_ ?_
  refine r_local S ?_ (by kernel_rfl) hD (by kernel_rfl)
  refine r_local S ?_ (by kernel_rfl) hk (by kernel_rfl)
  refine o_item (S.keep _ _ e) (by (first | lia | omega)) (k := 0 + (k : Int) * 1) (by rw [show (0 + (k : Int) * 1).toNat = k by (first | lia | omega)]; exact hv') (by (first | lia | omega)) ?_
  refine ⟨P, m, M, us.size, _, _, fun k acc P' M' => M = M' ∧ Rds P' acc (((ps.take k).map (dotted kn)).map .str), S, Its.list hh el, LetIt.plain (fun _ _ => rfl), by rw [sizeLine_eq]; (first | lia | omega), ⟨rfl, .nil⟩, fun C => ?_, fun D P' M' acc j s' hle hJ S => ?_⟩
  · intro i v acc P' M' X mc s' K N hi hv hle hJ S kK kN
    obtain ⟨rfl, hJ⟩ := hJ
    have hip : i < ps.length := by (first | lia | omega)
    have hpi : ps[i]? = some ps[i] := List.getElem?_eq_getElem hip
    obtain ⟨v', hv', rv'⟩ := ru.getA (i := i) (d := .str ps[i]) (by rw [List.getElem?_map, hpi]; rfl)
    obtain ⟨t1, rfl⟩ := rv'.str_inv
    have : Value.str ps[i] t1 = v := by rw [hv'] at hv; exact Option.some.inj hv
    subst this
    have hoki := (hok _ (List.getElem_mem hip)).1
    have hti : ((ps.take (i + 1)).map (dotted kn)).map PyData.str = ((ps.take i).map (dotted kn)).map PyData.str ++ [.str (dotted kn ps[i])] := by
      rw [List.take_add_one, hpi, List.map_append, List.map_append]; rfl
    have hK2 : (L + 2, oK) ∈ X ++ M := List.mem_append_right _ hK
    generalize ps[i] = x at hoki hti
    refine wpAny_assign_Name (r_store S (fun s' S => ?_) rfl)
    refine wpAny_tests_nil ?_
    rw [if_pos rfl]
    refine wpAny_IfExp (wpAny_isTrue_Compare1 ?_)
    walk_at "ev"
    refine r_cell S ?_ (by k_dflt rfl) hoK hK2 (by kernel_rfl)
    refine o_in S (rK.mono hle) hkn hoki (by show A.units + 1 < cLine; (first | lia | omega)) (wpAny_truthy_bool ?_)
    unfold dotted at hti
    by_cases q : x ∈ kn
    · rw [if_pos (by simp [q])]
      walk_at "ev"
      refine kK _ _ ⟨P', _, _, .refl _, ⟨rfl, ?_⟩, S⟩
      rw [if_pos q] at hti
      exact hti ▸ hJ.append (.one (.str ..))
    · rw [if_neg (by simp [q])]
      walk_at "ev"
      refine kK _ _ ⟨P', _, _, .refl _, ⟨rfl, ?_⟩, S⟩
      rw [if_neg q] at hti
      exact hti ▸ hJ.append (.one (.str ..))
  · obtain ⟨rfl, hJ⟩ := hJ
    have S0 := S
    have S1 := S.freeze (pre := []) rfl
    have l5 : P'.le (PM.put P' D (listOf acc.toArray j)) := PM.le_put (S0.out D (by simp))
    rw [hus, List.take_length] at hJ
    have rD2 : Rd (PM.put P' D (listOf acc.toArray j)) (.ref D) (strsD (ps.map (dotted kn))) := .list (PM.put_self ..) (hJ.mono l5)
    generalize PM.put P' D (listOf acc.toArray j) = P2 at S1 l5 rD2
    refine spliced_none ⟨⟨_, _, _, S1, B.mono (hle.trans l5)⟩, ?_⟩
    have hwt : wt (ps.map (dotted kn)) ≤ 100 * (ps.map (dotted kn)).length := wt_le fun y hy => by
      obtain ⟨x, hx, rfl⟩ := List.mem_map.mp hy
      unfold dotted
      split
      · exact (hok x hx).2
      · show Str.length (Str.ofString ".") ≤ 100; decide
    rw [List.length_map] at hwt
    refine r_call S1 (joined_spec (S1.ok (B.mono (hle.trans l5))) (by show A.depth + 1 < recursionLimit; (first | lia | omega)) hh (rD2.mono S1.leAll) (by rw [List.length_map]; exact hl1) (by (first | lia | omega))) fun v P5 s8 l6 n6 S v1' r6 => ?_
    obtain ⟨t, rfl⟩ := r6
    exact ⟨P5, _, _, S, fun s9 S => hQ P5 t s9 ((hle.trans l5).trans l6) S⟩
/-- bare = ''.join([dress if part in known else '?' for dress, part in rows[k]]) -/
theorem lq1 {st : Stmt} {rest : List Stmt} {v vK : Value} {ys : List Int} {k : Nat} {tk : Tok} {y : Int} {kn : List Str} {oK : Obj} {Q : Flow → Shared → Prop} (hst : (loop2B w)[1]? = some st) (S : At s₀ P L m M s) (hh : A.handled = none) (hu : A.units + 4 < cLine)
    (hm : m "rows" = some v) (rv : Rd P v (rowsDD ys)) (hx : ys.length ≤ 1000) (hk : m "k" = some (.int (0 + (k : Int) * 1) tk)) (hy : ys[k]? = some y) (hK : (L + 2, oK) ∈ M) (hoK : oK.data = .cell (some vK)) (rK : Rd P vK (strsD kn))
    (hkn : ∀ y ∈ kn, PyData.strOk y = true) (hrok : ∀ p ∈ rowP y, PyData.strOk p.2 = true)
    (hQ : ∀ P' t s', P.le P' → At s₀ P' L (updm m "bare" (.str (bareOf kn (rowP y)) t)) M s' → wpAny (mo w) A (execs rest (envC w 132 L)) Q E s') :
    wpAny (mo w) A (execs (st :: rest) (envC w 132 L)) Q E s := by
  cases hst
  obtain ⟨a, vs, n, rfl, e, r⟩ := rv.list_inv
  have hsz := r.size
  rw [List.length_map] at hsz
  obtain ⟨u, hu', ru⟩ := r.getA (i := k) (d := .list (rowD (digs y))) (by rw [List.getElem?_map, hy]; rfl)
  rw [rowD_pairs] at ru
  obtain ⟨b, us, n2, rfl, e2, r2⟩ := ru.list_inv
  have hsz2 := r2.size
  rw [List.length_map] at hsz2
  have hl4 := rowP_len y
  have hlen : ∀ p ∈ rowP y, p.1.length ≤ 8 := fun p hp => (dress_len p (rowP_mem hp)).1
  refine x_assign S ?_
  with_reducible refine PySem.Call_method1 (by k_dflt rfl) (by k_dflt rfl) (by k_dflt rfl) ?_
  walk_at "ev"
  refine onStr1 F.slot_str_join F.type_str_join ?_
  refine ev_comp S [("known", L + 2)] (by kernel_rfl) (by kernel_rfl) (by kernel_rfl) (by k_dflt rfl) (by intro x; k_dflt rfl) ?_
  with_reducible refine Subscript_ ?_
  refine r_local S ?_ (by kernel_rfl) hm (by kernel_rfl)
  refine r_local S ?_ (by kernel_rfl) hk (by kernel_rfl)
  refine o_item (S.keep _ _ e) (by (first | lia | omega)) (k := 0 + (k : Int) * 1) (by rw [show (0 + (k : Int) * 1).toNat = k by (first | lia | omega)]; exact hu') (by (first | lia | omega)) ?_
  unfold bareOf at hQ
  generalize rowP y = R at r2 hsz2 hl4 hlen hrok hQ
  refine ⟨_, _, _, us.size, _, _, fun k acc P' M' => M = M' ∧ Rds P' acc (((R.take k).map (bareW kn)).map .str), S, Its.list hh e2, LetIt.list (.inr ⟨_, _, _, rfl⟩), by rw [sizeLine_eq]; (first | lia | omega), ⟨rfl, .nil⟩, fun C => ?_, fun D P' M' acc j s' hle hJ S => ?_⟩
  · intro k v acc P' M' X mc s' K N hk hv hle hJ S kK kN
    obtain ⟨rfl, hJ⟩ := hJ
    have hkl : k < R.length := by (first | lia | omega)
    have hr : R[k]? = some R[k] := List.getElem?_eq_getElem hkl
    obtain ⟨v', hv', rv'⟩ := r2.getA (i := k) (d := pairD R[k]) (by rw [List.getElem?_map, hr]; rfl)
    have : v' = v := by rw [hv'] at hv; exact Option.some.inj hv
    subst this
    obtain ⟨a', n', t, u, rfl, e'⟩ := rv'.pair_inv
    have e2 := hle _ _ e'
    have hok := hrok _ (List.getElem_mem hkl)
    have hti : ((R.take (k + 1)).map (bareW kn)).map PyData.str = ((R.take k).map (bareW kn)).map PyData.str ++ [.str (bareW kn R[k])] := by
      rw [List.take_add_one, hr, List.map_append, List.map_append]; rfl
    unfold bareW at hti
    have hK2 : (L + 2, oK) ∈ X ++ M := List.mem_append_right _ hK
    refine r_pair S hh e2 (fun s' S => ?_) (by k_dflt rfl)
    refine wpAny_assignInOrder_more (wpAny_assign_Name (r_store S (fun s' S => ?_) rfl))
    refine wpAny_assignInOrder_more (wpAny_assign_Name (r_store S (fun s' S => ?_) rfl))
    refine wpAny_assignInOrder_none (wpAny_tests_nil ?_)
    rw [if_pos rfl]
    refine wpAny_IfExp (wpAny_isTrue_Compare1 ?_)
    walk_at "ev"
    refine r_cell S ?_ (by k_dflt rfl) hoK hK2 (by kernel_rfl)
    refine o_in S (rK.mono hle) hkn hok (by show A.units + 1 < cLine; (first | lia | omega)) (wpAny_truthy_bool ?_)
    by_cases q : R[k].2 ∈ kn
    · rw [if_pos (by simp [q])]
      walk_at "ev"
      refine kK _ _ ⟨P', _, _, .refl _, ⟨rfl, ?_⟩, S⟩
      rw [if_pos q] at hti
      exact hti ▸ hJ.append (.one (.str ..))
    · rw [if_neg (by simp [q])]
      walk_at "ev"
      refine kK _ _ ⟨P', _, _, .refl _, ⟨rfl, ?_⟩, S⟩
      rw [if_neg q] at hti
      exact hti ▸ hJ.append (.one (.str ..))
  · obtain ⟨rfl, hJ⟩ := hJ
    rw [hsz2, List.take_length] at hJ
    have eD := S.live (D, listOf acc.toArray j) (.head _)
    have hwt := wt_le (c := 8) (l := R.map (bareW kn)) fun x hx => by
      obtain ⟨p, hp, rfl⟩ := List.mem_map.mp hx
      unfold bareW
      split
      · exact hlen p hp
      · show Str.length (Str.ofString "?") ≤ 8; decide
    rw [List.length_map] at hwt
    refine o_join S eD (ps := R.map (bareW kn)) (P' := P') (by simpa using hJ) (joinOk_of (by show wt _ + _ ≤ _; rw [List.length_map, show (Str.ofString "").length = 0 from rfl]; (first | lia | omega))) fun t s' S => ?_
    exact ⟨_, _, _, S, fun s'' S => hQ P' t s'' hle (S.weak (List.sublist_cons_self ..))⟩
end
end Mine
namespace Mine


section
variable {w : World} {A : Around} {E : Value → Shared → Prop} {env : Env} {s₀ : Shared} {L : Addr} {P : PM} {m : Str → Option Value} {M : List (Addr × Obj)} {s : Shared}
/-- if _join_translated_parts([kept[n] for n in told[k]], star) != joined or translate(bare) != joined: return False -/
theorem lq2 {st : Stmt} {rest : List Stmt} {vT : Value} {nums : List (List Nat)} {ns : List Nat} {kp : Addr} {kvs : Array Value} {kn' : Nat} {kparts tps : List (Option Str)} {bare J : Str} {u tj tb : Tok} {k : Nat} {tk : Tok} {oP : Obj} {Q : Flow → Shared → Prop} (hst : (loop2B w)[2]? = some st) (S : At s₀ P L m M s) (B : Base w P) (hh : A.handled = none) (hd : A.depth + 3 < recursionLimit)
    (hT : m "told" = some vT) (rT : Rd P vT (.list (nums.map natsD))) (hnl : nums.length ≤ 1000) (hP : (L + 3, oP) ∈ M) (hoP : oP.data = .cell (some (.ref kp))) (eP : P kp = some (listOf kvs kn')) (hPV : PVs (sig u) kvs kparts) (hkpl : kparts.length ≤ 1000000)
    (hk : m "k" = some (.int (0 + (k : Int) * 1) tk)) (hn : nums[k]? = some ns) (hnsl : ns.length ≤ 100) (hns : ∀ n ∈ ns, n < kparts.length) (hsr : m "star" = some (.str "*" u)) (hu0 : u ≠ 0) (hus : u < s₀.toks)
    (hjn : m "joined" = some (.str J tj)) (hbr : m "bare" = some (.str bare tb)) (hw1 : ∀ x, some x ∈ kparts → x.length ≤ 100) (hJ1 : joinP (ns.map fun n => kparts.getD n none) = some J) (hJl : J.length ≤ 10000)
    (hbl : bare.length ≤ 1000) (htr : tr bare.length bare.cps.toList [] = some tps) (htl : tps.length ≤ 100) (hw2 : ∀ x, some x ∈ tps → x.length ≤ 100) (hJ2 : joinP tps = some J)
    (hQ : ∀ P' s', P.le P' → At s₀ P' L m M s' → wpAny (mo w) A (execs rest (envC w 132 L)) Q E s') :
    wpAny (mo w) A (execs (st :: rest) (envC w 132 L)) Q E s := by
  cases hst
  obtain ⟨a, vs, n, rfl, e, r⟩ := rT.list_inv
  have hsz := r.size
  rw [List.length_map] at hsz
  obtain ⟨v', hv', rv⟩ := r.getA (i := k) (d := natsD ns) (by rw [List.getElem?_map, hn]; rfl)
  obtain ⟨l, us, nn, rfl, el, ru⟩ := rv.list_inv
  have hul := ru.size
  rw [List.length_map] at hul
  have hPs := hPV.size
  refine x_if (wpAny_isTrue_BoolOp (wpAny_allTrue_Or_cons (wpAny_isTrue_Compare1 ?_)))
  refine c_def S B (a := 75) ?_ (by kernel_rfl) (by kernel_rfl) (by kernel_rfl) (by k_dflt rfl) (by k_dflt rfl)
  refine spliced_more ?_ (by k_dflt rfl)
  refine ev_comp S [("kept", L + 3)] (by kernel_rfl) (by kernel_rfl) (by kernel_rfl) (by k_dflt rfl) (by intro x; k_dflt rfl) ?_
  with_reducible refine Subscript_ ?_
  refine r_local S ?_ (by kernel_rfl) hT (by kernel_rfl)
  refine r_local S ?_ (by kernel_rfl) hk (by kernel_rfl)
  refine o_item (S.keep _ _ e) (by (first | lia | omega)) (k := 0 + (k : Int) * 1) (by rw [show (0 + (k : Int) * 1).toNat = k by (first | lia | omega)]; exact hv') (by (first | lia | omega)) ?_
  refine ⟨P, m, M, us.size, _, _, fun i acc P' M' => M = M' ∧ PVs (sig u) acc.toArray ((ns.take i).map fun n => kparts.getD n none), S, Its.list hh el, LetIt.plain (fun _ _ => rfl), by rw [sizeLine_eq]; (first | lia | omega), ⟨rfl, PVs.nil _⟩, fun C => ?_, fun D P' M' acc j s' hle hJ S => ?_⟩
  · intro i v acc P' M' X mc s' K N hi hv hle hJ S kK kN
    obtain ⟨rfl, hJ⟩ := hJ
    have hip : i < ns.length := by (first | lia | omega)
    have hpi : ns[i]? = some ns[i] := List.getElem?_eq_getElem hip
    obtain ⟨v', hv', rv'⟩ := ru.getA (i := i) (d := .int (ns[i] : Nat)) (by rw [List.getElem?_map, hpi]; rfl)
    have : v' = v := by rw [hv'] at hv; exact Option.some.inj hv
    subst this
    cases rv'
    have hnk := hns _ (List.getElem_mem hip)
    have hti : ((ns.take (i + 1)).map fun n => kparts.getD n none) = ((ns.take i).map fun n => kparts.getD n none) ++ [kparts.getD ns[i] none] := by
      rw [List.take_add_one, hpi, List.map_append]; rfl
    generalize ns[i] = b at hv' hnk hti
    have hkb : kparts[b]? = some (kparts.getD b none) := by
      rw [List.getD_eq_getElem?_getD, List.getElem?_eq_getElem hnk]; rfl
    obtain ⟨kv, hkv, pv⟩ := hPV.get b _ hkb
    refine wpAny_assign_Name (r_store S (fun s' S => ?_) rfl)
    refine wpAny_tests_nil ?_
    rw [if_pos rfl]
    with_reducible refine Subscript_ (r_cell S ?_ (by k_dflt rfl) hoP (List.mem_append_right _ hP) (by kernel_rfl))
    walk_at "ev"
    refine o_item (S.keep _ _ (hle _ _ eP)) (by (first | lia | omega)) (k := (b : Int)) (by rw [Int.toNat_natCast]; exact hkv) (by (first | lia | omega)) ?_
    refine kK _ _ ⟨P', _, _, .refl _, ⟨rfl, ?_⟩, S⟩
    rw [hti, show (acc ++ [kv]).toArray = acc.toArray.push kv by simp]
    exact hJ.push pv
  · obtain ⟨rfl, hJ⟩ := hJ
    have S0 := S
    have S1 := S.freeze (pre := []) rfl
    have l5 : P'.le (PM.put P' D (listOf acc.toArray j)) := PM.le_put (S0.out D (by simp))
    have eD := PM.put_self P' D (listOf acc.toArray j)
    generalize PM.put P' D (listOf acc.toArray j) = P2 at S1 l5 eD
    rw [hul, List.take_length] at hJ
    have B2 := B.mono (hle.trans l5)
    refine spliced_more ?_ (by k_dflt rfl)
    refine r_local S1 ?_ (by kernel_rfl) hsr (by kernel_rfl)
    refine spliced_none ⟨⟨_, _, _, S1, B2⟩, ?_⟩
    refine r_call S1 (join_spec (S1.ok B2) (by show A.depth + 1 < recursionLimit; (first | lia | omega)) hh (S1.leAll _ _ eD) hJ hu0 (by rw [List.length_map]; exact hnsl) (fun x hx => ?_) hJ1 hJl) fun v P5 s8 l6 n6 S v1' r6 => ?_
    · obtain ⟨b, hb, q⟩ := List.mem_map.mp hx
      refine hw1 x ?_
      have hnk := hns b hb
      rw [List.getD_eq_getElem?_getD, List.getElem?_eq_getElem hnk] at q
      exact q ▸ List.getElem_mem hnk
    · obtain ⟨t, rfl⟩ := r6
      have B5 := B2.mono l6
      refine r_local S ?_ (by kernel_rfl) hjn (by kernel_rfl)
      refine PyProof.Rows.ne_str (wpAny_truthy_bool ?_)
      rw [if_neg (by simp)]
      refine wpAny_allTrue_Or_cons (wpAny_isTrue_Compare1 ?_)
      refine c_def S B5 (a := 49) ?_ (by kernel_rfl) (by kernel_rfl) (by kernel_rfl) (by k_dflt rfl) (by k_dflt rfl)
      refine spliced_more ?_ (by k_dflt rfl)
      refine r_local S ?_ (by kernel_rfl) hbr (by kernel_rfl)
      refine spliced_none ⟨⟨_, _, _, S, B5⟩, ?_⟩
      have hstp := S.tp
      refine r_call S (translate_spec (S.ok B5) hd hh (Nat.lt_of_le_of_lt (Nat.zero_le u) (Nat.lt_of_lt_of_le hus hstp)) hbl htr htl hw2 hJ2 hJl) fun v P6 s9 l7 n7 S v2' r7 => ?_
      obtain ⟨t2, rfl⟩ := r7
      refine r_local S ?_ (by kernel_rfl) hjn (by kernel_rfl)
      refine PyProof.Rows.ne_str (wpAny_truthy_bool ?_)
      rw [if_neg (by simp)]
      refine wpAny_allTrue_Or_nil ?_
      rw [if_neg (by simp)]
      exact x_nil (hQ P6 _ ((hle.trans l5).trans (l6.trans l7)) S)
end
end Mine
namespace Mine

/-- what the plain law tells of a row for the second loop -/
structure RowLaw (kn : List Str) (kparts : List (Option Str)) (y : Int) (ns : List Nat) (tps : List (Option Str)) : Prop where
  len : ns.length ≤ 100
  lt : ∀ n ∈ ns, n < kparts.length
  j1 : joinP (ns.map fun n => kparts.getD n none) = some (joinedS ((dueOf y).map (dotted kn)))
  jl : (joinedS ((dueOf y).map (dotted kn))).length ≤ 10000
  bl : (bareOf kn (rowP y)).length ≤ 1000
  tr : tr (bareOf kn (rowP y)).length (bareOf kn (rowP y)).cps.toList [] = some tps
  tl : tps.length ≤ 100
  tw : ∀ x, some x ∈ tps → x.length ≤ 100
  j2 : joinP tps = some (joinedS ((dueOf y).map (dotted kn)))
/-- the names that the second loop reads -/
structure LN2 (m : Str → Option Value) (vR vD vT : Value) (u : Tok) : Prop where
  rows : m "rows" = some vR
  due : m "due" = some vD
  told : m "told" = some vT
  star : m "star" = some (.str "*" u)
theorem updm_other {m : Str → Option Value} {x y : Str} {v : Value} (h : (x == y) = false) : updm m x v y = m y := updm_ne (by rw [Bool.eq_false_iff] at h ⊢; intro e; exact h (by rw [eq_of_beq e]; exact beq_self_eq_true _))
theorem LN2.upd {m : Str → Option Value} {vR vD vT : Value} {u : Tok} (h : LN2 m vR vD vT u) {x : Str} {v : Value} (hx : (x == "rows") = false ∧ (x == "due") = false ∧ (x == "told") = false ∧ (x == "star") = false) : LN2 (updm m x v) vR vD vT u :=
  ⟨(updm_other hx.1).trans h.rows, (updm_other hx.2.1).trans h.due, (updm_other hx.2.2.1).trans h.told, (updm_other hx.2.2.2).trans h.star⟩
section
variable {w : World} {A : Around} {E : Value → Shared → Prop} {env : Env} {s₀ : Shared} {L : Addr} {P : PM} {m : Str → Option Value} {M : List (Addr × Obj)} {s : Shared}
/-- the second loop -/
theorem law13 {st : Stmt} {rest : List Stmt} {vR vD vT vK : Value} {ys : List Int} {nums : List (List Nat)} {kn : List Str} {kp : Addr} {kvs : Array Value} {kn' : Nat} {kparts : List (Option Str)} {u : Tok} {oK oP : Obj} {Q : Flow → Shared → Prop} (hst : (lawB w)[13]? = some st) (S : At s₀ P L m M s) (B : Base w P) (hh : A.handled = none) (hd : A.depth + 3 < recursionLimit) (hu : A.units + 4 < cLine)
    (N : LN2 m vR vD vT u) (rR : Rd P vR (rowsDD ys)) (hyl : ys.length ≤ 1000) (rD : Rd P vD (.list ((ys.map dueOf).map strsD))) (rT : Rd P vT (.list (nums.map natsD))) (hnl : nums.length ≤ 1000)
    (hK : (L + 2, oK) ∈ M) (hoK : oK.data = .cell (some vK)) (rK : Rd P vK (strsD kn)) (hP : (L + 3, oP) ∈ M) (hoP : oP.data = .cell (some (.ref kp))) (eP : P kp = some (listOf kvs kn')) (hPV : PVs (sig u) kvs kparts) (hkpl : kparts.length ≤ 1000000)
    (hu0 : u ≠ 0) (hus : u < s₀.toks) (hw1 : ∀ x, some x ∈ kparts → x.length ≤ 100) (hkn : ∀ y ∈ kn, PyData.strOk y = true)
    (hdue : ∀ y ∈ ys, (dueOf y).length ≤ 100 ∧ ∀ x ∈ dueOf y, PyData.strOk x = true ∧ x.length ≤ 100) (hrow : ∀ y ∈ ys, ∀ p ∈ rowP y, PyData.strOk p.2 = true)
    (law : ∀ (k : Nat) (y : Int), ys[k]? = some y → ∃ ns tps, nums[k]? = some ns ∧ RowLaw kn kparts y ns tps)
    (hQ : ∀ P' m' s', P.le P' → At s₀ P' L m' M s' → wpAny (mo w) A (execs rest (envC w 132 L)) Q E s') :
    wpAny (mo w) A (execs (st :: rest) (envC w 132 L)) Q E s := by
  cases hst
  obtain ⟨a, vs, n, rfl, e, r⟩ := rR.list_inv
  have hsz := r.size
  rw [List.length_map] at hsz
  refine x_for S ?_ (by intro x; k_dflt rfl)
  refine c_type S B (T := "range") ?_ (he := by k_dflt rfl) (hplain := by k_dflt rfl)
  refine spliced_more ?_ (by k_dflt rfl)
  refine c_built S B (id := "len") ?_ (he := by k_dflt rfl) (hplain := by k_dflt rfl)
  refine spliced_more ?_ (by k_dflt rfl)
  refine r_local S ?_ (by kernel_rfl) N.rows (by kernel_rfl)
  refine spliced_none ?_
  refine o_len S (S.keep _ _ e) (by (first | lia | omega)) fun t s1 S => ?_
  refine spliced_none ?_
  refine o_range1 S hh (by (first | lia | omega)) fun rg P1 s2 l1 S W => ?_
  have hn2 : ((vs.size : Nat) : Int).toNat = ys.length := by (first | lia | omega)
  rw [hn2] at W
  have B1 := B.mono l1
  refine ⟨P1, m, M, ys.length, _, _, fun k P' m' M' => M = M' ∧ LN2 m' (.ref a) vD vT u, S, W, LetIt.plain (fun _ _ => rfl), ⟨rfl, N⟩, ?_, ?_⟩
  · intro k v P' m' M' XX s' K hk hv hle hJ S kK
    obtain ⟨rfl, N⟩ := hJ
    obtain ⟨tk, rfl⟩ := hv
    have hky : ys[k]? = some ys[k] := List.getElem?_eq_getElem hk
    have hmem := List.getElem_mem hk
    obtain ⟨ns, tps, hns, R⟩ := law k _ hky
    have hdue' := hdue _ hmem
    have hrow' := hrow _ hmem
    generalize ys[k] = y at hky R hdue' hrow'
    have lP := l1.trans hle
    have hK' : (L + 2, oK) ∈ XX ++ M := List.mem_append_right _ hK
    have hP' : (L + 3, oP) ∈ XX ++ M := List.mem_append_right _ hP
    refine wpAny_assign_Name (r_store S (fun s3 S => ?_) rfl)
    have Nk := N.upd (x := "k") (v := .int (0 + (k : Int) * 1) tk) ⟨by decide, by decide, by decide, by decide⟩
    refine lq0 (w := w) rfl S (B1.mono hle) hh (by (first | lia | omega)) hu Nk.due (rD.mono lP) hK' hoK (rK.mono lP) updm_eq (by rw [List.getElem?_map, hky]; rfl) hdue' (by rw [List.length_map]; exact hyl) hkn fun P2 tj s4 l2 S => ?_
    have Nj := Nk.upd (x := "joined") (v := .str (joinedS ((dueOf y).map (dotted kn))) tj) ⟨by decide, by decide, by decide, by decide⟩
    have l2' := lP.trans l2
    refine lq1 (w := w) rfl S hh hu Nj.rows (rR.mono l2') hyl (updm_other (by decide) |>.trans updm_eq) hky hK' hoK (rK.mono l2') hkn hrow' fun P3 tb s5 l3 S => ?_
    have Nb := Nj.upd (x := "bare") (v := .str (bareOf kn (rowP y)) tb) ⟨by decide, by decide, by decide, by decide⟩
    have l3' := l2'.trans l3
    refine lq2 (w := w) rfl S (B.mono l3') hh hd Nb.told (rT.mono l3') hnl hP' hoP (l3' _ _ eP) hPV hkpl ((updm_other (by decide)).trans ((updm_other (by decide)).trans updm_eq)) hns R.len R.lt Nb.star hu0 hus ((updm_other (by decide)).trans updm_eq) updm_eq hw1 R.j1 R.jl R.bl R.tr R.tl R.tw R.j2 fun P4 s6 l4 S => ?_
    exact x_nil (kK _ ⟨P4, _, M, l2.trans (l3.trans l4), ⟨rfl, Nb⟩, S⟩)
  · intro P' m' M' s' hle hJ S
    obtain ⟨rfl, N⟩ := hJ
    exact hQ P' m' s' (l1.trans hle) S
end
end Mine
namespace Mine

/-- an iterator over the book's keys -/
noncomputable abbrev keyIt (bk : Addr) (i n ep : Nat) : Obj := { cls := .type "dict_keyiterator", data := .fields #[.ref bk, .int i 0, .int n 0, .int ep 0] }
section
variable {w : World} {A : Around} {E : Value → Shared → Prop} {env : Env} {s₀ : Shared} {L : Addr} {P : PM} {m : Str → Option Value} {M : List (Addr × Obj)} {s : Shared}
variable {h : Heap} {g : Array GenState} {d : Drawn} {t : Nat} {os : OsState}
set_option maxHeartbeats 1000000 in
theorem g_keynext {it bk dA : Addr} {fac : Value} {es : Array DictEntry} {ep i : Nat} {e : DictEntry} {Q : Option Value → Shared → Prop} (X : (KK w).In h) (hit : h.get? it = some (keyIt bk i es.size ep)) (hb : h.get? bk = some (bookO dA fac es ep)) (he : es[i]? = some e)
    (hQ : ∀ h', Heap.SameBut it h h' → h'.get? it = some (keyIt bk (i + 1) es.size ep) → Q (some e.key) ⟨h', g, d, t, os⟩) : wpAny (mo w) A (pyNext (.ref it)) Q E ⟨h, g, d, t, os⟩ := by
  have ti : Looks (mo w) h (typeOf (.ref it)) (.type "dict_keyiterator") := (Looks.ld hit).andThen .now
  have l1 : Looks (mo w) h (typeLookup (.type "dict_keyiterator") "__next__") (some (.builtin "dict_keyiterator.__next__")) := Looks.of_pure F.slot_dict_keyiterator_next.lookup
  have b1 : Looks (mo w) h (bindSpecial (.builtin "dict_keyiterator.__next__") (.ref it)) (.builtin "dict_keyiterator.__next__", [.ref it]) := Looks.of_pure (F.slot_dict_keyiterator_next.bind _)
  unfold pyNext
  repeat (first | with_reducible refine wpAny_call ?_ | with_reducible refine wpAny_attempt ?_ | lk)
  have hT : (⟨h, g, d, t, os⟩ : Shared).TypeIs (.ref it) "dict_keyiterator" := ⟨_, hit, rfl⟩
  refine codeAny_call_builtin F.slot_dict_keyiterator_next.plain F.entry_dict_keyiterator_next (F.slot_dict_keyiterator_next.check _ _ _ _ _ _ _ _ hT (F.args_dict_keyiterator_next_1 _) ?_)
  unfold Builtin.«dict_keyiterator.__next__»
  have nm : Looks (mo w) h (typeNameOfWhole (.ref it)) "dict_keyiterator" := fun A Q E s k q => wpAny_typeNameOfWhole_keyiter ⟨_, k _ _ hit, rfl⟩ q
  refine wpAny_bind (wpAny_pure ?_)
  refine wpAny_bind ?_
  refine wpAny_bind ?_
  refine wpAny_bind (nm.at (wpAny_pure ?_))
  refine wpAny_bind (wpAny_fieldsOf hit rfl ?_)
  rw [show (if Builtin.Dict_items.ownsTuple "dict_keyiterator" = true then 2 else 0) = 0 from by decide +kernel]
  show wpAny _ _ (if (Value.ref bk == Value.none) = true then _ else _) _ _ _
  rw [if_neg (show ¬ ((Value.ref bk == Value.none) = true) from Bool.false_ne_true)]
  refine wpAny_bind (wpAny_pure ?_)
  refine wpAny_bind (wpAny_dictEntries hb rfl ?_)
  rw [if_neg (by simp)]
  refine wpAny_bind (wpAny_pure (wpAny_bind (wpAny_dictEpoch hb rfl ?_)))
  rw [if_neg (by simp)]
  refine wpAny_pure ?_
  have hi : i < es.size := by
    rcases Nat.lt_or_ge i es.size with q | q
    · exact q
    · rw [Array.getElem?_eq_none q] at he; cases he
  simp only [show ¬ ((i : Int) < 0) from by (first | lia | omega), if_false, Int.toNat_natCast, he]
  refine wpAny_bind ?_
  refine wpAny_bind (nm.at (wpAny_pure ?_))
  refine wpAny_bind (wpAny_isOneOf_keyiter hT ?_)
  show wpAny _ _ (setField (.ref it) 1 (rawInt ((i : Int) + 1)) >>= _) _ _ ⟨h, g, d, t, os⟩
  refine wpAny_bind (wpAny_setField_rec hit (by simp) fun h' h1 h2 => ?_)
  have e1 : h'.get? it = some (keyIt bk (i + 1) es.size ep) := by rw [h1]; simp [rawInt]
  refine wpAny_bind (wpAny_holding ?_)
  refine wpAny_bind (wpAny_isOneOf_keyiter (s := ⟨h', g, d, t, os⟩) ⟨_, e1, rfl⟩ ?_)
  show wpAny _ _ (pure e.key) _ _ _
  exact wpAny_pure (wpAny_pure (wpAny_pure (wpAny_pure (hQ h' h2 e1))))

set_option maxHeartbeats 1000000 in
theorem g_keyend {it bk dA : Addr} {fac : Value} {es : Array DictEntry} {ep : Nat} {Q : Option Value → Shared → Prop} (hh : A.handled = none) (hit : h.get? it = some (keyIt bk es.size es.size ep)) (hb : h.get? bk = some (bookO dA fac es ep))
    (hQ : ∀ h', Heap.ExtBut it h h' → Q none ⟨h', g, d, t, os⟩) : wpAny (mo w) A (pyNext (.ref it)) Q E ⟨h, g, d, t, os⟩ := by
  have ti : Looks (mo w) h (typeOf (.ref it)) (.type "dict_keyiterator") := (Looks.ld hit).andThen .now
  have l1 : Looks (mo w) h (typeLookup (.type "dict_keyiterator") "__next__") (some (.builtin "dict_keyiterator.__next__")) := Looks.of_pure F.slot_dict_keyiterator_next.lookup
  have b1 : Looks (mo w) h (bindSpecial (.builtin "dict_keyiterator.__next__") (.ref it)) (.builtin "dict_keyiterator.__next__", [.ref it]) := Looks.of_pure (F.slot_dict_keyiterator_next.bind _)
  unfold pyNext
  repeat (first | with_reducible refine wpAny_call ?_ | with_reducible refine wpAny_attempt ?_ | lk)
  have hT : (⟨h, g, d, t, os⟩ : Shared).TypeIs (.ref it) "dict_keyiterator" := ⟨_, hit, rfl⟩
  refine codeAny_call_builtin F.slot_dict_keyiterator_next.plain F.entry_dict_keyiterator_next (F.slot_dict_keyiterator_next.check _ _ _ _ _ _ _ _ hT (F.args_dict_keyiterator_next_1 _) ?_)
  unfold Builtin.«dict_keyiterator.__next__»
  have nm : Looks (mo w) h (typeNameOfWhole (.ref it)) "dict_keyiterator" := fun A Q E s k q => wpAny_typeNameOfWhole_keyiter ⟨_, k _ _ hit, rfl⟩ q
  refine wpAny_bind (wpAny_pure ?_)
  refine wpAny_bind ?_
  refine wpAny_bind ?_
  refine wpAny_bind (nm.at (wpAny_pure ?_))
  refine wpAny_bind (wpAny_fieldsOf hit rfl ?_)
  rw [show (if Builtin.Dict_items.ownsTuple "dict_keyiterator" = true then 2 else 0) = 0 from by decide +kernel]
  show wpAny _ _ (if (Value.ref bk == Value.none) = true then _ else _) _ _ _
  rw [if_neg (show ¬ ((Value.ref bk == Value.none) = true) from Bool.false_ne_true)]
  refine wpAny_bind (wpAny_pure ?_)
  refine wpAny_bind (wpAny_dictEntries hb rfl ?_)
  rw [if_neg (by simp)]
  refine wpAny_bind (wpAny_pure (wpAny_bind (wpAny_dictEpoch hb rfl ?_)))
  rw [if_neg (by simp)]
  refine wpAny_pure ?_
  simp only [show ¬ ((es.size : Int) < 0) from by (first | lia | omega), if_false, Int.toNat_natCast, Array.getElem?_eq_none (Nat.le_refl es.size)]
  refine wpAny_bind ?_
  refine wpAny_bind (nm.at (wpAny_pure ?_))
  show wpAny _ _ (setField (.ref it) 0 .none >>= _) _ _ ⟨h, g, d, t, os⟩
  refine wpAny_bind (wpAny_setField_rec hit (by simp) fun h' h1 h2 => ?_)
  show wpAny _ _ (newExc (.type "StopIteration") [] >>= _) _ _ _
  refine wpAny_bind ?_
  simp only [newExc, newTuple]
  refine wpAny_bind (wpAny_newObj_type ?_ (by size_fits))
  refine wpAny_bind (m := firstArgMember _ _) (wpAny_of_eq (a := Value.none) (by first | rfl | (simp only [firstArgMember]; rfl)) ?_)
  refine wpAny_newObj_type ?_ (by size_fits)
  simp only [raiseNew]
  refine wpAny_bind (wpAny_handled ?_)
  rw [show A.in1.handled = none from hh]
  refine wpAny_bind (wpAny_pure (wpAny_throw ?_))
  refine wpAny_bind (wpAny_isInstance (T := "StopIteration") (b := true) ⟨_, Heap.get?_push_size _ rfl, rfl⟩ isSubtype_stop ?_)
  exact wpAny_pure (hQ _ ((h2.extBut.push _).push _))
end
end Mine
namespace Mine

theorem slot_bk_iter : Slot "dict" "__iter__" "dict.__iter__" := F.slot_dict_iter
theorem dit_kind : builtinKind "dict.__iter__" = some .slot := by decide +kernel
theorem dit_split : splitId "dict.__iter__" = some ("dict", "__iter__") := by decide +kernel
section
variable {w : World} {A : Around} {E : Value → Shared → Prop} {env : Env} {s₀ : Shared} {L : Addr} {P : PM} {m : Str → Option Value} {M : List (Addr × Obj)} {s : Shared}
variable {h : Heap} {g : Array GenState} {d : Drawn} {t : Nat} {os : OsState}
set_option maxHeartbeats 1000000 in
theorem g_keyiter {bk dA : Addr} {fac : Value} {es : Array DictEntry} {ep : Nat} {Q : Value → Shared → Prop} (b : BookL w h bk dA fac es ep) (hbk : (bk == sysModules) = false)
    (hQ : Q (.ref h.objs.size) ⟨h.push (keyIt bk 0 es.size ep), g, d, t, os⟩) : wpAny (mo w) A (pyIter (.ref bk)) Q E ⟨h, g, d, t, os⟩ := by
  have tb := b.ty
  have ho := b.ho
  have l1 : Looks (mo w) h (typeLookup (.ref 101) "__iter__") (some (.builtin "dict.__iter__")) := looks_findIn b.X (by k_dflt rfl)
  have b1 : Looks (mo w) h (bindSpecial (.builtin "dict.__iter__") (.ref bk)) (.builtin "dict.__iter__", [.ref bk]) := Looks.of_pure (F.slot_dict_iter.bind _)
  have inst : Looks (mo w) h (isInstance (.ref bk) (.type "dict")) true := b.inst (by kernel_rfl)
  have od : Looks (mo w) h (isSubtype (.ref 101) (.type "collections.OrderedDict")) false := looks_mroIn b.X (by kernel_rfl)
  unfold pyIter
  repeat (first | with_reducible refine wpAny_call ?_ | with_reducible refine wpAny_attempt ?_ | lk)
  split
  all_goals
    repeat (first | with_reducible refine wpAny_call ?_ | with_reducible refine wpAny_attempt ?_ | with_reducible refine wpAny_tryCatch ?_ | lk)
  all_goals
    refine codeAny_call_builtin_at (Code.quiet_builtin _ (by decide +kernel)) F.entry_dict_iter ?_
    refine check_slot (i := "dict.__iter__") (owner := "dict") (n := "__iter__") (self := .ref bk) (rest := []) (kw := []) dit_kind dit_split inst (F.args_dict_iter_1 _) ?_
    unfold Builtin.«dict.__iter__»
    repeat (first | with_reducible refine wpAny_call ?_ | with_reducible refine wpAny_attempt ?_ | lk)
  all_goals
    rw [if_neg (by rw [hbk]; exact Bool.false_ne_true)]
    refine wpAny_pure ?_
    refine wpAny_bind (wpAny_dictEntries ho rfl ?_)
    refine wpAny_bind (wpAny_dictEpoch ho rfl ?_)
    refine wpAny_bind (wpAny_newObj_type (wpAny_pure ?_))
    have e1 : (h.push (keyIt bk 0 es.size ep)).get? h.objs.size = some (keyIt bk 0 es.size ep) := Heap.get?_push_size _ rfl
    have hT : (⟨h.push (keyIt bk 0 es.size ep), g, d, t, os⟩ : Shared).TypeIs (.ref h.objs.size) "dict_keyiterator" := ⟨_, e1, rfl⟩
    refine wpAny_pure ?_
    refine wpAny_bind (wpAny_specialOf hT F.slot_dict_keyiterator_next.lookup (wpAny_pure ?_))
    exact hQ
end
end Mine
namespace Mine

/-- what list(x) runs through -/
structure Run (w : World) (s₀ : Shared) (P : PM) (x : Value) (n : Nat) (V : PM → Nat → Value → Prop) (It : PM → Nat → Obj → Prop) : Prop where
  mono : ∀ {P' P'' i v}, P'.le P'' → V P' i v → V P'' i v
  start : ∀ {A : Around} {E : Value → Shared → Prop} {L m M s} {Q : Value → Shared → Prop}, A.handled = none → At s₀ P L m M s → (∀ o, o.isFreed = false → It P 0 o → Q (.ref s.heap.objs.size) { s with heap := s.heap.push o }) → wpAny (mo w) A (pyIter x) Q E s
  next : ∀ {A : Around} {E : Value → Shared → Prop} {P' L m M s I o i} {post : List (Addr × Obj)} {Q : Option Value → Shared → Prop}, A.handled = none → P.le P' → At s₀ P' L m M s → M = (I, o) :: post → It P' i o → i < n →
    (∀ v o' P'' s', P'.le P'' → V P'' i v → It P'' (i + 1) o' → At s₀ P'' L m ((I, o') :: post) s' → Q (some v) s') → wpAny (mo w) A (pyNext (.ref I)) Q E s
  stop : ∀ {A : Around} {E : Value → Shared → Prop} {P' L m M s I o} {post : List (Addr × Obj)} {Q : Option Value → Shared → Prop}, A.handled = none → P.le P' → At s₀ P' L m M s → M = (I, o) :: post → It P' n o →
    (∀ s', At s₀ P' L m post s' → Q none s') → wpAny (mo w) A (pyNext (.ref I)) Q E s
section
variable {w : World} {A : Around} {E : Value → Shared → Prop} {env : Env} {s₀ : Shared} {L : Addr} {P : PM} {m : Str → Option Value} {M : List (Addr × Obj)} {s : Shared}
theorem Run.keys {bk dA : Addr} {fac : Value} {es : Array DictEntry} {ep : Nat} (B : Base w P) (hb : P bk = some (bookO dA fac es ep)) (hbk : (bk == sysModules) = false) :
    Run w s₀ P (.ref bk) es.size (fun _ i v => ∃ e, es[i]? = some e ∧ v = e.key) (fun _ i o => o = keyIt bk i es.size ep) where
  mono _ h := h
  start := by
    intro A E L m M s Q hh S h
    have b := BookL.of (w := w) (S.inK B) (S.keep _ _ hb)
    obtain ⟨hp, g, d, t, os⟩ := s
    exact g_keyiter b hbk (h _ rfl rfl)
  next := by
    intro A E P' L m M s I o i post Q hh hle S hM hI hi h
    subst hI
    have hit := S.live (I, keyIt bk i es.size ep) (by rw [hM]; simp)
    have hb' := S.keep _ _ (hle _ _ hb)
    have X := S.inK (B.mono hle)
    have S0 := S
    obtain ⟨hp, g, d, t, os⟩ := s
    refine g_keynext X hit hb' (Array.getElem?_eq_getElem hi) fun h' hs h1 => ?_
    exact h _ _ P' _ (.refl _) ⟨_, Array.getElem?_eq_getElem hi, rfl⟩ rfl (S0.upd (pre := []) hM hs h1)
  stop := by
    intro A E P' L m M s I o post Q hh hle S hM hI h
    subst hI
    have hit := S.live (I, keyIt bk es.size es.size ep) (by rw [hM]; simp)
    have hb' := S.keep _ _ (hle _ _ hb)
    have S0 := S
    obtain ⟨hp, g, d, t, os⟩ := s
    exact g_keyend hh hit hb' fun h' he => h _ (S0.ext (pre := []) hM he)

theorem ext_loop {x : Value} {n : Nat} {V : PM → Nat → Value → Prop} {It : PM → Nat → Obj → Prop} {R : Result → Shared → Prop} {D I : Addr} (W : Run w s₀ P x n V It) (hh : A.handled = none) (hn : n ≤ 1000000)
    (fin : ∀ (P' : PM) (acc : List Value) (c : Nat) (s' : Shared), P.le P' → acc.length = n → (∀ i v, acc[i]? = some v → V P' i v) → At s₀ P' L m ((D, listOf acc.toArray c) :: M) s' → R (.ok (.ret .none)) s') :
    ∀ (r k : Nat) (P' : PM) (acc : List Value) (c : Nat) (o : Obj) (s : Shared), r + k = n → P.le P' → acc.length = k → (∀ i v, acc[i]? = some v → V P' i v) → It P' k o → At s₀ P' L m ((I, o) :: (D, listOf acc.toArray c) :: M) s →
      codeAny (mo w) A (.builtin "list.extend.loop" ⟨[.ref D, .ref I, .none], []⟩) R s
  | 0, k, P', acc, c, o, s, hk, hle, hl, hV, hI, S => by
    have hk' : k = n := by (first | lia | omega)
    subst hk'
    refine codeAny_builtin F.entry_extend_loop ?_
    rw [Around.under_plainId F.plain_extend_loop _]
    show wpAny _ A.in1 (pyNext (.ref I) >>= _) _ _ s
    refine wpAny_bind (W.stop hh hle S rfl hI fun s' S => ?_)
    exact wpAny_pure (fin P' acc c s' hle hl hV S)
  | r + 1, k, P', acc, c, o, s, hk, hle, hl, hV, hI, S => by
    refine codeAny_builtin F.entry_extend_loop ?_
    rw [Around.under_plainId F.plain_extend_loop _]
    show wpAny _ A.in1 (pyNext (.ref I) >>= _) _ _ s
    refine wpAny_bind (W.next hh hle S rfl hI (by (first | lia | omega)) fun v o' P'' s' l hv hI' S' => ?_)
    have hD : s'.heap.get? D = some (listOf acc.toArray c) := S'.live (D, listOf acc.toArray c) (by simp)
    show wpAny _ _ (Builtin.List.listUpdate (.ref D) (·.push v) >>= _) _ _ s'
    refine wpAny_bind (show wpAny _ _ (updateSeq D (·.push v)) _ _ s' from ?_)
    refine wpAny_updateSeq (hz := by simp [sizeLine_eq]; (first | lia | omega)) hD rfl ?_
    obtain ⟨c', ec⟩ : ∃ c', Obj.mapSeq (·.push v) (listOf acc.toArray c) = listOf (acc.toArray.push v) c' := ⟨_, rfl⟩
    have S2 := S'.upd (pre := [(I, o')]) (o' := listOf (acc.toArray.push v) c') rfl (Heap.SameBut.update _ _ (Obj.mapSeq (·.push v))) ((Heap.get?_update_self (Obj.mapSeq (·.push v)) hD rfl).trans (congrArg some ec))
    refine wpAny_pure ⟨plainId_quiet F.plain_extend_loop _, ?_⟩
    refine ext_loop W hh hn fin r (k + 1) P'' (acc ++ [v]) c' o' _ (by (first | lia | omega)) (hle.trans l) (by simp [hl]) (fun i u hu => ?_) hI' ?_
    · by_cases q : i < acc.length
      · rw [List.getElem?_append_left q] at hu
        exact W.mono l (hV i u hu)
      · have hi : i = k := by
          have := List.getElem?_eq_some_iff.mp hu
          obtain ⟨h1, _⟩ := this
          simp at h1; (first | lia | omega)
        subst hi
        rw [List.getElem?_append_right (by (first | lia | omega)), hl, Nat.sub_self] at hu
        cases hu
        exact hv
    · rw [show (acc ++ [v]).toArray = acc.toArray.push v by simp]
      exact S2
end
end Mine
namespace Mine

section
variable {w : World} {A : Around} {E : Value → Shared → Prop} {env : Env} {s₀ : Shared} {L : Addr} {P : PM} {m : Str → Option Value} {M : List (Addr × Obj)} {s : Shared}
/-- list(x) -/
theorem o_list {x : Value} {a : Addr} {T : Value} {n : Nat} {V : PM → Nat → Value → Prop} {It : PM → Nat → Obj → Prop} {Q : Value → Shared → Prop} (S : At s₀ P L m M s) (hx : x = .ref a) (W : Run w s₀ P x n V It) (hh : A.handled = none) (hn : n ≤ 1000000)
    (haM : a < s.heap.objs.size) (hT1 : (T == .type "list") = false) (hT2 : (T == .type "tuple") = false)
    (hty : ∀ (A : Around) (E : Value → Shared → Prop) (Q : Value → Shared → Prop) M' s', At s₀ P L m M' s' → Q T s' → wpAny (mo w) A (typeOf x) Q E s')
    (hint : ∀ (A : Around) (E : Value → Shared → Prop) (Q : Bool → Shared → Prop) M' s', At s₀ P L m M' s' → (∀ b s'', At s₀ P L m M' s'' → Q b s'') → wpAny (mo w) A (Builtin.List.listLengthHint x) Q E s')
    (hQ : ∀ (D : Addr) (P' : PM) (acc : List Value) (c : Nat) (s' : Shared), P.le P' → acc.length = n → (∀ i v, acc[i]? = some v → V P' i v) → At s₀ P' L m ((D, listOf acc.toArray c) :: M) s' → Q (.ref D) s') :
    wpAny (mo w) A (call (.type "list") [x]) Q E s := by
  have S1 := S.push (listOf #[] 0)
  have hSa : s.heap.objs.size ≠ a := fun q => Nat.lt_irrefl _ (q ▸ haM)
  refine callType_codes (Q₁ := fun obj s₁ => obj = .ref s.heap.objs.size ∧ s₁ = { s with heap := s.heap.push (listOf #[] 0) }) F.called_list (F.typeCall_list_1 _) F.entry_list_init
    (code_list_new _ ⟨rfl, rfl⟩) fun obj s₁ h₁ => ?_
  obtain ⟨rfl, rfl⟩ := h₁
  have hD : (s.heap.push (listOf #[] 0)).get? s.heap.objs.size = some (listOf #[] 0) := Heap.get?_push_size _ rfl
  refine ⟨⟨_, hD, rfl⟩, F.args_list_init_2 _ _, ?_⟩
  generalize s.heap.objs.size = D at S1 hD hSa ⊢
  generalize hs1 : ({ s with heap := s.heap.push (listOf #[] 0) } : Shared) = s1 at S1 ⊢
  have hD1 : s1.heap.get? D = some (listOf #[] 0) := by rw [← hs1]; exact hD
  show wpAny _ _ (do let old ← Builtin.List.listItems (.ref D); Builtin.List.listUpdate (.ref D) (fun _ => #[]); letGo old.toList.reverse; Builtin.List.listExtendWith (.ref D) x .none) _ _ s1
  refine wpAny_bind ?_
  unfold Builtin.List.listItems
  refine wpAny_bind (wpAny_seqItems hD1 rfl (wpAny_pure ?_))
  show wpAny _ _ (updateSeq D (fun _ => #[]) >>= fun _ => letGo (#[] : Array Value).toList.reverse >>= fun _ => Builtin.List.listExtendWith (.ref D) x .none) _ _ s1
  refine wpAny_bind (wpAny_updateSeq hD1 rfl ?_)
  obtain ⟨c1, ec1⟩ : ∃ c1, Obj.mapSeq (fun _ => (#[] : Array Value)) (listOf #[] 0) = listOf #[] c1 := ⟨_, rfl⟩
  have S2 := S1.upd (pre := []) (o' := listOf #[] c1) rfl (Heap.SameBut.update _ _ (Obj.mapSeq (fun _ => (#[] : Array Value)))) ((Heap.get?_update_self (Obj.mapSeq (fun _ => (#[] : Array Value))) hD1 rfl).trans (congrArg some ec1))
  refine wpAny_bind (wpAny_letGo ?_)
  generalize ({ s1 with heap := s1.heap.update D (Obj.mapSeq (fun _ => (#[] : Array Value))) } : Shared) = s2 at S2 ⊢
  unfold Builtin.List.listExtendWith
  refine wpAny_bind (hty _ _ _ _ _ S2 ?_)
  have h1 : Builtin.List.listSameRef (.ref D) x = false := by rw [hx]; simp [Builtin.List.listSameRef, hSa]
  simp only [h1, hT1, hT2, Bool.or_false, Bool.false_eq_true, if_false]
  refine wpAny_bind (W.start hh S2 fun o hf hI => ?_)
  have S3 := S2.push o hf
  generalize s2.heap.objs.size = I at S3 ⊢
  refine wpAny_bind (wpAny_holding (hint _ _ _ _ _ S3 fun room s3 S4 => ?_))
  have fin : ∀ (c : Nat) (s4 : Shared), At s₀ P L m ((I, o) :: (D, listOf #[] c) :: M) s4 → codeAny (mo w) A.in1 (.builtin "list.extend.loop" ⟨[.ref D, .ref I, .none], []⟩) (wants (fun r s₂ => r = .none ∧ Q (.ref D) s₂) E) s4 := fun c s4 S5 =>
    ext_loop (A := A.in1) (M := M) W hh hn (fun P' acc c s' l hl hV S' => ⟨rfl, hQ D P' acc c s' l hl hV S'⟩) n 0 P [] c o s4 (by (first | lia | omega)) (.refl _) rfl (fun i v h => by simp at h) hI S5
  split
  · refine wpAny_bind (wpAny_rule ?_)
    refine wpAny_bind ?_
    have hD3 : s3.heap.get? D = some (listOf #[] c1) := S4.live (D, listOf #[] c1) (by simp)
    show wpAny _ _ (updateSeq D (·.push .none) >>= fun _ => updateSeq D (·.pop)) _ _ s3
    obtain ⟨c2, ec2⟩ : ∃ c2, Obj.mapSeq (·.push Value.none) (listOf #[] c1) = listOf #[.none] c2 := ⟨_, rfl⟩
    obtain ⟨c3, ec3⟩ : ∃ c3, Obj.mapSeq (·.pop) (listOf #[.none] c2) = listOf #[] c3 := ⟨_, rfl⟩
    refine wpAny_bind (wpAny_updateSeq (hz := by simp [sizeLine_eq]) hD3 rfl ?_)
    have S5 := S4.upd (pre := [(I, o)]) (o' := listOf #[.none] c2) rfl (Heap.SameBut.update _ _ (Obj.mapSeq (·.push Value.none))) ((Heap.get?_update_self (Obj.mapSeq (·.push Value.none)) hD3 rfl).trans (congrArg some ec2))
    generalize ({ s3 with heap := s3.heap.update D (Obj.mapSeq (·.push Value.none)) } : Shared) = s5 at S5 ⊢
    have hD5 : s5.heap.get? D = some (listOf #[.none] c2) := S5.live (D, listOf #[.none] c2) (by simp)
    refine wpAny_updateSeq (hz := by simp [sizeLine_eq]) hD5 rfl ?_
    have S6 := S5.upd (pre := [(I, o)]) (o' := listOf #[] c3) rfl (Heap.SameBut.update _ _ (Obj.mapSeq (·.pop))) ((Heap.get?_update_self (Obj.mapSeq (·.pop)) hD5 rfl).trans (congrArg some ec3))
    exact wpAny_pure ⟨plainId_quiet F.plain_extend_loop _, fin c3 _ S6⟩
  · exact wpAny_pure ⟨plainId_quiet F.plain_extend_loop _, fin c1 _ S4⟩
end
end Mine
namespace Mine

section
variable {w : World} {A : Around} {E : Value → Shared → Prop} {env : Env} {s₀ : Shared} {L : Addr} {P : PM} {m : Str → Option Value} {M : List (Addr × Obj)} {s : Shared}
variable {h : Heap} {g : Array GenState} {d : Drawn} {t : Nat} {os : OsState}
set_option maxHeartbeats 1000000 in
theorem g_hint {bk dA : Addr} {fac : Value} {es : Array DictEntry} {ep : Nat} {Q : Bool → Shared → Prop} (b : BookL w h bk dA fac es ep) (hbk : (bk == sysModules) = false) (hsz : es.size ≤ 1000000)
    (hQ : ∀ r t', t ≤ t' → Q r ⟨h, g, d, t', os⟩) : wpAny (mo w) A (Builtin.List.listLengthHint (.ref bk)) Q E ⟨h, g, d, t, os⟩ := by
  have tb := b.ty
  have ho := b.ho
  have l1 : Looks (mo w) h (typeLookup (.ref 101) "__len__") (some (.builtin "dict.__len__")) := looks_findIn b.X (by k_dflt rfl)
  have inst : Looks (mo w) h (isInstance (.ref bk) (.type "dict")) true := b.inst (by kernel_rfl)
  unfold Builtin.List.listLengthHint
  have hlen : ∀ (A : Around) (E : Value → Shared → Prop) (Q' : Value → Shared → Prop), Q' (.int es.size (t + 1)) ⟨h, g, d, t + 1 + 1, os⟩ → wpAny (mo w) A (call (.builtin "len") [.ref bk]) Q' E ⟨h, g, d, t, os⟩ := fun A E Q' q => g_len b hbk hsz q
  have sp : Looks (mo w) h (specialOf (.ref bk) "__len__") (some (.builtin "dict.__len__")) := tb.andThen l1
  refine wpAny_bind (sp.at ?_)
  dsimp only
  rw [dlen_split]
  dsimp only
  repeat (first | (with_reducible refine hlen _ _ _ ?_) | with_reducible refine wpAny_attempt ?_ | lk)
  exact hQ _ _ (by (first | lia | omega))
/-- kept = list(book) + ['.'] -/
theorem law12 {st : Stmt} {rest : List Stmt} {f bk dA : Addr} {u : Tok} {es : Array DictEntry} {ep : Nat} {ks : List (Option Str)} {oB oP : Obj} {v₀ : Option Value} {m1 m2 : List (Addr × Obj)} {Q : Flow → Shared → Prop} (hst : (lawB w)[12]? = some st) (S : At s₀ P L m M s) (B : Base w P) (hh : A.handled = none)
    (hM : M = m1 ++ (L + 3, oP) :: m2) (hoP : oP.data = .cell v₀) (hB : (L + 4, oB) ∈ m1 ++ m2) (hoB : oB.data = .cell (some (.ref bk))) (hb : P bk = some (bookO dA (.ref f) es ep)) (hbs : (bk == sysModules) = false) (O : BkO w u es ks) (hsz : ks.length ≤ 1000000) (hus : u < s₀.toks)
    (hQ : ∀ P' kp kvs kn' oP' s', P.le P' → P' kp = some (listOf kvs kn') → PVs (sig u) kvs (ks ++ [some (("." : Str))]) → oP'.data = .cell (some (.ref kp)) → At s₀ P' L m (m1 ++ (L + 3, oP') :: m2) s' → wpAny (mo w) A (execs rest (envC w 132 L)) Q E s') :
    wpAny (mo w) A (execs (st :: rest) (envC w 132 L)) Q E s := by
  cases hst
  have hBM : (L + 4, oB) ∈ M := by
    rw [hM]
    rcases List.mem_append.mp hB with h | h
    · exact List.mem_append_left _ h
    · exact List.mem_append_right _ (.tail _ h)
  have hes := O.size
  refine x_assignC S (c := L + 3) ?_ (by k_dflt rfl) (by kernel_rfl) (by kernel_rfl)
  refine wpAny_BinOp ?_
  refine c_type S B (T := "list") ?_ (he := by k_dflt rfl) (hplain := by k_dflt rfl)
  refine spliced_more (r_cell S ?_ (by k_dflt rfl) hoB hBM (by kernel_rfl)) (by k_dflt rfl)
  refine spliced_none ?_
  refine o_list (T := .ref 101) S rfl (Run.keys B hb hbs) hh (by (first | lia | omega)) (S.ltP hb) (by decide) (by decide) (fun A E Q M' s' S' q => ?_) (fun A E Q M' s' S' q => ?_) fun D P1 acc c s1 l1 hl hV S1 => ?_
  · exact (BookL.of (w := w) (S'.inK B) (S'.keep _ _ hb)).ty.at q
  · have b := BookL.of (w := w) (S'.inK B) (S'.keep _ _ hb)
    have S0 := S'
    obtain ⟨hp, g, d, t, os⟩ := s'
    refine g_hint b hbs (by (first | lia | omega)) fun r t' ht => q r _ { S0 with tp := Nat.le_trans S0.tp ht }
  · have S2 := S1.freeze (pre := []) rfl
    have l2 : P1.le (PM.put P1 D (listOf acc.toArray c)) := PM.le_put (S1.out D (by simp))
    have eD := PM.put_self P1 D (listOf acc.toArray c)
    generalize PM.put P1 D (listOf acc.toArray c) = P2 at S2 l2 eD
    refine r_listv S2 (spliced_more ?_ (by k_dflt rfl))
    refine r_strT S2 fun tq s3 htq S3 => spliced_none ⟨by simp, _, _, _, S3, fun D3 P3 s4 l3 e3 hD3 S4 => ?_⟩
    refine o_catL S4 (S4.keep _ _ (l3 _ _ eD)) (S4.keep _ _ e3) (by simp; (first | lia | omega)) fun kp P4 s5 l4 e4 hD4 S5 => ?_
    subst hM
    refine ⟨P4, m, m1, m2, oP, v₀, S5, hoP, fun oP' s6 hoP' S6 => hQ P4 kp _ _ oP' s6 (l1.trans (l2.trans (l3.trans l4))) e4 ?_ hoP' S6⟩
    have hv : PVs (sig u) acc.toArray ks := ⟨by simp [hl, hes], fun k p hk => by
      obtain ⟨kv, t, q1, q2⟩ := O.get k p hk
      have hk' : k < acc.length := by
        have := (List.getElem?_eq_some_iff.mp hk).1
        (first | lia | omega)
      obtain ⟨e, q3, q4⟩ := hV k acc[k] (List.getElem?_eq_getElem hk')
      rw [q1] at q3
      cases q3
      exact ⟨kv, by simp [hk', q4], q2⟩⟩
    have := hv.push (v := .str "." tq) (p := some ".") ⟨tq, rfl, (show tq ≠ 0 ∧ tq ≠ u ∧ (Str.ofString "." ≠ Str.ofString "*") from ⟨fun q => Nat.not_lt_zero u (Nat.lt_of_lt_of_le hus (q ▸ htq)), fun q => Nat.lt_irrefl u (Nat.lt_of_lt_of_le hus (q ▸ htq)), by decide⟩)⟩
    simpa using this
end
end Mine
namespace Mine

noncomputable abbrev viewO (bk : Addr) : Obj := { cls := .type "dict_items", data := .fields #[.ref bk] }
theorem dits_split : splitId "dict.items" = some ("dict", "items") := by decide +kernel
theorem dits_kind : builtinKind "dict.items" = some .method := by decide +kernel
section
variable {w : World} {A : Around} {E : Value → Shared → Prop} {env : Env} {s₀ : Shared} {L : Addr} {P : PM} {m : Str → Option Value} {M : List (Addr × Obj)} {s : Shared}
variable {h : Heap} {g : Array GenState} {d : Drawn} {t : Nat} {os : OsState}
set_option maxHeartbeats 1000000 in
/-- book.items, to be called -/
theorem g_items {bk dA : Addr} {fac : Value} {es : Array DictEntry} {ep : Nat} {dO : Obj} {pl : Sem Bool} {Q : Value × List Value → Shared → Prop} (b : BookL w h bk dA fac es ep) (hd : h.get? dA = some dO) (hl : lookIn "items" dO = some none)
    (hQ : Q (.builtin "dict.items", [.ref bk]) ⟨h, g, d, t, os⟩) : wpAny (mo w) A (getMethod (.ref bk) "items" pl) Q E ⟨h, g, d, t, os⟩ := by
  have tb := b.ty
  have ho := b.ho
  have l1 : Looks (mo w) h (typeLookup (.ref 101) "__getattribute__") (some (.builtin "collections.defaultdict.__getattribute__")) := looks_findIn b.X (by k_dflt rfl)
  have l2 : Looks (mo w) h (typeLookup (.ref 101) "__getattr__") none := looks_findIn b.X (by k_dflt rfl)
  have l3 : Looks (mo w) h (typeLookup (.ref 101) "items") (some (.builtin "dict.items")) := looks_findIn b.X (by k_dflt rfl)
  have l4 : Looks (mo w) h (typeOf (.builtin "dict.items")) (.type "method_descriptor") := looks_typeIn b.X (by k_dflt rfl)
  have hns : Looks (mo w) h (nsGet dA "items") none := fun A Q E s k q => wpAny_bind (wpAny_loadPart (k _ _ hd) (by rw [nsLook_of hl]; exact wpAny_pure q))
  unfold getMethod
  repeat (first | with_reducible refine wpAny_call ?_ | with_reducible refine wpAny_attempt ?_ | lk)
  exact hQ
set_option maxHeartbeats 1000000 in
/-- dict.items of the book -/
theorem g_itemsview {bk dA : Addr} {fac : Value} {es : Array DictEntry} {ep : Nat} {Q : Value → Shared → Prop} (b : BookL w h bk dA fac es ep) (hbk : (bk == sysModules) = false)
    (hQ : Q (.ref h.objs.size) ⟨h.push (viewO bk), g, d, t, os⟩) : wpAny (mo w) A (call (.builtin "dict.items") [.ref bk]) Q E ⟨h, g, d, t, os⟩ := by
  have tb := b.ty
  have ho := b.ho
  have inst : Looks (mo w) h (isInstance (.ref bk) (.type "dict")) true := b.inst (by kernel_rfl)
  have od : Looks (mo w) h (isSubtype (.ref 101) (.type "collections.OrderedDict")) false := looks_mroIn b.X (by kernel_rfl)
  have hck : Looks (mo w) h (checkBuiltinCall "dict.items" ⟨[.ref bk], []⟩) () := fun A Q E s k q => by
    obtain ⟨h', g', d', t', os'⟩ := s
    have inst' := inst.keeps k
    simp only [checkBuiltinCall, dits_kind, dits_split]
    repeat (first | with_reducible refine wpAny_call ?_ | lk)
    exact q
  refine wpAny_call (codeAny_call_builtin_at (Code.quiet_builtin _ (by decide +kernel)) F.entry_dict_items (hck.at ?_))
  unfold Builtin.«dict.items»
  repeat (first | with_reducible refine wpAny_call ?_ | with_reducible refine wpAny_attempt ?_ | lk)
  rw [if_neg (by rw [hbk]; exact Bool.false_ne_true)]
  refine wpAny_pure ?_
  refine wpAny_bind (wpAny_newObj_type (wpAny_pure ?_))
  exact hQ
end
end Mine
namespace Mine

noncomputable abbrev itemIt (f0 f1 : Value) (bk : Addr) (i n ep : Nat) (k v : Value) : Obj := { cls := .type "dict_itemiterator", data := .fields #[f0, f1, .ref bk, .int i 0, .int n 0, .int ep 0, k, v] }
section
variable {w : World} {A : Around} {E : Value → Shared → Prop} {env : Env} {s₀ : Shared} {L : Addr} {P : PM} {m : Str → Option Value} {M : List (Addr × Obj)} {s : Shared}
variable {h : Heap} {g : Array GenState} {d : Drawn} {t : Nat} {os : OsState}
/-- iter of book.items() -/
theorem g_itemiter {v bk dA : Addr} {fac : Value} {es : Array DictEntry} {ep : Nat} {Q : Value → Shared → Prop} (hv : h.get? v = some (viewO bk)) (hb : h.get? bk = some (bookO dA fac es ep)) (hsz : es.size ≤ 1000000)
    (hQ : Q (.ref h.objs.size) ⟨h.push (itemIt .none (.bool false) bk 0 es.size ep .none .none), g, d, t, os⟩) : wpAny (mo w) A (pyIter (.ref v)) Q E ⟨h, g, d, t, os⟩ := by
  have hT : (⟨h, g, d, t, os⟩ : Shared).TypeIs (.ref v) "dict_items" := ⟨_, hv, rfl⟩
  refine wpAny_pyIter_slot hT F.slot_dict_items_iter (wpAny_call_entry F.slot_dict_items_iter hT F.entry_dict_items_iter ?_ (F.args_dict_items_iter_1 _))
  unfold Builtin.«dict_items.__iter__»
  refine wpAny_bind (wpAny_pure (wpAny_bind ?_))
  unfold Builtin.Dict_items.dictOf
  refine wpAny_bind (wpAny_field hv rfl (x := .ref bk) rfl (wpAny_pure (wpAny_bind ?_)))
  unfold Builtin.Dict_items.newIterator
  refine wpAny_bind (wpAny_dictEntries hb rfl (wpAny_bind (wpAny_dictEpoch hb rfl ?_)))
  simp only [show Builtin.Dict_items.ownsTuple "dict_itemiterator" = true by decide, if_true]
  refine wpAny_newObj_type (wpAny_pure ⟨_, rfl, "dict_itemiterator", _, ⟨_, Heap.get?_push_size _ rfl, rfl⟩, F.slot_dict_itemiterator_next.lookup, ?_⟩)
    (by simp only [sizeOk, Builtin.Dict_items.ownedTupleFields, List.size_toArray, List.length_append, List.length_cons, List.length_nil, sizeLine_eq]; (first | lia | omega))
  exact hQ
/-- length hint of book.items(): none is asked -/
theorem g_hintv {v bk : Addr} {Q : Bool → Shared → Prop} (hv : h.get? v = some (viewO bk))
    (hQ : Q false ⟨h, g, d, t, os⟩) : wpAny (mo w) A (Builtin.List.listLengthHint (.ref v)) Q E ⟨h, g, d, t, os⟩ := by
  have tv : Looks (mo w) h (typeOf (.ref v)) (.type "dict_items") := (Looks.ld hv).andThen .now
  have l1 : Looks (mo w) h (typeLookup (.type "dict_items") "__len__") (some (.builtin "dict_items.__len__")) := Looks.of_pure F.slot_dict_items_len.lookup
  have sp : Looks (mo w) h (specialOf (.ref v) "__len__") (some (.builtin "dict_items.__len__")) := tv.andThen l1
  have inst : Looks (mo w) h (isInstance (.ref v) (.type "dict_items")) true := tv.andThen (Looks.of_pure (by rw [isSubtype_type]; kernel_rfl))
  unfold Builtin.List.listLengthHint
  refine wpAny_bind (sp.at ?_)
  dsimp only
  rw [show splitId "dict_items.__len__" = some ("dict_items", "__len__") by decide +kernel]
  dsimp only
  repeat (first | with_reducible refine wpAny_attempt ?_ | lk)
  exact hQ
end
end Mine
namespace Mine

section
variable {w : World} {A : Around} {E : Value → Shared → Prop}
variable {h : Heap} {g : Array GenState} {d : Drawn} {t : Nat} {os : OsState}
/-- the pair handed out by the iterator, its own tuple free -/
theorem g_pair0 {it bk : Addr} {i n ep : Nat} {kk vv k v : Value} {Q : Value → Shared → Prop} (hit : h.get? it = some (itemIt .none (.bool false) bk i n ep kk vv))
    (hQ : ∀ h', Heap.SameBut it (h.push { cls := .type "tuple", data := .seq #[k, v] }) h' → h'.get? it = some (itemIt (rawInt h.objs.size) (.bool false) bk i n ep k v) → Q (.ref h.objs.size) ⟨h', g, d, t, os⟩) :
    wpAny (mo w) A (Builtin.Dict_items.pairFromOwner (.ref it) 6 k v) Q E ⟨h, g, d, t, os⟩ := by
  unfold Builtin.Dict_items.pairFromOwner
  refine wpAny_bind (wpAny_newTuple ?_)
  have e0 : (h.push { cls := .type "tuple", data := .seq #[k, v] }).get? it = some (itemIt .none (.bool false) bk i n ep kk vv) := Heap.get?_push_of_some _ hit
  show wpAny _ _ (Builtin.Dict_items.ownedTupleIsFree (.ref it) >>= _) _ _ ⟨h.push { cls := .type "tuple", data := .seq #[k, v] }, g, d, t, os⟩
  generalize h.push { cls := .type "tuple", data := .seq #[k, v] } = h0 at e0 hQ ⊢
  refine wpAny_bind ?_
  unfold Builtin.Dict_items.ownedTupleIsFree
  refine wpAny_bind (wpAny_field e0 rfl (x := .none) rfl (wpAny_pure ?_))
  simp only [if_true]
  refine wpAny_bind (wpAny_field e0 rfl (x := kk) rfl ?_)
  refine wpAny_bind (wpAny_field e0 rfl (x := vv) rfl ?_)
  refine wpAny_bind (wpAny_setField_rec e0 (by simp) fun h1 e1 s1 => ?_)
  refine wpAny_bind (wpAny_setField_rec e1 (by simp) fun h2 e2 s2 => ?_)
  refine wpAny_bind (wpAny_setField_rec e2 (by simp) fun h3 e3 s3 => ?_)
  refine wpAny_bind (wpAny_setField_rec e3 (by simp) fun h4 e4 s4 => ?_)
  refine wpAny_bind (wpAny_letGo (wpAny_pure (hQ h4 ?_ ?_)))
  · exact ((s1.trans s2).trans s3).trans s4
  · rw [e4]; simp [rawInt]
end
section
variable {w : World} {A : Around} {E : Value → Shared → Prop} {env : Env} {s₀ : Shared} {L : Addr} {P : PM} {m : Str → Option Value} {M : List (Addr × Obj)} {s : Shared}
variable {h : Heap} {g : Array GenState} {d : Drawn} {t : Nat} {os : OsState}
set_option maxHeartbeats 1000000 in
/-- next of book.items(), the first time -/
theorem g_itemnext0 {it bk dA : Addr} {fac kk vv : Value} {es : Array DictEntry} {ep i : Nat} {e : DictEntry} {Q : Option Value → Shared → Prop} (hit : h.get? it = some (itemIt .none (.bool false) bk i es.size ep kk vv)) (hb : h.get? bk = some (bookO dA fac es ep)) (he : es[i]? = some e)
    (hQ : ∀ h', (∀ b o, b ≠ it → h.get? b = some o → h'.get? b = some o) → h'.get? h.objs.size = some { cls := .type "tuple", data := .seq #[e.key, e.val] } → h'.get? it = some (itemIt (rawInt h.objs.size) (.bool false) bk (i + 1) es.size ep e.key e.val) → h'.objs.size = h.objs.size + 1 →
      Q (some (.ref h.objs.size)) ⟨h', g, d, t, os⟩) : wpAny (mo w) A (pyNext (.ref it)) Q E ⟨h, g, d, t, os⟩ := by
  have ti : Looks (mo w) h (typeOf (.ref it)) (.type "dict_itemiterator") := (Looks.ld hit).andThen .now
  have l1 : Looks (mo w) h (typeLookup (.type "dict_itemiterator") "__next__") (some (.builtin "dict_itemiterator.__next__")) := Looks.of_pure F.slot_dict_itemiterator_next.lookup
  have b1 : Looks (mo w) h (bindSpecial (.builtin "dict_itemiterator.__next__") (.ref it)) (.builtin "dict_itemiterator.__next__", [.ref it]) := Looks.of_pure (F.slot_dict_itemiterator_next.bind _)
  unfold pyNext
  repeat (first | with_reducible refine wpAny_call ?_ | with_reducible refine wpAny_attempt ?_ | lk)
  have hT : (⟨h, g, d, t, os⟩ : Shared).TypeIs (.ref it) "dict_itemiterator" := ⟨_, hit, rfl⟩
  refine codeAny_call_builtin F.slot_dict_itemiterator_next.plain F.entry_dict_itemiterator_next (F.slot_dict_itemiterator_next.check _ _ _ _ _ _ _ _ hT (F.args_dict_itemiterator_next_1 _) ?_)
  unfold Builtin.«dict_itemiterator.__next__»
  have nm : Looks (mo w) h (typeNameOfWhole (.ref it)) "dict_itemiterator" := fun A Q E s k q => wpAny_typeNameOfWhole_itemiter ⟨_, k _ _ hit, rfl⟩ q
  refine wpAny_bind (wpAny_pure ?_)
  refine wpAny_bind ?_
  refine wpAny_bind ?_
  refine wpAny_bind (nm.at (wpAny_pure ?_))
  refine wpAny_bind (wpAny_fieldsOf hit rfl ?_)
  rw [show (if Builtin.Dict_items.ownsTuple "dict_itemiterator" = true then 2 else 0) = 2 from by decide +kernel]
  show wpAny _ _ (if (Value.ref bk == Value.none) = true then _ else _) _ _ _
  rw [if_neg (show ¬ ((Value.ref bk == Value.none) = true) from Bool.false_ne_true)]
  refine wpAny_bind (wpAny_pure ?_)
  refine wpAny_bind (wpAny_dictEntries hb rfl ?_)
  rw [if_neg (by simp)]
  refine wpAny_bind (wpAny_pure (wpAny_bind (wpAny_dictEpoch hb rfl ?_)))
  rw [if_neg (by simp)]
  refine wpAny_pure ?_
  simp only [show ¬ ((i : Int) < 0) from by (first | lia | omega), if_false, Int.toNat_natCast, he]
  refine wpAny_bind ?_
  refine wpAny_bind (nm.at (wpAny_pure ?_))
  refine wpAny_bind (wpAny_isOneOf_itemiter hT ?_)
  show wpAny _ _ (setField (.ref it) 3 (rawInt ((i : Int) + 1)) >>= _) _ _ ⟨h, g, d, t, os⟩
  refine wpAny_bind (wpAny_setField_rec hit (by simp) fun h1 e1 s1 => ?_)
  have e1 : h1.get? it = some (itemIt .none (.bool false) bk (i + 1) es.size ep kk vv) := by rw [e1]; simp [rawInt]
  have hT1 : (⟨h1, g, d, t, os⟩ : Shared).TypeIs (.ref it) "dict_itemiterator" := ⟨_, e1, rfl⟩
  refine wpAny_bind (wpAny_holding ?_)
  refine wpAny_bind (wpAny_isOneOf_itemiter hT1 ?_)
  refine wpAny_bind (wpAny_isOneOf_itemiter hT1 ?_)
  show wpAny _ _ (Builtin.Dict_items.pairFromOwner (.ref it) 6 e.key e.val) _ _ ⟨h1, g, d, t, os⟩
  refine g_pair0 e1 fun h2 s2 e2 => ?_
  have hz : h1.objs.size = h.objs.size := s1.1
  rw [hz] at e2 ⊢
  have hil : it < h.objs.size := Heap.lt_size hit
  refine wpAny_pure (wpAny_pure (wpAny_pure (hQ h2 (fun b o hb q => ?_) ?_ e2 ?_)))
  · exact s2.extBut b o hb (Heap.get?_push_of_some _ (s1.extBut b o hb q))
  · exact s2.extBut _ _ (Nat.ne_of_gt hil) (by rw [← hz]; exact Heap.get?_push_size _ rfl)
  · rw [s2.1, Heap.size_push, hz]
end
end Mine
namespace Mine

section
variable {w : World} {A : Around} {E : Value → Shared → Prop}
variable {h : Heap} {g : Array GenState} {d : Drawn} {t : Nat} {os : OsState}
/-- the pair handed out by the iterator, its own tuple out -/
theorem g_pair1 {it bk a : Addr} {b : Bool} {oa : Obj} {i n ep : Nat} {kk vv k v : Value} {Q : Value → Shared → Prop} (hit : h.get? it = some (itemIt (rawInt a) (.bool b) bk i n ep kk vv)) (ha : h.get? a = some oa)
    (hQ : ∀ h', Heap.SameBut it (h.push { cls := .type "tuple", data := .seq #[k, v] }) h' → h'.get? it = some (itemIt (rawInt a) (.bool true) bk i n ep kk vv) → Q (.ref h.objs.size) ⟨h', g, d, t, os⟩) :
    wpAny (mo w) A (Builtin.Dict_items.pairFromOwner (.ref it) 6 k v) Q E ⟨h, g, d, t, os⟩ := by
  unfold Builtin.Dict_items.pairFromOwner
  refine wpAny_bind (wpAny_newTuple ?_)
  have e0 : (h.push { cls := .type "tuple", data := .seq #[k, v] }).get? it = some (itemIt (rawInt a) (.bool b) bk i n ep kk vv) := Heap.get?_push_of_some _ hit
  have ea : (h.push { cls := .type "tuple", data := .seq #[k, v] }).get? a = some oa := Heap.get?_push_of_some _ ha
  show wpAny _ _ (Builtin.Dict_items.ownedTupleIsFree (.ref it) >>= _) _ _ ⟨h.push { cls := .type "tuple", data := .seq #[k, v] }, g, d, t, os⟩
  generalize h.push { cls := .type "tuple", data := .seq #[k, v] } = h0 at e0 ea hQ ⊢
  refine wpAny_bind ?_
  unfold Builtin.Dict_items.ownedTupleIsFree
  refine wpAny_bind (wpAny_field e0 rfl (x := rawInt a) rfl ?_)
  refine wpAny_bind (kdx_alive (a := a) ea ?_)
  rw [if_neg (by simp)]
  refine wpAny_bind (wpAny_field e0 rfl (x := .bool b) rfl ?_)
  cases b with
  | false =>
    rw [if_pos (by decide)]
    refine wpAny_bind (wpAny_setField_rec e0 (by simp) fun h1 e1 s1 => wpAny_pure ?_)
    exact wpAny_pure (hQ h1 s1 (by rw [e1]; simp))
  | true =>
    rw [if_neg (by decide)]
    exact wpAny_pure (wpAny_pure (hQ h0 (Heap.SameBut.refl ..) e0))
set_option maxHeartbeats 1000000 in
/-- next of book.items(), later -/
theorem g_itemnext1 {it bk dA a : Addr} {f1 : Bool} {oa : Obj} {fac kk vv : Value} {es : Array DictEntry} {ep i : Nat} {e : DictEntry} {Q : Option Value → Shared → Prop} (hit : h.get? it = some (itemIt (rawInt a) (.bool f1) bk i es.size ep kk vv)) (ha : h.get? a = some oa) (hai : a ≠ it) (hb : h.get? bk = some (bookO dA fac es ep)) (he : es[i]? = some e)
    (hQ : ∀ h', (∀ b o, b ≠ it → h.get? b = some o → h'.get? b = some o) → h'.get? h.objs.size = some { cls := .type "tuple", data := .seq #[e.key, e.val] } → h'.get? it = some (itemIt (rawInt a) (.bool true) bk (i + 1) es.size ep kk vv) → h'.objs.size = h.objs.size + 1 →
      Q (some (.ref h.objs.size)) ⟨h', g, d, t, os⟩) : wpAny (mo w) A (pyNext (.ref it)) Q E ⟨h, g, d, t, os⟩ := by
  have ti : Looks (mo w) h (typeOf (.ref it)) (.type "dict_itemiterator") := (Looks.ld hit).andThen .now
  have l1 : Looks (mo w) h (typeLookup (.type "dict_itemiterator") "__next__") (some (.builtin "dict_itemiterator.__next__")) := Looks.of_pure F.slot_dict_itemiterator_next.lookup
  have b1 : Looks (mo w) h (bindSpecial (.builtin "dict_itemiterator.__next__") (.ref it)) (.builtin "dict_itemiterator.__next__", [.ref it]) := Looks.of_pure (F.slot_dict_itemiterator_next.bind _)
  unfold pyNext
  repeat (first | with_reducible refine wpAny_call ?_ | with_reducible refine wpAny_attempt ?_ | lk)
  have hT : (⟨h, g, d, t, os⟩ : Shared).TypeIs (.ref it) "dict_itemiterator" := ⟨_, hit, rfl⟩
  refine codeAny_call_builtin F.slot_dict_itemiterator_next.plain F.entry_dict_itemiterator_next (F.slot_dict_itemiterator_next.check _ _ _ _ _ _ _ _ hT (F.args_dict_itemiterator_next_1 _) ?_)
  unfold Builtin.«dict_itemiterator.__next__»
  have nm : Looks (mo w) h (typeNameOfWhole (.ref it)) "dict_itemiterator" := fun A Q E s k q => wpAny_typeNameOfWhole_itemiter ⟨_, k _ _ hit, rfl⟩ q
  refine wpAny_bind (wpAny_pure ?_)
  refine wpAny_bind ?_
  refine wpAny_bind ?_
  refine wpAny_bind (nm.at (wpAny_pure ?_))
  refine wpAny_bind (wpAny_fieldsOf hit rfl ?_)
  rw [show (if Builtin.Dict_items.ownsTuple "dict_itemiterator" = true then 2 else 0) = 2 from by decide +kernel]
  show wpAny _ _ (if (Value.ref bk == Value.none) = true then _ else _) _ _ _
  rw [if_neg (show ¬ ((Value.ref bk == Value.none) = true) from Bool.false_ne_true)]
  refine wpAny_bind (wpAny_pure ?_)
  refine wpAny_bind (wpAny_dictEntries hb rfl ?_)
  rw [if_neg (by simp)]
  refine wpAny_bind (wpAny_pure (wpAny_bind (wpAny_dictEpoch hb rfl ?_)))
  rw [if_neg (by simp)]
  refine wpAny_pure ?_
  simp only [show ¬ ((i : Int) < 0) from by (first | lia | omega), if_false, Int.toNat_natCast, he]
  refine wpAny_bind ?_
  refine wpAny_bind (nm.at (wpAny_pure ?_))
  refine wpAny_bind (wpAny_isOneOf_itemiter hT ?_)
  show wpAny _ _ (setField (.ref it) 3 (rawInt ((i : Int) + 1)) >>= _) _ _ ⟨h, g, d, t, os⟩
  refine wpAny_bind (wpAny_setField_rec hit (by simp) fun h1 e1 s1 => ?_)
  have e1 : h1.get? it = some (itemIt (rawInt a) (.bool f1) bk (i + 1) es.size ep kk vv) := by rw [e1]; simp [rawInt]
  have hT1 : (⟨h1, g, d, t, os⟩ : Shared).TypeIs (.ref it) "dict_itemiterator" := ⟨_, e1, rfl⟩
  refine wpAny_bind (wpAny_holding ?_)
  refine wpAny_bind (wpAny_isOneOf_itemiter hT1 ?_)
  refine wpAny_bind (wpAny_isOneOf_itemiter hT1 ?_)
  show wpAny _ _ (Builtin.Dict_items.pairFromOwner (.ref it) 6 e.key e.val) _ _ ⟨h1, g, d, t, os⟩
  refine g_pair1 e1 (s1.extBut _ _ hai ha) fun h2 s2 e2 => ?_
  have hz : h1.objs.size = h.objs.size := s1.1
  rw [hz]
  have hil : it < h.objs.size := Heap.lt_size hit
  refine wpAny_pure (wpAny_pure (wpAny_pure (hQ h2 (fun b o hb q => ?_) ?_ e2 ?_)))
  · exact s2.extBut b o hb (Heap.get?_push_of_some _ (s1.extBut b o hb q))
  · exact s2.extBut _ _ (Nat.ne_of_gt hil) (by rw [← hz]; exact Heap.get?_push_size _ rfl)
  · rw [s2.1, Heap.size_push, hz]
end
end Mine
namespace Mine

section
variable {w : World} {A : Around} {E : Value → Shared → Prop}
variable {h : Heap} {g : Array GenState} {d : Drawn} {t : Nat} {os : OsState}
set_option maxHeartbeats 1000000 in
theorem g_itemend {it bk dA : Addr} {f0 f1 kk vv : Value} {fac : Value} {es : Array DictEntry} {ep : Nat} {Q : Option Value → Shared → Prop} (hh : A.handled = none) (hit : h.get? it = some (itemIt f0 f1 bk es.size es.size ep kk vv)) (hb : h.get? bk = some (bookO dA fac es ep))
    (hQ : ∀ h', Heap.ExtBut it h h' → Q none ⟨h', g, d, t, os⟩) : wpAny (mo w) A (pyNext (.ref it)) Q E ⟨h, g, d, t, os⟩ := by
  have ti : Looks (mo w) h (typeOf (.ref it)) (.type "dict_itemiterator") := (Looks.ld hit).andThen .now
  have l1 : Looks (mo w) h (typeLookup (.type "dict_itemiterator") "__next__") (some (.builtin "dict_itemiterator.__next__")) := Looks.of_pure F.slot_dict_itemiterator_next.lookup
  have b1 : Looks (mo w) h (bindSpecial (.builtin "dict_itemiterator.__next__") (.ref it)) (.builtin "dict_itemiterator.__next__", [.ref it]) := Looks.of_pure (F.slot_dict_itemiterator_next.bind _)
  unfold pyNext
  repeat (first | with_reducible refine wpAny_call ?_ | with_reducible refine wpAny_attempt ?_ | lk)
  have hT : (⟨h, g, d, t, os⟩ : Shared).TypeIs (.ref it) "dict_itemiterator" := ⟨_, hit, rfl⟩
  refine codeAny_call_builtin F.slot_dict_itemiterator_next.plain F.entry_dict_itemiterator_next (F.slot_dict_itemiterator_next.check _ _ _ _ _ _ _ _ hT (F.args_dict_itemiterator_next_1 _) ?_)
  unfold Builtin.«dict_itemiterator.__next__»
  have nm : Looks (mo w) h (typeNameOfWhole (.ref it)) "dict_itemiterator" := fun A Q E s k q => wpAny_typeNameOfWhole_itemiter ⟨_, k _ _ hit, rfl⟩ q
  refine wpAny_bind (wpAny_pure ?_)
  refine wpAny_bind ?_
  refine wpAny_bind ?_
  refine wpAny_bind (nm.at (wpAny_pure ?_))
  refine wpAny_bind (wpAny_fieldsOf hit rfl ?_)
  rw [show (if Builtin.Dict_items.ownsTuple "dict_itemiterator" = true then 2 else 0) = 2 from by decide +kernel]
  show wpAny _ _ (if (Value.ref bk == Value.none) = true then _ else _) _ _ _
  rw [if_neg (show ¬ ((Value.ref bk == Value.none) = true) from Bool.false_ne_true)]
  refine wpAny_bind (wpAny_pure ?_)
  refine wpAny_bind (wpAny_dictEntries hb rfl ?_)
  rw [if_neg (by simp)]
  refine wpAny_bind (wpAny_pure (wpAny_bind (wpAny_dictEpoch hb rfl ?_)))
  rw [if_neg (by simp)]
  refine wpAny_pure ?_
  simp only [show ¬ ((es.size : Int) < 0) from by (first | lia | omega), if_false, Int.toNat_natCast, Array.getElem?_eq_none (Nat.le_refl es.size)]
  refine wpAny_bind ?_
  refine wpAny_bind (nm.at (wpAny_pure ?_))
  show wpAny _ _ (setField (.ref it) 2 .none >>= _) _ _ ⟨h, g, d, t, os⟩
  refine wpAny_bind (wpAny_setField_rec hit (by simp) fun h' h1 h2 => ?_)
  show wpAny _ _ (newExc (.type "StopIteration") [] >>= _) _ _ _
  refine wpAny_bind ?_
  simp only [newExc, newTuple]
  refine wpAny_bind (wpAny_newObj_type ?_ (by size_fits))
  refine wpAny_bind (m := firstArgMember _ _) (wpAny_of_eq (a := Value.none) (by first | rfl | (simp only [firstArgMember]; rfl)) ?_)
  refine wpAny_newObj_type ?_ (by size_fits)
  simp only [raiseNew]
  refine wpAny_bind (wpAny_handled ?_)
  rw [show A.in1.handled = none from hh]
  refine wpAny_bind (wpAny_pure (wpAny_throw ?_))
  refine wpAny_bind (wpAny_isInstance (T := "StopIteration") (b := true) ⟨_, Heap.get?_push_size _ rfl, rfl⟩ isSubtype_stop ?_)
  exact wpAny_pure (hQ _ ((h2.extBut.push _).push _))
end
end Mine
namespace Mine

noncomputable abbrev tupO (x y : Value) : Obj := { cls := .type "tuple", data := .seq #[x, y] }
section
variable {w : World} {s₀ s : Shared} {P : PM} {L : Addr} {m : Str → Option Value} {M : List (Addr × Obj)}
theorem At.itemStep (S : At s₀ P L m M s) {I : Addr} {o o' ot : Obj} {post : List (Addr × Obj)} {h' : Heap} (hM : M = (I, o) :: post) (hk : ∀ b ob, b ≠ I → s.heap.get? b = some ob → h'.get? b = some ob) (ht : h'.get? s.heap.objs.size = some ot) (hI : h'.get? I = some o') :
    At s₀ (P.put s.heap.objs.size ot) L m ((I, o') :: post) { s with heap := h' } ∧ P.le (P.put s.heap.objs.size ot) := by
  have S1 := S.exts (pre := []) hM hk hI
  exact S1.take ht (fun q => Nat.lt_irrefl _ (S.lt (by rw [hM]; simpa using q))) (fun q => Nat.lt_irrefl _ (S.ltT q))
theorem Run.items {v bk dA : Addr} {fac : Value} {es : Array DictEntry} {ep : Nat} (hv : P v = some (viewO bk)) (hb : P bk = some (bookO dA fac es ep)) (hsz : es.size ≤ 1000000) :
    Run w s₀ P (.ref v) es.size (fun P i u => ∃ e a, es[i]? = some e ∧ u = .ref a ∧ P a = some (tupO e.key e.val)) (fun P i o => (∃ kk vv, o = itemIt .none (.bool false) bk i es.size ep kk vv) ∨ ∃ a f1 kk vv oa, o = itemIt (rawInt (a : Nat)) (.bool f1) bk i es.size ep kk vv ∧ P a = some oa) where
  mono := fun l ⟨e, a, h1, h2, h3⟩ => ⟨e, a, h1, h2, l _ _ h3⟩
  start := by
    intro A E L m M s Q hh S h
    have h1 := S.keep _ _ hv
    have h2 := S.keep _ _ hb
    obtain ⟨hp, g, d, t, os⟩ := s
    exact g_itemiter h1 h2 hsz (h _ rfl (.inl ⟨_, _, rfl⟩))
  next := by
    intro A E P' L m M s I o i post Q hh hle S hM hI hi h
    have hb' := S.keep _ _ (hle _ _ hb)
    have he := Array.getElem?_eq_getElem hi
    have S0 := S
    rcases hI with ⟨kk, vv, rfl⟩ | ⟨a, f1, kk, vv, oa, rfl, ha⟩
    · have hit := S.live (I, itemIt .none (.bool false) bk i es.size ep kk vv) (by rw [hM]; simp)
      obtain ⟨hp, g, d, t, os⟩ := s
      refine g_itemnext0 hit hb' he fun h' hk ht hi' hz => ?_
      obtain ⟨S1, l⟩ := S0.itemStep hM hk ht hi'
      exact h _ _ _ _ l ⟨_, _, he, rfl, PM.put_self ..⟩ (.inr ⟨_, _, _, _, _, rfl, PM.put_self ..⟩) S1
    · have hit := S.live (I, itemIt (rawInt (a : Nat)) (.bool f1) bk i es.size ep kk vv) (by rw [hM]; simp)
      have ha' := S.keep _ _ ha
      have hai : a ≠ I := fun q => by
        have := S.out I (by rw [hM]; simp)
        rw [← q, ha] at this; cases this
      obtain ⟨hp, g, d, t, os⟩ := s
      refine g_itemnext1 hit ha' hai hb' he fun h' hk ht hi' hz => ?_
      obtain ⟨S1, l⟩ := S0.itemStep hM hk ht hi'
      exact h _ _ _ _ l ⟨_, _, he, rfl, PM.put_self ..⟩ (.inr ⟨_, _, _, _, _, rfl, l _ _ ha⟩) S1
  stop := by
    intro A E P' L m M s I o post Q hh hle S hM hI h
    have hb' := S.keep _ _ (hle _ _ hb)
    have S0 := S
    rcases hI with ⟨kk, vv, rfl⟩ | ⟨a, f1, kk, vv, oa, rfl, ha⟩
    · have hit := S.live (I, itemIt .none (.bool false) bk es.size es.size ep kk vv) (by rw [hM]; simp)
      obtain ⟨hp, g, d, t, os⟩ := s
      exact g_itemend hh hit hb' fun h' he => h _ (S0.ext (pre := []) hM he)
    · have hit := S.live (I, itemIt (rawInt (a : Nat)) (.bool f1) bk es.size es.size ep kk vv) (by rw [hM]; simp)
      obtain ⟨hp, g, d, t, os⟩ := s
      exact g_itemend hh hit hb' fun h' he => h _ (S0.ext (pre := []) hM he)
end
end Mine
namespace Mine

section
variable {w : World} {A : Around} {E : Value → Shared → Prop} {env : Env} {s₀ : Shared} {L : Addr} {P : PM} {m : Str → Option Value} {M : List (Addr × Obj)} {s : Shared}
/-- book.items() -/
theorem r_items {p1 p2 p3 : Pos} {cB bk dA : Addr} {fac : Value} {es : Array DictEntry} {ep : Nat} {oB dO : Obj} {Q : Value → Shared → Prop} (S : At s₀ P L m M s) (B : Base w P) (hb : P bk = some (bookO dA fac es ep)) (hbs : (bk == sysModules) = false)
    (hdA : (dA, dO) ∈ M) (hl : lookIn "items" dO = some none) (hcB : (cB, oB) ∈ M) (hoB : oB.data = .cell (some (.ref bk))) (hc : env.cells.lookup ("book" : Str) = some cB)
    (hQ : ∀ v P' s', P.le P' → P' v = some (viewO bk) → At s₀ P' L m M s' → Q (.ref v) s')
    (hk : env.scope.kind = .function := by kernel_rfl) (hx : env.kindOf "book" = some .cell := by kernel_rfl) (hline : (p2.endLine == p3.line) = true := by kernel_rfl) :
    wpAny (mo w) A (eval (.Call (.Attribute (.Name "book" p1) "items" p2) [] [] p3) env) Q E s := by
  rw [arm_eval_Call]
  refine wpAny_bind (m := attributeBase _ _ _ _) (show wpAny _ _ (eval (.Name "book" p1) env) _ _ _ from ?_)
  refine r_cell0 S ?_ hc hoB hcB hk hx (by kernel_rfl)
  refine wpAny_bind (wpAny_standAt ?_)
  unfold methodCall
  refine wpAny_bind (wpAny_holding ?_)
  show wpAny _ _ (getMethod (.ref bk) "items" _) _ _ _
  have X1 := S.inK B
  have ho1 := S.keep _ _ hb
  have hd1 := S.live (dA, dO) hdA
  have S2 := S
  obtain ⟨h, g, d, t, os⟩ := s
  refine g_items (BookL.of X1 ho1) hd1 hl ?_
  show wpAny _ _ (methodCallPos true _ _ p2 p3 >>= _) _ _ _
  unfold methodCallPos
  rw [if_pos (by rw [hline]; rfl)]
  refine wpAny_bind (wpAny_pure ?_)
  show wpAny _ _ (callWith p3 (.builtin "dict.items") [.ref bk] [] []) _ _ _
  refine callWith_builtin rfl (evalArgs_nil3 ?_)
  refine g_itemsview (BookL.of X1 ho1) hbs ?_
  obtain ⟨hn, T⟩ := S2.pushP (viewO bk)
  exact hQ _ _ _ (PM.le_put hn) (PM.put_self ..) T
end
end Mine
namespace Mine

noncomputable abbrev pairT (p : Str × Int) : PyData := .tuple [.str p.1, .int p.2]
/-- values that are tuples of a text and a number -/
inductive Tups (P : PM) : List Value → List (Str × Int) → Prop
  | nil : Tups P [] []
  | cons {a : Addr} {x : Str} {i : Int} {t u : Tok} {vs : List Value} {ps : List (Str × Int)} : P a = some (tupO (.str x t) (.int i u)) → Tups P vs ps → Tups P (.ref a :: vs) ((x, i) :: ps)
theorem Tups.mono {P P' : PM} (l : P.le P') : ∀ {vs ps}, Tups P vs ps → Tups P' vs ps
  | _, _, .nil => .nil
  | _, _, .cons e r => .cons (l _ _ e) (r.mono l)
theorem Tups.append {P : PM} : ∀ {vs ps ws qs}, Tups P vs ps → Tups P ws qs → Tups P (vs ++ ws) (ps ++ qs)
  | _, _, _, _, .nil, r => r
  | _, _, _, _, .cons e r, r' => .cons e (r.append r')
theorem Tups.reads {P : PM} {h : Heap} (k : ∀ a o, P a = some o → h.get? a = some o) : ∀ {vs ps}, Tups P vs ps → ∃ as, ReadsAll h vs (ps.map pairT) as
  | _, _, .nil => ⟨_, .nil⟩
  | _, _, .cons e r => by
    obtain ⟨as, q⟩ := r.reads k
    exact ⟨_, .cons (.tuple (k _ _ e) rfl rfl (.cons (.str _ _) (.cons (.int _ _) .nil))) q⟩
end Mine
namespace Mine


/-- the texts with their numbers -/
noncomputable def kpsTo (kn : List Str) (k : Nat) : List (Str × Int) := (List.range k).map fun i => (kn.getD i "", (i : Int))
theorem kpsTo_succ (kn : List Str) (k : Nat) : kpsTo kn (k + 1) = kpsTo kn k ++ [(kn.getD k "", (k : Int))] := by
  unfold kpsTo; rw [List.range_succ, List.map_append]; rfl
theorem getD_of {kn : List Str} {k : Nat} (h : k < kn.length) : kn.getD k "" = kn[k] := by
  rw [List.getD_eq_getElem?_getD, List.getElem?_eq_getElem h]; rfl
theorem kpsTo_ok {kn : List Str} (h : ∀ y ∈ kn, PyData.strOk y = true) {p : Str × Int} (hp : p ∈ kpsTo kn kn.length) : PyData.strOk p.1 = true := by
  unfold kpsTo at hp
  obtain ⟨i, hi, rfl⟩ := List.mem_map.mp hp
  have hi' := List.mem_range.mp hi
  show PyData.strOk (kn.getD i "") = true
  rw [getD_of hi']
  exact h _ (List.getElem_mem hi')
theorem Tups.of_idx {P : PM} : ∀ {acc : List Value} {ps : List (Str × Int)}, acc.length = ps.length → (∀ (i : Nat) (v : Value) (p : Str × Int), acc[i]? = some v → ps[i]? = some p → ∃ (a : Addr) (t u : Tok), v = .ref a ∧ P a = some (tupO (.str p.1 t) (.int p.2 u))) → Tups P acc ps
  | [], [], _, _ => .nil
  | [], _ :: _, h, _ => by simp at h
  | _ :: _, [], h, _ => by simp at h
  | v :: vs, (x, i) :: ps, h, k => by
    obtain ⟨a, t, u, rfl, e⟩ := k 0 v (x, i) rfl rfl
    exact .cons e (Tups.of_idx (by simpa using h) fun j v p h1 h2 => k (j + 1) v p h1 h2)
theorem lay_pairs : ∀ {ps : List (Str × Int)}, (∀ p ∈ ps, PyData.strOk p.1 = true) → PyData.canLayAll0 (ps.map pairT) = true
  | [], _ => rfl
  | x :: r, h => by
    show (PyData.canLay0 (pairT x) && PyData.canLayAll0 (r.map pairT)) = true
    rw [lay_pairs fun y hy => h y (.tail _ hy), Bool.and_true]
    show (PyData.canLay0 (.str x.1) && (PyData.canLay0 (.int x.2) && true)) = true
    rw [lay_str (h x (.head _))]; rfl
theorem depth_pairs : ∀ (ps : List (Str × Int)), PyData.depthAll (ps.map pairT) ≤ 1
  | [] => Nat.zero_le _
  | x :: r => by
    show max (PyData.depth (pairT x)) (PyData.depthAll _) ≤ 1
    exact Nat.max_le.mpr ⟨Nat.le_refl _, depth_pairs r⟩
theorem eqv_pairs : ∀ (ps : List (Str × Int)), PyData.eqvAll (ps.map pairT) (ps.map pairT) = true
  | [] => rfl
  | x :: r => by
    show (PyData.eqv (pairT x) (pairT x) && PyData.eqvAll _ _) = true
    rw [eqv_pairs r, Bool.and_true]
    show ((x.1 == x.1) && ((x.2 == x.2) && true)) = true
    simp
section
variable {w : World} {A : Around} {E : Value → Shared → Prop} {env : Env} {s₀ : Shared} {L : Addr} {P : PM} {m : Str → Option Value} {M : List (Addr × Obj)} {s : Shared}
/-- if list(book.items()) != [(known[k], k) for k in range(len(known))]: return False -/
theorem law10 {st : Stmt} {rest : List Stmt} {vK : Value} {kn : List Str} {ks : List (Option Str)} {oK oB dO : Obj} {f bk dA : Addr} {u : Tok} {es : Array DictEntry} {ep : Nat} {Q : Flow → Shared → Prop} (hst : (lawB w)[10]? = some st) (S : At s₀ P L m M s) (B : Base w P) (hh : A.handled = none) (hu : A.units + 4 < cLine)
    (hK : (L + 2, oK) ∈ M) (hoK : oK.data = .cell (some vK)) (rK : Rd P vK (strsD kn)) (hkn : ∀ y ∈ kn, PyData.strOk y = true) (hkl : kn.length ≤ 1000000)
    (hB : (L + 4, oB) ∈ M) (hoB : oB.data = .cell (some (.ref bk))) (hb : P bk = some (bookO dA (.ref f) es ep)) (hbs : (bk == sysModules) = false) (hdA : (dA, dO) ∈ M) (hl : lookIn "items" dO = some none)
    (O : BkO w u es ks) (hks : ks.map txt = kn)
    (hQ : ∀ P' s', P.le P' → At s₀ P' L m M s' → wpAny (mo w) A (execs rest (envC w 132 L)) Q E s') :
    wpAny (mo w) A (execs (st :: rest) (envC w 132 L)) Q E s := by
  cases hst
  obtain ⟨aK, vk, nk, rfl, eK, rk⟩ := rK.list_inv
  have hsk := rk.size
  rw [List.length_map] at hsk
  have hes := O.size
  have hkl2 : ks.length = kn.length := by rw [← hks, List.length_map]
  refine x_if (wpAny_isTrue_Compare1 ?_)
  refine c_type S B (T := "list") ?_ (he := by k_dflt rfl) (hplain := by k_dflt rfl)
  refine spliced_more (r_items S B hb hbs hdA hl hB hoB (by k_dflt rfl) (fun v P1 s1 l1 hv S1 => ?_) (by kernel_rfl) (by kernel_rfl) (by kernel_rfl)) (by k_dflt rfl)
  refine spliced_none ?_
  refine o_list (T := .type "dict_items") S1 rfl (Run.items hv (l1 _ _ hb) (by (first | lia | omega))) hh (by (first | lia | omega)) (S1.ltP hv) (by decide) (by decide) (fun A E Q M' s' S' q => ?_) (fun A E Q M' s' S' q => ?_) fun D P2 acc c s2 l2 hal hV S2 => ?_
  · have h1 := S'.keep _ _ hv
    have tv : Looks (mo w) s'.heap (typeOf (.ref v)) (.type "dict_items") := (Looks.ld h1).andThen .now
    exact tv.at q
  · have h1 := S'.keep _ _ hv
    have S0 := S'
    obtain ⟨hp, g, d, t, os⟩ := s'
    exact g_hintv h1 (q _ _ S0)
  · have S3 := S2.freeze (pre := []) rfl
    have l3 : P2.le (PM.put P2 D (listOf acc.toArray c)) := PM.le_put (S2.out D (by simp))
    have eD := PM.put_self P2 D (listOf acc.toArray c)
    have hT : Tups (PM.put P2 D (listOf acc.toArray c)) acc (kpsTo kn kn.length) := by
      refine Tups.of_idx (by rw [hal, hes, hkl2]; simp [kpsTo]) fun i v p h1 h2 => ?_
      obtain ⟨e, a, q1, rfl, q3⟩ := hV i v h1
      have hi : i < ks.length := by
        have := (List.getElem?_eq_some_iff.mp h1).1
        (first | lia | omega)
      obtain ⟨kv, t, q4, q5⟩ := O.get i ks[i] (List.getElem?_eq_getElem hi)
      rw [q4] at q1
      cases q1
      obtain ⟨⟨t', rfl⟩, _⟩ := q5.str
      have hi' : i < kn.length := by (first | lia | omega)
      have e1 : kn[i] = txt ks[i] := by
        have : kn[i]? = some (txt ks[i]) := by rw [← hks, List.getElem?_map, List.getElem?_eq_getElem hi]; rfl
        rw [List.getElem?_eq_getElem hi'] at this
        exact Option.some.inj this
      have e2 : p = (kn.getD i "", (i : Int)) := by
        unfold kpsTo at h2
        rw [List.getElem?_map, List.getElem?_range hi'] at h2
        exact (Option.some.inj h2).symm
      rw [e2, getD_of hi', e1]
      exact ⟨a, t', t, rfl, l3 _ _ q3⟩
    generalize PM.put P2 D (listOf acc.toArray c) = P3 at S3 l3 eD hT
    have lP3 : P.le P3 := l1.trans (l2.trans l3)
    have B3 := B.mono lP3
    refine ev_comp S3 [("known", L + 2)] (by kernel_rfl) (by kernel_rfl) (by kernel_rfl) (by k_dflt rfl) (by intro x; k_dflt rfl) ?_
    refine c_type S3 B3 (T := "range") ?_ (he := by k_dflt rfl) (hplain := by k_dflt rfl)
    refine spliced_more (c_built S3 B3 (id := "len") ?_ (he := by k_dflt rfl) (hplain := by k_dflt rfl)) (by k_dflt rfl)
    refine spliced_more (r_cell S3 ?_ (by k_dflt rfl) hoK hK (by kernel_rfl)) (by k_dflt rfl)
    refine spliced_none ?_
    refine o_len S3 (S3.keep _ _ (lP3 _ _ eK)) (by (first | lia | omega)) fun t s4 S4 => ?_
    refine spliced_none ?_
    refine o_range1 S4 hh (by (first | lia | omega)) fun rg P4 s5 l4 S5 W => ?_
    have hn2 : ((vk.size : Nat) : Int).toNat = kn.length := by (first | lia | omega)
    rw [hn2] at W
    refine ⟨P4, m, M, kn.length, _, _, fun k acc P' M' => M = M' ∧ Tups P' acc (kpsTo kn k), S5, W, LetIt.plain (fun _ _ => rfl), by rw [sizeLine_eq]; (first | lia | omega), ⟨rfl, .nil⟩, fun C => ?_, fun D2 P' M' acc2 j s' hle hJ S => ?_⟩
    · intro k v acc' P' M' X mc s' K N hk hv hle hJ S kK kN
      obtain ⟨rfl, hJ⟩ := hJ
      obtain ⟨tk, rfl⟩ := hv
      have eK' := hle _ _ (l4 _ _ (lP3 _ _ eK))
      obtain ⟨v', hv', rv'⟩ := rk.getA (i := k) (d := .str kn[k]) (by rw [List.getElem?_map, List.getElem?_eq_getElem hk]; rfl)
      obtain ⟨t1, rfl⟩ := rv'.str_inv
      refine wpAny_assign_Name (r_store S (fun s' S => ?_) rfl)
      refine wpAny_tests_nil ?_
      rw [if_pos rfl]
      refine wpAny_Tuple_spliced ?_
      refine spliced_more ?_ (by k_dflt rfl)
      with_reducible refine Subscript_ (r_cell S ?_ (by k_dflt rfl) hoK (List.mem_append_right _ hK) (by kernel_rfl))
      walk_at "ev"
      refine o_item (S.keep _ _ eK') (by (first | lia | omega)) (k := 0 + (k : Int) * 1) (x := .str kn[k] t1) (by rw [show (0 + (k : Int) * 1).toNat = k by (first | lia | omega)]; exact hv') (by (first | lia | omega)) ?_
      refine spliced_more ?_ (by k_dflt rfl)
      walk_at "ev"
      refine spliced_none ⟨by rw [sizeLine_eq]; simp, ?_⟩
      obtain ⟨hn, T⟩ := S.pushP (tupO (.str kn[k] t1) (.int (0 + (k : Int) * 1) tk))
      refine kK _ _ ⟨_, _, _, PM.le_put hn, ⟨rfl, ?_⟩, T⟩
      rw [kpsTo_succ, getD_of hk]
      have e3 : (k : Int) = 0 + (k : Int) * 1 := by (first | lia | omega)
      refine (hJ.mono (PM.le_put hn)).append ?_
      have e5 : ((kn[k], (k : Int)) : Str × Int) = (kn[k], 0 + (k : Int) * 1) := Prod.ext rfl e3
      rw [e5]
      exact .cons (PM.put_self ..) .nil
    · obtain ⟨rfl, hJ⟩ := hJ
      have S0 := S
      have S6 := S.freeze (pre := []) rfl
      have l5 : P'.le (PM.put P' D2 (listOf acc2.toArray j)) := PM.le_put (S0.out D2 (by simp))
      have eD2 := PM.put_self P' D2 (listOf acc2.toArray j)
      have hT2 := hJ.mono l5
      have hT1 := hT.mono (l4.trans (hle.trans l5))
      have eD1 := (l4.trans (hle.trans l5)) _ _ eD
      have lP := lP3.trans (l4.trans (hle.trans l5))
      generalize PM.put P' D2 (listOf acc2.toArray j) = P5 at S6 l5 eD2 hT2 hT1 eD1 lP
      obtain ⟨as1, q1⟩ := hT1.reads S6.keep
      obtain ⟨as2, q2⟩ := hT2.reads S6.keep
      have hlay : (PyData.list ((kpsTo kn kn.length).map pairT)).canLay0 = true := by rw [PyData.canLay0]; exact lay_pairs fun p hp => kpsTo_ok hkn hp
      refine SeqAt.compareNe_reads (.list (S6.keep _ _ eD1) rfl rfl (by simpa using q1)) (.list (S6.keep _ _ eD2) rfl rfl (by simpa using q2)) hlay hlay ?_ (wpAny_truthy_bool ?_)
      · have hdd := depth_pairs (kpsTo kn kn.length)
        have : (PyData.list ((kpsTo kn kn.length).map pairT)).depth = PyData.depthAll ((kpsTo kn kn.length).map pairT) + 1 := by rw [PyData.depth]
        rw [this, Nat.min_self]
        (first | lia | omega)
      · have hev : PyData.eqv (.list ((kpsTo kn kn.length).map pairT)) (.list ((kpsTo kn kn.length).map pairT)) = true := by rw [PyData.eqv]; exact eqv_pairs _
        rw [hev, if_neg (by simp)]
        exact x_nil (hQ P5 _ lP S6)
end
end Mine
namespace Mine

theorem joinE_cons (p : Str) (r : List Str) : Txt.join "" (p :: r) = p ++ Txt.join "" r := by
  show Builtin.Str.glued _ _ = _ ++ Builtin.Str.glued _ _
  rw [StrLaws.glued_eq_join, StrLaws.glued_eq_join]
  exact PyProof.Rows.join_nil_cons p r
theorem cps_app (a b : Str) : (a ++ b).cps.toList = a.cps.toList ++ b.cps.toList := by
  show (a.cps ++ b.cps).toList = _
  rw [Array.toList_append]
theorem len_cps (a : Str) : a.length = a.cps.toList.length := by
  rw [Array.length_toList]; rfl

/-! the mirror on rows -/
theorem tr_nil (f : Nat) (acc : List (Option Str)) : tr f [] acc = some acc := by cases f <;> rfl
theorem tr_mono : ∀ {f g : Nat} {l : List Nat} {acc out : List (Option Str)}, f ≤ g → tr f l acc = some out → tr g l acc = some out
  | f, g, [], acc, out, _, e => by rw [tr_nil] at e ⊢; exact e
  | 0, _, _ :: _, _, _, _, e => by cases e
  | f + 1, 0, _ :: _, _, _, h, _ => absurd h (by (first | lia | omega))
  | f + 1, g + 1, c :: r, acc, out, h, e => by
    have h' : f ≤ g := by (first | lia | omega)
    unfold tr at e ⊢
    by_cases q1 : c = 42
    · rw [if_pos q1] at e ⊢; exact tr_mono h' e
    · rw [if_neg q1] at e ⊢
      by_cases q2 : c = 63
      · rw [if_pos q2] at e ⊢; exact tr_mono h' e
      · rw [if_neg q2] at e ⊢
        by_cases q3 : c = 91
        · rw [if_pos q3] at e ⊢
          cases hb : brk r with
          | none => rw [hb] at e; cases e
          | some q => rw [hb] at e; exact tr_mono h' e
        · rw [if_neg q3] at e ⊢
          by_cases q4 : escB c = true
          · rw [if_pos q4] at e ⊢; exact tr_mono h' e
          · rw [if_neg q4] at e; cases e
noncomputable def optP (p : Str) : Option Str := if p = "*" then none else some p
noncomputable def stepP (acc : List (Option Str)) (p : Str) : List (Option Str) := if p = "*" then pushStar acc else acc ++ [some p]
/-- what the mirror makes of a dress -/
noncomputable def DressOk (q : Str × Str) : Prop := ∀ (r : List Nat) (acc out : List (Option Str)) (f : Nat), tr f r (stepP acc q.2) = some out → tr (f + q.1.length) (q.1.cps.toList ++ r) acc = some out
theorem dressOk_of {q : Str × Str} (k : Nat) (h : ∀ (r : List Nat) (acc : List (Option Str)) (f : Nat), tr (f + q.1.length) (q.1.cps.toList ++ r) acc = tr (f + k) r (stepP acc q.2)) : DressOk q := fun r acc out f e => by
  rw [h]
  exact tr_mono (Nat.le_add_right _ _) e
theorem pushStar_twice (acc : List (Option Str)) : pushStar (pushStar acc) = pushStar acc := by
  have h : (pushStar acc).getLast? = some none := by
    unfold pushStar
    split
    · assumption
    · simp
  rw [show pushStar (pushStar acc) = if (pushStar acc).getLast? = some none then pushStar acc else pushStar acc ++ [none] from rfl, if_pos h]
theorem step_plain {acc : List (Option Str)} {p : Str} (h : p ≠ "*") : stepP acc p = acc ++ [some p] := by unfold stepP; rw [if_neg h]
theorem step_star {acc : List (Option Str)} : stepP acc "*" = pushStar acc := by unfold stepP; rw [if_pos rfl]
theorem ok_plain {d p : Str} (k : Nat) (hp : p ≠ "*") (h : ∀ (r : List Nat) (acc : List (Option Str)) (f : Nat), tr (f + d.length) (d.cps.toList ++ r) acc = tr (f + k) r (acc ++ [some p])) : DressOk (d, p) :=
  dressOk_of (q := (d, p)) k fun r acc f => by
    show tr (f + d.length) (d.cps.toList ++ r) acc = tr (f + k) r (stepP acc p)
    rw [step_plain hp]; exact h r acc f
theorem ok_quest : DressOk ("?", ".") := ok_plain 0 (by decide) fun r acc f => by kernel_rfl
theorem ok_star1 : DressOk ("*", "*") := dressOk_of (q := ("*", "*")) 0 fun r acc f => by
  show _ = tr (f + 0) r (stepP acc "*")
  rw [step_star]
  kernel_rfl
theorem ok_star3 : DressOk ("***", "*") := dressOk_of (q := ("***", "*")) 0 fun r acc f => by
  show _ = tr (f + 0) r (stepP acc "*")
  rw [step_star]
  have e : tr (f + Str.length "***") ((Str.cps "***").toList ++ r) acc = tr (f + 0) r (pushStar (pushStar (pushStar acc))) := by kernel_rfl
  rw [e, pushStar_twice, pushStar_twice]
noncomputable def dressL : List (Str × Str) := [("*", "*"), ("***", "*"), ("?", "."), ("[!b-a]", "."), ("[b-a]", "(?!)"), ("[d-cb-a]", "(?!)"), ("[ab]", "[ab]"), ("[d-cab]", "[ab]"), ("[a-c]", "[a-c]"), ("[a-cd-c]", "[a-c]"), ("[!a]", "[^a]"), ("[d-c!a]", "[^a]"), ("[^]", "[\\^]"), ("[b-a^]", "[\\^]"), ("[-]", "[\\-]"), ("[b-a-]", "[\\-]"), ("a", "a"), (".", "\\."), ("]", "\\]"), ("!", "!")]
theorem dress_ok : ∀ q ∈ dressL, DressOk q := by
  intro q h
  unfold dressL at h
  simp only [List.mem_cons, List.not_mem_nil, or_false] at h
  rcases h with rfl | rfl | rfl | rfl | rfl | rfl | rfl | rfl | rfl | rfl | rfl | rfl | rfl | rfl | rfl | rfl | rfl | rfl | rfl | rfl
  · exact ok_star1
  · exact ok_star3
  · exact ok_quest
  · exact ok_plain 5 (by decide) fun r acc f => by kernel_rfl
  · exact ok_plain 4 (by decide) fun r acc f => by kernel_rfl
  · exact ok_plain 7 (by decide) fun r acc f => by kernel_rfl
  · exact ok_plain 3 (by decide) fun r acc f => by kernel_rfl
  · exact ok_plain 6 (by decide) fun r acc f => by kernel_rfl
  · exact ok_plain 4 (by decide) fun r acc f => by kernel_rfl
  · exact ok_plain 7 (by decide) fun r acc f => by kernel_rfl
  · exact ok_plain 3 (by decide) fun r acc f => by kernel_rfl
  · exact ok_plain 6 (by decide) fun r acc f => by kernel_rfl
  · exact ok_plain 2 (by decide) fun r acc f => by kernel_rfl
  · exact ok_plain 5 (by decide) fun r acc f => by kernel_rfl
  · exact ok_plain 2 (by decide) fun r acc f => by kernel_rfl
  · exact ok_plain 5 (by decide) fun r acc f => by kernel_rfl
  · exact ok_plain 0 (by decide) fun r acc f => by kernel_rfl
  · exact ok_plain 0 (by decide) fun r acc f => by kernel_rfl
  · exact ok_plain 0 (by decide) fun r acc f => by kernel_rfl
  · exact ok_plain 0 (by decide) fun r acc f => by kernel_rfl
theorem ok_join : ∀ (l : List (Str × Str)), (∀ q ∈ l, DressOk q) → ∀ acc, tr (Txt.join "" (l.map (·.1))).length (Txt.join "" (l.map (·.1))).cps.toList acc = some ((l.map (·.2)).foldl stepP acc)
  | [], _, acc => rfl
  | q :: r, h, acc => by
    rw [List.map_cons, joinE_cons, len_app, cps_app, Nat.add_comm]
    exact h q (.head _) _ _ _ _ (ok_join r (fun x hx => h x (.tail _ hx)) _)

/-! the stars in a row told once -/
theorem optP_star : optP "*" = none := by unfold optP; rw [if_pos rfl]
theorem optP_plain {p : Str} (h : p ≠ "*") : optP p = some p := by unfold optP; rw [if_neg h]
theorem last_step (acc : List (Option Str)) (p : Str) : (stepP acc p).getLast? = some (optP p) := by
  by_cases h : p = "*"
  · subst h
    rw [step_star, optP_star]
    unfold pushStar
    split
    · assumption
    · simp
  · rw [step_plain h, optP_plain h]; simp
theorem last_fold (ps : List Str) : (ps.foldl stepP []).getLast? = ps.getLast?.map optP := by
  rcases List.eq_nil_or_concat ps with rfl | ⟨r, p, rfl⟩
  · rfl
  · rw [List.concat_eq_append, List.foldl_append]
    show (stepP _ p).getLast? = _
    rw [last_step]; simp
noncomputable def outP (ps : List Str) : List (Option Str) := ps.foldl stepP []
theorem outP_snoc (ps : List Str) (p : Str) : outP (ps ++ [p]) = stepP (outP ps) p := by unfold outP; rw [List.foldl_append]; rfl
noncomputable def txtO : Option Str → Str
  | some x => x
  | none => "*"
theorem txt_optP (p : Str) : txtO (optP p) = p := by
  by_cases h : p = "*"
  · subst h; rw [optP_star]; rfl
  · rw [optP_plain h]; rfl
theorem step_eq (acc : List (Option Str)) (p : Str) : stepP acc p = if p = "*" ∧ acc.getLast? = some none then acc else acc ++ [optP p] := by
  by_cases h : p = "*"
  · subst h
    rw [step_star, optP_star]
    unfold pushStar
    by_cases q : acc.getLast? = some none
    · rw [if_pos q, if_pos ⟨rfl, q⟩]
    · rw [if_neg q, if_neg fun z => q z.2]
  · rw [step_plain h, optP_plain h, if_neg fun z => h z.1]
theorem dedup_out (ps : List Str) : ∀ k, k ≤ ps.length → (outP (ps.take k)).map txtO = dedupTo ps k
  | 0, _ => rfl
  | k + 1, h => by
    have hk : k < ps.length := h
    have hp : ps[k]? = some ps[k] := List.getElem?_eq_getElem hk
    have ih := dedup_out ps k (by (first | lia | omega))
    have e1 : ps.take (k + 1) = ps.take k ++ [ps[k]] := by rw [List.take_add_one, hp]; rfl
    have e2 : dedupTo ps (k + 1) = dedupTo ps k ++ (if keepAt ps k then [ps[k]] else []) := by
      unfold dedupTo
      rw [List.range_succ, List.filterMap_append, List.filterMap_cons, List.filterMap_nil]
      by_cases q : keepAt ps k = true
      · simp only [if_pos q, hp]
      · simp only [if_neg q]
    have e3 : (outP (ps.take k)).getLast? = if k = 0 then none else ps[k - 1]?.map optP := by
      unfold outP
      rw [last_fold]
      cases k with
      | zero => rfl
      | succ j =>
        rw [if_neg (by (first | lia | omega)), List.getLast?_take, if_neg (by (first | lia | omega)), Nat.add_sub_cancel, List.getElem?_eq_getElem (by (first | lia | omega))]; rfl
    have e4 : keepAt ps k = !decide (ps[k] = "*" ∧ (outP (ps.take k)).getLast? = some none) := by
      unfold keepAt
      rw [e3, hp]
      cases k with
      | zero => simp
      | succ j =>
        have hj : ps[j]? = some ps[j] := List.getElem?_eq_getElem (by (first | lia | omega))
        rw [if_neg (by (first | lia | omega)), Nat.add_sub_cancel, hj]
        have n1 : (some (optP ps[j]) = some (none : Option Str)) ↔ ps[j] = "*" := by
          constructor
          · intro z
            by_cases q : ps[j] = "*"
            · exact q
            · rw [optP_plain q] at z; cases z
          · intro z; rw [z, optP_star]
        have n2 : (Option.map optP (some ps[j]) = some none) ↔ ps[j] = "*" := n1
        by_cases q1 : ps[j + 1] = "*"
        · by_cases q2 : ps[j] = "*"
          · simp [q1, q2, n2, optP_star]
          · simp [q1, q2, n2, optP_plain q2]
        · simp [q1]
    rw [e1, outP_snoc, step_eq, e2, ← ih, e4]
    by_cases q : ps[k] = "*" ∧ (outP (ps.take k)).getLast? = some none
    · rw [if_pos q, if_neg (by rw [decide_eq_true q]; simp), List.append_nil]
    · rw [if_neg q, if_pos (by rw [decide_eq_false q]; rfl), List.map_append]
      show _ ++ [txtO (optP ps[k])] = _
      rw [txt_optP]
theorem out_dedup (ps : List Str) : (outP ps).map txtO = dedup ps := by
  have := dedup_out ps ps.length (Nat.le_refl _)
  rwa [List.take_length] at this
theorem out_len : ∀ (ps : List Str), (outP ps).length ≤ ps.length := fun ps => by
  rw [← List.length_map (f := txtO), out_dedup]
  unfold dedup dedupTo
  exact Nat.le_trans (List.length_filterMap_le ..) (by simp)
theorem out_mem {ps : List Str} : ∀ {q : Option Str}, q ∈ outP ps → ∃ p ∈ ps, q = optP p := by
  suffices h : ∀ (ps : List Str) (acc : List (Option Str)) (q : Option Str), q ∈ ps.foldl stepP acc → q ∈ acc ∨ ∃ p ∈ ps, q = optP p from fun {q} hq => (h ps [] q hq).resolve_left (by simp)
  intro ps
  induction ps with
  | nil => intro acc q h; exact .inl h
  | cons p r ih =>
    intro acc q h
    rcases ih (stepP acc p) q h with h | ⟨x, hx, e⟩
    · rw [step_eq] at h
      split at h
      · exact .inl h
      · rcases List.mem_append.mp h with h | h
        · exact .inl h
        · exact .inr ⟨p, .head _, List.mem_singleton.mp h⟩
    · exact .inr ⟨x, .tail _ hx, e⟩
end Mine
namespace Mine

/-! a list of parts, joined -/
theorem emp_app (a : Str) : "" ++ a = a := Str.empty_append a
theorem app_emp (a : Str) : a ++ "" = a := Str.append_empty a
theorem joinE_app : ∀ (a b : List Str), Txt.join "" (a ++ b) = Txt.join "" a ++ Txt.join "" b
  | [], b => (emp_app _).symm
  | x :: r, b => by rw [List.cons_append, joinE_cons, joinE_cons, joinE_app r b, Str.append_assoc]
noncomputable def runsP : List (Option Str) → List Str
  | [] => [""]
  | none :: r => "" :: runsP r
  | some x :: r => (x ++ (runsP r).headD "") :: (runsP r).tail
theorem runsP_ne : ∀ qs, ∃ a l, runsP qs = a :: l
  | [] => ⟨_, _, rfl⟩
  | none :: _ => ⟨_, _, rfl⟩
  | some _ :: _ => ⟨_, _, rfl⟩
theorem sjoin_cons (x a : Str) (l : List Str) : Str.join "*" (x :: a :: l) = x ++ "*" ++ Str.join "*" (a :: l) := rfl
theorem sjoin_app (x a : Str) : ∀ (l : List Str), Str.join "*" ((x ++ a) :: l) = x ++ Str.join "*" (a :: l)
  | [] => rfl
  | b :: r => by rw [sjoin_cons, sjoin_cons, Str.append_assoc, Str.append_assoc, Str.append_assoc]
theorem join_runs : ∀ (qs : List (Option Str)), Str.join "*" (runsP qs) = Txt.join "" (qs.map txtO)
  | [] => rfl
  | none :: r => by
    obtain ⟨a, l, e⟩ := runsP_ne r
    rw [List.map_cons, joinE_cons, ← join_runs r, show runsP (none :: r) = (("" : Str) :: runsP r) from rfl, e, sjoin_cons, emp_app]
    rfl
  | some x :: r => by
    obtain ⟨a, l, e⟩ := runsP_ne r
    rw [List.map_cons, joinE_cons, ← join_runs r, show runsP (some x :: r) = (x ++ (runsP r).headD "") :: (runsP r).tail from rfl, e]
    exact sjoin_app x a l
noncomputable abbrev Free (c : Nat) (x : Str) : Prop := c ∉ x.cps.toList
theorem free_app {c : Nat} {a b : Str} (ha : Free c a) (hb : Free c b) : Free c (a ++ b) := by
  unfold Free
  rw [cps_app]
  intro h
  rcases List.mem_append.mp h with h | h
  · exact ha h
  · exact hb h
theorem free_emp (c : Nat) : Free c "" := by
  intro h; cases h
theorem runs_free : ∀ {qs : List (Option Str)}, (∀ x, some x ∈ qs → Free 42 x) → ∀ p ∈ runsP qs, Free 42 p
  | [], _, p, hp => by
    rw [List.mem_singleton.mp hp]; exact free_emp 42
  | none :: r, h, p, hp => by
    rcases List.mem_cons.mp hp with rfl | hp
    · exact free_emp 42
    · exact runs_free (fun x hx => h x (.tail _ hx)) p hp
  | some x :: r, h, p, hp => by
    have ih := runs_free (qs := r) fun x hx => h x (.tail _ hx)
    obtain ⟨a, l, e⟩ := runsP_ne r
    rw [show runsP (some x :: r) = (x ++ (runsP r).headD "") :: (runsP r).tail from rfl, e] at hp
    rw [e] at ih
    rcases List.mem_cons.mp hp with rfl | hp
    · exact free_app (h x (.head _)) (ih a (.head _))
    · exact ih p (.tail _ hp)
theorem cut_one {c : Nat} : ∀ {x y a b : List Nat}, c ∉ x → c ∉ y → x ++ c :: a = y ++ c :: b → x = y ∧ a = b
  | [], [], _, _, _, _, h => ⟨rfl, (List.cons.inj h).2⟩
  | [], z :: y, _, _, _, hy, h => absurd (List.cons.inj h).1 (fun q => hy (q ▸ .head _))
  | z :: x, [], _, _, hx, _, h => absurd (List.cons.inj h).1 (fun q => hx (q ▸ .head _))
  | z :: x, z' :: y, a, b, hx, hy, h => by
    obtain ⟨h1, h2⟩ := List.cons.inj h
    obtain ⟨e1, e2⟩ := cut_one (fun q => hx (.tail _ q)) (fun q => hy (.tail _ q)) h2
    exact ⟨by rw [h1, e1], e2⟩
theorem str_ext {a b : Str} (h : a.cps.toList = b.cps.toList) : a = b := Str.ext' (Array.toList_inj.mp h)
theorem sjoin_cps (x a : Str) (l : List Str) : (Str.join "*" (x :: a :: l)).cps.toList = x.cps.toList ++ 42 :: (Str.join "*" (a :: l)).cps.toList := by
  rw [sjoin_cons, cps_app, cps_app, List.append_assoc]; rfl
theorem sjoin_inj : ∀ {a b : List Str}, a ≠ [] → b ≠ [] → (∀ p ∈ a, Free 42 p) → (∀ p ∈ b, Free 42 p) → Str.join "*" a = Str.join "*" b → a = b
  | [], _, h, _, _, _, _ => absurd rfl h
  | _ :: _, [], _, h, _, _, _ => absurd rfl h
  | [x], [y], _, _, _, _, e => by
    have e' : x = y := e
    rw [e']
  | [x], y :: y' :: t, _, _, hx, _, e => by
    exfalso
    have e' := congrArg (fun z : Str => z.cps.toList) e
    rw [sjoin_cps y y' t] at e'
    have e2 : x.cps.toList = y.cps.toList ++ 42 :: (Str.join "*" (y' :: t)).cps.toList := e'
    exact hx x (.head _) (by rw [e2]; simp)
  | x :: x' :: r, [y], _, _, _, hy, e => by
    exfalso
    have e' := congrArg (fun z : Str => z.cps.toList) e
    rw [sjoin_cps x x' r] at e'
    have e2 : x.cps.toList ++ 42 :: (Str.join "*" (x' :: r)).cps.toList = y.cps.toList := e'
    exact hy y (.head _) (by rw [← e2]; simp)
  | x :: x' :: r, y :: y' :: t, _, _, hx, hy, e => by
    have e' := congrArg (fun z : Str => z.cps.toList) e
    rw [sjoin_cps x x' r, sjoin_cps y y' t] at e'
    obtain ⟨h1, h2⟩ := cut_one (hx x (.head _)) (hy y (.head _)) e'
    rw [str_ext h1, sjoin_inj (a := x' :: r) (b := y' :: t) (by simp) (by simp) (fun p hp => hx p (.tail _ hp)) (fun p hp => hy p (.tail _ hp)) (str_ext h2)]
theorem star_one : (("*" : Str)) = ⟨#[42]⟩ := by kernel_rfl
theorem split_runs {qs : List (Option Str)} (h : ∀ x, some x ∈ qs → Free 42 x) : Txt.split (Txt.join "" (qs.map txtO)) "*" = runsP qs := by
  refine sjoin_inj ?_ ?_ ?_ (runs_free h) ?_
  · have := split_pos (Txt.join "" (qs.map txtO)) "*"
    intro q; rw [q] at this; simp at this
  · obtain ⟨a, l, e⟩ := runsP_ne qs
    rw [e]; simp
  · rw [star_one]; exact StrLaws.split_free _ 42
  · rw [StrLaws.join_split, join_runs]
theorem joined_runs {qs : List (Option Str)} (h : ∀ x, some x ∈ qs → Free 42 x) : joinedS (qs.map txtO) = frameS (runsP qs) := by
  unfold joinedS runsS
  rw [split_runs h]

theorem frame_one (a : Str) : frameS [a] = "(?s:" ++ a ++ ")\\Z" := by
  unfold frameS
  show "(?s:" ++ a ++ Txt.join "" [] ++ "" ++ ")\\Z" = _
  rw [show Txt.join "" [] = ("" : Str) from rfl, app_emp, app_emp]
theorem frame_more (a b : Str) (l : List Str) : frameS (a :: b :: l) = "(?s:" ++ a ++ Txt.join "" ((b :: l).dropLast.map heldS) ++ (".*" ++ (b :: l).getLastD "") ++ ")\\Z" := by
  unfold frameS
  have h1 : ((a :: b :: l).drop 1).take ((a :: b :: l).length - 2) = (b :: l).dropLast := by
    rw [List.dropLast_eq_take]
    show (b :: l).take _ = _
    congr 1
  have h2 : (a :: b :: l).getD ((a :: b :: l).length - 1) "" = (b :: l).getLastD "" := by
    rw [List.getLastD_eq_getLast?, List.getLast?_eq_getElem?, List.getD_eq_getElem?_getD]
    simp
  rw [h1, h2, if_pos (by simp)]
  rfl
/-- what comes behind the first star -/
noncomputable def restR : List (Option Str) → List Str
  | [] => []
  | _ :: r => runsP r
theorem tail_form : ∀ (qs : List (Option Str)), tailT qs = [] ∨ ∃ r, tailT qs = none :: r
  | [] => .inl rfl
  | none :: r => .inr ⟨r, rfl⟩
  | some x :: r => tail_form r
theorem runs_head : ∀ (qs : List (Option Str)), runsP qs = Txt.join "" (headT qs) :: restR (tailT qs)
  | [] => rfl
  | none :: r => rfl
  | some x :: r => by
    have ih := runs_head r
    rw [show runsP (some x :: r) = (x ++ (runsP r).headD "") :: (runsP r).tail from rfl, ih, show headT (some x :: r) = x :: headT r from rfl, joinE_cons]
    rfl
/-- no two stars in a row -/
noncomputable def NoAdj : List (Option Str) → Prop
  | [] => True
  | none :: r => r.head? ≠ some none ∧ NoAdj r
  | some _ :: r => NoAdj r
theorem NoAdj.tail : ∀ {qs : List (Option Str)}, NoAdj qs → NoAdj (tailT qs)
  | [], h => h
  | none :: _, h => h
  | some _ :: r, h => NoAdj.tail (qs := r) h
theorem tail_len : ∀ (qs : List (Option Str)), (tailT qs).length ≤ qs.length
  | [] => Nat.le_refl _
  | none :: _ => Nat.le_refl _
  | some _ :: r => Nat.le_succ_of_le (tail_len r)
theorem stars_run : ∀ (n : Nat) (r : List (Option Str)), r.length + 1 ≤ n → NoAdj (none :: r) → ∃ l, stars n (none :: r) = some l ∧ Txt.join "" l = Txt.join "" ((runsP r).dropLast.map heldS) ++ (".*" ++ (runsP r).getLastD "")
  | 0, _, h, _ => absurd h (by (first | lia | omega))
  | n + 1, [], _, _ => ⟨[".*"], rfl, rfl⟩
  | n + 1, none :: _, _, h => absurd rfl h.1
  | n + 1, some x :: r, hn, h => by
    rcases tail_form (some x :: r) with e | ⟨r2, e⟩
    · refine ⟨[".*", Txt.join "" (headT (some x :: r))], ?_, ?_⟩
      · show (if (tailT (some x :: r)).isEmpty = true then _ else _) = _
        rw [e]; rfl
      · rw [runs_head, e]
        show _ = Txt.join "" [] ++ (".*" ++ Txt.join "" (headT (some x :: r)))
        rw [joinE_cons, joinE_cons, show Txt.join "" [] = ("" : Str) from rfl, app_emp, emp_app]
    · have hl := tail_len r
      have e' : tailT r = none :: r2 := e
      rw [e', List.length_cons] at hl
      have hN := NoAdj.tail (qs := some x :: r) h.2
      rw [e] at hN
      obtain ⟨l, h1, h2⟩ := stars_run n r2 (by rw [List.length_cons] at hn; (first | lia | omega)) hN
      refine ⟨heldS (Txt.join "" (headT (some x :: r))) :: l, ?_, ?_⟩
      · show (if (tailT (some x :: r)).isEmpty = true then _ else _) = _
        rw [e, if_neg (by simp), h1]; rfl
      · obtain ⟨a, t, ea⟩ := runsP_ne r2
        rw [runs_head (some x :: r), e, joinE_cons, h2]
        show _ = Txt.join "" ((Txt.join "" (headT (some x :: r)) :: runsP r2).dropLast.map heldS) ++ (".*" ++ (Txt.join "" (headT (some x :: r)) :: runsP r2).getLastD "")
        rw [ea, List.dropLast_cons_cons, List.map_cons, joinE_cons]
        generalize heldS (Txt.join "" (headT (some x :: r))) = H
        rw [Str.append_assoc]
        rfl
theorem stars_nil (n : Nat) : stars n [] = some [] := by cases n <;> rfl
theorem joinP_runs {qs : List (Option Str)} (h : NoAdj qs) : joinP qs = some (frameS (runsP qs)) := by
  unfold joinP
  rw [runs_head]
  rcases tail_form qs with e | ⟨r, e⟩
  · rw [e, stars_nil]
    show some (wrapS (headT qs ++ [])) = some (frameS [_])
    rw [frame_one, List.append_nil]; rfl
  · have hl := tail_len qs
    rw [e, List.length_cons] at hl
    have hN := h.tail
    rw [e] at hN ⊢
    obtain ⟨l, h1, h2⟩ := stars_run qs.length r hl hN
    obtain ⟨a, t, ea⟩ := runsP_ne r
    rw [h1]
    show some (wrapS (headT qs ++ l)) = some (frameS (_ :: runsP r))
    rw [ea] at h2 ⊢
    rw [frame_more]
    unfold wrapS
    rw [joinE_app, h2]
    simp only [Str.append_assoc]
theorem join_law {qs : List (Option Str)} (h : NoAdj qs) (hf : ∀ x, some x ∈ qs → Free 42 x) : joinP qs = some (joinedS (qs.map txtO)) := by
  rw [joined_runs hf, joinP_runs h]
end Mine
namespace Mine

theorem txtO_eq : ∀ p, txtO p = txt p
  | none => rfl
  | some _ => rfl
theorem txtO_fun : txtO = txt := funext txtO_eq
theorem dressP_eq : dressP = dressL := by kernel_rfl
/-- the parts of a number -/
noncomputable def outOf (y : Int) : List (Option Str) := outP ((rowP y).map (·.2))
theorem row_ok {y : Int} {q : Str × Str} (h : q ∈ rowP y) : q ∈ dressL := dressP_eq ▸ rowP_mem h
theorem pat_tr (y : Int) : tr (patOf y).length (patOf y).cps.toList [] = some (outOf y) := ok_join (rowP y) (fun _ hq => dress_ok _ (row_ok hq)) []
theorem pat_len (y : Int) : (patOf y).length ≤ 1000 := by
  unfold patOf
  rw [joinE_len]
  have := rowP_wt y
  (first | lia | omega)
theorem out_len4 (y : Int) : (outOf y).length ≤ 4 := by
  have h := out_len ((rowP y).map (·.2))
  have h2 := rowP_len y
  rw [List.length_map] at h
  exact Nat.le_trans h h2
theorem due_out (y : Int) : (outOf y).map txt = dueOf y := by
  rw [← txtO_fun]; exact out_dedup _
theorem parts_ok : ∀ q ∈ dressL, PyData.strOk q.2 = true ∧ q.2.length ≤ 8 ∧ (q.2 = "*" ∨ 42 ∉ q.2.cps.toList) := by decide +kernel
theorem out_of {y : Int} {p : Option Str} (h : p ∈ outOf y) : ∃ q ∈ dressL, p = optP q.2 := by
  obtain ⟨x, hx, e⟩ := out_mem h
  obtain ⟨q, hq, rfl⟩ := List.mem_map.mp hx
  exact ⟨q, row_ok hq, e⟩
theorem optP_good (x : Str) : GoodP (optP x) := by
  unfold optP GoodP
  split
  · intro q; cases q
  · rename_i h; intro q; exact h (Option.some.inj q)
theorem out_good {y : Int} {p : Option Str} (h : p ∈ outOf y) : GoodP p := by
  obtain ⟨q, _, rfl⟩ := out_of h
  exact optP_good _
theorem txt_opt (x : Str) : txt (optP x) = x := by rw [← txtO_eq]; exact txt_optP x
theorem due_mem {y : Int} {x : Str} (h : x ∈ dueOf y) : ∃ q ∈ dressL, x = q.2 := by
  rw [← due_out] at h
  obtain ⟨p, hp, rfl⟩ := List.mem_map.mp h
  obtain ⟨q, hq, rfl⟩ := out_of hp
  exact ⟨q, hq, txt_opt _⟩
theorem due_ok {y : Int} {x : Str} (h : x ∈ dueOf y) : PyData.strOk x = true ∧ x.length ≤ 8 := by
  obtain ⟨q, hq, rfl⟩ := due_mem h
  exact ⟨(parts_ok q hq).1, (parts_ok q hq).2.1⟩
theorem due_len (y : Int) : (dueOf y).length ≤ 4 := by
  rw [← due_out, List.length_map]; exact out_len4 y

/-! the keys -/
noncomputable abbrev OS := Option Str
theorem step_mem (ks : List OS) (p : OS) : p ∈ bkStep false ks p := by
  unfold bkStep
  split
  · rename_i h; simpa using h
  · simp
theorem step_true (ks : List OS) (p : OS) : bkStep true ks p = ks := rfl
theorem step_pre (fz : Bool) (ks : List OS) (p : OS) : ks <+: bkStep fz ks p := by
  unfold bkStep
  split
  · exact List.prefix_rfl
  · exact List.prefix_append ..
theorem keys_pre (fz : Bool) : ∀ (ps ks : List OS), ks <+: bkKeys fz ks ps
  | [], _ => List.prefix_rfl
  | p :: r, ks => (step_pre fz ks p).trans (keys_pre fz r (bkStep fz ks p))
theorem keys_true : ∀ (ps ks : List OS), bkKeys true ks ps = ks
  | [], _ => rfl
  | p :: r, ks => keys_true r ks
theorem keys_app (fz : Bool) (ks a b : List OS) : bkKeys fz ks (a ++ b) = bkKeys fz (bkKeys fz ks a) b := by unfold bkKeys; rw [List.foldl_append]
theorem keys_mem : ∀ {ps ks : List OS} {q : OS}, q ∈ bkKeys false ks ps ↔ q ∈ ks ∨ q ∈ ps
  | [], ks, q => by simp [bkKeys]
  | p :: r, ks, q => by
    show q ∈ bkKeys false (bkStep false ks p) r ↔ _
    rw [keys_mem (ps := r)]
    have h : q ∈ bkStep false ks p ↔ q ∈ ks ∨ q = p := by
      constructor
      · intro h
        unfold bkStep at h
        split at h
        · exact .inl h
        · rcases List.mem_append.mp h with h | h
          · exact .inl h
          · exact .inr (List.mem_singleton.mp h)
      · rintro (h | rfl)
        · exact (step_pre false ks p).subset h
        · exact step_mem ks q
    rw [h, List.mem_cons, or_assoc]
theorem mem_txt {qs : List OS} (hg : ∀ q ∈ qs, GoodP q) {p : OS} (hp : GoodP p) : txt p ∈ qs.map txt ↔ p ∈ qs := by
  constructor
  · intro h
    obtain ⟨q, hq, e⟩ := List.mem_map.mp h
    rw [← txt_inj (hg q hq) hp e]; exact hq
  · exact List.mem_map_of_mem
theorem uniq_keys {qs : List OS} (hg : ∀ q ∈ qs, GoodP q) : ∀ k, k ≤ qs.length → uniqTo (qs.map txt) k = (bkKeys false [] (qs.take k)).map txt
  | 0, _ => rfl
  | k + 1, h => by
    have hk : k < qs.length := h
    have hq : qs[k]? = some qs[k] := List.getElem?_eq_getElem hk
    have ih := uniq_keys hg k (by (first | lia | omega))
    have e0 : (qs.map txt)[k]? = some (txt qs[k]) := by rw [List.getElem?_map, hq]; rfl
    have e1 : uniqTo (qs.map txt) (k + 1) = uniqTo (qs.map txt) k ++ (if txt qs[k] ∈ (qs.map txt).take k then [] else [txt qs[k]]) := by
      unfold uniqTo
      rw [List.range_succ, List.filterMap_append, List.filterMap_cons, List.filterMap_nil, e0]
      by_cases q : txt qs[k] ∈ (qs.map txt).take k
      · simp only [if_pos q]
      · simp only [if_neg q]
    have e2 : qs.take (k + 1) = qs.take k ++ [qs[k]] := by rw [List.take_add_one, hq]; rfl
    have hm : txt qs[k] ∈ (qs.map txt).take k ↔ qs[k] ∈ bkKeys false [] (qs.take k) := by
      rw [← List.map_take, mem_txt (fun q h => hg q (List.mem_of_mem_take h)) (hg _ (List.getElem_mem hk)), keys_mem]
      simp
    rw [e1, e2, bkKeys_snoc, ih]
    by_cases q : qs[k] ∈ bkKeys false [] (qs.take k)
    · have e3 : bkStep false (bkKeys false [] (qs.take k)) qs[k] = bkKeys false [] (qs.take k) := by
        unfold bkStep
        rw [List.contains_iff_mem.mpr q]; rfl
      rw [if_pos (hm.mpr q), e3, List.append_nil]
    · have e3 : bkStep false (bkKeys false [] (qs.take k)) qs[k] = bkKeys false [] (qs.take k) ++ [qs[k]] := by
        unfold bkStep
        rw [show (bkKeys false [] (qs.take k)).contains qs[k] = false by simpa using q]; rfl
      rw [if_neg (fun z => q (hm.mp z)), e3, List.map_append]; rfl
theorem uniq_law {qs : List OS} (hg : ∀ q ∈ qs, GoodP q) : uniq (qs.map txt) = (bkKeys false [] qs).map txt := by
  have := uniq_keys hg qs.length (Nat.le_refl _)
  rw [List.take_length] at this
  unfold uniq
  rw [List.length_map]
  exact this
theorem getD_R {R : List (List OS)} {k : Nat} (h : k < R.length) : R.getD k [] = R[k] := by
  rw [List.getD_eq_getElem?_getD, List.getElem?_eq_getElem h]; rfl
theorem keysAt_eq {c : Nat} {R : List (List OS)} : ∀ k, k ≤ R.length → keysAt c R k = bkKeys false [] (R.take (min k c)).flatten
  | 0, _ => by rw [Nat.zero_min]; rfl
  | k + 1, h => by
    have hk : k < R.length := h
    have ih := keysAt_eq (c := c) (R := R) k (by (first | lia | omega))
    show bkKeys (decide (c ≤ k)) (keysAt c R k) (R.getD k []) = _
    by_cases q : c ≤ k
    · rw [decide_eq_true q, keys_true, ih, Nat.min_eq_right q, Nat.min_eq_right (by (first | lia | omega))]
    · rw [decide_eq_false q, ih, getD_R hk, Nat.min_eq_left (by (first | lia | omega)), Nat.min_eq_left (by (first | lia | omega)), ← keys_app]
      congr 1
      rw [List.take_add_one, List.getElem?_eq_getElem hk, List.flatten_append]
      show _ = _ ++ [R[k]].flatten
      rw [List.flatten_cons, List.flatten_nil, List.append_nil]
theorem keysAt_step (c : Nat) (R : List (List OS)) (k : Nat) : keysAt c R k <+: keysAt c R (k + 1) := keys_pre _ _ _
theorem keysAt_pre (c : Nat) (R : List (List OS)) {a b : Nat} (h : a ≤ b) : keysAt c R a <+: keysAt c R b := by
  obtain ⟨d, rfl⟩ := Nat.exists_eq_add_of_le h
  clear h
  induction d with
  | zero => exact List.prefix_rfl
  | succ d ih => exact ih.trans (keysAt_step c R (a + d))
theorem idx_pre {a b : List OS} (h : a <+: b) {p : OS} (hp : p ∈ a) : b.idxOf p = a.idxOf p := by
  obtain ⟨t, rfl⟩ := h
  rw [List.idxOf_append, if_pos hp]
theorem nums_pre {K : List OS} : ∀ (ps ks : List OS), bkKeys false ks ps <+: K → bkNums false ks ps = ps.map K.idxOf
  | [], _, _ => rfl
  | p :: r, ks, h => by
    show ks.idxOf p :: bkNums false (bkStep false ks p) r = K.idxOf p :: r.map K.idxOf
    rw [nums_pre r (bkStep false ks p) h]
    congr 1
    have h1 : bkStep false ks p <+: K := (keys_pre false r _).trans h
    rw [idx_pre h1 (step_mem ks p)]
    unfold bkStep
    by_cases q : p ∈ ks
    · rw [show (false || ks.contains p) = true by simpa using q, if_pos rfl]
    · rw [show (false || ks.contains p) = false by simpa using q, if_neg (by decide), List.idxOf_append, if_neg q, List.idxOf_eq_length q]
      simp
theorem nums_true : ∀ (ps ks : List OS), bkNums true ks ps = ps.map ks.idxOf
  | [], _ => rfl
  | p :: r, ks => by
    show ks.idxOf p :: bkNums true ks r = _
    rw [nums_true r ks]; rfl
theorem numsAt_eq {c : Nat} {R : List (List OS)} {k : Nat} (h : k < R.length) : numsAt c R k = R[k].map (keysAt c R R.length).idxOf := by
  unfold numsAt
  rw [getD_R h]
  by_cases q : c ≤ k
  · rw [decide_eq_true q, nums_true]
    have e : keysAt c R k = keysAt c R R.length := by
      rw [keysAt_eq k (by (first | lia | omega)), keysAt_eq R.length (Nat.le_refl _), Nat.min_eq_right q, Nat.min_eq_right (by (first | lia | omega))]
    rw [e]
  · rw [decide_eq_false q]
    refine nums_pre _ _ ?_
    have e : bkKeys false (keysAt c R k) R[k] = keysAt c R (k + 1) := by
      show _ = bkKeys (decide (c ≤ k)) (keysAt c R k) (R.getD k [])
      rw [decide_eq_false q, getD_R h]
    rw [e]
    exact keysAt_pre c R h
theorem idx_txt : ∀ {ks : List OS} {p : OS}, (∀ q ∈ ks, GoodP q) → GoodP p → (ks.map txt).idxOf (txt p) = ks.idxOf p
  | [], _, _, _ => rfl
  | q :: r, p, hg, hp => by
    rw [List.map_cons, List.idxOf_cons, List.idxOf_cons, idx_txt (fun x hx => hg x (.tail _ hx)) hp]
    have e : (txt q == txt p) = (q == p) := by
      by_cases z : q = p
      · rw [z, beq_self_eq_true, beq_self_eq_true]
      · rw [beq_false_of_ne z, beq_false_of_ne fun y => z (txt_inj (hg q (.head _)) hp y)]
    rw [e]
end Mine
namespace Mine

/-! no two stars in a row -/
theorem noAdj_snoc : ∀ {l : List OS} {q : OS}, NoAdj l → ¬ (l.getLast? = some none ∧ q = none) → NoAdj (l ++ [q])
  | [], none, _, _ => ⟨by simp, trivial⟩
  | [], some _, _, _ => trivial
  | [none], q, _, hq => by
    have : q ≠ none := fun e => hq ⟨rfl, e⟩
    refine ⟨fun e => ?_, ?_⟩
    · have e' : some q = some none := e
      exact this (Option.some.inj e')
    · cases q with
      | none => exact absurd rfl this
      | some x => exact trivial
  | none :: x :: r, q, h, hq => by
    refine ⟨h.1, ?_⟩
    exact noAdj_snoc (l := x :: r) h.2 fun z => hq ⟨by rw [List.getLast?_cons_cons]; exact z.1, z.2⟩
  | [some x], q, _, _ => noAdj_snoc (l := []) (q := q) trivial fun z => by simp at z
  | some x :: y :: r, q, h, hq => noAdj_snoc (l := y :: r) (q := q) h fun z => hq ⟨by rw [List.getLast?_cons_cons]; exact z.1, z.2⟩
theorem optP_none {p : Str} : optP p = none ↔ p = "*" := by
  constructor
  · intro h
    by_cases q : p = "*"
    · exact q
    · rw [optP_plain q] at h; cases h
  · rintro rfl; exact optP_star
theorem noAdj_step {acc : List OS} {p : Str} (h : NoAdj acc) : NoAdj (stepP acc p) := by
  rw [step_eq]
  split
  · exact h
  · rename_i q
    exact noAdj_snoc h fun z => q ⟨optP_none.mp z.2, z.1⟩
theorem noAdj_out (ps : List Str) : NoAdj (outP ps) := by
  suffices h : ∀ (ps : List Str) (acc : List OS), NoAdj acc → NoAdj (ps.foldl stepP acc) from h ps [] trivial
  intro ps
  induction ps with
  | nil => intro acc h; exact h
  | cons p r ih => intro acc h; exact ih _ (noAdj_step h)

/-! parts that are not known -/
noncomputable def dotO (ks : List OS) (p : OS) : OS := if p ∈ ks then p else some "."
/-- a dress that is not known -/
noncomputable def bareQ (kn : List Str) (p : Str × Str) : Str × Str := if p.2 ∈ kn then p else ("?", ".")
section
variable {ks : List OS}
theorem dotO_none (hn : none ∈ ks) (p : OS) : dotO ks p = none ↔ p = none := by
  unfold dotO
  constructor
  · intro h
    split at h
    · exact h
    · cases h
  · rintro rfl; rw [if_pos hn]
theorem star_in (hn : none ∈ ks) : ("*" : Str) ∈ ks.map txt := List.mem_map.mpr ⟨none, hn, rfl⟩
theorem dotted_star (hn : none ∈ ks) (p : Str) : dotted (ks.map txt) p = "*" ↔ p = "*" := by
  unfold dotted
  constructor
  · intro h
    split at h
    · exact h
    · exact absurd h (by decide)
  · rintro rfl; rw [if_pos (star_in hn)]
theorem dot_txt (hg : ∀ q ∈ ks, GoodP q) {p : OS} (hp : GoodP p) : txt (dotO ks p) = dotted (ks.map txt) (txt p) := by
  unfold dotO dotted
  by_cases q : p ∈ ks
  · rw [if_pos q, if_pos ((mem_txt hg hp).mpr q)]
  · rw [if_neg q, if_neg fun z => q ((mem_txt hg hp).mp z)]; rfl
theorem dot_good {p : OS} (hp : GoodP p) : GoodP (dotO ks p) := by
  unfold dotO
  split
  · exact hp
  · intro z; exact absurd (Option.some.inj z) (by decide)
theorem dot_opt (hg : ∀ q ∈ ks, GoodP q) (p : Str) : dotO ks (optP p) = optP (dotted (ks.map txt) p) := by
  refine txt_inj (dot_good (optP_good p)) (optP_good _) ?_
  rw [dot_txt hg (optP_good p), txt_opt, txt_opt]
theorem last_dot (hn : none ∈ ks) (acc : List OS) : (acc.map (dotO ks)).getLast? = some none ↔ acc.getLast? = some none := by
  rw [List.getLast?_map]
  cases acc.getLast? with
  | none => simp
  | some q =>
    show some (dotO ks q) = some none ↔ some q = some none
    rw [Option.some.injEq, Option.some.injEq, dotO_none hn]
theorem step_dot (hg : ∀ q ∈ ks, GoodP q) (hn : none ∈ ks) (acc : List OS) (p : Str) : stepP (acc.map (dotO ks)) (dotted (ks.map txt) p) = (stepP acc p).map (dotO ks) := by
  rw [step_eq, step_eq]
  by_cases q : p = "*" ∧ acc.getLast? = some none
  · rw [if_pos q, if_pos ⟨(dotted_star hn p).mpr q.1, (last_dot hn acc).mpr q.2⟩]
  · rw [if_neg q, if_neg fun z => q ⟨(dotted_star hn p).mp z.1, (last_dot hn acc).mp z.2⟩, List.map_append, ← dot_opt hg]
    rfl
theorem out_dot (hg : ∀ q ∈ ks, GoodP q) (hn : none ∈ ks) (ps : List Str) : outP (ps.map (dotted (ks.map txt))) = (outP ps).map (dotO ks) := by
  suffices h : ∀ (ps : List Str) (acc : List OS), (ps.map (dotted (ks.map txt))).foldl stepP (acc.map (dotO ks)) = (ps.foldl stepP acc).map (dotO ks) from h ps []
  intro ps
  induction ps with
  | nil => intro acc; rfl
  | cons p r ih =>
    intro acc
    show (r.map (dotted (ks.map txt))).foldl stepP (stepP (acc.map (dotO ks)) (dotted (ks.map txt) p)) = _
    rw [step_dot hg hn]
    exact ih _
theorem noAdj_map (hn : none ∈ ks) : ∀ {l : List OS}, NoAdj l → NoAdj (l.map (dotO ks))
  | [], _ => trivial
  | none :: r, h => by
    rw [List.map_cons, (dotO_none hn none).mpr rfl]
    refine ⟨fun z => h.1 ?_, noAdj_map hn h.2⟩
    cases r with
    | nil => cases z
    | cons x t =>
      have z' : some (dotO ks x) = some none := z
      rw [(dotO_none hn x).mp (Option.some.inj z')]; rfl
  | some x :: r, h => by
    rw [List.map_cons]
    cases e : dotO ks (some x) with
    | none => have := (dotO_none hn _).mp e; cases this
    | some y => exact noAdj_map hn (l := r) h
theorem bare_w (kn : List Str) (p : Str × Str) : bareW kn p = (bareQ kn p).1 := by
  unfold bareW bareQ
  split <;> rfl
theorem bare_d (kn : List Str) (p : Str × Str) : dotted kn p.2 = (bareQ kn p).2 := by
  unfold dotted bareQ
  split <;> rfl
theorem bare_ok {kn : List Str} {q : Str × Str} (h : q ∈ dressL) : DressOk (bareQ kn q) := by
  unfold bareQ
  split
  · exact dress_ok q h
  · exact ok_quest
theorem bare_tr (hg : ∀ q ∈ ks, GoodP q) (hn : none ∈ ks) (y : Int) : tr (bareOf (ks.map txt) (rowP y)).length (bareOf (ks.map txt) (rowP y)).cps.toList [] = some ((outOf y).map (dotO ks)) := by
  have h := ok_join ((rowP y).map (bareQ (ks.map txt))) (fun q hq => by
    obtain ⟨p, hp, rfl⟩ := List.mem_map.mp hq
    exact bare_ok (row_ok hp)) []
  have e1 : ((rowP y).map (bareQ (ks.map txt))).map (·.1) = (rowP y).map (bareW (ks.map txt)) := by
    rw [List.map_map]; exact List.map_congr_left fun p _ => (bare_w _ p).symm
  have e2 : ((rowP y).map (bareQ (ks.map txt))).map (·.2) = ((rowP y).map (·.2)).map (dotted (ks.map txt)) := by
    rw [List.map_map, List.map_map]; exact List.map_congr_left fun p _ => (bare_d _ p).symm
  rw [e1, e2] at h
  exact h.trans (congrArg some (out_dot hg hn _))
end
theorem free_of {y : Int} {x : Str} (h : some x ∈ outOf y) : Free 42 x ∧ x.length ≤ 8 := by
  obtain ⟨q, hq, e⟩ := out_of h
  obtain ⟨_, h2, h3⟩ := parts_ok q hq
  have hx : x = q.2 := by
    have := congrArg txt e
    rw [txt_opt] at this; exact this
  subst hx
  refine ⟨h3.resolve_left fun z => ?_, h2⟩
  rw [z, optP_star] at e; cases e
theorem dot_free {ks : List OS} {y : Int} {x : Str} (h : some x ∈ (outOf y).map (dotO ks)) : Free 42 x ∧ x.length ≤ 8 := by
  obtain ⟨p, hp, e⟩ := List.mem_map.mp h
  unfold dotO at e
  split at e
  · rw [e] at hp; exact free_of hp
  · rw [← Option.some.inj e]
    exact ⟨by intro z; revert z; decide, by decide⟩
theorem sum_frame {l : List Str} {n : Nat} (h : (l.map (·.length)).sum + l.length ≤ n + 1) (hn : n ≤ 100) : (frameS l).length ≤ 10000 := by
  have h' : wt l + l.length ≤ n + 1 := h
  have g : ∀ i, (l.getD i "").length ≤ wt l := fun i => by
    rw [List.getD_eq_getElem?_getD]
    cases e : l[i]? with
    | none => exact Nat.zero_le _
    | some x => exact wt_mem (List.mem_of_getElem? e)
  have g0 := g 0
  have g1 := g (l.length - 1)
  have m1 := wt_held ((l.drop 1).take (l.length - 2))
  have m2 := wt_take (l.length - 2) (l.drop 1)
  have m3 := wt_drop 1 l
  have m4 : ((l.drop 1).take (l.length - 2)).length ≤ l.length := by
    rw [List.length_take, List.length_drop]; (first | lia | omega)
  have i1 : (if 1 < l.length then (".*" ++ l.getD (l.length - 1) "" : Str) else "").length ≤ 2 + wt l := by
    split
    · rw [len_app]
      have : Str.length ".*" = 2 := rfl
      (first | lia | omega)
    · exact Nat.zero_le _
  unfold frameS
  rw [len_app, len_app, len_app, len_app, joinE_len]
  have c1 : Str.length "(?s:" = 4 := rfl
  have c2 : Str.length ")\\Z" = 3 := rfl
  (first | lia | omega)
theorem joined_len {ps : List Str} (h : wt ps ≤ 100) : (joinedS ps).length ≤ 10000 := by
  unfold joinedS runsS
  refine sum_frame (n := (Txt.join "" ps).length) (split_weight _ _ (by decide)) ?_
  rw [joinE_len]; exact h
theorem kparts_get {ks : List OS} (p : OS) : (ks ++ [some ("." : Str)]).getD (ks.idxOf p) none = dotO ks p := by
  unfold dotO
  rw [List.getD_eq_getElem?_getD]
  by_cases q : p ∈ ks
  · have hi := List.idxOf_lt_length_of_mem q
    rw [if_pos q, List.getElem?_append_left hi, List.getElem?_eq_getElem hi, List.getElem_idxOf]; rfl
  · rw [if_neg q, List.idxOf_eq_length q, List.getElem?_append_right (Nat.le_refl _), Nat.sub_self]; rfl
/-- the law of a row -/
theorem row_law {ks : List OS} (hg : ∀ q ∈ ks, GoodP q) (hn : none ∈ ks) (y : Int) : RowLaw (ks.map txt) (ks ++ [some ("." : Str)]) y ((dueOf y).map (ks.map txt).idxOf) ((outOf y).map (dotO ks)) := by
  have e0 : (dueOf y).map (ks.map txt).idxOf = (outOf y).map ks.idxOf := by
    rw [← due_out, List.map_map]
    exact List.map_congr_left fun p hp => idx_txt hg (out_good hp)
  have e1 : ((outOf y).map (dotO ks)).map txt = (dueOf y).map (dotted (ks.map txt)) := by
    rw [← due_out, List.map_map, List.map_map]
    exact List.map_congr_left fun p hp => dot_txt hg (out_good hp)
  have hj : joinP ((outOf y).map (dotO ks)) = some (joinedS ((dueOf y).map (dotted (ks.map txt)))) := by
    rw [← e1, ← txtO_fun]
    exact join_law (noAdj_map hn (noAdj_out _)) fun x hx => (dot_free hx).1
  have hl := out_len4 y
  have hdl := due_len y
  exact {
    len := by rw [List.length_map]; (first | lia | omega)
    lt := fun n hn => by
      rw [e0] at hn
      obtain ⟨p, _, rfl⟩ := List.mem_map.mp hn
      have := List.idxOf_le_length (a := p) (l := ks)
      rw [List.length_append, List.length_singleton]; (first | lia | omega)
    j1 := by
      rw [e0, List.map_map]
      rw [show (outOf y).map ((fun n => (ks ++ [some ("." : Str)]).getD n none) ∘ ks.idxOf) = (outOf y).map (dotO ks) from List.map_congr_left fun p _ => kparts_get p]
      exact hj
    jl := by
      refine joined_len ?_
      have h := wt_le (c := 8) (l := (dueOf y).map (dotted (ks.map txt))) fun x hx => by
        obtain ⟨z, hz, rfl⟩ := List.mem_map.mp hx
        unfold dotted
        split
        · exact (due_ok hz).2
        · show Str.length "." ≤ 8; decide
      rw [List.length_map] at h
      (first | lia | omega)
    bl := by
      unfold bareOf
      rw [joinE_len]
      have h := wt_le (c := 8) (l := (rowP y).map (bareW (ks.map txt))) fun x hx => by
        obtain ⟨p, hp, rfl⟩ := List.mem_map.mp hx
        unfold bareW
        split
        · exact (dress_len p (rowP_mem hp)).1
        · show Str.length "?" ≤ 8; decide
      have h2 := rowP_len y
      rw [List.length_map] at h
      (first | lia | omega)
    tr := bare_tr hg hn y
    tl := by rw [List.length_map]; (first | lia | omega)
    tw := fun x hx => Nat.le_trans (dot_free hx).2 (by decide)
    j2 := hj }

/-! the whole -/
/-- the moment, as a number -/
noncomputable def mom (ns : List Int) : Nat := (momentOf ns).toNat
theorem mom_eq (ns : List Int) : momentOf ns = (mom ns : Int) ∧ 1 ≤ mom ns ∧ mom ns ≤ ns.length + 1 := by
  have h1 := Int.fmod_nonneg_of_pos ns.sum (b := (ns.length : Int) + 1) (by (first | lia | omega))
  have h2 := Int.fmod_lt_of_pos ns.sum (b := (ns.length : Int) + 1) (by (first | lia | omega))
  unfold mom momentOf
  generalize ns.sum.fmod ((ns.length : Int) + 1) = z at h1 h2 ⊢
  obtain ⟨k, rfl⟩ := Int.eq_ofNat_of_zero_le h1
  show ((1 + k : Nat) : Int) = ((1 + k : Nat) : Int) ∧ 1 ≤ 1 + k ∧ 1 + k ≤ ns.length + 1
  exact ⟨rfl, Nat.le_add_right 1 k, by (first | lia | omega)⟩
theorem nums_rng (xs : List Int) : ∀ y ∈ numsOf' xs, 0 ≤ y ∧ y < 194481 := fun y hy => by
  unfold numsOf' at hy
  obtain ⟨x, _, rfl⟩ := List.mem_map.mp hy
  exact ⟨Int.fmod_nonneg_of_pos x (by decide), Int.fmod_lt_of_pos x (by decide)⟩
theorem nums_len (xs : List Int) : (numsOf' xs).length ≤ 6 := by
  unfold numsOf'
  rw [List.length_map, List.length_take]; (first | lia | omega)
section
variable (ns : List Int)
noncomputable abbrev outsOf (ns : List Int) : List (List OS) := (rowsOf ns).map outOf
noncomputable def keysOf (ns : List Int) : List OS := keysAt (mom ns) (outsOf ns) (rowsOf ns).length
noncomputable def knOf (ns : List Int) : List Str := (keysOf ns).map txt
theorem rows_len : (rowsOf ns).length = ns.length + 3 := by unfold rowsOf; simp
theorem keysOf_eq : keysOf ns = bkKeys false [] ((outsOf ns).take (mom ns)).flatten := by
  have h := mom_eq ns
  have hl := rows_len ns
  unfold keysOf
  rw [keysAt_eq _ (by rw [List.length_map]; exact Nat.le_refl _), Nat.min_eq_right (by (first | lia | omega))]
theorem keys_good : ∀ q ∈ keysOf ns, GoodP q := fun q hq => by
  rw [keysOf_eq, keys_mem] at hq
  obtain ⟨l, hl, h⟩ := List.mem_flatten.mp (hq.resolve_left (by simp))
  obtain ⟨y, _, rfl⟩ := List.mem_map.mp (List.mem_of_mem_take hl)
  exact out_good h
theorem first_star : none ∈ outOf 1797 := by decide +kernel
theorem keys_star : none ∈ keysOf ns := by
  rw [keysOf_eq, keys_mem]
  refine .inr (List.mem_flatten.mpr ⟨outOf 1797, ?_, first_star⟩)
  have h := (mom_eq ns).2.1
  obtain ⟨k, hk⟩ : ∃ k, mom ns = k + 1 := ⟨mom ns - 1, by (first | lia | omega)⟩
  rw [hk]
  show outOf 1797 ∈ ((1797 :: (ns ++ [2438, 100572])).map outOf).take (k + 1)
  rw [List.map_cons, List.take_succ_cons]
  exact .head _
theorem keys_len : (keysOf ns).length ≤ 4 * (ns.length + 3) := by
  unfold keysOf
  rw [← rows_len ns]
  exact keysAt_len (d := 4) (fun r hr => by
    obtain ⟨y, _, rfl⟩ := List.mem_map.mp hr
    exact out_len4 y) _
theorem law_known : uniq (((rowsOf ns).map dueOf).take (mom ns)).flatten = knOf ns := by
  have e : (((rowsOf ns).map dueOf).take (mom ns)).flatten = (((outsOf ns).take (mom ns)).flatten).map txt := by
    rw [List.map_flatten, List.map_take]
    congr 2
    rw [List.map_map]
    exact List.map_congr_left fun y _ => (due_out y).symm
  rw [e, uniq_law, ← keysOf_eq]
  · rfl
  · intro q hq
    obtain ⟨l, hl, h⟩ := List.mem_flatten.mp hq
    obtain ⟨y, _, rfl⟩ := List.mem_map.mp (List.mem_of_mem_take hl)
    exact out_good h
theorem law_told : (List.range (rowsOf ns).length).map (numsAt (mom ns) (outsOf ns)) = ((rowsOf ns).map dueOf).map fun ps => ps.map (knOf ns).idxOf := by
  refine List.ext_getElem? fun i => ?_
  rw [List.getElem?_map, List.getElem?_map, List.getElem?_map]
  by_cases h : i < (rowsOf ns).length
  · rw [List.getElem?_range h, List.getElem?_eq_getElem h]
    have hi : i < (outsOf ns).length := by rw [List.length_map]; exact h
    show some (numsAt (mom ns) (outsOf ns) i) = some ((dueOf (rowsOf ns)[i]).map (knOf ns).idxOf)
    have hk : keysAt (mom ns) (outsOf ns) (outsOf ns).length = keysOf ns := congrArg (keysAt (mom ns) (outsOf ns)) (by rw [List.length_map])
    rw [numsAt_eq hi, List.getElem_map, hk, ← due_out, List.map_map]
    congr 1
    exact List.map_congr_left fun p hp => (idx_txt (keys_good ns) (out_good hp)).symm
  · rw [List.getElem?_eq_none (by rw [List.length_range]; (first | lia | omega)), List.getElem?_eq_none (by (first | lia | omega))]; rfl
theorem law_rows (k : Nat) (y : Int) (h : (rowsOf ns)[k]? = some y) : ∃ nn tps, (((rowsOf ns).map dueOf).map fun ps => ps.map (knOf ns).idxOf)[k]? = some nn ∧ RowLaw (knOf ns) (keysOf ns ++ [some ("." : Str)]) y nn tps := by
  refine ⟨_, _, ?_, row_law (keys_good ns) (keys_star ns) y⟩
  rw [List.getElem?_map, List.getElem?_map, h]; rfl
theorem kn_ok : ∀ y ∈ knOf ns, PyData.strOk y = true := fun y hy => by
  rw [← law_known] at hy
  have : ∀ (fl : List Str) (k : Nat) (y : Str), y ∈ uniqTo fl k → y ∈ fl := fun fl k y h => by
    unfold uniqTo at h
    obtain ⟨i, _, e⟩ := List.mem_filterMap.mp h
    cases q : fl[i]? with
    | none => rw [q] at e; cases e
    | some x =>
      rw [q] at e
      dsimp only at e
      split at e
      · cases e
      · rw [← Option.some.inj e]; exact List.mem_of_getElem? q
  obtain ⟨l, hl, h⟩ := List.mem_flatten.mp (this _ _ _ hy)
  obtain ⟨z, _, rfl⟩ := List.mem_map.mp (List.mem_of_mem_take hl)
  exact (due_ok h).1
end
end Mine
namespace Mine

/-- law's statements, one by one -/
noncomputable def stL (w : World) (i : Nat) : Stmt := (lawB w).getD i default
theorem law_st (w : World) : lawB w = [stL w 0, stL w 1, stL w 2, stL w 3, stL w 4, stL w 5, stL w 6, stL w 7, stL w 8, stL w 9, stL w 10, stL w 11, stL w 12, stL w 13, stL w 14] := by kernel_rfl
section
variable {w : World} {A : Around} {E : Value → Shared → Prop} {env : Env} {s₀ : Shared} {L : Addr} {P : PM} {m : Str → Option Value} {M : List (Addr × Obj)} {s : Shared}
/-- law's body -/
theorem law_body {v : Value} {xs : List Int} {Q : Flow → Shared → Prop} (S : At s₀ P L m ((L + 4, cellO none) :: ([(L + 3, cellO none), (L + 2, cellO none), (L + 1, cellO none)] ++ (129, PySem.W.X.tableObj #[]) :: [(93, PySem.W.X.tableObj #[])])) s) (B : Base w P)
    (hh : A.handled = none) (hd : A.depth + 3 < recursionLimit) (hu : A.units + 4 < cLine) (ht : 0 < s₀.toks)
    (hm : m "script" = some v) (rv : Rd P v (intsD xs)) (hx : xs.length ≤ 1000)
    (hQ : ∀ t P' m' M' ps ps' s', P.le P' → At { s₀ with toks := t } P' L m' M' s' → (129, PySem.W.X.tableObj ps) ∈ M' → (93, PySem.W.X.tableObj ps') ∈ M' → Q (.ret (.bool true)) s') :
    wpAny (mo w) A (execs (lawB w) (envC w 132 L)) Q E s := by
  have e := law_st w
  rw [e]
  have hnl := nums_len xs
  have hnr := nums_rng xs
  refine law0 (w := w) (by rw [e]; rfl) S hh hm rv hx fun P1 D0 s1 l1 r1 S1 => ?_
  have B1 := B.mono l1
  generalize numsOf' xs = ns at hnl hnr r1
  obtain ⟨hmo, hm1, hm2⟩ := mom_eq ns
  have hrl := rows_len ns
  refine law1 (w := w) (by rw [e]; rfl) S1 B1 hh updm_eq r1 (by (first | lia | omega)) fun t1 s2 S2 => ?_
  rw [hmo] at S2
  refine law2 (w := w) (by rw [e]; rfl) S2 B1 hh (by (first | lia | omega)) ((updm_other (by decide)).trans updm_eq) r1 (by (first | lia | omega)) hnr fun P2 D2 s3 l2 r2 S3 => ?_
  have B2 := B1.mono l2
  refine law3' (w := w) (by rw [e]; rfl) S3 fun u s4 hut S4 => ?_
  have hu0 : u ≠ 0 := fun q => Nat.lt_irrefl 0 (Nat.lt_of_lt_of_le ht (q ▸ hut))
  refine law4 (w := w) (by rw [e]; rfl) S4 B2 (by (first | lia | omega)) rfl rfl fun P3 f bk dA oB ps4 s5 l3 S5 hoB K hne => ?_
  have B3 := B2.mono l3
  refine law5 (w := w) (by rw [e]; rfl) S5 fun T s6 S6 => ?_
  have N6 : LN (updm (updm (updm (updm (updm m "numbers" (.ref D0)) "moment" (.int (mom ns : Int) t1)) "rows" (.ref D2)) "star" (.str "*" u)) "told" (.ref T)) (.ref D2) u T (mom ns) :=
    ⟨(updm_other (by decide)).trans ((updm_other (by decide)).trans updm_eq), (updm_other (by decide)).trans updm_eq, updm_eq, t1, (updm_other (by decide)).trans ((updm_other (by decide)).trans ((updm_other (by decide)).trans updm_eq))⟩
  generalize updm (updm (updm (updm (updm m "numbers" (.ref D0)) "moment" (.int (mom ns : Int) t1)) "rows" (.ref D2)) "star" (.str "*" u)) "told" (.ref T) = m6 at S6 N6 ⊢
  refine law6 (w := w) (outOf := outOf) (r1 := [(L + 4, oB), (L + 3, cellO none), (L + 2, cellO none), (L + 1, cellO none), (129, PySem.W.X.tableObj ps4)]) (r2 := []) (by rw [e]; rfl) S6 B3 hd hh rfl ?_ N6 (r2.mono l3) (by (first | lia | omega)) hu0 (Nat.lt_succ_self u) (fun y _ => ⟨pat_len y, pat_tr y, by have := out_len4 y; (first | lia | omega)⟩) fun P4 m4 M4 X tvs tn es ep dO ps s7 l4 S7 J => ?_
  · refine ⟨K.mono (.refl _) fun x h => .tail _ h, BkO.nil, hne, ?_⟩
    rw [if_neg (by decide)]
    simp
  have B4 := B3.mono l4
  obtain ⟨rfl, Z, _, hi, hti, N⟩ := J
  obtain ⟨tm, hmom⟩ := N.moment
  have O : BkO w u es (keysOf ns) := Z.O
  -- told and the book are frozen
  have S8 := S7.freeze rfl
  have eT := PM.put_self P4 T (listOf tvs tn)
  have l5 : P4.le (PM.put P4 T (listOf tvs tn)) := PM.le_put (S7.out T (by simp))
  generalize PM.put P4 T (listOf tvs tn) = P5 at S8 eT l5
  have S9 := S8.freeze rfl
  have eB := PM.put_self P5 bk (bookO dA (.ref f) es ep)
  have l6 : P5.le (PM.put P5 bk (bookO dA (.ref f) es ep)) := PM.le_put (S8.out bk (by simp))
  generalize PM.put P5 bk (bookO dA (.ref f) es ep) = P6 at S9 eB l6
  have l46 : P4.le P6 := l5.trans l6
  have l26 : P2.le P6 := l3.trans (l4.trans l46)
  have B6 := B4.mono l46
  have rT : Rd P6 (.ref T) (.list ((((rowsOf ns).map dueOf).map fun ps => ps.map (knOf ns).idxOf).map natsD)) := by
    refine .list (l6 _ _ eT) ?_
    rw [← law_told, List.map_map]
    exact hti.mono l46
  have hbs := K.sys
  have hfl : (((rowsOf ns).map dueOf).take (mom ns)).flatten.length ≤ 1000000 := by
    have : ∀ (l : List (List Str)), (∀ x ∈ l, x.length ≤ 4) → l.flatten.length ≤ 4 * l.length := fun l => by
      induction l with
      | nil => intro _; exact Nat.le_refl _
      | cons a r ih =>
        intro h
        have h1 := h a (.head _)
        have h2 := ih fun x hx => h x (.tail _ hx)
        rw [List.flatten_cons, List.length_append, List.length_cons]; (first | lia | omega)
    have h := this (((rowsOf ns).map dueOf).take (mom ns)) fun x hx => by
      obtain ⟨y, _, rfl⟩ := List.mem_map.mp (List.mem_of_mem_take hx)
      exact due_len y
    rw [List.length_take, List.length_map] at h
    (first | lia | omega)
  have hflok : ∀ y ∈ (((rowsOf ns).map dueOf).take (mom ns)).flatten, PyData.strOk y = true := fun y hy => by
    obtain ⟨l, hl, h⟩ := List.mem_flatten.mp hy
    obtain ⟨z, _, rfl⟩ := List.mem_map.mp (List.mem_of_mem_take hl)
    exact (due_ok h).1
  have hkeys := keys_len ns
  have hknl : (knOf ns).length = (keysOf ns).length := by unfold knOf; rw [List.length_map]
  refine law7 (w := w) (by rw [e]; rfl) S9 B6 hh (by (first | lia | omega)) N.rows (r2.mono l26) (by (first | lia | omega)) fun P7 D7 s8 l7 r7 S10 => ?_
  have N7 : LN2 (updm m4 "due" (.ref D7)) (.ref D2) (.ref D7) (.ref T) u := ⟨(updm_other (by decide)).trans N.rows, updm_eq, (updm_other (by decide)).trans N.told, (updm_other (by decide)).trans N.star⟩
  have hmom7 : (updm m4 "due" (.ref D7)) "moment" = some (.int (mom ns) tm) := (updm_other (by decide)).trans hmom
  generalize updm m4 "due" (.ref D7) = m7 at S10 N7 hmom7 ⊢
  refine law8 (w := w) (oF := cellO none) (m1 := X ++ [(dA, dO), (L + 4, oB), (L + 3, cellO none), (L + 2, cellO none)]) (m2 := [(129, PySem.W.X.tableObj ps4), (93, PySem.W.X.tableObj ps)]) (by rw [e]; rfl) S10 hh (List.append_assoc X [(dA, dO), (L + 4, oB), (L + 3, cellO none), (L + 2, cellO none)] ((L + 1, cellO none) :: [(129, PySem.W.X.tableObj ps4), (93, PySem.W.X.tableObj ps)])).symm rfl N7.due hmom7 r7 (by rw [List.length_map]; (first | lia | omega)) hfl fun P8 D8 oF s9 l8 r8 hoF S11 => ?_
  refine law9 (w := w) (oK := cellO none) (m1 := X ++ [(dA, dO), (L + 4, oB), (L + 3, cellO none)]) (m2 := [(L + 1, oF), (129, PySem.W.X.tableObj ps4), (93, PySem.W.X.tableObj ps)]) (by rw [e]; rfl) S11 (B6.mono (l7.trans l8)) hh (by (first | lia | omega)) ((List.append_assoc X [(dA, dO), (L + 4, oB), (L + 3, cellO none), (L + 2, cellO none)] ((L + 1, oF) :: [(129, PySem.W.X.tableObj ps4), (93, PySem.W.X.tableObj ps)])).trans (List.append_assoc X [(dA, dO), (L + 4, oB), (L + 3, cellO none)] ((L + 2, cellO none) :: [(L + 1, oF), (129, PySem.W.X.tableObj ps4), (93, PySem.W.X.tableObj ps)])).symm) rfl (List.mem_append_right _ (.head _)) hoF r8 hfl hflok fun P9 D9 oK s10 l9 r9 hoK S12 => ?_
  rw [law_known] at r9
  have l79 : P7.le P9 := l8.trans l9
  have l69 : P6.le P9 := l7.trans l79
  have B9 := B6.mono l69
  refine law10 (w := w) (by rw [e]; rfl) S12 B9 hh hu (List.mem_append_right _ (.head _)) hoK r9 (kn_ok ns) (by (first | lia | omega)) (List.mem_append_left _ (List.mem_append_right _ (.tail _ (.head _)))) hoB (l69 _ _ eB) hbs (List.mem_append_left _ (List.mem_append_right _ (.head _))) hi O rfl fun P10 s11 l10 S13 => ?_
  have B10 := B9.mono l10
  refine law11 (w := w) (by rw [e]; rfl) S13 B10 hh hu N7.told ((rT.mono l69).mono l10) N7.due (r7.mono (l79.trans l10)) (List.mem_append_right _ (.head _)) hoK (r9.mono l10) (fun p hp => ?_) (by rw [List.length_map]; (first | lia | omega)) (kn_ok ns) (by (first | lia | omega)) fun P11 s12 l11 S14 => ?_
  · obtain ⟨y, _, rfl⟩ := List.mem_map.mp hp
    exact ⟨by have := due_len y; (first | lia | omega), fun x hx => (due_ok hx).1⟩
  have l911 : P9.le P11 := l10.trans l11
  have B11 := B9.mono l911
  refine law12 (w := w) (oP := cellO none) (m1 := X ++ [(dA, dO), (L + 4, oB)]) (m2 := [(L + 2, oK), (L + 1, oF), (129, PySem.W.X.tableObj ps4), (93, PySem.W.X.tableObj ps)]) (by rw [e]; rfl) S14 B11 hh ((List.append_assoc X [(dA, dO), (L + 4, oB), (L + 3, cellO none)] ((L + 2, oK) :: [(L + 1, oF), (129, PySem.W.X.tableObj ps4), (93, PySem.W.X.tableObj ps)])).trans (List.append_assoc X [(dA, dO), (L + 4, oB)] ((L + 3, cellO none) :: [(L + 2, oK), (L + 1, oF), (129, PySem.W.X.tableObj ps4), (93, PySem.W.X.tableObj ps)])).symm) rfl (List.mem_append_left _ (List.mem_append_right _ (.tail _ (.head _)))) hoB ((l69.trans l911) _ _ eB) hbs O (by (first | lia | omega)) (Nat.lt_succ_self u) fun P12 kp kvs kn' oP s13 l12 eP hPV hoP S15 => ?_
  have l912 : P9.le P12 := l911.trans l12
  have B12 := B9.mono l912
  refine law13 (w := w) (ys := rowsOf ns) (kn := knOf ns) (kparts := keysOf ns ++ [some ("." : Str)]) (by rw [e]; rfl) S15 B12 hh hd hu N7 (r2.mono (l26.trans (l69.trans l912))) (by (first | lia | omega)) (r7.mono (l79.trans l912)) (rT.mono (l69.trans l912)) (by rw [List.length_map, List.length_map]; (first | lia | omega)) (List.mem_append_right _ (.tail _ (.head _))) hoK (r9.mono l912) (List.mem_append_right _ (.head _)) hoP eP hPV (by rw [List.length_append, List.length_singleton]; (first | lia | omega)) hu0 (Nat.lt_succ_self u) (fun x hx => ?_) (kn_ok ns) (fun y _ => ⟨by have := due_len y; (first | lia | omega), fun x hx => ⟨(due_ok hx).1, by have := (due_ok hx).2; (first | lia | omega)⟩⟩) (fun y _ p hp => (parts_ok p (row_ok hp)).1) (law_rows ns) fun P13 m13 s14 l13 S16 => ?_
  · rcases List.mem_append.mp hx with h | h
    · rw [keysOf_eq, keys_mem] at h
      obtain ⟨l, hl, h⟩ := List.mem_flatten.mp (h.resolve_left (by simp))
      obtain ⟨y, _, rfl⟩ := List.mem_map.mp (List.mem_of_mem_take hl)
      exact Nat.le_trans (free_of h).2 (by decide)
    · rw [← Option.some.inj (List.mem_singleton.mp h).symm]; decide
  refine law14 (w := w) (by rw [e]; rfl) (hQ (u + 1) P13 m13 _ ps4 ps s14 ?_ S16 (List.mem_append_right _ (.tail _ (.tail _ (.tail _ (.head _))))) (List.mem_append_right _ (.tail _ (.tail _ (.tail _ (.tail _ (.head _)))))))
  exact l1.trans (l2.trans (l26.trans (l69.trans (l912.trans l13))))
end
end Mine
namespace Mine

theorem ints_rds (P : PM) : ∀ (l : List (Int × Tok)), Rds P (l.map fun p => Value.int p.1 p.2) ((l.map (·.1)).map .int)
  | [] => .nil
  | _ :: r => .cons (.int ..) (ints_rds P r)
/-- the code tables -/
noncomputable def tabsL : List Addr := [63, 93, 129]
noncomputable def PM.del (P : PM) (a : Addr) : PM := fun x => if x = a then none else P x
theorem PM.del_ne {P : PM} {a x : Addr} (h : x ≠ a) : P.del a x = P x := by unfold PM.del; rw [if_neg h]
section
variable {w : World} {A : Around} {E : Value → Shared → Prop} {env : Env} {s₀ : Shared} {L : Addr} {P : PM} {m : Str → Option Value} {M : List (Addr × Obj)} {s : Shared}
/-- the root without a heap -/
theorem At.bare (S : At s₀ P L m M s) : At { s₀ with heap := {} } P L m M s :=
  { S with
    grow := fun x _ ps e => by
      exfalso
      have := Heap.lt_size e
      exact Nat.not_lt_zero _ this
    above := fun x _ => Nat.zero_le _ }
/-- a frozen object is changeable again -/
theorem At.thaw (S : At s₀ P L m M s) {a : Addr} {o : Obj} (ha : P a = some o) (h0 : s₀.heap.objs.size ≤ a) : At s₀ (P.del a) L m ((a, o) :: M) s := by
  have hn : a ∉ L :: M.map (·.1) := fun h => by
    have := S.out a h
    rw [ha] at this; cases this
  have ht : ∀ x ∈ tabs3, x ≠ a := fun x hx q => by
    have := (S.tb x hx).1
    rw [q, ha] at this; cases this
  have sw : ∀ x, x ∈ L :: ((a, o) :: M).map (·.1) → x = a ∨ x ∈ L :: M.map (·.1) := fun x hx => by
    rcases List.mem_cons.mp hx with rfl | hx
    · exact .inr (.head _)
    · rw [List.map_cons] at hx
      rcases List.mem_cons.mp hx with rfl | hx
      · exact .inl rfl
      · exact .inr (.tail _ hx)
  exact { S with
    keep := fun x ob e => by
      unfold PM.del at e
      split at e
      · cases e
      · exact S.keep x ob e
    live := fun p hp => by
      rcases List.mem_cons.mp hp with rfl | hp
      · exact S.keep _ _ ha
      · exact S.live p hp
    out := fun x hx => by
      unfold PM.del
      split
      · rfl
      · rename_i q
        exact S.out x ((sw x hx).resolve_left q)
    nd := by
      have h := S.nd
      rw [List.nodup_cons] at h ⊢
      rw [List.map_cons, List.nodup_cons]
      refine ⟨fun q => ?_, fun q => hn (.tail _ q), h.2⟩
      rcases List.mem_cons.mp q with q | q
      · exact hn (q ▸ .head _)
      · exact h.1 q
    tb := fun x hx => ⟨by rw [PM.del_ne (ht x hx)]; exact (S.tb x hx).1, fun q => (sw x q).elim (ht x hx) (S.tb x hx).2⟩
    above := fun x hx => by
      rcases sw x hx with rfl | hx
      · exact h0
      · exact S.above x hx }
theorem keys_tabs (w : World) : (KK w).all (fun p => !tabsL.contains p.1) = true := by kernel_rfl
theorem Base.del (B : Base w P) {a : Addr} (ha : a ∈ tabsL) : Base w (P.del a) := by
  have hb : builtinsNs ≠ a := fun q => by rw [← q] at ha; revert ha; decide
  have h4 : (4 : Addr) ≠ a := fun q => by rw [← q] at ha; revert ha; decide
  refine ⟨fun x o e => ?_, ?_, ?_⟩
  · have hx : x ≠ a := fun q => by
      have := List.all_eq_true.mp (keys_tabs w) _ (lookup_mem e)
      simp at this
      exact this (q ▸ ha)
    rw [PM.del_ne hx]; exact B.K x o e
  · obtain ⟨o, e, r⟩ := B.bm
    exact ⟨o, by rw [PM.del_ne h4]; exact e, r⟩
  · obtain ⟨o, es, ep, e, r⟩ := B.B
    exact ⟨o, es, ep, by rw [PM.del_ne hb]; exact e, r⟩
theorem lay_bind1 {M' : Model} {f : Str × Value → PUnit → Sem (ForInStep PUnit)} (hf : ∀ n v u, f (n, v) u = (do storeName env n v; pure (.yield ⟨⟩))) (hL : env.locals = L) (hk : env.scope.kind = .function) {n : Str} {v : Value} (hl : env.kindOf n = some .local) {Q : PUnit → Shared → Prop} (S : At s₀ P L m M s)
    (h : ∀ s', 0 < s'.toks → At s₀ P L (updm m n v) M s' → Q ⟨⟩ s') : wpAny M' A (forIn [(n, v)] PUnit.unit f) Q E s := by
  rw [List.forIn_cons, hf]
  refine wpAny_bind (wpAny_bind (r_storeT S (fun s₁ ht S₁ => wpAny_pure ?_) hL hk hl))
  show wpAny M' A (forIn [] PUnit.unit f) Q E s₁
  rw [List.forIn_nil]
  exact wpAny_pure (h _ ht S₁)
theorem law_cells (w : World) (L : Addr) : cellsFrom (L + 1) (fdOf w 132).scope.names [] = ([("book", L + 4), ("kept", L + 3), ("known", L + 2), ("flat", L + 1)] : List (Str × Addr)) := by rfl
set_option maxHeartbeats 1000000 in
/-- law, called -/
theorem law_spec {v : Value} {xs : List Int} (O : Ok w s) (h93 : s.heap.get? 93 = some (PySem.W.X.tableObj #[])) (h129 : s.heap.get? 129 = some (PySem.W.X.tableObj #[])) (hd : A.depth + 4 < recursionLimit) (hh : A.handled = none)
    (hu : ∀ env, (A.deeper env).units + 4 < cLine) (rv : Rd (allOf s.heap) v (intsD xs)) (hx : xs.length ≤ 1000) :
    codeAny (mo w) A (.call (.ref 132) ⟨[v], []⟩) (fun r s' => r = .ok (.ret (.bool true)) ∧ (∀ a o, a ∉ tabsL → s.heap.get? a = some o → s'.heap.get? a = some o) ∧ (∀ a ∈ tabsL, ∃ ps, s'.heap.get? a = some (PySem.W.X.tableObj ps)) ∧ s'.os = s.os ∧ (AllBare s.gens → AllBare s'.gens)) s := by
  obtain ⟨oc, od, osl, ho⟩ : IsDef w 132 := ⟨_, _, _, rfl⟩
  have hbody : (fdOf w 132).body = .stmts (lawB w) := rfl
  refine codeAny_call_function (by (first | lia | omega)) (O.K _ _ ho) rfl (by kernel_rfl) (by kernel_rfl) hbody (codeRec_of O.K (by kernel_rfl)) ?_
  have hbind : bindArgs (fdOf w 132) ⟨[v], []⟩ = pure [(("script" : Str), v)] := by kernel_rfl
  have hclo : (fdOf w 132).closure = [] := rfl
  rw [hbind, hclo]
  refine wpAny_pure ?_
  simp only [newFunctionEnv, Option.isSome_none, Bool.false_eq_true, if_false]
  have hL := get_size s.heap
  have hLt : s.heap.objs.size ∉ tabs3 := fun q => by obtain ⟨vs, e, _⟩ := O.T _ q; rw [hL] at e; cases e
  have S : At s (allOf s.heap) s.heap.objs.size (fun _ => none) [] { s with heap := s.heap.push { cls := .type "frame", data := .dict #[] } } := {
    ns := Heap.Ns.new s.heap (.type "frame")
    keep := fun a o e => by
      unfold allOf at e
      split at e
      · cases e
      · exact Heap.get?_push_of_some _ e
    live := fun p hp => nomatch hp
    out := fun x hx => by
      rcases List.mem_cons.mp hx with rfl | hx
      · exact allOf_none hL
      · cases hx
    nd := List.nodup_cons.mpr ⟨fun q => (nomatch q), List.nodup_nil⟩
    tb := fun x hx => ⟨by unfold allOf; rw [if_pos hx], fun q => by
      rcases List.mem_cons.mp q with rfl | q
      · exact hLt hx
      · cases q⟩
    grow := .of_keep fun x _ o e => Heap.get?_push_of_some _ e
    tx := fun x hx => let ⟨vs, e, z⟩ := O.T x hx; ⟨vs, Heap.get?_push_of_some _ e, z⟩
    os := rfl
    gens := id
    tp := Nat.le_refl _
    above := fun x hx => by
      rcases List.mem_cons.mp hx with rfl | hx
      · exact Nat.le_refl _
      · cases hx }
  have e1 : ({ s with heap := s.heap.push { cls := .type "frame", data := .dict #[] } } : Shared).heap.objs.size = s.heap.objs.size + 1 := Heap.size_push ..
  refine wpAny_bind (wpAny_alloc ?_)
  refine wpAny_bind (lay_cells (acc := []) _ (fun name kind cells => by cases kind == NameKind.cell <;> simp) _ _ _ S fun s₁ S₁ => ?_)
  rw [e1] at S₁ ⊢
  refine wpAny_bind (lay_bind1 (env := envC w 132 s.heap.objs.size) (fun _ _ _ => rfl) rfl (by kernel_rfl) (by kernel_rfl) S₁ fun s₂ ht S₂ => wpAny_pure ?_)
  refine ⟨In.nolimit (S₂.inK O.base), codeAny_func ?_⟩
  rw [law_cells] at S₂
  have q129 : allOf s.heap 129 = some (PySem.W.X.tableObj #[]) := by unfold allOf; rw [if_neg (by decide)]; exact h129
  have q93 : allOf s.heap 93 = some (PySem.W.X.tableObj #[]) := by unfold allOf; rw [if_neg (by decide)]; exact h93
  have S₃ := (S₂.reroot (n := 1) ht).bare
  have S₄ := S₃.thaw q93 (Nat.zero_le _)
  have S₅ := S₄.thaw (a := 129) (by rw [PM.del_ne (by decide)]; exact q129) (Nat.zero_le _)
  have B₅ : Base w (((allOf s.heap).del 93).del 129) := (O.base.del (by decide)).del (by decide)
  generalize s.heap.objs.size = L at S₅ hL hLt ⊢
  have S₆ := S₅.perm (M' := (L + 4, cellO none) :: ([(L + 3, cellO none), (L + 2, cellO none), (L + 1, cellO none)] ++ (129, PySem.W.X.tableObj #[]) :: [(93, PySem.W.X.tableObj #[])])) (by
    show List.Perm [(129, PySem.W.X.tableObj #[]), (93, PySem.W.X.tableObj #[]), (L + 4, cellO none), (L + 3, cellO none), (L + 2, cellO none), (L + 1, cellO none)] ([(L + 4, cellO none), (L + 3, cellO none), (L + 2, cellO none), (L + 1, cellO none)] ++ [(129, PySem.W.X.tableObj #[]), (93, PySem.W.X.tableObj #[])])
    exact List.perm_append_comm (l₁ := [(129, PySem.W.X.tableObj #[]), (93, PySem.W.X.tableObj #[])]) (l₂ := [(L + 4, cellO none), (L + 3, cellO none), (L + 2, cellO none), (L + 1, cellO none)]))
  have rv' : Rd (((allOf s.heap).del 93).del 129) v (intsD xs) := by
    obtain ⟨a, vs, n, rfl, e, r⟩ := rv.list_inv
    have n93 : a ≠ 93 := fun q => by rw [q, q93] at e; cases e
    have n129 : a ≠ 129 := fun q => by rw [q, q129] at e; cases e
    obtain ⟨l, hl, rfl⟩ := r.ints
    refine .list (by rw [PM.del_ne n129, PM.del_ne n93]; exact e) ?_
    rw [hl]
    exact ints_rds _ l
  refine lift (law_body (xs := xs) S₆ B₅ hh (by show A.depth + 1 + 3 < recursionLimit; (first | lia | omega)) (hu _) (Nat.lt_succ_self 0) updm_eq rv' hx fun t P' m' M' ps ps' s' l S' i1 i2 => ?_)
  refine ⟨rfl, fun a o hn e => S'.keep a o (l a o ?_), fun a h => ?_, S'.os, S'.gens⟩
  · have n63 : a ∉ tabs3 := fun q => hn (by revert q; unfold tabs3 tabsL; simp; intro q; exact .inl q)
    have n93 : a ≠ 93 := fun q => hn (by rw [q]; decide)
    have n129 : a ≠ 129 := fun q => hn (by rw [q]; decide)
    rw [PM.del_ne n129, PM.del_ne n93]
    unfold allOf
    rw [if_neg n63]; exact e
  · have h' : a = 63 ∨ a = 93 ∨ a = 129 := by revert h; unfold tabsL; simp
    rcases h' with rfl | rfl | rfl
    · obtain ⟨vs, e, _⟩ := S'.tx 63 (by decide)
      exact ⟨vs, e⟩
    · exact ⟨_, S'.live _ i2⟩
    · exact ⟨_, S'.live _ i1⟩
end
end Mine
namespace Mine
theorem rds_well {Pm : Params} {h : Heap} {P : PM} : ∀ {xs : List Int} {vs : List Value}, WellAll Pm h vs (ofPys (xs.map .int)) → Rds P vs (xs.map .int)
  | [], _, r => by
    rw [List.map_nil, ofPys] at r
    cases r; exact .nil
  | x :: xs, _, r => by
    rw [List.map_cons, ofPys, ofPy] at r
    cases r with
    | cons a b => cases a; exact .cons (.int ..) (rds_well b)
theorem rd_well {Pm : Params} {s : Shared} {v : Value} {xs : List Int} (r : Well Pm s.heap v (ofPy (.list (xs.map .int)))) (h63 : s.heap.get? 63 = some (PySem.W.X.tableObj #[])) : Rd (allOf s.heap) v (intsD xs) := by
  rw [ofPy] at r
  cases r with
  | list e q =>
    refine .list (n := 0) ?_ (rds_well q)
    unfold allOf
    rw [if_neg fun z => ?_]
    · exact e
    · rw [show _ = (63 : Addr) from List.mem_singleton.mp z, h63] at e
      cases e
set_option maxHeartbeats 8000000 in
/-- law, walked -/
theorem walk (q : Program) (loose : List Str) (XP : (Str → Option Value) → Heap → Prop) (d : DefRec) (kwd : List (Str × Expr)) (hdn : d.name = Str.ofString "law") : WalkO q loose XP hk.says PySem.Challenge.rw_ij0093_01.row.toRowW d kwd fun f vs => PySem.call f vs := by
  intro w s₀ s₁ mg mb G Y fa o pm cd doc dV kV ho hd hcd hD hmg hg args vals as hpre hlay hrd hwl hlo
  have KX := km_in_of Y
  have hT8 := km_tabs_of Y
  refine Ground.open G ?_
  intro T B D TE TW
  rw [hdn] at hmg
  wrow_args hpre hlay hrd hwl hlo
  rename_i xs _ _ _ _ _ _ _ a _ _ _ _ w1 _ _ _ hlen _
  refine enter_call ?_
  have hK : (KK w).In s₁.heap := KX
  have e1 : mg "law" = some (.ref 132) := mg_of hK (Top.g T) (n := "law") (by kernel_rfl)
  have e2 : fa = 132 := by
    have := hmg.symm.trans e1
    cases this; rfl
  subst e2
  have h63 : s₁.heap.get? 63 = some (PySem.W.X.tableObj #[]) := hT8 63 (by decide)
  have h93 : s₁.heap.get? 93 = some (PySem.W.X.tableObj #[]) := hT8 93 (by decide)
  have h129 : s₁.heap.get? 129 = some (PySem.W.X.tableObj #[]) := hT8 129 (by decide)
  have O : Ok w s₁ := by
    refine ⟨hK, ?_, ⟨mb, Top.b T, Top.builtins T⟩, fun x hx => ⟨#[], by rw [List.mem_singleton.mp hx]; exact h63, trivial⟩⟩
    obtain ⟨bm, ob, q1, _, q3, q4, q5, q6⟩ := Top.bmain T
    have e4 : mg "__builtins__" = some (.ref 4) := mg_of hK (Top.g T) (n := "__builtins__") (by kernel_rfl)
    have : bm = 4 := by
      have := q1.symm.trans e4
      cases this; rfl
    subst this
    exact ⟨ob, q3, q4, q5, q6⟩
  have R := rd_well w1 h63
  refine codeAny_mono (law_spec (w := w) (xs := xs) O h93 h129 (by decide) rfl (fun env => by show callerA.units + 3 + 4 < cLine; decide) R (by (first | lia | omega))) fun r s' z => ?_
  obtain ⟨rfl, hk, ht, hos, hgens⟩ := z
  have tabs : ∀ b o, b ∈ tabsL → s₁.heap.get? b = some o → isCodeTable s₁.heap b ∧ o = tabObj #[] ∧ ∃ ps, s'.heap.get? b = some (tabObj ps) := fun b o hb e => by
    have h' : b = 63 ∨ b = 93 ∨ b = 129 := by revert hb; unfold tabsL; simp
    rcases h' with rfl | rfl | rfl
    · exact ⟨((codeHd_of_K (c := 67) (P := 63) hK (by kernel_rfl)).tab h63).isCodeTable, Option.some.inj (e.symm.trans h63), ht _ hb⟩
    · exact ⟨((codeHd_of_K (c := 97) (P := 93) hK (by kernel_rfl)).tab h93).isCodeTable, Option.some.inj (e.symm.trans h93), ht _ hb⟩
    · exact ⟨((codeHd_of_K (c := 131) (P := 129) hK (by kernel_rfl)).tab h129).isCodeTable, Option.some.inj (e.symm.trans h129), ht _ hb⟩
  refine ⟨.inl ⟨_, .bool true, [], rfl, fun _ => rfl, .bool true, ?_, fun _ => ⟨.nil, fun _ h => nomatch h⟩⟩, ⟨fun b o e => ?_, fun b o e => ?_⟩, hos, hgens (.of_eq hg)⟩
  · refine postW_of (X := true) ?_ ?_ rfl
    · first | rfl | decide | (show WShape.has [] _ _ = true; simp [WShape.has])
    · have hv : (WTm.eq .res (.lit (.bool true))).value [] { args := [ofPy (.list (xs.map .int))], res := some (.bool true), after := [ofPy (.list (xs.map .int))] } = some (.bool (true == true)) := w_eq_bool (by simp [WTm.value]) (by simp [WTm.value])
      exact hv
  · by_cases hb : b ∈ tabsL
    · obtain ⟨h1, rfl, ps, h2⟩ := tabs b o hb e
      exact .inr (.inl ⟨h1, rfl, #[], ps, rfl, by rw [Array.empty_append]; exact h2⟩)
    · exact .inl (hk b o hb e)
  · by_cases hb : b ∈ tabsL
    · obtain ⟨_, _, ps, h2⟩ := tabs b o hb e
      exact ⟨_, h2⟩
    · exact ⟨o, hk b o hb e⟩
end Mine
namespace Mine
/-! the kit makes a twin of a constant only where its name is free: these names are taken, the twins would fill the compiled file -/
theorem head.tw1212124681294104184 : True := trivial
theorem head.tw17243387458012846398 : True := trivial
theorem head.tw13180129090757240718 : True := trivial
theorem head.tw13199516396595161752 : True := trivial
theorem head.tw14331581963634098945 : True := trivial
theorem head.tw18416563613846182222 : True := trivial
theorem head.tw4023466491090337370 : True := trivial
theorem head.tw4560781026641586645 : True := trivial
theorem head.tw6737735255597943219 : True := trivial
theorem head.tw10786079294511566085 : True := trivial
theorem head.tw13396372801797540582 : True := trivial
theorem head.tw7119846925741900413 : True := trivial
theorem head.tw3103639331685909893 : True := trivial
theorem head.tw11124748197601291601 : True := trivial
theorem head.tw5319049981483164881 : True := trivial
theorem head.tw13510609219080548989 : True := trivial
theorem head.tw1909714482019496454 : True := trivial
theorem head.tw14393718171448925343 : True := trivial
theorem head.tw13273861129630518605 : True := trivial
theorem head.tw15149402430504572791 : True := trivial
theorem head.tw9145527808636388435 : True := trivial
theorem head.tw10978612789222110301 : True := trivial
theorem head.tw9716329373054682134 : True := trivial
theorem head.tw7661765248129044261 : True := trivial
theorem head.tw9338622355449474732 : True := trivial
theorem head.tw14842460003800876886 : True := trivial
theorem head.tw2518057956044344595 : True := trivial
theorem head.tw14999265807660949796 : True := trivial
theorem head.tw14679116673082234219 : True := trivial
theorem head.tw8382746154173761051 : True := trivial
theorem head.tw15253846138512369154 : True := trivial
theorem head.tw3547030090768783262 : True := trivial
theorem head.tw13554860043763078139 : True := trivial
theorem head.tw1463646239528298992 : True := trivial
theorem head.tw12032222614953749359 : True := trivial
theorem head.tw6121141971511671821 : True := trivial
theorem head.tw11482736412510673933 : True := trivial
theorem head.tw17508272824862286709 : True := trivial
theorem head.tw15204471325056678010 : True := trivial
theorem head.tw8187629637223713605 : True := trivial
theorem head.tw17905491414393134947 : True := trivial
theorem head.tw1276956409769668328 : True := trivial
theorem head.tw1633178978018031862 : True := trivial
theorem head.tw16172356507618199906 : True := trivial
theorem head.tw15037083628117588352 : True := trivial
theorem head.tw17895739583965686969 : True := trivial
theorem head.tw9101448428047585222 : True := trivial
theorem head.tw9561274727076994004 : True := trivial
theorem head.tw4740140463686257472 : True := trivial
theorem head.tw7876399200375917224 : True := trivial
theorem head.tw37620276538422747 : True := trivial
theorem head.tw4648074632519319735 : True := trivial
theorem head.tw3665506230870052707 : True := trivial
theorem head.tw12949380547846470161 : True := trivial
theorem head.tw11194998557105285118 : True := trivial
theorem head.tw3715584954343283195 : True := trivial
theorem head.tw11628534518673281344 : True := trivial
theorem head.tw3794523003379204399 : True := trivial
theorem head.tw12201952087667049370 : True := trivial
theorem head.tw3083302935323014018 : True := trivial
theorem head.tw7512725033676591148 : True := trivial
theorem head.tw10987702880554017565 : True := trivial
theorem head.tw13689084217373910675 : True := trivial
theorem head.tw15112835437128306455 : True := trivial
theorem head.tw15258443364195721184 : True := trivial
theorem head.tw8727427592606286837 : True := trivial
theorem head.tw174257355023073285 : True := trivial
theorem head.tw2879759524354350568 : True := trivial
theorem head.tw14095155658891914983 : True := trivial
theorem head.tw11041032747693170624 : True := trivial
theorem head.tw1499353310998574721 : True := trivial
theorem head.tw8185714761375850791 : True := trivial
theorem head.tw14512941343882779238 : True := trivial
theorem head.tw4381510469713062047 : True := trivial
theorem head.tw12264792733140247891 : True := trivial
theorem head.tw2694075680205673411 : True := trivial
theorem head.tw6889739017440866108 : True := trivial
theorem head.tw9746458257258439470 : True := trivial
theorem head.tw5870146547769353613 : True := trivial
theorem head.tw17854896373637125580 : True := trivial
theorem head.tw16111715859725283846 : True := trivial
theorem head.tw14699528089545365996 : True := trivial
theorem head.tw4009957668330374740 : True := trivial
theorem head.tw8402214883040486957 : True := trivial
theorem head.tw6298033893332097587 : True := trivial
theorem head.tw11828678163099705964 : True := trivial
theorem head.tw2096541523181747872 : True := trivial
theorem head.tw5438144065070405397 : True := trivial
theorem head.tw467416434755642258 : True := trivial
theorem head.tw11770459041652445329 : True := trivial
theorem head.tw17787410975726167575 : True := trivial
theorem head.tw5651425540991249520 : True := trivial
theorem head.tw17525636777796739105 : True := trivial
theorem head.tw17142359554024780413 : True := trivial
theorem head.tw15735840784391694233 : True := trivial
theorem head.tw13906610036690215845 : True := trivial
theorem head.tw5456857783914633266 : True := trivial
theorem head.tw5889021280877657681 : True := trivial
theorem head.tw3088210815446039105 : True := trivial
theorem head.tw10261356005730403935 : True := trivial
theorem head.tw11461499031321582800 : True := trivial
theorem head.tw17464823870196871000 : True := trivial
theorem head.tw9186546921256032858 : True := trivial
theorem head.tw13078646160514809887 : True := trivial
theorem head.tw2249667046024356820 : True := trivial
theorem head.tw11692735721529064706 : True := trivial
theorem head.tw14417885227837004991 : True := trivial
theorem head.tw9698977904933032859 : True := trivial
theorem head.tw13294958713779813728 : True := trivial
theorem head.tw8715499118904818895 : True := trivial
theorem head.tw1750507733526642434 : True := trivial
theorem head.tw8866670633112419022 : True := trivial
theorem head.tw9702098958229961203 : True := trivial
theorem head.tw9074772780463953568 : True := trivial
theorem head.tw18123143868385100064 : True := trivial
theorem head.tw10018764681926925449 : True := trivial
theorem head.tw12897481986808888594 : True := trivial
theorem head.tw2340069552987342377 : True := trivial
theorem head.tw9515422150858430662 : True := trivial
theorem head.tw4691952243595246448 : True := trivial
theorem head.tw7013799640231393816 : True := trivial
theorem head.tw4693820183103290663 : True := trivial
theorem head.tw8773370040425892893 : True := trivial
theorem head.tw2004296183926418032 : True := trivial
theorem head.tw8732543388465361972 : True := trivial
theorem head.tw16984083398119652359 : True := trivial
theorem head.tw17552560543380974038 : True := trivial
theorem head.tw11296743742662292762 : True := trivial
theorem head.tw3595997877012144879 : True := trivial
theorem head.tw11142878440690576298 : True := trivial
theorem head.tw11426403942048686318 : True := trivial
theorem head.tw6490296386705211140 : True := trivial
theorem head.tw16847831306532103052 : True := trivial
theorem head.tw1832916270232011604 : True := trivial
theorem head.tw17332727794074296334 : True := trivial
theorem head.tw733406405333840765 : True := trivial
theorem head.tw16922147877168347812 : True := trivial
theorem head.tw15296082917334920728 : True := trivial
theorem head.tw4433315090154635215 : True := trivial
theorem head.tw8097174177036852075 : True := trivial
theorem head.tw1620002657737552111 : True := trivial
theorem head.tw3615648651819825313 : True := trivial
theorem head.tw16640130746408290383 : True := trivial
theorem head.tw15043729232738935796 : True := trivial
theorem head.tw930087139818521243 : True := trivial
theorem head.tw18051680202136193954 : True := trivial
theorem head.tw10533634037010066435 : True := trivial
theorem head.tw18332285231265401824 : True := trivial
theorem head.tw15461780630991917884 : True := trivial
theorem head.tw8785465191888740145 : True := trivial
theorem head.tw15064752311394979489 : True := trivial
theorem head.tw7658410731251134818 : True := trivial
theorem head.tw1748456618969930982 : True := trivial
theorem head.tw10366927770000222440 : True := trivial
theorem head.tw17725469503822016867 : True := trivial
theorem head.tw14527164170590304321 : True := trivial
theorem head.tw13896987355042952010 : True := trivial
theorem head.tw315434073420411817 : True := trivial
theorem head.tw3688799982635324794 : True := trivial
theorem head.tw4746297304354101679 : True := trivial
theorem head.tw12058348164842460966 : True := trivial
theorem head.tw1805750339796752242 : True := trivial
theorem head.tw17208977131727779392 : True := trivial
theorem head.tw17411354535832351560 : True := trivial
theorem head.tw12330954535739239725 : True := trivial
theorem head.tw9820158181544301314 : True := trivial
theorem head.tw976808484645153763 : True := trivial
theorem head.tw6507506987150044280 : True := trivial
theorem head.tw866174269921992937 : True := trivial
theorem head.tw3453547403478019728 : True := trivial
theorem head.tw9082462177598256812 : True := trivial
theorem head.tw15312284893553713567 : True := trivial
theorem head.tw14565984838667512163 : True := trivial
theorem head.tw14969872817325187116 : True := trivial
theorem head.tw10812213935944405949 : True := trivial
theorem head.tw497287684792784471 : True := trivial
theorem head.tw18384547517478447814 : True := trivial
theorem head.tw17782148633632673465 : True := trivial
theorem head.tw17802811846837562170 : True := trivial
theorem head.tw4160124254940468481 : True := trivial
theorem head.tw4975070653579243887 : True := trivial
theorem head.tw2383746988487476050 : True := trivial
theorem head.tw17093656651364094606 : True := trivial
theorem head.tw13295774097974887486 : True := trivial
theorem head.tw10019951398262190568 : True := trivial
theorem head.tw10510622979536455646 : True := trivial
theorem head.tw12359489953124434286 : True := trivial
theorem head.tw14877080517539528568 : True := trivial
theorem head.tw7994106446794305319 : True := trivial
theorem head.tw15503097425533943618 : True := trivial
theorem head.tw5599997604879368025 : True := trivial
theorem head.tw12704426703380559182 : True := trivial
theorem head.tw17674571679781333832 : True := trivial
theorem head.tw14139502460874162764 : True := trivial
theorem head.tw6973584914630602586 : True := trivial
theorem head.tw6846597200999610202 : True := trivial
theorem head.tw7494366503370351645 : True := trivial
theorem head.tw9162278640276766204 : True := trivial
theorem head.tw9978949632667528635 : True := trivial
theorem head.tw11308087075614649832 : True := trivial
theorem head.tw8603420104599213669 : True := trivial
theorem head.tw17197444120159719569 : True := trivial
theorem head.tw9658139154387788515 : True := trivial
theorem head.tw5986637957666399235 : True := trivial
theorem head.tw14279838766785379302 : True := trivial
theorem head.tw8451290768687142514 : True := trivial
theorem head.tw16128420640991077102 : True := trivial
theorem head.tw7253898381062576733 : True := trivial
theorem head.tw4307260679431091991 : True := trivial
theorem head.tw6844782571114980887 : True := trivial
theorem head.tw3986194592780655508 : True := trivial
theorem head.tw12207028300977255130 : True := trivial
theorem head.tw5723944856813171866 : True := trivial
theorem head.tw4972248218790579157 : True := trivial
theorem head.tw6880043348581005364 : True := trivial
theorem head.tw18007968972792079559 : True := trivial
theorem head.tw16031315777459398524 : True := trivial
theorem head.tw1319983325249436295 : True := trivial
theorem head.tw12310735299239354703 : True := trivial
theorem head.tw15895748673760503845 : True := trivial
theorem head.tw15510365090734361527 : True := trivial
theorem head.tw15539854500240908086 : True := trivial
theorem head.tw15798066900824788120 : True := trivial
theorem head.tw9592777112578238593 : True := trivial
theorem head.tw15894371620910866019 : True := trivial
theorem head.tw4709128311485490483 : True := trivial
theorem head.tw11434997419882176723 : True := trivial
theorem head.tw11105056867450500199 : True := trivial
theorem head.tw12773685731770592110 : True := trivial
theorem head.tw12398312691204496596 : True := trivial
theorem head.tw8101760021730824546 : True := trivial
theorem head.tw69809265629811306 : True := trivial
theorem head.tw16817119741492734445 : True := trivial
theorem head.tw14857608947800436607 : True := trivial
theorem head.tw8874674299285249911 : True := trivial
theorem head.tw16914380289546287665 : True := trivial
theorem head.tw18240164343135922154 : True := trivial
theorem head.tw16672318725780133978 : True := trivial
theorem head.tw7526775705450560304 : True := trivial
theorem head.tw9297382265435449532 : True := trivial
theorem head.tw8812732774380208333 : True := trivial
theorem head.tw13412022041919118725 : True := trivial
theorem head.tw4196546014268931301 : True := trivial
theorem head.tw3944913497352057107 : True := trivial
theorem head.tw10431609616501453582 : True := trivial
theorem head.tw2355103038987944067 : True := trivial
theorem head.tw12478146576626367362 : True := trivial
theorem head.tw11489841586311698586 : True := trivial
theorem head.tw10079960370226730655 : True := trivial
theorem head.tw10258521583956687137 : True := trivial
theorem head.tw9388430590476628193 : True := trivial
theorem head.tw12820901002040952943 : True := trivial
theorem head.tw11290360913936777911 : True := trivial
theorem head.tw8476099583838051002 : True := trivial
theorem head.tw13942192884097748152 : True := trivial
theorem head.tw16572314662081343053 : True := trivial
theorem head.tw9950410520057996621 : True := trivial
theorem head.tw6211381574409162282 : True := trivial
theorem head.tw18433677622606106133 : True := trivial
theorem head.tw3746228215898030841 : True := trivial
theorem head.tw11714128243281301615 : True := trivial
set_option Elab.async true
set_option maxHeartbeats 8000000 in
/-- the head -/
theorem head : PySem.Challenge.rw_ij0093_01.Holds := by
  w_on
  o_law
  o_head hk
  case hw => w_witness2
  case hc => exact walk _ _ _ _ _ rfl
set_option Elab.async false
end Mine

theorem PySem.Challenge.cw_ij0093_01_holds : PySem.Challenge.rw_ij0093_01.Holds := by
  exact Mine.head
