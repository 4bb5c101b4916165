import PyProof.Rows.All
import Wide.All
import OpenK.AllK
import Wide.FinOn
import Lean
import PySem.Challenge.RW_xj0032_01
set_option Elab.async false
set_option compiler.extract_closed false
set_option maxRecDepth 1000000
set_option maxHeartbeats 0
open PySem PySem.W PySem.Calls PyProof.Rows PySem.Spec
namespace Mine
local macro_rules | `(tactic| walk_at "o") => `(tactic| first | lia | omega)
local macro_rules | `(tactic| walk_at "i3") => `(tactic| (k_whole; intro l' h' H'; (try dsimp only at H')))
local macro_rules | `(tactic| walk_at "ii") => `(tactic| (k_whole; intro it' h' H'; (try dsimp only at H')))
local macro_rules | `(tactic| walk_at "i2") => `(tactic| (k_whole; intro h' H'; (try dsimp only at H')))
local macro_rules | `(tactic| walk_at "ri") => `(tactic| with_reducible show wpAny _ _ (subscriptTail _ _ (Value.ref _) (Value.int _ _)) _ _ _)
local macro_rules | `(tactic| walk_at "rr") => `(tactic| with_reducible show wpAny _ _ (subscriptTail _ _ (Value.ref _) (Value.ref _)) _ _ _)
local macro_rules | `(tactic| walk_at "pt") => `(tactic| try (dsimp (config := { zeta := false, beta := false, eta := false, iota := false, proj := true }) only))
theorem ws : PySem.Challenge.rw_xj0032_01.wellSaid = true := by kernel_rfl
section
theorem pick {p : Prop} (_ : True) (h : p) : p := h
local macro_rules | `(tactic| o_law) => `(tactic| refine holds_law ws fun said => ?_)
local macro_rules | `(tactic| o_head $_H) => `(tactic| refine pick ?hw ?hc)
local macro_rules | `(tactic| w_witness2) => `(tactic| exact True.intro)
open_top hd for PySem.Challenge.rw_xj0032_01
end
noncomputable def keepN : List Nat := [0, 2, 3, 4, 5, 6, 7, 8, 10, 11, 12, 13, 14, 15, 16, 18, 19, 20, 21, 23, 24, 25, 26, 27, 28]
noncomputable def viewQ : Program := view PySem.Challenge.pw_xj0032_01 keepN
noncomputable abbrev heapA : List Addr := [2, 3, 15, 17, 18, 20, 21, 22, 24, 25, 27, 28, 29, 31, 32, 34, 35, 36, 38, 39, 41, 42, 43, 45, 46, 48, 49, 50, 52, 53, 55, 56, 57, 59, 60, 62, 63, 64, 66, 67, 69, 70, 71, 73, 74, 76, 77, 78, 80, 81, 83, 84, 85, 87, 88, 90, 91, 92, 94, 95, 97, 98, 99, 101, 102, 104, 105, 106, 108, 109, 111, 112, 120, 122, 123, 125, 126, 127, 129, 130, 132, 133, 134, 136, 137, 139, 140, 141, 143, 144, 146, 147, 148, 150, 151, 153, 154, 155, 157, 158, 160, 161, 162, 164, 165, 167, 168, 169, 171, 172, 174, 175, 176, 178, 179, 181, 182, 183, 184, 185, 186, 187, 190, 193, 198, 199, 200, 202, 203, 205, 206, 207, 209, 210, 212, 213, 214, 215, 217, 218, 220, 221, 222, 223, 225, 226, 228, 229, 230, 232, 233, 235, 236, 237, 239, 240, 242, 243, 244, 245, 247, 248, 250, 251, 252, 254, 255, 257, 258, 259, 260, 262, 263, 265, 266, 267, 268, 269, 270, 271, 274, 277, 278, 279, 281, 282, 284, 285, 286, 289, 290, 291, 294, 295, 296, 298, 299, 301, 302, 303, 306, 307]
theorem heap_as (P : Params) : heapA = (hd.heap_1 P).map (·.1) := by kernel_rfl
noncomputable def HK : Hook := kmHook hd.heap_1 heapA heap_as [93, 86, 231, 238]
noncomputable abbrev XtQ : Shared → Bool := fun s => xlAt viewQ [] s && recOk (RowW.records (OpenRow.toRowW PySem.Challenge.rw_xj0032_01.row)) s
theorem left0 : LeftO PySem.Challenge.rw_xj0032_01.row.prog viewQ [Str.ofString "_Accumulator"] XtQ HK.obs HK.val 3500 := fun w => by
  kernel_rfl

-- B0

theorem kload : PySem.Challenge.rw_xj0032_01 = PySem.Challenge.rw_xj0032_01 ∧ hd.heap_1 = hd.heap_1 := by
  k_fill
  exact ⟨rfl, rfl⟩

abbrev OP := Obj → Prop
abbrev Ent := Addr × OP
abbrev Bs := List (Str × Value)

noncomputable def FrO (bs : List (Str × Value)) : OP := fun o => ∃ es ep, o.data = .dict es ep ∧ StrKeys es ∧ ∀ x v, bs.lookup x = some v → nsFind es x = some v
noncomputable def NsO (bs : List (Str × Value)) : OP := fun o => ∃ es ep, o.data = .dict es ep ∧ StrKeys es ∧ UniqKeys es ∧ ∀ x, nsFind es x = bs.lookup x
noncomputable def RawO (o : Obj) : OP := fun o' => o' = o
noncomputable def LstO (vs : List Value) : OP := fun o => ∃ n, o = ⟨.type "list", none, .seq vs.toArray n, #[]⟩
noncomputable def CellO (v : Option Value) : OP := fun o => o.data = .cell v

noncomputable def Le (g g' : Heap) : Prop := ∀ b o, g.get? b = some o → g'.get? b = some o
theorem Le.refl (g : Heap) : Le g g := fun _ _ e => e
theorem Le.trans {a b c : Heap} (x : Le a b) (y : Le b c) : Le a c := fun _ _ e => y _ _ (x _ _ e)

/-- what the frozen heap holds of the text, and of the machine -/
structure Cx (w : World) (g : Heap) : Prop where
  X : (hd.heap_1 w.params).In g
  m : ∃ mg, g.Ns mainGlobals mg
  N : g.NoLimit
  b : ∃ mb, g.Ns builtinsNs mb ∧ ∀ x, x ≠ ("__name__" : Str) → mb x = bootBuiltins x
  bm : ∃ bm ob, nsIn (hd.heap_1 w.params) mainGlobals "__builtins__" = some (some (.ref bm)) ∧ bm ≠ builtinsNs ∧ g.get? bm = some ob ∧ ob.cls = .type "module" ∧ ob.dict = some builtinsNs ∧ ob.data = .plain
theorem Cx.le {w : World} {g g' : Heap} (C : Cx w g) (h : Le g g') : Cx w g' :=
  ⟨C.X.keeps h, (let ⟨mg, n⟩ := C.m; ⟨mg, n.keeps h⟩), C.N.keeps h, let ⟨mb, n, e⟩ := C.b; ⟨mb, n.keeps h, e⟩, let ⟨bm, ob, a, b, c, d⟩ := C.bm; ⟨bm, ob, a, b, h _ _ c, d⟩⟩

/-- the frozen heap g, the owned part L; the generators that stand -/
structure St0 (w : World) (g : Heap) (γ₀ : Array GenState) (h : Heap) (γ : Array GenState) (L : List Ent) : Prop where
  keep : ∀ b o, g.get? b = some o → h.get? b = some o
  own : ∀ p ∈ L, (∃ o, h.get? p.1 = some o ∧ p.2 o) ∧ g.get? p.1 = none
  nd : (L.map (·.1)).Nodup
  gk : ∀ (i : Nat) (x : GenState), γ₀[i]? = some x → γ[i]? = some x
  gb : AllBare γ
  cx : Cx w g

section
variable {w : World} {g g' h h' : Heap} {γ₀ γ γ' : Array GenState} {L L' : List Ent} {a : Addr} {P P' : OP}

theorem St0.perm (H : St0 w g γ₀ h γ L) (hp : L.Perm L') : St0 w g γ₀ h γ L' :=
  ⟨H.keep, fun p hm => H.own p (hp.mem_iff.mpr hm), (hp.map _).nodup_iff.mp H.nd, H.gk, H.gb, H.cx⟩
theorem St0.sub (H : St0 w g γ₀ h γ L) (hs : L'.Sublist L) : St0 w g γ₀ h γ L' :=
  ⟨H.keep, fun p hm => H.own p (hs.subset hm), (hs.map _).nodup H.nd, H.gk, H.gb, H.cx⟩
theorem St0.tail {p : Ent} (H : St0 w g γ₀ h γ (p :: L)) : St0 w g γ₀ h γ L := H.sub (List.sublist_cons_self _ _)
theorem St0.atHead (H : St0 w g γ₀ h γ ((a, P) :: L)) : ∃ o, h.get? a = some o ∧ P o := (H.own _ (.head _)).1
theorem St0.of (H : St0 w g γ₀ h γ L) (hm : (a, P) ∈ L) : ∃ o, h.get? a = some o ∧ P o := (H.own _ hm).1
theorem St0.weak (H : St0 w g γ₀ h γ ((a, P) :: L)) (hw : ∀ o, P o → P' o) : St0 w g γ₀ h γ ((a, P') :: L) :=
  ⟨H.keep, fun p hm => by
    rcases List.mem_cons.mp hm with rfl | hm
    · obtain ⟨⟨o, e, p⟩, n⟩ := H.own _ (.head _); exact ⟨⟨o, e, hw _ p⟩, n⟩
    · exact H.own _ (.tail _ hm), H.nd, H.gk, H.gb, H.cx⟩
theorem St0.upd (H : St0 w g γ₀ h γ ((a, P) :: L)) (hs : ∀ b o, b ≠ a → h.get? b = some o → h'.get? b = some o) (ho : ∃ o, h'.get? a = some o ∧ P' o) : St0 w g γ₀ h' γ ((a, P') :: L) := by
  have hn := H.nd
  rw [List.map_cons, List.nodup_cons] at hn
  refine ⟨fun b o e => hs b o (fun q => ?_) (H.keep b o e), fun p hm => ?_, by rw [List.map_cons, List.nodup_cons]; exact hn, H.gk, H.gb, H.cx⟩
  · have := (H.own _ (.head _)).2; rw [← q, e] at this; cases this
  · rcases List.mem_cons.mp hm with rfl | hm
    · exact ⟨ho, (H.own _ (.head _)).2⟩
    · obtain ⟨⟨o, e, p'⟩, n⟩ := H.own _ (.tail _ hm)
      exact ⟨⟨o, hs _ _ (fun q => hn.1 (List.mem_map.mpr ⟨p, hm, q⟩)) e, p'⟩, n⟩
theorem St0.updSame (H : St0 w g γ₀ h γ ((a, P) :: L)) (hs : Heap.SameBut a h h') (ho : ∃ o, h'.get? a = some o ∧ P' o) : St0 w g γ₀ h' γ ((a, P') :: L) :=
  H.upd (fun b o hb e => (hs.2 b hb).trans e) ho
theorem St0.drop (H : St0 w g γ₀ h γ ((a, P) :: L)) (hx : Heap.ExtBut a h h') : St0 w g γ₀ h' γ L := by
  have hn := H.nd
  rw [List.map_cons, List.nodup_cons] at hn
  refine ⟨fun b o' e' => hx b o' (fun q => ?_) (H.keep b o' e'), fun p hp => ?_, hn.2, H.gk, H.gb, H.cx⟩
  · have := (H.own _ (.head _)).2; rw [← q, e'] at this; cases this
  · obtain ⟨⟨o', e', p'⟩, n'⟩ := H.own _ (.tail _ hp)
    exact ⟨⟨o', hx _ _ (fun q => hn.1 (List.mem_map.mpr ⟨p, hp, q⟩)) e', p'⟩, n'⟩
theorem St0.none_size (H : St0 w g γ₀ h γ L) : g.get? h.objs.size = none := by
  cases q : g.get? h.objs.size with
  | none => rfl
  | some o => exact absurd (Heap.lt_size (H.keep _ _ q)) (Nat.lt_irrefl _)
/-- a new object at a fresh address -/
theorem St0.new (H : St0 w g γ₀ h γ L) (hk : ∀ b o, h.get? b = some o → h'.get? b = some o) (ha : h.objs.size ≤ a) (ho : ∃ o, h'.get? a = some o ∧ P o) : St0 w g γ₀ h' γ ((a, P) :: L) := by
  have fresh : ∀ b o, h.get? b = some o → b ≠ a := fun b o e q => by
    exact absurd (Nat.lt_of_lt_of_le (Heap.lt_size e) ha) (by rw [q]; exact Nat.lt_irrefl _)
  refine ⟨fun b o e => hk _ _ (H.keep b o e), fun p hm => ?_, ?_, H.gk, H.gb, H.cx⟩
  · rcases List.mem_cons.mp hm with rfl | hm
    · refine ⟨ho, ?_⟩
      cases q : g.get? a with
      | none => rfl
      | some o => exact absurd rfl (fresh _ _ (H.keep _ _ q))
    · obtain ⟨⟨o, e, p'⟩, n⟩ := H.own _ hm
      exact ⟨⟨o, hk _ _ e, p'⟩, n⟩
  · rw [List.map_cons, List.nodup_cons]
    refine ⟨fun hm => ?_, H.nd⟩
    obtain ⟨p, hp, e⟩ := List.mem_map.mp hm
    obtain ⟨⟨o, e', _⟩, _⟩ := H.own _ hp
    exact fresh _ _ e' e
theorem St0.push (H : St0 w g γ₀ h γ L) (o : Obj) (hf : o.isFreed = false) (hP : P o) : St0 w g γ₀ (h.push o) γ ((h.objs.size, P) :: L) :=
  H.new (fun _ _ e => Heap.get?_push_of_some _ e) (Nat.le_refl _) ⟨o, Heap.get?_push_size _ hf, hP⟩
theorem St0.grow (H : St0 w g γ₀ h γ L) (hk : ∀ b o, h.get? b = some o → h'.get? b = some o) : St0 w g γ₀ h' γ L :=
  ⟨fun b o e => hk _ _ (H.keep b o e), fun p hm => let ⟨⟨o, e, p'⟩, n⟩ := H.own _ hm; ⟨⟨o, hk _ _ e, p'⟩, n⟩, H.nd, H.gk, H.gb, H.cx⟩
/-- an owned object is frozen -/
theorem St0.freeze (H : St0 w g γ₀ h γ ((a, P) :: L)) : ∃ g', Le g g' ∧ (∃ o, g'.get? a = some o ∧ P o) ∧ St0 w g' γ₀ h γ L := by
  have hn := H.nd
  rw [List.map_cons, List.nodup_cons] at hn
  have hl : Le g (hideAll h (L.map (·.1))) := fun b o e => hideAll_get _ (H.keep b o e) fun q => by
    obtain ⟨p, hp, rfl⟩ := List.mem_map.mp q
    have := (H.own _ (.tail _ hp)).2
    rw [e] at this; cases this
  refine ⟨hideAll h (L.map (·.1)), hl, ?_, ⟨fun b o e => of_hideAll _ e, fun p hm => ⟨(H.own _ (.tail _ hm)).1, hideAll_none _ (List.mem_map_of_mem hm)⟩, hn.2, H.gk, H.gb, H.cx.le hl⟩⟩
  · obtain ⟨o, e, p⟩ := H.atHead
    exact ⟨o, hideAll_get _ e hn.1, p⟩
/-- all that is not owned is frozen -/
theorem St0.rest (H : St0 w g γ₀ h γ L) : ∃ g', Le g g' ∧ (∀ b o, h.get? b = some o → b ∉ L.map (·.1) → g'.get? b = some o) ∧ St0 w g' γ₀ h γ L := by
  have hl : Le g (hideAll h (L.map (·.1))) := fun b o e => hideAll_get _ (H.keep b o e) fun q => by
    obtain ⟨p, hp, rfl⟩ := List.mem_map.mp q
    have := (H.own _ hp).2
    rw [e] at this; cases this
  exact ⟨hideAll h (L.map (·.1)), hl, fun b o e n => hideAll_get _ e n, ⟨fun b o e => of_hideAll _ e, fun p hm => ⟨(H.own _ hm).1, hideAll_none _ (List.mem_map_of_mem hm)⟩, H.nd, H.gk, H.gb, H.cx.le hl⟩⟩

end

/-- the tables of the code that makes code: empty, or with the one code made -/
noncomputable def TabOk (g : Heap) (line col : Nat) (qual : Str) (ps : Array Value) : Prop := ps = #[] ∨ ∃ c', ps = #[rawInt line, rawInt col, .ref c'] ∧ g.CodeRec (.ref c') qual
theorem TabOk.keeps {g g' : Heap} {l c : Nat} {q : Str} {ps : Array Value} (x : TabOk g l c q ps) (h : ∀ b o, g.get? b = some o → (∃ vs, o.data = .fields vs) → g'.get? b = some o) : TabOk g' l c q ps :=
  x.imp id fun ⟨c', e, a, o, vs, t, e1, e2, e3, e4⟩ => ⟨c', e, a, o, vs, t, e1, h _ _ e2 ⟨_, e3⟩, e3, e4⟩
noncomputable def sites : List (Addr × Nat × Nat × Str) := [(86, 60, 4, "_int2digits.<locals>.inner"), (93, 75, 4, "_digits2int.<locals>.inner"), (231, 195, 19, "_Accumulator.__len__.<locals>.<genexpr>"), (238, 198, 32, "_Accumulator.__str__.<locals>.<genexpr>")]
noncomputable def tabsL (f : Addr → Array Value) : List Ent := sites.map fun q => (q.1, RawO (tabObj (f q.1)))
noncomputable def Tabs (g : Heap) (T : List Ent) : Prop := ∃ f : Addr → Array Value, T = tabsL f ∧ ∀ q ∈ sites, TabOk g q.2.1 q.2.2.1 q.2.2.2 (f q.1)
theorem Tabs.keeps {g g' : Heap} {T : List Ent} (x : Tabs g T) (h : ∀ b o, g.get? b = some o → (∃ vs, o.data = .fields vs) → g'.get? b = some o) : Tabs g' T :=
  let ⟨f, e, a⟩ := x; ⟨f, e, fun q hq => (a q hq).keeps h⟩
theorem Tabs.le {g g' : Heap} {T : List Ent} (x : Tabs g T) (h : Le g g') : Tabs g' T := x.keeps fun b o e _ => h b o e

/-- the frozen heap g, the owned part L, the tables aside -/
noncomputable def St (w : World) (g : Heap) (γ₀ : Array GenState) (h : Heap) (γ : Array GenState) (L : List Ent) : Prop := ∃ T, Tabs g T ∧ St0 w g γ₀ h γ (L ++ T)

section
variable {w : World} {g g' h h' : Heap} {γ₀ γ γ' : Array GenState} {L L' : List Ent} {a : Addr} {P P' : OP}
theorem St.keep (H : St w g γ₀ h γ L) : ∀ b o, g.get? b = some o → h.get? b = some o := H.elim fun _ x => x.2.keep
theorem St.own (H : St w g γ₀ h γ L) : ∀ p ∈ L, (∃ o, h.get? p.1 = some o ∧ p.2 o) ∧ g.get? p.1 = none := fun p hp => H.elim fun _ x => x.2.own p (List.mem_append_left _ hp)
theorem St.gk (H : St w g γ₀ h γ L) : ∀ (i : Nat) (x : GenState), γ₀[i]? = some x → γ[i]? = some x := H.elim fun _ x => x.2.gk
theorem St.gb (H : St w g γ₀ h γ L) : AllBare γ := H.elim fun _ x => x.2.gb
theorem St.cx (H : St w g γ₀ h γ L) : Cx w g := H.elim fun _ x => x.2.cx
theorem St.perm (H : St w g γ₀ h γ L) (hp : L.Perm L') : St w g γ₀ h γ L' := let ⟨T, t, x⟩ := H; ⟨T, t, x.perm (hp.append_right T)⟩
theorem St.sub (H : St w g γ₀ h γ L) (hs : L'.Sublist L) : St w g γ₀ h γ L' := let ⟨T, t, x⟩ := H; ⟨T, t, x.sub (hs.append_right T)⟩
theorem St.tail {p : Ent} (H : St w g γ₀ h γ (p :: L)) : St w g γ₀ h γ L := H.sub (List.sublist_cons_self _ _)
theorem St.atHead (H : St w g γ₀ h γ ((a, P) :: L)) : ∃ o, h.get? a = some o ∧ P o := (H.own _ (.head _)).1
theorem St.of (H : St w g γ₀ h γ L) (hm : (a, P) ∈ L) : ∃ o, h.get? a = some o ∧ P o := (H.own _ hm).1
theorem St.weak (H : St w g γ₀ h γ ((a, P) :: L)) (hw : ∀ o, P o → P' o) : St w g γ₀ h γ ((a, P') :: L) := let ⟨T, t, x⟩ := H; ⟨T, t, St0.weak (L := L ++ T) x hw⟩
theorem St.upd (H : St w g γ₀ h γ ((a, P) :: L)) (hs : ∀ b o, b ≠ a → h.get? b = some o → h'.get? b = some o) (ho : ∃ o, h'.get? a = some o ∧ P' o) : St w g γ₀ h' γ ((a, P') :: L) := let ⟨T, t, x⟩ := H; ⟨T, t, St0.upd (L := L ++ T) x hs ho⟩
theorem St.updSame (H : St w g γ₀ h γ ((a, P) :: L)) (hs : Heap.SameBut a h h') (ho : ∃ o, h'.get? a = some o ∧ P' o) : St w g γ₀ h' γ ((a, P') :: L) :=
  H.upd (fun b o hb e => (hs.2 b hb).trans e) ho
theorem St.drop (H : St w g γ₀ h γ ((a, P) :: L)) (hx : Heap.ExtBut a h h') : St w g γ₀ h' γ L := let ⟨T, t, x⟩ := H; ⟨T, t, St0.drop (L := L ++ T) x hx⟩
theorem St.none_size (H : St w g γ₀ h γ L) : g.get? h.objs.size = none := H.elim fun _ x => x.2.none_size
theorem St.new (H : St w g γ₀ h γ L) (hk : ∀ b o, h.get? b = some o → h'.get? b = some o) (ha : h.objs.size ≤ a) (ho : ∃ o, h'.get? a = some o ∧ P o) : St w g γ₀ h' γ ((a, P) :: L) := let ⟨T, t, x⟩ := H; ⟨T, t, St0.new (L := L ++ T) x hk ha ho⟩
theorem St.push (H : St w g γ₀ h γ L) (o : Obj) (hf : o.isFreed = false) (hP : P o) : St w g γ₀ (h.push o) γ ((h.objs.size, P) :: L) :=
  H.new (fun _ _ e => Heap.get?_push_of_some _ e) (Nat.le_refl _) ⟨o, Heap.get?_push_size _ hf, hP⟩
theorem St.grow (H : St w g γ₀ h γ L) (hk : ∀ b o, h.get? b = some o → h'.get? b = some o) : St w g γ₀ h' γ L := let ⟨T, t, x⟩ := H; ⟨T, t, x.grow hk⟩
theorem St.freeze (H : St w g γ₀ h γ ((a, P) :: L)) : ∃ g', Le g g' ∧ (∃ o, g'.get? a = some o ∧ P o) ∧ St w g' γ₀ h γ L :=
  let ⟨T, t, x⟩ := H; let ⟨g', l, o, y⟩ := St0.freeze (L := L ++ T) x; ⟨g', l, o, T, t.le l, y⟩

/-- a table's site: what it holds, and the step to a table grown -/
theorem St.site {q : Addr × Nat × Nat × Str} (H : St w g γ₀ h γ L) (hq : q ∈ sites) : ∃ ps, TabOk g q.2.1 q.2.2.1 q.2.2.2 ps ∧ h.get? q.1 = some (tabObj ps) ∧ g.get? q.1 = none ∧
    ∀ h' ps', Heap.ExtBut q.1 h h' → h'.get? q.1 = some (tabObj ps') → ∃ g', Le g g' ∧ (∀ b o, h.objs.size ≤ b → h'.get? b = some o → g'.get? b = some o) ∧ (TabOk g' q.2.1 q.2.2.1 q.2.2.2 ps' → St w g' γ₀ h' γ L) := by
  obtain ⟨T, ⟨f, rfl, ht⟩, x⟩ := H
  have hm : (q.1, RawO (tabObj (f q.1))) ∈ L ++ tabsL f := List.mem_append_right _ (List.mem_map.mpr ⟨q, hq, rfl⟩)
  obtain ⟨⟨o, e, rfl⟩, hn⟩ := x.own _ hm
  refine ⟨f q.1, ht q hq, e, hn, fun h' ps' hx e' => ?_⟩
  have x' : St0 w g γ₀ h' γ (L ++ tabsL fun b => if b = q.1 then ps' else f b) := by
    refine ⟨fun b o e₁ => hx b o (fun z => by rw [z, hn] at e₁; cases e₁) (x.keep b o e₁), fun p hp => ?_, ?_, x.gk, x.gb, x.cx⟩
    · rcases List.mem_append.mp hp with hp | hp
      · obtain ⟨⟨o, e₁, p₁⟩, n₁⟩ := x.own p (List.mem_append_left _ hp)
        refine ⟨⟨o, hx _ _ (fun z => ?_) e₁, p₁⟩, n₁⟩
        have nd := x.nd
        rw [List.map_append, List.nodup_append] at nd
        exact nd.2.2 p.1 (List.mem_map_of_mem hp) q.1 (List.mem_map.mpr ⟨_, List.mem_map.mpr ⟨q, hq, rfl⟩, rfl⟩) z
      · obtain ⟨r, hr, rfl⟩ := List.mem_map.mp hp
        obtain ⟨⟨o, e₁, rfl⟩, n₁⟩ := x.own (r.1, RawO (tabObj (f r.1))) (List.mem_append_right _ (List.mem_map.mpr ⟨r, hr, rfl⟩))
        refine ⟨?_, n₁⟩
        dsimp only
        by_cases z : r.1 = q.1
        · rw [if_pos z, z]; exact ⟨_, e', rfl⟩
        · rw [if_neg z]; exact ⟨_, hx _ _ z e₁, rfl⟩
    · have nd := x.nd
      simp only [tabsL, List.map_append, List.map_map] at nd ⊢
      exact nd
  obtain ⟨g', l, k, y⟩ := x'.rest
  refine ⟨g', l, fun b o hb e₁ => k b o e₁ fun hm' => ?_, fun tb => ⟨_, ⟨_, rfl, fun r hr => ?_⟩, y⟩⟩
  · obtain ⟨p, hp, z⟩ := List.mem_map.mp hm'
    have : p.1 ∈ (L ++ tabsL f).map (·.1) := by
      have e2 : (L ++ tabsL fun b => if b = q.1 then ps' else f b).map (·.1) = (L ++ tabsL f).map (·.1) := by simp only [tabsL, List.map_append, List.map_map]; rfl
      rw [← e2]; exact List.mem_map_of_mem hp
    obtain ⟨p', hp', z'⟩ := List.mem_map.mp this
    obtain ⟨⟨o', e'', _⟩, _⟩ := x.own p' hp'
    rw [z', z] at e''
    exact absurd (Heap.lt_size e'') (Nat.not_lt.mpr hb)
  · by_cases z : r.1 = q.1
    · have : r = q := by
        have nd : (sites.map (·.1)).Nodup := by decide
        clear tb y k l x' e' hx hm e hn ht x
        rcases List.mem_iff_getElem.mp hr with ⟨i, hi, rfl⟩
        rcases List.mem_iff_getElem.mp hq with ⟨j, hj, rfl⟩
        have := (List.getElem_inj (h₀ := by simpa using hi) (h₁ := by simpa using hj) nd).mp (by simpa using z)
        subst this; rfl
      subst this
      rw [if_pos rfl]; exact tb
    · rw [if_neg z]; exact (ht r hr).keeps fun b o e _ => l b o e

theorem FrO.sub {bs bs' : List (Str × Value)} (hs : ∀ p ∈ bs', bs.lookup p.1 = some p.2) {o : Obj} (x : FrO bs o) : FrO bs' o := by
  obtain ⟨es, ep, hd, hk, hf⟩ := x
  refine ⟨es, ep, hd, hk, fun x v e => hf x v ?_⟩
  have : (x, v) ∈ bs' := by
    clear hs
    induction bs' with
    | nil => cases e
    | cons p r ih =>
      obtain ⟨y, u⟩ := p
      rw [List.lookup_cons] at e
      by_cases q : (x == y) = true
      · rw [q] at e; cases e; rw [eq_of_beq q]; exact .head _
      · simp only [Bool.not_eq_true] at q; rw [q] at e; exact .tail _ (ih e)
  exact hs _ this
theorem NsO.fr {bs : List (Str × Value)} {o : Obj} (x : NsO bs o) : FrO bs o := let ⟨es, ep, hd, hk, _, hf⟩ := x; ⟨es, ep, hd, hk, fun x v e => (hf x).trans e⟩
theorem ns_of {bs : List (Str × Value)} {o : Obj} (e : h.get? a = some o) (x : FrO bs o) : ∃ m, h.Ns a m ∧ ∀ x v, bs.lookup x = some v → m x = some v :=
  let ⟨es, ep, hd, hk, hf⟩ := x; ⟨nsFind es, ⟨o, es, ep, e, hd, hk, fun _ => rfl⟩, hf⟩
theorem ns_of' {bs : List (Str × Value)} {o : Obj} (e : h.get? a = some o) (x : NsO bs o) : h.Ns1 a fun x => bs.lookup x :=
  let ⟨es, ep, hd, hk, hu, hf⟩ := x; ⟨o, es, ep, e, hd, hk, hu, hf⟩
theorem of_ns {m : Str → Option Value} (n : h.Ns a m) {bs : List (Str × Value)} (hb : ∀ x v, bs.lookup x = some v → m x = some v) : ∃ o, h.get? a = some o ∧ FrO bs o :=
  let ⟨o, es, ep, e, hd, hk, hf⟩ := n; ⟨o, e, es, ep, hd, hk, fun x v q => (hf x).trans (hb x v q)⟩
theorem of_ns' {m : Str → Option Value} (n : h.Ns1 a m) {bs : List (Str × Value)} (hb : ∀ x, m x = bs.lookup x) : ∃ o, h.get? a = some o ∧ NsO bs o :=
  let ⟨o, es, ep, e, hd, hk, hu, hf⟩ := n; ⟨o, e, es, ep, hd, hk, hu, fun x => (hf x).trans (hb x)⟩
end

/-- the owned entry x taken out -/
inductive Pull (x : Ent) : List Ent → List Ent → Prop
  | head {l} : Pull x (x :: l) l
  | tail {y l l'} : Pull x l l' → Pull x (y :: l) (y :: l')
theorem Pull.perm {x : Ent} {l l' : List Ent} (p : Pull x l l') : l.Perm (x :: l') := by
  induction p with
  | head => exact .refl _
  | tail _ ih => exact (ih.cons _).trans (.swap _ _ _)
theorem St.pull {w : World} {g h : Heap} {γ₀ γ : Array GenState} {L L' : List Ent} {x : Ent} (H : St w g γ₀ h γ L) (p : Pull x L L') : St w g γ₀ h γ (x :: L') := H.perm p.perm

section
variable {M : Model} {w : World} {A : Around} {E : Value → Shared → Prop} {s : Shared} {g : Heap} {γ₀ : Array GenState} {L : List Ent} {env : Env}
theorem name_local {x : Str} {pos : Pos} {v : Value} {bs : List (Str × Value)} {Lf : Addr} {Q : Value → Shared → Prop} (H : St w g γ₀ s.heap s.gens ((Lf, FrO bs) :: L)) (hv : bs.lookup x = some v) (h : Q v s) (he : env.locals = Lf := by rfl)
    (hk : env.scope.kind = .function := by rfl) (hl : env.kindOf x = some .local := by rfl) (hd : (x == ("__debug__" : Str)) = false := by decide) : wpAny M A (eval (.Name x pos) env) Q E s := by
  subst he
  obtain ⟨o, e, p⟩ := H.atHead
  obtain ⟨m, n, hm⟩ := ns_of e p
  exact wpAny_Name (wpAny_loadName_local hk hl n (hm _ _ hv) h) hd
theorem load_local {x : Str} {v : Value} {bs : List (Str × Value)} {Lf : Addr} {Q : Value → Shared → Prop} (H : St w g γ₀ s.heap s.gens ((Lf, FrO bs) :: L)) (hv : bs.lookup x = some v) (h : Q v s) (he : env.locals = Lf := by rfl)
    (hk : env.scope.kind = .function := by rfl) (hl : env.kindOf x = some .local := by rfl) : wpAny M A (loadName env x) Q E s := by
  subst he
  obtain ⟨o, e, p⟩ := H.atHead
  obtain ⟨m, n, hm⟩ := ns_of e p
  exact wpAny_loadName_local hk hl n (hm _ _ hv) h
theorem store_local {x : Str} {v : Value} {bs : List (Str × Value)} {Lf : Addr} {Q : Unit → Shared → Prop} (H : St w g γ₀ s.heap s.gens ((Lf, FrO bs) :: L))
    (h : ∀ h', St w g γ₀ h' s.gens ((Lf, FrO ((x, v) :: bs)) :: L) → Q () { s with heap := h', toks := s.toks + 1 }) (he : env.locals = Lf := by rfl)
    (hl : env.kindOf x = some .local := by rfl) (hp : (env.scope.kind == .class || (env.scope.kind == .module && env.locals != env.globals)) = false := by rfl) : wpAny M A (storeName env x v) Q E s := by
  subst he
  obtain ⟨o, e, p⟩ := H.atHead
  obtain ⟨m, n, hm⟩ := ns_of e p
  refine wpAny_storeName_local hl n (fun h' n' hs => h h' (H.updSame hs (of_ns n' fun y u q => ?_))) hp
  rw [List.lookup_cons] at q
  by_cases hy : y = x
  · subst hy; rw [if_pos rfl]; simpa using q
  · rw [if_neg hy]
    have : (y == x) = false := by simpa using hy
    rw [this] at q
    exact hm _ _ q
end

section
variable {prog : Program} {w : World} {A : Around} {E : Value → Shared → Prop} {s : Shared} {g : Heap} {γ₀ : Array GenState} {L : List Ent}


noncomputable def FnIs (K : Params → Frag) (a : Addr) (fd : FuncData) : Prop := ∀ P, (K P).lookup a = some ⟨.type "function", none, .func fd, #[]⟩
noncomputable def FnOk (K : Params → Frag) (a : Addr) (fd : FuncData) : Prop := FnIs K a fd ∧ ∀ P, codeIn (K P) fd.code fd.qualname = true

theorem call_fn {f : Addr} {body : List Stmt} {args : List Value} {kw : List (Str × Value)} {Q : Value → Shared → Prop} {bs : List (Str × Value)}
    (F : {fd // FnOk hd.heap_1 f fd}) (H : St w g γ₀ s.heap s.gens L) (hroom : A.depth < recursionLimit) (hbody : F.1.body = .stmts body)
    (hbind : BindsTo s F.1 ⟨args, kw⟩ bs) (hcell : ∀ x ∈ F.1.scope.names, x.2 ≠ .cell) (hloc : ∀ x ∈ bs, F.1.scope.names.lookup x.1 = some .local) (hbs : ∀ p ∈ bs, bs.reverse.lookup p.1 = some p.2)
    (hco : F.1.scope.isCoroutine = false) (hgen : F.1.scope.isGenerator = false) (hk : F.1.scope.kind = .function)
    (h : ∀ Lf h₁ tk, s.toks ≤ tk → St w g γ₀ h₁ s.gens ((Lf, FrO bs) :: L) →
      wpAny (model prog w) (A.deeper (callEnv F.1 Lf f)) (execs body (callEnv F.1 Lf f)) (fun fl s' => Q (match fl with | .ret v => v | _ => .none) s') (fun _ _ => False) { s with heap := h₁, toks := tk }) :
    wpAny (model prog w) A (call (.ref f) args kw) Q E s := by
  have Xs := H.cx.X.keeps H.keep
  refine wpAny_call (codeAny_call_def (fd := F.1) (body := body) (binds := bs) hroom (Xs _ _ (F.2.1 _)) rfl (H.cx.N.keeps H.keep) (codeRec_of Xs (F.2.2 _)) hbody hbind hcell hloc (fun h₁ hns hk₁ => ?_) hco hgen hk)
  have H' : St w g γ₀ h₁ s.gens ((s.heap.objs.size, FrO bs) :: L) := (H.new (P := FrO bs.reverse) hk₁ (Nat.le_refl _) (of_ns hns fun _ _ q => q)).weak fun o => FrO.sub hbs
  exact wpAny_mono (h _ _ _ (Nat.le_add_right _ _) H') (fun fl s' hq => hq) fun _ _ z => z.elim
end

-- B1

/-- room around a call -/
structure Ok (A : Around) (d u : Nat) : Prop where
  h : A.handled = none
  d : A.depth + d < recursionLimit
  u : A.units + u < cLine
theorem Ok.deeper {A : Around} {d u : Nat} {env : Env} (x : Ok A (d + 1) (u + 3)) : Ok (A.deeper env) d u :=
  ⟨x.h, by have := x.d; show A.depth + 1 + d < _; walk_at "o", by have := x.u; show A.units + 3 + u < _; walk_at "o"⟩
theorem Ok.in1 {A : Around} {d u : Nat} (x : Ok A d (u + 1)) : Ok A.in1 d u :=
  ⟨x.h, x.d, by have := x.u; show A.units + 1 + u < _; walk_at "o"⟩
theorem Ok.le {A : Around} {d u d' u' : Nat} (x : Ok A d u) (h1 : d' ≤ d) (h2 : u' ≤ u) : Ok A d' u' :=
  ⟨x.h, by have := x.d; walk_at "o", by have := x.u; walk_at "o"⟩
theorem Ok.room {A : Around} {d u : Nat} (x : Ok A d u) : A.depth < recursionLimit := by have := x.d; walk_at "o"
theorem Ok.units {A : Around} {d u : Nat} (x : Ok A d u) : A.units < cLine := by have := x.u; walk_at "o"

/-- what an iterator at `it` gives: n values, the i-th one told by V i (and by the token count then); P i: its object when i are taken -/
structure Iter (prog : Program) (w : World) (g₁ : Heap) (it : Addr) (P : Nat → OP) (n : Nat) (V : Nat → Nat → Value → Prop) : Prop where
  item : ∀ (i : Nat), i < n → ∀ (A : Around) (Q : Option Value → Shared → Prop) (E : Value → Shared → Prop) (s : Shared) (g : Heap) (γ₀ : Array GenState) (L : List Ent), Ok A 1 10 → 0 < s.toks → Le g₁ g →
    St w g γ₀ s.heap s.gens ((it, P i) :: L) →
    (∀ v h' tk', V i s.toks v → s.toks ≤ tk' → St w g γ₀ h' s.gens ((it, P (i + 1)) :: L) → Q (some v) { s with heap := h', toks := tk' }) → wpAny (model prog w) A (pyNext (.ref it)) Q E s
  done : ∀ (A : Around) (Q : Option Value → Shared → Prop) (E : Value → Shared → Prop) (s : Shared) (g : Heap) (γ₀ : Array GenState) (L : List Ent), Ok A 1 10 → 0 < s.toks → Le g₁ g →
    St w g γ₀ s.heap s.gens ((it, P n) :: L) →
    (∀ h' tk', s.toks ≤ tk' → St w g γ₀ h' s.gens L → Q none { s with heap := h', toks := tk' }) → wpAny (model prog w) A (pyNext (.ref it)) Q E s
  self : ∀ (i : Nat) (A : Around) (Q : Value → Shared → Prop) (E : Value → Shared → Prop) (s : Shared) (g : Heap) (γ₀ : Array GenState) (L : List Ent), St w g γ₀ s.heap s.gens ((it, P i) :: L) → Q (.ref it) s → wpAny (model prog w) A (pyIter (.ref it)) Q E s
  go : ∀ (i : Nat) (target : Expr) (v : Value) (A : Around) (Q : Unit → Shared → Prop) (E : Value → Shared → Prop) (s : Shared) (g : Heap) (γ₀ : Array GenState) (L : List Ent), St w g γ₀ s.heap s.gens ((it, P i) :: L) → Q () s → wpAny (model prog w) A (letOwnedTupleGo target (.ref it) v) Q E s

theorem go_of {M : Model} {A : Around} {Q : Unit → Shared → Prop} {E : Value → Shared → Prop} {s : Shared} {it : Addr} {target : Expr} {v : Value} {o : Obj} {T : String} (ho : s.heap.get? it = some o) (hc : o.cls = .type T)
    (hT : (["enumerate", "zip", "dict_itemiterator", "dict_reverseitemiterator", "odict_iterator", "itertools.zip_longest", "itertools.pairwise"] : List String).contains T = false) (h : Q () s) : wpAny M A (letOwnedTupleGo target (.ref it) v) Q E s := by
  obtain ⟨oc, od, odt, osl⟩ := o
  dsimp only at hc
  subst hc
  unfold letOwnedTupleGo
  cases target <;> first | exact wpAny_pure h | skip
  all_goals
    cases v <;> first | exact wpAny_pure h | skip
    refine wpAny_bind (wpAny_load ho ?_)
    cases odt <;> first | exact wpAny_pure h | skip
    dsimp only
    rw [hT, Bool.false_and, if_neg Bool.false_ne_true]
    exact wpAny_pure h

theorem mg_none_of' {K : Frag} {h : Heap} {a : Addr} {mg : Str → Option Value} {n : Str} (X : K.In h) (G : h.Ns a mg) (e : nsIn K a n = some none) : mg n = none := by
  obtain ⟨o, es, ep, ho, hd, _, hf⟩ := G
  unfold nsIn at e
  split at e
  · rename_i c d es' n' sl q
    have := X _ _ q
    rw [ho] at this
    cases this
    cases hd
    split at e
    · cases e
    · rename_i he
      rw [← hf]
      unfold nsFind findBy
      rw [← Array.find?_toList, he]
      rfl
  · cases e

section
variable {prog : Program} {w : World} {A : Around} {E : Value → Shared → Prop} {s : Shared} {g : Heap} {γ₀ : Array GenState} {L : List Ent} {env : Env}

/-- a for loop by its frame's names and the owned part, at each turn's number -/
theorem for_loop {R : Result → Shared → Prop} {target : Expr} {body orelse : List Stmt} {it : Addr} {P : Nat → OP} {n : Nat} {V : Nat → Nat → Value → Prop} {bs : List (Str × Value)} {Lf : Addr}
    (I : Iter prog w g it P n V) (hA : Ok A 1 10) (hs : 0 < s.toks) (J : Nat → Heap → List (Str × Value) → List Ent → Prop) (H : St w g γ₀ s.heap s.gens ((Lf, FrO bs) :: (it, P 0) :: L)) (h0 : J 0 g bs L)
    (turn : ∀ i g' h' γ' t tk bs' L' v, i < n → Le g g' → s.toks ≤ t → t ≤ tk → J i g' bs' L' → V i t v → St w g' γ₀ h' γ' ((Lf, FrO bs') :: (it, P (i + 1)) :: L') →
      wpAny (model prog w) A (assign target env v) (fun _ s₂ => wpAny (model prog w) A (execs body env) (fun f s₃ => match f with
          | .next | .cont => ∃ g'' h'' γ'' tk'' bs'' L'', s₃ = { s with heap := h'', gens := γ'', toks := tk'' } ∧ Le g' g'' ∧ tk ≤ tk'' ∧ J (i + 1) g'' bs'' L'' ∧ St w g'' γ₀ h'' γ'' ((Lf, FrO bs'') :: (it, P (i + 1)) :: L'')
          | .brk => R (.ok .next) s₃
          | .ret v => R (.ok (.ret v)) s₃) (fun _ _ => False) s₂) (fun _ _ => False) { s with heap := h', gens := γ', toks := tk })
    (after : ∀ g' h' γ' tk bs' L', Le g g' → s.toks ≤ tk → J n g' bs' L' → St w g' γ₀ h' γ' ((Lf, FrO bs') :: L') →
      wpAny (model prog w) A (execs orelse env) (fun f s₃ => R (.ok f) s₃) (fun _ _ => False) { s with heap := h', gens := γ', toks := tk })
    (ht : ∀ v, letOwnedTupleGo target (.ref it) v = pure () := by intro _; rfl) :
    codeAny (model prog w) A (.forLoop target (.ref it) body orelse env) R s := by
  refine codeAny_forLoop (fun k s' => ∃ i g' h' γ' tk bs' L', s' = { s with heap := h', gens := γ', toks := tk } ∧ i ≤ n ∧ k = n + 1 - i ∧ Le g g' ∧ s.toks ≤ tk ∧ J i g' bs' L' ∧ St w g' γ₀ h' γ' ((Lf, FrO bs') :: (it, P i) :: L')) ?_ (n + 1)
    ⟨0, g, s.heap, s.gens, s.toks, bs, L, rfl, Nat.zero_le _, rfl, .refl _, Nat.le_refl _, h0, H⟩ ht
  rintro k s' ⟨i, g', h', γ', tk, bs', L', rfl, hi, rfl, hg, htk, hJ, HI⟩
  have htk0 : 0 < tk := Nat.lt_of_lt_of_le hs htk
  by_cases hlt : i < n
  · refine I.item i hlt A _ _ _ g' γ₀ ((Lf, FrO bs') :: L') hA htk0 hg (HI.perm (.swap _ _ _)) fun v h₁ tk₁ hV htk₁ H₁ => ?_
    refine wpAny_mono (turn i g' h₁ γ' tk tk₁ bs' L' v hlt hg htk htk₁ hJ hV (H₁.perm (.swap _ _ _))) (fun _ s₂ h₂ => wpAny_mono h₂ (fun f s₃ h₃ => ?_) fun _ _ z => z.elim) fun _ _ z => z.elim
    cases f with
    | next => obtain ⟨g'', h'', γ'', tk'', bs'', L'', rfl, a, b, c, d⟩ := h₃; exact ⟨n + 1 - (i + 1), by walk_at "o", i + 1, g'', h'', γ'', tk'', bs'', L'', rfl, hlt, rfl, hg.trans a, Nat.le_trans htk (Nat.le_trans htk₁ b), c, d⟩
    | cont => obtain ⟨g'', h'', γ'', tk'', bs'', L'', rfl, a, b, c, d⟩ := h₃; exact ⟨n + 1 - (i + 1), by walk_at "o", i + 1, g'', h'', γ'', tk'', bs'', L'', rfl, hlt, rfl, hg.trans a, Nat.le_trans htk (Nat.le_trans htk₁ b), c, d⟩
    | brk => exact h₃
    | ret v => exact h₃
  · have hin : i = n := by walk_at "o"
    subst hin
    refine I.done A _ _ _ g' γ₀ ((Lf, FrO bs') :: L') hA htk0 hg (HI.perm (.swap _ _ _)) fun h₁ tk₁ htk₁ H₁ => ?_
    exact wpAny_mono (after g' h₁ γ' tk₁ bs' L' hg (Nat.le_trans htk htk₁) hJ H₁) (fun _ _ z => z) fun _ _ z => z.elim

/-- the iterator of an ascii text -/
noncomputable def SiO (x : Str) (t : Nat) (i : Nat) : OP := fun o => o.cls = .type "str_ascii_iterator" ∧ o.data = .fields #[.str x t, .int i 0]
theorem iter_str (g₁ : Heap) (it : Addr) (x : Str) (t : Nat) : Iter prog w g₁ it (SiO x t) x.cps.size (fun i n v => ∃ c, x.cps[i]? = some c ∧ v = .str ⟨#[c]⟩ n) where
  item := fun i hi A Q E s g γ₀ L hA hs _ H k => by
    obtain ⟨o, e, hc, hd⟩ := H.atHead
    refine wpAny_pyNext_ascii_item (c := x.cps[i]) ⟨o, e, hc, hd⟩ (by simp [hi]) fun h' y hs' => ?_
    obtain ⟨o', e', hc', hd'⟩ := y
    exact k _ h' _ ⟨_, by simp [hi], rfl⟩ (Nat.le_succ _) (H.updSame hs' ⟨o', e', hc', hd'⟩)
  done := fun A Q E s g γ₀ L hA hs _ H k => by
    obtain ⟨o, e, hc, hd⟩ := H.atHead
    refine wpAny_pyNext_ascii_end hA.h ⟨o, e, hc, hd⟩ (by simp) fun h' hx => ?_
    exact k h' _ (Nat.le_refl _) (H.drop hx)
  self := fun i A Q E s g γ₀ L H h => by
    obtain ⟨o, e, hc, hd⟩ := H.atHead
    exact wpAny_pyIter_striter_ascii ⟨o, e, hc, hd⟩ h
  go := fun i target v A Q E s g γ₀ L H h => by
    obtain ⟨o, e, hc, hd⟩ := H.atHead
    exact go_of e hc (by decide) h

theorem iter_of_str {x : Str} {t : Nat} {Q : Value → Shared → Prop} (ha : x.cps.all (· < 128) = true) (H : St w g γ₀ s.heap s.gens L)
    (k : ∀ it h', St w g γ₀ h' s.gens ((it, SiO x t 0) :: L) → Q (.ref it) { s with heap := h' }) : wpAny (model prog w) A (pyIter (.str x t)) Q E s :=
  wpAny_pyIter_ascii ha (k _ _ (H.push _ rfl ⟨rfl, rfl⟩))

/-- `is` of two texts whose tokens differ: an equal text may be the same object, another one is none -/
theorem is_str {x y : Str} {t u : Nat} {Q : Value → Shared → Prop} (H : St w g γ₀ s.heap s.gens L) (ht : 0 < t) (hu : 0 < u) (hne : t ≠ u)
    (h : ∀ b : Bool, (b = true → x = y) → Q (.bool b) s) : wpAny (model prog w) A (compareOp .Is (.str x t) (.str y u)) Q E s := by
  have h0 : (t == 0 || u == 0) = false := by simp [Nat.pos_iff_ne_zero.mp ht, Nat.pos_iff_ne_zero.mp hu]
  have htu : (t == u) = false := by simpa using hne
  refine wpAny_bind (m := isSame (.str x t) (.str y u)) ?_
  cases hxy : (x == y) with
  | false => rw [isSame_str_other x y t u h0 htu hxy]; exact wpAny_pure (wpAny_pure (h false fun q => by cases q))
  | true =>
    have e : nsIn (hd.heap_1 w.params) cStatics sharingNotToldKey = some none := by k_is
    have hb : NoneBooked s.heap := by
      obtain ⟨o, ho⟩ : ∃ o, (hd.heap_1 w.params).lookup cStatics = some o := by
        unfold nsIn at e; split at e
        · rename_i q; exact ⟨_, q⟩
        · cases e
      obtain ⟨mc, n, _⟩ := H.cx.N.keeps H.keep
      exact ⟨mc, n, mg_none_of' (H.cx.X.keeps H.keep) n e⟩
    exact wpAny_isSame_str h0 hb fun b => wpAny_pure (h b fun _ => by simpa using hxy)
end

-- B2


section
variable {prog : Program} {w : World} {A : Around} {E : Value → Shared → Prop} {s : Shared} {g : Heap} {γ₀ : Array GenState} {L : List Ent} {env : Env}
theorem name_global {x : Str} {pos : Pos} {v : Value} {Q : Value → Shared → Prop} (H : St w g γ₀ s.heap s.gens L) (e : nsIn (hd.heap_1 w.params) mainGlobals x = some (some v)) (h : Q v s)
    (hk : env.scope.kind = .function := by rfl) (hx : env.kindOf x = some .globalImplicit := by rfl) (hg : env.globals = mainGlobals := by rfl) (hd : (x == ("__debug__" : Str)) = false := by decide) :
    wpAny (model prog w) A (eval (.Name x pos) env) Q E s := by
  refine Name_function_global hk hx ?_ hd
  unfold loadGlobal
  rw [hg]
  exact wpAny_bind ((looks_nsIn (H.cx.X.keeps H.keep) e).here (wpAny_pure h))
theorem name_builtin {x : Str} {pos : Pos} {v : Value} {Q : Value → Shared → Prop} (H : St w g γ₀ s.heap s.gens L) (e : nsIn (hd.heap_1 w.params) mainGlobals x = some none) (hv : bootBuiltins x = some v) (h : Q v s)
    (hn : x ≠ ("__name__" : Str) := by decide) (hk : env.scope.kind = .function := by rfl) (hx : env.kindOf x = some .globalImplicit := by rfl) (hg : env.globals = mainGlobals := by rfl) (hbi : env.builtins = builtinsNs := by rfl) (hd : (x == ("__debug__" : Str)) = false := by decide) :
    wpAny (model prog w) A (eval (.Name x pos) env) Q E s := by
  refine Name_function_global hk hx ?_ hd
  unfold loadGlobal
  rw [hg]
  refine wpAny_bind ((looks_nsIn (H.cx.X.keeps H.keep) e).here ?_)
  obtain ⟨mb, n, hm⟩ := H.cx.b
  dsimp only
  rw [hbi]
  refine wpAny_bind (wpAny_nsGet (n.keeps H.keep) ?_)
  rw [hm x hn, hv]
  exact wpAny_pure h

theorem callW {f : Value} {first : List Value} {pos : Pos} {e : Expr} {rest : List Expr} {Q : Value → Shared → Prop} (hk : keepIn (hd.heap_1 w.params) f = true)
    (h : wpAny (model prog w) A (spliced (backTo pos (starEach (e :: rest) env))) (fun vs s₁ => (hd.heap_1 w.params).In s₁.heap ∧ wpAny (model prog w) A (call f (first ++ vs)) Q E s₁) E s)
    (he : starEach (e :: rest) env = (false, eval e env) :: starEach rest env := by rfl) (hplain : (backTo pos (starEach rest env)).any (·.1) = false := by rfl) :
    wpAny (model prog w) A (callWith pos f first (backTo pos (starEach (e :: rest) env)) []) Q E s := by
  rw [he] at h ⊢
  exact callWith_of (by show ((false || (backTo pos (starEach rest env)).any (·.1)) || false) = false; rw [hplain]; rfl) (keeps_K hk) (evalArgs_plain h)
theorem callW0 {f : Value} {first : List Value} {pos : Pos} {Q : Value → Shared → Prop} (H : St w g γ₀ s.heap s.gens L) (hk : keepIn (hd.heap_1 w.params) f = true)
    (h : wpAny (model prog w) A (call f first) Q E s) : wpAny (model prog w) A (callWith pos f first (backTo pos (starEach [] env)) []) Q E s :=
  callWith_of rfl (keeps_K hk) (evalArgs_nil3 ⟨H.cx.X.keeps H.keep, by rw [List.append_nil]; exact h⟩)
theorem St.inK {h : Heap} {γ : Array GenState} (H : St w g γ₀ h γ L) : (hd.heap_1 w.params).In h := H.cx.X.keeps H.keep
end

local macro_rules | `(tactic| walk_at "loadName") => `(tactic| (refine' load_local (by with_reducible assumption) (by exact rfl) ?_; k_whole))
local macro_rules | `(tactic| walk_at "callWith ref") => `(tactic| first
  | (refine' callW (by k_is) ?_; k_whole)
  | (refine' callW0 (by with_reducible assumption) (by k_is) ?_; k_whole))
local macro_rules | `(tactic| walk_at "And") => `(tactic| (refine And.intro (St.inK (by with_reducible assumption)) ?_))
local macro_rules | `(tactic| walk_at "pyIter str") => `(tactic| (refine' iter_of_str (by assumption) (by with_reducible assumption) ?_; walk_at "ii"))
local macro_rules | `(tactic| walk_at "compareOp Is str str") => `(tactic| (refine' is_str (by with_reducible assumption) (by walk_at "o") (by walk_at "o") (by walk_at "o") ?_; k_whole; intro b' hb'))
local macro_rules | `(tactic| walk_at "mine subs") => `(tactic| repeat' (first | exact List.forall_mem_nil _ | refine List.forall_mem_cons.mpr ⟨rfl, ?_⟩))
local macro_rules | `(tactic| walk_at "mine enter") => `(tactic| (
  case hb => exact rfl
  case hbind => exact BindsTo.of_eq rfl
  case hcell => decide
  case hloc => exact locs rfl
  case hbs => walk_at "mine subs"
  case h1 => rfl
  case h2 => rfl
  case h3 => rfl))
local macro_rules | `(tactic| walk_at "mine tree") => `(tactic| first | (with_reducible show wpAny _ _ _ _ _ _) | (with_reducible show @ite Prop _ _ _ _) | (with_reducible show Frag.In _ _ ∧ _))

noncomputable def F28 : {fd // FnOk hd.heap_1 28 fd} := ⟨_, fun P => by k_is, fun P => by k_is⟩
noncomputable def F35 : {fd // FnOk hd.heap_1 35 fd} := ⟨_, fun P => by k_is, fun P => by k_is⟩
noncomputable def F42 : {fd // FnOk hd.heap_1 42 fd} := ⟨_, fun P => by k_is, fun P => by k_is⟩
noncomputable def F49 : {fd // FnOk hd.heap_1 49 fd} := ⟨_, fun P => by k_is, fun P => by k_is⟩
noncomputable def F56 : {fd // FnOk hd.heap_1 56 fd} := ⟨_, fun P => by k_is, fun P => by k_is⟩
noncomputable def F63 : {fd // FnOk hd.heap_1 63 fd} := ⟨_, fun P => by k_is, fun P => by k_is⟩
noncomputable def F70 : {fd // FnOk hd.heap_1 70 fd} := ⟨_, fun P => by k_is, fun P => by k_is⟩
noncomputable def F77 : {fd // FnOk hd.heap_1 77 fd} := ⟨_, fun P => by k_is, fun P => by k_is⟩
noncomputable def F91 : {fd // FnOk hd.heap_1 91 fd} := ⟨_, fun P => by k_is, fun P => by k_is⟩
noncomputable def F98 : {fd // FnOk hd.heap_1 98 fd} := ⟨_, fun P => by k_is, fun P => by k_is⟩
noncomputable def F105 : {fd // FnOk hd.heap_1 105 fd} := ⟨_, fun P => by k_is, fun P => by k_is⟩
noncomputable def F112 : {fd // FnOk hd.heap_1 112 fd} := ⟨_, fun P => by k_is, fun P => by k_is⟩
noncomputable def F126 : {fd // FnOk hd.heap_1 126 fd} := ⟨_, fun P => by k_is, fun P => by k_is⟩
noncomputable def F133 : {fd // FnOk hd.heap_1 133 fd} := ⟨_, fun P => by k_is, fun P => by k_is⟩
noncomputable def F147 : {fd // FnOk hd.heap_1 147 fd} := ⟨_, fun P => by k_is, fun P => by k_is⟩
noncomputable def F168 : {fd // FnOk hd.heap_1 168 fd} := ⟨_, fun P => by k_is, fun P => by k_is⟩
noncomputable def F182 : {fd // FnOk hd.heap_1 182 fd} := ⟨_, fun P => by k_is, fun P => by k_is⟩
noncomputable def F206 : {fd // FnOk hd.heap_1 206 fd} := ⟨_, fun P => by k_is, fun P => by k_is⟩
noncomputable def F213 : {fd // FnOk hd.heap_1 213 fd} := ⟨_, fun P => by k_is, fun P => by k_is⟩
noncomputable def F221 : {fd // FnOk hd.heap_1 221 fd} := ⟨_, fun P => by k_is, fun P => by k_is⟩
noncomputable def F229 : {fd // FnOk hd.heap_1 229 fd} := ⟨_, fun P => by k_is, fun P => by k_is⟩
noncomputable def F236 : {fd // FnOk hd.heap_1 236 fd} := ⟨_, fun P => by k_is, fun P => by k_is⟩
noncomputable def F243 : {fd // FnOk hd.heap_1 243 fd} := ⟨_, fun P => by k_is, fun P => by k_is⟩
noncomputable def F251 : {fd // FnOk hd.heap_1 251 fd} := ⟨_, fun P => by k_is, fun P => by k_is⟩
noncomputable def F258 : {fd // FnOk hd.heap_1 258 fd} := ⟨_, fun P => by k_is, fun P => by k_is⟩
noncomputable def F266 : {fd // FnOk hd.heap_1 266 fd} := ⟨_, fun P => by k_is, fun P => by k_is⟩
noncomputable def F278 : {fd // FnOk hd.heap_1 278 fd} := ⟨_, fun P => by k_is, fun P => by k_is⟩
noncomputable def F285 : {fd // FnOk hd.heap_1 285 fd} := ⟨_, fun P => by k_is, fun P => by k_is⟩
noncomputable def F290 : {fd // FnOk hd.heap_1 290 fd} := ⟨_, fun P => by k_is, fun P => by k_is⟩
noncomputable def F295 : {fd // FnOk hd.heap_1 295 fd} := ⟨_, fun P => by k_is, fun P => by k_is⟩
noncomputable def F302 : {fd // FnOk hd.heap_1 302 fd} := ⟨_, fun P => by k_is, fun P => by k_is⟩
noncomputable def F307 : {fd // FnOk hd.heap_1 307 fd} := ⟨_, fun P => by k_is, fun P => by k_is⟩

-- B3

/-- frozen sequences -/
noncomputable def SeqAt (g : Heap) (l : Addr) (vs : List Value) : Prop := ∃ o n, g.get? l = some o ∧ o.data = .seq vs.toArray n
noncomputable def ListAt (g : Heap) (l : Addr) (vs : List Value) : Prop := ∃ o, g.get? l = some o ∧ LstO vs o
noncomputable def TupO (vs : List Value) : OP := fun o => ∃ n, o = ⟨.type "tuple", none, .seq vs.toArray n, #[]⟩
noncomputable def TupAt (g : Heap) (t : Addr) (vs : List Value) : Prop := ∃ o, g.get? t = some o ∧ TupO vs o
theorem SeqAt.le {g g' : Heap} {l : Addr} {vs : List Value} (x : SeqAt g l vs) (h : Le g g') : SeqAt g' l vs := let ⟨o, n, e, d⟩ := x; ⟨o, n, h _ _ e, d⟩
theorem ListAt.le {g g' : Heap} {l : Addr} {vs : List Value} (x : ListAt g l vs) (h : Le g g') : ListAt g' l vs := let ⟨o, e, d⟩ := x; ⟨o, h _ _ e, d⟩
theorem TupAt.le {g g' : Heap} {l : Addr} {vs : List Value} (x : TupAt g l vs) (h : Le g g') : TupAt g' l vs := let ⟨o, e, d⟩ := x; ⟨o, h _ _ e, d⟩
theorem ListAt.seq {g : Heap} {l : Addr} {vs : List Value} (x : ListAt g l vs) : SeqAt g l vs := let ⟨_, e, n, q⟩ := x; ⟨_, n, e, by rw [q]⟩
theorem TupAt.seq {g : Heap} {l : Addr} {vs : List Value} (x : TupAt g l vs) : SeqAt g l vs := let ⟨_, e, n, q⟩ := x; ⟨_, n, e, by rw [q]⟩
theorem ListAt.isList {g : Heap} {l : Addr} {vs : List Value} (x : ListAt g l vs) : g.IsList l vs.toArray := let ⟨_, e, n, q⟩ := x; ⟨_, e, by rw [q], n, by rw [q]⟩
theorem LstO.isList {g : Heap} {l : Addr} {vs : List Value} (x : ∃ o, g.get? l = some o ∧ LstO vs o) : g.IsList l vs.toArray := let ⟨_, e, n, q⟩ := x; ⟨_, e, by rw [q], n, by rw [q]⟩
theorem TupO.isTup {g : Heap} {l : Addr} {vs : List Value} (x : ∃ o, g.get? l = some o ∧ TupO vs o) : IsTup g l vs.toArray := let ⟨_, e, n, q⟩ := x; ⟨_, e, by rw [q], n, by rw [q]⟩

section
variable {prog : Program} {w : World} {A : Around} {E : Value → Shared → Prop} {s : Shared} {g : Heap} {γ₀ : Array GenState} {L : List Ent} {env : Env}

noncomputable def LiO (l : Addr) (i : Nat) : OP := fun o => o.cls = .type "list_iterator" ∧ o.data = .fields #[.ref l, .int i 0]

theorem next_seq_item {it l : Addr} {i : Nat} {vs : List Value} {x : Value} {Q : Option Value → Shared → Prop} (hit : s.heap.IsListIter it l i) (hl : SeqAt s.heap l vs) (hx : vs[i]? = some x)
    (hQ : ∀ h', h'.IsListIter it l (i + 1) → Heap.SameBut it s.heap h' → Q (some x) { s with heap := h' }) : wpAny (model prog w) A (pyNext (.ref it)) Q E s := by
  obtain ⟨o, ho, hc, hd⟩ := id hit
  obtain ⟨ol, n, hol, hdl⟩ := hl
  have hx' : vs.toArray[(i : Int).toNat]? = some x := by simpa using hx
  unfold pyNext
  refine wpAny_bind (wpAny_attempt (wpAny_callSpecial?_slot (name := Str.ofString "__next__") hit.typeIs slot_listiter_next
    (wpAny_call_entry slot_listiter_next hit.typeIs entry_listiter_next ?_ (args_listiter_next _))))
  refine wpAny_bind (m := slotArgs "__next__" 0 ⟨[.ref it], []⟩) (wpAny_of_eq (a := (.ref it, [])) (by kernel_rfl) ?_)
  refine wpAny_bind (wpAny_field ho hd (x := .ref l) rfl ?_)
  refine wpAny_ite_false rfl ?_
  refine wpAny_bind (wpAny_field ho hd (x := .int i 0) rfl (wpAny_bind (wpAny_seqItems hol hdl ?_)))
  dsimp only
  rw [hx']
  refine wpAny_bind (wpAny_setField ho hd (by simp) (wpAny_pure ⟨x, rfl, wpAny_pure (hQ _ ⟨_, Heap.get?_update_self _ ho (Obj.isFreed_of_fields (Obj.data_mapFields hd _)), (Obj.cls_mapFields ..).trans hc, ?_⟩ (Heap.SameBut.update ..))⟩))
  rw [Obj.data_mapFields hd]
  simp [rawInt]

theorem stop_raise {α : Type} {M : Model} {Q : α → Shared → Prop} (hh : A.handled = none)
    (h : ∀ e h', (∀ b o, s.heap.get? b = some o → h'.get? b = some o) → (∃ o, h'.get? e = some o ∧ o.cls = .type "StopIteration") → E (.ref e) { s with heap := h' }) :
    wpAny M A (Builtin.SmallTypes.stopIteration : Sem α) Q E s := by
  unfold Builtin.SmallTypes.stopIteration
  refine wpAny_bind ?_
  simp only [newExc, newTuple]
  refine wpAny_bind (wpAny_newObj_type ?_ (by size_fits))
  refine wpAny_bind (m := firstArgMember _ _) (wpAny_of_eq (a := Value.none) (by first | rfl | (simp only [firstArgMember]; rfl)) ?_)
  refine wpAny_newObj_type ?_ (by size_fits)
  simp only [raiseNew]
  refine wpAny_bind (wpAny_handled ?_)
  rw [hh]
  exact wpAny_bind (wpAny_pure (wpAny_throw (h _ _ (fun b o e => Heap.get?_push_of_some _ (Heap.get?_push_of_some _ e)) ⟨_, Heap.get?_push_size _ rfl, rfl⟩)))

theorem next_seq_end {it l : Addr} {i : Nat} {vs : List Value} {Q : Option Value → Shared → Prop} (hh : A.handled = none) (hit : s.heap.IsListIter it l i) (hl : SeqAt s.heap l vs) (hx : vs[i]? = none)
    (hQ : ∀ h', Heap.ExtBut it s.heap h' → Q none { s with heap := h' }) : wpAny (model prog w) A (pyNext (.ref it)) Q E s := by
  obtain ⟨o, ho, hc, hd⟩ := id hit
  obtain ⟨ol, n, hol, hdl⟩ := hl
  have hx' : vs.toArray[(i : Int).toNat]? = none := by simpa using hx
  unfold pyNext
  refine wpAny_bind (wpAny_attempt (wpAny_callSpecial?_slot (name := Str.ofString "__next__") hit.typeIs slot_listiter_next
    (wpAny_call_entry slot_listiter_next hit.typeIs entry_listiter_next ?_ (args_listiter_next _))))
  refine wpAny_bind (m := slotArgs "__next__" 0 ⟨[.ref it], []⟩) (wpAny_of_eq (a := (.ref it, [])) (by kernel_rfl) ?_)
  refine wpAny_bind (wpAny_field ho hd (x := .ref l) rfl ?_)
  refine wpAny_ite_false rfl ?_
  refine wpAny_bind (wpAny_field ho hd (x := .int i 0) rfl (wpAny_bind (wpAny_seqItems hol hdl ?_)))
  dsimp only
  rw [hx']
  refine wpAny_bind (wpAny_rule (wpAny_bind (wpAny_setField ho hd (by simp) (stop_raise hh fun e h' hk he => ?_))))
  obtain ⟨oe, he, hce⟩ := he
  refine wpAny_bind (wpAny_isInstance (T := "StopIteration") (b := true) ⟨_, he, hce⟩ isSubtype_stop ?_)
  exact wpAny_pure (hQ _ fun b o' hb e => hk b o' ((Heap.SameBut.update ..).extBut b o' hb e))

theorem iter_seq {g₁ : Heap} {it l : Addr} {vs : List Value} (hl : SeqAt g₁ l vs) : Iter prog w g₁ it (LiO l) vs.length (fun i _ v => vs[i]? = some v) where
  item := fun i hi A Q E s g γ₀ L hA hs hg H k => by
    obtain ⟨o, e, hc, hd⟩ := H.atHead
    refine next_seq_item (x := vs[i]) ⟨o, e, hc, hd⟩ ((hl.le hg).le H.keep) (by simp [hi]) fun h' y hs' => ?_
    obtain ⟨o', e', hc', hd'⟩ := y
    exact k _ h' _ (by simp [hi]) (Nat.le_refl _) (H.updSame hs' ⟨o', e', hc', hd'⟩)
  done := fun A Q E s g γ₀ L hA hs hg H k => by
    obtain ⟨o, e, hc, hd⟩ := H.atHead
    refine next_seq_end hA.h ⟨o, e, hc, hd⟩ ((hl.le hg).le H.keep) (by simp) fun h' hx => ?_
    exact k h' _ (Nat.le_refl _) (H.drop hx)
  self := fun i A Q E s g γ₀ L H h => by
    obtain ⟨o, e, hc, hd⟩ := H.atHead
    exact wpAny_pyIter_listiter ⟨o, e, hc, hd⟩ h
  go := fun i target v A Q E s g γ₀ L H h => by
    obtain ⟨o, e, hc, hd⟩ := H.atHead
    exact go_of e hc (by decide) h

/-- range(a, b) by ones, n items -/
noncomputable def RgO (a : Int) (n : Nat) (c : Int) (i : Nat) : OP := fun o => o = { cls := .type "range_iterator", dict := none, data := .fields #[rawInt (a + i * c), rawInt (n - i), rawInt c], slots := #[] }
theorem iter_range (g₁ : Heap) (it : Addr) (a : Int) (n : Nat) (c : Int) : Iter prog w g₁ it (RgO a n c) n (fun i t v => v = .int (a + i * c) t) where
  item := fun i hi A Q E s g γ₀ L hA hs hg H k => by
    obtain ⟨o, e, rfl⟩ := H.atHead
    refine wpAny_pyNext_range_item e (by walk_at "o") fun h' y hs' => ?_
    refine k _ h' _ rfl (Nat.le_succ _) (H.updSame hs' ⟨_, y, ?_⟩)
    have e1 : a + (i : Int) * c + c = a + ((i + 1 : Nat) : Int) * c := by rw [Int.natCast_add, Int.add_mul]; walk_at "o"
    have e2 : ((n : Int) - i - 1) = (n : Int) - ((i + 1 : Nat) : Int) := by walk_at "o"
    show _ = _
    rw [e1, e2]
  done := fun A Q E s g γ₀ L hA hs hg H k => by
    obtain ⟨o, e, rfl⟩ := H.atHead
    refine wpAny_pyNext_range_end hA.h e (by walk_at "o") fun h' hx => ?_
    exact k h' _ (Nat.le_refl _) (H.drop hx)
  self := fun i A Q E s g γ₀ L H h => by
    obtain ⟨o, e, rfl⟩ := H.atHead
    exact wpAny_pyIter_rangeiter e h
  go := fun i target v A Q E s g γ₀ L H h => by
    obtain ⟨o, e, rfl⟩ := H.atHead
    exact go_of e rfl (by decide) h

noncomputable def RvO (l : Addr) (n : Nat) (i : Nat) : OP := fun o => o.cls = .type "list_reverseiterator" ∧ o.data = .fields #[.ref l, rawInt ((n : Int) - 1 - i)]
theorem iter_rev {g₁ : Heap} {it l : Addr} {vs : List Value} (hl : ListAt g₁ l vs) : Iter prog w g₁ it (RvO l vs.length) vs.length (fun i _ v => vs[vs.length - 1 - i]? = some v) where
  item := fun i hi A Q E s g γ₀ L hA hs hg H k => by
    obtain ⟨o, e, hc, hd⟩ := H.atHead
    have ei : ((vs.length : Int) - 1 - i) = ((vs.length - 1 - i : Nat) : Int) := by walk_at "o"
    rw [ei] at hd
    have hlt : vs.length - 1 - i < vs.length := by walk_at "o"
    refine wpAny_pyNext_rev_item (x := vs[vs.length - 1 - i]) ⟨o, e, hc, hd⟩ ((hl.le hg).le H.keep).isList (by simp [hlt]) fun h' y hs' => ?_
    obtain ⟨o', e', hc', hd'⟩ := y
    refine k _ h' _ (by simp [hlt]) (Nat.le_refl _) (H.updSame hs' ⟨o', e', hc', ?_⟩)
    rw [hd']
    have : (((vs.length - 1 - i : Nat) : Int) - 1) = (vs.length : Int) - 1 - ((i + 1 : Nat) : Int) := by walk_at "o"
    rw [this]
  done := fun A Q E s g γ₀ L hA hs hg H k => by
    obtain ⟨o, e, hc, hd⟩ := H.atHead
    have ei : ((vs.length : Int) - 1 - vs.length) = -1 := by walk_at "o"
    rw [ei] at hd
    refine wpAny_pyNext_rev_end hA.h ⟨o, e, hc, hd⟩ fun h' hx => ?_
    exact k h' _ (Nat.le_refl _) (H.drop hx)
  self := fun i A Q E s g γ₀ L H h => by
    obtain ⟨o, e, hc, hd⟩ := H.atHead
    exact wpAny_pyIter_revIter ⟨o, e, hc, hd⟩ h
  go := fun i target v A Q E s g γ₀ L H h => by
    obtain ⟨o, e, hc, hd⟩ := H.atHead
    exact go_of e hc (by decide) h
end

-- B4

section
variable {w : World} {g g' h h' : Heap} {γ₀ γ γ' : Array GenState} {L L' : List Ent}
theorem St0.news {N : List Ent} (H : St0 w g γ₀ h γ L) (hk : ∀ b o, h.get? b = some o → h'.get? b = some o) (hn : (N.map (·.1)).Nodup)
    (hN : ∀ p ∈ N, h.objs.size ≤ p.1 ∧ ∃ o, h'.get? p.1 = some o ∧ p.2 o) : St0 w g γ₀ h' γ (N ++ L) := by
  have fresh : ∀ p ∈ N, ∀ b o, h.get? b = some o → b ≠ p.1 := fun p hp b o e q => by
    exact absurd (Nat.lt_of_lt_of_le (Heap.lt_size e) (hN p hp).1) (by rw [q]; exact Nat.lt_irrefl _)
  refine ⟨fun b o e => hk _ _ (H.keep b o e), fun p hm => ?_, ?_, H.gk, H.gb, H.cx⟩
  · rcases List.mem_append.mp hm with hm | hm
    · refine ⟨(hN p hm).2, ?_⟩
      cases q : g.get? p.1 with
      | none => rfl
      | some o => exact absurd rfl (fresh p hm _ _ (H.keep _ _ q))
    · obtain ⟨⟨o, e, p'⟩, n⟩ := H.own _ hm
      exact ⟨⟨o, hk _ _ e, p'⟩, n⟩
  · rw [List.map_append]
    refine List.nodup_append.mpr ⟨hn, H.nd, fun a ha b hb q => ?_⟩
    obtain ⟨p, hp, rfl⟩ := List.mem_map.mp ha
    obtain ⟨r, hr, rfl⟩ := List.mem_map.mp hb
    obtain ⟨⟨o, e, _⟩, _⟩ := H.own _ hr
    exact fresh p hp _ _ e q.symm
/-- a frozen object that g does not hold is owned again -/
theorem St0.thaw {a : Addr} {P : OP} (H : St0 w g' γ₀ h γ L) (hle : Le g g') (hn : g.get? a = none) (ho : ∃ o, g'.get? a = some o ∧ P o) (hcx : Cx w g) : ∃ g'', Le g g'' ∧ (∀ b o, b ≠ a → g'.get? b = some o → g''.get? b = some o) ∧ St0 w g'' γ₀ h γ ((a, P) :: L) := by
  obtain ⟨o, e, p⟩ := ho
  have hl : Le g (g'.hide a) := fun b o' e' => (Heap.hide_ne g' (fun q => by rw [q, hn] at e'; cases e')).trans (hle _ _ e')
  refine ⟨g'.hide a, hl, fun b o' hb e' => (Heap.hide_ne g' hb).trans e', ⟨fun b o' e' => ?_, fun q hq => ?_, ?_, H.gk, H.gb, hcx.le hl⟩⟩
  · by_cases hb : b = a
    · rw [hb, Heap.hide_self] at e'; cases e'
    · rw [Heap.hide_ne g' hb] at e'; exact H.keep _ _ e'
  · rcases List.mem_cons.mp hq with rfl | hq
    · exact ⟨⟨o, H.keep _ _ e, p⟩, Heap.hide_self _ _⟩
    · obtain ⟨x, n⟩ := H.own _ hq
      refine ⟨x, ?_⟩
      by_cases hb : q.1 = a
      · rw [hb]; exact Heap.hide_self _ _
      · rw [Heap.hide_ne g' hb]; exact n
  · rw [List.map_cons, List.nodup_cons]
    refine ⟨fun hm => ?_, H.nd⟩
    obtain ⟨q, hq, rfl⟩ := List.mem_map.mp hm
    have := (H.own _ hq).2
    rw [e] at this; cases this
theorem St.news {N : List Ent} (H : St w g γ₀ h γ L) (hk : ∀ b o, h.get? b = some o → h'.get? b = some o) (hn : (N.map (·.1)).Nodup)
    (hN : ∀ p ∈ N, h.objs.size ≤ p.1 ∧ ∃ o, h'.get? p.1 = some o ∧ p.2 o) : St w g γ₀ h' γ (N ++ L) := let ⟨T, t, x⟩ := H; ⟨T, t, by rw [List.append_assoc]; exact x.news hk hn hN⟩
theorem St.thaw {a : Addr} {P : OP} (H : St w g' γ₀ h γ L) (hle : Le g g') (hn : g.get? a = none) (ho : ∃ o, g'.get? a = some o ∧ P o) (hcx : Cx w g) (hP : ∀ o, P o → ∀ vs, o.data ≠ .fields vs) :
    ∃ g'', Le g g'' ∧ (∀ b o, b ≠ a → g'.get? b = some o → g''.get? b = some o) ∧ St w g'' γ₀ h γ ((a, P) :: L) :=
  let ⟨T, t, x⟩ := H
  let ⟨g'', l, k, y⟩ := x.thaw hle hn ho hcx
  let ⟨o, e, p⟩ := ho
  ⟨g'', l, k, T, t.keeps fun b o' e' ⟨vs, hd⟩ => k b o' (fun q => by rw [q, e] at e'; cases e'; exact hP _ p _ hd) e', y⟩
end

section
variable {prog : Program} {w : World} {A : Around} {E : Value → Shared → Prop} {s : Shared} {g : Heap} {γ₀ : Array GenState} {L : List Ent} {env : Env} {F : Ent}

theorem new_list {vs : List Value} {Q : Value → Shared → Prop} (H : St w g γ₀ s.heap s.gens (F :: L)) (hsz : vs.length ≤ sizeLine)
    (k : ∀ a h', St w g γ₀ h' s.gens (F :: (a, LstO vs) :: L) → Q (.ref a) { s with heap := h' }) : wpAny (model prog w) A (newList vs) Q E s :=
  wpAny_newObj_type (k _ _ ((H.push _ rfl ⟨_, rfl⟩).perm (.swap _ _ _))) (by show vs.toArray.size ≤ sizeLine; rw [List.size_toArray]; exact hsz)
theorem new_tuple {vs : List Value} {Q : Value → Shared → Prop} (H : St w g γ₀ s.heap s.gens (F :: L)) (hsz : vs.length ≤ sizeLine)
    (k : ∀ a h', St w g γ₀ h' s.gens (F :: (a, TupO vs) :: L) → Q (.ref a) { s with heap := h' }) : wpAny (model prog w) A (newTuple vs) Q E s :=
  wpAny_newObj_type (k _ _ ((H.push _ rfl ⟨_, rfl⟩).perm (.swap _ _ _))) (by show vs.toArray.size ≤ sizeLine; rw [List.size_toArray]; exact hsz)

theorem list_append {a : Addr} {vs : List Value} {x : Value} {Q : Value → Shared → Prop} (H : St w g γ₀ s.heap s.gens ((a, LstO vs) :: L)) (hsz : vs.length ≤ sizeLine)
    (k : ∀ h', St w g γ₀ h' s.gens ((a, LstO (vs ++ [x])) :: L) → Q .none { s with heap := h' }) : wpAny (model prog w) A (call (.builtin "list.append") [.ref a, x]) Q E s := by
  obtain ⟨o, e, n, rfl⟩ := H.atHead
  refine wpAny_call_entry slot_list_append (T := "list") ⟨_, e, rfl⟩ entry_list_append ?_ (args_list_append _ _)
  refine wpAny_bind (m := updateSeq a (·.push x)) ?_
  have hz' : (vs.toArray.push x).size ≤ sizeLine + 1 := by rw [Array.size_push, List.size_toArray]; walk_at "o"
  refine wpAny_updateSeq e rfl (hz := by rw [List.size_toArray]; exact hsz) (_hz' := hz') (wpAny_pure ⟨.none, rfl, k _ (H.updSame (Heap.SameBut.update ..) ⟨_, Heap.get?_update_self _ e rfl, ?_⟩)⟩)
  exact ⟨n + 1, by simp [Obj.mapSeq]⟩

/-- the rest of a list comprehension behind its iterator -/
noncomputable def CompRest (prog : Program) (w : World) (A : Around) (env : Env) (elt target iter : Expr) (ifs : List Expr) (scope : Scope) (cl : List (Str × Addr)) (pos : Pos) (Q : Value → Shared → Prop) (E : Value → Shared → Prop) (it : Value) (s₂ : Shared) : Prop :=
  wpAny (model prog w) A (newList []) (fun acc s₃ => wpAny (model prog w) A (newFunctionEnv scope env.globals cl [] env.qual none .none (some env)) (fun cenv s₄ =>
    codeAny (model prog w) A (.compStart (.ListComp elt [⟨target, iter, ifs, 0⟩] scope pos) 0 it acc { cenv with scope := relabel scope env }) (compPost (model prog w) A E none Q acc cenv.locals) s₄) E s₃) E s₂
theorem list_comp {elt target iter : Expr} {ifs : List Expr} {scope : Scope} {cl : List (Str × Addr)} {pos : Pos} {Q : Value → Shared → Prop}
    (hclos : closureFor scope env = pure cl) (hkind : scope.kind = .function) (hnames : ∀ x ∈ scope.names, x.2 = .local → scope.names.lookup x.1 = some .local) (hs : ∀ x, foldedSetIterable iter env x = pure x)
    (h : wpAny (model prog w) A (eval iter env) (fun x s₁ => wpAny (model prog w) A (pyIter x) (CompRest prog w A env elt target iter ifs scope cl pos Q E) E s₁) E s) :
    wpAny (model prog w) A (eval (.ListComp elt [⟨target, iter, ifs, 0⟩] scope pos) env) Q E s := by
  rw [eval_ListComp]
  exact wpAny_comprehension_free rfl hs hclos hkind hnames h

theorem comp_run {elt target iter : Expr} {ifs : List Expr} {scope : Scope} {cl : List (Str × Addr)} {pos : Pos} {Q : Value → Shared → Prop} {it : Addr} {P : Nat → OP} {n : Nat} {V : Nat → Nat → Value → Prop}
    (I : Iter prog w g it P n V) (hA : Ok A 1 10) (hs : 0 < s.toks) (hsz : n ≤ sizeLine) (hcell : ∀ y ∈ scope.names, y.2 ≠ .cell) (hkind : scope.kind = .function) (J : Nat → Heap → List Value → List Ent → Prop)
    (H : St w g γ₀ s.heap s.gens ((it, P 0) :: L)) (h0 : J 0 g [] L)
    (turn : ∀ i g' h' γ' t tk vs L' v Lc acc, i < n → Le g g' → s.toks ≤ t → t ≤ tk → J i g' vs L' → V i t v → St w g' γ₀ h' γ' ((Lc, FrO []) :: (it, P (i + 1)) :: (acc, LstO vs) :: L') →
      wpAny (model prog w) A (assign target (compEnvC scope cl Lc env) v) (fun _ s₂ =>
        wpAny (model prog w) A (forIn ifs true fun c r => if r = true then do let ok ← isTrue c (compEnvC scope cl Lc env) (eval c (compEnvC scope cl Lc env)); pure (ForInStep.yield ok) else pure (ForInStep.yield r)) (fun ok s₃ =>
          if ok = true then wpAny (model prog w) A (eval elt (compEnvC scope cl Lc env)) (fun x s₄ => ∃ g'' h'' γ'' tk'' bs'' L'', s₄ = { s with heap := h'', gens := γ'', toks := tk'' } ∧ Le g' g'' ∧ tk ≤ tk'' ∧ J (i + 1) g'' (vs ++ [x]) L'' ∧
              St w g'' γ₀ h'' γ'' ((Lc, FrO bs'') :: (it, P (i + 1)) :: (acc, LstO vs) :: L'')) (fun _ _ => False) s₃
          else ∃ g'' h'' γ'' tk'' bs'' L'', s₃ = { s with heap := h'', gens := γ'', toks := tk'' } ∧ Le g' g'' ∧ tk ≤ tk'' ∧ J (i + 1) g'' vs L'' ∧
              St w g'' γ₀ h'' γ'' ((Lc, FrO bs'') :: (it, P (i + 1)) :: (acc, LstO vs) :: L'')) (fun _ _ => False) s₂) (fun _ _ => False) { s with heap := h', gens := γ', toks := tk })
    (after : ∀ g' h' γ' tk vs L' acc, Le g g' → s.toks ≤ tk → J n g' vs L' → St w g' γ₀ h' γ' ((acc, LstO vs) :: L') → Q (.ref acc) { s with heap := h', gens := γ', toks := tk }) :
    CompRest prog w A env elt target iter ifs scope cl pos Q E (.ref it) s := by
  refine wpAny_newObj_type ?_ (by size_fits)
  refine wpAny_newFunctionEnv hcell (by intro y hy; simp at hy) (fun h₁ hns₁ hsb₁ => ?_) hkind
  dsimp only at hns₁ hsb₁ ⊢
  have H1 := (H.push (P := LstO []) { cls := .type "list", dict := none, data := .seq ([] : List Value).toArray } rfl ⟨_, rfl⟩).push (P := FrO []) { cls := .type "dict", data := .dict #[] } rfl ⟨_, _, rfl, (by intro e he; simp at he), (by intro x v e; cases e)⟩
  have H2 := H1.updSame (P' := FrO []) hsb₁ (of_ns hns₁ fun _ _ e => by cases e)
  generalize hacc : s.heap.objs.size = acc at H2 ⊢
  generalize hLc : (s.heap.push { cls := .type "list", dict := none, data := .seq ([] : List Value).toArray }).objs.size = Lc at H2 ⊢
  clear H1 hns₁ hsb₁
  have H3 : St w g γ₀ h₁ s.gens ((Lc, FrO []) :: (it, P 0) :: (acc, LstO []) :: L) := H2.perm (.cons _ (.swap _ _ _))
  clear H2
  have loop : ∀ s₃ : Shared, s₃ = { s with heap := h₁, toks := s.toks } →
      codeAny (model prog w) A (.compLoop (.ListComp elt [⟨target, iter, ifs, 0⟩] scope pos) 0 (.ref it) (.ref acc) (compEnvC scope cl Lc env)) (compPost (model prog w) A E none Q (.ref acc) Lc) s₃ := by
    rintro s₃ rfl
    refine codeAny_loop rfl (fun k s' => ∃ i g' h' γ' tk vs L' bs, s' = { s with heap := h', gens := γ', toks := tk } ∧ i ≤ n ∧ k = n + 1 - i ∧ Le g g' ∧ s.toks ≤ tk ∧ vs.length ≤ i ∧ J i g' vs L' ∧
      St w g' γ₀ h' γ' ((Lc, FrO bs) :: (it, P i) :: (acc, LstO vs) :: L')) (fun k s' hI => ?_) (n + 1) ⟨0, g, h₁, s.gens, s.toks, [], L, [], rfl, Nat.zero_le _, rfl, .refl _, Nat.le_refl _, Nat.le_refl _, h0, H3⟩
    obtain ⟨i, g', h', γ', tk, vs, L', bs, rfl, hi, rfl, hg, htk, hvs, hJ, HI⟩ := hI
    have htk0 : 0 < tk := Nat.lt_of_lt_of_le hs htk
    show wpAny _ A ((compTurn (.ListComp elt [⟨target, iter, ifs, 0⟩] scope pos) 0 (.ref it) (.ref acc) (compEnvC scope cl Lc env)).onRaise (fun x => do noteFrame x (compEnvC scope cl Lc env); theTreesLotGoes x)) _ _ _
    refine wpAny_noted ?_
    rw [compTurn_list]
    refine wpAny_bind (wpAny_standAt (wpAny_bind ?_))
    by_cases hlt : i < n
    · refine I.item i hlt A _ _ _ g' γ₀ _ hA htk0 hg (HI.perm (.swap _ _ _)) fun v h₂ tk₂ hV htk₂ H₂ => ?_
      dsimp only
      refine wpAny_bind (I.go (i + 1) target v A _ _ _ g' γ₀ _ H₂ ?_)
      have H₂' : St w g' γ₀ h₂ γ' ((Lc, FrO []) :: (it, P (i + 1)) :: (acc, LstO vs) :: L') := (H₂.perm (.swap _ _ _)).weak fun o => FrO.sub (List.forall_mem_nil _)
      refine wpAny_bind (wpAny_mono (turn i g' h₂ γ' tk tk₂ vs L' v Lc acc hlt hg htk htk₂ hJ hV H₂') (fun _ s₃ h₃ => wpAny_bind (wpAny_mono h₃ (fun ok s₄ h₄ => ?_) fun _ _ z => z.elim)) fun _ _ z => z.elim)
      cases ok with
      | false =>
        simp only [Bool.false_eq_true, if_false] at h₄ ⊢
        obtain ⟨g'', h'', γ'', tk'', bs'', L'', rfl, a, b, c, d⟩ := h₄
        exact wpAny_pure ⟨rfl, n + 1 - (i + 1), by walk_at "o", i + 1, g'', h'', γ'', tk'', vs, L'', bs'', rfl, hlt, rfl, hg.trans a, Nat.le_trans htk (Nat.le_trans htk₂ b), by walk_at "o", c, d⟩
      | true =>
        simp only [if_true] at h₄ ⊢
        refine wpAny_bind (wpAny_bind (wpAny_mono h₄ (fun x s₅ h₅ => ?_) fun _ _ z => z.elim))
        obtain ⟨g'', h'', γ'', tk'', bs'', L'', rfl, a, b, c, d⟩ := h₅
        have d' : St w g'' γ₀ h'' γ'' ((acc, LstO vs) :: (Lc, FrO bs'') :: (it, P (i + 1)) :: L'') := d.perm (.trans (.cons _ (.swap _ _ _)) (.swap _ _ _))
        refine wpAny_bind (list_append (s := { s with heap := h'', gens := γ'', toks := tk'' }) d' (by walk_at "o") fun h₆ H₆ => wpAny_pure (wpAny_pure ?_))
        refine ⟨rfl, n + 1 - (i + 1), by walk_at "o", i + 1, g'', h₆, γ'', tk'', vs ++ [x], L'', bs'', rfl, hlt, rfl, hg.trans a, Nat.le_trans htk (Nat.le_trans htk₂ b), ?_, c, H₆.perm (.trans (.swap _ _ _) (.cons _ (.swap _ _ _)))⟩
        rw [List.length_append]; simp; walk_at "o"
    · have hin : i = n := by walk_at "o"
      subst hin
      refine I.done A _ _ _ g' γ₀ _ hA htk0 hg (HI.perm (.swap _ _ _)) fun h₂ tk₂ htk₂ H₂ => ?_
      obtain ⟨o, e, p⟩ := H₂.atHead
      obtain ⟨m, hm, _⟩ := ns_of e p
      refine wpAny_pure ⟨m, hm, fun h₃ hs₃ => ?_⟩
      exact after g' h₃ γ' tk₂ vs L' acc hg (Nat.le_trans htk htk₂) hJ (H₂.drop hs₃.extBut)
  refine codeAny_compStart_list (loop _ rfl) ?_
  exact I.self 0 A _ _ _ g γ₀ _ (H3.perm (.swap _ _ _)) (loop _ rfl)
end

-- B5


/-- an entry put in another's place -/
inductive Put (a : Addr) (P P' : OP) : List Ent → List Ent → Prop
  | head {l} : Put a P P' ((a, P) :: l) ((a, P') :: l)
  | tail {y l l'} : Put a P P' l l' → Put a P P' (y :: l) (y :: l')
theorem Put.mem {a : Addr} {P P' : OP} {l l' : List Ent} (p : Put a P P' l l') : (a, P) ∈ l := by
  induction p with
  | head => exact .head _
  | tail _ ih => exact .tail _ ih
theorem Put.perm {a : Addr} {P P' : OP} {l l' : List Ent} (p : Put a P P' l l') : ∃ r, l.Perm ((a, P) :: r) ∧ ((a, P') :: r).Perm l' := by
  induction p with
  | head => exact ⟨_, .refl _, .refl _⟩
  | tail _ ih => obtain ⟨r, h1, h2⟩ := ih; exact ⟨_, (h1.cons _).trans (.swap _ _ _), (List.Perm.swap _ _ _).trans (h2.cons _)⟩

section
variable {prog : Program} {w : World} {A : Around} {E : Value → Shared → Prop} {s : Shared} {g h h' : Heap} {γ₀ γ : Array GenState} {L L' : List Ent} {env : Env} {a : Addr} {P P' : OP}
theorem St.put (H : St w g γ₀ h γ L) (p : Put a P P' L L') (hs : ∀ b o, b ≠ a → h.get? b = some o → h'.get? b = some o) (ho : ∃ o, h'.get? a = some o ∧ P' o) : St w g γ₀ h' γ L' :=
  let ⟨_, h1, h2⟩ := p.perm; ((H.perm h1).upd hs ho).perm h2
theorem St.putSame (H : St w g γ₀ h γ L) (p : Put a P P' L L') (hs : Heap.SameBut a h h') (ho : ∃ o, h'.get? a = some o ∧ P' o) : St w g γ₀ h' γ L' :=
  H.put p (fun b o hb e => (hs.2 b hb).trans e) ho

theorem name_cell {x : Str} {pos : Pos} {v : Value} {c : Addr} {Q : Value → Shared → Prop} (H : St w g γ₀ s.heap s.gens L) (hc : env.cells.lookup x = some c) (hm : (c, CellO (some v)) ∈ L) (h : Q v s)
    (hk : env.scope.kind = .function := by rfl) (hl : env.kindOf x = some .cell := by rfl) (hd : (x == ("__debug__" : Str)) = false := by decide) : wpAny (model prog w) A (eval (.Name x pos) env) Q E s :=
  wpAny_Name (wpAny_loadName_cell hk hl hc (H.of hm) h) hd
theorem name_free {x : Str} {pos : Pos} {v : Value} {c : Addr} {Q : Value → Shared → Prop} (H : St w g γ₀ s.heap s.gens L) (hc : env.cells.lookup x = some c) (hm : (c, CellO (some v)) ∈ L) (h : Q v s)
    (hk : env.scope.kind = .function := by rfl) (hl : env.kindOf x = some .free := by rfl) (hd : (x == ("__debug__" : Str)) = false := by decide) (hn : (x == ("__classdict__" : Str)) = false := by decide) : wpAny (model prog w) A (eval (.Name x pos) env) Q E s :=
  wpAny_Name (wpAny_loadName_free hk hl hc (H.of hm) h hn) hd
theorem store_cell {x : Str} {v : Value} {v₀ : Option Value} {c : Addr} {Q : Unit → Shared → Prop} (H : St w g γ₀ s.heap s.gens L) (hc : env.cells.lookup x = some c) (hp : Put c (CellO v₀) (CellO (some v)) L L')
    (h : ∀ h', St w g γ₀ h' s.gens L' → Q () { s with heap := h' }) (hk : env.scope.kind = .function := by rfl) (hl : env.kindOf x = some .cell := by rfl) : wpAny (model prog w) A (storeName env x v) Q E s :=
  wpAny_storeName_cell hk hl hc (H.of hp.mem) fun h' hc' hs => h h' (H.putSame hp hs hc')

theorem lookup_nodup {α : Type} : ∀ {l : List (Str × α)}, (l.map (·.1)).Nodup → ∀ {q : Str × α}, q ∈ l → l.lookup q.1 = some q.2
  | (k, v) :: r, hn, q, hq => by
    rw [List.map_cons, List.nodup_cons] at hn
    rw [List.lookup_cons]
    rcases List.mem_cons.mp hq with rfl | hq
    · simp
    · have : (q.1 == k) = false := by
        have : q.1 ≠ k := fun e => hn.1 (List.mem_map.mpr ⟨q, hq, e⟩)
        simpa using this
      rw [this]
      exact lookup_nodup hn.2 hq
noncomputable def cellEnts (cs : List (Str × Addr)) (cm : Str → Option Value) : List Ent := cs.map fun p => (p.2, CellO (cm p.1))
theorem call_fnC {f : Addr} {body : List Stmt} {args : List Value} {Q : Value → Shared → Prop} {bs bl : List (Str × Value)}
    (F : {fd // FnOk hd.heap_1 f fd}) (H : St w g γ₀ s.heap s.gens L) (hroom : A.depth < recursionLimit) (hbody : F.1.body = .stmts body)
    (hbind : bindArgs F.1 ⟨args, []⟩ = pure bs) (hkind : (bs.all fun y => F.1.scope.names.lookup y.1 == some .local || F.1.scope.names.lookup y.1 == some .cell) = true)
    (hnd : ((cellsFrom 0 F.1.scope.names []).map (·.1)).Nodup)
    (hbl : ∀ p ∈ bl, bindL (fun n => F.1.scope.names.lookup n) bs (fun _ => none) p.1 = some p.2) (hclo : F.1.closure = [])
    (hco : F.1.scope.isCoroutine = false) (hgen : F.1.scope.isGenerator = false) (hk : F.1.scope.kind = .function)
    (h : ∀ Lf h₁ tk, s.toks ≤ tk → St w g γ₀ h₁ s.gens ((Lf, FrO bl) :: (cellEnts (cellsFrom (Lf + 1) F.1.scope.names []) (bindC (fun n => F.1.scope.names.lookup n) bs fun _ => none) ++ L)) →
      wpAny (model prog w) (A.deeper (callEnvC F.1 Lf f)) (execs body (callEnvC F.1 Lf f)) (fun fl s' => Q (match fl with | .ret v => v | _ => .none) s') (fun _ _ => False) { s with heap := h₁, toks := tk }) :
    wpAny (model prog w) A (call (.ref f) args) Q E s := by
  have Xs := H.cx.X.keeps H.keep
  refine wpAny_call (codeAny_call_function hroom (Xs _ _ (F.2.1 _)) rfl hco hgen hbody (codeRec_of Xs (F.2.2 _)) ?_)
  rw [hbind, hclo]
  refine wpAny_pure (wpAny_with_toks (Nat.le_refl s.toks) (wpAny_newFunctionEnv_cells hk (kindsX hkind _) fun env he s' x => ?_))
  subst he
  intro htk
  refine ⟨(H.cx.N.keeps H.keep).keeps x.toInCall.keep, codeAny_func ?_⟩
  have fresh := x.toInCall.fresh
  have hk₁ := x.toInCall.keep
  obtain ⟨h₁, tk, rfl⟩ := x.toInCall.same
  refine wpAny_mono (h s.heap.objs.size h₁ tk htk ?_) (fun fl s' hq => hq) fun _ _ z => z.elim
  refine St.news (N := (s.heap.objs.size, FrO bl) :: cellEnts (cellsFrom (s.heap.objs.size + 1) F.1.scope.names []) (bindC (fun n => F.1.scope.names.lookup n) bs fun _ => none)) H hk₁ ?_ ?_
  · have ab := x.above
    have ap := x.apart
    rw [List.map_cons, List.nodup_cons]
    refine ⟨fun hm => ?_, ?_⟩
    · obtain ⟨p, hp, e⟩ := List.mem_map.mp hm
      obtain ⟨q, hq, rfl⟩ := List.mem_map.mp hp
      have e' : q.2 = s.heap.objs.size := e
      have l : s.heap.objs.size < q.2 := ab _ _ hq
      rw [e'] at l
      exact Nat.lt_irrefl _ l
    · simp only [cellEnts, List.map_map]
      exact List.pairwise_map.mpr ap
  · intro p hp
    rcases List.mem_cons.mp hp with rfl | hp
    · refine ⟨Nat.le_refl _, ?_⟩
      refine of_ns x.toInCall.ns fun y v q => ?_
      exact hbl _ (mem_of_lookup q)
    · obtain ⟨q, hq, rfl⟩ := List.mem_map.mp hp
      refine ⟨Nat.le_of_lt (x.above _ _ hq), ?_⟩
      have hnd' : ((cellsFrom (s.heap.objs.size + 1) F.1.scope.names []).map (·.1)).Nodup := by rw [cellsFrom_names F.1.scope.names (s.heap.objs.size + 1) 0 [] [] rfl]; exact hnd
      have hl : (cellsFrom (s.heap.objs.size + 1) F.1.scope.names []).lookup q.1 = some q.2 := lookup_nodup hnd' hq
      exact x.cell _ _ hl

theorem call_fnX {fd : FuncData} {f : Addr} {body : List Stmt} {args : List Value} {kw : List (Str × Value)} {Q : Value → Shared → Prop} {bs : List (Str × Value)}
    (H : St w g γ₀ s.heap s.gens L) (ho : ∃ o, s.heap.get? f = some o ∧ o.data = .func fd) (hroom : A.depth < recursionLimit) (hbody : fd.body = .stmts body) (hcd : s.heap.CodeRec fd.code fd.qualname)
    (hbind : BindsTo s fd ⟨args, kw⟩ bs) (hcell : ∀ x ∈ fd.scope.names, x.2 ≠ .cell) (hloc : ∀ x ∈ bs, fd.scope.names.lookup x.1 = some .local) (hbs : ∀ p ∈ bs, bs.reverse.lookup p.1 = some p.2)
    (hco : fd.scope.isCoroutine = false) (hgen : fd.scope.isGenerator = false) (hk : fd.scope.kind = .function)
    (h : ∀ Lf h₁ tk, s.toks ≤ tk → St w g γ₀ h₁ s.gens ((Lf, FrO bs) :: L) →
      wpAny (model prog w) (A.deeper (callEnv fd Lf f)) (execs body (callEnv fd Lf f)) (fun fl s' => Q (match fl with | .ret v => v | _ => .none) s') (fun _ _ => False) { s with heap := h₁, toks := tk }) :
    wpAny (model prog w) A (call (.ref f) args kw) Q E s := by
  obtain ⟨o, ho, hd⟩ := ho
  refine wpAny_call (codeAny_call_def (fd := fd) (body := body) (binds := bs) hroom ho hd (H.cx.N.keeps H.keep) hcd hbody hbind hcell hloc (fun h₁ hns hk₁ => ?_) hco hgen hk)
  have H' : St w g γ₀ h₁ s.gens ((s.heap.objs.size, FrO bs) :: L) := (H.new (P := FrO bs.reverse) hk₁ (Nat.le_refl _) (of_ns hns fun _ _ q => q)).weak fun o => FrO.sub hbs
  exact wpAny_mono (h _ _ _ (Nat.le_add_right _ _) H') (fun fl s' hq => hq) fun _ _ z => z.elim

theorem code90 {h : Heap} (X : (hd.heap_1 w.params).In h) : CodeHd h 90 86 := ⟨_, _, _, _, _, _, _, _, _, X 90 _ (by k_is), rfl, rfl, rfl, rfl, rfl, rfl, rfl, rfl, by decide⟩
theorem code97 {h : Heap} (X : (hd.heap_1 w.params).In h) : CodeHd h 97 93 := ⟨_, _, _, _, _, _, _, _, _, X 97 _ (by k_is), rfl, rfl, rfl, rfl, rfl, rfl, rfl, rfl, by decide⟩
theorem code235 {h : Heap} (X : (hd.heap_1 w.params).In h) : CodeHd h 235 231 := ⟨_, _, _, _, _, _, _, _, _, X 235 _ (by k_is), rfl, rfl, rfl, rfl, rfl, rfl, rfl, rfl, by decide⟩
theorem code242 {h : Heap} (X : (hd.heap_1 w.params).In h) : CodeHd h 242 238 := ⟨_, _, _, _, _, _, _, _, _, X 242 _ (by k_is), rfl, rfl, rfl, rfl, rfl, rfl, rfl, rfl, by decide⟩

theorem bm_at {P : Addr} (H : St w g γ₀ s.heap s.gens L) (hP : ∀ o, s.heap.get? P = some o → o.cls = .none) : ∃ mg, s.heap.Ns mainGlobals mg ∧ s.heap.BuiltinsAt mg P := by
  obtain ⟨mg, n⟩ := H.cx.m
  have n' := n.keeps H.keep
  obtain ⟨bm, ob, e, ne, ho, hc, hd, hdat⟩ := H.cx.bm
  have ho' := H.keep _ _ ho
  refine ⟨mg, n', bm, ob, mg_of H.inK n' e, ne, fun q => ?_, fun q => ?_, ho', hc, hd, hdat⟩
  · obtain ⟨o, es, ep, e1, e2, _⟩ := n'
    rw [← q, ho'] at e1; cases e1; rw [hdat] at e2; cases e2
  · rw [q] at ho'
    have := hP _ ho'
    rw [hc] at this; cases this

theorem def_nest {q : Addr × Nat × Nat × Str} {c : Addr} {name : Str} {params : Arguments} {body : List Stmt} {scope : Scope} {pos : Pos} {clos : List (Str × Addr)} {Q : Flow → Shared → Prop} (H : St w g γ₀ s.heap s.gens L) (hq : q ∈ sites) (hC : CodeHd s.heap c q.1)
    (hcode : env.code = .ref c) (hglob : env.globals = mainGlobals) (hl : pos.line = q.2.1) (hc : pos.col = q.2.2.1) (hqn : qualnameIn env name name = q.2.2.2) (hd0 : params.defaults = []) (hk0 : params.kw_defaults = []) (ha : annTrees params none env = []) (hcl : closureFor scope env = pure clos)
    (h : ∀ f g' h' tk c' doc pm ctv, Le g g' → s.toks ≤ tk → g'.get? f = some (fnMade name q.2.2.2 params body scope clos doc pm c' ctv) → g'.CodeRec (.ref c') q.2.2.2 → St w g' γ₀ h' s.gens L →
      wpAny (model prog w) A (storeName env name (.ref f)) (fun _ s'' => Q .next s'') E { s with heap := h', toks := tk }) :
    wpAny (model prog w) A (exec (.FunctionDef name params body [] none [] scope none name pos) env) Q E s := by
  refine nestDef_K hd0 hk0 ha ?_
  rw [hqn]
  obtain ⟨ps, tb, e, hn, grow⟩ := H.site hq
  have hPc : ∀ o, s.heap.get? q.1 = some o → o.cls = .none := fun o e' => by rw [e] at e'; cases e'; rfl
  obtain ⟨mg, n, hb⟩ := bm_at H hPc
  have hgP : mainGlobals ≠ q.1 := fun z => by
    obtain ⟨o, es, ep, e1, e2, _⟩ := n
    rw [z, e] at e1; cases e1; cases e2
  refine wpAny_with_toks (Nat.le_refl s.toks) ?_
  rcases tb with rfl | ⟨c', rfl, hrec⟩
  · refine makeFunction_K (mg := mg) hcl hglob n hcode hC e trivial rfl hgP hb fun c' ctv doc h' tk hx hge hlt hrec htb htk => ?_
    obtain ⟨g', l, kp, mk⟩ := grow (h'.push (fnMade name q.2.2.2 params body scope clos doc ((mg "__name__").getD .none) c' ctv)) _ (fun b o hb' e' => Heap.get?_push_of_some _ (hx b o hb' e')) (Heap.get?_push_of_some _ htb)
    have hrec' : g'.CodeRec (.ref c') q.2.2.2 := by
      obtain ⟨c₂, o, vs, t, e1, e2, e3, e4⟩ := hrec
      cases e1
      exact ⟨_, o, vs, t, rfl, kp _ _ hge (Heap.get?_push_of_some _ e2), e3, e4⟩
    exact h _ g' _ tk c' doc _ ctv l htk (kp _ _ (Nat.le_trans hge (Nat.le_of_lt hlt)) (Heap.get?_push_size _ rfl)) hrec' (mk (.inr ⟨c', by rw [hl, hc]; rfl, hrec'⟩))
  · have hht : codeAmong pos (#[rawInt q.2.1, rawInt q.2.2.1, Value.ref c'] : Array Value).toList = some (.ref c') := by simp [codeAmong, rawInt, hl, hc]
    refine makeFunction_hit (mg := mg) hcl hglob n hcode hC e (by simp [TriplesOk, rawInt]) hht hb fun ctv doc h' tk hk' hsz htk => ?_
    obtain ⟨g', l, kp, mk⟩ := grow (h'.push (fnMade name q.2.2.2 params body scope clos doc ((mg "__name__").getD .none) c' ctv)) _ (fun b o _ e' => Heap.get?_push_of_some _ (hk' b o e')) (Heap.get?_push_of_some _ (hk' _ _ e))
    have hrec' : g'.CodeRec (.ref c') q.2.2.2 := hrec.keeps l
    exact h _ g' _ tk c' doc _ ctv l htk (kp _ _ hsz (Heap.get?_push_size _ rfl)) hrec' (mk (.inr ⟨c', rfl, hrec'⟩))
end

-- B6
local macro_rules | `(tactic| walk_at "mine mem") => `(tactic| (repeat (first | exact List.Mem.head _ | apply List.Mem.tail)))
local macro_rules | `(tactic| walk_at "mine put") => `(tactic| (repeat (first | exact Put.head | apply Put.tail)))
local macro_rules | `(tactic| walk_at "eval Name") => `(tactic| first
  | k_dflt (refine' name_local (by with_reducible assumption) (by exact rfl) ?_; k_whole)
  | k_dflt (refine' name_cell (by with_reducible assumption) (by exact rfl) (by walk_at "mine mem") ?_; k_whole)
  | k_dflt (refine' name_free (by with_reducible assumption) (by exact rfl) (by walk_at "mine mem") ?_; k_whole)
  | k_dflt (refine' name_global (by with_reducible assumption) (by k_is) ?_; k_whole)
  | k_dflt (refine' name_builtin (by with_reducible assumption) (by k_is) (by boot_by_name) ?_; k_whole))
local macro_rules | `(tactic| walk_at "storeName") => `(tactic| first
  | (refine' store_local (by with_reducible assumption) ?_; walk_at "i2")
  | (refine' store_cell (by with_reducible assumption) (by exact rfl) (by walk_at "mine put") ?_; walk_at "i2"))
local macro_rules | `(tactic| walk_at "mine small") => `(tactic| first | decide | (simp only [List.length_cons, List.length_nil]; decide) | (simp only [List.length_append, List.length_map, List.length_cons, List.length_nil]; (try unfold sizeLine); walk_at "o"))
local macro_rules | `(tactic| walk_at "newList") => `(tactic| (refine' new_list (by with_reducible assumption) (by walk_at "mine small") ?_; walk_at "i3"))
local macro_rules | `(tactic| walk_at "newTuple") => `(tactic| (refine' new_tuple (by with_reducible assumption) (by walk_at "mine small") ?_; walk_at "i3"))
local macro_rules | `(tactic| walk_at "mine walk") => `(tactic| repeat' (first | (k_unfold; (try dsimp only); walk_at "pt") | (walk_at "mine tree"; walk1; all_goals walk_at "pt") | (dsimp only; walk_at "mine tree"; walk1; all_goals walk_at "pt")))

section
variable {prog : Program} {w : World} {A : Around} {E : Value → Shared → Prop} {s : Shared} {g : Heap} {γ₀ : Array GenState} {L L' : List Ent} {env : Env} {F₀ : Ent}
theorem mul_rep {l : Addr} {v : Value} {x : Int} {u : Tok} {Q : Value → Shared → Prop} (H : St w g γ₀ s.heap s.gens (F₀ :: L)) (hl : ∃ o, s.heap.get? l = some o ∧ LstO [v] o)
    (h0 : 0 ≤ x) (h1 : x ≤ 100000) (h : ∀ a h', St w g γ₀ h' s.gens (F₀ :: (a, LstO (List.replicate x.toNat v)) :: L) → Q (.ref a) { s with heap := h' }) :
    wpAny (model prog w) A (binaryOp .Mult (.ref l) (.int x u)) Q E s := by
  obtain ⟨o, e, k, rfl⟩ := hl
  have hsz : ([v].toArray : Array Value).size * x.toNat ≤ 2 ^ 24 := by simp; walk_at "o"
  refine wpAny_binaryOp_repeat_ref (T := "list") (U := "int") (by decide) ⟨_, e, rfl⟩ (fun s' => typeIs_int s' x u) noFill_list_mul F.fills_int_mul F.slot_int_rmul repeat_list F.slot_int_index.lookup
    (call_meets F.slot_int_rmul (typeIs_int s x u) F.entry_int_rmul (F.args_int_rmul_2 _ _) (int___rmul___int_list x u l [v].toArray k)
      ⟨e, rfl, ⟨_, e, rfl⟩, call_meets F.slot_list_mul ⟨_, e, rfl⟩ F.entry_list_mul (F.args_list_mul_2 _ _)
        (AutoListH.list___mul___list_int_3 l [v].toArray k x u (by simp [Builtin.List.listFitsIndex]; walk_at "o") (by simp; walk_at "o") (by simp [Builtin.List.listTooLong, sizeLine]; walk_at "o"))
        ⟨e, h _ _ ((H.push _ rfl ⟨0, ?_⟩).perm (.swap _ _ _))⟩⟩)
  · have : ∀ n : Nat, List.foldl (fun x1 x2 => x1 ++ x2) (#[] : Array Value) (List.replicate n [v].toArray) = (List.replicate n v).toArray := by
      intro n
      have g : ∀ (n : Nat) (acc : Array Value), List.foldl (fun x1 x2 => x1 ++ x2) acc (List.replicate n [v].toArray) = acc ++ (List.replicate n v).toArray := by
        intro n
        induction n with
        | zero => intro acc; simp
        | succ n ih => intro acc; rw [List.replicate_succ, List.foldl_cons, ih, List.replicate_succ]; apply Array.ext'; simp
      rw [g]; simp
    have e0 : (if ([v].toArray : Array Value).isEmpty = true then 0 else x.toNat) = x.toNat := by simp
    rw [e0, this]
end
theorem small_log {b : Int} (h0 : -(2 ^ 128 : Int) < b) (h : b < 2 ^ 128) : b.natAbs.log2 < 9000 := by
  by_cases hb : b.natAbs = 0
  · rw [hb]; decide
  · have := (Nat.log2_lt hb (k := 128)).mpr (by walk_at "o")
    walk_at "o"
section
variable {prog : Program} {w : World} {A : Around} {E : Value → Shared → Prop} {s : Shared} {g : Heap} {γ₀ : Array GenState} {L L' : List Ent} {env : Env} {F₀ : Ent} {a b : Int} {t u : Tok}
theorem floordiv_sm {Q : Value → Shared → Prop} (hb : b ≠ 0) (h0 : -(2 ^ 128 : Int) < b) (h1 : b < 2 ^ 128) (h : Q (.int (a.fdiv b) s.toks) { s with toks := s.toks + 1 }) : wpAny (model prog w) A (binaryOp .FloorDiv (.int a t) (.int b u)) Q E s :=
  floordiv_int hb h (Or.inl (PyProof.noPylong_of_log2 (small_log h0 h1)))
theorem divmod_sm {Q : Value → Shared → Prop} (H : St w g γ₀ s.heap s.gens (F₀ :: L)) (hb : b ≠ 0) (h0 : -(2 ^ 128 : Int) < b) (h1 : b < 2 ^ 128)
    (h : ∀ a' h', St w g γ₀ h' s.gens (F₀ :: (a', TupO [.int (a.fdiv b) s.toks, .int (a.fmod b) (s.toks + 1)]) :: L) → Q (.ref a') { s with heap := h', toks := s.toks + 1 + 1 }) :
    wpAny (model prog w) A (call (.builtin "divmod") [.int a t, .int b u]) Q E s :=
  divmod_int hb (h _ _ ((H.push _ rfl ⟨_, rfl⟩).perm (.swap _ _ _))) (Or.inl (PyProof.noPylong_of_log2 (small_log h0 h1)))
theorem len_lst {l : Addr} {vs : List Value} {Q : Value → Shared → Prop} (hl : s.heap.IsList l vs.toArray) (hsz : vs.length ≤ 1000000) (h : Q (.int (vs.length : Nat) (s.toks + 1)) { s with toks := s.toks + 1 + 1 }) :
    wpAny (model prog w) A (call (.builtin "len") [.ref l]) Q E s :=
  len_list hl (by rw [List.size_toArray]; walk_at "o") (by rw [List.size_toArray]; exact h)
theorem get_lst {l : Addr} {vs : List Value} {k : Int} {i : Nat} {x : Value} {Q : Value → Shared → Prop} (hl : s.heap.IsList l vs.toArray) (hk : k = (i : Nat)) (hx : vs[i]? = some x) (hsz : i ≤ 1000000) (h : Q x s) :
    wpAny (model prog w) A (getItem (.ref l) (.int k t)) Q E s :=
  wpAny_getItem_list hl (by walk_at "o") (by walk_at "o") (by subst hk; simpa using hx) h
theorem set_lst {l : Addr} {vs : List Value} {k : Int} {i : Nat} {x : Value} {Q : Unit → Shared → Prop} (H : St w g γ₀ s.heap s.gens L) (p : Put l (LstO vs) (LstO (vs.set i x)) L L') (hk : k = (i : Nat)) (hi : i < vs.length) (hsz : i ≤ 1000000)
    (h : ∀ h', St w g γ₀ h' s.gens L' → Q () { s with heap := h' }) : wpAny (model prog w) A (setItem (.ref l) (.int k t) x) Q E s := by
  obtain ⟨o, e, n, rfl⟩ := H.of p.mem
  have h0 : 0 ≤ k := by walk_at "o"
  have hfit : k < 2 ^ 63 := by walk_at "o"
  have hT : s.TypeIs (.ref l) "list" := ⟨_, e, rfl⟩
  unfold setItem
  try with_reducible refine wpAny_holding ?_
  first | refine wpAny_bind (wpAny_pure ?_) | skip
  refine wpAny_bind (wpAny_sequenceKey hT (by decide) ?_)
  refine wpAny_bind (wpAny_callSpecial?_slot (name := Str.ofString "__setitem__") hT slot_list_setitem
    (wpAny_call_entry slot_list_setitem hT entry_list_setitem ?_ (args_list_setitem _ _ _)))
  show wpAny _ _ (Builtin.List.listSubscript? (.int k t) >>= _) _ _ s
  refine wpAny_bind (wpAny_listSubscript_int (fitsIndex_of h0 hfit) ?_)
  clear hfit
  subst hk
  have hx' : vs.toArray[i]? = some (vs[i]) := by simp [hi]
  show wpAny _ _ ((seqItemAt l i >>= fun r => pure (r.map (i, ·))) >>= _) _ _ s
  refine wpAny_bind (wpAny_bind (wpAny_seqItemAt e rfl (wpAny_pure ?_)))
  rw [hx']
  show wpAny _ _ (setSeqItemAt l i x >>= _) _ _ s
  have hfin : ∃ o, (s.heap.update l (Obj.mapSeq (·.setIfInBounds i x))).get? l = some o ∧ LstO (vs.set i x) o :=
    ⟨_, Heap.get?_update_self _ e rfl, n, by simp [Obj.mapSeq]⟩
  refine wpAny_bind (wpAny_setSeqItemAt e rfl ?_)
  first
    | exact wpAny_bind (wpAny_pure (wpAny_pure ⟨.none, rfl, wpAny_pure (h _ (H.putSame p (Heap.SameBut.update ..) hfin))⟩))
    | exact wpAny_pure ⟨.none, rfl, wpAny_pure (h _ (H.putSame p (Heap.SameBut.update ..) hfin))⟩
end
local macro_rules | `(tactic| walk_at "mine own") => `(tactic| exact St.of (by with_reducible assumption) (by walk_at "mine mem"))
local macro_rules | `(tactic| walk_at "mine lst") => `(tactic| first
  | exact LstO.isList (St.of (by with_reducible assumption) (by walk_at "mine mem"))
  | exact (ListAt.le (by with_reducible assumption) (St.keep (by with_reducible assumption))).isList
  | exact (ListAt.le (ListAt.le (by with_reducible assumption) (by with_reducible assumption)) (St.keep (by with_reducible assumption))).isList)
local macro_rules | `(tactic| walk_at "mine nat") => `(tactic| first | walk_at "o" | (simp; done) | (simp; walk_at "o"))
local macro_rules | `(tactic| walk_at "binaryOp Mult ref int") => `(tactic| (refine' mul_rep (by with_reducible assumption) (by walk_at "mine own") (by first | assumption | walk_at "o") (by first | assumption | walk_at "o") ?_; walk_at "i3"))
local macro_rules | `(tactic| walk_at "mine fin") => `(tactic| repeat (first | k_unfold | dsimp only))
local macro_rules | `(tactic| walk_at "binaryOp LShift int int") => `(tactic| (with_reducible refine' lshift_int ?k1 ?k2 ?_; (case k1 => first | assumption | walk_at "o"); (case k2 => first | assumption | walk_at "o"); k_whole))
theorem Pull.go {x : Ent} {l l₁ l' : List Ent} (p : Pull x l l₁) (h : l₁.Perm l') : l.Perm (x :: l') := p.perm.trans (h.cons _)
local macro_rules | `(tactic| walk_at "mine pull") => `(tactic| repeat (first | exact Pull.head | apply Pull.tail))
local macro_rules | `(tactic| walk_at "mine perm") => `(tactic| repeat (first | exact List.Perm.refl _ | (refine Pull.go (by walk_at "mine pull") ?_)))
local macro_rules | `(tactic| walk_at "mine back") => `(tactic| repeat (first | exact List.Sublist.refl _ | apply List.Sublist.cons_cons | apply List.Sublist.cons))
theorem sub_lst {prog : Program} {w : World} {A : Around} {E : Value → Shared → Prop} {s : Shared} {value slice : Expr} {l : Addr} {vs : List Value} {k : Int} {t : Tok} {i : Nat} {x : Value} {Q : Value → Shared → Prop} (hl : s.heap.IsList l vs.toArray) (hk : k = (i : Nat)) (hx : vs[i]? = some x) (hsz : i ≤ 1000000) (h : Q x s)
    (hs : subscripted slice false (.ref l) (.int k t) = operate [.ref l, .int k t] (getItem (.ref l) (.int k t))) (hg : ∀ r, letTemporaryGo value (.ref l) r = pure ()) :
    wpAny (model prog w) A (subscriptTail value slice (.ref l) (.int k t)) Q E s :=
  item_list hl (by walk_at "o") (by walk_at "o") (by subst hk; simpa using hx) h hs hg
theorem truthy_lst {prog : Program} {w : World} {A : Around} {E : Value → Shared → Prop} {s : Shared} {l : Addr} {vs : List Value} {Q : Bool → Shared → Prop} (hl : s.heap.IsList l vs.toArray) (hsz : vs.length ≤ 1000000) (h : Q (decide (0 < vs.length)) { s with toks := s.toks + 1 + 1 }) : wpAny (model prog w) A (truthy (.ref l)) Q E s :=
  wpAny_truthy_list hl (by rw [List.size_toArray]; walk_at "o") (by
    have e : (decide (0 < vs.length)) = (!vs.toArray.isEmpty) := by cases vs <;> simp
    rw [← e]
    exact h)
local macro_rules | `(tactic| walk_at "truthy ref") => `(tactic| (refine' truthy_lst (by walk_at "mine lst") (by walk_at "mine nat") ?_; k_whole))
local macro_rules | `(tactic| walk_at "mine at") => `(tactic| first | assumption | exact rfl | (simp; done))
local macro_rules | `(tactic| walk_at "subscriptTail") => `(tactic| (walk_at "ri"; refine' sub_lst (by walk_at "mine lst") (by with_unfolding_all rfl) (by walk_at "mine at") (by walk_at "mine nat") ?_ (by with_unfolding_all rfl) (by intro _; with_unfolding_all rfl); k_whole))
local macro_rules | `(tactic| walk_at "setItem ref int") => `(tactic| (refine' set_lst (by with_reducible assumption) (by walk_at "mine put") (by first | exact rfl | assumption) (by walk_at "mine nat") (by walk_at "mine nat") ?_; walk_at "i2"))
local macro_rules | `(tactic| walk_at "binaryOp FloorDiv int int") => `(tactic| (with_reducible refine' floordiv_sm ?k1 ?k2 ?k3 ?_; (case k1 => first | decide | walk_at "o"); (case k2 => walk_at "o"); (case k3 => walk_at "o"); k_whole))
local macro_rules | `(tactic| walk_at "call builtin:divmod") => `(tactic| (with_reducible refine' divmod_sm (by with_reducible assumption) ?k1 ?k2 ?k3 ?_; (case k1 => first | decide | walk_at "o"); (case k2 => walk_at "o"); (case k3 => walk_at "o"); walk_at "i3"))
local macro_rules | `(tactic| walk_at "call builtin:len") => `(tactic| (refine' len_lst (by walk_at "mine lst") (by walk_at "mine nat") ?_; k_whole))
local macro_rules | `(tactic| walk_at "exec FunctionDef") => `(tactic| first
  | (refine' def_nest (q := (86, 60, 4, Str.ofString "_int2digits.<locals>.inner")) (c := 90) (by with_reducible assumption) (by decide) (by exact code90 (St.inK (by with_reducible assumption))) (by exact rfl) (by exact rfl) (by exact rfl) (by exact rfl) (by exact rfl) (by exact rfl) (by exact rfl) (by exact rfl) (by exact rfl) ?_; k_whole; intro f' g' h' tk' c' dc' pm' ct' hg' htk' hf' hc' H'; (try dsimp only at hf' hc' htk'))
  | (refine' def_nest (q := (93, 75, 4, Str.ofString "_digits2int.<locals>.inner")) (c := 97) (by with_reducible assumption) (by decide) (by exact code97 (St.inK (by with_reducible assumption))) (by exact rfl) (by exact rfl) (by exact rfl) (by exact rfl) (by exact rfl) (by exact rfl) (by exact rfl) (by exact rfl) (by exact rfl) ?_; k_whole; intro f' g' h' tk' c' dc' pm' ct' hg' htk' hf' hc' H'; (try dsimp only at hf' hc' htk')))
theorem FnAt.fro {w : World} {g h : Heap} {γ₀ γ : Array GenState} {L : List Ent} {f : Addr} {name qual : Str} {params : Arguments} {body : List Stmt} {scope : Scope} {clos : List (Str × Addr)} {doc pm : Value} {c' : Addr} {ctv : Value}
    (H : St w g γ₀ h γ L) (hf : g.get? f = some (fnMade name qual params body scope clos doc pm c' ctv)) : FnAt f h := ⟨_, _, _, _, H.keep _ _ hf⟩
local macro_rules | `(tactic| walk_at "And") => `(tactic| (refine And.intro (FnAt.fro (by with_reducible assumption) (by with_reducible assumption)) ?_))
local macro_rules | `(tactic| walk_at "mine tree") => `(tactic| (with_reducible show FnAt _ _ ∧ _))
local macro_rules | `(tactic| walk_at "callWith ref") => `(tactic| first
  | (refine' callWith_F (by exact FnAt.fro (by with_reducible assumption) (by with_reducible assumption)) ?_; k_whole)
  | (refine' callWith_F0 (by exact FnAt.fro (by with_reducible assumption) (by with_reducible assumption)) ?_; k_whole; try dsimp only [List.nil_append, List.cons_append]))


-- M1
theorem and_cast (x y : Nat) : Builtin.bitAnd (x : Int) (y : Int) = ((x &&& y : Nat) : Int) := by
  show Spec.bitAnd x y = _
  unfold Spec.bitAnd
  have h1 : decide (0 ≤ (x : Int)) = true := by simp
  have h2 : decide (0 ≤ (y : Int)) = true := by simp
  rw [h1, h2]
  simp
theorem xor_low (x s : Nat) : Builtin.bitXor (x : Int) (((x / 2 ^ s * 2 ^ s : Nat) : Int)) = ((x % 2 ^ s : Nat) : Int) := by
  have e : x &&& (x / 2 ^ s * 2 ^ s) = x / 2 ^ s * 2 ^ s := by
    apply Nat.eq_of_testBit_eq
    intro i
    rw [Nat.testBit_and, Nat.testBit_mul_two_pow, Nat.testBit_div_two_pow]
    by_cases h : s ≤ i
    · have : i - s + s = i := by walk_at "o"
      simp [h, this]
    · simp [h]
  rw [PyProof.Rows.bitXor_and, and_cast, e]
  have := Nat.div_add_mod x (2 ^ s)
  rw [Nat.mul_comm] at this
  walk_at "o"
theorem mid_eq (lo hi : Nat) : ((lo : Int) + hi).fdiv (2 ^ Int.toNat 1) = (((lo + hi) / 2 : Nat) : Int) := by
  have : (2 : Int) ^ Int.toNat 1 = 2 := by decide
  rw [this, Int.fdiv_eq_ediv_of_nonneg _ (by decide)]
  walk_at "o"
theorem shr_eq (x s : Nat) : ((x : Int)).fdiv (2 ^ s) = ((x / 2 ^ s : Nat) : Int) := by
  have : (0 : Int) ≤ 2 ^ s := Int.pow_nonneg (by decide)
  rw [Int.fdiv_eq_ediv_of_nonneg _ this, Int.natCast_ediv, Int.natCast_pow]; rfl
theorem shl_eq (x s : Nat) : (x : Int) * 2 ^ s = ((x * 2 ^ s : Nat) : Int) := by
  rw [Int.natCast_mul, Int.natCast_pow]; rfl

-- T3

noncomputable def in91 : {x : Arguments × List Stmt × Scope // ∃ pos a b c, F91.1.body = .stmts [a, .FunctionDef "inner" x.1 x.2.1 [] none [] x.2.2 none "inner" pos, b, c]} := ⟨(_, _, _), _, _, _, _, rfl⟩

noncomputable def Digs (n x l r : Nat) (vs vs' : List Value) : Prop := vs'.length = vs.length ∧ (∀ i, i < l ∨ r ≤ i → vs'[i]? = vs[i]?) ∧ ∀ i, l ≤ i → i < r → ∃ t, vs'[i]? = some (.int ((x / 2 ^ (n * (i - l)) % 2 ^ n : Nat) : Int) t)

theorem Digs.one {n x l : Nat} {vs : List Value} {t : Nat} (hl : l < vs.length) (hx : x < 2 ^ n) : Digs n x l (l + 1) vs (vs.set l (.int x t)) := by
  refine ⟨List.length_set, fun i hi => List.getElem?_set_ne (by walk_at "o"), fun i h1 h2 => ⟨t, ?_⟩⟩
  have : i = l := by walk_at "o"
  subst this
  rw [List.getElem?_set_self hl]
  simp [Nat.mod_eq_of_lt hx]
theorem Digs.join {n x l m r s : Nat} {vs vs' vs'' : List Value} (h1 : l ≤ m) (h2 : m ≤ r) (hs : s = n * (m - l)) (a : Digs n (x % 2 ^ s) l m vs vs') (b : Digs n (x / 2 ^ s) m r vs' vs'') : Digs n x l r vs vs'' := by
  subst hs
  obtain ⟨a1, a2, a3⟩ := a
  obtain ⟨b1, b2, b3⟩ := b
  refine ⟨b1.trans a1, fun i hi => (b2 i (by walk_at "o")).trans (a2 i (by walk_at "o")), fun i hl hr => ?_⟩
  by_cases hm : i < m
  · obtain ⟨t, e⟩ := a3 i hl hm
    refine ⟨t, ?_⟩
    rw [b2 i (.inl hm), e]
    have : x % 2 ^ (n * (m - l)) / 2 ^ (n * (i - l)) % 2 ^ n = x / 2 ^ (n * (i - l)) % 2 ^ n := by
      have e1 : n * (m - l) = n * (i - l) + n * (m - i) := by rw [← Nat.mul_add]; congr 1; walk_at "o"
      have e2 : n * (m - i) = n + n * (m - i - 1) := by
        have : m - i = m - i - 1 + 1 := by walk_at "o"
        rw [this, Nat.mul_add]; simp; walk_at "o"
      rw [e1, Nat.pow_add, Nat.mod_mul_right_div_self, e2, Nat.pow_add, Nat.mod_mul_right_mod]
    rw [this]
  · obtain ⟨t, e⟩ := b3 i (by walk_at "o") hr
    refine ⟨t, ?_⟩
    rw [e, Nat.div_div_eq_div_mul, ← Nat.pow_add, ← Nat.mul_add]
    have : m - l + (i - m) = i - l := by walk_at "o"
    rw [this]

section
variable {prog : Program} {w : World} {γ₀ : Array GenState}
theorem inner91 {f l ci ca cn c' : Addr} {n : Nat} {tn : Nat} {dc pm ct : Value} (hn : 0 < n) (hn64 : n < 64) : ∀ (k : Nat) {L : List Ent} {A : Around} {s : Shared} {g : Heap} {Q E : Value → Shared → Prop} {x lo hi : Nat} {tx tl tr : Nat} {vs : List Value},
    Ok A (2 + k) (20 + 3 * k) → lo < hi → hi ≤ vs.length → vs.length ≤ 100000 → hi - lo ≤ 2 ^ k → x < 2 ^ (n * (hi - lo)) → g.get? f = some (fnMade "inner" "_int2digits.<locals>.inner" in91.1.1 in91.1.2.1 in91.1.2.2 [("n", cn), ("inner", ci), ("a_digits", ca)] dc pm c' ct) →
    g.CodeRec (.ref c') "_int2digits.<locals>.inner" → St w g γ₀ s.heap s.gens ((l, LstO vs) :: (ci, CellO (some (.ref f))) :: (ca, CellO (some (.ref l))) :: (cn, CellO (some (.int n tn))) :: L) →
    (∀ g' h' tk' vs', s.toks ≤ tk' → Le g g' → Digs n x lo hi vs vs' → St w g' γ₀ h' s.gens ((l, LstO vs') :: (ci, CellO (some (.ref f))) :: (ca, CellO (some (.ref l))) :: (cn, CellO (some (.int n tn))) :: L) →
      Q .none { s with heap := h', toks := tk' }) →
    wpAny (model prog w) A (call (.ref f) [.int x tx, .int lo tl, .int hi tr]) Q E s := by
  intro k
  induction k using Nat.strongRecOn with
  | _ k ih =>
    intro L A s g Q E x lo hi tx tl tr vs hA hlo hhi hlen hk hx hf hc H hQ
    refine' call_fnX (bs := [("x", .int x tx), ("L", .int lo tl), ("R", .int hi tr)]) H ⟨_, H.keep _ _ hf, rfl⟩ hA.room ?hb ?hcd ?hbind ?hcell ?hloc ?hbs ?h1 ?h2 ?h3 ?_
    case hb => exact rfl
    case hcd => exact hc.keeps H.keep
    case hbind => exact BindsTo.of_eq rfl
    case hcell => show ∀ x ∈ in91.1.2.2.names, x.2 ≠ .cell; decide
    case hloc => exact locs rfl
    case hbs => walk_at "mine subs"
    case h1 => rfl
    case h2 => rfl
    case h3 => rfl
    intro Lf h₁ tk htk H'
    show wpAny _ _ _ _ _ _
    k_fold
    have hlo' : lo < vs.length := by walk_at "o"
    have hlo2 : lo ≤ 1000000 := by walk_at "o"
    walk_at "mine walk"
    · rename_i hq h2 H2
      walk_at "mine fin"
      have : hi = lo + 1 := by walk_at "o"
      subst this
      refine hQ g _ _ _ (by walk_at "o") (.refl _) (Digs.one hlo' (by simpa using hx)) H2.tail
    · have hq : ¬ (lo : Int) + 1 = hi := by assumption
      have em := mid_eq lo hi
      obtain ⟨mid, hmid⟩ : ∃ mid, mid = (lo + hi) / 2 := ⟨_, rfl⟩
      rw [← hmid] at em
      have es : (((mid : Nat) : Int) - lo) * (n : Int) = (((mid - lo) * n : Nat) : Int) := by rw [Int.natCast_mul, Int.natCast_sub (by walk_at "o")]
      have es' : ((((mid - lo) * n : Nat) : Int)).toNat = (mid - lo) * n := Int.toNat_natCast _
      rename St _ _ _ _ _ _ => H9
      rw [em, es] at H9 ⊢
      walk_at "mine walk"
      simp only [es', shr_eq]
      obtain ⟨k', rfl⟩ : ∃ k', k = k' + 1 := ⟨k - 1, by
        have : k ≠ 0 := fun z => by subst z; walk_at "o"
        walk_at "o"⟩
      have hk2 : hi - lo ≤ 2 ^ k' + 2 ^ k' := by rw [Nat.pow_succ] at hk; walk_at "o"
      have hxl : x % 2 ^ ((mid - lo) * n) < 2 ^ (n * (mid - lo)) := by rw [Nat.mul_comm n]; exact Nat.mod_lt _ (Nat.two_pow_pos _)
      have hxu : x / 2 ^ ((mid - lo) * n) < 2 ^ (n * (hi - mid)) := by
        apply Nat.div_lt_of_lt_mul
        rw [← Nat.pow_add]
        have : (mid - lo) * n + n * (hi - mid) = n * (hi - lo) := by rw [Nat.mul_comm _ n, ← Nat.mul_add]; congr 1; walk_at "o"
        rw [this]; exact hx
      have hls : ((Builtin.Int.intBits ((x / 2 ^ ((mid - lo) * n) : Nat) : Int) : Nat) : Int) + (((mid - lo) * n : Nat) : Int) ≤ 2 ^ 27 := by
        have h1 : Builtin.Int.intBits ((x / 2 ^ ((mid - lo) * n) : Nat) : Int) ≤ n * (hi - mid) := PySem.intBits_le_iff.mpr (by rw [Int.natAbs_natCast]; exact hxu)
        have h2 : n * (hi - mid) ≤ 64 * 100000 := Nat.mul_le_mul (by walk_at "o") (by walk_at "o")
        have h3 : (mid - lo) * n ≤ 100000 * 64 := Nat.mul_le_mul (by walk_at "o") (by walk_at "o")
        walk_at "o"
      walk_at "mine walk"
      simp only [es', shl_eq, xor_low]
      have hA' : Ok (A.deeper (callEnv (fnX "inner" "_int2digits.<locals>.inner" in91.1.1 in91.1.2.1 in91.1.2.2 [("n", cn), ("inner", ci), ("a_digits", ca)] .none .none dc pm none (.ref c') ct) Lf f)) (2 + k') (20 + 3 * k') := (hA.le (d' := 2 + k' + 1) (u' := 20 + 3 * k' + 3) (by walk_at "o") (by walk_at "o")).deeper
      rename St _ _ _ _ _ _ => H8
      refine' ih k' (L := (Lf, FrO _) :: L) (by walk_at "o") ?a1 ?a2 ?a3 ?a4 ?a5 ?a6 ?a7 ?a8 ?a9 ?a10
      case a9 => refine H8.perm ?_; walk_at "mine perm"
      case a1 => exact hA'
      case a2 => walk_at "o"
      case a3 => walk_at "o"
      case a4 => exact hlen
      case a5 => walk_at "o"
      case a6 => exact hxl
      case a7 => exact hf
      case a8 => exact hc
      intro g1 h1 tk1 vs1 htk1 hg1 D1 H1
      have H1' := H1.pull (.tail (.tail (.tail (.tail .head))))
      clear H1
      have hf1 := hg1 _ _ hf
      have hc1 := hc.keeps hg1
      dsimp only
      walk_at "mine walk"
      simp only [es', shr_eq]
      have hlen1 := D1.1
      rename St _ _ _ _ _ _ => H7
      refine' ih k' (L := (Lf, FrO _) :: L) (by walk_at "o") ?b1 ?b2 ?b3 ?b4 ?b5 ?b6 ?b7 ?b8 ?b9 ?b10
      case b9 => refine H7.perm ?_; walk_at "mine perm"
      case b1 => exact hA'
      case b2 => walk_at "o"
      case b3 => walk_at "o"
      case b4 => walk_at "o"
      case b5 => walk_at "o"
      case b6 => exact hxu
      case b7 => exact hf1
      case b8 => exact hc1
      intro g2 h2 tk2 vs2 htk2 hg2 D2 H2
      dsimp only
      walk_at "mine walk"
      walk_at "mine fin"
      refine hQ g2 _ _ _ ?_ (hg1.trans hg2) (Digs.join (by walk_at "o") (by walk_at "o") (Nat.mul_comm _ _) D1 D2) (H2.sub ?_)
      · dsimp only at htk1 htk2; walk_at "o"
      · walk_at "mine back"
end

-- T5
section
variable {prog : Program} {w : World} {γ₀ : Array GenState}

noncomputable def bl (a : Nat) : Nat := Builtin.Int.intBits (a : Int)
theorem bl_lt (a : Nat) : a < 2 ^ bl a := by have := (PySem.intBits_le_iff (m := bl a) (x := (a : Int))).mp (Nat.le_refl _); simpa using this
theorem bl_le {a m : Nat} (h : a < 2 ^ m) : bl a ≤ m := PySem.intBits_le_iff.mpr (by simpa using h)
noncomputable def Dgs (n a : Nat) (vs : List Value) : Prop := vs.length = (bl a + n - 1) / n ∧ ∀ i, i < vs.length → ∃ t, vs[i]? = some (.int ((a / 2 ^ (n * i) % 2 ^ n : Nat) : Int) t)

theorem int2digits {L : List Ent} {A : Around} {s : Shared} {g : Heap} {Q E : Value → Shared → Prop} {a n ta tn : Nat} (H : St w g γ₀ s.heap s.gens L) (hA : Ok A 12 60) (hn : 0 < n) (hn64 : n < 64) (ha : a < 2 ^ 200)
    (hQ : ∀ r g' h' tk' vs, s.toks ≤ tk' → Le g g' → Dgs n a vs → St w g' γ₀ h' s.gens ((r, LstO vs) :: L) → Q (.ref r) { s with heap := h', toks := tk' }) :
    wpAny (model prog w) A (call (.ref 91) [.int a ta, .int n tn]) Q E s := by
  refine' call_fnC (bs := [("a", .int a ta), ("n", .int n tn)]) (bl := [("a", .int a ta)]) F91 H hA.room ?hb ?hbind ?hkind ?hnd ?hbl ?hclo ?h1 ?h2 ?h3 ?_
  case hb => exact rfl
  case hbind => exact rfl
  case hkind => exact rfl
  case hnd => decide
  case hbl => walk_at "mine subs"
  case hclo => rfl
  case h1 => rfl
  case h2 => rfl
  case h3 => rfl
  intro Lf h₁ tk htk H'
  have H'' : St w g γ₀ h₁ s.gens ((Lf, FrO ([("a", .int a ta)] : Bs)) :: (Lf + 3, CellO none) :: (Lf + 2, CellO none) :: (Lf + 1, CellO (some (.int n tn))) :: L) := H'
  clear H'
  show wpAny _ _ _ _ _ _
  k_fold
  have hbl : bl a ≤ 200 := bl_le ha
  obtain ⟨m, hm⟩ : ∃ m, m = (bl a + n - 1) / n := ⟨_, rfl⟩
  have hm200 : m ≤ 263 := by rw [hm]; exact Nat.le_trans (Nat.div_le_self _ _) (by walk_at "o")
  have hfd : (((Builtin.Int.intBits (a : Int) : Nat) : Int) + n - 1).fdiv n = (m : Int) := by
    rw [Int.fdiv_eq_ediv_of_nonneg _ (by walk_at "o"), hm]
    show (((bl a : Nat) : Int) + n - 1) / n = _
    rw [Int.natCast_ediv]
    congr 1
    walk_at "o"
  have hx0 : (0 : Int) ≤ (((Builtin.Int.intBits (a : Int) : Nat) : Int) + n - 1).fdiv n := by rw [hfd]; walk_at "o"
  have hx1 : (((Builtin.Int.intBits (a : Int) : Nat) : Int) + n - 1).fdiv n ≤ 100000 := by rw [hfd]; walk_at "o"
  walk_at "mine walk"
  · rename (_ : Int) ≠ 0 => hne
    rename Le g _ => hg1
    rename Heap.get? _ _ = some _ => hf1
    rename Heap.CodeRec _ _ _ => hc1
    rename St _ _ _ _ _ _ => H9
    rename tk + 1 + 1 + 1 + 1 + 1 + 1 ≤ _ => htk1
    rw [hfd, Int.toNat_natCast] at H9 ⊢
    rw [List.length_replicate]
    have ha0 : a ≠ 0 := by walk_at "o"
    have hbl0 : 0 < bl a := by
      have := bl_lt a
      rcases Nat.eq_zero_or_pos (bl a) with z | z
      · rw [z] at this; walk_at "o"
      · exact z
    have hm0 : 0 < m := by rw [hm]; exact Nat.div_pos (by walk_at "o") hn
    have hnm : bl a ≤ n * m := by
      rw [hm]
      have := Nat.div_add_mod (bl a + n - 1) n
      have := Nat.mod_lt (bl a + n - 1) hn
      walk_at "o"
    refine' inner91 hn hn64 9 (x := a) (lo := 0) (hi := m) (L := (Lf, FrO _) :: _) ?a1 ?a2 ?a3 ?a4 ?a5 ?a6 ?a7 ?a8 ?a9 ?a10
    case a9 => refine H9.perm ?_; walk_at "mine perm"
    case a1 => exact (hA.le (d' := 11 + 1) (u' := 57 + 3) (by decide) (by decide)).deeper.le (by decide) (by decide)
    case a2 => exact hm0
    case a3 => rw [List.length_replicate]; walk_at "o"
    case a4 => rw [List.length_replicate]; walk_at "o"
    case a5 => walk_at "o"
    case a6 => exact Nat.lt_of_lt_of_le (bl_lt a) (Nat.pow_le_pow_right (by decide) (by walk_at "o"))
    case a7 => exact hf1
    case a8 => exact hc1
    intro g2 h2 tk2 vs2 htk2 hg2 D2 H2
    have H2' := H2.pull (.tail (.tail (.tail (.tail .head))))
    clear H2
    dsimp only
    walk_at "mine walk"
    walk_at "mine fin"
    refine hQ _ g2 _ _ vs2 ?_ (hg1.trans hg2) ⟨?_, ?_⟩ (St.sub (by assumption) ?_)
    · dsimp only at htk2; walk_at "o"
    · rw [D2.1, List.length_replicate, hm]
    · intro i hi
      rw [D2.1, List.length_replicate] at hi
      obtain ⟨t, e⟩ := D2.2.2 i (by walk_at "o") hi
      exact ⟨t, by rw [e, Nat.sub_zero]⟩
    · walk_at "mine back"
  · rename (_ : Int) = 0 => hne
    rename Le g _ => hg1
    rename tk + 1 + 1 + 1 + 1 + 1 + 1 ≤ _ => htk1
    rename St _ _ _ _ _ _ => H9
    rw [hfd, Int.toNat_natCast] at H9
    walk_at "mine fin"
    have ha0 : a = 0 := by walk_at "o"
    have hbl0 : bl a = 0 := by subst ha0; rfl
    have hm0 : m = 0 := by rw [hm, hbl0]; exact Nat.div_eq_of_lt (by walk_at "o")
    rw [hm0] at H9
    refine hQ _ _ _ _ [] (by walk_at "o") hg1 ⟨?_, fun i hi => absurd hi (Nat.not_lt_zero _)⟩ (St.sub H9 ?_)
    · rw [← hm, hm0]; rfl
    · walk_at "mine back"
end

-- T6

noncomputable def Nats (vs : List Value) (f : Nat → Nat) : Prop := ∀ i, i < vs.length → ∃ t, vs[i]? = some (.int ((f i : Nat) : Int) t)
noncomputable def dsum (n : Nat) (f : Nat → Nat) : Nat → Nat → Nat
  | _, 0 => 0
  | lo, k + 1 => f lo + 2 ^ n * dsum n f (lo + 1) k
theorem dsum_join (n : Nat) (f : Nat → Nat) : ∀ (a lo b : Nat), dsum n f lo (a + b) = dsum n f lo a + 2 ^ (n * a) * dsum n f (lo + a) b := by
  intro a
  induction a with
  | zero => intro lo b; simp [dsum]
  | succ a ih =>
    intro lo b
    have e : a + 1 + b = (a + b) + 1 := by walk_at "o"
    rw [e]
    show f lo + 2 ^ n * dsum n f (lo + 1) (a + b) = f lo + 2 ^ n * dsum n f (lo + 1) a + 2 ^ (n * (a + 1)) * dsum n f (lo + (a + 1)) b
    have e2 : 1 + a = a + 1 := by walk_at "o"
    rw [ih, Nat.mul_add, Nat.mul_add, Nat.mul_one, Nat.pow_add, Nat.mul_comm (2 ^ (n * a)) (2 ^ n), Nat.mul_assoc, Nat.add_assoc, e2]
    exact (Nat.add_assoc _ _ _).symm
theorem dsum_lt {n : Nat} {f : Nat → Nat} (hf : ∀ i, f i < 2 ^ n) : ∀ (k lo : Nat), dsum n f lo k < 2 ^ (n * k) := by
  intro k
  induction k with
  | zero => intro lo; simp [dsum]
  | succ k ih =>
    intro lo
    have h1 := ih (lo + 1)
    have h2 := hf lo
    show f lo + 2 ^ n * dsum n f (lo + 1) k < 2 ^ (n * (k + 1))
    have h3 : 2 ^ n * (dsum n f (lo + 1) k + 1) ≤ 2 ^ n * 2 ^ (n * k) := Nat.mul_le_mul_left _ h1
    rw [Nat.mul_add, Nat.mul_one, ← Nat.pow_add] at h3
    rw [Nat.mul_add, Nat.mul_one, Nat.add_comm (n * k) n]
    walk_at "o"

noncomputable def in98 : {x : Arguments × List Stmt × Scope // ∃ pos a b, F98.1.body = .stmts (.FunctionDef "inner" x.1 x.2.1 [] none [] x.2.2 none "inner" pos :: a :: b)} := ⟨(_, _, _), _, _, _, rfl⟩

section
variable {prog : Program} {w : World} {γ₀ : Array GenState}
theorem inner98 {f l ci ca cn c' : Addr} {n : Nat} {tn : Nat} {dc pm ct : Value} {F : Nat → Nat} {vs : List Value} (hn : 0 < n) (hn64 : n < 64) (hF : ∀ i, F i < 2 ^ n) (hN : Nats vs F) (hlen : vs.length ≤ 1000) : ∀ (k : Nat) {L : List Ent} {A : Around} {s : Shared} {g : Heap} {Q E : Value → Shared → Prop} {lo hi : Nat} {tl tr : Nat},
    Ok A (2 + k) (20 + 3 * k) → lo < hi → hi ≤ vs.length → hi - lo ≤ 2 ^ k → g.get? f = some (fnMade "inner" "_digits2int.<locals>.inner" in98.1.1 in98.1.2.1 in98.1.2.2 [("n", cn), ("inner", ci), ("digits", ca)] dc pm c' ct) →
    g.CodeRec (.ref c') "_digits2int.<locals>.inner" → ListAt g l vs → St w g γ₀ s.heap s.gens ((ci, CellO (some (.ref f))) :: (cn, CellO (some (.int n tn))) :: (ca, CellO (some (.ref l))) :: L) →
    (∀ t g' h' tk', s.toks ≤ tk' → Le g g' → St w g' γ₀ h' s.gens ((ci, CellO (some (.ref f))) :: (cn, CellO (some (.int n tn))) :: (ca, CellO (some (.ref l))) :: L) →
      Q (.int (dsum n F lo (hi - lo) : Nat) t) { s with heap := h', toks := tk' }) →
    wpAny (model prog w) A (call (.ref f) [.int lo tl, .int hi tr]) Q E s := by
  intro k
  induction k using Nat.strongRecOn with
  | _ k ih =>
    intro L A s g Q E lo hi tl tr hA hlo hhi hk hf hc hl H hQ
    refine' call_fnX (bs := [("L", .int lo tl), ("R", .int hi tr)]) H ⟨_, H.keep _ _ hf, rfl⟩ hA.room ?hb ?hcd ?hbind ?hcell ?hloc ?hbs ?h1 ?h2 ?h3 ?_
    case hb => exact rfl
    case hcd => exact hc.keeps H.keep
    case hbind => exact BindsTo.of_eq rfl
    case hcell => show ∀ x ∈ in98.1.2.2.names, x.2 ≠ .cell; decide
    case hloc => exact locs rfl
    case hbs => walk_at "mine subs"
    case h1 => rfl
    case h2 => rfl
    case h3 => rfl
    intro Lf h₁ tk htk H'
    show wpAny _ _ _ _ _ _
    k_fold
    obtain ⟨td, hd⟩ := hN lo (by walk_at "o")
    walk_at "mine walk"
    · walk_at "mine fin"
      have : hi = lo + 1 := by walk_at "o"
      subst this
      have e : dsum n F lo (lo + 1 - lo) = F lo := by rw [Nat.add_sub_cancel_left]; simp [dsum]
      rw [← e]
      exact hQ _ g _ _ (by walk_at "o") (.refl _) H'.tail
    · have hq : ¬ (lo : Int) + 1 = hi := by assumption
      have em := mid_eq lo hi
      obtain ⟨mid, hmid⟩ : ∃ mid, mid = (lo + hi) / 2 := ⟨_, rfl⟩
      rw [← hmid] at em
      have es : (((mid : Nat) : Int) - lo) * (n : Int) = (((mid - lo) * n : Nat) : Int) := by rw [Int.natCast_mul, Int.natCast_sub (by walk_at "o")]
      have es' : ((((mid - lo) * n : Nat) : Int)).toNat = (mid - lo) * n := Int.toNat_natCast _
      rename St _ _ _ _ _ _ => H9
      rw [em, es] at H9
      rw [em]
      obtain ⟨k', rfl⟩ : ∃ k', k = k' + 1 := ⟨k - 1, by
        have : k ≠ 0 := fun z => by subst z; walk_at "o"
        walk_at "o"⟩
      have hk2 : hi - lo ≤ 2 ^ k' + 2 ^ k' := by rw [Nat.pow_succ] at hk; walk_at "o"
      have hls : ((Builtin.Int.intBits ((dsum n F mid (hi - mid) : Nat) : Int) : Nat) : Int) + (((mid - lo) * n : Nat) : Int) ≤ 2 ^ 27 := by
        have h1 : Builtin.Int.intBits ((dsum n F mid (hi - mid) : Nat) : Int) ≤ n * (hi - mid) := PySem.intBits_le_iff.mpr (by rw [Int.natAbs_natCast]; exact dsum_lt hF _ _)
        have h2 : n * (hi - mid) ≤ 64 * 1000 := Nat.mul_le_mul (by walk_at "o") (by walk_at "o")
        have h3 : (mid - lo) * n ≤ 1000 * 64 := Nat.mul_le_mul (by walk_at "o") (by walk_at "o")
        walk_at "o"
      have hA' : Ok (A.deeper (callEnv (fnX "inner" "_digits2int.<locals>.inner" in98.1.1 in98.1.2.1 in98.1.2.2 [("n", cn), ("inner", ci), ("digits", ca)] .none .none dc pm none (.ref c') ct) Lf f)) (2 + k') (20 + 3 * k') := (hA.le (d' := 2 + k' + 1) (u' := 20 + 3 * k' + 3) (by walk_at "o") (by walk_at "o")).deeper
      refine' ih k' (L := (Lf, FrO _) :: L) (by walk_at "o") ?a1 ?a2 ?a3 ?a4 ?a5 ?a6 ?a7 ?a8 ?a9
      case a8 => refine H9.perm ?_; walk_at "mine perm"
      case a1 => exact hA'
      case a2 => walk_at "o"
      case a3 => walk_at "o"
      case a4 => walk_at "o"
      case a5 => exact hf
      case a6 => exact hc
      case a7 => exact hl
      intro t1 g1 h1 tk1 htk1 hg1 H1
      have H1' := H1.pull (.tail (.tail (.tail .head)))
      clear H1
      have hf1 := hg1 _ _ hf
      have hc1 := hc.keeps hg1
      have hl1 := hl.le hg1
      dsimp only
      walk_at "mine walk"
      rename St _ _ _ _ _ _ => H7
      refine' ih k' (L := (Lf, FrO _) :: L) (by walk_at "o") ?b1 ?b2 ?b3 ?b4 ?b5 ?b6 ?b7 ?b8 ?b9
      case b8 => refine H7.perm ?_; walk_at "mine perm"
      case b1 => exact hA'
      case b2 => walk_at "o"
      case b3 => walk_at "o"
      case b4 => walk_at "o"
      case b5 => exact hf1
      case b6 => exact hc1
      case b7 => exact hl1
      intro t2 g2 h2 tk2 htk2 hg2 H2
      dsimp only
      walk_at "mine walk"
      walk_at "mine fin"
      have e : ((dsum n F mid (hi - mid) : Nat) : Int) * 2 ^ ((((mid - lo) * n : Nat) : Int)).toNat + ((dsum n F lo (mid - lo) : Nat) : Int) = ((dsum n F lo (hi - lo) : Nat) : Int) := by
        have ej := dsum_join n F (mid - lo) lo (hi - mid)
        have e1 : mid - lo + (hi - mid) = hi - lo := by walk_at "o"
        have e2 : lo + (mid - lo) = mid := by walk_at "o"
        rw [e1, e2] at ej
        rw [ej, es', shl_eq, ← Int.natCast_add, Nat.mul_comm (mid - lo) n, Nat.mul_comm _ (2 ^ _), Nat.add_comm]
      rw [e]
      refine hQ _ g2 _ _ ?_ (hg1.trans hg2) (H2.sub ?_)
      · dsimp only at htk1 htk2; walk_at "o"
      · walk_at "mine back"

theorem digits2int {L : List Ent} {A : Around} {s : Shared} {g : Heap} {Q E : Value → Shared → Prop} {l : Addr} {n tn : Nat} {F : Nat → Nat} {vs : List Value} (H : St w g γ₀ s.heap s.gens L) (hA : Ok A 14 80) (hn : 0 < n) (hn64 : n < 64) (hF : ∀ i, F i < 2 ^ n) (hN : Nats vs F) (hlen : vs.length ≤ 1000)
    (hl : ListAt g l vs) (hQ : ∀ t g' h' tk', s.toks ≤ tk' → Le g g' → St w g' γ₀ h' s.gens L → Q (.int (dsum n F 0 vs.length : Nat) t) { s with heap := h', toks := tk' }) :
    wpAny (model prog w) A (call (.ref 98) [.ref l, .int n tn]) Q E s := by
  refine' call_fnC (bs := [("digits", .ref l), ("n", .int n tn)]) (bl := []) F98 H hA.room ?hb ?hbind ?hkind ?hnd ?hbl ?hclo ?h1 ?h2 ?h3 ?_
  case hb => exact rfl
  case hbind => exact rfl
  case hkind => exact rfl
  case hnd => decide
  case hbl => walk_at "mine subs"
  case hclo => rfl
  case h1 => rfl
  case h2 => rfl
  case h3 => rfl
  intro Lf h₁ tk htk H'
  have H'' : St w g γ₀ h₁ s.gens ((Lf, FrO ([] : Bs)) :: (Lf + 3, CellO none) :: (Lf + 2, CellO (some (.int n tn))) :: (Lf + 1, CellO (some (.ref l))) :: L) := H'
  clear H'
  show wpAny _ _ _ _ _ _
  k_fold
  walk_at "mine walk"
  · rename 0 < vs.length => hl0
    rename Le g _ => hg1
    rename Heap.get? _ _ = some _ => hf1
    rename Heap.CodeRec _ _ _ => hc1
    rename St _ _ _ _ _ _ => H9
    rename tk ≤ _ => htk1

    refine' inner98 (n := n) hn hn64 hF hN hlen 10 (lo := 0) (hi := vs.length) (L := (Lf, FrO _) :: _) ?a1 ?a2 ?a3 ?a4 ?a5 ?a6 ?a7 ?a8 ?a9
    case a8 => refine H9.perm ?_; walk_at "mine perm"
    case a1 => exact (hA.le (d' := 13 + 1) (u' := 77 + 3) (by decide) (by decide)).deeper.le (by decide) (by decide)
    case a2 => exact hl0
    case a3 => walk_at "o"
    case a4 => walk_at "o"
    case a5 => exact hf1
    case a6 => exact hc1
    case a7 => exact hl.le hg1
    intro t2 g2 h2 tk2 htk2 hg2 H2
    walk_at "mine fin"
    refine hQ _ g2 _ _ ?_ (hg1.trans hg2) (H2.sub ?_)
    · dsimp only at htk2; walk_at "o"
    · walk_at "mine back"
  · rename ¬ (0 < vs.length) => hne
    rename Le g _ => hg1
    rename tk ≤ _ => htk1
    rename St _ _ _ _ _ _ => H9
    walk_at "mine fin"
    have hl0 : vs.length = 0 := by simpa using hne
    have e : dsum n F 0 vs.length = 0 := by rw [hl0]; rfl
    rw [e] at hQ
    refine hQ _ _ _ _ (by walk_at "o") hg1 (H9.sub ?_)
    walk_at "mine back"
end

-- B7
section
variable {prog : Program} {w : World} {A : Around} {E : Value → Shared → Prop} {s : Shared} {g : Heap} {γ₀ : Array GenState} {L L' : List Ent} {env : Env} {F₀ : Ent}
theorem St.growNew {g h h' : Heap} {γ₀ γ : Array GenState} (H : St w g γ₀ h γ L) (hx : Heap.ExtBut h.objs.size h h') : St w g γ₀ h' γ L :=
  H.grow fun b o e => hx b o (Nat.ne_of_lt (Heap.lt_size e)) e
theorem unpack_tup {t : Addr} {vs : List Value} {n : Nat} {Q : List Value → Shared → Prop} (H : St w g γ₀ s.heap s.gens L) (hh : A.handled = none) (ht : IsTup s.heap t vs.toArray) (hn : n = vs.length)
    (h : ∀ h', St w g γ₀ h' s.gens L → Q vs { s with heap := h' }) : wpAny (model prog w) A (unpackItems (.ref t) n none) Q E s := by
  subst hn
  exact unpackItems_tuple (items := vs.toArray) hh ht fun h' hx => h h' (H.growNew hx)
theorem assign_tup {t : Addr} {vs : List Value} {elts : List PySem.Expr} {k : Nat} {pos : Pos} {Q : Unit → Shared → Prop} (H : St w g γ₀ s.heap s.gens L) (hh : A.handled = none) (ht : IsTup s.heap t vs.toArray) (hn : (assignEach elts env).length = vs.length) (hstar : (assignEach elts env).findIdx? (·.1) = none)
    (h : ∀ h', St w g γ₀ h' s.gens L → wpAny (model prog w) A (assignInOrder ((assignEach elts env).map (·.2)) vs) Q E { s with heap := h' }) : wpAny (model prog w) A (assign (.Tuple elts k pos) env (.ref t)) Q E s :=
  assign_Tuple_tuple (items := vs.toArray) hh ht (by rw [List.size_toArray]; exact hn) hstar fun h' hx => h h' (H.growNew hx)
theorem reversed_lst {l : Addr} {vs : List Value} {Q : Value → Shared → Prop} (H : St w g γ₀ s.heap s.gens (F₀ :: L)) (hl : s.heap.IsList l vs.toArray)
    (h : ∀ a h', St w g γ₀ h' s.gens (F₀ :: (a, RvO l vs.length 0) :: L) → Q (.ref a) { s with heap := h' }) : wpAny (model prog w) A (call (.type "reversed") [.ref l]) Q E s :=
  call_reversed_list hl (h _ _ ((H.push _ rfl ⟨rfl, by simp [revObj]⟩).perm (.swap _ _ _)))
theorem append_lst {a : Addr} {vs : List Value} {x : Value} {Q : Value → Shared → Prop} (H : St w g γ₀ s.heap s.gens L) (p : Put a (LstO vs) (LstO (vs ++ [x])) L L') (hsz : vs.length ≤ 1000000)
    (k : ∀ h', St w g γ₀ h' s.gens L' → Q .none { s with heap := h' }) : wpAny (model prog w) A (call (.builtin "list.append") [.ref a, x]) Q E s := by
  obtain ⟨r, p1, p2⟩ := p.perm
  exact list_append (H.perm p1) (by unfold sizeLine; walk_at "o") fun h' H' => k h' (H'.perm p2)
theorem reverse_lst {a : Addr} {vs : List Value} {Q : Value → Shared → Prop} (H : St w g γ₀ s.heap s.gens L) (p : Put a (LstO vs) (LstO vs.reverse) L L') (hsz : vs.length ≤ 1000000)
    (k : ∀ h', St w g γ₀ h' s.gens L' → Q .none { s with heap := h' }) : wpAny (model prog w) A (call (.builtin "list.reverse") [.ref a]) Q E s := by
  obtain ⟨o, e, n, rfl⟩ := H.of p.mem
  refine call_meets F.slot_list_reverse ⟨_, e, rfl⟩ F.entry_list_reverse (F.args_list_reverse_1 _) (AutoListH.list_reverse_list_0 a vs.toArray n (by rw [List.size_toArray]; unfold sizeLine; walk_at "o")) ⟨e, ?_⟩
  exact k _ (H.putSame p (Heap.SameBut.update ..) ⟨_, Heap.get?_update_self _ e rfl, n, by simp [Obj.mapSeq]⟩)
theorem lst_method {D : Addr} {name : Str} {id : String} {pl : Sem Bool} {Q : Value × List Value → Shared → Prop} (H : St w g γ₀ s.heap s.gens L) (ho : ∃ vs, (D, LstO vs) ∈ L) (slot : Slot "list" name id) (hty : typeOf (.builtin id) = pure (.type "method_descriptor"))
    (h : Q (.builtin id, [.ref D]) s) : wpAny (model prog w) A (getMethod (.ref D) name pl) Q E s := by
  obtain ⟨vs, hm⟩ := ho
  obtain ⟨o, e, n, rfl⟩ := H.of hm
  exact getMethod_builtin ⟨_, e, rfl⟩ PySem.F.plainAttrs_list slot hty (fun a e' => by cases e'; exact ⟨_, e, rfl⟩) h
end
local macro_rules | `(tactic| walk_at "getMethod ref") => `(tactic| ((with_reducible show wpAny _ _ (getMethod (Value.ref _) (PySem.Str.ofString "append") _) _ _ _); (refine' lst_method (by with_reducible assumption) (by exact ⟨_, by walk_at "mine mem"⟩) PySem.F.slot_list_append PySem.F.type_list_append ?_; k_whole)))
local macro_rules | `(tactic| walk_at "getMethod ref") => `(tactic| ((with_reducible show wpAny _ _ (getMethod (Value.ref _) (PySem.Str.ofString "reverse") _) _ _ _); (refine' lst_method (by with_reducible assumption) (by exact ⟨_, by walk_at "mine mem"⟩) PySem.F.slot_list_reverse PySem.F.type_list_reverse ?_; k_whole)))
local macro_rules | `(tactic| walk_at "mine hh") => `(tactic| first | assumption | (rename Ok _ _ _ => hok'; exact hok'.h))
local macro_rules | `(tactic| walk_at "mine tup") => `(tactic| first
  | exact TupO.isTup (St.of (by with_reducible assumption) (by walk_at "mine mem"))
  | exact TupO.isTup (TupAt.le (by with_reducible assumption) (St.keep (by with_reducible assumption))))
local macro_rules | `(tactic| walk_at "unpackItems ref") => `(tactic| (refine' unpack_tup (by with_reducible assumption) (by walk_at "mine hh") (by walk_at "mine tup") (by with_unfolding_all rfl) ?_; walk_at "i2"))
local macro_rules | `(tactic| walk_at "assign Tuple") => `(tactic| (refine' assign_tup (by with_reducible assumption) (by walk_at "mine hh") (by walk_at "mine tup") (by with_unfolding_all rfl) (by with_unfolding_all rfl) ?_; walk_at "i2"))
local macro_rules | `(tactic| walk_at "call type:reversed") => `(tactic| (refine' reversed_lst (by with_reducible assumption) (by walk_at "mine lst") ?_; walk_at "i3"))
local macro_rules | `(tactic| walk_at "call builtin:list.append") => `(tactic| (refine' append_lst (by with_reducible assumption) (by walk_at "mine put") (by walk_at "mine nat") ?_; walk_at "i2"))
local macro_rules | `(tactic| walk_at "call builtin:list.reverse") => `(tactic| (refine' reverse_lst (by with_reducible assumption) (by walk_at "mine put") (by walk_at "mine nat") ?_; walk_at "i2"))

noncomputable def RangeO (a b c : Int) : OP := fun o => ∃ t u v, o = { cls := .type "range", dict := none, data := .fields #[.int a t, .int b u, .int c v], slots := #[] }
section
variable {prog : Program} {w : World} {A : Around} {E : Value → Shared → Prop} {s : Shared} {g : Heap} {γ₀ : Array GenState} {L L' : List Ent} {env : Env} {F₀ : Ent}
theorem range1 {n : Int} {t : Tok} {Q : Value → Shared → Prop} (H : St w g γ₀ s.heap s.gens (F₀ :: L)) (h : ∀ a h', St w g γ₀ h' s.gens (F₀ :: (a, RangeO 0 n 1) :: L) → Q (.ref a) { s with heap := h', toks := s.toks + 1 + 1 }) :
    wpAny (model prog w) A (call (.type "range") [.int n t]) Q E s := call_range_1 (h _ _ ((H.push _ rfl ⟨_, _, _, rfl⟩).perm (.swap _ _ _)))
theorem range2 {n m : Int} {t u : Tok} {Q : Value → Shared → Prop} (H : St w g γ₀ s.heap s.gens (F₀ :: L)) (h : ∀ a h', St w g γ₀ h' s.gens (F₀ :: (a, RangeO n m 1) :: L) → Q (.ref a) { s with heap := h', toks := s.toks + 1 }) :
    wpAny (model prog w) A (call (.type "range") [.int n t, .int m u]) Q E s := call_range_2 (h _ _ ((H.push _ rfl ⟨_, _, _, rfl⟩).perm (.swap _ _ _)))
theorem range3 {n m : Int} {t u v : Tok} {Q : Value → Shared → Prop} (H : St w g γ₀ s.heap s.gens (F₀ :: L)) (h : ∀ a h', St w g γ₀ h' s.gens (F₀ :: (a, RangeO n m (-1)) :: L) → Q (.ref a) { s with heap := h' }) :
    wpAny (model prog w) A (call (.type "range") [.int n t, .int m u, .int (-1) v]) Q E s := call_range_3 (by decide) (h _ _ ((H.push _ rfl ⟨_, _, _, rfl⟩).perm (.swap _ _ _))) (Or.inl (PyProof.noPylong_of_log2 (by decide +kernel)))
theorem iter_up {r : Addr} {a b : Int} {Q : Value → Shared → Prop} (H : St w g γ₀ s.heap s.gens (F₀ :: L)) (hm : (r, RangeO a b 1) ∈ F₀ :: L) (ha : -1000000 ≤ a) (ha' : a ≤ 1000000) (hb : -1000000 ≤ b) (hb' : b ≤ 1000000)
    (h : ∀ it h', St w g γ₀ h' s.gens (F₀ :: (it, RgO a (b - a).toNat 1 0) :: L) → Q (.ref it) { s with heap := h' }) : wpAny (model prog w) A (pyIter (.ref r)) Q E s := by
  obtain ⟨o, e, t, u, v, rfl⟩ := H.of hm
  have hz : Builtin.Range.rangeSize a b 1 = (b - a).toNat := by rw [rangeSize_one]; split <;> walk_at "o"
  refine wpAny_pyIter_range e ?_ (h _ _ ((H.push _ rfl ?_).perm (.swap _ _ _)))
  · have hf : ∀ x : Int, -3000000 ≤ x → x ≤ 3000000 → Builtin.Range.rangeFitsLong x = true := fun x h1 h2 => by simp [Builtin.Range.rangeFitsLong]; walk_at "o"
    unfold Builtin.Range.small
    rw [hz, hf a (by walk_at "o") (by walk_at "o"), hf b (by walk_at "o") (by walk_at "o"), hf 1 (by walk_at "o") (by walk_at "o"), hf _ (by walk_at "o") (by walk_at "o")]
    simp only [Bool.and_self, Bool.true_and, if_pos (show (1 : Int) > 0 by decide)]
    rw [hf _ (by walk_at "o") (by walk_at "o"), Bool.or_true]
  · rw [hz]; simp [RgO]
theorem iter_down {r : Addr} {a b : Int} {Q : Value → Shared → Prop} (H : St w g γ₀ s.heap s.gens (F₀ :: L)) (hm : (r, RangeO a b (-1)) ∈ F₀ :: L) (ha : -1000000 ≤ a) (ha' : a ≤ 1000000) (hb : -1000000 ≤ b) (hb' : b ≤ 1000000)
    (h : ∀ it h', St w g γ₀ h' s.gens (F₀ :: (it, RgO a (a - b).toNat (-1) 0) :: L) → Q (.ref it) { s with heap := h' }) : wpAny (model prog w) A (pyIter (.ref r)) Q E s := by
  obtain ⟨o, e, t, u, v, rfl⟩ := H.of hm
  have hz : Builtin.Range.rangeSize a b (-1) = (a - b).toNat := by unfold Builtin.Range.rangeSize; simp; split <;> walk_at "o"
  refine wpAny_pyIter_range e ?_ (h _ _ ((H.push _ rfl ?_).perm (.swap _ _ _)))
  · have hf : ∀ x : Int, -3000000 ≤ x → x ≤ 3000000 → Builtin.Range.rangeFitsLong x = true := fun x h1 h2 => by simp [Builtin.Range.rangeFitsLong]; walk_at "o"
    unfold Builtin.Range.small
    rw [hz, hf a (by walk_at "o") (by walk_at "o"), hf b (by walk_at "o") (by walk_at "o"), hf (-1) (by walk_at "o") (by walk_at "o"), hf _ (by walk_at "o") (by walk_at "o")]
    simp only [Bool.and_self, Bool.true_and, if_neg (show ¬ (-1 : Int) > 0 by decide)]
    rw [hf _ (by walk_at "o") (by walk_at "o"), Bool.or_true]
  · rw [hz]; simp [RgO]
theorem iter_lst {l : Addr} {vs : List Value} {Q : Value → Shared → Prop} (H : St w g γ₀ s.heap s.gens (F₀ :: L)) (hl : s.heap.IsList l vs.toArray)
    (h : ∀ it h', St w g γ₀ h' s.gens (F₀ :: (it, LiO l 0) :: L) → Q (.ref it) { s with heap := h' }) : wpAny (model prog w) A (pyIter (.ref l)) Q E s := by
  exact wpAny_pyIter_list hl (h _ _ ((H.push _ rfl ⟨rfl, rfl⟩).perm (.swap _ _ _)))
end
local macro_rules | `(tactic| walk_at "call type:range") => `(tactic| first
  | (refine' range1 (by with_reducible assumption) ?_; walk_at "i3")
  | (refine' range2 (by with_reducible assumption) ?_; walk_at "i3")
  | (refine' range3 (by with_reducible assumption) ?_; walk_at "i3"))
local macro_rules | `(tactic| walk_at "pyIter ref") => `(tactic| first
  | (refine' iter_lst (by with_reducible assumption) (by walk_at "mine lst") ?_; walk_at "ii")
  | (refine' iter_up (by with_reducible assumption) (by walk_at "mine mem") (by walk_at "o") (by walk_at "o") (by walk_at "o") (by walk_at "o") ?_; walk_at "ii")
  | (refine' iter_down (by with_reducible assumption) (by walk_at "mine mem") (by walk_at "o") (by walk_at "o") (by walk_at "o") (by walk_at "o") ?_; walk_at "ii"))

-- T7
theorem mul_ok {a b : Int} (ha : a.natAbs < 2 ^ 300) (hb : b.natAbs < 2 ^ 300) : IntMulOk a b :=
  .of_bits (Nat.le_trans (PySem.intBits_le_iff.mpr ha) (by decide)) (Nat.le_trans (PySem.intBits_le_iff.mpr hb) (by decide))
section
variable {prog : Program} {w : World} {A : Around} {E : Value → Shared → Prop} {s : Shared} {g : Heap} {γ₀ : Array GenState} {L : List Ent}
theorem iadd_s {a b : Int} {ta tb : Nat} {Q : Value → Shared → Prop} (H : St w g γ₀ s.heap s.gens L) (hA : Ok A 2 10)
    (hQ : ∀ (t : Nat) h' tk', s.toks ≤ tk' → St w g γ₀ h' s.gens L → Q (.int (a + b) t) { s with heap := h', toks := tk' }) : wpAny (model prog w) A (call (.ref 35) [.int a ta, .int b tb]) Q E s := by
  refine' call_fn (bs := [("a", .int a ta), ("b", .int b tb)]) F35 H hA.room ?hb ?hbind ?hcell ?hloc ?hbs ?h1 ?h2 ?h3 ?_
  walk_at "mine enter"
  intro Lf h₁ tk htk H'
  k_fold
  walk_at "mine walk"
  walk_at "mine fin"
  exact hQ _ _ _ (by walk_at "o") (St.tail (by assumption))
theorem imod_s {a b : Int} {ta tb : Nat} {Q : Value → Shared → Prop} (H : St w g γ₀ s.heap s.gens L) (hA : Ok A 2 10) (hb : b ≠ 0)
    (hQ : ∀ (t : Nat) h' tk', s.toks ≤ tk' → St w g γ₀ h' s.gens L → Q (.int (a.fmod b) t) { s with heap := h', toks := tk' }) : wpAny (model prog w) A (call (.ref 42) [.int a ta, .int b tb]) Q E s := by
  refine' call_fn (bs := [("a", .int a ta), ("b", .int b tb)]) F42 H hA.room ?hb ?hbind ?hcell ?hloc ?hbs ?h1 ?h2 ?h3 ?_
  walk_at "mine enter"
  intro Lf h₁ tk htk H'
  k_fold
  walk_at "mine walk"
  walk_at "mine fin"
  exact hQ _ _ _ (by walk_at "o") (St.tail (by assumption))
theorem imul_s {a b : Int} {ta tb : Nat} {Q : Value → Shared → Prop} (H : St w g γ₀ s.heap s.gens L) (hA : Ok A 2 10) (hm : IntMulOk a b)
    (hQ : ∀ (t : Nat) h' tk', s.toks ≤ tk' → St w g γ₀ h' s.gens L → Q (.int (a * b) t) { s with heap := h', toks := tk' }) : wpAny (model prog w) A (call (.ref 49) [.int a ta, .int b tb]) Q E s := by
  refine' call_fn (bs := [("a", .int a ta), ("b", .int b tb)]) F49 H hA.room ?hb ?hbind ?hcell ?hloc ?hbs ?h1 ?h2 ?h3 ?_
  walk_at "mine enter"
  intro Lf h₁ tk htk H'
  k_fold
  walk_at "mine walk"
  walk_at "mine fin"
  exact hQ _ _ _ (by walk_at "o") (St.tail (by assumption))
theorem ipow_s {b : Int} {ta tb : Nat} {Q : Value → Shared → Prop} (H : St w g γ₀ s.heap s.gens L) (hA : Ok A 2 10) (h0 : 0 ≤ b) (h1 : b ≤ 1000)
    (hQ : ∀ (t : Nat) h' tk', s.toks ≤ tk' → St w g γ₀ h' s.gens L → Q (.int (2 ^ b.toNat) t) { s with heap := h', toks := tk' }) : wpAny (model prog w) A (call (.ref 56) [.int 2 ta, .int b tb]) Q E s := by
  refine' call_fn (bs := [("a", .int 2 ta), ("b", .int b tb)]) F56 H hA.room ?hb ?hbind ?hcell ?hloc ?hbs ?h1 ?h2 ?h3 ?_
  walk_at "mine enter"
  intro Lf h₁ tk htk H'
  k_fold
  walk_at "mine walk"
  walk_at "mine fin"
  exact hQ _ _ _ (by walk_at "o") (St.tail (by assumption))
theorem irshift_s {a b : Int} {ta tb : Nat} {Q : Value → Shared → Prop} (H : St w g γ₀ s.heap s.gens L) (hA : Ok A 2 10) (h0 : 0 ≤ b)
    (hQ : ∀ (t : Nat) h' tk', s.toks ≤ tk' → St w g γ₀ h' s.gens L → Q (.int (a.fdiv (2 ^ b.toNat)) t) { s with heap := h', toks := tk' }) : wpAny (model prog w) A (call (.ref 63) [.int a ta, .int b tb]) Q E s := by
  refine' call_fn (bs := [("a", .int a ta), ("b", .int b tb)]) F63 H hA.room ?hb ?hbind ?hcell ?hloc ?hbs ?h1 ?h2 ?h3 ?_
  walk_at "mine enter"
  intro Lf h₁ tk htk H'
  k_fold
  walk_at "mine walk"
  walk_at "mine fin"
  exact hQ _ _ _ (by walk_at "o") (St.tail (by assumption))
theorem isub_s {a b : Int} {ta tb : Nat} {Q : Value → Shared → Prop} (H : St w g γ₀ s.heap s.gens L) (hA : Ok A 2 10)
    (hQ : ∀ (t : Nat) h' tk', s.toks ≤ tk' → St w g γ₀ h' s.gens L → Q (.int (a - b) t) { s with heap := h', toks := tk' }) : wpAny (model prog w) A (call (.ref 70) [.int a ta, .int b tb]) Q E s := by
  refine' call_fn (bs := [("a", .int a ta), ("b", .int b tb)]) F70 H hA.room ?hb ?hbind ?hcell ?hloc ?hbs ?h1 ?h2 ?h3 ?_
  walk_at "mine enter"
  intro Lf h₁ tk htk H'
  k_fold
  walk_at "mine walk"
  walk_at "mine fin"
  exact hQ _ _ _ (by walk_at "o") (St.tail (by assumption))
theorem ite_f {c : Bool} {p q : Prop} (h : c = false) (hq : q) : @ite Prop (c = true) (instDecidableEqBool c true) p q := by subst h; exact hq
theorem ite_t {c : Bool} {p q : Prop} (h : c = true) (hp : p) : @ite Prop (c = true) (instDecidableEqBool c true) p q := by subst h; exact hp
section
local macro_rules | `(tactic| walk_at "ite") => `(tactic| refine ite_t (by with_reducible assumption) ?_)
/-- _div2n1n: the divmod branch -/
theorem div2_s {a b n : Int} {ta tb tn : Nat} {Q : Value → Shared → Prop} (H : St w g γ₀ s.heap s.gens L) (hA : Ok A 2 10) (hb0 : 0 < b) (hb1 : b < 2 ^ 128) (ha : (Builtin.Int.intBits a : Int) - n ≤ 4000)
    (hQ : ∀ r (t u : Nat) h' tk', s.toks ≤ tk' → St w g γ₀ h' s.gens ((r, TupO [.int (a.fdiv b) t, .int (a.fmod b) u]) :: L) → Q (.ref r) { s with heap := h', toks := tk' }) : wpAny (model prog w) A (call (.ref 77) [.int a ta, .int b tb, .int n tn]) Q E s := by
  refine' call_fn (bs := [("a", .int a ta), ("b", .int b tb), ("n", .int n tn)]) F77 H hA.room ?hb ?hbind ?hcell ?hloc ?hbs ?h1 ?h2 ?h3 ?_
  walk_at "mine enter"
  intro Lf h₁ tk htk H'
  k_fold
  have ha' := decide_eq_true ha
  walk_at "mine walk"
  walk_at "mine fin"
  exact hQ _ _ _ _ _ (by walk_at "o") (St.tail (by assumption))
end
end

-- T8
theorem fdiv_nat (x b : Nat) : (x : Int).fdiv b = ((x / b : Nat) : Int) := by rw [Int.fdiv_eq_ediv_of_nonneg _ (by walk_at "o")]; exact (Int.natCast_ediv _ _).symm
theorem fmod_nat (x b : Nat) : (x : Int).fmod b = ((x % b : Nat) : Int) := by rw [Int.fmod_eq_emod_of_nonneg _ (by walk_at "o")]; exact (Int.natCast_emod _ _).symm
theorem dsum_dig (n x : Nat) : ∀ (k lo : Nat), dsum n (fun j => x / 2 ^ (n * j) % 2 ^ n) lo k = x / 2 ^ (n * lo) % 2 ^ (n * k) := by
  intro k
  induction k with
  | zero => intro lo; simp [dsum, Nat.mod_one]
  | succ k ih =>
    intro lo
    show x / 2 ^ (n * lo) % 2 ^ n + 2 ^ n * dsum n (fun j => x / 2 ^ (n * j) % 2 ^ n) (lo + 1) k = _
    rw [ih, Nat.mul_add, Nat.mul_one, Nat.pow_add, ← Nat.div_div_eq_div_mul, ← Nat.mod_mul, ← Nat.pow_add, Nat.mul_add, Nat.mul_one, Nat.add_comm n]
/-- one digit more -/
theorem step_div {A b n d : Nat} (hb : 0 < b) (hbn : b < 2 ^ n) (hd : d < 2 ^ n) : (A % b * 2 ^ n + d) / b = ((A * 2 ^ n + d) / b) % 2 ^ n ∧ (A % b * 2 ^ n + d) % b = (A * 2 ^ n + d) % b := by
  have e : A * 2 ^ n + d = (A % b * 2 ^ n + d) + b * (A / b * 2 ^ n) := by
    have := Nat.mod_add_div A b
    calc A * 2 ^ n + d = (A % b + b * (A / b)) * 2 ^ n + d := by rw [this]
      _ = _ := by rw [Nat.add_mul, Nat.mul_assoc]; walk_at "o"
  have hr : A % b < b := Nat.mod_lt _ hb
  have hlt : (A % b * 2 ^ n + d) / b < 2 ^ n := by
    apply Nat.div_lt_of_lt_mul
    have h1 : (A % b + 1) * 2 ^ n ≤ b * 2 ^ n := Nat.mul_le_mul_right _ hr
    rw [Nat.add_mul, Nat.one_mul] at h1
    walk_at "o"
  constructor
  · rw [e, Nat.add_mul_div_left _ _ hb, Nat.add_mul_mod_self_right, Nat.mod_eq_of_lt hlt]
  · rw [e, Nat.add_mul_mod_self_left]
section
variable {prog : Program} {w : World} {A : Around} {E : Value → Shared → Prop} {s : Shared} {g : Heap} {γ₀ : Array GenState} {L : List Ent}
theorem divpos_s {a b : Nat} {ta tb : Nat} {Q : Value → Shared → Prop} (H : St w g γ₀ s.heap s.gens L) (hs : 0 < s.toks) (hA : Ok A 18 90) (ha : a < 2 ^ 200) (hb0 : 0 < b) (hb1 : b < 2 ^ 62)
    (hQ : ∀ r (t u : Nat) g' h' γ' tk', s.toks ≤ tk' → Le g g' → St w g' γ₀ h' γ' ((r, TupO [.int (a / b : Nat) t, .int (a % b : Nat) u]) :: L) → Q (.ref r) { s with heap := h', gens := γ', toks := tk' }) : wpAny (model prog w) A (call (.ref 105) [.int a ta, .int b tb]) Q E s := by
  refine' call_fn (bs := [("a", .int a ta), ("b", .int b tb)]) F105 H hA.room ?hb ?hbind ?hcell ?hloc ?hbs ?h1 ?h2 ?h3 ?_
  walk_at "mine enter"
  intro Lf h₁ tk htk H'
  k_fold
  walk_at "mine walk"
  have hn0 : 0 < bl b := by
    rcases Nat.eq_zero_or_pos (bl b) with z | z
    · have := bl_lt b; rw [z] at this; walk_at "o"
    · exact z
  have hn1 : bl b ≤ 62 := bl_le hb1
  obtain ⟨n, hn⟩ : ∃ n, n = bl b := ⟨_, rfl⟩
  rename St _ _ _ _ _ _ => H9
  change St w g γ₀ _ _ ((Lf, FrO ([("n", .int (bl b : Nat) tk), ("a", .int a ta), ("b", .int b tb)] : Bs)) :: L) at H9
  have hn' : Builtin.Int.intBits (b : Int) = n := hn.symm
  rw [← hn] at H9
  rw [hn']
  have hbn : b < 2 ^ n := by rw [hn]; exact bl_lt b
  refine int2digits H9 ((hA.le (d' := 17 + 1) (u' := 87 + 3) (by decide) (by decide)).deeper.le (by decide) (by decide)) (by walk_at "o") (by walk_at "o") ha ?_
  intro l1 g1 h1 tk1 ds htk1 hg1 D1 H1
  dsimp only at htk1
  have H1' := H1.pull (.tail .head)
  clear H1
  obtain ⟨g2, hg2, hl2, H2⟩ := (H1'.perm (.swap _ _ _)).freeze
  have hl2 : ListAt g2 l1 ds := hl2
  clear H1' H9 H'
  have hlen : ds.length ≤ 300 := by
    rw [D1.1]
    have := bl_le ha
    exact Nat.le_trans (Nat.div_le_self _ _) (by walk_at "o")
  walk_at "mine walk"
  refine wpAny_For ?_
  walk_at "mine walk"
  rename St _ _ _ _ _ _ => H3
  obtain ⟨m, hm⟩ : ∃ m, m = ds.length := ⟨_, rfl⟩
  rename_i dq _ _ _ _ it _
  have hbm : bl a ≤ n * m := by
    rw [hm, D1.1]
    have := Nat.div_add_mod (bl a + n - 1) n
    have := Nat.mod_lt (bl a + n - 1) (show 0 < n by walk_at "o")
    walk_at "o"
  have e0 : ((a / 2 ^ (n * (m - 0)) % b : Nat) : Int) = 0 := by
    rw [Nat.sub_zero, Nat.div_eq_of_lt (Nat.lt_of_lt_of_le (bl_lt a) (Nat.pow_le_pow_right (by decide) hbm))]; simp
  refine (iter_rev (prog := prog) (it := it) hl2).self 0 _ _ _ _ _ _ _ (H3.perm (.swap _ _ _)) ?_
  refine for_loop (bs := [("q_digits", .ref dq), ("r", .int ((a / 2 ^ (n * (m - 0)) % b : Nat) : Int) (tk1 + 1)), ("a_digits", .ref l1), ("n", .int n tk), ("a", .int a ta), ("b", .int b tb)]) (L := (dq, LstO []) :: L) (iter_rev (it := it) hl2) (hA.deeper.le (by decide) (by decide)) (by first | walk_at "o" | (dsimp only; walk_at "o"))
    (fun i _ (bs' : Bs) L' => ∃ qs t, L' = (dq, LstO qs) :: L ∧ bs' = ([("q_digits", .ref dq), ("r", .int ((a / 2 ^ (n * (m - i)) % b : Nat) : Int) t), ("a_digits", .ref l1), ("n", .int n tk), ("a", .int a ta), ("b", .int b tb)] : Bs) ∧ qs.length = i ∧
      ∀ j, j < i → ∃ u, qs[j]? = some (.int ((a / b / 2 ^ (n * (m - 1 - j)) % 2 ^ n : Nat) : Int) u)) (by rw [e0]; exact H3) ⟨[], _, rfl, rfl, rfl, fun j hj => absurd hj (Nat.not_lt_zero _)⟩ ?_ ?_
  · rintro i g' h' γ' t tk' bs' L' v hi hg ht1 ht2 ⟨qs, tr, rfl, rfl, hql, hq⟩ hv H4
    dsimp only at ht1
    rw [← hm] at hi hv
    obtain ⟨td, hd⟩ := D1.2 (m - 1 - i) (by walk_at "o")
    rw [hd] at hv
    obtain rfl := Option.some.inj hv
    obtain ⟨d, hdd⟩ : ∃ d, d = a / 2 ^ (n * (m - 1 - i)) % 2 ^ n := ⟨_, rfl⟩
    obtain ⟨r, hr⟩ : ∃ r, r = a / 2 ^ (n * (m - i)) % b := ⟨_, rfl⟩
    rw [← hr] at H4
    rw [← hdd]
    have hrb : r < b := by rw [hr]; exact Nat.mod_lt _ hb0
    have hdn : d < 2 ^ n := by rw [hdd]; exact Nat.mod_lt _ (Nat.two_pow_pos _)
    have hls : ((Builtin.Int.intBits (r : Int) : Nat) : Int) + (n : Int) ≤ 2 ^ 27 := by
      have : Builtin.Int.intBits (r : Int) ≤ 62 := PySem.intBits_le_iff.mpr (by rw [Int.natAbs_natCast]; walk_at "o")
      walk_at "o"
    refine wpAny_assign_Name ?_
    walk_at "mine walk"
    have hX : (r : Int) * 2 ^ ((n : Nat) : Int).toNat + (d : Int) = ((r * 2 ^ n + d : Nat) : Int) := by rw [Int.toNat_natCast, shl_eq, ← Int.natCast_add]
    rw [hX]
    rename St _ _ _ _ _ _ => H5
    have hXlt : r * 2 ^ n + d < 2 ^ 130 := by
      have h1 : (r + 1) * 2 ^ n ≤ 2 ^ 62 * 2 ^ 62 := Nat.mul_le_mul (by walk_at "o") (Nat.pow_le_pow_right (by decide) (by walk_at "o"))
      rw [Nat.add_mul, Nat.one_mul] at h1
      have h2 : (2 : Nat) ^ 62 * 2 ^ 62 < 2 ^ 130 := by decide
      walk_at "o"
    refine div2_s H5 ((hA.le (d' := 2 + 1) (u' := 10 + 3) (by decide) (by decide)).deeper) (by walk_at "o") (by walk_at "o") ?_ ?_
    · have : Builtin.Int.intBits (((r * 2 ^ n + d : Nat)) : Int) ≤ 130 := PySem.intBits_le_iff.mpr (by rw [Int.natAbs_natCast]; exact hXlt)
      walk_at "o"
    intro rt t1 u1 h1 tk1' htk1' H6
    dsimp only at htk1'
    rw [fdiv_nat, fmod_nat] at H6
    have H6' := H6.pull (.tail .head)
    clear H6
    have hh : A.handled = none := hA.h
    walk_at "mine walk"
    dsimp only
    rename St _ _ _ _ _ _ => H7
    have eA : a / 2 ^ (n * (m - (i + 1))) = a / 2 ^ (n * (m - i)) * 2 ^ n + d := by
      have e1 : n * (m - i) = n * (m - (i + 1)) + n := by
        have : m - i = m - (i + 1) + 1 := by walk_at "o"
        rw [this, Nat.mul_add, Nat.mul_one]
      have e2 : m - 1 - i = m - (i + 1) := by walk_at "o"
      rw [hdd, e1, Nat.pow_add, ← Nat.div_div_eq_div_mul, e2]
      have := Nat.div_add_mod (a / 2 ^ (n * (m - (i + 1)))) (2 ^ n)
      rw [Nat.mul_comm] at this
      exact this.symm
    obtain ⟨eq, er⟩ := step_div (A := a / 2 ^ (n * (m - i))) hb0 hbn hdn
    rw [← hr, ← eA] at eq er
    rw [eq, er] at H7
    refine ⟨g', _, _, _, ([("q_digits", .ref dq), ("r", .int ((a / 2 ^ (n * (m - (i + 1))) % b : Nat) : Int) u1), ("a_digits", .ref l1), ("n", .int n tk), ("a", .int a ta), ("b", .int b tb)] : Bs), _, rfl, .refl _, by walk_at "o", ⟨_, _, rfl, rfl, ?_, ?_⟩, (H7.pull (.tail .head)).tail.weak fun o => FrO.sub (by walk_at "mine subs")⟩
    · rw [List.length_append]; simp [hql]
    · intro j hj
      by_cases hji : j < i
      · obtain ⟨u, e⟩ := hq j hji
        exact ⟨u, by rw [List.getElem?_append_left (by walk_at "o")]; exact e⟩
      · have : j = i := by walk_at "o"
        subst this
        refine ⟨t1, ?_⟩
        rw [List.getElem?_append_right (by walk_at "o"), hql, Nat.sub_self]
        have e2 : m - 1 - j = m - (j + 1) := by walk_at "o"
        rw [e2, Nat.div_div_eq_div_mul, Nat.mul_comm _ b, ← Nat.div_div_eq_div_mul]
        rfl
  · rintro g' h' γ' tk' bs' L' hg ht1 ⟨qs, tr, rfl, rfl, hql, hq⟩ H4
    dsimp only at ht1
    rw [← hm] at hql hq H4
    have hqlen : qs.length ≤ 1000 := by walk_at "o"
    walk_at "mine walk"
    rename St _ _ _ _ _ _ => H5
    obtain ⟨g5, hg5, hl5, H6⟩ := (H5.perm (.swap _ _ _)).freeze
    have hl5 : ListAt g5 dq qs.reverse := hl5
    have hqd : ∀ j, j < m → ∃ u, qs.reverse[j]? = some (.int ((a / b / 2 ^ (n * j) % 2 ^ n : Nat) : Int) u) := fun j hj => by
      obtain ⟨u, e⟩ := hq (m - 1 - j) (by walk_at "o")
      refine ⟨u, ?_⟩
      rw [List.getElem?_reverse (by walk_at "o"), hql, e]
      have : m - 1 - (m - 1 - j) = j := by walk_at "o"
      rw [this]
    refine digits2int H6 ((hA.le (d' := 17 + 1) (u' := 87 + 3) (by decide) (by decide)).deeper.le (by decide) (by decide)) (by walk_at "o") (by walk_at "o") (F := fun j => a / b / 2 ^ (n * j) % 2 ^ n) (fun j => Nat.mod_lt _ (Nat.two_pow_pos _)) (fun j hj => hqd j (by rw [List.length_reverse] at hj; walk_at "o")) (by rw [List.length_reverse]; walk_at "o") hl5 ?_
    intro t6 g6 h6 tk6 htk6 hg6 H7
    dsimp only at htk6
    walk_at "mine walk"
    walk_at "mine fin"
    rename St _ _ _ _ _ _ => H8
    have e1 : dsum n (fun j => a / b / 2 ^ (n * j) % 2 ^ n) 0 qs.reverse.length = a / b := by
      rw [dsum_dig, List.length_reverse, hql]
      have : a / b < 2 ^ (n * m) := Nat.lt_of_le_of_lt (Nat.div_le_self _ _) (Nat.lt_of_lt_of_le (bl_lt a) (Nat.pow_le_pow_right (by decide) hbm))
      simp [Nat.mod_eq_of_lt this]
    have e2 : a / 2 ^ (n * (m - m)) % b = a % b := by simp
    rw [e1, e2] at H8
    refine hQ _ _ _ g6 _ _ _ ?_ (((hg1.trans hg2).trans hg).trans (hg5.trans hg6)) H8.tail
    walk_at "o"

theorem intdivmod_nn {a b : Nat} {ta tb : Nat} {Q : Value → Shared → Prop} (H : St w g γ₀ s.heap s.gens L) (hs : 0 < s.toks) (hA : Ok A 19 93) (ha : a < 2 ^ 200) (hb0 : 0 < b) (hb1 : b < 2 ^ 62)
    (hQ : ∀ r (t u : Nat) g' h' γ' tk', s.toks ≤ tk' → Le g g' → St w g' γ₀ h' γ' ((r, TupO [.int (a / b : Nat) t, .int (a % b : Nat) u]) :: L) → Q (.ref r) { s with heap := h', gens := γ', toks := tk' }) : wpAny (model prog w) A (call (.ref 112) [.int a ta, .int b tb]) Q E s := by
  refine' call_fn (bs := [("a", .int a ta), ("b", .int b tb)]) F112 H hA.room ?hb ?hbind ?hcell ?hloc ?hbs ?h1 ?h2 ?h3 ?_
  walk_at "mine enter"
  intro Lf h₁ tk htk H'
  k_fold
  walk_at "mine walk"
  · walk_at "o"
  · walk_at "o"
  · walk_at "o"
  · refine divpos_s H' (by dsimp only; walk_at "o") hA.deeper ha hb0 hb1 ?_
    intro r t u g1 h1 γ1 tk1 htk1 hg1 H1
    walk_at "mine fin"
    exact hQ _ _ _ g1 _ _ _ (by dsimp only at htk1; walk_at "o") hg1 (H1.pull (.tail .head)).tail
theorem not_div (a b : Int) (hb : 0 < b) : Builtin.bitNot ((Builtin.bitNot a).fdiv b) = a.fdiv b ∧ b + Builtin.bitNot ((Builtin.bitNot a).fmod b) = a.fmod b := by
  have e : ∀ x, Builtin.bitNot x = -x - 1 := fun x => by first | rfl | (show Spec.bitNot x = _; unfold Spec.bitNot; walk_at "o")
  rw [e, e, e]
  rw [Int.fdiv_eq_ediv_of_nonneg _ (by walk_at "o"), Int.fdiv_eq_ediv_of_nonneg _ (by walk_at "o"), Int.fmod_eq_emod_of_nonneg _ (by walk_at "o"), Int.fmod_eq_emod_of_nonneg _ (by walk_at "o")]
  have h1 := Int.emod_add_mul_ediv a b
  have h2 := Int.emod_nonneg a (show b ≠ 0 by walk_at "o")
  have h3 := Int.emod_lt_of_pos a hb
  have key : (-a - 1) = (b - 1 - a % b) + b * (-(a / b) - 1) := by
    have : b * (-(a / b) - 1) = -(b * (a / b)) - b := by rw [Int.mul_sub, Int.mul_neg, Int.mul_one]
    rw [this]; walk_at "o"
  have hd : (-a - 1) / b = -(a / b) - 1 := by
    rw [key, Int.add_mul_ediv_left _ _ (by walk_at "o"), Int.ediv_eq_zero_of_lt (by walk_at "o") (by walk_at "o")]; walk_at "o"
  have hm : (-a - 1) % b = b - 1 - a % b := by
    rw [key, Int.add_mul_emod_self_left, Int.emod_eq_of_lt (by walk_at "o") (by walk_at "o")]
  rw [hd, hm]
  walk_at "o"
theorem intdivmod_s {a b : Int} {ta tb : Nat} {Q : Value → Shared → Prop} (H : St w g γ₀ s.heap s.gens L) (hs : 0 < s.toks) (hA : Ok A 20 100) (ha0 : -(2 ^ 199 : Int) < a) (ha : a < 2 ^ 199) (hb0 : 0 < b) (hb1 : b < 2 ^ 62)
    (hQ : ∀ r (t u : Nat) g' h' γ' tk', s.toks ≤ tk' → Le g g' → St w g' γ₀ h' γ' ((r, TupO [.int (a.fdiv b) t, .int (a.fmod b) u]) :: L) → Q (.ref r) { s with heap := h', gens := γ', toks := tk' }) : wpAny (model prog w) A (call (.ref 112) [.int a ta, .int b tb]) Q E s := by
  refine' call_fn (bs := [("a", .int a ta), ("b", .int b tb)]) F112 H hA.room ?hb ?hbind ?hcell ?hloc ?hbs ?h1 ?h2 ?h3 ?_
  walk_at "mine enter"
  intro Lf h₁ tk htk H'
  k_fold
  walk_at "mine walk"
  · walk_at "o"
  · walk_at "o"
  · rename a < 0 => hneg
    have e : Builtin.bitNot a = -a - 1 := by first | rfl | (show Spec.bitNot a = _; unfold Spec.bitNot; walk_at "o")
    obtain ⟨b', rfl⟩ := Int.eq_ofNat_of_zero_le (show 0 ≤ b by walk_at "o")
    obtain ⟨a', ha'⟩ := Int.eq_ofNat_of_zero_le (show 0 ≤ Builtin.bitNot a by walk_at "o")
    rw [ha']
    refine intdivmod_nn H' (by dsimp only; walk_at "o") ((hA.le (d' := 19 + 1) (u' := 93 + 3) (by decide) (by decide)).deeper) (by walk_at "o") (by walk_at "o") (by walk_at "o") ?_
    intro r t u g1 h1 γ1 tk1 htk1 hg1 H1
    dsimp only at htk1
    have H1' := H1.pull (.tail .head)
    clear H1
    have hh : A.handled = none := hA.h
    walk_at "mine walk"
    walk_at "mine fin"
    rename St _ _ _ _ _ _ => H8
    have H8' := H8.tail
    have ed := not_div a b' hb0
    rw [ha', fdiv_nat, fmod_nat] at ed
    rw [ed.1, ed.2] at H8'
    exact hQ _ _ _ g1 _ _ _ (by walk_at "o") hg1 ((H8'.pull (.tail .head)).tail)
  · obtain ⟨b', rfl⟩ := Int.eq_ofNat_of_zero_le (show 0 ≤ b by walk_at "o")
    obtain ⟨a', rfl⟩ := Int.eq_ofNat_of_zero_le (show 0 ≤ a by walk_at "o")
    refine divpos_s H' (by dsimp only; walk_at "o") ((hA.le (d' := 18 + 1) (u' := 90 + 3) (by decide) (by decide)).deeper) (by walk_at "o") (by walk_at "o") (by walk_at "o") ?_
    intro r t u g1 h1 γ1 tk1 htk1 hg1 H1
    walk_at "mine fin"
    rw [← fdiv_nat, ← fmod_nat] at H1
    exact hQ _ _ _ g1 _ _ _ (by dsimp only at htk1; walk_at "o") hg1 (H1.pull (.tail .head)).tail
end

-- T9
section
variable {prog : Program} {w : World} {A : Around} {E : Value → Shared → Prop} {s : Shared} {g : Heap} {γ₀ : Array GenState} {L : List Ent}
theorem isub_spec {a b : Int} {ta tb : Nat} {Q : Value → Shared → Prop} (H : St w g γ₀ s.heap s.gens L) (hA : Ok A 2 10)
    (hQ : ∀ (t : Nat) h' tk', s.toks ≤ tk' → St w g γ₀ h' s.gens L → Q (.int (a - b) t) { s with heap := h', toks := tk' }) : wpAny (model prog w) A (call (.ref 70) [.int a ta, .int b tb]) Q E s := by
  refine' call_fn (bs := [("a", .int a ta), ("b", .int b tb)]) F70 H hA.room ?hb ?hbind ?hcell ?hloc ?hbs ?h1 ?h2 ?h3 ?_
  walk_at "mine enter"
  intro Lf h₁ tk htk H'
  k_fold
  walk_at "mine walk"
  dsimp only; k_unfold; dsimp only
  exact hQ _ _ _ (by walk_at "o") (St.tail (by assumption))

noncomputable def cntX (x : Str) : Nat := x.cps.toList.count 120
theorem countOf_spec {x : Str} {ta tb : Nat} {Q : Value → Shared → Prop} (H : St w g γ₀ s.heap s.gens L) (hA : Ok A 2 20) (hx : x.cps.all (· < 128) = true) (hb0 : 0 < tb) (hb1 : tb < s.toks)
    (hQ : ∀ (t : Nat) g' h' γ' tk', s.toks ≤ tk' → Le g g' → St w g' γ₀ h' γ' L → Q (.int (cntX x) t) { s with heap := h', gens := γ', toks := tk' }) : wpAny (model prog w) A (call (.ref 28) [.str x ta, .str "x" tb]) Q E s := by
  refine' call_fn (bs := [("a", .str x ta), ("b", .str "x" tb)]) F28 H hA.room ?hb ?hbind ?hcell ?hloc ?hbs ?h1 ?h2 ?h3 ?_
  walk_at "mine enter"
  intro Lf h₁ tk htk H'
  k_fold
  walk_at "mine walk"
  refine wpAny_For ?_
  walk_at "mine walk"
  rename_i h2 _ it h3 H3
  refine for_loop (bs := [("count", .int 0 tk), ("b", .str "x" tb)]) (L := L) (iter_str _ it x ta) (hA.deeper.le (by decide) (by decide)) (by dsimp only; walk_at "o")
    (fun i _ (bs' : Bs) L' => L' = L ∧ ∃ t, bs' = ([("count", .int (((x.cps.toList.take i).count 120 : Nat) : Int) t), ("b", .str "x" tb)] : Bs)) ((H3.perm (.swap _ _ _)).weak fun o => FrO.sub (by walk_at "mine subs")) ⟨rfl, _, rfl⟩ ?_ ?_
  · rintro i g' h' γ' t tk' bs' L' v hi hg ht1 ht2 ⟨rfl, tc, rfl⟩ ⟨c, hxc, rfl⟩ H4
    dsimp only at ht1
    refine wpAny_assign_Name ?_
    have hlen : i < x.cps.toList.length := by simpa using hi
    have hci : x.cps.toList[i] = c := by simpa [hi] using hxc
    have e1 : ((x.cps.toList.take (i + 1)).count 120 : Int) = ((x.cps.toList.take i).count 120 : Nat) + (if c = 120 then 1 else 0) := by
      rw [List.take_succ_eq_append_getElem hlen, List.count_append, hci, List.count_singleton]
      split <;> rename_i q <;> simp at q <;> simp [q]
    have e2 : Str.ofString "x" = Str.mk #[120] := by decide +kernel
    walk_at "mine walk"
    all_goals dsimp only
    · rename_i b hb hbt h5 H5
      have hc : c = 120 := by have := hb hbt; rw [e2] at this; simpa using this
      rw [if_pos hc] at e1
      exact ⟨_, _, _, _, [("count", .int _ _), ("b", .str "x" tb)], _, rfl, .refl _, by walk_at "o", ⟨rfl, _, by rw [e1]⟩, H5.weak fun o => FrO.sub (by walk_at "mine subs")⟩
    · rename_i b hb hbt hq h5 H5
      have hc : c = 120 := by rw [e2] at hq; simpa using hq
      rw [if_pos hc] at e1
      exact ⟨_, _, _, _, [("count", .int _ _), ("b", .str "x" tb)], _, rfl, .refl _, by walk_at "o", ⟨rfl, _, by rw [e1]⟩, H5.weak fun o => FrO.sub (by walk_at "mine subs")⟩
    · rename_i b hb hbt hq
      have hc : c ≠ 120 := by rw [e2] at hq; simpa using hq
      rw [if_neg hc, Int.add_zero] at e1
      exact ⟨_, _, _, _, [("count", .int _ _), ("b", .str "x" tb)], _, rfl, .refl _, by walk_at "o", ⟨rfl, _, by rw [e1]⟩, St.weak (by assumption) fun o => FrO.sub (by walk_at "mine subs")⟩
  · rintro g' h' γ' tk' bs' L' hg htk' ⟨rfl, tc, rfl⟩ H4
    dsimp only at htk'
    walk_at "mine walk"
    dsimp only; k_unfold; dsimp only
    have e : x.cps.toList.take x.cps.size = x.cps.toList := List.take_of_length_le (by simp)
    rw [e]
    exact hQ _ _ _ _ _ (by walk_at "o") hg H4.tail
end

-- T10
/-- division by hand: what is left, the figure -/
noncomputable def handL (odd : Int) (l : Int) : Nat → Int
  | 0 => l
  | k + 1 => 2 * handL odd l k - (if odd < 2 * handL odd l k then 1 else 0) * odd
noncomputable def handF (odd l : Int) (k : Nat) : Int := if odd < 2 * handL odd l k then 1 else 0
noncomputable def IntsF (vs : List Value) (f : Nat → Int) : Prop := ∀ i, i < vs.length → ∃ t, vs[i]? = some (.int (f i) t)
theorem IntsF.snoc {vs : List Value} {f : Nat → Int} {x : Int} {t : Tok} (h : IntsF vs f) (hx : x = f vs.length) : IntsF (vs ++ [.int x t]) f := fun i hi => by
  rw [List.length_append] at hi
  by_cases hl : i < vs.length
  · obtain ⟨u, e⟩ := h i hl
    exact ⟨u, by rw [List.getElem?_append_left hl]; exact e⟩
  · have : i = vs.length := by simp at hi; walk_at "o"
    subst this
    exact ⟨t, by rw [List.getElem?_append_right (Nat.le_refl _), Nat.sub_self, hx]; rfl⟩
theorem handL_range {odd l : Int} (h0 : 0 ≤ l) (h1 : l ≤ odd) : ∀ k, 0 ≤ handL odd l k ∧ handL odd l k ≤ odd := by
  intro k
  induction k with
  | zero => exact ⟨h0, h1⟩
  | succ k ih =>
    show 0 ≤ 2 * handL odd l k - (if odd < 2 * handL odd l k then 1 else 0) * odd ∧ 2 * handL odd l k - (if odd < 2 * handL odd l k then 1 else 0) * odd ≤ odd
    split <;> walk_at "o"
section
variable {prog : Program} {w : World} {A : Around} {E : Value → Shared → Prop} {s : Shared} {g : Heap} {γ₀ : Array GenState} {L : List Ent}
theorem byhand_s {odd l : Int} {k : Nat} {ta tb tc : Nat} {Q : Value → Shared → Prop} (H : St w g γ₀ s.heap s.gens L) (hs : 0 < s.toks) (hA : Ok A 3 20) (h0 : 0 ≤ l) (h1 : l ≤ odd) (h2 : odd ≤ 1000) (hk : k ≤ 1000)
    (hQ : ∀ r g' h' γ' tk' vs, s.toks ≤ tk' → Le g g' → vs.length = k → IntsF vs (handF odd l) → St w g' γ₀ h' γ' ((r, LstO vs) :: L) → Q (.ref r) { s with heap := h', gens := γ', toks := tk' }) : wpAny (model prog w) A (call (.ref 302) [.int odd ta, .int l tb, .int k tc]) Q E s := by
  refine' call_fn (bs := [("odd", .int odd ta), ("above", .int l tb), ("steps", .int k tc)]) F302 H hA.room ?hb ?hbind ?hcell ?hloc ?hbs ?h1 ?h2 ?h3 ?_
  walk_at "mine enter"
  intro Lf h₁ tk htk H'
  k_fold
  walk_at "mine walk"
  refine wpAny_For ?_
  walk_at "mine walk"
  (rename St _ _ _ _ _ _ => H3; rename_i dq _ _ _ _ _ _ rg _ _ it _)
  have ek : ((k : Int) - 0).toNat = k := by walk_at "o"
  rw [ek] at H3
  have hr := handL_range h0 h1
  refine for_loop (bs := [("told", .ref dq), ("left", .int (handL odd l 0) tb), ("odd", .int odd ta)]) (L := (rg, RangeO 0 k 1) :: (dq, LstO []) :: L) (iter_range g it 0 k 1) (hA.deeper.le (by decide) (by decide)) (by first | walk_at "o" | (dsimp only; walk_at "o"))
    (fun i _ (bs' : Bs) L' => ∃ vs t, L' = (rg, RangeO 0 k 1) :: (dq, LstO vs) :: L ∧ bs' = ([("told", .ref dq), ("left", .int (handL odd l i) t), ("odd", .int odd ta)] : Bs) ∧ vs.length = i ∧ IntsF vs (handF odd l)) (H3.weak fun o => FrO.sub (by walk_at "mine subs")) ⟨[], _, rfl, rfl, rfl, fun j hj => absurd hj (Nat.not_lt_zero _)⟩ ?_ ?_
  · rintro i g' h' γ' t tk' bs' L' v hi hg ht1 ht2 ⟨vs, tl, rfl, rfl, hvl, hv⟩ rfl H4
    dsimp only at ht1
    have hr1 := hr i
    refine wpAny_assign_Name ?_
    walk_at "mine walk"
    · rename odd < _ => hlt
      have e1 : handF odd l i = 1 := by unfold handF; rw [if_pos hlt]
      have e2 : handL odd l (i + 1) = 2 * handL odd l i - 1 * odd := by show 2 * handL odd l i - (if odd < 2 * handL odd l i then 1 else 0) * odd = _; rw [if_pos hlt]
      rename St _ _ _ _ _ _ => H7
      dsimp only
      exact ⟨g', _, _, _, ([("told", .ref dq), ("left", .int (handL odd l (i + 1)) _), ("odd", .int odd ta)] : Bs), _, rfl, .refl _, by walk_at "o", ⟨_, _, rfl, rfl, by rw [List.length_append, hvl]; rfl, hv.snoc (by rw [hvl, e1])⟩, by rw [e2]; exact H7.weak fun o => FrO.sub (by walk_at "mine subs")⟩
    · rename ¬ (odd < _) => hlt
      have e1 : handF odd l i = 0 := by unfold handF; rw [if_neg hlt]
      have e2 : handL odd l (i + 1) = 2 * handL odd l i - 0 * odd := by show 2 * handL odd l i - (if odd < 2 * handL odd l i then 1 else 0) * odd = _; rw [if_neg hlt]
      rename St _ _ _ _ _ _ => H7
      dsimp only
      exact ⟨g', _, _, _, ([("told", .ref dq), ("left", .int (handL odd l (i + 1)) _), ("odd", .int odd ta)] : Bs), _, rfl, .refl _, by walk_at "o", ⟨_, _, rfl, rfl, by rw [List.length_append, hvl]; rfl, hv.snoc (by rw [hvl, e1])⟩, by rw [e2]; exact H7.weak fun o => FrO.sub (by walk_at "mine subs")⟩
  · rintro g' h' γ' tk' bs' L' hg ht1 ⟨vs, tl, rfl, rfl, hvl, hv⟩ H4
    dsimp only at ht1
    walk_at "mine walk"
    walk_at "mine fin"
    rename St _ _ _ _ _ _ => H7
    exact hQ dq g' _ _ _ vs (by walk_at "o") hg hvl hv H7.tail.tail
end

-- B8
local macro_rules | `(tactic| walk_at "eval ListComp") => `(tactic| (k_dflt (refine' list_comp (by exact rfl) (by exact rfl) (by decide) (by intro _; rfl) ?_; k_whole)))
local macro_rules | `(tactic| walk_at "mine enterC") => `(tactic| (
  case hb => exact rfl
  case hbind => exact rfl
  case hkind => exact rfl
  case hnd => decide
  case hbl => walk_at "mine subs"
  case hclo => rfl
  case h1 => rfl
  case h2 => rfl
  case h3 => rfl))
theorem sub_lstR {prog : Program} {w : World} {A : Around} {E : Value → Shared → Prop} {s : Shared} {value slice : PySem.Expr} {l : Addr} {vs : List Value} {k : Int} {t : Tok} {i : Nat} {x : Value} {Q : Value → Shared → Prop} (hl : s.heap.IsList l vs.toArray) (hk : k = (i : Nat)) (hx : vs[i]? = some x) (hsz : i ≤ 1000000) (h : Q x s)
    (hs : subscripted slice false (.ref l) (.int k t) = operate [.ref l, .int k t] (getItem (.ref l) (.int k t))) :
    wpAny (model prog w) A (subscriptTail value slice (.ref l) (.int k t)) Q E s :=
  subscriptTail_builtinR hl.typeIs slot_list_getitem.lookup (get_lst hl hk hx hsz ⟨rfl, h⟩) hs
local macro_rules | `(tactic| walk_at "subscriptTail") => `(tactic| (walk_at "ri"; refine' sub_lstR (by walk_at "mine lst") (by with_unfolding_all rfl) (by walk_at "mine at") (by walk_at "mine nat") ?_ (by with_unfolding_all rfl); k_whole))

-- T11
section
variable {prog : Program} {w : World} {A : Around} {E : Value → Shared → Prop} {s : Shared} {g : Heap} {γ₀ : Array GenState} {L : List Ent}
theorem round_s {odd above : Int} {T : Nat} {ta tb : Nat} {Q : Value → Shared → Prop} (H : St w g γ₀ s.heap s.gens L) (hs : 0 < s.toks) (hA : Ok A 3 20) (h0 : 1 ≤ odd) (h1 : odd ≤ 1000) (ha0 : -1000000 ≤ above) (ha1 : above ≤ 1000000)
    (hT : 1 ≤ T) (hT' : (T : Int) ≤ odd) (hd : (above * (2 ^ T - 1)) % odd = 0) (hm : ∀ k : Nat, 1 ≤ k → k < T → (above * (2 ^ k - 1)) % odd ≠ 0)
    (hQ : ∀ (t : Nat) g' h' γ' tk', s.toks ≤ tk' → Le g g' → St w g' γ₀ h' γ' L → Q (.int T t) { s with heap := h', gens := γ', toks := tk' }) : wpAny (model prog w) A (call (.ref 295) [.int odd ta, .int above tb]) Q E s := by
  refine' call_fnC (bs := [("odd", .int odd ta), ("above", .int above tb)]) (bl := []) F295 H hA.room ?hb ?hbind ?hkind ?hnd ?hbl ?hclo ?h1 ?h2 ?h3 ?_
  walk_at "mine enterC"
  intro Lf h₁ tk htk H'
  have H'' : St w g γ₀ h₁ s.gens ((Lf, FrO ([] : Bs)) :: (Lf + 2, CellO (some (.int above tb))) :: (Lf + 1, CellO (some (.int odd ta))) :: L) := H'
  clear H'
  show wpAny _ _ _ _ _ _
  k_fold
  walk_at "mine walk"
  (rename St _ _ _ _ _ _ => H3; rename_i rg _ _ it _)
  obtain ⟨n, hn⟩ := Int.eq_ofNat_of_zero_le (show 0 ≤ odd by walk_at "o")
  have en : (odd + 1 - 1).toNat = n := by walk_at "o"
  rw [en] at H3
  refine comp_run (iter_range g it 1 n 1) ((hA.le (d' := 1 + 1) (u' := 10 + 3) (by decide) (by decide)).deeper) (by dsimp only; walk_at "o") (by unfold sizeLine; walk_at "o") (by decide) rfl
    (fun i _ vs L' => L' = (Lf, FrO ([] : Bs)) :: (rg, RangeO 1 (odd + 1) 1) :: (Lf + 2, CellO (some (.int above tb))) :: (Lf + 1, CellO (some (.int odd ta))) :: L ∧ vs.length ≤ i ∧ (i < T → vs = []) ∧ (T ≤ i → ∃ t : Nat, vs[0]? = some (.int T t)))
    (H3.perm (.swap _ _ _)) ⟨rfl, Nat.le_refl _, fun _ => rfl, fun h => by walk_at "o"⟩ ?_ ?_
  · rintro i g' h' γ' t tk' vs L' v Lc acc hi hg ht1 ht2 ⟨rfl, hvl, hv0, hvT⟩ rfl H4
    dsimp only at ht1
    refine wpAny_assign_Name ?_
    walk_at "mine walk"
    · rename _ = (0 : Int) => hc
      have hk : (1 + (i : Int) * 1) = ((i + 1 : Nat) : Int) := by walk_at "o"
      rw [hk, Int.toNat_natCast, Int.fmod_eq_emod_of_nonneg _ (by walk_at "o")] at hc
      rw [hk]
      have hTi : T ≤ i + 1 := Nat.le_of_not_lt fun h => hm (i + 1) (by walk_at "o") h hc
      rename St _ _ _ _ _ _ => H7
      refine ⟨g', _, γ', _, _, _, rfl, .refl _, by walk_at "o", ⟨rfl, by rw [List.length_append]; simp; walk_at "o", fun h => by walk_at "o", fun _ => ?_⟩, H7⟩
      by_cases hiT : T ≤ i
      · obtain ⟨u, e⟩ := hvT hiT
        exact ⟨u, by rw [List.getElem?_append_left (by rcases vs with _ | _ <;> simp at e ⊢)]; exact e⟩
      · have : T = i + 1 := by walk_at "o"
        rw [hv0 (by walk_at "o"), this]
        exact ⟨t, rfl⟩
    · rename _ ≠ (0 : Int) => hc
      have hk : (1 + (i : Int) * 1) = ((i + 1 : Nat) : Int) := by walk_at "o"
      rw [hk, Int.toNat_natCast, Int.fmod_eq_emod_of_nonneg _ (by walk_at "o")] at hc
      have hTi : T ≠ i + 1 := fun h => hc (h ▸ hd)
      rename St _ _ _ _ _ _ => H7
      exact ⟨g', _, γ', _, _, _, rfl, .refl _, by walk_at "o", ⟨rfl, by walk_at "o", fun h => hv0 (by walk_at "o"), fun h => hvT (by walk_at "o")⟩, H7⟩
  · rintro g' h' γ' tk' vs L' acc hg ht1 ⟨rfl, hvl, hv0, hvT⟩ H4
    dsimp only at ht1
    obtain ⟨u, hu⟩ := hvT (by walk_at "o")
    walk_at "mine walk"
    walk_at "mine fin"
    exact hQ _ _ _ _ _ (by walk_at "o") hg (H4.sub (by walk_at "mine back"))
end

-- B9
section
open Builtin Builtin.ObjectAttr Builtin.Getset_descriptor


theorem ln_split : splitId "list.__new__" = some ("list", "__new__") := by decide +kernel
theorem ln_kind : builtinKind "list.__new__" = some .builtinFn := by decide +kernel
theorem ln_quiet : ("list.__new__" : String).startsWith "lifetime." = false := by decide +kernel
noncomputable def lnSig : Manifest.Signature := { machinery := .any, full := "list", short := "list", receiver := .cls, params := [{ name := "args", kind := .varPos, required := false }, { name := "kwargs", kind := .varKw, required := false }] }
theorem ln_row : Manifest.signature? "list.__new__" = some lnSig := by kernel_rfl
structure MakesL (M : Model) (h : Heap) (C : Addr) : Prop where
  obj : ∃ oc od cd sl, h.get? C = some ⟨oc, od, .cls cd, sl⟩ ∧ cd.abstract = false ∧ cd.hasDel = false ∧ cd.mro.isEmpty = false
  made : Looks M h (Bind.madeBy (.ref C)) (some "list.__new__")
  base : Looks M h (Bind.staticBase (.ref C)) (.ref C)
  self : Looks M h (isSubtype (.ref C) (.ref C)) true
  top : Looks M h (isSubtype (.ref C) (.type "list")) true
  call : Looks M h (specialOf (.ref C) "__call__") (some (.builtin "type.__call__"))
  typ : Looks M h (isInstance (.ref C) (.type "type")) true
theorem makes_ofL {K : Frag} {M : Model} {h : Heap} (X : K.In h) {C : Addr} {oc : Value} {od : Option Addr} {cd : ClassData} {sl : Array (Option Value)} (ho : K.lookup C = some ⟨oc, od, .cls cd, sl⟩)
    (e1 : cd.abstract = false) (e2 : cd.hasDel = false) (e3 : (sl.toList[4]?).join = some (.builtin "list.__new__")) (e4 : cd.mro.isEmpty = false) (e5 : cd.mro.contains (.ref C) = true) (e6 : cd.mro.contains (.type "list") = true)
    (e7 : specialIn K (.ref C) "__call__" = some (some (.builtin "type.__call__"))) (e8 : instIn K (.ref C) (.type "type") = some true) : MakesL M h C := by
  · skip
    have hc : clsIn K C = some cd := by unfold clsIn; rw [ho]
    have hm : Looks M h (mroOf (.ref C)) cd.mro := (looks_clsIn X hc).andThen .now
    obtain ⟨c, l, hl⟩ : ∃ c l, cd.mro = c :: l := by cases q : cd.mro with | nil => rw [q] at e4; cases e4 | cons c l => exact ⟨c, l, rfl⟩
    have made : Looks M h (Bind.madeBy (.ref C)) (some "list.__new__") := by
      intro A Q E s k q
      unfold Bind.madeBy
      refine wpAny_bind (hm A _ E s k ?_)
      rw [hl, List.forIn_cons]
      refine wpAny_bind (wpAny_bind (wpAny_bind (wpAny_bind (wpAny_loadPart (k _ _ (X _ _ ho)) (wpAny_pure ?_)))))
      dsimp only
      rw [← Array.getElem?_toList, e3]
      exact wpAny_pure (wpAny_pure (wpAny_pure q))
    refine ⟨⟨oc, od, cd, sl, X _ _ ho, e1, e2, e4⟩, made, ?_, looks_mroIn X ?_, looks_mroIn X ?_, looks_specialIn X e7, looks_instIn X e8⟩
    · intro A Q E s k q
      unfold Bind.staticBase
      refine wpAny_bind (hm A _ E s k ?_)
      rw [hl, List.forIn_cons]
      exact wpAny_bind (wpAny_bind (wpAny_bind (made A _ E s k (wpAny_pure (wpAny_pure (wpAny_pure q))))))
    · unfold mroIn; rw [hc, Option.bind_some, if_neg (by rw [e4]; decide), e5]
    · unfold mroIn; rw [hc, Option.bind_some, if_neg (by rw [e4]; decide), e6]

abbrev lstInst (C dx : Addr) (vs : List Value) (n : Nat) : Obj := { cls := .ref C, dict := some dx, data := .seq vs.toArray n }
theorem mk269 {h : Heap} {M : Model} {w : World} (X : (hd.heap_1 w.params).In h) : MakesL M h 269 := by
  refine' makes_ofL X ?ho ?e1 ?e2 ?e3 ?e4 ?e5 ?e6 ?e7 ?e8
  case ho => k_is
  case e1 => rfl
  case e2 => rfl
  case e3 => rfl
  case e4 => rfl
  case e5 => rfl
  case e6 => rfl
  case e7 => k_is
  case e8 => k_is

section
variable {prog : Program} {w : World} {A : Around} {C : Addr} {R : Result → Shared → Prop} {h : Heap} {g : Array GenState} {d : Drawn} {t : Nat} {os : OsState}
theorem new_KL {rest : List Value} (Y : MakesL (model prog w) h C)
    (hq : R (.ok (.ret (.ref (h.objs.size + 1)))) ⟨(h.push emptyDict).push (lstInst C h.objs.size [] 0), g, d, t, os⟩) :
    codeAny (model prog w) A (.call (.builtin "list.__new__") ⟨.ref C :: rest, []⟩) R ⟨h, g, d, t, os⟩ := by
  obtain ⟨⟨oc, od, cd, sl, hC, e1, e2, e4⟩, made, base, self, top, call, typ⟩ := Y
  refine codeAny_call_builtin_code (Code.quiet_builtin _ ln_quiet) ?_
  simp only [checkBuiltinCall, ln_kind, ln_split, ln_row]
  have here : Looks (model prog w) h (Bind.madeHere "list.__new__" (.ref C)) () := base.andThen (made.andThen (Looks.of_pure (by simp only [Option.map_some, bne_self_eq_false, Bool.false_eq_true, if_false])))
  have args : Bind.checkArgs "list.__new__" lnSig ⟨.ref C :: rest, []⟩ = pure () := by
    unfold Bind.checkArgs
    kernel_rfl
  rw [args]
  repeat (first | simp only [bne_self_eq_false, Bool.false_eq_true, if_false] | lk)
  refine codeAny_builtin_stack F.entry_list_new rfl fun p st => ?_
  rw [Around.under_plainId F.plain_list_new _]
  simp only [owner_list_new]
  repeat lk
  refine wpAny_load (Heap.get?_push_of_some _ (Heap.get?_push_of_some _ hC)) ?_
  refine wpAny_pure ?_
  rw [e2]
  refine wpAny_pure (wpAny_pure ?_)
  show R _ _
  rw [Heap.size_push]
  exact hq

theorem make_coreL {rest : List Value} {init : Value} (Y : MakesL (model prog w) h C) (hi : Looks (model prog w) h (typeLookup (.ref C) "__init__") (some init))
    (hb : ∀ self, Looks (model prog w) h (bindSpecial init self) (init, [self]))
    (hq : codeAny (model prog w) (A.under (.builtin "type.__call__" ⟨.ref C :: rest, []⟩)) (.call init ⟨.ref (h.objs.size + 1) :: rest, []⟩) (InitBack (h.objs.size + 1) R) ⟨(h.push emptyDict).push (lstInst C h.objs.size [] 0), g, d, t, os⟩) :
    codeAny (model prog w) A (.call (.ref C) ⟨rest, []⟩) R ⟨h, g, d, t, os⟩ := by
  have Y' := Y
  obtain ⟨⟨oc, od, cd, sl, hC, e1, e2, e4⟩, made, base, self, top, call, typ⟩ := Y
  refine codeAny_of_tree ?_
  show wpAny _ _ (callAny (.ref C) _) _ _ _
  refine nd_load hC ?_
  show wpAny _ _ (callAny.viaDunder (.ref C) _) _ _ _
  unfold callAny.viaDunder
  refine wpAny_bind (call.at ?_)
  dsimp only
  rw [tc_bind]
  refine wpAny_bind (wpAny_pure (wpAny_bind (wpAny_pure ?_)))
  refine wpAny_pure (a := Fin.again (.call (.builtin "type.__call__") ⟨.ref C :: rest, []⟩)) (And.intro rfl ?_)
  refine codeAny_call_builtin_at (Code.quiet_builtin _ (by decide +kernel)) entry_typeCall (check_slot tc_kind tc_split typ (tc_args _ _ _) ?_)
  unfold Builtin.«type.__call__»
  have hm : Looks (model prog w) h (mroOf (.ref C)) cd.mro := ((Looks.ld (part := none) hC).andThen .now).andThen .now
  repeat (first | simp only [e4, Bool.false_eq_true, if_false] | with_reducible refine wpAny_call ?_ | lk)
  refine new_KL Y' ?_
  have k : ∀ b o, h.get? b = some o → ((h.push emptyDict).push (lstInst C h.objs.size [] 0)).get? b = some o := fun b o e => Heap.get?_push_of_some _ (Heap.get?_push_of_some _ e)
  have hx : ((h.push emptyDict).push (lstInst C h.objs.size [] 0)).get? (h.objs.size + 1) = some (lstInst C h.objs.size [] 0) := by heap_get
  have t1 : Looks (model prog w) ((h.push emptyDict).push (lstInst C h.objs.size [] 0)) (typeOf (.ref (h.objs.size + 1))) (.ref C) := (Looks.ld hx).andThen .now
  have s1 := self.keeps k
  have i1 := hi.keeps k
  have b1 := (hb (.ref (h.objs.size + 1))).keeps k
  unfold isInstance callSpecial? specialOf
  repeat (first | with_reducible refine wpAny_call ?_ | lk)
  refine codeAny_mono hq fun r s' z => ?_
  rcases r with e | (v | _ | _ | _) <;> first | exact z | exact z.elim | skip
  obtain ⟨rfl, z⟩ := z
  exact wpAny_pure (wpAny_pure z)
end

end
-- B10
section
open Builtin Builtin.ObjectAttr Builtin.Getset_descriptor

noncomputable def AccO (dx : Addr) (vs : List Value) : OP := fun o => ∃ n, o = lstInst 269 dx vs n
noncomputable def PagO (dx : Addr) : OP := fun o => o = instObj 185 dx
noncomputable def IsIns (P : OP) (C dx : Addr) : Prop := ∀ o, P o → o.cls = .ref C ∧ notCls o = true ∧ o.dict = some dx
theorem ins_acc {dx : Addr} {vs : List Value} : IsIns (AccO dx vs) 269 dx := fun o ⟨n, e⟩ => by subst e; exact ⟨rfl, rfl, rfl⟩
theorem ins_pag {dx : Addr} : IsIns (PagO dx) 185 dx := fun o e => by have e : o = _ := e; subst e; exact ⟨rfl, rfl, rfl⟩
theorem inst_at {h : Heap} {x C dx : Addr} {P Pd : OP} (hP : IsIns P C dx) (hx : ∃ o, h.get? x = some o ∧ P o) (hd : ∃ o, h.get? dx = some o ∧ Pd o) : ∃ ox od, InstAt h x ox C (some od) ∧ ox.dict = some dx ∧ h.get? dx = some od ∧ Pd od :=
  let ⟨ox, e, p⟩ := hx; let ⟨od, e', p'⟩ := hd; let ⟨a, b, c⟩ := hP ox p
  ⟨ox, od, ⟨e, a, b, by rw [c]; exact e'⟩, c, e', p'⟩
theorem lookIn_ns {bs : Bs} {o : Obj} (hn : NsO bs o) (x : Str) : lookIn x o = some (bs.lookup x) := by
  obtain ⟨es, ep, hd, hk, _, hf⟩ := hn
  unfold lookIn
  rw [hd]
  dsimp only
  have := hf x
  unfold nsFind findBy at this
  rw [← Array.find?_toList] at this
  cases q : es.toList.find? (·.key.isStr x) with
  | some e => rw [q] at this; dsimp only; rw [← this]; rfl
  | none =>
    rw [q] at this
    dsimp only
    rw [if_neg, ← this]; rfl
    simp only [List.any_eq_true, not_exists, not_and]
    intro e he hr
    obtain ⟨n, t, hk'⟩ := hk e (by simpa using he)
    simp [DictEntry.refKey, hk'] at hr

section
variable {prog : Program} {w : World} {A : Around} {E : Value → Shared → Prop} {s : Shared} {g : Heap} {γ₀ : Array GenState} {L L' : List Ent} {x C dx : Addr} {P : OP} {bs : Bs} {name : Str} {v : Value} {cd : ClassData}
theorem get_att {expr : Bool} {Q : Value → Shared → Prop} (H : St w g γ₀ s.heap s.gens L) (hP : IsIns P C dx) (hx : ∃ o, s.heap.get? x = some o ∧ P o) (hdx : ∃ o, s.heap.get? dx = some o ∧ NsO bs o) (hv : bs.lookup name = some v)
    (hga : findIn (hd.heap_1 w.params) (.ref C) "__getattribute__" = some (some (.builtin "object.__getattribute__"))) (hc : clsIn (hd.heap_1 w.params) C = some cd) (hh : cd.hasDict = true) (hn : findIn (hd.heap_1 w.params) (.ref C) name = some none) (hi : handedIn v = true)
    (h : Q v { s with toks := s.toks + 1 }) : wpAny (model prog w) A (getAttr (.ref x) name expr) Q E s := by
  obtain ⟨ox, od, I, _, _, p⟩ := inst_at hP hx hdx
  refine get_value H.inK I hga ?_ hi h
  unfold findObj
  rw [hc, Option.bind_some, hn, Option.bind_some]
  dsimp only
  rw [Option.bind_some, Option.bind_some]
  dsimp only
  unfold W.ownOf
  rw [if_pos hh]
  dsimp only
  rw [lookIn_ns p, hv]
  rfl

theorem set_att {Q : Unit → Shared → Prop} (H : St w g γ₀ s.heap s.gens L) (hP : IsIns P C dx) (hx : ∃ o, s.heap.get? x = some o ∧ P o) (hp : Put dx (NsO bs) (NsO ((name, v) :: bs)) L L')
    (hs : findIn (hd.heap_1 w.params) (.ref C) "__setattr__" = some (some (.builtin "object.__setattr__"))) (hc : clsIn (hd.heap_1 w.params) C = some cd) (hh : cd.hasDict = true) (hpass : ∀ self, refuseLoop self "__setattr__" cd.mro = pure ())
    (hobj : cd.mro.contains (.type "object") = true) (hmt : cd.mro.isEmpty = false) (ht : takerIn (hd.heap_1 w.params) C name = some none) (hsz : bs.length ≤ 100)
    (h : ∀ h' tk', s.toks ≤ tk' → St w g γ₀ h' s.gens L' → Q () { s with heap := h', toks := tk' }) : wpAny (model prog w) A (setAttr (.ref x) name v) Q E s := by
  obtain ⟨ox, od, I, hox, hod, p⟩ := inst_at hP hx (H.of hp.mem)
  have X := H.inK
  refine set_plain X I hs ?_
  have SF := PySem.F.store_object
  have sub : Looks (model prog w) s.heap (isInstance (.ref x) (.type "object")) true := I.type.andThen (looks_mroIn X (by unfold mroIn; rw [hc, Option.bind_some, if_neg (by rw [hmt]; decide), hobj]))
  refine codeAny_call_builtin SF.slot.plain SF.entry (@check_slot (model prog w) _ _ { s with toks := s.toks + 1 } "object.__setattr__" "object" "__setattr__" (.ref x) [.str name s.toks, v] [] _ SF.kind SF.split sub (SF.args (.ref x) (.str name s.toks) v) ?_)
  obtain ⟨attr, ha, hr⟩ := Option.bind_eq_some_iff.mp ht
  have hm : Looks (model prog w) s.heap (mroOf (.ref C)) cd.mro := (looks_clsIn X hc).andThen .now
  have L3 : Looks (model prog w) s.heap (storeTaker? attr) none := by
    cases attr with
    | none => exact .now
    | some a =>
      obtain ⟨b, hb, hbe⟩ := Option.map_eq_some_iff.mp hr
      refine (looks_takesIn X hb).andThen ?_
      cases b with
      | false => exact .now
      | true => cases hbe
  rw [osa_eq, refuse_eq]
  refine wpAny_bind (wpAny_bind (I.type _ _ _ _ (fun _ _ e => e) (wpAny_bind (hm _ _ _ _ (fun _ _ e => e) ?_))))
  rw [hpass]
  refine wpAny_pure (wpAny_bind (I.type _ _ _ _ (fun _ _ e => e) (wpAny_bind (looks_findIn X ha _ _ _ _ (fun _ _ e => e) (wpAny_bind (L3 _ _ _ _ (fun _ _ e => e) ?_))))))
  obtain ⟨hx', hcl, hn, -⟩ := I
  obtain ⟨oc, odi, oda, osl⟩ := ox
  dsimp only at hcl hox
  subst hcl hox
  refine wpAny_bind (wpAny_pure (wpAny_bind (wpAny_bind (wpAny_loadPart hx' (wpAny_bind (looks_clsIn X hc _ _ _ _ (fun _ _ e => e) ?_))))))
  rw [hh]
  refine wpAny_pure (a := some dx) (wpAny_bind (wpAny_pure (wpAny_bind ?_)))
  obtain ⟨o₀, e₀, p₀⟩ := H.of hp.mem
  refine wpAny_nsSet1 (ns_of' e₀ p₀) fun h' hn' hsb => ?_
  have hw : Within (fun y => if y = name then some v else bs.lookup y) (name :: bs.map (·.1)) := Within.cons name v fun y hy => by
    cases q : bs.lookup y with
    | none => exact absurd q hy
    | some u => exact List.mem_map_of_mem (f := (·.1)) (mem_of_lookup q)
  obtain ⟨oD, esD, epD, hoD, hdD, hcD⟩ := hn'.count hw
  refine wpAny_bind (wpAny_lookBehind hoD (by rw [hdD]; exact pastItsLine_dict (Nat.le_trans hcD (by rw [List.length_cons, List.length_map, sizeLine_eq]; walk_at "o"))) ?_)
  refine wpAny_pure ?_
  refine h h' _ (by dsimp only; walk_at "o") (H.putSame hp hsb (of_ns' hn' fun y => ?_))
  rw [List.lookup_cons]
  by_cases hy : y = name
  · subst hy; simp
  · have : (y == name) = false := by simpa using hy
    rw [this, if_neg hy]

theorem meth_att {f : Addr} {pl : Sem Bool} {Q : Value × List Value → Shared → Prop} (H : St w g γ₀ s.heap s.gens L) (hP : IsIns P C dx) (hx : ∃ o, s.heap.get? x = some o ∧ P o) (hdx : ∃ o, s.heap.get? dx = some o ∧ NsO bs o) (hv : bs.lookup name = none)
    (hga : findIn (hd.heap_1 w.params) (.ref C) "__getattribute__" = some (some (.builtin "object.__getattribute__"))) (hk : findIn (hd.heap_1 w.params) (.ref C) "__getattr__" = some none) (hf : findIn (hd.heap_1 w.params) (.ref C) name = some (some (.ref f)))
    (ht : typeIn (hd.heap_1 w.params) (.ref f) = some (.type "function")) (h : Q (.ref f, [.ref x]) s) : wpAny (model prog w) A (getMethod (.ref x) name pl) Q E s := by
  obtain ⟨ox, od, I, _, _, p⟩ := inst_at hP hx hdx
  exact method_fn H.inK I hga hk hf ht (by unfold shadowIn; dsimp only; rw [lookIn_ns p, hv]; rfl) h
end

end
-- B11
section
open Builtin Builtin.ObjectAttr Builtin.Getset_descriptor
theorem slot_wd_get : Slot "wrapper_descriptor" "__get__" "wrapper_descriptor.__get__" := .of (owner := "wrapper_descriptor") (n := "__get__") (by rw [typeLookup_type, builtinLookup_eq_fast]; kernel_rfl) (by decide +kernel) (by decide +kernel) (by decide +kernel)
  (by first | exact .inl (by decide +kernel) | exact .inr (by decide +kernel)) (by rw [isSubtype_type]; kernel_rfl)
theorem entry_wd_get : entryFor table "wrapper_descriptor.__get__" = some Builtin.«wrapper_descriptor.__get__» := entryFor_of_tree (by kernel_rfl)
theorem args_wd_get (a b c : Value) : argsOk "wrapper_descriptor.__get__" ⟨[a, b, c], []⟩ := by unfold argsOk; kernel_rfl
theorem slot_md_get : Slot "method_descriptor" "__get__" "method_descriptor.__get__" := .of (owner := "method_descriptor") (n := "__get__") (by rw [typeLookup_type, builtinLookup_eq_fast]; kernel_rfl) (by decide +kernel) (by decide +kernel) (by decide +kernel)
  (by first | exact .inl (by decide +kernel) | exact .inr (by decide +kernel)) (by rw [isSubtype_type]; kernel_rfl)
theorem entry_md_get : entryFor table "method_descriptor.__get__" = some Builtin.«method_descriptor.__get__» := entryFor_of_tree (by kernel_rfl)
theorem args_md_get (a b c : Value) : argsOk "method_descriptor.__get__" ⟨[a, b, c], []⟩ := by unfold argsOk; kernel_rfl
theorem ty_init : typeOf (.builtin "list.__init__") = pure (.type "wrapper_descriptor") := by kernel_rfl
theorem ty_len : typeOf (.builtin "list.__len__") = pure (.type "wrapper_descriptor") := by kernel_rfl
theorem ty_pop : typeOf (.builtin "list.pop") = pure (.type "method_descriptor") := by kernel_rfl
section
variable {prog : Program} {w : World} {A : Around} {E : Value → Shared → Prop} {h : Heap} {g : Array GenState} {d : Drawn} {t : Nat} {os : OsState}
theorem own_len : ".".intercalate ("list.__len__".cutAt '.').dropLast = "list" := by decide +kernel
theorem own_init : ".".intercalate ("list.__init__".cutAt '.').dropLast = "list" := by decide +kernel
theorem own_pop : ".".intercalate ("list.pop".cutAt '.').dropLast = "list" := by decide +kernel
abbrev wrapObj (c : String) (id : String) (x : Addr) : Obj := { cls := .type c, data := .fields #[.builtin id, .ref x] }
theorem wd_get_len {x : Addr} {ox : Obj} {Q : Value → Shared → Prop} (hx : h.get? x = some ox) (hc : ox.cls = .ref 269) (hi : Looks (model prog w) h (isSubtype (.ref 269) (.type "list")) true)
    (hq : Q (.ref h.objs.size) ⟨h.push (wrapObj "method-wrapper" "list.__len__" x), g, d, t, os⟩) :
    wpAny (model prog w) A (call (.builtin "wrapper_descriptor.__get__") [.builtin "list.__len__", .ref x, .ref 269]) Q E ⟨h, g, d, t, os⟩ := by
  refine wpAny_call_entry slot_wd_get (T := "wrapper_descriptor") ty_len entry_wd_get ?_ (args_wd_get _ _ _)
  unfold Builtin.«wrapper_descriptor.__get__»
  repeat (first | (with_reducible refine wpAny_loadPart_at hx ?_; rw [hc]) | (rw [own_len]) | (with_reducible refine Looks.at hi ?_) | wp_step)
  exact ⟨_, rfl, hq⟩
theorem wd_get_init {x : Addr} {ox : Obj} {Q : Value → Shared → Prop} (hx : h.get? x = some ox) (hc : ox.cls = .ref 269) (hi : Looks (model prog w) h (isSubtype (.ref 269) (.type "list")) true)
    (hq : Q (.ref h.objs.size) ⟨h.push (wrapObj "method-wrapper" "list.__init__" x), g, d, t, os⟩) :
    wpAny (model prog w) A (call (.builtin "wrapper_descriptor.__get__") [.builtin "list.__init__", .ref x, .ref 269]) Q E ⟨h, g, d, t, os⟩ := by
  refine wpAny_call_entry slot_wd_get (T := "wrapper_descriptor") ty_init entry_wd_get ?_ (args_wd_get _ _ _)
  unfold Builtin.«wrapper_descriptor.__get__»
  repeat (first | (with_reducible refine wpAny_loadPart_at hx ?_; rw [hc]) | (rw [own_init]) | (with_reducible refine Looks.at hi ?_) | wp_step)
  exact ⟨_, rfl, hq⟩
theorem md_get_pop {x : Addr} {ox : Obj} {Q : Value → Shared → Prop} (hx : h.get? x = some ox) (hc : ox.cls = .ref 269) (hi : Looks (model prog w) h (isSubtype (.ref 269) (.type "list")) true)
    (hq : Q (.ref h.objs.size) ⟨h.push (wrapObj "builtin_function_or_method" "list.pop" x), g, d, t, os⟩) :
    wpAny (model prog w) A (call (.builtin "method_descriptor.__get__") [.builtin "list.pop", .ref x, .ref 269]) Q E ⟨h, g, d, t, os⟩ := by
  refine wpAny_call_entry slot_md_get (T := "method_descriptor") ty_pop entry_md_get ?_ (args_md_get _ _ _)
  have hct : Manifest.toldItsClass.contains "list.pop" = false := by decide +kernel
  unfold Builtin.«method_descriptor.__get__»
  repeat (first | (with_reducible refine wpAny_loadPart_at hx ?_; rw [hc]) | (rw [own_pop]) | (simp only [hct, Bool.false_eq_true, if_false]) | (with_reducible refine Looks.at hi ?_) | wp_step)
  exact ⟨_, rfl, hq⟩

theorem sup_ga {so D x C : Addr} {l₀ l : List Value} {K : Frag} {name : Str} {tk : Tok} {id T gid : String} {ob : Obj} {Q : Fin → Shared → Prop}
    (hso : h.get? so = some { cls := .type "super", dict := none, data := .fields #[.ref D, .ref x, .ref C], slots := #[] }) (hno : Looks (model prog w) h (opaqueClassAbove (.ref C)) none)
    (hC : Looks (model prog w) h (mroOf (.ref C)) l₀) (hl : (l₀.dropWhile (· != .ref D)).drop 1 = l) (X : K.In h)
    (hf : alongIn K name l = some (some (.builtin id))) (hty : typeOf (.builtin id) = pure (.type T)) (hlk : typeLookup (.type T) "__get__" = pure (some (.builtin gid))) (hxC : x ≠ C) (hn : (name == ("__class__" : Str)) = false)
    (hg : ∀ (A : Around) (Q : Value → Shared → Prop) (E : Value → Shared → Prop), Q (.ref h.objs.size) ⟨h.push ob, g, d, t, os⟩ → wpAny (model prog w) A (call (.builtin gid) [.builtin id, .ref x, .ref C]) Q E ⟨h, g, d, t, os⟩)
    (hq : Q (.done (.ret (.ref h.objs.size))) ⟨h.push ob, g, d, t, os⟩) :
    wpAny (model prog w) A (Builtin.«super.__getattribute__» ⟨[.ref so, .str name tk], []⟩) Q E ⟨h, g, d, t, os⟩ := by
  have hne : (Value.ref x == Value.ref C) = false := by simp [hxC]
  have hdt : ({ cls := .type "super", dict := none, data := .fields #[.ref D, .ref x, .ref C], slots := #[] } : Obj).data = .fields #[.ref D, .ref x, .ref C] := rfl
  have f0 : (#[.ref D, .ref x, .ref C] : Array Value)[0]? = some (.ref D) := rfl
  have f1 : (#[.ref D, .ref x, .ref C] : Array Value)[1]? = some (.ref x) := rfl
  have f2 : (#[.ref D, .ref x, .ref C] : Array Value)[2]? = some (.ref C) := rfl
  unfold Builtin.«super.__getattribute__»
  repeat (first
    | (with_reducible refine wpAny_field hso hdt f0 ?_) | (with_reducible refine wpAny_field hso hdt f1 ?_) | (with_reducible refine wpAny_field hso hdt f2 ?_)
    | (with_reducible refine PySem.ks_wpAny_notOpaque hno ?_)
    | (with_reducible refine Looks.at hC ?_; rw [hl])
    | (refine PySem.ks_forIn_along X (fun _ _ => rfl) rfl ?_ hf)
    | (with_reducible refine wpAny_of_eq hty ?_) | (with_reducible refine wpAny_of_eq hlk ?_)
    | (with_reducible refine hg _ _ _ ?_)
    | (simp only [hn, hne, Bool.or_false, Bool.false_eq_true, if_false])
    | wp_step
    | dsimp only)
  exact hq
theorem sup_method {so D x C : Addr} {l₀ l : List Value} {K : Frag} {name : Str} {pl : Sem Bool} {id T gid : String} {ob : Obj} {Q : Value × List Value → Shared → Prop}
    (hso : h.get? so = some { cls := .type "super", dict := none, data := .fields #[.ref D, .ref x, .ref C], slots := #[] }) (hno : Looks (model prog w) h (opaqueClassAbove (.ref C)) none)
    (hC : Looks (model prog w) h (mroOf (.ref C)) l₀) (hl : (l₀.dropWhile (· != .ref D)).drop 1 = l) (X : K.In h)
    (hf : alongIn K name l = some (some (.builtin id))) (hty : typeOf (.builtin id) = pure (.type T)) (hlk : typeLookup (.type T) "__get__" = pure (some (.builtin gid))) (hxC : x ≠ C) (hn : (name == ("__class__" : Str)) = false)
    (hg : ∀ (A : Around) (Q : Value → Shared → Prop) (E : Value → Shared → Prop), Q (.ref h.objs.size) ⟨h.push ob, g, d, t + 1, os⟩ → wpAny (model prog w) A (call (.builtin gid) [.builtin id, .ref x, .ref C]) Q E ⟨h, g, d, t + 1, os⟩)
    (hq : Q (.ref h.objs.size, []) ⟨h.push ob, g, d, t + 1, os⟩) :
    wpAny (model prog w) A (getMethod (.ref so) name pl) Q E ⟨h, g, d, t, os⟩ := by
  have hlk' := PySem.F.ks_slot_super_ga.lookup
  have hcan := PySem.F.ks_canon_super_ga
  have hT : ∀ t', (⟨h, g, d, t', os⟩ : Shared).TypeIs (.ref so) "super" := fun _ => ⟨_, hso, rfl⟩
  unfold getMethod
  refine wpAny_bind (wpAny_specialOf (hT _) hlk' ?_)
  show wpAny _ _ (if (Manifest.canonical "super.__getattribute__" != "object.__getattribute__") = true then _ else _) _ _ _
  rw [if_pos hcan]
  unfold getAttr getAttrBy
  refine wpAny_bind (wpAny_bind (wpAny_mkText (wpAny_holding (wpAny_bind (wpAny_typeOf (hT _) (wpAny_bind (wpAny_of_eq hlk' ?_)))))))
  show wpAny _ _ (getAttrByItsOwn (.ref so) (.str name t) (.type "super") (.builtin "super.__getattribute__") true false) _ _ _
  unfold getAttrByItsOwn hookBefore callGetattribute boundAndCalled
  refine wpAny_bind (wpAny_of_eq (show (if onTheHeap (.type "super") then typeLookup (.type "super") "__getattr__" else pure none) = pure none from rfl) ?_)
  refine wpAny_bind (wpAny_attempt (wpAny_holding ?_))
  show wpAny _ _ (bindSpecial (.builtin "super.__getattribute__") (.ref so) >>= _) _ _ _
  refine wpAny_bind (wpAny_of_eq (PySem.F.ks_slot_super_ga.bind _) ?_)
  refine wpAny_mono (Q := fun v s' => v = .ref h.objs.size ∧ s' = ⟨h.push ob, g, d, t + 1, os⟩) (E := fun _ _ => False)
    (wpAny_call_entry PySem.F.ks_slot_super_ga (hT _) PySem.F.ks_entry_super_ga (sup_ga hso hno hC hl X hf hty hlk hxC hn hg ⟨_, rfl, rfl, rfl⟩) (PySem.F.ks_gaArgs_super _ _)) (fun v s' hv => ?_) fun _ _ z => z.elim
  obtain ⟨rfl, rfl⟩ := hv
  exact wpAny_pure (wpAny_pure hq)

theorem wrap_keeps {q x : Addr} {c id : String} (hc : c = "method-wrapper" ∨ c = "builtin_function_or_method") (h : Heap) (X : h.get? q = some (wrapObj c id x)) : ∃ k, (k = Keeper.frame ∨ k = Keeper.machine ∨ k = Keeper.boundFrame) ∧ Looks (model prog w) h (keeperOf (.ref q)) k := by
  refine ⟨.machine, .inr (.inl rfl), ?_⟩
  rcases hc with rfl | rfl
  · exact (Looks.ld (part := none) X).andThen .now
  · exact (Looks.ld (part := none) X).andThen .now
end

end
-- B12
section
open Builtin Builtin.ObjectAttr Builtin.Getset_descriptor
section
variable {prog : Program} {w : World} {A : Around} {E : Value → Shared → Prop} {s : Shared}
theorem wrap_call_len {q x : Addr} {n : Nat} {vs : Array Value} {ox : Obj} {Q : Value → Shared → Prop} (hq : s.heap.get? q = some (wrapObj "method-wrapper" "list.__len__" x)) (hx : s.heap.get? x = some ox) (hd : ox.data = .seq vs n) (hc : ox.cls = .ref 269)
    (h : Q (.int vs.size s.toks) { s with toks := s.toks + 1 }) : wpAny (model prog w) A (call (.ref q) []) Q E s := by
  refine wpAny_call (codeAny_of_tree ?_)
  show wpAny _ A.in1 (callAny (.ref q) _) _ _ _
  unfold callAny
  refine wpAny_bind (wpAny_load hq ?_)
  refine wpAny_bind (m := checkBoundCall "list.__len__" ⟨[.ref x], []⟩) (wpAny_of_eq (a := ()) (by kernel_rfl) ?_)
  refine wpAny_pure (a := Fin.again (.builtin "list.__len__" ⟨[.ref x], []⟩)) ⟨Code.quiet_builtin _ (by decide +kernel), ?_⟩
  refine codeAny_builtin entry_list_len ?_
  show wpAny _ _ (do retInt (← seqSize x)) _ _ s
  unfold seqSize
  refine wpAny_bind (wpAny_bind (wpAny_load hx ?_))
  rw [hd]
  exact wpAny_pure (wpAny_bind (wpAny_mkInt (wpAny_pure h)))
theorem wrap_call_init {q x : Addr} {n : Nat} {ox : Obj} {Q : Value → Shared → Prop} (hq : s.heap.get? q = some (wrapObj "method-wrapper" "list.__init__" x)) (hx : s.heap.get? x = some ox) (hd : ox.data = .seq #[] n) (hc : ox.cls = .ref 269)
    (h : ∀ h', (∃ n', h'.get? x = some { ox with data := .seq #[] n' }) → Heap.SameBut x s.heap h' → Q .none { s with heap := h' }) : wpAny (model prog w) A (call (.ref q) []) Q E s := by
  refine wpAny_call (codeAny_of_tree ?_)
  show wpAny _ A.in1 (callAny (.ref q) _) _ _ _
  unfold callAny
  refine wpAny_bind (wpAny_load hq ?_)
  refine wpAny_bind (m := checkBoundCall "list.__init__" ⟨[.ref x], []⟩) (wpAny_of_eq (a := ()) (by kernel_rfl) ?_)
  refine wpAny_pure (a := Fin.again (.builtin "list.__init__" ⟨[.ref x], []⟩)) ⟨Code.quiet_builtin _ (by decide +kernel), ?_⟩
  refine codeAny_builtin PySem.F.entry_list_init ?_
  show wpAny _ _ (Builtin.List.listItems (.ref x) >>= fun old => Builtin.List.listUpdate (.ref x) (fun _ => #[]) >>= fun _ => letGo old.toList.reverse >>= fun _ => ret .none) _ _ s
  refine wpAny_bind (wpAny_listItems hx hd (wpAny_bind (m := updateSeq x (fun _ => #[])) ?_))
  refine wpAny_updateSeq hx hd ?_
  refine wpAny_bind (wpAny_letGo (wpAny_pure (h _ ?_ (Heap.SameBut.update ..))))
  obtain ⟨oc, od, oda, osl⟩ := ox
  dsimp only at hd
  subst hd
  exact ⟨_, Heap.get?_update_self _ hx rfl⟩
noncomputable def popSig : Manifest.Signature := { machinery := .positional, full := "list.pop", short := "pop", receiver := .self, params := [{ name := "index", kind := .posOnly, required := false }] }
theorem pop_row : Manifest.signature? "list.pop" = some popSig := by kernel_rfl
theorem pop_args (x : Addr) : Bind.checkArgs "list.pop" { popSig with full := s!"{("_Accumulator" : Str).toString}.{Bind.lastOf "list.pop"}" } ⟨[.ref x], []⟩ = pure () := by kernel_rfl
theorem pop_kind : builtinKind "list.pop" = some .method := by decide +kernel
theorem pop_var : Manifest.varargsMethods.contains "list.pop" = false := by decide +kernel
theorem acc_cls {h : Heap} (X : (hd.heap_1 w.params).In h) : ∃ od cd sl, h.get? 269 = some ⟨.type "type", od, .cls cd, sl⟩ ∧ cd.qualname = "_Accumulator" ∧ cd.mro = [.ref 269, .type "list", .type "object"] := by
  refine ⟨_, _, _, X 269 _ (by k_is), rfl, rfl⟩

theorem pop_bound {x : Addr} {ox : Obj} {h : Heap} {g : Array GenState} {d : Drawn} {tk : Nat} {os : OsState} {Q : Unit → Shared → Prop} (X : (hd.heap_1 w.params).In h) (hx : h.get? x = some ox) (hc : ox.cls = .ref 269) (hnc : ∀ c, ox.data ≠ .cls c) (h' : Q () ⟨h, g, d, tk, os⟩) :
    wpAny (model prog w) A (checkBoundCall "list.pop" ⟨[.ref x], []⟩) Q E ⟨h, g, d, tk, os⟩ := by
  obtain ⟨od, cd, sl, hC, hq, hm⟩ := acc_cls (w := w) X
  have hT : Looks (model prog w) h (typeOf (.ref x)) (.ref 269) := by
    have := (Looks.ld (M := model prog w) (part := none) hx)
    exact hc ▸ this.andThen .now
  have hS : Looks (model prog w) h (isSubtype (.ref 269) (.type "module")) false := looks_mroIn X (by k_is)
  have hargs := pop_args x
  unfold checkBoundCall
  rw [pop_row]
  dsimp only
  rw [pop_kind]
  dsimp only
  rw [if_neg (by decide)]
  unfold isInstance
  refine wpAny_bind (wpAny_bind (Looks.at hT ?_))
  refine Looks.at hS ?_
  rw [pop_var, Bool.false_or, if_neg Bool.false_ne_true]
  refine wpAny_bind (PySem.ks_wpAny_isType_inst hx hnc ?_)
  rw [if_neg Bool.false_ne_true]
  refine wpAny_bind (Looks.at hT ?_)
  dsimp only
  unfold classData
  repeat (first | (with_reducible refine wpAny_loadPart_at hC ?_) | (with_reducible refine wpAny_load hC ?_) | (rw [hq, hargs]) | wp_step)
  exact h'
theorem wrap_call_pop {q x : Addr} {n : Nat} {vs : List Value} {v : Value} {dx : Addr} {Q : Value → Shared → Prop} (X : (hd.heap_1 w.params).In s.heap) (hq : s.heap.get? q = some (wrapObj "builtin_function_or_method" "list.pop" x)) (hx : s.heap.get? x = some (lstInst 269 dx (vs ++ [v]) n)) (hz : vs.length ≤ 1000000)
    (h : ∀ h', (∃ n', h'.get? x = some (lstInst 269 dx vs n')) → Heap.SameBut x s.heap h' → Q v { s with heap := h' }) : wpAny (model prog w) A (call (.ref q) []) Q E s := by
  obtain ⟨hh, g, d, tk, os⟩ := s
  refine wpAny_call (codeAny_of_tree ?_)
  show wpAny _ A.in1 (callAny (.ref q) _) _ _ _
  unfold callAny
  refine wpAny_bind (wpAny_load hq ?_)
  refine wpAny_bind (m := checkBoundCall "list.pop" ⟨[.ref x], []⟩) (pop_bound X hx rfl (by intro c e; cases e) ?_)
  refine wpAny_pure (a := Fin.again (.builtin "list.pop" ⟨[.ref x], []⟩)) ⟨Code.quiet_builtin _ (by decide +kernel), ?_⟩
  refine codeAny_builtin PySem.F.entry_list_pop ?_
  unfold Builtin.«list.pop»
  have e1 : (vs ++ [v]).toArray.isEmpty = false := by simp
  have e2 : ((seqIndex? (-1) (vs ++ [v]).toArray.size).bind fun k => (vs ++ [v]).toArray[k]?.map (k, ·)) = some (vs.length, v) := by
    rw [PySem.seqIndex_neg (by decide) (by simp; walk_at "o")]
    have : ((-1 : Int) + ((vs ++ [v]).toArray.size : Nat)).toNat = vs.length := by simp; walk_at "o"
    rw [this]
    simp
  have e3 : (vs ++ [v]).toArray.eraseIdxIfInBounds vs.length = vs.toArray := by
    rw [Array.eraseIdxIfInBounds, dif_pos (by simp)]
    apply Array.ext'
    simp [List.eraseIdx_append_of_length_le]
  have e4 : vs.length ≠ vs.length + 1 := by walk_at "o"
  refine wpAny_bind (m := Builtin.List.listItems (.ref x)) (wpAny_listItems hx rfl ?_)
  rw [if_neg (by rw [e1]; decide)]
  rw [e2]
  refine wpAny_bind (m := updateSeq x (·.eraseIdxIfInBounds vs.length)) (wpAny_updateSeq hx rfl (hz := by simp; unfold sizeLine; walk_at "o") (_hz' := by show ((vs ++ [v]).toArray.eraseIdxIfInBounds vs.length).size ≤ _; rw [e3]; simp; unfold sizeLine; walk_at "o") ?_)
  refine wpAny_pure (h _ ⟨n + 1, ?_⟩ (Heap.SameBut.update ..))
  rw [Heap.get?_update_self _ hx rfl]
  simp [Obj.mapSeq, e3, e4]
end

end
-- B13
/-- what the super() form asks of the text as a whole -/
class PrOk (prog : Program) : Prop where
  file : ((prog.main.file : Str) == ("/claim/cut.py" : Str)) = true
  top : (prog.main.scope.names.lookup ("super" : Str)).isSome = false

abbrev supO (x : Addr) : Obj := { cls := .type "super", dict := none, data := .fields #[.ref 269, .ref x, .ref 269], slots := #[] }
section
variable {prog : Program} [PrOk prog] {w : World} {A : Around} {E : Value → Shared → Prop} {s : Shared} {g : Heap} {γ₀ : Array GenState} {L L' : List Ent} {env : Env}
theorem super_att {f cda Lf x dx : Addr} {vs : List Value} {body : List Stmt} {p0 p1 : Pos} {attr : Str} {whole : Sem Value} {fd : FuncData} {ar : Arg} {cs : Array Value} {tf : Tok} {ccl : Value} {cdd : Option Addr} {ccs : Array (Option Value)} {bs : Bs} {Q : Value → Shared → Prop}
    (H : St w g γ₀ s.heap s.gens ((Lf, FrO bs) :: L)) (hx : ∃ o, s.heap.get? x = some o ∧ AccO dx vs o)
    (F : FnIs hd.heap_1 f fd) (hfu : env.func = some f) (hp : (fd.params.posonlyargs ++ fd.params.args).head? = some ar) (hv : bs.lookup ar.arg = some (.ref x)) (hlo : env.locals = Lf)
    (hco : env.code = .ref cda) (hcode : (hd.heap_1 w.params).lookup cda = some ⟨ccl, cdd, .fields cs, ccs⟩) (hcs : cs[2]? = some (.str "/claim/cut.py" tf))
    (hat : (attr == ("__class__" : Str)) = false) (hks : env.kindOf "super" = some .globalImplicit) (hkc : env.kindOf "__class__" = some .free) (hka : env.kindOf ar.arg = some .local) (hk : env.scope.kind = .function) (hg : env.globals = mainGlobals) (hbi : env.builtins = builtinsNs) (hcl : env.cells.lookup ("__class__" : Str) = some 193)
    (h : ∀ so h', St w g γ₀ h' s.gens ((Lf, FrO bs) :: (so, RawO (supO x)) :: L) → Q (.ref so) { s with heap := h' }) :
    _root_.PySem.wpAt (model prog w) A (.func body env) (attributeBase (.Call (.Name "super" p0) [] [] p1) attr env whole) Q E s := by
  have X := H.inK
  obtain ⟨od, cd, sl, hC, _, hm⟩ := acc_cls (w := w) X
  have hcell : (hd.heap_1 w.params).lookup 193 = some ⟨.type "cell", none, .cell (some (.ref 269)), #[]⟩ := by k_is
  have e : nsIn (hd.heap_1 w.params) mainGlobals "super" = some none := by k_is
  refine PySem.ks_wpAt_super_base hks hkc hat hfu (X _ _ (F _)) rfl hp hco (X _ _ hcode) rfl hcs (PrOk.file (prog := prog)) (PrOk.top (prog := prog)) ?_
  refine ks_loadName_global hk hks ?_
  unfold loadGlobal
  rw [hg]
  refine wpAny_bind ((looks_nsIn X e).here ?_)
  obtain ⟨mb, n, hmb⟩ := H.cx.b
  dsimp only
  rw [hbi]
  refine wpAny_bind (wpAny_nsGet (n.keeps H.keep) ?_)
  rw [hmb _ (by decide), show bootBuiltins "super" = some (.type "super") by decide +kernel]
  refine wpAny_pure ⟨rfl, ?_⟩
  refine wpAny_loadName_free hk hkc hcl ⟨_, X _ _ hcell, rfl⟩ ?_
  refine load_local H hv ?_ hlo hk hka
  obtain ⟨hh, gg, d, t, os⟩ := s
  obtain ⟨ox, hxo, n, rfl⟩ := hx
  refine PySem.ks_wpAny_isType_cls hC rfl ⟨rfl, ?_⟩
  refine PySem.ks_wpAny_call_super hC rfl hxo rfl (fun c e => by cases e) (looks_mroIn X (by k_is)) (fun h' e k => ?_)
  exact h _ _ ((H.new (P := RawO (supO x)) k (Nat.le_refl _) ⟨_, e, rfl⟩).perm (.swap _ _ _))

theorem super_go {Lf so x dx : Addr} {vs : List Value} {bs : Bs} {attr : Str} {id T gid c : String} {pos : Pos} {pl : Sem Bool} {Q : Value → Shared → Prop}
    (H : St w g γ₀ s.heap s.gens ((Lf, FrO bs) :: (so, RawO (supO x)) :: L)) (hx : ∃ o, s.heap.get? x = some o ∧ AccO dx vs o) (hc : c = "method-wrapper" ∨ c = "builtin_function_or_method")
    (hf : alongIn (hd.heap_1 w.params) attr [.type "list", .type "object"] = some (some (.builtin id))) (hty : typeOf (.builtin id) = pure (.type T)) (hlk : typeLookup (.type T) "__get__" = pure (some (.builtin gid))) (hn : (attr == ("__class__" : Str)) = false)
    (hget : ∀ {A : Around} {E : Value → Shared → Prop} {h : Heap} {g : Array GenState} {d : Drawn} {t : Nat} {os : OsState} {ox : Obj} {Q : Value → Shared → Prop}, h.get? x = some ox → ox.cls = .ref 269 → Looks (model prog w) h (isSubtype (.ref 269) (.type "list")) true →
      Q (.ref h.objs.size) ⟨h.push (wrapObj c id x), g, d, t, os⟩ → wpAny (model prog w) A (call (.builtin gid) [.builtin id, .ref x, .ref 269]) Q E ⟨h, g, d, t, os⟩)
    (h : ∀ q h' tk', s.toks ≤ tk' → St w g γ₀ h' s.gens ((Lf, FrO bs) :: (q, RawO (wrapObj c id x)) :: L) → (∀ b o, s.heap.get? b = some o → h'.get? b = some o) → wpAny (model prog w) A (call (.ref q) []) Q E { s with heap := h', toks := tk' }) :
    wpAny (model prog w) A (getMethod (.ref so) attr pl) (fun fx s₂ => wpAny (model prog w) A (callWith pos fx.1 fx.2 (backTo pos (starEach [] env)) []) Q E s₂) E s := by
  have X := H.inK
  obtain ⟨hh, gg, d, t, os⟩ := s
  obtain ⟨ox, hxo, n, rfl⟩ := hx
  obtain ⟨od, cd, sl, hC, _, hm⟩ := acc_cls (w := w) X
  obtain ⟨os', e', rfl⟩ := H.of (a := so) (P := RawO (supO x)) (.tail _ (.head _))
  have hxC : x ≠ 269 := by rintro rfl; rw [hxo] at hC; cases hC
  have hC' : Looks (model prog w) hh (mroOf (.ref 269)) [.ref 269, .type "list", .type "object"] := by
    obtain ⟨cd', hc', hm'⟩ : ∃ cd', clsIn (hd.heap_1 w.params) 269 = some cd' ∧ cd'.mro = [.ref 269, .type "list", .type "object"] := ⟨_, by k_is, rfl⟩
    rw [← hm']
    exact (looks_clsIn X hc').andThen .now
  refine sup_method (K := hd.heap_1 w.params) e' (looks_opaque X (by k_is)) hC' rfl X hf hty hlk hxC hn (fun A Q E hq => hget hxo rfl (looks_mroIn X (by k_is)) hq) ?_
  have H' := H.push (wrapObj c id x) rfl (P := RawO (wrapObj c id x)) rfl
  refine callWith_of rfl (wrap_keeps hc) (evalArgs_nil3 ⟨Heap.get?_push_size _ rfl, ?_⟩)
  exact h _ _ _ (Nat.le_succ _) ((H'.pull (.tail (.tail .head))).tail.perm (.swap _ _ _)) fun b o e => Heap.get?_push_of_some _ e
end

-- B14
open Builtin Builtin.ObjectAttr Builtin.Getset_descriptor
/-- frozen or owned -/
noncomputable def InH (g : Heap) (L : List Ent) (a : Addr) (P : OP) : Prop := (∃ o, g.get? a = some o ∧ P o) ∨ (a, P) ∈ L
theorem InH.le {g g' : Heap} {L : List Ent} {a : Addr} {P : OP} (x : InH g L a P) (h : Le g g') : InH g' L a P := x.imp (fun ⟨o, e, p⟩ => ⟨o, h _ _ e, p⟩) id
theorem InH.cons {g : Heap} {L : List Ent} {a : Addr} {P : OP} (x : InH g L a P) (y : Ent) : InH g (y :: L) a P := x.imp id (.tail _)
theorem InH.sub {g : Heap} {L L' : List Ent} {a : Addr} {P : OP} (x : InH g L a P) (h : ∀ y ∈ L, y ∈ L') : InH g L' a P := x.imp id (h _)
section
variable {prog : Program} {w : World} {A : Around} {E : Value → Shared → Prop} {s : Shared} {g h : Heap} {γ₀ γ : Array GenState} {L L' : List Ent} {env : Env}
theorem St.at {a : Addr} {P : OP} (H : St w g γ₀ h γ L) (x : InH g L a P) : ∃ o, h.get? a = some o ∧ P o := x.elim (fun ⟨o, e, p⟩ => ⟨o, H.keep _ _ e, p⟩) H.of

theorem call_fnAt {f : Addr} {body : List Stmt} {args : List Value} {kw : List (Str × Value)} {Q : Value → Shared → Prop} {bs : List (Str × Value)}
    (F : {fd // FnOk hd.heap_1 f fd}) (H : St w g γ₀ s.heap s.gens L) (hroom : A.depth < recursionLimit) (hbody : F.1.body = .stmts body)
    (hbind : BindsTo s F.1 ⟨args, kw⟩ bs) (hcell : ∀ x ∈ F.1.scope.names, x.2 ≠ .cell) (hloc : ∀ x ∈ bs, F.1.scope.names.lookup x.1 = some .local) (hbs : ∀ p ∈ bs, bs.reverse.lookup p.1 = some p.2)
    (hco : F.1.scope.isCoroutine = false) (hgen : F.1.scope.isGenerator = false) (hk : F.1.scope.kind = .function)
    (h : ∀ Lf h₁ tk, s.toks ≤ tk → St w g γ₀ h₁ s.gens ((Lf, FrO bs) :: L) →
      _root_.PySem.wpAt (model prog w) (A.deeper (callEnv F.1 Lf f)) (.func body (callEnv F.1 Lf f)) (execs body (callEnv F.1 Lf f)) (fun fl s' => Q (match fl with | .ret v => v | _ => .none) s') (fun _ _ => False) { s with heap := h₁, toks := tk }) :
    wpAny (model prog w) A (call (.ref f) args kw) Q E s := by
  have Xs := H.cx.X.keeps H.keep
  refine wpAny_call (PySem.ks_codeAny_call_defAt (fd := F.1) (body := body) (binds := bs) hroom (Xs _ _ (F.2.1 _)) rfl (H.cx.N.keeps H.keep) (codeRec_of Xs (F.2.2 _)) hbody hbind hcell hloc (fun h₁ hns hk₁ => ?_) hco hgen hk)
  have H' : St w g γ₀ h₁ s.gens ((s.heap.objs.size, FrO bs) :: L) := (H.new (P := FrO bs.reverse) hk₁ (Nat.le_refl _) (of_ns hns fun _ _ q => q)).weak fun o => FrO.sub hbs
  exact PySem.ks_wpAt_mono (h _ _ _ (Nat.le_add_right _ _) H') (fun fl s' hq => hq) fun _ _ z => z.elim
end
section
variable {prog : Program} {w : World} {A : Around} {s : Shared} {g : Heap} {γ₀ : Array GenState} {L : List Ent}
theorem code_fnAt {f : Addr} {body : List Stmt} {args : List Value} {kw : List (Str × Value)} {R : Result → Shared → Prop} {bs : List (Str × Value)}
    (F : {fd // FnOk hd.heap_1 f fd}) (H : St w g γ₀ s.heap s.gens L) (hroom : A.depth < recursionLimit) (hbody : F.1.body = .stmts body)
    (hbind : BindsTo s F.1 ⟨args, kw⟩ bs) (hcell : ∀ x ∈ F.1.scope.names, x.2 ≠ .cell) (hloc : ∀ x ∈ bs, F.1.scope.names.lookup x.1 = some .local) (hbs : ∀ p ∈ bs, bs.reverse.lookup p.1 = some p.2)
    (hco : F.1.scope.isCoroutine = false) (hgen : F.1.scope.isGenerator = false) (hk : F.1.scope.kind = .function)
    (h : ∀ Lf h₁ tk, s.toks ≤ tk → St w g γ₀ h₁ s.gens ((Lf, FrO bs) :: L) →
      _root_.PySem.wpAt (model prog w) (A.deeper (callEnv F.1 Lf f)) (.func body (callEnv F.1 Lf f)) (execs body (callEnv F.1 Lf f)) (fun fl s' => R (.ok (.ret (match fl with | .ret v => v | _ => .none))) s') (fun _ _ => False) { s with heap := h₁, toks := tk }) :
    codeAny (model prog w) A (.call (.ref f) ⟨args, kw⟩) R s := by
  have Xs := H.cx.X.keeps H.keep
  refine PySem.ks_codeAny_call_defAt (fd := F.1) (body := body) (binds := bs) hroom (Xs _ _ (F.2.1 _)) rfl (H.cx.N.keeps H.keep) (codeRec_of Xs (F.2.2 _)) hbody hbind hcell hloc (fun h₁ hns hk₁ => ?_) hco hgen hk
  have H' : St w g γ₀ h₁ s.gens ((s.heap.objs.size, FrO bs) :: L) := (H.new (P := FrO bs.reverse) hk₁ (Nat.le_refl _) (of_ns hns fun _ _ q => q)).weak fun o => FrO.sub hbs
  exact PySem.ks_wpAt_mono (h _ _ _ (Nat.le_add_right _ _) H') (fun fl s' hq => hq) fun _ _ z => z.elim
theorem code_fn {f : Addr} {body : List Stmt} {args : List Value} {kw : List (Str × Value)} {R : Result → Shared → Prop} {bs : List (Str × Value)}
    (F : {fd // FnOk hd.heap_1 f fd}) (H : St w g γ₀ s.heap s.gens L) (hroom : A.depth < recursionLimit) (hbody : F.1.body = .stmts body)
    (hbind : BindsTo s F.1 ⟨args, kw⟩ bs) (hcell : ∀ x ∈ F.1.scope.names, x.2 ≠ .cell) (hloc : ∀ x ∈ bs, F.1.scope.names.lookup x.1 = some .local) (hbs : ∀ p ∈ bs, bs.reverse.lookup p.1 = some p.2)
    (hco : F.1.scope.isCoroutine = false) (hgen : F.1.scope.isGenerator = false) (hk : F.1.scope.kind = .function)
    (h : ∀ Lf h₁ tk, s.toks ≤ tk → St w g γ₀ h₁ s.gens ((Lf, FrO bs) :: L) →
      wpAny (model prog w) (A.deeper (callEnv F.1 Lf f)) (execs body (callEnv F.1 Lf f)) (fun fl s' => R (.ok (.ret (match fl with | .ret v => v | _ => .none))) s') (fun _ _ => False) { s with heap := h₁, toks := tk }) :
    codeAny (model prog w) A (.call (.ref f) ⟨args, kw⟩) R s :=
  code_fnAt F H hroom hbody hbind hcell hloc hbs hco hgen hk fun Lf h₁ tk htk H' => wpAt_of_wpAny (h Lf h₁ tk htk H')
end
local macro_rules | `(tactic| walk_at "mine inh") => `(tactic| first | with_reducible assumption | exact Or.inr (by walk_at "mine mem") | exact InH.cons (by with_reducible assumption) _ | exact InH.cons (InH.cons (by with_reducible assumption) _) _ | exact InH.cons (InH.cons (InH.cons (by with_reducible assumption) _) _) _)
/-- the parts that a row holds -/
noncomputable def PartOf (g : Heap) (v : Value) (p : Str × Str) : Prop := ∃ t ta tb, v = .ref t ∧ TupAt g t [.str p.1 ta, .str p.2 tb]
inductive Parts (g : Heap) : List Value → List (Str × Str) → Prop
  | nil : Parts g [] []
  | cons {v p vs ps} : PartOf g v p → Parts g vs ps → Parts g (v :: vs) (p :: ps)
theorem PartOf.le {g g' : Heap} {v : Value} {p : Str × Str} (x : PartOf g v p) (h : Le g g') : PartOf g' v p := let ⟨t, ta, tb, e, y⟩ := x; ⟨t, ta, tb, e, y.le h⟩
theorem Parts.le {g g' : Heap} {vs : List Value} {ps : List (Str × Str)} (x : Parts g vs ps) (h : Le g g') : Parts g' vs ps := by
  induction x with
  | nil => exact .nil
  | cons p _ ih => exact .cons (p.le h) ih
theorem Parts.len {g : Heap} {vs : List Value} {ps : List (Str × Str)} (x : Parts g vs ps) : vs.length = ps.length := by
  induction x with
  | nil => rfl
  | cons p _ ih => rw [List.length_cons, List.length_cons, ih]
theorem Parts.snoc {g : Heap} {vs : List Value} {ps : List (Str × Str)} {v : Value} {p : Str × Str} (x : Parts g vs ps) (y : PartOf g v p) : Parts g (vs ++ [v]) (ps ++ [p]) := by
  induction x with
  | nil => exact .cons y .nil
  | cons p _ ih => exact .cons p ih
theorem Parts.unsnoc {g : Heap} : ∀ {vs : List Value} {ps : List (Str × Str)} {p : Str × Str}, Parts g vs (ps ++ [p]) → ∃ vs' v, vs = vs' ++ [v] ∧ Parts g vs' ps ∧ PartOf g v p := by
  intro vs ps
  induction ps generalizing vs with
  | nil =>
    intro p x
    cases x with
    | cons y z => cases z; exact ⟨[], _, rfl, .nil, y⟩
  | cons q r ih =>
    intro p x
    cases x with
    | cons y z =>
      obtain ⟨vs', v, rfl, a, b⟩ := ih z
      exact ⟨_ :: vs', v, rfl, .cons y a, b⟩
theorem Parts.get {g : Heap} {vs : List Value} {ps : List (Str × Str)} (x : Parts g vs ps) : ∀ (i : Nat) (p : Str × Str), ps[i]? = some p → ∃ v, vs[i]? = some v ∧ PartOf g v p := by
  induction x with
  | nil => intro i p e; simp at e
  | cons y _ ih =>
    intro i p e
    cases i with
    | zero => simp at e; exact ⟨_, rfl, e ▸ y⟩
    | succ i => simp at e; obtain ⟨v, a, b⟩ := ih i p e; exact ⟨v, by simpa using a, b⟩
theorem Parts.drop {g : Heap} {vs : List Value} {ps : List (Str × Str)} (x : Parts g vs ps) : ∀ (i : Nat), Parts g (vs.drop i) (ps.drop i) := by
  induction x with
  | nil => intro i; simp; exact .nil
  | cons y z ih =>
    intro i
    cases i with
    | zero => exact .cons y z
    | succ i => exact ih i
theorem Parts.take {g : Heap} {vs : List Value} {ps : List (Str × Str)} (x : Parts g vs ps) : ∀ (i : Nat), Parts g (vs.take i) (ps.take i) := by
  induction x with
  | nil => intro i; simp; exact .nil
  | cons y z ih =>
    intro i
    cases i with
    | zero => exact .nil
    | succ i => exact .cons y (ih i)
theorem along_len (K : Frag) : alongIn K "__len__" [.type "list", .type "object"] = some (some (.builtin "list.__len__")) := by kernel_rfl
theorem along_init (K : Frag) : alongIn K "__init__" [.type "list", .type "object"] = some (some (.builtin "list.__init__")) := by kernel_rfl
theorem along_pop (K : Frag) : alongIn K "pop" [.type "list", .type "object"] = some (some (.builtin "list.pop")) := by kernel_rfl
local macro_rules | `(tactic| walk_at "mine super") => `(tactic| (
  case s_fu => exact rfl
  case s_p => exact rfl
  case s_v => exact rfl
  case s_lo => exact rfl
  case s_co => exact rfl
  case s_cc => k_is
  case s_cs => exact rfl
  case s_atr => decide
  case s_ks => exact rfl
  case s_kc => exact rfl
  case s_ka => exact rfl
  case s_k => exact rfl
  case s_g => exact rfl
  case s_bi => exact rfl
  case s_cl => exact rfl))

/-- the instance's names put in order again -/
noncomputable def setB (x : Str) (v : Value) : Bs → Bs
  | [] => [(x, v)]
  | (y, u) :: r => if x == y then (x, v) :: r else (y, u) :: setB x v r
theorem setB_lookup (x : Str) (v : Value) : ∀ (bs : Bs) (y : Str), (setB x v bs).lookup y = ((x, v) :: bs).lookup y
  | [], y => rfl
  | (z, u) :: r, y => by
    unfold setB
    by_cases h : (x == z) = true
    · rw [if_pos h, List.lookup_cons, List.lookup_cons, List.lookup_cons]
      have : x = z := eq_of_beq h
      subst this
      cases (y == x) <;> rfl
    · rw [if_neg h, List.lookup_cons, setB_lookup x v r, List.lookup_cons, List.lookup_cons, List.lookup_cons]
      by_cases hz : (y == z) = true
      · have e : y = z := eq_of_beq hz
        subst e
        have : (y == x) = false := by
          cases q : y == x with
          | false => rfl
          | true => exact absurd (by rw [eq_of_beq q]; simp) h
        rw [this]
      · simp only [Bool.not_eq_true] at hz
        rw [hz]
theorem NsO.norm {bs bs' : Bs} {x : Str} {v : Value} {o : Obj} (h : NsO ((x, v) :: bs) o) (e : setB x v bs = bs') : NsO bs' o := by
  obtain ⟨es, ep, a, b, c, d⟩ := h
  exact ⟨es, ep, a, b, c, fun y => by rw [d y, ← e, setB_lookup]⟩
theorem st_inh {g : Heap} {L : List Ent} {a : Addr} {P : OP} (h : (a, P) ∈ L) : InH g L a P := .inr h
section
variable {prog : Program} {w : World} {A : Around} {E : Value → Shared → Prop} {s : Shared} {g : Heap} {γ₀ : Array GenState} {L L' : List Ent} {x dx : Addr} {vs : List Value} {bs : Bs} {name : Str} {v : Value} {cd : ClassData}
/-- attributes of a row and of a page -/
theorem get_acc {expr : Bool} {Q : Value → Shared → Prop} (H : St w g γ₀ s.heap s.gens L) (hx : InH g L x (AccO dx vs)) (hdx : InH g L dx (NsO bs)) (hv : bs.lookup name = some v) (hc : clsIn (hd.heap_1 w.params) 269 = some cd) (hh : cd.hasDict = true)
    (hga : findIn (hd.heap_1 w.params) (.ref 269) "__getattribute__" = some (some (.builtin "object.__getattribute__"))) (hn : findIn (hd.heap_1 w.params) (.ref 269) name = some none) (hi : handedIn v = true) (h : Q v { s with toks := s.toks + 1 }) : wpAny (model prog w) A (getAttr (.ref x) name expr) Q E s :=
  get_att H ins_acc (H.at hx) (H.at hdx) hv hga hc hh hn hi h
theorem get_pag {expr : Bool} {Q : Value → Shared → Prop} (H : St w g γ₀ s.heap s.gens L) (hx : InH g L x (PagO dx)) (hdx : InH g L dx (NsO bs)) (hv : bs.lookup name = some v) (hc : clsIn (hd.heap_1 w.params) 185 = some cd) (hh : cd.hasDict = true)
    (hga : findIn (hd.heap_1 w.params) (.ref 185) "__getattribute__" = some (some (.builtin "object.__getattribute__"))) (hn : findIn (hd.heap_1 w.params) (.ref 185) name = some none) (hi : handedIn v = true) (h : Q v { s with toks := s.toks + 1 }) : wpAny (model prog w) A (getAttr (.ref x) name expr) Q E s :=
  get_att H ins_pag (H.at hx) (H.at hdx) hv hga hc hh hn hi h
theorem set_acc {Q : Unit → Shared → Prop} (H : St w g γ₀ s.heap s.gens L) (hx : InH g L x (AccO dx vs)) (hp : Put dx (NsO bs) (NsO ((name, v) :: bs)) L L') (hc : clsIn (hd.heap_1 w.params) 269 = some cd) (hh : cd.hasDict = true) (hpass : ∀ self, refuseLoop self "__setattr__" cd.mro = pure ())
    (hobj : cd.mro.contains (.type "object") = true) (hmt : cd.mro.isEmpty = false) (hs : findIn (hd.heap_1 w.params) (.ref 269) "__setattr__" = some (some (.builtin "object.__setattr__"))) (ht : takerIn (hd.heap_1 w.params) 269 name = some none) (hsz : bs.length ≤ 100)
    (h : ∀ h' tk', s.toks ≤ tk' → St w g γ₀ h' s.gens L' → Q () { s with heap := h', toks := tk' }) : wpAny (model prog w) A (setAttr (.ref x) name v) Q E s :=
  set_att H ins_acc (H.at hx) hp hs hc hh hpass hobj hmt ht hsz h
theorem set_pag {Q : Unit → Shared → Prop} (H : St w g γ₀ s.heap s.gens L) (hx : InH g L x (PagO dx)) (hp : Put dx (NsO bs) (NsO ((name, v) :: bs)) L L') (hc : clsIn (hd.heap_1 w.params) 185 = some cd) (hh : cd.hasDict = true) (hpass : ∀ self, refuseLoop self "__setattr__" cd.mro = pure ())
    (hobj : cd.mro.contains (.type "object") = true) (hmt : cd.mro.isEmpty = false) (hs : findIn (hd.heap_1 w.params) (.ref 185) "__setattr__" = some (some (.builtin "object.__setattr__"))) (ht : takerIn (hd.heap_1 w.params) 185 name = some none) (hsz : bs.length ≤ 100)
    (h : ∀ h' tk', s.toks ≤ tk' → St w g γ₀ h' s.gens L' → Q () { s with heap := h', toks := tk' }) : wpAny (model prog w) A (setAttr (.ref x) name v) Q E s :=
  set_att H ins_pag (H.at hx) hp hs hc hh hpass hobj hmt ht hsz h
theorem meth_acc {f : Addr} {pl : Sem Bool} {Q : Value × List Value → Shared → Prop} (H : St w g γ₀ s.heap s.gens L) (hx : InH g L x (AccO dx vs)) (hdx : InH g L dx (NsO bs)) (hv : bs.lookup name = none)
    (hga : findIn (hd.heap_1 w.params) (.ref 269) "__getattribute__" = some (some (.builtin "object.__getattribute__"))) (hk : findIn (hd.heap_1 w.params) (.ref 269) "__getattr__" = some none) (hf : findIn (hd.heap_1 w.params) (.ref 269) name = some (some (.ref f)))
    (ht : typeIn (hd.heap_1 w.params) (.ref f) = some (.type "function")) (h : Q (.ref f, [.ref x]) s) : wpAny (model prog w) A (getMethod (.ref x) name pl) Q E s :=
  meth_att H ins_acc (H.at hx) (H.at hdx) hv hga hk hf ht h
theorem meth_pag {f : Addr} {pl : Sem Bool} {Q : Value × List Value → Shared → Prop} (H : St w g γ₀ s.heap s.gens L) (hx : InH g L x (PagO dx)) (hdx : InH g L dx (NsO bs)) (hv : bs.lookup name = none)
    (hga : findIn (hd.heap_1 w.params) (.ref 185) "__getattribute__" = some (some (.builtin "object.__getattribute__"))) (hk : findIn (hd.heap_1 w.params) (.ref 185) "__getattr__" = some none) (hf : findIn (hd.heap_1 w.params) (.ref 185) name = some (some (.ref f)))
    (ht : typeIn (hd.heap_1 w.params) (.ref f) = some (.type "function")) (h : Q (.ref f, [.ref x]) s) : wpAny (model prog w) A (getMethod (.ref x) name pl) Q E s :=
  meth_att H ins_pag (H.at hx) (H.at hdx) hv hga hk hf ht h
end
local macro_rules | `(tactic| walk_at "getAttr ref") => `(tactic| first
  | (k_dflt (refine' get_acc (by with_reducible assumption) (by walk_at "mine inh") (by walk_at "mine inh") (by exact rfl) (by k_is) (by exact rfl) (by k_is) (by k_is) (by exact rfl) ?_; k_whole))
  | (k_dflt (refine' get_pag (by with_reducible assumption) (by walk_at "mine inh") (by walk_at "mine inh") (by exact rfl) (by k_is) (by exact rfl) (by k_is) (by k_is) (by exact rfl) ?_; k_whole)))
local macro_rules | `(tactic| walk_at "setAttr ref") => `(tactic| first
  | (k_dflt (refine' set_acc (by with_reducible assumption) (by walk_at "mine inh") (by walk_at "mine put") (by k_is) (by exact rfl) (by intro self; (first | rfl | kernel_rfl)) (by decide) (by rfl) (by k_is) (by k_is) (by exact Nat.le_of_ble_eq_true rfl) ?_; k_whole; intro h' tk' htk' H'; (try dsimp only at H' htk')))
  | (k_dflt (refine' set_pag (by with_reducible assumption) (by walk_at "mine inh") (by walk_at "mine put") (by k_is) (by exact rfl) (by intro self; (first | rfl | kernel_rfl)) (by decide) (by rfl) (by k_is) (by k_is) (by exact Nat.le_of_ble_eq_true rfl) ?_; k_whole; intro h' tk' htk' H'; (try dsimp only at H' htk'))))
local macro_rules | `(tactic| walk_at "getMethod ref") => `(tactic| first
  | (k_dflt (refine' meth_acc (by with_reducible assumption) (by walk_at "mine inh") (by walk_at "mine inh") (by exact rfl) (by k_is) (by k_is) (by k_is) (by k_is) ?_; k_whole))
  | (k_dflt (refine' meth_pag (by with_reducible assumption) (by walk_at "mine inh") (by walk_at "mine inh") (by exact rfl) (by k_is) (by k_is) (by k_is) (by k_is) ?_; k_whole)))
local macro_rules | `(tactic| walk_at "mine enter") => `(tactic| (
  case hb => exact rfl
  case hbind => (first | exact BindsTo.of_eq rfl | exact BindsTo.of_defaults rfl ((St.inK (by assumption)) _ _ (by k_is)) rfl rfl rfl)
  case hcell => decide
  case hloc => exact locs rfl
  case hbs => walk_at "mine subs"
  case h1 => rfl
  case h2 => rfl
  case h3 => rfl))
local macro_rules | `(tactic| walk_at "execs nil") => `(tactic| refine wpAny_execs_nil ?_)

-- T12
section
variable {prog : Program} [PrOk prog] {w : World} {A : Around} {E : Value → Shared → Prop} {s : Shared} {g : Heap} {γ₀ : Array GenState} {L : List Ent}
theorem pc_s {x dx : Addr} {vs : List Value} {Q : Value → Shared → Prop} (H : St w g γ₀ s.heap s.gens L) (hA : Ok A 2 10) (hx : InH g L x (AccO dx vs))
    (hQ : ∀ (t : Nat) h' tk', s.toks ≤ tk' → St w g γ₀ h' s.gens L → Q (.int (vs.length : Nat) t) { s with heap := h', toks := tk' }) : wpAny (model prog w) A (call (.ref 266) [.ref x]) Q E s := by
  refine' call_fnAt (bs := [("self", .ref x)]) F266 H hA.room ?hb ?hbind ?hcell ?hloc ?hbs ?h1 ?h2 ?h3 ?_
  walk_at "mine enter"
  intro Lf h₁ tk htk H'
  refine PySem.ks_wpAt_execs_cons ?_
  refine PySem.ks_wpAt_Return_some ?_
  refine PySem.ks_wpAt_MethodCall ?_
  refine' super_att (dx := dx) (vs := vs) H' ?s_x F266.2.1 ?s_fu ?s_p ?s_v ?s_lo ?s_co ?s_cc ?s_cs ?s_atr ?s_ks ?s_kc ?s_ka ?s_k ?s_g ?s_bi ?s_cl ?_
  case s_x => exact H'.at (hx.cons _)
  walk_at "mine super"
  intro so h2 H2
  refine super_go H2 (H2.at ((hx.cons _).cons _)) (.inl rfl) (along_len _) ty_len slot_wd_get.lookup (by decide) (fun a b c d => wd_get_len a b c d) ?_
  intro q h3 tk3 htk3 H3 _
  obtain ⟨ox, hxo, n, rfl⟩ := H3.at ((hx.cons _).cons _)
  obtain ⟨oq, hqo, rfl⟩ := H3.of (.tail _ (.head _))
  refine wrap_call_len hqo hxo rfl rfl ?_
  dsimp only
  rw [List.size_toArray]
  exact hQ _ _ _ (by dsimp only at htk3; walk_at "o") H3.tail.tail

theorem acc_new {k : Int} {tk0 : Nat} {Q : Value → Shared → Prop} (H : St w g γ₀ s.heap s.gens L) (hA : Ok A 4 40)
    (hQ : ∀ x dx h' tk', s.toks ≤ tk' → St w g γ₀ h' s.gens ((x, AccO dx []) :: (dx, NsO [("_initial_size", .int k tk0)]) :: L) → Q (.ref x) { s with heap := h', toks := tk' }) : wpAny (model prog w) A (call (.ref 269) [.int k tk0]) Q E s := by
  have X := H.inK
  obtain ⟨hh, gg, d, t, os⟩ := s
  refine wpAny_call (make_coreL (mk269 X) (looks_findIn X (by k_is)) (fun self => bind_fn X self (by k_is)) ?_)
  have H1 := ((H.push (P := NsO []) emptyDict rfl ⟨_, _, rfl, (by intro e he; simp at he), (by simp [UniqKeys]), fun x => rfl⟩).push (P := AccO hh.objs.size []) (lstInst 269 hh.objs.size [] 0) rfl ⟨_, rfl⟩)
  rw [Heap.size_push] at H1
  generalize hh.objs.size = dx at H1 ⊢
  generalize (hh.push emptyDict).push (lstInst 269 dx [] 0) = h₀ at H1 ⊢
  refine' code_fnAt (bs := [("self", .ref (dx + 1)), ("initial_size", .int k tk0)]) F206 H1 ?room ?hb ?hbind ?hcell ?hloc ?hbs ?h1 ?h2 ?h3 ?_
  case room => rw [depth_under_make]; exact hA.d |> fun h => by walk_at "o"
  walk_at "mine enter"
  intro Lf h₁ tk htk H'
  refine PySem.ks_wpAt_execs_cons (wpAt_of_wpAny ?_)
  walk_at "mine walk"
  dsimp only
  rename St _ _ _ _ _ _ => H2
  refine PySem.ks_wpAt_execs_cons ?_
  refine PySem.ks_wpAt_Expr_any ?_
  refine PySem.ks_wpAt_MethodCall ?_
  refine' super_att (dx := dx) (vs := []) H2 ?s_x F206.2.1 ?s_fu ?s_p ?s_v ?s_lo ?s_co ?s_cc ?s_cs ?s_atr ?s_ks ?s_kc ?s_ka ?s_k ?s_g ?s_bi ?s_cl ?_
  case s_x => exact H2.of (.tail _ (.head _))
  walk_at "mine super"
  intro so h2 H3
  refine super_go H3 (H3.of (.tail _ (.tail _ (.head _)))) (.inl rfl) (along_init _) ty_init slot_wd_get.lookup (by decide) (fun a b c d => wd_get_init a b c d) ?_
  intro q h3 tk3 htk3 H4 _
  obtain ⟨ox, hxo, n, rfl⟩ := H4.of (.tail _ (.tail _ (.head _)))
  obtain ⟨oq, hqo, rfl⟩ := H4.of (.tail _ (.head _))
  refine wrap_call_init hqo hxo rfl rfl fun h' hx' hsb => ?_
  have H5 := (H4.tail.tail).updSame (P' := AccO dx []) hsb (let ⟨n', e⟩ := hx'; ⟨_, e, n', rfl⟩)
  refine wpAt_of_wpAny ?_
  walk_at "mine walk"
  dsimp only
  refine ⟨rfl, ?_⟩
  have H6 := (H5.perm (.swap _ _ _)).weak (P' := NsO [("_initial_size", .int k tk0)]) fun o p => p
  refine hQ _ _ _ _ ?_ (H6.perm (.swap _ _ _))
  dsimp only at htk htk3
  dsimp only
  walk_at "o"
end

-- B15
theorem acc_clsIn (w : World) : ∃ cd, clsIn (hd.heap_1 w.params) 269 = some cd ∧ cd.mro = [.ref 269, .type "list", .type "object"] ∧ cd.hasDict = true := ⟨_, by k_is, rfl, rfl⟩
theorem acc_sub {w : World} {M : Model} {h : Heap} (X : (hd.heap_1 w.params).In h) (b : Value) : Looks M h (isSubtype (.ref 269) b) (([.ref 269, .type "list", .type "object"] : List Value).contains b) := by
  obtain ⟨cd, hc, hm, _⟩ := acc_clsIn w
  refine looks_mroIn X ?_
  unfold mroIn
  rw [hc, Option.bind_some, hm, if_neg (by decide)]
theorem anyM_false {α : Type} {M : Model} {A : Around} {E : Value → Shared → Prop} {s : Shared} {f : α → Sem Bool} {Q : Bool → Shared → Prop} : ∀ (l : List α), (∀ x ∈ l, ∀ Q' : Bool → Shared → Prop, Q' false s → wpAny M A (f x) Q' E s) → Q false s → wpAny M A (l.anyM f) Q E s
  | [], _, q => wpAny_pure q
  | x :: r, hf, q => by
    rw [List.anyM_cons]
    refine wpAny_bind (hf x (.head _) _ ?_)
    exact anyM_false r (fun y hy => hf y (.tail _ hy)) q
section
variable {prog : Program} {w : World} {A : Around} {E : Value → Shared → Prop} {s : Shared} {g : Heap} {γ₀ : Array GenState} {L L' : List Ent} {x dx : Addr} {vs : List Value}
theorem acc_type {h : Heap} {M : Model} (hx : ∃ o, h.get? x = some o ∧ AccO dx vs o) : Looks M h (typeOf (.ref x)) (.ref 269) := by
  obtain ⟨o, e, n, rfl⟩ := hx
  exact (Looks.ld e).andThen .now
theorem acc_seqKey {k : Value} {name : Str} {Q : Value → Shared → Prop} (X : (hd.heap_1 w.params).In s.heap) (hx : ∃ o, s.heap.get? x = some o ∧ AccO dx vs o) (h : Q k s) : wpAny (model prog w) A (sequenceKey (.ref x) k name) Q E s := by
  unfold sequenceKey
  refine wpAny_bind ((acc_type hx).here ?_)
  refine wpAny_bind (anyM_false _ (fun n hn Q' q' => (acc_sub X _).here ?_) ?_)
  · have : (([.ref 269, .type "list", .type "object"] : List Value).contains (.type n)) = false := by
      revert hn; revert n; decide +kernel
    rw [this]; exact q'
  · exact wpAny_pure h
theorem acc_special {name : Str} {id : String} {args : List Value} {Q : Option Value → Shared → Prop} (X : (hd.heap_1 w.params).In s.heap) (hx : ∃ o, s.heap.get? x = some o ∧ AccO dx vs o)
    (hs : findIn (hd.heap_1 w.params) (.ref 269) name = some (some (.builtin id))) (slot : Slot "list" name id) (h : wpAny (model prog w) A (call (.builtin id) (.ref x :: args)) (fun v => Q (some v)) E s) : wpAny (model prog w) A (callSpecial? (.ref x) name args) Q E s := by
  refine wpAny_bind (wpAny_bind ((acc_type hx).here ((looks_findIn X hs).here (wpAny_holding ?_))))
  rw [slot.bind]
  exact wpAny_bind (wpAny_pure (wpAny_bind (wpAny_mono h (fun _ _ z => wpAny_pure z) fun _ _ z => z)))
theorem acc_callB {id n : String} {B : Builtin} {rest : List Value} {Q : Value → Shared → Prop} (X : (hd.heap_1 w.params).In s.heap) (hx : ∃ o, s.heap.get? x = some o ∧ AccO dx vs o)
    (hp : plainId id = true) (he : entryFor table id = some B) (hk : builtinKind id = some .method ∨ builtinKind id = some .slot) (hs : splitId id = some ("list", n)) (ha : argsOk id ⟨.ref x :: rest, []⟩)
    (h : wpAny (model prog w) A.in1 (B ⟨.ref x :: rest, []⟩) (fun fin s' => ∃ v, fin = .done (.ret v) ∧ Q v s') (fun _ _ => False) s) : wpAny (model prog w) A (call (.builtin id) (.ref x :: rest)) Q E s := by
  refine wpAny_call (codeAny_call_builtin hp he ?_)
  have hi : Looks (model prog w) s.heap (isInstance (.ref x) (.type "list")) true := (acc_type hx).andThen (acc_sub X _)
  have h2 : wpAny (model prog w) A.in1 (B ⟨.ref x :: rest, []⟩) (fun fin s' => match fin with | .done f => (match Except.ok f with | .ok (.ret v) => Q v s' | .ok _ => False | .error e => E e s') | .again c' => c'.quiet = true ∧ codeAny (model prog w) A c' (fun r s' => match r with | .ok (.ret v) => Q v s' | .ok _ => False | .error e => E e s') s') (fun e s' => E e s') s :=
    wpAny_mono h (fun fin s' ⟨v, e, q⟩ => by subst e; exact q) fun _ _ z => z.elim
  rcases hk with hk | hk
  · simp only [checkBuiltinCall, hk, hs]
    refine wpAny_bind (hi.here ?_)
    simp only [Bool.not_true, Bool.false_eq_true, if_false]
    cases hsig : Manifest.signature? id with
    | none => exact wpAny_pure h2
    | some sig =>
      simp only [argsOk, hsig] at ha
      have h3 : Bind.checkArgs id sig ⟨.ref x :: rest, []⟩ = pure () := ha
      show wpAny (model prog w) A.in1 (Bind.checkArgs id sig ⟨.ref x :: rest, []⟩) _ _ s
      rw [h3]; exact wpAny_pure h2
  · simp only [checkBuiltinCall, hk, hs]
    refine wpAny_bind (hi.here ?_)
    simp only [Bool.not_true, Bool.false_eq_true, if_false]
    cases hsig : Manifest.signature? id with
    | none => exact wpAny_pure h2
    | some sig =>
      simp only [argsOk, hsig] at ha
      have h3 : Bind.checkArgs id sig ⟨.ref x :: rest, []⟩ = pure () := ha
      show wpAny (model prog w) A.in1 (Bind.checkArgs id sig ⟨.ref x :: rest, []⟩) _ _ s
      rw [h3]; exact wpAny_pure h2
end

-- B16
section
variable {prog : Program} {w : World} {A : Around} {E : Value → Shared → Prop} {s : Shared} {g : Heap} {γ₀ : Array GenState} {L L' : List Ent} {x dx : Addr} {vs : List Value}
theorem sl_sub {sl : Addr} {a b c : Value} {Q : Option Int → Shared → Prop} (hs : s.heap.IsSliceOf sl a b c) (h : Q none s) : wpAny (model prog w) A (Builtin.List.listSubscript? (.ref sl)) Q E s := by
  obtain ⟨os, hos, hcs, hds⟩ := hs
  unfold Builtin.List.listSubscript?
  refine wpAny_bind (wpAny_specialOf ⟨os, hos, hcs⟩ slice_no_index ?_)
  simp only [Option.isNone_none, if_true]
  exact wpAny_pure h
theorem sl_parts {sl : Addr} {vl vu vt : Value} {lo hi st : Option Int} {Q : Value × Value × Value → Shared → Prop} (hs : s.heap.IsSliceOf sl vl vu vt) (pl : IsPart vl lo) (pu : IsPart vu hi) (ps : IsPart vt st) (h0 : st ≠ some 0) (h : Q (rawPart lo, rawPart hi, rawPart st) s) :
    wpAny (model prog w) A (Builtin.List.listSliceParts (.ref sl)) Q E s := by
  obtain ⟨os, hos, hcs, hds⟩ := hs
  rw [listSliceParts_eq]
  have hstep : ¬ ((rawPart st == rawInt 0) = true) := by
    cases st with
    | none => exact Bool.false_ne_true
    | some c =>
      intro hh
      have : c = 0 := by simpa [rawPart, rawInt] using hh
      exact h0 (by rw [this])
  refine wpAny_bind (wpAny_field hos hds (x := vt) rfl (wpAny_bind (wpAny_listPart ps ?_)))
  rw [if_neg hstep]
  refine wpAny_bind (wpAny_field hos hds (x := vl) rfl (wpAny_bind (wpAny_listPart pl ?_)))
  exact wpAny_bind (wpAny_field hos hds (x := vu) rfl (wpAny_bind (wpAny_listPart pu (wpAny_pure h))))
theorem acc_getSlice {sl : Addr} {vl vu vt : Value} {lo hi st : Option Int} {Q : Value → Shared → Prop} (X : (hd.heap_1 w.params).In s.heap) (hx : ∃ o, s.heap.get? x = some o ∧ AccO dx vs o) (hs : s.heap.IsSliceOf sl vl vu vt) (pl : IsPart vl lo) (pu : IsPart vu hi) (ps : IsPart vt st) (h0 : st ≠ some 0) (hz : vs.length ≤ 1000000)
    (h : Q (.ref s.heap.objs.size) { s with heap := s.heap.push { cls := .type "list", data := .seq (slicePick vs.toArray lo hi st) } }) : wpAny (model prog w) A (getItem (.ref x) (.ref sl)) Q E s := by
  have hx' := hx
  obtain ⟨o, ho, n, rfl⟩ := hx'
  obtain ⟨os, hos, hcs, hds⟩ := id hs
  have hTs : s.TypeIs (.ref sl) "slice" := ⟨os, hos, hcs⟩
  unfold getItem
  refine wpAny_holding ?_
  refine wpAny_bind (acc_seqKey X hx ?_)
  refine wpAny_bind (acc_special X hx (by k_is) slot_list_getitem ?_)
  refine acc_callB (n := "__getitem__") X hx slot_list_getitem.plain entry_list_getitem (.inl (by decide +kernel)) (by decide +kernel) (args_list_getitem _ _) ?_
  show wpAny _ _ (Builtin.List.listSubscript? (.ref sl) >>= _) _ _ s
  refine wpAny_bind (sl_sub hs ?_)
  show wpAny _ _ (typeOf (.ref sl) >>= _) _ _ s
  refine wpAny_bind (wpAny_typeOf hTs ?_)
  rw [if_neg (by decide)]
  refine wpAny_bind (sl_parts hs pl pu ps h0 ?_)
  refine wpAny_bind (m := Builtin.List.listItems (.ref x)) (wpAny_listItems ho rfl ?_)
  refine wpAny_bind (wpAny_of_eq (sliceIndices_raw lo hi st vs.toArray.size h0) ?_)
  exact wpAny_bind (wpAny_newObj_type (wpAny_pure ⟨_, rfl, wpAny_pure h⟩) (Nat.le_trans (slicePick_size_le vs.toArray lo hi st) (by rw [List.size_toArray]; unfold sizeLine; walk_at "o")))

theorem acc_setSlice {sl l : Addr} {vl vu : Value} {lo hi : Option Int} {a e : Nat} {ws : List Value} {nl : Nat} {Q : Unit → Shared → Prop} (X : (hd.heap_1 w.params).In s.heap) (hx : ∃ o, s.heap.get? x = some o ∧ AccO dx vs o) (hs : s.heap.IsSliceOf sl vl vu .none) (pl : IsPart vl lo) (pu : IsPart vu hi) (hz : vs.length ≤ 1000000)
    (hb : sliceBounds lo hi none vs.length = (((a : Nat) : Int), ((e : Nat) : Int), (1 : Int))) (hae : a ≤ e) (hev : e ≤ vs.length) (hl : s.heap.get? l = some ⟨.type "list", none, .seq ws.toArray nl, #[]⟩) (hlz : ws.length ≤ 1000000) (hlx : l ≠ x)
    (h : ∀ h', (∃ o, h'.get? x = some o ∧ AccO dx (vs.take a ++ ws ++ vs.drop e) o) → Heap.SameBut x s.heap h' → Q () { s with heap := h' }) : wpAny (model prog w) A (setItem (.ref x) (.ref sl) (.ref l)) Q E s := by
  have hx' := hx
  obtain ⟨o, ho, n, rfl⟩ := hx'
  obtain ⟨os, hos, hcs, hds⟩ := id hs
  have hTs : s.TypeIs (.ref sl) "slice" := ⟨os, hos, hcs⟩
  unfold setItem
  refine wpAny_holding ?_
  refine wpAny_bind (acc_seqKey X hx ?_)
  refine wpAny_bind (acc_special X hx (by k_is) slot_list_setitem ?_)
  refine acc_callB (n := "__setitem__") X hx slot_list_setitem.plain entry_list_setitem (.inr (by decide +kernel)) (by decide +kernel) (args_list_setitem _ _ _) ?_
  show wpAny _ _ (Builtin.List.listSubscript? (.ref sl) >>= _) _ _ s
  refine wpAny_bind (sl_sub hs ?_)
  show wpAny _ _ (typeOf (.ref sl) >>= _) _ _ s
  refine wpAny_bind (wpAny_typeOf hTs ?_)
  rw [if_neg (by decide)]
  refine wpAny_bind (sl_parts hs pl pu .none (by simp) ?_)
  have hsame : Builtin.List.listSameRef (.ref x) (.ref l) = false := by simp [Builtin.List.listSameRef]; exact fun z => hlx z.symm
  have hTl : s.TypeIs (.ref l) "list" := ⟨_, hl, rfl⟩
  show wpAny _ _ (if Builtin.List.listSameRef (.ref x) (.ref l) = true then _ else _) _ _ s
  rw [if_neg (by rw [hsame]; exact Bool.false_ne_true)]
  refine wpAny_bind ?_
  unfold Builtin.List.listAllItems
  refine wpAny_bind (wpAny_typeOf hTl ?_)
  rw [if_pos (by decide)]
  refine wpAny_listItems hl rfl ?_
  refine wpAny_bind (m := Builtin.List.listItems (.ref x)) (wpAny_listItems ho rfl ?_)
  refine wpAny_bind (wpAny_of_eq (sliceIndices_raw lo hi none vs.toArray.size (by simp)) ?_)
  rw [List.size_toArray, hb]
  dsimp only
  have hmax : (max ((a : Nat) : Int) ((e : Nat) : Int)).toNat = e := by walk_at "o"
  have hval : vs.toArray.extract 0 a ++ ws.toArray ++ vs.toArray.extract e vs.toArray.size = (vs.take a ++ ws ++ vs.drop e).toArray := by
    apply Array.ext'
    simp [List.extract_eq_drop_take]
    rw [List.take_of_length_le (by simp)]
  have hsz : (vs.take a ++ ws ++ vs.drop e).length ≤ 2000000 := by
    rw [List.length_append, List.length_append, List.length_take, List.length_drop]
    walk_at "o"
  have hz2 : (vs.toArray.extract 0 ((a : Nat) : Int).toNat ++ ws.toArray ++ vs.toArray.extract (max ((a : Nat) : Int) ((e : Nat) : Int)).toNat vs.toArray.size).size ≤ sizeLine + 1 := by
    rw [Int.toNat_natCast, hmax, hval, List.size_toArray]; unfold sizeLine; walk_at "o"
  rw [if_pos (show ((1 : Int) == 1) = true from rfl)]
  refine wpAny_bind (wpAny_rule ?_)
  rw [if_neg (by rw [List.size_toArray]; simp [Builtin.List.listTooLong, sizeLine]; walk_at "o")]
  refine wpAny_bind (m := updateSeq x fun xs => xs.extract 0 ((a : Nat) : Int).toNat ++ ws.toArray ++ xs.extract (max ((a : Nat) : Int) ((e : Nat) : Int)).toNat xs.size) ?_
  refine wpAny_updateSeq ho rfl (hz := by rw [List.size_toArray]; unfold sizeLine; walk_at "o") (_hz' := hz2) ?_
  refine wpAny_bind (wpAny_letGo ?_)
  refine wpAny_pure ⟨_, rfl, wpAny_pure (h _ ⟨_, Heap.get?_update_self _ ho rfl, ?_⟩ (Heap.SameBut.update ..))⟩
  have : Obj.mapSeq (fun xs => xs.extract 0 ((a : Nat) : Int).toNat ++ ws.toArray ++ xs.extract (max ((a : Nat) : Int) ((e : Nat) : Int)).toNat xs.size) (lstInst 269 dx vs n) = lstInst 269 dx (vs.take a ++ ws ++ vs.drop e) (if (vs.take a ++ ws ++ vs.drop e).toArray.size == vs.toArray.size then n else n + 1) := by
    simp only [Obj.mapSeq, Int.toNat_natCast, hmax, hval]
  exact ⟨_, this⟩
end

-- B17
theorem bounds_from {n a : Nat} (h : a ≤ n) : sliceBounds (some (a : Int)) none none n = (((a : Nat) : Int), ((n : Nat) : Int), (1 : Int)) := by
  have : ¬ ((a : Nat) : Int) < 0 := by walk_at "o"
  simp only [sliceBounds, Option.getD_none, this, if_false, show ((1 : Int) > 0) = True from by simp, if_true]
  refine Prod.ext ?_ (Prod.ext ?_ rfl)
  · dsimp only; walk_at "o"
  · rfl
theorem filterMap_range : ∀ l : List Value, (List.range l.length).filterMap (fun i => l[i]?) = l
  | [] => rfl
  | x :: l => by
    rw [List.length_cons, List.range_succ_eq_map, List.filterMap_cons]
    simp only [List.getElem?_cons_zero]
    rw [List.filterMap_map]
    congr 1
    exact (show List.filterMap ((fun i => (x :: l)[i]?) ∘ Nat.succ) (List.range l.length) = List.filterMap (fun i => l[i]?) (List.range l.length) from by congr 1).trans (filterMap_range l)
theorem slice_from {n a : Nat} (h : a ≤ n) (vs : List Value) (hn : vs.length = n) : slicePick vs.toArray (some (a : Int)) none none = (vs.drop a).toArray := by
  subst hn
  unfold slicePick
  have hb : sliceBounds (some (a : Int)) none none vs.toArray.size = (((a : Nat) : Int), ((vs.length : Nat) : Int), (1 : Int)) := by
    rw [List.size_toArray]; exact bounds_from h
  rw [hb]
  dsimp only
  rw [sliceRange_one]
  congr 1
  rw [List.filterMap_map]
  have e := filterMap_range (vs.drop a)
  rw [List.length_drop] at e
  rw [← e]
  congr 1
  funext i
  simp
theorem bounds_all {n : Nat} : sliceBounds none none none n = (((0 : Nat) : Int), ((n : Nat) : Int), (1 : Int)) := by
  simp [sliceBounds]
section
variable {prog : Program} {w : World} {A : Around} {E : Value → Shared → Prop} {s : Shared} {g : Heap} {γ₀ : Array GenState} {L L' : List Ent} {x dx : Addr} {vs : List Value} {h : Heap} {γ : Array GenState} {d : Drawn} {t : Nat} {os : OsState} {F₀ : Ent}
theorem acc_tail {value slice : PySem.Expr} {i : Value} {ops : List Value} {Q : Value → Shared → Prop} (X : (hd.heap_1 w.params).In s.heap) (hx : ∃ o, s.heap.get? x = some o ∧ AccO dx vs o) (hs : subscripted slice false (.ref x) i = operate ops (getItem (.ref x) i))
    (hq : wpAny (model prog w) A (getItem (.ref x) i) Q E s) : wpAny (model prog w) A (subscriptTail value slice (.ref x) i) Q E s := by
  unfold subscriptTail
  refine wpAny_bind ?_
  have hf : findIn (hd.heap_1 w.params) (.ref 269) "__getitem__" = some (some (.builtin "list.__getitem__")) := by k_is
  have : wpAny (model prog w) A (getitemInPython (.ref x)) (fun b s' => wpAny (model prog w) A (subscripted slice b (.ref x) i >>= fun r => letTemporaryGo value (.ref x) r >>= fun _ => pure r) Q E s') E s := by
    unfold getitemInPython
    refine wpAny_bind (wpAny_bind ((acc_type hx).here ((looks_findIn X hf).here (wpAny_pure ?_))))
    refine wpAny_bind ?_
    rw [hs]
    exact wpAny_operating (wpAny_mono hq (fun r s₃ h₃ => wpAny_bind (wpAny_letTemporaryGo (wpAny_pure h₃))) fun _ _ z => z)
  exact this
theorem acc_from {value slice : PySem.Expr} {a : Nat} {ta : Tok} {Q : Value → Shared → Prop} (H : St w g γ₀ h γ (F₀ :: L)) (hx : InH g (F₀ :: L) x (AccO dx vs)) (ha : a ≤ vs.length) (hz : vs.length ≤ 1000000)
    (hs : subscripted slice false (.ref x) (.ref h.objs.size) = operate [.ref h.objs.size, .ref x] (getItem (.ref x) (.ref h.objs.size)))
    (hq : ∀ l h', St w g γ₀ h' γ (F₀ :: (l, LstO (vs.drop a)) :: L) → Q (.ref l) ⟨h', γ, d, t, os⟩) : wpAny (model prog w) A (subscriptTail value slice (.ref x) (.ref h.objs.size)) Q E ⟨h.push { cls := .type "slice", data := .fields #[.int a ta, .none, .none] }, γ, d, t, os⟩ := by
  have H1 : St w g γ₀ (h.push { cls := .type "slice", data := .fields #[.int (a : Int) ta, .none, .none] }) γ (F₀ :: L) := H.grow fun b o e => Heap.get?_push_of_some _ e
  refine acc_tail H1.inK (H1.at hx) hs ?_
  refine acc_getSlice H1.inK (H1.at hx) (Heap.IsSliceOf.new h _ _ _) (.int _ _) .none .none (by simp) hz ?_
  rw [slice_from ha vs rfl]
  exact hq _ _ ((H1.push _ rfl ⟨_, rfl⟩).perm (.swap _ _ _))
theorem acc_int {value slice : PySem.Expr} {k : Int} {tk : Tok} {i : Nat} {v : Value} {Q : Value → Shared → Prop} (H : St w g γ₀ s.heap s.gens L) (hx : InH g L x (AccO dx vs)) (hk : k = (i : Nat)) (hv : vs[i]? = some v) (hz : i ≤ 1000000)
    (hs : subscripted slice false (.ref x) (.int k tk) = operate [.ref x, .int k tk] (getItem (.ref x) (.int k tk))) (hq : Q v s) : wpAny (model prog w) A (subscriptTail value slice (.ref x) (.int k tk)) Q E s := by
  refine acc_tail H.inK (H.at hx) hs ?_
  have hx' := H.at hx
  obtain ⟨o, ho, n, rfl⟩ := H.at hx
  have X := H.inK
  unfold getItem
  refine wpAny_holding ?_
  refine wpAny_bind (acc_seqKey X hx' ?_)
  refine wpAny_bind (acc_special X hx' (by k_is) slot_list_getitem ?_)
  refine acc_callB (n := "__getitem__") X hx' slot_list_getitem.plain entry_list_getitem (.inl (by decide +kernel)) (by decide +kernel) (args_list_getitem _ _) ?_
  show wpAny _ _ (Builtin.List.listSubscript? (.int k tk) >>= _) _ _ s
  have h0 : 0 ≤ k := by walk_at "o"
  have hfit : k < 2 ^ 63 := by walk_at "o"
  refine wpAny_bind (wpAny_listSubscript_int (fitsIndex_of h0 hfit) ?_)
  clear hfit
  subst hk
  have hv' : vs.toArray[i]? = some v := by simpa using hv
  show wpAny _ _ ((seqItemAt x i >>= fun r => pure (r.map (i, ·))) >>= _) _ _ s
  refine wpAny_bind (wpAny_bind (wpAny_seqItemAt ho rfl (wpAny_pure ?_)))
  rw [hv']
  first
    | exact wpAny_bind (wpAny_pure (wpAny_pure ⟨v, rfl, wpAny_pure hq⟩))
    | exact wpAny_pure ⟨v, rfl, wpAny_pure hq⟩
theorem acc_setFrom {l : Addr} {a : Nat} {ta : Tok} {Q : Unit → Shared → Prop} (H : St w g γ₀ h γ L) (p : Put x (AccO dx vs) (AccO dx (vs.take a)) L L') (hl : (l, LstO []) ∈ L) (ha : a ≤ vs.length) (hz : vs.length ≤ 1000000)
    (hq : ∀ h', St w g γ₀ h' γ L' → Q () ⟨h', γ, d, t, os⟩) : wpAny (model prog w) A (setItem (.ref x) (.ref h.objs.size) (.ref l)) Q E ⟨h.push { cls := .type "slice", data := .fields #[.int a ta, .none, .none] }, γ, d, t, os⟩ := by
  have H1 : St w g γ₀ (h.push { cls := .type "slice", data := .fields #[.int (a : Int) ta, .none, .none] }) γ L := H.grow fun b o e => Heap.get?_push_of_some _ e
  obtain ⟨o, e, n, rfl⟩ := H1.of hl
  have hlx : l ≠ x := by
    rintro rfl
    obtain ⟨o', e', n', rfl⟩ := H1.of p.mem
    rw [e] at e'; cases e'
  refine acc_setSlice (a := a) (e := vs.length) (ws := []) H1.inK (H1.of p.mem) (Heap.IsSliceOf.new h _ _ _) (.int _ _) .none hz (bounds_from ha) ha (Nat.le_refl _) e (by simp) hlx fun h' ho hsb => ?_
  refine hq h' (H1.putSame p hsb ?_)
  simpa using ho
theorem acc_setAll {l : Addr} {ws : List Value} {Q : Unit → Shared → Prop} (H : St w g γ₀ h γ L) (p : Put x (AccO dx vs) (AccO dx ws) L L') (hl : InH g L l (LstO ws)) (hz : vs.length ≤ 1000000) (hw : ws.length ≤ 1000000)
    (hq : ∀ h', St w g γ₀ h' γ L' → Q () ⟨h', γ, d, t, os⟩) : wpAny (model prog w) A (setItem (.ref x) (.ref h.objs.size) (.ref l)) Q E ⟨h.push { cls := .type "slice", data := .fields #[.none, .none, .none] }, γ, d, t, os⟩ := by
  have H1 : St w g γ₀ (h.push { cls := .type "slice", data := .fields #[.none, .none, .none] }) γ L := H.grow fun b o e => Heap.get?_push_of_some _ e
  obtain ⟨o, e, n, rfl⟩ := H.at hl
  have hlx : l ≠ x := by
    rintro rfl
    obtain ⟨o', e', n', rfl⟩ := H.of p.mem
    rw [e] at e'; cases e'
  refine acc_setSlice (a := 0) (e := vs.length) (ws := ws) H1.inK (H1.of p.mem) (Heap.IsSliceOf.new h _ _ _) .none .none hz bounds_all (Nat.zero_le _) (Nat.le_refl _) (Heap.get?_push_of_some _ e) hw hlx fun h' ho hsb => ?_
  refine hq h' (H1.putSame p hsb ?_)
  simpa using ho
theorem acc_append {v : Value} {Q : Value → Shared → Prop} (H : St w g γ₀ s.heap s.gens L) (p : Put x (AccO dx vs) (AccO dx (vs ++ [v])) L L') (hz : vs.length ≤ 1000000)
    (hq : ∀ h', St w g γ₀ h' s.gens L' → Q .none { s with heap := h' }) : wpAny (model prog w) A (call (.builtin "list.append") [.ref x, v]) Q E s := by
  have hx' := H.of p.mem
  obtain ⟨o, ho, n, rfl⟩ := H.of p.mem
  refine acc_callB (n := "append") H.inK hx' slot_list_append.plain entry_list_append (.inl (by decide +kernel)) (by decide +kernel) (args_list_append _ _) ?_
  refine wpAny_bind (m := updateSeq x (·.push v)) ?_
  have hz' : (vs.toArray.push v).size ≤ sizeLine + 1 := by rw [Array.size_push, List.size_toArray]; unfold sizeLine; walk_at "o"
  refine wpAny_updateSeq ho rfl (hz := by rw [List.size_toArray]; unfold sizeLine; walk_at "o") (_hz' := hz') (wpAny_pure ⟨.none, rfl, hq _ (H.putSame p (Heap.SameBut.update ..) ⟨_, Heap.get?_update_self _ ho rfl, ?_⟩)⟩)
  exact ⟨n + 1, by simp [Obj.mapSeq]⟩
theorem acc_iter {Q : Value → Shared → Prop} (H : St w g γ₀ s.heap s.gens (F₀ :: L)) (hx : InH g (F₀ :: L) x (AccO dx vs)) (hq : ∀ it h', St w g γ₀ h' s.gens (F₀ :: (it, LiO x 0) :: L) → Q (.ref it) { s with heap := h' }) : wpAny (model prog w) A (pyIter (.ref x)) Q E s := by
  have X := H.inK
  have hx' := H.at hx
  have hf : findIn (hd.heap_1 w.params) (.ref 269) "__iter__" = some (some (.builtin "list.__iter__")) := by k_is
  obtain ⟨o, ho, n, rfl⟩ := H.at hx
  have hi : wpAny (model prog w) A (call (.builtin "list.__iter__") [.ref x]) (fun it s' => (∃ h', it = .ref s.heap.objs.size ∧ h' = s.heap.push { cls := .type "list_iterator", data := .fields #[.ref x, .int 0 0] } ∧ s' = { s with heap := h' })) E s := by
    refine acc_callB (n := "__iter__") X hx' slot_list_iter.plain entry_list_iter (.inr (by decide +kernel)) (by decide +kernel) (args_list_iter _) ?_
    show wpAny _ _ (do ret (← newFields "list_iterator" [.ref x, rawInt 0])) _ _ s
    exact wpAny_bind (wpAny_newObj_type (wpAny_pure ⟨_, rfl, _, rfl, rfl, rfl⟩))
  unfold pyIter
  refine wpAny_bind (wpAny_bind ((acc_type hx').here ((looks_findIn X hf).here ?_)))
  show wpAny _ A (callSpecialIfBoundUnlessNone? (.ref x) "__iter__" _ >>= _) _ _ _
  simp only [callSpecialIfBoundUnlessNone?, bindSpecialIfBound?]
  refine wpAny_bind (wpAny_holding (wpAny_bind (wpAny_bind (wpAny_bind ((acc_type hx').here ((looks_findIn X hf).here ?_))))))
  simp only [slot_list_iter.bind]
  refine wpAny_bind (wpAny_askSetting (wpAny_ite ?_))
  have done : ∀ v s', (∃ h', v = Value.ref s.heap.objs.size ∧ h' = s.heap.push { cls := .type "list_iterator", data := .fields #[.ref x, .int 0 0] } ∧ s' = { s with heap := h' }) → s'.TypeIs v "list_iterator" ∧ Q v s' := by
    rintro v s' ⟨h', rfl, rfl, rfl⟩
    exact ⟨⟨_, Heap.get?_push_size _ rfl, rfl⟩, hq _ _ ((H.push _ rfl ⟨rfl, rfl⟩).perm (.swap _ _ _))⟩
  split
  · refine wpAny_bind (wpAny_pure (wpAny_pure ?_))
    show wpAny _ A (if (Value.builtin "list.__iter__" == Value.none) = true then _ else _) _ _ _
    rw [if_neg (by rw [builtin_beq_none]; exact Bool.false_ne_true)]
    refine wpAny_bind (wpAny_mono hi (fun v s' hv => ?_) fun _ _ z => z)
    obtain ⟨hT, hQ'⟩ := done v s' hv
    exact wpAny_pure (wpAny_bind (wpAny_specialOf hT slot_listiter_next.lookup (wpAny_pure hQ')))
  · refine wpAny_tryCatch (wpAny_bind (wpAny_pure (wpAny_pure ?_)))
    show wpAny _ A (if (Value.builtin "list.__iter__" == Value.none) = true then _ else _) _ _ _
    rw [if_neg (by rw [builtin_beq_none]; exact Bool.false_ne_true)]
    refine wpAny_bind (wpAny_mono hi (fun v s' hv => ?_) fun _ _ z => z)
    obtain ⟨hT, hQ'⟩ := done v s' hv
    exact wpAny_pure (wpAny_bind (wpAny_specialOf hT slot_listiter_next.lookup (wpAny_pure hQ')))
theorem meth_accB {dvs : Bs} {id : String} {name : Str} {pl : Sem Bool} {Q : Value × List Value → Shared → Prop} (H : St w g γ₀ s.heap s.gens L) (hx : InH g L x (AccO dx vs)) (hdx : InH g L dx (NsO dvs)) (hv : dvs.lookup name = none)
    (hga : findIn (hd.heap_1 w.params) (.ref 269) "__getattribute__" = some (some (.builtin "list.__getattribute__"))) (hk : findIn (hd.heap_1 w.params) (.ref 269) "__getattr__" = some none) (hf : findIn (hd.heap_1 w.params) (.ref 269) name = some (some (.builtin id)))
    (ht : typeOf (.builtin id) = pure (.type "method_descriptor")) (hq : Q (.builtin id, [.ref x]) s) : wpAny (model prog w) A (getMethod (.ref x) name pl) Q E s := by
  obtain ⟨ox, od, I, hox, hod, p⟩ := inst_at ins_acc (H.at hx) (H.at hdx)
  have X := H.inK
  have hcan : (Manifest.canonical "list.__getattribute__" != "object.__getattribute__") = false := by decide +kernel
  unfold getMethod specialOf
  refine wpAny_bind (wpAny_bind (I.type.here ((looks_findIn X hga).here ?_)))
  dsimp only
  rw [hcan, if_neg (by decide)]
  refine wpAny_bind (wpAny_bind (I.type.here ((looks_findIn X hk).here ?_)))
  refine wpAny_bind (wpAny_bind (I.type.here ((looks_findIn X hf).here (wpAny_bind (wpAny_of_eq ht ?_)))))
  rw [if_neg (by decide +kernel)]
  refine wpAny_bind (wpAny_loadPart I.at_ ?_)
  rw [hox]
  refine wpAny_bind (wpAny_bind (wpAny_loadPart hod ?_))
  rw [nsLook_of (lookIn_ns p name)]
  refine wpAny_pure ?_
  rw [hv]
  exact wpAny_bind (wpAny_rule (wpAny_pure hq))

theorem meth_accL {dvs : Bs} {f : Addr} {name : Str} {pl : Sem Bool} {Q : Value × List Value → Shared → Prop} (H : St w g γ₀ s.heap s.gens L) (hx : InH g L x (AccO dx vs)) (hdx : InH g L dx (NsO dvs)) (hv : dvs.lookup name = none)
    (hga : findIn (hd.heap_1 w.params) (.ref 269) "__getattribute__" = some (some (.builtin "list.__getattribute__"))) (hk : findIn (hd.heap_1 w.params) (.ref 269) "__getattr__" = some none) (hf : findIn (hd.heap_1 w.params) (.ref 269) name = some (some (.ref f)))
    (ht : typeIn (hd.heap_1 w.params) (.ref f) = some (.type "function")) (hq : Q (.ref f, [.ref x]) s) : wpAny (model prog w) A (getMethod (.ref x) name pl) Q E s := by
  obtain ⟨ox, od, I, hox, hod, p⟩ := inst_at ins_acc (H.at hx) (H.at hdx)
  have X := H.inK
  have hcan : (Manifest.canonical "list.__getattribute__" != "object.__getattribute__") = false := by decide +kernel
  unfold getMethod specialOf
  refine wpAny_bind (wpAny_bind (I.type.here ((looks_findIn X hga).here ?_)))
  dsimp only
  rw [hcan, if_neg (by decide)]
  refine wpAny_bind (wpAny_bind (I.type.here ((looks_findIn X hk).here ?_)))
  refine wpAny_bind (wpAny_bind (I.type.here ((looks_findIn X hf).here (wpAny_bind ((looks_typeIn X ht).here ?_)))))
  rw [if_neg (by decide +kernel)]
  refine wpAny_bind (wpAny_loadPart I.at_ ?_)
  rw [hox]
  refine wpAny_bind (wpAny_bind (wpAny_loadPart hod ?_))
  rw [nsLook_of (lookIn_ns p name)]
  refine wpAny_pure ?_
  rw [hv]
  exact wpAny_bind (wpAny_rule (wpAny_pure hq))
theorem get_accL {dvs : Bs} {name : Str} {v : Value} {cd : ClassData} {Q : Value → Shared → Prop} (H : St w g γ₀ s.heap s.gens L) (hx : InH g L x (AccO dx vs)) (hdx : InH g L dx (NsO dvs)) (hv : dvs.lookup name = some v)
    (hga : findIn (hd.heap_1 w.params) (.ref 269) "__getattribute__" = some (some (.builtin "list.__getattribute__"))) (hk : findIn (hd.heap_1 w.params) (.ref 269) "__getattr__" = some none) (hc : clsIn (hd.heap_1 w.params) 269 = some cd) (hh : cd.hasDict = true) (hn : findIn (hd.heap_1 w.params) (.ref 269) name = some none) (hi : handedIn v = true) {expr : Bool}
    (hq : Q v { s with toks := s.toks + 1 }) : wpAny (model prog w) A (getAttr (.ref x) name expr) Q E s := by
  obtain ⟨ox, od, I, hox, hod, p⟩ := inst_at ins_acc (H.at hx) (H.at hdx)
  have X := H.inK
  have hx' := H.at hx
  have hfo : findObj (hd.heap_1 w.params) 269 (some od) name = some (.value v) := by
    unfold findObj
    rw [hc, Option.bind_some, hn, Option.bind_some]
    dsimp only
    rw [Option.bind_some, Option.bind_some]
    dsimp only
    unfold W.ownOf
    rw [if_pos hh]
    dsimp only
    rw [lookIn_ns p, hv]
    rfl
  obtain ⟨hh', gg, d, t, os⟩ := s
  have L0 := I.type (M := model prog w)
  have L1 := looks_find (M := model prog w) X I hfo
  unfold getAttr getAttrBy
  refine wpAny_bind (wpAny_mkText (wpAny_holding (wpAny_bind (L0.at (wpAny_bind ((looks_findIn (M := model prog w) X hga).at ?_))))))
  dsimp only
  rw [if_neg (by decide)]
  unfold getAttrByItsOwn hookBefore
  rw [if_pos (show onTheHeap (.ref 269) = true from rfl)]
  refine wpAny_bind ((looks_findIn (M := model prog w) X hk).at ?_)
  refine wpAny_bind (wpAny_attempt (wpAny_holding ?_))
  unfold callGetattribute
  rw [if_neg (by simp [onTheHeap])]
  unfold boundAndCalled
  rw [PySem.F.slot_list_getattribute.bind]
  refine wpAny_bind (wpAny_pure ?_)
  refine acc_callB (n := "__getattribute__") X hx' PySem.F.slot_list_getattribute.plain PySem.am_entry_list_getattribute (.inr (by decide +kernel)) (by decide +kernel) (PySem.F.args_list_getattribute_2 _ _) ?_
  unfold Builtin.«object.__getattribute__»
  refine wpAny_bind (wpAny_of_eq (a := (Value.ref x, [Value.str name t])) (by kernel_rfl) ?_)
  refine wpAny_bind (wpAny_pure ?_)
  refine wpAny_bind (L0.at (wpAny_bind (L1.at ?_)))
  refine wpAny_pure ⟨v, rfl, ?_⟩
  dsimp only
  rw [handedOut_of hi]
  exact wpAny_pure hq
end

-- B18
local macro_rules | `(tactic| walk_at "getMethod ref") => `(tactic| ((with_reducible show wpAny _ _ (getMethod (Value.ref _) (PySem.Str.ofString "append") _) _ _ _); (k_dflt (refine' meth_accB (by with_reducible assumption) (by walk_at "mine inh") (by walk_at "mine inh") (by exact rfl) (by k_is) (by k_is) (by k_is) PySem.F.type_list_append ?_; k_whole))))
local macro_rules | `(tactic| walk_at "call builtin:list.append") => `(tactic| (k_dflt (refine' acc_append (by with_reducible assumption) (by walk_at "mine put") (by walk_at "mine nat") ?_; walk_at "i2")))
local macro_rules | `(tactic| walk_at "subscriptTail") => `(tactic| first
  | (walk_at "rr"; k_dflt (refine' acc_from (by with_reducible assumption) (by walk_at "mine inh") (by walk_at "mine nat") (by walk_at "mine nat") (by with_unfolding_all rfl) ?_; walk_at "i3"))
  | (walk_at "ri"; k_dflt (refine' acc_int (by with_reducible assumption) (by walk_at "mine inh") (by with_unfolding_all rfl) (by walk_at "mine at") (by walk_at "mine nat") (by with_unfolding_all rfl) ?_; k_whole)))
local macro_rules | `(tactic| walk_at "setItem ref ref") => `(tactic| first
  | (k_dflt (refine' acc_setFrom (by with_reducible assumption) (by walk_at "mine put") (by walk_at "mine mem") (by walk_at "mine nat") (by walk_at "mine nat") ?_; walk_at "i2"))
  | (k_dflt (refine' acc_setAll (by with_reducible assumption) (by walk_at "mine put") (by walk_at "mine inh") (by walk_at "mine nat") (by walk_at "mine nat") ?_; walk_at "i2")))
local macro_rules | `(tactic| walk_at "getAttr ref") => `(tactic|
  (k_dflt (refine' get_accL (by with_reducible assumption) (by walk_at "mine inh") (by walk_at "mine inh") (by exact rfl) (by k_is) (by k_is) (by k_is) (by exact rfl) (by k_is) (by exact rfl) ?_; k_whole)))
local macro_rules | `(tactic| walk_at "getMethod ref") => `(tactic|
  (k_dflt (refine' meth_accL (by with_reducible assumption) (by walk_at "mine inh") (by walk_at "mine inh") (by exact rfl) (by k_is) (by k_is) (by k_is) (by k_is) ?_; k_whole)))

-- T13
section
variable {prog : Program} [PrOk prog] {w : World} {A : Around} {E : Value → Shared → Prop} {s : Shared} {g : Heap} {γ₀ : Array GenState} {L : List Ent} {x dx : Addr} {vs : List Value} {ki : Int} {kt : Nat}
theorem push_s {u v : Value} {Q : Value → Shared → Prop} (H : St w g γ₀ s.heap s.gens ((x, AccO dx vs) :: (dx, NsO [("_initial_size", .int ki kt)]) :: L)) (hA : Ok A 3 20) (hz : vs.length ≤ 1000)
    (hQ : ∀ t g' h' tk', s.toks ≤ tk' → Le g g' → TupAt g' t [u, v] → St w g' γ₀ h' s.gens ((x, AccO dx (vs ++ [.ref t])) :: (dx, NsO [("_initial_size", .int ki kt)]) :: L) → Q .none { s with heap := h', toks := tk' }) : wpAny (model prog w) A (call (.ref 213) [.ref x, u, v]) Q E s := by
  refine' call_fn (bs := [("self", .ref x), ("fws", u), ("string", v)]) F213 H hA.room ?hb ?hbind ?hcell ?hloc ?hbs ?h1 ?h2 ?h3 ?_
  walk_at "mine enter"
  intro Lf h₁ tk htk H'
  k_fold
  walk_at "mine walk"
  (rename St _ _ _ _ _ _ => H7; rename_i tp _ _ _)
  obtain ⟨g1, hg1, ht1, H8⟩ := H7.tail.freeze
  exact hQ tp g1 _ _ (by walk_at "o") hg1 ht1 H8
theorem popfrom_s {i : Nat} {ti : Nat} {Q : Value → Shared → Prop} (H : St w g γ₀ s.heap s.gens ((x, AccO dx vs) :: (dx, NsO [("_initial_size", .int ki kt)]) :: L)) (hA : Ok A 3 20) (hz : vs.length ≤ 1000) (hi : i ≤ vs.length)
    (hQ : ∀ l h' tk', s.toks ≤ tk' → St w g γ₀ h' s.gens ((l, LstO (vs.drop i)) :: (x, AccO dx (vs.take i)) :: (dx, NsO [("_initial_size", .int ki kt)]) :: L) → Q (.ref l) { s with heap := h', toks := tk' }) : wpAny (model prog w) A (call (.ref 221) [.ref x, .int i ti]) Q E s := by
  refine' call_fn (bs := [("self", .ref x), ("i", .int i ti)]) F221 H hA.room ?hb ?hbind ?hcell ?hloc ?hbs ?h1 ?h2 ?h3 ?_
  walk_at "mine enter"
  intro Lf h₁ tk htk H'
  k_fold
  walk_at "mine walk"
  walk_at "mine fin"
  (rename St _ _ _ _ _ _ => H7; rename_i l1 _ _ _ _ l2 _ _ _)
  exact hQ l1 _ _ (by walk_at "o") ((H7.tail.tail).perm (.refl _))
theorem pop_s {v : Value} {Q : Value → Shared → Prop} (H : St w g γ₀ s.heap s.gens ((x, AccO dx (vs ++ [v])) :: (dx, NsO [("_initial_size", .int ki kt)]) :: L)) (hA : Ok A 5 40) (hz : vs.length ≤ 1000)
    (hQ : ∀ h' tk', s.toks ≤ tk' → St w g γ₀ h' s.gens ((x, AccO dx vs) :: (dx, NsO [("_initial_size", .int ki kt)]) :: L) → Q v { s with heap := h', toks := tk' }) : wpAny (model prog w) A (call (.ref 229) [.ref x]) Q E s := by
  refine' call_fnAt (bs := [("self", .ref x)]) F229 H hA.room ?hb ?hbind ?hcell ?hloc ?hbs ?h1 ?h2 ?h3 ?_
  walk_at "mine enter"
  intro Lf h₁ tk htk H'
  refine PySem.ks_wpAt_execs_cons (wpAt_of_wpAny ?_)
  walk_at "mine walk"
  refine pc_s H' ((hA.le (d' := 2 + 1) (u' := 10 + 3) (by decide) (by decide)).deeper) (.inr (.tail _ (.head _))) ?_
  intro t1 h1 tk1 htk1 H1
  walk_at "mine walk"
  · rename _ = (0 : Int) => hc
    rw [List.length_append] at hc
    simp only [List.length_cons, List.length_nil] at hc
    walk_at "o"
  · dsimp only
    refine PySem.ks_wpAt_execs_cons ?_
    refine PySem.ks_wpAt_Return_some ?_
    refine PySem.ks_wpAt_MethodCall ?_
    refine' super_att (dx := dx) (vs := vs ++ [v]) H1 ?s_x F229.2.1 ?s_fu ?s_p ?s_v ?s_lo ?s_co ?s_cc ?s_cs ?s_atr ?s_ks ?s_kc ?s_ka ?s_k ?s_g ?s_bi ?s_cl ?_
    case s_x => exact H1.of (.tail _ (.head _))
    walk_at "mine super"
    intro so h2 H2
    refine super_go H2 (H2.of (.tail _ (.tail _ (.head _)))) (.inr rfl) (along_pop _) ty_pop slot_md_get.lookup (by decide) (fun a b c d => md_get_pop a b c d) ?_
    intro q h3 tk3 htk3 H3 _
    obtain ⟨ox, hxo, n, rfl⟩ := H3.of (.tail _ (.tail _ (.head _)))
    obtain ⟨oq, hqo, rfl⟩ := H3.of (.tail _ (.head _))
    refine wrap_call_pop H3.inK hqo hxo (by walk_at "o") fun h' hx' hsb => ?_
    dsimp only
    refine hQ _ _ ?_ ((H3.tail.tail).updSame hsb (let ⟨n', e⟩ := hx'; ⟨_, e, n', rfl⟩))
    dsimp only at htk1 htk3
    walk_at "o"
theorem pop0_s {Q : Value → Shared → Prop} (H : St w g γ₀ s.heap s.gens ((x, AccO dx []) :: (dx, NsO [("_initial_size", .int ki kt)]) :: L)) (hA : Ok A 5 40)
    (hQ : ∀ p t u h' tk', s.toks ≤ tk' → St w g γ₀ h' s.gens ((p, TupO [.str "" t, .str "" u]) :: (x, AccO dx []) :: (dx, NsO [("_initial_size", .int ki kt)]) :: L) → Q (.ref p) { s with heap := h', toks := tk' }) : wpAny (model prog w) A (call (.ref 229) [.ref x]) Q E s := by
  refine' call_fnAt (bs := [("self", .ref x)]) F229 H hA.room ?hb ?hbind ?hcell ?hloc ?hbs ?h1 ?h2 ?h3 ?_
  walk_at "mine enter"
  intro Lf h₁ tk htk H'
  refine PySem.ks_wpAt_execs_cons (wpAt_of_wpAny ?_)
  walk_at "mine walk"
  refine pc_s H' ((hA.le (d' := 2 + 1) (u' := 10 + 3) (by decide) (by decide)).deeper) (.inr (.tail _ (.head _))) ?_
  intro t1 h1 tk1 htk1 H1
  walk_at "mine walk"
  (rename St _ _ _ _ _ _ => H7; rename_i tp _)
  exact hQ tp _ _ _ _ (by dsimp only at htk1; walk_at "o") H7.tail
theorem reset0_s {Q : Value → Shared → Prop} (H : St w g γ₀ s.heap s.gens ((x, AccO dx vs) :: (dx, NsO [("_initial_size", .int ki kt)]) :: L)) (hA : Ok A 3 20) (hz : vs.length ≤ 1000)
    (hQ : ∀ (t : Nat) h' tk', s.toks ≤ tk' → St w g γ₀ h' s.gens ((x, AccO dx []) :: (dx, NsO [("_initial_size", .int 0 t)]) :: L) → Q .none { s with heap := h', toks := tk' }) : wpAny (model prog w) A (call (.ref 251) [.ref x]) Q E s := by
  refine' call_fn (bs := [("self", .ref x), ("startval", .none)]) F251 H hA.room ?hb ?hbind ?hcell ?hloc ?hbs ?h1 ?h2 ?h3 ?_
  walk_at "mine enter"
  intro Lf h₁ tk htk H'
  k_fold
  walk_at "mine walk"
  refine plainObj_wpAny_Assign_Attribute ?_
  walk_at "mine walk"
  (rename St _ _ _ _ _ _ => H7; rename_i l1 _ _ _ _ _ _ _ _ _)
  have H8 := (H7.tail.pull (.tail (.tail .head))).weak (P' := NsO [("_initial_size", .int 0 _)]) fun o p => NsO.norm p rfl
  exact hQ _ _ _ (by walk_at "o") ((H8.pull (.tail (.tail .head))).sub (by walk_at "mine back"))
theorem reset_s {l : Addr} {ws : List Value} {Q : Value → Shared → Prop} (H : St w g γ₀ s.heap s.gens ((x, AccO dx vs) :: (dx, NsO [("_initial_size", .int ki kt)]) :: L)) (hl : InH g L l (LstO ws)) (hA : Ok A 3 20) (hz : vs.length ≤ 1000) (hw : ws.length ≤ 1000)
    (hQ : ∀ (t : Nat) h' tk', s.toks ≤ tk' → St w g γ₀ h' s.gens ((x, AccO dx ws) :: (dx, NsO [("_initial_size", .int 0 t)]) :: L) → Q .none { s with heap := h', toks := tk' }) : wpAny (model prog w) A (call (.ref 251) [.ref x, .ref l]) Q E s := by
  refine' call_fn (bs := [("self", .ref x), ("startval", .ref l)]) F251 H hA.room ?hb ?hbind ?hcell ?hloc ?hbs ?h1 ?h2 ?h3 ?_
  walk_at "mine enter"
  intro Lf h₁ tk htk H'
  k_fold
  have hl' := H'.at ((((hl.cons _).cons _).cons _) : InH g ((Lf, FrO ([("self", .ref x), ("startval", .ref l)] : Bs)) :: (x, AccO dx vs) :: (dx, NsO [("_initial_size", .int ki kt)]) :: L) l (LstO ws))
  walk_at "mine walk"
  refine' acc_setAll H' ?k1 ?k2 ?k4 ?k5 ?_
  case k1 => walk_at "mine put"
  case k2 => exact InH.cons (InH.cons (InH.cons (by with_reducible assumption) _) _) _
  case k4 => walk_at "o"
  case k5 => walk_at "o"
  intro h2 H2
  walk_at "mine walk"
  refine plainObj_wpAny_Assign_Attribute ?_
  walk_at "mine walk"
  rename St _ _ _ _ _ _ => H7
  have H8 := (H7.tail.pull (.tail .head)).weak (P' := NsO [("_initial_size", .int 0 _)]) fun o p => NsO.norm p rfl
  exact hQ _ _ _ (by walk_at "o") (H8.perm (.swap _ _ _))
end

-- B19
/-- one item more ahead -/
noncomputable def valS (k : Int) (val : Nat → Int) : Nat → Int
  | 0 => k
  | j + 1 => val j
theorem preSum_shift (k : Int) (val : Nat → Int) : ∀ j, preSum (valS k val) (j + 1) = k + preSum val j
  | 0 => by simp [preSum, valS]
  | j + 1 => by
    show preSum (valS k val) (j + 1) + valS k val (j + 1) = k + (preSum val j + val j)
    rw [preSum_shift k val j]; simp [valS]; walk_at "o"
section
variable {prog : Program} {w : World} {A : Around} {E : Value → Shared → Prop} {s : Shared} {I : Addr} {fp wr : List Addr} {G : Array GenState → Array GenState → Prop} {n : Nat} {P : Nat → Value → Prop} {St : Nat → Shared → Prop}
noncomputable def ahead (P : Nat → Value → Prop) : Nat → Value → Prop
  | 0, _ => False
  | j + 1, v => P j v
noncomputable def aheadS (St : Nat → Shared → Prop) : Nat → Shared → Prop
  | 0, _ => False
  | j + 1, s => St j s
theorem walks_ahead (W : WalksS prog w A I fp wr G n P St) : WalksS prog w A I fp wr G (n + 1) (ahead P) (aheadS St) where
  sub := W.sub
  grefl := W.grefl
  gtrans := W.gtrans
  frame := fun i s h' tk st a b => match i, st with
    | j + 1, st => W.frame j s h' tk st a b
  item := fun i s Q E hi st hQ => match i, st, hi with
    | j + 1, st, hi => W.item j s Q E (Nat.lt_of_succ_lt_succ hi) st fun v s' a b c => hQ v s' a b c
  done := fun s Q E st hQ => W.done s Q E st hQ
  self := fun i s Q E st hQ => match i, st with
    | j + 1, st => W.self j s Q E st hQ
theorem args_sum2 (a b : Value) : argsOk "sum" ⟨[a, b], []⟩ := by unfold argsOk; kernel_rfl
theorem call_sum_start {k0 : Int} {tk0 : Nat} {Q : Value → Shared → Prop} {val : Nat → Int} (W : WalksS prog w A.in1 I fp wr G n P St) (hst : St 0 s) (hfp : ∀ b ∈ fp, b < s.heap.objs.size) (hval : ∀ i v, P i v → ∃ t, v = .int (val i) t)
    (hQ : ∀ s' t', Moved wr G s s' → Q (.int (k0 + preSum val n) t') s') : wpAny (model prog w) A (call (.builtin "sum") [.ref I, .int k0 tk0]) Q E s := by
  refine call_function_tree PySem.F.kind_sum PySem.F.plain_sum PySem.F.entry_sum (args_sum2 _ _) ?_
  unfold Builtin.«sum»
  simp only [List.length_cons, List.length_nil]
  rw [if_neg (by decide)]
  refine wpAny_bind (wpAny_of_eq (show Builtin.Builtins.bindParams "sum" ["start"] 0 ⟨[.int k0 tk0], []⟩ = pure [some (.int k0 tk0)] from by kernel_rfl) ?_)
  refine wpAny_bind (W.self 0 s _ _ hst ?_)
  have loop : ∀ (tA : Tok) (st : Int) (s₂ : Shared), (st = 0 ∨ st = 2) → s₂.heap = s.heap → s₂.gens = s.gens → s₂.drawn = s.drawn → s₂.os = s.os → s.toks ≤ s₂.toks →
      codeAny (model prog w) A (.builtin "sum.loop" ⟨[.ref I, .ref s.heap.objs.size, rawInt st, rawInt 0], []⟩) (wants Q E) { s₂ with heap := s.heap.push { cls := .type "list", data := .seq #[.int k0 tA] } } := by
    intro tA st s₂ hst2 e1 e2 e3 e4 e5
    obtain ⟨h2, g2, d2, t2, o2⟩ := s₂
    dsimp only at e1 e2 e3 e4 e5
    subst e1 e2 e3 e4
    have hSf : s.heap.objs.size ∉ fp := fun hm => Nat.lt_irrefl _ (hfp _ hm)
    have e0 : preSum (valS k0 val) 1 = k0 := by simp [preSum, valS]
    refine codeAny_sum_loopAnyS (walks_ahead W) (valS k0 val) (fun i v => ?_) s.heap.objs.size hSf n 1 _ tA 0 st hst2 (by walk_at "o") (by walk_at "o") (W.frame 0 s _ _ hst e5 fun b _ o e => Heap.get?_push_of_some _ e) (by rw [e0]; exact Heap.get?_push_size _ rfl) fun s' t' hm => ?_
    · cases i with
      | zero => exact fun h => h.elim
      | succ j => exact hval j v
    · rw [preSum_shift]
      exact hQ s' t' (hm.drop_new e5)
  dsimp only
  split
  · refine wpAny_bind (wpAny_rule (wpAny_bind (wpAny_mkInt (wpAny_bind (wpAny_pure ?_)))))
    simp only [List.forIn_cons, List.forIn_nil]
    refine wpAny_bind (wpAny_bind (wpAny_bind (wpAny_isInstance (T := "int") (b := false) (typeIs_int _ _ _) PySem.F.sub_int_str ?_)))
    simp only [Bool.false_eq_true, if_false]
    refine wpAny_pure (wpAny_bind (wpAny_bind (wpAny_isInstance (T := "int") (b := false) (typeIs_int _ _ _) PySem.F.sub_int_bytes ?_)))
    simp only [Bool.false_eq_true, if_false]
    refine wpAny_pure (wpAny_bind (wpAny_bind (wpAny_isInstance (T := "int") (b := false) (typeIs_int _ _ _) PySem.F.sub_int_bytearray ?_)))
    simp only [Bool.false_eq_true, if_false]
    refine wpAny_pure (wpAny_pure (wpAny_bind (wpAny_newObj_type (wpAny_pure ⟨plainId_quiet PySem.F.plain_sum_loop _, ?_⟩))))
    exact loop _ 0 { s with toks := s.toks + 1 } (.inl rfl) rfl rfl rfl rfl (Nat.le_succ _)
  · refine wpAny_bind (wpAny_pure ?_)
    simp only [List.forIn_cons, List.forIn_nil]
    refine wpAny_bind (wpAny_bind (wpAny_bind (wpAny_isInstance (T := "int") (b := false) (typeIs_int _ _ _) PySem.F.sub_int_str ?_)))
    simp only [Bool.false_eq_true, if_false]
    refine wpAny_pure (wpAny_bind (wpAny_bind (wpAny_isInstance (T := "int") (b := false) (typeIs_int _ _ _) PySem.F.sub_int_bytes ?_)))
    simp only [Bool.false_eq_true, if_false]
    refine wpAny_pure (wpAny_bind (wpAny_bind (wpAny_isInstance (T := "int") (b := false) (typeIs_int _ _ _) PySem.F.sub_int_bytearray ?_)))
    simp only [Bool.false_eq_true, if_false]
    refine wpAny_pure (wpAny_pure (wpAny_bind (wpAny_newObj_type (wpAny_pure ⟨plainId_quiet PySem.F.plain_sum_loop _, ?_⟩))))
    exact loop _ 2 s (.inr rfl) rfl rfl rfl rfl (Nat.le_refl _)
end

-- B20
section
variable {prog : Program} {w : World} {A : Around} {E : Value → Shared → Prop} {s : Shared} {g h h' : Heap} {γ₀ γ γ' : Array GenState} {L : List Ent} {x dx I : Addr} {vs : List Value} {ps : List (Str × Str)}
theorem St.gens (H : St w g γ₀ h γ L) (hk : ∀ (i : Nat) (x : GenState), γ₀[i]? = some x → γ'[i]? = some x) (hb : AllBare γ') : St w g γ₀ h γ' L :=
  let ⟨T, t, y⟩ := H; ⟨T, t, y.keep, y.own, y.nd, hk, hb, y.cx⟩
noncomputable def PtOf (ps : List (Str × Str)) (i : Nat) (vals : Array Value) : Prop := ∃ p ta tb, ps[i]? = some p ∧ vals = #[.str p.1 ta, .str p.2 tb]
theorem walks_row (hh : A.handled = none) {N : Nat} (hx : SeqAt g x vs) (hp : Parts g vs ps) (hN : ∀ b o, g.get? b = some o → b < N) (hI : I < N) (hIg : g.get? I = none) :
    WalksU prog w A I (List.range N) [I] ps.length (PtOf ps) (fun i h => h.IsListIter I x i ∧ Le g h) (fun i T h => (h.IsListIter I x (i + 1) ∧ Le g h) ∧ T ≠ I) where
  sub := fun b hb => by
    rcases List.mem_cons.mp hb with rfl | hb
    · exact List.mem_range.mpr hI
    · cases hb
  frame := fun i h h' st hk => ⟨let ⟨o, e, r⟩ := st.1; ⟨o, hk I (List.mem_range.mpr hI) o e, r⟩, fun b o e => hk b (List.mem_range.mpr (hN b o e)) o (st.2 b o e)⟩
  item := fun i s Q E hi st hQ => by
    have hiv : i < ps.length := hi
    obtain ⟨v, hv, t, ta, tb, rfl, ht⟩ := hp.get i ps[i] (by simp [hiv])
    refine next_seq_item st.1 (hx.le st.2) hv fun h' hit' hs' => ?_
    have hk : ∀ b o, b ∉ [I] → s.heap.get? b = some o → h'.get? b = some o := fun b o hb e => hs'.extBut b o (fun q => hb (by simp [q])) e
    have nm : ∀ b o, g.get? b = some o → b ∉ [I] := fun b o e q => by
      rw [List.mem_singleton] at q
      subst q
      rw [hIg] at e; cases e
    have hle : Le g h' := fun b o e => hk b o (nm b o e) (st.2 b o e)
    obtain ⟨ot, et, n, rfl⟩ := ht
    have htI : t ≠ I := fun q => by rw [q, hIg] at et; cases et
    exact hQ t #[.str ps[i].1 ta, .str ps[i].2 tb] h' s.toks ⟨ps[i], ta, tb, by simp [hiv], rfl⟩ ⟨_, hle _ _ et, rfl, n, rfl⟩ ⟨⟨hit', hle⟩, htI⟩ hk
  go := fun _ _ _ _ _ s Q _ hm hQ => wpAny_letOwnedTupleGo_listiter hm.1.1 (hQ s.heap hm.1 fun _ _ _ e => e)
  apart := fun i T h hm hmem => by
    rcases List.mem_cons.mp hmem with e | e
    · exact hm.2 e
    · cases e
  done := fun s Q E st hQ => next_seq_end hh st.1 (hx.le st.2) (by rw [← hp.len]; simp) fun h' he' => hQ h' s.toks fun b o hb e => he' b o (fun q => hb (by simp [q])) e
  self := fun _ _ _ _ st hQ => wpAny_pyIter_listiter st.1 hQ

theorem gen_row {env : Env} {elt : PySem.Expr} {xa xb : Str} {pa pb pt pi : Pos} {kt : Nat} {scope : Scope} {pos : Pos} {Lf c : Addr} {bs : Bs} {F : Nat → Value → Prop} {q : Addr × Nat × Nat × Str} {Q : Value → Shared → Prop}
    (H : St w g γ₀ s.heap s.gens ((Lf, FrO bs) :: L)) (hA : Ok A 2 20) (hself : bs.lookup ("self" : Str) = some (.ref x)) (hx : ∃ o, g.get? x = some o ∧ AccO dx vs o) (hp : Parts g vs ps)
    (hloc : env.locals = Lf) (hk : env.scope.kind = .function) (hl : env.kindOf ("self" : Str) = some .local) (hg : env.globals = mainGlobals) (hq : q ∈ sites) (hC2 : ∀ h, (hd.heap_1 w.params).In h → CodeHd h c q.1) (hcode : env.code = .ref c) (hl1 : pos.line = q.2.1) (hl2 : pos.col = q.2.2.1) (hqn : env.qual ++ "<genexpr>" = q.2.2.2)
    (hco : scope.isCoroutine = false) (hclos : closureFor scope env = pure []) (hcell : ∀ y ∈ scope.names, y.2 ≠ .cell) (h0 : scope.names.lookup (".0" : Str) = some NameKind.local) (hxa : scope.names.lookup xa = some .local) (hxb : scope.names.lookup xb = some .local) (hab : xa ≠ xb) (hkind : scope.kind = .function)
    (helt : ∀ (g₂ : Heap) (C : Addr) (code : Value) (bi : Addr) (A' : Around) E' i va vb (s₂ : Shared) m₂, Cx w g₂ → bi = builtinsNs → A'.handled = none → PtOf ps i #[va, vb] → s₂.heap.Ns C m₂ → m₂ xa = some va → m₂ xb = some vb → Le g₂ s₂.heap →
      wpAny (model prog w) A' (eval elt (genEnv scope [] C code bi env)) (fun y s₃ => F i y ∧ Keeps s₂ s₃) E' s₂)
    (h : ∀ a I C N gn g' h' γ' tk' (fp : List Addr), Le g g' → s.toks ≤ tk' → WalksS prog w A.in4 a fp (C :: [I]) (GenOnlyQ gn) ps.length (fun j y => ∃ i, (passing (fun _ => true) ps.length 0)[j]? = some i ∧ F i y) (GenAt prog w A.in4 a gn C (List.range N) [I] (fun _ => true) ps.length F) →
      GenAt prog w A.in4 a gn C (List.range N) [I] (fun _ => true) ps.length F 0 { s with heap := h', gens := γ', toks := tk' } → (∀ b ∈ fp, b < h'.objs.size) → a ∈ fp →
      (∀ s'', Moved (C :: [I]) (GenOnlyQ gn) { s with heap := h', gens := γ', toks := tk' } s'' → St w g' γ₀ s''.heap s''.gens ((Lf, FrO bs) :: L)) → St w g' γ₀ h' γ' ((Lf, FrO bs) :: L) →
      Q (.ref a) { s with heap := h', gens := γ', toks := tk' }) :
    wpAny (model prog w) A (eval (.GeneratorExp elt [⟨.Tuple [.Name xa pa, .Name xb pb] kt pt, .Name "self" pi, [], 0⟩] scope pos) env) Q E s := by
  refine wpAny_with_toks (Nat.le_refl s.toks) ?_
  refine wpAny_GeneratorExp_walksQT hA.h hco hclos hcell h0 hxa hxb hab hkind hA.room ?_ (fun x => by rfl)
  refine name_local H hself ?_ hloc hk hl
  refine acc_iter H (.inl hx) fun I h₂ H₂ => ?_
  have H₂' := H₂.pull (.tail .head)
  refine ⟨H₂.cx.N.keeps H₂.keep, ?_⟩
  have tail : ∀ code g₃ h₃ tk₃, Le g g₃ → St w g₃ γ₀ h₃ s.gens ((I, LiO x 0) :: (Lf, FrO bs) :: L) → wpAny (model prog w) A (builtinsFor env.globals env.builtins) (fun bi s₄ =>
        ∃ I' fp wr n₀ Pt St₀ Mid pz F, (Value.ref I) = .ref I' ∧ (∀ A' : Around, A'.handled = none → WalksU prog w A' I' fp wr n₀ Pt St₀ Mid) ∧ (∀ i vals, Pt i vals → ∃ va vb, vals = #[va, vb]) ∧ St₀ 0 s₄.heap ∧ (∀ b ∈ fp, b < s₄.heap.objs.size) ∧ s₄.heap.NoLimit ∧ cStatics ∉ wr ∧
          (∀ href : Heap, (∀ b o, s₄.heap.get? b = some o → href.get? b = some o) →
            QuietGenT prog w (genEnv scope [] s₄.heap.objs.size code bi env) xa xb [] elt (List.range s₄.heap.objs.size) wr Pt pz F href) ∧
          (∀ a h₅ tk gs, gs.bare = true → s₄.heap.objs.size < a → h₅.objs.size = a + 1 → (∀ b o, s₄.heap.get? b = some o → h₅.get? b = some o) →
            WalksS prog w A.in4 a (a :: s₄.heap.objs.size :: List.range s₄.heap.objs.size) (s₄.heap.objs.size :: wr) (GenOnlyQ s₄.gens.size) (passing pz n₀ 0).length
              (fun j y => ∃ i, (passing pz n₀ 0)[j]? = some i ∧ F i y) (GenAt prog w A.in4 a s₄.gens.size s₄.heap.objs.size (List.range s₄.heap.objs.size) wr pz n₀ F) →
            GenAt prog w A.in4 a s₄.gens.size s₄.heap.objs.size (List.range s₄.heap.objs.size) wr pz n₀ F 0 { s₄ with gens := s₄.gens.push gs, toks := tk, heap := h₅ } →
            (s.toks ≤ tk → Q (.ref a) { s₄ with gens := s₄.gens.push gs, toks := tk, heap := h₅ }))) (fun e s' => s.toks ≤ s'.toks → E e s') { s with heap := h₃, toks := tk₃ } := by
    intro code g₃ h₃ tk₃ hg₃ H₃
    obtain ⟨mg, n⟩ := H₃.cx.m
    have n' := n.keeps H₃.keep
    obtain ⟨bm, ob, e1, ne1, ho, hcl, hdi, hdat⟩ := H₃.cx.bm
    rw [hg]
    refine wpAny_builtinsFor n' (mg_of H₃.inK n' e1) ne1 (H₃.keep _ _ ho) hcl hdi hdat ?_
    have hI : ∃ o, h₃.get? I = some o ∧ LiO x 0 o := H₃.atHead
    have hIg : g₃.get? I = none := (H₃.own _ (.head _)).2
    obtain ⟨oI, eI, hIc, hId⟩ := hI
    have hN : ∀ b o, g₃.get? b = some o → b < h₃.objs.size := fun b o e => Heap.lt_size (H₃.keep b o e)
    obtain ⟨ox, exo, n0, rfl⟩ := hx
    have hsx : SeqAt g₃ x vs := ⟨_, n0, hg₃ _ _ exo, rfl⟩
    have hlim : h₃.NoLimit := H₃.cx.N.keeps H₃.keep
    have hcs : cStatics ≠ I := by
      rintro rfl
      obtain ⟨m, nn, _⟩ := H₃.cx.N
      obtain ⟨o, es, ep, e, _⟩ := nn
      rw [hIg] at e; cases e
    refine ⟨I, List.range h₃.objs.size, [I], ps.length, PtOf ps, (fun i h => h.IsListIter I x i ∧ Le g₃ h), (fun i T h => (h.IsListIter I x (i + 1) ∧ Le g₃ h) ∧ T ≠ I), (fun _ => true), F, rfl,
      fun A' hA' => walks_row hA' hsx (hp.le hg₃) hN (Heap.lt_size eI) hIg, ?_, ⟨⟨oI, eI, hIc, hId⟩, H₃.keep⟩, fun b hb => List.mem_range.mp hb, hlim, by simp [hcs], ?_, ?_⟩
    · rintro i vals ⟨p, ta, tb, _, rfl⟩; exact ⟨_, _, rfl⟩
    · intro href hr
      refine ⟨fun A' E' i va vb s₂ m₂ hh' hP hn hma hmb hkp => ?_, fun A' E' i va vb s₂ m₂ hh' hP _ hn hma hmb hkp => ?_⟩
      · rw [List.forIn_nil]; exact wpAny_pure ⟨rfl, ⟨s₂.heap, s₂.toks, rfl, fun _ _ e => e⟩⟩
      · refine helt g₃ h₃.objs.size code builtinsNs A' E' i va vb s₂ m₂ H₃.cx rfl hh' hP hn hma hmb fun b o e => ?_
        refine hkp b (List.mem_range.mpr (hN b o e)) (fun q => ?_) o (hr b o (H₃.keep b o e))
        rw [List.mem_singleton] at q
        subst q
        rw [hIg] at e; cases e
    · intro a h₅ tk gs hbare hlt hsz hk5 W G htk
      have el : (passing (fun _ => true) ps.length 0).length = ps.length := by unfold passing; rw [List.drop_zero, List.filter_eq_self.mpr (fun _ _ => rfl), List.length_range]
      rw [el] at W
      dsimp only at hlt hsz
      have gk5 : ∀ (i : Nat) (y : GenState), γ₀[i]? = some y → (s.gens.push gs)[i]? = some y := fun i y e => by
        have e' := H.gk i y e
        have : i < s.gens.size := by
          rcases Nat.lt_or_ge i s.gens.size with z | z
          · exact z
          · rw [Array.getElem?_eq_none z] at e'; cases e'
        rw [Array.getElem?_push_lt this]
        rw [Array.getElem?_eq_getElem this] at e'
        exact e'
      have gb5 : AllBare (s.gens.push gs) := by
        intro y hy
        rcases Array.mem_push.mp hy with hy | rfl
        · exact H.gb y hy
        · exact hbare
      refine h a I h₃.objs.size h₃.objs.size s.gens.size g₃ h₅ (s.gens.push gs) tk (a :: h₃.objs.size :: List.range h₃.objs.size) hg₃ htk W G ?_ (List.mem_cons_self ..) ?_ ((H₃.tail.grow hk5).gens gk5 gb5)
      · intro b hb
        rw [hsz]
        rcases List.mem_cons.mp hb with rfl | hb
        · exact Nat.lt_succ_self _
        · rcases List.mem_cons.mp hb with rfl | hb
          · exact Nat.lt_succ_of_lt hlt
          · exact Nat.lt_succ_of_lt (Nat.lt_trans (List.mem_range.mp hb) hlt)
      · intro s'' hm
        refine (H₃.drop (h' := s''.heap) fun b o hb e => ?_).gens (fun i y e => ?_) ?_
        · refine hm.heap b o ?_ (hk5 b o e)
          intro q
          rcases List.mem_cons.mp q with q | q
          · exact absurd (Heap.lt_size e) (by rw [q]; exact Nat.lt_irrefl _)
          · exact hb (List.mem_singleton.mp q)
        · have e5 := gk5 i y e
          rcases hm.gens with q | ⟨⟨_, q⟩, _⟩
          · rw [q]; exact e5
          · rw [q i ?_]
            · exact e5
            · rintro rfl
              have e' := H.gk _ y e
              rw [Array.getElem?_eq_none (Nat.le_refl _)] at e'; cases e'
        · exact GenOnlyQ.bare hm.gens gb5
  have H2c : St w g γ₀ h₂ s.gens ((I, LiO x 0) :: (Lf, FrO bs) :: L) := H₂.perm (.swap _ _ _)
  obtain ⟨ps0, tb, e0, hn0, grow⟩ := H2c.site hq
  have C2 : CodeHd h₂ c q.1 := hC2 h₂ H2c.inK
  rcases tb with rfl | ⟨c', rfl, hrec⟩
  · refine wpAny_genexprCodeX hcode (C2.code e0 trivial) (C2.tab e0) rfl fun c' h' tk hx' hge hlt hcode' hrec htab' _ => ?_
    obtain ⟨g₃, l, kp, mk⟩ := grow h' _ hx' htab'.2
    have hrec' : g₃.CodeRec (.ref c') q.2.2.2 := by
      rw [hqn] at hrec
      obtain ⟨c₂, o, vs', t, e1, e2, e3, e4⟩ := hrec
      cases e1
      exact ⟨_, o, vs', t, rfl, kp _ _ hge e2, e3, e4⟩
    exact tail _ g₃ h' tk l (mk (.inr ⟨c', by rw [hl1, hl2]; rfl, hrec'⟩))
  · have hht : codeAmong pos (#[rawInt q.2.1, rawInt q.2.2.1, Value.ref c'] : Array Value).toList = some (.ref c') := by simp [codeAmong, rawInt, hl1, hl2]
    refine wpAny_genexprCode_hit hcode (C2.code e0 (by simp [TriplesOk, rawInt])) hht ?_
    exact tail _ g h₂ s.toks (.refl _) H2c
end
section
variable {prog : Program} {w : World} {A : Around} {E : Value → Shared → Prop} {s : Shared} {g : Heap} {env : Env}
theorem gname_global {x : Str} {pos : Pos} {v : Value} {Q : Value → Shared → Prop} (C : Cx w g) (hle : Le g s.heap) (e : nsIn (hd.heap_1 w.params) mainGlobals x = some (some v)) (h : Q v s)
    (hk : env.scope.kind = .function := by rfl) (hx : env.kindOf x = some .globalImplicit := by rfl) (hg : env.globals = mainGlobals := by rfl) (hd : (x == ("__debug__" : Str)) = false := by decide) :
    wpAny (model prog w) A (eval (.Name x pos) env) Q E s := by
  refine Name_function_global hk hx ?_ hd
  unfold loadGlobal
  rw [hg]
  exact wpAny_bind ((looks_nsIn (C.X.keeps hle) e).here (wpAny_pure h))
theorem gname_builtin {x : Str} {pos : Pos} {v : Value} {Q : Value → Shared → Prop} (C : Cx w g) (hle : Le g s.heap) (e : nsIn (hd.heap_1 w.params) mainGlobals x = some none) (hv : bootBuiltins x = some v) (h : Q v s)
    (hbi : env.builtins = builtinsNs) (hn : x ≠ ("__name__" : Str) := by decide) (hk : env.scope.kind = .function := by rfl) (hx : env.kindOf x = some .globalImplicit := by rfl) (hg : env.globals = mainGlobals := by rfl) (hd : (x == ("__debug__" : Str)) = false := by decide) :
    wpAny (model prog w) A (eval (.Name x pos) env) Q E s := by
  refine Name_function_global hk hx ?_ hd
  unfold loadGlobal
  rw [hg]
  refine wpAny_bind ((looks_nsIn (C.X.keeps hle) e).here ?_)
  obtain ⟨mb, n, hm⟩ := C.b
  dsimp only
  rw [hbi]
  refine wpAny_bind (wpAny_nsGet (n.keeps hle) ?_)
  rw [hm x hn, hv]
  exact wpAny_pure h
theorem gname_local {x : Str} {pos : Pos} {v : Value} {m : Str → Option Value} {Q : Value → Shared → Prop} (n : s.heap.Ns env.locals m) (hv : m x = some v) (h : Q v s)
    (hk : env.scope.kind = .function := by rfl) (hl : env.kindOf x = some .local := by rfl) (hd : (x == ("__debug__" : Str)) = false := by decide) : wpAny (model prog w) A (eval (.Name x pos) env) Q E s :=
  wpAny_Name (wpAny_loadName_local hk hl n hv h) hd
end
local macro_rules | `(tactic| walk_at "eval Name") => `(tactic| ((with_reducible rename Cx _ _ => hcx'); k_dflt (first
  | (refine' gname_builtin hcx' (by with_reducible assumption) (by k_is) (by boot_by_name) ?_ rfl; k_whole)
  | (refine' gname_global hcx' (by with_reducible assumption) (by k_is) ?_; k_whole)
  | (refine' gname_local (by assumption) (by assumption) ?_; k_whole))))
theorem len_txt {prog : Program} {w : World} {A : Around} {E : Value → Shared → Prop} {s : Shared} {x : Str} {t : Tok} {Q : Value → Shared → Prop} (hz : x.length ≤ 1000000) (h : Q (.int (x.length : Nat) (s.toks + 1)) { s with toks := s.toks + 1 + 1 }) : wpAny (model prog w) A (call (.builtin "len") [.str x t]) Q E s :=
  PySem.P.len_str (by walk_at "o") h
local macro_rules | `(tactic| walk_at "call builtin:len") => `(tactic| ((with_reducible show wpAny _ _ (call (Value.builtin _) [Value.str _ _]) _ _ _); refine' len_txt (by walk_at "mine nat") ?_; k_whole))

-- T14
noncomputable def pl (p : Str × Str) : Nat := p.1.length + p.2.length
noncomputable def plen (ps : List (Str × Str)) : Nat := (ps.map pl).sum
noncomputable def plF (ps : List (Str × Str)) (i : Nat) (y : Value) : Prop := ∀ p, ps[i]? = some p → ∃ t, y = .int (pl p : Nat) t
theorem preSum_pl (ps : List (Str × Str)) : ∀ n, n ≤ ps.length → preSum (fun j => ((pl (ps[j]?.getD ("", "")) : Nat) : Int)) n = (plen (ps.take n) : Nat)
  | 0, _ => rfl
  | n + 1, h => by
    show preSum _ n + _ = _
    rw [preSum_pl ps n (by walk_at "o"), List.take_succ_eq_append_getElem (by walk_at "o")]
    have e : ps[n]? = some ps[n] := by simp [Nat.lt_of_succ_le h]
    dsimp only
    rw [e]
    simp only [plen, List.map_append, List.sum_append, List.map_cons, List.map_nil, List.sum_cons, List.sum_nil, Option.getD_some]
    walk_at "o"
section
variable {prog : Program} [PrOk prog] {w : World} {A : Around} {E : Value → Shared → Prop} {s : Shared} {g : Heap} {γ₀ : Array GenState} {L : List Ent} {x dx : Addr} {vs : List Value} {ki : Int} {kt : Nat} {ps : List (Str × Str)}
theorem len_s {Q : Value → Shared → Prop} (H : St w g γ₀ s.heap s.gens L) (hA : Ok A 4 60) (hx : ∃ o, g.get? x = some o ∧ AccO dx vs o) (hdx : ∃ o, g.get? dx = some o ∧ NsO [("_initial_size", .int ki kt)] o) (hp : Parts g vs ps) (hz : ∀ p ∈ ps, pl p ≤ 1000)
    (hQ : ∀ (t : Nat) g' h' γ' tk', s.toks ≤ tk' → Le g g' → St w g' γ₀ h' γ' L → Q (.int (ki + (plen ps : Nat)) t) { s with heap := h', gens := γ', toks := tk' }) : wpAny (model prog w) A (call (.ref 236) [.ref x]) Q E s := by
  refine' call_fn (bs := [("self", .ref x)]) F236 H hA.room ?hb ?hbind ?hcell ?hloc ?hbs ?h1 ?h2 ?h3 ?_
  walk_at "mine enter"
  intro Lf h₁ tk htk H'
  k_fold
  walk_at "mine walk"
  refine' gen_row (q := (231, 195, 19, Str.ofString "_Accumulator.__len__.<locals>.<genexpr>")) (c := 235) (F := plF ps) H' ?a1 rfl hx hp rfl rfl rfl rfl ?a2 ?a3 rfl rfl rfl ?a4 rfl ?a5 ?a6 ?a7 ?a8 ?a9 ?a10 rfl ?a11 ?_
  case a1 => exact (hA.le (d' := 2 + 1) (u' := 20 + 3) (by decide) (by decide)).deeper
  case a2 => decide
  case a3 => exact fun h X => code235 X
  case a4 => kernel_rfl
  case a5 => exact rfl
  case a6 => decide
  case a7 => rfl
  case a8 => rfl
  case a9 => rfl
  case a10 => decide
  case a11 =>
    rintro g₂ C code bi A' E' i va vb s₂ m₂ hcx rfl hh ⟨p, ta, tb, hpi, hv⟩ hn hma hmb hle
    obtain ⟨rfl, rfl⟩ : va = .str p.1 ta ∧ vb = .str p.2 tb := by simpa using hv
    have hpl : p.1.length + p.2.length ≤ 1000 := hz p (List.mem_of_getElem? hpi)
    refine wpAny_BinOp ?_
    walk_at "mine walk"
    refine ⟨fun p' hp' => ?_, ⟨s₂.heap, _, rfl, fun _ _ e => e⟩⟩
    rw [hpi] at hp'
    obtain rfl := Option.some.inj hp'
    exact ⟨_, by unfold pl; rw [Int.natCast_add]⟩
  intro a I C N gn g1 h1 γ1 tk1 fp hg1 htk1 W G hfp _ hmv H1
  dsimp only at htk1
  have hx1 : InH g1 ((Lf, FrO ([("self", .ref x)] : Bs)) :: L) x (AccO dx vs) := .inl (let ⟨o, e, p⟩ := hx; ⟨o, hg1 _ _ e, p⟩)
  have hdx1 : InH g1 ((Lf, FrO ([("self", .ref x)] : Bs)) :: L) dx (NsO [("_initial_size", .int ki kt)]) := .inl (let ⟨o, e, p⟩ := hdx; ⟨o, hg1 _ _ e, p⟩)
  walk_at "mine walk"
  have G' := W.frame 0 _ h1 (tk1 + 1) G (Nat.le_succ _) (fun _ _ _ e => e)
  refine call_sum_start (val := fun j => ((pl (ps[j]?.getD ("", "")) : Nat) : Int)) W.in4_1 G' hfp (fun i v hv => ?_) fun s' t' hm => ?_
  · obtain ⟨j, hj, hF⟩ := hv
    have hj' : j < ps.length ∧ j = i := by
      unfold passing at hj
      rw [List.drop_zero, List.filter_eq_self.mpr (fun _ _ => rfl)] at hj
      have := List.getElem?_eq_some_iff.mp hj
      obtain ⟨h1, h2⟩ := this
      simp at h1 h2
      exact ⟨by walk_at "o", h2.symm⟩
    obtain ⟨hlt, rfl⟩ := hj'
    have e : ps[j]? = some ps[j] := by simp [hlt]
    rw [e]
    exact hF _ e
  · have e := preSum_pl ps ps.length (Nat.le_refl _)
    rw [List.take_length] at e
    rw [e]
    have hm' : Moved [C, I] (GenOnlyQ gn) { s with heap := h1, gens := γ1, toks := tk1 } s' := ⟨hm.heap, hm.gens, hm.drawn, hm.os, Nat.le_trans (Nat.le_succ _) hm.toks⟩
    have H9 := hmv s' hm'
    have hd := hm.drawn
    have ho := hm.os
    have ht := hm.toks
    obtain ⟨h9, γ9, d9, tk9, o9⟩ := s'
    dsimp only at hd ho ht
    subst hd ho
    walk_at "mine fin"
    exact hQ _ g1 h9 γ9 tk9 (by walk_at "o") hg1 H9.tail
end

-- T15
noncomputable def pt (p : Str × Str) : Str := Txt.join "" [p.1, p.2]
noncomputable def rowT (ps : List (Str × Str)) : Str := Txt.join "" (ps.map pt)
noncomputable def ptF (ps : List (Str × Str)) (i : Nat) (y : Value) : Prop := ∀ p, ps[i]? = some p → ∃ t, y = .str (pt p) t
theorem sep0 : (("" : Str)).length = 0 := by decide
theorem join0_codes : ∀ l : List Str, (Txt.join "" l).cps.toList = (l.map (·.cps.toList)).flatten
  | [] => rfl
  | p :: r => by
    have g : ∀ (r : List Str) (acc : Array Nat), (r.foldl (fun acc p => acc ++ ("" : Str).cps ++ p.cps) acc).toList = acc.toList ++ (r.map (·.cps.toList)).flatten := by
      intro r
      induction r with
      | nil => intro acc; simp
      | cons q r ih =>
        intro acc
        rw [List.foldl_cons, ih]
        have e : ("" : Str).cps = #[] := by decide
        rw [e]; simp
    show (r.foldl (fun acc p => acc ++ ("" : Str).cps ++ p.cps) p.cps).toList = _
    rw [g, List.map_cons, List.flatten_cons]
theorem len_codes (x : Str) : x.length = x.cps.toList.length := by simp [Str.length]
theorem pt_codes (p : Str × Str) : (pt p).cps.toList = p.1.cps.toList ++ p.2.cps.toList := by
  unfold pt; rw [join0_codes]; simp
theorem pt_len (p : Str × Str) : (pt p).length = pl p := by
  rw [len_codes, pt_codes, List.length_append]; unfold pl; rw [len_codes, len_codes]
theorem row_codes (ps : List (Str × Str)) : (rowT ps).cps.toList = (ps.map fun p => p.1.cps.toList ++ p.2.cps.toList).flatten := by
  unfold rowT; rw [join0_codes, List.map_map]; congr 1; exact List.map_congr_left fun p _ => pt_codes p
section
variable {prog : Program} [PrOk prog] {w : World} {A : Around} {E : Value → Shared → Prop} {s : Shared} {g : Heap} {γ₀ : Array GenState} {L : List Ent} {x dx : Addr} {vs : List Value} {ki : Int} {kt : Nat} {ps : List (Str × Str)}
theorem str_s {Q : Value → Shared → Prop} (H : St w g γ₀ s.heap s.gens L) (hA : Ok A 4 60) (hx : ∃ o, g.get? x = some o ∧ AccO dx vs o) (hp : Parts g vs ps) (hz : ∀ p ∈ ps, pl p ≤ 1000) (hl : ps.length ≤ 1000)
    (hQ : ∀ (t : Nat) g' h' γ' tk', s.toks ≤ tk' → Le g g' → St w g' γ₀ h' γ' L → Q (.str (rowT ps) t) { s with heap := h', gens := γ', toks := tk' }) : wpAny (model prog w) A (call (.ref 243) [.ref x]) Q E s := by
  refine' call_fn (bs := [("self", .ref x)]) F243 H hA.room ?hb ?hbind ?hcell ?hloc ?hbs ?h1 ?h2 ?h3 ?_
  walk_at "mine enter"
  intro Lf h₁ tk htk H'
  k_fold
  walk_at "mine walk"
  refine' gen_row (q := (238, 198, 32, Str.ofString "_Accumulator.__str__.<locals>.<genexpr>")) (c := 242) (F := ptF ps) H' ?a1 rfl hx hp rfl rfl rfl rfl ?a2 ?a3 rfl rfl rfl ?a4 rfl ?a5 ?a6 ?a7 ?a8 ?a9 ?a10 rfl ?a11 ?_
  case a1 => exact (hA.le (d' := 2 + 1) (u' := 20 + 3) (by decide) (by decide)).deeper
  case a2 => decide
  case a3 => exact fun h X => code242 X
  case a4 => kernel_rfl
  case a5 => exact rfl
  case a6 => decide
  case a7 => rfl
  case a8 => rfl
  case a9 => rfl
  case a10 => decide
  case a11 =>
    rintro g₂ C code bi A' E' i va vb s₂ m₂ hcx rfl hh ⟨p, ta, tb, hpi, hv⟩ hn hma hmb hle
    obtain ⟨rfl, rfl⟩ : va = .str p.1 ta ∧ vb = .str p.2 tb := by simpa using hv
    have hpl : p.1.length + p.2.length ≤ 1000 := hz p (List.mem_of_getElem? hpi)
    walk_at "mine walk"
    refine wpAny_newTuple ?_
    walk_at "mine walk"
    have ht : IsTup (s₂.heap.push { cls := .type "tuple", data := .seq #[Value.str p.1 ta, Value.str p.2 tb] }) s₂.heap.objs.size #[Value.str p.1 ta, Value.str p.2 tb] := ⟨_, Heap.get?_push_size _ rfl, rfl, 0, rfl⟩
    refine join_tuple (ys := [p.1, p.2]) ht (.cons _ _ (.cons _ _ .nil)) ?_ fun t' k => ⟨fun p' hp' => ?_, ⟨_, k, rfl, fun b o e => Heap.get?_push_of_some _ e⟩⟩
    · have : (("" : Str)).length = 0 := by decide
      simp [this]; walk_at "o"
    · rw [hpi] at hp'
      obtain rfl := Option.some.inj hp'
      exact ⟨t', rfl⟩
  intro a I C N gn g1 h1 γ1 tk1 fp hg1 htk1 W G hfp haf hmv H1
  dsimp only at htk1
  walk_at "mine walk"
  refine wpAny_with_toks (n := tk1) (Nat.le_refl _) ?_
  have hP : ∀ (i : Nat) (v : Value), (∃ j, (passing (fun _ => true) ps.length 0)[i]? = some j ∧ ptF ps j v) → ∃ p t, ps[i]? = some p ∧ v = .str (pt p) t := by
    rintro i v ⟨j, hj, hF⟩
    have hj' : j < ps.length ∧ j = i := by
      unfold passing at hj
      rw [List.drop_zero, List.filter_eq_self.mpr (fun _ _ => rfl)] at hj
      have := List.getElem?_eq_some_iff.mp hj
      obtain ⟨h1, h2⟩ := this
      simp at h1 h2
      exact ⟨by walk_at "o", h2.symm⟩
    obtain ⟨hlt, rfl⟩ := hj'
    have e : ps[j]? = some ps[j] := by simp [hlt]
    obtain ⟨t, e'⟩ := hF _ e
    exact ⟨_, t, e, e'⟩
  refine SC.joinGen (I := a) W.in4_2 (fun i s' st => st.1.typeIs) G hfp haf (fun i v hv => let ⟨p, t, _, e⟩ := hP i v hv; ⟨_, t, e⟩) (fun s' l hm hi => ?_) (by unfold sizeLine; walk_at "o")
  have el : l.map (·.1) = ps.map pt := by
    obtain ⟨hz1, hz2⟩ := hi
    have hlen : l.length = ps.length := by simpa [strValues] using hz1
    apply List.ext_getElem (by simp [hlen])
    intro i h1 h2
    simp only [List.length_map] at h1 h2
    obtain ⟨p, t, e1, e2⟩ := hP i _ (hz2 i _ (by simp [strValues, h1]; rfl))
    simp only [Value.str.injEq] at e2
    rw [List.getElem_map, List.getElem_map]
    rw [List.getElem?_eq_getElem h2] at e1
    obtain rfl := Option.some.inj e1
    exact e2.1
  rw [el]
  refine ⟨joinOk_of ?_, fun t' k hk => ?_⟩
  · have key : ∀ qs : List (Str × Str), (∀ p ∈ qs, pl p ≤ 1000) → ((qs.map pt).map (·.length)).sum ≤ 1000 * qs.length := by
      intro qs
      induction qs with
      | nil => intro _; simp
      | cons p r ih =>
        intro h
        rw [List.map_cons, List.map_cons, List.sum_cons, pt_len, List.length_cons]
        have := h p (.head _)
        have := ih fun q hq => h q (.tail _ hq)
        walk_at "o"
    have := key ps hz
    rw [sep0]
    walk_at "o"
  · have H9 := hmv s' hm
    have hd := hm.drawn
    have ho := hm.os
    obtain ⟨h9, γ9, d9, tk9, o9⟩ := s'
    dsimp only at hd ho hk
    subst hd ho
    walk_at "mine fin"
    exact hQ _ g1 h9 γ9 k (by walk_at "o") hg1 H9.tail
end

-- M2
/-- the register in plain words: bits from the oldest on, the carry -/
noncomputable def bi (b : Bool) : Int := if b then 1 else 0
noncomputable def wS (wf : Nat → Int) (bits : List Bool) (c : Int) : Nat → Int
  | 0 => c
  | k + 1 => wS wf bits c k + wf (bits.length - k) * bi (bits.getD k false)
noncomputable def stp (wf : Nat → Int) (p : List Bool × Int) : List Bool × Int :=
  (p.1.drop 1 ++ [decide (wS wf p.1 p.2 p.1.length % 2 = 1)], wS wf p.1 p.2 p.1.length / 2)
noncomputable def stps (wf : Nat → Int) : Nat → List Bool × Int → List Bool × Int
  | 0, p => p
  | k + 1, p => stp wf (stps wf k p)
noncomputable def innT (wf : Nat → Int) (bits : List Bool) (k : Nat) (j : Nat) : Int := wf (j + 1) * bi (bits.getD (k - (j + 1)) false)
noncomputable def inn (wf : Nat → Int) (bits : List Bool) (k : Nat) : Nat → Int
  | 0 => 0
  | j + 1 => inn wf bits k j + innT wf bits k j
noncomputable def tl (wf : Nat → Int) (bits : List Bool) (c : Int) : Nat → Int
  | 0 => -c * 2 ^ bits.length
  | k + 1 => tl wf bits c k + 2 ^ k * (inn wf bits k k - bi (bits.getD k false))
noncomputable def num (wf : Nat → Int) (p : List Bool × Int) : Int := tl wf p.1 p.2 p.1.length
noncomputable def wfO (odd : Nat) (i : Nat) : Int := (((odd + 1) / 2 ^ i % 2 : Nat) : Int)
noncomputable def szO (odd : Nat) : Nat := if odd ≤ 5 then 2 else 3
noncomputable def oddOk (odd : Nat) : Prop := odd = 3 ∨ odd = 5 ∨ odd = 7 ∨ odd = 9 ∨ odd = 11 ∨ odd = 13
/-- the bit that a step takes off -/
noncomputable def outB (wf : Nat → Int) (p : List Bool × Int) (k : Nat) : Bool := (stps wf k p).1.headD false
noncomputable def outs (wf : Nat → Int) (p : List Bool × Int) (k : Nat) : List Bool := (List.range k).map (outB wf p)

theorem len2 {l : List Bool} (h : l.length = 2) : ∃ a b, l = [a, b] := by
  match l, h with
  | [a, b], _ => exact ⟨a, b, rfl⟩
theorem len3 {l : List Bool} (h : l.length = 3) : ∃ a b c, l = [a, b, c] := by
  match l, h with
  | [a, b, c], _ => exact ⟨a, b, c, rfl⟩

theorem bi_dec (n : Int) : bi (decide (n % 2 = 1)) = n % 2 := by
  rcases Int.emod_two_eq n with e | e <;> rw [e] <;> rfl
theorem arith2 (o c x y z a b S : Int) (ho : o * a = 4 * x + 2 * y - a) (hS : S = c + x + z) :
    2 * (-(S / 2) * 4 + 1 * (0 - b) + 2 * (0 + z - S % 2)) = -c * 4 + 1 * (0 - a) + 2 * (0 + y - b) - o * a := by
  rw [ho]; walk_at "o"
theorem num2 {wf : Nat → Int} {o : Int} (a b : Bool) (c : Int) (h : o = 4 * wf 2 + 2 * wf 1 - 1) : 2 * num wf (stp wf ([a, b], c)) = num wf ([a, b], c) - o * bi a := by
  have h2 : ∀ S : Int, num wf ([b, decide (S % 2 = 1)], S / 2) = -(S / 2) * 4 + 1 * (0 - bi b) + 2 * (0 + wf 1 * bi b - S % 2) := fun S =>
    (show _ = -(S / 2) * 4 + 1 * (0 - bi b) + 2 * (0 + wf 1 * bi b - bi (decide (S % 2 = 1))) from rfl).trans (by rw [bi_dec])
  have e : num wf (stp wf ([a, b], c)) = _ := h2 (c + wf 2 * bi a + wf 1 * bi b)
  rw [e]
  refine arith2 o c (wf 2 * bi a) (wf 1 * bi a) (wf 1 * bi b) (bi a) (bi b) _ ?_ rfl
  rw [h, Int.sub_mul, Int.add_mul, Int.mul_assoc, Int.mul_assoc, Int.one_mul]
theorem arith3 (o c x y z u v t a b d S : Int) (ho : o * a = 8 * x + 4 * y + 2 * z - a) (hS : S = c + x + u + t) :
    2 * (-(S / 2) * 8 + 1 * (0 - b) + 2 * (0 + v - d) + 4 * (0 + t + u - S % 2)) = -c * 8 + 1 * (0 - a) + 2 * (0 + z - b) + 4 * (0 + v + y - d) - o * a := by
  rw [ho]; walk_at "o"
theorem num3 {wf : Nat → Int} {o : Int} (a b d : Bool) (c : Int) (h : o = 8 * wf 3 + 4 * wf 2 + 2 * wf 1 - 1) : 2 * num wf (stp wf ([a, b, d], c)) = num wf ([a, b, d], c) - o * bi a := by
  have h2 : ∀ S : Int, num wf ([b, d, decide (S % 2 = 1)], S / 2) = -(S / 2) * 8 + 1 * (0 - bi b) + 2 * (0 + wf 1 * bi b - bi d) + 4 * (0 + wf 1 * bi d + wf 2 * bi b - S % 2) := fun S =>
    (show _ = -(S / 2) * 8 + 1 * (0 - bi b) + 2 * (0 + wf 1 * bi b - bi d) + 4 * (0 + wf 1 * bi d + wf 2 * bi b - bi (decide (S % 2 = 1))) from rfl).trans (by rw [bi_dec])
  have e : num wf (stp wf ([a, b, d], c)) = _ := h2 (c + wf 3 * bi a + wf 2 * bi b + wf 1 * bi d)
  rw [e]
  refine arith3 o c (wf 3 * bi a) (wf 2 * bi a) (wf 1 * bi a) (wf 2 * bi b) (wf 1 * bi b) (wf 1 * bi d) (bi a) (bi b) (bi d) _ ?_ rfl
  rw [h, Int.sub_mul, Int.add_mul, Int.add_mul, Int.mul_assoc, Int.mul_assoc, Int.mul_assoc, Int.one_mul]
theorem num_step {odd : Nat} (ho : oddOk odd) (p : List Bool × Int) (hl : p.1.length = szO odd) : 2 * num (wfO odd) (stp (wfO odd) p) = num (wfO odd) p - odd * bi (p.1.headD false) ∧ (stp (wfO odd) p).1.length = szO odd := by
  obtain ⟨bits, c⟩ := p
  dsimp only at hl
  rcases ho with rfl | rfl | rfl | rfl | rfl | rfl
  · obtain ⟨a, b, rfl⟩ := len2 hl
    exact ⟨num2 a b c (by decide), rfl⟩
  · obtain ⟨a, b, rfl⟩ := len2 hl
    exact ⟨num2 a b c (by decide), rfl⟩
  · obtain ⟨a, b, d, rfl⟩ := len3 hl
    exact ⟨num3 a b d c (by decide), rfl⟩
  · obtain ⟨a, b, d, rfl⟩ := len3 hl
    exact ⟨num3 a b d c (by decide), rfl⟩
  · obtain ⟨a, b, d, rfl⟩ := len3 hl
    exact ⟨num3 a b d c (by decide), rfl⟩
  · obtain ⟨a, b, d, rfl⟩ := len3 hl
    exact ⟨num3 a b d c (by decide), rfl⟩
theorem stps_len {odd : Nat} (ho : oddOk odd) (p : List Bool × Int) (hl : p.1.length = szO odd) : ∀ k, (stps (wfO odd) k p).1.length = szO odd
  | 0 => hl
  | k + 1 => (num_step ho _ (stps_len ho p hl k)).2
noncomputable def wrt (wf : Nat → Int) (p : List Bool × Int) : Nat → Int
  | 0 => 0
  | k + 1 => wrt wf p k + 2 ^ k * bi (outB wf p k)
theorem num_steps {odd : Nat} (ho : oddOk odd) (p : List Bool × Int) (hl : p.1.length = szO odd) : ∀ k, num (wfO odd) p = odd * wrt (wfO odd) p k + 2 ^ k * num (wfO odd) (stps (wfO odd) k p)
  | 0 => by simp [wrt, stps]
  | k + 1 => by
    have h1 := (num_step ho _ (stps_len ho p hl k)).1
    have h2 := num_steps ho p hl k
    rw [h2]
    show _ = odd * (wrt (wfO odd) p k + 2 ^ k * bi (outB (wfO odd) p k)) + 2 ^ (k + 1) * num (wfO odd) (stp (wfO odd) (stps (wfO odd) k p))
    have e : (2 : Int) ^ (k + 1) * num (wfO odd) (stp (wfO odd) (stps (wfO odd) k p)) = 2 ^ k * (2 * num (wfO odd) (stp (wfO odd) (stps (wfO odd) k p))) := by rw [Int.pow_succ, Int.mul_assoc]
    rw [e, h1, Int.mul_sub, Int.mul_add]
    have e2 : (2 : Int) ^ k * (↑odd * bi ((stps (wfO odd) k p).1.headD false)) = odd * (2 ^ k * bi (outB (wfO odd) p k)) := by
      rw [← Int.mul_assoc, Int.mul_comm (2 ^ k), Int.mul_assoc]; rfl
    rw [e2]
    walk_at "o"
theorem wrt_range (wf : Nat → Int) (p : List Bool × Int) : ∀ k, 0 ≤ wrt wf p k ∧ wrt wf p k ≤ 2 ^ k - 1
  | 0 => by simp [wrt]
  | k + 1 => by
    obtain ⟨h1, h2⟩ := wrt_range wf p k
    show 0 ≤ wrt wf p k + 2 ^ k * bi (outB wf p k) ∧ wrt wf p k + 2 ^ k * bi (outB wf p k) ≤ 2 ^ (k + 1) - 1
    have hp : (0 : Int) < 2 ^ k := Int.pow_pos (by decide)
    rw [Int.pow_succ]
    cases outB wf p k <;> simp only [bi, if_true, if_false, Bool.false_eq_true, Int.mul_one, Int.mul_zero] <;> walk_at "o"
theorem num_low {odd : Nat} (ho : oddOk odd) (p : List Bool × Int) (hl : p.1.length = szO odd) (k : Nat) (h : (num (wfO odd) p).natAbs < 2 ^ k) : -(odd : Int) ≤ num (wfO odd) (stps (wfO odd) k p) ∧ num (wfO odd) (stps (wfO odd) k p) ≤ 0 := by
  have e := num_steps ho p hl k
  obtain ⟨w1, w2⟩ := wrt_range (wfO odd) p k
  have hp : (0 : Int) < 2 ^ k := Int.pow_pos (by decide)
  have hh : num (wfO odd) p < 2 ^ k ∧ -(2 ^ k : Int) < num (wfO odd) p := by
    have : ((num (wfO odd) p).natAbs : Int) < ((2 ^ k : Nat) : Int) := by exact_mod_cast h
    rw [Int.natCast_pow] at this
    have e2 : ((2 : Nat) : Int) = 2 := rfl
    rw [e2] at this
    walk_at "o"
  generalize num (wfO odd) p = F at *
  generalize num (wfO odd) (stps (wfO odd) k p) = N at *
  generalize wrt (wfO odd) p k = W at *
  generalize (2 : Int) ^ k = P at *
  have ho' : (0 : Int) ≤ odd := Int.natCast_nonneg _
  have hW : 0 ≤ (odd : Int) * W := Int.mul_nonneg ho' w1
  have hW2 : (odd : Int) * W ≤ odd * (P - 1) := Int.mul_le_mul_of_nonneg_left w2 ho'
  refine ⟨Int.not_lt.mp fun z => ?_, Int.not_lt.mp fun z => ?_⟩
  · have : P * N ≤ P * (-(odd : Int) - 1) := Int.mul_le_mul_of_nonneg_left (by walk_at "o") (by walk_at "o")
    have e3 : P * (-(odd : Int) - 1) = -((odd : Int) * P) - P := by rw [Int.mul_sub, Int.mul_neg, Int.mul_one, Int.mul_comm P (odd : Int)]
    rw [e3] at this
    rw [Int.mul_sub, Int.mul_one] at hW2
    walk_at "o"
  · have : P * 1 ≤ P * N := Int.mul_le_mul_of_nonneg_left (by walk_at "o") (by walk_at "o")
    walk_at "o"

-- M3
/-- the figures' sum as a number, the first the lowest -/
noncomputable def hsum (f : Nat → Int) : Nat → Int
  | 0 => 0
  | k + 1 => hsum f k + 2 ^ k * f k
noncomputable def figR (odd above : Int) (T j : Nat) : Int := handF odd above (T - 1 - j)
noncomputable def chkT (odd : Nat) (p : List Bool × Int) (above : Int) (T : Nat) : Bool :=
  ((List.range (T - 1)).all fun k => decide ((above * (2 ^ (k + 1) - 1)) % odd ≠ 0)) && decide ((above * (2 ^ T - 1)) % odd = 0) &&
  ((List.range (2 * T)).all fun t => decide (stps (wfO odd) (t + 1) p = p) == decide ((t + 1) % T = 0)) &&
  ((List.range (2 * T)).all fun j => outB (wfO odd) p j == decide (figR odd above T (j % T) = 1)) &&
  decide ((above * (2 ^ T - 1) + above % odd) / odd = hsum (figR odd above T) T) && decide ((above * (2 ^ T - 1) + above % odd) % odd = above % odd)
noncomputable def chk (odd : Nat) (p : List Bool × Int) : Bool := (List.range odd).any fun t => chkT odd p (- num (wfO odd) p) (t + 1)
noncomputable def allL : Nat → List (List Bool)
  | 0 => [[]]
  | n + 1 => (allL n).flatMap fun l => [false :: l, true :: l]
theorem allL_mem : ∀ (l : List Bool), l ∈ allL l.length
  | [] => .head _
  | b :: l => by
    show _ ∈ (allL l.length).flatMap _
    refine List.mem_flatMap.mpr ⟨l, allL_mem l, ?_⟩
    cases b
    · exact .head _
    · exact .tail _ (.head _)
noncomputable def chkAll (odd : Nat) : Bool := (allL (szO odd)).all fun l => (List.range 41).all fun c => let p := (l, (c : Int) - 20); !(decide (-(odd : Int) ≤ num (wfO odd) p) && decide (num (wfO odd) p ≤ 0)) || chk odd p
theorem chk3 : chkAll 3 = true := by decide +kernel
theorem chk5 : chkAll 5 = true := by decide +kernel
theorem chk7 : chkAll 7 = true := by decide +kernel
theorem chk9 : chkAll 9 = true := by decide +kernel
theorem chk11 : chkAll 11 = true := by decide +kernel
theorem chk13 : chkAll 13 = true := by decide +kernel
theorem tl_c (wf : Nat → Int) (bits : List Bool) (c : Int) : ∀ k, tl wf bits c k = tl wf bits 0 k - c * 2 ^ bits.length
  | 0 => by show -c * 2 ^ bits.length = -0 * 2 ^ bits.length - c * 2 ^ bits.length; rw [Int.neg_mul, Int.neg_zero, Int.zero_mul, Int.zero_sub]
  | k + 1 => by
    show tl wf bits c k + _ = tl wf bits 0 k + _ - _
    rw [tl_c wf bits c k]; exact Int.add_right_comm _ _ _
theorem low_dec : (([3, 5, 7, 9, 11, 13] : List Nat).all fun o => (allL (szO o)).all fun l => decide (-60 ≤ num (wfO o) (l, 0)) && decide (num (wfO o) (l, 0) ≤ 60)) = true := by decide +kernel
theorem num_mid {odd : Nat} (ho : oddOk odd) {bits : List Bool} (hl : bits.length = szO odd) (c : Int) : ∃ a : Int, -60 ≤ a ∧ a ≤ 60 ∧ (num (wfO odd) (bits, c) = a - c * 4 ∨ num (wfO odd) (bits, c) = a - c * 8) := by
  have hm : odd ∈ ([3, 5, 7, 9, 11, 13] : List Nat) := by rcases ho with rfl | rfl | rfl | rfl | rfl | rfl <;> decide
  have h := List.all_eq_true.mp (List.all_eq_true.mp low_dec odd hm) bits (hl ▸ allL_mem bits)
  rw [Bool.and_eq_true, decide_eq_true_eq, decide_eq_true_eq] at h
  have e : num (wfO odd) (bits, c) = num (wfO odd) (bits, 0) - c * 2 ^ bits.length := tl_c ..
  have q : bits.length = 2 ∨ bits.length = 3 := by rw [hl]; unfold szO; split <;> decide
  refine ⟨_, h.1, h.2, ?_⟩
  rw [e]
  exact q.imp (fun z => by rw [z]; rfl) (fun z => by rw [z]; rfl)
theorem carry_low {odd : Nat} (ho : oddOk odd) (p : List Bool × Int) (hl : p.1.length = szO odd) (h1 : -(odd : Int) ≤ num (wfO odd) p) (h2 : num (wfO odd) p ≤ 0) : -20 ≤ p.2 ∧ p.2 ≤ 20 := by
  obtain ⟨bits, c⟩ := p
  have h13 : odd ≤ 13 := by rcases ho with h | h | h | h | h | h <;> walk_at "o"
  obtain ⟨a, h3, h4, q⟩ := num_mid ho hl c
  generalize num (wfO odd) (bits, c) = n at h1 h2 q
  clear hl ho
  rcases q with rfl | rfl <;> walk_at "o"
theorem chk_of {odd : Nat} (ho : oddOk odd) (p : List Bool × Int) (hl : p.1.length = szO odd) (h1 : -(odd : Int) ≤ num (wfO odd) p) (h2 : num (wfO odd) p ≤ 0) : chk odd p = true := by
  have hc := carry_low ho p hl h1 h2
  have ha : chkAll odd = true := by
    rcases ho with rfl | rfl | rfl | rfl | rfl | rfl
    · exact chk3
    · exact chk5
    · exact chk7
    · exact chk9
    · exact chk11
    · exact chk13
  unfold chkAll at ha
  rw [List.all_eq_true] at ha
  have h3 := ha p.1 (hl ▸ allL_mem p.1)
  rw [List.all_eq_true] at h3
  have h4 := h3 (p.2 + 20).toNat (List.mem_range.mpr (by walk_at "o"))
  have e : (p.1, (((p.2 + 20).toNat : Nat) : Int) - 20) = p := by
    refine Prod.ext rfl ?_
    show (((p.2 + 20).toNat : Nat) : Int) - 20 = p.2
    walk_at "o"
  dsimp only at h4
  rw [e, decide_eq_true h1, decide_eq_true h2] at h4
  simpa using h4
/-- what the second round shows -/
structure Rnd (odd : Nat) (p : List Bool × Int) (above : Int) (T : Nat) : Prop where
  pos : 1 ≤ T
  le : T ≤ odd
  div : (above * (2 ^ T - 1)) % odd = 0
  min : ∀ k : Nat, 1 ≤ k → k < T → (above * (2 ^ k - 1)) % odd ≠ 0
  back : ∀ t : Nat, 1 ≤ t → t ≤ 2 * T → (stps (wfO odd) t p = p ↔ t % T = 0)
  out : ∀ j : Nat, j < 2 * T → (outB (wfO odd) p j = true ↔ figR odd above T (j % T) = 1)
  quo : (above * (2 ^ T - 1) + above % odd) / odd = hsum (figR odd above T) T
  rem : (above * (2 ^ T - 1) + above % odd) % odd = above % odd
theorem rnd_of {odd : Nat} (ho : oddOk odd) (p : List Bool × Int) (hl : p.1.length = szO odd) (h1 : -(odd : Int) ≤ num (wfO odd) p) (h2 : num (wfO odd) p ≤ 0) : ∃ T, Rnd odd p (- num (wfO odd) p) T := by
  have h := chk_of ho p hl h1 h2
  unfold chk at h
  rw [List.any_eq_true] at h
  obtain ⟨t, ht, hc⟩ := h
  rw [List.mem_range] at ht
  refine ⟨t + 1, ?_⟩
  unfold chkT at hc
  simp only [Bool.and_eq_true, List.all_eq_true, List.mem_range, decide_eq_true_eq, beq_iff_eq] at hc
  obtain ⟨⟨⟨⟨⟨c1, c2⟩, c3⟩, c4⟩, c5⟩, c6⟩ := hc
  refine ⟨by walk_at "o", by walk_at "o", c2, fun k k1 k2 => ?_, fun t' t1 t2 => ?_, fun j hj => ?_, c5, c6⟩
  · have := c1 (k - 1) (by walk_at "o")
    rw [Nat.sub_add_cancel k1] at this
    exact this
  · have := c3 (t' - 1) (by walk_at "o")
    rw [Nat.sub_add_cancel t1] at this
    exact decide_eq_decide.mp this
  · rw [c4 j hj, decide_eq_true_eq]

-- T16
local macro_rules | `(tactic| walk_at "pyIter ref") => `(tactic| (k_dflt (refine' acc_iter (by with_reducible assumption) (by walk_at "mine inh") ?_; walk_at "ii")))
/-- a cell as the row holds it -/
noncomputable def mk (b : Bool) : Str × Str := (" ", if b then "x" else "o")
theorem cnt_mk (b : Bool) : cntX (mk b).2 = b.toNat := by cases b <;> decide +kernel
theorem ascii_mk (b : Bool) : (mk b).2.cps.all (· < 128) = true := by cases b <;> decide +kernel
theorem bi_nat (b : Bool) : ((b.toNat : Nat) : Int) = bi b := by cases b <;> rfl
noncomputable def Ints (vs : List Value) (xs : List Int) : Prop := vs.length = xs.length ∧ ∀ (i : Nat) (y : Int), xs[i]? = some y → ∃ t, vs[i]? = some (.int y t)
theorem Ints.nil : Ints [] [] := ⟨rfl, fun i y h => by simp at h⟩
theorem Ints.snoc {vs : List Value} {xs : List Int} {y : Int} {t : Tok} (h : Ints vs xs) : Ints (vs ++ [.int y t]) (xs ++ [y]) := by
  obtain ⟨h1, h2⟩ := h
  refine ⟨by simp [h1], fun i z hz => ?_⟩
  by_cases hl : i < xs.length
  · rw [List.getElem?_append_left hl] at hz
    obtain ⟨u, e⟩ := h2 i z hz
    exact ⟨u, by rw [List.getElem?_append_left (by walk_at "o")]; exact e⟩
  · rw [List.getElem?_append_right (by walk_at "o")] at hz
    have : i = xs.length := by
      rcases Nat.lt_or_ge (i - xs.length) 1 with z | z
      · walk_at "o"
      · rw [List.getElem?_eq_none (by simpa using z)] at hz; cases hz
    subst this
    rw [Nat.sub_self] at hz
    simp only [List.getElem?_cons_zero, Option.some.injEq] at hz
    subst hz
    exact ⟨t, by rw [List.getElem?_append_right (by walk_at "o"), h1, Nat.sub_self]; rfl⟩
section
variable {prog : Program} [PrOk prog] {w : World} {A : Around} {E : Value → Shared → Prop} {s : Shared} {g : Heap} {γ₀ : Array GenState} {L : List Ent} {x dx : Addr} {vs : List Value} {bits : List Bool}
theorem cells_s {Q : Value → Shared → Prop} (H : St w g γ₀ s.heap s.gens L) (hs : 0 < s.toks) (hA : Ok A 5 60) (hx : ∃ o, g.get? x = some o ∧ AccO dx vs o) (hp : Parts g vs (bits.map mk)) (hl : bits.length ≤ 1000)
    (hQ : ∀ r g' h' γ' tk' ws, s.toks ≤ tk' → Le g g' → Ints ws (bits.map bi) → St w g' γ₀ h' γ' ((r, LstO ws) :: L) → Q (.ref r) { s with heap := h', gens := γ', toks := tk' }) : wpAny (model prog w) A (call (.ref 278) [.ref x]) Q E s := by
  refine' call_fn (bs := [("row", .ref x)]) F278 H hA.room ?hb ?hbind ?hcell ?hloc ?hbs ?h1 ?h2 ?h3 ?_
  walk_at "mine enter"
  intro Lf h₁ tk htk H'
  k_fold
  have hx' : InH g ((Lf, FrO ([("row", .ref x)] : Bs)) :: L) x (AccO dx vs) := .inl hx
  walk_at "mine walk"
  (rename St _ _ _ _ _ _ => H3; rename_i it _)
  obtain ⟨ox, exo, n0, rfl⟩ := hx
  have hsx : SeqAt g x vs := ⟨_, n0, exo, rfl⟩
  have hvl := hp.len
  rw [List.length_map] at hvl
  refine comp_run (iter_seq hsx) ((hA.le (d' := 4 + 1) (u' := 57 + 3) (by decide) (by decide)).deeper.le (by decide) (by decide)) (by dsimp only; walk_at "o") (by unfold sizeLine; walk_at "o") (by decide) rfl
    (fun i _ ws L' => L' = (Lf, FrO ([("row", .ref x)] : Bs)) :: L ∧ Ints ws ((bits.map bi).take i))
    (H3.perm (.swap _ _ _)) ⟨rfl, by simpa using Ints.nil⟩ ?_ ?_
  · rintro i g' h' γ' t tk' ws L' v Lc acc hi hg ht1 ht2 ⟨rfl, hws⟩ hv H4
    dsimp only at ht1
    have hib : i < bits.length := by walk_at "o"
    obtain ⟨v', hv', tp, ta, tb, rfl, htp⟩ := hp.get i (mk bits[i]) (by simp [hib])
    rw [hv] at hv'
    obtain rfl := Option.some.inj hv'
    have htp' := htp.le hg
    have hasc := ascii_mk bits[i]
    have hcnt := cnt_mk bits[i]
    have hh : A.handled = none := hA.h
    walk_at "mine walk"
    rename St _ _ _ _ _ _ => H7
    refine countOf_spec H7 ((hA.le (d' := 4 + 1) (u' := 57 + 3) (by decide) (by decide)).deeper.le (by decide) (by decide)) hasc (by walk_at "o") (by dsimp only; walk_at "o") ?_
    intro t5 g5 h5 γ5 tk5 htk5 hg5 H5
    dsimp only at htk5
    rw [hcnt, bi_nat]
    refine ⟨g5, h5, γ5, tk5, _, _, rfl, hg5, by walk_at "o", ⟨rfl, ?_⟩, H5⟩
    rw [List.take_succ_eq_append_getElem (by simpa using hib), List.getElem_map]
    exact hws.snoc
  · rintro g' h' γ' tk' ws L' acc hg ht1 ⟨rfl, hws⟩ H4
    dsimp only at ht1
    walk_at "mine walk"
    walk_at "mine fin"
    rw [List.take_of_length_le (by simp; walk_at "o")] at hws
    exact hQ _ _ _ _ _ _ (by walk_at "o") hg hws (H4.sub (by walk_at "mine back"))
end

-- T17
theorem Ints.items {vs : List Value} {xs : List Int} (h : Ints vs xs) : ∃ zs : List (Int × Tok), vs = zs.map (fun p => .int p.1 p.2) ∧ zs.map (·.1) = xs := by
  induction xs generalizing vs with
  | nil =>
    obtain ⟨h1, _⟩ := h
    exact ⟨[], by simpa using h1, rfl⟩
  | cons x r ih =>
    obtain ⟨h1, h2⟩ := h
    cases vs with
    | nil => simp at h1
    | cons v vr =>
      obtain ⟨zs, e1, e2⟩ := ih (vs := vr) ⟨by simpa using h1, fun i y hy => by simpa using h2 (i + 1) y (by simpa using hy)⟩
      obtain ⟨t, et⟩ := h2 0 x rfl
      simp only [List.getElem?_cons_zero, Option.some.injEq] at et
      exact ⟨(x, t) :: zs, by rw [et, e1]; rfl, by rw [← e2]; rfl⟩
section
variable {prog : Program} {w : World} {A : Around} {E : Value → Shared → Prop} {s : Shared} {g : Heap} {γ₀ : Array GenState} {L : List Ent}
theorem sum_ints {l : Addr} {vs : List Value} {ns : List Int} {Q : Value → Shared → Prop} (H : St w g γ₀ s.heap s.gens L) (hh : A.handled = none) (hl : s.heap.IsList l vs.toArray) (hi : Ints vs ns)
    (h : ∀ (t : Nat) h' tk', s.toks ≤ tk' → St w g γ₀ h' s.gens L → Q (.int ns.sum t) { s with heap := h', toks := tk' }) : wpAny (model prog w) A (call (.builtin "sum") [.ref l]) Q E s := by
  obtain ⟨zs, rfl, rfl⟩ := hi.items
  refine wpAny_with_toks (n := s.toks) (Nat.le_refl _) ?_
  have e : (zs.map (fun p => Value.int p.1 p.2)).toArray = intItems zs.toArray := by simp [intItems]
  rw [e] at hl
  refine sum_intListG hh hl fun h' tk t' hk htk => ?_
  rw [preSum_eq]
  have e2 : ((zs.toArray.toList.map (·.1)).take zs.toArray.size).sum = (zs.map (·.1)).sum := by rw [List.take_of_length_le (by simp)]
  rw [e2]
  exact h _ _ _ htk (H.grow hk)
end
local macro_rules | `(tactic| walk_at "call builtin:sum") => `(tactic| ((with_reducible show wpAny _ _ (call (Value.builtin _) [Value.ref _]) _ _ _); (refine' sum_ints (by with_reducible assumption) (by walk_at "mine hh") (by walk_at "mine lst") (by assumption) ?_; k_whole; intro t' h' tk' htk' H'; (try dsimp only at H' htk'))))
local macro_rules | `(tactic| walk_at "binaryOp Mult int int") => `(tactic| (refine' mul_int (hm := mul_ok (by assumption) (by assumption)) ?_; k_whole))
local macro_rules | `(tactic| walk_at "subscriptTail") => `(tactic| (walk_at "ri"; refine' sub_lst (by walk_at "mine lst") (by with_reducible assumption) (by walk_at "mine at") (by walk_at "mine nat") ?_ (by with_unfolding_all rfl) (by intro _; with_unfolding_all rfl); k_whole))
theorem inn_sum (wf : Nat → Int) (bits : List Bool) (k : Nat) : ∀ j, ((List.range j).map (innT wf bits k)).sum = inn wf bits k j
  | 0 => rfl
  | j + 1 => by rw [List.range_succ, List.map_append, List.sum_append, inn_sum wf bits k j]; simp [inn]
theorem inn_le {wf : Nat → Int} (hw : ∀ i, wf i = 0 ∨ wf i = 1) (bits : List Bool) (k : Nat) : ∀ j : Nat, 0 ≤ inn wf bits k j ∧ inn wf bits k j ≤ j
  | 0 => by simp [inn]
  | j + 1 => by
    obtain ⟨h1, h2⟩ := inn_le hw bits k j
    have h3 : 0 ≤ innT wf bits k j ∧ innT wf bits k j ≤ 1 := by
      unfold innT bi
      rcases hw (j + 1) with e | e <;> rw [e] <;> split <;> decide
    show 0 ≤ inn wf bits k j + innT wf bits k j ∧ inn wf bits k j + innT wf bits k j ≤ ((j + 1 : Nat) : Int)
    walk_at "o"
section
variable {prog : Program} [PrOk prog] {w : World} {A : Around} {E : Value → Shared → Prop} {s : Shared} {g : Heap} {γ₀ : Array GenState} {L : List Ent} {x dx wl : Addr} {vs ws : List Value} {bits : List Bool} {wi : List Int}
theorem numer_s {c : Int} {tc : Nat} {Q : Value → Shared → Prop} (H : St w g γ₀ s.heap s.gens L) (hs : 0 < s.toks) (hA : Ok A 7 80) (hx : ∃ o, g.get? x = some o ∧ AccO dx vs o) (hp : Parts g vs (bits.map mk)) (hl : bits.length ≤ 10) (hw : ListAt g wl ws) (hwi : Ints ws wi) (hwl : wi.length = bits.length + 1) (hw1 : ∀ y ∈ wi, y = 0 ∨ y = 1) (hc : c.natAbs ≤ 100000)
    (hQ : ∀ (t : Nat) g' h' γ' tk', s.toks ≤ tk' → Le g g' → St w g' γ₀ h' γ' L → Q (.int (num (fun i => wi.getD i 0) (bits, c)) t) { s with heap := h', gens := γ', toks := tk' }) : wpAny (model prog w) A (call (.ref 290) [.ref x, .int c tc, .ref wl]) Q E s := by
  refine' call_fnC (bs := [("row", .ref x), ("carry", .int c tc), ("wires", .ref wl)]) (bl := [("row", .ref x), ("carry", .int c tc)]) F290 H hA.room ?hb ?hbind ?hkind ?hnd ?hbl ?hclo ?h1 ?h2 ?h3 ?_
  walk_at "mine enterC"
  intro Lf h₁ tk htk H'
  have H'' : St w g γ₀ h₁ s.gens ((Lf, FrO ([("row", .ref x), ("carry", .int c tc)] : Bs)) :: (Lf + 3, CellO none) :: (Lf + 2, CellO none) :: (Lf + 1, CellO (some (.ref wl))) :: L) := H'
  clear H'
  show wpAny _ _ _ _ _ _
  k_fold
  walk_at "mine walk"
  refine cells_s (by with_reducible assumption) (by dsimp only; walk_at "o") ((hA.le (d' := 6 + 1) (u' := 77 + 3) (by decide) (by decide)).deeper.le (by decide) (by decide)) hx hp (by walk_at "o") ?_
  intro cl g1 h1 γ1 tk1 cs htk1 hg1 hcs H1
  dsimp only at htk1
  have H1' := H1.pull (.tail .head)
  clear H1
  have hcl := hcs.1
  rw [List.length_map] at hcl
  walk_at "mine walk"
  refine wpAny_For ?_
  walk_at "mine walk"
  (rename St _ _ _ _ _ _ => H3; rename_i rg _ _ it _)
  obtain ⟨wf, hwf⟩ : ∃ wf : Nat → Int, wf = fun i => wi.getD i 0 := ⟨_, rfl⟩
  rw [← hwf] at hQ
  have hwb : ∀ i, wf i = 0 ∨ wf i = 1 := fun i => by
    rw [hwf]
    dsimp only
    rw [List.getD_eq_getElem?_getD]
    cases q : wi[i]? with
    | none => exact .inl rfl
    | some y => exact hw1 y (List.mem_of_getElem? q)
  have ek : ((cs.length : Int) - 0).toNat = bits.length := by walk_at "o"
  rw [ek] at H3
  have e : -c * 2 ^ ((cs.length : Int)).toNat = tl wf bits c 0 := by rw [Int.toNat_natCast, hcl]; rfl
  rw [e] at H3
  refine for_loop (Lf := Lf) (L := (rg, RangeO 0 cs.length 1) :: (cl, LstO cs) :: (Lf + 3, CellO none) :: (Lf + 2, CellO (some (.ref cl))) :: (Lf + 1, CellO (some (.ref wl))) :: L)
    (iter_range g1 it 0 bits.length 1) ((hA.le (d' := 6 + 1) (u' := 77 + 3) (by decide) (by decide)).deeper.le (by decide) (by decide)) (by dsimp only; walk_at "o")
    (fun i _ (bs' : Bs) L' => ∃ t kv, bs' = ([("told", .int (tl wf bits c i) t), ("row", .ref x), ("carry", .int c tc)] : Bs) ∧ L' = (rg, RangeO 0 cs.length 1) :: (cl, LstO cs) :: (Lf + 3, CellO kv) :: (Lf + 2, CellO (some (.ref cl))) :: (Lf + 1, CellO (some (.ref wl))) :: L)
    H3 ⟨_, none, rfl, rfl⟩ ?_ ?_
  · rintro k g' h' γ' t tk' bs' L' v hk hg ht1 ht2 ⟨t1, kv, rfl, rfl⟩ hv H4
    obtain rfl : v = .int (k : Int) t := by rw [hv]; congr 1; walk_at "o"
    dsimp only at ht1
    refine wpAny_assign_Name ?_
    walk_at "mine walk"
    (rename St _ _ _ _ _ _ => H5; rename_i rg2 _ _ it2 _)
    have ek2 : ((k : Int) + 1 - 1).toNat = k := by walk_at "o"
    rw [ek2] at H5
    have hw' := hw.le (hg1.trans hg)
    refine comp_run (L := (Lf, FrO ([("told", .int (tl wf bits c k) t1), ("row", .ref x), ("carry", .int c tc)] : Bs)) :: (rg2, RangeO 1 (k + 1) 1) :: (it, RgO 0 bits.length 1 (k + 1)) :: (rg, RangeO 0 cs.length 1) :: (cl, LstO cs) :: (Lf + 3, CellO (some (.int (k : Int) t))) :: (Lf + 2, CellO (some (.ref cl))) :: (Lf + 1, CellO (some (.ref wl))) :: L)
      (iter_range g' it2 1 k 1) ((hA.le (d' := 6 + 1) (u' := 77 + 3) (by decide) (by decide)).deeper.le (by decide) (by decide)) (by dsimp only; walk_at "o") (by unfold sizeLine; walk_at "o") (by decide) rfl
      (fun j _ us L' => L' = (Lf, FrO ([("told", .int (tl wf bits c k) t1), ("row", .ref x), ("carry", .int c tc)] : Bs)) :: (rg2, RangeO 1 (k + 1) 1) :: (it, RgO 0 bits.length 1 (k + 1)) :: (rg, RangeO 0 cs.length 1) :: (cl, LstO cs) :: (Lf + 3, CellO (some (.int (k : Int) t))) :: (Lf + 2, CellO (some (.ref cl))) :: (Lf + 1, CellO (some (.ref wl))) :: L ∧ Ints us ((List.range j).map (innT wf bits k)))
      (H5.perm (.swap _ _ _)) ⟨rfl, by simpa using Ints.nil⟩ ?_ ?_
    · rintro j g2 h2 γ2 t2 tk2 us L' v Lc acc hj hg2 ht3 ht4 ⟨rfl, hus⟩ hv H6
      obtain rfl : v = .int ((j + 1 : Nat) : Int) t2 := by rw [hv]; congr 1; walk_at "o"
      dsimp only at ht3
      have hw2 := hw'.le hg2
      have hkl : k < cs.length := by walk_at "o"
      obtain ⟨u1, e1⟩ : ∃ u, ws[j + 1]? = some (.int (wf (j + 1)) u) := hwi.2 (j + 1) (wf (j + 1)) (by rw [hwf]; simp [List.getD_eq_getElem?_getD, show j + 1 < wi.length by walk_at "o"])
      obtain ⟨u2, e2⟩ : ∃ u, cs[k - (j + 1)]? = some (.int (bi (bits.getD (k - (j + 1)) false)) u) := hcs.2 _ _ (by simp [List.getD_eq_getElem?_getD, show k - (j + 1) < bits.length by walk_at "o"])
      have e3 : (k : Int) - ((j + 1 : Nat) : Int) = ((k - (j + 1) : Nat) : Int) := by walk_at "o"
      have e4 : (wf (j + 1)).natAbs < 2 ^ 300 := by rcases hwb (j + 1) with z | z <;> (rw [z]; decide)
      have e5 : (bi (bits.getD (k - (j + 1)) false)).natAbs < 2 ^ 300 := by cases bits.getD (k - (j + 1)) false <;> decide
      refine wpAny_assign_Name ?_
      walk_at "mine walk"
      rename St _ _ _ _ _ _ => H7
      refine ⟨g2, _, _, _, _, _, rfl, .refl _, by walk_at "o", ⟨rfl, ?_⟩, H7⟩
      rw [List.range_succ, List.map_append]
      exact hus.snoc
    · rintro g2 h2 γ2 tk2 us L' acc hg2 ht3 ⟨rfl, hus⟩ H6a
      have H6 := H6a.pull (.tail .head)
      clear H6a
      dsimp only at ht3
      obtain ⟨u2, e2⟩ : ∃ u, cs[k]? = some (.int (bi (bits.getD k false)) u) := hcs.2 _ _ (by simp [List.getD_eq_getElem?_getD, hk])
      have hib := inn_le hwb bits k k
      have e4 : ((2 : Int) ^ ((k : Int)).toNat).natAbs < 2 ^ 300 := by
        rw [Int.natAbs_pow, Int.toNat_natCast]
        exact Nat.lt_of_le_of_lt (Nat.pow_le_pow_right (by decide) (show k ≤ 10 by walk_at "o")) (by decide)
      have e5 : (((List.range k).map (innT wf bits k)).sum - bi (bits.getD k false)).natAbs < 2 ^ 300 := by
        rw [inn_sum]
        have : 0 ≤ bi (bits.getD k false) ∧ bi (bits.getD k false) ≤ 1 := by cases bits.getD k false <;> decide
        have h300 : (1000 : Nat) < 2 ^ 300 := by decide
        walk_at "o"
      walk_at "mine walk"
      rename St _ _ _ _ _ _ => H7
      have e : tl wf bits c k + 2 ^ ((k : Int)).toNat * (((List.range k).map (innT wf bits k)).sum - bi (bits.getD k false)) = tl wf bits c (k + 1) := by rw [inn_sum, Int.toNat_natCast]; rfl
      rw [e] at H7
      have H8 : St w g2 γ₀ _ γ2 (_ :: (it, RgO 0 bits.length 1 (k + 1)) :: (rg, RangeO 0 cs.length 1) :: (cl, LstO cs) :: (Lf + 3, CellO (some (.int (k : Int) t))) :: (Lf + 2, CellO (some (.ref cl))) :: (Lf + 1, CellO (some (.ref wl))) :: L) := H7.sub (by walk_at "mine back")
      exact ⟨g2, _, _, _, _, _, rfl, hg2, by walk_at "o", ⟨_, _, rfl, rfl⟩, H8.weak fun o => FrO.sub (by walk_at "mine subs")⟩
  · rintro g' h' γ' tk' bs' L' hg ht1 ⟨t1, kv, rfl, rfl⟩ H4
    dsimp only at ht1
    walk_at "mine walk"
    walk_at "mine fin"
    exact hQ _ _ _ _ _ (by walk_at "o") (hg1.trans hg) (H4.sub (by walk_at "mine back"))
end

-- T18
theorem Ok.under {A : Around} {d u : Nat} {C : Addr} {vals : List Value} (x : Ok A (d + 1) (u + 1)) : Ok (A.under (.builtin "type.__call__" ⟨.ref C :: vals, []⟩)) d u :=
  ⟨x.h, by have := x.d; show A.depth + 1 + d < _; walk_at "o", by have := x.u; show A.units + 1 + u < _; walk_at "o"⟩
abbrev pgB (M : Int) (sc : Str) (ll cx : Addr) (tm tw tl ts : Nat) : Bs := [("_current_line", .ref cx), ("_lines", .ref ll), ("_splitchars", .str sc ts), ("_continuation_ws_len", .int 1 tl), ("_continuation_ws", .str " " tw), ("_maxlen", .int M tm)]
section
variable {prog : Program} [PrOk prog] {w : World} {A : Around} {E : Value → Shared → Prop} {s : Shared} {g : Heap} {γ₀ : Array GenState} {L : List Ent}
theorem page_new {M : Int} {sc : Str} {t0 tm tw ts : Nat} {Q : Value → Shared → Prop} (H : St w g γ₀ s.heap s.gens L) (hA : Ok A 6 60)
    (hQ : ∀ pg pd cx cd ll tl h' tk', s.toks ≤ tk' → St w g γ₀ h' s.gens ((pg, PagO pd) :: (pd, NsO (pgB M sc ll cx tm tw tl ts)) :: (cx, AccO cd []) :: (cd, NsO [("_initial_size", .int 0 t0)]) :: (ll, LstO []) :: L) → Q (.ref pg) { s with heap := h', toks := tk' }) : wpAny (model prog w) A (call (.ref 185) [.int 0 t0, .int M tm, .str " " tw, .str sc ts]) Q E s := by
  have X := H.inK
  obtain ⟨hh, gg, d, t, os⟩ := s
  refine wpAny_call (make_core (makes_of X (C := 185) (by k_is)) (looks_findIn X (by k_is)) (fun self => bind_fn X self (by k_is)) (.inl (by decide)) ?_)
  have H1 := ((H.push (P := NsO []) emptyDict rfl ⟨_, _, rfl, (by intro e he; simp at he), (by simp [UniqKeys]), fun x => rfl⟩).push (P := PagO hh.objs.size) (instObj 185 hh.objs.size) rfl rfl)
  rw [Heap.size_push] at H1
  generalize hh.objs.size = dx at H1 ⊢
  generalize (hh.push emptyDict).push (instObj 185 dx) = h₀ at H1 ⊢
  refine' code_fn (bs := [("self", .ref (dx + 1)), ("headerlen", .int 0 t0), ("maxlen", .int M tm), ("continuation_ws", .str " " tw), ("splitchars", .str sc ts)]) F126 H1 ?room ?hb ?hbind ?hcell ?hloc ?hbs ?h1 ?h2 ?h3 ?_
  case room => rw [depth_under_make]; exact hA.d |> fun h => by walk_at "o"
  walk_at "mine enter"
  intro Lf h₁ tk htk H'
  walk_at "mine walk"
  (rename St _ _ _ _ _ _ => H2; rename_i ll _ _ _ _ _)
  refine acc_new H2 ((hA.le (d' := 4 + 1 + 1) (u' := 40 + 3 + 1) (by decide) (by decide)).under.deeper) ?_
  intro cx cd h3 tk3 htk3 H3
  have H3' := H3.pull (.tail (.tail .head))
  clear H3
  walk_at "mine walk"
  rename St _ _ _ _ _ _ => H4
  have H5 : St w g γ₀ _ gg ((dx + 1, PagO dx) :: (dx, NsO (pgB M sc ll cx tm tw _ ts)) :: (cx, AccO cd []) :: (cd, NsO [("_initial_size", .int 0 t0)]) :: (ll, LstO []) :: L) := H4.tail.perm (by walk_at "mine perm")
  refine ⟨rfl, hQ _ _ _ _ _ _ _ _ ?_ H5⟩
  dsimp only at *
  walk_at "o"
end

-- T19
section
variable {w : World} {g g1 g2 h h' : Heap} {γ₀ γ γ' : Array GenState} {L : List Ent} {x dx : Addr} {vs : List Value} {bs : Bs}
abbrev RowF (g : Heap) (x dx : Addr) (vs : List Value) (bs : Bs) : Prop := (∃ o, g.get? x = some o ∧ AccO dx vs o) ∧ (∃ o, g.get? dx = some o ∧ NsO bs o)
theorem RowF.le (r : RowF g x dx vs bs) (hg : Le g g1) : RowF g1 x dx vs bs := ⟨let ⟨o, e, p⟩ := r.1; ⟨o, hg _ _ e, p⟩, let ⟨o, e, p⟩ := r.2; ⟨o, hg _ _ e, p⟩⟩
/-- a row lent out, and taken back -/
theorem St.lend (H : St w g γ₀ h γ ((x, AccO dx vs) :: (dx, NsO bs) :: L)) : ∃ g1, Le g g1 ∧ RowF g1 x dx vs bs ∧ St w g1 γ₀ h γ L ∧
    ∀ g2 h' γ' L', Le g1 g2 → St w g2 γ₀ h' γ' L' → ∃ g3, Le g g3 ∧ (∀ b o, b ≠ x → b ≠ dx → g2.get? b = some o → g3.get? b = some o) ∧ St w g3 γ₀ h' γ' ((x, AccO dx vs) :: (dx, NsO bs) :: L') := by
  have n1 := (H.own _ (.head _)).2
  have n2 := (H.own _ (.tail _ (.head _))).2
  have C0 := H.cx
  obtain ⟨ga, la, oa, Ha⟩ := H.freeze
  obtain ⟨gb, lb, ob, Hb⟩ := Ha.freeze
  have nd : dx ≠ x := fun q => by
    obtain ⟨o, e, p⟩ := oa
    have := (Ha.own _ (.head _)).2
    dsimp only at this
    rw [q, e] at this; cases this
  refine ⟨gb, la.trans lb, ⟨let ⟨o, e, p⟩ := oa; ⟨o, lb _ _ e, p⟩, ob⟩, Hb, fun g2 h' γ' L' l2 H2 => ?_⟩
  obtain ⟨gc, lc, kc, Hc⟩ := H2.thaw (g := g) (a := dx) (P := NsO bs) ((la.trans lb).trans l2) n2 (let ⟨o, e, p⟩ := ob; ⟨o, l2 _ _ e, p⟩) C0 (fun o ⟨es, ep, e, _⟩ vs q => by rw [e] at q; cases q)
  obtain ⟨gd, ld, kd, Hd⟩ := Hc.thaw (g := g) (a := x) (P := AccO dx vs) lc n1 (let ⟨o, e, p⟩ := oa; ⟨o, kc _ _ nd.symm (l2 _ _ (lb _ _ e)), p⟩) C0 (fun o ⟨n, e⟩ vs q => by subst e; cases q)
  exact ⟨gd, ld, fun b o h1 h2 e => kd b o h1 (kc b o h2 e), Hd⟩
end
section
variable {prog : Program} [PrOk prog] {w : World} {A : Around} {E : Value → Shared → Prop} {s : Shared} {g : Heap} {γ₀ : Array GenState} {L : List Ent} {x dx : Addr} {vs : List Value} {ki : Int} {kt : Nat} {ps : List (Str × Str)}
theorem row_inst {h : Heap} {bs : Bs} (r : RowF h x dx vs bs) : ∃ ox od, InstAt h x ox 269 (some od) := let ⟨ox, od, I, _⟩ := inst_at ins_acc r.1 r.2; ⟨ox, od, I⟩
theorem plen_le {ps : List (Str × Str)} (hz : ∀ p ∈ ps, pl p ≤ 1000) : plen ps ≤ 1000 * ps.length := by
  unfold plen
  induction ps with
  | nil => simp
  | cons p r ih =>
    rw [List.map_cons, List.sum_cons, List.length_cons]
    have := hz p (.head _)
    have := ih fun q hq => hz q (.tail _ hq)
    walk_at "o"
theorem len_entry_row {Q : Value → Shared → Prop} (H : St w g γ₀ s.heap s.gens L) (hA : Ok A 4 60) (r : RowF g x dx vs [("_initial_size", .int ki kt)]) (hp : Parts g vs ps) (hz : ∀ p ∈ ps, pl p ≤ 1000) (hl : ps.length ≤ 1000) (hk : 0 ≤ ki) (hk1 : ki ≤ 1000)
    (hQ : ∀ (t : Nat) g' h' γ' tk', s.toks ≤ tk' → Le g g' → St w g' γ₀ h' γ' L → Q (.int (ki + (plen ps : Nat)) t) { s with heap := h', gens := γ', toks := tk' }) : wpAny (model prog w) A (Builtin.«len» ⟨[.ref x], []⟩) (fun fin s' => ∃ v, fin = .done (.ret v) ∧ Q v s') E s := by
  obtain ⟨ox, od, I⟩ := row_inst (r.le H.keep)
  have hpl := plen_le hz
  unfold Builtin.«len»
  refine wpAny_bind (m := oneArg "len" _) (wpAny_pure ?_)
  refine wpAny_bind (m := callSpecial? (.ref x) (Str.ofString "__len__")) (special_fn (K := hd.heap_1 w.params) (f := 236) H.inK I (by k_is) (by k_is) ?_)
  refine len_s H hA r.1 r.2 hp hz fun t g' h' γ' tk' htk hg H' => ?_
  refine wpAny_bind (wpAny_holding (wpAny_pure ?_))
  refine wpAny_bind (wpAny_letGo ?_)
  have e1 : ¬ (ki + ((plen ps : Nat) : Int) < 0) := by walk_at "o"
  have e2 : ¬ (ki + ((plen ps : Nat) : Int) ≥ 2 ^ 63) := by walk_at "o"
  show wpAny _ _ (if (ki + ((plen ps : Nat) : Int)) < 0 then _ else _) _ _ _
  rw [if_neg e1]
  show wpAny _ _ (if (ki + ((plen ps : Nat) : Int)) ≥ 2 ^ 63 then _ else _) _ _ _
  rw [if_neg e2]
  exact wpAny_bind (wpAny_mkInt (wpAny_pure ⟨_, rfl, hQ _ g' h' γ' _ (by dsimp only; walk_at "o") hg H'⟩))
theorem lenF {Q : Value → Shared → Prop} (H : St w g γ₀ s.heap s.gens L) (hA : Ok A 4 61) (r : RowF g x dx vs [("_initial_size", .int ki kt)]) (hp : Parts g vs ps) (hz : ∀ p ∈ ps, pl p ≤ 1000) (hl : ps.length ≤ 1000) (hk : 0 ≤ ki) (hk1 : ki ≤ 1000)
    (hQ : ∀ (t : Nat) g' h' γ' tk', s.toks ≤ tk' → Le g g' → St w g' γ₀ h' γ' L → Q (.int (ki + (plen ps : Nat)) t) { s with heap := h', gens := γ', toks := tk' }) : wpAny (model prog w) A (call (.builtin "len") [.ref x]) Q E s :=
  Calls.call_function_entry kind_len plain_len entry_len (args_len1 _) (len_entry_row H hA.in1 r hp hz hl hk hk1 hQ)
theorem strF {Q : Value → Shared → Prop} (H : St w g γ₀ s.heap s.gens L) (hA : Ok A 4 62) (r : RowF g x dx vs [("_initial_size", .int ki kt)]) (hp : Parts g vs ps) (hz : ∀ p ∈ ps, pl p ≤ 1000) (hl : ps.length ≤ 1000)
    (hQ : ∀ (t : Nat) g' h' γ' tk', s.toks ≤ tk' → Le g g' → St w g' γ₀ h' γ' L → Q (.str (rowT ps) t) { s with heap := h', gens := γ', toks := tk' }) : wpAny (model prog w) A (call (.type "str") [.ref x]) Q E s := by
  obtain ⟨ox, od, I⟩ := row_inst (r.le H.keep)
  have hA1 : Ok A.in1 4 61 := hA.in1
  have hA2 : Ok A.in1.in1 4 60 := hA1.in1
  refine kso_call (K := hd.heap_1 w.params) (f := 243) hA2.units H.inK I (by k_is) (by k_is) ?_
  exact str_s H hA2 r.1 hp hz hl fun t g' h' γ' tk' htk hg H' => hQ t g' h' γ' tk' htk hg H'
theorem truF {Q : Bool → Shared → Prop} (H : St w g γ₀ s.heap s.gens L) (hA : Ok A 4 62) (r : RowF g x dx vs [("_initial_size", .int ki kt)]) (hp : Parts g vs ps) (hz : ∀ p ∈ ps, pl p ≤ 1000) (hl : ps.length ≤ 1000) (hk : 0 ≤ ki) (hk1 : ki ≤ 1000)
    (hQ : ∀ g' h' γ' tk', s.toks ≤ tk' → Le g g' → St w g' γ₀ h' γ' L → Q (ki + ((plen ps : Nat) : Int) != 0) { s with heap := h', gens := γ', toks := tk' }) : wpAny (model prog w) A (truthy (.ref x)) Q E s := by
  obtain ⟨ox, od, I⟩ := row_inst (r.le H.keep)
  have X := H.inK
  have hb : findIn (hd.heap_1 w.params) (.ref 269) "__bool__" = some none := by k_is
  have hl' : findIn (hd.heap_1 w.params) (.ref 269) "__len__" = some (some (.ref 236)) := by k_is
  have hA1 : Ok A.in1 4 61 := hA.in1
  unfold truthy
  refine wpAny_bind (m := callSpecial? (.ref x) (Str.ofString "__bool__")) (wpAny_bind (wpAny_bind (I.type.here ((looks_findIn X hb).here (wpAny_pure ?_)))))
  refine wpAny_bind (wpAny_bind (I.type.here ((looks_findIn X hl').here ?_)))
  refine wpAny_bind (runValue_entry entry_len ?_)
  rw [Around.under_plainId plain_len _]
  refine len_entry_row H (hA1.le (by decide) (by decide)) r hp hz hl hk hk1 fun t g' h' γ' tk' htk hg H' => ?_
  exact wpAny_pure (hQ g' h' γ' tk' htk hg H')
end

-- T20
noncomputable def mkc (b : Bool) : List Nat := [32, if b then 120 else 111]
theorem mk_codes (b : Bool) : (mk b).1.cps.toList ++ (mk b).2.cps.toList = mkc b := by cases b <;> decide +kernel
theorem rowT_codes (bits : List Bool) : (rowT (bits.map mk)).cps.toList = (bits.map mkc).flatten := by
  rw [row_codes, List.map_map]; congr 1; exact List.map_congr_left fun b _ => mk_codes b
theorem pl_mk (b : Bool) : pl (mk b) = 2 := by cases b <;> decide +kernel
theorem plen_mk (bits : List Bool) : plen (bits.map mk) = 2 * bits.length := by
  unfold plen
  induction bits with
  | nil => rfl
  | cons b r ih => rw [List.map_cons, List.map_cons, List.sum_cons, ih, pl_mk, List.length_cons]; walk_at "o"
theorem pl_le (bits : List Bool) : ∀ p ∈ bits.map mk, pl p ≤ 1000 := fun p hp => by
  obtain ⟨b, _, rfl⟩ := List.mem_map.mp hp
  rw [pl_mk]; decide
theorem flat_mkc_len (bits : List Bool) : ((bits.map mkc).flatten).length = 2 * bits.length := by
  induction bits with
  | nil => rfl
  | cons b r ih => rw [List.map_cons, List.flatten_cons, List.length_append, ih, List.length_cons]; simp [mkc]; walk_at "o"
theorem rowT_len (bits : List Bool) : (rowT (bits.map mk)).length = 2 * bits.length := by
  rw [len_codes, rowT_codes, flat_mkc_len]
theorem mkc_inj : ∀ {a b : List Bool}, (a.map mkc).flatten = (b.map mkc).flatten → a = b
  | [], [], _ => rfl
  | [], b :: r, h => by simp [mkc] at h
  | a :: r, [], h => by simp [mkc] at h
  | a :: r, b :: t, h => by
    rw [List.map_cons, List.map_cons, List.flatten_cons, List.flatten_cons] at h
    simp only [mkc, List.cons_append, List.nil_append, List.cons.injEq, true_and] at h
    obtain ⟨h1, h2⟩ := h
    rw [mkc_inj h2]
    cases a <;> cases b <;> first | rfl | (exfalso; revert h1; decide)
theorem rowT_inj {a b : List Bool} (h : rowT (a.map mk) = rowT (b.map mk)) : a = b := by
  refine mkc_inj ?_
  rw [← rowT_codes, ← rowT_codes, h]
theorem rowT_space {bits : List Bool} (h : bits ≠ []) : Txt.isspace (rowT (bits.map mk)) = false := by
  have e : (rowT (bits.map mk)).cps.all Unicode.isSpace = ((bits.map mkc).flatten).all Unicode.isSpace := by rw [← rowT_codes]; simp
  unfold Txt.isspace
  rw [e]
  cases bits with
  | nil => exact absurd rfl h
  | cons b r =>
    have : (mkc b).all Unicode.isSpace = false := by cases b <;> decide +kernel
    rw [show ((b :: r).map mkc).flatten = mkc b ++ (r.map mkc).flatten from by rw [List.map_cons, List.flatten_cons], List.all_append, this]; simp
section
variable {prog : Program} [PrOk prog] {w : World} {A : Around} {E : Value → Shared → Prop} {s : Shared} {g : Heap} {γ₀ : Array GenState} {L : List Ent} {x dx : Addr} {vs : List Value} {kt : Nat} {bits : List Bool}
theorem only_s {Q : Value → Shared → Prop} (H : St w g γ₀ s.heap s.gens L) (hA : Ok A 6 70) (r : RowF g x dx vs [("_initial_size", .int 0 kt)]) (hp : Parts g vs (bits.map mk)) (hl : bits.length ≤ 1000) (hne : bits ≠ [])
    (hQ : ∀ g' h' γ' tk', s.toks ≤ tk' → Le g g' → St w g' γ₀ h' γ' L → Q (.bool false) { s with heap := h', gens := γ', toks := tk' }) : wpAny (model prog w) A (call (.ref 258) [.ref x]) Q E s := by
  refine' call_fn (bs := [("self", .ref x)]) F258 H hA.room ?hb ?hbind ?hcell ?hloc ?hbs ?h1 ?h2 ?h3 ?_
  walk_at "mine enter"
  intro Lf h₁ tk htk H'
  k_fold
  have hx1 : InH g ((Lf, FrO ([("self", .ref x)] : Bs)) :: L) x (AccO dx vs) := .inl r.1
  have hdx1 : InH g ((Lf, FrO ([("self", .ref x)] : Bs)) :: L) dx (NsO [("_initial_size", .int 0 kt)]) := .inl r.2
  walk_at "mine walk"
  have hA' : Ok (A.deeper (callEnv F258.val Lf 258)) 5 67 := (hA.le (d' := 5 + 1) (u' := 67 + 3) (by decide) (by decide)).deeper
  have hlen : 1 ≤ bits.length := by cases bits with | nil => exact absurd rfl hne | cons b r => simp
  refine truF H' (hA'.le (by decide) (by decide)) r hp (pl_le _) (by rw [List.length_map]; exact hl) (by decide) (by decide) ?_
  intro g1 h1 γ1 tk1 htk1 hg1 H1
  dsimp only at htk1
  have e : ((0 : Int) + ((plen (bits.map mk) : Nat) : Int) != 0) = true := by rw [plen_mk]; simp; walk_at "o"
  rw [e]
  walk_at "mine walk"
  refine strF (by with_reducible assumption) (hA'.le (by decide) (by decide)) (r.le hg1) (hp.le hg1) (pl_le _) (by rw [List.length_map]; exact hl) ?_
  intro t2 g2 h2 γ2 tk2 htk2 hg2 H2
  dsimp only at htk2
  walk_at "mine walk"
  rw [rowT_space hne]
  walk_at "mine fin"
  exact hQ _ _ _ _ (by walk_at "o") (hg1.trans hg2) H2.tail
end

-- T21
local macro_rules | `(tactic| walk_at "subscriptTail") => `(tactic| first
  | (walk_at "ri"; k_dflt (refine' acc_int (by with_reducible assumption) (by walk_at "mine inh") (by with_reducible assumption) (by walk_at "mine at") (by walk_at "mine nat") (by with_unfolding_all rfl) ?_; k_whole))
  | (walk_at "ri"; k_dflt (refine' item_tupleT (by walk_at "mine tup") (by decide) (by decide) (by exact rfl) (by exact rfl) ?_ (by with_unfolding_all rfl); k_whole)))
theorem one_item {c : Nat} {i : Int} (hi : i = 0 ∨ i = -1) : Txt.item ⟨#[c]⟩ i = ⟨#[c]⟩ := by rcases hi with rfl | rfl <;> rfl
section
variable {prog : Program} {w : World} {A : Around} {E : Value → Shared → Prop} {s : Shared} {c : Nat} {t : Tok}
theorem tru_one {Q : Bool → Shared → Prop} (h : Q true { s with toks := s.toks + 1 + 1 }) : wpAny (model prog w) A (truthy (.str ⟨#[c]⟩ t)) Q E s :=
  P.truthy_str (by show ¬ ((1 : Nat) : Int) ≥ 2 ^ 63; decide) h
theorem sub_one {value slice : PySem.Expr} {i : Int} {u : Tok} {Q : Value → Shared → Prop} (hi : i = 0 ∨ i = -1) (h : Q (.str ⟨#[c]⟩ s.toks) { s with toks := s.toks + 1 })
    (hs : subscripted slice false (.str ⟨#[c]⟩ t) (.int i u) = operate [.str ⟨#[c]⟩ t, .int i u] (getItem (.str ⟨#[c]⟩ t) (.int i u))) (ht : ∀ r, letTemporaryGo value (.str ⟨#[c]⟩ t) r = pure ()) :
    wpAny (model prog w) A (subscriptTail value slice (.str ⟨#[c]⟩ t) (.int i u)) Q E s := by
  have hl : ((⟨#[c]⟩ : Str).length : Int) = 1 := rfl
  refine item_str (by rcases hi with rfl | rfl <;> decide) (by rw [hl]; walk_at "o") (by rw [hl]; walk_at "o") (fun _ => ?_) hs ht
  rw [one_item hi]; exact h
end
local macro_rules | `(tactic| walk_at "truthy str") => `(tactic| (with_reducible refine' tru_one ?_; k_whole))
local macro_rules | `(tactic| walk_at "subscriptTail") => `(tactic| ((with_reducible show wpAny _ _ (subscriptTail _ _ (Value.str _ _) (Value.int _ _)) _ _ _); with_reducible refine' sub_one ?k1 ?_ ?k2 ?k3; (case k1 => decide); (case k2 => with_unfolding_all rfl); (case k3 => intro _; with_unfolding_all rfl); k_whole))
theorem mk_one (b : Bool) : ∃ c, (mk b).2 = ⟨#[c]⟩ ∧ c ≠ 59 ∧ c ≠ 32 := ⟨if b then 120 else 111, by cases b <;> decide +kernel, by cases b <;> decide, by cases b <;> decide⟩
local macro_rules | `(tactic| walk_at "ite") => `(tactic| first | (refine ite_f (by with_reducible assumption) ?_) | (refine ite_t (by with_reducible assumption) ?_))
section
variable {prog : Program} [PrOk prog] {w : World} {A : Around} {E : Value → Shared → Prop} {s : Shared} {g : Heap} {γ₀ : Array GenState} {L : List Ent} {pg pd cx cd ll : Addr} {cvs lvs : List Value} {M : Int} {sc : Str} {tm tw tl ts kt : Nat} {cur : List Bool}
theorem rlen_s {x dx : Addr} {vs : List Value} {ki : Int} {kt : Nat} {ps : List (Str × Str)} {Q : Value → Shared → Prop} (H : St w g γ₀ s.heap s.gens ((x, AccO dx vs) :: (dx, NsO [("_initial_size", .int ki kt)]) :: L)) (hA : Ok A 4 61) (hp : Parts g vs ps) (hz : ∀ p ∈ ps, pl p ≤ 1000) (hl : ps.length ≤ 1000) (hk : 0 ≤ ki) (hk1 : ki ≤ 1000)
    (hQ : ∀ (t : Nat) g' h' γ' tk', s.toks ≤ tk' → Le g g' → St w g' γ₀ h' γ' ((x, AccO dx vs) :: (dx, NsO [("_initial_size", .int ki kt)]) :: L) → Q (.int (ki + (plen ps : Nat)) t) { s with heap := h', gens := γ', toks := tk' }) : wpAny (model prog w) A (call (.builtin "len") [.ref x]) Q E s := by
  obtain ⟨g1, l1, r, H1, back⟩ := H.lend
  refine lenF H1 hA r (hp.le l1) hz hl hk hk1 fun t g' h' γ' tk' htk hg H' => ?_
  obtain ⟨g3, l3, _, H3⟩ := back g' h' γ' L hg H'
  exact hQ t g3 h' γ' tk' htk l3 H3
theorem rstr_s {x dx : Addr} {vs : List Value} {ki : Int} {kt : Nat} {ps : List (Str × Str)} {Q : Value → Shared → Prop} (H : St w g γ₀ s.heap s.gens ((x, AccO dx vs) :: (dx, NsO [("_initial_size", .int ki kt)]) :: L)) (hA : Ok A 4 62) (hp : Parts g vs ps) (hz : ∀ p ∈ ps, pl p ≤ 1000) (hl : ps.length ≤ 1000)
    (hQ : ∀ (t : Nat) g' h' γ' tk', s.toks ≤ tk' → Le g g' → St w g' γ₀ h' γ' ((x, AccO dx vs) :: (dx, NsO [("_initial_size", .int ki kt)]) :: L) → Q (.str (rowT ps) t) { s with heap := h', gens := γ', toks := tk' }) : wpAny (model prog w) A (call (.type "str") [.ref x]) Q E s := by
  obtain ⟨g1, l1, r, H1, back⟩ := H.lend
  refine strF H1 hA r (hp.le l1) hz hl fun t g' h' γ' tk' htk hg H' => ?_
  obtain ⟨g3, l3, _, H3⟩ := back g' h' γ' L hg H'
  exact hQ t g3 h' γ' tk' htk l3 H3
theorem ronly_s {x dx : Addr} {vs : List Value} {kt : Nat} {bits : List Bool} {Q : Value → Shared → Prop} (H : St w g γ₀ s.heap s.gens ((x, AccO dx vs) :: (dx, NsO [("_initial_size", .int 0 kt)]) :: L)) (hA : Ok A 6 70) (hp : Parts g vs (bits.map mk)) (hl : bits.length ≤ 1000) (hne : bits ≠ [])
    (hQ : ∀ g' h' γ' tk', s.toks ≤ tk' → Le g g' → St w g' γ₀ h' γ' ((x, AccO dx vs) :: (dx, NsO [("_initial_size", .int 0 kt)]) :: L) → Q (.bool false) { s with heap := h', gens := γ', toks := tk' }) : wpAny (model prog w) A (call (.ref 258) [.ref x]) Q E s := by
  obtain ⟨g1, l1, r, H1, back⟩ := H.lend
  refine only_s H1 hA r (hp.le l1) hl hne fun g' h' γ' tk' htk hg H' => ?_
  obtain ⟨g3, l3, _, H3⟩ := back g' h' γ' L hg H'
  exact hQ g3 h' γ' tk' htk l3 H3
theorem app1_s {b : Bool} {ta tb : Nat} {Q : Value → Shared → Prop} (H : St w g γ₀ s.heap s.gens ((pg, PagO pd) :: (pd, NsO (pgB M ";" ll cx tm tw tl ts)) :: (cx, AccO cd cvs) :: (cd, NsO [("_initial_size", .int 0 kt)]) :: (ll, LstO lvs) :: L)) (hs : 0 < s.toks) (hA : Ok A 8 90) (hp : Parts g cvs (cur.map mk)) (hl : cur.length ≤ 500)
    (hQ : ∀ cvs' g' h' γ' tk', s.toks ≤ tk' → Le g g' → Parts g' cvs' ((cur ++ [b]).map mk) → St w g' γ₀ h' γ' ((pg, PagO pd) :: (pd, NsO (pgB M ";" ll cx tm tw tl ts)) :: (cx, AccO cd cvs') :: (cd, NsO [("_initial_size", .int 0 kt)]) :: (ll, LstO lvs) :: L) → Q .none { s with heap := h', gens := γ', toks := tk' }) :
    wpAny (model prog w) A (call (.ref 182) [.ref pg, .str " " ta, .str (mk b).2 tb]) Q E s := by
  refine' call_fn (bs := [("self", .ref pg), ("fws", .str " " ta), ("string", .str (mk b).2 tb)]) F182 H hA.room ?hb ?hbind ?hcell ?hloc ?hbs ?h1 ?h2 ?h3 ?_
  walk_at "mine enter"
  intro Lf h₁ tk htk H'
  k_fold
  have hA' : Ok (A.deeper (callEnv F182.val Lf 182)) 7 87 := (hA.le (d' := 7 + 1) (u' := 87 + 3) (by decide) (by decide)).deeper
  walk_at "mine walk"
  have hvl := hp.len
  rw [List.length_map] at hvl
  refine push_s ((H'.pull (.tail (.tail (.tail (.tail .head))))).pull (.tail (.tail (.tail (.tail .head))))) (hA'.le (by decide) (by decide)) (by walk_at "o") ?_
  intro tp g1 h1 tk1 htk1 hg1 htp H1a
  have H1 := H1a.pull (.tail (.tail .head))
  clear H1a H'
  dsimp only at htk1
  have hp1 : Parts g1 (cvs ++ [.ref tp]) ((cur ++ [b]).map mk) := by
    rw [List.map_append]
    exact (hp.le hg1).snoc ⟨tp, _, _, rfl, htp⟩
  walk_at "mine walk"
  refine rlen_s ((H1.pull (.tail (.tail .head))).pull (.tail (.tail .head))) (hA'.le (by decide) (by decide)) hp1 (pl_le _) (by simp; walk_at "o") (by decide) (by decide) ?_
  intro t2 g2 h2 γ2 tk2 htk2 hg2 H2a
  have H2 := H2a.pull (.tail (.tail .head))
  clear H2a H1
  dsimp only at htk2
  have hp2 := hp1.le hg2
  rw [plen_mk]
  walk_at "mine walk"
  rotate_left
  · walk_at "mine fin"
    exact hQ _ g2 h2 γ2 _ (by walk_at "o") (hg1.trans hg2) hp2 (H2.tail.perm (by walk_at "mine perm"))
  have hsc : (Str.ofString ";").cps.all (· < 128) = true := by decide +kernel
  refine wpAny_For ?_
  walk_at "mine walk"
  (rename St _ _ _ _ _ _ => H3; rename_i it _)
  generalize hL0 : (cx, AccO cd (cvs ++ [.ref tp])) :: (cd, NsO ([("_initial_size", .int 0 kt)] : Bs)) :: (pg, PagO pd) :: (pd, NsO (pgB M ";" ll cx tm tw tl ts)) :: (ll, LstO lvs) :: L = L0
  refine for_loop (L := L0) (iter_str g2 it ";" ts) (hA'.le (by decide) (by decide)) (by dsimp only; walk_at "o")
    (fun i _ (bs' : Bs) L' => L' = L0 ∧ bs' = ([("self", .ref pg), ("fws", .str " " ta), ("string", .str (mk b).2 tb)] : Bs))
    (by rw [← hL0]; exact H3.perm (.swap _ _ _)) ⟨rfl, rfl⟩ ?_ ?_
  · rintro i g' h' γ' t tk' bs' L' v hi hg ht1 ht2 ⟨rfl, rfl⟩ ⟨c, hxc, rfl⟩ H4
    dsimp only at ht1
    have hc59 : c = 59 := by
      have : i = 0 := by have : (";" : Str).cps.size = 1 := by decide +kernel
                         walk_at "o"
      subst this
      have e : (";" : Str).cps[0]? = some 59 := by decide +kernel
      rw [e] at hxc
      exact (Option.some.inj hxc).symm
    subst hc59
    subst hL0
    refine wpAny_assign_Name ?_
    walk_at "mine walk"
    refine wpAny_For ?_
    walk_at "mine walk"
    refine pc_s (x := cx) (by with_reducible assumption) (hA'.le (by decide) (by decide)) (.inr (by walk_at "mine mem")) ?_
    intro t5 h5 tk5 htk5 H5
    dsimp only at htk5
    have hlen3 : (cvs ++ [Value.ref tp]).length = cur.length + 1 := by simp [hvl]
    rw [hlen3]
    walk_at "mine walk"
    (rename St _ _ _ _ _ _ => H6; rename_i rg6 _ _ it6 _)
    have ek : (((cur.length + 1 : Nat) : Int) - 1 - 0).toNat = cur.length := by walk_at "o"
    rw [ek] at H6
    have hg' : Le g g' := (hg1.trans hg2).trans hg
    have hp' : Parts g' (cvs ++ [.ref tp]) ((cur ++ [b]).map mk) := hp2.le hg
    generalize hL1 : (rg6, RangeO (((cur.length + 1 : Nat) : Int) - 1) 0 (-1)) :: (it, SiO ";" ts (i + 1)) :: (cx, AccO cd (cvs ++ [.ref tp])) :: (cd, NsO ([("_initial_size", .int 0 kt)] : Bs)) :: (pg, PagO pd) :: (pd, NsO (pgB M ";" ll cx tm tw tl ts)) :: (ll, LstO lvs) :: L = L1 at H6
    refine for_loop (L := L1) (iter_range g' it6 _ cur.length (-1)) (hA'.le (by decide) (by decide)) (by dsimp only; walk_at "o")
      (fun k _ (bs' : Bs) L' => L' = L1 ∧ bs' = ([("ch", .str ⟨#[59]⟩ t), ("self", .ref pg), ("fws", .str " " ta), ("string", .str (mk b).2 tb)] : Bs))
      H6 ⟨rfl, rfl⟩ ?_ ?_
    · rintro k g7 h7 γ7 t7 tk7 bs' L' v hk hg7 ht3 ht4 ⟨rfl, rfl⟩ hv H7
      obtain rfl : v = .int ((cur.length - k : Nat) : Int) t7 := by rw [hv]; congr 1; walk_at "o"
      dsimp only at ht3
      subst hL1
      have hj : cur.length - k - 1 < (cur ++ [b]).length := by simp; walk_at "o"
      obtain ⟨v8, hv8, tq, tqa, tqb, rfl, htq⟩ := (hp'.le hg7).get (cur.length - k - 1) (mk ((cur ++ [b])[cur.length - k - 1])) (by rw [List.getElem?_map, List.getElem?_eq_getElem hj]; rfl)
      generalize (cur ++ [b])[cur.length - k - 1] = b8 at htq
      obtain ⟨c8, e9, hc8, _⟩ := mk_one b8
      have htq' : TupAt g7 tq [Value.str (mk b8).1 tqa, Value.str ⟨#[c8]⟩ tqb] := by rw [← e9]; exact htq
      clear htq
      have hsp : Txt.isspace ⟨#[59]⟩ = false := by decide +kernel
      have hit : (Txt.item ⟨#[c8]⟩ (-1) == ⟨#[59]⟩) = false := by
        rw [one_item (.inr rfl)]
        simp only [beq_eq_false_iff_ne, ne_eq, Str.mk.injEq]
        intro z
        exact hc8 (by simpa using z)
      have e8 : ((cur.length - k : Nat) : Int) - 1 = ((cur.length - k - 1 : Nat) : Int) := by walk_at "o"
      refine wpAny_assign_Name ?_
      walk_at "mine walk"
      rename St _ _ _ _ _ _ => H8
      dsimp only
      exact ⟨g7, _, _, _, _, _, rfl, .refl _, by walk_at "o", ⟨rfl, rfl⟩, H8.weak fun o => FrO.sub (by walk_at "mine subs")⟩
    · rintro g7 h7 γ7 tk7 bs' L' hg7 ht3 ⟨rfl, rfl⟩ H7
      dsimp only at ht3
      subst hL1
      walk_at "mine walk"
      dsimp only
      have H8 : St w g7 γ₀ h7 γ7 ((Lf, FrO _) :: (it, SiO ";" ts (i + 1)) :: (cx, AccO cd (cvs ++ [.ref tp])) :: (cd, NsO ([("_initial_size", .int 0 kt)] : Bs)) :: (pg, PagO pd) :: (pd, NsO (pgB M ";" ll cx tm tw tl ts)) :: (ll, LstO lvs) :: L) := H7.sub (by walk_at "mine back")
      exact ⟨g7, _, _, _, _, _, rfl, hg7, by walk_at "o", ⟨rfl, rfl⟩, H8.weak fun o => FrO.sub (by walk_at "mine subs")⟩
  · rintro g7 h7 γ7 tk7 bs' L' hg7 ht3 ⟨rfl, rfl⟩ H7
    dsimp only at ht3
    subst hL0
    walk_at "mine walk"
    refine pop_s ((H7.pull (.tail (.tail .head))).pull (.tail (.tail .head))) (hA'.le (by decide) (by decide)) (by walk_at "o") ?_
    intro h8 tk8 htk8 H8a
    have H8 := H8a.pull (.tail (.tail .head))
    clear H8a
    dsimp only at htk8
    have htp7 : TupAt g7 tp [.str " " ta, .str (mk b).2 tb] := htp.le (hg2.trans hg7)
    have hh : A.handled = none := hA.h
    walk_at "mine walk"
    refine push_s (((by with_reducible assumption : St _ _ _ _ _ _).pull (.tail .head)).pull (.tail (.tail .head)) |>.perm (.swap _ _ _)) (hA'.le (by decide) (by decide)) (by walk_at "o") ?_
    intro tp2 g9 h9 tk9 htk9 hg9 htp2 H9
    dsimp only at htk9
    walk_at "mine walk"
    walk_at "mine fin"
    have hg9' : Le g g9 := ((hg1.trans hg2).trans hg7).trans hg9
    have hpf : Parts g9 (cvs ++ [.ref tp2]) ((cur ++ [b]).map mk) := by
      rw [List.map_append]
      exact (hp.le hg9').snoc ⟨tp2, _, _, rfl, htp2⟩
    have H10 := H9.pull (.tail (.tail .head))
    exact hQ _ g9 h9 γ7 _ (by walk_at "o") hg9' hpf (H10.tail.perm (by walk_at "mine perm"))
end

-- T22
section
variable {prog : Program} [PrOk prog] {w : World} {A : Around} {E : Value → Shared → Prop} {s : Shared} {g : Heap} {γ₀ : Array GenState} {L : List Ent} {pg pd cx cd ll : Addr} {cvs lvs : List Value} {M : Int} {sc : Str} {tm tw tl ts kt : Nat} {cur : List Bool}
theorem app2_s {b : Bool} {ta tb : Nat} {Q : Value → Shared → Prop} (H : St w g γ₀ s.heap s.gens ((pg, PagO pd) :: (pd, NsO (pgB M " " ll cx tm tw tl ts)) :: (cx, AccO cd cvs) :: (cd, NsO [("_initial_size", .int 0 kt)]) :: (ll, LstO lvs) :: L)) (hs : 0 < s.toks) (hA : Ok A 8 90) (hp : Parts g cvs (cur.map mk)) (hl : cur.length ≤ 500) (hM : 2 ≤ M) (hlv : lvs.length ≤ 1000)
    (hQ2 : M < 2 * (cur.length + 1 : Nat) → ∀ tp t1 kt' g' h' γ' tk', s.toks ≤ tk' → Le g g' → Parts g' [.ref tp] ([b].map mk) → St w g' γ₀ h' γ' ((pg, PagO pd) :: (pd, NsO (pgB M " " ll cx tm tw tl ts)) :: (cx, AccO cd [.ref tp]) :: (cd, NsO [("_initial_size", .int 0 kt')]) :: (ll, LstO (lvs ++ [.str (rowT (cur.map mk)) t1])) :: L) → Q .none { s with heap := h', gens := γ', toks := tk' })
    (hQ : 2 * (cur.length + 1 : Nat) ≤ M → ∀ cvs' g' h' γ' tk', s.toks ≤ tk' → Le g g' → Parts g' cvs' ((cur ++ [b]).map mk) → St w g' γ₀ h' γ' ((pg, PagO pd) :: (pd, NsO (pgB M " " ll cx tm tw tl ts)) :: (cx, AccO cd cvs') :: (cd, NsO [("_initial_size", .int 0 kt)]) :: (ll, LstO lvs) :: L) → Q .none { s with heap := h', gens := γ', toks := tk' }) :
    wpAny (model prog w) A (call (.ref 182) [.ref pg, .str " " ta, .str (mk b).2 tb]) Q E s := by
  refine' call_fn (bs := [("self", .ref pg), ("fws", .str " " ta), ("string", .str (mk b).2 tb)]) F182 H hA.room ?hb ?hbind ?hcell ?hloc ?hbs ?h1 ?h2 ?h3 ?_
  walk_at "mine enter"
  intro Lf h₁ tk htk H'
  k_fold
  have hA' : Ok (A.deeper (callEnv F182.val Lf 182)) 7 87 := (hA.le (d' := 7 + 1) (u' := 87 + 3) (by decide) (by decide)).deeper
  walk_at "mine walk"
  have hvl := hp.len
  rw [List.length_map] at hvl
  refine push_s ((H'.pull (.tail (.tail (.tail (.tail .head))))).pull (.tail (.tail (.tail (.tail .head))))) (hA'.le (by decide) (by decide)) (by walk_at "o") ?_
  intro tp g1 h1 tk1 htk1 hg1 htp H1a
  have H1 := H1a.pull (.tail (.tail .head))
  clear H1a H'
  dsimp only at htk1
  have hp1 : Parts g1 (cvs ++ [.ref tp]) ((cur ++ [b]).map mk) := by
    rw [List.map_append]
    exact (hp.le hg1).snoc ⟨tp, _, _, rfl, htp⟩
  walk_at "mine walk"
  refine rlen_s ((H1.pull (.tail (.tail .head))).pull (.tail (.tail .head))) (hA'.le (by decide) (by decide)) hp1 (pl_le _) (by simp; walk_at "o") (by decide) (by decide) ?_
  intro t2 g2 h2 γ2 tk2 htk2 hg2 H2a
  have H2 := H2a.pull (.tail (.tail .head))
  clear H2a H1
  dsimp only at htk2
  have hp2 := hp1.le hg2
  rw [plen_mk]
  walk_at "mine walk"
  rotate_left
  · walk_at "mine fin"
    exact hQ (by rename ¬ _ < _ => hq; rw [List.length_append] at hq; simp at hq; walk_at "o") _ g2 h2 γ2 _ (by walk_at "o") (hg1.trans hg2) hp2 (H2.tail.perm (by walk_at "mine perm"))
  have hM2 : M < 2 * (cur.length + 1 : Nat) := by rename M < _ => hq; rw [List.length_append] at hq; simp at hq; walk_at "o"
  have hc1 : 1 ≤ cur.length := by walk_at "o"
  have hsc : (Str.ofString " ").cps.all (· < 128) = true := by decide +kernel
  refine wpAny_For ?_
  walk_at "mine walk"
  (rename St _ _ _ _ _ _ => H3; rename_i it _)
  generalize hL0 : (cx, AccO cd (cvs ++ [.ref tp])) :: (cd, NsO ([("_initial_size", .int 0 kt)] : Bs)) :: (pg, PagO pd) :: (pd, NsO (pgB M " " ll cx tm tw tl ts)) :: (ll, LstO lvs) :: L = L0
  refine for_loop (L := L0) (iter_str g2 it " " ts) (hA'.le (by decide) (by decide)) (by dsimp only; walk_at "o")
    (fun i _ (bs' : Bs) L' => i = 0 ∧ L' = L0 ∧ bs' = ([("self", .ref pg), ("fws", .str " " ta), ("string", .str (mk b).2 tb)] : Bs))
    (by rw [← hL0]; exact H3.perm (.swap _ _ _)) ⟨rfl, rfl, rfl⟩ ?_ ?_
  · rintro i g' h' γ' t tk' bs' L' v hi hg ht1 ht2 ⟨rfl, rfl, rfl⟩ ⟨c, hxc, rfl⟩ H4
    dsimp only at ht1
    have hc32 : c = 32 := by
      have e : (" " : Str).cps[0]? = some 32 := by decide +kernel
      rw [e] at hxc
      exact (Option.some.inj hxc).symm
    subst hc32
    subst hL0
    refine wpAny_assign_Name ?_
    walk_at "mine walk"
    refine wpAny_For ?_
    walk_at "mine walk"
    refine pc_s (x := cx) (by with_reducible assumption) (hA'.le (by decide) (by decide)) (.inr (by walk_at "mine mem")) ?_
    intro t5 h5 tk5 htk5 H5
    dsimp only at htk5
    have hlen3 : (cvs ++ [Value.ref tp]).length = cur.length + 1 := by simp [hvl]
    rw [hlen3]
    walk_at "mine walk"
    (rename St _ _ _ _ _ _ => H6; rename_i rg6 _ _ it6 _)
    have ek : (((cur.length + 1 : Nat) : Int) - 1 - 0).toNat = cur.length := by walk_at "o"
    rw [ek] at H6
    have hg' : Le g g' := (hg1.trans hg2).trans hg
    generalize hL1 : (rg6, RangeO (((cur.length + 1 : Nat) : Int) - 1) 0 (-1)) :: (it, SiO " " ts (0 + 1)) :: (cx, AccO cd (cvs ++ [.ref tp])) :: (cd, NsO ([("_initial_size", .int 0 kt)] : Bs)) :: (pg, PagO pd) :: (pd, NsO (pgB M " " ll cx tm tw tl ts)) :: (ll, LstO lvs) :: L = L1 at H6
    refine for_loop (L := L1) (iter_range g' it6 _ cur.length (-1)) (hA'.le (by decide) (by decide)) (by dsimp only; walk_at "o")
      (fun k _ (bs' : Bs) L' => k = 0 ∧ L' = L1 ∧ bs' = ([("ch", .str ⟨#[32]⟩ t), ("self", .ref pg), ("fws", .str " " ta), ("string", .str (mk b).2 tb)] : Bs))
      H6 ⟨rfl, rfl, rfl⟩ ?_ (fun _ _ _ _ _ _ _ _ hz => by have := hz.1; walk_at "o")
    rintro k g7 h7 γ7 t7 tk7 bs' L' v hk hg7 ht3 ht4 ⟨rfl, rfl, rfl⟩ hv H7
    obtain rfl : v = .int (cur.length : Int) t7 := by rw [hv]; congr 1; walk_at "o"
    dsimp only at ht3
    subst hL1
    have hv8 : (cvs ++ [Value.ref tp])[cur.length]? = some (Value.ref tp) := by rw [← hvl]; simp
    have htq' : TupAt g7 tp [Value.str ⟨#[32]⟩ ta, Value.str (mk b).2 tb] := by
      have e : (⟨#[32]⟩ : Str) = " " := by decide +kernel
      rw [e]; exact htp.le ((hg2.trans hg).trans hg7)
    have hsp : Txt.isspace ⟨#[32]⟩ = true := by decide +kernel
    have hit : (Txt.item ⟨#[32]⟩ 0 == ⟨#[32]⟩) = true := by rw [one_item (.inl rfl)]; exact beq_self_eq_true _
    refine wpAny_assign_Name ?_
    walk_at "mine walk"
    rename St _ _ _ _ _ _ => H8
    have H9 : St w g7 γ₀ _ γ7 ((cx, AccO cd (cvs ++ [.ref tp])) :: (cd, NsO ([("_initial_size", .int 0 kt)] : Bs)) :: _ :: (pg, PagO pd) :: (pd, NsO (pgB M " " ll cx tm tw tl ts)) :: (ll, LstO lvs) :: L) :=
      (((H8.pull (.tail .head)).tail.pull (.tail .head)).tail.pull (.tail .head)).tail.perm ((((List.Perm.refl _).cons _).trans (List.Perm.swap _ _ _)).trans (((List.Perm.swap _ _ _).cons _)))
    refine popfrom_s (i := cur.length) H9 (hA'.le (by decide) (by decide)) (by rw [hlen3]; walk_at "o") (by rw [hlen3]; walk_at "o") ?_
    intro rl h10 tk10 htk10 H10a
    have e1 : List.drop cur.length (cvs ++ [Value.ref tp]) = [.ref tp] := by rw [← hvl]; simp
    have e2 : List.take cur.length (cvs ++ [Value.ref tp]) = cvs := by rw [← hvl]; simp
    rw [e1, e2] at H10a
    have H10 := H10a.pull (.tail (.tail (.tail .head)))
    clear H10a
    dsimp only at htk10
    walk_at "mine walk"
    rename St _ _ _ _ _ _ => H11
    have hg7' : Le g g7 := hg'.trans hg7
    refine rstr_s ((H11.pull (.tail (.tail (.tail .head)))).pull (.tail (.tail (.tail .head)))) (hA'.le (by decide) (by decide)) (hp.le hg7') (pl_le _) (by rw [List.length_map]; walk_at "o") ?_
    intro t12 g12 h12 γ12 tk12 htk12 hg12 H12a
    have H12 := H12a.pull (.tail (.tail .head))
    clear H12a
    dsimp only at htk12
    walk_at "mine walk"
    rename St _ _ _ _ _ _ => H13
    have H14 := H13.pull (.tail (.tail (.tail .head)))
    have hrl := H13.of (a := rl) (P := LstO [.ref tp]) (by walk_at "mine mem")
    refine reset_s (l := rl) (ws := [.ref tp]) ((H13.pull (.tail (.tail .head))).pull (.tail (.tail .head))) (.inr (by walk_at "mine mem")) (hA'.le (by decide) (by decide)) (by walk_at "o") (by simp) ?_
    intro t15 h15 tk15 htk15 H15a
    have H15 := H15a.pull (.tail (.tail .head))
    clear H15a
    dsimp only at htk15
    walk_at "mine walk"
    walk_at "mine fin"
    have hpf : Parts g12 [.ref tp] ([b].map mk) := .cons ⟨tp, _, _, rfl, htp.le (((hg2.trans hg).trans hg7).trans hg12)⟩ .nil
    have H16 := (H15.tail.pull (.tail (.tail .head))).tail
    exact hQ2 hM2 tp t12 t15 g12 h15 γ12 _ (by walk_at "o") (hg7'.trans hg12) hpf (H16.perm (by walk_at "mine perm"))
  · rintro g7 h7 γ7 tk7 bs' L' hg7 ht3 ⟨hz, rfl, rfl⟩ H7
    have : (" " : Str).cps.size = 1 := by decide +kernel
    walk_at "o"
end

-- T23a
section
open Builtin Builtin.ObjectAttr Builtin.Getset_descriptor
section
variable {prog : Program} {w : World} {A : Around} {E : Value → Shared → Prop} {s : Shared} {g : Heap} {γ₀ : Array GenState} {L : List Ent} {x dx f : Addr} {vs : List Value} {env : Env} {F₀ : Ent}
abbrev mthO (f x : Addr) : Obj := methodObj (.ref f) (.ref x)
theorem get_accM {dvs : Bs} {name : Str} {Q : Value → Shared → Prop} (H : St w g γ₀ s.heap s.gens (F₀ :: L)) (hx : InH g (F₀ :: L) x (AccO dx vs)) (hdx : InH g (F₀ :: L) dx (NsO dvs)) (hv : dvs.lookup name = none)
    (hga : findIn (hd.heap_1 w.params) (.ref 269) "__getattribute__" = some (some (.builtin "list.__getattribute__"))) (hk : findIn (hd.heap_1 w.params) (.ref 269) "__getattr__" = some none) (hh : hasDictIn (hd.heap_1 w.params) 269 = true) (hn : findIn (hd.heap_1 w.params) (.ref 269) name = some (some (.ref f)))
    (hf : typeIn (hd.heap_1 w.params) (.ref f) = some (.type "function")) (hgf : specialIn (hd.heap_1 w.params) (.ref f) "__get__" = some (some (.builtin "function.__get__"))) (ht : takesIn (hd.heap_1 w.params) (.ref f) = some false) (hc : copiedNames.contains name = false) {expr : Bool}
    (hq : ∀ q h', St w g γ₀ h' s.gens (F₀ :: (q, RawO (mthO f x)) :: L) → Q (.ref q) { s with heap := h', toks := s.toks + 1 }) : wpAny (model prog w) A (getAttr (.ref x) name expr) Q E s := by
  obtain ⟨ox, od, I, hox, hod, p⟩ := inst_at ins_acc (H.at hx) (H.at hdx)
  have X := H.inK
  have hx' := H.at hx
  have hfo := findObj_fn (od := od) hh hn hgf ht hc (by rw [lookIn_ns p, hv])
  obtain ⟨hh', gg, d, t, os⟩ := s
  have L0 := I.type (M := model prog w)
  have L1 := looks_find (M := model prog w) X I hfo
  unfold getAttr getAttrBy
  refine wpAny_bind (wpAny_mkText (wpAny_holding (wpAny_bind (L0.at (wpAny_bind ((looks_findIn (M := model prog w) X hga).at ?_))))))
  dsimp only
  rw [if_neg (by decide)]
  unfold getAttrByItsOwn hookBefore
  rw [if_pos (show onTheHeap (.ref 269) = true from rfl)]
  refine wpAny_bind ((looks_findIn (M := model prog w) X hk).at ?_)
  refine wpAny_bind (wpAny_attempt (wpAny_holding ?_))
  unfold callGetattribute
  rw [if_neg (by simp [onTheHeap])]
  unfold boundAndCalled
  rw [PySem.F.slot_list_getattribute.bind]
  refine wpAny_bind (wpAny_pure ?_)
  refine acc_callB (n := "__getattribute__") X hx' PySem.F.slot_list_getattribute.plain PySem.am_entry_list_getattribute (.inr (by decide +kernel)) (by decide +kernel) (PySem.F.args_list_getattribute_2 _ _) ?_
  unfold Builtin.«object.__getattribute__»
  refine wpAny_bind (wpAny_of_eq (a := (Value.ref x, [Value.str name t])) (by kernel_rfl) ?_)
  refine wpAny_bind (wpAny_pure ?_)
  refine wpAny_bind (L0.at (wpAny_bind (L1.at ?_)))
  show wpAny _ _ (holding [.ref f] (call (.builtin "function.__get__") [.ref f, .ref x, .ref 269]) >>= ret) _ _ _
  refine wpAny_bind (wpAny_holding (wpAny_call (fn_get X hf ?_)))
  refine wpAny_pure ⟨_, rfl, ?_⟩
  exact handed_on rfl (hq _ _ ((H.push _ rfl (P := RawO (mthO f x)) rfl).perm (.swap _ _ _)))
/-- a call of a method with a star -/
theorem call_star {o e : PySem.Expr} {name : Str} {apos pos p : Pos} {Q : Value → Shared → Prop} (hbase : attributeBase o name env (PySem.eval o env) = PySem.eval o env)
    (h : wpAny (model prog w) A (PySem.eval o env) (fun ov s₁ => wpAny (model prog w) A (getAttr ov name true) (fun f s₂ => wpAny (model prog w) A (callWith pos f [] (backTo pos (starEach [.Starred e p] env)) []) Q E s₂) E s₁) E s) :
    wpAny (model prog w) A (PySem.eval (.Call (.Attribute o name apos) [.Starred e p] [] pos) env) Q E s := by
  rw [arm_eval_Call, hbase]
  refine wpAny_bind (wpAny_mono h (fun ov s₁ h₁ => wpAny_bind (wpAny_standAt ?_)) fun _ _ z => z)
  have hform : methodCallForm ([PySem.Expr.Starred e p].length + ([] : List Keyword).length) (backTo pos (starEach [.Starred e p] env)) (backToKw pos (keywordEach [] env)) = false := by
    first | rfl | simp [methodCallForm, backTo, starEach]
  unfold methodCall
  rw [hform]
  unfold calleeOf methodCallPos
  refine wpAny_bind (wpAny_holding ?_)
  rw [if_neg (by decide)]
  refine wpAny_bind (wpAny_mono h₁ (fun f s₂ h₂ => wpAny_pure ?_) fun _ _ z => z)
  refine wpAny_bind ?_
  rw [if_pos (by simp)]
  exact wpAny_pure h₂
theorem callWith_star {q : Addr} {e : PySem.Expr} {pos p : Pos} {Q : Value → Shared → Prop} (H : St w g γ₀ s.heap s.gens L) (hq : (q, RawO (mthO f x)) ∈ L) (hf : fnIn (hd.heap_1 w.params) f = true)
    (he : starEach [.Starred e p] env = [(true, PySem.eval e env)])
    (h : wpAny (model prog w) A (PySem.eval e env) (fun v s₁ => StarOf (model prog w) A E v (fun vs s₂ => MethP (hd.heap_1 w.params) q f (.ref x) s₂.heap ∧ wpAny (model prog w) A (call (.ref q) vs) Q E s₂) s₁) E s) :
    wpAny (model prog w) A (callWith pos (.ref q) [] (backTo pos (starEach [.Starred e p] env)) []) Q E s := by
  rw [he]
  exact ks_call rfl (keeps_M hf) (ks_lone h)
theorem push_c {u v : Value} {ki : Int} {kt : Nat} {R : Result → Shared → Prop} (H : St w g γ₀ s.heap s.gens ((x, AccO dx vs) :: (dx, NsO [("_initial_size", .int ki kt)]) :: L)) (hA : Ok A 3 20) (hz : vs.length ≤ 1000)
    (hQ : ∀ t g' h' tk', s.toks ≤ tk' → Le g g' → TupAt g' t [u, v] → St w g' γ₀ h' s.gens ((x, AccO dx (vs ++ [.ref t])) :: (dx, NsO [("_initial_size", .int ki kt)]) :: L) → R (.ok (.ret .none)) { s with heap := h', toks := tk' }) : codeAny (model prog w) A (.call (.ref 213) ⟨[.ref x, u, v], []⟩) R s := by
  refine' code_fn (bs := [("self", .ref x), ("fws", u), ("string", v)]) F213 H hA.room ?hb ?hbind ?hcell ?hloc ?hbs ?h1 ?h2 ?h3 ?_
  walk_at "mine enter"
  intro Lf h₁ tk htk H'
  walk_at "mine walk"
  (rename St _ _ _ _ _ _ => H7; rename_i tp _ _ _)
  obtain ⟨g1, hg1, ht1, H8⟩ := H7.tail.freeze
  exact hQ tp g1 _ _ (by walk_at "o") hg1 ht1 H8
theorem push_b {q : Addr} {u v : Value} {ki : Int} {kt : Nat} {Q : Value → Shared → Prop} (H : St w g γ₀ s.heap s.gens ((x, AccO dx vs) :: (dx, NsO [("_initial_size", .int ki kt)]) :: L)) (hq : (q, RawO (mthO 213 x)) ∈ L) (hA : Ok A 3 20) (hz : vs.length ≤ 1000)
    (hQ : ∀ t g' h' tk', s.toks ≤ tk' → Le g g' → TupAt g' t [u, v] → St w g' γ₀ h' s.gens ((x, AccO dx (vs ++ [.ref t])) :: (dx, NsO [("_initial_size", .int ki kt)]) :: L) → Q .none { s with heap := h', toks := tk' }) : wpAny (model prog w) A (call (.ref q) [u, v]) Q E s := by
  obtain ⟨o, e, rfl⟩ := H.of (.tail _ (.tail _ hq))
  refine wpAny_call (ks_codeAny_call_bound e ?_)
  exact push_c H hA hz hQ
end

end
-- T23
theorem reads_tup {h : Heap} {t : Addr} {vs : List Value} {xs : List PyData} {as : List Addr} (ht : IsTup h t vs.toArray) (hr : ReadsAll h vs xs as) : Reads h (.ref t) (.tuple xs) as :=
  let ⟨_, e, hc, _, hd⟩ := ht; reads_tuple_at e hc hd hr
theorem reads_lst {h : Heap} {l : Addr} {vs : List Value} {xs : List PyData} {as : List Addr} (hl : h.IsList l vs.toArray) (hr : ReadsAll h vs xs as) : Reads h (.ref l) (.list xs) (l :: as) :=
  let ⟨_, e, hc, _, hd⟩ := hl; reads_list_at e hc hd hr
theorem ok_sp : PyData.strOk " " = true := by decide +kernel
theorem ok_e : PyData.strOk "" = true := by decide +kernel
theorem ok_mk (b : Bool) : PyData.strOk (mk b).2 = true := by cases b <;> decide +kernel
theorem sh2 {x y : Str} (hx : PyData.strOk x = true) (hy : PyData.strOk y = true) : PySem.SeqAt.shaped (.tuple [.str x, .str y]) = true := by
  simp [PySem.SeqAt.shaped, PyData.canLay0, PyData.canLayAll0, PyData.depth, PyData.depthAll, hx, hy]
section
variable {prog : Program} {w : World} {A : Around} {E : Value → Shared → Prop} {s : Shared} {g : Heap} {γ₀ : Array GenState} {L : List Ent}
theorem star_tup {t : Addr} {vs : List Value} {Q : List Value → Shared → Prop} (H : St w g γ₀ s.heap s.gens L) (ht : IsTup s.heap t vs.toArray) (hz : vs.length ≤ 1000) (hq : ∀ h', St w g γ₀ h' s.gens L → Q vs { s with heap := h' }) : StarOf (model prog w) A E (.ref t) Q s := by
  obtain ⟨o, e, hc, n, hd⟩ := ht
  unfold StarOf notIterableAtAll
  refine wpAny_bind (wpAny_specialOf ⟨o, e, hc⟩ PySem.F.slot_tuple_iter.lookup (wpAny_pure ⟨rfl, ?_⟩))
  exact wpAny_collect_seq t (.inr rfl) e hc hd (fun h' hk => hq h' (H.grow hk)) (by rw [List.size_toArray]; unfold sizeLine; walk_at "o")
end
local macro_rules | `(tactic| walk_at "mine tree") => `(tactic| (with_reducible show StarOf _ _ _ _ _ _))
local macro_rules | `(tactic| walk_at "StarOf ref") => `(tactic| (k_dflt (refine' star_tup (by with_reducible assumption) (by walk_at "mine tup") (by exact Nat.le_of_ble_eq_true rfl) ?_; k_whole; intro h' H'; (try dsimp only [List.nil_append, List.cons_append]))))
local macro_rules | `(tactic| walk_at "mine reads") => `(tactic| first
  | exact Reads.int _ _ | exact Reads.str _ _ | exact Reads.bool _ | exact Reads.none
  | (refine' reads_tup (by walk_at "mine tup") (by walk_at "mine readsAll"))
  | (refine' reads_lst (by walk_at "mine lst") (by walk_at "mine readsAll")))
local macro_rules | `(tactic| walk_at "mine readsAll") => `(tactic| first
  | exact ReadsAll.nil
  | (refine' ReadsAll.cons (by walk_at "mine reads") (by walk_at "mine readsAll")))
local macro_rules | `(tactic| walk_at "mine shaped") => `(tactic| first | assumption | (simp [PySem.SeqAt.shaped, PyData.canLay0, PyData.canLayAll0, PyData.depth, PyData.depthAll]; done))
local macro_rules | `(tactic| walk_at "mine units") => `(tactic| (rename Ok _ _ _ => hok'; (have hu' := hok'.u); walk_at "o"))
local macro_rules | `(tactic| walk_at "compareOp NotEq ref ref") => `(tactic| (k_dflt (refine' ne_dataH (by walk_at "mine reads") (by walk_at "mine reads") (by walk_at "mine shaped") (by walk_at "mine shaped") (by walk_at "mine units") ?_; k_whole)))
local macro_rules | `(tactic| walk_at "compareOp Eq ref ref") => `(tactic| (k_dflt (refine' eq_dataH (by walk_at "mine reads") (by walk_at "mine reads") (by walk_at "mine shaped") (by walk_at "mine shaped") (by walk_at "mine units") ?_; k_whole)))
section
variable {prog : Program} [PrOk prog] {w : World} {A : Around} {E : Value → Shared → Prop} {s : Shared} {g : Heap} {γ₀ : Array GenState} {L : List Ent} {pg pd cx cd ll : Addr} {cvs lvs : List Value} {M : Int} {sc : Str} {tm tw tl ts kt : Nat} {cur : List Bool}
theorem newl1_s {b : Bool} {Q : Value → Shared → Prop} (H : St w g γ₀ s.heap s.gens ((pg, PagO pd) :: (pd, NsO (pgB M sc ll cx tm tw tl ts)) :: (cx, AccO cd cvs) :: (cd, NsO [("_initial_size", .int 0 kt)]) :: (ll, LstO lvs) :: L)) (hs : 0 < s.toks) (hA : Ok A 9 100) (hp : Parts g cvs ((cur ++ [b]).map mk)) (hl : cur.length ≤ 500) (hlv : lvs.length ≤ 1000)
    (hQ : ∀ t1 kt' g' h' γ' tk', s.toks ≤ tk' → Le g g' → St w g' γ₀ h' γ' ((pg, PagO pd) :: (pd, NsO (pgB M sc ll cx tm tw tl ts)) :: (cx, AccO cd []) :: (cd, NsO [("_initial_size", .int 0 kt')]) :: (ll, LstO (lvs ++ [.str (rowT ((cur ++ [b]).map mk)) t1])) :: L) → Q .none { s with heap := h', gens := γ', toks := tk' }) :
    wpAny (model prog w) A (call (.ref 147) [.ref pg]) Q E s := by
  refine' call_fn (bs := [("self", .ref pg)]) F147 H hA.room ?hb ?hbind ?hcell ?hloc ?hbs ?h1 ?h2 ?h3 ?_
  walk_at "mine enter"
  intro Lf h₁ tk htk H'
  k_fold
  have hA' : Ok (A.deeper (callEnv F147.val Lf 147)) 8 97 := (hA.le (d' := 8 + 1) (u' := 97 + 3) (by decide) (by decide)).deeper
  have hh : A.handled = none := hA.h
  walk_at "mine walk"
  obtain ⟨c8, e8, _, _⟩ := mk_one b
  rw [List.map_append] at hp
  obtain ⟨cv0, lv, rfl, hp0, tp, tpa, tpb, rfl, htp⟩ := hp.unsnoc
  have htp' : TupAt g tp [.str " " tpa, .str ⟨#[c8]⟩ tpb] := by rw [← e8]; exact htp
  clear htp
  have sh_a := sh2 ok_sp ok_e
  have sh_b : PySem.SeqAt.shaped (.tuple [.str " ", .str ⟨#[c8]⟩]) = true := by rw [← e8]; exact sh2 ok_sp (ok_mk b)
  have hne : (!(PyData.tuple [PyData.str " ", PyData.str ⟨#[c8]⟩]).eqv (PyData.tuple [PyData.str " ", PyData.str ""])) = true := by
    have e : ("" : Str) = ⟨#[]⟩ := by decide +kernel
    rw [e]
    simp [PyData.eqv, PyData.eqvAll]
  have hvl := hp0.len
  rw [List.length_map] at hvl
  refine pop_s ((H'.pull (.tail (.tail (.tail (.tail .head))))).pull (.tail (.tail (.tail (.tail .head))))) (hA'.le (by decide) (by decide)) (by walk_at "o") ?_
  intro h1 tk1 htk1 H1a
  have H1 := H1a.pull (.tail (.tail .head))
  clear H1a
  dsimp only at htk1
  walk_at "mine walk"
  refine call_star rfl ?_
  walk_at "mine walk"
  (rename St _ _ _ _ _ _ => H2; rename_i tq _)
  refine get_accM (f := 213) H2 (.inr (by walk_at "mine mem")) (.inr (by walk_at "mine mem")) rfl (by k_is) (by k_is) (by k_is) (by k_is) (by k_is) (by k_is) (by k_is) (by decide +kernel) ?_
  intro q h3 H3
  refine callWith_star H3 (.tail _ (.head _)) (by k_is) rfl ?_
  walk_at "mine walk"
  rename St _ _ _ _ _ _ => H4
  refine ⟨⟨by obtain ⟨_, e, rfl⟩ := H4.of (a := q) (P := RawO (mthO 213 cx)) (.tail _ (.head _)); exact e, H4.inK⟩, ?_⟩
  refine push_b ((H4.pull (.tail (.tail (.tail (.tail .head))))).pull (.tail (.tail (.tail (.tail .head))))) (.tail _ (.head _)) (hA'.le (by decide) (by decide)) (by walk_at "o") ?_
  intro tn g5 h5 tk5 htk5 hg5 htn H5a
  have H5b := H5a.pull (.tail (.tail .head))
  have H5 : St w g5 γ₀ h5 s.gens ((Lf, FrO ([("self", .ref pg)] : Bs)) :: (cx, AccO cd (cv0 ++ [.ref tn])) :: (cd, NsO ([("_initial_size", .int 0 kt)] : Bs)) :: (pg, PagO pd) :: (pd, NsO (pgB M sc ll cx tm tw tl ts)) :: (ll, LstO lvs) :: L) :=
    (H5b.sub (by walk_at "mine back")).weak fun o => FrO.sub (by walk_at "mine subs")
  clear H5a H5b
  dsimp only at htk5
  have hp5 : Parts g5 (cv0 ++ [.ref tn]) ((cur ++ [b]).map mk) := by
    rw [List.map_append]
    exact (hp0.le hg5).snoc ⟨tn, tpa, tpb, rfl, by rw [e8]; exact htn⟩
  walk_at "mine walk"
  refine rlen_s ((H5.pull (.tail (.tail .head))).pull (.tail (.tail .head))) (hA'.le (by decide) (by decide)) hp5 (pl_le _) (by simp; walk_at "o") (by decide) (by decide) ?_
  intro t6 g6 h6 γ6 tk6 htk6 hg6 H6a
  have H6 := H6a.pull (.tail (.tail .head))
  clear H6a H5
  dsimp only at htk6
  have hp6 := hp5.le hg6
  rw [plen_mk]
  walk_at "mine walk"
  rotate_left
  · rename ¬ _ < _ => hq; rw [List.length_append] at hq; simp at hq; walk_at "o"
  refine ronly_s ((H6.pull (.tail (.tail .head))).pull (.tail (.tail .head))) (hA'.le (by decide) (by decide)) hp6 (by simp; walk_at "o") (by simp) ?_
  intro g7 h7 γ7 tk7 htk7 hg7 H7a
  have H7 := H7a.pull (.tail (.tail .head))
  clear H7a H6
  dsimp only at htk7
  have hp7 := hp6.le hg7
  walk_at "mine walk"
  refine rstr_s ((H7.pull (.tail (.tail .head))).pull (.tail (.tail .head))) (hA'.le (by decide) (by decide)) hp7 (pl_le _) (by simp; walk_at "o") ?_
  intro t8 g8 h8 γ8 tk8 htk8 hg8 H8a
  have H8 := H8a.pull (.tail (.tail .head))
  clear H8a H7
  dsimp only at htk8
  walk_at "mine walk"
  rename St _ _ _ _ _ _ => H9
  refine reset0_s ((H9.pull (.tail (.tail .head))).pull (.tail (.tail .head))) (hA'.le (by decide) (by decide)) (by simp; walk_at "o") ?_
  intro t10 h10 tk10 htk10 H10a
  have H10 := (H10a.pull (.tail (.tail .head))).tail
  dsimp only at htk10
  walk_at "mine walk"
  walk_at "mine fin"
  exact hQ t8 t10 g8 _ γ8 _ (by walk_at "o") (((hg5.trans hg6).trans hg7).trans hg8) (H10.perm (by walk_at "mine perm"))
end

-- T24
section
variable {prog : Program} [PrOk prog] {w : World} {A : Around} {E : Value → Shared → Prop} {s : Shared} {g : Heap} {γ₀ : Array GenState} {L : List Ent} {pg pd cx cd ll : Addr} {cvs lvs : List Value} {M : Int} {sc : Str} {tm tw tl ts kt : Nat} {cur : List Bool}
theorem newl0_s {Q : Value → Shared → Prop} (H : St w g γ₀ s.heap s.gens ((pg, PagO pd) :: (pd, NsO (pgB M sc ll cx tm tw tl ts)) :: (cx, AccO cd []) :: (cd, NsO [("_initial_size", .int 0 kt)]) :: (ll, LstO lvs) :: L)) (hs : 0 < s.toks) (hA : Ok A 9 100)
    (hQ : ∀ kt' g' h' γ' tk', s.toks ≤ tk' → Le g g' → St w g' γ₀ h' γ' ((pg, PagO pd) :: (pd, NsO (pgB M sc ll cx tm tw tl ts)) :: (cx, AccO cd []) :: (cd, NsO [("_initial_size", .int 0 kt')]) :: (ll, LstO lvs) :: L) → Q .none { s with heap := h', gens := γ', toks := tk' }) :
    wpAny (model prog w) A (call (.ref 147) [.ref pg]) Q E s := by
  refine' call_fn (bs := [("self", .ref pg)]) F147 H hA.room ?hb ?hbind ?hcell ?hloc ?hbs ?h1 ?h2 ?h3 ?_
  walk_at "mine enter"
  intro Lf h₁ tk htk H'
  k_fold
  have hA' : Ok (A.deeper (callEnv F147.val Lf 147)) 8 97 := (hA.le (d' := 8 + 1) (u' := 97 + 3) (by decide) (by decide)).deeper
  have hh : A.handled = none := hA.h
  have sh_a := sh2 ok_sp ok_e
  have sh_b := sh2 ok_e ok_e
  have hne : (!(PyData.tuple [PyData.str "", PyData.str ""]).eqv (PyData.tuple [PyData.str " ", PyData.str ""])) = true := by
    have e : ("" : Str) = ⟨#[]⟩ := by decide +kernel
    have e2 : (" " : Str) = ⟨#[32]⟩ := by decide +kernel
    rw [e, e2]
    simp [PyData.eqv, PyData.eqvAll]
  walk_at "mine walk"
  refine pop0_s ((H'.pull (.tail (.tail (.tail (.tail .head))))).pull (.tail (.tail (.tail (.tail .head))))) (hA'.le (by decide) (by decide)) ?_
  intro tp tpa tpb h1 tk1 htk1 H1a
  have H1 := H1a.pull (.tail (.tail (.tail .head)))
  clear H1a
  dsimp only at htk1
  walk_at "mine walk"
  refine call_star rfl ?_
  walk_at "mine walk"
  (rename St _ _ _ _ _ _ => H2; rename_i tq _)
  refine get_accM (f := 213) H2 (.inr (by walk_at "mine mem")) (.inr (by walk_at "mine mem")) rfl (by k_is) (by k_is) (by k_is) (by k_is) (by k_is) (by k_is) (by k_is) (by decide +kernel) ?_
  intro q h3 H3
  refine callWith_star H3 (.tail _ (.head _)) (by k_is) rfl ?_
  walk_at "mine walk"
  rename St _ _ _ _ _ _ => H4
  refine ⟨⟨by obtain ⟨_, e, rfl⟩ := H4.of (a := q) (P := RawO (mthO 213 cx)) (.tail _ (.head _)); exact e, H4.inK⟩, ?_⟩
  refine push_b ((H4.pull (.tail (.tail (.tail (.tail (.tail .head)))))).pull (.tail (.tail (.tail (.tail (.tail .head)))))) (.tail _ (.head _)) (hA'.le (by decide) (by decide)) (by simp) ?_
  intro tn g5 h5 tk5 htk5 hg5 htn H5a
  have H5b := H5a.pull (.tail (.tail .head))
  have H5 : St w g5 γ₀ h5 s.gens ((Lf, FrO ([("self", .ref pg)] : Bs)) :: (cx, AccO cd [.ref tn]) :: (cd, NsO ([("_initial_size", .int 0 kt)] : Bs)) :: (pg, PagO pd) :: (pd, NsO (pgB M sc ll cx tm tw tl ts)) :: (ll, LstO lvs) :: L) :=
    (H5b.sub (by walk_at "mine back")).weak fun o => FrO.sub (by walk_at "mine subs")
  clear H5a H5b
  dsimp only at htk5
  have hp5 : Parts g5 [.ref tn] [("", "")] := .cons ⟨tn, _, _, rfl, htn⟩ .nil
  walk_at "mine walk"
  refine rlen_s ((H5.pull (.tail (.tail .head))).pull (.tail (.tail .head))) (hA'.le (by decide) (by decide)) hp5 (fun p hp => by simp at hp; subst hp; decide +kernel) (by simp) (by decide) (by decide) ?_
  intro t6 g6 h6 γ6 tk6 htk6 hg6 H6a
  have H6 := H6a.pull (.tail (.tail .head))
  clear H6a H5
  dsimp only at htk6
  have e0 : plen [("", "")] = 0 := by decide +kernel
  rw [e0]
  walk_at "mine walk"
  refine reset0_s ((H6.pull (.tail (.tail .head))).pull (.tail (.tail .head))) (hA'.le (by decide) (by decide)) (by simp) ?_
  intro t10 h10 tk10 htk10 H10a
  have H10 := (H10a.pull (.tail (.tail .head))).tail
  dsimp only at htk10
  walk_at "mine walk"
  walk_at "mine fin"
  exact hQ t10 g6 _ γ6 _ (by walk_at "o") (hg5.trans hg6) (H10.perm (by walk_at "mine perm"))
theorem strsAre_len : ∀ {vs : List Value} {ys : List Str}, StrsAre vs ys → vs.length = ys.length
  | _, _, .nil => rfl
  | _, _, .cons _ _ r => by rw [List.length_cons, List.length_cons, strsAre_len r]
theorem str1_s {b : Bool} {sep : Str} {tsep : Nat} {lines : List Str} {Q : Value → Shared → Prop} (H : St w g γ₀ s.heap s.gens ((pg, PagO pd) :: (pd, NsO (pgB M sc ll cx tm tw tl ts)) :: (cx, AccO cd cvs) :: (cd, NsO [("_initial_size", .int 0 kt)]) :: (ll, LstO lvs) :: L)) (hs : 0 < s.toks) (hA : Ok A 10 110) (hp : Parts g cvs ((cur ++ [b]).map mk)) (hl : cur.length ≤ 500) (hsep : sep.length ≤ 10)
    (hlv : StrsAre lvs lines) (hln : lines.length ≤ 100) (hlz : ∀ x ∈ lines, x.length ≤ 10000)
    (hQ : ∀ t lvs' kt' g' h' γ' tk', s.toks ≤ tk' → Le g g' → StrsAre lvs' (lines ++ [rowT ((cur ++ [b]).map mk)]) → St w g' γ₀ h' γ' ((pg, PagO pd) :: (pd, NsO (pgB M sc ll cx tm tw tl ts)) :: (cx, AccO cd []) :: (cd, NsO [("_initial_size", .int 0 kt')]) :: (ll, LstO lvs') :: L) → Q (.str (Txt.join sep (lines ++ [rowT ((cur ++ [b]).map mk)])) t) { s with heap := h', gens := γ', toks := tk' }) :
    wpAny (model prog w) A (call (.ref 133) [.ref pg, .str sep tsep]) Q E s := by
  refine' call_fn (bs := [("self", .ref pg), ("linesep", .str sep tsep)]) F133 H hA.room ?hb ?hbind ?hcell ?hloc ?hbs ?h1 ?h2 ?h3 ?_
  walk_at "mine enter"
  intro Lf h₁ tk htk H'
  k_fold
  have hA' : Ok (A.deeper (callEnv F133.val Lf 133)) 9 107 := (hA.le (d' := 9 + 1) (u' := 107 + 3) (by decide) (by decide)).deeper
  walk_at "mine walk"
  refine newl1_s (b := b) (cur := cur) (L := (Lf, FrO ([("self", .ref pg), ("linesep", .str sep tsep)] : Bs)) :: L) (H'.perm (by walk_at "mine perm")) (by dsimp only; walk_at "o") (hA'.le (by decide) (by decide)) hp hl (by rw [strsAre_len hlv]; walk_at "o") ?_
  intro t1 kt' g1 h1 γ1 tk1 htk1 hg1 H1a
  have H1 := H1a.pull (.tail (.tail (.tail (.tail (.tail .head)))))
  clear H1a
  dsimp only at htk1
  have hlv' : StrsAre (lvs ++ [.str (rowT ((cur ++ [b]).map mk)) t1]) (lines ++ [rowT ((cur ++ [b]).map mk)]) := StrsAre.append' hlv (.cons _ _ .nil)
  walk_at "mine walk"
  refine wpAny_with_toks (n := tk1) (by dsimp only; walk_at "o") ?_
  refine join_list (LstO.isList (H1.of (by walk_at "mine mem"))) hlv' ?_ fun t' k hk => ?_
  · have key : ∀ ys : List Str, (∀ x ∈ ys, x.length ≤ 10000) → (ys.map (·.length)).sum ≤ 10000 * ys.length := by
      intro ys
      induction ys with
      | nil => intro _; simp
      | cons y r ih =>
        intro h
        rw [List.map_cons, List.sum_cons, List.length_cons]
        have := h y (.head _)
        have := ih fun q hq => h q (.tail _ hq)
        walk_at "o"
    have k1 := key (lines ++ [rowT ((cur ++ [b]).map mk)]) (fun x hx => by
      rcases List.mem_append.mp hx with hx | hx
      · exact hlz x hx
      · simp only [List.mem_singleton] at hx
        subst hx
        rw [rowT_len]; simp; walk_at "o")
    have k2 : (lines ++ [rowT ((cur ++ [b]).map mk)]).length ≤ 101 := by simp; walk_at "o"
    have k3 : (lines ++ [rowT ((cur ++ [b]).map mk)]).length * sep.length ≤ 101 * 10 := Nat.mul_le_mul k2 hsep
    walk_at "o"
  · dsimp only at hk
    exact hQ t' _ kt' g1 h1 γ1 k (by walk_at "o") hg1 hlv' H1.tail
theorem str0_s {sep : Str} {tsep : Nat} {lines : List Str} {Q : Value → Shared → Prop} (H : St w g γ₀ s.heap s.gens ((pg, PagO pd) :: (pd, NsO (pgB M sc ll cx tm tw tl ts)) :: (cx, AccO cd []) :: (cd, NsO [("_initial_size", .int 0 kt)]) :: (ll, LstO lvs) :: L)) (hs : 0 < s.toks) (hA : Ok A 10 110) (hsep : sep.length ≤ 10)
    (hlv : StrsAre lvs lines) (hln : lines.length ≤ 100) (hlz : ∀ x ∈ lines, x.length ≤ 10000)
    (hQ : ∀ t kt' g' h' γ' tk', s.toks ≤ tk' → Le g g' → St w g' γ₀ h' γ' ((pg, PagO pd) :: (pd, NsO (pgB M sc ll cx tm tw tl ts)) :: (cx, AccO cd []) :: (cd, NsO [("_initial_size", .int 0 kt')]) :: (ll, LstO lvs) :: L) → Q (.str (Txt.join sep lines) t) { s with heap := h', gens := γ', toks := tk' }) :
    wpAny (model prog w) A (call (.ref 133) [.ref pg, .str sep tsep]) Q E s := by
  refine' call_fn (bs := [("self", .ref pg), ("linesep", .str sep tsep)]) F133 H hA.room ?hb ?hbind ?hcell ?hloc ?hbs ?h1 ?h2 ?h3 ?_
  walk_at "mine enter"
  intro Lf h₁ tk htk H'
  k_fold
  have hA' : Ok (A.deeper (callEnv F133.val Lf 133)) 9 107 := (hA.le (d' := 9 + 1) (u' := 107 + 3) (by decide) (by decide)).deeper
  walk_at "mine walk"
  refine newl0_s (L := (Lf, FrO ([("self", .ref pg), ("linesep", .str sep tsep)] : Bs)) :: L) (H'.perm (by walk_at "mine perm")) (by dsimp only; walk_at "o") (hA'.le (by decide) (by decide)) ?_
  intro kt' g1 h1 γ1 tk1 htk1 hg1 H1a
  have H1 := H1a.pull (.tail (.tail (.tail (.tail (.tail .head)))))
  clear H1a
  dsimp only at htk1
  walk_at "mine walk"
  refine wpAny_with_toks (n := tk1) (by dsimp only; walk_at "o") ?_
  refine join_list (LstO.isList (H1.of (by walk_at "mine mem"))) hlv ?_ fun t' k hk => ?_
  · have key : ∀ ys : List Str, (∀ x ∈ ys, x.length ≤ 10000) → (ys.map (·.length)).sum ≤ 10000 * ys.length := by
      intro ys
      induction ys with
      | nil => intro _; simp
      | cons y r ih =>
        intro h
        rw [List.map_cons, List.sum_cons, List.length_cons]
        have := h y (.head _)
        have := ih fun q hq => h q (.tail _ hq)
        walk_at "o"
    have k1 := key lines hlz
    have k3 : lines.length * sep.length ≤ 100 * 10 := Nat.mul_le_mul hln hsep
    walk_at "o"
  · dsimp only at hk
    exact hQ t' kt' g1 h1 γ1 k (by walk_at "o") hg1 H1.tail
end

-- T25
noncomputable def b168 : {b : List Stmt // F168.1.body = .stmts b} := ⟨_, rfl⟩
noncomputable def GenO (gn : Nat) : OP := fun o => ∃ nm qn, o.cls = .type "generator" ∧ o.data = .fields #[.int gn 0, nm, qn] ∧ o.slots = #[]
theorem GenO.isGen {h : Heap} {a : Addr} {gn : Nat} (x : ∃ o, h.get? a = some o ∧ GenO gn o) : h.IsGen a gn := let ⟨o, e, nm, qn, c, d, sl⟩ := x; ⟨o, nm, qn, e, c, d, sl⟩
section
variable {prog : Program} [PrOk prog] {w : World} {A : Around} {E : Value → Shared → Prop} {s : Shared} {g h : Heap} {γ₀ γ : Array GenState} {L : List Ent} {pg pd cx cd ll : Addr} {cvs lvs : List Value} {M : Int} {sc : Str} {tm tw tl ts kt : Nat} {cur : List Bool}
theorem St.setGen {gn : Nat} {x : GenState} (H : St w g γ₀ h γ L) (hn : γ₀[gn]? = none) (hx : x.bare = true) : St w g γ₀ h (γ.setIfInBounds gn x) L := by
  refine H.gens (fun i y e => ?_) ?_
  · have hne : gn ≠ i := by rintro rfl; rw [hn] at e; cases e
    rw [Array.getElem?_setIfInBounds_ne hne]
    exact H.gk i y e
  · intro y hy
    rcases Array.mem_or_eq_of_mem_setIfInBounds hy with q | q
    · exact H.gb y q
    · rw [q]; exact hx
theorem St.based (H : St w g γ₀ h γ L) : St w g γ h γ L := let ⟨T, t, y⟩ := H; ⟨T, t, y.keep, y.own, y.nd, fun _ _ e => e, y.gb, y.cx⟩
theorem St.rebase {γ₁ : Array GenState} (H : St w g γ₁ h γ L) (h1 : ∀ (i : Nat) (x : GenState), γ₀[i]? = some x → γ₁[i]? = some x) : St w g γ₀ h γ L := let ⟨T, t, y⟩ := H; ⟨T, t, y.keep, y.own, y.nd, fun i x e => y.gk i x (h1 i x e), y.gb, y.cx⟩
theorem St.newGen {gs : GenState} (H : St w g γ₀ h γ L) (hb : gs.bare = true) : St w g γ₀ h (γ.push gs) L := by
  refine H.gens (fun i y e => ?_) ?_
  · have e' := H.gk i y e
    have : i < γ.size := by
      rcases Nat.lt_or_ge i γ.size with z | z
      · exact z
      · rw [Array.getElem?_eq_none z] at e'; cases e'
    rw [Array.getElem?_push_lt this]
    rw [Array.getElem?_eq_getElem this] at e'
    exact e'
  · intro y hy
    rcases Array.mem_push.mp hy with hy | rfl
    · exact H.gb y hy
    · exact hb
theorem St.gNone (H : St w g γ₀ h γ L) : γ₀[γ.size]? = none := by
  cases q : γ₀[γ.size]? with
  | none => rfl
  | some y => have := H.gk _ y q; rw [Array.getElem?_eq_none (Nat.le_refl _)] at this; cases this
theorem gen_new {Q : Value → Shared → Prop} (H : St w g γ₀ s.heap s.gens L) (hA : Ok A 3 20)
    (hQ : ∀ a Gf gn h' γ' tk', s.toks ≤ tk' → γ₀[gn]? = none → γ'[gn]? = some (.fresh (.func b168.1 (callEnv F168.1 Gf 168))) → St w g γ₀ h' γ' ((a, GenO gn) :: (Gf, FrO [("self", .ref pg)]) :: L) → Q (.ref a) { s with heap := h', gens := γ', toks := tk' }) :
    wpAny (model prog w) A (call (.ref 168) [.ref pg]) Q E s := by
  have X := H.inK
  refine wpAny_call (codeAny_call_generator hA.room (X _ _ (F168.2.1 _)) rfl rfl rfl b168.2 (codeRec_of X (F168.2.2 _)) ?_)
  refine wpAny_of_eq (a := ([("self", .ref pg)] : Bs)) rfl ?_
  refine wpAny_newFunctionEnv (by decide) (locs rfl) (fun h₁ hns hsb => ?_) rfl
  have H1 : St w g γ₀ h₁ s.gens ((s.heap.objs.size, FrO ([("self", .ref pg)] : Bs)) :: L) :=
    H.new (fun b o e => hsb.extBut b o (Nat.ne_of_lt (Heap.lt_size e)) (Heap.get?_push_of_some _ e)) (Nat.le_refl _) (of_ns hns fun x v q => q)
  refine ⟨H1.cx.N.keeps H1.keep, ?_⟩
  dsimp only
  refine hQ _ s.heap.objs.size s.gens.size _ _ _ (by simp; walk_at "o") H.gNone (by simp; rfl) ?_
  exact (H1.push _ rfl ⟨_, _, rfl, rfl, rfl⟩).newGen rfl
/-- `next` of a generator that yields -/
theorem next_gen {a : Addr} {gn n : Nat} {gs : GenState} {Y : Protocol} {Q : Value → Shared → Prop} (hA : Ok A 3 20) (hl : s.heap.NoLimit) (hg : s.heap.IsGen a gn) (hgs : s.gens[gn]? = some gs)
    (hgo : gs.Goes (model prog w) A.in1.in1 (fun _ _ _ _ => False) Y n (.send .none) (s.setGen gn .running))
    (hY : ∀ v s₁ gs', gs'.bare = true → Y (n - 1) (s.setGen gn .running) v s₁ (fun r' s'' => match n with
        | 0 => False
        | m + 1 => gs'.Goes (model prog w) A.in1.in1 (fun _ _ _ _ => False) Y m r' s'') → Q v (s₁.setGen gn gs')) :
    wpAny (model prog w) A (call (.builtin "next") [.ref a]) Q E s := by
  refine call_function_entry (by decide +kernel) (by decide +kernel) kdk_entry_next (kdk_args_next _) ?_
  unfold Builtin.«next»
  refine wpAny_bind (m := someArgs "next" 1 2 _) (wpAny_of_eq (a := [Value.ref a]) (by first | rfl | kernel_rfl) ?_)
  dsimp only
  refine wpAny_bind (wpAny_specialOf (name := Str.ofString "__next__") hg.typeIs slot_gen_next.lookup ?_)
  refine wpAny_ite_split (fun hab => absurd hab (by decide)) (fun _ => ?_)
  refine wpAny_bind (wpAny_callSpecial?_slot (name := Str.ofString "__next__") hg.typeIs slot_gen_next
    (wpAny_call_entry slot_gen_next hg.typeIs entry_gen_next ?_ (args_gen_next _)))
  show wpAny _ _ (Builtin.Generator.genWake (.ref a) (.send .none)) _ _ s
  unfold Builtin.Generator.genWake
  refine wpAny_bind (wpAny_holding (wpAny_genNumber hg (wpAny_bind (wpAny_genState hgs ?_))))
  cases gs with
  | running => exact hgo.elim
  | finished => exact hgo.elim
  | _ =>
    refine wpAny_bind (wpAny_roomToWake hl (hA.in1.in1.room) ?_)
    show wpAny _ _ (.resume gn (.send .none) [] _) _ _ s
    refine wpAny_resumeQ hgs hgo (fun x s₁ hx => hx.elim) (fun v s₁ gs' hb hv => ?_)
    exact wpAny_pure ⟨v, rfl, wpAny_pure ⟨v, rfl, hY v s₁ gs' hb hv⟩⟩
end
section
theorem Ok.ov1 {A : Around} {d u : Nat} {b : List Stmt} {env : Env} (x : Ok A (d + 1) (u + 3)) : Ok (A.over (.func b env) []) d u :=
  ⟨x.h, by have := x.d; show A.depth + 1 + d < _; walk_at "o", by have := x.u; show A.units + 3 + u < _; walk_at "o"⟩
theorem Ok.ov2 {A : Around} {d u : Nat} {b b2 b3 : List Stmt} {env : Env} {t : PySem.Expr} {k g l p q} (x : Ok A (d + 1) (u + 3)) : Ok (A.over (.whileLoop t b2 b3 env) [.ret k none g l (.func b env) p q]) d u :=
  ⟨x.h, by have := x.d; show A.depth + 1 + d < _; walk_at "o", by have := x.u; show A.units + 3 + u < _; walk_at "o"⟩
/-- where the generator stands, and what it gives -/
noncomputable def mlGood (w : World) (g₀ : Heap) (γ₀ : Array GenState) (gn : Nat) (LL : List Ent) (s : Shared) : Prop := (∃ g, Le g₀ g ∧ St w g γ₀ s.heap s.gens LL) ∧ 0 < s.toks ∧ s.gens[gn]? = some .running
noncomputable def mlY (w : World) (g₀ : Heap) (γ₀ : Array GenState) (gn : Nat) (LL : List Ent) (X : Nat → Int) : Protocol := fun n s₀ v s' kap =>
  (∃ t : Nat, v = .int (X n) t) ∧ s₀.toks ≤ s'.toks ∧ s'.drawn = s₀.drawn ∧ s'.os = s₀.os ∧ mlGood w g₀ γ₀ gn LL s' ∧ (n ≠ 0 → ∀ s'', mlGood w g₀ γ₀ gn LL s'' → kap (.send .none) s'')
variable {prog : Program} [PrOk prog] {w : World} {A : Around} {s s₀ : Shared} {g₀ : Heap} {γ₀ : Array GenState} {L : List Ent} {pg pd cx cd ll a Gf : Addr} {cvs lvs : List Value} {M : Int} {sc : Str} {tm tw tl ts kt gn : Nat} {cur : List Bool}
abbrev mlL (pg pd cx cd ll a Gf : Addr) (cvs lvs : List Value) (M : Int) (sc : Str) (tm tw tl ts kt gn : Nat) (L : List Ent) : List Ent :=
  (Gf, FrO ([("self", .ref pg)] : Bs)) :: (a, GenO gn) :: (pg, PagO pd) :: (pd, NsO (pgB M sc ll cx tm tw tl ts)) :: (cx, AccO cd cvs) :: (cd, NsO ([("_initial_size", .int 0 kt)] : Bs)) :: (ll, LstO lvs) :: L
noncomputable def w168 : {x : PySem.Expr × List Stmt // ∃ e pos, b168.1 = [e, .While x.1 x.2 [] pos]} := ⟨(_, _), _, _, rfl⟩
theorem ml_loop {X : Nat → Int} {k : Result → Sem Fin} {l q : List Value} {p : Pos} {b : List Stmt} (hA : Ok A 8 90) (hX1 : ∀ n, n < 2 → X n = M - 1) : ∀ (m : Nat) (s : Shared), m < 2 → mlGood w g₀ γ₀ gn (mlL pg pd cx cd ll a Gf cvs lvs M sc tm tw tl ts kt gn L) s →
    Seg (model prog w) A (fun _ _ _ _ => False) (mlY w g₀ γ₀ gn (mlL pg pd cx cd ll a Gf cvs lvs M sc tm tw tl ts kt gn L) X) (m + 1) s (.whileLoop w168.1.1 w168.1.2 [] (callEnv F168.1 Gf 168)) ((model prog w).den (.whileLoop w168.1.1 w168.1.2 [] (callEnv F168.1 Gf 168)))
      [.ret k none false l (.func b (callEnv F168.1 Gf 168)) p q] s := by
  intro m
  induction m with
  | zero =>
    intro s hm hG
    obtain ⟨⟨g, hg, H⟩, ht, hr⟩ := hG
    have H' := H.based
    refine seg_whileLoop ?_
    dsimp only [w168]
    walk_at "mine walk"
    refine seg_execs_cons ?_
    refine seg_Expr_Yield rfl rfl rfl ?_
    walk_at "mine walk"
    intro kap hk
    rw [← hX1 0 (by decide)]
    exact ⟨⟨_, rfl⟩, by dsimp only; walk_at "o", rfl, rfl, ⟨⟨g, hg, H⟩, by dsimp only; walk_at "o", hr⟩, fun z => absurd rfl z⟩
  | succ m ih =>
    intro s hm hG
    obtain ⟨⟨g, hg, H⟩, ht, hr⟩ := hG
    have H' := H.based
    refine seg_whileLoop ?_
    dsimp only [w168]
    walk_at "mine walk"
    refine seg_execs_cons ?_
    refine seg_Expr_Yield rfl rfl rfl ?_
    walk_at "mine walk"
    intro kap hk
    rw [← hX1 (m + 1) (by walk_at "o")]
    refine ⟨⟨_, rfl⟩, by dsimp only; walk_at "o", rfl, rfl, ⟨⟨g, hg, H⟩, by dsimp only; walk_at "o", hr⟩, fun _ s'' hs'' => ?_⟩
    refine hk .none s'' ?_
    show Seg _ _ _ _ _ _ _ _ _ _
    refine seg_execs_nil ?_
    exact seg_again rfl (ih s'' (by walk_at "o") hs'')
theorem ml_start {X : Nat → Int} (hA : Ok A 8 90) (hX : X 2 = M - 2 * cur.length) (hX1 : ∀ n, n < 2 → X n = M - 1) (hp : Parts g₀ cvs (cur.map mk)) (hl : cur.length ≤ 500) (hG : mlGood w g₀ γ₀ gn (mlL pg pd cx cd ll a Gf cvs lvs M sc tm tw tl ts kt gn L) s) :
    Seg (model prog w) A (fun _ _ _ _ => False) (mlY w g₀ γ₀ gn (mlL pg pd cx cd ll a Gf cvs lvs M sc tm tw tl ts kt gn L) X) 3 s (.func b168.1 (callEnv F168.1 Gf 168)) ((model prog w).den (.func b168.1 (callEnv F168.1 Gf 168))) [] s := by
  refine seg_func ?_
  refine seg_execs_cons ?_
  refine seg_Expr_Yield rfl rfl rfl ?_
  obtain ⟨⟨g, hg, H⟩, ht, hr⟩ := hG
  have H' := H.based
  walk_at "mine walk"
  refine rlen_s ((H'.pull (.tail (.tail (.tail (.tail (.tail .head)))))).pull (.tail (.tail (.tail (.tail (.tail .head)))))) (Ok.ov1 (hA.le (d' := 4 + 1) (u' := 61 + 3) (by decide) (by decide))) (hp.le hg) (pl_le _) (by rw [List.length_map]; walk_at "o") (by decide) (by decide) ?_
  intro t1 g1 h1 γ1 tk1 htk1 hg1 H1a
  have H1 : St w g1 s.gens h1 γ1 (mlL pg pd cx cd ll a Gf cvs lvs M sc tm tw tl ts kt gn L) := H1a.perm (by walk_at "mine perm")
  dsimp only at htk1
  rw [plen_mk]
  walk_at "mine walk"
  intro kap hk
  have hX' : M - (0 + ((2 * cur.length : Nat) : Int)) = X 2 := by rw [hX]; walk_at "o"
  rw [hX']
  refine ⟨⟨_, rfl⟩, by dsimp only; walk_at "o", rfl, rfl, ⟨⟨g1, hg.trans hg1, H1.rebase H.gk⟩, by dsimp only; walk_at "o", H1.gk _ _ hr⟩, fun _ s'' hs'' => ?_⟩
  refine hk .none s'' ?_
  show Seg _ _ _ _ _ _ _ _ _ _
  refine seg_execs_cons ?_
  refine seg_While fun p => ?_
  exact ml_loop hA hX1 1 s'' (by decide) hs''
noncomputable def mlX (M : Int) (c : Nat) (n : Nat) : Int := if n = 2 then M - 2 * c else M - 1
noncomputable def mlLater (prog : Program) (w : World) (A : Around) (g₀ : Heap) (γ₀ : Array GenState) (gn : Nat) (LL : List Ent) (X : Nat → Int) (k : Nat) (gs : GenState) : Prop :=
  gs.bare = true ∧ ∀ s'', mlGood w g₀ γ₀ gn LL s'' → gs.Goes (model prog w) A (fun _ _ _ _ => False) (mlY w g₀ γ₀ gn LL X) k (.send .none) s''
theorem mlGood_run {g : Heap} {LL : List Ent} {gs : GenState} (H : St w g γ₀ s.heap s.gens LL) (hg : Le g₀ g) (hs : 0 < s.toks) (hn : γ₀[gn]? = none) (hgs : s.gens[gn]? = some gs) : mlGood w g₀ γ₀ gn LL (s.setGen gn .running) :=
  ⟨⟨g, hg, H.setGen hn rfl⟩, hs, setGen_self hgs⟩
theorem next_go {E : Value → Shared → Prop} {g : Heap} {LL : List Ent} {X : Nat → Int} {k : Nat} {gs : GenState} {Q : Value → Shared → Prop} (H : St w g γ₀ s.heap s.gens LL) (hg : Le g₀ g) (hs : 0 < s.toks) (hA : Ok A 10 94) (ha : ∃ o, s.heap.get? a = some o ∧ GenO gn o) (hn : γ₀[gn]? = none) (hgs : s.gens[gn]? = some gs)
    (hgo : gs.Goes (model prog w) A.in1.in1 (fun _ _ _ _ => False) (mlY w g₀ γ₀ gn LL X) (k + 1) (.send .none) (s.setGen gn .running))
    (hQ : ∀ (t : Nat) g' h' γ' tk' gs', s.toks ≤ tk' → Le g₀ g' → St w g' γ₀ h' γ' LL → γ'[gn]? = some gs' → (k ≠ 0 → mlLater prog w A.in1.in1 g₀ γ₀ gn LL X k gs') → Q (.int (X k) t) { s with heap := h', gens := γ', toks := tk' }) :
    wpAny (model prog w) A (call (.builtin "next") [.ref a]) Q E s := by
  refine next_gen (hA.le (by decide) (by decide)) (H.cx.N.keeps H.keep) (GenO.isGen ha) hgs hgo ?_
  rintro v s₁ gs' hb ⟨⟨t, rfl⟩, h1, h2, h3, ⟨⟨g', hg', H'⟩, h4, h5⟩, h6⟩
  obtain ⟨hh, γ, d, tk, os⟩ := s₁
  dsimp only at h2 h3 H' h4 h5
  have e2 : d = s.drawn := h2
  have e3 : os = s.os := h3
  subst e2 e3
  exact hQ t g' hh _ tk gs' h1 hg' (H'.setGen hn hb) (setGen_self (s := ⟨hh, γ, s.drawn, tk, s.os⟩) h5) fun z => ⟨hb, fun s'' hs'' => h6 z s'' hs''⟩
theorem nextA {E : Value → Shared → Prop} {g : Heap} {Q : Value → Shared → Prop} (H : St w g γ₀ s.heap s.gens (mlL pg pd cx cd ll a Gf cvs lvs M sc tm tw tl ts kt gn L)) (hs : 0 < s.toks) (hA : Ok A 10 94) (hn : γ₀[gn]? = none) (hgs : s.gens[gn]? = some (.fresh (.func b168.1 (callEnv F168.1 Gf 168)))) (hp : Parts g cvs (cur.map mk)) (hl : cur.length ≤ 500)
    (hQ : ∀ (t : Nat) g' h' γ' tk' gs', s.toks ≤ tk' → Le g g' → St w g' γ₀ h' γ' (mlL pg pd cx cd ll a Gf cvs lvs M sc tm tw tl ts kt gn L) → γ'[gn]? = some gs' → mlLater prog w A.in1.in1 g γ₀ gn (mlL pg pd cx cd ll a Gf cvs lvs M sc tm tw tl ts kt gn L) (mlX M cur.length) 2 gs' → Q (.int (M - 2 * cur.length) t) { s with heap := h', gens := γ', toks := tk' }) :
    wpAny (model prog w) A (call (.builtin "next") [.ref a]) Q E s := by
  have hA1 : Ok A.in1 10 93 := hA.in1
  have hA2 : Ok A.in1.in1 10 92 := hA1.in1
  refine next_go (k := 2) (X := mlX M cur.length) H (.refl g) hs hA (H.of (.tail _ (.head _))) hn hgs ⟨rfl, ?_⟩ fun t g' h' γ' tk' gs' h1 h2 h3 h4 h5 => hQ t g' h' γ' tk' gs' h1 h2 h3 h4 (h5 (by decide))
  refine ml_start (hA2.le (by decide) (by decide)) rfl (fun n h => ?_) hp hl (mlGood_run H (.refl g) hs hn hgs)
  unfold mlX
  rw [if_neg (by walk_at "o")]
theorem nextB {E : Value → Shared → Prop} {g : Heap} {k : Nat} {gs : GenState} {Q : Value → Shared → Prop} (hk : k < 2) (H : St w g γ₀ s.heap s.gens (mlL pg pd cx cd ll a Gf cvs lvs M sc tm tw tl ts kt gn L)) (hg : Le g₀ g) (hs : 0 < s.toks) (hA : Ok A 10 94) (hn : γ₀[gn]? = none) (hgs : s.gens[gn]? = some gs)
    (hl : mlLater prog w A.in1.in1 g₀ γ₀ gn (mlL pg pd cx cd ll a Gf cvs lvs M sc tm tw tl ts kt gn L) (mlX M cur.length) (k + 1) gs)
    (hQ : ∀ (t : Nat) g' h' γ' tk' gs', s.toks ≤ tk' → Le g₀ g' → St w g' γ₀ h' γ' (mlL pg pd cx cd ll a Gf cvs lvs M sc tm tw tl ts kt gn L) → γ'[gn]? = some gs' → (k ≠ 0 → mlLater prog w A.in1.in1 g₀ γ₀ gn (mlL pg pd cx cd ll a Gf cvs lvs M sc tm tw tl ts kt gn L) (mlX M cur.length) k gs') → Q (.int (M - 1) t) { s with heap := h', gens := γ', toks := tk' }) :
    wpAny (model prog w) A (call (.builtin "next") [.ref a]) Q E s := by
  refine next_go (k := k) (X := mlX M cur.length) H hg hs hA (H.of (.tail _ (.head _))) hn hgs (hl.2 _ (mlGood_run H hg hs hn hgs)) fun t g' h' γ' tk' gs' h1 h2 h3 h4 h5 => ?_
  have e : mlX M cur.length k = M - 1 := by unfold mlX; rw [if_neg (by walk_at "o")]
  rw [e]
  exact hQ t g' h' γ' tk' gs' h1 h2 h3 h4 h5
end

-- T26
section
abbrev pgE (pg pd cx cd ll : Addr) (cvs lvs : List Value) (M : Int) (sc : Str) (tm tw tl ts kt : Nat) (L : List Ent) : List Ent :=
  (pg, PagO pd) :: (pd, NsO (pgB M sc ll cx tm tw tl ts)) :: (cx, AccO cd cvs) :: (cd, NsO ([("_initial_size", .int 0 kt)] : Bs)) :: (ll, LstO lvs) :: L
/-- what a page makes of one cell -/
noncomputable def AppOk (prog : Program) (w : World) (g₀ : Heap) (γ₀ : Array GenState) (pg pd cx cd ll : Addr) (cvs lvs : List Value) (M : Int) (sc : Str) (tm tw tl ts kt : Nat) (b : Bool) (Post : Heap → List Value → List Value → Prop) : Prop :=
  ∀ (A : Around) (E : Value → Shared → Prop) (s : Shared) (g : Heap) (L : List Ent) (ta tb : Nat) (Q : Value → Shared → Prop), Le g₀ g → St w g γ₀ s.heap s.gens (pgE pg pd cx cd ll cvs lvs M sc tm tw tl ts kt L) → 0 < s.toks → Ok A 8 90 →
    (∀ cvs' lvs' kt' g' h' γ' tk', s.toks ≤ tk' → Le g g' → Post g' cvs' lvs' → St w g' γ₀ h' γ' (pgE pg pd cx cd ll cvs' lvs' M sc tm tw tl ts kt' L) → Q .none { s with heap := h', gens := γ', toks := tk' }) →
    wpAny (model prog w) A (call (.ref 182) [.ref pg, .str " " ta, .str (mk b).2 tb]) Q E s
variable {prog : Program} [PrOk prog] {w : World} {A : Around} {E : Value → Shared → Prop} {s : Shared} {g : Heap} {γ₀ : Array GenState} {L : List Ent} {pg pd cx cd ll x dx wl : Addr} {vs cvs lvs ws : List Value} {M : Int} {sc : Str} {tm tw tl ts kt : Nat} {bits : List Bool} {wi : List Int} {b0 : Bool} {Post : Heap → List Value → List Value → Prop}
theorem step_s {c ki : Int} {tc kr : Nat} {Q : Value → Shared → Prop} (H : St w g γ₀ s.heap s.gens ((x, AccO dx vs) :: (dx, NsO ([("_initial_size", .int ki kr)] : Bs)) :: pgE pg pd cx cd ll cvs lvs M sc tm tw tl ts kt L)) (hs : 0 < s.toks) (hA : Ok A 9 94) (hp : Parts g vs ((b0 :: bits).map mk)) (hl : bits.length ≤ 9) (hw : ListAt g wl ws) (hwi : Ints ws wi) (hwl : wi.length = bits.length + 2) (hw1 : ∀ y ∈ wi, y = 0 ∨ y = 1)
    (hApp : AppOk prog w g γ₀ pg pd cx cd ll cvs lvs M sc tm tw tl ts kt b0 Post)
    (hQ : ∀ vs' cvs' lvs' kt' (t kr' : Nat) g' g'' h' γ' tk', s.toks ≤ tk' → Le g g' → Le g' g'' → Parts g'' vs' ((stp (fun i => wi.getD i 0) (b0 :: bits, c)).1.map mk) → Post g' cvs' lvs' → St w g'' γ₀ h' γ' ((x, AccO dx vs') :: (dx, NsO ([("_initial_size", .int 0 kr')] : Bs)) :: pgE pg pd cx cd ll cvs' lvs' M sc tm tw tl ts kt' L) → Q (.int (stp (fun i => wi.getD i 0) (b0 :: bits, c)).2 t) { s with heap := h', gens := γ', toks := tk' }) :
    wpAny (model prog w) A (call (.ref 285) [.ref x, .ref pg, .int c tc, .ref wl]) Q E s := by
  refine' call_fn (bs := [("row", .ref x), ("page", .ref pg), ("carry", .int c tc), ("wires", .ref wl)]) F285 H hA.room ?hb ?hbind ?hcell ?hloc ?hbs ?h1 ?h2 ?h3 ?_
  walk_at "mine enter"
  intro Lf h₁ tk htk H'
  k_fold
  have hA' : Ok (A.deeper (callEnv F285.val Lf 285)) 8 91 := (hA.le (d' := 8 + 1) (u' := 91 + 3) (by decide) (by decide)).deeper
  walk_at "mine walk"
  obtain ⟨ga, la, ra, Ha, back⟩ := (H'.perm (L' := (x, AccO dx vs) :: (dx, NsO ([("_initial_size", .int ki kr)] : Bs)) :: (Lf, FrO ([("row", .ref x), ("page", .ref pg), ("carry", .int c tc), ("wires", .ref wl)] : Bs)) :: pgE pg pd cx cd ll cvs lvs M sc tm tw tl ts kt L) (by walk_at "mine perm")).lend
  refine cells_s Ha (by dsimp only; walk_at "o") (hA'.le (by decide) (by decide)) ra.1 (hp.le la) (by simp; walk_at "o") ?_
  intro cl gb hb γb tkb cs htkb hgb hcs Hb
  dsimp only at htkb
  obtain ⟨gc, hgc, _, Hc⟩ := back gb hb γb _ hgb Hb
  clear back Ha Hb ra
  have Hc1 := Hc.pull (.tail (.tail (.tail .head)))
  clear Hc
  have hcl : cs.length = bits.length + 1 := by rw [hcs.1]; simp
  walk_at "mine walk"
  refine wpAny_For ?_
  walk_at "mine walk"
  (rename St _ _ _ _ _ _ => H3; rename_i rg _ _ it _)
  obtain ⟨B, hB⟩ : ∃ B, B = b0 :: bits := ⟨_, rfl⟩
  have hBl : B.length = bits.length + 1 := by rw [hB]; rfl
  rw [← hB] at hp hcs hQ
  rw [← hBl] at hcl
  obtain ⟨wf, hwf⟩ : ∃ wf : Nat → Int, wf = fun i => wi.getD i 0 := ⟨_, rfl⟩
  rw [← hwf] at hQ
  have hwb : ∀ i, wf i = 0 ∨ wf i = 1 := fun i => by
    rw [hwf]
    dsimp only
    rw [List.getD_eq_getElem?_getD]
    cases q : wi[i]? with
    | none => exact .inl rfl
    | some y => exact hw1 y (List.mem_of_getElem? q)
  have eLen : ((cs.length : Int) - 0).toNat = B.length := by walk_at "o"
  rw [eLen] at H3
  refine for_loop (Lf := Lf) (L := (rg, RangeO 0 cs.length 1) :: (x, AccO dx vs) :: (dx, NsO ([("_initial_size", .int ki kr)] : Bs)) :: (cl, LstO cs) :: pgE pg pd cx cd ll cvs lvs M sc tm tw tl ts kt L)
    (bs := [("cells", .ref cl), ("carry", .int (wS wf B c 0) tc), ("row", .ref x), ("page", .ref pg), ("wires", .ref wl)])
    (iter_range gc it 0 B.length 1) (hA'.le (by decide) (by decide)) (by dsimp only; walk_at "o")
    (fun i _ (bs' : Bs) L' => ∃ t, bs' = ([("cells", .ref cl), ("carry", .int (wS wf B c i) t), ("row", .ref x), ("page", .ref pg), ("wires", .ref wl)] : Bs) ∧ L' = (rg, RangeO 0 cs.length 1) :: (x, AccO dx vs) :: (dx, NsO ([("_initial_size", .int ki kr)] : Bs)) :: (cl, LstO cs) :: pgE pg pd cx cd ll cvs lvs M sc tm tw tl ts kt L)
    (H3.weak fun o => FrO.sub (by walk_at "mine subs")) ⟨_, rfl, rfl⟩ ?_ ?_
  · rintro k g' h' γ' t tk' bs' L' v hk hg ht1 ht2 ⟨t1, rfl, rfl⟩ hv H4
    obtain rfl : v = .int (k : Int) t := by rw [hv]; congr 1; walk_at "o"
    dsimp only at ht1
    have hw' := hw.le (hgc.trans hg)
    have hkl : k < cs.length := by walk_at "o"
    obtain ⟨u1, e1⟩ : ∃ u, ws[B.length - k]? = some (.int (wf (B.length - k)) u) := hwi.2 (B.length - k) (wf (B.length - k)) (by rw [hwf]; simp [List.getD_eq_getElem?_getD, show B.length - k < wi.length by walk_at "o"])
    obtain ⟨u2, e2⟩ : ∃ u, cs[k]? = some (.int (bi (B.getD k false)) u) := hcs.2 _ _ (by simp [List.getD_eq_getElem?_getD, show k < B.length by walk_at "o"])
    have e3 : (cs.length : Int) - (k : Int) = ((B.length - k : Nat) : Int) := by walk_at "o"
    have e4 : (wf (B.length - k)).natAbs < 2 ^ 300 := by rcases hwb (B.length - k) with z | z <;> (rw [z]; decide)
    have e5 : (bi (B.getD k false)).natAbs < 2 ^ 300 := by cases B.getD k false <;> decide
    refine wpAny_assign_Name ?_
    walk_at "mine walk"
    refine imul_s (by with_reducible assumption) (hA'.le (by decide) (by decide)) (mul_ok e4 e5) ?_
    intro t5 h5 tk5 htk5 H5
    dsimp only at htk5
    walk_at "mine walk"
    refine iadd_s (by with_reducible assumption) (hA'.le (by decide) (by decide)) ?_
    intro t6 h6 tk6 htk6 H6
    dsimp only at htk6
    walk_at "mine walk"
    rename St _ _ _ _ _ _ => H7
    exact ⟨g', _, _, _, _, _, rfl, .refl _, by walk_at "o", ⟨t6, rfl, rfl⟩, H7.weak fun o => FrO.sub (by walk_at "mine subs")⟩
  · rintro g' h' γ' tk' bs' L' hg ht1 ⟨t1, rfl, rfl⟩ H4
    dsimp only at ht1
    walk_at "mine walk"
    have hvl := hp.len
    rw [List.length_map] at hvl
    refine popfrom_s (i := 1) ((H4.pull (.tail (.tail (.tail .head)))).pull (.tail (.tail (.tail .head)))) (hA'.le (by decide) (by decide)) (by walk_at "o") (by walk_at "o") ?_
    intro yl h5 tk5 htk5 H5a
    dsimp only at htk5
    obtain ⟨tp, ta, tb, vr, rfl, htp, hpr⟩ : ∃ tp ta tb vr, vs = .ref tp :: vr ∧ TupAt g tp [.str " " ta, .str (mk b0).2 tb] ∧ Parts g vr (bits.map mk) := by
      rw [hB, List.map_cons] at hp
      cases hp with
      | cons y z => obtain ⟨tp, ta, tb, rfl, htp⟩ := y; exact ⟨tp, ta, tb, _, rfl, htp, z⟩
    have H5b : St w g' γ₀ h5 γ' ((yl, LstO vr) :: (x, AccO dx [.ref tp]) :: (dx, NsO ([("_initial_size", .int ki kr)] : Bs)) :: (Lf, FrO ([("cells", .ref cl), ("carry", .int (wS wf B c B.length) t1), ("row", .ref x), ("page", .ref pg), ("wires", .ref wl)] : Bs)) :: (rg, RangeO 0 cs.length 1) :: (cl, LstO cs) :: pgE pg pd cx cd ll cvs lvs M sc tm tw tl ts kt L) := H5a
    have H5 := H5b.pull (.tail (.tail (.tail .head)))
    clear H5a H5b
    have hh : A.handled = none := hA.h
    walk_at "mine walk"
    rename St _ _ _ _ _ _ => H6
    refine pop_s (vs := []) (v := .ref tp) ((H6.pull (.tail (.tail (.tail .head)))).pull (.tail (.tail (.tail .head)))) (hA'.le (by decide) (by decide)) (by simp) ?_
    intro h7 tk7 htk7 H7a
    have H7 := H7a.pull (.tail (.tail .head))
    clear H7a
    dsimp only at htk7
    have htp' := htp.le (hgc.trans hg)
    walk_at "mine walk"
    rename St _ _ _ _ _ _ => H8
    refine hApp _ _ _ g' ((x, AccO dx []) :: (dx, NsO ([("_initial_size", .int ki kr)] : Bs)) :: (yl, LstO vr) :: (Lf, FrO ([("younger", .ref yl), ("carry", .int (wS wf B c B.length) t1), ("row", .ref x), ("page", .ref pg)] : Bs)) :: L) ta tb _ (hgc.trans hg) ?_ (by dsimp only; walk_at "o") (hA'.le (by decide) (by decide)) ?_
    · have H8a : St w g' γ₀ _ γ' ((Lf, FrO ([("younger", .ref yl), ("carry", .int (wS wf B c B.length) t1), ("row", .ref x), ("page", .ref pg)] : Bs)) :: (x, AccO dx []) :: (dx, NsO ([("_initial_size", .int ki kr)] : Bs)) :: (yl, LstO vr) :: (rg, RangeO 0 cs.length 1) :: (cl, LstO cs) :: pgE pg pd cx cd ll cvs lvs M sc tm tw tl ts kt L) :=
        H8.weak fun o => FrO.sub (by walk_at "mine subs")
      have H8b : St w g' γ₀ _ γ' ((Lf, FrO ([("younger", .ref yl), ("carry", .int (wS wf B c B.length) t1), ("row", .ref x), ("page", .ref pg)] : Bs)) :: (x, AccO dx []) :: (dx, NsO ([("_initial_size", .int ki kr)] : Bs)) :: (yl, LstO vr) :: pgE pg pd cx cd ll cvs lvs M sc tm tw tl ts kt L) :=
        H8a.sub (by walk_at "mine back")
      exact H8b.perm (by walk_at "mine perm")
    intro cvs' lvs' kt' g9 h9 γ9 tk9 htk9 hg9 hpost H9a
    have H9 : St w g9 γ₀ h9 γ9 ((Lf, FrO ([("younger", .ref yl), ("carry", .int (wS wf B c B.length) t1), ("row", .ref x), ("page", .ref pg)] : Bs)) :: (x, AccO dx []) :: (dx, NsO ([("_initial_size", .int ki kr)] : Bs)) :: (yl, LstO vr) :: pgE pg pd cx cd ll cvs' lvs' M sc tm tw tl ts kt' L) := H9a.perm (by walk_at "mine perm")
    clear H9a
    dsimp only at htk9
    walk_at "mine walk"
    have hvr : vr.length = bits.length := by rw [hpr.len, List.length_map]
    refine reset_s (l := yl) (ws := vr) ((H9.pull (.tail (.tail .head))).pull (.tail (.tail .head))) (.inr (by walk_at "mine mem")) (hA'.le (by decide) (by decide)) (by simp) (by walk_at "o") ?_
    intro kr' h10 tk10 htk10 H10a
    have H10 := H10a.pull (.tail (.tail .head))
    clear H10a
    dsimp only at htk10
    walk_at "mine walk"
    have hSb : (wS wf B c B.length).fmod 2 = wS wf B c B.length % 2 := Int.fmod_eq_emod_of_nonneg _ (by decide)
    have hSd : (wS wf B c B.length).fdiv (2 ^ (1 : Int).toNat) = wS wf B c B.length / 2 := by
      rw [show ((2 : Int) ^ (1 : Int).toNat) = 2 from rfl, Int.fdiv_eq_ediv_of_nonneg _ (by decide)]
    have hLe : Le g g9 := (hgc.trans hg).trans hg9
    have fin : ∀ (bn : Bool) (tp2 : Addr) g12 h12 (u12 tk12 : Nat), decide (wS wf B c B.length % 2 = 1) = bn → tk10 ≤ tk12 → Le g9 g12 → PartOf g12 (.ref tp2) (mk bn) → St w g12 γ₀ h12 γ9 ((x, AccO dx (vr ++ [.ref tp2])) :: (dx, NsO ([("_initial_size", .int 0 kr')] : Bs)) :: (Lf, FrO ([("younger", .ref yl), ("carry", .int (wS wf B c B.length) t1), ("row", .ref x), ("page", .ref pg)] : Bs)) :: (yl, LstO vr) :: pgE pg pd cx cd ll cvs' lvs' M sc tm tw tl ts kt' L) →
        wpAny (model prog w) (A.deeper (callEnv F285.val Lf 285)) (call (.ref 63) [.int (wS wf B c B.length) t1, .int 1 u12]) (fun v s' => Q v s') ek { s with heap := h12, gens := γ9, toks := tk12 } := by
      intro bn tp2 g12 h12 u12 tk12 hbn htk12 hg12 hpart H12
      refine irshift_s H12 (hA'.le (by decide) (by decide)) (by decide) ?_
      intro t13 h13 tk13 htk13 H13
      dsimp only at htk13
      rw [hSd]
      have hst : stp wf (B, c) = (bits ++ [bn], wS wf B c B.length / 2) := by
        unfold stp
        dsimp only
        rw [hbn, hB]; rfl
      have H14 : St w g12 γ₀ h13 γ9 ((x, AccO dx (vr ++ [.ref tp2])) :: (dx, NsO ([("_initial_size", .int 0 kr')] : Bs)) :: pgE pg pd cx cd ll cvs' lvs' M sc tm tw tl ts kt' L) := H13.sub (by walk_at "mine back")
      have hq := hQ (vr ++ [.ref tp2]) cvs' lvs' kt' t13 kr' g9 g12 h13 γ9 tk13 (by walk_at "o") hLe hg12
      rw [hst] at hq
      refine hq ?_ hpost H14
      dsimp only
      rw [List.map_append]
      exact (hpr.le (hLe.trans hg12)).snoc hpart
    refine imod_s (by with_reducible assumption) (hA'.le (by decide) (by decide)) (by decide) ?_
    intro t11 h11 tk11 htk11 H11
    dsimp only at htk11
    rw [hSb]
    walk_at "mine walk"
    · rename _ % 2 = 1 => hq
      refine push_s (((by with_reducible assumption : St _ _ _ _ _ _).pull (.tail (.tail .head))).pull (.tail (.tail .head))) (hA'.le (by decide) (by decide)) (by walk_at "o") ?_
      intro tp2 g12 h12 tk12 htk12 hg12 htp2 H12a
      have H12 := H12a.pull (.tail (.tail .head))
      dsimp only at htk12
      walk_at "mine walk"
      exact fin true tp2 g12 h12 _ _ (decide_eq_true hq) (by walk_at "o") hg12 ⟨tp2, _, _, rfl, htp2⟩ H12a
    · rename _ % 2 ≠ 1 => hq
      refine push_s (((by with_reducible assumption : St _ _ _ _ _ _).pull (.tail (.tail .head))).pull (.tail (.tail .head))) (hA'.le (by decide) (by decide)) (by walk_at "o") ?_
      intro tp2 g12 h12 tk12 htk12 hg12 htp2 H12a
      have H12 := H12a.pull (.tail (.tail .head))
      dsimp only at htk12
      walk_at "mine walk"
      exact fin false tp2 g12 h12 _ _ (decide_eq_false hq) (by walk_at "o") hg12 ⟨tp2, _, _, rfl, htp2⟩ H12a
end

-- T27
noncomputable def b307 : {b : List Stmt // F307.1.body = .stmts b} := ⟨_, rfl⟩
section
variable {prog : Program} [PrOk prog] {w : World} {A : Around} {E : Value → Shared → Prop} {s : Shared} {g : Heap} {γ₀ : Array GenState} {L : List Ent} {pg pd cx cd ll : Addr} {cvs lvs : List Value} {M : Int} {sc : Str} {tm tw tl ts kt : Nat} {cur : List Bool} {b : Bool}
theorem app1_ok (hp : Parts g cvs (cur.map mk)) (hl : cur.length ≤ 500) : AppOk prog w g γ₀ pg pd cx cd ll cvs lvs M ";" tm tw tl ts kt b (fun g' cvs' lvs' => Parts g' cvs' ((cur ++ [b]).map mk) ∧ lvs' = lvs) := by
  intro A E s g' L ta tb Q hg H hs hA hQ
  exact app1_s H hs hA (hp.le hg) hl fun cvs' g'' h' γ' tk' h1 h2 h3 h4 => hQ cvs' lvs kt g'' h' γ' tk' h1 h2 ⟨h3, rfl⟩ h4
theorem app2_ok (hp : Parts g cvs (cur.map mk)) (hl : cur.length ≤ 500) (hM : 2 ≤ M) (hlv : lvs.length ≤ 1000) : AppOk prog w g γ₀ pg pd cx cd ll cvs lvs M " " tm tw tl ts kt b
    (fun g' cvs' lvs' => (2 * (cur.length + 1 : Nat) ≤ M ∧ Parts g' cvs' ((cur ++ [b]).map mk) ∧ lvs' = lvs) ∨ (M < 2 * (cur.length + 1 : Nat) ∧ Parts g' cvs' ([b].map mk) ∧ ∃ t, lvs' = lvs ++ [.str (rowT (cur.map mk)) t])) := by
  intro A E s g' L ta tb Q hg H hs hA hQ
  exact app2_s H hs hA (hp.le hg) hl hM hlv (fun h0 tp t1 kt' g'' h' γ' tk' h1 h2 h3 h4 => hQ _ _ kt' g'' h' γ' tk' h1 h2 (.inr ⟨h0, h3, _, rfl⟩) h4)
    fun h0 cvs' g'' h' γ' tk' h1 h2 h3 h4 => hQ cvs' lvs kt g'' h' γ' tk' h1 h2 (.inl ⟨h0, h3, rfl⟩) h4
end
section
variable {prog : Program} {w : World} {A : Around} {E : Value → Shared → Prop} {g h : Heap} {γ₀ γ : Array GenState} {L : List Ent} {F₀ : Ent} {d : Drawn} {t : Nat} {os : OsState}
theorem lst_step {value slice : PySem.Expr} {l : Addr} {vs : List Value} {vl vu vk : Value} {lo hi st : Option Int} {ops : List Value} {Q : Value → Shared → Prop} (H : St w g γ₀ h γ (F₀ :: L)) (hl : h.IsList l vs.toArray) (pl : IsPart vl lo) (pu : IsPart vu hi) (pk : IsPart vk st) (h0 : st ≠ some 0) (hz : vs.length ≤ 1000000)
    (hq : ∀ a h', St w g γ₀ h' γ (F₀ :: (a, LstO (slicePick vs.toArray lo hi st).toList) :: L) → Q (.ref a) ⟨h', γ, d, t, os⟩)
    (hs : subscripted slice false (.ref l) (.ref h.objs.size) = operate ops (getItem (.ref l) (.ref h.objs.size))) :
    wpAny (model prog w) A (subscriptTail value slice (.ref l) (.ref h.objs.size)) Q E ⟨h.push { cls := .type "slice", data := .fields #[vl, vu, vk] }, γ, d, t, os⟩ := by
  have H1 : St w g γ₀ (h.push { cls := .type "slice", data := .fields #[vl, vu, vk] }) γ (F₀ :: L) := H.grow fun b o e => Heap.get?_push_of_some _ e
  refine tail_any (Heap.IsList.typeIs (s := ⟨h.push { cls := .type "slice", data := .fields #[vl, vu, vk] }, γ, d, t, os⟩) (hl.push _)) slot_list_getitem.lookup
    (wpAny_getItem_list_slice (hl.push _) (Heap.IsSliceOf.new ..) pl pu pk h0 ?_ (by rw [List.size_toArray]; unfold sizeLine; walk_at "o")) hs
  exact hq _ _ ((H1.push _ rfl ⟨0, by simp⟩).perm (.swap _ _ _))
end
theorem ox_item {prog : Program} {w : World} {A : Around} {E : Value → Shared → Prop} {s : Shared} {value slice : PySem.Expr} {F : Int} {t u : Tok} {Q : Value → Shared → Prop} (hF : F = 0 ∨ F = 1) (hq : Q (.str (mk (decide (F = 1))).2 s.toks) { s with toks := s.toks + 1 })
    (hs : subscripted slice false (.str "ox" t) (.int F u) = operate [.str "ox" t, .int F u] (getItem (.str "ox" t) (.int F u))) (ht : ∀ r, letTemporaryGo value (.str "ox" t) r = pure ()) :
    wpAny (model prog w) A (subscriptTail value slice (.str "ox" t) (.int F u)) Q E s := by
  have hl : (("ox" : Str).length : Int) = 2 := by decide +kernel
  refine item_str (by rcases hF with rfl | rfl <;> decide) (by rw [hl]; walk_at "o") (by rw [hl]; walk_at "o") (fun _ => ?_) hs ht
  have e : Txt.item "ox" F = (mk (decide (F = 1))).2 := by rcases hF with rfl | rfl <;> decide +kernel
  rw [e]; exact hq
theorem add_txt {prog : Program} {w : World} {A : Around} {E : Value → Shared → Prop} {s : Shared} {x y : Str} {t u : Tok} {Q : Value → Shared → Prop} (hz : x.length + y.length ≤ 1000000) (hq : ∀ (t' tk' : Nat), s.toks ≤ tk' → Q (.str (x ++ y) t') { s with toks := tk' }) :
    wpAny (model prog w) A (binaryOp .Add (.str x t) (.str y u)) Q E s := by
  refine wpAny_with_toks (n := s.toks) (Nat.le_refl _) ?_
  exact PyProof.Rows.add_str (fun t' tk h => hq t' tk h) (by unfold sizeLine; walk_at "o")
theorem mk_len (b : Bool) : (mk b).2.length = 1 := by cases b <;> decide +kernel
theorem pt_mk (b : Bool) : (" " : Str) ++ (mk b).2 = pt (mk b) := by cases b <;> decide +kernel
local macro_rules | `(tactic| walk_at "binaryOp Add str str") => `(tactic| (k_dflt (refine' add_txt (by first | walk_at "o" | (simp only [PySem.Str.length_append]; walk_at "o")) ?_; k_whole; intro t' tk' htk'; (try dsimp only at htk'))))
local macro_rules | `(tactic| walk_at "mine om") => `(tactic| first | walk_at "o" | (dsimp only; walk_at "o") | (dsimp only at *; walk_at "o"))
local macro_rules | `(tactic| walk_at "mine part") => `(tactic| first | exact IsPart.none | exact IsPart.int _ _)
local macro_rules | `(tactic| walk_at "mine step") => `(tactic| (walk_at "rr"; k_dflt (refine' lst_step (by with_reducible assumption) (by walk_at "mine lst") (by walk_at "mine part") (by walk_at "mine part") (by walk_at "mine part") (by decide) (by walk_at "mine nat") ?_ (by with_unfolding_all rfl); walk_at "i3")))
local macro_rules | `(tactic| walk_at "subscriptTail") => `(tactic| walk_at "mine step")
local macro_rules | `(tactic| walk_at "subscriptTail Name Slice ref ref") => `(tactic| walk_at "mine step")

-- T28
noncomputable def lineB (o ab : Int) (T : Nat) : List Bool := (List.range T).map fun j => decide (figR o ab T j = 1)
theorem handF01 (o l : Int) (k : Nat) : handF o l k = 0 ∨ handF o l k = 1 := by unfold handF; split <;> simp
theorem oddLe {o : Nat} (ho : oddOk o) : 3 ≤ o ∧ o ≤ 13 := by rcases ho with h | h | h | h | h | h <;> walk_at "o"
theorem dsum_hsum (f : Nat → Int) (hf : ∀ k, f k = 0 ∨ f k = 1) : ∀ k, ((dsum 1 (fun j => (f j).toNat) 0 k : Nat) : Int) = hsum f k
  | 0 => rfl
  | k + 1 => by
    have ih := dsum_hsum f hf k
    rw [dsum_join 1 _ k 0 1]
    show _ = hsum f k + 2 ^ k * f k
    have e : dsum 1 (fun j => (f j).toNat) (0 + k) 1 = (f k).toNat := by simp [dsum]
    rw [e, Int.natCast_add, ih, Int.natCast_mul, Int.natCast_pow, Nat.one_mul]
    congr 2
    rcases hf k with z | z <;> rw [z] <;> rfl
theorem shT2 (x y : Int) : PySem.SeqAt.shaped (.tuple [.int x, .int y]) = true := by
  simp [PySem.SeqAt.shaped, PyData.canLay0, PyData.canLayAll0, PyData.depth, PyData.depthAll]
theorem join_bar (a b : Str) : Txt.join "|" [a, b] = a ++ "|" ++ b := rfl
theorem strOk_app {a b : Str} (ha : PyData.strOk a = true) (hb : PyData.strOk b = true) : PyData.strOk (a ++ b) = true := by
  unfold PyData.strOk at *
  show (a.cps ++ b.cps).all _ = true
  rw [Array.all_append, ha, hb]; rfl
theorem strOk_bar : PyData.strOk "|" = true := by decide +kernel
theorem mkc_lt (bits : List Bool) : ∀ c ∈ (bits.map mkc).flatten, c < 128 := by
  intro c hc
  obtain ⟨l, hl, hcl⟩ := List.mem_flatten.mp hc
  obtain ⟨b, _, rfl⟩ := List.mem_map.mp hl
  cases b <;> (simp [mkc] at hcl; walk_at "o")
theorem strOk_row (bits : List Bool) : PyData.strOk (rowT (bits.map mk)) = true := by
  unfold PyData.strOk
  rw [← Array.all_toList, rowT_codes, List.all_eq_true]
  intro c hc
  have := mkc_lt bits c hc
  simp; walk_at "o"
theorem ascii_row (bits : List Bool) : (rowT (bits.map mk)).cps.all (· < 128) = true := by
  rw [← Array.all_toList, rowT_codes, List.all_eq_true]
  intro c hc
  have := mkc_lt bits c hc
  simpa using this
theorem cnt_row (bits : List Bool) : cntX (rowT (bits.map mk)) = bits.count true := by
  unfold cntX
  rw [rowT_codes]
  induction bits with
  | nil => rfl
  | cons b r ih => rw [List.map_cons, List.flatten_cons, List.count_append, ih]; cases b <;> simp [mkc] <;> walk_at "o"
theorem shL2 {x y : Str} (hx : PyData.strOk x = true) (hy : PyData.strOk y = true) : PySem.SeqAt.shaped (.list [.str x, .str y]) = true := by
  simp [PySem.SeqAt.shaped, PyData.canLay0, PyData.canLayAll0, PyData.depth, PyData.depthAll, hx, hy]
section
variable {prog : Program} [PrOk prog] {w : World} {A : Around} {s : Shared} {g : Heap} {γ₀ : Array GenState} {L : List Ent} {pg pd cx cd ll Lf : Addr} {cvs : List Value} {M : Int} {tm tw tl ts kt : Nat} {o T : Nat} {ab : Int} {B0 : List Bool} {bl : Bool} {to ta tT t1 : Nat}
theorem partD {Q : Flow → Shared → Prop} {E : Value → Shared → Prop} (H : St w g γ₀ s.heap s.gens ((Lf, FrO ([("odd", .int o to), ("above", .int ab ta), ("around", .int T tT), ("page", .ref pg)] : Bs)) :: pgE pg pd cx cd ll cvs [.str (rowT ((lineB o ab T).map mk)) t1] M " " tm tw tl ts kt L)) (hs : 0 < s.toks) (hA : Ok A 25 120)
    (ho : oddOk o) (h0 : 0 ≤ ab) (h1 : ab ≤ o) (hT : 1 ≤ T) (hTo : T ≤ o) (hp : Parts g cvs ((B0 ++ [bl]).map mk)) (hB : B0 ++ [bl] = lineB o ab T)
    (quo : (ab * (2 ^ T - 1) + ab % o) / o = hsum (figR o ab T) T) (rem : (ab * (2 ^ T - 1) + ab % o) % o = ab % o)
    (hQ : ∀ g' h' γ' tk', s.toks ≤ tk' → Le g g' → St w g' γ₀ h' γ' L → Q (.ret (.bool true)) { s with heap := h', gens := γ', toks := tk' }) :
    wpAny (model prog w) A (execs (b307.1.drop 21) (callEnv F307.1 Lf 307)) Q E s := by
  obtain ⟨o1, o2⟩ := oddLe ho
  dsimp only [b307, List.drop]
  walk_at "mine walk"
  refine byhand_s (by with_reducible assumption) (by walk_at "mine om") (hA.le (by decide) (by decide)) h0 h1 (by walk_at "o") (by walk_at "o") ?_
  intro r g1 h1' γ1 tk1 vs htk1 hg1 hvl hvs H1a
  have H1 := H1a.pull (.tail .head)
  clear H1a
  try dsimp only at htk1
  walk_at "mine walk"
  (rename St _ _ _ _ _ _ => H6; rename_i fl _ _ _ _ it _)
  have e : (slicePick vs.toArray none none (some (-1))).toList = vs.reverse := by rw [krv_pick]
  rw [e] at H6
  obtain ⟨g2, hg2, hfl, H7⟩ := (H6.pull (.tail (.tail .head))).freeze
  have hfs : SeqAt g2 fl vs.reverse := ListAt.seq hfl
  have hfi : ∀ i, i < T → ∃ t, vs.reverse[i]? = some (.int (figR o ab T i) t) := fun i hi => by
    obtain ⟨t, e⟩ := hvs (T - 1 - i) (by walk_at "o")
    exact ⟨t, by rw [List.getElem?_reverse (by walk_at "o"), hvl]; exact e⟩
  generalize hL0 : (Lf, FrO ([("figures", .ref fl), ("odd", .int o to), ("above", .int ab ta), ("around", .int T tT), ("page", .ref pg)] : Bs)) :: (r, LstO vs) :: pgE pg pd cx cd ll cvs [.str (rowT ((lineB o ab T).map mk)) t1] M " " tm tw tl ts kt L = L0
  refine comp_run (L := L0) (iter_seq hfs) (hA.le (by decide) (by decide)) (by walk_at "mine om") (by unfold sizeLine; rw [List.length_reverse]; walk_at "o") (by decide) rfl
    (fun i _ us L' => L' = L0 ∧ StrsAre us (((lineB o ab T).take i).map fun b => pt (mk b))) (by rw [← hL0]; exact H7.perm (.swap _ _ _)) ⟨rfl, by simpa using StrsAre.nil⟩ ?_ ?_
  · rintro i g' h' γ' t tk' us L' v Lc acc hi hg ht1 ht2 ⟨rfl, hus⟩ hv H8
    try dsimp only at ht1
    have hiT : i < T := by rw [List.length_reverse] at hi; walk_at "o"
    obtain ⟨t3, e3⟩ := hfi i hiT
    rw [hv] at e3
    obtain rfl := Option.some.inj e3
    obtain ⟨F, hF⟩ : ∃ F, F = figR (o : Int) ab T i := ⟨_, rfl⟩
    have hF01 : F = 0 ∨ F = 1 := by rw [hF]; exact handF01 _ _ _
    rw [← hF]
    have hF0 : 0 ≤ F := by walk_at "o"
    have hF1 : F ≤ 1 := by walk_at "o"
    have hox : ((Str.ofString "ox").length : Int) = 2 := by decide +kernel
    refine wpAny_assign_Name ?_
    walk_at "mine walk"
    refine ox_item hF01 ?_ (by with_unfolding_all rfl) (by intro _; with_unfolding_all rfl)
    have hsp1 : (Str.ofString " ").length = 1 := by decide +kernel
    refine add_txt (by rw [hsp1, mk_len]; walk_at "o") ?_
    intro t4 tk4 htk4
    try dsimp only at htk4
    rw [pt_mk]
    refine ⟨g', _, _, _, _, _, rfl, .refl _, by walk_at "o", ⟨rfl, ?_⟩, by assumption⟩
    have hlB : i < (lineB (o : Int) ab T).length := by unfold lineB; simpa using hiT
    rw [List.take_succ_eq_append_getElem hlB, List.map_append]
    refine StrsAre.append' hus ?_
    have : (lineB (o : Int) ab T)[i] = decide (F = 1) := by rw [hF]; simp [lineB]
    rw [this]
    exact .cons _ _ .nil
  · rintro g' h' γ' tk' us L' acc hg ht1 ⟨rfl, hus⟩ H8
    try dsimp only at ht1
    subst hL0
    have hlBl : (lineB (o : Int) ab T).length = T := by unfold lineB; simp
    rw [List.length_reverse, hvl, List.take_of_length_le (by walk_at "o")] at hus
    have H9 := H8.pull (.tail .head)
    clear H8
    walk_at "mine walk"
    have eJ : ((lineB (o : Int) ab T).map fun b => pt (mk b)) = ((lineB (o : Int) ab T).map mk).map pt := by rw [List.map_map]; rfl
    rw [eJ] at hus
    refine wpAny_with_toks (n := tk') (by walk_at "mine om") ?_
    refine join_list (LstO.isList (H9.of (.tail _ (.head _)))) hus ?_ fun t5 tk5 htk5 => ?_
    · have key : ∀ l : List Bool, (((l.map mk).map pt).map (·.length)).sum = 2 * l.length := by
        intro l
        induction l with
        | nil => rfl
        | cons b r ih => rw [List.map_cons, List.map_cons, List.map_cons, List.sum_cons, ih, pt_len, pl_mk, List.length_cons]; walk_at "o"
      rw [key, sep0, hlBl]; walk_at "o"
    · try dsimp only at htk5
      have eX : Txt.join (Str.ofString "") (((lineB (o : Int) ab T).map mk).map pt) = rowT ((lineB (o : Int) ab T).map mk) := rfl
      rw [eX]
      have hXl : (rowT ((lineB (o : Int) ab T).map mk)).length = 2 * T := by rw [rowT_len, hlBl]
      have hbar : (Str.ofString "|").length = 1 := by decide +kernel
      generalize hX : rowT ((lineB (o : Int) ab T).map mk) = X at hXl
      walk_at "mine walk"
      rename St _ _ _ _ _ _ => H10
      rw [hX] at H10
      have hg' : Le g g' := (hg1.trans hg2).trans hg
      have hbarL : (Str.ofString "|").length ≤ 10 := by decide +kernel
      have eR : rowT ((B0 ++ [bl]).map mk) = X := by rw [hB, hX]
      have hXok : PyData.strOk X = true := by rw [← hX]; exact strOk_row _
      have hXz : ∀ x ∈ [X], x.length ≤ 10000 := fun x hx => by simp only [List.mem_singleton] at hx; rw [hx, hXl]; walk_at "o"
      have hBl : B0.length + 1 = T := by rw [← hlBl, ← hB]; simp
      refine str1_s (b := bl) (cur := B0) (lines := [X]) (L := (Lf, FrO ([("due", .str (X ++ Str.ofString "|" ++ X) _), ("line", .str X t5), ("figures", .ref fl), ("odd", .int o to), ("above", .int ab ta), ("around", .int T tT), ("page", .ref pg)] : Bs)) :: (acc, LstO us) :: (r, LstO vs) :: L)
        (H10.perm (by walk_at "mine perm")) (by walk_at "mine om") (hA.le (by decide) (by decide)) (hp.le hg') (by walk_at "o") hbarL (.cons _ _ .nil) (by simp) hXz ?_
      intro t11 lvs' kt' g11 h11 γ11 tk11 htk11 hg11 hlv' H11a
      have H11 := H11a.pull (.tail (.tail (.tail (.tail (.tail .head)))))
      clear H11a
      try dsimp only at htk11
      rw [eR] at hlv' ⊢
      have eY : Txt.join (Str.ofString "|") ([X] ++ [X]) = X ++ Str.ofString "|" ++ X := join_bar X X
      rw [eY]
      walk_at "mine walk"
      refine str0_s (lines := [X] ++ [X]) (L := (Lf, FrO ([("due", .str (X ++ Str.ofString "|" ++ X) _), ("line", .str X t5), ("figures", .ref fl), ("odd", .int o to), ("above", .int ab ta), ("around", .int T tT), ("page", .ref pg)] : Bs)) :: (acc, LstO us) :: (r, LstO vs) :: L)
        (H11.perm (by walk_at "mine perm")) (by walk_at "mine om") (hA.le (by decide) (by decide)) hbarL hlv' (by simp) (fun x hx => hXz x (by simpa using hx)) ?_
      intro t12 kt12 g12 h12 γ12 tk12 htk12 hg12 H12a
      have H12 := H12a.pull (.tail (.tail (.tail (.tail (.tail .head)))))
      clear H12a
      try dsimp only at htk12
      rw [eY]
      have hYok : PyData.strOk (X ++ Str.ofString "|" ++ X) = true := strOk_app (strOk_app hXok strOk_bar) hXok
      have hsh := shL2 hYok hYok
      have hne : (!(PyData.list [PyData.str (X ++ Str.ofString "|" ++ X), PyData.str (X ++ Str.ofString "|" ++ X)]).eqv (PyData.list [PyData.str (X ++ Str.ofString "|" ++ X), PyData.str (X ++ Str.ofString "|" ++ X)])) = false := by
        simp [PyData.eqv, PyData.eqvAll]
      walk_at "mine walk"
      rename St _ _ _ _ _ _ => H13
      have hfI : Ints vs.reverse ((List.range T).map (figR o ab T)) := ⟨by simp [hvl], fun i y hy => by
        rw [List.getElem?_map] at hy
        by_cases hi : i < T
        · rw [List.getElem?_range hi] at hy
          simp only [Option.map_some, Option.some.injEq] at hy
          obtain ⟨t, e⟩ := hfi i hi
          exact ⟨t, by rw [e, hy]⟩
        · rw [List.getElem?_eq_none (by simpa using hi)] at hy; cases hy⟩
      have hXa : X.cps.all (· < 128) = true := by rw [← hX]; exact ascii_row _
      have hcs : ((cntX X : Nat) : Int) = ((List.range T).map (figR o ab T)).sum := by
        rw [← hX, cnt_row]
        unfold lineB
        generalize List.range T = l
        induction l with
        | nil => rfl
        | cons a r ih =>
          rw [List.map_cons, List.map_cons, List.sum_cons, List.count_cons, ← ih]
          rcases handF01 (o : Int) ab (T - 1 - a) with z | z
          · have z' : figR (o : Int) ab T a = 0 := z
            rw [z']; simp
          · have z' : figR (o : Int) ab T a = 1 := z
            rw [z']; simp; walk_at "o"
      refine countOf_spec H13 (hA.le (by decide) (by decide)) hXa (by walk_at "mine om") (by walk_at "mine om") ?_
      intro t14 g14 h14 γ14 tk14 htk14 hg14 H14
      try dsimp only at htk14
      have hfl14 : ListAt g14 fl vs.reverse := ListAt.le hfl (((hg.trans hg11).trans hg12).trans hg14)
      walk_at "mine walk"
      · exact absurd hcs (by assumption)
      rename St _ _ _ _ _ _ => H15
      have ho0 : (0 : Int) ≤ (o : Int) := by walk_at "o"
      have hfm : ab.fmod (o : Int) = ab % (o : Int) := Int.fmod_eq_emod_of_nonneg _ ho0
      have hP : (1 : Int) ≤ 2 ^ T ∧ (2 : Int) ^ T ≤ 8192 := by
        have h1 : 1 ≤ 2 ^ T := Nat.one_le_two_pow
        have h2 : 2 ^ T ≤ 2 ^ 13 := Nat.pow_le_pow_right (by decide) (by walk_at "o")
        have e : ((2 ^ T : Nat) : Int) = (2 : Int) ^ T := by rw [Int.natCast_pow]; rfl
        rw [← e]; walk_at "o"
      have hm0 := Int.emod_nonneg ab (show (o : Int) ≠ 0 by walk_at "o")
      have hm1 := Int.emod_lt_of_pos ab (show (0 : Int) < (o : Int) by walk_at "o")
      have hM0 : 0 ≤ ab * (2 ^ T - 1) := Int.mul_nonneg h0 (by walk_at "o")
      have hM1 : ab * (2 ^ T - 1) ≤ 13 * 8191 := Int.mul_le_mul (by walk_at "o") (by walk_at "o") (by walk_at "o") (by decide)
      obtain ⟨N, hN⟩ := Int.eq_ofNat_of_zero_le (show 0 ≤ ab * (2 ^ T - 1) + ab % o by walk_at "o")
      have hNb : N < 2 ^ 200 := by
        have : N < 1000000 := by walk_at "o"
        exact Nat.lt_of_lt_of_le this (by decide)
      rw [Int.toNat_natCast, hfm, hN]
      rw [hN] at quo rem
      refine divpos_s H15 (by walk_at "mine om") (hA.le (by decide) (by decide)) hNb (by walk_at "o") (by walk_at "o") ?_
      intro rr tt uu g16 h16 γ16 tk16 htk16 hg16 H16a
      have H16 := H16a.pull (.tail .head)
      clear H16a
      try dsimp only at htk16
      walk_at "mine walk"
      have hflN : ListAt g16 fl vs.reverse := ListAt.le hfl14 hg16
      refine digits2int (n := 1) (F := fun j => (figR (o : Int) ab T j).toNat) (l := fl) (vs := vs.reverse) (by with_reducible assumption) (hA.le (by decide) (by decide)) (by decide) (by decide) (fun j => ?_) (fun j hj => ?_) (by simp; walk_at "o") hflN ?_
      · rcases handF01 (o : Int) ab (T - 1 - j) with z | z
        · have z' : figR (o : Int) ab T j = 0 := z
          rw [z']; decide
        · have z' : figR (o : Int) ab T j = 1 := z
          rw [z']; decide
      · rw [List.length_reverse, hvl] at hj
        obtain ⟨t, e⟩ := hfi j hj
        refine ⟨t, ?_⟩
        rw [e]
        congr 2
        rcases handF01 (o : Int) ab (T - 1 - j) with z | z
        · have z' : figR (o : Int) ab T j = 0 := z
          dsimp only; rw [z']; rfl
        · have z' : figR (o : Int) ab T j = 1 := z
          dsimp only; rw [z']; rfl
      intro t17 g17 h17 tk17 htk17 hg17 H17
      try dsimp only at htk17
      have sh1 := shT2 ((N / o : Nat) : Int) ((N % o : Nat) : Int)
      have sh2' := shT2 ((dsum 1 (fun j => (figR (o : Int) ab T j).toNat) 0 vs.reverse.length : Nat) : Int) (ab % (o : Int))
      walk_at "mine walk"
      have hD : ((dsum 1 (fun j => (figR (o : Int) ab T j).toNat) 0 vs.reverse.length : Nat) : Int) = ((N / o : Nat) : Int) := by
        rw [List.length_reverse, hvl, dsum_hsum (figR (o : Int) ab T) (fun k => handF01 _ _ _) T, ← quo]
        exact (Int.natCast_ediv N o).symm
      have hR : ab.fmod (o : Int) = ((N % o : Nat) : Int) := by
        rw [hfm, ← rem]
        exact (Int.natCast_emod N o).symm
      have hfin : ((PyData.tuple [PyData.int ↑(N / o), PyData.int ↑(N % o)]).eqv (PyData.tuple [PyData.int ↑(dsum 1 (fun j => (figR (↑o) ab T j).toNat) 0 vs.reverse.length), PyData.int (ab.fmod ↑o)])) = true := by
        rw [hD, hR]; simp [PyData.eqv, PyData.eqvAll]
      rw [hfin]
      rename St _ _ _ _ _ _ => H18
      have H19 : St w g17 γ₀ _ γ16 L := H18.sub (by walk_at "mine back")
      exact hQ g17 _ γ16 _ (by walk_at "mine om") (((((hg'.trans hg11).trans hg12).trans hg14).trans hg16).trans hg17) H19
end

-- T29
noncomputable def l20 : {x : List Stmt // ∃ t i o p, b307.1[20]? = some (.For t i x o p)} := ⟨_, _, _, _, _, rfl⟩
theorem shSI {x : Str} (hx : PyData.strOk x = true) (y : Int) : PySem.SeqAt.shaped (.tuple [.str x, .int y]) = true := by
  simp [PySem.SeqAt.shaped, PyData.canLay0, PyData.canLayAll0, PyData.depth, PyData.depthAll, hx]
theorem shL3 (x y z : Int) : PySem.SeqAt.shaped (.list [.int x, .int y, .int z]) = true := by
  simp [PySem.SeqAt.shaped, PyData.canLay0, PyData.canLayAll0, PyData.depth, PyData.depthAll]
/-- the bits that the steps from a on to b take off -/
noncomputable def segB (wf : Nat → Int) (p : List Bool × Int) (a b : Nat) : List Bool := (List.range (b - a)).map fun j => outB wf p (a + j)
theorem segB_len (wf : Nat → Int) (p : List Bool × Int) (a b : Nat) : (segB wf p a b).length = b - a := by unfold segB; simp
theorem segB_succ (wf : Nat → Int) (p : List Bool × Int) {a b : Nat} (h : a ≤ b) : segB wf p a (b + 1) = segB wf p a b ++ [outB wf p b] := by
  unfold segB
  have e : b + 1 - a = (b - a) + 1 := by walk_at "o"
  rw [e, List.range_succ, List.map_append]
  have e2 : a + (b - a) = b := by walk_at "o"
  simp [e2]
noncomputable def curB (wf : Nat → Int) (p : List Bool × Int) (T i : Nat) : List Bool := if i ≤ T then segB wf p 0 i else segB wf p T i
noncomputable def linB (wf : Nat → Int) (p : List Bool × Int) (T i : Nat) (lvs : List Value) : Prop := if i ≤ T then lvs = [] else ∃ t, lvs = [.str (rowT ((segB wf p 0 T).map mk)) t]
theorem cur_step {wf : Nat → Int} {p : List Bool × Int} {T i : Nat} (hi : i < 2 * T) (g : Heap) (cvs' lvs lvs' : List Value) (hl : linB wf p T i lvs)
    (h : (2 * ((curB wf p T i).length + 1 : Nat) ≤ (2 * (T : Int)) ∧ Parts g cvs' ((curB wf p T i ++ [outB wf p i]).map mk) ∧ lvs' = lvs) ∨ ((2 * (T : Int)) < 2 * ((curB wf p T i).length + 1 : Nat) ∧ Parts g cvs' ([outB wf p i].map mk) ∧ ∃ t, lvs' = lvs ++ [.str (rowT ((curB wf p T i).map mk)) t])) :
    Parts g cvs' ((curB wf p T (i + 1)).map mk) ∧ linB wf p T (i + 1) lvs' := by
  unfold curB linB at *
  by_cases h1 : i ≤ T
  · rw [if_pos h1] at h hl
    rw [segB_len] at h
    by_cases h2 : i + 1 ≤ T
    · rw [if_pos h2, if_pos h2]
      rcases h with ⟨_, a, b⟩ | ⟨a, _, _⟩
      · rw [segB_succ wf p (Nat.zero_le i)]
        exact ⟨a, b.trans hl⟩
      · walk_at "o"
    · rw [if_neg h2, if_neg h2]
      have : i = T := by walk_at "o"
      subst this
      rcases h with ⟨a, _, _⟩ | ⟨_, a, t, b⟩
      · walk_at "o"
      · have e : segB wf p i (i + 1) = [outB wf p i] := by rw [segB_succ wf p (Nat.le_refl i)]; simp [segB]
        rw [e]
        exact ⟨a, t, by rw [b, hl]; rfl⟩
  · rw [if_neg h1] at h hl
    rw [segB_len] at h
    rw [if_neg (by walk_at "o"), if_neg (by walk_at "o")]
    rcases h with ⟨_, a, b⟩ | ⟨a, _, _⟩
    · rw [segB_succ wf p (by walk_at "o")]
      exact ⟨a, by rw [b]; exact hl⟩
    · walk_at "o"
theorem cur_len {wf : Nat → Int} {p : List Bool × Int} {T i : Nat} : (curB wf p T i).length = if i ≤ T then i else i - T := by
  unfold curB
  split <;> rw [segB_len] <;> rfl
theorem room_eq {wf : Nat → Int} {p : List Bool × Int} {T i : Nat} (hT : 1 ≤ T) (hi : i < 2 * T) : 2 * (T : Int) - 2 * ((curB wf p T (i + 1)).length : Nat) = 2 * (-((i + 1 : Nat) : Int)).fmod (T : Int) := by
  rw [Int.fmod_eq_emod_of_nonneg _ (by walk_at "o"), cur_len]
  by_cases h : i + 1 ≤ T
  · rw [if_pos h]
    have e : -((i + 1 : Nat) : Int) = ((T : Int) - ((i + 1 : Nat) : Int)) + (T : Int) * (-1) := by walk_at "o"
    rw [e, Int.add_mul_emod_self_left, Int.emod_eq_of_lt (by walk_at "o") (by walk_at "o")]
    walk_at "o"
  · rw [if_neg h]
    have e : -((i + 1 : Nat) : Int) = ((T : Int) - ((i + 1 - T : Nat) : Int)) + (T : Int) * (-2) := by walk_at "o"
    rw [e, Int.add_mul_emod_self_left, Int.emod_eq_of_lt (by walk_at "o") (by walk_at "o")]
    walk_at "o"
section
variable {prog : Program} [PrOk prog] {w : World} {A : Around} {s : Shared} {g : Heap} {γ₀ : Array GenState} {L : List Ent} {pg pd cx cd ll Lf x dx wl bt : Addr} {vs cvs lvs ws : List Value} {wi : List Int} {tm tw tl ts kt kr : Nat} {o T i : Nat} {ab ki : Int} {p : List Bool × Int} {to ta tT tc tsz tt tb1 tb2 : Nat}
theorem turnC {Q : Flow → Shared → Prop} {E : Value → Shared → Prop} (H : St w g γ₀ s.heap s.gens ((Lf, FrO ([("turn", .int ((i + 1 : Nat) : Int) tt), ("carry", .int (stps (wfO o) i p).2 tc), ("row", .ref x), ("page", .ref pg), ("wires", .ref wl), ("around", .int T tT), ("size", .int (szO o : Nat) tsz), ("begin", .ref bt), ("odd", .int o to), ("above", .int ab ta)] : Bs)) ::
      (x, AccO dx vs) :: (dx, NsO ([("_initial_size", .int ki kr)] : Bs)) :: pgE pg pd cx cd ll cvs lvs (2 * (T : Int)) " " tm tw tl ts kt ((bt, TupO [.str (rowT (p.1.map mk)) tb1, .int p.2 tb2]) :: L))) (hs : 0 < s.toks) (hA : Ok A 25 120)
    (ho : oddOk o) (hpl : p.1.length = szO o) (hi : i < 2 * T) (hR : Rnd o p ab T) (hp : Parts g vs ((stps (wfO o) i p).1.map mk)) (hw : ListAt g wl ws) (hwi : Ints ws wi) (hwl : wi.length = szO o + 1) (hw1 : ∀ y ∈ wi, y = 0 ∨ y = 1) (hwf : (fun i => wi.getD i 0) = wfO o)
    (hc : Parts g cvs ((curB (wfO o) p T i).map mk)) (hlv : linB (wfO o) p T i lvs)
    (hQ : ∀ vs' cvs' lvs' kt' kr' t' g' h' γ' tk', s.toks ≤ tk' → Le g g' → Parts g' vs' ((stps (wfO o) (i + 1) p).1.map mk) → Parts g' cvs' ((curB (wfO o) p T (i + 1)).map mk) → linB (wfO o) p T (i + 1) lvs' →
      St w g' γ₀ h' γ' ((Lf, FrO ([("carry", .int (stps (wfO o) (i + 1) p).2 t'), ("row", .ref x), ("page", .ref pg), ("wires", .ref wl), ("around", .int T tT), ("size", .int (szO o : Nat) tsz), ("begin", .ref bt), ("odd", .int o to), ("above", .int ab ta)] : Bs)) ::
        (x, AccO dx vs') :: (dx, NsO ([("_initial_size", .int 0 kr')] : Bs)) :: pgE pg pd cx cd ll cvs' lvs' (2 * (T : Int)) " " tm tw tl ts kt' ((bt, TupO [.str (rowT (p.1.map mk)) tb1, .int p.2 tb2]) :: L)) → Q .next { s with heap := h', gens := γ', toks := tk' }) :
    wpAny (model prog w) A (execs l20.1 (callEnv F307.1 Lf 307)) Q E s := by
  obtain ⟨o1, o2⟩ := oddLe ho
  have hsl := stps_len ho p hpl i
  have hsl' := stps_len ho p hpl (i + 1)
  have hszr : 2 ≤ szO o ∧ szO o ≤ 3 := by unfold szO; split <;> decide
  obtain ⟨b0, bits, hB⟩ : ∃ b0 bits, (stps (wfO o) i p).1 = b0 :: bits := by
    cases q : (stps (wfO o) i p).1 with
    | nil => rw [q] at hsl; simp at hsl; walk_at "o"
    | cons b r => exact ⟨b, r, rfl⟩
  have hb0 : outB (wfO o) p i = b0 := by unfold outB; rw [hB]; rfl
  have hbl : bits.length + 1 = szO o := by rw [← hsl, hB]; rfl
  rw [hB] at hp
  have hTle := hR.le
  have hTp := hR.pos
  have hlvl : lvs.length ≤ 1 := by unfold linB at hlv; split at hlv; · rw [hlv]; decide
                                   · obtain ⟨t, e⟩ := hlv; rw [e]; simp
  have hcl : (curB (wfO o) p T i).length ≤ 500 := by rw [cur_len]; split <;> walk_at "o"
  have hApp : AppOk prog w g γ₀ pg pd cx cd ll cvs lvs (2 * (T : Int)) " " tm tw tl ts kt b0 _ := app2_ok hc hcl (by walk_at "o") (by walk_at "o")
  dsimp only [l20]
  walk_at "mine walk"
  refine step_s (dx := dx) (c := (stps (wfO o) i p).2) (b0 := b0) (bits := bits) (cvs := cvs) (lvs := lvs) (M := 2 * (T : Int)) (sc := " ") (vs := vs) (ki := ki) (kr := kr) (kt := kt) (L := (Lf, FrO ([("turn", .int ((i + 1 : Nat) : Int) tt), ("row", .ref x), ("page", .ref pg), ("wires", .ref wl), ("around", .int T tT), ("size", .int (szO o : Nat) tsz), ("begin", .ref bt), ("odd", .int o to), ("above", .int ab ta)] : Bs)) :: (bt, TupO [.str (rowT (p.1.map mk)) tb1, .int p.2 tb2]) :: L) ?_ (by walk_at "mine om") (hA.le (by decide) (by decide)) hp (by walk_at "o") hw hwi (by walk_at "o") hw1 hApp ?_
  · have Ha : St w g γ₀ s.heap s.gens ((Lf, FrO ([("turn", .int ((i + 1 : Nat) : Int) tt), ("row", .ref x), ("page", .ref pg), ("wires", .ref wl), ("around", .int T tT), ("size", .int (szO o : Nat) tsz), ("begin", .ref bt), ("odd", .int o to), ("above", .int ab ta)] : Bs)) ::
      (x, AccO dx vs) :: (dx, NsO ([("_initial_size", .int ki kr)] : Bs)) :: pgE pg pd cx cd ll cvs lvs (2 * (T : Int)) " " tm tw tl ts kt ((bt, TupO [.str (rowT (p.1.map mk)) tb1, .int p.2 tb2]) :: L)) := H.weak fun o => FrO.sub (by walk_at "mine subs")
    exact Ha.perm (by walk_at "mine perm")
  intro vs' cvs' lvs' kt' t1 kr' g1 g2 h2 γ2 tk2 htk2 hg1 hg2 hp2 hpost H2a
  have H2 := H2a.perm (L' := (Lf, FrO ([("turn", .int ((i + 1 : Nat) : Int) tt), ("row", .ref x), ("page", .ref pg), ("wires", .ref wl), ("around", .int T tT), ("size", .int (szO o : Nat) tsz), ("begin", .ref bt), ("odd", .int o to), ("above", .int ab ta)] : Bs)) ::
      (x, AccO dx vs') :: (dx, NsO ([("_initial_size", .int 0 kr')] : Bs)) :: pgE pg pd cx cd ll cvs' lvs' (2 * (T : Int)) " " tm tw tl ts kt' ((bt, TupO [.str (rowT (p.1.map mk)) tb1, .int p.2 tb2]) :: L)) (by walk_at "mine perm")
  clear H2a
  have hst : stp (fun i => wi.getD i 0) (b0 :: bits, (stps (wfO o) i p).2) = stps (wfO o) (i + 1) p := by
    rw [hwf, ← hB]; rfl
  rw [hst] at hp2 ⊢
  have hcur := cur_step hi g1 cvs' lvs lvs' hlv (by rw [hb0]; exact hpost)
  obtain ⟨P1, hP1⟩ : ∃ P1, P1 = stps (wfO o) (i + 1) p := ⟨_, rfl⟩
  rw [← hP1] at hp2 hsl' hQ ⊢
  walk_at "mine walk"
  refine rstr_s ((by with_reducible assumption : St _ _ _ _ _ _).pull (.tail (.tail .head)) |>.pull (.tail (.tail .head))) (hA.le (by decide) (by decide)) hp2 (pl_le _) (by rw [List.length_map]; walk_at "o") ?_
  intro t3 g3 h3 γ3 tk3 htk3 hg3 H3a
  have H3 := H3a.pull (.tail (.tail .head))
  clear H3a
  try dsimp only at htk3
  have sh1 := shSI (strOk_row P1.1) P1.2
  have sh0 := shSI (strOk_row p.1) p.2
  have hb : ((PyData.tuple [PyData.str (rowT (P1.1.map mk)), PyData.int P1.2]).eqv (PyData.tuple [PyData.str (rowT (p.1.map mk)), PyData.int p.2]) != ((((i + 1 : Nat) : Int)).fmod (T : Int) == 0)) = false := by
    have hbk := hR.back (i + 1) (by walk_at "o") (by walk_at "o")
    rw [← hP1] at hbk
    rw [fmod_nat]
    by_cases hq : P1 = p
    · have h0 := hbk.mp hq
      rw [hq, h0]
      simp [PyData.eqv, PyData.eqvAll]
    · have h0 : ¬ (i + 1) % T = 0 := fun z => hq (hbk.mpr z)
      have e1 : (PyData.tuple [PyData.str (rowT (P1.1.map mk)), PyData.int P1.2]).eqv (PyData.tuple [PyData.str (rowT (p.1.map mk)), PyData.int p.2]) = false := by
        cases q : (PyData.tuple [PyData.str (rowT (P1.1.map mk)), PyData.int P1.2]).eqv (PyData.tuple [PyData.str (rowT (p.1.map mk)), PyData.int p.2]) with
        | false => rfl
        | true =>
          simp [PyData.eqv, PyData.eqvAll] at q
          exact absurd (Prod.ext (rowT_inj q.1) q.2) hq
      rw [e1]
      have e2 : ((((i + 1) % T : Nat) : Int) == 0) = false := by
        rw [beq_eq_false_iff_ne]; walk_at "o"
      rw [e2]; rfl
  walk_at "mine walk"
  have hp3 := hp2.le hg3
  (rename St _ _ _ _ _ _ => H4; rename_i tu _)
  refine rlen_s ((H4.pull (.tail (.tail (.tail .head)))).pull (.tail (.tail (.tail .head)))) (hA.le (by decide) (by decide)) hp3 (pl_le _) (by rw [List.length_map]; walk_at "o") (by decide) (by decide) ?_
  intro t5 g5 h5 γ5 tk5 htk5 hg5 H5a
  have H5 := H5a.pull (.tail (.tail .head))
  clear H5a
  try dsimp only at htk5
  rw [plen_mk, hsl']
  walk_at "mine walk"
  · rename _ ≠ _ => hq; exact absurd (by walk_at "o") hq
  have H6 : St w g5 γ₀ _ γ5 ((Lf, FrO ([("carry", .int P1.2 t1), ("row", .ref x), ("page", .ref pg), ("wires", .ref wl), ("around", .int T tT), ("size", .int (szO o : Nat) tsz), ("begin", .ref bt), ("odd", .int o to), ("above", .int ab ta), ("turn", .int ((i + 1 : Nat) : Int) tt)] : Bs)) ::
      (x, AccO dx vs') :: (dx, NsO ([("_initial_size", .int 0 kr')] : Bs)) :: (tu, TupO [.str (rowT (P1.1.map mk)) t3, .int P1.2 t1]) :: pgE pg pd cx cd ll cvs' lvs' (2 * (T : Int)) " " tm tw tl ts kt' ((bt, TupO [.str (rowT (p.1.map mk)) tb1, .int p.2 tb2]) :: L)) := St.weak (by with_reducible assumption) fun o => FrO.sub (by walk_at "mine subs")
  have H7 : St w g5 γ₀ _ γ5 ((Lf, FrO ([("carry", .int P1.2 t1), ("row", .ref x), ("page", .ref pg), ("wires", .ref wl), ("around", .int T tT), ("size", .int (szO o : Nat) tsz), ("begin", .ref bt), ("odd", .int o to), ("above", .int ab ta), ("turn", .int ((i + 1 : Nat) : Int) tt)] : Bs)) ::
      (x, AccO dx vs') :: (dx, NsO ([("_initial_size", .int 0 kr')] : Bs)) :: pgE pg pd cx cd ll cvs' lvs' (2 * (T : Int)) " " tm tw tl ts kt' ((bt, TupO [.str (rowT (p.1.map mk)) tb1, .int p.2 tb2]) :: L)) := H6.sub (by walk_at "mine back")
  clear H6
  refine gen_new H7 (hA.le (by decide) (by decide)) ?_
  intro a Gf gn h8 γ8 tk8 htk8 hgn hgs H8a
  have H8 := H8a.pull (.tail (.tail .head))
  clear H8a
  try dsimp only at htk8
  walk_at "mine walk"
  rename St _ _ _ _ _ _ => H9
  have hcur5 := hcur.1.le ((hg2.trans hg3).trans hg5)
  have hcl2 : (curB (wfO o) p T (i + 1)).length ≤ 500 := by rw [cur_len]; split <;> walk_at "o"
  obtain ⟨LL, hLL⟩ : ∃ LL, LL = (Lf, FrO ([("rooms", .ref a), ("carry", .int P1.2 t1), ("row", .ref x), ("page", .ref pg), ("wires", .ref wl), ("around", .int T tT), ("size", .int (szO o : Nat) tsz), ("begin", .ref bt), ("odd", .int o to), ("above", .int ab ta), ("turn", .int ((i + 1 : Nat) : Int) tt)] : Bs)) :: (x, AccO dx vs') :: (dx, NsO ([("_initial_size", .int 0 kr')] : Bs)) :: (bt, TupO [.str (rowT (p.1.map mk)) tb1, .int p.2 tb2]) :: L := ⟨_, rfl⟩
  have H9' := H9.perm (L' := mlL pg pd cx cd ll a Gf cvs' lvs' (2 * (T : Int)) " " tm tw tl ts kt' gn ((Lf, FrO ([("rooms", .ref a), ("carry", .int P1.2 t1), ("row", .ref x), ("page", .ref pg), ("wires", .ref wl), ("around", .int T tT), ("size", .int (szO o : Nat) tsz), ("begin", .ref bt), ("odd", .int o to), ("above", .int ab ta), ("turn", .int ((i + 1 : Nat) : Int) tt)] : Bs)) :: (x, AccO dx vs') :: (dx, NsO ([("_initial_size", .int 0 kr')] : Bs)) :: (bt, TupO [.str (rowT (p.1.map mk)) tb1, .int p.2 tb2]) :: L)) (by walk_at "mine perm")
  rw [← hLL] at H9'
  clear H9
  refine nextA H9' (by walk_at "mine om") (hA.le (by decide) (by decide)) hgn hgs hcur5 hcl2 ?_
  intro ta1 g10 h10 γ10 tk10 gs10 htk10 hg10 H10 hgs10 hlat10
  have H10' : St w g10 γ₀ h10 γ10 ((Lf, FrO ([("rooms", .ref a), ("carry", .int P1.2 t1), ("row", .ref x), ("page", .ref pg), ("wires", .ref wl), ("around", .int T tT), ("size", .int (szO o : Nat) tsz), ("begin", .ref bt), ("odd", .int o to), ("above", .int ab ta), ("turn", .int ((i + 1 : Nat) : Int) tt)] : Bs)) :: (a, GenO gn) :: (Gf, FrO ([("self", .ref pg)] : Bs)) :: (x, AccO dx vs') :: (dx, NsO ([("_initial_size", .int 0 kr')] : Bs)) :: pgE pg pd cx cd ll cvs' lvs' (2 * (T : Int)) " " tm tw tl ts kt' ((bt, TupO [.str (rowT (p.1.map mk)) tb1, .int p.2 tb2]) :: L)) := by
    rw [hLL] at H10; exact H10.perm (by walk_at "mine perm")
  try dsimp only at htk10
  walk_at "mine walk"
  refine nextB (k := 1) (by decide) H10 hg10 (by walk_at "mine om") (hA.le (by decide) (by decide)) hgn hgs10 hlat10 ?_
  intro ta2 g11 h11 γ11 tk11 gs11 htk11 hg11 H11 hgs11 hlat11
  clear H10 H10'
  have H11' : St w g11 γ₀ h11 γ11 ((Lf, FrO ([("rooms", .ref a), ("carry", .int P1.2 t1), ("row", .ref x), ("page", .ref pg), ("wires", .ref wl), ("around", .int T tT), ("size", .int (szO o : Nat) tsz), ("begin", .ref bt), ("odd", .int o to), ("above", .int ab ta), ("turn", .int ((i + 1 : Nat) : Int) tt)] : Bs)) :: (a, GenO gn) :: (Gf, FrO ([("self", .ref pg)] : Bs)) :: (x, AccO dx vs') :: (dx, NsO ([("_initial_size", .int 0 kr')] : Bs)) :: pgE pg pd cx cd ll cvs' lvs' (2 * (T : Int)) " " tm tw tl ts kt' ((bt, TupO [.str (rowT (p.1.map mk)) tb1, .int p.2 tb2]) :: L)) := by
    rw [hLL] at H11; exact H11.perm (by walk_at "mine perm")
  try dsimp only at htk11
  walk_at "mine walk"
  refine nextB (k := 0) (by decide) H11 hg11 (by walk_at "mine om") (hA.le (by decide) (by decide)) hgn hgs11 (hlat11 (by decide)) ?_
  intro ta3 g12 h12 γ12 tk12 gs12 htk12 hg12 H12 hgs12 _
  clear H11 H11'
  have H12' : St w g12 γ₀ h12 γ12 ((Lf, FrO ([("rooms", .ref a), ("carry", .int P1.2 t1), ("row", .ref x), ("page", .ref pg), ("wires", .ref wl), ("around", .int T tT), ("size", .int (szO o : Nat) tsz), ("begin", .ref bt), ("odd", .int o to), ("above", .int ab ta), ("turn", .int ((i + 1 : Nat) : Int) tt)] : Bs)) :: (a, GenO gn) :: (Gf, FrO ([("self", .ref pg)] : Bs)) :: (x, AccO dx vs') :: (dx, NsO ([("_initial_size", .int 0 kr')] : Bs)) :: pgE pg pd cx cd ll cvs' lvs' (2 * (T : Int)) " " tm tw tl ts kt' ((bt, TupO [.str (rowT (p.1.map mk)) tb1, .int p.2 tb2]) :: L)) := by
    rw [hLL] at H12; exact H12.perm (by walk_at "mine perm")
  clear H12
  try dsimp only at htk12
  have hsA := shL3 (2 * (T : Int) - 2 * ((curB (wfO o) p T (i + 1)).length : Nat)) (2 * (T : Int) - 1) (2 * (T : Int) - 1)
  have hsB := shL3 (2 * (-((i + 1 : Nat) : Int)).fmod (T : Int)) (2 * (T : Int) - 1) (2 * (T : Int) - 1)
  walk_at "mine walk"
  rotate_left
  · rename _ = false => hq
    rw [room_eq hTp hi] at hq
    simp [PyData.eqv, PyData.eqvAll] at hq
  rename St _ _ _ _ _ _ => H13
  have hgg : Le g g12 := (((hg1.trans hg2).trans hg3).trans hg5).trans hg12
  have hg25 : Le g2 g12 := (hg3.trans hg5).trans hg12
  have H14 := H13.weak (P' := FrO ([("carry", .int P1.2 t1), ("row", .ref x), ("page", .ref pg), ("wires", .ref wl), ("around", .int T tT), ("size", .int (szO o : Nat) tsz), ("begin", .ref bt), ("odd", .int o to), ("above", .int ab ta)] : Bs)) fun o => FrO.sub (by walk_at "mine subs")
  exact hQ vs' cvs' lvs' kt' kr' t1 g12 _ γ12 _ (by walk_at "mine om") hgg (hp2.le hg25) (hcur.1.le (hg2.trans hg25)) hcur.2 (H14.sub (by walk_at "mine back"))
end

-- T30
theorem seg_line {o T : Nat} {ab : Int} {p : List Bool × Int} (hR : Rnd o p ab T) {a : Nat} (ha : a = 0 ∨ a = T) : segB (wfO o) p a (a + T) = lineB o ab T := by
  unfold segB lineB
  have e : a + T - a = T := by walk_at "o"
  rw [e]
  refine List.map_congr_left fun j hj => ?_
  rw [List.mem_range] at hj
  have h := hR.out (a + j) (by rcases ha with rfl | rfl <;> walk_at "o")
  have e2 : (a + j) % T = j := by
    rcases ha with rfl | rfl
    · rw [Nat.zero_add, Nat.mod_eq_of_lt hj]
    · rw [Nat.add_mod_left, Nat.mod_eq_of_lt hj]
  rw [e2] at h
  cases q : outB (wfO o) p (a + j) with
  | true => rw [q] at h; exact (decide_eq_true (h.mp rfl)).symm
  | false =>
    rw [q] at h
    exact (decide_eq_false fun z => by have := h.mpr z; cases this).symm
section
variable {prog : Program} [PrOk prog] {w : World} {A : Around} {s : Shared} {g : Heap} {γ₀ : Array GenState} {L : List Ent} {Lf x dx wl : Addr} {vs ws : List Value} {wi : List Int} {kr : Nat} {o : Nat} {ab ki : Int} {p : List Bool × Int} {to ta tc tsz : Nat}
theorem partC {Q : Flow → Shared → Prop} {E : Value → Shared → Prop} (H : St w g γ₀ s.heap s.gens ((Lf, FrO ([("carry", .int p.2 tc), ("row", .ref x), ("wires", .ref wl), ("size", .int (szO o : Nat) tsz), ("odd", .int o to), ("above", .int ab ta)] : Bs)) ::
      (x, AccO dx vs) :: (dx, NsO ([("_initial_size", .int ki kr)] : Bs)) :: L)) (hs : 0 < s.toks) (hA : Ok A 25 120)
    (ho : oddOk o) (hpl : p.1.length = szO o) (hab : ab = - num (wfO o) p) (hn1 : -(o : Int) ≤ num (wfO o) p) (hn2 : num (wfO o) p ≤ 0) (hki : 0 ≤ ki) (hki1 : ki ≤ 1000) (hp : Parts g vs (p.1.map mk)) (hw : ListAt g wl ws) (hwi : Ints ws wi) (hwl : wi.length = szO o + 1) (hw1 : ∀ y ∈ wi, y = 0 ∨ y = 1) (hwf : (fun i => wi.getD i 0) = wfO o)
    (hQ : ∀ g' h' γ' tk', s.toks ≤ tk' → Le g g' → St w g' γ₀ h' γ' L → Q (.ret (.bool true)) { s with heap := h', gens := γ', toks := tk' }) :
    wpAny (model prog w) A (execs (b307.1.drop 17) (callEnv F307.1 Lf 307)) Q E s := by
  obtain ⟨o1, o2⟩ := oddLe ho
  obtain ⟨T, hR⟩ := rnd_of ho p hpl hn1 hn2
  rw [← hab] at hR
  have hTp := hR.pos
  have hTle := hR.le
  have hszr : 2 ≤ szO o ∧ szO o ≤ 3 := by unfold szO; split <;> decide
  dsimp only [b307, List.drop]
  walk_at "mine walk"
  refine round_s (T := T) (by with_reducible assumption) (by walk_at "mine om") (hA.le (by decide) (by decide)) (by walk_at "o") (by walk_at "o") (by walk_at "o") (by walk_at "o") hTp (by walk_at "o") hR.div hR.min ?_
  intro tT g1 h1 γ1 tk1 htk1 hg1 H1
  try dsimp only at htk1
  walk_at "mine walk"
  refine page_new (by with_reducible assumption) (hA.le (by decide) (by decide)) ?_
  intro pg pd cx cd ll tl h2 tk2 htk2 H2a
  have H2 := H2a.pull (.tail (.tail (.tail (.tail (.tail .head)))))
  clear H2a
  try dsimp only at htk2
  walk_at "mine walk"
  rename St _ _ _ _ _ _ => H3
  refine rstr_s ((H3.pull (.tail (.tail (.tail (.tail (.tail (.tail (.tail .head)))))))).pull (.tail (.tail (.tail (.tail (.tail (.tail (.tail .head)))))))) (hA.le (by decide) (by decide)) (hp.le hg1) (pl_le _) (by rw [List.length_map]; walk_at "o") ?_
  intro tb1 g4 h4 γ4 tk4 htk4 hg4 H4a
  have H4 := H4a.pull (.tail (.tail .head))
  clear H4a
  try dsimp only at htk4
  walk_at "mine walk"
  refine wpAny_For ?_
  walk_at "mine walk"
  (rename St _ _ _ _ _ _ => H5; rename_i bt _ _ _ _ rg _ _ it _)
  have eT : (2 * (T : Int) + 1 - 1).toNat = 2 * T := by walk_at "o"
  rw [eT] at H5
  generalize htm : tk1 + 1 + 1 + 1 = tm at H5
  generalize htw : tm + 1 = tw at H5
  generalize hts : tw + 1 = ts at H5
  have hgA : Le g g4 := hg1.trans hg4
  have H5' := H5.perm (L' := (Lf, FrO ([("begin", .ref bt), ("page", .ref pg), ("around", .int T tT), ("carry", .int p.2 tc), ("row", .ref x), ("wires", .ref wl), ("size", .int (szO o : Nat) tsz), ("odd", .int o to), ("above", .int ab ta)] : Bs)) :: (it, RgO 1 (2 * T) 1 0) :: (rg, RangeO 1 (2 * (T : Int) + 1) 1) :: (x, AccO dx vs) :: (dx, NsO ([("_initial_size", .int ki kr)] : Bs)) :: pgE pg pd cx cd ll [] [] (2 * (T : Int)) " " tm tw tl ts (tk1 + 1) ((bt, TupO [.str (rowT (p.1.map mk)) tb1, .int p.2 tc]) :: L)) (by walk_at "mine perm")
  have H6 := H5'.weak (P' := FrO ([("carry", .int (stps (wfO o) 0 p).2 tc), ("row", .ref x), ("page", .ref pg), ("wires", .ref wl), ("around", .int T tT), ("size", .int (szO o : Nat) tsz), ("begin", .ref bt), ("odd", .int o to), ("above", .int ab ta)] : Bs)) fun o => FrO.sub (by walk_at "mine subs")
  clear H5 H5'
  refine for_loop (Lf := Lf) (L := (rg, RangeO 1 (2 * (T : Int) + 1) 1) :: (x, AccO dx vs) :: (dx, NsO ([("_initial_size", .int ki kr)] : Bs)) :: pgE pg pd cx cd ll [] [] (2 * (T : Int)) " " tm tw tl ts (tk1 + 1) ((bt, TupO [.str (rowT (p.1.map mk)) tb1, .int p.2 tc]) :: L))
    (bs := [("carry", .int (stps (wfO o) 0 p).2 tc), ("row", .ref x), ("page", .ref pg), ("wires", .ref wl), ("around", .int T tT), ("size", .int (szO o : Nat) tsz), ("begin", .ref bt), ("odd", .int o to), ("above", .int ab ta)])
    (iter_range g4 it 1 (2 * T) 1) (hA.le (by decide) (by decide)) (by walk_at "mine om")
    (fun i g' (bs' : Bs) L' => ∃ vs' cvs' lvs' kt' kr' ki' t', bs' = ([("carry", .int (stps (wfO o) i p).2 t'), ("row", .ref x), ("page", .ref pg), ("wires", .ref wl), ("around", .int T tT), ("size", .int (szO o : Nat) tsz), ("begin", .ref bt), ("odd", .int o to), ("above", .int ab ta)] : Bs) ∧
      L' = (rg, RangeO 1 (2 * (T : Int) + 1) 1) :: (x, AccO dx vs') :: (dx, NsO ([("_initial_size", .int ki' kr')] : Bs)) :: pgE pg pd cx cd ll cvs' lvs' (2 * (T : Int)) " " tm tw tl ts kt' ((bt, TupO [.str (rowT (p.1.map mk)) tb1, .int p.2 tc]) :: L) ∧
      Parts g' vs' ((stps (wfO o) i p).1.map mk) ∧ Parts g' cvs' ((curB (wfO o) p T i).map mk) ∧ linB (wfO o) p T i lvs' ∧ Le g4 g')
    H6 ⟨vs, [], [], tk1 + 1, kr, ki, tc, rfl, rfl, hp.le hgA, .nil, rfl, .refl _⟩ ?_ ?_
  · rintro i g' h' γ' t tk' bs' L' v hi hg' ht1 ht2 ⟨vs', cvs', lvs', kt', kr', ki', t', rfl, rfl, hpv, hpc, hlv, hgg⟩ hv H7
    obtain rfl : v = .int ((i + 1 : Nat) : Int) t := by rw [hv]; congr 1; walk_at "o"
    try dsimp only at ht1
    refine wpAny_assign_Name ?_
    refine store_local H7 fun h8 H8 => ?_
    try dsimp only at H8
    have H9 := H8.perm (L' := (Lf, FrO ([("turn", .int ((i + 1 : Nat) : Int) t), ("carry", .int (stps (wfO o) i p).2 t'), ("row", .ref x), ("page", .ref pg), ("wires", .ref wl), ("around", .int T tT), ("size", .int (szO o : Nat) tsz), ("begin", .ref bt), ("odd", .int o to), ("above", .int ab ta)] : Bs)) :: (x, AccO dx vs') :: (dx, NsO ([("_initial_size", .int ki' kr')] : Bs)) :: pgE pg pd cx cd ll cvs' lvs' (2 * (T : Int)) " " tm tw tl ts kt' ((bt, TupO [.str (rowT (p.1.map mk)) tb1, .int p.2 tc]) :: (it, RgO 1 (2 * T) 1 (i + 1)) :: (rg, RangeO 1 (2 * (T : Int) + 1) 1) :: L)) (by walk_at "mine perm")
    refine turnC (i := i) (wi := wi) (ws := ws) H9 (by walk_at "mine om") hA ho hpl hi hR hpv (hw.le (hgA.trans hgg)) hwi hwl hw1 hwf hpc hlv ?_
    intro vs2 cvs2 lvs2 kt2 kr2 t2 g10 h10 γ10 tk10 htk10 hg10 hv2 hc2 hl2 H10
    try dsimp only at htk10
    refine ⟨g10, h10, γ10, tk10, _, _, rfl, hg10, by walk_at "o", ⟨vs2, cvs2, lvs2, kt2, kr2, 0, t2, rfl, rfl, hv2, hc2, hl2, hgg.trans hg10⟩, H10.perm (by walk_at "mine perm")⟩
  · rintro g' h' γ' tk' bs' L' hg' ht1 ⟨vs', cvs', lvs', kt', kr', ki', t', rfl, rfl, hpv, hpc, hlv, hgg⟩ H7
    try dsimp only at ht1
    walk_at "mine fin"
    refine wpAny_execs_nil ?_
    unfold linB at hlv
    rw [if_neg (by walk_at "o")] at hlv
    obtain ⟨t1, rfl⟩ := hlv
    have e1 : segB (wfO o) p 0 T = lineB o ab T := by have := seg_line hR (a := 0) (.inl rfl); rwa [Nat.zero_add] at this
    have e2 : curB (wfO o) p T (2 * T) = lineB o ab T := by
      unfold curB
      rw [if_neg (by walk_at "o"), show 2 * T = T + T by walk_at "o"]
      exact seg_line hR (.inr rfl)
    rw [e1] at H7
    rw [e2] at hpc
    obtain ⟨B0, bl, hB⟩ : ∃ B0 bl, lineB o ab T = B0 ++ [bl] := by
      have hne : lineB o ab T ≠ [] := by unfold lineB; simp; walk_at "o"
      exact ⟨(lineB o ab T).dropLast, (lineB o ab T).getLast hne, (List.dropLast_concat_getLast hne).symm⟩
    rw [hB] at hpc
    have H8 := H7.weak (P' := FrO ([("odd", .int o to), ("above", .int ab ta), ("around", .int T tT), ("page", .ref pg)] : Bs)) fun o => FrO.sub (by walk_at "mine subs")
    have H9 : St w g' γ₀ h' γ' ((Lf, FrO ([("odd", .int o to), ("above", .int ab ta), ("around", .int T tT), ("page", .ref pg)] : Bs)) :: pgE pg pd cx cd ll cvs' [.str (rowT ((lineB o ab T).map mk)) t1] (2 * (T : Int)) " " tm tw tl ts kt' L) := by
      have H8a : St w g' γ₀ h' γ' ((Lf, FrO ([("odd", .int o to), ("above", .int ab ta), ("around", .int T tT), ("page", .ref pg)] : Bs)) :: pgE pg pd cx cd ll cvs' [.str (rowT ((lineB o ab T).map mk)) t1] (2 * (T : Int)) " " tm tw tl ts kt' ((bt, TupO [.str (rowT (p.1.map mk)) tb1, .int p.2 tc]) :: L)) := H8.sub (by walk_at "mine back")
      exact (H8a.pull (.tail (.tail (.tail (.tail (.tail (.tail .head))))))).tail
    exact partD H9 (by walk_at "mine om") hA ho (by walk_at "o") (by walk_at "o") hTp hTle hpc hB.symm hR.quo hR.rem fun g2 h2 γ2 tk2 a1 a2 a3 => hQ g2 h2 γ2 tk2 (by walk_at "mine om") ((hgA.trans hgg).trans a2) a3
end

-- T31
section
open PySem.Builtin PySem.Builtin.Str
theorem flat_odd : ∀ (B : List Bool) (i : Nat), i < B.length → ((B.map mkc).flatten)[1 + 2 * i]? = some (if B.getD i false then 120 else 111)
  | [], i, h => by simp at h
  | b :: r, 0, _ => by simp [mkc]
  | b :: r, i + 1, h => by
    have ih := flat_odd r i (by simpa using h)
    rw [List.map_cons, List.flatten_cons]
    have e : 1 + 2 * (i + 1) = (mkc b).length + (1 + 2 * i) := by simp [mkc]; walk_at "o"
    rw [e, List.getElem?_append_right (by walk_at "o"), Nat.add_sub_cancel_left, ih, List.getD_cons_succ]
theorem pick_odd (B : List Bool) {x : Str} (hx : x.cps.toList = (B.map mkc).flatten) (ui uk : Tok) : (Txt.sliceBy x (some (1, ui)) none (2, uk)).cps.toList = B.map fun b => if b then 120 else 111 := by
  have hl : x.length = 2 * B.length := by
    rw [← flat_mkc_len, ← hx]; rfl
  unfold Txt.sliceBy
  rw [if_neg (by simp)]
  show ((slicePicked x (some (1, ui)) none (some (2, uk))).filterMap (x.cps[·]?)) = _
  have e1 : slicePicked x (some (1, ui)) none (some (2, uk)) = (List.range B.length).map fun i => 1 + 2 * i := by
    unfold slicePicked strSliceIndices
    rw [hl]
    simp only [Option.map_some, Option.map_none, Option.getD_some]
    unfold sliceRange
    cases hB : B.length with
    | zero => rfl
    | succ m =>
      have c : max 0 (min (1 : Int) ((2 * (m + 1) : Nat) : Int)) = 1 := by walk_at "o"
      simp only [show ¬ (1 : Int) < 0 by decide, if_false, show (2 : Int) > 0 by decide, if_true, c]
      rw [if_pos (by walk_at "o")]
      have c2 : ((((2 * (m + 1) : Nat) : Int) - 1 + 2 - 1) / 2).toNat = m + 1 := by walk_at "o"
      rw [c2]
      refine List.map_congr_left fun i _ => ?_
      walk_at "o"
  rw [e1, List.filterMap_map]
  have e2 : ∀ n, n ≤ B.length → (List.range n).filterMap ((fun a => x.cps[a]?) ∘ fun i => 1 + 2 * i) = (B.take n).map fun b => if b then 120 else 111 := by
    intro n
    induction n with
    | zero => intro _; simp
    | succ n ih =>
      intro hn
      rw [List.range_succ, List.filterMap_append, ih (by walk_at "o"), List.take_succ_eq_append_getElem (by walk_at "o"), List.map_append]
      congr 1
      have h := flat_odd B n (by walk_at "o")
      rw [← hx, Array.getElem?_toList] at h
      simp only [List.filterMap_cons, Function.comp, h, List.filterMap_nil, List.map_cons, List.map_nil]
      rw [List.getD_eq_getElem?_getD, List.getElem?_eq_getElem (by walk_at "o"), Option.getD_some]
  rw [e2 _ (Nat.le_refl _), List.take_length]
section
variable {prog : Program} {w : World} {A : Around} {E : Value → Shared → Prop} {g h : Heap} {γ₀ γ : Array GenState} {L : List Ent} {F₀ : Ent} {d : Drawn} {t : Nat} {os : OsState}
theorem str_step {value slice : PySem.Expr} {x : Str} {tx ui uk : Nat} {i k : Int} {ops : List Value} {Q : Value → Shared → Prop} (H : St w g γ₀ h γ L) (hk : (k == 0) = false) (hz : x.length ≤ 1000000)
    (hq : ∀ (t' : Nat) h' tk', t ≤ tk' → St w g γ₀ h' γ L → Q (.str (Txt.sliceBy x (some (i, ui)) none (k, uk)) t') ⟨h', γ, d, tk', os⟩)
    (hs : subscripted slice false (.str x tx) (.ref h.objs.size) = operate ops (getItem (.str x tx) (.ref h.objs.size))) (ht : ∀ r, letTemporaryGo value (.str x tx) r = pure ()) :
    wpAny (model prog w) A (subscriptTail value slice (.str x tx) (.ref h.objs.size)) Q E ⟨h.push { cls := .type "slice", data := .fields #[.int i ui, .none, .int k uk] }, γ, d, t, os⟩ := by
  have H1 : St w g γ₀ (h.push { cls := .type "slice", data := .fields #[.int i ui, .none, .int k uk] }) γ L := H.grow fun b o e => Heap.get?_push_of_some _ e
  refine wpAny_with_toks (n := t) (Nat.le_refl _) ?_
  refine tail_of_ItemOn ⟨"str", _, F.slot_str_getitem.lookup, typeIs_str _ _ _, wpAny_getItem_str_slice (l := (some (i, ui))) (u := none) (st := some (k, uk)) ⟨_, Heap.get?_push_size _ rfl, rfl, rfl⟩ hk
    (post_val_or_str ⟨Nat.le_trans (Txt.sliceBy_le x _ _ (k, uk) (by simpa using hk)) (by unfold sizeLine; walk_at "o"), fun t' c => ?_⟩)⟩ hs ht
  intro hle
  exact hq _ _ _ hle H1
end
section
variable {prog : Program} [PrOk prog] {w : World} {A : Around} {s : Shared} {g : Heap} {γ₀ : Array GenState} {L : List Ent} {pg pd cx cd ll : Addr} {cvs : List Value} {M : Int} {sc : Str} {tm tw tl ts kt : Nat} {cur : List Bool}
theorem strA_s {tsep : Nat} {Q : Value → Shared → Prop} {E : Value → Shared → Prop} (H : St w g γ₀ s.heap s.gens (pgE pg pd cx cd ll cvs [] M sc tm tw tl ts kt L)) (hs : 0 < s.toks) (hA : Ok A 10 110) (hp : Parts g cvs (cur.map mk)) (hl : cur.length ≤ 500) (hkt : kt = kt)
    (hQ : ∀ t cvs' lvs' kt' g' h' γ' tk', s.toks ≤ tk' → Le g g' → St w g' γ₀ h' γ' (pgE pg pd cx cd ll cvs' lvs' M sc tm tw tl ts kt' L) → Q (.str (rowT (cur.map mk)) t) { s with heap := h', gens := γ', toks := tk' }) :
    wpAny (model prog w) A (call (.ref 133) [.ref pg, .str "|" tsep]) Q E s := by
  have hbarL : (Str.ofString "|").length ≤ 10 := by decide +kernel
  unfold pgE at H hQ
  rcases List.eq_nil_or_concat cur with rfl | ⟨c0, b, rfl⟩
  · cases hp
    refine str0_s (lines := []) H hs hA hbarL .nil (by simp) (by simp) ?_
    intro t kt' g' h' γ' tk' a1 a2 a3
    exact hQ t [] [] kt' g' h' γ' tk' a1 a2 a3
  · rw [List.concat_eq_append] at *
    refine str1_s (lines := []) H hs hA hp (by rw [List.length_append] at hl; walk_at "o") hbarL .nil (by simp) (by simp) ?_
    intro t lvs' kt' g' h' γ' tk' a1 a2 a3 a4
    exact hQ t [] lvs' kt' g' h' γ' tk' a1 a2 a4
end

end
-- T32
noncomputable def i16 : {x : Stmt // b307.1[16]? = some x} := ⟨_, rfl⟩
noncomputable def l15 : {x : List Stmt // ∃ t i o p, b307.1[15]? = some (.For t i x o p)} := ⟨_, _, _, _, _, rfl⟩
theorem shII (x y : Int) : PySem.SeqAt.shaped (.tuple [.int x, .int y]) = true := by
  simp [PySem.SeqAt.shaped, PyData.canLay0, PyData.canLayAll0, PyData.depth, PyData.depthAll]
section
variable {prog : Program} [PrOk prog] {w : World} {A : Around} {s : Shared} {g : Heap} {γ₀ : Array GenState} {L : List Ent} {Lf x dx wl : Addr} {vs ws : List Value} {wi : List Int} {kr : Nat} {o k : Nat} {ab ki F W r : Int} {p : List Bool × Int} {to ta tc tsz tw ts tf tr : Nat}
theorem restB {Q : Flow → Shared → Prop} {E : Value → Shared → Prop} (H : St w g γ₀ s.heap s.gens ((Lf, FrO ([("rest", .int r tr), ("above", .int ab ta), ("written", .int W tw), ("steps", .int k ts), ("first", .int F tf), ("carry", .int p.2 tc), ("row", .ref x), ("wires", .ref wl), ("size", .int (szO o : Nat) tsz), ("odd", .int o to)] : Bs)) :: L)) (hs : 0 < s.toks) (hA : Ok A 25 120)
    (ho : oddOk o) (hk : k ≤ 20) (hab0 : 0 ≤ ab) (hab1 : ab ≤ o) (hF : F = o * W - 2 ^ k * ab) (hW0 : 0 ≤ W) (hW1 : W ≤ 2 ^ k - 1) (hr0 : 0 ≤ r) (hr1 : r ≤ 2 ^ k - 1)
    (hQ : ∀ g' h' γ' tk', s.toks ≤ tk' → Le g g' → St w g' γ₀ h' γ' ((Lf, FrO ([("above", .int ab ta), ("written", .int W tw), ("steps", .int k ts), ("first", .int F tf), ("carry", .int p.2 tc), ("row", .ref x), ("wires", .ref wl), ("size", .int (szO o : Nat) tsz), ("odd", .int o to)] : Bs)) :: L) → Q .next { s with heap := h', gens := γ', toks := tk' }) :
    wpAny (model prog w) A (execs l15.1 (callEnv F307.1 Lf 307)) Q E s := by
  obtain ⟨o1, o2⟩ := oddLe ho
  have hP : (1 : Int) ≤ 2 ^ k ∧ (2 : Int) ^ k ≤ 2 ^ 20 := by
    have h1 : 1 ≤ 2 ^ k := Nat.one_le_two_pow
    have h2 : 2 ^ k ≤ 2 ^ 20 := Nat.pow_le_pow_right (by decide) hk
    have e : ((2 ^ k : Nat) : Int) = (2 : Int) ^ k := by rw [Int.natCast_pow]; rfl
    rw [← e]; walk_at "o"
  obtain ⟨P, hPe⟩ : ∃ P : Int, P = 2 ^ k := ⟨_, rfl⟩
  have hWo : 0 ≤ (o : Int) * W := Int.mul_nonneg (by walk_at "o") hW0
  have hWo1 : (o : Int) * W ≤ 13 * 2 ^ 20 := Int.mul_le_mul (by walk_at "o") (by walk_at "o") hW0 (by decide)
  have hPa : 0 ≤ P * ab := Int.mul_nonneg (by walk_at "o") hab0
  have hPa1 : P * ab ≤ 2 ^ 20 * 13 := Int.mul_le_mul (by walk_at "o") (by walk_at "o") hab0 (by decide)
  have hT : F - (o : Int) * W + r = r + P * (-ab) := by rw [hF, ← hPe, Int.mul_neg]; walk_at "o"
  have hfd : (F - (o : Int) * W + r).fdiv P = -ab := by
    rw [hT, Int.fdiv_eq_ediv_of_nonneg _ (by walk_at "o"), Int.add_mul_ediv_left _ _ (by walk_at "o"), Int.ediv_eq_zero_of_lt hr0 (by walk_at "o")]; walk_at "o"
  have hfm : (F - (o : Int) * W + r).fmod P = r := by
    rw [hT, Int.fmod_eq_emod_of_nonneg _ (by walk_at "o"), Int.add_mul_emod_self_left, Int.emod_eq_of_lt hr0 (by walk_at "o")]
  have h300 : (2 ^ 21 : Nat) < 2 ^ 300 := by decide
  have e4 : ((o : Nat) : Int).natAbs < 2 ^ 300 := by walk_at "o"
  have e5 : W.natAbs < 2 ^ 300 := by walk_at "o"
  dsimp only [l15]
  walk_at "mine walk"
  refine imul_s (by with_reducible assumption) (hA.le (by decide) (by decide)) (mul_ok e4 e5) ?_
  intro t1 h1 tk1 htk1 H1
  try dsimp only at htk1
  walk_at "mine walk"
  refine isub_s (by with_reducible assumption) (hA.le (by decide) (by decide)) ?_
  intro t2 h2 tk2 htk2 H2
  try dsimp only at htk2
  walk_at "mine walk"
  rename St _ _ _ _ _ _ => H3
  refine ipow_s H3 (hA.le (by decide) (by decide)) (by walk_at "o") (by walk_at "o") ?_
  intro t4 h4 tk4 htk4 H4
  try dsimp only at htk4
  rw [Int.toNat_natCast, ← hPe]
  walk_at "mine walk"
  refine intdivmod_s (by with_reducible assumption) (by walk_at "mine om") (hA.le (by decide) (by decide)) (by rw [hT, Int.mul_neg]; walk_at "o") (by rw [hT, Int.mul_neg]; walk_at "o") (by walk_at "o") (by walk_at "o") ?_
  intro qr t5 u5 g5 h5 γ5 tk5 htk5 hg5 H5a
  have H5 := H5a.pull (.tail .head)
  clear H5a
  try dsimp only at htk5
  rw [hfd, hfm] at H5
  have sh1 := shII (-ab) r
  have hb : (!(PyData.tuple [PyData.int (-ab), PyData.int r]).eqv (PyData.tuple [PyData.int (-ab), PyData.int r])) = false := by
    simp [PyData.eqv, PyData.eqvAll]
  walk_at "mine walk"
  rename St _ _ _ _ _ _ => H6
  refine irshift_s H6 (hA.le (by decide) (by decide)) (by walk_at "o") ?_
  intro t7 h7 tk7 htk7 H7
  try dsimp only at htk7
  rw [Int.toNat_natCast, ← hPe, hfd]
  walk_at "mine walk"
  · exact absurd rfl (by assumption)
  have H8 := H7.weak (P' := FrO ([("above", .int ab ta), ("written", .int W tw), ("steps", .int k ts), ("first", .int F tf), ("carry", .int p.2 tc), ("row", .ref x), ("wires", .ref wl), ("size", .int (szO o : Nat) tsz), ("odd", .int o to)] : Bs)) fun o => FrO.sub (by walk_at "mine subs")
  exact hQ g5 h7 γ5 (tk7 + 1) (by walk_at "mine om") hg5 (H8.sub (by walk_at "mine back"))
theorem st16 {R : List Stmt} {Q : Flow → Shared → Prop} {E : Value → Shared → Prop} (H : St w g γ₀ s.heap s.gens ((Lf, FrO ([("above", .int ab ta), ("written", .int W tw), ("steps", .int k ts), ("first", .int F tf), ("carry", .int p.2 tc), ("row", .ref x), ("wires", .ref wl), ("size", .int (szO o : Nat) tsz), ("odd", .int o to)] : Bs)) :: L)) (hs : 0 < s.toks) (hA : Ok A 25 120)
    (ho : oddOk o) (hk : k ≤ 20) (hab0 : 0 ≤ ab) (hab1 : ab ≤ o) (hF : F = o * W - 2 ^ k * ab)
    (hQ : ∀ h' tk', s.toks ≤ tk' → St w g γ₀ h' s.gens ((Lf, FrO ([("above", .int ab ta), ("written", .int W tw), ("steps", .int k ts), ("first", .int F tf), ("carry", .int p.2 tc), ("row", .ref x), ("wires", .ref wl), ("size", .int (szO o : Nat) tsz), ("odd", .int o to)] : Bs)) :: L) → wpAny (model prog w) A (execs R (callEnv F307.1 Lf 307)) Q E { s with heap := h', toks := tk' }) :
    wpAny (model prog w) A (execs (i16.1 :: R) (callEnv F307.1 Lf 307)) Q E s := by
  obtain ⟨o1, o2⟩ := oddLe ho
  have hP : (1 : Int) ≤ 2 ^ k ∧ (2 : Int) ^ k ≤ 2 ^ 20 := by
    have h1 : 1 ≤ 2 ^ k := Nat.one_le_two_pow
    have h2 : 2 ^ k ≤ 2 ^ 20 := Nat.pow_le_pow_right (by decide) hk
    have e : ((2 ^ k : Nat) : Int) = (2 : Int) ^ k := by rw [Int.natCast_pow]; rfl
    rw [← e]; walk_at "o"
  have h300 : (2 ^ 21 : Nat) < 2 ^ 300 := by decide
  have e4 : ((-ab : Int)).natAbs < 2 ^ 300 := by walk_at "o"
  have e5 : ((2 : Int) ^ (k : Int).toNat).natAbs < 2 ^ 300 := by rw [Int.toNat_natCast]; walk_at "o"
  dsimp only [i16]
  walk_at "mine walk"
  refine imod_s (by with_reducible assumption) (hA.le (by decide) (by decide)) (by walk_at "o") ?_
  intro t9 h9 tk9 htk9 H9
  try dsimp only at htk9
  have hm : F.fmod o = (-ab * 2 ^ (k : Int).toNat).fmod o := by
    rw [Int.fmod_eq_emod_of_nonneg _ (by walk_at "o"), Int.fmod_eq_emod_of_nonneg _ (by walk_at "o"), hF, Int.toNat_natCast]
    have e : (o : Int) * W - 2 ^ k * ab = -ab * 2 ^ k + o * W := by rw [Int.neg_mul, Int.mul_comm ab]; walk_at "o"
    rw [e, Int.add_mul_emod_self_left]
  walk_at "mine walk"
  · exact absurd hm (by assumption)
  exact hQ h9 _ (by walk_at "mine om") H9
theorem partB3 {Q : Flow → Shared → Prop} {E : Value → Shared → Prop} (H : St w g γ₀ s.heap s.gens ((Lf, FrO ([("above", .int ab ta), ("written", .int W tw), ("steps", .int k ts), ("first", .int F tf), ("carry", .int p.2 tc), ("row", .ref x), ("wires", .ref wl), ("size", .int (szO o : Nat) tsz), ("odd", .int o to)] : Bs)) ::
      (x, AccO dx vs) :: (dx, NsO ([("_initial_size", .int ki kr)] : Bs)) :: L)) (hs : 0 < s.toks) (hA : Ok A 25 120)
    (ho : oddOk o) (hk : k ≤ 20) (hpl : p.1.length = szO o) (hab : ab = - num (wfO o) p) (hn1 : -(o : Int) ≤ num (wfO o) p) (hn2 : num (wfO o) p ≤ 0) (hF : F = o * W - 2 ^ k * ab) (hW0 : 0 ≤ W) (hW1 : W ≤ 2 ^ k - 1) (hki : 0 ≤ ki) (hki1 : ki ≤ 1000) (hp : Parts g vs (p.1.map mk)) (hw : ListAt g wl ws) (hwi : Ints ws wi) (hwl : wi.length = szO o + 1) (hw1 : ∀ y ∈ wi, y = 0 ∨ y = 1) (hwf : (fun i => wi.getD i 0) = wfO o)
    (hQ : ∀ g' h' γ' tk', s.toks ≤ tk' → Le g g' → St w g' γ₀ h' γ' L → Q (.ret (.bool true)) { s with heap := h', gens := γ', toks := tk' }) :
    wpAny (model prog w) A (execs (b307.1.drop 15) (callEnv F307.1 Lf 307)) Q E s := by
  obtain ⟨o1, o2⟩ := oddLe ho
  have hP : (1 : Int) ≤ 2 ^ k ∧ (2 : Int) ^ k ≤ 2 ^ 20 := by
    have h1 : 1 ≤ 2 ^ k := Nat.one_le_two_pow
    have h2 : 2 ^ k ≤ 2 ^ 20 := Nat.pow_le_pow_right (by decide) hk
    have e : ((2 ^ k : Nat) : Int) = (2 : Int) ^ k := by rw [Int.natCast_pow]; rfl
    rw [← e]; walk_at "o"
  obtain ⟨P, hPe⟩ : ∃ P : Int, P = 2 ^ k := ⟨_, rfl⟩
  dsimp only [b307, List.drop]
  walk_at "mine walk"
  refine wpAny_For ?_
  walk_at "mine walk"
  (rename St _ _ _ _ _ _ => H3; rename_i ls _ _ it _)
  have H3a := H3.pull (.tail (.tail .head))
  clear H3
  obtain ⟨g2, hg2, hfl, H4⟩ := H3a.freeze
  have hfs := ListAt.seq hfl
  refine for_loop (Lf := Lf) (L := (x, AccO dx vs) :: (dx, NsO ([("_initial_size", .int ki kr)] : Bs)) :: L)
    (bs := [("above", .int ab ta), ("written", .int W tw), ("steps", .int k ts), ("first", .int F tf), ("carry", .int p.2 tc), ("row", .ref x), ("wires", .ref wl), ("size", .int (szO o : Nat) tsz), ("odd", .int o to)])
    (iter_seq hfs) (hA.le (by decide) (by decide)) (by walk_at "mine om")
    (fun i g' (bs' : Bs) L' => bs' = ([("above", .int ab ta), ("written", .int W tw), ("steps", .int k ts), ("first", .int F tf), ("carry", .int p.2 tc), ("row", .ref x), ("wires", .ref wl), ("size", .int (szO o : Nat) tsz), ("odd", .int o to)] : Bs) ∧
      L' = (x, AccO dx vs) :: (dx, NsO ([("_initial_size", .int ki kr)] : Bs)) :: L)
    H4 ⟨rfl, rfl⟩ ?_ ?_
  · rintro i g' h' γ' t tk' bs' L' v hi hg' ht1 ht2 ⟨rfl, rfl⟩ hv H7
    try dsimp only at ht1
    obtain ⟨r, tr, rfl, hr0, hr1⟩ : ∃ r tr, v = .int r tr ∧ 0 ≤ r ∧ r ≤ 2 ^ k - 1 := by
      rw [Int.toNat_natCast] at hv
      match i, hv with
      | 0, hv => exact ⟨0, _, (Option.some.inj hv).symm, Int.le_refl _, by walk_at "o"⟩
      | 1, hv => exact ⟨2 ^ k - 1, _, (Option.some.inj hv).symm, by walk_at "o", Int.le_refl _⟩
      | j + 2, hv => cases hv
    refine wpAny_assign_Name ?_
    refine store_local H7 fun h8 H8 => ?_
    try dsimp only at H8
    have H9 := H8.perm (L' := (Lf, FrO ([("rest", .int r tr), ("above", .int ab ta), ("written", .int W tw), ("steps", .int k ts), ("first", .int F tf), ("carry", .int p.2 tc), ("row", .ref x), ("wires", .ref wl), ("size", .int (szO o : Nat) tsz), ("odd", .int o to)] : Bs)) :: (it, LiO ls (i + 1)) :: (x, AccO dx vs) :: (dx, NsO ([("_initial_size", .int ki kr)] : Bs)) :: L) (by walk_at "mine perm")
    refine restB (p := p) H9 (by walk_at "mine om") hA ho hk (by walk_at "o") (by walk_at "o") hF hW0 hW1 hr0 hr1 ?_
    intro g10 h10 γ10 tk10 htk10 hg10 H10
    try dsimp only at htk10
    refine ⟨g10, h10, γ10, tk10, _, _, rfl, hg10, by walk_at "o", ⟨rfl, rfl⟩, H10.perm (by walk_at "mine perm")⟩
  · rintro g' h' γ' tk' bs' L' hg' ht1 ⟨rfl, rfl⟩ H7a
    try dsimp only at ht1
    have H7 : St w g' γ₀ h' γ' ((Lf, FrO ([("above", .int ab ta), ("written", .int W tw), ("steps", .int k ts), ("first", .int F tf), ("carry", .int p.2 tc), ("row", .ref x), ("wires", .ref wl), ("size", .int (szO o : Nat) tsz), ("odd", .int o to)] : Bs)) :: (x, AccO dx vs) :: (dx, NsO ([("_initial_size", .int ki kr)] : Bs)) :: L) := H7a.sub (by walk_at "mine back")
    clear H7a
    walk_at "mine fin"
    refine wpAny_execs_nil ?_
    refine st16 (p := p) H7 (by walk_at "mine om") hA ho hk (by walk_at "o") (by walk_at "o") hF ?_
    intro h9 tk9 htk9 H9
    try dsimp only at htk9
    have hgg : Le g g' := hg2.trans hg'
    have H10 := H9.weak (P' := FrO ([("carry", .int p.2 tc), ("row", .ref x), ("wires", .ref wl), ("size", .int (szO o : Nat) tsz), ("odd", .int o to), ("above", .int ab ta)] : Bs)) fun o => FrO.sub (by walk_at "mine subs")
    exact partC H10 (by walk_at "mine om") hA ho hpl hab hn1 hn2 hki hki1 (hp.le hgg) (hw.le hgg) hwi hwl hw1 hwf fun g2 h2 γ2 tk2 a1 a2 a3 => hQ g2 h2 γ2 tk2 (by walk_at "mine om") (hgg.trans a2) a3
end

-- T33
noncomputable def i14 : {x : Stmt // b307.1[14]? = some x} := ⟨_, rfl⟩
theorem hsum_wrt (wf : Nat → Int) (p : List Bool × Int) : ∀ k, hsum (fun j => bi (outB wf p j)) k = wrt wf p k
  | 0 => rfl
  | k + 1 => by
    have ih := hsum_wrt wf p k
    unfold hsum wrt
    rw [ih]
    try walk_at "o"
theorem cnt_one (b : Bool) : ((cntX ⟨#[if b then 120 else 111]⟩ : Nat) : Int) = bi b := by cases b <;> decide
section
variable {prog : Program} [PrOk prog] {w : World} {A : Around} {s : Shared} {g : Heap} {γ₀ : Array GenState} {L : List Ent} {pg pd cx cd ll Lf x dx wl : Addr} {vs cvs ws : List Value} {wi : List Int} {kr kt : Nat} {o k : Nat} {M ki F W : Int} {sc : Str} {tm tw tl tz : Nat} {p p0 : List Bool × Int} {to ta tc tsz twr ts tf : Nat}
/-- the row's number -/
theorem numL_s {c : Int} {tc : Nat} {Q : Value → Shared → Prop} {E : Value → Shared → Prop} {bits : List Bool} (H : St w g γ₀ s.heap s.gens ((x, AccO dx vs) :: (dx, NsO ([("_initial_size", .int ki kr)] : Bs)) :: L)) (hs : 0 < s.toks) (hA : Ok A 7 80) (hp : Parts g vs (bits.map mk)) (hl : bits.length ≤ 10) (hw : ListAt g wl ws) (hwi : Ints ws wi) (hwl : wi.length = bits.length + 1) (hw1 : ∀ y ∈ wi, y = 0 ∨ y = 1) (hc : c.natAbs ≤ 100000)
    (hQ : ∀ (t : Nat) g' h' γ' tk', s.toks ≤ tk' → Le g g' → St w g' γ₀ h' γ' ((x, AccO dx vs) :: (dx, NsO ([("_initial_size", .int ki kr)] : Bs)) :: L) → Q (.int (num (fun i => wi.getD i 0) (bits, c)) t) { s with heap := h', gens := γ', toks := tk' }) : wpAny (model prog w) A (call (.ref 290) [.ref x, .int c tc, .ref wl]) Q E s := by
  obtain ⟨g1, l1, r, H1, back⟩ := H.lend
  refine numer_s H1 hs hA r.1 (hp.le l1) hl (hw.le l1) hwi hwl hw1 hc fun t g' h' γ' tk' htk hg H' => ?_
  obtain ⟨g3, l3, _, H3⟩ := back g' h' γ' L hg H'
  exact hQ t g3 h' γ' tk' htk l3 H3
theorem st14 {R : List Stmt} {Q : Flow → Shared → Prop} {E : Value → Shared → Prop} (H : St w g γ₀ s.heap s.gens ((Lf, FrO ([("written", .int W twr), ("steps", .int k ts), ("first", .int F tf), ("carry", .int p.2 tc), ("row", .ref x), ("wires", .ref wl), ("size", .int (szO o : Nat) tsz), ("odd", .int o to)] : Bs)) ::
      (x, AccO dx vs) :: (dx, NsO ([("_initial_size", .int ki kr)] : Bs)) :: L)) (hs : 0 < s.toks) (hA : Ok A 25 120)
    (ho : oddOk o) (hpl : p.1.length = szO o) (hpc : p.2.natAbs ≤ 100000) (hp : Parts g vs (p.1.map mk)) (hw : ListAt g wl ws) (hwi : Ints ws wi) (hwl : wi.length = szO o + 1) (hw1 : ∀ y ∈ wi, y = 0 ∨ y = 1) (hwf : (fun i => wi.getD i 0) = wfO o)
    (hQ : ∀ (t : Nat) g' h' γ' tk', s.toks ≤ tk' → Le g g' → St w g' γ₀ h' γ' ((Lf, FrO ([("above", .int (- num (wfO o) p) t), ("written", .int W twr), ("steps", .int k ts), ("first", .int F tf), ("carry", .int p.2 tc), ("row", .ref x), ("wires", .ref wl), ("size", .int (szO o : Nat) tsz), ("odd", .int o to)] : Bs)) ::
      (x, AccO dx vs) :: (dx, NsO ([("_initial_size", .int ki kr)] : Bs)) :: L) → wpAny (model prog w) A (execs R (callEnv F307.1 Lf 307)) Q E { s with heap := h', gens := γ', toks := tk' }) :
    wpAny (model prog w) A (execs (i14.1 :: R) (callEnv F307.1 Lf 307)) Q E s := by
  have hszr : 2 ≤ szO o ∧ szO o ≤ 3 := by unfold szO; split <;> decide
  dsimp only [i14]
  walk_at "mine walk"
  refine numL_s (bits := p.1) ((H.pull (.tail (.tail .head))).pull (.tail (.tail .head))) hs (hA.le (by decide) (by decide)) hp (by walk_at "o") hw hwi (by walk_at "o") hw1 hpc ?_
  intro t1 g1 h1 γ1 tk1 htk1 hg1 H1a
  have H1 := H1a.pull (.tail (.tail .head))
  clear H1a
  try dsimp only at htk1
  rw [hwf]
  walk_at "mine walk"
  rename St _ _ _ _ _ _ => H2
  exact hQ _ g1 _ γ1 _ (by walk_at "mine om") hg1 H2
end

-- T34
noncomputable def i13 : {x : Stmt // b307.1[13]? = some x} := ⟨_, rfl⟩
section
variable {prog : Program} [PrOk prog] {w : World} {A : Around} {s : Shared} {g : Heap} {γ₀ : Array GenState} {L : List Ent} {pg pd cx cd ll Lf x dx wl : Addr} {vs cvs ws : List Value} {wi : List Int} {kr kt : Nat} {o k : Nat} {M ki F W : Int} {sc : Str} {tm tw tl tz : Nat} {p p0 : List Bool × Int} {to ta tc tsz twr ts tf : Nat}
theorem st13 {R : List Stmt} {Q : Flow → Shared → Prop} {E : Value → Shared → Prop} (H : St w g γ₀ s.heap s.gens ((Lf, FrO ([("page", .ref pg), ("steps", .int k ts), ("first", .int F tf), ("carry", .int p.2 tc), ("row", .ref x), ("wires", .ref wl), ("size", .int (szO o : Nat) tsz), ("odd", .int o to)] : Bs)) ::
      pgE pg pd cx cd ll cvs [] M sc tm tw tl tz kt L)) (hs : 0 < s.toks) (hA : Ok A 25 120)
    (hk : k ≤ 20) (hp : Parts g cvs ((segB (wfO o) p0 0 k).map mk))
    (hQ : ∀ (t : Nat) g' h' γ' tk', s.toks ≤ tk' → Le g g' → St w g' γ₀ h' γ' ((Lf, FrO ([("written", .int (wrt (wfO o) p0 k) t), ("steps", .int k ts), ("first", .int F tf), ("carry", .int p.2 tc), ("row", .ref x), ("wires", .ref wl), ("size", .int (szO o : Nat) tsz), ("odd", .int o to)] : Bs)) :: L) →
      wpAny (model prog w) A (execs R (callEnv F307.1 Lf 307)) Q E { s with heap := h', gens := γ', toks := tk' }) :
    wpAny (model prog w) A (execs (i13.1 :: R) (callEnv F307.1 Lf 307)) Q E s := by
  obtain ⟨cur, hcur⟩ : ∃ cur, cur = segB (wfO o) p0 0 k := ⟨_, rfl⟩
  have hcl : cur.length = k := by rw [hcur, segB_len]; walk_at "o"
  rw [← hcur] at hp
  have hci : ∀ j, j < k → cur[j]? = some (outB (wfO o) p0 j) := fun j hj => by
    rw [hcur]; unfold segB; rw [List.getElem?_map, List.getElem?_range (by walk_at "o")]; simp
  dsimp only [i13]
  walk_at "mine walk"
  refine strA_s (L := (Lf, FrO ([("page", .ref pg), ("steps", .int k ts), ("first", .int F tf), ("carry", .int p.2 tc), ("row", .ref x), ("wires", .ref wl), ("size", .int (szO o : Nat) tsz), ("odd", .int o to)] : Bs)) :: L) (cur := cur) (H.perm (by walk_at "mine perm")) (by walk_at "mine om") (hA.le (by decide) (by decide)) hp (by walk_at "o") rfl ?_
  intro t1 cvs' lvs' kt' g1 h1 γ1 tk1 htk1 hg1 H1a
  have H1b := H1a.perm (L' := (Lf, FrO ([("page", .ref pg), ("steps", .int k ts), ("first", .int F tf), ("carry", .int p.2 tc), ("row", .ref x), ("wires", .ref wl), ("size", .int (szO o : Nat) tsz), ("odd", .int o to)] : Bs)) :: pgE pg pd cx cd ll cvs' lvs' M sc tm tw tl tz kt' L) (by walk_at "mine perm")
  have H1 : St w g1 γ₀ h1 γ1 ((Lf, FrO ([("page", .ref pg), ("steps", .int k ts), ("first", .int F tf), ("carry", .int p.2 tc), ("row", .ref x), ("wires", .ref wl), ("size", .int (szO o : Nat) tsz), ("odd", .int o to)] : Bs)) :: L) := H1b.sub (by walk_at "mine back")
  clear H1a H1b
  try dsimp only at htk1
  walk_at "mine walk"
  refine str_step H1 rfl (by rw [rowT_len]; walk_at "o") ?_ (by with_unfolding_all rfl) (by intro _; with_unfolding_all rfl)
  intro t2 h2 tk2 htk2 H2
  have hy := pick_odd cur (rowT_codes cur) (tk1 : Tok) (tk1 + 1 : Tok)
  generalize Txt.sliceBy (rowT (cur.map mk)) _ _ _ = y at hy ⊢
  have hya : y.cps.all (· < 128) = true := by
    rw [← Array.all_toList, hy, List.all_eq_true]
    intro c hc
    obtain ⟨b, _, rfl⟩ := List.mem_map.mp hc
    cases b <;> decide
  have hys : y.cps.size = k := by rw [← Array.length_toList, hy, List.length_map, hcl]
  walk_at "mine walk"
  (rename St _ _ _ _ _ _ => H3; rename_i it _)
  generalize hL0 : (Lf, FrO ([("page", .ref pg), ("steps", .int k ts), ("first", .int F tf), ("carry", .int p.2 tc), ("row", .ref x), ("wires", .ref wl), ("size", .int (szO o : Nat) tsz), ("odd", .int o to)] : Bs)) :: L = L0 at H3
  refine comp_run (L := L0) (iter_str g1 it y t2) (hA.le (by decide) (by decide)) (by walk_at "mine om") (by unfold sizeLine; walk_at "o") (by decide) rfl
    (fun i _ us L' => L' = L0 ∧ Ints us ((List.range i).map fun j => bi (outB (wfO o) p0 j))) H3 ⟨rfl, by simpa using Ints.nil⟩ ?_ ?_
  · rintro i g' h' γ' t tk' us L' v Lc acc hi hg ht1 ht2 ⟨rfl, hus⟩ ⟨c, hc, hv⟩ H8
    try dsimp only at ht1
    rw [hys] at hi
    have hcb : c = if outB (wfO o) p0 i then 120 else 111 := by
      rw [← Array.getElem?_toList, hy, List.getElem?_map, hci i hi] at hc
      exact (Option.some.inj hc).symm
    subst hcb
    subst hv
    have hxa : (⟨#[if outB (wfO o) p0 i then 120 else 111]⟩ : Str).cps.all (· < 128) = true := by cases outB (wfO o) p0 i <;> decide +kernel
    have hcn := cnt_one (outB (wfO o) p0 i)
    generalize (⟨#[if outB (wfO o) p0 i then 120 else 111]⟩ : Str) = z at hxa hcn ⊢
    refine wpAny_assign_Name ?_
    walk_at "mine walk"
    refine countOf_spec (by with_reducible assumption) (hA.le (by decide) (by decide)) hxa (by walk_at "mine om") (by walk_at "mine om") ?_
    intro t9 g9 h9 γ9 tk9 htk9 hg9 H9
    try dsimp only at htk9
    rw [hcn]
    refine ⟨g9, h9, γ9, tk9, _, _, rfl, hg9, by walk_at "o", ⟨rfl, ?_⟩, H9⟩
    rw [List.range_succ, List.map_append]
    exact hus.snoc
  · rintro g' h' γ' tk' us L' acc hg ht1 ⟨rfl, hus⟩ H8
    try dsimp only at ht1
    subst hL0
    rw [hys] at hus
    obtain ⟨g2, hg2, hfl, H9⟩ := H8.freeze
    walk_at "mine walk"
    have hul : us.length = k := by rw [hus.1]; simp
    have hb01 : ∀ j, bi (outB (wfO o) p0 j) = 0 ∨ bi (outB (wfO o) p0 j) = 1 := fun j => by cases outB (wfO o) p0 j <;> decide
    have hN : Nats us (fun j => (bi (outB (wfO o) p0 j)).toNat) := fun j hj => by
      obtain ⟨t, e⟩ := hus.2 j (bi (outB (wfO o) p0 j)) (by rw [List.getElem?_map, List.getElem?_range (by walk_at "o")]; rfl)
      refine ⟨t, e.trans ?_⟩
      congr 2
      have := hb01 j
      dsimp only
      walk_at "o"
    refine digits2int (n := 1) (F := fun j => (bi (outB (wfO o) p0 j)).toNat) (l := acc) (vs := us) H9 (hA.le (by decide) (by decide)) (by decide) (by decide) (fun j => ?_) hN (by walk_at "o") hfl ?_
    · have := hb01 j; walk_at "o"
    intro t10 g10 h10 tk10 htk10 hg10 H10
    try dsimp only at htk10
    rw [hul, dsum_hsum _ hb01, hsum_wrt]
    walk_at "mine walk"
    rename St _ _ _ _ _ _ => H11
    have H12 := H11.weak (P' := FrO ([("written", .int (wrt (wfO o) p0 k) t10), ("steps", .int k ts), ("first", .int F tf), ("carry", .int p.2 tc), ("row", .ref x), ("wires", .ref wl), ("size", .int (szO o : Nat) tsz), ("odd", .int o to)] : Bs)) fun o => FrO.sub (by walk_at "mine subs")
    exact hQ t10 g10 _ _ _ (by walk_at "mine om") (((hg1.trans hg).trans hg2).trans hg10) H12
end

-- T35
theorem wfO01 (o i : Nat) : wfO o i = 0 ∨ wfO o i = 1 := by unfold wfO; walk_at "o"
theorem wS_near (o : Nat) (bits : List Bool) (c : Int) : ∀ n : Nat, c ≤ wS (wfO o) bits c n ∧ wS (wfO o) bits c n ≤ c + n
  | 0 => by simp [wS]
  | n + 1 => by
    obtain ⟨h1, h2⟩ := wS_near o bits c n
    have h3 : 0 ≤ wfO o (bits.length - n) * bi (bits.getD n false) ∧ wfO o (bits.length - n) * bi (bits.getD n false) ≤ 1 := by
      rcases wfO01 o (bits.length - n) with e | e <;> rw [e] <;> cases bits.getD n false <;> decide
    show c ≤ wS (wfO o) bits c n + wfO o (bits.length - n) * bi (bits.getD n false) ∧ wS (wfO o) bits c n + wfO o (bits.length - n) * bi (bits.getD n false) ≤ c + ((n + 1 : Nat) : Int)
    walk_at "o"
theorem stps_carry {o : Nat} (ho : oddOk o) (p : List Bool × Int) (hl : p.1.length = szO o) (hc : p.2.natAbs ≤ 1000) : ∀ k, (stps (wfO o) k p).2.natAbs ≤ 1000
  | 0 => hc
  | k + 1 => by
    have ih := stps_carry ho p hl hc k
    have hl2 := stps_len ho p hl k
    have hszr : szO o ≤ 3 := by unfold szO; split <;> decide
    obtain ⟨h1, h2⟩ := wS_near o (stps (wfO o) k p).1 (stps (wfO o) k p).2 (stps (wfO o) k p).1.length
    show (wS (wfO o) (stps (wfO o) k p).1 (stps (wfO o) k p).2 (stps (wfO o) k p).1.length / 2).natAbs ≤ 1000
    walk_at "o"
section
variable {prog : Program} [PrOk prog] {w : World} {A : Around} {s : Shared} {g : Heap} {γ₀ : Array GenState} {L : List Ent} {Lf x dx wl : Addr} {vs ws : List Value} {wi : List Int} {kr : Nat} {o k : Nat} {ki F : Int} {p : List Bool × Int} {to tc tsz ts tf : Nat}
theorem partB {Q : Flow → Shared → Prop} {E : Value → Shared → Prop} (H : St w g γ₀ s.heap s.gens ((Lf, FrO ([("steps", .int k ts), ("first", .int F tf), ("carry", .int p.2 tc), ("row", .ref x), ("wires", .ref wl), ("size", .int (szO o : Nat) tsz), ("odd", .int o to)] : Bs)) ::
      (x, AccO dx vs) :: (dx, NsO ([("_initial_size", .int ki kr)] : Bs)) :: L)) (hs : 0 < s.toks) (hA : Ok A 25 120)
    (ho : oddOk o) (hk : k ≤ 20) (hpl : p.1.length = szO o) (hpc : p.2.natAbs ≤ 1000) (hF : F = num (wfO o) p) (hFk : F.natAbs < 2 ^ k) (hki : 0 ≤ ki) (hki1 : ki ≤ 1000) (hp : Parts g vs (p.1.map mk)) (hw : ListAt g wl ws) (hwi : Ints ws wi) (hwl : wi.length = szO o + 1) (hw1 : ∀ y ∈ wi, y = 0 ∨ y = 1) (hwf : (fun i => wi.getD i 0) = wfO o)
    (hQ : ∀ g' h' γ' tk', s.toks ≤ tk' → Le g g' → St w g' γ₀ h' γ' L → Q (.ret (.bool true)) { s with heap := h', gens := γ', toks := tk' }) :
    wpAny (model prog w) A (execs (b307.1.drop 11) (callEnv F307.1 Lf 307)) Q E s := by
  obtain ⟨o1, o2⟩ := oddLe ho
  have hszr : 2 ≤ szO o ∧ szO o ≤ 3 := by unfold szO; split <;> decide
  dsimp only [b307, List.drop]
  walk_at "mine walk"
  refine page_new (by with_reducible assumption) (hA.le (by decide) (by decide)) ?_
  intro pg pd cx cd ll tl h2 tk2 htk2 H2a
  have H2 := H2a.pull (.tail (.tail (.tail (.tail (.tail .head)))))
  clear H2a
  try dsimp only at htk2
  walk_at "mine walk"
  refine wpAny_For ?_
  walk_at "mine walk"
  (rename St _ _ _ _ _ _ => H5; rename_i rg _ _ it _)
  rw [show ((k : Int) - 0).toNat = k by walk_at "o"] at H5
  generalize htm : s.toks + 1 = tm at H5
  generalize htw : tm + 1 = tw at H5
  generalize htq : tw + 1 = tq at H5
  have H5' := H5.weak (P' := FrO ([("carry", .int (stps (wfO o) 0 p).2 tc), ("page", .ref pg), ("steps", .int k ts), ("first", .int F tf), ("row", .ref x), ("wires", .ref wl), ("size", .int (szO o : Nat) tsz), ("odd", .int o to)] : Bs)) fun o => FrO.sub (by walk_at "mine subs")
  have H6 := H5'.perm (L' := (Lf, FrO ([("carry", .int (stps (wfO o) 0 p).2 tc), ("page", .ref pg), ("steps", .int k ts), ("first", .int F tf), ("row", .ref x), ("wires", .ref wl), ("size", .int (szO o : Nat) tsz), ("odd", .int o to)] : Bs)) :: (it, RgO 0 k 1 0) :: (rg, RangeO 0 k 1) :: (x, AccO dx vs) :: (dx, NsO ([("_initial_size", .int ki kr)] : Bs)) :: pgE pg pd cx cd ll [] [] 5 ";" tm tw tl tq s.toks L) (by walk_at "mine perm")
  clear H5 H5'
  refine for_loop (Lf := Lf) (L := (rg, RangeO 0 k 1) :: (x, AccO dx vs) :: (dx, NsO ([("_initial_size", .int ki kr)] : Bs)) :: pgE pg pd cx cd ll [] [] 5 ";" tm tw tl tq s.toks L)
    (bs := ([("carry", .int (stps (wfO o) 0 p).2 tc), ("page", .ref pg), ("steps", .int k ts), ("first", .int F tf), ("row", .ref x), ("wires", .ref wl), ("size", .int (szO o : Nat) tsz), ("odd", .int o to)] : Bs))
    (iter_range g it 0 k 1) (hA.le (by decide) (by decide)) (by walk_at "mine om")
    (fun i g' (bs' : Bs) L' => ∃ vs' cvs' kt' kr' ki' t', bs' = ([("carry", .int (stps (wfO o) i p).2 t'), ("page", .ref pg), ("steps", .int k ts), ("first", .int F tf), ("row", .ref x), ("wires", .ref wl), ("size", .int (szO o : Nat) tsz), ("odd", .int o to)] : Bs) ∧
      L' = (rg, RangeO 0 k 1) :: (x, AccO dx vs') :: (dx, NsO ([("_initial_size", .int ki' kr')] : Bs)) :: pgE pg pd cx cd ll cvs' [] 5 ";" tm tw tl tq kt' L ∧
      Parts g' vs' ((stps (wfO o) i p).1.map mk) ∧ Parts g' cvs' ((segB (wfO o) p 0 i).map mk) ∧ 0 ≤ ki' ∧ ki' ≤ 1000)
    H6 ⟨vs, [], s.toks, kr, ki, tc, rfl, rfl, hp, .nil, hki, hki1⟩ ?_ ?_
  · rintro i g' h' γ' t tk' bs' L' v hi hg' ht1 ht2 ⟨vs', cvs', kt', kr', ki', t', rfl, rfl, hpv, hpc', hk0, hk1⟩ hv H7
    obtain rfl : v = .int ((i : Nat) : Int) t := by rw [hv]; congr 1; walk_at "o"
    try dsimp only at ht1
    refine wpAny_assign_Name ?_
    refine store_local H7 fun h8 H8 => ?_
    try dsimp only at H8
    have hsl := stps_len ho p hpl i
    obtain ⟨b0, bits, hB⟩ : ∃ b0 bits, (stps (wfO o) i p).1 = b0 :: bits := by
      cases q : (stps (wfO o) i p).1 with
      | nil => rw [q] at hsl; simp at hsl; walk_at "o"
      | cons b r => exact ⟨b, r, rfl⟩
    have hb0 : outB (wfO o) p i = b0 := by unfold outB; rw [hB]; rfl
    have hbl : bits.length + 1 = szO o := by rw [← hsl, hB]; rfl
    rw [hB] at hpv
    have hcl : (segB (wfO o) p 0 i).length ≤ 500 := by rw [segB_len]; walk_at "o"
    have hApp : AppOk prog w g' γ₀ pg pd cx cd ll cvs' [] 5 ";" tm tw tl tq kt' b0 _ := app1_ok hpc' hcl
    have H9 := H8.perm (L' := (Lf, FrO ([("turn", .int ((i : Nat) : Int) t), ("carry", .int (stps (wfO o) i p).2 t'), ("page", .ref pg), ("steps", .int k ts), ("first", .int F tf), ("row", .ref x), ("wires", .ref wl), ("size", .int (szO o : Nat) tsz), ("odd", .int o to)] : Bs)) :: (x, AccO dx vs') :: (dx, NsO ([("_initial_size", .int ki' kr')] : Bs)) :: pgE pg pd cx cd ll cvs' [] 5 ";" tm tw tl tq kt' ((it, RgO 0 k 1 (i + 1)) :: (rg, RangeO 0 k 1) :: L)) (by walk_at "mine perm")
    clear H8 H7
    walk_at "mine walk"
    refine step_s (dx := dx) (c := (stps (wfO o) i p).2) (b0 := b0) (bits := bits) (cvs := cvs') (lvs := []) (M := 5) (sc := ";") (vs := vs') (ki := ki') (kr := kr') (kt := kt') (L := (Lf, FrO ([("turn", .int ((i : Nat) : Int) t), ("carry", .int (stps (wfO o) i p).2 t'), ("page", .ref pg), ("steps", .int k ts), ("first", .int F tf), ("row", .ref x), ("wires", .ref wl), ("size", .int (szO o : Nat) tsz), ("odd", .int o to)] : Bs)) :: (it, RgO 0 k 1 (i + 1)) :: (rg, RangeO 0 k 1) :: L) (H9.perm (by walk_at "mine perm")) (by walk_at "mine om") (hA.le (by decide) (by decide)) hpv (by walk_at "o") (hw.le hg') hwi (by walk_at "o") hw1 hApp ?_
    intro vs2 cvs2 lvs2 kt2 t2 kr2 g1 g2 h2' γ2 tk2' htk2' hg1 hg2 hp2 hpost H10a
    try dsimp only at htk2'
    obtain ⟨hpost1, rfl⟩ := hpost
    have H10 := H10a.perm (L' := (Lf, FrO ([("turn", .int ((i : Nat) : Int) t), ("carry", .int (stps (wfO o) i p).2 t'), ("page", .ref pg), ("steps", .int k ts), ("first", .int F tf), ("row", .ref x), ("wires", .ref wl), ("size", .int (szO o : Nat) tsz), ("odd", .int o to)] : Bs)) :: (x, AccO dx vs2) :: (dx, NsO ([("_initial_size", .int 0 kr2)] : Bs)) :: pgE pg pd cx cd ll cvs2 [] 5 ";" tm tw tl tq kt2 ((it, RgO 0 k 1 (i + 1)) :: (rg, RangeO 0 k 1) :: L)) (by walk_at "mine perm")
    clear H10a
    have hst : stp (fun i => wi.getD i 0) (b0 :: bits, (stps (wfO o) i p).2) = stps (wfO o) (i + 1) p := by
      rw [hwf, ← hB]; rfl
    rw [hst] at hp2 ⊢
    walk_at "mine walk"
    rename St _ _ _ _ _ _ => H11
    have H12 := H11.weak (P' := FrO ([("carry", .int (stps (wfO o) (i + 1) p).2 t2), ("page", .ref pg), ("steps", .int k ts), ("first", .int F tf), ("row", .ref x), ("wires", .ref wl), ("size", .int (szO o : Nat) tsz), ("odd", .int o to)] : Bs)) fun o => FrO.sub (by walk_at "mine subs")
    refine ⟨g2, _, γ2, _, _, _, rfl, hg1.trans hg2, by walk_at "o", ⟨vs2, cvs2, kt2, kr2, 0, t2, rfl, rfl, hp2, ?_, by decide, by decide⟩, H12.perm (by walk_at "mine perm")⟩
    rw [segB_succ _ _ (Nat.zero_le i), hb0]
    exact hpost1.le hg2
  · rintro g' h' γ' tk' bs' L' hg' ht1 ⟨vs', cvs', kt', kr', ki', t', rfl, rfl, hpv, hpc', hk0, hk1⟩ H7a
    try dsimp only at ht1
    have H7 : St w g' γ₀ h' γ' ((Lf, FrO ([("carry", .int (stps (wfO o) k p).2 t'), ("page", .ref pg), ("steps", .int k ts), ("first", .int F tf), ("row", .ref x), ("wires", .ref wl), ("size", .int (szO o : Nat) tsz), ("odd", .int o to)] : Bs)) :: (x, AccO dx vs') :: (dx, NsO ([("_initial_size", .int ki' kr')] : Bs)) :: pgE pg pd cx cd ll cvs' [] 5 ";" tm tw tl tq kt' L) := H7a.sub (by walk_at "mine back")
    clear H7a
    walk_at "mine fin"
    refine wpAny_execs_nil ?_
    have H8 := H7.weak (P' := FrO ([("page", .ref pg), ("steps", .int k ts), ("first", .int F tf), ("carry", .int (stps (wfO o) k p).2 t'), ("row", .ref x), ("wires", .ref wl), ("size", .int (szO o : Nat) tsz), ("odd", .int o to)] : Bs)) fun o => FrO.sub (by walk_at "mine subs")
    have H9 := H8.perm (L' := (Lf, FrO ([("page", .ref pg), ("steps", .int k ts), ("first", .int F tf), ("carry", .int (stps (wfO o) k p).2 t'), ("row", .ref x), ("wires", .ref wl), ("size", .int (szO o : Nat) tsz), ("odd", .int o to)] : Bs)) :: pgE pg pd cx cd ll cvs' [] 5 ";" tm tw tl tq kt' ((x, AccO dx vs') :: (dx, NsO ([("_initial_size", .int ki' kr')] : Bs)) :: L)) (by walk_at "mine perm")
    clear H7 H8
    have hN := num_steps ho p hpl k
    obtain ⟨hn1, hn2⟩ := num_low ho p hpl k (by rw [← hF]; exact hFk)
    obtain ⟨w1, w2⟩ := wrt_range (wfO o) p k
    have hpl2 := stps_len ho p hpl k
    have hc2 := stps_carry ho p hpl hpc k
    have hgw := hw.le hg'
    refine st13 (p0 := p) (p := stps (wfO o) k p) H9 (by walk_at "mine om") hA hk hpc' ?_
    intro t13 g13 h13 γ13 tk13 htk13 hg13 H13
    try dsimp only at htk13
    refine st14 (p := stps (wfO o) k p) H13 (by walk_at "mine om") hA ho hpl2 (by walk_at "o") (hpv.le hg13) (hgw.le hg13) hwi hwl hw1 hwf ?_
    intro t14 g14 h14 γ14 tk14 htk14 hg14 H14
    try dsimp only at htk14
    refine partB3 (p := stps (wfO o) k p) (W := wrt (wfO o) p k) H14 (by walk_at "mine om") hA ho hk hpl2 rfl hn1 hn2 ?_ w1 w2 hk0 hk1 ((hpv.le hg13).le hg14) ((hgw.le hg13).le hg14) hwi hwl hw1 hwf ?_
    · rw [hF, hN, Int.mul_neg]; walk_at "o"
    · intro g2 h2 γ2 tk2 a1 a2 a3
      exact hQ g2 h2 γ2 tk2 (by walk_at "mine om") (((hg'.trans hg13).trans hg14).trans a2) a3
end

-- T36
noncomputable def i7 : {x : Stmt // b307.1[7]? = some x} := ⟨_, rfl⟩
noncomputable def i8 : {x : Stmt // b307.1[8]? = some x} := ⟨_, rfl⟩
noncomputable def i9 : {x : Stmt // b307.1[9]? = some x} := ⟨_, rfl⟩
noncomputable def i10 : {x : Stmt // b307.1[10]? = some x} := ⟨_, rfl⟩
theorem num_bound {o : Nat} (ho : oddOk o) (p : List Bool × Int) (hl : p.1.length = szO o) (hc : p.2.natAbs ≤ 1000) : (num (wfO o) p).natAbs ≤ 9000 := by
  obtain ⟨bits, c⟩ := p
  obtain ⟨a, h3, h4, q⟩ := num_mid ho hl c
  dsimp only at hc
  generalize num (wfO o) (bits, c) = n at q ⊢
  clear hl ho
  rcases q with rfl | rfl <;> walk_at "o"
theorem abs_int {prog : Program} {w : World} {A : Around} {E : Value → Shared → Prop} {s : Shared} {a : Int} {t : Tok} {Q : Value → Shared → Prop} (hq : ∀ (t' tk' : Nat), s.toks ≤ tk' → Q (.int (a.natAbs : Int) t') { s with toks := tk' }) :
    wpAny (model prog w) A (call (.builtin "abs") [.int a t]) Q E s := by
  refine wpAny_with_toks (n := s.toks) (Nat.le_refl _) (call_abs_int fun t' tk' h => ?_)
  have e : (if a < 0 then -a else a) = (a.natAbs : Int) := by split <;> walk_at "o"
  rw [e]
  exact hq _ _ h
local macro_rules | `(tactic| walk_at "call builtin:abs") => `(tactic| (k_dflt (refine' abs_int ?_; k_whole; intro t' tk' htk'; (try dsimp only at htk'))))
section
variable {prog : Program} [PrOk prog] {w : World} {A : Around} {s : Shared} {g : Heap} {γ₀ : Array GenState} {L : List Ent} {Lf x dx wl cl : Addr} {vs ws : List Value} {wi : List Int} {kr : Nat} {o : Nat} {hd0 c0 c1 : Int} {bits : List Bool} {to tsz thd t0 t1 : Nat}
theorem st710 {R : List Stmt} {Q : Flow → Shared → Prop} {E : Value → Shared → Prop} (H : St w g γ₀ s.heap s.gens ((Lf, FrO ([("row", .ref x), ("head", .int hd0 thd), ("size", .int (szO o : Nat) tsz), ("wires", .ref wl), ("odd", .int o to), ("cells", .ref cl)] : Bs)) ::
      (x, AccO dx vs) :: (dx, NsO ([("_initial_size", .int hd0 kr)] : Bs)) :: (cl, LstO [.int c0 t0, .int c1 t1]) :: L)) (hs : 0 < s.toks) (hA : Ok A 25 120)
    (ho : oddOk o) (hbl : bits.length = szO o) (hh0 : 0 ≤ hd0) (hh1 : hd0 ≤ 2) (hp : Parts g vs (bits.map mk)) (hw : ListAt g wl ws) (hwi : Ints ws wi) (hwl : wi.length = szO o + 1) (hw1 : ∀ y ∈ wi, y = 0 ∨ y = 1) (hwf : (fun i => wi.getD i 0) = wfO o)
    (hQ : ∀ (F c : Int) (k tF tC tK : Nat) g' h' γ' tk', s.toks ≤ tk' → Le g g' → c.natAbs ≤ 1000 → F = num (wfO o) (bits, c) → F.natAbs < 2 ^ k → k ≤ 20 → St w g' γ₀ h' γ' ((Lf, FrO ([("steps", .int k tK), ("first", .int F tF), ("carry", .int c tC), ("row", .ref x), ("wires", .ref wl), ("size", .int (szO o : Nat) tsz), ("odd", .int o to)] : Bs)) ::
      (x, AccO dx vs) :: (dx, NsO ([("_initial_size", .int hd0 kr)] : Bs)) :: L) → wpAny (model prog w) A (execs R (callEnv F307.1 Lf 307)) Q E { s with heap := h', gens := γ', toks := tk' }) :
    wpAny (model prog w) A (execs (i7.1 :: i8.1 :: i9.1 :: i10.1 :: R) (callEnv F307.1 Lf 307)) Q E s := by
  obtain ⟨o1, o2⟩ := oddLe ho
  have hszr : 2 ≤ szO o ∧ szO o ≤ 3 := by unfold szO; split <;> decide
  have hm0 : c1.fmod 2001 = c1 % 2001 := Int.fmod_eq_emod_of_nonneg _ (by decide)
  have hc0 : -1000 ≤ c1.fmod 2001 - 1000 ∧ c1.fmod 2001 - 1000 ≤ 1000 := by rw [hm0]; walk_at "o"
  dsimp only [i7, i8, i9, i10]
  walk_at "mine walk"
  rename St _ _ _ _ _ _ => H1
  generalize hC : c1.fmod 2001 - 1000 = C at H1 hc0 ⊢
  refine numL_s (bits := bits) ((H1.pull (.tail (.tail .head))).pull (.tail (.tail .head))) (by walk_at "mine om") (hA.le (by decide) (by decide)) hp (by walk_at "o") hw hwi (by walk_at "o") hw1 (by walk_at "o") ?_
  intro t2 g2 h2 γ2 tk2 htk2 hg2 H2a
  have H2 := H2a.pull (.tail (.tail .head))
  clear H2a
  try dsimp only at htk2
  rw [hwf]
  have hFb := num_bound (o := o) ho (bits, C) hbl (by dsimp only; walk_at "o")
  generalize hF : num (wfO o) (bits, C) = F at hFb H2 ⊢
  walk_at "mine walk"
  rename St _ _ _ _ _ _ => H3
  have hA90 : F.natAbs < 2 ^ 20 := by walk_at "o"
  refine int2digits (n := 1) H3 (hA.le (by decide) (by decide)) (by decide) (by decide) (Nat.lt_trans hA90 (by decide)) ?_
  intro dl g4 h4 tk4 ds htk4 hg4 hds H4a
  have H4 := H4a.pull (.tail .head)
  clear H4a
  try dsimp only at htk4
  have hdl : ds.length = bl F.natAbs := by rw [hds.1, Nat.add_sub_cancel, Nat.div_one]
  have hb1 := bl_le hA90
  have hb2 := bl_lt F.natAbs
  walk_at "mine walk"
  rename St _ _ _ _ _ _ => H5
  rw [hdl] at H5
  generalize hK : bl F.natAbs = k at H5 hb1 hb2 hdl
  refine rlen_s ((H5.pull (.tail (.tail (.tail .head)))).pull (.tail (.tail (.tail .head)))) (hA.le (by decide) (by decide)) ((hp.le hg2).le hg4) (pl_le _) (by rw [List.length_map]; walk_at "o") hh0 (by walk_at "o") ?_
  intro t5 g5 h5 γ5 tk5 htk5 hg5 H5a
  have H5 := H5a.pull (.tail (.tail .head))
  clear H5a
  try dsimp only at htk5
  rw [plen_mk, hbl]
  walk_at "mine walk"
  · rename _ ≠ _ => hq; exact absurd (by walk_at "o") hq
  have H6 := H5.weak (P' := FrO ([("steps", .int k (tk4 + 1)), ("first", .int F t2), ("carry", .int C (s.toks + 1 + 1 + 1 + 1)), ("row", .ref x), ("wires", .ref wl), ("size", .int (szO o : Nat) tsz), ("odd", .int o to)] : Bs)) fun o => FrO.sub (by walk_at "mine subs")
  exact hQ F C k t2 _ _ g5 h5 γ5 _ (by walk_at "o") ((hg2.trans hg4).trans hg5) (by walk_at "o") hF.symm hb2 hb1 (H6.sub (by walk_at "mine back"))
end

-- T37
noncomputable def i0 : {x : Stmt // b307.1[0]? = some x} := ⟨_, rfl⟩
noncomputable def i1 : {x : Stmt // b307.1[1]? = some x} := ⟨_, rfl⟩
noncomputable def i2 : {x : Stmt // b307.1[2]? = some x} := ⟨_, rfl⟩
noncomputable def i3 : {x : Stmt // b307.1[3]? = some x} := ⟨_, rfl⟩
noncomputable def i4 : {x : Stmt // b307.1[4]? = some x} := ⟨_, rfl⟩
noncomputable def i5 : {x : Stmt // b307.1[5]? = some x} := ⟨_, rfl⟩
noncomputable def i6 : {x : Stmt // b307.1[6]? = some x} := ⟨_, rfl⟩
noncomputable def l6 : {x : List Stmt // ∃ t i o p, b307.1[6]? = some (.For t i x o p)} := ⟨_, _, _, _, _, rfl⟩
theorem ints_of : ∀ {vs : List Value}, (∀ v ∈ vs, ∃ (n : Int) (t : Nat), v = .int n t) → ∃ xs, Ints vs xs
  | [], _ => ⟨[], Ints.nil⟩
  | v :: r, h => by
    obtain ⟨xs, h1, h2⟩ := ints_of (vs := r) fun u hu => h u (List.mem_cons_of_mem _ hu)
    obtain ⟨n, t, e⟩ := h v List.mem_cons_self
    refine ⟨n :: xs, by simp [h1], fun i y hy => ?_⟩
    cases i with
    | zero => exact ⟨t, by rw [e]; simp at hy; rw [hy]; rfl⟩
    | succ j => simpa using h2 j y (by simpa using hy)
theorem ints_pick {vs : List Value} (h : ∀ v ∈ vs, ∃ (n : Int) (t : Nat), v = .int n t) (lo hi st : Option Int) : ∃ xs, Ints (slicePick vs.toArray lo hi st).toList xs := by
  refine ints_of fun v hv => ?_
  unfold slicePick at hv
  obtain ⟨i, _, hi'⟩ := List.mem_filterMap.mp hv
  rw [List.getElem?_toArray] at hi'
  exact h v (List.mem_of_getElem? hi')
theorem bl_odd {o : Nat} (ho : oddOk o) : bl (o + 1) = szO o + 1 := by
  rcases ho with rfl | rfl | rfl | rfl | rfl | rfl <;> decide +kernel
theorem odd_lt {o : Nat} (ho : oddOk o) : o + 1 < 2 ^ (szO o + 1) := by
  rcases ho with rfl | rfl | rfl | rfl | rfl | rfl <;> decide
/-- the first row -/
noncomputable def rowB (c : Int) (n : Nat) : List Bool := (List.range n).map fun k => decide (((c.fdiv 6).fdiv (2 ^ k)).fmod 2 = 1)
theorem rowB_succ (c : Int) (n : Nat) : rowB c (n + 1) = rowB c n ++ [decide (((c.fdiv 6).fdiv (2 ^ n)).fmod 2 = 1)] := by
  unfold rowB; rw [List.range_succ, List.map_append]; rfl
theorem rowB_len (c : Int) (n : Nat) : (rowB c n).length = n := by unfold rowB; simp
noncomputable def wiO (o : Nat) : List Int := (List.range (szO o + 1)).map (wfO o)
theorem wiO_get {o : Nat} (ho : oddOk o) : (fun i => (wiO o).getD i 0) = wfO o := by
  funext i
  unfold wiO
  rw [List.getD_eq_getElem?_getD, List.getElem?_map]
  by_cases h : i < szO o + 1
  · rw [List.getElem?_range h]; rfl
  · rw [List.getElem?_eq_none (by simpa using h)]
    show (0 : Int) = wfO o i
    unfold wfO
    rw [Nat.div_eq_of_lt (Nat.lt_of_lt_of_le (odd_lt ho) (Nat.pow_le_pow_right (by decide) (by walk_at "o")))]
    rfl
section
variable {prog : Program} [PrOk prog] {w : World} {A : Around} {s : Shared} {g : Heap} {γ₀ : Array GenState} {L : List Ent} {Lf x dx wl cl sc : Addr} {vs ws ss : List Value} {wi : List Int} {kr : Nat} {o i : Nat} {hd0 c0 c1 : Int} {bits : List Bool} {to tsz thd t0 t1 tt : Nat}
theorem pushA {Q : Flow → Shared → Prop} {E : Value → Shared → Prop} (H : St w g γ₀ s.heap s.gens ((Lf, FrO ([("k", .int (i : Nat) tt), ("row", .ref x), ("head", .int hd0 thd), ("size", .int (szO o : Nat) tsz), ("wires", .ref wl), ("odd", .int o to), ("cells", .ref cl)] : Bs)) ::
      (x, AccO dx vs) :: (dx, NsO ([("_initial_size", .int hd0 kr)] : Bs)) :: (cl, LstO [.int c0 t0, .int c1 t1]) :: L)) (hs : 0 < s.toks) (hA : Ok A 25 120)
    (hi : i < 3) (hp : Parts g vs ((rowB c0 i).map mk))
    (hQ : ∀ vs' g' h' tk', s.toks ≤ tk' → Le g g' → Parts g' vs' ((rowB c0 (i + 1)).map mk) → St w g' γ₀ h' s.gens ((Lf, FrO ([("row", .ref x), ("head", .int hd0 thd), ("size", .int (szO o : Nat) tsz), ("wires", .ref wl), ("odd", .int o to), ("cells", .ref cl)] : Bs)) ::
      (x, AccO dx vs') :: (dx, NsO ([("_initial_size", .int hd0 kr)] : Bs)) :: (cl, LstO [.int c0 t0, .int c1 t1]) :: L) → Q .next { s with heap := h', toks := tk' }) :
    wpAny (model prog w) A (execs l6.1 (callEnv F307.1 Lf 307)) Q E s := by
  have hvl := hp.len
  rw [List.length_map, rowB_len] at hvl
  have hP : (1 : Int) ≤ 2 ^ (i : Int).toNat ∧ (2 : Int) ^ (i : Int).toNat ≤ 4 := by
    rw [Int.toNat_natCast]
    have h3 : i = 0 ∨ i = 1 ∨ i = 2 := by walk_at "o"
    rcases h3 with rfl | rfl | rfl <;> decide
  have hox : ((Str.ofString "ox").length : Int) = 2 := by decide +kernel
  dsimp only [l6]
  walk_at "mine walk"
  have hF01 : ((c0.fdiv 6).fdiv (2 ^ (i : Int).toNat)).fmod 2 = 0 ∨ ((c0.fdiv 6).fdiv (2 ^ (i : Int).toNat)).fmod 2 = 1 := by
    rw [Int.fmod_eq_emod_of_nonneg _ (by decide)]; walk_at "o"
  have hb : mk (decide (((c0.fdiv 6).fdiv (2 ^ (i : Int).toNat)).fmod 2 = 1)) = mk (decide (((c0.fdiv 6).fdiv (2 ^ i)).fmod 2 = 1)) := by rw [Int.toNat_natCast]
  refine ox_item hF01 ?_ (by with_unfolding_all rfl) (by intro _; with_unfolding_all rfl)
  rw [hb]
  generalize hbb : decide (((c0.fdiv 6).fdiv (2 ^ i)).fmod 2 = 1) = b
  walk_at "mine walk"
  refine push_s ((H.pull (.tail (.tail .head))).pull (.tail (.tail .head))) (hA.le (by decide) (by decide)) (by walk_at "o") ?_
  intro tp h1' h2 tk2 htk2 hg2 htp H2a
  have H2 := H2a.pull (.tail (.tail .head))
  clear H2a
  try dsimp only at htk2
  walk_at "mine walk"
  have H3 := H2.weak (P' := FrO ([("row", .ref x), ("head", .int hd0 thd), ("size", .int (szO o : Nat) tsz), ("wires", .ref wl), ("odd", .int o to), ("cells", .ref cl)] : Bs)) fun o => FrO.sub (by walk_at "mine subs")
  refine hQ _ _ h2 tk2 (by walk_at "o") hg2 ?_ H3
  rw [rowB_succ, hbb, List.map_append]
  exact (hp.le hg2).snoc ⟨tp, _, _, rfl, htp⟩
end

-- T38
theorem cells_tok {w : World} {g h : Heap} {γ₀ γ : Array GenState} {L : List Ent} {F₀ S1 S2 : Ent} {cl : Addr} {c0 c1 : Int} {t0 t1 : Nat} (H : St w g γ₀ h γ (F₀ :: (cl, LstO [.int c0 t0, .int c1 t1]) :: S1 :: S2 :: L)) :
    ∃ t0 t1 : Nat, St w g γ₀ h γ (F₀ :: (cl, LstO [.int c0 t0, .int c1 t1]) :: L) := ⟨t0, t1, H.sub (.cons_cons _ (.cons_cons _ (.cons _ (.cons _ (List.Sublist.refl L)))))⟩
theorem isList_st {w : World} {g h : Heap} {γ₀ γ : Array GenState} {L : List Ent} {l : Addr} {vs : Array Value} (x : g.IsList l vs) (H : St w g γ₀ h γ L) : h.IsList l vs := let ⟨o, e, r⟩ := x; ⟨o, H.keep _ _ e, r⟩
local macro_rules | `(tactic| walk_at "mine lst") => `(tactic| exact isList_st (by with_reducible assumption) (by with_reducible assumption))
section
variable {prog : Program} [PrOk prog] {w : World} {A : Around} {s : Shared} {g : Heap} {γ₀ : Array GenState} {L : List Ent} {Lf sc : Addr} {ss : List Value}
theorem st06 {R : List Stmt} {Q : Flow → Shared → Prop} {E : Value → Shared → Prop} (H : St w g γ₀ s.heap s.gens ((Lf, FrO ([("script", .ref sc)] : Bs)) :: L)) (hA : Ok A 25 120)
    (hsc : g.IsList sc ss.toArray) (hsl : ss.length ≤ 63) (hsi : ∀ v ∈ ss, ∃ (n : Int) (t : Nat), v = .int n t)
    (hQ : ∀ (o : Nat) (hd0 c0 c1 : Int) x dx wl cl vs ws (kr to tsz thd t0 t1 : Nat) g' h' γ' tk', s.toks < tk' → Le g g' → oddOk o → 0 ≤ hd0 → hd0 ≤ 2 → Parts g' vs ((rowB c0 (szO o)).map mk) → ListAt g' wl ws → Ints ws (wiO o) →
      St w g' γ₀ h' γ' ((Lf, FrO ([("row", .ref x), ("head", .int hd0 thd), ("size", .int (szO o : Nat) tsz), ("wires", .ref wl), ("odd", .int o to), ("cells", .ref cl)] : Bs)) ::
      (x, AccO dx vs) :: (dx, NsO ([("_initial_size", .int hd0 kr)] : Bs)) :: (cl, LstO [.int c0 t0, .int c1 t1]) :: L) → wpAny (model prog w) A (execs R (callEnv F307.1 Lf 307)) Q E { s with heap := h', gens := γ', toks := tk' }) :
    wpAny (model prog w) A (execs (i0.1 :: i1.1 :: i2.1 :: i3.1 :: i4.1 :: i5.1 :: i6.1 :: R) (callEnv F307.1 Lf 307)) Q E s := by
  obtain ⟨xs0, hI0⟩ := ints_pick hsi (some 0) none (some 2)
  obtain ⟨xs1, hI1⟩ := ints_pick hsi (some 1) none (some 2)
  dsimp only [i0, i1, i2, i3, i4, i5, i6]
  walk_at "mine walk"
  (rename St _ _ _ _ _ _ => H1b; rename_i cl _ _ _ _ _)
  obtain ⟨t0, t1, H1⟩ := cells_tok H1b
  clear H1b
  generalize (81 + xs0.sum : Int) = c0 at H1 ⊢
  generalize (995 + xs1.sum : Int) = c1 at H1 ⊢
  generalize htk : ((_ : Nat) + 1 + 1 + 1 + 1 + 1 + 1 + 1 + 1 : Nat) = tk1 at H1 ⊢
  have hr : 0 ≤ c0.fmod 6 ∧ c0.fmod 6 ≤ 5 := by rw [Int.fmod_eq_emod_of_nonneg _ (by decide)]; walk_at "o"
  obtain ⟨o, ho⟩ : ∃ o : Nat, (o : Int) = 3 + 2 * c0.fmod 6 := ⟨(3 + 2 * c0.fmod 6).toNat, by walk_at "o"⟩
  have hodd : oddOk o := by unfold oddOk; walk_at "o"
  obtain ⟨o1, o2⟩ := oddLe hodd
  have hszr : 2 ≤ szO o ∧ szO o ≤ 3 := by unfold szO; split <;> decide
  rw [← ho] at H1 ⊢
  refine iadd_s H1 (hA.le (by decide) (by decide)) ?_
  intro t2 h2 tk2 htk2 H2
  try dsimp only at htk2
  have eo : (o : Int) + 1 = ((o + 1 : Nat) : Int) := by walk_at "o"
  rw [eo]
  walk_at "mine walk"
  refine int2digits (n := 1) H2 (hA.le (by decide) (by decide)) (by decide) (by decide) (Nat.lt_of_le_of_lt (show o + 1 ≤ 14 by walk_at "o") (by decide)) ?_
  intro wl g3 h3 tk3 ws htk3 hg3 hds H3a
  have H3 := H3a.pull (.tail .head)
  clear H3a
  try dsimp only at htk3
  have hwsl : ws.length = szO o + 1 := by rw [hds.1, Nat.add_sub_cancel, Nat.div_one, bl_odd hodd]
  walk_at "mine walk"
  rename St _ _ _ _ _ _ => H4
  have ez : ((ws.length : Nat) : Int) - 1 = ((szO o : Nat) : Int) := by walk_at "o"
  rw [ez] at H4
  have hh : 0 ≤ (c0.fdiv 48).fmod 3 ∧ (c0.fdiv 48).fmod 3 ≤ 2 := by rw [Int.fmod_eq_emod_of_nonneg _ (by decide)]; walk_at "o"
  generalize (c0.fdiv 48).fmod 3 = hd0 at H4 hh ⊢
  generalize hthd : tk3 + 1 + 1 + 1 + 1 + 1 + 1 + 1 + 1 + 1 + 1 = thd at H4 ⊢
  generalize htsz : tk3 + 1 + 1 + 1 + 1 = tsz at H4 ⊢
  refine acc_new H4 (hA.le (by decide) (by decide)) ?_
  intro x dx h5 tk5 htk5 H5a
  have H5 := H5a.pull (.tail (.tail .head))
  clear H5a
  try dsimp only at htk5
  walk_at "mine walk"
  refine wpAny_For ?_
  walk_at "mine walk"
  (rename St _ _ _ _ _ _ => H6; rename_i rg _ _ it _)
  have er : (((szO o : Nat) : Int) - 0).toNat = szO o := by walk_at "o"
  rw [er] at H6
  have H6' := H6.weak (P' := FrO ([("row", .ref x), ("head", .int hd0 thd), ("size", .int (szO o : Nat) tsz), ("wires", .ref wl), ("odd", .int o tk1), ("cells", .ref cl)] : Bs)) fun o => FrO.sub (by walk_at "mine subs")
  refine for_loop (Lf := Lf) (L := (rg, RangeO 0 (szO o) 1) :: (x, AccO dx []) :: (dx, NsO ([("_initial_size", .int hd0 thd)] : Bs)) :: (wl, LstO ws) :: (cl, LstO [.int c0 t0, .int c1 t1]) :: L)
    (bs := ([("row", .ref x), ("head", .int hd0 thd), ("size", .int (szO o : Nat) tsz), ("wires", .ref wl), ("odd", .int o tk1), ("cells", .ref cl)] : Bs))
    (iter_range g3 it 0 (szO o) 1) (hA.le (by decide) (by decide)) (by walk_at "mine om")
    (fun i g' (bs' : Bs) L' => ∃ vs', bs' = ([("row", .ref x), ("head", .int hd0 thd), ("size", .int (szO o : Nat) tsz), ("wires", .ref wl), ("odd", .int o tk1), ("cells", .ref cl)] : Bs) ∧
      L' = (rg, RangeO 0 (szO o) 1) :: (x, AccO dx vs') :: (dx, NsO ([("_initial_size", .int hd0 thd)] : Bs)) :: (wl, LstO ws) :: (cl, LstO [.int c0 t0, .int c1 t1]) :: L ∧
      Parts g' vs' ((rowB c0 i).map mk))
    H6' ⟨[], rfl, rfl, .nil⟩ ?_ ?_
  · rintro i g' h' γ' t tk' bs' L' v hi hg' ht1 ht2 ⟨vs', rfl, rfl, hpv⟩ hv H7
    obtain rfl : v = .int ((i : Nat) : Int) t := by rw [hv]; congr 1; walk_at "o"
    try dsimp only at ht1
    refine wpAny_assign_Name ?_
    refine store_local H7 fun h8 H8 => ?_
    try dsimp only at H8
    have H9 := H8.perm (L' := (Lf, FrO ([("k", .int ((i : Nat) : Int) t), ("row", .ref x), ("head", .int hd0 thd), ("size", .int (szO o : Nat) tsz), ("wires", .ref wl), ("odd", .int o tk1), ("cells", .ref cl)] : Bs)) :: (x, AccO dx vs') :: (dx, NsO ([("_initial_size", .int hd0 thd)] : Bs)) :: (cl, LstO [.int c0 t0, .int c1 t1]) :: ((it, RgO 0 (szO o) 1 (i + 1)) :: (rg, RangeO 0 (szO o) 1) :: (wl, LstO ws) :: L)) (by walk_at "mine perm")
    refine pushA (wl := wl) H9 (by walk_at "mine om") hA (by walk_at "o") hpv ?_
    intro vs2 g10 h10 tk10 htk10 hg10 hp2 H10
    try dsimp only at htk10
    refine ⟨g10, h10, γ', tk10, _, _, rfl, hg10, by walk_at "o", ⟨vs2, rfl, rfl, hp2⟩, H10.perm (by walk_at "mine perm")⟩
  · rintro g' h' γ' tk' bs' L' hg' ht1 ⟨vs', rfl, rfl, hpv⟩ H7a
    try dsimp only at ht1
    have H7 : St w g' γ₀ h' γ' ((Lf, FrO ([("row", .ref x), ("head", .int hd0 thd), ("size", .int (szO o : Nat) tsz), ("wires", .ref wl), ("odd", .int o tk1), ("cells", .ref cl)] : Bs)) :: (x, AccO dx vs') :: (dx, NsO ([("_initial_size", .int hd0 thd)] : Bs)) :: (wl, LstO ws) :: (cl, LstO [.int c0 t0, .int c1 t1]) :: L) := H7a.sub (by walk_at "mine back")
    have H8 := H7.perm (L' := (wl, LstO ws) :: (Lf, FrO ([("row", .ref x), ("head", .int hd0 thd), ("size", .int (szO o : Nat) tsz), ("wires", .ref wl), ("odd", .int o tk1), ("cells", .ref cl)] : Bs)) :: (x, AccO dx vs') :: (dx, NsO ([("_initial_size", .int hd0 thd)] : Bs)) :: (cl, LstO [.int c0 t0, .int c1 t1]) :: L) (by walk_at "mine perm")
    obtain ⟨g8, hg8, hwl, H9⟩ := H8.freeze
    have hws : Ints ws (wiO o) := ⟨by rw [hwsl]; unfold wiO; simp, fun i y hy => by
      unfold wiO at hy
      rw [List.getElem?_map] at hy
      by_cases hi : i < szO o + 1
      · rw [List.getElem?_range hi] at hy
        simp only [Option.map_some, Option.some.injEq] at hy
        obtain ⟨t, e⟩ := hds.2 i (by walk_at "o")
        exact ⟨t, by rw [e, ← hy]; unfold wfO; rw [Nat.one_mul]⟩
      · rw [List.getElem?_eq_none (by simpa using hi)] at hy; cases hy⟩
    walk_at "mine fin"
    refine wpAny_execs_nil ?_
    exact hQ o hd0 c0 c1 x dx wl cl vs' ws thd tk1 tsz thd t0 t1 g8 h' γ' tk' (by walk_at "o") ((hg3.trans hg').trans hg8) hodd hh.1 hh.2 (hpv.le hg8) hwl hws H9
end

-- T39
section
variable {prog : Program} [PrOk prog] {w : World} {A : Around} {s : Shared} {g : Heap} {γ₀ : Array GenState} {L : List Ent} {sc : Addr} {ss : List Value}
theorem law_s {R : Result → Shared → Prop} (H : St w g γ₀ s.heap s.gens L) (hA : Ok A 26 123) (hsc : g.IsList sc ss.toArray) (hsl : ss.length ≤ 63) (hsi : ∀ v ∈ ss, ∃ (n : Int) (t : Nat), v = .int n t)
    (hQ : ∀ g' h' γ' tk', s.toks ≤ tk' → Le g g' → St w g' γ₀ h' γ' L → R (.ok (.ret (.bool true))) { s with heap := h', gens := γ', toks := tk' }) :
    codeAny (model prog w) A (.call (.ref 307) ⟨[.ref sc], []⟩) R s := by
  refine' code_fn (bs := [("script", .ref sc)]) F307 H hA.room ?hb ?hbind ?hcell ?hloc ?hbs ?h1 ?h2 ?h3 ?_
  walk_at "mine enter"
  intro Lf h₁ tk htk H'
  have hA' : Ok (A.deeper (callEnv F307.1 Lf 307)) 25 120 := hA.deeper
  refine st06 H' hA' hsc hsl hsi ?_
  intro o hd0 c0 c1 x dx wl cl vs ws kr to tsz thd t0 t1 g1 h1 γ1 tk1 htk1 hg1 ho hh0 hh1 hp hw hwi H1
  try dsimp only at htk1
  have hwl : (wiO o).length = szO o + 1 := by unfold wiO; simp
  have hw1 : ∀ y ∈ wiO o, y = 0 ∨ y = 1 := fun y hy => by
    unfold wiO at hy
    obtain ⟨i, _, rfl⟩ := List.mem_map.mp hy
    exact wfO01 o i
  have hwf := wiO_get ho
  refine st710 H1 (by walk_at "mine om") hA' ho (rowB_len c0 _) hh0 hh1 hp hw hwi hwl hw1 hwf ?_
  intro F c k tF tC tK g2 h2 γ2 tk2 htk2 hg2 hc hF hFk hk H2
  try dsimp only at htk2
  refine partB (p := (rowB c0 (szO o), c)) H2 (by walk_at "mine om") hA' ho hk (rowB_len c0 _) hc hF hFk hh0 (by walk_at "o") (hp.le hg2) (hw.le hg2) hwi hwl hw1 hwf ?_
  intro g3 h3 γ3 tk3 htk3 hg3 H3
  try dsimp only at htk3
  exact hQ g3 h3 γ3 tk3 (by walk_at "o") ((hg1.trans hg2).trans hg3) H3
end
/-- the start -/
theorem ns_hide {h : Heap} {ts : List Addr} {a : Addr} {m : Str → Option Value} (N : h.Ns a m) (ht : ∀ P ∈ ts, h.get? P = some (tabObj #[])) : (hideAll h ts).Ns a m := by
  obtain ⟨o, es, ep, e, r⟩ := N
  refine ⟨o, es, ep, hideAll_get _ e fun hm => ?_, r⟩
  have := ht a hm
  rw [e] at this
  obtain rfl := Option.some.inj this
  have := r.1
  cases this

-- T41
abbrev tabA : List Addr := [93, 86, 231, 238]
theorem bm_in (P : Params) : ∃ bm : Nat, nsIn (hd.heap_1 P) mainGlobals "__builtins__" = some (some (.ref bm)) := ⟨_, by k_is⟩
theorem heap_no : ∀ a ∈ tabA, a ∉ heapA := by decide
theorem lookup_mem {a : Addr} {o : Obj} : ∀ {K : Frag}, K.lookup a = some o → a ∈ K.map (·.1)
  | [], e => by cases e
  | (b, p) :: r, e => by
    rw [List.lookup_cons] at e
    split at e
    · rename_i h; rw [List.map_cons, beq_iff_eq.mp h]; exact .head _
    · rw [List.map_cons]; exact .tail _ (lookup_mem e)
theorem st_start {w : World} {h : Heap} {p : Program} {loose : List Str} {mean : ExcName → Option Value} {mg mb : Str → Option Value} (X : (hd.heap_1 w.params).In h) (T : Top p loose mean mg mb h) (ht : ∀ P ∈ tabA, h.get? P = some (tabObj #[])) :
    St w (hideAll h tabA) #[] h #[] [] := by
  have keep : ∀ a o, h.get? a = some o → o ≠ tabObj #[] → (hideAll h tabA).get? a = some o := fun a o e hn => hideAll_get _ e fun hm => hn (by
    have := ht a hm; rw [e] at this; exact Option.some.inj this)
  refine ⟨tabsL fun _ => #[], ⟨fun _ => #[], rfl, fun q _ => .inl rfl⟩, ⟨fun b o e => of_hideAll _ e, fun q hq => ?_, by decide, fun i x e => by simp at e, AllBare.empty, ?_⟩⟩
  · obtain ⟨r, hr, rfl⟩ := List.mem_map.mp hq
    have hm : r.1 ∈ tabA := by
      have : ∀ r ∈ sites, r.1 ∈ tabA := by decide
      exact this r hr
    exact ⟨⟨_, ht _ hm, rfl⟩, hideAll_none _ hm⟩
  · refine ⟨fun a o e => hideAll_get _ (X a o e) ?_, ⟨mg, ns_hide T.g ht⟩, let ⟨mc, n, z⟩ := T.nolimit; ⟨mc, ns_hide n ht, z⟩, ⟨mb, ns_hide T.b ht, T.builtins⟩, ?_⟩
    · intro hm
      have hk := lookup_mem e
      rw [← heap_as] at hk
      exact heap_no a hm hk
    · obtain ⟨bm, ob, b1, b2, b3, b4, b5, b6⟩ := T.bmain
      obtain ⟨n, hn⟩ := bm_in w.params
      have e := mg_of X T.g hn
      rw [e] at b1
      cases b1
      exact ⟨_, ob, hn, b2, keep _ _ b3 (by rintro rfl; cases b6), b4, b5, b6⟩
theorem prOk : PrOk PySem.Challenge.rw_xj0032_01.row.prog := ⟨by decide +kernel, by decide +kernel⟩
theorem ok_caller : Ok callerA 26 123 := ⟨rfl, by decide +kernel, by decide +kernel⟩
theorem ints_all {vs : List Value} {ns : List Int} (h : IntsAre vs ns) : ∀ v ∈ vs, ∃ (n : Int) (t : Nat), v = .int n t := by
  induction h with
  | nil => intro v hv; cases hv
  | cons n t _ ih =>
    intro v hv
    rcases List.mem_cons.mp hv with rfl | hv
    · exact ⟨n, t, rfl⟩
    · exact ih v hv
noncomputable def tabC : List (Addr × Addr) := [(90, 86), (97, 93), (235, 231), (242, 238)]
theorem fa_law {w : World} {h : Heap} {mg : Str → Option Value} {fa : Addr} (KX : (hd.heap_1 w.params).In h) (T : h.Ns mainGlobals mg) (hm : mg "law" = some (.ref fa)) : fa = 307 := by
  have e := mg_of KX T (n := "law") (v := .ref 307) (by k_is)
  rw [hm] at e
  injection e with e
  injection e with e
theorem endd : PySem.Challenge.rw_xj0032_01.Holds := by
  w_on
  refine holds_law ws fun said => ?_
  refine holds_open (q := viewQ) (loose := [Str.ofString "_Accumulator"]) (Xt := XtQ) (XP := XL viewQ []) (Yf := HK.obs) (Ya := HK.val) (YP := HK.says) (N := 3500) left0 HK.of HK.keeps (fun s e => xl_of s (Bool.and_eq_true_iff.mp e).1) XL.keeps (by rfl) (by rfl) (by rfl) (fun s e => recFacts_of (Bool.and_eq_true_iff.mp e).2) (by rfl) (by first | assumption | decide +kernel) (by decide +kernel) ⟨rfl, rfl, rfl, rfl, rfl, by decide +kernel⟩ ?hw ?hc
  (case hw => w_witness2)
  intro w s₀ s₁ mg mb G Y fa o pm cd doc dV kV ho hd' hcd hD hmg hg args vals as hpre hlay hrd hwl hlo
  have KX := km_in_of Y
  have hT8 := km_tabs_of Y
  refine Ground.open G ?_
  intro T B D TE TW
  try (refine guard_noD D (by decide +kernel) ?_; clear D)
  wrow_args hpre hlay hrd hwl hlo
  first | refine callC_kw (enter_call ?_) | refine enter_call ?_
  rename_i xs _ _ _ _ _ _ sc ss _ hL _ _ _ hI _ hn _
  have hS := st_start KX T hT8
  have hfa : fa = 307 := fa_law KX T.g hmg
  subst hfa
  rw [← hg] at hS
  have hlen := IntsAre.length hI
  have hsc : (hideAll s₁.heap tabA).IsList sc ss.toArray := by
    obtain ⟨o, e, q, n, d⟩ := hL
    refine ⟨o, hideAll_get _ e fun hm => ?_, q, n, d⟩
    have := hT8 sc hm
    rw [e] at this
    obtain rfl := Option.some.inj this
    cases d
  have := prOk
  refine law_s hS ok_caller hsc (by walk_at "o") (ints_all hI) ?_
  intro g' h' γ' tk' htk' hle H
  have C : ∀ c P, (c, P) ∈ tabC → CodeHd s₁.heap c P := by
    intro c P h
    rcases List.mem_cons.mp h with e | h
    · cases e; exact codeHd_of_K KX (by kernel_rfl)
    rcases List.mem_cons.mp h with e | h
    · cases e; exact codeHd_of_K KX (by kernel_rfl)
    rcases List.mem_cons.mp h with e | h
    · cases e; exact codeHd_of_K KX (by kernel_rfl)
    rcases List.mem_cons.mp h with e | h
    · cases e; exact codeHd_of_K KX (by kernel_rfl)
    cases h
  have grown : ∀ b o, b ∈ tabA → s₁.heap.get? b = some o → isCodeTable s₁.heap b ∧ o = tabObj #[] ∧ ∃ ps, h'.get? b = some (tabObj ps) := by
    intro b o hb e
    have e2 := hT8 b hb
    have hc : ∃ c, (c, b) ∈ tabC := by
      have : ∀ b ∈ tabA, ∃ q ∈ tabC, q.2 = b := by decide
      obtain ⟨q, hq, rfl⟩ := this b hb
      exact ⟨q.1, hq⟩
    obtain ⟨c, hc⟩ := hc
    have hs : ∃ q ∈ sites, q.1 = b := by
      have : ∀ b ∈ tabA, ∃ q ∈ sites, q.1 = b := by decide
      exact this b hb
    obtain ⟨q, hq, rfl⟩ := hs
    obtain ⟨ps, _, hp, _⟩ := H.site hq
    rw [e] at e2
    exact ⟨((C c _ hc).tab (hT8 _ hb)).isCodeTable, Option.some.inj e2, ps, hp⟩
  have keep : ∀ b o, b ∉ tabA → s₁.heap.get? b = some o → h'.get? b = some o := fun b o hb e => H.keep b o (hle b o (hideAll_get _ e hb))
  refine ⟨.inl ⟨.bool true, .bool true, [], rfl, fun _ => rfl, .bool _, ?_, fun _ => ⟨.nil, fun a ha => nomatch ha⟩⟩, ⟨fun b o e => ?_, fun b o e => ?_⟩, rfl, H.gb⟩
  · wrow_post
  · by_cases hb : b ∈ tabA
    · obtain ⟨ht, rfl, ps, hP⟩ := grown b o hb e
      exact .inr (.inl ⟨ht, rfl, #[], ps, rfl, by rw [Array.empty_append]; exact hP⟩)
    · exact .inl (keep b o hb e)
  · by_cases hb : b ∈ tabA
    · obtain ⟨_, _, ps, hP⟩ := grown b o hb e
      exact ⟨_, hP⟩
    · exact ⟨o, keep b o hb e⟩

end Mine
theorem PySem.Challenge.cw_xj0032_01_holds : PySem.Challenge.rw_xj0032_01.Holds :=
  Mine.endd
