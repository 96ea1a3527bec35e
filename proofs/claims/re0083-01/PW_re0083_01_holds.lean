import PyProof.Rows.All
import Wide.All
import OpenK.AllK
import Wide.FinOn
import PySem.Challenge.RW_re0083_01
set_option compiler.extract_closed false
section
open PySem PySem.W PyProof.Rows
set_option Elab.async false
set_option maxRecDepth 100000
set_option maxHeartbeats 8000000
set_option compiler.extract_closed false
theorem Mine.said1 : OpenLaw.wellSaid PySem.Challenge.rw_re0083_01 = true := by kernel_rfl
noncomputable def Mine.loose1 : List Str := (["_wall", "EMPTYSTRING", "_Accumulator", "insort_right", "bisect_right", "_MAX_STRING_SIZE", "_MOVE_COST", "_CASE_COST", "_substitution_cost", "_levenshtein_distance", "_law_order", "_law_marks", "_law_wrong_pairs", "_law_stops", "_law_laid", "_law_through_a_pile", "_law_passes"] : List String).map Str.ofString
noncomputable def Mine.prog1 : Program := view (OpenRow.toRowW PySem.Challenge.rw_re0083_01.row).prog [21]
noncomputable def Mine.head1 (H : Hook) (k1 : PySem.Challenge.rw_re0083_01.row.wellSaid = true) (hl : LeftO (OpenRow.toRowW PySem.Challenge.rw_re0083_01.row).prog Mine.prog1 Mine.loose1 (fun s => recOk (RowW.records (OpenRow.toRowW PySem.Challenge.rw_re0083_01.row)) s) H.obs H.val 1100) (hw : (OpenRow.toRowW PySem.Challenge.rw_re0083_01.row).promised) :=
  PySem.W.holds_open (r := PySem.Challenge.rw_re0083_01.row) (XP := fun _ _ => True) (YP := H.says) hl H.of H.keeps (fun _ _ => trivial) (fun _ _ _ _ _ => trivial) (by rfl) (by rfl) (by rfl) (fun s e => recFacts_of e) (by rfl) k1 (by decide +kernel) ⟨rfl, rfl, rfl, rfl, rfl, by decide +kernel⟩ hw
set_option hygiene false
section
local macro_rules | `(tactic| o_law) => `(tactic| refine holds_law Mine.said1 fun said => ?_)
local macro_rules | `(tactic| o_head (kmHook $k $a $e $_t)) => `(tactic| (refine Mine.head1 (kmHook $k $a $e [70, 161]) said ?hl ?hw ?hc; (case hl => (intro w; kernel_rfl))))
namespace Mine
open_top hd1 for PySem.Challenge.rw_re0083_01
end Mine
end

end
section
open PySem PySem.W PySem.Spec PySem.Calls PyProof.Rows
set_option Elab.async false
set_option maxRecDepth 100000
namespace Mine

/-- eliminations before a small goal -/
theorem hide {g : Prop} (h : ∀ G : Prop, (g → G) → G) : g := h g id

inductive D where
  | none | bool (b : Bool) | int (i : Int) | str (s : Str) | tup (l : List D) | obj (n : Nat) | fz (l : List D) | fn (v : Value) | rng (a b c : Int)

inductive O where
  | list (l : List D)
  | dict (l : List (Str × D))
  | acc (l : List D) (d : Nat)
  | idict

noncomputable def ImmO (o : Obj) : Prop := (o.cls = .type "tuple" ∧ ∃ vs n, o.data = .seq vs n) ∨ (o.cls = .type "code" ∧ ∃ vs, o.data = .fields vs) ∨
  (o.cls = .type "range" ∧ ∃ vs, o.data = .fields vs) ∨ (o.cls = .type "function" ∧ ∃ fd, o.data = .func fd) ∨ (∃ vs q t, o.data = .fields vs ∧ vs[1]? = some (.str q t))

structure Ctx where
  prog : Program
  w : World
  h₀ : Heap
  tabs : List Addr
  TI : Heap → Prop
  cA : Addr
  tilive : ∀ h, TI h → ∀ a ∈ tabs, ∃ o, h.get? a = some o
  tiok : ∀ h h', TI h → (∀ a o, h.get? a = some o → (a ∈ tabs ∨ ImmO o) → h'.get? a = some o) → TI h'

mutual
inductive VIn (Γ : Ctx) (h : Heap) (ρ : List Addr) : Value → D → Prop
  | none : VIn Γ h ρ .none .none
  | bool (b : Bool) : VIn Γ h ρ (.bool b) (.bool b)
  | int (i : Int) (t : Tok) : VIn Γ h ρ (.int i t) (.int i)
  | str (x : Str) (t : Tok) : VIn Γ h ρ (.str x t) (.str x)
  | tup {a : Addr} {vs : List Value} {n : Nat} {ds : List D} : h.get? a = some { cls := .type "tuple", data := .seq vs.toArray n } → VAll Γ h ρ vs ds → VIn Γ h ρ (.ref a) (.tup ds)
  | obj {a : Addr} {n : Nat} : ρ[n]? = some a → VIn Γ h ρ (.ref a) (.obj n)
  | fz {a : Addr} {vs : List Value} {n : Nat} {ds : List D} : Γ.h₀.get? a = some (listOf vs.toArray n) → VAll Γ h ρ vs ds → VIn Γ h ρ (.ref a) (.fz ds)
  | fn (v : Value) : VIn Γ h ρ v (.fn v)
  | rng {r : Addr} {a b c : Int} {t u v : Tok} : IsRange h r a b c t u v → VIn Γ h ρ (.ref r) (.rng a b c)
inductive VAll (Γ : Ctx) (h : Heap) (ρ : List Addr) : List Value → List D → Prop
  | nil : VAll Γ h ρ [] []
  | cons {v : Value} {vs : List Value} {d : D} {ds : List D} : VIn Γ h ρ v d → VAll Γ h ρ vs ds → VAll Γ h ρ (v :: vs) (d :: ds)
end

structure Ext (T ρ : List Addr) (s : Shared) (ρ' : List Addr) (s' : Shared) : Prop where
  pre : ρ <+: ρ'
  new : ∀ a ∈ ρ', a ∈ ρ ∨ s.heap.get? a = none
  keep : ∀ a o, s.heap.get? a = some o → a ∉ T → a ∉ ρ → s'.heap.get? a = some o
  imm : ∀ a o, s.heap.get? a = some o → ImmO o → s'.heap.get? a = some o
  live : ∀ a o, s.heap.get? a = some o → ∃ o', s'.heap.get? a = some o'
  os : s'.os = s.os

theorem Ext.refl (T ρ : List Addr) (s : Shared) : Ext T ρ s ρ s :=
  ⟨List.prefix_refl _, fun _ h => .inl h, fun _ _ h _ _ => h, fun _ _ h _ => h, fun _ o h => ⟨o, h⟩, rfl⟩
theorem Ext.trans {T ρ ρ₁ ρ₂ : List Addr} {s s₁ s₂ : Shared} (x : Ext T ρ s ρ₁ s₁) (y : Ext T ρ₁ s₁ ρ₂ s₂) : Ext T ρ s ρ₂ s₂ := by
  refine ⟨x.pre.trans y.pre, fun a h => ?_, fun a o h ht hr => ?_, fun a o h hi => y.imm a o (x.imm a o h hi) hi, fun a o h => ?_, y.os.trans x.os⟩
  · rcases y.new a h with h | h
    · exact x.new a h
    · refine .inr ?_
      cases q : s.heap.get? a with
      | none => rfl
      | some o => obtain ⟨o', e⟩ := x.live a o q; rw [h] at e; cases e
  · refine y.keep a o (x.keep a o h ht hr) ht fun q => ?_
    rcases x.new a q with q | q
    · exact hr q
    · rw [h] at q; cases q
  · obtain ⟨o', e⟩ := x.live a o h
    exact y.live a o' e
theorem Ext.mono {T T' ρ ρ' : List Addr} {s s' : Shared} (x : Ext T ρ s ρ' s') (h : ∀ a ∈ T, a ∈ T') : Ext T' ρ s ρ' s' :=
  ⟨x.pre, x.new, fun a o e ht hr => x.keep a o e (fun q => ht (h a q)) hr, x.imm, x.live, x.os⟩

theorem Ext.of_keep {T ρ : List Addr} {s s' : Shared} (h : ∀ a o, s.heap.get? a = some o → s'.heap.get? a = some o) (ho : s'.os = s.os) : Ext T ρ s ρ s' :=
  ⟨List.prefix_refl _, fun _ h => .inl h, fun a o e _ _ => h a o e, fun a o e _ => h a o e, fun a o e => ⟨o, h a o e⟩, ho⟩
theorem Ext.alloc {T ρ : List Addr} {s s' : Shared} {b : Addr} (hb : s.heap.get? b = none) (h : ∀ a o, s.heap.get? a = some o → s'.heap.get? a = some o) (ho : s'.os = s.os) : Ext T ρ s (ρ ++ [b]) s' :=
  ⟨List.prefix_append _ _, fun a q => (List.mem_append.mp q).elim .inl fun q => .inr (by rw [List.mem_singleton.mp q]; exact hb), fun a o e _ _ => h a o e, fun a o e _ => h a o e, fun a o e => ⟨o, h a o e⟩, ho⟩
theorem Ext.same {T ρ : List Addr} {s s' : Shared} {b : Addr} {o₀ o₁ : Obj} (hb : b ∈ T ∨ b ∈ ρ) (h : Heap.SameBut b s.heap s'.heap) (e₀ : s.heap.get? b = some o₀) (e₁ : s'.heap.get? b = some o₁) (hi : ¬ ImmO o₀) (ho : s'.os = s.os) : Ext T ρ s ρ s' := by
  refine ⟨List.prefix_refl _, fun _ h => .inl h, fun a o e ht hr => ?_, fun a o e q => ?_, fun a o e => ?_, ho⟩
  · exact (h.2 a fun q => hb.elim (fun z => ht (q ▸ z)) fun z => hr (q ▸ z)).trans e
  · by_cases q' : a = b
    · subst q'; rw [e₀] at e; cases e; exact absurd q hi
    · exact (h.2 a q').trans e
  · by_cases q' : a = b
    · subst q'; exact ⟨_, e₁⟩
    · exact ⟨o, (h.2 a q').trans e⟩

theorem prefix_get {ρ ρ' : List Addr} (h : ρ <+: ρ') {n : Nat} {a : Addr} (e : ρ[n]? = some a) : ρ'[n]? = some a := by
  obtain ⟨t, rfl⟩ := h
  rw [List.getElem?_append_left (List.getElem?_eq_some_iff.mp e).1]; exact e

theorem VIn.mono {Γ : Ctx} {ρ ρ' : List Addr} {h h' : Heap} (p : ρ <+: ρ') (im : ∀ a o, h.get? a = some o → ImmO o → h'.get? a = some o) {v : Value} {d : D} (H : VIn Γ h ρ v d) : VIn Γ h' ρ' v d :=
  VIn.rec (motive_1 := fun v d _ => VIn Γ h' ρ' v d) (motive_2 := fun vs ds _ => VAll Γ h' ρ' vs ds) .none .bool .int .str (fun g _ r => .tup (im _ _ g (.inl ⟨rfl, _, _, rfl⟩)) r) (fun g => .obj (prefix_get p g)) (fun g _ r => .fz g r) .fn (fun g => .rng (im _ _ g (.inr (.inr (.inl ⟨rfl, _, rfl⟩))))) .nil (fun _ _ a b => .cons a b) H
theorem VAll.mono {Γ : Ctx} {ρ ρ' : List Addr} {h h' : Heap} (p : ρ <+: ρ') (im : ∀ a o, h.get? a = some o → ImmO o → h'.get? a = some o) {vs : List Value} {ds : List D} (H : VAll Γ h ρ vs ds) : VAll Γ h' ρ' vs ds := by
  induction vs generalizing ds with
  | nil => cases H; exact .nil
  | cons v vs ih => cases H with | cons a r => exact .cons (a.mono p im) (ih r)
theorem VIn.ext {Γ : Ctx} {T ρ ρ' : List Addr} {s s' : Shared} (x : Ext T ρ s ρ' s') {v : Value} {d : D} (h : VIn Γ s.heap ρ v d) : VIn Γ s'.heap ρ' v d := h.mono x.pre x.imm
theorem VAll.ext {Γ : Ctx} {T ρ ρ' : List Addr} {s s' : Shared} (x : Ext T ρ s ρ' s') {vs : List Value} {ds : List D} (h : VAll Γ s.heap ρ vs ds) : VAll Γ s'.heap ρ' vs ds := h.mono x.pre x.imm
section
variable {Γ : Ctx} {h : Heap} {ρ : List Addr}
theorem VAll.length {vs : List Value} {ds : List D} (H : VAll Γ h ρ vs ds) : vs.length = ds.length := by
  induction vs generalizing ds with
  | nil => cases H; rfl
  | cons v vs ih => cases H with | cons _ r => rw [List.length_cons, List.length_cons, ih r]
theorem VAll.append {vs ws : List Value} {ds es : List D} (H : VAll Γ h ρ vs ds) (K : VAll Γ h ρ ws es) : VAll Γ h ρ (vs ++ ws) (ds ++ es) := by
  induction vs generalizing ds with
  | nil => cases H; exact K
  | cons v vs ih => cases H with | cons a r => exact .cons a (ih r)
theorem VAll.one {v : Value} {d : D} (H : VIn Γ h ρ v d) : VAll Γ h ρ [v] [d] := .cons H .nil
theorem VAll.get {vs : List Value} {ds : List D} (H : VAll Γ h ρ vs ds) {k : Nat} {d : D} (e : ds[k]? = some d) : ∃ v, vs[k]? = some v ∧ VIn Γ h ρ v d := by
  induction vs generalizing ds k with
  | nil => cases H; simp at e
  | cons v vs ih =>
    cases H with
    | cons a r =>
      cases k with
      | zero => simp at e; subst e; exact ⟨v, rfl, a⟩
      | succ k => simp at e; exact ih r e
theorem VAll.take {vs : List Value} {ds : List D} (H : VAll Γ h ρ vs ds) (k : Nat) : VAll Γ h ρ (vs.take k) (ds.take k) := by
  induction vs generalizing ds k with
  | nil => cases H; simp; exact .nil
  | cons v vs ih => cases H with | cons a r => cases k with | zero => exact .nil | succ k => exact .cons a (ih r k)
theorem VAll.drop {vs : List Value} {ds : List D} (H : VAll Γ h ρ vs ds) (k : Nat) : VAll Γ h ρ (vs.drop k) (ds.drop k) := by
  induction vs generalizing ds k with
  | nil => cases H; simp; exact .nil
  | cons v vs ih => cases H with | cons a r => cases k with | zero => exact .cons a r | succ k => exact ih r k
theorem VAll.set {vs : List Value} {ds : List D} (H : VAll Γ h ρ vs ds) {v : Value} {d : D} (hv : VIn Γ h ρ v d) (k : Nat) : VAll Γ h ρ (vs.set k v) (ds.set k d) := by
  induction vs generalizing ds k with
  | nil => cases H; simp; exact .nil
  | cons w vs ih => cases H with | cons a r => cases k with | zero => exact .cons hv r | succ k => exact .cons a (ih r k)
theorem VAll.of_get {vs : List Value} {ds : List D} (hl : vs.length = ds.length) (hg : ∀ (i : Nat) d, ds[i]? = some d → ∃ v, vs[i]? = some v ∧ VIn Γ h ρ v d) : VAll Γ h ρ vs ds := by
  induction vs generalizing ds with
  | nil => cases ds with | nil => exact .nil | cons _ _ => simp at hl
  | cons v vs ih =>
    cases ds with
    | nil => simp at hl
    | cons d ds =>
      obtain ⟨v', e, hv⟩ := hg 0 d rfl
      simp at e; subst e
      exact .cons hv (ih (by simpa using hl) fun i d' e => hg (i + 1) d' (by simpa using e))
theorem VAll.none_of {vs : List Value} {ds : List D} (H : VAll Γ h ρ vs ds) {k : Nat} (e : ds[k]? = none) : vs[k]? = none := by
  rw [List.getElem?_eq_none_iff] at e ⊢; rw [H.length]; exact e
end

inductive EAll (Γ : Ctx) (h : Heap) (ρ : List Addr) : List (Str × Value) → List (Str × D) → Prop
  | nil : EAll Γ h ρ [] []
  | cons {x : Str} {v : Value} {es : List (Str × Value)} {d : D} {ds : List (Str × D)} : VIn Γ h ρ v d → EAll Γ h ρ es ds → EAll Γ h ρ ((x, v) :: es) ((x, d) :: ds)
theorem EAll.mono {Γ : Ctx} {ρ ρ' : List Addr} {h h' : Heap} (p : ρ <+: ρ') (im : ∀ a o, h.get? a = some o → ImmO o → h'.get? a = some o) {es : List (Str × Value)} {ds : List (Str × D)} (H : EAll Γ h ρ es ds) : EAll Γ h' ρ' es ds := by
  induction H with
  | nil => exact .nil
  | cons a _ ih => exact .cons (a.mono p im) ih
noncomputable def dget (l : List (Str × D)) (x : Str) : Option D := (l.find? fun p => p.1 = x).map (·.2)
noncomputable def dset (l : List (Str × D)) (x : Str) (d : D) : List (Str × D) := if l.any (fun p => p.1 = x) then l.map (fun p => if p.1 = x then (p.1, d) else p) else l ++ [(x, d)]
theorem EAll.length {Γ : Ctx} {ρ : List Addr} {h : Heap} {es : List (Str × Value)} {ds : List (Str × D)} (H : EAll Γ h ρ es ds) : es.length = ds.length := by
  induction H with
  | nil => rfl
  | cons _ _ ih => simp [ih]
theorem EAll.get {Γ : Ctx} {ρ : List Addr} {h : Heap} {es : List (Str × Value)} {ds : List (Str × D)} (H : EAll Γ h ρ es ds) {x : Str} {d : D} (e : dget ds x = some d) : ∃ v, valueAt es x = some v ∧ VIn Γ h ρ v d := by
  induction H with
  | nil => cases e
  | @cons y v es d' ds a _ ih =>
    unfold dget at e
    unfold valueAt
    rw [List.find?_cons] at e ⊢
    by_cases q : y = x
    · simp only [q, decide_true, Option.map_some] at e ⊢
      cases e; exact ⟨v, rfl, a⟩
    · simp only [q, decide_false] at e ⊢
      exact ih e
theorem EAll.anyx {Γ : Ctx} {ρ : List Addr} {h : Heap} {es : List (Str × Value)} {ds : List (Str × D)} (H : EAll Γ h ρ es ds) (x : Str) : es.any (fun p => decide (p.1 = x)) = ds.any (fun p => decide (p.1 = x)) := by
  induction H with
  | nil => rfl
  | cons _ _ ih => simp only [List.any_cons, ih]
theorem EAll.mapset {Γ : Ctx} {ρ : List Addr} {h : Heap} {es : List (Str × Value)} {ds : List (Str × D)} (H : EAll Γ h ρ es ds) {v : Value} {d : D} (hv : VIn Γ h ρ v d) (x : Str) : EAll Γ h ρ (es.map fun kv => if kv.1 = x then (kv.1, v) else kv) (ds.map fun p => if p.1 = x then (p.1, d) else p) := by
  induction H with
  | nil => exact .nil
  | @cons y w es d' ds a r ih =>
    rw [List.map_cons, List.map_cons]
    by_cases q : y = x
    · simp only [q, if_true]; exact .cons hv ih
    · simp only [q, if_false]; exact .cons a ih
theorem EAll.snoc {Γ : Ctx} {ρ : List Addr} {h : Heap} {es : List (Str × Value)} {ds : List (Str × D)} (H : EAll Γ h ρ es ds) {v : Value} {d : D} (hv : VIn Γ h ρ v d) (x : Str) : EAll Γ h ρ (es ++ [(x, v)]) (ds ++ [(x, d)]) := by
  induction H with
  | nil => exact .cons hv .nil
  | cons a _ ih => exact .cons a ih
theorem EAll.set {Γ : Ctx} {ρ : List Addr} {h : Heap} {es : List (Str × Value)} {ds : List (Str × D)} (H : EAll Γ h ρ es ds) {v : Value} {d : D} (hv : VIn Γ h ρ v d) (x : Str) : EAll Γ h ρ (stored es x v) (dset ds x d) := by
  unfold stored dset
  rw [H.anyx x]
  split
  · exact H.mapset hv x
  · exact H.snoc hv x

noncomputable def OIn (Γ : Ctx) (h : Heap) (ρ : List Addr) (a : Addr) : O → Prop
  | .list l => ∃ vs n, h.get? a = some (listOf (List.toArray vs) n) ∧ VAll Γ h ρ vs l
  | .dict l => ∃ es, h.DictOf (strKind Γ.prog Γ.w) a es ∧ EAll Γ h ρ es l
  | .acc l d => ∃ vs n dx, h.get? a = some ⟨.ref Γ.cA, some dx, .seq (List.toArray vs) n, #[]⟩ ∧ ρ[d]? = some dx ∧ VAll Γ h ρ vs l
  | .idict => ∃ m, h.Ns a m ∧ ∀ y, y ≠ Str.ofString "_initial_size" → m y = none

structure ObjsRep (Γ : Ctx) (h : Heap) (ρ : List Addr) (objs : List O) : Prop where
  len : ρ.length = objs.length
  nodup : ρ.Nodup
  off : ∀ a ∈ ρ, Γ.h₀.get? a = none ∧ a ∉ Γ.tabs
  rel : ∀ (n : Nat) (a : Addr) (o : O), ρ[n]? = some a → objs[n]? = some o → OIn Γ h ρ a o

structure Base (Γ : Ctx) (s : Shared) : Prop where
  keep : ∀ a o, Γ.h₀.get? a = some o → s.heap.get? a = some o
  ti : Γ.TI s.heap
  gens : AllBare s.gens

noncomputable abbrev Loc := List (Str × Option D)
noncomputable def getLo (l : Loc) (x : Str) : Option D := match l with
  | [] => none
  | (y, d) :: r => if x = y then d else getLo r x
noncomputable def setLo (l : Loc) (x : Str) (d : D) : Loc := match l with
  | [] => []
  | (y, e) :: r => if x = y then (y, some d) :: r else (y, e) :: setLo r x d
theorem getLo_set (l : Loc) (x : Str) (d : D) (y : Str) (e : D) (h : getLo (setLo l x d) y = some e) : (y = x ∧ e = d) ∨ (y ≠ x ∧ getLo l y = some e) := by
  induction l with
  | nil => cases h
  | cons p r ih =>
    obtain ⟨z, q⟩ := p
    unfold setLo at h
    by_cases hx : x = z
    · rw [if_pos hx] at h
      unfold getLo at h
      by_cases hy : y = z
      · rw [if_pos hy] at h; cases h; exact .inl ⟨hy.trans hx.symm, rfl⟩
      · rw [if_neg hy] at h
        refine .inr ⟨fun e => hy (e.trans hx), ?_⟩
        unfold getLo; rw [if_neg hy]; exact h
    · rw [if_neg hx] at h
      unfold getLo at h
      by_cases hy : y = z
      · rw [if_pos hy] at h
        refine .inr ⟨fun e => hx (e.symm.trans hy), ?_⟩
        unfold getLo; rw [if_pos hy]; exact h
      · rw [if_neg hy] at h
        rcases ih h with q | q
        · exact .inl q
        · refine .inr ⟨q.1, ?_⟩
          unfold getLo; rw [if_neg hy]; exact q.2

noncomputable def Reads (env : Env) (h : Heap) (x : Str) (v : Value) : Prop :=
  (env.kindOf x = some .local ∧ ∃ m, h.Ns env.locals m ∧ m x = some v) ∨
  ((env.kindOf x = some .cell ∨ env.kindOf x = some .free) ∧ ∃ c, env.cells.lookup x = some c ∧ h.IsCell c (some v))

structure FrOk (Γ : Ctx) (env : Env) (own : List Addr) (h : Heap) (ρ : List Addr) (loc : Loc) : Prop where
  kind : env.scope.kind = .function
  glob : env.globals = mainGlobals
  blt : env.builtins = builtinsNs
  ns : ∃ m, h.Ns env.locals m
  mem : env.locals ∈ own
  cell : ∀ x, env.kindOf x = some .cell → ∃ c, env.cells.lookup x = some c ∧ c ∈ own
  cells : ∀ x c, env.cells.lookup x = some c → c ≠ env.locals ∧ c ∉ ρ ∧ c ∉ Γ.tabs ∧ ∃ v, h.IsCell c v
  apart : ∀ x y c, env.kindOf x = some .cell → env.cells.lookup x = some c → env.cells.lookup y = some c → x = y
  ownk : ∀ a ∈ own, a ∉ ρ ∧ a ∉ Γ.tabs ∧ Γ.h₀.get? a = none ∧ ∃ o, h.get? a = some o
  loc : ∀ x d, getLo loc x = some d → ∃ v, Reads env h x v ∧ VIn Γ h ρ v d

structure Rep (Γ : Ctx) (env : Env) (own ρ : List Addr) (loc : Loc) (objs : List O) (s : Shared) : Prop where
  base : Base Γ s
  fr : FrOk Γ env own s.heap ρ loc
  objs : ObjsRep Γ s.heap ρ objs

noncomputable abbrev NoE : Value → Shared → Prop := fun _ _ => False

theorem ty_ne {a b : String} (h : a ≠ b) : Value.type a ≠ Value.type b := fun e => h (Value.type.inj e)
theorem nodup_inj {l : List Addr} (h : l.Nodup) {i j : Nat} {a : Addr} (hi : l[i]? = some a) (hj : l[j]? = some a) : i = j := by
  induction l generalizing i j with
  | nil => simp at hi
  | cons b l ih =>
    rw [List.nodup_cons] at h
    cases i with
    | zero =>
      cases j with
      | zero => rfl
      | succ j => simp at hi hj; subst hi; exact absurd (List.mem_of_getElem? hj) h.1
    | succ i =>
      cases j with
      | zero => simp at hi hj; subst hj; exact absurd (List.mem_of_getElem? hi) h.1
      | succ j => simp at hi hj; rw [ih h.2 hi hj]
theorem OIn.mono {Γ : Ctx} {ρ ρ' : List Addr} {h h' : Heap} (p : ρ <+: ρ') (im : ∀ a o, h.get? a = some o → ImmO o → h'.get? a = some o) {a : Addr} {o : O} (H : OIn Γ h ρ a o) (e : ∀ ob, h.get? a = some ob → h'.get? a = some ob) : OIn Γ h' ρ' a o := by
  cases o with
  | list l => obtain ⟨vs, n, h, r⟩ := H; exact ⟨vs, n, e _ h, r.mono p im⟩
  | dict l => obtain ⟨es, ⟨o, x, y, ho, q⟩, r⟩ := H; exact ⟨es, ⟨o, x, y, e _ ho, q⟩, r.mono p im⟩
  | acc l d => obtain ⟨vs, n, dx, h, q, r⟩ := H; exact ⟨vs, n, dx, e _ h, prefix_get p q, r.mono p im⟩
  | idict => obtain ⟨m, hm, q⟩ := H; exact ⟨m, hm.at' e, q⟩
theorem OIn.ext {Γ : Ctx} {T ρ ρ' : List Addr} {s s' : Shared} (x : Ext T ρ s ρ' s') {a : Addr} {o : O} (H : OIn Γ s.heap ρ a o) (e : ∀ ob, s.heap.get? a = some ob → s'.heap.get? a = some ob) : OIn Γ s'.heap ρ' a o := H.mono x.pre x.imm e
theorem not_imm {o : Obj} {T : String} (hc : o.cls = .type T) (h : (T != "tuple" && T != "code" && T != "range" && T != "function") = true) (hf : ∀ vs q t, o.data = .fields vs → vs[1]? = some (.str q t) → False) : ¬ ImmO o := by
  rw [Bool.and_eq_true, Bool.and_eq_true, Bool.and_eq_true, bne_iff_ne, bne_iff_ne, bne_iff_ne, bne_iff_ne] at h
  obtain ⟨⟨⟨h1, h2⟩, h3⟩, h4⟩ := h
  have go : ∀ S : String, T ≠ S → o.cls = .type S → False := fun S n q => by rw [hc] at q; cases q; exact n rfl
  exact fun i => i.elim (fun q => go _ h1 q.1) fun i => i.elim (fun q => go _ h2 q.1) fun i => i.elim (fun q => go _ h3 q.1) fun i => i.elim (fun q => go _ h4 q.1) fun ⟨_, _, _, e, e2⟩ => hf _ _ _ e e2
theorem not_imm_data {o : Obj} (h : ∀ vs, o.data ≠ .fields vs) (h2 : ∀ fd, o.data ≠ .func fd) (h3 : ∀ vs n, o.data = .seq vs n → o.cls ≠ .type "tuple") : ¬ ImmO o :=
  fun i => i.elim (fun ⟨q, _, _, e⟩ => h3 _ _ e q) fun i => i.elim (fun ⟨_, _, e⟩ => h _ e) fun i => i.elim (fun ⟨_, _, e⟩ => h _ e) fun i => i.elim (fun ⟨_, _, e⟩ => h2 _ e) fun ⟨_, _, _, e, _⟩ => h _ e
theorem OIn.get {Γ : Ctx} {h : Heap} {ρ : List Addr} {a : Addr} {o : O} (H : OIn Γ h ρ a o) : ∃ ob, h.get? a = some ob ∧ ¬ ImmO ob := by
  cases o with
  | list l =>
    obtain ⟨vs, n, h, r⟩ := H
    exact ⟨_, h, not_imm rfl rfl fun _ _ _ e _ => nomatch e⟩
  | dict l =>
    obtain ⟨es, ⟨o, x, y, ho, hx, hd, _⟩, r⟩ := H
    exact ⟨_, ho, not_imm hx.1 rfl fun _ _ _ e _ => by simp_all⟩
  | acc l d =>
    obtain ⟨vs, n, dx, h, q, r⟩ := H
    exact ⟨_, h, not_imm_data (fun _ e => nomatch e) (fun _ e => nomatch e) fun _ _ _ e => nomatch e⟩
  | idict =>
    obtain ⟨m, ⟨o, es, ep, ho, hd, _⟩, q⟩ := H
    exact ⟨_, ho, not_imm_data (fun _ e => by rw [hd] at e; cases e) (fun _ e => by rw [hd] at e; cases e) fun _ _ e => by rw [hd] at e; cases e⟩
section
variable {Γ : Ctx} {T ρ ρ' : List Addr} {s s' : Shared} {objs : List O}
theorem ObjsRep.keep (H : ObjsRep Γ s.heap ρ objs) (k : ∀ a o, s.heap.get? a = some o → s'.heap.get? a = some o) : ObjsRep Γ s'.heap ρ objs := by
  refine ⟨H.len, H.nodup, H.off, fun n a o e1 e2 => ?_⟩
  have x : Ext [] ρ s ρ { s with heap := s'.heap } := Ext.of_keep k rfl
  exact (H.rel n a o e1 e2).ext x (k a)
theorem ObjsRep.set (H : ObjsRep Γ s.heap ρ objs) (x : Ext T ρ s ρ s') {n : Nat} {a : Addr} (hn : ρ[n]? = some a) (hs : Heap.SameBut a s.heap s'.heap) {o' : O} (ho : OIn Γ s'.heap ρ a o') : ObjsRep Γ s'.heap ρ (objs.set n o') := by
  refine ⟨by rw [List.length_set]; exact H.len, H.nodup, H.off, fun k b o e1 e2 => ?_⟩
  by_cases q : k = n
  · subst q
    rw [hn] at e1; cases e1
    have hlt : k < objs.length := by rw [← H.len]; exact (List.getElem?_eq_some_iff.mp hn).1
    rw [List.getElem?_set_self hlt] at e2
    cases e2; exact ho
  · rw [List.getElem?_set_ne (Ne.symm q)] at e2
    refine (H.rel k b o e1 e2).ext x fun ob h => (hs.2 b fun z => q ?_).trans h
    subst z
    exact nodup_inj H.nodup e1 hn
theorem ObjsRep.mem {n : Nat} {o : O} (H : ObjsRep Γ s.heap ρ objs) (e : objs[n]? = some o) : ∃ a, ρ[n]? = some a ∧ a ∈ ρ ∧ OIn Γ s.heap ρ a o := by
  have hlt : n < ρ.length := by rw [H.len]; exact (List.getElem?_eq_some_iff.mp e).1
  have h := List.getElem?_eq_some_iff.mpr ⟨hlt, rfl⟩
  exact ⟨ρ[n], h, List.mem_of_getElem? h, H.rel n _ o h e⟩
theorem ObjsRep.alloc (H : ObjsRep Γ s.heap ρ objs) (k : ∀ a o, s.heap.get? a = some o → s'.heap.get? a = some o) {b : Addr} (hb : s.heap.get? b = none) (h₀ : Γ.h₀.get? b = none) (ht : b ∉ Γ.tabs) {o : O} (ho : OIn Γ s'.heap (ρ ++ [b]) b o) : ObjsRep Γ s'.heap (ρ ++ [b]) (objs ++ [o]) := by
  have x : Ext [] ρ s (ρ ++ [b]) { s with heap := s'.heap } := Ext.alloc hb k rfl
  have hbn : b ∉ ρ := fun q => by
    obtain ⟨n, hn⟩ := List.mem_iff_getElem?.mp q
    have hlt : n < objs.length := by rw [← H.len]; exact (List.getElem?_eq_some_iff.mp hn).1
    obtain ⟨ob, e, _⟩ := (H.rel n b objs[n] hn (List.getElem?_eq_some_iff.mpr ⟨hlt, rfl⟩)).get
    rw [hb] at e; cases e
  refine ⟨by simp [H.len], ?_, fun a q => ?_, fun n a o' e1 e2 => ?_⟩
  · rw [List.nodup_append]
    refine ⟨H.nodup, by simp, fun a ha c hc => ?_⟩
    rw [List.mem_singleton.mp hc]; exact fun e => hbn (e ▸ ha)
  · rcases List.mem_append.mp q with q | q
    · exact H.off a q
    · rw [List.mem_singleton.mp q]; exact ⟨h₀, ht⟩
  · by_cases hlt : n < ρ.length
    · rw [List.getElem?_append_left hlt] at e1
      rw [List.getElem?_append_left (H.len ▸ hlt)] at e2
      exact (H.rel n a o' e1 e2).ext x (k a)
    · have hge : ρ.length ≤ n := Nat.le_of_not_lt hlt
      rw [List.getElem?_append_right hge] at e1
      rw [List.getElem?_append_right (H.len ▸ hge)] at e2
      have : n - ρ.length = 0 := by
        rcases Nat.eq_zero_or_pos (n - ρ.length) with z | z
        · exact z
        · rw [List.getElem?_eq_none (by show 1 ≤ n - ρ.length; omega)] at e1; cases e1
      rw [this] at e1
      rw [← H.len, this] at e2
      simp at e1 e2
      subst e1; subst e2; exact ho
end

theorem Reads.keep {env : Env} {h h' : Heap} {x : Str} {v : Value} (H : Reads env h x v) (hL : ∀ o, h.get? env.locals = some o → h'.get? env.locals = some o) (hc : ∀ c o, env.cells.lookup x = some c → h.get? c = some o → h'.get? c = some o) : Reads env h' x v := by
  rcases H with ⟨k, m, hm, e⟩ | ⟨k, c, hl, o, ho, hd⟩
  · exact .inl ⟨k, m, hm.at' hL, e⟩
  · exact .inr ⟨k, c, hl, o, hc c o hl ho, hd⟩

theorem FrOk.ext {Γ : Ctx} {env : Env} {own ρ ρ' : List Addr} {loc : Loc} {s s' : Shared} (H : FrOk Γ env own s.heap ρ loc) (x : Ext Γ.tabs ρ s ρ' s') : FrOk Γ env own s'.heap ρ' loc := by
  have off : ∀ a, a ∉ ρ → (∃ o, s.heap.get? a = some o) → a ∉ ρ' := fun a h1 ⟨o, h2⟩ h3 => (x.new a h3).elim h1 fun e => by rw [h2] at e; cases e
  have kL : ∀ o, s.heap.get? env.locals = some o → s'.heap.get? env.locals = some o := fun o e => x.keep _ _ e (H.ownk _ H.mem).2.1 (H.ownk _ H.mem).1
  have kc : ∀ y c o, env.cells.lookup y = some c → s.heap.get? c = some o → s'.heap.get? c = some o := fun y c o hl e => x.keep _ _ e (H.cells y c hl).2.2.1 (H.cells y c hl).2.1
  refine ⟨H.kind, H.glob, H.blt, ?_, H.mem, H.cell, fun y c hl => ?_, H.apart, fun a ha => ?_, fun y d hd => ?_⟩
  · obtain ⟨m, hm⟩ := H.ns; exact ⟨m, hm.at' kL⟩
  · obtain ⟨h1, h2, h3, v, o, ho, hv⟩ := H.cells y c hl
    exact ⟨h1, off c h2 ⟨o, ho⟩, h3, v, o, kc y c o hl ho, hv⟩
  · obtain ⟨h1, h2, h3, o, ho⟩ := H.ownk a ha
    exact ⟨off a h1 ⟨o, ho⟩, h2, h3, o, x.keep a o ho h2 h1⟩
  · obtain ⟨v, hv, hi⟩ := H.loc y d hd
    exact ⟨v, hv.keep kL fun c o hl e => kc y c o hl e, hi.ext x⟩

theorem Rep.step {Γ : Ctx} {env : Env} {own ρ ρ' : List Addr} {loc : Loc} {objs objs' : List O} {s s' : Shared} (R : Rep Γ env own ρ loc objs s) (x : Ext Γ.tabs ρ s ρ' s') (b : Base Γ s') (o : ObjsRep Γ s'.heap ρ' objs') : Rep Γ env own ρ' loc objs' s' :=
  ⟨b, R.fr.ext x, o⟩

theorem Base.keepAll {Γ : Ctx} {s s' : Shared} (b : Base Γ s) (k : ∀ a o, s.heap.get? a = some o → s'.heap.get? a = some o) (hg : s'.gens = s.gens) : Base Γ s' :=
  ⟨fun a o e => k a o (b.keep a o e), Γ.tiok _ _ b.ti fun a o e _ => k a o e, hg ▸ b.gens⟩

theorem Rep.keepAll {Γ : Ctx} {env : Env} {own ρ : List Addr} {loc : Loc} {objs : List O} {s s' : Shared} (R : Rep Γ env own ρ loc objs s) (k : ∀ a o, s.heap.get? a = some o → s'.heap.get? a = some o) (hg : s'.gens = s.gens) (ho : s'.os = s.os) : Rep Γ env own ρ loc objs s' :=
  R.step (Ext.of_keep k ho) (R.base.keepAll k hg) (R.objs.keep k)

theorem Base.same {Γ : Ctx} {s s' : Shared} (b : Base Γ s) {a : Addr} {o₀ : Obj} (h : Heap.SameBut a s.heap s'.heap) (e : s.heap.get? a = some o₀) (hi : ¬ ImmO o₀) (h0 : Γ.h₀.get? a = none) (ht : a ∉ Γ.tabs) (hg : s'.gens = s.gens) : Base Γ s' := by
  refine ⟨fun c o q => (h.2 c fun z => ?_).trans (b.keep c o q), Γ.tiok _ _ b.ti fun c o q r => (h.2 c fun z => ?_).trans q, hg ▸ b.gens⟩
  · subst z; rw [h0] at q; cases q
  · subst z
    rcases r with r | r
    · exact ht r
    · rw [e] at q; cases q; exact hi r

end Mine

end
section
open PySem PySem.W PySem.Spec PySem.Calls PyProof.Rows
set_option Elab.async false
set_option maxRecDepth 100000
namespace Mine

noncomputable abbrev Post := D → List O → Prop
noncomputable abbrev Pf := List D → List O → Post → Prop

noncomputable def Done (Γ : Ctx) (ρ : List Addr) (s : Shared) (Q : Post) (Q' : Value → Shared → Prop) : Prop :=
  ∀ d objs' ρ' v s', Q d objs' → Base Γ s' → ObjsRep Γ s'.heap ρ' objs' → Ext Γ.tabs ρ s ρ' s' → VIn Γ s'.heap ρ' v d → Q' v s'

noncomputable def PS (Γ : Ctx) (A : Around) (t : List Value → Sem Value) (f : Pf) : Prop :=
  ∀ ds objs Q s ρ vs Q', Base Γ s → ObjsRep Γ s.heap ρ objs → f ds objs Q → VAll Γ s.heap ρ vs ds → Done Γ ρ s Q Q' → wpAny (model Γ.prog Γ.w) A (t vs) Q' NoE s

section
variable {Γ : Ctx} {A : Around} {ρ : List Addr} {s : Shared} {objs : List O} {Q : Post} {Q' : Value → Shared → Prop}
theorem Base.toks (b : Base Γ s) (k : Nat) : Base Γ { s with toks := k } := ⟨b.keep, b.ti, b.gens⟩
theorem Done.toks (h : Done Γ ρ s Q Q') (b : Base Γ s) (o : ObjsRep Γ s.heap ρ objs) {d : D} {v : Value} (k : Nat) (hq : Q d objs) (hv : VIn Γ s.heap ρ v d) : Q' v { s with toks := k } :=
  h d objs ρ v _ hq (b.toks k) o (Ext.of_keep (fun _ _ e => e) rfl) hv
theorem Done.same (h : Done Γ ρ s Q Q') (b : Base Γ s) (o : ObjsRep Γ s.heap ρ objs) {d : D} {v : Value} (hq : Q d objs) (hv : VIn Γ s.heap ρ v d) : Q' v s :=
  h d objs ρ v _ hq b o (Ext.refl _ _ _) hv

theorem fresh_none (h : Heap) : h.get? h.objs.size = none := by
  cases e : h.get? h.objs.size with
  | none => rfl
  | some o => exact absurd (Heap.lt_size e) (Nat.lt_irrefl _)
theorem fresh_base (b : Base Γ s) : Γ.h₀.get? s.heap.objs.size = none := by
  cases e : Γ.h₀.get? s.heap.objs.size with
  | none => rfl
  | some o => have := b.keep _ _ e; rw [fresh_none] at this; cases this

theorem fresh_tab (b : Base Γ s) : s.heap.objs.size ∉ Γ.tabs := fun q => by
  obtain ⟨o, e⟩ := Γ.tilive _ b.ti _ q
  exact absurd (Heap.lt_size e) (Nat.lt_irrefl _)
theorem keep_push (h : Heap) (ob : Obj) : ∀ a o, h.get? a = some o → (h.push ob).get? a = some o := fun _ _ e => Heap.get?_push_of_some ob e
theorem Base.push (b : Base Γ s) (ob : Obj) (k : Nat) : Base Γ { s with heap := s.heap.push ob, toks := k } := b.keepAll (s' := { s with heap := s.heap.push ob, toks := k }) (keep_push _ _) rfl
theorem ObjsRep.pushed (o : ObjsRep Γ s.heap ρ objs) (ob : Obj) : ObjsRep Γ (s.heap.push ob) ρ objs := o.keep (s' := { s with heap := s.heap.push ob }) (keep_push _ _)

theorem Done.newList (h : Done Γ ρ s Q Q') (b : Base Γ s) (o : ObjsRep Γ s.heap ρ objs) {vs : List Value} {l : List D} (hv : VAll Γ s.heap ρ vs l) (k : Nat) (hq : Q (.obj objs.length) (objs ++ [.list l])) :
    Q' (.ref s.heap.objs.size) { s with heap := s.heap.push { cls := .type "list", data := .seq vs.toArray }, toks := k } := by
  have x : Ext Γ.tabs ρ s (ρ ++ [s.heap.objs.size]) { s with heap := s.heap.push { cls := .type "list", data := .seq vs.toArray }, toks := k } := Ext.alloc (fresh_none _) (keep_push _ _) rfl
  refine h _ _ (ρ ++ [s.heap.objs.size]) _ _ hq (b.push _ k) ?_ x (.obj (by rw [List.getElem?_append_right (Nat.le_of_eq o.len), o.len, Nat.sub_self]; rfl))
  exact o.alloc (s' := { s with heap := s.heap.push { cls := .type "list", data := .seq vs.toArray }, toks := k }) (keep_push _ _) (fresh_none _) (fresh_base b) (fresh_tab b) ⟨vs, 0, Heap.get?_push_size _ rfl, hv.ext x⟩
theorem Done.newTup (h : Done Γ ρ s Q Q') (b : Base Γ s) (o : ObjsRep Γ s.heap ρ objs) {vs : List Value} {l : List D} (hv : VAll Γ s.heap ρ vs l) (k : Nat) (hq : Q (.tup l) objs) :
    Q' (.ref s.heap.objs.size) { s with heap := s.heap.push { cls := .type "tuple", data := .seq vs.toArray }, toks := k } := by
  have x : Ext Γ.tabs ρ s ρ { s with heap := s.heap.push { cls := .type "tuple", data := .seq vs.toArray }, toks := k } := Ext.of_keep (keep_push _ _) rfl
  exact h _ _ ρ _ _ hq (b.push _ k) (o.pushed _) x (.tup (Heap.get?_push_size _ rfl) (hv.ext x))
/-- an object of the store is changed -/
theorem Done.change (h : Done Γ ρ s Q Q') (b : Base Γ s) (o : ObjsRep Γ s.heap ρ objs) {n : Nat} {a : Addr} {o₀ o' : O} (hn : ρ[n]? = some a) (he : objs[n]? = some o₀) {h' : Heap} (k : Nat) (hs : Heap.SameBut a s.heap h') {ob : Obj} (hob : h'.get? a = some ob)
    (ho' : ∀ T, Ext T ρ s ρ { s with heap := h', toks := k } → OIn Γ h' ρ a o') {d : D} {v : Value} (hv : VIn Γ s.heap ρ v d) (hq : Q d (objs.set n o')) : Q' v { s with heap := h', toks := k } := by
  obtain ⟨ob₀, e₀, hi⟩ := (o.rel n a o₀ hn he).get
  have ha := List.mem_of_getElem? hn
  have x : Ext Γ.tabs ρ s ρ { s with heap := h', toks := k } := Ext.same (.inr ha) hs e₀ hob hi rfl
  exact h _ _ ρ _ _ hq (b.same (s' := { s with heap := h', toks := k }) hs e₀ hi (o.off a ha).1 (o.off a ha).2 rfl) (o.set x hn hs (ho' _ x)) x (hv.ext x)
end

theorem VIn.int_inv {Γ : Ctx} {h : Heap} {ρ : List Addr} {v : Value} {i : Int} (H : VIn Γ h ρ v (.int i)) : ∃ t, v = .int i t := by cases H; exact ⟨_, rfl⟩
theorem VIn.str_inv {Γ : Ctx} {h : Heap} {ρ : List Addr} {v : Value} {x : Str} (H : VIn Γ h ρ v (.str x)) : ∃ t, v = .str x t := by cases H; exact ⟨_, rfl⟩
theorem VIn.none_inv {Γ : Ctx} {h : Heap} {ρ : List Addr} {v : Value} (H : VIn Γ h ρ v .none) : v = .none := by cases H; rfl
theorem VIn.fn_inv {Γ : Ctx} {h : Heap} {ρ : List Addr} {v u : Value} (H : VIn Γ h ρ v (.fn u)) : v = u := by cases H; rfl
theorem VIn.obj_inv {Γ : Ctx} {h : Heap} {ρ : List Addr} {v : Value} {n : Nat} (H : VIn Γ h ρ v (.obj n)) : ∃ a, v = .ref a ∧ ρ[n]? = some a := by cases H; exact ⟨_, rfl, by assumption⟩
theorem VIn.tup_inv {Γ : Ctx} {h : Heap} {ρ : List Addr} {v : Value} {l : List D} (H : VIn Γ h ρ v (.tup l)) : ∃ a vs n, v = .ref a ∧ h.get? a = some { cls := .type "tuple", data := .seq vs.toArray n } ∧ VAll Γ h ρ vs l := by cases H; exact ⟨_, _, _, rfl, by assumption, by assumption⟩
theorem VAll.nil_inv {Γ : Ctx} {h : Heap} {ρ : List Addr} {vs : List Value} (H : VAll Γ h ρ vs []) : vs = [] := by cases H; rfl
theorem VAll.cons_inv {Γ : Ctx} {h : Heap} {ρ : List Addr} {vs : List Value} {d : D} {l : List D} (H : VAll Γ h ρ vs (d :: l)) : ∃ v r, vs = v :: r ∧ VIn Γ h ρ v d ∧ VAll Γ h ρ r l := by cases H; exact ⟨_, _, rfl, by assumption, by assumption⟩
theorem VAll.inv1 {Γ : Ctx} {h : Heap} {ρ : List Addr} {vs : List Value} {d : D} (H : VAll Γ h ρ vs [d]) : ∃ v, vs = [v] ∧ VIn Γ h ρ v d := by
  obtain ⟨v, r, rfl, h1, h2⟩ := H.cons_inv
  exact ⟨v, by rw [h2.nil_inv], h1⟩
theorem VAll.inv2 {Γ : Ctx} {h : Heap} {ρ : List Addr} {vs : List Value} {d e : D} (H : VAll Γ h ρ vs [d, e]) : ∃ v w, vs = [v, w] ∧ VIn Γ h ρ v d ∧ VIn Γ h ρ w e := by
  obtain ⟨v, r, rfl, h1, h2⟩ := H.cons_inv
  obtain ⟨w, rfl, h3⟩ := h2.inv1
  exact ⟨v, w, rfl, h1, h3⟩
theorem VAll.inv3 {Γ : Ctx} {h : Heap} {ρ : List Addr} {vs : List Value} {d e f : D} (H : VAll Γ h ρ vs [d, e, f]) : ∃ v w u, vs = [v, w, u] ∧ VIn Γ h ρ v d ∧ VIn Γ h ρ w e ∧ VIn Γ h ρ u f := by
  obtain ⟨v, r, rfl, h1, h2⟩ := H.cons_inv
  obtain ⟨w, u, rfl, h3, h4⟩ := h2.inv2
  exact ⟨v, w, u, rfl, h1, h3, h4⟩
theorem VAll.inv4 {Γ : Ctx} {h : Heap} {ρ : List Addr} {vs : List Value} {d e f g : D} (H : VAll Γ h ρ vs [d, e, f, g]) : ∃ v w u x, vs = [v, w, u, x] ∧ VIn Γ h ρ v d ∧ VIn Γ h ρ w e ∧ VIn Γ h ρ u f ∧ VIn Γ h ρ x g := by
  obtain ⟨v, r, rfl, h1, h2⟩ := H.cons_inv
  obtain ⟨w, u, x, rfl, h3, h4, h5⟩ := h2.inv3
  exact ⟨v, w, u, x, rfl, h1, h3, h4, h5⟩
theorem ObjsRep.list {Γ : Ctx} {h : Heap} {ρ : List Addr} {objs : List O} (R : ObjsRep Γ h ρ objs) {n : Nat} {a : Addr} {l : List D} (e1 : ρ[n]? = some a) (g : objs[n]? = some (.list l)) : ∃ vs k, h.get? a = some (listOf vs.toArray k) ∧ VAll Γ h ρ vs l := R.rel _ _ _ e1 g

inductive BinR (o : List O) (Q : Post) : Operator → D → D → Prop
  | addi {x y : Int} : Q (.int (x + y)) o → BinR o Q .Add (.int x) (.int y)
  | subi {x y : Int} : Q (.int (x - y)) o → BinR o Q .Sub (.int x) (.int y)
  | muli {x y : Int} : IntMulOk x y → Q (.int (x * y)) o → BinR o Q .Mult (.int x) (.int y)
  | fdiv {x y : Int} : y ≠ 0 → y.natAbs < 1073741824 → Q (.int (x.fdiv y)) o → BinR o Q .FloorDiv (.int x) (.int y)
  | mod {x y : Int} : y ≠ 0 → Q (.int (x.fmod y)) o → BinR o Q .Mod (.int x) (.int y)
  | pow {x y : Int} : 0 ≤ y → (Builtin.Int.intBits x : Int) * y ≤ 2 ^ 27 → Q (.int (x ^ y.toNat)) o → BinR o Q .Pow (.int x) (.int y)
  | adds {x y : Str} : x.length + y.length ≤ sizeLine → Q (.str (x ++ y)) o → BinR o Q .Add (.str x) (.str y)
  | muls {x : Str} {y : Int} : x.length ≤ 16 → 0 ≤ y → y ≤ 1000 → Q (.str (Txt.mul x y)) o → BinR o Q .Mult (.str x) (.int y)
  | addl {m n : Nat} {l k : List D} : o[m]? = some (.list l) → o[n]? = some (.list k) → l.length + k.length ≤ 1000 → Q (.obj o.length) (o ++ [.list (l ++ k)]) → BinR o Q .Add (.obj m) (.obj n)
noncomputable abbrev binF (op : Operator) (a b : D) (o : List O) (Q : Post) : Prop := BinR o Q op a b

noncomputable def two (f : D → D → List O → Post → Prop) : Pf := fun ds o Q => match ds with | [a, b] => f a b o Q | _ => False
noncomputable def t2 (t : Value → Value → Sem Value) : List Value → Sem Value := fun vs => match vs with | [a, b] => t a b | _ => .unsupported ""
theorem PS.two {Γ : Ctx} {A : Around} {t : Value → Value → Sem Value} {f : D → D → List O → Post → Prop}
    (h : ∀ a b objs Q s ρ va vb Q', Base Γ s → ObjsRep Γ s.heap ρ objs → f a b objs Q → VIn Γ s.heap ρ va a → VIn Γ s.heap ρ vb b → Done Γ ρ s Q Q' → wpAny (model Γ.prog Γ.w) A (t va vb) Q' NoE s) : PS Γ A (t2 t) (two f) := by
  intro ds objs Q s ρ vs Q' b o hf hv hd
  match ds, hf, hv with
  | [x, y], hf, hv =>
    obtain ⟨va, vb, rfl, h1, h2⟩ := hv.inv2
    exact h x y objs Q s ρ _ _ Q' b o hf h1 h2 hd

theorem ps_bin {Γ : Ctx} {A : Around} (op : Operator) : PS Γ A (t2 (binaryOp op)) (two (binF op)) := by
  refine PS.two fun a b objs Q s ρ va vb Q' B R hf ha hb hd => ?_
  cases hf with
  | addi h => obtain ⟨t, rfl⟩ := ha.int_inv; obtain ⟨u, rfl⟩ := hb.int_inv; exact P.add_int (hd.toks B R _ h (.int _ _))
  | subi h => obtain ⟨t, rfl⟩ := ha.int_inv; obtain ⟨u, rfl⟩ := hb.int_inv; exact P.sub_int (hd.toks B R _ h (.int _ _))
  | muli h0 h => obtain ⟨t, rfl⟩ := ha.int_inv; obtain ⟨u, rfl⟩ := hb.int_inv; exact P.mul_int (hd.toks B R _ h (.int _ _)) h0
  | fdiv h0 h1 h => obtain ⟨t, rfl⟩ := ha.int_inv; obtain ⟨u, rfl⟩ := hb.int_inv; exact floordiv_int h0 (hd.toks B R _ h (.int _ _)) (.inl (PyProof.noPylong_small h1))
  | mod h0 h => obtain ⟨t, rfl⟩ := ha.int_inv; obtain ⟨u, rfl⟩ := hb.int_inv; exact mod_int' h0 (hd.toks B R _ h (.int _ _))
  | pow h0 h1 h => obtain ⟨t, rfl⟩ := ha.int_inv; obtain ⟨u, rfl⟩ := hb.int_inv; exact pow_int h0 h1 (hd.toks B R _ h (.int _ _))
  | adds h0 h => obtain ⟨t, rfl⟩ := ha.str_inv; obtain ⟨u, rfl⟩ := hb.str_inv; exact SB.add (fun t' k => hd.toks B R _ h (.str _ _)) h0
  | muls h0 h1 h2 h =>
    obtain ⟨t, rfl⟩ := ha.str_inv; obtain ⟨u, rfl⟩ := hb.int_inv
    exact SB.mul (mulOk_of 16 1000 h0 h2 (by omega) (by decide) (by decide)) fun t' k => hd.toks B R _ h (.str _ _)
  | addl g1 g2 h0 h =>
    obtain ⟨a1, rfl, e1⟩ := ha.obj_inv; obtain ⟨a2, rfl, e2⟩ := hb.obj_inv
    obtain ⟨vs, n, h1, r1⟩ := R.list e1 g1
    obtain ⟨us, n', h2, r2⟩ := R.list e2 g2
    have q : vs.toArray ++ us.toArray = (vs ++ us).toArray := by simp
    refine P.add_list (items := vs.toArray) (items2 := us.toArray) h1 h2 (q ▸ hd.newList B R (r1.append r2) s.toks h) ?_
    rw [List.size_toArray, List.size_toArray, r1.length, r2.length, sizeLine_eq]; omega
end Mine

end
section
open PySem PySem.W PySem.Spec PySem.Calls PyProof.Rows
set_option Elab.async false
set_option maxRecDepth 100000
namespace Mine

inductive Fl where
  | next | brk | cont | ret (d : D)
noncomputable abbrev SPost := Fl → Loc → List O → Prop
structure PCtx where
  sc : List (Str × NameKind)
  G : Str → Option D
  C : Addr → List D → List (Str × D) → List O → Post → Prop
  M : Str → Option Value
  /-- further builtins and types -/
  B : Value → List D → List O → Post → Prop := fun _ _ _ _ => False
  /-- further comparisons -/
  K : CmpOp → D → D → List O → Post → Prop := fun _ _ _ _ _ => False
  /-- further reads of an item -/
  J : D → D → List O → Post → Prop := fun _ _ _ _ => False
  /-- further terms -/
  X : Expr → Loc → List O → Post → Prop := fun _ _ _ _ => False
  /-- further statements -/
  Y : Stmt → Loc → List O → SPost → Prop := fun _ _ _ _ => False
  /-- what else is known of the frame -/
  E : Env → Prop := fun _ => True

noncomputable def lkS (l : List (Str × NameKind)) (x : Str) : Option NameKind := match l with
  | [] => none
  | (y, k) :: r => if x = y then some k else lkS r x
theorem lkS_eq (l : List (Str × NameKind)) (x : Str) : lkS l x = l.lookup x := by
  induction l with
  | nil => rfl
  | cons p r ih =>
    obtain ⟨y, k⟩ := p
    unfold lkS
    by_cases h : x = y
    · simp [h]
    · rw [if_neg h, ih, List.lookup_cons]
      have : (x == y) = false := by simpa using h
      rw [this]
theorem ofString_eq (a b : String) : (Str.ofString a = Str.ofString b) = (a = b) := by
  apply propext
  constructor
  · intro h
    rw [Str.ofString_eq_toList, Str.ofString_eq_toList] at h
    have h1 := congrArg (fun x => x.cps.toList) h
    have h2 : a.toList.map Char.toNat = b.toList.map Char.toNat := by simpa using h1
    have h3 : a.toList = b.toList := (List.map_inj_right (fun x y e => Char.toNat_inj.mp e)).mp h2
    exact String.toList_inj.mp h3
  · intro h; rw [h]

noncomputable def nameF (P : PCtx) (loc : Loc) (x : Str) : Option D := match lkS P.sc x with
  | some .globalImplicit => P.G x
  | some .local => getLo loc x
  | some .cell => getLo loc x
  | some .free => getLo loc x
  | _ => none

noncomputable def constF (c : Const) (o : List O) (Q : Post) : Prop := match c with
  | .int i => Q (.int i) o
  | .str s => Q (.str s) o
  | .none => Q .none o
  | .bool b => Q (.bool b) o
  | _ => False

inductive CmpR (P : PCtx) (o : List O) (Q : Post) : CmpOp → D → D → Prop
  | eqi {x y : Int} : Q (.bool (x == y)) o → CmpR P o Q .Eq (.int x) (.int y)
  | eqs {x y : Str} : Q (.bool (x == y)) o → CmpR P o Q .Eq (.str x) (.str y)
  | nei {x y : Int} : Q (.bool (x != y)) o → CmpR P o Q .NotEq (.int x) (.int y)
  | nes {x y : Str} : Q (.bool (x != y)) o → CmpR P o Q .NotEq (.str x) (.str y)
  | lti {x y : Int} : Q (.bool (decide (x < y))) o → CmpR P o Q .Lt (.int x) (.int y)
  | gti {x y : Int} : Q (.bool (decide (y < x))) o → CmpR P o Q .Gt (.int x) (.int y)
  | lts {x y : Str} : Q (.bool (decide (x.cps.toList < y.cps.toList))) o → CmpR P o Q .Lt (.str x) (.str y)
  | gts {x y : Str} : Q (.bool (decide (y.cps.toList < x.cps.toList))) o → CmpR P o Q .Gt (.str x) (.str y)
  | isnn : Q (.bool true) o → CmpR P o Q .Is .none .none
  | isin {x : Int} : Q (.bool false) o → CmpR P o Q .Is (.int x) .none
  | isfn {a : Addr} : Q (.bool false) o → CmpR P o Q .Is (.fn (.ref a)) .none
  | other {op : CmpOp} {a b : D} : P.K op a b o Q → CmpR P o Q op a b
noncomputable abbrev cmpF (P : PCtx) (op : CmpOp) (a b : D) (o : List O) (Q : Post) : Prop := CmpR P o Q op a b

noncomputable def truthP (d : D) (K : Bool → Prop) : Prop := match d with
  | .bool b => K b
  | .int i => K (i != 0)
  | .str s => s.length ≤ 100000 ∧ K ((s.length : Int) != 0)
  | .none => K false
  | _ => False

noncomputable def strIdx (x : Str) (i : Int) : Option Str := ((seqIndex? i x.length).bind (x.cps[·]?)).map fun c => ⟨#[c]⟩

inductive GetR (P : PCtx) (o : List O) (Q : Post) : D → D → Prop
  | str {x y : Str} {k : Int} : -(2 ^ 63) ≤ k → k < 2 ^ 63 → strIdx x k = some y → Q (.str y) o → GetR P o Q (.str x) (.int k)
  | tup {l : List D} {d : D} {k : Int} : 0 ≤ k → k < 2 ^ 63 → l[k.toNat]? = some d → Q d o → GetR P o Q (.tup l) (.int k)
  | lst {n : Nat} {l : List D} {d : D} {k : Int} : o[n]? = some (.list l) → 0 ≤ k → k < 2 ^ 63 → l[k.toNat]? = some d → Q d o → GetR P o Q (.obj n) (.int k)
  | other {a i : D} : P.J a i o Q → GetR P o Q a i
noncomputable abbrev getF (P : PCtx) (a i : D) (o : List O) (Q : Post) : Prop := GetR P o Q a i

inductive OptI : D → Option Int → Prop
  | none : OptI .none none
  | int (i : Int) : OptI (.int i) (some i)
inductive SliceR (o : List O) (Q : Post) : D → D → D → Prop
  | str {x : Str} {lo hi : D} {l u : Option Int} : OptI lo l → OptI hi u → x.length ≤ 100000 → Q (.str (Txt.slice x l u)) o → SliceR o Q (.str x) lo hi
noncomputable abbrev sliceF (a lo hi : D) (o : List O) (Q : Post) : Prop := SliceR o Q a lo hi

inductive BuiltR (P : PCtx) (o : List O) (Q : Post) : String → List D → Prop
  | lens {x : Str} : x.length ≤ 100000 → Q (.int x.length) o → BuiltR P o Q "len" [.str x]
  | lenl {n : Nat} {l : List D} : o[n]? = some (.list l) → l.length ≤ 100000 → Q (.int l.length) o → BuiltR P o Q "len" [.obj n]
  | min2 {a b : Int} : Q (.int (min a b)) o → BuiltR P o Q "min" [.int a, .int b]
  | max2 {a b : Int} : Q (.int (max a b)) o → BuiltR P o Q "max" [.int a, .int b]
  | lower {x : Str} : x.length ≤ 100000 → Q (.str (Txt.lower x)) o → BuiltR P o Q "str.lower" [.str x]
  | other {id : String} {ds : List D} : P.B (.builtin id) ds o Q → BuiltR P o Q id ds
noncomputable abbrev builtF (P : PCtx) (id : String) (ds : List D) (o : List O) (Q : Post) : Prop := BuiltR P o Q id ds
noncomputable def rngD (a b c : Int) : List D := (List.range (Builtin.Range.rangeSize a b c).toNat).map fun (i : Nat) => D.int (a + (i : Int) * c)
inductive TypeR (P : PCtx) (o : List O) (Q : Post) : String → List D → Prop
  | r1 {b : Int} : Q (.rng 0 b 1) o → TypeR P o Q "range" [.int b]
  | r2 {a b : Int} : Q (.rng a b 1) o → TypeR P o Q "range" [.int a, .int b]
  | r3 {a b c : Int} : c ≠ 0 → c.natAbs < 1000 → Q (.rng a b c) o → TypeR P o Q "range" [.int a, .int b, .int c]
  | lst {a b c : Int} : Builtin.Range.small a b c = true → 0 ≤ Builtin.Range.rangeSize a b c → Builtin.Range.rangeSize a b c ≤ 1000 → Q (.obj o.length) (o ++ [.list (rngD a b c)]) → TypeR P o Q "list" [.rng a b c]
  | other {T : String} {ds : List D} : P.B (.type T) ds o Q → TypeR P o Q T ds
noncomputable abbrev typeF (P : PCtx) (T : String) (ds : List D) (o : List O) (Q : Post) : Prop := TypeR P o Q T ds
noncomputable def callF (P : PCtx) (v : Value) (ds : List D) (kw : List (Str × D)) (o : List O) (Q : Post) : Prop := match v with
  | .builtin id => kw = [] ∧ builtF P id ds o Q
  | .type T => kw = [] ∧ typeF P T ds o Q
  | .ref a => P.C a ds kw o Q
  | _ => False
noncomputable def methV (P : PCtx) (d : D) (o : List O) (m : Str) : Option Value := match d with
  | .str _ => if m = Str.ofString "lower" then some (.builtin "str.lower") else if m = Str.ofString "upper" then some (.builtin "str.upper") else if m = Str.ofString "join" then some (.builtin "str.join")
    else if m = Str.ofString "replace" then some (.builtin "str.replace") else none
  | .obj n => (match o[n]? with
    | some (.list _) => if m = Str.ofString "append" then some (.builtin "list.append") else if m = Str.ofString "insert" then some (.builtin "list.insert") else if m = Str.ofString "index" then some (.builtin "list.index") else none
    | some (.acc _ dn) => (match o[dn]? with | some .idict => P.M m | _ => none)
    | _ => none)
  | _ => none

/-- the base of a method call is no call of super -/
noncomputable abbrev NoSup (b : Expr) : Prop := ∀ (m : Str) (env : Env) (t : Sem Value), attributeBase b m env t = t
/-- an index that is no slice -/
noncomputable abbrev SubOk (i : Expr) : Prop := ∀ o v : Value, subscripted i false o v = operate [o, v] (getItem o v)
noncomputable def noStarred (es : List Expr) : Bool := es.all fun e => !isStarred e
noncomputable def kwNamed (ks : List Keyword) : Bool := ks.all fun k => k.arg.isSome
mutual
noncomputable def WE (P : PCtx) : Expr → Loc → List O → Post → Prop
  | .Constant c _ _, _, o, Q => constF c o Q
  | .Name x _, loc, o, Q => (match nameF P loc x with | some d => Q d o | none => False)
  | .BinOp l op r _, loc, o, Q => WE P l loc o fun a o1 => WE P r loc o1 fun b o2 => binF op a b o2 Q
  | .Compare l [op] [r] _, loc, o, Q => behindInMarks op r = false ∧ WE P l loc o fun a o1 => WE P r loc o1 fun b o2 => cmpF P op a b o2 Q
  | .IfExp t b e _, loc, o, Q => WT P t loc o fun c o1 => (c = true → WE P b loc o1 Q) ∧ (c = false → WE P e loc o1 Q)
  | .BoolOp .And [a, b] _, loc, o, Q => WE P a loc o fun d o1 => truthP d fun c => (c = true → WE P b loc o1 Q) ∧ (c = false → Q d o1)
  | .BoolOp .Or [a, b] _, loc, o, Q => WE P a loc o fun d o1 => truthP d fun c => (c = true → Q d o1) ∧ (c = false → WE P b loc o1 Q)
  | .Call (.Name f _) args kws _, loc, o, Q => (match nameF P loc f with
    | some (.fn v) => (noStarred args && kwNamed kws) = true ∧ WEs P args loc o fun ds o1 => WKs P kws loc o1 fun ks o2 => callF P v ds ks o2 Q
    | _ => False)
  | .Call (.Attribute b m ap) args [] p, loc, o, Q => (NoSup b ∧ (ap.endLine == p.line && noStarred args && decide (args.length < 29)) = true) ∧ WE P b loc o fun d o1 => (match methV P d o1 m with | some v => WEs P args loc o1 fun ds o2 => callF P v (d :: ds) [] o2 Q | none => False)
  | .Subscript v (.Slice lo hi none _) _, loc, o, Q => WE P v loc o fun d o1 => WO P lo loc o1 fun l o2 => WO P hi loc o2 fun h o3 => sliceF d l h o3 Q
  | .Subscript v (.Slice lo hi (some st) sp) p, loc, o, Q => P.X (.Subscript v (.Slice lo hi (some st) sp) p) loc o Q
  | .Subscript v i _, loc, o, Q => SubOk i ∧ WE P v loc o fun d o1 => WE P i loc o1 fun k o2 => getF P d k o2 Q
  | .List es _, loc, o, Q => noStarred es = true ∧ WEs P es loc o fun ds o1 => ds.length ≤ 1000 ∧ Q (.obj o1.length) (o1 ++ [.list ds])
  | .Tuple es _ _, loc, o, Q => noStarred es = true ∧ WEs P es loc o fun ds o1 => ds.length ≤ 1000 ∧ Q (.tup ds) o1
  | .ListComp elt gens scope p, loc, o, Q => P.X (.ListComp elt gens scope p) loc o Q
  | .Dict ks vs p, loc, o, Q => P.X (.Dict ks vs p) loc o Q
  | .Lambda a b c p, loc, o, Q => P.X (.Lambda a b c p) loc o Q
  | .GeneratorExp elt gens scope p, loc, o, Q => P.X (.GeneratorExp elt gens scope p) loc o Q
  | _, _, _, _ => False
noncomputable def WO (P : PCtx) : Option Expr → Loc → List O → Post → Prop
  | none, _, o, Q => Q .none o
  | some e, loc, o, Q => WE P e loc o Q
noncomputable def WEs (P : PCtx) : List Expr → Loc → List O → (List D → List O → Prop) → Prop
  | [], _, o, Q => Q [] o
  | e :: r, loc, o, Q => WE P e loc o fun d o1 => WEs P r loc o1 fun ds o2 => Q (d :: ds) o2
noncomputable def WKs (P : PCtx) : List Keyword → Loc → List O → (List (Str × D) → List O → Prop) → Prop
  | [], _, o, Q => Q [] o
  | ⟨some n, e, _⟩ :: r, loc, o, Q => WE P e loc o fun d o1 => WKs P r loc o1 fun ds o2 => Q ((n, d) :: ds) o2
  | _ :: _, _, _, _ => False
noncomputable def WT (P : PCtx) : Expr → Loc → List O → (Bool → List O → Prop) → Prop
  | .UnaryOp .Not x _, loc, o, Q => WT P x loc o fun b o1 => Q (!b) o1
  | .BoolOp .And vs _, loc, o, Q => WAnd P vs loc o Q
  | .BoolOp .Or vs _, loc, o, Q => WOr P vs loc o Q
  | .Compare l [op] [r] _, loc, o, Q => behindInMarks op r = false ∧ WE P l loc o fun a o1 => WE P r loc o1 fun b o2 => cmpF P op a b o2 fun d o3 => truthP d fun c => Q c o3
  | .Name x _, loc, o, Q => (match nameF P loc x with | some d => truthP d fun c => Q c o | none => False)
  | .Subscript v (.Slice lo hi none _) _, loc, o, Q => WE P v loc o fun d o1 => WO P lo loc o1 fun l o2 => WO P hi loc o2 fun h o3 => sliceF d l h o3 fun d o4 => truthP d fun c => Q c o4
  | _, _, _, _ => False
noncomputable def WAnd (P : PCtx) : List Expr → Loc → List O → (Bool → List O → Prop) → Prop
  | [], _, o, Q => Q true o
  | e :: r, loc, o, Q => WT P e loc o fun b o1 => (b = true → WAnd P r loc o1 Q) ∧ (b = false → Q false o1)
noncomputable def WOr (P : PCtx) : List Expr → Loc → List O → (Bool → List O → Prop) → Prop
  | [], _, o, Q => Q false o
  | e :: r, loc, o, Q => WT P e loc o fun b o1 => (b = true → Q true o1) ∧ (b = false → WOr P r loc o1 Q)
end
end Mine

end
section
open PySem PySem.W PySem.Spec PySem.Calls PyProof.Rows
set_option Elab.async false
set_option maxRecDepth 100000
namespace Mine

noncomputable def GlobIs (h : Heap) (x : Str) (v : Value) : Prop :=
  (∃ mg, h.Ns mainGlobals mg ∧ mg x = some v) ∨ (∃ mg mb, h.Ns mainGlobals mg ∧ mg x = none ∧ h.Ns builtinsNs mb ∧ mb x = some v)
noncomputable def GOk (Γ : Ctx) (G : Str → Option D) : Prop := ∀ x d, G x = some d → (x == ("__debug__" : Str)) = false ∧ ∃ v, (∀ h ρ, VIn Γ h ρ v d) ∧ GlobIs Γ.h₀ x v
noncomputable def IsFn (h : Heap) (a : Addr) : Prop := ∃ ob fd, h.get? a = some ob ∧ ob.data = .func fd
inductive KAll (Γ : Ctx) (h : Heap) (ρ : List Addr) : List (Str × Value) → List (Str × D) → Prop
  | nil : KAll Γ h ρ [] []
  | cons {x : Str} {v : Value} {d : D} {vs : List (Str × Value)} {ds : List (Str × D)} : VIn Γ h ρ v d → KAll Γ h ρ vs ds → KAll Γ h ρ ((x, v) :: vs) ((x, d) :: ds)
theorem KAll.ext {Γ : Ctx} {T ρ ρ' : List Addr} {s s' : Shared} (x : Ext T ρ s ρ' s') {vs : List (Str × Value)} {ds : List (Str × D)} (H : KAll Γ s.heap ρ vs ds) : KAll Γ s'.heap ρ' vs ds := by
  induction H with
  | nil => exact .nil
  | cons a _ ih => exact .cons (a.ext x) ih
theorem KAll.nil_inv {Γ : Ctx} {h : Heap} {ρ : List Addr} {vs : List (Str × Value)} (H : KAll Γ h ρ vs []) : vs = [] := by cases H; rfl
/-- what a call of it looks at on the way -/
noncomputable def LK (Γ : Ctx) (h : Heap) (a : Addr) : Prop := ∃ k, (k = Keeper.frame ∨ k = Keeper.machine ∨ k = Keeper.boundFrame) ∧ Looks (model Γ.prog Γ.w) h (keeperOf (.ref a)) k
noncomputable def COk (Γ : Ctx) (A : Around) (C : Addr → List D → List (Str × D) → List O → Post → Prop) : Prop :=
  ∀ a ds kw objs Q s ρ vs kvs Q', Base Γ s → ObjsRep Γ s.heap ρ objs → C a ds kw objs Q → VAll Γ s.heap ρ vs ds → KAll Γ s.heap ρ kvs kw → Done Γ ρ s Q Q' →
    LK Γ s.heap a ∧ wpAny (model Γ.prog Γ.w) A (call (.ref a) vs kvs) Q' NoE s

noncomputable def MOk (Γ : Ctx) (A : Around) (M : Str → Option Value) : Prop :=
  ∀ m v, M m = some v → ∀ x dx vs n mm s pl (QQ : Value × List Value → Shared → Prop), Base Γ s → s.heap.get? x = some ⟨.ref Γ.cA, some dx, .seq vs n, #[]⟩ →
    s.heap.Ns dx mm → (∀ y, y ≠ Str.ofString "_initial_size" → mm y = none) → QQ (v, [.ref x]) s → wpAny (model Γ.prog Γ.w) A (getMethod (.ref x) m pl) QQ NoE s
noncomputable def ES (Γ : Ctx) (env : Env) (own : List Addr) (A : Around) (loc : Loc) (t : Sem Value) (w : List O → Post → Prop) : Prop :=
  ∀ objs Q s ρ Q', Rep Γ env own ρ loc objs s → w objs Q →
    (∀ d objs' ρ' v s', Q d objs' → Rep Γ env own ρ' loc objs' s' → Ext Γ.tabs ρ s ρ' s' → VIn Γ s'.heap ρ' v d → Q' v s') → wpAny (model Γ.prog Γ.w) A t Q' NoE s
noncomputable def TS (Γ : Ctx) (env : Env) (own : List Addr) (A : Around) (loc : Loc) (t : Sem Bool) (w : List O → (Bool → List O → Prop) → Prop) : Prop :=
  ∀ objs Q s ρ Q', Rep Γ env own ρ loc objs s → w objs Q →
    (∀ b objs' ρ' s', Q b objs' → Rep Γ env own ρ' loc objs' s' → Ext Γ.tabs ρ s ρ' s' → Q' b s') → wpAny (model Γ.prog Γ.w) A t Q' NoE s
noncomputable def LS (Γ : Ctx) (env : Env) (own : List Addr) (A : Around) (loc : Loc) (t : Sem (List Value)) (w : List O → (List D → List O → Prop) → Prop) : Prop :=
  ∀ objs Q s ρ Q', Rep Γ env own ρ loc objs s → w objs Q →
    (∀ ds objs' ρ' vs s', Q ds objs' → Rep Γ env own ρ' loc objs' s' → Ext Γ.tabs ρ s ρ' s' → VAll Γ s'.heap ρ' vs ds → Q' vs s') → wpAny (model Γ.prog Γ.w) A t Q' NoE s

inductive FlIn (Γ : Ctx) (h : Heap) (ρ : List Addr) : Flow → Fl → Prop
  | next : FlIn Γ h ρ .next .next
  | brk : FlIn Γ h ρ .brk .brk
  | cont : FlIn Γ h ρ .cont .cont
  | ret {v : Value} {d : D} : VIn Γ h ρ v d → FlIn Γ h ρ (.ret v) (.ret d)
noncomputable def SS (Γ : Ctx) (env : Env) (own : List Addr) (A : Around) (t : Sem Flow) (w : Loc → List O → SPost → Prop) : Prop :=
  ∀ loc objs Q s ρ Q', Rep Γ env own ρ loc objs s → w loc objs Q →
    (∀ fl loc' objs' ρ' f s', Q fl loc' objs' → Rep Γ env own ρ' loc' objs' s' → Ext (own ++ Γ.tabs) ρ s ρ' s' → FlIn Γ s'.heap ρ' f fl → Q' f s') → wpAny (model Γ.prog Γ.w) A t Q' NoE s
structure Am0 (Γ : Ctx) (P : PCtx) (env : Env) (A : Around) : Prop where
  sc : env.scope.names = P.sc
  G : GOk Γ P.G
  C : COk Γ A P.C
  M : MOk Γ A P.M
  hh : A.handled = none
  hu : A.units < cLine
  oB : ∀ v, PS Γ A (fun vs => call v vs) (P.B v)
  oK : ∀ op, PS Γ A (t2 (compareOp op)) (two (P.K op))
  oJ : ∀ value i, SubOk i → PS Γ A (t2 (subscriptTail value i)) (two P.J)
  nd : ∀ x k, lkS P.sc x = some k → (x == ("__debug__" : Str)) = false ∧ (x == ("__classdict__" : Str)) = false
  E : P.E env
structure Amb (Γ : Ctx) (P : PCtx) (env : Env) (A : Around) : Prop extends Am0 Γ P env A where
  oX : ∀ own e loc, ES Γ env own A loc (eval e env) (P.X e loc)
  oY : ∀ own st, SS Γ env own A (exec st env) (P.Y st)

section
variable {Γ : Ctx} {P : PCtx} {env : Env} {own ρ ρ₀ : List Addr} {A : Around} {loc : Loc} {s s₀ : Shared} {objs : List O} {Q : Post} {Q' : Value → Shared → Prop}
theorem doneOf (R : Rep Γ env own ρ loc objs s) (x : Ext Γ.tabs ρ₀ s₀ ρ s)
    (k : ∀ d objs' ρ' v s', Q d objs' → Rep Γ env own ρ' loc objs' s' → Ext Γ.tabs ρ₀ s₀ ρ' s' → VIn Γ s'.heap ρ' v d → Q' v s') : Done Γ ρ s Q Q' :=
  fun d objs' ρ' v s' hq b o x' hv => k d objs' ρ' v s' hq (R.step x' b o) (x.trans x') hv

theorem es_const (c : Const) (kk : Nat) (pos : Pos) : ES Γ env own A loc (eval (.Constant c kk pos) env) (constF c) := by
  intro objs Q s ρ Q' R hw k
  have hd := doneOf R (Ext.refl _ _ _) k
  cases c with
  | int i => exact wpAny_Constant_int (hd.toks R.base R.objs _ hw (.int _ _))
  | str i => exact wpAny_Constant_str (hd.toks R.base R.objs _ hw (.str _ _))
  | none => exact wpAny_Constant_none (hd.same R.base R.objs hw .none)
  | bool b => exact wpAny_Constant_bool (hd.same R.base R.objs hw (.bool b))
  | float _ => exact hw.elim
  | complex _ _ => exact hw.elim
  | bytes _ => exact hw.elim
  | ellipsis => exact hw.elim

theorem load_glob {x : Str} {v : Value} {QQ : Value → Shared → Prop} (b : Base Γ s) (F : FrOk Γ env own s.heap ρ loc) (hk : env.kindOf x = some .globalImplicit) (g : GlobIs Γ.h₀ x v) (h : QQ v s) :
    wpAny (model Γ.prog Γ.w) A (loadName env x) QQ NoE s := by
  have e : loadName env x = loadGlobal env x := by
    unfold loadName
    have h1 : env.scope.kind.isAnnotationScope = false := by rw [F.kind]; rfl
    have h2 : env.blockKind = .function := by unfold Env.blockKind; rw [h1]; simp [F.kind]
    rw [h1, h2, hk]; rfl
  rw [e]
  unfold loadGlobal
  have kp : ∀ a m, Γ.h₀.Ns a m → s.heap.Ns a m := fun a m hm => hm.at' fun o e => b.keep a o e
  rcases g with ⟨mg, h1, h2⟩ | ⟨mg, mb, h1, h2, h3, h4⟩
  · refine wpAny_bind (wpAny_nsGet (m := mg) (by rw [F.glob]; exact kp _ _ h1) ?_)
    rw [h2]; exact wpAny_pure h
  · refine wpAny_bind (wpAny_nsGet (m := mg) (by rw [F.glob]; exact kp _ _ h1) ?_)
    rw [h2]
    refine wpAny_bind (wpAny_nsGet (m := mb) (by rw [F.blt]; exact kp _ _ h3) ?_)
    rw [h4]; exact wpAny_pure h
theorem load_reads {x : Str} {v : Value} {QQ : Value → Shared → Prop} (F : FrOk Γ env own s.heap ρ loc) (hr : Reads env s.heap x v) (hn : (x == ("__classdict__" : Str)) = false) (h : QQ v s) : wpAny (model Γ.prog Γ.w) A (loadName env x) QQ NoE s := by
  rcases hr with ⟨k, m, hm, e⟩ | ⟨k | k, c, hc, hv⟩
  · exact wpAny_loadName_local F.kind k hm e h
  · exact wpAny_loadName_cell F.kind k hc hv h
  · exact wpAny_loadName_free F.kind k hc hv h hn
theorem nameF_inv {P : PCtx} {loc : Loc} {x : Str} {d : D} (e : nameF P loc x = some d) : (lkS P.sc x = some .globalImplicit ∧ P.G x = some d) ∨ ∃ k, lkS P.sc x = some k ∧ getLo loc x = some d := by
  cases q : lkS P.sc x with
  | none => unfold nameF at e; rw [q] at e; cases e
  | some k =>
    unfold nameF at e; rw [q] at e
    cases k <;> first | cases e | exact .inl ⟨rfl, e⟩ | exact .inr ⟨_, rfl, e⟩
theorem load_name (am : Amb Γ P env A) (R : Rep Γ env own ρ loc objs s) {x : Str} {d : D} (e : nameF P loc x = some d) {QQ : Value → Shared → Prop} (h : ∀ v, VIn Γ s.heap ρ v d → QQ v s) :
    wpAny (model Γ.prog Γ.w) A (loadName env x) QQ NoE s := by
  have hk : env.kindOf x = lkS P.sc x := by unfold Env.kindOf; rw [am.sc, lkS_eq]
  rcases nameF_inv e with ⟨q, e⟩ | ⟨k, q, e⟩
  · obtain ⟨_, v, hv, g⟩ := am.G x d e
    exact load_glob R.base R.fr (hk.trans q) g (h v (hv _ _))
  · obtain ⟨v, hv, hi⟩ := R.fr.loc x d e
    exact load_reads R.fr hv (am.nd x _ q).2 (h v hi)
theorem name_nd (am : Amb Γ P env A) {x : Str} {d : D} (e : nameF P loc x = some d) : (x == ("__debug__" : Str)) = false := by
  rcases nameF_inv e with ⟨q, _⟩ | ⟨k, q, _⟩
  · exact (am.nd x _ q).1
  · exact (am.nd x _ q).1
theorem es_name (am : Amb Γ P env A) (x : Str) (pos : Pos) : ES Γ env own A loc (eval (.Name x pos) env) (fun o Q => match nameF P loc x with | some d => Q d o | none => False) := by
  intro objs Q s ρ Q' R hw k
  cases e : nameF P loc x with
  | none => rw [e] at hw; exact hw.elim
  | some d =>
    rw [e] at hw
    exact wpAny_Name (load_name am R e fun v hv => (doneOf R (Ext.refl _ _ _) k).same R.base R.objs hw hv) (name_nd am e)

theorem es_two {l r : Sem Value} {wl wr : List O → Post → Prop} {t : Value → Value → Sem Value} {f : D → D → List O → Post → Prop} (hl : ES Γ env own A loc l wl) (hr : ES Γ env own A loc r wr) (hp : PS Γ A (t2 t) (two f))
    (R : Rep Γ env own ρ loc objs s) (hw : wl objs fun a o1 => wr o1 fun b o2 => f a b o2 Q)
    (k : ∀ d objs' ρ' v s', Q d objs' → Rep Γ env own ρ' loc objs' s' → Ext Γ.tabs ρ s ρ' s' → VIn Γ s'.heap ρ' v d → Q' v s') :
    wpAny (model Γ.prog Γ.w) A l (fun a s₁ => wpAny (model Γ.prog Γ.w) A r (fun b s₂ => wpAny (model Γ.prog Γ.w) A (t a b) Q' NoE s₂) NoE s₁) NoE s :=
  hl _ _ _ _ _ R hw fun a o1 ρ1 va s1 h1 R1 x1 v1 => hr _ _ _ _ _ R1 h1 fun b o2 ρ2 vb s2 h2 R2 x2 v2 =>
    hp [a, b] o2 Q s2 ρ2 [va, vb] Q' R2.base R2.objs h2 (.cons (v1.ext x2) (.cons v2 .nil)) (doneOf R2 (x1.trans x2) k)

theorem es_bin {l r : Expr} {wl wr : List O → Post → Prop} (op : Operator) (pos : Pos) (hl : ES Γ env own A loc (eval l env) wl) (hr : ES Γ env own A loc (eval r env) wr) :
    ES Γ env own A loc (eval (.BinOp l op r pos) env) (fun o Q => wl o fun a o1 => wr o1 fun b o2 => binF op a b o2 Q) := by
  intro objs Q s ρ Q' R hw k
  exact wpAny_BinOp (es_two hl hr (ps_bin op) R hw k)

theorem ps_cmp (am : Amb Γ P env A) (op : CmpOp) : PS Γ A (t2 (compareOp op)) (two (cmpF P op)) := by
  refine PS.two fun a b objs Q s ρ va vb Q' B R hf ha hb hd => ?_
  cases hf with
  | eqi h => obtain ⟨t, rfl⟩ := ha.int_inv; obtain ⟨u, rfl⟩ := hb.int_inv; exact PySem.P.eq_int (hd.same B R h (.bool _))
  | eqs h => obtain ⟨t, rfl⟩ := ha.str_inv; obtain ⟨u, rfl⟩ := hb.str_inv; exact eq_str (hd.same B R h (.bool _))
  | nei h => obtain ⟨t, rfl⟩ := ha.int_inv; obtain ⟨u, rfl⟩ := hb.int_inv; exact PySem.P.ne_int (hd.same B R h (.bool _))
  | nes h => obtain ⟨t, rfl⟩ := ha.str_inv; obtain ⟨u, rfl⟩ := hb.str_inv; exact ne_str (hd.same B R h (.bool _))
  | lti h => obtain ⟨t, rfl⟩ := ha.int_inv; obtain ⟨u, rfl⟩ := hb.int_inv; exact PySem.P.lt_int (hd.same B R h (.bool _))
  | gti h => obtain ⟨t, rfl⟩ := ha.int_inv; obtain ⟨u, rfl⟩ := hb.int_inv; exact gt_int (hd.same B R h (.bool _))
  | lts h => obtain ⟨t, rfl⟩ := ha.str_inv; obtain ⟨u, rfl⟩ := hb.str_inv; exact lt_str (hd.same B R h (.bool _))
  | gts h => obtain ⟨t, rfl⟩ := ha.str_inv; obtain ⟨u, rfl⟩ := hb.str_inv; exact PySem.P.gt_str (hd.same B R h (.bool _))
  | isnn h => rw [ha.none_inv, hb.none_inv]; exact is_none (hd.same B R h (.bool _))
  | isin h => obtain ⟨t, rfl⟩ := ha.int_inv; rw [hb.none_inv]; exact is_none (hd.same B R h (.bool _))
  | isfn h => rw [ha.fn_inv, hb.none_inv]; exact is_none (hd.same B R h (.bool _))
  | other h => exact am.oK op [a, b] objs Q s ρ [va, vb] Q' B R h (.cons ha (.cons hb .nil)) hd
theorem truthy_ok {d : D} {v : Value} {K : Bool → Prop} {QQ : Bool → Shared → Prop} (hv : VIn Γ s.heap ρ v d) (hK : truthP d K) (h : ∀ b k, K b → QQ b { s with toks := k }) : wpAny (model Γ.prog Γ.w) A (truthy v) QQ NoE s := by
  cases hv with
  | none => exact truthy_none (h _ s.toks hK)
  | bool b => exact wpAny_truthy_bool (h _ s.toks hK)
  | int i t => exact P.truthy_int (h _ s.toks hK)
  | str x t => exact P.truthy_str (by have := hK.1; omega) (h _ _ hK.2)
  | tup _ _ => exact hK.elim
  | obj _ => exact hK.elim
  | fz _ _ => exact hK.elim
  | rng _ => exact hK.elim
  | fn _ => exact hK.elim
theorem Rep.toks (R : Rep Γ env own ρ loc objs s) (k : Nat) : Rep Γ env own ρ loc objs { s with toks := k } := ⟨R.base.toks k, R.fr, R.objs⟩
theorem ext_toks (T : List Addr) (k : Nat) : Ext T ρ s ρ { s with toks := k } := Ext.of_keep (fun _ _ e => e) rfl

theorem ts_of_es {t : Sem Value} {w : List O → Post → Prop} (h : ES Γ env own A loc t w) {objs : List O} {QB : Bool → List O → Prop} {QQ : Bool → Shared → Prop} (R : Rep Γ env own ρ loc objs s) (hw : w objs fun d o => truthP d fun c => QB c o)
    (k : ∀ b objs' ρ' s', QB b objs' → Rep Γ env own ρ' loc objs' s' → Ext Γ.tabs ρ s ρ' s' → QQ b s') : wpAny (model Γ.prog Γ.w) A t (fun v s₁ => wpAny (model Γ.prog Γ.w) A (truthy v) QQ NoE s₁) NoE s :=
  h _ _ _ _ _ R hw fun d o1 ρ1 v s1 h1 R1 x1 hv => truthy_ok hv h1 fun b kk hb => k b o1 ρ1 _ hb (R1.toks kk) (x1.trans (ext_toks _ kk))

theorem starEach_cons {e : Expr} (r : List Expr) (h : isStarred e = false) : starEach (e :: r) env = (false, eval e env) :: starEach r env := by
  cases e <;> first | rfl | cases h

theorem ls_nil (pos : Pos) : LS Γ env own A loc (spliced (backTo pos (starEach [] env))) (fun o Q => Q [] o) := by
  intro objs Q s ρ Q' R hw k
  exact wpAny_pure (k [] objs ρ [] s hw R (Ext.refl _ _ _) .nil)
theorem ls_cons {pos : Pos} {e : Expr} {r : List Expr} {we : List O → Post → Prop} {wr : List O → (List D → List O → Prop) → Prop} (hs : isStarred e = false) (he : ES Γ env own A loc (eval e env) we) (hr : LS Γ env own A loc (spliced (backTo pos (starEach r env))) wr) :
    LS Γ env own A loc (spliced (backTo pos (starEach (e :: r) env))) (fun o Q => we o fun d o1 => wr o1 fun ds o2 => Q (d :: ds) o2) := by
  intro objs Q s ρ Q' R hw k
  rw [starEach_cons r hs]
  show wpAny _ _ (spliced ((false, eval e env) :: backTo pos (starEach r env))) _ _ _
  unfold spliced
  refine wpAny_bind (he _ _ _ _ _ R hw fun d o1 ρ1 v s1 h1 R1 x1 hv => ?_)
  refine wpAny_bind (wpAny_pure (wpAny_bind (wpAny_holding (hr _ _ _ _ _ R1 h1 fun ds o2 ρ2 vs s2 h2 R2 x2 hvs => ?_))))
  exact wpAny_pure (k _ _ _ _ _ h2 R2 (x1.trans x2) (.cons (hv.ext x2) hvs))
theorem noStarred_cons {e : Expr} {r : List Expr} (h : noStarred (e :: r) = true) : isStarred e = false ∧ noStarred r = true := by
  unfold noStarred at h ⊢
  rw [List.all_cons, Bool.and_eq_true] at h
  exact ⟨by simpa using h.1, h.2⟩
theorem noStar (pos : Pos) : ∀ {args : List Expr}, noStarred args = true → (backTo pos (starEach args env)).any (·.1) = false
  | [], _ => rfl
  | e :: r, h => by
    obtain ⟨h1, h2⟩ := noStarred_cons h
    rw [starEach_cons r h1]
    show (false || (backTo pos (starEach r env)).any (·.1)) = false
    rw [noStar pos h2]; rfl
theorem noStar_all (pos : Pos) : ∀ {args : List Expr}, noStarred args = true → (backTo pos (starEach args env)).all (fun x => !x.1) = true
  | [], _ => rfl
  | e :: r, h => by
    obtain ⟨h1, h2⟩ := noStarred_cons h
    rw [starEach_cons r h1]
    show (true && (backTo pos (starEach r env)).all (fun x => !x.1)) = true
    rw [noStar_all pos h2]; rfl

noncomputable def KSd (Γ : Ctx) (env : Env) (own : List Addr) (A : Around) (loc : Loc) (pos : Pos) (kws : List Keyword) (w : List O → (List (Str × D) → List O → Prop) → Prop) : Prop :=
  ∀ objs Q s ρ (Q' : List Value → Shared → Prop), Rep Γ env own ρ loc objs s → w objs Q →
    (∀ ds objs' ρ' vs s', Q ds objs' → Rep Γ env own ρ' loc objs' s' → Ext Γ.tabs ρ s ρ' s' → KAll Γ s'.heap ρ' (((backToKw pos (keywordEach kws env)).filterMap (·.1)).zip vs) ds → Q' vs s') →
    wpAny (model Γ.prog Γ.w) A (evalAll ((backToKw pos (keywordEach kws env)).map (·.2))) Q' NoE s
theorem ks_nil (pos : Pos) : KSd Γ env own A loc pos [] (fun o Q => Q [] o) := by
  intro objs Q s ρ Q' R hw k
  exact wpAny_pure (k [] objs ρ [] s hw R (Ext.refl _ _ _) .nil)
theorem ks_cons {pos p : Pos} {n : Str} {e : Expr} {r : List Keyword} {we : List O → Post → Prop} {wr : List O → (List (Str × D) → List O → Prop) → Prop} (he : ES Γ env own A loc (eval e env) we) (hr : KSd Γ env own A loc pos r wr) :
    KSd Γ env own A loc pos (⟨some n, e, p⟩ :: r) (fun o Q => we o fun d o1 => wr o1 fun ds o2 => Q ((n, d) :: ds) o2) := by
  intro objs Q s ρ Q' R hw k
  show wpAny _ _ (evalAll ((do let v ← eval e env; standAt pos; pure v) :: (backToKw pos (keywordEach r env)).map (·.2))) _ _ _
  refine wpAny_evalAll_cons (wpAny_bind (he _ _ _ _ _ R hw fun d o1 ρ1 v s1 h1 R1 x1 hv => wpAny_bind (wpAny_standAt (wpAny_pure ?_))))
  exact hr _ _ _ _ _ R1 h1 fun ds o2 ρ2 vs s2 h2 R2 x2 hvs => k _ _ _ _ _ h2 R2 (x1.trans x2) (.cons (hv.ext x2) hvs)
theorem kw_all (pos : Pos) : ∀ {kws : List Keyword}, kwNamed kws = true → (backToKw pos (keywordEach kws env)).all (·.1.isSome) = true ∧ (backToKw pos (keywordEach kws env)).any (·.1.isNone) = false
  | [], _ => ⟨rfl, rfl⟩
  | ⟨none, _, _⟩ :: _, h => by simp [kwNamed] at h
  | ⟨some n, e, p⟩ :: r, h => by
    have h2 : kwNamed r = true := by unfold kwNamed at h ⊢; rw [List.all_cons, Bool.and_eq_true] at h; exact h.2
    obtain ⟨a, b⟩ := kw_all pos h2
    exact ⟨by show (true && (backToKw pos (keywordEach r env)).all (·.1.isSome)) = true; rw [a]; rfl, by show (false || (backToKw pos (keywordEach r env)).any (·.1.isNone)) = false; rw [b]; rfl⟩

theorem args_ok {pos : Pos} {f : Value} {args : List Expr} {kws : List Keyword} {wa : List O → (List D → List O → Prop) → Prop} {wk : List O → (List (Str × D) → List O → Prop) → Prop} (hs : noStarred args = true) (hk : kwNamed kws = true)
    (ha : LS Γ env own A loc (spliced (backTo pos (starEach args env))) wa) (hK : KSd Γ env own A loc pos kws wk) {QD : List D → List (Str × D) → List O → Prop} {QA : Args → Shared → Prop}
    (R : Rep Γ env own ρ loc objs s) (hw : wa objs fun ds o1 => wk o1 fun ks o2 => QD ds ks o2)
    (k : ∀ ds ks objs' ρ' vs kvs s', QD ds ks objs' → Rep Γ env own ρ' loc objs' s' → Ext Γ.tabs ρ s ρ' s' → VAll Γ s'.heap ρ' vs ds → KAll Γ s'.heap ρ' kvs ks → QA ⟨vs, kvs⟩ s') :
    wpAny (model Γ.prog Γ.w) A (evalArgs f true (backTo pos (starEach args env)) (backToKw pos (keywordEach kws env))) QA NoE s := by
  have main : wpAny (model Γ.prog Γ.w) A (spliced (backTo pos (starEach args env))) (fun vs s₁ => wpAny (model Γ.prog Γ.w) A (evalAll ((backToKw pos (keywordEach kws env)).map (·.2))) (fun ks s₂ => QA ⟨vs, ((backToKw pos (keywordEach kws env)).filterMap (·.1)).zip ks⟩ s₂) NoE s₁) NoE s :=
    ha _ _ _ _ _ R hw fun ds o1 ρ1 vs s1 h1 R1 x1 hvs => hK _ _ _ _ _ R1 h1 fun ks o2 ρ2 kvs s2 h2 R2 x2 hkvs => k _ _ _ _ _ _ _ h2 R2 (x1.trans x2) (hvs.ext x2) hkvs
  cases args with
  | nil =>
    refine evalArgs_kw_nil (kw_all pos hk).1 ?_
    have e : spliced (backTo pos (starEach [] env)) = pure [] := rfl
    rw [e] at main
    exact fun Γ' p h => main Γ' p h Γ' p h
  | cons e r =>
    obtain ⟨h1, h2⟩ := noStarred_cons hs
    rw [starEach_cons r h1] at main ⊢
    exact evalArgs_kw (kw_all pos hk).1 main

theorem looks_fn {h : Heap} {a : Addr} (H : IsFn h a) : Looks (model Γ.prog Γ.w) h (keeperOf (.ref a)) Keeper.frame := by
  obtain ⟨ob, fd, e, hd⟩ := H
  refine (Looks.ld (part := none) e).andThen ?_
  obtain ⟨c, d, dt, sl⟩ := ob
  cases hd
  exact .now
theorem looks_built {h : Heap} {id : String} : Looks (model Γ.prog Γ.w) h (keeperOf (.builtin id)) Keeper.machine := .now
theorem looks_type {h : Heap} {id : String} : Looks (model Γ.prog Γ.w) h (keeperOf (.type id)) Keeper.machine := .now
end
end Mine

end
section
open PySem PySem.W PySem.Spec PySem.Calls PyProof.Rows
set_option Elab.async false
set_option maxRecDepth 100000
namespace Mine
section
variable {Γ : Ctx} {P : PCtx} {env : Env} {own ρ ρ₀ : List Addr} {A : Around} {loc : Loc} {s s₀ : Shared} {objs : List O} {Q : Post} {Q' : Value → Shared → Prop}

theorem ps_built (am : Amb Γ P env A) (id : String) : PS Γ A (fun vs => call (.builtin id) vs) (builtF P id) := by
  have hh := am.hh
  intro ds objs Q s ρ vs Q' B R hf hv hd
  cases hf with
  | lens h0 h =>
    obtain ⟨v, rfl, h1⟩ := hv.inv1; obtain ⟨t, rfl⟩ := h1.str_inv
    exact PySem.P.len_str (by omega) (hd.toks B R _ h (.int _ _))
  | @lenl n l g1 h0 h =>
    obtain ⟨v, rfl, h1⟩ := hv.inv1; obtain ⟨a, rfl, e1⟩ := h1.obj_inv
    obtain ⟨vs, n, h1, r1⟩ := R.list e1 g1
    have q : vs.toArray.size = l.length := by rw [List.size_toArray, r1.length]
    exact len_list (items := vs.toArray) ⟨_, h1, rfl, n, rfl⟩ (by rw [q]; omega) (q ▸ hd.toks B R (s.toks + 1 + 1) h (.int _ (s.toks + 1)))
  | @min2 a b h =>
    obtain ⟨v, w, rfl, h1, h2⟩ := hv.inv2; obtain ⟨t, rfl⟩ := h1.int_inv; obtain ⟨u, rfl⟩ := h2.int_inv
    refine min_two_ints hh fun h' tk k => ?_
    refine hd _ _ ρ _ _ h (B.keepAll (s' := { s with heap := h', toks := tk }) k rfl) (R.keep (s' := { s with heap := h', toks := tk }) k) (Ext.of_keep k rfl) ?_
    by_cases q : b < a
    · rw [if_pos q, Int.min_eq_right (Int.le_of_lt q)]; exact .int _ _
    · rw [if_neg q, Int.min_eq_left (Int.not_lt.mp q)]; exact .int _ _
  | @max2 a b h =>
    obtain ⟨v, w, rfl, h1, h2⟩ := hv.inv2; obtain ⟨t, rfl⟩ := h1.int_inv; obtain ⟨u, rfl⟩ := h2.int_inv
    refine max_two_ints hh fun h' tk k => ?_
    refine hd _ _ ρ _ _ h (B.keepAll (s' := { s with heap := h', toks := tk }) k rfl) (R.keep (s' := { s with heap := h', toks := tk }) k) (Ext.of_keep k rfl) ?_
    by_cases q : b > a
    · rw [if_pos q, Int.max_eq_right (Int.le_of_lt q)]; exact .int _ _
    · rw [if_neg q, Int.max_eq_left (Int.not_lt.mp q)]; exact .int _ _
  | lower h0 h =>
    obtain ⟨v, rfl, h1⟩ := hv.inv1; obtain ⟨t, rfl⟩ := h1.str_inv
    exact SC.lower (fit_lower (by omega)) (hd.toks B R _ h (.str _ _))
  | other h => exact am.oB _ _ _ _ _ _ _ _ B R h hv hd

theorem rng_vall {h : Heap} {acc : Array Value} {a b c : Int} {n : Nat} (hn : Builtin.Range.rangeSize a b c = n) (hs : acc.size = n) (it : ∀ (i : Nat) v, acc[i]? = some v → ∃ t, v = .int (a + (i : Int) * c) t) : VAll Γ h ρ acc.toList (rngD a b c) := by
  refine VAll.of_get (by unfold rngD; rw [Array.length_toList, List.length_map, List.length_range, hn, hs]; rfl) fun i d hd' => ?_
  unfold rngD at hd'
  rw [List.getElem?_map] at hd'
  obtain ⟨j, hj, rfl⟩ := Option.map_eq_some_iff.mp hd'
  obtain ⟨g1, g2⟩ := List.getElem?_eq_some_iff.mp hj
  rw [List.getElem_range] at g2
  subst g2
  rw [List.length_range, hn] at g1
  have g3 : i < acc.size := by rw [hs]; exact g1
  obtain ⟨tt, ht⟩ := it i acc[i] (Array.getElem?_eq_getElem g3)
  exact ⟨acc[i], by rw [Array.getElem?_toList, Array.getElem?_eq_getElem g3], by rw [ht]; exact .int _ _⟩
theorem ps_type (am : Amb Γ P env A) (T : String) : PS Γ A (fun vs => call (.type T) vs) (typeF P T) := by
  have hh := am.hh
  intro ds objs Q s ρ vs Q' B R hf hv hd
  have mkr : ∀ {a b c : Int} {t u v : Tok} {k : Nat}, Q (.rng a b c) objs → Q' (.ref s.heap.objs.size) { s with heap := s.heap.push { cls := .type "range", data := .fields #[.int a t, .int b u, .int c v] }, toks := k } := fun {a b c t u v k} hq =>
    hd _ _ ρ _ _ hq (B.push _ k) (R.pushed _) (Ext.of_keep (keep_push _ _) rfl) (.rng (IsRange.new _ _ _ _ _ _ _))
  cases hf with
  | r1 h => obtain ⟨v, rfl, h1⟩ := hv.inv1; obtain ⟨t, rfl⟩ := h1.int_inv; exact call_range_1 (mkr h)
  | r2 h => obtain ⟨v, w, rfl, h1, h2⟩ := hv.inv2; obtain ⟨t, rfl⟩ := h1.int_inv; obtain ⟨u, rfl⟩ := h2.int_inv; exact call_range_2 (mkr h)
  | r3 h0 h9 h =>
    obtain ⟨v, w, x, rfl, h1, h2, h3⟩ := hv.inv3; obtain ⟨t, rfl⟩ := h1.int_inv; obtain ⟨u, rfl⟩ := h2.int_inv; obtain ⟨u, rfl⟩ := h3.int_inv
    exact call_range_3 h0 (mkr h) (.inl (PyProof.noPylong_small (by omega)))
  | lst hs h0 hle hq =>
    obtain ⟨v, rfl, h1⟩ := hv.inv1
    obtain ⟨r, t, u, w, rfl, hr⟩ : ∃ r t u w, v = .ref r ∧ IsRange s.heap r _ _ _ t u w := by cases h1; exact ⟨_, _, _, _, rfl, by assumption⟩
    obtain ⟨n, hn⟩ := Int.eq_ofNat_of_zero_le h0
    refine call_list_range hh hr hs hn (by omega) fun h' tk acc c' kp e it => ?_
    have x : Ext Γ.tabs ρ s (ρ ++ [s.heap.objs.size]) { s with heap := h', toks := tk } := Ext.alloc (fresh_none _) kp rfl
    refine hd _ _ (ρ ++ [s.heap.objs.size]) _ _ hq (B.keepAll (s' := { s with heap := h', toks := tk }) kp rfl) ?_ x (.obj (by rw [List.getElem?_append_right (Nat.le_of_eq R.len), R.len, Nat.sub_self]; rfl))
    exact R.alloc (s' := { s with heap := h', toks := tk }) kp (fresh_none _) (fresh_base B) (fresh_tab B) ⟨acc.toList, c', e, rng_vall hn it.1 it.2⟩
  | other h => exact am.oB _ _ _ _ _ _ _ _ B R h hv hd
theorem get_ok (am : Amb Γ P env A) {value i : Expr} (hi : SubOk i) {a d : D} {va vi : Value} (B : Base Γ s) (R : ObjsRep Γ s.heap ρ objs) (hf : getF P a d objs Q) (ha : VIn Γ s.heap ρ va a) (hd' : VIn Γ s.heap ρ vi d) (hd : Done Γ ρ s Q Q') :
    wpAny (model Γ.prog Γ.w) A (subscriptTail value i va vi) Q' NoE s := by
  cases hf with
  | str h0 h9 hy h =>
    obtain ⟨t, rfl⟩ := ha.str_inv; obtain ⟨u, rfl⟩ := hd'.int_inv
    unfold strIdx at hy
    obtain ⟨c, hc, rfl⟩ := Option.map_eq_some_iff.mp hy
    exact tail_any (T := "str") rfl F.slot_str_getitem.lookup (PySem.P.getItem_str (by simp; omega) hc (hd.toks B R _ h (.str _ _))) (hi _ _)
  | @tup l d k h0 h9 g h =>
    obtain ⟨a, vs, n, rfl, h1, r1⟩ := ha.tup_inv; obtain ⟨u, rfl⟩ := hd'.int_inv
    obtain ⟨v, hv, hin⟩ := r1.get g
    have hlt := (List.getElem?_eq_some_iff.mp hv).1
    exact tail_any (T := "tuple") ⟨_, h1, rfl⟩ slot_tuple_getitem.lookup (PyProof.Rows.getItem_tuple ⟨_, h1, rfl, _, rfl⟩ (by omega) h9 (seqIndex_of h0 (by rw [List.size_toArray]; omega)) (by rw [List.getElem?_toArray]; exact hv) (hd.same B R h hin)) (hi _ _)
  | lst g1 h0 h9 g h =>
    obtain ⟨a, rfl, e1⟩ := ha.obj_inv; obtain ⟨u, rfl⟩ := hd'.int_inv
    obtain ⟨vs, n, h1, r1⟩ := R.list e1 g1
    obtain ⟨v, hv, hin⟩ := r1.get g
    exact tail_any (T := "list") ⟨_, h1, rfl⟩ F.slot_list_getitem.lookup (wpAny_getItem_list ⟨_, h1, rfl, _, rfl⟩ h0 h9 (by rw [List.getElem?_toArray]; exact hv) (hd.same B R h hin)) (hi _ _)
  | other h => exact am.oJ value i hi [_, _] objs Q s ρ [_, _] Q' B R h (.cons ha (.cons hd' .nil)) hd

theorem optI_val {d : D} {v : Value} {l : Option Int} (hv : VIn Γ s.heap ρ v d) (e : OptI d l) : ∃ p : Option (Int × Tok), v = partValue p ∧ p.map (·.1) = l := by
  cases e with
  | none => exact ⟨none, hv.none_inv, rfl⟩
  | int i => obtain ⟨t, rfl⟩ := hv.int_inv; exact ⟨some (i, t), rfl, rfl⟩

theorem slice_str {x : Str} {t : Tok} {l u : Option Int} {p : Pos} {value : Expr} {lo hi : Option Expr} {pl pu : Option (Int × Tok)} {s' : Shared} {r : Addr} (hr : s'.heap.get? r = some { cls := .type "slice", data := .fields #[partValue pl, partValue pu, .none] }) (hpl : pl.map (·.1) = l) (hpu : pu.map (·.1) = u) (hx : x.length ≤ 100000)
    (h : ∀ t k, Q' (.str (Txt.slice x l u) t) { s' with toks := k }) : wpAny (model Γ.prog Γ.w) A (subscriptTail value (.Slice lo hi none p) (.str x t) (.ref r)) Q' NoE s' := by
  refine tail_any (T := "str") rfl F.slot_str_getitem.lookup (wpAny_getItem_str_slice (l := pl) (u := pu) (st := none) ⟨_, hr, rfl, rfl⟩ rfl ?_) rfl
  have hle : (Txt.slice x l u).length ≤ x.length := Txt.slice_le x l u
  unfold Txt.slice at h hle
  unfold sliceMade slicePicked
  rw [hpl, hpu]
  simp only [Option.map_none, Option.getD_none] at *
  split at hle
  · rename_i q
    rw [if_pos q]
    rw [if_pos q] at h
    exact h _ s'.toks
  · rename_i q
    rw [if_neg q]
    rw [if_neg q] at h
    exact ⟨by rw [sizeLine_eq]; omega, h _ _⟩

theorem slice_ok {value : Expr} {lo hi : Option Expr} {p : Pos} {a dl dh : D} {va vl vh : Value} (B : Base Γ s) (R : ObjsRep Γ s.heap ρ objs) (hf : sliceF a dl dh objs Q) (ha : VIn Γ s.heap ρ va a) (hl : VIn Γ s.heap ρ vl dl) (hh : VIn Γ s.heap ρ vh dh) (hd : Done Γ ρ s Q Q') :
    wpAny (model Γ.prog Γ.w) A (subscriptTail value (.Slice lo hi none p) va (.ref s.heap.objs.size)) Q' NoE { s with heap := s.heap.push { cls := .type "slice", data := .fields #[vl, vh, .none] } } := by
  cases hf with
  | str o1 o2 hx h =>
    obtain ⟨t, rfl⟩ := ha.str_inv
    obtain ⟨pl, rfl, hpl⟩ := optI_val hl o1
    obtain ⟨pu, rfl, hpu⟩ := optI_val hh o2
    exact slice_str (Heap.get?_push_size _ rfl) hpl hpu hx fun t k => hd _ _ ρ _ _ h (B.push _ k) (R.pushed _) (Ext.of_keep (keep_push _ _) rfl) (.str _ _)
end
end Mine

end
section
open PySem PySem.W PySem.Spec PySem.Calls PyProof.Rows
set_option Elab.async false
set_option maxRecDepth 100000
set_option linter.unusedVariables false
namespace Mine
section
variable {Γ : Ctx} {P : PCtx} {env : Env} {own ρ ρ₀ : List Addr} {A : Around} {loc : Loc} {s s₀ : Shared} {objs : List O} {Q : Post} {Q' : Value → Shared → Prop}

theorem es_cmp (am : Amb Γ P env A) {l r : Expr} {wl wr : List O → Post → Prop} (op : CmpOp) (pos : Pos) (hl : ES Γ env own A loc (eval l env) wl) (hr : ES Γ env own A loc (eval r env) wr) :
    ES Γ env own A loc (eval (.Compare l [op] [r] pos) env) (fun o Q => behindInMarks op r = false ∧ wl o fun a o1 => wr o1 fun b o2 => cmpF P op a b o2 Q) := by
  intro objs Q s ρ Q' R hw k
  exact wpAny_Compare1 (es_two hl hr (ps_cmp am op) R hw.2 k) hw.1
theorem es_ifexp {t b e : Expr} {wt : List O → (Bool → List O → Prop) → Prop} {wb we : List O → Post → Prop} (pos : Pos) (ht : TS Γ env own A loc (isTrue t env (eval t env)) wt) (hb : ES Γ env own A loc (eval b env) wb) (he : ES Γ env own A loc (eval e env) we) :
    ES Γ env own A loc (eval (.IfExp t b e pos) env) (fun o Q => wt o fun c o1 => (c = true → wb o1 Q) ∧ (c = false → we o1 Q)) := by
  intro objs Q s ρ Q' R hw k
  refine wpAny_IfExp (ht _ _ _ _ _ R hw fun c o1 ρ1 s1 h1 R1 x1 => ?_)
  cases c with
  | true => exact hb _ _ _ _ _ R1 (h1.1 rfl) fun d o2 ρ2 v s2 h2 R2 x2 hv => k _ _ _ _ _ h2 R2 (x1.trans x2) hv
  | false => exact he _ _ _ _ _ R1 (h1.2 rfl) fun d o2 ρ2 v s2 h2 R2 x2 hv => k _ _ _ _ _ h2 R2 (x1.trans x2) hv
theorem es_or {a b : Expr} {wa wb : List O → Post → Prop} (pos : Pos) (ha : ES Γ env own A loc (eval a env) wa) (hb : ES Γ env own A loc (eval b env) wb) :
    ES Γ env own A loc (eval (.BoolOp .Or [a, b] pos) env) (fun o Q => wa o fun d o1 => truthP d fun c => (c = true → Q d o1) ∧ (c = false → wb o1 Q)) := by
  intro objs Q s ρ Q' R hw k
  refine wpAny_Or2 (ha _ _ _ _ _ R hw fun d o1 ρ1 v s1 h1 R1 x1 hv => truthy_ok hv h1 fun c kk hc => ?_)
  cases c with
  | true => exact k _ _ _ _ _ (hc.1 rfl) (R1.toks kk) (x1.trans (ext_toks _ kk)) hv
  | false => exact hb _ _ _ _ _ (R1.toks kk) (hc.2 rfl) fun d o2 ρ2 v s2 h2 R2 x2 hv => k _ _ _ _ _ h2 R2 ((x1.trans (ext_toks _ kk)).trans x2) hv
theorem es_and {a b : Expr} {wa wb : List O → Post → Prop} (pos : Pos) (ha : ES Γ env own A loc (eval a env) wa) (hb : ES Γ env own A loc (eval b env) wb) :
    ES Γ env own A loc (eval (.BoolOp .And [a, b] pos) env) (fun o Q => wa o fun d o1 => truthP d fun c => (c = true → wb o1 Q) ∧ (c = false → Q d o1)) := by
  intro objs Q s ρ Q' R hw k
  refine wpAny_And2 (ha _ _ _ _ _ R hw fun d o1 ρ1 v s1 h1 R1 x1 hv => truthy_ok hv h1 fun c kk hc => ?_)
  cases c with
  | false => exact k _ _ _ _ _ (hc.2 rfl) (R1.toks kk) (x1.trans (ext_toks _ kk)) hv
  | true => exact hb _ _ _ _ _ (R1.toks kk) (hc.1 rfl) fun d o2 ρ2 v s2 h2 R2 x2 hv => k _ _ _ _ _ h2 R2 ((x1.trans (ext_toks _ kk)).trans x2) hv
theorem meth_ok (am : Amb Γ P env A) {d : D} {v ov : Value} {m : Str} {pl : Sem Bool} {QQ : Value × List Value → Shared → Prop} (B : Base Γ s) (R : ObjsRep Γ s.heap ρ objs) (e : methV P d objs m = some v) (hv : VIn Γ s.heap ρ ov d)
    (h : QQ (v, [ov]) s) : wpAny (model Γ.prog Γ.w) A (getMethod ov m pl) QQ NoE s := by
  delta methV at e
  cases d with
  | str x =>
    obtain ⟨t, rfl⟩ := hv.str_inv
    dsimp only at e
    have nod : ∀ a, Value.str x t = .ref a → ∃ ob, s.heap.get? a = some ob ∧ ob.dict = none := fun _ q => by cases q
    have ty : s.TypeIs (.str x t) "str" := rfl
    repeat' split at e
    · rename_i q; subst q; cases e; with_reducible exact getMethod_builtin (id := "str.lower") ty F.plainAttrs_str F.slot_str_lower F.type_str_lower nod h
    · rename_i q; subst q; cases e; with_reducible exact getMethod_builtin (id := "str.upper") ty F.plainAttrs_str F.slot_str_upper F.type_str_upper nod h
    · rename_i q; subst q; cases e; with_reducible exact getMethod_builtin (id := "str.join") ty F.plainAttrs_str F.slot_str_join F.type_str_join nod h
    · rename_i q; subst q; cases e; with_reducible exact getMethod_builtin (id := "str.replace") ty F.plainAttrs_str F.slot_str_replace F.type_str_replace nod h
    · cases e
  | obj n =>
    obtain ⟨ad, rfl, e1⟩ := hv.obj_inv
    dsimp only at e
    cases g1 : objs[n]? with
    | none => rw [g1] at e; cases e
    | some oo =>
      rw [g1] at e
      cases oo with
      | list l =>
        dsimp only at e
        obtain ⟨vs, n, h1, r1⟩ := R.rel _ _ _ e1 g1
        have nod : ∀ a, Value.ref ad = .ref a → ∃ ob, s.heap.get? a = some ob ∧ ob.dict = none := fun a q => by cases q; exact ⟨_, h1, rfl⟩
        have ty : s.TypeIs (.ref ad) "list" := ⟨_, h1, rfl⟩
        repeat' split at e
        · rename_i q; subst q; cases e; with_reducible exact getMethod_builtin (id := "list.append") ty F.plainAttrs_list F.slot_list_append F.type_list_append nod h
        · rename_i q; subst q; cases e; with_reducible exact getMethod_builtin (id := "list.insert") ty F.plainAttrs_list F.slot_list_insert F.type_list_insert nod h
        · rename_i q; subst q; cases e; with_reducible exact getMethod_builtin (id := "list.index") ty F.plainAttrs_list F.slot_list_index F.type_list_index nod h
        · cases e
      | acc l dn =>
        dsimp only at e
        obtain ⟨vs, n, dx, h1, h2, r1⟩ := R.rel _ _ _ e1 g1
        cases g2 : objs[dn]? with
        | none => rw [g2] at e; cases e
        | some o2 =>
          rw [g2] at e
          cases o2 with
          | idict =>
            obtain ⟨mm, h3, h4⟩ := R.rel _ _ _ h2 g2
            exact am.M m v e _ _ _ _ _ s pl QQ B h1 h3 h4 h
          | _ => cases e
      | _ => cases e
  | _ => cases e
theorem call_ok (am : Amb Γ P env A) {pos : Pos} {v : Value} {first : List Value} {fd : List D} {args : List Expr} {kws : List Keyword} {wa : List O → (List D → List O → Prop) → Prop} {wk : List O → (List (Str × D) → List O → Prop) → Prop}
    (hs : noStarred args = true) (hk : kwNamed kws = true) (ha : LS Γ env own A loc (spliced (backTo pos (starEach args env))) wa) (hK : KSd Γ env own A loc pos kws wk)
    (R : Rep Γ env own ρ loc objs s) (x : Ext Γ.tabs ρ₀ s₀ ρ s) (hf : VAll Γ s.heap ρ first fd) (hw : wa objs fun ds o1 => wk o1 fun ks o2 => callF P v (fd ++ ds) ks o2 Q)
    (k : ∀ d objs' ρ' v s', Q d objs' → Rep Γ env own ρ' loc objs' s' → Ext Γ.tabs ρ₀ s₀ ρ' s' → VIn Γ s'.heap ρ' v d → Q' v s') :
    wpAny (model Γ.prog Γ.w) A (callWith pos v first (backTo pos (starEach args env)) (backToKw pos (keywordEach kws env))) Q' NoE s := by
  have hplain : ((backTo pos (starEach args env)).any (·.1) || (backToKw pos (keywordEach kws env)).any (·.1.isNone)) = false := by rw [noStar pos hs, (kw_all pos hk).2]; rfl
  have go : ∀ (PP : Heap → Prop), (∀ h, PP h → ∃ k, (k = Keeper.frame ∨ k = Keeper.machine ∨ k = Keeper.boundFrame) ∧ Looks (model Γ.prog Γ.w) h (keeperOf v) k) →
      (∀ ds ks objs' ρ' vs kvs s', callF P v ds ks objs' Q → Rep Γ env own ρ' loc objs' s' → Ext Γ.tabs ρ₀ s₀ ρ' s' → VAll Γ s'.heap ρ' vs ds → KAll Γ s'.heap ρ' kvs ks → PP s'.heap ∧ wpAny (model Γ.prog Γ.w) A (call v vs kvs) Q' NoE s') →
      wpAny (model Γ.prog Γ.w) A (callWith pos v first (backTo pos (starEach args env)) (backToKw pos (keywordEach kws env))) Q' NoE s := fun PP h1 h2 =>
    callWith_of hplain h1 (args_ok hs hk ha hK R hw fun ds ks o2 ρ2 vs kvs s2 h R2 x2 hv2 hk2 => h2 (fd ++ ds) ks o2 ρ2 (first ++ vs) kvs s2 h R2 (x.trans x2) ((hf.ext x2).append hv2) hk2)
  cases v with
  | builtin id =>
    refine go (fun _ => True) (fun _ _ => ⟨_, .inr (.inl rfl), looks_built⟩) fun ds ks o2 ρ2 vs kvs s2 h R2 x2 hv2 hk2 => ⟨trivial, ?_⟩
    obtain ⟨rfl, h⟩ := h
    cases hk2
    exact ps_built am id ds o2 Q s2 ρ2 vs Q' R2.base R2.objs h hv2 (doneOf R2 x2 k)
  | type T =>
    refine go (fun _ => True) (fun _ _ => ⟨_, .inr (.inl rfl), looks_type⟩) fun ds ks o2 ρ2 vs kvs s2 h R2 x2 hv2 hk2 => ⟨trivial, ?_⟩
    obtain ⟨rfl, h⟩ := h
    cases hk2
    exact ps_type am T ds o2 Q s2 ρ2 vs Q' R2.base R2.objs h hv2 (doneOf R2 x2 k)
  | ref a =>
    refine go (fun h => ∃ k, (k = Keeper.frame ∨ k = Keeper.machine ∨ k = Keeper.boundFrame) ∧ Looks (model Γ.prog Γ.w) h (keeperOf (.ref a)) k) (fun h H => H) fun ds ks o2 ρ2 vs kvs s2 h R2 x2 hv2 hk2 => ?_
    obtain ⟨h1, h3⟩ := am.C a ds ks o2 Q s2 ρ2 vs kvs Q' R2.base R2.objs h hv2 hk2 (doneOf R2 x2 k)
    exact ⟨h1, h3⟩
  | none => exact go (fun _ => False) (fun _ h => h.elim) fun _ _ _ _ _ _ _ h => h.elim
  | ellipsis => exact go (fun _ => False) (fun _ h => h.elim) fun _ _ _ _ _ _ _ h => h.elim
  | notImplemented => exact go (fun _ => False) (fun _ h => h.elim) fun _ _ _ _ _ _ _ h => h.elim
  | bool _ => exact go (fun _ => False) (fun _ h => h.elim) fun _ _ _ _ _ _ _ h => h.elim
  | int _ _ => exact go (fun _ => False) (fun _ h => h.elim) fun _ _ _ _ _ _ _ h => h.elim
  | float _ _ => exact go (fun _ => False) (fun _ h => h.elim) fun _ _ _ _ _ _ _ h => h.elim
  | str _ _ => exact go (fun _ => False) (fun _ h => h.elim) fun _ _ _ _ _ _ _ h => h.elim
  | bytes _ _ => exact go (fun _ => False) (fun _ h => h.elim) fun _ _ _ _ _ _ _ h => h.elim

theorem es_call (am : Amb Γ P env A) {f : Str} {fp pos : Pos} {args : List Expr} {kws : List Keyword} {wa : List O → (List D → List O → Prop) → Prop} {wk : List O → (List (Str × D) → List O → Prop) → Prop}
    (ha : noStarred args = true → LS Γ env own A loc (spliced (backTo pos (starEach args env))) wa) (hK : KSd Γ env own A loc pos kws wk) :
    ES Γ env own A loc (eval (.Call (.Name f fp) args kws pos) env) (fun o Q => match nameF P loc f with
      | some (.fn v) => (noStarred args && kwNamed kws) = true ∧ wa o fun ds o1 => wk o1 fun ks o2 => callF P v ds ks o2 Q
      | _ => False) := by
  intro objs Q s ρ Q' R hw k
  split at hw
  · rename_i v e
    obtain ⟨hp, hw⟩ := hw
    rw [Bool.and_eq_true] at hp
    refine wpAny_Call_ofName (wpAny_Name (load_name am R e fun v' hv' => ?_) (name_nd am e))
    cases hv'
    exact call_ok am hp.1 hp.2 (ha hp.1) hK R (Ext.refl _ _ _) .nil hw k
  · exact hw.elim

theorem es_meth (am : Amb Γ P env A) {b : Expr} {m : Str} {ap pos : Pos} {args : List Expr} {wb : List O → Post → Prop} {wa : List O → (List D → List O → Prop) → Prop} (hb : ES Γ env own A loc (eval b env) wb)
    (ha : noStarred args = true → LS Γ env own A loc (spliced (backTo pos (starEach args env))) wa) :
    ES Γ env own A loc (eval (.Call (.Attribute b m ap) args [] pos) env) (fun o Q => (NoSup b ∧ (ap.endLine == pos.line && noStarred args && decide (args.length < 29)) = true) ∧ wb o fun d o1 =>
      (match methV P d o1 m with | some v => wa o1 fun ds o2 => callF P v (d :: ds) [] o2 Q | none => False)) := by
  intro objs Q s ρ Q' R hw k
  obtain ⟨hc, hw⟩ := hw
  obtain ⟨h1, hc⟩ := hc
  rw [Bool.and_eq_true, Bool.and_eq_true] at hc
  obtain ⟨⟨h2, h3⟩, h4⟩ := hc
  replace h4 := of_decide_eq_true h4
  rw [arm_eval_Call, h1]
  refine wpAny_bind (hb _ _ _ _ _ R hw fun d o1 ρ1 ov s1 g1 R1 x1 hv => ?_)
  split at g1
  · rename_i v e
    refine wpAny_bind (wpAny_standAt ?_)
    have hform : methodCallForm (args.length + ([] : List Keyword).length) (backTo pos (starEach args env)) (backToKw pos (keywordEach [] env)) = true := by
      show (((backTo pos (starEach args env)).all (fun x => !x.1) && true) && decide (args.length + 0 + 0 < 30)) = true
      rw [noStar_all pos h3]
      simp
      omega
    have hpos : methodCallPos true b env ap pos = pure pos := by unfold methodCallPos; simp [h2]
    unfold methodCall
    rw [hform]
    refine wpAny_bind (wpAny_holding ?_)
    show wpAny _ _ (getMethod ov m _) _ _ _
    refine meth_ok am R1.base R1.objs e hv ?_
    refine wpAny_bind (wpAny_of_eq hpos ?_)
    exact call_ok am h3 rfl (ha h3) (ks_nil pos) R1 x1 (.cons hv .nil) g1 k
  · exact g1.elim
theorem es_sub (am : Amb Γ P env A) {v i : Expr} {wv wi : List O → Post → Prop} (pos : Pos) (hv : ES Γ env own A loc (eval v env) wv) (hi : ES Γ env own A loc (eval i env) wi) :
    ES Γ env own A loc (eval (.Subscript v i pos) env) (fun o Q => SubOk i ∧ wv o fun d o1 => wi o1 fun k o2 => getF P d k o2 Q) := by
  intro objs Q s ρ Q' R hw k
  exact Subscript_ (hv _ _ _ _ _ R hw.2 fun d o1 ρ1 va s1 h1 R1 x1 hva => hi _ _ _ _ _ R1 h1 fun d2 o2 ρ2 vi s2 h2 R2 x2 hvi =>
    get_ok am hw.1 R2.base R2.objs h2 (hva.ext x2) hvi (doneOf R2 (x1.trans x2) k))
noncomputable def OS (Γ : Ctx) (env : Env) (own : List Addr) (A : Around) (loc : Loc) (e : Option Expr) (w : List O → Post → Prop) : Prop := ES Γ env own A loc (evalPart e env) w
theorem es_slice {v : Expr} {lo hi : Option Expr} {wv wl wh : List O → Post → Prop} (p pos : Pos) (hv : ES Γ env own A loc (eval v env) wv) (hl : OS Γ env own A loc lo wl) (hh : OS Γ env own A loc hi wh) :
    ES Γ env own A loc (eval (.Subscript v (.Slice lo hi none p) pos) env) (fun o Q => wv o fun d o1 => wl o1 fun l o2 => wh o2 fun h o3 => sliceF d l h o3 Q) := by
  intro objs Q s ρ Q' R hw k
  refine Subscript_ (hv _ _ _ _ _ R hw fun d o1 ρ1 va s1 h1 R1 x1 hva => wpAny_Slice (hl _ _ _ _ _ R1 h1 fun dl o2 ρ2 vl s2 h2 R2 x2 hvl => hh _ _ _ _ _ R2 h2 fun dh o3 ρ3 vh s3 h3 R3 x3 hvh => ?_))
  exact evalPart_none_step (slice_ok R3.base R3.objs h3 ((hva.ext x2).ext x3) (hvl.ext x3) hvh (doneOf R3 ((x1.trans x2).trans x3) k))
theorem es_list {es : List Expr} {w : List O → (List D → List O → Prop) → Prop} (pos : Pos) (h : noStarred es = true → LS Γ env own A loc (spliced (backTo pos (starEach es env))) w) :
    ES Γ env own A loc (eval (.List es pos) env) (fun o Q => noStarred es = true ∧ w o fun ds o1 => ds.length ≤ 1000 ∧ Q (.obj o1.length) (o1 ++ [.list ds])) := by
  intro objs Q s ρ Q' R hw k
  refine wpAny_List_spliced (h hw.1 _ _ _ _ _ R hw.2 fun ds o1 ρ1 vs s1 h1 R1 x1 hvs => ⟨by rw [sizeLine_eq, hvs.length]; omega, ?_⟩)
  exact (doneOf R1 x1 k).newList R1.base R1.objs hvs s1.toks h1.2
theorem es_tuple {es : List Expr} {w : List O → (List D → List O → Prop) → Prop} (kk : Nat) (pos : Pos) (h : noStarred es = true → LS Γ env own A loc (spliced (backTo pos (starEach es env))) w) :
    ES Γ env own A loc (eval (.Tuple es kk pos) env) (fun o Q => noStarred es = true ∧ w o fun ds o1 => ds.length ≤ 1000 ∧ Q (.tup ds) o1) := by
  intro objs Q s ρ Q' R hw k
  refine wpAny_Tuple_spliced (h hw.1 _ _ _ _ _ R hw.2 fun ds o1 ρ1 vs s1 h1 R1 x1 hvs => ⟨by rw [sizeLine_eq, hvs.length]; omega, ?_⟩)
  exact (doneOf R1 x1 k).newTup R1.base R1.objs hvs s1.toks h1.2
end
end Mine

end
section
open PySem PySem.W PySem.Spec PySem.Calls PyProof.Rows
set_option Elab.async false
set_option maxRecDepth 100000
set_option linter.unusedVariables false
namespace Mine
section
variable {Γ : Ctx} {P : PCtx} {env : Env} {own : List Addr} {A : Around}

theorem ts_not {x : Expr} {loc : Loc} {w : List O → (Bool → List O → Prop) → Prop} (p : Pos) (t : Sem Value) (h : TS Γ env own A loc (isTrue x env (eval x env)) w) :
    TS Γ env own A loc (isTrue (.UnaryOp .Not x p) env t) (fun o Q => w o fun b o1 => Q (!b) o1) := by
  intro objs Q s ρ Q' R hw k
  exact wpAny_isTrue_Not (h _ _ _ _ _ R hw fun b o1 ρ1 s1 h1 R1 x1 => k _ _ _ _ h1 R1 x1)
theorem ts_cmp (am : Amb Γ P env A) {l r : Expr} {loc : Loc} {wl wr : List O → Post → Prop} (op : CmpOp) (pos : Pos) (t : Sem Value) (hl : ES Γ env own A loc (eval l env) wl) (hr : ES Γ env own A loc (eval r env) wr) :
    TS Γ env own A loc (isTrue (.Compare l [op] [r] pos) env t) (fun o Q => behindInMarks op r = false ∧ wl o fun a o1 => wr o1 fun b o2 => cmpF P op a b o2 fun d o3 => truthP d fun c => Q c o3) := by
  intro objs Q s ρ Q' R hw k
  refine wpAny_isTrue_Compare1 (es_two (t := compareOp op) (Q' := fun c s₃ => wpAny (model Γ.prog Γ.w) A (truthy c) Q' NoE s₃) hl hr (ps_cmp am op) R hw.2 fun d o3 ρ3 v s3 h3 R3 x3 hv => ?_) hw.1
  exact truthy_ok hv h3 fun b kk hb => k b o3 ρ3 _ hb (R3.toks kk) (x3.trans (ext_toks _ kk))
theorem ts_plain {e : Expr} {loc : Loc} {w : List O → Post → Prop} (he : isTrue e env (eval e env) = (do let v ← eval e env; standAt e.pos; holding [v] (truthy v))) (h : ES Γ env own A loc (eval e env) w) :
    TS Γ env own A loc (isTrue e env (eval e env)) (fun o Q => w o fun d o1 => truthP d fun c => Q c o1) := by
  intro objs Q s ρ Q' R hw k
  exact wpAny_isTrue_value (ts_of_es h R hw k) he

theorem ts_and {vs : List Expr} {loc : Loc} {w : List O → (Bool → List O → Prop) → Prop} (p : Pos) (t : Sem Value) (h : TS Γ env own A loc (allTrue .And vs env) w) : TS Γ env own A loc (isTrue (.BoolOp .And vs p) env t) w :=
  fun objs Q s ρ Q' R hw k => wpAny_isTrue_BoolOp (h objs Q s ρ Q' R hw k)
theorem ts_or {vs : List Expr} {loc : Loc} {w : List O → (Bool → List O → Prop) → Prop} (p : Pos) (t : Sem Value) (h : TS Γ env own A loc (allTrue .Or vs env) w) : TS Γ env own A loc (isTrue (.BoolOp .Or vs p) env t) w :=
  fun objs Q s ρ Q' R hw k => wpAny_isTrue_BoolOp (h objs Q s ρ Q' R hw k)
theorem ts_andc {e : Expr} {r : List Expr} {loc : Loc} {we wr : List O → (Bool → List O → Prop) → Prop} (he : TS Γ env own A loc (isTrue e env (eval e env)) we) (hr : TS Γ env own A loc (allTrue .And r env) wr) :
    TS Γ env own A loc (allTrue .And (e :: r) env) (fun o Q => we o fun b o1 => (b = true → wr o1 Q) ∧ (b = false → Q false o1)) := by
  intro objs Q s ρ Q' R hw k
  refine wpAny_allTrue_And_cons (he _ _ _ _ _ R hw fun b o1 ρ1 s1 h1 R1 x1 => ?_)
  cases b with
  | true => exact hr _ _ _ _ _ R1 (h1.1 rfl) fun b o2 ρ2 s2 h2 R2 x2 => k _ _ _ _ h2 R2 (x1.trans x2)
  | false => exact k _ _ _ _ (h1.2 rfl) R1 x1
theorem ts_orc {e : Expr} {r : List Expr} {loc : Loc} {we wr : List O → (Bool → List O → Prop) → Prop} (he : TS Γ env own A loc (isTrue e env (eval e env)) we) (hr : TS Γ env own A loc (allTrue .Or r env) wr) :
    TS Γ env own A loc (allTrue .Or (e :: r) env) (fun o Q => we o fun b o1 => (b = true → Q true o1) ∧ (b = false → wr o1 Q)) := by
  intro objs Q s ρ Q' R hw k
  refine wpAny_allTrue_Or_cons (he _ _ _ _ _ R hw fun b o1 ρ1 s1 h1 R1 x1 => ?_)
  cases b with
  | true => exact k _ _ _ _ (h1.1 rfl) R1 x1
  | false => exact hr _ _ _ _ _ R1 (h1.2 rfl) fun b o2 ρ2 s2 h2 R2 x2 => k _ _ _ _ h2 R2 (x1.trans x2)
theorem ts_name {loc : Loc} (am : Amb Γ P env A) (x : Str) (p : Pos) : TS Γ env own A loc (isTrue (.Name x p) env (eval (.Name x p) env)) (fun o Q => match nameF P loc x with | some d => truthP d fun c => Q c o | none => False) := by
  intro objs Q s ρ Q' R hw k
  refine wpAny_isTrue_value (ts_of_es (es_name am x p) R ?_ k) rfl
  generalize nameF P loc x = z at hw ⊢
  cases z with
  | some d => exact hw
  | none => exact hw.elim

mutual
theorem WE_sound (am : Amb Γ P env A) : ∀ (e : Expr) (loc : Loc), ES Γ env own A loc (eval e env) (WE P e loc)
  | .Constant c k p, loc => es_const c k p
  | .Name x p, loc => es_name am x p
  | .BinOp l op r p, loc => es_bin op p (WE_sound am l loc) (WE_sound am r loc)
  | .Compare l ops cs p, loc => match ops, cs with
    | [op], [r] => es_cmp am op p (WE_sound am l loc) (WE_sound am r loc)
    | [], _ => fun _ _ _ _ _ _ hw _ => hw.elim
    | _ :: _ :: _, _ => fun _ _ _ _ _ _ hw _ => hw.elim
    | [_], [] => fun _ _ _ _ _ _ hw _ => hw.elim
    | [_], _ :: _ :: _ => fun _ _ _ _ _ _ hw _ => hw.elim
  | .IfExp t b e p, loc => es_ifexp p (WT_sound am t loc) (WE_sound am b loc) (WE_sound am e loc)
  | .BoolOp op vs p, loc => match op, vs with
    | .Or, [a, b] => es_or p (WE_sound am a loc) (WE_sound am b loc)
    | .Or, [] => fun _ _ _ _ _ _ hw _ => hw.elim
    | .Or, [_] => fun _ _ _ _ _ _ hw _ => hw.elim
    | .Or, _ :: _ :: _ :: _ => fun _ _ _ _ _ _ hw _ => hw.elim
    | .And, [a, b] => es_and p (WE_sound am a loc) (WE_sound am b loc)
    | .And, [] => fun _ _ _ _ _ _ hw _ => hw.elim
    | .And, [_] => fun _ _ _ _ _ _ hw _ => hw.elim
    | .And, _ :: _ :: _ :: _ => fun _ _ _ _ _ _ hw _ => hw.elim
  | .Call (.Name f fp) args kws p, loc => es_call am (fun hs => WEs_sound am args loc p hs) (WKs_sound am kws loc p)
  | .Call (.Attribute b m ap) args [] p, loc => es_meth am (WE_sound am b loc) (fun hs => WEs_sound am args loc p hs)
  | .Subscript v (.Slice lo hi none sp) p, loc => es_slice sp p (WE_sound am v loc) (WO_sound am lo loc) (WO_sound am hi loc)
  | .List es p, loc => es_list p (fun hs => WEs_sound am es loc p hs)
  | .Tuple es k p, loc => es_tuple k p (fun hs => WEs_sound am es loc p hs)
  | .Call (.BoolOp _ _ _) _ _ _, loc => fun _ _ _ _ _ _ hw _ => hw.elim
  | .Call (.NamedExpr _ _ _) _ _ _, loc => fun _ _ _ _ _ _ hw _ => hw.elim
  | .Call (.BinOp _ _ _ _) _ _ _, loc => fun _ _ _ _ _ _ hw _ => hw.elim
  | .Call (.UnaryOp _ _ _) _ _ _, loc => fun _ _ _ _ _ _ hw _ => hw.elim
  | .Call (.Lambda _ _ _ _) _ _ _, loc => fun _ _ _ _ _ _ hw _ => hw.elim
  | .Call (.IfExp _ _ _ _) _ _ _, loc => fun _ _ _ _ _ _ hw _ => hw.elim
  | .Call (.Dict _ _ _) _ _ _, loc => fun _ _ _ _ _ _ hw _ => hw.elim
  | .Call (.Set _ _ _) _ _ _, loc => fun _ _ _ _ _ _ hw _ => hw.elim
  | .Call (.ListComp _ _ _ _) _ _ _, loc => fun _ _ _ _ _ _ hw _ => hw.elim
  | .Call (.SetComp _ _ _ _) _ _ _, loc => fun _ _ _ _ _ _ hw _ => hw.elim
  | .Call (.DictComp _ _ _ _ _) _ _ _, loc => fun _ _ _ _ _ _ hw _ => hw.elim
  | .Call (.GeneratorExp _ _ _ _) _ _ _, loc => fun _ _ _ _ _ _ hw _ => hw.elim
  | .Call (.Await _ _) _ _ _, loc => fun _ _ _ _ _ _ hw _ => hw.elim
  | .Call (.Yield _ _) _ _ _, loc => fun _ _ _ _ _ _ hw _ => hw.elim
  | .Call (.YieldFrom _ _) _ _ _, loc => fun _ _ _ _ _ _ hw _ => hw.elim
  | .Call (.Compare _ _ _ _) _ _ _, loc => fun _ _ _ _ _ _ hw _ => hw.elim
  | .Call (.Call _ _ _ _) _ _ _, loc => fun _ _ _ _ _ _ hw _ => hw.elim
  | .Call (.FormattedValue _ _ _ _) _ _ _, loc => fun _ _ _ _ _ _ hw _ => hw.elim
  | .Call (.JoinedStr _ _) _ _ _, loc => fun _ _ _ _ _ _ hw _ => hw.elim
  | .Call (.Constant _ _ _) _ _ _, loc => fun _ _ _ _ _ _ hw _ => hw.elim
  | .Call (.Subscript _ _ _) _ _ _, loc => fun _ _ _ _ _ _ hw _ => hw.elim
  | .Call (.Starred _ _) _ _ _, loc => fun _ _ _ _ _ _ hw _ => hw.elim
  | .Call (.List _ _) _ _ _, loc => fun _ _ _ _ _ _ hw _ => hw.elim
  | .Call (.Tuple _ _ _) _ _ _, loc => fun _ _ _ _ _ _ hw _ => hw.elim
  | .Call (.Slice _ _ _ _) _ _ _, loc => fun _ _ _ _ _ _ hw _ => hw.elim
  | .Call (.Attribute _ _ _) _ (_ :: _) _, loc => fun _ _ _ _ _ _ hw _ => hw.elim
  | .Subscript v (.BoolOp y0 y1 y2) p, loc => es_sub am p (WE_sound am v loc) (WE_sound am (.BoolOp y0 y1 y2) loc)
  | .Subscript v (.NamedExpr y0 y1 y2) p, loc => es_sub am p (WE_sound am v loc) (WE_sound am (.NamedExpr y0 y1 y2) loc)
  | .Subscript v (.BinOp y0 y1 y2 y3) p, loc => es_sub am p (WE_sound am v loc) (WE_sound am (.BinOp y0 y1 y2 y3) loc)
  | .Subscript v (.UnaryOp y0 y1 y2) p, loc => es_sub am p (WE_sound am v loc) (WE_sound am (.UnaryOp y0 y1 y2) loc)
  | .Subscript v (.Lambda y0 y1 y2 y3) p, loc => es_sub am p (WE_sound am v loc) (WE_sound am (.Lambda y0 y1 y2 y3) loc)
  | .Subscript v (.IfExp y0 y1 y2 y3) p, loc => es_sub am p (WE_sound am v loc) (WE_sound am (.IfExp y0 y1 y2 y3) loc)
  | .Subscript v (.Dict y0 y1 y2) p, loc => es_sub am p (WE_sound am v loc) (WE_sound am (.Dict y0 y1 y2) loc)
  | .Subscript v (.Set y0 y1 y2) p, loc => es_sub am p (WE_sound am v loc) (WE_sound am (.Set y0 y1 y2) loc)
  | .Subscript v (.ListComp y0 y1 y2 y3) p, loc => es_sub am p (WE_sound am v loc) (WE_sound am (.ListComp y0 y1 y2 y3) loc)
  | .Subscript v (.SetComp y0 y1 y2 y3) p, loc => es_sub am p (WE_sound am v loc) (WE_sound am (.SetComp y0 y1 y2 y3) loc)
  | .Subscript v (.DictComp y0 y1 y2 y3 y4) p, loc => es_sub am p (WE_sound am v loc) (WE_sound am (.DictComp y0 y1 y2 y3 y4) loc)
  | .Subscript v (.GeneratorExp y0 y1 y2 y3) p, loc => es_sub am p (WE_sound am v loc) (WE_sound am (.GeneratorExp y0 y1 y2 y3) loc)
  | .Subscript v (.Await y0 y1) p, loc => es_sub am p (WE_sound am v loc) (WE_sound am (.Await y0 y1) loc)
  | .Subscript v (.Yield y0 y1) p, loc => es_sub am p (WE_sound am v loc) (WE_sound am (.Yield y0 y1) loc)
  | .Subscript v (.YieldFrom y0 y1) p, loc => es_sub am p (WE_sound am v loc) (WE_sound am (.YieldFrom y0 y1) loc)
  | .Subscript v (.Compare y0 y1 y2 y3) p, loc => es_sub am p (WE_sound am v loc) (WE_sound am (.Compare y0 y1 y2 y3) loc)
  | .Subscript v (.Call y0 y1 y2 y3) p, loc => es_sub am p (WE_sound am v loc) (WE_sound am (.Call y0 y1 y2 y3) loc)
  | .Subscript v (.FormattedValue y0 y1 y2 y3) p, loc => es_sub am p (WE_sound am v loc) (WE_sound am (.FormattedValue y0 y1 y2 y3) loc)
  | .Subscript v (.JoinedStr y0 y1) p, loc => es_sub am p (WE_sound am v loc) (WE_sound am (.JoinedStr y0 y1) loc)
  | .Subscript v (.Constant y0 y1 y2) p, loc => es_sub am p (WE_sound am v loc) (WE_sound am (.Constant y0 y1 y2) loc)
  | .Subscript v (.Attribute y0 y1 y2) p, loc => es_sub am p (WE_sound am v loc) (WE_sound am (.Attribute y0 y1 y2) loc)
  | .Subscript v (.Subscript y0 y1 y2) p, loc => es_sub am p (WE_sound am v loc) (WE_sound am (.Subscript y0 y1 y2) loc)
  | .Subscript v (.Starred y0 y1) p, loc => es_sub am p (WE_sound am v loc) (WE_sound am (.Starred y0 y1) loc)
  | .Subscript v (.Name y0 y1) p, loc => es_sub am p (WE_sound am v loc) (WE_sound am (.Name y0 y1) loc)
  | .Subscript v (.List y0 y1) p, loc => es_sub am p (WE_sound am v loc) (WE_sound am (.List y0 y1) loc)
  | .Subscript v (.Tuple y0 y1 y2) p, loc => es_sub am p (WE_sound am v loc) (WE_sound am (.Tuple y0 y1 y2) loc)
  | .Subscript v (.Slice lo hi (some st) sp) p, loc => am.oX _ _ loc
  | .NamedExpr _ _ _, loc => fun _ _ _ _ _ _ hw _ => hw.elim
  | .UnaryOp _ _ _, loc => fun _ _ _ _ _ _ hw _ => hw.elim
  | .Lambda y0 y1 y2 y3, loc => am.oX _ _ loc
  | .Dict y0 y1 y2, loc => am.oX _ _ loc
  | .Set _ _ _, loc => fun _ _ _ _ _ _ hw _ => hw.elim
  | .ListComp y0 y1 y2 y3, loc => am.oX _ _ loc
  | .SetComp _ _ _ _, loc => fun _ _ _ _ _ _ hw _ => hw.elim
  | .DictComp _ _ _ _ _, loc => fun _ _ _ _ _ _ hw _ => hw.elim
  | .GeneratorExp y0 y1 y2 y3, loc => am.oX _ _ loc
  | .Await _ _, loc => fun _ _ _ _ _ _ hw _ => hw.elim
  | .Yield _ _, loc => fun _ _ _ _ _ _ hw _ => hw.elim
  | .YieldFrom _ _, loc => fun _ _ _ _ _ _ hw _ => hw.elim
  | .FormattedValue _ _ _ _, loc => fun _ _ _ _ _ _ hw _ => hw.elim
  | .JoinedStr _ _, loc => fun _ _ _ _ _ _ hw _ => hw.elim
  | .Attribute _ _ _, loc => fun _ _ _ _ _ _ hw _ => hw.elim
  | .Starred _ _, loc => fun _ _ _ _ _ _ hw _ => hw.elim
  | .Slice _ _ _ _, loc => fun _ _ _ _ _ _ hw _ => hw.elim
theorem WO_sound (am : Amb Γ P env A) : ∀ (e : Option Expr) (loc : Loc), OS Γ env own A loc e (WO P e loc)
  | none, loc => fun _ _ _ _ _ R hw k => wpAny_pure (k _ _ _ _ _ hw R (Ext.refl _ _ _) .none)
  | some e, loc => WE_sound am e loc
theorem WEs_sound (am : Amb Γ P env A) : ∀ (es : List Expr) (loc : Loc) (p : Pos), noStarred es = true → LS Γ env own A loc (spliced (backTo p (starEach es env))) (WEs P es loc)
  | [], loc, p, _ => ls_nil p
  | e :: r, loc, p, h => ls_cons (noStarred_cons h).1 (WE_sound am e loc) (WEs_sound am r loc p (noStarred_cons h).2)
theorem WKs_sound (am : Amb Γ P env A) : ∀ (ks : List Keyword) (loc : Loc) (p : Pos), KSd Γ env own A loc p ks (WKs P ks loc)
  | [], loc, p => ks_nil p
  | ⟨some n, e, q⟩ :: r, loc, p => ks_cons (WE_sound am e loc) (WKs_sound am r loc p)
  | ⟨none, e, q⟩ :: r, loc, p => fun _ _ _ _ _ _ hw _ => hw.elim
theorem WT_sound (am : Amb Γ P env A) : ∀ (e : Expr) (loc : Loc), TS Γ env own A loc (isTrue e env (eval e env)) (WT P e loc)
  | .UnaryOp .Not x p, loc => ts_not p _ (WT_sound am x loc)
  | .BoolOp .And vs p, loc => ts_and p _ (WAnd_sound am vs loc)
  | .BoolOp .Or vs p, loc => ts_or p _ (WOr_sound am vs loc)
  | .Compare l ops cs p, loc => match ops, cs with
    | [op], [r] => ts_cmp am op p _ (WE_sound am l loc) (WE_sound am r loc)
    | [], _ => fun _ _ _ _ _ _ hw _ => hw.elim
    | _ :: _ :: _, _ => fun _ _ _ _ _ _ hw _ => hw.elim
    | [_], [] => fun _ _ _ _ _ _ hw _ => hw.elim
    | [_], _ :: _ :: _ => fun _ _ _ _ _ _ hw _ => hw.elim
  | .Name x p, loc => ts_name am x p
  | .Subscript v (.Slice lo hi none sp) p, loc => ts_plain rfl (es_slice sp p (WE_sound am v loc) (WO_sound am lo loc) (WO_sound am hi loc))
  | .Subscript v (.Slice lo hi (some st) sp) p, loc => fun _ _ _ _ _ _ hw _ => hw.elim
  | .Subscript _ (.BoolOp _ _ _) _, loc => fun _ _ _ _ _ _ hw _ => hw.elim
  | .Subscript _ (.NamedExpr _ _ _) _, loc => fun _ _ _ _ _ _ hw _ => hw.elim
  | .Subscript _ (.BinOp _ _ _ _) _, loc => fun _ _ _ _ _ _ hw _ => hw.elim
  | .Subscript _ (.UnaryOp _ _ _) _, loc => fun _ _ _ _ _ _ hw _ => hw.elim
  | .Subscript _ (.Lambda _ _ _ _) _, loc => fun _ _ _ _ _ _ hw _ => hw.elim
  | .Subscript _ (.IfExp _ _ _ _) _, loc => fun _ _ _ _ _ _ hw _ => hw.elim
  | .Subscript _ (.Dict _ _ _) _, loc => fun _ _ _ _ _ _ hw _ => hw.elim
  | .Subscript _ (.Set _ _ _) _, loc => fun _ _ _ _ _ _ hw _ => hw.elim
  | .Subscript _ (.ListComp _ _ _ _) _, loc => fun _ _ _ _ _ _ hw _ => hw.elim
  | .Subscript _ (.SetComp _ _ _ _) _, loc => fun _ _ _ _ _ _ hw _ => hw.elim
  | .Subscript _ (.DictComp _ _ _ _ _) _, loc => fun _ _ _ _ _ _ hw _ => hw.elim
  | .Subscript _ (.GeneratorExp _ _ _ _) _, loc => fun _ _ _ _ _ _ hw _ => hw.elim
  | .Subscript _ (.Await _ _) _, loc => fun _ _ _ _ _ _ hw _ => hw.elim
  | .Subscript _ (.Yield _ _) _, loc => fun _ _ _ _ _ _ hw _ => hw.elim
  | .Subscript _ (.YieldFrom _ _) _, loc => fun _ _ _ _ _ _ hw _ => hw.elim
  | .Subscript _ (.Compare _ _ _ _) _, loc => fun _ _ _ _ _ _ hw _ => hw.elim
  | .Subscript _ (.Call _ _ _ _) _, loc => fun _ _ _ _ _ _ hw _ => hw.elim
  | .Subscript _ (.FormattedValue _ _ _ _) _, loc => fun _ _ _ _ _ _ hw _ => hw.elim
  | .Subscript _ (.JoinedStr _ _) _, loc => fun _ _ _ _ _ _ hw _ => hw.elim
  | .Subscript _ (.Constant _ _ _) _, loc => fun _ _ _ _ _ _ hw _ => hw.elim
  | .Subscript _ (.Attribute _ _ _) _, loc => fun _ _ _ _ _ _ hw _ => hw.elim
  | .Subscript _ (.Subscript _ _ _) _, loc => fun _ _ _ _ _ _ hw _ => hw.elim
  | .Subscript _ (.Starred _ _) _, loc => fun _ _ _ _ _ _ hw _ => hw.elim
  | .Subscript _ (.Name _ _) _, loc => fun _ _ _ _ _ _ hw _ => hw.elim
  | .Subscript _ (.List _ _) _, loc => fun _ _ _ _ _ _ hw _ => hw.elim
  | .Subscript _ (.Tuple _ _ _) _, loc => fun _ _ _ _ _ _ hw _ => hw.elim
  | .UnaryOp .Invert _ _, loc => fun _ _ _ _ _ _ hw _ => hw.elim
  | .UnaryOp .UAdd _ _, loc => fun _ _ _ _ _ _ hw _ => hw.elim
  | .UnaryOp .USub _ _, loc => fun _ _ _ _ _ _ hw _ => hw.elim
  | .NamedExpr _ _ _, loc => fun _ _ _ _ _ _ hw _ => hw.elim
  | .BinOp _ _ _ _, loc => fun _ _ _ _ _ _ hw _ => hw.elim
  | .Lambda _ _ _ _, loc => fun _ _ _ _ _ _ hw _ => hw.elim
  | .IfExp _ _ _ _, loc => fun _ _ _ _ _ _ hw _ => hw.elim
  | .Dict _ _ _, loc => fun _ _ _ _ _ _ hw _ => hw.elim
  | .Set _ _ _, loc => fun _ _ _ _ _ _ hw _ => hw.elim
  | .ListComp _ _ _ _, loc => fun _ _ _ _ _ _ hw _ => hw.elim
  | .SetComp _ _ _ _, loc => fun _ _ _ _ _ _ hw _ => hw.elim
  | .DictComp _ _ _ _ _, loc => fun _ _ _ _ _ _ hw _ => hw.elim
  | .GeneratorExp _ _ _ _, loc => fun _ _ _ _ _ _ hw _ => hw.elim
  | .Await _ _, loc => fun _ _ _ _ _ _ hw _ => hw.elim
  | .Yield _ _, loc => fun _ _ _ _ _ _ hw _ => hw.elim
  | .YieldFrom _ _, loc => fun _ _ _ _ _ _ hw _ => hw.elim
  | .Call _ _ _ _, loc => fun _ _ _ _ _ _ hw _ => hw.elim
  | .FormattedValue _ _ _ _, loc => fun _ _ _ _ _ _ hw _ => hw.elim
  | .JoinedStr _ _, loc => fun _ _ _ _ _ _ hw _ => hw.elim
  | .Constant _ _ _, loc => fun _ _ _ _ _ _ hw _ => hw.elim
  | .Attribute _ _ _, loc => fun _ _ _ _ _ _ hw _ => hw.elim
  | .Starred _ _, loc => fun _ _ _ _ _ _ hw _ => hw.elim
  | .List _ _, loc => fun _ _ _ _ _ _ hw _ => hw.elim
  | .Tuple _ _ _, loc => fun _ _ _ _ _ _ hw _ => hw.elim
  | .Slice _ _ _ _, loc => fun _ _ _ _ _ _ hw _ => hw.elim
theorem WAnd_sound (am : Amb Γ P env A) : ∀ (es : List Expr) (loc : Loc), TS Γ env own A loc (allTrue .And es env) (WAnd P es loc)
  | [], loc => fun _ _ _ _ _ R hw k => wpAny_allTrue_And_nil (k _ _ _ _ hw R (Ext.refl _ _ _))
  | e :: r, loc => ts_andc (WT_sound am e loc) (WAnd_sound am r loc)
theorem WOr_sound (am : Amb Γ P env A) : ∀ (es : List Expr) (loc : Loc), TS Γ env own A loc (allTrue .Or es env) (WOr P es loc)
  | [], loc => fun _ _ _ _ _ R hw k => wpAny_allTrue_Or_nil (k _ _ _ _ hw R (Ext.refl _ _ _))
  | e :: r, loc => ts_orc (WT_sound am e loc) (WOr_sound am r loc)
end
end
end Mine

end
section
open PySem PySem.W PySem.Spec PySem.Calls PyProof.Rows
set_option Elab.async false
set_option maxRecDepth 100000
set_option linter.unusedVariables false
namespace Mine

section
variable {Γ : Ctx} {P : PCtx} {env : Env} {own ρ ρ₀ : List Addr} {A : Around} {loc : Loc} {s s₀ : Shared} {objs : List O}

theorem ns_unique {h : Heap} {a : Addr} {m m' : Str → Option Value} (x : h.Ns a m) (y : h.Ns a m') : m = m' := by
  obtain ⟨o, es, ep, e, hd, _, hf⟩ := x
  obtain ⟨o', es', ep', e', hd', _, hf'⟩ := y
  rw [e] at e'; cases e'
  rw [hd] at hd'; cases hd'
  funext z
  rw [← hf, ← hf']
theorem imm_dict {o : Obj} {es : Array DictEntry} {n : Nat} (h : o.data = .dict es n) : ¬ ImmO o := by
  rintro (⟨_, vs, k, q⟩ | ⟨_, vs, q⟩ | ⟨_, vs, q⟩ | ⟨_, vs, q⟩ | ⟨vs, _, _, q, _⟩) <;> rw [h] at q <;> cases q
theorem imm_cell {o : Obj} {v : Option Value} (h : o.data = .cell v) : ¬ ImmO o := by
  rintro (⟨_, vs, k, q⟩ | ⟨_, vs, q⟩ | ⟨_, vs, q⟩ | ⟨_, vs, q⟩ | ⟨vs, _, _, q, _⟩) <;> rw [h] at q <;> cases q

/-- one address of the frame's own is changed -/
theorem Rep.own_change (R : Rep Γ env own ρ loc objs s) {b : Addr} (hb : b ∈ own) {o₀ o₁ : Obj} {h' : Heap} {k : Nat} (hs : Heap.SameBut b s.heap h') (e₀ : s.heap.get? b = some o₀) (e₁ : h'.get? b = some o₁) (hi : ¬ ImmO o₀) :
    Ext (own ++ Γ.tabs) ρ s ρ { s with heap := h', toks := k } ∧ Base Γ { s with heap := h', toks := k } ∧ ObjsRep Γ h' ρ objs := by
  have F := R.fr
  obtain ⟨b1, b2, b3, _⟩ := F.ownk b hb
  have x : Ext (own ++ Γ.tabs) ρ s ρ { s with heap := h', toks := k } := Ext.same (.inl (List.mem_append_left _ hb)) hs e₀ e₁ hi rfl
  refine ⟨x, R.base.same (s' := { s with heap := h', toks := k }) hs e₀ hi b3 b2 rfl, R.objs.len, R.objs.nodup, R.objs.off, fun n a o q1 q2 => ?_⟩
  have ha := List.mem_of_getElem? q1
  exact (R.objs.rel n a o q1 q2).ext x fun ob e => (hs.2 a fun z => b1 (z ▸ ha)).trans e

theorem store_loc (R : Rep Γ env own ρ loc objs s) {x : Str} {v : Value} {d : D} (hk : env.kindOf x = some .local) (hv : VIn Γ s.heap ρ v d) {QQ : Unit → Shared → Prop}
    (h : ∀ s', Rep Γ env own ρ (setLo loc x d) objs s' → Ext ([env.locals] ++ Γ.tabs) ρ s ρ s' → QQ () s') : wpAny (model Γ.prog Γ.w) A (storeName env x v) QQ NoE s := by
  have F := R.fr
  obtain ⟨m, hm⟩ := F.ns
  refine wpAny_storeName_local hk hm (fun h' hn hs => ?_) (by rw [F.kind]; rfl)
  obtain ⟨o₀, es, ep, e₀, hd₀, _⟩ := id hm
  obtain ⟨o₁, es', ep', e₁, hd₁, _⟩ := id hn
  obtain ⟨xt, b, ob⟩ := R.own_change (k := s.toks + 1) F.mem hs e₀ e₁ (imm_dict hd₀)
  have xl : Ext ([env.locals] ++ Γ.tabs) ρ s ρ { s with heap := h', toks := s.toks + 1 } := Ext.same (.inl (by simp)) hs e₀ e₁ (imm_dict hd₀) rfl
  refine h _ ⟨b, ⟨F.kind, F.glob, F.blt, ⟨_, hn⟩, F.mem, F.cell, fun y c hl => ?_, F.apart, fun a ha => ?_, fun y e hy => ?_⟩, ob⟩ xl
  · obtain ⟨h1, h2, h3, w, o, ho, hw⟩ := F.cells y c hl
    exact ⟨h1, h2, h3, w, o, (hs.2 c h1).trans ho, hw⟩
  · obtain ⟨h1, h2, h3, o, ho⟩ := F.ownk a ha
    obtain ⟨o', e'⟩ := xt.live a o ho
    exact ⟨h1, h2, h3, o', e'⟩
  · rcases getLo_set loc x d y e hy with ⟨rfl, rfl⟩ | ⟨hne, hg⟩
    · exact ⟨v, .inl ⟨hk, _, hn, by simp⟩, hv.ext xt⟩
    · obtain ⟨w, hr, hi⟩ := F.loc y e hg
      refine ⟨w, ?_, hi.ext xt⟩
      rcases hr with ⟨k1, m1, hm1, e1⟩ | ⟨k1, c, hl, o, ho, hc⟩
      · refine .inl ⟨k1, _, hn, ?_⟩
        show (if y = x then some v else m y) = some w
        rw [if_neg hne, ← e1]
        exact congrFun (ns_unique hm hm1) y
      · exact .inr ⟨k1, c, hl, o, (hs.2 c (F.cells y c hl).1).trans ho, hc⟩
theorem store_ok (R : Rep Γ env own ρ loc objs s) {x : Str} {v : Value} {d : D} (hk : env.kindOf x = some .local ∨ env.kindOf x = some .cell) (hv : VIn Γ s.heap ρ v d) {QQ : Unit → Shared → Prop}
    (h : ∀ s', Rep Γ env own ρ (setLo loc x d) objs s' → Ext (own ++ Γ.tabs) ρ s ρ s' → QQ () s') : wpAny (model Γ.prog Γ.w) A (storeName env x v) QQ NoE s := by
  have F := R.fr
  obtain ⟨m, hm⟩ := F.ns
  rcases hk with hk | hk
  · exact store_loc R hk hv fun s' R' x' => h s' R' (x'.mono fun a ha => (List.mem_append.mp ha).elim (fun q => List.mem_append_left _ (List.mem_singleton.mp q ▸ F.mem)) (List.mem_append_right _))
  · obtain ⟨c, hl, hc⟩ := F.cell x hk
    obtain ⟨h1, h2, h3, w, hw⟩ := F.cells x c hl
    refine wpAny_storeName_cell F.kind hk hl hw fun h' hn hs => ?_
    obtain ⟨o₀, e₀, hd₀⟩ := id hw
    obtain ⟨o₁, e₁, hd₁⟩ := id hn
    obtain ⟨xt, b, ob⟩ := R.own_change (k := s.toks) hc hs e₀ e₁ (imm_cell hd₀)
    have kL : ∀ o, s.heap.get? env.locals = some o → h'.get? env.locals = some o := fun o e => (hs.2 _ fun z => h1 z.symm).trans e
    refine h _ ⟨b, ⟨F.kind, F.glob, F.blt, ⟨m, hm.at' kL⟩, F.mem, F.cell, fun y c' hl' => ?_, F.apart, fun a ha => ?_, fun y e hy => ?_⟩, ob⟩ xt
    · obtain ⟨g1, g2, g3, w', o, ho, hw'⟩ := F.cells y c' hl'
      by_cases q : c' = c
      · subst q; exact ⟨g1, g2, g3, _, hn⟩
      · exact ⟨g1, g2, g3, w', o, (hs.2 c' q).trans ho, hw'⟩
    · obtain ⟨g1, g2, g3, o, ho⟩ := F.ownk a ha
      obtain ⟨o', e'⟩ := xt.live a o ho
      exact ⟨g1, g2, g3, o', e'⟩
    · rcases getLo_set loc x d y e hy with ⟨rfl, rfl⟩ | ⟨hne, hg⟩
      · exact ⟨v, .inr ⟨.inl hk, c, hl, hn⟩, hv.ext xt⟩
      · obtain ⟨w', hr, hi⟩ := F.loc y e hg
        refine ⟨w', ?_, hi.ext xt⟩
        rcases hr with ⟨k1, m1, hm1, e1⟩ | ⟨k1, c', hl', o, ho, hc'⟩
        · exact .inl ⟨k1, m1, hm1.at' kL, e1⟩
        · exact .inr ⟨k1, c', hl', o, (hs.2 c' fun z => hne (F.apart x y c hk hl (z ▸ hl')).symm).trans ho, hc'⟩
end
end Mine

end
section
open PySem PySem.W PySem.Spec PySem.Calls PyProof.Rows
set_option Elab.async false
set_option maxRecDepth 100000
set_option linter.unusedVariables false
namespace Mine

noncomputable def kindOk (P : PCtx) (x : Str) : Bool := match lkS P.sc x with
  | some .local => true
  | some .cell => true
  | _ => false

noncomputable def WhileW (T : Loc → List O → (Bool → List O → Prop) → Prop) (B : Loc → List O → SPost → Prop) (loc : Loc) (o : List O) (Q : SPost) : Prop :=
  ∃ (I : Nat → Loc → List O → Prop) (n : Nat), I n loc o ∧ ∀ n loc o, I n loc o → T loc o fun b o1 =>
    (b = true → B loc o1 fun fl loc2 o2 => match fl with | .next => ∃ m, m < n ∧ I m loc2 o2 | .cont => ∃ m, m < n ∧ I m loc2 o2 | .brk => Q .next loc2 o2 | .ret d => Q (.ret d) loc2 o2) ∧ (b = false → Q .next loc o1)

noncomputable abbrev Grd := Option (Nat × List D)
noncomputable def GuardOk (g : Grd) (items : List D) (o : List O) : Prop := match g with
  | none => True
  | some (n, l) => o[n]? = some (.list l)

noncomputable def ForW (asg : D → Loc → (Loc → Prop) → Prop) (B : Loc → List O → SPost → Prop) (items : List D) (g : Grd) (loc : Loc) (o : List O) (Q : SPost) : Prop :=
  ∃ I : Nat → Loc → List O → Prop, I 0 loc o ∧ (∀ i loc o, I i loc o → GuardOk g items o) ∧
    (∀ i d loc o, items[i]? = some d → I i loc o → asg d loc fun loc1 => B loc1 o fun fl loc2 o2 => match fl with | .next => I (i + 1) loc2 o2 | .cont => I (i + 1) loc2 o2 | .brk => Q .next loc2 o2 | .ret e => Q (.ret e) loc2 o2) ∧
    (∀ loc o, I items.length loc o → Q .next loc o)

inductive AsgR (P : PCtx) (loc : Loc) (K : Loc → Prop) : Expr → D → Prop
  | name {x : Str} {p : Pos} {d : D} : kindOk P x = true → K (setLo loc x d) → AsgR P loc K (.Name x p) d
  | two {x y : Str} {p q r : Pos} {kk : Nat} {a b : D} : (kindOk P x && kindOk P y) = true → K (setLo (setLo loc x a) y b) → AsgR P loc K (.Tuple [.Name x p, .Name y q] kk r) (.tup [a, b])
  | three {x y z : Str} {p q r u : Pos} {kk : Nat} {a b c : D} : (kindOk P x && kindOk P y && kindOk P z) = true → K (setLo (setLo (setLo loc x a) y b) z c) → AsgR P loc K (.Tuple [.Name x p, .Name y q, .Name z u] kk r) (.tup [a, b, c])
noncomputable abbrev asgF (P : PCtx) (target : Expr) (d : D) (loc : Loc) (K : Loc → Prop) : Prop := AsgR P loc K target d

noncomputable def rangeD (a b : Int) : List D := (List.range (b - a).toNat).map fun (i : Nat) => D.int (a + (i : Int))
noncomputable abbrev ForOk (it : Expr) : Prop := ∀ (env : Env) (x : Value), foldedSetIterable it env x = pure x
/-- a value that the assignment evaluates as it stands -/
noncomputable abbrev SwapNo (e : Expr) : Prop := ∀ (t : Option Expr) (n : Nat) (env : Env), swapsWith e t n env = pure false
noncomputable def isNameE : Expr → Bool
  | .Name .. => true
  | _ => false
noncomputable def isTup2 : Expr → Bool
  | .Name .. => true
  | .Tuple .. => true
  | _ => false
noncomputable def isTupE : Expr → Bool
  | .Tuple .. => true
  | _ => false
noncomputable def enumD (l : List D) : List D := l.mapIdx fun i d => D.tup [.int i, d]
inductive RngR (K : List D → Grd → List O → Prop) (o : List O) : List D → Prop
  | one {n : Int} : -1000 ≤ n → n ≤ 1000 → K (rangeD 0 n) none o → RngR K o [.int n]
  | two {m n : Int} : -1000 ≤ m ∧ m ≤ 1000 ∧ -1000 ≤ n ∧ n ≤ 1000 → K (rangeD m n) none o → RngR K o [.int m, .int n]
inductive EnumR (K : List D → Grd → List O → Prop) (o : List O) : List D → Prop
  | lst {n : Nat} {l : List D} : o[n]? = some (.list l) → K (enumD l) (some (n, l)) o → EnumR K o [.obj n]
  | tup {l : List D} : K (enumD l) none o → EnumR K o [.tup l]
inductive SeqR (t : Expr) (K : List D → Grd → List O → Prop) (o : List O) : D → Prop
  | lst {n : Nat} {l : List D} : o[n]? = some (.list l) → isTup2 t = true → K l (some (n, l)) o → SeqR t K o (.obj n)
  | str {x : Str} : isNameE t = true → K (x.cps.toList.map fun c => D.str ⟨#[c]⟩) none o → SeqR t K o (.str x)
/-- what a for goes over -/
inductive WIR (P : PCtx) (t : Expr) (loc : Loc) (o : List O) (K : List D → Grd → List O → Prop) : Expr → Prop
  | range {f : Str} {fp p : Pos} {args : List Expr} : nameF P loc f = some (.fn (.type "range")) → (noStarred args && isNameE t) = true → WEs P args loc o (fun ds o1 => RngR K o1 ds) → WIR P t loc o K (.Call (.Name f fp) args [] p)
  | enum {f : Str} {fp p : Pos} {args : List Expr} : nameF P loc f = some (.fn (.type "enumerate")) → (noStarred args && isTupE t) = true → WEs P args loc o (fun ds o1 => EnumR K o1 ds) → WIR P t loc o K (.Call (.Name f fp) args [] p)
  | seq {e : Expr} : ForOk e → WE P e loc o (fun d o1 => SeqR t K o1 d) → WIR P t loc o K e
noncomputable abbrev WI (P : PCtx) (t it : Expr) (loc : Loc) (o : List O) (K : List D → Grd → List O → Prop) : Prop := WIR P t loc o K it

inductive AugR (o : List O) (Q : Post) : Operator → D → D → Prop
  | addi {x y : Int} : Q (.int (x + y)) o → AugR o Q .Add (.int x) (.int y)
  | subi {x y : Int} : Q (.int (x - y)) o → AugR o Q .Sub (.int x) (.int y)
  | adds {x y : Str} : x.length + y.length ≤ sizeLine → Q (.str (x ++ y)) o → AugR o Q .Add (.str x) (.str y)
noncomputable abbrev augF (op : Operator) (a b : D) (o : List O) (Q : Post) : Prop := AugR o Q op a b

inductive SetR (o : List O) (v : D) (K : List O → Prop) : D → D → Prop
  | lst {n : Nat} {l : List D} {k : Int} : o[n]? = some (.list l) → 0 ≤ k → k < (l.length : Int) → l.length ≤ 1000 → K (o.set n (.list (l.set k.toNat v))) → SetR o v K (.obj n) (.int k)
  | dct {n : Nat} {l : List (Str × D)} {x : Str} : o[n]? = some (.dict l) → l.length ≤ 1000 → K (o.set n (.dict (dset l x v))) → SetR o v K (.obj n) (.str x)
noncomputable abbrev setF (a i v : D) (o : List O) (K : List O → Prop) : Prop := SetR o v K a i

noncomputable def swapOk (P : PCtx) (x y a : Str) (p1 p2 : Pos) : Bool := lkS P.sc x == some .local && lkS P.sc y == some .local && p1.line == p2.line && !(x == y) && !(a == Str.ofString "__debug__")
inductive AsgWR (P : PCtx) (loc : Loc) (o : List O) (Q : SPost) : List Expr → Expr → Prop
  | one {x : Str} {p : Pos} {e : Expr} : kindOk P x = true → SwapNo e → WE P e loc o (fun d o1 => Q .next (setLo loc x d) o1) → AsgWR P loc o Q [.Name x p] e
  | two {x y : Str} {p q : Pos} {e : Expr} : (kindOk P x && kindOk P y) = true → SwapNo e → WE P e loc o (fun d o1 => Q .next (setLo (setLo loc x d) y d) o1) → AsgWR P loc o Q [.Name x p, .Name y q] e
  | swap {x y a b : Str} {p1 p2 p3 p4 tp vp : Pos} {kk kv : Nat} {d1 d2 : D} : swapOk P x y a p1 p2 = true → nameF P loc a = some d1 → nameF P loc b = some d2 → Q .next (setLo (setLo loc y d2) x d1) o → AsgWR P loc o Q [.Tuple [.Name x p1, .Name y p2] kk tp] (.Tuple [.Name a p3, .Name b p4] kv vp)
  | tup {ts : List Expr} {kk : Nat} {tp cp : Pos} {f : Expr} {args : List Expr} {kws : List Keyword} : WE P (.Call f args kws cp) loc o (fun d o1 => asgF P (.Tuple ts kk tp) d loc fun l => Q .next l o1) → AsgWR P loc o Q [.Tuple ts kk tp] (.Call f args kws cp)
  | item {a i e : Expr} {p : Pos} : SwapNo e → WE P e loc o (fun v o1 => WE P a loc o1 fun d o2 => WE P i loc o2 fun k o3 => setF d k v o3 fun o4 => Q .next loc o4) → AsgWR P loc o Q [.Subscript a i p] e
noncomputable abbrev asgW (P : PCtx) (ts : List Expr) (e : Expr) (loc : Loc) (o : List O) (Q : SPost) : Prop := AsgWR P loc o Q ts e

noncomputable def Kseq (w : Loc → List O → SPost → Prop) (Q : SPost) : SPost
  | .next, loc, o => w loc o Q
  | .brk, loc, o => Q .brk loc o
  | .cont, loc, o => Q .cont loc o
  | .ret d, loc, o => Q (.ret d) loc o
mutual
noncomputable def WS (P : PCtx) : Stmt → Loc → List O → SPost → Prop
  | .Assign ts e p, loc, o, Q => asgW P ts e loc o Q ∨ P.Y (.Assign ts e p) loc o Q
  | .AugAssign (.Name x _) op e _, loc, o, Q => (kindOk P x) = true ∧ (match nameF P loc x with | some a => WE P e loc o fun b o1 => augF op a b o1 fun d o2 => Q .next (setLo loc x d) o2 | none => False)
  | .If t b e _, loc, o, Q => WT P t loc o fun c o1 => (c = true → WSs P b loc o1 Q) ∧ (c = false → WSs P e loc o1 Q)
  | .While t b [] _, loc, o, Q => WhileW (WT P t) (WSs P b) loc o Q
  | .For t it b [] _, loc, o, Q => WI P t it loc o fun l g o1 => ForW (asgF P t) (WSs P b) l g loc o1 Q
  | .Return (some e) _, loc, o, Q => WE P e loc o fun d o1 => Q (.ret d) loc o1
  | .Expr e p, loc, o, Q => (SwapNo e ∧ WE P e loc o fun d o1 => (match d with | .none => Q .next loc o1 | _ => False)) ∨ P.Y (.Expr e p) loc o Q
  | .Break _, loc, o, Q => Q .brk loc o
  | st, loc, o, Q => P.Y st loc o Q
noncomputable def WSs (P : PCtx) : List Stmt → Loc → List O → SPost → Prop
  | [], loc, o, Q => Q .next loc o
  | st :: r, loc, o, Q => WS P st loc o (Kseq (WSs P r) Q)
end
end Mine

end
section
open PySem PySem.W PySem.Spec PySem.Calls PyProof.Rows
set_option Elab.async false
set_option maxRecDepth 100000
set_option linter.unusedVariables false
namespace Mine
section
variable {Γ : Ctx} {P : PCtx} {env : Env} {own ρ ρ₀ : List Addr} {A : Around} {loc : Loc} {s s₀ : Shared} {objs : List O}

theorem noE {α : Type} {M : Model} {A : Around} {t : Sem α} {Q : α → Shared → Prop} {E : Value → Shared → Prop} {s : Shared} (h : wpAny M A t Q NoE s) : wpAny M A t Q E s :=
  wpAny_mono h (fun _ _ x => x) fun _ _ x => x.elim

theorem kind_ok (am : Amb Γ P env A) {x : Str} (h : kindOk P x = true) : env.kindOf x = some .local ∨ env.kindOf x = some .cell := by
  have hk : env.kindOf x = lkS P.sc x := by unfold Env.kindOf; rw [am.sc, lkS_eq]
  unfold kindOk at h
  rw [hk]
  cases q : lkS P.sc x with
  | none => rw [q] at h; cases h
  | some k =>
    rw [q] at h
    cases k <;> first | exact .inl rfl | exact .inr rfl | cases h

/-- temporary objects of a loop change -/
theorem imm_temps (Z : List Addr) {h h' : Heap} (k : ∀ a o, a ∉ Z → h.get? a = some o → h'.get? a = some o) (hZ : ∀ a ∈ Z, ∀ o, h.get? a = some o → ¬ ImmO o) : ∀ a o, h.get? a = some o → ImmO o → h'.get? a = some o := fun a o e hi => by
  by_cases q : a ∈ Z
  · exact absurd hi (hZ a q o e)
  · exact k a o q e
theorem Rep.temps (R : Rep Γ env own ρ loc objs s) (Z : List Addr) {h' : Heap} {tk : Nat} (k : ∀ a o, a ∉ Z → s.heap.get? a = some o → h'.get? a = some o)
    (hZ : ∀ a ∈ Z, a ∉ own ∧ a ∉ ρ ∧ a ∉ Γ.tabs ∧ Γ.h₀.get? a = none ∧ ∀ o, s.heap.get? a = some o → ¬ ImmO o ∧ ∀ v, o.data ≠ .cell v) :
    Rep Γ env own ρ loc objs { s with heap := h', toks := tk } := by
  have im := imm_temps Z k fun a ha o e => ((hZ a ha).2.2.2.2 o e).1
  have pr : ρ <+: ρ := List.prefix_refl _
  have F := R.fr
  have nz : ∀ {a o}, s.heap.get? a = some o → a ∉ Z → h'.get? a = some o := fun e q => k _ _ q e
  have kc : ∀ y c o, env.cells.lookup y = some c → s.heap.get? c = some o → h'.get? c = some o := fun y c o hl e => by
    refine nz e fun q => ?_
    obtain ⟨_, _, _, v, o', ho', hv⟩ := F.cells y c hl
    exact ((hZ c q).2.2.2.2 o' ho').2 v hv
  have kL : ∀ o, s.heap.get? env.locals = some o → h'.get? env.locals = some o := fun o e => nz e fun q => (hZ _ q).1 F.mem
  refine ⟨⟨fun a o e => ?_, Γ.tiok _ _ R.base.ti fun a o e r => ?_, R.base.gens⟩, ⟨F.kind, F.glob, F.blt, ?_, F.mem, F.cell, fun y c hl => ?_, F.apart, fun a ha => ?_, fun y d hd => ?_⟩, ⟨R.objs.len, R.objs.nodup, R.objs.off, fun n a o e1 e2 => ?_⟩⟩
  · exact nz (R.base.keep a o e) fun q => by rw [(hZ a q).2.2.2.1] at e; cases e
  · rcases r with r | r
    · exact nz e fun q => (hZ a q).2.2.1 r
    · exact im a o e r
  · obtain ⟨m, hm⟩ := F.ns; exact ⟨m, hm.at' kL⟩
  · obtain ⟨h1, h2, h3, v, o, ho, hv⟩ := F.cells y c hl
    exact ⟨h1, h2, h3, v, o, kc y c o hl ho, hv⟩
  · obtain ⟨h1, h2, h3, o, ho⟩ := F.ownk a ha
    exact ⟨h1, h2, h3, o, nz ho fun q => (hZ a q).1 ha⟩
  · obtain ⟨v, hv, hi⟩ := F.loc y d hd
    exact ⟨v, hv.keep kL fun c o hl e => kc y c o hl e, hi.mono pr im⟩
  · exact (R.objs.rel n a o e1 e2).mono pr im fun ob e => nz e fun q => (hZ a q).2.1 (List.mem_of_getElem? e1)

theorem Ext.over_temps {T Z : List Addr} {h' : Heap} {tk : Nat} (x : Ext T ρ₀ s₀ ρ s) (k : ∀ a o, a ∉ Z → s.heap.get? a = some o → h'.get? a = some o) (hi : ∀ a ∈ Z, ∀ o, s.heap.get? a = some o → ¬ ImmO o) (hz : ∀ a ∈ Z, s₀.heap.get? a = none) : Ext T ρ₀ s₀ ρ { s with heap := h', toks := tk } := by
  have im := imm_temps Z k hi
  refine ⟨x.pre, x.new, fun a o e ht hr => ?_, fun a o e hi => im a o (x.imm a o e hi) hi, fun a o e => ?_, x.os⟩
  · exact k a o (fun q => by rw [hz a q] at e; cases e) (x.keep a o e ht hr)
  · obtain ⟨o', e'⟩ := x.live a o e
    exact ⟨o', k a o' (fun q => by rw [hz a q] at e; cases e) e'⟩

noncomputable def AsgS (Γ : Ctx) (env : Env) (own : List Addr) (A : Around) (target : Expr) (asg : D → Loc → (Loc → Prop) → Prop) : Prop :=
  ∀ d loc K objs s ρ v QQ, Rep Γ env own ρ loc objs s → asg d loc K → VIn Γ s.heap ρ v d → (∀ loc' s', K loc' → Rep Γ env own ρ loc' objs s' → Ext (own ++ Γ.tabs) ρ s ρ s' → QQ () s') →
    wpAny (model Γ.prog Γ.w) A (assign target env v) QQ NoE s

theorem keepBut {h h' : Heap} (x : Heap.ExtBut h.objs.size h h') : ∀ a o, h.get? a = some o → h'.get? a = some o := fun a o e => x a o (fun q => by subst q; rw [fresh_none] at e; cases e) e
theorem asgF_ok (am : Amb Γ P env A) (t : Expr) : AsgS Γ env own A t (asgF P t) := by
  intro d loc K objs s ρ v QQ R h hv k
  cases h with
  | name hk hK => exact wpAny_assign_Name (store_ok R (kind_ok am hk) hv fun s' R' x' => k _ _ hK R' x')
  | two hk hK =>
    rw [Bool.and_eq_true] at hk
    obtain ⟨a, vs, n, rfl, e, r⟩ := hv.tup_inv
    obtain ⟨u1, u2, rfl, v1, v2⟩ := r.inv2
    refine wpAny_assign_Tuple am.hh ⟨_, e, rfl, _, rfl⟩ rfl rfl fun h' hx => ?_
    have kp := keepBut hx
    have x' : Ext (own ++ Γ.tabs) ρ s ρ { s with heap := h' } := Ext.of_keep kp rfl
    refine wpAny_bind (wpAny_holding (wpAny_assign_Name (store_ok (R.keepAll (s' := { s with heap := h' }) kp rfl rfl) (kind_ok am hk.1) (v1.ext x') fun s1 R1 x1 => ?_)))
    refine wpAny_bind (wpAny_holding (wpAny_assign_Name (store_ok R1 (kind_ok am hk.2) ((v2.ext x').ext x1) fun s2 R2 x2 => ?_)))
    exact wpAny_pure (k _ _ hK R2 ((x'.trans x1).trans x2))
  | three hk hK =>
    rw [Bool.and_eq_true, Bool.and_eq_true] at hk
    obtain ⟨a, vs, n, rfl, e, r⟩ := hv.tup_inv
    obtain ⟨u1, u2, u3, rfl, v1, v2, v3⟩ := r.inv3
    refine wpAny_assign_Tuple am.hh ⟨_, e, rfl, _, rfl⟩ rfl rfl fun h' hx => ?_
    have kp := keepBut hx
    have x' : Ext (own ++ Γ.tabs) ρ s ρ { s with heap := h' } := Ext.of_keep kp rfl
    refine wpAny_bind (wpAny_holding (wpAny_assign_Name (store_ok (R.keepAll (s' := { s with heap := h' }) kp rfl rfl) (kind_ok am hk.1.1) (v1.ext x') fun s1 R1 x1 => ?_)))
    refine wpAny_bind (wpAny_holding (wpAny_assign_Name (store_ok R1 (kind_ok am hk.1.2) ((v2.ext x').ext x1) fun s2 R2 x2 => ?_)))
    refine wpAny_bind (wpAny_holding (wpAny_assign_Name (store_ok R2 (kind_ok am hk.2) (((v3.ext x').ext x1).ext x2) fun s3 R3 x3 => ?_)))
    exact wpAny_pure (k _ _ hK R3 (((x'.trans x1).trans x2).trans x3))
end
end Mine

end
section
open PySem PySem.W PySem.Spec PySem.Calls PyProof.Rows
set_option Elab.async false
set_option maxRecDepth 100000
set_option linter.unusedVariables false
namespace Mine

structure Itr (Γ : Ctx) (A : Around) (target : Expr) (it : Value) (items : List D) (g : Grd) (Z : List Addr) (S : Nat → List Addr → Heap → Prop) : Prop where
  step : ∀ (i : Nat) d ρ objs s (QQ : Value → Shared → Prop), items[i]? = some d → S i ρ s.heap → Base Γ s → ObjsRep Γ s.heap ρ objs → GuardOk g items objs →
    (∀ v h' tk, VIn Γ h' ρ v d → S (i + 1) ρ h' → (∀ a o, a ∉ Z → s.heap.get? a = some o → h'.get? a = some o) → QQ v { s with heap := h', toks := tk }) →
    wpAny (model Γ.prog Γ.w) A (pyNext it) (fun r s₁ => match r with | none => False | some v => wpAny (model Γ.prog Γ.w) A (letOwnedTupleGo target it v) (fun _ s₂ => QQ v s₂) NoE s₁) NoE s
  done : ∀ ρ objs s (QQ : Shared → Prop), S items.length ρ s.heap → Base Γ s → ObjsRep Γ s.heap ρ objs → GuardOk g items objs →
    (∀ h' tk, (∀ a o, a ∉ Z → s.heap.get? a = some o → h'.get? a = some o) → QQ { s with heap := h', toks := tk }) →
    wpAny (model Γ.prog Γ.w) A (pyNext it) (fun r s₁ => match r with | none => QQ s₁ | some _ => False) NoE s
  self : ∀ i ρ s (QQ : Value → Shared → Prop), S i ρ s.heap → QQ it s → wpAny (model Γ.prog Γ.w) A (pyIter it) QQ NoE s
  frame : ∀ i ρ ρ' h h', S i ρ h → (∀ a ∈ Z, ∀ o, h.get? a = some o → h'.get? a = some o) → (∀ a o, h.get? a = some o → ImmO o → h'.get? a = some o) → ρ <+: ρ' → S i ρ' h'
  temp : ∀ i ρ h, S i ρ h → ∀ a ∈ Z, ∃ o, h.get? a = some o ∧ ¬ ImmO o ∧ ∀ v, o.data ≠ .cell v

section
variable {Γ : Ctx} {P : PCtx} {env : Env} {own ρ ρ₀ : List Addr} {A : Around} {loc : Loc} {s s₀ : Shared} {objs : List O}

theorem noted_of {e : Value} {s : Shared} {E : Value → Shared → Prop} (h : NoE e s) : notedBy (model Γ.prog Γ.w) A env E e s := h.elim

theorem for_turn {R : Result → Shared → Prop} {target : Expr} {it : Value} {body : List Stmt} (I : Nat → Shared → Prop)
    (turn : ∀ n s, I n s → wpAny (model Γ.prog Γ.w) A (pyNext it) (fun r s₁ => match r with
      | none => R (.ok .next) s₁
      | some v => wpAny (model Γ.prog Γ.w) A (letOwnedTupleGo target it v) (fun _ s₂ => wpAny (model Γ.prog Γ.w) A (assign target env v) (fun _ s₃ => wpAny (model Γ.prog Γ.w) A (execs body env) (fun f s₄ => match f with
          | .next => ∃ m, m < n ∧ I m s₄
          | .cont => ∃ m, m < n ∧ I m s₄
          | .brk => R (.ok .next) s₄
          | .ret v => R (.ok (.ret v)) s₄) NoE s₃) NoE s₂) NoE s₁) NoE s)
    (n : Nat) (h : I n s) : codeAny (model Γ.prog Γ.w) A (.forLoop target it body [] env) R s := by
  refine codeAny_loop' rfl I (fun n s hI => ?_) n h
  show wpAny _ _ ((forTurn target it body [] env).onRaise (fun x => do noteFrame x env; theTreesLotGoes x)) _ _ s
  refine wpAny_noted ?_
  simp only [forTurn]
  refine wpAny_bind (wpAny_standAt (wpAny_bind (wpAny_onRaise (wpAny_mono (turn n s hI) (fun r s₁ h₁ => ?_) fun _ _ h' => h'.elim))))
  cases r with
  | none => exact wpAny_pure (.inr ⟨rfl, codeAny_block (wpAny_execs_nil h₁)⟩)
  | some v =>
    refine wpAny_bind (wpAny_mono h₁ (fun _ s₂ h₂ => ?_) fun _ _ h' => h'.elim)
    refine wpAny_bind (wpAny_mono h₂ (fun _ s₃ h₃ => wpAny_bind (wpAny_mono h₃ (fun f s₄ h₄ => ?_) fun _ _ h' => h'.elim)) fun _ _ h' => h'.elim)
    cases f with
    | next => exact wpAny_pure (.inl ⟨rfl, h₄⟩)
    | cont => exact wpAny_pure (.inl ⟨rfl, h₄⟩)
    | brk => exact wpAny_pure h₄
    | ret v => exact wpAny_pure h₄

theorem for_ok {target : Expr} {it : Value} {body : List Stmt} {items : List D} {g : Grd} {Z : List Addr} {S : Nat → List Addr → Heap → Prop} {asg : D → Loc → (Loc → Prop) → Prop} {B : Loc → List O → SPost → Prop} {Q : SPost}
    (itr : Itr Γ A target it items g Z S) (ha : AsgS Γ env own A target asg) (hb : SS Γ env own A (execs body env) B)
    (R : Rep Γ env own ρ loc objs s) (x : Ext (own ++ Γ.tabs) ρ₀ s₀ ρ s) (hz : ∀ a ∈ Z, s₀.heap.get? a = none ∧ a ∉ own ∧ a ∉ ρ ∧ a ∉ Γ.tabs ∧ Γ.h₀.get? a = none) (hS : S 0 ρ s.heap)
    (hw : ForW asg B items g loc objs Q) {QR : Flow → Shared → Prop}
    (k : ∀ fl loc' objs' ρ' f s', Q fl loc' objs' → Rep Γ env own ρ' loc' objs' s' → Ext (own ++ Γ.tabs) ρ₀ s₀ ρ' s' → FlIn Γ s'.heap ρ' f fl → QR f s') (RR : Result → Shared → Prop) (hR : ∀ f s', QR f s' → RR (.ok f) s') :
    codeAny (model Γ.prog Γ.w) A (.forLoop target it body [] env) RR s := by
  obtain ⟨I, h0, hg, turn, fin⟩ := hw
  refine for_turn (fun n s' => ∃ i ρ' loc' objs', n = items.length - i ∧ i ≤ items.length ∧ Rep Γ env own ρ' loc' objs' s' ∧ I i loc' objs' ∧ S i ρ' s'.heap ∧ Ext (own ++ Γ.tabs) ρ₀ s₀ ρ' s' ∧ ∀ a ∈ Z, a ∉ ρ') ?_ (items.length - 0) ⟨0, ρ, loc, objs, rfl, Nat.zero_le _, R, h0, hS, x, fun a h => (hz a h).2.2.1⟩
  rintro n s' ⟨i, ρ', loc', objs', rfl, hi, R', hI, hS', x', hzr⟩
  have hZ : ∀ a ∈ Z, a ∉ own ∧ a ∉ ρ' ∧ a ∉ Γ.tabs ∧ Γ.h₀.get? a = none ∧ ∀ o, s'.heap.get? a = some o → ¬ ImmO o ∧ ∀ v, o.data ≠ .cell v := fun a ha => by
    obtain ⟨z0, z1, z2, z3, z4⟩ := hz a ha
    obtain ⟨o, ho, i1, i2⟩ := itr.temp _ _ _ hS' a ha
    exact ⟨z1, hzr a ha, z3, z4, fun o' e => by rw [ho] at e; cases e; exact ⟨i1, i2⟩⟩
  have hZi : ∀ a ∈ Z, ∀ o, s'.heap.get? a = some o → ¬ ImmO o := fun a ha o e => ((hZ a ha).2.2.2.2 o e).1
  cases e : items[i]? with
  | none =>
    have hl : i = items.length := by
      have := List.getElem?_eq_none_iff.mp e; omega
    subst hl
    refine wpAny_mono (itr.done ρ' objs' s' (fun s₁ => RR (.ok .next) s₁) hS' R'.base R'.objs (hg _ _ _ hI) fun h' tk kp => ?_) (fun r s₁ h₁ => ?_) fun _ _ q => q
    · have R2 := R'.temps (tk := tk) Z kp hZ
      exact hR _ _ (k .next loc' objs' ρ' .next _ (fin _ _ hI) R2 (x'.over_temps kp hZi fun a ha => (hz a ha).1) .next)
    · cases r with
      | none => exact h₁
      | some v => exact h₁.elim
  | some d =>
    have hlt : i < items.length := (List.getElem?_eq_some_iff.mp e).1
    refine wpAny_mono (itr.step i d ρ' objs' s' (fun v s₂ => wpAny (model Γ.prog Γ.w) A (assign target env v) (fun _ s₃ => wpAny (model Γ.prog Γ.w) A (execs body env) (fun f s₄ => match f with
          | .next => ∃ m, m < items.length - i ∧ ∃ j ρ' loc' objs', m = items.length - j ∧ j ≤ items.length ∧ Rep Γ env own ρ' loc' objs' s₄ ∧ I j loc' objs' ∧ S j ρ' s₄.heap ∧ Ext (own ++ Γ.tabs) ρ₀ s₀ ρ' s₄ ∧ ∀ a ∈ Z, a ∉ ρ'
          | .cont => ∃ m, m < items.length - i ∧ ∃ j ρ' loc' objs', m = items.length - j ∧ j ≤ items.length ∧ Rep Γ env own ρ' loc' objs' s₄ ∧ I j loc' objs' ∧ S j ρ' s₄.heap ∧ Ext (own ++ Γ.tabs) ρ₀ s₀ ρ' s₄ ∧ ∀ a ∈ Z, a ∉ ρ'
          | .brk => RR (.ok .next) s₄
          | .ret v => RR (.ok (.ret v)) s₄) NoE s₃) NoE s₂) e hS' R'.base R'.objs (hg _ _ _ hI) fun v h' tk hv hS1 kp => ?_) (fun r s₁ h₁ => ?_) fun _ _ q => q
    · have R2 := R'.temps (tk := tk) Z kp hZ
      have xa : Ext (own ++ Γ.tabs) ρ₀ s₀ ρ' { s' with heap := h', toks := tk } := x'.over_temps kp hZi fun a ha => (hz a ha).1
      have offT : ∀ a ∈ Z, a ∉ own ++ Γ.tabs := fun a ha q => (List.mem_append.mp q).elim (hz a ha).2.1 (hz a ha).2.2.2.1
      refine ha d loc' _ objs' _ ρ' v _ R2 (turn i d loc' objs' e hI) hv fun loc1 s3 hB R3 x3 => ?_
      have hS3 : S (i + 1) ρ' s3.heap := itr.frame _ _ _ _ _ hS1 (fun a ha o e => x3.keep a o e (offT a ha) (hzr a ha)) x3.imm x3.pre
      refine hb loc1 objs' _ s3 ρ' _ R3 hB fun fl loc2 objs2 ρ2 f s4 hq R4 x4 hf => ?_
      have hzr2 : ∀ a ∈ Z, a ∉ ρ2 := fun a ha q => by
        rcases x4.new a q with q | q
        · exact hzr a ha q
        · obtain ⟨o, ho, _⟩ := itr.temp _ _ _ hS3 a ha; rw [ho] at q; cases q
      have hS4 : S (i + 1) ρ2 s4.heap := itr.frame _ _ _ _ _ hS3 (fun a ha o e => x4.keep a o e (offT a ha) (hzr a ha)) x4.imm x4.pre
      have x5 := (xa.trans x3).trans x4
      cases hf with
      | next => exact ⟨items.length - (i + 1), by omega, i + 1, ρ2, loc2, objs2, rfl, hlt, R4, hq, hS4, x5, hzr2⟩
      | cont => exact ⟨items.length - (i + 1), by omega, i + 1, ρ2, loc2, objs2, rfl, hlt, R4, hq, hS4, x5, hzr2⟩
      | brk => exact hR _ _ (k .next loc2 objs2 ρ2 .next _ hq R4 x5 .next)
      | ret hv => exact hR _ _ (k (.ret _) loc2 objs2 ρ2 (.ret _) _ hq R4 x5 (.ret hv))
    · cases r with
      | none => exact h₁.elim
      | some v => exact h₁

theorem while_ok {test : Expr} {body : List Stmt} {pos : Pos} {T : Loc → List O → (Bool → List O → Prop) → Prop} {B : Loc → List O → SPost → Prop}
    (ht : ∀ loc, TS Γ env own A loc (isTrue test env (eval test env)) (T loc)) (hb : SS Γ env own A (execs body env) B) : SS Γ env own A (exec (.While test body [] pos) env) (WhileW T B) := by
  intro loc objs Q s ρ Q' R hw k
  obtain ⟨I, n, h0, turn⟩ := hw
  refine wpAny_While (codeAny_whileLoop (fun n s' => ∃ ρ' loc' objs', Rep Γ env own ρ' loc' objs' s' ∧ I n loc' objs' ∧ Ext (own ++ Γ.tabs) ρ s ρ' s') ?_ n ⟨ρ, loc, objs, R, h0, Ext.refl _ _ _⟩)
  rintro n s' ⟨ρ', loc', objs', R', hI, x'⟩
  refine wpAny_mono (ht loc' objs' _ s' ρ' (fun b s₂ => if b = true then wpAny (model Γ.prog Γ.w) A (execs body env) (fun f s₃ => match f with
            | .next => ∃ m, m < n ∧ ∃ ρ' loc' objs', Rep Γ env own ρ' loc' objs' s₃ ∧ I m loc' objs' ∧ Ext (own ++ Γ.tabs) ρ s ρ' s₃
            | .cont => ∃ m, m < n ∧ ∃ ρ' loc' objs', Rep Γ env own ρ' loc' objs' s₃ ∧ I m loc' objs' ∧ Ext (own ++ Γ.tabs) ρ s ρ' s₃
            | .brk => Q' .next s₃
            | .ret v => Q' (.ret v) s₃) NoE s₂ else Q' .next s₂) R' (turn n loc' objs' hI) fun b o1 ρ1 s1 h1 R1 x1 => ?_) (fun b s₂ h₂ => ?_) fun _ _ q => q.elim
  · have xx : Ext (own ++ Γ.tabs) ρ s ρ1 s1 := x'.trans (x1.mono fun a h => List.mem_append_right _ h)
    cases b with
    | true =>
      rw [if_pos rfl]
      refine hb loc' o1 _ s1 ρ1 _ R1 (h1.1 rfl) fun fl loc2 objs2 ρ2 f s4 hq R4 x4 hf => ?_
      cases hf with
      | next => obtain ⟨m, hm, hI'⟩ := hq; exact ⟨m, hm, ρ2, loc2, objs2, R4, hI', xx.trans x4⟩
      | cont => obtain ⟨m, hm, hI'⟩ := hq; exact ⟨m, hm, ρ2, loc2, objs2, R4, hI', xx.trans x4⟩
      | brk => exact k .next loc2 objs2 ρ2 .next _ hq R4 (xx.trans x4) .next
      | ret hv => exact k (.ret _) loc2 objs2 ρ2 (.ret _) _ hq R4 (xx.trans x4) (.ret hv)
    | false =>
      rw [if_neg (by decide)]
      exact k .next loc' o1 ρ1 .next _ (h1.2 rfl) R1 xx .next
  · cases b with
    | true =>
      rw [if_pos rfl] at h₂ ⊢
      refine wpAny_mono h₂ (fun f s₃ h₃ => ?_) fun _ _ q => q.elim
      cases f <;> exact h₃
    | false =>
      rw [if_neg (by decide)] at h₂ ⊢
      exact wpAny_execs_nil h₂
end
end Mine

end
section
open PySem PySem.W PySem.Spec PySem.Calls PyProof.Rows
set_option Elab.async false
set_option maxRecDepth 100000
set_option linter.unusedVariables false
namespace Mine
section
variable {Γ : Ctx} {P : PCtx} {env : Env} {own ρ ρ₀ : List Addr} {A : Around} {loc : Loc} {s s₀ : Shared} {objs : List O}

theorem go_name {target : Expr} (h : isNameE target = true) (it v : Value) : letOwnedTupleGo target it v = pure () := by
  cases target <;> first | rfl | cases h

theorem rangeD_get {a b : Int} {i : Nat} {d : D} (h : (rangeD a b)[i]? = some d) : d = .int (a + i) ∧ i < (b - a).toNat := by
  unfold rangeD at h
  rw [List.getElem?_map] at h
  obtain ⟨j, hj, rfl⟩ := Option.map_eq_some_iff.mp h
  obtain ⟨h1, h2⟩ := List.getElem?_eq_some_iff.mp hj
  simp at h2
  subst h2
  exact ⟨rfl, by simpa using h1⟩
theorem rangeD_len (a b : Int) : (rangeD a b).length = (b - a).toNat := by simp [rangeD]

theorem itr_range (hh : A.handled = none) {target : Expr} (ht : isNameE target = true) (I : Addr) (a b : Int) :
    Itr Γ A target (.ref I) (rangeD a b) none [I] (fun i _ h => IsRangeIter h I (a + (i : Int)) (((b - a).toNat : Int) - (i : Int)) 1) where
  step := by
    intro i d ρ objs s QQ hd hS hB hO hg k
    obtain ⟨rfl, hlt⟩ := rangeD_get hd
    refine wpAny_pyNext_range_item hS (by omega) fun h' hS' hs => ?_
    refine wpAny_of_eq (go_name ht _ _) (k _ h' _ (.int _ _) ?_ fun c o hc e => (hs.2 c (by simpa using hc)).trans e)
    have e1 : a + ((i + 1 : Nat) : Int) = a + (i : Int) + 1 := by omega
    have e2 : ((b - a).toNat : Int) - ((i + 1 : Nat) : Int) = ((b - a).toNat : Int) - (i : Int) - 1 := by omega
    rw [e1, e2]; exact hS'
  done := by
    intro ρ objs s QQ hS hB hO hg k
    rw [rangeD_len] at hS
    refine wpAny_pyNext_range_end hh hS (by omega) fun h' hx => k h' s.toks fun c o hc e => hx c o (by simpa using hc) e
  self := fun i ρ s QQ hS h => wpAny_pyIter_rangeiter hS h
  frame := by
    intro i ρ ρ' h h' hS hZ _ _
    exact hZ I (by simp) _ hS
  temp := by
    intro i ρ h hS c hc
    rw [List.mem_singleton.mp hc]
    refine ⟨_, hS, ?_, ?_⟩
    · exact not_imm rfl rfl fun _ _ _ e5 e6 => by cases e5; cases e6
    · intro v q; cases q

theorem go_listiter {target : Expr} (ht : isTup2 target = true) {I l : Addr} {i : Nat} {v : Value} (hit : s.heap.IsListIter I l i) {QQ : Unit → Shared → Prop} (h : QQ () s) : wpAny (model Γ.prog Γ.w) A (letOwnedTupleGo target (.ref I) v) QQ NoE s := by
  cases target with
  | Name => exact wpAny_pure h
  | Tuple elts k p =>
    cases v with
    | ref T => exact wpAny_letOwnedTupleGo_listiter hit h
    | _ => exact wpAny_pure h
  | _ => cases ht

theorem itr_list (hh : A.handled = none) {target : Expr} (ht : isTup2 target = true) (I l : Addr) (n : Nat) (hIl : I ≠ l) (items : List D) :
    Itr Γ A target (.ref I) items (some (n, items)) [I] (fun i ρ h => h.IsListIter I l i ∧ ρ[n]? = some l) where
  step := by
    rintro i d ρ objs s QQ hd ⟨hit, hn⟩ hB hO hg k
    obtain ⟨vs, m, e, r⟩ := hO.rel n l _ hn hg
    obtain ⟨v, hv, hin⟩ := r.get hd
    refine wpAny_pyNext_list_item hit ⟨_, e, rfl, _, rfl⟩ (by simpa using hv) fun h' hS' hs => ?_
    obtain ⟨o₀, e₀, c₀, d₀⟩ := id hit
    have kp : ∀ c o, c ∉ [I] → s.heap.get? c = some o → h'.get? c = some o := fun c o hc e => (hs.2 c (by simpa using hc)).trans e
    have im := imm_temps [I] kp fun a ha o e => by
      rw [List.mem_singleton.mp ha, e₀] at e; cases e
      exact not_imm c₀ rfl fun _ _ _ e5 e6 => by simp_all
    exact go_listiter ht hS' (k v h' _ (hin.mono (List.prefix_refl _) im) ⟨hS', hn⟩ kp)
  done := by
    rintro ρ objs s QQ ⟨hit, hn⟩ hB hO hg k
    obtain ⟨vs, m, e, r⟩ := hO.rel n l _ hn hg
    refine wpAny_pyNext_list_end hh hit ⟨_, e, rfl, _, rfl⟩ (by simp; rw [r.length]; omega) fun h' hx => k h' s.toks fun c o hc e => hx c o (by simpa using hc) e
  self := fun i ρ s QQ hS h => wpAny_pyIter_listiter hS.1 h
  frame := by
    rintro i ρ ρ' h h' ⟨⟨o, e, r⟩, hn⟩ hZ _ hp
    exact ⟨⟨o, hZ I (by simp) o e, r⟩, prefix_get hp hn⟩
  temp := by
    rintro i ρ h ⟨⟨o, e, c, d⟩, hn⟩ a ha
    rw [List.mem_singleton.mp ha]
    refine ⟨o, e, ?_, fun v q => by rw [d] at q; cases q⟩
    exact not_imm c rfl fun _ _ _ e5 e6 => by simp_all

/-- from the library's walks over an object of its own alone -/
theorem itr_walks {target : Expr} (ht : isNameE target = true) {I : Addr} {n : Nat} {Pw : Nat → Value → Prop} {St : Nat → Heap → Prop} (W : Walks Γ.prog Γ.w A I [I] [I] n Pw St) (items : List D) (hl : items.length = n)
    (hv : ∀ (i : Nat) d v, items[i]? = some d → Pw i v → ∀ h ρ, VIn Γ h ρ v d) (htmp : ∀ i h, St i h → ∃ o, h.get? I = some o ∧ ¬ ImmO o ∧ ∀ v, o.data ≠ .cell v) :
    Itr Γ A target (.ref I) items none [I] (fun i _ h => St i h) where
  step := by
    intro i d ρ objs s QQ hd hS hB hO hg k
    have hlt : i < n := by rw [← hl]; exact (List.getElem?_eq_some_iff.mp hd).1
    refine W.item i s _ _ hlt hS fun v h' tk hp hS' kp => ?_
    exact wpAny_of_eq (go_name ht _ _) (k v h' tk (hv i d v hd hp _ _) hS' fun a o ha e => kp a o ha e)
  done := by
    intro ρ objs s QQ hS hB hO hg k
    rw [hl] at hS
    exact W.done s _ _ hS fun h' tk kp => k h' tk fun a o ha e => kp a o ha e
  self := fun i ρ s QQ hS h => W.self i s QQ _ hS h
  frame := by
    intro i ρ ρ' h h' hS hZ _ _
    exact W.frame i h h' hS hZ
  temp := by
    intro i ρ h hS a ha
    rw [List.mem_singleton.mp ha]
    exact htmp i h hS
end
end Mine

end
section
open PySem PySem.W PySem.Spec PySem.Calls PyProof.Rows
open AutoSeq1 (wpAny_loadPart')
set_option Elab.async false
set_option maxRecDepth 100000
set_option linter.unusedVariables false
namespace Mine
section
variable {prog : Program} {w : World} {A : Around} {E : Value → Shared → Prop} {s : Shared}
theorem nextOf_tuple_item {it t : Addr} {i : Nat} {items : Array Value} {x : Value} {Q : Value → Shared → Prop} (hit : s.heap.IsTupleIter it t i)
    (ht : s.heap.IsTuple t items) (hx : items[i]? = some x)
    (hQ : ∀ h', h'.IsTupleIter it t (i + 1) → Heap.SameBut it s.heap h' → Q x { s with heap := h' }) :
    wpAny (model prog w) A (Builtin.SmallTypes.nextOf (.ref it)) Q E s := by
  obtain ⟨o, ho, hc, hd⟩ := id hit
  obtain ⟨ol, hol, _, nl, hdl⟩ := ht
  unfold Builtin.SmallTypes.nextOf
  refine wpAny_bind (wpAny_callSpecial?_slot (name := Str.ofString "__next__") hit.typeIs PySem.F.slot_tuple_iterator_next
    (wpAny_call_entry PySem.F.slot_tuple_iterator_next hit.typeIs PySem.F.entry_tuple_iterator_next ?_ (PySem.F.args_tuple_iterator_next_1 _)))
  show wpAny _ _ (field (.ref it) 0 >>= _) _ _ s
  refine wpAny_bind (wpAny_field ho hd (x := .ref t) rfl ?_)
  show wpAny _ _ (if (Value.ref t == Value.none) = true then _ else _) _ _ s
  rw [if_neg (show ¬ ((Value.ref t == Value.none) = true) from Bool.false_ne_true)]
  show wpAny _ _ (field (.ref it) 1 >>= _) _ _ s
  refine wpAny_bind (wpAny_field ho hd (x := .int i 0) rfl ?_)
  show wpAny _ _ (seqItems? (.ref t) >>= _) _ _ s
  refine wpAny_bind (wpAny_seqItems hol hdl ?_)
  simp only [Int.toNat_natCast, hx]
  refine wpAny_bind (wpAny_setField ho hd (by simp) (wpAny_pure ⟨x, rfl, wpAny_pure (hQ _ ?_ (Heap.SameBut.update ..))⟩))
  exact ⟨_, Heap.get?_update_self _ ho (Obj.isFreed_of_fields (Obj.data_mapFields hd _)), (Obj.cls_mapFields ..).trans hc, by
    rw [Obj.data_mapFields hd]; simp [rawInt]⟩
theorem nextOf_tuple_end {it t : Addr} {i : Nat} {items : Array Value} {Q : Value → Shared → Prop} (hh : A.handled = none)
    (hit : s.heap.IsTupleIter it t i) (ht : s.heap.IsTuple t items) (hx : items[i]? = none)
    (hE : ∀ h' e, Heap.ExtBut it s.heap h' → (∃ o, h'.get? e = some o ∧ o.cls = .type "StopIteration") → E (.ref e) { s with heap := h' }) :
    wpAny (model prog w) A (Builtin.SmallTypes.nextOf (.ref it)) Q E s := by
  obtain ⟨o, ho, hc, hd⟩ := id hit
  obtain ⟨ol, hol, _, nl, hdl⟩ := ht
  unfold Builtin.SmallTypes.nextOf
  refine wpAny_bind (wpAny_callSpecial?_slot (name := Str.ofString "__next__") hit.typeIs PySem.F.slot_tuple_iterator_next
    (wpAny_call_entry PySem.F.slot_tuple_iterator_next hit.typeIs PySem.F.entry_tuple_iterator_next ?_ (PySem.F.args_tuple_iterator_next_1 _)))
  show wpAny _ _ (field (.ref it) 0 >>= _) _ _ s
  refine wpAny_bind (wpAny_field ho hd (x := .ref t) rfl ?_)
  show wpAny _ _ (if (Value.ref t == Value.none) = true then _ else _) _ _ s
  rw [if_neg (show ¬ ((Value.ref t == Value.none) = true) from Bool.false_ne_true)]
  show wpAny _ _ (field (.ref it) 1 >>= _) _ _ s
  refine wpAny_bind (wpAny_field ho hd (x := .int i 0) rfl ?_)
  show wpAny _ _ (seqItems? (.ref t) >>= _) _ _ s
  refine wpAny_bind (wpAny_seqItems hol hdl ?_)
  simp only [Int.toNat_natCast, hx]
  refine wpAny_bind (wpAny_rule (wpAny_bind (wpAny_setField ho hd (by simp) ?_)))
  show wpAny _ _ (newExc (.type "StopIteration") [] >>= _) _ _ _
  refine wpAny_bind ?_
  simp only [newExc, newTuple]
  refine wpAny_bind (wpAny_newObj_type ?_ (by size_fits))
  refine wpAny_bind (m := firstArgMember _ _) (wpAny_of_eq (a := Value.none) (by first | rfl | (simp only [firstArgMember]; rfl)) ?_)
  refine wpAny_newObj_type ?_ (by size_fits)
  unfold raiseNew
  refine wpAny_bind (wpAny_handled ?_)
  first | rw [show A.in1.handled = none from hh] | rw [hh]
  refine wpAny_bind (wpAny_pure (wpAny_throw ?_))
  exact hE _ _ (((Heap.SameBut.update ..).extBut.push _).push _) ⟨_, Heap.get?_push_size _ rfl, rfl⟩
end
theorem draws_tuple {prog : Program} {w : World} {A : Around} (hh : A.handled = none) (it l : Addr) (hne : l ≠ it) (items : Array Value) :
    Draws prog w A it [it, l] items.size (fun i v => items[i]? = some v) (fun i h => h.IsTupleIter it l i ∧ h.IsTuple l items) where
  live := fun _ _ st => let ⟨o, ho, _⟩ := st.1; ⟨o, ho⟩
  frame := fun _ _ _ st hk => ⟨let ⟨o, ho, r⟩ := st.1; ⟨o, hk it (by simp) o ho, r⟩, let ⟨o, ho, r⟩ := st.2; ⟨o, hk l (by simp) o ho, r⟩⟩
  item := fun i s Q E hi st hQ => by
    refine nextOf_tuple_item st.1 st.2 (x := items[i]) (by simp [hi]) fun h' hit' hs' => ?_
    exact hQ _ h' s.toks (by simp [hi]) ⟨hit', st.2.extBut hs'.extBut hne⟩ hs'
  done := fun s Q E st hE => nextOf_tuple_end hh st.1 st.2 (by simp) hE
theorem pure_any {M : Model} {A : Around} {α : Type} {a : α} {Q : α → Shared → Prop} {E : Value → Shared → Prop} {s : Shared} (h : ∀ b, Q b s) : wpAny M A (pure a) Q E s := wpAny_pure (h a)
theorem meets_enumerate_newT (l : Addr) (items : Array Value) (n : Nat) :
    Meets (Builtin.«enumerate.__new__» ⟨[.type "enumerate", .ref l], []⟩) (fun _ R s => s.heap.get? l = some { cls := .type "tuple", data := .seq items n } ∧
      R (.ok (.ret (.ref (s.heap.push { cls := .type "tuple_iterator", data := .fields #[.ref l, .int 0 0] }).objs.size)))
        { s with heap := (s.heap.push { cls := .type "tuple_iterator", data := .fields #[.ref l, .int 0 0] }).push { cls := .type "enumerate", data := .fields #[.none, .bool false, .ref s.heap.objs.size, rawInt 0, .none, .none] } }) :=
  .of_wp fun prog w A R s h => by
    obtain ⟨hp, g, d, tk, os⟩ := s; obtain ⟨hl, h⟩ := h
    have hsub := sub_enumerate
    have hL : Heap.IsTuple (Shared.heap ⟨hp, g, d, tk, os⟩) l items := ⟨_, hl, rfl, n, rfl⟩
    wp_walk using wpAny_loadPart' hl
    refine wpAny_stack_any fun st => pure_any fun bb => ?_
    cases bb
    · wp_walk using wpAny_loadPart' hl, wpAny_pyIter_tuple hL
      exact ⟨_, rfl, h⟩
    · wp_walk using wpAny_loadPart' hl, wpAny_pyIter_tuple hL
      exact ⟨_, rfl, h⟩
theorem call_enumerate_tuple {prog : Program} {w : World} {A : Around} {E : Value → Shared → Prop} {s : Shared} {l : Addr} {items : Array Value} {n : Nat} {Q : Value → Shared → Prop} (hl : s.heap.get? l = some { cls := .type "tuple", data := .seq items n })
    (h : ∀ h', IsEnum h' (s.heap.objs.size + 1) s.heap.objs.size 0 .none → h'.IsTupleIter s.heap.objs.size l 0 → h'.objs.size = s.heap.objs.size + 2 →
      (∀ b o, s.heap.get? b = some o → h'.get? b = some o) → Q (.ref (s.heap.objs.size + 1)) { s with heap := h' }) :
    wpAny (model prog w) A (call (.type "enumerate") [.ref l]) Q E s := by
  refine callType_new PySem.F.called_enumerate (by decide) (PySem.F.typeCall_enumerate_1 _) (PySem.F.newCall_enumerate_1 _) (fun obj => PySem.F.args_object_init_2 obj _) PySem.F.entry_enumerate_new
    (meets_enumerate_newT l items n) ⟨hl, ?_⟩
  have hz : (s.heap.push { cls := .type "tuple_iterator", data := .fields #[.ref l, .int 0 0] }).objs.size = s.heap.objs.size + 1 := Heap.size_push ..
  show _ ∧ _
  rw [hz]
  have he : IsEnum ((s.heap.push { cls := .type "tuple_iterator", data := .fields #[.ref l, .int 0 0] }).push
      { cls := .type "enumerate", data := .fields #[.none, .bool false, .ref s.heap.objs.size, rawInt 0, .none, .none] }) (s.heap.objs.size + 1) s.heap.objs.size 0 .none := by
    have := Heap.get?_push_size (s.heap.push { cls := .type "tuple_iterator", data := .fields #[.ref l, .int 0 0] })
      (o := { cls := .type "enumerate", data := .fields #[.none, .bool false, .ref s.heap.objs.size, rawInt 0, .none, .none] }) rfl
    rw [hz] at this; exact this
  refine ⟨⟨_, he, rfl⟩, h _ he ⟨_, Heap.get?_push_of_some _ (Heap.get?_push_size _ rfl), rfl, rfl⟩ (by rw [Heap.size_push, hz]) fun b o x => Heap.get?_push_of_some _ (Heap.get?_push_of_some _ x)⟩

theorem enumD_get {l : List D} {i : Nat} {d : D} (h : (enumD l)[i]? = some d) : ∃ x, l[i]? = some x ∧ d = .tup [.int i, x] := by
  unfold enumD at h
  rw [List.getElem?_mapIdx] at h
  obtain ⟨x, hx, rfl⟩ := Option.map_eq_some_iff.mp h
  exact ⟨x, hx, rfl⟩
theorem enumD_len (l : List D) : (enumD l).length = l.length := by simp [enumD]

section
variable {Γ : Ctx} {A : Around} {s : Shared}
theorem enum_imm {h : Heap} {e it : Addr} {i : Int} {old : Value} {o : Obj} (he : IsEnum h e it i old) (q : h.get? e = some o) : ¬ ImmO o ∧ ∀ v, o.data ≠ .cell v := by
  rw [he] at q; cases q
  refine ⟨?_, fun v q => by cases q⟩
  exact not_imm rfl rfl fun _ _ _ e5 e6 => by cases e5; cases e6
/-- one step of an enumeration -/
theorem enum_step {target : Expr} (ht : isTupE target = true) {e it : Addr} {fp : List Addr} {n i : Nat} {Pw : Nat → Value → Prop} {St : Nat → Heap → Prop} {old : Value} (Dr : Draws Γ.prog Γ.w A.in1 it fp n Pw St) (he : IsEnum s.heap e it i old) (hst : St i s.heap) (hlt : i < n) (hne : e ≠ it) (hef : e ∉ fp)
    {QQ : Value → Shared → Prop}
    (k : ∀ x h' tk tk' T, Pw i x → h'.get? T = some { cls := .type "tuple", data := .seq #[.int i tk', x] } → (∃ old, IsEnum h' e it ((i + 1 : Nat) : Int) old) → St (i + 1) h' → (∀ a o, a ∉ [e, it] → s.heap.get? a = some o → h'.get? a = some o) → QQ (.ref T) { s with heap := h', toks := tk }) :
    wpAny (model Γ.prog Γ.w) A (pyNext (.ref e)) (fun r s₁ => match r with | none => False | some v => wpAny (model Γ.prog Γ.w) A (letOwnedTupleGo target (.ref e) v) (fun _ s₂ => QQ v s₂) NoE s₁) NoE s := by
  refine wpAny_pyNext_enum_itemD Dr he hst hlt hne hef fun x h' tk hP ho hst' hT hsz kp => ?_
  have helt : e < s.heap.objs.size := Heap.lt_size he
  cases target with
  | Tuple elts kk p =>
    refine wpAny_letOwnedTupleGo_enum ho fun h'' he' hs' => ?_
    refine k x h'' _ tk _ hP ((hs'.2 _ (Nat.ne_of_gt helt)).trans hT) ⟨x, by simpa using he'⟩ (Dr.frame _ _ _ hst' fun b hb o y => (hs'.2 b fun q => hef (q ▸ hb)).trans y) fun a o ha y => ?_
    simp only [List.mem_cons, List.not_mem_nil, or_false, not_or] at ha
    exact (hs'.2 a ha.1).trans (kp a o ha.1 ha.2 y)
  | _ => cases ht
theorem enum_done {e it : Addr} {fp : List Addr} {n : Nat} {i : Int} {Pw : Nat → Value → Prop} {St : Nat → Heap → Prop} {old : Value} (Dr : Draws Γ.prog Γ.w A.in1 it fp n Pw St) (he : IsEnum s.heap e it i old) (hst : St n s.heap) {QQ : Shared → Prop}
    (k : ∀ h' tk, (∀ a o, a ∉ [e, it] → s.heap.get? a = some o → h'.get? a = some o) → QQ { s with heap := h', toks := tk }) :
    wpAny (model Γ.prog Γ.w) A (pyNext (.ref e)) (fun r s₁ => match r with | none => QQ s₁ | some _ => False) NoE s := by
  refine wpAny_pyNext_enum_endD Dr he hst fun h' hx => k h' s.toks fun a o ha y => hx a o (fun q => ha (by simp [q])) y
theorem itr_enum_list (hh : A.handled = none) {target : Expr} (ht : isTupE target = true) (e it l : Addr) (n : Nat) (hei : e ≠ it) (hle : l ≠ e) (hli : l ≠ it) (items : List D) :
    Itr Γ A target (.ref e) (enumD items) (some (n, items)) [e, it] (fun i ρ h => (∃ old, IsEnum h e it (i : Int) old) ∧ h.IsListIter it l i ∧ ρ[n]? = some l) where
  step := by
    rintro i d ρ objs s QQ hd ⟨⟨old, he⟩, hit, hn⟩ hB hO hg k
    obtain ⟨d0, hd0, rfl⟩ := enumD_get hd
    obtain ⟨vs, m, q, r⟩ := hO.rel n l _ hn hg
    have hlt : i < vs.toArray.size := by rw [List.size_toArray, r.length]; exact (List.getElem?_eq_some_iff.mp hd0).1
    refine enum_step ht (Draws.list (A := A.in1) hh it l hli vs.toArray) he ⟨hit, ⟨_, q, rfl, _, rfl⟩⟩ hlt hei (by simp [hei, Ne.symm hle]) fun x h' tk tk' T hP hT he' hst' kp => ?_
    obtain ⟨v, hv, hin⟩ := r.get hd0
    have hx : x = v := by
      have : vs.toArray[i]? = some v := by simpa using hv
      rw [hP] at this; exact Option.some.inj this
    subst hx
    obtain ⟨oi, ei, ci, di⟩ := id hit
    have im := imm_temps [e, it] kp fun a ha o y => by
      rcases List.mem_cons.mp ha with rfl | ha
      · exact (enum_imm he y).1
      · rw [List.mem_singleton.mp ha, ei] at y; cases y
        exact not_imm ci rfl fun _ _ _ e5 e6 => by simp_all
    exact k (.ref T) h' tk (.tup (vs := [.int i tk', x]) hT (.cons (.int _ _) (.cons (hin.mono (List.prefix_refl _) im) .nil))) ⟨he', hst'.1, hn⟩ kp
  done := by
    rintro ρ objs s QQ ⟨⟨old, he⟩, hit, hn⟩ hB hO hg k
    obtain ⟨vs, m, q, r⟩ := hO.rel n l _ hn hg
    rw [enumD_len] at hit he
    refine enum_done (Draws.list (A := A.in1) hh it l hli vs.toArray) he ⟨?_, ⟨_, q, rfl, _, rfl⟩⟩ k
    rw [List.size_toArray, r.length]; exact hit
  self := fun i ρ s QQ hS h => by
    obtain ⟨⟨old, he⟩, _⟩ := hS
    exact wpAny_pyIter_enum he h
  frame := by
    rintro i ρ ρ' h h' ⟨⟨old, he⟩, ⟨o, eo, r⟩, hn⟩ hZ _ hp
    exact ⟨⟨old, hZ e (by simp) _ he⟩, ⟨o, hZ it (by simp) o eo, r⟩, prefix_get hp hn⟩
  temp := by
    rintro i ρ h ⟨⟨old, he⟩, ⟨o, eo, c, dd⟩, hn⟩ a ha
    rcases List.mem_cons.mp ha with rfl | ha
    · exact ⟨_, he, enum_imm he he⟩
    · rw [List.mem_singleton.mp ha]
      refine ⟨o, eo, ?_, fun v q => by rw [dd] at q; cases q⟩
      exact not_imm c rfl fun _ _ _ e5 e6 => by simp_all
/-- over a tuple: it never changes -/
theorem itr_enum_tup (hh : A.handled = none) {target : Expr} (ht : isTupE target = true) (e it l : Addr) (hei : e ≠ it) (hle : l ≠ e) (hli : l ≠ it) (vs : List Value) (m : Nat) (items : List D) :
    Itr Γ A target (.ref e) (enumD items) none [e, it] (fun i ρ h => (∃ old, IsEnum h e it (i : Int) old) ∧ h.IsTupleIter it l i ∧ h.get? l = some { cls := .type "tuple", data := .seq vs.toArray m } ∧ VAll Γ h ρ vs items) where
  step := by
    rintro i d ρ objs s QQ hd ⟨⟨old, he⟩, hit, q, r⟩ hB hO hg k
    obtain ⟨d0, hd0, rfl⟩ := enumD_get hd
    have hlt : i < vs.toArray.size := by rw [List.size_toArray, r.length]; exact (List.getElem?_eq_some_iff.mp hd0).1
    refine enum_step ht (draws_tuple (A := A.in1) hh it l hli vs.toArray) he ⟨hit, ⟨_, q, rfl, _, rfl⟩⟩ hlt hei (by simp [hei, Ne.symm hle]) fun x h' tk tk' T hP hT he' hst' kp => ?_
    obtain ⟨v, hv, hin⟩ := r.get hd0
    have hx : x = v := by
      have : vs.toArray[i]? = some v := by simpa using hv
      rw [hP] at this; exact Option.some.inj this
    subst hx
    obtain ⟨oi, ei, ci, di⟩ := id hit
    have im := imm_temps [e, it] kp fun a ha o y => by
      rcases List.mem_cons.mp ha with rfl | ha
      · exact (enum_imm he y).1
      · rw [List.mem_singleton.mp ha, ei] at y; cases y
        exact not_imm ci rfl fun _ _ _ e5 e6 => by simp_all
    exact k (.ref T) h' tk (.tup (vs := [.int i tk', x]) hT (.cons (.int _ _) (.cons (hin.mono (List.prefix_refl _) im) .nil))) ⟨he', hst'.1, kp _ _ (by simp [hle, hli]) q, r.mono (List.prefix_refl _) im⟩ kp
  done := by
    rintro ρ objs s QQ ⟨⟨old, he⟩, hit, q, r⟩ hB hO hg k
    rw [enumD_len] at hit he
    refine enum_done (draws_tuple (A := A.in1) hh it l hli vs.toArray) he ⟨?_, ⟨_, q, rfl, _, rfl⟩⟩ k
    rw [List.size_toArray, r.length]; exact hit
  self := fun i ρ s QQ hS h => by
    obtain ⟨⟨old, he⟩, _⟩ := hS
    exact wpAny_pyIter_enum he h
  frame := by
    rintro i ρ ρ' h h' ⟨⟨old, he⟩, ⟨o, eo, r⟩, q, r1⟩ hZ im hp
    exact ⟨⟨old, hZ e (by simp) _ he⟩, ⟨o, hZ it (by simp) o eo, r⟩, im _ _ q (.inl ⟨rfl, _, _, rfl⟩), r1.mono hp im⟩
  temp := by
    rintro i ρ h ⟨⟨old, he⟩, ⟨o, eo, c, dd⟩, _⟩ a ha
    rcases List.mem_cons.mp ha with rfl | ha
    · exact ⟨_, he, enum_imm he he⟩
    · rw [List.mem_singleton.mp ha]
      refine ⟨o, eo, ?_, fun v q => by rw [dd] at q; cases q⟩
      exact not_imm c rfl fun _ _ _ e5 e6 => by simp_all
end
end Mine

end
section
open PySem PySem.W PySem.Spec PySem.Calls PyProof.Rows
set_option Elab.async false
set_option maxRecDepth 100000
set_option linter.unusedVariables false
namespace Mine
section
variable {Γ : Ctx} {P : PCtx} {env : Env} {own ρ ρ₀ : List Addr} {A : Around} {loc : Loc} {s s₀ : Shared} {objs : List O}

noncomputable def IterTo (Γ : Ctx) (env : Env) (own : List Addr) (A : Around) (loc : Loc) (t : Expr) (ρ : List Addr) (s : Shared) (K : List D → Grd → List O → Prop) (QQ : Value → Shared → Prop) : Prop :=
  ∀ items g o1 ρ1 I s2 Z S, K items g o1 → Itr Γ A t (.ref I) items g Z S → Rep Γ env own ρ1 loc o1 s2 → Ext Γ.tabs ρ s ρ1 s2 →
    (∀ a ∈ Z, s.heap.get? a = none ∧ a ∉ own ∧ a ∉ ρ1 ∧ a ∉ Γ.tabs ∧ Γ.h₀.get? a = none) → S 0 ρ1 s2.heap → QQ (.ref I) s2

theorem fresh_z (R : Rep Γ env own ρ loc objs s) (x : Ext Γ.tabs ρ₀ s₀ ρ s) {I : Addr} (h : s.heap.get? I = none) : s₀.heap.get? I = none ∧ I ∉ own ∧ I ∉ ρ ∧ I ∉ Γ.tabs ∧ Γ.h₀.get? I = none := by
  refine ⟨?_, fun q => ?_, fun q => ?_, fun q => ?_, ?_⟩
  · cases e : s₀.heap.get? I with
    | none => rfl
    | some o => obtain ⟨o', e'⟩ := x.live I o e; rw [h] at e'; cases e'
  · obtain ⟨_, _, _, o, e⟩ := R.fr.ownk I q; rw [h] at e; cases e
  · obtain ⟨n, hn⟩ := List.mem_iff_getElem?.mp q
    have hlt : n < objs.length := by rw [← R.objs.len]; exact (List.getElem?_eq_some_iff.mp hn).1
    obtain ⟨ob, e, _⟩ := (R.objs.rel n I objs[n] hn (List.getElem?_eq_some_iff.mpr ⟨hlt, rfl⟩)).get
    rw [h] at e; cases e
  · obtain ⟨o, e⟩ := Γ.tilive _ R.base.ti I q; rw [h] at e; cases e
  · cases e : Γ.h₀.get? I with
    | none => rfl
    | some o => have := R.base.keep I o e; rw [h] at this; cases this

theorem args_ok0 {pos : Pos} {f : Value} {args : List Expr} {wa : List O → (List D → List O → Prop) → Prop} (hs : noStarred args = true) (ha : LS Γ env own A loc (spliced (backTo pos (starEach args env))) wa) {QD : List D → List O → Prop} {QA : Args → Shared → Prop}
    (R : Rep Γ env own ρ loc objs s) (hw : wa objs QD) (k : ∀ ds objs' ρ' vs s', QD ds objs' → Rep Γ env own ρ' loc objs' s' → Ext Γ.tabs ρ s ρ' s' → VAll Γ s'.heap ρ' vs ds → QA ⟨vs, []⟩ s') :
    wpAny (model Γ.prog Γ.w) A (evalArgs f true (backTo pos (starEach args env)) []) QA NoE s := by
  have main := ha _ _ _ _ (fun vs s' => QA ⟨vs, []⟩ s') R hw k
  cases args with
  | nil =>
    refine fun Γ' p h => evalArgs_nil3 (M := model Γ.prog Γ.w) (A := A) (E := NoE) (f := f) (Q := QA) (s := s) ?_ Γ' p h
    exact main Γ' p h
  | cons e r =>
    obtain ⟨h1, h2⟩ := noStarred_cons hs
    rw [starEach_cons r h1] at main ⊢
    exact evalArgs_plain main
theorem range_ok (am : Amb Γ P env A) {t : Expr} (ht : isNameE t = true) {K : List D → Grd → List O → Prop} {QQ : Value → Shared → Prop} (R : Rep Γ env own ρ loc objs s) (x : Ext Γ.tabs ρ₀ s₀ ρ s) {a b : Int} {t1 t2 t3 : Tok} (hb : -1000 ≤ a ∧ a ≤ 1000 ∧ -1000 ≤ b ∧ b ≤ 1000) (hK : K (rangeD a b) none objs) (k : IterTo Γ env own A loc t ρ₀ s₀ K QQ) (tk : Nat) :
    wpAny (model Γ.prog Γ.w) A (pyIter (.ref s.heap.objs.size)) QQ NoE { s with heap := s.heap.push { cls := .type "range", data := .fields #[.int a t1, .int b t2, .int 1 t3] }, toks := tk } := by
  have R1 : Rep Γ env own ρ loc objs { s with heap := s.heap.push { cls := .type "range", data := .fields #[.int a t1, .int b t2, .int 1 t3] }, toks := tk } := R.keepAll (keep_push _ _) rfl rfl
  have x1 : Ext Γ.tabs ρ s ρ { s with heap := s.heap.push { cls := .type "range", data := .fields #[.int a t1, .int b t2, .int 1 t3] }, toks := tk } := Ext.of_keep (keep_push _ _) rfl
  refine wpAny_pyIter_range (IsRange.new _ _ _ _ _ _ _) (small_one (by omega) (by omega) (by omega) (by omega)) ?_
  have R2 := R1.keepAll (s' := { s with heap := (s.heap.push { cls := .type "range", data := .fields #[.int a t1, .int b t2, .int 1 t3] }).push { cls := .type "range_iterator", data := .fields #[rawInt a, rawInt (Builtin.Range.rangeSize a b 1), rawInt 1] }, toks := tk }) (keep_push _ _) rfl rfl
  have x2 := (x.trans x1).trans (Ext.of_keep (s' := { s with heap := (s.heap.push { cls := .type "range", data := .fields #[.int a t1, .int b t2, .int 1 t3] }).push { cls := .type "range_iterator", data := .fields #[rawInt a, rawInt (Builtin.Range.rangeSize a b 1), rawInt 1] }, toks := tk }) (keep_push _ _) rfl)
  refine k _ _ _ ρ _ _ [(s.heap.push { cls := .type "range", data := .fields #[.int a t1, .int b t2, .int 1 t3] }).objs.size] _ hK (itr_range am.hh ht _ a b) R2 x2 (fun c hc => ?_) ?_
  · rw [List.mem_singleton.mp hc]
    exact fresh_z R1 (x.trans x1) (fresh_none _)
  · show Heap.get? _ _ = _
    rw [Heap.get?_push_size _ rfl]
    have e1 : Builtin.Range.rangeSize a b 1 = ((b - a).toNat : Int) - ((0 : Nat) : Int) := by rw [rangeSize_one]; split <;> omega
    have e2 : a + ((0 : Nat) : Int) = a := by omega
    rw [e1, e2]

theorem wi_range (am : Amb Γ P env A) {t : Expr} {f : Str} {fp p : Pos} {args : List Expr} {K : List D → Grd → List O → Prop} {QQ : Value → Shared → Prop} (R : Rep Γ env own ρ loc objs s) (e : nameF P loc f = some (.fn (.type "range"))) (hc : (noStarred args && isNameE t) = true) (hw : WEs P args loc objs fun ds o1 => RngR K o1 ds) (k : IterTo Γ env own A loc t ρ s K QQ) :
    wpAny (model Γ.prog Γ.w) A (eval (.Call (.Name f fp) args [] p) env) (fun xv s₁ => wpAny (model Γ.prog Γ.w) A (pyIter xv) QQ NoE s₁) NoE s := by
  rw [Bool.and_eq_true] at hc
  refine wpAny_Call_ofName (wpAny_Name (load_name am R e fun v' hv' => ?_) (name_nd am e))
  cases hv'.fn_inv
  show wpAny _ _ (callWith p (.type "range") [] (backTo p (starEach args env)) []) _ _ _
  refine callWith_of (P := fun _ => True) (by rw [noStar p hc.1]; rfl) (fun _ _ => ⟨_, .inr (.inl rfl), looks_type⟩) (args_ok0 hc.1 (WEs_sound am args loc p hc.1) R hw fun ds o2 ρ2 vs s2 h R2 x2 hv2 => ⟨trivial, ?_⟩)
  show wpAny _ _ (call (.type "range") vs []) _ _ _
  cases h with
  | one b1 b2 h =>
    obtain ⟨v, rfl, h1⟩ := hv2.inv1; obtain ⟨t1, rfl⟩ := h1.int_inv
    exact call_range_1 (range_ok am hc.2 R2 x2 ⟨by decide, by decide, b1, b2⟩ h k _)
  | two b1 h =>
    obtain ⟨v, w, rfl, h1, h2⟩ := hv2.inv2; obtain ⟨t1, rfl⟩ := h1.int_inv; obtain ⟨t2, rfl⟩ := h2.int_inv
    exact call_range_2 (range_ok am hc.2 R2 x2 b1 h k _)
theorem enum_fin (R2 : Rep Γ env own ρ loc objs s) (x2 : Ext Γ.tabs ρ₀ s₀ ρ s) {l : Addr} {h' : Heap} (hl : s.heap.get? l ≠ none) (kp : ∀ b o, s.heap.get? b = some o → h'.get? b = some o) :
    Rep Γ env own ρ loc objs { s with heap := h' } ∧ Ext Γ.tabs ρ₀ s₀ ρ { s with heap := h' } ∧ (∀ c ∈ [s.heap.objs.size + 1, s.heap.objs.size], s₀.heap.get? c = none ∧ c ∉ own ∧ c ∉ ρ ∧ c ∉ Γ.tabs ∧ Γ.h₀.get? c = none) ∧ l ≠ s.heap.objs.size + 1 ∧ l ≠ s.heap.objs.size := by
  have big : s.heap.get? (s.heap.objs.size + 1) = none := by
    cases q : s.heap.get? (s.heap.objs.size + 1) with
    | none => rfl
    | some o => exact absurd (Heap.lt_size q) (Nat.not_lt.mpr (Nat.le_succ _))
  refine ⟨R2.keepAll (s' := { s with heap := h' }) kp rfl rfl, x2.trans (Ext.of_keep (s' := { s with heap := h' }) kp rfl), fun c hc => fresh_z R2 x2 ?_, fun q => hl (q ▸ big), fun q => hl (q ▸ fresh_none _)⟩
  rcases List.mem_cons.mp hc with rfl | hc
  · exact big
  · rw [List.mem_singleton.mp hc]; exact fresh_none _
theorem wi_enum (am : Amb Γ P env A) {t : Expr} {f : Str} {fp p : Pos} {args : List Expr} {K : List D → Grd → List O → Prop} {QQ : Value → Shared → Prop} (R : Rep Γ env own ρ loc objs s) (e : nameF P loc f = some (.fn (.type "enumerate"))) (hc : (noStarred args && isTupE t) = true) (hw : WEs P args loc objs fun ds o1 => EnumR K o1 ds) (k : IterTo Γ env own A loc t ρ s K QQ) :
    wpAny (model Γ.prog Γ.w) A (eval (.Call (.Name f fp) args [] p) env) (fun xv s₁ => wpAny (model Γ.prog Γ.w) A (pyIter xv) QQ NoE s₁) NoE s := by
  rw [Bool.and_eq_true] at hc
  refine wpAny_Call_ofName (wpAny_Name (load_name am R e fun v' hv' => ?_) (name_nd am e))
  cases hv'.fn_inv
  show wpAny _ _ (callWith p (.type "enumerate") [] (backTo p (starEach args env)) []) _ _ _
  refine callWith_of (P := fun _ => True) (by rw [noStar p hc.1]; rfl) (fun _ _ => ⟨_, .inr (.inl rfl), looks_type⟩) (args_ok0 hc.1 (WEs_sound am args loc p hc.1) R hw fun ds o2 ρ2 vs s2 h R2 x2 hv2 => ⟨trivial, ?_⟩)
  show wpAny _ _ (call (.type "enumerate") vs []) _ _ _
  cases h with
  | @lst n l g1 h =>
    obtain ⟨v, rfl, h1⟩ := hv2.inv1; obtain ⟨a, rfl, e1⟩ := h1.obj_inv
    obtain ⟨us, m, q, r1⟩ := R2.objs.list e1 g1
    refine call_enumerate_list ⟨_, q, rfl, _, rfl⟩ fun h' he hit hz kp => ?_
    obtain ⟨R3, x3, z3, n1, n2⟩ := enum_fin R2 x2 (by rw [q]; exact fun z => nomatch z) kp
    exact wpAny_pyIter_enum he (k _ _ _ ρ2 _ _ _ _ h (itr_enum_list am.hh hc.2 _ _ a n (Nat.succ_ne_self _) n1 n2 l) R3 x3 z3 ⟨⟨_, he⟩, hit, e1⟩)
  | @tup l h =>
    obtain ⟨v, rfl, h1⟩ := hv2.inv1; obtain ⟨a, us, m, rfl, q, r1⟩ := h1.tup_inv
    refine call_enumerate_tuple q fun h' he hit hz kp => ?_
    obtain ⟨R3, x3, z3, n1, n2⟩ := enum_fin R2 x2 (by rw [q]; exact fun z => nomatch z) kp
    exact wpAny_pyIter_enum he (k _ _ _ ρ2 _ _ _ _ h (itr_enum_tup am.hh hc.2 _ _ a (Nat.succ_ne_self _) n1 n2 us m l) R3 x3 z3 ⟨⟨_, he⟩, hit, kp _ _ q, r1.mono (List.prefix_refl _) fun c o e _ => kp c o e⟩)
theorem str_tmp {I : Addr} {y : Str} {tk : Tok} {ty : String} (n1 : ty ≠ "tuple") (n2 : ty ≠ "code") (n3 : ty ≠ "range") (n4 : ty ≠ "function") (i : Nat) (h : Heap) (H : h.IsStrIter I ty y tk i) : ∃ o, h.get? I = some o ∧ ¬ ImmO o ∧ ∀ v, o.data ≠ .cell v := by
  obtain ⟨o, e, c, d⟩ := H
  have hn : (ty != "tuple" && ty != "code" && ty != "range" && ty != "function") = true := by
    rw [Bool.and_eq_true, Bool.and_eq_true, Bool.and_eq_true, bne_iff_ne, bne_iff_ne, bne_iff_ne, bne_iff_ne]
    exact ⟨⟨⟨n1, n2⟩, n3⟩, n4⟩
  exact ⟨o, e, not_imm c hn (fun _ _ _ e5 e6 => by rw [d] at e5; cases e5; cases e6), fun v q => by rw [d] at q; cases q⟩
theorem str_sign {y : Str} (i : Nat) (d : D) (v : Value) (hd : (y.cps.toList.map fun c => D.str ⟨#[c]⟩)[i]? = some d) (hs : SignAt y i v) (h : Heap) (ρ : List Addr) : VIn Γ h ρ v d := by
  obtain ⟨c, u, hc, rfl⟩ := hs
  rw [List.getElem?_map] at hd
  obtain ⟨c', hc', rfl⟩ := Option.map_eq_some_iff.mp hd
  rw [← Array.getElem?_toList, hc'] at hc
  cases hc
  exact .str _ _
theorem wi_str (am : Amb Γ P env A) {t : Expr} (ht : isNameE t = true) {K : List D → Grd → List O → Prop} {QQ : Value → Shared → Prop} (R1 : Rep Γ env own ρ loc objs s) (x1 : Ext Γ.tabs ρ₀ s₀ ρ s) {y : Str} {tk : Tok} (h1 : K (y.cps.toList.map fun c => D.str ⟨#[c]⟩) none objs) (k : IterTo Γ env own A loc t ρ₀ s₀ K QQ) :
    wpAny (model Γ.prog Γ.w) A (pyIter (.str y tk)) QQ NoE s := by
  refine wpAny_pyIter_strU ?_
  have R2 := R1.keepAll (s' := { s with heap := s.heap.push { cls := .type (strIterType y), data := .fields #[.str y tk, .int 0 0] } }) (keep_push _ _) rfl rfl
  have x2 := x1.trans (Ext.of_keep (s' := { s with heap := s.heap.push { cls := .type (strIterType y), data := .fields #[.str y tk, .int 0 0] } }) (keep_push _ _) rfl)
  have hz : ∀ c ∈ [s.heap.objs.size], s₀.heap.get? c = none ∧ c ∉ own ∧ c ∉ ρ ∧ c ∉ Γ.tabs ∧ Γ.h₀.get? c = none := fun c hc => by rw [List.mem_singleton.mp hc]; exact fresh_z R1 x1 (fresh_none _)
  have hl : y.cps.size = (y.cps.toList.map fun c => D.str ⟨#[c]⟩).length := by rw [List.length_map, Array.length_toList]
  by_cases hq : y.cps.all (· < 128) = true
  · have hty : strIterType y = "str_ascii_iterator" := by unfold strIterType; rw [if_pos hq]
    exact k _ _ _ ρ _ _ _ _ h1 (itr_walks ht (Walks.strAscii am.hh s.heap.objs.size y tk) _ (by simp) str_sign (str_tmp (by decide) (by decide) (by decide) (by decide))) R2 x2 hz ⟨_, Heap.get?_push_size _ rfl, by rw [hty], rfl⟩
  · have hty : strIterType y = "str_iterator" := by unfold strIterType; rw [if_neg hq]
    exact k _ _ _ ρ _ _ _ _ h1 (itr_walks ht (Walks.strWide am.hh s.heap.objs.size y tk) _ (by simp) str_sign (str_tmp (by decide) (by decide) (by decide) (by decide))) R2 x2 hz ⟨_, Heap.get?_push_size _ rfl, by rw [hty], rfl⟩
theorem wi_ok (am : Amb Γ P env A) (t it : Expr) {K : List D → Grd → List O → Prop} {QQ : Value → Shared → Prop} (R : Rep Γ env own ρ loc objs s) (hw : WI P t it loc objs K) (k : IterTo Γ env own A loc t ρ s K QQ) :
    wpAny (model Γ.prog Γ.w) A (eval it env) (fun xv s₁ => wpAny (model Γ.prog Γ.w) A (pyIter xv) QQ NoE s₁) NoE s := by
  cases hw with
  | range e hc hw => exact wi_range am R e hc hw k
  | enum e hc hw => exact wi_enum am R e hc hw k
  | seq _ hw =>
    refine WE_sound am it loc _ _ _ _ _ R hw fun d o1 ρ1 v s1 h1 R1 x1 hv => ?_
    cases h1 with
    | @lst n l g1 ht hK =>
      obtain ⟨a, rfl, e1⟩ := hv.obj_inv
      obtain ⟨vs, m, h2, r1⟩ := R1.objs.list e1 g1
      refine wpAny_pyIter_list ⟨_, h2, rfl, _, rfl⟩ ?_
      have R2 := R1.keepAll (s' := { s1 with heap := s1.heap.push { cls := .type "list_iterator", data := .fields #[.ref a, .int 0 0] } }) (keep_push _ _) rfl rfl
      have x2 := x1.trans (Ext.of_keep (s' := { s1 with heap := s1.heap.push { cls := .type "list_iterator", data := .fields #[.ref a, .int 0 0] } }) (keep_push _ _) rfl)
      refine k _ _ _ ρ1 _ _ [s1.heap.objs.size] _ hK (itr_list am.hh ht _ a n (fun q => ?_) l) R2 x2 (fun c hc => ?_) ⟨⟨_, Heap.get?_push_size _ rfl, rfl, rfl⟩, e1⟩
      · rw [← q, fresh_none] at h2; cases h2
      · rw [List.mem_singleton.mp hc]
        exact fresh_z R1 x1 (fresh_none _)
    | str ht hK => obtain ⟨tk, rfl⟩ := hv.str_inv; exact wi_str am ht R1 x1 hK k
theorem wi_set {t it : Expr} {K : List D → Grd → List O → Prop} (hw : WI P t it loc objs K) : ForOk it := by
  cases hw with
  | range => exact fun _ _ => rfl
  | enum => exact fun _ _ => rfl
  | seq h _ => exact h
end
end Mine

end
section
open PySem PySem.W PySem.Spec PySem.Calls PyProof.Rows
set_option Elab.async false
set_option maxRecDepth 100000
set_option linter.unusedVariables false
namespace Mine
section
variable {Γ : Ctx} {P : PCtx} {env : Env} {own ρ ρ₀ : List Addr} {A : Around} {s s₀ : Shared} {objs : List O}

theorem Ext.wide {s' : Shared} {ρ' : List Addr} (x : Ext Γ.tabs ρ s ρ' s') : Ext (own ++ Γ.tabs) ρ s ρ' s' := x.mono fun a h => List.mem_append_right _ h
theorem ss_nil : SS Γ env own A (execs [] env) (fun loc o Q => Q .next loc o) := by
  intro loc objs Q s ρ Q' R hw k
  exact wpAny_execs_nil (k _ _ _ _ _ _ hw R (Ext.refl _ _ _) .next)
theorem ss_cons {st : Stmt} {r : List Stmt} {ws wr : Loc → List O → SPost → Prop} (hs : SS Γ env own A (exec st env) ws) (hr : SS Γ env own A (execs r env) wr) :
    SS Γ env own A (execs (st :: r) env) (fun loc o Q => ws loc o (Kseq wr Q)) := by
  intro loc objs Q s ρ Q' R hw k
  refine wpAny_execs_cons (hs _ _ _ _ _ _ R hw fun fl loc1 o1 ρ1 f s1 h1 R1 x1 hf => ?_)
  cases hf with
  | next => exact hr _ _ _ _ _ _ R1 h1 fun fl loc2 o2 ρ2 f s2 h2 R2 x2 hf => k _ _ _ _ _ _ h2 R2 (x1.trans x2) hf
  | brk => exact k _ _ _ _ _ _ h1 R1 x1 .brk
  | cont => exact k _ _ _ _ _ _ h1 R1 x1 .cont
  | ret hv => exact k _ _ _ _ _ _ h1 R1 x1 (.ret hv)
theorem ss_assign (am : Amb Γ P env A) {x : Str} {p pos : Pos} {e : Expr} : SS Γ env own A (exec (.Assign [.Name x p] e pos) env) (fun loc o Q => kindOk P x = true ∧ SwapNo e ∧ WE P e loc o fun d o1 => Q .next (setLo loc x d) o1) := by
  intro loc objs Q s ρ Q' R ⟨hc, hn, hw⟩ k
  refine wpAny_Assign_Name (WE_sound am e loc _ _ _ _ _ R hw fun d o1 ρ1 v s1 h1 R1 x1 hv => ?_) (hn _ _ _)
  exact store_ok R1 (kind_ok am hc) hv fun s2 R2 x2 => k _ _ _ _ _ _ h1 R2 (x1.wide.trans x2) .next
theorem ss_assign2 (am : Amb Γ P env A) {x y : Str} {p q pos : Pos} {e : Expr} : SS Γ env own A (exec (.Assign [.Name x p, .Name y q] e pos) env) (fun loc o Q => (kindOk P x && kindOk P y) = true ∧ SwapNo e ∧ WE P e loc o fun d o1 => Q .next (setLo (setLo loc x d) y d) o1) := by
  intro loc objs Q s ρ Q' R ⟨hc, hn, hw⟩ k
  rw [Bool.and_eq_true] at hc
  refine wpAny_Assign_two (WE_sound am e loc _ _ _ _ _ R hw fun d o1 ρ1 v s1 h1 R1 x1 hv => ?_)
  refine wpAny_assign_Name (store_ok R1 (kind_ok am hc.1) hv fun s2 R2 x2 => ?_)
  exact wpAny_assign_Name (store_ok R2 (kind_ok am hc.2) (hv.ext x2) fun s3 R3 x3 => k _ _ _ _ _ _ h1 R3 ((x1.wide.trans x2).trans x3) .next)
theorem ss_tup (am : Amb Γ P env A) {ts : List Expr} {kk : Nat} {tp pos cp : Pos} {f : Expr} {args : List Expr} {kws : List Keyword} : SS Γ env own A (exec (.Assign [.Tuple ts kk tp] (.Call f args kws cp) pos) env) (fun loc o Q => WE P (.Call f args kws cp) loc o fun d o1 => asgF P (.Tuple ts kk tp) d loc fun l => Q .next l o1) := by
  intro loc objs Q s ρ Q' R hw k
  exact Assign_Tuple (WE_sound am _ loc _ _ _ _ _ R hw fun d o1 ρ1 v s1 h1 R1 x1 hv => asgF_ok am _ _ _ _ _ _ _ _ _ R1 h1 hv fun loc' s2 hq R2 x2 => k _ _ _ _ _ _ hq R2 (x1.wide.trans x2) .next)
theorem ss_if {t : Expr} {b e : List Stmt} {pos : Pos} {wb we : Loc → List O → SPost → Prop} (am : Amb Γ P env A) (hb : SS Γ env own A (execs b env) wb) (he : SS Γ env own A (execs e env) we) :
    SS Γ env own A (exec (.If t b e pos) env) (fun loc o Q => WT P t loc o fun c o1 => (c = true → wb loc o1 Q) ∧ (c = false → we loc o1 Q)) := by
  intro loc objs Q s ρ Q' R hw k
  refine wpAny_If (WT_sound am t loc _ _ _ _ _ R hw fun c o1 ρ1 s1 h1 R1 x1 => ?_)
  cases c with
  | true => exact hb _ _ _ _ _ _ R1 (h1.1 rfl) fun fl loc2 o2 ρ2 f s2 h2 R2 x2 hf => k _ _ _ _ _ _ h2 R2 (x1.wide.trans x2) hf
  | false => exact he _ _ _ _ _ _ R1 (h1.2 rfl) fun fl loc2 o2 ρ2 f s2 h2 R2 x2 hf => k _ _ _ _ _ _ h2 R2 (x1.wide.trans x2) hf
theorem ss_return (am : Amb Γ P env A) {e : Expr} {pos : Pos} : SS Γ env own A (exec (.Return (some e) pos) env) (fun loc o Q => WE P e loc o fun d o1 => Q (.ret d) loc o1) := by
  intro loc objs Q s ρ Q' R hw k
  exact wpAny_Return_some (WE_sound am e loc _ _ _ _ _ R hw fun d o1 ρ1 v s1 h1 R1 x1 hv => k _ _ _ _ _ _ h1 R1 x1.wide (.ret hv))
theorem ss_expr (am : Amb Γ P env A) {e : Expr} {pos : Pos} : SS Γ env own A (exec (.Expr e pos) env) (fun loc o Q => SwapNo e ∧ WE P e loc o fun d o1 => (match d with | .none => Q .next loc o1 | _ => False)) := by
  intro loc objs Q s ρ Q' R hw k
  obtain ⟨hc, hw⟩ := hw
  refine wpAny_Expr_any (WE_sound am e loc _ _ _ _ _ R hw fun d o1 ρ1 v s1 h1 R1 x1 hv => ?_) ?_ (hc _ _ _)
  · cases d with
    | none => exact k _ _ _ _ _ _ h1 R1 x1.wide .next
    | _ => exact h1.elim
  · unfold interactive; rw [R.fr.kind]; rfl
theorem ss_break {pos : Pos} : SS Γ env own A (exec (.Break pos) env) (fun loc o Q => Q .brk loc o) := by
  intro loc objs Q s ρ Q' R hw k
  exact wpAny_Break (k _ _ _ _ _ _ hw R (Ext.refl _ _ _) .brk)
theorem ps_aug (op : Operator) : PS Γ A (t2 (inplaceOp op)) (two (augF op)) := by
  refine PS.two fun a b objs Q s ρ va vb Q' B R hf ha hb hd => ?_
  cases hf with
  | addi h => obtain ⟨t, rfl⟩ := ha.int_inv; obtain ⟨u, rfl⟩ := hb.int_inv; exact P.iadd_int (hd.toks B R _ h (.int _ _))
  | subi h => obtain ⟨t, rfl⟩ := ha.int_inv; obtain ⟨u, rfl⟩ := hb.int_inv; exact P.isub_int (hd.toks B R _ h (.int _ _))
  | adds h0 h => obtain ⟨t, rfl⟩ := ha.str_inv; obtain ⟨u, rfl⟩ := hb.str_inv; exact SB.iadd (fun t' k => hd.toks B R _ h (.str _ _)) h0
theorem ss_aug (am : Amb Γ P env A) {x : Str} {p pos : Pos} {op : Operator} {e : Expr} : SS Γ env own A (exec (.AugAssign (.Name x p) op e pos) env) (fun loc o Q => (kindOk P x) = true ∧ (match nameF P loc x with | some a => WE P e loc o fun b o1 => augF op a b o1 fun d o2 => Q .next (setLo loc x d) o2 | none => False)) := by
  intro loc objs Q s ρ Q' R hw k
  obtain ⟨hc, hw⟩ := hw
  split at hw
  · rename_i a e1
    refine wpAny_AugAssign_Name (load_name am R e1 fun va hva => ?_)
    refine WE_sound am e loc _ _ _ _ _ R hw fun b o1 ρ1 vb s1 h1 R1 x1 hvb => ?_
    refine ps_aug op [a, b] o1 (fun d o2 => Q .next (setLo loc x d) o2) s1 ρ1 [va, vb] _ R1.base R1.objs h1 (.cons (hva.ext x1) (.cons hvb .nil)) fun d o2 ρ2 v s2 h2 b2 ob2 x2 hv2 => ?_
    have R2 := R1.step x2 b2 ob2
    exact store_ok R2 (kind_ok am hc) hv2 fun s3 R3 x3 => k _ _ _ _ _ _ h2 R3 ((x1.trans x2).wide.trans x3) .next
  · exact hw.elim
theorem setItem_dict {prog : Program} {w : World} {A : Around} {E : Value → Shared → Prop} {s : Shared} {K : Type} [DecidableEq K] {knd : KeyKind prog w K} {d : Addr} {kvs : List (K × Value)} {k : K} {key v : Value} {Q : Unit → Shared → Prop} (hkey : knd.is k key = true) (hm : s.heap.DictOf knd d kvs)
    (hQ : ∀ h', h'.DictOf knd d (stored kvs k v) → Heap.SameBut d s.heap h' → Q () { s with heap := h', toks := s.toks + 1 }) (hsz : kvs.length ≤ sizeLine) : wpAny (model prog w) A (setItem (.ref d) key v) Q E s := by
  unfold setItem
  try with_reducible refine wpAny_holding ?_
  first | refine wpAny_bind (wpAny_pure ?_) | skip
  refine wpAny_bind (wpAny_sequenceKey hm.typeIs (by decide) ?_)
  refine wpAny_bind (wpAny_callSpecial?_slot (name := Str.ofString "__setitem__") hm.typeIs slot_dict_setitem
    (wpAny_call_entry slot_dict_setitem hm.typeIs entry_dict_setitem ?_ (args_dict_setitem _ _ _)))
  show wpAny _ _ (Builtin.Dict.notOrdered "__setitem__" ⟨[.ref d, key, v], []⟩ >>= _) _ _ s
  refine wpAny_bind (wpAny_notOrdered_dict hm.typeIs ?_)
  show wpAny _ _ (dictSet d key v >>= _) _ _ s
  refine wpAny_bind (wpAny_dictSet_pairs (hsz := hsz) hkey hm fun h' hm' hs' => wpAny_pure ⟨.none, rfl, ?_⟩)
  first
    | exact wpAny_pure (hQ h' hm' hs')
    | exact hQ h' hm' hs'
theorem set_ok {d di dv : D} {va vi v : Value} {QQ : Unit → Shared → Prop} {K : List O → Prop} (hf : setF d di dv objs K) (B : Base Γ s) (R : ObjsRep Γ s.heap ρ objs) (ha : VIn Γ s.heap ρ va d) (hi : VIn Γ s.heap ρ vi di) (hv : VIn Γ s.heap ρ v dv)
    (hd : Done Γ ρ s (fun d o => d = .none ∧ K o) (fun _ s' => QQ () s')) : wpAny (model Γ.prog Γ.w) A (setItem va vi v) QQ NoE s := by
  cases hf with
  | @lst n l kk g h0 h9 hl h =>
    obtain ⟨ad, rfl, e1⟩ := ha.obj_inv; obtain ⟨t, rfl⟩ := hi.int_inv
    obtain ⟨vs, m, q, r⟩ := R.list e1 g
    refine ki_setAt q h0 (by omega) (by rw [List.size_toArray, r.length]; exact h9) ?_
    have e2 : (s.heap.update ad (Obj.mapSeq fun (xs : Array Value) => xs.setIfInBounds kk.toNat v)).get? ad = some (listOf (List.toArray (vs.set kk.toNat v)) m) := by
      rw [Heap.get?_update_self _ q (by simp [Obj.mapSeq]; rfl)]
      simp [Obj.mapSeq]
    exact hd.change (o' := .list (l.set kk.toNat dv)) B R e1 g s.toks (Heap.SameBut.update ..) e2 (fun T x' => ⟨_, m, e2, (r.ext x').set (hv.ext x') _⟩) .none ⟨rfl, h⟩
  | @dct n l xk g hl h =>
    obtain ⟨ad, rfl, e1⟩ := ha.obj_inv; obtain ⟨t, rfl⟩ := hi.str_inv
    obtain ⟨es, hm, r⟩ := R.rel _ _ _ e1 g
    refine setItem_dict (strKind_is _ _ _ _) hm (fun h' hm' hs' => ?_) (by rw [r.length, sizeLine_eq]; omega)
    obtain ⟨ob, x1, x2, e2, x3⟩ := id hm'
    exact hd.change (o' := .dict (dset l xk dv)) B R e1 g (s.toks + 1) hs' e2 (fun T x' => ⟨_, hm', ((r.mono x'.pre x'.imm).set (hv.ext x') _)⟩) .none ⟨rfl, h⟩
theorem ss_setitem (am : Amb Γ P env A) {a i e : Expr} {p pos : Pos} : SS Γ env own A (exec (.Assign [.Subscript a i p] e pos) env) (fun loc o Q => SwapNo e ∧ WE P e loc o fun v o1 => WE P a loc o1 fun d o2 => WE P i loc o2 fun k o3 => setF d k v o3 fun o4 => Q .next loc o4) := by
  intro loc objs Q s ρ Q' R ⟨hc, hw⟩ k
  exact wpAny_Assign_Subscript (WE_sound am e loc _ _ _ _ _ R hw fun dv o1 ρ1 v s1 h1 R1 x1 hv => WE_sound am a loc _ _ _ _ _ R1 h1 fun d o2 ρ2 va s2 h2 R2 x2 hva => WE_sound am i loc _ _ _ _ _ R2 h2 fun di o3 ρ3 vi s3 h3 R3 x3 hvi =>
    set_ok (QQ := fun _ s' => Q' .next s') h3 R3.base R3.objs (hva.ext x3) hvi ((hv.ext x2).ext x3) fun d o' ρ' v s' hq b o x' hv => k _ _ _ _ _ _ hq.2 (R3.step x' b o) (((x1.trans x2).trans x3).trans x').wide .next) (hc _ _ _)
theorem ss_for (am : Amb Γ P env A) {t it : Expr} {b : List Stmt} {pos : Pos} {wb : Loc → List O → SPost → Prop} (hb : SS Γ env own A (execs b env) wb) :
    SS Γ env own A (exec (.For t it b [] pos) env) (fun loc o Q => WI P t it loc o fun l g o1 => ForW (asgF P t) wb l g loc o1 Q) := by
  intro loc objs Q s ρ Q' R hw k
  refine wpAny_For (wi_ok am t it R hw fun items g o1 ρ1 I s2 Z S hK itr R2 x2 hz hS => ?_) (fun x => wi_set hw _ x)
  exact for_ok itr (asgF_ok am t) hb R2 x2.wide hz hS hK (QR := Q') (fun fl loc' objs' ρ' f s' hq R' x' hf => k fl loc' objs' ρ' f s' hq R' x' hf) _ fun f s' h => h
theorem ss_while (am : Amb Γ P env A) {t : Expr} {b : List Stmt} {pos : Pos} {wb : Loc → List O → SPost → Prop} (hb : SS Γ env own A (execs b env) wb) :
    SS Γ env own A (exec (.While t b [] pos) env) (WhileW (WT P t) wb) := while_ok (fun loc => WT_sound am t loc) hb
theorem unpackN {n : Nat} {t : Addr} {items : List Value} {QQ : List Value → Shared → Prop} (hh : A.handled = none) (ht : IsTup s.heap t items.toArray) (hn : n = items.length) (h : ∀ h', Heap.ExtBut s.heap.objs.size s.heap h' → QQ items { s with heap := h' }) :
    wpAny (model Γ.prog Γ.w) A (unpackItems (.ref t) n none) QQ NoE s := by
  have e : n = items.toArray.size := by rw [hn, List.size_toArray]
  rw [e]
  exact unpackItems_tuple hh ht h
theorem swap_st {x y a b : Str} {p1 p2 p3 p4 tp vp : Pos} {kk kv : Nat} (hbk : env.blockKind = .function) (hkx : env.kindOf x = some .local) (hky : env.kindOf y = some .local) (c3 : (p1.line == p2.line) = true) (c4 : (y == x) = false) (c5 : (a == Str.ofString "__debug__") = false) :
    swappedStores [.Tuple [.Name x p1, .Name y p2] kk tp] (.Tuple [.Name a p3, .Name b p4] kv vp) env = pure (some [x, y]) := by
  have f4 : p2.line = p1.line := (beq_iff_eq.mp c3).symm
  have g1 : (if (env.kindOf x == some NameKind.local && p1.line == p1.line) = true then some x else none) = some x := if_pos (by rw [hkx, beq_self_eq_true, beq_self_eq_true]; rfl)
  have g2 : (if (env.kindOf y == some NameKind.local && p2.line == p1.line) = true then some y else none) = some y := if_pos (by rw [hky, f4, beq_self_eq_true, beq_self_eq_true]; rfl)
  have e6 : [x, y].eraseDups = [x, y] := by simp only [List.eraseDups, List.eraseDupsBy, List.eraseDupsBy.loop, List.any_nil, List.any_cons, c4, Bool.or_false]; rfl
  delta swappedStores
  dsimp only
  rw [hbk]
  refine (if_neg Bool.false_ne_true).trans ((if_neg Bool.false_ne_true).trans ?_)
  generalize hn : List.filterMap _ _ = ns
  have f5 : ns = [x, y] := hn.symm.trans ((List.filterMap_cons_some (a := Expr.Name x p1) (l := [Expr.Name y p2]) g1).trans (congrArg (x :: ·) (List.filterMap_cons_some (a := Expr.Name y p2) (l := []) g2)))
  rw [f5, e6]
  refine (if_neg Bool.false_ne_true).trans ((if_neg Bool.false_ne_true).trans ((if_neg ?_).trans rfl))
  show ¬ (((a == Str.ofString "__debug__") && _) = true)
  rw [c5]
  exact Bool.false_ne_true
theorem ss_swap (am : Amb Γ P env A) {x y a b : Str} {p1 p2 p3 p4 tp vp pos : Pos} {kk kv : Nat} : SS Γ env own A (exec (.Assign [.Tuple [.Name x p1, .Name y p2] kk tp] (.Tuple [.Name a p3, .Name b p4] kv vp) pos) env)
    (fun loc o Q => ∃ d1 d2, swapOk P x y a p1 p2 = true ∧ nameF P loc a = some d1 ∧ nameF P loc b = some d2 ∧ Q .next (setLo (setLo loc y d2) x d1) o) := by
  intro loc objs Q s ρ Q' R ⟨d1, d2, hc, ha, hb, hw⟩ k
  unfold swapOk at hc
  rw [Bool.and_eq_true, Bool.and_eq_true, Bool.and_eq_true, Bool.and_eq_true] at hc
  obtain ⟨⟨⟨⟨c1, c2⟩, c3⟩, c4⟩, c5⟩ := hc
  rw [Bool.not_eq_true'] at c4 c5
  have hk : ∀ z, env.kindOf z = lkS P.sc z := fun z => by unfold Env.kindOf; rw [am.sc, ← lkS_eq]
  have hkx : env.kindOf x = some .local := (hk x).trans (beq_iff_eq.mp c1)
  have hky : env.kindOf y = some .local := (hk y).trans (beq_iff_eq.mp c2)
  have hbk : env.blockKind = .function := by unfold Env.blockKind; rw [R.fr.kind]; rfl
  have hw' : WE P (.Tuple [.Name a p3, .Name b p4] kv vp) loc objs fun d o => d = .tup [d1, d2] ∧ o = objs := by
    refine ⟨rfl, ?_⟩
    show (match nameF P loc a with | some d => _ | none => False)
    rw [ha]
    show (match nameF P loc b with | some d => _ | none => False)
    rw [hb]
    exact ⟨by show 2 ≤ 1000; decide, rfl, rfl⟩
  refine Assign_Tuple_swapped (names := [x, y]) (WE_sound am _ loc _ _ _ _ _ R hw' fun d o1 ρ1 v s1 h1 R1 x1 hv => ?_) rfl (swap_st hbk hkx hky c3 (by rw [beq_eq_false_iff_ne] at c4 ⊢; exact c4.symm) c5)
  obtain ⟨rfl, rfl⟩ := h1
  obtain ⟨a, vs, n, rfl, e, r⟩ := hv.tup_inv
  obtain ⟨u1, u2, rfl, v1, v2⟩ := r.inv2
  refine unpackN am.hh ⟨_, e, rfl, _, rfl⟩ rfl fun h' hx => ?_
  have kp := keepBut hx
  have x' : Ext (own ++ Γ.tabs) ρ1 s1 ρ1 { s1 with heap := h' } := Ext.of_keep kp rfl
  refine wpAny_bind (wpAny_holding (bindName_ (store_ok (R1.keepAll (s' := { s1 with heap := h' }) kp rfl rfl) (.inl hky) (v2.ext x') fun s2 R2 x2 => ?_)))
  refine wpAny_bind (wpAny_holding (bindName_ (store_ok R2 (.inl hkx) ((v1.ext x').ext x2) fun s3 R3 x3 => ?_)))
  exact wpAny_pure (k _ _ _ _ _ _ hw R3 (((x1.wide.trans x').trans x2).trans x3) .next)
end
end Mine

end
section
open PySem PySem.W PySem.Spec PySem.Calls PyProof.Rows
set_option Elab.async false
set_option maxRecDepth 100000
set_option linter.unusedVariables false
namespace Mine
section
variable {Γ : Ctx} {P : PCtx} {env : Env} {own : List Addr} {A : Around}
theorem ss_no {t : Sem Flow} {w : Loc → List O → SPost → Prop} (h : ∀ loc o Q, w loc o Q → False) : SS Γ env own A t w := fun loc o Q _ _ _ _ hw _ => (h loc o Q hw).elim
/-- an assignment, by its targets and its value -/
theorem ss_asg (am : Amb Γ P env A) (ts : List Expr) (e : Expr) (pos : Pos) : SS Γ env own A (exec (.Assign ts e pos) env) (WS P (.Assign ts e pos)) := by
  intro loc objs Q s ρ Q' R hw k
  replace hw : asgW P ts e loc objs Q ∨ P.Y (.Assign ts e pos) loc objs Q := hw
  refine hw.elim (fun hw => ?_) (fun hw => am.oY own _ loc objs Q s ρ Q' R hw k)
  cases hw with
  | one hk hn h9 => exact ss_assign am loc objs Q s ρ Q' R ⟨hk, hn, h9⟩ k
  | two hk hn h9 => exact ss_assign2 am loc objs Q s ρ Q' R ⟨hk, hn, h9⟩ k
  | swap hc ha hb h9 => exact ss_swap am loc objs Q s ρ Q' R ⟨_, _, hc, ha, hb, h9⟩ k
  | tup h9 => exact ss_tup am loc objs Q s ρ Q' R h9 k
  | item hn h9 => exact ss_setitem am loc objs Q s ρ Q' R ⟨hn, h9⟩ k
mutual
theorem WS_sound (am : Amb Γ P env A) : ∀ st : Stmt, SS Γ env own A (exec st env) (WS P st)
  | .Assign ts e pos => ss_asg am ts e pos
  | .If t b e p => ss_if am (WSs_sound am b) (WSs_sound am e)
  | .While t b [] p => ss_while am (WSs_sound am b)
  | .While t b (_ :: _) p => am.oY _ _
  | .For t it b [] p => ss_for am (WSs_sound am b)
  | .For t it b (_ :: _) p => am.oY _ _
  | .Return (some e) p => ss_return am
  | .Return none p => am.oY _ _
  | .Expr e p => fun loc o Q s ρ Q' R hw k => Or.elim hw (fun hw => ss_expr am loc o Q s ρ Q' R hw k) (fun hw => am.oY own _ loc o Q s ρ Q' R hw k)
  | .Break p => ss_break
  | .AugAssign (.Name x p) op e q => ss_aug am
  | .AugAssign (.BoolOp _ _ _) _ _ _ => am.oY _ _
  | .AugAssign (.NamedExpr _ _ _) _ _ _ => am.oY _ _
  | .AugAssign (.BinOp _ _ _ _) _ _ _ => am.oY _ _
  | .AugAssign (.UnaryOp _ _ _) _ _ _ => am.oY _ _
  | .AugAssign (.Lambda _ _ _ _) _ _ _ => am.oY _ _
  | .AugAssign (.IfExp _ _ _ _) _ _ _ => am.oY _ _
  | .AugAssign (.Dict _ _ _) _ _ _ => am.oY _ _
  | .AugAssign (.Set _ _ _) _ _ _ => am.oY _ _
  | .AugAssign (.ListComp _ _ _ _) _ _ _ => am.oY _ _
  | .AugAssign (.SetComp _ _ _ _) _ _ _ => am.oY _ _
  | .AugAssign (.DictComp _ _ _ _ _) _ _ _ => am.oY _ _
  | .AugAssign (.GeneratorExp _ _ _ _) _ _ _ => am.oY _ _
  | .AugAssign (.Await _ _) _ _ _ => am.oY _ _
  | .AugAssign (.Yield _ _) _ _ _ => am.oY _ _
  | .AugAssign (.YieldFrom _ _) _ _ _ => am.oY _ _
  | .AugAssign (.Compare _ _ _ _) _ _ _ => am.oY _ _
  | .AugAssign (.Call _ _ _ _) _ _ _ => am.oY _ _
  | .AugAssign (.FormattedValue _ _ _ _) _ _ _ => am.oY _ _
  | .AugAssign (.JoinedStr _ _) _ _ _ => am.oY _ _
  | .AugAssign (.Constant _ _ _) _ _ _ => am.oY _ _
  | .AugAssign (.Attribute _ _ _) _ _ _ => am.oY _ _
  | .AugAssign (.Subscript _ _ _) _ _ _ => am.oY _ _
  | .AugAssign (.Starred _ _) _ _ _ => am.oY _ _
  | .AugAssign (.List _ _) _ _ _ => am.oY _ _
  | .AugAssign (.Tuple _ _ _) _ _ _ => am.oY _ _
  | .AugAssign (.Slice _ _ _ _) _ _ _ => am.oY _ _
  | .FunctionDef _ _ _ _ _ _ _ _ _ _ => am.oY _ _
  | .AsyncFunctionDef _ _ _ _ _ _ _ _ _ _ => am.oY _ _
  | .ClassDef _ _ _ _ _ _ _ _ _ _ _ => am.oY _ _
  | .Delete _ _ => am.oY _ _
  | .TypeAlias _ _ _ _ _ _ _ => am.oY _ _
  | .AnnAssign _ _ _ _ _ => am.oY _ _
  | .AsyncFor _ _ _ _ _ => am.oY _ _
  | .With _ _ _ => am.oY _ _
  | .AsyncWith _ _ _ => am.oY _ _
  | .Match _ _ _ => am.oY _ _
  | .Raise _ _ _ => am.oY _ _
  | .Try _ _ _ _ _ => am.oY _ _
  | .TryStar _ _ _ _ _ => am.oY _ _
  | .Assert _ _ _ => am.oY _ _
  | .Import _ _ => am.oY _ _
  | .ImportFrom _ _ _ _ => am.oY _ _
  | .Global _ _ => am.oY _ _
  | .Nonlocal _ _ => am.oY _ _
  | .Pass _ => am.oY _ _
  | .Continue _ => am.oY _ _
theorem WSs_sound (am : Amb Γ P env A) : ∀ b : List Stmt, SS Γ env own A (execs b env) (WSs P b)
  | [] => ss_nil
  | st :: r => ss_cons (WS_sound am st) (WSs_sound am r)
end
end
end Mine

end
section
open PySem PySem.W PySem.Spec PySem.Calls PyProof.Rows
set_option Elab.async false
set_option maxRecDepth 100000
set_option linter.unusedVariables false
namespace Mine

noncomputable def AOk (n : Nat) (A : Around) : Prop := A.handled = none ∧ A.depth + n < recursionLimit ∧ A.units + 8 * n + 300 < cLine ∧ ∃ l, A.frames = some l
noncomputable def COkN (Γ : Ctx) (n : Nat) (C : Addr → List D → List (Str × D) → List O → Post → Prop) : Prop := ∀ A, AOk n A → COk Γ A C
noncomputable def MOkN (Γ : Ctx) (M : Str → Option Value) : Prop := ∀ A, MOk Γ A M

/-- the context's oracles are sound, n calls deep -/
structure Orc (Γ : Ctx) (n : Nat) (P : PCtx) : Prop where
  G : GOk Γ P.G
  C : COkN Γ n P.C
  M : MOkN Γ P.M
  oB : ∀ A, AOk n A → ∀ v, PS Γ A (fun vs => call v vs) (P.B v)
  oK : ∀ A, AOk n A → ∀ op, PS Γ A (t2 (compareOp op)) (two (P.K op))
  oJ : ∀ A, AOk n A → ∀ value i, SubOk i → PS Γ A (t2 (subscriptTail value i)) (two P.J)
  oX : ∀ env A, AOk n A → Am0 Γ P env A → ∀ own e loc, ES Γ env own A loc (eval e env) (P.X e loc)
  oY : ∀ env A, AOk n A → Am0 Γ P env A → ∀ own st, SS Γ env own A (exec st env) (P.Y st)

structure FnAt (Γ : Ctx) (f : Addr) (fd : FuncData) (body : List Stmt) : Prop where
  obj : ∃ o, Γ.h₀.get? f = some o ∧ o.data = .func fd
  body : fd.body = .stmts body
  glob : fd.globals = mainGlobals
  blt : fd.builtins = builtinsNs
  clo : fd.closure = []
  code : Γ.h₀.CodeRec fd.code fd.qualname
  cell : ∀ x ∈ fd.scope.names, x.2 ≠ .cell
  co : fd.scope.isCoroutine = false
  gen : fd.scope.isGenerator = false
  kind : fd.scope.kind = .function

noncomputable def retD : Fl → D
  | .ret d => d
  | _ => .none

theorem AOk.deeper {n : Nat} {A : Around} (h : AOk (n + 1) A) (env : Env) : AOk n (A.deeper env) := by
  obtain ⟨h1, h2, h3, l, h4⟩ := h
  exact ⟨h1, by show A.depth + 1 + n < _; omega, by show A.units + 3 + 8 * n + 300 < _; omega, env :: l, by show A.frames.map _ = _; rw [h4]; rfl⟩
theorem AOk.mono {n m : Nat} {A : Around} (h : AOk n A) (hm : m ≤ n) : AOk m A := ⟨h.1, by have := h.2.1; omega, by have := h.2.2.1; omega, h.2.2.2⟩
theorem COkN.mono {Γ : Ctx} {n m : Nat} {C : Addr → List D → List (Str × D) → List O → Post → Prop} (h : COkN Γ n C) (hm : n ≤ m) : COkN Γ m C := fun A hA => h A (hA.mono hm)

section
variable {Γ : Ctx} {P : PCtx} {A : Around} {s s' : Shared} {ρ ρ' : List Addr} {objs : List O}
theorem Ext.frame {L : Addr} {s₁ : Shared} (x : Ext ([L] ++ Γ.tabs) ρ s₁ ρ' s') (k : ∀ a o, s.heap.get? a = some o → s₁.heap.get? a = some o) (hL : s.heap.get? L = none) (ho : s₁.os = s.os) : Ext Γ.tabs ρ s ρ' s' := by
  refine ⟨x.pre, fun a h => ?_, fun a o e ht hr => ?_, fun a o e hi => x.imm a o (k a o e) hi, fun a o e => x.live a o (k a o e), x.os.trans ho⟩
  · rcases x.new a h with h | h
    · exact .inl h
    · refine .inr ?_
      cases q : s.heap.get? a with
      | none => rfl
      | some o => rw [k a o q] at h; cases h
  · refine x.keep a o (k a o e) (fun q => ?_) hr
    rcases List.mem_append.mp q with q | q
    · rw [List.mem_singleton.mp q, hL] at e; cases e
    · exact ht q

theorem call_fn {f : Addr} {fd : FuncData} {body : List Stmt} {n : Nat} (F : FnAt Γ f fd body) (hA : AOk (n + 1) A) (hlim : Γ.h₀.NoLimit) (hsc : fd.scope.names = P.sc) (O : Orc Γ n P)
    (nd : ∀ x k, lkS P.sc x = some k → (x == ("__debug__" : Str)) = false ∧ (x == ("__classdict__" : Str)) = false)
    (B : Base Γ s) (R : ObjsRep Γ s.heap ρ objs) {vs : List Value} {kvs : List (Str × Value)} {binds : List (Str × Value)} (hbind : BindsTo s fd ⟨vs, kvs⟩ binds) (hloc : ∀ x ∈ binds, fd.scope.names.lookup x.1 = some .local)
    {loc : Loc} (hb : ∀ x d, getLo loc x = some d → ∃ v, binds.reverse.lookup x = some v ∧ VIn Γ s.heap ρ v d) {Qf : Post} {Q' : Value → Shared → Prop}
    (hw : WSs P body loc objs fun fl _ o' => Qf (retD fl) o') (hd : Done Γ ρ s Qf Q') (hE : ∀ env, P.E env) : wpAny (model Γ.prog Γ.w) A (call (.ref f) vs kvs) Q' NoE s := by
  obtain ⟨o, ho, hdata⟩ := F.obj
  refine wpAny_call (codeAny_call_def (by have := hA.2.1; omega) (B.keep _ _ ho) hdata (hlim.keeps B.keep) ?_ F.body hbind F.cell hloc (fun h₁ hns hk₁ => ?_) F.co F.gen F.kind)
  · obtain ⟨c, oc, cvs, t, e1, e2, e3, e4⟩ := F.code
    exact ⟨c, oc, cvs, t, e1, B.keep _ _ e2, e3, e4⟩
  · have hAd := hA.deeper (callEnv fd s.heap.objs.size f)
    have am0 : Am0 Γ P (callEnv fd s.heap.objs.size f) (A.deeper (callEnv fd s.heap.objs.size f)) := ⟨hsc, O.G, O.C _ hAd, O.M _, hAd.1, by have := hAd.2.2.1; omega, O.oB _ hAd, O.oK _ hAd, O.oJ _ hAd, nd, hE _⟩
    have am : Amb Γ P (callEnv fd s.heap.objs.size f) (A.deeper (callEnv fd s.heap.objs.size f)) := ⟨am0, O.oX _ _ hAd am0, O.oY _ _ hAd am0⟩
    have B1 : Base Γ { s with heap := h₁, toks := s.toks + binds.length } := B.keepAll (s' := { s with heap := h₁, toks := s.toks + binds.length }) hk₁ rfl
    have R1 : ObjsRep Γ h₁ ρ objs := R.keep (s' := { s with heap := h₁ }) hk₁
    have cells : ∀ y, (callEnv fd s.heap.objs.size f).cells.lookup y = none := fun y => by
      show List.lookup y fd.closure = none
      rw [F.clo]; rfl
    have nocell : ∀ y, (callEnv fd s.heap.objs.size f).kindOf y ≠ some .cell := fun y q => by
      have q' : fd.scope.names.lookup y = some .cell := q
      rw [← lkS_eq] at q'
      have : ∀ l : List (Str × NameKind), (∀ x ∈ l, x.2 ≠ .cell) → lkS l y ≠ some .cell := by
        intro l
        induction l with
        | nil => intro _ q; cases q
        | cons p r ih =>
          intro hl q
          obtain ⟨z, kz⟩ := p
          unfold lkS at q
          split at q
          · cases q; exact hl _ (.head _) rfl
          · exact ih (fun x hx => hl x (.tail _ hx)) q
      exact this _ F.cell q'
    have FR : FrOk Γ (callEnv fd s.heap.objs.size f) [s.heap.objs.size] h₁ ρ loc := by
      refine ⟨F.kind, F.glob, F.blt, ⟨_, hns⟩, List.mem_singleton.mpr rfl, fun y q => absurd q (nocell y), (fun y c q => by rw [cells y] at q; cases q), fun y z c q => absurd q (nocell y), fun a ha => ?_, fun y d hy => ?_⟩
      · rw [List.mem_singleton.mp ha]
        obtain ⟨oL, _, _, hL, _⟩ := hns
        refine ⟨fun q => ?_, fresh_tab B, fresh_base B, oL, hL⟩
        obtain ⟨m, hm⟩ := List.mem_iff_getElem?.mp q
        have hlt : m < objs.length := by rw [← R.len]; exact (List.getElem?_eq_some_iff.mp hm).1
        obtain ⟨ob, e, _⟩ := (R.rel m _ objs[m] hm (List.getElem?_eq_some_iff.mpr ⟨hlt, rfl⟩)).get
        rw [fresh_none] at e; cases e
      · obtain ⟨v, hv, hi⟩ := hb y d hy
        refine ⟨v, .inl ⟨?_, _, hns, hv⟩, hi.mono (List.prefix_refl _) fun a o e _ => hk₁ a o e⟩
        have hm : (y, v) ∈ binds := by
          have : ∀ l : List (Str × Value), l.lookup y = some v → (y, v) ∈ l := by
            intro l
            induction l with
            | nil => intro q; cases q
            | cons p r ih =>
              intro q
              obtain ⟨z, w⟩ := p
              rw [List.lookup_cons] at q
              by_cases e : y = z
              · subst e; simp at q; subst q; exact .head _
              · have : (y == z) = false := by simpa using e
                rw [this] at q; exact .tail _ (ih q)
          exact List.mem_reverse.mp (this _ hv)
        exact hloc _ hm
    refine wpAny_mono (WSs_sound am body loc objs _ _ ρ (fun fl s' => Q' (match fl with | .ret v => v | _ => .none) s') ⟨B1, FR, R1⟩ hw fun fl loc' objs' ρ' fw s' hq R' x' hf => ?_) (fun fl s' h => h) fun _ _ h => h.elim
    have x2 : Ext Γ.tabs ρ s ρ' s' := x'.frame hk₁ (fresh_none _) rfl
    refine hd _ _ ρ' _ _ hq R'.base R'.objs x2 ?_
    cases hf with
    | next => exact .none
    | brk => exact .none
    | cont => exact .none
    | ret hv => exact hv
end
end Mine

end
section
open PySem PySem.W PySem.Spec PySem.Calls PyProof.Rows
set_option Elab.async false
set_option maxRecDepth 100000
set_option linter.unusedVariables false
namespace Mine
noncomputable def intD : D → Option Int
  | .int i => some i
  | _ => none
noncomputable def strD : D → Option Str
  | .str x => some x
  | _ => none
noncomputable def allD {α : Type} (f : D → Option α) : List D → Option (List α)
  | [] => some []
  | d :: r => match f d, allD f r with | some a, some l => some (a :: l) | _, _ => none
noncomputable def insL {α : Type} (l : List α) (k : Nat) (d : α) : List α := l.take k ++ d :: l.drop k
/-- further builtins -/
inductive BBR (o : List O) (Q : Post) : Value → List D → Prop
  | upper {x : Str} : x.length ≤ 10000 → Q (.str (Txt.upper x)) o → BBR o Q (.builtin "str.upper") [.str x]
  | ofInt {a : Int} : a.natAbs < 2 ^ 60 → Q (.str (Str.ofString (toString a))) o → BBR o Q (.type "str") [.int a]
  | append {n : Nat} {l : List D} {d : D} : o[n]? = some (.list l) → l.length ≤ 1000 → Q .none (o.set n (.list (l ++ [d]))) → BBR o Q (.builtin "list.append") [.obj n, d]
  | insert {n : Nat} {l : List D} {k : Int} {d : D} : o[n]? = some (.list l) → l.length ≤ 1000 → 0 ≤ k → k ≤ l.length → Q .none (o.set n (.list (insL l k.toNat d))) → BBR o Q (.builtin "list.insert") [.obj n, .int k, d]
  | sum {n : Nat} {l : List D} {ns : List Int} : o[n]? = some (.list l) → allD intD l = some ns → Q (.int ns.sum) o → BBR o Q (.builtin "sum") [.obj n]
  | minl {n : Nat} {l : List D} {a : Int} {r : List Int} : o[n]? = some (.list l) → allD intD l = some (a :: r) → Q (.int (r.foldl min a)) o → BBR o Q (.builtin "min") [.obj n]
  | join {x : Str} {n : Nat} {l : List D} {ys : List Str} : o[n]? = some (.list l) → allD strD l = some ys → (ys.map (·.length)).sum + ys.length * x.length ≤ 16777216 → Q (.str (Txt.join x ys)) o → BBR o Q (.builtin "str.join") [.str x, .obj n]
  | index {n : Nat} {l : List D} {x : Str} {ys : List Str} {j : Nat} : o[n]? = some (.list l) → allD strD l = some ys → l.length ≤ 1000 → ys[j]? = some x → (∀ m, m < j → ys[m]? ≠ some x) → Q (.int (j : Nat)) o → BBR o Q (.builtin "list.index") [.obj n, .str x]
noncomputable abbrev BB (v : Value) (ds : List D) (o : List O) (Q : Post) : Prop := BBR o Q v ds
theorem allD_cons {α : Type} {f : D → Option α} {d : D} {r : List D} {as : List α} (h : allD f (d :: r) = some as) : ∃ a l, as = a :: l ∧ f d = some a ∧ allD f r = some l := by
  unfold allD at h
  cases e : f d with
  | none => rw [e] at h; cases h
  | some a =>
    cases e2 : allD f r with
    | none => rw [e, e2] at h; cases h
    | some l => rw [e, e2] at h; cases h; exact ⟨a, l, rfl, rfl, rfl⟩
theorem allD_get {α : Type} {f : D → Option α} : ∀ {l : List D} {as : List α}, allD f l = some as → as.length = l.length ∧ ∀ (i : Nat) (d : D), l[i]? = some d → ∃ a, as[i]? = some a ∧ f d = some a := by
  intro l
  induction l with
  | nil => intro as h; cases h; exact ⟨rfl, fun i d e => by rw [List.getElem?_nil] at e; cases e⟩
  | cons d r ih =>
    intro as h
    obtain ⟨a, l, rfl, e1, e2⟩ := allD_cons h
    obtain ⟨h1, h2⟩ := ih e2
    refine ⟨congrArg (· + 1) h1, fun i d' e => ?_⟩
    cases i with
    | zero => cases e; exact ⟨a, rfl, e1⟩
    | succ i => exact h2 i d' e
noncomputable def isStrV (x : Str) (v : Value) : Bool := match v with | .str y _ => y == x | _ => false
theorem ins_arr (l : List Value) (k : Nat) (y : Value) : (l.toArray.extract 0 k).push y ++ l.toArray.extract k = (insL l k y).toArray := by
  apply Array.ext'
  simp [insL, List.extract]
  exact List.take_of_length_le (by simp)
theorem upd_list {h : Heap} {a : Addr} {vs ws : List Value} {n : Nat} (f : Array Value → Array Value) (e : f vs.toArray = ws.toArray) (h1 : h.get? a = some (W.listOf vs.toArray n)) : ∃ c, (h.update a (Obj.mapSeq f)).get? a = some (W.listOf ws.toArray c) := by
  have := PySem.IsL.update h1 f
  rw [e] at this
  exact ⟨_, this⟩
theorem log2_small {n : Nat} (h : n < 2 ^ 60) : n.log2 < 1920 := by
  by_cases q : n = 0
  · subst q; decide
  · exact Nat.lt_trans ((Nat.log2_lt q).mpr h) (by decide)
section
variable {Γ : Ctx} {A : Around}
theorem intD_inv {d : D} {a : Int} (h : intD d = some a) : d = .int a := by
  cases d <;> first | (cases h; rfl) | cases h
theorem strD_inv {d : D} {a : Str} (h : strD d = some a) : d = .str a := by
  cases d <;> first | (cases h; rfl) | cases h
theorem intsAre {h : Heap} {ρ : List Addr} {vs : List Value} : ∀ {l : List D} {ns : List Int}, VAll Γ h ρ vs l → allD intD l = some ns → IntsAre vs ns := by
  induction vs with
  | nil => intro l ns H e; cases H; cases e; exact .nil
  | cons v vs ih =>
    intro l ns H e
    cases H with
    | cons h1 h2 =>
      obtain ⟨a, r, rfl, e1, e2⟩ := allD_cons e
      obtain ⟨t, rfl⟩ := (intD_inv e1 ▸ h1).int_inv
      exact .cons _ _ (ih h2 e2)
theorem strsAre {h : Heap} {ρ : List Addr} {vs : List Value} : ∀ {l : List D} {ns : List Str}, VAll Γ h ρ vs l → allD strD l = some ns → StrsAre vs ns := by
  induction vs with
  | nil => intro l ns H e; cases H; cases e; exact .nil
  | cons v vs ih =>
    intro l ns H e
    cases H with
    | cons h1 h2 =>
      obtain ⟨a, r, rfl, e1, e2⟩ := allD_cons e
      obtain ⟨t, rfl⟩ := (strD_inv e1 ▸ h1).str_inv
      exact .cons _ _ (ih h2 e2)
theorem ints_of {vs : List Value} {ns : List Int} (hi : IntsAre vs ns) : ∃ xs : Array (Int × Tok), vs.toArray = intItems xs ∧ preSum (numAt xs) xs.size = ns.sum := by
  obtain ⟨xs, hx⟩ := hi.allInts.items
  have e1 : ns = xs.toList.map (·.1) := by
    rw [← nums_intItems, ← hx]
    exact (show numsOf vs.toArray.toList = ns from hi.numsOf).symm
  exact ⟨xs, hx, by rw [preSum_eq, List.take_of_length_le (by simp), e1]⟩
theorem foldl_min (a : Int) : ∀ r : List Int, r.foldl min a ∈ a :: r ∧ ∀ x ∈ a :: r, r.foldl min a ≤ x := by
  intro r
  induction r generalizing a with
  | nil => simp
  | cons b r ih =>
    obtain ⟨h1, h2⟩ := ih (min a b)
    have e : (b :: r).foldl min a = r.foldl min (min a b) := rfl
    rw [e]
    have h3 := h2 (min a b) (.head _)
    refine ⟨?_, fun x hx => ?_⟩
    · rcases List.mem_cons.mp h1 with q | q
      · rw [q]
        rcases Int.le_total a b with g | g
        · rw [Int.min_eq_left g]; exact .head _
        · rw [Int.min_eq_right g]; exact .tail _ (.head _)
      · exact .tail _ (.tail _ q)
    · rcases List.mem_cons.mp hx with q | q
      · subst q; omega
      · rcases List.mem_cons.mp q with q | q
        · subst q; omega
        · exact h2 x (.tail _ q)
section
variable {ρ : List Addr} {s : Shared} {objs : List O} {Q : Post} {Q' : Value → Shared → Prop}
theorem bb_insert {n : Nat} {l : List D} {kk : Int} {dd : D} {va vk vv : Value} (g1 : objs[n]? = some (.list l)) (q1 : l.length ≤ 1000) (q2 : 0 ≤ kk) (q3 : kk ≤ l.length) (hq : Q .none (objs.set n (.list (insL l kk.toNat dd)))) (B : Base Γ s) (R : ObjsRep Γ s.heap ρ objs)
    (ha : VIn Γ s.heap ρ va (.obj n)) (hk : VIn Γ s.heap ρ vk (.int kk)) (hv : VIn Γ s.heap ρ vv dd) (hd : Done Γ ρ s Q Q') : wpAny (model Γ.prog Γ.w) A (call (.builtin "list.insert") [va, vk, vv]) Q' NoE s := by
  obtain ⟨a, rfl, e1⟩ := ha.obj_inv; obtain ⟨t, rfl⟩ := hk.int_inv
  obtain ⟨vs, n, h1, r1⟩ := R.list e1 g1
  have hkf : ¬ (!Builtin.List.listFitsIndex kk) = true := by unfold Builtin.List.listFitsIndex; simp; omega
  have hz : vs.toArray.size = l.length := by rw [List.size_toArray, r1.length]
  refine call_meets PySem.F.slot_list_insert ⟨_, h1, rfl⟩ PySem.F.entry_list_insert (PySem.F.args_list_insert_3 _ _ _) (PySem.AutoSeq1.list_insert_list_int_val_1 _ _ n kk _ _ hkf (by rw [hz, sizeLine_eq]; omega)) ⟨h1, ?_⟩
  have ek : (if kk < 0 then (kk + ((vs.toArray.size : Nat) : Int)).toNat else min kk.toNat vs.toArray.size) = kk.toNat := by rw [if_neg (by omega), hz]; omega
  obtain ⟨c, up2⟩ := upd_list (fun xs => have k := if kk < 0 then (kk + (xs.size : Int)).toNat else min kk.toNat xs.size; (xs.extract 0 k).push vv ++ xs.extract k) (ws := insL vs kk.toNat vv) (by
    show (vs.toArray.extract 0 (if kk < 0 then (kk + ((vs.toArray.size : Nat) : Int)).toNat else min kk.toNat vs.toArray.size)).push vv ++ vs.toArray.extract (if kk < 0 then (kk + ((vs.toArray.size : Nat) : Int)).toNat else min kk.toNat vs.toArray.size) = _
    rw [ek, ins_arr]) h1
  exact hd.change (o' := .list (insL l kk.toNat dd)) B R e1 g1 s.toks (Heap.SameBut.update ..) up2 (fun T x => ⟨insL vs kk.toNat vv, c, up2, ((r1.ext x).take _).append (.cons (hv.ext x) ((r1.ext x).drop _))⟩) .none hq
theorem min_is {vs : List Value} {a : Int} {r : List Int} {xs : Array (Int × Tok)} (hns : a :: r = xs.toList.map (·.1)) : r.foldl min a = numAt xs (argBest (fun i j => decide (numAt xs i < numAt xs j)) (xs.size - 1)) := by
  have hsz : 0 < xs.size := by
    have h3 : (a :: r).length = xs.size := by rw [hns, List.length_map, Array.length_toList]
    exact h3 ▸ Nat.succ_pos _
  obtain ⟨b1, b2⟩ := argBest_lt (numAt xs) (xs.size - 1)
  obtain ⟨m3, m4⟩ := foldl_min a r
  have m1 : numAt xs (argBest (fun i j => decide (numAt xs i < numAt xs j)) (xs.size - 1)) ∈ a :: r := by
    rw [hns, numAt_eq]; exact getD_mem (by rw [List.length_map, Array.length_toList]; omega)
  refine Int.le_antisymm (m4 _ m1) ?_
  rw [hns] at m3
  obtain ⟨j, hj, e⟩ := mem_getD m3
  rw [List.length_map, Array.length_toList] at hj
  rw [← e, ← numAt_eq]; exact b2 j (by omega)
theorem bb_min {n : Nat} {l : List D} {a : Int} {r : List Int} {va : Value} (hh : A.handled = none) (g1 : objs[n]? = some (.list l)) (e2 : allD intD l = some (a :: r)) (hq : Q (.int (r.foldl min a)) objs) (B : Base Γ s) (R : ObjsRep Γ s.heap ρ objs) (ha : VIn Γ s.heap ρ va (.obj n)) (hd : Done Γ ρ s Q Q') :
    wpAny (model Γ.prog Γ.w) A (call (.builtin "min") [va]) Q' NoE s := by
  obtain ⟨ad, rfl, e1⟩ := ha.obj_inv
  obtain ⟨vs, n, h1, r1⟩ := R.list e1 g1
  have hi := intsAre r1 e2
  obtain ⟨xs, e⟩ := hi.allInts.items
  have hns : a :: r = xs.toList.map (·.1) := by rw [← hi.numsOf, ← nums_intItems, ← e]
  have hsz : 0 < xs.size := by
    have h3 : (a :: r).length = xs.size := by rw [hns, List.length_map, Array.length_toList]
    exact h3 ▸ Nat.succ_pos _
  refine min_intList (xs := xs) hh ⟨_, h1, rfl, n, by rw [← e]⟩ hsz fun v h' tk hv k => ?_
  obtain ⟨t, rfl⟩ := intItems_at hv
  refine hd _ _ ρ _ _ hq (B.keepAll (s' := { s with heap := h', toks := tk }) k rfl) (R.keep (s' := { s with heap := h', toks := tk }) k) (Ext.of_keep k rfl) ?_
  rw [min_is (vs := vs) hns]
  exact .int _ _
theorem str_at {vs : List Value} {ys : List Str} (hs : StrsAre vs ys) {i : Nat} {v : Value} (h : vs[i]? = some v) : ∃ x t, ys[i]? = some x ∧ v = .str x t := by
  have hi := (List.getElem?_eq_some_iff.mp h).1
  have hl := hs.length
  obtain ⟨t, ht⟩ := hs.get i ys[i] (List.getElem?_eq_getElem (by omega))
  rw [h] at ht
  exact ⟨_, t, List.getElem?_eq_getElem (by omega), Option.some.inj ht⟩
theorem bb_index {n : Nat} {l : List D} {x0 : Str} {ys : List Str} {j : Nat} {va vx : Value} (g1 : objs[n]? = some (.list l)) (e2 : allD strD l = some ys) (hl : l.length ≤ 1000) (hj : ys[j]? = some x0) (hn : ∀ m, m < j → ys[m]? ≠ some x0) (hq : Q (.int (j : Nat)) objs)
    (B : Base Γ s) (R : ObjsRep Γ s.heap ρ objs) (ha : VIn Γ s.heap ρ va (.obj n)) (hx : VIn Γ s.heap ρ vx (.str x0)) (hd : Done Γ ρ s Q Q') : wpAny (model Γ.prog Γ.w) A (call (.builtin "list.index") [va, vx]) Q' NoE s := by
  obtain ⟨ad, rfl, e1⟩ := ha.obj_inv; obtain ⟨tx, rfl⟩ := hx.str_inv
  obtain ⟨vs, n, h1, r1⟩ := R.list e1 g1
  have hs := strsAre r1 e2
  have hjl := (List.getElem?_eq_some_iff.mp hj).1
  have hln : vs.length = ys.length := hs.length
  have hvl := r1.length
  refine call_meets PySem.F.slot_list_index ⟨_, h1, rfl⟩ PySem.F.entry_list_index (PySem.F.args_list_index_2 _ _)
    (MeetsSeq.list_index _ vs.toArray n _ (isStrV x0) (fun y hy => ?_) j (by rw [List.size_toArray]; omega) (by omega) ?_ fun m hm hlt => ?_) ⟨h1, hd.toks B R _ hq (.int _ _)⟩
  · obtain ⟨i, hi⟩ := List.mem_iff_getElem?.mp (List.mem_toArray.mp hy)
    obtain ⟨x, t, _, rfl⟩ := str_at hs hi
    exact eqGives_str _ _ _ _
  · obtain ⟨x, t, h3, h4⟩ := str_at hs (List.getElem?_eq_getElem (by omega : j < vs.length))
    rw [hj] at h3; cases h3
    show isStrV x0 vs[j] = true
    rw [h4]; exact beq_self_eq_true _
  · have hm' : m < vs.length := by omega
    obtain ⟨x, t, h3, h4⟩ := str_at hs (List.getElem?_eq_getElem hm')
    show isStrV x0 vs[m] = false
    rw [h4]
    exact beq_eq_false_iff_ne.mpr fun q => hn m hlt (by rw [h3, q])
end
theorem bb_ok (hh : A.handled = none) (v : Value) : PS Γ A (fun vs => call v vs) (BB v) := by
  intro ds objs Q s ρ vs Q' B R hf hv hd
  cases hf with
  | upper h0 h => obtain ⟨v, rfl, h1⟩ := hv.inv1; obtain ⟨t, rfl⟩ := h1.str_inv; exact SC.upper (fit_upper (by omega)) (hd.toks B R _ h (.str _ _))
  | ofInt h0 h => obtain ⟨v, rfl, h1⟩ := hv.inv1; obtain ⟨t, rfl⟩ := h1.int_inv; exact PySem.P.str_of_int (log2_small h0) (hd.toks B R _ h (.str _ _))
  | append g1 h0 h =>
    obtain ⟨v, w, rfl, h1, h2⟩ := hv.inv2; obtain ⟨a, rfl, e1⟩ := h1.obj_inv
    obtain ⟨vs, n, h1, r1⟩ := R.list e1 g1
    refine append_at h1 (fun h' hs e' => ?_) (by rw [List.size_toArray, r1.length, sizeLine_eq]; omega)
    exact hd.change (o' := .list _) B R e1 g1 s.toks hs e' (fun T x => ⟨vs ++ [_], n + 1, by rw [e']; simp [W.listOf], (r1.ext x).append (.cons (h2.ext x) .nil)⟩) .none h
  | insert g1 q1 q2 q3 h => obtain ⟨v, w, u, rfl, h1, h2, h3⟩ := hv.inv3; exact bb_insert g1 q1 q2 q3 h B R h1 h2 h3 hd
  | sum g1 e2 h =>
    obtain ⟨v, rfl, h1⟩ := hv.inv1; obtain ⟨a, rfl, e1⟩ := h1.obj_inv
    obtain ⟨vs, n, h1, r1⟩ := R.list e1 g1
    obtain ⟨xs, e3, e4⟩ := ints_of (intsAre r1 e2)
    refine sum_intListG (xs := xs) hh ⟨_, h1, rfl, n, by rw [← e3]⟩ fun h' tk t' k => ?_
    refine hd _ _ ρ _ _ h (B.keepAll (s' := { s with heap := h', toks := tk }) k rfl) (R.keep (s' := { s with heap := h', toks := tk }) k) (Ext.of_keep k rfl) ?_
    rw [e4]; exact .int _ _
  | minl g1 e2 h => obtain ⟨v, rfl, h1⟩ := hv.inv1; exact bb_min hh g1 e2 h B R h1 hd
  | join g1 e2 h0 h =>
    obtain ⟨v, w, rfl, h1, h2⟩ := hv.inv2; obtain ⟨t, rfl⟩ := h1.str_inv; obtain ⟨a, rfl, e1⟩ := h2.obj_inv
    obtain ⟨vs, n, h1, r1⟩ := R.list e1 g1
    exact join_list ⟨_, h1, rfl, n, rfl⟩ (strsAre r1 e2) h0 fun t' k => hd.toks B R _ h (.str _ _)
  | index g1 e2 hl hj hn h => obtain ⟨v, w, rfl, h1, h2⟩ := hv.inv2; exact bb_index g1 e2 hl hj hn h B R h1 h2 hd
end
end Mine

end
section
open PySem PySem.W PySem.Spec PySem.Calls PyProof.Rows
set_option Elab.async false
set_option maxRecDepth 100000
set_option linter.unusedVariables false
namespace Mine
mutual
noncomputable def pd : D → Option PyData
  | .none => some .none
  | .bool b => some (.bool b)
  | .int i => some (.int i)
  | .str x => some (.str x)
  | .tup l => match pds l with | some r => some (.tuple r) | none => none
  | _ => none
noncomputable def pds : List D → Option (List PyData)
  | [] => some []
  | d :: r => match pd d, pds r with | some x, some y => some (x :: y) | _, _ => none
end
noncomputable def pdo (o : List O) : D → Option PyData
  | .obj n => match o[n]? with | some (.list l) => (match pds l with | some r => some (.list r) | none => none) | _ => none
  | d => pd d
/-- further comparisons -/
inductive KKR (o : List O) (Q : Post) : CmpOp → D → D → Prop
  | eq {a b : D} {x y : PyData} : pdo o a = some x → pdo o b = some y → SeqAt.shaped x = true → SeqAt.shaped y = true → Q (.bool (PyData.eqv x y)) o → KKR o Q .Eq a b
  | ne {a b : D} {x y : PyData} : pdo o a = some x → pdo o b = some y → SeqAt.shaped x = true → SeqAt.shaped y = true → Q (.bool (!PyData.eqv x y)) o → KKR o Q .NotEq a b
  | lt {i j : Int} {x y : Str} : Q (.bool (if i = j then (if x = y then false else decide (x.cps.toList < y.cps.toList)) else decide (i < j))) o → KKR o Q .Lt (.tup [.int i, .str x]) (.tup [.int j, .str y])
noncomputable abbrev KK (op : CmpOp) (a b : D) (o : List O) (Q : Post) : Prop := KKR o Q op a b
section
variable {Γ : Ctx} {A : Around}
theorem pds_cons {d : D} {r : List D} {ps : List PyData} (h : pds (d :: r) = some ps) : ∃ x y, ps = x :: y ∧ pd d = some x ∧ pds r = some y := by
  unfold pds at h
  cases e : pd d with
  | none => rw [e] at h; cases h
  | some a =>
    cases e2 : pds r with
    | none => rw [e, e2] at h; cases h
    | some l => rw [e, e2] at h; cases h; exact ⟨a, l, rfl, rfl, rfl⟩
theorem pd_tup {l : List D} {p : PyData} (h : pd (.tup l) = some p) : ∃ r, p = .tuple r ∧ pds l = some r := by
  unfold pd at h
  cases e : pds l with
  | none => rw [e] at h; cases h
  | some a => rw [e] at h; cases h; exact ⟨a, rfl, rfl⟩
mutual
theorem reads_of {h : Heap} {ρ : List Addr} : ∀ (d : D) {v : Value} {p : PyData}, VIn Γ h ρ v d → pd d = some p → ∃ as, PySem.Reads h v p as
  | .none, v, p, H, e => by cases e; rw [H.none_inv]; exact ⟨_, .none⟩
  | .bool b, v, p, H, e => by cases e; cases H; exact ⟨_, .bool _⟩
  | .int i, v, p, H, e => by cases e; obtain ⟨t, rfl⟩ := H.int_inv; exact ⟨_, .int _ _⟩
  | .str x, v, p, H, e => by cases e; obtain ⟨t, rfl⟩ := H.str_inv; exact ⟨_, .str _ _⟩
  | .tup l, v, p, H, e => by
    obtain ⟨a, vs, n, rfl, g, r⟩ := H.tup_inv
    obtain ⟨q, rfl, eq⟩ := pd_tup e
    obtain ⟨as, hr⟩ := readsAll_of l r eq
    exact ⟨as, .tuple g rfl rfl hr⟩
  | .obj n, v, p, _, e => by cases e
  | .fz l, v, p, _, e => by cases e
  | .fn w, v, p, _, e => by cases e
  | .rng a b c, v, p, _, e => by cases e
theorem readsAll_of {h : Heap} {ρ : List Addr} : ∀ (ds : List D) {vs : List Value} {ps : List PyData}, VAll Γ h ρ vs ds → pds ds = some ps → ∃ as, PySem.ReadsAll h vs ps as
  | [], vs, ps, H, e => by cases e; rw [H.nil_inv]; exact ⟨_, .nil⟩
  | d :: r, vs, ps, H, e => by
    obtain ⟨v, w, rfl, h1, h2⟩ := H.cons_inv
    obtain ⟨x, y, rfl, e1, e2⟩ := pds_cons e
    obtain ⟨as, g1⟩ := reads_of d h1 e1
    obtain ⟨bs, g2⟩ := readsAll_of r h2 e2
    exact ⟨_, .cons g1 g2⟩
end
theorem pdo_obj {o : List O} {n : Nat} {p : PyData} (h : pdo o (.obj n) = some p) : ∃ l r, o[n]? = some (.list l) ∧ pds l = some r ∧ p = .list r := by
  unfold pdo at h
  dsimp only at h
  cases e : o[n]? with
  | none => rw [e] at h; cases h
  | some a =>
    rw [e] at h
    cases a with
    | list l =>
      dsimp only at h
      cases e2 : pds l with
      | none => rw [e2] at h; cases h
      | some r => rw [e2] at h; cases h; exact ⟨l, r, rfl, e2, rfl⟩
    | _ => cases h
theorem reads_obj {s : Shared} {ρ : List Addr} {objs : List O} (R : ObjsRep Γ s.heap ρ objs) {v : Value} {d : D} {p : PyData} (hv : VIn Γ s.heap ρ v d) (e : pdo objs d = some p) : ∃ as, PySem.Reads s.heap v p as := by
  cases d with
  | obj n =>
    obtain ⟨a, rfl, e1⟩ := hv.obj_inv
    obtain ⟨l, r, g, hr, rfl⟩ := pdo_obj e
    obtain ⟨vs, n, h1, r1⟩ := R.list e1 g
    obtain ⟨as, ha⟩ := readsAll_of l r1 hr
    exact ⟨_, .list h1 rfl rfl ha⟩
  | _ => exact reads_of _ hv e

theorem tuple_lt2 (l b : Addr) (x1 x2 y1 y2 : Value) (n n2 : Nat) (e1 e2 : Bool) (r : Value) :
    Meets (Builtin.«tuple.__lt__» ⟨[.ref l, .ref b], []⟩)
      (fun A R s => s.heap.get? l = some { cls := .type "tuple", data := .seq #[x1, x2] n } ∧ s.heap.get? b = some { cls := .type "tuple", data := .seq #[y1, y2] n2 } ∧
        SeqAt.EqAt A.in1 s x1 y1 e1 ∧ (e1 = true → SeqAt.EqAt A.in1 s x2 y2 e2) ∧
        (e1 = false → ∀ prog w E (Q : Value → Shared → Prop), Q r s → wpAny (model prog w) A.in1 (richCompare .Lt x1 y1) Q E s) ∧ 
        (e1 = true → e2 = false → ∀ prog w E (Q : Value → Shared → Prop), Q r s → wpAny (model prog w) A.in1 (richCompare .Lt x2 y2) Q E s) ∧ 
        (e1 = true → e2 = true → r = .bool false) ∧
        R (.ok (.ret r)) s) :=
  .of_wp fun prog w A R s h => by
    obtain ⟨hp, g, d, tk, os⟩ := s; obtain ⟨hl, hb, he1, he2, hr1, hr2, hr3, h⟩ := h
    have f2 := AutoSeq1.sub_tuple_tuple
    wp_walk using wpAny_loadPart' hl, wpAny_loadPart' hb, wpAny_forIn_list _ (fun rest b s' => b.1 = none ∧ s' = ⟨hp, g, d, tk, os⟩ ∧ (rest = [(x1, y1), (x2, y2)] ∨ (rest = [(x2, y2)] ∧ e1 = true) ∨ (rest = [] ∧ e1 = true ∧ e2 = true))) _
    case turn =>
      rintro ⟨y, x⟩ rest b s' ⟨hb', rfl, hz⟩
      rcases hz with hz | ⟨hz, h1⟩ | ⟨hz, _⟩
      · cases hz
        refine wpAny_bind (he1 prog w _ _ ?_)
        cases e1 with
        | true =>
          wp_walk
          exact ⟨rfl, rfl, .inr (.inl ⟨rfl, rfl⟩)⟩
        | false =>
          refine wpAny_bind (wpAny_rule (wpAny_bind (hr1 rfl _ _ _ _ ?_)))
          wp_walk
          exact ⟨_, rfl, h⟩
      · cases hz
        refine wpAny_bind (he2 h1 prog w _ _ ?_)
        cases e2 with
        | true =>
          wp_walk
          exact ⟨rfl, rfl, .inr (.inr ⟨rfl, h1, rfl⟩)⟩
        | false =>
          refine wpAny_bind (wpAny_rule (wpAny_bind (hr2 h1 rfl _ _ _ _ ?_)))
          wp_walk
          exact ⟨_, rfl, h⟩
      · cases hz
    case fin =>
      rintro ⟨b1, b2⟩ s' ⟨hb', rfl, hz⟩
      simp only at hb'
      subst hb'
      rcases hz with hz | ⟨hz, h1⟩ | ⟨hz, h1, h2⟩
      · cases hz
      · cases hz
      · rw [hr3 h1 h2] at h
        wp_walk
        exact ⟨_, rfl, h⟩
    case h =>
      exact ⟨rfl, rfl, .inl rfl⟩
theorem lt_tuple2 {s : Shared} {a b : Addr} {i j : Int} {x y : Str} {t u t' u' : Tok} {n n2 : Nat} {E : Value → Shared → Prop} {Q : Value → Shared → Prop} {prog : Program} {w : World} (hu : A.units < cLine)
    (ha : s.heap.get? a = some { cls := .type "tuple", data := .seq #[.int i t, .str x u] n }) (hb : s.heap.get? b = some { cls := .type "tuple", data := .seq #[.int j t', .str y u'] n2 })
    (h : Q (.bool (if i = j then (if x = y then false else decide (x.cps.toList < y.cps.toList)) else decide (i < j))) s) : wpAny (model prog w) A (compareOp .Lt (.ref a) (.ref b)) Q E s := by
  show wpAny _ _ (richCompare .Lt _ _) _ _ _
  refine richCompare_meets_room (op := .Lt) ⟨_, ha, rfl⟩ ⟨_, hb, rfl⟩ PySem.F.slot_tuple_lt PySem.F.entry_tuple_lt (PySem.F.args_tuple_lt_2 _ _) (tuple_lt2 a b (.int i t) (.str x u) (.int j t') (.str y u') n n2 (i == j) (x == y) (.bool (if i = j then (if x = y then false else decide (x.cps.toList < y.cps.toList)) else decide (i < j)))) ?_ hu
  refine ⟨ha, hb, (MeetsSeq.EqGives.int _ _ _ _).at _ _, fun _ => (eqGives_str _ _ _ _).at _ _, fun h1 prog w E Q hq => ?_, fun h1 h2 prog w E Q hq => ?_, fun h1 h2 => ?_, ?_⟩
  · have : ¬ i = j := by simpa using h1
    rw [if_neg this] at hq
    exact PySem.P.lt_int hq
  · have e1 : i = j := by simpa using h1
    have e2 : ¬ x = y := by simpa using h2
    rw [if_pos e1, if_neg e2] at hq
    exact lt_str hq
  · have e1 : i = j := by simpa using h1
    have e2 : x = y := by simpa using h2
    rw [if_pos e1, if_pos e2]
  · exact ⟨fun q => (nomatch q), h⟩
theorem kk_ok {n : Nat} (hA : AOk n A) (op : CmpOp) : PS Γ A (t2 (compareOp op)) (two (KK op)) := by
  have hu := hA.2.2.1
  refine PS.two fun a b objs Q s ρ va vb Q' B R hf ha hb hd => ?_
  cases hf with
  | eq e1 e2 s1 s2 hq =>
    obtain ⟨as, r1⟩ := reads_obj R ha e1
    obtain ⟨bs, r2⟩ := reads_obj R hb e2
    exact eq_dataH r1 r2 s1 s2 (by omega) (hd.same B R hq (.bool _))
  | ne e1 e2 s1 s2 hq =>
    obtain ⟨as, r1⟩ := reads_obj R ha e1
    obtain ⟨bs, r2⟩ := reads_obj R hb e2
    exact ne_dataH r1 r2 s1 s2 (by omega) (hd.same B R hq (.bool _))
  | lt h =>
    obtain ⟨a1, vs, n, rfl, g1, r1⟩ := ha.tup_inv; obtain ⟨a2, us, m, rfl, g2, r2⟩ := hb.tup_inv
    obtain ⟨u1, u2, rfl, v1, v2⟩ := r1.inv2; obtain ⟨u3, u4, rfl, w1, w2⟩ := r2.inv2
    obtain ⟨t1, rfl⟩ := v1.int_inv; obtain ⟨t2, rfl⟩ := v2.str_inv; obtain ⟨t3, rfl⟩ := w1.int_inv; obtain ⟨t4, rfl⟩ := w2.str_inv
    exact lt_tuple2 (by omega) g1 g2 (hd.same B R h (.bool _))
end
end Mine

end
section
open PySem PySem.W PySem.Spec PySem.Calls PyProof.Rows
set_option Elab.async false
set_option maxRecDepth 100000
set_option linter.unusedVariables false
namespace Mine
/-- names of a comprehension's own frame -/
noncomputable def relNames (out names : List (Str × NameKind)) : List (Str × NameKind) := names.map fun x => if (x.2 == .free && lkS out x.1 == some .cell) = true then (x.1, .cell) else x
noncomputable def inP (P : PCtx) (scope : Scope) : PCtx := { P with sc := relNames P.sc scope.names, X := fun _ _ _ _ => False, Y := fun _ _ _ _ => False, E := fun _ => True }
noncomputable def inLoc : List (Str × NameKind) → Loc → Loc
  | [], _ => []
  | (n, .local) :: r, loc => (n, none) :: inLoc r loc
  | (n, .free) :: r, loc => (n, getLo loc n) :: inLoc r loc
  | _ :: r, loc => inLoc r loc
theorem inLoc_nil (l : Loc) : inLoc [] l = [] := rfl
theorem inLoc_local (n : Str) (r : List (Str × NameKind)) (l : Loc) : inLoc ((n, .local) :: r) l = (n, none) :: inLoc r l := rfl
theorem inLoc_free (n : Str) (r : List (Str × NameKind)) (l : Loc) : inLoc ((n, .free) :: r) l = (n, getLo l n) :: inLoc r l := rfl
theorem inLoc_cell (n : Str) (r : List (Str × NameKind)) (l : Loc) : inLoc ((n, .cell) :: r) l = inLoc r l := rfl
theorem inLoc_glob (n : Str) (r : List (Str × NameKind)) (l : Loc) : inLoc ((n, .globalImplicit) :: r) l = inLoc r l := rfl
theorem methV_str (P : PCtx) (x : Str) (o : List O) (m : Str) : methV P (.str x) o m = (if m = Str.ofString "lower" then some (.builtin "str.lower") else if m = Str.ofString "upper" then some (.builtin "str.upper") else if m = Str.ofString "join" then some (.builtin "str.join") else if m = Str.ofString "replace" then some (.builtin "str.replace") else none) := rfl
noncomputable def compOk (P : PCtx) (scope : Scope) : Bool := scope.kind == .function && scope.names.all fun x => x.2 != .cell && lkS scope.names x.1 == some x.2 && (x.2 != .free || lkS P.sc x.1 == some .cell) && !(x.1 == ("__debug__" : Str)) && !(x.1 == ("__classdict__" : Str))
inductive AsgLR (P : PCtx) (loc : Loc) (K : Loc → Prop) : Expr → D → Prop
  | name {x : Str} {p : Pos} {d : D} : lkS P.sc x = some .local → K (setLo loc x d) → AsgLR P loc K (.Name x p) d
  | two {x y : Str} {p q r : Pos} {kk : Nat} {a b : D} : lkS P.sc x = some .local → lkS P.sc y = some .local → K (setLo (setLo loc x a) y b) → AsgLR P loc K (.Tuple [.Name x p, .Name y q] kk r) (.tup [a, b])
noncomputable abbrev asgL (P : PCtx) (target : Expr) (d : D) (loc : Loc) (K : Loc → Prop) : Prop := AsgLR P loc K target d
noncomputable def cIf (P : PCtx) (ifs : List Expr) (loc : Loc) (o : List O) (K : Bool → List O → Prop) : Prop := match ifs with
  | [] => K true o
  | [c] => WT P c loc o K
  | _ => False
noncomputable def CompGo (P : PCtx) (target elt : Expr) (ifs : List Expr) (o1 : List O) (Q : Post) : List D → List D → Loc → Prop
  | [], done, _ => Q (.obj o1.length) (o1 ++ [.list done])
  | d :: r, done, loc => asgL P target d loc fun loc1 => cIf P ifs loc1 (o1 ++ [.list done]) fun b o2 => o2 = o1 ++ [.list done] ∧
      (b = true → WE P elt loc1 o2 fun x o3 => o3 = o1 ++ [.list done] ∧ done.length ≤ 1000 ∧ CompGo P target elt ifs o1 Q r (done ++ [x]) loc1) ∧ (b = false → CompGo P target elt ifs o1 Q r done loc1)
inductive CompR (P : PCtx) (elt : Expr) (scope : Scope) (loc : Loc) (o : List O) (Q : Post) : List Comprehension → Prop
  | mk {target iter : Expr} {ifs : List Expr} : compOk P scope = true → ForOk iter → WI P target iter loc o (fun items g o1 => GuardOk g items o1 ∧ CompGo (inP P scope) target elt ifs o1 Q items [] (inLoc scope.names loc)) → CompR P elt scope loc o Q [⟨target, iter, ifs, 0⟩]
noncomputable abbrev compF (P : PCtx) (elt : Expr) (gens : List Comprehension) (scope : Scope) (loc : Loc) (o : List O) (Q : Post) : Prop := CompR P elt scope loc o Q gens

theorem lkS_rel (out names : List (Str × NameKind)) (x : Str) : lkS (relNames out names) x = (lkS names x).map fun k => if (k == .free && lkS out x == some .cell) = true then .cell else k := by
  unfold relNames
  induction names with
  | nil => rfl
  | cons p r ih =>
    obtain ⟨y, k⟩ := p
    rw [List.map_cons]
    by_cases h : x = y
    · subst h
      show lkS ((if _ then _ else _) :: _) x = _
      by_cases hc : (k == .free && lkS out x == some .cell) = true
      · rw [if_pos hc]; simp only [lkS, if_true, Option.map_some]; rw [if_pos hc]
      · rw [if_neg hc]; simp only [lkS, if_true, Option.map_some]; rw [if_neg hc]
    · have e1 : lkS ((y, k) :: r) x = lkS r x := by simp [lkS, h]
      rw [e1, ← ih]
      show lkS ((if _ then _ else _) :: _) x = _
      split <;> simp [lkS, h]
theorem getLo_in {names : List (Str × NameKind)} {loc : Loc} {x : Str} {d : D} (h : getLo (inLoc names loc) x = some d) : (x, NameKind.free) ∈ names ∧ getLo loc x = some d := by
  induction names with
  | nil => cases h
  | cons p r ih =>
    obtain ⟨y, k⟩ := p
    cases k with
    | «local» =>
      have h : (if x = y then none else getLo (inLoc r loc) x) = some d := h
      split at h
      · cases h
      · exact ⟨.tail _ (ih h).1, (ih h).2⟩
    | free =>
      have h : (if x = y then getLo loc y else getLo (inLoc r loc) x) = some d := h
      split at h
      · rename_i e; subst e; exact ⟨.head _, h⟩
      · exact ⟨.tail _ (ih h).1, (ih h).2⟩
    | _ => exact ⟨.tail _ (ih h).1, (ih h).2⟩

noncomputable def clGo (cells : List (Str × Addr)) : List (Str × NameKind) → List (Str × Addr) → List (Str × Addr)
  | [], cs => cs
  | (n, k) :: r, cs => clGo cells r (if (k == NameKind.free) = true then (n, (cells.lookup n).getD 0) :: cs else cs)
theorem clGo_ok (cells : List (Str × Addr)) : ∀ (names : List (Str × NameKind)) (cs : List (Str × Addr)), (∀ x ∈ names, x.2 = .free → ∃ c, cells.lookup x.1 = some c) → (∀ p ∈ cs, cells.lookup p.1 = some p.2) →
    (∀ p ∈ clGo cells names cs, cells.lookup p.1 = some p.2) ∧ (∀ p ∈ cs, p ∈ clGo cells names cs) ∧ ∀ x ∈ names, x.2 = .free → ∃ c, (x.1, c) ∈ clGo cells names cs
  | [], cs, _, hc => ⟨hc, fun p hp => hp, fun _ h => nomatch h⟩
  | (n, k) :: r, cs, hf, hc => by
    unfold clGo
    by_cases hk : (k == NameKind.free) = true
    · rw [if_pos hk]
      have hk' : k = .free := by simpa using hk
      obtain ⟨c, ec⟩ := hf _ (.head _) hk'
      obtain ⟨a1, a2, a3⟩ := clGo_ok cells r ((n, (cells.lookup n).getD 0) :: cs) (fun x hx => hf x (.tail _ hx)) fun p hp => by
        rcases List.mem_cons.mp hp with rfl | hp
        · show cells.lookup n = some ((cells.lookup n).getD 0)
          rw [show cells.lookup n = some c from ec]; rfl
        · exact hc p hp
      refine ⟨a1, fun p hp => a2 p (.tail _ hp), fun x hx he => ?_⟩
      rcases List.mem_cons.mp hx with rfl | hx
      · exact ⟨_, a2 _ (.head _)⟩
      · exact a3 x hx he
    · rw [if_neg hk]
      obtain ⟨a1, a2, a3⟩ := clGo_ok cells r cs (fun x hx => hf x (.tail _ hx)) hc
      refine ⟨a1, a2, fun x hx he => ?_⟩
      rcases List.mem_cons.mp hx with rfl | hx
      · exact absurd (beq_iff_eq.mpr he : (k == NameKind.free) = true) hk
      · exact a3 x hx he
theorem closure_pure {scope : Scope} {env : Env} (h : ∀ x ∈ scope.names, x.2 = .free → ∃ c, env.cells.lookup x.1 = some c) : closureFor scope env = pure (clGo env.cells scope.names []) := by
  have key : ∀ (f : Str × NameKind → List (Str × Addr) → Sem (ForInStep (List (Str × Addr)))), (∀ n k cs, f (n, k) cs = if (k == NameKind.free) = true then (do let a ← cellOf env n; pure (ForInStep.yield ((n, a) :: cs))) else pure (ForInStep.yield cs)) →
      ∀ (names : List (Str × NameKind)) (cs : List (Str × Addr)), (∀ x ∈ names, x.2 = .free → ∃ c, env.cells.lookup x.1 = some c) → (forIn names cs f : Sem (List (Str × Addr))) = pure (clGo env.cells names cs) := by
    intro f hf' names
    induction names with
    | nil => intro cs _; rfl
    | cons p r ih =>
      intro cs hf
      obtain ⟨n, k⟩ := p
      rw [List.forIn_cons, hf']
      unfold clGo
      by_cases hk : (k == NameKind.free) = true
      · have hk' : k = .free := by simpa using hk
        obtain ⟨c, ec⟩ := hf _ (.head _) hk'
        have ec' : env.cells.lookup n = some c := ec
        have e1 : cellOf env n = pure c := by
          unfold cellOf
          rw [ec']
        rw [if_pos hk, if_pos hk, e1, ec']
        show (forIn r ((n, c) :: cs) f : Sem (List (Str × Addr))) = _
        exact ih _ fun x hx => hf x (.tail _ hx)
      · rw [if_neg hk, if_neg hk]
        show (forIn r cs f : Sem (List (Str × Addr))) = _
        exact ih _ fun x hx => hf x (.tail _ hx)
  show ((forIn scope.names ([] : List (Str × Addr)) _ : Sem (List (Str × Addr))) >>= fun cs => pure cs) = _
  rw [key _ (fun n k cs => rfl) scope.names [] h]
  rfl
theorem mem_of_lk {l : List (Str × Addr)} {x : Str} {c : Addr} (h : l.lookup x = some c) : (x, c) ∈ l := by
  induction l with
  | nil => cases h
  | cons p r ih =>
    obtain ⟨z, w⟩ := p
    rw [List.lookup_cons] at h
    by_cases e : x = z
    · subst e; simp at h; subst h; exact .head _
    · have : (x == z) = false := by simpa using e
      rw [this] at h; exact .tail _ (ih h)
theorem lk_of_mem {l : List (Str × Addr)} {x : Str} {c : Addr} (h : (x, c) ∈ l) : ∃ c', l.lookup x = some c' := by
  induction l with
  | nil => cases h
  | cons p r ih =>
    obtain ⟨z, w⟩ := p
    rw [List.lookup_cons]
    by_cases e : x = z
    · subst e; exact ⟨w, by simp⟩
    · have : (x == z) = false := by simpa using e
      rw [this]
      rcases List.mem_cons.mp h with q | q
      · cases q; exact absurd rfl e
      · exact ih q
theorem mem_of_lkS {l : List (Str × NameKind)} {x : Str} {k : NameKind} (h : lkS l x = some k) : (x, k) ∈ l := by
  induction l with
  | nil => cases h
  | cons p r ih =>
    obtain ⟨z, w⟩ := p
    unfold lkS at h
    split at h
    · rename_i e; cases h; subst e; exact .head _
    · exact .tail _ (ih h)

section
variable {Γ : Ctx} {P : PCtx} {env : Env} {own ρ ρ₀ : List Addr} {A : Around} {loc : Loc} {s s₀ : Shared} {objs : List O}
noncomputable def AsgL (Γ : Ctx) (env : Env) (own : List Addr) (A : Around) (target : Expr) (asg : D → Loc → (Loc → Prop) → Prop) : Prop :=
  ∀ d loc K objs s ρ v QQ, Rep Γ env own ρ loc objs s → asg d loc K → VIn Γ s.heap ρ v d → (∀ loc' s', K loc' → Rep Γ env own ρ loc' objs s' → Ext ([env.locals] ++ Γ.tabs) ρ s ρ s' → QQ () s') →
    wpAny (model Γ.prog Γ.w) A (assign target env v) QQ NoE s
theorem asgL_ok (am : Am0 Γ P env A) (target : Expr) : AsgL Γ env own A target (asgL P target) := by
  have hk : ∀ x, env.kindOf x = lkS P.sc x := fun x => by unfold Env.kindOf; rw [am.sc, lkS_eq]
  intro d loc K objs s ρ v QQ R h hv k
  cases h with
  | name h1 hK => exact wpAny_assign_Name (store_loc R ((hk _).trans h1) hv fun s' R' x' => k _ _ hK R' x')
  | two h1 h2 hK =>
    obtain ⟨a, vs, n, rfl, e, r⟩ := hv.tup_inv
    obtain ⟨u1, u2, rfl, v1, v2⟩ := r.inv2
    refine wpAny_assign_Tuple am.hh ⟨_, e, rfl, _, rfl⟩ rfl rfl fun h' hx => ?_
    have kp := keepBut hx
    have x' : Ext ([env.locals] ++ Γ.tabs) ρ s ρ { s with heap := h' } := Ext.of_keep kp rfl
    refine wpAny_bind (wpAny_holding (wpAny_assign_Name (store_loc (R.keepAll (s' := { s with heap := h' }) kp rfl rfl) ((hk _).trans h1) (v1.ext x') fun s1 R1 x1 => ?_)))
    refine wpAny_bind (wpAny_holding (wpAny_assign_Name (store_loc R1 ((hk _).trans h2) ((v2.ext x').ext x1) fun s2 R2 x2 => ?_)))
    exact wpAny_pure (k _ _ hK R2 ((x'.trans x1).trans x2))
theorem Ext.drop {T : List Addr} {C : Addr} {ρ' : List Addr} {s' : Shared} (x : Ext ([C] ++ T) ρ s ρ' s') (hC : s.heap.get? C = none) : Ext T ρ s ρ' s' := by
  refine ⟨x.pre, x.new, fun a o e ht hr => x.keep a o e (fun q => ?_) hr, x.imm, x.live, x.os⟩
  rcases List.mem_append.mp q with q | q
  · rw [List.mem_singleton.mp q, hC] at e; cases e
  · exact ht q
theorem comp_turn {R : Result → Shared → Prop} {elt target iter : Expr} {ifs : List Expr} {scope : Scope} {pos : Pos} {it acc : Value} (I : Nat → Shared → Prop)
    (turn : ∀ n s, I n s → wpAny (model Γ.prog Γ.w) A (pyNext it) (fun r s₁ => match r with
      | none => R (.ok .next) s₁
      | some v => wpAny (model Γ.prog Γ.w) A (letOwnedTupleGo target it v) (fun _ s₂ => wpAny (model Γ.prog Γ.w) A (assign target env v) (fun _ s₃ =>
          wpAny (model Γ.prog Γ.w) A (forIn ifs true fun c r => if r = true then do let ok ← isTrue c env (eval c env); pure (ForInStep.yield ok) else pure (ForInStep.yield r)) (fun ok s₄ =>
            if ok = true then wpAny (model Γ.prog Γ.w) A (eval elt env) (fun x s₅ => wpAny (model Γ.prog Γ.w) A (call (.builtin "list.append") [acc, x]) (fun _ s₆ => ∃ m, m < n ∧ I m s₆) NoE s₅) NoE s₄
            else ∃ m, m < n ∧ I m s₄) NoE s₃) NoE s₂) NoE s₁) NoE s)
    (n : Nat) (h : I n s) : codeAny (model Γ.prog Γ.w) A (.compLoop (.ListComp elt [⟨target, iter, ifs, 0⟩] scope pos) 0 it acc env) R s := by
  refine codeAny_loop rfl I (fun n s hI => ?_) n h
  show wpAny _ A ((compTurn (.ListComp elt [⟨target, iter, ifs, 0⟩] scope pos) 0 it acc env).onRaise (fun x => do noteFrame x env; theTreesLotGoes x)) _ _ s
  refine wpAny_noted ?_
  rw [compTurn_list]
  refine wpAny_bind (wpAny_standAt (wpAny_bind (wpAny_mono (turn n s hI) (fun r s₁ h₁ => ?_) fun _ _ h' => h'.elim)))
  cases r with
  | none => exact wpAny_pure h₁
  | some v =>
    refine wpAny_bind (wpAny_mono h₁ (fun _ s₂ h₂ => ?_) fun _ _ h' => h'.elim)
    refine wpAny_bind (wpAny_mono h₂ (fun _ s₃ h₃ => wpAny_bind (wpAny_mono h₃ (fun ok s₄ h₄ => ?_) fun _ _ h' => h'.elim)) fun _ _ h' => h'.elim)
    cases ok with
    | false => exact wpAny_pure ⟨rfl, h₄⟩
    | true =>
      exact wpAny_bind (wpAny_bind (wpAny_mono h₄ (fun x s₅ h₅ => wpAny_bind (wpAny_mono h₅ (fun _ s₆ h₆ => wpAny_pure (wpAny_pure ⟨rfl, h₆⟩)) fun _ _ h' => h'.elim)) fun _ _ h' => h'.elim))
end
end Mine

end
section
open PySem PySem.W PySem.Spec PySem.Calls PyProof.Rows
set_option Elab.async false
set_option maxRecDepth 100000
set_option linter.unusedVariables false
namespace Mine
section
variable {Γ : Ctx} {P : PCtx} {env : Env} {own ρ ρ₀ : List Addr} {A : Around} {loc : Loc} {s s₀ : Shared} {objs : List O}
theorem compOk_names {scope : Scope} (h : compOk P scope = true) : scope.kind = .function ∧ ∀ x ∈ scope.names, x.2 ≠ .cell ∧ lkS scope.names x.1 = some x.2 ∧ (x.2 = .free → lkS P.sc x.1 = some .cell) ∧ (x.1 == ("__debug__" : Str)) = false ∧ (x.1 == ("__classdict__" : Str)) = false := by
  unfold compOk at h
  rw [Bool.and_eq_true] at h
  refine ⟨by simpa using h.1, fun x hx => ?_⟩
  have := List.all_eq_true.mp h.2 x hx
  simp only [Bool.and_eq_true, Bool.or_eq_true, Bool.not_eq_true', bne_iff_ne, ne_eq, beq_iff_eq] at this
  obtain ⟨⟨⟨⟨q1, q2⟩, q3⟩, q4⟩, q5⟩ := this
  refine ⟨q1, q2, fun e => ?_, q4, q5⟩
  rcases q3 with q3 | q3
  · exact absurd e q3
  · exact q3
/-- what a name of the outer frame's cells reads -/
theorem cell_of (am : Am0 Γ P env A) {h : Heap} (F : FrOk Γ env own h ρ loc) {x : Str} {d : D} (hk : lkS P.sc x = some .cell ∨ lkS P.sc x = some .free) (e : getLo loc x = some d) : ∃ c v, env.cells.lookup x = some c ∧ h.IsCell c (some v) ∧ VIn Γ h ρ v d := by
  have hk' : env.kindOf x = lkS P.sc x := by unfold Env.kindOf; rw [am.sc, lkS_eq]
  obtain ⟨v, hr, hi⟩ := F.loc x d e
  rcases hr with ⟨k, _⟩ | ⟨_, c, hc, hv⟩
  · rw [hk'] at k; rcases hk with q | q <;> rw [q] at k <;> cases k
  · exact ⟨c, v, hc, hv, hi⟩
/-- the names that a comprehension keeps from outside have cells -/
noncomputable def FreeOk (env : Env) (scope : Scope) : Prop := ∀ x ∈ scope.names, x.2 = .free → ∃ c, env.cells.lookup x.1 = some c

theorem free_ok (am : Am0 Γ P env A) {scope : Scope} (hok : compOk P scope = true) {h : Heap} (F : FrOk Γ env own h ρ loc) : FreeOk env scope := fun x hx e => by
  have hk' : env.kindOf x.1 = lkS P.sc x.1 := by unfold Env.kindOf; rw [am.sc, lkS_eq]
  obtain ⟨c, hc, _⟩ := F.cell x.1 (hk'.trans (((compOk_names hok).2 x hx).2.2.1 e))
  exact ⟨c, hc⟩
theorem in_frame (am : Am0 Γ P env A) {scope : Scope} (hok : compOk P scope = true) (hfree : FreeOk env scope) {h h' : Heap} {C : Addr} {ρ' : List Addr} (F : FrOk Γ env own h ρ loc) (F' : FrOk Γ env own h' ρ' loc)
    (hC : h.get? C = none) (hC' : C ∉ ρ' ∧ C ∉ Γ.tabs ∧ Γ.h₀.get? C = none) (hn : ∃ m, h'.Ns C m) :
    FrOk Γ (compEnvC scope (clGo env.cells scope.names []) C env) (C :: own) h' ρ' (inLoc scope.names loc) := by
  obtain ⟨hkind, hnm⟩ := compOk_names hok
  obtain ⟨c1, c2, c3⟩ := clGo_ok env.cells scope.names [] hfree (fun _ h => nomatch h)
  have hsc : (relabel scope env).names = relNames P.sc scope.names := by
    unfold relabel relNames
    apply List.map_congr_left
    rintro ⟨n, k⟩ _
    have hk : env.kindOf n = lkS P.sc n := by unfold Env.kindOf; rw [am.sc, lkS_eq]
    show (if (k == .free && env.scope.kind == .function && env.kindOf n == some .cell) = true then _ else _) = _
    rw [F.kind, hk]
    simp
  have kin : ∀ x, (compEnvC scope (clGo env.cells scope.names []) C env).kindOf x = lkS (relNames P.sc scope.names) x := fun x => by
    show (relabel scope env).names.lookup x = _
    rw [hsc, lkS_eq]
  have lk : ∀ x c, (clGo env.cells scope.names []).lookup x = some c → env.cells.lookup x = some c := fun x c e => c1 (x, c) (mem_of_lk e)
  have kcell : ∀ x, lkS (relNames P.sc scope.names) x = some .cell → lkS scope.names x = some .free ∧ lkS P.sc x = some .cell := fun x e => by
    rw [lkS_rel] at e
    obtain ⟨k, e1, e2⟩ := Option.map_eq_some_iff.mp e
    have := (hnm (x, k) (mem_of_lkS e1)).1
    split at e2
    · rename_i q
      simp only [Bool.and_eq_true, beq_iff_eq] at q
      exact ⟨q.1 ▸ e1, q.2⟩
    · exact absurd e2 this
  have ek : ∀ x, env.kindOf x = lkS P.sc x := fun x => by unfold Env.kindOf; rw [am.sc, lkS_eq]
  refine ⟨hkind, F.glob, F.blt, hn, .head _, fun x e => ?_, fun x c e => ?_, fun x y c e e1 e2 => ?_, fun a ha => ?_, fun x d e => ?_⟩
  · rw [kin] at e
    obtain ⟨f1, f2⟩ := kcell x e
    obtain ⟨c, hc⟩ := c3 (x, .free) (mem_of_lkS f1) rfl
    obtain ⟨c', hc'⟩ := lk_of_mem hc
    obtain ⟨c'', e3, e4⟩ := F'.cell x ((ek x).trans f2)
    have q : c'' = c' := Option.some.inj (e3.symm.trans (lk x c' hc'))
    exact ⟨c', hc', .tail _ (q ▸ e4)⟩
  · have e' := lk x c e
    obtain ⟨_, a2, a3, a4⟩ := F'.cells x c e'
    obtain ⟨_, _, _, v, o, ho, _⟩ := F.cells x c e'
    refine ⟨fun q => ?_, a2, a3, a4⟩
    have q' : c = C := q
    rw [q', hC] at ho; cases ho
  · rw [kin] at e
    exact F'.apart x y c ((ek x).trans (kcell x e).2) (lk x c e1) (lk y c e2)
  · rcases List.mem_cons.mp ha with rfl | ha
    · obtain ⟨m, o, _, _, ho, _⟩ := hn
      exact ⟨hC'.1, hC'.2.1, hC'.2.2, o, ho⟩
    · exact F'.ownk a ha
  · obtain ⟨hm, hg⟩ := getLo_in e
    have hx := hnm _ hm
    obtain ⟨c, v, e1, e2, e3⟩ := cell_of am F' (.inl (hx.2.2.1 rfl)) hg
    refine ⟨v, .inr ⟨?_, ?_⟩, e3⟩
    · rw [kin, lkS_rel, show lkS scope.names x = some .free from hx.2.1]
      simp only [Option.map_some]
      split
      · exact .inl rfl
      · exact .inr rfl
    · obtain ⟨c0, hc0⟩ := c3 _ hm rfl
      obtain ⟨c', hc'⟩ := lk_of_mem hc0
      have q : c = c' := Option.some.inj (e1.symm.trans (lk x c' hc'))
      exact ⟨c, q ▸ hc', e2⟩
theorem am_in (am : Am0 Γ P env A) {scope : Scope} (hok : compOk P scope = true) (hf : env.scope.kind = .function) {cl : List (Str × Addr)} {C : Addr} : Amb Γ (inP P scope) (compEnvC scope cl C env) A := by
  obtain ⟨hkind, hnm⟩ := compOk_names hok
  have hsc : (relabel scope env).names = relNames P.sc scope.names := by
    unfold relabel relNames
    apply List.map_congr_left
    rintro ⟨n, k⟩ _
    have hk : env.kindOf n = lkS P.sc n := by unfold Env.kindOf; rw [am.sc, lkS_eq]
    show (if (k == .free && env.scope.kind == .function && env.kindOf n == some .cell) = true then _ else _) = _
    rw [hf, hk]
    simp
  refine ⟨⟨hsc, am.G, am.C, am.M, am.hh, am.hu, am.oB, am.oK, am.oJ, fun x k e => ?_, trivial⟩, fun _ _ _ _ _ _ _ _ _ hw _ => hw.elim, fun _ _ _ _ _ _ _ _ _ hw _ => hw.elim⟩
  have e' : lkS (relNames P.sc scope.names) x = some k := e
  rw [lkS_rel] at e'
  obtain ⟨k', e1, _⟩ := Option.map_eq_some_iff.mp e'
  exact (hnm _ (mem_of_lkS e1)).2.2.2
theorem tests_ok {P' : PCtx} {env' : Env} {own' : List Addr} (am : Amb Γ P' env' A) (ifs : List Expr) : TS Γ env' own' A loc (forIn ifs true fun c r => if r = true then do let ok ← isTrue c env' (eval c env'); pure (ForInStep.yield ok) else pure (ForInStep.yield r)) (fun o K => cIf P' ifs loc o K) := by
  intro objs Q s ρ Q' R hw k
  match ifs, hw with
  | [], hw => exact wpAny_tests_nil (k _ _ _ _ hw R (Ext.refl _ _ _))
  | [c], hw => exact wpAny_tests_one (WT_sound am c loc objs Q s ρ Q' R hw k)
theorem append_ok (hh : A.handled = none) (R : Rep Γ env own ρ loc objs s) {n : Nat} {l : List D} {d : D} {a : Addr} {v : Value} (ha : ρ[n]? = some a) (hl : objs[n]? = some (.list l)) (hlen : l.length ≤ 1000) (hv : VIn Γ s.heap ρ v d) {QQ : Value → Shared → Prop}
    (k : ∀ ρ' w s', Rep Γ env own ρ' loc (objs.set n (.list (l ++ [d]))) s' → Ext Γ.tabs ρ s ρ' s' → QQ w s') : wpAny (model Γ.prog Γ.w) A (call (.builtin "list.append") [.ref a, v]) QQ NoE s := by
  refine bb_ok hh (.builtin "list.append") [.obj n, d] objs (fun w o' => o' = objs.set n (.list (l ++ [d]))) s ρ [.ref a, v] QQ R.base R.objs ?_ (.cons (.obj ha) (.cons hv .nil)) ?_
  · exact .append hl hlen rfl
  · rintro w objs' ρ' v' s' rfl B' O' x' _
    exact k ρ' v' s' (R.step x' B' O') x'
end
end Mine

end
section
open PySem PySem.W PySem.Spec PySem.Calls PyProof.Rows
set_option Elab.async false
set_option maxRecDepth 100000
set_option linter.unusedVariables false
namespace Mine
section
variable {Γ : Ctx} {P : PCtx} {env : Env} {own ρ ρ₀ : List Addr} {A : Around} {loc : Loc} {s s₀ : Shared} {objs : List O}
theorem CompGo_nil {P : PCtx} {target elt : Expr} {ifs : List Expr} {o1 : List O} {Q : Post} {done : List D} {loc : Loc} : CompGo P target elt ifs o1 Q [] done loc = Q (.obj o1.length) (o1 ++ [.list done]) := by simp only [CompGo]
theorem CompGo_cons {P : PCtx} {target elt : Expr} {ifs : List Expr} {o1 : List O} {Q : Post} {done r : List D} {d : D} {loc : Loc} : CompGo P target elt ifs o1 Q (d :: r) done loc = asgL P target d loc fun loc1 => cIf P ifs loc1 (o1 ++ [.list done]) fun b o2 => o2 = o1 ++ [.list done] ∧
      (b = true → WE P elt loc1 o2 fun x o3 => o3 = o1 ++ [.list done] ∧ done.length ≤ 1000 ∧ CompGo P target elt ifs o1 Q r (done ++ [x]) loc1) ∧ (b = false → CompGo P target elt ifs o1 Q r done loc1) := by simp only [CompGo]

inductive CInv (Γ : Ctx) (P : PCtx) (envI : Env) (own : List Addr) (o1 : List O) (target elt : Expr) (ifs : List Expr) (Q : Post) (items : List D) (S : Nat → List Addr → Heap → Prop) (C : Addr) (ρ : List Addr) (s : Shared) (ρ0 Z : List Addr) : Nat → Shared → Prop
  | mk {i : Nat} {ρ' : List Addr} {loc' : Loc} {done : List D} {s' : Shared} : i ≤ items.length → Rep Γ envI (C :: own) ρ' loc' (o1 ++ [.list done]) s' → CompGo P target elt ifs o1 Q (items.drop i) done loc' → S i ρ' s'.heap → Ext ([C] ++ Γ.tabs) ρ s ρ' s' → ρ0 <+: ρ' → (∀ a ∈ Z, a ∉ ρ') →
      CInv Γ P envI own o1 target elt ifs Q items S C ρ s ρ0 Z (items.length - i) s'
theorem off_ext {T Z ρ ρ' : List Addr} {s s' : Shared} (x : Ext T ρ s ρ' s') (hl : ∀ a ∈ Z, ∃ o, s.heap.get? a = some o) (h : ∀ a ∈ Z, a ∉ ρ) : ∀ a ∈ Z, a ∉ ρ' := fun a ha q => by
  rcases x.new a q with q | q
  · exact h a ha q
  · obtain ⟨o, ho⟩ := hl a ha; rw [ho] at q; cases q
theorem guard_app {g : Grd} {items : List D} {o1 t : List O} (h : GuardOk g items o1) : GuardOk g items (o1 ++ t) := by
  unfold GuardOk at h ⊢
  split
  · trivial
  · rename_i n l
    rw [List.getElem?_append_left (List.getElem?_eq_some_iff.mp h).1]; exact h
theorem comp_loop {envI : Env} {own0 : List Addr} {C D0 I : Addr} {target elt iter : Expr} {ifs : List Expr} {scope : Scope} {pos : Pos} {items : List D} {g : Grd} {Z : List Addr} {S : Nat → List Addr → Heap → Prop} {o1 : List O} {Q : Post} {loc0 : Loc} {ρ0 : List Addr} {s3 : Shared} {RR : Result → Shared → Prop}
    (am : Amb Γ P envI A) (hC : envI.locals = C) (itr : Itr Γ A target (.ref I) items g Z S) (R3 : Rep Γ envI (C :: own0) ρ0 loc0 (o1 ++ [.list []]) s3) (hG : CompGo P target elt ifs o1 Q items [] loc0) (hS : S 0 ρ0 s3.heap) (x3 : Ext ([C] ++ Γ.tabs) ρ s ρ0 s3)
    (hz : ∀ a ∈ Z, s.heap.get? a = none ∧ a ∉ C :: own0 ∧ a ∉ ρ0 ∧ a ∉ Γ.tabs ∧ Γ.h₀.get? a = none) (hg : GuardOk g items o1) (hD : ρ0[o1.length]? = some D0)
    (fin : ∀ ρ' loc' done s', Q (.obj o1.length) (o1 ++ [.list done]) → Rep Γ envI (C :: own0) ρ' loc' (o1 ++ [.list done]) s' → Ext ([C] ++ Γ.tabs) ρ s ρ' s' → ρ0 <+: ρ' → RR (.ok .next) s') :
    codeAny (model Γ.prog Γ.w) A (.compLoop (.ListComp elt [⟨target, iter, ifs, 0⟩] scope pos) 0 (.ref I) (.ref D0) envI) RR s3 := by
  refine comp_turn (CInv Γ P envI own0 o1 target elt ifs Q items S C ρ s ρ0 Z) ?_ (items.length - 0) (.mk (Nat.zero_le _) R3 hG hS x3 (List.prefix_refl _) fun a h => (hz a h).2.2.1)
  rintro _ s' (@⟨i, ρ', loc', done, _, hi, R', hG, hS', x', hp, hzr⟩)
  have hZ : ∀ a ∈ Z, a ∉ C :: own0 ∧ a ∉ ρ' ∧ a ∉ Γ.tabs ∧ Γ.h₀.get? a = none ∧ ∀ o, s'.heap.get? a = some o → ¬ ImmO o ∧ ∀ v, o.data ≠ .cell v := fun a ha => by
    obtain ⟨z0, z1, z2, z3, z4⟩ := hz a ha
    obtain ⟨o, ho, i1, i2⟩ := itr.temp _ _ _ hS' a ha
    exact ⟨z1, hzr a ha, z3, z4, fun o' e => by rw [ho] at e; cases e; exact ⟨i1, i2⟩⟩
  have hZi : ∀ a ∈ Z, ∀ o, s'.heap.get? a = some o → ¬ ImmO o := fun a ha o e => ((hZ a ha).2.2.2.2 o e).1
  have live : ∀ {i ρ h}, S i ρ h → ∀ a ∈ Z, ∃ o, h.get? a = some o := fun q a ha => let ⟨o, ho, _⟩ := itr.temp _ _ _ q a ha; ⟨o, ho⟩
  cases e : items[i]? with
  | none =>
    have hl : i = items.length := Nat.le_antisymm hi (List.getElem?_eq_none_iff.mp e)
    subst hl
    rw [List.drop_length, CompGo_nil] at hG
    refine wpAny_mono (itr.done ρ' _ s' (fun s₁ => RR (.ok .next) s₁) hS' R'.base R'.objs (guard_app hg) fun h' tk kp => ?_) (fun r s₁ h₁ => ?_) fun _ _ q => q
    · exact fin ρ' _ _ _ hG (R'.temps (tk := tk) Z kp hZ) (x'.over_temps kp hZi fun a ha => (hz a ha).1) hp
    · cases r with
      | none => exact h₁
      | some v => exact h₁.elim
  | some d =>
    have hlt : i < items.length := (List.getElem?_eq_some_iff.mp e).1
    have hdr : items.drop i = d :: items.drop (i + 1) := by
      rw [List.drop_eq_getElem_cons hlt, (List.getElem?_eq_some_iff.mp e).2]
    rw [hdr, CompGo_cons] at hG
    have offT : ∀ a ∈ Z, a ∉ [C] ++ Γ.tabs := fun a ha q => (List.mem_append.mp q).elim (fun q => (hZ a ha).1 (List.mem_singleton.mp q ▸ .head _)) (hz a ha).2.2.2.1
    have less : items.length - (i + 1) < items.length - i := Nat.sub_lt_sub_left hlt (Nat.lt_succ_self _)
    refine wpAny_mono (itr.step i d ρ' _ s' (fun v s₂ => wpAny (model Γ.prog Γ.w) A (assign target envI v) (fun _ s₃ =>
        wpAny (model Γ.prog Γ.w) A (forIn ifs true fun c r => if r = true then do let ok ← isTrue c envI (eval c envI); pure (ForInStep.yield ok) else pure (ForInStep.yield r)) (fun ok s₄ =>
          if ok = true then wpAny (model Γ.prog Γ.w) A (eval elt envI) (fun x s₅ => wpAny (model Γ.prog Γ.w) A (call (.builtin "list.append") [.ref D0, x]) (fun _ s₆ => ∃ m, m < items.length - i ∧ CInv Γ P envI own0 o1 target elt ifs Q items S C ρ s ρ0 Z m s₆) NoE s₅) NoE s₄
          else ∃ m, m < items.length - i ∧ CInv Γ P envI own0 o1 target elt ifs Q items S C ρ s ρ0 Z m s₄) NoE s₃) NoE s₂) e hS' R'.base R'.objs (guard_app hg) fun v h' tk hv hS1 kp => ?_) (fun r s₁ h₁ => ?_) fun _ _ q => q
    · have R4 := R'.temps (tk := tk) Z kp hZ
      have x4 : Ext ([C] ++ Γ.tabs) ρ s ρ' { s' with heap := h', toks := tk } := x'.over_temps kp hZi fun a ha => (hz a ha).1
      refine asgL_ok am.toAm0 target d loc' _ _ _ ρ' v _ R4 hG hv fun loc1 s5 hB R5 x5 => ?_
      rw [hC] at x5
      have hS5 : S (i + 1) ρ' s5.heap := itr.frame _ _ _ _ _ hS1 (fun a ha o e => x5.keep a o e (offT a ha) (hzr a ha)) x5.imm x5.pre
      refine tests_ok am ifs _ _ s5 ρ' _ R5 hB fun b o2 ρ6 s6 hT R6 x6 => ?_
      obtain ⟨rfl, hT1, hT2⟩ := hT
      have hzr6 := off_ext x6 (live hS5) hzr
      have hS6 : S (i + 1) ρ6 s6.heap := itr.frame _ _ _ _ _ hS5 (fun a ha o e => x6.keep a o e (hz a ha).2.2.2.1 (hzr a ha)) x6.imm x6.pre
      have x56 : Ext ([C] ++ Γ.tabs) ρ s ρ6 s6 := (x4.trans x5).trans (x6.mono fun a h => List.mem_append_right _ h)
      have hp6 := hp.trans x6.pre
      cases b with
      | true =>
        rw [if_pos rfl]
        refine WE_sound am elt loc1 _ _ s6 ρ6 _ R6 (hT1 rfl) fun xd o3 ρ7 xv s7 hE R7 x7 hv7 => ?_
        obtain ⟨rfl, hlen, hG'⟩ := hE
        have hzr7 := off_ext x7 (live hS6) hzr6
        have hS7 : S (i + 1) ρ7 s7.heap := itr.frame _ _ _ _ _ hS6 (fun a ha o e => x7.keep a o e (hz a ha).2.2.2.1 (hzr6 a ha)) x7.imm x7.pre
        have hp7 := hp6.trans x7.pre
        refine append_ok am.hh R7 (prefix_get hp7 hD) (by rw [List.getElem?_append_right (Nat.le_refl _), Nat.sub_self]; rfl) hlen hv7 fun ρ8 wv s8 R8 x8 => ?_
        have hS8 : S (i + 1) ρ8 s8.heap := itr.frame _ _ _ _ _ hS7 (fun a ha o e => x8.keep a o e (hz a ha).2.2.2.1 (hzr7 a ha)) x8.imm x8.pre
        have hset8 : (o1 ++ [O.list done]).set o1.length (.list (done ++ [xd])) = o1 ++ [.list (done ++ [xd])] := by
          rw [List.set_append_right _ _ (Nat.le_refl _), Nat.sub_self]; rfl
        rw [hset8] at R8
        exact ⟨_, less, .mk hlt R8 hG' hS8 (x56.trans ((x7.trans x8).mono fun a h => List.mem_append_right _ h)) (hp7.trans x8.pre) (off_ext x8 (live hS7) hzr7)⟩
      | false =>
        rw [if_neg (by decide)]
        exact ⟨_, less, .mk hlt R6 (hT2 rfl) hS6 x56 hp6 hzr6⟩
    · cases r with
      | none => exact h₁.elim
      | some v => exact h₁
theorem comp_core (am : Am0 Γ P env A) (wi : ∀ {t it : Expr} {loc : Loc} {objs : List O} {s : Shared} {ρ : List Addr} {K : List D → Grd → List O → Prop} {QQ : Value → Shared → Prop}, Rep Γ env own ρ loc objs s → WI P t it loc objs K → IterTo Γ env own A loc t ρ s K QQ → wpAny (model Γ.prog Γ.w) A (eval it env) (fun xv s₁ => wpAny (model Γ.prog Γ.w) A (pyIter xv) QQ NoE s₁) NoE s)
    {elt target iter : Expr} {ifs : List Expr} {scope : Scope} {pos p : Pos} {use : Option (Value → Sem Unit)} {Q : Post} {QQ : Value → Shared → Prop}
    (R : Rep Γ env own ρ loc objs s) (hok : compOk P scope = true) (hset : ForOk iter)
    (hw : WI P target iter loc objs fun items g o1 => GuardOk g items o1 ∧ CompGo (inP P scope) target elt ifs o1 Q items [] (inLoc scope.names loc))
    (fin : ∀ C D ρ' objs' s' d, Q d objs' → Rep Γ env own ρ' loc objs' s' → Ext Γ.tabs ρ s ρ' s' → (s.heap.get? C = none ∧ C ∉ own ∧ C ∉ ρ' ∧ C ∉ Γ.tabs ∧ Γ.h₀.get? C = none) → (∃ m, s'.heap.Ns C m) → VIn Γ s'.heap ρ' D d → compPost (model Γ.prog Γ.w) A NoE use QQ D C (.ok .next) s') :
    wpAny (model Γ.prog Γ.w) A (comprehension (.ListComp elt [⟨target, iter, ifs, 0⟩] scope pos) scope env p (newList []) false (eval iter env) use) QQ NoE s := by
  obtain ⟨hkind, hnm⟩ := compOk_names hok
  have hfree := free_ok am hok R.fr
  have hcell : ∀ x ∈ scope.names, x.2 ≠ .cell := fun x hx => (hnm x hx).1
  have hnames : ∀ x ∈ scope.names, x.2 = .local → scope.names.lookup x.1 = some .local := fun x hx e => by rw [← lkS_eq, (hnm x hx).2.1, e]
  refine wpAny_comprehension_free (use := use) rfl (fun x => hset _ x) (closure_pure hfree) hkind hnames (wi R hw fun items g o1 ρ1 I s2 Z S hK itr R2 x2 hz hS => ?_)
  refine wpAny_newObj_type (wpAny_newFunctionEnv hcell (by intro y hy; cases hy) (fun h₁ hns₁ hsb₁ => ?_) hkind)
  dsimp only at hns₁ hsb₁ ⊢
  generalize hH2 : s2.heap.push { cls := .type "list", dict := none, data := .seq ([] : List Value).toArray } = H2 at hns₁ hsb₁ ⊢
  have hC : H2.objs.size = s2.heap.objs.size + 1 := by rw [← hH2, Heap.size_push]
  have hDC : s2.heap.objs.size ≠ H2.objs.size := by rw [hC]; exact Nat.ne_of_lt (Nat.lt_succ_self _)
  have below : ∀ b, b < s2.heap.objs.size → b ≠ H2.objs.size := fun b hb => by rw [hC]; exact Nat.ne_of_lt (Nat.lt_succ_of_lt hb)
  have old : ∀ b o, s2.heap.get? b = some o → h₁.get? b = some o := fun b o e => hsb₁.extBut b o (below b (Heap.lt_size e)) (Heap.get?_push_of_some _ (hH2 ▸ Heap.get?_push_of_some _ e))
  have hacc : h₁.get? s2.heap.objs.size = some (listOf (List.toArray ([] : List Value)) 0) := hsb₁.extBut _ _ hDC (Heap.get?_push_of_some _ (hH2 ▸ Heap.get?_push_size _ rfl))
  have freshC : s2.heap.get? H2.objs.size = none := by
    cases e : s2.heap.get? H2.objs.size with
    | none => rfl
    | some o => exact absurd (Heap.lt_size e) (Nat.not_lt.mpr (by rw [hC]; exact Nat.le_succ _))
  generalize H2.objs.size = C at hns₁ hsb₁ hDC freshC ⊢
  clear below hC hH2
  generalize hD : s2.heap.objs.size = D0 at hDC hacc ⊢
  have freshD : s2.heap.get? D0 = none := hD ▸ fresh_none _
  obtain ⟨zC1, zC2, zC3, zC4, zC5⟩ := fresh_z R2 x2 freshC
  obtain ⟨zD1, zD2, zD3, zD4, zD5⟩ := fresh_z R2 x2 freshD
  generalize e3 : ({ s2 with heap := h₁, toks := s2.toks + ([] : List (Str × Value)).length } : Shared) = s3
  have eh : s3.heap = h₁ := by rw [← e3]
  have old3 : ∀ b o, s2.heap.get? b = some o → s3.heap.get? b = some o := fun b o e => by rw [eh]; exact old b o e
  have eo : s3.os = s2.os := by rw [← e3]
  have eg : s3.gens = s2.gens := by rw [← e3]
  have xa : Ext Γ.tabs ρ1 s2 (ρ1 ++ [D0]) s3 := Ext.alloc freshD old3 eo
  have ob3 : ObjsRep Γ s3.heap (ρ1 ++ [D0]) (o1 ++ [.list []]) := R2.objs.alloc old3 freshD zD5 zD4 ⟨[], 0, by rw [eh]; exact hacc, .nil⟩
  have B3 : Base Γ s3 := by rw [← e3]; exact R2.base.keepAll (s' := { s2 with heap := h₁, toks := s2.toks + ([] : List (Str × Value)).length }) old rfl
  have R3 : Rep Γ env own (ρ1 ++ [D0]) loc (o1 ++ [.list []]) s3 := R2.step xa B3 ob3
  have hCr : C ∉ ρ1 ++ [D0] := fun q => (List.mem_append.mp q).elim zC3 fun q => hDC (List.mem_singleton.mp q).symm
  have FI := in_frame am hok hfree R2.fr R3.fr freshC ⟨hCr, zC4, zC5⟩ ⟨_, by rw [eh]; exact hns₁⟩
  have hz3 : ∀ a ∈ Z, s.heap.get? a = none ∧ a ∉ C :: own ∧ a ∉ ρ1 ++ [D0] ∧ a ∉ Γ.tabs ∧ Γ.h₀.get? a = none := fun a ha => by
    obtain ⟨o, ho, _⟩ := itr.temp 0 ρ1 s2.heap hS a ha
    obtain ⟨q1, q2, q3, q4, q5⟩ := hz a ha
    refine ⟨q1, fun q => ?_, fun q => ?_, q4, q5⟩
    · rcases List.mem_cons.mp q with q | q
      · rw [q, freshC] at ho; cases ho
      · exact q2 q
    · rcases List.mem_append.mp q with q | q
      · exact q3 q
      · rw [List.mem_singleton.mp q, freshD] at ho; cases ho
  have hS3 : S 0 (ρ1 ++ [D0]) s3.heap := itr.frame 0 _ _ _ _ hS (fun a ha o e => old3 a o e) (fun a o e _ => old3 a o e) (List.prefix_append _ _)
  have hDi : (ρ1 ++ [D0])[o1.length]? = some D0 := by rw [List.getElem?_append_right (Nat.le_of_eq R2.objs.len), R2.objs.len, Nat.sub_self]; rfl
  have go := comp_loop (iter := iter) (scope := scope) (pos := pos) (s := s) (ρ := ρ) (RR := compPost (model Γ.prog Γ.w) A NoE use QQ (.ref D0) C) (am_in am hok R.fr.kind) rfl itr ⟨B3, FI, ob3⟩ hK.2 hS3 ((x2.trans xa).mono fun a h => List.mem_append_right _ h) hz3 hK.1 hDi fun ρ' loc' done s' hq R4 x4 hp =>
    fin C (.ref D0) ρ' _ _ _ hq (R.step (x4.drop zC1) R4.base R4.objs) (x4.drop zC1) ⟨zC1, zC2, (R4.fr.ownk C (.head _)).1, zC4, zC5⟩ R4.fr.ns (.obj (prefix_get hp hDi))
  exact codeAny_compStart_list go (noE (itr.self 0 _ _ _ hS3 go))
end
end Mine

end
section
open PySem PySem.W PySem.Spec PySem.Calls PyProof.Rows
set_option Elab.async false
set_option maxRecDepth 100000
set_option linter.unusedVariables false
namespace Mine
noncomputable def stepD (l : List D) (lo hi st : Option Int) : List D := (sliceRange (sliceBounds lo hi st l.length).1 (sliceBounds lo hi st l.length).2.1 (sliceBounds lo hi st l.length).2.2).filterMap (l[·]?)
/-- further reads -/
inductive JJR (o : List O) (Q : Post) : D → D → Prop
  | mk {n : Nat} {x : Str} {l : List (Str × D)} {d : D} : o[n]? = some (.dict l) → dget l x = some d → Q d o → JJR o Q (.obj n) (.str x)
noncomputable abbrev JJ (a i : D) (o : List O) (Q : Post) : Prop := JJR o Q a i
noncomputable def noXY (P : PCtx) : PCtx := { P with X := fun _ _ _ _ => False, Y := fun _ _ _ _ => False }
inductive StepR (o : List O) (Q : Post) : D → D → D → D → Prop
  | mk {xs : List D} {l h k : D} {l' u' c : Option Int} : OptI l l' → OptI h u' → OptI k c → c ≠ some 0 → xs.length ≤ 1000 → Q (.obj o.length) (o ++ [.list (stepD xs l' u' c)]) → StepR o Q (.fz xs) l h k
/-- further terms -/
inductive XXR (P : PCtx) (loc : Loc) (o : List O) (Q : Post) : Expr → Prop
  | comp {elt : Expr} {gens : List Comprehension} {scope : Scope} {p : Pos} : compF P elt gens scope loc o Q → XXR P loc o Q (.ListComp elt gens scope p)
  | dict {p : Pos} : Q (.obj o.length) (o ++ [.dict []]) → XXR P loc o Q (.Dict [] [] p)
  | slice {vn : Str} {vp sp p : Pos} {lo hi : Option Expr} {st : Expr} : WE P (.Name vn vp) loc o (fun d o1 => WO P lo loc o1 fun l o2 => WO P hi loc o2 fun h o3 => WE P st loc o3 fun k o4 => StepR o4 Q d l h k) → XXR P loc o Q (.Subscript (.Name vn vp) (.Slice lo hi (some st) sp) p)
noncomputable abbrev XX (P : PCtx) (e : Expr) (loc : Loc) (o : List O) (Q : Post) : Prop := XXR P loc o Q e
/-- further statements -/
inductive YYR (P : PCtx) (loc : Loc) (o : List O) (Q : SPost) : Stmt → Prop
  | mk {x : Str} {xp cp p : Pos} {elt : Expr} {gens : List Comprehension} {scope : Scope} : kindOk P x = true → compF P elt gens scope loc o (fun d o1 => Q .next (setLo loc x d) o1) → YYR P loc o Q (.Assign [.Name x xp] (.ListComp elt gens scope cp) p)
noncomputable abbrev YY (P : PCtx) (st : Stmt) (loc : Loc) (o : List O) (Q : SPost) : Prop := YYR P loc o Q st
section
variable {Γ : Ctx} {P : PCtx} {env : Env} {own ρ ρ₀ : List Addr} {A : Around} {loc : Loc} {s s₀ : Shared} {objs : List O}
theorem amb_no (am : Am0 Γ P env A) : Amb Γ (noXY P) env A := ⟨⟨am.sc, am.G, am.C, am.M, am.hh, am.hu, am.oB, am.oK, am.oJ, am.nd, am.E⟩, fun _ _ _ _ _ _ _ _ _ hw _ => hw.elim, fun _ _ _ _ _ _ _ _ _ hw _ => hw.elim⟩
theorem dict_item {ad : Addr} {es : List (Str × Value)} {x : Str} {t : Tok} {v : Value} {Q : Value → Shared → Prop} (hm : s.heap.DictOf (strKind Γ.prog Γ.w) ad es) (hv : valueAt es x = some v) (q : ∀ k, Q v { s with toks := k }) {value i : Expr} (hi : SubOk i) :
    wpAny (model Γ.prog Γ.w) A (subscriptTail value i (.ref ad) (.str x t)) Q NoE s := by
  refine tail_any (T := "dict") hm.typeIs PySem.slot_dict_getitem.lookup ?_ (hi _ _)
  show wpAny _ _ (getItem (.ref ad) (.str x t)) _ _ _
  unfold getItem
  try with_reducible refine wpAny_holding ?_
  first | refine wpAny_bind (wpAny_pure ?_) | skip
  refine wpAny_bind (wpAny_sequenceKey hm.typeIs (by decide) ?_)
  refine wpAny_bind (wpAny_callSpecial?_slot (name := Str.ofString "__getitem__") hm.typeIs PySem.slot_dict_getitem
    (wpAny_call_entry PySem.slot_dict_getitem hm.typeIs PySem.entry_dict_getitem ?_ (PySem.args_dict_getitem _ _)))
  show wpAny _ _ (dictGet ad (.str x t) >>= _) _ _ s
  refine wpAny_bind (wpAny_dictGet_of (strKind_is _ _ _ _) hm.mapOf ?_)
  rw [hv]
  exact wpAny_pure ⟨v, rfl, wpAny_pure (q _)⟩
theorem jj_ok (value i : Expr) (hi : SubOk i) : PS Γ A (t2 (subscriptTail value i)) (two JJ) := by
  refine PS.two fun a b objs Q s ρ va vb Q' B R hf ha hb hd => ?_
  cases hf with
  | mk g q h =>
    obtain ⟨t, rfl⟩ := hb.str_inv; obtain ⟨ad, rfl, e1⟩ := ha.obj_inv
    obtain ⟨es, hm, r⟩ := R.rel _ _ _ e1 g
    obtain ⟨v, hv, hin⟩ := r.get q
    exact dict_item hm hv (fun k => hd.toks B R k h hin) hi
theorem VAll.picks {h : Heap} {vs : List Value} {ds : List D} (H : VAll Γ h ρ vs ds) (is : List Nat) : VAll Γ h ρ (is.filterMap (vs[·]?)) (is.filterMap (ds[·]?)) := by
  induction is with
  | nil => exact .nil
  | cons i r ih =>
    rw [List.filterMap_cons, List.filterMap_cons]
    cases e : ds[i]? with
    | none => rw [H.none_of e]; exact ih
    | some d =>
      obtain ⟨v, hv, hin⟩ := H.get e
      rw [hv]
      exact .cons hin ih
theorem optP {h : Heap} {d : D} {v : Value} {l : Option Int} (hv : VIn Γ h ρ v d) (e : OptI d l) : IsPart v l := by
  cases e with
  | none => rw [hv.none_inv]; exact .none
  | int i => obtain ⟨t, rfl⟩ := hv.int_inv; exact .int _ _
theorem comp_temp {C : Addr} {objs' : List O} {h' : Heap} {ρ' : List Addr} {s' : Shared} (R' : Rep Γ env own ρ' loc objs' s') (hz : s.heap.get? C = none ∧ C ∉ own ∧ C ∉ ρ' ∧ C ∉ Γ.tabs ∧ Γ.h₀.get? C = none) (hn : ∃ m, s'.heap.Ns C m) (hs : Heap.SameBut C s'.heap h') :
    Rep Γ env own ρ' loc objs' { s' with heap := h' } ∧ (∀ a o, a ∉ [C] → s'.heap.get? a = some o → h'.get? a = some o) ∧ (∀ a ∈ [C], ∀ o, s'.heap.get? a = some o → ¬ ImmO o) ∧ ∀ a ∈ [C], s.heap.get? a = none := by
  obtain ⟨m, o₀, es, ep, e₀, hd₀, _⟩ := hn
  have hZ : ∀ a ∈ [C], a ∉ own ∧ a ∉ ρ' ∧ a ∉ Γ.tabs ∧ Γ.h₀.get? a = none ∧ ∀ o, s'.heap.get? a = some o → ¬ ImmO o ∧ ∀ v, o.data ≠ .cell v := fun a ha => by
    rw [List.mem_singleton.mp ha]
    refine ⟨hz.2.1, hz.2.2.1, hz.2.2.2.1, hz.2.2.2.2, fun o q => ?_⟩
    rw [e₀] at q; cases q
    exact ⟨imm_dict hd₀, fun v q => by rw [hd₀] at q; cases q⟩
  have kp : ∀ a o, a ∉ [C] → s'.heap.get? a = some o → h'.get? a = some o := fun a o ha q => (hs.2 a fun z => ha (z ▸ .head _)).trans q
  exact ⟨R'.temps (tk := s'.toks) [C] kp hZ, kp, fun a ha o q => ((hZ a ha).2.2.2.2 o q).1, fun a ha => by rw [List.mem_singleton.mp ha]; exact hz.1⟩
theorem xx_dict {p : Pos} {Q : Post} {Q' : Value → Shared → Prop} (R : Rep Γ env own ρ loc objs s) (hw : Q (.obj objs.length) (objs ++ [.dict []])) (k : ∀ d objs' ρ' v s', Q d objs' → Rep Γ env own ρ' loc objs' s' → Ext Γ.tabs ρ s ρ' s' → VIn Γ s'.heap ρ' v d → Q' v s') :
    wpAny (model Γ.prog Γ.w) A (eval (.Dict [] [] p) env) Q' NoE s := by
  rw [eval_Dict_empty]
  refine wpAny_bind (wpAny_standAt ?_)
  refine wpAny_newObj_type ?_ (by size_fits)
  have kp : ∀ a o, s.heap.get? a = some o → (s.heap.push { cls := .type "dict", data := .dict #[] }).get? a = some o := keep_push _ _
  have x : Ext Γ.tabs ρ s (ρ ++ [s.heap.objs.size]) { s with heap := s.heap.push { cls := .type "dict", data := .dict #[] } } := Ext.alloc (fresh_none _) kp rfl
  refine k _ _ (ρ ++ [s.heap.objs.size]) _ _ hw (R.step x (R.base.keepAll (s' := { s with heap := s.heap.push { cls := .type "dict", data := .dict #[] } }) kp rfl) ?_) x (.obj (by rw [List.getElem?_append_right (Nat.le_of_eq R.objs.len), R.objs.len, Nat.sub_self]; rfl))
  exact R.objs.alloc (s' := { s with heap := s.heap.push { cls := .type "dict", data := .dict #[] } }) kp (fresh_none _) (fresh_base R.base) (fresh_tab R.base) ⟨[], Heap.DictOf.new _, .nil⟩
theorem step_ok {Q : Post} {Q' : Value → Shared → Prop} {vn : Str} {vp : Pos} {lo hi : Option Expr} {st : Expr} {sp : Pos} {d l h k : D} {va vl vh vk : Value} (hf : StepR objs Q d l h k) (B : Base Γ s) (R : ObjsRep Γ s.heap ρ objs) (ha : VIn Γ s.heap ρ va d) (hl : VIn Γ s.heap ρ vl l) (hh : VIn Γ s.heap ρ vh h) (hk : VIn Γ s.heap ρ vk k) (hd : Done Γ ρ s Q Q') :
    wpAny (model Γ.prog Γ.w) A (subscriptTail (.Name vn vp) (.Slice lo hi (some st) sp) va (.ref s.heap.objs.size)) Q' NoE { s with heap := s.heap.push { cls := .type "slice", data := .fields #[vl, vh, vk] } } := by
  cases hf with
  | @mk xs _ _ _ l' u' c e1 e2 e3 h0 hle hq =>
    obtain ⟨a, vs, n, rfl, hg, r⟩ : ∃ a vs n, va = .ref a ∧ Γ.h₀.get? a = some (listOf (List.toArray vs) n) ∧ VAll Γ s.heap ρ vs xs := by cases ha; exact ⟨_, _, _, rfl, by assumption, by assumption⟩
    have hg4 : s.heap.get? a = some (listOf vs.toArray n) := B.keep _ _ hg
    have hz : vs.length = xs.length := r.length
    refine subscriptTail_ops (ops := _) (Heap.IsList.typeIs (s := { s with heap := s.heap.push { cls := .type "slice", data := .fields #[vl, vh, vk] } }) (Heap.IsList.push ⟨_, hg4, rfl, _, rfl⟩ _)) list_getitem_lookup
      (wpAny_getItem_list_slice (l := a) (items := vs.toArray) (Heap.IsList.push ⟨_, hg4, rfl, _, rfl⟩ _) (Heap.IsSliceOf.new ..) (optP hl e1) (optP hh e2) (optP hk e3) h0 ?_ (by rw [List.size_toArray, hz, sizeLine_eq]; omega)) (by with_unfolding_all rfl) (by intro _; with_unfolding_all rfl)
    have hd2 : Done Γ ρ { s with heap := s.heap.push { cls := .type "slice", data := .fields #[vl, vh, vk] } } Q Q' := fun d o' ρ' v s' hq b o x' hv => hd d o' ρ' v s' hq b o ((Ext.of_keep (keep_push _ _) (by rfl)).trans x') hv
    have e : (slicePick vs.toArray l' u' c).toList = (sliceRange (sliceBounds l' u' c xs.length).1 (sliceBounds l' u' c xs.length).2.1 (sliceBounds l' u' c xs.length).2.2).filterMap (vs[·]?) := by
      simp [slicePick, hz]
    have hv : VAll Γ (s.heap.push { cls := .type "slice", data := .fields #[vl, vh, vk] }) ρ (slicePick vs.toArray l' u' c).toList (stepD xs l' u' c) := by
      rw [e]
      exact (r.mono (List.prefix_refl _) fun a o q _ => keep_push _ _ a o q).picks _
    have := hd2.newList (B.push _ s.toks) (R.pushed _) hv s.toks hq
    simpa using this
theorem xx_gen (ab : Amb Γ P env A) (e : Expr) : ES Γ env own A loc (eval e env) (XX P e loc) := by
  intro objs Q s ρ Q' R hw k
  cases hw with
  | comp hw =>
    cases hw with
    | mk hc hset hw =>
      rw [eval_ListComp]
      refine comp_core (P := P) ab.toAm0 (fun R hw k => wi_ok ab _ _ R hw k) R hc hset hw fun C D ρ' objs' s' d hq R' x' hz hn hv => ?_
      refine ⟨hn.choose, hn.choose_spec, fun h' hs => ?_⟩
      obtain ⟨R2, kp, im, h0⟩ := comp_temp R' hz hn hs
      exact k d objs' ρ' D _ hq R2 (x'.over_temps (tk := s'.toks) kp im h0) (hv.mono (List.prefix_refl _) (imm_temps [C] kp im))
  | dict hw => exact xx_dict R hw k
  | @slice vn vp sp p lo hi st hw =>
    exact Subscript_ (WE_sound ab (.Name vn vp) loc _ _ _ _ _ R hw fun d o1 ρ1 va s1 h1 R1 x1 hva => wpAny_Slice (WO_sound ab lo loc _ _ _ _ _ R1 h1 fun dl o2 ρ2 vl s2 h2 R2 x2 hvl => WO_sound ab hi loc _ _ _ _ _ R2 h2 fun dh o3 ρ3 vh s3 h3 R3 x3 hvh => evalPart_some_step (WE_sound ab st loc _ _ _ _ _ R3 h3 fun dk o4 ρ4 vk s4 h4 R4 x4 hvk =>
      step_ok h4 R4.base R4.objs (((hva.ext x2).ext x3).ext x4) ((hvl.ext x3).ext x4) (hvh.ext x4) hvk (doneOf R4 (((x1.trans x2).trans x3).trans x4) k))))
theorem xx_ok (am : Am0 Γ P env A) (e : Expr) : ES Γ env own A loc (eval e env) (XX (noXY P) e loc) := xx_gen (amb_no am) e
theorem yy_swap (ab : Amb Γ P env A) {x : Str} {xp cp pos : Pos} {elt : Expr} {gens : List Comprehension} {scope : Scope} {Q : SPost} {Q' : Flow → Shared → Prop} (R : Rep Γ env own ρ loc objs s) (hk : kindOk P x = true) (hw : compF P elt gens scope loc objs fun d o1 => Q .next (setLo loc x d) o1)
    (k : ∀ fl loc' objs' ρ' f s', Q fl loc' objs' → Rep Γ env own ρ' loc' objs' s' → Ext (own ++ Γ.tabs) ρ s ρ' s' → FlIn Γ s'.heap ρ' f fl → Q' f s') (hsw : swapsWith (.ListComp elt gens scope cp) (some (.Name x xp)) pos.line env = pure true) :
    wpAny (model Γ.prog Γ.w) A (exec (.Assign [.Name x xp] (.ListComp elt gens scope cp) pos) env) Q' NoE s := by
  have hk' := kind_ok ab hk
  cases hw with
  | @mk target iter ifs hc hset hw =>
    rw [exec_Assign_Name_used _ _ _ _ hsw]
    refine wpAny_bind (wpAny_standAt (wpAny_bind ?_))
    show wpAny _ A (do let _ ← comprehension (.ListComp elt [⟨target, iter, ifs, 0⟩] scope cp) scope env _ (newList []) false (eval iter env) (some (assign (.Name x xp) env))) _ _ s
    refine wpAny_bind (wpAny_mono (comp_core (P := P) (QQ := fun _ s' => Q' .next s') ab.toAm0 (fun R hw k => wi_ok ab _ _ R hw k) R hc hset hw fun C D ρ' objs' s' d hq R' x' hz hn hv => ?_) (fun _ s' hq => wpAny_pure (wpAny_pure hq)) fun _ _ e => e.elim)
    show wpAny _ A (assign (.Name x xp) env D) _ _ _
    refine wpAny_assign_Name (store_ok R' hk' hv fun s2 R2 x2 => ?_)
    obtain ⟨m, hm⟩ := hn
    have hm2 : s2.heap.Ns C m := hm.at' fun o e => x2.keep C o e (fun q => (List.mem_append.mp q).elim hz.2.1 hz.2.2.2.1) hz.2.2.1
    refine ⟨m, hm2, fun h' hs => ?_⟩
    obtain ⟨R3, kp, im, h0⟩ := comp_temp (s := s) R2 hz ⟨m, hm2⟩ hs
    exact k .next _ _ ρ' .next _ hq R3 ((x'.wide.trans x2).over_temps (tk := s2.toks) kp im h0) .next
theorem swaps_comp {elt : Expr} {gens : List Comprehension} {scope : Scope} {cp xp : Pos} {x : Str} {n : Nat} : ∃ b, swapsWith (.ListComp elt gens scope cp) (some (.Name x xp)) n env = pure b := ⟨_, rfl⟩
theorem yy_ok (am : Am0 Γ P env A) (st : Stmt) : SS Γ env own A (exec st env) (YY (noXY P) st) := by
  have ab := amb_no am
  intro loc objs Q s ρ Q' R hw k
  cases hw with
  | @mk x xp cp pos elt gens scope hk hw =>
    obtain ⟨b, hb⟩ := swaps_comp (env := env) (elt := elt) (gens := gens) (scope := scope) (cp := cp) (xp := xp) (x := x) (n := pos.line)
    cases b with
    | true => exact yy_swap ab R hk hw k hb
    | false => exact wpAny_Assign_Name (xx_gen ab (.ListComp elt gens scope cp) objs (fun d o1 => Q .next (setLo loc x d) o1) s ρ _ R (.comp hw) fun d o1 ρ1 v s1 h1 R1 x1 hv => store_ok R1 (kind_ok ab hk) hv fun s2 R2 x2 => k .next _ _ ρ1 .next _ h1 R2 (x1.wide.trans x2) .next) hb
end
end Mine

end
section
open PySem PySem.W PySem.Spec PySem.Calls PyProof.Rows
set_option Elab.async false
set_option maxRecDepth 100000
set_option linter.unusedVariables false
namespace Mine
theorem lk_app {α : Type} (l m : List (Str × α)) (x : Str) : (l ++ m).lookup x = (l.lookup x).or (m.lookup x) := by
  induction l with
  | nil => simp
  | cons p r ih =>
    obtain ⟨y, v⟩ := p
    rw [List.cons_append, List.lookup_cons, List.lookup_cons]
    cases h : x == y <;> simp [ih]
theorem bindL_eq (k : Str → Option NameKind) (x : Str) (hk : k x = some .local) : ∀ (binds : List (Str × Value)) (m : Str → Option Value), bindL k binds m x = (binds.reverse.lookup x).or (m x)
  | [], m => rfl
  | (n, v) :: r, m => by
    unfold bindL
    rw [bindL_eq k x hk r, List.reverse_cons, lk_app]
    by_cases e : x = n
    · subst e
      rw [if_pos hk]
      cases r.reverse.lookup x <;> simp
    · have e' : (x == n) = false := by simpa using e
      have e2 : (if k n = some .local then fun y => if y = n then some v else m y else m) x = m x := by split <;> simp [e]
      rw [e2, List.lookup_cons, e']
      cases r.reverse.lookup x <;> simp
theorem bindC_eq (k : Str → Option NameKind) (x : Str) (hk : k x = some .cell) : ∀ (binds : List (Str × Value)) (m : Str → Option Value), bindC k binds m x = (binds.reverse.lookup x).or (m x)
  | [], m => rfl
  | (n, v) :: r, m => by
    unfold bindC
    rw [bindC_eq k x hk r, List.reverse_cons, lk_app]
    by_cases e : x = n
    · subst e
      rw [if_neg (by rw [hk]; decide)]
      cases r.reverse.lookup x <;> simp
    · have e' : (x == n) = false := by simpa using e
      have e2 : (if k n = some .local then m else fun y => if y = n then some v else m y) x = m x := by split <;> simp [e]
      rw [e2, List.lookup_cons, e']
      cases r.reverse.lookup x <;> simp
theorem cellsFrom_mem : ∀ (names : List (Str × NameKind)) (n : Nat) (acc : List (Str × Addr)), (∀ p ∈ acc, p ∈ cellsFrom n names acc) ∧ ∀ x, (x, NameKind.cell) ∈ names → ∃ c, (x, c) ∈ cellsFrom n names acc
  | [], n, acc => ⟨fun p h => h, fun x h => nomatch h⟩
  | (y, k) :: r, n, acc => by
    unfold cellsFrom
    split
    · rename_i hk
      obtain ⟨a1, a2⟩ := cellsFrom_mem r (n + 1) ((y, n) :: acc)
      refine ⟨fun p h => a1 p (.tail _ h), fun x h => ?_⟩
      rcases List.mem_cons.mp h with e | h
      · cases e; exact ⟨n, a1 _ (.head _)⟩
      · exact a2 x h
    · rename_i hk
      obtain ⟨a1, a2⟩ := cellsFrom_mem r n acc
      refine ⟨a1, fun x h => ?_⟩
      rcases List.mem_cons.mp h with e | h
      · cases e; exact absurd rfl hk
      · exact a2 x h

structure FnC (Γ : Ctx) (f : Addr) (fd : FuncData) (body : List Stmt) : Prop where
  obj : ∃ o, Γ.h₀.get? f = some o ∧ o.data = .func fd
  body : fd.body = .stmts body
  glob : fd.globals = mainGlobals
  blt : fd.builtins = builtinsNs
  clo : fd.closure = []
  code : Γ.h₀.CodeRec fd.code fd.qualname
  co : fd.scope.isCoroutine = false
  gen : fd.scope.isGenerator = false
  kind : fd.scope.kind = .function

section
variable {Γ : Ctx} {P : PCtx} {A : Around} {s s' : Shared} {ρ ρ' : List Addr} {objs : List O}
theorem Ext.frames {Z : List Addr} {s₁ : Shared} (x : Ext (Z ++ Γ.tabs) ρ s₁ ρ' s') (k : ∀ a o, s.heap.get? a = some o → s₁.heap.get? a = some o) (hL : ∀ a ∈ Z, s.heap.get? a = none) (ho : s₁.os = s.os) : Ext Γ.tabs ρ s ρ' s' := by
  refine ⟨x.pre, fun a h => ?_, fun a o e ht hr => ?_, fun a o e hi => x.imm a o (k a o e) hi, fun a o e => x.live a o (k a o e), x.os.trans ho⟩
  · rcases x.new a h with h | h
    · exact .inl h
    · refine .inr ?_
      cases q : s.heap.get? a with
      | none => rfl
      | some o => rw [k a o q] at h; cases h
  · refine x.keep a o (k a o e) (fun q => ?_) hr
    rcases List.mem_append.mp q with q | q
    · rw [hL a q] at e; cases e
    · exact ht q
theorem fresh_of (B : Base Γ s) (R : ObjsRep Γ s.heap ρ objs) {a : Addr} (h : s.heap.get? a = none) : a ∉ ρ ∧ a ∉ Γ.tabs ∧ Γ.h₀.get? a = none := by
  refine ⟨fun q => ?_, fun q => ?_, ?_⟩
  · obtain ⟨n, hn⟩ := List.mem_iff_getElem?.mp q
    have hlt : n < objs.length := by rw [← R.len]; exact (List.getElem?_eq_some_iff.mp hn).1
    obtain ⟨ob, e, _⟩ := (R.rel n a objs[n] hn (List.getElem?_eq_some_iff.mpr ⟨hlt, rfl⟩)).get
    rw [h] at e; cases e
  · obtain ⟨o, e⟩ := Γ.tilive _ B.ti a q; rw [h] at e; cases e
  · cases e : Γ.h₀.get? a with
    | none => rfl
    | some o => have := B.keep a o e; rw [h] at this; cases this
theorem call_fnC {f : Addr} {fd : FuncData} {body : List Stmt} {n : Nat} (F : FnC Γ f fd body) (hA : AOk (n + 1) A) (hlim : Γ.h₀.NoLimit) (hsc : fd.scope.names = P.sc) (O : Orc Γ n P)
    (nd : ∀ x k, lkS P.sc x = some k → (x == ("__debug__" : Str)) = false ∧ (x == ("__classdict__" : Str)) = false)
    (B : Base Γ s) (R : ObjsRep Γ s.heap ρ objs) {vs : List Value} {binds : List (Str × Value)} (hbind : bindArgs fd ⟨vs, []⟩ = pure binds) (hloc : ∀ x ∈ binds, lkS P.sc x.1 = some .local ∨ lkS P.sc x.1 = some .cell)
    {loc : Loc} (hb : ∀ x d, getLo loc x = some d → (lkS P.sc x = some .local ∨ lkS P.sc x = some .cell) ∧ ∃ v, binds.reverse.lookup x = some v ∧ VIn Γ s.heap ρ v d) {Qf : Post} {Q' : Value → Shared → Prop}
    (hw : WSs P body loc objs fun fl _ o' => Qf (retD fl) o') (hd : Done Γ ρ s Qf Q') (hE : ∀ env, env.code = fd.code → env.qual = fd.qualname ++ ".<locals>." → P.E env) : wpAny (model Γ.prog Γ.w) A (call (.ref f) vs []) Q' NoE s := by
  obtain ⟨o, ho, hdata⟩ := F.obj
  have hlk : ∀ x, fd.scope.names.lookup x = lkS P.sc x := fun x => by rw [← hsc, lkS_eq]
  have hsome : ∀ x, lkS P.sc x = some .cell → ∃ c, (cellsFrom (s.heap.objs.size + 1) fd.scope.names []).lookup x = some c := fun x e => by
    obtain ⟨c, hc⟩ := (cellsFrom_mem fd.scope.names (s.heap.objs.size + 1) []).2 x (mem_of_lkS (hsc ▸ e))
    exact lk_of_mem hc
  refine wpAny_call (codeAny_call_cells (by have := hA.2.1; omega) (B.keep _ _ ho) hdata (hlim.keeps B.keep) ?_ F.body hbind F.clo (fun x hx => ?_) (fun s₁ X => ?_) F.co F.gen F.kind)
  · obtain ⟨c, oc, cvs, t, e1, e2, e3, e4⟩ := F.code
    exact ⟨c, oc, cvs, t, e1, B.keep _ _ e2, e3, e4⟩
  · rcases hloc x hx with h | h
    · exact .inl ((hlk _).trans h)
    · obtain ⟨c, hc⟩ := hsome _ h
      exact .inr ⟨(hlk _).trans h, by rw [hc]; rfl⟩
  · have hAd := hA.deeper (callEnvC fd s.heap.objs.size f)
    have am0 : Am0 Γ P (callEnvC fd s.heap.objs.size f) (A.deeper (callEnvC fd s.heap.objs.size f)) := ⟨hsc, O.G, O.C _ hAd, O.M _, hAd.1, by have := hAd.2.2.1; omega, O.oB _ hAd, O.oK _ hAd, O.oJ _ hAd, nd, hE _ rfl rfl⟩
    have am : Amb Γ P (callEnvC fd s.heap.objs.size f) (A.deeper (callEnvC fd s.heap.objs.size f)) := ⟨am0, O.oX _ _ hAd am0, O.oY _ _ hAd am0⟩
    obtain ⟨h₁, tk, rfl⟩ := X.toInCall.same
    have hk₁ : ∀ a o, s.heap.get? a = some o → h₁.get? a = some o := X.toInCall.keep
    have B1 : Base Γ { s with heap := h₁, toks := tk } := B.keepAll (s' := { s with heap := h₁, toks := tk }) hk₁ rfl
    have R1 : ObjsRep Γ h₁ ρ objs := R.keep (s' := { s with heap := h₁ }) hk₁
    have ek : ∀ x, (callEnvC fd s.heap.objs.size f).kindOf x = lkS P.sc x := fun x => hlk x
    have habove : ∀ n c, (n, c) ∈ (callEnvC fd s.heap.objs.size f).cells → s.heap.objs.size < c := X.above
    have hnone : ∀ a, s.heap.objs.size ≤ a → s.heap.get? a = none := fun a ha => by
      cases e : s.heap.get? a with
      | none => rfl
      | some o' => exact absurd (Heap.lt_size e) (Nat.not_lt.mpr ha)
    have hown : ∀ a ∈ s.heap.objs.size :: fd.scope.names.filterMap (fun x => (callEnvC fd s.heap.objs.size f).cells.lookup x.1), s.heap.get? a = none := fun a ha => by
      rcases List.mem_cons.mp ha with rfl | ha
      · exact fresh_none _
      · obtain ⟨p, _, hp⟩ := List.mem_filterMap.mp ha
        exact hnone _ (Nat.le_of_lt (habove p.1 a (mem_of_lk hp)))
    have FR : FrOk Γ (callEnvC fd s.heap.objs.size f) (s.heap.objs.size :: fd.scope.names.filterMap (fun x => (callEnvC fd s.heap.objs.size f).cells.lookup x.1)) h₁ ρ loc := by
      refine ⟨F.kind, F.glob, F.blt, ⟨_, X.toInCall.ns⟩, .head _, fun x e => ?_, fun x c e => ?_, fun x y c e e1 e2 => ?_, fun a ha => ?_, fun y d hy => ?_⟩
      · obtain ⟨c, hc⟩ := hsome x ((ek x).symm.trans e)
        exact ⟨c, hc, .tail _ (List.mem_filterMap.mpr ⟨(x, .cell), mem_of_lkS (hsc ▸ (ek x).symm.trans e), hc⟩)⟩
      · have hm := mem_of_lk e
        have hlt := habove x c hm
        obtain ⟨f1, f2, f3⟩ := fresh_of B R (hnone c (Nat.le_of_lt hlt))
        exact ⟨Nat.ne_of_gt hlt, f1, f2, _, X.cell x c e⟩
      · exact name_of_addr X.apart (mem_of_lk e1) (mem_of_lk e2)
      · obtain ⟨f1, f2, f3⟩ := fresh_of B R (hown a ha)
        refine ⟨f1, f2, f3, ?_⟩
        rcases List.mem_cons.mp ha with rfl | ha
        · obtain ⟨oL, _, _, hL, _⟩ := X.toInCall.ns
          exact ⟨oL, hL⟩
        · obtain ⟨p, _, hp⟩ := List.mem_filterMap.mp ha
          obtain ⟨oc, ho, _⟩ := X.cell p.1 a hp
          exact ⟨oc, ho⟩
      · obtain ⟨hkd, v, hv, hi⟩ := hb y d hy
        refine ⟨v, ?_, hi.mono (List.prefix_refl _) fun a o e _ => hk₁ a o e⟩
        rcases hkd with hkd | hkd
        · refine .inl ⟨(ek y).trans hkd, _, X.toInCall.ns, ?_⟩
          rw [bindL_eq _ _ ((ek y).trans hkd), hv]; rfl
        · obtain ⟨c, hc⟩ := hsome y hkd
          refine .inr ⟨.inl ((ek y).trans hkd), c, hc, ?_⟩
          have := X.cell y c hc
          rw [bindC_eq _ _ ((ek y).trans hkd), hv] at this
          exact this
    refine wpAny_mono (WSs_sound am body loc objs _ _ ρ (fun fl s' => Q' (match fl with | .ret v => v | _ => .none) s') ⟨B1, FR, R1⟩ hw fun fl loc' objs' ρ' fw s' hq R' x' hf => ?_) (fun fl s' h => h) fun _ _ h => h.elim
    have x2 : Ext Γ.tabs ρ s ρ' s' := x'.frames hk₁ hown rfl
    refine hd _ _ ρ' _ _ hq R'.base R'.objs x2 ?_
    cases hf with
    | next => exact .none
    | brk => exact .none
    | cont => exact .none
    | ret hv => exact hv
end
end Mine

end
section
open PySem PySem.W PySem.Spec PySem.Calls PyProof.Rows
set_option Elab.async false
set_option maxRecDepth 100000
set_option linter.unusedVariables false
namespace Mine

noncomputable def mk (l : List Nat) : Str := ⟨l.toArray⟩
theorem mk_length (l : List Nat) : (mk l).length = l.length := by show l.toArray.size = _; simp
theorem mk_cps (l : List Nat) : (mk l).cps.toList = l := rfl
theorem mk_inj {l m : List Nat} (h : mk l = mk m) : l = m := by
  have := congrArg (fun x : Str => x.cps.toList) h; exact this
theorem mk_eq (l m : List Nat) : (mk l = mk m) = (l = m) := propext ⟨mk_inj, fun h => by rw [h]⟩
theorem mk_beq (l m : List Nat) : (mk l == mk m) = (l == m) := by
  by_cases h : l = m
  · subst h; simp
  · have h1 : (l == m) = false := by simpa using h
    have h2 : (mk l == mk m) = false := by simpa [mk_eq] using h
    rw [h1, h2]
theorem str_mk (x : Str) : x = mk x.cps.toList := rfl
theorem mk_append (l m : List Nat) : mk l ++ mk m = mk (l ++ m) := by
  apply Str.ext'
  show (mk l ++ mk m).cps = _
  rw [Str.cps_append]
  simp [mk]
theorem pick_range (l : List Nat) (a n : Nat) (h : a + n ≤ l.length) : (List.range' a n).filterMap (fun i => l.toArray[i]?) = (l.drop a).take n := by
  induction n generalizing a with
  | zero => simp
  | succ n ih =>
    rw [List.range'_succ]
    have ha : a < l.length := by omega
    rw [List.filterMap_cons]
    simp only [List.getElem?_toArray, List.getElem?_eq_getElem ha]
    have := ih (a + 1) (by omega)
    simp only [List.getElem?_toArray] at this
    rw [this, List.drop_eq_getElem_cons ha, List.take_succ_cons]
theorem slice_nat (l : List Nat) (a b : Nat) (hab : a ≤ b) (hb : b ≤ l.length) : Txt.slice (mk l) (some (a : Int)) (some (b : Int)) = mk ((l.drop a).take (b - a)) := by
  unfold Txt.slice
  rw [mk_length, StrLaws.strSliceIndices_plain hab hb]
  have e := pick_range l a (b - a) (by omega)
  split
  · rename_i q
    simp at q
    have : a = 0 ∧ b = l.length := by omega
    obtain ⟨rfl, rfl⟩ := this
    simp
  · show mk _ = mk _
    rw [List.range'_eq_map_range] at e
    exact congrArg mk e
theorem slice_from (l : List Nat) (k : Nat) (h : k ≤ l.length) : Txt.slice (mk l) (some (k : Int)) none = mk (l.drop k) := by
  have e : Txt.slice (mk l) (some (k : Int)) none = Txt.slice (mk l) (some (k : Int)) (some ((l.length : Nat) : Int)) := by
    unfold Txt.slice
    rw [StrLaws.sliceIdx_none_hi, mk_length]
  rw [e, slice_nat l k l.length h (Nat.le_refl _)]
  congr 1
  rw [List.take_of_length_le (by simp)]
theorem slice_to (l : List Nat) (k : Nat) (h : k ≤ l.length) : Txt.slice (mk l) none (some (k : Int)) = mk (l.take k) := by
  have e : Txt.slice (mk l) none (some (k : Int)) = Txt.slice (mk l) (some ((0 : Nat) : Int)) (some (k : Int)) := by
    unfold Txt.slice
    rw [StrLaws.sliceIdx_none_lo]; rfl
  rw [e, slice_nat l 0 k (Nat.zero_le _) h]
  simp
theorem slice_all (l : List Nat) : Txt.slice (mk l) none none = mk l := by
  have e : Txt.slice (mk l) none none = Txt.slice (mk l) none (some ((l.length : Nat) : Int)) := by
    unfold Txt.slice
    rw [StrLaws.sliceIdx_none_hi, mk_length]
  rw [e, slice_to l l.length (Nat.le_refl _), List.take_length]
theorem slice_neg (l : List Nat) (j : Nat) (h0 : 0 < j) (h : j ≤ l.length) : Txt.slice (mk l) none (some (-(j : Int))) = mk (l.take (l.length - j)) := by
  have e : Txt.slice (mk l) none (some (-(j : Int))) = Txt.slice (mk l) none (some ((l.length - j : Nat) : Int)) := by
    unfold Txt.slice
    rw [StrLaws.sliceIdx_neg_hi _ _ (by omega) (by rw [mk_length]; omega), mk_length]
    have : -(j : Int) + (l.length : Int) = ((l.length - j : Nat) : Int) := by omega
    rw [this]
  rw [e, slice_to l _ (by omega)]
theorem strIdx_nat (l : List Nat) (k : Nat) (h : k < l.length) : strIdx (mk l) (k : Int) = some (mk [l[k]]) := by
  unfold strIdx
  rw [seqIndex_of (by omega) (by rw [mk_length]; omega)]
  simp [mk, h]
theorem strIdx_neg (l : List Nat) (j : Nat) (h0 : 0 < j) (h : j ≤ l.length) : strIdx (mk l) (-(j : Int)) = some (mk [l[l.length - j]]) := by
  unfold strIdx
  have hs : seqIndex? (-(j : Int)) (mk l).length = some (l.length - j) := by
    rw [mk_length]
    have := seqIndex_neg (k := -(j : Int)) (n := l.length) (by omega) (by omega)
    rw [this]
    congr 1
    omega
  rw [hs]
  have hlt : l.length - j < l.length := by omega
  simp [mk, hlt]
end Mine

end
section
open PySem PySem.W PySem.Spec PySem.Calls PyProof.Rows
set_option Elab.async false
set_option maxRecDepth 100000
set_option linter.unusedVariables false
namespace Mine

noncomputable def lowA (c : Nat) : Nat := if 65 ≤ c && c ≤ 90 then c + 32 else c
noncomputable def cost (c d : Nat) : Int := if c = d then 0 else if lowA c = lowA d then 1 else 2
theorem lower_ascii (c : Nat) (h : c < 128) : Txt.lower (mk [c]) = mk [lowA c] := by
  have : ∀ c : Fin 128, Txt.lower (mk [c.1]) = mk [lowA c.1] := by decide +kernel
  exact this ⟨c, h⟩

noncomputable def trimP : List Nat → List Nat → List Nat × List Nat
  | a :: l, b :: m => if a = b then trimP l m else (a :: l, b :: m)
  | l, m => (l, m)
noncomputable def trimS (l m : List Nat) : List Nat × List Nat := ((trimP l.reverse m.reverse).1.reverse, (trimP l.reverse m.reverse).2.reverse)

noncomputable def innerL (c : Nat) : List Nat → List Int → Int → Int → Int → List Int × Int × Int
  | a :: l, r :: rs, dist, res, mn =>
    let res' := min (min res r + 2) (dist + cost c a)
    let mn' := if res' < mn then res' else mn
    let x := innerL c l rs r res' mn'
    (res' :: x.1, x.2)
  | _, _, _, res, mn => ([], res, mn)
noncomputable def big : Int := 9223372036854775807
noncomputable def outerL (a : List Nat) (mc : Int) : List Nat → Nat → List Int → Int → Int
  | c :: l, k, row, _ =>
    let x := innerL c a row ((k : Int) * 2) ((k : Int) * 2) big
    if x.2.2 > mc then mc + 1 else outerL a mc l (k + 1) x.1 x.2.1
  | [], _, _, res => res
noncomputable def dpL (a b : List Nat) (mc : Int) : Int :=
  if ((b.length : Int) - a.length) * 2 > mc then mc + 1 else outerL a mc b 0 ((List.range a.length).map fun (i : Nat) => 2 + (i : Int) * 2) 0
noncomputable def levL (x y : List Nat) (mc : Int) : Int :=
  if x = y then 0 else
  let p := trimP x y
  let q := trimS p.1 p.2
  if q.1 = [] ∨ q.2 = [] then 2 * ((q.1.length : Int) + q.2.length)
  else if q.2.length < q.1.length then dpL q.2 q.1 mc else dpL q.1 q.2 mc
end Mine

end
section
open PySem PySem.W PySem.Spec PySem.Calls PyProof.Rows
set_option Elab.async false
set_option maxRecDepth 100000
set_option linter.unusedVariables false
namespace Mine
section
variable {P : PCtx} {loc : Loc} {o : List O} {Q : Post} {QS : SPost} {QB : Bool → List O → Prop}
-- statements
theorem r_nil (h : QS .next loc o) : WSs P [] loc o QS := h
theorem r_cons {st : Stmt} {r : List Stmt} (h : WS P st loc o (Kseq (WSs P r) QS)) : WSs P (st :: r) loc o QS := h
theorem r_seq {w : Loc → List O → SPost → Prop} (h : w loc o QS) : Kseq w QS .next loc o := h
theorem r_seqr {w : Loc → List O → SPost → Prop} {d : D} (h : QS (.ret d) loc o) : Kseq w QS (.ret d) loc o := h
theorem r_seqb {w : Loc → List O → SPost → Prop} (h : QS .brk loc o) : Kseq w QS .brk loc o := h
theorem r_assign {x : Str} {p q : Pos} {e : Expr} {K : D → Loc} (ka : kindOk P x = true ∧ SwapNo e) (kk : ∀ d, setLo loc x d = K d) (h : WE P e loc o fun d o1 => QS .next (K d) o1) : WS P (.Assign [.Name x p] e q) loc o QS :=
  .inl (.one ka.1 ka.2 ((funext kk : setLo loc x = K) ▸ h))
theorem r_assign2 {x y : Str} {p q r : Pos} {e : Expr} {K : D → Loc} (ka : (kindOk P x && kindOk P y) = true ∧ SwapNo e) (kk : ∀ d, setLo (setLo loc x d) y d = K d) (h : WE P e loc o fun d o1 => QS .next (K d) o1) : WS P (.Assign [.Name x p, .Name y q] e r) loc o QS :=
  .inl (.two ka.1 ka.2 (by
    have e : (fun d o1 => QS .next (K d) o1) = fun d o1 => QS .next (setLo (setLo loc x d) y d) o1 := funext fun d => by rw [kk]
    exact e ▸ h))
theorem r_setitem {a i e : Expr} {p q : Pos} (h0 : SwapNo e) (h : WE P e loc o fun v o1 => WE P a loc o1 fun d o2 => WE P i loc o2 fun k o3 => setF d k v o3 fun o4 => QS .next loc o4) : WS P (.Assign [.Subscript a i p] e q) loc o QS := .inl (.item h0 h)
theorem r_tup {ts : List Expr} {kk : Nat} {tp q cp : Pos} {f : Expr} {args : List Expr} {kws : List Keyword} (h : WE P (.Call f args kws cp) loc o fun d o1 => asgF P (.Tuple ts kk tp) d loc fun l => QS .next l o1) : WS P (.Assign [.Tuple ts kk tp] (.Call f args kws cp) q) loc o QS := .inl (.tup h)
theorem r_swap {x y a b : Str} {p1 p2 p3 p4 tp vp q : Pos} {kk kv : Nat} {d1 d2 : D} {l : Loc} (h0 : swapOk P x y a p1 p2 = true) (ha : nameF P loc a = some d1) (hb : nameF P loc b = some d2) (hl : setLo (setLo loc y d2) x d1 = l) (h : QS .next l o) :
    WS P (.Assign [.Tuple [.Name x p1, .Name y p2] kk tp] (.Tuple [.Name a p3, .Name b p4] kv vp) q) loc o QS := .inl (.swap h0 ha hb (hl ▸ h))
theorem r_aug {x : Str} {op : Operator} {p q : Pos} {e : Expr} {a : D} {K : D → Loc} (kn : kindOk P x = true) (km : nameF P loc x = some a) (kk : ∀ d, setLo loc x d = K d) (h : WE P e loc o fun b o1 => augF op a b o1 fun d o2 => QS .next (K d) o2) : WS P (.AugAssign (.Name x p) op e q) loc o QS := by
  refine ⟨kn, ?_⟩
  rw [km]
  exact (funext kk : setLo loc x = K) ▸ h
theorem r_if {t : Expr} {b e : List Stmt} {p : Pos} (h : WT P t loc o fun c o1 => (c = true → WSs P b loc o1 QS) ∧ (c = false → WSs P e loc o1 QS)) : WS P (.If t b e p) loc o QS := h
theorem r_while {t : Expr} {b : List Stmt} {p : Pos} (h : WhileW (WT P t) (WSs P b) loc o QS) : WS P (.While t b [] p) loc o QS := h
theorem r_for {t it : Expr} {b : List Stmt} {p : Pos} (h : WI P t it loc o fun l g o1 => ForW (asgF P t) (WSs P b) l g loc o1 QS) : WS P (.For t it b [] p) loc o QS := h
theorem r_return {e : Expr} {p : Pos} (h : WE P e loc o fun d o1 => QS (.ret d) loc o1) : WS P (.Return (some e) p) loc o QS := h
theorem r_expr {e : Expr} {p : Pos} (h0 : SwapNo e) (h : WE P e loc o fun d o1 => (match d with | .none => QS .next loc o1 | _ => False)) : WS P (.Expr e p) loc o QS := .inl ⟨h0, h⟩
theorem r_break {p : Pos} (h : QS .brk loc o) : WS P (.Break p) loc o QS := h
-- expressions
theorem r_int {i : Int} {k : Nat} {p : Pos} (h : Q (.int i) o) : WE P (.Constant (.int i) k p) loc o Q := h
theorem r_str {x : Str} {k : Nat} {p : Pos} (h : Q (.str x) o) : WE P (.Constant (.str x) k p) loc o Q := h
theorem r_none {k : Nat} {p : Pos} (h : Q .none o) : WE P (.Constant .none k p) loc o Q := h
theorem r_bool {b : Bool} {k : Nat} {p : Pos} (h : Q (.bool b) o) : WE P (.Constant (.bool b) k p) loc o Q := h
theorem r_name {x : Str} {p : Pos} {d : D} (kn : nameF P loc x = some d) (h : Q d o) : WE P (.Name x p) loc o Q := by
  show (match nameF P loc x with | some d => Q d o | none => False)
  rw [kn]; exact h
theorem r_bin {l r : Expr} {op : Operator} {p : Pos} (h : WE P l loc o fun a o1 => WE P r loc o1 fun b o2 => binF op a b o2 Q) : WE P (.BinOp l op r p) loc o Q := h
theorem r_cmp {l r : Expr} {op : CmpOp} {p : Pos} (kn : behindInMarks op r = false) (h : WE P l loc o fun a o1 => WE P r loc o1 fun b o2 => cmpF P op a b o2 Q) : WE P (.Compare l [op] [r] p) loc o Q := ⟨kn, h⟩
theorem r_ifexp {t b e : Expr} {p : Pos} (h : WT P t loc o fun c o1 => (c = true → WE P b loc o1 Q) ∧ (c = false → WE P e loc o1 Q)) : WE P (.IfExp t b e p) loc o Q := h
theorem r_and {a b : Expr} {p : Pos} (h : WE P a loc o fun d o1 => truthP d fun c => (c = true → WE P b loc o1 Q) ∧ (c = false → Q d o1)) : WE P (.BoolOp .And [a, b] p) loc o Q := h
theorem r_or {a b : Expr} {p : Pos} (h : WE P a loc o fun d o1 => truthP d fun c => (c = true → Q d o1) ∧ (c = false → WE P b loc o1 Q)) : WE P (.BoolOp .Or [a, b] p) loc o Q := h
theorem r_call {f : Str} {fp p : Pos} {args : List Expr} {kws : List Keyword} {v : Value} (kn : nameF P loc f = some (.fn v)) (km : (noStarred args && kwNamed kws) = true) (h : WEs P args loc o fun ds o1 => WKs P kws loc o1 fun ks o2 => callF P v ds ks o2 Q) : WE P (.Call (.Name f fp) args kws p) loc o Q := by
  show (match nameF P loc f with | some (.fn v) => _ | _ => False)
  rw [kn]; exact ⟨km, h⟩
theorem r_meth {b : Expr} {m : Str} {ap p : Pos} {args : List Expr} (h0 : NoSup b ∧ (ap.endLine == p.line && noStarred args && decide (args.length < 29)) = true) (h : WE P b loc o fun d o1 => (match methV P d o1 m with | some v => WEs P args loc o1 fun ds o2 => callF P v (d :: ds) [] o2 Q | none => False)) : WE P (.Call (.Attribute b m ap) args [] p) loc o Q := ⟨h0, h⟩
theorem r_slice {v : Expr} {lo hi : Option Expr} {sp p : Pos} (h : WE P v loc o fun d o1 => WO P lo loc o1 fun l o2 => WO P hi loc o2 fun h o3 => sliceF d l h o3 Q) : WE P (.Subscript v (.Slice lo hi none sp) p) loc o Q := h
theorem r_subn {v : Expr} {x : Str} {xp p : Pos} (h : WE P v loc o fun d o1 => WE P (.Name x xp) loc o1 fun k o2 => getF P d k o2 Q) : WE P (.Subscript v (.Name x xp) p) loc o Q := ⟨fun _ _ => rfl, h⟩
theorem r_subb {v l r : Expr} {op : Operator} {xp p : Pos} (h : WE P v loc o fun d o1 => WE P (.BinOp l op r xp) loc o1 fun k o2 => getF P d k o2 Q) : WE P (.Subscript v (.BinOp l op r xp) p) loc o Q := ⟨fun _ _ => rfl, h⟩
theorem r_subc {v : Expr} {c : Const} {k : Nat} {xp p : Pos} (h : WE P v loc o fun d o1 => WE P (.Constant c k xp) loc o1 fun k o2 => getF P d k o2 Q) : WE P (.Subscript v (.Constant c k xp) p) loc o Q := ⟨fun _ _ => rfl, h⟩
theorem r_subk {v f : Expr} {as : List Expr} {ks : List Keyword} {xp p : Pos} (h : WE P v loc o fun d o1 => WE P (.Call f as ks xp) loc o1 fun k o2 => getF P d k o2 Q) : WE P (.Subscript v (.Call f as ks xp) p) loc o Q := ⟨fun _ _ => rfl, h⟩
theorem r_list {es : List Expr} {p : Pos} (h0 : noStarred es = true) (h : WEs P es loc o fun ds o1 => ds.length ≤ 1000 ∧ Q (.obj o1.length) (o1 ++ [.list ds])) : WE P (.List es p) loc o Q := ⟨h0, h⟩
theorem r_tuple {es : List Expr} {k : Nat} {p : Pos} (h0 : noStarred es = true) (h : WEs P es loc o fun ds o1 => ds.length ≤ 1000 ∧ Q (.tup ds) o1) : WE P (.Tuple es k p) loc o Q := ⟨h0, h⟩
theorem r_esn {QL : List D → List O → Prop} (h : QL [] o) : WEs P [] loc o QL := h
theorem r_esc {e : Expr} {r : List Expr} {QL : List D → List O → Prop} (h : WE P e loc o fun d o1 => WEs P r loc o1 fun ds o2 => QL (d :: ds) o2) : WEs P (e :: r) loc o QL := h
theorem r_ksn {QL : List (Str × D) → List O → Prop} (h : QL [] o) : WKs P [] loc o QL := h
theorem r_ksc {n : Str} {e : Expr} {p : Pos} {r : List Keyword} {QL : List (Str × D) → List O → Prop} (h : WE P e loc o fun d o1 => WKs P r loc o1 fun ds o2 => QL ((n, d) :: ds) o2) : WKs P (⟨some n, e, p⟩ :: r) loc o QL := h
theorem r_on (h : Q .none o) : WO P none loc o Q := h
theorem r_os {e : Expr} (h : WE P e loc o Q) : WO P (some e) loc o Q := h
-- tests
theorem r_tnot {x : Expr} {p : Pos} (h : WT P x loc o fun b o1 => QB (!b) o1) : WT P (.UnaryOp .Not x p) loc o QB := h
theorem r_tand {vs : List Expr} {p : Pos} (h : WAnd P vs loc o QB) : WT P (.BoolOp .And vs p) loc o QB := h
theorem r_tor {vs : List Expr} {p : Pos} (h : WOr P vs loc o QB) : WT P (.BoolOp .Or vs p) loc o QB := h
theorem r_tandn (h : QB true o) : WAnd P [] loc o QB := h
theorem r_tandc {e : Expr} {r : List Expr} (h : WT P e loc o fun b o1 => (b = true → WAnd P r loc o1 QB) ∧ (b = false → QB false o1)) : WAnd P (e :: r) loc o QB := h
theorem r_torn (h : QB false o) : WOr P [] loc o QB := h
theorem r_torc {e : Expr} {r : List Expr} (h : WT P e loc o fun b o1 => (b = true → QB true o1) ∧ (b = false → WOr P r loc o1 QB)) : WOr P (e :: r) loc o QB := h
theorem r_tcmp {l r : Expr} {op : CmpOp} {p : Pos} (kn : behindInMarks op r = false) (h : WE P l loc o fun a o1 => WE P r loc o1 fun b o2 => cmpF P op a b o2 fun d o3 => truthP d fun c => QB c o3) : WT P (.Compare l [op] [r] p) loc o QB := ⟨kn, h⟩
theorem r_tname {x : Str} {p : Pos} {d : D} (kn : nameF P loc x = some d) (h : truthP d fun c => QB c o) : WT P (.Name x p) loc o QB := by
  show (match nameF P loc x with | some d => truthP d fun c => QB c o | none => False)
  rw [kn]; exact h
theorem r_tslice {v : Expr} {lo hi : Option Expr} {sp p : Pos} (h : WE P v loc o fun d o1 => WO P lo loc o1 fun l o2 => WO P hi loc o2 fun h o3 => sliceF d l h o3 fun d o4 => truthP d fun c => QB c o4) : WT P (.Subscript v (.Slice lo hi none sp) p) loc o QB := h
-- operations
theorem q_add {x y : Int} (h : Q (.int (x + y)) o) : binF .Add (.int x) (.int y) o Q := .addi h
theorem q_sub {x y : Int} (h : Q (.int (x - y)) o) : binF .Sub (.int x) (.int y) o Q := .subi h
theorem q_mul {x y : Int} (h0 : -1000000 ≤ x ∧ x ≤ 1000000) (h : Q (.int (x * y)) o) : binF .Mult (.int x) (.int y) o Q := by
  refine .muli ?_ h
  unfold IntMulOk
  have hb := intBits_le_64 (k := x) (by omega) (by omega)
  have : ¬ (Builtin.Int.intBits x > shortFactorBits) := by unfold shortFactorBits; omega
  simp [this]
theorem q_fdiv {x y : Int} (h0 : 0 < y ∧ y < 1000000) (h : Q (.int (x / y)) o) : binF .FloorDiv (.int x) (.int y) o Q := .fdiv (by omega) (by omega) (by rw [Int.fdiv_eq_ediv_of_nonneg _ (by omega)]; exact h)
theorem q_mod {x y : Int} (h0 : 0 < y) (h : Q (.int (x % y)) o) : binF .Mod (.int x) (.int y) o Q := .mod (by omega) (by rw [Int.fmod_eq_emod_of_nonneg _ (by omega)]; exact h)
theorem q_cat {x y : List Nat} (h0 : x.length + y.length ≤ 100000) (h : Q (.str (mk (x ++ y))) o) : binF .Add (.str (mk x)) (.str (mk y)) o Q := .adds (by rw [mk_length, mk_length, sizeLine_eq]; omega) (by rw [mk_append]; exact h)
theorem c_eqi {x y : Int} (h : Q (.bool (x == y)) o) : cmpF P .Eq (.int x) (.int y) o Q := .eqi h
theorem c_eqs {x y : List Nat} (h : Q (.bool (x == y)) o) : cmpF P .Eq (.str (mk x)) (.str (mk y)) o Q := .eqs (by rw [mk_beq]; exact h)
theorem c_nei {x y : Int} (h : Q (.bool (x != y)) o) : cmpF P .NotEq (.int x) (.int y) o Q := .nei h
theorem c_nes {x y : List Nat} (h : Q (.bool (x != y)) o) : cmpF P .NotEq (.str (mk x)) (.str (mk y)) o Q := .nes (by show Q (.bool (!(mk x == mk y))) o; rw [mk_beq]; exact h)
theorem c_lti {x y : Int} (h : Q (.bool (decide (x < y))) o) : cmpF P .Lt (.int x) (.int y) o Q := .lti h
theorem c_gti {x y : Int} (h : Q (.bool (decide (y < x))) o) : cmpF P .Gt (.int x) (.int y) o Q := .gti h
theorem c_lts {x y : List Nat} (h : Q (.bool (decide (x < y))) o) : cmpF P .Lt (.str (mk x)) (.str (mk y)) o Q := .lts h
theorem c_isnn (h : Q (.bool true) o) : cmpF P .Is .none .none o Q := .isnn h
theorem c_isin {i : Int} (h : Q (.bool false) o) : cmpF P .Is (.int i) .none o Q := .isin h
theorem c_isfn {a : Addr} (h : Q (.bool false) o) : cmpF P .Is (.fn (.ref a)) .none o Q := .isfn h
theorem t_bool {b : Bool} {K : Bool → Prop} (h : K b) : truthP (.bool b) K := h
theorem t_int {i : Int} {K : Bool → Prop} (h : K (i != 0)) : truthP (.int i) K := h
theorem t_str {l : List Nat} {K : Bool → Prop} (h0 : l.length ≤ 100000) (h : K (!l.isEmpty)) : truthP (.str (mk l)) K := by
  refine ⟨by rw [mk_length]; exact h0, ?_⟩
  rw [mk_length]
  have : ((l.length : Int) != 0) = !l.isEmpty := by cases l <;> simp; omega
  rw [this]; exact h
theorem t_none {K : Bool → Prop} (h : K false) : truthP .none K := h
theorem b_lens {l : List Nat} (h0 : l.length ≤ 100000) (h : Q (.int l.length) o) : callF P (.builtin "len") [.str (mk l)] [] o Q := ⟨rfl, .lens (by rw [mk_length]; exact h0) (by rw [mk_length]; exact h)⟩
theorem b_lenl {n : Nat} {l : List D} (e : o[n]? = some (.list l)) (h0 : l.length ≤ 100000) (h : Q (.int l.length) o) : callF P (.builtin "len") [.obj n] [] o Q := ⟨rfl, .lenl e h0 h⟩
theorem b_min {a b : Int} (h : Q (.int (min a b)) o) : callF P (.builtin "min") [.int a, .int b] [] o Q := ⟨rfl, .min2 h⟩
theorem b_max {a b : Int} (h : Q (.int (max a b)) o) : callF P (.builtin "max") [.int a, .int b] [] o Q := ⟨rfl, .max2 h⟩
theorem b_range3 {a b c : Int} (h0 : c ≠ 0 ∧ c.natAbs < 1000) (h : Q (.rng a b c) o) : callF P (.type "range") [.int a, .int b, .int c] [] o Q := ⟨rfl, .r3 h0.1 h0.2 h⟩
theorem b_fn {f : Addr} {ds : List D} {ks : List (Str × D)} (h : P.C f ds ks o Q) : callF P (.ref f) ds ks o Q := h
theorem g_str {l : List Nat} {k : Int} {j : Nat} {c : Nat} (e : k = (j : Int)) (hl : l.length ≤ 100000) (hc : l[j]? = some c) (h : Q (.str (mk [c])) o) : getF P (.str (mk l)) (.int k) o Q := by
  obtain ⟨h1, h2⟩ := List.getElem?_eq_some_iff.mp hc
  subst e
  exact .str (by omega) (by omega) (by rw [strIdx_nat l j h1, h2]) h
theorem g_strn {l : List Nat} {k : Int} {j : Nat} {c : Nat} (e : k = -(j : Int)) (h0 : 0 < j) (hj : j ≤ l.length) (hl : l.length ≤ 100000) (hc : l[l.length - j]? = some c) (h : Q (.str (mk [c])) o) : getF P (.str (mk l)) (.int k) o Q := by
  obtain ⟨h1, h2⟩ := List.getElem?_eq_some_iff.mp hc
  subst e
  exact .str (by omega) (by omega) (by rw [strIdx_neg l j h0 hj, h2]) h
theorem g_list {n : Nat} {l : List D} {k : Int} {j : Nat} {d : D} (e : o[n]? = some (.list l)) (ek : k = (j : Int)) (hl : l.length ≤ 100000) (hd : l[j]? = some d) (h : Q d o) : getF P (.obj n) (.int k) o Q := by
  have hj := (List.getElem?_eq_some_iff.mp hd).1
  subst ek
  exact .lst e (by omega) (by omega) hd h
theorem g_tup {l : List D} {k : Int} {j : Nat} {d : D} (ek : k = (j : Int)) (hj : j < 100000) (hd : l[j]? = some d) (h : Q d o) : getF P (.tup l) (.int k) o Q := by
  subst ek
  exact .tup (by omega) (by omega) hd h
theorem s_from {l : List Nat} {k : Int} {j : Nat} (e : k = (j : Int)) (hj : j ≤ l.length) (hl : l.length ≤ 100000) (h : Q (.str (mk (l.drop j))) o) : sliceF (.str (mk l)) (.int k) .none o Q := by
  subst e
  exact .str (.int _) .none (by rw [mk_length]; exact hl) (by rw [slice_from l j hj]; exact h)
theorem s_to {l : List Nat} {k : Int} {j : Nat} (e : k = (j : Int)) (hj : j ≤ l.length) (hl : l.length ≤ 100000) (h : Q (.str (mk (l.take j))) o) : sliceF (.str (mk l)) .none (.int k) o Q := by
  subst e
  exact .str .none (.int _) (by rw [mk_length]; exact hl) (by rw [slice_to l j hj]; exact h)
theorem s_neg {l : List Nat} {k : Int} {j : Nat} (e : k = -(j : Int)) (h0 : 0 < j) (hj : j ≤ l.length) (hl : l.length ≤ 100000) (h : Q (.str (mk (l.take (l.length - j)))) o) : sliceF (.str (mk l)) .none (.int k) o Q := by
  subst e
  exact .str .none (.int _) (by rw [mk_length]; exact hl) (by rw [slice_neg l j h0 hj]; exact h)
theorem s_all {l : List Nat} (hl : l.length ≤ 100000) (h : Q (.str (mk l)) o) : sliceF (.str (mk l)) .none .none o Q := .str .none .none (by rw [mk_length]; exact hl) (by rw [slice_all]; exact h)
theorem a_addi {x y : Int} (h : Q (.int (x + y)) o) : augF .Add (.int x) (.int y) o Q := .addi h
theorem a_subi {x y : Int} (h : Q (.int (x - y)) o) : augF .Sub (.int x) (.int y) o Q := .subi h
theorem a_cat {x y : List Nat} (h0 : x.length + y.length ≤ 100000) (h : Q (.str (mk (x ++ y))) o) : augF .Add (.str (mk x)) (.str (mk y)) o Q := .adds (by rw [mk_length, mk_length, sizeLine_eq]; omega) (by rw [mk_append]; exact h)
end
end Mine

end
section
open PySem PySem.W PySem.Spec PySem.Calls PyProof.Rows
set_option Elab.async false
set_option maxRecDepth 100000
set_option linter.unusedVariables false
namespace Mine
section
variable {P : PCtx} {loc : Loc} {o : List O} {Q : Post} {QS : SPost} {QB : Bool → List O → Prop}
theorem orN {x y : Str} {q : Nat} {l : List Nat} {p1 p2 p3 : Pos} {k : Nat} (hx : nameF P loc x = some (.int (-(q : Int)))) (hq : q ≤ l.length) (hl : l.length ≤ 100000)
    (h : Q (.str (mk (l.take (l.length - q)))) o) : WE P (.BoolOp .Or [.Name x p1, .Constant .none k p2] p3) loc o fun h o3 => sliceF (.str (mk l)) .none h o3 Q := by
  refine r_or (r_name hx (t_int ⟨fun hc => ?_, fun hc => ?_⟩))
  · have h0 : 0 < q := by simp at hc; omega
    exact s_neg rfl h0 hq hl h
  · have h0 : q = 0 := by simp at hc; omega
    subst h0
    refine r_none (s_all hl ?_)
    rwa [Nat.sub_zero, List.take_length] at h
theorem r_slpost {x y : Str} {q : Nat} {l : List Nat} {p0 p1 p2 p3 sp p : Pos} {k : Nat} (kn : nameF P loc y = some (.str (mk l))) (km : nameF P loc x = some (.int (-(q : Int)))) (ko : q ≤ l.length) (kp : l.length ≤ 100000)
    (h : Q (.str (mk (l.take (l.length - q)))) o) : WE P (.Subscript (.Name y p0) (.Slice none (some (.BoolOp .Or [.Name x p1, .Constant .none k p2] p3)) none sp) p) loc o Q :=
  r_slice (r_name kn (r_on (r_os (orN (y := y) km ko kp h))))
theorem r_tslpost {x y : Str} {q : Nat} {l : List Nat} {p0 p1 p2 p3 sp p : Pos} {k : Nat} (kn : nameF P loc y = some (.str (mk l))) (km : nameF P loc x = some (.int (-(q : Int)))) (ko : q ≤ l.length) (kp : l.length ≤ 100000)
    (h : QB (decide (q < l.length)) o) : WT P (.Subscript (.Name y p0) (.Slice none (some (.BoolOp .Or [.Name x p1, .Constant .none k p2] p3)) none sp) p) loc o QB := by
  refine r_tslice (r_name kn (r_on (r_os (orN (y := y) km ko kp (t_str (by simp; omega) ?_)))))
  have : (!(List.take (l.length - q) l).isEmpty) = decide (q < l.length) := by
    rw [Bool.eq_iff_iff]
    simp only [Bool.not_eq_true', List.isEmpty_eq_false_iff, ne_eq, List.take_eq_nil_iff, decide_eq_true_eq]
    constructor
    · intro h; apply Classical.byContradiction; intro g; exact h (.inl (by omega))
    · rintro h (g | g)
      · omega
      · subst g; simp at h
  rw [this]; exact h
theorem r_tfrom {x y : Str} {q : Nat} {l : List Nat} {p0 p1 sp p : Pos} (kn : nameF P loc y = some (.str (mk l))) (km : nameF P loc x = some (.int (q : Int))) (ko : q ≤ l.length) (kp : l.length ≤ 100000)
    (h : QB (decide (q < l.length)) o) : WT P (.Subscript (.Name y p0) (.Slice (some (.Name x p1)) none none sp) p) loc o QB := by
  refine r_tslice (r_name kn (r_os (r_name km (r_on (s_from rfl ko kp (t_str (by simp; omega) ?_))))))
  have : (!(List.drop q l).isEmpty) = decide (q < l.length) := by
    rw [Bool.eq_iff_iff]
    simp only [Bool.not_eq_true', List.isEmpty_eq_false_iff, ne_eq, List.drop_eq_nil_iff, decide_eq_true_eq]
    omega
  rw [this]; exact h
theorem r_sfrom {x y : Str} {q : Nat} {l : List Nat} {p0 p1 sp p : Pos} (kn : nameF P loc y = some (.str (mk l))) (km : nameF P loc x = some (.int (q : Int))) (ko : q ≤ l.length) (kp : l.length ≤ 100000)
    (h : Q (.str (mk (l.drop q))) o) : WE P (.Subscript (.Name y p0) (.Slice (some (.Name x p1)) none none sp) p) loc o Q :=
  r_slice (r_name kn (r_os (r_name km (r_on (s_from rfl ko kp h)))))
theorem range2_size (n : Nat) : Builtin.Range.rangeSize 2 (2 * ((n : Int) + 1)) 2 = n := by
  unfold Builtin.Range.rangeSize
  simp only [show (2 : Int) > 0 by decide, if_true]
  split
  · omega
  · omega
theorem r_list2 {n : Nat} (hn : n ≤ 900) (h : Q (.obj o.length) (o ++ [.list (((List.range n).map fun (i : Nat) => 2 + (i : Int) * 2).map D.int)])) : callF P (.type "list") [.rng 2 (2 * ((n : Int) + 1)) 2] [] o Q := by
  refine ⟨rfl, .lst ?_ ?_ ?_ ?_⟩
  · unfold Builtin.Range.small Builtin.Range.rangeFitsLong
    rw [range2_size]
    simp only [show ((2 : Int) > 0) = True by simp, if_true, Bool.and_eq_true, Bool.or_eq_true, decide_eq_true_eq, beq_iff_eq]
    omega
  · rw [range2_size]; omega
  · rw [range2_size]; omega
  · have : rngD 2 (2 * ((n : Int) + 1)) 2 = ((List.range n).map fun (i : Nat) => 2 + (i : Int) * 2).map D.int := by
      unfold rngD; rw [range2_size, List.map_map]; rfl
    rw [this]; exact h
end
theorem we_mono_id {P : PCtx} {e : Expr} {loc : Loc} {o : List O} {K K' : Post} (q : K = K') (h : WE P e loc o K) : WE P e loc o K' := q ▸ h
theorem r_forr {P : PCtx} {loc : Loc} {o : List O} {QS : SPost} {x f : Str} {e : Expr} {b : List Stmt} {p0 p1 p2 p : Pos} (hf : nameF P loc f = some (.fn (.type "range"))) (h0 : noStarred [e] = true)
    (h : WE P e loc o fun d o1 => RngR (fun l g o1 => ForW (asgF P (.Name x p0)) (WSs P b) l g loc o1 QS) o1 [d]) : WS P (.For (.Name x p0) (.Call (.Name f p1) [e] [] p2) b [] p) loc o QS :=
  r_for (.range hf (by rw [h0]; rfl) h)
theorem rng_one {K : List D → Grd → List O → Prop} {o : List O} {n : Int} (h : (-1000 ≤ n ∧ n ≤ 1000) ∧ K (rangeD 0 n) none o) : RngR K o [.int n] := .one h.1.1 h.1.2 h.2
noncomputable def MethK (x : Option Value) (K : Value → Prop) : Prop := match x with | some v => K v | none => False
theorem m_go {x : Option Value} {v : Value} {K : Value → Prop} (e : x = some v) (h : K v) : MethK x K := by subst e; exact h
theorem r_methd {P : PCtx} {loc : Loc} {o : List O} {Q : Post} {b : Expr} {m : Str} {ap p : Pos} {args : List Expr} (ka : NoSup b ∧ (ap.endLine == p.line && noStarred args && decide (args.length < 29)) = true) (h : WE P b loc o fun d o1 => MethK (methV P d o1 m) fun v => WEs P args loc o1 fun ds o2 => callF P v (d :: ds) [] o2 Q) : WE P (.Call (.Attribute b m ap) args [] p) loc o Q := r_meth ka h
theorem m_str {P : PCtx} {o : List O} {x : Str} (m : String) {K : Value → Prop} {v : Value} (kn : methV P (.str x) o (Str.ofString m) = some v) (h : K v) : MethK (methV P (.str x) o (Str.ofString m)) K := m_go kn h
theorem m_list {P : PCtx} {o : List O} {n : Nat} {l : List D} {m : String} {K : Value → Prop} {v : Value} (ho : o[n]? = some (.list l)) (e : (if Str.ofString m = Str.ofString "append" then some (Value.builtin "list.append") else if Str.ofString m = Str.ofString "insert" then some (.builtin "list.insert") else if Str.ofString m = Str.ofString "index" then some (.builtin "list.index") else none) = some v) (h : K v) : MethK (methV P (.obj n) o (Str.ofString m)) K := by
  refine m_go ?_ h
  unfold methV
  simp only [ho]
  exact e
noncomputable abbrev ForQ (J QN : Loc → List O → Prop) (QS : SPost) : SPost := fun fl loc o => match fl with
  | .next => J loc o
  | .cont => J loc o
  | .brk => QN loc o
  | .ret d => QS (.ret d) loc o
noncomputable abbrev Less (I : Nat → Loc → List O → Prop) (n : Nat) (loc : Loc) (o : List O) : Prop := ∃ m, m < n ∧ I m loc o
theorem r_whileJ {P : PCtx} {loc : Loc} {o : List O} {QS : SPost} {t : Expr} {b : List Stmt} {p : Pos} (J : Loc → List O → Prop) (I : Nat → Loc → List O → Prop) (n : Nat) (h0 : I n loc o)
    (step : ∀ QN : Loc → List O → Prop, (∀ loc o, J loc o → QN loc o) → ∀ n loc o, I n loc o → WT P t loc o fun b' o1 => (b' = true → WSs P b loc o1 (ForQ (Less I n) QN QS)) ∧ (b' = false → QN loc o1))
    (hJ : ∀ loc o, J loc o → QS .next loc o) : WS P (.While t b [] p) loc o QS := r_while ⟨I, n, h0, step _ hJ⟩
theorem r_ifJ {P : PCtx} {loc : Loc} {o : List O} {QS : SPost} {t : Expr} {b e : List Stmt} {p : Pos} (J : Loc → List O → Prop)
    (h : ∀ QT : SPost, (∀ loc o, J loc o → QT .next loc o) → (∀ d loc o, QS (.ret d) loc o → QT (.ret d) loc o) → WT P t loc o fun c o1 => (c = true → WSs P b loc o1 QT) ∧ (c = false → WSs P e loc o1 QT))
    (hJ : ∀ loc o, J loc o → QS .next loc o) : WS P (.If t b e p) loc o QS := h _ hJ fun _ _ _ h => h
theorem r_forJ {P : PCtx} {loc : Loc} {o : List O} {QS : SPost} {asg : D → Loc → (Loc → Prop) → Prop} {b : List Stmt} {items : List D} {g : Grd} (I : Nat → Loc → List O → Prop) (h0 : I 0 loc o) (hg : ∀ i loc o, I i loc o → GuardOk g items o)
    (step : ∀ QN : Loc → List O → Prop, ∀ i d loc o, items[i]? = some d → I i loc o → asg d loc fun loc1 => WSs P b loc1 o (ForQ (I (i + 1)) (fun loc o => QS .next loc o) QS))
    (hJ : ∀ loc o, I items.length loc o → QS .next loc o) : ForW asg (WSs P b) items g loc o QS := ⟨I, h0, hg, step fun _ _ => True, hJ⟩
theorem lit_t {A B : Prop} (h : A) : (true = true → A) ∧ (true = false → B) := ⟨fun _ => h, fun q => by cases q⟩
theorem lit_f {A B : Prop} (h : B) : (false = true → A) ∧ (false = false → B) := ⟨(fun q => by cases q), fun _ => h⟩
-- pure facts on trimming
theorem trimP_step {x y : List Nat} {p : Nat} {c d : Nat} (hc : x[p]? = some c) (hd : y[p]? = some d) (e : c = d) : trimP (x.drop (p + 1)) (y.drop (p + 1)) = trimP (x.drop p) (y.drop p) := by
  obtain ⟨h1, e1⟩ := List.getElem?_eq_some_iff.mp hc
  obtain ⟨h2, e2⟩ := List.getElem?_eq_some_iff.mp hd
  rw [List.drop_eq_getElem_cons h1, List.drop_eq_getElem_cons h2, e1, e2, e]
  simp [trimP]
theorem trimP_stop {x y : List Nat} {p : Nat} (h : ¬ (p < x.length) ∨ ¬ (p < y.length) ∨ (∃ c d, x[p]? = some c ∧ y[p]? = some d ∧ c ≠ d)) : trimP (x.drop p) (y.drop p) = (x.drop p, y.drop p) := by
  rcases h with h | h | ⟨c, d, hc, hd, e⟩
  · rw [List.drop_eq_nil_of_le (by omega)]; cases List.drop p y <;> rfl
  · rw [List.drop_eq_nil_of_le (as := y) (by omega)]; cases List.drop p x <;> rfl
  · obtain ⟨h1, e1⟩ := List.getElem?_eq_some_iff.mp hc
    obtain ⟨h2, e2⟩ := List.getElem?_eq_some_iff.mp hd
    rw [List.drop_eq_getElem_cons h1, List.drop_eq_getElem_cons h2, e1, e2]
    simp [trimP, e]
theorem trimS_step {x y : List Nat} {p : Nat} {c d : Nat} (h1 : p < x.length) (h2 : p < y.length) (hc : x[x.length - (p + 1)]? = some c) (hd : y[y.length - (p + 1)]? = some d) (e : c = d) :
    trimS (x.take (x.length - (p + 1))) (y.take (y.length - (p + 1))) = trimS (x.take (x.length - p)) (y.take (y.length - p)) := by
  unfold trimS
  rw [← List.drop_reverse, ← List.drop_reverse, ← List.drop_reverse, ← List.drop_reverse]
  rw [trimP_step (c := c) (d := d) ?_ ?_ e]
  · rw [List.getElem?_reverse h1, Nat.sub_sub, Nat.add_comm 1 p]; exact hc
  · rw [List.getElem?_reverse h2, Nat.sub_sub, Nat.add_comm 1 p]; exact hd
theorem trimS_stop {x y : List Nat} {p : Nat} (h : ¬ (p < x.length) ∨ ¬ (p < y.length) ∨ (∃ c d, x[x.length - (p + 1)]? = some c ∧ y[y.length - (p + 1)]? = some d ∧ c ≠ d)) (hx : p ≤ x.length) (hy : p ≤ y.length) :
    trimS (x.take (x.length - p)) (y.take (y.length - p)) = (x.take (x.length - p), y.take (y.length - p)) := by
  unfold trimS
  rw [← List.drop_reverse, ← List.drop_reverse, trimP_stop]
  · rw [List.drop_reverse, List.drop_reverse, List.reverse_reverse, List.reverse_reverse]
  · rcases h with h | h | ⟨c, d, hc, hd, e⟩
    · exact .inl (by simpa using h)
    · exact .inr (.inl (by simpa using h))
    · by_cases h1 : p < x.length
      · by_cases h2 : p < y.length
        · refine .inr (.inr ⟨c, d, ?_, ?_, e⟩)
          · rw [List.getElem?_reverse h1, Nat.sub_sub, Nat.add_comm 1 p]; exact hc
          · rw [List.getElem?_reverse h2, Nat.sub_sub, Nat.add_comm 1 p]; exact hd
        · exact .inr (.inl (by simpa using h2))
      · exact .inl (by simpa using h1)
end Mine

end
section
open PySem PySem.W PySem.Spec PySem.Calls PyProof.Rows
set_option Elab.async false
set_option maxRecDepth 100000
set_option linter.unusedVariables false
namespace Mine
namespace Acc
theorem slot_wget : Slot "wrapper_descriptor" "__get__" "wrapper_descriptor.__get__" :=
  .of (owner := "wrapper_descriptor") (n := "__get__") (by rw [typeLookup_type, builtinLookup_eq_fast]; kernel_rfl) (by decide +kernel) (by decide +kernel) (by decide +kernel)
    (by first | exact .inl (by decide +kernel) | exact .inr (by decide +kernel)) (by rw [isSubtype_type]; kernel_rfl)
theorem entry_wget : entryFor table "wrapper_descriptor.__get__" = some Builtin.«wrapper_descriptor.__get__» := entryFor_of_tree (by kernel_rfl)
theorem args_wget (a b c : Value) : argsOk "wrapper_descriptor.__get__" ⟨[a, b, c], []⟩ := by unfold argsOk; kernel_rfl
theorem slot_mget : Slot "method_descriptor" "__get__" "method_descriptor.__get__" :=
  .of (owner := "method_descriptor") (n := "__get__") (by rw [typeLookup_type, builtinLookup_eq_fast]; kernel_rfl) (by decide +kernel) (by decide +kernel) (by decide +kernel)
    (by first | exact .inl (by decide +kernel) | exact .inr (by decide +kernel)) (by rw [isSubtype_type]; kernel_rfl)
theorem entry_mget : entryFor table "method_descriptor.__get__" = some Builtin.«method_descriptor.__get__» := entryFor_of_tree (by kernel_rfl)
theorem args_mget (a b c : Value) : argsOk "method_descriptor.__get__" ⟨[a, b, c], []⟩ := by unfold argsOk; kernel_rfl
theorem type_len : typeOf (.builtin "list.__len__") = pure (.type "wrapper_descriptor") := by show builtinType _ = _; rw [builtinType_eq_fast]; kernel_rfl
theorem type_init : typeOf (.builtin "list.__init__") = pure (.type "wrapper_descriptor") := by show builtinType _ = _; rw [builtinType_eq_fast]; kernel_rfl
section
variable {prog : Program} {w : World} {M : Model} {A : Around} {E : Value → Shared → Prop} {s : Shared} {x C : Addr}
noncomputable abbrev boundObj (ty id : String) (x : Addr) : Obj := { cls := .type ty, data := .fields #[.builtin id, .ref x] }
set_option maxHeartbeats 1000000
theorem run_wget {id : String} {n : Str} {P : Fin → Shared → Prop} (hi : Looks M s.heap (isInstance (.ref x) (.type "list")) true)
    (hn : ∀ (f : Value → Sem (Str × Value)), (f (.builtin id) = pure (n, .type "list")) → True)
    (h : P (.done (.ret (.ref s.heap.objs.size))) { s with heap := s.heap.push (boundObj "method-wrapper" id x) })
    (hk : (kfb_private% "nameAndClass") (.builtin id) = pure (n, .type "list")) :
    wpAny M A (Builtin.«wrapper_descriptor.__get__» ⟨[.builtin id, .ref x, .ref C], []⟩) P E s := by
  unfold Builtin.«wrapper_descriptor.__get__»
  refine wpAny_bind (wpAny_of_eq (a := (.builtin id, some (.ref x), some (.ref C))) (by first | rfl | kernel_rfl) ?_)
  refine wpAny_bind ?_
  refine wpAny_bind (wpAny_of_eq hk ?_)
  refine wpAny_bind (hi.here ?_)
  refine KFB.if_not rfl ?_
  refine wpAny_pure ?_
  refine wpAny_bind (wpAny_newObj_type (wpAny_pure h) (by size_fits))
theorem nc_len : (kfb_private% "nameAndClass") (.builtin "list.__len__") = pure (("__len__" : Str), .type "list") := by first | rfl | kernel_rfl
theorem nc_init : (kfb_private% "nameAndClass") (.builtin "list.__init__") = pure (("__init__" : Str), .type "list") := by first | rfl | kernel_rfl
theorem nc_pop : (kfb_private% "nameAndClass") (.builtin "list.pop") = pure (("pop" : Str), .type "list") := by first | rfl | kernel_rfl
theorem run_mget {id : String} {n : Str} {P : Fin → Shared → Prop} (hi : Looks M s.heap (isInstance (.ref x) (.type "list")) true)
    (h : P (.done (.ret (.ref s.heap.objs.size))) { s with heap := s.heap.push (boundObj "builtin_function_or_method" id x) })
    (hk : (kfb_private% "nameAndClass") (.builtin id) = pure (n, .type "list")) (ht : Manifest.toldItsClass.contains id = false) :
    wpAny M A (Builtin.«method_descriptor.__get__» ⟨[.builtin id, .ref x, .ref C], []⟩) P E s := by
  unfold Builtin.«method_descriptor.__get__»
  refine wpAny_bind (wpAny_of_eq (a := (.builtin id, some (.ref x), some (.ref C))) (by first | rfl | kernel_rfl) ?_)
  dsimp only
  rw [ht]
  simp only [Bool.false_eq_true, if_false]
  first | refine wpAny_bind (wpAny_pure ?_) | skip
  refine wpAny_bind ?_
  refine wpAny_bind (wpAny_of_eq hk ?_)
  refine wpAny_bind (hi.here ?_)
  refine KFB.if_not rfl ?_
  refine wpAny_pure ?_
  refine wpAny_bind (wpAny_newObj_type (wpAny_pure h) (by size_fits))
theorem told_pop : Manifest.toldItsClass.contains "list.pop" = false := by decide +kernel
end
section
variable {prog : Program} {w : World} {A : Around} {E : Value → Shared → Prop} {h : Heap} {g : Array GenState} {d : Drawn} {t : Nat} {os : OsState}
/-- what super() hands out of the base -/
theorem super_ga {so D x C : Addr} {id gid tyd bty : String} {l₀ l : List Value} {K : Frag} {name : Str} {tk : Tok} {Q : Fin → Shared → Prop}
    (hso : h.get? so = some { cls := .type "super", dict := none, data := .fields #[.ref D, .ref x, .ref C], slots := #[] }) (hno : Looks (model prog w) h (opaqueClassAbove (.ref C)) none)
    (hC : Looks (model prog w) h (mroOf (.ref C)) l₀) (hl : (l₀.dropWhile (· != .ref D)).drop 1 = l) (X : K.In h)
    (hf : alongIn K name l = some (some (.builtin id))) (hty : typeOf (.builtin id) = pure (.type tyd)) (hlk : typeLookup (.type tyd) "__get__" = pure (some (.builtin gid))) (hxC : x ≠ C) (hn : (name == ("__class__" : Str)) = false)
    (hcall : ∀ (A' : Around) (E' : Value → Shared → Prop) (Q' : Value → Shared → Prop), Q' (.ref h.objs.size) ⟨h.push (boundObj bty id x), g, d, t, os⟩ → wpAny (model prog w) A' (call (.builtin gid) [.builtin id, .ref x, .ref C]) Q' E' ⟨h, g, d, t, os⟩)
    (hq : Q (.done (.ret (.ref h.objs.size))) ⟨h.push (boundObj bty id x), g, d, t, os⟩) :
    wpAny (model prog w) A (Builtin.«super.__getattribute__» ⟨[.ref so, .str name tk], []⟩) Q E ⟨h, g, d, t, os⟩ := by
  have hne : (Value.ref x == Value.ref C) = false := by simp [hxC]
  have hdt : ({ cls := .type "super", dict := none, data := .fields #[.ref D, .ref x, .ref C], slots := #[] } : Obj).data = .fields #[.ref D, .ref x, .ref C] := rfl
  have f0 : (#[.ref D, .ref x, .ref C] : Array Value)[0]? = some (.ref D) := rfl
  have f1 : (#[.ref D, .ref x, .ref C] : Array Value)[1]? = some (.ref x) := rfl
  have f2 : (#[.ref D, .ref x, .ref C] : Array Value)[2]? = some (.ref C) := rfl
  unfold Builtin.«super.__getattribute__»
  repeat (first
    | (with_reducible refine wpAny_field hso hdt f0 ?_) | (with_reducible refine wpAny_field hso hdt f1 ?_) | (with_reducible refine wpAny_field hso hdt f2 ?_)
    | (with_reducible refine ks_wpAny_notOpaque hno ?_)
    | (with_reducible refine Looks.at hC ?_; rw [hl])
    | (refine ks_forIn_along X (fun _ _ => rfl) rfl ?_ hf)
    | (with_reducible refine wpAny_of_eq hty ?_)
    | (with_reducible refine wpAny_of_eq hlk ?_)
    | (with_reducible refine hcall _ _ _ ?_)
    | (with_reducible refine ⟨_, rfl, ?_⟩)
    | (simp only [hn, hne, Bool.or_false, Bool.false_eq_true, if_false])
    | wp_step
    | dsimp only)
  all_goals exact hq
end
end Acc
end Mine

end
section
open PySem PySem.W PySem.Spec PySem.Calls PyProof.Rows
set_option Elab.async false
set_option maxRecDepth 100000
set_option linter.unusedVariables false
namespace Mine
namespace Acc
section
variable {prog : Program} {w : World} {M : Model} {A : Around} {E : Value → Shared → Prop} {s : Shared} {x C dx : Addr}
set_option maxHeartbeats 1000000
theorem upd_acc {h : Heap} {a : Addr} {xs : Array Value} {ws : List Value} {n : Nat} {c : Value} {d : Option Addr} (f : Array Value → Array Value) (e : f xs = ws.toArray) (h1 : h.get? a = some ⟨c, d, .seq xs n, #[]⟩) : ∃ m, (h.update a (Obj.mapSeq f)).get? a = some ⟨c, d, .seq ws.toArray m, #[]⟩ := by
  have e2 := Heap.get?_update_self (Obj.mapSeq f) h1 rfl
  have e3 : ∃ m, Obj.mapSeq f (⟨c, d, .seq xs n, #[]⟩ : Obj) = ⟨c, d, .seq (f xs) m, #[]⟩ := ⟨_, rfl⟩
  obtain ⟨m, e3⟩ := e3
  exact ⟨m, by rw [e2, e3, e]⟩
theorem tree_len {vs : Array Value} {n : Nat} {P : Fin → Shared → Prop} (hx : s.heap.get? x = some ⟨.ref C, some dx, .seq vs n, #[]⟩) (h : P (.done (.ret (.int vs.size s.toks))) { s with toks := s.toks + 1 }) :
    wpAny M A (Builtin.«list.__len__» ⟨[.ref x], []⟩) P E s := by
  unfold Builtin.«list.__len__»
  refine wpAny_bind (wpAny_of_eq (a := (.ref x, [])) (by first | rfl | kernel_rfl) ?_)
  dsimp only
  unfold seqSize
  refine wpAny_bind (wpAny_bind (wpAny_loadPart hx ?_))
  dsimp only
  refine wpAny_pure ?_
  unfold retInt
  exact wpAny_bind (wpAny_mkInt (wpAny_pure h))
theorem tree_init {n : Nat} {P : Fin → Shared → Prop} (hx : s.heap.get? x = some ⟨.ref C, some dx, .seq #[] n, #[]⟩) (h : ∀ h' n', h'.get? x = some ⟨.ref C, some dx, .seq #[] n', #[]⟩ → Heap.SameBut x s.heap h' → P (.done (.ret .none)) { s with heap := h' }) :
    wpAny M A (Builtin.«list.__init__» ⟨[.ref x], []⟩) P E s := by
  unfold Builtin.«list.__init__»
  dsimp only
  refine KFB.if_not rfl ?_
  rw [if_neg (by decide)]
  unfold Builtin.List.listItems
  refine wpAny_bind (wpAny_bind (wpAny_seqItems hx rfl (wpAny_pure ?_)))
  refine wpAny_bind (m := updateSeq x _) (wpAny_updateSeq hx rfl ?_)
  refine wpAny_bind ?_
  show wpAny M A (letGo []) _ _ _
  refine wpAny_pure ?_
  obtain ⟨n', e⟩ := upd_acc (ws := []) (fun _ => #[]) rfl hx
  exact wpAny_pure (h _ n' e (Heap.SameBut.update ..))
theorem tree_pop {vs : List Value} {v : Value} {n : Nat} {P : Fin → Shared → Prop} (hx : s.heap.get? x = some ⟨.ref C, some dx, .seq (vs ++ [v]).toArray n, #[]⟩) (hl : vs.length ≤ 1000)
    (h : ∀ h' n', h'.get? x = some ⟨.ref C, some dx, .seq vs.toArray n', #[]⟩ → Heap.SameBut x s.heap h' → P (.done (.ret v)) { s with heap := h' }) :
    wpAny M A (Builtin.«list.pop» ⟨[.ref x], []⟩) P E s := by
  unfold Builtin.«list.pop»
  refine wpAny_bind (wpAny_of_eq (a := (.ref x, [])) (by first | rfl | kernel_rfl) ?_)
  dsimp only
  refine wpAny_bind (wpAny_pure ?_)
  refine KFB.if_not (by decide) ?_
  unfold Builtin.List.listItems
  refine wpAny_bind (wpAny_bind (wpAny_seqItems hx rfl (wpAny_pure ?_)))
  refine KFB.if_not (by simp) ?_
  have hs : seqIndex? (-1) (vs ++ [v]).toArray.size = some vs.length := by
    rw [seqIndex_neg (by omega) (by simp; omega)]
    congr 1
    simp; omega
  have hv : (vs ++ [v]).toArray[vs.length]? = some v := by simp
  have he : (vs ++ [v]).eraseIdx vs.length = vs := by rw [List.eraseIdx_append_of_length_le (Nat.le_refl _)]; simp
  have hf : (fun xs : Array Value => xs.eraseIdxIfInBounds vs.length) (vs ++ [v]).toArray = vs.toArray := by
    simp [he]
  simp only [hs, Option.bind_some, hv, Option.map_some]
  refine wpAny_bind (m := updateSeq x _) (wpAny_updateSeq hx rfl ?_ (by rw [List.size_toArray, sizeLine_eq]; simp; omega) (by have := congrArg Array.size hf; rw [this, List.size_toArray, sizeLine_eq]; omega))
  obtain ⟨n', e⟩ := upd_acc (ws := vs) (fun xs : Array Value => xs.eraseIdxIfInBounds vs.length) hf hx
  exact wpAny_pure (h _ n' e (Heap.SameBut.update ..))
end
end Acc
end Mine

end
section
open PySem PySem.W PySem.Spec PySem.Calls PyProof.Rows
set_option Elab.async false
set_option maxRecDepth 100000
set_option linter.unusedVariables false
namespace Mine
namespace Acc
section
variable {prog : Program} {w : World} {M : Model} {A : Around} {E : Value → Shared → Prop} {s : Shared} {x C D dx : Addr} {h : Heap} {g : Array GenState} {d : Drawn} {t : Nat} {os : OsState}
set_option maxHeartbeats 1000000
/-- of a base's slot, what binds it -/
structure BaseSlot (id gid tyd bty : String) (n : Str) : Prop where
  ty : typeOf (.builtin id) = pure (.type tyd)
  lk : typeLookup (.type tyd) "__get__" = pure (some (.builtin gid))
  get : ∀ (prog : Program) (w : World) (A : Around) (E : Value → Shared → Prop) (Q : Value → Shared → Prop) (s : Shared) (x C : Addr), Looks (model prog w) s.heap (isInstance (.ref x) (.type "list")) true →
    Q (.ref s.heap.objs.size) { s with heap := s.heap.push (boundObj bty id x) } → wpAny (model prog w) A (call (.builtin gid) [.builtin id, .ref x, .ref C]) Q E s
  mach : bty = "method-wrapper" ∨ bty = "builtin_function_or_method"
theorem base_len : BaseSlot "list.__len__" "wrapper_descriptor.__get__" "wrapper_descriptor" "method-wrapper" "__len__" :=
  ⟨type_len, slot_wget.lookup, fun prog w A E Q s x C hi hq => wpAny_call_entry slot_wget type_len entry_wget (run_wget hi (fun _ _ => trivial) ⟨_, rfl, hq⟩ nc_len) (args_wget _ _ _), .inl rfl⟩
theorem base_init : BaseSlot "list.__init__" "wrapper_descriptor.__get__" "wrapper_descriptor" "method-wrapper" "__init__" :=
  ⟨type_init, slot_wget.lookup, fun prog w A E Q s x C hi hq => wpAny_call_entry slot_wget type_init entry_wget (run_wget hi (fun _ _ => trivial) ⟨_, rfl, hq⟩ nc_init) (args_wget _ _ _), .inl rfl⟩
theorem base_pop : BaseSlot "list.pop" "method_descriptor.__get__" "method_descriptor" "builtin_function_or_method" "pop" :=
  ⟨PySem.F.type_list_pop, slot_mget.lookup, fun prog w A E Q s x C hi hq => wpAny_call_entry slot_mget PySem.F.type_list_pop entry_mget (run_mget hi ⟨_, rfl, hq⟩ nc_pop told_pop) (args_mget _ _ _), .inr rfl⟩

theorem super_getMethod {so : Addr} {id gid tyd bty : String} {nn : Str} {l₀ l : List Value} {K : Frag} {name : Str} {pl : Sem Bool} {Q : Value × List Value → Shared → Prop} (bs : BaseSlot id gid tyd bty nn)
    (hso : h.get? so = some { cls := .type "super", dict := none, data := .fields #[.ref D, .ref x, .ref C], slots := #[] }) (hno : Looks (model prog w) h (opaqueClassAbove (.ref C)) none)
    (hC : Looks (model prog w) h (mroOf (.ref C)) l₀) (hl : (l₀.dropWhile (· != .ref D)).drop 1 = l) (X : K.In h) (hi : Looks (model prog w) h (isInstance (.ref x) (.type "list")) true)
    (hf : alongIn K name l = some (some (.builtin id))) (hxC : x ≠ C) (hn : (name == ("__class__" : Str)) = false)
    (hq : Q (.ref h.objs.size, []) ⟨h.push (boundObj bty id x), g, d, t + 1, os⟩) :
    wpAny (model prog w) A (getMethod (.ref so) name pl) Q E ⟨h, g, d, t, os⟩ := by
  have hlk := PySem.F.ks_slot_super_ga.lookup
  have hcan := PySem.F.ks_canon_super_ga
  have hT : ∀ t', (⟨h, g, d, t', os⟩ : Shared).TypeIs (.ref so) "super" := fun _ => ⟨_, hso, rfl⟩
  unfold getMethod
  refine wpAny_bind (wpAny_specialOf (hT _) hlk ?_)
  show wpAny _ _ (if (Manifest.canonical "super.__getattribute__" != "object.__getattribute__") = true then _ else _) _ _ _
  rw [if_pos hcan]
  unfold getAttr getAttrBy
  refine wpAny_bind (wpAny_bind (wpAny_mkText (wpAny_holding (wpAny_bind (wpAny_typeOf (hT _) (wpAny_bind (wpAny_of_eq hlk ?_)))))))
  show wpAny _ _ (getAttrByItsOwn (.ref so) (.str name t) (.type "super") (.builtin "super.__getattribute__") true false) _ _ _
  unfold getAttrByItsOwn hookBefore callGetattribute boundAndCalled
  refine wpAny_bind (wpAny_of_eq (show (if onTheHeap (.type "super") then typeLookup (.type "super") "__getattr__" else pure none) = pure none from rfl) ?_)
  refine wpAny_bind (wpAny_attempt (wpAny_holding ?_))
  show wpAny _ _ (bindSpecial (.builtin "super.__getattribute__") (.ref so) >>= _) _ _ _
  refine wpAny_bind (wpAny_of_eq (PySem.F.ks_slot_super_ga.bind _) ?_)
  refine wpAny_mono (Q := fun v s' => v = .ref h.objs.size ∧ s' = ⟨h.push (boundObj bty id x), g, d, t + 1, os⟩) (E := fun _ _ => False)
    (wpAny_call_entry PySem.F.ks_slot_super_ga (hT _) PySem.F.ks_entry_super_ga (super_ga (bty := bty) hso hno hC hl X hf bs.ty bs.lk hxC hn (fun A' E' Q' hq' => bs.get prog w A' E' Q' _ x C hi hq') ⟨_, rfl, rfl, rfl⟩) (PySem.F.ks_gaArgs_super _ _)) (fun v s' hv => ?_) fun _ _ z => z.elim
  obtain ⟨rfl, rfl⟩ := hv
  exact wpAny_pure (wpAny_pure hq)

theorem callWith_b {pos : Pos} {u : Addr} {bty id : String} {Q : Value → Shared → Prop} (hm : bty = "method-wrapper" ∨ bty = "builtin_function_or_method") (ho : s.heap.get? u = some (boundObj bty id x))
    (h : wpAny M A (call (.ref u) []) Q E s) : wpAny M A (callWith pos (.ref u) [] [] []) Q E s := by
  unfold callWith
  refine wpAny_bind (wpAny_holding (wpAny_bind (wpAny_pure (wpAny_pure ?_))))
  refine wpAny_bind (wpAny_standAt ?_)
  simp only [List.any_nil, Bool.or_false]
  refine wpAny_bind (m := keeperOf (.ref u)) ?_
  unfold keeperOf
  refine wpAny_bind (wpAny_load ho ?_)
  rcases hm with rfl | rfl
  · simp only [boundObj, show (Value.type "method-wrapper" != Value.type "method") = true by decide, show (Value.type "method-wrapper" == Value.type "builtin_function_or_method" || Value.type "method-wrapper" == Value.type "method-wrapper") = true by decide, if_true]
    refine wpAny_pure ?_
    exact wpAny_bind (wpAny_mono h (fun r s₂ hr => wpAny_bind (wpAny_holding (wpAny_point (wpAny_pure hr)))) fun _ _ x => x)
  · simp only [boundObj, show (Value.type "builtin_function_or_method" != Value.type "method") = true by decide, show (Value.type "builtin_function_or_method" == Value.type "builtin_function_or_method" || Value.type "builtin_function_or_method" == Value.type "method-wrapper") = true by decide, if_true]
    refine wpAny_pure ?_
    exact wpAny_bind (wpAny_mono h (fun r s₂ hr => wpAny_bind (wpAny_holding (wpAny_point (wpAny_pure hr)))) fun _ _ x => x)
/-- a bound slot of the base is called -/
theorem call_b {u : Addr} {bty id : String} {Bi : Builtin} {Q : Value → Shared → Prop} (hm : bty = "method-wrapper" ∨ bty = "builtin_function_or_method") (ho : s.heap.get? u = some (boundObj bty id x))
    (hchk : ∀ (Q' : Unit → Shared → Prop) (E' : Value → Shared → Prop), Q' () s → wpAny (model prog w) A.in1 (checkBoundCall id ⟨[.ref x], []⟩) Q' E' s) (hquiet : (Code.builtin id ⟨[.ref x], []⟩).quiet = true) (entry : entryFor table id = some Bi)
    (tree : ∀ (A' : Around) (P : Fin → Shared → Prop) (E' : Value → Shared → Prop), (∀ v s', Q v s' → P (.done (.ret v)) s') → wpAny (model prog w) A' (Bi ⟨[.ref x], []⟩) P E' s) :
    wpAny (model prog w) A (call (.ref u) []) Q E s := by
  refine wpAny_call (codeAny_of_tree ?_)
  show wpAny _ A.in1 (callAny (.ref u) ⟨[], []⟩) _ _ s
  unfold callAny
  refine wpAny_bind (wpAny_load ho ?_)
  have hb : (Value.type bty == Value.type "method" || Value.type bty == Value.type "builtin_function_or_method" || Value.type bty == Value.type "method-wrapper") = true := by rcases hm with rfl | rfl <;> decide
  refine KFB.if_so hb ?_
  have hne : (Value.type bty != Value.type "method") = true := by rcases hm with rfl | rfl <;> decide
  refine KFB.if_so hne ?_
  refine wpAny_bind (hchk _ _ ?_)
  refine wpAny_bind (wpAny_pure (wpAny_pure ?_))
  exact ⟨hquiet, codeAny_builtin entry (tree _ _ _ fun v s' hq => hq)⟩
theorem quiet_len {a : Args} : (Code.builtin "list.__len__" a).quiet = true := Code.quiet_builtin _ (by decide +kernel)
theorem quiet_init {a : Args} : (Code.builtin "list.__init__" a).quiet = true := Code.quiet_builtin _ (by decide +kernel)
theorem quiet_pop {a : Args} : (Code.builtin "list.pop" a).quiet = true := Code.quiet_builtin _ (by decide +kernel)
theorem chk_len {Q' : Unit → Shared → Prop} {E' : Value → Shared → Prop} (q : Q' () s) : wpAny (model prog w) A (checkBoundCall "list.__len__" ⟨[.ref x], []⟩) Q' E' s := by
  refine wpAny_of_eq (a := ()) ?_ q
  first | kernel_rfl | rfl
theorem chk_init {Q' : Unit → Shared → Prop} {E' : Value → Shared → Prop} (q : Q' () s) : wpAny (model prog w) A (checkBoundCall "list.__init__" ⟨[.ref x], []⟩) Q' E' s := by
  refine wpAny_of_eq (a := ()) ?_ q
  first | kernel_rfl | rfl
end
end Acc
end Mine

end
section
open PySem PySem.W PySem.Spec PySem.Calls PyProof.Rows
set_option Elab.async false
set_option maxRecDepth 100000
set_option linter.unusedVariables false
namespace Mine
namespace Acc
structure ClsOk (Γ : Ctx) (K : Frag) (cd : ClassData) : Prop where
  X : K.In Γ.h₀
  cls : clsIn K Γ.cA = some cd
  mro : cd.mro = [.ref Γ.cA, .type "list", .type "object"]
  opq : nsIn K cStatics "thirdparty.any" = some none
/-- a method of the class that calls super() -/
structure EnvSup (Γ : Ctx) (env : Env) (f : Addr) : Prop where
  ks : env.kindOf "super" = some .globalImplicit
  kc : env.kindOf "__class__" = some .free
  fu : env.func = some f
  ofn : ∃ o fd ar, Γ.h₀.get? f = some o ∧ o.data = .func fd ∧ (fd.params.posonlyargs ++ fd.params.args).head? = some ar ∧ ar.arg = Str.ofString "self"
  code : ∃ cc oc vs file tf, env.code = .ref cc ∧ Γ.h₀.get? cc = some oc ∧ oc.data = .fields vs ∧ vs[2]? = some (.str file tf) ∧ ((Γ.prog.main.file : Str) == file) = true
  top : (Γ.prog.main.scope.names.lookup ("super" : Str)).isSome = false
  glob : GlobIs Γ.h₀ "super" (.type "super")
section
variable {Γ : Ctx} {A : Around} {s : Shared} {x dx : Addr} {env : Env} {own ρ : List Addr} {loc : Loc} {objs : List O} {K : Frag} {cd : ClassData} {f : Addr}
set_option maxHeartbeats 1000000
theorem inst_acc {h : Heap} {vs : Array Value} {n : Nat} {ob : Obj} (hx : h.get? x = some ⟨.ref Γ.cA, some dx, .seq vs n, #[]⟩) (hd : h.get? dx = some ob) : InstAt h x ⟨.ref Γ.cA, some dx, .seq vs n, #[]⟩ Γ.cA (some ob) := ⟨hx, rfl, rfl, hd⟩
theorem isList_acc (H : ClsOk Γ K cd) {h : Heap} (k : ∀ a o, Γ.h₀.get? a = some o → h.get? a = some o) {vs : Array Value} {n : Nat} (hx : h.get? x = some ⟨.ref Γ.cA, some dx, .seq vs n, #[]⟩) : Looks (model Γ.prog Γ.w) h (isInstance (.ref x) (.type "list")) true := by
  have T : Looks (model Γ.prog Γ.w) h (typeOf (.ref x)) (.ref Γ.cA) := (Looks.ld hx).andThen .now
  refine T.andThen (looks_mroIn (H.X.keeps k) ?_)
  unfold mroIn
  rw [H.cls, Option.bind_some, H.mro]; rfl
theorem isMod_acc (H : ClsOk Γ K cd) {h : Heap} (k : ∀ a o, Γ.h₀.get? a = some o → h.get? a = some o) {vs : Array Value} {n : Nat} (hx : h.get? x = some ⟨.ref Γ.cA, some dx, .seq vs n, #[]⟩) : Looks (model Γ.prog Γ.w) h (isInstance (.ref x) (.type "module")) false := by
  have T : Looks (model Γ.prog Γ.w) h (typeOf (.ref x)) (.ref Γ.cA) := (Looks.ld hx).andThen .now
  refine T.andThen (looks_mroIn (H.X.keeps k) ?_)
  unfold mroIn
  rw [H.cls, Option.bind_some, H.mro]
  simp
theorem sub_acc (H : ClsOk Γ K cd) {h : Heap} (k : ∀ a o, Γ.h₀.get? a = some o → h.get? a = some o) : Looks (model Γ.prog Γ.w) h (isSubtype (.ref Γ.cA) (.ref Γ.cA)) true := by
  refine looks_mroIn (H.X.keeps k) ?_
  unfold mroIn
  rw [H.cls, Option.bind_some, H.mro]
  simp
/-- super().NAME() -/
theorem super_eval (H : ClsOk Γ K cd) (S : EnvSup Γ env f) (R : Rep Γ env own ρ loc objs s) (hself : ∃ v, Reads env s.heap "self" v ∧ v = .ref x) (hcls : Reads env s.heap "__class__" (.ref Γ.cA)) {vs : Array Value} {n : Nat} (hx : s.heap.get? x = some ⟨.ref Γ.cA, some dx, .seq vs n, #[]⟩)
    {body : List Stmt} {p0 p1 ap pos : Pos} {attr : Str} {id gid tyd bty : String} {nn : Str} (bs : BaseSlot id gid tyd bty nn) (hf : alongIn K attr [.type "list", .type "object"] = some (some (.builtin id))) (hn : (attr == ("__class__" : Str)) = false)
    {Q : Value → Shared → Prop} (hpl : (ap.endLine == pos.line) = true)
    (h : ∀ b h' tk, h'.get? b = some (boundObj bty id x) → (∀ a o, s.heap.get? a = some o → h'.get? a = some o) → wpAny (model Γ.prog Γ.w) A (call (.ref b) []) Q NoE { s with heap := h', toks := tk }) :
    _root_.PySem.wpAt (model Γ.prog Γ.w) A (.func body env) (eval (.Call (.Attribute (.Call (.Name "super" p0) [] [] p1) attr ap) [] [] pos) env) Q NoE s := by
  have B := R.base
  have X := H.X.keeps B.keep
  obtain ⟨o, fd, ar, q1, q2, q3, q4⟩ := S.ofn
  obtain ⟨cc, oc, vs', file, tf, c1, c2, c3, c4, c5⟩ := S.code
  obtain ⟨sv, hself, rfl⟩ := hself
  have hcD : ∃ oD, s.heap.get? Γ.cA = some oD ∧ oD.data = .cls cd := by
    have hc := H.cls
    cases ho : K.lookup Γ.cA with
    | none => unfold clsIn at hc; rw [ho] at hc; cases hc
    | some o =>
      unfold clsIn at hc; rw [ho] at hc
      refine ⟨_, X _ _ ho, ?_⟩
      obtain ⟨c, dd, dt, sl⟩ := o
      cases dt with
      | cls cd' => exact congrArg _ (Option.some.inj hc)
      | _ => cases hc
  obtain ⟨oD, hD1, hD2⟩ := hcD
  rw [arm_eval_Call]
  have fin : ∀ ov s₁, wpAny (model Γ.prog Γ.w) A (calleeOf true (.Call (.Name "super" p0) [] [] p1) env ov attr) (fun fx s₂ => wpAny (model Γ.prog Γ.w) A (callWith pos fx.1 fx.2 [] []) Q NoE s₂) NoE s₁ →
      _root_.PySem.wpAt (model Γ.prog Γ.w) A (.func body env) (do standAt ap.atName; methodCall (.Call (.Name "super" p0) [] [] p1) attr ap pos env ov (([] : List Expr).length + ([] : List Keyword).length) (backTo pos (starEach [] env)) (backToKw pos (keywordEach [] env))) Q NoE s₁ := fun ov s₁ h₁ => by
    refine _root_.PySem.wpAt_of_wpAny (wpAny_bind (wpAny_standAt ?_))
    have hform : methodCallForm (([] : List Expr).length + ([] : List Keyword).length) (backTo pos (starEach [] env)) (backToKw pos (keywordEach [] env)) = true := by rfl
    have hpos : methodCallPos true (.Call (.Name "super" p0) [] [] p1) env ap pos = pure pos := by unfold methodCallPos; simp [hpl]
    unfold methodCall
    rw [hform]
    refine wpAny_bind (wpAny_holding (wpAny_mono h₁ (fun fx s₂ h₂ => ?_) fun _ _ z => z))
    exact wpAny_bind (wpAny_of_eq hpos h₂)
  refine _root_.PySem.wpAt_bind (ks_wpAt_mono ?_ fin fun _ _ z => z)
  refine ks_wpAt_super_base S.ks S.kc hn S.fu (B.keep _ _ q1) q2 q3 c1 (B.keep _ _ c2) c3 c4 c5 S.top ?_
  refine load_glob B R.fr S.ks S.glob ⟨rfl, ?_⟩
  refine load_reads R.fr hcls (by decide) ?_
  rw [q4]
  refine load_reads R.fr hself (by decide) ?_
  have hxC : x ≠ Γ.cA := by
    rintro rfl
    rw [hx] at hD1; cases hD1; cases hD2
  obtain ⟨hh, g, d, t, os⟩ := s
  refine ks_wpAny_isType_cls hD1 hD2 ⟨rfl, ?_⟩
  refine ks_wpAny_call_super hD1 hD2 hx rfl (fun c e => by cases e) (sub_acc H B.keep) (fun h' e k => ?_)
  have k0 : ∀ a o, Γ.h₀.get? a = some o → h'.get? a = some o := fun a o e => k a o (B.keep a o e)
  unfold calleeOf
  refine super_getMethod bs e (looks_opaque (H.X.keeps k0) H.opq) ((looks_clsIn (H.X.keeps k0) H.cls).andThen .now) (l := [.type "list", .type "object"]) ?_ (H.X.keeps k0) (isList_acc H k0 (k _ _ hx)) hf hxC hn ?_
  · rw [H.mro]; simp
  · refine callWith_b bs.mach (Heap.get?_push_at rfl rfl) ?_
    exact h _ _ _ (Heap.get?_push_at rfl rfl) fun a o q => Heap.get?_push_of_some _ (k a o q)
end
end Acc
end Mine

end
section
open PySem PySem.W PySem.Spec PySem.Calls PyProof.Rows
set_option Elab.async false
set_option maxRecDepth 100000
set_option linter.unusedVariables false
namespace Mine
structure FnK (Γ : Ctx) (f : Addr) (fd : FuncData) (body : List Stmt) (cl : List (Str × Addr)) : Prop where
  obj : ∃ o, Γ.h₀.get? f = some o ∧ o.data = .func fd
  body : fd.body = .stmts body
  glob : fd.globals = mainGlobals
  blt : fd.builtins = builtinsNs
  clo : fd.closure = cl
  code : Γ.h₀.CodeRec fd.code fd.qualname
  cell : ∀ x ∈ fd.scope.names, x.2 ≠ .cell
  co : fd.scope.isCoroutine = false
  gen : fd.scope.isGenerator = false
  kind : fd.scope.kind = .function
  cells : ∀ p ∈ cl, (∃ v, Γ.h₀.IsCell p.2 v) ∧ p.2 ∉ Γ.tabs
section
variable {Γ : Ctx} {A : Around} {s : Shared} {ρ : List Addr} {objs : List O}
theorem enter_code {f : Addr} {fd : FuncData} {body : List Stmt} {cl : List (Str × Addr)} {n : Nat} (F : FnK Γ f fd body cl) (hA : AOk (n + 1) A) (hlim : Γ.h₀.NoLimit)
    (B : Base Γ s) (R : ObjsRep Γ s.heap ρ objs) {vs : List Value} {kvs : List (Str × Value)} {binds : List (Str × Value)} (hbind : BindsTo s fd ⟨vs, kvs⟩ binds) (hloc : ∀ x ∈ binds, fd.scope.names.lookup x.1 = some .local)
    {loc : Loc} (hb : ∀ x d, getLo loc x = some d → (∃ v, binds.reverse.lookup x = some v ∧ VIn Γ s.heap ρ v d) ∨ (fd.scope.names.lookup x = some .free ∧ ∃ c v, cl.lookup x = some c ∧ Γ.h₀.IsCell c (some v) ∧ ∀ h ρ, VIn Γ h ρ v d)) {Q' : Value → Shared → Prop}
    (h : ∀ s₁, Rep Γ (callEnv fd s.heap.objs.size f) [s.heap.objs.size] ρ loc objs s₁ → (∀ a o, s.heap.get? a = some o → s₁.heap.get? a = some o) → (∃ h₁ tk, s₁ = { s with heap := h₁, toks := tk }) → AOk n (A.deeper (callEnv fd s.heap.objs.size f)) →
      _root_.PySem.wpAt (model Γ.prog Γ.w) (A.deeper (callEnv fd s.heap.objs.size f)) (.func body (callEnv fd s.heap.objs.size f)) (execs body (callEnv fd s.heap.objs.size f)) (fun fl s' => Q' (match fl with | .ret v => v | _ => .none) s') NoE s₁) :
    codeAny (model Γ.prog Γ.w) A (.call (.ref f) ⟨vs, kvs⟩) (fun r s' => match r with | .ok (.ret v) => Q' v s' | .ok _ => False | .error e => NoE e s') s := by
  obtain ⟨o, ho, hdata⟩ := F.obj
  refine (ks_codeAny_call_defAt (by have := hA.2.1; omega) (B.keep _ _ ho) hdata (hlim.keeps B.keep) ?_ F.body hbind F.cell hloc (fun h₁ hns hk₁ => ?_) F.co F.gen F.kind)
  · obtain ⟨c, oc, cvs, t, e1, e2, e3, e4⟩ := F.code
    exact ⟨c, oc, cvs, t, e1, B.keep _ _ e2, e3, e4⟩
  · have B1 : Base Γ { s with heap := h₁, toks := s.toks + binds.length } := B.keepAll (s' := { s with heap := h₁, toks := s.toks + binds.length }) hk₁ rfl
    have R1 : ObjsRep Γ h₁ ρ objs := R.keep (s' := { s with heap := h₁ }) hk₁
    have hcl : ∀ y, (callEnv fd s.heap.objs.size f).cells.lookup y = cl.lookup y := fun y => by
      show List.lookup y fd.closure = _
      rw [F.clo]
    have nocell : ∀ y, (callEnv fd s.heap.objs.size f).kindOf y ≠ some .cell := fun y q => by
      have q' : fd.scope.names.lookup y = some .cell := q
      rw [← lkS_eq] at q'
      exact F.cell _ (mem_of_lkS q') rfl
    have FR : FrOk Γ (callEnv fd s.heap.objs.size f) [s.heap.objs.size] h₁ ρ loc := by
      refine ⟨F.kind, F.glob, F.blt, ⟨_, hns⟩, List.mem_singleton.mpr rfl, fun y q => absurd q (nocell y), fun y c q => ?_, fun y z c q => absurd q (nocell y), fun a ha => ?_, fun y d hy => ?_⟩
      · rw [hcl] at q
        obtain ⟨⟨v, oc, e1, e2⟩, e3⟩ := F.cells _ (mem_of_lk q)
        have hs := B.keep _ _ e1
        refine ⟨fun z => ?_, fun z => ?_, e3, v, oc, hk₁ _ _ hs, e2⟩
        · have z' : c = s.heap.objs.size := z
          subst z'
          rw [fresh_none] at hs; cases hs
        · have := (R.off c z).1
          rw [show Γ.h₀.get? c = some oc from e1] at this; cases this
      · rw [List.mem_singleton.mp ha]
        obtain ⟨f1, f2, f3⟩ := fresh_of B R (fresh_none s.heap)
        obtain ⟨oL, _, _, hL, _⟩ := hns
        exact ⟨f1, f2, f3, oL, hL⟩
      · rcases hb y d hy with ⟨v, hv, hi⟩ | ⟨hf, c, v, e1, ⟨oc, e2, e3⟩, hi⟩
        · refine ⟨v, .inl ⟨?_, _, hns, hv⟩, hi.mono (List.prefix_refl _) fun a o e _ => hk₁ a o e⟩
          have hm : ∀ l : List (Str × Value), l.lookup y = some v → (y, v) ∈ l := by
            intro l
            induction l with
            | nil => intro q; cases q
            | cons p r ih =>
              intro q
              obtain ⟨z, w⟩ := p
              rw [List.lookup_cons] at q
              by_cases e : y = z
              · subst e; simp at q; subst q; exact .head _
              · have : (y == z) = false := by simpa using e
                rw [this] at q; exact .tail _ (ih q)
          exact hloc _ (List.mem_reverse.mp (hm _ hv))
        · exact ⟨v, .inr ⟨.inr hf, c, (hcl y).trans e1, oc, hk₁ _ _ (B.keep _ _ e2), e3⟩, hi _ _⟩
    exact ks_wpAt_mono (h _ ⟨B1, FR, R1⟩ hk₁ ⟨_, _, rfl⟩ (hA.deeper _)) (fun fl s' q => by cases fl <;> exact q) fun _ _ q => q.elim
theorem enter_fn {f : Addr} {fd : FuncData} {body : List Stmt} {cl : List (Str × Addr)} {n : Nat} (F : FnK Γ f fd body cl) (hA : AOk (n + 1) A) (hlim : Γ.h₀.NoLimit)
    (B : Base Γ s) (R : ObjsRep Γ s.heap ρ objs) {vs : List Value} {kvs : List (Str × Value)} {binds : List (Str × Value)} (hbind : BindsTo s fd ⟨vs, kvs⟩ binds) (hloc : ∀ x ∈ binds, fd.scope.names.lookup x.1 = some .local)
    {loc : Loc} (hb : ∀ x d, getLo loc x = some d → (∃ v, binds.reverse.lookup x = some v ∧ VIn Γ s.heap ρ v d) ∨ (fd.scope.names.lookup x = some .free ∧ ∃ c v, cl.lookup x = some c ∧ Γ.h₀.IsCell c (some v) ∧ ∀ h ρ, VIn Γ h ρ v d)) {Q' : Value → Shared → Prop}
    (h : ∀ s₁, Rep Γ (callEnv fd s.heap.objs.size f) [s.heap.objs.size] ρ loc objs s₁ → (∀ a o, s.heap.get? a = some o → s₁.heap.get? a = some o) → (∃ h₁ tk, s₁ = { s with heap := h₁, toks := tk }) → AOk n (A.deeper (callEnv fd s.heap.objs.size f)) →
      _root_.PySem.wpAt (model Γ.prog Γ.w) (A.deeper (callEnv fd s.heap.objs.size f)) (.func body (callEnv fd s.heap.objs.size f)) (execs body (callEnv fd s.heap.objs.size f)) (fun fl s' => Q' (match fl with | .ret v => v | _ => .none) s') NoE s₁) :
    wpAny (model Γ.prog Γ.w) A (call (.ref f) vs kvs) Q' NoE s := wpAny_call (enter_code F hA hlim B R hbind hloc hb h)
end
namespace Acc
section
variable {Γ : Ctx} {A : Around} {s : Shared} {x dx : Addr} {ρ : List Addr} {objs : List O} {K : Frag} {cd : ClassData} {f : Addr}
set_option maxHeartbeats 1000000
structure PartF (Γ : Ctx) (f : Addr) (cc : Addr) (fd : FuncData) (rp : Pos) (p0 : Pos) (p1 : Pos) (ap : Pos) (pos : Pos) : Prop where
  f0 : FnK Γ f fd [.Return (some (.Call (.Attribute (.Call (.Name "super" p0) [] [] p1) "__len__" ap) [] [] pos)) rp] [(Str.ofString "__class__", cc)]
  f1 : (∀ L, EnvSup Γ (callEnv fd L f) f)
  f2 : (ap.endLine == pos.line) = true
  f3 : fd.scope.names.lookup (Str.ofString "self") = some .local
  f4 : ∀ v, bindArgs fd ⟨[v], []⟩ = pure [(Str.ofString "self", v)]
/-- what the method part_count is -/
structure PartCount (Γ : Ctx) (f : Addr) (cc : Addr) : Prop where
  fn : ∃ fd rp p0 p1 ap pos, PartF Γ f cc fd rp p0 p1 ap pos
  cell : Γ.h₀.IsCell cc (some (.ref Γ.cA))
theorem part_count_ok (H : ClsOk Γ K cd) {cc : Addr} (P : PartCount Γ f cc) {m : Nat} (hA : AOk (m + 1) A) (hlim : Γ.h₀.NoLimit) (B : Base Γ s) (R : ObjsRep Γ s.heap ρ objs) {n : Nat} {l : List D} {d : Nat} (hx : ρ[n]? = some x) (ho : objs[n]? = some (.acc l d))
    (hl : l.length ≤ 1000) {Q : Post} {Q' : Value → Shared → Prop} (hq : Q (.int l.length) objs) (hd : Done Γ ρ s Q Q') : wpAny (model Γ.prog Γ.w) A (call (.ref f) [.ref x]) Q' NoE s := by
  obtain ⟨⟨fd, rp, p0, p1, ap, pos, F, S, hpl, hks, hbind⟩, hcell⟩ := P
  obtain ⟨vs, nn, dx, hxo, hdx, r⟩ := R.rel n x _ hx ho
  refine enter_fn F hA hlim B R (loc := [(Str.ofString "self", some (.obj n)), (Str.ofString "__class__", some (.fn (.ref Γ.cA)))]) (BindsTo.of_eq (hbind _)) (fun y hy => by rw [List.mem_singleton.mp hy]; exact hks) (fun y d' hy => ?_) fun s₁ R₁ k₁ e₁ hA₁ => ?_
  · unfold getLo at hy
    split at hy
    · rename_i e; subst e; cases hy
      exact .inl ⟨_, rfl, .obj hx⟩
    · unfold getLo at hy
      split at hy
      · rename_i e; subst e; cases hy
        exact .inr ⟨(S 0).kc, cc, _, rfl, hcell, fun _ _ => .fn _⟩
      · cases hy
  · obtain ⟨v1, hr1, hi1⟩ := R₁.fr.loc (Str.ofString "self") (.obj n) (by simp [getLo])
    obtain ⟨v2, hr2, hi2⟩ := R₁.fr.loc (Str.ofString "__class__") (.fn (.ref Γ.cA)) (by simp [getLo, ofString_eq])
    cases hi2
    have hv1 : v1 = .ref x := by
      obtain ⟨_, rfl, e⟩ := hi1.obj_inv; rw [hx] at e; cases e; rfl
    refine ks_wpAt_execs_cons (ks_wpAt_Return_some ?_)
    obtain ⟨h₁, tk₁, rfl⟩ := e₁
    refine super_eval H (S _) R₁ ⟨v1, hr1, hv1⟩ hr2 (k₁ _ _ hxo) base_len (by rfl) (by decide) hpl fun b h' tk hb k => ?_
    have k2 : ∀ a o, s.heap.get? a = some o → h'.get? a = some o := fun a o e => k a o (k₁ a o e)
    refine call_b base_len.mach hb (fun Q' E' q => chk_len q) quiet_len PySem.F.entry_list_len fun A' P E' hP => ?_
    refine tree_len (k2 _ _ hxo) (hP _ _ ?_)
    have := hd (.int l.length) objs ρ (.int vs.toArray.size tk) { s with heap := h', toks := tk + 1 } hq (B.keepAll k2 rfl) (R.keep (s' := { s with heap := h', toks := tk + 1 }) k2) (Ext.of_keep k2 rfl) (by rw [List.size_toArray, r.length]; exact .int _ _)
    exact this
end
end Acc
end Mine

end
section
open PySem PySem.W PySem.Spec PySem.Calls PyProof.Rows
set_option Elab.async false
set_option maxRecDepth 100000
set_option linter.unusedVariables false
namespace Mine
section
variable {Γ : Ctx} {P : PCtx} {A : Around} {env : Env} {n : Nat}
theorem Orc.am0 (O : Orc Γ n P) (hA : AOk n A) (hsc : env.scope.names = P.sc) (nd : ∀ x k, lkS P.sc x = some k → (x == ("__debug__" : Str)) = false ∧ (x == ("__classdict__" : Str)) = false) (hE : P.E env) : Am0 Γ P env A :=
  ⟨hsc, O.G, O.C _ hA, O.M _, hA.1, by have := hA.2.2.1; omega, O.oB _ hA, O.oK _ hA, O.oJ _ hA, nd, hE⟩
theorem Orc.amb (O : Orc Γ n P) (hA : AOk n A) (hsc : env.scope.names = P.sc) (nd : ∀ x k, lkS P.sc x = some k → (x == ("__debug__" : Str)) = false ∧ (x == ("__classdict__" : Str)) = false) (hE : P.E env) : Amb Γ P env A :=
  ⟨O.am0 hA hsc nd hE, O.oX _ _ hA (O.am0 hA hsc nd hE), O.oY _ _ hA (O.am0 hA hsc nd hE)⟩
noncomputable def ndOk (l : List (Str × NameKind)) : Bool := l.all fun x => !(x.1 == ("__debug__" : Str)) && !(x.1 == ("__classdict__" : Str))
theorem nd_of {l : List (Str × NameKind)} (h : ndOk l = true) : ∀ x k, lkS l x = some k → (x == ("__debug__" : Str)) = false ∧ (x == ("__classdict__" : Str)) = false := fun x k e => by
  have := List.all_eq_true.mp h _ (mem_of_lkS e)
  simpa using this
end
namespace Acc
section
variable {Γ : Ctx} {P : PCtx} {A : Around} {s : Shared} {x dx : Addr} {ρ : List Addr} {objs : List O} {K : Frag} {cd : ClassData} {f : Addr}
set_option maxHeartbeats 1000000
noncomputable def sigPop : Manifest.Signature := ⟨.positional, "list.pop", "pop", .self, [⟨"index", .posOnly, false⟩]⟩
theorem sig_pop : Manifest.signature? "list.pop" = some sigPop := by kernel_rfl
theorem sig_chk (x : Addr) : Bind.checkArgs "list.pop" { sigPop with full := s!"{(Str.ofString "_Accumulator").toString}.{Bind.lastOf "list.pop"}" } ⟨[.ref x], []⟩ = pure () := by
  first | rfl | kernel_rfl
theorem chk_pop (H : ClsOk Γ K cd) (hqn : cd.qualname = Str.ofString "_Accumulator") (ht : typeIn K (.ref Γ.cA) = some (.type "type")) (k : ∀ a o, Γ.h₀.get? a = some o → s.heap.get? a = some o) {vs : Array Value} {n : Nat} (hx : s.heap.get? x = some ⟨.ref Γ.cA, some dx, .seq vs n, #[]⟩) {Q' : Unit → Shared → Prop} {E' : Value → Shared → Prop} (q : Q' () s) :
    wpAny (model Γ.prog Γ.w) A (checkBoundCall "list.pop" ⟨[.ref x], []⟩) Q' E' s := by
  have X := H.X.keeps k
  unfold checkBoundCall
  rw [sig_pop]
  dsimp only
  rw [show builtinKind "list.pop" = some .method by decide +kernel]
  dsimp only
  rw [if_neg (by decide)]
  refine wpAny_bind ((isMod_acc H k hx).here ?_)
  rw [if_neg (by decide +kernel)]
  obtain ⟨hh, g, d, t, os⟩ := s
  refine wpAny_bind (m := isType (.ref x)) (ks_wpAny_isType_inst hx (fun c e => by cases e) ?_)
  rw [if_neg (by decide)]
  have T : Looks (model Γ.prog Γ.w) hh (typeOf (.ref x)) (.ref Γ.cA) := (Looks.ld hx).andThen .now
  refine wpAny_bind (T.at ?_)
  dsimp only
  refine wpAny_bind ((looks_clsIn X H.cls).at ?_)
  refine wpAny_bind ((looks_typeIn X ht).at ?_)
  rw [if_pos (by rfl)]
  rw [hqn]
  exact wpAny_of_eq (sig_chk x) q
end
end Acc
end Mine

end
section
open PySem PySem.W PySem.Spec PySem.Calls PyProof.Rows
set_option Elab.async false
set_option maxRecDepth 100000
set_option linter.unusedVariables false
namespace Mine
theorem nil_or_snoc {α : Type} (l : List α) : l = [] ∨ ∃ m a, l = m ++ [a] := by
  rcases List.eq_nil_or_concat l with h | ⟨m, a, h⟩
  · exact .inl h
  · exact .inr ⟨m, a, by rw [h, List.concat_eq_append]⟩
theorem VAll.snoc {Γ : Ctx} {h : Heap} {ρ : List Addr} {d : D} : ∀ {ds : List D} {vs : List Value}, VAll Γ h ρ vs (ds ++ [d]) → ∃ vs' v, vs = vs' ++ [v] ∧ VAll Γ h ρ vs' ds ∧ VIn Γ h ρ v d := by
  intro ds
  induction ds with
  | nil => intro vs H; obtain ⟨v, rfl, h1⟩ := VAll.inv1 H; exact ⟨[], v, rfl, .nil, h1⟩
  | cons e ds ih =>
    intro vs H
    obtain ⟨u, r, rfl, h1, h2⟩ := VAll.cons_inv H
    obtain ⟨vs', v, rfl, h3, h4⟩ := ih h2
    exact ⟨u :: vs', v, rfl, .cons h1 h3, h4⟩
namespace Acc
section
variable {Γ : Ctx} {P : PCtx} {A : Around} {s : Shared} {x dx : Addr} {ρ : List Addr} {objs : List O} {K : Frag} {cd : ClassData} {f : Addr}
set_option maxHeartbeats 1000000
structure PopF (Γ : Ctx) (P : PCtx) (f : Addr) (cc : Addr) (fd : FuncData) (q1 : Pos) (q2 : Pos) (q3 : Pos) (q4 : Pos) (q5 : Pos) (k4 : Nat) (k6 : Nat) (k7 : Nat) (q6 : Pos) (q7 : Pos) (q8 : Pos) (rp1 : Pos) (ip : Pos) (rp2 : Pos) (p0 : Pos) (p1 : Pos) (ap : Pos) (pos : Pos) : Prop where
  f0 : FnK Γ f fd [.If (.Compare (.Call (.Attribute (.Name "self" q1) "part_count" q2) [] [] q3) [.Eq] [.Constant (.int 0) k4 q4] q5) [.Return (some (.Tuple [.Constant (.str "") k6 q6, .Constant (.str "") k7 q7] 0 q8)) rp1] [] ip,       .Return (some (.Call (.Attribute (.Call (.Name "super" p0) [] [] p1) "pop" ap) [] [] pos)) rp2] [(Str.ofString "__class__", cc)]
  f1 : (∀ L, EnvSup Γ (callEnv fd L f) f)
  f2 : (ap.endLine == pos.line) = true
  f3 : (q2.endLine == q3.line) = true
  f4 : fd.scope.names.lookup (Str.ofString "self") = some .local
  f5 : (∀ v, bindArgs fd ⟨[v], []⟩ = pure [(Str.ofString "self", v)])
  f6 : fd.scope.names = P.sc
  f7 : ndOk P.sc = true
/-- what the method pop is -/
structure PopFn (Γ : Ctx) (P : PCtx) (f : Addr) (cc : Addr) : Prop where
  fn : ∃ fd q1 q2 q3 q4 q5 k4 k6 k7 q6 q7 q8 rp1 ip rp2 p0 p1 ap pos, PopF Γ P f cc fd q1 q2 q3 q4 q5 k4 k6 k7 q6 q7 q8 rp1 ip rp2 p0 p1 ap pos
  cell : Γ.h₀.IsCell cc (some (.ref Γ.cA))
theorem pop_ok (H : ClsOk Γ K cd) (hqn : cd.qualname = Str.ofString "_Accumulator") (ht : typeIn K (.ref Γ.cA) = some (.type "type")) {cc pc : Addr} (F0 : PopFn Γ P f cc) {m : Nat} (OC : Orc Γ m P) (hE : ∀ env, P.E env) (hM : P.M (Str.ofString "part_count") = some (.ref pc))
    (hC : ∀ n l d (objs : List O) Q, objs[n]? = some (.acc l d) → objs[d]? = some .idict → l.length ≤ 1000 → Q (.int l.length) objs → P.C pc [.obj n] [] objs Q)
    (hA : AOk (m + 1) A) (hlim : Γ.h₀.NoLimit) (B : Base Γ s) (R : ObjsRep Γ s.heap ρ objs) {n : Nat} {l : List D} {d : Nat} (hx : ρ[n]? = some x) (ho : objs[n]? = some (.acc l d)) (hod : objs[d]? = some .idict)
    (hl : l.length ≤ 1000) {Q : Post} {Q' : Value → Shared → Prop} (hq : match l.getLast? with | some v => Q v (objs.set n (.acc l.dropLast d)) | none => Q (.tup [.str "", .str ""]) objs) (hd : Done Γ ρ s Q Q') : wpAny (model Γ.prog Γ.w) A (call (.ref f) [.ref x]) Q' NoE s := by
  refine hide fun G9 hG9 => ?_
  obtain ⟨⟨fd, q1, q2, q3, q4, q5, k4, k6, k7, q6, q7, q8, rp1, ip, rp2, p0, p1, ap, pos, F, S, hpl, hpl2, hks, hbind, hsc, hnd⟩, hcell⟩ := F0
  refine hG9 ?_; clear hG9
  refine enter_fn F hA hlim B R (loc := [(Str.ofString "self", some (.obj n)), (Str.ofString "__class__", some (.fn (.ref Γ.cA)))]) (BindsTo.of_eq (hbind _)) (fun y hy => by rw [List.mem_singleton.mp hy]; exact hks) (fun y d' hy => ?_) fun s₁ R₁ k₁ e₁ hA₁ => ?_
  · unfold getLo at hy
    split at hy
    · rename_i e; subst e; cases hy
      exact .inl ⟨_, rfl, .obj hx⟩
    · unfold getLo at hy
      split at hy
      · rename_i e; subst e; cases hy
        exact .inr ⟨(S 0).kc, cc, _, rfl, hcell, fun _ _ => .fn _⟩
      · cases hy
  · have am : Amb Γ P (callEnv fd s.heap.objs.size f) (A.deeper (callEnv fd s.heap.objs.size f)) := OC.amb hA₁ hsc (nd_of hnd) (hE _)
    have hself : nameF P [(Str.ofString "self", some (.obj n)), (Str.ofString "__class__", some (.fn (.ref Γ.cA)))] (Str.ofString "self") = some (.obj n) := by
      unfold nameF
      rw [lkS_eq, ← hsc, hks]
      simp [getLo]
    have x₁ : Ext Γ.tabs ρ s ρ s₁ := by
      refine hide fun G9 hG9 => ?_
      obtain ⟨h₁, tk, rfl⟩ := e₁
      refine hG9 ?_; clear hG9
      exact Ext.of_keep k₁ rfl
    refine ks_wpAt_execs_cons (ks_wpAt_If (_root_.PySem.wpAt_of_wpAny (WT_sound am _ _ objs (fun b o1 => o1 = objs ∧ b = decide (l.length = 0)) s₁ ρ _ R₁ ?_ fun b o2 ρ₂ s₂ hb R₂ x₂ => ?_)))
    · refine r_tcmp rfl (r_meth ?_ (r_name hself ?_))
      · exact ⟨fun _ _ _ => rfl, by rw [hpl2]; rfl⟩
      · show (match methV P (.obj n) objs (Str.ofString "part_count") with | some v => _ | none => False)
        have hv : methV P (.obj n) objs (Str.ofString "part_count") = some (.ref pc) := by
          unfold methV
          simp only [ho, hod]
          exact hM
        rw [hv]
        refine r_esn (hC n l d objs _ ho hod hl (r_int (c_eqi (t_bool ⟨rfl, ?_⟩))))
        by_cases h : l.length = 0 <;> simp [h]
    · refine hide fun G9 hG9 => ?_
      obtain ⟨rfl, rfl⟩ := hb
      refine hG9 ?_; clear hG9
      have hx₂ : ρ₂[n]? = some x := prefix_get x₂.pre hx
      rcases nil_or_snoc l with rfl | ⟨l', v, rfl⟩
      · skip
        simp only [List.length_nil, decide_true, if_true]
        refine ks_wpAt_execs_cons (_root_.PySem.wpAt_of_wpAny (wpAny_Return_some (WE_sound am _ _ _ (fun v o3 => v = .tup [.str "", .str ""] ∧ o3 = o2) s₂ ρ₂ _ R₂ ?_ fun v o3 ρ₃ vv s₃ hv R₃ x₃ hvv => ?_)))
        · exact r_tuple rfl (r_esc (r_str (r_esc (r_str (r_esn ⟨by decide, rfl, rfl⟩)))))
        · refine hide fun G9 hG9 => ?_
          obtain ⟨rfl, rfl⟩ := hv
          refine hG9 ?_; clear hG9
          exact hd _ _ ρ₃ vv s₃ hq R₃.base R₃.objs ((x₁.trans x₂).trans x₃) hvv
      · skip
        have hne : decide ((l' ++ [v]).length = 0) = false := by simp
        rw [hne]
        simp only [Bool.false_eq_true, if_false]
        refine _root_.PySem.wpAt_of_wpAny (wpAny_execs_nil ?_)
        refine ks_wpAt_execs_cons (ks_wpAt_Return_some ?_)
        refine hide fun G9 hG9 => ?_
        obtain ⟨v1, hr1, hi1⟩ := R₂.fr.loc (Str.ofString "self") (.obj n) (by simp [getLo])
        obtain ⟨v2, hr2, hi2⟩ := R₂.fr.loc (Str.ofString "__class__") (.fn (.ref Γ.cA)) (by simp [getLo, ofString_eq])
        refine hG9 ?_; clear hG9
        cases hi2
        have hv1 : v1 = .ref x := by
          obtain ⟨_, rfl, e⟩ := hi1.obj_inv; rw [hx₂] at e; cases e; rfl
        refine hide fun G9 hG9 => ?_
        obtain ⟨vs, nn, dx, hxo, hdx, r⟩ := R₂.objs.rel n x _ hx₂ ho
        refine hG9 ?_; clear hG9
        refine super_eval H (S _) R₂ ⟨v1, hr1, hv1⟩ hr2 hxo base_pop (by rfl) (by decide) hpl fun b h' tk hb k => ?_
        have k0 : ∀ a o, Γ.h₀.get? a = some o → h'.get? a = some o := fun a o e => k a o (R₂.base.keep a o e)
        refine call_b base_pop.mach hb (fun Q' E' q => chk_pop H hqn ht k0 (k _ _ hxo) q) quiet_pop PySem.F.entry_list_pop fun A' P' E' hP => ?_
        refine hide fun G9 hG9 => ?_
        obtain ⟨vs', vl, rfl, r', hvl⟩ := r.snoc
        refine hG9 ?_; clear hG9
        have hlen := r'.length
        refine tree_pop (k _ _ hxo) (by simp at hl; omega) fun h'' n' hx'' hs => hP _ _ ?_
        have R₃ : Rep Γ (callEnv fd s.heap.objs.size f) [s.heap.objs.size] ρ₂ _ o2 { s₂ with heap := h', toks := tk } := R₂.keepAll k rfl rfl
        have x₃ : Ext Γ.tabs ρ₂ s₂ ρ₂ { s₂ with heap := h', toks := tk } := Ext.of_keep k rfl
        have hd₃ : Done Γ ρ₂ { s₂ with heap := h', toks := tk } Q Q' := fun d o' ρ' v s' hq b o x' hv => hd d o' ρ' v s' hq b o (((x₁.trans x₂).trans x₃).trans x') hv
        simp only [List.getLast?_append, List.getLast?_singleton, Option.some_or, List.dropLast_concat] at hq
        exact hd₃.change (o' := .acc l' d) R₃.base R₃.objs hx₂ ho tk hs hx'' (fun T x' => ⟨vs', n', dx, hx'', prefix_get x'.pre hdx, (r'.ext x₃).ext x'⟩) (hvl.ext x₃) hq
end
end Acc
end Mine

end
section
open PySem PySem.W PySem.Spec PySem.Calls PyProof.Rows
set_option Elab.async false
set_option maxRecDepth 100000
set_option linter.unusedVariables false
namespace Mine
section
variable {Γ : Ctx} {ρ : List Addr} {s : Shared} {objs : List O}
theorem change_ext (B : Base Γ s) (R : ObjsRep Γ s.heap ρ objs) {n : Nat} {a : Addr} {o₀ o' : O} (hn : ρ[n]? = some a) (he : objs[n]? = some o₀) {h' : Heap} (k : Nat) (kp : ∀ b o, b ≠ a → s.heap.get? b = some o → h'.get? b = some o) {ob : Obj} (hob : h'.get? a = some ob)
    (ho' : ∀ T, Ext T ρ s ρ { s with heap := h', toks := k } → OIn Γ h' ρ a o') : Base Γ { s with heap := h', toks := k } ∧ ObjsRep Γ h' ρ (objs.set n o') ∧ Ext Γ.tabs ρ s ρ { s with heap := h', toks := k } := by
  obtain ⟨ob₀, e₀, hi⟩ := (R.rel n a o₀ hn he).get
  have ha := List.mem_of_getElem? hn
  have x : ∀ T, Ext T ρ s ρ { s with heap := h', toks := k } := fun T => by
    refine ⟨List.prefix_refl _, fun b hb => .inl hb, fun b o e ht hr => kp b o (fun q => hr (q ▸ ha)) e, fun b o e hi' => kp b o (fun q => ?_) e, fun b o e => ?_, rfl⟩
    · subst q; rw [e₀] at e; cases e; exact hi hi'
    · by_cases q : b = a
      · subst q; exact ⟨_, hob⟩
      · exact ⟨o, kp b o q e⟩
  refine ⟨⟨fun b o e => kp b o (fun q => ?_) (B.keep b o e), Γ.tiok _ _ B.ti fun b o e r => kp b o (fun q => ?_) e, B.gens⟩, ⟨by rw [List.length_set]; exact R.len, R.nodup, R.off, fun i b o e1 e2 => ?_⟩, x _⟩
  · subst q; rw [(R.off b ha).1] at e; cases e
  · subst q
    rcases r with r | r
    · exact (R.off b ha).2 r
    · rw [e₀] at e; cases e; exact hi r
  · by_cases q : i = n
    · subst q
      rw [hn] at e1; cases e1
      have hlt : i < objs.length := by rw [← R.len]; exact (List.getElem?_eq_some_iff.mp hn).1
      rw [List.getElem?_set_self hlt] at e2
      cases e2; exact ho' _ (x [])
    · rw [List.getElem?_set_ne (Ne.symm q)] at e2
      refine (R.rel i b o e1 e2).ext (x []) fun ob h => kp b ob (fun z => q ?_) h
      subst z
      exact nodup_inj R.nodup e1 hn
end
namespace Acc
theorem store_list : StoreFacts "list" [.type "list", .type "object"] "object.__setattr__" "object" where
  mro := by kernel_rfl
  slot := .of (owner := "object") (n := "__setattr__") (by rw [typeLookup_type, builtinLookup_eq_fast]; kernel_rfl) (by decide +kernel) (by decide +kernel) (by decide +kernel)
    (by first | exact .inl (by decide +kernel) | exact .inr (by decide +kernel)) (by rw [isSubtype_type]; kernel_rfl)
  entry := PySem.F.entry_object_sa
  kind := by decide +kernel
  split := by decide +kernel
  hasOwner := by decide +kernel
  args := fun a b c => by unfold argsOk; kernel_rfl
  passes := fun self => by kernel_rfl
theorem lk_init_size : typeLookup (.type "list") (Str.ofString "_initial_size") = pure none := by rw [typeLookup_type, builtinLookup_eq_fast]; kernel_rfl
section
variable {prog : Program} {w : World} {A : Around} {K : Frag} {C : Addr} {R : Result → Shared → Prop} {h : Heap} {g : Array GenState} {d : Drawn} {t : Nat} {os : OsState}
set_option maxHeartbeats 2000000
noncomputable abbrev accObj (C dx : Addr) : Obj := { cls := .ref C, dict := some dx, data := .seq #[] }
structure LMakes (M : Model) (h : Heap) (C : Addr) : Prop where
  obj : ∃ oc od cd sl, h.get? C = some ⟨oc, od, .cls cd, sl⟩ ∧ cd.hasDel = false ∧ cd.mro.isEmpty = false
  made : Looks M h (Bind.madeBy (.ref C)) (some "list.__new__")
  base : Looks M h (Bind.staticBase (.ref C)) (.ref C)
  self : Looks M h (isSubtype (.ref C) (.ref C)) true
  top : Looks M h (isSubtype (.ref C) (.type "list")) true
  call : Looks M h (specialOf (.ref C) "__call__") (some (.builtin "type.__call__"))
  typ : Looks M h (isInstance (.ref C) (.type "type")) true
noncomputable def lmakesIn (K : Frag) (C : Addr) : Prop := ∃ oc od cd sl, K.lookup C = some ⟨oc, od, .cls cd, sl⟩ ∧
    (!cd.hasDel && (sl.toList[4]?).join == some (.builtin "list.__new__") && !cd.mro.isEmpty && cd.mro.contains (.ref C) && cd.mro.contains (.type "list") &&
      specialIn K (.ref C) "__call__" == some (some (.builtin "type.__call__")) && instIn K (.ref C) (.type "type") == some true) = true
theorem lmakes_of {M : Model} (X : K.In h) (e : lmakesIn K C) : LMakes M h C := by
  obtain ⟨oc, od, cd, sl, ho, e⟩ := e
  simp only [Bool.and_eq_true, Bool.not_eq_true', beq_iff_eq] at e
  obtain ⟨⟨⟨⟨⟨⟨e2, e3⟩, e4⟩, e5⟩, e6⟩, e7⟩, e8⟩ := e
  have hc : clsIn K C = some cd := by unfold clsIn; rw [ho]
  have hm : Looks M h (mroOf (.ref C)) cd.mro := (looks_clsIn X hc).andThen .now
  obtain ⟨c, l, hl⟩ : ∃ c l, cd.mro = c :: l := by cases q : cd.mro with | nil => rw [q] at e4; cases e4 | cons c l => exact ⟨c, l, rfl⟩
  have made : Looks M h (Bind.madeBy (.ref C)) (some "list.__new__") := by
    intro A Q E s k q
    unfold Bind.madeBy
    refine wpAny_bind (hm A _ E s k ?_)
    rw [hl, List.forIn_cons]
    refine wpAny_bind (wpAny_bind (wpAny_bind (wpAny_bind (wpAny_loadPart (k _ _ (X _ _ ho)) (wpAny_pure ?_)))))
    dsimp only
    rw [← Array.getElem?_toList, e3]
    exact wpAny_pure (wpAny_pure (wpAny_pure q))
  refine ⟨⟨oc, od, cd, sl, X _ _ ho, e2, e4⟩, made, ?_, looks_mroIn X ?_, looks_mroIn X ?_, looks_specialIn X e7, looks_instIn X e8⟩
  · intro A Q E s k q
    unfold Bind.staticBase
    refine wpAny_bind (hm A _ E s k ?_)
    rw [hl, List.forIn_cons]
    exact wpAny_bind (wpAny_bind (wpAny_bind (made A _ E s k (wpAny_pure (wpAny_pure (wpAny_pure q))))))
  · unfold mroIn; rw [hc, Option.bind_some, if_neg (by rw [e4]; decide), e5]
  · unfold mroIn; rw [hc, Option.bind_some, if_neg (by rw [e4]; decide), e6]
theorem lnew_kind : builtinKind "list.__new__" = some .builtinFn := by decide +kernel
theorem lnew_split : splitId "list.__new__" = some ("list", "__new__") := by decide +kernel
noncomputable def sigNew : Manifest.Signature := ⟨.any, "list", "list", .cls, [⟨"args", .varPos, false⟩, ⟨"kwargs", .varKw, false⟩]⟩
theorem lnew_sig : Manifest.signature? "list.__new__" = some sigNew := by kernel_rfl
theorem lnew_chk (C : Addr) : Bind.checkArgs "list.__new__" sigNew ⟨[.ref C], []⟩ = pure () := by kernel_rfl
theorem list_new {init : Value} (Y : LMakes (model prog w) h C)
    (hq : R (.ok (.ret (.ref (h.objs.size + 1)))) ⟨(h.push emptyDict).push (accObj C h.objs.size), g, d, t, os⟩) :
    codeAny (model prog w) A (.call (.builtin "list.__new__") ⟨[.ref C], []⟩) R ⟨h, g, d, t, os⟩ := by
  obtain ⟨⟨oc, od, cd, sl, hC, e2, e4⟩, made, base, self, top, call, typ⟩ := Y
  refine codeAny_call_builtin_code (Code.quiet_builtin _ (by decide +kernel)) ?_
  simp only [checkBuiltinCall, lnew_kind, lnew_split, lnew_sig, lnew_chk]
  repeat (first | simp only [Option.map_some, bne_self_eq_false, Bool.false_eq_true, if_false, Bool.not_true, Bool.not_false] | with_reducible refine ks_wpAny_isType_cls hC rfl ?_ | lk)
  refine codeAny_builtin_stack PySem.F.entry_list_new rfl fun p st => ?_
  dsimp only
  rw [owner_list_new]
  repeat (first | simp only [Bool.false_eq_true, if_false, Bool.not_true, Bool.not_false] | with_reducible refine ks_wpAny_isType_cls hC rfl ?_ | with_reducible refine Looks.at top ?_ | with_reducible refine wpAny_bind ?_ | with_reducible refine wpAny_pure ?_)
  refine KFB.if_not rfl ?_
  refine wpAny_bind (wpAny_newObj_type ?_ (by size_fits))
  dsimp only
  refine wpAny_bind ?_
  show wpAny _ _ (newObjAsIs _ _ _) _ _ _
  unfold newObjAsIs classHasDel
  refine wpAny_bind (wpAny_alloc (wpAny_bind (wpAny_bind (wpAny_load (Heap.get?_push_of_some _ (Heap.get?_push_of_some _ hC)) (wpAny_pure ?_)))))
  rw [e2]
  refine wpAny_pure (wpAny_pure ?_)
  show R _ _
  rw [Heap.size_push]
  exact hq
theorem lmake {init : Value} (Y : LMakes (model prog w) h C) (hi : Looks (model prog w) h (typeLookup (.ref C) "__init__") (some init))
    (hb : ∀ self, Looks (model prog w) h (bindSpecial init self) (init, [self]))
    (hq : codeAny (model prog w) (A.under (.builtin "type.__call__" ⟨[.ref C], []⟩)) (.call init ⟨[.ref (h.objs.size + 1)], []⟩) (InitBack (h.objs.size + 1) R) ⟨(h.push emptyDict).push (accObj C h.objs.size), g, d, t, os⟩) :
    codeAny (model prog w) A (.call (.ref C) ⟨[], []⟩) R ⟨h, g, d, t, os⟩ := by
  have Y' := Y
  obtain ⟨⟨oc, od, cd, sl, hC, e2, e4⟩, made, base, self, top, call, typ⟩ := Y
  refine codeAny_of_tree ?_
  show wpAny _ _ (callAny (.ref C) _) _ _ _
  refine nd_load hC ?_
  show wpAny _ _ (callAny.viaDunder (.ref C) _) _ _ _
  unfold callAny.viaDunder
  refine wpAny_bind (call.at ?_)
  dsimp only
  rw [tc_bind]
  refine wpAny_bind (wpAny_pure (wpAny_bind (wpAny_pure ?_)))
  refine wpAny_pure (a := Fin.again (.call (.builtin "type.__call__") ⟨[.ref C], []⟩)) (And.intro rfl ?_)
  refine codeAny_call_builtin_at (Code.quiet_builtin _ (by decide +kernel)) entry_typeCall (check_slot tc_kind tc_split typ (tc_args _ _ _) ?_)
  unfold Builtin.«type.__call__»
  have hm : Looks (model prog w) h (mroOf (.ref C)) cd.mro := ((Looks.ld (part := none) hC).andThen .now).andThen .now
  repeat (first | simp only [e4, Bool.false_eq_true, if_false] | with_reducible refine wpAny_call ?_ | lk)
  refine list_new (init := init) Y' ?_
  have k : ∀ b o, h.get? b = some o → ((h.push emptyDict).push (accObj C h.objs.size)).get? b = some o := fun b o e => Heap.get?_push_of_some _ (Heap.get?_push_of_some _ e)
  have hx : ((h.push emptyDict).push (accObj C h.objs.size)).get? (h.objs.size + 1) = some (accObj C h.objs.size) := by heap_get
  have t1 : Looks (model prog w) ((h.push emptyDict).push (accObj C h.objs.size)) (typeOf (.ref (h.objs.size + 1))) (.ref C) := (Looks.ld hx).andThen .now
  have s1 := self.keeps k
  have i1 := hi.keeps k
  have b1 := (hb (.ref (h.objs.size + 1))).keeps k
  unfold isInstance callSpecial? specialOf
  repeat (first | with_reducible refine wpAny_call ?_ | lk)
  refine codeAny_mono hq fun r s' z => ?_
  rcases r with e | (v | _ | _ | _) <;> first | exact z | exact z.elim | skip
  obtain ⟨rfl, z⟩ := z
  exact wpAny_pure (wpAny_pure z)
end
end Acc
end Mine

end
section
open PySem PySem.W PySem.Spec PySem.Calls PyProof.Rows
set_option Elab.async false
set_option maxRecDepth 100000
set_option linter.unusedVariables false
namespace Mine
namespace Acc
section
variable {Γ : Ctx} {P : PCtx} {A : Around} {s : Shared} {x dx : Addr} {ρ : List Addr} {objs : List O} {K : Frag} {cd : ClassData} {f : Addr}
set_option maxHeartbeats 2000000
structure InitF (Γ : Ctx) (P : PCtx) (f : Addr) (cc : Addr) (fd : FuncData) (q1 : Pos) (q2 : Pos) (q3 : Pos) (q4 : Pos) (rp : Pos) (p0 : Pos) (p1 : Pos) (ap : Pos) (pos : Pos) : Prop where
  f0 : FnK Γ f fd [.Assign [.Attribute (.Name "self" q1) "_initial_size" q2] (.Name "initial_size" q3) q4,       .Expr (.Call (.Attribute (.Call (.Name "super" p0) [] [] p1) "__init__" ap) [] [] pos) rp] [(Str.ofString "__class__", cc)]
  f1 : (∀ L, EnvSup Γ (callEnv fd L f) f)
  f2 : (ap.endLine == pos.line) = true
  f3 : fd.scope.names.lookup (Str.ofString "self") = some .local
  f4 : fd.scope.names.lookup (Str.ofString "initial_size") = some .local
  f5 : (∀ s : Shared, (∀ a o, Γ.h₀.get? a = some o → s.heap.get? a = some o) → ∀ v, ∃ t, BindsTo s fd ⟨[v], []⟩ [(Str.ofString "self", v), (Str.ofString "initial_size", .int 0 t)])
  f6 : fd.scope.names = P.sc
  f7 : ndOk P.sc = true
/-- what the method __init__ is -/
structure InitFn (Γ : Ctx) (P : PCtx) (f : Addr) (cc : Addr) : Prop where
  fn : ∃ fd q1 q2 q3 q4 rp p0 p1 ap pos, InitF Γ P f cc fd q1 q2 q3 q4 rp p0 p1 ap pos
  cell : Γ.h₀.IsCell cc (some (.ref Γ.cA))
structure ClsFull (Γ : Ctx) : Prop where
  obj : ∃ nm q N bs sn sub ab col dd k0 k1 k2 k3 k5 mN, Γ.h₀.get? Γ.cA = some (excClassObj nm q Γ.cA N bs [.type "list", .type "object"] true sn sub ab col dd k0 k1 k2 k3 k5 "list.__new__") ∧ Γ.h₀.Ns N mN ∧ mN (Str.ofString "__setattr__") = none ∧ mN (Str.ofString "_initial_size") = none
theorem init_ok (H : ClsOk Γ K cd) (HF : ClsFull Γ) {cc : Addr} (F0 : InitFn Γ P f cc) {m : Nat} (OC : Orc Γ m P) (hE : ∀ env, P.E env)
    (hA : AOk (m + 1) A) (hlim : Γ.h₀.NoLimit) (B : Base Γ s) (R : ObjsRep Γ s.heap ρ objs) {n : Nat} {d : Nat} (hx : ρ[n]? = some x) (ho : objs[n]? = some (.acc [] d)) (hod : objs[d]? = some .idict) (hdx : ρ[d]? = some dx)
    (hxo : s.heap.get? x = some (accObj Γ.cA dx)) (hdo : s.heap.get? dx = some emptyDict)
    {Q : Post} {Q' : Value → Shared → Prop} (hq : Q .none objs) (hd : Done Γ ρ s Q Q') :
    codeAny (model Γ.prog Γ.w) A (.call (.ref f) ⟨[.ref x], []⟩) (fun r s' => match r with | .ok (.ret v) => Q' v s' | .ok _ => False | .error e => NoE e s') s := by
  refine hide fun G9 hG9 => ?_
  obtain ⟨⟨fd, q1, q2, q3, q4, rp, p0, p1, ap, pos, F, S, hpl, hks, hks2, hbind, hsc, hnd⟩, hcell⟩ := F0
  obtain ⟨tt, hb⟩ := hbind s B.keep (.ref x)
  refine hG9 ?_; clear hG9
  have hne : (Str.ofString "initial_size" == Str.ofString "self") = false := by decide
  refine enter_code F hA hlim B R (loc := [(Str.ofString "self", some (.obj n)), (Str.ofString "initial_size", some (.int 0)), (Str.ofString "__class__", some (.fn (.ref Γ.cA)))]) hb (fun y hy => ?_) (fun y d' hy => ?_) fun s₁ R₁ k₁ e₁ hA₁ => ?_
  · rcases List.mem_cons.mp hy with rfl | hy
    · exact hks
    · rw [List.mem_singleton.mp hy]; exact hks2
  · unfold getLo at hy
    split at hy
    · rename_i e; subst e; cases hy
      exact .inl ⟨_, rfl, .obj hx⟩
    · unfold getLo at hy
      split at hy
      · rename_i e; subst e; cases hy
        exact .inl ⟨_, rfl, .int _ _⟩
      · unfold getLo at hy
        split at hy
        · rename_i e; subst e; cases hy
          exact .inr ⟨(S 0).kc, cc, _, rfl, hcell, fun _ _ => .fn _⟩
        · cases hy
  · have am : Amb Γ P (callEnv fd s.heap.objs.size f) (A.deeper (callEnv fd s.heap.objs.size f)) := OC.amb hA₁ hsc (nd_of hnd) (hE _)
    have lkn : ∀ y, lkS P.sc y = fd.scope.names.lookup y := fun y => by rw [lkS_eq, hsc]
    have hself : nameF P [(Str.ofString "self", some (.obj n)), (Str.ofString "initial_size", some (.int 0)), (Str.ofString "__class__", some (.fn (.ref Γ.cA)))] (Str.ofString "self") = some (.obj n) := by
      unfold nameF
      rw [lkn, hks]
      simp [getLo]
    have hsize : nameF P [(Str.ofString "self", some (.obj n)), (Str.ofString "initial_size", some (.int 0)), (Str.ofString "__class__", some (.fn (.ref Γ.cA)))] (Str.ofString "initial_size") = some (.int 0) := by
      unfold nameF
      rw [lkn, hks2]
      simp [getLo, ofString_eq]
    have x₁ : Ext Γ.tabs ρ s ρ s₁ := by
      refine hide fun G9 hG9 => ?_
      obtain ⟨h₁, tk, rfl⟩ := e₁
      refine hG9 ?_; clear hG9
      exact Ext.of_keep k₁ rfl
    refine ks_wpAt_execs_cons (ks_wpAt_Assign_Attr (_root_.PySem.wpAt_of_wpAny (wpAny_Name (load_name am R₁ hsize fun v hv => ?_) (by decide))) ?_)
    · cases hv
      rename_i t0
      refine wpAny_Name (load_name am R₁ hself fun v hv => ?_) (by decide)
      obtain ⟨_, rfl, e⟩ := hv.obj_inv
      rw [hx] at e; cases e
      have hxo₁ := k₁ _ _ hxo
      have hdo₁ := k₁ _ _ hdo
      refine hide fun G9 hG9 => ?_
      obtain ⟨nm, q, N, bs, sn, sub, ab, col, dd, w0, w1, w2, w3, w5, mN, c1, c2, c3, c4⟩ := HF.obj
      obtain ⟨h₁, tk₁, rfl⟩ := e₁
      refine hG9 ?_; clear hG9
      have hCo := R₁.base.keep _ _ c1
      have hxC : x ≠ Γ.cA := by
        rintro rfl
        rw [hxo₁] at hCo; cases hCo
      have hdxx : dx ≠ x := by
        rintro rfl
        rw [hxo₁] at hdo₁; cases hdo₁
      have I : h₁.Inst x Γ.cA fun _ => none := ⟨_, hxo₁, rfl, (fun c e => nomatch e), .inr ⟨dx, rfl, hdxx, Heap.Ns1.of_empty ⟨_, #[], _, hdo₁, rfl, fun e he => absurd he (by simp), fun _ => rfl⟩⟩⟩
      refine store_attr store_list hCo (c2.at' fun o e => R₁.base.keep _ _ e) c3 c4 lk_init_size hxC I (fun h' tk' I' hk hsame => ?_) (ns := [])
      refine hide fun G9 hG9 => ?_
      obtain ⟨o₁, g1, g2, g3, g4, g5⟩ := hsame _ hxo₁
      refine hG9 ?_; clear hG9
      have hxo' : h'.get? x = some (accObj Γ.cA dx) := by
        rw [g1]
        refine hide fun G9 hG9 => ?_
        obtain ⟨oc, od, odt, osl⟩ := o₁
        refine hG9 ?_; clear hG9
        have := g5 dx rfl
        simp only at g2 g3 g4 this
        rw [g2, g3, g4, this]
      have kp : ∀ b o, b ≠ dx → h₁.get? b = some o → h'.get? b = some o := fun b o hb e => by
        by_cases qx : b = x
        · subst qx
          rw [hxo₁] at e; cases e; exact hxo'
        · exact hk b o qx (fun o₀ d' e0 e1 => by rw [hxo₁] at e0; cases e0; cases e1; exact hb) e
      refine hide fun G9 hG9 => ?_
      obtain ⟨o', e', _, _, hd'⟩ := I'
      refine hG9 ?_; clear hG9
      rw [hxo'] at e'; cases e'
      rcases hd' with ⟨z, _⟩ | ⟨dx', z, _, hns⟩
      · cases z
      cases z
      have hns0 := hns.ns
      refine hide fun G9 hG9 => ?_
      obtain ⟨ob, es, ep, hob, hdat, _⟩ := id hns0
      obtain ⟨B2, R2, x2⟩ := change_ext (o' := .idict) R₁.base R₁.objs hdx hod tk' kp hob fun T x' => ⟨_, hns0, fun y hy => by simp only [if_neg hy]⟩
      refine hG9 ?_; clear hG9
      have hset : objs.set d .idict = objs := by
        apply List.ext_getElem?
        intro i
        by_cases qi : i = d
        · subst qi
          rw [List.getElem?_set_self (List.getElem?_eq_some_iff.mp hod).1, hod]
        · rw [List.getElem?_set_ne (Ne.symm qi)]
      rw [hset] at R2
      have R₂ := R₁.step x2 B2 R2
      refine ks_wpAt_execs_cons (ks_wpAt_Expr_any ?_ (by unfold interactive; rw [R₂.fr.kind]; rfl) rfl)
      refine hide fun G9 hG9 => ?_
      obtain ⟨v1, hr1, hi1⟩ := R₂.fr.loc (Str.ofString "self") (.obj n) (by simp [getLo])
      obtain ⟨v2, hr2, hi2⟩ := R₂.fr.loc (Str.ofString "__class__") (.fn (.ref Γ.cA)) (by simp [getLo, ofString_eq])
      refine hG9 ?_; clear hG9
      cases hi2
      have hv1 : v1 = .ref x := by
        obtain ⟨_, rfl, e⟩ := hi1.obj_inv; rw [hx] at e; cases e; rfl
      refine super_eval H (S _) R₂ ⟨v1, hr1, hv1⟩ hr2 hxo' base_init (by rfl) (by decide) hpl fun b h'' tk hb k => ?_
      refine call_b base_init.mach hb (fun Q' E' q => chk_init q) quiet_init PySem.F.entry_list_init fun A' P' E' hP => ?_
      refine tree_init (k _ _ hxo') fun h3 n' hx3 hs => hP _ _ ?_
      have R₃ := R₂.keepAll (s' := { s with heap := h'', toks := tk }) k rfl rfl
      have x₃ : Ext Γ.tabs ρ { s with heap := h', toks := tk' } ρ { s with heap := h'', toks := tk } := Ext.of_keep k rfl
      have hd₃ : Done Γ ρ { s with heap := h'', toks := tk } Q Q' := fun d o' ρ' v s' hq b o x' hv => hd d o' ρ' v s' hq b o (((x₁.trans x2).trans x₃).trans x') hv
      have hset2 : objs.set n (.acc [] d) = objs := by
        apply List.ext_getElem?
        intro i
        by_cases qi : i = n
        · subst qi
          rw [List.getElem?_set_self (List.getElem?_eq_some_iff.mp ho).1, ho]
        · rw [List.getElem?_set_ne (Ne.symm qi)]
      have fin := hd₃.change (o' := .acc [] d) R₃.base R₃.objs hx ho tk hs hx3 (fun T x' => ⟨[], n', dx, hx3, hdx, .nil⟩) .none (hset2.symm ▸ hq)
      exact _root_.PySem.wpAt_of_wpAny (wpAny_execs_nil fin)
    · rfl
end
end Acc
end Mine

end
section
open PySem PySem.W PySem.Spec PySem.Calls PyProof.Rows
set_option Elab.async false
set_option maxRecDepth 100000
set_option linter.unusedVariables false
namespace Mine
namespace Acc
section
variable {prog : Program} {w : World} {A : Around} {E : Value → Shared → Prop} {s : Shared}
noncomputable def IsSeqAt (h : Heap) (x : Addr) (items : Array Value) : Prop := ∃ o n, h.get? x = some o ∧ o.data = .seq items n
theorem seq_item {it l : Addr} {i : Nat} {items : Array Value} {x : Value} {Q : Option Value → Shared → Prop} (hit : s.heap.IsListIter it l i)
    (hl : IsSeqAt s.heap l items) (hx : items[i]? = some x)
    (hQ : ∀ h', h'.IsListIter it l (i + 1) → Heap.SameBut it s.heap h' → Q (some x) { s with heap := h' }) :
    wpAny (model prog w) A (pyNext (.ref it)) Q E s := by
  obtain ⟨o, ho, hc, hd⟩ := id hit
  obtain ⟨ol, nl, hol, hdl⟩ := hl
  unfold pyNext
  refine wpAny_bind (wpAny_attempt (wpAny_callSpecial?_slot (name := Str.ofString "__next__") hit.typeIs slot_listiter_next
    (wpAny_call_entry slot_listiter_next hit.typeIs entry_listiter_next ?_ (args_listiter_next _))))
  show wpAny _ _ (field (.ref it) 0 >>= _) _ _ s
  refine wpAny_bind (wpAny_field ho hd (x := .ref l) rfl ?_)
  show wpAny _ _ (if (Value.ref l == Value.none) = true then _ else _) _ _ s
  rw [if_neg (show ¬ ((Value.ref l == Value.none) = true) from Bool.false_ne_true)]
  show wpAny _ _ (field (.ref it) 1 >>= _) _ _ s
  refine wpAny_bind (wpAny_field ho hd (x := .int i 0) rfl ?_)
  show wpAny _ _ (seqItems? (.ref l) >>= _) _ _ s
  refine wpAny_bind (wpAny_seqItems hol hdl ?_)
  simp only [Int.toNat_natCast, hx]
  refine wpAny_bind (wpAny_setField ho hd (by simp) (wpAny_pure ⟨x, rfl, wpAny_pure (hQ _ ?_ (Heap.SameBut.update ..))⟩))
  exact ⟨_, Heap.get?_update_self _ ho (Obj.isFreed_of_fields (Obj.data_mapFields hd _)), (Obj.cls_mapFields ..).trans hc, by
    rw [Obj.data_mapFields hd]; simp [rawInt]⟩
theorem seq_end {it l : Addr} {i : Nat} {items : Array Value} {Q : Option Value → Shared → Prop} (hh : A.handled = none)
    (hit : s.heap.IsListIter it l i) (hl : IsSeqAt s.heap l items) (hx : items[i]? = none)
    (hQ : ∀ h', Heap.ExtBut it s.heap h' → Q none { s with heap := h' }) : wpAny (model prog w) A (pyNext (.ref it)) Q E s := by
  obtain ⟨o, ho, hc, hd⟩ := id hit
  obtain ⟨ol, nl, hol, hdl⟩ := hl
  unfold pyNext
  refine wpAny_bind (wpAny_attempt (wpAny_callSpecial?_slot (name := Str.ofString "__next__") hit.typeIs slot_listiter_next
    (wpAny_call_entry slot_listiter_next hit.typeIs entry_listiter_next ?_ (args_listiter_next _))))
  show wpAny _ _ (field (.ref it) 0 >>= _) _ _ s
  refine wpAny_bind (wpAny_field ho hd (x := .ref l) rfl ?_)
  show wpAny _ _ (if (Value.ref l == Value.none) = true then _ else _) _ _ s
  rw [if_neg (show ¬ ((Value.ref l == Value.none) = true) from Bool.false_ne_true)]
  show wpAny _ _ (field (.ref it) 1 >>= _) _ _ s
  refine wpAny_bind (wpAny_field ho hd (x := .int i 0) rfl ?_)
  show wpAny _ _ (seqItems? (.ref l) >>= _) _ _ s
  refine wpAny_bind (wpAny_seqItems hol hdl ?_)
  simp only [Int.toNat_natCast, hx]
  refine wpAny_bind (wpAny_rule (wpAny_bind (wpAny_setField ho hd (by simp) ?_)))
  show wpAny _ _ (newExc (.type "StopIteration") [] >>= _) _ _ _
  refine wpAny_bind ?_
  simp only [newExc, newTuple]
  refine wpAny_bind (wpAny_newObj_type ?_ (by size_fits))
  refine wpAny_bind (m := firstArgMember _ _) (wpAny_of_eq (a := Value.none) (by first | rfl | (simp only [firstArgMember]; rfl)) ?_)
  refine wpAny_newObj_type ?_ (by size_fits)
  unfold raiseNew
  refine wpAny_bind (wpAny_handled ?_)
  first | rw [show A.in1.handled = none from hh] | rw [hh]
  refine wpAny_bind (wpAny_pure (wpAny_throw ?_))
  refine wpAny_bind (wpAny_isInstance (T := "StopIteration") (b := true) ⟨_, Heap.get?_push_size _ rfl, rfl⟩ isSubtype_stop ?_)
  exact wpAny_pure (hQ _ (((Heap.SameBut.update ..).extBut.push _).push _))
theorem IsSeqAt.ext {h h' : Heap} {x it : Addr} {items : Array Value} (y : IsSeqAt h x items) (k : ∀ o, h.get? x = some o → h'.get? x = some o) : IsSeqAt h' x items :=
  let ⟨o, n, ho, hd⟩ := y; ⟨o, n, k o ho, hd⟩
/-- the pairs of a pile, gone through -/
theorem walksU_acc (hh : A.handled = none) (I ax : Addr) (hne : ax ≠ I) (items : Array Value) (Ts : Nat → Addr) (vals : Nat → Array Value)
    (hit : ∀ j, j < items.size → items[j]? = some (.ref (Ts j))) (hTI : ∀ j, j < items.size → Ts j ≠ I) :
    WalksU prog w A I (I :: ax :: (List.range items.size).map Ts) [I] items.size (fun j v => j < items.size ∧ v = vals j)
      (fun j h => h.IsListIter I ax j ∧ IsSeqAt h ax items ∧ ∀ k, k < items.size → h.IsTuple (Ts k) (vals k))
      (fun j T h => (j < items.size ∧ T = Ts j) ∧ h.IsListIter I ax (j + 1) ∧ IsSeqAt h ax items ∧ ∀ k, k < items.size → h.IsTuple (Ts k) (vals k)) where
  sub := fun b hb => by simp at hb; simp [hb]
  frame := fun _ _ _ st hk => ⟨st.1.at fun o e => hk I (by simp) o e, st.2.1.ext (it := I) fun o e => hk ax (by simp) o e,
    fun k hk' => (st.2.2 k hk').at fun o e => hk (Ts k) (List.mem_cons_of_mem _ (List.mem_cons_of_mem _ (List.mem_map.mpr ⟨k, List.mem_range.mpr hk', rfl⟩))) o e⟩
  item := fun i s Q E hi st hQ => by
    refine seq_item st.1 st.2.1 (x := .ref (Ts i)) (hit i hi) fun h' hit' hs' => ?_
    have tup : ∀ k, k < items.size → h'.IsTuple (Ts k) (vals k) := fun k hk' => (st.2.2 k hk').extBut hs'.extBut (hTI k hk')
    exact hQ (Ts i) (vals i) h' s.toks ⟨hi, rfl⟩ (tup i hi) ⟨⟨hi, rfl⟩, hit', st.2.1.ext (it := I) fun o e => (hs'.2 ax hne).trans e, tup⟩ fun b o hb e => hs'.extBut b o (fun h => hb (by simp [h])) e
  go := fun _ _ _ _ _ s Q _ hm hQ => wpAny_letOwnedTupleGo_listiter hm.2.1 (hQ s.heap hm.2 fun _ _ _ e => e)
  apart := fun j T _ hm hmem => by
    rcases List.mem_cons.mp hmem with e | e
    · exact hTI j hm.1.1 (hm.1.2 ▸ e)
    · cases e
  done := fun s Q E st hQ => seq_end hh st.1 st.2.1 (by simp) fun h' he' => hQ h' s.toks fun b o hb e => he' b o (fun h => hb (by simp [h])) e
  self := fun _ _ _ _ st hQ => wpAny_pyIter_listiter st.1 hQ
end
section
variable {Γ : Ctx} {A : Around} {s : Shared} {x dx : Addr} {K : Frag} {cd : ClassData} {E : Value → Shared → Prop}
set_option maxHeartbeats 1000000
theorem li_kind : builtinKind "list.__iter__" = some .slot := by decide +kernel
theorem li_split : splitId "list.__iter__" = some ("list", "__iter__") := by decide +kernel
theorem li_next : typeLookup (.type "list_iterator") "__next__" = pure (some (.builtin "list_iterator.__next__")) := slot_listiter_next.lookup
theorem acc_iter (H : ClsOk Γ K cd) (hf : findIn K (.ref Γ.cA) "__iter__" = some (some (.builtin "list.__iter__"))) (k : ∀ a o, Γ.h₀.get? a = some o → s.heap.get? a = some o) {vs : Array Value} {n : Nat} (hx : s.heap.get? x = some ⟨.ref Γ.cA, some dx, .seq vs n, #[]⟩)
    {Q : Value → Shared → Prop} (hq : Q (.ref s.heap.objs.size) { s with heap := s.heap.push { cls := .type "list_iterator", data := .fields #[.ref x, .int 0 0] } }) : wpAny (model Γ.prog Γ.w) A (pyIter (.ref x)) Q E s := by
  have X := H.X.keeps k
  have T : Looks (model Γ.prog Γ.w) s.heap (typeOf (.ref x)) (.ref Γ.cA) := (Looks.ld hx).andThen .now
  have L := looks_findIn (M := model Γ.prog Γ.w) X hf
  have hb := PySem.F.slot_list_iter.bind (.ref x)
  have S : Looks (model Γ.prog Γ.w) s.heap (specialOf (.ref x) "__iter__") (some (.builtin "list.__iter__")) := T.andThen L
  unfold pyIter
  refine wpAny_bind (S.here ?_)
  dsimp only
  refine wpAny_bind ?_
  simp only [callSpecialIfBoundUnlessNone?, bindSpecialIfBound?]
  refine wpAny_holding (wpAny_bind (wpAny_bind (S.here ?_)))
  simp only [hb]
  refine wpAny_bind (wpAny_askSetting (wpAny_ite ?_))
  have fin : wpAny (model Γ.prog Γ.w) A (call (.builtin "list.__iter__") [.ref x]) (fun it s' => wpAny (model Γ.prog Γ.w) A (do
          let __do_lift ← specialOf it (Str.ofString "__next__")
          match __do_lift with
            | none => do
              rule "iter.non-iterator"
              let __do_lift ← PySem.typeNameOf it
              raiseErrorMade "TypeError"
                  (toString "iter() returned non-iterator of type '" ++ toString __do_lift ++ toString "'")
            | some val => pure it) Q E s') E s := by
    refine wpAny_call (codeAny_call_builtin PySem.F.slot_list_iter.plain PySem.F.entry_list_iter (check_slot li_kind li_split (isList_acc H k hx) (PySem.F.args_list_iter_1 _) ?_))
    unfold Builtin.«list.__iter__»
    refine wpAny_bind (wpAny_of_eq (a := (.ref x, [])) (by first | rfl | kernel_rfl) ?_)
    refine wpAny_bind (wpAny_newObj_type (wpAny_pure ?_) (by size_fits))
    show wpAny _ _ _ _ _ _
    refine wpAny_bind (wpAny_specialOf (T := "list_iterator") ⟨_, Heap.get?_push_size _ rfl, rfl⟩ li_next ?_)
    exact wpAny_pure hq
  have fin2 : ∀ {EE : Value → Shared → Prop}, wpAny (model Γ.prog Γ.w) A (do
          let __do_lift ← call (.builtin "list.__iter__") [.ref x]
          pure (some __do_lift)) (fun (a : Option Value) s' => wpAny (model Γ.prog Γ.w) A (match a with
        | some it => do
          let __do_lift ← specialOf it (Str.ofString "__next__")
          match __do_lift with
            | none => do
              rule "iter.non-iterator"
              let __do_lift ← PySem.typeNameOf it
              raiseErrorMade "TypeError"
                  (toString "iter() returned non-iterator of type '" ++ toString __do_lift ++ toString "'")
            | some val => pure it
        | none => do
          let __do_lift ← bindSpecialIfBound? (Value.ref x) (Str.ofString "__getitem__")
          match __do_lift with
            | none => do
              rule "iter.not-iterable"
              let __do_lift ← PySem.typeNameOf (Value.ref x)
              raiseErrorMade "TypeError" (toString "'" ++ toString __do_lift ++ toString "' object is not iterable")
            | some val => do
              rule "iter.getitem-fallback"
              let __do_lift ← mkInt 0
              newFields "iterator" [Value.ref x, __do_lift]) Q E s') E s := wpAny_bind (wpAny_mono fin (fun v s' h' => wpAny_pure h') fun _ _ h' => h')
  split
  · exact wpAny_bind (wpAny_pure (wpAny_pure (KFB.if_not rfl (fin2 (EE := E)))))
  · exact wpAny_tryCatch (wpAny_bind (wpAny_pure (wpAny_pure (KFB.if_not rfl (fin2 (EE := E))))))
end
end Acc
end Mine

end
section
open PySem PySem.W PySem.Spec PySem.Calls PyProof.Rows
set_option Elab.async false
set_option maxRecDepth 100000
set_option linter.unusedVariables false
namespace Mine
namespace Acc
section
variable {Γ : Ctx} {A : Around} {s : Shared} {env : Env} {E : Value → Shared → Prop}
set_option maxHeartbeats 1000000
theorem load_glob0 {h : Heap} {x : Str} {v : Value} {QQ : Value → Shared → Prop} (kp : ∀ a o, h.get? a = some o → s.heap.get? a = some o) (hkind : env.scope.kind = .function) (hg : env.globals = mainGlobals) (hb : env.builtins = builtinsNs)
    (hk : env.kindOf x = some .globalImplicit) (g : GlobIs h x v) (q : QQ v s) : wpAny (model Γ.prog Γ.w) A (loadName env x) QQ E s := by
  have e : loadName env x = loadGlobal env x := by
    unfold loadName
    have h1 : env.scope.kind.isAnnotationScope = false := by rw [hkind]; rfl
    have h2 : env.blockKind = .function := by unfold Env.blockKind; rw [h1]; simp [hkind]
    rw [h1, h2, hk]; rfl
  rw [e]
  unfold loadGlobal
  have kn : ∀ a m, h.Ns a m → s.heap.Ns a m := fun a m hm => hm.at' fun o e => kp a o e
  rcases g with ⟨mg, h1, h2⟩ | ⟨mg, mb, h1, h2, h3, h4⟩
  · refine wpAny_bind (wpAny_nsGet (m := mg) (by rw [hg]; exact kn _ _ h1) ?_)
    rw [h2]; exact wpAny_pure q
  · refine wpAny_bind (wpAny_nsGet (m := mg) (by rw [hg]; exact kn _ _ h1) ?_)
    rw [h2]
    refine wpAny_bind (wpAny_nsGet (m := mb) (by rw [hb]; exact kn _ _ h3) ?_)
    rw [h4]; exact wpAny_pure q
theorem one_arg {M : Model} {pos : Pos} {f : Value} {e : Expr} {QA : Args → Shared → Prop} (hs : isStarred e = false) (h : wpAny M A (eval e env) (fun v s₁ => QA ⟨[v], []⟩ s₁) E s) :
    wpAny M A (evalArgs f true (backTo pos (starEach [e] env)) []) QA E s := by
  rw [starEach_cons [] hs]
  refine evalArgs_plain ?_
  show wpAny _ _ (spliced ((false, eval e env) :: backTo pos (starEach [] env))) _ _ _
  unfold spliced
  refine wpAny_bind (wpAny_mono h (fun v s₁ h₁ => ?_) fun _ _ q => q)
  exact wpAny_bind (wpAny_pure (wpAny_bind (wpAny_holding (wpAny_pure (wpAny_pure h₁)))))
theorem meth_call {M : Model} {pos : Pos} {id : String} {ov : Value} {e : Expr} {Q : Value → Shared → Prop} (hs : isStarred e = false) (h : wpAny (model Γ.prog Γ.w) A (eval e env) (fun v s₁ => wpAny (model Γ.prog Γ.w) A (call (.builtin id) [ov, v]) Q E s₁) E s) :
    wpAny (model Γ.prog Γ.w) A (callWith pos (.builtin id) [ov] (backTo pos (starEach [e] env)) []) Q E s := by
  refine callWith_of (P := fun _ => True) (by rw [starEach_cons [] hs]; rfl) (fun _ _ => ⟨_, .inr (.inl rfl), looks_built⟩) (one_arg hs (wpAny_mono h (fun v s₁ h₁ => ⟨trivial, h₁⟩) fun _ _ q => q))
theorem name_local {x : Str} {p : Pos} {v : Value} {m : Str → Option Value} {Q : Value → Shared → Prop} (hk : env.scope.kind = .function) (hl : env.kindOf x = some .local) (hn : s.heap.Ns env.locals m) (e : m x = some v) (hd : (x == ("__debug__" : Str)) = false) (q : Q v s) :
    wpAny (model Γ.prog Γ.w) A (eval (.Name x p) env) Q E s := wpAny_Name (wpAny_loadName_local hk hl hn e q) hd
/-- sep.join((x, y)) with two local names -/
theorem join_pair {h : Heap} {nE nx ny : Str} {e1 e2 e3 e4 ap pos : Pos} {kk : Nat} {m : Str → Option Value} {sep a b : Str} {te ta tb : Tok} {Q : Value → Shared → Prop} (kp : ∀ a o, h.get? a = some o → s.heap.get? a = some o) (hkind : env.scope.kind = .function) (hg : env.globals = mainGlobals) (hbl : env.builtins = builtinsNs)
    (hkE : env.kindOf nE = some .globalImplicit) (g : GlobIs h nE (.str sep te)) (hkx : env.kindOf nx = some .local) (hky : env.kindOf ny = some .local) (hn : s.heap.Ns env.locals m) (hx : m nx = some (.str a ta)) (hy : m ny = some (.str b tb))
    (d1 : (nE == ("__debug__" : Str)) = false) (d2 : (nx == ("__debug__" : Str)) = false) (d3 : (ny == ("__debug__" : Str)) = false) (hline : (ap.endLine == pos.line) = true) (hla : a.length ≤ 1000) (hlb : b.length ≤ 1000) (hls : sep.length ≤ 16)
    (q : ∀ t' h' k, (∀ a o, s.heap.get? a = some o → h'.get? a = some o) → Q (.str (Txt.join sep [a, b]) t') { s with heap := h', toks := k }) :
    wpAny (model Γ.prog Γ.w) A (eval (.Call (.Attribute (.Name nE e1) "join" ap) [.Tuple [.Name nx e2, .Name ny e3] kk e4] [] pos) env) Q E s := by
  refine wpAny_Call_method (T := "str") (id := "str.join") rfl rfl hline PySem.F.plainAttrs_str PySem.F.slot_str_join PySem.F.type_str_join (wpAny_Name (load_glob0 kp hkind hg hbl hkE g ⟨typeIs_str _ _ _, (fun _ e => nomatch e), ?_⟩) d1)
  refine meth_call (M := model Γ.prog Γ.w) rfl ?_
  show wpAny _ _ (standAt e4 >>= fun _ => (spliced (backTo e4 (starEach [.Name nx e2, .Name ny e3] env))) >>= fun vs => newTuple vs) _ _ _
  refine wpAny_bind (wpAny_standAt (wpAny_bind ?_))
  show wpAny _ _ (spliced ((false, eval (.Name nx e2) env) :: (false, eval (.Name ny e3) env) :: [])) _ _ _
  unfold spliced
  refine wpAny_bind (name_local hkind hkx hn hx d2 ?_)
  refine wpAny_bind (wpAny_pure (wpAny_bind (wpAny_holding ?_)))
  unfold spliced
  refine wpAny_bind (name_local hkind hky hn hy d3 ?_)
  refine wpAny_bind (wpAny_pure (wpAny_bind (wpAny_holding (wpAny_pure (wpAny_pure (wpAny_pure ?_))))))
  refine wpAny_newTuple ?_
  refine join_tuple (ys := [a, b]) ⟨_, Heap.get?_push_size _ rfl, rfl, _, rfl⟩ (.cons _ _ (.cons _ _ .nil)) (by simp; omega) fun t' k => q t' _ k fun a o e => Heap.get?_push_of_some _ e
end
end Acc
end Mine

end
section
open PySem PySem.W PySem.Spec PySem.Calls PyProof.Rows
set_option Elab.async false
set_option maxRecDepth 100000
set_option linter.unusedVariables false
namespace Mine
namespace Acc
noncomputable def pairD (p : Str × Str) : D := .tup [.str p.1, .str p.2]
/-- a code's table, among the state's invariants -/
structure TabOk (Γ : Ctx) (c P : Addr) : Prop where
  hd : CodeHd Γ.h₀ c P
  code : ∀ h, Γ.TI h → ∃ ps, h.get? P = some (tabObj ps) ∧ TriplesOk ps.toList
  mem : P ∈ Γ.tabs
  off : Γ.h₀.get? P = none
  step : ∀ h h' ps, Γ.TI h → (∀ b o, b ≠ P → h.get? b = some o → h'.get? b = some o) → h'.get? P = some (tabObj ps) → TriplesOk ps.toList → Γ.TI h'
noncomputable def BMain (h : Heap) : Prop := ∃ mg bm ob, h.Ns mainGlobals mg ∧ mg "__builtins__" = some (.ref bm) ∧ bm ≠ builtinsNs ∧ h.get? bm = some ob ∧ ob.cls = .type "module" ∧ ob.dict = some builtinsNs ∧ ob.data = .plain
theorem BMain.keeps {h h' : Heap} (x : BMain h) (k : ∀ a o, h.get? a = some o → h'.get? a = some o) : BMain h' := by
  obtain ⟨mg, bm, ob, h1, h2, h3, h4, h5⟩ := x
  exact ⟨mg, bm, ob, h1.at' fun o e => k _ _ e, h2, h3, k _ _ h4, h5⟩
theorem triples_int {us : Array Value} {q : Str} {tq : Tok} (h : TriplesOk us.toList) (e : us[1]? = some (.str q tq)) : False := by
  rw [← Array.getElem?_toList] at e
  revert h e
  generalize us.toList = l
  intro h e
  cases l with
  | nil => cases e
  | cons a l => cases l with
    | nil => cases e
    | cons b l =>
      obtain rfl : b = .str q tq := Option.some.inj e
      cases a <;> exact h
section
variable {Γ : Ctx} {A : Around} {s : Shared} {env : Env} {E : Value → Shared → Prop} {ρ : List Addr} {objs : List O}
set_option maxHeartbeats 1000000
/-- the code of a generator expression: made, or found -/
theorem gen_code {c P : Addr} (T : TabOk Γ c P) {h₀' : Heap} (k0 : ∀ a o, Γ.h₀.get? a = some o → s.heap.get? a = some o) (hti : Γ.TI s.heap) (hc : env.code = .ref c) {pos : Pos} {qn : Str} {scope : Scope} {Q : Value → Shared → Prop}
    (hQ : ∀ code h' tk ps', (∀ b o, b ≠ P → s.heap.get? b = some o → h'.get? b = some o) → h'.get? P = some (tabObj ps') → TriplesOk ps'.toList → s.heap.objs.size ≤ h'.objs.size → Q code { s with heap := h', toks := tk }) :
    wpAny (model Γ.prog Γ.w) A (genexprCode env pos qn scope) Q E s := by
  obtain ⟨ps, h1, h2⟩ := T.code _ hti
  have C := T.hd.keeps k0
  cases hnf : codeAmong pos ps.toList with
  | some cv => exact wpAny_genexprCode_hit hc (C.code h1 h2) hnf (hQ cv s.heap s.toks ps (fun _ _ _ e => e) h1 h2 (Nat.le_refl _))
  | none =>
    refine wpAny_genexprCodeX hc (C.code h1 h2) (C.tab h1) hnf fun c' h' tk hx h3 h4 h5 h6 h7 h8 => ?_
    obtain ⟨_, _, _, _, _, _, _, _, _, _, _, _, _, _, _, _, _, _, _, ht, _⟩ := h5
    exact hQ _ h' tk _ (fun b o hb e => hx b o hb e) h7.2 ht (Nat.le_trans h3 (Nat.le_of_lt h4))
/-- back from a step that changes the table alone -/
theorem tab_back {c P : Addr} (T : TabOk Γ c P) (B : Base Γ s) (R : ObjsRep Γ s.heap ρ objs) {s' : Shared} {ps : Array Value} (kp : ∀ b o, b ≠ P → s.heap.get? b = some o → s'.heap.get? b = some o) (hP : s'.heap.get? P = some (tabObj ps)) (ht : TriplesOk ps.toList)
    (hg : AllBare s'.gens) (ho : s'.os = s.os) : Base Γ s' ∧ ObjsRep Γ s'.heap ρ objs ∧ Ext Γ.tabs ρ s ρ s' := by
  obtain ⟨ps0, h1, h2⟩ := T.code _ B.ti
  have x : Ext Γ.tabs ρ s ρ s' := by
    refine ⟨List.prefix_refl _, fun a h => .inl h, fun a o e ht' _ => kp a o (fun q => ht' (q ▸ T.mem)) e, fun a o e hi => kp a o (fun q => ?_) e, fun a o e => ?_, ho⟩
    · subst q
      rw [h1] at e; cases e
      rcases hi with ⟨q, _⟩ | ⟨q, _⟩ | ⟨q, _⟩ | ⟨q, _⟩ | ⟨us, q, tq, e5, e6⟩ <;> first | (cases q; done) | (exfalso; cases e5; exact triples_int h2 e6)
    · by_cases q : a = P
      · subst q; exact ⟨_, hP⟩
      · exact ⟨o, kp a o q e⟩
  refine ⟨⟨fun a o e => kp a o (fun q => ?_) (B.keep a o e), T.step _ _ ps B.ti kp hP ht, hg⟩, ⟨R.len, R.nodup, R.off, fun n a o e1 e2 => (R.rel n a o e1 e2).ext x fun ob e => kp a ob (fun q => ?_) e⟩, x⟩
  · subst q; rw [T.off] at e; cases e
  · exact (R.off a (List.mem_of_getElem? e1)).2 (q ▸ T.mem)
end
theorem passing_all (n : Nat) : passing (fun _ => true) n 0 = List.range n := by
  unfold passing
  simp
end Acc
end Mine

end
section
open PySem PySem.W PySem.Spec PySem.Calls PyProof.Rows
set_option Elab.async false
set_option maxRecDepth 100000
set_option linter.unusedVariables false
namespace Mine
namespace Acc
noncomputable def tAt (vs : List Value) (j : Nat) : Addr := match vs[j]? with | some (.ref T) => T | _ => 0
noncomputable def vAt (h : Heap) (vs : List Value) (j : Nat) : Array Value := match vs[j]? with | some (.ref T) => (match h.get? T with | some ⟨_, _, .seq xs _, _⟩ => xs | _ => #[]) | _ => #[]
noncomputable def texts (ps : List (Str × Str)) : List Str := ps.map fun p => Txt.join "" [p.1, p.2]
theorem pairs_at {Γ : Ctx} {h : Heap} {ρ : List Addr} {vs : List Value} {l : List D} {ps : List (Str × Str)} (r : VAll Γ h ρ vs l) (e : l = ps.map pairD) (j : Nat) (hj : j < vs.length) :
    ∃ T n a ta b tb, vs[j]? = some (.ref T) ∧ h.get? T = some { cls := .type "tuple", data := .seq #[.str a ta, .str b tb] n } ∧ ps[j]? = some (a, b) ∧ tAt vs j = T ∧ vAt h vs j = #[.str a ta, .str b tb] := by
  subst e
  have hjl : j < ps.length := by rw [r.length, List.length_map] at hj; exact hj
  obtain ⟨v, hv, hin⟩ := r.get (show (ps.map pairD)[j]? = some (pairD ps[j]) by rw [List.getElem?_map, List.getElem?_eq_getElem hjl]; rfl)
  obtain ⟨T, us, n, rfl, g, rr⟩ := hin.tup_inv
  obtain ⟨_, _, rfl, v1, v2⟩ := rr.inv2
  obtain ⟨_, rfl⟩ := v1.str_inv
  obtain ⟨_, rfl⟩ := v2.str_inv
  refine ⟨T, n, _, _, _, _, hv, g, List.getElem?_eq_getElem hjl, ?_, ?_⟩
  · unfold tAt; rw [hv]
  · unfold vAt; rw [hv]; simp only [g]
structure StrF (Γ : Ctx) (f c : Addr) (fd : FuncData) (e1 : Pos) (ap : Pos) (pos : Pos) (rp : Pos) (f1 : Pos) (f2 : Pos) (f3 : Pos) (f4 : Pos) (fap : Pos) (fpos : Pos) (fkk : Nat) (gs : Scope) (gp : Pos) (pa : Pos) (pb : Pos) (pt : Pos) (kt : Nat) (sp : Pos) : Prop where
  f0 : FnK Γ f fd [.Return (some (.Call (.Attribute (.Name "EMPTYSTRING" e1) "join" ap) [.GeneratorExp (.Call (.Attribute (.Name "EMPTYSTRING" f1) "join" fap) [.Tuple [.Name "fws" f2, .Name "part" f3] fkk f4] [] fpos) [⟨.Tuple [.Name "fws" pa, .Name "part" pb] kt pt, .Name "self" sp, [], 0⟩] gs gp] [] pos)) rp] []
  f1 : fd.code = .ref c
  f2 : (ap.endLine == pos.line) = true
  f3 : (fap.endLine == fpos.line) = true
  f4 : (∀ v, bindArgs fd ⟨[v], []⟩ = pure [(Str.ofString "self", v)])
  f5 : fd.scope.names.lookup (Str.ofString "self") = some .local
  f6 : fd.scope.names.lookup (Str.ofString "EMPTYSTRING") = some .globalImplicit
  f7 : gs.isCoroutine = false
  f8 : (∀ x ∈ gs.names, x.2 ≠ .free)
  f9 : (∀ x ∈ gs.names, x.2 ≠ .cell)
  f10 : gs.names.lookup (".0" : Str) = some .local
  f11 : gs.names.lookup (Str.ofString "fws") = some .local
  f12 : gs.names.lookup (Str.ofString "part") = some .local
  f13 : gs.names.lookup (Str.ofString "EMPTYSTRING") = some .globalImplicit
  f14 : gs.kind = .function
structure StrFn (Γ : Ctx) (f c : Addr) (te : Tok) : Prop where
  fn : ∃ fd e1 ap pos rp f1 f2 f3 f4 fap fpos fkk gs gp pa pb pt kt sp, StrF Γ f c fd e1 ap pos rp f1 f2 f3 f4 fap fpos fkk gs gp pa pb pt kt sp
  glob : GlobIs Γ.h₀ (Str.ofString "EMPTYSTRING") (.str "" te)
section
variable {Γ : Ctx} {A : Around} {s : Shared} {x dx : Addr} {ρ : List Addr} {objs : List O} {K : Frag} {cd : ClassData} {f c P : Addr} {te : Tok}
set_option maxHeartbeats 4000000
theorem str_ok (H : ClsOk Γ K cd) (hfi : findIn K (.ref Γ.cA) "__iter__" = some (some (.builtin "list.__iter__"))) (T : TabOk Γ c P) (BM : BMain Γ.h₀) (F0 : StrFn Γ f c te) {m : Nat}
    (hA : AOk (m + 1) A) (hlim : Γ.h₀.NoLimit) (B : Base Γ s) (R : ObjsRep Γ s.heap ρ objs) {n : Nat} {l : List D} {d : Nat} {ps : List (Str × Str)} (hx : ρ[n]? = some x) (ho : objs[n]? = some (.acc l d))
    (hps : l = ps.map pairD) (hsz : ∀ p ∈ ps, p.1.length ≤ 100 ∧ p.2.length ≤ 100) (hlen : l.length ≤ 100) (hw : ((texts ps).map (·.length)).sum ≤ 100000) {Q : Post} {Q' : Value → Shared → Prop} (hq : Q (.str (Txt.join "" (texts ps))) objs) (hd : Done Γ ρ s Q Q') :
    wpAny (model Γ.prog Γ.w) A (call (.ref f) [.ref x]) Q' NoE s := by
  refine hide fun G9 hG9 => ?_
  obtain ⟨⟨fd, e1, ap, pos, rp, f1, f2, f3, f4, fap, fpos, fkk, gs, gp, pa, pb, pt, kt, sp, F, hcode, hline1, hline2, hbind, hks, hkE, g1, g2, g3, g4, g5, g6, g7, g8⟩, hglob⟩ := F0
  refine hG9 ?_; clear hG9
  refine enter_fn F hA hlim B R (loc := [(Str.ofString "self", some (.obj n))]) (BindsTo.of_eq (hbind _)) (fun y hy => by rw [List.mem_singleton.mp hy]; exact hks) (fun y d' hy => ?_) fun s₁ R₁ k₁ e₁ hA₁ => ?_
  · unfold getLo at hy
    split at hy
    · rename_i e; subst e; cases hy
      exact .inl ⟨_, rfl, .obj hx⟩
    · cases hy
  refine hide fun G9 hG9 => ?_
  obtain ⟨h₁, tk₁, rfl⟩ := e₁
  refine hG9 ?_; clear hG9
  have kp1 := R₁.base.keep
  refine _root_.PySem.wpAt_of_wpAny (wpAny_execs_cons (wpAny_Return_some ?_))
  refine wpAny_Call_method (T := "str") (id := "str.join") rfl rfl hline1 PySem.F.plainAttrs_str PySem.F.slot_str_join PySem.F.type_str_join (wpAny_Name (load_glob0 kp1 F.kind F.glob F.blt hkE hglob ⟨typeIs_str _ _ _, (fun _ e => nomatch e), ?_⟩) (by decide))
  refine meth_call (M := model Γ.prog Γ.w) rfl ?_
  refine wpAny_GeneratorExp_walksQTD hA₁.1 g1 (closureFor_none g2) g3 g4 g5 g6 (by decide) g8 (by have := hA₁.2.1; omega) ?_ (fun x => rfl)
  obtain ⟨v1, hr1, hi1⟩ := R₁.fr.loc (Str.ofString "self") (.obj n) (by simp [getLo])
  have hv1 : v1 = .ref x := by
    obtain ⟨_, rfl, e⟩ := hi1.obj_inv; rw [hx] at e; cases e; rfl
  subst hv1
  refine wpAny_Name (load_reads R₁.fr hr1 (by decide) ?_) (by decide)
  refine hide fun G9 hG9 => ?_
  obtain ⟨vs, nn, dx, hxo, hdx, r⟩ := R₁.objs.rel n x _ hx ho
  refine hG9 ?_; clear hG9
  have hlim1 : h₁.NoLimit := hlim.keeps kp1
  refine acc_iter H hfi kp1 hxo ⟨hlim1.push _, ?_⟩
  generalize hIt : h₁.objs.size = It
  have hk2 : ∀ b o, h₁.get? b = some o → (h₁.push { cls := .type "list_iterator", data := .fields #[.ref x, .int 0 0] }).get? b = some o := keep_push _ _
  have hIto : (h₁.push { cls := .type "list_iterator", data := .fields #[.ref x, .int 0 0] }).get? It = some { cls := .type "list_iterator", data := .fields #[.ref x, .int 0 0] } := hIt ▸ Heap.get?_push_size _ rfl
  have hItn : h₁.get? It = none := hIt ▸ fresh_none _
  generalize h₁.push { cls := .type "list_iterator", data := .fields #[.ref x, .int 0 0] } = h₂ at hk2 hIto ⊢
  have B₂ : Base Γ { s with heap := h₂, toks := tk₁ } := R₁.base.keepAll (s' := { s with heap := h₂, toks := tk₁ }) hk2 rfl
  refine gen_code (s := { s with heap := h₂, toks := tk₁ }) (h₀' := h₁) T B₂.keep B₂.ti hcode fun code h₃ tk₃ ps₃ k₃ hP₃ ht₃ hsz₃ => ?_
  have hP0 : Γ.h₀.get? P = none := T.off
  have kp3 : ∀ a o, Γ.h₀.get? a = some o → h₃.get? a = some o := fun a o e => k₃ a o (fun q => by subst q; rw [hP0] at e; cases e) (B₂.keep a o e)
  refine hide fun G9 hG9 => ?_
  obtain ⟨mg, bm, ob, b1, b2, b3, b4, b5, b6, b7⟩ := BM.keeps kp3
  refine hG9 ?_; clear hG9
  refine wpAny_builtinsFor (s := { s with heap := h₃, toks := tk₃ }) (m := mg) (by show h₃.Ns (callEnv fd s.heap.objs.size f).globals mg; rw [show (callEnv fd s.heap.objs.size f).globals = mainGlobals from F.glob]; exact b1) b2 b3 b4 b5 b6 b7 ?_
  -- what is known of the old objects
  have notP : ∀ a o, h₁.get? a = some o → (∃ ps, o = tabObj ps) ∨ a ≠ P := fun a o e => by
    by_cases q : a = P
    · subst q
      obtain ⟨ps0, q1, _⟩ := T.code _ R₁.base.ti
      rw [show h₁.get? a = some (tabObj ps0) from q1] at e; cases e
      exact .inl ⟨_, rfl⟩
    · exact .inr q
  have k13 : ∀ a o, h₁.get? a = some o → (∀ ps, o ≠ tabObj ps) → h₃.get? a = some o := fun a o e hne => by
    rcases notP a o e with ⟨ps, q⟩ | q
    · exact absurd q (hne ps)
    · exact k₃ a o q (hk2 a o e)
  have hItP : It ≠ P := fun q => by
    obtain ⟨ps0, q1, _⟩ := T.code _ R₁.base.ti
    rw [← q, show h₁.get? It = none from hItn] at q1; cases q1
  have hxo3 : h₃.get? x = some ⟨.ref Γ.cA, some dx, .seq vs.toArray nn, #[]⟩ := k13 _ _ hxo fun ps q => by cases q
  have hIt3 : h₃.get? It = some { cls := .type "list_iterator", data := .fields #[.ref x, .int 0 0] } := k₃ _ _ hItP hIto
  have hxIt : x ≠ It := fun q => by rw [q, hItn] at hxo; cases hxo
  have PT : ∀ j, j < vs.length → ∃ T n a ta b tb, vs[j]? = some (.ref T) ∧ h₃.get? T = some { cls := .type "tuple", data := .seq #[.str a ta, .str b tb] n } ∧ ps[j]? = some (a, b) ∧ tAt vs j = T ∧ vAt h₁ vs j = #[.str a ta, .str b tb] ∧ T ≠ It := fun j hj => by
    refine hide fun G9 hG9 => ?_
    obtain ⟨T, n, a, ta, b, tb, z1, z2, z3, z4, z5⟩ := pairs_at r hps j hj
    refine hG9 ?_; clear hG9
    exact ⟨T, n, a, ta, b, tb, z1, k13 _ _ z2 (fun ps q => by cases q), z3, z4, z5, fun q => by rw [q, show h₁.get? It = none from hItn] at z2; cases z2⟩
  have hpsl : ps.length = vs.length := by rw [r.length, hps, List.length_map]
  have hlim3 : h₃.NoLimit := hlim.keeps kp3
  have hItlt : It < h₃.objs.size := Heap.lt_size hIt3
  refine ⟨It, It :: x :: (List.range vs.toArray.size).map (tAt vs), [It], vs.toArray.size, (fun j v => j < vs.toArray.size ∧ v = vAt h₁ vs j), _, _, (fun _ => true), (fun i y => ∃ a b t, ps[i]? = some (a, b) ∧ y = .str (Txt.join "" [a, b]) t), rfl,
    (fun A' hA' => walksU_acc hA' It x hxIt vs.toArray (tAt vs) (vAt h₁ vs) (fun j hj => ?_) fun j hj => ?_), (fun i vals hv => ?_), ⟨⟨_, hIt3, rfl, rfl⟩, ⟨_, nn, hxo3, rfl⟩, fun k hk => ?_⟩, (fun b hb => ?_), hlim3, ?_, (fun href hh => ?_), fun a h₅ tk₅ gs₅ hgb hag hsz₅ k₅ W hat => ?_⟩
  · refine hide fun G9 hG9 => ?_
    obtain ⟨T, n, a, ta, b, tb, z1, z2, z3, z4, z5, z6⟩ := PT j (by simpa using hj)
    refine hG9 ?_; clear hG9
    rw [z4]; simpa using z1
  · refine hide fun G9 hG9 => ?_
    obtain ⟨T, n, a, ta, b, tb, z1, z2, z3, z4, z5, z6⟩ := PT j (by simpa using hj)
    refine hG9 ?_; clear hG9
    rw [z4]; exact z6
  · refine hide fun G9 hG9 => ?_
    obtain ⟨T, n, a, ta, b, tb, z1, z2, z3, z4, z5, z6⟩ := PT i (by simpa using hv.1)
    refine hG9 ?_; clear hG9
    exact ⟨_, _, hv.2.trans z5⟩
  · refine hide fun G9 hG9 => ?_
    obtain ⟨T, n, a, ta, b, tb, z1, z2, z3, z4, z5, z6⟩ := PT k (by simpa using hk)
    refine hG9 ?_; clear hG9
    rw [z4, z5]
    exact ⟨_, z2, rfl, _, rfl⟩
  · rcases List.mem_cons.mp hb with rfl | hb
    · exact hItlt
    · rcases List.mem_cons.mp hb with rfl | hb
      · exact Heap.lt_size hxo3
      · refine hide fun G9 hG9 => ?_
        obtain ⟨j, hj, rfl⟩ := List.mem_map.mp hb
        obtain ⟨T, n, a, ta, b, tb, z1, z2, z3, z4, z5, z6⟩ := PT j (by simpa using hj)
        refine hG9 ?_; clear hG9
        rw [z4]; exact Heap.lt_size z2
  · intro hm
    rw [List.mem_singleton] at hm
    refine hide fun G9 hG9 => ?_
    obtain ⟨_, ⟨o, es, ep, q1, q2, _⟩, _⟩ := hlim3
    refine hG9 ?_; clear hG9
    rw [hm, hIt3] at q1; cases q1; cases q2
  · constructor
    · intro A' E' i va vb s₂ m₂ ha' hd' hu' hv hn hma hmb hk
      exact wpAny_tests_nil ⟨rfl, ⟨s₂.heap, s₂.toks, rfl, fun _ _ e => e⟩⟩
    · intro A' E' i va vb s₂ m₂ ha' hd' hu' hv _ hn hma hmb hk
      refine hide fun G9 hG9 => ?_
      obtain ⟨T, n, a, ta, b, tb, z1, z2, z3, z4, z5, z6⟩ := PT i (by simpa using hv.1)
      refine hG9 ?_; clear hG9
      have e := hv.2.trans z5
      cases e
      have hp : a.length ≤ 100 ∧ b.length ≤ 100 := hsz _ (List.mem_of_getElem? z3)
      refine join_pair (h := Γ.h₀) (m := m₂) ?_ g8 F.glob rfl ?_ hglob ?_ ?_ hn hma hmb (by decide) (by decide) (by decide) hline2 (by omega) (by omega) (by decide) fun t' h' k kk => ⟨⟨a, b, t', z3, rfl⟩, ?_⟩
      · intro q o' eo
        have e3 := kp3 q o' eo
        refine hk q (List.mem_range.mpr (Heap.lt_size e3)) (fun hm => ?_) _ (hh _ _ e3)
        rw [List.mem_singleton.mp hm] at eo
        have := kp1 _ _ eo
        rw [show h₁.get? It = none from hItn] at this; cases this
      · exact g7
      · exact g5
      · exact g6
      · exact ⟨h', k, rfl, kk⟩
  · have hT : ∀ i s', GenAt Γ.prog Γ.w (A.deeper (callEnv fd s.heap.objs.size f)).in4 a s.gens.size h₃.objs.size (List.range h₃.objs.size) [It] (fun _ => true) vs.toArray.size (fun i y => ∃ a b t, ps[i]? = some (a, b) ∧ y = .str (Txt.join "" [a, b]) t) i s' → s'.TypeIs (.ref a) "generator" := fun i s' st => st.1.typeIs
    rw [passing_all, List.length_range] at W
    have W2 := W.in4_2
    refine SC.joinGen W2 hT hat (fun b hb => ?_) (List.mem_cons_self ..) (fun i v hv => ?_) (fun s' lt hm hacc => ?_) ?_
    · rw [hsz₅]
      rcases List.mem_cons.mp hb with rfl | hb
      · exact Nat.lt_succ_self _
      · rcases List.mem_cons.mp hb with rfl | hb
        · exact Nat.lt_succ_of_lt hag
        · exact Nat.lt_succ_of_lt (Nat.lt_trans (List.mem_range.mp hb) hag)
    · refine hide fun G9 hG9 => ?_
      obtain ⟨i', _, a', b', t', _, q⟩ := hv
      refine hG9 ?_; clear hG9
      exact ⟨_, _, q⟩
    · have hl : lt.map (·.1) = texts ps := by
        apply List.ext_getElem?
        intro j
        have hsz' : lt.length = vs.length := by simpa [strValues] using hacc.1
        by_cases hj : j < vs.length
        · have hj' : j < lt.length := hsz' ▸ hj
          refine hide fun G9 hG9 => ?_
          obtain ⟨i', hi', a', b', t', z1, z2⟩ := hacc.2 j (.str lt[j].1 lt[j].2) (by simp [strValues, List.getElem?_eq_getElem hj'])
          refine hG9 ?_; clear hG9
          rw [List.getElem?_range (by simpa using hj)] at hi'
          cases hi'
          injection z2 with z3 _
          simp [texts, List.getElem?_eq_getElem hj', z1, z3]
        · rw [List.getElem?_eq_none (by simpa [hsz'] using Nat.le_of_not_lt hj), List.getElem?_eq_none (by simpa [texts, hpsl] using Nat.le_of_not_lt hj)]
      rw [hl]
      refine ⟨joinOk_of_weight ?_ (by decide), fun t' k => ?_⟩
      · have : (texts ps).length = l.length := by simp [texts, hpsl, r.length]
        omega
      · show Q' (.str (Txt.join "" (texts ps)) t') { s' with toks := k }
        have kf : ∀ b o, b ≠ h₃.objs.size → b ≠ It → h₅.get? b = some o → s'.heap.get? b = some o := fun b o n1 n2 e => hm.heap b o (fun q => by
          rcases List.mem_cons.mp q with q | q
          · exact n1 q
          · exact n2 (List.mem_singleton.mp q)) e
        have hg5 : AllBare s'.gens := AllBare.moved (AllBare.push (show AllBare s.gens from B.gens) hgb) hm.gens
        have hP5 : s'.heap.get? P = some (tabObj ps₃) := kf _ _ (Nat.ne_of_lt (Heap.lt_size hP₃)) (fun q => hItP q.symm) (k₅ _ _ hP₃)
        have kk : ∀ b o, b ≠ P → s.heap.get? b = some o → s'.heap.get? b = some o := fun b o n1 e => by
          have e1 := k₁ b o e
          have e3 := k₃ b o n1 (hk2 b o e1)
          refine kf b o (Nat.ne_of_lt (Heap.lt_size e3)) (fun q => ?_) (k₅ _ _ e3)
          rw [q, show h₁.get? It = none from hItn] at e1; cases e1
        obtain ⟨B', R', x'⟩ := tab_back T B R (s' := { s' with toks := k }) kk hP5 ht₃ hg5 hm.os
        exact hd _ objs ρ _ _ hq B' R' x' (.str _ _)
    · have : vs.length = l.length := r.length
      simp only [List.size_toArray]
      have h2 : (100 : Nat) ≤ sizeLine := by size_fits
      omega
end
end Acc
end Mine

end
section
open PySem PySem.W PySem.Spec PySem.Calls PyProof.Rows
set_option Elab.async false
set_option maxRecDepth 100000
set_option linter.unusedVariables false
namespace Mine
namespace Acc
section
variable {Γ : Ctx} {A : Around} {s : Shared} {x dx : Addr} {ρ : List Addr} {objs : List O} {K : Frag} {cd : ClassData}
set_option maxHeartbeats 2000000
structure GetOk (Γ : Ctx) (K : Frag) : Prop where
  ga : ∃ g, findIn K (.ref Γ.cA) "__getattribute__" = some (some (.builtin g)) ∧ Manifest.canonical g = "object.__getattribute__"
  na : findIn K (.ref Γ.cA) "__getattr__" = some none
theorem acc_method (H : ClsOk Γ K cd) (G : GetOk Γ K) (k : ∀ a o, Γ.h₀.get? a = some o → s.heap.get? a = some o) {vs : Array Value} {n : Nat} (hx : s.heap.get? x = some ⟨.ref Γ.cA, some dx, .seq vs n, #[]⟩) {mm : Str → Option Value} (hns : s.heap.Ns dx mm)
    {m : Str} (hm : mm m = none) {f tf : Value} (hf : findIn K (.ref Γ.cA) m = some (some f)) (hty : typeIn K f = some tf) (htf : tf = .type "function" ∨ tf = .type "method_descriptor") {pl : Sem Bool} {QQ : Value × List Value → Shared → Prop} {E : Value → Shared → Prop} (q : QQ (f, [.ref x]) s) :
    wpAny (model Γ.prog Γ.w) A (getMethod (.ref x) m pl) QQ E s := by
  have X := H.X.keeps k
  have T : Looks (model Γ.prog Γ.w) s.heap (typeOf (.ref x)) (.ref Γ.cA) := (Looks.ld hx).andThen .now
  obtain ⟨g, hg, hc⟩ := G.ga
  have S1 : Looks (model Γ.prog Γ.w) s.heap (specialOf (.ref x) "__getattribute__") (some (.builtin g)) := T.andThen (looks_findIn X hg)
  have S2 : Looks (model Γ.prog Γ.w) s.heap (specialOf (.ref x) "__getattr__") none := T.andThen (looks_findIn X G.na)
  have S3 : Looks (model Γ.prog Γ.w) s.heap (specialOf (.ref x) m) (some f) := T.andThen (looks_findIn X hf)
  unfold getMethod
  refine wpAny_bind (S1.here ?_)
  dsimp only
  rw [hc]
  refine KFB.if_not (by decide) (wpAny_bind (S2.here ?_))
  refine KFB.if_not rfl (wpAny_bind (S3.here ?_))
  dsimp only
  refine wpAny_bind ((looks_typeIn X hty).here ?_)
  have hcond : (tf != .type "function" && tf != .type "method_descriptor" && tf != .type "wrapper_descriptor") = false := by rcases htf with rfl | rfl <;> decide
  refine KFB.if_not hcond ?_
  refine wpAny_bind (wpAny_loadPart hx ?_)
  dsimp only
  refine wpAny_bind (wpAny_nsGet hns ?_)
  rw [hm]
  refine KFB.if_not rfl ?_
  exact wpAny_bind (wpAny_rule (wpAny_pure q))
theorem typeCall_at {prog : Program} {w : World} {T newId : String} {Bn : Builtin} {args : List Value} {Q : Value → Shared → Prop} {E : Value → Shared → Prop} (ft : TypeCalled T newId "object.__init__") (hne : (some newId != some "object.__new__") = true)
    (hct : checkTypeCall T ⟨args, []⟩ = pure ()) (hcn : checkBuiltinCall newId ⟨.type T :: args, []⟩ = pure ()) (hok : ∀ obj, argsOk "object.__init__" ⟨obj :: args, []⟩)
    (entryN : entryFor table newId = some Bn) (g : wpAny (model prog w) A.in1.in1 (Bn ⟨.type T :: args, []⟩) (fun fin s' => ∃ obj, fin = .done (.ret obj) ∧ s'.TypeIs obj T ∧ Q obj s') E s) :
    wpAny (model prog w) A (call (.type T) args) Q E s := by
  obtain ⟨c, tl, hmro⟩ := ft.mro
  have hmade := ft.made
  have hsub := ft.sub
  refine wpAny_call (codeAny_of_tree ?_)
  show wpAny _ _ (callAny (.type T) _) _ _ _
  refine wpAny_pure ⟨Code.quiet_builtin _ (by decide +kernel), codeAny_builtin PySem.F.entry_type_call ?_⟩
  rw [Around.under_plain (weight_type_call_type T args []) (units_type_call_type T args [])]
  have h1 := ft.notType
  have h2 := ft.canCreate
  repeat (any_goals (first | assumption | wp_step))
  refine codeAny_call_builtin ft.plain entryN (wpAny_of_eq hcn (wpAny_mono g (fun fin s₁ hr => ?_) fun _ _ e => e))
  obtain ⟨obj, rfl, hT, hq⟩ := hr
  have hli := ft.init.lookup
  have hbi := ft.init.bind obj
  show wpAny _ _ _ _ _ _
  repeat (any_goals (first | assumption | wp_step))
  have hb : codeAny (model prog w) A.in1 (.call (.builtin "object.__init__") ⟨obj :: args, []⟩) (fun r s₂ => r = .ok (.ret .none) ∧ Q obj s₂) s₁ :=
    codeAny_call_builtin ft.init.plain PySem.F.entry_object_init (ft.init.check _ _ _ _ _ _ _ _ hT (hok obj) ((object_init_meets hli hmade hne) prog w _ (fun r s₂ => r = .ok (.ret .none) ∧ Q obj s₂) s₁ ⟨hT, rfl, hq⟩))
  refine codeAny_mono hb fun r₂ s₂ hr₂ => ?_
  obtain ⟨rfl, hq⟩ := hr₂
  repeat (any_goals (first | assumption | wp_step))
theorem str_acc (H : ClsOk Γ K cd) {sf : Addr} (hf : findIn K (.ref Γ.cA) "__str__" = some (some (.ref sf))) (hty : typeIn K (.ref sf) = some (.type "function")) (k : ∀ a o, Γ.h₀.get? a = some o → s.heap.get? a = some o)
    {vs : Array Value} {n : Nat} (hx : s.heap.get? x = some ⟨.ref Γ.cA, some dx, .seq vs n, #[]⟩) (hu : A.units + 10 < cLine) {Q : Value → Shared → Prop}
    (h : wpAny (model Γ.prog Γ.w) A.in1.in1 (call (.ref sf) [.ref x]) (fun r s' => ∃ y t, r = .str y t ∧ Q r s') NoE s) : wpAny (model Γ.prog Γ.w) A (call (.type "str") [.ref x]) Q NoE s := by
  refine typeCall_at PySem.F.called_str (by decide) (PySem.F.typeCall_str_1 _) (PySem.F.newCall_str_1 _) (fun obj => PySem.F.args_object_init_2 obj _) PySem.F.entry_str_new ?_
  rw [str_new_tree]
  refine wpAny_bind (wpAny_pure ?_)
  refine wpAny_bind (wpAny_of_eq isSubtype_str_str ?_)
  refine wpAny_bind ?_
  have X := H.X.keeps k
  have T : Looks (model Γ.prog Γ.w) s.heap (typeOf (.ref x)) (.ref Γ.cA) := (Looks.ld hx).andThen .now
  have S : Looks (model Γ.prog Γ.w) s.heap (specialOf (.ref x) "__str__") (some (.ref sf)) := T.andThen (looks_findIn X hf)
  unfold Builtin.Str.strOf
  refine KFB.if_not rfl ?_
  refine wpAny_bind (wpAny_cRoomFor (by show A.units + 1 + 1 < _; omega) ?_)
  unfold callSpecial? bindSpecial
  refine wpAny_bind (wpAny_bind (S.here ?_))
  dsimp only
  refine wpAny_holding (wpAny_bind (wpAny_bind ((looks_typeIn X hty).here ?_)))
  rw [if_pos (by rfl)]
  refine wpAny_pure ?_
  dsimp only
  refine wpAny_bind (wpAny_mono h (fun r s' hr => ?_) fun _ _ e => e)
  obtain ⟨y, t, rfl, hq⟩ := hr
  refine wpAny_pure ?_
  exact wpAny_pure (wpAny_pure ⟨_, rfl, typeIs_str _ _ _, hq⟩)
end
end Acc
end Mine

end
section
open PySem PySem.W PySem.Spec PySem.Calls PyProof.Rows
set_option Elab.async false
set_option maxRecDepth 100000
set_option linter.unusedVariables false
namespace Mine
namespace Acc
theorem lap_kind : builtinKind "list.append" = some .method := by decide +kernel
theorem lap_split : splitId "list.append" = some ("list", "append") := by decide +kernel
section
variable {Γ : Ctx} {A : Around} {s : Shared} {x dx : Addr} {ρ : List Addr} {objs : List O} {K : Frag} {cd : ClassData}
set_option maxHeartbeats 2000000
theorem check_meth {M : Model} {E : Value → Shared → Prop} {i owner n : String} {self : Value} {rest : List Value} {kw : List (Str × Value)} {Q : Unit → Shared → Prop}
    (hk : builtinKind i = some .method) (hs : splitId i = some (owner, n)) (hi : Looks M s.heap (isInstance self (.type owner)) true) (ha : argsOk i ⟨self :: rest, kw⟩) (q : Q () s) :
    wpAny M A (checkBuiltinCall i ⟨self :: rest, kw⟩) Q E s := by
  simp only [checkBuiltinCall, hk, hs]
  refine wpAny_bind (hi.here ?_)
  simp only [Bool.not_true, Bool.false_eq_true, if_false]
  cases hsig : Manifest.signature? i with
  | none => exact wpAny_pure q
  | some sig =>
    simp only [argsOk, hsig] at ha
    have h2 : Bind.checkArgs i sig ⟨self :: rest, kw⟩ = pure () := ha
    show wpAny M A (Bind.checkArgs i sig ⟨self :: rest, kw⟩) Q E s
    rw [h2]; exact wpAny_pure q
theorem acc_append (H : ClsOk Γ K cd) (k : ∀ a o, Γ.h₀.get? a = some o → s.heap.get? a = some o) {vs : List Value} {n : Nat} (hx : s.heap.get? x = some ⟨.ref Γ.cA, some dx, .seq vs.toArray n, #[]⟩) (hl : vs.length ≤ 1000) {v : Value} {Q : Value → Shared → Prop} {E : Value → Shared → Prop}
    (h : ∀ h' n', h'.get? x = some ⟨.ref Γ.cA, some dx, .seq (vs ++ [v]).toArray n', #[]⟩ → Heap.SameBut x s.heap h' → Q .none { s with heap := h' }) :
    wpAny (model Γ.prog Γ.w) A (call (.builtin "list.append") [.ref x, v]) Q E s := by
  refine wpAny_call (codeAny_call_builtin (by decide +kernel) entry_list_append (check_meth lap_kind lap_split (isList_acc H k hx) (args_list_append _ _) ?_))
  show wpAny _ _ (updateSeq x (·.push v) >>= fun _ => ret .none) _ _ s
  refine wpAny_bind ?_
  have hf : (fun xs : Array Value => xs.push v) vs.toArray = (vs ++ [v]).toArray := by simp
  obtain ⟨n', e⟩ := upd_acc (ws := vs ++ [v]) (fun xs : Array Value => xs.push v) hf hx
  refine wpAny_updateSeq hx rfl ?_ (by rw [List.size_toArray, sizeLine_eq]; omega) (by have := congrArg Array.size hf; rw [this, List.size_toArray, sizeLine_eq]; simp; omega)
  exact wpAny_pure (h _ n' e (Heap.SameBut.update ..))
inductive AppB (v : Value) (ds : List D) (o : List O) (Q : Post) : Prop where
  | mk {n : Nat} {d : D} {l : List D} {dd : Nat} : v = .builtin "list.append" → ds = [.obj n, d] → o[n]? = some (.acc l dd) → l.length ≤ 1000 → Q .none (o.set n (.acc (l ++ [d]) dd)) → AppB v ds o Q
theorem app_ok (H : ClsOk Γ K cd) (v : Value) : PS Γ A (fun vs => call v vs) (AppB v) := by
  intro ds objs Q s ρ vs Q' B R hf hv hd
  obtain ⟨rfl, rfl, g1, g2, g3⟩ := hf
  obtain ⟨_, _, rfl, h1, h2⟩ := hv.inv2
  obtain ⟨_, rfl, e1⟩ := h1.obj_inv
  obtain ⟨vs, n, dx, hxo, hdx, r⟩ := R.rel _ _ _ e1 g1
  refine acc_append H B.keep hxo (by rw [r.length]; exact g2) fun h' n' hx' hs => ?_
  exact hd.change (o' := .acc _ _) B R e1 g1 s.toks hs hx' (fun T x' => ⟨_, n', dx, hx', prefix_get x'.pre hdx, (r.ext x').append (.cons (h2.ext x') .nil)⟩) .none g3
inductive StrB (v : Value) (ds : List D) (o : List O) (Q : Post) : Prop where
  | mk {n : Nat} {l : List D} {dd : Nat} {ps : List (Str × Str)} : v = .type "str" → ds = [.obj n] → o[n]? = some (.acc l dd) → l = ps.map pairD → (∀ p ∈ ps, p.1.length ≤ 100 ∧ p.2.length ≤ 100) → l.length ≤ 100 → ((texts ps).map (·.length)).sum ≤ 100000 → Q (.str (Txt.join "" (texts ps))) o → StrB v ds o Q
theorem strb_ok (H : ClsOk Γ K cd) (hfi : findIn K (.ref Γ.cA) "__iter__" = some (some (.builtin "list.__iter__"))) {c P sf : Addr} {te : Tok} (T : TabOk Γ c P) (BM : BMain Γ.h₀) (F0 : StrFn Γ sf c te)
    (hf : findIn K (.ref Γ.cA) "__str__" = some (some (.ref sf))) (hty : typeIn K (.ref sf) = some (.type "function")) (hlim : Γ.h₀.NoLimit) (hA : AOk 3 A) (v : Value) : PS Γ A (fun vs => call v vs) (StrB v) := by
  intro ds objs Q s ρ vs Q' B R hq hv hd
  obtain ⟨rfl, rfl, g1, q1, q2, q3, q4, q5⟩ := hq
  obtain ⟨_, rfl, h1⟩ := hv.inv1
  obtain ⟨_, rfl, e1⟩ := h1.obj_inv
  obtain ⟨vs, n, dx, hxo, hdx, r⟩ := R.rel _ _ _ e1 g1
  have hA2 : AOk 2 A.in1.in1 := ⟨hA.1, by have := hA.2.1; show A.depth + _ < _; omega, by have := hA.2.2.1; show A.units + 1 + 1 + _ < _; omega, hA.2.2.2⟩
  refine str_acc H hf hty B.keep hxo (by have := hA.2.2.1; omega) ?_
  refine str_ok H hfi T BM F0 hA2 hlim B R e1 g1 q1 q2 q3 q4 (Q := fun v o => v = .str (Txt.join "" (texts _)) ∧ o = objs) ⟨rfl, rfl⟩ ?_
  intro d o' ρ' v s' hq b o x hv
  obtain ⟨rfl, rfl⟩ := hq
  cases hv
  exact ⟨_, _, rfl, hd _ _ ρ' _ s' q5 b o x (.str _ _)⟩
end
end Acc
end Mine

end
section
open PySem PySem.W PySem.Spec PySem.Calls PyProof.Rows
set_option Elab.async false
set_option maxRecDepth 100000
set_option linter.unusedVariables false
namespace Mine
theorem AOk.under_call {n : Nat} {A : Around} (h : AOk (n + 1) A) (c : Addr) : AOk n (A.under (.builtin "type.__call__" ⟨[.ref c], []⟩)) := by
  obtain ⟨h1, h2, h3, l, h4⟩ := h
  refine ⟨h1, ?_, ?_, l, ?_⟩
  · have e : (Code.builtin "type.__call__" ⟨[.ref c], []⟩).weight = 1 := rfl
    show A.depth + (Code.builtin "type.__call__" ⟨[.ref c], []⟩).weight + n < _
    rw [e]; omega
  · show A.units + 1 + 8 * n + 300 < _; omega
  · show A.frames = _; exact h4
namespace Acc
section
variable {Γ : Ctx} {P : PCtx} {A : Around} {s : Shared} {x dx : Addr} {ρ : List Addr} {objs : List O} {K : Frag} {cd : ClassData}
set_option maxHeartbeats 2000000
theorem cls_call (H : ClsOk Γ K cd) (HF : ClsFull Γ) (hm : lmakesIn K Γ.cA) {f cc : Addr} (hi : findIn K (.ref Γ.cA) "__init__" = some (some (.ref f))) (hty : typeIn K (.ref f) = some (.type "function")) (F0 : InitFn Γ P f cc) {m : Nat} (OC : Orc Γ m P) (hE : ∀ env, P.E env)
    (hA : AOk (m + 2) A) (hlim : Γ.h₀.NoLimit) (B : Base Γ s) (R : ObjsRep Γ s.heap ρ objs) {Q : Post} {Q' : Value → Shared → Prop} (hq : Q (.obj (objs.length + 1)) (objs ++ [.idict] ++ [.acc [] objs.length])) (hd : Done Γ ρ s Q Q') :
    wpAny (model Γ.prog Γ.w) A (call (.ref Γ.cA) []) Q' NoE s := by
  obtain ⟨h, g, d, t, os⟩ := s
  have X := H.X.keeps B.keep
  have Y := lmakes_of (M := model Γ.prog Γ.w) X hm
  have hl := looks_findIn (M := model Γ.prog Γ.w) X hi
  have hb : ∀ self, Looks (model Γ.prog Γ.w) h (bindSpecial (.ref f) self) (.ref f, [self]) := fun self => by
    intro A' Q E s k q
    unfold bindSpecial
    refine wpAny_bind (looks_typeIn X hty _ _ _ s k ?_)
    rw [if_pos (by rfl)]
    exact wpAny_pure q
  refine wpAny_call (lmake Y hl hb ?_)
  have k1 : ∀ a o, h.get? a = some o → (h.push emptyDict).get? a = some o := keep_push _ _
  have k2 : ∀ a o, (h.push emptyDict).get? a = some o → ((h.push emptyDict).push (accObj Γ.cA h.objs.size)).get? a = some o := keep_push _ _
  have e1 : (h.push emptyDict).get? h.objs.size = some emptyDict := Heap.get?_push_size _ rfl
  have hsz : (h.push emptyDict).objs.size = h.objs.size + 1 := Heap.size_push ..
  have e2 : ((h.push emptyDict).push (accObj Γ.cA h.objs.size)).get? (h.objs.size + 1) = some (accObj Γ.cA h.objs.size) := by
    have := Heap.get?_push_size (h.push emptyDict) (o := accObj Γ.cA h.objs.size) rfl
    rw [hsz] at this; exact this
  have B1 : Base Γ ⟨h.push emptyDict, g, d, t, os⟩ := B.keepAll (s' := ⟨h.push emptyDict, g, d, t, os⟩) k1 rfl
  have B2 : Base Γ ⟨(h.push emptyDict).push (accObj Γ.cA h.objs.size), g, d, t, os⟩ := B1.keepAll (s' := ⟨(h.push emptyDict).push (accObj Γ.cA h.objs.size), g, d, t, os⟩) k2 rfl
  have ns0 : (h.push emptyDict).Ns h.objs.size fun _ => none := ⟨_, #[], _, e1, rfl, fun e he => absurd he (by simp), fun _ => rfl⟩
  have R1 : ObjsRep Γ (h.push emptyDict) (ρ ++ [h.objs.size]) (objs ++ [.idict]) := R.alloc (s := ⟨h, g, d, t, os⟩) (s' := ⟨h.push emptyDict, g, d, t, os⟩) k1 (fresh_none _) (fresh_base B) (fresh_tab B) (o := .idict) ⟨_, ns0, fun _ _ => rfl⟩
  have hne1 : (h.push emptyDict).get? (h.objs.size + 1) = none := by rw [← hsz]; exact fresh_none _
  have hl1 : (ρ ++ [h.objs.size])[objs.length]? = some h.objs.size := by rw [List.getElem?_append_right (Nat.le_of_eq R.len), R.len, Nat.sub_self]; rfl
  have R2 : ObjsRep Γ ((h.push emptyDict).push (accObj Γ.cA h.objs.size)) (ρ ++ [h.objs.size] ++ [h.objs.size + 1]) (objs ++ [.idict] ++ [.acc [] objs.length]) :=
    R1.alloc (s := ⟨h.push emptyDict, g, d, t, os⟩) (s' := ⟨(h.push emptyDict).push (accObj Γ.cA h.objs.size), g, d, t, os⟩) k2 hne1 (by have := fresh_base B1; rwa [show (Shared.mk (h.push emptyDict) g d t os).heap.objs.size = h.objs.size + 1 from hsz] at this)
      (by have := fresh_tab B1; rwa [show (Shared.mk (h.push emptyDict) g d t os).heap.objs.size = h.objs.size + 1 from hsz] at this) (o := .acc [] objs.length) ⟨[], 0, h.objs.size, e2, prefix_get (List.prefix_append _ _) hl1, .nil⟩
  have x1 : Ext Γ.tabs ρ ⟨h, g, d, t, os⟩ (ρ ++ [h.objs.size]) ⟨h.push emptyDict, g, d, t, os⟩ := Ext.alloc (fresh_none _) k1 rfl
  have x2 : Ext Γ.tabs (ρ ++ [h.objs.size]) ⟨h.push emptyDict, g, d, t, os⟩ (ρ ++ [h.objs.size] ++ [h.objs.size + 1]) ⟨(h.push emptyDict).push (accObj Γ.cA h.objs.size), g, d, t, os⟩ := Ext.alloc hne1 k2 rfl
  have hl2 : (ρ ++ [h.objs.size] ++ [h.objs.size + 1])[objs.length]? = some h.objs.size := prefix_get (List.prefix_append _ _) hl1
  have hl3 : (ρ ++ [h.objs.size] ++ [h.objs.size + 1])[objs.length + 1]? = some (h.objs.size + 1) := by
    have e : (ρ ++ [h.objs.size]).length = objs.length + 1 := by simp [R.len]
    rw [List.getElem?_append_right (by omega), e, Nat.sub_self]; rfl
  have ho2 : (objs ++ [O.idict] ++ [.acc [] objs.length])[objs.length]? = some .idict := by simp
  have ho3 : (objs ++ [O.idict] ++ [.acc [] objs.length])[objs.length + 1]? = some (.acc [] objs.length) := by simp
  have fin := init_ok (s := ⟨(h.push emptyDict).push (accObj Γ.cA h.objs.size), g, d, t, os⟩) H HF F0 OC hE (hA.under_call Γ.cA) hlim B2 R2 hl3 ho3 ho2 hl2 e2 (k2 _ _ e1)
    (Q := fun v o => v = .none ∧ o = objs ++ [.idict] ++ [.acc [] objs.length]) (Q' := fun v s' => v = .none ∧ Q' (.ref (h.objs.size + 1)) s') ⟨rfl, rfl⟩ fun dd o' ρ' v s' hq' b o x' hv => ?_
  · refine codeAny_mono fin fun r s' z => ?_
    rcases r with e | (v | _ | _ | _) <;> first | exact z | exact z.elim
  · obtain ⟨rfl, rfl⟩ := hq'
    cases hv
    exact ⟨rfl, hd _ _ ρ' _ s' hq b o ((x1.trans x2).trans x') (.obj (prefix_get x'.pre hl3))⟩
end
end Acc
end Mine

end
section
open PySem PySem.W PySem.Spec PySem.Calls PyProof.Rows
set_option Elab.async false
set_option maxRecDepth 100000
set_option linter.unusedVariables false
namespace Mine
/-- some objects more are to stay as they are -/
noncomputable def Ctx.freeze (Γ : Ctx) (fr : List (Addr × Obj)) : Ctx := { Γ with
  tabs := fr.map (·.1) ++ Γ.tabs
  TI := fun h => Γ.TI h ∧ ∀ p ∈ fr, h.get? p.1 = some p.2
  tilive := fun h ⟨t, f⟩ a ha => by
    rcases List.mem_append.mp ha with q | q
    · obtain ⟨p, hp, rfl⟩ := List.mem_map.mp q
      exact ⟨_, f p hp⟩
    · exact Γ.tilive h t a q
  tiok := fun h h' ⟨t, f⟩ k => ⟨Γ.tiok h h' t fun a o e r => k a o e (r.imp (fun q => List.mem_append_right _ q) id), fun p hp => k _ _ (f p hp) (.inl (List.mem_append_left _ (List.mem_map_of_mem hp)))⟩ }
noncomputable def strsD (l : List Str) : List D := l.map .str
theorem strs_vall {Γ : Ctx} {h : Heap} {ρ : List Addr} {vs : List Value} {ns : List Str} (H : StrsAre vs ns) : VAll Γ h ρ vs (strsD ns) := by
  induction H with
  | nil => exact .nil
  | cons a b _ ih => exact .cons (.str _ _) ih
theorem allD_strs : ∀ l : List Str, allD strD (strsD l) = some l
  | [] => rfl
  | a :: r => by
    have := allD_strs r
    unfold strsD at this
    simp [strsD, allD, strD, this]
noncomputable def lamBody (S one : Str) (p1 p2 p3 p4 p5 : Pos) (kk : Nat) : Expr := .Tuple [.Subscript (.Name S p1) (.Name one p2) p3, .Name one p4] kk p5
section
variable {Γ : Ctx} {A : Around} {s : Shared}
set_option maxHeartbeats 1000000
/-- a call of the lambda: the pair of the card's place and the card -/
theorem lam_call {a x c : Addr} {name qual : Str} {params : Arguments} {S one : Str} {p1 p2 p3 p4 p5 : Pos} {kk : Nat} {scope : Scope} {pm cv ctv : Value} {es : List (Str × Value)} (hA : AOk 1 A) (hlim : s.heap.NoLimit)
    (ha : s.heap.get? a = some { cls := .type "function", data := .func (kla_fn name qual params (lamBody S one p1 p2 p3 p4 p5 kk) scope [(S, c)] pm cv ctv) }) (hcd : s.heap.CodeRec cv qual) (hc : s.heap.IsCell c (some (.ref x))) (hx : s.heap.DictOf (strKind Γ.prog Γ.w) x es)
    (hco : scope.isCoroutine = false) (hgen : scope.isGenerator = false) (hk : scope.kind = .function) (hcell : ∀ y ∈ scope.names, y.2 ≠ .cell) (hS : scope.names.lookup S = some .free) (hone : scope.names.lookup one = some .local) (dS : (S == ("__debug__" : Str)) = false) (dS2 : (S == ("__classdict__" : Str)) = false) (dO : (one == ("__debug__" : Str)) = false)
    {y : Str} {t : Tok} (hbind : ∀ v, bindArgs (kla_fn name qual params (lamBody S one p1 p2 p3 p4 p5 kk) scope [(S, c)] pm cv ctv) ⟨[v], []⟩ = pure [(one, v)]) {v : Value} (hv : valueAt es y = some v) {Q : Value → Shared → Prop}
    (q : ∀ h' tk T, (∀ b o, s.heap.get? b = some o → h'.get? b = some o) → h'.get? T = some { cls := .type "tuple", data := .seq #[v, .str y t] } → Q (.ref T) { s with heap := h', toks := tk }) :
    wpAny (model Γ.prog Γ.w) A (call (.ref a) [.str y t]) Q NoE s := by
  refine wpAny_call (kla_callFunE (by have := hA.2.1; omega) ha rfl hco hgen rfl hcd ?_)
  rw [hbind]
  refine wpAny_pure (wpAny_newFunctionEnv hcell (fun z hz => by rw [List.mem_singleton.mp hz]; exact hone) (fun h₁ hns hsb => ⟨hlim.fresh _ hsb, ?_⟩) hk)
  have hk₁ : ∀ b o, s.heap.get? b = some o → h₁.get? b = some o := fun b o e => hsb.extBut b o (Nat.ne_of_lt (Heap.lt_size e)) (Heap.get?_push_of_some _ e)
  refine kla_codeExpr ?_
  generalize hE : newEnv _ _ _ _ _ _ _ _ _ = env
  have e1 : env.scope.kind = .function := by rw [← hE]; exact hk
  have e2 : env.kindOf S = some .free := by rw [← hE]; exact hS
  have e3 : env.kindOf one = some .local := by rw [← hE]; exact hone
  have e4 : env.cells.lookup S = some c := by rw [← hE]; show List.lookup S [(S, c)] = _; simp
  have hns' : h₁.Ns env.locals fun y' => List.lookup y' [(one, Value.str y t)].reverse := by rw [← hE]; exact hns
  have hone' : List.lookup one [(one, Value.str y t)].reverse = some (.str y t) := by simp
  have hc₁ : h₁.IsCell c (some (.ref x)) := let ⟨o, e, d⟩ := hc; ⟨o, hk₁ _ _ e, d⟩
  suffices main : wpAny (model Γ.prog Γ.w) (A.deeper env) (eval (lamBody S one p1 p2 p3 p4 p5 kk) env) Q NoE { s with heap := h₁, toks := s.toks + [(one, Value.str y t)].length } from wpAny_mono main (fun v s' h => h) (fun _ _ h => h.elim)
  show wpAny _ _ (standAt p5 >>= fun _ => (spliced (backTo p5 (starEach [.Subscript (.Name S p1) (.Name one p2) p3, .Name one p4] _))) >>= fun vs => newTuple vs) _ _ _
  refine wpAny_bind (wpAny_standAt (wpAny_bind ?_))
  show wpAny _ _ (spliced ((false, eval (.Subscript (.Name S p1) (.Name one p2) p3) _) :: (false, eval (.Name one p4) _) :: [])) _ _ _
  unfold spliced
  refine wpAny_bind (Subscript_ (wpAny_Name (wpAny_loadName_free e1 e2 e4 hc₁ ?_ dS2) dS))
  refine wpAny_Name (wpAny_loadName_local e1 e3 hns' hone' ?_) dO
  refine dict_item (Γ := Γ) (es := es) (value := .Name S p1) (i := .Name one p2) ?_ hv (fun k => ?_) (fun _ _ => rfl)
  · obtain ⟨o, z1, z2, ho, z⟩ := hx
    exact ⟨o, z1, z2, hk₁ _ _ ho, z⟩
  refine wpAny_bind (wpAny_pure (wpAny_bind (wpAny_holding ?_)))
  unfold spliced
  refine wpAny_bind (wpAny_Name (wpAny_loadName_local e1 e3 hns' hone' ?_) dO)
  refine wpAny_bind (wpAny_pure (wpAny_bind (wpAny_holding (wpAny_pure (wpAny_pure (wpAny_pure ?_))))))
  refine wpAny_newTuple ?_
  exact q _ _ _ (fun b o e => Heap.get?_push_of_some _ (hk₁ b o e)) (Heap.get?_push_size _ rfl)
end
end Mine

end
section
open PySem PySem.W PySem.Spec PySem.Calls PyProof.Rows
set_option Elab.async false
set_option maxRecDepth 100000
set_option linter.unusedVariables false
namespace Mine
structure LamTab (Γ : Ctx) (c P : Addr) (qual : Str) (pos : Pos) : Prop where
  hd : CodeHd Γ.h₀ c P
  code : ∀ h, Γ.TI h → ∃ ps, h.get? P = some (tabObj ps) ∧ TriplesOk ps.toList ∧ ∀ cv, codeAmong pos ps.toList = some cv → h.CodeRec cv qual
  mem : P ∈ Γ.tabs
  off : Γ.h₀.get? P = none
  step : ∀ h h' ps, Γ.TI h → (∀ b o, b ≠ P → h.get? b = some o → h'.get? b = some o) → h'.get? P = some (tabObj ps) → TriplesOk ps.toList → (∀ cv, codeAmong pos ps.toList = some cv → h'.CodeRec cv qual) → Γ.TI h'
theorem closure_one {env : Env} {scope : Scope} {one S : Str} {c : Addr} (hn : scope.names = [(one, .local), (S, .free)] ∨ scope.names = [(S, .free), (one, .local)]) (hc : env.cells.lookup S = some c) : closureFor scope env = pure [(S, c)] := by
  have hcell : cellOf env S = pure c := by unfold cellOf; rw [hc]
  unfold closureFor
  rcases hn with hn | hn <;> rw [hn] <;> simp [hcell] <;> rfl
section
variable {Γ : Ctx} {A : Around} {s : Shared} {env : Env} {E : Value → Shared → Prop}
set_option maxHeartbeats 1000000
theorem CodeRec.keep {h h' : Heap} {cv : Value} {q : Str} (x : h.CodeRec cv q) {P : Addr} {ps : Array Value} (hP : h.get? P = some (tabObj ps)) (ht : TriplesOk ps.toList) (k : ∀ b o, b ≠ P → h.get? b = some o → h'.get? b = some o) : h'.CodeRec cv q := by
  obtain ⟨c, oc, vs, t, e1, e2, e3, e4⟩ := x
  refine ⟨c, oc, vs, t, e1, k _ _ (fun z => ?_) e2, e3, e4⟩
  subst z
  rw [hP] at e2; cases e2; cases e3
  exact Acc.triples_int ht e4
theorem CodeRec.push' {h : Heap} {cv : Value} {q : Str} (x : h.CodeRec cv q) (o : Obj) : (h.push o).CodeRec cv q := by
  obtain ⟨c, oc, vs, t, e1, e2, e3, e4⟩ := x
  exact ⟨c, oc, vs, t, e1, Heap.get?_push_of_some _ e2, e3, e4⟩
theorem lam_eval {c P : Addr} {params : Arguments} {body : Expr} {scope : Scope} {lpos : Pos} {clos : List (Str × Addr)} {qual : Str} (T : LamTab Γ c P qual lpos) (BM : Acc.BMain Γ.h₀) (k0 : ∀ a o, Γ.h₀.get? a = some o → s.heap.get? a = some o) (hti : Γ.TI s.heap)
    (hq : env.qual ++ "<lambda>" = qual) (hc : env.code = .ref c) (hg : env.globals = mainGlobals) (hcl : closureFor scope env = pure clos) (hdef : defaultsOf params env = ([], [])) {Q : Value → Shared → Prop}
    (hQ : ∀ (cv ctv pm : Value) (h' : Heap) (tk : Tok) (ps' : Array Value), (∀ b o, b ≠ P → s.heap.get? b = some o → h'.get? b = some o) → h'.get? P = some (tabObj ps') → TriplesOk ps'.toList → (∀ cv', codeAmong lpos ps'.toList = some cv' → h'.CodeRec cv' qual) → h'.CodeRec cv qual → s.heap.objs.size ≤ h'.objs.size →
      Q (.ref h'.objs.size) { s with heap := h'.push { cls := .type "function", data := .func (kla_fn "<lambda>" qual params body scope clos pm cv ctv) }, toks := tk }) :
    wpAny (model Γ.prog Γ.w) A (eval (.Lambda params body scope lpos) env) Q E s := by
  obtain ⟨ps, h1, h2, h3⟩ := T.code _ hti
  have C := T.hd.keeps k0
  obtain ⟨mg, bm, ob, b1, b2, b3, b4, b5, b6, b7⟩ := BM.keeps k0
  obtain ⟨mg0, bm0, ob0, c1, c2, c3, c4, c5, c6, c7⟩ := BM
  have hgP : mainGlobals ≠ P := fun q => by
    obtain ⟨o, es, ep, e, _⟩ := c1
    rw [q, T.off] at e; cases e
  have hbG : bm ≠ mainGlobals := fun q => by
    obtain ⟨o, es, ep, e, hd, _⟩ := b1
    rw [q, e] at b4; cases b4; rw [hd] at b7; cases b7
  have hbP : bm ≠ P := fun q => by
    rw [q, h1] at b4; cases b4; cases b7
  have BA : s.heap.BuiltinsAt mg P := ⟨bm, ob, b2, b3, hbG, hbP, b4, b5, b6, b7⟩
  refine kla_eval hdef ?_
  rw [hq]
  cases hnf : codeAmong lpos ps.toList with
  | some cv =>
    refine kla_makeFunctionHit hcl hg b1 hc C h1 h2 hnf BA fun ctv h' tk hk hsz => ?_
    have kr : ∀ cv', codeAmong lpos ps.toList = some cv' → h'.CodeRec cv' qual := fun cv' e => by
      obtain ⟨cc, oc, vs, t, e1, e2, e3, e4⟩ := h3 cv' e
      exact ⟨cc, oc, vs, t, e1, hk _ _ e2, e3, e4⟩
    exact hQ cv ctv _ h' tk ps (fun b o _ e => hk b o e) (hk _ _ h1) h2 kr (kr _ hnf) hsz
  | none =>
    refine kla_makeFunction hcl hg b1 hc C h1 h2 hnf hgP BA fun c' ctv h' tk hx hge hlt hrec hP => ?_
    refine hQ (.ref c') ctv _ h' tk _ (fun b o hb e => hx b o hb e) hP ?_ (fun cv' e => ?_) hrec (Nat.le_trans hge (Nat.le_of_lt hlt))
    · rw [Array.toList_append]; exact TriplesOk_snoc _ _ _ _ h2
    · rw [Array.toList_append] at e
      have := codeAmong_snoc (pos := lpos) (c := .ref c') ps.toList h2 hnf
      rw [show (#[rawInt lpos.line, rawInt lpos.col, Value.ref c'] : Array Value).toList = [rawInt lpos.line, rawInt lpos.col, .ref c'] from rfl, this] at e
      cases e; exact hrec
noncomputable def LamC (a : Addr) (l : List (Str × D)) : Addr → List D → List (Str × D) → List O → Post → Prop := fun a' ds kw objs Q => a' = a ∧ kw = [] ∧ ∃ y k, ds = [.str y] ∧ dget l y = some (.int k) ∧ Q (.tup [.int k, .str y]) objs
/-- the frozen lambda's contract -/
theorem lamC_ok {a x c cc : Addr} {oc : Obj} {vs : Array Value} {qt : Tok} {ocell ox : Obj} {name qual : Str} {params : Arguments} {S one : Str} {p1 p2 p3 p4 p5 : Pos} {kk : Nat} {scope : Scope} {pm ctv : Value} {es : List (Str × Value)} {l : List (Str × D)}
    (hlim : Γ.h₀.NoLimit) (hcv : oc.data = .fields vs ∧ vs[1]? = some (.str qual qt)) (hcell' : ocell.data = .cell (some (.ref x))) (hx : ∀ h : Heap, h.get? x = some ox → h.DictOf (strKind Γ.prog Γ.w) x es) (hl : ∀ y k, dget l y = some (.int k) → ∃ t, valueAt es y = some (.int k t))
    (hco : scope.isCoroutine = false) (hgen : scope.isGenerator = false) (hk : scope.kind = .function) (hcell : ∀ y ∈ scope.names, y.2 ≠ .cell) (hS : scope.names.lookup S = some .free) (hone : scope.names.lookup one = some .local) (dS : (S == ("__debug__" : Str)) = false) (dS2 : (S == ("__classdict__" : Str)) = false) (dO : (one == ("__debug__" : Str)) = false)
    (hbind : ∀ v, bindArgs (kla_fn name qual params (lamBody S one p1 p2 p3 p4 p5 kk) scope [(S, c)] pm (.ref cc) ctv) ⟨[v], []⟩ = pure [(one, v)]) :
    COkN (Γ.freeze [(a, { cls := .type "function", data := .func (kla_fn name qual params (lamBody S one p1 p2 p3 p4 p5 kk) scope [(S, c)] pm (.ref cc) ctv) }), (cc, oc), (c, ocell), (x, ox)]) 1 (LamC a l) := by
  intro A hA a' ds kw objs Q s ρ vs' kvs Q' B R hC hvs hkvs hd
  obtain ⟨rfl, rfl, y, k, rfl, hg, hq⟩ := hC
  obtain ⟨t0, hfr⟩ := B.ti
  have f1 := hfr _ (.head _)
  have f2 := hfr _ (.tail _ (.head _))
  have f3 := hfr _ (.tail _ (.tail _ (.head _)))
  have f4 := hfr _ (.tail _ (.tail _ (.tail _ (.head _))))
  obtain rfl := hkvs.nil_inv
  obtain ⟨_, rfl, h1⟩ := hvs.inv1
  cases h1
  obtain ⟨t', hv⟩ := hl y k hg
  refine ⟨⟨_, .inl rfl, looks_fn ⟨_, _, f1, rfl⟩⟩, ?_⟩
  refine lam_call (Γ := Γ) hA (hlim.keeps B.keep) f1 ⟨_, _, _, _, rfl, f2, hcv.1, hcv.2⟩ ⟨_, f3, hcell'⟩ (hx _ f4) hco hgen hk hcell hS hone dS dS2 dO hbind hv fun h' tk T kp hT => ?_
  refine hd _ objs ρ _ _ hq (B.keepAll (s' := { s with heap := h', toks := tk }) kp rfl) (R.keep (s' := { s with heap := h', toks := tk }) kp) (Ext.of_keep kp rfl) ?_
  exact .tup (vs := [.int k t', .str y _]) hT (.cons (.int _ _) (.cons (.str _ _) .nil))
end
end Mine

end
section
open PySem PySem.W PySem.Spec PySem.Calls PyProof.Rows
set_option Elab.async false
set_option maxRecDepth 100000
set_option linter.unusedVariables false
namespace Mine
noncomputable def bisN (f : Nat → Bool) : Nat → Nat → Nat → Nat
  | 0, lo, _ => lo
  | n + 1, lo, hi => if lo < hi then (if f ((lo + hi) / 2) then bisN f n lo ((lo + hi) / 2) else bisN f n ((lo + hi) / 2 + 1) hi) else lo
noncomputable def keyI (l : List (Str × D)) (z : Str) : Int := match dget l z with | some (.int k) => k | _ => 0
noncomputable def keyLt (l : List (Str × D)) (y : Str) (ys : List Str) (i : Nat) : Bool := match ys[i]? with
  | some z => if keyI l y = keyI l z then (if y = z then false else decide (y.cps.toList < z.cps.toList)) else decide (keyI l y < keyI l z)
  | none => false
noncomputable def insK (l : List (Str × D)) (ys : List Str) (y : Str) : List Str := insL ys (bisN (keyLt l y ys) ys.length 0 ys.length) y
noncomputable def InsK (fa : Addr) (kn : Str) (a : Addr) (l : List (Str × D)) : Addr → List D → List (Str × D) → List O → Post → Prop := fun a' ds kw objs Q =>
  a' = fa ∧ ∃ n ys y, ds = [.obj n, .str y] ∧ kw = [(kn, .fn (.ref a))] ∧ objs[n]? = some (.list (strsD ys)) ∧ ys.length ≤ 100 ∧ (∀ z ∈ y :: ys, ∃ k, dget l z = some (.int k)) ∧ Q .none (objs.set n (.list (strsD (insK l ys y))))
noncomputable def KeyIns (Γ : Ctx) (fa : Addr) (kn : Str) (m : Nat) : Prop := ∀ fr a l, COkN (Γ.freeze fr) 1 (LamC a l) → COkN (Γ.freeze fr) m (InsK fa kn a l)
/-- insort_right(laid, card, key=lambda one: (stops[one], one)) -/
noncomputable def stub (sc : List (Str × NameKind)) (G : Str → Option D) : PCtx := { sc := sc, G := G, C := fun _ _ _ _ _ => False, M := fun _ => none }
structure YLF (sc : List (Str × NameKind)) (G : Str → Option D) (fa : Addr) (f xa xb : Str) (params : Arguments) (S one : Str) (p1 p2 p3 p4 p5 : Pos) (kk : Nat) (scope : Scope) (loc : Loc) (o : List O) (n : Nat) (ys : List Str) (y : Str) (ns : Nat) (l : List (Str × D)) : Prop where
  hf : nameF (stub sc G) loc f = some (.fn (.ref fa))
  hxa : nameF (stub sc G) loc xa = some (.obj n)
  hxb : nameF (stub sc G) loc xb = some (.str y)
  hS : lkS sc S = some .cell
  hSl : getLo loc S = some (.obj ns)
  hn : o[n]? = some (.list (strsD ys))
  hns : o[ns]? = some (.dict l)
  hnm : scope.names = [(one, .local), (S, .free)] ∨ scope.names = [(S, .free), (one, .local)]
  hdef : ∀ env, defaultsOf params env = ([], [])
  hco : scope.isCoroutine = false
  hgen : scope.isGenerator = false
  hk : scope.kind = .function
  dS : (S == ("__debug__" : Str)) = false
  dS2 : (S == ("__classdict__" : Str)) = false
  dO : (one == ("__debug__" : Str)) = false
  hone : one ≠ S
  hbind : ∀ qual c pm cv ctv v, bindArgs (kla_fn "<lambda>" qual params (lamBody S one p1 p2 p3 p4 p5 kk) scope [(S, c)] pm cv ctv) ⟨[v], []⟩ = pure [(one, v)]
  hlen : ys.length ≤ 100
  hkeys : ∀ z ∈ y :: ys, ∃ k, dget l z = some (.int k)
inductive YLR (sc : List (Str × NameKind)) (G : Str → Option D) (fa : Addr) (kn : Str) (lpos : Pos) (loc : Loc) (o : List O) (Q : SPost) : Stmt → Prop
  | mk {f : Str} {fp : Pos} {xa : Str} {pa : Pos} {xb : Str} {pb : Pos} {params : Arguments} {S one : Str} {p1 p2 p3 p4 p5 : Pos} {kk : Nat} {scope : Scope} {kp cp ep : Pos} {n : Nat} {ys : List Str} {y : Str} {ns : Nat} {l : List (Str × D)} :
      YLF sc G fa f xa xb params S one p1 p2 p3 p4 p5 kk scope loc o n ys y ns l → Q .next loc (o.set n (.list (strsD (insK l ys y)))) →
      YLR sc G fa kn lpos loc o Q (.Expr (.Call (.Name f fp) [.Name xa pa, .Name xb pb] [⟨some kn, .Lambda params (lamBody S one p1 p2 p3 p4 p5 kk) scope lpos, kp⟩] cp) ep)
noncomputable abbrev YL (P : PCtx) (fa : Addr) (kn : Str) (lpos : Pos) (st : Stmt) (loc : Loc) (o : List O) (Q : SPost) : Prop := YLR P.sc P.G fa kn lpos loc o Q st
section
variable {Γ : Ctx} {P : PCtx} {A : Around} {env : Env} {own : List Addr}
set_option maxHeartbeats 2000000
theorem back_tab {ρ : List Addr} {objs : List O} {s s' : Shared} {Pt : Addr} {ps0 : Array Value} (mem : Pt ∈ Γ.tabs) (off : Γ.h₀.get? Pt = none) (B : Base Γ s) (R : ObjsRep Γ s.heap ρ objs) (h1 : s.heap.get? Pt = some (tabObj ps0)) (h2 : TriplesOk ps0.toList)
    (kp : ∀ b o, b ≠ Pt → s.heap.get? b = some o → s'.heap.get? b = some o) (hP : ∃ o, s'.heap.get? Pt = some o) (ti : Γ.TI s'.heap) (hg : AllBare s'.gens) (ho : s'.os = s.os) : Base Γ s' ∧ ObjsRep Γ s'.heap ρ objs ∧ Ext Γ.tabs ρ s ρ s' := by
  have x : Ext Γ.tabs ρ s ρ s' := by
    refine ⟨List.prefix_refl _, fun a h => .inl h, fun a o e ht' _ => kp a o (fun q => ht' (q ▸ mem)) e, fun a o e hi => kp a o (fun q => ?_) e, fun a o e => ?_, ho⟩
    · subst q
      rw [h1] at e; cases e
      rcases hi with ⟨q, _⟩ | ⟨q, _⟩ | ⟨q, _⟩ | ⟨q, _⟩ | ⟨us, q, tq, e5, e6⟩ <;> first | (cases q; done) | (exfalso; cases e5; exact Acc.triples_int h2 e6)
    · by_cases q : a = Pt
      · subst q; exact hP
      · exact ⟨o, kp a o q e⟩
  refine ⟨⟨fun a o e => kp a o (fun q => ?_) (B.keep a o e), ti, hg⟩, ⟨R.len, R.nodup, R.off, fun n a o e1 e2 => (R.rel n a o e1 e2).ext x fun ob e => kp a ob (fun q => ?_) e⟩, x⟩
  · subst q; rw [off] at e; cases e
  · exact (R.off a (List.mem_of_getElem? e1)).2 (q ▸ mem)
theorem yl_ok {m : Nat} {c Pt fa : Addr} {kn qual : Str} {lpos : Pos} (am : Am0 Γ P env A) (hA : AOk m A) (T : LamTab Γ c Pt qual lpos) (BM : Acc.BMain Γ.h₀) (hlim : Γ.h₀.NoLimit) (hcode : env.code = .ref c) (hq : env.qual ++ "<lambda>" = qual) (HI : KeyIns Γ fa kn m) (st : Stmt) :
    SS Γ env own A (exec st env) (YL P fa kn lpos st) := by
  rintro loc objs Q s ρ Q' R (@⟨f, fp, xa, pa, xb, pb, params, S, one, p1, p2, p3, p4, p5, kk, scope, kp, cp, ep, n, ys, y, ns, l, ⟨hf, hxa, hxb, hS, hSl, hn, hns, hnm, hdef, hco, hgen, hk, dS, dS2, dO, hone, hbind, hlen, hkeys⟩, hq'⟩) k
  have ab : Amb Γ (noXY P) env A := amb_no am
  refine wpAny_Expr_any (wpAny_Call_ofName (wpAny_Name (load_name ab R (P := noXY P) (x := f) (d := .fn (.ref fa)) hf fun v' hv' => ?_) (name_nd ab (P := noXY P) (loc := loc) hf))) (by unfold interactive; rw [R.fr.kind]; rfl) rfl
  cases hv'
  have hplain : ((backTo cp (starEach [Expr.Name xa pa, Expr.Name xb pb] env)).any (·.1) || (backToKw cp (keywordEach [⟨some kn, Expr.Lambda params (lamBody S one p1 p2 p3 p4 p5 kk) scope lpos, kp⟩] env)).any (·.1.isNone)) = false := by
    rw [noStar cp rfl, (kw_all cp rfl).2]; rfl
  refine callWith_of (P := fun h => ∃ k, (k = Keeper.frame ∨ k = Keeper.machine ∨ k = Keeper.boundFrame) ∧ Looks (model Γ.prog Γ.w) h (keeperOf (.ref fa)) k) hplain (fun h H => H) ?_
  rw [starEach_cons [Expr.Name xb pb] (by rfl)]
  refine evalArgs_kw (kw_all cp rfl).1 ?_
  have LSa := WEs_sound ab (own := own) [Expr.Name xa pa, Expr.Name xb pb] loc cp rfl
  rw [starEach_cons [Expr.Name xb pb] (by rfl)] at LSa
  refine LSa objs (fun ds o => ds = [.obj n, .str y] ∧ o = objs) s ρ _ R ?_ fun ds o2 ρ2 vs s2 h2 R2 x2 hvs => ?_
  · exact r_esc (r_name (P := noXY P) hxa (r_esc (r_name (P := noXY P) hxb (r_esn ⟨rfl, rfl⟩))))
  refine hide fun G9 hG9 => ?_
  obtain ⟨rfl, rfl⟩ := h2
  refine hG9 ?_; clear hG9
  obtain ⟨_, _, rfl, h1, h2⟩ := hvs.inv2
  cases h2
  rename_i t
  obtain ⟨aL, rfl, eL⟩ := h1.obj_inv
  refine hide fun G9 hG9 => ?_
  obtain ⟨cS, vS, hcS, hcell, hvS⟩ := cell_of am R2.fr (.inl hS) hSl
  refine hG9 ?_; clear hG9
  obtain ⟨x, rfl, eX⟩ := hvS.obj_inv
  show wpAny _ _ (evalAll [do let v ← eval (Expr.Lambda params (lamBody S one p1 p2 p3 p4 p5 kk) scope lpos) env; standAt cp; pure v]) _ _ _
  refine wpAny_evalAll_cons (wpAny_bind (lam_eval T BM R2.base.keep R2.base.ti hq hcode R2.fr.glob (closure_one hnm hcS) (hdef env) fun cv ctv pm h' tk ps' kp' hP' ht' hcr' hcr hsz => wpAny_bind (wpAny_standAt (wpAny_pure (wpAny_pure ?_)))))
  generalize hfo : ({ cls := .type "function", data := .func (kla_fn "<lambda>" qual params (lamBody S one p1 p2 p3 p4 p5 kk) scope [(S, cS)] pm cv ctv) } : Obj) = fo
  have hfree : fo.isFreed = false := by subst hfo; rfl
  refine hide fun G9 hG9 => ?_
  obtain ⟨ps0, g1, g2, g3⟩ := T.code _ R2.base.ti
  refine hG9 ?_; clear hG9
  have kpu : ∀ b o, h'.get? b = some o → (h'.push fo).get? b = some o := keep_push _ _
  have kp3 : ∀ b o, b ≠ Pt → s2.heap.get? b = some o → (h'.push fo).get? b = some o := fun b o n1 e => kpu b o (kp' b o n1 e)
  have ti3 : Γ.TI (h'.push fo) := T.step _ _ ps' R2.base.ti kp3 (kpu _ _ hP') ht' fun cv' e => CodeRec.push' (hcr' cv' e) fo
  obtain ⟨B3, O3, x3⟩ := back_tab (s' := { s2 with heap := h'.push fo, toks := tk }) T.mem T.off R2.base R2.objs g1 g2 kp3 ⟨_, kpu _ _ hP'⟩ ti3 R2.base.gens rfl
  have R3 := R2.step x3 B3 O3
  have nP : ∀ b, b ∈ ρ2 → b ≠ Pt := fun b hb q => (R2.objs.off b hb).2 (q ▸ T.mem)
  refine hide fun G9 hG9 => ?_
  obtain ⟨hc1, hc2, hc3, oc0, oc1⟩ := R3.fr.cells S cS hcS
  obtain ⟨ocell, e4, e5⟩ := hcell
  refine hG9 ?_; clear hG9
  have hcP : cS ≠ Pt := fun q => hc3 (q ▸ T.mem)
  have fcell : (h'.push fo).get? cS = some ocell := kp3 _ _ hcP e4
  refine hide fun G9 hG9 => ?_
  obtain ⟨es, ⟨ox, z1, z2, hox, z3⟩, hall⟩ := O3.rel ns x _ eX hns
  obtain ⟨vsL, nL, hL, rL⟩ := O3.rel n aL _ eL hn
  obtain ⟨cc, oc, vsc, tc, rfl, hoc, hdc, hq1⟩ := CodeRec.push' hcr fo
  refine hG9 ?_; clear hG9
  have fa' : (h'.push fo).get? h'.objs.size = some fo := Heap.get?_push_size _ hfree
  have hsA := strsAre rL (allD_strs ys)
  have hcell2 : ∀ z ∈ scope.names, z.2 ≠ .cell := fun z hz => by
    rcases hnm with h | h <;> rw [h] at hz <;> rcases List.mem_cons.mp hz with rfl | hz <;> first | (intro q; cases q; done) | (rw [List.mem_singleton.mp hz]; intro q; cases q)
  have hSl2 : scope.names.lookup S = some .free := by
    rcases hnm with h | h <;> rw [h]
    · rw [List.lookup_cons, show (S == one) = false from by simpa using fun q => hone q.symm, List.lookup_cons]; simp
    · rw [List.lookup_cons]; simp
  have honel : scope.names.lookup one = some .local := by
    rcases hnm with h | h <;> rw [h]
    · rw [List.lookup_cons]; simp
    · rw [List.lookup_cons, show (one == S) = false from by simpa using hone, List.lookup_cons]; simp
  have L := lamC_ok (Γ := Γ) (a := h'.objs.size) (x := x) (c := cS) (cc := cc) (oc := oc) (ocell := ocell) (ox := ox) (name := "<lambda>") (qual := qual) (params := params) (S := S) (one := one) (p1 := p1) (p2 := p2) (p3 := p3) (p4 := p4) (p5 := p5) (kk := kk) (scope := scope) (pm := pm) (ctv := ctv) (es := es) (l := l)
    hlim ⟨hdc, hq1⟩ e5 (fun h e => ⟨ox, z1, z2, e, z3⟩) (fun y k e => by
      obtain ⟨v, hv, hi⟩ := hall.get e
      cases hi; exact ⟨_, hv⟩) hco hgen hk hcell2 hSl2 honel dS dS2 dO (fun v => hbind qual cS pm (.ref cc) ctv v)
  have H := HI _ _ _ L A hA
  clear L
  have hdiff : ∀ {b : Addr} {o : Obj}, (h'.push fo).get? b = some o → (∀ us k, o.data ≠ .seq us k) → aL ≠ b := fun e ne q => by
    subst q
    rw [show (h'.push fo).get? aL = _ from hL] at e; cases e; exact ne _ _ rfl
  rw [hfo] at H
  generalize hfr : ([(h'.objs.size, fo), (cc, oc), (cS, ocell), (x, ox)] : List (Addr × Obj)) = fr at H
  have frAt : ∀ p ∈ fr, (h'.push fo).get? p.1 = some p.2 := fun p hp => by
    subst hfr
    rcases List.mem_cons.mp hp with rfl | hp
    · exact fa'
    rcases List.mem_cons.mp hp with rfl | hp
    · exact hoc
    rcases List.mem_cons.mp hp with rfl | hp
    · exact fcell
    rw [List.mem_singleton.mp hp]; exact hox
  have frNe : ∀ p ∈ fr, aL ≠ p.1 := fun p hp => by
    have e := frAt p hp
    subst hfr
    rcases List.mem_cons.mp hp with rfl | hp
    · exact hdiff e (fun us k q => by rw [← hfo] at q; cases q)
    rcases List.mem_cons.mp hp with rfl | hp
    · exact hdiff e (fun us k q => by rw [show oc.data = _ from hdc] at q; cases q)
    rcases List.mem_cons.mp hp with rfl | hp
    · intro q
      have q' : aL = cS := q
      exact hc2 (q' ▸ List.mem_of_getElem? eL)
    rw [List.mem_singleton.mp hp] at e ⊢
    exact hdiff e (fun us k q => by rw [show ox.data = _ from z3.2.1] at q; cases q)
  have offL := O3.off aL (List.mem_of_getElem? eL)
  have BF : Base (Γ.freeze fr) { s2 with heap := h'.push fo, toks := tk } := ⟨B3.keep, ⟨B3.ti, frAt⟩, B3.gens⟩
  have OF : ObjsRep (Γ.freeze fr) (h'.push fo) [aL] [.list (strsD ys)] := by
    refine ⟨rfl, by simp, fun b hb => ?_, fun i b o e1 e2 => ?_⟩
    · rw [List.mem_singleton.mp hb]
      refine ⟨offL.1, fun q => ?_⟩
      rcases List.mem_append.mp q with q | q
      · obtain ⟨p, hp, e⟩ := List.mem_map.mp q
        exact frNe p hp e.symm
      · exact offL.2 q
    · cases i with
      | zero => cases e1; cases e2; exact ⟨vsL, nL, hL, strs_vall hsA⟩
      | succ i => simp at e1
  have DD : Done (Γ.freeze fr) [aL] { s2 with heap := h'.push fo, toks := tk } (fun d o => d = .none ∧ o = [.list (strsD (insK l ys y))]) (fun v s' => Q' .next s') := by
    rintro d objs' ρ' v s' ⟨rfl, rfl⟩ B' O' x' hv
    have hρ : ρ' = [aL] := by
      obtain ⟨tl, rfl⟩ := x'.pre
      have := O'.len
      simp at this
      rw [this]; simp
    subst hρ
    obtain ⟨tiB, frB⟩ := B'.ti
    have keep : ∀ b o, b ∉ Γ.tabs → b ≠ aL → (h'.push fo).get? b = some o → s'.heap.get? b = some o := fun b o n1 n2 e => by
      by_cases q : b ∈ fr.map (·.1)
      · refine hide fun G9 hG9 => ?_
        obtain ⟨p, hp, rfl⟩ := List.mem_map.mp q
        refine hG9 ?_; clear hG9
        have := frAt p hp
        rw [e] at this; cases this
        exact frB p hp
      · refine x'.keep b o e (fun z => ?_) (by simpa using n2)
        rcases List.mem_append.mp z with z | z
        · exact q z
        · exact n1 z
    have x4 : Ext Γ.tabs ρ2 { s2 with heap := h'.push fo, toks := tk } ρ2 s' :=
      ⟨List.prefix_refl _, fun a h => .inl h, fun b o e n1 n2 => keep b o n1 (fun q => n2 (q ▸ List.mem_of_getElem? eL)) e, x'.imm, x'.live, x'.os⟩
    have B4 : Base Γ s' := ⟨B'.keep, tiB, B'.gens⟩
    refine hide fun G9 hG9 => ?_
    obtain ⟨vs5, n5, h5, r5⟩ := O'.rel 0 aL _ rfl rfl
    refine hG9 ?_; clear hG9
    have O4 : ObjsRep Γ s'.heap ρ2 (o2.set n (.list (strsD (insK l ys y)))) := by
      refine ⟨by rw [List.length_set]; exact O3.len, O3.nodup, O3.off, fun i b o e1 e2 => ?_⟩
      by_cases qi : i = n
      · subst qi
        rw [eL] at e1; cases e1
        rw [List.getElem?_set_self (List.getElem?_eq_some_iff.mp hn).1] at e2
        cases e2
        exact ⟨vs5, n5, h5, strs_vall (strsAre r5 (allD_strs _))⟩
      · rw [List.getElem?_set_ne (Ne.symm qi)] at e2
        exact (O3.rel i b o e1 e2).ext x4 fun ob e => keep b ob (O3.off b (List.mem_of_getElem? e1)).2 (fun q => qi (by subst q; exact nodup_inj O3.nodup e1 eL)) e
    exact k _ _ _ _ _ _ hq' (R3.step x4 B4 O4) ((x2.trans x3).trans x4).wide .next
  obtain ⟨r1, r2⟩ := H fa [.obj 0, .str y] [(kn, .fn (.ref h'.objs.size))] [.list (strsD ys)] (fun d o => d = .none ∧ o = [.list (strsD (insK l ys y))]) { s2 with heap := h'.push fo, toks := tk } [aL] [.ref aL, .str y t] [(kn, .ref h'.objs.size)]
    (fun v s' => Q' .next s') BF OF ⟨rfl, 0, ys, y, rfl, rfl, rfl, hlen, hkeys, rfl, rfl⟩ (.cons (.obj rfl) (.cons (.str _ _) .nil)) (.cons (.fn _) .nil) DD
  exact ⟨r1, r2⟩
end
end Mine

end
section
open PySem PySem.W PySem.Spec PySem.Calls PyProof.Rows
set_option Elab.async false
set_option maxRecDepth 100000
set_option linter.unusedVariables false
set_option linter.unusedSimpArgs false
set_option maxHeartbeats 1000000
namespace Mine
noncomputable abbrev CT := Addr → List D → List (Str × D) → List O → Post → Prop
noncomputable abbrev BT := Value → List D → List O → Post → Prop
noncomputable abbrev noM : Str → Option Value := fun _ => none
noncomputable abbrev noC : CT := fun _ _ _ _ _ => False
noncomputable abbrev noZ : Stmt → Loc → List O → SPost → Prop := fun _ _ _ _ => False
noncomputable abbrev anyE : Env → Prop := fun _ => True
noncomputable def COr (C D : CT) : CT := fun a ds kw o Q => C a ds kw o Q ∨ D a ds kw o Q
/-- a def among the written objects -/
structure FnD (K : Frag) (f : Addr) (fd : FuncData) (body : List Stmt) : Prop where
  obj : ∃ oc od osl, K.lookup f = some ⟨oc, od, .func fd, osl⟩
  code : ∃ c oc od vs osl t, fd.code = .ref c ∧ K.lookup c = some ⟨oc, od, .fields vs, osl⟩ ∧ vs[1]? = some (.str fd.qualname t)
  body : fd.body = .stmts body
  glob : fd.globals = mainGlobals
  blt : fd.builtins = builtinsNs
  clo : fd.closure = []
  co : fd.scope.isCoroutine = false
  gen : fd.scope.isGenerator = false
  kind : fd.scope.kind = .function
theorem FnD.at {K : Frag} {f : Addr} {fd : FuncData} {body : List Stmt} (F : FnD K f fd body) {Γ : Ctx} (X : K.In Γ.h₀) (hc : ∀ x ∈ fd.scope.names, x.2 ≠ .cell) : FnAt Γ f fd body := by
  obtain ⟨⟨oc, od, osl, e⟩, ⟨c, oc', od', vs, osl', t, e1, e2, e3⟩, h1, h2, h3, h4, h5, h6, h7⟩ := F
  exact ⟨⟨_, X _ _ e, rfl⟩, h1, h2, h3, h4, ⟨c, _, vs, t, e1, X _ _ e2, rfl, e3⟩, hc, h5, h6, h7⟩
theorem FnD.cells {K : Frag} {f : Addr} {fd : FuncData} {body : List Stmt} (F : FnD K f fd body) {Γ : Ctx} (X : K.In Γ.h₀) : FnC Γ f fd body := by
  obtain ⟨⟨oc, od, osl, e⟩, ⟨c, oc', od', vs, osl', t, e1, e2, e3⟩, h1, h2, h3, h4, h5, h6, h7⟩ := F
  exact ⟨⟨_, X _ _ e, rfl⟩, h1, h2, h3, h4, ⟨c, _, vs, t, e1, X _ _ e2, rfl, e3⟩, h5, h6, h7⟩
inductive BLoc (Γ : Ctx) (h : Heap) (ρ : List Addr) : List (Str × Value) → Loc → Prop
  | nil {l : Loc} : (∀ p ∈ l, p.2 = none) → BLoc Γ h ρ [] l
  | cons {x : Str} {v : Value} {d : D} {bs : List (Str × Value)} {l : Loc} : VIn Γ h ρ v d → BLoc Γ h ρ bs l → BLoc Γ h ρ ((x, v) :: bs) ((x, some d) :: l)
theorem BLoc.done {Γ : Ctx} {h : Heap} {ρ : List Addr} : BLoc Γ h ρ [] [] := .nil fun p hp => nomatch hp
theorem getLo_none {l : Loc} (h : ∀ p ∈ l, p.2 = none) (x : Str) : getLo l x = none := by
  induction l with
  | nil => rfl
  | cons p r ih =>
    obtain ⟨y, d⟩ := p
    unfold getLo
    split
    · exact h _ (.head _)
    · exact ih fun p hp => h p (.tail _ hp)
theorem lk_rev {α : Type} {l : List (Str × α)} (hn : (l.map (·.1)).Nodup) {x : Str} {v : α} (e : (x, v) ∈ l) : l.lookup x = some v := by
  induction l with
  | nil => cases e
  | cons p r ih =>
    obtain ⟨y, u⟩ := p
    rw [List.map_cons, List.nodup_cons] at hn
    rcases List.mem_cons.mp e with q | q
    · cases q; simp [List.lookup_cons]
    · have : x ≠ y := fun z => hn.1 (z ▸ List.mem_map_of_mem (f := (·.1)) q)
      rw [List.lookup_cons, show (x == y) = false from by simpa using this]
      exact ih hn.2 q
theorem BLoc.get {Γ : Ctx} {h : Heap} {ρ : List Addr} {bs : List (Str × Value)} {l : Loc} (H : BLoc Γ h ρ bs l) {x : Str} {d : D} (e : getLo l x = some d) : ∃ v, (x, v) ∈ bs ∧ VIn Γ h ρ v d := by
  induction H with
  | nil hn => rw [getLo_none hn] at e; cases e
  | @cons y v d' bs l hv _ ih =>
    unfold getLo at e
    split at e
    · rename_i q; subst q; cases e; exact ⟨v, .head _, hv⟩
    · obtain ⟨v', a, b⟩ := ih e
      exact ⟨v', .tail _ a, b⟩
theorem BLoc.rev {Γ : Ctx} {h : Heap} {ρ : List Addr} {bs : List (Str × Value)} {l : Loc} (H : BLoc Γ h ρ bs l) (hn : (bs.map (·.1)).Nodup) {x : Str} {d : D} (e : getLo l x = some d) : ∃ v, bs.reverse.lookup x = some v ∧ VIn Γ h ρ v d := by
  obtain ⟨v, a, b⟩ := H.get e
  refine ⟨v, lk_rev ?_ (List.mem_reverse.mpr a), b⟩
  rw [List.map_reverse]; exact (List.reverse_perm _).nodup_iff.mpr hn
section
variable {Γ : Ctx} {P : PCtx} {A : Around} {s : Shared} {ρ : List Addr} {objs : List O} {K : Frag} {f : Addr} {fd : FuncData} {body : List Stmt} {n : Nat}
theorem FnD.look (F : FnD K f fd body) (X : K.In Γ.h₀) (B : Base Γ s) : LK Γ s.heap f := by
  obtain ⟨oc, od, osl, e⟩ := F.obj
  exact ⟨_, .inl rfl, looks_fn ⟨_, _, B.keep _ _ (X _ _ e), rfl⟩⟩
theorem FnD.meets (F : FnD K f fd body) (X : K.In Γ.h₀) (hc : ∀ x ∈ fd.scope.names, x.2 ≠ .cell) (hlim : Γ.h₀.NoLimit) (O : Orc Γ n P) (hsc : fd.scope.names = P.sc) (hnd : ndOk P.sc = true) (hE : ∀ env, P.E env) (hA : AOk (n + 1) A) (B : Base Γ s) (R : ObjsRep Γ s.heap ρ objs)
    {vs : List Value} {kvs : List (Str × Value)} {binds : List (Str × Value)} (hbind : BindsTo s fd ⟨vs, kvs⟩ binds) {ns : List Str} (hloc : ∀ x ∈ ns, fd.scope.names.lookup x = some .local) (hns : binds.map (·.1) = ns) (hn : ns.Nodup) {loc : Loc} (hb : BLoc Γ s.heap ρ binds loc) {Qf : Post} {Q' : Value → Shared → Prop}
    (hd : Done Γ ρ s Qf Q') (hw : WSs P body loc objs fun fl _ o' => Qf (retD fl) o') : LK Γ s.heap f ∧ wpAny (model Γ.prog Γ.w) A (call (.ref f) vs kvs) Q' NoE s :=
  ⟨F.look X B, call_fn (F.at X hc) hA hlim hsc O (nd_of hnd) B R hbind (fun x hx => hloc _ (hns ▸ List.mem_map_of_mem hx)) (fun x d e => hb.rev (hns ▸ hn) e) hw hd hE⟩
theorem Done.exact {Q : Post} {Q' : Value → Shared → Prop} (hd : Done Γ ρ s Q Q') {d0 : D} {o0 : List O} (hq : Q d0 o0) : Done Γ ρ s (fun d o => d = d0 ∧ o = o0) Q' := fun d o' ρ' v s' h B O x hv => by
  obtain ⟨rfl, rfl⟩ := h
  exact hd _ _ ρ' v s' hq B O x hv
theorem FnD.meetsC (F : FnD K f fd body) (X : K.In Γ.h₀) (hlim : Γ.h₀.NoLimit) (O : Orc Γ n P) (hsc : fd.scope.names = P.sc) (hnd : ndOk P.sc = true) (hE : ∀ env, env.code = fd.code → env.qual = fd.qualname ++ ".<locals>." → P.E env) (hA : AOk (n + 1) A) (B : Base Γ s) (R : ObjsRep Γ s.heap ρ objs)
    {vs : List Value} {binds : List (Str × Value)} (hbind : bindArgs fd ⟨vs, []⟩ = pure binds) {ns : List Str} (hloc : ∀ x ∈ ns, lkS P.sc x = some .local ∨ lkS P.sc x = some .cell) (hns : binds.map (·.1) = ns) (hn : ns.Nodup) {loc : Loc}
    (hb : BLoc Γ s.heap ρ binds loc) {Qf : Post} {Q' : Value → Shared → Prop}
    (hd : Done Γ ρ s Qf Q') (hw : WSs P body loc objs fun fl _ o' => Qf (retD fl) o') : LK Γ s.heap f ∧ wpAny (model Γ.prog Γ.w) A (call (.ref f) vs []) Q' NoE s :=
  ⟨F.look X B, call_fnC (F.cells X) hA hlim hsc O (nd_of hnd) B R hbind (fun x hx => hloc _ (hns ▸ List.mem_map_of_mem hx)) (fun x d e => ⟨hloc _ (hns ▸ List.mem_map_of_mem (f := (·.1)) (hb.get e).choose_spec.1), hb.rev (hns ▸ hn) e⟩) hw hd hE⟩
end
end Mine

end
open PySem PySem.W PySem.Spec PySem.Calls PyProof.Rows
set_option Elab.async false
set_option maxRecDepth 100000
set_option linter.unusedVariables false
set_option linter.unusedSimpArgs false
set_option maxHeartbeats 1000000
namespace Mine
noncomputable def Gl (x : Str) : Option D :=
  if x = Str.ofString "_CASE_COST" then some (.int 1)
  else if x = Str.ofString "_MOVE_COST" then some (.int 2)
  else if x = Str.ofString "_MAX_STRING_SIZE" then some (.int 40)
  else if x = Str.ofString "len" then some (.fn (.builtin "len"))
  else if x = Str.ofString "min" then some (.fn (.builtin "min"))
  else if x = Str.ofString "max" then some (.fn (.builtin "max"))
  else if x = Str.ofString "sum" then some (.fn (.builtin "sum"))
  else if x = Str.ofString "list" then some (.fn (.type "list"))
  else if x = Str.ofString "range" then some (.fn (.type "range"))
  else if x = Str.ofString "enumerate" then some (.fn (.type "enumerate"))
  else if x = Str.ofString "str" then some (.fn (.type "str"))
  else if x = Str.ofString "_substitution_cost" then some (.fn (.ref 130))
  else if x = Str.ofString "_levenshtein_distance" then some (.fn (.ref 137))
  else if x = Str.ofString "bisect_right" then some (.fn (.ref 123))
  else if x = Str.ofString "insort_right" then some (.fn (.ref 114))
  else if x = Str.ofString "_law_order" then some (.fn (.ref 142))
  else if x = Str.ofString "_law_marks" then some (.fn (.ref 147))
  else if x = Str.ofString "_law_wrong_pairs" then some (.fn (.ref 154))
  else if x = Str.ofString "_law_stops" then some (.fn (.ref 159))
  else if x = Str.ofString "_law_laid" then some (.fn (.ref 166))
  else if x = Str.ofString "_law_through_a_pile" then some (.fn (.ref 173))
  else if x = Str.ofString "_law_passes" then some (.fn (.ref 178))
  else if x = Str.ofString "_Accumulator" then some (.fn (.ref 101))
  else none
inductive Csub (a : Addr) (ds : List D) (kw : List (Str × D)) (o : List O) (Q : Post) : Prop where
  | mk {c d : Nat} : a = 130 → kw = [] → ds = [.str (mk [c]), .str (mk [d])] → c < 128 → d < 128 → Q (.int (cost c d)) o → Csub a ds kw o Q
set_option compiler.extract_closed false
-- side goals
local macro_rules | `(tactic| walk_at "N") => `(tactic| first
  | kernel_rfl!
  | (refine' (?f : ∀ (_ : ?A) (_ : ?A), ?A) ?w ?z; (case f => exact fun _ h => h); (case w => walk_at "N0"); (case z => kernel_rfl))
  | walk_at "N0")
local macro_rules | `(tactic| walk_at "K") => `(tactic| first
  | (refine' (?f : ∀ (_ : ?A) (_ : ?A), ?A) ?w ?z; (case f => exact fun _ h => h); (case w => walk_at "K0"); (case z => (intro _; kernel_rfl)))
  | walk_at "K0")
local macro_rules | `(tactic| walk_at "L") => `(tactic| first
  | (refine' (?f : ∀ (_ : ?B → ?A) (_ : ?B = ?A) (_ : ?B), ?A) ?w ?e ?z; (case f => exact fun _ e z => Eq.mp e z); (case w => (intro h9; walk_at "L0"; exact h9)); (case e => kernel_rfl!))
  | walk_at "L0")
set_option hygiene false
local macro_rules | `(tactic| walk_at "N0") => `(tactic| (simp only [methV_str, nameF, lkS, getLo, setLo, Gl, ofString_eq, String.reduceEq, if_true, if_false] <;> first | done | rfl))
local macro_rules | `(tactic| walk_at "K0") => `(tactic| (intro _; simp only [setLo, ofString_eq, String.reduceEq, if_true, if_false]; rfl))
local macro_rules | `(tactic| walk_at "L0") => `(tactic| simp only [setLo, inLoc_nil, inLoc_local, inLoc_free, inLoc_cell, inLoc_glob, getLo, ofString_eq, String.reduceEq, if_true, if_false])
local macro_rules | `(tactic| walk_at "O") => `(tactic| first | assumption | omega | (simp only [List.length_take, List.length_drop, List.length_cons, List.length_nil]; omega))
set_option hygiene true
namespace LevN
noncomputable abbrev M : (Str → Option Value) := noM
noncomputable abbrev B : BT := BB
noncomputable abbrev K : (CmpOp → D → D → List O → Post → Prop) := KK
noncomputable abbrev J : (D → D → List O → Post → Prop) := JJ
noncomputable abbrev X : (Expr → Loc → List O → Post → Prop) := fun _ _ _ _ => False
noncomputable abbrev Y : (Stmt → Loc → List O → SPost → Prop) := fun _ _ _ _ => False
noncomputable abbrev E : (Env → Prop) := anyE
end LevN
noncomputable abbrev InvLev1 (x : List Nat) (y : List Nat) (mc : Int) (loc : Loc) (o : List O) : Prop := o = [] ∧ ∃ p : Nat, p ≤ x.length ∧ p ≤ y.length ∧ (x.drop p, y.drop p) = trimP x y ∧ loc = [(Str.ofString "a", some (.str (mk x))), (Str.ofString "b", some (.str (mk y))), (Str.ofString "max_cost", some (.int mc)), (Str.ofString "pre", some (.int p)), (Str.ofString "post", none), (Str.ofString "row", none), (Str.ofString "result", none), (Str.ofString "bindex", none), (Str.ofString "bchar", none), (Str.ofString "distance", none), (Str.ofString "minimum", none), (Str.ofString "index", none), (Str.ofString "substitute", none), (Str.ofString "insert_delete", none)]
noncomputable abbrev InvLev2 (x : List Nat) (y : List Nat) (mc : Int) (n : Nat) (loc : Loc) (o : List O) : Prop := o = [] ∧ ∃ p : Nat, p ≤ x.length ∧ p ≤ y.length ∧ n = x.length - p ∧ trimP (x.drop p) (y.drop p) = trimP x y ∧ loc = [(Str.ofString "a", some (.str (mk x))), (Str.ofString "b", some (.str (mk y))), (Str.ofString "max_cost", some (.int mc)), (Str.ofString "pre", some (.int p)), (Str.ofString "post", none), (Str.ofString "row", none), (Str.ofString "result", none), (Str.ofString "bindex", none), (Str.ofString "bchar", none), (Str.ofString "distance", none), (Str.ofString "minimum", none), (Str.ofString "index", none), (Str.ofString "substitute", none), (Str.ofString "insert_delete", none)]
noncomputable abbrev InvLev3 (x2 : List Nat) (y2 : List Nat) (mc : Int) (p : Nat) (loc : Loc) (o : List O) : Prop := o = [] ∧ ∃ q : Nat, q ≤ x2.length ∧ q ≤ y2.length ∧ (x2.take (x2.length - q), y2.take (y2.length - q)) = trimS x2 y2 ∧ loc = [(Str.ofString "a", some (.str (mk x2))), (Str.ofString "b", some (.str (mk y2))), (Str.ofString "max_cost", some (.int mc)), (Str.ofString "pre", some (.int p)), (Str.ofString "post", some (.int (-(q : Int)))), (Str.ofString "row", none), (Str.ofString "result", none), (Str.ofString "bindex", none), (Str.ofString "bchar", none), (Str.ofString "distance", none), (Str.ofString "minimum", none), (Str.ofString "index", none), (Str.ofString "substitute", none), (Str.ofString "insert_delete", none)]
noncomputable abbrev InvLev4 (x2 : List Nat) (y2 : List Nat) (mc : Int) (p : Nat) (n : Nat) (loc : Loc) (o : List O) : Prop := o = [] ∧ ∃ q : Nat, q ≤ x2.length ∧ q ≤ y2.length ∧ n = x2.length - q ∧ trimS (x2.take (x2.length - q)) (y2.take (y2.length - q)) = trimS x2 y2 ∧ loc = [(Str.ofString "a", some (.str (mk x2))), (Str.ofString "b", some (.str (mk y2))), (Str.ofString "max_cost", some (.int mc)), (Str.ofString "pre", some (.int p)), (Str.ofString "post", some (.int (-(q : Int)))), (Str.ofString "row", none), (Str.ofString "result", none), (Str.ofString "bindex", none), (Str.ofString "bchar", none), (Str.ofString "distance", none), (Str.ofString "minimum", none), (Str.ofString "index", none), (Str.ofString "substitute", none), (Str.ofString "insert_delete", none)]
noncomputable abbrev InvLev5 (x3 : List Nat) (y3 : List Nat) (mc : Int) (p : Nat) (q : Nat) (loc : Loc) (o : List O) : Prop := o = [] ∧ ∃ a b : List Nat, a.length ≤ b.length ∧ a.length ≤ 40 ∧ b.length ≤ 40 ∧ (∀ c ∈ a, c < 128) ∧ (∀ c ∈ b, c < 128) ∧ (if y3.length < x3.length then dpL y3 x3 mc else dpL x3 y3 mc) = dpL a b mc ∧ loc = [(Str.ofString "a", some (.str (mk a))), (Str.ofString "b", some (.str (mk b))), (Str.ofString "max_cost", some (.int mc)), (Str.ofString "pre", some (.int p)), (Str.ofString "post", some (.int (-(q : Int)))), (Str.ofString "row", none), (Str.ofString "result", none), (Str.ofString "bindex", none), (Str.ofString "bchar", none), (Str.ofString "distance", none), (Str.ofString "minimum", none), (Str.ofString "index", none), (Str.ofString "substitute", none), (Str.ofString "insert_delete", none)]
noncomputable abbrev InvLev6 (a : List Nat) (b : List Nat) (mc : Int) (p : Nat) (q : Nat) (row0 : List Int) (i : Nat) (loc : Loc) (o : List O) : Prop := ∃ (row : List Int) (res : Int) (w1 w2 w3 w4 w5 w6 w7 : Option D), row.length = a.length ∧ o = [.list (row.map D.int)] ∧ outerL a mc (b.drop i) i row res = outerL a mc b 0 row0 0 ∧ loc = [(Str.ofString "a", some (.str (mk a))), (Str.ofString "b", some (.str (mk b))), (Str.ofString "max_cost", some (.int mc)), (Str.ofString "pre", some (.int p)), (Str.ofString "post", some (.int (-(q : Int)))), (Str.ofString "row", some (.obj 0)), (Str.ofString "result", some (.int res)), (Str.ofString "bindex", w1), (Str.ofString "bchar", w2), (Str.ofString "distance", w3), (Str.ofString "minimum", w4), (Str.ofString "index", w5), (Str.ofString "substitute", w6), (Str.ofString "insert_delete", w7)]
noncomputable abbrev InvLev7 (a : List Nat) (b : List Nat) (mc : Int) (p : Nat) (q : Nat) (i : Nat) (fin : List Int × Int × Int) (bi : Nat) (j : Nat) (loc : Loc) (o : List O) : Prop := ∃ (dn rest : List Int) (dist res mn : Int) (u5 u6 u7 : Option D), dn.length = j ∧ rest.length + j = a.length ∧ o = [.list ((dn ++ rest).map D.int)] ∧ dn ++ (innerL bi (a.drop j) rest dist res mn).1 = fin.1 ∧ (innerL bi (a.drop j) rest dist res mn).2 = fin.2 ∧ loc = [(Str.ofString "a", some (.str (mk a))), (Str.ofString "b", some (.str (mk b))), (Str.ofString "max_cost", some (.int mc)), (Str.ofString "pre", some (.int p)), (Str.ofString "post", some (.int (-(q : Int)))), (Str.ofString "row", some (.obj 0)), (Str.ofString "result", some (.int res)), (Str.ofString "bindex", some (.int (i : Int))), (Str.ofString "bchar", some (.str (mk [bi]))), (Str.ofString "distance", some (.int dist)), (Str.ofString "minimum", some (.int mn)), (Str.ofString "index", u5), (Str.ofString "substitute", u6), (Str.ofString "insert_delete", u7)]
open LevN in
theorem lev_W (w : World) : PySem.Challenge.rw_re0083_01.prog = PySem.Challenge.rw_re0083_01.prog → ∃ fd body sc, (FnD (hd1.heap_1 w.params) 137 fd body ∧ fd.scope.names = sc ∧ (∀ x ∈ fd.scope.names, x.2 ≠ .cell) ∧ ndOk sc = true ∧ (∀ x ∈ [Str.ofString "a", Str.ofString "b", Str.ofString "max_cost"], fd.scope.names.lookup x = some .local) ∧ ∀ a b c, bindArgs fd ⟨[a, b, c], []⟩ = pure [(Str.ofString "a", a), (Str.ofString "b", b), (Str.ofString "max_cost", c)]) ∧ ∀ (x y : List Nat) (mc : Int), x.length ≤ 40 → y.length ≤ 40 → (∀ c ∈ x, c < 128) → (∀ c ∈ y, c < 128) → 0 ≤ mc →
    WSs ⟨sc, Gl, Csub, M, B, K, J, X, Y, E⟩ body [(Str.ofString "a", some (.str (mk x))), (Str.ofString "b", some (.str (mk y))), (Str.ofString "max_cost", some (.int mc)), (Str.ofString "pre", none), (Str.ofString "post", none), (Str.ofString "row", none), (Str.ofString "result", none), (Str.ofString "bindex", none), (Str.ofString "bchar", none), (Str.ofString "distance", none), (Str.ofString "minimum", none), (Str.ofString "index", none), (Str.ofString "substitute", none), (Str.ofString "insert_delete", none)] [] (fun fl _ o' => retD fl = (.int (levL x y mc))) := by
  k_fill
  intro _
  refine ⟨_, _, _, ⟨⟨⟨_, _, _, by k_is⟩, ⟨_, _, _, _, _, _, rfl, by k_is, rfl⟩, rfl, rfl, rfl, rfl, rfl, rfl, rfl⟩, rfl, by decide, by decide, by decide, fun _ _ _ => rfl⟩, ?_⟩
  intro x y mc hx hy hax hay hmc
  repeat (with_reducible first | apply r_cons | apply c_eqs | apply t_bool | (apply r_name; (case kn => walk_at "N")) | (apply r_tcmp; (case kn => walk_at "N")) | apply r_if)
  refine ⟨fun hc => ?_, fun hc => ?_⟩
  · repeat (with_reducible first | apply r_cons | apply r_seqr | apply r_int | apply r_return)
    have e : x = y := by simpa using hc
    show D.int _ = D.int _
    rw [levL, if_pos e]
  have hne : ¬ x = y := by simpa using hc
  repeat (with_reducible first | apply r_cons | apply r_seq | apply r_int | apply r_nil | (apply r_assign; (case ka => (refine ⟨?_, fun _ _ _ => rfl⟩; walk_at "N")); (case kk => walk_at "K")))
  refine r_whileJ (InvLev1 x y mc) (InvLev2 x y mc) x.length ⟨rfl, 0, by omega, by omega, by omega, rfl, rfl⟩ ?_ ?_
  · rintro QN hJ n _ _ ⟨rfl, p, hp1, hp2, hn, ht, rfl⟩
    repeat (with_reducible first | (apply r_tfrom; (case kn => walk_at "N"); (case km => walk_at "N"); (case ko => walk_at "O"); (case kp => walk_at "O")) | apply r_tand | apply r_tandc)
    refine ⟨fun hc1 => ?_, fun hc1 => ?_⟩
    · have g1 : p < x.length := by simpa using hc1
      repeat (with_reducible first | (apply r_tfrom; (case kn => walk_at "N"); (case km => walk_at "N"); (case ko => walk_at "O"); (case kp => walk_at "O")) | apply r_tandc)
      refine ⟨fun hc2 => ?_, fun hc2 => ?_⟩
      · have g2 : p < y.length := by simpa using hc2
        repeat (with_reducible first | apply r_subn | apply r_tandc | (apply r_name; (case kn => walk_at "N")) | (apply r_tcmp; (case kn => walk_at "N")))
        refine g_str rfl (by omega) (List.getElem?_eq_getElem g1) ?_
        repeat (with_reducible first | apply r_subn | (apply r_name; (case kn => walk_at "N")))
        refine g_str rfl (by omega) (List.getElem?_eq_getElem g2) ?_
        repeat (with_reducible first | apply c_eqs | apply t_bool)
        refine ⟨fun hc3 => ?_, fun hc3 => ?_⟩
        · have e3 : x[p] = y[p] := by simpa using hc3
          repeat (with_reducible first | apply r_cons | apply lit_t | apply r_seq | apply r_int | apply r_tandn | apply a_addi | apply r_nil | (apply r_aug; (case kn => walk_at "N"); (case km => walk_at "N"); (case kk => walk_at "K")))
          refine ⟨x.length - (p + 1), by omega, rfl, p + 1, by omega, by omega, rfl, ?_, ?_⟩
          · rw [trimP_step (List.getElem?_eq_getElem g1) (List.getElem?_eq_getElem g2) e3, ht]
          · simp
        · have e3 : x[p] ≠ y[p] := by simpa using hc3
          repeat (with_reducible first | apply lit_f)
          exact hJ _ _ ⟨rfl, p, hp1, hp2, by rw [← ht, trimP_stop (.inr (.inr ⟨_, _, List.getElem?_eq_getElem g1, List.getElem?_eq_getElem g2, e3⟩))], rfl⟩
      · have g2 : ¬ p < y.length := by simpa using hc2
        repeat (with_reducible first | apply lit_f)
        exact hJ _ _ ⟨rfl, p, hp1, hp2, by rw [← ht, trimP_stop (.inr (.inl g2))], rfl⟩
    · have g1 : ¬ p < x.length := by simpa using hc1
      repeat (with_reducible first | apply lit_f)
      exact hJ _ _ ⟨rfl, p, hp1, hp2, by rw [← ht, trimP_stop (.inl g1)], rfl⟩
  rintro _ _ ⟨rfl, p, hp1, hp2, ht, rfl⟩
  have hx2 : (x.drop p).length ≤ 40 := by simp; omega
  have hy2 : (y.drop p).length ≤ 40 := by simp; omega
  have hax2 : ∀ c ∈ x.drop p, c < 128 := fun c h => hax c (List.mem_of_mem_drop h)
  have hay2 : ∀ c ∈ y.drop p, c < 128 := fun c h => hay c (List.mem_of_mem_drop h)
  have hlev : levL x y mc = (let q := trimS (x.drop p) (y.drop p); if q.1 = [] ∨ q.2 = [] then 2 * ((q.1.length : Int) + q.2.length)
    else if q.2.length < q.1.length then dpL q.2 q.1 mc else dpL q.1 q.2 mc) := by
    rw [levL, if_neg hne, ← ht]
  rw [hlev]
  clear hlev ht
  repeat (with_reducible first | (apply r_sfrom; (case kn => walk_at "N"); (case km => walk_at "N"); (case ko => walk_at "O"); (case kp => walk_at "O")) | apply r_cons | apply r_seq | apply r_int | (apply r_assign; (case ka => (refine ⟨?_, fun _ _ _ => rfl⟩; walk_at "N")); (case kk => walk_at "K")))
  generalize x.drop p = x2 at *
  generalize y.drop p = y2 at *
  refine r_whileJ (InvLev3 x2 y2 mc p) (InvLev4 x2 y2 mc p) x2.length ⟨rfl, 0, by omega, by omega, by omega, by simp, by simp⟩ ?_ ?_
  · rintro QN hJ n _ _ ⟨rfl, q, hp1, hp2, hn, ht, rfl⟩
    repeat (with_reducible first | (apply r_tslpost; (case kn => walk_at "N"); (case km => walk_at "N"); (case ko => walk_at "O"); (case kp => walk_at "O")) | apply r_tand | apply r_tandc)
    refine ⟨fun hc1 => ?_, fun hc1 => ?_⟩
    · have g1 : q < x2.length := by simpa using hc1
      repeat (with_reducible first | (apply r_tslpost; (case kn => walk_at "N"); (case km => walk_at "N"); (case ko => walk_at "O"); (case kp => walk_at "O")) | apply r_tandc)
      refine ⟨fun hc2 => ?_, fun hc2 => ?_⟩
      · have g2 : q < y2.length := by simpa using hc2
        repeat (with_reducible first | apply r_int | apply r_bin | apply r_subb | apply r_tandc | apply q_sub | (apply r_name; (case kn => walk_at "N")) | (apply r_tcmp; (case kn => walk_at "N")))
        have l1 : x2.length - (q + 1) < x2.length := by omega
        have l2 : y2.length - (q + 1) < y2.length := by omega
        refine g_strn (j := q + 1) (by omega) (by omega) (by omega) (by omega) (List.getElem?_eq_getElem l1) ?_
        repeat (with_reducible first | apply r_int | apply r_bin | apply r_subb | apply q_sub | (apply r_name; (case kn => walk_at "N")))
        refine g_strn (j := q + 1) (by omega) (by omega) (by omega) (by omega) (List.getElem?_eq_getElem l2) ?_
        repeat (with_reducible first | apply c_eqs | apply t_bool)
        refine ⟨fun hc3 => ?_, fun hc3 => ?_⟩
        · have e3 : x2[x2.length - (q + 1)] = y2[y2.length - (q + 1)] := by simpa using hc3
          repeat (with_reducible first | apply r_cons | apply lit_t | apply r_seq | apply r_int | apply r_tandn | apply a_subi | apply r_nil | (apply r_aug; (case kn => walk_at "N"); (case km => walk_at "N"); (case kk => walk_at "K")))
          refine ⟨x2.length - (q + 1), by omega, rfl, q + 1, by omega, by omega, rfl, ?_, ?_⟩
          · rw [trimS_step g1 g2 (List.getElem?_eq_getElem l1) (List.getElem?_eq_getElem l2) e3, ht]
          · have : -(q : Int) - 1 = -((q + 1 : Nat) : Int) := by omega
            rw [this]
        · have e3 : x2[x2.length - (q + 1)] ≠ y2[y2.length - (q + 1)] := by simpa using hc3
          repeat (with_reducible first | apply lit_f)
          exact hJ _ _ ⟨rfl, q, hp1, hp2, by rw [← ht, trimS_stop (.inr (.inr ⟨_, _, List.getElem?_eq_getElem l1, List.getElem?_eq_getElem l2, e3⟩)) hp1 hp2], rfl⟩
      · have g2 : ¬ q < y2.length := by simpa using hc2
        repeat (with_reducible first | apply lit_f)
        exact hJ _ _ ⟨rfl, q, hp1, hp2, by rw [← ht, trimS_stop (.inr (.inl g2)) hp1 hp2], rfl⟩
    · have g1 : ¬ q < x2.length := by simpa using hc1
      repeat (with_reducible first | apply lit_f)
      exact hJ _ _ ⟨rfl, q, hp1, hp2, by rw [← ht, trimS_stop (.inl g1) hp1 hp2], rfl⟩
  rintro _ _ ⟨rfl, q, hq1, hq2, ht, rfl⟩
  have hx3 : (x2.take (x2.length - q)).length ≤ 40 := by simp; omega
  have hy3 : (y2.take (y2.length - q)).length ≤ 40 := by simp; omega
  have hax3 : ∀ c ∈ x2.take (x2.length - q), c < 128 := fun c h => hax2 c (List.mem_of_mem_take h)
  have hay3 : ∀ c ∈ y2.take (y2.length - q), c < 128 := fun c h => hay2 c (List.mem_of_mem_take h)
  rw [← ht]
  clear ht
  repeat (with_reducible first | (apply r_slpost; (case kn => walk_at "N"); (case km => walk_at "N"); (case ko => walk_at "O"); (case kp => walk_at "O")) | apply r_cons | apply r_seq | apply r_tnot | apply r_tor | apply r_torc | (apply r_tname; (case kn => walk_at "N")) | (apply r_assign; (case ka => (refine ⟨?_, fun _ _ _ => rfl⟩; walk_at "N")); (case kk => walk_at "K")) | apply r_if)
  generalize x2.take (x2.length - q) = x3 at *
  generalize y2.take (y2.length - q) = y3 at *
  by_cases hz : x3 = [] ∨ y3 = []
  · have hz' : ∀ QT : SPost, (if x3 = [] ∨ y3 = [] then 2 * ((x3.length : Int) + y3.length) else if y3.length < x3.length then dpL y3 x3 mc else dpL x3 y3 mc) = 2 * ((x3.length : Int) + y3.length) := fun _ => if_pos hz
    refine t_str (by omega) ⟨fun hc4 => ?_, fun hc4 => ?_⟩
    · repeat (with_reducible first | apply r_cons | apply lit_t | apply r_bin | apply r_esc | apply r_esn | apply r_ksn | apply r_return | (apply r_name; (case kn => walk_at "N")) | (apply r_call; (case kn => walk_at "N"); (case km => walk_at "N")))
      refine b_lens (by omega) ?_
      repeat (with_reducible first | apply r_esc | apply r_esn | apply r_ksn | (apply r_name; (case kn => walk_at "N")) | (apply r_call; (case kn => walk_at "N"); (case km => walk_at "N")))
      refine b_lens (by omega) ?_
      repeat (with_reducible first | apply q_add)
      refine q_mul (by omega) ?_
      repeat (with_reducible first | apply r_seqr)
      simp only [if_pos hz]
      rfl
    · repeat (with_reducible first | apply r_tnot | apply r_torc | (apply r_tname; (case kn => walk_at "N")))
      refine t_str (by omega) ⟨fun hc5 => ?_, fun hc5 => ?_⟩
      · repeat (with_reducible first | apply r_cons | apply lit_t | apply r_bin | apply r_esc | apply r_esn | apply r_ksn | apply r_return | (apply r_name; (case kn => walk_at "N")) | (apply r_call; (case kn => walk_at "N"); (case km => walk_at "N")))
        refine b_lens (by omega) ?_
        repeat (with_reducible first | apply r_esc | apply r_esn | apply r_ksn | (apply r_name; (case kn => walk_at "N")) | (apply r_call; (case kn => walk_at "N"); (case km => walk_at "N")))
        refine b_lens (by omega) ?_
        repeat (with_reducible first | apply q_add)
        refine q_mul (by omega) ?_
        repeat (with_reducible first | apply r_seqr)
        simp only [if_pos hz]
        rfl
      · exfalso
        simp at hc4 hc5
        rcases hz with h | h
        · exact hc4 h
        · exact hc5 h
  refine t_str (by omega) ⟨fun hc4 => ?_, fun hc4 => ?_⟩
  · exfalso; simp at hc4; exact hz (.inl hc4)
  repeat (with_reducible first | apply r_tnot | apply r_torc | (apply r_tname; (case kn => walk_at "N")))
  refine t_str (by omega) ⟨fun hc5 => ?_, fun hc5 => ?_⟩
  · exfalso; simp at hc5; exact hz (.inr hc5)
  repeat (with_reducible first | apply r_cons | apply lit_f | apply r_seq | apply r_esc | apply r_esn | apply r_ksn | apply r_tor | apply r_torc | apply r_torn | apply r_nil | (apply r_name; (case kn => walk_at "N")) | (apply r_tcmp; (case kn => walk_at "N")) | (apply r_call; (case kn => walk_at "N"); (case km => walk_at "N")) | apply r_if)
  refine b_lens (by omega) ?_
  repeat (with_reducible first | apply c_gti | apply t_bool | (apply r_name; (case kn => walk_at "N")))
  refine ⟨fun hc6 => ?_, fun hc6 => ?_⟩
  · exfalso; simp at hc6; omega
  repeat (with_reducible first | apply r_esc | apply r_esn | apply r_ksn | apply r_torc | (apply r_name; (case kn => walk_at "N")) | (apply r_tcmp; (case kn => walk_at "N")) | (apply r_call; (case kn => walk_at "N"); (case km => walk_at "N")))
  refine b_lens (by omega) ?_
  repeat (with_reducible first | apply c_gti | apply t_bool | (apply r_name; (case kn => walk_at "N")))
  refine ⟨fun hc7 => ?_, fun hc7 => ?_⟩
  · exfalso; simp at hc7; omega
  repeat (with_reducible first | apply r_cons | apply lit_f | apply r_seq | apply r_torn | apply r_nil)
  rw [if_neg hz]
  refine r_ifJ (InvLev5 x3 y3 mc p q) ?_ ?_
  · intro QT hT hR
    repeat (with_reducible first | apply r_esc | apply r_esn | apply r_ksn | (apply r_name; (case kn => walk_at "N")) | (apply r_tcmp; (case kn => walk_at "N")) | (apply r_call; (case kn => walk_at "N"); (case km => walk_at "N")))
    refine b_lens (by omega) ?_
    repeat (with_reducible first | apply r_esc | apply r_esn | apply r_ksn | (apply r_name; (case kn => walk_at "N")) | (apply r_call; (case kn => walk_at "N"); (case km => walk_at "N")))
    refine b_lens (by omega) ?_
    repeat (with_reducible first | apply c_lti | apply t_bool)
    refine ⟨fun hc8 => ?_, fun hc8 => ?_⟩
    · have h8 : y3.length < x3.length := by simpa using hc8
      repeat (with_reducible first | apply r_cons)
      refine r_swap (by walk_at "N") (by walk_at "N") (by walk_at "N") (by simp only [setLo, ofString_eq, String.reduceEq, if_true, if_false]; rfl) ?_
      repeat (with_reducible first | apply r_seq | apply r_nil)
      exact hT _ _ ⟨rfl, y3, x3, by omega, hy3, hx3, hay3, hax3, if_pos h8, rfl⟩
    · have h8 : ¬ y3.length < x3.length := by simpa using hc8
      repeat (with_reducible first | apply r_nil)
      exact hT _ _ ⟨rfl, x3, y3, by omega, hx3, hy3, hax3, hay3, if_neg h8, rfl⟩
  rintro _ _ ⟨rfl, a, b, hab, ha, hb, haa, hbb, hdp, rfl⟩
  rw [hdp]
  clear hdp hz
  repeat (with_reducible first | apply r_cons | apply r_seq | apply r_bin | apply r_esc | apply r_esn | apply r_ksn | (apply r_name; (case kn => walk_at "N")) | (apply r_tcmp; (case kn => walk_at "N")) | (apply r_call; (case kn => walk_at "N"); (case km => walk_at "N")) | apply r_if)
  refine b_lens (by omega) ?_
  repeat (with_reducible first | apply r_esc | apply r_esn | apply r_ksn | (apply r_name; (case kn => walk_at "N")) | (apply r_call; (case kn => walk_at "N"); (case km => walk_at "N")))
  refine b_lens (by omega) ?_
  repeat (with_reducible first | apply q_sub | (apply r_name; (case kn => walk_at "N")))
  refine q_mul (by omega) ?_
  repeat (with_reducible first | apply c_gti | apply t_bool | (apply r_name; (case kn => walk_at "N")))
  unfold dpL
  refine ⟨fun hc9 => ?_, fun hc9 => ?_⟩
  · have h9 : ((b.length : Int) - a.length) * 2 > mc := by simpa using hc9
    repeat (with_reducible first | apply r_cons | apply r_seqr | apply r_int | apply r_bin | apply r_return | apply q_add | (apply r_name; (case kn => walk_at "N")))
    rw [if_pos h9]; rfl
  have h9 : ¬ ((b.length : Int) - a.length) * 2 > mc := by simpa using hc9
  rw [if_neg h9]
  repeat (with_reducible first | apply r_cons | apply r_seq | apply r_bin | apply r_esc | apply r_esn | apply r_ksn | apply r_nil | (apply r_name; (case kn => walk_at "N")) | (apply r_assign; (case ka => (refine ⟨?_, fun _ _ _ => rfl⟩; walk_at "N")); (case kk => walk_at "K")) | (apply r_call; (case kn => walk_at "N"); (case km => walk_at "N")))
  refine b_lens (by omega) ?_
  repeat (with_reducible first | apply r_int | apply q_add)
  refine q_mul (by omega) ?_
  repeat (with_reducible first | apply r_esc | apply r_esn | apply r_ksn | (apply r_name; (case kn => walk_at "N")))
  refine b_range3 (by omega) ?_
  repeat (with_reducible first | apply r_esn | apply r_ksn)
  refine r_list2 (by omega) ?_
  repeat (with_reducible first | apply r_cons | apply r_seq | apply r_int | (apply r_assign; (case ka => (refine ⟨?_, fun _ _ _ => rfl⟩; walk_at "N")); (case kk => walk_at "K")))
  refine r_forr (by walk_at "N") (by walk_at "N") ?_
  repeat (with_reducible first | apply r_esc | apply r_esn | apply r_ksn | (apply r_name; (case kn => walk_at "N")) | (apply r_call; (case kn => walk_at "N"); (case km => walk_at "N")))
  refine b_lens (by omega) (rng_one ⟨by omega, ?_⟩)
  have hrow : ((List.range a.length).map fun (i : Nat) => 2 + (i : Int) * 2).length = a.length := by simp
  generalize ((List.range a.length).map fun (i : Nat) => 2 + (i : Int) * 2) = row0 at *
  refine r_forJ (InvLev6 a b mc p q row0)
    ⟨row0, 0, _, _, _, _, _, _, _, hrow, rfl, rfl, rfl⟩ (fun _ _ _ _ => trivial) ?_ ?_
  · rintro QN i d _ _ hd ⟨row, res, w1, w2, w3, w4, w5, w6, w7, hrl, rfl, hout, rfl⟩
    obtain ⟨rfl, hi⟩ := rangeD_get hd
    have hib : i < b.length := by omega
    rw [List.drop_eq_getElem_cons hib, outerL] at hout
    have e0 : (0 : Int) + (i : Int) = i := by omega
    rw [e0]
    refine .name (by walk_at "N") ?_
    walk_at "L"
    repeat (with_reducible first | apply r_cons | apply r_subn | (apply r_name; (case kn => walk_at "N")) | (apply r_assign; (case ka => (refine ⟨?_, fun _ _ _ => rfl⟩; walk_at "N")); (case kk => walk_at "K")))
    refine g_str rfl (by omega) (List.getElem?_eq_getElem hib) ?_
    repeat (with_reducible first | apply r_cons | apply r_seq | apply r_bin | (apply r_name; (case kn => walk_at "N")) | (apply r_assign2; (case ka => (refine ⟨?_, fun _ _ _ => rfl⟩; walk_at "N")); (case kk => walk_at "K")))
    refine q_mul (by omega) ?_
    repeat (with_reducible first | apply r_cons | apply r_seq | apply r_int | (apply r_assign; (case ka => (refine ⟨?_, fun _ _ _ => rfl⟩; walk_at "N")); (case kk => walk_at "K")))
    refine r_forr (by walk_at "N") (by walk_at "N") ?_
    repeat (with_reducible first | apply r_esc | apply r_esn | apply r_ksn | (apply r_name; (case kn => walk_at "N")) | (apply r_call; (case kn => walk_at "N"); (case km => walk_at "N")))
    refine b_lens (by omega) (rng_one ⟨by omega, ?_⟩)
    generalize hfin : innerL b[i] a row ((i : Int) * 2) ((i : Int) * 2) big = fin at *
    refine r_forJ (InvLev7 a b mc p q i fin b[i])
      ⟨[], row, _, _, _, _, _, _, rfl, by omega, rfl, by rw [← hfin]; rfl, by rw [← hfin]; rfl, rfl⟩ (fun _ _ _ _ => trivial) ?_ ?_
    · rintro QN j d _ _ hd ⟨dn, rest, dist, res, mn, u5, u6, u7, hdn, hre, rfl, h1, h2, rfl⟩
      obtain ⟨rfl, hj⟩ := rangeD_get hd
      have hja : j < a.length := by omega
      cases rest with
      | nil => simp at hre; omega
      | cons r rest =>
      rw [List.drop_eq_getElem_cons hja, innerL] at h1 h2
      have e0 : (0 : Int) + (j : Int) = j := by omega
      rw [e0]
      refine .name (by walk_at "N") ?_
      walk_at "L"
      repeat (with_reducible first | apply r_cons | apply r_bin | apply r_esc | apply r_subn | (apply r_name; (case kn => walk_at "N")) | (apply r_assign; (case ka => (refine ⟨?_, fun _ _ _ => rfl⟩; walk_at "N")); (case kk => walk_at "K")) | (apply r_call; (case kn => walk_at "N"); (case km => walk_at "N")))
      refine g_str rfl (by omega) (List.getElem?_eq_getElem hja) ?_
      repeat (with_reducible first | apply r_esn | apply r_ksn | apply b_fn)
      refine ⟨rfl, rfl, rfl, hbb _ (List.getElem_mem _), haa _ (List.getElem_mem _), ?_⟩
      repeat (with_reducible first | apply r_cons | apply r_seq | apply r_subn | apply q_add | (apply r_name; (case kn => walk_at "N")) | (apply r_assign; (case ka => (refine ⟨?_, fun _ _ _ => rfl⟩; walk_at "N")); (case kk => walk_at "K")))
      have hget : (List.map D.int (dn ++ r :: rest))[j]? = some (.int r) := by
        rw [List.getElem?_map, List.getElem?_append_right (by omega), hdn, Nat.sub_self]; rfl
      have hrl2 : rest.length + 1 + j = a.length := by simpa using hre
      refine g_list rfl rfl (by simp; omega) hget ?_
      repeat (with_reducible first | apply r_cons | apply r_seq | apply r_bin | apply r_esc | apply r_esn | apply r_ksn | apply q_add | apply b_min | (apply r_name; (case kn => walk_at "N")) | (apply r_assign; (case ka => (refine ⟨?_, fun _ _ _ => rfl⟩; walk_at "N")); (case kk => walk_at "K")) | (apply r_call; (case kn => walk_at "N"); (case km => walk_at "N")))
      refine r_setitem (fun _ _ _ => rfl) ?_
      repeat (with_reducible first | (apply r_name; (case kn => walk_at "N")))
      have hset : (List.map D.int (dn ++ r :: rest)).set j (.int (min (min res r + 2) (dist + cost b[i] a[j]))) = List.map D.int ((dn ++ [min (min res r + 2) (dist + cost b[i] a[j])]) ++ rest) := by
        rw [List.map_append, List.set_append_right _ _ (by simp; omega)]
        simp [hdn]
      refine .lst rfl (by omega) (by simp; omega) (by simp; omega) ?_
      show Kseq _ _ _ _ [O.list (List.set _ j _)]
      rw [hset]
      generalize min (min res r + 2) (dist + cost b[i] a[j]) = res' at *
      repeat (with_reducible first | apply r_cons | apply r_seq | apply c_lti | apply t_bool | (apply r_name; (case kn => walk_at "N")) | (apply r_tcmp; (case kn => walk_at "N")) | apply r_if)
      refine ⟨fun hcA => ?_, fun hcA => ?_⟩
      · have hlt : res' < mn := by simpa using hcA
        rw [if_pos hlt] at h1 h2
        repeat (with_reducible first | apply r_cons | apply r_seq | apply r_nil | (apply r_name; (case kn => walk_at "N")) | (apply r_assign; (case ka => (refine ⟨?_, fun _ _ _ => rfl⟩; walk_at "N")); (case kk => walk_at "K")))
        exact ⟨dn ++ [res'], rest, _, _, _, _, _, _, by simp [hdn], by simp at hre; omega, rfl, by rw [List.append_assoc]; exact h1, h2, rfl⟩
      · have hlt : ¬ res' < mn := by simpa using hcA
        rw [if_neg hlt] at h1 h2
        repeat (with_reducible first | apply r_seq | apply r_nil)
        exact ⟨dn ++ [res'], rest, _, _, _, _, _, _, by simp [hdn], by simp at hre; omega, rfl, by rw [List.append_assoc]; exact h1, h2, rfl⟩
    · rintro _ _ ⟨dn, rest, dist, res, mn, u5, u6, u7, hdn, hre, rfl, h1, h2, rfl⟩
      have hl : (rangeD 0 (a.length : Int)).length = a.length := by rw [rangeD_len]; simp
      rw [hl] at hdn hre h1 h2
      cases rest with
      | cons r rest => simp at hre
      | nil =>
      rw [List.drop_length, innerL] at h1 h2
      · repeat (with_reducible first | apply r_cons | apply r_seq | apply c_gti | apply t_bool | (apply r_name; (case kn => walk_at "N")) | (apply r_tcmp; (case kn => walk_at "N")) | apply r_if)
        refine ⟨fun hcB => ?_, fun hcB => ?_⟩
        · have hgt : mn > mc := by simpa using hcB
          repeat (with_reducible first | apply r_cons | apply r_seqr | apply r_int | apply r_bin | apply r_return | apply q_add | (apply r_name; (case kn => walk_at "N")))
          rw [← hout, if_pos (by rw [← h2]; exact hgt)]; rfl
        · have hgt : ¬ mn > mc := by simpa using hcB
          rw [if_neg (by rw [← h2]; exact hgt), ← h1, ← h2] at hout
          repeat (with_reducible first | apply r_seq | apply r_nil)
          exact ⟨_, _, _, _, _, _, _, _, _, by rw [← hdn]; simp, by simp, hout, rfl⟩
      all_goals simp
  · rintro _ _ ⟨row, res, w1, w2, w3, w4, w5, w6, w7, hrl, rfl, hout, rfl⟩
    have hl : (rangeD 0 (b.length : Int)).length = b.length := by rw [rangeD_len]; simp
    rw [hl, List.drop_length, outerL] at hout
    repeat (with_reducible first | apply r_cons | apply r_seq | apply r_seqr | apply r_return | (apply r_name; (case kn => walk_at "N")))
    rw [hout]; rfl

open PySem PySem.W PySem.Spec PySem.Calls PyProof.Rows
set_option Elab.async false
set_option maxRecDepth 100000
set_option linter.unusedVariables false
set_option linter.unusedSimpArgs false
set_option maxHeartbeats 1000000
namespace SubN
noncomputable abbrev C : CT := noC
noncomputable abbrev M : (Str → Option Value) := noM
noncomputable abbrev B : BT := BB
noncomputable abbrev K : (CmpOp → D → D → List O → Post → Prop) := KK
noncomputable abbrev J : (D → D → List O → Post → Prop) := JJ
noncomputable abbrev X : (Expr → Loc → List O → Post → Prop) := fun _ _ _ _ => False
noncomputable abbrev Y : (Stmt → Loc → List O → SPost → Prop) := fun _ _ _ _ => False
noncomputable abbrev E : (Env → Prop) := anyE
end SubN
open SubN in
theorem subst_W (w : World) : PySem.Challenge.rw_re0083_01.prog = PySem.Challenge.rw_re0083_01.prog → ∃ fd body sc, (FnD (hd1.heap_1 w.params) 130 fd body ∧ fd.scope.names = sc ∧ (∀ x ∈ fd.scope.names, x.2 ≠ .cell) ∧ ndOk sc = true ∧ (∀ x ∈ [Str.ofString "ch_a", Str.ofString "ch_b"], fd.scope.names.lookup x = some .local) ∧ ∀ a b, bindArgs fd ⟨[a, b], []⟩ = pure [(Str.ofString "ch_a", a), (Str.ofString "ch_b", b)]) ∧ ∀ (c d : Nat) (o : List O), c < 128 → d < 128 →
    WSs ⟨sc, Gl, C, M, B, K, J, X, Y, E⟩ body [(Str.ofString "ch_a", some (.str (mk [c]))), (Str.ofString "ch_b", some (.str (mk [d])))] o (fun fl _ o' => retD fl = (.int (cost c d)) ∧ o' = o) := by
  k_fill
  intro _
  refine ⟨_, _, _, ⟨⟨⟨_, _, _, by k_is⟩, ⟨_, _, _, _, _, _, rfl, by k_is, rfl⟩, rfl, rfl, rfl, rfl, rfl, rfl, rfl⟩, rfl, by decide, by decide, by decide, fun _ _ => rfl⟩, ?_⟩
  intro c d o hc hd
  repeat (with_reducible first | apply r_cons | apply c_eqs | apply t_bool | (apply r_name; (case kn => walk_at "N")) | (apply r_tcmp; (case kn => walk_at "N")) | apply r_if)
  refine ⟨fun h1 => ?_, fun h1 => ?_⟩
  · have e : c = d := by simpa using h1
    repeat (with_reducible first | apply r_cons | apply r_seqr | apply r_int | apply r_return)
    exact ⟨by rw [cost, if_pos e]; rfl, rfl⟩
  have e : ¬ c = d := by simpa using h1
  repeat (with_reducible first | apply r_cons | apply r_seq | apply r_esn | apply r_nil | (apply r_name; (case kn => walk_at "N")) | (apply r_tcmp; (case kn => walk_at "N")) | (apply m_str; (case kn => walk_at "N")) | (apply r_methd; (case ka => (refine ⟨fun _ _ _ => rfl, ?_⟩; walk_at "N"))) | apply r_if)
  refine ⟨rfl, .lower (by simp [mk_length]) ?_⟩
  rw [lower_ascii c hc]
  repeat (with_reducible first | apply r_esn | (apply r_name; (case kn => walk_at "N")) | (apply m_str; (case kn => walk_at "N")) | (apply r_methd; (case ka => (refine ⟨fun _ _ _ => rfl, ?_⟩; walk_at "N"))))
  refine ⟨rfl, .lower (by simp [mk_length]) ?_⟩
  rw [lower_ascii d hd]
  repeat (with_reducible first | apply c_eqs | apply t_bool)
  refine ⟨fun h2 => ?_, fun h2 => ?_⟩
  · have e2 : lowA c = lowA d := by simpa using h2
    repeat (with_reducible first | apply r_cons | apply r_seqr | apply r_return | (apply r_name; (case kn => walk_at "N")))
    exact ⟨by rw [cost, if_neg e, if_pos e2]; rfl, rfl⟩
  · have e2 : ¬ lowA c = lowA d := by simpa using h2
    repeat (with_reducible first | apply r_cons | apply r_seq | apply r_seqr | apply r_return | apply r_nil | (apply r_name; (case kn => walk_at "N")))
    exact ⟨by rw [cost, if_neg e, if_neg e2]; rfl, rfl⟩
noncomputable def bisL (f : Nat → Bool) : Nat → Nat → Nat → Nat
  | 0, lo, _ => lo
  | n + 1, lo, hi => if lo < hi then (if f ((lo + hi) / 2) then bisL f n lo ((lo + hi) / 2) else bisL f n ((lo + hi) / 2 + 1) hi) else lo
theorem bisL_stop (f : Nat → Bool) (n lo hi : Nat) (h : ¬ lo < hi) : bisL f n lo hi = lo := by
  cases n with
  | zero => rfl
  | succ n => rw [bisL, if_neg h]
noncomputable def ltAt (x : List Nat) (l : List (List Nat)) (i : Nat) : Bool := match l[i]? with | some y => decide (x < y) | none => false
namespace BisN
noncomputable abbrev C : CT := noC
noncomputable abbrev M : (Str → Option Value) := noM
noncomputable abbrev B : BT := BB
noncomputable abbrev K : (CmpOp → D → D → List O → Post → Prop) := KK
noncomputable abbrev J : (D → D → List O → Post → Prop) := JJ
noncomputable abbrev X : (Expr → Loc → List O → Post → Prop) := fun _ _ _ _ => False
noncomputable abbrev Y : (Stmt → Loc → List O → SPost → Prop) := fun _ _ _ _ => False
noncomputable abbrev E : (Env → Prop) := anyE
end BisN
noncomputable abbrev InvBisect1 (n : Nat) (x : List Nat) (l : List (List Nat)) (o : List O) (loc : Loc) (o' : List O) : Prop := o' = o ∧ ∃ hi v, loc = [(Str.ofString "a", some (.obj n)), (Str.ofString "x", some (.str (mk x))), (Str.ofString "lo", some (.int ((bisL (ltAt x l) l.length 0 l.length : Nat) : Int))), (Str.ofString "hi", some (.int hi)), (Str.ofString "key", some .none), (Str.ofString "mid", v)]
noncomputable abbrev InvBisect2 (n : Nat) (x : List Nat) (l : List (List Nat)) (o : List O) (k : Nat) (loc : Loc) (o' : List O) : Prop := o' = o ∧ ∃ (lo hi : Nat) (v : Option D), hi ≤ l.length ∧ hi - lo ≤ k ∧ bisL (ltAt x l) k lo hi = bisL (ltAt x l) l.length 0 l.length ∧ loc = [(Str.ofString "a", some (.obj n)), (Str.ofString "x", some (.str (mk x))), (Str.ofString "lo", some (.int lo)), (Str.ofString "hi", some (.int hi)), (Str.ofString "key", some .none), (Str.ofString "mid", v)]
open BisN in
theorem bisect_W (w : World) : PySem.Challenge.rw_re0083_01.prog = PySem.Challenge.rw_re0083_01.prog → ∃ fd body sc, (FnD (hd1.heap_1 w.params) 123 fd body ∧ fd.scope.names = sc ∧ (∀ x ∈ fd.scope.names, x.2 ≠ .cell) ∧ ndOk sc = true ∧ (∀ x ∈ [Str.ofString "a", Str.ofString "x", Str.ofString "lo", Str.ofString "hi", Str.ofString "key"], fd.scope.names.lookup x = some .local) ∧ ∀ (s : Shared), (hd1.heap_1 w.params).In s.heap → ∀ v u, ∃ t, BindsTo s fd ⟨[v, u], []⟩ [(Str.ofString "a", v), (Str.ofString "x", u), (Str.ofString "lo", .int 0 t), (Str.ofString "hi", .none), (Str.ofString "key", .none)]) ∧ ∀ (n : Nat) (l : List (List Nat)) (x : List Nat) (v : Option D) (o : List O), o[n]? = some (.list (l.map fun s => .str (mk s))) → l.length ≤ 1000 →
    WSs ⟨sc, Gl, C, M, B, K, J, X, Y, E⟩ body [(Str.ofString "a", some (.obj n)), (Str.ofString "x", some (.str (mk x))), (Str.ofString "lo", some (.int 0)), (Str.ofString "hi", some .none), (Str.ofString "key", some .none), (Str.ofString "mid", v)] o (fun fl _ o' => retD fl = (.int ((bisL (ltAt x l) l.length 0 l.length : Nat) : Int)) ∧ o' = o) := by
  k_fill
  intro _
  refine ⟨_, _, _, ⟨⟨⟨_, _, _, by k_is⟩, ⟨_, _, _, _, _, _, rfl, by k_is, rfl⟩, rfl, rfl, rfl, rfl, rfl, rfl, rfl⟩, rfl, by decide, by decide, by decide, ?_⟩, ?_⟩
  · intro s X v u
    exact ⟨_, kp_binds X (fun _ => rfl)⟩
  intro n l x v o ho hl
  repeat (with_reducible first | apply r_cons | apply r_int | apply c_lti | apply t_bool | (apply r_name; (case kn => walk_at "N")) | (apply r_tcmp; (case kn => walk_at "N")) | apply r_if)
  refine ⟨fun h => by simp at h, fun _ => ?_⟩
  repeat (with_reducible first | apply r_cons | apply r_seq | apply r_none | apply r_nil | (apply r_name; (case kn => walk_at "N")) | (apply r_tcmp; (case kn => walk_at "N")) | apply r_if)
  refine c_isnn ?_
  repeat (with_reducible first | apply r_cons | apply lit_t | apply r_esc | apply r_esn | apply r_ksn | apply t_bool | (apply r_name; (case kn => walk_at "N")) | (apply r_assign; (case ka => (refine ⟨?_, fun _ _ _ => rfl⟩; walk_at "N")); (case kk => walk_at "K")) | (apply r_call; (case kn => walk_at "N"); (case km => walk_at "N")))
  refine b_lenl ho (by simp; omega) ?_
  repeat (with_reducible first | apply r_cons | apply r_seq | apply r_none | apply r_nil | (apply r_name; (case kn => walk_at "N")) | (apply r_tcmp; (case kn => walk_at "N")) | apply r_if)
  refine c_isnn ?_
  repeat (with_reducible first | apply r_cons | apply lit_t | apply t_bool)
  have hlen : (List.map (fun s => D.str (mk s)) l).length = l.length := by simp
  rw [hlen]
  refine r_whileJ (InvBisect1 n x l o)
    (InvBisect2 n x l o) l.length ⟨rfl, 0, l.length, _, by omega, by omega, rfl, rfl⟩ ?_ ?_
  · rintro QN hJ k _ _ ⟨rfl, lo, hi, v, h1, h2, h3, rfl⟩
    repeat (with_reducible first | apply c_lti | apply t_bool | (apply r_name; (case kn => walk_at "N")) | (apply r_tcmp; (case kn => walk_at "N")))
    refine ⟨fun hc => ?_, fun hc => ?_⟩
    · have hlt : lo < hi := by simpa using hc
      cases k with
      | zero => omega
      | succ k =>
      rw [bisL, if_pos hlt] at h3
      repeat (with_reducible first | apply r_cons | apply r_int | apply r_bin | apply q_add | (apply r_name; (case kn => walk_at "N")) | (apply r_assign; (case ka => (refine ⟨?_, fun _ _ _ => rfl⟩; walk_at "N")); (case kk => walk_at "K")))
      refine q_fdiv (by omega) ?_
      repeat (with_reducible first | apply r_cons | apply r_seq | apply r_subn | (apply r_name; (case kn => walk_at "N")) | (apply r_tcmp; (case kn => walk_at "N")) | apply r_if)
      have hm : (((lo : Int) + hi) / 2) = (((lo + hi) / 2 : Nat) : Int) := by omega
      rw [hm]
      have hml : (lo + hi) / 2 < l.length := by omega
      have hge : (List.map (fun s => D.str (mk s)) l)[(lo + hi) / 2]? = some (.str (mk l[(lo + hi) / 2])) := by simp [hml]
      refine g_list ho rfl (by omega) hge ?_
      skip
      refine c_lts ?_
      repeat (with_reducible first | apply t_bool)
      have hf : ltAt x l ((lo + hi) / 2) = decide (x < l[(lo + hi) / 2]) := by simp [ltAt, hml]
      refine ⟨fun hx => ?_, fun hx => ?_⟩
      · rw [hf, if_pos hx] at h3
        repeat (with_reducible first | apply r_cons | apply r_seq | apply r_nil | (apply r_name; (case kn => walk_at "N")) | (apply r_assign; (case ka => (refine ⟨?_, fun _ _ _ => rfl⟩; walk_at "N")); (case kk => walk_at "K")))
        exact ⟨k, by omega, rfl, lo, (lo + hi) / 2, _, by omega, by omega, h3, rfl⟩
      · rw [hf, if_neg (by rw [hx]; simp)] at h3
        repeat (with_reducible first | apply r_cons | apply r_seq | apply r_int | apply r_bin | apply q_add | apply r_nil | (apply r_name; (case kn => walk_at "N")) | (apply r_assign; (case ka => (refine ⟨?_, fun _ _ _ => rfl⟩; walk_at "N")); (case kk => walk_at "K")))
        exact ⟨k, by omega, rfl, (lo + hi) / 2 + 1, hi, _, by omega, by omega, h3, rfl⟩
    · have hlt : ¬ lo < hi := by simpa using hc
      rw [bisL_stop _ _ _ _ hlt] at h3
      exact hJ _ _ ⟨rfl, hi, v, by rw [h3]⟩
  rintro _ _ ⟨rfl, hi, v, rfl⟩
  repeat (with_reducible first | apply r_cons | apply r_seq | apply r_seqr | apply r_return | apply r_nil | (apply r_name; (case kn => walk_at "N")))
  exact ⟨rfl, rfl⟩

open PySem PySem.W PySem.Spec PySem.Calls PyProof.Rows
set_option Elab.async false
set_option maxRecDepth 100000
set_option linter.unusedVariables false
set_option linter.unusedSimpArgs false
set_option maxHeartbeats 1000000

theorem bisN_stop (f : Nat → Bool) (n lo hi : Nat) (h : ¬ lo < hi) : bisN f n lo hi = lo := by
  cases n with
  | zero => rfl
  | succ n => rw [bisN, if_neg h]
theorem keyI_of {l : List (Str × D)} {z : Str} (h : ∃ k, dget l z = some (.int k)) : dget l z = some (.int (keyI l z)) := by
  obtain ⟨k, e⟩ := h
  unfold keyI; rw [e]
theorem strsD_len (ys : List Str) : (strsD ys).length = ys.length := by simp [strsD]
theorem strsD_get {ys : List Str} {i : Nat} (h : i < ys.length) : (strsD ys)[i]? = some (.str ys[i]) := by simp [strsD, h]
theorem c_ltt {P : PCtx} {o : List O} {Q : Post} (hK : P.K = KK) {i j : Int} {x y : Str} (h : Q (.bool (if i = j then (if x = y then false else decide (x.cps.toList < y.cps.toList)) else decide (i < j))) o) : cmpF P .Lt (.tup [.int i, .str x]) (.tup [.int j, .str y]) o Q := .other (by rw [hK]; exact .lt h)
namespace BiKN
noncomputable abbrev M : (Str → Option Value) := noM
noncomputable abbrev B : BT := BB
noncomputable abbrev J : (D → D → List O → Post → Prop) := JJ
noncomputable abbrev X : (Expr → Loc → List O → Post → Prop) := fun _ _ _ _ => False
noncomputable abbrev Y : (Stmt → Loc → List O → SPost → Prop) := fun _ _ _ _ => False
noncomputable abbrev E : (Env → Prop) := anyE
end BiKN
noncomputable abbrev InvBisk1 (n : Nat) (l : List (Str × D)) (y : Str) (ys : List Str) (la : Addr) (o : List O) (loc : Loc) (o' : List O) : Prop := o' = o ∧ ∃ hi v, loc = [(Str.ofString "a", some (.obj n)), (Str.ofString "x", some (.tup [.int (keyI l y), .str y])), (Str.ofString "lo", some (.int ((bisN (keyLt l y ys) ys.length 0 ys.length : Nat) : Int))), (Str.ofString "hi", some (.int hi)), (Str.ofString "key", some (.fn (.ref la))), (Str.ofString "mid", v)]
noncomputable abbrev InvBisk2 (n : Nat) (l : List (Str × D)) (y : Str) (ys : List Str) (la : Addr) (o : List O) (k : Nat) (loc : Loc) (o' : List O) : Prop := o' = o ∧ ∃ (lo hi : Nat) (v : Option D), hi ≤ ys.length ∧ hi - lo ≤ k ∧ bisN (keyLt l y ys) k lo hi = bisN (keyLt l y ys) ys.length 0 ys.length ∧ loc = [(Str.ofString "a", some (.obj n)), (Str.ofString "x", some (.tup [.int (keyI l y), .str y])), (Str.ofString "lo", some (.int lo)), (Str.ofString "hi", some (.int hi)), (Str.ofString "key", some (.fn (.ref la))), (Str.ofString "mid", v)]
open BiKN in
theorem bisK_W (w : World) (C : CT) (la : Addr) (l : List (Str × D)) (hC : ∀ ds kw o Q, LamC la l la ds kw o Q → C la ds kw o Q) : PySem.Challenge.rw_re0083_01.prog = PySem.Challenge.rw_re0083_01.prog → ∃ fd body sc, (FnD (hd1.heap_1 w.params) 123 fd body ∧ fd.scope.names = sc ∧ (∀ x ∈ fd.scope.names, x.2 ≠ .cell) ∧ ndOk sc = true ∧ (∀ x ∈ [Str.ofString "a", Str.ofString "x", Str.ofString "lo", Str.ofString "hi", Str.ofString "key"], fd.scope.names.lookup x = some .local) ∧ (∀ (s : Shared), (hd1.heap_1 w.params).In s.heap → ∀ v u, ∃ t, BindsTo s fd ⟨[v, u], []⟩ [(Str.ofString "a", v), (Str.ofString "x", u), (Str.ofString "lo", .int 0 t), (Str.ofString "hi", .none), (Str.ofString "key", .none)]) ∧ (∀ (s : Shared), (hd1.heap_1 w.params).In s.heap → ∀ v u p q, BindsTo s fd ⟨[v, u, p, q], []⟩ [(Str.ofString "a", v), (Str.ofString "x", u), (Str.ofString "lo", p), (Str.ofString "hi", q), (Str.ofString "key", .none)]) ∧ ∀ (s : Shared), (hd1.heap_1 w.params).In s.heap → ∀ v u p q k, BindsTo s fd ⟨[v, u, p, q], [(Str.ofString "key", k)]⟩ [(Str.ofString "a", v), (Str.ofString "x", u), (Str.ofString "lo", p), (Str.ofString "hi", q), (Str.ofString "key", k)]) ∧
    ∀ (n : Nat) (ys : List Str) (y : Str) (v : Option D) (o : List O), o[n]? = some (.list (strsD ys)) → ys.length ≤ 100 → (∀ z ∈ ys, ∃ k, dget l z = some (.int k)) →
    WSs ⟨sc, Gl, C, M, B, KK, J, X, Y, E⟩ body [(Str.ofString "a", some (.obj n)), (Str.ofString "x", some (.tup [.int (keyI l y), .str y])), (Str.ofString "lo", some (.int 0)), (Str.ofString "hi", some .none), (Str.ofString "key", some (.fn (.ref la))), (Str.ofString "mid", v)] o (fun fl _ o' => retD fl = (.int ((bisN (keyLt l y ys) ys.length 0 ys.length : Nat) : Int)) ∧ o' = o) := by
  k_fill
  intro _
  refine ⟨_, _, _, ⟨⟨⟨_, _, _, by k_is⟩, ⟨_, _, _, _, _, _, rfl, by k_is, rfl⟩, rfl, rfl, rfl, rfl, rfl, rfl, rfl⟩, rfl, by decide, by decide, by decide, ?_⟩, ?_⟩
  · refine ⟨?_, ?_, ?_⟩
    · intro s X v u
      exact ⟨_, kp_binds X (fun _ => rfl)⟩
    · intro s X v u p q
      exact kp_binds X (fun _ => rfl)
    · intro s X v u p q k
      exact kp_binds X (fun _ => rfl)
  intro n ys y v o ho hl hk
  have hlen := strsD_len ys
  repeat (with_reducible first | apply r_cons | apply r_int | apply c_lti | apply t_bool | (apply r_name; (case kn => walk_at "N")) | (apply r_tcmp; (case kn => walk_at "N")) | apply r_if)
  refine ⟨fun h => by simp at h, fun _ => ?_⟩
  repeat (with_reducible first | apply r_cons | apply r_seq | apply r_none | apply r_nil | (apply r_name; (case kn => walk_at "N")) | (apply r_tcmp; (case kn => walk_at "N")) | apply r_if)
  refine c_isnn ?_
  repeat (with_reducible first | apply r_cons | apply lit_t | apply r_esc | apply r_esn | apply r_ksn | apply t_bool | (apply r_name; (case kn => walk_at "N")) | (apply r_assign; (case ka => (refine ⟨?_, fun _ _ _ => rfl⟩; walk_at "N")); (case kk => walk_at "K")) | (apply r_call; (case kn => walk_at "N"); (case km => walk_at "N")))
  refine b_lenl ho (by omega) ?_
  repeat (with_reducible first | apply r_cons | apply r_seq | apply r_none | apply r_nil | (apply r_name; (case kn => walk_at "N")) | (apply r_tcmp; (case kn => walk_at "N")) | apply r_if)
  refine c_isfn ?_
  repeat (with_reducible first | apply r_cons | apply lit_f | apply t_bool)
  rw [hlen]
  refine r_whileJ (InvBisk1 n l y ys la o)
    (InvBisk2 n l y ys la o) ys.length ⟨rfl, 0, ys.length, _, by omega, by omega, rfl, rfl⟩ ?_ ?_
  · rintro QN hJ k _ _ ⟨rfl, lo, hi, v, h1, h2, h3, rfl⟩
    repeat (with_reducible first | apply c_lti | apply t_bool | (apply r_name; (case kn => walk_at "N")) | (apply r_tcmp; (case kn => walk_at "N")))
    refine ⟨fun hc => ?_, fun hc => ?_⟩
    · have hlt : lo < hi := by simpa using hc
      cases k with
      | zero => omega
      | succ k =>
      rw [bisN, if_pos hlt] at h3
      repeat (with_reducible first | apply r_cons | apply r_int | apply r_bin | apply q_add | (apply r_name; (case kn => walk_at "N")) | (apply r_assign; (case ka => (refine ⟨?_, fun _ _ _ => rfl⟩; walk_at "N")); (case kk => walk_at "K")))
      refine q_fdiv (by omega) ?_
      repeat (with_reducible first | apply r_cons | apply r_seq | apply r_esc | apply r_subn | (apply r_name; (case kn => walk_at "N")) | (apply r_tcmp; (case kn => walk_at "N")) | (apply r_call; (case kn => walk_at "N"); (case km => walk_at "N")) | apply r_if)
      have hm : (((lo : Int) + hi) / 2) = (((lo + hi) / 2 : Nat) : Int) := by omega
      rw [hm]
      have hml : (lo + hi) / 2 < ys.length := by omega
      refine g_list ho rfl (by omega) (strsD_get hml) ?_
      repeat (with_reducible first | apply r_esn | apply r_ksn | apply b_fn)
      refine hC _ _ _ _ ⟨rfl, rfl, _, _, rfl, keyI_of (hk _ (List.getElem_mem hml)), ?_⟩
      have hf : keyLt l y ys ((lo + hi) / 2) = (if keyI l y = keyI l ys[(lo + hi) / 2] then (if y = ys[(lo + hi) / 2] then false else decide (y.cps.toList < ys[(lo + hi) / 2].cps.toList)) else decide (keyI l y < keyI l ys[(lo + hi) / 2])) := by simp [keyLt, hml]
      refine c_ltt rfl ?_
      rw [← hf]
      repeat (with_reducible first | apply t_bool)
      refine ⟨fun hx => ?_, fun hx => ?_⟩
      · rw [if_pos hx] at h3
        repeat (with_reducible first | apply r_cons | apply r_seq | apply r_nil | (apply r_name; (case kn => walk_at "N")) | (apply r_assign; (case ka => (refine ⟨?_, fun _ _ _ => rfl⟩; walk_at "N")); (case kk => walk_at "K")))
        exact ⟨k, by omega, rfl, lo, (lo + hi) / 2, _, by omega, by omega, h3, rfl⟩
      · rw [if_neg (by rw [hx]; simp)] at h3
        repeat (with_reducible first | apply r_cons | apply r_seq | apply r_int | apply r_bin | apply q_add | apply r_nil | (apply r_name; (case kn => walk_at "N")) | (apply r_assign; (case ka => (refine ⟨?_, fun _ _ _ => rfl⟩; walk_at "N")); (case kk => walk_at "K")))
        exact ⟨k, by omega, rfl, (lo + hi) / 2 + 1, hi, _, by omega, by omega, h3, rfl⟩
    · have hlt : ¬ lo < hi := by simpa using hc
      rw [bisN_stop _ _ _ _ hlt] at h3
      exact hJ _ _ ⟨rfl, hi, v, by rw [h3]⟩
  rintro _ _ ⟨rfl, hi, v, rfl⟩
  repeat (with_reducible first | apply r_cons | apply r_seq | apply r_seqr | apply r_return | apply r_nil | (apply r_name; (case kn => walk_at "N")))
  exact ⟨rfl, rfl⟩

noncomputable def BisC (la : Addr) (l : List (Str × D)) (ds : List D) (kw : List (Str × D)) (o : List O) (Q : Post) : Prop := ∃ n ys y, ds = [.obj n, .tup [.int (keyI l y), .str y], .int 0, .none] ∧ kw = [(Str.ofString "key", .fn (.ref la))] ∧ o[n]? = some (.list (strsD ys)) ∧ ys.length ≤ 100 ∧ (∀ z ∈ ys, ∃ k, dget l z = some (.int k)) ∧ Q (.int ((bisN (keyLt l y ys) ys.length 0 ys.length : Nat) : Int)) o
noncomputable def BisS (ds : List D) (kw : List (Str × D)) (o : List O) (Q : Post) : Prop := ∃ n l x, (ds = [.obj n, .str (mk x)] ∨ ds = [.obj n, .str (mk x), .int 0, .none]) ∧ kw = [] ∧ o[n]? = some (.list (l.map fun s => .str (mk s))) ∧ l.length ≤ 1000 ∧ Q (.int ((bisL (ltAt x l) l.length 0 l.length : Nat) : Int)) o
theorem bisN_le (f : Nat → Bool) : ∀ n lo hi, lo ≤ hi → bisN f n lo hi ≤ hi
  | 0, lo, hi, h => h
  | n + 1, lo, hi, h => by
    unfold bisN
    split
    · split
      · exact Nat.le_trans (bisN_le f n _ _ (by omega)) (by omega)
      · exact bisN_le f n _ _ (by omega)
    · exact h
theorem bisL_le (f : Nat → Bool) : ∀ n lo hi, lo ≤ hi → bisL f n lo hi ≤ hi
  | 0, lo, hi, h => h
  | n + 1, lo, hi, h => by
    unfold bisL
    split
    · split
      · exact Nat.le_trans (bisL_le f n _ _ (by omega)) (by omega)
      · exact bisL_le f n _ _ (by omega)
    · exact h
theorem insL_map {α β : Type} (g : α → β) (l : List α) (k : Nat) (x : α) : (insL l k x).map g = insL (l.map g) k (g x) := by simp [insL]
theorem b_insert {P : PCtx} {o : List O} {Q : Post} {n : Nat} {l : List D} {k : Int} {j : Nat} {d : D} (hB : ∀ v ds o Q, BB v ds o Q → P.B v ds o Q) (e : o[n]? = some (.list l)) (ek : k = (j : Int)) (hj : j ≤ l.length) (hl : l.length ≤ 1000) (h : Q .none (o.set n (.list (insL l j d)))) :
    callF P (.builtin "list.insert") [.obj n, .int k, d] [] o Q := by
  subst ek
  exact ⟨rfl, .other (hB _ _ _ _ (.insert e hl (by omega) (by omega) (by rw [Int.toNat_natCast]; exact h)))⟩
namespace InKN
noncomputable abbrev M : (Str → Option Value) := noM
noncomputable abbrev B : BT := BB
noncomputable abbrev J : (D → D → List O → Post → Prop) := JJ
noncomputable abbrev X : (Expr → Loc → List O → Post → Prop) := fun _ _ _ _ => False
noncomputable abbrev Y : (Stmt → Loc → List O → SPost → Prop) := fun _ _ _ _ => False
noncomputable abbrev E : (Env → Prop) := anyE
theorem hB : ∀ v ds o Q, BB v ds o Q → B v ds o Q := fun _ _ _ _ h => h
end InKN
open InKN in
theorem insK_W (w : World) (C : CT) (la : Addr) (l : List (Str × D)) (hC : ∀ ds kw o Q, LamC la l la ds kw o Q → C la ds kw o Q) (hC2 : ∀ ds kw o Q, BisC la l ds kw o Q → C 123 ds kw o Q) : PySem.Challenge.rw_re0083_01.prog = PySem.Challenge.rw_re0083_01.prog → ∃ fd body sc, (FnD (hd1.heap_1 w.params) 114 fd body ∧ fd.scope.names = sc ∧ (∀ x ∈ fd.scope.names, x.2 ≠ .cell) ∧ ndOk sc = true ∧ (∀ x ∈ [Str.ofString "a", Str.ofString "x", Str.ofString "lo", Str.ofString "hi", Str.ofString "key"], fd.scope.names.lookup x = some .local) ∧ ∀ (s : Shared), (hd1.heap_1 w.params).In s.heap → ∀ v u k, ∃ t, BindsTo s fd ⟨[v, u], [(Str.ofString "key", k)]⟩ [(Str.ofString "a", v), (Str.ofString "x", u), (Str.ofString "lo", .int 0 t), (Str.ofString "hi", .none), (Str.ofString "key", k)]) ∧
    ∀ (n : Nat) (ys : List Str) (y : Str) (o : List O), o[n]? = some (.list (strsD ys)) → ys.length ≤ 100 → (∀ z ∈ y :: ys, ∃ k, dget l z = some (.int k)) →
    WSs ⟨sc, Gl, C, M, B, KK, J, X, Y, E⟩ body [(Str.ofString "a", some (.obj n)), (Str.ofString "x", some (.str y)), (Str.ofString "lo", some (.int 0)), (Str.ofString "hi", some .none), (Str.ofString "key", some (.fn (.ref la)))] o (fun fl _ o' => retD fl = .none ∧ o' = o.set n (.list (strsD (insK l ys y)))) := by
  k_fill
  intro _
  refine ⟨_, _, _, ⟨⟨⟨_, _, _, by k_is⟩, ⟨_, _, _, _, _, _, rfl, by k_is, rfl⟩, rfl, rfl, rfl, rfl, rfl, rfl, rfl⟩, rfl, by decide, by decide, by decide, ?_⟩, ?_⟩
  · intro s X v u k
    exact ⟨_, kp_binds X (fun _ => rfl)⟩
  intro n ys y o ho hl hk
  have hlen := strsD_len ys
  repeat (with_reducible first | apply r_cons | apply r_none | (apply r_name; (case kn => walk_at "N")) | (apply r_tcmp; (case kn => walk_at "N")) | apply r_if)
  refine c_isfn ?_
  repeat (with_reducible first | apply r_cons | apply lit_f | apply r_esc | apply r_esn | apply r_ksn | apply t_bool | apply b_fn | (apply r_name; (case kn => walk_at "N")) | (apply r_assign; (case ka => (refine ⟨?_, fun _ _ _ => rfl⟩; walk_at "N")); (case kk => walk_at "K")) | (apply r_call; (case kn => walk_at "N"); (case km => walk_at "N")))
  try refine r_call (v := .ref 123) (by walk_at "N") rfl ?_
  skip
  refine hC _ _ _ _ ⟨rfl, rfl, _, _, rfl, keyI_of (hk _ (.head _)), ?_⟩
  repeat (with_reducible first | apply r_esc | apply r_esn | apply r_ksn | apply r_ksc | apply b_fn | (apply r_name; (case kn => walk_at "N")))
  refine hC2 _ _ _ _ ⟨n, ys, y, rfl, rfl, ho, hl, fun z hz => hk z (.tail _ hz), ?_⟩
  repeat (with_reducible first | apply r_cons | apply r_seq | apply r_nil)
  refine r_expr (fun _ _ _ => rfl) ?_
  repeat (with_reducible first | (apply r_name; (case kn => walk_at "N")) | (apply r_methd; (case ka => (refine ⟨fun _ _ _ => rfl, ?_⟩; walk_at "N"))))
  refine m_list ho rfl ?_
  repeat (with_reducible first | apply r_esc | apply r_esn | (apply r_name; (case kn => walk_at "N")))
  refine b_insert hB ho rfl ?_ (by omega) ?_
  · rw [hlen]; exact bisN_le _ _ _ _ (Nat.zero_le _)
  repeat (with_reducible first | apply r_seq | apply r_nil)
  refine ⟨rfl, ?_⟩
  unfold insK strsD
  rw [insL_map]
noncomputable def bisC : CT := fun a ds kw o Q => a = 123 ∧ BisS ds kw o Q
namespace InSN
noncomputable abbrev C : CT := bisC
noncomputable abbrev M : (Str → Option Value) := noM
noncomputable abbrev B : BT := BB
noncomputable abbrev K : (CmpOp → D → D → List O → Post → Prop) := KK
noncomputable abbrev J : (D → D → List O → Post → Prop) := JJ
noncomputable abbrev X : (Expr → Loc → List O → Post → Prop) := fun _ _ _ _ => False
noncomputable abbrev Y : (Stmt → Loc → List O → SPost → Prop) := fun _ _ _ _ => False
noncomputable abbrev E : (Env → Prop) := anyE
theorem hC2 : ∀ ds kw o Q, BisS ds kw o Q → C 123 ds kw o Q := fun _ _ _ _ h => ⟨rfl, h⟩
theorem hB : ∀ v ds o Q, BB v ds o Q → B v ds o Q := fun _ _ _ _ h => h
end InSN
open InSN in
theorem insS_W (w : World) : PySem.Challenge.rw_re0083_01.prog = PySem.Challenge.rw_re0083_01.prog → ∃ fd body sc, (FnD (hd1.heap_1 w.params) 114 fd body ∧ fd.scope.names = sc ∧ (∀ x ∈ fd.scope.names, x.2 ≠ .cell) ∧ ndOk sc = true ∧ (∀ x ∈ [Str.ofString "a", Str.ofString "x", Str.ofString "lo", Str.ofString "hi", Str.ofString "key"], fd.scope.names.lookup x = some .local) ∧ ∀ (s : Shared), (hd1.heap_1 w.params).In s.heap → ∀ v u, ∃ t, BindsTo s fd ⟨[v, u], []⟩ [(Str.ofString "a", v), (Str.ofString "x", u), (Str.ofString "lo", .int 0 t), (Str.ofString "hi", .none), (Str.ofString "key", .none)]) ∧
    ∀ (n : Nat) (l : List (List Nat)) (x : List Nat) (o : List O), o[n]? = some (.list (l.map fun s => .str (mk s))) → l.length ≤ 100 →
    WSs ⟨sc, Gl, C, M, B, K, J, X, Y, E⟩ body [(Str.ofString "a", some (.obj n)), (Str.ofString "x", some (.str (mk x))), (Str.ofString "lo", some (.int 0)), (Str.ofString "hi", some .none), (Str.ofString "key", some .none)] o (fun fl _ o' => retD fl = .none ∧ o' = o.set n (.list ((insL l (bisL (ltAt x l) l.length 0 l.length) x).map fun s => .str (mk s)))) := by
  k_fill
  intro _
  refine ⟨_, _, _, ⟨⟨⟨_, _, _, by k_is⟩, ⟨_, _, _, _, _, _, rfl, by k_is, rfl⟩, rfl, rfl, rfl, rfl, rfl, rfl, rfl⟩, rfl, by decide, by decide, by decide, ?_⟩, ?_⟩
  · intro s X v u
    exact ⟨_, kp_binds X (fun _ => rfl)⟩
  intro n l x o ho hl
  repeat (with_reducible first | apply r_cons | apply r_none | (apply r_name; (case kn => walk_at "N")) | (apply r_tcmp; (case kn => walk_at "N")) | apply r_if)
  refine c_isnn ?_
  repeat (with_reducible first | apply r_cons | apply lit_t | apply r_esc | apply r_esn | apply r_ksn | apply t_bool | apply b_fn | (apply r_name; (case kn => walk_at "N")) | (apply r_assign; (case ka => (refine ⟨?_, fun _ _ _ => rfl⟩; walk_at "N")); (case kk => walk_at "K")) | (apply r_call; (case kn => walk_at "N"); (case km => walk_at "N")))
  refine hC2 _ _ _ _ ⟨n, l, x, .inr rfl, rfl, ho, by omega, ?_⟩
  repeat (with_reducible first | apply r_cons | apply r_seq | apply r_nil)
  refine r_expr (fun _ _ _ => rfl) ?_
  repeat (with_reducible first | (apply r_name; (case kn => walk_at "N")) | (apply r_methd; (case ka => (refine ⟨fun _ _ _ => rfl, ?_⟩; walk_at "N"))))
  refine m_list ho rfl ?_
  repeat (with_reducible first | apply r_esc | apply r_esn | (apply r_name; (case kn => walk_at "N")))
  refine b_insert hB ho rfl ?_ (by simp; omega) ?_
  · rw [List.length_map]; exact bisL_le _ _ _ _ (Nat.zero_le _)
  repeat (with_reducible first | apply r_seq | apply r_nil)
  refine ⟨rfl, ?_⟩
  rw [insL_map]

open PySem PySem.W PySem.Spec PySem.Calls PyProof.Rows
set_option Elab.async false
set_option maxRecDepth 100000
set_option linter.unusedVariables false
set_option linter.unusedSimpArgs false
set_option maxHeartbeats 1000000
noncomputable def bare (sc : List (Str × NameKind)) (C : CT) (M : Str → Option Value) (B : BT) (E : Env → Prop) : PCtx := ⟨sc, Gl, C, M, B, KK, JJ, fun _ _ _ _ => False, fun _ _ _ _ => False, E⟩
noncomputable def full (sc : List (Str × NameKind)) (C : CT) (M : Str → Option Value) (B : BT) (E : Env → Prop) (Z : Stmt → Loc → List O → SPost → Prop) : PCtx :=
  ⟨sc, Gl, C, M, B, KK, JJ, XX (bare sc C M B E), fun st loc o Q => YY (bare sc C M B E) st loc o Q ∨ Z st loc o Q, E⟩
section
variable {Γ : Ctx} {n : Nat}
theorem COkN.or {C D : CT} (h1 : COkN Γ n C) (h2 : COkN Γ n D) : COkN Γ n (COr C D) := fun A hA a ds kw objs Q s ρ vs kvs Q' B R h hv hk hd => h.elim (fun h => h1 A hA a ds kw objs Q s ρ vs kvs Q' B R h hv hk hd) (fun h => h2 A hA a ds kw objs Q s ρ vs kvs Q' B R h hv hk hd)
theorem COkN.none : COkN Γ n noC := fun A hA a ds kw objs Q s ρ vs kvs Q' B R h hv hk hd => h.elim
theorem COkN.of {C D : CT} (h1 : COkN Γ n C) (h : ∀ a ds kw o Q, D a ds kw o Q → C a ds kw o Q) : COkN Γ n D := fun A hA a ds kw objs Q s ρ vs kvs Q' B R hh hv hk hd => h1 A hA a ds kw objs Q s ρ vs kvs Q' B R (h _ _ _ _ _ hh) hv hk hd
theorem mnone : MOkN Γ noM := fun A m v e => nomatch e
theorem orc_full {sc : List (Str × NameKind)} {C : CT} {M : Str → Option Value} {B : BT} {E : Env → Prop} {Z : Stmt → Loc → List O → SPost → Prop} (hG : GOk Γ Gl) (hC : COkN Γ n C) (hM : MOkN Γ M) (hB : ∀ A, AOk n A → ∀ v, PS Γ A (fun vs => call v vs) (B v))
    (hZ : ∀ env A, AOk n A → Am0 Γ (full sc C M B E Z) env A → ∀ own st, SS Γ env own A (exec st env) (Z st)) : Orc Γ n (full sc C M B E Z) where
  G := hG
  C := hC
  M := hM
  oB := hB
  oK := fun A hA op => kk_ok hA op
  oJ := fun A hA value i hi => jj_ok value i hi
  oX := fun env A hA am own e loc => xx_ok (P := full sc C M B E Z) am e
  oY := fun env A hA am own st => by
    intro loc objs Q s ρ Q' R hw k
    rcases hw with hw | hw
    · exact yy_ok (P := full sc C M B E Z) am st loc objs Q s ρ Q' R hw k
    · exact hZ env A hA am own st loc objs Q s ρ Q' R hw k
theorem noz {sc : List (Str × NameKind)} {C : CT} {M : Str → Option Value} {B : BT} {E : Env → Prop} : ∀ env A, AOk n A → Am0 Γ (full sc C M B E noZ) env A → ∀ own st, SS Γ env own A (exec st env) (noZ st) := fun env A hA am own st loc objs Q s ρ Q' R hw k => hw.elim
theorem orc_bare {sc : List (Str × NameKind)} {C : CT} {M : Str → Option Value} {B : BT} {E : Env → Prop} (hG : GOk Γ Gl) (hC : COkN Γ n C) (hM : MOkN Γ M) (hB : ∀ A, AOk n A → ∀ v, PS Γ A (fun vs => call v vs) (B v)) : Orc Γ n (bare sc C M B E) where
  G := hG
  C := hC
  M := hM
  oB := hB
  oK := fun A hA op => kk_ok hA op
  oJ := fun A hA value i hi => jj_ok value i hi
  oX := fun env A hA am own e loc objs Q s ρ Q' R hw k => hw.elim
  oY := fun env A hA am own st loc objs Q s ρ Q' R hw k => hw.elim
theorem bb_n : ∀ A, AOk n A → ∀ v, PS Γ A (fun vs => call v vs) (BB v) := fun A hA v => bb_ok hA.1 v
/-- a call whose outcome is a plain value: in a store of its own -/
theorem small {A : Around} {s : Shared} {ρ : List Addr} {objs : List O} {t : Sem Value} {d0 : D} (hsc : ∀ h ρ ρ' v, VIn Γ h ρ' v d0 → VIn Γ h ρ v d0) (B : Base Γ s) (R : ObjsRep Γ s.heap ρ objs) {Q : Post} {Q' : Value → Shared → Prop} (hq : Q d0 objs) (hd : Done Γ ρ s Q Q')
    (h : ∀ Q1 : Value → Shared → Prop, Done Γ [] s (fun d o => d = d0) Q1 → wpAny (model Γ.prog Γ.w) A t Q1 NoE s) : wpAny (model Γ.prog Γ.w) A t Q' NoE s := by
  refine h Q' ?_
  rintro d objs' ρ' v s' rfl B' O' x hv
  have x4 : Ext Γ.tabs ρ s ρ s' := ⟨List.prefix_refl _, fun a h => .inl h, fun b o e n1 _ => x.keep b o e n1 (fun q => nomatch q), x.imm, x.live, x.os⟩
  refine hd _ objs ρ v s' hq B' ⟨R.len, R.nodup, R.off, fun i b o e1 e2 => (R.rel i b o e1 e2).ext x4 fun ob e => x.keep b ob e (R.off b (List.mem_of_getElem? e1)).2 (fun q => nomatch q)⟩ x4 (hsc _ _ _ _ hv)
theorem small_int {h : Heap} {ρ ρ' : List Addr} {v : Value} {i : Int} (hv : VIn Γ h ρ' v (.int i)) : VIn Γ h ρ v (.int i) := by cases hv; exact .int _ _
theorem small_str {h : Heap} {ρ ρ' : List Addr} {v : Value} {i : Str} (hv : VIn Γ h ρ' v (.str i)) : VIn Γ h ρ v (.str i) := by cases hv; exact .str _ _
theorem R0 {h : Heap} : ObjsRep Γ h [] [] := ⟨rfl, .nil, (fun a h => nomatch h), fun n a o e => by simp at e⟩
end
inductive PlainV : Value → D → Prop
  | int (i : Int) (t : Tok) : PlainV (.int i t) (.int i)
  | fn (v : Value) : PlainV v (.fn v)
structure Law1 (Γ : Ctx) : Prop where
  X : (hd1.heap_1 Γ.w.params).In Γ.h₀
  P : ∀ x d, Gl x = some d → (x == ("__debug__" : Str)) = false ∧ ∃ v, PlainV v d ∧ GlobIs Γ.h₀ x v
  lim : Γ.h₀.NoLimit
theorem Law1.G {Γ : Ctx} (H : Law1 Γ) : GOk Γ Gl := fun x d e => by
  obtain ⟨h1, v, h2, h3⟩ := H.P x d e
  refine ⟨h1, v, fun h ρ => ?_, h3⟩
  cases h2
  · exact .int _ _
  · exact .fn _
theorem Law1.freeze {Γ : Ctx} (H : Law1 Γ) (fr : List (Addr × Obj)) : Law1 (Γ.freeze fr) := ⟨H.X, H.P, H.lim⟩
noncomputable def insC : CT := fun a ds kw o Q => a = 114 ∧ ∃ n l x, ds = [.obj n, .str (mk x)] ∧ kw = [] ∧ o[n]? = some (.list (l.map fun s => .str (mk s))) ∧ l.length ≤ 100 ∧ Q .none (o.set n (.list ((insL l (bisL (ltAt x l) l.length 0 l.length) x).map fun s => .str (mk s))))
noncomputable def levC : CT := fun a ds kw o Q => a = 137 ∧ kw = [] ∧ ∃ x y mc, ds = [.str (mk x), .str (mk y), .int mc] ∧ (x.length ≤ 40 ∧ y.length ≤ 40 ∧ (∀ c ∈ x, c < 128) ∧ (∀ c ∈ y, c < 128) ∧ 0 ≤ mc) ∧ Q (.int (levL x y mc)) o
section
variable {Γ : Ctx} (H : Law1 Γ)
include H
theorem sub_ok : COkN Γ 1 Csub := by
  obtain ⟨fd, body, sc, ⟨F, hsc, hc, hnd, hl, hbind⟩, hw⟩ := subst_W Γ.w rfl
  intro A hA a ds kw objs Q s ρ vs kvs Q' B R hC hvs hkvs hd
  obtain ⟨rfl, rfl, rfl, h1, h2, hq⟩ := hC
  obtain rfl := hkvs.nil_inv
  obtain ⟨_, _, rfl, hv1, hv2⟩ := hvs.inv2
  exact F.meets (P := bare sc noC noM BB anyE) H.X hc H.lim (orc_bare H.G .none mnone bb_n) hsc hnd (fun _ => trivial) hA B R (.of_eq (hbind _ _)) hl rfl (by decide) (.cons hv1 (.cons hv2 .done)) (hd.exact hq) (hw _ _ objs h1 h2)
theorem bis_ok : COkN Γ 1 bisC := by
  obtain ⟨fd, body, sc, ⟨F, hsc, hc, hnd, hl, hbind⟩, hw⟩ := bisect_W Γ.w rfl
  obtain ⟨fd', body', sc', ⟨F', hsc', hc', hnd', hl', hb1, hb2, hb3⟩, _⟩ := bisK_W Γ.w (LamC 0 []) 0 [] (fun _ _ _ _ h => h) rfl
  have e : fd' = fd := by
    obtain ⟨_, _, _, e1⟩ := F.obj
    obtain ⟨_, _, _, e2⟩ := F'.obj
    rw [e1] at e2; cases e2; rfl
  subst e
  intro A hA a ds kw objs Q s ρ vs kvs Q' B R hC hvs hkvs hd
  obtain ⟨rfl, n, l, x, hds, rfl, ho, hlen, hq⟩ := hC
  obtain rfl := hkvs.nil_inv
  have X := H.X.keeps B.keep
  rcases hds with rfl | rfl
  · obtain ⟨_, _, rfl, hv1, hv2⟩ := hvs.inv2
    obtain ⟨t, hb⟩ := hbind s X _ _
    exact F.meets (P := bare sc noC noM BB anyE) H.X hc H.lim (orc_bare H.G .none mnone bb_n) hsc hnd (fun _ => trivial) hA B R hb hl rfl (by decide) (.cons hv1 (.cons hv2 (.cons (.int _ _) (.cons .none (.cons .none (.nil (l := [(Str.ofString "mid", none)]) (by simp))))))) (hd.exact hq) (hw n l x none objs ho hlen)
  · obtain ⟨_, _, _, _, rfl, hv1, hv2, hv3, hv4⟩ := hvs.inv4
    exact F.meets (P := bare sc noC noM BB anyE) H.X hc H.lim (orc_bare H.G .none mnone bb_n) hsc hnd (fun _ => trivial) hA B R (hb2 s X _ _ _ _) hl rfl (by decide) (.cons hv1 (.cons hv2 (.cons hv3 (.cons hv4 (.cons .none (.nil (l := [(Str.ofString "mid", none)]) (by simp))))))) (hd.exact hq) (hw n l x none objs ho hlen)
theorem ins_ok : COkN Γ 2 insC := by
  obtain ⟨fd, body, sc, ⟨F, hsc, hc, hnd, hl, hbind⟩, hw⟩ := insS_W Γ.w rfl
  intro A hA a ds kw objs Q s ρ vs kvs Q' B R hC hvs hkvs hd
  obtain ⟨rfl, n, l, x, rfl, rfl, ho, hlen, hq⟩ := hC
  obtain rfl := hkvs.nil_inv
  have X := H.X.keeps B.keep
  obtain ⟨_, _, rfl, hv1, hv2⟩ := hvs.inv2
  obtain ⟨t, hb⟩ := hbind s X _ _
  exact F.meets (P := bare sc bisC noM BB anyE) H.X hc H.lim (orc_bare H.G (bis_ok H) mnone bb_n) hsc hnd (fun _ => trivial) hA B R hb hl rfl (by decide) (.cons hv1 (.cons hv2 (.cons (.int _ _) (.cons .none (.cons .none .done))))) (hd.exact hq) (hw n l x objs ho hlen)
theorem lev_ok : COkN Γ 2 levC := by
  obtain ⟨fd, body, sc, ⟨F, hsc, hc, hnd, hl, hbind⟩, hw⟩ := lev_W Γ.w rfl
  intro A hA a ds kw objs Q s ρ vs kvs Q' B R hC hvs hkvs hd
  obtain ⟨rfl, rfl, x, y, mc, rfl, ⟨h1, h2, h3, h4, h5⟩, hq⟩ := hC
  obtain rfl := hkvs.nil_inv
  obtain ⟨_, _, _, rfl, hv1, hv2, hv3⟩ := hvs.inv3
  cases hv1; cases hv2; cases hv3
  refine ⟨F.look H.X B, small (fun h ρ ρ' v => small_int) B R hq hd fun Q1 hd1 => ?_⟩
  exact (F.meets (P := bare sc Csub noM BB anyE) (ρ := []) (objs := []) H.X hc H.lim (orc_bare H.G (sub_ok H) mnone bb_n) hsc hnd (fun _ => trivial) hA B R0 (.of_eq (hbind _ _ _)) hl rfl (by decide) (.cons (.str _ _) (.cons (.str _ _) (.cons (.int _ _) (.nil (l := [(Str.ofString "pre", none), (Str.ofString "post", none), (Str.ofString "row", none), (Str.ofString "result", none), (Str.ofString "bindex", none), (Str.ofString "bchar", none), (Str.ofString "distance", none), (Str.ofString "minimum", none), (Str.ofString "index", none), (Str.ofString "substitute", none), (Str.ofString "insert_delete", none)]) (by simp)))))
    (Qf := fun d o => d = .int (levL x y mc)) hd1 (hw x y mc h1 h2 h3 h4 h5)).2
end

open PySem PySem.W PySem.Spec PySem.Calls PyProof.Rows
set_option Elab.async false
set_option maxRecDepth 100000
set_option linter.unusedVariables false
set_option linter.unusedSimpArgs false
set_option maxHeartbeats 1000000
noncomputable def BisK (la : Addr) (l : List (Str × D)) : CT := fun a ds kw o Q => a = 123 ∧ BisC la l ds kw o Q
section
variable {Γ : Ctx} (H : Law1 Γ)
include H
theorem bisK_ok {la : Addr} {l : List (Str × D)} (HL : COkN Γ 1 (LamC la l)) : COkN Γ 2 (BisK la l) := by
  obtain ⟨fd, body, sc, ⟨F, hsc, hc, hnd, hl, hb1, hb2, hb3⟩, hw⟩ := bisK_W Γ.w (LamC la l) la l (fun _ _ _ _ h => h) rfl
  intro A hA a ds kw objs Q s ρ vs kvs Q' B R hC hvs hkvs hd
  obtain ⟨rfl, n, ys, y, rfl, rfl, ho, hlen, hks, hq⟩ := hC
  have X := H.X.keeps B.keep
  obtain ⟨_, _, _, _, rfl, hv1, hv2, hv3, hv4⟩ := hvs.inv4
  obtain _ | ⟨hk1, _ | _⟩ := hkvs
  exact F.meets (P := bare sc (LamC la l) noM BB anyE) H.X hc H.lim (orc_bare H.G HL mnone bb_n) hsc hnd (fun _ => trivial) hA B R (hb3 s X _ _ _ _ _) hl rfl (by decide) (.cons hv1 (.cons hv2 (.cons hv3 (.cons hv4 (.cons hk1 (.nil (l := [(Str.ofString "mid", none)]) (by simp))))))) (hd.exact hq) (hw n ys y none objs ho hlen hks)
theorem insK_ok {la : Addr} {l : List (Str × D)} (HL : COkN Γ 1 (LamC la l)) : COkN Γ 3 (InsK 114 (Str.ofString "key") la l) := by
  obtain ⟨fd, body, sc, ⟨F, hsc, hc, hnd, hl, hbind⟩, hw⟩ := insK_W Γ.w (COr (LamC la l) (BisK la l)) la l (fun _ _ _ _ h => .inl h) (fun _ _ _ _ h => .inr ⟨rfl, h⟩) rfl
  intro A hA a ds kw objs Q s ρ vs kvs Q' B R hC hvs hkvs hd
  obtain ⟨rfl, n, ys, y, rfl, rfl, ho, hlen, hks, hq⟩ := hC
  have X := H.X.keeps B.keep
  obtain ⟨_, _, rfl, hv1, hv2⟩ := hvs.inv2
  obtain _ | ⟨hk1, _ | _⟩ := hkvs
  obtain ⟨t, hb⟩ := hbind s X _ _ _
  exact F.meets (P := bare sc (COr (LamC la l) (BisK la l)) noM BB anyE) H.X hc H.lim (orc_bare H.G (.or (HL.mono (by omega)) (bisK_ok H HL)) mnone bb_n) hsc hnd (fun _ => trivial) hA B R hb hl rfl (by decide) (.cons hv1 (.cons hv2 (.cons (.int _ _) (.cons .none (.cons hk1 .done))))) (hd.exact hq) (hw n ys y objs ho hlen hks)
theorem keyIns : KeyIns Γ 114 (Str.ofString "key") 3 := fun fr a l HL => insK_ok (H.freeze fr) HL
end

open PySem PySem.W PySem.Spec PySem.Calls PyProof.Rows
set_option Elab.async false
set_option maxRecDepth 100000
set_option linter.unusedVariables false
set_option linter.unusedSimpArgs false
set_option maxHeartbeats 1000000

theorem r_forl {P : PCtx} {loc : Loc} {o : List O} {QS : SPost} {t : Expr} {y : Str} {b : List Stmt} {p1 p : Pos} {n : Nat} {l : List D} (hn : nameF P loc y = some (.obj n)) (ho : o[n]? = some (.list l)) (ht : isTup2 t = true)
    (h : ForW (asgF P t) (WSs P b) l (some (n, l)) loc o QS) : WS P (.For t (.Name y p1) b [] p) loc o QS := r_for (.seq (fun _ _ => rfl) (r_name hn (.lst ho ht h)))
theorem r_fora {P : PCtx} {loc : Loc} {o : List O} {QS : SPost} {x : Str} {xp : Pos} {b : List Stmt} {items : List D} {g : Grd} (hk : kindOk P x = true) (I : Nat → Loc → List O → Prop) (h0 : I 0 loc o) (hg : ∀ i loc o, I i loc o → GuardOk g items o)
    (step : ∀ QN : Loc → List O → Prop, ∀ i d loc o, items[i]? = some d → I i loc o → WSs P b (setLo loc x d) o (ForQ (I (i + 1)) (fun loc o => QS .next loc o) QS))
    (hJ : ∀ loc o, I items.length loc o → QS .next loc o) : ForW (asgF P (.Name x xp)) (WSs P b) items g loc o QS :=
  r_forJ I h0 hg (fun QN i d loc o e h => .name hk (step QN i d loc o e h)) hJ
noncomputable def toldF (d : List (Str × D)) (l : List Str) : List Str := l.foldl (fun ys y => insK d ys y) []
theorem toldF_take (d : List (Str × D)) (l : List Str) (i : Nat) (h : i < l.length) : toldF d (l.take (i + 1)) = insK d (toldF d (l.take i)) l[i] := by
  unfold toldF
  rw [List.take_succ_eq_append_getElem h, List.foldl_append]; rfl
theorem insK_mem {d : List (Str × D)} {ys : List Str} {y z : Str} (h : z ∈ insK d ys y) : z = y ∨ z ∈ ys := by
  unfold insK insL at h
  rcases List.mem_append.mp h with h | h
  · exact .inr (List.mem_of_mem_take h)
  · rcases List.mem_cons.mp h with h | h
    · exact .inl h
    · exact .inr (List.mem_of_mem_drop h)
theorem told_mem {d : List (Str × D)} {l : List Str} : ∀ i, ∀ z ∈ toldF d (l.take i), z ∈ l
  | 0, z, h => by simp [toldF] at h
  | i + 1, z, h => by
    by_cases hi : i < l.length
    · rw [toldF_take d l i hi] at h
      rcases insK_mem h with h | h
      · rw [h]; exact List.getElem_mem hi
      · exact told_mem i z h
    · rw [List.take_of_length_le (by omega)] at h
      have := told_mem (d := d) (l := l) i z
      rw [List.take_of_length_le (by omega)] at this
      exact this h
theorem insK_len (d : List (Str × D)) (ys : List Str) (y : Str) : (insK d ys y).length = ys.length + 1 := by
  unfold insK insL
  simp only [List.length_append, List.length_cons, List.length_take, List.length_drop]
  omega
theorem told_len {d : List (Str × D)} {l : List Str} : ∀ i, (toldF d (l.take i)).length ≤ i
  | 0 => by simp [toldF]
  | i + 1 => by
    by_cases hi : i < l.length
    · rw [toldF_take d l i hi, insK_len]
      have := told_len (d := d) (l := l) i
      omega
    · rw [List.take_of_length_le (by omega)]
      have := told_len (d := d) (l := l) i
      rw [List.take_of_length_le (by omega)] at this
      omega
noncomputable abbrev lposL : Pos := { line := 142, col := 37, endLine := 142, endCol := 66 }
namespace LaiN
noncomputable abbrev C : CT := noC
noncomputable abbrev M : (Str → Option Value) := noM
noncomputable abbrev B : BT := BB
end LaiN
noncomputable abbrev InvLaid1 (d : List (Str × D)) (l : List Str) (n : Nat) (ns : Nat) (o : List O) (i : Nat) (loc : Loc) (o' : List O) : Prop := o' = o ++ [.list (strsD (toldF d (l.take i)))] ∧ ∃ v, loc = [(Str.ofString "order", some (.obj n)), (Str.ofString "stops", some (.obj ns)), (Str.ofString "laid", some (.obj o.length)), (Str.ofString "card", v)]
open LaiN in
theorem laid_W (w : World) (E : Env → Prop) : PySem.Challenge.rw_re0083_01.prog = PySem.Challenge.rw_re0083_01.prog → ∃ fd body sc, (FnD (hd1.heap_1 w.params) 166 fd body ∧ fd.scope.names = sc ∧ ndOk sc = true ∧ (∀ x ∈ [Str.ofString "order", Str.ofString "stops"], lkS sc x = some .local ∨ lkS sc x = some .cell) ∧ fd.code = .ref 165 ∧ fd.qualname = "_law_laid" ∧ ∀ a b, bindArgs fd ⟨[a, b], []⟩ = pure [(Str.ofString "order", a), (Str.ofString "stops", b)]) ∧
    ∀ (n ns : Nat) (l : List Str) (d : List (Str × D)) (o : List O), o[n]? = some (.list (strsD l)) → o[ns]? = some (.dict d) → l.length ≤ 100 → (∀ z ∈ l, ∃ k, dget d z = some (.int k)) →
    WSs ⟨sc, Gl, C, M, B, KK, JJ, XX (bare sc C M B E), fun st loc o Q => YY (bare sc C M B E) st loc o Q ∨ YL (bare sc C M B E) 114 (Str.ofString "key") lposL st loc o Q, E⟩ body [(Str.ofString "order", some (.obj n)), (Str.ofString "stops", some (.obj ns)), (Str.ofString "laid", none), (Str.ofString "card", none)] o (fun fl _ o' => retD fl = .obj o.length ∧ o' = o ++ [.list (strsD (toldF d l))]) := by
  k_fill
  intro _
  refine ⟨_, _, _, ⟨⟨⟨_, _, _, by k_is⟩, ⟨_, _, _, _, _, _, rfl, by k_is, rfl⟩, rfl, rfl, rfl, rfl, rfl, rfl, rfl⟩, rfl, by decide, by decide, rfl, rfl, fun _ _ => rfl⟩, ?_⟩
  intro n ns l d o ho hd hl hk
  have hn : n < o.length := (List.getElem?_eq_some_iff.mp ho).1
  have hns : ns < o.length := (List.getElem?_eq_some_iff.mp hd).1
  repeat (with_reducible first | apply r_cons | (apply r_assign; (case ka => (refine ⟨?_, fun _ _ _ => rfl⟩; walk_at "N")); (case kk => walk_at "K")))
  refine r_list rfl ?_
  repeat (with_reducible first | apply r_esn)
  refine ⟨by simp, ?_⟩
  repeat (with_reducible first | apply r_cons | apply r_seq)
  refine r_forl (n := n) (l := strsD l) (by walk_at "N") (by rw [List.getElem?_append_left hn]; exact ho) rfl ?_
  refine r_fora (by walk_at "N") (InvLaid1 d l n ns o) ⟨by simp [toldF, strsD], _, rfl⟩ ?_ ?_ ?_
  · rintro i _ _ ⟨rfl, _⟩
    show _ = _
    rw [List.getElem?_append_left hn]; exact ho
  · rintro QN i dd _ _ hi ⟨rfl, v, rfl⟩
    have hil : i < l.length := by
      have := (List.getElem?_eq_some_iff.mp hi).1
      rwa [strsD_len] at this
    rw [strsD_get hil] at hi
    cases hi
    walk_at "L"
    repeat (with_reducible first | apply r_cons)
    refine .inr (.inr (.mk (n := o.length) (ys := toldF d (l.take i)) (y := l[i]) (ns := ns) (l := d) ⟨?_, ?_, ?_, ?_, ?_, ?_, ?_, ?_, ?_, ?_, ?_, ?_, ?_, ?_, ?_, ?_, ?_, ?_, ?_⟩ ?_))
    · unfold bare; walk_at "N"
    · unfold bare; walk_at "N"
    · unfold bare; walk_at "N"
    · unfold bare; walk_at "N"
    · walk_at "N"
    · simp
    · rw [List.getElem?_append_left hns]; exact hd
    · first | exact .inl rfl | exact .inr rfl
    · intro env; rfl
    · rfl
    · rfl
    · rfl
    · decide
    · decide
    · decide
    · decide
    · intro _ _ _ _ _ _; rfl
    · have := told_len (d := d) (l := l) i
      omega
    · intro z hz
      rcases List.mem_cons.mp hz with rfl | hz
      · exact hk _ (List.getElem_mem hil)
      · exact hk _ (told_mem i z hz)
    · repeat (with_reducible first | apply r_seq | apply r_nil)
      refine ⟨?_, _, rfl⟩
      rw [toldF_take d l i hil]
      simp
  · rintro _ _ ⟨rfl, v, rfl⟩
    rw [strsD_len, List.take_length]
    repeat (with_reducible first | apply r_cons | apply r_seq | apply r_seqr | apply r_return | (apply r_name; (case kn => walk_at "N")))
    exact ⟨rfl, rfl⟩

open PySem PySem.W PySem.Spec PySem.Calls PyProof.Rows
set_option Elab.async false
set_option maxRecDepth 100000
set_option linter.unusedVariables false
set_option linter.unusedSimpArgs false
set_option maxHeartbeats 1000000

noncomputable def sD (m : List (List Nat)) : List D := m.map fun s => .str (mk s)
theorem sD_len (m : List (List Nat)) : (sD m).length = m.length := by simp [sD]
theorem sD_get {m : List (List Nat)} {i : Nat} (h : i < m.length) : (sD m)[i]? = some (.str (mk m[i])) := by simp [sD, h]
theorem sD_strs (m : List (List Nat)) : sD m = strsD (m.map mk) := by simp [sD, strsD, List.map_map, Function.comp_def]
noncomputable def wstep (a : List (List Nat) × Int) (x : List Nat) : List (List Nat) × Int := (insL a.1 (bisL (ltAt x a.1) a.1.length 0 a.1.length) x, a.2 + ((a.1.length : Int) - (bisL (ltAt x a.1) a.1.length 0 a.1.length : Nat)))
noncomputable def wS (m : List (List Nat)) : List (List Nat) × Int := m.foldl wstep ([], 0)
theorem wS_take (m : List (List Nat)) (i : Nat) (h : i < m.length) : wS (m.take (i + 1)) = wstep (wS (m.take i)) m[i] := by
  unfold wS
  rw [List.take_succ_eq_append_getElem h, List.foldl_append]; rfl
theorem wS_len (m : List (List Nat)) : ∀ i, (wS (m.take i)).1.length ≤ i
  | 0 => by simp [wS]
  | i + 1 => by
    by_cases hi : i < m.length
    · rw [wS_take m i hi]
      have := wS_len m i
      simp only [wstep, insL, List.length_append, List.length_cons, List.length_take, List.length_drop]
      omega
    · rw [List.take_of_length_le (by omega)]
      have := wS_len m i
      rw [List.take_of_length_le (by omega)] at this
      omega
namespace WroN
noncomputable abbrev M : (Str → Option Value) := noM
noncomputable abbrev B : BT := BB
noncomputable abbrev K : (CmpOp → D → D → List O → Post → Prop) := KK
noncomputable abbrev J : (D → D → List O → Post → Prop) := JJ
noncomputable abbrev X : (Expr → Loc → List O → Post → Prop) := fun _ _ _ _ => False
noncomputable abbrev Y : (Stmt → Loc → List O → SPost → Prop) := fun _ _ _ _ => False
noncomputable abbrev E : (Env → Prop) := anyE
end WroN
noncomputable abbrev InvWrong1 (m : List (List Nat)) (n : Nat) (o : List O) (i : Nat) (loc : Loc) (o' : List O) : Prop := o' = o ++ [.list (sD (wS (m.take i)).1)] ∧ ∃ v, loc = [(Str.ofString "order", some (.obj n)), (Str.ofString "met", some (.obj o.length)), (Str.ofString "pairs", some (.int (wS (m.take i)).2)), (Str.ofString "card", v)]
open WroN in
theorem wrong_W (w : World) : PySem.Challenge.rw_re0083_01.prog = PySem.Challenge.rw_re0083_01.prog → ∃ fd body sc, (FnD (hd1.heap_1 w.params) 154 fd body ∧ fd.scope.names = sc ∧ (∀ x ∈ fd.scope.names, x.2 ≠ .cell) ∧ ndOk sc = true ∧ (∀ x ∈ [Str.ofString "order"], fd.scope.names.lookup x = some .local) ∧ ∀ a, bindArgs fd ⟨[a], []⟩ = pure [(Str.ofString "order", a)]) ∧
    ∀ (n : Nat) (m : List (List Nat)) (o : List O), o[n]? = some (.list (sD m)) → m.length ≤ 100 →
    WSs ⟨sc, Gl, COr bisC insC, M, B, K, J, X, Y, E⟩ body [(Str.ofString "order", some (.obj n)), (Str.ofString "met", none), (Str.ofString "pairs", none), (Str.ofString "card", none)] o (fun fl _ o' => retD fl = .int (wS m).2 ∧ o' = o ++ [.list (sD (wS m).1)]) := by
  k_fill
  intro _
  refine ⟨_, _, _, ⟨⟨⟨_, _, _, by k_is⟩, ⟨_, _, _, _, _, _, rfl, by k_is, rfl⟩, rfl, rfl, rfl, rfl, rfl, rfl, rfl⟩, rfl, by decide, by decide, by decide, fun _ => rfl⟩, ?_⟩
  intro n m o ho hl
  have hn : n < o.length := (List.getElem?_eq_some_iff.mp ho).1
  repeat (with_reducible first | apply r_cons | (apply r_assign; (case ka => (refine ⟨?_, fun _ _ _ => rfl⟩; walk_at "N")); (case kk => walk_at "K")))
  refine r_list rfl ?_
  repeat (with_reducible first | apply r_esn)
  refine ⟨by simp, ?_⟩
  repeat (with_reducible first | apply r_cons | apply r_seq | apply r_int | (apply r_assign; (case ka => (refine ⟨?_, fun _ _ _ => rfl⟩; walk_at "N")); (case kk => walk_at "K")))
  refine r_forl (n := n) (l := sD m) (by walk_at "N") (by rw [List.getElem?_append_left hn]; exact ho) rfl ?_
  refine r_fora (by walk_at "N") (InvWrong1 m n o) ⟨by simp [wS, sD], _, rfl⟩ ?_ ?_ ?_
  · rintro i _ _ ⟨rfl, _⟩
    show _ = _
    rw [List.getElem?_append_left hn]; exact ho
  · rintro QN i dd _ _ hi ⟨rfl, v, rfl⟩
    have hil : i < m.length := by
      have := (List.getElem?_eq_some_iff.mp hi).1
      rwa [sD_len] at this
    rw [sD_get hil] at hi
    cases hi
    have hml := wS_len m i
    walk_at "L"
    repeat (with_reducible first | apply r_cons | apply r_bin | apply r_esc | apply r_esn | apply r_ksn | (apply r_name; (case kn => walk_at "N")) | (apply r_aug; (case kn => walk_at "N"); (case km => walk_at "N"); (case kk => walk_at "K")) | (apply r_call; (case kn => walk_at "N"); (case km => walk_at "N")))
    refine b_lenl (l := sD (wS (m.take i)).1) (by simp) (by rw [sD_len]; omega) ?_
    repeat (with_reducible first | apply r_esc | apply r_esn | apply r_ksn | apply b_fn | (apply r_name; (case kn => walk_at "N")) | (apply r_call; (case kn => walk_at "N"); (case km => walk_at "N")))
    refine .inl ⟨rfl, o.length, (wS (m.take i)).1, m[i], .inl rfl, rfl, by simp [sD], by omega, ?_⟩
    repeat (with_reducible first | apply r_cons | apply r_seq | apply q_sub | apply a_addi)
    refine r_expr (fun _ _ _ => rfl) ?_
    repeat (with_reducible first | apply r_esc | apply r_esn | apply r_ksn | apply b_fn | (apply r_name; (case kn => walk_at "N")) | (apply r_call; (case kn => walk_at "N"); (case km => walk_at "N")))
    refine .inr ⟨rfl, o.length, (wS (m.take i)).1, m[i], rfl, rfl, by simp [sD], by omega, ?_⟩
    repeat (with_reducible first | apply r_seq | apply r_nil)
    refine ⟨?_, ?_⟩
    · rw [wS_take m i hil]; simp [wstep, sD]
    · rw [wS_take m i hil, sD_len]; exact ⟨_, rfl⟩
  · rintro _ _ ⟨rfl, v, rfl⟩
    rw [sD_len, List.take_length]
    repeat (with_reducible first | apply r_cons | apply r_seq | apply r_seqr | apply r_return | (apply r_name; (case kn => walk_at "N")))
    exact ⟨rfl, rfl⟩
noncomputable def wrongC : CT := fun a ds kw o Q => a = 154 ∧ kw = [] ∧ ∃ n m, ds = [.obj n] ∧ o[n]? = some (.list (sD m)) ∧ m.length ≤ 100 ∧ Q (.int (wS m).2) (o ++ [.list (sD (wS m).1)])
noncomputable def laidC : CT := fun a ds kw o Q => a = 166 ∧ kw = [] ∧ ∃ n ns l d, ds = [.obj n, .obj ns] ∧ o[n]? = some (.list (strsD l)) ∧ o[ns]? = some (.dict d) ∧ l.length ≤ 100 ∧ (∀ z ∈ l, ∃ k, dget d z = some (.int k)) ∧ Q (.obj o.length) (o ++ [.list (strsD (toldF d l))])
section
variable {Γ : Ctx} (H : Law1 Γ)
include H
theorem wrong_ok : COkN Γ 3 wrongC := by
  obtain ⟨fd, body, sc, ⟨F, hsc, hc, hnd, hl, hbind⟩, hw⟩ := wrong_W Γ.w rfl
  intro A hA a ds kw objs Q s ρ vs kvs Q' B R hC hvs hkvs hd
  obtain ⟨rfl, rfl, n, m, rfl, ho, hlen, hq⟩ := hC
  obtain rfl := hkvs.nil_inv
  obtain ⟨_, rfl, hv1⟩ := hvs.inv1
  exact F.meets (P := bare sc (COr bisC insC) noM BB anyE) H.X hc H.lim (orc_bare H.G (.or ((bis_ok H).mono (by omega)) (ins_ok H)) mnone bb_n) hsc hnd (fun _ => trivial) hA B R (.of_eq (hbind _)) hl rfl (by decide) (.cons hv1 (.nil (l := [(Str.ofString "met", none), (Str.ofString "pairs", none), (Str.ofString "card", none)]) (by simp))) (hd.exact hq) (hw n m objs ho hlen)
theorem laid_ok {Pt : Addr} {qual : Str} (T : LamTab Γ 165 Pt qual lposL) (hq : "_law_laid" ++ ".<locals>." ++ "<lambda>" = qual) (BM : Acc.BMain Γ.h₀) : COkN Γ 4 laidC := by
  obtain ⟨fd, body, sc, ⟨F, hsc, hnd, hl, hcode, hqn, hbind⟩, hw⟩ := laid_W Γ.w (fun env => env.code = .ref 165 ∧ env.qual ++ "<lambda>" = qual) rfl
  intro A hA a ds kw objs Q s ρ vs kvs Q' B R hC hvs hkvs hd
  obtain ⟨rfl, rfl, n, ns, l, d, rfl, ho, hod, hlen, hks, hq'⟩ := hC
  obtain rfl := hkvs.nil_inv
  obtain ⟨_, _, rfl, hv1, hv2⟩ := hvs.inv2
  refine F.meetsC (n := 3) (P := full sc noC noM BB (fun env => env.code = .ref 165 ∧ env.qual ++ "<lambda>" = qual) (YL (bare sc noC noM BB (fun env => env.code = .ref 165 ∧ env.qual ++ "<lambda>" = qual)) 114 (Str.ofString "key") lposL)) H.X H.lim
    (orc_full H.G .none mnone bb_n fun env A hA am own st => yl_ok (P := full sc noC noM BB (fun env => env.code = .ref 165 ∧ env.qual ++ "<lambda>" = qual) (YL (bare sc noC noM BB (fun env => env.code = .ref 165 ∧ env.qual ++ "<lambda>" = qual)) 114 (Str.ofString "key") lposL)) am hA T BM H.lim am.E.1 am.E.2 (keyIns H) st)
    hsc hnd (fun env e1 e2 => ⟨e1.trans hcode, by rw [e2, hqn]; exact hq⟩) hA B R (hbind _ _) hl rfl (by decide) (.cons hv1 (.cons hv2 (.nil (l := [(Str.ofString "laid", none), (Str.ofString "card", none)]) (by simp)))) (hd.exact hq') (hw n ns l d objs ho hod hlen hks)
end

open PySem PySem.W PySem.Spec PySem.Calls PyProof.Rows
set_option Elab.async false
set_option maxRecDepth 100000
set_option linter.unusedVariables false
set_option linter.unusedSimpArgs false
set_option maxHeartbeats 1000000

theorem c_gts {P : PCtx} {o : List O} {Q : Post} {x y : List Nat} (h : Q (.bool (decide (y < x))) o) : cmpF P .Gt (.str (mk x)) (.str (mk y)) o Q := .gts h
/-- a comprehension over one name -/
theorem cg_go {P : PCtx} {x : Str} {xp : Pos} {elt : Expr} {ifs : List Expr} {o1 : List O} {Q : Post} (Lo : Option D → Loc) (hset : ∀ v d, setLo (Lo v) x d = Lo (some d)) (hx : lkS P.sc x = some .local) (t : D → Bool) (f : D → D) :
    ∀ (items done : List D) (v : Option D), done.length + items.length ≤ 1000 →
      (∀ d ∈ items, ∀ done' (K : Bool → List O → Prop), K (t d) (o1 ++ [.list done']) → cIf P ifs (Lo (some d)) (o1 ++ [.list done']) K) →
      (∀ d ∈ items, t d = true → ∀ done' (K : Post), K (f d) (o1 ++ [.list done']) → WE P elt (Lo (some d)) (o1 ++ [.list done']) K) →
      Q (.obj o1.length) (o1 ++ [.list (done ++ (items.filter t).map f)]) → CompGo P (.Name x xp) elt ifs o1 Q items done (Lo v)
  | [], done, v, _, _, _, h => by rw [CompGo_nil]; simpa using h
  | d :: r, done, v, hl, h1, h2, h => by
    rw [CompGo_cons]
    refine .name hx ?_
    rw [hset]
    refine h1 d (.head _) done _ ⟨rfl, fun ht => ?_, fun ht => ?_⟩
    · refine h2 d (.head _) ht done _ ⟨rfl, by simp at hl; omega, ?_⟩
      refine cg_go Lo hset hx t f r (done ++ [f d]) (some d) (by simp at hl ⊢; omega) (fun d' hd' => h1 d' (.tail _ hd')) (fun d' hd' => h2 d' (.tail _ hd')) ?_
      rw [List.filter_cons, if_pos ht] at h
      simpa using h
    · refine cg_go Lo hset hx t f r done (some d) (by simp at hl ⊢; omega) (fun d' hd' => h1 d' (.tail _ hd')) (fun d' hd' => h2 d' (.tail _ hd')) ?_
      rw [List.filter_cons, if_neg (by rw [ht]; simp)] at h
      exact h
theorem r_enum {P : PCtx} {loc : Loc} {o : List O} {QS : SPost} {f y : Str} {t : Expr} {b : List Stmt} {p0 p1 p2 p : Pos} {n : Nat} {l : List D} (hf : nameF P loc f = some (.fn (.type "enumerate"))) (ht : isTupE t = true) (hn : nameF P loc y = some (.obj n)) (ho : o[n]? = some (.list l))
    (h : ForW (asgF P t) (WSs P b) (enumD l) (some (n, l)) loc o QS) : WS P (.For t (.Call (.Name f p0) [.Name y p1] [] p2) b [] p) loc o QS := r_for (.enum hf (by rw [ht]; rfl) (r_esc (r_name hn (r_esn (.lst ho h)))))
theorem r_for2 {P : PCtx} {loc : Loc} {o : List O} {QS : SPost} {x y : Str} {xp yp tp : Pos} {kk : Nat} {b : List Stmt} {items : List D} {g : Grd} (hk : (kindOk P x && kindOk P y) = true) (I : Nat → Loc → List O → Prop) (h0 : I 0 loc o) (hg : ∀ i loc o, I i loc o → GuardOk g items o)
    (step : ∀ QN : Loc → List O → Prop, ∀ i d loc o, items[i]? = some d → I i loc o → ∃ a c, d = .tup [a, c] ∧ WSs P b (setLo (setLo loc x a) y c) o (ForQ (I (i + 1)) (fun loc o => QS .next loc o) QS))
    (hJ : ∀ loc o, I items.length loc o → QS .next loc o) : ForW (asgF P (.Tuple [.Name x xp, .Name y yp] kk tp)) (WSs P b) items g loc o QS :=
  r_forJ I h0 hg (fun QN i d loc o e h => by
    obtain ⟨a, c, rfl, hw⟩ := step QN i d loc o e h
    exact .two hk hw) hJ
theorem r_compx {P P0 : PCtx} {loc : Loc} {o : List O} {Q : Post} {elt : Expr} {gens : List Comprehension} {scope : Scope} {p : Pos} (hX : P.X = XX P0) (h : compF P0 elt gens scope loc o Q) : WE P (.ListComp elt gens scope p) loc o Q := by
  show P.X _ loc o Q
  rw [hX]; exact .comp h
theorem r_dictx {P P0 : PCtx} {loc : Loc} {o : List O} {Q : Post} {p : Pos} (hX : P.X = XX P0) (h : Q (.obj o.length) (o ++ [.dict []])) : WE P (.Dict [] [] p) loc o Q := by
  show P.X _ loc o Q
  rw [hX]; exact .dict h
noncomputable def minL : List Int → Int
  | [] => 0
  | a :: r => r.foldl min a
theorem q_addl {o : List O} {Q : Post} {a b : Nat} {l k : List D} (e1 : o[a]? = some (.list l)) (e2 : o[b]? = some (.list k)) (hl : l.length + k.length ≤ 1000) (h : Q (.obj o.length) (o ++ [.list (l ++ k)])) : binF .Add (.obj a) (.obj b) o Q := .addl e1 e2 hl h
theorem b_minl {P : PCtx} {o : List O} {Q : Post} {n : Nat} {l : List D} {a : Int} {r : List Int} (hB : P.B = BB) (e : o[n]? = some (.list l)) (hi : allD intD l = some (a :: r)) (h : Q (.int (minL (a :: r))) o) : callF P (.builtin "min") [.obj n] [] o Q := ⟨rfl, .other (by rw [hB]; exact .minl e hi h)⟩
theorem allD_ints : ∀ l : List Int, allD intD (l.map D.int) = some l
  | [] => rfl
  | a :: r => by simp [allD, intD, allD_ints r]
theorem set_end {α : Type} (o : List α) (x y : α) (g : List α) : (o ++ [x] ++ g).set o.length y = o ++ [y] ++ g := by simp
theorem s_dict {o : List O} {n : Nat} {l : List (Str × D)} {x : Str} {v : D} {K : List O → Prop} (e : o[n]? = some (.dict l)) (hl : l.length ≤ 1000) (h : K (o.set n (.dict (dset l x v)))) : setF (.obj n) (.str x) v o K := .dct e hl h
theorem r_range2 {P : PCtx} {loc : Loc} {o : List O} {f : Str} {t e1 e2 : Expr} {p0 p1 : Pos} {K : List D → Grd → List O → Prop} (hf : nameF P loc f = some (.fn (.type "range"))) (ht : isNameE t = true) (hs : noStarred [e1, e2] = true)
    (h : WE P e1 loc o fun a o1 => WE P e2 loc o1 fun b o2 => RngR K o2 [a, b]) : WI P t (.Call (.Name f p0) [e1, e2] [] p1) loc o K :=
  .range hf (by rw [ht, hs]; rfl) h
/-- where the next greater card stands -/
noncomputable def gtAt (m : List (List Nat)) (c : List Nat) (k : Nat) : Bool := match m[k]? with | some y => decide (c < y) | none => false
noncomputable def stopKs (m : List (List Nat)) (p : Nat) (c : List Nat) : List Int := ((List.range (6 - (p + 1))).filter fun i => gtAt m c (p + 1 + i)).map (fun i => (((p + 1 + i : Nat)) : Int)) ++ [6]
noncomputable def stopI (m : List (List Nat)) (p : Nat) (c : List Nat) : Int := minL (stopKs m p c)
noncomputable def stopsF (m : List (List Nat)) : Nat → List (Str × D)
  | 0 => []
  | i + 1 => match m[i]? with | some c => dset (stopsF m i) (mk c) (.int (stopI m i c)) | none => stopsF m i
theorem dset_len (l : List (Str × D)) (x : Str) (v : D) : (dset l x v).length ≤ l.length + 1 := by
  unfold dset
  split <;> simp
theorem stopsF_len (m : List (List Nat)) : ∀ i, (stopsF m i).length ≤ i
  | 0 => by simp [stopsF]
  | i + 1 => by
    have := stopsF_len m i
    unfold stopsF
    split
    · exact Nat.le_trans (dset_len ..) (by omega)
    · omega
theorem stopKs_rng (m : List (List Nat)) (p : Nat) (c : List Nat) : (((rangeD ((p : Int) + 1) 6).filter fun d => match d with | .int k => gtAt m c k.toNat | _ => false).map id) ++ [.int 6] = (stopKs m p c).map D.int := by
  unfold rangeD stopKs
  have e : (6 - ((p : Int) + 1)).toNat = 6 - (p + 1) := by omega
  rw [e, List.filter_map, List.map_append, List.map_map]
  congr 1
  have e2 : ((fun d => match d with | D.int k => gtAt m c k.toNat | _ => false) ∘ fun (i : Nat) => D.int ((p : Int) + 1 + i)) = fun i => gtAt m c (p + 1 + i) := by
    funext i
    show gtAt m c (((p : Int) + 1 + i).toNat) = _
    congr 1
  rw [e2, List.map_map]
  apply List.map_congr_left
  intro i _
  show D.int _ = D.int _
  first | done | (congr 1; omega) | rfl
theorem stopKs_ne (m : List (List Nat)) (p : Nat) (c : List Nat) : ∃ a r, stopKs m p c = a :: r := by
  cases h : stopKs m p c with
  | nil => exact absurd h (by simp [stopKs])
  | cons a r => exact ⟨a, r, rfl⟩
namespace StoN
noncomputable abbrev C : CT := noC
noncomputable abbrev M : (Str → Option Value) := noM
noncomputable abbrev E : (Env → Prop) := anyE
end StoN
noncomputable abbrev InvStops1 (m : List (List Nat)) (n : Nat) (o : List O) (i : Nat) (loc : Loc) (o' : List O) : Prop := i ≤ 6 ∧ (∃ g, o' = o ++ [.dict (stopsF m i)] ++ g) ∧ ∃ v u, loc = [(Str.ofString "order", some (.obj n)), (Str.ofString "stops", some (.obj o.length)), (Str.ofString "place", v), (Str.ofString "card", u)]
open StoN in
theorem stops_W (w : World) : PySem.Challenge.rw_re0083_01.prog = PySem.Challenge.rw_re0083_01.prog → ∃ fd body sc, (FnD (hd1.heap_1 w.params) 159 fd body ∧ fd.scope.names = sc ∧ ndOk sc = true ∧ (∀ x ∈ [Str.ofString "order"], lkS sc x = some .local ∨ lkS sc x = some .cell) ∧ ∀ a, bindArgs fd ⟨[a], []⟩ = pure [(Str.ofString "order", a)]) ∧
    ∀ (n : Nat) (m : List (List Nat)) (o : List O), o[n]? = some (.list (sD m)) → m.length = 6 →
    WSs ⟨sc, Gl, C, M, BB, KK, JJ, XX ⟨sc, Gl, C, M, BB, KK, JJ, fun _ _ _ _ => False, fun _ _ _ _ => False, E⟩, fun st loc o Q => YY ⟨sc, Gl, C, M, BB, KK, JJ, fun _ _ _ _ => False, fun _ _ _ _ => False, E⟩ st loc o Q ∨ noZ st loc o Q, E⟩ body [(Str.ofString "order", some (.obj n)), (Str.ofString "stops", none), (Str.ofString "place", none), (Str.ofString "card", none)] o (fun fl _ o' => retD fl = .obj o.length ∧ ∃ g, o' = o ++ [.dict (stopsF m 6)] ++ g) := by
  k_fill
  intro _
  refine ⟨_, _, _, ⟨⟨⟨_, _, _, by k_is⟩, ⟨_, _, _, _, _, _, rfl, by k_is, rfl⟩, rfl, rfl, rfl, rfl, rfl, rfl, rfl⟩, rfl, by decide, by decide, fun _ => rfl⟩, ?_⟩
  intro n m o ho hl
  have hn : n < o.length := (List.getElem?_eq_some_iff.mp ho).1
  have hget : ∀ r, (o ++ r)[n]? = some (.list (sD m)) := fun r => by rw [List.getElem?_append_left hn]; exact ho
  repeat (with_reducible first | apply r_cons | (apply r_assign; (case ka => (refine ⟨?_, fun _ _ _ => rfl⟩; walk_at "N")); (case kk => walk_at "K")))
  refine r_dictx rfl ?_
  repeat (with_reducible first | apply r_cons | apply r_seq)
  refine r_enum (n := n) (l := sD m) (by walk_at "N") rfl (by walk_at "N") (hget _) ?_
  refine r_for2 (by walk_at "N") (InvStops1 m n o) ⟨by omega, ⟨[], by simp [stopsF]⟩, _, _, rfl⟩ ?_ ?_ ?_
  · rintro i _ _ ⟨_, ⟨g, rfl⟩, _⟩
    show _ = _
    rw [List.append_assoc]; exact hget _
  · rintro QN i dd _ _ hi ⟨hi6, ⟨g, rfl⟩, v, u, rfl⟩
    have hil : i < m.length := by
      have := (List.getElem?_eq_some_iff.mp hi).1
      rwa [enumD_len, sD_len] at this
    have hdd : dd = .tup [.int i, .str (mk m[i])] := by
      have : (enumD (sD m))[i]? = some (.tup [.int i, .str (mk m[i])]) := by simp [enumD, sD, hil]
      rw [this] at hi; cases hi; rfl
    refine ⟨_, _, hdd, ?_⟩
    walk_at "L"
    repeat (with_reducible first | apply r_cons)
    refine r_setitem (fun _ _ _ => rfl) ?_
    repeat (with_reducible first | apply r_bin | apply r_esc | (apply r_call; (case kn => walk_at "N"); (case km => walk_at "N")))
    refine r_compx rfl (.mk rfl (fun _ _ => rfl) ?_)
    refine r_range2 (by walk_at "N") rfl rfl ?_
    repeat (with_reducible first | apply r_int | apply r_bin | apply q_add | (apply r_name; (case kn => walk_at "N")))
    refine .two (by omega) ⟨trivial, ?_⟩
    walk_at "L"
    refine cg_go (P := ⟨[(Str.ofString ".0", .local), (Str.ofString "k", .local), (Str.ofString "card", .cell), (Str.ofString "order", .cell)], Gl, C, M, BB, KK, JJ, fun _ _ _ _ => False, fun _ _ _ _ => False, fun _ => True⟩) (fun v => [(Str.ofString ".0", none), (Str.ofString "k", v), (Str.ofString "card", some (.str (mk m[i]))), (Str.ofString "order", some (.obj n))])
      (fun v d => by kernel_rfl) (by kernel_rfl) (fun d => match d with | .int k => gtAt m m[i] k.toNat | _ => false) id _ _ none ?_ ?_ ?_ ?_
    · simp [rangeD]; omega
    · intro d hd done' K hK
      obtain ⟨j, hj, rfl⟩ := List.mem_map.mp hd
      have hj' : j < 6 - (i + 1) := by have := List.mem_range.mp hj; omega
      have hk : ((i : Int) + 1 + j) = ((i + 1 + j : Nat) : Int) := by omega
      have hlt : i + 1 + j < m.length := by omega
      show WT _ _ _ _ _
      repeat (with_reducible first | apply r_subn | (apply r_name; (case kn => walk_at "N")) | (apply r_tcmp; (case kn => walk_at "N")))
      refine g_list (l := sD m) (by rw [List.append_assoc, List.append_assoc]; exact hget _) hk (by simp [sD]; omega) (sD_get hlt) ?_
      repeat (with_reducible first | (apply r_name; (case kn => walk_at "N")))
      refine c_gts ?_
      repeat (with_reducible first | apply t_bool)
      have e : gtAt m m[i] (((i : Int) + 1 + j).toNat) = decide (m[i] < m[i + 1 + j]) := by
        rw [hk, Int.toNat_natCast]
        simp [gtAt, hlt]
      rw [← e]; exact hK
    · intro d hd _ done' K hK
      repeat (with_reducible first | (apply r_name; (case kn => walk_at "N")))
      exact hK
    · have hst := stopKs_rng m i m[i]
      have hln : (((rangeD ((i : Int) + 1) 6).filter fun d => match d with | .int k => gtAt m m[i] k.toNat | _ => false).map id).length ≤ 6 := by
        have e : (6 - ((i : Int) + 1)).toNat = 6 - (i + 1) := by omega
        have := List.length_filter_le (fun d => match d with | D.int k => gtAt m m[i] k.toNat | _ => false) (rangeD ((i : Int) + 1) 6)
        rw [List.length_map]
        refine Nat.le_trans this ?_
        simp [rangeD, e]
        omega
      rw [List.nil_append]
      generalize hks : (((rangeD ((i : Int) + 1) 6).filter fun d => match d with | .int k => gtAt m m[i] k.toNat | _ => false).map id) = ks at hst hln
      skip
      refine r_list rfl ?_
      repeat (with_reducible first | apply r_int | apply r_esc | apply r_esn)
      refine ⟨by simp, ?_⟩
      refine q_addl (l := ks) (k := [.int 6]) (by simp) (by simp) (by simp; omega) ?_
      repeat (with_reducible first | apply r_esn | apply r_ksn)
      obtain ⟨a, r, har⟩ := stopKs_ne m i m[i]
      refine b_minl (l := ks ++ [.int 6]) (a := a) (r := r) rfl (by simp) (by rw [hst, har]; exact allD_ints _) ?_
      rw [← har]
      repeat (with_reducible first | (apply r_name; (case kn => walk_at "N")))
      have hsl := stopsF_len m i
      refine s_dict (l := stopsF m i) (by simp) (by omega) ?_
      repeat (with_reducible first | apply r_seq | apply r_nil)
      refine ⟨by omega, ?_, _, _, rfl⟩
      refine ⟨g ++ [.list ks] ++ [.list [.int 6]] ++ [.list (ks ++ [.int 6])], ?_⟩
      have e : stopsF m (i + 1) = dset (stopsF m i) (mk m[i]) (.int (stopI m i m[i])) := by simp [stopsF, hil]
      rw [e]
      simp [stopI]
  · rintro _ _ ⟨_, ⟨g, rfl⟩, v, u, rfl⟩
    rw [enumD_len, sD_len, hl]
    repeat (with_reducible first | apply r_cons | apply r_seq | apply r_seqr | apply r_return | (apply r_name; (case kn => walk_at "N")))
    exact ⟨rfl, g, rfl⟩

open PySem PySem.W PySem.Spec PySem.Calls PyProof.Rows
set_option Elab.async false
set_option maxRecDepth 100000
set_option linter.unusedVariables false
set_option linter.unusedSimpArgs false
set_option maxHeartbeats 1000000

section
variable {Γ : Ctx} (H : Law1 Γ)
include H
noncomputable def stopsC : CT := fun a ds kw o Q => a = 159 ∧ kw = [] ∧ ∃ n m, ds = [.obj n] ∧ o[n]? = some (.list (sD m)) ∧ m.length = 6 ∧ ∀ g, Q (.obj o.length) (o ++ [.dict (stopsF m 6)] ++ g)
theorem stops_ok : COkN Γ 1 stopsC := by
  obtain ⟨fd, body, sc, ⟨F, hsc, hnd, hl, hbind⟩, hw⟩ := stops_W Γ.w rfl
  intro A hA a ds kw objs Q s ρ vs kvs Q' B R hC hvs hkvs hd
  obtain ⟨rfl, rfl, n, m, rfl, ho, hlen, hq⟩ := hC
  obtain rfl := hkvs.nil_inv
  obtain ⟨_, rfl, hv1⟩ := hvs.inv1
  have hd' : Done Γ ρ s (fun d o' => d = .obj objs.length ∧ ∃ g, o' = objs ++ [.dict (stopsF m 6)] ++ g) Q' := fun d o' ρ' v s' h B O x hv => by
    obtain ⟨rfl, g, rfl⟩ := h
    exact hd _ _ ρ' v s' (hq g) B O x hv
  exact F.meetsC (n := 0) (P := full sc noC noM BB anyE noZ) H.X H.lim (orc_full H.G .none mnone bb_n noz) hsc hnd (fun _ _ _ => trivial) hA B R (hbind _) hl rfl (by decide) (.cons hv1 (.nil (l := [(Str.ofString "stops", none), (Str.ofString "place", none), (Str.ofString "card", none)]) (by simp))) hd' (hw n m objs ho hlen)
end
theorem r_acomp {P P0 : PCtx} {Z : Stmt → Loc → List O → SPost → Prop} {loc : Loc} {o : List O} {QS : SPost} {x : Str} {xp q : Pos} {elt : Expr} {gens : List Comprehension} {scope : Scope} {p : Pos} (hY : P.Y = fun st loc o Q => YY P0 st loc o Q ∨ Z st loc o Q) (hk : kindOk P0 x = true) (h : compF P0 elt gens scope loc o fun d o1 => QS .next (setLo loc x d) o1) :
    WS P (.Assign [.Name x xp] (.ListComp elt gens scope p) q) loc o QS := by
  refine .inr ?_
  rw [hY]
  exact .inl (.mk hk h)
theorem r_strit {P : PCtx} {t : Expr} {x : Str} {k : Nat} {p : Pos} {loc : Loc} {o : List O} {K : List D → Grd → List O → Prop} (ht : isNameE t = true) (h : K (x.cps.toList.map fun c => D.str ⟨#[c]⟩) none o) : WI P t (.Constant (.str x) k p) loc o K := .seq (fun _ _ => rfl) (r_str (.str ht h))
theorem b_index {P : PCtx} {o : List O} {Q : Post} {n : Nat} {m : List (List Nat)} {c : List Nat} (hB : P.B = BB) (e : o[n]? = some (.list (sD m))) (hl : m.length ≤ 1000) (hc : c ∈ m) (h : Q (.int (m.idxOf c : Nat)) o) : callF P (.builtin "list.index") [.obj n, .str (mk c)] [] o Q := by
  refine ⟨rfl, .other ?_⟩
  rw [hB]
  refine .index e (by rw [sD_strs, allD_strs]) (by rw [sD_strs, strsD_len, List.length_map]; exact hl) ?_ (fun j hj => ?_) h
  · have hlt := List.idxOf_lt_length_iff.mpr hc
    rw [List.getElem?_map, List.getElem?_eq_getElem hlt, List.getElem_idxOf hlt]; rfl
  · intro q
    rw [List.getElem?_map] at q
    obtain ⟨y, hy, e2⟩ := Option.map_eq_some_iff.mp q
    have : y = c := by
      have e3 := congrArg (fun s => s.cps.toList) e2
      simpa [mk] using e3
    subst this
    obtain ⟨hj2, e4⟩ := List.getElem?_eq_some_iff.mp hy
    have := List.not_of_lt_findIdx (p := (· == y)) (xs := m) hj
    rw [e4] at this
    simp at this
theorem b_upper {P : PCtx} {o : List O} {Q : Post} {x : Str} (hB : P.B = BB) (hl : x.length ≤ 10000) (h : Q (.str (Txt.upper x)) o) : callF P (.builtin "str.upper") [.str x] [] o Q := ⟨rfl, .other (by rw [hB]; exact .upper hl h)⟩
theorem up15 : ∀ k < 15, Txt.upper (mk [97 + k]) = mk [65 + k] := by decide +kernel
theorem abc : Str.ofString "abcdefghijklmno" = mk [97, 98, 99, 100, 101, 102, 103, 104, 105, 106, 107, 108, 109, 110, 111] := by decide +kernel
theorem abcdef : (Str.ofString "abcdef").cps.toList = [97, 98, 99, 100, 101, 102] := by decide +kernel
noncomputable def marksIn (p : Nat → Nat) (g : Nat) (s : List Nat) : Nat → List Nat
  | 0 => s
  | l + 1 => marksIn p g s l ++ [if p g < p l then 65 + (marksIn p g s l).length else 97 + (marksIn p g s l).length]
noncomputable def marksOut (p : Nat → Nat) : Nat → List Nat
  | 0 => []
  | g + 1 => marksIn p (g + 1) (marksOut p g) (g + 1)
theorem marksIn_len (p : Nat → Nat) (g : Nat) (s : List Nat) : ∀ l, (marksIn p g s l).length = s.length + l
  | 0 => rfl
  | l + 1 => by rw [marksIn, List.length_append, marksIn_len p g s l]; rfl
theorem marksOut_len (p : Nat → Nat) : ∀ i, 2 * (marksOut p i).length = i * (i + 1)
  | 0 => rfl
  | i + 1 => by
    rw [marksOut, marksIn_len]
    have := marksOut_len p i
    have e : (i + 1) * (i + 1 + 1) = i * (i + 1) + 2 * (i + 1) := by rw [Nat.mul_add, Nat.add_mul, Nat.add_mul]; omega
    omega
noncomputable def pl (m : List (List Nat)) (k : Nat) : Nat := m.idxOf [97 + k]
namespace MarN
noncomputable abbrev C : CT := noC
noncomputable abbrev M : (Str → Option Value) := noM
noncomputable abbrev E : (Env → Prop) := anyE
end MarN
noncomputable abbrev InvMarks1 (m : List (List Nat)) (n : Nat) (o : List O) (pls : List D) (i : Nat) (loc : Loc) (o' : List O) : Prop := i ≤ 5 ∧ (∃ g, o' = o ++ [.list pls] ++ g) ∧ ∃ v1 v2 v3, loc = [(Str.ofString "order", some (.obj n)), (Str.ofString "places", some (.obj o.length)), (Str.ofString "marks", some (.str (mk (marksOut (pl m) i)))), (Str.ofString "greater", v1), (Str.ofString "lesser", v2), (Str.ofString "sign", v3)]
noncomputable abbrev InvMarks2 (m : List (List Nat)) (n : Nat) (o : List O) (pls : List D) (i : Nat) (g : List O) (j : Nat) (loc : Loc) (o' : List O) : Prop := j ≤ i + 1 ∧ o' = o ++ [.list pls] ++ g ∧ ∃ v2 v3, loc = [(Str.ofString "order", some (.obj n)), (Str.ofString "places", some (.obj o.length)), (Str.ofString "marks", some (.str (mk (marksIn (pl m) (i + 1) (marksOut (pl m) i) j)))), (Str.ofString "greater", some (.int ((i + 1 : Nat) : Int))), (Str.ofString "lesser", v2), (Str.ofString "sign", v3)]
open MarN in
theorem marks_W (w : World) : PySem.Challenge.rw_re0083_01.prog = PySem.Challenge.rw_re0083_01.prog → ∃ fd body sc, (FnD (hd1.heap_1 w.params) 147 fd body ∧ fd.scope.names = sc ∧ ndOk sc = true ∧ (∀ x ∈ [Str.ofString "order"], lkS sc x = some .local ∨ lkS sc x = some .cell) ∧ ∀ a, bindArgs fd ⟨[a], []⟩ = pure [(Str.ofString "order", a)]) ∧
    ∀ (n : Nat) (m : List (List Nat)) (o : List O), o[n]? = some (.list (sD m)) → m.length = 6 → (∀ k < 6, [97 + k] ∈ m) →
    WSs ⟨sc, Gl, C, M, BB, KK, JJ, XX ⟨sc, Gl, C, M, BB, KK, JJ, fun _ _ _ _ => False, fun _ _ _ _ => False, E⟩, fun st loc o Q => YY ⟨sc, Gl, C, M, BB, KK, JJ, fun _ _ _ _ => False, fun _ _ _ _ => False, E⟩ st loc o Q ∨ noZ st loc o Q, E⟩ body [(Str.ofString "order", some (.obj n)), (Str.ofString "places", none), (Str.ofString "marks", none), (Str.ofString "greater", none), (Str.ofString "lesser", none), (Str.ofString "sign", none)] o (fun fl _ o' => retD fl = .str (mk (marksOut (pl m) 5)) ∧ ∃ g, o' = o ++ g) := by
  k_fill
  intro _
  refine ⟨_, _, _, ⟨⟨⟨_, _, _, by k_is⟩, ⟨_, _, _, _, _, _, rfl, by k_is, rfl⟩, rfl, rfl, rfl, rfl, rfl, rfl, rfl⟩, rfl, by decide, by decide, fun _ => rfl⟩, ?_⟩
  intro n m o ho hl hm
  have hn : n < o.length := (List.getElem?_eq_some_iff.mp ho).1
  have hget : ∀ r, (o ++ r)[n]? = some (.list (sD m)) := fun r => by rw [List.getElem?_append_left hn]; exact ho
  refine r_cons (r_acomp rfl (by walk_at "N") (.mk rfl (fun _ _ => rfl) ?_))
  refine r_strit rfl ⟨trivial, ?_⟩
  rw [abcdef]
  walk_at "L"
  refine cg_go (P := ⟨[(Str.ofString ".0", .local), (Str.ofString "card", .local), (Str.ofString "order", .cell)], Gl, C, M, BB, KK, JJ, fun _ _ _ _ => False, fun _ _ _ _ => False, fun _ => True⟩) (fun v => [(Str.ofString ".0", none), (Str.ofString "card", v), (Str.ofString "order", some (.obj n))])
    (fun v d => by kernel_rfl) (by kernel_rfl) (fun _ => true) (fun d => match d with | .str x => .int (m.idxOf x.cps.toList : Nat) | _ => .none) _ _ none (by simp) (fun d hd done' K hK => hK) ?_ ?_
  · intro d hd _ done' K hK
    obtain ⟨c, hc, rfl⟩ := List.mem_map.mp hd
    have hcm : [c] ∈ m := by
      have : ∃ k < 6, c = 97 + k := by
        simp at hc
        exact ⟨c - 97, by omega, by omega⟩
      obtain ⟨k, hk, rfl⟩ := this
      exact hm k hk
    repeat (with_reducible first | (apply r_name; (case kn => walk_at "N")) | (apply r_methd; (case ka => (refine ⟨fun _ _ _ => rfl, ?_⟩; walk_at "N"))))
    refine m_list (l := sD m) (hget _) rfl ?_
    repeat (with_reducible first | apply r_esc | apply r_esn | (apply r_name; (case kn => walk_at "N")))
    exact b_index (m := m) (c := [c]) rfl (hget _) (by omega) hcm hK
  have hpl : ([] : List D) ++ (List.filter (fun _ => true) (List.map (fun c => D.str { cps := #[c] }) [97, 98, 99, 100, 101, 102])).map (fun d => match d with | .str x => D.int (m.idxOf x.cps.toList : Nat) | _ => .none) = (List.range 6).map fun k => D.int (pl m k : Nat) := by
    simp [pl, List.range, List.range.loop]
  rw [hpl]
  have hpg : ∀ k, k < 6 → ((List.range 6).map fun k => D.int (pl m k : Nat))[k]? = some (.int (pl m k : Nat)) := fun k hk => by simp [hk]
  generalize hpls : ((List.range 6).map fun k => D.int (pl m k : Nat)) = pls at hpg
  have hpll : pls.length = 6 := by rw [← hpls]; simp
  repeat (with_reducible first | apply r_cons | apply r_seq | apply r_str | (apply r_assign; (case ka => (refine ⟨?_, fun _ _ _ => rfl⟩; walk_at "N")); (case kk => walk_at "K")))
  rw [show Str.ofString "" = mk [] from rfl]
  refine r_for ?_
  refine r_range2 (by walk_at "N") rfl rfl ?_
  repeat (with_reducible first | apply r_int)
  refine .two (by omega) ?_
  have hob : ∀ r, (o ++ [O.list pls] ++ r)[o.length]? = some (.list pls) := fun r => by simp
  refine r_fora (by walk_at "N") (InvMarks1 m n o pls) ⟨by omega, ⟨[], by simp⟩, _, _, _, rfl⟩ (fun _ _ _ _ => trivial) ?_ ?_
  · rintro QN i dd _ _ hi ⟨hi5, ⟨g, rfl⟩, v1, v2, v3, rfl⟩
    have hil : i < 5 := by
      have := (List.getElem?_eq_some_iff.mp hi).1
      simpa [rangeD] using this
    have hdd : dd = .int ((i + 1 : Nat) : Int) := by
      have : (rangeD 1 6)[i]? = some (.int ((i + 1 : Nat) : Int)) := by
        simp [rangeD, hil]; omega
      rw [this] at hi; cases hi; rfl
    subst hdd
    walk_at "L"
    have hmo := marksOut_len (pl m) i
    have hmo2 : (marksOut (pl m) i).length ≤ 10 := by
      have : i * (i + 1) ≤ 4 * 5 := Nat.mul_le_mul (by omega) (by omega)
      omega
    refine r_cons (r_forr (by walk_at "N") rfl ?_)
    repeat (with_reducible first | (apply r_name; (case kn => walk_at "N")))
    refine rng_one ⟨by omega, ?_⟩
    refine r_fora (by walk_at "N") (InvMarks2 m n o pls i g) ⟨by omega, rfl, _, _, rfl⟩ (fun _ _ _ _ => trivial) ?_ ?_
    · rintro QN2 j dd _ _ hj ⟨hj5, rfl, v2, v3, rfl⟩
      have hjl : j < i + 1 := by
        have := (List.getElem?_eq_some_iff.mp hj).1
        simp [rangeD] at this
        omega
      have hdd : dd = .int (j : Int) := by
        have hr : (((i + 1 : Nat) : Int) - 0).toNat = i + 1 := by omega
        have : (rangeD 0 ((i + 1 : Nat) : Int))[j]? = some (.int (j : Int)) := by
          unfold rangeD
          rw [hr]
          simp [hjl]
        rw [this] at hj; cases hj; rfl
      subst hdd
      walk_at "L"
      have hml := marksIn_len (pl m) (i + 1) (marksOut (pl m) i) j
      generalize hst : marksIn (pl m) (i + 1) (marksOut (pl m) i) j = st at hml
      have hk15 : st.length < 15 := by omega
      repeat (with_reducible first | apply r_cons | apply r_str | apply r_esc | apply r_esn | apply r_ksn | apply r_subk | (apply r_name; (case kn => walk_at "N")) | (apply r_assign; (case ka => (refine ⟨?_, fun _ _ _ => rfl⟩; walk_at "N")); (case kk => walk_at "K")) | (apply r_call; (case kn => walk_at "N"); (case km => walk_at "N")))
      rw [abc]
      refine b_lens (by omega) ?_
      have hg : ([97, 98, 99, 100, 101, 102, 103, 104, 105, 106, 107, 108, 109, 110, 111] : List Nat)[st.length]? = some (97 + st.length) := by
        have : ∀ k < 15, ([97, 98, 99, 100, 101, 102, 103, 104, 105, 106, 107, 108, 109, 110, 111] : List Nat)[k]? = some (97 + k) := by decide
        exact this _ hk15
      refine g_str rfl (by simp) hg ?_
      repeat (with_reducible first | apply r_cons | apply r_seq | apply r_ifexp | apply r_subn | (apply r_name; (case kn => walk_at "N")) | (apply r_tcmp; (case kn => walk_at "N")) | (apply r_aug; (case kn => walk_at "N"); (case km => walk_at "N"); (case kk => walk_at "K")))
      refine g_list (hob g) rfl (by omega) (hpg (i + 1) (by omega)) ?_
      repeat (with_reducible first | apply r_subn | (apply r_name; (case kn => walk_at "N")))
      refine g_list (hob g) rfl (by omega) (hpg j (by omega)) ?_
      repeat (with_reducible first | apply c_lti | apply t_bool)
      have hcode : ∀ c : Nat, (if pl m (i + 1) < pl m j then 65 + st.length else 97 + st.length) = c → marksIn (pl m) (i + 1) (marksOut (pl m) i) (j + 1) = st ++ [c] := fun c hc => by
        rw [marksIn, hst, hc]
      refine ⟨fun hx => ?_, fun hx => ?_⟩
      · have hx' : pl m (i + 1) < pl m j := by simpa using hx
        repeat (with_reducible first | apply r_esn | (apply r_name; (case kn => walk_at "N")) | (apply m_str; (case kn => walk_at "N")) | (apply r_methd; (case ka => (refine ⟨fun _ _ _ => rfl, ?_⟩; walk_at "N"))))
        refine b_upper rfl (by rw [mk_length]; simp) ?_
        rw [up15 _ hk15]
        refine a_cat (by simp; omega) ?_
        repeat (with_reducible first | apply r_seq | apply r_nil)
        exact ⟨by omega, rfl, _, _, by rw [hcode _ (if_pos hx')]⟩
      · have hx' : ¬ pl m (i + 1) < pl m j := by simpa using hx
        repeat (with_reducible first | (apply r_name; (case kn => walk_at "N")))
        refine a_cat (by simp; omega) ?_
        repeat (with_reducible first | apply r_seq | apply r_nil)
        exact ⟨by omega, rfl, _, _, by rw [hcode _ (if_neg hx')]⟩
    · rintro _ _ ⟨_, rfl, v2, v3, rfl⟩
      have hr : (rangeD 0 ((i + 1 : Nat) : Int)).length = i + 1 := by
        have hr : (((i + 1 : Nat) : Int) - 0).toNat = i + 1 := by omega
        simp [rangeD]
      rw [hr]
      repeat (with_reducible first | apply r_seq | apply r_nil)
      exact ⟨by omega, ⟨g, rfl⟩, _, _, _, rfl⟩
  · rintro _ _ ⟨_, ⟨g, rfl⟩, v1, v2, v3, rfl⟩
    have hr : (rangeD 1 6).length = 5 := by simp [rangeD]
    rw [hr]
    repeat (with_reducible first | apply r_cons | apply r_seq | apply r_seqr | apply r_return | (apply r_name; (case kn => walk_at "N")))
    exact ⟨rfl, [.list pls] ++ g, by simp⟩

open PySem PySem.W PySem.Spec PySem.Calls PyProof.Rows
set_option Elab.async false
set_option maxRecDepth 100000
set_option linter.unusedVariables false
set_option linter.unusedSimpArgs false
set_option maxHeartbeats 1000000

section
variable {Γ : Ctx} (H : Law1 Γ)
include H
noncomputable def marksC : CT := fun a ds kw o Q => a = 147 ∧ kw = [] ∧ ∃ n m, ds = [.obj n] ∧ o[n]? = some (.list (sD m)) ∧ m.length = 6 ∧ (∀ k < 6, [97 + k] ∈ m) ∧ ∀ g, Q (.str (mk (marksOut (pl m) 5))) (o ++ g)
theorem marks_ok : COkN Γ 1 marksC := by
  obtain ⟨fd, body, sc, ⟨F, hsc, hnd, hl, hbind⟩, hw⟩ := marks_W Γ.w rfl
  intro A hA a ds kw objs Q s ρ vs kvs Q' B R hC hvs hkvs hd
  obtain ⟨rfl, rfl, n, m, rfl, ho, hlen, hm, hq⟩ := hC
  obtain rfl := hkvs.nil_inv
  obtain ⟨_, rfl, hv1⟩ := hvs.inv1
  have hd' : Done Γ ρ s (fun d o' => d = .str (mk (marksOut (pl m) 5)) ∧ ∃ g, o' = objs ++ g) Q' := fun d o' ρ' v s' h B O x hv => by
    obtain ⟨rfl, g, rfl⟩ := h
    exact hd _ _ ρ' v s' (hq g) B O x hv
  exact F.meetsC (n := 0) (P := full sc noC noM BB anyE noZ) H.X H.lim (orc_full H.G .none mnone bb_n noz) hsc hnd (fun _ _ _ => trivial) hA B R (hbind _) hl rfl (by decide) (.cons hv1 (.nil (l := [(Str.ofString "places", none), (Str.ofString "marks", none), (Str.ofString "greater", none), (Str.ofString "lesser", none), (Str.ofString "sign", none)]) (by simp))) hd' (hw n m objs ho hlen hm)
end
noncomputable abbrev Pc := List Nat × List Nat
noncomputable def pD (q : List Pc) : List D := q.map fun p => .tup [.str (mk p.1), .str (mk p.2)]
noncomputable def pc (p : Pc) : D := .tup [.str (mk p.1), .str (mk p.2)]
noncomputable def pw (card : List Nat) : List Pc → List Pc → Pc → Pc × List Pc × List Pc
  | [], gone, p => if p.2 ≠ [] ∧ p.2 < card then (([], []), [], gone ++ [p]) else (p, [], gone)
  | q :: r, gone, p => if p.2 ≠ [] ∧ p.2 < card then pw card r (gone ++ [p]) q else (p, q :: r, gone)
noncomputable def popR : List Pc → Pc × List Pc
  | [] => (([], []), [])
  | p :: r => (p, r)
noncomputable def pstep (a : List Pc × List Pc) (x : Pc) : List Pc × List Pc :=
  let z := pw x.2 (popR a.1).2 a.2 (popR a.1).1
  (x :: (if z.1 = ([], []) then z.2.1 else z.1 :: z.2.1), z.2.2)
noncomputable def pileF (q : List Pc) : List Pc × List Pc := q.foldl pstep ([], [])
theorem pileF_take (q : List Pc) (i : Nat) (h : i < q.length) : pileF (q.take (i + 1)) = pstep (pileF (q.take i)) q[i] := by
  unfold pileF
  rw [List.take_succ_eq_append_getElem h, List.foldl_append]; rfl
noncomputable def accM (m : Str) : Option Value := if m = Str.ofString "push" then some (.ref 45) else if m = Str.ofString "pop" then some (.ref 61) else if m = Str.ofString "part_count" then some (.ref 98) else if m = Str.ofString "append" then some (.builtin "list.append") else none
noncomputable def clsC : CT := fun a ds kw o Q => a = 101 ∧ ds = [] ∧ kw = [] ∧ Q (.obj (o.length + 1)) (o ++ [.idict] ++ [.acc [] o.length])
noncomputable def popC : CT := fun a ds kw o Q => a = 61 ∧ kw = [] ∧ ∃ n l d, ds = [.obj n] ∧ o[n]? = some (.acc l d) ∧ o[d]? = some .idict ∧ l.length ≤ 1000 ∧ (match l.getLast? with | some v => Q v (o.set n (.acc l.dropLast d)) | none => Q (.tup [.str "", .str ""]) o)
noncomputable def pushC : CT := fun a ds kw o Q => a = 45 ∧ kw = [] ∧ ∃ n l d x y, ds = [.obj n, x, y] ∧ o[n]? = some (.acc l d) ∧ o[d]? = some .idict ∧ l.length ≤ 900 ∧ Q .none (o.set n (.acc (l ++ [.tup [x, y]]) d))
noncomputable def partC : CT := fun a ds kw o Q => a = 98 ∧ kw = [] ∧ ∃ n l d, ds = [.obj n] ∧ o[n]? = some (.acc l d) ∧ o[d]? = some .idict ∧ l.length ≤ 1000 ∧ Q (.int l.length) o
/-- the store of the pile -/
noncomputable def pst (o : List O) (rs gone : List Pc) : List O := o ++ [.idict, .acc (pD rs.reverse) o.length, .list (pD gone)]
theorem pst_d (o : List O) (rs gone) : (pst o rs gone)[o.length]? = some .idict := by simp [pst]
theorem pst_a (o : List O) (rs gone) : (pst o rs gone)[o.length + 1]? = some (.acc (pD rs.reverse) o.length) := by simp [pst]
theorem pst_g (o : List O) (rs gone) : (pst o rs gone)[o.length + 2]? = some (.list (pD gone)) := by simp [pst]
theorem pst_sa (o : List O) (rs rs' gone) : (pst o rs gone).set (o.length + 1) (.acc (pD rs'.reverse) o.length) = pst o rs' gone := by simp [pst]
theorem pst_sg (o : List O) (rs gone gone') : (pst o rs gone).set (o.length + 2) (.list (pD gone')) = pst o rs gone' := by simp [pst]
section
variable {P : PCtx} {o : List O} {Q : Post}
theorem m_acc {n dn : Nat} {l : List D} {m : Str} {v : Value} {K : Value → Prop} (h1 : o[n]? = some (.acc l dn)) (h2 : o[dn]? = some .idict) (hv : P.M m = some v) (h : K v) : MethK (methV P (.obj n) o m) K := by
  refine m_go ?_ h
  unfold methV
  simp only [h1, h2]; exact hv
/-- pop of the pile -/
theorem p_pop {rs gone : List Pc} (hC : ∀ a ds kw o Q, popC a ds kw o Q → P.C a ds kw o Q) (hl : rs.length ≤ 900) (h : Q (pc (popR rs).1) (pst o (popR rs).2 gone)) : callF P (.ref 61) [.obj (o.length + 1)] [] (pst o rs gone) Q := by
  refine hC _ _ _ _ _ ⟨rfl, rfl, _, _, _, rfl, pst_a .., pst_d .., by simp [pD]; omega, ?_⟩
  cases rs with
  | nil => exact h
  | cons p r =>
    have e : pD (p :: r).reverse = pD r.reverse ++ [pc p] := by simp [pD, pc]
    rw [e]
    simp only [List.getLast?_append, List.getLast?_singleton, Option.some_or, List.dropLast_concat]
    rw [pst_sa]
    exact h
theorem p_push {rs gone : List Pc} {p : Pc} (hC : ∀ a ds kw o Q, pushC a ds kw o Q → P.C a ds kw o Q) (hl : rs.length ≤ 900) (h : Q .none (pst o (p :: rs) gone)) : callF P (.ref 45) [.obj (o.length + 1), .str (mk p.1), .str (mk p.2)] [] (pst o rs gone) Q := by
  refine hC _ _ _ _ _ ⟨rfl, rfl, _, _, _, _, _, rfl, pst_a .., pst_d .., by simp [pD]; omega, ?_⟩
  have e : pD rs.reverse ++ [.tup [.str (mk p.1), .str (mk p.2)]] = pD (p :: rs).reverse := by simp [pD]
  rw [e, pst_sa]; exact h
theorem p_gone {rs gone : List Pc} {p : Pc} (hB : ∀ v ds o Q, BB v ds o Q → P.B v ds o Q) (hl : gone.length ≤ 900) (h : Q .none (pst o rs (gone ++ [p]))) : callF P (.builtin "list.append") [.obj (o.length + 2), pc p] [] (pst o rs gone) Q := by
  refine ⟨rfl, .other (hB _ _ _ _ (.append (pst_g ..) (by simp [pD]; omega) ?_))⟩
  have e : pD gone ++ [pc p] = pD (gone ++ [p]) := by simp [pD, pc]
  rw [e, pst_sg]; exact h
theorem strOk_mk {x : List Nat} (h : ∀ c ∈ x, c < 128) : PyData.strOk (mk x) = true := by
  unfold PyData.strOk
  rw [Array.all_eq_true']
  intro c hc
  have := h c (by simpa [mk] using hc)
  simp; omega
theorem shaped2 {x y : List Nat} (h1 : ∀ c ∈ x, c < 128) (h2 : ∀ c ∈ y, c < 128) : SeqAt.shaped (.tuple [.str (mk x), .str (mk y)]) = true := by
  simp [SeqAt.shaped, PyData.canLay0, PyData.canLayAll0, strOk_mk h1, strOk_mk h2, PyData.depth, PyData.depthAll]
theorem c_netup {x y u v : List Nat} (hK : P.K = KK) (h1 : ∀ c ∈ x, c < 128) (h2 : ∀ c ∈ y, c < 128) (h3 : ∀ c ∈ u, c < 128) (h4 : ∀ c ∈ v, c < 128) (h : Q (.bool (!(x == u && y == v))) o) : cmpF P .NotEq (.tup [.str (mk x), .str (mk y)]) (.tup [.str (mk u), .str (mk v)]) o Q := by
  refine .other ?_
  rw [hK]
  refine .ne (x := .tuple [.str (mk x), .str (mk y)]) (y := .tuple [.str (mk u), .str (mk v)]) rfl rfl (shaped2 h1 h2) (shaped2 h3 h4) ?_
  have e : PyData.eqv (.tuple [.str (mk x), .str (mk y)]) (.tuple [.str (mk u), .str (mk v)]) = (x == u && y == v) := by
    simp only [PyData.eqv, PyData.eqvAll, mk_beq, Bool.and_true]
  rw [e]; exact h
noncomputable def AscP (p : Pc) : Prop := (∀ c ∈ p.1, c < 128) ∧ (∀ c ∈ p.2, c < 128) ∧ p.1.length ≤ 100 ∧ p.2.length ≤ 100
theorem AscP.nil : AscP ([], []) := ⟨by simp, by simp, by simp, by simp⟩
theorem join_mk : ∀ ls : List (List Nat), Txt.join "" (ls.map mk) = mk ls.flatten := by
  have go : ∀ (ls : List (List Nat)) (acc : List Nat), (ls.map mk).foldl (fun (a : Array Nat) p => a ++ (Str.ofString "").cps ++ p.cps) acc.toArray = (acc ++ ls.flatten).toArray := by
    intro ls
    induction ls with
    | nil => intro acc; simp
    | cons l r ih =>
      intro acc
      rw [List.map_cons, List.foldl_cons]
      have e : acc.toArray ++ (Str.ofString "").cps ++ (mk l).cps = (acc ++ l).toArray := by
        rw [show (Str.ofString "").cps = #[] from rfl]; simp [mk]
      rw [e, ih]; simp
  intro ls
  cases ls with
  | nil => rfl
  | cons l r =>
    have h := go r l
    show (⟨((mk l :: r.map mk).drop 1).foldl (fun (a : Array Nat) p => a ++ (Str.ofString "").cps ++ p.cps) (mk l).cps⟩ : Str) = _
    rw [List.drop_one, List.tail_cons, show (mk l).cps = l.toArray from rfl, h]
    rfl
noncomputable def restF (rs : List Pc) : List Nat := (rs.reverse.map fun p => p.1 ++ p.2).flatten
theorem allD_pairs (q : List Pc) : pD q = (q.map fun p => (mk p.1, mk p.2)).map Acc.pairD := by rw [List.map_map]; rfl
theorem texts_mk (q : List Pc) : Acc.texts (q.map fun p => (mk p.1, mk p.2)) = (q.map fun p => p.1 ++ p.2).map mk := by
  unfold Acc.texts
  rw [List.map_map, List.map_map]
  apply List.map_congr_left
  intro p _
  have := join_mk [p.1, p.2]
  simpa using this
theorem sum_le {l : List Nat} {b : Nat} (h : ∀ x ∈ l, x ≤ b) : l.sum ≤ l.length * b := by
  induction l with
  | nil => simp
  | cons a r ih =>
    have h1 := h a (.head _)
    have h2 := ih fun x hx => h x (.tail _ hx)
    rw [List.sum_cons, List.length_cons, Nat.add_mul]
    omega
theorem p_str {rs gone : List Pc} (hS : ∀ v ds o Q, Acc.StrB v ds o Q → P.B v ds o Q) (hl : rs.length ≤ 100) (ha : ∀ p ∈ rs, AscP p) (h : Q (.str (mk (restF rs))) (pst o rs gone)) : callF P (.type "str") [.obj (o.length + 1)] [] (pst o rs gone) Q := by
  refine ⟨rfl, .other (hS _ _ _ _ (.mk rfl rfl (by rw [pst_a]) (allD_pairs _) ?_ (by simp [pD]; exact hl) ?_ ?_))⟩
  · intro p hp
    obtain ⟨q, hq, rfl⟩ := List.mem_map.mp hp
    have := ha q (List.mem_reverse.mp hq)
    exact ⟨by rw [mk_length]; exact this.2.2.1, by rw [mk_length]; exact this.2.2.2⟩
  · rw [texts_mk, List.map_map, List.map_map]
    have := sum_le (l := (rs.reverse.map ((fun x => Str.length x) ∘ mk ∘ fun p => p.1 ++ p.2))) (b := 200) (fun x hx => by
      obtain ⟨q, hq, rfl⟩ := List.mem_map.mp hx
      have := ha q (List.mem_reverse.mp hq)
      simp only [Function.comp_apply, mk_length, List.length_append]
      have h1 := this.2.2.1; have h2 := this.2.2.2
      omega)
    simp only [List.length_map, List.length_reverse] at this
    have e : (rs.length * 200) ≤ 20000 := by omega
    exact Nat.le_trans this (by omega)
  · rw [texts_mk, join_mk]; exact h
end
theorem pw_step {c : List Nat} {rs gone : List Pc} {p : Pc} (h : p.2 ≠ [] ∧ p.2 < c) : pw c rs gone p = pw c (popR rs).2 (gone ++ [p]) (popR rs).1 := by
  cases rs with
  | nil => simp [pw, popR, h]
  | cons q r => rw [pw, if_pos h]; rfl
theorem pw_stop {c : List Nat} {rs gone : List Pc} {p : Pc} (h : ¬ (p.2 ≠ [] ∧ p.2 < c)) : pw c rs gone p = (p, rs, gone) := by
  cases rs with
  | nil => rw [pw, if_neg h]
  | cons q r => rw [pw, if_neg h]
structure PInv (b : Nat) (rs gone : List Pc) : Prop where
  r : ∀ p ∈ rs, AscP p
  g : ∀ p ∈ gone, AscP p
  n : rs.length + gone.length ≤ b
theorem popR_inv {b : Nat} {rs gone : List Pc} (h : PInv b rs gone) : PInv b (popR rs).2 gone ∧ AscP (popR rs).1 ∧ (popR rs).2.length ≤ rs.length := by
  cases rs with
  | nil => exact ⟨h, .nil, Nat.le_refl _⟩
  | cons p r => exact ⟨⟨fun q hq => h.r q (.tail _ hq), h.g, by have := h.n; simp [popR] at this ⊢; omega⟩, h.r p (.head _), by simp [popR]⟩

open PySem PySem.W PySem.Spec PySem.Calls PyProof.Rows
set_option Elab.async false
set_option maxRecDepth 100000
set_option linter.unusedVariables false
set_option linter.unusedSimpArgs false
set_option maxHeartbeats 1000000

noncomputable def PileC (C : CT) : Prop := (∀ a ds kw o Q, clsC a ds kw o Q → C a ds kw o Q) ∧ (∀ a ds kw o Q, popC a ds kw o Q → C a ds kw o Q) ∧ (∀ a ds kw o Q, pushC a ds kw o Q → C a ds kw o Q) ∧ (∀ a ds kw o Q, partC a ds kw o Q → C a ds kw o Q)
theorem pD_get {q : List Pc} {i : Nat} (h : i < q.length) : (pD q)[i]? = some (.tup [.str (mk q[i].1), .str (mk q[i].2)]) := by simp [pD, h]
theorem pD_len (q : List Pc) : (pD q).length = q.length := by simp [pD]
noncomputable def ne1 (l : List Nat) : Nat := if l = [] then 0 else 1
theorem ne1_le (l : List Nat) : ne1 l ≤ 1 := by unfold ne1; split <;> omega
theorem ne1_cons {l : List Nat} (h : l ≠ []) : ne1 l = 1 := if_neg h
theorem ne1_nil : ne1 [] = 0 := rfl
theorem tup2_get {a b : D} : ([a, b] : List D)[1]? = some b := rfl
noncomputable def pileB : BT := fun v ds o Q => BB v ds o Q ∨ Acc.StrB v ds o Q
namespace PilN
noncomputable abbrev C : CT := COr (COr clsC popC) (COr pushC partC)
noncomputable abbrev B : BT := pileB
noncomputable abbrev J : (D → D → List O → Post → Prop) := JJ
noncomputable abbrev X : (Expr → Loc → List O → Post → Prop) := fun _ _ _ _ => False
noncomputable abbrev Y : (Stmt → Loc → List O → SPost → Prop) := fun _ _ _ _ => False
noncomputable abbrev E : (Env → Prop) := anyE
theorem hC : PileC C := ⟨fun _ _ _ _ _ h => .inl (.inl h), fun _ _ _ _ _ h => .inl (.inr h), fun _ _ _ _ _ h => .inr (.inl h), fun _ _ _ _ _ h => .inr (.inr h)⟩
theorem hB : ∀ v ds o Q, BB v ds o Q → B v ds o Q := fun _ _ _ _ h => .inl h
theorem hS : ∀ v ds o Q, Acc.StrB v ds o Q → B v ds o Q := fun _ _ _ _ h => .inr h
end PilN
noncomputable abbrev InvPile1 (q : List Pc) (n : Nat) (o : List O) (i : Nat) (loc : Loc) (o' : List O) : Prop := i ≤ q.length ∧ o' = pst o (pileF (q.take i)).1 (pileF (q.take i)).2 ∧ PInv (3 * i) (pileF (q.take i)).1 (pileF (q.take i)).2 ∧ ∃ v1 v2 v3, loc = [(Str.ofString "pieces", some (.obj n)), (Str.ofString "pile", some (.obj (o.length + 1))), (Str.ofString "gone", some (.obj (o.length + 2))), (Str.ofString "blanks", v1), (Str.ofString "card", v2), (Str.ofString "piece", v3), (Str.ofString "rest", none)]
noncomputable abbrev InvPile2 (rs : List Pc) (gone : List Pc) (x : Pc) (i : Nat) (n : Nat) (o : List O) (loc : Loc) (o' : List O) : Prop := ∃ z : Pc × List Pc × List Pc, z = pw x.2 (popR rs).2 gone (popR rs).1 ∧ o' = pst o z.2.1 z.2.2 ∧ AscP z.1 ∧ PInv (3 * i + 1) z.2.1 z.2.2 ∧ loc = [(Str.ofString "pieces", some (.obj n)), (Str.ofString "pile", some (.obj (o.length + 1))), (Str.ofString "gone", some (.obj (o.length + 2))), (Str.ofString "blanks", some (.str (mk x.1))), (Str.ofString "card", some (.str (mk x.2))), (Str.ofString "piece", some (pc z.1)), (Str.ofString "rest", none)]
noncomputable abbrev InvPile3 (rs : List Pc) (gone : List Pc) (x : Pc) (i : Nat) (n : Nat) (o : List O) (k : Nat) (loc : Loc) (o' : List O) : Prop := ∃ rs' gone' p, pw x.2 rs' gone' p = pw x.2 (popR rs).2 gone (popR rs).1 ∧ o' = pst o rs' gone' ∧ AscP p ∧ PInv (3 * i + 1) rs' gone' ∧ (2 * rs'.length + ne1 p.2 ≤ k) ∧ (rs'.length + gone'.length + ne1 p.2 ≤ 3 * i + 1) ∧ loc = [(Str.ofString "pieces", some (.obj n)), (Str.ofString "pile", some (.obj (o.length + 1))), (Str.ofString "gone", some (.obj (o.length + 2))), (Str.ofString "blanks", some (.str (mk x.1))), (Str.ofString "card", some (.str (mk x.2))), (Str.ofString "piece", some (pc p)), (Str.ofString "rest", none)]
noncomputable abbrev InvPile4 (rs : List Pc) (gone : List Pc) (n : Nat) (o : List O) (v1 : Option D) (v2 : Option D) (v3 : Option D) (loc : Loc) (o' : List O) : Prop := o' = pst o [] (gone ++ rs) ∧ loc = [(Str.ofString "pieces", some (.obj n)), (Str.ofString "pile", some (.obj (o.length + 1))), (Str.ofString "gone", some (.obj (o.length + 2))), (Str.ofString "blanks", v1), (Str.ofString "card", v2), (Str.ofString "piece", v3), (Str.ofString "rest", some (.str (mk (restF rs))))]
noncomputable abbrev InvPile5 (rs : List Pc) (gone : List Pc) (n : Nat) (o : List O) (v1 : Option D) (v2 : Option D) (v3 : Option D) (k : Nat) (loc : Loc) (o' : List O) : Prop := ∃ rs' gone', rs'.length = k ∧ gone' ++ rs' = gone ++ rs ∧ o' = pst o rs' gone' ∧ loc = [(Str.ofString "pieces", some (.obj n)), (Str.ofString "pile", some (.obj (o.length + 1))), (Str.ofString "gone", some (.obj (o.length + 2))), (Str.ofString "blanks", v1), (Str.ofString "card", v2), (Str.ofString "piece", v3), (Str.ofString "rest", some (.str (mk (restF rs))))]
open PilN in
theorem pile_W (w : World) : PySem.Challenge.rw_re0083_01.prog = PySem.Challenge.rw_re0083_01.prog → ∃ fd body sc, (FnD (hd1.heap_1 w.params) 173 fd body ∧ fd.scope.names = sc ∧ (∀ x ∈ fd.scope.names, x.2 ≠ .cell) ∧ ndOk sc = true ∧ (∀ x ∈ [Str.ofString "pieces"], fd.scope.names.lookup x = some .local) ∧ ∀ a, bindArgs fd ⟨[a], []⟩ = pure [(Str.ofString "pieces", a)]) ∧
    ∀ (n : Nat) (q : List Pc) (o : List O), o[n]? = some (.list (pD q)) → q.length ≤ 20 → (∀ p ∈ q, AscP p) →
    WSs ⟨sc, Gl, C, accM, B, KK, J, X, Y, E⟩ body [(Str.ofString "pieces", some (.obj n)), (Str.ofString "pile", none), (Str.ofString "gone", none), (Str.ofString "blanks", none), (Str.ofString "card", none), (Str.ofString "piece", none), (Str.ofString "rest", none)] o (fun fl _ o' => retD fl = .tup [.obj (o.length + 2), .str (mk (restF (pileF q).1)), .tup [.str (mk []), .str (mk [])]] ∧ o' = pst o [] ((pileF q).2 ++ (pileF q).1)) := by
  k_fill
  intro _
  refine ⟨_, _, _, ⟨⟨⟨_, _, _, by k_is⟩, ⟨_, _, _, _, _, _, rfl, by k_is, rfl⟩, rfl, rfl, rfl, rfl, rfl, rfl, rfl⟩, rfl, by decide, by decide, by decide, fun _ => rfl⟩, ?_⟩
  obtain ⟨hc1, hc2, hc3, hc4⟩ := hC
  intro n q o ho hl ha
  have hn : n < o.length := (List.getElem?_eq_some_iff.mp ho).1
  have hget : ∀ rs gone, (pst o rs gone)[n]? = some (.list (pD q)) := fun rs gone => by unfold pst; rw [List.getElem?_append_left hn]; exact ho
  repeat (with_reducible first | apply r_cons | apply r_esn | apply r_ksn | apply b_fn | (apply r_assign; (case ka => (refine ⟨?_, fun _ _ _ => rfl⟩; walk_at "N")); (case kk => walk_at "K")) | (apply r_call; (case kn => walk_at "N"); (case km => walk_at "N")))
  refine hc1 _ _ _ _ _ ⟨rfl, rfl, rfl, ?_⟩
  repeat (with_reducible first | apply r_cons | apply r_seq | (apply r_assign; (case ka => (refine ⟨?_, fun _ _ _ => rfl⟩; walk_at "N")); (case kk => walk_at "K")))
  refine r_list rfl ?_
  repeat (with_reducible first | apply r_esn)
  refine ⟨by simp, ?_⟩
  repeat (with_reducible first | apply r_cons | apply r_seq)
  have e0 : o ++ [O.idict] ++ [O.acc [] o.length] ++ [O.list []] = pst o [] [] := by simp [pst, pD]
  have e1 : (o ++ [O.idict] ++ [O.acc [] o.length]).length = o.length + 2 := by simp
  rw [e0, e1]
  refine r_forl (n := n) (l := pD q) (by walk_at "N") (hget _ _) rfl ?_
  refine r_for2 (by walk_at "N") (InvPile1 q n o) ⟨by omega, by simp [pileF], by simp only [List.take_zero]; exact ⟨by simp [pileF], by simp [pileF], by simp [pileF]⟩, _, _, _, rfl⟩ ?_ ?_ ?_
  · rintro i _ _ ⟨_, rfl, _⟩
    exact hget _ _
  · rintro QN i dd _ _ hi ⟨hi1, rfl, hinv, v1, v2, v3, rfl⟩
    have hil : i < q.length := by
      have := (List.getElem?_eq_some_iff.mp hi).1
      rwa [pD_len] at this
    rw [pD_get hil] at hi
    cases hi
    have hqa := ha _ (List.getElem_mem hil)
    have htake := pileF_take q i hil
    generalize q[i] = x at hqa htake
    generalize pileF (q.take i) = st at hinv htake
    obtain ⟨rs, gone⟩ := st
    have hinv' : PInv (3 * i) rs gone := hinv
    refine ⟨_, _, rfl, ?_⟩
    walk_at "L"
    obtain ⟨hp1, hp2, hp3⟩ := popR_inv hinv'
    have hrl : rs.length ≤ 900 := by have := hinv'.n; omega
    repeat (with_reducible first | apply r_cons | (apply r_name; (case kn => walk_at "N")) | (apply r_assign; (case ka => (refine ⟨?_, fun _ _ _ => rfl⟩; walk_at "N")); (case kk => walk_at "K")) | (apply r_methd; (case ka => (refine ⟨fun _ _ _ => rfl, ?_⟩; walk_at "N"))))
    refine m_acc (pst_a o rs gone) (pst_d o rs gone) rfl ?_
    repeat (with_reducible first | apply r_esn | apply b_fn)
    refine p_pop hc2 hrl ?_
    repeat (with_reducible first | apply r_cons | apply r_seq)
    refine r_whileJ (InvPile2 rs gone x i n o)
      (InvPile3 rs gone x i n o) (2 * rs.length + 1)
      ⟨(popR rs).2, gone, (popR rs).1, rfl, rfl, hp2, ⟨hp1.r, hp1.g, by have := hp1.n; omega⟩, by have := ne1_le (popR rs).1.2; omega, by have := hp1.n; have := ne1_le (popR rs).1.2; omega, rfl⟩ ?_ ?_
    · rintro QW hJ k _ _ ⟨rs', gone', p, hz, rfl, hpa, hpi, hk, hk2, rfl⟩
      obtain ⟨pa, pb⟩ := p
      have hpn := hpi.n
      have ends : ¬ (pb ≠ [] ∧ pb < x.2) → QW [(Str.ofString "pieces", some (.obj n)), (Str.ofString "pile", some (.obj (o.length + 1))), (Str.ofString "gone", some (.obj (o.length + 2))), (Str.ofString "blanks", some (.str (mk x.1))), (Str.ofString "card", some (.str (mk x.2))), (Str.ofString "piece", some (pc (pa, pb))), (Str.ofString "rest", none)] (pst o rs' gone') := fun hh => by
        rw [pw_stop (p := (pa, pb)) hh] at hz
        exact hJ _ _ ⟨((pa, pb), rs', gone'), hz, rfl, hpa, hpi, rfl⟩
      repeat (with_reducible first | apply r_int | apply r_subc | apply r_tand | apply r_tandc | (apply r_name; (case kn => walk_at "N")) | (apply r_tcmp; (case kn => walk_at "N")))
      refine g_tup (j := 1) rfl (by omega) rfl ?_
      repeat (with_reducible first | apply r_str)
      show cmpF _ _ (.str (mk pb)) (.str (mk [])) _ _
      refine c_nes ?_
      repeat (with_reducible first | apply t_bool)
      refine ⟨fun h1 => ?_, fun h1 => ?_⟩
      · have h1' : pb ≠ [] := by simpa using h1
        repeat (with_reducible first | apply r_int | apply r_subc | apply r_tandc | (apply r_name; (case kn => walk_at "N")) | (apply r_tcmp; (case kn => walk_at "N")))
        refine g_tup (j := 1) rfl (by omega) rfl ?_
        repeat (with_reducible first | (apply r_name; (case kn => walk_at "N")))
        show cmpF _ _ (.str (mk pb)) (.str (mk x.2)) _ _
        refine c_lts ?_
        repeat (with_reducible first | apply t_bool)
        refine ⟨fun h2 => ?_, fun h2 => ?_⟩
        · have h2' : pb < x.2 := by simpa using h2
          have hg1 : gone'.length ≤ 900 := by omega
          rw [pw_step (p := (pa, pb)) ⟨h1', h2'⟩] at hz
          repeat (with_reducible first | apply r_cons | apply lit_t | apply r_tandn)
          refine r_expr (fun _ _ _ => rfl) ?_
          repeat (with_reducible first | (apply r_name; (case kn => walk_at "N")) | (apply r_methd; (case ka => (refine ⟨fun _ _ _ => rfl, ?_⟩; walk_at "N"))))
          refine m_list (pst_g o rs' gone') rfl ?_
          repeat (with_reducible first | apply r_esc | apply r_esn | (apply r_name; (case kn => walk_at "N")))
          refine p_gone (p := (pa, pb)) hB hg1 ?_
          repeat (with_reducible first | apply r_cons | apply r_seq | (apply r_name; (case kn => walk_at "N")) | (apply r_assign; (case ka => (refine ⟨?_, fun _ _ _ => rfl⟩; walk_at "N")); (case kk => walk_at "K")) | (apply r_methd; (case ka => (refine ⟨fun _ _ _ => rfl, ?_⟩; walk_at "N"))))
          refine m_acc (pst_a o rs' _) (pst_d o rs' _) rfl ?_
          repeat (with_reducible first | apply r_esn | apply b_fn)
          refine p_pop hc2 (by omega) ?_
          repeat (with_reducible first | apply r_seq | apply r_nil)
          rw [show ne1 (pa, pb).2 = 1 from ne1_cons h1'] at hk hk2
          refine ⟨2 * (popR rs').2.length + ne1 (popR rs').1.2, ?_, (popR rs').2, gone' ++ [(pa, pb)], (popR rs').1, hz, rfl, ?_, ?_, Nat.le_refl _, ?_, rfl⟩
          · cases rs' with
            | nil => simp [popR, ne1_nil] at hk ⊢; omega
            | cons a r =>
              simp only [popR, List.length_cons] at hk ⊢
              have := ne1_le a.2
              omega
          · cases rs' with
            | nil => exact .nil
            | cons a r => exact hpi.r a (.head _)
          · refine ⟨fun p hp => ?_, fun p hp => ?_, ?_⟩
            · cases rs' with
              | nil => simp [popR] at hp
              | cons a r => exact hpi.r p (.tail _ hp)
            · rcases List.mem_append.mp hp with hp | hp
              · exact hpi.g p hp
              · rw [List.mem_singleton.mp hp]; exact hpa
            · cases rs' with
              | nil => simp [popR] at hk2 ⊢; omega
              | cons a r => simp [popR] at hk2 ⊢; omega
          · cases rs' with
            | nil => simp [popR, ne1_nil] at hk2 ⊢; omega
            | cons a r =>
              simp only [popR, List.length_cons, List.length_append, List.length_nil] at hk2 ⊢
              have := ne1_le a.2
              omega
        · have h2' : ¬ pb < x.2 := by simpa using h2
          repeat (with_reducible first | apply lit_f)
          exact ends fun z => h2' z.2
      · have h1' : ¬ pb ≠ [] := by simpa using h1
        repeat (with_reducible first | apply lit_f)
        exact ends fun z => h1' z.1
    · rintro _ _ ⟨⟨p, rs', gone'⟩, hz, rfl, hpa, hpi, rfl⟩
      obtain ⟨pa, pb⟩ := p
      have hpn : rs'.length + gone'.length ≤ 3 * i + 1 := hpi.n
      have hst : pstep (rs, gone) x = (x :: (if (pa, pb) = ([], []) then rs' else (pa, pb) :: rs'), gone') := by
        unfold pstep
        rw [← hz]
      have fin : ∀ rs2, rs2 = (if (pa, pb) = ([], []) then rs' else (pa, pb) :: rs') → PInv (3 * (i + 1)) (x :: rs2) gone' := fun rs2 e => by
        subst e
        split
        · exact ⟨fun p hp => (List.mem_cons.mp hp).elim (fun q => q ▸ hqa) (hpi.r p), hpi.g, by simp only [List.length_cons] at hpn ⊢; omega⟩
        · exact ⟨fun p hp => (List.mem_cons.mp hp).elim (fun q => q ▸ hqa) fun hp => (List.mem_cons.mp hp).elim (fun q => q ▸ hpa) (hpi.r p), hpi.g, by simp only [List.length_cons] at hpn ⊢; omega⟩
      repeat (with_reducible first | apply r_cons | apply r_seq | (apply r_name; (case kn => walk_at "N")) | (apply r_tcmp; (case kn => walk_at "N")) | apply r_if)
      refine r_tuple rfl ?_
      repeat (with_reducible first | apply r_str | apply r_esc | apply r_esn)
      refine ⟨by simp, ?_⟩
      show cmpF _ _ (.tup [.str (mk pa), .str (mk pb)]) (.tup [.str (mk []), .str (mk [])]) _ _
      refine c_netup rfl hpa.1 hpa.2.1 (by simp) (by simp) ?_
      repeat (with_reducible first | apply t_bool)
      refine ⟨fun h => ?_, fun h => ?_⟩
      · have hne : ¬ (pa, pb) = (([], []) : Pc) := fun e => by cases e; simp at h
        rw [if_neg hne] at hst
        have fin2 := fin _ (if_neg hne).symm
        repeat (with_reducible first | apply r_cons)
        refine r_expr (fun _ _ _ => rfl) ?_
        repeat (with_reducible first | (apply r_name; (case kn => walk_at "N")) | (apply r_methd; (case ka => (refine ⟨fun _ _ _ => rfl, ?_⟩; walk_at "N"))))
        refine m_acc (pst_a o rs' gone') (pst_d o rs' gone') rfl ?_
        repeat (with_reducible first | apply r_int | apply r_esc | apply r_subc | (apply r_name; (case kn => walk_at "N")))
        refine g_tup (j := 0) rfl (by omega) rfl ?_
        repeat (with_reducible first | apply r_int | apply r_esc | apply r_subc | (apply r_name; (case kn => walk_at "N")))
        refine g_tup (j := 1) rfl (by omega) rfl ?_
        repeat (with_reducible first | apply r_esn | apply b_fn)
        refine p_push (p := (pa, pb)) hc3 (by show rs'.length ≤ 900; omega) ?_
        repeat (with_reducible first | apply r_cons | apply r_seq | apply r_nil)
        refine r_expr (fun _ _ _ => rfl) ?_
        repeat (with_reducible first | (apply r_name; (case kn => walk_at "N")) | (apply r_methd; (case ka => (refine ⟨fun _ _ _ => rfl, ?_⟩; walk_at "N"))))
        refine m_acc (pst_a o _ gone') (pst_d o _ gone') rfl ?_
        repeat (with_reducible first | apply r_esc | apply r_esn | apply b_fn | (apply r_name; (case kn => walk_at "N")))
        refine p_push (p := x) hc3 (by simp only [List.length_cons] at hpn ⊢; omega) ?_
        repeat (with_reducible first | apply r_seq | apply r_nil)
        show _ ∧ _
        rw [htake, hst]
        exact ⟨by omega, rfl, fin2, _, _, _, rfl⟩
      · have hne : (pa, pb) = (([], []) : Pc) := by
          simp at h
          exact Prod.ext h.1 h.2
        rw [if_pos hne] at hst
        have fin2 := fin _ (if_pos hne).symm
        repeat (with_reducible first | apply r_cons | apply r_seq | apply r_nil)
        refine r_expr (fun _ _ _ => rfl) ?_
        repeat (with_reducible first | (apply r_name; (case kn => walk_at "N")) | (apply r_methd; (case ka => (refine ⟨fun _ _ _ => rfl, ?_⟩; walk_at "N"))))
        refine m_acc (pst_a o rs' gone') (pst_d o rs' gone') rfl ?_
        repeat (with_reducible first | apply r_esc | apply r_esn | apply b_fn | (apply r_name; (case kn => walk_at "N")))
        refine p_push (p := x) hc3 (by show rs'.length ≤ 900; omega) ?_
        repeat (with_reducible first | apply r_seq | apply r_nil)
        show _ ∧ _
        rw [htake, hst]
        exact ⟨by omega, rfl, fin2, _, _, _, rfl⟩
  · rintro _ _ ⟨_, rfl, hinv, v1, v2, v3, rfl⟩
    rw [pD_len, List.take_length] at hinv ⊢
    generalize pileF q = st at hinv
    obtain ⟨rs, gone⟩ := st
    have hinv' : PInv (3 * q.length) rs gone := hinv
    have hn1 := hinv'.n
    show WSs _ _ _ (pst o rs gone) _
    repeat (with_reducible first | apply r_cons | apply r_esc | apply r_esn | apply r_ksn | (apply r_name; (case kn => walk_at "N")) | (apply r_assign; (case ka => (refine ⟨?_, fun _ _ _ => rfl⟩; walk_at "N")); (case kk => walk_at "K")) | (apply r_call; (case kn => walk_at "N"); (case km => walk_at "N")))
    refine p_str hS (by omega) hinv'.r ?_
    repeat (with_reducible first | apply r_cons | apply r_seq)
    refine r_whileJ (InvPile4 rs gone n o v1 v2 v3)
      (InvPile5 rs gone n o v1 v2 v3) rs.length ⟨rs, gone, rfl, rfl, rfl, rfl⟩ ?_ ?_
    · rintro QW hJ k _ _ ⟨rs', gone', rfl, hz, rfl, rfl⟩
      have hlen : gone'.length + rs'.length = gone.length + rs.length := by
        have := congrArg List.length hz
        simpa using this
      repeat (with_reducible first | (apply r_name; (case kn => walk_at "N")) | (apply r_tcmp; (case kn => walk_at "N")) | (apply r_methd; (case ka => (refine ⟨fun _ _ _ => rfl, ?_⟩; walk_at "N"))))
      refine m_acc (pst_a o rs' gone') (pst_d o rs' gone') rfl ?_
      repeat (with_reducible first | apply r_esn | apply b_fn)
      refine hc4 _ _ _ _ _ ⟨rfl, rfl, _, _, _, rfl, pst_a .., pst_d .., by simp [pD]; omega, ?_⟩
      repeat (with_reducible first | apply r_int | apply c_gti | apply t_bool)
      refine ⟨fun h => ?_, fun h => ?_⟩
      · cases rs' with
        | nil => simp [pD] at h
        | cons p r =>
          repeat (with_reducible first | apply r_cons)
          refine r_expr (fun _ _ _ => rfl) ?_
          repeat (with_reducible first | (apply r_name; (case kn => walk_at "N")) | (apply r_methd; (case ka => (refine ⟨fun _ _ _ => rfl, ?_⟩; walk_at "N"))))
          refine m_list (pst_g o (p :: r) gone') rfl ?_
          repeat (with_reducible first | apply r_esc | (apply r_name; (case kn => walk_at "N")) | (apply r_methd; (case ka => (refine ⟨fun _ _ _ => rfl, ?_⟩; walk_at "N"))))
          refine m_acc (pst_a o (p :: r) gone') (pst_d o (p :: r) gone') rfl ?_
          repeat (with_reducible first | apply r_esn | apply b_fn)
          refine p_pop hc2 (by simp only [List.length_cons] at hlen ⊢; omega) ?_
          repeat (with_reducible first | apply r_esn)
          refine p_gone (p := p) hB (by omega) ?_
          repeat (with_reducible first | apply r_seq | apply r_nil)
          exact ⟨r.length, by simp, r, gone' ++ [p], rfl, by rw [← hz]; simp, rfl, rfl⟩
      · cases rs' with
        | nil =>
          skip
          rw [List.append_nil] at hz
          exact hJ _ _ ⟨by rw [hz], rfl⟩
        | cons p r => exfalso; simp [pD] at h
    · rintro _ _ ⟨rfl, rfl⟩
      repeat (with_reducible first | apply r_cons | apply r_seq | apply r_return)
      refine r_tuple rfl ?_
      repeat (with_reducible first | apply r_esc | (apply r_name; (case kn => walk_at "N")) | (apply r_methd; (case ka => (refine ⟨fun _ _ _ => rfl, ?_⟩; walk_at "N"))))
      refine m_acc (pst_a o [] (gone ++ rs)) (pst_d o [] (gone ++ rs)) rfl ?_
      repeat (with_reducible first | apply r_esn | apply b_fn)
      refine p_pop hc2 (by simp) ?_
      repeat (with_reducible first | apply r_esn)
      exact ⟨by simp, rfl, rfl⟩

open PySem PySem.W PySem.Spec PySem.Calls PyProof.Rows
set_option Elab.async false
set_option maxRecDepth 100000
set_option linter.unusedVariables false
/-- comprehensions over stepped slices -/
noncomputable def mid (sc : List (Str × NameKind)) (C : CT) (M : Str → Option Value) (B : BT) (E : Env → Prop) : PCtx := ⟨sc, Gl, C, M, B, KK, JJ, XX (bare sc C M B E), fun _ _ _ _ => False, E⟩
noncomputable def full2 (sc : List (Str × NameKind)) (C : CT) (M : Str → Option Value) (B : BT) (E : Env → Prop) : PCtx := ⟨sc, Gl, C, M, B, KK, JJ, XX (mid sc C M B E), fun _ _ _ _ => False, E⟩
theorem orc_full2 {Γ : Ctx} {n : Nat} {sc : List (Str × NameKind)} {C : CT} {M : Str → Option Value} {B : BT} {E : Env → Prop} (hG : GOk Γ Gl) (hC : COkN Γ n C) (hM : MOkN Γ M) (hB : ∀ A, AOk n A → ∀ v, PS Γ A (fun vs => call v vs) (B v)) : Orc Γ n (full2 sc C M B E) where
  G := hG
  C := hC
  M := hM
  oB := hB
  oK := fun A hA op => kk_ok hA op
  oJ := fun A hA value i hi => jj_ok value i hi
  oX := fun env A hA am own e loc => by
    have am1 : Am0 Γ (mid sc C M B E) env A := ⟨am.sc, am.G, am.C, am.M, am.hh, am.hu, am.oB, am.oK, am.oJ, am.nd, am.E⟩
    exact xx_gen (P := mid sc C M B E) ⟨am1, fun own e loc => xx_ok (P := mid sc C M B E) am1 e, fun own st loc objs Q s ρ Q' R hw k => hw.elim⟩ e
  oY := fun env A hA am own st loc objs Q s ρ Q' R hw k => hw.elim

open PySem PySem.W PySem.Spec PySem.Calls PyProof.Rows
set_option Elab.async false
set_option maxRecDepth 100000
set_option linter.unusedVariables false
set_option linter.unusedSimpArgs false
set_option maxHeartbeats 1000000

noncomputable def ordsF : Nat → List (List (List Nat))
  | 0 => [[[97]]]
  | k + 1 => (ordsF k).flatMap fun l => (List.range (k + 2)).map fun j => insL l j [98 + k]
theorem ordsF_step {k : Nat} {l : List (List Nat)} (h : l ∈ ordsF k) {j : Nat} (hj : j < k + 2) : insL l j [98 + k] ∈ ordsF (k + 1) := by
  unfold ordsF
  exact List.mem_flatMap.mpr ⟨l, h, List.mem_map.mpr ⟨j, List.mem_range.mpr hj, rfl⟩⟩
theorem r_enumt {P : PCtx} {loc : Loc} {o : List O} {QS : SPost} {f : Str} {t : Expr} {es : List Expr} {b : List Stmt} {kk : Nat} {tp p0 p2 p : Pos} {l : List D} (hf : nameF P loc f = some (.fn (.type "enumerate"))) (ht : isTupE t = true)
    (hl : ∀ K : Post, K (.tup l) o → WE P (.Tuple es kk tp) loc o K)
    (h : ForW (asgF P t) (WSs P b) (enumD l) none loc o QS) : WS P (.For t (.Call (.Name f p0) [.Tuple es kk tp] [] p2) b [] p) loc o QS := r_for (.enum hf (by rw [ht]; rfl) (r_esc (hl _ (r_esn (.tup h)))))
theorem b_suml {P : PCtx} {o : List O} {Q : Post} {n : Nat} {l : List D} {ns : List Int} (hB : P.B = BB) (e : o[n]? = some (.list l)) (hi : allD intD l = some ns) (h : Q (.int ns.sum) o) : callF P (.builtin "sum") [.obj n] [] o Q := ⟨rfl, .other (by rw [hB]; exact .sum e hi h)⟩
theorem r_step {P P0 : PCtx} {loc : Loc} {o : List O} {Q : Post} {vn : Str} {vp sp p : Pos} {lo hi st : Expr} (hX : P.X = XX P0)
    (h : WE P0 (.Name vn vp) loc o fun d o1 => WO P0 (some lo) loc o1 fun l o2 => WO P0 (some hi) loc o2 fun h o3 => WE P0 st loc o3 fun k o4 => StepR o4 Q d l h k) : WE P (.Subscript (.Name vn vp) (.Slice (some lo) (some hi) (some st) sp) p) loc o Q := by
  show P.X _ loc o Q
  rw [hX]; exact .slice h
theorem bcdef : Str.ofString "bcdef" = mk [98, 99, 100, 101, 102] := by decide +kernel
theorem stepD_ints (ns : List Int) (a b c : Option Int) : ∃ ms : List Int, stepD (ns.map D.int) a b c = ms.map D.int ∧ ms.length ≤ (sliceRange (sliceBounds a b c (ns.map D.int).length).1 (sliceBounds a b c (ns.map D.int).length).2.1 (sliceBounds a b c (ns.map D.int).length).2.2).length := by
  unfold stepD
  generalize (sliceRange _ _ _) = is
  induction is with
  | nil => exact ⟨[], rfl, by simp⟩
  | cons i r ih =>
    obtain ⟨ms, e, hl⟩ := ih
    rw [List.filterMap_cons]
    cases h : (ns.map D.int)[i]? with
    | none => exact ⟨ms, e, by simp; omega⟩
    | some d =>
      rw [List.getElem?_map] at h
      obtain ⟨z, _, rfl⟩ := Option.map_eq_some_iff.mp h
      exact ⟨z :: ms, by simp only [e, List.map_cons], by simp; omega⟩
theorem stepD_len (ds : List D) (a b c : Option Int) : (stepD ds a b c).length ≤ ds.length := by
  have h := slicePick_size_le (ds.map fun _ => Value.none).toArray a b c
  have key : ∀ is : List Nat, (is.filterMap (ds[·]?)).length = (is.filterMap ((ds.map fun _ => Value.none)[·]?)).length := by
    intro is
    induction is with
    | nil => rfl
    | cons i r ih =>
      rw [List.filterMap_cons, List.filterMap_cons, List.getElem?_map]
      cases ds[i]? with
      | none => exact ih
      | some d => simp only [Option.map_some, List.length_cons, ih]
  unfold stepD
  unfold slicePick at h
  rw [key]
  simpa using h
namespace OrdN
noncomputable abbrev C : CT := noC
noncomputable abbrev M : (Str → Option Value) := noM
noncomputable abbrev E : (Env → Prop) := anyE
end OrdN
noncomputable abbrev InvOrder1 (ns : List Int) (o : List O) (i : Nat) (loc : Loc) (o' : List O) : Prop := i ≤ 5 ∧ (∃ l g, l ∈ ordsF i ∧ l.length = i + 1 ∧ o' = o ++ [.list (sD l)] ++ g) ∧ ∃ v1 v2 v3, loc = [(Str.ofString "script", some (.fz (ns.map D.int))), (Str.ofString "order", some (.obj o.length)), (Str.ofString "k", v1), (Str.ofString "base", v2), (Str.ofString "drawn", v3)]
open OrdN in
theorem order_W (w : World) : PySem.Challenge.rw_re0083_01.prog = PySem.Challenge.rw_re0083_01.prog → ∃ fd body sc, (FnD (hd1.heap_1 w.params) 142 fd body ∧ fd.scope.names = sc ∧ (∀ x ∈ fd.scope.names, x.2 ≠ .cell) ∧ ndOk sc = true ∧ (∀ x ∈ [Str.ofString "script"], fd.scope.names.lookup x = some .local) ∧ ∀ a, bindArgs fd ⟨[a], []⟩ = pure [(Str.ofString "script", a)]) ∧
    ∀ (ns : List Int) (o : List O), ns.length ≤ 63 →
    WSs ⟨sc, Gl, C, M, BB, KK, JJ, XX ⟨sc, Gl, C, M, BB, KK, JJ, XX ⟨sc, Gl, C, M, BB, KK, JJ, fun _ _ _ _ => False, fun _ _ _ _ => False, E⟩, fun _ _ _ _ => False, E⟩, fun _ _ _ _ => False, E⟩ body [(Str.ofString "script", some (.fz (ns.map D.int))), (Str.ofString "order", none), (Str.ofString "k", none), (Str.ofString "base", none), (Str.ofString "drawn", none)] o (fun fl _ o' => retD fl = .obj o.length ∧ ∃ l g, l ∈ ordsF 5 ∧ o' = o ++ [.list (sD l)] ++ g) := by
  k_fill
  intro _
  refine ⟨_, _, _, ⟨⟨⟨_, _, _, by k_is⟩, ⟨_, _, _, _, _, _, rfl, by k_is, rfl⟩, rfl, rfl, rfl, rfl, rfl, rfl, rfl⟩, rfl, by decide, by decide, by decide, fun _ => rfl⟩, ?_⟩
  intro ns o hns
  repeat (with_reducible first | apply r_cons | (apply r_assign; (case ka => (refine ⟨?_, fun _ _ _ => rfl⟩; walk_at "N")); (case kk => walk_at "K")))
  refine r_list rfl ?_
  repeat (with_reducible first | apply r_str | apply r_esc | apply r_esn)
  refine ⟨by simp, ?_⟩
  repeat (with_reducible first | apply r_cons | apply r_seq)
  refine r_enumt (l := [.int 0, .int 2, .int 1, .int 2, .int 5]) (by walk_at "N") rfl (fun K hK => ?_) ?_
  · refine r_tuple rfl ?_
    repeat (with_reducible first | apply r_int | apply r_esc | apply r_esn)
    exact ⟨by simp, hK⟩
  refine r_for2 (by walk_at "N") (InvOrder1 ns o) ⟨by omega, ⟨[[97]], [], by simp [ordsF], rfl, by simp [sD]; rfl⟩, _, _, _, rfl⟩ (fun _ _ _ _ => trivial) ?_ ?_
  · rintro QN i dd _ _ hi ⟨hi5, ⟨l, g, hl, hll, rfl⟩, v1, v2, v3, rfl⟩
    have hil : i < 5 := by
      have := (List.getElem?_eq_some_iff.mp hi).1
      simpa [enumD] using this
    obtain ⟨bs, hdd⟩ : ∃ bs : Int, dd = .tup [.int i, .int bs] := by
      have : ∀ i < 5, ∃ bs : Int, (enumD [.int 0, .int 2, .int 1, .int 2, .int 5])[i]? = some (.tup [.int i, .int bs]) := by
        intro i hi
        match i, hi with
        | 0, _ => exact ⟨_, rfl⟩
        | 1, _ => exact ⟨_, rfl⟩
        | 2, _ => exact ⟨_, rfl⟩
        | 3, _ => exact ⟨_, rfl⟩
        | 4, _ => exact ⟨_, rfl⟩
      obtain ⟨bs, e⟩ := this i hil
      rw [e] at hi; cases hi; exact ⟨bs, rfl⟩
    subst hdd
    refine ⟨_, _, rfl, ?_⟩
    walk_at "L"
    repeat (with_reducible first | apply r_cons | apply r_bin | apply r_esc | (apply r_name; (case kn => walk_at "N")) | (apply r_assign; (case ka => (refine ⟨?_, fun _ _ _ => rfl⟩; walk_at "N")); (case kk => walk_at "K")) | (apply r_call; (case kn => walk_at "N"); (case km => walk_at "N")))
    refine r_compx rfl (.mk rfl (fun _ _ => rfl) (.seq (fun _ _ => rfl) ?_))
    refine r_step rfl ?_
    repeat (with_reducible first | apply r_int | apply r_os | (apply r_name; (case kn => walk_at "N")))
    refine .mk (.int _) (.int _) (.int _) (by decide) (by simp; omega) ?_
    obtain ⟨ms, hms, hmsl⟩ := stepD_ints ns (some (i : Int)) (some 60) (some 5)
    rw [hms]
    have hml : ms.length ≤ 63 := by
      have := stepD_len (ns.map D.int) (some (i : Int)) (some 60) (some 5)
      rw [hms] at this
      simp at this; omega
    refine .lst (l := ms.map D.int) (by rw [List.getElem?_concat_length]) rfl ⟨by show (o ++ [O.list (sD l)] ++ g ++ [O.list (ms.map D.int)])[(o ++ [O.list (sD l)] ++ g).length]? = _; rw [List.getElem?_concat_length], ?_⟩
    walk_at "L"
    refine cg_go (P := ⟨[(Str.ofString ".0", .local), (Str.ofString "x", .local)], Gl, C, M, BB, KK, JJ, fun _ _ _ _ => False, fun _ _ _ _ => False, fun _ => True⟩) (fun v => [(Str.ofString ".0", none), (Str.ofString "x", v)])
      (fun v d => by kernel_rfl) (by kernel_rfl) (fun _ => true) (fun d => match d with | .int z => .int (z % 1000000) | _ => .none) _ _ none (by simp; omega) (fun d hd done' K hK => hK) ?_ ?_
    · intro d hd _ done' K hK
      obtain ⟨z, hz, rfl⟩ := List.mem_map.mp hd
      repeat (with_reducible first | apply r_int | apply r_bin | (apply r_name; (case kn => walk_at "N")))
      refine .pow (by decide) (by decide) ?_
      refine q_mod (by decide) ?_
      exact hK
    · have hmods : ([] : List D) ++ (List.filter (fun _ => true) (ms.map D.int)).map (fun d => match d with | .int z => D.int (z % 1000000) | _ => .none) = (ms.map fun z => z % 1000000).map D.int := by
        rw [List.nil_append, List.filter_eq_self.mpr (fun _ _ => rfl), List.map_map, List.map_map]; rfl
      rw [hmods]
      repeat (with_reducible first | apply r_esn | apply r_ksn)
      refine b_suml (ns := ms.map fun z => z % 1000000) rfl (by simp) (allD_ints _) ?_
      repeat (with_reducible first | apply r_cons | apply r_seq | apply q_add)
      have hob : ∀ r, (o ++ [O.list (sD l)] ++ g ++ r)[o.length]? = some (.list (sD l)) := fun r => by simp
      refine r_expr (fun _ _ _ => rfl) ?_
      repeat (with_reducible first | (apply r_name; (case kn => walk_at "N")) | (apply r_methd; (case ka => (refine ⟨fun _ _ _ => rfl, ?_⟩; walk_at "N"))))
      refine m_list (l := sD l) (by simp) rfl ?_
      repeat (with_reducible first | apply r_int | apply r_bin | apply r_esc | apply q_add | (apply r_name; (case kn => walk_at "N")))
      refine q_mod (by omega) ?_
      repeat (with_reducible first | apply r_str | apply r_esc | apply r_subn | (apply r_name; (case kn => walk_at "N")))
      rw [bcdef]
      have hgb : ([98, 99, 100, 101, 102] : List Nat)[i]? = some (98 + i) := by
        have : ∀ k < 5, ([98, 99, 100, 101, 102] : List Nat)[k]? = some (98 + k) := by decide
        exact this _ hil
      refine g_str rfl (by simp) hgb ?_
      repeat (with_reducible first | apply r_esn)
      generalize (bs + (List.map (fun z => z % 1000000) ms).sum) = dr
      have h1 := Int.emod_nonneg dr (b := (i : Int) + 2) (by omega)
      have h2 := Int.emod_lt_of_pos dr (b := (i : Int) + 2) (by omega)
      obtain ⟨j, hj⟩ := Int.eq_ofNat_of_zero_le h1
      rw [hj] at h2 ⊢
      refine b_insert (l := sD l) (j := j) (fun _ _ _ _ h => h) (by simp) rfl (by rw [sD_len]; omega) (by rw [sD_len]; omega) ?_
      repeat (with_reducible first | apply r_seq | apply r_nil)
      refine ⟨by omega, ⟨insL l j [98 + i], g ++ [.list (ms.map D.int)] ++ [.list ((ms.map fun z => z % 1000000).map D.int)], ordsF_step hl (by omega), ?_, ?_⟩, _, _, _, rfl⟩
      · simp [insL, hll]; omega
      · have e : sD (insL l j [98 + i]) = insL (sD l) j (.str (mk [98 + i])) := by simp [sD, insL]
        rw [e]; simp
  · rintro _ _ ⟨_, ⟨l, g, hl, hll, rfl⟩, v1, v2, v3, rfl⟩
    repeat (with_reducible first | apply r_cons | apply r_seq | apply r_seqr | apply r_return | (apply r_name; (case kn => walk_at "N")))
    exact ⟨rfl, l, g, hl, rfl⟩

open PySem PySem.W PySem.Spec PySem.Calls PyProof.Rows
set_option Elab.async false
set_option maxRecDepth 100000
set_option linter.unusedVariables false
set_option linter.unusedSimpArgs false
set_option maxHeartbeats 1000000

/-- a comprehension over two names -/
theorem cg_go2 {P : PCtx} {x y : Str} {xp yp tp : Pos} {kk : Nat} {elt : Expr} {ifs : List Expr} {o1 : List O} {Q : Post} (Lo : Option D → Option D → Loc) (hset : ∀ u v a c, setLo (setLo (Lo u v) x a) y c = Lo (some a) (some c)) (hx : lkS P.sc x = some .local) (hy : lkS P.sc y = some .local) (t : D → Bool) (f : D → D) :
    ∀ (items done : List D) (u v : Option D), done.length + items.length ≤ 1000 →
      (∀ d ∈ items, ∃ a c, d = .tup [a, c] ∧ ∀ done', (∀ (K : Bool → List O → Prop), K (t d) (o1 ++ [.list done']) → cIf P ifs (Lo (some a) (some c)) (o1 ++ [.list done']) K) ∧
        (t d = true → ∀ (K : Post), K (f d) (o1 ++ [.list done']) → WE P elt (Lo (some a) (some c)) (o1 ++ [.list done']) K)) →
      Q (.obj o1.length) (o1 ++ [.list (done ++ (items.filter t).map f)]) → CompGo P (.Tuple [.Name x xp, .Name y yp] kk tp) elt ifs o1 Q items done (Lo u v)
  | [], done, u, v, _, _, h => by rw [CompGo_nil]; simpa using h
  | d :: r, done, u, v, hl, h1, h => by
    obtain ⟨a, c, rfl, h2⟩ := h1 d (.head _)
    obtain ⟨h3, h4⟩ := h2 done
    rw [CompGo_cons]
    refine .two hx hy ?_
    rw [hset]
    refine h3 _ ⟨rfl, fun ht => ?_, fun ht => ?_⟩
    · refine h4 ht _ ⟨rfl, by simp at hl; omega, ?_⟩
      refine cg_go2 Lo hset hx hy t f r (done ++ [f (.tup [a, c])]) (some a) (some c) (by simp at hl ⊢; omega) (fun d' hd' => h1 d' (.tail _ hd')) ?_
      rw [List.filter_cons, if_pos ht] at h
      simpa using h
    · refine cg_go2 Lo hset hx hy t f r done (some a) (some c) (by simp at hl ⊢; omega) (fun d' hd' => h1 d' (.tail _ hd')) ?_
      rw [List.filter_cons, if_neg (by rw [ht]; simp)] at h
      exact h
noncomputable def pcs (m : List (List Nat)) : List Pc := m.zipIdx.map fun p => (List.replicate (p.2 + 1) 32, p.1)
theorem mulS : ∀ p < 6, Txt.mul (Str.ofString " ") ((p : Nat) + 1 : Int) = mk (List.replicate (p + 1) 32) := by decide +kernel
theorem enum_mem {m : List (List Nat)} {d : D} (h : d ∈ enumD (sD m)) : ∃ i, ∃ hi : i < m.length, d = .tup [.int i, .str (mk m[i])] := by
  obtain ⟨i, hi, e⟩ := List.mem_iff_getElem.mp h
  have hi' : i < m.length := by rwa [enumD_len, sD_len] at hi
  refine ⟨i, hi', ?_⟩
  have : (enumD (sD m))[i]? = some (.tup [.int i, .str (mk m[i])]) := by simp [enumD, sD, hi']
  rw [List.getElem?_eq_getElem hi, e] at this
  exact Option.some.inj this
theorem enum_map {α : Type} (m : List (List Nat)) (f : D → α) (g : List Nat × Nat → α) (h : ∀ i, ∀ hi : i < m.length, f (.tup [.int i, .str (mk m[i])]) = g (m[i], i)) : (enumD (sD m)).map f = m.zipIdx.map g := by
  apply List.ext_getElem?
  intro i
  rw [List.getElem?_map, List.getElem?_map, List.getElem?_zipIdx]
  by_cases hi : i < m.length
  · have : (enumD (sD m))[i]? = some (.tup [.int i, .str (mk m[i])]) := by simp [enumD, sD, hi]
    rw [this, List.getElem?_eq_getElem hi]
    simp [h i hi]
  · rw [List.getElem?_eq_none (by rw [enumD_len, sD_len]; omega), List.getElem?_eq_none (by omega)]
    rfl
noncomputable def pcsF (d : D) : D := match d with | .tup [.int i, c] => .tup [.str (mk (List.replicate (i.toNat + 1) 32)), c] | _ => .none
theorem pcs_enum (m : List (List Nat)) : (enumD (sD m)).map pcsF = pD (pcs m) := by
  unfold pD pcs
  rw [List.map_map]
  exact enum_map m _ _ fun i hi => rfl
theorem pds_sD : ∀ m : List (List Nat), pds (sD m) = some (m.map fun s => .str (mk s))
  | [] => rfl
  | a :: r => by
    have := pds_sD r
    simp only [sD] at this
    simp [sD, pds, pd, this]
theorem pds_pD : ∀ q : List Pc, pds (pD q) = some (q.map fun p => .tuple [.str (mk p.1), .str (mk p.2)])
  | [] => rfl
  | a :: r => by
    have := pds_pD r
    simp only [pD] at this
    simp [pD, pds, pd, this]
theorem canAll {α : Type} (f : α → PyData) : ∀ l : List α, (∀ x ∈ l, PyData.canLay0 (f x) = true) → PyData.canLayAll0 (l.map f) = true
  | [], _ => rfl
  | a :: r, h => by
    rw [List.map_cons]
    unfold PyData.canLayAll0
    rw [h a (.head _), canAll f r fun x hx => h x (.tail _ hx)]; rfl
theorem depAll {α : Type} (f : α → PyData) (b : Nat) : ∀ l : List α, (∀ x ∈ l, PyData.depth (f x) ≤ b) → PyData.depthAll (l.map f) ≤ b
  | [], _ => by simp [PyData.depthAll]
  | a :: r, h => by
    rw [List.map_cons]
    unfold PyData.depthAll
    exact Nat.max_le.mpr ⟨h a (.head _), depAll f b r fun x hx => h x (.tail _ hx)⟩
theorem eqvAll_self {α : Type} (f : α → PyData) : ∀ l : List α, (∀ x ∈ l, PyData.eqv (f x) (f x) = true) → PyData.eqvAll (l.map f) (l.map f) = true
  | [], _ => by simp [PyData.eqvAll]
  | a :: r, h => by
    rw [List.map_cons]
    unfold PyData.eqvAll
    rw [h a (.head _), eqvAll_self f r fun x hx => h x (.tail _ hx)]; rfl
theorem shaped_sD {m : List (List Nat)} (h : ∀ s ∈ m, ∀ c ∈ s, c < 128) : SeqAt.shaped (.list (m.map fun s => .str (mk s))) = true := by
  unfold SeqAt.shaped
  rw [Bool.and_eq_true, decide_eq_true_eq]
  refine ⟨?_, ?_⟩
  · unfold PyData.canLay0
    exact canAll _ m fun s hs => by simp [PyData.canLay0, strOk_mk (h s hs)]
  · unfold PyData.depth
    have := depAll (fun s => PyData.str (mk s)) 0 m fun s hs => by simp [PyData.depth]
    omega
theorem shaped_pD {q : List Pc} (h : ∀ p ∈ q, AscP p) : SeqAt.shaped (.list (q.map fun p => .tuple [.str (mk p.1), .str (mk p.2)])) = true := by
  unfold SeqAt.shaped
  rw [Bool.and_eq_true, decide_eq_true_eq]
  refine ⟨?_, ?_⟩
  · unfold PyData.canLay0
    exact canAll _ q fun p hp => by
      have := h p hp
      simp [PyData.canLay0, PyData.canLayAll0, strOk_mk this.1, strOk_mk this.2.1]
  · unfold PyData.depth
    have := depAll (fun p : Pc => PyData.tuple [.str (mk p.1), .str (mk p.2)]) 1 q fun s hs => by simp [PyData.depth, PyData.depthAll]
    omega
theorem c_eql {P : PCtx} {o : List O} {Q : Post} {a b : Nat} {m : List (List Nat)} (hK : P.K = KK) (e1 : o[a]? = some (.list (sD m))) (e2 : o[b]? = some (.list (sD m))) (h : ∀ s ∈ m, ∀ c ∈ s, c < 128) (hq : Q (.bool true) o) : cmpF P .Eq (.obj a) (.obj b) o Q := by
  refine .other ?_
  rw [hK]
  have p1 : ∀ x, o[x]? = some (.list (sD m)) → pdo o (.obj x) = some (.list (m.map fun s => .str (mk s))) := fun x e => by
    show (match o[x]? with | some (.list l) => (match pds l with | some r => some (PyData.list r) | none => none) | _ => none) = _
    rw [e]
    show (match pds (sD m) with | some r => some (PyData.list r) | none => none) = _
    rw [pds_sD]
  refine .eq (p1 a e1) (p1 b e2) (shaped_sD h) (shaped_sD h) ?_
  have : PyData.eqv (.list (m.map fun s => .str (mk s))) (.list (m.map fun s => .str (mk s))) = true := by
    unfold PyData.eqv
    exact eqvAll_self _ m fun s hs => by simp [PyData.eqv]
  rw [this]; exact hq
theorem c_nel {P : PCtx} {o : List O} {Q : Post} {a b : Nat} {q : List Pc} (hK : P.K = KK) (e1 : o[a]? = some (.list (pD q))) (e2 : o[b]? = some (.list (pD q))) (h : ∀ p ∈ q, AscP p) (hq : Q (.bool false) o) : cmpF P .NotEq (.obj a) (.obj b) o Q := by
  refine .other ?_
  rw [hK]
  have p1 : ∀ x, o[x]? = some (.list (pD q)) → pdo o (.obj x) = some (.list (q.map fun p => .tuple [.str (mk p.1), .str (mk p.2)])) := fun x e => by
    show (match o[x]? with | some (.list l) => (match pds l with | some r => some (PyData.list r) | none => none) | _ => none) = _
    rw [e]
    show (match pds (pD q) with | some r => some (PyData.list r) | none => none) = _
    rw [pds_pD]
  refine .ne (p1 a e1) (p1 b e2) (shaped_pD h) (shaped_pD h) ?_
  have : PyData.eqv (.list (q.map fun p => .tuple [.str (mk p.1), .str (mk p.2)])) (.list (q.map fun p => .tuple [.str (mk p.1), .str (mk p.2)])) = true := by
    unfold PyData.eqv
    exact eqvAll_self _ q fun s hs => by simp [PyData.eqv, PyData.eqvAll]
  rw [this]; exact hq

open PySem PySem.W PySem.Spec PySem.Calls PyProof.Rows
set_option Elab.async false
set_option maxRecDepth 100000
set_option linter.unusedVariables false
set_option linter.unusedSimpArgs false
set_option maxHeartbeats 1000000

noncomputable def nextM (m : List (List Nat)) : List (List Nat) := (toldF (stopsF m 6) (m.map mk)).map fun x => x.cps.toList
theorem nextM_sD (m : List (List Nat)) : strsD (toldF (stopsF m 6) (m.map mk)) = sD (nextM m) := by
  unfold strsD sD nextM
  rw [List.map_map]; rfl
noncomputable def goneE (m : List (List Nat)) : List Pc := (nextM m).map fun c => ((pcs m)[m.idxOf c]?).getD ([], [])
noncomputable def stopOf (m : List (List Nat)) (c : List Nat) : Int := keyI (stopsF m 6) (mk c)
noncomputable def restE (m : List (List Nat)) : List Nat := (((pcs m).filter fun p => stopOf m p.2 == 6).map fun p => p.1 ++ p.2).flatten
noncomputable def rightI (m : List (List Nat)) : Int := (m.zipIdx.map fun p => stopOf m p.1 - (p.2 : Int) - 1).sum
noncomputable def wf (m : List (List Nat)) : Bool := m.length == 6 && (List.range 6).all (fun k => m.contains [97 + k]) && m.all (fun c => c.length == 1 && c.all (· < 128) && (match dget (stopsF m 6) (mk c) with | some (.int _) => true | _ => false)) && (marksOut (pl m) 5).all (· < 128)
noncomputable def stepOk (i : Nat) (m : List (List Nat)) : Bool := decide ((pileF (pcs m)).2 ++ (pileF (pcs m)).1 = goneE m) && decide (restF (pileF (pcs m)).1 = restE m) && decide (0 ≤ rightI m) && decide (rightI m < 1000) && decide (levL (marksOut (pl m) 5) (marksOut (pl (nextM m)) 5) (rightI m + ((i : Int) % 2)) = rightI m) && decide ((wS (nextM m)).2 = (wS m).2 - rightI m) && wf (nextM m)
noncomputable def sorted6 : List (List Nat) := [[97], [98], [99], [100], [101], [102]]
noncomputable def good : Nat → Nat → List (List Nat) → Bool
  | 0, _, m => decide ((wS m).2 = 0 ∧ m = sorted6)
  | k + 1, i, m => decide ((wS m).2 = 0 ∧ m = sorted6) || (decide ((wS m).2 ≠ 0) && stepOk i m && good k (i + 1) (nextM m))
noncomputable def pileC : CT := fun a ds kw o Q => a = 173 ∧ kw = [] ∧ ∃ n q, ds = [.obj n] ∧ o[n]? = some (.list (pD q)) ∧ q.length ≤ 20 ∧ (∀ p ∈ q, AscP p) ∧ Q (.tup [.obj (o.length + 2), .str (mk (restF (pileF q).1)), .tup [.str (mk []), .str (mk [])]]) (pst o [] ((pileF q).2 ++ (pileF q).1))
structure PassC (C : CT) : Prop where
  marks : ∀ a ds kw o Q, marksC a ds kw o Q → C a ds kw o Q
  wrong : ∀ a ds kw o Q, wrongC a ds kw o Q → C a ds kw o Q
  stops : ∀ a ds kw o Q, stopsC a ds kw o Q → C a ds kw o Q
  laid : ∀ a ds kw o Q, laidC a ds kw o Q → C a ds kw o Q
  pile : ∀ a ds kw o Q, pileC a ds kw o Q → C a ds kw o Q
  lev : ∀ a ds kw o Q, levC a ds kw o Q → C a ds kw o Q
theorem wf_mem {m : List (List Nat)} (h : wf m = true) : m.length = 6 ∧ (∀ k < 6, [97 + k] ∈ m) ∧ (∀ c ∈ m, (c.length = 1 ∧ (∀ x ∈ c, x < 128)) ∧ dget (stopsF m 6) (mk c) = some (.int (stopOf m c))) ∧ ∀ c ∈ marksOut (pl m) 5, c < 128 := by
  unfold wf at h
  simp only [Bool.and_eq_true, beq_iff_eq, List.all_eq_true, decide_eq_true_eq] at h
  obtain ⟨⟨⟨h1, h2⟩, h3⟩, h4⟩ := h
  refine ⟨h1, fun k hk => ?_, fun c hc => ?_, h4⟩
  · have := h2 k (List.mem_range.mpr hk)
    simpa using this
  · obtain ⟨⟨a, b⟩, e⟩ := h3 c hc
    refine ⟨⟨a, b⟩, ?_⟩
    unfold stopOf keyI
    cases hk : dget (stopsF m 6) (mk c) with
    | none => rw [hk] at e; cases e
    | some d => cases d with
      | int k => rfl
      | _ => rw [hk] at e; cases e
theorem pcs_asc {m : List (List Nat)} (h : wf m = true) : ∀ p ∈ pcs m, AscP p := by
  obtain ⟨h1, _, h3, _⟩ := wf_mem h
  intro p hp
  obtain ⟨⟨c, i⟩, hq, rfl⟩ := List.mem_map.mp hp
  obtain ⟨hi, e⟩ := List.mem_zipIdx' hq
  have hc : c ∈ m := by rw [e]; exact List.getElem_mem _
  obtain ⟨⟨a, b⟩, _⟩ := h3 c hc
  refine ⟨fun x hx => ?_, b, ?_, by show c.length ≤ 100; omega⟩
  · have := List.eq_of_mem_replicate hx; omega
  · show (List.replicate (i + 1) 32).length ≤ 100
    rw [List.length_replicate]; omega
theorem pcs_len (m : List (List Nat)) : (pcs m).length = m.length := by simp [pcs]
theorem r_enumi {P : PCtx} {loc : Loc} {o : List O} {f y : Str} {t : Expr} {p0 p1 p2 : Pos} {n : Nat} {l : List D} {K : List D → Grd → List O → Prop} (hf : nameF P loc f = some (.fn (.type "enumerate"))) (ht : isTupE t = true) (hn : nameF P loc y = some (.obj n)) (ho : o[n]? = some (.list l))
    (h : K (enumD l) (some (n, l)) o) : WI P t (.Call (.Name f p0) [.Name y p1] [] p2) loc o K := .enum hf (by rw [ht]; rfl) (r_esc (r_name hn (r_esn (.lst ho h))))
theorem nextM_mem {m : List (List Nat)} {c : List Nat} (h : c ∈ nextM m) : c ∈ m := by
  obtain ⟨x, hx, rfl⟩ := List.mem_map.mp h
  have hx2 : x ∈ toldF (stopsF m 6) ((m.map mk).take (m.map mk).length) := by rw [List.take_length]; exact hx
  have := told_mem _ x hx2
  obtain ⟨y, hy, rfl⟩ := List.mem_map.mp this
  exact hy
noncomputable def goneG (m : List (List Nat)) (d : D) : D := match d with | .str x => pc (((pcs m)[m.idxOf x.cps.toList]?).getD ([], [])) | _ => .none
theorem gone_map (m : List (List Nat)) : (sD (nextM m)).map (goneG m) = pD (goneE m) := by
  unfold sD pD goneE
  rw [List.map_map, List.map_map]; rfl
theorem idx_lt {m : List (List Nat)} {c : List Nat} (h : c ∈ m) : m.idxOf c < m.length := List.idxOf_lt_length_iff.mpr h
theorem m_join {P : PCtx} {o : List O} {x : Str} {K : Value → Prop} (h : K (.builtin "str.join")) : MethK (methV P (.str x) o (Str.ofString "join")) K := m_go (by simp [methV, ofString_eq]) h
theorem g_dict {P : PCtx} {o : List O} {Q : Post} {n : Nat} {x : Str} {l : List (Str × D)} {d : D} (hJ : P.J = JJ) (e : o[n]? = some (.dict l)) (hd : dget l x = some d) (h : Q d o) : getF P (.obj n) (.str x) o Q := .other (by rw [hJ]; exact .mk e hd h)
theorem b_join {P : PCtx} {o : List O} {Q : Post} {n : Nat} {L : List (List Nat)} (hB : P.B = BB) (e : o[n]? = some (.list (sD L))) (hl : L.length ≤ 100) (hs : ∀ s ∈ L, s.length ≤ 1000) (h : Q (.str (mk L.flatten)) o) : callF P (.builtin "str.join") [.str (Str.ofString ""), .obj n] [] o Q := by
  refine ⟨rfl, .other ?_⟩
  rw [hB]
  refine .join e (by rw [sD_strs, allD_strs]) ?_ (by rw [join_mk]; exact h)
  rw [List.map_map, List.length_map]
  have := sum_le (l := L.map ((fun x => Str.length x) ∘ mk)) (b := 1000) (fun x hx => by
    obtain ⟨s, hs', rfl⟩ := List.mem_map.mp hx
    simp only [Function.comp_apply, mk_length]; exact hs s hs')
  simp only [List.length_map] at this
  have e2 : (Str.ofString "").length = 0 := rfl
  rw [e2, Nat.mul_zero, Nat.add_zero]
  exact Nat.le_trans this (by omega)
noncomputable def restT (m : List (List Nat)) (d : D) : Bool := match d with | .tup [.str _, .str c] => stopOf m c.cps.toList == 6 | _ => false
noncomputable def restG (d : D) : D := match d with | .tup [.str b, .str c] => .str (b ++ c) | _ => .none
theorem rest_map (m : List (List Nat)) : ((pD (pcs m)).filter (restT m)).map restG = sD (((pcs m).filter fun p => stopOf m p.2 == 6).map fun p => p.1 ++ p.2) := by
  unfold pD sD
  rw [List.filter_map, List.map_map, List.map_map]
  have e : (restT m ∘ fun p : Pc => D.tup [.str (mk p.1), .str (mk p.2)]) = fun p => stopOf m p.2 == 6 := by
    funext p; rfl
  rw [e]
  apply List.map_congr_left
  intro p _
  show D.str (mk p.1 ++ mk p.2) = D.str (mk (p.1 ++ p.2))
  rw [mk_append]
theorem pcs_get {m : List (List Nat)} {p : Pc} (h : p ∈ pcs m) : p.2 ∈ m := by
  obtain ⟨⟨c, i⟩, hq, rfl⟩ := List.mem_map.mp h
  obtain ⟨hi, e⟩ := List.mem_zipIdx' hq
  rw [e]; exact List.getElem_mem _
noncomputable def rightG (m : List (List Nat)) (d : D) : D := match d with | .tup [.int i, .str c] => .int (stopOf m c.cps.toList - i - 1) | _ => .none
theorem right_map (m : List (List Nat)) : (enumD (sD m)).map (rightG m) = (m.zipIdx.map fun p => stopOf m p.1 - (p.2 : Int) - 1).map D.int := by
  rw [List.map_map]
  exact enum_map m _ _ fun i hi => rfl
theorem b_stri {P : PCtx} {o : List O} {Q : Post} {a : Int} (hB : P.B = BB) (ha : a.natAbs < 2 ^ 60) (h : Q (.str (Str.ofString (toString a))) o) : callF P (.type "str") [.int a] [] o Q := ⟨rfl, .other (by rw [hB]; exact .ofInt ha h)⟩
theorem c_nesame {P : PCtx} {o : List O} {Q : Post} {x : Str} (h : Q (.bool false) o) : cmpF P .NotEq (.str x) (.str x) o Q := by
  refine .nes ?_
  rw [bne_self_eq_false]; exact h
theorem r_forB {P : PCtx} {loc : Loc} {o : List O} {QS : SPost} {x : Str} {xp : Pos} {b : List Stmt} {items : List D} {g : Grd} (hk : kindOk P x = true) (I : Nat → Loc → List O → Prop) (J : Loc → List O → Prop) (h0 : I 0 loc o) (hg : ∀ i loc o, I i loc o → GuardOk g items o)
    (step : ∀ QN : Loc → List O → Prop, (∀ loc o, J loc o → QN loc o) → ∀ i d loc o, items[i]? = some d → I i loc o → WSs P b (setLo loc x d) o (ForQ (I (i + 1)) QN QS))
    (hI : ∀ loc o, I items.length loc o → J loc o) (hJ : ∀ loc o, J loc o → QS .next loc o) : ForW (asgF P (.Name x xp)) (WSs P b) items g loc o QS := r_fora hk I h0 hg (fun _ => step (QS .next) hJ) (fun loc o h => hJ _ _ (hI _ _ h))
theorem app_get {o : List O} {n : Nat} {x : O} (h : o[n]? = some x) (r : List O) : (o ++ r)[n]? = some x := by rw [List.getElem?_append_left (List.getElem?_eq_some_iff.mp h).1]; exact h
noncomputable def passL : CT := COr (COr (COr marksC wrongC) (COr stopsC laidC)) (COr pileC levC)
namespace PasN
noncomputable abbrev C : CT := passL
noncomputable abbrev M : (Str → Option Value) := noM
noncomputable abbrev E : (Env → Prop) := anyE
theorem hC : PassC C := ⟨fun _ _ _ _ _ h => .inl (.inl (.inl h)), fun _ _ _ _ _ h => .inl (.inl (.inr h)), fun _ _ _ _ _ h => .inl (.inr (.inl h)), fun _ _ _ _ _ h => .inl (.inr (.inr h)), fun _ _ _ _ _ h => .inr (.inl h), fun _ _ _ _ _ h => .inr (.inr h)⟩
end PasN
noncomputable abbrev InvPasses1 (n : Nat) (o : List O) (i : Nat) (loc : Loc) (o' : List O) : Prop := ∃ nO m g, o' = o ++ g ∧ o'[nO]? = some (.list (sD m)) ∧ wf m = true ∧ good (5 - i) i m = true ∧ ∃ v1 v2 v3 v4 v5 v6 v7 v8 v9 v10, loc = [(Str.ofString "first", some (.obj n)), (Str.ofString "order", some (.obj nO)), (Str.ofString "marks", some (.str (mk (marksOut (pl m) 5)))), (Str.ofString "left", some (.int (wS m).2)), (Str.ofString "turn", v1), (Str.ofString "stops", v2), (Str.ofString "told", v3), (Str.ofString "pieces", v4), (Str.ofString "gone", v5), (Str.ofString "rest", v6), (Str.ofString "last", v7), (Str.ofString "righted", v8), (Str.ofString "behind", v9), (Str.ofString "apart", v10)]
noncomputable abbrev InvPasses2 (n : Nat) (o : List O) (loc : Loc) (o' : List O) : Prop := ∃ nO m g, o' = o ++ g ∧ o'[nO]? = some (.list (sD m)) ∧ wf m = true ∧ m = sorted6 ∧ (wS m).2 = 0 ∧ ∃ v1 v2 v3 v4 v5 v6 v7 v8 v9 v10, loc = [(Str.ofString "first", some (.obj n)), (Str.ofString "order", some (.obj nO)), (Str.ofString "marks", some (.str (mk (marksOut (pl m) 5)))), (Str.ofString "left", some (.int (wS m).2)), (Str.ofString "turn", v1), (Str.ofString "stops", v2), (Str.ofString "told", v3), (Str.ofString "pieces", v4), (Str.ofString "gone", v5), (Str.ofString "rest", v6), (Str.ofString "last", v7), (Str.ofString "righted", v8), (Str.ofString "behind", v9), (Str.ofString "apart", v10)]
open PasN in
theorem passes_W (w : World) : PySem.Challenge.rw_re0083_01.prog = PySem.Challenge.rw_re0083_01.prog → ∃ fd body sc, (FnD (hd1.heap_1 w.params) 178 fd body ∧ fd.scope.names = sc ∧ ndOk sc = true ∧ (∀ x ∈ [Str.ofString "first"], lkS sc x = some .local ∨ lkS sc x = some .cell) ∧ ∀ a, bindArgs fd ⟨[a], []⟩ = pure [(Str.ofString "first", a)]) ∧
    ∀ (n : Nat) (m : List (List Nat)) (o : List O), o[n]? = some (.list (sD m)) → wf m = true → good 5 0 m = true →
    WSs ⟨sc, Gl, C, M, BB, KK, JJ, XX ⟨sc, Gl, C, M, BB, KK, JJ, fun _ _ _ _ => False, fun _ _ _ _ => False, E⟩, fun st loc o Q => YY ⟨sc, Gl, C, M, BB, KK, JJ, fun _ _ _ _ => False, fun _ _ _ _ => False, E⟩ st loc o Q ∨ noZ st loc o Q, E⟩ body [(Str.ofString "first", some (.obj n)), (Str.ofString "order", none), (Str.ofString "marks", none), (Str.ofString "left", none), (Str.ofString "turn", none), (Str.ofString "stops", none), (Str.ofString "told", none), (Str.ofString "pieces", none), (Str.ofString "gone", none), (Str.ofString "rest", none), (Str.ofString "last", none), (Str.ofString "righted", none), (Str.ofString "behind", none), (Str.ofString "apart", none)] o (fun fl _ o' => retD fl = .bool true ∧ ∃ g, o' = o ++ g) := by
  k_fill
  intro _
  refine ⟨_, _, _, ⟨⟨⟨_, _, _, by k_is⟩, ⟨_, _, _, _, _, _, rfl, by k_is, rfl⟩, rfl, rfl, rfl, rfl, rfl, rfl, rfl⟩, rfl, by decide, by decide, fun _ => rfl⟩, ?_⟩
  intro n m o ho hwf hgood
  obtain ⟨hm6, hma, hmk, hmas⟩ := wf_mem hwf
  repeat (with_reducible first | apply r_cons | apply r_seq | apply r_esc | apply r_esn | apply r_ksn | apply b_fn | (apply r_name; (case kn => walk_at "N")) | (apply r_assign; (case ka => (refine ⟨?_, fun _ _ _ => rfl⟩; walk_at "N")); (case kk => walk_at "K")) | (apply r_call; (case kn => walk_at "N"); (case km => walk_at "N")))
  refine hC.marks _ _ _ _ _ ⟨rfl, rfl, n, m, rfl, ho, hm6, hma, fun g => ?_⟩
  repeat (with_reducible first | apply r_cons | apply r_seq | apply r_esc | apply r_esn | apply r_ksn | apply b_fn | (apply r_name; (case kn => walk_at "N")) | (apply r_assign; (case ka => (refine ⟨?_, fun _ _ _ => rfl⟩; walk_at "N")); (case kk => walk_at "K")) | (apply r_call; (case kn => walk_at "N"); (case km => walk_at "N")))
  have ho1 : (o ++ g)[n]? = some (.list (sD m)) := by rw [List.getElem?_append_left (List.getElem?_eq_some_iff.mp ho).1]; exact ho
  refine hC.wrong _ _ _ _ _ ⟨rfl, rfl, n, m, rfl, ho1, by omega, ?_⟩
  repeat (with_reducible first | apply r_cons | apply r_seq)
  refine r_cons (r_forr (by walk_at "N") rfl ?_)
  repeat (with_reducible first | apply r_int)
  refine rng_one ⟨by omega, ?_⟩
  refine r_forB (by walk_at "N") (InvPasses1 n o)
    (InvPasses2 n o)
    ⟨n, m, g ++ [.list (sD (wS m).1)], by simp, app_get ho1 _, hwf, hgood, _, _, _, _, _, _, _, _, _, _, rfl⟩ (fun _ _ _ _ => trivial) ?_ ?_ ?_
  · rintro QN hJ i dd _ _ hi ⟨nO, m, g, rfl, hob, hwf, hgood, v1, v2, v3, v4, v5, v6, v7, v8, v9, v10, rfl⟩
    have hil : i < 5 := by
      have := (List.getElem?_eq_some_iff.mp hi).1
      simpa [rangeD] using this
    have hdd : dd = .int (i : Int) := by
      have : (rangeD 0 5)[i]? = some (.int (i : Int)) := by simp [rangeD, hil]
      rw [this] at hi; cases hi; rfl
    subst hdd
    obtain ⟨k, hk⟩ : ∃ k, 5 - i = k + 1 := ⟨4 - i, by omega⟩
    have hk' : 5 - (i + 1) = k := by omega
    rw [hk] at hgood
    obtain ⟨hm6, hma, hmk, hmas⟩ := wf_mem hwf
    simp only [good, Bool.or_eq_true, Bool.and_eq_true, decide_eq_true_eq] at hgood
    walk_at "L"
    repeat (with_reducible first | apply r_cons | apply r_int | apply c_eqi | apply t_bool | (apply r_name; (case kn => walk_at "N")) | (apply r_tcmp; (case kn => walk_at "N")) | apply r_if)
    refine ⟨fun hl => ?_, fun hl => ?_⟩
    · have hl' : (wS m).2 = 0 := by simpa using hl
      have hs : m = sorted6 := by
        rcases hgood with h | h
        · exact h.2
        · exact absurd hl' h.1.1
      repeat (with_reducible first | apply r_cons | apply r_seqb | apply r_break)
      exact hJ _ _ ⟨nO, m, g, rfl, hob, hwf, hs, hl', _, _, _, _, _, _, _, _, _, _, rfl⟩
    have hl' : ¬ (wS m).2 = 0 := by simpa using hl
    obtain ⟨⟨_, hst⟩, hgo⟩ : ((wS m).2 ≠ 0 ∧ stepOk i m = true) ∧ good k (i + 1) (nextM m) = true := by
      rcases hgood with h | h
      · exact absurd h.1 hl'
      · exact h
    unfold stepOk at hst
    simp only [Bool.and_eq_true, decide_eq_true_eq] at hst
    obtain ⟨⟨⟨⟨⟨⟨s1, s2⟩, s3⟩, s4⟩, s5⟩, s6⟩, s7⟩ := hst
    obtain ⟨hn6, hna, hnk, hnas⟩ := wf_mem s7
    repeat (with_reducible first | apply r_cons | apply r_seq | apply r_esc | apply r_esn | apply r_ksn | apply b_fn | apply r_nil | (apply r_name; (case kn => walk_at "N")) | (apply r_assign; (case ka => (refine ⟨?_, fun _ _ _ => rfl⟩; walk_at "N")); (case kk => walk_at "K")) | (apply r_call; (case kn => walk_at "N"); (case km => walk_at "N")))
    refine hC.stops _ _ _ _ _ ⟨rfl, rfl, nO, m, rfl, hob, hm6, fun g1 => ?_⟩
    repeat (with_reducible first | apply r_cons | apply r_seq | apply r_esc | apply r_esn | apply r_ksn | apply b_fn | (apply r_name; (case kn => walk_at "N")) | (apply r_assign; (case ka => (refine ⟨?_, fun _ _ _ => rfl⟩; walk_at "N")); (case kk => walk_at "K")) | (apply r_call; (case kn => walk_at "N"); (case km => walk_at "N")))
    generalize ho0 : o ++ g = ob at hob
    have hS : (ob ++ [O.dict (stopsF m 6)] ++ g1)[ob.length]? = some (.dict (stopsF m 6)) := by simp
    generalize hS1 : ob ++ [O.dict (stopsF m 6)] ++ g1 = oc at hS
    have hoc : oc[nO]? = some (.list (sD m)) := by rw [← hS1]; exact app_get (app_get hob _) _
    have hsm : sD m = strsD (m.map mk) := sD_strs m
    refine hC.laid _ _ _ _ _ ⟨rfl, rfl, nO, ob.length, m.map mk, stopsF m 6, rfl, by rw [← hsm]; exact hoc, hS, by rw [List.length_map]; omega, fun z hz => ?_, ?_⟩
    · obtain ⟨c, hc, rfl⟩ := List.mem_map.mp hz
      exact ⟨_, (hmk c hc).2⟩
    rw [nextM_sD]
    repeat (with_reducible first | apply r_cons | apply r_seq | (apply r_assign; (case ka => (refine ⟨?_, fun _ _ _ => rfl⟩; walk_at "N")); (case kk => walk_at "K")))
    have hT : (oc ++ [O.list (sD (nextM m))])[oc.length]? = some (.list (sD (nextM m))) := by simp
    generalize hS2 : oc ++ [O.list (sD (nextM m))] = od at hT
    have hod : od[nO]? = some (.list (sD m)) := by rw [← hS2]; exact app_get hoc _
    have hSd : od[ob.length]? = some (.dict (stopsF m 6)) := by rw [← hS2]; exact app_get hS _
    refine r_cons (r_acomp rfl (by walk_at "N") (.mk rfl (fun _ _ => rfl) ?_))
    refine r_enumi (n := nO) (l := sD m) (by walk_at "N") rfl (by walk_at "N") hod ⟨hod, ?_⟩
    walk_at "L"
    refine cg_go2 (P := ⟨[(Str.ofString ".0", .local), (Str.ofString "place", .local), (Str.ofString "card", .local)], Gl, C, M, BB, KK, JJ, fun _ _ _ _ => False, fun _ _ _ _ => False, fun _ => True⟩) (fun u v => [(Str.ofString ".0", none), (Str.ofString "place", u), (Str.ofString "card", v)])
      (fun u v a c => by simp only [setLo, ofString_eq, String.reduceEq, if_true, if_false]) (by simp only [lkS, ofString_eq, String.reduceEq, if_true, if_false]) (by simp only [lkS, ofString_eq, String.reduceEq, if_true, if_false]) (fun _ => true) pcsF _ _ none none (by rw [enumD_len, sD_len]; simp; omega) (fun d hd => ?_) ?_
    · obtain ⟨j, hj, rfl⟩ := enum_mem hd
      refine ⟨_, _, rfl, fun done' => ⟨fun K hK => hK, fun _ K hK => ?_⟩⟩
      refine r_tuple rfl ?_
      repeat (with_reducible first | apply r_int | apply r_str | apply r_bin | apply r_esc | apply q_add | (apply r_name; (case kn => walk_at "N")))
      refine .muls (by decide) (by omega) (by omega) ?_
      rw [mulS j (by omega)]
      repeat (with_reducible first | apply r_esc | apply r_esn | (apply r_name; (case kn => walk_at "N")))
      exact ⟨by simp, hK⟩
    rw [List.nil_append, List.filter_eq_self.mpr (fun _ _ => rfl), pcs_enum]
    have hP : (od ++ [O.list (pD (pcs m))])[od.length]? = some (.list (pD (pcs m))) := by simp
    generalize hS3 : od ++ [O.list (pD (pcs m))] = oe at hP
    have hoe : oe[nO]? = some (.list (sD m)) := by rw [← hS3]; exact app_get hod _
    have hSe : oe[ob.length]? = some (.dict (stopsF m 6)) := by rw [← hS3]; exact app_get hSd _
    have hTe : oe[oc.length]? = some (.list (sD (nextM m))) := by rw [← hS3]; exact app_get hT _
    repeat (with_reducible first | apply r_cons | apply r_seq)
    refine r_tup ?_
    repeat (with_reducible first | apply r_esc | apply r_esn | apply r_ksn | apply b_fn | (apply r_name; (case kn => walk_at "N")) | (apply r_call; (case kn => walk_at "N"); (case km => walk_at "N")))
    refine hC.pile _ _ _ _ _ ⟨rfl, rfl, od.length, pcs m, rfl, hP, by rw [pcs_len]; omega, pcs_asc hwf, ?_⟩
    refine .three rfl ?_
    walk_at "L"
    rw [s1]
    have hG : (pst oe [] (goneE m))[oe.length + 2]? = some (.list (pD (goneE m))) := pst_g ..
    have hpst : pst oe [] (goneE m) = oe ++ [.idict, .acc (pD ([] : List Pc).reverse) oe.length, .list (pD (goneE m))] := rfl
    generalize hS4 : pst oe [] (goneE m) = og at hG hpst
    have hog : og[nO]? = some (.list (sD m)) := by rw [hpst]; exact app_get hoe _
    have hSg : og[ob.length]? = some (.dict (stopsF m 6)) := by rw [hpst]; exact app_get hSe _
    have hTg : og[oc.length]? = some (.list (sD (nextM m))) := by rw [hpst]; exact app_get hTe _
    have hPg : og[od.length]? = some (.list (pD (pcs m))) := by rw [hpst]; exact app_get hP _
    repeat (with_reducible first | apply r_cons | apply r_seq | apply r_tor | apply r_torc | (apply r_name; (case kn => walk_at "N")) | (apply r_tcmp; (case kn => walk_at "N")) | apply r_if)
    refine r_compx rfl (.mk rfl (fun _ _ => rfl) (.seq (fun _ _ => rfl) ?_))
    repeat (with_reducible first | (apply r_name; (case kn => walk_at "N")))
    refine .lst hTg rfl ⟨hTg, ?_⟩
    walk_at "L"
    refine cg_go (P := ⟨[(Str.ofString ".0", .local), (Str.ofString "card", .local), (Str.ofString "order", .cell), (Str.ofString "pieces", .cell)], Gl, C, M, BB, KK, JJ, fun _ _ _ _ => False, fun _ _ _ _ => False, fun _ => True⟩) (fun v => [(Str.ofString ".0", none), (Str.ofString "card", v), (Str.ofString "order", some (.obj nO)), (Str.ofString "pieces", some (.obj od.length))])
      (fun v d => by simp only [setLo, ofString_eq, String.reduceEq, if_true, if_false]) (by simp only [lkS, ofString_eq, String.reduceEq, if_true, if_false]) (fun _ => true) (goneG m) _ _ none (by rw [sD_len, hn6]; simp) (fun d hd done' K hK => hK) (fun d hd _ done' K hK => ?_) ?_
    · obtain ⟨c, hc, rfl⟩ := List.mem_map.mp hd
      have hcm := nextM_mem hc
      have hlt := idx_lt hcm
      repeat (with_reducible first | apply r_subk | (apply r_name; (case kn => walk_at "N")) | (apply r_methd; (case ka => (refine ⟨fun _ _ _ => rfl, ?_⟩; walk_at "N"))))
      refine m_list (app_get hog _) rfl ?_
      repeat (with_reducible first | apply r_esc | apply r_esn | (apply r_name; (case kn => walk_at "N")))
      refine b_index (m := m) (c := c) rfl (app_get hog _) (by omega) hcm ?_
      have hlt2 : m.idxOf c < (pcs m).length := by rw [pcs_len]; exact hlt
      refine g_list (app_get hPg _) rfl (by rw [pD_len, pcs_len]; omega) (pD_get hlt2) ?_
      have e : goneG m (.str (mk c)) = .tup [.str (mk (pcs m)[m.idxOf c].1), .str (mk (pcs m)[m.idxOf c].2)] := by
        show pc (((pcs m)[m.idxOf c]?).getD ([], [])) = _
        rw [List.getElem?_eq_getElem hlt2]; rfl
      rw [← e]; exact hK
    rw [List.nil_append, List.filter_eq_self.mpr (fun _ _ => rfl), gone_map]
    have hga : ∀ p ∈ goneE m, AscP p := fun p hp => by
      obtain ⟨c, hc, rfl⟩ := List.mem_map.mp hp
      have hlt2 : m.idxOf c < (pcs m).length := by rw [pcs_len]; exact idx_lt (nextM_mem hc)
      rw [List.getElem?_eq_getElem hlt2]
      exact pcs_asc hwf _ (List.getElem_mem hlt2)
    refine c_nel (q := goneE m) rfl (app_get hG _) (by rw [List.getElem?_concat_length]) hga ?_
    generalize hS5 : og ++ [O.list (pD (goneE m))] = oh
    have hoh : oh[nO]? = some (.list (sD m)) := by rw [← hS5]; exact app_get hog _
    have hSh : oh[ob.length]? = some (.dict (stopsF m 6)) := by rw [← hS5]; exact app_get hSg _
    have hTh : oh[oc.length]? = some (.list (sD (nextM m))) := by rw [← hS5]; exact app_get hTg _
    have hPh : oh[od.length]? = some (.list (pD (pcs m))) := by rw [← hS5]; exact app_get hPg _
    repeat (with_reducible first | apply lit_f | apply r_torc | apply t_bool | (apply r_name; (case kn => walk_at "N")) | (apply r_tcmp; (case kn => walk_at "N")))
    refine r_tuple rfl ?_
    repeat (with_reducible first | apply r_str | apply r_esc | apply r_esn)
    refine ⟨by simp, ?_⟩
    refine c_netup (x := []) (y := []) (u := []) (v := []) rfl (by simp) (by simp) (by simp) (by simp) ?_
    show truthP (.bool false) _
    repeat (with_reducible first | apply r_cons | apply lit_f | apply r_seq | apply r_str | apply r_esc | apply r_torn | apply t_bool | apply r_nil | (apply r_name; (case kn => walk_at "N")) | (apply r_tcmp; (case kn => walk_at "N")) | (apply m_str; (case kn => walk_at "N")) | (apply r_methd; (case ka => (refine ⟨fun _ _ _ => rfl, ?_⟩; walk_at "N"))) | apply r_if)
    refine r_compx rfl (.mk rfl (fun _ _ => rfl) (.seq (fun _ _ => rfl) ?_))
    repeat (with_reducible first | (apply r_name; (case kn => walk_at "N")))
    refine .lst hPh rfl ⟨hPh, ?_⟩
    walk_at "L"
    refine cg_go2 (P := ⟨[(Str.ofString ".0", .local), (Str.ofString "blanks", .local), (Str.ofString "card", .local), (Str.ofString "stops", .cell)], Gl, C, M, BB, KK, JJ, fun _ _ _ _ => False, fun _ _ _ _ => False, fun _ => True⟩) (fun u v => [(Str.ofString ".0", none), (Str.ofString "blanks", u), (Str.ofString "card", v), (Str.ofString "stops", some (.obj ob.length))])
      (fun u v a c => by simp only [setLo, ofString_eq, String.reduceEq, if_true, if_false]) (by simp only [lkS, ofString_eq, String.reduceEq, if_true, if_false]) (by simp only [lkS, ofString_eq, String.reduceEq, if_true, if_false]) (restT m) restG _ _ none none (by rw [pD_len, pcs_len]; simp; omega) (fun d hd => ?_) ?_
    · obtain ⟨p, hp, rfl⟩ := List.mem_map.mp hd
      refine ⟨_, _, rfl, fun done' => ⟨fun K hK => ?_, fun _ K hK => ?_⟩⟩
      · show WT _ _ _ _ _
        repeat (with_reducible first | apply r_subn | (apply r_name; (case kn => walk_at "N")) | (apply r_tcmp; (case kn => walk_at "N")))
        refine g_dict rfl (app_get hSh _) (hmk _ (pcs_get hp)).2 ?_
        repeat (with_reducible first | apply r_int | apply c_eqi | apply t_bool)
        exact hK
      · repeat (with_reducible first | apply r_bin | (apply r_name; (case kn => walk_at "N")))
        have := pcs_asc hwf p hp
        refine q_cat (by have h1 := this.2.2.1; have h2 := this.2.2.2; omega) ?_
        have e : restG (.tup [.str (mk p.1), .str (mk p.2)]) = .str (mk (p.1 ++ p.2)) := by rw [← mk_append]; rfl
        rw [← e]; exact hK
    rw [List.nil_append, rest_map]
    repeat (with_reducible first | apply r_esn)
    have hlen3 : (((pcs m).filter fun p => stopOf m p.2 == 6).map fun p => p.1 ++ p.2).length ≤ 100 := by
      rw [List.length_map]
      refine Nat.le_trans (List.length_filter_le _ _) ?_
      rw [pcs_len]; omega
    refine b_join (L := ((pcs m).filter fun p => stopOf m p.2 == 6).map fun p => p.1 ++ p.2) rfl (by rw [List.getElem?_concat_length]) hlen3 (fun s hs => ?_) ?_
    · obtain ⟨p, hp, rfl⟩ := List.mem_map.mp hs
      have := pcs_asc hwf p (List.mem_filter.mp hp).1
      have h1 := this.2.2.1; have h2 := this.2.2.2
      simp only [List.length_append]; omega
    rw [show restF (pileF (pcs m)).1 = restE m from s2]
    refine c_nes ?_
    rw [show (restE m != (((pcs m).filter fun p => stopOf m p.2 == 6).map fun p => p.1 ++ p.2).flatten) = false from by unfold restE; simp]
    generalize hS6 : oh ++ [O.list (sD (((pcs m).filter fun p => stopOf m p.2 == 6).map fun p => p.1 ++ p.2))] = oi
    have hoi : oi[nO]? = some (.list (sD m)) := by rw [← hS6]; exact app_get hoh _
    have hSi : oi[ob.length]? = some (.dict (stopsF m 6)) := by rw [← hS6]; exact app_get hSh _
    have hTi : oi[oc.length]? = some (.list (sD (nextM m))) := by rw [← hS6]; exact app_get hTh _
    repeat (with_reducible first | apply r_cons | apply lit_f | apply r_seq | apply r_esc | apply t_bool | apply r_nil | (apply r_assign; (case ka => (refine ⟨?_, fun _ _ _ => rfl⟩; walk_at "N")); (case kk => walk_at "K")) | (apply r_call; (case kn => walk_at "N"); (case km => walk_at "N")))
    refine r_compx rfl (.mk rfl (fun _ _ => rfl) ?_)
    refine r_enumi (n := nO) (l := sD m) (by walk_at "N") rfl (by walk_at "N") hoi ⟨hoi, ?_⟩
    walk_at "L"
    refine cg_go2 (P := ⟨[(Str.ofString ".0", .local), (Str.ofString "place", .local), (Str.ofString "card", .local), (Str.ofString "stops", .cell)], Gl, C, M, BB, KK, JJ, fun _ _ _ _ => False, fun _ _ _ _ => False, fun _ => True⟩) (fun u v => [(Str.ofString ".0", none), (Str.ofString "place", u), (Str.ofString "card", v), (Str.ofString "stops", some (.obj ob.length))])
      (fun u v a c => by simp only [setLo, ofString_eq, String.reduceEq, if_true, if_false]) (by simp only [lkS, ofString_eq, String.reduceEq, if_true, if_false]) (by simp only [lkS, ofString_eq, String.reduceEq, if_true, if_false]) (fun _ => true) (rightG m) _ _ none none (by rw [enumD_len, sD_len]; simp; omega) (fun d hd => ?_) ?_
    · obtain ⟨j, hj, rfl⟩ := enum_mem hd
      refine ⟨_, _, rfl, fun done' => ⟨fun K hK => hK, fun _ K hK => ?_⟩⟩
      repeat (with_reducible first | apply r_bin | apply r_subn | (apply r_name; (case kn => walk_at "N")))
      refine g_dict rfl (app_get hSi _) (hmk _ (List.getElem_mem hj)).2 ?_
      repeat (with_reducible first | apply r_int | apply q_sub | (apply r_name; (case kn => walk_at "N")))
      exact hK
    rw [List.nil_append, List.filter_eq_self.mpr (fun _ _ => rfl), right_map]
    repeat (with_reducible first | apply r_esn | apply r_ksn)
    refine b_suml (ns := m.zipIdx.map fun p => stopOf m p.1 - (p.2 : Int) - 1) rfl (by rw [List.getElem?_concat_length]) (allD_ints _) ?_
    rw [show (m.zipIdx.map fun p => stopOf m p.1 - (p.2 : Int) - 1).sum = rightI m from rfl]
    generalize hS7 : oi ++ [O.list ((m.zipIdx.map fun p => stopOf m p.1 - (p.2 : Int) - 1).map D.int)] = oj
    have hTj : oj[oc.length]? = some (.list (sD (nextM m))) := by rw [← hS7]; exact app_get hTi _
    repeat (with_reducible first | apply r_cons | apply r_seq | apply r_esc | apply r_esn | apply r_ksn | apply b_fn | (apply r_name; (case kn => walk_at "N")) | (apply r_assign; (case ka => (refine ⟨?_, fun _ _ _ => rfl⟩; walk_at "N")); (case kk => walk_at "K")) | (apply r_call; (case kn => walk_at "N"); (case km => walk_at "N")))
    refine hC.marks _ _ _ _ _ ⟨rfl, rfl, oc.length, nextM m, rfl, hTj, hn6, hna, fun g2 => ?_⟩
    repeat (with_reducible first | apply r_cons | apply r_seq | apply r_int | apply r_bin | apply r_esc | (apply r_name; (case kn => walk_at "N")) | (apply r_assign; (case ka => (refine ⟨?_, fun _ _ _ => rfl⟩; walk_at "N")); (case kk => walk_at "K")) | (apply r_call; (case kn => walk_at "N"); (case km => walk_at "N")))
    refine q_mod (by decide) ?_
    repeat (with_reducible first | apply r_esn | apply r_ksn | apply q_add | apply b_fn)
    have hl15 : ∀ m', (marksOut (pl m') 5).length ≤ 40 := fun m' => by
      have := marksOut_len (pl m') 5
      omega
    refine hC.lev _ _ _ _ _ ⟨rfl, rfl, marksOut (pl m) 5, marksOut (pl (nextM m)) 5, rightI m + (i : Int) % 2, rfl, ⟨hl15 _, hl15 _, hmas, hnas, by omega⟩, ?_⟩
    rw [s5]
    repeat (with_reducible first | apply r_cons | apply r_seq | apply r_esc | apply r_esn | apply r_ksn | apply r_tor | apply r_torc | (apply r_name; (case kn => walk_at "N")) | (apply r_tcmp; (case kn => walk_at "N")) | (apply r_call; (case kn => walk_at "N"); (case km => walk_at "N")) | apply r_if)
    refine b_stri rfl (by omega) ?_
    repeat (with_reducible first | apply r_esc | apply r_esn | apply r_ksn | (apply r_name; (case kn => walk_at "N")) | (apply r_call; (case kn => walk_at "N"); (case km => walk_at "N")))
    refine b_stri rfl (by omega) ?_
    skip
    refine c_nesame ?_
    repeat (with_reducible first | apply lit_f | apply r_esc | apply r_esn | apply r_ksn | apply r_torc | apply t_bool | apply b_fn | (apply r_name; (case kn => walk_at "N")) | (apply r_tcmp; (case kn => walk_at "N")) | (apply r_call; (case kn => walk_at "N"); (case km => walk_at "N")))
    refine hC.wrong _ _ _ _ _ ⟨rfl, rfl, oc.length, nextM m, rfl, app_get hTj _, by omega, ?_⟩
    repeat (with_reducible first | apply r_bin | apply c_nei | apply t_bool | apply q_sub | (apply r_name; (case kn => walk_at "N")))
    rw [show ((wS (nextM m)).2 != (wS m).2 - rightI m) = false from by rw [s6]; simp]
    repeat (with_reducible first | apply r_cons | apply lit_f | apply r_seq | apply r_bin | apply r_torn | apply q_sub | apply r_nil | (apply r_name; (case kn => walk_at "N")) | (apply r_assign; (case ka => (refine ⟨?_, fun _ _ _ => rfl⟩; walk_at "N")); (case kk => walk_at "K")))
    refine ⟨oc.length, nextM m, ?_, ?_, app_get (app_get hTj _) _, s7, by rw [hk']; exact hgo, ?_⟩
    · exact g ++ [O.dict (stopsF m 6)] ++ g1 ++ [O.list (sD (nextM m))] ++ [O.list (pD (pcs m))] ++ [O.idict, O.acc (pD ([] : List Pc).reverse) oe.length, O.list (pD (goneE m))] ++ [O.list (pD (goneE m))] ++ [O.list (sD (((pcs m).filter fun p => stopOf m p.2 == 6).map fun p => p.1 ++ p.2))] ++ [O.list ((m.zipIdx.map fun p => stopOf m p.1 - (p.2 : Int) - 1).map D.int)] ++ g2 ++ [O.list (sD (wS (nextM m)).1)]
    · rw [← hS7, ← hS6, ← hS5, hpst, ← hS3, ← hS2, ← hS1, ← ho0]
      simp only [List.append_assoc]
    · rw [← s6]
      exact ⟨_, _, _, _, _, _, _, _, _, _, rfl⟩
  · rintro _ _ ⟨nO, m, g, rfl, hob, hwf, hgood, v1, v2, v3, v4, v5, v6, v7, v8, v9, v10, rfl⟩
    have hr : (rangeD 0 5).length = 5 := by simp [rangeD]
    rw [hr] at hgood
    simp only [good, decide_eq_true_eq, Nat.sub_self] at hgood
    exact ⟨nO, m, g, rfl, hob, hwf, hgood.2, hgood.1, _, _, _, _, _, _, _, _, _, _, rfl⟩
  · rintro _ _ ⟨nO, m, g, rfl, hob, hwf, rfl, hl, v1, v2, v3, v4, v5, v6, v7, v8, v9, v10, rfl⟩
    rw [hl]
    repeat (with_reducible first | apply r_cons | apply r_seq | apply r_return)
    refine r_and ?_
    repeat (with_reducible first | apply r_int | apply c_eqi | apply t_bool | (apply r_name; (case kn => walk_at "N")) | (apply r_cmp; (case kn => walk_at "N")))
    refine ⟨fun _ => ?_, fun h => by simp at h⟩
    repeat (with_reducible first | (apply r_name; (case kn => walk_at "N")) | (apply r_cmp; (case kn => walk_at "N")))
    refine r_list rfl ?_
    repeat (with_reducible first | apply r_str | apply r_esc | apply r_esn)
    refine ⟨by simp, ?_⟩
    refine c_eql (m := sorted6) rfl (app_get hob _) (by rw [List.getElem?_concat_length]; rfl) (by decide) ?_
    exact ⟨rfl, g ++ [.list (sD sorted6)], by simp [sD, sorted6]; decide +kernel⟩

open PySem PySem.W PySem.Spec PySem.Calls PyProof.Rows
set_option Elab.async false
set_option maxRecDepth 100000
set_option maxHeartbeats 4000000
noncomputable def chk5 (b : List (List Nat)) : Bool := ((List.range 6).map fun j => insL b j [102]).all fun l => wf l && good 5 0 l
theorem chk5_0 : chk5 [[101], [100], [99], [98], [97]] = true := by decide +kernel
theorem chk5_1 : chk5 [[100], [101], [99], [98], [97]] = true := by decide +kernel
theorem chk5_2 : chk5 [[100], [99], [101], [98], [97]] = true := by decide +kernel
theorem chk5_3 : chk5 [[100], [99], [98], [101], [97]] = true := by decide +kernel
theorem chk5_4 : chk5 [[100], [99], [98], [97], [101]] = true := by decide +kernel
theorem chk5_5 : chk5 [[101], [99], [100], [98], [97]] = true := by decide +kernel
theorem chk5_6 : chk5 [[99], [101], [100], [98], [97]] = true := by decide +kernel
theorem chk5_7 : chk5 [[99], [100], [101], [98], [97]] = true := by decide +kernel
theorem chk5_8 : chk5 [[99], [100], [98], [101], [97]] = true := by decide +kernel
theorem chk5_9 : chk5 [[99], [100], [98], [97], [101]] = true := by decide +kernel
theorem chk5_10 : chk5 [[101], [99], [98], [100], [97]] = true := by decide +kernel
theorem chk5_11 : chk5 [[99], [101], [98], [100], [97]] = true := by decide +kernel
theorem chk5_12 : chk5 [[99], [98], [101], [100], [97]] = true := by decide +kernel
theorem chk5_13 : chk5 [[99], [98], [100], [101], [97]] = true := by decide +kernel
theorem chk5_14 : chk5 [[99], [98], [100], [97], [101]] = true := by decide +kernel
theorem chk5_15 : chk5 [[101], [99], [98], [97], [100]] = true := by decide +kernel
theorem chk5_16 : chk5 [[99], [101], [98], [97], [100]] = true := by decide +kernel
theorem chk5_17 : chk5 [[99], [98], [101], [97], [100]] = true := by decide +kernel
theorem chk5_18 : chk5 [[99], [98], [97], [101], [100]] = true := by decide +kernel
theorem chk5_19 : chk5 [[99], [98], [97], [100], [101]] = true := by decide +kernel
theorem chk5_20 : chk5 [[101], [100], [98], [99], [97]] = true := by decide +kernel
theorem chk5_21 : chk5 [[100], [101], [98], [99], [97]] = true := by decide +kernel
theorem chk5_22 : chk5 [[100], [98], [101], [99], [97]] = true := by decide +kernel
theorem chk5_23 : chk5 [[100], [98], [99], [101], [97]] = true := by decide +kernel
theorem chk5_24 : chk5 [[100], [98], [99], [97], [101]] = true := by decide +kernel
theorem chk5_25 : chk5 [[101], [98], [100], [99], [97]] = true := by decide +kernel
theorem chk5_26 : chk5 [[98], [101], [100], [99], [97]] = true := by decide +kernel
theorem chk5_27 : chk5 [[98], [100], [101], [99], [97]] = true := by decide +kernel
theorem chk5_28 : chk5 [[98], [100], [99], [101], [97]] = true := by decide +kernel
theorem chk5_29 : chk5 [[98], [100], [99], [97], [101]] = true := by decide +kernel
theorem chk5_30 : chk5 [[101], [98], [99], [100], [97]] = true := by decide +kernel
theorem chk5_31 : chk5 [[98], [101], [99], [100], [97]] = true := by decide +kernel
theorem chk5_32 : chk5 [[98], [99], [101], [100], [97]] = true := by decide +kernel
theorem chk5_33 : chk5 [[98], [99], [100], [101], [97]] = true := by decide +kernel
theorem chk5_34 : chk5 [[98], [99], [100], [97], [101]] = true := by decide +kernel
theorem chk5_35 : chk5 [[101], [98], [99], [97], [100]] = true := by decide +kernel
theorem chk5_36 : chk5 [[98], [101], [99], [97], [100]] = true := by decide +kernel
theorem chk5_37 : chk5 [[98], [99], [101], [97], [100]] = true := by decide +kernel
theorem chk5_38 : chk5 [[98], [99], [97], [101], [100]] = true := by decide +kernel
theorem chk5_39 : chk5 [[98], [99], [97], [100], [101]] = true := by decide +kernel
theorem chk5_40 : chk5 [[101], [100], [98], [97], [99]] = true := by decide +kernel
theorem chk5_41 : chk5 [[100], [101], [98], [97], [99]] = true := by decide +kernel
theorem chk5_42 : chk5 [[100], [98], [101], [97], [99]] = true := by decide +kernel
theorem chk5_43 : chk5 [[100], [98], [97], [101], [99]] = true := by decide +kernel
theorem chk5_44 : chk5 [[100], [98], [97], [99], [101]] = true := by decide +kernel
theorem chk5_45 : chk5 [[101], [98], [100], [97], [99]] = true := by decide +kernel
theorem chk5_46 : chk5 [[98], [101], [100], [97], [99]] = true := by decide +kernel
theorem chk5_47 : chk5 [[98], [100], [101], [97], [99]] = true := by decide +kernel
theorem chk5_48 : chk5 [[98], [100], [97], [101], [99]] = true := by decide +kernel
theorem chk5_49 : chk5 [[98], [100], [97], [99], [101]] = true := by decide +kernel
theorem chk5_50 : chk5 [[101], [98], [97], [100], [99]] = true := by decide +kernel
theorem chk5_51 : chk5 [[98], [101], [97], [100], [99]] = true := by decide +kernel
theorem chk5_52 : chk5 [[98], [97], [101], [100], [99]] = true := by decide +kernel
theorem chk5_53 : chk5 [[98], [97], [100], [101], [99]] = true := by decide +kernel
theorem chk5_54 : chk5 [[98], [97], [100], [99], [101]] = true := by decide +kernel
theorem chk5_55 : chk5 [[101], [98], [97], [99], [100]] = true := by decide +kernel
theorem chk5_56 : chk5 [[98], [101], [97], [99], [100]] = true := by decide +kernel
theorem chk5_57 : chk5 [[98], [97], [101], [99], [100]] = true := by decide +kernel
theorem chk5_58 : chk5 [[98], [97], [99], [101], [100]] = true := by decide +kernel
theorem chk5_59 : chk5 [[98], [97], [99], [100], [101]] = true := by decide +kernel
theorem chk5_60 : chk5 [[101], [100], [99], [97], [98]] = true := by decide +kernel
theorem chk5_61 : chk5 [[100], [101], [99], [97], [98]] = true := by decide +kernel
theorem chk5_62 : chk5 [[100], [99], [101], [97], [98]] = true := by decide +kernel
theorem chk5_63 : chk5 [[100], [99], [97], [101], [98]] = true := by decide +kernel
theorem chk5_64 : chk5 [[100], [99], [97], [98], [101]] = true := by decide +kernel
theorem chk5_65 : chk5 [[101], [99], [100], [97], [98]] = true := by decide +kernel
theorem chk5_66 : chk5 [[99], [101], [100], [97], [98]] = true := by decide +kernel
theorem chk5_67 : chk5 [[99], [100], [101], [97], [98]] = true := by decide +kernel
theorem chk5_68 : chk5 [[99], [100], [97], [101], [98]] = true := by decide +kernel
theorem chk5_69 : chk5 [[99], [100], [97], [98], [101]] = true := by decide +kernel
theorem chk5_70 : chk5 [[101], [99], [97], [100], [98]] = true := by decide +kernel
theorem chk5_71 : chk5 [[99], [101], [97], [100], [98]] = true := by decide +kernel
theorem chk5_72 : chk5 [[99], [97], [101], [100], [98]] = true := by decide +kernel
theorem chk5_73 : chk5 [[99], [97], [100], [101], [98]] = true := by decide +kernel
theorem chk5_74 : chk5 [[99], [97], [100], [98], [101]] = true := by decide +kernel
theorem chk5_75 : chk5 [[101], [99], [97], [98], [100]] = true := by decide +kernel
theorem chk5_76 : chk5 [[99], [101], [97], [98], [100]] = true := by decide +kernel
theorem chk5_77 : chk5 [[99], [97], [101], [98], [100]] = true := by decide +kernel
theorem chk5_78 : chk5 [[99], [97], [98], [101], [100]] = true := by decide +kernel
theorem chk5_79 : chk5 [[99], [97], [98], [100], [101]] = true := by decide +kernel
theorem chk5_80 : chk5 [[101], [100], [97], [99], [98]] = true := by decide +kernel
theorem chk5_81 : chk5 [[100], [101], [97], [99], [98]] = true := by decide +kernel
theorem chk5_82 : chk5 [[100], [97], [101], [99], [98]] = true := by decide +kernel
theorem chk5_83 : chk5 [[100], [97], [99], [101], [98]] = true := by decide +kernel
theorem chk5_84 : chk5 [[100], [97], [99], [98], [101]] = true := by decide +kernel
theorem chk5_85 : chk5 [[101], [97], [100], [99], [98]] = true := by decide +kernel
theorem chk5_86 : chk5 [[97], [101], [100], [99], [98]] = true := by decide +kernel
theorem chk5_87 : chk5 [[97], [100], [101], [99], [98]] = true := by decide +kernel
theorem chk5_88 : chk5 [[97], [100], [99], [101], [98]] = true := by decide +kernel
theorem chk5_89 : chk5 [[97], [100], [99], [98], [101]] = true := by decide +kernel
theorem chk5_90 : chk5 [[101], [97], [99], [100], [98]] = true := by decide +kernel
theorem chk5_91 : chk5 [[97], [101], [99], [100], [98]] = true := by decide +kernel
theorem chk5_92 : chk5 [[97], [99], [101], [100], [98]] = true := by decide +kernel
theorem chk5_93 : chk5 [[97], [99], [100], [101], [98]] = true := by decide +kernel
theorem chk5_94 : chk5 [[97], [99], [100], [98], [101]] = true := by decide +kernel
theorem chk5_95 : chk5 [[101], [97], [99], [98], [100]] = true := by decide +kernel
theorem chk5_96 : chk5 [[97], [101], [99], [98], [100]] = true := by decide +kernel
theorem chk5_97 : chk5 [[97], [99], [101], [98], [100]] = true := by decide +kernel
theorem chk5_98 : chk5 [[97], [99], [98], [101], [100]] = true := by decide +kernel
theorem chk5_99 : chk5 [[97], [99], [98], [100], [101]] = true := by decide +kernel
theorem chk5_100 : chk5 [[101], [100], [97], [98], [99]] = true := by decide +kernel
theorem chk5_101 : chk5 [[100], [101], [97], [98], [99]] = true := by decide +kernel
theorem chk5_102 : chk5 [[100], [97], [101], [98], [99]] = true := by decide +kernel
theorem chk5_103 : chk5 [[100], [97], [98], [101], [99]] = true := by decide +kernel
theorem chk5_104 : chk5 [[100], [97], [98], [99], [101]] = true := by decide +kernel
theorem chk5_105 : chk5 [[101], [97], [100], [98], [99]] = true := by decide +kernel
theorem chk5_106 : chk5 [[97], [101], [100], [98], [99]] = true := by decide +kernel
theorem chk5_107 : chk5 [[97], [100], [101], [98], [99]] = true := by decide +kernel
theorem chk5_108 : chk5 [[97], [100], [98], [101], [99]] = true := by decide +kernel
theorem chk5_109 : chk5 [[97], [100], [98], [99], [101]] = true := by decide +kernel
theorem chk5_110 : chk5 [[101], [97], [98], [100], [99]] = true := by decide +kernel
theorem chk5_111 : chk5 [[97], [101], [98], [100], [99]] = true := by decide +kernel
theorem chk5_112 : chk5 [[97], [98], [101], [100], [99]] = true := by decide +kernel
theorem chk5_113 : chk5 [[97], [98], [100], [101], [99]] = true := by decide +kernel
theorem chk5_114 : chk5 [[97], [98], [100], [99], [101]] = true := by decide +kernel
theorem chk5_115 : chk5 [[101], [97], [98], [99], [100]] = true := by decide +kernel
theorem chk5_116 : chk5 [[97], [101], [98], [99], [100]] = true := by decide +kernel
theorem chk5_117 : chk5 [[97], [98], [101], [99], [100]] = true := by decide +kernel
theorem chk5_118 : chk5 [[97], [98], [99], [101], [100]] = true := by decide +kernel
theorem chk5_119 : chk5 [[97], [98], [99], [100], [101]] = true := by decide +kernel
theorem ords4 : ordsF 4 = [[[101], [100], [99], [98], [97]], [[100], [101], [99], [98], [97]], [[100], [99], [101], [98], [97]], [[100], [99], [98], [101], [97]], [[100], [99], [98], [97], [101]], [[101], [99], [100], [98], [97]], [[99], [101], [100], [98], [97]], [[99], [100], [101], [98], [97]], [[99], [100], [98], [101], [97]], [[99], [100], [98], [97], [101]], [[101], [99], [98], [100], [97]], [[99], [101], [98], [100], [97]], [[99], [98], [101], [100], [97]], [[99], [98], [100], [101], [97]], [[99], [98], [100], [97], [101]], [[101], [99], [98], [97], [100]], [[99], [101], [98], [97], [100]], [[99], [98], [101], [97], [100]], [[99], [98], [97], [101], [100]], [[99], [98], [97], [100], [101]], [[101], [100], [98], [99], [97]], [[100], [101], [98], [99], [97]], [[100], [98], [101], [99], [97]], [[100], [98], [99], [101], [97]], [[100], [98], [99], [97], [101]], [[101], [98], [100], [99], [97]], [[98], [101], [100], [99], [97]], [[98], [100], [101], [99], [97]], [[98], [100], [99], [101], [97]], [[98], [100], [99], [97], [101]], [[101], [98], [99], [100], [97]], [[98], [101], [99], [100], [97]], [[98], [99], [101], [100], [97]], [[98], [99], [100], [101], [97]], [[98], [99], [100], [97], [101]], [[101], [98], [99], [97], [100]], [[98], [101], [99], [97], [100]], [[98], [99], [101], [97], [100]], [[98], [99], [97], [101], [100]], [[98], [99], [97], [100], [101]], [[101], [100], [98], [97], [99]], [[100], [101], [98], [97], [99]], [[100], [98], [101], [97], [99]], [[100], [98], [97], [101], [99]], [[100], [98], [97], [99], [101]], [[101], [98], [100], [97], [99]], [[98], [101], [100], [97], [99]], [[98], [100], [101], [97], [99]], [[98], [100], [97], [101], [99]], [[98], [100], [97], [99], [101]], [[101], [98], [97], [100], [99]], [[98], [101], [97], [100], [99]], [[98], [97], [101], [100], [99]], [[98], [97], [100], [101], [99]], [[98], [97], [100], [99], [101]], [[101], [98], [97], [99], [100]], [[98], [101], [97], [99], [100]], [[98], [97], [101], [99], [100]], [[98], [97], [99], [101], [100]], [[98], [97], [99], [100], [101]], [[101], [100], [99], [97], [98]], [[100], [101], [99], [97], [98]], [[100], [99], [101], [97], [98]], [[100], [99], [97], [101], [98]], [[100], [99], [97], [98], [101]], [[101], [99], [100], [97], [98]], [[99], [101], [100], [97], [98]], [[99], [100], [101], [97], [98]], [[99], [100], [97], [101], [98]], [[99], [100], [97], [98], [101]], [[101], [99], [97], [100], [98]], [[99], [101], [97], [100], [98]], [[99], [97], [101], [100], [98]], [[99], [97], [100], [101], [98]], [[99], [97], [100], [98], [101]], [[101], [99], [97], [98], [100]], [[99], [101], [97], [98], [100]], [[99], [97], [101], [98], [100]], [[99], [97], [98], [101], [100]], [[99], [97], [98], [100], [101]], [[101], [100], [97], [99], [98]], [[100], [101], [97], [99], [98]], [[100], [97], [101], [99], [98]], [[100], [97], [99], [101], [98]], [[100], [97], [99], [98], [101]], [[101], [97], [100], [99], [98]], [[97], [101], [100], [99], [98]], [[97], [100], [101], [99], [98]], [[97], [100], [99], [101], [98]], [[97], [100], [99], [98], [101]], [[101], [97], [99], [100], [98]], [[97], [101], [99], [100], [98]], [[97], [99], [101], [100], [98]], [[97], [99], [100], [101], [98]], [[97], [99], [100], [98], [101]], [[101], [97], [99], [98], [100]], [[97], [101], [99], [98], [100]], [[97], [99], [101], [98], [100]], [[97], [99], [98], [101], [100]], [[97], [99], [98], [100], [101]], [[101], [100], [97], [98], [99]], [[100], [101], [97], [98], [99]], [[100], [97], [101], [98], [99]], [[100], [97], [98], [101], [99]], [[100], [97], [98], [99], [101]], [[101], [97], [100], [98], [99]], [[97], [101], [100], [98], [99]], [[97], [100], [101], [98], [99]], [[97], [100], [98], [101], [99]], [[97], [100], [98], [99], [101]], [[101], [97], [98], [100], [99]], [[97], [101], [98], [100], [99]], [[97], [98], [101], [100], [99]], [[97], [98], [100], [101], [99]], [[97], [98], [100], [99], [101]], [[101], [97], [98], [99], [100]], [[97], [101], [98], [99], [100]], [[97], [98], [101], [99], [100]], [[97], [98], [99], [101], [100]], [[97], [98], [99], [100], [101]]] := by decide +kernel
theorem all_c {b : List (List Nat)} {l : List (List (List Nat))} (h : chk5 b = true) (r : ∀ x ∈ l, chk5 x = true) : ∀ x ∈ b :: l, chk5 x = true := fun x hx => (List.mem_cons.mp hx).elim (fun e => e ▸ h) (r x)
theorem chk_all : ∀ b ∈ ordsF 4, chk5 b = true := by
  rw [ords4]
  exact all_c chk5_0 <| all_c chk5_1 <| all_c chk5_2 <| all_c chk5_3 <| all_c chk5_4 <| all_c chk5_5 <| all_c chk5_6 <| all_c chk5_7 <| all_c chk5_8 <| all_c chk5_9 <| all_c chk5_10 <| all_c chk5_11 <| all_c chk5_12 <| all_c chk5_13 <| all_c chk5_14 <| all_c chk5_15 <| all_c chk5_16 <| all_c chk5_17 <| all_c chk5_18 <| all_c chk5_19 <| all_c chk5_20 <| all_c chk5_21 <| all_c chk5_22 <| all_c chk5_23 <| all_c chk5_24 <| all_c chk5_25 <| all_c chk5_26 <| all_c chk5_27 <| all_c chk5_28 <| all_c chk5_29 <| all_c chk5_30 <| all_c chk5_31 <| all_c chk5_32 <| all_c chk5_33 <| all_c chk5_34 <| all_c chk5_35 <| all_c chk5_36 <| all_c chk5_37 <| all_c chk5_38 <| all_c chk5_39 <| all_c chk5_40 <| all_c chk5_41 <| all_c chk5_42 <| all_c chk5_43 <| all_c chk5_44 <| all_c chk5_45 <| all_c chk5_46 <| all_c chk5_47 <| all_c chk5_48 <| all_c chk5_49 <| all_c chk5_50 <| all_c chk5_51 <| all_c chk5_52 <| all_c chk5_53 <| all_c chk5_54 <| all_c chk5_55 <| all_c chk5_56 <| all_c chk5_57 <| all_c chk5_58 <| all_c chk5_59 <| all_c chk5_60 <| all_c chk5_61 <| all_c chk5_62 <| all_c chk5_63 <| all_c chk5_64 <| all_c chk5_65 <| all_c chk5_66 <| all_c chk5_67 <| all_c chk5_68 <| all_c chk5_69 <| all_c chk5_70 <| all_c chk5_71 <| all_c chk5_72 <| all_c chk5_73 <| all_c chk5_74 <| all_c chk5_75 <| all_c chk5_76 <| all_c chk5_77 <| all_c chk5_78 <| all_c chk5_79 <| all_c chk5_80 <| all_c chk5_81 <| all_c chk5_82 <| all_c chk5_83 <| all_c chk5_84 <| all_c chk5_85 <| all_c chk5_86 <| all_c chk5_87 <| all_c chk5_88 <| all_c chk5_89 <| all_c chk5_90 <| all_c chk5_91 <| all_c chk5_92 <| all_c chk5_93 <| all_c chk5_94 <| all_c chk5_95 <| all_c chk5_96 <| all_c chk5_97 <| all_c chk5_98 <| all_c chk5_99 <| all_c chk5_100 <| all_c chk5_101 <| all_c chk5_102 <| all_c chk5_103 <| all_c chk5_104 <| all_c chk5_105 <| all_c chk5_106 <| all_c chk5_107 <| all_c chk5_108 <| all_c chk5_109 <| all_c chk5_110 <| all_c chk5_111 <| all_c chk5_112 <| all_c chk5_113 <| all_c chk5_114 <| all_c chk5_115 <| all_c chk5_116 <| all_c chk5_117 <| all_c chk5_118 <| all_c chk5_119 <| fun _ h => nomatch h
theorem ords_good {l : List (List Nat)} (h : l ∈ ordsF 5) : wf l = true ∧ good 5 0 l = true := by
  unfold ordsF at h
  obtain ⟨b, hb, hl⟩ := List.mem_flatMap.mp h
  have := List.all_eq_true.mp (chk_all b hb) l hl
  simpa using this

open PySem PySem.W PySem.Spec PySem.Calls PyProof.Rows
set_option Elab.async false
set_option maxRecDepth 100000
set_option linter.unusedVariables false
set_option linter.unusedSimpArgs false
set_option maxHeartbeats 1000000
/-- what is known of the class and of the two tables -/
structure Law1A (Γ : Ctx) : Prop extends Law1 Γ where
  cA : Γ.cA = 101
  tabs : Γ.tabs = [70, 161]
  prog : Γ.prog = PySem.Challenge.rw_re0083_01.prog
  T70 : Acc.TabOk Γ 74 70
  T161 : LamTab Γ 165 161 ("_law_laid" ++ ".<locals>." ++ "<lambda>") lposL
  BM : Acc.BMain Γ.h₀
  sup : GlobIs Γ.h₀ "super" (.type "super")
  es : ∃ te, GlobIs Γ.h₀ (Str.ofString "EMPTYSTRING") (.str "" te)
theorem cls_facts (w : World) : PySem.Challenge.rw_re0083_01.prog = PySem.Challenge.rw_re0083_01.prog → ∀ (C : Prop), (∀ cd, (clsIn (hd1.heap_1 w.params) 101 = some cd) → (cd.mro = [.ref 101, .type "list", .type "object"]) → (cd.qualname = Str.ofString "_Accumulator") → (nsIn (hd1.heap_1 w.params) cStatics "thirdparty.any" = some none) → (Acc.lmakesIn (hd1.heap_1 w.params) 101) → (typeIn (hd1.heap_1 w.params) (.ref 101) = some (.type "type")) → (findIn (hd1.heap_1 w.params) (.ref 101) "__iter__" = some (some (.builtin "list.__iter__"))) → (findIn (hd1.heap_1 w.params) (.ref 101) "__str__" = some (some (.ref 75))) → (findIn (hd1.heap_1 w.params) (.ref 101) "__init__" = some (some (.ref 38))) → (findIn (hd1.heap_1 w.params) (.ref 101) "__getattr__" = some none) → (findIn (hd1.heap_1 w.params) (.ref 101) "push" = some (some (.ref 45))) → (findIn (hd1.heap_1 w.params) (.ref 101) "pop" = some (some (.ref 61))) → (findIn (hd1.heap_1 w.params) (.ref 101) "part_count" = some (some (.ref 98))) → (findIn (hd1.heap_1 w.params) (.ref 101) "append" = some (some (.builtin "list.append"))) → C) → C := by
  k_fill
  intro _
  refine fun _ k9 => k9 _ (by k_is) rfl rfl ?_ ?_ ?_ ?_ ?_ ?_ ?_ ?_ ?_ ?_ ?_
  all_goals first | k_is | rfl | (unfold Acc.lmakesIn; refine ⟨_, _, _, _, by k_is, ?_⟩; kernel_rfl) | kernel_rfl
structure FnE (K : Frag) (f : Addr) (fd : FuncData) (body : List Stmt) (cl : List (Str × Addr)) : Prop where
  obj : ∃ oc od osl, K.lookup f = some ⟨oc, od, .func fd, osl⟩
  code : ∃ c oc od vs osl t file tf, fd.code = .ref c ∧ K.lookup c = some ⟨oc, od, .fields vs, osl⟩ ∧ vs[1]? = some (.str fd.qualname t) ∧ vs[2]? = some (.str file tf) ∧ ((PySem.Challenge.rw_re0083_01.prog.main.file : Str) == file) = true
  body : fd.body = .stmts body
  glob : fd.globals = mainGlobals
  blt : fd.builtins = builtinsNs
  clo : fd.closure = cl
  co : fd.scope.isCoroutine = false
  gen : fd.scope.isGenerator = false
  kind : fd.scope.kind = .function
  cell : ∀ x ∈ fd.scope.names, x.2 ≠ .cell
theorem FnE.at {K : Frag} {f : Addr} {fd : FuncData} {body : List Stmt} {cl : List (Str × Addr)} (F : FnE K f fd body cl) {Γ : Ctx} (X : K.In Γ.h₀) (hc : ∀ p ∈ cl, (∃ v, Γ.h₀.IsCell p.2 v) ∧ p.2 ∉ Γ.tabs) : FnK Γ f fd body cl := by
  obtain ⟨⟨oc, od, osl, e⟩, ⟨c, oc', od', vs, osl', t, fl, tf, e1, e2, e3, _⟩, h1, h2, h3, h4, h5, h6, h7, h8⟩ := F
  exact ⟨⟨_, X _ _ e, rfl⟩, h1, h2, h3, h4, ⟨c, _, vs, t, e1, X _ _ e2, rfl, e3⟩, h8, h5, h6, h7, hc⟩
theorem FnE.sup {K : Frag} {f : Addr} {fd : FuncData} {body : List Stmt} {cl : List (Str × Addr)} (F : FnE K f fd body cl) {Γ : Ctx} (X : K.In Γ.h₀) (hp : Γ.prog = PySem.Challenge.rw_re0083_01.prog) (h1 : fd.scope.names.lookup (Str.ofString "super") = some .globalImplicit) (h2 : fd.scope.names.lookup (Str.ofString "__class__") = some .free)
    (h3 : ∃ ar, (fd.params.posonlyargs ++ fd.params.args).head? = some ar ∧ ar.arg = Str.ofString "self") (h4 : (PySem.Challenge.rw_re0083_01.prog.main.scope.names.lookup ("super" : Str)).isSome = false) (h5 : GlobIs Γ.h₀ "super" (.type "super")) : ∀ L, Acc.EnvSup Γ (callEnv fd L f) f := by
  obtain ⟨⟨oc, od, osl, e⟩, ⟨c, oc', od', vs, osl', t, fl, tf, e1, e2, e3, e4, e5⟩, _⟩ := F
  obtain ⟨ar, h6, h7⟩ := h3
  intro L
  exact ⟨h1, h2, rfl, ⟨_, fd, ar, X _ _ e, rfl, h6, h7⟩, ⟨c, _, vs, fl, tf, e1, X _ _ e2, rfl, e4, by rw [hp]; exact e5⟩, by rw [hp]; exact h4, h5⟩
theorem cell25 (w : World) : PySem.Challenge.rw_re0083_01.prog = PySem.Challenge.rw_re0083_01.prog → ∃ oc od osl, (hd1.heap_1 w.params).lookup 25 = some ⟨oc, od, .cell (some (.ref 101)), osl⟩ := by
  k_fill
  intro _
  exact ⟨_, _, _, by k_is⟩
theorem part_K (w : World) : PySem.Challenge.rw_re0083_01.prog = PySem.Challenge.rw_re0083_01.prog → ∀ (C : Prop), (∀ fd rp p0 p1 ap pos, (FnE (hd1.heap_1 w.params) 98 fd [.Return (some (.Call (.Attribute (.Call (.Name "super" p0) [] [] p1) "__len__" ap) [] [] pos)) rp] [(Str.ofString "__class__", 25)]) → ((fd.scope.names.lookup (Str.ofString "super") = some .globalImplicit ∧ fd.scope.names.lookup (Str.ofString "__class__") = some .free ∧ (∃ ar, (fd.params.posonlyargs ++ fd.params.args).head? = some ar ∧ ar.arg = Str.ofString "self"))) → ((ap.endLine == pos.line) = true) → (fd.scope.names.lookup (Str.ofString "self") = some .local) → (∀ v, bindArgs fd ⟨[v], []⟩ = pure [(Str.ofString "self", v)]) → C) → C := by
  k_fill
  intro _
  exact fun _ k9 => k9 _ _ _ _ _ _ ⟨⟨_, _, _, by k_is⟩, ⟨_, _, _, _, _, _, _, _, rfl, by k_is, rfl, rfl, by decide +kernel⟩, rfl, rfl, rfl, rfl, rfl, rfl, rfl, by decide⟩ ⟨by decide, by decide, ⟨_, rfl, rfl⟩⟩ rfl (by decide) (fun _ => rfl)

open PySem PySem.W PySem.Spec PySem.Calls PyProof.Rows
set_option Elab.async false
set_option maxRecDepth 100000
set_option linter.unusedVariables false
set_option linter.unusedSimpArgs false
set_option maxHeartbeats 1000000
theorem pop_K (w : World) : PySem.Challenge.rw_re0083_01.prog = PySem.Challenge.rw_re0083_01.prog → ∀ (C : Prop), (∀ fd sc q1 q2 q3 q4 q5 k4 k6 k7 q6 q7 q8 rp1 ip rp2 p0 p1 ap pos, (FnE (hd1.heap_1 w.params) 61 fd [.If (.Compare (.Call (.Attribute (.Name "self" q1) "part_count" q2) [] [] q3) [.Eq] [.Constant (.int 0) k4 q4] q5) [.Return (some (.Tuple [.Constant (.str "") k6 q6, .Constant (.str "") k7 q7] 0 q8)) rp1] [] ip,
      .Return (some (.Call (.Attribute (.Call (.Name "super" p0) [] [] p1) "pop" ap) [] [] pos)) rp2] [(Str.ofString "__class__", 25)]) → ((fd.scope.names.lookup (Str.ofString "super") = some .globalImplicit ∧ fd.scope.names.lookup (Str.ofString "__class__") = some .free ∧ (∃ ar, (fd.params.posonlyargs ++ fd.params.args).head? = some ar ∧ ar.arg = Str.ofString "self"))) → ((ap.endLine == pos.line) = true) → ((q2.endLine == q3.line) = true) → (fd.scope.names.lookup (Str.ofString "self") = some .local) → ((∀ v, bindArgs fd ⟨[v], []⟩ = pure [(Str.ofString "self", v)])) → (fd.scope.names = sc) → (ndOk sc = true) → C) → C := by
  k_fill
  intro _
  exact fun _ k9 => k9 _ _ _ _ _ _ _ _ _ _ _ _ _ _ _ _ _ _ _ _ ⟨⟨_, _, _, by k_is⟩, ⟨_, _, _, _, _, _, _, _, rfl, by k_is, rfl, rfl, by decide +kernel⟩, rfl, rfl, rfl, rfl, rfl, rfl, rfl, by decide⟩ ⟨by decide, by decide, ⟨_, rfl, rfl⟩⟩ rfl rfl (by decide) (fun _ => rfl) rfl (by decide)
theorem init_K (w : World) : PySem.Challenge.rw_re0083_01.prog = PySem.Challenge.rw_re0083_01.prog → ∀ (C : Prop), (∀ fd sc q1 q2 q3 q4 rp p0 p1 ap pos, (FnE (hd1.heap_1 w.params) 38 fd [.Assign [.Attribute (.Name "self" q1) "_initial_size" q2] (.Name "initial_size" q3) q4,
      .Expr (.Call (.Attribute (.Call (.Name "super" p0) [] [] p1) "__init__" ap) [] [] pos) rp] [(Str.ofString "__class__", 25)]) → ((fd.scope.names.lookup (Str.ofString "super") = some .globalImplicit ∧ fd.scope.names.lookup (Str.ofString "__class__") = some .free ∧ (∃ ar, (fd.params.posonlyargs ++ fd.params.args).head? = some ar ∧ ar.arg = Str.ofString "self"))) → ((ap.endLine == pos.line) = true) → (fd.scope.names.lookup (Str.ofString "self") = some .local) → (fd.scope.names.lookup (Str.ofString "initial_size") = some .local) → ((∀ s : Shared, (hd1.heap_1 w.params).In s.heap → ∀ v, ∃ t, BindsTo s fd ⟨[v], []⟩ [(Str.ofString "self", v), (Str.ofString "initial_size", .int 0 t)])) → (fd.scope.names = sc) → (ndOk sc = true) → C) → C := by
  k_fill
  intro _
  refine fun _ k9 => k9 _ _ _ _ _ _ _ _ _ _ _ ⟨⟨_, _, _, by k_is⟩, ⟨_, _, _, _, _, _, _, _, rfl, by k_is, rfl, rfl, by decide +kernel⟩, rfl, rfl, rfl, rfl, rfl, rfl, rfl, by decide⟩ ⟨by decide, by decide, ⟨_, rfl, rfl⟩⟩ rfl (by decide) (by decide) ?_ rfl (by decide)
  intro s X v
  exact ⟨_, kp_binds X (fun _ => rfl)⟩
theorem str_K (w : World) : PySem.Challenge.rw_re0083_01.prog = PySem.Challenge.rw_re0083_01.prog → ∀ (C : Prop), (∀ fd e1 ap pos rp f1 f2 f3 f4 fap fpos fkk gs gp pa pb pt kt sp, (FnE (hd1.heap_1 w.params) 75 fd [.Return (some (.Call (.Attribute (.Name "EMPTYSTRING" e1) "join" ap) [.GeneratorExp (.Call (.Attribute (.Name "EMPTYSTRING" f1) "join" fap) [.Tuple [.Name "fws" f2, .Name "part" f3] fkk f4] [] fpos) [⟨.Tuple [.Name "fws" pa, .Name "part" pb] kt pt, .Name "self" sp, [], 0⟩] gs gp] [] pos)) rp] []) → (fd.code = .ref 74) → ((ap.endLine == pos.line) = true) → ((fap.endLine == fpos.line) = true) → ((∀ v, bindArgs fd ⟨[v], []⟩ = pure [(Str.ofString "self", v)])) → (fd.scope.names.lookup (Str.ofString "self") = some .local) → (fd.scope.names.lookup (Str.ofString "EMPTYSTRING") = some .globalImplicit) → (gs.isCoroutine = false) → ((∀ x ∈ gs.names, x.2 ≠ .free)) → ((∀ x ∈ gs.names, x.2 ≠ .cell)) → (gs.names.lookup (".0" : Str) = some .local) → (gs.names.lookup (Str.ofString "fws") = some .local) → (gs.names.lookup (Str.ofString "part") = some .local) → (gs.names.lookup (Str.ofString "EMPTYSTRING") = some .globalImplicit) → (gs.kind = .function) → C) → C := by
  k_fill
  intro _
  exact fun _ k9 => k9 _ _ _ _ _ _ _ _ _ _ _ _ _ _ _ _ _ _ _ ⟨⟨_, _, _, by k_is⟩, ⟨_, _, _, _, _, _, _, _, rfl, by k_is, rfl, rfl, by decide +kernel⟩, rfl, rfl, rfl, rfl, rfl, rfl, rfl, by decide⟩ rfl rfl rfl (fun _ => rfl) (by decide) (by decide) rfl (by decide) (by decide) (by decide) (by decide) (by decide) (by decide) rfl
theorem clsfull_K (w : World) : PySem.Challenge.rw_re0083_01.prog = PySem.Challenge.rw_re0083_01.prog → ∀ (C : Prop), (∀ nm q N bs sn sub ab col dd k0 k1 k2 k3 k5, ((hd1.heap_1 w.params).lookup 101 = some (excClassObj nm q 101 N bs [.type "list", .type "object"] true sn sub ab col dd k0 k1 k2 k3 k5 "list.__new__")) → (N = 100) → C) → C := by
  k_fill
  intro _
  exact fun _ k9 => k9 _ _ _ _ _ _ _ _ _ _ _ _ _ _ (by k_is) rfl

open PySem PySem.W PySem.Spec PySem.Calls PyProof.Rows
set_option Elab.async false
set_option maxRecDepth 100000
set_option linter.unusedVariables false
set_option linter.unusedSimpArgs false
set_option maxHeartbeats 1000000

theorem ns100_K (w : World) : PySem.Challenge.rw_re0083_01.prog = PySem.Challenge.rw_re0083_01.prog → ∀ (C : Prop), (∀ oc od es ep osl, ((hd1.heap_1 w.params).lookup 100 = some ⟨oc, od, .dict es ep, osl⟩) → (StrKeys es) → (nsFind es (Str.ofString "__setattr__") = none) → (nsFind es (Str.ofString "_initial_size") = none) → C) → C := by
  k_fill
  intro _
  exact fun _ k9 => k9 _ _ _ _ _ (by k_is) (by first | decide | (intro e he; simp at he; rcases he with rfl | rfl | rfl | rfl | rfl | rfl | rfl | rfl | rfl | rfl | rfl | rfl | rfl | rfl | rfl <;> exact ⟨_, _, rfl⟩)) (by first | rfl | kernel_rfl) (by first | rfl | kernel_rfl)
namespace PusN
noncomputable abbrev C : CT := noC
noncomputable abbrev B : BT := Acc.AppB
noncomputable abbrev K : (CmpOp → D → D → List O → Post → Prop) := KK
noncomputable abbrev J : (D → D → List O → Post → Prop) := JJ
noncomputable abbrev X : (Expr → Loc → List O → Post → Prop) := fun _ _ _ _ => False
noncomputable abbrev Y : (Stmt → Loc → List O → SPost → Prop) := fun _ _ _ _ => False
noncomputable abbrev E : (Env → Prop) := anyE
theorem hB : ∀ v ds o Q, Acc.AppB v ds o Q → B v ds o Q := fun _ _ _ _ h => h
end PusN
open PusN in
theorem push_W (w : World) : PySem.Challenge.rw_re0083_01.prog = PySem.Challenge.rw_re0083_01.prog → ∃ fd body sc, (FnD (hd1.heap_1 w.params) 45 fd body ∧ fd.scope.names = sc ∧ (∀ x ∈ fd.scope.names, x.2 ≠ .cell) ∧ ndOk sc = true ∧ (∀ x ∈ [Str.ofString "self", Str.ofString "fws", Str.ofString "string"], fd.scope.names.lookup x = some .local) ∧ ∀ a b c, bindArgs fd ⟨[a, b, c], []⟩ = pure [(Str.ofString "self", a), (Str.ofString "fws", b), (Str.ofString "string", c)]) ∧
    ∀ (n d : Nat) (l : List D) (x y : D) (o : List O), o[n]? = some (.acc l d) → o[d]? = some .idict → l.length ≤ 900 →
    WSs ⟨sc, Gl, C, accM, B, K, J, X, Y, E⟩ body [(Str.ofString "self", some (.obj n)), (Str.ofString "fws", some x), (Str.ofString "string", some y)] o (fun fl _ o' => retD fl = .none ∧ o' = o.set n (.acc (l ++ [.tup [x, y]]) d)) := by
  k_fill
  intro _
  refine ⟨_, _, _, ⟨⟨⟨_, _, _, by k_is⟩, ⟨_, _, _, _, _, _, rfl, by k_is, rfl⟩, rfl, rfl, rfl, rfl, rfl, rfl, rfl⟩, rfl, by decide, by decide, by decide, fun _ _ _ => rfl⟩, ?_⟩
  intro n d l x y o ho hd hl
  repeat (with_reducible first | apply r_cons)
  refine r_expr (fun _ _ _ => rfl) ?_
  repeat (with_reducible first | (apply r_name; (case kn => walk_at "N")) | (apply r_methd; (case ka => (refine ⟨fun _ _ _ => rfl, ?_⟩; walk_at "N"))))
  refine m_acc ho hd rfl ?_
  repeat (with_reducible first | apply r_esc)
  refine r_tuple rfl ?_
  repeat (with_reducible first | apply r_esc | apply r_esn | (apply r_name; (case kn => walk_at "N")))
  refine ⟨by simp, ?_⟩
  repeat (with_reducible first | apply r_esn)
  exact ⟨rfl, .other (hB _ _ _ _ (.mk rfl rfl ho (by omega) ⟨rfl, rfl⟩))⟩
theorem keep_K (w : World) : PySem.Challenge.rw_re0083_01.prog = PySem.Challenge.rw_re0083_01.prog → keepIn (hd1.heap_1 w.params) (.ref 101) = true := by
  k_fill
  intro _
  first | k_is | rfl | kernel_rfl
theorem types_K (w : World) : PySem.Challenge.rw_re0083_01.prog = PySem.Challenge.rw_re0083_01.prog → ∀ (C : Prop), (((∃ g, findIn (hd1.heap_1 w.params) (.ref 101) "__getattribute__" = some (some (.builtin g)) ∧ Manifest.canonical g = "object.__getattribute__")) → (typeIn (hd1.heap_1 w.params) (.ref 45) = some (.type "function")) → (typeIn (hd1.heap_1 w.params) (.ref 61) = some (.type "function")) → (typeIn (hd1.heap_1 w.params) (.ref 98) = some (.type "function")) → (typeIn (hd1.heap_1 w.params) (.ref 38) = some (.type "function")) → (typeIn (hd1.heap_1 w.params) (.ref 75) = some (.type "function")) → (typeIn (hd1.heap_1 w.params) (.builtin "list.append") = some (.type "method_descriptor")) → C) → C := by
  k_fill
  intro _
  refine fun _ k9 => k9 ⟨_, by k_is, by decide +kernel⟩ ?_ ?_ ?_ ?_ ?_ ?_
  all_goals first | k_is | rfl | kernel_rfl
section
variable {Γ : Ctx} (H : Law1A Γ)
include H
theorem Law1A.clsOk : ∃ cd, Acc.ClsOk Γ (hd1.heap_1 Γ.w.params) cd ∧ cd.qualname = Str.ofString "_Accumulator" := by
  refine cls_facts Γ.w rfl _ fun cd h1 h2 h3 h4 _ _ _ _ _ _ _ _ _ _ => ?_
  exact ⟨cd, ⟨H.X, by rw [H.cA]; exact h1, by rw [H.cA]; exact h2, h4⟩, h3⟩
theorem Law1A.top : (PySem.Challenge.rw_re0083_01.prog.main.scope.names.lookup ("super" : Str)).isSome = false := by decide +kernel
theorem Law1A.cell : Γ.h₀.IsCell 25 (some (.ref Γ.cA)) := by
  obtain ⟨oc, od, osl, e⟩ := cell25 Γ.w rfl
  exact ⟨_, H.X _ _ e, by rw [H.cA]⟩
theorem Law1A.cells : ∀ p ∈ [(Str.ofString "__class__", (25 : Addr))], (∃ v, Γ.h₀.IsCell p.2 v) ∧ p.2 ∉ Γ.tabs := fun p hp => by
  rw [List.mem_singleton.mp hp]
  exact ⟨⟨_, H.cell⟩, by rw [H.tabs]; decide⟩
theorem part_ok : COkN Γ 1 partC := by
  refine part_K Γ.w rfl _ fun fd rp p0 p1 ap pos F e9_7 h4 h5 h6 => ?_
  obtain ⟨h1, h2, h3⟩ := e9_7
  obtain ⟨cd, HC, _⟩ := H.clsOk
  have PF : Acc.PartCount Γ 98 25 := ⟨⟨fd, rp, p0, p1, ap, pos, F.at H.X H.cells, F.sup H.X H.prog h1 h2 h3 H.top H.sup, h4, h5, h6⟩, H.cell⟩
  intro A hA a ds kw objs Q s ρ vs kvs Q' B R hC hvs hkvs hd
  obtain ⟨rfl, rfl, n, l, d, rfl, ho, hod, hl, hq⟩ := hC
  obtain rfl := hkvs.nil_inv
  obtain ⟨_, rfl, hv1⟩ := hvs.inv1
  obtain ⟨_, rfl, e⟩ := hv1.obj_inv
  obtain ⟨oc, od, osl, e2⟩ := F.obj
  exact ⟨⟨_, .inl rfl, looks_fn ⟨_, _, B.keep _ _ (H.X _ _ e2), rfl⟩⟩, Acc.part_count_ok (m := 0) HC PF hA H.lim B R e ho hl hq hd⟩
theorem accM_ok : MOkN Γ accM := by
  obtain ⟨cd, HC, _⟩ := H.clsOk
  refine cls_facts Γ.w rfl _ fun cd' _ _ _ _ _ _ _ _ _ f1 f2 f3 f4 f5 => ?_
  refine types_K Γ.w rfl _ fun e9_0 t1 t2 t3 _ _ t6 => ?_
  obtain ⟨g, g1, g2⟩ := e9_0
  have G : Acc.GetOk Γ (hd1.heap_1 Γ.w.params) := ⟨⟨g, by rw [H.cA]; exact g1, g2⟩, by rw [H.cA]; exact f1⟩
  intro A m v hv x dx vs n mm s pl QQ B hx hns hmm hq
  unfold accM at hv
  split at hv
  · rename_i e; subst e; cases hv
    exact Acc.acc_method HC G B.keep hx hns (hmm _ (by decide)) (by rw [H.cA]; exact f2) t1 (.inl rfl) hq
  split at hv
  · rename_i e; subst e; cases hv
    exact Acc.acc_method HC G B.keep hx hns (hmm _ (by decide)) (by rw [H.cA]; exact f3) t2 (.inl rfl) hq
  split at hv
  · rename_i e; subst e; cases hv
    exact Acc.acc_method HC G B.keep hx hns (hmm _ (by decide)) (by rw [H.cA]; exact f4) t3 (.inl rfl) hq
  split at hv
  · rename_i e; subst e; cases hv
    exact Acc.acc_method HC G B.keep hx hns (hmm _ (by decide)) (by rw [H.cA]; exact f5) t6 (.inr rfl) hq
  cases hv
theorem app_n {n : Nat} : ∀ A, AOk n A → ∀ v, PS Γ A (fun vs => call v vs) (Acc.AppB v) := fun A _ v => by
  obtain ⟨cd, HC, _⟩ := H.clsOk
  exact Acc.app_ok HC v
theorem push_ok : COkN Γ 1 pushC := by
  obtain ⟨fd, body, sc, ⟨F, hsc, hc, hnd, hl, hbind⟩, hw⟩ := push_W Γ.w rfl
  intro A hA a ds kw objs Q s ρ vs kvs Q' B R hC hvs hkvs hd
  obtain ⟨rfl, rfl, n, l, d, x, y, rfl, ho, hod, hlen, hq⟩ := hC
  obtain rfl := hkvs.nil_inv
  obtain ⟨_, _, _, rfl, hv1, hv2, hv3⟩ := hvs.inv3
  exact F.meets (P := bare sc noC accM Acc.AppB anyE) H.X hc H.lim (orc_bare H.toLaw1.G .none (accM_ok H) (app_n H)) hsc hnd (fun _ => trivial) hA B R (.of_eq (hbind _ _ _)) hl rfl (by decide) (.cons hv1 (.cons hv2 (.cons hv3 .done))) (hd.exact hq) (hw n d l x y objs ho hod hlen)
theorem pop_okC : COkN Γ 2 popC := by
  refine pop_K Γ.w rfl _ fun fd sc q1 q2 q3 q4 q5 k4 k6 k7 q6 q7 q8 rp1 ip rp2 p0 p1 ap pos F e9_21 h4 h5 h6 h7 h8 h9 => ?_
  obtain ⟨h1, h2, h3⟩ := e9_21
  obtain ⟨cd, HC, hqn⟩ := H.clsOk
  refine cls_facts Γ.w rfl _ fun cd' _ _ _ _ _ ht _ _ _ _ _ _ _ _ => ?_
  have PF : Acc.PopFn Γ (bare sc partC accM BB anyE) 61 25 := ⟨⟨fd, q1, q2, q3, q4, q5, k4, k6, k7, q6, q7, q8, rp1, ip, rp2, p0, p1, ap, pos, F.at H.X H.cells, F.sup H.X H.prog h1 h2 h3 H.top H.sup, h4, h5, h6, h7, h8, h9⟩, H.cell⟩
  intro A hA a ds kw objs Q s ρ vs kvs Q' B R hC hvs hkvs hd
  obtain ⟨rfl, rfl, n, l, d, rfl, ho, hod, hl, hq⟩ := hC
  obtain rfl := hkvs.nil_inv
  obtain ⟨_, rfl, hv1⟩ := hvs.inv1
  obtain ⟨_, rfl, e⟩ := hv1.obj_inv
  obtain ⟨oc, od, osl, e2⟩ := F.obj
  exact ⟨⟨_, .inl rfl, looks_fn ⟨_, _, B.keep _ _ (H.X _ _ e2), rfl⟩⟩, Acc.pop_ok HC hqn (by rw [H.cA]; exact ht) PF (orc_bare H.toLaw1.G (part_ok H) (accM_ok H) bb_n) (fun _ => trivial) (pc := 98) rfl (fun n l d objs Q e1 e2 e3 hq => ⟨rfl, rfl, n, l, d, rfl, e1, e2, e3, hq⟩) hA H.lim B R e ho hod hl hq hd⟩
theorem cls_okC : COkN Γ 2 clsC := by
  refine init_K Γ.w rfl _ fun fd sc q1 q2 q3 q4 rp p0 p1 ap pos F e9_12 h4 h5 h6 h7 h8 h9 => ?_
  obtain ⟨h1, h2, h3⟩ := e9_12
  obtain ⟨cd, HC, hqn⟩ := H.clsOk
  refine cls_facts Γ.w rfl _ fun cd' _ _ _ _ hm _ _ _ fi _ _ _ _ _ => ?_
  refine types_K Γ.w rfl _ fun _ _ _ _ t4 _ _ => ?_
  refine clsfull_K Γ.w rfl _ fun nm q N bs sn sub ab col dd k0 k1 k2 k3 k5 e e9_15 => ?_
  subst e9_15
  refine ns100_K Γ.w rfl _ fun oc od es ep osl n1 n2 n3 n4 => ?_
  have HF : Acc.ClsFull Γ := ⟨⟨nm, q, 100, bs, sn, sub, ab, col, dd, k0, k1, k2, k3, k5, nsFind es, by rw [H.cA]; exact H.X _ _ e, ⟨_, es, ep, H.X _ _ n1, rfl, n2, fun _ => rfl⟩, n3, n4⟩⟩
  have IF : Acc.InitFn Γ (bare sc noC noM BB anyE) 38 25 := ⟨⟨fd, q1, q2, q3, q4, rp, p0, p1, ap, pos, F.at H.X H.cells, F.sup H.X H.prog h1 h2 h3 H.top H.sup, h4, h5, h6, fun s k v => h7 s (H.X.keeps k) v, h8, h9⟩, H.cell⟩
  intro A hA a ds kw objs Q s ρ vs kvs Q' B R hC hvs hkvs hd
  obtain ⟨rfl, rfl, rfl, hq⟩ := hC
  obtain rfl := hkvs.nil_inv; cases hvs
  have hcall := Acc.cls_call HC HF (by rw [H.cA]; exact hm) (by rw [H.cA]; exact fi) t4 IF (orc_bare H.toLaw1.G .none mnone bb_n) (fun _ => trivial) (m := 0) hA H.lim B R hq hd
  rw [H.cA] at hcall
  refine ⟨?_, hcall⟩
  obtain ⟨k, hk, hl⟩ := looks_keep (M := model Γ.prog Γ.w) (keep_K Γ.w rfl) (H.X.keeps B.keep)
  exact ⟨k, hk.imp id .inl, hl⟩
theorem strb_n : ∀ A, AOk 3 A → ∀ v, PS Γ A (fun vs => call v vs) (Acc.StrB v) := fun A hA v => by
  refine str_K Γ.w rfl _ fun fd e1 ap pos rp f1 f2 f3 f4 fap fpos fkk gs gp pa pb pt kt sp F a1 a2 a3 a4 a5 a6 a7 a8 a9 b1 b2 b3 b4 b5 => ?_
  obtain ⟨cd, HC, hqn⟩ := H.clsOk
  refine cls_facts Γ.w rfl _ fun cd' _ _ _ _ _ _ fi fs _ _ _ _ _ _ => ?_
  refine types_K Γ.w rfl _ fun _ _ _ _ _ t5 _ => ?_
  obtain ⟨te, hte⟩ := H.es
  have SF : Acc.StrFn Γ 75 74 te := ⟨⟨fd, e1, ap, pos, rp, f1, f2, f3, f4, fap, fpos, fkk, gs, gp, pa, pb, pt, kt, sp, F.at H.X (fun p hp => nomatch hp), a1, a2, a3, a4, a5, a6, a7, a8, a9, b1, b2, b3, b4, b5⟩, hte⟩
  exact Acc.strb_ok HC (by rw [H.cA]; exact fi) H.T70 H.BM SF (by rw [H.cA]; exact fs) t5 H.lim hA v
theorem pileB_n : ∀ A, AOk 3 A → ∀ v, PS Γ A (fun vs => call v vs) (pileB v) := fun A hA v ds objs Q s ρ vs Q' B R hf hv hd =>
  hf.elim (fun hf => bb_n A hA v ds objs Q s ρ vs Q' B R hf hv hd) fun hf => strb_n H A hA v ds objs Q s ρ vs Q' B R hf hv hd
theorem pile_ok : COkN Γ 4 pileC := by
  obtain ⟨fd, body, sc, ⟨F, hsc, hc, hnd, hl, hbind⟩, hw⟩ := pile_W Γ.w rfl
  intro A hA a ds kw objs Q s ρ vs kvs Q' B R hC hvs hkvs hd
  obtain ⟨rfl, rfl, n, q, rfl, ho, hlen, ha, hq⟩ := hC
  obtain rfl := hkvs.nil_inv
  obtain ⟨_, rfl, hv1⟩ := hvs.inv1
  exact F.meets (P := bare sc (COr (COr clsC popC) (COr pushC partC)) accM pileB anyE) H.X hc H.lim (orc_bare H.toLaw1.G (.or (.or ((cls_okC H).mono (by omega)) ((pop_okC H).mono (by omega))) (.or ((push_ok H).mono (by omega)) ((part_ok H).mono (by omega)))) (accM_ok H) (pileB_n H)) hsc hnd (fun _ => trivial) hA B R (.of_eq (hbind _)) hl rfl (by decide)
    (.cons hv1 (.nil (l := [(Str.ofString "pile", none), (Str.ofString "gone", none), (Str.ofString "blanks", none), (Str.ofString "card", none), (Str.ofString "piece", none), (Str.ofString "rest", none)]) (by simp))) (hd.exact hq) (hw n q objs ho hlen ha)
theorem passL_ok : COkN Γ 4 passL := .or (.or (.or ((marks_ok H.toLaw1).mono (by omega)) ((wrong_ok H.toLaw1).mono (by omega))) (.or ((stops_ok H.toLaw1).mono (by omega)) (laid_ok H.toLaw1 H.T161 rfl H.BM))) (.or (pile_ok H) ((lev_ok H.toLaw1).mono (by omega)))
noncomputable def passC : CT := fun a ds kw o Q => a = 178 ∧ kw = [] ∧ ∃ n m, ds = [.obj n] ∧ o[n]? = some (.list (sD m)) ∧ wf m = true ∧ good 5 0 m = true ∧ ∀ g, Q (.bool true) (o ++ g)
theorem passes_ok : COkN Γ 5 passC := by
  obtain ⟨fd, body, sc, ⟨F, hsc, hnd, hl, hbind⟩, hw⟩ := passes_W Γ.w rfl
  intro A hA a ds kw objs Q s ρ vs kvs Q' B R hC hvs hkvs hd
  obtain ⟨rfl, rfl, n, m, rfl, ho, h1, h2, hq⟩ := hC
  obtain rfl := hkvs.nil_inv
  obtain ⟨_, rfl, hv1⟩ := hvs.inv1
  have hd' : Done Γ ρ s (fun d o' => d = .bool true ∧ ∃ g, o' = objs ++ g) Q' := fun d o' ρ' v s' h B O x hv => by
    obtain ⟨rfl, g, rfl⟩ := h
    exact hd _ _ ρ' v s' (hq g) B O x hv
  exact F.meetsC (n := 4) (P := full sc passL noM BB anyE noZ) H.X H.lim (orc_full H.toLaw1.G (passL_ok H) mnone bb_n noz) hsc hnd (fun _ _ _ => trivial) hA B R (hbind _) hl rfl (by decide) (.cons hv1 (.nil (l := [(Str.ofString "order", none), (Str.ofString "marks", none), (Str.ofString "left", none), (Str.ofString "turn", none), (Str.ofString "stops", none), (Str.ofString "told", none), (Str.ofString "pieces", none), (Str.ofString "gone", none), (Str.ofString "rest", none), (Str.ofString "last", none), (Str.ofString "righted", none), (Str.ofString "behind", none), (Str.ofString "apart", none)]) (by simp))) hd' (hw n m objs ho h1 h2)
noncomputable def orderC : CT := fun a ds kw o Q => a = 142 ∧ kw = [] ∧ ∃ ns : List Int, ds = [.fz (ns.map D.int)] ∧ ns.length ≤ 63 ∧ ∀ l ∈ ordsF 5, ∀ g, Q (.obj o.length) (o ++ [.list (sD l)] ++ g)
theorem order_ok : COkN Γ 1 orderC := by
  obtain ⟨fd, body, sc, ⟨F, hsc, hc, hnd, hl, hbind⟩, hw⟩ := order_W Γ.w rfl
  intro A hA a ds kw objs Q s ρ vs kvs Q' B R hC hvs hkvs hd
  obtain ⟨rfl, rfl, ns, rfl, h1, hq⟩ := hC
  obtain rfl := hkvs.nil_inv
  obtain ⟨_, rfl, hv1⟩ := hvs.inv1
  have hd' : Done Γ ρ s (fun d o' => d = .obj objs.length ∧ ∃ l g, l ∈ ordsF 5 ∧ o' = objs ++ [.list (sD l)] ++ g) Q' := fun d o' ρ' v s' h B O x hv => by
    obtain ⟨rfl, l, g, hl, rfl⟩ := h
    exact hd _ _ ρ' v s' (hq l hl g) B O x hv
  exact F.meets (n := 0) (P := full2 sc noC noM BB anyE) H.X hc H.lim (orc_full2 H.toLaw1.G .none mnone bb_n) hsc hnd (fun _ => trivial) hA B R (.of_eq (hbind _)) hl rfl (by decide) (.cons hv1 (.nil (l := [(Str.ofString "order", none), (Str.ofString "k", none), (Str.ofString "base", none), (Str.ofString "drawn", none)]) (by simp))) hd' (hw ns objs h1)
end

open PySem PySem.W PySem.Spec PySem.Calls PyProof.Rows
set_option Elab.async false
set_option maxRecDepth 100000
set_option linter.unusedVariables false
set_option linter.unusedSimpArgs false
set_option maxHeartbeats 2000000
theorem glob_K (w : World) : PySem.Challenge.rw_re0083_01.prog = PySem.Challenge.rw_re0083_01.prog → ∀ (C : Prop), (∀ oc od es ep osl t1 t2 t3 t4, ((hd1.heap_1 w.params).lookup mainGlobals = some ⟨oc, od, .dict es ep, osl⟩) → (nsFind es (Str.ofString "_CASE_COST") = some (.int 1 t1)) → (nsFind es (Str.ofString "_MOVE_COST") = some (.int 2 t2)) → (nsFind es (Str.ofString "_MAX_STRING_SIZE") = some (.int 40 t3)) → (nsFind es (Str.ofString "EMPTYSTRING") = some (.str "" t4)) → ((∀ p ∈ [(Str.ofString "_substitution_cost", (130 : Addr)), (Str.ofString "_levenshtein_distance", 137), (Str.ofString "bisect_right", 123), (Str.ofString "insort_right", 114), (Str.ofString "_law_order", 142), (Str.ofString "_law_marks", 147), (Str.ofString "_law_wrong_pairs", 154), (Str.ofString "_law_stops", 159), (Str.ofString "_law_laid", 166), (Str.ofString "_law_through_a_pile", 173), (Str.ofString "_law_passes", 178), (Str.ofString "_Accumulator", 101)], nsFind es p.1 = some (.ref p.2))) → ((∀ x ∈ [Str.ofString "len", Str.ofString "min", Str.ofString "max", Str.ofString "sum", Str.ofString "list", Str.ofString "range", Str.ofString "enumerate", Str.ofString "str", Str.ofString "super"], nsFind es x = none)) → C) → C := by
  k_fill
  intro _
  refine fun _ k9 => k9 _ _ _ _ _ _ _ _ _ (by k_is) (by first | rfl | kernel_rfl) (by first | rfl | kernel_rfl) (by first | rfl | kernel_rfl) (by first | rfl | kernel_rfl) ?_ ?_
  · intro p hp
    simp only [List.mem_cons, List.not_mem_nil, or_false] at hp
    rcases hp with rfl | rfl | rfl | rfl | rfl | rfl | rfl | rfl | rfl | rfl | rfl | rfl <;> first | rfl | kernel_rfl
  · intro p hp
    simp only [List.mem_cons, List.not_mem_nil, or_false] at hp
    rcases hp with rfl | rfl | rfl | rfl | rfl | rfl | rfl | rfl | rfl <;> first | rfl | kernel_rfl
theorem code_K (w : World) : PySem.Challenge.rw_re0083_01.prog = PySem.Challenge.rw_re0083_01.prog → (∃ o vs file tf flags tg inF text tt, (hd1.heap_1 w.params).lookup 74 = some o ∧ o.cls = .type "code" ∧ o.data = .fields vs ∧ vs[11]? = some (.ref 70) ∧ vs.getD 11 .none = .ref 70 ∧ vs.getD 18 .none = .str file tf ∧
    vs.getD 7 .none = .int flags tg ∧ vs.getD 9 .none = .bool inF ∧ vs.getD 10 .none = .int text tt) ∧ (∃ o vs file tf flags tg inF text tt, (hd1.heap_1 w.params).lookup 165 = some o ∧ o.cls = .type "code" ∧ o.data = .fields vs ∧ vs[11]? = some (.ref 161) ∧ vs.getD 11 .none = .ref 161 ∧ vs.getD 18 .none = .str file tf ∧
    vs.getD 7 .none = .int flags tg ∧ vs.getD 9 .none = .bool inF ∧ vs.getD 10 .none = .int text tt) ∧ (hd1.heap_1 w.params).lookup 70 = none ∧ (hd1.heap_1 w.params).lookup 161 = none := by
  k_fill
  intro _
  exact ⟨⟨_, _, _, _, _, _, _, _, _, by k_is, rfl, rfl, rfl, rfl, rfl, rfl, rfl, rfl⟩, ⟨_, _, _, _, _, _, _, _, _, by k_is, rfl, rfl, rfl, rfl, rfl, rfl, rfl, rfl⟩, by first | rfl | kernel_rfl, by first | rfl | kernel_rfl⟩

open PySem PySem.W PySem.Spec PySem.Calls PyProof.Rows
set_option Elab.async false
set_option maxRecDepth 100000
set_option linter.unusedVariables false
set_option linter.unusedSimpArgs false
set_option maxHeartbeats 2000000
noncomputable abbrev qualL : Str := "_law_laid" ++ ".<locals>." ++ "<lambda>"
noncomputable def TI1 (h : Heap) : Prop := (∃ ps, h.get? 70 = some (tabObj ps) ∧ TriplesOk ps.toList) ∧ (∃ ps, h.get? 161 = some (tabObj ps) ∧ TriplesOk ps.toList ∧ ∀ cv, codeAmong lposL ps.toList = some cv → h.CodeRec cv qualL)
theorem CodeRec.imm {h h' : Heap} {cv : Value} {q : Str} (x : h.CodeRec cv q) (k : ∀ a o, h.get? a = some o → ImmO o → h'.get? a = some o) : h'.CodeRec cv q := by
  obtain ⟨c, oc, vs, t, e1, e2, e3, e4⟩ := x
  exact ⟨c, oc, vs, t, e1, k _ _ e2 (.inr (.inr (.inr (.inr ⟨_, _, _, e3, e4⟩)))), e3, e4⟩
noncomputable def ctx1 (w : World) (h₀ : Heap) : Ctx where
  prog := PySem.Challenge.rw_re0083_01.prog
  w := w
  h₀ := h₀
  tabs := [70, 161]
  TI := TI1
  cA := 101
  tilive := fun h ⟨⟨ps, e, _⟩, ⟨ps', e', _⟩⟩ a ha => by
    rcases List.mem_cons.mp ha with rfl | ha
    · exact ⟨_, e⟩
    · rw [List.mem_singleton.mp ha]; exact ⟨_, e'⟩
  tiok := fun h h' ⟨⟨ps, e, t⟩, ⟨ps', e', t', c⟩⟩ k => ⟨⟨ps, k _ _ e (.inl (by decide)), t⟩, ⟨ps', k _ _ e' (.inl (by decide)), t', fun cv q => CodeRec.imm (c cv q) fun a o e i => k a o e (.inr i)⟩⟩
theorem ite_step {Φ : Str → D → Prop} {x a : Str} {d0 : D} {r : Option D} (h : Φ a d0) (k : ∀ d, r = some d → Φ x d) (d : D) (e : (if x = a then some d0 else r) = some d) : Φ x d := by
  by_cases q : x = a
  · rw [if_pos q] at e; cases e; exact q ▸ h
  · rw [if_neg q] at e; exact k d e
theorem gok_step {Γ : Ctx} {x a : Str} {d0 : D} {r : Option D} (h : (a == ("__debug__" : Str)) = false ∧ ∃ v, PlainV v d0 ∧ GlobIs Γ.h₀ a v) (k : ∀ d, r = some d → (x == ("__debug__" : Str)) = false ∧ ∃ v, PlainV v d ∧ GlobIs Γ.h₀ x v) :
    ∀ d, (if x = a then some d0 else r) = some d → (x == ("__debug__" : Str)) = false ∧ ∃ v, PlainV v d ∧ GlobIs Γ.h₀ x v := ite_step (Φ := fun x d => (x == ("__debug__" : Str)) = false ∧ ∃ v, PlainV v d ∧ GlobIs Γ.h₀ x v) h k
theorem law1A_of {w : World} {h : Heap} {mg mb : Str → Option Value} (X : (hd1.heap_1 w.params).In h) (h70 : h.get? 70 = some (tabObj #[])) (h161 : h.get? 161 = some (tabObj #[])) (g : h.Ns mainGlobals mg) (b : h.Ns builtinsNs mb) (lim : h.NoLimit)
    (bm : ∃ bm ob, mg "__builtins__" = some (.ref bm) ∧ bm ≠ builtinsNs ∧ h.get? bm = some ob ∧ ob.cls = .type "module" ∧ ob.dict = some builtinsNs ∧ ob.data = .plain) (bb : ∀ x : Str, x ≠ "__name__" → mb x = bootBuiltins x) :
    Law1A (ctx1 w (hideAll h [70, 161])) ∧ TI1 h := by
  have keep : ∀ a o, h.get? a = some o → (∀ ps, o ≠ tabObj ps) → (hideAll h [70, 161]).get? a = some o := fun a o e n => hideAll_get _ e fun q => by
    rcases List.mem_cons.mp q with rfl | q
    · rw [h70] at e; cases e; exact n _ rfl
    · rw [List.mem_singleton.mp q, h161] at e; cases e; exact n _ rfl
  have kns : ∀ a m, h.Ns a m → (hideAll h [70, 161]).Ns a m := fun a m ⟨o, es, ep, e, d, r⟩ => ⟨o, es, ep, keep _ _ e (fun ps q => by rw [q] at d; cases d), d, r⟩
  obtain ⟨c74, c165, n70, n161⟩ := code_K w rfl
  have X0 : (hd1.heap_1 w.params).In (hideAll h [70, 161]) := fun a o e => hideAll_get _ (X _ _ e) fun q => by
    rcases List.mem_cons.mp q with rfl | q
    · rw [n70] at e; cases e
    · rw [List.mem_singleton.mp q, n161] at e; cases e
  have g0 := kns _ _ g
  have b0 := kns _ _ b
  have lim0 : (hideAll h [70, 161]).NoLimit := let ⟨mc, a, b⟩ := lim; ⟨mc, kns _ _ a, b⟩
  refine glob_K w rfl _ fun oc od es ep osl t1 t2 t3 t4 k1 k2 k3 k4 k5 k6 k7 => ?_
  have mgv : ∀ x, mg x = nsFind es x := fun x => by
    obtain ⟨o, es', ep', e, d, _, f⟩ := g
    rw [X _ _ k1] at e; cases e; cases d
    exact (f x).symm
  have gl : ∀ x v, nsFind es x = some v → GlobIs (hideAll h [70, 161]) x v := fun x v e => .inl ⟨mg, g0, (mgv x).trans e⟩
  have gb : ∀ x v, nsFind es x = none → x ≠ "__name__" → bootBuiltins x = some v → GlobIs (hideAll h [70, 161]) x v := fun x v e n q => .inr ⟨mg, mb, g0, (mgv x).trans e, b0, (bb x n).trans q⟩
  refine ⟨⟨⟨X0, fun x d e => ?_, lim0⟩, rfl, rfl, rfl, ?_, ?_, ?_, ?_, ?_⟩, ⟨⟨_, h70, trivial⟩, ⟨_, h161, trivial, fun cv e => by cases e⟩⟩⟩
  · unfold Gl at e
    revert d
    refine gok_step ?_ ?_
    · exact ⟨by decide, _, .int _ _, gl _ _ k2⟩
    refine gok_step ?_ ?_
    · exact ⟨by decide, _, .int _ _, gl _ _ k3⟩
    refine gok_step ?_ ?_
    · exact ⟨by decide, _, .int _ _, gl _ _ k4⟩
    refine gok_step ?_ ?_
    · exact ⟨by decide, _, .fn _, gb _ _ (k7 _ (by decide)) (by decide) (by first | rfl | kernel_rfl)⟩
    refine gok_step ?_ ?_
    · exact ⟨by decide, _, .fn _, gb _ _ (k7 _ (by decide)) (by decide) (by first | rfl | kernel_rfl)⟩
    refine gok_step ?_ ?_
    · exact ⟨by decide, _, .fn _, gb _ _ (k7 _ (by decide)) (by decide) (by first | rfl | kernel_rfl)⟩
    refine gok_step ?_ ?_
    · exact ⟨by decide, _, .fn _, gb _ _ (k7 _ (by decide)) (by decide) (by first | rfl | kernel_rfl)⟩
    refine gok_step ?_ ?_
    · exact ⟨by decide, _, .fn _, gb _ _ (k7 _ (by decide)) (by decide) (by first | rfl | kernel_rfl)⟩
    refine gok_step ?_ ?_
    · exact ⟨by decide, _, .fn _, gb _ _ (k7 _ (by decide)) (by decide) (by first | rfl | kernel_rfl)⟩
    refine gok_step ?_ ?_
    · exact ⟨by decide, _, .fn _, gb _ _ (k7 _ (by decide)) (by decide) (by first | rfl | kernel_rfl)⟩
    refine gok_step ?_ ?_
    · exact ⟨by decide, _, .fn _, gb _ _ (k7 _ (by decide)) (by decide) (by first | rfl | kernel_rfl)⟩
    refine gok_step ?_ ?_
    · exact ⟨by decide, _, .fn _, gl _ _ (k6 (_, _) (by decide))⟩
    refine gok_step ?_ ?_
    · exact ⟨by decide, _, .fn _, gl _ _ (k6 (_, _) (by decide))⟩
    refine gok_step ?_ ?_
    · exact ⟨by decide, _, .fn _, gl _ _ (k6 (_, _) (by decide))⟩
    refine gok_step ?_ ?_
    · exact ⟨by decide, _, .fn _, gl _ _ (k6 (_, _) (by decide))⟩
    refine gok_step ?_ ?_
    · exact ⟨by decide, _, .fn _, gl _ _ (k6 (_, _) (by decide))⟩
    refine gok_step ?_ ?_
    · exact ⟨by decide, _, .fn _, gl _ _ (k6 (_, _) (by decide))⟩
    refine gok_step ?_ ?_
    · exact ⟨by decide, _, .fn _, gl _ _ (k6 (_, _) (by decide))⟩
    refine gok_step ?_ ?_
    · exact ⟨by decide, _, .fn _, gl _ _ (k6 (_, _) (by decide))⟩
    refine gok_step ?_ ?_
    · exact ⟨by decide, _, .fn _, gl _ _ (k6 (_, _) (by decide))⟩
    refine gok_step ?_ ?_
    · exact ⟨by decide, _, .fn _, gl _ _ (k6 (_, _) (by decide))⟩
    refine gok_step ?_ ?_
    · exact ⟨by decide, _, .fn _, gl _ _ (k6 (_, _) (by decide))⟩
    refine gok_step ?_ ?_
    · exact ⟨by decide, _, .fn _, gl _ _ (k6 (_, _) (by decide))⟩
    intro _ e; cases e
  · exact {
      hd := by
        obtain ⟨o, vs, file, tf, flags, tg, inF, text, tt, e1, e2, e3⟩ := c74
        obtain ⟨a1, a2, a3, a4, a5, a6, a7⟩ := e3
        exact ⟨o, vs, file, tf, flags, tg, inF, text, tt, X0 _ _ e1, e2, a1, a2, a3, a4, a5, a6, a7, by decide⟩
      code := fun h t => t.1
      mem := by show (70 : Addr) ∈ [70, 161]; decide
      off := hideAll_none _ (by decide)
      step := fun h h' ps t k e tr => by
        obtain ⟨⟨ps0, e0, t0⟩, ⟨ps', e', t', c⟩⟩ := t
        exact ⟨⟨ps, e, tr⟩, ⟨ps', k _ _ (by decide) e', t', fun cv q => CodeRec.keep (c cv q) e0 t0 k⟩⟩ }
  · exact {
      hd := by
        obtain ⟨o, vs, file, tf, flags, tg, inF, text, tt, e1, e2, e3⟩ := c165
        obtain ⟨a1, a2, a3, a4, a5, a6, a7⟩ := e3
        exact ⟨o, vs, file, tf, flags, tg, inF, text, tt, X0 _ _ e1, e2, a1, a2, a3, a4, a5, a6, a7, by decide⟩
      code := fun h t => t.2
      mem := by show (161 : Addr) ∈ [70, 161]; decide
      off := hideAll_none _ (by decide)
      step := fun h h' ps t k e tr c => by
        obtain ⟨⟨ps0, e0, t0⟩, _⟩ := t
        exact ⟨⟨ps0, k _ _ (by decide) e0, t0⟩, ⟨ps, e, tr, c⟩⟩ }
  · obtain ⟨bm, ob, a1, a2, a3, a4, a5, a6⟩ := bm
    exact ⟨mg, bm, ob, g0, a1, a2, keep _ _ a3 (fun ps q => by rw [q] at a6; cases a6), a4, a5, a6⟩
  · exact gb _ _ (k7 _ (by decide)) (by decide) (by first | rfl | kernel_rfl)
  · exact ⟨t4, gl _ _ k5⟩

open PySem PySem.W PySem.Spec PySem.Calls PyProof.Rows
set_option Elab.async false
set_option maxRecDepth 100000
set_option linter.unusedVariables false
set_option maxHeartbeats 2000000
noncomputable abbrev rw1 : RowW := PySem.Challenge.rw_re0083_01.row.toRowW
theorem ints_of_shape {R : WRecords} : ∀ {xs : List WData}, WShape.hasItems R xs .int = true → ∃ ns : List Int, xs = ns.map WData.int
  | [], _ => ⟨[], rfl⟩
  | x :: r, h => by
    have h' : (WShape.has R x .int && WShape.hasItems R r .int) = true := h
    rw [Bool.and_eq_true] at h'
    obtain ⟨ns, rfl⟩ := ints_of_shape h'.2
    obtain ⟨i, rfl⟩ := hasW_int h'.1
    exact ⟨i :: ns, rfl⟩
theorem law_args {args : List WData} (h : rw1.claim.pre args = true) : ∃ ns : List Int, args = [.list (ns.map .int)] ∧ ns.length ≤ 63 := by
  obtain ⟨h1, h2⟩ := pre_splitW h
  obtain ⟨d, r, rfl, h3, h4⟩ := hasAllW_cons (e := .list .int) (es := []) h1
  obtain rfl : r = [] := by cases r with | nil => rfl | cons _ _ => cases h4
  obtain ⟨xs, rfl, h5⟩ := hasW_list h3
  obtain ⟨ns, rfl⟩ := ints_of_shape h5
  refine ⟨ns, rfl, ?_⟩
  have e2 : rw1.pre = .and (.not (.lt (.lit (.int 63)) (.len (.arg 0)))) (.lit (.bool true)) := rfl
  rw [e2] at h2
  by_cases q : (63 : Int) < ((ns.map WData.int).length : Nat)
  · exfalso
    have e4 : WTm.value rw1.records (.not (.lt (.lit (.int 63)) (.len (.arg 0)))) { args := [.list (ns.map .int)] } = some (.bool (!(decide ((63 : Int) < ((ns.map WData.int).length : Nat))))) := rfl
    rw [decide_eq_true q] at e4
    have h3 := (holds_andW h2).1
    unfold WTm.holds at h3
    rw [e4] at h3
    exact Bool.false_ne_true h3
  · rw [List.length_map] at q; omega
theorem law_vals {w : World} {h : Heap} {vals : List Value} {ns : List Int} (r : WellAll w.params h vals [.list (ns.map .int)]) : ∃ L vs, vals = [.ref L] ∧ h.get? L = some (listOf (List.toArray vs) 0) ∧ ∀ (Γ : Ctx) h' ρ, VAll Γ h' ρ vs (ns.map D.int) := by
  obtain _ | ⟨h1, _ | _⟩ := r
  cases h1 with
  | @list a vs xs ha hw =>
  refine ⟨a, vs, rfl, ha, fun Γ h' ρ => ?_⟩
  clear ha
  induction ns generalizing vs with
  | nil => cases hw; exact .nil
  | cons n r ih =>
    cases hw with
    | cons a b =>
      cases a
      exact .cons (.int _ _) (ih b)
theorem law_W (C M B K J X Y E sc) (hsc : sc = [(Str.ofString "script", NameKind.local), (Str.ofString "_law_passes", NameKind.globalImplicit), (Str.ofString "_law_order", NameKind.globalImplicit)]) (h1 : ∀ a ds kw o Q, passC a ds kw o Q → C a ds kw o Q) (h2 : ∀ a ds kw o Q, orderC a ds kw o Q → C a ds kw o Q) {p1 p2 p3 p4 p5 p6 : Pos} (ns : List Int) (hn : ns.length ≤ 63) :
    WSs ⟨sc, Gl, C, M, B, K, J, X, Y, E⟩ [.Return (some (.Call (.Name (Str.ofString "_law_passes") p1) [.Call (.Name (Str.ofString "_law_order") p2) [.Name (Str.ofString "script") p3] [] p4] [] p5)) p6] [(Str.ofString "script", some (.fz (ns.map D.int)))] [] (fun fl _ o' => retD fl = .bool true) := by
  subst hsc
  refine r_cons (r_return (r_call (v := .ref 178) (by kernel_rfl) rfl (r_esc (r_call (v := .ref 142) (by kernel_rfl) rfl (r_esc (r_name (d := .fz (ns.map D.int)) (by simp [nameF, lkS, getLo, ofString_eq]) (r_esn (r_ksn (b_fn (h2 _ _ _ _ _ ⟨rfl, rfl, ns, rfl, hn, fun l hl g => ?_⟩))))))))))
  refine r_esn (r_ksn (b_fn (h1 _ _ _ _ _ ⟨rfl, rfl, _, l, rfl, by simp, (ords_good hl).1, (ords_good hl).2, fun g2 => ?_⟩)))
  exact r_seqr rfl

open PySem PySem.W PySem.Spec PySem.Calls PyProof.Rows
set_option Elab.async false
set_option maxRecDepth 100000
set_option linter.unusedVariables false
set_option maxHeartbeats 2000000
theorem ct_of {h h₀ : Heap} {c P : Addr} (k : ∀ b o, h₀.get? b = some o → h.get? b = some o) (H : CodeHd h₀ c P) : isCodeTable h P := by
  obtain ⟨o, vs, _, _, _, _, _, _, _, e1, e2, e3, e4, _⟩ := H
  exact ⟨c, o, vs, k _ _ e1, e2, e3, e4⟩
theorem law1_holds : PySem.Challenge.rw_re0083_01.Holds := by
  refine hd1 fun w s₀ s₁ mg mb G Y a o pm cd doc dV kV ho hd hcd hdf hnm hgens args vals as hpre hlay hreads hwell hlow => ?_
  obtain rfl : dV = .none := by
    rcases hdf.pos with h | h
    · exact h.2
    · exact absurd rfl h.1
  obtain rfl : kV = .none := by
    rcases hdf.kw with h | h
    · exact h.2
    · exact absurd rfl h.1
  obtain ⟨ns, rfl, hn⟩ := law_args hpre
  obtain ⟨L, vs, rfl, hL, hvs⟩ := law_vals hwell
  have X := km_in_of Y
  have h70 := km_tabs_of Y 70 (by decide)
  have h161 := km_tabs_of Y 161 (by decide)
  obtain ⟨H, ti⟩ := law1A_of X h70 h161 G.T.g G.T.b G.T.nolimit G.T.bmain G.T.builtins
  have keep : ∀ a o, s₁.heap.get? a = some o → (∀ ps, o ≠ tabObj ps) → (hideAll s₁.heap [70, 161]).get? a = some o := fun a o e n => hideAll_get _ e fun q => by
    rcases List.mem_cons.mp q with rfl | q
    · rw [h70] at e; cases e; exact n _ rfl
    · rw [List.mem_singleton.mp q, h161] at e; cases e; exact n _ rfl
  generalize hΓ : ctx1 w (hideAll s₁.heap [70, 161]) = Γ at H
  have eh : Γ.h₀ = hideAll s₁.heap [70, 161] := by rw [← hΓ]; rfl
  have ew : Γ.w = w := by rw [← hΓ]; rfl
  have ep : Γ.prog = PySem.Challenge.rw_re0083_01.prog := by rw [← hΓ]; rfl
  have et : Γ.tabs = [70, 161] := by rw [← hΓ]; rfl
  have eTI : ∀ h, Γ.TI h = TI1 h := fun h => by rw [← hΓ]; rfl
  have B : Base Γ s₁ := ⟨fun b o e => of_hideAll _ (eh ▸ e), by rw [eTI]; exact ti, AllBare.of_eq hgens⟩
  have ct : ∀ c P, CodeHd Γ.h₀ c P → isCodeTable s₁.heap P := fun c P H => ct_of (fun b o e => of_hideAll _ (eh ▸ e)) H
  have hcode : Γ.h₀.CodeRec cd (Str.ofString "law") := by
    obtain ⟨c, oc, vs', t, e1, e2, e3, e4⟩ := hcd
    refine ⟨c, oc, vs', t, e1, ?_, e3, e4⟩
    rw [eh]
    refine hideAll_get _ e2 fun q => ?_
    rcases List.mem_cons.mp q with rfl | q
    · rw [h70] at e2; cases e2; cases e3; simp at e4
    · rw [List.mem_singleton.mp q, h161] at e2; cases e2; cases e3; simp at e4
  have main : wpAny (model Γ.prog Γ.w) callerA (call (.ref a) [.ref L] []) (fun v s' => GoodWG rw1.claim (classAt s₀.heap) (ExcName.means s₀.heap) [.list (ns.map .int)] s₁ (.ok (.ret v)) s') NoE s₁ := by
    refine call_fn (n := 5) (P := bare [(Str.ofString "script", NameKind.local), (Str.ofString "_law_passes", NameKind.globalImplicit), (Str.ofString "_law_order", NameKind.globalImplicit)] (COr passC orderC) noM BB anyE) (ρ := []) (objs := [])
      ⟨⟨o, by rw [eh]; exact keep _ _ ho (fun ps q => by rw [q] at hd; cases hd), hd⟩, rfl, rfl, rfl, rfl, hcode, show ∀ x ∈ ([(Str.ofString "script", NameKind.local), (Str.ofString "_law_passes", NameKind.globalImplicit), (Str.ofString "_law_order", NameKind.globalImplicit)] : List (Str × NameKind)), x.2 ≠ .cell by decide, rfl, rfl, rfl⟩ ⟨rfl, by decide, by decide, [], rfl⟩ H.lim rfl (orc_bare H.toLaw1.G (.or (passes_ok H) ((order_ok H).mono (by omega))) mnone bb_n) (nd_of (by decide)) B R0
      (BindsTo.of_eq (binds := [(Str.ofString "script", .ref L)]) rfl) (fun x hx => by rw [List.mem_singleton.mp hx]; show List.lookup (Str.ofString "script") ([(Str.ofString "script", NameKind.local), (Str.ofString "_law_passes", NameKind.globalImplicit), (Str.ofString "_law_order", NameKind.globalImplicit)] : List (Str × NameKind)) = some .local; decide) (loc := [(Str.ofString "script", some (.fz (ns.map D.int)))])
      (fun x d e => BLoc.rev (.cons (.fz (by rw [eh]; exact keep _ _ hL (fun ps q => by cases q)) (hvs _ _ _)) .done) (show ([Str.ofString "script"] : List Str).Nodup by decide) e)
      (law_W (COr passC orderC) noM BB KK JJ _ _ _ _ rfl (fun _ _ _ _ _ h => .inl h) (fun _ _ _ _ _ h => .inr h) ns hn) (Qf := fun d o => d = .bool true) ?_ (fun _ => trivial)
    rintro d o' ρ' v s' rfl B' O' x hv
    cases hv
    have ti' := B'.ti
    rw [eTI] at ti'
    obtain ⟨⟨p1, q1, _⟩, ⟨p2, q2, _⟩⟩ := ti'
    refine ⟨.inl ⟨_, .bool true, [], rfl, fun _ => rfl, ReadsW.bool true, ?_, fun _ => ⟨List.nodup_nil, fun _ hm => (nomatch hm)⟩⟩, ⟨fun b ob e => ?_, fun b ob e => x.live b ob e⟩, x.os, B'.gens⟩
    · first | rfl | wrow_post | (simp [RowW.claim, rw1]; done)
    · by_cases z1 : b = 70
      · subst z1
        rw [h70] at e; cases e
        exact .inr (.inl ⟨ct _ _ H.T70.hd, rfl, #[], p1, rfl, by rw [q1]; simp⟩)
      by_cases z2 : b = 161
      · subst z2
        rw [h161] at e; cases e
        exact .inr (.inl ⟨ct _ _ H.T161.hd, rfl, #[], p2, rfl, by rw [q2]; simp⟩)
      exact .inl (x.keep b ob e (by rw [et]; simp [z1, z2]) (fun q => nomatch q))
  rw [ep, ew] at main
  exact wpAny_mono main (fun v s' h => h) fun _ _ h => h.elim
end Mine

set_option maxRecDepth 100000 in
set_option maxHeartbeats 8000000 in
theorem PySem.Challenge.cw_re0083_01_holds : PySem.Challenge.rw_re0083_01.Holds := by
  exact Mine.law1_holds
