import PyProof.Rows.All
import Wide.All
import OpenK.AllK
import Wide.FinOn
import PySem.Builtin.Re_Pattern.W2All
import Lean
import PySem.Challenge.RW_oh0022_01
set_option Elab.async false
set_option maxRecDepth 100000
set_option linter.unusedVariables false
set_option linter.unusedSimpArgs false
set_option linter.deprecated false
namespace Oh
open PySem PySem.W PyProof.Rows in
set_option maxHeartbeats 8000000 in
open_top hd for PySem.Challenge.rw_oh0022_01
end Oh

section
set_option tactic.hygienic false
-- OhOm
namespace Oh
/-! small facts of arithmetic, each proved once -/
theorem om_fuel {a q c f : Nat} (h : a - q ≤ f + 1) (hq : q < c) : a - c ≤ f := by omega
theorem om_fuel' {n a b q c : Nat} (hn : n = a - q) (hb : b = a) (hc : q < c ∧ c < b) : a - c < n := by
  rw [hn]; exact Nat.sub_lt_sub_left (hb ▸ Nat.lt_trans hc.1 hc.2) hc.1
theorem om_fuel2 {a d c f : Nat} (h : a - d < f + 1) (h1 : d < c) (h2 : c ≤ a) : a - c < f :=
  Nat.lt_of_lt_of_le (Nat.sub_lt_sub_left (Nat.lt_of_lt_of_le h1 h2) h1) (Nat.le_of_lt_succ h)
theorem om_up {i : Nat} (h : 0 < i) : (i - 1) / 2 < i := Nat.lt_of_le_of_lt (Nat.div_le_self _ _) (Nat.sub_lt h Nat.one_pos)
theorem om_up2 {i n : Nat} (h0 : 0 < i) (h : i < n) : (i - 1) / 2 < n := Nat.lt_trans (om_up h0) h
theorem om_upNe {i q : Nat} (h : 0 < i) (e : (i - 1) / 2 = q) : i ≠ q := fun z => absurd (om_up h) (by rw [e, z]; exact Nat.lt_irrefl _)
theorem om_par {i q : Nat} (h : 0 < i) (e : (i - 1) / 2 = q) : i = 2 * q + 1 ∨ i = 2 * q + 2 := by omega
theorem om_min {i a b k : Nat} (h : min a b - i = k + 1) : i < a ∧ i < b ∧ min a b - (i + 1) = k :=
  have q := Nat.lt_min.mp (Nat.lt_of_sub_eq_succ h)
  ⟨q.1, q.2, by rw [← Nat.sub_sub, h]; rfl⟩
theorem om_min1 {i a b : Nat} (h : min a b ≤ i) : a ≤ i ∨ b ≤ i :=
  (Nat.le_total a b).elim (fun q => .inl (by rwa [Nat.min_eq_left q] at h)) (fun q => .inr (by rwa [Nat.min_eq_right q] at h))
theorem om_min0 {i a b : Nat} (h : min a b - i = 0) : a ≤ i ∨ b ≤ i := om_min1 (Nat.le_of_sub_eq_zero h)
theorem om_drop {i a b : Nat} (h1 : i ≤ a) (h : i ≤ b) : a - i < b - i ↔ a < b := ⟨fun q => (Nat.lt_sub_iff_add_lt.mp q |> fun z => by rwa [Nat.sub_add_cancel h1] at z), fun q => Nat.sub_lt_sub_right h1 q⟩
theorem om_last {n : Nat} (h : 1 ≤ n) : ((-1 : Int) + (n : Int)).toNat = n - 1 := by omega
theorem om_pred {n : Nat} (h : 1 ≤ n) : n - 1 < n := Nat.sub_lt h Nat.one_pos
theorem om_rest {a b : Nat} : min a b + (b - (a + 1)) ≤ b := by
  rcases Nat.lt_or_ge a b with h | h
  · rw [Nat.min_eq_left (Nat.le_of_lt h)]; omega
  · rw [Nat.min_eq_right h, Nat.sub_eq_zero_of_le (Nat.le_succ_of_le h)]; exact Nat.le_refl _
theorem om_half (n : Nat) : n - n / 2 + n / 2 = n := Nat.sub_add_cancel (Nat.div_le_self _ _)
theorem om_halfI (n : Nat) : ((n : Int) / 2).toNat = n / 2 := rfl
theorem om_next {a j k : Nat} (h : a - j = k + 1) : j < a ∧ a - (j + 1) = k := ⟨Nat.lt_of_sub_eq_succ h, by rw [← Nat.sub_sub, h]; rfl⟩
theorem om_midL {l h : Nat} (q : l < h) : l ≤ (l + h) / 2 ∧ (l + h) / 2 < h := by omega
theorem om_mir {n i : Nat} (h : 1 ≤ n) : 0 + n - 1 - i < n := by rw [Nat.zero_add]; exact Nat.lt_of_le_of_lt (Nat.sub_le _ _) (om_pred h)
theorem om_fill {m n k : Nat} (h : n ≤ k) (b : m ≤ n + (k - n)) : m ≤ k := Nat.le_trans b (Nat.le_of_eq (Nat.add_sub_cancel' h))
theorem om_rev {a n k : Nat} (h : a ≤ k ∧ k < n) : a ≤ a + n - 1 - k ∧ a + n - 1 - k < n := by omega
theorem om_ends {i a b : Nat} (h : i ≤ min a b) (h' : min a b ≤ i) : i ≤ a ∧ i ≤ b ∧ (a ≤ i ∨ b ≤ i) := ⟨Nat.le_trans h (Nat.min_le_left _ _), Nat.le_trans h (Nat.min_le_right _ _), om_min1 h'⟩
theorem om_stop {a j : Nat} (h : a - (j + 1) = 0) (hj : j + 1 ≤ a) : j + 1 = a := Nat.le_antisymm hj (Nat.le_of_sub_eq_zero h)
theorem om_two {a b q r n i' : Nat} (h : (a - q) + (b - r) ≤ n + 1) (hq : q < a) (hi : q + 1 ≤ i') : (a - i') + (b - r) ≤ n := by omega
theorem om_two' {a b q r n j' : Nat} (h : (a - q) + (b - r) ≤ n + 1) (hq : r < b) (hi : r + 1 ≤ j') : (a - q) + (b - j') ≤ n := by omega
end Oh

-- OhA
namespace Oh
open PySem PySem.W PyProof.Rows

/-- a plain list object -/
noncomputable def LstAt (h : Heap) (a : Addr) (vs : List Value) : Prop := ∃ n, h.get? a = some (listOf vs.toArray n)
theorem LstAt.isList {h : Heap} {a : Addr} {vs : List Value} (l : LstAt h a vs) : h.IsList a vs.toArray := by
  obtain ⟨n, e⟩ := l; exact ⟨_, e, rfl, n, rfl⟩

/-! ## values that stand for data, outside the mutable addresses M -/
mutual
inductive Rep (M : List Addr) (h : Heap) : Value → PyData → Prop
  | none : Rep M h .none .none
  | bool (b : Bool) : Rep M h (.bool b) (.bool b)
  | int (i : Int) (t : Tok) : Rep M h (.int i t) (.int i)
  | str (x : Str) (t : Tok) : PyData.strOk x = true → Rep M h (.str x t) (.str x)
  | list {a : Addr} {vs : List Value} {ds : List PyData} : a ∉ M → LstAt h a vs → RepL M h vs ds → Rep M h (.ref a) (.list ds)
  | tuple {a : Addr} {vs : List Value} {ds : List PyData} : a ∉ M → IsTup h a vs.toArray → RepL M h vs ds → Rep M h (.ref a) (.tuple ds)
inductive RepL (M : List Addr) (h : Heap) : List Value → List PyData → Prop
  | nil : RepL M h [] []
  | cons {v : Value} {vs : List Value} {d : PyData} {ds : List PyData} : Rep M h v d → RepL M h vs ds → RepL M h (v :: vs) (d :: ds)
end

/-- every object outside M is kept -/
noncomputable def KeepM (M : List Addr) (h h' : Heap) : Prop := ∀ b o, b ∉ M → h.get? b = some o → h'.get? b = some o
theorem KeepM.refl {M : List Addr} {h : Heap} : KeepM M h h := fun _ _ _ e => e
theorem KeepM.trans {M : List Addr} {h h' h'' : Heap} (a : KeepM M h h') (b : KeepM M h' h'') : KeepM M h h'' := fun x o hx e => b x o hx (a x o hx e)
theorem KeepM.sub {M M' : List Addr} {h h' : Heap} (a : KeepM M h h') (hs : ∀ x ∈ M, x ∈ M') : KeepM M' h h' := fun x o hx e => a x o (fun hm => hx (hs x hm)) e

theorem IsTup.keep {M : List Addr} {h h' : Heap} {a : Addr} {vs : Array Value} (k : KeepM M h h') (ha : a ∉ M) (t : IsTup h a vs) : IsTup h' a vs := by
  obtain ⟨o, ho, r⟩ := t; exact ⟨o, k a o ha ho, r⟩
theorem LstAt.keep {M : List Addr} {h h' : Heap} {a : Addr} {vs : List Value} (k : KeepM M h h') (ha : a ∉ M) (t : LstAt h a vs) : LstAt h' a vs := by
  obtain ⟨n, ho⟩ := t; exact ⟨n, k a _ ha ho⟩

mutual
theorem Rep.keep {M : List Addr} {h h' : Heap} (k : KeepM M h h') : ∀ {v : Value} {d : PyData}, Rep M h v d → Rep M h' v d
  | _, _, .none => .none
  | _, _, .bool b => .bool b
  | _, _, .int i t => .int i t
  | _, _, .str x t hx => .str x t hx
  | _, _, .list ha hl r => .list ha (LstAt.keep k ha hl) (RepL.keep k r)
  | _, _, .tuple ha hl r => .tuple ha (IsTup.keep k ha hl) (RepL.keep k r)
theorem RepL.keep {M : List Addr} {h h' : Heap} (k : KeepM M h h') : ∀ {vs : List Value} {ds : List PyData}, RepL M h vs ds → RepL M h' vs ds
  | _, _, .nil => .nil
  | _, _, .cons a b => .cons (Rep.keep k a) (RepL.keep k b)
end

theorem IsList.some {h : Heap} {a : Addr} {vs : Array Value} (t : h.IsList a vs) (q : h.get? a = none) : False := by obtain ⟨o, ho, _⟩ := t; rw [q] at ho; cases ho
theorem IsTup.some {h : Heap} {a : Addr} {vs : Array Value} (t : IsTup h a vs) (q : h.get? a = none) : False := by obtain ⟨o, ho, _⟩ := t; rw [q] at ho; cases ho
theorem get_size_none (h : Heap) : h.get? h.objs.size = none := by
  cases e : h.get? h.objs.size with
  | none => rfl
  | some o => exact absurd (Heap.lt_size e) (Nat.lt_irrefl _)

mutual
/-- another set of mutable addresses: old ones, or such as are no objects yet -/
theorem Rep.other {M M' : List Addr} {h : Heap} (k : ∀ a ∈ M', a ∈ M ∨ h.get? a = none) : ∀ {v : Value} {d : PyData}, Rep M h v d → Rep M' h v d
  | _, _, .none => .none
  | _, _, .bool b => .bool b
  | _, _, .int i t => .int i t
  | _, _, .str x t hx => .str x t hx
  | _, _, .list ha hl r => .list (fun hm => (k _ hm).elim ha fun q => IsList.some hl.isList q) hl (RepL.other k r)
  | _, _, .tuple ha hl r => .tuple (fun hm => (k _ hm).elim ha fun q => IsTup.some hl q) hl (RepL.other k r)
theorem RepL.other {M M' : List Addr} {h : Heap} (k : ∀ a ∈ M', a ∈ M ∨ h.get? a = none) : ∀ {vs : List Value} {ds : List PyData}, RepL M h vs ds → RepL M' h vs ds
  | _, _, .nil => .nil
  | _, _, .cons a b => .cons (Rep.other k a) (RepL.other k b)
end
theorem Rep.sub {M M' : List Addr} {h : Heap} (k : ∀ a ∈ M', a ∈ M) {v : Value} {d : PyData} (r : Rep M h v d) : Rep M' h v d := r.other fun a ha => .inl (k a ha)
theorem RepL.sub {M M' : List Addr} {h : Heap} (k : ∀ a ∈ M', a ∈ M) {v : List Value} {d : List PyData} (r : RepL M h v d) : RepL M' h v d := r.other fun a ha => .inl (k a ha)

mutual
theorem Rep.reads {M : List Addr} {h : Heap} : ∀ {v : Value} {d : PyData}, Rep M h v d → ∃ as, Reads h v d as
  | _, _, .none => ⟨_, .none⟩
  | _, _, .bool b => ⟨_, .bool b⟩
  | _, _, .int i t => ⟨_, .int i t⟩
  | _, _, .str x t _ => ⟨_, .str x t⟩
  | _, _, .list _ ⟨_, h1⟩ r => by obtain ⟨as, q⟩ := RepL.reads r; exact ⟨_, .list h1 rfl rfl (by simpa using q)⟩
  | _, _, .tuple _ ⟨_, h1, h2, _, h3⟩ r => by obtain ⟨as, q⟩ := RepL.reads r; exact ⟨_, .tuple h1 h2 h3 (by simpa using q)⟩
theorem RepL.reads {M : List Addr} {h : Heap} : ∀ {vs : List Value} {ds : List PyData}, RepL M h vs ds → ∃ as, ReadsAll h vs ds as
  | _, _, .nil => ⟨_, .nil⟩
  | _, _, .cons a b => by
    obtain ⟨as, q⟩ := Rep.reads a
    obtain ⟨bs, p⟩ := RepL.reads b
    exact ⟨_, .cons q p⟩
end
mutual
theorem Rep.lay {M : List Addr} {h : Heap} : ∀ {v : Value} {d : PyData}, Rep M h v d → d.canLay0 = true
  | _, _, .none => by simp [PyData.canLay0]
  | _, _, .bool b => by simp [PyData.canLay0]
  | _, _, .int i t => by simp [PyData.canLay0]
  | _, _, .str x t hx => by simpa [PyData.canLay0] using hx
  | _, _, .list _ _ r => by simpa [PyData.canLay0] using RepL.lay r
  | _, _, .tuple _ _ r => by simpa [PyData.canLay0] using RepL.lay r
theorem RepL.lay {M : List Addr} {h : Heap} : ∀ {vs : List Value} {ds : List PyData}, RepL M h vs ds → PyData.canLayAll0 ds = true
  | _, _, .nil => by simp [PyData.canLayAll0]
  | _, _, .cons a b => by simp [PyData.canLayAll0, Rep.lay a, RepL.lay b]
end

section
variable {M : List Addr} {h : Heap} {v : Value} {d : PyData} {vs ws : List Value} {ds es : List PyData}
theorem RepL.length (r : RepL M h vs ds) : vs.length = ds.length := by
  induction vs generalizing ds with
  | nil => cases r; rfl
  | cons v vs ih => cases r with | cons _ r => simp [ih r]
theorem RepL.append (r : RepL M h vs ds) (q : RepL M h ws es) : RepL M h (vs ++ ws) (ds ++ es) := by
  induction vs generalizing ds with
  | nil => cases r; exact q
  | cons v vs ih => cases r with | cons a r => exact .cons a (ih r)
theorem RepL.one (r : Rep M h v d) : RepL M h [v] [d] := .cons r .nil
theorem RepL.get (r : RepL M h vs ds) {k : Nat} (hd : ds[k]? = some d) : ∃ v, vs[k]? = some v ∧ Rep M h v d := by
  induction vs generalizing ds k with
  | nil => cases r; simp at hd
  | cons v vs ih =>
    cases r with
    | cons a r =>
      cases k with
      | zero => simp at hd; subst hd; exact ⟨v, rfl, a⟩
      | succ k => simpa using ih r (by simpa using hd)
theorem RepL.get' (r : RepL M h vs ds) {k : Nat} (hv : vs[k]? = some v) : ∃ d, ds[k]? = some d ∧ Rep M h v d := by
  induction vs generalizing ds k with
  | nil => simp at hv
  | cons u vs ih =>
    cases r with
    | cons a r =>
      cases k with
      | zero => simp at hv; subst hv; exact ⟨_, rfl, a⟩
      | succ k => simpa using ih r (by simpa using hv)
theorem RepL.take (r : RepL M h vs ds) (k : Nat) : RepL M h (vs.take k) (ds.take k) := by
  induction vs generalizing ds k with
  | nil => cases r; simp; exact .nil
  | cons u vs ih =>
    cases r with
    | cons a r =>
      cases k with
      | zero => simp; exact .nil
      | succ k => simpa using .cons a (ih r k)
theorem RepL.drop (r : RepL M h vs ds) (k : Nat) : RepL M h (vs.drop k) (ds.drop k) := by
  induction vs generalizing ds k with
  | nil => cases r; simp; exact .nil
  | cons u vs ih =>
    cases r with
    | cons a r =>
      cases k with
      | zero => simpa using .cons a r
      | succ k => simpa using ih r k
theorem RepL.set (r : RepL M h vs ds) (q : Rep M h v d) (k : Nat) : RepL M h (vs.set k v) (ds.set k d) := by
  induction vs generalizing ds k with
  | nil => cases r; simp; exact .nil
  | cons u vs ih =>
    cases r with
    | cons a r =>
      cases k with
      | zero => simpa using .cons q r
      | succ k => simpa using .cons a (ih r k)
/-- picked by indices -/
theorem RepL.pick (r : RepL M h vs ds) (l : List Nat) : RepL M h (l.filterMap (vs[·]?)) (l.filterMap (ds[·]?)) := by
  induction l with
  | nil => exact .nil
  | cons k l ih =>
    rw [List.filterMap_cons, List.filterMap_cons]
    cases hd : ds[k]? with
    | none =>
      have : vs[k]? = none := by rw [List.getElem?_eq_none_iff] at hd ⊢; rw [r.length]; exact hd
      rw [this]; exact ih
    | some d => obtain ⟨v, e, q⟩ := r.get hd; rw [e]; exact .cons q ih
end

/-! ## stores: what the names of a frame hold -/
inductive Slot where
  | frz (d : PyData)
  | own (a : Addr) (ds : List PyData)

noncomputable abbrev Store := List (Str × Slot)
noncomputable abbrev Fz (ρ : Store) (x : Str) (d : PyData) : Prop := ρ.lookup x = some (.frz d)
noncomputable abbrev Ow (ρ : Store) (x : Str) (a : Addr) (ds : List PyData) : Prop := ρ.lookup x = some (.own a ds)

end Oh

-- OhB
namespace Oh
open PySem PySem.W PyProof.Rows

/-- what the run of the top leaves, as far as it is asked -/
structure BaseOk (K : Frag) (hb : Heap) : Prop where
  X : K.In hb
  g : ∃ mg, hb.Ns mainGlobals mg
  b : ∃ mb, hb.Ns builtinsNs mb ∧ ∀ x : Str, x ≠ "__name__" → mb x = bootBuiltins x
  nl : hb.NoLimit
  seer : hb.NoSeer

/-- the values of a frame's names -/
structure NamesAre (env : Env) (h : Heap) (m : Str → Option Value) : Prop where
  loc : ∃ mL, h.Ns env.locals mL ∧ ∀ x, env.kindOf x = some .local → mL x = m x
  cell : ∀ x c, env.kindOf x = some .cell → env.cells.lookup x = some c → h.IsCell c (m x)

noncomputable def SlotOk (g : Heap) (I M : List Addr) (h : Heap) (v : Option Value) : Slot → Prop
  | .frz d => ∃ u, v = some u ∧ Rep M h u d
  | .own a ds => v = some (.ref a) ∧ a ∈ M ∧ (a ∈ I ∨ g.get? a = none) ∧ ∃ vs, LstAt h a vs ∧ RepL M h vs ds

/-- the state of a frame: the base and the entry heap are kept (but I), the names hold what the store says -/
structure St (hb g : Heap) (I M : List Addr) (env : Env) (ρ : Store) (h : Heap) : Prop where
  kb : KeepM [] hb h
  kg : KeepM I g h
  al : ∀ b o, g.get? b = some o → ∃ o', h.get? b = some o'
  bg : ∀ b o, hb.get? b = some o → g.get? b = some o ∧ b ∉ I
  glo : env.globals = mainGlobals ∧ env.builtins = builtinsNs
  kind : env.scope.kind = .function
  L1 : env.locals ∈ I ∨ g.get? env.locals = none
  LM : env.locals ∈ M
  ob : ∀ a ∈ M, ∃ o, h.get? a = some o
  cM : ∀ x c, env.cells.lookup x = some c → c ∈ M ∧ (env.func.isSome = true → c ∈ I ∨ g.get? c = none)
  cE : ∀ x, env.kindOf x = some .cell → ∃ c, env.cells.lookup x = some c
  cI : ∀ x y c, env.cells.lookup x = some c → env.cells.lookup y = some c → x = y
  names : ∃ m, NamesAre env h m ∧ ∀ x sl, ρ.lookup x = some sl → SlotOk g I M h (m x) sl
  oI : ∀ x y a ds es, ρ.lookup x = some (.own a ds) → ρ.lookup y = some (.own a es) → x = y

theorem ns_not_list {h : Heap} {L a : Addr} {mL : Str → Option Value} {vs : Array Value} (n : h.Ns L mL) (l : h.IsList a vs) : a ≠ L := by
  obtain ⟨o, es, ep, ho, hd, _⟩ := n
  obtain ⟨o', ho', _, k, hd'⟩ := l
  intro e; subst e
  rw [ho] at ho'; cases ho'; rw [hd] at hd'; cases hd'
theorem ns_not_cell {h : Heap} {L c : Addr} {mL : Str → Option Value} {v : Option Value} (n : h.Ns L mL) (l : h.IsCell c v) : c ≠ L := by
  obtain ⟨o, es, ep, ho, hd, _⟩ := n
  obtain ⟨o', ho', hd'⟩ := l
  intro e; subst e
  rw [ho] at ho'; cases ho'; rw [hd] at hd'; cases hd'
theorem list_not_cell {h : Heap} {a c : Addr} {vs : Array Value} {v : Option Value} (n : h.IsList a vs) (l : h.IsCell c v) : c ≠ a := by
  obtain ⟨o, ho, _, k, hd⟩ := n
  obtain ⟨o', ho', hd'⟩ := l
  intro e; subst e
  rw [ho] at ho'; cases ho'; rw [hd] at hd'; cases hd'
theorem ns_ob {h : Heap} {L : Addr} {mL : Str → Option Value} (n : h.Ns L mL) : ∃ o, h.get? L = some o := by
  obtain ⟨o, es, ep, ho, _⟩ := n; exact ⟨o, ho⟩

section
variable {hb g h h' : Heap} {I M : List Addr} {env : Env} {ρ : Store}

theorem St.ns (S : St hb g I M env ρ h) : ∃ mL, h.Ns env.locals mL := by
  obtain ⟨m, n, _⟩ := S.names; obtain ⟨mL, a, _⟩ := n.loc; exact ⟨mL, a⟩

theorem ne_of_kept {b c : Addr} {o : Obj} (hc : c ∈ I ∨ g.get? c = none) (hb' : b ∉ I) (e : g.get? b = some o) : b ≠ c := fun q => by
  subst q
  rcases hc with hc | hc
  · exact hb' hc
  · rw [hc] at e; cases e
/-- the heap has grown; the frame's dict says the same -/
theorem St.grow (S : St hb g I M env ρ h) (k : KeepM [env.locals] h h') (hn : ∀ mL, h.Ns env.locals mL → h'.Ns env.locals mL) : St hb g I M env ρ h' := by
  have hLb : ∀ b o, hb.get? b = some o → b ≠ env.locals := fun b o e => ne_of_kept S.L1 (S.bg b o e).2 (S.bg b o e).1
  have kM : KeepM M h h' := k.sub fun x hx => by simp at hx; rw [hx]; exact S.LM
  obtain ⟨m, n, sl⟩ := S.names
  obtain ⟨mL, n1, n2⟩ := n.loc
  refine { S with
    kb := fun b o hb' e => k b o (by simpa using hLb b o e) (S.kb b o hb' e)
    kg := fun b o hI e => k b o (by simpa using ne_of_kept S.L1 hI e) (S.kg b o hI e)
    al := fun b o e => by
      by_cases q : b = env.locals
      · rw [q]; exact ns_ob (hn _ n1)
      · obtain ⟨o', ho'⟩ := S.al b o e
        exact ⟨o', k b o' (by simpa using q) ho'⟩
    ob := fun a ha => ?_
    names := ⟨m, ⟨⟨mL, hn _ n1, n2⟩, fun x c hx hc => ?_⟩, fun x s hs => ?_⟩ }
  · by_cases e : a = env.locals
    · rw [e]; exact ns_ob (hn _ n1)
    · obtain ⟨o, ho⟩ := S.ob a ha; exact ⟨o, k a o (by simpa using e) ho⟩
  · have hcell := n.cell x c hx hc
    obtain ⟨o, ho, hd⟩ := id hcell
    exact ⟨o, k c o (by simpa using ns_not_cell n1 hcell) ho, hd⟩
  · have q := sl x s hs
    cases s with
    | frz d => obtain ⟨u, e, r⟩ := q; exact ⟨u, e, r.keep kM⟩
    | own a ds =>
      obtain ⟨e, h1, h2, vs, h3, h4⟩ := q
      exact ⟨e, h1, h2, vs, LstAt.keep k (by simpa using ns_not_list n1 h3.isList) h3, h4.keep kM⟩

/-- less is known of the names -/
theorem St.weak {ρ' : Store} (S : St hb g I M env ρ h) (hw : ∀ x sl, ρ'.lookup x = some sl → ρ.lookup x = some sl) : St hb g I M env ρ' h := by
  obtain ⟨m, n, sl⟩ := S.names
  exact { S with names := ⟨m, n, fun x s hs => sl x s (hw x s hs)⟩, oI := fun x y a ds es h1 h2 => S.oI x y a ds es (hw _ _ h1) (hw _ _ h2) }
end

/-! ## evaluation that changes no object but the frame's dict's inside -/
noncomputable def Ev {α : Type} (prog : Program) (w : World) (A : Around) (L : Addr) (t : Sem α) (s : Shared) (P : α → Heap → Prop) : Prop :=
  ∀ mL, s.heap.Ns L mL → ∀ (Q : α → Shared → Prop) (E : Value → Shared → Prop),
    (∀ v h' tk, KeepM [L] s.heap h' → h'.Ns L mL → P v h' → Q v { s with heap := h', toks := tk }) → wpAny (model prog w) A t Q E s

section
variable {α β : Type} {prog : Program} {w : World} {A : Around} {L : Addr} {s : Shared}
theorem Ev.pure {a : α} {P : α → Heap → Prop} (h : P a s.heap) : Ev prog w A L (Pure.pure a : Sem α) s P := fun _ hn _ _ k => wpAny_pure (k a s.heap s.toks KeepM.refl hn h)
theorem Ev.mono {t : Sem α} {P P' : α → Heap → Prop} (h : Ev prog w A L t s P) (hp : ∀ v h', P v h' → P' v h') : Ev prog w A L t s P' :=
  fun mL hn Q E k => h mL hn Q E fun v h' tk a b c => k v h' tk a b (hp v h' c)
/-- a rule that goes on in a new state, its heap kept: into Ev -/
theorem Ev.next {t : Sem α} {P : α → Heap → Prop}
    (h : ∀ mL, s.heap.Ns L mL → ∀ (Q : α → Shared → Prop) (E : Value → Shared → Prop), (∀ v h' tk, KeepM [L] s.heap h' → h'.Ns L mL → P v h' → Q v { s with heap := h', toks := tk }) → wpAny (model prog w) A t Q E s) : Ev prog w A L t s P := h
end

/-- all objects of a heap but the one at L, as a ledger -/
noncomputable def objsBut (h : Heap) (L : Addr) : List (Addr × Obj) :=
  (List.range h.objs.size).filterMap fun a => if a = L then none else (h.get? a).map fun o => (a, o)
theorem mem_objsBut {h : Heap} {L a : Addr} {o : Obj} : (a, o) ∈ objsBut h L ↔ h.get? a = some o ∧ a ≠ L := by
  unfold objsBut
  rw [List.mem_filterMap]
  constructor
  · rintro ⟨b, hb, e⟩
    by_cases q : b = L
    · rw [if_pos q] at e; cases e
    · rw [if_neg q] at e
      cases hg : h.get? b with
      | none => rw [hg] at e; cases e
      | some o' => rw [hg] at e; cases e; exact ⟨hg, q⟩
  · rintro ⟨e, q⟩
    exact ⟨a, List.mem_range.mpr (Heap.lt_size e), by rw [if_neg q, e]; rfl⟩
theorem empty_get (a : Addr) : ({} : Heap).get? a = none := by
  cases e : ({} : Heap).get? a with
  | none => rfl
  | some o => exact absurd (Heap.lt_size e) (Nat.not_lt_zero _)
theorem frE {h : Heap} {L : Addr} {mL : Str → Option Value} (n : h.Ns L mL) : Fr {} L h mL :=
  ⟨n, fun b o e => (by rw [empty_get] at e; cases e), Nat.zero_le _⟩
theorem newsE {h : Heap} {L : Addr} : News {} L h (objsBut h L) := fun p hp => by
  obtain ⟨a, o⟩ := p
  obtain ⟨e, q⟩ := mem_objsBut.mp hp
  exact ⟨e, q, empty_get a⟩
theorem newsE_keep {h h' : Heap} {L : Addr} {x : List (Addr × Obj)} (N : News {} L h' (x ++ objsBut h L)) : KeepM [L] h h' := fun b o hb e =>
  (N (b, o) (List.mem_append.mpr (.inr (mem_objsBut.mpr ⟨e, by simpa using hb⟩)))).1
theorem newsE_keep0 {h h' : Heap} {L : Addr} (N : News {} L h' (objsBut h L)) : KeepM [L] h h' := newsE_keep (x := []) N
theorem newsE_keep1 {h h' : Heap} {L : Addr} {p : Addr × Obj} (N : News {} L h' (p :: objsBut h L)) : KeepM [L] h h' := newsE_keep (x := [p]) N

end Oh

-- OhC
namespace Oh
open PySem PySem.W PyProof.Rows PySem.SeqAt PySem.MeetsSeq PySem.MeetsSeq2 PySem.MeetsSeq3 PySem.SeqRoads2
open PySem.AutoSeq1 (wpAny_loadPart')

/-! ## the order of data: below (g = false) and above (g = true) -/
mutual
noncomputable def pyC (g : Bool) : PyData → PyData → Bool
  | .int a, .int b => if g then decide (b < a) else decide (a < b)
  | .str x, .str y => if g then decide (y.cps.toList < x.cps.toList) else decide (x.cps.toList < y.cps.toList)
  | .list xs, .list ys => pyCs g xs ys
  | .tuple xs, .tuple ys => pyCs g xs ys
  | _, _ => false
noncomputable def pyCs (g : Bool) : List PyData → List PyData → Bool
  | [], [] => false
  | [], _ :: _ => !g
  | _ :: _, [] => g
  | x :: xs, y :: ys => if PyData.eqv x y then pyCs g xs ys else pyC g x y
end
mutual
noncomputable def cmpOk : PyData → PyData → Bool
  | .int _, .int _ => true
  | .str _, .str _ => true
  | .list xs, .list ys => cmpOks xs ys
  | .tuple xs, .tuple ys => cmpOks xs ys
  | _, _ => false
noncomputable def cmpOks : List PyData → List PyData → Bool
  | x :: xs, y :: ys => if PyData.eqv x y then cmpOks xs ys else cmpOk x y
  | _, _ => true
end
noncomputable def opOf (g : Bool) : CmpOp := if g then .Gt else .Lt
noncomputable def codeOf (g : Bool) : Int := if g then 4 else 0

/-- the comparison gives b, the state stays -/
noncomputable def CmAt (g : Bool) (A : Around) (s : Shared) (y x : Value) (b : Bool) : Prop :=
  ∀ (prog : Program) (w : World) (E : Value → Shared → Prop) (Q : Value → Shared → Prop), Q (.bool b) s → wpAny (model prog w) A (richCompare (opOf g) y x) Q E s

set_option maxHeartbeats 2000000 in
theorem cm_loopAt (g : Bool) (l b : Addr) (items items2 : Array Value) (n n2 : Nat) (dd dd2 : Option Addr) (sl sl2 : Array (Option Value)) (e c : Nat → Bool) (k : Nat) (res : Nat → Bool)
    (hr0 : ∀ i, i ≤ items.size → i ≤ items2.size → items.size ≤ i ∨ items2.size ≤ i → res i = if g then decide (items2.size < items.size) else decide (items.size < items2.size))
    (hr1 : ∀ i, i < items.size → i < items2.size → res i = if e i then res (i + 1) else c i) :
    ∀ i : Nat, (∀ m, m < i → e m = true) → i ≤ items.size → i ≤ items2.size → min items.size items2.size - i = k → Meets (Builtin.«list.__eq__.loop» ⟨[.ref l, .ref b, rawInt i, rawInt (codeOf g)], []⟩)
      (fun A R s => s.heap.get? l = some { cls := .type "list", dict := dd, data := .seq items n, slots := sl } ∧ s.heap.get? b = some { cls := .type "list", dict := dd2, data := .seq items2 n2, slots := sl2 } ∧
        (∀ j (h1 : j < items.size) (h2 : j < items2.size), EqAt A.in1 s items[j] items2[j] (e j) ∧ ((∀ m, m < j → e m = true) → e j = false → CmAt g A.in1 s items[j] items2[j] (c j))) ∧
        R (.ok (.ret (.bool (res i)))) s) := by
  induction k with
  | zero =>
    intro i hpre hi hi' hk prog w A R s h
    obtain ⟨hp, gs, d, tk, os⟩ := s; obtain ⟨hl, hb, he, h⟩ := h
    have hz : items.size ≤ i ∨ items2.size ≤ i := om_min0 hk
    rw [hr0 i hi hi' hz] at h
    have hx : (∃ x, items[((i : Nat) : Int).toNat]? = some x ∧ items2[((i : Nat) : Int).toNat]? = none) ∨ items[((i : Nat) : Int).toNat]? = none := by
      cases q : items[((i : Nat) : Int).toNat]? with
      | none => exact .inr rfl
      | some x =>
        refine .inl ⟨x, rfl, ?_⟩
        have : i < items.size := by
          rcases Nat.lt_or_ge i items.size with z | z
          · exact z
          · have q' : items[i]? = some x := by simpa using q
            rw [Array.getElem?_eq_none z] at q'; cases q'
        have : items2.size ≤ i := hz.resolve_left (Nat.not_le_of_lt this)
        simpa using this
    cases g
    · wp_walk using wpAny_loadPart' hl, wpAny_loadPart' hb
      rcases hx with ⟨x, hx, hy⟩ | hx
      · rw [hx, hy]
        wp_walk using wpAny_loadPart' hl, wpAny_loadPart' hb
        exact h
      · rw [hx]
        wp_walk using wpAny_loadPart' hl, wpAny_loadPart' hb
        exact h
    · wp_walk using wpAny_loadPart' hl, wpAny_loadPart' hb
      rcases hx with ⟨x, hx, hy⟩ | hx
      · rw [hx, hy]
        wp_walk using wpAny_loadPart' hl, wpAny_loadPart' hb
        exact h
      · rw [hx]
        wp_walk using wpAny_loadPart' hl, wpAny_loadPart' hb
        exact h
  | succ k ih =>
    intro i hpre hi hi' hk prog w A R s h
    obtain ⟨hp, gs, d, tk, os⟩ := s; obtain ⟨hl, hb, he, h⟩ := h
    have hlt : i < items.size := (om_min hk).1
    have hlt2 : i < items2.size := (om_min hk).2.1
    have hi1 : items[((i : Nat) : Int).toNat]? = some items[i] := by simp [hlt]
    have hi2 : items2[((i : Nat) : Int).toNat]? = some items2[i] := by simp [hlt2]
    have hc : ((i : Int) + 1) = ((i + 1 : Nat) : Int) := by push_cast; rfl
    rw [hr1 i hlt hlt2] at h
    obtain ⟨he1, he2⟩ := he i hlt hlt2
    have goOn : e i = true → R (.ok (.ret (.bool (res (i + 1))))) ⟨hp, gs, d, tk, os⟩ →
        codeAny (model prog w) A (.builtin "list.__eq__.loop" ⟨[.ref l, .ref b, rawInt ((i : Int) + 1), rawInt (codeOf g)], []⟩) R ⟨hp, gs, d, tk, os⟩ := fun hei hr => by
      rw [hc]
      exact codeAny_builtin entry_eq_loop (by
        rw [Around.under_plainId plain_eq_loop _]
        exact ih (i + 1) (fun m hm => (Nat.lt_succ_iff_lt_or_eq.mp hm).elim (hpre m) (fun q => q ▸ hei)) hlt hlt2 (om_min hk).2.2 prog w A R _ ⟨hl, hb, he, hr⟩)
    cases g
    · wp_walk using wpAny_loadPart' hl, wpAny_loadPart' hb
      rw [hi1, hi2]
      refine wpAny_bind (he1 prog w _ _ ?_)
      cases hb' : e i with
      | true => rw [hb'] at h; wp_walk; exact ⟨plainId_quiet plain_eq_loop _, goOn hb' h⟩
      | false =>
        rw [hb'] at h
        wp_walk using wpAny_loadPart' hl, wpAny_loadPart' hb
        rw [hi1, hi2]
        exact wpAny_bind (he2 hpre hb' prog w _ _ (wpAny_pure h))
    · wp_walk using wpAny_loadPart' hl, wpAny_loadPart' hb
      rw [hi1, hi2]
      refine wpAny_bind (he1 prog w _ _ ?_)
      cases hb' : e i with
      | true => rw [hb'] at h; wp_walk; exact ⟨plainId_quiet plain_eq_loop _, goOn hb' h⟩
      | false =>
        rw [hb'] at h
        wp_walk using wpAny_loadPart' hl, wpAny_loadPart' hb
        rw [hi1, hi2]
        exact wpAny_bind (he2 hpre hb' prog w _ _ (wpAny_pure h))

theorem list_ltAt (l b : Addr) (items items2 : Array Value) (n n2 : Nat) (dd dd2 : Option Addr) (sl sl2 : Array (Option Value)) (e c : Nat → Bool) (res : Nat → Bool)
    (hr0 : ∀ i, i ≤ items.size → i ≤ items2.size → items.size ≤ i ∨ items2.size ≤ i → res i = decide (items.size < items2.size))
    (hr1 : ∀ i, i < items.size → i < items2.size → res i = if e i then res (i + 1) else c i) :
    Meets (Builtin.«list.__lt__» ⟨[.ref l, .ref b], []⟩)
      (fun A R s => s.heap.get? l = some { cls := .type "list", dict := dd, data := .seq items n, slots := sl } ∧ s.heap.get? b = some { cls := .type "list", dict := dd2, data := .seq items2 n2, slots := sl2 } ∧
        (∀ j (h1 : j < items.size) (h2 : j < items2.size), EqAt A.in1 s items[j] items2[j] (e j) ∧ ((∀ m, m < j → e m = true) → e j = false → CmAt false A.in1 s items[j] items2[j] (c j))) ∧
        R (.ok (.ret (.bool (res 0)))) s) := by
  intro prog w A R s h
  obtain ⟨hp, g, d, tk, os⟩ := s; obtain ⟨hl, hb, he, h⟩ := h
  have f3 := AutoSeq1.sub_list_list
  wp_walk using wpAny_loadPart' hl, wpAny_loadPart' hb
  show _ ∧ codeAny (model prog w) A (.builtin "list.__eq__.loop" ⟨[.ref l, .ref b, rawInt ((0 : Nat) : Int), rawInt (codeOf false)], []⟩) R _
  exact ⟨plainId_quiet plain_eq_loop _, codeAny_builtin entry_eq_loop (by
    rw [Around.under_plainId plain_eq_loop _]
    exact cm_loopAt false l b items items2 n n2 dd dd2 sl sl2 e c _ res (by simpa using hr0) hr1 0 (fun m hm => absurd hm (Nat.not_lt_zero _)) (Nat.zero_le _) (Nat.zero_le _) rfl prog w A R _ ⟨hl, hb, he, h⟩)⟩
theorem list_gtAt (l b : Addr) (items items2 : Array Value) (n n2 : Nat) (dd dd2 : Option Addr) (sl sl2 : Array (Option Value)) (e c : Nat → Bool) (res : Nat → Bool)
    (hr0 : ∀ i, i ≤ items.size → i ≤ items2.size → items.size ≤ i ∨ items2.size ≤ i → res i = decide (items2.size < items.size))
    (hr1 : ∀ i, i < items.size → i < items2.size → res i = if e i then res (i + 1) else c i) :
    Meets (Builtin.«list.__gt__» ⟨[.ref l, .ref b], []⟩)
      (fun A R s => s.heap.get? l = some { cls := .type "list", dict := dd, data := .seq items n, slots := sl } ∧ s.heap.get? b = some { cls := .type "list", dict := dd2, data := .seq items2 n2, slots := sl2 } ∧
        (∀ j (h1 : j < items.size) (h2 : j < items2.size), EqAt A.in1 s items[j] items2[j] (e j) ∧ ((∀ m, m < j → e m = true) → e j = false → CmAt true A.in1 s items[j] items2[j] (c j))) ∧
        R (.ok (.ret (.bool (res 0)))) s) := by
  intro prog w A R s h
  obtain ⟨hp, g, d, tk, os⟩ := s; obtain ⟨hl, hb, he, h⟩ := h
  have f3 := AutoSeq1.sub_list_list
  wp_walk using wpAny_loadPart' hl, wpAny_loadPart' hb
  show _ ∧ codeAny (model prog w) A (.builtin "list.__eq__.loop" ⟨[.ref l, .ref b, rawInt ((0 : Nat) : Int), rawInt (codeOf true)], []⟩) R _
  exact ⟨plainId_quiet plain_eq_loop _, codeAny_builtin entry_eq_loop (by
    rw [Around.under_plainId plain_eq_loop _]
    exact cm_loopAt true l b items items2 n n2 dd dd2 sl sl2 e c _ res (by simpa using hr0) hr1 0 (fun m hm => absurd hm (Nat.not_lt_zero _)) (Nat.zero_le _) (Nat.zero_le _) rfl prog w A R _ ⟨hl, hb, he, h⟩)⟩

theorem CmAt.lists {g : Bool} {A : Around} {s : Shared} {l b : Addr} {items items2 : Array Value} {e c res : Nat → Bool} (hl : s.heap.IsList l items) (hb : s.heap.IsList b items2) (hu : A.units < cLine)
    (hr0 : ∀ i, i ≤ items.size → i ≤ items2.size → items.size ≤ i ∨ items2.size ≤ i → res i = if g then decide (items2.size < items.size) else decide (items.size < items2.size))
    (hr1 : ∀ i, i < items.size → i < items2.size → res i = if e i then res (i + 1) else c i)
    (he : ∀ j (h1 : j < items.size) (h2 : j < items2.size), EqAt A.in1 s items[j] items2[j] (e j) ∧ ((∀ m, m < j → e m = true) → e j = false → CmAt g A.in1 s items[j] items2[j] (c j))) : CmAt g A s (.ref l) (.ref b) (res 0) := fun prog w E Q h => by
  obtain ⟨⟨cls, dd, data, sl⟩, ho, hc, n, hd⟩ := id hl
  obtain ⟨⟨cls2, dd2, data2, sl2⟩, ho2, hc2, n2, hd2⟩ := id hb
  simp only at hc hd hc2 hd2
  subst hc hd hc2 hd2
  cases g
  · exact richCompare_meets_room (op := .Lt) ⟨_, ho, rfl⟩ ⟨_, ho2, rfl⟩ F.slot_list_lt F.entry_list_lt (F.args_list_lt_2 _ _) (list_ltAt l b items items2 n n2 dd dd2 sl sl2 e c res (by simpa using hr0) hr1)
      ⟨ho, ho2, he, show Value.bool (res 0) ≠ Value.notImplemented ∧ Q (.bool (res 0)) s from ⟨(fun x => nomatch x), h⟩⟩ hu
  · exact richCompare_meets_room (op := .Gt) ⟨_, ho, rfl⟩ ⟨_, ho2, rfl⟩ F.slot_list_gt F.entry_list_gt (F.args_list_gt_2 _ _) (list_gtAt l b items items2 n n2 dd dd2 sl sl2 e c res (by simpa using hr0) hr1)
      ⟨ho, ho2, he, show Value.bool (res 0) ≠ Value.notImplemented ∧ Q (.bool (res 0)) s from ⟨(fun x => nomatch x), h⟩⟩ hu

theorem tuple_ltAt (l b : Addr) (items items2 : Array Value) (n n2 : Nat) (dd dd2 : Option Addr) (sl sl2 : Array (Option Value)) (e c res : Nat → Bool)
    (hr0 : ∀ i, i ≤ items.size → i ≤ items2.size → items.size ≤ i ∨ items2.size ≤ i → res i = decide (items.size < items2.size))
    (hr1 : ∀ i, i < items.size → i < items2.size → res i = if e i then res (i + 1) else c i) :
    Meets (Builtin.«tuple.__lt__» ⟨[.ref l, .ref b], []⟩)
      (fun A R s => s.heap.get? l = some { cls := .type "tuple", dict := dd, data := .seq items n, slots := sl } ∧ s.heap.get? b = some { cls := .type "tuple", dict := dd2, data := .seq items2 n2, slots := sl2 } ∧
        (∀ j (h1 : j < items.size) (h2 : j < items2.size), EqAt A.in1 s items[j] items2[j] (e j) ∧ ((∀ m, m < j → e m = true) → e j = false → CmAt false A.in1 s items[j] items2[j] (c j))) ∧
        R (.ok (.ret (.bool (res 0)))) s) :=
  .of_wp fun prog w A R s h => by
    obtain ⟨hp, g, d, tk, os⟩ := s; obtain ⟨hl, hb, he, h⟩ := h
    have f2 := AutoSeq1.sub_tuple_tuple
    have hZ : (items.toList.zip items2.toList).length = min items.size items2.size := by simp
    wp_walk using wpAny_loadPart' hl, wpAny_loadPart' hb, wpAny_forIn_list _ (fun rest b s' => b.1 = none ∧ s' = ⟨hp, g, d, tk, os⟩ ∧ ∃ i, rest = (items.toList.zip items2.toList).drop i ∧ i ≤ min items.size items2.size ∧ (∀ m, m < i → e m = true) ∧
      R (.ok (.ret (.bool (res i)))) ⟨hp, g, d, tk, os⟩) _
    case turn =>
      rintro ⟨y, x⟩ rest b s' ⟨hb', rfl, i, hz, hmin, hpre, hR⟩
      have hlt : i < (items.toList.zip items2.toList).length := by
        rcases Nat.lt_or_ge i (items.toList.zip items2.toList).length with h' | h'
        · exact h'
        · rw [List.drop_of_length_le h'] at hz; cases hz
      have hm : i < min items.size items2.size := hZ ▸ hlt
      have h1 : i < items.size := Nat.lt_of_lt_of_le hm (Nat.min_le_left _ _)
      have h2 : i < items2.size := Nat.lt_of_lt_of_le hm (Nat.min_le_right _ _)
      rw [List.drop_eq_getElem_cons hlt] at hz
      injection hz with hyx hrest
      have hy : y = items[i] := by have := congrArg Prod.fst hyx; simpa using this
      have hx : x = items2[i] := by have := congrArg Prod.snd hyx; simpa using this
      subst hy hx
      rw [hr1 i h1 h2] at hR
      obtain ⟨he1, he2⟩ := he i h1 h2
      refine wpAny_bind (he1 prog w _ _ ?_)
      cases hy : e i with
      | true =>
        rw [hy] at hR
        wp_walk
        exact ⟨rfl, rfl, i + 1, hrest, hm, fun m hm => (Nat.lt_succ_iff_lt_or_eq.mp hm).elim (hpre m) (fun q => q ▸ hy), hR⟩
      | false =>
        rw [hy] at hR
        have hcm : ∀ (Q : Value → Shared → Prop) (E : Value → Shared → Prop), Q (.bool (c i)) ⟨hp, g, d, tk, os⟩ → wpAny (model prog w) A.in1 (richCompare CmpOp.Lt items[i] items2[i]) Q E ⟨hp, g, d, tk, os⟩ := fun Q E q => he2 hpre hy prog w E Q q
        wp_walk using hcm _ _
        exact ⟨_, rfl, hR⟩
    case fin =>
      rintro ⟨b1, b2⟩ s' ⟨hb', rfl, i, hz, hmin, hpre, hR⟩
      simp only at hb'
      subst hb'
      have hge : min items.size items2.size ≤ i := by
        rcases Nat.lt_or_ge i (items.toList.zip items2.toList).length with h' | h'
        · rw [List.drop_eq_getElem_cons h'] at hz; cases hz
        · exact hZ ▸ h'
      rw [hr0 i (om_ends hmin hge).1 (om_ends hmin hge).2.1 (om_ends hmin hge).2.2] at hR
      wp_walk
      exact ⟨_, rfl, by simpa [Builtin.Tuple.tupleCompareSizes] using hR⟩
    case h =>
      exact ⟨rfl, rfl, 0, rfl, Nat.zero_le _, fun m hm => absurd hm (Nat.not_lt_zero _), h⟩

theorem tuple_gtAt (l b : Addr) (items items2 : Array Value) (n n2 : Nat) (dd dd2 : Option Addr) (sl sl2 : Array (Option Value)) (e c res : Nat → Bool)
    (hr0 : ∀ i, i ≤ items.size → i ≤ items2.size → items.size ≤ i ∨ items2.size ≤ i → res i = decide (items2.size < items.size))
    (hr1 : ∀ i, i < items.size → i < items2.size → res i = if e i then res (i + 1) else c i) :
    Meets (Builtin.«tuple.__gt__» ⟨[.ref l, .ref b], []⟩)
      (fun A R s => s.heap.get? l = some { cls := .type "tuple", dict := dd, data := .seq items n, slots := sl } ∧ s.heap.get? b = some { cls := .type "tuple", dict := dd2, data := .seq items2 n2, slots := sl2 } ∧
        (∀ j (h1 : j < items.size) (h2 : j < items2.size), EqAt A.in1 s items[j] items2[j] (e j) ∧ ((∀ m, m < j → e m = true) → e j = false → CmAt true A.in1 s items[j] items2[j] (c j))) ∧
        R (.ok (.ret (.bool (res 0)))) s) :=
  .of_wp fun prog w A R s h => by
    obtain ⟨hp, g, d, tk, os⟩ := s; obtain ⟨hl, hb, he, h⟩ := h
    have f2 := AutoSeq1.sub_tuple_tuple
    have hZ : (items.toList.zip items2.toList).length = min items.size items2.size := by simp
    wp_walk using wpAny_loadPart' hl, wpAny_loadPart' hb, wpAny_forIn_list _ (fun rest b s' => b.1 = none ∧ s' = ⟨hp, g, d, tk, os⟩ ∧ ∃ i, rest = (items.toList.zip items2.toList).drop i ∧ i ≤ min items.size items2.size ∧ (∀ m, m < i → e m = true) ∧
      R (.ok (.ret (.bool (res i)))) ⟨hp, g, d, tk, os⟩) _
    case turn =>
      rintro ⟨y, x⟩ rest b s' ⟨hb', rfl, i, hz, hmin, hpre, hR⟩
      have hlt : i < (items.toList.zip items2.toList).length := by
        rcases Nat.lt_or_ge i (items.toList.zip items2.toList).length with h' | h'
        · exact h'
        · rw [List.drop_of_length_le h'] at hz; cases hz
      have hm : i < min items.size items2.size := hZ ▸ hlt
      have h1 : i < items.size := Nat.lt_of_lt_of_le hm (Nat.min_le_left _ _)
      have h2 : i < items2.size := Nat.lt_of_lt_of_le hm (Nat.min_le_right _ _)
      rw [List.drop_eq_getElem_cons hlt] at hz
      injection hz with hyx hrest
      have hy : y = items[i] := by have := congrArg Prod.fst hyx; simpa using this
      have hx : x = items2[i] := by have := congrArg Prod.snd hyx; simpa using this
      subst hy hx
      rw [hr1 i h1 h2] at hR
      obtain ⟨he1, he2⟩ := he i h1 h2
      refine wpAny_bind (he1 prog w _ _ ?_)
      cases hy : e i with
      | true =>
        rw [hy] at hR
        wp_walk
        exact ⟨rfl, rfl, i + 1, hrest, hm, fun m hm => (Nat.lt_succ_iff_lt_or_eq.mp hm).elim (hpre m) (fun q => q ▸ hy), hR⟩
      | false =>
        rw [hy] at hR
        have hcm : ∀ (Q : Value → Shared → Prop) (E : Value → Shared → Prop), Q (.bool (c i)) ⟨hp, g, d, tk, os⟩ → wpAny (model prog w) A.in1 (richCompare CmpOp.Gt items[i] items2[i]) Q E ⟨hp, g, d, tk, os⟩ := fun Q E q => he2 hpre hy prog w E Q q
        wp_walk using hcm _ _
        exact ⟨_, rfl, hR⟩
    case fin =>
      rintro ⟨b1, b2⟩ s' ⟨hb', rfl, i, hz, hmin, hpre, hR⟩
      simp only at hb'
      subst hb'
      have hge : min items.size items2.size ≤ i := by
        rcases Nat.lt_or_ge i (items.toList.zip items2.toList).length with h' | h'
        · rw [List.drop_eq_getElem_cons h'] at hz; cases hz
        · exact hZ ▸ h'
      rw [hr0 i (om_ends hmin hge).1 (om_ends hmin hge).2.1 (om_ends hmin hge).2.2] at hR
      wp_walk
      exact ⟨_, rfl, by simpa [Builtin.Tuple.tupleCompareSizes] using hR⟩
    case h =>
      exact ⟨rfl, rfl, 0, rfl, Nat.zero_le _, fun m hm => absurd hm (Nat.not_lt_zero _), h⟩

theorem CmAt.tuples {g : Bool} {A : Around} {s : Shared} {l b : Addr} {items items2 : Array Value} {e c res : Nat → Bool} (hl : s.heap.IsTuple l items) (hb : s.heap.IsTuple b items2) (hu : A.units < cLine)
    (hr0 : ∀ i, i ≤ items.size → i ≤ items2.size → items.size ≤ i ∨ items2.size ≤ i → res i = if g then decide (items2.size < items.size) else decide (items.size < items2.size))
    (hr1 : ∀ i, i < items.size → i < items2.size → res i = if e i then res (i + 1) else c i)
    (he : ∀ j (h1 : j < items.size) (h2 : j < items2.size), EqAt A.in1 s items[j] items2[j] (e j) ∧ ((∀ m, m < j → e m = true) → e j = false → CmAt g A.in1 s items[j] items2[j] (c j))) : CmAt g A s (.ref l) (.ref b) (res 0) := fun prog w E Q h => by
  obtain ⟨⟨cls, dd, data, sl⟩, ho, hc, n, hd⟩ := id hl
  obtain ⟨⟨cls2, dd2, data2, sl2⟩, ho2, hc2, n2, hd2⟩ := id hb
  simp only at hc hd hc2 hd2
  subst hc hd hc2 hd2
  cases g
  · exact richCompare_meets_room (op := .Lt) ⟨_, ho, rfl⟩ ⟨_, ho2, rfl⟩ F.slot_tuple_lt F.entry_tuple_lt (F.args_tuple_lt_2 _ _) (tuple_ltAt l b items items2 n n2 dd dd2 sl sl2 e c res (by simpa using hr0) hr1)
      ⟨ho, ho2, he, show Value.bool (res 0) ≠ Value.notImplemented ∧ Q (.bool (res 0)) s from ⟨(fun x => nomatch x), h⟩⟩ hu
  · exact richCompare_meets_room (op := .Gt) ⟨_, ho, rfl⟩ ⟨_, ho2, rfl⟩ F.slot_tuple_gt F.entry_tuple_gt (F.args_tuple_gt_2 _ _) (tuple_gtAt l b items items2 n n2 dd dd2 sl sl2 e c res (by simpa using hr0) hr1)
      ⟨ho, ho2, he, show Value.bool (res 0) ≠ Value.notImplemented ∧ Q (.bool (res 0)) s from ⟨(fun x => nomatch x), h⟩⟩ hu

theorem gt_str' {prog : Program} {w : World} {A : Around} {E : Value → Shared → Prop} {s : Shared} {x y : Str} {t u : Tok} {Q : Value → Shared → Prop} (h : Q (.bool (y.cps.toList < x.cps.toList)) s) : wpAny (model prog w) A (richCompare .Gt (.str x t) (.str y u)) Q E s :=
  compareOp_gives (op := .Gt) (typeIs_str s x t) (typeIs_str s y u) F.slot_str_gt F.entry_str_gt (F.args_str_gt_2 _ _) (gives_str_gt x y t u) (fun e => nomatch e) h
theorem CmAt.of_in1 {g : Bool} {A : Around} {s : Shared} {y x : Value} {b : Bool} (h : CmAt g A.in1 s y x b) : CmAt g A s y x b := fun prog w E Q hq => wpAny_of_in1 (h prog w E Q hq)

theorem pyCs_nil_iff (g : Bool) (xs ys : List PyData) (h : xs = [] ∨ ys = []) : pyCs g xs ys = if g then decide (ys.length < xs.length) else decide (xs.length < ys.length) := by
  cases xs <;> cases ys <;> cases g <;> simp_all [pyCs]
theorem pyCs_drop (g : Bool) (xs ys : List PyData) (i : Nat) (h1 : i < xs.length) (h2 : i < ys.length) :
    pyCs g (xs.drop i) (ys.drop i) = if pairEq xs ys i then pyCs g (xs.drop (i + 1)) (ys.drop (i + 1)) else pyC g (xs.getD i .none) (ys.getD i .none) := by
  rw [List.drop_eq_getElem_cons h1, List.drop_eq_getElem_cons h2, pyCs]
  simp [pairEq, h1, h2]

mutual
theorem cmAt_reads (g : Bool) : ∀ (da db : PyData) (A : Around) (s : Shared) (a b : Value) (as bs : List Addr), Reads s.heap a da as → Reads s.heap b db bs → da.canLay0 = true → db.canLay0 = true →
    cmpOk da db = true → A.units + min da.depth db.depth < cLine → CmAt g A s a b (pyC g da db)
  | .none, db, _, _, _, _, _, _, _, _, _, _, hc, _ => by cases db <;> exact nomatch hc
  | .bool _, db, _, _, _, _, _, _, _, _, _, _, hc, _ => by cases db <;> exact nomatch hc
  | .dict _, db, _, _, _, _, _, _, _, _, ha, _, hc, _ => nomatch ha
  | .int x, db, A, s, _, _, _, _, ra, rb, _, _, hc, hu => by
    cases ra
    cases rb with
    | int y u =>
      intro prog w E Q h
      cases g
      · exact lt_int (by simpa [pyC] using h)
      · exact gt_int (by simpa [pyC] using h)
    | _ => exact nomatch hc
  | .str x, db, A, s, _, _, _, _, ra, rb, _, _, hc, hu => by
    cases ra
    cases rb with
    | str y u =>
      intro prog w E Q h
      cases g
      · exact PyProof.Rows.lt_str (by simpa [pyC] using h)
      · exact gt_str' (by simpa [pyC] using h)
    | _ => exact nomatch hc
  | .list xs, db, A, s, _, _, _, _, ra, rb, ha, hb, hc, hu => by
    cases ra with
    | @list l o vs n _ as₁ h1 h2 h3 h4 =>
      have hl : s.heap.IsList l vs := ⟨_, h1, h2, _, h3⟩
      cases rb with
      | @list l' o' vs' n' ys bs₁ k1 k2 k3 k4 =>
        have hl' : s.heap.IsList l' vs' := ⟨_, k1, k2, _, k3⟩
        have n1 : vs.size = xs.length := by simpa using ReadsAll.length _ _ _ h4
        have n2 : vs'.size = ys.length := by simpa using ReadsAll.length _ _ _ k4
        have key := cmAt_readsAll g xs ys A.in1 s vs.toList vs'.toList _ _ h4 k4 ha hb (by simpa [cmpOk] using hc) (room_in hu)
        have keyE := eqAt_readsAll xs ys A.in1 s vs.toList vs'.toList _ _ h4 k4 ha hb (room_in hu)
        have fin := CmAt.lists (g := g) (A := A) (e := pairEq xs ys) (c := fun j => pyC g (xs.getD j .none) (ys.getD j .none))
          (res := fun i => pyCs g (xs.drop i) (ys.drop i)) hl hl' (room_here hu) (fun i b1 b2 hi => ?_) (fun i i1 i2 => pyCs_drop g xs ys i (n1 ▸ i1) (n2 ▸ i2))
          (fun j j1 j2 => ⟨by have := keyE j (by simpa using j1) (by simpa using j2); simpa using this, fun q1 q2 => by have := key j (by simpa using j1) (by simpa using j2) q1 q2; simpa using this⟩)
        · simpa [pyC] using fin
        · have hi1 : i ≤ xs.length := n1 ▸ b1
          have hi2 : i ≤ ys.length := n2 ▸ b2
          rw [n1, n2] at *
          rw [pyCs_nil_iff g _ _ (hi.imp (fun q => List.drop_of_length_le q) (fun q => List.drop_of_length_le q))]
          have e1 : (List.drop i ys).length < (List.drop i xs).length ↔ ys.length < xs.length := by rw [List.length_drop, List.length_drop]; exact om_drop hi2 hi1
          have e2 : (List.drop i xs).length < (List.drop i ys).length ↔ xs.length < ys.length := by rw [List.length_drop, List.length_drop]; exact om_drop hi1 hi2
          simp only [e1, e2]
      | _ => exact nomatch hc
  | .tuple xs, db, A, s, _, _, _, _, ra, rb, ha, hb, hc, hu => by
    cases ra with
    | @tuple l o vs n _ as₁ h1 h2 h3 h4 =>
      have hl : s.heap.IsTuple l vs := ⟨_, h1, h2, _, h3⟩
      cases rb with
      | @tuple l' o' vs' n' ys bs₁ k1 k2 k3 k4 =>
        have hl' : s.heap.IsTuple l' vs' := ⟨_, k1, k2, _, k3⟩
        have n1 : vs.size = xs.length := by simpa using ReadsAll.length _ _ _ h4
        have n2 : vs'.size = ys.length := by simpa using ReadsAll.length _ _ _ k4
        have key := cmAt_readsAll g xs ys A.in1 s vs.toList vs'.toList _ _ h4 k4 ha hb (by simpa [cmpOk] using hc) (room_in hu)
        have keyE := eqAt_readsAll xs ys A.in1 s vs.toList vs'.toList _ _ h4 k4 ha hb (room_in hu)
        have fin := CmAt.tuples (g := g) (A := A) (e := pairEq xs ys) (c := fun j => pyC g (xs.getD j .none) (ys.getD j .none))
          (res := fun i => pyCs g (xs.drop i) (ys.drop i)) hl hl' (room_here hu) (fun i b1 b2 hi => ?_) (fun i i1 i2 => pyCs_drop g xs ys i (n1 ▸ i1) (n2 ▸ i2))
          (fun j j1 j2 => ⟨by have := keyE j (by simpa using j1) (by simpa using j2); simpa using this, fun q1 q2 => by have := key j (by simpa using j1) (by simpa using j2) q1 q2; simpa using this⟩)
        · simpa [pyC] using fin
        · have hi1 : i ≤ xs.length := n1 ▸ b1
          have hi2 : i ≤ ys.length := n2 ▸ b2
          rw [n1, n2] at *
          rw [pyCs_nil_iff g _ _ (hi.imp (fun q => List.drop_of_length_le q) (fun q => List.drop_of_length_le q))]
          have e1 : (List.drop i ys).length < (List.drop i xs).length ↔ ys.length < xs.length := by rw [List.length_drop, List.length_drop]; exact om_drop hi2 hi1
          have e2 : (List.drop i xs).length < (List.drop i ys).length ↔ xs.length < ys.length := by rw [List.length_drop, List.length_drop]; exact om_drop hi1 hi2
          simp only [e1, e2]
      | _ => exact nomatch hc
theorem cmAt_readsAll (g : Bool) : ∀ (xs ys : List PyData) (A : Around) (s : Shared) (vs ws : List Value) (as bs : List Addr), ReadsAll s.heap vs xs as → ReadsAll s.heap ws ys bs → PyData.canLayAll0 xs = true → PyData.canLayAll0 ys = true →
    cmpOks xs ys = true → A.units + min (PyData.depthAll xs) (PyData.depthAll ys) < cLine → ∀ j (h1 : j < vs.length) (h2 : j < ws.length), (∀ i, i < j → pairEq xs ys i = true) → pairEq xs ys j = false → CmAt g A s vs[j] ws[j] (pyC g (xs.getD j .none) (ys.getD j .none))
  | [], _, _, _, _, _, _, _, ra, _, _, _, _, _, j, h1, _, _, _ => by cases ra; exact absurd h1 (Nat.not_lt_zero _)
  | _ :: _, [], _, _, _, _, _, _, _, rb, _, _, _, _, j, _, h2, _, _ => by cases rb; exact absurd h2 (Nat.not_lt_zero _)
  | x :: xs, y :: ys, A, s, _, _, _, _, ra, rb, ha, hb, hc, hu, j, h1, h2, hall, hj => by
    have ha' : x.canLay0 = true ∧ PyData.canLayAll0 xs = true := by simpa [PyData.canLayAll0] using ha
    have hb' : y.canLay0 = true ∧ PyData.canLayAll0 ys = true := by simpa [PyData.canLayAll0] using hb
    simp only [PyData.depthAll] at hu
    cases ra with
    | cons r1 r2 =>
      cases rb with
      | cons t1 t2 =>
        cases j with
        | zero =>
          have e0 : PyData.eqv x y = false := by simpa [pairEq] using hj
          simp only [cmpOks, e0] at hc
          exact cmAt_reads g x y A s _ _ _ _ r1 t1 ha'.1 hb'.1 hc (room_head hu)
        | succ j =>
          have e0 : PyData.eqv x y = true := by simpa [pairEq] using hall 0 (Nat.succ_pos _)
          simp only [cmpOks, e0, if_true] at hc
          have := cmAt_readsAll g xs ys A s _ _ _ _ r2 t2 ha'.2 hb'.2 hc (room_tail hu) j (by simpa using h1) (by simpa using h2) (fun i hi => by simpa [pairEq] using hall (i + 1) (Nat.succ_lt_succ hi)) (by simpa [pairEq] using hj)
          simpa using this
end
end Oh

section
local macro_rules | `(tactic| omega) => `(tactic| lia)
-- OhD
namespace Oh
open PySem PySem.W PyProof.Rows

/-- as Rep, or a mutable list as it now is -/
noncomputable def RepO (M : List Addr) (h : Heap) (v : Value) (d : PyData) : Prop :=
  Rep M h v d ∨ ∃ a ds vs, v = .ref a ∧ d = .list ds ∧ LstAt h a vs ∧ RepL M h vs ds
theorem Rep.o {M : List Addr} {h : Heap} {v : Value} {d : PyData} (r : Rep M h v d) : RepO M h v d := .inl r
theorem RepO.list {M : List Addr} {h : Heap} {v : Value} {ds : List PyData} (r : RepO M h v (.list ds)) : ∃ a vs, v = .ref a ∧ LstAt h a vs ∧ RepL M h vs ds := by
  rcases r with r | ⟨a, ds', vs, rfl, e, l, q⟩
  · cases r with | list _ l q => exact ⟨_, _, rfl, l, q⟩
  · cases e; exact ⟨a, vs, rfl, l, q⟩
theorem RepO.int {M : List Addr} {h : Heap} {v : Value} {i : Int} (r : RepO M h v (.int i)) : ∃ t, v = .int i t := by
  rcases r with r | ⟨a, ds', vs, rfl, e, l, q⟩
  · cases r; exact ⟨_, rfl⟩
  · cases e
theorem RepO.str {M : List Addr} {h : Heap} {v : Value} {x : Str} (r : RepO M h v (.str x)) : ∃ t, v = .str x t ∧ PyData.strOk x = true := by
  rcases r with r | ⟨a, ds', vs, rfl, e, l, q⟩
  · cases r with | str _ t hx => exact ⟨t, rfl, hx⟩
  · cases e
theorem RepO.bool {M : List Addr} {h : Heap} {v : Value} {b : Bool} (r : RepO M h v (.bool b)) : v = .bool b := by
  rcases r with r | ⟨a, ds', vs, rfl, e, l, q⟩
  · cases r; rfl
  · cases e
theorem Rep.int' {M : List Addr} {h : Heap} {v : Value} {i : Int} (r : Rep M h v (.int i)) : ∃ t, v = .int i t := r.o.int
theorem RepO.reads {M : List Addr} {h : Heap} {v : Value} {d : PyData} (r : RepO M h v d) : ∃ as, Reads h v d as := by
  rcases r with r | ⟨a, ds', vs, rfl, rfl, l, q⟩
  · exact r.reads
  · obtain ⟨as, q⟩ := q.reads; obtain ⟨n, e⟩ := l; exact ⟨_, .list e rfl rfl (by simpa using q)⟩
theorem RepO.lay {M : List Addr} {h : Heap} {v : Value} {d : PyData} (r : RepO M h v d) : d.canLay0 = true := by
  rcases r with r | ⟨a, ds', vs, rfl, rfl, l, q⟩
  · exact r.lay
  · simpa [PyData.canLay0] using q.lay
theorem RepO.keep {M : List Addr} {h h' : Heap} {L : Addr} {mL : Str → Option Value} {v : Value} {d : PyData} (n : h.Ns L mL) (hL : L ∈ M) (k : KeepM [L] h h') (r : RepO M h v d) : RepO M h' v d := by
  have kM : KeepM M h h' := k.sub fun x hx => by simp at hx; rw [hx]; exact hL
  rcases r with r | ⟨a, ds', vs, rfl, rfl, l, q⟩
  · exact .inl (r.keep kM)
  · exact .inr ⟨a, ds', vs, rfl, rfl, LstAt.keep k (by simpa using ns_not_list n l.isList) l, q.keep kM⟩

section
variable {α β : Type} {prog : Program} {w : World} {A : Around} {hb g : Heap} {I M : List Addr} {env : Env} {ρ : Store}

/-- evaluation in the frame's state -/
noncomputable def EvS (prog : Program) (w : World) (A : Around) (hb g : Heap) (I M : List Addr) (env : Env) (ρ : Store) (t : Sem α) (P : α → Heap → Prop) : Prop :=
  ∀ s : Shared, St hb g I M env ρ s.heap → Ev prog w A env.locals t s P

theorem ns_unique {h : Heap} {L : Addr} {m m' : Str → Option Value} (n : h.Ns L m) (n' : h.Ns L m') : m' = m := by
  funext x
  obtain ⟨o, es, ep, ho, hd, _, hf⟩ := n
  obtain ⟨o', es', ep', ho', hd', _, hf'⟩ := n'
  rw [ho] at ho'; cases ho'; rw [hd] at hd'; cases hd'
  rw [← hf x, ← hf' x]
theorem St.grow' {h h' : Heap} {mL : Str → Option Value} (S : St hb g I M env ρ h) (n : h.Ns env.locals mL) (k : KeepM [env.locals] h h') (n' : h'.Ns env.locals mL) : St hb g I M env ρ h' :=
  S.grow k fun mL' hn => by rw [ns_unique n hn]; exact n'
theorem St.o {h h' : Heap} {v : Value} {d : PyData} (S : St hb g I M env ρ h) (k : KeepM [env.locals] h h') (r : RepO M h v d) : RepO M h' v d := by
  obtain ⟨mL, n⟩ := S.ns; exact r.keep n S.LM k
theorem St.r {h h' : Heap} {v : Value} {d : PyData} (S : St hb g I M env ρ h) (k : KeepM [env.locals] h h') (r : Rep M h v d) : Rep M h' v d :=
  r.keep (k.sub fun x hx => by simp at hx; rw [hx]; exact S.LM)
theorem St.rl {h h' : Heap} {v : List Value} {d : List PyData} (S : St hb g I M env ρ h) (k : KeepM [env.locals] h h') (r : RepL M h v d) : RepL M h' v d :=
  r.keep (k.sub fun x hx => by simp at hx; rw [hx]; exact S.LM)

theorem EvS.use {t : Sem α} {P : α → Heap → Prop} (h : EvS prog w A hb g I M env ρ t P) {s : Shared} (S : St hb g I M env ρ s.heap) {Q : α → Shared → Prop} {E : Value → Shared → Prop}
    (k : ∀ v h' tk, KeepM [env.locals] s.heap h' → St hb g I M env ρ h' → P v h' → Q v { s with heap := h', toks := tk }) : wpAny (model prog w) A t Q E s := by
  obtain ⟨mL, n⟩ := S.ns
  exact h s S mL n Q E fun v h' tk a b c => k v h' tk a (S.grow' n a b) c
theorem EvS.mono {t : Sem α} {P P' : α → Heap → Prop} (h : EvS prog w A hb g I M env ρ t P) (hp : ∀ v h', P v h' → P' v h') : EvS prog w A hb g I M env ρ t P' := fun s S => (h s S).mono hp

/-- Ev behind Ev -/
theorem Ev.then {s : Shared} {L : Addr} {t : Sem α} {P : α → Heap → Prop} {mL : Str → Option Value} {Q : α → Shared → Prop} {E : Value → Shared → Prop} (h : Ev prog w A L t s P) (n : s.heap.Ns L mL)
    (k : ∀ v h' tk, KeepM [L] s.heap h' → h'.Ns L mL → P v h' → Q v { s with heap := h', toks := tk }) : wpAny (model prog w) A t Q E s := h mL n Q E k

/-- one value, then what is done with it -/
theorem EvS.one {t : Sem β} {da : PyData} {P : β → Heap → Prop} {x : Sem Value} (R : List Addr → Heap → Value → PyData → Prop)
    (hx : EvS prog w A hb g I M env ρ x (fun v h => R M h v da)) (op : Value → Sem β)
    (hop : ∀ u (s : Shared), St hb g I M env ρ s.heap → R M s.heap u da → Ev prog w A env.locals (op u) s P)
    (ht : ∀ (s : Shared) (Q : β → Shared → Prop) (E : Value → Shared → Prop), wpAny (model prog w) A x (fun u s₁ => wpAny (model prog w) A (op u) Q E s₁) E s → wpAny (model prog w) A t Q E s) :
    EvS prog w A hb g I M env ρ t P := fun s S mL n Q E k => by
  refine ht s Q E ((hx s S).then n fun u h₁ tk₁ k₁ n₁ r₁ => ?_)
  have S₁ := S.grow' n k₁ n₁
  exact (hop u { s with heap := h₁, toks := tk₁ } S₁ r₁).then n₁ fun v h' tk k₂ n₂ p => k v h' tk (k₁.trans k₂) n₂ p
/-- two values, then what is done with them -/
theorem EvS.two {t : Sem β} {da db : PyData} {P : β → Heap → Prop} {x y : Sem Value}
    (hx : EvS prog w A hb g I M env ρ x (fun v h => RepO M h v da)) (hy : EvS prog w A hb g I M env ρ y (fun v h => RepO M h v db)) (op : Value → Value → Sem β)
    (hop : ∀ u v (s : Shared), St hb g I M env ρ s.heap → RepO M s.heap u da → RepO M s.heap v db → Ev prog w A env.locals (op u v) s P)
    (ht : ∀ (s : Shared) (Q : β → Shared → Prop) (E : Value → Shared → Prop), wpAny (model prog w) A x (fun u s₁ => wpAny (model prog w) A y (fun v s₂ => wpAny (model prog w) A (op u v) Q E s₂) E s₁) E s → wpAny (model prog w) A t Q E s) :
    EvS prog w A hb g I M env ρ t P := fun s S mL n Q E k => by
  refine ht s Q E ((hx s S).then n fun u h₁ tk₁ k₁ n₁ r₁ => ?_)
  have S₁ := S.grow' n k₁ n₁
  refine (hy { s with heap := h₁, toks := tk₁ } S₁).then n₁ fun v h₂ tk₂ k₂ n₂ r₂ => ?_
  have S₂ := S₁.grow' n₁ k₂ n₂
  exact (hop u v { s with heap := h₂, toks := tk₂ } S₂ (S₁.o k₂ r₁) r₂).then n₂ fun v h' tk k₃ n₃ p => k v h' tk ((k₁.trans k₂).trans k₃) n₃ p

theorem keep_push {h : Heap} {M : List Addr} (o : Obj) : KeepM M h (h.push o) := fun _ _ _ e => Heap.get?_push_of_some _ e
theorem ns_push {h : Heap} {L : Addr} {m : Str → Option Value} (n : h.Ns L m) (o : Obj) : (h.push o).Ns L m := by
  obtain ⟨a, b, c, d, e⟩ := n; exact ⟨a, b, c, Heap.get?_push_of_some _ d, e⟩
end

/-! ## the frame's names -/
section
variable {prog : Program} {w : World} {A : Around} {hb g : Heap} {I M : List Addr} {env : Env} {ρ : Store} {K : Frag}
/-- a name of the frame's own -/
noncomputable def lcl (sc : Scope) (x : Str) : Bool := (sc.names.lookup x == some .local || sc.names.lookup x == some .cell) && !(x == ("__debug__" : Str))
/-- a name that the frame may store -/
noncomputable def lcw (env : Env) (x : Str) : Bool := lcl env.scope x && (env.func.isSome || env.scope.names.lookup x == some .local)
theorem lcw_l {env : Env} {x : Str} (h : lcw env x = true) : lcl env.scope x = true := by simp only [lcw, Bool.and_eq_true] at h; exact h.1
noncomputable def glb (sc : Scope) (x : Str) : Bool := sc.names.lookup x == some .globalImplicit && !(x == ("__debug__" : Str))

theorem St.load {s : Shared} {x : Str} {sl : Slot} (S : St hb g I M env ρ s.heap) (hx : lcl env.scope x = true) (hl : ρ.lookup x = some sl) :
    ∃ v, SlotOk g I M s.heap (some v) sl ∧ ∀ (Q : Value → Shared → Prop) (E : Value → Shared → Prop), Q v s → wpAny (model prog w) A (loadName env x) Q E s := by
  obtain ⟨m, nm, sok⟩ := S.names
  have q := sok x sl hl
  obtain ⟨v, hv⟩ : ∃ v, m x = some v := by
    cases sl with
    | frz d => obtain ⟨u, e, _⟩ := q; exact ⟨u, e⟩
    | own a ds => exact ⟨_, q.1⟩
  rw [hv] at q
  refine ⟨v, q, fun Q E h => ?_⟩
  simp only [lcl, Bool.and_eq_true, Bool.or_eq_true, beq_iff_eq] at hx
  rcases hx.1 with e | e
  · obtain ⟨mL, n, hm⟩ := nm.loc
    exact wpAny_loadName_local S.kind e n ((hm x e).trans hv) h
  · obtain ⟨c, hc⟩ := S.cE x e
    have := nm.cell x c e hc
    rw [hv] at this
    exact wpAny_loadName_cell S.kind e hc this h
theorem wpAny_Name' {M : Model} {A : Around} {E : Value → Shared → Prop} {s : Shared} {x : Str} {pos : Pos} {Q : Value → Shared → Prop} (hd : (x == ("__debug__" : Str)) = false) (h : wpAny M A (loadName env x) Q E s) : wpAny M A (eval (.Name x pos) env) Q E s := wpAny_Name h hd

theorem St.glob {s : Shared} {x : Str} {v : Value} (B : BaseOk K hb) (S : St hb g I M env ρ s.heap) (hx : glb env.scope x = true) (e : nsIn K mainGlobals x = some (some v)) {pos : Pos}
    {Q : Value → Shared → Prop} {E : Value → Shared → Prop} (h : Q v s) : wpAny (model prog w) A (eval (.Name x pos) env) Q E s := by
  obtain ⟨mg, G⟩ := B.g
  simp only [glb, Bool.and_eq_true, beq_iff_eq, Bool.not_eq_true'] at hx
  have G' : s.heap.Ns env.globals mg := by rw [S.glo.1]; exact G.keeps fun b o hbo => S.kb b o (by simp) hbo
  exact Calls.Name_function_global S.kind hx.1 (Calls.loadGlobal_global G' (mg_of B.X G e) h) hx.2
theorem St.blt {s : Shared} {x : Str} {v : Value} (B : BaseOk K hb) (S : St hb g I M env ρ s.heap) (hx : glb env.scope x = true) (e : nsIn K mainGlobals x = some none) (hv : bootBuiltins x = some v) (hn : x ≠ "__name__") {pos : Pos}
    {Q : Value → Shared → Prop} {E : Value → Shared → Prop} (h : Q v s) : wpAny (model prog w) A (eval (.Name x pos) env) Q E s := by
  obtain ⟨mg, G⟩ := B.g
  obtain ⟨mb, Bn, hbb⟩ := B.b
  simp only [glb, Bool.and_eq_true, beq_iff_eq, Bool.not_eq_true'] at hx
  have kp : ∀ b o, hb.get? b = some o → s.heap.get? b = some o := fun b o hbo => S.kb b o (by simp) hbo
  have G' : s.heap.Ns env.globals mg := by rw [S.glo.1]; exact G.keeps kp
  have B' : s.heap.Ns env.builtins mb := by rw [S.glo.2]; exact Bn.keeps kp
  exact Calls.Name_function_global S.kind hx.1 (Calls.loadGlobal_builtin G' (mg_none_of B.X G e) B' ((hbb x hn).trans hv) h) hx.2
end
end Oh

-- OhE
namespace Oh
open PySem PySem.W PyProof.Rows PySem.SeqAt

section
variable (prog : Program) (w : World) (A : Around) (hb g : Heap) (I M : List Addr) (env : Env) (ρ : Store)
/-- e gives d, outside the mutable addresses -/
noncomputable def PE (e : PySem.Expr) (d : PyData) : Prop := EvS prog w A hb g I M env ρ (eval e env) (fun v h => Rep M h v d)
/-- e gives d, to be read now -/
noncomputable def PO (e : PySem.Expr) (d : PyData) : Prop := EvS prog w A hb g I M env ρ (eval e env) (fun v h => RepO M h v d)
/-- e tests as b -/
noncomputable def PT (e : PySem.Expr) (b : Bool) : Prop := EvS prog w A hb g I M env ρ (isTrue e env (eval e env)) (fun r _ => r = b)
/-- e gives a new list -/
noncomputable def PF (e : PySem.Expr) (ds : List PyData) : Prop := ∀ s : Shared, St hb g I M env ρ s.heap → Ev prog w A env.locals (eval e env) s
  (fun v h' => ∃ a vs, v = .ref a ∧ s.heap.get? a = none ∧ LstAt h' a vs ∧ RepL (a :: M) h' vs ds)
/-- the items of a display, the arguments of a call -/
noncomputable def PEs (es : List PySem.Expr) (ds : List PyData) : Prop := ∀ pos, EvS prog w A hb g I M env ρ (spliced (backTo pos (starEach es env))) (fun vs h => RepL M h vs ds)
end

section
variable {prog : Program} {w : World} {A : Around} {hb g : Heap} {I M : List Addr} {env : Env} {ρ : Store} {K : Frag}

theorem PE.cast {e : PySem.Expr} {d d' : PyData} (h : PE prog w A hb g I M env ρ e d) (q : d = d') : PE prog w A hb g I M env ρ e d' := q ▸ h
theorem PT.cast {e : PySem.Expr} {b b' : Bool} (h : PT prog w A hb g I M env ρ e b) (q : b = b') : PT prog w A hb g I M env ρ e b' := q ▸ h
theorem PE.po {e : PySem.Expr} {d : PyData} (h : PE prog w A hb g I M env ρ e d) : PO prog w A hb g I M env ρ e d := EvS.mono h fun _ _ r => r.o
theorem PF.pe {e : PySem.Expr} {ds : List PyData} (h : PF prog w A hb g I M env ρ e ds) : PE prog w A hb g I M env ρ e (.list ds) := fun s S mL n Q E k =>
  h s S mL n Q E fun v h' tk k1 n1 p => k v h' tk k1 n1 (by
    obtain ⟨a, vs, rfl, ha, l, r⟩ := p
    refine .list (fun hm => ?_) l (r.sub fun x hx => List.mem_cons_of_mem _ hx)
    obtain ⟨o, ho⟩ := S.ob a hm
    rw [ha] at ho; cases ho)

theorem pe_int {i : Int} {k : Nat} {p : Pos} : PE prog w A hb g I M env ρ (.Constant (.int i) k p) (.int i) := fun s _ => Ev.next fun mL n Q E h => wpAny_Constant_int (h _ s.heap _ KeepM.refl n (.int _ _))
theorem pe_str {x : Str} {k : Nat} {p : Pos} (hx : PyData.strOk x = true) : PE prog w A hb g I M env ρ (.Constant (.str x) k p) (.str x) := fun s _ => Ev.next fun mL n Q E h => wpAny_Constant_str (h _ s.heap _ KeepM.refl n (.str _ _ hx))
theorem pe_bool {b : Bool} {k : Nat} {p : Pos} : PE prog w A hb g I M env ρ (.Constant (.bool b) k p) (.bool b) := fun s _ => Ev.next fun mL n Q E h => wpAny_Constant_bool (h _ s.heap s.toks KeepM.refl n (.bool _))
theorem pe_none {k : Nat} {p : Pos} : PE prog w A hb g I M env ρ (.Constant .none k p) .none := fun s _ => Ev.next fun mL n Q E h => wpAny_Constant_none (h _ s.heap s.toks KeepM.refl n .none)

theorem lcl_debug {sc : Scope} {x : Str} (hx : lcl sc x = true) : (x == ("__debug__" : Str)) = false := by
  simp only [lcl, Bool.and_eq_true, Bool.not_eq_true'] at hx; exact hx.2
theorem pe_name {x : Str} {p : Pos} {d : PyData} (hx : lcl env.scope x = true) (hl : ρ.lookup x = some (.frz d)) : PE prog w A hb g I M env ρ (.Name x p) d := fun s S => by
  obtain ⟨v, ⟨u, e, r⟩, h⟩ := S.load (prog := prog) (w := w) (A := A) hx hl
  cases e
  exact Ev.next fun mL n Q E k => wpAny_Name' (lcl_debug hx) (h Q E (k v s.heap s.toks KeepM.refl n r))
theorem po_own {x : Str} {p : Pos} {a : Addr} {ds : List PyData} (hx : lcl env.scope x = true) (hl : ρ.lookup x = some (.own a ds)) : PO prog w A hb g I M env ρ (.Name x p) (.list ds) := fun s S => by
  obtain ⟨v, ⟨e, _, _, vs, l, r⟩, h⟩ := S.load (prog := prog) (w := w) (A := A) hx hl
  cases e
  exact Ev.next fun mL n Q E k => wpAny_Name' (lcl_debug hx) (h Q E (k _ s.heap s.toks KeepM.refl n (.inr ⟨_, _, _, rfl, rfl, l, r⟩)))

/-! ### ints -/
theorem pe_binI {l r : PySem.Expr} {op : Operator} {a b c : Int} {p : Pos} (hl : PO prog w A hb g I M env ρ l (.int a)) (hr : PO prog w A hb g I M env ρ r (.int b))
    (hop : ∀ (s : Shared) (t u : Tok) (Q : Value → Shared → Prop) (E : Value → Shared → Prop), St hb g I M env ρ s.heap → Q (.int c s.toks) { s with toks := s.toks + 1 } → wpAny (model prog w) A (binaryOp op (.int a t) (.int b u)) Q E s) :
    PE prog w A hb g I M env ρ (.BinOp l op r p) (.int c) :=
  EvS.two hl hr (fun u v => binaryOp op u v) (fun u v s S ru rv => by
    obtain ⟨t, rfl⟩ := ru.int
    obtain ⟨t', rfl⟩ := rv.int
    exact Ev.next fun mL n Q E k => hop s t t' Q E S (k _ s.heap _ KeepM.refl n (.int _ _))) fun s Q E h => wpAny_BinOp h
theorem pe_addI {l r : PySem.Expr} {a b : Int} {p : Pos} (hl : PO prog w A hb g I M env ρ l (.int a)) (hr : PO prog w A hb g I M env ρ r (.int b)) : PE prog w A hb g I M env ρ (.BinOp l .Add r p) (.int (a + b)) :=
  pe_binI hl hr fun s t u Q E _ h => PyProof.Rows.add_int h
theorem pe_subI {l r : PySem.Expr} {a b : Int} {p : Pos} (hl : PO prog w A hb g I M env ρ l (.int a)) (hr : PO prog w A hb g I M env ρ r (.int b)) : PE prog w A hb g I M env ρ (.BinOp l .Sub r p) (.int (a - b)) :=
  pe_binI hl hr fun s t u Q E _ h => PyProof.Rows.sub_int h
theorem pe_mulI {l r : PySem.Expr} {a b : Int} {p : Pos} (hl : PO prog w A hb g I M env ρ l (.int a)) (hr : PO prog w A hb g I M env ρ r (.int b)) (hm : IntMulOk a b) : PE prog w A hb g I M env ρ (.BinOp l .Mult r p) (.int (a * b)) :=
  pe_binI hl hr fun s t u Q E _ h => PyProof.Rows.mul_int h hm
theorem pe_modI {l r : PySem.Expr} {a b : Int} {p : Pos} (hl : PO prog w A hb g I M env ρ l (.int a)) (hr : PO prog w A hb g I M env ρ r (.int b)) (hb' : b ≠ 0) : PE prog w A hb g I M env ρ (.BinOp l .Mod r p) (.int (a.fmod b)) :=
  pe_binI hl hr fun s t u Q E _ h => PyProof.Rows.mod_int hb' h
theorem pe_shrI {l r : PySem.Expr} {a b : Int} {p : Pos} (hl : PO prog w A hb g I M env ρ l (.int a)) (hr : PO prog w A hb g I M env ρ r (.int b)) (hb' : 0 ≤ b) : PE prog w A hb g I M env ρ (.BinOp l .RShift r p) (.int (a.fdiv (2 ^ b.toNat))) :=
  pe_binI hl hr fun s t u Q E _ h => PyProof.Rows.rshift_int hb' h
theorem pe_powI {l r : PySem.Expr} {a b : Int} {p : Pos} (hl : PO prog w A hb g I M env ρ l (.int a)) (hr : PO prog w A hb g I M env ρ r (.int b)) (hb' : 0 ≤ b) (hsz : (Builtin.Int.intBits a : Int) * b ≤ 2 ^ 27) : PE prog w A hb g I M env ρ (.BinOp l .Pow r p) (.int (a ^ b.toNat)) :=
  pe_binI hl hr fun s t u Q E _ h => PyProof.Rows.pow_int hb' hsz h
theorem pe_divI {l r : PySem.Expr} {a b : Int} {p : Pos} (hl : PO prog w A hb g I M env ρ l (.int a)) (hr : PO prog w A hb g I M env ρ r (.int b)) (hb' : b ≠ 0) (hs : b.natAbs < 1073741824) :
    PE prog w A hb g I M env ρ (.BinOp l .FloorDiv r p) (.int (a.fdiv b)) :=
  pe_binI hl hr fun s t u Q E _ h => PyProof.Rows.floordiv_int hb' h (.inl (PyProof.noPylong_small hs))
theorem pe_negI {x : PySem.Expr} {a : Int} {p : Pos} (hl : PE prog w A hb g I M env ρ x (.int a)) : PE prog w A hb g I M env ρ (.UnaryOp .USub x p) (.int (-a)) :=
  EvS.one Rep hl (fun u => unaryOp .USub u) (fun u s S ru => by
    obtain ⟨t, rfl⟩ := ru.int'
    exact Ev.next fun mL n Q E k => PyProof.Rows.neg_int (k _ s.heap _ KeepM.refl n (.int _ _))) fun s Q E h => wpAny_UnaryOp h

/-! ### comparisons -/
theorem pe_cmp {l r : PySem.Expr} {op : CmpOp} {a b : PyData} {c : Bool} {p : Pos} (hl : PO prog w A hb g I M env ρ l a) (hr : PO prog w A hb g I M env ρ r b) (hm : behindInMarks op r = false)
    (hop : ∀ (s : Shared) (u v : Value) (Q : Value → Shared → Prop) (E : Value → Shared → Prop), RepO M s.heap u a → RepO M s.heap v b → Q (.bool c) s → wpAny (model prog w) A (compareOp op u v) Q E s) :
    PE prog w A hb g I M env ρ (.Compare l [op] [r] p) (.bool c) :=
  EvS.two hl hr (fun u v => compareOp op u v) (fun u v s S ru rv => Ev.next fun mL n Q E k => hop s u v Q E ru rv (k _ s.heap s.toks KeepM.refl n (.bool _))) fun s Q E h => wpAny_Compare1 h hm
theorem pt_cmp {l r : PySem.Expr} {op : CmpOp} {a b : PyData} {c : Bool} {p : Pos} (hl : PO prog w A hb g I M env ρ l a) (hr : PO prog w A hb g I M env ρ r b) (hm : behindInMarks op r = false)
    (hop : ∀ (s : Shared) (u v : Value) (Q : Value → Shared → Prop) (E : Value → Shared → Prop), RepO M s.heap u a → RepO M s.heap v b → Q (.bool c) s → wpAny (model prog w) A (compareOp op u v) Q E s) :
    PT prog w A hb g I M env ρ (.Compare l [op] [r] p) c := fun s S mL n Q E k => by
  refine wpAny_isTrue_Compare1 ((hl s S).then n fun u h₁ tk₁ k₁ n₁ r₁ => ?_) hm
  have S₁ := S.grow' n k₁ n₁
  refine (hr { s with heap := h₁, toks := tk₁ } S₁).then n₁ fun v h₂ tk₂ k₂ n₂ r₂ => ?_
  exact hop _ u v _ E (S₁.o k₂ r₁) r₂ (wpAny_truthy_bool (k c h₂ tk₂ (k₁.trans k₂) n₂ rfl))

theorem cm_eq {s : Shared} {u v : Value} {a b : PyData} (hu : A.units + 64 < cLine) (ha : a.depth ≤ 64) (hb' : b.depth ≤ 64) {Q : Value → Shared → Prop} {E : Value → Shared → Prop} (ru : RepO M s.heap u a) (rv : RepO M s.heap v b) (h : Q (.bool (PyData.eqv a b)) s) :
    wpAny (model prog w) A (compareOp .Eq u v) Q E s := by
  obtain ⟨as, qa⟩ := ru.reads
  obtain ⟨bs, qb⟩ := rv.reads
  exact eq_dataH qa qb (by unfold SeqAt.shaped; rw [ru.lay]; simpa using ha) (by unfold SeqAt.shaped; rw [rv.lay]; simpa using hb') hu h
theorem cm_ne {s : Shared} {u v : Value} {a b : PyData} (hu : A.units + 64 < cLine) (ha : a.depth ≤ 64) (hb' : b.depth ≤ 64) {Q : Value → Shared → Prop} {E : Value → Shared → Prop} (ru : RepO M s.heap u a) (rv : RepO M s.heap v b) (h : Q (.bool (!PyData.eqv a b)) s) :
    wpAny (model prog w) A (compareOp .NotEq u v) Q E s := by
  obtain ⟨as, qa⟩ := ru.reads
  obtain ⟨bs, qb⟩ := rv.reads
  exact ne_dataH qa qb (by unfold SeqAt.shaped; rw [ru.lay]; simpa using ha) (by unfold SeqAt.shaped; rw [rv.lay]; simpa using hb') hu h
theorem cm_lt {s : Shared} {u v : Value} {a b : PyData} (hu : A.units + 64 < cLine) (ha : a.depth ≤ 64) (hc : cmpOk a b = true) {Q : Value → Shared → Prop} {E : Value → Shared → Prop} (ru : RepO M s.heap u a) (rv : RepO M s.heap v b) (h : Q (.bool (pyC false a b)) s) :
    wpAny (model prog w) A (compareOp .Lt u v) Q E s := by
  obtain ⟨as, qa⟩ := ru.reads
  obtain ⟨bs, qb⟩ := rv.reads
  exact cmAt_reads false a b A s u v as bs qa qb ru.lay rv.lay hc (by have := Nat.min_le_left a.depth b.depth; omega) prog w E Q h
theorem cm_gt {s : Shared} {u v : Value} {a b : PyData} (hu : A.units + 64 < cLine) (ha : a.depth ≤ 64) (hc : cmpOk a b = true) {Q : Value → Shared → Prop} {E : Value → Shared → Prop} (ru : RepO M s.heap u a) (rv : RepO M s.heap v b) (h : Q (.bool (pyC true a b)) s) :
    wpAny (model prog w) A (compareOp .Gt u v) Q E s := by
  obtain ⟨as, qa⟩ := ru.reads
  obtain ⟨bs, qb⟩ := rv.reads
  exact cmAt_reads true a b A s u v as bs qa qb ru.lay rv.lay hc (by have := Nat.min_le_left a.depth b.depth; omega) prog w E Q h
theorem cm_notIn {s : Shared} {u v : Value} {a : PyData} {ds : List PyData} (hu : A.units + 65 < cLine) (ha : a.depth ≤ 64) {Q : Value → Shared → Prop} {E : Value → Shared → Prop} (ru : RepO M s.heap u a) (rv : RepO M s.heap v (.list ds)) (h : Q (.bool (!ds.any fun y => PyData.eqv y a)) s) :
    wpAny (model prog w) A (compareOp .NotIn u v) Q E s := by
  obtain ⟨as, qa⟩ := ru.reads
  obtain ⟨bs, qb⟩ := rv.reads
  exact SeqAt.notIn_list_reads qb qa (by simpa [PyData.canLay0] using rv.lay) ru.lay (by have := Nat.min_le_right (PyData.depthAll ds) a.depth; omega) h

/-! ### tests -/
theorem pt_not {x : PySem.Expr} {b : Bool} {p : Pos} (h : PT prog w A hb g I M env ρ x b) : PT prog w A hb g I M env ρ (.UnaryOp .Not x p) (!b) := fun s S mL n Q E k =>
  wpAny_isTrue_Not ((h s S).then n fun r h' tk k1 n1 e => k (!r) h' tk k1 n1 (by rw [e]))
theorem pt_val {e : PySem.Expr} {d : PyData} {b : Bool} (h : PO prog w A hb g I M env ρ e d) (ht : ∀ (s : Shared) (v : Value) (Q : Bool → Shared → Prop) (E : Value → Shared → Prop), RepO M s.heap v d → (∀ tk, Q b { s with toks := tk }) → wpAny (model prog w) A (truthy v) Q E s)
    (he : isTrue e env (eval e env) = (do let v ← eval e env; standAt e.pos; holding [v] (truthy v))) : PT prog w A hb g I M env ρ e b := fun s S mL n Q E k => by
  refine wpAny_isTrue_value ((h s S).then n fun v h' tk k1 n1 r => ?_) he
  exact ht _ v Q E r fun tk' => k b h' tk' k1 n1 rfl
theorem pt_bool {x : Str} {p : Pos} {b : Bool} (h : PO prog w A hb g I M env ρ (.Name x p) (.bool b)) : PT prog w A hb g I M env ρ (.Name x p) b :=
  pt_val h (fun s v Q E r k => by rw [r.bool]; exact wpAny_truthy_bool (by simpa using k s.toks)) rfl
theorem pt_list {x : Str} {p : Pos} {ds : List PyData} (h : PO prog w A hb g I M env ρ (.Name x p) (.list ds)) (hz : ds.length < 2 ^ 63) : PT prog w A hb g I M env ρ (.Name x p) (!ds.isEmpty) :=
  pt_val h (fun s v Q E r k => by
    obtain ⟨a, vs, rfl, l, q⟩ := r.list
    have e : (!ds.isEmpty) = !vs.toArray.isEmpty := by
      have := q.length
      cases vs <;> cases ds <;> simp_all
    rw [e] at k
    exact wpAny_truthy_list l.isList (by simp [q.length]; omega) (by simpa using k _)) rfl
noncomputable def PTs (prog : Program) (w : World) (A : Around) (hb g : Heap) (I M : List Addr) (env : Env) (ρ : Store) (op : BoolOp) (es : List PySem.Expr) (b : Bool) : Prop := EvS prog w A hb g I M env ρ (allTrue op es env) (fun r _ => r = b)
theorem pt_boolop {op : BoolOp} {es : List PySem.Expr} {p : Pos} {b : Bool} (h : PTs prog w A hb g I M env ρ op es b) : PT prog w A hb g I M env ρ (.BoolOp op es p) b := fun s S mL n Q E k => wpAny_isTrue_BoolOp ((h s S).then n k)
theorem pts_and_nil : PTs prog w A hb g I M env ρ .And [] true := fun s _ mL n Q E k => wpAny_allTrue_And_nil (k true s.heap s.toks KeepM.refl n rfl)
theorem pts_or_nil : PTs prog w A hb g I M env ρ .Or [] false := fun s _ mL n Q E k => wpAny_allTrue_Or_nil (k false s.heap s.toks KeepM.refl n rfl)
theorem pts_and_t {e : PySem.Expr} {es : List PySem.Expr} {b : Bool} (h : PT prog w A hb g I M env ρ e true) (hs : PTs prog w A hb g I M env ρ .And es b) : PTs prog w A hb g I M env ρ .And (e :: es) b := fun s S mL n Q E k =>
  wpAny_allTrue_And_cons ((h s S).then n fun r h' tk k1 n1 e => by
    subst e
    exact (hs { s with heap := h', toks := tk } (S.grow' n k1 n1)).then n1 fun v h'' tk' k2 n2 q => k v h'' tk' (k1.trans k2) n2 q)
theorem pts_and_f {e : PySem.Expr} {es : List PySem.Expr} (h : PT prog w A hb g I M env ρ e false) : PTs prog w A hb g I M env ρ .And (e :: es) false := fun s S mL n Q E k =>
  wpAny_allTrue_And_cons ((h s S).then n fun r h' tk k1 n1 e => by subst e; exact k false h' tk k1 n1 rfl)
theorem pts_or_f {e : PySem.Expr} {es : List PySem.Expr} {b : Bool} (h : PT prog w A hb g I M env ρ e false) (hs : PTs prog w A hb g I M env ρ .Or es b) : PTs prog w A hb g I M env ρ .Or (e :: es) b := fun s S mL n Q E k =>
  wpAny_allTrue_Or_cons ((h s S).then n fun r h' tk k1 n1 e => by
    subst e
    exact (hs { s with heap := h', toks := tk } (S.grow' n k1 n1)).then n1 fun v h'' tk' k2 n2 q => k v h'' tk' (k1.trans k2) n2 q)
theorem pts_or_t {e : PySem.Expr} {es : List PySem.Expr} (h : PT prog w A hb g I M env ρ e true) : PTs prog w A hb g I M env ρ .Or (e :: es) true := fun s S mL n Q E k =>
  wpAny_allTrue_Or_cons ((h s S).then n fun r h' tk k1 n1 e => by subst e; exact k true h' tk k1 n1 rfl)
theorem pe_ife {c a b : PySem.Expr} {p : Pos} {t : Bool} {d : PyData} (hc : PT prog w A hb g I M env ρ c t) (h : if t then PE prog w A hb g I M env ρ a d else PE prog w A hb g I M env ρ b d) : PE prog w A hb g I M env ρ (.IfExp c a b p) d := fun s S mL n Q E k => by
  refine wpAny_IfExp ((hc s S).then n fun r h' tk k1 n1 e => ?_)
  subst e
  cases r with
  | true => exact (h { s with heap := h', toks := tk } (S.grow' n k1 n1)).then n1 fun v h'' tk' k2 n2 q => k v h'' tk' (k1.trans k2) n2 q
  | false => exact (h { s with heap := h', toks := tk } (S.grow' n k1 n1)).then n1 fun v h'' tk' k2 n2 q => k v h'' tk' (k1.trans k2) n2 q
end
end Oh

-- OhF
namespace Oh
open PySem PySem.W PyProof.Rows PySem.SeqAt

section
variable {prog : Program} {w : World} {A : Around} {hb g : Heap} {I M : List Addr} {env : Env} {ρ : Store} {K : Frag}

theorem keep_sameBut {h h' : Heap} {a : Addr} (s : Heap.SameBut a h h') : KeepM [a] h h' := fun b o hb e => (s.2 b (by simpa using hb)).trans e

/-- one object at c changes: not a list, not of the base, not of the entry's -/
theorem St.turn {h h' : Heap} {c : Addr} {ρ' : Store} {m' : Str → Option Value} (S : St hb g I M env ρ h) (hc : c ∈ M) (hg : c ∈ I ∨ g.get? c = none) (hs : KeepM [c] h h') (ho : ∃ o, h'.get? c = some o)
    (nm : NamesAre env h' m') (sl : ∀ x s, ρ'.lookup x = some s → SlotOk g I M h' (m' x) s) (oI : ∀ x y a ds es, ρ'.lookup x = some (.own a ds) → ρ'.lookup y = some (.own a es) → x = y) : St hb g I M env ρ' h' := by
  refine { S with
    kb := fun b o hb' e => hs b o (by simpa using ne_of_kept hg (S.bg b o e).2 (S.bg b o e).1) (S.kb b o hb' e)
    kg := fun b o hI e => hs b o (by simpa using ne_of_kept hg hI e) (S.kg b o hI e)
    al := fun b o e => by
      by_cases q : b = c
      · rw [q]; exact ho
      · obtain ⟨o', ho'⟩ := S.al b o e
        exact ⟨o', hs b o' (by simpa using q) ho'⟩
    ob := fun a ha => ?_
    names := ⟨m', nm, sl⟩
    oI := oI }
  by_cases e : a = c
  · rw [e]; exact ho
  · obtain ⟨o, h1⟩ := S.ob a ha; exact ⟨o, hs a o (by simpa using e) h1⟩

theorem slotOk_keep {h h' : Heap} {c : Addr} {v : Option Value} {sl : Slot} (hc : c ∈ M) (hs : KeepM [c] h h') (hl : ∀ vs, ¬ LstAt h c vs) (q : SlotOk g I M h v sl) : SlotOk g I M h' v sl := by
  have kM : KeepM M h h' := hs.sub fun x hx => by simp at hx; rw [hx]; exact hc
  cases sl with
  | frz d => obtain ⟨u, e, r⟩ := q; exact ⟨u, e, r.keep kM⟩
  | own a ds =>
    obtain ⟨e, h1, h2, vs, h3, h4⟩ := q
    exact ⟨e, h1, h2, vs, LstAt.keep hs (by simp; intro e; rw [e] at h3; exact hl _ h3) h3, h4.keep kM⟩

theorem lookup_cons_self {x : Str} {sl : Slot} : List.lookup x ((x, sl) :: ρ) = some sl := by simp [List.lookup]
theorem lookup_cons_ne {x y : Str} {sl : Slot} (h : y ≠ x) : List.lookup y ((x, sl) :: ρ) = ρ.lookup y := by
  have : (y == x) = false := by simpa using h
  simp [List.lookup, this]

theorem St.storeK {s : Shared} {x : Str} {v : Value} {sl : Slot} (S : St hb g I M env ρ s.heap) (hx : lcw env x = true) (ok : SlotOk g I M s.heap (some v) sl)
    (inj : ∀ a ds, sl = .own a ds → ∀ y es, y ≠ x → ρ.lookup y ≠ some (.own a es)) {Q : Unit → Shared → Prop} {E : Value → Shared → Prop}
    (k : ∀ h' tk, KeepM M s.heap h' → St hb g I M env ((x, sl) :: ρ) h' → Q () { s with heap := h', toks := tk }) : wpAny (model prog w) A (storeName env x v) Q E s := by
  obtain ⟨m, nm, sok⟩ := S.names
  obtain ⟨mL, n1, n2⟩ := nm.loc
  have oI : ∀ x' y a ds es, List.lookup x' ((x, sl) :: ρ) = some (.own a ds) → List.lookup y ((x, sl) :: ρ) = some (.own a es) → x' = y := fun x' y a ds es h1 h2 => by
    by_cases e1 : x' = x <;> by_cases e2 : y = x
    · rw [e1, e2]
    · subst e1; rw [lookup_cons_self] at h1; cases h1; rw [lookup_cons_ne e2] at h2; exact absurd h2 (inj _ _ rfl y es e2)
    · subst e2; rw [lookup_cons_self] at h2; cases h2; rw [lookup_cons_ne e1] at h1; exact absurd h1 (inj _ _ rfl x' ds e1)
    · rw [lookup_cons_ne e1] at h1; rw [lookup_cons_ne e2] at h2; exact S.oI x' y a ds es h1 h2
  have slots : ∀ h' c, c ∈ M → KeepM [c] s.heap h' → (∀ vs, ¬ LstAt s.heap c vs) → ∀ y s', List.lookup y ((x, sl) :: ρ) = some s' → SlotOk g I M h' (if y = x then some v else m y) s' := fun h' c hc hs hl y s' hy => by
    by_cases e : y = x
    · subst e; rw [lookup_cons_self] at hy; cases hy; rw [if_pos rfl]; exact slotOk_keep hc hs hl ok
    · rw [lookup_cons_ne e] at hy; rw [if_neg e]; exact slotOk_keep hc hs hl (sok y s' hy)
  have hw := hx
  simp only [lcw, lcl, Bool.and_eq_true, Bool.or_eq_true, beq_iff_eq] at hx
  rcases hx.1.1 with e | e
  · refine wpAny_storeName_local e n1 (fun h' hn hs => k h' _ ((keep_sameBut hs).sub fun y hy => by simp at hy; rw [hy]; exact S.LM) ?_) (by rw [S.kind]; rfl)
    have ks := keep_sameBut hs
    refine S.turn S.LM S.L1 ks (ns_ob hn) (m' := fun y => if y = x then some v else m y) ⟨⟨_, hn, fun y hy => ?_⟩, fun y c hy hc => ?_⟩ (slots h' _ S.LM ks fun vs l => (ns_not_list n1 l.isList) rfl) oI
    · show (if y = x then some v else mL y) = if y = x then some v else m y
      split
      · rfl
      · exact n2 y hy
    · have hne : y ≠ x := fun q => by subst q; rw [show env.kindOf y = env.scope.names.lookup y from rfl, e] at hy; cases hy
      simp only [if_neg hne]
      exact (nm.cell y c hy hc).sameBut hs (ns_not_cell n1 (nm.cell y c hy hc))
  · obtain ⟨c, hc⟩ := S.cE x e
    have hcell := nm.cell x c e hc
    refine wpAny_storeName_cell S.kind e hc hcell fun h' hn hs => k h' s.toks ((keep_sameBut hs).sub fun y hy => by simp at hy; rw [hy]; exact (S.cM x c hc).1) ?_
    have ks := keep_sameBut hs
    have hcM : c ∈ M ∧ (c ∈ I ∨ g.get? c = none) := ⟨(S.cM x c hc).1, (S.cM x c hc).2 (hx.2.elim id fun q => by rw [e] at q; cases q)⟩
    refine S.turn hcM.1 hcM.2 ks (by obtain ⟨o, ho, _⟩ := hn; exact ⟨o, ho⟩) (m' := fun y => if y = x then some v else m y) ⟨⟨mL, ?_, fun y hy => ?_⟩, fun y c' hy hc' => ?_⟩
      (slots h' _ hcM.1 ks fun vs l => (list_not_cell l.isList hcell) rfl) oI
    · obtain ⟨o, es, ep, ho, r⟩ := n1
      exact ⟨o, es, ep, (hs.2 _ (ns_not_cell ⟨o, es, ep, ho, r⟩ hcell).symm).trans ho, r⟩
    · have hne : y ≠ x := fun q => by subst q; rw [show env.kindOf y = env.scope.names.lookup y from rfl, e] at hy; cases hy
      simp only [if_neg hne]; exact n2 y hy
    · by_cases q : y = x
      · subst q; rw [hc] at hc'; cases hc'; simp only [if_true]; exact hn
      · simp only [if_neg q]
        exact (nm.cell y c' hy hc').sameBut hs fun w => q (S.cI y x c (w ▸ hc') hc)
theorem St.store {s : Shared} {x : Str} {v : Value} {sl : Slot} (S : St hb g I M env ρ s.heap) (hx : lcw env x = true) (ok : SlotOk g I M s.heap (some v) sl)
    (inj : ∀ a ds, sl = .own a ds → ∀ y es, y ≠ x → ρ.lookup y ≠ some (.own a es)) {Q : Unit → Shared → Prop} {E : Value → Shared → Prop}
    (k : ∀ h' tk, St hb g I M env ((x, sl) :: ρ) h' → Q () { s with heap := h', toks := tk }) : wpAny (model prog w) A (storeName env x v) Q E s :=
  S.storeK hx ok inj fun h' tk _ S' => k h' tk S'
end
end Oh

-- OhG
namespace Oh
open PySem PySem.W PyProof.Rows PySem.SeqAt PySem.Calls

theorem strOk_append {x y : Str} (hx : PyData.strOk x = true) (hy : PyData.strOk y = true) : PyData.strOk (x ++ y) = true := by
  unfold PyData.strOk at *
  rw [Str.cps_append, Array.all_append, hx, hy]; rfl
theorem strOk_of_mem {x y : Str} (hx : PyData.strOk x = true) (h : ∀ c ∈ y.cps, c ∈ x.cps) : PyData.strOk y = true := by
  unfold PyData.strOk at *
  rw [Array.all_eq_true'] at *
  exact fun c hc => hx c (h c hc)

section
variable {prog : Program} {w : World} {A : Around} {hb g : Heap} {I M : List Addr} {env : Env} {ρ : Store} {K : Frag}

/-! ### items -/
theorem subscr_of {slice : PySem.Expr} {o i : Value} (hs : (match slice with | .Slice .. => false | _ => true) = true) : subscripted slice false o i = operate [o, i] (getItem o i) := by
  cases slice <;> first | rfl | cases hs
theorem pe_idxL {o i : PySem.Expr} {ds : List PyData} {d : PyData} {k : Int} {p : Pos} (ho : PO prog w A hb g I M env ρ o (.list ds)) (hi : PO prog w A hb g I M env ρ i (.int k)) (h0 : 0 ≤ k) (hd : ds[k.toNat]? = some d) (hz : k < 2 ^ 63)
    (hs : (match i with | .Slice .. => false | _ => true) = true) : PE prog w A hb g I M env ρ (.Subscript o i p) d :=
  EvS.two ho hi (fun u v => subscriptTail o i u v) (fun u v s S ru rv => by
    obtain ⟨t, rfl⟩ := rv.int
    obtain ⟨a, vs, rfl, l, q⟩ := ru.list
    obtain ⟨x, hx, rx⟩ := q.get hd
    exact Ev.next fun mL n Q E kk => tail_any l.isList.typeIs slot_list_getitem.lookup (wpAny_getItem_list l.isList h0 hz (by simpa using hx) (kk x s.heap s.toks KeepM.refl n rx)) (subscr_of hs)) fun s Q E h => Subscript_ h
theorem pe_idxN {o i : PySem.Expr} {ds : List PyData} {d : PyData} {k : Int} {p : Pos} (ho : PO prog w A hb g I M env ρ o (.list ds)) (hi : PO prog w A hb g I M env ρ i (.int k)) (h0 : k < 0) (h1 : -(ds.length : Int) ≤ k) (hd : ds[(k + ds.length).toNat]? = some d) (hz : -(2 ^ 63) ≤ k)
    (hs : (match i with | .Slice .. => false | _ => true) = true) : PE prog w A hb g I M env ρ (.Subscript o i p) d :=
  EvS.two ho hi (fun u v => subscriptTail o i u v) (fun u v s S ru rv => by
    obtain ⟨t, rfl⟩ := rv.int
    obtain ⟨a, vs, rfl, l, q⟩ := ru.list
    obtain ⟨x, hx, rx⟩ := q.get hd
    have hl := q.length
    exact Ev.next fun mL n Q E kk => tail_any l.isList.typeIs slot_list_getitem.lookup (wpAny_getItem_list_neg l.isList h0 (by simpa [hl] using h1) hz (by simpa [hl] using hx) (kk x s.heap s.toks KeepM.refl n rx)) (subscr_of hs)) fun s Q E h => Subscript_ h
theorem pe_idxS {o i : PySem.Expr} {x : Str} {k : Int} {p : Pos} (ho : PO prog w A hb g I M env ρ o (.str x)) (hi : PO prog w A hb g I M env ρ i (.int k)) (h0 : -(x.length : Int) ≤ k) (h1 : k < x.length) (hz : x.length < 2 ^ 62)
    (hs : (match i with | .Slice .. => false | _ => true) = true) : PE prog w A hb g I M env ρ (.Subscript o i p) (.str (Txt.item x k)) :=
  EvS.two ho hi (fun u v => subscriptTail o i u v) (fun u v s S ru rv => by
    obtain ⟨t, rfl⟩ := rv.int
    obtain ⟨t', rfl, hx⟩ := ru.str
    have hc := charAt_isSome h0 h1
    have ok : PyData.strOk (Txt.item x k) = true := by
      refine strOk_of_mem hx fun c hc' => ?_
      unfold Txt.item Txt.charAt at hc'
      unfold Txt.charAt at hc
      cases e : seqIndex? k x.length with
      | none => rw [e] at hc; cases hc
      | some j =>
        rw [e] at hc hc'
        simp only [Option.bind_some] at hc hc'
        cases e2 : x.cps[j]? with
        | none => rw [e2] at hc; cases hc
        | some c' =>
          rw [e2] at hc'
          simp only [Option.getD_some, List.mem_toArray, List.mem_singleton] at hc'
          subst hc'; exact Array.mem_of_getElem? e2
    exact Ev.next fun mL n Q E kk => tail_any (typeIs_str _ _ _) F.slot_str_getitem.lookup (SB.getItem (by unfold fitsSsize; simp; omega) hc (kk _ s.heap _ KeepM.refl n (.str _ _ ok))) (subscr_of hs)) fun s Q E h => Subscript_ h

/-! ### slices -/
noncomputable def PP (prog : Program) (w : World) (A : Around) (hb g : Heap) (I M : List Addr) (env : Env) (ρ : Store) (e : Option PySem.Expr) (i : Option Int) : Prop := EvS prog w A hb g I M env ρ (evalPart e env) (fun v _ => IsPart v i)
theorem pp_none : PP prog w A hb g I M env ρ none none := fun s _ => Ev.pure .none
theorem pp_some {e : PySem.Expr} {i : Int} (h : PO prog w A hb g I M env ρ e (.int i)) : PP prog w A hb g I M env ρ (some e) (some i) := EvS.mono h fun v h r => by obtain ⟨t, rfl⟩ := r.int; exact .int i t

noncomputable def pickD (ds : List PyData) (lo hi st : Option Int) : List PyData :=
  (sliceRange (sliceBounds lo hi st ds.length).1 (sliceBounds lo hi st ds.length).2.1 (sliceBounds lo hi st ds.length).2.2).filterMap (ds[·]?)

theorem slice_subscr {lo hi st : Option PySem.Expr} {p : Pos} {o i : Value} : ∃ ops, subscripted (.Slice lo hi st p) false o i = operate ops (getItem o i) := by
  cases st with
  | none => exact ⟨_, rfl⟩
  | some e => exact ⟨_, rfl⟩

theorem ev_slice {s : Shared} {lo hi st : Option PySem.Expr} {lo' hi' st' : Option Int} {p : Pos} {mL : Str → Option Value} {Q : Value → Shared → Prop} {E : Value → Shared → Prop} (S : St hb g I M env ρ s.heap) (n : s.heap.Ns env.locals mL)
    (hlo : PP prog w A hb g I M env ρ lo lo') (hhi : PP prog w A hb g I M env ρ hi hi') (hst : PP prog w A hb g I M env ρ st st')
    (k : ∀ vl vu vs h' tk, KeepM [env.locals] s.heap h' → h'.Ns env.locals mL → IsPart vl lo' → IsPart vu hi' → IsPart vs st' →
      Q (.ref h'.objs.size) { s with heap := h'.push { cls := .type "slice", data := .fields #[vl, vu, vs] }, toks := tk }) : wpAny (model prog w) A (eval (.Slice lo hi st p) env) Q E s := by
  refine wpAny_Slice ((hlo s S).then n fun vl h₁ tk₁ k₁ n₁ r₁ => ?_)
  have S₁ := S.grow' n k₁ n₁
  refine (hhi { s with heap := h₁, toks := tk₁ } S₁).then n₁ fun vu h₂ tk₂ k₂ n₂ r₂ => ?_
  have S₂ := S₁.grow' n₁ k₂ n₂
  exact (hst { s with heap := h₂, toks := tk₂ } S₂).then n₂ fun vs h₃ tk₃ k₃ n₃ r₃ => k vl vu vs h₃ tk₃ ((k₁.trans k₂).trans k₃) n₃ r₁ r₂ r₃

theorem isList_push {h : Heap} {a : Addr} {vs : List Value} (l : LstAt h a vs) (o : Obj) : LstAt (h.push o) a vs := by obtain ⟨n, e⟩ := l; exact ⟨n, Heap.get?_push_of_some _ e⟩
/-- a new list at the heap's end, of items that stand already -/
theorem fresh_list {h : Heap} {vs : List Value} {ds : List PyData} (r : RepL M h vs ds) : LstAt (h.push (listOf vs.toArray 0)) h.objs.size vs ∧ RepL (h.objs.size :: M) (h.push (listOf vs.toArray 0)) vs ds := by
  refine ⟨⟨0, Heap.get?_push_size _ rfl⟩, RepL.keep (keep_push _) (r.other fun a ha => ?_)⟩
  rcases List.mem_cons.mp ha with rfl | ha
  · exact .inr (get_size_none h)
  · exact .inl ha
theorem none_of_keep {h h' : Heap} {L a : Addr} {mL : Str → Option Value} (n : h.Ns L mL) (n' : h'.Ns L mL) (k : KeepM [L] h h') (ha : h'.get? a = none) : h.get? a = none := by
  cases e : h.get? a with
  | none => rfl
  | some o =>
    by_cases q : a = L
    · subst q; obtain ⟨o', ho'⟩ := ns_ob n'; rw [ha] at ho'; cases ho'
    · rw [k a o (by simpa using q) e] at ha; cases ha

theorem pf_slice {o : PySem.Expr} {lo hi st : Option PySem.Expr} {lo' hi' st' : Option Int} {ds : List PyData} {p p' : Pos} (ho : PO prog w A hb g I M env ρ o (.list ds)) (hlo : PP prog w A hb g I M env ρ lo lo') (hhi : PP prog w A hb g I M env ρ hi hi')
    (hst : PP prog w A hb g I M env ρ st st') (h0 : st' ≠ some 0) (hz : ds.length ≤ sizeLine) : PF prog w A hb g I M env ρ (.Subscript o (.Slice lo hi st p') p) (pickD ds lo' hi' st') := fun s S mL n Q E k => by
  refine Subscript_ ((ho s S).then n fun u h₁ tk₁ k₁ n₁ r₁ => ?_)
  have S₁ := S.grow' n k₁ n₁
  refine ev_slice (s := { s with heap := h₁, toks := tk₁ }) S₁ n₁ hlo hhi hst fun vl vu vs h₂ tk₂ k₂ n₂ p1 p2 p3 => ?_
  obtain ⟨a, its, rfl, l, q⟩ := r₁.list
  have l₂ : LstAt h₂ a its := LstAt.keep k₂ (by simpa using ns_not_list n₁ l.isList) l
  have q₂ := S₁.rl k₂ q
  obtain ⟨ops, hs⟩ := slice_subscr (lo := lo) (hi := hi) (st := st) (p := p') (o := .ref a) (i := .ref h₂.objs.size)
  have l₃ := isList_push l₂ { cls := .type "slice", data := .fields #[vl, vu, vs] }
  refine tail_any (s := { s with heap := h₂.push _, toks := tk₂ }) l₃.isList.typeIs slot_list_getitem.lookup
    (wpAny_getItem_list_slice l₃.isList (Heap.IsSliceOf.new ..) p1 p2 p3 h0 ?_ (by simpa [q.length] using hz)) hs
  have e : slicePick its.toArray lo' hi' st' = ((sliceRange (sliceBounds lo' hi' st' ds.length).1 (sliceBounds lo' hi' st' ds.length).2.1 (sliceBounds lo' hi' st' ds.length).2.2).filterMap (its[·]?)).toArray := by
    unfold slicePick; simp [q.length]
  rw [e]
  obtain ⟨f1, f2⟩ := fresh_list ((q₂.keep (keep_push { cls := .type "slice", data := .fields #[vl, vu, vs] })).pick (sliceRange (sliceBounds lo' hi' st' ds.length).1 (sliceBounds lo' hi' st' ds.length).2.1 (sliceBounds lo' hi' st' ds.length).2.2))
  have kk := (k₁.trans k₂).trans ((keep_push (M := [env.locals]) { cls := .type "slice", data := .fields #[vl, vu, vs] }))
  have nn := ns_push n₂ { cls := .type "slice", data := .fields #[vl, vu, vs] }
  exact k _ _ tk₂ (kk.trans (keep_push _)) (ns_push nn _) ⟨_, _, rfl, none_of_keep n nn kk (get_size_none _), f1, f2⟩

/-- a slice of a text -/
theorem strOk_slice {x : Str} {lo hi : Option Int} (hx : PyData.strOk x = true) : PyData.strOk (Txt.slice x lo hi) = true := by
  unfold Txt.slice
  split
  · exact hx
  · refine strOk_of_mem hx fun c hc => ?_
    simp only [List.mem_toArray, List.mem_filterMap] at hc
    obtain ⟨j, _, e⟩ := hc
    exact Array.mem_of_getElem? e
theorem tail_item {value slice : PySem.Expr} {o i : Value} {ops : List Value} {s : Shared} {Q : Value → Shared → Prop} {E : Value → Shared → Prop} (h : ItemOn (model prog w) A E o i Q s)
    (hs : subscripted slice false o i = operate ops (getItem o i)) : wpAny (model prog w) A (subscriptTail value slice o i) Q E s := by
  obtain ⟨T, id, hl, hT, hg⟩ := h
  exact tail_any hT hl hg hs
theorem pe_slcS {o : PySem.Expr} {lo hi : Option PySem.Expr} {lo' hi' : Option Int} {x : Str} {p p' : Pos} (ho : PO prog w A hb g I M env ρ o (.str x)) (hlo : PP prog w A hb g I M env ρ lo lo') (hhi : PP prog w A hb g I M env ρ hi hi')
    (hz : x.length ≤ sizeLine) : PE prog w A hb g I M env ρ (.Subscript o (.Slice lo hi none p') p) (.str (Txt.slice x lo' hi')) := fun s S mL n Q E k => by
  refine Subscript_ ((ho s S).then n fun u h₁ tk₁ k₁ n₁ r₁ => ?_)
  have S₁ := S.grow' n k₁ n₁
  refine ev_slice (s := { s with heap := h₁, toks := tk₁ }) S₁ n₁ hlo hhi pp_none fun vl vu vs h₂ tk₂ k₂ n₂ p1 p2 p3 => ?_
  obtain ⟨t, rfl, hx⟩ := r₁.str
  have S₂ := S₁.grow' n₁ k₂ n₂
  have kept : PySem.KeptH (fun h => KeepM [env.locals] s.heap h ∧ h.Ns env.locals mL) := fun h ob q => ⟨q.1.trans (keep_push _), ns_push q.2 _⟩
  have fin : ∀ h' t' k', (KeepM [env.locals] s.heap h' ∧ h'.Ns env.locals mL) → Q (.str (Txt.slice x lo' hi') t') { s with heap := h', toks := k' } := fun h' t' k' q => k _ h' k' q.1 q.2 (.str _ _ (strOk_slice hx))
  cases p3
  cases p1 <;> cases p2
  · exact tail_item (SBH.sliceItem_nn (s := { s with heap := h₂, toks := tk₂ }) kept ⟨k₁.trans k₂, n₂⟩ fin hz) rfl
  · exact tail_item (SBH.sliceItem_ns (s := { s with heap := h₂, toks := tk₂ }) kept ⟨k₁.trans k₂, n₂⟩ fin hz) rfl
  · exact tail_item (SBH.sliceItem_sn (s := { s with heap := h₂, toks := tk₂ }) kept ⟨k₁.trans k₂, n₂⟩ fin hz) rfl
  · exact tail_item (SBH.sliceItem_ss (s := { s with heap := h₂, toks := tk₂ }) kept ⟨k₁.trans k₂, n₂⟩ fin hz) rfl

/-! ### displays -/
theorem pes_nil : PEs prog w A hb g I M env ρ [] [] := fun pos s _ => Ev.next fun mL n Q E k => wpAny_items_nil (k _ s.heap s.toks KeepM.refl n .nil)
theorem pes_cons {e : PySem.Expr} {es : List PySem.Expr} {d : PyData} {ds : List PyData} (he : PE prog w A hb g I M env ρ e d) (hs : PEs prog w A hb g I M env ρ es ds) (hst : starEach (e :: es) env = (false, eval e env) :: starEach es env := by rfl) :
    PEs prog w A hb g I M env ρ (e :: es) (d :: ds) := fun pos s S mL n Q E k =>
  wpAny_items_cons ((he s S).then n fun v h₁ tk₁ k₁ n₁ r₁ =>
    have S₁ := S.grow' n k₁ n₁
    (hs pos { s with heap := h₁, toks := tk₁ } S₁).then n₁ fun vs h₂ tk₂ k₂ n₂ r₂ => k _ h₂ tk₂ (k₁.trans k₂) n₂ (.cons (S₁.r k₂ r₁) r₂)) hst
theorem pf_list {es : List PySem.Expr} {ds : List PyData} {p : Pos} (h : PEs prog w A hb g I M env ρ es ds) (hz : ds.length ≤ sizeLine) : PF prog w A hb g I M env ρ (.List es p) ds := fun s S mL n Q E k =>
  wpAny_List ((h p s S).then n fun vs h₁ tk₁ k₁ n₁ r₁ => ⟨by rw [r₁.length]; exact hz, by
    obtain ⟨f1, f2⟩ := fresh_list r₁
    exact k _ _ tk₁ (k₁.trans (keep_push _)) (ns_push n₁ _) ⟨_, _, rfl, none_of_keep n n₁ k₁ (get_size_none _), f1, f2⟩⟩)
theorem pe_tuple {es : List PySem.Expr} {ds : List PyData} {k' : Nat} {p : Pos} (h : PEs prog w A hb g I M env ρ es ds) (hz : ds.length ≤ sizeLine) : PE prog w A hb g I M env ρ (.Tuple es k' p) (.tuple ds) := fun s S mL n Q E k =>
  wpAny_Tuple ((h p s S).then n fun vs h₁ tk₁ k₁ n₁ r₁ => ⟨by rw [r₁.length]; exact hz, by
    have S₁ := S.grow' n k₁ n₁
    refine k _ _ tk₁ (k₁.trans (keep_push _)) (ns_push n₁ _) (.tuple (fun hm => ?_) ⟨_, Heap.get?_push_size _ rfl, rfl, _, rfl⟩ (r₁.keep (keep_push _)))
    obtain ⟨o, ho⟩ := S₁.ob _ hm
    rw [get_size_none] at ho; cases ho⟩)

/-! ### texts and lists joined -/
theorem pe_addS {l r : PySem.Expr} {x y : Str} {p : Pos} (hl : PO prog w A hb g I M env ρ l (.str x)) (hr : PO prog w A hb g I M env ρ r (.str y)) (hz : x.length + y.length ≤ sizeLine) : PE prog w A hb g I M env ρ (.BinOp l .Add r p) (.str (x ++ y)) :=
  EvS.two hl hr (fun u v => binaryOp .Add u v) (fun u v s S ru rv => by
    obtain ⟨t, rfl, h1⟩ := ru.str
    obtain ⟨t', rfl, h2⟩ := rv.str
    exact Ev.next fun mL n Q E k => PyProof.Rows.add_str (fun t' tk => k _ s.heap _ KeepM.refl n (.str _ _ (strOk_append h1 h2))) hz) fun s Q E h => wpAny_BinOp h
theorem pe_addL {l r : PySem.Expr} {xs ys : List PyData} {p : Pos} (hl : PO prog w A hb g I M env ρ l (.list xs)) (hr : PO prog w A hb g I M env ρ r (.list ys)) (hz : xs.length + ys.length ≤ sizeLine) : PE prog w A hb g I M env ρ (.BinOp l .Add r p) (.list (xs ++ ys)) :=
  EvS.two hl hr (fun u v => binaryOp .Add u v) (fun u v s S ru rv => by
    obtain ⟨a, vs, rfl, l1, q1⟩ := ru.list
    obtain ⟨b, ws, rfl, l2, q2⟩ := rv.list
    refine Ev.next fun mL n Q E k => add_lists (frE n) newsE l1.isList l2.isList (fun h' F N => ?_) (by rw [q1.length, q2.length]; exact hz)
    have kk := newsE_keep1 N
    refine k _ h' s.toks kk F.ns (.list (fun hm => ?_) ⟨0, (N _ (List.mem_cons_self ..)).1⟩ (S.rl kk (q1.append q2)))
    obtain ⟨o, ho⟩ := S.ob _ hm
    rw [get_size_none] at ho; cases ho) fun s Q E h => wpAny_BinOp h
theorem pe_mulS {l r : PySem.Expr} {x : Str} {i : Int} {p : Pos} (hl : PO prog w A hb g I M env ρ l (.str x)) (hr : PO prog w A hb g I M env ρ r (.int i)) (hm : MulOk x i) (hok : PyData.strOk (Txt.mul x i) = true) : PE prog w A hb g I M env ρ (.BinOp l .Mult r p) (.str (Txt.mul x i)) :=
  EvS.two hl hr (fun u v => binaryOp .Mult u v) (fun u v s S ru rv => by
    obtain ⟨t, rfl, h1⟩ := ru.str
    obtain ⟨t', rfl⟩ := rv.int
    exact Ev.next fun mL n Q E k => SB.mul hm (fun t' tk => k _ s.heap _ KeepM.refl n (.str _ _ hok))) fun s Q E h => wpAny_BinOp h
theorem repeat_eq (xs : Array Value) : ∀ n : Nat, List.foldl (fun x1 x2 => x1 ++ x2) #[] (List.replicate n xs) = (List.replicate n xs.toList).flatten.toArray := by
  intro n
  have key : ∀ (n : Nat) (acc : Array Value), List.foldl (fun x1 x2 => x1 ++ x2) acc (List.replicate n xs) = acc ++ (List.replicate n xs.toList).flatten.toArray := by
    intro n
    induction n with
    | zero => intro acc; simp
    | succ n ih => intro acc; rw [List.replicate_succ, List.foldl_cons, ih, List.replicate_succ, List.flatten_cons, Array.append_assoc]; congr 1; apply Array.ext'; simp
  rw [key n #[]]; simp
theorem RepL.rep {h : Heap} {vs : List Value} {ds : List PyData} (r : RepL M h vs ds) : ∀ n : Nat, RepL M h (List.replicate n vs).flatten (List.replicate n ds).flatten
  | 0 => .nil
  | n + 1 => by rw [List.replicate_succ, List.replicate_succ, List.flatten_cons, List.flatten_cons]; exact r.append (RepL.rep r n)
theorem pe_mulL {l r : PySem.Expr} {xs : List PyData} {i : Int} {p : Pos} (hl : PO prog w A hb g I M env ρ l (.list xs)) (hr : PO prog w A hb g I M env ρ r (.int i)) (h0 : xs ≠ []) (hlo : -(2 ^ 63 : Int) ≤ i) (hhi : i < 2 ^ 63) (hz : xs.length * i.toNat ≤ 2 ^ 24) :
    PE prog w A hb g I M env ρ (.BinOp l .Mult r p) (.list (List.replicate i.toNat xs).flatten) :=
  EvS.two hl hr (fun u v => binaryOp .Mult u v) (fun u v s S ru rv => by
    obtain ⟨a, vs, rfl, ⟨n1, l1⟩, q1⟩ := ru.list
    obtain ⟨t', rfl⟩ := rv.int
    have hne : (vs.toArray.isEmpty) = false := by
      have := q1.length
      cases vs with
      | nil => cases xs with
        | nil => exact absurd rfl h0
        | cons _ _ => simp at this
      | cons _ _ => simp
    refine Ev.next fun mL n Q E k => mul_list (frE n) newsE l1 hlo hhi (by simpa [q1.length] using hz) (fun h' F N => ?_)
    have kk := newsE_keep1 N
    have ho := (N _ (List.mem_cons_self ..)).1
    simp only [hne, Bool.false_eq_true, if_false] at ho
    rw [repeat_eq] at ho
    refine k _ h' s.toks kk F.ns (.list (fun hm => ?_) ⟨0, ho⟩ (by simpa using S.rl kk (q1.rep i.toNat)))
    obtain ⟨o, ho⟩ := S.ob _ hm
    rw [get_size_none] at ho; cases ho) fun s Q E h => wpAny_BinOp h
end
end Oh

-- OhH
namespace Oh
open PySem PySem.W PyProof.Rows PySem.SeqAt PySem.Calls PySem.MeetsSeq

section
variable {prog : Program} {w : World} {A : Around} {hb g : Heap} {I M : List Addr} {env : Env} {ρ : Store} {K : Frag}

/-- f(e), f a built-in function -/
theorem ev_blt1 {f : Str} {e : PySem.Expr} {id : String} {d : PyData} {P : Value → Heap → Prop} {p pos : Pos} (B : BaseOk K hb) (hf : glb env.scope f = true) (hn : nsIn K mainGlobals f = some none) (hv : bootBuiltins f = some (.builtin id)) (hnn : f ≠ "__name__")
    (he : PO prog w A hb g I M env ρ e d) (hop : ∀ u (s : Shared), St hb g I M env ρ s.heap → RepO M s.heap u d → Ev prog w A env.locals (call (.builtin id) [u]) s P) (hst : starEach [e] env = [(false, eval e env)] := by rfl) :
    EvS prog w A hb g I M env ρ (eval (.Call (.Name f p) [e] [] pos) env) P := fun s S mL n Q E k =>
  Call_Name1 (St.blt B S hf hn hv hnn (PySem.callWith_builtin1 ((he s S).then n fun u h₁ tk₁ k₁ n₁ r₁ =>
    (hop u { s with heap := h₁, toks := tk₁ } (S.grow' n k₁ n₁) r₁).then n₁ fun v h₂ tk₂ k₂ n₂ q => k v h₂ tk₂ (k₁.trans k₂) n₂ q))) hst
theorem pe_lenL {f : Str} {e : PySem.Expr} {ds : List PyData} {p pos : Pos} (B : BaseOk K hb) (hf : glb env.scope f = true) (hn : nsIn K mainGlobals f = some none) (hv : bootBuiltins f = some (.builtin "len")) (hnn : f ≠ "__name__")
    (he : PO prog w A hb g I M env ρ e (.list ds)) (hz : ds.length < 2 ^ 63) (hst : starEach [e] env = [(false, eval e env)] := by rfl) : PE prog w A hb g I M env ρ (.Call (.Name f p) [e] [] pos) (.int ds.length) :=
  ev_blt1 B hf hn hv hnn he (fun u s S r => by
    obtain ⟨a, vs, rfl, l, q⟩ := r.list
    refine Ev.next fun mL n Q E k => PyProof.Rows.len_list l.isList (by simp [q.length]; omega) ?_
    have : (vs.toArray.size : Int) = ds.length := by simp [q.length]
    rw [this]
    exact k _ s.heap _ KeepM.refl n (.int _ _)) hst
theorem pe_lenS {f : Str} {e : PySem.Expr} {x : Str} {p pos : Pos} (B : BaseOk K hb) (hf : glb env.scope f = true) (hn : nsIn K mainGlobals f = some none) (hv : bootBuiltins f = some (.builtin "len")) (hnn : f ≠ "__name__")
    (he : PO prog w A hb g I M env ρ e (.str x)) (hz : x.length < 2 ^ 63) (hst : starEach [e] env = [(false, eval e env)] := by rfl) : PE prog w A hb g I M env ρ (.Call (.Name f p) [e] [] pos) (.int x.length) :=
  ev_blt1 B hf hn hv hnn he (fun u s S r => by
    obtain ⟨t, rfl, _⟩ := r.str
    exact Ev.next fun mL n Q E k => PyProof.Rows.len_str (by omega) (k _ s.heap _ KeepM.refl n (.int _ _))) hst

theorem RepL.ints {h : Heap} : ∀ {vs : List Value} {ns : List Int}, RepL M h vs (ns.map .int) → IntsAre vs ns
  | _, [], r => by cases r; exact .nil
  | _, n :: ns, r => by cases r with | cons a b => obtain ⟨t, rfl⟩ := a.int'; exact .cons n t (RepL.ints b)
theorem pe_sum {f : Str} {e : PySem.Expr} {ns : List Int} {p pos : Pos} (B : BaseOk K hb) (hf : glb env.scope f = true) (hn : nsIn K mainGlobals f = some none) (hv : bootBuiltins f = some (.builtin "sum")) (hnn : f ≠ "__name__") (hh : A.handled = none)
    (he : PO prog w A hb g I M env ρ e (.list (ns.map .int))) (hst : starEach [e] env = [(false, eval e env)] := by rfl) : PE prog w A hb g I M env ρ (.Call (.Name f p) [e] [] pos) (.int ns.sum) :=
  ev_blt1 B hf hn hv hnn he (fun u s S r => by
    obtain ⟨a, vs, rfl, l, q⟩ := r.list
    exact Ev.next fun mL n Q E k => LSm.sum_ints (frE n) newsE hh l.isList q.ints fun h' tk t' F N => k _ h' tk (newsE_keep0 N) F.ns (.int _ _)) hst

theorem pf_copy {f : Str} {e : PySem.Expr} {ds : List PyData} {p pos : Pos} (B : BaseOk K hb) (hf : glb env.scope f = true) (hn : nsIn K mainGlobals f = some none) (hv : bootBuiltins f = some (.type "list")) (hnn : f ≠ "__name__")
    (he : PO prog w A hb g I M env ρ e (.list ds)) (hz : ds.length ≤ sizeLine) (hst : starEach [e] env = [(false, eval e env)] := by rfl) : PF prog w A hb g I M env ρ (.Call (.Name f p) [e] [] pos) ds := fun s S mL n Q E k =>
  Call_Name1 (St.blt B S hf hn hv hnn (PySem.callWith_type1 ((he s S).then n fun u h₁ tk₁ k₁ n₁ r₁ => by
    obtain ⟨a, vs, rfl, l, q⟩ := r₁.list
    have S₁ := S.grow' n k₁ n₁
    refine list_copyK (s := { s with heap := h₁, toks := tk₁ }) (frE n₁) newsE l.isList (fun D c h' F N hD => ?_) (by simpa [q.length] using hz)
    have kk := newsE_keep1 N
    have hN := N _ (List.mem_cons_self ..)
    have hfresh : h₁.get? D = none := by
      cases e : h₁.get? D with
      | none => rfl
      | some o => exact absurd (hD (D, o) (mem_objsBut.mpr ⟨e, hN.2.1⟩)) (Nat.lt_irrefl _)
    refine k _ h' tk₁ (k₁.trans kk) F.ns ⟨D, vs, rfl, none_of_keep n n₁ k₁ hfresh, ⟨c, hN.1⟩, ?_⟩
    refine RepL.keep (h := h₁) (fun b o hb' e => kk b o (fun hm => hb' (List.mem_cons_of_mem _ ?_)) e) (q.other fun x hx => ?_)
    · simp at hm; rw [hm]; exact S.LM
    · rcases List.mem_cons.mp hx with rfl | hx
      · exact .inr hfresh
      · exact .inl hx))) hst

/-! ### methods -/
theorem list_meth {a : Addr} {vs : List Value} {s : Shared} {name : Str} {id : String} {pos : Pos} {args : List (Bool × Sem Value)} {Q : Value → Shared → Prop} {E : Value → Shared → Prop} (l : LstAt s.heap a vs) (slot : PySem.Slot "list" name id) (ty : typeOf (.builtin id) = pure (.type "method_descriptor"))
    (h : wpAny (model prog w) A (callWith pos (.builtin id) [.ref a] args []) Q E s) : MethodOnS prog w A E name (.ref a) pos args Q s :=
  ⟨"list", id, F.plainAttrs_list, slot, ty, l.isList.typeIs, (fun b e => by cases e; obtain ⟨n, e⟩ := l; exact ⟨_, e, rfl⟩), h⟩
theorem str_meth {x : Str} {t : Tok} {s : Shared} {name : Str} {id : String} {pos : Pos} {args : List (Bool × Sem Value)} {Q : Value → Shared → Prop} {E : Value → Shared → Prop} (slot : PySem.Slot "str" name id) (ty : typeOf (.builtin id) = pure (.type "method_descriptor"))
    (h : wpAny (model prog w) A (callWith pos (.builtin id) [.str x t] args []) Q E s) : MethodOnS prog w A E name (.str x t) pos args Q s :=
  ⟨"str", id, F.plainAttrs_str, slot, ty, typeIs_str _ _ _, (fun b e => nomatch e), h⟩
/-- arguments, one, then the built-in with what stands first -/
theorem callWith_m1 {id : String} {first : List Value} {t : Sem Value} {pos : Pos} {s : Shared} {Q : Value → Shared → Prop} {E : Value → Shared → Prop} (h : wpAny (model prog w) A t (fun v s₁ => wpAny (model prog w) A (call (.builtin id) (first ++ [v])) Q E s₁) E s) :
    wpAny (model prog w) A (callWith pos (.builtin id) first [(false, t)] []) Q E s := by
  refine callWith_builtin rfl (evalArgs_plain ?_)
  show wpAny _ _ (do
    let v ← t
    let here ← (pure [v] : Sem (List Value))
    return here ++ (← holding here (spliced []))) _ _ s
  refine wpAny_bind (wpAny_mono h (fun v s₁ h₁ => wpAny_bind (wpAny_pure (wpAny_bind (wpAny_holding (spliced_nil (wpAny_pure ?_)))))) fun _ _ x => x)
  simpa using h₁

/-- o.name(e), o a list -/
theorem ev_lmeth1 {o e : PySem.Expr} {name : Str} {id : String} {ds : List PyData} {d : PyData} {P : Value → Heap → Prop} {apos pos : Pos} (ho : PO prog w A hb g I M env ρ o (.list ds)) (he : PO prog w A hb g I M env ρ e d)
    (slot : PySem.Slot "list" name id) (ty : typeOf (.builtin id) = pure (.type "method_descriptor"))
    (hop : ∀ a vs u (s : Shared), St hb g I M env ρ s.heap → LstAt s.heap a vs → RepL M s.heap vs ds → RepO M s.heap u d → Ev prog w A env.locals (call (.builtin id) [.ref a, u]) s P)
    (hbase : attributeBase o name env (eval o env) = eval o env) (hline : (apos.endLine == pos.line) = true) (hst : starEach [e] env = [(false, eval e env)]) :
    EvS prog w A hb g I M env ρ (eval (.Call (.Attribute o name apos) [e] [] pos) env) P := fun s S mL n Q E k =>
  Call_method1 hbase hst hline ((ho s S).then n fun u h₁ tk₁ k₁ n₁ r₁ => by
    obtain ⟨a, vs, rfl, l, q⟩ := r₁.list
    have S₁ := S.grow' n k₁ n₁
    refine list_meth l slot ty (callWith_m1 ((he { s with heap := h₁, toks := tk₁ } S₁).then n₁ fun v h₂ tk₂ k₂ n₂ r₂ => ?_))
    have l₂ : LstAt h₂ a vs := LstAt.keep k₂ (by simpa using ns_not_list n₁ l.isList) l
    exact (hop a vs v { s with heap := h₂, toks := tk₂ } (S₁.grow' n₁ k₂ n₂) l₂ (S₁.rl k₂ q) r₂).then n₂ fun v h₃ tk₃ k₃ n₃ p => k v h₃ tk₃ ((k₁.trans k₂).trans k₃) n₃ p)
theorem ev_smeth1 {o e : PySem.Expr} {name : Str} {id : String} {x : Str} {d : PyData} {P : Value → Heap → Prop} {apos pos : Pos} (ho : PO prog w A hb g I M env ρ o (.str x)) (he : PO prog w A hb g I M env ρ e d)
    (slot : PySem.Slot "str" name id) (ty : typeOf (.builtin id) = pure (.type "method_descriptor"))
    (hop : ∀ t u (s : Shared), St hb g I M env ρ s.heap → PyData.strOk x = true → RepO M s.heap u d → Ev prog w A env.locals (call (.builtin id) [.str x t, u]) s P)
    (hbase : attributeBase o name env (eval o env) = eval o env) (hline : (apos.endLine == pos.line) = true) (hst : starEach [e] env = [(false, eval e env)]) :
    EvS prog w A hb g I M env ρ (eval (.Call (.Attribute o name apos) [e] [] pos) env) P := fun s S mL n Q E k =>
  Call_method1 hbase hst hline ((ho s S).then n fun u h₁ tk₁ k₁ n₁ r₁ => by
    obtain ⟨t, rfl, hx⟩ := r₁.str
    have S₁ := S.grow' n k₁ n₁
    refine str_meth slot ty (callWith_m1 ((he { s with heap := h₁, toks := tk₁ } S₁).then n₁ fun v h₂ tk₂ k₂ n₂ r₂ => ?_))
    exact (hop t v { s with heap := h₂, toks := tk₂ } (S₁.grow' n₁ k₂ n₂) hx r₂).then n₂ fun v h₃ tk₃ k₃ n₃ p => k v h₃ tk₃ ((k₁.trans k₂).trans k₃) n₃ p)

theorem RepL.reads_mem {h : Heap} : ∀ {vs : List Value} {ds : List PyData}, RepL M h vs ds → ∀ v ∈ vs, ∃ d ∈ ds, Rep M h v d
  | _, _, .nil, v, hv => nomatch hv
  | _, _, .cons a b, v, hv => by
    rcases List.mem_cons.mp hv with rfl | hv
    · exact ⟨_, List.mem_cons_self .., a⟩
    · obtain ⟨d, hd, r⟩ := b.reads_mem v hv; exact ⟨d, List.mem_cons_of_mem _ hd, r⟩
/-- what a value stands for, picked -/
noncomputable def datOf (M : List Addr) (h : Heap) (v : Value) : PyData := open Classical in if q : ∃ d, Rep M h v d then q.choose else .none
theorem Rep.unique {h : Heap} {v : Value} {d d' : PyData} (r : Rep M h v d) (r' : Rep M h v d') : d = d' := by
  obtain ⟨as, q⟩ := r.reads
  obtain ⟨bs, q'⟩ := r'.reads
  exact Reads.unique d d' v as bs r.lay q q'
theorem datOf_eq {h : Heap} {v : Value} {d : PyData} (r : Rep M h v d) : datOf M h v = d := by
  unfold datOf
  rw [dif_pos ⟨d, r⟩]
  exact Rep.unique (Exists.choose_spec (p := fun d => Rep M h v d) ⟨d, r⟩) r
theorem RepL.map_datOf {h : Heap} : ∀ {vs : List Value} {ds : List PyData}, RepL M h vs ds → vs.map (datOf M h) = ds
  | _, _, .nil => rfl
  | _, _, .cons a b => by rw [List.map_cons, datOf_eq a, b.map_datOf]

theorem eqAt_rep {s : Shared} {u v : Value} {a b : PyData} (hu : A.units + 65 < cLine) (ha : a.depth ≤ 64) (ru : RepO M s.heap u a) (rv : RepO M s.heap v b) : EqAt A.in1 s u v (PyData.eqv a b) := by
  obtain ⟨as, qa⟩ := ru.reads
  obtain ⟨bs, qb⟩ := rv.reads
  refine eqAt_reads a b A.in1 s u v as bs qa qb ru.lay rv.lay ?_
  have := Nat.min_le_left a.depth b.depth
  simp only [Around.in1_units]; omega

theorem pe_count {o e : PySem.Expr} {ds : List PyData} {d : PyData} {apos pos : Pos} (hu : A.units + 65 < cLine) (ho : PO prog w A hb g I M env ρ o (.list ds)) (he : PO prog w A hb g I M env ρ e d) (hd : ∀ x ∈ ds, x.depth ≤ 64)
    (hbase : attributeBase o "count" env (eval o env) = eval o env) (hline : (apos.endLine == pos.line) = true) (hst : starEach [e] env = [(false, eval e env)]) :
    PE prog w A hb g I M env ρ (.Call (.Attribute o "count" apos) [e] [] pos) (.int (ds.countP fun y => PyData.eqv y d)) :=
  ev_lmeth1 ho he F.slot_list_count F.type_list_count (fun a vs u s S l q r => by
    obtain ⟨n, e⟩ := l
    refine Ev.next fun mL n' Q E k => call_meets F.slot_list_count ⟨_, e, rfl⟩ F.entry_list_count (F.args_list_count_2 _ _) (list_countAt a vs.toArray n none #[] u (fun y => PyData.eqv (datOf M s.heap y) d)) ⟨e, fun y hy => ?_, ?_⟩
    · obtain ⟨dy, hdy, ry⟩ := q.reads_mem y (by simpa using hy)
      rw [datOf_eq ry]
      exact eqAt_rep hu (hd _ hdy) ry.o r
    · have e2 : vs.toArray.toList.countP (fun y => PyData.eqv (datOf M s.heap y) d) = ds.countP fun y => PyData.eqv y d := by
        rw [← q.map_datOf, List.countP_map]; rfl
      rw [e2]
      exact k _ s.heap _ KeepM.refl n' (.int _ _)) hbase hline hst

theorem RepL.strs {h : Heap} : ∀ {vs : List Value} {ys : List Str}, RepL M h vs (ys.map .str) → StrsAre vs ys ∧ ∀ y ∈ ys, PyData.strOk y = true
  | _, [], r => by cases r; exact ⟨.nil, fun _ h => nomatch h⟩
  | _, y :: ys, r => by
    cases r with
    | cons a b =>
      obtain ⟨t, rfl, ok⟩ := a.o.str
      obtain ⟨h1, h2⟩ := b.strs
      exact ⟨.cons y t h1, fun z hz => (List.mem_cons.mp hz).elim (fun e => e ▸ ok) (h2 z)⟩
theorem pe_join {o e : PySem.Expr} {x : Str} {ys : List Str} {apos pos : Pos} (ho : PO prog w A hb g I M env ρ o (.str x)) (he : PO prog w A hb g I M env ρ e (.list (ys.map .str))) (hz : (ys.map (·.length)).sum + ys.length * x.length ≤ 16777216)
    (hok : (∀ y ∈ ys, PyData.strOk y = true) → PyData.strOk x = true → PyData.strOk (Txt.join x ys) = true)
    (hbase : attributeBase o "join" env (eval o env) = eval o env) (hline : (apos.endLine == pos.line) = true) (hst : starEach [e] env = [(false, eval e env)]) :
    PE prog w A hb g I M env ρ (.Call (.Attribute o "join" apos) [e] [] pos) (.str (Txt.join x ys)) :=
  ev_smeth1 ho he F.slot_str_join F.type_str_join (fun t u s S hx r => by
    obtain ⟨a, vs, rfl, l, q⟩ := r.list
    obtain ⟨q1, q2⟩ := q.strs
    exact Ev.next fun mL n Q E k => join_list l.isList (by simpa using q1) hz fun t' tk => k _ s.heap tk KeepM.refl n (.str _ _ (hok q2 hx))) hbase hline hst

theorem rep_strValues {h : Heap} : ∀ {l : List (Str × Tok)}, (∀ y ∈ l.map (·.1), PyData.strOk y = true) → RepL M h (strValues l) ((l.map (·.1)).map .str)
  | [], _ => .nil
  | (x, t) :: l, hl => .cons (.str x t (hl x (List.mem_cons_self ..))) (rep_strValues fun y hy => hl y (List.mem_cons_of_mem _ hy))
theorem pf_split {o e : PySem.Expr} {x y : Str} {apos pos : Pos} (ho : PO prog w A hb g I M env ρ o (.str x)) (he : PO prog w A hb g I M env ρ e (.str y)) (hy : (y.length == 0) = false) (hz : x.length + 2 ≤ sizeLine)
    (hok : PyData.strOk x = true → ∀ z ∈ Txt.split x y, PyData.strOk z = true)
    (hbase : attributeBase o "split" env (eval o env) = eval o env) (hline : (apos.endLine == pos.line) = true) (hst : starEach [e] env = [(false, eval e env)]) :
    PE prog w A hb g I M env ρ (.Call (.Attribute o "split" apos) [e] [] pos) (.list ((Txt.split x y).map .str)) :=
  ev_smeth1 ho he F.slot_str_split F.type_str_split (fun t u s S hx r => by
    obtain ⟨t', rfl, _⟩ := r.str
    refine Ev.next fun mL n Q E k => splitN1 (frE n) newsE hy (fun l h' tk hl F N => ?_) hz
    have kk := newsE_keep1 N
    refine k _ h' tk kk F.ns ?_
    rw [← hl]
    refine .list (fun hm => ?_) ⟨0, (N _ (List.mem_cons_self ..)).1⟩ (rep_strValues fun z hz => hok hx z (hl ▸ hz))
    obtain ⟨o, ho⟩ := S.ob _ hm
    rw [get_size_none] at ho; cases ho) hbase hline hst
end
end Oh

-- OhI
namespace Oh
open PySem PySem.W PyProof.Rows PySem.SeqAt PySem.Calls

/-- room for lv more calls -/
structure Rm (lv : Nat) (A : Around) : Prop where
  hh : A.handled = none
  hd : A.depth + lv ≤ 900
  hu : A.units + 20 * lv ≤ 5000
theorem Rm.units {lv : Nat} {A : Around} (r : Rm lv A) : A.units + 65 < cLine := by have := r.hu; unfold cLine; omega
theorem Rm.units' {lv : Nat} {A : Around} (r : Rm lv A) : A.units + 64 < cLine := by have := r.hu; unfold cLine; omega
theorem Rm.depth {lv : Nat} {A : Around} (r : Rm lv A) : A.depth < recursionLimit := by have := r.hd; unfold recursionLimit; omega
theorem Rm.less {lv lv' : Nat} {A : Around} (r : Rm lv A) (h : lv' ≤ lv) : Rm lv' A := ⟨r.hh, by have := r.hd; omega, by have := r.hu; omega⟩
theorem Rm.deeper {lv : Nat} {A : Around} (r : Rm (lv + 1) A) (env : Env) : Rm lv (A.deeper env) := ⟨r.hh, by have := r.hd; show A.depth + 1 + lv ≤ 900; omega, by have := r.hu; show A.units + 3 + 20 * lv ≤ 5000; omega⟩

/-- the environment of a call of fd, its dict at L -/
noncomputable abbrev envF (fd : FuncData) (f L : Addr) : Env := newEnv fd.scope L fd.globals (cellsFrom (L + 1) fd.scope.names []) (fd.qualname ++ ".<locals>.") (some f) fd.code none fd.builtins

noncomputable def fnPlain (fd : FuncData) : Bool := fd.scope.isCoroutine == false && fd.scope.isGenerator == false && fd.scope.kind == .function && fd.globals == mainGlobals && fd.builtins == builtinsNs && fd.closure.isEmpty

section
variable {prog : Program} {w : World} {A : Around} {hb : Heap} {I M : List Addr} {K : Frag}

theorem lookup_mem {α : Type} {x : Str} {v : α} : ∀ {l : List (Str × α)}, l.lookup x = some v → (x, v) ∈ l
  | [], h => by cases h
  | (y, u) :: l, h => by
    rw [List.lookup_cons] at h
    by_cases e : (x == y) = true
    · simp only [e] at h; cases h; rw [eq_of_beq e]; exact List.mem_cons_self ..
    · simp only [e] at h; exact List.mem_cons_of_mem _ (lookup_mem h)

noncomputable def cellAdrs (l : List (Str × Addr)) : List Addr := l.filterMap fun p => l.lookup p.1
theorem mem_cellAdrs {l : List (Str × Addr)} {c : Addr} : c ∈ cellAdrs l ↔ ∃ x, l.lookup x = some c := by
  unfold cellAdrs
  rw [List.mem_filterMap]
  exact ⟨fun ⟨p, _, e⟩ => ⟨p.1, e⟩, fun ⟨x, e⟩ => ⟨(x, c), lookup_mem e, e⟩⟩

theorem enter {s : Shared} {f : Addr} {o : Obj} {fd : FuncData} {body : List Stmt} {vs : List Value} {binds : List (Str × Value)} {ρ : Store} {Q : Value → Shared → Prop} {E : Value → Shared → Prop}
    (B : BaseOk K hb) (hk0 : KeepM [] hb s.heap) (hroom : A.depth < recursionLimit) (ho : K.lookup f = some o) (hd : o.data = .func fd) (hp : fnPlain fd = true) (hbody : fd.body = .stmts body) (hcd : codeIn K fd.code fd.qualname = true)
    (hbind : bindArgs fd ⟨vs, []⟩ = pure binds) (hkind : (binds.all fun y => fd.scope.names.lookup y.1 == some .local || fd.scope.names.lookup y.1 == some .cell) = true)
    (hI : ∀ a ∈ I, hb.get? a = none) (hM : ∀ a ∈ M, ∃ o, s.heap.get? a = some o)
    (hρ : ∀ x sl, ρ.lookup x = some sl → ∃ v, (∀ L, (if (envF fd f L).kindOf x = some .cell then bindC (envF fd f L).kindOf binds (fun _ => none) x else bindL (envF fd f L).kindOf binds (fun _ => none) x) = some v) ∧ SlotOk s.heap I M s.heap (some v) sl)
    (oI : ∀ x y a ds es, ρ.lookup x = some (.own a ds) → ρ.lookup y = some (.own a es) → x = y)
    (k : ∀ (L : Addr) (h₁ : Heap) (tk : Nat) (Mc : List Addr), (∀ a ∈ M, a ∈ Mc) → (∀ a ∈ Mc, a ∈ M ∨ s.heap.get? a = none) → St hb s.heap I Mc (envF fd f L) ρ h₁ →
      wpAny (model prog w) (A.deeper (envF fd f L)) (execs body (envF fd f L)) (fun fl s' => Q (match fl with | .ret v => v | _ => .none) s')
        (fun e s' => wpAny (model prog w) (A.deeper (envF fd f L)) (leaving (envF fd f L) e) (fun _ s'' => E e s'') (fun e' s'' => E e' s'') s') { s with heap := h₁, toks := tk }) :
    wpAny (model prog w) A (call (.ref f) vs) Q E s := by
  simp only [fnPlain, Bool.and_eq_true, beq_iff_eq] at hp
  obtain ⟨⟨⟨⟨⟨p1, p2⟩, p3⟩, p4⟩, p5⟩, p6⟩ := hp
  have kp : ∀ b o, hb.get? b = some o → s.heap.get? b = some o := fun b o e => hk0 b o (by simp) e
  refine wpAny_call ?_
  refine codeAny_call_function hroom (kp _ _ (B.X _ _ ho)) hd p1 p2 hbody ((codeRec_of B.X hcd).keeps kp) ?_
  rw [hbind]
  refine wpAny_pure ?_
  have p6' : fd.closure = [] := by simpa using p6
  rw [p6']
  refine wpAny_newFunctionEnv_cells p3 ?_ ?_
  · intro x hx
    have q := List.all_eq_true.mp hkind x hx
    simp only [Bool.or_eq_true, beq_iff_eq] at q
    exact q.imp id fun q => ⟨q, cellsFrom_some _ _ _ (.inl q)⟩
  rintro env rfl s' ⟨⟨⟨h₁, tk, rfl⟩, ns, keep, fresh⟩, cell, apart, above⟩
  refine ⟨B.nl.keeps fun b o e => keep b o (kp b o e), codeAny_func ?_⟩
  have hcells : ∀ x c, (cellsFrom (s.heap.objs.size + 1) fd.scope.names []).lookup x = some c → s.heap.objs.size < c := fun x c hc => above x c (lookup_mem hc)
  have hnone : ∀ c, s.heap.objs.size ≤ c → s.heap.get? c = none := fun c hc => by
    cases e : s.heap.get? c with
    | none => rfl
    | some o => exact absurd (Heap.lt_size e) (Nat.not_lt.mpr hc)
  have hlt : s.heap.get? s.heap.objs.size = none := get_size_none _
  have keepM : ∀ X, KeepM X s.heap h₁ := fun X b o _ e => keep b o e
  have hoth : ∀ a ∈ s.heap.objs.size :: (cellAdrs (cellsFrom (s.heap.objs.size + 1) fd.scope.names []) ++ M), a ∈ M ∨ s.heap.get? a = none := fun a ha => by
    rcases List.mem_cons.mp ha with rfl | ha
    · exact .inr hlt
    · rcases List.mem_append.mp ha with ha | ha
      · obtain ⟨x, hx⟩ := mem_cellAdrs.mp ha
        exact .inr (hnone a (Nat.le_of_lt (hcells x a hx)))
      · exact .inl ha
  refine k s.heap.objs.size h₁ tk (s.heap.objs.size :: (cellAdrs (cellsFrom (s.heap.objs.size + 1) fd.scope.names []) ++ M)) (fun a ha => List.mem_cons_of_mem _ (List.mem_append.mpr (.inr ha))) hoth ?_
  refine {
    kb := fun b o _ e => keep b o (kp b o e)
    kg := fun b o _ e => keep b o e
    al := fun b o e => ⟨o, keep b o e⟩
    bg := fun b o e => ⟨kp b o e, fun hm => by rw [hI b hm] at e; cases e⟩
    glo := ⟨p4, p5⟩
    kind := p3
    L1 := .inr hlt
    LM := List.mem_cons_self ..
    ob := fun a ha => ?_
    cM := fun x c hc => ⟨List.mem_cons_of_mem _ (List.mem_append.mpr (.inl (mem_cellAdrs.mpr ⟨x, hc⟩))), fun _ => .inr (hnone c (Nat.le_of_lt (hcells x c hc)))⟩
    cE := fun x hx => ?_
    cI := fun x y c hx hy => name_of_addr apart (lookup_mem hx) (lookup_mem hy)
    names := ⟨fun x => if (envF fd f s.heap.objs.size).kindOf x = some .cell then bindC (envF fd f s.heap.objs.size).kindOf binds (fun _ => none) x else bindL (envF fd f s.heap.objs.size).kindOf binds (fun _ => none) x, ⟨⟨_, ns, fun x hx => ?_⟩, fun x c hx hc => ?_⟩, fun x sl hl => ?_⟩
    oI := oI }
  · rcases List.mem_cons.mp ha with rfl | ha
    · exact ns_ob ns
    · rcases List.mem_append.mp ha with ha | ha
      · obtain ⟨x, hx⟩ := mem_cellAdrs.mp ha
        obtain ⟨o, ho, _⟩ := cell x a hx
        exact ⟨o, ho⟩
      · obtain ⟨o, ho⟩ := hM a ha; exact ⟨o, keep a o ho⟩
  · have := cellsFrom_some fd.scope.names (s.heap.objs.size + 1) [] (x := x) (.inl hx)
    exact Option.isSome_iff_exists.mp this
  · have : ¬ (envF fd f s.heap.objs.size).kindOf x = some .cell := by rw [hx]; simp
    rw [if_neg this]
  · rw [if_pos hx]; exact cell x c hc
  · obtain ⟨v, hv, q⟩ := hρ x sl hl
    show SlotOk s.heap I _ h₁ (if (envF fd f s.heap.objs.size).kindOf x = some .cell then bindC (envF fd f s.heap.objs.size).kindOf binds (fun _ => none) x else bindL (envF fd f s.heap.objs.size).kindOf binds (fun _ => none) x) sl
    rw [hv]
    cases sl with
    | frz d => obtain ⟨u, e, r⟩ := q; exact ⟨u, e, (r.other hoth).keep (keepM _)⟩
    | own a ds =>
      obtain ⟨e, h1, h2, vs, ⟨n, h3⟩, h4⟩ := q
      exact ⟨e, List.mem_cons_of_mem _ (List.mem_append.mpr (.inr h1)), h2, vs, ⟨n, keep _ _ h3⟩, (h4.other hoth).keep (keepM _)⟩
end
end Oh

-- OhJ
namespace Oh
open PySem PySem.W PyProof.Rows PySem.SeqAt PySem.Calls PySem.MeetsSeq

section
variable {prog : Program} {w : World} {A : Around} {hb g : Heap} {I M : List Addr} {env : Env} {ρ : Store} {K : Frag}

/-! ### an own list changes -/
theorem lst_update {h : Heap} {a : Addr} {vs : List Value} (l : LstAt h a vs) (f : Array Value → Array Value) : LstAt (h.update a (Obj.mapSeq f)) a (f vs.toArray).toList ∧ Heap.SameBut a h (h.update a (Obj.mapSeq f)) := by
  obtain ⟨n, e⟩ := l
  refine ⟨⟨if (f vs.toArray).size == vs.toArray.size then n else n + 1, ?_⟩, Heap.SameBut.update ..⟩
  rw [Heap.get?_update_self _ e rfl]
  rfl

theorem St.mut {h h' : Heap} {x : Str} {a : Addr} {ds : List PyData} {vs' : List Value} {ds' : List PyData} (S : St hb g I M env ρ h) (hx : ρ.lookup x = some (.own a ds)) (hs : KeepM [a] h h') (hn : ∀ mL, h.Ns env.locals mL → h'.Ns env.locals mL)
    (l : LstAt h' a vs') (r : RepL M h' vs' ds') : St hb g I M env ((x, .own a ds') :: ρ) h' := by
  obtain ⟨m, nm, sok⟩ := S.names
  obtain ⟨mL, n1, n2⟩ := nm.loc
  have qx := sok x _ hx
  obtain ⟨e0, haM, haI, vs, hl, hr⟩ := qx
  have kM : KeepM M h h' := hs.sub fun y hy => by simp at hy; rw [hy]; exact haM
  refine { S with
    kb := fun b o hb' e => hs b o (by simpa using ne_of_kept haI (S.bg b o e).2 (S.bg b o e).1) (S.kb b o hb' e)
    kg := fun b o hI e => hs b o (by simpa using ne_of_kept haI hI e) (S.kg b o hI e)
    al := fun b o e => by
      by_cases q : b = a
      · obtain ⟨n, z⟩ := l; rw [q]; exact ⟨_, z⟩
      · obtain ⟨o', ho'⟩ := S.al b o e; exact ⟨o', hs b o' (by simpa using q) ho'⟩
    ob := fun c hc => ?_
    names := ⟨m, ⟨⟨mL, hn _ n1, n2⟩, fun y c hy hc => ?_⟩, fun y s hy => ?_⟩
    oI := fun y z b es fs h1 h2 => ?_ }
  · by_cases e : c = a
    · obtain ⟨n, q⟩ := l; rw [e]; exact ⟨_, q⟩
    · obtain ⟨o, ho⟩ := S.ob c hc; exact ⟨o, hs c o (by simpa using e) ho⟩
  · have hcell := nm.cell y c hy hc
    obtain ⟨o, ho, hd⟩ := id hcell
    exact ⟨o, hs c o (by simpa using list_not_cell hl.isList hcell) ho, hd⟩
  · by_cases e : y = x
    · subst e; rw [lookup_cons_self] at hy; cases hy; exact ⟨e0, haM, haI, vs', l, r⟩
    · rw [lookup_cons_ne e] at hy
      have q := sok y s hy
      cases s with
      | frz d => obtain ⟨u, e, r⟩ := q; exact ⟨u, e, r.keep kM⟩
      | own b es =>
        obtain ⟨e1, h1, h2, ws, h3, h4⟩ := q
        have hne : b ≠ a := fun q => by subst q; exact e (S.oI y x b es ds hy hx)
        exact ⟨e1, h1, h2, ws, LstAt.keep hs (by simpa using hne) h3, h4.keep kM⟩
  · by_cases e1 : y = x <;> by_cases e2 : z = x
    · rw [e1, e2]
    · subst e1; rw [lookup_cons_self] at h1; cases h1; rw [lookup_cons_ne e2] at h2; exact (e2 (S.oI z y a fs ds h2 hx)).elim
    · subst e2; rw [lookup_cons_self] at h2; cases h2; rw [lookup_cons_ne e1] at h1; exact (e1 (S.oI y z a es ds h1 hx)).elim
    · rw [lookup_cons_ne e1] at h1; rw [lookup_cons_ne e2] at h2; exact S.oI y z b es fs h1 h2
theorem ns_sameBut {h h' : Heap} {L a : Addr} {vs : List Value} (hs : KeepM [a] h h') (l : LstAt h a vs) : ∀ mL, h.Ns L mL → h'.Ns L mL := fun mL n => by
  obtain ⟨o, es, ep, ho, r⟩ := id n
  exact ⟨o, es, ep, hs _ o (by simpa using (ns_not_list n l.isList).symm) ho, r⟩

/-! ### expressions that may turn the store -/
noncomputable def EvX (prog : Program) (w : World) (A : Around) (hb g : Heap) (I M : List Addr) (env : Env) (ρ ρ' : Store) (e : PySem.Expr) (d : PyData) : Prop :=
  ∀ (s : Shared), St hb g I M env ρ s.heap → ∀ (Q : Value → Shared → Prop) (E : Value → Shared → Prop), (∀ v h' tk, St hb g I M env ρ' h' → Rep M h' v d → Q v { s with heap := h', toks := tk }) → wpAny (model prog w) A (eval e env) Q E s
theorem PE.x {e : PySem.Expr} {d : PyData} (h : PE prog w A hb g I M env ρ e d) : EvX prog w A hb g I M env ρ ρ e d := fun s S Q E k => EvS.use h S fun v h' tk _ S' r => k v h' tk S' r

/-! ### statements -/
theorem x_skip {st : Stmt} {rest : List Stmt} {s : Shared} {Q : Flow → Shared → Prop} {E : Value → Shared → Prop} (h : wpAny (model prog w) A (exec st env) (fun f s' => f = .next ∧ wpAny (model prog w) A (execs rest env) Q E s') E s) : wpAny (model prog w) A (execs (st :: rest) env) Q E s :=
  wpAny_execs_cons (wpAny_mono h (fun f s' q => by obtain ⟨rfl, q⟩ := q; exact q) fun _ _ e => e)

theorem x_assign {x : Str} {p pos : Pos} {e : PySem.Expr} {d : PyData} {ρ' : Store} {rest : List Stmt} {s : Shared} {Q : Flow → Shared → Prop} {E : Value → Shared → Prop} (S : St hb g I M env ρ s.heap) (h : EvX prog w A hb g I M env ρ ρ' e d) (hx : lcw env x = true)
    (k : ∀ h' tk, St hb g I M env ((x, .frz d) :: ρ') h' → wpAny (model prog w) A (execs rest env) Q E { s with heap := h', toks := tk })
    (hs : swapsWith e (some (.Name x p)) pos.line env = pure false := by rfl) : wpAny (model prog w) A (execs (.Assign [.Name x p] e pos :: rest) env) Q E s :=
  x_skip (wpAny_Assign_Name (h s S _ E fun v h' tk S' r => St.store (s := { s with heap := h', toks := tk }) (sl := .frz d) S' hx ⟨v, rfl, r⟩ (fun a ds e => nomatch e) fun h'' tk' S'' => ⟨rfl, k h'' tk' S''⟩) hs)

theorem St.addM {h h' : Heap} {a : Addr} (S : St hb g I M env ρ h) (ha : h.get? a = none) (k : KeepM [env.locals] h h') (hn : ∀ mL, h.Ns env.locals mL → h'.Ns env.locals mL) (ho : ∃ o, h'.get? a = some o) : St hb g I (a :: M) env ρ h' := by
  have S' := S.grow k hn
  obtain ⟨m, nm, sok⟩ := S.names
  obtain ⟨m', nm', sok'⟩ := S'.names
  have kM : KeepM (a :: M) h h' := k.sub fun x hx => by simp at hx; rw [hx]; exact List.mem_cons_of_mem _ S.LM
  have oth : ∀ x ∈ a :: M, x ∈ M ∨ h.get? x = none := fun x hx => (List.mem_cons.mp hx).elim (fun e => .inr (e ▸ ha)) .inl
  obtain ⟨mL, n1, n2⟩ := nm.loc
  refine { S' with
    LM := List.mem_cons_of_mem _ S.LM
    ob := fun c hc => (List.mem_cons.mp hc).elim (fun e => e ▸ ho) (S'.ob c)
    cM := fun x c hc => ⟨List.mem_cons_of_mem _ (S.cM x c hc).1, (S.cM x c hc).2⟩
    names := ⟨m, ⟨⟨mL, hn _ n1, n2⟩, fun x c hx hc => ?_⟩, fun x s hs => ?_⟩ }
  · have hcell := nm.cell x c hx hc
    obtain ⟨o, ho, hd⟩ := id hcell
    exact ⟨o, k c o (by simpa using ns_not_cell n1 hcell) ho, hd⟩
  · have q := sok x s hs
    cases s with
    | frz d => obtain ⟨u, e, r⟩ := q; exact ⟨u, e, (r.other oth).keep kM⟩
    | own b ds =>
      obtain ⟨e, h1, h2, vs, h3, h4⟩ := q
      exact ⟨e, List.mem_cons_of_mem _ h1, h2, vs, LstAt.keep k (by simpa using ns_not_list n1 h3.isList) h3, (h4.other oth).keep kM⟩

theorem St.gone {h : Heap} {a : Addr} (S : St hb g I M env ρ h) (ha : h.get? a = none) : g.get? a = none := by
  cases e : g.get? a with
  | none => rfl
  | some o => obtain ⟨o', ho'⟩ := S.al a o e; rw [ha] at ho'; cases ho'
/-- x = a new list: x alone has it -/
theorem x_assignF {x : Str} {p pos : Pos} {e : PySem.Expr} {ds : List PyData} {rest : List Stmt} {s : Shared} {Q : Flow → Shared → Prop} {E : Value → Shared → Prop} (S : St hb g I M env ρ s.heap) (h : PF prog w A hb g I M env ρ e ds) (hx : lcw env x = true)
    (k : ∀ a h' tk, g.get? a = none → s.heap.get? a = none → St hb g I (a :: M) env ((x, .own a ds) :: ρ) h' → wpAny (model prog w) A (execs rest env) Q E { s with heap := h', toks := tk })
    (hs : swapsWith e (some (.Name x p)) pos.line env = pure false := by rfl) : wpAny (model prog w) A (execs (.Assign [.Name x p] e pos :: rest) env) Q E s := by
  obtain ⟨mL, n⟩ := S.ns
  have hgs : ∀ a, s.heap.get? a = none → g.get? a = none := fun a ha => S.gone ha
  refine x_skip (wpAny_Assign_Name (h s S mL n _ E fun v h' tk k1 n1 q => ?_) hs)
  obtain ⟨a, vs, rfl, ha, l, r⟩ := q
  have S' : St hb g I (a :: M) env ρ h' := S.addM ha k1 (fun mL' n' => by rw [ns_unique n n']; exact n1) (by obtain ⟨c, q⟩ := l; exact ⟨_, q⟩)
  refine St.store (s := { s with heap := h', toks := tk }) (sl := .own a ds) S' hx ⟨rfl, List.mem_cons_self .., .inr (hgs a ha), vs, l, r⟩ (fun b es e y fs hy hl => ?_) fun h'' tk' S'' => ⟨rfl, k a h'' tk' (hgs a ha) ha S''⟩
  cases e
  obtain ⟨m, _, sok⟩ := S.names
  obtain ⟨_, hm, _⟩ := sok y _ hl
  obtain ⟨o, ho⟩ := S.ob a hm
  rw [ha] at ho; cases ho
end
end Oh

-- OhK
namespace Oh
open PySem PySem.W PyProof.Rows PySem.SeqAt PySem.Calls PySem.MeetsSeq

/-- a def that changes nothing: P of its arguments and its result -/
noncomputable def FnOk (prog : Program) (w : World) (hb : Heap) (lv : Nat) (f : Addr) (P : List PyData → PyData → Prop) : Prop :=
  ∀ (A : Around) (s : Shared) (M : List Addr) (vs : List Value) (ds : List PyData) (d : PyData), P ds d → Rm lv A → KeepM [] hb s.heap → (∀ a ∈ M, ∃ o, s.heap.get? a = some o) → RepL M s.heap vs ds →
    ∀ (Q : Value → Shared → Prop) (E : Value → Shared → Prop), (∀ v h' tk, KeepM [] s.heap h' → Rep M h' v d → Q v { s with heap := h', toks := tk }) → wpAny (model prog w) A (call (.ref f) vs) Q E s
/-- a def that turns its first argument, a list, from es to es' -/
noncomputable def FnIO (prog : Program) (w : World) (hb : Heap) (lv : Nat) (f : Addr) (P : List PyData → List PyData → PyData → List PyData → Prop) : Prop :=
  ∀ (A : Around) (s : Shared) (M : List Addr) (a : Addr) (ws vs : List Value) (es ds : List PyData) (d : PyData) (es' : List PyData), P es ds d es' → Rm lv A → KeepM [] hb s.heap → hb.get? a = none → (∀ a ∈ M, ∃ o, s.heap.get? a = some o) → a ∈ M →
    LstAt s.heap a ws → RepL M s.heap ws es → RepL M s.heap vs ds →
    ∀ (Q : Value → Shared → Prop) (E : Value → Shared → Prop), (∀ v h' tk ws', KeepM [a] s.heap h' → LstAt h' a ws' → RepL M h' ws' es' → Rep M h' v d → Q v { s with heap := h', toks := tk }) → wpAny (model prog w) A (call (.ref f) (.ref a :: vs)) Q E s

section
variable {prog : Program} {w : World} {A : Around} {hb g : Heap} {I M : List Addr} {env : Env} {ρ ρ' ρ'' : Store} {K : Frag}

theorem ns_keep {h h' : Heap} {L : Addr} {mL : Str → Option Value} (n : h.Ns L mL) (k : KeepM [] h h') : h'.Ns L mL := n.keeps fun b o e => k b o (by simp) e
theorem keep_nil {X : List Addr} {h h' : Heap} (k : KeepM [] h h') : KeepM X h h' := k.sub fun _ hx => nomatch hx

theorem pe_call {f : Str} {fa : Addr} {e : PySem.Expr} {es : List PySem.Expr} {ds : List PyData} {d : PyData} {lv : Nat} {P : List PyData → PyData → Prop} {p pos : Pos} (B : BaseOk K hb) (C : FnOk prog w hb lv fa P) (R : Rm lv A) (hf : glb env.scope f = true) (hn : nsIn K mainGlobals f = some (some (.ref fa))) (hk : keepIn K (.ref fa) = true)
    (hs : PEs prog w A hb g I M env ρ (e :: es) ds) (hp : P ds d) (he : starEach (e :: es) env = (false, eval e env) :: starEach es env := by rfl) (hpl : (backTo pos (starEach es env)).any (·.1) = false := by rfl) :
    PE prog w A hb g I M env ρ (.Call (.Name f p) (e :: es) [] pos) d := fun s S mL n Q E k =>
  Call_Name rfl (St.glob B S hf hn (callWith_K B.X hk ((hs pos s S).then n fun vs h₁ tk₁ k₁ n₁ r => by
    have S₁ := S.grow' n k₁ n₁
    refine ⟨B.X.keeps fun b o e => S₁.kb b o (by simp) e, ?_⟩
    refine C A { s with heap := h₁, toks := tk₁ } M vs ds d hp R S₁.kb S₁.ob r Q E fun v h₂ tk₂ k₂ rv => ?_
    exact k v h₂ tk₂ (k₁.trans (keep_nil k₂)) (ns_keep n₁ k₂) rv) he hpl))

/-- f(x, ..): the list that x alone has is turned -/
theorem evx_call {f : Str} {fa a : Addr} {x : Str} {px : Pos} {es : List PySem.Expr} {cs ds cs' : List PyData} {d : PyData} {lv : Nat} {P : List PyData → List PyData → PyData → List PyData → Prop} {p pos : Pos} (B : BaseOk K hb) (C : FnIO prog w hb lv fa P) (R : Rm lv A) (hf : glb env.scope f = true) (hn : nsIn K mainGlobals f = some (some (.ref fa))) (hk : keepIn K (.ref fa) = true)
    (hx : lcl env.scope x = true) (hl : ρ.lookup x = some (.own a cs)) (hs : PEs prog w A hb g I M env ρ es ds) (hp : P cs ds d cs')
    (hpl : (backTo pos (starEach es env)).any (·.1) = false := by rfl) : EvX prog w A hb g I M env ρ ((x, .own a cs') :: ρ) (.Call (.Name f p) (.Name x px :: es) [] pos) d := fun s S Q E k => by
  refine Call_Name rfl (St.glob B S hf hn (callWith_K B.X hk (wpAny_items_cons ?_ rfl) rfl hpl))
  obtain ⟨v, ⟨e, haM, haI, ws, l, r⟩, h⟩ := S.load (prog := prog) (w := w) (A := A) hx hl
  cases e
  refine wpAny_Name' (lcl_debug hx) (h _ _ ?_)
  obtain ⟨mL, n⟩ := S.ns
  refine (hs pos s S).then n fun vs h₁ tk₁ k₁ n₁ r₁ => ?_
  have S₁ := S.grow' n k₁ n₁
  refine ⟨B.X.keeps fun b o e => S₁.kb b o (by simp) e, ?_⟩
  have hab : hb.get? a = none := by
    cases e : hb.get? a with
    | none => rfl
    | some o => exact (haI.elim (fun q => ((S.bg a o e).2 q).elim) fun q => by have := (S.bg a o e).1; rw [q] at this; cases this)
  have l₁ : LstAt h₁ a ws := LstAt.keep k₁ (by simpa using ns_not_list n l.isList) l
  refine C A { s with heap := h₁, toks := tk₁ } M a ws vs cs ds d cs' hp R S₁.kb hab S₁.ob haM l₁ (S.rl k₁ r) r₁ Q E fun v h₂ tk₂ ws' k₂ l₂ r₂ rv => ?_
  exact k v h₂ tk₂ (S₁.mut hl k₂ (ns_sameBut k₂ l₁) l₂ r₂) rv

/-- x.append(e) -/
theorem x_append {x : Str} {px apos cpos pos : Pos} {e : PySem.Expr} {a : Addr} {cs : List PyData} {d : PyData} {rest : List Stmt} {s : Shared} {Q : Flow → Shared → Prop} {E : Value → Shared → Prop} (S : St hb g I M env ρ s.heap)
    (hx : lcl env.scope x = true) (hl : ρ.lookup x = some (.own a cs)) (h : EvX prog w A hb g I M env ρ ρ' e d) (hl' : ρ'.lookup x = some (.own a cs)) (hz : cs.length ≤ sizeLine)
    (k : ∀ h' tk, St hb g I M env ((x, .own a (cs ++ [d])) :: ρ') h' → wpAny (model prog w) A (execs rest env) Q E { s with heap := h', toks := tk })
    (hline : (apos.endLine == cpos.line) = true := by rfl) (hst : starEach [e] env = [(false, eval e env)] := by rfl) (hi : interactive env = false := by rfl) :
    wpAny (model prog w) A (execs (.Expr (.Call (.Attribute (.Name x px) "append" apos) [e] [] cpos) pos :: rest) env) Q E s := by
  refine x_skip (wpAny_Expr ?_ hi rfl)
  obtain ⟨v, ⟨e, _, _, ws, l, _⟩, h0⟩ := S.load (prog := prog) (w := w) (A := A) hx hl
  cases e
  refine Call_method1 rfl hst hline (wpAny_Name' (lcl_debug hx) (h0 _ _ ?_))
  refine list_meth l F.slot_list_append F.type_list_append (callWith_m1 (h s S _ _ fun u h₁ tk₁ S₁ r₁ => ?_))
  obtain ⟨m, _, sok⟩ := S₁.names
  obtain ⟨_, haM, _, ws₁, l₁, q₁⟩ := sok x _ hl'
  obtain ⟨c, e₁⟩ := id l₁
  refine call_meets F.slot_list_append ⟨_, e₁, rfl⟩ F.entry_list_append (F.args_list_append_2 _ _) (PySem.list_append a ws₁.toArray c u (by simpa [q₁.length] using hz)) ⟨e₁, ?_⟩
  obtain ⟨u1, u2⟩ := lst_update l₁ (fun x => x.push u)
  have ks := keep_sameBut u2
  refine ⟨rfl, k _ _ (S₁.mut hl' ks (ns_sameBut ks l₁) u1 ?_)⟩
  have kM : KeepM M h₁ (h₁.update a (Obj.mapSeq fun x => x.push u)) := ks.sub fun y hy => by simp at hy; rw [hy]; exact haM
  simpa using (q₁.append (.one r₁)).keep kM

/-- y.pop(), the last -/
theorem evx_pop {x : Str} {px apos cpos : Pos} {a : Addr} {cs : List PyData} {d : PyData} (hx : lcl env.scope x = true) (hl : ρ.lookup x = some (.own a (cs ++ [d]))) (hz : cs.length + 1 ≤ sizeLine)
    (hline : (apos.endLine == cpos.line) = true := by rfl) : EvX prog w A hb g I M env ρ ((x, .own a cs) :: ρ) (.Call (.Attribute (.Name x px) "pop" apos) [] [] cpos) d := fun s S Q E k => by
  obtain ⟨v, ⟨e, haM, _, ws, l, q⟩, h0⟩ := S.load (prog := prog) (w := w) (A := A) hx hl
  cases e
  refine Call_method0 rfl hline (wpAny_Name' (lcl_debug hx) (h0 _ _ ?_))
  refine list_meth l F.slot_list_pop F.type_list_pop (callWith_builtin (args := []) rfl (PySem.evalArgs_none ?_))
  obtain ⟨c, e₁⟩ := id l
  have hlen := q.length
  obtain ⟨y, hy, ry⟩ := q.get (k := cs.length) (d := d) (by simp)
  have hwl : ws.length = cs.length + 1 := by simpa using hlen
  have hy' : ws.toArray[ws.toArray.size - 1]? = some y := by simpa [hwl] using hy
  refine call_meets F.slot_list_pop ⟨_, e₁, rfl⟩ F.entry_list_pop (F.args_list_pop_1 _) (list_pop_last a ws.toArray c y hy' (by simpa [hwl] using hz)) ⟨e₁, ?_⟩
  obtain ⟨u1, u2⟩ := lst_update l (fun xs => xs.eraseIdxIfInBounds (ws.toArray.size - 1))
  have ks := keep_sameBut u2
  have kM : KeepM M s.heap (s.heap.update a (Obj.mapSeq fun xs => xs.eraseIdxIfInBounds (ws.toArray.size - 1))) := ks.sub fun y hy => by simp at hy; rw [hy]; exact haM
  refine k y _ s.toks (S.mut hl ks (ns_sameBut ks l) u1 ?_) (ry.keep kM)
  have e2 : (ws.toArray.eraseIdxIfInBounds (ws.toArray.size - 1)).toList = ws.take cs.length := by
    have : ws.toArray.size - 1 < ws.toArray.size := by simp [hwl]
    rw [Array.eraseIdxIfInBounds, dif_pos this, Array.toList_eraseIdx]
    simp [hwl, List.eraseIdx_eq_take_drop_succ]
  rw [e2]
  simpa using (q.take cs.length).keep kM
end
end Oh

-- OhL
namespace Oh
open PySem PySem.W PyProof.Rows PySem.SeqAt PySem.Calls PySem.MeetsSeq

section
variable {prog : Program} {w : World} {A : Around} {hb g : Heap} {I M : List Addr} {env : Env} {ρ ρ' ρ'' : Store} {K : Frag}

/-- a list's item put, the list's object told -/
theorem setItem_at {s : Shared} {a : Addr} {vs : List Value} {k : Int} {j : Nat} {t : Tok} {v : Value} {Q : Unit → Shared → Prop} {E : Value → Shared → Prop} (l : LstAt s.heap a vs) (hlo : -(2 ^ 63) ≤ k) (hhi : k < 2 ^ 63) (hj : seqIndex? k vs.length = some j) (hjl : j < vs.length)
    (hQ : ∀ h', LstAt h' a (vs.set j v) → Heap.SameBut a s.heap h' → Q () { s with heap := h' }) : wpAny (model prog w) A (setItem (.ref a) (.int k t) v) Q E s := by
  obtain ⟨n, ho⟩ := id l
  unfold setItem
  try with_reducible refine wpAny_holding ?_
  first | refine wpAny_bind (wpAny_pure ?_) | skip
  refine wpAny_bind (wpAny_sequenceKey l.isList.typeIs (by decide) ?_)
  refine wpAny_bind (wpAny_callSpecial?_slot (name := Str.ofString "__setitem__") l.isList.typeIs slot_list_setitem
    (wpAny_call_entry slot_list_setitem l.isList.typeIs entry_list_setitem ?_ (args_list_setitem _ _ _)))
  show wpAny _ _ (Builtin.List.listSubscript? (.int k t) >>= _) _ _ s
  refine wpAny_bind (wpAny_listSubscript_int (by unfold Builtin.List.listFitsIndex; simp; omega) ?_)
  obtain ⟨u1, u2⟩ := lst_update l (fun xs => xs.setIfInBounds j v)
  have u1' : LstAt (s.heap.update a (Obj.mapSeq fun xs => xs.setIfInBounds j v)) a (vs.set j v) := by simpa using u1
  have hx' : vs.toArray[j]? = some vs[j] := by simp [hjl]
  cases k with
  | ofNat m =>
    have hm : m = j := by
      unfold seqIndex? at hj
      have : ¬ (Int.ofNat m) < 0 := Int.not_lt.mpr (Int.natCast_nonneg m)
      simp only [this, if_false] at hj
      split at hj
      · cases hj; rfl
      · cases hj
    subst hm
    show wpAny _ _ ((seqItemAt a m >>= fun r => pure (r.map (m, ·))) >>= _) _ _ s
    refine wpAny_bind (wpAny_bind (wpAny_seqItemAt ho rfl (wpAny_pure ?_)))
    rw [hx']
    show wpAny _ _ (setSeqItemAt a m v >>= _) _ _ s
    refine wpAny_bind (wpAny_setSeqItemAt ho rfl ?_)
    first
      | exact wpAny_bind (wpAny_pure (wpAny_pure ⟨.none, rfl, wpAny_pure (hQ _ u1' u2)⟩))
      | exact wpAny_pure ⟨.none, rfl, wpAny_pure (hQ _ u1' u2)⟩
  | negSucc m =>
    show wpAny _ _ ((Builtin.List.listItems (.ref a) >>= fun xs => pure ((seqIndex? (Int.negSucc m) xs.size).bind fun i => xs[i]?.map (i, ·))) >>= _) _ _ s
    refine wpAny_bind (wpAny_bind ?_)
    show wpAny _ _ (seqItems? (.ref a) >>= _) _ _ s
    refine wpAny_bind (wpAny_seqItems ho rfl (wpAny_pure (wpAny_pure ?_)))
    have hj' : seqIndex? (Int.negSucc m) vs.toArray.size = some j := by simpa using hj
    rw [hj']
    simp only [Option.bind_some, hx', Option.map_some]
    show wpAny _ _ (setSeqItemAt a j v >>= _) _ _ s
    refine wpAny_bind (wpAny_setSeqItemAt ho rfl ?_)
    first
      | exact wpAny_bind (wpAny_pure (wpAny_pure ⟨.none, rfl, wpAny_pure (hQ _ u1' u2)⟩))
      | exact wpAny_pure ⟨.none, rfl, wpAny_pure (hQ _ u1' u2)⟩

/-- x[i] = e -/
theorem x_setitem {x : Str} {px ps pos : Pos} {i e : PySem.Expr} {a : Addr} {cs : List PyData} {d : PyData} {k : Int} {j : Nat} {rest : List Stmt} {s : Shared} {Q : Flow → Shared → Prop} {E : Value → Shared → Prop} (S : St hb g I M env ρ s.heap)
    (hx : lcl env.scope x = true) (hl : ρ.lookup x = some (.own a cs)) (h : PE prog w A hb g I M env ρ e d) (hi : PO prog w A hb g I M env ρ i (.int k)) (hlo : -(2 ^ 63) ≤ k) (hhi : k < 2 ^ 63) (hj : seqIndex? k cs.length = some j) (hjl : j < cs.length)
    (kk : ∀ h' tk, St hb g I M env ((x, .own a (cs.set j d)) :: ρ) h' → wpAny (model prog w) A (execs rest env) Q E { s with heap := h', toks := tk })
    (hs : swapsWith e (some (.Subscript (.Name x px) i ps)) pos.line env = pure false := by rfl) :
    wpAny (model prog w) A (execs (.Assign [.Subscript (.Name x px) i ps] e pos :: rest) env) Q E s := by
  refine x_skip (wpAny_Assign_Subscript (EvS.use h S fun v h₁ tk₁ k₁ S₁ r₁ => ?_) hs)
  obtain ⟨u, ⟨e0, haM, _, ws, l, q⟩, h0⟩ := S₁.load (s := { s with heap := h₁, toks := tk₁ }) (prog := prog) (w := w) (A := A) hx hl
  cases e0
  refine wpAny_Name' (lcl_debug hx) (h0 _ _ ?_)
  refine EvS.use (s := { s with heap := h₁, toks := tk₁ }) hi S₁ fun iv h₂ tk₂ k₂ S₂ ri => ?_
  obtain ⟨t, rfl⟩ := ri.int
  obtain ⟨mL, n₁⟩ := S₁.ns
  have l₂ : LstAt h₂ a ws := LstAt.keep k₂ (by simpa using ns_not_list n₁ l.isList) l
  have q₂ := S₁.rl k₂ q
  refine setItem_at (s := { s with heap := h₂, toks := tk₂ }) l₂ hlo hhi (by rw [q.length]; exact hj) (by rw [q.length]; exact hjl) fun h₃ l₃ s₃ => ⟨rfl, ?_⟩
  have ks := keep_sameBut s₃
  have kM : KeepM M h₂ h₃ := ks.sub fun y hy => by simp at hy; rw [hy]; exact haM
  exact kk h₃ tk₂ (S₂.mut hl ks (ns_sameBut ks l₂) l₃ ((q₂.set (S₁.r k₂ r₁) j).keep kM))

/-- x += e, texts -/
theorem x_augS {x : Str} {px pos : Pos} {e : PySem.Expr} {u v : Str} {rest : List Stmt} {s : Shared} {Q : Flow → Shared → Prop} {E : Value → Shared → Prop} (S : St hb g I M env ρ s.heap) (hx : lcw env x = true) (hl : ρ.lookup x = some (.frz (.str u))) (h : PO prog w A hb g I M env ρ e (.str v)) (hz : u.length + v.length ≤ sizeLine)
    (k : ∀ h' tk, St hb g I M env ((x, .frz (.str (u ++ v))) :: ρ) h' → wpAny (model prog w) A (execs rest env) Q E { s with heap := h', toks := tk }) :
    wpAny (model prog w) A (execs (.AugAssign (.Name x px) .Add e pos :: rest) env) Q E s := by
  refine x_skip (wpAny_AugAssign_Name ?_)
  obtain ⟨o, ⟨u', e0, r0⟩, h0⟩ := S.load (prog := prog) (w := w) (A := A) (lcw_l hx) hl
  cases e0
  obtain ⟨t, rfl, hu⟩ := r0.o.str
  refine h0 _ _ (EvS.use h S fun y h₁ tk₁ k₁ S₁ r₁ => ?_)
  obtain ⟨t', rfl, hv⟩ := r₁.str
  refine SB.iadd (fun t'' tk₂ => ?_) hz
  exact St.store (s := { s with heap := h₁, toks := tk₂ }) (sl := .frz (.str (u ++ v))) S₁ hx ⟨_, rfl, .str _ _ (strOk_append hu hv)⟩ (fun a ds e => nomatch e) fun h₂ tk₃ S₂ => ⟨rfl, k h₂ tk₃ S₂⟩
/-- x += e, ints -/
theorem x_augI {x : Str} {px pos : Pos} {e : PySem.Expr} {u v : Int} {rest : List Stmt} {s : Shared} {Q : Flow → Shared → Prop} {E : Value → Shared → Prop} (S : St hb g I M env ρ s.heap) (hx : lcw env x = true) (hl : ρ.lookup x = some (.frz (.int u))) (h : PO prog w A hb g I M env ρ e (.int v))
    (k : ∀ h' tk, St hb g I M env ((x, .frz (.int (u + v))) :: ρ) h' → wpAny (model prog w) A (execs rest env) Q E { s with heap := h', toks := tk }) :
    wpAny (model prog w) A (execs (.AugAssign (.Name x px) .Add e pos :: rest) env) Q E s := by
  refine x_skip (wpAny_AugAssign_Name ?_)
  obtain ⟨o, ⟨u', e0, r0⟩, h0⟩ := S.load (prog := prog) (w := w) (A := A) (lcw_l hx) hl
  cases e0
  obtain ⟨t, rfl⟩ := r0.int'
  refine h0 _ _ (EvS.use h S fun y h₁ tk₁ k₁ S₁ r₁ => ?_)
  obtain ⟨t', rfl⟩ := r₁.int
  refine AutoIntOps.iadd_0 ?_
  show wpAny _ _ _ _ _ _
  exact St.store (s := { s with heap := h₁, toks := tk₁ + 1 }) (sl := .frz (.int (u + v))) S₁ hx ⟨_, rfl, .int _ _⟩ (fun a ds e => nomatch e) fun h₂ tk₃ S₂ => ⟨rfl, k h₂ tk₃ S₂⟩

/-- a call whose value, None, is dropped -/
theorem x_expr {e : PySem.Expr} {pos : Pos} {rest : List Stmt} {s : Shared} {Q : Flow → Shared → Prop} {E : Value → Shared → Prop} (S : St hb g I M env ρ s.heap) (h : EvX prog w A hb g I M env ρ ρ' e .none)
    (k : ∀ h' tk, St hb g I M env ρ' h' → wpAny (model prog w) A (execs rest env) Q E { s with heap := h', toks := tk }) (hi : interactive env = false := by rfl) (hs : swapsWith e none pos.line env = pure false := by rfl) :
    wpAny (model prog w) A (execs (.Expr e pos :: rest) env) Q E s :=
  x_skip (wpAny_Expr (h s S _ E fun v h' tk S' r => by cases r; exact ⟨rfl, k h' tk S'⟩) hi hs)

/-- if -/
theorem x_if {t : PySem.Expr} {b : Bool} {yes no : List Stmt} {pos : Pos} {rest : List Stmt} {s : Shared} {Q : Flow → Shared → Prop} {E : Value → Shared → Prop} (S : St hb g I M env ρ s.heap) (h : PT prog w A hb g I M env ρ t b)
    (k : ∀ h' tk, St hb g I M env ρ h' → wpAny (model prog w) A (execs (if b then yes else no) env) (fun f s' => match f with | .next => wpAny (model prog w) A (execs rest env) Q E s' | f => Q f s') E { s with heap := h', toks := tk }) :
    wpAny (model prog w) A (execs (.If t yes no pos :: rest) env) Q E s := by
  refine wpAny_execs_cons (wpAny_If (EvS.use h S fun r h' tk _ S' e => ?_))
  subst e
  have := k h' tk S'
  cases r <;> exact this
theorem x_nil {s : Shared} {Q : Flow → Shared → Prop} {E : Value → Shared → Prop} (h : Q .next s) : wpAny (model prog w) A (execs [] env) Q E s := wpAny_execs_nil h
theorem x_break {pos : Pos} {rest : List Stmt} {s : Shared} {Q : Flow → Shared → Prop} {E : Value → Shared → Prop} (h : Q .brk s) : wpAny (model prog w) A (execs (.Break pos :: rest) env) Q E s := wpAny_execs_cons (wpAny_Break h)
theorem x_continue {pos : Pos} {rest : List Stmt} {s : Shared} {Q : Flow → Shared → Prop} {E : Value → Shared → Prop} (h : Q .cont s) : wpAny (model prog w) A (execs (.Continue pos :: rest) env) Q E s := wpAny_execs_cons (wpAny_Continue h)
theorem x_return {e : PySem.Expr} {d : PyData} {pos : Pos} {rest : List Stmt} {s : Shared} {Q : Flow → Shared → Prop} {E : Value → Shared → Prop} (S : St hb g I M env ρ s.heap) (h : EvX prog w A hb g I M env ρ ρ' e d)
    (k : ∀ v h' tk, St hb g I M env ρ' h' → Rep M h' v d → Q (.ret v) { s with heap := h', toks := tk }) : wpAny (model prog w) A (execs (.Return (some e) pos :: rest) env) Q E s :=
  wpAny_execs_cons (wpAny_Return_some (h s S _ E fun v h' tk S' r => k v h' tk S' r))

/-- while, by a measure -/
theorem x_while {test : PySem.Expr} {body : List Stmt} {pos : Pos} {rest : List Stmt} {s : Shared} {Q : Flow → Shared → Prop} {E : Value → Shared → Prop} (J : Nat → Store → Prop) (Z : Store → Prop) (n : Nat) (S : St hb g I M env ρ s.heap) (h0 : J n ρ)
    (turn : ∀ (n : Nat) (ρ : Store), J n ρ → ∃ b, PT prog w A hb g I M env ρ test b ∧ (b = false → Z ρ) ∧
      (b = true → ∀ (h : Heap) (tk : Nat) (E' : Value → Shared → Prop) (Q' : Flow → Shared → Prop), (∀ f h' tk' ρ', St hb g I M env ρ' h' → (((f = .next ∨ f = .cont) ∧ ∃ m, m < n ∧ J m ρ') ∨ (f = .brk ∧ Z ρ')) → Q' f { s with heap := h', toks := tk' }) → St hb g I M env ρ h → wpAny (model prog w) A (execs body env) Q' E' { s with heap := h, toks := tk }))
    (k : ∀ ρ' h' tk, Z ρ' → St hb g I M env ρ' h' → wpAny (model prog w) A (execs rest env) Q E { s with heap := h', toks := tk }) :
    wpAny (model prog w) A (execs (.While test body [] pos :: rest) env) Q E s := by
  refine wpAny_execs_cons (wpAny_While ?_)
  refine codeAny_whileLoop (fun n s' => ∃ h tk ρ, s' = { s with heap := h, toks := tk } ∧ J n ρ ∧ St hb g I M env ρ h) ?_ n ⟨s.heap, s.toks, ρ, rfl, h0, S⟩
  rintro n s' ⟨h, tk, ρ, rfl, hJ, S⟩
  obtain ⟨b, ht, hz, hb⟩ := turn n ρ hJ
  refine EvS.use (s := { s with heap := h, toks := tk }) ht S fun r h₁ tk₁ _ S₁ e => ?_
  subst e
  cases r with
  | false => exact wpAny_execs_nil (k ρ h₁ tk₁ (hz rfl) S₁)
  | true =>
    refine hb rfl h₁ tk₁ _ _ (fun f h' tk' ρ' S' q => ?_) S₁
    rcases q with ⟨(rfl | rfl), m, hm, hJ'⟩ | ⟨rfl, hZ⟩
    · exact ⟨m, hm, h', tk', ρ', rfl, hJ', S'⟩
    · exact ⟨m, hm, h', tk', ρ', rfl, hJ', S'⟩
    · exact k ρ' h' tk' hZ S'
end
end Oh

-- OhM
namespace Oh
open PySem PySem.W PyProof.Rows PySem.SeqAt PySem.Calls PySem.MeetsSeq

section
variable {prog : Program} {w : World} {A : Around} {hb g : Heap} {I M : List Addr} {env : Env} {ρ ρ' ρ'' : Store} {K : Frag}

/-- from here on: what stands now, but what the frame may turn, is kept -/
theorem St.rebase {h : Heap} (S : St hb g I M env ρ h) : ∃ J, (∀ a ∈ J, a ∈ M) ∧ St hb h J M env ρ h ∧ ∀ ρ' h', St hb h J M env ρ' h' → St hb g I M env ρ' h' := by
  classical
  have mJ : ∀ a, a ∈ M.filter (fun a => decide (a ∈ I ∨ g.get? a = none)) ↔ a ∈ M ∧ (a ∈ I ∨ g.get? a = none) := fun a => by simp [List.mem_filter]
  refine ⟨M.filter fun a => decide (a ∈ I ∨ g.get? a = none), fun a ha => ((mJ a).mp ha).1, ?_, ?_⟩
  · obtain ⟨m, nm, sok⟩ := S.names
    refine { S with
      kg := KeepM.refl
      al := fun b o e => ⟨o, e⟩
      bg := fun b o e => ⟨S.kb b o (by simp) e, fun hm => ?_⟩
      L1 := .inl ((mJ _).mpr ⟨S.LM, S.L1⟩)
      cM := fun x c hc => ⟨(S.cM x c hc).1, fun hf => .inl ((mJ _).mpr ⟨(S.cM x c hc).1, (S.cM x c hc).2 hf⟩)⟩
      names := ⟨m, nm, fun x sl hl => ?_⟩ }
    · exact ne_of_kept ((mJ b).mp hm).2 (S.bg b o e).2 (S.bg b o e).1 rfl
    · have q := sok x sl hl
      cases sl with
      | frz d => exact q
      | own a ds => obtain ⟨e, h1, h2, r⟩ := q; exact ⟨e, h1, .inl ((mJ _).mpr ⟨h1, h2⟩), r⟩
  · intro ρ' h' S'
    obtain ⟨m, nm, sok⟩ := S'.names
    refine { S' with
      kg := fun b o hI e => S'.kg b o (fun hm => ne_of_kept ((mJ b).mp hm).2 hI e rfl) (S.kg b o hI e)
      al := fun b o e => by obtain ⟨o', ho'⟩ := S.al b o e; exact S'.al b o' ho'
      bg := S.bg
      L1 := S.L1
      cM := S.cM
      names := ⟨m, nm, fun x sl hl => ?_⟩ }
    have q := sok x sl hl
    cases sl with
    | frz d => exact q
    | own a ds =>
      obtain ⟨e, h1, h2, r⟩ := q
      refine ⟨e, h1, ?_, r⟩
      rcases h2 with h2 | h2
      · exact ((mJ _).mp h2).2
      · exact .inr (S.gone h2)

/-! ### a loop's target -/
/-- what a turn hands over: the datum, or a tuple with its items -/
noncomputable def ItemIs (M : List Addr) (h : Heap) (v : Value) (d : PyData) : Prop := Rep M h v d ∨ ∃ T vs ds, v = .ref T ∧ d = .tuple ds ∧ IsTup h T vs.toArray ∧ RepL M h vs ds
/-- the target takes d: the names' new slots -/
noncomputable def Takes (rp : Bool) (prog : Program) (w : World) (A : Around) (hb g : Heap) (I M : List Addr) (env : Env) (target : PySem.Expr) (d : PyData) (σ : Store) : Prop :=
  ∀ (ρ : Store) (s : Shared) (v : Value), St hb g I M env ρ s.heap → ItemIs M s.heap v d → (rp = true → Rep M s.heap v d) → ∀ (Q : Unit → Shared → Prop) (E : Value → Shared → Prop), (∀ h' tk, St hb g I M env (σ ++ ρ) h' → Q () { s with heap := h', toks := tk }) → wpAny (model prog w) A (assign target env v) Q E s
noncomputable def notTup : PyData → Bool | .tuple _ => false | _ => true
theorem takes_name {rp : Bool} {x : Str} {p : Pos} {d : PyData} (hx : lcw env x = true) (hd : (rp || notTup d) = true) : Takes rp prog w A hb g I M env (.Name x p) d [(x, .frz d)] := fun ρ s v S r rr Q E k => by
  show wpAny _ _ (do standAt p; bindName env x v) Q E s
  refine wpAny_bind (wpAny_standAt (wpAny_bindName (St.store (sl := .frz d) S hx ⟨v, rfl, ?_⟩ (fun a ds e => nomatch e) k)))
  rcases r with r | ⟨T, vs, ds, rfl, rfl, t, q⟩
  · exact r
  · cases rp with
    | true => exact rr rfl
    | false => cases hd
theorem takes_nameT {x : Str} {p : Pos} {d : PyData} (hx : lcw env x = true) : ∀ (ρ : Store) (s : Shared) (v : Value), St hb g I M env ρ s.heap → Rep M s.heap v d → ∀ (Q : Unit → Shared → Prop) (E : Value → Shared → Prop), (∀ h' tk, KeepM M s.heap h' → St hb g I M env ((x, .frz d) :: ρ) h' → Q () { s with heap := h', toks := tk }) → wpAny (model prog w) A (assign (.Name x p) env v) Q E s := fun ρ s v S r Q E k => by
  show wpAny _ _ (do standAt p; bindName env x v) Q E s
  exact wpAny_bind (wpAny_standAt (wpAny_bindName (St.storeK (sl := .frz d) S hx ⟨v, rfl, r⟩ (fun a ds e => nomatch e) k)))
theorem order_nil {s : Shared} {Q : Unit → Shared → Prop} {E : Value → Shared → Prop} (h : Q () s) : wpAny (model prog w) A (assignInOrder [] []) Q E s := wpAny_pure h
theorem order_cons {t : Value → Sem Unit} {ts : List (Value → Sem Unit)} {x : Value} {xs : List Value} {s : Shared} {Q : Unit → Shared → Prop} {E : Value → Shared → Prop} (h : wpAny (model prog w) A (t x) (fun _ s' => wpAny (model prog w) A (assignInOrder ts xs) Q E s') E s) :
    wpAny (model prog w) A (assignInOrder (t :: ts) (x :: xs)) Q E s := wpAny_bind (wpAny_holding h)
theorem ItemIs.tuple {h : Heap} {v : Value} {ds : List PyData} (r : ItemIs M h v (.tuple ds)) : ∃ T vs, v = .ref T ∧ IsTup h T vs.toArray ∧ RepL M h vs ds := by
  rcases r with r | ⟨T, vs, ds', rfl, e, t, q⟩
  · cases r with | tuple _ t q => exact ⟨_, _, rfl, t, q⟩
  · cases e; exact ⟨T, vs, rfl, t, q⟩
theorem takes_two {rp : Bool} {x y : Str} {px py p : Pos} {k : Nat} {a b : PyData} (hh : A.handled = none) (hx : lcw env x = true) (hy : lcw env y = true) : Takes rp prog w A hb g I M env (.Tuple [.Name x px, .Name y py] k p) (.tuple [a, b]) [(y, .frz b), (x, .frz a)] := fun ρ s v S r _ Q E kk => by
  obtain ⟨T, vs, rfl, t, q⟩ := r.tuple
  cases q with | cons r1 q => ?_
  cases q with | cons r2 q => ?_
  cases q
  show wpAny _ _ (do standAt p; unpack (.ref T) [(false, assign (.Name x px) env), (false, assign (.Name y py) env)]) Q E s
  refine wpAny_bind (wpAny_standAt (unpack_tuple hh t rfl rfl fun h₁ hk => ?_))
  have k1 : KeepM [] s.heap h₁ := fun b o _ e => hk b o (Nat.ne_of_lt (Heap.lt_size e)) e
  have S₁ := S.grow (keep_nil k1) fun mL n => ns_keep n k1
  refine order_cons (takes_nameT hx ρ { s with heap := h₁ } _ S₁ (r1.keep (keep_nil k1)) _ _ fun h₂ tk k₂ S₂ => ?_)
  exact order_cons (takes_nameT hy _ { s with heap := h₂, toks := tk } _ S₂ ((r2.keep (keep_nil k1)).keep k₂) _ _ fun h₃ tk k₃ S₃ => order_nil (kk h₃ tk S₃))
theorem takes_three {rp : Bool} {x y z : Str} {px py pz p : Pos} {k : Nat} {a b c : PyData} (hh : A.handled = none) (hx : lcw env x = true) (hy : lcw env y = true) (hz : lcw env z = true) : Takes rp prog w A hb g I M env (.Tuple [.Name x px, .Name y py, .Name z pz] k p) (.tuple [a, b, c]) [(z, .frz c), (y, .frz b), (x, .frz a)] := fun ρ s v S r _ Q E kk => by
  obtain ⟨T, vs, rfl, t, q⟩ := r.tuple
  cases q with | cons r1 q => ?_
  cases q with | cons r2 q => ?_
  cases q with | cons r3 q => ?_
  cases q
  show wpAny _ _ (do standAt p; unpack (.ref T) [(false, assign (.Name x px) env), (false, assign (.Name y py) env), (false, assign (.Name z pz) env)]) Q E s
  refine wpAny_bind (wpAny_standAt (unpack_tuple hh t rfl rfl fun h₁ hk => ?_))
  have k1 : KeepM [] s.heap h₁ := fun b o _ e => hk b o (Nat.ne_of_lt (Heap.lt_size e)) e
  have S₁ := S.grow (keep_nil k1) fun mL n => ns_keep n k1
  refine order_cons (takes_nameT hx ρ { s with heap := h₁ } _ S₁ (r1.keep (keep_nil k1)) _ _ fun h₂ tk k₂ S₂ => ?_)
  refine order_cons (takes_nameT hy _ { s with heap := h₂, toks := tk } _ S₂ ((r2.keep (keep_nil k1)).keep k₂) _ _ fun h₃ tk k₃ S₃ => ?_)
  exact order_cons (takes_nameT hz _ { s with heap := h₃, toks := tk } _ S₃ (((r3.keep (keep_nil k1)).keep k₂).keep k₃) _ _ fun h₄ tk k₄ S₄ => order_nil (kk h₄ tk S₄))

/-! ### for -/
/-- no list and no tuple stands at b -/
noncomputable def NotSeq (h : Heap) (b : Addr) : Prop := (∀ vs, ¬ LstAt h b vs) ∧ ∀ vs, ¬ IsTup h b vs
theorem NotSeq.lst {h : Heap} {b : Addr} {vs : List Value} (n : NotSeq h b) (l : LstAt h b vs) : False := n.1 vs l
theorem NotSeq.tup {h : Heap} {b : Addr} {vs : Array Value} (n : NotSeq h b) (l : IsTup h b vs) : False := n.2 vs l
theorem NotSeq.of {h : Heap} {b : Addr} (n : ∀ o, h.get? b = some o → o.cls ≠ .type "list" ∧ o.cls ≠ .type "tuple") : NotSeq h b := ⟨fun vs ⟨_, e⟩ => (n _ e).1 rfl, fun vs ⟨_, e, q, _⟩ => (n _ e).2 q⟩
theorem NotSeq.ns {h : Heap} {b : Addr} {mL : Str → Option Value} (n : h.Ns b mL) : NotSeq h b := ⟨fun vs l => ns_not_list n l.isList rfl, fun vs ⟨o, ho, _, _, hd⟩ => by
  obtain ⟨o', es, ep, ho', hd', _⟩ := n
  rw [ho] at ho'; cases ho'; rw [hd] at hd'; cases hd'⟩
mutual
theorem Rep.off {wr : List Addr} {h h' : Heap} (hw : ∀ b ∈ wr, NotSeq h b) (k : KeepM (wr ++ M) h h') : ∀ {v : Value} {d : PyData}, Rep M h v d → Rep M h' v d
  | _, _, .none => .none
  | _, _, .bool b => .bool b
  | _, _, .int i t => .int i t
  | _, _, .str x t hx => .str x t hx
  | _, _, .list ha hl r => .list ha (LstAt.keep k (fun hm => (List.mem_append.mp hm).elim (fun q => (hw _ q).lst hl) ha) hl) (RepL.off hw k r)
  | _, _, .tuple ha hl r => .tuple ha (IsTup.keep k (fun hm => (List.mem_append.mp hm).elim (fun q => (hw _ q).tup hl) ha) hl) (RepL.off hw k r)
theorem RepL.off {wr : List Addr} {h h' : Heap} (hw : ∀ b ∈ wr, NotSeq h b) (k : KeepM (wr ++ M) h h') : ∀ {vs : List Value} {ds : List PyData}, RepL M h vs ds → RepL M h' vs ds
  | _, _, .nil => .nil
  | _, _, .cons a b => .cons (Rep.off hw k a) (RepL.off hw k b)
end
/-- an iterator's own objects change -/
theorem St.off {wr : List Addr} {h h' : Heap} (S : St hb g I M env ρ h) (hw : ∀ b ∈ wr, NotSeq h b ∧ b ∉ M ∧ (b ∈ I ∨ g.get? b = none)) (k : KeepM wr h h') (ho : ∀ b ∈ wr, g.get? b = none ∨ ∃ o, h'.get? b = some o) : St hb g I M env ρ h' := by
  have off : ∀ a, a ∈ M → a ∉ wr := fun a ha hm => (hw a hm).2.1 ha
  have offg : ∀ b o, b ∉ I → g.get? b = some o → b ∉ wr := fun b o hI e hm => ne_of_kept (hw b hm).2.2 hI e rfl
  have kk : KeepM (wr ++ M) h h' := k.sub fun x hx => List.mem_append.mpr (.inl hx)
  obtain ⟨m, nm, sok⟩ := S.names
  obtain ⟨mL, n1, n2⟩ := nm.loc
  refine { S with
    kb := fun b o hb' e => k b o (offg b o (S.bg b o e).2 (S.bg b o e).1) (S.kb b o hb' e)
    kg := fun b o hI e => k b o (offg b o hI e) (S.kg b o hI e)
    al := fun b o e => by
      by_cases q : b ∈ wr
      · exact (ho b q).elim (fun z => by rw [z] at e; cases e) id
      · obtain ⟨o', ho'⟩ := S.al b o e; exact ⟨o', k b o' q ho'⟩
    ob := fun a ha => by obtain ⟨o, ho⟩ := S.ob a ha; exact ⟨o, k a o (off a ha) ho⟩
    names := ⟨m, ⟨⟨mL, ?_, n2⟩, fun x c hx hc => ?_⟩, fun x sl hl => ?_⟩ }
  · obtain ⟨o, es, ep, ho, r⟩ := n1; exact ⟨o, es, ep, k _ o (off _ S.LM) ho, r⟩
  · obtain ⟨o, ho, hd⟩ := nm.cell x c hx hc; exact ⟨o, k c o (off c (S.cM x c hc).1) ho, hd⟩
  · have q := sok x sl hl
    cases sl with
    | frz d => obtain ⟨u, e, r⟩ := q; exact ⟨u, e, r.off (fun b hb => (hw b hb).1) kk⟩
    | own a ds => obtain ⟨e, h1, h2, vs, h3, h4⟩ := q; exact ⟨e, h1, h2, vs, LstAt.keep k (off a h1) h3, h4.off (fun b hb => (hw b hb).1) kk⟩

/-- the iterator of e: it hands over ds, one by one -/
noncomputable def PI (sf : Bool) (prog : Program) (w : World) (A : Around) (hb g : Heap) (I M : List Addr) (env : Env) (ρ : Store) (target e : PySem.Expr) (ds : List PyData) : Prop :=
  ∀ s : Shared, St hb g I M env ρ s.heap → ∀ mL, s.heap.Ns env.locals mL → ∀ (Q : Value → Shared → Prop) (E : Value → Shared → Prop),
    (∀ (Ia : Addr) (h' : Heap) (tk : Nat) (fp wr : List Addr) (P Md : Nat → Value → Heap → Prop) (X : Nat → Heap → Prop), KeepM [env.locals] s.heap h' → h'.Ns env.locals mL → KTurns prog w A target Ia fp wr ds.length P Md X → X 0 h' →
      (∀ b ∈ fp, b ∉ M ∧ ∃ o, h'.get? b = some o) → (∀ b ∈ wr, s.heap.get? b = none) → (∀ i h, X i h → ∀ b ∈ wr, NotSeq h b) → (∀ i v h'' d M', P i v h'' → ds[i]? = some d → (∀ a ∈ M', a ∈ M ∨ h'.get? a = none) → KeepM (wr ++ M') h' h'' → ItemIs M' h'' v d ∧ (sf = true → Rep M' h'' v d)) →
      (sf = true → ∀ (s' : Shared) (Q' : Value → Shared → Prop) (E' : Value → Shared → Prop), X 0 s'.heap → Q' (.ref Ia) s' → wpAny (model prog w) A (pyIter (.ref Ia)) Q' E' s') → Q (.ref Ia) { s with heap := h', toks := tk }) →
    wpAny (model prog w) A (eval e env) (fun x s₁ => wpAny (model prog w) A (pyIter x) Q E s₁) E s

theorem x_for {sf : Bool} {target iter : PySem.Expr} {body : List Stmt} {pos : Pos} {rest : List Stmt} {ds : List PyData} {s : Shared} {Q : Flow → Shared → Prop} {E : Value → Shared → Prop} (J : Nat → Store → Prop) (σ : PyData → Store) (S : St hb g I M env ρ s.heap) (src : PI sf prog w A hb g I M env ρ target iter ds)
    (tks : ∀ (g : Heap) (I : List Addr) (d : PyData), d ∈ ds → Takes sf prog w A hb g I M env target d (σ d)) (h0 : J 0 ρ)
    (turn : ∀ (g : Heap) (I : List Addr) (i : Nat) (d : PyData) (ρ : Store), ds[i]? = some d → J i ρ → ∀ (h : Heap) (tk : Nat) (E' : Value → Shared → Prop) (Q' : Flow → Shared → Prop), (∀ f h' tk' ρ', (f = .next ∨ f = .cont) → St hb g I M env ρ' h' → J (i + 1) ρ' → Q' f { s with heap := h', toks := tk' }) → St hb g I M env (σ d ++ ρ) h →
      wpAny (model prog w) A (execs body env) Q' E' { s with heap := h, toks := tk })
    (k : ∀ ρ' h' tk, J ds.length ρ' → St hb g I M env ρ' h' → wpAny (model prog w) A (execs rest env) Q E { s with heap := h', toks := tk })
    (hs : ∀ x, foldedSetIterable iter env x = pure x := by intro _; rfl) : wpAny (model prog w) A (execs (.For target iter body [] pos :: rest) env) Q E s := by
  obtain ⟨mL, n⟩ := S.ns
  refine wpAny_execs_cons (wpAny_For (src s S mL n _ E fun Ia h₁ tk₁ fp wr P Md X k₁ n₁ W X0 hfp hwn hnq hP _ => ?_) hs)
  have S₁ := S.grow' n k₁ n₁
  have hwM : ∀ b ∈ wr, b ∉ M := fun b hb => (hfp b (W.sub b hb)).1
  have hwg : ∀ b ∈ wr, g.get? b = none := fun b hb => S.gone (hwn b hb)
  refine codeAny_forLoop_any (fun m s' => ∃ h tk ρ i, s' = { s with heap := h, toks := tk } ∧ St hb g I M env ρ h ∧ X i h ∧ J i ρ ∧ KeepM (wr ++ M) h₁ h ∧ i ≤ ds.length ∧ m = ds.length + 1 - i) ?_ (ds.length + 1)
    ⟨h₁, tk₁, ρ, 0, rfl, S₁, X0, h0, KeepM.refl, Nat.zero_le _, rfl⟩
  rintro m s' ⟨h, tk, ρ, i, rfl, S, hX, hJ, hk, hi, rfl⟩
  have hoff : ∀ b ∈ wr, NotSeq h b ∧ b ∉ M ∧ (b ∈ I ∨ g.get? b = none) := fun b hb => ⟨hnq i h hX b hb, hwM b hb, .inr (hwg b hb)⟩
  by_cases hlt : i < ds.length
  · refine W.item i { s with heap := h, toks := tk } _ _ hlt hX fun v h₂ tk₂ hMd k₂ => ?_
    refine W.go i v { s with heap := h₂, toks := tk₂ } _ _ hMd fun h₃ hPi hX₃ k₃ => ?_
    have k23 : KeepM wr h h₃ := fun b o hb' e => k₃ b o hb' (k₂ b o hb' e)
    have S₃ := S.off hoff k23 fun b hb => .inl (hwg b hb)
    have hk₃ : KeepM (wr ++ M) h₁ h₃ := hk.trans (k23.sub fun x hx => List.mem_append.mpr (.inl hx))
    obtain ⟨d, hd⟩ : ∃ d, ds[i]? = some d := ⟨_, List.getElem?_eq_getElem hlt⟩
    obtain ⟨I', hI', S', back⟩ := S₃.rebase
    refine tks h₃ I' d (List.mem_of_getElem? hd) ρ { s with heap := h₃, toks := tk₂ } v S' (hP i v h₃ d M hPi hd (fun a ha => .inl ha) hk₃).1 (hP i v h₃ d M hPi hd (fun a ha => .inl ha) hk₃).2 _ _ fun h₄ tk₄ S₄ => ?_
    refine turn h₃ I' i d ρ hd hJ h₄ tk₄ _ _ (fun f h₅ tk₅ ρ' hf S₅ hJ' => ?_) S₄
    have kJ : KeepM M h₃ h₅ := fun b o hb' e => S₅.kg b o (fun hm => hb' (hI' b hm)) e
    have fin : ∃ m, m < ds.length + 1 - i ∧ ∃ h tk ρ i, ({ s with heap := h₅, toks := tk₅ } : Shared) = { s with heap := h, toks := tk } ∧ St hb g I M env ρ h ∧ X i h ∧ J i ρ ∧ KeepM (wr ++ M) h₁ h ∧ i ≤ ds.length ∧ m = ds.length + 1 - i := by
      refine ⟨ds.length + 1 - (i + 1), by omega, h₅, tk₅, ρ', i + 1, rfl, back _ _ S₅, W.frame (i + 1) h₃ h₅ hX₃ (fun b hb o e => kJ b o (hfp b hb).1 e), hJ', hk₃.trans (kJ.sub fun x hx => List.mem_append.mpr (.inr hx)), hlt, rfl⟩
    rcases hf with rfl | rfl <;> exact fin
  · have hie : i = ds.length := by omega
    subst hie
    refine W.done { s with heap := h, toks := tk } _ _ hX fun h₂ tk₂ k₂ => ?_
    exact wpAny_execs_nil (k ρ h₂ tk₂ hJ (S.off hoff k₂ fun b hb => .inl (hwg b hb)))
end
end Oh

-- OhN
namespace Oh
open PySem PySem.W PyProof.Rows PySem.SeqAt PySem.Calls PySem.MeetsSeq

section
variable {prog : Program} {w : World} {A : Around} {hb g : Heap} {I M : List Addr} {env : Env} {ρ ρ' ρ'' : Store} {K : Frag}

theorem go_list {target : PySem.Expr} {Ia l : Addr} {i : Nat} {v : Value} {s : Shared} {Q : Unit → Shared → Prop} {E : Value → Shared → Prop} (hit : s.heap.IsListIter Ia l i) (h : Q () s) : wpAny (model prog w) A (letOwnedTupleGo target (.ref Ia) v) Q E s := by
  cases target <;> first | exact wpAny_pure h | skip
  all_goals
    unfold letOwnedTupleGo
    obtain ⟨o, ho, hc, hd⟩ := hit
    cases v <;> first | exact wpAny_pure h | skip
    show wpAny _ _ (load Ia >>= _) _ _ _
    refine wpAny_bind (wpAny_load ho ?_)
    rw [hc, hd]
    exact wpAny_pure h
/-- over a list that stays -/
theorem pi_list {sf : Bool} {target e : PySem.Expr} {ds : List PyData} (hh : A.handled = none) (he : PE prog w A hb g I M env ρ e (.list ds)) : PI sf prog w A hb g I M env ρ target e ds := fun s S mL n Q E k => by
  refine (he s S).then n fun v h₁ tk₁ k₁ n₁ r => ?_
  cases r with
  | @list a vs _ haM l q =>
    refine wpAny_pyIter_list (s := { s with heap := h₁, toks := tk₁ }) l.isList ?_
    have W := KTurns.ofWalks (target := target) (Walks.list (prog := prog) (w := w) hh h₁.objs.size a (Nat.ne_of_lt (Heap.lt_size l.choose_spec)) vs.toArray) (fun i v s Q E st hq => go_list st.1 hq)
    have S₁ := S.grow' n k₁ n₁
    have hI : (h₁.push { cls := .type "list_iterator", data := .fields #[.ref a, .int 0 0] }).IsListIter h₁.objs.size a 0 := ⟨_, Heap.get?_push_size _ rfl, rfl, rfl⟩
    have hnone : h₁.objs.size ∉ M := fun hm => by obtain ⟨o, ho⟩ := S₁.ob _ hm; rw [get_size_none] at ho; cases ho
    have hsz : vs.toArray.size = ds.length := by simp [q.length]
    rw [hsz] at W
    refine k h₁.objs.size _ tk₁ _ _ _ _ _ (k₁.trans (keep_push _)) (ns_push n₁ _) W ⟨hI, (isList_push l _).isList⟩ ?_ ?_ ?_ ?_ (fun _ s' Q' E' X hq => wpAny_pyIter_listiter X.1 hq)
    · intro b hb'
      simp only [List.mem_cons, List.not_mem_nil, or_false] at hb'
      rcases hb' with rfl | rfl
      · exact ⟨hnone, _, Heap.get?_push_size _ rfl⟩
      · obtain ⟨c, e⟩ := l; exact ⟨haM, _, Heap.get?_push_of_some _ e⟩
    · intro b hb'
      simp only [List.mem_cons, List.not_mem_nil, or_false] at hb'
      rw [hb']; exact none_of_keep n n₁ k₁ (get_size_none _)
    · intro i h X b hb'
      simp only [List.mem_cons, List.not_mem_nil, or_false] at hb'
      rw [hb']
      obtain ⟨o, ho, hc, _⟩ := X.1
      refine NotSeq.of ?_; intro o' ho'; rw [ho] at ho'; cases ho'; rw [hc]; exact ⟨by decide, by decide⟩
    · intro i v h'' d M' hP hd hM' kk
      obtain ⟨u, hu, ru⟩ := q.get hd
      have : u = v := by
        have h2 : vs.toArray[i]? = some v := hP
        rw [show vs.toArray[i]? = vs[i]? by simp] at h2
        rw [hu] at h2; cases h2; rfl
      subst this
      refine (fun z => ⟨.inl z, fun _ => z⟩) (((ru.keep (keep_push _)).other hM').off (wr := [h₁.objs.size]) (fun b hb' => ?_) kk)
      simp only [List.mem_cons, List.not_mem_nil, or_false] at hb'
      rw [hb']
      refine NotSeq.of ?_; intro o' ho'; rw [Heap.get?_push_size _ rfl] at ho'; cases ho'; exact ⟨by simp, by simp⟩

/-- a range's iterator stands at the heap's end: its ints -/
theorem pi_range_at {sf : Bool} {x : Str} {px : Pos} {e : PySem.Expr} {c a : Int} {m : Nat} (hh : A.handled = none)
    (he : ∀ s : Shared, St hb g I M env ρ s.heap → ∀ mL, s.heap.Ns env.locals mL → ∀ (Q : Value → Shared → Prop) (E : Value → Shared → Prop),
      (∀ (Ia : Addr) (h' : Heap) (tk : Nat), KeepM [env.locals] s.heap h' → h'.Ns env.locals mL → IsRangeIter h' Ia a m c → s.heap.get? Ia = none → Q (.ref Ia) { s with heap := h', toks := tk }) →
      wpAny (model prog w) A (eval e env) (fun x s₁ => wpAny (model prog w) A (pyIter x) Q E s₁) E s) :
    PI sf prog w A hb g I M env ρ (.Name x px) e ((List.range m).map fun i : Nat => PyData.int (a + (i : Int) * c)) := fun s S mL n Q E k => by
  refine he s S mL n _ E fun Ia h' tk k₁ n₁ hI hnew => ?_
  have W := KTurns.ofWalks (target := .Name x px) (Walks.range (prog := prog) (w := w) hh Ia a c m) (fun i v s Q E st hq => wpAny_pure hq)
  have hz : ((List.range m).map fun i : Nat => PyData.int (a + (i : Int) * c)).length = m := by simp
  rw [← hz] at W
  have hM : Ia ∉ M := fun hm => by obtain ⟨o, ho⟩ := S.ob _ hm; rw [hnew] at ho; cases ho
  refine k Ia h' tk _ _ _ _ _ k₁ n₁ W (show IsRangeIter h' Ia _ _ c by simpa using hI) ?_ ?_ ?_ ?_ (fun _ s' Q' E' X hq => wpAny_pyIter_rangeiter X hq)
  · intro b hb'
    simp only [List.mem_cons, List.not_mem_nil, or_false] at hb'
    rw [hb']; exact ⟨hM, _, hI⟩
  · intro b hb'
    simp only [List.mem_cons, List.not_mem_nil, or_false] at hb'
    rw [hb']; exact hnew
  · intro i h X b hb'
    simp only [List.mem_cons, List.not_mem_nil, or_false] at hb'
    rw [hb']
    refine NotSeq.of ?_; intro o' ho'; rw [X] at ho'; cases ho'; exact ⟨by simp, by simp⟩
  · intro i v h'' d M' hP hd hM' kk
    obtain ⟨t, rfl⟩ := hP
    have : d = .int (a + i * c) := by
      rw [List.getElem?_map] at hd
      cases e : (List.range m)[i]? with
      | none => rw [e] at hd; cases hd
      | some j => rw [e] at hd; have := (List.getElem?_eq_some_iff.mp e).2; simp at this; subst this; simpa using hd.symm
    rw [this]; exact ⟨.inl (.int _ _), fun _ => .int _ _⟩

theorem small_range {n : Nat} (hn : n < 2 ^ 20) : Builtin.Range.small 0 (n : Int) 1 = true ∧ Builtin.Range.rangeSize 0 (n : Int) 1 = (n : Int) := by
  have e : Builtin.Range.rangeSize 0 (n : Int) 1 = (n : Int) := by
    unfold Builtin.Range.rangeSize
    rw [if_pos (by decide)]
    split <;> omega
  refine ⟨?_, e⟩
  unfold Builtin.Range.small
  rw [e]
  have fit : ∀ i : Int, 0 ≤ i → i < 2 ^ 21 → Builtin.Range.rangeFitsLong i = true := fun i h0 h1 => by
    unfold Builtin.Range.rangeFitsLong
    rw [decide_eq_true (show -(2 ^ 63) ≤ i by omega), decide_eq_true (show i < 2 ^ 63 by omega)]; rfl
  have e1 : (n : Int) + (1 - 1) = (n : Int) := by omega
  rw [if_pos (by decide), e1, fit 0 (by omega) (by omega), fit n (by omega) (by omega), fit 1 (by omega) (by omega)]
  simp
theorem pi_range {sf : Bool} {f x : Str} {px p pos : Pos} {e : PySem.Expr} {m : Nat} (B : BaseOk K hb) (hh : A.handled = none) (hf : glb env.scope f = true) (hn : nsIn K mainGlobals f = some none) (hv : bootBuiltins f = some (.type "range")) (hnn : f ≠ "__name__")
    (he : PO prog w A hb g I M env ρ e (.int m)) (hm : m < 2 ^ 20) (hst : starEach [e] env = [(false, eval e env)] := by rfl) :
    PI sf prog w A hb g I M env ρ (.Name x px) (.Call (.Name f p) [e] [] pos) ((List.range m).map fun i : Nat => PyData.int (i : Int)) := by
  have := pi_range_at (sf := sf) (x := x) (px := px) (e := .Call (.Name f p) [e] [] pos) (c := 1) (a := 0) (m := m) (prog := prog) (w := w) (A := A) (hb := hb) (g := g) (I := I) (M := M) (env := env) (ρ := ρ) hh fun s S mL n Q E k => by
    refine Call_Name1 (St.blt B S hf hn hv hnn (PySem.callWith_type1 ((he s S).then n fun u h₁ tk₁ k₁ n₁ r₁ => ?_))) hst
    obtain ⟨t, rfl⟩ := r₁.int
    refine call_range_1 (s := { s with heap := h₁, toks := tk₁ }) ?_
    obtain ⟨e1, e2⟩ := small_range hm
    refine wpAny_pyIter_range (t := tk₁) (u := t) (v := tk₁ + 1) (Heap.get?_push_size _ rfl) e1 ?_
    rw [e2]
    have k' := (k₁.trans (keep_push (M := [env.locals]) { cls := .type "range", data := .fields #[.int 0 tk₁, .int (m : Int) t, .int 1 (tk₁ + 1)] }))
    have n' := ns_push n₁ { cls := .type "range", data := .fields #[.int 0 tk₁, .int (m : Int) t, .int 1 (tk₁ + 1)] }
    exact k _ _ _ (k'.trans (keep_push _)) (ns_push n' _) (Heap.get?_push_size _ rfl) (none_of_keep n n' k' (get_size_none _))
  simpa using this

/-- enumerate of a list that stays -/
theorem pi_enum {f : Str} {p pos pt : Pos} {e : PySem.Expr} {elts : List PySem.Expr} {kt : Nat} {ds : List PyData} (B : BaseOk K hb) (hh : A.handled = none) (hf : glb env.scope f = true) (hn : nsIn K mainGlobals f = some none) (hv : bootBuiltins f = some (.type "enumerate")) (hnn : f ≠ "__name__")
    (he : PE prog w A hb g I M env ρ e (.list ds)) (hst : starEach [e] env = [(false, eval e env)] := by rfl) :
    PI false prog w A hb g I M env ρ (.Tuple elts kt pt) (.Call (.Name f p) [e] [] pos) (ds.zipIdx.map fun q => PyData.tuple [.int (q.2 : Int), q.1]) := fun s S mL n Q E k => by
  refine Call_Name1 (St.blt B S hf hn hv hnn (PySem.callWith_type1 ((he s S).then n fun u h₁ tk₁ k₁ n₁ r₁ => ?_))) hst
  cases r₁ with
  | @list a vs _ haM l q =>
    refine call_enumerate_list (s := { s with heap := h₁, toks := tk₁ }) l.isList fun h₂ hen hit hsz hk => ?_
    have k₂ : KeepM [] h₁ h₂ := fun b o _ x => hk b o x
    refine wpAny_pyIter_enum (s := { s with heap := h₂, toks := tk₁ }) hen ?_
    have hal : a < h₁.objs.size := Heap.lt_size l.choose_spec
    have S₁ := S.grow' n k₁ n₁
    have W := KTurns.ofWalksU (elts := elts) (k := kt) (pos := pt) (WalksT.toU (WalksT.enumerate (prog := prog) (w := w) hh (h₁.objs.size + 1) h₁.objs.size a (Nat.succ_ne_self _) (Nat.ne_of_lt (Nat.lt_succ_of_lt hal)) (Nat.ne_of_lt hal) vs.toArray))
    have hlen : vs.toArray.size = (ds.zipIdx.map fun q => PyData.tuple [.int (q.2 : Int), q.1]).length := by simp [q.length]
    rw [hlen] at W
    have nM : ∀ b, h₁.objs.size ≤ b → b ∉ M := fun b hb' hm => by obtain ⟨o, ho⟩ := S₁.ob _ hm; exact absurd (Heap.lt_size ho) (Nat.not_lt.mpr hb')
    have nG : ∀ b, h₁.objs.size ≤ b → h₁.get? b = none := fun b hb' => by
      cases e : h₁.get? b with
      | none => rfl
      | some o => exact absurd (Heap.lt_size e) (Nat.not_lt.mpr hb')
    have l₂ : LstAt h₂ a vs := LstAt.keep k₂ (by simp) l
    refine k _ h₂ tk₁ _ _ _ _ _ (k₁.trans (keep_nil k₂)) (ns_keep n₁ k₂) W ⟨⟨_, by simpa using hen⟩, hit, l₂.isList⟩ ?_ ?_ ?_ ?_ (fun h => nomatch h)
    · intro b hb'
      simp only [List.mem_cons, List.not_mem_nil, or_false] at hb'
      rcases hb' with rfl | rfl | rfl
      · exact ⟨nM _ (by omega), _, hen⟩
      · obtain ⟨o, ho, _⟩ := hit; exact ⟨nM _ (by omega), o, ho⟩
      · obtain ⟨c, e⟩ := l₂; exact ⟨haM, _, e⟩
    · intro b hb'
      simp only [List.mem_cons, List.not_mem_nil, or_false] at hb'
      rcases hb' with rfl | rfl
      · exact none_of_keep n n₁ k₁ (nG _ (by omega))
      · exact none_of_keep n n₁ k₁ (nG _ (by omega))
    · intro i h X b hb'
      obtain ⟨⟨old, X1⟩, X2, _⟩ := X
      simp only [List.mem_cons, List.not_mem_nil, or_false] at hb'
      rcases hb' with rfl | rfl
      · refine NotSeq.of ?_; intro o' ho'; rw [X1] at ho'; cases ho'; exact ⟨by simp, by simp⟩
      · obtain ⟨o, ho, hc, _⟩ := X2
        refine NotSeq.of ?_; intro o' ho'; rw [ho] at ho'; cases ho'; rw [hc]; exact ⟨by decide, by decide⟩
    · intro i v h'' d M' hP hd hM' kk
      obtain ⟨T, vals, rfl, ⟨t, x, hx, rfl⟩, hT⟩ := hP
      rw [List.getElem?_map] at hd
      cases e : ds.zipIdx[i]? with
      | none => rw [e] at hd; cases hd
      | some z =>
        obtain ⟨d0, j⟩ := z
        have e' := e
        rw [List.getElem?_zipIdx] at e'
        cases e2 : ds[i]? with
        | none => rw [e2] at e'; cases e'
        | some d1 =>
          rw [e2] at e'
          simp only [Option.map_some, Option.some.injEq, Prod.mk.injEq] at e'
          obtain ⟨rfl, rfl⟩ := e'
          rw [e] at hd
          simp only [Option.map_some, Option.some.injEq] at hd
          subst hd
          obtain ⟨u, hu, ru⟩ := q.get e2
          have hux : x = u := by
            rw [show vs.toArray[i]? = vs[i]? by simp] at hx
            rw [hu] at hx; cases hx; rfl
          subst hux
          refine (fun z => ⟨.inr ⟨T, [.int i t, x], _, rfl, rfl, hT, z⟩, fun q => nomatch q⟩) (.cons (by simpa using Rep.int (i : Int) t) (.one (((ru.keep (keep_nil k₂)).other hM').off (wr := [h₁.objs.size + 1, h₁.objs.size]) (fun b hb' => ?_) kk)))
          simp only [List.mem_cons, List.not_mem_nil, or_false] at hb'
          rcases hb' with rfl | rfl
          · refine NotSeq.of ?_; intro o' ho'; rw [hen] at ho'; cases ho'; exact ⟨by simp, by simp⟩
          · obtain ⟨o, ho, hc, _⟩ := hit
            refine NotSeq.of ?_; intro o' ho'; rw [ho] at ho'; cases ho'; rw [hc]; exact ⟨by decide, by decide⟩
end
end Oh

-- OhO
namespace Oh
open PySem PySem.W PyProof.Rows PySem.SeqAt PySem.Calls PySem.MeetsSeq
open PySem.AutoSeq1 (wpAny_loadPart')

section
variable {prog : Program} {w : World} {A : Around} {E : Value → Shared → Prop} {s : Shared}

theorem sub_ri_reversed : isSubtype (.type "range_iterator") (.type "reversed") = pure false := by rw [isSubtype_type]; kernel_rfl

theorem range_rev_small {m : Nat} (hm : m < 2 ^ 20) : (Builtin.Range.rangeFitsLong 0 && Builtin.Range.rangeFitsLong (m : Int) && Builtin.Range.rangeFitsLong 1 && Builtin.Range.rangeFitsLong (-1) && Builtin.Range.rangeFitsLong (0 - 1) && Builtin.Range.rangeFitsLong (m : Int)) = true := by
  have fit : ∀ i : Int, -5 ≤ i → i < 2 ^ 21 → Builtin.Range.rangeFitsLong i = true := fun i h0 h1 => by
    unfold Builtin.Range.rangeFitsLong
    rw [decide_eq_true (show -(2 ^ 63) ≤ i by omega), decide_eq_true (show i < 2 ^ 63 by omega)]; rfl
  rw [fit 0 (by omega) (by omega), fit m (by omega) (by omega), fit 1 (by omega) (by omega), fit (-1) (by omega) (by omega), fit (0 - 1) (by omega) (by omega)]; rfl

theorem rangeFields_at {r : Addr} {a b c : Int} {t u v : Tok} {Q : Int × Int × Int → Shared → Prop} (hr : IsRange s.heap r a b c t u v) (h : Q (a, b, c) s) : wpAny (model prog w) A (Builtin.Range.rangeFields (.ref r)) Q E s := by
  unfold Builtin.Range.rangeFields
  refine wpAny_bind (wpAny_field hr rfl (x := .int a t) rfl (wpAny_bind (wpAny_pure ?_)))
  refine wpAny_bind (wpAny_field hr rfl (x := .int b u) rfl (wpAny_bind (wpAny_pure ?_)))
  refine wpAny_bind (wpAny_field hr rfl (x := .int c v) rfl (wpAny_bind (wpAny_pure ?_)))
  exact wpAny_pure h
theorem call_range_reversed {r : Addr} {m : Nat} {t u v : Tok} {Q : Value → Shared → Prop} (hm : m < 2 ^ 20) (hr : IsRange s.heap r 0 (m : Int) 1 t u v)
    (h : Q (.ref s.heap.objs.size) { s with heap := s.heap.push { cls := .type "range_iterator", data := .fields #[rawInt (0 + ((m : Int) - 1) * 1), rawInt (m : Int), rawInt (-1)] } }) : wpAny (model prog w) A (call (.builtin "range.__reversed__") [.ref r]) Q E s := by
  refine wpAny_call_entry F.slot_range_reversed ⟨_, hr, rfl⟩ F.entry_range_reversed ?_ (F.args_range_reversed_1 _)
  unfold Builtin.«range.__reversed__»
  refine wpAny_bind (wpAny_of_eq (a := Value.ref r) rfl ?_)
  refine wpAny_bind (m := Builtin.Range.rangeFields (.ref r)) ?_
  refine rangeFields_at hr ?_
  dsimp only
  rw [(small_range hm).2, range_rev_small hm]
  simp only [Bool.not_true, Bool.false_eq_true, if_false, if_true]
  exact wpAny_bind (wpAny_newObj_type (wpAny_pure ⟨_, rfl, h⟩))

theorem code_reversed_range {r : Addr} {m : Nat} {t u v : Tok} {Q₁ : Value → Shared → Prop} (hm : m < 2 ^ 20) (hr : IsRange s.heap r 0 (m : Int) 1 t u v)
    (h : Q₁ (.ref s.heap.objs.size) { s with heap := s.heap.push { cls := .type "range_iterator", data := .fields #[rawInt (0 + ((m : Int) - 1) * 1), rawInt (m : Int), rawInt (-1)] } }) :
    codeAny (model prog w) A (.call (.builtin "reversed.__new__") ⟨[.type "reversed", .ref r], []⟩) (wants Q₁ E) s := by
  refine codeAny_of_tree ?_
  show wpAny _ A.in1 (do checkBuiltinCall "reversed.__new__" ⟨[.type "reversed", .ref r], []⟩; again (.builtin "reversed.__new__" ⟨[.type "reversed", .ref r], []⟩)) _ _ s
  refine wpAny_bind (wpAny_of_eq (F.newCall_reversed_1 _) (wpAny_pure ⟨plainId_quiet F.plain_reversed_new _, codeAny_builtin F.entry_reversed_new ?_⟩))
  rw [Around.under_plainId F.plain_reversed_new _]
  unfold Builtin.«reversed.__new__»
  refine wpAny_bind (wpAny_of_eq (newClass_reversed _) ?_)
  try dsimp only
  refine wpAny_bind (wpAny_of_eq (a := ()) (by first | rfl | kernel_rfl) ?_)
  refine wpAny_bind (wpAny_of_eq (a := ()) (by first | rfl | kernel_rfl) ?_)
  try dsimp only
  refine wpAny_bind (wpAny_specialOf ⟨_, hr, rfl⟩ F.slot_range_reversed.lookup ?_)
  try dsimp only
  refine wpAny_bind (wpAny_of_eq (F.slot_range_reversed.bind _) ?_)
  try dsimp only
  have hne : ¬ ((Value.builtin "range.__reversed__" == Value.none) = true) := Bool.false_ne_true
  first
  | rw [if_neg hne]
  | (show wpAny _ _ (if (Value.builtin "range.__reversed__" == Value.none) = true then _ else _) _ _ _; rw [if_neg hne])
  refine wpAny_bind (wpAny_rule ?_)
  refine wpAny_bind (m := runValue (.call (.builtin "range.__reversed__") ⟨[.ref r], []⟩)) (show wpAny _ _ (call (.builtin "range.__reversed__") [.ref r]) _ _ _ from call_range_reversed hm hr ?_)
  first
  | exact wpAny_pure h
  | exact wpAny_bind (wpAny_pure (wpAny_pure h))

theorem call_reversed_range {r : Addr} {m : Nat} {t u v : Tok} {Q : Value → Shared → Prop} (hm : m < 2 ^ 20) (hr : IsRange s.heap r 0 (m : Int) 1 t u v)
    (h : Q (.ref s.heap.objs.size) { s with heap := s.heap.push { cls := .type "range_iterator", data := .fields #[rawInt (0 + ((m : Int) - 1) * 1), rawInt (m : Int), rawInt (-1)] } }) : wpAny (model prog w) A (call (.type "reversed") [.ref r]) Q E s := by
  refine callType_other (U := "range_iterator") (Q₁ := fun obj s₁ => obj = .ref s.heap.objs.size ∧ s₁ = { s with heap := s.heap.push { cls := .type "range_iterator", data := .fields #[rawInt (0 + ((m : Int) - 1) * 1), rawInt (m : Int), rawInt (-1)] } }) (by decide +kernel) F.create_reversed ⟨_, _, F.mro_reversed⟩ F.made_reversed sub_ri_reversed (F.typeCall_reversed_1 _) (code_reversed_range hm hr ⟨rfl, rfl⟩) ?_
  rintro obj s₁ ⟨rfl, rfl⟩
  exact ⟨⟨_, Heap.get?_push_size _ rfl, rfl⟩, h⟩
end

section
variable {prog : Program} {w : World} {A : Around} {hb g : Heap} {I M : List Addr} {env : Env} {ρ : Store} {K : Frag}
/-- reversed(range(m)) -/
theorem pi_rev {f f' x : Str} {px p p' pos pos' : Pos} {e : PySem.Expr} {m : Nat} (B : BaseOk K hb) (hh : A.handled = none) (hf : glb env.scope f = true) (hn : nsIn K mainGlobals f = some none) (hv : bootBuiltins f = some (.type "reversed")) (hnn : f ≠ "__name__")
    (hf' : glb env.scope f' = true) (hn' : nsIn K mainGlobals f' = some none) (hv' : bootBuiltins f' = some (.type "range")) (hnn' : f' ≠ "__name__")
    (he : PO prog w A hb g I M env ρ e (.int m)) (hm : m < 2 ^ 20) (hst : starEach [e] env = [(false, eval e env)] := by rfl) :
    PI false prog w A hb g I M env ρ (.Name x px) (.Call (.Name f p) [.Call (.Name f' p') [e] [] pos'] [] pos) ((List.range m).map fun i : Nat => PyData.int ((m : Int) - 1 - (i : Int))) := by
  have := pi_range_at (sf := false) (x := x) (px := px) (e := .Call (.Name f p) [.Call (.Name f' p') [e] [] pos'] [] pos) (c := -1) (a := 0 + ((m : Int) - 1) * 1) (m := m) (prog := prog) (w := w) (A := A) (hb := hb) (g := g) (I := I) (M := M) (env := env) (ρ := ρ) hh fun s S mL n Q E k => by
    refine Call_Name1 (St.blt B S hf hn hv hnn (PySem.callWith_type1 (Call_Name1 (St.blt B S hf' hn' hv' hnn' (PySem.callWith_type1 ((he s S).then n fun u h₁ tk₁ k₁ n₁ r₁ => ?_))) hst))) rfl
    obtain ⟨t, rfl⟩ := r₁.int
    refine call_range_1 (s := { s with heap := h₁, toks := tk₁ }) ?_
    have k' := (k₁.trans (keep_push (M := [env.locals]) { cls := .type "range", data := .fields #[.int 0 tk₁, .int (m : Int) t, .int 1 (tk₁ + 1)] }))
    have n' := ns_push n₁ { cls := .type "range", data := .fields #[.int 0 tk₁, .int (m : Int) t, .int 1 (tk₁ + 1)] }
    refine call_reversed_range (t := tk₁) (u := t) (v := tk₁ + 1) hm (Heap.get?_push_size _ rfl) ?_
    refine wpAny_pyIter_rangeiter (Heap.get?_push_size _ rfl) ?_
    exact k _ _ _ (k'.trans (keep_push _)) (ns_push n' _) (Heap.get?_push_size _ rfl) (none_of_keep n n' k' (get_size_none _))
  have e : (fun i : Nat => PyData.int (0 + ((m : Int) - 1) * 1 + (i : Int) * -1)) = fun i : Nat => PyData.int ((m : Int) - 1 - (i : Int)) := by funext i; congr 1; omega
  rw [e] at this
  exact this
end
end Oh

-- OhP
namespace Oh
open PySem PySem.W PyProof.Rows PySem.SeqAt PySem.Calls PySem.MeetsSeq

section
variable {prog : Program} {w : World} {A : Around} {hb g : Heap} {I M : List Addr} {env : Env} {ρ ρ' ρ'' : Store} {K : Frag}

/-- x, y[i] = e1, e2 -/
theorem x_swap {x y : Str} {px py ps pt pos pv : Pos} {kt kv : Nat} {i e1 e2 : PySem.Expr} {a : Addr} {cs : List PyData} {d1 d2 : PyData} {ki : Int} {j : Nat} {rest : List Stmt} {s : Shared} {Q : Flow → Shared → Prop} {E : Value → Shared → Prop} (S : St hb g I M env ρ s.heap) (hh : A.handled = none)
    (hx : lcw env x = true) (hy : lcl env.scope y = true) (hl : Ow ((x, .frz d1) :: ρ) y a cs) (h : PE prog w A hb g I M env ρ (.Tuple [e1, e2] kv pv) (.tuple [d1, d2])) (hi : PO prog w A hb g I M env ((x, .frz d1) :: ρ) i (.int ki)) (hlo : -(2 ^ 63) ≤ ki) (hhi : ki < 2 ^ 63) (hj : seqIndex? ki cs.length = some j) (hjl : j < cs.length)
    (kk : ∀ h' tk, St hb g I M env ((y, .own a (cs.set j d2)) :: (x, .frz d1) :: ρ) h' → wpAny (model prog w) A (execs rest env) Q E { s with heap := h', toks := tk })
    (hs : swapsWith (.Tuple [e1, e2] kv pv) (some (.Tuple [.Name x px, .Subscript (.Name y py) i ps] kt pt)) pos.line env = pure false := by rfl)
    (hsw : swappedStores [.Tuple [.Name x px, .Subscript (.Name y py) i ps] kt pt] (.Tuple [e1, e2] kv pv) env = pure none := by rfl) :
    wpAny (model prog w) A (execs (.Assign [.Tuple [.Name x px, .Subscript (.Name y py) i ps] kt pt] (.Tuple [e1, e2] kv pv) pos :: rest) env) Q E s := by
  refine x_skip (Assign_Tuple (EvS.use h S fun v h₁ tk₁ k₁ S₁ r₁ => ?_) hs hsw)
  cases r₁ with
  | @tuple T vs _ hT t q =>
    cases q with | cons r1 q => ?_
    cases q with | cons r2 q => ?_
    cases q
    show wpAny _ _ (do standAt pt; unpack (.ref T) [(false, assign (.Name x px) env), (false, assign (.Subscript (.Name y py) i ps) env)]) _ _ _
    refine wpAny_bind (wpAny_standAt (unpack_tuple hh t rfl rfl fun h₂ hk => ?_))
    have k2 : KeepM [] h₁ h₂ := fun b o _ e => hk b o (Nat.ne_of_lt (Heap.lt_size e)) e
    have S₂ := S₁.grow (keep_nil k2) fun mL n => ns_keep n k2
    refine order_cons (takes_nameT hx ρ { s with heap := h₂, toks := tk₁ } _ S₂ (r1.keep (keep_nil k2)) _ _ fun h₃ tk₃ k₃ S₃ => ?_)
    have rd2 := (r2.keep (keep_nil k2)).keep k₃
    refine order_cons ?_
    show wpAny _ _ (assign (.Subscript (.Name y py) i ps) env _) _ _ _
    rw [assign_Subscript]
    obtain ⟨u, ⟨e0, haM, _, ws, l, q⟩, h0⟩ := S₃.load (s := { s with heap := h₃, toks := tk₃ }) (prog := prog) (w := w) (A := A) hy hl
    cases e0
    refine wpAny_bind (wpAny_holding (wpAny_Name' (lcl_debug hy) (h0 _ _ ?_)))
    refine wpAny_bind (wpAny_holding (EvS.use (s := { s with heap := h₃, toks := tk₃ }) hi S₃ fun iv h₄ tk₄ k₄ S₄ ri => ?_))
    obtain ⟨t', rfl⟩ := ri.int
    obtain ⟨mL, n₃⟩ := S₃.ns
    have l₄ : LstAt h₄ a ws := LstAt.keep k₄ (by simpa using ns_not_list n₃ l.isList) l
    have q₄ := S₃.rl k₄ q
    refine wpAny_bind (wpAny_standAt (wpAny_bind (wpAny_holding (setItem_at (s := { s with heap := h₄, toks := tk₄ }) l₄ hlo hhi (by rw [q.length]; exact hj) (by rw [q.length]; exact hjl) fun h₅ l₅ s₅ => ?_))))
    have ks := keep_sameBut s₅
    have kM : KeepM M h₄ h₅ := ks.sub fun y hy => by simp at hy; rw [hy]; exact haM
    have fin := kk h₅ tk₄ (S₄.mut hl ks (ns_sameBut ks l₄) l₅ ((q₄.set (S₃.r k₄ rd2) j).keep kM))
    intro Γ p hΓ
    rw [Sem.wp_release]
    show wpAny (model prog w) A (assignInOrder [] []) _ _ _
    exact order_nil ⟨rfl, fin⟩
end
end Oh

-- OhQ
namespace Oh
open PySem PySem.W PyProof.Rows PySem.SeqAt PySem.Calls PySem.MeetsSeq PyProof.Rows.LCg

section
variable {prog : Program} {w : World} {A : Around} {hb g : Heap} {I M : List Addr} {env : Env} {ρ ρ' ρ'' : Store} {K : Frag}

theorem St.rebaseTo {h : Heap} {I' : List Addr} (S : St hb g I M env ρ h) (hI : ∀ a ∈ I', hb.get? a = none) (hL : env.locals ∈ I') (hf : env.func.isSome = true → ∀ x c, env.cells.lookup x = some c → c ∈ I') (ho : ∀ x a ds, ρ.lookup x = some (.own a ds) → a ∈ I') : St hb h I' M env ρ h := by
  obtain ⟨m, nm, sok⟩ := S.names
  refine { S with
    kg := KeepM.refl
    al := fun b o e => ⟨o, e⟩
    bg := fun b o e => ⟨S.kb b o (by simp) e, fun hm => by rw [hI b hm] at e; cases e⟩
    L1 := .inl hL
    cM := fun x c hc => ⟨(S.cM x c hc).1, fun q => .inl (hf q x c hc)⟩
    names := ⟨m, nm, fun x sl hl => ?_⟩ }
  have q := sok x sl hl
  cases sl with
  | frz d => exact q
  | own a ds => obtain ⟨e, h1, h2, r⟩ := q; exact ⟨e, h1, .inl (ho x a ds hl), r⟩

theorem St.back {h h' : Heap} {I' : List Addr} (S : St hb g I M env ρ h) (S' : St hb h I' M env ρ' h') (hI : ∀ a ∈ I', a ∈ I ∨ g.get? a = none) : St hb g I M env ρ' h' := by
  obtain ⟨m, nm, sok⟩ := S'.names
  refine { S' with
    kg := fun b o hI' e => S'.kg b o (fun hm => ne_of_kept (hI b hm) hI' e rfl) (S.kg b o hI' e)
    al := fun b o e => by obtain ⟨o', ho'⟩ := S.al b o e; exact S'.al b o' ho'
    bg := S.bg
    L1 := S.L1
    cM := S.cM
    names := ⟨m, nm, fun x sl hl => ?_⟩ }
  have q := sok x sl hl
  cases sl with
  | frz d => exact q
  | own a ds =>
    obtain ⟨e, h1, h2, r⟩ := q
    exact ⟨e, h1, h2.elim (hI a) fun h2 => .inr (S.gone h2), r⟩

theorem St.aside {h h' : Heap} {D : Addr} {vs : List Value} (S : St hb g I M env ρ h) (hD : D ∈ I ∨ g.get? D = none) (hs : KeepM [D] h h') (hDM : D ∈ M) (hl : LstAt h D vs) (ho : ∃ o, h'.get? D = some o) (hno : ∀ x ds, ρ.lookup x ≠ some (.own D ds)) : St hb g I M env ρ h' := by
  obtain ⟨m, nm, sok⟩ := S.names
  obtain ⟨mL, n1, n2⟩ := nm.loc
  have kM : KeepM M h h' := hs.sub fun x hx => by simp at hx; rw [hx]; exact hDM
  refine S.turn hDM hD hs ho (m' := m) ⟨⟨mL, ns_sameBut hs hl mL n1, n2⟩, fun x c hx hc => ?_⟩ (fun x sl hx => ?_) S.oI
  · have hcell := nm.cell x c hx hc
    obtain ⟨o, ho, hd⟩ := id hcell
    exact ⟨o, hs c o (by simpa using list_not_cell hl.isList hcell) ho, hd⟩
  · have q := sok x sl hx
    cases sl with
    | frz d => obtain ⟨u, e, r⟩ := q; exact ⟨u, e, r.keep kM⟩
    | own a ds =>
      obtain ⟨e, h1, h2, us, h3, h4⟩ := q
      exact ⟨e, h1, h2, us, LstAt.keep hs (by simp; intro e; subst e; exact hno x ds hx) h3, h4.keep kM⟩

/-- the own list of x is let stand -/
theorem St.freeze {h : Heap} {x : Str} {a : Addr} {ds : List PyData} (S : St hb g I M env ρ h) (hx : Ow ρ x a ds) (hc : (env.cells.all fun p => env.kindOf p.1 == some .cell) = true) : St hb g I (M.filter fun b => b != a) env ((x, .frz (.list ds)) :: ρ) h := by
  obtain ⟨m, nm, sok⟩ := S.names
  obtain ⟨mL, n1, n2⟩ := nm.loc
  obtain ⟨e0, haM, haI, vs, l, r⟩ := sok x _ hx
  have sb : ∀ b ∈ M.filter (fun b => b != a), b ∈ M := fun b hb => (List.mem_filter.mp hb).1
  have inn : ∀ b, b ∈ M → b ≠ a → b ∈ M.filter (fun b => b != a) := fun b h1 h2 => List.mem_filter.mpr ⟨h1, by simpa using h2⟩
  refine { S with
    LM := inn _ S.LM (ns_not_list n1 l.isList).symm
    ob := fun b hb => S.ob b (sb b hb)
    cM := fun y c hc' => ⟨inn c (S.cM y c hc').1 ?_, (S.cM y c hc').2⟩
    names := ⟨m, nm, fun y sl hy => ?_⟩
    oI := fun y z b es fs h1 h2 => ?_ }
  · have := List.all_eq_true.mp hc _ (lookup_mem hc')
    exact list_not_cell l.isList (nm.cell y c (by simpa using this) hc')
  · by_cases e : y = x
    · subst e; rw [lookup_cons_self] at hy; cases hy
      exact ⟨_, e0, .list (fun hm => by have := (List.mem_filter.mp hm).2; simp at this) l (r.sub sb)⟩
    · rw [lookup_cons_ne e] at hy
      have q := sok y sl hy
      cases sl with
      | frz d => obtain ⟨u, e, r⟩ := q; exact ⟨u, e, r.sub sb⟩
      | own b es =>
        obtain ⟨e1, h1, h2, us, h3, h4⟩ := q
        exact ⟨e1, inn b h1 (fun q => by subst q; exact e (S.oI y x b es ds hy hx)), h2, us, h3, h4.sub sb⟩
  · by_cases e1 : y = x
    · subst e1; rw [lookup_cons_self] at h1; cases h1
    · by_cases e2 : z = x
      · subst e2; rw [lookup_cons_self] at h2; cases h2
      · rw [lookup_cons_ne e1] at h1; rw [lookup_cons_ne e2] at h2; exact S.oI y z b es fs h1 h2

/-! ### list comprehensions -/
noncomputable def clOf (scope : Scope) (env : Env) : List (Str × Addr) := (scope.names.filterMap fun p => if p.2 == .free then (env.cells.lookup p.1).map fun c => (p.1, c) else none).reverse
theorem clOf_up {scope : Scope} {env : Env} {x : Str} {c : Addr} (h : (clOf scope env).lookup x = some c) : env.cells.lookup x = some c := by
  have := lookup_mem h
  unfold clOf at this
  rw [List.mem_reverse, List.mem_filterMap] at this
  obtain ⟨p, _, e⟩ := this
  split at e
  · cases q : env.cells.lookup p.1 with
    | none => rw [q] at e; cases e
    | some d => rw [q] at e; simp only [Option.map_some, Option.some.injEq, Prod.mk.injEq] at e; obtain ⟨e1, e2⟩ := e; rw [← e1, ← e2]; exact q
  · cases e
noncomputable abbrev cenv (scope : Scope) (env : Env) (C : Addr) : Env := compEnvC scope (clOf scope env) C env
/-- what the text of a comprehension's scope must be -/
noncomputable def scOk (scope : Scope) (env : Env) : Bool := scope.kind == .function && (scope.names.all fun p => p.2 != .cell) && (scope.names.all fun p => p.2 != .local || scope.names.lookup p.1 == some .local) &&
  ((relabel scope env).names.all fun p => (relabel scope env).names.lookup p.1 != some .cell || (env.kindOf p.1 == some .cell && ((clOf scope env).lookup p.1).isSome))

/-- the rest of a turn: test and item -/
noncomputable def TurnOk (prog : Program) (w : World) (A : Around) (hb g : Heap) (I M : List Addr) (env : Env) (elt : PySem.Expr) (ρa ρn : Store) (ys yn : List PyData) : List PySem.Expr → Prop
  | [] => ∃ y ρ₂, EvX prog w A hb g I M env ρa ρ₂ elt y ∧ (∀ x sl, ρn.lookup x = some sl → ρ₂.lookup x = some sl) ∧ yn = ys ++ [y]
  | [c] => ∃ b, PT prog w A hb g I M env ρa c b ∧ (b = false → (∀ x sl, ρn.lookup x = some sl → ρa.lookup x = some sl) ∧ yn = ys) ∧
      (b = true → ∃ y ρ₂, EvX prog w A hb g I M env ρa ρ₂ elt y ∧ (∀ x sl, ρn.lookup x = some sl → ρ₂.lookup x = some sl) ∧ yn = ys ++ [y])
  | _ => False

theorem own_base {h : Heap} {x : Str} {a : Addr} {ds : List PyData} (S : St hb g I M env ρ h) (hl : ρ.lookup x = some (.own a ds)) : hb.get? a = none ∧ a ∈ M ∧ (∃ o, h.get? a = some o) ∧ a ≠ env.locals := by
  obtain ⟨m, nm, sok⟩ := S.names
  obtain ⟨mL, n1, n2⟩ := nm.loc
  obtain ⟨_, haM, haI, vs, l, _⟩ := sok x _ hl
  refine ⟨?_, haM, S.ob a haM, ns_not_list n1 l.isList⟩
  cases e : hb.get? a with
  | none => rfl
  | some o => exact (ne_of_kept haI (S.bg a o e).2 (S.bg a o e).1 rfl).elim

theorem comp_loop {elt target iter : PySem.Expr} {ifs : List PySem.Expr} {scope : Scope} {pos : Pos} {it acc : Value} {env : Env} {s : Shared} {R : Result → Shared → Prop} (Iv : Nat → Shared → Prop)
    (turn : ∀ n s, Iv n s → ∀ Er : Value → Shared → Prop, wpAny (model prog w) A (pyNext it) (fun r s₁ => match r with
      | none => R (.ok .next) s₁
      | some v => wpAny (model prog w) A (letOwnedTupleGo target it v) (fun _ s₀ => wpAny (model prog w) A (assign target env v) (fun _ s₂ =>
          match ifs with
          | [] => wpAny (model prog w) A (eval elt env) (fun x s₄ => wpAny (model prog w) A (call (.builtin "list.append") [acc, x]) (fun _ s₅ => ∃ m, m < n ∧ Iv m s₅) Er s₄) Er s₂
          | [c] => wpAny (model prog w) A (isTrue c env (eval c env)) (fun ok s₃ => if ok = true then wpAny (model prog w) A (eval elt env) (fun x s₄ =>
            wpAny (model prog w) A (call (.builtin "list.append") [acc, x]) (fun _ s₅ => ∃ m, m < n ∧ Iv m s₅) Er s₄) Er s₃ else ∃ m, m < n ∧ Iv m s₃) Er s₂
          | _ => False) Er s₀) Er s₁) Er s)
    (n : Nat) (h : Iv n s) (hi : ifs.length ≤ 1) : codeAny (model prog w) A (.compLoop (.ListComp elt [⟨target, iter, ifs, 0⟩] scope pos) 0 it acc env) R s := by
  match ifs, hi, turn with
  | [], _, turn => exact kcp_loop Iv (fun n s hI => turn n s hI _) n h
  | [c], _, turn => exact kct_loop Iv (fun n s hI => turn n s hI _) n h
end
end Oh

-- OhR
namespace Oh
open PySem PySem.W PyProof.Rows PySem.SeqAt PySem.Calls PySem.MeetsSeq PyProof.Rows.LCg

section
variable {prog : Program} {w : World} {A : Around} {hb g : Heap} {I M : List Addr} {env : Env} {ρ ρ' ρ'' : Store} {K : Frag}

theorem mem_lookup_some {α : Type} {x : Str} {v : α} : ∀ {l : List (Str × α)}, (x, v) ∈ l → ∃ u, l.lookup x = some u
  | [], h => nomatch h
  | (y, u) :: l, h => by
    rw [List.lookup_cons]
    by_cases e : (x == y) = true
    · simp [e]
    · rcases List.mem_cons.mp h with h | h
      · cases h; simp at e
      · simp only [e]; exact mem_lookup_some h

/-- the start of a comprehension's frame -/
theorem comp_start {scope : Scope} {s' : Heap} {h₁ : Heap} {C D : Addr} {X : List Addr} {m₁ : Str → Option Value} (S : St hb g I M env ρ s') (hsc : scOk scope env = true) (hX : ∀ a ∈ X, ∃ x ds, ρ.lookup x = some (.own a ds))
    (hC : s'.get? C = none) (hD : s'.get? D = none) (old : ∀ b o, s'.get? b = some o → h₁.get? b = some o) (nC : h₁.Ns C m₁) (hDo : ∃ o, h₁.get? D = some o)
    (hρ : ∀ x sl, ρ'.lookup x = some sl → ρ.lookup x = some sl) (hρc : (ρ'.all fun p => (relabel scope env).names.lookup p.1 == some .cell) = true) (hown : ∀ x a ds, ρ'.lookup x = some (.own a ds) → a ∈ X) :
    St hb h₁ (C :: X) (C :: D :: M) (cenv scope env C) ρ' h₁ := by
  obtain ⟨m, nm, sok⟩ := S.names
  simp only [scOk, Bool.and_eq_true] at hsc
  obtain ⟨⟨⟨k1, k2⟩, k3⟩, k4⟩ := hsc
  have k1 : scope.kind = .function := by simpa using k1
  have hcE : ∀ x, (relabel scope env).names.lookup x = some .cell → env.kindOf x = some .cell ∧ ∃ c, (clOf scope env).lookup x = some c := fun x hx => by
    have := List.all_eq_true.mp k4 _ (lookup_mem hx)
    rw [show ((x, NameKind.cell) : Str × NameKind).1 = x from rfl, hx] at this
    simp only [bne_self_eq_false, Bool.false_or, Bool.and_eq_true, beq_iff_eq] at this
    exact ⟨this.1, Option.isSome_iff_exists.mp this.2⟩
  have oth : ∀ a ∈ C :: D :: M, a ∈ M ∨ s'.get? a = none := fun a ha => by
    rcases List.mem_cons.mp ha with rfl | ha
    · exact .inr hC
    · rcases List.mem_cons.mp ha with rfl | ha
      · exact .inr hD
      · exact .inl ha
  have ko : ∀ Y, KeepM Y s' h₁ := fun Y b o _ e => old b o e
  refine {
    kb := fun b o hb' e => old b o (S.kb b o hb' e)
    kg := KeepM.refl
    al := fun b o e => ⟨o, e⟩
    bg := fun b o e => ⟨old b o (S.kb b o (by simp) e), fun hm => ?_⟩
    glo := S.glo
    kind := k1
    L1 := .inl (List.mem_cons_self ..)
    LM := List.mem_cons_self ..
    ob := fun a ha => ?_
    cM := fun x c hc => ⟨List.mem_cons_of_mem _ (List.mem_cons_of_mem _ (S.cM x c (clOf_up hc)).1), fun q => nomatch q⟩
    cE := fun x hx => (hcE x hx).2
    cI := fun x y c hx hy => S.cI x y c (clOf_up hx) (clOf_up hy)
    names := ⟨fun x => if (relabel scope env).names.lookup x = some .cell then m x else m₁ x, ⟨⟨m₁, nC, fun x hx => ?_⟩, fun x c hx hc => ?_⟩, fun x sl hl => ?_⟩
    oI := fun x y a ds es h1 h2 => S.oI x y a ds es (hρ _ _ h1) (hρ _ _ h2) }
  · rcases List.mem_cons.mp hm with rfl | hm
    · have := S.kb b o (by simp) e; rw [hC] at this; cases this
    · obtain ⟨x, ds, hl⟩ := hX b hm
      rw [(own_base S hl).1] at e; cases e
  · rcases List.mem_cons.mp ha with rfl | ha
    · exact ns_ob nC
    · rcases List.mem_cons.mp ha with rfl | ha
      · exact hDo
      · obtain ⟨o, ho⟩ := S.ob a ha; exact ⟨o, old a o ho⟩
  · have : (relabel scope env).names.lookup x = some .local := hx
    rw [if_neg (by rw [this]; simp)]
  · have hx' : (relabel scope env).names.lookup x = some .cell := hx
    rw [if_pos hx']
    obtain ⟨o, ho, hd⟩ := nm.cell x c (hcE x hx').1 (clOf_up hc)
    exact ⟨o, old c o ho, hd⟩
  · have hk : (relabel scope env).names.lookup x = some .cell := by simpa using List.all_eq_true.mp hρc _ (lookup_mem hl)
    show SlotOk h₁ (C :: X) (C :: D :: M) h₁ (if (relabel scope env).names.lookup x = some .cell then m x else m₁ x) sl
    rw [if_pos hk]
    have q := sok x sl (hρ x sl hl)
    cases sl with
    | frz d => obtain ⟨u, e, r⟩ := q; exact ⟨u, e, (r.other oth).keep (ko _)⟩
    | own a ds =>
      obtain ⟨e, h1, h2, vs, ⟨c, h3⟩, h4⟩ := q
      exact ⟨e, List.mem_cons_of_mem _ (List.mem_cons_of_mem _ h1), .inl (List.mem_cons_of_mem _ (hown x a ds hl)), vs, ⟨c, old _ _ h3⟩, (h4.other oth).keep (ko _)⟩

theorem comp_block {elt target iter : PySem.Expr} {ifs : List PySem.Expr} {scope : Scope} {pos : Pos} {ds : List PyData} {s : Shared} {mL : Str → Option Value} {E : Value → Shared → Prop} {RR : Value → Addr → Result → Shared → Prop}
    (σ : PyData → Store) (X : List Addr) (ρs : Nat → Store) (ysF : Nat → List PyData) (S : St hb g I M env ρ s.heap) (n : s.heap.Ns env.locals mL) (hsc : scOk scope env = true) (hX : ∀ a ∈ X, ∃ x ds, ρ.lookup x = some (.own a ds))
    (hρ : ∀ x sl, (ρs 0).lookup x = some sl → ρ.lookup x = some sl) (hρc : ((ρs 0).all fun p => (relabel scope env).names.lookup p.1 == some .cell) = true) (hown : ∀ i x a ds, (ρs i).lookup x = some (.own a ds) → a ∈ X)
    (hz : ds.length ≤ sizeLine) (hi : ifs.length ≤ 1) (hy0 : ysF 0 = [])
    (tks : ∀ (C D : Addr) (g' : Heap) (I' : List Addr) (d : PyData), d ∈ ds → Takes true prog w A hb g' I' (C :: D :: M) (cenv scope env C) target d (σ d))
    (turn : ∀ (C D : Addr) (g' : Heap) (i : Nat) (d : PyData), ds[i]? = some d → TurnOk prog w A hb g' (C :: X) (C :: D :: M) (cenv scope env C) elt (σ d ++ ρs i) (ρs (i + 1)) (ysF i) (ysF (i + 1)) ifs)
    {Ia : Addr} {h' : Heap} {tk' : Nat} {fp wr : List Addr} {P Md : Nat → Value → Heap → Prop} {Xi : Nat → Heap → Prop} (k₁ : KeepM [env.locals] s.heap h') (n₁ : h'.Ns env.locals mL) (W : KTurns prog w A target Ia fp wr ds.length P Md Xi) (X0 : Xi 0 h')
    (hfp : ∀ b ∈ fp, b ∉ M ∧ ∃ o, h'.get? b = some o) (hwn : ∀ b ∈ wr, s.heap.get? b = none) (hnq : ∀ i h, Xi i h → ∀ b ∈ wr, NotSeq h b) (hP : ∀ i v h'' d M', P i v h'' → ds[i]? = some d → (∀ a ∈ M', a ∈ M ∨ h'.get? a = none) → KeepM (wr ++ M') h' h'' → ItemIs M' h'' v d ∧ (true = true → Rep M' h'' v d))
    (hself : ∀ (s' : Shared) (Q' : Value → Shared → Prop) (E' : Value → Shared → Prop), Xi 0 s'.heap → Q' (.ref Ia) s' → wpAny (model prog w) A (pyIter (.ref Ia)) Q' E' s')
    (hRR : ∀ D C h tk zs, C ≠ D → s.heap.get? D = none → s.heap.get? C = none → KeepM (env.locals :: X) s.heap h → h.Ns env.locals mL → St hb h (C :: X) (C :: D :: M) (cenv scope env C) (ρs ds.length) h → LstAt h D zs → RepL (C :: D :: M) h zs (ysF ds.length) →
      RR (.ref D) C (.ok .next) { s with heap := h, toks := tk }) :
    wpAny (model prog w) A (newList []) (fun acc s₃ => wpAny (model prog w) A (newFunctionEnv scope env.globals (clOf scope env) [] env.qual none .none (some env)) (fun cenv s₄ =>
      codeAny (model prog w) A (.compStart (.ListComp elt [⟨target, iter, ifs, 0⟩] scope pos) 0 (.ref Ia) acc { cenv with scope := relabel scope env }) (RR acc cenv.locals) s₄) E s₃) E { s with heap := h', toks := tk' } := by
  have hsc' := hsc
  simp only [scOk, Bool.and_eq_true] at hsc'
  obtain ⟨⟨⟨q1, q2⟩, q3⟩, q4⟩ := hsc'
  have hkind : scope.kind = .function := by simpa using q1
  have hcell : ∀ y ∈ scope.names, y.2 ≠ .cell := fun y hy => by simpa using List.all_eq_true.mp q2 y hy
  refine wpAny_newObj_type (wpAny_newFunctionEnv hcell (by intro y hy; simp at hy) (fun h₁ hns₁ hsb₁ => ?_) hkind)
  dsimp only at hns₁ hsb₁ ⊢
  generalize hH2 : h'.push { cls := .type "list", dict := none, data := .seq ([] : List Value).toArray } = H2 at hns₁ hsb₁ ⊢
  have hCz : H2.objs.size = h'.objs.size + 1 := by rw [← hH2, Heap.size_push]
  have hDC : H2.objs.size ≠ h'.objs.size := by rw [hCz]; exact Nat.succ_ne_self _
  have old : ∀ b o, h'.get? b = some o → h₁.get? b = some o := fun b o e => hsb₁.extBut b o (by rw [hCz]; exact Nat.ne_of_lt (Nat.lt_succ_of_lt (Heap.lt_size e))) (Heap.get?_push_of_some _ (hH2 ▸ Heap.get?_push_of_some _ e))
  have hacc : LstAt h₁ h'.objs.size [] := ⟨0, hsb₁.extBut _ _ hDC.symm (Heap.get?_push_of_some _ (hH2 ▸ Heap.get?_push_size _ rfl))⟩
  have fresh : ∀ a, h'.objs.size ≤ a → h'.get? a = none := fun a ha => by
    cases e : h'.get? a with
    | none => rfl
    | some o' => exact absurd (Heap.lt_size e) (Nat.not_lt.mpr ha)
  have hDn := fresh h'.objs.size (Nat.le_refl _)
  have hCn := fresh H2.objs.size (by rw [hCz]; exact Nat.le_succ _)
  generalize H2.objs.size = C at *
  generalize h'.objs.size = D at *
  have hDs := none_of_keep n n₁ k₁ hDn
  have hCs := none_of_keep n n₁ k₁ hCn
  have S' := S.grow' n k₁ n₁
  have S₁ := comp_start (D := D) (ρ' := ρs 0) S' hsc hX hCn hDn old hns₁ (by obtain ⟨c, e⟩ := hacc; exact ⟨_, e⟩) hρ hρc (hown 0)
  have Lob : ∃ o, s.heap.get? env.locals = some o := ns_ob n
  have hCL : C ≠ env.locals := fun q => by obtain ⟨o, ho⟩ := Lob; rw [q] at hCs; rw [hCs] at ho; cases ho
  have hDL : D ≠ env.locals := fun q => by obtain ⟨o, ho⟩ := Lob; rw [q] at hDs; rw [hDs] at ho; cases ho
  have Xob : ∀ a ∈ X, hb.get? a = none ∧ a ∈ M ∧ (∃ o, s.heap.get? a = some o) ∧ a ≠ env.locals := fun a ha => by obtain ⟨x, ds, hl⟩ := hX a ha; exact own_base S hl
  have hCX : C ∉ X := fun hm => by obtain ⟨_, _, ⟨o, ho⟩, _⟩ := Xob C hm; rw [hCs] at ho; cases ho
  have hDX : D ∉ X := fun hm => by obtain ⟨_, _, ⟨o, ho⟩, _⟩ := Xob D hm; rw [hDs] at ho; cases ho
  have wrL : env.locals ∉ wr := fun hm => by obtain ⟨o, ho⟩ := Lob; rw [hwn _ hm] at ho; cases ho
  have wrC : ∀ b ∈ wr, b ≠ C ∧ b ≠ D ∧ b ∉ M := fun b hb' => by
    obtain ⟨h1, o, ho⟩ := hfp b (W.sub b hb')
    exact ⟨fun q => (by rw [q, hCn] at ho; cases ho), fun q => (by rw [q, hDn] at ho; cases ho), h1⟩
  have wrX : ∀ b ∈ X, b ∉ wr := fun b hb' hm => (wrC b hm).2.2 (Xob b hb').2.1
  have fpC : ∀ b ∈ fp, b ∉ C :: D :: M := fun b hb' hm => by
    obtain ⟨h1, o, ho⟩ := hfp b hb'
    rcases List.mem_cons.mp hm with rfl | hm
    · rw [hCn] at ho; cases ho
    · rcases List.mem_cons.mp hm with rfl | hm
      · rw [hDn] at ho; cases ho
      · exact h1 hm
  have hIb : ∀ a ∈ C :: X, hb.get? a = none := fun a ha => by
    rcases List.mem_cons.mp ha with rfl | ha
    · cases e : hb.get? a with
      | none => rfl
      | some o => have := S.kb a o (by simp) e; rw [hCs] at this; cases this
    · exact (Xob a ha).1
  -- the frame's state, told from the start's heap
  have base : St hb s.heap (env.locals :: X) (C :: D :: M) (cenv scope env C) (ρs 0) h₁ := by
    obtain ⟨m, nm, sok⟩ := S₁.names
    refine { S₁ with
      kg := fun b o hI e => old b o (k₁ b o (fun q => hI (by simp at q; rw [q]; exact List.mem_cons_self ..)) e)
      al := fun b o e => by
        by_cases q : b = env.locals
        · rw [q]; obtain ⟨o', ho'⟩ := ns_ob n₁; exact ⟨o', old _ _ ho'⟩
        · exact ⟨o, old b o (k₁ b o (by simpa using q) e)⟩
      bg := fun b o e => ⟨S.kb b o (by simp) e, fun hm => ?_⟩
      L1 := .inr hCs
      cM := fun x c hc => ⟨(S₁.cM x c hc).1, fun q => nomatch q⟩
      names := ⟨m, nm, fun x sl hl => ?_⟩ }
    · rcases List.mem_cons.mp hm with rfl | hm
      · exact (ne_of_kept S.L1 (S.bg _ o e).2 (S.bg _ o e).1 rfl)
      · rw [(Xob b hm).1] at e; cases e
    · have q := sok x sl hl
      cases sl with
      | frz d => exact q
      | own a ds => obtain ⟨e, h1, h2, r⟩ := q; exact ⟨e, h1, .inl (List.mem_cons_of_mem _ (hown 0 x a ds hl)), r⟩
  have loop : ∀ s₃ : Shared, s₃ = { s with heap := h₁, toks := tk' + ([] : List (Str × Value)).length } →
      codeAny (model prog w) A (.compLoop (.ListComp elt [⟨target, iter, ifs, 0⟩] scope pos) 0 (.ref Ia) (.ref D) (cenv scope env C)) (RR (.ref D) C) s₃ := by
    rintro s₃ rfl
    obtain ⟨J, hJ⟩ : ∃ J : Nat → Shared → Prop, ∀ k s', J k s' ↔ ∃ h tk i zs, s' = { s with heap := h, toks := tk } ∧ i ≤ ds.length ∧ k = ds.length + 1 - i ∧ (ysF i).length ≤ i ∧ Xi i h ∧ St hb s.heap (env.locals :: X) (C :: D :: M) (cenv scope env C) (ρs i) h ∧ KeepM (wr ++ X) h' h ∧ h.Ns env.locals mL ∧ LstAt h D zs ∧ RepL (C :: D :: M) h zs (ysF i) := ⟨_, fun _ _ => Iff.rfl⟩
    refine comp_loop J ?_ (ds.length + 1)
      ((hJ _ _).mpr ⟨h₁, _, 0, [], rfl, Nat.zero_le _, rfl, by rw [hy0]; exact Nat.le_refl _, W.frame 0 h' h₁ X0 (fun b _ o e => old b o e), base, fun b o _ e => old b o e, n₁.keeps old, hacc, by rw [hy0]; exact .nil⟩) hi
    intro k s' hJk Er
    obtain ⟨h, tk, i, zs, rfl, hil, rfl, hyl, hXi, S, hk, hn, hl, hr⟩ := (hJ _ _).mp hJk
    clear hJk
    have offs : ∀ b ∈ wr, NotSeq h b ∧ b ∉ C :: D :: M ∧ (b ∈ env.locals :: X ∨ s.heap.get? b = none) := fun b hb' => ⟨hnq i h hXi b hb', fpC b (W.sub b hb'), .inr (hwn b hb')⟩
    by_cases hlt : i < ds.length
    · refine W.item i { s with heap := h, toks := tk } _ _ hlt hXi fun v h₂ tk₂ hMd k₂ => ?_
      refine W.go i v { s with heap := h₂, toks := tk₂ } _ _ hMd fun h₃ hPi hX₃ k₃ => ?_
      have k23 : KeepM wr h h₃ := fun b o hb' e => k₃ b o hb' (k₂ b o hb' e)
      have S₃ := S.off offs k23 fun b hb' => .inl (hwn b hb')
      have hk₃ : KeepM (wr ++ X) h' h₃ := hk.trans (k23.sub fun x hx => List.mem_append.mpr (.inl hx))
      have hn₃ : h₃.Ns env.locals mL := by obtain ⟨o, es, ep, ho, r⟩ := hn; exact ⟨o, es, ep, k23 _ o wrL ho, r⟩
      have hl₃ : LstAt h₃ D zs := LstAt.keep k23 (fun hm => (wrC D hm).2.1 rfl) hl
      have hr₃ : RepL (C :: D :: M) h₃ zs (ysF i) := hr.off (wr := wr) (fun b hb' => hnq i h hXi b hb') (k23.sub fun x hx => List.mem_append.mpr (.inl hx))
      obtain ⟨d, hd⟩ : ∃ d, ds[i]? = some d := ⟨_, List.getElem?_eq_getElem hlt⟩
      have it' : ItemIs (C :: D :: M) h₃ v d ∧ (true = true → Rep (C :: D :: M) h₃ v d) := by
        refine hP i v h₃ d _ hPi hd (fun a ha => ?_) (hk₃.sub fun x hx => (List.mem_append.mp hx).elim (fun q => List.mem_append.mpr (.inl q)) fun q => List.mem_append.mpr (.inr (List.mem_cons_of_mem _ (List.mem_cons_of_mem _ (Xob x q).2.1))))
        rcases List.mem_cons.mp ha with rfl | ha
        · exact .inr hCn
        · rcases List.mem_cons.mp ha with rfl | ha
          · exact .inr hDn
          · exact .inl ha
      have Sb := S₃.rebaseTo (I' := C :: X) hIb (List.mem_cons_self ..) (fun q => nomatch q) fun x a es hx => List.mem_cons_of_mem _ (hown i x a es hx)
      refine tks C D h₃ (C :: X) d (List.mem_of_getElem? hd) (ρs i) { s with heap := h₃, toks := tk₂ } v Sb it'.1 it'.2 _ _ fun h₄ tk₄ S₄ => ?_
      have fin : ∀ ρ₂ y v h₅ tk₅, St hb h₃ (C :: X) (C :: D :: M) (cenv scope env C) ρ₂ h₅ → (∀ x sl, (ρs (i + 1)).lookup x = some sl → ρ₂.lookup x = some sl) → Rep (C :: D :: M) h₅ v y → ysF (i + 1) = ysF i ++ [y] →
          wpAny (model prog w) A (call (.builtin "list.append") [.ref D, v]) (fun _ s₅ => ∃ m, m < ds.length + 1 - i ∧ J m s₅) Er { s with heap := h₅, toks := tk₅ } := by
        intro ρ₂ y v h₅ tk₅ S₅ hw ry hyn
        have kC : KeepM (C :: X) h₃ h₅ := S₅.kg
        have B₅ := (S₃.back S₅ fun a ha => (List.mem_cons.mp ha).elim (fun q => .inr (q ▸ hCs)) fun q => .inl (List.mem_cons_of_mem _ q)).weak hw
        obtain ⟨c, e₅⟩ : LstAt h₅ D zs := LstAt.keep kC (fun hm => (List.mem_cons.mp hm).elim (fun q => (hDC q.symm).elim) hDX) hl₃
        refine append_at (s := { s with heap := h₅, toks := tk₅ }) (hsz := by show zs.toArray.size ≤ sizeLine; rw [List.size_toArray, hr.length]; omega) e₅ fun h₆ hs₆ hD₆ => ?_
        have ks := keep_sameBut hs₆
        have l₅ : LstAt h₅ D zs := ⟨c, e₅⟩
        have l₆ : LstAt h₆ D (zs ++ [v]) := ⟨c + 1, by simpa using hD₆⟩
        have B₆ := B₅.aside (.inr hDs) ks (List.mem_cons_of_mem _ (List.mem_cons_self ..)) l₅ ⟨_, hD₆⟩ fun x es hx => hDX (hown (i + 1) x D es hx)
        have r₅ : RepL (C :: D :: M) h₅ zs (ysF i) := hr₃.keep (kC.sub fun x hx => (List.mem_cons.mp hx).elim (fun q => q ▸ List.mem_cons_self ..) fun q => List.mem_cons_of_mem _ (List.mem_cons_of_mem _ (Xob x q).2.1))
        have fpk : ∀ b ∈ fp, ∀ o, h₃.get? b = some o → h₆.get? b = some o := fun b hb' o e => by
          have nb := fpC b hb'
          refine ks b o (fun q => nb (by simp at q; rw [q]; simp)) (kC b o (fun q => nb ?_) e)
          exact (List.mem_cons.mp q).elim (fun q => q ▸ List.mem_cons_self ..) fun q => List.mem_cons_of_mem _ (List.mem_cons_of_mem _ (Xob b q).2.1)
        refine ⟨ds.length + 1 - (i + 1), by omega, (hJ _ _).mpr ⟨h₆, tk₅, i + 1, zs ++ [v], rfl, hlt, rfl, by rw [hyn]; simp; omega, W.frame (i + 1) h₃ h₆ hX₃ fpk, B₆, ?_, ?_, l₆, ?_⟩⟩
        · intro b o hb' e
          have h3 := hk₃ b o hb' e
          refine ks b o (fun q => by simp at q; rw [q, hDn] at e; cases e) (kC b o (fun q => ?_) h3)
          rcases List.mem_cons.mp q with q | q
          · rw [q, hCn] at e; cases e
          · exact hb' (List.mem_append.mpr (.inr q))
        · obtain ⟨o, es, ep, ho, r⟩ := hn₃
          refine ⟨o, es, ep, ks _ o (by simpa using hDL.symm) (kC _ o (fun q => ?_) ho), r⟩
          rcases List.mem_cons.mp q with q | q
          · exact hCL q.symm
          · exact (Xob _ q).2.2.2 rfl
        · rw [hyn]
          exact (r₅.append (.one ry)).keep (ks.sub fun x hx => by simp at hx; rw [hx]; simp)
      have T := turn C D h₃ i d hd
      match ifs, hi, T with
      | [], _, T =>
        obtain ⟨y, ρ₂, ev, hw, hyn⟩ := T
        exact ev { s with heap := h₄, toks := tk₄ } S₄ _ _ fun v' h₅ tk₅ S₅ ry => fin ρ₂ y v' h₅ tk₅ S₅ hw ry hyn
      | [c], _, T =>
        obtain ⟨b, pt, hf, ht⟩ := T
        refine EvS.use (s := { s with heap := h₄, toks := tk₄ }) pt S₄ fun r h₅ tk₅ k₅ S₅ e => ?_
        subst e
        cases r with
        | true =>
          obtain ⟨y, ρ₂, ev, hw, hyn⟩ := ht rfl
          exact ev { s with heap := h₅, toks := tk₅ } S₅ _ _ fun v' h₆ tk₆ S₆ ry => fin ρ₂ y v' h₆ tk₆ S₆ hw ry hyn
        | false =>
          obtain ⟨hw, hyn⟩ := hf rfl
          have kC : KeepM (C :: X) h₃ h₅ := S₅.kg
          have B₅ := (S₃.back S₅ fun a ha => (List.mem_cons.mp ha).elim (fun q => .inr (q ▸ hCs)) fun q => .inl (List.mem_cons_of_mem _ q)).weak hw
          have l₅ : LstAt h₅ D zs := LstAt.keep kC (fun hm => (List.mem_cons.mp hm).elim (fun q => (hDC q.symm).elim) hDX) hl₃
          have r₅ : RepL (C :: D :: M) h₅ zs (ysF i) := hr₃.keep (kC.sub fun x hx => (List.mem_cons.mp hx).elim (fun q => q ▸ List.mem_cons_self ..) fun q => List.mem_cons_of_mem _ (List.mem_cons_of_mem _ (Xob x q).2.1))
          have fpk : ∀ b ∈ fp, ∀ o, h₃.get? b = some o → h₅.get? b = some o := fun b hb' o e => by
            have nb := fpC b hb'
            refine kC b o (fun q => nb ?_) e
            exact (List.mem_cons.mp q).elim (fun q => q ▸ List.mem_cons_self ..) fun q => List.mem_cons_of_mem _ (List.mem_cons_of_mem _ (Xob b q).2.1)
          refine ⟨ds.length + 1 - (i + 1), by omega, (hJ _ _).mpr ⟨h₅, tk₅, i + 1, zs, rfl, hlt, rfl, by rw [hyn]; omega, W.frame (i + 1) h₃ h₅ hX₃ fpk, B₅, ?_, ?_, l₅, by rw [hyn]; exact r₅⟩⟩
          · intro b o hb' e
            refine kC b o (fun q => ?_) (hk₃ b o hb' e)
            rcases List.mem_cons.mp q with q | q
            · rw [q, hCn] at e; cases e
            · exact hb' (List.mem_append.mpr (.inr q))
          · obtain ⟨o, es, ep, ho, r⟩ := hn₃
            refine ⟨o, es, ep, kC _ o (fun q => ?_) ho, r⟩
            rcases List.mem_cons.mp q with q | q
            · exact hCL q.symm
            · exact (Xob _ q).2.2.2 rfl
    · have hin : i = ds.length := Nat.le_antisymm hil (Nat.not_lt.mp hlt)
      subst hin
      refine W.done { s with heap := h, toks := tk } _ _ hXi fun h₂ tk₂ k₂ => ?_
      have S₂ := S.off offs k₂ fun b hb' => .inl (hwn b hb')
      have Sb := S₂.rebaseTo (I' := C :: X) hIb (List.mem_cons_self ..) (fun q => nomatch q) fun x a es hx => List.mem_cons_of_mem _ (hown _ x a es hx)
      refine hRR D C h₂ tk₂ zs hDC hDs hCs S₂.kg ?_ Sb (LstAt.keep k₂ (fun hm => (wrC D hm).2.1 rfl) hl) (hr.off (wr := wr) (fun b hb' => hnq _ h hXi b hb') ((show KeepM wr h h₂ from k₂).sub fun x hx => List.mem_append.mpr (.inl hx)))
      obtain ⟨o, es, ep, ho, r⟩ := hn; exact ⟨o, es, ep, k₂ _ o wrL ho, r⟩
  exact codeAny_compStart_list (loop _ rfl) (hself _ _ _ (W.frame 0 h' h₁ X0 (fun b _ o e => old b o e)) (loop _ rfl))
end
end Oh

-- OhS
namespace Oh
open PySem PySem.W PyProof.Rows PySem.SeqAt PySem.Calls PySem.MeetsSeq PyProof.Rows.LCg

section
variable {prog : Program} {w : World} {A : Around} {hb g : Heap} {I M : List Addr} {env : Env} {ρ ρ' ρ'' ρo : Store} {K : Frag}

theorem St.mutL {h h' : Heap} {x : Str} {a : Addr} {ds : List PyData} {vs' : List Value} {ds' : List PyData} (S : St hb g I M env ρ h) (hx : ρ.lookup x = some (.own a ds)) (hs : KeepM (env.locals :: [a]) h h') (hn : ∀ mL, h.Ns env.locals mL → h'.Ns env.locals mL)
    (l : LstAt h' a vs') (r : RepL M h' vs' ds') : St hb g I M env ((x, .own a ds') :: ρ) h' := by
  obtain ⟨m, nm, sok⟩ := S.names
  obtain ⟨mL, n1, n2⟩ := nm.loc
  obtain ⟨e0, haM, haI, vs, hl, hr⟩ := sok x _ hx
  have two : ∀ {b : Addr}, b ≠ env.locals → b ≠ a → b ∉ env.locals :: [a] := fun h1 h2 hm => by simp at hm; exact hm.elim h1 h2
  have kM : KeepM M h h' := hs.sub fun y hy => by
    rcases List.mem_cons.mp hy with rfl | hy
    · exact S.LM
    · simp at hy; rw [hy]; exact haM
  refine { S with
    kb := fun b o hb' e => hs b o (two (ne_of_kept S.L1 (S.bg b o e).2 (S.bg b o e).1) (ne_of_kept haI (S.bg b o e).2 (S.bg b o e).1)) (S.kb b o hb' e)
    kg := fun b o hI e => hs b o (two (ne_of_kept S.L1 hI e) (ne_of_kept haI hI e)) (S.kg b o hI e)
    al := fun b o e => ?_
    ob := fun c hc => ?_
    names := ⟨m, ⟨⟨mL, hn _ n1, n2⟩, fun y c hy hc => ?_⟩, fun y s hy => ?_⟩
    oI := fun y z b es fs h1 h2 => ?_ }
  · by_cases q : b = a
    · obtain ⟨n, z⟩ := l; rw [q]; exact ⟨_, z⟩
    · by_cases q2 : b = env.locals
      · rw [q2]; exact ns_ob (hn _ n1)
      · obtain ⟨o', ho'⟩ := S.al b o e; exact ⟨o', hs b o' (two q2 q) ho'⟩
  · by_cases e : c = a
    · obtain ⟨n, q⟩ := l; rw [e]; exact ⟨_, q⟩
    · by_cases q2 : c = env.locals
      · rw [q2]; exact ns_ob (hn _ n1)
      · obtain ⟨o, ho⟩ := S.ob c hc; exact ⟨o, hs c o (two q2 e) ho⟩
  · have hcell := nm.cell y c hy hc
    obtain ⟨o, ho, hd⟩ := id hcell
    exact ⟨o, hs c o (two (ns_not_cell n1 hcell) (list_not_cell hl.isList hcell)) ho, hd⟩
  · by_cases e : y = x
    · subst e; rw [lookup_cons_self] at hy; cases hy; exact ⟨e0, haM, haI, vs', l, r⟩
    · rw [lookup_cons_ne e] at hy
      have q := sok y s hy
      cases s with
      | frz d => obtain ⟨u, e, r⟩ := q; exact ⟨u, e, r.keep kM⟩
      | own b es =>
        obtain ⟨e1, h1, h2, ws, h3, h4⟩ := q
        have hne : b ≠ a := fun q => by subst q; exact e (S.oI y x b es ds hy hx)
        exact ⟨e1, h1, h2, ws, LstAt.keep hs (two (ns_not_list n1 h3.isList) hne) h3, h4.keep kM⟩
  · by_cases e1 : y = x <;> by_cases e2 : z = x
    · rw [e1, e2]
    · subst e1; rw [lookup_cons_self] at h1; cases h1; rw [lookup_cons_ne e2] at h2; exact (e2 (S.oI z y a fs ds h2 hx)).elim
    · subst e2; rw [lookup_cons_self] at h2; cases h2; rw [lookup_cons_ne e1] at h1; exact (e1 (S.oI y z a es ds h1 hx)).elim
    · rw [lookup_cons_ne e1] at h1; rw [lookup_cons_ne e2] at h2; exact S.oI y z b es fs h1 h2

theorem scOk_kind {scope : Scope} (h : scOk scope env = true) : scope.kind = .function ∧ ∀ x ∈ scope.names, x.2 = .local → scope.names.lookup x.1 = some .local := by
  simp only [scOk, Bool.and_eq_true] at h
  obtain ⟨⟨⟨k1, k2⟩, k3⟩, k4⟩ := h
  refine ⟨by simpa using k1, fun x hx e => ?_⟩
  have := List.all_eq_true.mp k3 x hx
  rw [e] at this
  simpa using this
theorem inner_ns {h : Heap} {C D : Addr} {X : List Addr} {scope : Scope} {ρ₁ : Store} (S : St hb h (C :: X) (C :: D :: M) (cenv scope env C) ρ₁ h) : ∃ m, h.Ns C m := by obtain ⟨mL, n⟩ := S.ns; exact ⟨mL, n⟩
theorem ns_but {h h' : Heap} {C L : Addr} {mL : Str → Option Value} (hs : KeepM [C] h h') (hne : L ≠ C) (n : h.Ns L mL) : h'.Ns L mL := by obtain ⟨o, es, ep, ho, r⟩ := n; exact ⟨o, es, ep, hs _ o (by simpa using hne) ho, r⟩

/-- a pure comprehension's turns -/
noncomputable def CompPure (prog : Program) (w : World) (A : Around) (hb : Heap) (M : List Addr) (env : Env) (elt : PySem.Expr) (scope : Scope) (σ : PyData → Store) (ρ' : Store) (ds : List PyData) (f : PyData → PyData) (p : PyData → Bool) (ifs : List PySem.Expr) : Prop :=
  ∀ (C D : Addr) (g' : Heap) (d : PyData), d ∈ ds → (match ifs with | [] => p d = true | [c] => PT prog w A hb g' [C] (C :: D :: M) (cenv scope env C) (σ d ++ ρ') c (p d) | _ => False) ∧ (p d = true → PE prog w A hb g' [C] (C :: D :: M) (cenv scope env C) (σ d ++ ρ') elt (f d))

theorem CompPure.turn {elt : PySem.Expr} {scope : Scope} {σ : PyData → Store} {ds : List PyData} {f : PyData → PyData} {p : PyData → Bool} {ifs : List PySem.Expr} (h : CompPure prog w A hb M env elt scope σ ρ' ds f p ifs) (hi : ifs.length ≤ 1) (dis : ∀ d ∈ ds, ∀ x sl, ρ'.lookup x = some sl → (σ d ++ ρ').lookup x = some sl)
    (C D : Addr) (g' : Heap) (i : Nat) (d : PyData) (hd : ds[i]? = some d) : TurnOk prog w A hb g' (C :: []) (C :: D :: M) (cenv scope env C) elt (σ d ++ ρ') ρ' (((ds.take i).filter p).map f) (((ds.take (i + 1)).filter p).map f) ifs := by
  have hm := List.mem_of_getElem? hd
  obtain ⟨h1, h2⟩ := h C D g' d hm
  have tk : ds.take (i + 1) = ds.take i ++ [d] := by rw [List.take_add_one, hd]; rfl
  rw [tk, List.filter_append, List.map_append]
  match ifs, hi, h1 with
  | [], _, h1 => exact ⟨f d, _, (h2 h1).x, dis d hm, by simp [h1]⟩
  | [c], _, h1 =>
    refine ⟨p d, h1, fun e => ⟨dis d hm, by simp [e]⟩, fun e => ⟨f d, _, (h2 e).x, dis d hm, by simp [e]⟩⟩

theorem pf_comp {elt target iter : PySem.Expr} {ifs : List PySem.Expr} {scope : Scope} {pos : Pos} {ds : List PyData} (σ : PyData → Store) (ρ' : Store) (f : PyData → PyData) (p : PyData → Bool)
    (src : PI true prog w A hb g I M env ρ target iter ds) (hρ : ∀ x sl, ρ'.lookup x = some sl → ρ.lookup x = some sl) (hno : ∀ x a es, ρ'.lookup x ≠ some (.own a es)) (dis : ∀ d ∈ ds, ∀ x sl, ρ'.lookup x = some sl → (σ d ++ ρ').lookup x = some sl)
    (hz : ds.length ≤ sizeLine) (tks : ∀ (C D : Addr) (g' : Heap) (I' : List Addr) (d : PyData), d ∈ ds → Takes true prog w A hb g' I' (C :: D :: M) (cenv scope env C) target d (σ d)) (body : CompPure prog w A hb M env elt scope σ ρ' ds f p ifs)
    (hsc : scOk scope env = true := by rfl) (hρc : (ρ'.all fun p => (relabel scope env).names.lookup p.1 == some .cell) = true := by rfl) (hi : ifs.length ≤ 1 := by decide) (hclos : closureFor scope env = pure (clOf scope env) := by rfl) (hs : ∀ x, foldedSetIterable iter env x = pure x := by intro _; rfl) :
    PF prog w A hb g I M env ρ (.ListComp elt [⟨target, iter, ifs, 0⟩] scope pos) ((ds.filter p).map f) := fun s S mL n Q E k => by
  rw [eval_ListComp]
  refine wpAny_comprehension_free (use := none) rfl hs hclos (scOk_kind hsc).1 (scOk_kind hsc).2 (src s S mL n _ E fun Ia h' tk fp wr P Md Xi k₁ n₁ W X0 hfp hwn hnq hP hself => ?_)
  refine comp_block σ [] (fun _ => ρ') (fun i => ((ds.take i).filter p).map f) S n hsc (fun a ha => nomatch ha) hρ hρc (fun i x a es hx => (hno x a es hx).elim) hz hi (by simp) tks (body.turn hi dis) k₁ n₁ W X0 hfp hwn hnq hP (hself rfl) ?_
  intro D C h tk zs hCD hDs hCs kk nn Si l r
  obtain ⟨m, hm⟩ := inner_ns Si
  refine ⟨m, hm, fun h'' hs'' => ?_⟩
  have ks := keep_sameBut hs''
  have hCL : env.locals ≠ C := fun q => by obtain ⟨o, ho⟩ := ns_ob n; rw [q, hCs] at ho; cases ho
  rw [List.take_length] at r
  refine k _ h'' tk (fun b o hb' e => ks b o (fun q => by simp at q; rw [q, hCs] at e; cases e) (kk b o hb' e)) (ns_but ks hCL nn) ⟨D, zs, rfl, hDs, LstAt.keep ks (by simpa using hCD.symm) l, ?_⟩
  exact (r.keep (ks.sub fun x hx => by simp at hx; rw [hx]; simp)).sub fun x hx => List.mem_cons_of_mem _ hx

/-- y = [..], the names exchanged -/
theorem x_assignC {y : Str} {py spos : Pos} {elt target iter : PySem.Expr} {ifs : List PySem.Expr} {scope : Scope} {pos : Pos} {ds : List PyData} {rest : List Stmt} {s : Shared} {Q : Flow → Shared → Prop} {E : Value → Shared → Prop} (σ : PyData → Store) (X : List Addr) (ρs : Nat → Store) (ysF : Nat → List PyData)
    (S : St hb g I M env ρ s.heap) (src : PI true prog w A hb g I M env ρ target iter ds) (hX : ∀ a ∈ X, ∃ x ds, ρ.lookup x = some (.own a ds)) (hy : lcw env y = true)
    (hρ : ∀ x sl, (ρs 0).lookup x = some sl → ρ.lookup x = some sl) (hown : ∀ i x a ds, (ρs i).lookup x = some (.own a ds) → a ∈ X) (hz : ds.length ≤ sizeLine) (hy0 : ysF 0 = [])
    (tks : ∀ (C D : Addr) (g' : Heap) (I' : List Addr) (d : PyData), d ∈ ds → Takes true prog w A hb g' I' (C :: D :: M) (cenv scope env C) target d (σ d))
    (turn : ∀ (C D : Addr) (g' : Heap) (i : Nat) (d : PyData), ds[i]? = some d → TurnOk prog w A hb g' (C :: X) (C :: D :: M) (cenv scope env C) elt (σ d ++ ρs i) (ρs (i + 1)) (ysF i) (ysF (i + 1)) ifs)
    (out : ∀ mL h C D, s.heap.Ns env.locals mL → s.heap.get? C = none → s.heap.get? D = none → KeepM (env.locals :: X) s.heap h → h.Ns env.locals mL → St hb h (C :: X) (C :: D :: M) (cenv scope env C) (ρs ds.length) h → St hb g I M env ρo h)
    (k : ∀ h' tk, St hb g I M env ((y, .frz (.list (ysF ds.length))) :: ρo) h' → wpAny (model prog w) A (execs rest env) Q E { s with heap := h', toks := tk })
    (hsw : swapsWith (.ListComp elt [⟨target, iter, ifs, 0⟩] scope pos) (some (.Name y py)) spos.line env = pure true := by rfl)
    (hsc : scOk scope env = true := by rfl) (hρc : ((ρs 0).all fun p => (relabel scope env).names.lookup p.1 == some .cell) = true := by rfl) (hi : ifs.length ≤ 1 := by decide) (hclos : closureFor scope env = pure (clOf scope env) := by rfl) (hs : ∀ x, foldedSetIterable iter env x = pure x := by intro _; rfl) :
    wpAny (model prog w) A (execs (.Assign [.Name y py] (.ListComp elt [⟨target, iter, ifs, 0⟩] scope pos) spos :: rest) env) Q E s := by
  obtain ⟨mL, n⟩ := S.ns
  refine x_skip ?_
  rw [exec_Assign_Name_used _ _ _ _ hsw]
  refine wpAny_bind (wpAny_standAt (wpAny_bind ?_))
  show wpAny _ A (do let _ ← comprehension (.ListComp elt [⟨target, iter, ifs, 0⟩] scope pos) scope env _ (newList []) false (eval iter env) (some (assign (.Name y py) env))) _ _ s
  refine wpAny_bind (wpAny_mono (wpAny_comprehension_free (use := some (assign (.Name y py) env)) (Q := fun _ s' => wpAny (model prog w) A (execs rest env) Q E s') rfl hs hclos (scOk_kind hsc).1 (scOk_kind hsc).2
    (src s S mL n _ E fun Ia h' tk fp wr P Md Xi k₁ n₁ W X0 hfp hwn hnq hP hself => ?_)) (fun _ s' hq => wpAny_pure (wpAny_pure ⟨rfl, hq⟩)) fun _ _ e => e)
  refine comp_block σ X ρs ysF S n hsc hX hρ hρc hown hz hi hy0 tks turn k₁ n₁ W X0 hfp hwn hnq hP (hself rfl) ?_
  intro D C h tk zs hCD hDs hCs kk nn Si l r
  show wpAny _ A (do standAt py; bindName env y (.ref D)) _ _ _
  have So := out mL h C D n hCs hDs kk nn Si
  have nM : ∀ b, s.heap.get? b = none → b ∉ M := fun b e hm => by obtain ⟨o, ho⟩ := S.ob b hm; rw [e] at ho; cases ho
  obtain ⟨m, hm⟩ := inner_ns Si
  refine wpAny_bind (wpAny_standAt (wpAny_bindName (St.storeK (s := { s with heap := h, toks := tk }) (sl := .frz (.list (ysF ds.length))) So hy ⟨_, rfl, .list (nM D hDs) l (r.sub fun x hx => List.mem_cons_of_mem _ (List.mem_cons_of_mem _ hx))⟩ (fun a ds e => nomatch e) fun h₂ tk₂ k₂ S₂ => ?_)))
  have hm₂ : h₂.Ns C m := by obtain ⟨o, es, ep, ho, q⟩ := hm; exact ⟨o, es, ep, k₂ C o (nM C hCs) ho, q⟩
  refine ⟨m, hm₂, fun h₃ hs₃ => k h₃ tk₂ (S₂.off (wr := [C]) (fun b hb' => ?_) (keep_sameBut hs₃) fun b hb' => ?_)⟩
  · simp at hb'; subst hb'; exact ⟨NotSeq.ns hm₂, nM b hCs, .inr (S.gone hCs)⟩
  · simp at hb'; subst hb'; exact .inl (S.gone hCs)

theorem x_assignCp {y : Str} {py spos : Pos} {elt target iter : PySem.Expr} {ifs : List PySem.Expr} {scope : Scope} {pos : Pos} {ds : List PyData} {rest : List Stmt} {s : Shared} {Q : Flow → Shared → Prop} {E : Value → Shared → Prop} (σ : PyData → Store) (ρ' : Store) (f : PyData → PyData) (p : PyData → Bool)
    (S : St hb g I M env ρ s.heap) (src : PI true prog w A hb g I M env ρ target iter ds) (hy : lcw env y = true) (hρ : ∀ x sl, ρ'.lookup x = some sl → ρ.lookup x = some sl) (hno : ∀ x a es, ρ'.lookup x ≠ some (.own a es)) (dis : ∀ d ∈ ds, ∀ x sl, ρ'.lookup x = some sl → (σ d ++ ρ').lookup x = some sl)
    (hz : ds.length ≤ sizeLine) (tks : ∀ (C D : Addr) (g' : Heap) (I' : List Addr) (d : PyData), d ∈ ds → Takes true prog w A hb g' I' (C :: D :: M) (cenv scope env C) target d (σ d)) (body : CompPure prog w A hb M env elt scope σ ρ' ds f p ifs)
    (k : ∀ h' tk, St hb g I M env ((y, .frz (.list ((ds.filter p).map f))) :: ρ) h' → wpAny (model prog w) A (execs rest env) Q E { s with heap := h', toks := tk })
    (hsw : swapsWith (.ListComp elt [⟨target, iter, ifs, 0⟩] scope pos) (some (.Name y py)) spos.line env = pure true := by rfl)
    (hsc : scOk scope env = true := by rfl) (hρc : (ρ'.all fun p => (relabel scope env).names.lookup p.1 == some .cell) = true := by rfl) (hi : ifs.length ≤ 1 := by decide) (hclos : closureFor scope env = pure (clOf scope env) := by rfl) (hs : ∀ x, foldedSetIterable iter env x = pure x := by intro _; rfl) :
    wpAny (model prog w) A (execs (.Assign [.Name y py] (.ListComp elt [⟨target, iter, ifs, 0⟩] scope pos) spos :: rest) env) Q E s :=
  x_assignC σ [] (fun _ => ρ') (fun i => ((ds.take i).filter p).map f) S src (fun a ha => nomatch ha) hy hρ (fun i x a es hx => (hno x a es hx).elim) hz (by simp) tks (body.turn hi dis) (ρo := ρ) (fun mL h C D n hCs hDs kk nn Si => S.grow' n kk nn)
    (by rw [List.take_length]; exact k) hsw hsc hρc hi hclos hs

/-- own list x, turned by the turns -/
theorem own_out {x : Str} {a : Addr} {cs es : List PyData} {scope : Scope} {s h : Heap} {C D : Addr} {mL : Str → Option Value} (S : St hb g I M env ρ s) (hl : Ow ρ x a cs) (n : s.Ns env.locals mL) (kk : KeepM (env.locals :: [a]) s h) (nn : h.Ns env.locals mL)
    (Si : St hb h (C :: [a]) (C :: D :: M) (cenv scope env C) [(x, .own a es)] h) : St hb g I M env ((x, .own a es) :: ρ) h := by
  obtain ⟨m, nm, sok⟩ := Si.names
  obtain ⟨_, _, _, vs, l, r⟩ := sok x (.own a es) lookup_cons_self
  exact S.mutL hl kk (fun mL' n' => by rw [ns_unique n n']; exact nn) l (r.sub fun y hy => List.mem_cons_of_mem _ (List.mem_cons_of_mem _ hy))

theorem evx_compO {x : Str} {a : Addr} {cs : List PyData} {elt target iter : PySem.Expr} {ifs : List PySem.Expr} {scope : Scope} {pos : Pos} {ds : List PyData} (σ : PyData → Store) (es : Nat → List PyData) (ysF : Nat → List PyData) (hl : Ow ρ x a cs) (h0 : es 0 = cs) (hy0 : ysF 0 = [])
    (src : PI true prog w A hb g I M env ρ target iter ds) (hz : ds.length ≤ sizeLine)
    (tks : ∀ (C D : Addr) (g' : Heap) (I' : List Addr) (d : PyData), d ∈ ds → Takes true prog w A hb g' I' (C :: D :: M) (cenv scope env C) target d (σ d))
    (turn : ∀ (C D : Addr) (g' : Heap) (i : Nat) (d : PyData), ds[i]? = some d → TurnOk prog w A hb g' (C :: [a]) (C :: D :: M) (cenv scope env C) elt (σ d ++ [(x, .own a (es i))]) [(x, .own a (es (i + 1)))] (ysF i) (ysF (i + 1)) ifs)
    (hsc : scOk scope env = true := by rfl) (hρc : ((relabel scope env).names.lookup x == some .cell) = true := by rfl) (hi : ifs.length ≤ 1 := by decide) (hclos : closureFor scope env = pure (clOf scope env) := by rfl) (hs : ∀ x, foldedSetIterable iter env x = pure x := by intro _; rfl) :
    EvX prog w A hb g I M env ρ ((x, .own a (es ds.length)) :: ρ) (.ListComp elt [⟨target, iter, ifs, 0⟩] scope pos) (.list (ysF ds.length)) := fun s S Q E k => by
  obtain ⟨mL, n⟩ := S.ns
  have one : ∀ {y : Str} {sl sl' : Slot}, List.lookup y [(x, sl)] = some sl' → y = x ∧ sl' = sl := fun {y sl sl'} h => by
    have := lookup_mem h; simp only [List.mem_cons, Prod.mk.injEq, List.not_mem_nil, or_false] at this; exact this
  rw [eval_ListComp]
  refine wpAny_comprehension_free (use := none) rfl hs hclos (scOk_kind hsc).1 (scOk_kind hsc).2 (src s S mL n _ E fun Ia h' tk fp wr P Md Xi k₁ n₁ W X0 hfp hwn hnq hP hself => ?_)
  refine comp_block σ [a] (fun i => [(x, .own a (es i))]) ysF S n hsc (fun b hb' => ⟨x, cs, by simp at hb'; rw [hb']; exact hl⟩) (fun y sl hy => ?_) (by simpa using hρc) (fun i y b fs hy => ?_) hz hi hy0 tks turn k₁ n₁ W X0 hfp hwn hnq hP (hself rfl) ?_
  · obtain ⟨rfl, rfl⟩ := one hy; rw [h0]; exact hl
  · have := (one hy).2; simp only [Slot.own.injEq] at this; rw [this.1]; simp
  intro D C h tk zs hCD hDs hCs kk nn Si l r
  obtain ⟨m, hm⟩ := inner_ns Si
  refine ⟨m, hm, fun h'' hs'' => ?_⟩
  have ks := keep_sameBut hs''
  have nM : ∀ b, s.heap.get? b = none → b ∉ M := fun b e hm => by obtain ⟨o, ho⟩ := S.ob b hm; rw [e] at ho; cases ho
  have So := own_out S hl n kk nn Si
  refine k _ h'' tk (So.off (wr := [C]) (fun b hb' => ?_) ks fun b hb' => ?_) (.list (nM D hDs) (LstAt.keep ks (by simpa using hCD.symm) l) ((r.keep (ks.sub fun x hx => by simp at hx; rw [hx]; simp)).sub fun x hx => List.mem_cons_of_mem _ (List.mem_cons_of_mem _ hx)))
  · simp at hb'; subst hb'; exact ⟨NotSeq.ns hm, nM b hCs, .inr (S.gone hCs)⟩
  · simp at hb'; subst hb'; exact .inl (S.gone hCs)
end
end Oh

-- OhX
namespace Oh
open PySem PySem.W PyProof.Rows

/-! ## the sort's tree of questions, answered by ranks -/
noncomputable def HT {α : Type} (r : Nat → Nat) (N : Nat) : KasT α → (α → Prop) → Prop
  | .ret a, Q => Q a
  | .ask i j k, Q => i < N ∧ j < N ∧ HT r N (k (decide (r i < r j))) Q
theorem HT.mono {α : Type} {r : Nat → Nat} {N : Nat} {Q Q' : α → Prop} (hq : ∀ a, Q a → Q' a) : ∀ {t : KasT α}, HT r N t Q → HT r N t Q'
  | .ret a, h => hq a h
  | .ask i j k, h => ⟨h.1, h.2.1, HT.mono hq h.2.2⟩
theorem HT.bind {α β : Type} {r : Nat → Nat} {N : Nat} {f : α → KasT β} {Q : β → Prop} : ∀ {t : KasT α}, HT r N t (fun a => HT r N (f a) Q) → HT r N (t.bind f) Q
  | .ret a, h => h
  | .ask i j k, h => ⟨h.1, h.2.1, HT.bind h.2.2⟩
theorem HT.wp {α : Type} {r : Nat → Nat} {N : Nat} {cmp : Nat → Nat → (Bool → Shared → Prop) → Shared → Prop} {s : Shared} {Q : α → Prop} {Q' : α → Shared → Prop} (hc : ∀ i j C, i < N → j < N → C (decide (r i < r j)) s → cmp i j C s) (hq : ∀ a, Q a → Q' a s) :
    ∀ {t : KasT α}, HT r N t Q → t.kasWp cmp Q' s
  | .ret a, h => hq a h
  | .ask i j k, h => hc i j _ h.1 h.2.1 (HT.wp hc hq h.2.2)

section
variable {r : Nat → Nat} {N : Nat}
noncomputable def ky (r : Nat → Nat) (p : Array Nat) (k : Nat) : Nat := r (p.getD k 0)
noncomputable def ValidP (N : Nat) (p : Array Nat) : Prop := p.Perm (List.toArray (List.range N))
theorem ValidP.size {p : Array Nat} (h : ValidP N p) : p.size = N := by have := h.size_eq; simpa using this
theorem ValidP.lt {p : Array Nat} (h : ValidP N p) {k : Nat} (hk : k < p.size) : p.getD k 0 < N := by
  have : p.getD k 0 ∈ p := by rw [show p.getD k 0 = p[k] by simp [Array.getD, hk]]; exact Array.getElem_mem hk
  have := (h.mem_iff (a := p.getD k 0)).mp this
  simpa using this
theorem ValidP.rev {p : Array Nat} (h : ValidP N p) (i j : Nat) : ValidP N (kas_rev p i j) := (mirror_perm _ _ _ _).trans h
theorem ValidP.bub {p : Array Nat} (h : ValidP N p) (i j : Nat) : ValidP N (bubble p i j) := (bubble_perm _ _ _).trans h

theorem getD_of {p q : Array Nat} {i j : Nat} (h : p[i]? = q[j]?) : p.getD i 0 = q.getD j 0 := by
  rw [Array.getD_eq_getD_getElem?, Array.getD_eq_getD_getElem?, h]
theorem ky_rev {p : Array Nat} {i j : Nat} (hj : j ≤ p.size) (k : Nat) : ky r (kas_rev p i j) k = if i ≤ k ∧ k < j then ky r p (i + j - 1 - k) else ky r p k := by
  unfold ky kas_rev
  have := getElem?_mirror_all (xs := p) (i := i) hj k
  split
  · rename_i h; rw [if_pos h] at this; rw [getD_of this]
  · rename_i h; rw [if_neg h] at this; rw [getD_of this]
theorem ky_bub {p : Array Nat} {k l : Nat} (hk : k < p.size) (hl : l ≤ k) (i : Nat) : ky r (bubble p k (k - l)) i = if i = l then ky r p k else if l < i ∧ i ≤ k then ky r p (i - 1) else ky r p i := by
  have := getElem?_bubble hk (k - l) (by omega) i
  rw [show k - (k - l) = l by omega] at this
  by_cases h : i = l
  · rw [if_pos h] at this ⊢; exact congrArg r (getD_of this)
  · rw [if_neg h] at this ⊢
    by_cases h2 : l < i ∧ i ≤ k
    · rw [if_pos h2] at this ⊢; exact congrArg r (getD_of this)
    · rw [if_neg h2] at this ⊢; exact congrArg r (getD_of this)

noncomputable def Srt (r : Nat → Nat) (p : Array Nat) (m : Nat) : Prop := ∀ i j, i ≤ j → j < m → ky r p i ≤ ky r p j
noncomputable def Nin (r : Nat → Nat) (p : Array Nat) (m : Nat) : Prop := ∀ i j, i ≤ j → j < m → ky r p j ≤ ky r p i
theorem Srt.succ {p : Array Nat} {m : Nat} (h : Srt r p m) (hm : m = 0 ∨ ky r p (m - 1) ≤ ky r p m) : Srt r p (m + 1) := fun i j hij hj => by
  by_cases e : j = m
  · subst e
    by_cases e2 : i = j
    · rw [e2]; exact Nat.le_refl _
    · rcases hm with h0 | h0
      · omega
      · exact Nat.le_trans (h i (j - 1) (by omega) (by omega)) h0
  · exact h i j hij (by omega)
theorem Nin.succ {p : Array Nat} {m : Nat} (h : Nin r p m) (hm : m = 0 ∨ ky r p m ≤ ky r p (m - 1)) : Nin r p (m + 1) := fun i j hij hj => by
  by_cases e : j = m
  · subst e
    by_cases e2 : i = j
    · rw [e2]; exact Nat.le_refl _
    · rcases hm with h0 | h0
      · omega
      · exact Nat.le_trans h0 (h i (j - 1) (by omega) (by omega))
  · exact h i j hij (by omega)

theorem asc_ok {p : Array Nat} (V : ValidP N p) : ∀ (f n : Nat), 1 ≤ n → n + f ≤ p.size → Srt r p n → HT r N (kas_asc p f n) (fun m => n ≤ m ∧ m ≤ n + f ∧ Srt r p m ∧ (m < n + f → ky r p m < ky r p (m - 1)))
  | 0, n, h1, hz, hs => ⟨Nat.le_refl _, Nat.le_refl _, hs, fun h => absurd h (Nat.lt_irrefl _)⟩
  | f + 1, n, h1, hz, hs => by
    refine ⟨V.lt (by omega), V.lt (by omega), ?_⟩
    show HT r N (if decide (ky r p n < ky r p (n - 1)) = true then _ else _) _
    by_cases e : ky r p n < ky r p (n - 1)
    · rw [if_pos (decide_eq_true e)]; exact ⟨Nat.le_refl _, by omega, hs, fun _ => e⟩
    · rw [if_neg (by simpa using e)]
      refine HT.mono ?_ (asc_ok V f (n + 1) (by omega) (by omega) (hs.succ (.inr (Nat.not_lt.mp e))))
      rintro m ⟨a, b, c, d⟩
      exact ⟨by omega, by omega, c, fun h => d (by omega)⟩

noncomputable def EqR (r : Nat → Nat) (p : Array Nat) (n q : Nat) : Prop := ∀ k, n - (q + 1) ≤ k → k < n → ky r p k = ky r p (n - 1)
theorem eqr_one (p : Array Nat) (n : Nat) : EqR r p (n + 1) 0 := fun k h1 h2 => by
  rw [show k = n + 1 - 1 by omega]
theorem rev_eq {p : Array Nat} {n q : Nat} (hz : n ≤ p.size) (h : EqR r p n q) (hq : q + 1 ≤ n) (k : Nat) : ky r (kas_rev p (n - (q + 1)) n) k = ky r p k := by
  rw [ky_rev hz]
  split
  · rename_i h2
    rw [h _ (om_rev h2).1 (om_rev h2).2, h k h2.1 h2.2]
  · rfl
theorem desc_ok : ∀ (f : Nat) (p : Array Nat) (n q : Nat), ValidP N p → q + 1 ≤ n → n + f ≤ p.size → Nin r p n → EqR r p n q →
    HT r N (kas_desc f p n q) (fun x => ValidP N x.1 ∧ n ≤ x.2.1 ∧ x.2.1 ≤ n + f ∧ x.2.2 + 1 ≤ x.2.1 ∧ Nin r x.1 x.2.1 ∧ EqR r x.1 x.2.1 x.2.2)
  | 0, p, n, q, V, hq, hz, hn, he => ⟨V, Nat.le_refl _, Nat.le_refl _, hq, hn, he⟩
  | f + 1, p, n, q, V, hq, hz, hn, he => by
    have one : ∀ (p' : Array Nat) (n : Nat), EqR r p' (n + 1) 0 := eqr_one
    refine ⟨V.lt (by omega), V.lt (by omega), ?_⟩
    show HT r N (if decide (ky r p n < ky r p (n - 1)) = true then _ else _) _
    by_cases e : ky r p n < ky r p (n - 1)
    · rw [if_pos (decide_eq_true e)]
      have up : ∀ p', ValidP N p' → (∀ k, ky r p' k = ky r p k) → HT r N (kas_desc f p' (n + 1) 0) (fun x => ValidP N x.1 ∧ n ≤ x.2.1 ∧ x.2.1 ≤ n + (f + 1) ∧ x.2.2 + 1 ≤ x.2.1 ∧ Nin r x.1 x.2.1 ∧ EqR r x.1 x.2.1 x.2.2) := fun p' V' hk => by
        have hn' : Nin r p' n := fun i j h1 h2 => by rw [hk, hk]; exact hn i j h1 h2
        refine HT.mono ?_ (desc_ok f p' (n + 1) 0 V' (by omega) (by rw [V'.size, ← V.size]; omega) (hn'.succ (.inr (by rw [hk, hk]; exact Nat.le_of_lt e))) (one p' n))
        rintro x ⟨a, b, c, d, e, f⟩
        exact ⟨a, by omega, by omega, d, e, f⟩
      split
      · exact up _ (V.rev _ _) (rev_eq (by omega) he hq)
      · exact up p V fun _ => rfl
    · rw [if_neg (by simpa using e)]
      refine ⟨V.lt (by omega), V.lt (by omega), ?_⟩
      show HT r N (if decide (ky r p (n - 1) < ky r p n) = true then _ else _) _
      by_cases e2 : ky r p (n - 1) < ky r p n
      · rw [if_pos (decide_eq_true e2)]; exact ⟨V, Nat.le_refl _, Nat.le_add_right _ _, hq, hn, he⟩
      · rw [if_neg (by simpa using e2)]
        have heq : ky r p n = ky r p (n - 1) := Nat.le_antisymm (Nat.not_lt.mp e2) (Nat.not_lt.mp e)
        refine HT.mono ?_ (desc_ok f p (n + 1) (q + 1) V (by omega) (by omega) (hn.succ (.inr (Nat.le_of_eq heq))) fun k h1 h2 => ?_)
        · rintro x ⟨a, b, c, d, e, f⟩
          exact ⟨a, by omega, by omega, d, e, f⟩
        · show ky r p k = ky r p n
          by_cases e3 : k = n
          · rw [e3]
          · rw [heq]; exact he k (by omega) (by omega)
theorem tail_ok {p : Array Nat} {n nrem : Nat} (V : ValidP N p) (h1 : 1 ≤ n) (hn : n ≤ nrem) (hz : nrem ≤ p.size) (hni : Nin r p n) : HT r N (kas_tail3 n nrem p) (fun x => ValidP N x.2 ∧ n ≤ x.1 ∧ x.1 ≤ nrem ∧ Srt r x.2 x.1) := by
  have V' := V.rev 0 n
  have hs : Srt r (kas_rev p 0 n) n := fun i j hij hj => by
    rw [ky_rev (by omega), ky_rev (by omega), if_pos (by omega), if_pos (by omega)]
    exact hni _ _ (Nat.sub_le_sub_left hij _) (om_mir h1)
  refine HT.bind (HT.mono ?_ (asc_ok V' (nrem - n) n h1 (by rw [V'.size, ← V.size]; omega) hs))
  rintro m ⟨a, b, c, d⟩
  exact ⟨V', a, om_fill hn b, c⟩
theorem descPart_ok {p : Array Nat} {n nrem : Nat} (V : ValidP N p) (h1 : 1 ≤ n) (hn : n + 1 ≤ nrem) (hz : nrem ≤ p.size) (hni : Nin r p (n + 1)) : HT r N (kas_descPart n nrem p) (fun x => ValidP N x.2 ∧ 1 ≤ x.1 ∧ x.1 ≤ nrem ∧ Srt r x.2 x.1) := by
  refine HT.bind (HT.mono ?_ (desc_ok (nrem - (n + 1)) p (n + 1) 0 V (by omega) (by omega) hni (eqr_one p n)))
  rintro ⟨p', n', q'⟩ ⟨V', a, b, c, d, e⟩
  dsimp only at *
  have z : p'.size = p.size := by rw [V'.size, V.size]
  split
  · refine HT.mono ?_ (tail_ok (V'.rev _ _) (by omega) (by omega) (by rw [(V'.rev _ _).size, ← V.size]; omega) fun i j hij hj => ?_)
    · rintro x ⟨a, b, c, d⟩; exact ⟨a, by omega, c, d⟩
    · rw [rev_eq (by omega) e c, rev_eq (by omega) e c]; exact d i j hij hj
  · refine HT.mono ?_ (tail_ok V' (by omega) (by omega) (by omega) d)
    rintro x ⟨a, b, c, d⟩; exact ⟨a, by omega, c, d⟩
theorem count_ok {p : Array Nat} {nrem : Nat} (V : ValidP N p) (h1 : 1 ≤ nrem) (hz : nrem ≤ p.size) : HT r N (kas_count nrem p) (fun x => ValidP N x.2 ∧ 1 ≤ x.1 ∧ x.1 ≤ nrem ∧ Srt r x.2 x.1) := by
  have s1 : Srt r p 1 := fun i j a b => Nat.le_of_eq (by rw [show i = j by omega])
  refine HT.bind (HT.mono ?_ (asc_ok V (nrem - 1) 1 (Nat.le_refl _) (by omega) s1))
  rintro n ⟨a, b, c, d⟩
  split
  · exact ⟨V, a, om_fill h1 b, c⟩
  · rename_i hne
    have hne : n ≠ nrem := by simpa using hne
    have hnr : n ≤ nrem := om_fill h1 b
    have hlt : n < nrem := Nat.lt_of_le_of_ne hnr hne
    have dn := d (by rw [Nat.add_sub_cancel' h1]; exact hlt)
    split
    · rename_i hgt
      refine ⟨V.lt (Nat.lt_of_lt_of_le h1 hz), V.lt (Nat.lt_of_lt_of_le (om_pred a) (Nat.le_trans hnr hz)), ?_⟩
      show HT r N (if decide (ky r p 0 < ky r p (n - 1)) = true then _ else _) _
      by_cases e : ky r p 0 < ky r p (n - 1)
      · rw [if_pos (decide_eq_true e)]; exact ⟨V, a, hnr, c⟩
      · rw [if_neg (by simpa using e)]
        have V' := V.rev 0 n
        have eqs : ∀ k, k < n → ky r p k = ky r p 0 := fun k hk => by
          have := c 0 k (Nat.zero_le _) hk
          have := c k (n - 1) (by omega) (by omega)
          omega
        refine descPart_ok V' a hlt (by rw [V'.size, ← V.size]; exact hz) fun i j hij hj => ?_
        have key : ∀ k, k < n → ky r (kas_rev p 0 n) k = ky r p 0 := fun k hk => by rw [ky_rev (by omega), if_pos (by omega)]; exact eqs _ (om_mir a)
        by_cases ej : j = n
        · subst ej
          by_cases ei : i = j
          · rw [ei]; exact Nat.le_refl _
          · rw [key i (by omega), ky_rev (by omega), if_neg (by omega)]
            have := eqs (j - 1) (by omega); omega
        · rw [key i (by omega), key j (by omega)]; exact Nat.le_refl _
    · have : n = 1 := by omega
      subst this
      refine descPart_ok V (Nat.le_refl _) (by omega) hz fun i j hij hj => ?_
      by_cases ej : j = 0
      · have : i = 0 := by omega
        rw [ej, this]; exact Nat.le_refl _
      · have : j = 1 := by omega
        subst this
        by_cases ei : i = 1
        · rw [ei]; exact Nat.le_refl _
        · have : i = 0 := by omega
          rw [this]; exact Nat.le_of_lt dn
theorem place_ok {p : Array Nat} {k : Nat} (V : ValidP N p) (hk : k < p.size) (hs : Srt r p k) : ∀ (f l h : Nat), l ≤ h → h ≤ k → h - l ≤ f → (∀ i, i < l → ky r p i ≤ ky r p k) → (∀ i, h ≤ i → i < k → ky r p k < ky r p i) →
    HT r N (kas_place p k f l h) (fun x => x ≤ k ∧ (∀ i, i < x → ky r p i ≤ ky r p k) ∧ ∀ i, x ≤ i → i < k → ky r p k < ky r p i)
  | 0, l, h, hl, hh, hf, a, b => ⟨by omega, a, fun i h1 h2 => b i (by omega) h2⟩
  | f + 1, l, h, hl, hh, hf, a, b => by
    show HT r N (if l ≥ h then _ else _) _
    by_cases e : l ≥ h
    · rw [if_pos e]; exact ⟨by omega, a, fun i h1 h2 => b i (by omega) h2⟩
    · rw [if_neg e]
      have hm := om_midL (Nat.lt_of_not_le e)
      have hmk := Nat.lt_of_lt_of_le hm.2 hh
      refine ⟨V.lt hk, V.lt (Nat.lt_trans hmk hk), ?_⟩
      show HT r N (if decide (ky r p k < ky r p ((l + h) / 2)) = true then _ else _) _
      by_cases e2 : ky r p k < ky r p ((l + h) / 2)
      · rw [if_pos (decide_eq_true e2)]
        exact place_ok V hk hs f l ((l + h) / 2) hm.1 (Nat.le_of_lt hmk) (Nat.le_of_lt_succ (Nat.lt_of_lt_of_le (Nat.sub_lt_sub_right hm.1 hm.2) hf)) a fun i h1 h2 => Nat.lt_of_lt_of_le e2 (hs _ _ h1 h2)
      · rw [if_neg (by simpa using e2)]
        exact place_ok V hk hs f ((l + h) / 2 + 1) h hm.2 hh (om_fuel hf (Nat.lt_succ_of_le hm.1)) (fun i hi => Nat.le_trans (hs i ((l + h) / 2) (Nat.le_of_lt_succ hi) hmk) (Nat.not_lt.mp e2)) b
theorem bin_ok : ∀ (f : Nat) (p : Array Nat) (k : Nat), ValidP N p → k + f ≤ p.size → Srt r p k → HT r N (kas_bin f p k) (fun x => ValidP N x ∧ Srt r x (k + f))
  | 0, p, k, V, hz, hs => ⟨V, hs⟩
  | f + 1, p, k, V, hz, hs => by
    refine HT.bind (HT.mono ?_ (place_ok V (by omega) hs k 0 k (Nat.zero_le _) (Nat.le_refl _) (by omega) (fun i hi => absurd hi (Nat.not_lt_zero _)) fun i a b => by omega))
    rintro l ⟨hl, a, b⟩
    have V' := V.bub k (k - l)
    refine HT.mono ?_ (bin_ok f (bubble p k (k - l)) (k + 1) V' (by rw [V'.size, ← V.size]; omega) fun i j hij hj => ?_)
    · rintro x ⟨c, d⟩; exact ⟨c, by rw [show k + (f + 1) = k + 1 + f by omega]; exact d⟩
    · have hk : k < p.size := by omega
      rw [ky_bub hk hl, ky_bub hk hl]
      by_cases ei : i = l
      · rw [if_pos ei]
        by_cases ej : j = l
        · rw [if_pos ej]; exact Nat.le_refl _
        · rw [if_neg ej, if_pos (by omega)]; exact Nat.le_of_lt (b _ (by omega) (by omega))
      · rw [if_neg ei]
        by_cases ej : j = l
        · rw [if_pos ej, if_neg (by omega)]; exact a i (by omega)
        · rw [if_neg ej]
          by_cases e1 : l < i ∧ i ≤ k
          · have hlj : l < j := Nat.lt_of_lt_of_le e1.1 hij
            rw [if_pos e1, if_pos ⟨hlj, Nat.le_of_lt_succ hj⟩]; exact hs _ _ (Nat.sub_le_sub_right hij 1) (Nat.sub_one_lt_of_le (Nat.zero_lt_of_lt hlj) (Nat.le_of_lt_succ hj))
          · rw [if_neg e1]
            by_cases e2 : l < j ∧ j ≤ k
            · rw [if_pos e2]; exact hs _ _ (Nat.le_pred_of_lt (Nat.lt_of_le_of_ne hij (fun q => e1 (q ▸ e2)))) (Nat.sub_one_lt_of_le (Nat.zero_lt_of_lt e2.1) e2.2)
            · rw [if_neg e2]; exact hs _ _ hij (by omega)
theorem sort_ok (h2 : 2 ≤ N) : HT r N (kas_sort N) (fun p => ValidP N p ∧ Srt r p N) := by
  have V : ValidP N (List.toArray (List.range N)) := Array.Perm.refl _
  refine HT.bind (HT.mono ?_ (count_ok V (by omega) (by simp)))
  rintro ⟨n, p⟩ ⟨V', a, b, c⟩
  dsimp only at *
  split
  · have e : max n 1 = n := by omega
    rw [e]
    refine HT.mono ?_ (bin_ok (N - n) p n V' (by rw [V'.size]; omega) c)
    rintro x ⟨d, e⟩; exact ⟨d, by rw [show N = n + (N - n) by omega]; exact e⟩
  · have : n = N := by omega
    rw [this] at c; exact ⟨V', c⟩
end
end Oh

-- OhY
namespace Oh
open PySem PySem.W PyProof.Rows PySem.SeqAt PySem.Calls PySem.MeetsSeq

/-! ### sorted -/
section
variable {prog : Program} {w : World} {A : Around} {E : Value → Shared → Prop} {s : Shared} {M : List Addr}

theorem sorted_short {l : Addr} {vs : List Value} {Q : Value → Shared → Prop} (hl : s.heap.IsList l vs.toArray) (h2 : vs.length < 2)
    (k : ∀ D c h', (∀ b o, s.heap.get? b = some o → h'.get? b = some o) → s.heap.get? D = none → h'.get? D = some (listOf vs.toArray c) → Q (.ref D) { s with heap := h' }) :
    wpAny (model prog w) A (call (.builtin "sorted") [.ref l]) Q E s := by
  refine Calls.call_function_entry kind_sorted plain_sorted entry_sorted (args_sorted1 _) ?_
  unfold Builtin.«sorted»
  refine wpAny_bind (m := checkCount "sorted" 1 1 _) (wpAny_pure ?_)
  refine wpAny_bind (collect_list hl ?_ (by rw [sizeLine_eq]; omega))
  refine wpAny_bind (wpAny_newList ?_ (by rw [sizeLine_eq]; omega))
  have hsz : ((s.heap.push (seqObj "list" #[] 0)).update s.heap.objs.size (Obj.mapSeq (· ++ vs.toArray))).objs.size = s.heap.objs.size + 1 := by
    rw [Heap.size_update, size_push']
  have hoL : (((s.heap.push (seqObj "list" #[] 0)).update s.heap.objs.size (Obj.mapSeq (· ++ vs.toArray))).push (seqObj "list" vs.toArray 0)).get? (s.heap.objs.size + 1) = some (seqObj "list" vs.toArray 0) := by
    rw [← hsz]; exact Heap.get?_push_size _ rfl
  have keep : ∀ b o, s.heap.get? b = some o → (((s.heap.push (seqObj "list" #[] 0)).update s.heap.objs.size (Obj.mapSeq (· ++ vs.toArray))).push (seqObj "list" vs.toArray 0)).get? b = some o := fun b o q => by
    have hlt : b < s.heap.objs.size := Heap.lt_size q
    rw [Heap.get?_push_ne _ _ _ (by rw [hsz]; exact Nat.ne_of_lt (Nat.lt_succ_of_lt hlt)), Heap.get?_update_ne _ _ _ _ (Nat.ne_of_lt hlt), Heap.get?_push_ne _ _ _ (Nat.ne_of_lt hlt)]
    exact q
  have hlt : ∀ b o, s.heap.get? b = some o → b ≠ s.heap.objs.size + 1 := fun b o q => Nat.ne_of_lt (Nat.lt_succ_of_lt (Heap.lt_size q))
  have hnone : s.heap.get? (s.heap.objs.size + 1) = none := Heap.get?_none_of_le (Nat.le_succ _)
  show wpAny _ _ _ _ _ { s with heap := ((s.heap.push (seqObj "list" #[] 0)).update s.heap.objs.size (Obj.mapSeq (· ++ vs.toArray))).push (seqObj "list" vs.toArray 0) }
  rw [hsz]
  generalize ((s.heap.push (seqObj "list" #[] 0)).update s.heap.objs.size (Obj.mapSeq (· ++ vs.toArray))).push (seqObj "list" vs.toArray 0) = H at hoL keep ⊢
  generalize s.heap.objs.size + 1 = a at *
  refine wpAny_bind (wpAny_holding (wpAny_call_entry slot_list_sort ⟨_, hoL, rfl⟩ entry_list_sort ?body (args_list_sort _)))
  case body =>
    have s1 := Heap.SameBut.update H a (Obj.mapSeq fun _ => (#[] : Array Value))
    obtain ⟨e1, ho1⟩ : ∃ e1, (H.update a (Obj.mapSeq fun _ => (#[] : Array Value))).get? a = some (seqObj "list" #[] e1) := ⟨_, get?_update_seq hoL fun _ => #[]⟩
    rw [list_sort_plain]
    refine wpAny_bind (listItems_at hoL rfl ?_)
    refine wpAny_bind (listUpdate_at hoL rfl ?_ (by rw [List.size_toArray, sizeLine_eq]; omega) (Nat.zero_le _))
    refine wpAny_bind (seqEpoch_at ho1 rfl ?_)
    refine wpAny_bind (wpAny_newTuple ?_ (by show vs.length ≤ _; rw [sizeLine_eq]; omega))
    refine wpAny_bind (wpAny_newList ?_ (Nat.zero_le _))
    refine wpAny_holding ?_
    show wpAny (model prog w) _ _ _ _ { s with heap := ((H.update a (Obj.mapSeq fun _ => (#[] : Array Value))).push (seqObj "tuple" vs.toArray 0)).push (seqObj "list" #[] 0) }
    dsimp only
    have ho6 : (((H.update a (Obj.mapSeq fun _ => (#[] : Array Value))).push (seqObj "tuple" vs.toArray 0)).push (seqObj "list" #[] 0)).get? a = some (seqObj "list" #[] e1) := Heap.get?_push_of_some _ (Heap.get?_push_of_some _ ho1)
    have hn2 : vs.toArray.size < 2 := by rw [List.size_toArray]; exact h2
    rw [if_pos hn2, if_pos hn2]
    refine wpAny_bind (wpAny_pure ?_)
    rw [StateT.run_pure]
    refine wpAny_bind (wpAny_pure ?_)
    dsimp only
    refine wpAny_bind (seqEpoch_at ho6 rfl ?_)
    have hout : ((vs.toArray.zip vs.toArray).map (·.2)) = vs.toArray := by
      apply Array.ext'
      rw [Array.toList_map, Array.toList_zip]; exact List.map_snd_zip (Nat.le_refl _)
    have hz : ((vs.toArray.zip vs.toArray).map (fun x : Value × Value => x.2)).size ≤ sizeLine + 1 := by rw [hout, List.size_toArray, sizeLine_eq]; omega
    refine wpAny_bind (listUpdate_at ho6 rfl ?_ (Nat.zero_le _) hz)
    have s2 := Heap.SameBut.update (((H.update a (Obj.mapSeq fun _ => (#[] : Array Value))).push (seqObj "tuple" vs.toArray 0)).push (seqObj "list" #[] 0)) a (Obj.mapSeq fun _ => (vs.toArray.zip vs.toArray).map (fun x : Value × Value => x.2))
    obtain ⟨c2, hc2⟩ : ∃ c2, ((((H.update a (Obj.mapSeq fun _ => (#[] : Array Value))).push (seqObj "tuple" vs.toArray 0)).push (seqObj "list" #[] 0)).update a (Obj.mapSeq fun _ => (vs.toArray.zip vs.toArray).map (fun x : Value × Value => x.2))).get? a = some (seqObj "list" ((vs.toArray.zip vs.toArray).map (fun x : Value × Value => x.2)) c2) := ⟨_, get?_update_seq ho6 fun _ => _⟩
    simp only [bne_self_eq_false, Bool.false_eq_true, if_false]
    refine wpAny_pure ⟨_, rfl, wpAny_pure ⟨_, rfl, k a c2 _ (fun b o q => ?_) hnone (by rw [hout] at hc2 ⊢; exact hc2)⟩⟩
    have h1 := keep b o q
    have hne := hlt b o q
    exact s2.extBut b o hne (Heap.get?_push_of_some _ (Heap.get?_push_of_some _ (s1.extBut b o hne h1)))

theorem lt_lists {x y : Value} {xs ys : List PyData} {Q : Bool → Shared → Prop} (hu : A.units + 65 < cLine) (rx : Rep M s.heap x (.list xs)) (ry : Rep M s.heap y (.list ys)) (hc : cmpOk (.list xs) (.list ys) = true) (hd : (PyData.list xs).depth ≤ 64)
    (h : Q (pyC false (.list xs) (.list ys)) s) : wpAny (model prog w) A (keyLt' oneType' x y) Q E s := by
  rw [keyLt'_oneType, oneLt'_eq]
  simp only [if_true]
  refine wpAny_bind (wpAny_cRoomFor (by omega) ?_)
  have hu' : A.units + min (PyData.list xs).depth (PyData.list ys).depth < cLine := by have := Nat.min_le_left (PyData.list xs).depth (PyData.list ys).depth; omega
  obtain ⟨as, ra⟩ := rx.reads
  obtain ⟨bs, rb⟩ := ry.reads
  have ha := rx.lay
  have hb := ry.lay
  cases ra with
  | @list l o vs n _ as₁ h1 h2 h3 h4 =>
    cases rb with
    | @list l' o' vs' n' _ bs₁ k1 k2 k3 k4 =>
      have n1 : vs.size = xs.length := by simpa using ReadsAll.length _ _ _ h4
      have n2 : vs'.size = ys.length := by simpa using ReadsAll.length _ _ _ k4
      have key := cmAt_readsAll false xs ys A.in1 s vs.toList vs'.toList _ _ h4 k4 ha hb (by simpa [cmpOk] using hc) (room_in hu')
      have keyE := eqAt_readsAll xs ys A.in1 s vs.toList vs'.toList _ _ h4 k4 ha hb (room_in hu')
      refine wpAny_bind (wpAny_callSpecialIfBound?_slot ⟨_, h1, h2⟩ F.slot_list_lt ?_)
      obtain ⟨cls, dd, data, sl⟩ := o
      obtain ⟨cls2, dd2, data2, sl2⟩ := o'
      simp only at h2 h3 k2 k3
      subst h2 h3 k2 k3
      refine call_meets F.slot_list_lt ⟨_, h1, rfl⟩ F.entry_list_lt (F.args_list_lt_2 _ _) (list_ltAt l l' vs vs' n n' dd dd2 sl sl2 (pairEq xs ys) (fun j => pyC false (xs.getD j .none) (ys.getD j .none)) (fun i => pyCs false (xs.drop i) (ys.drop i)) (fun i b1 b2 hi => ?_) (fun i i1 i2 => pyCs_drop false xs ys i (by omega) (by omega)))
        ⟨h1, k1, (fun j j1 j2 => ⟨by have := keyE j (by simpa using j1) (by simpa using j2); simpa using this, fun q1 q2 => by have := key j (by simpa using j1) (by simpa using j2) q1 q2; simpa using this⟩), ?_⟩
      · rw [n1, n2] at *
        rw [pyCs_nil_iff false _ _ (hi.imp (fun q => List.drop_of_length_le q) (fun q => List.drop_of_length_le q))]
        have e2 : (List.drop i xs).length < (List.drop i ys).length ↔ xs.length < ys.length := by simp; omega
        simp only [e2]; simp
      · exact wpAny_truthy_bool (by simpa [pyC] using h)
theorem lt_tup3 {x y : Value} {a b a' b' : Int} {c c' : Str} {Q : Bool → Shared → Prop} (rx : Rep M s.heap x (.tuple [.int a, .int b, .str c])) (ry : Rep M s.heap y (.tuple [.int a', .int b', .str c']))
    (h : Q (pyC false (.tuple [.int a, .int b, .str c]) (.tuple [.int a', .int b', .str c'])) s) : wpAny (model prog w) A (keyLt' (tuples' true) x y) Q E s := by
  cases rx with
  | @tuple X vs _ hX tx qx =>
    cases ry with
    | @tuple Y ws _ hY ty qy =>
      obtain ⟨ox, hox, _, nx, hdx⟩ := tx
      obtain ⟨oy, hoy, _, ny, hdy⟩ := ty
      cases qx with | cons r1 qx => ?_
      cases qx with | cons r2 qx => ?_
      cases qx with | cons r3 qx => ?_
      cases qx
      cases qy with | cons t1 qy => ?_
      cases qy with | cons t2 qy => ?_
      cases qy with | cons t3 qy => ?_
      cases qy
      obtain ⟨u1, rfl⟩ := r1.int'
      obtain ⟨u2, rfl⟩ := r2.int'
      obtain ⟨u3, rfl, _⟩ := r3.o.str
      obtain ⟨w1, rfl⟩ := t1.int'
      obtain ⟨w2, rfl⟩ := t2.int'
      obtain ⟨w3, rfl, _⟩ := t3.o.str
      refine kat_lt hox hdx hoy hdy ?_
      refine kat_cons (EqAt.int_int a u1 a' w1 _ _ _ _ ?_)
      by_cases e1 : a = a'
      · subst e1
        rw [beq_self_eq_true]
        refine kat_yes (kat_cons (EqAt.int_int b u2 b' w2 _ _ _ _ ?_))
        by_cases e2 : b = b'
        · subst e2
          rw [beq_self_eq_true]
          refine kat_yes (kat_cons (eqBool_str ?_))
          by_cases e3 : c = c'
          · subst e3
            rw [beq_self_eq_true]
            refine kat_yes (kat_nil ?_)
            simpa [pyC, pyCs, PyData.eqv] using h
          · have q3 : (c == c') = false := by simpa using e3
            rw [q3]
            refine kat_no (kat_one _ _ (PyProof.Rows.lt_str ?_))
            show Q _ s
            simpa [pyC, pyCs, PyData.eqv, q3, e3] using h
        · have q2 : (b == b') = false := by simpa using e2
          rw [q2]
          refine kat_no (kat_one _ _ (lt_int ?_))
          show Q _ s
          simpa [pyC, pyCs, PyData.eqv, e2] using h
      · have q1 : (a == a') = false := by simpa using e1
        rw [q1]
        refine kat_no (oneLt_int ?_)
        simpa [pyC, pyCs, PyData.eqv, e1] using h
end
end Oh

-- OhT
namespace Oh
open PySem PySem.W PyProof.Rows PySem.SeqAt PySem.Calls

noncomputable abbrev KF (P : Params) : Frag := hd.heap_39 P
/-- the def at a place of the heap -/
noncomputable def fdOf (P : Params) (a : Addr) : FuncData := match (KF P).lookup a with | some ⟨_, _, .func fd, _⟩ => fd | _ => default
noncomputable def bodyOf (P : Params) (a : Addr) : List Stmt := match (fdOf P a).body with | .stmts b => b | _ => []

/-! ## heapq: the plain functions -/
noncomputable def sdF (lt : PyData → PyData → Bool) : Nat → List PyData → Nat → Nat → PyData → List PyData
  | 0, es, _, p, x => es.set p x
  | f + 1, es, s, p, x => if s < p then (match es[(p - 1) / 2]? with | some y => if lt x y then sdF lt f (es.set p y) s ((p - 1) / 2) x else es.set p x | none => es.set p x) else es.set p x

/-- items that may be compared -/
noncomputable def Gd (es : List PyData) : Prop := (∀ a ∈ es, ∀ b ∈ es, cmpOk a b = true) ∧ ∀ a ∈ es, a.depth ≤ 64

theorem Gd.cons {es : List PyData} {x : PyData} (h : Gd es) (hx : x ∈ es) : Gd (x :: es) := by
  have key : ∀ a ∈ x :: es, a ∈ es := fun a ha => (List.mem_cons.mp ha).elim (fun e => e ▸ hx) id
  exact ⟨fun a ha b hb => h.1 a (key a ha) b (key b hb), fun a ha => h.2 a (key a ha)⟩
theorem Gd.sub {es fs : List PyData} (h : Gd es) (hs : ∀ a ∈ fs, a ∈ es) : Gd fs := ⟨fun a ha b hb => h.1 a (hs a ha) b (hs b hb), fun a ha => h.2 a (hs a ha)⟩
theorem Gd.set {es : List PyData} {x y : PyData} {q : Nat} (h : Gd (x :: es)) (hy : y ∈ es) : Gd (x :: es.set q y) :=
  h.sub fun a ha => (List.mem_cons.mp ha).elim (fun e => e ▸ List.mem_cons_self ..) fun ha => List.mem_cons_of_mem _ ((List.mem_or_eq_of_mem_set ha).elim id fun e => e ▸ hy)
theorem seqIndex_nonneg {k : Int} {n : Nat} (h0 : 0 ≤ k) (h1 : k < n) : seqIndex? k n = some k.toNat := by
  unfold seqIndex?
  have h2 : ¬ k < 0 := Int.not_lt.mpr h0
  simp only [h2, if_false]
  rw [if_pos (by simp only [Bool.and_eq_true, decide_eq_true_eq]; omega)]

section
variable {prog : Program} {w : World} {hb : Heap}

theorem siftdown_ok (B : BaseOk (KF w.params) hb) : FnIO prog w hb 1 76 (fun es ds d es' => ∃ (s p : Nat) (x : PyData), ds = [.int s, .int p] ∧ d = .none ∧ es[p]? = some x ∧ Gd es ∧ es.length < 2 ^ 20 ∧ s < 2 ^ 20 ∧ es' = sdF (pyC false) p es s p x) := by
  intro A s M a ws vs es ds d es' hP R hk0 hab hM haM l r0 rv Q E k
  obtain ⟨st, p, x, rfl, rfl, hx, hgd, hz, hst, rfl⟩ := hP
  cases rv with | cons r1 rv => ?_
  cases rv with | cons r2 rv => ?_
  cases rv
  have hpl : p < es.length := by
    rcases Nat.lt_or_ge p es.length with q | q
    · exact q
    · rw [List.getElem?_eq_none q] at hx; cases hx
  refine enter (I := [a]) (fd := fdOf w.params 76) (body := bodyOf w.params 76) (ρ := [("heap", .own a es), ("startpos", .frz (.int st)), ("pos", .frz (.int p))]) B hk0 R.depth rfl rfl rfl rfl rfl rfl rfl ?_ hM ?_ ?_ ?_
  · intro b hb'; simp at hb'; rw [hb']; exact hab
  · intro y sl hy
    have hy := lookup_mem hy
    simp only [List.mem_cons, Prod.mk.injEq, List.not_mem_nil, or_false] at hy
    rcases hy with ⟨rfl, rfl⟩ | ⟨rfl, rfl⟩ | ⟨rfl, rfl⟩
    · exact ⟨_, fun L => rfl, rfl, haM, .inl (List.mem_cons_self ..), ws, l, r0⟩
    · exact ⟨_, fun L => rfl, _, rfl, r1⟩
    · exact ⟨_, fun L => rfl, _, rfl, r2⟩
  · intro y z b cs fs h1 h2
    have h1 := lookup_mem h1
    have h2 := lookup_mem h2
    simp only [List.mem_cons, Prod.mk.injEq, List.not_mem_nil, or_false, reduceCtorEq, and_false] at h1 h2
    rw [h1.1, h2.1]
  intro L h₁ tk Mc hMc hMn S
  have R' : Rm 0 (A.deeper (envF (fdOf w.params 76) 76 L)) := R.deeper _
  refine x_assign (x := "newitem") S (PE.x (pe_idxL (d := x) (po_own rfl rfl) (PE.po (pe_name rfl rfl)) (by omega) (by simpa using hx) (by omega) rfl)) rfl fun h tk S => ?_
  refine x_while (J := fun n ρ => ∃ (cs : List PyData) (q : Nat), Ow ρ "heap" a cs ∧ Fz ρ "pos" (.int q) ∧ Fz ρ "startpos" (.int st) ∧ Fz ρ "newitem" x ∧
      q ≤ n ∧ q < cs.length ∧ cs.length < 2 ^ 20 ∧ Gd (x :: cs) ∧ sdF (pyC false) n cs st q x = sdF (pyC false) p es st p x)
    (Z := fun ρ => ∃ (cs : List PyData) (q : Nat), Ow ρ "heap" a cs ∧ Fz ρ "pos" (.int q) ∧ Fz ρ "newitem" x ∧ q < cs.length ∧ cs.length < 2 ^ 20 ∧ cs.set q x = sdF (pyC false) p es st p x)
    p S ?_ ?_ ?_
  · exact ⟨es, p, rfl, rfl, rfl, rfl, Nat.le_refl _, hpl, hz, hgd.cons (List.mem_of_getElem? hx), rfl⟩
  · rintro n ρ ⟨cs, q, h1, h2, h3, h4, hqn, hq, hcz, hg, he⟩
    refine ⟨decide (st < q), PT.cast (pt_cmp (PE.po (pe_name rfl h2)) (PE.po (pe_name rfl h3)) rfl (fun s u v Q E ru rv h => cm_gt R'.units' (by simp [PyData.depth]) rfl ru rv h)) (by simp [pyC]), ?_, ?_⟩
    · intro hb
      have hb : ¬ st < q := by simpa using hb
      refine ⟨cs, q, h1, h2, h4, hq, hcz, ?_⟩
      rw [← he]; cases n <;> simp [sdF, hb]
    · intro hb h tk E' Q' kk S
      have hb : st < q := by simpa using hb
      obtain ⟨n, rfl⟩ : ∃ m, n = m + 1 := ⟨n - 1, by omega⟩
      have hpar : ((q : Int) - 1).fdiv (2 ^ (1 : Int).toNat) = (((q - 1) / 2 : Nat) : Int) := by
        have e1 : (q : Int) - 1 = ((q - 1 : Nat) : Int) := by omega
        rw [e1]
        show ((q - 1 : Nat) : Int).fdiv 2 = _
        rw [Int.fdiv_eq_ediv_of_nonneg _ (by omega)]; omega
      have h0 : 0 < q := Nat.zero_lt_of_lt hb
      have hup : (q - 1) / 2 < cs.length := om_up2 h0 hq
      obtain ⟨y, hy⟩ : ∃ y, cs[(q - 1) / 2]? = some y := ⟨cs[(q - 1) / 2]'hup, List.getElem?_eq_getElem hup⟩
      have hym : y ∈ cs := List.mem_of_getElem? hy
      refine x_assign (x := "parentpos") S (PE.x (PE.cast (pe_shrI (PE.po (pe_subI (PE.po (pe_name rfl h2)) (PE.po pe_int))) (PE.po pe_int) (by decide)) (congrArg PyData.int hpar))) rfl fun h tk S => ?_
      refine x_assign (x := "parent") S (PE.x (pe_idxL (d := y) (po_own rfl h1) (PE.po (pe_name rfl rfl)) (by omega) (by rw [Int.toNat_natCast]; exact hy) (by omega) rfl)) rfl fun h tk S => ?_
      refine x_if (b := pyC false x y) S (pt_cmp (PE.po (pe_name rfl h4)) (PE.po (pe_name rfl rfl)) rfl (fun s u v Q E ru rv h => cm_lt R'.units' (hg.2 x (List.mem_cons_self ..)) (hg.1 x (List.mem_cons_self ..) y (List.mem_cons_of_mem _ hym)) ru rv h)) fun h tk S => ?_
      cases hlt : pyC false x y with
      | true =>
        refine x_setitem (x := "heap") (j := q) S rfl h1 (pe_name rfl rfl) (PE.po (pe_name rfl h2)) (by omega) (by omega) (seqIndex_nonneg (by omega) (by omega)) hq fun h tk S => ?_
        refine x_assign (x := "pos") S (PE.x (pe_name rfl rfl)) rfl fun h tk S => x_continue ?_
        refine kk _ h tk _ S (.inl ⟨.inr rfl, n, Nat.lt_succ_self n, cs.set q y, (q - 1) / 2, rfl, rfl, h3, h4, Nat.le_of_lt_succ (Nat.lt_of_lt_of_le (om_up h0) hqn), by rw [List.length_set]; exact hup, by simpa using hcz, hg.set hym, ?_⟩)
        rw [← he]; simp [sdF, hb, hy, hlt]
      | false =>
        refine x_nil (x_break ?_)
        refine kk _ h tk _ S (.inr ⟨rfl, cs, q, h1, h2, h4, hq, hcz, ?_⟩)
        rw [← he]; simp [sdF, hb, hy, hlt]
  · rintro ρ h tk ⟨cs, q, h1, h2, h4, hq, hcz, he⟩ S
    refine x_setitem (x := "heap") (j := q) S rfl h1 (pe_name rfl h4) (PE.po (pe_name rfl h2)) (by omega) (by omega) (seqIndex_nonneg (by omega) (by omega)) hq fun h tk S => x_nil ?_
    obtain ⟨m, _, sok⟩ := S.names
    obtain ⟨_, _, _, ws', l', r'⟩ := sok "heap" _ rfl
    rw [he] at r'
    exact k _ h tk ws' S.kg l' (r'.sub hMc) .none
end

/-- the body of the loop that is statement i -/
noncomputable def loopBody (b : List Stmt) (i : Nat) : List Stmt := match b[i]? with | some (.While _ b _ _) => b | some (.For _ _ b _ _) => b | _ => []

/-- down to a leaf, the smaller child up each time -/
noncomputable def suLoop (lt : PyData → PyData → Bool) : Nat → List PyData → Nat → List PyData × Nat
  | 0, es, p => (es, p)
  | f + 1, es, p => if 2 * p + 1 < es.length then
      suLoop lt f (es.set p (es.getD (if 2 * p + 2 < es.length ∧ lt (es.getD (2 * p + 1) .none) (es.getD (2 * p + 2) .none) = false then 2 * p + 2 else 2 * p + 1) .none))
        (if 2 * p + 2 < es.length ∧ lt (es.getD (2 * p + 1) .none) (es.getD (2 * p + 2) .none) = false then 2 * p + 2 else 2 * p + 1)
    else (es, p)
noncomputable def suF (lt : PyData → PyData → Bool) (es : List PyData) (p : Nat) : List PyData :=
  sdF lt (suLoop lt es.length es p).2 ((suLoop lt es.length es p).1.set (suLoop lt es.length es p).2 (es.getD p .none)) p (suLoop lt es.length es p).2 (es.getD p .none)

theorem getD_some {es : List PyData} {p : Nat} (h : p < es.length) : es[p]? = some (es.getD p .none) := by simp [h]
theorem getD_mem {es : List PyData} {p : Nat} (h : p < es.length) : es.getD p .none ∈ es := List.mem_of_getElem? (getD_some h)

section
variable {prog : Program} {w : World} {hb : Heap}
theorem siftup_ok (B : BaseOk (KF w.params) hb) : FnIO prog w hb 2 83 (fun es ds d es' => ∃ (p : Nat), ds = [.int p] ∧ d = .none ∧ p < es.length ∧ Gd es ∧ es.length < 2 ^ 20 ∧ es' = suF (pyC false) es p) := by
  intro A s M a ws vs es ds d es' hP R hk0 hab hM haM l r0 rv Q E k
  obtain ⟨p, rfl, rfl, hpl, hgd, hz, rfl⟩ := hP
  cases rv with | cons r1 rv => ?_
  cases rv
  refine enter (I := [a]) (fd := fdOf w.params 83) (body := bodyOf w.params 83) (ρ := [("heap", .own a es), ("pos", .frz (.int p))]) B hk0 R.depth rfl rfl rfl rfl rfl rfl rfl ?_ hM ?_ ?_ ?_
  · intro b hb'; simp at hb'; rw [hb']; exact hab
  · intro y sl hy
    have hy := lookup_mem hy
    simp only [List.mem_cons, Prod.mk.injEq, List.not_mem_nil, or_false] at hy
    rcases hy with ⟨rfl, rfl⟩ | ⟨rfl, rfl⟩
    · exact ⟨_, fun L => rfl, rfl, haM, .inl (List.mem_cons_self ..), ws, l, r0⟩
    · exact ⟨_, fun L => rfl, _, rfl, r1⟩
  · intro y z b cs fs h1 h2
    have h1 := lookup_mem h1
    have h2 := lookup_mem h2
    simp only [List.mem_cons, Prod.mk.injEq, List.not_mem_nil, or_false, reduceCtorEq, and_false] at h1 h2
    rw [h1.1, h2.1]
  intro L h₁ tk Mc hMc hMn S
  have R' : Rm 1 (A.deeper (envF (fdOf w.params 83) 83 L)) := R.deeper _
  have hx := getD_some hpl
  have hxm := getD_mem hpl
  generalize hxe : es.getD p .none = x at *
  refine x_assign (x := "endpos") S (PE.x (pe_lenL B rfl rfl rfl (by decide) (po_own rfl rfl) (by omega))) rfl fun h tk S => ?_
  refine x_assign (x := "startpos") S (PE.x (pe_name rfl rfl)) rfl fun h tk S => ?_
  refine x_assign (x := "newitem") S (PE.x (pe_idxL (d := x) (po_own rfl rfl) (PE.po (pe_name rfl rfl)) (by omega) (by simpa using hx) (by omega) rfl)) rfl fun h tk S => ?_
  refine x_assign (x := "childpos") (d := .int ((2 * p + 1 : Nat) : Int)) S (PE.x (PE.cast (pe_addI (PE.po (pe_mulI (PE.po pe_int) (PE.po (pe_name rfl rfl)) (.of_left (by decide)))) (PE.po pe_int)) (by congr 1))) rfl fun h tk S => ?_
  refine x_while (J := fun n ρ => ∃ (cs : List PyData) (q : Nat), Ow ρ "heap" a cs ∧ Fz ρ "pos" (.int q) ∧ Fz ρ "startpos" (.int p) ∧ Fz ρ "newitem" x ∧ Fz ρ "endpos" (.int es.length) ∧ Fz ρ "childpos" (.int ((2 * q + 1 : Nat) : Int)) ∧
      n = es.length - q ∧ q < cs.length ∧ cs.length = es.length ∧ Gd (x :: cs) ∧ ∃ f, es.length - q ≤ f ∧ suLoop (pyC false) f cs q = suLoop (pyC false) es.length es p)
    (Z := fun ρ => ∃ (cs : List PyData) (q : Nat), Ow ρ "heap" a cs ∧ Fz ρ "pos" (.int q) ∧ Fz ρ "startpos" (.int p) ∧ Fz ρ "newitem" x ∧ q < cs.length ∧ cs.length = es.length ∧ Gd (x :: cs) ∧ suLoop (pyC false) es.length es p = (cs, q))
    (es.length - p) S ?_ ?_ ?_
  · exact ⟨es, p, rfl, rfl, rfl, rfl, rfl, rfl, rfl, hpl, rfl, hgd.cons hxm, _, Nat.sub_le _ _, rfl⟩
  · rintro n ρ ⟨cs, q, h1, h2, h3, h4, h5, h6, hn, hq, hcl, hg, f, hf, he⟩
    obtain ⟨f, rfl⟩ : ∃ m, f = m + 1 := ⟨f - 1, by omega⟩
    refine ⟨decide (2 * q + 1 < es.length), PT.cast (pt_cmp (PE.po (pe_name rfl h6)) (PE.po (pe_name rfl h5)) rfl (fun s u v Q E ru rv h => cm_lt R'.units' (by simp [PyData.depth]) rfl ru rv h)) (by simp only [pyC]; rw [if_neg (by decide)]; congr 1; exact propext (by omega)), ?_, ?_⟩
    · intro hbt
      have hbt : ¬ 2 * q + 1 < es.length := by simpa using hbt
      refine ⟨cs, q, h1, h2, h3, h4, hq, hcl, hg, ?_⟩
      rw [← he]; simp only [suLoop]; rw [if_neg (by rw [hcl]; exact hbt)]
    · intro hbt h tk E' Q' kk S
      have hbt : 2 * q + 1 < es.length := by simpa using hbt
      have hb1 : 2 * q + 1 < cs.length := by rw [hcl]; exact hbt
      have c1 := getD_some hb1
      have m1 := getD_mem hb1
      refine x_assign (x := "rightpos") (d := .int ((2 * q + 2 : Nat) : Int)) S (PE.x (PE.cast (pe_addI (PE.po (pe_name rfl h6)) (PE.po pe_int)) (by congr 1))) rfl fun h tk S => ?_
      generalize hc : (if 2 * q + 2 < cs.length ∧ pyC false (cs.getD (2 * q + 1) .none) (cs.getD (2 * q + 2) .none) = false then 2 * q + 2 else 2 * q + 1) = c
      have hcl' : q < c ∧ c < cs.length := by rw [← hc]; split <;> omega
      have hstep : suLoop (pyC false) (f + 1) cs q = suLoop (pyC false) f (cs.set q (cs.getD c .none)) c := by
        simp only [suLoop]; rw [if_pos hb1, hc]
      have common : ∀ (ρ₁ : Store) (h : Heap) (tk : Nat), St hb s.heap [a] Mc (envF (fdOf w.params 83) 83 L) ρ₁ h → Ow ρ₁ "heap" a cs → Fz ρ₁ "pos" (.int q) → Fz ρ₁ "startpos" (.int p) → Fz ρ₁ "newitem" x → Fz ρ₁ "endpos" (.int es.length) → Fz ρ₁ "childpos" (.int (c : Int)) →
          wpAny (model prog w) (A.deeper (envF (fdOf w.params 83) 83 L)) (execs ((loopBody (bodyOf w.params 83) 4).drop 2) (envF (fdOf w.params 83) 83 L))
            Q' E' { s with heap := h, toks := tk } := by
        intro ρ₁ h tk S g1 g2 g3 g4 g5 g6
        refine x_setitem (x := "heap") (j := q) (d := cs.getD c .none) S rfl g1 (pe_idxL (po_own rfl g1) (PE.po (pe_name rfl g6)) (by omega) (by rw [Int.toNat_natCast]; exact getD_some hcl'.2) (by omega) rfl) (PE.po (pe_name rfl g2)) (by omega) (by omega) (seqIndex_nonneg (by omega) (by omega)) hq fun h tk S => ?_
        refine x_assign (x := "pos") S (PE.x (pe_name rfl g6)) rfl fun h tk S => ?_
        refine x_assign (x := "childpos") (d := .int ((2 * c + 1 : Nat) : Int)) S (PE.x (PE.cast (pe_addI (PE.po (pe_mulI (PE.po pe_int) (PE.po (pe_name rfl rfl)) (.of_left (by decide)))) (PE.po pe_int)) (by congr 1))) rfl fun h tk S => x_nil ?_
        refine kk _ h tk _ S (.inl ⟨.inl rfl, es.length - c, om_fuel' hn hcl hcl', cs.set q (cs.getD c .none), c, rfl, rfl, g3, g4, g5, rfl, rfl, by simpa using hcl'.2, by simpa using hcl, hg.set (getD_mem hcl'.2), f, om_fuel hf hcl'.1, ?_⟩)
        rw [← he, hstep]
      by_cases hr : 2 * q + 2 < es.length
      · have hr2 : 2 * q + 2 < cs.length := by rw [hcl]; exact hr
        have c2 := getD_some hr2
        have m2 := getD_mem hr2
        cases hlt : pyC false (cs.getD (2 * q + 1) .none) (cs.getD (2 * q + 2) .none) with
        | false =>
          refine x_if (b := true) S (pt_boolop (pts_and_t (PT.cast (pt_cmp (PE.po (pe_name rfl rfl)) (PE.po (pe_name rfl h5)) rfl (fun s u v Q E ru rv h => cm_lt R'.units' (by simp [PyData.depth]) rfl ru rv h)) (by simp only [pyC]; rw [if_neg (by decide)]; exact decide_eq_true (by omega))) (pts_and_t (PT.cast (pt_not (pt_cmp (PE.po (pe_idxL (po_own rfl h1) (PE.po (pe_name rfl h6)) (by omega) (by rw [Int.toNat_natCast]; exact c1) (by omega) rfl)) (PE.po (pe_idxL (po_own rfl h1) (PE.po (pe_name rfl rfl)) (by omega) (by rw [Int.toNat_natCast]; exact c2) (by omega) rfl)) rfl (fun s u v Q E ru rv h => cm_lt R'.units' (hg.2 _ (List.mem_cons_of_mem _ m1)) (hg.1 _ (List.mem_cons_of_mem _ m1) _ (List.mem_cons_of_mem _ m2)) ru rv h))) (by rw [hlt]; rfl)) pts_and_nil))) fun h tk S => ?_
          refine x_assign (x := "childpos") S (PE.x (pe_name rfl rfl)) rfl fun h tk S => x_nil ?_
          have : c = 2 * q + 2 := by rw [← hc, if_pos ⟨hr2, hlt⟩]
          exact common _ h tk S h1 h2 h3 h4 h5 (by rw [this]; rfl)
        | true =>
          refine x_if (b := false) S (pt_boolop (pts_and_t (PT.cast (pt_cmp (PE.po (pe_name rfl rfl)) (PE.po (pe_name rfl h5)) rfl (fun s u v Q E ru rv h => cm_lt R'.units' (by simp [PyData.depth]) rfl ru rv h)) (by simp only [pyC]; rw [if_neg (by decide)]; exact decide_eq_true (by omega))) (pts_and_f (PT.cast (pt_not (pt_cmp (PE.po (pe_idxL (po_own rfl h1) (PE.po (pe_name rfl h6)) (by omega) (by rw [Int.toNat_natCast]; exact c1) (by omega) rfl)) (PE.po (pe_idxL (po_own rfl h1) (PE.po (pe_name rfl rfl)) (by omega) (by rw [Int.toNat_natCast]; exact c2) (by omega) rfl)) rfl (fun s u v Q E ru rv h => cm_lt R'.units' (hg.2 _ (List.mem_cons_of_mem _ m1)) (hg.1 _ (List.mem_cons_of_mem _ m1) _ (List.mem_cons_of_mem _ m2)) ru rv h))) (by rw [hlt]; rfl))))) fun h tk S => x_nil ?_
          have : c = 2 * q + 1 := by rw [← hc, if_neg (fun q => by rw [hlt] at q; cases q.2)]
          exact common _ h tk S h1 h2 h3 h4 h5 (by rw [this]; exact h6)
      · refine x_if (b := false) S (pt_boolop (pts_and_f (PT.cast (pt_cmp (PE.po (pe_name rfl rfl)) (PE.po (pe_name rfl h5)) rfl (fun s u v Q E ru rv h => cm_lt R'.units' (by simp [PyData.depth]) rfl ru rv h)) (by simp only [pyC]; rw [if_neg (by decide)]; exact decide_eq_false (by omega))))) fun h tk S => x_nil ?_
        have : c = 2 * q + 1 := by rw [← hc, if_neg (fun z => hr (by rw [← hcl]; exact z.1))]
        exact common _ h tk S h1 h2 h3 h4 h5 (by rw [this]; exact h6)
  · rintro ρ h tk ⟨cs, q, h1, h2, h3, h4, hq, hcl, hg, he⟩ S
    refine x_setitem (x := "heap") (j := q) S rfl h1 (pe_name rfl h4) (PE.po (pe_name rfl h2)) (by omega) (by omega) (seqIndex_nonneg (by omega) (by omega)) hq fun h tk S => ?_
    refine x_expr S (evx_call (f := "_siftdown") (x := "heap") (cs := cs.set q x) (d := .none) B (siftdown_ok B) R' rfl rfl rfl rfl rfl (pes_cons (pe_name rfl h3) (pes_cons (pe_name rfl h2) pes_nil)) ⟨p, q, x, rfl, rfl, ?_, ?_, by simpa [hcl] using hz, by omega, rfl⟩) fun h tk S => x_nil ?_
    · simp [hq]
    · exact hg.sub fun y hy => (List.mem_or_eq_of_mem_set hy).elim (List.mem_cons_of_mem _) fun e => e ▸ List.mem_cons_self ..
    obtain ⟨m, _, sok⟩ := S.names
    obtain ⟨_, _, _, ws', l', r'⟩ := sok "heap" _ rfl
    refine k _ h tk ws' S.kg l' ?_ .none
    have : suF (pyC false) es p = sdF (pyC false) q (cs.set q x) p q x := by unfold suF; rw [he, hxe]
    rw [this]
    exact r'.sub hMc
end
end Oh

-- OhV
namespace Oh
open PySem PySem.W

/-! ## heapq: plain laws -/
/-- lt is a strict total order on the items with P -/
structure Tot (P : PyData → Prop) (lt : PyData → PyData → Bool) : Prop where
  irr : ∀ a, P a → lt a a = false
  tr : ∀ a b c, P a → P b → P c → lt a b = true → lt b c = true → lt a c = true
  tot : ∀ a b, P a → P b → lt a b = false → lt b a = false → a = b

section
variable {lt : PyData → PyData → Bool} {P : PyData → Prop}

theorem Tot.le (T : Tot P lt) {a b : PyData} (ha : P a) (hb : P b) (h : lt a b = true) : lt b a = false := by
  cases e : lt b a with
  | false => rfl
  | true => have := T.tr a b a ha hb ha h e; rw [T.irr a ha] at this; cases this
theorem Tot.leTr (T : Tot P lt) {a b c : PyData} (ha : P a) (hb : P b) (hc : P c) (h1 : lt b a = false) (h2 : lt c b = false) : lt c a = false := by
  cases e : lt c a with
  | false => rfl
  | true =>
    cases e2 : lt a b with
    | true => have := T.tr c a b hc ha hb e e2; rw [h2] at this; cases this
    | false => have := T.tot a b ha hb e2 h1; subst this; rw [h2] at e; cases e

theorem swap_perm (l : List PyData) {i j : Nat} {x : PyData} (hij : i ≠ j) (hi : i < l.length) (hj : j < l.length) : ((l.set i (l.getD j .none)).set j x).Perm (l.set i x) := by
  classical
  refine List.perm_iff_count.mpr fun b => ?_
  rw [List.count_set (by simpa using hj), List.count_set hi, List.count_set hi]
  have e1 : (l.set i (l.getD j .none))[j]'(by simpa using hj) = l[j] := by rw [List.getElem_set_ne hij]
  have e2 : l.getD j .none = l[j] := by simp [hj]
  rw [e1, e2]
  have h1 : (if (l[i] == b) = true then 1 else 0) ≤ List.count b l := by
    split
    · rename_i h; exact List.count_pos_iff.mpr (by rw [← eq_of_beq h]; exact List.getElem_mem _)
    · exact Nat.zero_le _
  generalize List.count b l = n at *
  generalize (if (l[i] == b) = true then 1 else 0) = u at *
  generalize (if (l[j] == b) = true then 1 else 0) = v at *
  omega

theorem sdF_perm : ∀ (f : Nat) (es : List PyData) (s p : Nat) (x : PyData), p < es.length → (sdF lt f es s p x).Perm (es.set p x)
  | 0, es, s, p, x, _ => List.Perm.refl _
  | f + 1, es, s, p, x, hp => by
    simp only [sdF]
    split
    · rename_i hs
      have hp0 : 0 < p := Nat.zero_lt_of_lt hs
      have hq : (p - 1) / 2 < es.length := om_up2 hp0 hp
      rw [getD_some hq]
      dsimp only
      split
      · refine (sdF_perm f _ s _ x (by simpa using hq)).trans (swap_perm es (Nat.ne_of_gt (om_up hp0)) hp hq)
      · exact List.Perm.refl _
    · exact List.Perm.refl _
theorem sdF_len (f : Nat) (es : List PyData) (s p : Nat) (x : PyData) (hp : p < es.length) : (sdF lt f es s p x).length = es.length := by simpa using (sdF_perm f es s p x hp (lt := lt)).length_eq
theorem sdF_set (f : Nat) (es : List PyData) (s p : Nat) (v x : PyData) : sdF lt f (es.set p v) s p x = sdF lt f es s p x := by
  cases f with
  | zero => simp [sdF]
  | succ f =>
    simp only [sdF]
    split
    · rename_i hs
      rw [List.getElem?_set_ne (Nat.ne_of_gt (om_up (Nat.zero_lt_of_lt hs)))]
      simp
    · simp

theorem child_rng {lt : PyData → PyData → Bool} {es : List PyData} {p c : Nat} (h : 2 * p + 1 < es.length) (hc : (if 2 * p + 2 < es.length ∧ lt (es.getD (2 * p + 1) .none) (es.getD (2 * p + 2) .none) = false then 2 * p + 2 else 2 * p + 1) = c) : p < c ∧ c < es.length ∧ (c - 1) / 2 = p := by
  rw [← hc]; split <;> omega
theorem suLoop_perm : ∀ (f : Nat) (es : List PyData) (p : Nat), p < es.length → ∀ x : PyData,
    ((suLoop lt f es p).1.set (suLoop lt f es p).2 x).Perm (es.set p x) ∧ (suLoop lt f es p).2 < (suLoop lt f es p).1.length ∧ (suLoop lt f es p).1.length = es.length
  | 0, es, p, hp, x => ⟨List.Perm.refl _, hp, rfl⟩
  | f + 1, es, p, hp, x => by
    simp only [suLoop]
    split
    · rename_i h
      generalize hc : (if 2 * p + 2 < es.length ∧ lt (es.getD (2 * p + 1) .none) (es.getD (2 * p + 2) .none) = false then 2 * p + 2 else 2 * p + 1) = c
      obtain ⟨c1, c2, c3⟩ := child_rng h hc
      obtain ⟨h1, h2, h3⟩ := suLoop_perm f (es.set p (es.getD c .none)) c (by simpa using c2) x
      exact ⟨h1.trans (swap_perm es (Nat.ne_of_lt c1) hp c2), h2, h3.trans (by simp)⟩
    · exact ⟨List.Perm.refl _, hp, rfl⟩
theorem suF_perm {es : List PyData} {p : Nat} (hp : p < es.length) : (suF lt es p).Perm es := by
  obtain ⟨h1, h2, h3⟩ := suLoop_perm (lt := lt) es.length es p hp (es.getD p .none)
  unfold suF
  rw [sdF_set]
  refine (sdF_perm _ _ _ _ _ h2).trans (h1.trans ?_)
  have : es.set p (es.getD p .none) = es := by simp [hp]
  rw [this]
theorem suF_len {es : List PyData} {p : Nat} (hp : p < es.length) : (suF lt es p).length = es.length := (suF_perm hp).length_eq

/-- heap order below the parents from s on -/
noncomputable def HpFrom (lt : PyData → PyData → Bool) (s : Nat) (es : List PyData) : Prop := ∀ i, 0 < i → i < es.length → s ≤ (i - 1) / 2 → lt (es.getD i .none) (es.getD ((i - 1) / 2) .none) = false

inductive Dsc (s : Nat) : Nat → Prop
  | refl : Dsc s s
  | step {q c : Nat} : 0 < c → (c - 1) / 2 = q → Dsc s q → Dsc s c
theorem Dsc.ge {s q : Nat} (h : Dsc s q) : s ≤ q := by induction h <;> omega
theorem Dsc.up {s q : Nat} (h : Dsc s q) (hq : s < q) : Dsc s ((q - 1) / 2) := by
  cases h with
  | refl => omega
  | step _ e d => rw [e]; exact d

theorem getD_set_self {es : List PyData} {i : Nat} {v : PyData} (h : i < es.length) : (es.set i v).getD i .none = v := by simp [h]
theorem getD_set_ne {es : List PyData} {i j : Nat} {v : PyData} (h : i ≠ j) : (es.set i v).getD j .none = es.getD j .none := by simp [List.getElem?_set_ne h]

theorem sdF_heap (T : Tot P lt) : ∀ (f : Nat) (es : List PyData) (s q : Nat) (x : PyData), (∀ y ∈ es, P y) → P x → q < es.length → Dsc s q → q ≤ f → HpFrom lt s es → (∀ c, 0 < c → c < es.length → (c - 1) / 2 = q → lt (es.getD c .none) x = false) → HpFrom lt s (sdF lt f es s q x) := by
  have base : ∀ (es : List PyData) (s q : Nat) (x : PyData), q < es.length → HpFrom lt s es → (∀ c, 0 < c → c < es.length → (c - 1) / 2 = q → lt (es.getD c .none) x = false) → (0 < q → s ≤ (q - 1) / 2 → lt x (es.getD ((q - 1) / 2) .none) = false) → HpFrom lt s (es.set q x) := by
    intro es s q x hq hH hc hp i h0 hi hs
    rw [List.length_set] at hi
    by_cases e : i = q
    · subst e; rw [getD_set_self hq, getD_set_ne (Nat.ne_of_gt (om_up h0))]; exact hp h0 hs
    · rw [getD_set_ne (Ne.symm e)]
      by_cases e2 : (i - 1) / 2 = q
      · rw [e2, getD_set_self hq]; exact hc i h0 hi e2
      · rw [getD_set_ne (Ne.symm e2)]; exact hH i h0 hi hs
  intro f
  induction f with
  | zero =>
    intro es s q x hP hx hq hd hf hH hc
    have : q = 0 := by omega
    subst this
    exact base es s 0 x hq hH hc fun h _ => absurd h (Nat.lt_irrefl _)
  | succ f ih =>
    intro es s q x hP hx hq hd hf hH hc
    simp only [sdF]
    split
    · rename_i hs
      have hq0 : 0 < q := Nat.zero_lt_of_lt hs
      have hq' : (q - 1) / 2 < es.length := om_up2 hq0 hq
      rw [getD_some hq']
      dsimp only
      have hy := hP _ (getD_mem hq')
      have hup := (hd.up hs).ge
      split
      · rename_i hlt
        refine ih (es.set q (es.getD ((q - 1) / 2) .none)) s ((q - 1) / 2) x (fun y hy' => ?_) hx (by simpa using hq') (hd.up hs) (Nat.le_of_lt_succ (Nat.lt_of_lt_of_le (om_up hq0) hf)) ?_ ?_
        · rcases List.mem_or_eq_of_mem_set hy' with h | h
          · exact hP y h
          · rw [h]; exact hy
        · refine base es s q _ hq hH (fun c h0 h1 h2 => ?_) fun h0 h1 => T.irr _ hy
          have r1 := hH c h0 h1 (h2 ▸ hd.ge)
          rw [h2] at r1
          exact T.leTr hy (hP _ (getD_mem hq)) (hP _ (getD_mem h1)) (hH q hq0 hq hup) r1
        · intro c h0 h1 h2
          rw [List.length_set] at h1
          have hle := T.le hx hy hlt
          by_cases e : c = q
          · subst e; rw [getD_set_self hq]; exact hle
          · rw [getD_set_ne (Ne.symm e)]
            have r1 := hH c h0 h1 (h2 ▸ hup)
            rw [h2] at r1
            exact T.leTr hx hy (hP _ (getD_mem h1)) hle r1
      · rename_i hlt
        exact base es s q x hq hH hc fun _ _ => by simpa using hlt
    · rename_i hs
      exact base es s q x hq hH hc fun h0 h1 => absurd (Nat.lt_of_le_of_lt h1 (om_up h0)) hs

theorem suLoop_heap (T : Tot P lt) : ∀ (f : Nat) (es : List PyData) (s q : Nat), (∀ y ∈ es, P y) → q < es.length → Dsc s q → es.length - q ≤ f → (∀ i, 0 < i → i < es.length → s ≤ (i - 1) / 2 → ((i - 1) / 2 = s → q ≠ s) → lt (es.getD i .none) (es.getD ((i - 1) / 2) .none) = false) →
    HpFrom lt s (suLoop lt f es q).1 ∧ Dsc s (suLoop lt f es q).2 ∧ es.length ≤ 2 * (suLoop lt f es q).2 + 1 ∧ ∀ y ∈ (suLoop lt f es q).1, P y := by
  intro f
  induction f with
  | zero => intro es s q hP hq hd hf; omega
  | succ f ih =>
    intro es s q hP hq hd hf hI
    simp only [suLoop]
    split
    · rename_i h
      generalize hc : (if 2 * q + 2 < es.length ∧ lt (es.getD (2 * q + 1) .none) (es.getD (2 * q + 2) .none) = false then 2 * q + 2 else 2 * q + 1) = c
      obtain ⟨c1, c2, c3⟩ := child_rng h hc
      have hcP := hP _ (getD_mem c2)
      have hge := hd.ge
      have := ih (es.set q (es.getD c .none)) s c (fun y hy => ?_) (by simpa using c2) (.step (by omega) c3 hd) (by rw [List.length_set]; exact om_fuel hf c1) ?_
      · simpa using this
      · rcases List.mem_or_eq_of_mem_set hy with h | h
        · exact hP y h
        · rw [h]; exact hcP
      · intro i h0 hi hs _
        rw [List.length_set] at hi
        by_cases e : i = q
        · subst e
          rw [getD_set_self hq, getD_set_ne (Nat.ne_of_gt (om_up h0))]
          have r1 := hI i h0 hq hs (fun z => om_upNe h0 z)
          have r2 := hI c (Nat.zero_lt_of_lt c1) c2 (by rw [c3]; exact hge) (fun _ => Nat.ne_of_gt (Nat.lt_of_le_of_lt hs (om_up h0)))
          rw [c3] at r2
          exact T.leTr (hP _ (getD_mem (om_up2 h0 hq))) (hP _ (getD_mem hq)) hcP r1 r2
        · rw [getD_set_ne (Ne.symm e)]
          by_cases e2 : (i - 1) / 2 = q
          · rw [e2, getD_set_self hq]
            have h2 : i = 2 * q + 1 ∨ i = 2 * q + 2 := om_par h0 e2
            have hiP := hP _ (getD_mem hi)
            by_cases hcond : 2 * q + 2 < es.length ∧ lt (es.getD (2 * q + 1) .none) (es.getD (2 * q + 2) .none) = false
            · rw [if_pos hcond] at hc; subst hc
              rcases h2 with rfl | rfl
              · exact hcond.2
              · exact T.irr _ hiP
            · rw [if_neg hcond] at hc; subst hc
              rcases h2 with rfl | rfl
              · exact T.irr _ hiP
              · have : lt (es.getD (2 * q + 1) .none) (es.getD (2 * q + 2) .none) = true := by
                  cases e3 : lt (es.getD (2 * q + 1) .none) (es.getD (2 * q + 2) .none) with
                  | true => rfl
                  | false => exact absurd ⟨hi, e3⟩ hcond
                exact T.le hcP hiP this
          · rw [getD_set_ne (Ne.symm e2)]; exact hI i h0 hi hs (by omega)
    · rename_i h
      refine ⟨fun i h0 hi hs => hI i h0 hi hs fun e => by have hi' : i < es.length := hi; omega, hd, by show es.length ≤ 2 * q + 1; omega, hP⟩

theorem suF_heap (T : Tot P lt) {es : List PyData} {s : Nat} (hP : ∀ y ∈ es, P y) (hs : s < es.length) (hH : HpFrom lt (s + 1) es) : HpFrom lt s (suF lt es s) := by
  obtain ⟨h1, h2, h3, h4⟩ := suLoop_heap T es.length es s s hP hs .refl (Nat.sub_le _ _) fun i h0 hi hs' hne => hH i h0 hi (by omega)
  obtain ⟨_, p2, p3⟩ := suLoop_perm (lt := lt) es.length es s hs .none
  unfold suF
  rw [sdF_set]
  exact sdF_heap T _ _ s _ _ h4 (hP _ (getD_mem hs)) p2 h2 (Nat.le_refl _) h1 fun c h0 hc hq => by omega

theorem heap_min (T : Tot P lt) {es : List PyData} (hP : ∀ y ∈ es, P y) (hH : HpFrom lt 0 es) : ∀ i, i < es.length → lt (es.getD i .none) (es.getD 0 .none) = false := by
  intro i
  induction i using Nat.strongRecOn with
  | _ i ih =>
    intro hi
    by_cases e : i = 0
    · subst e; exact T.irr _ (hP _ (getD_mem hi))
    · have h0 := Nat.pos_of_ne_zero e
      have hu := om_up2 h0 hi
      exact T.leTr (hP _ (getD_mem (Nat.lt_trans h0 hi))) (hP _ (getD_mem hu)) (hP _ (getD_mem hi)) (ih ((i - 1) / 2) (om_up h0) hu) (hH i h0 hi (Nat.zero_le _))
theorem heap_min' (T : Tot P lt) {es : List PyData} (hP : ∀ y ∈ es, P y) (hH : HpFrom lt 0 es) : ∀ y ∈ es, lt y (es.getD 0 .none) = false := fun y hy => by
  obtain ⟨i, hi, rfl⟩ := List.mem_iff_getElem.mp hy
  have := heap_min T hP hH i hi
  simpa [hi] using this

/-- heapify, after k of its steps -/
noncomputable def hfF (lt : PyData → PyData → Bool) (es : List PyData) : Nat → List PyData
  | 0 => es
  | k + 1 => suF lt (hfF lt es k) (es.length / 2 - 1 - k)
theorem hfF_perm {es : List PyData} : ∀ k, k ≤ es.length / 2 → (hfF lt es k).Perm es
  | 0, _ => List.Perm.refl _
  | k + 1, h => by
    have ih := hfF_perm k (Nat.le_of_succ_le h)
    exact (suF_perm (by rw [ih.length_eq]; omega)).trans ih
theorem hfF_heap (T : Tot P lt) {es : List PyData} (hP : ∀ y ∈ es, P y) : ∀ k, k ≤ es.length / 2 → HpFrom lt (es.length / 2 - k) (hfF lt es k)
  | 0, _ => fun i h0 hi hs => by simp only [hfF] at hi; omega
  | k + 1, h => by
    have ih := hfF_heap T hP k (by omega)
    have pm := hfF_perm (lt := lt) (es := es) k (by omega)
    have e : es.length / 2 - (k + 1) = es.length / 2 - 1 - k := by omega
    rw [e]
    refine suF_heap T (fun y hy => hP y (pm.mem_iff.mp hy)) (by rw [pm.length_eq]; omega) ?_
    have e2 : es.length / 2 - 1 - k + 1 = es.length / 2 - k := by omega
    rw [e2]; exact ih
/-- heappop -/
noncomputable def popF (lt : PyData → PyData → Bool) (cs : List PyData) (d : PyData) : PyData × List PyData := if cs.isEmpty then (d, []) else (cs.getD 0 .none, suF lt (cs.set 0 d) 0)
/-- heappushpop -/
noncomputable def ppF (lt : PyData → PyData → Bool) (es : List PyData) (x : PyData) : PyData × List PyData := if !es.isEmpty && lt (es.getD 0 .none) x then (es.getD 0 .none, suF lt (es.set 0 x) 0) else (x, es)

/-- es is a heap of the items of ws -/
noncomputable def HeapOf (lt : PyData → PyData → Bool) (ws es : List PyData) : Prop := es.Perm ws ∧ HpFrom lt 0 es
/-- m is in ws, none is less; the rest is us -/
noncomputable def LeastOf (lt : PyData → PyData → Bool) (ws : List PyData) (m : PyData) (us : List PyData) : Prop := (m :: us).Perm ws ∧ ∀ y ∈ ws, lt y m = false
theorem hfF_all (T : Tot P lt) {es : List PyData} (hP : ∀ y ∈ es, P y) : HeapOf lt es (hfF lt es (es.length / 2)) := ⟨hfF_perm _ (Nat.le_refl _), by simpa using hfF_heap T hP _ (Nat.le_refl _)⟩
theorem popF_all (T : Tot P lt) {ws cs : List PyData} {d : PyData} (hP : ∀ y ∈ ws, P y) (h : HeapOf lt ws (cs ++ [d])) : ∃ us, LeastOf lt ws (popF lt cs d).1 us ∧ HeapOf lt us (popF lt cs d).2 := by
  obtain ⟨h1, h2⟩ := h
  have hP' : ∀ y ∈ cs ++ [d], P y := fun y hy => hP y (h1.mem_iff.mp hy)
  have hm := heap_min' T hP' h2
  unfold popF
  cases cs with
  | nil =>
    refine ⟨[], ⟨by simpa using h1, fun y hy => ?_⟩, List.Perm.refl _, fun i h0 hi => by simp at hi⟩
    have := hm y (h1.mem_iff.mpr hy); simpa using this
  | cons c cs =>
    simp only [List.isEmpty_cons, Bool.false_eq_true, if_false, List.set_cons_zero, List.getD_cons_zero]
    refine ⟨d :: cs, ⟨?_, fun y hy => ?_⟩, suF_perm (by simp), suF_heap T (fun y hy => hP' y ?_) (by simp) fun i h0 hi hs => ?_⟩
    · refine List.Perm.trans ?_ h1
      exact List.Perm.cons c (List.perm_append_singleton d cs).symm
    · have := hm y (h1.mem_iff.mpr hy); simpa using this
    · simp only [List.mem_cons, List.cons_append, List.mem_append, List.not_mem_nil, or_false] at hy ⊢
      rcases hy with h | h
      · exact .inr (.inr h)
      · exact .inr (.inl h)
    · have hi' : i < cs.length + 1 := by simpa using hi
      have r := h2 i h0 (by simp; omega) (Nat.zero_le _)
      have key : ∀ j, 0 < j → j < cs.length + 1 → (d :: cs).getD j .none = ((c :: cs) ++ [d]).getD j .none := fun j hj hj' => by
        obtain ⟨j, rfl⟩ : ∃ k, j = k + 1 := ⟨j - 1, by omega⟩
        have : j < cs.length := by omega
        simp [List.getElem?_append_left this, this]
      rw [key i h0 hi', key _ (by omega) (by omega)]; exact r
theorem ppF_all (T : Tot P lt) {ws es : List PyData} {x : PyData} (hP : ∀ y ∈ ws, P y) (hx : P x) (h : HeapOf lt ws es) : ∃ us, LeastOf lt (ws ++ [x]) (ppF lt es x).1 us ∧ HeapOf lt us (ppF lt es x).2 := by
  obtain ⟨h1, h2⟩ := h
  have hP' : ∀ y ∈ es, P y := fun y hy => hP y (h1.mem_iff.mp hy)
  have hm := heap_min' T hP' h2
  unfold ppF
  cases es with
  | nil =>
    have := List.nil_perm.mp h1
    subst this
    exact ⟨[], ⟨List.Perm.refl _, fun y hy => by simp at hy; rw [hy]; exact T.irr x hx⟩, List.Perm.refl _, h2⟩
  | cons c cs =>
    have hc := hP' c (List.mem_cons_self ..)
    cases e : lt c x with
    | true =>
      simp only [List.isEmpty_cons, Bool.not_false, List.getD_cons_zero, e, Bool.and_self, if_true, List.set_cons_zero]
      refine ⟨x :: cs, ⟨?_, fun y hy => ?_⟩, suF_perm (by simp), suF_heap T (fun y hy => ?_) (by simp) fun i h0 hi hs => ?_⟩
      · refine List.Perm.trans (List.Perm.cons c (List.perm_append_singleton x cs).symm) (h1.append_right [x])
      · rcases List.mem_append.mp hy with hy | hy
        · have := hm y (h1.mem_iff.mpr hy); simpa using this
        · simp at hy; rw [hy]; exact T.le hc hx e
      · rcases List.mem_cons.mp hy with rfl | hy
        · exact hx
        · exact hP' y (List.mem_cons_of_mem _ hy)
      · have hi' : i < cs.length + 1 := by simpa using hi
        have r := h2 i h0 (by simpa using hi) (Nat.zero_le _)
        have key : ∀ j, 0 < j → (x :: cs).getD j .none = (c :: cs).getD j .none := fun j hj => by
          obtain ⟨j, rfl⟩ : ∃ k, j = k + 1 := ⟨j - 1, by omega⟩
          simp
        rw [key i h0, key _ (by omega)]; exact r
    | false =>
      simp only [List.isEmpty_cons, Bool.not_false, List.getD_cons_zero, e, Bool.and_false, Bool.false_eq_true, if_false]
      refine ⟨ws, ⟨(List.perm_append_singleton x ws).symm, fun y hy => ?_⟩, h1, h2⟩
      rcases List.mem_append.mp hy with hy | hy
      · have := hm y (h1.mem_iff.mpr hy)
        exact T.leTr hx hc (hP y hy) e (by simpa using this)
      · simp at hy; rw [hy]; exact T.irr x hx
end
end Oh

-- OhU
namespace Oh
open PySem PySem.W PyProof.Rows PySem.SeqAt PySem.Calls

section
variable {prog : Program} {w : World} {hb : Heap}

theorem Gd.perm {es fs : List PyData} (h : Gd es) (p : fs.Perm es) : Gd fs := h.sub fun a ha => p.mem_iff.mp ha

theorem heapify_ok (B : BaseOk (KF w.params) hb) : FnIO prog w hb 3 69 (fun es ds d es' => ds = [] ∧ d = .none ∧ Gd es ∧ es.length < 2 ^ 20 ∧ es' = hfF (pyC false) es (es.length / 2)) := by
  intro A s M a ws vs es ds d es' hP R hk0 hab hM haM l r0 rv Q E k
  obtain ⟨rfl, rfl, hgd, hz, rfl⟩ := hP
  cases rv
  refine enter (I := [a]) (fd := fdOf w.params 69) (body := bodyOf w.params 69) (ρ := [("x", .own a es)]) B hk0 R.depth rfl rfl rfl rfl rfl rfl rfl ?_ hM ?_ ?_ ?_
  · intro b hb'; simp at hb'; rw [hb']; exact hab
  · intro y sl hy
    have hy := lookup_mem hy
    simp only [List.mem_cons, Prod.mk.injEq, List.not_mem_nil, or_false] at hy
    obtain ⟨rfl, rfl⟩ := hy
    exact ⟨_, fun L => rfl, rfl, haM, .inl (List.mem_cons_self ..), ws, l, r0⟩
  · intro y z b cs fs h1 h2
    have h1 := lookup_mem h1
    have h2 := lookup_mem h2
    simp only [List.mem_cons, Prod.mk.injEq, List.not_mem_nil, or_false, reduceCtorEq, and_false] at h1 h2
    rw [h1.1, h2.1]
  intro L h₁ tk Mc hMc hMn S
  have R' : Rm 2 (A.deeper (envF (fdOf w.params 69) 69 L)) := R.deeper _
  refine x_assign (x := "n") S (PE.x (pe_lenL B rfl rfl rfl (by decide) (po_own rfl rfl) (by omega))) rfl fun h tk S => ?_
  have hdiv : ((es.length : Nat) : Int).fdiv 2 = ((es.length / 2 : Nat) : Int) := by
    rw [Int.fdiv_eq_ediv_of_nonneg _ (by omega)]; omega
  refine x_for (ds := (List.range (es.length / 2)).map fun i : Nat => PyData.int (((es.length / 2 : Nat) : Int) - 1 - (i : Int))) (fun i ρ => Ow ρ "x" a (hfF (pyC false) es i)) (fun d => [("i", .frz d)]) S
    (pi_rev B R'.hh rfl rfl rfl (by decide) rfl rfl rfl (by decide) (PE.po (PE.cast (pe_divI (PE.po (pe_name rfl rfl)) (PE.po pe_int) (by decide) (by decide)) (congrArg PyData.int hdiv))) (by omega)) ?_ rfl ?_ ?_
  · intro g I d hd
    obtain ⟨i, _, rfl⟩ := List.mem_map.mp hd
    exact takes_name rfl rfl
  · intro g I i d ρ hd hJ h tk E' Q' kk S
    have hi : i < es.length / 2 := by
      have := (List.getElem?_eq_some_iff.mp hd).1
      simpa using this
    rw [List.getElem?_map, List.getElem?_range hi] at hd
    simp only [Option.map_some, Option.some.injEq] at hd
    subst hd
    have hp := hfF_perm (lt := pyC false) (es := es) i (by omega)
    have e1 : ((es.length / 2 : Nat) : Int) - 1 - (i : Int) = ((es.length / 2 - 1 - i : Nat) : Int) := by omega
    refine x_expr S (evx_call (f := "_siftup") (x := "x") (cs := hfF (pyC false) es i) (d := .none) B (siftup_ok B) R' rfl rfl rfl rfl ((lookup_cons_ne (by decide)).trans hJ) (pes_cons (pe_name rfl rfl) pes_nil) ⟨es.length / 2 - 1 - i, by rw [e1], rfl, by rw [hp.length_eq]; omega, hgd.perm hp, by rw [hp.length_eq]; exact hz, rfl⟩) fun h tk S => x_nil ?_
    exact kk _ h tk _ (.inl rfl) S rfl
  · intro ρ h tk hJ S
    simp only [List.length_map, List.length_range] at hJ
    refine x_nil ?_
    obtain ⟨m, _, sok⟩ := S.names
    obtain ⟨_, _, _, ws', l', r'⟩ := sok "x" _ hJ
    exact k _ h tk ws' S.kg l' (r'.sub hMc) .none

theorem heappop_ok (B : BaseOk (KF w.params) hb) : FnIO prog w hb 3 55 (fun es ds d es' => ds = [] ∧ Gd es ∧ es.length < 2 ^ 20 ∧ ∃ cs x, es = cs ++ [x] ∧ d = (popF (pyC false) cs x).1 ∧ es' = (popF (pyC false) cs x).2) := by
  intro A s M a ws vs es ds d es' hP R hk0 hab hM haM l r0 rv Q E k
  obtain ⟨rfl, hgd, hz, cs, x, rfl, rfl, rfl⟩ := hP
  cases rv
  refine enter (I := [a]) (fd := fdOf w.params 55) (body := bodyOf w.params 55) (ρ := [("heap", .own a (cs ++ [x]))]) B hk0 R.depth rfl rfl rfl rfl rfl rfl rfl ?_ hM ?_ ?_ ?_
  · intro b hb'; simp at hb'; rw [hb']; exact hab
  · intro y sl hy
    have hy := lookup_mem hy
    simp only [List.mem_cons, Prod.mk.injEq, List.not_mem_nil, or_false] at hy
    obtain ⟨rfl, rfl⟩ := hy
    exact ⟨_, fun L => rfl, rfl, haM, .inl (List.mem_cons_self ..), ws, l, r0⟩
  · intro y z b cs fs h1 h2
    have h1 := lookup_mem h1
    have h2 := lookup_mem h2
    simp only [List.mem_cons, Prod.mk.injEq, List.not_mem_nil, or_false, reduceCtorEq, and_false] at h1 h2
    rw [h1.1, h2.1]
  intro L h₁ tk Mc hMc hMn S
  have R' : Rm 2 (A.deeper (envF (fdOf w.params 55) 55 L)) := R.deeper _
  have hz' : cs.length + 1 < 2 ^ 20 := by simpa using hz
  refine x_assign (x := "lastelt") S (evx_pop (x := "heap") rfl rfl (by unfold sizeLine; omega)) rfl fun h tk S => ?_
  refine x_if S (pt_list (po_own rfl rfl) (by omega)) fun h tk S => ?_
  cases cs with
  | nil =>
    refine x_nil (x_return S (PE.x (pe_name rfl rfl)) fun v h tk S r => ?_)
    obtain ⟨m, _, sok⟩ := S.names
    obtain ⟨_, _, _, ws', l', r'⟩ := sok "heap" _ rfl
    exact k _ h tk ws' S.kg l' (r'.sub hMc) (r.sub hMc)
  | cons c cs =>
    refine x_assign (x := "returnitem") S (PE.x (pe_idxL (d := c) (po_own rfl rfl) (PE.po pe_int) (by decide) rfl (by decide) rfl)) rfl fun h tk S => ?_
    refine x_setitem (x := "heap") (j := 0) S rfl rfl (pe_name rfl rfl) (PE.po pe_int) (by decide) (by decide) (seqIndex_nonneg (by decide) (by simp <;> omega)) (by simp) fun h tk S => ?_
    refine x_expr S (evx_call (f := "_siftup") (x := "heap") (d := .none) B (siftup_ok B) R' rfl rfl rfl rfl rfl (pes_cons pe_int pes_nil) ⟨0, rfl, rfl, by simp, ?_, by simp at hz' ⊢; omega, rfl⟩) fun h tk S => ?_
    · refine hgd.sub fun y hy => ?_
      simp only [List.set_cons_zero, List.mem_cons] at hy
      rcases hy with rfl | hy
      · simp
      · simp [hy]
    refine x_return S (PE.x (pe_name rfl rfl)) fun v h tk S r => ?_
    obtain ⟨m, _, sok⟩ := S.names
    obtain ⟨_, _, _, ws', l', r'⟩ := sok "heap" _ rfl
    exact k _ h tk ws' S.kg l' (r'.sub hMc) (r.sub hMc)

theorem pushpop_ok (B : BaseOk (KF w.params) hb) : FnIO prog w hb 3 62 (fun es ds d es' => ∃ x, ds = [x] ∧ Gd (x :: es) ∧ es.length < 2 ^ 20 ∧ d = (ppF (pyC false) es x).1 ∧ es' = (ppF (pyC false) es x).2) := by
  intro A s M a ws vs es ds d es' hP R hk0 hab hM haM l r0 rv Q E k
  obtain ⟨x, rfl, hgd, hz, rfl, rfl⟩ := hP
  cases rv with | cons r1 rv => ?_
  cases rv
  refine enter (I := [a]) (fd := fdOf w.params 62) (body := bodyOf w.params 62) (ρ := [("heap", .own a es), ("item", .frz x)]) B hk0 R.depth rfl rfl rfl rfl rfl rfl rfl ?_ hM ?_ ?_ ?_
  · intro b hb'; simp at hb'; rw [hb']; exact hab
  · intro y sl hy
    have hy := lookup_mem hy
    simp only [List.mem_cons, Prod.mk.injEq, List.not_mem_nil, or_false] at hy
    rcases hy with ⟨rfl, rfl⟩ | ⟨rfl, rfl⟩
    · exact ⟨_, fun L => rfl, rfl, haM, .inl (List.mem_cons_self ..), ws, l, r0⟩
    · exact ⟨_, fun L => rfl, _, rfl, r1⟩
  · intro y z b cs fs h1 h2
    have h1 := lookup_mem h1
    have h2 := lookup_mem h2
    simp only [List.mem_cons, Prod.mk.injEq, List.not_mem_nil, or_false, reduceCtorEq, and_false] at h1 h2
    rw [h1.1, h2.1]
  intro L h₁ tk Mc hMc hMn S
  have R' : Rm 2 (A.deeper (envF (fdOf w.params 62) 62 L)) := R.deeper _
  cases es with
  | nil =>
    refine x_if (b := false) S (pt_boolop (pts_and_f (pt_list (ds := []) (po_own rfl rfl) (by decide)))) fun h tk S => x_nil ?_
    refine x_return S (PE.x (pe_name rfl rfl)) fun v h tk S r => ?_
    obtain ⟨m, _, sok⟩ := S.names
    obtain ⟨_, _, _, ws', l', r'⟩ := sok "heap" _ rfl
    exact k _ h tk ws' S.kg l' (r'.sub hMc) (r.sub hMc)
  | cons c cs =>
    have hc : c ∈ x :: c :: cs := by simp
    have hx : x ∈ x :: c :: cs := by simp
    unfold ppF at k
    simp only [List.isEmpty_cons, Bool.not_false, Bool.true_and, List.getD_cons_zero] at k
    cases e : pyC false c x with
    | true =>
      rw [e] at k
      simp only [if_true] at k
      refine x_if (b := true) S (pt_boolop (pts_and_t (pt_list (ds := c :: cs) (po_own rfl rfl) (by omega)) (pts_and_t (PT.cast (pt_cmp (PE.po (pe_idxL (d := c) (po_own rfl rfl) (PE.po pe_int) (by decide) rfl (by decide) rfl)) (PE.po (pe_name rfl rfl)) rfl (fun s u v Q E ru rv h => cm_lt R'.units' (hgd.2 c hc) (hgd.1 c hc x hx) ru rv h)) e) pts_and_nil))) fun h tk S => ?_
      refine x_swap (x := "item") (y := "heap") (j := 0) S R'.hh rfl rfl rfl (pe_tuple (pes_cons (pe_idxL (d := c) (po_own rfl rfl) (PE.po pe_int) (by decide) rfl (by decide) rfl) (pes_cons (pe_name (d := x) rfl rfl) pes_nil)) (by simp [sizeLine])) (PE.po pe_int) (by decide) (by decide) (seqIndex_nonneg (by decide) (by simp <;> omega)) (by simp) fun h tk S => ?_
      refine x_expr S (evx_call (f := "_siftup") (x := "heap") (d := .none) B (siftup_ok B) R' rfl rfl rfl rfl rfl (pes_cons pe_int pes_nil) ⟨0, rfl, rfl, by simp, ?_, by simpa using hz, rfl⟩) fun h tk S => x_nil ?_
      · refine hgd.sub fun y hy => ?_
        simp only [List.set_cons_zero, List.mem_cons] at hy ⊢
        exact hy.elim .inl fun q => .inr (.inr q)
      refine x_return S (PE.x (pe_name rfl rfl)) fun v h tk S r => ?_
      obtain ⟨m, _, sok⟩ := S.names
      obtain ⟨_, _, _, ws', l', r'⟩ := sok "heap" _ rfl
      exact k _ h tk ws' S.kg l' (r'.sub hMc) (r.sub hMc)
    | false =>
      rw [e] at k
      simp only [Bool.false_eq_true, if_false] at k
      refine x_if (b := false) S (pt_boolop (pts_and_t (pt_list (ds := c :: cs) (po_own rfl rfl) (by omega)) (pts_and_f (PT.cast (pt_cmp (PE.po (pe_idxL (d := c) (po_own rfl rfl) (PE.po pe_int) (by decide) rfl (by decide) rfl)) (PE.po (pe_name rfl rfl)) rfl (fun s u v Q E ru rv h => cm_lt R'.units' (hgd.2 c hc) (hgd.1 c hc x hx) ru rv h)) e)))) fun h tk S => ?_
      refine x_nil (x_return S (PE.x (pe_name rfl rfl)) fun v h tk S r => ?_)
      obtain ⟨m, _, sok⟩ := S.names
      obtain ⟨_, _, _, ws', l', r'⟩ := sok "heap" _ rfl
      exact k _ h tk ws' S.kg l' (r'.sub hMc) (r.sub hMc)
end
end Oh

-- OhZ
namespace Oh
open PySem PySem.W PyProof.Rows PySem.SeqAt PySem.Calls PySem.MeetsSeq

/-! ### sorted: plain -/
noncomputable def SortedOf (lt : PyData → PyData → Bool) (ds es : List PyData) : Prop := es.Perm ds ∧ es.Pairwise fun a b => lt b a = false
theorem sorted_unique {P : PyData → Prop} {lt : PyData → PyData → Bool} (T : Tot P lt) : ∀ {es fs : List PyData}, (∀ d ∈ es, P d) → es.Perm fs → es.Pairwise (fun a b => lt b a = false) → fs.Pairwise (fun a b => lt b a = false) → es = fs
  | [], fs, _, hp, _, _ => (List.nil_perm.mp hp).symm
  | e :: es, [], _, hp, _, _ => (List.perm_nil.mp hp)
  | e :: es, f :: fs, hP, hp, h1, h2 => by
    have hPf : ∀ d ∈ f :: fs, P d := fun d hd => hP d (hp.mem_iff.mpr hd)
    have e1 : lt f e = false := by
      rcases List.mem_cons.mp (hp.mem_iff.mpr (List.mem_cons_self (a := f) (l := fs))) with q | q
      · rw [q]; exact T.irr e (hP e (List.mem_cons_self ..))
      · exact (List.pairwise_cons.mp h1).1 f q
    have e2 : lt e f = false := by
      rcases List.mem_cons.mp (hp.mem_iff.mp (List.mem_cons_self (a := e) (l := es))) with q | q
      · rw [q]; exact T.irr f (hPf f (List.mem_cons_self ..))
      · exact (List.pairwise_cons.mp h2).1 e q
    have : e = f := T.tot e f (hP e (List.mem_cons_self ..)) (hPf f (List.mem_cons_self ..)) e2 e1
    subst this
    rw [sorted_unique T (fun d hd => hP d (List.mem_cons_of_mem _ hd)) ((List.perm_cons e).mp hp) (List.pairwise_cons.mp h1).2 (List.pairwise_cons.mp h2).2]

theorem countP_lt {α : Type} {p q : α → Bool} : ∀ {l : List α}, (∀ x ∈ l, p x = true → q x = true) → (∃ x ∈ l, q x = true ∧ p x = false) → l.countP p < l.countP q
  | [], _, h => by obtain ⟨x, hx, _⟩ := h; exact nomatch hx
  | a :: l, hs, h => by
    have mono : l.countP p ≤ l.countP q := List.countP_mono_left fun x hx => hs x (List.mem_cons_of_mem _ hx)
    rw [List.countP_cons, List.countP_cons]
    obtain ⟨x, hx, hq, hp⟩ := h
    rcases List.mem_cons.mp hx with rfl | hx
    · simp [hq, hp]; omega
    · have := countP_lt (fun x hx => hs x (List.mem_cons_of_mem _ hx)) ⟨x, hx, hq, hp⟩
      have h2 : (if p a = true then 1 else 0) ≤ (if q a = true then 1 else 0) := by
        cases e : p a with
        | true => simp [hs a (List.mem_cons_self ..) e]
        | false => simp
      omega
noncomputable def rankOf (lt : PyData → PyData → Bool) (ds : List PyData) (i : Nat) : Nat := ds.countP fun d => lt d (ds.getD i .none)
theorem rank_lt {P : PyData → Prop} {lt : PyData → PyData → Bool} (T : Tot P lt) {ds : List PyData} (hP : ∀ d ∈ ds, P d) {i j : Nat} (hi : i < ds.length) (hj : j < ds.length) :
    decide (rankOf lt ds i < rankOf lt ds j) = lt (ds.getD i .none) (ds.getD j .none) := by
  have mi := getD_mem hi
  have mj := getD_mem hj
  cases e : lt (ds.getD i .none) (ds.getD j .none) with
  | true =>
    refine decide_eq_true (countP_lt (fun x hx h => T.tr _ _ _ (hP x hx) (hP _ mi) (hP _ mj) h e) ⟨_, mi, e, T.irr _ (hP _ mi)⟩)
  | false =>
    refine decide_eq_false (Nat.not_lt.mpr (List.countP_mono_left fun x hx h => ?_))
    -- x < j, j ≤ i: x < i
    cases e2 : lt x (ds.getD i .none) with
    | true => rfl
    | false =>
      have := T.leTr (hP _ mj) (hP _ mi) (hP x hx) e e2
      rw [this] at h; exact h

/-- an insertion sort, as a witness -/
noncomputable def ins (lt : PyData → PyData → Bool) (x : PyData) : List PyData → List PyData
  | [] => [x]
  | y :: ys => if lt y x then y :: ins lt x ys else x :: y :: ys
noncomputable def isort (lt : PyData → PyData → Bool) : List PyData → List PyData
  | [] => []
  | x :: xs => ins lt x (isort lt xs)
theorem ins_perm {lt : PyData → PyData → Bool} {x : PyData} : ∀ {ys : List PyData}, (ins lt x ys).Perm (x :: ys)
  | [] => List.Perm.refl _
  | y :: ys => by
    unfold ins
    split
    · exact (List.Perm.cons y ins_perm).trans (List.Perm.swap x y ys)
    · exact List.Perm.refl _
theorem isort_perm {lt : PyData → PyData → Bool} : ∀ {xs : List PyData}, (isort lt xs).Perm xs
  | [] => List.Perm.refl _
  | x :: xs => ins_perm.trans (List.Perm.cons x isort_perm)
theorem ins_sorted {P : PyData → Prop} {lt : PyData → PyData → Bool} (T : Tot P lt) {x : PyData} (hx : P x) : ∀ {ys : List PyData}, (∀ y ∈ ys, P y) → ys.Pairwise (fun a b => lt b a = false) → (ins lt x ys).Pairwise (fun a b => lt b a = false)
  | [], _, _ => List.pairwise_singleton ..
  | y :: ys, hP, h => by
    have hy := hP y (List.mem_cons_self ..)
    obtain ⟨h1, h2⟩ := List.pairwise_cons.mp h
    unfold ins
    split
    · rename_i e
      refine List.pairwise_cons.mpr ⟨fun z hz => ?_, ins_sorted T hx (fun z hz => hP z (List.mem_cons_of_mem _ hz)) h2⟩
      rcases List.mem_cons.mp (ins_perm.mem_iff.mp hz) with rfl | hz
      · exact T.le hy hx e
      · exact h1 z hz
    · rename_i e
      have e : lt y x = false := by simpa using e
      refine List.pairwise_cons.mpr ⟨fun z hz => ?_, h⟩
      rcases List.mem_cons.mp hz with rfl | hz
      · exact e
      · exact T.leTr hx hy (hP z (List.mem_cons_of_mem _ hz)) e (h1 z hz)
theorem isort_sorted {P : PyData → Prop} {lt : PyData → PyData → Bool} (T : Tot P lt) : ∀ {xs : List PyData}, (∀ y ∈ xs, P y) → (isort lt xs).Pairwise (fun a b => lt b a = false)
  | [], _ => List.Pairwise.nil
  | x :: xs, hP => ins_sorted T (hP x (List.mem_cons_self ..)) (fun y hy => hP y (List.mem_cons_of_mem _ (isort_perm.mem_iff.mp hy))) (isort_sorted T fun y hy => hP y (List.mem_cons_of_mem _ hy))
theorem isort_of {P : PyData → Prop} {lt : PyData → PyData → Bool} (T : Tot P lt) {xs : List PyData} (hP : ∀ y ∈ xs, P y) : SortedOf lt xs (isort lt xs) := ⟨isort_perm, isort_sorted T hP⟩

/-- the kinds of items that the law sorts -/
noncomputable def SortKinds (ds : List PyData) : Prop := (∀ d ∈ ds, ∃ xs, d = .list xs) ∨ ∀ d ∈ ds, ∃ a b c, d = .tuple [.int a, .int b, .str c]

section
variable {prog : Program} {w : World} {A : Around} {hb g : Heap} {I M : List Addr} {env : Env} {ρ : Store} {K : Frag}

theorem sorted_at {P : PyData → Prop} {s : Shared} {l L : Addr} {vs : List Value} {ds : List PyData} {mL : Str → Option Value} {Q : Value → Shared → Prop} {E : Value → Shared → Prop} (n : s.heap.Ns L mL) (hLM : L ∈ M) (T : Tot P (pyC false)) (hP : ∀ d ∈ ds, P d) (hg : Gd ds) (hk : SortKinds ds) (h64 : ds.length < 64) (hu : A.units + 80 < cLine)
    (hl : LstAt s.heap l vs) (hr : RepL M s.heap vs ds)
    (k : ∀ D ws h', KeepM [L] s.heap h' → h'.Ns L mL → s.heap.get? D = none → LstAt h' D ws → RepL (D :: M) h' ws (isort (pyC false) ds) → Q (.ref D) { s with heap := h' }) :
    wpAny (model prog w) A (call (.builtin "sorted") [.ref l]) Q E s := by
  have hlen := hr.length
  have oth : ∀ {D : Addr}, s.heap.get? D = none → ∀ a ∈ D :: M, a ∈ M ∨ s.heap.get? a = none := fun hD a ha => (List.mem_cons.mp ha).elim (fun e => .inr (e ▸ hD)) .inl
  by_cases h2 : vs.length < 2
  · refine sorted_short hl.isList h2 fun D c h' hk hD hDo => ?_
    have kk : KeepM [] s.heap h' := fun b o _ e => hk b o e
    refine k D vs h' (keep_nil kk) (ns_keep n kk) hD ⟨c, hDo⟩ ?_
    have : isort (pyC false) ds = ds := by
      match ds, hlen, h2 with
      | [], _, _ => rfl
      | [d], _, _ => rfl
      | _ :: _ :: _, h, h2 => simp at h; omega
    rw [this]; exact (hr.other (oth hD)).keep (keep_nil kk)
  · have h2 : 2 ≤ vs.length := Nat.not_lt.mp h2
    refine kat_sorted (frE n) newsE hl.isList h2 (by omega) fun D e1 h' F N hD => ?_
    have kk := newsE_keep1 N
    have hN := N _ (List.mem_cons_self ..)
    have hfresh : s.heap.get? D = none := by
      cases e : s.heap.get? D with
      | none => rfl
      | some o => exact absurd (hD (D, o) (mem_objsBut.mpr ⟨e, hN.2.1⟩)) (Nat.lt_irrefl _)
    have kM : KeepM M s.heap h' := kk.sub fun x hx => by simp at hx; rw [hx]; exact hLM
    have hr' := hr.keep kM
    have units : A.in1.in1.units + 65 < cLine := by simp only [Around.in1_units]; omega
    have item : ∀ i, i < vs.length → Rep M h' (vs.getD i .none) (ds.getD i .none) := fun i hi => by
      obtain ⟨v, hv, r⟩ := hr'.get (getD_some (es := ds) (p := i) (by omega))
      have : vs.getD i .none = v := by rw [List.getD_eq_getElem?_getD, hv]; rfl
      rw [this]; exact r
    have fin : ∀ κ, (∀ i j C, i < vs.length → j < vs.length → C (decide (rankOf (pyC false) ds i < rankOf (pyC false) ds j)) { s with heap := h' } → kas_ask prog w A.in1.in1 κ vs i j C { s with heap := h' }) →
        (kas_sort vs.length).kasWp (kas_ask prog w A.in1.in1 κ vs) (fun p s'' => KasFin {} L mL D e1 (p.toList.map fun i => vs.getD i Value.none) (fun s3 => Q (.ref D) s3) s'') { s with heap := h' } := by
      intro κ hc
      refine HT.wp hc (fun p hp => ?_) (sort_ok (r := rankOf (pyC false) ds) h2)
      obtain ⟨V, hs⟩ := hp
      refine KasFin.intro F N (.head fun q hq => Nat.ne_of_lt (hD q hq)) fun h'' c F'' N'' => ?_
      have kk' := newsE_keep1 N''
      have kM' : KeepM (D :: M) s.heap h'' := kk'.sub fun x hx => by simp at hx; rw [hx]; exact List.mem_cons_of_mem _ hLM
      have hN'' := N'' _ (List.mem_cons_self ..)
      refine k D _ h'' kk' F''.ns hfresh ⟨c, hN''.1⟩ ?_
      have hpl : ∀ i ∈ p.toList, i < ds.length := fun i hi => by
        have := (V.mem_iff (a := i)).mp (by simpa using hi)
        simp at this; omega
      have e : isort (pyC false) ds = p.toList.map fun i => ds.getD i .none := by
        refine sorted_unique T (fun d hd => hP d (isort_perm.mem_iff.mp hd)) ?_ (isort_sorted T hP) ?_
        · refine isort_perm.trans (List.Perm.symm ?_)
          have V' : p.toList.Perm (List.range vs.length) := by simpa using Array.perm_iff_toList_perm.mp V
          refine (V'.map _).trans (List.Perm.of_eq ?_)
          rw [hlen]
          apply List.ext_getElem
          · simp
          · intro i h1 h2; simp at h1; simp [h1]
        · rw [List.pairwise_map]
          refine List.pairwise_iff_getElem.mpr fun i j hi hj hij => ?_
          have z : p.toList.length = vs.length := by rw [Array.length_toList, V.size]
          have h1 := hs i j (Nat.le_of_lt hij) (by omega)
          have h1' : rankOf (pyC false) ds p.toList[i] ≤ rankOf (pyC false) ds p.toList[j] := by
            have q : ∀ (m : Nat) (hm : m < p.toList.length), p.getD m 0 = p.toList[m] := fun m hm => by
              have : m < p.size := by simpa using hm
              simp [Array.getD, this]
            unfold ky at h1
            rw [q i hi, q j hj] at h1; exact h1
          have := rank_lt T hP (hpl _ (List.getElem_mem hj)) (hpl _ (List.getElem_mem hi))
          rw [← this]
          exact decide_eq_false (Nat.not_lt.mpr h1')
      rw [e]
      have rs := (hr.other (oth hfresh)).keep kM'
      clear e hs V
      generalize p.toList = l at hpl
      induction l with
      | nil => exact .nil
      | cons i l ih =>
        have hi := hpl i (List.mem_cons_self ..)
        obtain ⟨v, hv, r⟩ := rs.get (getD_some (es := ds) (p := i) hi)
        have q : vs.getD i .none = v := by rw [List.getD_eq_getElem?_getD, hv]; rfl
        refine .cons ?_ (ih fun j hj => hpl j (List.mem_cons_of_mem _ hj))
        show Rep _ _ (vs.getD i .none) (ds.getD i .none)
        rw [q]; exact r
    rcases hk with hk | hk
    · refine kas_kind (T := .type "list") h2 (fun v hv => ?_) (by decide) (by decide) (fin _ fun i j C hi hj hC => ?_)
      · obtain ⟨d, hd, rd⟩ := hr'.reads_mem v hv
        obtain ⟨xs, rfl⟩ := hk d hd
        cases rd with
        | list ha hl' _ => obtain ⟨c, e⟩ := hl'; exact (Looks.ld e).andThen .now
      · have ri := item i hi
        have rj := item j hj
        obtain ⟨xs, ex⟩ := hk _ (getD_mem (es := ds) (p := i) (by omega))
        obtain ⟨ys, ey⟩ := hk _ (getD_mem (es := ds) (p := j) (by omega))
        have ci := hg.1 _ (getD_mem (es := ds) (p := i) (by omega)) _ (getD_mem (es := ds) (p := j) (by omega))
        have di := hg.2 _ (getD_mem (es := ds) (p := i) (by omega))
        rw [rank_lt T hP (by omega) (by omega)] at hC
        rw [ex] at ri ci di hC
        rw [ey] at rj ci hC
        exact lt_lists units ri rj ci di hC
    · have tups : ∀ {vs : List Value} {ds : List PyData}, RepL M h' vs ds → (∀ d ∈ ds, ∃ a b c, d = .tuple [.int a, .int b, .str c]) → ∃ fs, KatTups h' vs fs ∧ fs.length = vs.length ∧ ∀ f ∈ fs, ∃ i t, f = .int i t := by
        intro vs
        induction vs with
        | nil => intro ds r _; exact ⟨[], .nil, rfl, fun f hf => nomatch hf⟩
        | cons v vs ih =>
          intro ds r hd
          cases r with
          | cons r1 r2 =>
            obtain ⟨fs, t, h1, h2⟩ := ih r2 fun d hd' => hd d (List.mem_cons_of_mem _ hd')
            obtain ⟨a, b, c, rfl⟩ := hd _ (List.mem_cons_self ..)
            cases r1 with
            | @tuple X us _ hX tx qx =>
              obtain ⟨o, ho, hc, m, hd'⟩ := tx
              cases qx with
              | cons q1 q2 =>
                obtain ⟨tt, rfl⟩ := q1.int'
                refine ⟨.int a tt :: fs, .cons ho hc hd' (by simp) t, by simp [h1], fun f hf => ?_⟩
                rcases List.mem_cons.mp hf with rfl | hf
                · exact ⟨_, _, rfl⟩
                · exact h2 f hf
      obtain ⟨fs, t, h1, hi⟩ := tups hr' hk
      refine kat_kind (T := .type "int") t (by omega) (fun f hf => ?_) (by decide) (fin _ fun i j C hi hj hC => ?_)
      · obtain ⟨i, tt, rfl⟩ := hi f hf
        exact .now
      · have ri := item i hi
        have rj := item j hj
        obtain ⟨a, b, c, ex⟩ := hk _ (getD_mem (es := ds) (p := i) (by omega))
        obtain ⟨a', b', c', ey⟩ := hk _ (getD_mem (es := ds) (p := j) (by omega))
        rw [rank_lt T hP (by omega) (by omega)] at hC
        rw [ex] at ri hC
        rw [ey] at rj hC
        exact lt_tup3 ri rj hC

theorem pf_sorted {P : PyData → Prop} {f : Str} {e : PySem.Expr} {ds : List PyData} {p pos : Pos} (B : BaseOk K hb) (hf : glb env.scope f = true) (hn : nsIn K mainGlobals f = some none) (hv : bootBuiltins f = some (.builtin "sorted")) (hnn : f ≠ "__name__")
    (T : Tot P (pyC false)) (hP : ∀ d ∈ ds, P d) (hg : Gd ds) (hk : SortKinds ds) (h64 : ds.length < 64) (hu : A.units + 80 < cLine)
    (he : PO prog w A hb g I M env ρ e (.list ds)) (hst : starEach [e] env = [(false, eval e env)] := by rfl) : PF prog w A hb g I M env ρ (.Call (.Name f p) [e] [] pos) (isort (pyC false) ds) := fun s S mL n Q E k =>
  Call_Name1 (St.blt B S hf hn hv hnn (PySem.callWith_builtin1 ((he s S).then n fun u h₁ tk₁ k₁ n₁ r₁ => by
    obtain ⟨a, vs, rfl, l, q⟩ := r₁.list
    have S₁ := S.grow' n k₁ n₁
    refine sorted_at (M := M) (s := { s with heap := h₁, toks := tk₁ }) n₁ S.LM T hP hg hk h64 hu l q fun D ws h' kk nn hD lD rD => ?_
    refine k _ h' tk₁ (k₁.trans kk) nn ⟨D, ws, rfl, none_of_keep n n₁ k₁ hD, lD, rD⟩))) hst
end
end Oh

-- OhMm
namespace Oh
open PySem PySem.W PyProof.Rows PySem.SeqAt PySem.Calls PySem.MeetsSeq

/-! ### min and max of items that stand on the heap -/
section
variable {prog : Program} {w : World} {A : Around} {R : Result → Shared → Prop} {I : Addr} {fp wr : List Addr} {n : Nat} {P : Nat → Value → Prop} {St : Nat → Heap → Prop} {M : List Addr} {hb g : Heap} {I' : List Addr} {env : Env} {ρ : Store} {K : Frag}

theorem min_loopH (W : Walks prog w A.in1 I fp wr n P St) (bt : Nat → Nat → Bool) (h0 : Heap) (S : Addr) (hSf : S ∉ fp)
    (hcmp : ∀ i j vi vj (s : Shared) (Q : Value → Shared → Prop) (E : Value → Shared → Prop), (∀ b o, b ∉ wr → b ≠ S → h0.get? b = some o → s.heap.get? b = some o) → P i vi → P j vj → Q (.bool (bt i j)) s → wpAny (model prog w) A.in1 (richCompare .Lt vi vj) Q E s) :
    ∀ (k j : Nat) (s : Shared) (vb : Value) (c : Nat), n - (j + 1) = k → j + 1 ≤ n → St (j + 1) s.heap → P (argBest bt j) vb → (∀ b o, b ∉ wr → b ≠ S → h0.get? b = some o → s.heap.get? b = some o) →
    s.heap.get? S = some { cls := .type "list", dict := none, data := .seq #[vb, vb] c, slots := #[] } →
    (∀ v h' tk, P (argBest bt (n - 1)) v → (∀ b o, b ∉ wr → b ≠ S → s.heap.get? b = some o → h'.get? b = some o) → R (.ok (.ret v)) { s with heap := h', toks := tk }) →
    codeAny (model prog w) A (.builtin "min.loop" ⟨[.ref I, .none, .ref S], []⟩) R s := by
  have hSw : S ∉ wr := fun h => hSf (W.sub _ h)
  have hname : (toString "min" ++ toString ".loop" : String) = "min.loop" := by decide
  intro k
  induction k with
  | zero =>
    intro j s vb c hk hj hst hPb hk0 hS hR
    have hin : j + 1 = n := om_stop hk hj
    refine codeAny_builtin F.entry_min_loop ?_
    rw [Around.under_plainId F.plain_min_loop _]
    show wpAny _ A.in1 (seqItems? (.ref S) >>= _) _ _ s
    refine wpAny_bind (wpAny_seqItems hS rfl ?_)
    show wpAny _ A.in1 (tryCatch (pyNext (.ref I)) _ >>= _) _ _ s
    refine wpAny_bind (wpAny_tryCatch (W.done s _ _ (hin ▸ hst) fun h' tk hk' => ?_))
    have hS' := hk' S _ hSw hS
    show wpAny _ A.in1 (updateSeq S (fun _ => #[]) >>= _) _ _ _
    refine wpAny_bind ?_
    refine wpAny_updateSeq hS' rfl (wpAny_bind (wpAny_letGo (wpAny_pure ?_)))
    refine hR vb _ tk (by rw [← hin]; exact hPb) fun b o hbw hbS e => (Heap.get?_update_other _ _ (Ne.symm hbS)).trans (hk' b o hbw e)
  | succ k ih =>
    intro j s vb c hk hj hst hPb hk0 hS hR
    have hlt : j + 1 < n := (om_next hk).1
    refine codeAny_builtin F.entry_min_loop ?_
    rw [Around.under_plainId F.plain_min_loop _]
    show wpAny _ A.in1 (seqItems? (.ref S) >>= _) _ _ s
    refine wpAny_bind (wpAny_seqItems hS rfl ?_)
    show wpAny _ A.in1 (tryCatch (pyNext (.ref I)) _ >>= _) _ _ s
    refine wpAny_bind (wpAny_tryCatch (W.item (j + 1) s _ _ hlt hst fun v h' tk hP hst' hk' => ?_))
    have hS' := hk' S _ hSw hS
    have hk1 : ∀ b o, b ∉ wr → b ≠ S → h0.get? b = some o → h'.get? b = some o := fun b o hb1 hb2 e => hk' b o hb1 (hk0 b o hb1 hb2 e)
    show wpAny _ A.in1 (tryCatch (holding [v, v] (richCompare .Lt v vb >>= _)) _ >>= _) _ _ _
    refine wpAny_bind (wpAny_tryCatch (wpAny_holding (wpAny_bind (hcmp (j + 1) (argBest bt j) v vb { s with heap := h', toks := tk } _ _ hk1 hP hPb ?_))))
    refine wpAny_bind (wpAny_holding (wpAny_truthy_bool ?_))
    refine wpAny_bind (wpAny_letGo (wpAny_pure ?_))
    cases hb : bt (j + 1) (argBest bt j) with
    | true =>
      simp only [if_true]
      refine wpAny_bind ?_
      refine wpAny_updateSeq hS' rfl (wpAny_bind (wpAny_letGo ?_))
      rw [hname]
      refine wpAny_pure ⟨plainId_quiet F.plain_min_loop _, ih (j + 1) _ v _ (om_next hk).2 hlt (W.frame _ _ _ hst' fun b hbf o e => ?_) (by simp only [argBest, hb, if_true]; exact hP) (fun b o hb1 hb2 e => (Heap.get?_update_other _ _ (Ne.symm hb2)).trans (hk1 b o hb1 hb2 e)) (Heap.get?_update_self _ hS' rfl)
        fun v' h'' tk'' hP' hk'' => ?_⟩
      · exact (Heap.get?_update_other _ _ (fun h : S = b => hSf (by rw [h]; exact hbf))).trans e
      · exact hR v' h'' tk'' hP' fun b o hbw hbS e => hk'' b o hbw hbS ((Heap.get?_update_other _ _ (Ne.symm hbS)).trans (hk' b o hbw e))
    | false =>
      simp only [Bool.false_eq_true, if_false]
      refine wpAny_bind (wpAny_letGo ?_)
      rw [hname]
      refine wpAny_pure ⟨plainId_quiet F.plain_min_loop _, ih (j + 1) _ vb c (om_next hk).2 hlt hst' (by simp only [argBest, hb, Bool.false_eq_true, if_false]; exact hPb) hk1 hS' fun v' h'' tk'' hP' hk'' => ?_⟩
      exact hR v' h'' tk'' hP' fun b o hbw hbS e => hk'' b o hbw hbS (hk' b o hbw e)

theorem min_at {s : Shared} {l : Addr} {vs : List Value} {ds : List PyData} {Q : Value → Shared → Prop} {E : Value → Shared → Prop} (hh : A.handled = none) (hu : A.units + 80 < cLine) (hg : Gd ds) (hl : LstAt s.heap l vs) (hr : RepL M s.heap vs ds) (hn : 0 < ds.length)
    (k : ∀ v h' tk, (∀ b o, s.heap.get? b = some o → h'.get? b = some o) → Rep M h' v (ds.getD (argBest (fun i j => pyC false (ds.getD i .none) (ds.getD j .none)) (ds.length - 1)) .none) → Q v { s with heap := h', toks := tk }) :
    wpAny (model prog w) A (call (.builtin "min") [.ref l]) Q E s := by
  have hname : (toString "min" ++ toString ".loop" : String) = "min.loop" := by decide
  have hlen := hr.length
  refine call_function_tree F.kind_min F.plain_min F.entry_min (F.args_min1 _) ?_
  show wpAny _ A.in1 (Builtin.Builtins.bindParams "min" ["key", "default"] 0 ⟨[], []⟩ >>= _) _ _ s
  refine wpAny_bind (wpAny_of_eq (show Builtin.Builtins.bindParams "min" ["key", "default"] 0 ⟨[], []⟩ = pure [none, none] from rfl) ?_)
  refine wpAny_bind (wpAny_pure ?_)
  refine wpAny_bind (wpAny_pyIter_list hl.isList ?_)
  have hal : l < s.heap.objs.size := by obtain ⟨c, e⟩ := hl; exact Heap.lt_size e
  have W := Walks.list (prog := prog) (w := w) (A := A.in1) hh s.heap.objs.size l (Nat.ne_of_lt hal) vs.toArray
  generalize hH : s.heap.push { cls := .type "list_iterator", data := .fields #[.ref l, .int 0 0] } = H
  have old : ∀ b o, s.heap.get? b = some o → H.get? b = some o := fun b o e => by rw [← hH]; exact Heap.get?_push_of_some _ e
  have hHs : H.objs.size = s.heap.objs.size + 1 := by rw [← hH, Heap.size_push]
  have hI : H.IsListIter s.heap.objs.size l 0 := ⟨_, by rw [← hH]; exact Heap.get?_push_size _ rfl, rfl, rfl⟩
  refine wpAny_bind (wpAny_newObj_type ?_)
  have hSf : H.objs.size ∉ [s.heap.objs.size, l] := fun hm => by
    rw [hHs] at hm
    rcases List.mem_cons.mp hm with e | hm
    · exact Nat.succ_ne_self _ e
    · simp only [List.mem_singleton] at hm; exact Nat.ne_of_gt (Nat.lt_succ_of_lt hal) hm
  have up : ∀ b o, s.heap.get? b = some o → (H.push { cls := .type "list", dict := none, data := .seq (#[] : Array Value), slots := #[] }).get? b = some o := fun b o e => Heap.get?_push_of_some _ (old b o e)
  have hIs : (H.push { cls := .type "list", dict := none, data := .seq (#[] : Array Value), slots := #[] }).IsListIter s.heap.objs.size l 0 := by
    obtain ⟨o, ho, r⟩ := hI; exact ⟨o, Heap.get?_push_of_some _ ho, r⟩
  have hSo : (H.push { cls := .type "list", dict := none, data := .seq (#[] : Array Value), slots := #[] }).get? H.objs.size = some { cls := .type "list", dict := none, data := .seq (#[] : Array Value), slots := #[] } := Heap.get?_push_size _ rfl
  have hl2 : (H.push { cls := .type "list", dict := none, data := .seq (#[] : Array Value), slots := #[] }).IsList l vs.toArray := by obtain ⟨c, e⟩ := hl; exact ⟨_, up _ _ e, rfl, c, rfl⟩
  have old' : ∀ b o, s.heap.get? b = some o → b ≠ s.heap.objs.size ∧ b ≠ H.objs.size := fun b o e => by have := Heap.lt_size e; rw [hHs]; exact ⟨Nat.ne_of_lt this, Nat.ne_of_lt (Nat.lt_succ_of_lt this)⟩
  show wpAny _ _ _ _ _ { s with heap := H.push { cls := .type "list", dict := none, data := .seq (#[] : Array Value), slots := #[] } }
  generalize H.push { cls := .type "list", dict := none, data := .seq (#[] : Array Value), slots := #[] } = H3 at *
  generalize H.objs.size = S at *
  rw [hname]
  refine wpAny_pure ⟨plainId_quiet F.plain_min_loop _, ?_⟩
  refine codeAny_builtin F.entry_min_loop ?_
  rw [Around.under_plainId F.plain_min_loop _]
  show wpAny _ A.in1 (seqItems? (.ref S) >>= _) _ _ _
  refine wpAny_bind (wpAny_seqItems hSo rfl ?_)
  show wpAny _ A.in1 (tryCatch (pyNext (.ref s.heap.objs.size)) _ >>= _) _ _ _
  refine wpAny_bind (wpAny_tryCatch (W.item 0 _ _ _ (by simp; omega) ⟨hIs, hl2⟩ fun v h' tk hP hst' hk' => ?_))
  have hSw : S ∉ [s.heap.objs.size] := fun h => hSf (W.sub _ h)
  have hS' := hk' S _ hSw hSo
  show wpAny _ A.in1 (updateSeq S (fun _ => #[v, v]) >>= _) _ _ _
  refine wpAny_bind ?_
  refine wpAny_updateSeq hS' rfl ?_
  rw [hname]
  have cmp : ∀ i j vi vj (s' : Shared) (Q : Value → Shared → Prop) (E : Value → Shared → Prop), (∀ b o, b ∉ [s.heap.objs.size] → b ≠ S → s.heap.get? b = some o → s'.heap.get? b = some o) → vs.toArray[i]? = some vi → vs.toArray[j]? = some vj → Q (.bool (pyC false (ds.getD i .none) (ds.getD j .none))) s' → wpAny (model prog w) A.in1 (richCompare .Lt vi vj) Q E s' := by
    intro i j vi vj s' Q E hkk hi hj hq
    have kM : KeepM [] s.heap s'.heap := fun b o _ e => hkk b o (by simpa using (old' b o e).1) (old' b o e).2 e
    obtain ⟨di, hdi, ri⟩ := hr.get' (k := i) (by simpa using hi)
    obtain ⟨dj, hdj, rj⟩ := hr.get' (k := j) (by simpa using hj)
    have ei : ds.getD i .none = di := by rw [List.getD_eq_getElem?_getD, hdi]; rfl
    have ej : ds.getD j .none = dj := by rw [List.getD_eq_getElem?_getD, hdj]; rfl
    rw [ei, ej] at hq
    have mi := List.mem_of_getElem? hdi
    have mj := List.mem_of_getElem? hdj
    exact cm_lt (M := M) (A := A.in1) (by simp only [Around.in1_units]; omega) (hg.2 di mi) (hg.1 di mi dj mj) (ri.keep (keep_nil kM)).o (rj.keep (keep_nil kM)).o hq
  refine wpAny_pure ⟨plainId_quiet F.plain_min_loop _, min_loopH W (fun i j => pyC false (ds.getD i .none) (ds.getD j .none)) s.heap S hSf cmp _ 0 _ v _ rfl (by simp; omega) (W.frame _ _ _ hst' fun b hbf o e => ?_) hP (fun b o hb1 hb2 e => ?_) (Heap.get?_update_self _ hS' rfl) fun v' h'' tk'' hP' hk'' => ?_⟩
  · exact (Heap.get?_update_other _ _ (fun h : S = b => hSf (by rw [h]; exact hbf))).trans e
  · exact (Heap.get?_update_other _ _ (Ne.symm hb2)).trans (hk' b o hb1 (up b o e))
  · have kk : ∀ b o, s.heap.get? b = some o → h''.get? b = some o := fun b o e => hk'' b o (by simpa using (old' b o e).1) (old' b o e).2 ((Heap.get?_update_other _ _ (Ne.symm (old' b o e).2)).trans (hk' b o (by simpa using (old' b o e).1) (up b o e)))
    refine k v' h'' tk'' kk ?_
    have hP'' : vs[argBest (fun i j => pyC false (ds.getD i .none) (ds.getD j .none)) (vs.toArray.size - 1)]? = some v' := by simpa using hP'
    obtain ⟨d, hd, r⟩ := hr.get' hP''
    have ez : vs.toArray.size = ds.length := by simp [hlen]
    rw [ez] at hd
    rw [List.getD_eq_getElem?_getD, hd]
    exact r.keep fun b o _ e => kk b o e

theorem pe_min {f : Str} {e : PySem.Expr} {ds : List PyData} {p pos : Pos} {d : PyData} (B : BaseOk K hb) (hf : glb env.scope f = true) (hn : nsIn K mainGlobals f = some none) (hv : bootBuiltins f = some (.builtin "min")) (hnn : f ≠ "__name__") (hh : A.handled = none) (hu : A.units + 80 < cLine) (hg : Gd ds) (hne : 0 < ds.length)
    (he : PO prog w A hb g I' M env ρ e (.list ds)) (hd : ds.getD (argBest (fun i j => pyC false (ds.getD i .none) (ds.getD j .none)) (ds.length - 1)) .none = d) (hst : starEach [e] env = [(false, eval e env)] := by rfl) : PE prog w A hb g I' M env ρ (.Call (.Name f p) [e] [] pos) d :=
  ev_blt1 B hf hn hv hnn he (fun u s S r => by
    obtain ⟨a, vs, rfl, l, q⟩ := r.list
    refine Ev.next fun mL n Q E k => min_at hh hu hg l q hne fun v h' tk kk rv => ?_
    have kM : KeepM [] s.heap h' := fun b o _ e => kk b o e
    exact k v h' tk (keep_nil kM) (ns_keep n kM) (hd ▸ rv)) hst

theorem max_loopH (W : Walks prog w A.in1 I fp wr n P St) (bt : Nat → Nat → Bool) (h0 : Heap) (S : Addr) (hSf : S ∉ fp)
    (hcmp : ∀ i j vi vj (s : Shared) (Q : Value → Shared → Prop) (E : Value → Shared → Prop), (∀ b o, b ∉ wr → b ≠ S → h0.get? b = some o → s.heap.get? b = some o) → P i vi → P j vj → Q (.bool (bt i j)) s → wpAny (model prog w) A.in1 (richCompare .Gt vi vj) Q E s) :
    ∀ (k j : Nat) (s : Shared) (vb : Value) (c : Nat), n - (j + 1) = k → j + 1 ≤ n → St (j + 1) s.heap → P (argBest bt j) vb → (∀ b o, b ∉ wr → b ≠ S → h0.get? b = some o → s.heap.get? b = some o) →
    s.heap.get? S = some { cls := .type "list", dict := none, data := .seq #[vb, vb] c, slots := #[] } →
    (∀ v h' tk, P (argBest bt (n - 1)) v → (∀ b o, b ∉ wr → b ≠ S → s.heap.get? b = some o → h'.get? b = some o) → R (.ok (.ret v)) { s with heap := h', toks := tk }) →
    codeAny (model prog w) A (.builtin "max.loop" ⟨[.ref I, .none, .ref S], []⟩) R s := by
  have hSw : S ∉ wr := fun h => hSf (W.sub _ h)
  have hname : (toString "max" ++ toString ".loop" : String) = "max.loop" := by decide
  intro k
  induction k with
  | zero =>
    intro j s vb c hk hj hst hPb hk0 hS hR
    have hin : j + 1 = n := om_stop hk hj
    refine codeAny_builtin F.entry_max_loop ?_
    rw [Around.under_plainId F.plain_max_loop _]
    show wpAny _ A.in1 (seqItems? (.ref S) >>= _) _ _ s
    refine wpAny_bind (wpAny_seqItems hS rfl ?_)
    show wpAny _ A.in1 (tryCatch (pyNext (.ref I)) _ >>= _) _ _ s
    refine wpAny_bind (wpAny_tryCatch (W.done s _ _ (hin ▸ hst) fun h' tk hk' => ?_))
    have hS' := hk' S _ hSw hS
    show wpAny _ A.in1 (updateSeq S (fun _ => #[]) >>= _) _ _ _
    refine wpAny_bind ?_
    refine wpAny_updateSeq hS' rfl (wpAny_bind (wpAny_letGo (wpAny_pure ?_)))
    refine hR vb _ tk (by rw [← hin]; exact hPb) fun b o hbw hbS e => (Heap.get?_update_other _ _ (Ne.symm hbS)).trans (hk' b o hbw e)
  | succ k ih =>
    intro j s vb c hk hj hst hPb hk0 hS hR
    have hlt : j + 1 < n := (om_next hk).1
    refine codeAny_builtin F.entry_max_loop ?_
    rw [Around.under_plainId F.plain_max_loop _]
    show wpAny _ A.in1 (seqItems? (.ref S) >>= _) _ _ s
    refine wpAny_bind (wpAny_seqItems hS rfl ?_)
    show wpAny _ A.in1 (tryCatch (pyNext (.ref I)) _ >>= _) _ _ s
    refine wpAny_bind (wpAny_tryCatch (W.item (j + 1) s _ _ hlt hst fun v h' tk hP hst' hk' => ?_))
    have hS' := hk' S _ hSw hS
    have hk1 : ∀ b o, b ∉ wr → b ≠ S → h0.get? b = some o → h'.get? b = some o := fun b o hb1 hb2 e => hk' b o hb1 (hk0 b o hb1 hb2 e)
    show wpAny _ A.in1 (tryCatch (holding [v, v] (richCompare .Gt v vb >>= _)) _ >>= _) _ _ _
    refine wpAny_bind (wpAny_tryCatch (wpAny_holding (wpAny_bind (hcmp (j + 1) (argBest bt j) v vb { s with heap := h', toks := tk } _ _ hk1 hP hPb ?_))))
    refine wpAny_bind (wpAny_holding (wpAny_truthy_bool ?_))
    refine wpAny_bind (wpAny_letGo (wpAny_pure ?_))
    cases hb : bt (j + 1) (argBest bt j) with
    | true =>
      simp only [if_true]
      refine wpAny_bind ?_
      refine wpAny_updateSeq hS' rfl (wpAny_bind (wpAny_letGo ?_))
      rw [hname]
      refine wpAny_pure ⟨plainId_quiet F.plain_max_loop _, ih (j + 1) _ v _ (om_next hk).2 hlt (W.frame _ _ _ hst' fun b hbf o e => ?_) (by simp only [argBest, hb, if_true]; exact hP) (fun b o hb1 hb2 e => (Heap.get?_update_other _ _ (Ne.symm hb2)).trans (hk1 b o hb1 hb2 e)) (Heap.get?_update_self _ hS' rfl)
        fun v' h'' tk'' hP' hk'' => ?_⟩
      · exact (Heap.get?_update_other _ _ (fun h : S = b => hSf (by rw [h]; exact hbf))).trans e
      · exact hR v' h'' tk'' hP' fun b o hbw hbS e => hk'' b o hbw hbS ((Heap.get?_update_other _ _ (Ne.symm hbS)).trans (hk' b o hbw e))
    | false =>
      simp only [Bool.false_eq_true, if_false]
      refine wpAny_bind (wpAny_letGo ?_)
      rw [hname]
      refine wpAny_pure ⟨plainId_quiet F.plain_max_loop _, ih (j + 1) _ vb c (om_next hk).2 hlt hst' (by simp only [argBest, hb, Bool.false_eq_true, if_false]; exact hPb) hk1 hS' fun v' h'' tk'' hP' hk'' => ?_⟩
      exact hR v' h'' tk'' hP' fun b o hbw hbS e => hk'' b o hbw hbS (hk' b o hbw e)

theorem max_at {s : Shared} {l : Addr} {vs : List Value} {ds : List PyData} {Q : Value → Shared → Prop} {E : Value → Shared → Prop} (hh : A.handled = none) (hu : A.units + 80 < cLine) (hg : Gd ds) (hl : LstAt s.heap l vs) (hr : RepL M s.heap vs ds) (hn : 0 < ds.length)
    (k : ∀ v h' tk, (∀ b o, s.heap.get? b = some o → h'.get? b = some o) → Rep M h' v (ds.getD (argBest (fun i j => pyC true (ds.getD i .none) (ds.getD j .none)) (ds.length - 1)) .none) → Q v { s with heap := h', toks := tk }) :
    wpAny (model prog w) A (call (.builtin "max") [.ref l]) Q E s := by
  have hname : (toString "max" ++ toString ".loop" : String) = "max.loop" := by decide
  have hlen := hr.length
  refine call_function_tree F.kind_max F.plain_max F.entry_max (F.args_max1 _) ?_
  show wpAny _ A.in1 (Builtin.Builtins.bindParams "max" ["key", "default"] 0 ⟨[], []⟩ >>= _) _ _ s
  refine wpAny_bind (wpAny_of_eq (show Builtin.Builtins.bindParams "max" ["key", "default"] 0 ⟨[], []⟩ = pure [none, none] from rfl) ?_)
  refine wpAny_bind (wpAny_pure ?_)
  refine wpAny_bind (wpAny_pyIter_list hl.isList ?_)
  have hal : l < s.heap.objs.size := by obtain ⟨c, e⟩ := hl; exact Heap.lt_size e
  have W := Walks.list (prog := prog) (w := w) (A := A.in1) hh s.heap.objs.size l (Nat.ne_of_lt hal) vs.toArray
  generalize hH : s.heap.push { cls := .type "list_iterator", data := .fields #[.ref l, .int 0 0] } = H
  have old : ∀ b o, s.heap.get? b = some o → H.get? b = some o := fun b o e => by rw [← hH]; exact Heap.get?_push_of_some _ e
  have hHs : H.objs.size = s.heap.objs.size + 1 := by rw [← hH, Heap.size_push]
  have hI : H.IsListIter s.heap.objs.size l 0 := ⟨_, by rw [← hH]; exact Heap.get?_push_size _ rfl, rfl, rfl⟩
  refine wpAny_bind (wpAny_newObj_type ?_)
  have hSf : H.objs.size ∉ [s.heap.objs.size, l] := fun hm => by
    rw [hHs] at hm
    rcases List.mem_cons.mp hm with e | hm
    · exact Nat.succ_ne_self _ e
    · simp only [List.mem_singleton] at hm; exact Nat.ne_of_gt (Nat.lt_succ_of_lt hal) hm
  have up : ∀ b o, s.heap.get? b = some o → (H.push { cls := .type "list", dict := none, data := .seq (#[] : Array Value), slots := #[] }).get? b = some o := fun b o e => Heap.get?_push_of_some _ (old b o e)
  have hIs : (H.push { cls := .type "list", dict := none, data := .seq (#[] : Array Value), slots := #[] }).IsListIter s.heap.objs.size l 0 := by
    obtain ⟨o, ho, r⟩ := hI; exact ⟨o, Heap.get?_push_of_some _ ho, r⟩
  have hSo : (H.push { cls := .type "list", dict := none, data := .seq (#[] : Array Value), slots := #[] }).get? H.objs.size = some { cls := .type "list", dict := none, data := .seq (#[] : Array Value), slots := #[] } := Heap.get?_push_size _ rfl
  have hl2 : (H.push { cls := .type "list", dict := none, data := .seq (#[] : Array Value), slots := #[] }).IsList l vs.toArray := by obtain ⟨c, e⟩ := hl; exact ⟨_, up _ _ e, rfl, c, rfl⟩
  have old' : ∀ b o, s.heap.get? b = some o → b ≠ s.heap.objs.size ∧ b ≠ H.objs.size := fun b o e => by have := Heap.lt_size e; rw [hHs]; exact ⟨Nat.ne_of_lt this, Nat.ne_of_lt (Nat.lt_succ_of_lt this)⟩
  show wpAny _ _ _ _ _ { s with heap := H.push { cls := .type "list", dict := none, data := .seq (#[] : Array Value), slots := #[] } }
  generalize H.push { cls := .type "list", dict := none, data := .seq (#[] : Array Value), slots := #[] } = H3 at *
  generalize H.objs.size = S at *
  rw [hname]
  refine wpAny_pure ⟨plainId_quiet F.plain_max_loop _, ?_⟩
  refine codeAny_builtin F.entry_max_loop ?_
  rw [Around.under_plainId F.plain_max_loop _]
  show wpAny _ A.in1 (seqItems? (.ref S) >>= _) _ _ _
  refine wpAny_bind (wpAny_seqItems hSo rfl ?_)
  show wpAny _ A.in1 (tryCatch (pyNext (.ref s.heap.objs.size)) _ >>= _) _ _ _
  refine wpAny_bind (wpAny_tryCatch (W.item 0 _ _ _ (by simp; omega) ⟨hIs, hl2⟩ fun v h' tk hP hst' hk' => ?_))
  have hSw : S ∉ [s.heap.objs.size] := fun h => hSf (W.sub _ h)
  have hS' := hk' S _ hSw hSo
  show wpAny _ A.in1 (updateSeq S (fun _ => #[v, v]) >>= _) _ _ _
  refine wpAny_bind ?_
  refine wpAny_updateSeq hS' rfl ?_
  rw [hname]
  have cmp : ∀ i j vi vj (s' : Shared) (Q : Value → Shared → Prop) (E : Value → Shared → Prop), (∀ b o, b ∉ [s.heap.objs.size] → b ≠ S → s.heap.get? b = some o → s'.heap.get? b = some o) → vs.toArray[i]? = some vi → vs.toArray[j]? = some vj → Q (.bool (pyC true (ds.getD i .none) (ds.getD j .none))) s' → wpAny (model prog w) A.in1 (richCompare .Gt vi vj) Q E s' := by
    intro i j vi vj s' Q E hkk hi hj hq
    have kM : KeepM [] s.heap s'.heap := fun b o _ e => hkk b o (by simpa using (old' b o e).1) (old' b o e).2 e
    obtain ⟨di, hdi, ri⟩ := hr.get' (k := i) (by simpa using hi)
    obtain ⟨dj, hdj, rj⟩ := hr.get' (k := j) (by simpa using hj)
    have ei : ds.getD i .none = di := by rw [List.getD_eq_getElem?_getD, hdi]; rfl
    have ej : ds.getD j .none = dj := by rw [List.getD_eq_getElem?_getD, hdj]; rfl
    rw [ei, ej] at hq
    have mi := List.mem_of_getElem? hdi
    have mj := List.mem_of_getElem? hdj
    exact cm_gt (M := M) (A := A.in1) (by simp only [Around.in1_units]; omega) (hg.2 di mi) (hg.1 di mi dj mj) (ri.keep (keep_nil kM)).o (rj.keep (keep_nil kM)).o hq
  refine wpAny_pure ⟨plainId_quiet F.plain_max_loop _, max_loopH W (fun i j => pyC true (ds.getD i .none) (ds.getD j .none)) s.heap S hSf cmp _ 0 _ v _ rfl (by simp; omega) (W.frame _ _ _ hst' fun b hbf o e => ?_) hP (fun b o hb1 hb2 e => ?_) (Heap.get?_update_self _ hS' rfl) fun v' h'' tk'' hP' hk'' => ?_⟩
  · exact (Heap.get?_update_other _ _ (fun h : S = b => hSf (by rw [h]; exact hbf))).trans e
  · exact (Heap.get?_update_other _ _ (Ne.symm hb2)).trans (hk' b o hb1 (up b o e))
  · have kk : ∀ b o, s.heap.get? b = some o → h''.get? b = some o := fun b o e => hk'' b o (by simpa using (old' b o e).1) (old' b o e).2 ((Heap.get?_update_other _ _ (Ne.symm (old' b o e).2)).trans (hk' b o (by simpa using (old' b o e).1) (up b o e)))
    refine k v' h'' tk'' kk ?_
    have hP'' : vs[argBest (fun i j => pyC true (ds.getD i .none) (ds.getD j .none)) (vs.toArray.size - 1)]? = some v' := by simpa using hP'
    obtain ⟨d, hd, r⟩ := hr.get' hP''
    have ez : vs.toArray.size = ds.length := by simp [hlen]
    rw [ez] at hd
    rw [List.getD_eq_getElem?_getD, hd]
    exact r.keep fun b o _ e => kk b o e

theorem pe_max {f : Str} {e : PySem.Expr} {ds : List PyData} {p pos : Pos} {d : PyData} (B : BaseOk K hb) (hf : glb env.scope f = true) (hn : nsIn K mainGlobals f = some none) (hv : bootBuiltins f = some (.builtin "max")) (hnn : f ≠ "__name__") (hh : A.handled = none) (hu : A.units + 80 < cLine) (hg : Gd ds) (hne : 0 < ds.length)
    (he : PO prog w A hb g I' M env ρ e (.list ds)) (hd : ds.getD (argBest (fun i j => pyC true (ds.getD i .none) (ds.getD j .none)) (ds.length - 1)) .none = d) (hst : starEach [e] env = [(false, eval e env)] := by rfl) : PE prog w A hb g I' M env ρ (.Call (.Name f p) [e] [] pos) d :=
  ev_blt1 B hf hn hv hnn he (fun u s S r => by
    obtain ⟨a, vs, rfl, l, q⟩ := r.list
    refine Ev.next fun mL n Q E k => max_at hh hu hg l q hne fun v h' tk kk rv => ?_
    have kM : KeepM [] s.heap h' := fun b o _ e => kk b o e
    exact k v h' tk (keep_nil kM) (ns_keep n kM) (hd ▸ rv)) hst

/-- which item the loop of min or max ends with -/
theorem argBest_le (bt : Nat → Nat → Bool) : ∀ k, argBest bt k ≤ k
  | 0 => Nat.le_refl _
  | k + 1 => by
    simp only [argBest]
    split
    · exact Nat.le_refl _
    · exact Nat.le_succ_of_le (argBest_le bt k)
theorem argBest_best {bt : Nat → Nat → Bool} {N : Nat} (irr : ∀ i, i < N → bt i i = false) (asym : ∀ i j, i < N → j < N → bt i j = true → bt j i = false) (tr : ∀ i j k, i < N → j < N → k < N → bt j i = false → bt k j = false → bt k i = false) :
    ∀ k, k < N → ∀ i, i ≤ k → bt i (argBest bt k) = false
  | 0, h, i, hi => by
    have : i = 0 := by omega
    subst this; exact irr 0 h
  | k + 1, h, i, hi => by
    have ih := argBest_best irr asym tr k (by omega)
    have lb := argBest_le bt k
    simp only [argBest]
    split
    · rename_i e
      by_cases q : i = k + 1
      · rw [q]; exact irr _ h
      · exact tr (k + 1) (argBest bt k) i (by omega) (by omega) (by omega) (asym _ _ h (by omega) e) (ih i (by omega))
    · rename_i e
      by_cases q : i = k + 1
      · rw [q]; simpa using e
      · exact ih i (by omega)
end
end Oh

-- OhRe
namespace Oh
open PySem PySem.Sre

noncomputable def code1 : Array Nat := #[14, 4, 0, 1, 1, 6, 1, 16, 46, 1]
noncomputable def code2 : Array Nat := #[14, 9, 4, 1, 2, 16, 10, 16, 13, 0, 7, 7, 16, 13, 16, 10, 15, 18, 5, 16, 10, 15, 13, 11, 16, 13, 5, 5, 0, 16, 10, 1, 15, 2, 0, 1]

/-- what stays while a machine runs -/
structure Cn where
  code : Array Nat
  text : Array Nat
  lim : Nat
  ls : Nat
  mks : Array (Option Nat)
  lm : Int
  li : Int

noncomputable abbrev mm (c : Cn) (start pc pos handed : Nat) (outer must : Bool) (frames : List Sre.Frame) (weight : Nat) (answer : Option Bool) (seen : Seen) : M :=
  { code := c.code, text := c.text, lim := c.lim, start, lastStart := c.ls, mustAdvance := must, pc, pos, handed, outermost := outer, marks := c.mks, lastmark := c.lm, lastindex := c.li, frames, weight, answer, seen }

section
variable {c : Cn} {st pc pos hd : Nat} {ou mu : Bool} {fr : List Sre.Frame} {w : Nat} {sn : Seen}

theorem step_lit (hpc : pc < c.code.size) (hop : ops[c.code.getD pc 0]? = some .LITERAL) :
    M.step (mm c st pc pos hd ou mu fr w none sn) = if pos < c.lim ∧ c.text.getD pos 0 = c.code.getD (pc + 1) 0 then mm c st (pc + 2) (pos + 1) hd ou mu fr w none (sn.add (c.code.getD pc 0)) else mm c st pc pos hd ou mu fr w (some false) (sn.add (c.code.getD pc 0)) := by
  have e : M.step (mm c st pc pos hd ou mu fr w none sn) = M.exec (mm c st pc pos hd ou mu fr w none sn) := by simp [M.step, mm, hpc]
  rw [e]
  unfold M.exec
  simp only [M.word, mm, Nat.add_zero, hop]
  by_cases h : pos < c.lim
  · rw [if_neg (by omega)]
    unfold accepts
    simp only [hop]
    by_cases h2 : c.text.getD pos 0 = c.code.getD (pc + 1) 0
    · rw [if_pos ⟨h, h2⟩]
      have : (c.text.getD pos 0 == c.code.getD (pc + 1) 0) = true := by simpa using h2
      rw [this]
      have iw : itemWidth c.code pc = 2 := by unfold itemWidth; rw [hop]
      simp only [iw]
    · rw [if_neg (fun q => h2 q.2)]
      have : (c.text.getD pos 0 == c.code.getD (pc + 1) 0) = false := by simpa using h2
      rw [this]
      simp [M.say]
  · rw [if_pos (by omega), if_neg (fun q => h q.1)]
    simp [M.say]

theorem step_at (hpc : pc < c.code.size) (hop : ops[c.code.getD pc 0]? = some .AT) (hk : c.code.getD (pc + 1) 0 = 1) :
    M.step (mm c st pc pos hd ou mu fr w none sn) = if pos = 0 ∨ c.text.getD (pos - 1) 0 = 10 then mm c st (pc + 2) pos hd ou mu fr w none ((sn.add (c.code.getD pc 0)).add (43 + 1)) else mm c st pc pos hd ou mu fr w (some false) ((sn.add (c.code.getD pc 0)).add (43 + 1)) := by
  have e : M.step (mm c st pc pos hd ou mu fr w none sn) = M.exec (mm c st pc pos hd ou mu fr w none sn) := by simp [M.step, mm, hpc]
  rw [e]
  unfold M.exec
  simp only [M.word, mm, Nat.add_zero, hop, hk, M.isAt]
  by_cases h : pos = 0 ∨ c.text.getD (pos - 1) 0 = 10
  · rw [if_pos h]
    have : (pos == 0 || c.text.getD (pos - 1) 0 == 10) = true := by simpa using h
    rw [this]; simp
  · rw [if_neg h]
    have : (pos == 0 || c.text.getD (pos - 1) 0 == 10) = false := by
      rw [not_or] at h
      rw [beq_eq_false_iff_ne.mpr h.1, beq_eq_false_iff_ne.mpr h.2]; rfl
    rw [this]; simp [M.say]

theorem step_jump (hpc : pc < c.code.size) (hop : ops[c.code.getD pc 0]? = some .JUMP) : M.step (mm c st pc pos hd ou mu fr w none sn) = mm c st (pc + 1 + c.code.getD (pc + 1) 0) pos hd ou mu fr w none (sn.add (c.code.getD pc 0)) := by
  have e : M.step (mm c st pc pos hd ou mu fr w none sn) = M.exec (mm c st pc pos hd ou mu fr w none sn) := by simp [M.step, mm, hpc]
  rw [e]
  unfold M.exec
  simp only [M.word, mm, Nat.add_zero, hop]

theorem step_succ (hpc : pc < c.code.size) (hop : ops[c.code.getD pc 0]? = some .SUCCESS) (hmu : mu = true → ou = true → pos ≠ st) : M.step (mm c st pc pos hd ou mu fr w none sn) = mm c st pc pos pos ou mu fr w (some true) (sn.add (c.code.getD pc 0)) := by
  have e : M.step (mm c st pc pos hd ou mu fr w none sn) = M.exec (mm c st pc pos hd ou mu fr w none sn) := by simp [M.step, mm, hpc]
  rw [e]
  unfold M.exec
  simp only [M.word, mm, Nat.add_zero, hop]
  rw [if_neg]
  · simp [M.say]
  · intro h
    simp only [Bool.false_and, Bool.false_or, Bool.and_eq_true, beq_iff_eq] at h
    exact hmu h.2.1 h.1 h.2.2

noncomputable abbrev kp (c : Cn) : Sre.Kept := { lastmark := c.lm, lastindex := c.li, whole := false, marks := #[] }
theorem step_branch (hpc : pc < c.code.size) (hop : ops[c.code.getD pc 0]? = some .BRANCH) (hne : c.code.getD (pc + 1) 0 ≠ 0) (hw : w < 1000) :
    M.step (mm c st pc pos hd ou mu fr w none sn) = mm c st (pc + 2) pos pos ou mu ({ wait := .nextBranch, pc := pc + 1, pos := pos, outermost := ou, kept := kp c } :: fr) (w + 1) none (sn.add (c.code.getD pc 0)) := by
  have e : M.step (mm c st pc pos hd ou mu fr w none sn) = M.exec (mm c st pc pos hd ou mu fr w none sn) := by simp [M.step, mm, hpc]
  rw [e]
  unfold M.exec
  simp only [M.word, mm, Nat.add_zero, hop, M.alternative]
  have : (c.code.getD (pc + 1) 0 == 0) = false := by simpa using hne
  rw [this]
  simp only [Bool.false_eq_true, if_false, M.attempt, M.frame, M.keep, Option.isSome_none]
  rw [if_neg (by simp; omega)]
  simp

theorem step_assertNot (hpc : pc < c.code.size) (hop : ops[c.code.getD pc 0]? = some .ASSERT_NOT) (h0 : c.code.getD (pc + 2) 0 = 0) (hw : w < 1000) :
    M.step (mm c st pc pos hd ou mu fr w none sn) = mm c st (pc + 3) pos pos false mu ({ wait := .lookNot, pc := pc, pos := pos, outermost := ou, kept := kp c } :: fr) (w + 1) none (sn.add (c.code.getD pc 0)) := by
  have e : M.step (mm c st pc pos hd ou mu fr w none sn) = M.exec (mm c st pc pos hd ou mu fr w none sn) := by simp [M.step, mm, hpc]
  rw [e]
  unfold M.exec
  simp only [M.word, mm, Nat.add_zero, hop, h0, Nat.not_lt_zero, if_false]
  simp only [M.attempt, M.frame, M.keep, Option.isSome_none, Bool.and_false, Bool.false_eq_true, if_false, if_true, Nat.sub_zero]
  rw [if_neg (by simp; omega)]
  simp

/-! answers -/
theorem res_branch_yes {p q : Nat} {o : Bool} {k : Sre.Kept} (hk : k.marks.size = 0) : M.step (mm c st pc pos hd ou mu ({ wait := .nextBranch, pc := p, pos := q, outermost := o, kept := k } :: fr) w (some true) sn) = mm c st p q hd o mu fr (w - 1) (some true) sn := by
  simp [M.step, mm, M.resume, M.say, hk]
theorem res_branch_no {p q : Nat} {o : Bool} (hne : c.code.getD (p + c.code.getD p 0) 0 ≠ 0) (hw : w < 1000) (hw1 : 1 ≤ w) :
    M.step (mm c st pc pos hd ou mu ({ wait := .nextBranch, pc := p, pos := q, outermost := o, kept := kp c } :: fr) w (some false) sn) =
      mm c st (p + c.code.getD p 0 + 1) q q o mu ({ wait := .nextBranch, pc := p + c.code.getD p 0, pos := q, outermost := o, kept := kp c } :: fr) w none sn := by
  have : (c.code.getD (p + c.code.getD p 0) 0 == 0) = false := by simpa using hne
  simp only [M.step, mm, Option.isSome_none, Bool.false_eq_true, if_false, M.resume, M.putBack, M.alternative, this, M.attempt, M.frame, kp, Array.size_empty, Nat.add_zero]
  rw [if_neg (by simp; omega)]
  have e : w - 1 + 1 = w := by omega
  simp [e]
theorem res_lookNot_no {p q : Nat} {o : Bool} : M.step (mm c st pc pos hd ou mu ({ wait := .lookNot, pc := p, pos := q, outermost := o, kept := kp c } :: fr) w (some false) sn) =
      mm c st (p + 1 + c.code.getD (p + 1) 0) q hd o mu fr (w - 1) none sn := by
  simp [M.step, mm, M.resume, M.putBack, kp, M.word]
theorem res_start_yes {p q : Nat} {o : Bool} : M.step (mm c st pc pos hd ou mu ({ wait := .nextStart, pc := p, pos := q, outermost := o } :: fr) w (some true) sn) = mm c st p q hd o mu fr (w - 1) (some true) sn := by
  simp [M.step, mm, M.resume, M.say]
theorem end_yes : M.step (mm c st pc pos hd ou mu [] w (some true) sn) = { mm c st pc pos hd ou mu [] w (some true) sn with outcome := some .matched } := by simp [M.step, mm]
theorem end_no : M.step (mm c st pc pos hd ou mu [] w (some false) sn) = { mm c st pc pos hd ou mu [] w (some false) sn with outcome := some .failed } := by simp [M.step, mm]

/-- the machine ends, within k steps, with P -/
noncomputable def EndsIn (k : Nat) (m : M) (P : M → Prop) : Prop := (M.runFor k m).outcome.isSome = true ∧ P (M.runFor k m)
theorem runFor_go {k : Nat} {m m' : M} {P : M → Prop} (h0 : m.outcome = none) (h : M.step m = m') (hr : EndsIn k m' P) : EndsIn (k + 1) m P := by
  unfold EndsIn
  simp only [M.runFor, h0, Option.isSome_none, Bool.false_eq_true, if_false, h]; exact hr
theorem runFor_end {m : M} {P : M → Prop} (h : m.outcome.isSome = true) (p : P m) : EndsIn 0 m P := ⟨h, p⟩
theorem runFor_some {k : Nat} {m : M} (h : m.outcome.isSome = true) : M.runFor k m = m := by
  cases k with
  | zero => rfl
  | succ k => simp [M.runFor, h]
theorem runFor_add : ∀ (a b : Nat) (m : M), M.runFor (a + b) m = M.runFor b (M.runFor a m)
  | 0, b, m => by rw [Nat.zero_add]; rfl
  | a + 1, b, m => by
    rw [show a + 1 + b = (a + b) + 1 by omega]
    by_cases h : m.outcome.isSome = true
    · rw [runFor_some h, runFor_some h, runFor_some h]
    · simp only [M.runFor, h]
      exact runFor_add a b m.step
theorem EndsIn.more {k : Nat} {m : M} {P : M → Prop} (h : EndsIn k m P) (j : Nat) : EndsIn (k + j) m P := by
  unfold EndsIn at *
  rw [runFor_add, runFor_some h.1]; exact h
noncomputable def MatchedAt (st e : Nat) (m : M) : Prop := m.outcome = some .matched ∧ m.start = st ∧ m.handed = e

/-- a match: from the branch on -/
theorem p2_at (hc : c.code = code2) (h1 : st < c.lim) (hch : c.text.getD st 0 = 10 ∨ c.text.getD st 0 = 13) :
    EndsIn 20 (mm c st 10 st hd true false [{ wait := .nextStart, pc := 10, pos := st, outermost := true }] 1 none sn) (MatchedAt st (if c.text.getD st 0 = 13 ∧ st + 1 < c.lim ∧ c.text.getD (st + 1) 0 = 10 then st + 2 else st + 1)) := by
  have sz : c.code.size = 36 := by rw [hc]; rfl
  have cd : ∀ i, c.code.getD i 0 = code2.getD i 0 := fun i => by rw [hc]
  -- the branch: alternative 1
  by_cases hA : c.text.getD st 0 = 13
  · by_cases hB : st + 1 < c.lim ∧ c.text.getD (st + 1) 0 = 10
    · rw [if_pos ⟨hA, hB⟩]
      refine EndsIn.more (k := 8) ?_ 12
      refine runFor_go rfl (step_branch (by omega) (by rw [cd]; rfl) (by rw [cd]; decide) (by decide)) ?_
      refine runFor_go rfl (step_lit (by omega) (by rw [cd]; rfl)) ?_
      rw [if_pos ⟨h1, by rw [cd]; exact hA⟩]
      refine runFor_go rfl (step_lit (by omega) (by rw [cd]; rfl)) ?_
      rw [if_pos ⟨hB.1, by rw [cd]; exact hB.2⟩]
      refine runFor_go rfl (step_jump (by omega) (by rw [cd]; rfl)) ?_
      simp only [cd]
      refine runFor_go rfl (step_succ (pc := 35) (by omega) (by rw [cd]; rfl) (fun h => nomatch h)) ?_
      refine runFor_go rfl (res_branch_yes rfl) ?_
      refine runFor_go rfl res_start_yes ?_
      refine runFor_go rfl end_yes ?_
      exact runFor_end rfl ⟨rfl, rfl, rfl⟩
    · rw [if_neg (fun q => hB q.2)]
      refine EndsIn.more (k := 15) ?_ 5
      refine runFor_go rfl (step_branch (by omega) (by rw [cd]; rfl) (by rw [cd]; decide) (by decide)) ?_
      refine runFor_go rfl (step_lit (by omega) (by rw [cd]; rfl)) ?_
      rw [if_pos ⟨h1, by rw [cd]; exact hA⟩]
      refine runFor_go rfl (step_lit (by omega) (by rw [cd]; rfl)) ?_
      rw [if_neg (fun q => hB ⟨q.1, by have := q.2; rw [cd] at this; exact this⟩)]
      refine runFor_go rfl (res_branch_no (by rw [cd, cd]; decide) (by decide) (by decide)) ?_
      simp only [cd]
      refine runFor_go rfl (step_lit (pc := 19) (by omega) (by rw [cd]; rfl)) ?_
      rw [if_neg (fun q => by have := q.2; rw [cd, hA] at this; exact absurd this (by decide))]
      refine runFor_go rfl (res_branch_no (p := 18) (by rw [cd, cd]; decide) (by decide) (by decide)) ?_
      simp only [cd]
      refine runFor_go rfl (step_lit (pc := 24) (by omega) (by rw [cd]; rfl)) ?_
      rw [if_pos ⟨h1, by rw [cd]; exact hA⟩]
      refine runFor_go rfl (step_assertNot (pc := 26) (by omega) (by rw [cd]; rfl) (by rw [cd]; rfl) (by decide)) ?_
      refine runFor_go rfl (step_lit (pc := 29) (by omega) (by rw [cd]; rfl)) ?_
      rw [if_neg (fun q => hB ⟨q.1, by have := q.2; rw [cd] at this; exact this⟩)]
      refine runFor_go rfl res_lookNot_no ?_
      simp only [cd]
      refine runFor_go rfl (step_jump (pc := 32) (by omega) (by rw [cd]; rfl)) ?_
      simp only [cd]
      refine runFor_go rfl (step_succ (pc := 35) (by omega) (by rw [cd]; rfl) (fun h => nomatch h)) ?_
      refine runFor_go rfl (res_branch_yes rfl) ?_
      refine runFor_go rfl res_start_yes ?_
      refine runFor_go rfl end_yes ?_
      exact runFor_end rfl ⟨rfl, rfl, rfl⟩
  · have hA' : c.text.getD st 0 = 10 := hch.resolve_right hA
    rw [if_neg (fun q => hA q.1)]
    refine EndsIn.more (k := 9) ?_ 11
    refine runFor_go rfl (step_branch (by omega) (by rw [cd]; rfl) (by rw [cd]; decide) (by decide)) ?_
    refine runFor_go rfl (step_lit (by omega) (by rw [cd]; rfl)) ?_
    rw [if_neg (fun q => by have := q.2; rw [cd, hA'] at this; exact absurd this (by decide))]
    refine runFor_go rfl (res_branch_no (by rw [cd, cd]; decide) (by decide) (by decide)) ?_
    simp only [cd]
    refine runFor_go rfl (step_lit (pc := 19) (by omega) (by rw [cd]; rfl)) ?_
    rw [if_pos ⟨h1, by rw [cd]; exact hA'⟩]
    refine runFor_go rfl (step_jump (pc := 21) (by omega) (by rw [cd]; rfl)) ?_
    simp only [cd]
    refine runFor_go rfl (step_succ (pc := 35) (by omega) (by rw [cd]; rfl) (fun h => nomatch h)) ?_
    refine runFor_go rfl (res_branch_yes rfl) ?_
    refine runFor_go rfl res_start_yes ?_
    refine runFor_go rfl end_yes ?_
    exact runFor_end rfl ⟨rfl, rfl, rfl⟩

/-! ## searching -/
/-- the next line end from s on -/
noncomputable def nextNl (text : Array Nat) (lim : Nat) : Nat → Nat → Option Nat
  | 0, _ => none
  | f + 1, s => if s < lim then (if text.getD s 0 = 10 ∨ text.getD s 0 = 13 then some s else nextNl text lim f (s + 1)) else none
theorem in_set (x : Nat) (seen : Seen) : ∃ seen', inSet code2 x 36 5 true seen = .ok (decide (x = 10 ∨ x = 13), seen') := by
  by_cases h : x = 10
  · subst h; exact ⟨_, rfl⟩
  · by_cases h2 : x = 13
    · subst h2; exact ⟨_, rfl⟩
    · have e1 : (x == 10) = false := by simpa using h
      have e2 : (x == 13) = false := by simpa using h2
      refine ⟨((seen.add 16).add 16).add 0, ?_⟩
      rw [decide_eq_false (fun q => q.elim h h2)]
      show (if (x == 10) = true then _ else if (x == 13) = true then _ else _) = _
      rw [e1, e2]; rfl
theorem adm_eq {m : M} (hc : m.code = code2) : ∀ (f s : Nat) (seen : Seen), ∃ seen', M.admitted m f s seen = .ok (nextNl m.text m.lim f s, seen')
  | 0, s, seen => ⟨seen, rfl⟩
  | f + 1, s, seen => by
    unfold M.admitted nextNl
    by_cases h : s < m.lim
    · rw [if_neg (by omega), if_pos h]
      obtain ⟨sn, e⟩ := in_set (m.text.getD s 0) seen
      rw [hc, show code2.size = 36 from rfl, e]
      by_cases q : m.text.getD s 0 = 10 ∨ m.text.getD s 0 = 13
      · rw [decide_eq_true q, if_pos q]; exact ⟨sn, rfl⟩
      · rw [decide_eq_false q, if_neg q]; exact adm_eq hc f (s + 1) sn
    · rw [if_pos (by omega), if_neg h]; exact ⟨seen, rfl⟩
theorem nextNl_some {text : Array Nat} {lim : Nat} : ∀ {f s q : Nat}, nextNl text lim f s = some q → s ≤ q ∧ q < lim ∧ (text.getD q 0 = 10 ∨ text.getD q 0 = 13) ∧ ∀ i, s ≤ i → i < q → ¬ (text.getD i 0 = 10 ∨ text.getD i 0 = 13)
  | 0, s, q, h => nomatch h
  | f + 1, s, q, h => by
    unfold nextNl at h
    split at h
    · rename_i hl
      split at h
      · rename_i hc; cases h; exact ⟨Nat.le_refl _, hl, hc, fun i a b => by omega⟩
      · rename_i hc
        obtain ⟨a, b, c, d⟩ := nextNl_some h
        refine ⟨by omega, b, c, fun i h1 h2 => ?_⟩
        by_cases e : i = s
        · rw [e]; exact hc
        · exact d i (by omega) h2
    · cases h
theorem nextNl_none {text : Array Nat} {lim : Nat} : ∀ {f s : Nat}, lim < s + f → nextNl text lim f s = none → ∀ i, s ≤ i → i < lim → ¬ (text.getD i 0 = 10 ∨ text.getD i 0 = 13)
  | 0, s, hf, h, i, a, b => by omega
  | f + 1, s, hf, h, i, a, b => by
    unfold nextNl at h
    split at h
    · split at h
      · cases h
      · rename_i hc
        by_cases e : i = s
        · rw [e]; exact hc
        · exact nextNl_none (by omega) h i (by omega) b
    · omega

noncomputable def FailedM (m : M) : Prop := m.outcome = some .failed
theorem mm_say_no {m : M} (h : m.outcome = none) (hf : m.frames = []) : EndsIn 1 (m.say false) FailedM := by
  unfold EndsIn FailedM
  simp [M.runFor, M.say, M.step, h, hf]

/-- where the next match of the line ends is, from s on -/
theorem search2 {text : Array Nat} {s : Nat} (hs : s ≤ text.size) : EndsIn 40 (forSearch code2 text 0 s text.size false) (fun m => match nextNl text text.size (text.size + 1 - s) s with
    | some q => MatchedAt q (if text.getD q 0 = 13 ∧ q + 1 < text.size ∧ text.getD (q + 1) 0 = 10 then q + 2 else q + 1) m
    | none => FailedM m) := by
  unfold forSearch
  have hh : header code2 = (1, 10) := rfl
  simp only [hh]
  by_cases h0 : text.size - s < 1
  · have e : (decide (s > text.size) || decide (text.size - s < 1)) = true := by simp [h0]
    rw [if_pos (by simpa using Or.inr h0)]
    have : nextNl text text.size (text.size + 1 - s) s = none := by
      rw [show text.size + 1 - s = 1 by omega]
      simp only [nextNl]
      rw [if_neg (by omega)]
    rw [this]
    exact EndsIn.more (mm_say_no rfl rfl) 39
  · rw [if_neg (by simp; omega)]
    show EndsIn 40 (M.attemptFrom (mm ⟨code2, text, text.size, text.size, Array.replicate (2 * 0) none, -1, -1⟩ s 10 s s true false [] 0 none (({} : Seen).add 14)) s true) _
    generalize ({} : Seen).add 14 = sn0
    obtain ⟨sn, e⟩ := adm_eq (m := mm ⟨code2, text, text.size, text.size, Array.replicate (2 * 0) none, -1, -1⟩ s 10 s s true false [] 0 none sn0) rfl (text.size + 1 - s) s sn0
    have e' : M.admitted (mm ⟨code2, text, text.size, text.size, Array.replicate (2 * 0) none, -1, -1⟩ s 10 s s true false [] 0 none sn0) (text.size + 1 - s) s sn0 = .ok (nextNl text text.size (text.size + 1 - s) s, sn) := e
    have hfs : M.hasFirstSet (mm ⟨code2, text, text.size, text.size, Array.replicate (2 * 0) none, -1, -1⟩ s 10 s s true false [] 0 none sn0) = true := rfl
    unfold M.attemptFrom
    rw [hfs]
    simp only [Bool.not_true, Bool.false_eq_true, if_false]
    rw [e']
    cases hq : nextNl text text.size (text.size + 1 - s) s with
    | none => exact EndsIn.more (mm_say_no rfl rfl) 39
    | some q =>
      obtain ⟨a, b, c', d⟩ := nextNl_some hq
      exact EndsIn.more (p2_at (c := ⟨code2, text, text.size, text.size, Array.replicate (2 * 0) none, -1, -1⟩) (st := q) (hd := q) (sn := sn) rfl b c') 20

/-! dots at the front of a row -/
noncomputable abbrev dotAt (text : Array Nat) (lim q : Nat) : Prop := (q = 0 ∨ text.getD (q - 1) 0 = 10) ∧ q < lim ∧ text.getD q 0 = 46
noncomputable def nextDot (text : Array Nat) (lim : Nat) : Nat → Nat → Option Nat
  | 0, _ => none
  | f + 1, s => if dotAt text lim s then some s else nextDot text lim f (s + 1)
theorem res_start_no {c : Cn} {st pc pos hd : Nat} {ou : Bool} {sn : Seen} {q : Nat} {o : Bool} (hc : c.code = code1) (hm : c.lm = -1 ∧ c.li = -1) : M.step (mm c st pc pos hd ou false [{ wait := .nextStart, pc := 5, pos := q, outermost := o }] 1 (some false) sn) =
    if q < c.ls then mm c (q + 1) 5 (q + 1) (q + 1) false false [{ wait := .nextStart, pc := 5, pos := q + 1, outermost := false }] 1 none sn else mm c st 5 q hd o false [] 0 (some false) sn := by
  obtain ⟨code, text, lim, ls, mks, lm, li⟩ := c
  obtain ⟨h1, h2⟩ := hm
  simp only at h1 h2 hc
  subst h1 h2 hc
  by_cases h : q < ls
  · rw [if_pos h]
    simp only [M.step, mm, M.resume, Option.isSome_none, Bool.false_eq_true, if_false, h, if_true]
    rfl
  · rw [if_neg h]
    simp only [M.step, mm, M.resume, Option.isSome_none, Bool.false_eq_true, if_false, h]
    rfl
theorem p1_from {c : Cn} (hc : c.code = code1) (hm : c.lm = -1 ∧ c.li = -1) (hls : c.ls = c.lim) : ∀ (f s hd : Nat) (ou : Bool) (sn : Seen), c.lim + 1 = s + f → s ≤ c.lim →
    EndsIn (3 * f + 6) (mm c s 5 s hd ou false [{ wait := .nextStart, pc := 5, pos := s, outermost := ou }] 1 none sn) (fun m => match nextDot c.text c.lim f s with | some q => MatchedAt q (q + 1) m | none => FailedM m)
  | 0, s, hd, ou, sn, hf, hs => by omega
  | f + 1, s, hd, ou, sn, hf, hs => by
    have sz : c.code.size = 10 := by rw [hc]; rfl
    have cd : ∀ i, c.code.getD i 0 = code1.getD i 0 := fun i => by rw [hc]
    unfold nextDot
    have next : ∀ pc pos hd ou sn, ¬ dotAt c.text c.lim s → EndsIn (3 * f + 7) (mm c s pc pos hd ou false [{ wait := .nextStart, pc := 5, pos := s, outermost := ou }] 1 (some false) sn) (fun m => match (if dotAt c.text c.lim s then some s else nextDot c.text c.lim f (s + 1)) with | some q => MatchedAt q (q + 1) m | none => FailedM m) := by
      intro pc pos hd ou sn hn
      rw [if_neg hn]
      refine runFor_go (k := 3 * f + 6) rfl (res_start_no hc hm) ?_
      by_cases h : s < c.ls
      · rw [if_pos h]; exact p1_from hc hm hls f (s + 1) (s + 1) false sn (by omega) (by omega)
      · rw [if_neg h]
        have : f = 0 := by omega
        subst this
        simp only [nextDot]
        exact EndsIn.more (k := 1) (P := FailedM) (runFor_go (k := 0) rfl end_no (runFor_end rfl rfl)) 5
    by_cases h1 : s = 0 ∨ c.text.getD (s - 1) 0 = 10
    · by_cases h2 : s < c.lim ∧ c.text.getD s 0 = 46
      · rw [if_pos ⟨h1, h2⟩]
        refine EndsIn.more (k := 5) ?_ (3 * f + 4) |> fun h => by rw [show 3 * (f + 1) + 6 = 5 + (3 * f + 4) by omega]; exact h
        refine runFor_go rfl (step_at (by omega) (by rw [cd]; rfl) (by rw [cd]; rfl)) ?_
        rw [if_pos h1]
        refine runFor_go rfl (step_lit (by omega) (by rw [cd]; rfl)) ?_
        rw [if_pos ⟨h2.1, by rw [cd]; exact h2.2⟩]
        refine runFor_go rfl (step_succ (pc := 9) (by omega) (by rw [cd]; rfl) (fun h => nomatch h)) ?_
        refine runFor_go rfl res_start_yes ?_
        refine runFor_go rfl end_yes ?_
        exact runFor_end rfl ⟨rfl, rfl, rfl⟩
      · refine runFor_go (k := 3 * f + 8) rfl (step_at (by omega) (by rw [cd]; rfl) (by rw [cd]; rfl)) ?_
        rw [if_pos h1]
        refine runFor_go (k := 3 * f + 7) rfl (step_lit (by omega) (by rw [cd]; rfl)) ?_
        rw [if_neg (fun q => h2 ⟨q.1, by have := q.2; rw [cd] at this; exact this⟩)]
        exact next _ _ _ _ _ fun q => h2 q.2
    · refine EndsIn.more (k := 3 * f + 8) ?_ 1
      refine runFor_go (k := 3 * f + 7) rfl (step_at (by omega) (by rw [cd]; rfl) (by rw [cd]; rfl)) ?_
      rw [if_neg h1]
      exact next _ _ _ _ _ fun q => h1 q.1
theorem search1 {text : Array Nat} {s : Nat} (hs : s ≤ text.size) : EndsIn (3 * text.size + 30) (forSearch code1 text 0 s text.size false) (fun m => match nextDot text text.size (text.size + 1 - s) s with
    | some q => MatchedAt q (q + 1) m
    | none => FailedM m) := by
  unfold forSearch
  have hh : header code1 = (1, 5) := rfl
  simp only [hh]
  by_cases h0 : text.size - s < 1
  · rw [if_pos (by simpa using Or.inr h0)]
    have : nextDot text text.size (text.size + 1 - s) s = none := by
      rw [show text.size + 1 - s = 1 by omega]
      simp only [nextDot]
      rw [if_neg (fun q => by have := q.2.1; omega)]
    rw [this, show 3 * text.size + 30 = 1 + (3 * text.size + 29) by omega]
    exact EndsIn.more (mm_say_no rfl rfl) _
  · rw [if_neg (by simp; omega)]
    show EndsIn _ (M.attemptFrom (mm ⟨code1, text, text.size, text.size, Array.replicate (2 * 0) none, -1, -1⟩ s 5 s s true false [] 0 none (({} : Seen).add 14)) s true) _
    have := p1_from (c := ⟨code1, text, text.size, text.size, Array.replicate (2 * 0) none, -1, -1⟩) rfl ⟨rfl, rfl⟩ rfl (text.size + 1 - s) s s true (({} : Seen).add 14) (by show text.size + 1 = _; omega) hs
    rw [show 3 * text.size + 30 = (3 * (text.size + 1 - s) + 6) + (3 * s + 21) by omega]
    exact EndsIn.more this _
end
end Oh

-- OhRd
namespace Oh
open PySem PySem.W PyProof.Rows PySem.SeqAt PySem.Calls PySem.MeetsSeq PySem.Builtin.Re PySem.Builtin

theorem slot_re_sub : PySem.Slot "re.Pattern" "sub" "re.Pattern.sub" :=
  .of (owner := "re.Pattern") (n := "sub") (by rw [typeLookup_type, builtinLookup_eq_fast]; kernel_rfl) (by decide +kernel) (by decide +kernel) (by decide +kernel)
    (by first | exact .inl (by decide +kernel) | exact .inr (by decide +kernel)) (by rw [isSubtype_type]; kernel_rfl)
theorem entry_re_sub : entryFor table "re.Pattern.sub" = some Builtin.«re.Pattern.sub» := entryFor_of_fast (by kernel_rfl)
theorem entry_re_loop : entryFor table "re.Pattern.sub.loop" = some Builtin.«re.Pattern.sub.loop» := entryFor_of_fast (by kernel_rfl)
theorem plain_re_loop : plainId "re.Pattern.sub.loop" = true := by decide +kernel
theorem args_re_sub (a b c : Value) : argsOk "re.Pattern.sub" ⟨[a, b, c], []⟩ := by unfold argsOk; kernel_rfl
theorem type_re_sub : typeOf (.builtin "re.Pattern.sub") = pure (.type "method_descriptor") := by show builtinType _ = _; rw [builtinType_eq_fast]; kernel_rfl
theorem plainAttrs_re : PlainAttrs "re.Pattern" :=
  ⟨⟨"object.__getattribute__", by rw [typeLookup_type, builtinLookup_eq_fast]; kernel_rfl, by decide +kernel⟩, by rw [typeLookup_type, builtinLookup_eq_fast]; kernel_rfl⟩
theorem str_no_call : typeLookup (.type "str") "__call__" = pure none := by rw [typeLookup_type, builtinLookup_eq_fast]; kernel_rfl

end Oh

-- OhRf
namespace Oh
open PySem PySem.W PyProof.Rows PySem.SeqAt PySem.Calls PySem.MeetsSeq PySem.Builtin.Re PySem.Builtin

section
variable {prog : Program} {w : World} {A : Around} {E : Value → Shared → Prop} {s : Shared}

theorem drive_ok {P : Sre.M → Prop} {Q : Sre.M → Shared → Prop} : ∀ (turns k : Nat) (m : Sre.M), EndsIn k m P → k ≤ 4 * turns → 0 < turns → (∀ m', m'.outcome.isSome = true → P m' → Q m' s) → wpAny (model prog w) A (reDrive turns m) Q E s
  | 0, k, m, h, hk, h0, hq => absurd h0 (Nat.lt_irrefl _)
  | t + 1, k, m, h, hk, h0, hq => by
    unfold reDrive
    show wpAny _ _ (if (m.runFor 4).outcome.isSome = true then _ else _) _ _ _
    by_cases e : (m.runFor 4).outcome.isSome = true
    · rw [if_pos e]
      refine wpAny_pure (hq _ e ?_)
      have h4 := h.more 4
      rw [Nat.add_comm] at h4
      have : Sre.M.runFor (4 + k) m = m.runFor 4 := by rw [runFor_add, runFor_some e]
      have h5 := h4.2
      rw [this] at h5; exact h5
    · rw [if_neg e]
      refine wpAny_bind (wpAny_rule ?_)
      by_cases hk4 : k ≤ 4
      · have := (h.more (4 - k)).1
        rw [show k + (4 - k) = 4 by omega] at this
        exact absurd this e
      · refine drive_ok t (k - 4) (m.runFor 4) ?_ (by omega) (by omega) hq
        unfold EndsIn at h ⊢
        rw [← runFor_add, show 4 + (k - 4) = k by omega]; exact h

theorem forIn_unit {body : Nat → PUnit → Sem (ForInStep PUnit)} (hb : ∀ (i : Nat) (Q' : ForInStep PUnit → Shared → Prop), Q' (.yield ⟨⟩) s → wpAny (model prog w) A (body i ⟨⟩) Q' E s) : ∀ (l : List Nat) {Q : PUnit → Shared → Prop}, Q ⟨⟩ s → wpAny (model prog w) A (forIn l PUnit.unit body) Q E s
  | [], Q, h => by rw [List.forIn_nil]; exact wpAny_pure h
  | i :: l, Q, h => by
    rw [List.forIn_cons]
    exact wpAny_bind (hb i _ (forIn_unit hb l h))

theorem runToEnd_ok {k : Nat} {m : Sre.M} {r : Option (Nat × Nat)} {Q : Option Sre.M → Shared → Prop} (h : EndsIn k m (fun m' => match r with | some (q, e) => MatchedAt q e m' | none => FailedM m')) (hk : k ≤ 2 ^ 60)
    (hq : match r with | some (q, e) => ∀ m' : Sre.M, m'.start = q → m'.handed = e → Q (some m') s | none => Q none s) : wpAny (model prog w) A (reRunToEnd m) Q E s := by
  unfold reRunToEnd
  refine wpAny_bind (drive_ok (2 ^ 64) k m h (by omega) (by decide) fun m' h1 h2 => ?_)
  refine wpAny_bind (forIn_unit (fun i Q' hq' => ?_) _ ?_)
  · by_cases e : m'.seen.has i = true
    · simp only [e, if_true]
      first
      | exact wpAny_bind (wpAny_rule (wpAny_pure hq'))
      | exact wpAny_bind (wpAny_rule (wpAny_pure (wpAny_pure hq')))
      | exact wpAny_bind (wpAny_bind (wpAny_rule (wpAny_pure (wpAny_pure hq'))))
    · simp only [e]
      first
      | exact wpAny_pure hq'
      | exact wpAny_bind (wpAny_pure (wpAny_pure hq'))
  cases r with
  | some qe =>
    obtain ⟨q, e⟩ := qe
    obtain ⟨a, b, c⟩ := h2
    rw [a]
    exact wpAny_pure (hq m' b c)
  | none =>
    have a : m'.outcome = some .failed := h2
    rw [a]
    exact wpAny_pure hq

/-- a compiled pattern stands at p, its words at q -/
structure PatAt (h : Heap) (p q : Addr) (code : Array Nat) : Prop where
  obj : ∃ o vs, h.get? p = some o ∧ o.cls = .type "re.Pattern" ∧ o.data = .fields vs ∧ vs.getD 6 .none = rawInt 0 ∧ vs.getD 2 .none = rawInt 0 ∧ vs.getD 5 .none = .ref q ∧ o.dict = none
  tup : ∃ o' items n, h.get? q = some o' ∧ o'.data = .seq items n ∧ (items.map reRawOf).map (·.toNat) = code
theorem PatAt.keep {X : List Addr} {h h' : Heap} {p q : Addr} {code : Array Nat} (x : PatAt h p q code) (k : KeepM X h h') (hp : p ∉ X) (hq : q ∉ X) : PatAt h' p q code := by
  obtain ⟨o, vs, h1, h2⟩ := x.obj
  obtain ⟨o', items, n, k1, k2⟩ := x.tup
  exact ⟨⟨o, vs, k _ _ hp h1, h2⟩, o', items, n, k _ _ hq k1, k2⟩

theorem target_ok {p q : Addr} {code : Array Nat} {x : Str} {t : Tok} {Q : ReTarget → Shared → Prop} (hp : PatAt s.heap p q code) (h : Q { pattern := .ref p, string := .str x t, code, text := x.cps, kind := 0, groups := 0, pos := 0, lim := x.cps.size } s) :
    wpAny (model prog w) A (reWholeTarget (.ref p) (.str x t)) Q E s := by
  obtain ⟨o, vs, h1, h2, h3, h4, h5, h6, _⟩ := hp.obj
  obtain ⟨o', items, n, k1, k2, k3⟩ := hp.tup
  unfold reWholeTarget
  refine wpAny_bind (wpAny_fieldsOf h1 h3 ?_)
  refine wpAny_bind (m := reTextOf (.str x t)) ?_
  unfold reTextOf
  refine wpAny_bind (wpAny_pure ?_)
  refine wpAny_pure ?_
  dsimp only
  rw [h4, h5, h6]
  refine wpAny_bind (m := reNoCollectionInside _ _) (wpAny_pure ?_)
  refine wpAny_bind (m := reRawItems (.ref q)) ?_
  unfold reRawItems
  refine wpAny_bind (wpAny_seqItems k1 k2 (wpAny_pure ?_))
  simp only [Option.getD_some, k3]
  exact wpAny_pure h

/-! the loop of sub -/
noncomputable def subGo (text : Array Nat) (nx : Nat → Option (Nat × Nat)) (repl : Str) : Nat → Nat → List Str
  | 0, _ => []
  | f + 1, d => match nx d with
    | some (q, e) => (if d < q then [⟨text.extract d q⟩] else []) ++ [repl] ++ subGo text nx repl f e
    | none => if d < text.size then [⟨text.extract d text.size⟩] else []
theorem push_at {a : Addr} {zs : List Value} {v : Value} {Q : Unit → Shared → Prop} (l : LstAt s.heap a zs) (hz : zs.length ≤ 1000000) (k : ∀ h', Heap.SameBut a s.heap h' → LstAt h' a (zs ++ [v]) → Q () { s with heap := h' }) : wpAny (model prog w) A (updateSeq a (·.push v)) Q E s := by
  obtain ⟨c, e⟩ := id l
  obtain ⟨u1, u2⟩ := lst_update l (fun x => x.push v)
  refine wpAny_updateSeq e rfl (k _ u2 (by simpa using u1)) (by simp [sizeLine]; omega) (by simp [sizeLine]; omega)
theorem strsAre_snoc {zs : List Value} {ys : List Str} {y : Str} {t : Tok} (h : StrsAre zs ys) : StrsAre (zs ++ [.str y t]) (ys ++ [y]) := by
  induction h with
  | nil => exact .cons y t .nil
  | cons x u h ih => exact .cons x u ih
theorem strsAre_len {zs : List Value} {ys : List Str} (h : StrsAre zs ys) : zs.length = ys.length := by
  induction h with
  | nil => rfl
  | cons x u h ih => simp [ih]

theorem sub_loop {p q' : Addr} {code : Array Nat} {x r : Str} {t u : Tok} {nx : Nat → Option (Nat × Nat)} {K : Nat} {R : Result → Shared → Prop} (hK : K ≤ 2 ^ 60) (hx : x.length ≤ 100000) (hr : r.length ≤ 10)
    (hn : ∀ d q e, d ≤ x.cps.size → nx d = some (q, e) → d ≤ q ∧ q < e ∧ e ≤ x.cps.size)
    (hs : ∀ d, d ≤ x.cps.size → EndsIn K (Sre.forSearch code x.cps 0 d x.cps.size false) (fun m => match nx d with | some (q, e) => MatchedAt q e m | none => FailedM m)) :
    ∀ (f d n : Nat) (s : Shared) (D : Addr) (zs : List Value) (ys : List Str), x.cps.size - d < f → d ≤ x.cps.size → PatAt s.heap p q' code → p ≠ D → q' ≠ D → LstAt s.heap D zs → StrsAre zs ys → (ys.map (·.length)).sum ≤ 12 * d → ys.length ≤ 2 * d →
      (∀ t' h' tk, KeepM [D] s.heap h' → R (.ok (.ret (.str (Txt.join "" (ys ++ subGo x.cps nx r f d)) t'))) { s with heap := h', toks := tk }) →
      codeAny (model prog w) A (.builtin "re.Pattern.sub.loop" ⟨[.ref p, .str x t, .str r u, rawInt 0, rawInt 0, rawInt n, rawInt d, rawInt d, .bool false, .ref D, .bool false], []⟩) R s
  | 0, d, n, s, D, zs, ys, hf, hd, hp, hpD, hqD, l, hz, hb, hc, k => absurd hf (Nat.not_lt_zero _)
  | f + 1, d, n, s, D, zs, ys, hf, hd, hp, hpD, hqD, l, hz, hb, hc, k => by
    have hxs : x.cps.size ≤ 100000 := hx
    have hzl := strsAre_len hz
    refine codeAny_builtin entry_re_loop ?_
    rw [Around.under_plainId plain_re_loop _]
    show wpAny _ A.in1 (do
      let t ← reWholeTarget (.ref p) (.str x t)
      _) _ _ s
    refine wpAny_bind (target_ok hp ?_)
    simp only [beq_self_eq_true, if_true, bne_self_eq_false, Bool.false_and, Bool.false_eq_true, if_false, Int.toNat_natCast]
    refine wpAny_bind (m := reLiteralCannotBeTurned (.str r u)) ?_
    unfold reLiteralCannotBeTurned
    refine wpAny_bind (wpAny_pure ?_)
    simp only [Option.isNone_some, Bool.false_eq_true, if_false]
    refine wpAny_pure ?_
    refine wpAny_bind (m := reNextFound _ _ _) ?_
    unfold reNextFound
    refine runToEnd_ok (hs d hd) hK ?_
    have hne : (Value.str r u != Value.none) = true := rfl
    cases hnx : nx d with
    | some qe =>
      obtain ⟨q, e⟩ := qe
      obtain ⟨h1, h2, h3⟩ := hn d q e hd hnx
      dsimp only
      intro m hm1 hm2
      subst hm1 hm2
      have hmust : (m.handed == m.start) = false := by simpa using Nat.ne_of_gt h2
      -- the rest of the turn: the piece in place
      have fin : ∀ (s' : Shared) (zs' : List Value) (ys' : List Str), PatAt s'.heap p q' code → LstAt s'.heap D zs' → StrsAre zs' ys' → (ys'.map (·.length)).sum ≤ 12 * d + (m.start - d) → ys'.length ≤ 2 * d + 1 → KeepM [D] s.heap s'.heap → (s'.gens = s.gens ∧ s'.drawn = s.drawn ∧ s'.os = s.os) → ys' = ys ++ (if d < m.start then [⟨x.cps.extract d m.start⟩] else []) →
          wpAny (model prog w) A.in1 (do
            let item ← pure (Value.str r u)
            if (item != Value.none) = true then do
                updateSeq D fun x => x.push item
                again (Code.builtin "re.Pattern.sub.loop" ⟨[Value.ref p, Value.str x t, Value.str r u, rawInt 0, rawInt 0, rawInt ((n : Int) + 1), rawInt m.handed, rawInt m.handed, Value.bool (m.handed == m.start), Value.ref D, Value.bool false], []⟩)
              else again (Code.builtin "re.Pattern.sub.loop" ⟨[Value.ref p, Value.str x t, Value.str r u, rawInt 0, rawInt 0, rawInt ((n : Int) + 1), rawInt m.handed, rawInt m.handed, Value.bool (m.handed == m.start), Value.ref D, Value.bool false], []⟩))
            (fun fin s' => match fin with | .done f => R (.ok f) s' | .again c' => c'.quiet = true ∧ codeAny (model prog w) A c' R s') (fun e s' => R (.error e) s') s' := by
        intro s' zs' ys' hp' l' hz' hb' hc' kk same hy
        refine wpAny_bind (wpAny_pure ?_)
        rw [if_pos hne]
        have hzl' := strsAre_len hz'
        refine wpAny_bind (push_at l' (by omega) fun h'' hsb l'' => ?_)
        rw [hmust]
        have ks := keep_sameBut hsb
        have kk' : KeepM [D] s.heap h'' := kk.trans ks
        refine wpAny_pure ⟨plainId_quiet plain_re_loop _, ?_⟩
        refine sub_loop hK hx hr hn hs f m.handed (n + 1) { s' with heap := h'' } D (zs' ++ [.str r u]) (ys' ++ [r]) (om_fuel2 hf (Nat.lt_of_le_of_lt h1 h2) h3) h3 (hp'.keep ks (by simpa using hpD) (by simpa using hqD)) hpD hqD l'' (strsAre_snoc hz') (by simp; omega) (by simp; omega) fun t' h3 tk k3 => ?_
        have := k t' h3 tk (kk'.trans k3)
        obtain ⟨a1, a2, a3⟩ := same
        have e : ys ++ subGo x.cps nx r (f + 1) d = ys' ++ [r] ++ subGo x.cps nx r f m.handed := by
          rw [hy]; simp only [subGo, hnx, List.append_assoc]
        rw [e] at this
        show R _ { heap := h3, gens := s'.gens, drawn := s'.drawn, toks := tk, os := s'.os }
        rw [a1, a2, a3]; exact this
      by_cases hlt : d < m.start
      · rw [if_pos hlt]
        refine wpAny_bind (m := reSlice _ _ _ _) ?_
        unfold reSlice
        refine wpAny_mkStr ?_ (by show (x.cps.extract d m.start).size ≤ _; simp [sizeLine]; omega)
        refine wpAny_bind (push_at (s := { s with toks := s.toks + 1 }) l (by omega) fun h'' hsb l'' => ?_)
        have ks := keep_sameBut hsb
        have len : (⟨x.cps.extract d m.start⟩ : Str).length = m.start - d := by show (x.cps.extract d m.start).size = _; rw [Array.size_extract, Nat.min_eq_left (Nat.le_of_lt (Nat.lt_of_lt_of_le h2 h3))]
        exact fin _ _ _ (hp.keep ks (by simpa using hpD) (by simpa using hqD)) l'' (strsAre_snoc hz) (by simp [len]; omega) (by simp; omega) ks ⟨rfl, rfl, rfl⟩ (by rw [if_pos hlt])
      · rw [if_neg hlt]
        exact fin s zs ys hp l hz (by omega) (by omega) KeepM.refl ⟨rfl, rfl, rfl⟩ (by rw [if_neg hlt]; simp)
    | none =>
      dsimp only
      have e : subGo x.cps nx r (f + 1) d = if d < x.cps.size then [⟨x.cps.extract d x.cps.size⟩] else [] := by simp only [subGo, hnx]
      rw [e] at k
      have emp : (⟨x.cps.extract 0 0⟩ : Str) = "" := by
        have : x.cps.extract 0 0 = #[] := by simp
        rw [this]; rfl
      have fin : ∀ (s' : Shared) (zs' : List Value) (ys' : List Str), LstAt s'.heap D zs' → StrsAre zs' ys' → (ys'.map (·.length)).sum ≤ 1600000 → KeepM [D] s.heap s'.heap → (s'.gens = s.gens ∧ s'.drawn = s.drawn ∧ s'.os = s.os) → ys' = ys ++ (if d < x.cps.size then [⟨x.cps.extract d x.cps.size⟩] else []) →
          wpAny (model prog w) A.in1 (do
            let joiner ← reSlice x.cps 0 0 0
            let items ← seqItems? (Value.ref D)
            if (items.getD #[]).isEmpty = true then do
                let text ← pure joiner
                ret text
              else do
                let text ← call (Value.builtin "str.join") [joiner, Value.ref D]
                ret text)
            (fun fin s' => match fin with | .done f => R (.ok f) s' | .again c' => c'.quiet = true ∧ codeAny (model prog w) A c' R s') (fun e s' => R (.error e) s') s' := by
        intro s' zs' ys' l' hz' hb' kk same hy
        obtain ⟨a1, a2, a3⟩ := same
        refine wpAny_bind (m := reSlice _ _ _ _) ?_
        unfold reSlice
        refine wpAny_mkStr ?_ (by show (x.cps.extract 0 0).size ≤ _; simp)
        rw [emp]
        obtain ⟨c, eo⟩ := id l'
        refine wpAny_bind (wpAny_seqItems (s := { s' with toks := s'.toks + 1 }) eo rfl ?_)
        simp only [Option.getD_some]
        rw [← hy] at k
        have same : ∀ h' tk, ({ s with heap := h', toks := tk } : Shared) = { s' with heap := h', toks := tk } := fun h' tk => by rw [a1, a2, a3]
        have hz0 := hz'
        cases hz' with
        | nil =>
          rw [if_pos (by rfl)]
          refine wpAny_bind (wpAny_pure (wpAny_pure ?_))
          have := k s'.toks s'.heap (s'.toks + 1) kk
          rw [same] at this
          exact this
        | cons _ _ _ =>
          rw [if_neg (by simp)]
          refine wpAny_bind (join_list (s := { s' with toks := s'.toks + 1 }) (x := "") l'.isList (by simpa using hz0) (by have := hb'; simp only [List.length_cons, List.map_cons, List.sum_cons] at this ⊢; show _ + _ * 0 ≤ _; omega) fun t' tk => wpAny_pure ?_)
          have := k t' s'.heap tk kk
          rw [same] at this
          exact this
      have hs0 : (ys.map (·.length)).sum ≤ 1200000 := by omega
      by_cases hlt : d < x.cps.size
      · rw [if_pos hlt]
        refine wpAny_bind (m := reSlice _ _ _ _) ?_
        unfold reSlice
        refine wpAny_mkStr ?_ (by show (x.cps.extract d x.cps.size).size ≤ _; simp [sizeLine]; omega)
        refine wpAny_bind (push_at (s := { s with toks := s.toks + 1 }) l (by omega) fun h'' hsb l'' => ?_)
        have ks := keep_sameBut hsb
        have len : (⟨x.cps.extract d x.cps.size⟩ : Str).length ≤ x.cps.size := by show (x.cps.extract d x.cps.size).size ≤ _; simp
        exact fin _ _ _ l'' (strsAre_snoc hz) (by rw [List.map_append, List.sum_append]; simp only [List.map_cons, List.map_nil, List.sum_cons, List.sum_nil]; omega) ks ⟨rfl, rfl, rfl⟩ (by rw [if_pos hlt])
      · rw [if_neg hlt]
        exact fin s zs ys l hz (by omega) KeepM.refl ⟨rfl, rfl, rfl⟩ (by rw [if_neg hlt]; simp)

theorem sub_call {p q' : Addr} {code : Array Nat} {x r : Str} {t u : Tok} {nx : Nat → Option (Nat × Nat)} {K : Nat} {Q : Value → Shared → Prop} (hK : K ≤ 2 ^ 60) (hx : x.length ≤ 100000) (hr : r.length ≤ 10) (hr92 : r.cps.contains 92 = false)
    (hn : ∀ d q e, d ≤ x.cps.size → nx d = some (q, e) → d ≤ q ∧ q < e ∧ e ≤ x.cps.size)
    (hs : ∀ d, d ≤ x.cps.size → EndsIn K (Sre.forSearch code x.cps 0 d x.cps.size false) (fun m => match nx d with | some (q, e) => MatchedAt q e m | none => FailedM m))
    (hp : PatAt s.heap p q' code)
    (k : ∀ t' h' tk, KeepM [] s.heap h' → Q (.str (Txt.join "" (subGo x.cps nx r (x.cps.size + 1) 0)) t') { s with heap := h', toks := tk }) :
    wpAny (model prog w) A (call (.builtin "re.Pattern.sub") [.ref p, .str r u, .str x t]) Q E s := by
  have hT : s.TypeIs (.ref p) "re.Pattern" := by obtain ⟨o, vs, h1, h2, _⟩ := hp.obj; exact ⟨o, h1, h2⟩
  have hpl : ∃ o, s.heap.get? p = some o := by obtain ⟨o, vs, h1, h2, _⟩ := hp.obj; exact ⟨o, h1⟩
  have hql : ∃ o, s.heap.get? q' = some o := by obtain ⟨o, items, n, h1, _⟩ := hp.tup; exact ⟨o, h1⟩
  refine wpAny_call (codeAny_call_builtin slot_re_sub.plain entry_re_sub (slot_re_sub.check _ _ _ _ _ _ _ _ hT (args_re_sub _ _ _) ?_))
  show wpAny _ A.in1 (reNamed "re.Pattern.sub" "sub" ["repl", "string", "count"] 2 [.str r u, .str x t] [] >>= _) _ _ s
  refine wpAny_bind (wpAny_of_eq (show reNamed "re.Pattern.sub" "sub" ["repl", "string", "count"] 2 [.str r u, .str x t] [] = pure [some (.str r u), some (.str x t), none] from rfl) ?_)
  refine wpAny_bind (wpAny_pure ?_)
  refine wpAny_bind (wpAny_specialOf (typeIs_str _ _ _) str_no_call ?_)
  simp only [Option.isSome_none, Bool.false_eq_true, if_false]
  refine wpAny_bind (wpAny_bind (wpAny_pure (wpAny_pure ?_)))
  simp only [hr92, Bool.not_false, if_true]
  refine wpAny_bind (wpAny_pure ?_)
  refine wpAny_bind (wpAny_pure ?_)
  refine wpAny_bind (wpAny_holding (target_ok hp ?_))
  simp only [show ((0 : Int) == 1) = false from rfl, Bool.false_eq_true, if_false]
  refine wpAny_bind (wpAny_newList ?_ (by decide))
  refine wpAny_pure ⟨plainId_quiet plain_re_loop _, ?_⟩
  have nl : ∀ {b : Addr}, (∃ o, s.heap.get? b = some o) → b ≠ s.heap.objs.size := fun h => by obtain ⟨o, ho⟩ := h; exact Nat.ne_of_lt (Heap.lt_size ho)
  refine sub_loop hK hx hr hn hs (x.cps.size + 1) 0 0 _ s.heap.objs.size [] [] (by omega) (Nat.zero_le _) (hp.keep (X := []) (fun b o _ e => Heap.get?_push_of_some _ e) (by simp) (by simp)) (nl hpl) (nl hql) ⟨0, Heap.get?_push_size _ rfl⟩ .nil (by simp) (by simp) fun t' h' tk kk => ?_
  simp only [List.nil_append]
  refine k t' h' tk fun b o _ e => kk b o (by simpa using Nat.ne_of_lt (Heap.lt_size e)) (Heap.get?_push_of_some _ e)
end
end Oh

-- OhRg
namespace Oh
open PySem PySem.W PyProof.Rows PySem.SeqAt PySem.Calls PySem.MeetsSeq PySem.Builtin.Re

section
variable {prog : Program} {w : World} {A : Around} {hb g : Heap} {I M : List Addr} {env : Env} {ρ : Store} {K : Frag}

theorem pe_globS {f : Str} {x : Str} {t : Tok} {p : Pos} (B : BaseOk K hb) (hf : glb env.scope f = true) (hn : nsIn K mainGlobals f = some (some (.str x t))) (hx : PyData.strOk x = true) : PE prog w A hb g I M env ρ (.Name f p) (.str x) := fun s S =>
  Ev.next fun mL n Q E k => St.glob B S hf hn (k _ s.heap s.toks KeepM.refl n (.str _ _ hx))

theorem callWith_m2 {id : String} {first : List Value} {t t' : Sem Value} {pos : Pos} {s : Shared} {Q : Value → Shared → Prop} {E : Value → Shared → Prop} (h : wpAny (model prog w) A t (fun v s₁ => wpAny (model prog w) A t' (fun v' s₂ => wpAny (model prog w) A (call (.builtin id) (first ++ [v, v'])) Q E s₂) E s₁) E s) :
    wpAny (model prog w) A (callWith pos (.builtin id) first [(false, t), (false, t')] []) Q E s := by
  refine callWith_builtin rfl (evalArgs_plain ?_)
  refine wpAny_bind (wpAny_mono h (fun v s₁ h₁ => ?_) fun _ _ x => x)
  refine wpAny_bind (wpAny_pure (wpAny_bind (wpAny_holding ?_)))
  refine wpAny_bind (wpAny_mono h₁ (fun v s₁ h₁ => wpAny_bind (wpAny_pure (wpAny_bind (wpAny_holding (spliced_nil (wpAny_pure (wpAny_pure ?_)))))) ) fun _ _ x => x)
  simpa using h₁

theorem pe_sub {f : Str} {e1 e2 : PySem.Expr} {x r : Str} {pp q' : Addr} {code : Array Nat} {nx : Nat → Option (Nat × Nat)} {Kk : Nat} {px apos pos : Pos} (B : BaseOk K hb) (hf : glb env.scope f = true) (hn : nsIn K mainGlobals f = some (some (.ref pp))) (hp : PatAt hb pp q' code)
    (h1 : PO prog w A hb g I M env ρ e1 (.str r)) (h2 : PE prog w A hb g I M env ρ e2 (.str x)) (hK : Kk ≤ 2 ^ 60) (hx : x.length ≤ 100000) (hr : r.length ≤ 10) (hr92 : r.cps.contains 92 = false)
    (hnx : ∀ d q e, d ≤ x.cps.size → nx d = some (q, e) → d ≤ q ∧ q < e ∧ e ≤ x.cps.size)
    (hs : ∀ d, d ≤ x.cps.size → EndsIn Kk (Sre.forSearch code x.cps 0 d x.cps.size false) (fun m => match nx d with | some (q, e) => MatchedAt q e m | none => FailedM m))
    (hok : PyData.strOk x = true → PyData.strOk r = true → PyData.strOk (Txt.join "" (subGo x.cps nx r (x.cps.size + 1) 0)) = true)
    (hst : starEach [e1, e2] env = [(false, eval e1 env), (false, eval e2 env)] := by rfl) (hline : (apos.endLine == pos.line) = true := by rfl) (hbase : attributeBase (.Name f px) "sub" env (eval (.Name f px) env) = eval (.Name f px) env := by rfl) :
    PE prog w A hb g I M env ρ (.Call (.Attribute (.Name f px) "sub" apos) [e1, e2] [] pos) (.str (Txt.join "" (subGo x.cps nx r (x.cps.size + 1) 0))) := fun s S mL n Q E k => by
  refine Call_method2 hbase hst hline (St.glob B S hf hn ?_)
  have hp' := hp.keep S.kb (by simp) (by simp)
  obtain ⟨o, vs, g1, g2, _, _, _, _, g3⟩ := hp'.obj
  refine ⟨"re.Pattern", "re.Pattern.sub", plainAttrs_re, slot_re_sub, type_re_sub, ⟨o, g1, g2⟩, (fun b e => by cases e; exact ⟨o, g1, g3⟩), ?_⟩
  refine callWith_m2 ((h1 s S).then n fun v h₁ tk₁ k₁ n₁ r₁ => ?_)
  have S₁ := S.grow' n k₁ n₁
  refine (h2 { s with heap := h₁, toks := tk₁ } S₁).then n₁ fun v' h₂ tk₂ k₂ n₂ r₂ => ?_
  have S₂ := S₁.grow' n₁ k₂ n₂
  obtain ⟨t1, rfl, ok1⟩ := r₁.str
  obtain ⟨t2, rfl, ok2⟩ := r₂.o.str
  refine sub_call (s := { s with heap := h₂, toks := tk₂ }) hK hx hr hr92 hnx hs (hp.keep S₂.kb (by simp) (by simp)) fun t' h' tk kk => ?_
  exact k _ h' tk ((k₁.trans k₂).trans (keep_nil kk)) (ns_keep n₂ kk) (.str _ _ (hok ok2 ok1))
end
end Oh

-- OhRh
namespace Oh
open PySem PySem.W PyProof.Rows PySem.SeqAt PySem.Calls PySem.MeetsSeq PySem.Builtin.Re

/-! ## quotedata, plain -/
/-- each line end a return and a line feed -/
noncomputable def nlF : List Nat → List Nat
  | [] => []
  | 13 :: 10 :: r => 13 :: 10 :: nlF r
  | c :: r => (if c = 10 ∨ c = 13 then [13, 10] else [c]) ++ nlF r
/-- a dot more at the front of the rows that begin with one -/
noncomputable def dotF : Bool → List Nat → List Nat
  | _, [] => []
  | f, c :: r => (if f = true ∧ c = 46 then [46, 46] else [c]) ++ dotF (decide (c = 10)) r
noncomputable def catS (ys : List Str) : List Nat := ys.flatMap fun y => y.cps.toList
theorem join_cat (ys : List Str) : (Txt.join "" ys).cps.toList = catS ys := by
  unfold Txt.join
  rw [StrLaws.glued_eq_join]
  induction ys with
  | nil => rfl
  | cons y ys ih =>
    cases ys with
    | nil => simp [Str.join, catS]
    | cons z zs =>
      show (y ++ "" ++ Str.join "" (z :: zs)).cps.toList = _
      rw [Str.cps_append, Str.cps_append, Array.toList_append, Array.toList_append, ih]
      have e0 : ("" : Str).cps.toList = [] := by decide
      rw [e0]
      simp only [catS, List.flatMap_cons, List.append_nil]
theorem catS_append (a b : List Str) : catS (a ++ b) = catS a ++ catS b := by simp [catS]
theorem cat_one (x : Str) : catS [x] = x.cps.toList := by simp [catS]

noncomputable def nx2 (text : Array Nat) (d : Nat) : Option (Nat × Nat) := (nextNl text text.size (text.size + 1 - d) d).map fun q => (q, if text.getD q 0 = 13 ∧ q + 1 < text.size ∧ text.getD (q + 1) 0 = 10 then q + 2 else q + 1)
noncomputable def nx1 (text : Array Nat) (d : Nat) : Option (Nat × Nat) := (nextDot text text.size (text.size + 1 - d) d).map fun q => (q, q + 1)

theorem nx2_ok (text : Array Nat) : ∀ d q e, d ≤ text.size → nx2 text d = some (q, e) → d ≤ q ∧ q < e ∧ e ≤ text.size := by
  intro d q e hd h
  unfold nx2 at h
  cases hq : nextNl text text.size (text.size + 1 - d) d with
  | none => rw [hq] at h; cases h
  | some q' =>
    rw [hq] at h
    simp only [Option.map_some, Option.some.injEq, Prod.mk.injEq] at h
    obtain ⟨rfl, rfl⟩ := h
    obtain ⟨a, b, c, d⟩ := nextNl_some hq
    by_cases hc : text.getD q' 0 = 13 ∧ q' + 1 < text.size ∧ text.getD (q' + 1) 0 = 10
    · rw [if_pos hc]; omega
    · rw [if_neg hc]; omega
theorem nextDot_some {text : Array Nat} {lim : Nat} : ∀ {f s q : Nat}, nextDot text lim f s = some q → s ≤ q ∧ dotAt text lim q ∧ ∀ i, s ≤ i → i < q → ¬ dotAt text lim i
  | 0, s, q, h => nomatch h
  | f + 1, s, q, h => by
    unfold nextDot at h
    split at h
    · rename_i hc; cases h; exact ⟨Nat.le_refl _, hc, fun i a b => by omega⟩
    · rename_i hc
      obtain ⟨a, b, c⟩ := nextDot_some h
      refine ⟨by omega, b, fun i h1 h2 => ?_⟩
      by_cases e : i = s
      · rw [e]; exact hc
      · exact c i (by omega) h2
theorem nextDot_none {text : Array Nat} {lim : Nat} : ∀ {f s : Nat}, lim < s + f → nextDot text lim f s = none → ∀ i, s ≤ i → i < lim → ¬ dotAt text lim i
  | 0, s, hf, h, i, a, b => by omega
  | f + 1, s, hf, h, i, a, b => by
    unfold nextDot at h
    split at h
    · cases h
    · rename_i hc
      by_cases e : i = s
      · rw [e]; exact hc
      · exact nextDot_none (by omega) h i (by omega) b
theorem nx1_ok (text : Array Nat) : ∀ d q e, d ≤ text.size → nx1 text d = some (q, e) → d ≤ q ∧ q < e ∧ e ≤ text.size := by
  intro d q e hd h
  unfold nx1 at h
  cases hq : nextDot text text.size (text.size + 1 - d) d with
  | none => rw [hq] at h; cases h
  | some q' =>
    rw [hq] at h
    simp only [Option.map_some, Option.some.injEq, Prod.mk.injEq] at h
    obtain ⟨rfl, rfl⟩ := h
    obtain ⟨a, b, _⟩ := nextDot_some hq
    have := b.2.1
    omega

theorem drop_cons {l : List Nat} {d : Nat} (h : d < l.length) : l.drop d = l.getD d 0 :: l.drop (d + 1) := by
  rw [List.drop_eq_getElem_cons h]; simp [h]
theorem nlF_skip (l : List Nat) : ∀ (n d : Nat), d + n ≤ l.length → (∀ i, d ≤ i → i < d + n → ¬ (l.getD i 0 = 10 ∨ l.getD i 0 = 13)) → nlF (l.drop d) = (l.drop d).take n ++ nlF (l.drop (d + n))
  | 0, d, _, _ => by simp
  | n + 1, d, hl, h => by
    have h0 := h d (Nat.le_refl _) (by omega)
    have ih := nlF_skip l n (d + 1) (by omega) fun i a b => h i (by omega) (by omega)
    rw [drop_cons (by omega)]
    have e : nlF (l.getD d 0 :: l.drop (d + 1)) = l.getD d 0 :: nlF (l.drop (d + 1)) := by
      rw [nlF]
      · rw [if_neg h0]; rfl
      · intro r e1 _; exact h0 (.inr e1)
    rw [e, ih, List.take_succ_cons, List.cons_append, show d + (n + 1) = d + 1 + n by omega]
theorem nlF_at {l : List Nat} {q : Nat} (hq : q < l.length) (hc : l.getD q 0 = 10 ∨ l.getD q 0 = 13) : nlF (l.drop q) = [13, 10] ++ nlF (l.drop (if l.getD q 0 = 13 ∧ q + 1 < l.length ∧ l.getD (q + 1) 0 = 10 then q + 2 else q + 1)) := by
  rw [drop_cons hq]
  by_cases h : l.getD q 0 = 13 ∧ q + 1 < l.length ∧ l.getD (q + 1) 0 = 10
  · rw [if_pos h, drop_cons h.2.1, h.1, h.2.2]; rfl
  · rw [if_neg h, nlF]
    · rw [if_pos hc]
    · intro r e1 e2
      refine h ⟨e1, ?_⟩
      by_cases hl : q + 1 < l.length
      · rw [drop_cons hl] at e2; exact ⟨hl, (List.cons.inj e2).1⟩
      · rw [List.drop_of_length_le (by omega)] at e2; cases e2
theorem arr_getD (a : Array Nat) (i : Nat) : a.getD i 0 = a.toList.getD i 0 := by
  rw [Array.getD_eq_getD_getElem?, List.getD_eq_getElem?_getD, Array.getElem?_toList]
theorem extract_toList (a : Array Nat) (d q : Nat) (h : q ≤ a.size) : (a.extract d q).toList = (a.toList.drop d).take (q - d) := by
  rw [Array.toList_extract, List.extract_eq_take_drop]

theorem sub2_cat (text : Array Nat) : ∀ (f d : Nat), text.size - d < f → d ≤ text.size → catS (subGo text (nx2 text) "\r\n" f d) = nlF (text.toList.drop d)
  | 0, d, hf, _ => absurd hf (Nat.not_lt_zero _)
  | f + 1, d, hf, hd => by
    have hlen : text.toList.length = text.size := Array.length_toList
    unfold subGo
    cases hq : nextNl text text.size (text.size + 1 - d) d with
    | none =>
      have e : nx2 text d = none := by unfold nx2; rw [hq]; rfl
      rw [e]
      have hno := nextNl_none (by omega) hq
      have sk := nlF_skip text.toList (text.size - d) d (by omega) fun i a b => by rw [← arr_getD]; exact hno i a (by omega)
      rw [sk, show d + (text.size - d) = text.size by omega, ← hlen, List.drop_length]
      dsimp only
      split
      · rw [cat_one]
        show (text.extract d text.size).toList = _
        rw [extract_toList _ _ _ (Nat.le_refl _), hlen]; simp [nlF]
      · have : d = text.toList.length := by omega
        subst this
        simp [nlF, catS]
    | some q =>
      obtain ⟨a, b, c, dd⟩ := nextNl_some hq
      have e : nx2 text d = some (q, if text.getD q 0 = 13 ∧ q + 1 < text.size ∧ text.getD (q + 1) 0 = 10 then q + 2 else q + 1) := by unfold nx2; rw [hq]; rfl
      rw [e]
      dsimp only
      have sk := nlF_skip text.toList (q - d) d (by omega) fun i h1 h2 => by rw [← arr_getD]; exact dd i h1 (by omega)
      have at_ := nlF_at (l := text.toList) (q := q) (by omega) (by rw [← arr_getD]; exact c)
      rw [← arr_getD, ← arr_getD, hlen] at at_
      have bound : (if text.getD q 0 = 13 ∧ q + 1 < text.size ∧ text.getD (q + 1) 0 = 10 then q + 2 else q + 1) ≤ text.size ∧ q < (if text.getD q 0 = 13 ∧ q + 1 < text.size ∧ text.getD (q + 1) 0 = 10 then q + 2 else q + 1) := by
        by_cases hc : text.getD q 0 = 13 ∧ q + 1 < text.size ∧ text.getD (q + 1) 0 = 10
        · rw [if_pos hc]; omega
        · rw [if_neg hc]; omega
      generalize (if text.getD q 0 = 13 ∧ q + 1 < text.size ∧ text.getD (q + 1) 0 = 10 then q + 2 else q + 1) = e' at *
      have ih := sub2_cat text f e' (by omega) bound.1
      rw [catS_append, catS_append, ih, sk, show d + (q - d) = q by omega, at_, cat_one]
      rw [List.append_assoc]
      congr 1
      split
      · rw [cat_one]; exact extract_toList _ _ _ (by omega)
      · have : q - d = 0 := by omega
        rw [this]; simp [catS]

noncomputable def frAt (l : List Nat) (d : Nat) : Bool := decide (d = 0 ∨ l.getD (d - 1) 0 = 10)
theorem frAt_succ (l : List Nat) (d : Nat) : frAt l (d + 1) = decide (l.getD d 0 = 10) := by
  unfold frAt
  rw [Nat.add_sub_cancel]
  congr 1
  exact propext ⟨fun h => h.elim (fun q => absurd q (by omega)) id, .inr⟩
theorem dotF_skip (l : List Nat) : ∀ (n d : Nat), d + n ≤ l.length → (∀ i, d ≤ i → i < d + n → ¬ (frAt l i = true ∧ l.getD i 0 = 46)) → dotF (frAt l d) (l.drop d) = (l.drop d).take n ++ dotF (frAt l (d + n)) (l.drop (d + n))
  | 0, d, _, _ => by simp
  | n + 1, d, hl, h => by
    have h0 := h d (Nat.le_refl _) (by omega)
    have ih := dotF_skip l n (d + 1) (by omega) fun i a b => h i (by omega) (by omega)
    rw [drop_cons (by omega), dotF, if_neg h0, ← frAt_succ, ih, List.take_succ_cons, show d + (n + 1) = d + 1 + n by omega]
    rfl
theorem sub1_cat (text : Array Nat) : ∀ (f d : Nat), text.size - d < f → d ≤ text.size → catS (subGo text (nx1 text) ".." f d) = dotF (frAt text.toList d) (text.toList.drop d)
  | 0, d, hf, _ => absurd hf (Nat.not_lt_zero _)
  | f + 1, d, hf, hd => by
    have hlen : text.toList.length = text.size := Array.length_toList
    have da : ∀ i, i < text.size → (dotAt text text.size i ↔ (frAt text.toList i = true ∧ text.toList.getD i 0 = 46)) := fun i hi => by
      unfold frAt
      rw [← arr_getD, ← arr_getD]
      simp only [decide_eq_true_eq]
      exact ⟨fun ⟨a, _, b⟩ => ⟨a, b⟩, fun ⟨a, b⟩ => ⟨a, hi, b⟩⟩
    unfold subGo
    cases hq : nextDot text text.size (text.size + 1 - d) d with
    | none =>
      have e : nx1 text d = none := by unfold nx1; rw [hq]; rfl
      rw [e]
      have hno := nextDot_none (by omega) hq
      have sk := dotF_skip text.toList (text.size - d) d (by omega) fun i a b => fun q => hno i a (by omega) ((da i (by omega)).mpr q)
      rw [sk, show d + (text.size - d) = text.toList.length by omega, List.drop_length]
      dsimp only
      split
      · rw [cat_one]
        show (text.extract d text.size).toList = _
        rw [extract_toList _ _ _ (Nat.le_refl _)]; simp [dotF]
      · have : text.size - d = 0 := by omega
        rw [this]
        simp [dotF, catS]
    | some q =>
      obtain ⟨a, b, dd⟩ := nextDot_some hq
      have hql := b.2.1
      have e : nx1 text d = some (q, q + 1) := by unfold nx1; rw [hq]; rfl
      rw [e]
      dsimp only
      have sk := dotF_skip text.toList (q - d) d (by omega) fun i h1 h2 => fun z => dd i h1 (by omega) ((da i (by omega)).mpr z)
      have at_ := (da q hql).mp b
      have ih := sub1_cat text f (q + 1) (by omega) (by omega)
      rw [catS_append, catS_append, ih, sk, show d + (q - d) = q by omega, cat_one, drop_cons (d := q) (by omega), dotF, if_pos at_, frAt_succ, List.append_assoc]
      congr 1
      split
      · rw [cat_one]; exact extract_toList _ _ _ (by omega)
      · have : q - d = 0 := by omega
        rw [this]; simp [catS]

noncomputable def nlS (x : Str) : Str := ⟨(nlF x.cps.toList).toArray⟩
noncomputable def quoteS (x : Str) : Str := ⟨(dotF true (nlF x.cps.toList)).toArray⟩
theorem join_eq {ys : List Str} {l : List Nat} (h : catS ys = l) : Txt.join "" ys = ⟨l.toArray⟩ := by
  have := join_cat ys
  rw [h] at this
  generalize Txt.join "" ys = z at this
  cases z with
  | mk c => simp only at this; rw [← this]
theorem nlS_join (x : Str) : Txt.join "" (subGo x.cps (nx2 x.cps) "\r\n" (x.cps.size + 1) 0) = nlS x := join_eq (by rw [sub2_cat _ _ _ (by omega) (Nat.zero_le _), List.drop_zero])
theorem quote_join (x : Str) : Txt.join "" (subGo (nlS x).cps (nx1 (nlS x).cps) ".." ((nlS x).cps.size + 1) 0) = quoteS x := join_eq (by rw [sub1_cat _ _ _ (by omega) (Nat.zero_le _), List.drop_zero]; rfl)

theorem nlF_len : ∀ l : List Nat, (nlF l).length ≤ 2 * l.length
  | [] => Nat.le_refl _
  | 13 :: 10 :: r => by
    have := nlF_len r
    rw [nlF]; simp; omega
  | c :: r => by
    have := nlF_len r
    by_cases h : ∃ r', c = 13 ∧ r = 10 :: r'
    · obtain ⟨r', rfl, rfl⟩ := h
      have := nlF_len r'
      rw [nlF]; simp; omega
    · rw [nlF]
      · rw [List.length_append]
        have : (if c = 10 ∨ c = 13 then [13, 10] else [c]).length ≤ 2 := by split <;> simp
        simp; omega
      · intro r' e1 e2; exact h ⟨r', e1, e2⟩
theorem dotF_len : ∀ (l : List Nat) (f : Bool), (dotF f l).length ≤ 2 * l.length
  | [], _ => by simp [dotF]
  | c :: r, f => by
    have := dotF_len r (decide (c = 10))
    rw [dotF, List.length_append]
    have : (if f = true ∧ c = 46 then [46, 46] else [c]).length ≤ 2 := by split <;> simp
    simp; omega
theorem strOk_list {l : List Nat} : PyData.strOk ⟨l.toArray⟩ = true ↔ ∀ c ∈ l, ∃ x : Str, PyData.strOk x = true ∧ c ∈ x.cps := by
  constructor
  · intro h c hc; exact ⟨_, h, by simpa using hc⟩
  · intro h
    unfold PyData.strOk
    rw [Array.all_eq_true']
    intro c hc
    obtain ⟨x, hx, hm⟩ := h c (by simpa using hc)
    unfold PyData.strOk at hx
    rw [Array.all_eq_true'] at hx
    exact hx c hm
theorem nlF_mem : ∀ (l : List Nat) c, c ∈ nlF l → c ∈ l ∨ c = 10 ∨ c = 13
  | [], c, h => by simp [nlF] at h
  | 13 :: 10 :: r, c, h => by
    rw [nlF] at h
    simp only [List.mem_cons] at h
    rcases h with h | h | h
    · exact .inr (.inr h)
    · exact .inr (.inl h)
    · rcases nlF_mem r c h with q | q
      · exact .inl (by simp [q])
      · exact .inr q
  | a :: r, c, h => by
    by_cases hh : ∃ r', a = 13 ∧ r = 10 :: r'
    · obtain ⟨r', rfl, rfl⟩ := hh
      rw [nlF] at h
      simp only [List.mem_cons] at h
      rcases h with h | h | h
      · exact .inr (.inr h)
      · exact .inr (.inl h)
      · rcases nlF_mem r' c h with q | q
        · exact .inl (by simp [q])
        · exact .inr q
    · rw [nlF] at h
      · rcases List.mem_append.mp h with h | h
        · split at h
          · simp at h; exact .inr h.symm
          · simp at h; exact .inl (by simp [h])
        · rcases nlF_mem r c h with q | q
          · exact .inl (List.mem_cons_of_mem _ q)
          · exact .inr q
      · intro r' e1 e2; exact hh ⟨r', e1, e2⟩
theorem dotF_mem : ∀ (l : List Nat) f c, c ∈ dotF f l → c ∈ l
  | [], f, c, h => by simp [dotF] at h
  | a :: r, f, c, h => by
    rw [dotF] at h
    rcases List.mem_append.mp h with h | h
    · split at h
      · rename_i q; simp at h; simp [h, q.2]
      · simp at h; simp [h]
    · exact List.mem_cons_of_mem _ (dotF_mem r _ c h)
theorem nlS_ok {x : Str} (h : PyData.strOk x = true) : PyData.strOk (nlS x) = true := strOk_list.mpr fun c hc => by
  rcases nlF_mem _ c hc with q | q | q
  · exact ⟨x, h, by simpa using q⟩
  · exact ⟨"\r\n", by decide +kernel, by rw [q]; decide +kernel⟩
  · exact ⟨"\r\n", by decide +kernel, by rw [q]; decide +kernel⟩
theorem quoteS_ok {x : Str} (h : PyData.strOk x = true) : PyData.strOk (quoteS x) = true := strOk_list.mpr fun c hc => by
  have := dotF_mem _ _ _ hc
  exact ⟨nlS x, nlS_ok h, by simpa [nlS] using this⟩

section
variable {prog : Program} {w : World} {hb : Heap}
theorem pat36 (B : BaseOk (KF w.params) hb) : PatAt hb 36 35 code1 := ⟨⟨_, _, B.X 36 _ rfl, rfl, rfl, rfl, rfl, rfl, rfl⟩, ⟨_, _, _, B.X 35 _ rfl, rfl, by decide +kernel⟩⟩
theorem pat41 (B : BaseOk (KF w.params) hb) : PatAt hb 41 40 code2 := ⟨⟨_, _, B.X 41 _ rfl, rfl, rfl, rfl, rfl, rfl, rfl⟩, ⟨_, _, _, B.X 40 _ rfl, rfl, by decide +kernel⟩⟩

theorem quotedata_ok (B : BaseOk (KF w.params) hb) : FnOk prog w hb 1 48 (fun ds d => ∃ x : Str, ds = [.str x] ∧ x.length ≤ 1000 ∧ d = .str (quoteS x)) := by
  intro A s M vs ds d hP R hk0 hM rv Q E k
  obtain ⟨x, rfl, hx, rfl⟩ := hP
  cases rv with | cons r1 rv => ?_
  cases rv
  refine enter (I := []) (fd := fdOf w.params 48) (body := bodyOf w.params 48) (ρ := [("data", .frz (.str x))]) B hk0 R.depth rfl rfl rfl rfl rfl rfl rfl ?_ hM ?_ ?_ ?_
  · intro b hb'; exact nomatch hb'
  · intro y sl hy
    have hy := lookup_mem hy
    simp only [List.mem_cons, Prod.mk.injEq, List.not_mem_nil, or_false] at hy
    obtain ⟨rfl, rfl⟩ := hy
    exact ⟨_, fun L => rfl, _, rfl, r1⟩
  · intro y z b cs fs h1 h2
    have h1 := lookup_mem h1
    simp only [List.mem_cons, Prod.mk.injEq, List.not_mem_nil, or_false, reduceCtorEq, and_false] at h1
  intro L h₁ tk Mc hMc hMn S
  have hx' : x.cps.size ≤ 1000 := hx
  have hn2 : (nlS x).length ≤ 2000 := by
    show (nlF x.cps.toList).toArray.size ≤ _
    have := nlF_len x.cps.toList
    simp at this ⊢; omega
  have s2 : ∀ d, d ≤ x.cps.size → EndsIn 40 (Sre.forSearch code2 x.cps 0 d x.cps.size false) (fun m => match nx2 x.cps d with | some (q, e) => MatchedAt q e m | none => FailedM m) := fun d hd => by
    have := search2 (text := x.cps) (s := d) hd
    unfold nx2
    cases e : nextNl x.cps x.cps.size (x.cps.size + 1 - d) d with
    | none => rw [e] at this; exact this
    | some q => rw [e] at this; exact this
  have s1 : ∀ d, d ≤ (nlS x).cps.size → EndsIn (3 * (nlS x).cps.size + 30) (Sre.forSearch code1 (nlS x).cps 0 d (nlS x).cps.size false) (fun m => match nx1 (nlS x).cps d with | some (q, e) => MatchedAt q e m | none => FailedM m) := fun d hd => by
    have := search1 (text := (nlS x).cps) (s := d) hd
    unfold nx1
    cases e : nextDot (nlS x).cps (nlS x).cps.size ((nlS x).cps.size + 1 - d) d with
    | none => rw [e] at this; exact this
    | some q => rw [e] at this; exact this
  have hn2' : (nlS x).cps.size ≤ 2000 := hn2
  refine x_return S (PE.x (PE.cast (pe_sub (x := nlS x) (r := "..") (nx := nx1 (nlS x).cps) B rfl rfl (pat36 B) (PE.po (pe_str (by decide +kernel)))
    (PE.cast (pe_sub (x := x) (r := "\r\n") (nx := nx2 x.cps) B rfl rfl (pat41 B) (PE.po (pe_globS B rfl rfl (by decide +kernel))) (pe_name rfl rfl) (Kk := 40) (by decide +kernel) (by omega) (by decide +kernel) (by decide +kernel) (nx2_ok x.cps) s2 (fun h _ => by rw [nlS_join]; exact nlS_ok h)) (by rw [nlS_join]))
    (Kk := 3 * (nlS x).cps.size + 30) (by omega) (by omega) (by decide +kernel) (by decide +kernel) (nx1_ok _) s1 (fun h _ => by
      rw [quote_join]
      refine strOk_list.mpr fun c hc => ⟨nlS x, h, ?_⟩
      have := dotF_mem _ _ _ hc
      simpa [nlS] using this)) (by rw [quote_join]))) fun v h tk S r => ?_
  exact k v h tk (fun b o hb' e => S.kg b o hb' e) (r.sub hMc)
end
end Oh

-- OhSl
namespace Oh
open PySem PySem.W PyProof.Rows PySem.SeqAt

theorem pickD_plain (ds : List PyData) (lo hi : Option Int) : pickD ds lo hi none = (ds.drop (lo.elim 0 (clipAt ds.length))).take (hi.elim ds.length (clipAt ds.length) - lo.elim 0 (clipAt ds.length)) := by
  unfold pickD
  rw [sliceBounds_plain]
  simp only [sliceRange_one]
  have := pick_run ds.toArray (lo.elim 0 (clipAt ds.length)) (hi.elim ds.length (clipAt ds.length) - lo.elim 0 (clipAt ds.length))
  simpa using this
theorem pickD_from (ds : List PyData) (a : Nat) : pickD ds (some a) none none = ds.drop a := by
  rw [pickD_plain]
  simp only [Option.elim, clipAt_nat]
  rcases Nat.le_total a ds.length with h | h
  · rw [Nat.min_eq_left h, List.take_of_length_le (by simp)]
  · rw [Nat.min_eq_right h, List.drop_of_length_le (Nat.le_refl _), List.drop_of_length_le h]; simp
theorem pickD_upto (ds : List PyData) (b : Nat) : pickD ds none (some b) none = ds.take b := by
  rw [pickD_plain]
  simp only [Option.elim, clipAt_nat, List.drop_zero, Nat.sub_zero]
  rcases Nat.le_total b ds.length with h | h
  · rw [Nat.min_eq_left h]
  · rw [Nat.min_eq_right h, List.take_of_length_le (Nat.le_refl _), List.take_of_length_le h]
theorem pickD_init (ds : List PyData) : pickD ds none (some (-1)) none = ds.take (ds.length - 1) := by
  rw [pickD_plain]
  have := clipAt_neg ds.length 1 (Nat.le_refl _)
  simp only [Option.elim, List.drop_zero, Nat.sub_zero]
  rw [show (-1 : Int) = -((1 : Nat) : Int) from rfl, this]
theorem pickD_rev (ds : List PyData) : pickD ds none none (some (-1)) = ds.reverse := by
  unfold pickD
  rw [krv_bounds]
  show ((sliceRange ((ds.length : Int) - 1) (-1) (-1)).filterMap (ds[·]?)) = _
  rw [krv_sliceRange, krv_range, List.filterMap_reverse]
  have := krv_all ds.toArray
  simp only [List.size_toArray, List.getElem?_toArray, List.toList_toArray] at this
  rw [this]

theorem slice_plain (x : Str) (lo hi : Option Int) : (Txt.slice x lo hi).cps.toList = (x.cps.toList.drop (lo.elim 0 (clipAt x.length))).take (hi.elim x.length (clipAt x.length) - lo.elim 0 (clipAt x.length)) := by
  have e : Builtin.Str.strSliceIndices lo hi 1 x.length = (List.range (hi.elim x.length (clipAt x.length) - lo.elim 0 (clipAt x.length))).map (lo.elim 0 (clipAt x.length) + ·) := by
    rw [← sliceRange_one]
    unfold Builtin.Str.strSliceIndices
    cases lo <;> cases hi <;> simp [clipAt_cast]
  have hx : x.cps.toList.length = x.length := by simp [Str.length]
  unfold Txt.slice
  rw [e]
  split
  · rename_i h
    simp at h
    have hb : ∀ o : Option Int, o.elim x.length (clipAt x.length) ≤ x.length := fun o => by
      cases o with
      | none => exact Nat.le_refl _
      | some i => exact Int.ofNat_le.mp (by rw [Option.elim, clipAt_cast]; exact Int.max_le.mpr ⟨Int.natCast_nonneg _, Int.min_le_right _ _⟩)
    have h1 := hb hi
    by_cases h0 : lo.elim 0 (clipAt x.length) = 0
    · rw [h0] at h ⊢
      rw [List.drop_zero, List.take_of_length_le (by omega)]
    · have : x.length = 0 := by omega
      have hn : x.cps.toList = [] := List.eq_nil_of_length_eq_zero (by omega)
      rw [hn]; simp
  · show (List.filterMap _ _) = _
    exact pick_run x.cps _ _
theorem slice_two (x : Str) (a b : Nat) : (Txt.slice x (some a) (some b)).cps.toList = (x.cps.toList.drop a).take (b - a) := by
  rw [slice_plain]
  simp only [Option.elim, clipAt_nat]
  have hx : x.cps.toList.length = x.length := by simp [Str.length]
  rcases Nat.le_total a x.length with h | h
  · rw [Nat.min_eq_left h]
    rcases Nat.le_total b x.length with h2 | h2
    · rw [Nat.min_eq_left h2]
    · rw [Nat.min_eq_right h2, List.take_of_length_le (by rw [List.length_drop]; omega), List.take_of_length_le (by rw [List.length_drop]; omega)]
  · rw [Nat.min_eq_right h, List.drop_of_length_le (by omega), List.drop_of_length_le (by omega)]; simp
theorem slice_from (x : Str) (a : Nat) : (Txt.slice x (some a) none).cps.toList = x.cps.toList.drop a := by
  rw [slice_plain]
  simp only [Option.elim, clipAt_nat]
  have hx : x.cps.toList.length = x.length := by simp [Str.length]
  rcases Nat.le_total a x.length with h | h
  · rw [Nat.min_eq_left h, List.take_of_length_le (by rw [List.length_drop]; omega)]
  · rw [Nat.min_eq_right h, List.drop_of_length_le (by omega), List.drop_of_length_le (by omega)]; simp
theorem slice_upto (x : Str) (b : Nat) : (Txt.slice x none (some b)).cps.toList = x.cps.toList.take b := by
  rw [slice_plain]
  simp only [Option.elim, clipAt_nat, List.drop_zero, Nat.sub_zero]
  have hx : x.cps.toList.length = x.length := by simp [Str.length]
  rcases Nat.le_total b x.length with h | h
  · rw [Nat.min_eq_left h]
  · rw [Nat.min_eq_right h, List.take_of_length_le (by omega), List.take_of_length_le (by omega)]
theorem slice_last (x : Str) (k : Nat) (hk : 1 ≤ k) : (Txt.slice x (some (-(k : Int))) none).cps.toList = x.cps.toList.drop (x.length - k) := by
  rw [slice_plain]
  simp only [Option.elim, clipAt_neg _ _ hk]
  have hx : x.cps.toList.length = x.length := by simp [Str.length]
  rw [List.take_of_length_le (by rw [List.length_drop]; omega)]
theorem str_ext {x y : Str} (h : x.cps.toList = y.cps.toList) : x = y := by
  cases x; cases y; simp only [Str.mk.injEq]; exact Array.toList_inj.mp h
theorem str_mk {x : Str} {l : List Nat} (h : x.cps.toList = l) : x = ⟨l.toArray⟩ := str_ext (by rw [h])
theorem item_at (x : Str) (k : Nat) (h : k < x.length) : Txt.item x (k : Int) = ⟨#[x.cps.toList.getD k 0]⟩ := by
  unfold Txt.item Txt.charAt
  have : seqIndex? (k : Int) x.length = some k := by
    unfold seqIndex?
    have h2 : ¬ (k : Int) < 0 := Int.not_lt.mpr (Int.natCast_nonneg k)
    simp only [h2, if_false]
    rw [if_pos (by simp; omega)]; simp
  rw [this]
  have hk : k < x.cps.size := h
  simp [hk]
end Oh

-- OhLa
namespace Oh
open PySem PySem.W PyProof.Rows PySem.SeqAt PySem.Calls PySem.MeetsSeq

section
variable {prog : Program} {w : World} {A : Around} {hb g : Heap} {I M : List Addr} {env : Env} {ρ : Store} {K : Frag}
theorem x_returnO {x : Str} {px pos : Pos} {a : Addr} {ds : List PyData} {rest : List Stmt} {s : Shared} {Q : Flow → Shared → Prop} {E : Value → Shared → Prop} (S : St hb g I M env ρ s.heap) (hx : lcl env.scope x = true) (hl : Ow ρ x a ds)
    (k : (∀ M₀ : List Addr, (∀ b ∈ M₀, b ∈ M) → a ∉ M₀ → Rep M₀ s.heap (.ref a) (.list ds)) → Q (.ret (.ref a)) s) : wpAny (model prog w) A (execs (.Return (some (.Name x px)) pos :: rest) env) Q E s := by
  obtain ⟨v, ⟨e, _, _, vs, l, r⟩, h⟩ := S.load (prog := prog) (w := w) (A := A) hx hl
  cases e
  exact wpAny_execs_cons (wpAny_Return_some (wpAny_Name' (lcl_debug hx) (h _ _ (k fun M₀ hs ha => .list ha l (r.sub hs)))))
/-- a def of one argument that changes nothing -/
theorem enter1 {s : Shared} {f : Addr} {o : Obj} {fd : FuncData} {body : List Stmt} {x : Str} {v : Value} {d : PyData} {Q : Value → Shared → Prop} {E : Value → Shared → Prop}
    (B : BaseOk K hb) (hk0 : KeepM [] hb s.heap) (hroom : A.depth < recursionLimit) (ho : K.lookup f = some o) (hd : o.data = .func fd) (hp : fnPlain fd = true) (hbody : fd.body = .stmts body) (hcd : codeIn K fd.code fd.qualname = true)
    (hbind : bindArgs fd ⟨[v], []⟩ = pure [(x, v)]) (hkind : ([(x, v)].all fun y => fd.scope.names.lookup y.1 == some .local || fd.scope.names.lookup y.1 == some .cell) = true)
    (hM : ∀ a ∈ M, ∃ o, s.heap.get? a = some o) (hb1 : ∀ L, (if (envF fd f L).kindOf x = some .cell then bindC (envF fd f L).kindOf [(x, v)] (fun _ => none) x else bindL (envF fd f L).kindOf [(x, v)] (fun _ => none) x) = some v) (r : Rep M s.heap v d)
    (k : ∀ (L : Addr) (h₁ : Heap) (tk : Nat) (Mc : List Addr), (∀ a ∈ M, a ∈ Mc) → (∀ a ∈ Mc, a ∈ M ∨ s.heap.get? a = none) → St hb s.heap [] Mc (envF fd f L) [(x, .frz d)] h₁ →
      wpAny (model prog w) (A.deeper (envF fd f L)) (execs body (envF fd f L)) (fun fl s' => Q (match fl with | .ret v => v | _ => .none) s')
        (fun e s' => wpAny (model prog w) (A.deeper (envF fd f L)) (leaving (envF fd f L) e) (fun _ s'' => E e s'') (fun e' s'' => E e' s'') s') { s with heap := h₁, toks := tk }) :
    wpAny (model prog w) A (call (.ref f) [v]) Q E s := by
  refine enter (I := []) (ρ := [(x, .frz d)]) B hk0 hroom ho hd hp hbody hcd hbind hkind (fun a ha => nomatch ha) hM (fun y sl hy => ?_) (fun y z a ds es h1 _ => ?_) k
  · have hy := lookup_mem hy
    simp only [List.mem_cons, Prod.mk.injEq, List.not_mem_nil, or_false] at hy
    obtain ⟨rfl, rfl⟩ := hy
    exact ⟨v, hb1, _, rfl, r⟩
  · have h1 := lookup_mem h1
    simp only [List.mem_cons, Prod.mk.injEq, List.not_mem_nil, or_false, reduceCtorEq, and_false] at h1
end

section
variable {prog : Program} {w : World} {A : Around} {hb g : Heap} {I M : List Addr} {env : Env} {ρ : Store} {K : Frag}
theorem pt_or_and {a b c : PySem.Expr} {p q : Pos} {x y z : Bool} (ha : PT prog w A hb g I M env ρ a x) (hb' : PT prog w A hb g I M env ρ b y) (hc : PT prog w A hb g I M env ρ c z) : PT prog w A hb g I M env ρ (.BoolOp .Or [a, .BoolOp .And [b, c] p] q) (x || (y && z)) := by
  cases x with
  | true => exact pt_boolop (pts_or_t ha)
  | false =>
    cases y with
    | false => exact pt_boolop (pts_or_f ha (pts_or_f (pt_boolop (pts_and_f hb')) pts_or_nil))
    | true =>
      cases z with
      | false => exact pt_boolop (pts_or_f ha (pts_or_f (pt_boolop (pts_and_t hb' (pts_and_f hc))) pts_or_nil))
      | true => exact pt_boolop (pts_or_f ha (pts_or_t (pt_boolop (pts_and_t hb' (pts_and_t hc pts_and_nil)))))
theorem pt_and2 {a b : PySem.Expr} {q : Pos} {x y : Bool} (ha : PT prog w A hb g I M env ρ a x) (hb' : PT prog w A hb g I M env ρ b y) : PT prog w A hb g I M env ρ (.BoolOp .And [a, b] q) (x && y) := by
  cases x with
  | false => exact pt_boolop (pts_and_f ha)
  | true =>
    cases y with
    | false => exact pt_boolop (pts_and_t ha (pts_and_f hb'))
    | true => exact pt_boolop (pts_and_t ha (pts_and_t hb' pts_and_nil))
/-- text == text -/
theorem pt_eqS {a b : PySem.Expr} {x y : Str} {p : Pos} (hu : A.units + 64 < cLine) (ha : PO prog w A hb g I M env ρ a (.str x)) (hb' : PO prog w A hb g I M env ρ b (.str y)) (hm : behindInMarks .Eq b = false := by rfl) : PT prog w A hb g I M env ρ (.Compare a [.Eq] [b] p) (decide (x = y)) :=
  PT.cast (pt_cmp ha hb' hm (fun s u v Q E ru rv h => cm_eq hu (by simp [PyData.depth]) (by simp [PyData.depth]) ru rv h)) (by simp [PyData.eqv, Bool.beq_eq_decide_eq])
theorem pt_neS {a b : PySem.Expr} {x y : Str} {p : Pos} (hu : A.units + 64 < cLine) (ha : PO prog w A hb g I M env ρ a (.str x)) (hb' : PO prog w A hb g I M env ρ b (.str y)) (hm : behindInMarks .NotEq b = false := by rfl) : PT prog w A hb g I M env ρ (.Compare a [.NotEq] [b] p) (!decide (x = y)) :=
  PT.cast (pt_cmp ha hb' hm (fun s u v Q E ru rv h => cm_ne hu (by simp [PyData.depth]) (by simp [PyData.depth]) ru rv h)) (by simp [PyData.eqv, Bool.beq_eq_decide_eq])
end

/-! ## rows and line ends, told by place -/
noncomputable def isEnd (l : List Nat) (k : Nat) : Bool := decide (l.getD k 0 = 10) || (decide (l.getD k 0 = 13) && !decide ((l.drop (k + 1)).take 1 = [10]))
noncomputable def ch (l : List Nat) (k : Nat) : Str := ⟨#[l.getD k 0]⟩
theorem ch_eq {l : List Nat} {k c : Nat} : (ch l k = ⟨#[c]⟩) = (l.getD k 0 = c) := by
  apply propext
  unfold ch
  simp
theorem lit_nl : ("\n" : Str) = ⟨#[10]⟩ := by decide +kernel
theorem lit_cr : ("\r" : Str) = ⟨#[13]⟩ := by decide +kernel
theorem lit_dot : ("." : Str) = ⟨#[46]⟩ := by decide +kernel
section
variable {prog : Program} {w : World} {A : Around} {hb g : Heap} {I M : List Addr} {env : Env} {ρ : Store} {K : Frag}
/-- x[k], a sign of a text -/
theorem pe_ch {x y : Str} {p q r : Pos} {t : Str} {k : Nat} (hx : lcl env.scope x = true) (hy : lcl env.scope y = true) (h1 : Fz ρ x (.str t)) (h2 : Fz ρ y (.int k)) (hk : k < t.length) (hz : t.length < 2 ^ 62) :
    PE prog w A hb g I M env ρ (.Subscript (.Name x p) (.Name y q) r) (.str (ch t.cps.toList k)) :=
  PE.cast (pe_idxS (PE.po (pe_name hx h1)) (PE.po (pe_name hy h2)) (by omega) (by omega) hz rfl) (by rw [item_at t k hk]; rfl)
/-- the test for a line end at k -/
theorem pt_isEnd {x y : Str} {p1 p2 p3 p4 p5 p6 p7 p8 p9 p10 p11 p12 p13 p14 p15 p16 p17 p18 p19 p20 p21 p22 p23 : Pos} {k1 k2 k3 k4 k5 : Nat} {t : Str} {k : Nat} (hu : A.units + 64 < cLine) (hx : lcl env.scope x = true) (hy : lcl env.scope y = true) (h1 : Fz ρ x (.str t)) (h2 : Fz ρ y (.int k)) (hk : k < t.length) (hz : t.length < 2 ^ 20) :
    PT prog w A hb g I M env ρ (.BoolOp .Or [.Compare (.Subscript (.Name x p1) (.Name y p2) p3) [.Eq] [.Constant (.str "\n") k1 p4] p5, .BoolOp .And [.Compare (.Subscript (.Name x p6) (.Name y p7) p8) [.Eq] [.Constant (.str "\r") k2 p9] p10,
      .Compare (.Subscript (.Name x p11) (.Slice (some (.BinOp (.Name y p12) .Add (.Constant (.int 1) k3 p13) p14)) (some (.BinOp (.Name y p15) .Add (.Constant (.int 2) k4 p16) p17)) none p18) p19) [.NotEq] [.Constant (.str "\n") k5 p20] p21] p22] p23) (isEnd t.cps.toList k) := by
  refine PT.cast (pt_or_and (pt_eqS hu (PE.po (pe_ch hx hy h1 h2 hk (by omega))) (PE.po (pe_str (by decide +kernel)))) (pt_eqS hu (PE.po (pe_ch hx hy h1 h2 hk (by omega))) (PE.po (pe_str (by decide +kernel))))
    (pt_neS hu (PE.po (pe_slcS (PE.po (pe_name hx h1)) (pp_some (PE.po (pe_addI (PE.po (pe_name hy h2)) (PE.po pe_int)))) (pp_some (PE.po (pe_addI (PE.po (pe_name hy h2)) (PE.po pe_int)))) (by unfold sizeLine; omega))) (PE.po (pe_str (by decide +kernel))))) ?_
  unfold isEnd
  have e : (Txt.slice t (some ((k : Int) + 1)) (some ((k : Int) + 2)) = "\n") = ((t.cps.toList.drop (k + 1)).take 1 = [10]) := by
    apply propext
    have := slice_two t (k + 1) (k + 2)
    rw [show k + 2 - (k + 1) = 1 by omega] at this
    have c1 : (((k + 1 : Nat) : Int)) = (k : Int) + 1 := by omega
    have c2 : (((k + 2 : Nat) : Int)) = (k : Int) + 2 := by omega
    rw [c1, c2] at this
    constructor
    · intro h; rw [h, lit_nl] at this; exact this.symm
    · intro h; rw [h] at this; rw [lit_nl]; exact str_mk this
  have d1 : decide (ch t.cps.toList k = "\n") = decide (t.cps.toList.getD k 0 = 10) := decide_eq_decide.mpr (by rw [lit_nl, ch_eq])
  have d2 : decide (ch t.cps.toList k = "\r") = decide (t.cps.toList.getD k 0 = 13) := decide_eq_decide.mpr (by rw [lit_cr, ch_eq])
  have d3 : decide (Txt.slice t (some ((k : Int) + 1)) (some ((k : Int) + 2)) = "\n") = decide ((t.cps.toList.drop (k + 1)).take 1 = [10]) := decide_eq_decide.mpr (iff_of_eq e)
  rw [d1, d2, d3]
end

/-- _law_doubled, after k signs -/
noncomputable def dblN (l : List Nat) : Nat → List Nat × Bool
  | 0 => ([], true)
  | k + 1 => if isEnd l k then ((dblN l k).1 ++ [13, 10], true) else if l.getD k 0 = 13 then dblN l k else ((dblN l k).1 ++ (if (dblN l k).2 = true ∧ l.getD k 0 = 46 then [46, 46] else [l.getD k 0]), false)
noncomputable def strL (l : List Nat) : Str := ⟨l.toArray⟩
theorem strL_append (a b : List Nat) : strL (a ++ b) = strL a ++ strL b := str_ext (by rw [Str.cps_append]; simp [strL])
theorem strL_len (l : List Nat) : (strL l).length = l.length := by simp [strL, Str.length]
theorem lit_crlf : ("\r\n" : Str) = strL [13, 10] := by decide +kernel
theorem lit_dots : (".." : Str) = strL [46, 46] := by decide +kernel
theorem lit_empty : ("" : Str) = strL [] := by decide +kernel
theorem ch_strL (l : List Nat) (k : Nat) : ch l k = strL [l.getD k 0] := rfl
theorem dblN_len (l : List Nat) : ∀ k, (dblN l k).1.length ≤ 2 * k
  | 0 => by simp [dblN]
  | k + 1 => by
    have := dblN_len l k
    unfold dblN
    split
    · simp; omega
    · split
      · omega
      · rw [List.length_append]
        have : (if (dblN l k).2 = true ∧ l.getD k 0 = 46 then [46, 46] else [l.getD k 0]).length ≤ 2 := by split <;> simp
        omega

section
variable {prog : Program} {w : World} {hb : Heap}
theorem doubled_ok (B : BaseOk (KF w.params) hb) : FnOk prog w hb 1 116 (fun ds d => ∃ x : Str, ds = [.str x] ∧ x.length ≤ 1000 ∧ d = .str (strL (dblN x.cps.toList x.length).1)) := by
  intro A s M vs ds d hP R hk0 hM rv Q E k
  obtain ⟨x, rfl, hx, rfl⟩ := hP
  cases rv with | cons r1 rv => ?_
  cases rv
  refine enter1 (fd := fdOf w.params 116) (body := bodyOf w.params 116) (x := "text") B hk0 R.depth rfl rfl rfl rfl rfl rfl rfl hM (fun L => rfl) r1 ?_
  intro L h₁ tk Mc hMc hMn S
  have R' : Rm 0 (A.deeper (envF (fdOf w.params 116) 116 L)) := R.deeper _
  refine x_assign (x := "written") S (PE.x (pe_str (by decide +kernel))) rfl fun h tk S => ?_
  refine x_assign (x := "front") S (PE.x pe_bool) rfl fun h tk S => ?_
  refine x_for (sf := false) (ds := (List.range x.length).map fun i : Nat => PyData.int (i : Int)) (fun i ρ => Fz ρ "text" (.str x) ∧ Fz ρ "written" (.str (strL (dblN x.cps.toList i).1)) ∧ Fz ρ "front" (.bool (dblN x.cps.toList i).2)) (fun d => [("k", .frz d)]) S
    (pi_range B R'.hh rfl rfl rfl (by decide) (PE.po (pe_lenS B rfl rfl rfl (by decide) (PE.po (pe_name rfl rfl)) (by omega))) (by omega)) ?_ ⟨rfl, rfl, rfl⟩ ?_ ?_
  · intro g I d hd
    obtain ⟨i, _, rfl⟩ := List.mem_map.mp hd
    exact takes_name rfl rfl
  · rintro g I i d ρ hd ⟨h1, h2, h3⟩ h tk E' Q' kk S
    have hi : i < x.length := by simpa using (List.getElem?_eq_some_iff.mp hd).1
    rw [List.getElem?_map, List.getElem?_range hi] at hd
    simp only [Option.map_some, Option.some.injEq] at hd
    subst hd
    have hl := dblN_len x.cps.toList i
    have hxs : x.length ≤ 1000 := hx
    refine x_if S (pt_isEnd R'.units' rfl rfl ((lookup_cons_ne (by decide)).trans h1) rfl hi (by omega)) fun h tk S => ?_
    cases he : isEnd x.cps.toList i with
    | true =>
      have st : dblN x.cps.toList (i + 1) = ((dblN x.cps.toList i).1 ++ [13, 10], true) := by rw [dblN, if_pos he]
      refine x_augS (u := strL (dblN x.cps.toList i).1) S rfl ((lookup_cons_ne (by decide)).trans h2) (PE.po (pe_str (by decide +kernel))) (by rw [strL_len, lit_crlf, strL_len]; unfold sizeLine; simp; omega) fun h tk S => ?_
      refine x_assign (x := "front") S (PE.x pe_bool) rfl fun h tk S => x_nil ?_
      refine x_nil (kk _ h tk _ (.inl rfl) S ⟨h1, ?_, ?_⟩)
      · rw [st, strL_append, ← lit_crlf]; rfl
      · rw [st]; rfl
    | false =>
      by_cases h13 : x.cps.toList.getD i 0 = 13
      · have st : dblN x.cps.toList (i + 1) = dblN x.cps.toList i := by rw [dblN, if_neg (by rw [he]; decide), if_pos h13]
        refine x_if (b := false) S (PT.cast (pt_neS R'.units' (PE.po (pe_ch rfl rfl ((lookup_cons_ne (by decide)).trans h1) rfl hi (by omega))) (PE.po (pe_str (by decide +kernel)))) (by rw [lit_cr, decide_eq_true (by rw [ch_eq]; exact h13)]; rfl)) fun h tk S => x_nil (x_nil (x_nil ?_))
        refine kk _ h tk _ (.inl rfl) S ⟨(lookup_cons_ne (by decide)).trans h1, ?_, ?_⟩
        · rw [st]; exact (lookup_cons_ne (by decide)).trans h2
        · rw [st]; exact (lookup_cons_ne (by decide)).trans h3
      · have st : dblN x.cps.toList (i + 1) = ((dblN x.cps.toList i).1 ++ (if (dblN x.cps.toList i).2 = true ∧ x.cps.toList.getD i 0 = 46 then [46, 46] else [x.cps.toList.getD i 0]), false) := by rw [dblN, if_neg (by rw [he]; decide), if_neg h13]
        refine x_if (b := true) S (PT.cast (pt_neS R'.units' (PE.po (pe_ch rfl rfl ((lookup_cons_ne (by decide)).trans h1) rfl hi (by omega))) (PE.po (pe_str (by decide +kernel)))) (by rw [lit_cr, decide_eq_false (by rw [ch_eq]; exact h13)]; rfl)) fun h tk S => ?_
        have pc : (if (dblN x.cps.toList i).2 = true ∧ x.cps.toList.getD i 0 = 46 then [46, 46] else [x.cps.toList.getD i 0]).length ≤ 2 := by split <;> simp
        refine x_augS (u := strL (dblN x.cps.toList i).1) (v := strL (if (dblN x.cps.toList i).2 = true ∧ x.cps.toList.getD i 0 = 46 then [46, 46] else [x.cps.toList.getD i 0])) S rfl ((lookup_cons_ne (by decide)).trans h2)
          (PE.po (pe_ife (t := (dblN x.cps.toList i).2 && decide (x.cps.toList.getD i 0 = 46)) (pt_and2 (pt_bool (PE.po (pe_name rfl ((lookup_cons_ne (by decide)).trans h3)))) (PT.cast (pt_eqS R'.units' (PE.po (pe_ch rfl rfl ((lookup_cons_ne (by decide)).trans h1) rfl hi (by omega))) (PE.po (pe_str (by decide +kernel)))) (by rw [lit_dot]; exact decide_eq_decide.mpr (iff_of_eq ch_eq)))) ?_))
          (by rw [strL_len, strL_len]; unfold sizeLine; omega) fun h tk S => ?_
        · by_cases hc : (dblN x.cps.toList i).2 = true ∧ x.cps.toList.getD i 0 = 46
          · rw [if_pos hc, if_pos (by rw [hc.1, decide_eq_true hc.2]; rfl)]
            exact PE.cast (pe_str (by decide +kernel)) (by rw [lit_dots])
          · rw [if_neg hc, if_neg (by simp only [Bool.and_eq_true, decide_eq_true_eq]; exact hc)]
            exact pe_ch rfl rfl ((lookup_cons_ne (by decide)).trans h1) rfl hi (by omega)
        refine x_assign (x := "front") S (PE.x pe_bool) rfl fun h tk S => x_nil (x_nil (x_nil ?_))
        refine kk _ h tk _ (.inl rfl) S ⟨h1, ?_, ?_⟩
        · rw [st, strL_append]; rfl
        · rw [st]; rfl
  · rintro ρ h tk ⟨h1, h2, h3⟩ S
    simp only [List.length_map, List.length_range] at h2
    refine x_return S (PE.x (pe_name rfl h2)) fun v h tk S r => ?_
    exact k v h tk (fun b o hb' e => S.kg b o hb' e) (r.sub hMc)
end
end Oh

-- OhLb
namespace Oh
open PySem PySem.W PyProof.Rows PySem.SeqAt PySem.Calls PySem.MeetsSeq

/-! ## _law_rows -/
noncomputable def rowsN (l : List Nat) : Nat → List (List Nat)
  | 0 => [[]]
  | k + 1 => if isEnd l k then rowsN l k ++ [[]] else if l.getD k 0 = 13 then rowsN l k else (rowsN l k).set ((rowsN l k).length - 1) ((rowsN l k).getD ((rowsN l k).length - 1) [] ++ [l.getD k 0])
noncomputable def rowsD (rs : List (List Nat)) : List PyData := rs.map fun r => .str (strL r)
noncomputable def rowsF (l : List Nat) : List (List Nat) := if 1 < (rowsN l l.length).length ∧ (rowsN l l.length).getD ((rowsN l l.length).length - 1) [] = [] then (rowsN l l.length).take ((rowsN l l.length).length - 1) else rowsN l l.length
theorem rowsN_len (l : List Nat) : ∀ k, 1 ≤ (rowsN l k).length ∧ (rowsN l k).length ≤ k + 1
  | 0 => ⟨Nat.le_refl _, Nat.le_refl _⟩
  | k + 1 => by
    have := rowsN_len l k
    unfold rowsN
    split
    · simp; omega
    · split
      · omega
      · simp; omega
theorem rowsN_row (l : List Nat) : ∀ k, ∀ r ∈ rowsN l k, r.length ≤ k
  | 0, r, h => by simp [rowsN] at h; simp [h]
  | k + 1, r, h => by
    have ih := rowsN_row l k
    unfold rowsN at h
    split at h
    · rcases List.mem_append.mp h with h | h
      · have := ih r h; omega
      · simp at h; simp [h]
    · split at h
      · have := ih r h; omega
      · rcases List.mem_or_eq_of_mem_set h with h | h
        · have := ih r h; omega
        · rw [h]
          have hl := rowsN_len l k
          have hm : (rowsN l k).getD ((rowsN l k).length - 1) [] ∈ rowsN l k := by
            have : (rowsN l k).length - 1 < (rowsN l k).length := om_pred hl.1
            simp [this]
          have := ih _ hm
          rw [List.length_append]; simp only [List.length_cons, List.length_nil]; omega
theorem rowsD_get {rs : List (List Nat)} {i : Nat} (h : i < rs.length) : (rowsD rs)[i]? = some (.str (strL (rs.getD i []))) := by
  unfold rowsD; simp [h]
theorem rowsD_len (rs : List (List Nat)) : (rowsD rs).length = rs.length := by simp [rowsD]
theorem rowsD_set (rs : List (List Nat)) (i : Nat) (r : List Nat) : (rowsD rs).set i (.str (strL r)) = rowsD (rs.set i r) := by unfold rowsD; rw [List.map_set]
theorem rowsD_append (a b : List (List Nat)) : rowsD (a ++ b) = rowsD a ++ rowsD b := by simp [rowsD]
section
variable {prog : Program} {w : World} {hb : Heap}
theorem rows_ok (B : BaseOk (KF w.params) hb) : FnOk prog w hb 1 130 (fun ds d => ∃ x : Str, ds = [.str x] ∧ x.length ≤ 1000 ∧ d = .list (rowsD (rowsF x.cps.toList))) := by
  intro A s M vs ds d hP R hk0 hM rv Q E k
  obtain ⟨x, rfl, hx, rfl⟩ := hP
  cases rv with | cons r1 rv => ?_
  cases rv
  refine enter1 (fd := fdOf w.params 130) (body := bodyOf w.params 130) (x := "text") B hk0 R.depth rfl rfl rfl rfl rfl rfl rfl hM (fun L => rfl) r1 ?_
  intro L h₁ tk Mc hMc hMn S
  have R' : Rm 0 (A.deeper (envF (fdOf w.params 130) 130 L)) := R.deeper _
  have hlx : x.cps.toList.length = x.length := by simp [Str.length]
  refine x_assignF (x := "rows") (ds := rowsD (rowsN x.cps.toList 0)) S (pf_list (pes_cons (PE.cast (pe_str (by decide +kernel)) (by rw [lit_empty])) pes_nil) (by simp [rowsD, rowsN, sizeLine])) rfl fun a h tk hga haN S => ?_
  have haM : a ∉ M := fun hm => by obtain ⟨o, ho⟩ := hM a hm; have := hga; rw [ho] at this; cases this
  refine x_for (sf := false) (ds := (List.range x.length).map fun i : Nat => PyData.int (i : Int)) (fun i ρ => Fz ρ "text" (.str x) ∧ Ow ρ "rows" a (rowsD (rowsN x.cps.toList i))) (fun d => [("k", .frz d)]) S
    (pi_range B R'.hh rfl rfl rfl (by decide) (PE.po (pe_lenS B rfl rfl rfl (by decide) (PE.po (pe_name rfl rfl)) (by omega))) (by omega)) ?_ ⟨rfl, rfl⟩ ?_ ?_
  · intro g I d hd
    obtain ⟨i, _, rfl⟩ := List.mem_map.mp hd
    exact takes_name rfl rfl
  · rintro g I i d ρ hd ⟨h1, h2⟩ h tk E' Q' kk S
    have hi : i < x.length := by simpa using (List.getElem?_eq_some_iff.mp hd).1
    rw [List.getElem?_map, List.getElem?_range hi] at hd
    simp only [Option.map_some, Option.some.injEq] at hd
    subst hd
    obtain ⟨hl1, hl2⟩ := rowsN_len x.cps.toList i
    refine x_if S (pt_isEnd R'.units' rfl rfl ((lookup_cons_ne (by decide)).trans h1) rfl hi (by omega)) fun h tk S => ?_
    cases he : isEnd x.cps.toList i with
    | true =>
      have st : rowsN x.cps.toList (i + 1) = rowsN x.cps.toList i ++ [[]] := by rw [rowsN, if_pos he]
      refine x_append (x := "rows") S rfl ((lookup_cons_ne (by decide)).trans h2) (PE.x (pe_str (by decide +kernel))) ((lookup_cons_ne (by decide)).trans h2) (by rw [rowsD_len]; unfold sizeLine; omega) fun h tk S => x_nil (x_nil ?_)
      refine kk _ h tk _ (.inl rfl) S ⟨h1, ?_⟩
      rw [st, rowsD_append]
      show List.lookup _ _ = _
      rw [lookup_cons_self, lit_empty]; rfl
    | false =>
      by_cases h13 : x.cps.toList.getD i 0 = 13
      · have st : rowsN x.cps.toList (i + 1) = rowsN x.cps.toList i := by rw [rowsN, if_neg (by rw [he]; decide), if_pos h13]
        refine x_if (b := false) S (PT.cast (pt_neS R'.units' (PE.po (pe_ch rfl rfl ((lookup_cons_ne (by decide)).trans h1) rfl hi (by omega))) (PE.po (pe_str (by decide +kernel)))) (by rw [lit_cr, decide_eq_true (by rw [ch_eq]; exact h13)]; rfl)) fun h tk S => x_nil (x_nil (x_nil ?_))
        refine kk _ h tk _ (.inl rfl) S ⟨(lookup_cons_ne (by decide)).trans h1, ?_⟩
        rw [st]; exact (lookup_cons_ne (by decide)).trans h2
      · have st : rowsN x.cps.toList (i + 1) = (rowsN x.cps.toList i).set ((rowsN x.cps.toList i).length - 1) ((rowsN x.cps.toList i).getD ((rowsN x.cps.toList i).length - 1) [] ++ [x.cps.toList.getD i 0]) := by rw [rowsN, if_neg (by rw [he]; decide), if_neg h13]
        refine x_if (b := true) S (PT.cast (pt_neS R'.units' (PE.po (pe_ch rfl rfl ((lookup_cons_ne (by decide)).trans h1) rfl hi (by omega))) (PE.po (pe_str (by decide +kernel)))) (by rw [lit_cr, decide_eq_false (by rw [ch_eq]; exact h13)]; rfl)) fun h tk S => ?_
        have hlen := rowsN_row x.cps.toList i ((rowsN x.cps.toList i).getD ((rowsN x.cps.toList i).length - 1) []) (by
          have : (rowsN x.cps.toList i).length - 1 < (rowsN x.cps.toList i).length := om_pred (rowsN_len x.cps.toList i).1
          simp [this])
        have idx : ((-1 : Int) + ((rowsD (rowsN x.cps.toList i)).length : Int)).toNat = (rowsN x.cps.toList i).length - 1 := by rw [rowsD_len]; exact om_last (rowsN_len x.cps.toList i).1
        have sq : seqIndex? (-1) (rowsD (rowsN x.cps.toList i)).length = some ((rowsN x.cps.toList i).length - 1) := by
          unfold seqIndex?
          simp only [show ((-1 : Int) < 0) = True from by decide, if_true]
          rw [if_pos (by simp [rowsD_len]; omega)]
          congr 1
        refine x_setitem (x := "rows") (k := -1) (j := (rowsN x.cps.toList i).length - 1) (d := .str (strL ((rowsN x.cps.toList i).getD ((rowsN x.cps.toList i).length - 1) [] ++ [x.cps.toList.getD i 0]))) S rfl ((lookup_cons_ne (by decide)).trans h2)
          (PE.cast (pe_addS (PE.po (pe_idxN (k := -1) (d := .str (strL ((rowsN x.cps.toList i).getD ((rowsN x.cps.toList i).length - 1) []))) (po_own rfl ((lookup_cons_ne (by decide)).trans h2)) (PE.po (pe_negI pe_int)) (by decide) (by rw [rowsD_len]; omega) (by rw [idx]; exact rowsD_get (om_pred (rowsN_len x.cps.toList i).1)) (by decide) rfl)) (PE.po (pe_ch rfl rfl ((lookup_cons_ne (by decide)).trans h1) rfl hi (by omega))) (by rw [strL_len, ch_strL, strL_len]; unfold sizeLine; simp only [List.length_cons, List.length_nil]; omega)) (by rw [strL_append, ch_strL]))
          (PE.po (pe_negI pe_int)) (by decide) (by decide) sq (by rw [rowsD_len]; omega) fun h tk S => x_nil (x_nil (x_nil ?_))
        refine kk _ h tk _ (.inl rfl) S ⟨h1, ?_⟩
        rw [st, ← rowsD_set]; rfl
  · rintro ρ h tk ⟨h1, h2⟩ S
    simp only [List.length_map, List.length_range] at h2
    rw [← hlx] at h2
    obtain ⟨hl1, hl2⟩ := rowsN_len x.cps.toList x.cps.toList.length
    have S' := S.freeze h2 rfl
    generalize hrs : rowsN x.cps.toList x.cps.toList.length = rs at *
    have idx : ((-1 : Int) + ((rowsD rs).length : Int)).toNat = rs.length - 1 := by rw [rowsD_len]; exact om_last hl1
    have fin : rowsF x.cps.toList = if (decide (1 < rs.length) && decide (rs.getD (rs.length - 1) [] = [])) = true then rs.take (rs.length - 1) else rs := by
      unfold rowsF
      rw [hrs]
      by_cases hc : 1 < rs.length ∧ rs.getD (rs.length - 1) [] = []
      · rw [if_pos hc, if_pos (by rw [decide_eq_true hc.1, decide_eq_true hc.2]; rfl)]
      · rw [if_neg hc, if_neg (by simp only [Bool.and_eq_true, decide_eq_true_eq]; exact hc)]
    refine x_return S' (PE.x (pe_ife (t := decide (1 < rs.length) && decide (rs.getD (rs.length - 1) [] = [])) (d := .list (rowsD (rowsF x.cps.toList)))
      (pt_and2 (PT.cast (pt_cmp (PE.po (pe_lenL B rfl rfl rfl (by decide) (PE.po (pe_name rfl rfl)) (by rw [rowsD_len]; omega))) (PE.po pe_int) rfl (fun s u v Q E ru rv h => cm_gt R'.units' (by simp [PyData.depth]) rfl ru rv h)) (by simp only [pyC, if_true, rowsD_len]; exact decide_eq_decide.mpr (by omega)))
        (PT.cast (pt_eqS R'.units' (PE.po (pe_idxN (k := -1) (d := .str (strL (rs.getD (rs.length - 1) []))) (PE.po (pe_name rfl rfl)) (PE.po (pe_negI pe_int)) (by decide) (by rw [rowsD_len]; omega) (by rw [idx]; exact rowsD_get (om_pred hl1)) (by decide) rfl)) (PE.po (pe_str (by decide +kernel)))) (decide_eq_decide.mpr (by
          rw [lit_empty]
          constructor
          · intro h; have := congrArg (fun z : Str => z.cps.toList) h; simpa [strL] using this
          · intro h; rw [h])))) ?_)) fun v h tk S r => ?_
    · rw [fin]
      by_cases hc : (decide (1 < rs.length) && decide (rs.getD (rs.length - 1) [] = [])) = true
      · rw [if_pos hc, if_pos hc]
        refine PE.cast (PF.pe (pf_slice (PE.po (pe_name rfl rfl)) pp_none (pp_some (PE.po (pe_negI pe_int))) pp_none (by decide) (by rw [rowsD_len]; unfold sizeLine; omega))) ?_
        rw [show (-(1 : Int)) = -1 from rfl, pickD_init, rowsD_len]
        unfold rowsD; rw [List.map_take]
      · rw [if_neg hc, if_neg hc]
        exact pe_name rfl rfl
    exact k v h tk (fun b o hb' e => S.kg b o hb' e) (r.sub fun b hb' => List.mem_filter.mpr ⟨List.mem_cons_of_mem _ (hMc b hb'), by simp; rintro rfl; exact haM hb'⟩)
end
end Oh

-- OhLc
namespace Oh
open PySem PySem.W PyProof.Rows PySem.SeqAt PySem.Calls PySem.MeetsSeq

/-! ## _law_read -/
noncomputable def unq (r : Str) : Str := if Txt.slice r none (some 1) = "." then Txt.slice r (some 1) none else r
noncomputable def readStep (st : List (List Str) × List Str) (r : Str) : List (List Str) × List Str := if r = "." then (st.1 ++ [st.2], []) else (st.1, st.2 ++ [unq r])
noncomputable def readN (ss : List Str) (k : Nat) : List (List Str) × List Str := (ss.take k).foldl readStep ([], [])
noncomputable def lettD (ls : List (List Str)) : List PyData := ls.map fun rs => .list (rs.map .str)
theorem readN_succ (ss : List Str) (k : Nat) (h : k < ss.length) : readN ss (k + 1) = readStep (readN ss k) (ss.getD k "") := by
  unfold readN
  rw [List.take_add_one, List.foldl_append]
  simp [h]
theorem readN_len (ss : List Str) : ∀ k, k ≤ ss.length → (readN ss k).1.length + (readN ss k).2.length ≤ k
  | 0, _ => by simp [readN]
  | k + 1, h => by
    have ih := readN_len ss k (by omega)
    rw [readN_succ ss k (by omega)]
    unfold readStep
    split
    · simp; omega
    · simp; omega

section
variable {prog : Program} {w : World} {hb : Heap}
theorem read_ok (B : BaseOk (KF w.params) hb) : FnOk prog w hb 1 123 (fun ds d => ∃ x : Str, ds = [.str x] ∧ x.length ≤ 100000 ∧ (PyData.strOk x = true → ∀ z ∈ Txt.split x "\r\n", PyData.strOk z = true) ∧ (Txt.split x "\r\n").length ≤ 100000 ∧ (∀ z ∈ Txt.split x "\r\n", z.length ≤ 100000) ∧
    d = .list (lettD (readN (Txt.split x "\r\n") ((Txt.split x "\r\n").length - 1)).1)) := by
  intro A s M vs ds d hP R hk0 hM rv Q E k
  obtain ⟨x, rfl, hx, hok, hz, hzz, rfl⟩ := hP
  cases rv with | cons r1 rv => ?_
  cases rv
  refine enter1 (fd := fdOf w.params 123) (body := bodyOf w.params 123) (x := "wire") B hk0 R.depth rfl rfl rfl rfl rfl rfl rfl hM (fun L => rfl) r1 ?_
  intro L h₁ tk Mc hMc hMn S
  have R' : Rm 0 (A.deeper (envF (fdOf w.params 123) 123 L)) := R.deeper _
  generalize hss : Txt.split x "\r\n" = ss at *
  refine x_assignF (x := "letters") (ds := lettD (readN ss 0).1) S (pf_list pes_nil (by simp [lettD, readN])) rfl fun a h tk hga haN S => ?_
  have haM : a ∉ M := fun hm => by obtain ⟨o, ho⟩ := hM a hm; have := hga; rw [ho] at this; cases this
  refine x_assign (x := "rows") (d := .list ((readN ss 0).2.map .str)) S (PE.x (PF.pe (pf_list pes_nil (by simp [readN])))) rfl fun h tk S => ?_
  refine x_for (sf := false) (ds := (ss.take (ss.length - 1)).map .str) (fun i ρ => Ow ρ "letters" a (lettD (readN ss i).1) ∧ Fz ρ "rows" (.list ((readN ss i).2.map .str))) (fun d => [("row", .frz d)]) S
    (pi_list R'.hh (PE.cast (PF.pe (pf_slice (PE.po (pf_split (PE.po (pe_name rfl rfl)) (PE.po (pe_str (by decide +kernel))) (by decide +kernel) (by unfold sizeLine; omega) (by rw [hss]; exact hok) rfl rfl rfl)) pp_none (pp_some (PE.po (pe_negI pe_int))) pp_none (by decide) (by rw [hss]; simp [sizeLine]; omega))) (by
      rw [hss, show (-(1 : Int)) = -1 from rfl, pickD_init, List.length_map, List.map_take]))) ?_ ⟨rfl, rfl⟩ ?_ ?_
  · intro g I d hd
    obtain ⟨i, _, rfl⟩ := List.mem_map.mp hd
    exact takes_name rfl rfl
  · rintro g I i d ρ hd ⟨h1, h2⟩ h tk E' Q' kk S
    have hi : i < ss.length - 1 := by have := (List.getElem?_eq_some_iff.mp hd).1; simp at this; omega
    have hil : i < ss.length := by omega
    have hd' : d = .str (ss.getD i "") := by
      rw [List.getElem?_map, List.getElem?_take_of_lt hi, List.getElem?_eq_getElem hil] at hd
      simp only [Option.map_some, Option.some.injEq] at hd
      rw [← hd]; simp [hil]
    subst hd'
    have rl := readN_len ss i (by omega)
    have st := readN_succ ss i hil
    have hrm : ss.getD i "" ∈ ss := by simp [hil]
    have hrl := hzz _ hrm
    generalize ss.getD i "" = r at *
    unfold readStep at st
    by_cases hr : r = "."
    · rw [if_pos hr] at st
      refine x_if (b := true) S (PT.cast (pt_eqS R'.units' (PE.po (pe_name rfl rfl)) (PE.po (pe_str (by decide +kernel)))) (decide_eq_true hr)) fun h tk S => ?_
      refine x_append (x := "letters") S rfl ((lookup_cons_ne (by decide)).trans h1) (PE.x (pe_name rfl ((lookup_cons_ne (by decide)).trans h2))) ((lookup_cons_ne (by decide)).trans h1) (by simp [lettD, sizeLine]; omega) fun h tk S => ?_
      refine x_assign (x := "rows") (d := .list []) S (PE.x (PF.pe (pf_list pes_nil (by decide)))) rfl fun h tk S => x_nil (x_nil ?_)
      refine kk _ h tk _ (.inl rfl) S ⟨?_, ?_⟩
      · rw [st]
        have e : lettD ((readN ss i).1 ++ [(readN ss i).2]) = lettD (readN ss i).1 ++ [.list ((readN ss i).2.map .str)] := by simp [lettD]
        rw [e]; rfl
      · rw [st]; rfl
    · rw [if_neg hr] at st
      refine x_if (b := false) S (PT.cast (pt_eqS R'.units' (PE.po (pe_name rfl rfl)) (PE.po (pe_str (by decide +kernel)))) (decide_eq_false hr)) fun h tk S => ?_
      refine x_assign (x := "rows") (d := .list ((readN ss i).2.map PyData.str ++ [PyData.str (unq r)])) S (PE.x (pe_addL (PE.po (pe_name rfl ((lookup_cons_ne (by decide)).trans h2))) (PE.po (PF.pe (pf_list (pes_cons (pe_ife (t := decide (Txt.slice r none (some 1) = ".")) (d := .str (unq r)) (pt_eqS R'.units' (PE.po (pe_slcS (PE.po (pe_name rfl rfl)) pp_none (pp_some (PE.po pe_int)) (by unfold sizeLine; omega))) (PE.po (pe_str (by decide +kernel)))) ?_) pes_nil) (by simp [sizeLine])))) (by simp [sizeLine]; omega))) rfl fun h tk S => x_nil (x_nil ?_)
      · unfold unq
        by_cases hc : Txt.slice r none (some 1) = "."
        · rw [if_pos (decide_eq_true hc), if_pos hc]
          exact pe_slcS (PE.po (pe_name rfl rfl)) (pp_some (PE.po pe_int)) pp_none (by unfold sizeLine; omega)
        · rw [if_neg (by simpa using hc), if_neg hc]
          exact pe_name rfl rfl
      refine kk _ h tk _ (.inl rfl) S ⟨?_, ?_⟩
      · rw [st]; exact (lookup_cons_ne (by decide)).trans ((lookup_cons_ne (by decide)).trans h1)
      · rw [st, List.map_append]; rfl
  · rintro ρ h tk ⟨h1, h2⟩ S
    have e : ((ss.take (ss.length - 1)).map PyData.str).length = ss.length - 1 := by simp
    rw [e] at h1
    refine x_returnO S rfl h1 fun rr => ?_
    exact k _ h tk (fun b o hb' e => S.kg b o hb' e) (rr M (fun b hb' => List.mem_cons_of_mem _ (hMc b hb')) haM)
end
end Oh

-- OhLd
namespace Oh
open PySem PySem.W PyProof.Rows PySem.SeqAt PySem.Calls PySem.MeetsSeq

/-! ## _law_letters -/
noncomputable def pcs : List Str := [strL [], strL [97, 11], strL [46], strL [10], strL [13], strL [13, 10], strL [46, 10], strL [46, 46, 28, 98, 133]]
noncomputable def pieceS (v : Int) (k : Nat) : Str := pcs.getD (((v.fdiv 3).fdiv (8 ^ k)).fmod 8).toNat (strL [])
noncomputable def textOf (v : Int) : Str := Txt.join "" ((List.range 5).map (pieceS v))
noncomputable def tailN : List Int := [427, 468, 2, 309, 59778, 44935, 2, 427]
noncomputable def letD (v : Int) (p : Nat) : PyData := .tuple [.int (v.fmod 3), .int p, .str (textOf v)]
noncomputable def lettersN (ns : List Int) : List Int := ns.take 5 ++ tailN
noncomputable def lettersD (ns : List Int) : List PyData := (lettersN ns).zipIdx.map fun q => letD q.1 q.2
theorem piece_mem (v : Int) (k : Nat) : pieceS v k ∈ pcs := by
  unfold pieceS
  have h0 := Int.fmod_nonneg_of_pos ((v.fdiv 3).fdiv (8 ^ k)) (b := 8) (by decide)
  have h1 := Int.fmod_lt_of_pos ((v.fdiv 3).fdiv (8 ^ k)) (b := 8) (by decide)
  have : (((v.fdiv 3).fdiv (8 ^ k)).fmod 8).toNat < pcs.length := by
    show _ < 8
    omega
  simp [this]
theorem pcs_len {x : Str} (h : x ∈ pcs) : x.length ≤ 5 ∧ PyData.strOk x = true := by
  simp only [pcs, List.mem_cons, List.not_mem_nil, or_false] at h
  rcases h with rfl | rfl | rfl | rfl | rfl | rfl | rfl | rfl <;> exact ⟨by decide, by decide +kernel⟩
theorem cat_ok {ys : List Str} (h : ∀ y ∈ ys, PyData.strOk y = true) : PyData.strOk (Txt.join "" ys) = true := by
  rw [join_eq rfl]
  refine strOk_list.mpr fun c hc => ?_
  obtain ⟨y, hy, hm⟩ := List.mem_flatMap.mp hc
  exact ⟨y, h y hy, by simpa using hm⟩

section
variable {prog : Program} {w : World} {hb : Heap}
set_option maxHeartbeats 2000000 in
theorem letters_ok (B : BaseOk (KF w.params) hb) : FnOk prog w hb 1 102 (fun ds d => ∃ ns : List Int, ds = [.list (ns.map .int)] ∧ ns.length ≤ 63 ∧ d = .list (lettersD ns)) := by
  intro A s M vs ds d hP R hk0 hM rv Q E k
  obtain ⟨ns, rfl, hns, rfl⟩ := hP
  cases rv with | cons r1 rv => ?_
  cases rv
  refine enter1 (fd := fdOf w.params 102) (body := bodyOf w.params 102) (x := "script") B hk0 R.depth rfl rfl rfl rfl rfl rfl rfl hM (fun L => rfl) r1 ?_
  intro L h₁ tk Mc hMc hMn S
  have R' : Rm 0 (A.deeper (envF (fdOf w.params 102) 102 L)) := R.deeper _
  have pc : ∀ p1 p2 p3 p4 p5 p6 p7 p8 p9 : Pos, PE prog w (A.deeper (envF (fdOf w.params 102) 102 L)) hb s.heap [] Mc (envF (fdOf w.params 102) 102 L) [("script", .frz (.list (ns.map .int)))]
      (.List [.Constant (.str (strL [])) 0 p1, .Constant (.str (strL [97, 11])) 0 p2, .Constant (.str (strL [46])) 0 p3, .Constant (.str (strL [10])) 0 p4, .Constant (.str (strL [13])) 0 p5, .Constant (.str (strL [13, 10])) 0 p6, .Constant (.str (strL [46, 10])) 0 p7, .Constant (.str (strL [46, 46, 28, 98, 133])) 0 p8] p9) (.list (pcs.map .str)) := fun p1 p2 p3 p4 p5 p6 p7 p8 p9 =>
    PF.pe (pf_list (pes_cons (pe_str (by decide +kernel)) (pes_cons (pe_str (by decide +kernel)) (pes_cons (pe_str (by decide +kernel)) (pes_cons (pe_str (by decide +kernel)) (pes_cons (pe_str (by decide +kernel)) (pes_cons (pe_str (by decide +kernel)) (pes_cons (pe_str (by decide +kernel)) (pes_cons (pe_str (by decide +kernel)) pes_nil)))))))) (by decide))
  refine x_assign (x := "pieces") (d := .list (pcs.map .str)) S (PE.x (pc _ _ _ _ _ _ _ _ _)) rfl fun h tk S => ?_
  refine x_assignF (x := "letters") (ds := []) S (pf_list pes_nil (by decide)) rfl fun a h tk hga haN S => ?_
  have haM : a ∉ M := fun hm => by obtain ⟨o, ho⟩ := hM a hm; have := hga; rw [ho] at this; cases this
  have hlen : (lettersN ns).length ≤ 13 := by unfold lettersN tailN; simp; omega
  refine x_for (sf := false) (ds := ((lettersN ns).map PyData.int).zipIdx.map fun q => PyData.tuple [.int (q.2 : Int), q.1]) (fun i ρ => Fz ρ "pieces" (.list (pcs.map .str)) ∧ Ow ρ "letters" a ((lettersD ns).take i))
    (fun d => match d with | .tuple [p, v] => [("x", .frz v), ("place", .frz p)] | _ => []) S
    (pi_enum B R'.hh rfl rfl rfl (by decide) (PE.cast (pe_addL (PE.po (PF.pe (pf_slice (PE.po (pe_name rfl rfl)) pp_none (pp_some (PE.po pe_int)) pp_none (by decide) (by simp [sizeLine]; omega)))) (PE.po (PF.pe (pf_list (pes_cons pe_int (pes_cons pe_int (pes_cons pe_int (pes_cons pe_int (pes_cons pe_int (pes_cons pe_int (pes_cons pe_int (pes_cons pe_int pes_nil)))))))) (by decide)))) (by
        rw [show ((5 : Int)) = ((5 : Nat) : Int) from rfl, pickD_upto]; simp [sizeLine]; omega)) (by
      rw [show ((5 : Int)) = ((5 : Nat) : Int) from rfl, pickD_upto]
      unfold lettersN tailN
      rw [List.map_append, List.map_take]; rfl))) ?_ ?_ ?_ ?_
  · intro g I d hd
    obtain ⟨q, _, rfl⟩ := List.mem_map.mp hd
    exact takes_two R'.hh rfl rfl
  · exact ⟨rfl, by rw [List.take_zero]; rfl⟩
  · rintro g I i d ρ hd ⟨h1, h2⟩ h tk E' Q' kk S
    have hi : i < (lettersN ns).length := by simpa using (List.getElem?_eq_some_iff.mp hd).1
    have hd' : d = .tuple [.int (i : Int), .int ((lettersN ns).getD i 0)] := by
      rw [List.getElem?_map, List.getElem?_zipIdx, List.getElem?_map, List.getElem?_eq_getElem hi] at hd
      simp only [Option.map_some, Option.some.injEq] at hd
      rw [← hd]; simp [hi]
    subst hd'
    have hlt : (lettersD ns)[i]? = some (letD ((lettersN ns).getD i 0) i) := by
      unfold lettersD
      rw [List.getElem?_map, List.getElem?_zipIdx, List.getElem?_eq_getElem hi]
      simp [hi]
    have htk : (lettersD ns).take (i + 1) = (lettersD ns).take i ++ [letD ((lettersN ns).getD i 0) i] := by rw [List.take_add_one, hlt]; rfl
    generalize hv : (lettersN ns).getD i 0 = v at *
    have kp : ∀ k : Nat, k < 5 → ((8 : Int) ^ (k : Int).toNat ≠ 0 ∧ ((8 : Int) ^ (k : Int).toNat).natAbs < 1073741824) := fun k hk => by
      have : k = 0 ∨ k = 1 ∨ k = 2 ∨ k = 3 ∨ k = 4 := by omega
      rcases this with rfl | rfl | rfl | rfl | rfl <;> decide
    refine x_append (x := "letters") (d := letD v i) S rfl ((lookup_cons_ne (by decide)).trans ((lookup_cons_ne (by decide)).trans h2)) (PE.x (pe_tuple (pes_cons (pe_modI (PE.po (pe_name (x := "x") rfl rfl)) (PE.po pe_int) (by decide)) (pes_cons (pe_name (x := "place") rfl rfl) (pes_cons (PE.cast (pe_join (x := "") (ys := (List.range 5).map (pieceS v)) (PE.po (pe_str (by decide +kernel)))
      (PE.po (PE.cast (PF.pe (pf_comp (ds := (List.range 5).map fun i : Nat => PyData.int (i : Int)) (fun d => [("k", .frz d)]) [("pieces", .frz (.list (pcs.map .str))), ("x", .frz (.int v))] (fun d => match d with | .int k => .str (pieceS v k.toNat) | _ => .none) (fun _ => true)
        (pi_range B R'.hh rfl rfl rfl (by decide) (PE.po pe_int) (by decide)) ?c1 ?c2 ?c3 (by simp [sizeLine]) ?c4 ?c5)) ?c6)) ?c7 (fun h _ => cat_ok h) rfl rfl rfl) rfl) pes_nil))) (by simp [sizeLine]))) ((lookup_cons_ne (by decide)).trans ((lookup_cons_ne (by decide)).trans h2)) (by simp [sizeLine, lettersD]; omega) fun h tk S => x_nil ?_
    case c1 =>
      intro y sl hy
      have hy := lookup_mem hy
      simp only [List.mem_cons, Prod.mk.injEq, List.not_mem_nil, or_false] at hy
      rcases hy with ⟨rfl, rfl⟩ | ⟨rfl, rfl⟩
      · exact (lookup_cons_ne (by decide)).trans ((lookup_cons_ne (by decide)).trans h1)
      · rfl
    case c2 =>
      intro y b es hy
      have hy := lookup_mem hy
      simp only [List.mem_cons, Prod.mk.injEq, List.not_mem_nil, or_false, reduceCtorEq, and_false] at hy
    case c3 =>
      intro d hd y sl hy
      have hy' := lookup_mem hy
      simp only [List.mem_cons, Prod.mk.injEq, List.not_mem_nil, or_false] at hy'
      refine (lookup_cons_ne ?_).trans hy
      rcases hy' with ⟨rfl, _⟩ | ⟨rfl, _⟩ <;> decide
    case c4 =>
      intro C D g' I' d hd
      obtain ⟨j, _, rfl⟩ := List.mem_map.mp hd
      exact takes_name rfl rfl
    case c5 =>
      intro C D g' d hd
      obtain ⟨j, hj, rfl⟩ := List.mem_map.mp hd
      have hj : j < 5 := by simpa using hj
      refine ⟨rfl, fun _ => ?_⟩
      obtain ⟨p1, p2⟩ := kp j hj
      have f0 := Int.fmod_nonneg_of_pos ((v.fdiv 3).fdiv (8 ^ j)) (b := 8) (by decide)
      have f1 := Int.fmod_lt_of_pos ((v.fdiv 3).fdiv (8 ^ j)) (b := 8) (by decide)
      refine pe_idxL (ds := pcs.map .str) (k := ((v.fdiv 3).fdiv (8 ^ (j : Int).toNat)).fmod 8) (PE.po (pe_name rfl rfl)) (PE.po (pe_modI (PE.po (pe_divI (PE.po (pe_divI (PE.po (pe_name rfl rfl)) (PE.po pe_int) (by decide) (by decide))) (PE.po (pe_powI (PE.po pe_int) (PE.po (pe_name rfl rfl)) (by omega) ?_)) p1 p2)) (PE.po pe_int) (by decide))) f0 ?_ (by rw [Int.toNat_natCast]; omega) rfl
      · have : k = k := rfl
        have : j = 0 ∨ j = 1 ∨ j = 2 ∨ j = 3 ∨ j = 4 := by omega
        rcases this with rfl | rfl | rfl | rfl | rfl <;> decide
      · rw [Int.toNat_natCast]
        have hq : (((v.fdiv 3).fdiv (8 ^ j)).fmod 8).toNat < pcs.length := by show _ < 8; omega
        unfold pieceS
        simp [hq]
    case c6 =>
      rw [List.filter_eq_self.mpr (fun _ _ => rfl), List.map_map, List.map_map]
      rfl
    case c7 =>
      have : ∀ y ∈ (List.range 5).map (pieceS v), y.length ≤ 5 := fun y hy => by obtain ⟨k, _, rfl⟩ := List.mem_map.mp hy; exact (pcs_len (piece_mem v k)).1
      have l0 : ("" : Str).length = 0 := by decide +kernel
      rw [l0]
      simp only [List.range, List.range.loop, List.map_cons, List.map_nil, List.sum_cons, List.sum_nil, List.length_cons, List.length_nil, Nat.mul_zero]
      have q := fun k => (pcs_len (piece_mem v k)).1
      have := q 0; have := q 1; have := q 2; have := q 3; have := q 4
      omega
    refine kk _ h tk _ (.inl rfl) S ⟨h1, ?_⟩
    rw [htk]; rfl
  · rintro ρ h tk ⟨h1, h2⟩ S
    have e : (((lettersN ns).map PyData.int).zipIdx.map fun q => PyData.tuple [.int (q.2 : Int), q.1]).length = (lettersD ns).length := by simp [lettersD]
    rw [e, List.take_length] at h2
    refine x_returnO S rfl h2 fun rr => ?_
    exact k _ h tk (fun b o hb' e => S.kg b o hb' e) (rr M (fun b hb' => List.mem_cons_of_mem _ (hMc b hb')) haM)
end
end Oh

-- OhLe
namespace Oh
open PySem PySem.W PyProof.Rows PySem.SeqAt PySem.Calls PySem.MeetsSeq

/-! ## _law_sent -/
noncomputable abbrev ltD : PyData → PyData → Bool := pyC false
noncomputable def ppN (h0 xs : List PyData) : Nat → List PyData × List PyData
  | 0 => (h0, [])
  | i + 1 => ((ppF ltD (ppN h0 xs i).1 (xs.getD i .none)).2, (ppN h0 xs i).2 ++ [(ppF ltD (ppN h0 xs i).1 (xs.getD i .none)).1])
noncomputable def popAll : Nat → List PyData → List PyData → List PyData
  | 0, _, o => o
  | f + 1, h, o => if h.isEmpty then o else popAll f (popF ltD (h.take (h.length - 1)) (h.getD (h.length - 1) .none)).2 (o ++ [(popF ltD (h.take (h.length - 1)) (h.getD (h.length - 1) .none)).1])
noncomputable def heap0 (ls : List PyData) : List PyData := hfF ltD (ls.take (ls.length / 2)) ((ls.take (ls.length / 2)).length / 2)
noncomputable def sentD (ls : List PyData) : List PyData :=
  popAll (ppN (heap0 ls) (ls.drop (ls.length / 2)) (ls.drop (ls.length / 2)).length).1.length (ppN (heap0 ls) (ls.drop (ls.length / 2)) (ls.drop (ls.length / 2)).length).1 (ppN (heap0 ls) (ls.drop (ls.length / 2)) (ls.drop (ls.length / 2)).length).2
theorem last_split {h : List PyData} (hn : h ≠ []) : h = h.take (h.length - 1) ++ [h.getD (h.length - 1) .none] := by
  have : 0 < h.length := List.length_pos_iff.mpr hn
  have e : h.length - 1 < h.length := by omega
  conv => lhs; rw [← List.take_append_drop (h.length - 1) h]
  rw [List.drop_eq_getElem_cons e]
  have : h.length - 1 + 1 = h.length := by omega
  rw [this, List.drop_length]
  simp [e]
theorem ppF_mem {es : List PyData} {x : PyData} : (∀ y ∈ (ppF ltD es x).2, y ∈ x :: es) ∧ (ppF ltD es x).1 ∈ x :: es ∧ (ppF ltD es x).2.length = es.length := by
  unfold ppF
  split
  · rename_i h
    cases es with
    | nil => simp at h
    | cons c cs =>
      have p := suF_perm (lt := ltD) (es := x :: cs) (p := 0) (by simp)
      simp only [List.set_cons_zero, List.getD_cons_zero]
      refine ⟨fun y hy => ?_, by simp, by rw [p.length_eq]; simp⟩
      have := p.mem_iff.mp hy
      simp only [List.mem_cons] at this ⊢
      rcases this with h | h
      · exact .inl h
      · exact .inr (.inr h)
  · exact ⟨fun y hy => List.mem_cons_of_mem _ hy, by simp, rfl⟩
theorem popF_mem {cs : List PyData} {x : PyData} : (∀ y ∈ (popF ltD cs x).2, y ∈ cs ++ [x]) ∧ (popF ltD cs x).1 ∈ cs ++ [x] ∧ (popF ltD cs x).2.length = cs.length := by
  unfold popF
  cases cs with
  | nil => simp
  | cons c cs =>
    have p := suF_perm (lt := ltD) (es := x :: cs) (p := 0) (by simp)
    simp only [List.isEmpty_cons, Bool.false_eq_true, if_false, List.set_cons_zero, List.getD_cons_zero]
    refine ⟨fun y hy => ?_, by simp, by rw [p.length_eq]; simp⟩
    have := p.mem_iff.mp hy
    simp only [List.mem_cons, List.mem_append, List.not_mem_nil, or_false] at this ⊢
    rcases this with h | h
    · exact .inr h
    · exact .inl (.inr h)
theorem ppN_mem {ls h0 xs : List PyData} (h1 : ∀ y ∈ h0, y ∈ ls) (h2 : ∀ y ∈ xs, y ∈ ls) : ∀ i, i ≤ xs.length → (∀ y ∈ (ppN h0 xs i).1, y ∈ ls) ∧ (∀ y ∈ (ppN h0 xs i).2, y ∈ ls) ∧ (ppN h0 xs i).1.length = h0.length ∧ (ppN h0 xs i).2.length = i
  | 0, _ => ⟨h1, fun y hy => by simp [ppN] at hy, rfl, rfl⟩
  | i + 1, hi => by
    obtain ⟨a, b, c, d⟩ := ppN_mem h1 h2 i (by omega)
    have hx : xs.getD i .none ∈ ls := h2 _ (getD_mem (by omega))
    obtain ⟨p1, p2, p3⟩ := ppF_mem (es := (ppN h0 xs i).1) (x := xs.getD i .none)
    have all : ∀ y ∈ xs.getD i .none :: (ppN h0 xs i).1, y ∈ ls := fun y hy => (List.mem_cons.mp hy).elim (fun e => e ▸ hx) (a y)
    refine ⟨fun y hy => all y (p1 y hy), fun y hy => ?_, p3.trans c, by simp [ppN, d]⟩
    simp only [ppN] at hy
    rcases List.mem_append.mp hy with hy | hy
    · exact b y hy
    · simp at hy; rw [hy]; exact all _ p2
theorem popAll_mem {ls : List PyData} : ∀ (f : Nat) (h o : List PyData), (∀ y ∈ h, y ∈ ls) → (∀ y ∈ o, y ∈ ls) → h.length ≤ f → (∀ y ∈ popAll f h o, y ∈ ls) ∧ (popAll f h o).length = h.length + o.length
  | 0, h, o, h1, h2, hl => ⟨h2, by have : h = [] := List.eq_nil_of_length_eq_zero (by omega)
                                   subst this; simp [popAll]⟩
  | f + 1, h, o, h1, h2, hl => by
    unfold popAll
    cases he : h.isEmpty with
    | true => simp only [if_true]; have : h = [] := by simpa using he
              subst this; exact ⟨h2, by simp⟩
    | false =>
      simp only [Bool.false_eq_true, if_false]
      have hne : h ≠ [] := by simpa using he
      have sp := last_split hne
      obtain ⟨p1, p2, p3⟩ := popF_mem (cs := h.take (h.length - 1)) (x := h.getD (h.length - 1) .none)
      rw [← sp] at p1 p2
      have hlen : 0 < h.length := List.length_pos_iff.mpr hne
      have p3' : (popF ltD (h.take (h.length - 1)) (h.getD (h.length - 1) .none)).2.length = h.length - 1 := by rw [p3]; simp
      obtain ⟨q1, q2⟩ := popAll_mem f _ (o ++ [(popF ltD (h.take (h.length - 1)) (h.getD (h.length - 1) .none)).1]) (fun y hy => h1 y (p1 y hy)) (fun y hy => (List.mem_append.mp hy).elim (h2 y) fun q => by simp at q; rw [q]; exact h1 _ p2) (by omega)
      exact ⟨q1, by rw [q2, p3', List.length_append]; simp; omega⟩

noncomputable def rowS (x : Str) : Str := (quoteS x ++ (if Txt.slice (quoteS x) (some (-2)) none = "\r\n" then ("" : Str) else ("\r\n" : Str))) ++ (".\r\n" : Str)
noncomputable def txtD : PyData → Str | .tuple [_, _, .str x] => x | _ => ""
noncomputable def wireN (ls : List PyData) (k : Nat) : Str := (ls.take k).foldl (fun w d => w ++ rowS (txtD d)) ""
/-- the letters as told -/
noncomputable def LetOk (ls : List PyData) : Prop := Gd ls ∧ ls.length < 64 ∧ ∀ d ∈ ls, ∃ (a b : Int) (x : Str), d = .tuple [.int a, .int b, .str x] ∧ x.length ≤ 25
theorem quoteS_len (x : Str) : (quoteS x).length ≤ 4 * x.length := by
  show (dotF true (nlF x.cps.toList)).toArray.size ≤ _
  have h1 := dotF_len (nlF x.cps.toList) true
  have h2 := nlF_len x.cps.toList
  have h3 : x.cps.toList.length = x.length := by simp [Str.length]
  simp at h1 ⊢; omega
theorem len_app (x y : Str) : (x ++ y).length = x.length + y.length := Str.length_append ..
theorem rowS_len (x : Str) : (rowS x).length ≤ 4 * x.length + 5 := by
  unfold rowS
  rw [len_app, len_app]
  have := quoteS_len x
  have h1 : (".\r\n" : Str).length = 3 := by decide +kernel
  have h2 : (if Txt.slice (quoteS x) (some (-2)) none = "\r\n" then ("" : Str) else ("\r\n" : Str)).length ≤ 2 := by split <;> decide +kernel
  omega
theorem wireN_succ (ls : List PyData) (k : Nat) (h : k < ls.length) : wireN ls (k + 1) = wireN ls k ++ rowS (txtD (ls.getD k .none)) := by
  unfold wireN
  rw [List.take_add_one, List.foldl_append]
  simp [h]
theorem wireN_len (ls : List PyData) (h : ∀ d ∈ ls, (txtD d).length ≤ 25) : ∀ k, k ≤ ls.length → (wireN ls k).length ≤ 105 * k
  | 0, _ => by show (("" : Str)).length ≤ _; decide +kernel
  | k + 1, hk => by
    rw [wireN_succ ls k (by omega), len_app]
    have := wireN_len ls h k (by omega)
    have := rowS_len (txtD (ls.getD k .none))
    have := h _ (getD_mem (es := ls) (p := k) (by omega))
    omega

section
variable {prog : Program} {w : World} {hb : Heap}
set_option maxHeartbeats 2000000 in
theorem sent_ok (B : BaseOk (KF w.params) hb) : FnOk prog w hb 4 109 (fun ds d => ∃ ls : List PyData, ds = [.list ls] ∧ LetOk ls ∧ d = .str (wireN (sentD ls) (sentD ls).length)) := by
  intro A s M vs ds d hP R hk0 hM rv Q E k
  obtain ⟨ls, rfl, ⟨hgd, hlen, hsh⟩, rfl⟩ := hP
  cases rv with | cons r1 rv => ?_
  cases rv
  refine enter1 (fd := fdOf w.params 109) (body := bodyOf w.params 109) (x := "letters") B hk0 R.depth rfl rfl rfl rfl rfl rfl rfl hM (fun L => rfl) r1 ?_
  intro L h₁ tk Mc hMc hMn S
  have R' : Rm 3 (A.deeper (envF (fdOf w.params 109) 109 L)) := R.deeper _
  have hdiv : ((ls.length : Nat) : Int).fdiv 2 = ((ls.length / 2 : Nat) : Int) := by rw [Int.fdiv_eq_ediv_of_nonneg _ (by omega)]; omega
  have half : ∀ {env : Env} {ρ : Store} {g I M} {f x : Str} {p1 p2 p3 p4 p5 : Pos} {k1 : Nat}, glb env.scope f = true → nsIn (KF w.params) mainGlobals f = some none → bootBuiltins f = some (.builtin "len") → f ≠ "__name__" → lcl env.scope x = true → Fz ρ x (.list ls) → starEach [.Name x p2] env = [(false, eval (.Name x p2) env)] →
      PE prog w (A.deeper (envF (fdOf w.params 109) 109 L)) hb g I M env ρ (.BinOp (.Call (.Name f p1) [.Name x p2] [] p3) .FloorDiv (.Constant (.int 2) k1 p4) p5) (.int ((ls.length / 2 : Nat) : Int)) := fun h1 h2 h3 h4 h5 h6 h7 =>
    PE.cast (pe_divI (PE.po (pe_lenL B h1 h2 h3 h4 (PE.po (pe_name h5 h6)) (by omega) h7)) (PE.po pe_int) (by decide) (by decide)) (congrArg PyData.int hdiv)
  refine x_assignF (x := "heap") (ds := pickD ls none (some ((ls.length / 2 : Nat) : Int)) none) S (pf_slice (PE.po (pe_name rfl rfl)) pp_none (pp_some (PE.po (half rfl rfl rfl (by decide) rfl rfl rfl))) pp_none (by decide) (by unfold sizeLine; omega)) rfl fun a h tk hga haN S => ?_
  rw [pickD_upto] at S
  have hgt : Gd (ls.take (ls.length / 2)) := hgd.sub fun y hy => List.mem_of_mem_take hy
  refine x_expr S (evx_call (f := "heapify") (x := "heap") (d := .none) (cs' := heap0 ls) B (heapify_ok B) R' rfl rfl rfl rfl rfl pes_nil ⟨rfl, rfl, hgt, by simp; omega, rfl⟩) fun h tk S => ?_
  refine x_assignF (x := "sent") (ds := []) S (pf_list pes_nil (by decide)) rfl fun b h tk hgb hbN S => ?_
  have hpm : (heap0 ls).Perm (ls.take (ls.length / 2)) := hfF_perm _ (Nat.le_refl _)
  have m0 : ∀ y ∈ heap0 ls, y ∈ ls := fun y hy => List.mem_of_mem_take (hpm.mem_iff.mp hy)
  have m1 : ∀ y ∈ ls.drop (ls.length / 2), y ∈ ls := fun y hy => List.mem_of_mem_drop hy
  have l0 : (heap0 ls).length ≤ 64 := by rw [hpm.length_eq]; simp; omega
  refine x_for (sf := true) (ds := ls.drop (ls.length / 2)) (fun i ρ => Ow ρ "heap" a (ppN (heap0 ls) (ls.drop (ls.length / 2)) i).1 ∧ Ow ρ "sent" b (ppN (heap0 ls) (ls.drop (ls.length / 2)) i).2) (fun d => [("letter", .frz d)]) S
    (pi_list R'.hh (PE.cast (PF.pe (pf_slice (PE.po (pe_name rfl rfl)) (pp_some (PE.po (half rfl rfl rfl (by decide) rfl rfl rfl))) pp_none pp_none (by decide) (by unfold sizeLine; omega))) (by rw [pickD_from]))) ?_ ⟨rfl, rfl⟩ ?_ ?_
  · intro g I d hd
    exact takes_name rfl rfl
  · rintro g I i d ρ hd ⟨h1, h2⟩ h tk E' Q' kk S
    have hi : i < (ls.drop (ls.length / 2)).length := (List.getElem?_eq_some_iff.mp hd).1
    have hdd : d = (ls.drop (ls.length / 2)).getD i .none := by rw [List.getD_eq_getElem?_getD, hd]; rfl
    obtain ⟨a1, a2, a3, a4⟩ := ppN_mem m0 m1 i (by omega)
    have hdm : d ∈ ls := m1 d (List.mem_of_getElem? hd)
    have dl0 : (ls.drop (ls.length / 2)).length ≤ 64 := by simp; omega
    refine x_append (x := "sent") S rfl ((lookup_cons_ne (by decide)).trans h2) (evx_call (f := "heappushpop") (x := "heap") (ds := [d]) B (pushpop_ok B) R' rfl rfl rfl rfl ((lookup_cons_ne (by decide)).trans h1) (pes_cons (pe_name rfl rfl) pes_nil)
      ⟨d, rfl, hgd.sub (fun y hy => (List.mem_cons.mp hy).elim (fun e => e ▸ hdm) (a1 y)), by omega, rfl, rfl⟩) ((lookup_cons_ne (by decide)).trans ((lookup_cons_ne (by decide)).trans h2)) (by unfold sizeLine; omega) fun h tk S => x_nil ?_
    refine kk _ h tk _ (.inl rfl) S ⟨?_, ?_⟩
    · rw [hdd]; rfl
    · rw [hdd]; rfl
  · rintro ρ h tk ⟨h1, h2⟩ S
    obtain ⟨a1, a2, a3, a4⟩ := ppN_mem m0 m1 (ls.drop (ls.length / 2)).length (Nat.le_refl _)
    have dl : (ls.drop (ls.length / 2)).length ≤ 64 := by simp; omega
    have sdef : sentD ls = popAll (ppN (heap0 ls) (ls.drop (ls.length / 2)) (ls.drop (ls.length / 2)).length).1.length (ppN (heap0 ls) (ls.drop (ls.length / 2)) (ls.drop (ls.length / 2)).length).1 (ppN (heap0 ls) (ls.drop (ls.length / 2)) (ls.drop (ls.length / 2)).length).2 := rfl
    generalize (ppN (heap0 ls) (ls.drop (ls.length / 2)) (ls.drop (ls.length / 2)).length).1 = hp at *
    generalize (ppN (heap0 ls) (ls.drop (ls.length / 2)) (ls.drop (ls.length / 2)).length).2 = ot at *
    have sm := popAll_mem hp.length hp ot a1 a2 (Nat.le_refl _)
    rw [← sdef] at sm
    refine x_while (J := fun n ρ => ∃ h o : List PyData, Ow ρ "heap" a h ∧ Ow ρ "sent" b o ∧ n = h.length ∧ h.length + o.length ≤ 130 ∧ (∀ y ∈ h, y ∈ ls) ∧ popAll n h o = sentD ls) (Z := fun ρ => Ow ρ "sent" b (sentD ls)) hp.length S ⟨hp, ot, h1, h2, rfl, by omega, a1, sdef.symm⟩ ?_ ?_
    · rintro n ρ ⟨h, o, g1, g2, rfl, g4, g5, g6⟩
      refine ⟨_, pt_list (po_own rfl g1) (by omega), ?_, ?_⟩
      · intro hb
        have : h = [] := by simpa using hb
        subst this
        rw [← g6]; exact g2
      · intro hb hh tk E' Q' kk S
        have hne : h ≠ [] := by simpa using hb
        have hpos : 0 < h.length := List.length_pos_iff.mpr hne
        have sp := last_split hne
        obtain ⟨p1, p2, p3⟩ := popF_mem (cs := h.take (h.length - 1)) (x := h.getD (h.length - 1) .none)
        have p3' : (popF ltD (h.take (h.length - 1)) (h.getD (h.length - 1) .none)).2.length = h.length - 1 := by rw [p3]; simp
        refine x_append (x := "sent") S rfl g2 (evx_call (f := "heappop") (x := "heap") (ds := []) B (heappop_ok B) R' rfl rfl rfl rfl g1 pes_nil ⟨rfl, hgd.sub g5, by omega, _, _, sp, rfl, rfl⟩) ((lookup_cons_ne (by decide)).trans g2) (by unfold sizeLine; omega) fun hh tk S => x_nil ?_
        refine kk _ hh tk _ S (.inl ⟨.inl rfl, h.length - 1, by omega, _, _, rfl, rfl, p3'.symm, by rw [p3', List.length_append]; simp; omega, fun y hy => g5 y (by rw [sp]; exact p1 y hy), ?_⟩)
        have : popAll h.length h o = popAll (h.length - 1 + 1) h o := by rw [show h.length - 1 + 1 = h.length by omega]
        rw [this] at g6
        rw [← g6]
        simp only [popAll]
        rw [if_neg (by simpa using hne)]
    · rintro ρ h tk g1 S
      have S' := S.freeze g1 rfl
      have hsl : (sentD ls).length ≤ 130 := by have := sm.2; omega
      have shp : ∀ d ∈ sentD ls, ∃ (a b : Int) (x : Str), d = .tuple [.int a, .int b, .str x] ∧ x.length ≤ 25 := fun d hd => hsh d (sm.1 d hd)
      have tx : ∀ d ∈ sentD ls, (txtD d).length ≤ 25 := fun d hd => by obtain ⟨a, b, x, rfl, hx⟩ := shp d hd; exact hx
      refine x_assign (x := "wire") (d := .str (wireN (sentD ls) 0)) S' (PE.x (pe_str (by decide +kernel))) rfl fun h tk S => ?_
      refine x_for (sf := true) (ds := sentD ls) (fun i ρ => Fz ρ "wire" (.str (wireN (sentD ls) i))) (fun d => match d with | .tuple [p, q, r] => [("text", .frz r), ("place", .frz q), ("rank", .frz p)] | _ => []) S (pi_list R'.hh (pe_name rfl rfl)) ?_ rfl ?_ ?_
      · intro g I d hd
        obtain ⟨a, b, x, rfl, hx⟩ := shp d hd
        exact takes_three R'.hh rfl rfl rfl
      · rintro g I i d ρ hd h1 h tk E' Q' kk S
        have hi : i < (sentD ls).length := (List.getElem?_eq_some_iff.mp hd).1
        have hdd : (sentD ls).getD i .none = d := by rw [List.getD_eq_getElem?_getD, hd]; rfl
        have st := wireN_succ (sentD ls) i hi
        have wl := wireN_len (sentD ls) tx i (by omega)
        rw [hdd] at st
        obtain ⟨ra, pl, x, rfl, hx⟩ := shp d (List.mem_of_getElem? hd)
        have ql := quoteS_len x
        have rl := rowS_len x
        have e3 : (".\r\n" : Str).length = 3 := by decide +kernel
        have e2 : (if Txt.slice (quoteS x) (some (-2)) none = "\r\n" then ("" : Str) else ("\r\n" : Str)).length ≤ 2 := by split <;> decide +kernel
        refine x_assign (x := "rows") S (PE.x (pe_call (f := "quotedata") B (quotedata_ok B) (R'.less (by decide)) rfl rfl rfl (pes_cons (pe_name (x := "text") rfl rfl) pes_nil) ⟨x, rfl, by omega, rfl⟩)) rfl fun h tk S => ?_
        refine x_augS (u := wireN (sentD ls) i) (v := rowS x) S rfl ((lookup_cons_ne (by decide)).trans ((lookup_cons_ne (by decide)).trans ((lookup_cons_ne (by decide)).trans ((lookup_cons_ne (by decide)).trans h1))))
          (PE.po (pe_addS (PE.po (pe_addS (PE.po (pe_name rfl rfl)) (PE.po (pe_ife (t := decide (Txt.slice (quoteS x) (some (-2)) none = "\r\n")) (d := .str (if Txt.slice (quoteS x) (some (-2)) none = "\r\n" then ("" : Str) else ("\r\n" : Str))) (pt_eqS R'.units' (PE.po (pe_slcS (PE.po (pe_name rfl rfl)) (pp_some (PE.po (pe_negI pe_int))) pp_none (by unfold sizeLine; omega))) (PE.po (pe_str (by decide +kernel)))) ?_)) (by unfold sizeLine; omega))) (PE.po (pe_str (by decide +kernel))) (by rw [len_app, e3]; unfold sizeLine; omega)))
          (by unfold sizeLine; omega) fun h tk S => x_nil ?_
        · by_cases hc : Txt.slice (quoteS x) (some (-2)) none = "\r\n"
          · rw [if_pos (decide_eq_true hc), if_pos hc]; exact pe_str (by decide +kernel)
          · rw [if_neg (by simpa using hc), if_neg hc]; exact pe_str (by decide +kernel)
        refine kk _ h tk _ (.inl rfl) S ?_
        rw [st]; rfl
      · rintro ρ h tk h1 S
        refine x_return S (PE.x (pe_name rfl h1)) fun v h tk S r => ?_
        refine k v h tk (fun b' o hb' e => S.kg b' o hb' e) (r.sub fun c hc => List.mem_filter.mpr ⟨List.mem_cons_of_mem _ (List.mem_cons_of_mem _ (hMc c hc)), ?_⟩)
        simp only [bne_iff_ne, ne_eq]
        rintro rfl
        obtain ⟨o, ho⟩ := hM c hc
        rw [hgb] at ho; cases ho
end
end Oh

-- OhLf
namespace Oh
open PySem PySem.W PyProof.Rows PySem.SeqAt PySem.Calls PySem.MeetsSeq

/-! ## _law_emptied -/
noncomputable def popN (h : List PyData) : Nat → List PyData × List PyData
  | 0 => (h, [])
  | i + 1 => ((popF ltD ((popN h i).1.take ((popN h i).1.length - 1)) ((popN h i).1.getD ((popN h i).1.length - 1) .none)).2, (popN h i).2 ++ [(popF ltD ((popN h i).1.take ((popN h i).1.length - 1)) ((popN h i).1.getD ((popN h i).1.length - 1) .none)).1])
noncomputable def emptiedD (ls : List PyData) : List PyData := (popN (hfF ltD ls (ls.length / 2)) ls.length).2
theorem popN_mem {ls h : List PyData} (hm : ∀ y ∈ h, y ∈ ls) : ∀ i, i ≤ h.length → (∀ y ∈ (popN h i).1, y ∈ ls) ∧ (popN h i).1.length = h.length - i
  | 0, _ => ⟨hm, rfl⟩
  | i + 1, hi => by
    obtain ⟨a, b⟩ := popN_mem hm i (by omega)
    have hne : (popN h i).1 ≠ [] := fun e => by rw [e] at b; simp at b; omega
    have sp := last_split hne
    obtain ⟨p1, p2, p3⟩ := popF_mem (cs := (popN h i).1.take ((popN h i).1.length - 1)) (x := (popN h i).1.getD ((popN h i).1.length - 1) .none)
    rw [← sp] at p1
    refine ⟨fun y hy => a y (p1 y hy), ?_⟩
    show (popF _ _ _).2.length = _
    rw [p3]; simp; rw [b, Nat.sub_sub]
section
variable {prog : Program} {w : World} {hb : Heap}
set_option maxHeartbeats 2000000 in
theorem emptied_ok (B : BaseOk (KF w.params) hb) : FnOk prog w hb 4 152 (fun ds d => ∃ ls : List PyData, ds = [.list ls] ∧ Gd ls ∧ ls.length < 64 ∧ d = .list (emptiedD ls)) := by
  intro A s M vs ds d hP R hk0 hM rv Q E k
  obtain ⟨ls, rfl, hgd, hlen, rfl⟩ := hP
  cases rv with | cons r1 rv => ?_
  cases rv
  refine enter1 (fd := fdOf w.params 152) (body := bodyOf w.params 152) (x := "letters") B hk0 R.depth rfl rfl rfl rfl rfl rfl rfl hM (fun L => rfl) r1 ?_
  intro L h₁ tk Mc hMc hMn S
  have R' : Rm 3 (A.deeper (envF (fdOf w.params 152) 152 L)) := R.deeper _
  refine x_assignF (x := "heap") (ds := ls) S (pf_copy B rfl rfl rfl (by decide) (PE.po (pe_name rfl rfl)) (by unfold sizeLine; omega)) rfl fun a h tk hga haN S => ?_
  refine x_expr S (evx_call (f := "heapify") (x := "heap") (d := .none) (cs' := hfF ltD ls (ls.length / 2)) B (heapify_ok B) R' rfl rfl rfl rfl rfl pes_nil ⟨rfl, rfl, hgd, by omega, rfl⟩) fun h tk S => ?_
  have hpm : (hfF ltD ls (ls.length / 2)).Perm ls := hfF_perm _ (Nat.le_refl _)
  have m0 : ∀ y ∈ hfF ltD ls (ls.length / 2), y ∈ ls := fun y hy => hpm.mem_iff.mp hy
  have l0 : (hfF ltD ls (ls.length / 2)).length = ls.length := hpm.length_eq
  refine x_return S (evx_compO (x := "heap") (a := a) (cs := hfF ltD ls (ls.length / 2)) (ds := ls) (fun d => [("letter", .frz d)]) (fun i => (popN (hfF ltD ls (ls.length / 2)) i).1) (fun i => (popN (hfF ltD ls (ls.length / 2)) i).2) rfl rfl rfl
    (pi_list R'.hh (pe_name rfl rfl)) (by unfold sizeLine; omega) ?_ ?_) fun v h tk S r => ?_
  · intro C D g' I' d hd
    exact takes_name rfl rfl
  · intro C D g' i d hd
    have hi : i < ls.length := (List.getElem?_eq_some_iff.mp hd).1
    obtain ⟨a1, a2⟩ := popN_mem m0 i (by omega)
    have hne : (popN (hfF ltD ls (ls.length / 2)) i).1 ≠ [] := fun e => by rw [e] at a2; simp at a2; omega
    have sp := last_split hne
    refine ⟨_, _, evx_call (f := "heappop") (x := "heap") (ds := []) B (heappop_ok B) R' rfl rfl rfl rfl ((lookup_cons_ne (by decide)).trans lookup_cons_self) pes_nil ⟨rfl, hgd.sub a1, by omega, _, _, sp, rfl, rfl⟩, ?_, rfl⟩
    intro y sl hy
    have hy' := lookup_mem hy
    simp only [List.mem_cons, Prod.mk.injEq, List.not_mem_nil, or_false] at hy'
    obtain ⟨rfl, rfl⟩ := hy'
    exact lookup_cons_self
  · exact k v h tk (fun b o hb' e => S.kg b o hb' e) (r.sub fun b hb' => List.mem_cons_of_mem _ (hMc b hb'))
end
end Oh

-- OhLg
namespace Oh
open PySem PySem.W PyProof.Rows PySem.SeqAt PySem.Calls PySem.MeetsSeq

/-! ## _law_told -/
noncomputable def minD (ws : List PyData) : PyData := ws.getD (argBest (fun i j => pyC false (ws.getD i .none) (ws.getD j .none)) (ws.length - 1)) .none
noncomputable def itemsT (ls : List PyData) : List PyData := ls.drop (ls.length / 2) ++ List.replicate (ls.length / 2) .none
noncomputable def isNone : PyData → Bool | .none => true | _ => false
noncomputable def addT (ws : List PyData) (x : PyData) : List PyData := if isNone x then ws else ws ++ [x]
noncomputable def toldN (ls : List PyData) : Nat → List PyData × List PyData
  | 0 => (ls.take (ls.length / 2), [])
  | i + 1 => ((addT (toldN ls i).1 ((itemsT ls).getD i .none)).filter (fun y => !PyData.eqv y (minD (addT (toldN ls i).1 ((itemsT ls).getD i .none)))), (toldN ls i).2 ++ [minD (addT (toldN ls i).1 ((itemsT ls).getD i .none))])
noncomputable def toldD (ls : List PyData) : List PyData := (toldN ls (itemsT ls).length).2
theorem minD_mem {ws : List PyData} (h : 0 < ws.length) : minD ws ∈ ws := getD_mem (Nat.lt_of_le_of_lt (argBest_le _ _) (by omega))
/-- at each step somebody waits -/
noncomputable def ToldOk (ls : List PyData) : Prop := ∀ i, i < (itemsT ls).length → 0 < (addT (toldN ls i).1 ((itemsT ls).getD i .none)).length
theorem toldN_mem {ls : List PyData} (h : ToldOk ls) : ∀ i, i ≤ (itemsT ls).length → (∀ y ∈ (toldN ls i).1, y ∈ ls) ∧ (∀ y ∈ (toldN ls i).2, y ∈ ls) ∧ (toldN ls i).2.length = i ∧ (toldN ls i).1.length ≤ ls.length + i
  | 0, _ => ⟨fun y hy => List.mem_of_mem_take hy, fun y hy => by simp [toldN] at hy, rfl, by simp [toldN]; omega⟩
  | i + 1, hi => by
    obtain ⟨a, b, c, d⟩ := toldN_mem h i (by omega)
    have hm : ∀ y ∈ addT (toldN ls i).1 ((itemsT ls).getD i .none), y ∈ ls := fun y hy => by
      unfold addT at hy
      split at hy
      · exact a y hy
      · rename_i hx
        rcases List.mem_append.mp hy with hy | hy
        · exact a y hy
        · simp only [List.mem_singleton] at hy
          subst hy
          have : (itemsT ls).getD i .none ∈ itemsT ls := getD_mem (by omega)
          unfold itemsT at this
          rcases List.mem_append.mp this with q | q
          · exact List.mem_of_mem_drop q
          · have := List.eq_of_mem_replicate q
            unfold itemsT at hx; rw [this] at hx; exact absurd rfl hx
    have hl : (addT (toldN ls i).1 ((itemsT ls).getD i .none)).length ≤ (toldN ls i).1.length + 1 := by unfold addT; split <;> simp
    refine ⟨fun y hy => hm y (List.mem_filter.mp hy).1, fun y hy => ?_, by simp [toldN, c], ?_⟩
    · simp only [toldN] at hy
      rcases List.mem_append.mp hy with hy | hy
      · exact b y hy
      · simp only [List.mem_singleton] at hy; rw [hy]; exact hm _ (minD_mem (h i (by omega)))
    · simp only [toldN]
      have := List.length_filter_le (fun y => !PyData.eqv y (minD (addT (toldN ls i).1 ((itemsT ls).getD i .none)))) (addT (toldN ls i).1 ((itemsT ls).getD i .none))
      omega

section
variable {prog : Program} {w : World} {hb : Heap}
theorem rep_none {M : List Addr} {h : Heap} {u : Value} (r : RepO M h u .none) : u = .none := by
  rcases r with r | ⟨_, _, _, _, e, _⟩
  · cases r; rfl
  · cases e
set_option maxHeartbeats 4000000 in
theorem told_ok (B : BaseOk (KF w.params) hb) : FnOk prog w hb 2 135 (fun ds d => ∃ ls : List PyData, ds = [.list ls] ∧ LetOk ls ∧ ToldOk ls ∧ d = .list ((toldD ls).map fun d => .list (rowsD (rowsF (txtD d).cps.toList)))) := by
  intro A s M vs ds d hP R hk0 hM rv Q E k
  obtain ⟨ls, rfl, ⟨hgd, hlen, hsh⟩, hto, rfl⟩ := hP
  cases rv with | cons r1 rv => ?_
  cases rv
  refine enter1 (fd := fdOf w.params 135) (body := bodyOf w.params 135) (x := "letters") B hk0 R.depth rfl rfl rfl rfl rfl rfl rfl hM (fun L => rfl) r1 ?_
  intro L h₁ tk Mc hMc hMn S
  have R' : Rm 1 (A.deeper (envF (fdOf w.params 135) 135 L)) := R.deeper _
  have hu80 : (A.deeper (envF (fdOf w.params 135) 135 L)).units + 80 < cLine := by have := R'.hu; unfold cLine; omega
  have hdiv : ((ls.length : Nat) : Int).fdiv 2 = ((ls.length / 2 : Nat) : Int) := by rw [Int.fdiv_eq_ediv_of_nonneg _ (by omega)]; omega
  have half : ∀ {env : Env} {ρ : Store} {g I M} {f x : Str} {p1 p2 p3 p4 p5 : Pos} {k1 : Nat}, glb env.scope f = true → nsIn (KF w.params) mainGlobals f = some none → bootBuiltins f = some (.builtin "len") → f ≠ "__name__" → lcl env.scope x = true → Fz ρ x (.list ls) → starEach [.Name x p2] env = [(false, eval (.Name x p2) env)] →
      PE prog w (A.deeper (envF (fdOf w.params 135) 135 L)) hb g I M env ρ (.BinOp (.Call (.Name f p1) [.Name x p2] [] p3) .FloorDiv (.Constant (.int 2) k1 p4) p5) (.int ((ls.length / 2 : Nat) : Int)) := fun h1 h2 h3 h4 h5 h6 h7 =>
    PE.cast (pe_divI (PE.po (pe_lenL B h1 h2 h3 h4 (PE.po (pe_name h5 h6)) (by omega) h7)) (PE.po pe_int) (by decide) (by decide)) (congrArg PyData.int hdiv)
  refine x_assign (x := "waiting") (d := .list (toldN ls 0).1) S (PE.x (PE.cast (PF.pe (pf_slice (PE.po (pe_name rfl rfl)) pp_none (pp_some (PE.po (half rfl rfl rfl (by decide) rfl rfl rfl))) pp_none (by decide) (by unfold sizeLine; omega))) (by rw [pickD_upto]; rfl))) rfl fun h tk S => ?_
  refine x_assignF (x := "order") (ds := (toldN ls 0).2) S (pf_list pes_nil (by simp [toldN])) rfl fun a h tk hga haN S => ?_
  have hil : (itemsT ls).length = ls.length := by unfold itemsT; simp only [List.length_append, List.length_drop, List.length_replicate]; rw [om_half]
  refine x_for (sf := true) (ds := itemsT ls) (fun i ρ => Fz ρ "waiting" (.list (toldN ls i).1) ∧ Ow ρ "order" a (toldN ls i).2) (fun d => [("letter", .frz d)]) S
    (pi_list R'.hh (PE.cast (pe_addL (PE.po (PF.pe (pf_slice (PE.po (pe_name rfl rfl)) (pp_some (PE.po (half rfl rfl rfl (by decide) rfl rfl rfl))) pp_none pp_none (by decide) (by unfold sizeLine; omega)))) (PE.po (pe_mulL (PE.po (PF.pe (pf_list (pes_cons pe_none pes_nil) (by decide)))) (PE.po (half rfl rfl rfl (by decide) rfl rfl rfl)) (by decide) (by omega) (by omega) (by simp; omega))) (by rw [pickD_from, List.flatten_replicate_singleton, List.length_drop, List.length_replicate, Int.toNat_natCast, om_half]; unfold sizeLine; omega)) (by
      rw [pickD_from, Int.toNat_natCast]
      unfold itemsT
      congr 2
      rw [List.flatten_replicate_singleton]))) ?_ ⟨rfl, rfl⟩ ?_ ?_
  · intro g I d hd
    exact takes_name rfl rfl
  · rintro g I i d ρ hd ⟨h1, h2⟩ h tk E' Q' kk S
    have hi : i < (itemsT ls).length := (List.getElem?_eq_some_iff.mp hd).1
    have hdd : (itemsT ls).getD i .none = d := by rw [List.getD_eq_getElem?_getD, hd]; rfl
    obtain ⟨a1, a2, a3, a4⟩ := toldN_mem hto i (by omega)
    obtain ⟨b1, b2, b3, b4⟩ := toldN_mem hto (i + 1) (by omega)
    have hpos := hto i hi
    rw [hdd] at hpos
    have st1 : (toldN ls (i + 1)).1 = (addT (toldN ls i).1 d).filter (fun y => !PyData.eqv y (minD (addT (toldN ls i).1 d))) := by rw [← hdd]; rfl
    have st2 : (toldN ls (i + 1)).2 = (toldN ls i).2 ++ [minD (addT (toldN ls i).1 d)] := by rw [← hdd]; rfl
    have hdk : isNone d = true ∨ (isNone d = false ∧ d ∈ ls) := by
      have hm := List.mem_of_getElem? hd
      unfold itemsT at hm
      rcases List.mem_append.mp hm with q | q
      · have hm' := List.mem_of_mem_drop q
        obtain ⟨x, y, z, rfl, _⟩ := hsh d hm'
        exact .inr ⟨rfl, hm'⟩
      · rw [List.eq_of_mem_replicate q]; exact .inl rfl
    have aw : ∀ y ∈ addT (toldN ls i).1 d, y ∈ ls := fun y hy => by
      unfold addT at hy
      rcases hdk with q | q
      · rw [if_pos q] at hy; exact a1 y hy
      · rw [if_neg (by rw [q.1]; decide)] at hy
        rcases List.mem_append.mp hy with hy | hy
        · exact a1 y hy
        · simp only [List.mem_singleton] at hy; rw [hy]; exact q.2
    have al : (addT (toldN ls i).1 d).length ≤ 200 := by
      unfold addT
      split
      · omega
      · rw [List.length_append]; simp only [List.length_cons, List.length_nil]; omega
    have common : ∀ (ρ₁ : Store) (h : Heap) (tk : Nat), St hb g I (a :: Mc) (envF (fdOf w.params 135) 135 L) ρ₁ h → Fz ρ₁ "waiting" (.list (addT (toldN ls i).1 d)) → Ow ρ₁ "order" a (toldN ls i).2 →
        wpAny (model prog w) (A.deeper (envF (fdOf w.params 135) 135 L)) (execs ((loopBody (bodyOf w.params 135) 2).drop 1) (envF (fdOf w.params 135) 135 L))
          Q' E' { s with heap := h, toks := tk } := by
      intro ρ₁ h tk S g1 g2
      refine x_append (x := "order") (d := minD (addT (toldN ls i).1 d)) S rfl g2 (PE.x (pe_min (f := "min") (d := minD (addT (toldN ls i).1 d)) B rfl rfl rfl (by decide) R'.hh hu80 (hgd.sub aw) hpos (PE.po (pe_name rfl g1)) rfl)) g2 (by unfold sizeLine; omega) fun h tk S => ?_
      have ho : Ow (("order", .own a ((toldN ls i).2 ++ [minD (addT (toldN ls i).1 d)])) :: ρ₁) "order" a ((toldN ls i).2 ++ [minD (addT (toldN ls i).1 d)]) := rfl
      generalize hmm : minD (addT (toldN ls i).1 d) = mn at *
      refine x_assignC (y := "waiting") (ds := addT (toldN ls i).1 d) (ρo := ("order", .own a ((toldN ls i).2 ++ [mn])) :: ("order", .own a ((toldN ls i).2 ++ [mn])) :: ρ₁) (fun d => [("one", .frz d)]) [a] (fun _ => [("order", .own a ((toldN ls i).2 ++ [mn]))]) (fun j => ((addT (toldN ls i).1 d).take j).filter fun y => !PyData.eqv y mn) S
        (pi_list R'.hh (pe_name rfl ((lookup_cons_ne (by decide)).trans g1))) (fun b hb' => ⟨"order", (toldN ls i).2 ++ [mn], by simp at hb'; subst hb'; exact ho⟩) rfl ?_ ?_ (by unfold sizeLine; omega) rfl (fun C D g' I' d hd => takes_name rfl rfl) ?_ (fun mL h C D n hCs hDs kk nn Si => own_out S ho n kk nn Si) fun h tk S => x_nil ?_
      · intro y sl hy
        have hy' := lookup_mem hy
        simp only [List.mem_cons, Prod.mk.injEq, List.not_mem_nil, or_false] at hy'
        obtain ⟨rfl, rfl⟩ := hy'
        exact ho
      · intro j y b es hy
        have hy' := lookup_mem hy
        simp only [List.mem_cons, Prod.mk.injEq, List.not_mem_nil, or_false, Slot.own.injEq] at hy'
        rw [hy'.2.1]; simp
      · intro C D g' j d' hd'
        have hj : j < (addT (toldN ls i).1 d).length := (List.getElem?_eq_some_iff.mp hd').1
        have hdm := aw d' (List.mem_of_getElem? hd')
        have tkj : (addT (toldN ls i).1 d).take (j + 1) = (addT (toldN ls i).1 d).take j ++ [d'] := by rw [List.take_add_one, hd']; rfl
        have mnm : mn ∈ ls := by rw [← hmm]; exact aw _ (minD_mem hpos)
        have idx : ((-1 : Int) + (((toldN ls i).2 ++ [mn]).length : Int)).toNat = (toldN ls i).2.length := by simp; omega
        refine ⟨!PyData.eqv d' mn, pt_cmp (PE.po (pe_name rfl rfl)) (PE.po (pe_idxN (k := -1) (d := mn) (po_own rfl rfl) (PE.po (pe_negI pe_int)) (by decide) (by simp; omega) (by rw [idx]; simp) (by decide) rfl)) rfl (fun s u v Q E ru rv h => cm_ne R'.units' (hgd.2 _ hdm) (hgd.2 _ mnm) ru rv h), ?_, ?_⟩
        · intro e
          refine ⟨fun y sl hy => ?_, by rw [tkj, List.filter_append]; simp [e]⟩
          have hy' := lookup_mem hy
          simp only [List.mem_cons, Prod.mk.injEq, List.not_mem_nil, or_false] at hy'
          obtain ⟨rfl, rfl⟩ := hy'
          exact (lookup_cons_ne (by decide)).trans hy
        · intro e
          refine ⟨d', _, (pe_name rfl rfl).x, fun y sl hy => ?_, by rw [tkj, List.filter_append]; simp [e]⟩
          have hy' := lookup_mem hy
          simp only [List.mem_cons, Prod.mk.injEq, List.not_mem_nil, or_false] at hy'
          obtain ⟨rfl, rfl⟩ := hy'
          exact (lookup_cons_ne (by decide)).trans hy
      · refine kk _ h tk _ (.inl rfl) S ⟨?_, ?_⟩
        · rw [st1, List.take_length]; rfl
        · rw [st2]; rfl
    rcases hdk with q | q
    · refine x_if (b := false) S (pt_cmp (PE.po (pe_name rfl rfl)) (PE.po pe_none) rfl (fun s u v Q E ru rv h => ?_)) fun h tk S => x_nil ?_
      · have hd0 : d = .none := by cases d <;> first | rfl | cases q
        subst hd0
        rw [rep_none ru, rep_none rv]
        exact isNot_none h
      · refine common _ h tk S ?_ ((lookup_cons_ne (by decide)).trans h2)
        unfold addT; rw [if_pos q]
        exact (lookup_cons_ne (by decide)).trans h1
    · refine x_if (b := true) S (pt_cmp (PE.po (pe_name rfl rfl)) (PE.po pe_none) rfl (fun s u v Q E ru rv h => ?_)) fun h tk S => ?_
      · rw [rep_none rv]
        obtain ⟨x, y, z, rfl, _⟩ := hsh d q.2
        rcases ru with ru | ⟨_, _, _, _, e, _⟩
        · cases ru; exact isNot_none h
        · cases e
      · refine x_assign (x := "waiting") S (PE.x (pe_addL (PE.po (pe_name rfl ((lookup_cons_ne (by decide)).trans h1))) (PE.po (PF.pe (pf_list (pes_cons (pe_name rfl rfl) pes_nil) (by simp [sizeLine])))) (by simp [sizeLine]; omega))) rfl fun h tk S => x_nil ?_
        refine common _ h tk S ?_ ((lookup_cons_ne (by decide)).trans ((lookup_cons_ne (by decide)).trans h2))
        unfold addT; rw [if_neg (by rw [q.1]; decide)]
        rfl
  · rintro ρ h tk ⟨h1, h2⟩ S
    obtain ⟨a1, a2, a3, a4⟩ := toldN_mem hto (itemsT ls).length (Nat.le_refl _)
    have S' := S.freeze h2 rfl
    have hol : (toldD ls).length ≤ 64 := by unfold toldD; rw [a3]; omega
    refine x_return S' (PE.x (PE.cast (PF.pe (pf_comp (ds := toldD ls) (fun d => match d with | .tuple [p, q, r] => [("text", .frz r), ("place", .frz q), ("rank", .frz p)] | _ => []) [] (fun d => .list (rowsD (rowsF (txtD d).cps.toList))) (fun _ => true)
      (pi_list R'.hh (pe_name rfl rfl)) (fun x sl hx => nomatch hx) (fun x b es hx => nomatch hx) (fun d hd x sl hx => nomatch hx) (by unfold sizeLine; omega) ?_ ?_)) (by rw [List.filter_eq_self.mpr (fun _ _ => rfl)]))) fun v h tk S r => ?_
    · intro C D g' I' d hd
      obtain ⟨x, y, z, rfl, _⟩ := hsh d (a2 d hd)
      exact takes_three R'.hh rfl rfl rfl
    · intro C D g' d hd
      obtain ⟨x, y, z, rfl, hz⟩ := hsh d (a2 d hd)
      exact ⟨rfl, fun _ => pe_call (f := "_law_rows") B (rows_ok B) R' rfl rfl rfl (pes_cons (pe_name (x := "text") rfl rfl) pes_nil) ⟨z, rfl, by omega, rfl⟩⟩
    · refine k v h tk (fun b' o hb' e => S.kg b' o hb' e) (r.sub fun c hc => List.mem_filter.mpr ⟨List.mem_cons_of_mem _ (hMc c hc), ?_⟩)
      simp only [bne_iff_ne, ne_eq]
      rintro rfl
      obtain ⟨o, ho⟩ := hM c hc
      rw [hga] at ho; cases ho
end
end Oh

-- OhLh
namespace Oh
open PySem PySem.W PyProof.Rows PySem.SeqAt PySem.Calls PySem.MeetsSeq

section
variable {prog : Program} {w : World} {A : Around} {hb g : Heap} {I M : List Addr} {env : Env} {ρ : Store} {K : Frag}
/-- a def of two arguments that changes nothing -/
theorem enter2 {s : Shared} {f : Addr} {o : Obj} {fd : FuncData} {body : List Stmt} {x y : Str} {v u : Value} {d e : PyData} {Q : Value → Shared → Prop} {E : Value → Shared → Prop} (hxy : y ≠ x)
    (B : BaseOk K hb) (hk0 : KeepM [] hb s.heap) (hroom : A.depth < recursionLimit) (ho : K.lookup f = some o) (hd : o.data = .func fd) (hp : fnPlain fd = true) (hbody : fd.body = .stmts body) (hcd : codeIn K fd.code fd.qualname = true)
    (hbind : bindArgs fd ⟨[v, u], []⟩ = pure [(x, v), (y, u)]) (hkind : ([(x, v), (y, u)].all fun y => fd.scope.names.lookup y.1 == some .local || fd.scope.names.lookup y.1 == some .cell) = true)
    (hM : ∀ a ∈ M, ∃ o, s.heap.get? a = some o) (hb1 : ∀ L, (if (envF fd f L).kindOf x = some .cell then bindC (envF fd f L).kindOf [(x, v), (y, u)] (fun _ => none) x else bindL (envF fd f L).kindOf [(x, v), (y, u)] (fun _ => none) x) = some v)
    (hb2 : ∀ L, (if (envF fd f L).kindOf y = some .cell then bindC (envF fd f L).kindOf [(x, v), (y, u)] (fun _ => none) y else bindL (envF fd f L).kindOf [(x, v), (y, u)] (fun _ => none) y) = some u) (r : Rep M s.heap v d) (r' : Rep M s.heap u e)
    (k : ∀ (L : Addr) (h₁ : Heap) (tk : Nat) (Mc : List Addr), (∀ a ∈ M, a ∈ Mc) → (∀ a ∈ Mc, a ∈ M ∨ s.heap.get? a = none) → St hb s.heap [] Mc (envF fd f L) [(x, .frz d), (y, .frz e)] h₁ →
      wpAny (model prog w) (A.deeper (envF fd f L)) (execs body (envF fd f L)) (fun fl s' => Q (match fl with | .ret v => v | _ => .none) s')
        (fun e s' => wpAny (model prog w) (A.deeper (envF fd f L)) (leaving (envF fd f L) e) (fun _ s'' => E e s'') (fun e' s'' => E e' s'') s') { s with heap := h₁, toks := tk }) :
    wpAny (model prog w) A (call (.ref f) [v, u]) Q E s := by
  refine enter (I := []) (ρ := [(x, .frz d), (y, .frz e)]) B hk0 hroom ho hd hp hbody hcd hbind hkind (fun a ha => nomatch ha) hM (fun z sl hz => ?_) (fun z z' a ds es h1 _ => ?_) k
  · have hz := lookup_mem hz
    simp only [List.mem_cons, Prod.mk.injEq, List.not_mem_nil, or_false] at hz
    rcases hz with ⟨rfl, rfl⟩ | ⟨rfl, rfl⟩
    · exact ⟨v, hb1, _, rfl, r⟩
    · exact ⟨u, hb2, _, rfl, r'⟩
  · have h1 := lookup_mem h1
    simp only [List.mem_cons, Prod.mk.injEq, List.not_mem_nil, or_false, reduceCtorEq, and_false] at h1
end

/-! ## _law_lacking -/
noncomputable def maxD (ws : List PyData) : PyData := ws.getD (argBest (fun i j => pyC true (ws.getD i .none) (ws.getD j .none)) (ws.length - 1)) .none
theorem maxD_mem {ws : List PyData} (h : 0 < ws.length) : maxD ws ∈ ws := getD_mem (Nat.lt_of_le_of_lt (argBest_le _ _) (by omega))
noncomputable def hasD (ys : List PyData) (x : PyData) : Bool := ys.any fun y => PyData.eqv y x
noncomputable def lackT (xs ys : List PyData) (k : Nat) : Bool := !hasD ys (xs.getD k .none) && (!hasD (xs.take k) (xs.getD k .none) || (ys.isEmpty || pyC true (xs.getD k .none) (maxD ys)))
noncomputable def lackN (xs ys : List PyData) : Nat → List PyData
  | 0 => []
  | k + 1 => if lackT xs ys k then lackN xs ys k ++ [xs.getD k .none] else lackN xs ys k
theorem lackN_mem (xs ys : List PyData) : ∀ k, k ≤ xs.length → (∀ y ∈ lackN xs ys k, y ∈ xs) ∧ (lackN xs ys k).length ≤ k
  | 0, _ => ⟨fun y hy => by simp [lackN] at hy, Nat.le_refl _⟩
  | k + 1, h => by
    obtain ⟨a, b⟩ := lackN_mem xs ys k (by omega)
    unfold lackN
    split
    · refine ⟨fun y hy => ?_, by simp; omega⟩
      rcases List.mem_append.mp hy with hy | hy
      · exact a y hy
      · simp only [List.mem_singleton] at hy; rw [hy]; exact getD_mem (by omega)
    · exact ⟨a, by omega⟩
/-- lists of texts, comparable -/
noncomputable def LsOk (xs : List PyData) : Prop := Gd xs ∧ xs.length < 64 ∧ (∀ d ∈ xs, ∃ l, d = .list l) ∧ ∃ P, Tot P (pyC false) ∧ ∀ d ∈ xs, P d
section
variable {prog : Program} {w : World} {A : Around} {hb g : Heap} {I M : List Addr} {env : Env} {ρ : Store} {K : Frag}
theorem pt_and_or3 {a b c e : PySem.Expr} {p q : Pos} {x y z t : Bool} (ha : PT prog w A hb g I M env ρ a x) (hb' : PT prog w A hb g I M env ρ b y) (hc : PT prog w A hb g I M env ρ c z) (he : z = false → PT prog w A hb g I M env ρ e t) :
    PT prog w A hb g I M env ρ (.BoolOp .And [a, .BoolOp .Or [b, c, e] p] q) (x && (y || (z || t))) := by
  cases x with
  | false => exact pt_boolop (pts_and_f ha)
  | true =>
    have inner : PT prog w A hb g I M env ρ (.BoolOp .Or [b, c, e] p) (y || (z || t)) := by
      cases y with
      | true => exact pt_boolop (pts_or_t hb')
      | false =>
        cases z with
        | true => exact pt_boolop (pts_or_f hb' (pts_or_t hc))
        | false =>
          have he := he rfl
          cases t with
          | true => exact pt_boolop (pts_or_f hb' (pts_or_f hc (pts_or_t he)))
          | false => exact pt_boolop (pts_or_f hb' (pts_or_f hc (pts_or_f he pts_or_nil)))
    cases hi : (y || (z || t)) with
    | true => rw [hi] at inner; exact pt_boolop (pts_and_t ha (pts_and_t inner pts_and_nil))
    | false => rw [hi] at inner; exact pt_boolop (pts_and_t ha (pts_and_f inner))
end
theorem eqv_nil (ys : List PyData) : PyData.eqv (.list ys) (.list []) = ys.isEmpty := by cases ys <;> simp [PyData.eqv, PyData.eqvAll]
section
variable {prog : Program} {w : World} {hb : Heap}
set_option maxHeartbeats 2000000 in
theorem lacking_ok (B : BaseOk (KF w.params) hb) : FnOk prog w hb 1 142 (fun ds d => ∃ xs ys : List PyData, ds = [.list xs, .list ys] ∧ LsOk xs ∧ LsOk ys ∧ Gd (xs ++ ys) ∧ (PyData.list ys).depth ≤ 64 ∧ d = .list (isort ltD (lackN xs ys xs.length))) := by
  intro A s M vs ds d hP R hk0 hM rv Q E k
  obtain ⟨xs, ys, rfl, ⟨gx, lx, kx, P, T, hPx⟩, ⟨gy, ly, ky, _⟩, gxy, dy, rfl⟩ := hP
  cases rv with | cons r1 rv => ?_
  cases rv with | cons r2 rv => ?_
  cases rv
  refine enter2 (fd := fdOf w.params 142) (body := bodyOf w.params 142) (x := "one") (y := "other") (by decide) B hk0 R.depth rfl rfl rfl rfl rfl rfl rfl hM (fun L => rfl) (fun L => rfl) r1 r2 ?_
  intro L h₁ tk Mc hMc hMn S
  have R' : Rm 0 (A.deeper (envF (fdOf w.params 142) 142 L)) := R.deeper _
  have hu80 : (A.deeper (envF (fdOf w.params 142) 142 L)).units + 80 < cLine := by have := R'.hu; unfold cLine; omega
  refine x_assignF (x := "row") (ds := lackN xs ys 0) S (pf_list pes_nil (by simp [lackN])) rfl fun a h tk hga haN S => ?_
  refine x_for (sf := true) (ds := (List.range xs.length).map fun i : Nat => PyData.int (i : Int)) (fun i ρ => Fz ρ "one" (.list xs) ∧ Fz ρ "other" (.list ys) ∧ Ow ρ "row" a (lackN xs ys i)) (fun d => [("k", .frz d)]) S
    (pi_range B R'.hh rfl rfl rfl (by decide) (PE.po (pe_lenL B rfl rfl rfl (by decide) (PE.po (pe_name rfl rfl)) (by omega))) (by omega)) (fun g I d hd => takes_name rfl rfl) ⟨rfl, rfl, rfl⟩ ?_ ?_
  · rintro g I i d ρ hd ⟨h1, h2, h3⟩ h tk E' Q' kk S
    have hi : i < xs.length := by simpa using (List.getElem?_eq_some_iff.mp hd).1
    rw [List.getElem?_map, List.getElem?_range hi] at hd
    simp only [Option.map_some, Option.some.injEq] at hd
    subst hd
    obtain ⟨m1, m2⟩ := lackN_mem xs ys i (by omega)
    have xm := getD_mem (es := xs) (p := i) hi
    have xg := getD_some (es := xs) (p := i) hi
    have g1 := (lookup_cons_ne (ρ := ρ) (x := "k") (sl := .frz (.int (i : Int))) (y := "one") (by decide)).trans h1
    have g2 := (lookup_cons_ne (ρ := ρ) (x := "k") (sl := .frz (.int (i : Int))) (y := "other") (by decide)).trans h2
    have stp : lackN xs ys (i + 1) = if lackT xs ys i then lackN xs ys i ++ [xs.getD i .none] else lackN xs ys i := rfl
    refine x_if (b := lackT xs ys i) S ?_ fun h tk S => ?_
    · unfold lackT
      generalize hx : xs.getD i .none = x at *
      refine pt_and_or3 (pt_cmp (PE.po (pe_idxL (d := x) (PE.po (pe_name rfl g1)) (PE.po (pe_name rfl rfl)) (by omega) (by rw [Int.toNat_natCast]; exact xg) (by omega) rfl)) (PE.po (pe_name rfl g2)) rfl (fun s u v Q E ru rv h => cm_notIn R'.units (gx.2 x xm) ru rv h))
        (pt_cmp (PE.po (pe_idxL (d := x) (PE.po (pe_name rfl g1)) (PE.po (pe_name rfl rfl)) (by omega) (by rw [Int.toNat_natCast]; exact xg) (by omega) rfl)) (PE.po (PE.cast (PF.pe (pf_slice (PE.po (pe_name rfl g1)) pp_none (pp_some (PE.po (pe_name rfl rfl))) pp_none (by decide) (by unfold sizeLine; omega))) (by rw [pickD_upto]))) rfl (fun s u v Q E ru rv h => cm_notIn R'.units (gx.2 x xm) ru rv h))
        (PT.cast (pt_cmp (PE.po (pe_name rfl g2)) (PE.po (PF.pe (pf_list pes_nil (by decide)))) rfl (fun s u v Q E ru rv h => cm_eq R'.units' dy (by decide) ru rv h)) (eqv_nil ys)) fun hz => ?_
      have hpos : 0 < ys.length := by cases ys with
        | nil => simp at hz
        | cons => simp
      have mm := maxD_mem hpos
      exact pt_cmp (PE.po (pe_idxL (d := x) (PE.po (pe_name rfl g1)) (PE.po (pe_name rfl rfl)) (by omega) (by rw [Int.toNat_natCast]; exact xg) (by omega) rfl)) (PE.po (pe_max (f := "max") (d := maxD ys) B rfl rfl rfl (by decide) R'.hh hu80 gy hpos (PE.po (pe_name rfl g2)) rfl)) rfl (fun s u v Q E ru rv h => cm_gt R'.units' (gx.2 x xm) (gxy.1 x (List.mem_append.mpr (.inl xm)) _ (List.mem_append.mpr (.inr mm))) ru rv h)
    · cases hl : lackT xs ys i with
      | true =>
        rw [hl] at stp
        refine x_append (x := "row") S rfl ((lookup_cons_ne (by decide)).trans h3) (PE.x (pe_idxL (d := xs.getD i .none) (PE.po (pe_name rfl g1)) (PE.po (pe_name rfl rfl)) (by omega) (by rw [Int.toNat_natCast]; exact xg) (by omega) rfl)) ((lookup_cons_ne (by decide)).trans h3) (by unfold sizeLine; omega) fun h tk S => x_nil (x_nil ?_)
        refine kk _ h tk _ (.inl rfl) S ⟨h1, h2, ?_⟩
        rw [stp]; rfl
      | false =>
        rw [hl] at stp
        refine x_nil (x_nil (kk _ h tk _ (.inl rfl) S ⟨g1, g2, ?_⟩))
        rw [stp]; exact (lookup_cons_ne (by decide)).trans h3
  · rintro ρ h tk ⟨h1, h2, h3⟩ S
    simp only [List.length_map, List.length_range] at h3
    obtain ⟨m1, m2⟩ := lackN_mem xs ys xs.length (Nat.le_refl _)
    refine x_return S (PE.x (PF.pe (pf_sorted (P := P) B rfl rfl rfl (by decide) T (fun d hd => hPx d (m1 d hd)) (gx.sub m1) (.inl fun d hd => kx d (m1 d hd)) (by omega) hu80 (po_own rfl h3)))) fun v h tk S r => ?_
    exact k v h tk (fun b o hb' e => S.kg b o hb' e) (r.sub fun b hb' => List.mem_cons_of_mem _ (hMc b hb'))
end
end Oh

-- OhLi
namespace Oh
open PySem PySem.W PyProof.Rows PySem.SeqAt PySem.Calls PySem.MeetsSeq

/-! ## _law_bags -/
noncomputable def cntD (ys : List PyData) (x : PyData) : Nat := ys.countP fun y => PyData.eqv y x
noncomputable def missK (xs ys : List PyData) : List Nat := (List.range xs.length).filter fun k => decide (cntD ys (xs.getD k .none) < cntD (xs.drop k) (xs.getD k .none))
noncomputable def missD (xs ys : List PyData) : List PyData := (missK xs ys).map fun k => xs.getD k .none
noncomputable def leftK (xs ys : List PyData) : List Nat := (List.range ys.length).filter fun k => decide (cntD xs (ys.getD k .none) < cntD (ys.take (k + 1)) (ys.getD k .none))
noncomputable def leftD (xs ys : List PyData) : List PyData := (leftK xs ys).map fun k => ys.getD k .none
noncomputable def bagsD (xs ys : List PyData) : PyData := .list [.tuple [.list (isort ltD (lackN xs ys xs.length)), .list (isort ltD (lackN ys xs ys.length))], .tuple [.list (missD xs ys).reverse, .list (leftD xs ys)]]
noncomputable abbrev bSt (xs ys : List PyData) : Store := [("first", .frz (.list xs)), ("second", .frz (.list ys))]
section
variable {prog : Program} {w : World} {hb : Heap}
set_option maxHeartbeats 4000000 in
theorem bags_ok (B : BaseOk (KF w.params) hb) : FnOk prog w hb 2 147 (fun ds d => ∃ xs ys : List PyData, ds = [.list xs, .list ys] ∧ LsOk xs ∧ LsOk ys ∧ Gd (xs ++ ys) ∧ Gd (ys ++ xs) ∧ (PyData.list xs).depth ≤ 64 ∧ (PyData.list ys).depth ≤ 64 ∧ d = bagsD xs ys) := by
  intro A s M vs ds d hP R hk0 hM rv Q E k
  obtain ⟨xs, ys, rfl, hx, hy, gxy, gyx, dx, dy, rfl⟩ := hP
  obtain ⟨gx, lx, kx, _⟩ := id hx
  obtain ⟨gy, ly, ky, _⟩ := id hy
  cases rv with | cons r1 rv => ?_
  cases rv with | cons r2 rv => ?_
  cases rv
  refine enter2 (fd := fdOf w.params 147) (body := bodyOf w.params 147) (x := "first") (y := "second") (by decide) B hk0 R.depth rfl rfl rfl rfl rfl rfl rfl hM (fun L => rfl) (fun L => rfl) r1 r2 ?_
  intro L h₁ tk Mc hMc hMn S
  have R' : Rm 1 (A.deeper (envF (fdOf w.params 147) 147 L)) := R.deeper _
  have caps : ∀ (ρ : Store), Fz ρ "first" (.list xs) → Fz ρ "second" (.list ys) → ∀ x sl, List.lookup x (bSt xs ys) = some sl → ρ.lookup x = some sl := by
    intro ρ h1 h2 x sl hx
    have hx := lookup_mem hx
    simp only [bSt, List.mem_cons, Prod.mk.injEq, List.not_mem_nil, or_false] at hx
    rcases hx with ⟨rfl, rfl⟩ | ⟨rfl, rfl⟩
    · exact h1
    · exact h2
  have noown : ∀ x a es, List.lookup x (bSt xs ys) ≠ some (.own a es) := by
    intro x a es hx
    have hx := lookup_mem hx
    simp only [bSt, List.mem_cons, Prod.mk.injEq, List.not_mem_nil, or_false, reduceCtorEq, and_false] at hx
  have dis : ∀ (d : PyData) x sl, List.lookup x (bSt xs ys) = some sl → List.lookup x (([("k", .frz d)] : Store) ++ bSt xs ys) = some sl := by
    intro d x sl hx
    have hx' := lookup_mem hx
    simp only [bSt, List.mem_cons, Prod.mk.injEq, List.not_mem_nil, or_false] at hx'
    refine (lookup_cons_ne ?_).trans hx
    rcases hx' with ⟨rfl, _⟩ | ⟨rfl, _⟩ <;> decide
  refine x_assignCp (y := "missing") (ds := (List.range xs.length).map fun i : Nat => PyData.int (i : Int)) (fun d => [("k", .frz d)]) (bSt xs ys)
    (fun d => match d with | .int k => xs.getD k.toNat .none | _ => .none) (fun d => match d with | .int k => decide (cntD ys (xs.getD k.toNat .none) < cntD (xs.drop k.toNat) (xs.getD k.toNat .none)) | _ => false) S
    (pi_range B R'.hh rfl rfl rfl (by decide) (PE.po (pe_lenL B rfl rfl rfl (by decide) (PE.po (pe_name rfl rfl)) (by omega))) (by omega)) rfl (caps _ rfl rfl) noown (fun d _ => dis d) (by simp [sizeLine]; omega) (fun C D g' I' d hd => takes_name rfl rfl) ?_ fun h tk S => ?_
  · intro C D g' d hd
    obtain ⟨j, hj, rfl⟩ := List.mem_map.mp hd
    have hj : j < xs.length := by simpa using hj
    have xm := getD_mem (es := xs) (p := j) hj
    have xg := getD_some (es := xs) (p := j) hj
    refine ⟨?_, fun _ => ?_⟩
    · refine PT.cast (pt_cmp (PE.po (pe_count R'.units (PE.po (PE.cast (PF.pe (pf_slice (PE.po (pe_name rfl rfl)) (pp_some (PE.po (pe_name rfl rfl))) pp_none pp_none (by decide) (by unfold sizeLine; omega))) (by rw [pickD_from]))) (PE.po (pe_idxL (d := xs.getD j .none) (k := (j : Int)) (PE.po (pe_name rfl rfl)) (PE.po (pe_name rfl rfl)) (by omega) (by rw [Int.toNat_natCast]; exact xg) (by omega) rfl)) (fun x hx => gx.2 x (List.mem_of_mem_drop hx)) rfl rfl rfl)) (PE.po (pe_count R'.units (PE.po (pe_name rfl rfl)) (PE.po (pe_idxL (d := xs.getD j .none) (k := (j : Int)) (PE.po (pe_name rfl rfl)) (PE.po (pe_name rfl rfl)) (by omega) (by rw [Int.toNat_natCast]; exact xg) (by omega) rfl)) gy.2 rfl rfl rfl)) rfl (fun s u v Q E ru rv h => cm_gt R'.units' (by simp [PyData.depth]) rfl ru rv h)) ?_
      simp only [pyC, if_true, Int.toNat_natCast]
      exact decide_eq_decide.mpr (by unfold cntD; omega)
    · exact PE.cast (pe_idxL (d := xs.getD j .none) (k := (j : Int)) (PE.po (pe_name rfl rfl)) (PE.po (pe_name rfl rfl)) (by omega) (by rw [Int.toNat_natCast]; exact xg) (by omega) rfl) (by simp only [Int.toNat_natCast])
  have em : (((List.range xs.length).map fun i : Nat => PyData.int (i : Int)).filter (fun d => match d with | .int k => decide (cntD ys (xs.getD k.toNat .none) < cntD (xs.drop k.toNat) (xs.getD k.toNat .none)) | _ => false)).map (fun d => match d with | .int k => xs.getD k.toNat .none | _ => .none) = missD xs ys := by
    unfold missD missK
    rw [List.filter_map, List.map_map]
    rfl
  rw [em] at S
  refine x_assignCp (y := "left") (ds := (List.range ys.length).map fun i : Nat => PyData.int (i : Int)) (fun d => [("k", .frz d)]) (bSt xs ys)
    (fun d => match d with | .int k => ys.getD k.toNat .none | _ => .none) (fun d => match d with | .int k => decide (cntD xs (ys.getD k.toNat .none) < cntD (ys.take (k.toNat + 1)) (ys.getD k.toNat .none)) | _ => false) S
    (pi_range B R'.hh rfl rfl rfl (by decide) (PE.po (pe_lenL B rfl rfl rfl (by decide) (PE.po (pe_name rfl rfl)) (by omega))) (by omega)) rfl (caps _ rfl rfl) noown (fun d _ => dis d) (by simp [sizeLine]; omega) (fun C D g' I' d hd => takes_name rfl rfl) ?_ fun h tk S => ?_
  · intro C D g' d hd
    obtain ⟨j, hj, rfl⟩ := List.mem_map.mp hd
    have hj : j < ys.length := by simpa using hj
    have ym := getD_mem (es := ys) (p := j) hj
    have yg := getD_some (es := ys) (p := j) hj
    refine ⟨?_, fun _ => ?_⟩
    · refine PT.cast (pt_cmp (PE.po (pe_count R'.units (PE.po (PE.cast (PF.pe (pf_slice (PE.po (pe_name rfl rfl)) pp_none (pp_some (PE.po (pe_addI (PE.po (pe_name rfl rfl)) (PE.po pe_int)))) pp_none (by decide) (by unfold sizeLine; omega))) (by rw [show (j : Int) + 1 = ((j + 1 : Nat) : Int) by omega, pickD_upto]))) (PE.po (pe_idxL (d := ys.getD j .none) (k := (j : Int)) (PE.po (pe_name rfl rfl)) (PE.po (pe_name rfl rfl)) (by omega) (by rw [Int.toNat_natCast]; exact yg) (by omega) rfl)) (fun x hx => gy.2 x (List.mem_of_mem_take hx)) rfl rfl rfl)) (PE.po (pe_count R'.units (PE.po (pe_name rfl rfl)) (PE.po (pe_idxL (d := ys.getD j .none) (k := (j : Int)) (PE.po (pe_name rfl rfl)) (PE.po (pe_name rfl rfl)) (by omega) (by rw [Int.toNat_natCast]; exact yg) (by omega) rfl)) gx.2 rfl rfl rfl)) rfl (fun s u v Q E ru rv h => cm_gt R'.units' (by simp [PyData.depth]) rfl ru rv h)) ?_
      simp only [pyC, if_true, Int.toNat_natCast]
      exact decide_eq_decide.mpr (by unfold cntD; omega)
    · exact PE.cast (pe_idxL (d := ys.getD j .none) (k := (j : Int)) (PE.po (pe_name rfl rfl)) (PE.po (pe_name rfl rfl)) (by omega) (by rw [Int.toNat_natCast]; exact yg) (by omega) rfl) (by simp only [Int.toNat_natCast])
  have el : (((List.range ys.length).map fun i : Nat => PyData.int (i : Int)).filter (fun d => match d with | .int k => decide (cntD xs (ys.getD k.toNat .none) < cntD (ys.take (k.toNat + 1)) (ys.getD k.toNat .none)) | _ => false)).map (fun d => match d with | .int k => ys.getD k.toNat .none | _ => .none) = leftD xs ys := by
    unfold leftD leftK
    rw [List.filter_map, List.map_map]
    rfl
  rw [el] at S
  have ml : (missD xs ys).length ≤ 64 := by unfold missD missK; rw [List.length_map]; refine Nat.le_trans (List.length_filter_le _ _) ?_; simp; omega
  refine x_return S (PE.x (PE.cast (PF.pe (pf_list (pes_cons (pe_tuple (pes_cons (pe_call (f := "_law_lacking") B (lacking_ok B) R' rfl rfl rfl (pes_cons (pe_name rfl rfl) (pes_cons (pe_name rfl rfl) pes_nil)) ⟨xs, ys, rfl, hx, hy, gxy, dy, rfl⟩) (pes_cons (pe_call (f := "_law_lacking") B (lacking_ok B) R' rfl rfl rfl (pes_cons (pe_name rfl rfl) (pes_cons (pe_name rfl rfl) pes_nil)) ⟨ys, xs, rfl, hy, hx, gyx, dx, rfl⟩) pes_nil)) (by simp [sizeLine]))
    (pes_cons (pe_tuple (pes_cons (PE.cast (PF.pe (pf_slice (PE.po (pe_name rfl rfl)) pp_none pp_none (pp_some (PE.po (pe_negI pe_int))) (by decide) (by unfold sizeLine; omega))) (by rw [show (-(1 : Int)) = -1 from rfl, pickD_rev])) (pes_cons (pe_name rfl rfl) pes_nil)) (by simp [sizeLine])) pes_nil)) (by simp [sizeLine]))) rfl)) fun v h tk S r => ?_
  exact k v h tk (fun b o hb' e => S.kg b o hb' e) (r.sub hMc)
end
end Oh

-- OhEa
namespace Oh
open PySem PySem.W PyProof.Rows PySem.SeqAt PySem.Calls PySem.MeetsSeq

/-! ## raising and catching: the frames' dicts are noted -/
/-- the same but at c, where the names stand -/
noncomputable def Rg (c : Addr) (mc : Str → Option Value) (g g' : Heap) : Prop := (∀ b, b ≠ c → g'.get? b = g.get? b) ∧ g'.Ns c mc
theorem Rg.refl {c : Addr} {mc : Str → Option Value} {g : Heap} (n : g.Ns c mc) : Rg c mc g g := ⟨fun _ _ => rfl, n⟩
theorem Rg.trans {c : Addr} {mc : Str → Option Value} {g g' g'' : Heap} (a : Rg c mc g g') (b : Rg c mc g' g'') : Rg c mc g g'' := ⟨fun x hx => (b.1 x hx).trans (a.1 x hx), b.2⟩
/-- the caller's dict -/
structure Cx (hb g : Heap) (I M : List Addr) (env : Env) (c : Addr) (mc : Str → Option Value) : Prop where
  n : g.Ns c mc
  cI : c ∉ I
  cL : c ≠ env.locals
  cM : c ∈ M
  cb : hb.get? c = none
/-- the two frames -/
structure Fm (A : Around) (env envc : Env) (c : Addr) : Prop where
  fr : A.frames = some [env, envc]
  f1 : env.frame = some env.locals
  f2 : envc.frame = some c
  k1 : env.scope.kind ≠ .module
  k2 : envc.scope.kind ≠ .module

section
variable {prog : Program} {w : World} {A : Around} {hb g g' h h' : Heap} {I M : List Addr} {env envc : Env} {ρ : Store} {c : Addr} {mc : Str → Option Value} {K : Frag}
theorem Cx.rg (C : Cx hb g I M env c mc) (r : Rg c mc g g') : Cx hb g' I M env c mc := { C with n := r.2 }
theorem Cx.here (C : Cx hb g I M env c mc) (S : St hb g I M env ρ h) : h.Ns c mc := by
  obtain ⟨o, es, ep, ho, r⟩ := C.n
  exact ⟨o, es, ep, S.kg c o C.cI ho, r⟩
theorem slots_ns {X : List Addr} {a : Addr} {m : Str → Option Value} (x : Heap.SlotsOnly X h h') (n : h.Ns a m) : h'.Ns a m := by
  obtain ⟨o, es, ep, ho, hd, r⟩ := n
  obtain ⟨sl, hs⟩ := x.2.2 a o ho
  exact ⟨_, es, ep, hs, hd, r⟩
theorem ns_fields {a : Addr} {m : Str → Option Value} {o : Obj} {vs : Array Value} (n : h.Ns a m) (ho : h.get? a = some o) (hd : o.data = .fields vs) : False := by
  obtain ⟨o', es, ep, ho', hd', r⟩ := n
  rw [ho] at ho'; cases ho'; rw [hd] at hd'; cases hd'
theorem notSeq_fields {a : Addr} {o : Obj} {vs : Array Value} (ho : h.get? a = some o) (hd : o.data = .fields vs) : NotSeq h a := by
  refine ⟨fun ws l => ?_, fun ws l => ?_⟩
  · obtain ⟨n, e⟩ := l; rw [ho] at e; cases e; cases hd
  · obtain ⟨o', e, _, n, hd'⟩ := l; rw [ho] at e; cases e; rw [hd] at hd'; cases hd'

theorem St.slots (S : St hb g I M env ρ h) (C : Cx hb g I M env c mc) (x : Heap.SlotsOnly [env.locals, c] h h') : ∃ g', Rg c mc g g' ∧ St hb g' I M env ρ h' := by
  obtain ⟨o, es, ep, ho, hd, hr⟩ := id C.n
  have hoh := S.kg c o C.cI ho
  obtain ⟨sl, hs⟩ := x.2.2 c o hoh
  have hnf : ({ o with slots := sl } : Obj).isFreed = false := by simp [Obj.isFreed, hd]
  have gs : (g.update c fun _ => { o with slots := sl }).get? c = some { o with slots := sl } := Heap.get?_update_self (fun _ => { o with slots := sl }) ho hnf
  have go : ∀ b, b ≠ c → (g.update c fun _ => { o with slots := sl }).get? b = g.get? b := fun b hb' => Heap.get?_update_other _ _ (Ne.symm hb')
  have hcn := C.here S
  have hLb : ∀ b o, hb.get? b = some o → b ≠ env.locals := fun b o e => ne_of_kept S.L1 (S.bg b o e).2 (S.bg b o e).1
  have hcb : ∀ b o, hb.get? b = some o → b ≠ c := fun b o e q => by rw [q, C.cb] at e; cases e
  have kp : KeepM [env.locals, c] h h' := fun b o hb' e => (x.2.1 b hb').trans e
  have kM : KeepM M h h' := kp.sub fun y hy => by
    simp only [List.mem_cons, List.not_mem_nil, or_false] at hy
    rcases hy with rfl | rfl
    · exact S.LM
    · exact C.cM
  obtain ⟨m, nm, sok⟩ := S.names
  obtain ⟨mL, n1, n2⟩ := nm.loc
  refine ⟨_, ⟨go, _, es, ep, gs, hd, hr⟩, { S with
    kb := fun b o' hb' e => kp b o' (by simp [hLb b o' e, hcb b o' e]) (S.kb b o' hb' e)
    kg := fun b o' hI e => ?_
    al := fun b o' e => ?_
    bg := fun b o' e => ⟨(go b (hcb b o' e)).trans (S.bg b o' e).1, (S.bg b o' e).2⟩
    L1 := S.L1.imp id fun q => (go _ C.cL.symm).trans q
    ob := fun a ha => by obtain ⟨o', e⟩ := S.ob a ha; obtain ⟨sl', e'⟩ := x.2.2 a o' e; exact ⟨_, e'⟩
    cM := fun y b hb' => ⟨(S.cM y b hb').1, fun hf => ?_⟩
    names := ⟨m, ⟨⟨mL, slots_ns x n1, n2⟩, fun y b hy hb' => ?_⟩, fun y sl' hy => ?_⟩ }⟩
  · by_cases q : b = c
    · subst q; rw [gs] at e; cases e; exact hs
    · rw [go b q] at e
      exact kp b o' (by simp [q, ne_of_kept S.L1 hI e]) (S.kg b o' hI e)
  · by_cases q : b = c
    · subst q; exact ⟨_, hs⟩
    · rw [go b q] at e
      obtain ⟨o'', e''⟩ := S.al b o' e
      obtain ⟨sl', e'⟩ := x.2.2 b o'' e''
      exact ⟨_, e'⟩
  · rcases (S.cM y b hb').2 hf with q | q
    · exact .inl q
    · refine .inr ((go b fun z => ?_).trans q)
      rw [z, ho] at q; cases q
  · obtain ⟨o', ho', hd'⟩ := nm.cell y b hy hb'
    obtain ⟨sl', e'⟩ := x.2.2 b o' ho'
    exact ⟨_, e', hd'⟩
  · have q := sok y sl' hy
    cases sl' with
    | frz d => obtain ⟨u, e, r⟩ := q; exact ⟨u, e, r.keep kM⟩
    | own a ds =>
      obtain ⟨e, h1, h2, vs, h3, h4⟩ := q
      have hac : a ≠ c := ns_not_list hcn h3.isList
      refine ⟨e, h1, h2.imp id fun z => (go a hac).trans z, vs, LstAt.keep kp ?_ h3, h4.keep kM⟩
      simp [hac, ns_not_list n1 h3.isList]

/-- an exception of class X, its context cx; noted at fl, or not yet -/
structure Xc (X : String) (M : List Addr) (g h : Heap) (e : Addr) (fl : Option Value) : Prop where
  eM : e ∉ M
  eg : g.get? e = none
  ob : ∃ oe vs, h.get? e = some oe ∧ oe.cls = .type X ∧ oe.data = .fields vs ∧ (match fl with
    | none => vs[1]? = some .none
    | some f => ∃ T oT ts, vs[1]? = some (.ref T) ∧ T ∉ M ∧ g.get? T = none ∧ T ≠ e ∧ h.get? T = some oT ∧ oT.data = .fields ts ∧ ts[3]? = some f)

theorem Xc.typeIs {X : String} {s : Shared} {e : Addr} {fl : Option Value} (x : Xc X M g s.heap e fl) : s.TypeIs (.ref e) X := by
  obtain ⟨oe, vs, h1, h2, _⟩ := x.ob; exact ⟨oe, h1, h2⟩

theorem note_new {X : String} {s : Shared} {e : Addr} {Q : Unit → Shared → Prop} {E : Value → Shared → Prop} (F : Fm A env envc c) (S : St hb g I M env ρ s.heap) (C : Cx hb g I M env c mc) (x : Xc X M g s.heap e none)
    (k : ∀ h' g', Rg c mc g g' → St hb g' I M env ρ h' → Xc X M g' h' e (some (rawInt env.locals)) → Q () { s with heap := h' }) : wpAny (model prog w) A (noteFrame (.ref e) env) Q E s := by
  obtain ⟨oe, vs, he, hcl, hd, h1⟩ := x.ob
  obtain ⟨mL, nL⟩ := S.ns
  have nc := C.here S
  obtain ⟨oL, _, _, hoL, hdL, _⟩ := id nL
  obtain ⟨oc, _, _, hoc, hdc, _⟩ := id nc
  have hl : s.heap.FunFrames {} [env, envc] := ⟨F.k1, ⟨_, oL, F.f1, empty_get _, hoL, fun vs q => by rw [hdL] at q; cases q⟩, F.k2, ⟨_, oc, F.f2, empty_get _, hoc, fun vs q => by rw [hdc] at q; cases q⟩, trivial⟩
  unfold noteFrame
  simp only [F.f1]
  refine wpAny_bind (wpAny_field he hd h1 ?_)
  rw [if_neg (by decide)]
  refine wpAny_bind (wpAny_frameOf_fun F.fr hl F.f1 fun h₁ hs₁ => ?_)
  have hfm : [env, envc].filterMap (·.frame) = [env.locals, c] := by simp [F.f1, F.f2]
  rw [hfm] at hs₁
  obtain ⟨g₁, r₁, S₁⟩ := S.slots C hs₁
  have heL : e ≠ env.locals := fun q => ns_fields nL (q ▸ he) hd
  have hec : e ≠ c := fun q => ns_fields nc (q ▸ he) hd
  have he₁ : h₁.get? e = some oe := (hs₁.2.1 e (by simp [heL, hec])).trans he
  refine wpAny_bind (wpAny_entryPlaceOf fun pl hpl => ?_)
  unfold EntryCells.newEntry newFields
  refine wpAny_bind (wpAny_newObj_type ?_ (hpl.sizeOk5 _ _ _ _ _))
  generalize hob : ({ cls := .type "traceback", dict := none, data := .fields ([Value.none, .ref env.locals, .none, rawInt env.locals, .none] ++ (if pl.isEmpty then List.replicate 6 Value.none else pl)).toArray } : Obj) = ot
  have he₂ := Heap.get?_push_of_some (h := h₁) ot he₁
  refine wpAny_setField he₂ hd (Array.getElem?_eq_some_iff.mp h1).1 ?_
  have hTe : h₁.objs.size ≠ e := Nat.ne_of_gt (Heap.lt_size he₁)
  have hd₃ := Obj.data_mapFields hd (·.setIfInBounds 1 (Value.ref h₁.objs.size))
  have S₂ : St hb g₁ I M env ρ (h₁.push ot) := S₁.grow (keep_push ot) fun mL n => ns_push n ot
  have eg₁ : g₁.get? e = none := (r₁.1 e hec).trans x.eg
  have S₃ : St hb g₁ I M env ρ ((h₁.push ot).update e (Obj.mapFields (·.setIfInBounds 1 (Value.ref h₁.objs.size)))) :=
    S₂.off (wr := [e]) (fun b hb' => by simp at hb'; subst hb'; exact ⟨notSeq_fields he₂ hd, x.eM, .inr eg₁⟩) (fun b o hb' e' => by rw [Heap.get?_update_other _ _ (Ne.symm (by simpa using hb'))]; exact e') fun b hb' => by simp at hb'; subst hb'; exact .inl eg₁
  have fresh : h₁.get? h₁.objs.size = none := get_size_none h₁
  have hT : (h₁.push ot).get? h₁.objs.size = some ot := Heap.get?_push_size h₁ (by rw [← hob]; rfl)
  refine k _ g₁ r₁ S₃ ⟨x.eM, eg₁, _, _, Heap.get?_update_self _ he₂ (Obj.isFreed_of_fields hd₃), by rw [Obj.cls_mapFields]; exact hcl, hd₃, h₁.objs.size, ot, _, by simp [(Array.getElem?_eq_some_iff.mp h1).1], fun q => ?_, S₁.gone fresh, hTe, ?_, by rw [← hob], by simp⟩
  · obtain ⟨o, ho⟩ := S₁.ob _ q; rw [fresh] at ho; cases ho
  · rw [Heap.get?_update_other _ _ (Ne.symm hTe)]; exact hT

theorem note_again {X : String} {s : Shared} {e : Addr} {Q : Unit → Shared → Prop} {E : Value → Shared → Prop} (f1 : env.frame = some env.locals) (x : Xc X M g s.heap e (some (rawInt env.locals))) (k : Q () s) : wpAny (model prog w) A (noteFrame (.ref e) env) Q E s := by
  obtain ⟨oe, vs, he, hcl, hd, T, oT, ts, h1, _, _, _, hT, hdT, h3⟩ := x.ob
  exact wpAny_noteFrame_inFlight f1 he hd h1 hT hdT h3 k

theorem set_flight {X : String} {s : Shared} {e : Addr} {f : Value} {fr : Option Addr} {Q : Unit → Shared → Prop} {E : Value → Shared → Prop} (S : St hb g I M env ρ s.heap) (x : Xc X M g s.heap e (some f))
    (k : ∀ h', St hb g I M env ρ h' → Xc X M g h' e (some (fr.elim .none fun a => rawInt a)) → Q () { s with heap := h' }) : wpAny (model prog w) A (setFlight (.ref e) fr) Q E s := by
  obtain ⟨oe, vs, he, hcl, hd, T, oT, ts, h1, hTM, hTg, hTe, hT, hdT, h3⟩ := x.ob
  unfold setFlight
  refine wpAny_bind (wpAny_field he hd h1 ?_)
  rw [if_pos (show (Value.ref T != Value.none) = true from by simp)]
  have hsz : 3 < ts.size := (Array.getElem?_eq_some_iff.mp h3).1
  refine wpAny_setField hT hdT hsz (k _ ?_ ⟨x.eM, x.eg, oe, vs, ?_, hcl, hd, T, _, _, h1, hTM, hTg, hTe, Heap.get?_update_self _ hT (Obj.isFreed_of_fields (Obj.data_mapFields hdT _)), Obj.data_mapFields hdT _, by simp [hsz]⟩)
  · exact S.off (wr := [T]) (fun b hb' => by simp at hb'; subst hb'; exact ⟨notSeq_fields hT hdT, hTM, .inr hTg⟩) (fun b o hb' e' => by rw [Heap.get?_update_other _ _ (Ne.symm (by simpa using hb'))]; exact e') fun b hb' => by simp at hb'; subst hb'; exact .inl hTg
  · rw [Heap.get?_update_other _ _ hTe]; exact he

theorem came_back {X : String} {s : Shared} {e : Addr} {E : Value → Shared → Prop} (f1 : env.frame = some env.locals) (S : St hb g I M env ρ s.heap) (x : Xc X M g s.heap e (some (rawInt env.locals)))
    (k : ∀ h', St hb g I M env ρ h' → Xc X M g h' e (some (rawInt env.locals)) → E (.ref e) { s with heap := h' }) : cameBackBy (model prog w) A env E (.ref e) s := by
  obtain ⟨oe, vs, he, hcl, hd, T, oT, ts, h1, hTM, hTg, hTe, hT, hdT, h3⟩ := x.ob
  unfold cameBackBy
  refine wpAny_bind (wpAny_field he hd h1 ?_)
  rw [if_neg (show ¬ ((Value.ref T == Value.none) = true) from by simp)]
  have step : wpAny (model prog w) A (setFlight (.ref e) env.frame) (fun _ s'' => E (.ref e) s'') E s := by
    rw [f1]; exact set_flight (fr := some env.locals) S x k
  first
    | exact step
    | exact wpAny_bind (wpAny_pure step)
end

/-- e is raised, of class X, in the frame's state, D of the store -/
noncomputable def Raised (s : Shared) (hb g : Heap) (I M : List Addr) (env : Env) (c : Addr) (mc : Str → Option Value) (X : String) (D : Store → Prop) : Value → Shared → Prop := fun v s₁ =>
  ∃ e h tk g' ρ fl, v = .ref e ∧ s₁ = { s with heap := h, toks := tk } ∧ Rg c mc g g' ∧ St hb g' I M env ρ h ∧ Xc X M g' h e fl ∧ (fl = none ∨ fl = some (rawInt env.locals)) ∧ D ρ

section
variable {prog : Program} {w : World} {A : Around} {hb g g' h h' : Heap} {I M : List Addr} {env envc : Env} {ρ : Store} {c : Addr} {mc : Str → Option Value} {K : Frag} {s : Shared} {X : String} {D : Store → Prop}

/-- a raise is noted: the state goes on -/
theorem Raised.note {v : Value} {s₁ : Shared} {Q : Unit → Shared → Prop} {E : Value → Shared → Prop} (F : Fm A env envc c) (C : Cx hb g I M env c mc) (r : Raised s hb g I M env c mc X D v s₁)
    (k : ∀ e h tk g' ρ, v = .ref e → Rg c mc g g' → St hb g' I M env ρ h → Xc X M g' h e (some (rawInt env.locals)) → D ρ → Q () { s with heap := h, toks := tk }) : wpAny (model prog w) A (noteFrame v env) Q E s₁ := by
  obtain ⟨e, h, tk, g', ρ, fl, rfl, rfl, h3, h4, h5, h6, h7⟩ := r
  rcases h6 with rfl | rfl
  · exact note_new (s := { s with heap := h, toks := tk }) F h4 (C.rg h3) h5 fun h₁ g₁ r₁ S₁ x₁ => k e h₁ tk g₁ ρ rfl (h3.trans r₁) S₁ x₁ h7
  · exact note_again (s := { s with heap := h, toks := tk }) F.f1 h5 (k e h tk g' ρ rfl h3 h4 h5 h7)
theorem Raised.noted {A' : Around} {v : Value} {s₁ : Shared} (F : Fm A env envc c) (C : Cx hb g I M env c mc) (r : Raised s hb g I M env c mc X D v s₁) :
    notedBy (model prog w) A env (cameBackBy (model prog w) A' env (Raised s hb g I M env c mc X D)) v s₁ := by
  unfold notedBy
  refine r.note F C fun e h tk g' ρ hv h3 S x hD => ?_
  subst hv
  exact came_back (s := { s with heap := h, toks := tk }) F.f1 S x fun h' S' x' => ⟨e, h', tk, g', ρ, _, rfl, rfl, h3, S', x', .inr rfl, hD⟩

/-- a new exception is one that is raised -/
theorem Raised.new {h' : Heap} {tk : Nat} {e : Addr} (S : St hb g I M env ρ s.heap) (C : Cx hb g I M env c mc) (x : Heap.NewExc s.heap h' e X) (hD : D ρ) : Raised s hb g I M env c mc X D (.ref e) { s with heap := h', toks := tk } := by
  obtain ⟨ob, t, h1, h2, h3⟩ := x.there
  have S' : St hb g I M env ρ h' := S.grow (fun b o _ e => x.keeps b o e) fun mL n => n.keeps x.keeps
  refine ⟨e, h', tk, g, ρ, none, rfl, rfl, .refl C.n, S', ⟨fun q => ?_, S.gone x.new, ob, _, h1, h2, h3, rfl⟩, .inl rfl, hD⟩
  obtain ⟨o, ho⟩ := S.ob e q
  rw [x.new] at ho; cases ho

/-- except: the clause is gone into -/
theorem Raised.caught {n : Str} {v : Value} {s₁ : Shared} {suite : List Stmt} {b₀ : Stmt} {pn pos : Pos} {Q : Flow → Shared → Prop} {E : Value → Shared → Prop} (B : BaseOk K hb) (F : Fm A env envc c) (C : Cx hb g I M env c mc) (r : Raised s hb g I M env c mc X D v s₁)
    (hexc : isSubtype (.type X) (.type "BaseException") = pure true) (hnt : isSubtype (.type ((Manifest.find? X).elim "type" fun x => x.metatype)) (.type "tuple") = pure false) (hsub : isSubtype (.type X) (.type X) = pure true)
    (hf : glb env.scope n = true) (hg : nsIn K mainGlobals n = some none) (hv : bootBuiltins n = some (.type X)) (hnn : n ≠ "__name__")
    (k : ∀ e h tk g' ρ E', Rg c mc g g' → St hb g' I M env ρ h → D ρ → wpAny (model prog w) (A.mark (some (.ref e))) (execs (b₀ :: suite) env) Q E' { s with heap := h, toks := tk }) :
    wpAny (model prog w) A (noteFrame v env) (fun _ s₂ => wpAny (model prog w) A (setFlight v none) (fun _ s₃ => wpAny (model prog w) A (handleBy v env [.ExceptHandler (some (.Name n pn)) none (b₀ :: suite) pos]) Q E s₃) E s₂) E s₁ := by
  refine r.note F C fun e h tk g' ρ hv' h3 S x hD => ?_
  subst hv'
  refine set_flight (s := { s with heap := h, toks := tk }) (fr := none) S x fun h₁ S₁ x₁ => ?_
  refine wpAny_handleBy_builtin (X := X) (T := X) (b := true) hexc hnt hsub ?_
  refine St.blt (s := { s with heap := h₁, toks := tk }) B S₁ hf hg hv hnn ⟨rfl, x₁.typeIs, ?_⟩
  rw [if_pos rfl]
  exact set_flight (s := { s with heap := h₁, toks := tk }) (fr := none) S₁ x₁ fun h₂ S₂ x₂ => k e h₂ tk g' ρ _ h3 S₂ hD
end
end Oh

-- OhEb
namespace Oh
open PySem PySem.W PyProof.Rows PySem.SeqAt PySem.Calls PySem.MeetsSeq
open PySem.AutoSeq1 (wpAny_loadPart')

/-! ## list.remove, by what the items are in the heap -/
theorem rem_loop (l : Addr) (items : Array Value) (n : Nat) (x : Value) (e : Value → Bool) (j : Nat) (hj : j < items.size) (hit : e items[j] = true) (k : Nat) (hs1 : items.size ≤ sizeLine) :
    ∀ i : Nat, j - i = k → i ≤ j → (∀ m (hm : m < items.size), i ≤ m → m < j → e items[m] = false) → Meets (Builtin.«list.remove.loop» ⟨[.ref l, x, rawInt i], []⟩)
      (fun A R s => s.heap.get? l = some { cls := .type "list", dict := none, data := .seq items n, slots := #[] } ∧ (∀ y, y ∈ items → EqAt A.in1 s y x (e y)) ∧ R (.ok (.ret .none)) { s with heap := s.heap.update l (Obj.mapSeq fun xs => xs.eraseIdxIfInBounds j) }) := by
  induction k with
  | zero =>
    intro i hk hij hno prog w A R s h
    obtain ⟨hp, g, d, tk, os⟩ := s; obtain ⟨hl, he, h⟩ := h
    have hij' : i = j := Nat.le_antisymm hij (Nat.le_of_sub_eq_zero hk)
    subst hij'
    wp_walk using wpAny_loadPart' hl
    have hi : items[((i : Nat) : Int).toNat]? = some items[i] := by simp [hj]
    rw [hi]
    refine wpAny_bind (he _ (Array.getElem_mem hj) prog w _ _ ?_)
    rw [hit]
    have hz' : (items.eraseIdxIfInBounds i).size ≤ sizeLine + 1 := Nat.le_trans (size_erased items _) (Nat.le_succ_of_le hs1)
    wp_walk using (wpAny_updateSeq hl rfl (hz := hs1) (_hz' := hz')), wpAny_loadPart' hl
    simpa using h
  | succ k ih =>
    intro i hk hij hno prog w A R s h
    obtain ⟨hp, g, d, tk, os⟩ := s; obtain ⟨hl, he, h⟩ := h
    have hlt : i < items.size := Nat.lt_trans (om_next hk).1 hj
    wp_walk using wpAny_loadPart' hl
    have hi : items[((i : Nat) : Int).toNat]? = some items[i] := by simp [hlt]
    have hc : ((i : Int) + 1) = ((i + 1 : Nat) : Int) := by push_cast; rfl
    rw [hi]
    refine wpAny_bind (he _ (Array.getElem_mem hlt) prog w _ _ ?_)
    rw [hno i hlt (Nat.le_refl _) (om_next hk).1]
    wp_walk
    rw [hc]
    exact ⟨plainId_quiet plain_remove_loop _, codeAny_builtin entry_remove_loop (by
      rw [Around.under_plainId plain_remove_loop _]
      exact ih (i + 1) (om_next hk).2 (om_next hk).1 (fun m hm h1 h2 => hno m hm (Nat.le_of_succ_le h1) h2) prog w A R _ ⟨hl, he, h⟩)⟩
theorem rem_at (l : Addr) (items : Array Value) (n : Nat) (x : Value) (e : Value → Bool) (j : Nat) (hj : j < items.size) (hit : e items[j] = true) (hno : ∀ m (hm : m < items.size), m < j → e items[m] = false) (hs1 : items.size ≤ sizeLine) :
    Meets (Builtin.«list.remove» ⟨[.ref l, x], []⟩)
      (fun A R s => s.heap.get? l = some { cls := .type "list", dict := none, data := .seq items n, slots := #[] } ∧ (∀ y, y ∈ items → EqAt A.in1 s y x (e y)) ∧ R (.ok (.ret .none)) { s with heap := s.heap.update l (Obj.mapSeq fun xs => xs.eraseIdxIfInBounds j) }) := by
  intro prog w A R s h
  obtain ⟨hp, g, d, tk, os⟩ := s; obtain ⟨hl, he, h⟩ := h
  wp_walk using wpAny_loadPart' hl
  exact ⟨plainId_quiet plain_remove_loop _, codeAny_builtin entry_remove_loop (by
    rw [Around.under_plainId plain_remove_loop _]
    exact rem_loop l items n x e j hj hit _ hs1 0 rfl (Nat.zero_le _) (fun m hm _ h2 => hno m hm h2) prog w A R _ ⟨hl, he, h⟩)⟩
theorem rem_loop_none (l : Addr) (items : Array Value) (n : Nat) (x : Value) (e : Value → Bool) (hno : ∀ m (hm : m < items.size), e items[m] = false) (k : Nat) :
    ∀ i : Nat, items.size - i = k → Meets (Builtin.«list.remove.loop» ⟨[.ref l, x, rawInt i], []⟩)
      (fun A R s => s.heap.get? l = some { cls := .type "list", dict := none, data := .seq items n, slots := #[] } ∧ (∀ y, y ∈ items → EqAt A.in1 s y x (e y)) ∧ raisesNew "ValueError" A R s) := by
  induction k with
  | zero =>
    intro i hk prog w A R s h
    obtain ⟨hp, g, d, tk, os⟩ := s; obtain ⟨hl, he, h⟩ := h
    wp_walk using wpAny_loadPart' hl
    have hi : items[((i : Nat) : Int).toNat]? = none := by simp; omega
    rw [hi]
    wp_walk
    exact_raiseError plainExc_ValueError h.1 h.2
  | succ k ih =>
    intro i hk prog w A R s h
    obtain ⟨hp, g, d, tk, os⟩ := s; obtain ⟨hl, he, h⟩ := h
    have hlt : i < items.size := (om_next hk).1
    wp_walk using wpAny_loadPart' hl
    have hi : items[((i : Nat) : Int).toNat]? = some items[i] := by simp [hlt]
    have hc : ((i : Int) + 1) = ((i + 1 : Nat) : Int) := by push_cast; rfl
    rw [hi]
    refine wpAny_bind (he _ (Array.getElem_mem hlt) prog w _ _ ?_)
    rw [hno i hlt]
    wp_walk
    rw [hc]
    exact ⟨plainId_quiet plain_remove_loop _, codeAny_builtin entry_remove_loop (by
      rw [Around.under_plainId plain_remove_loop _]
      exact ih (i + 1) (om_next hk).2 prog w A R _ ⟨hl, he, h⟩)⟩
theorem rem_none (l : Addr) (items : Array Value) (n : Nat) (x : Value) (e : Value → Bool) (hno : ∀ m (hm : m < items.size), e items[m] = false) :
    Meets (Builtin.«list.remove» ⟨[.ref l, x], []⟩)
      (fun A R s => s.heap.get? l = some { cls := .type "list", dict := none, data := .seq items n, slots := #[] } ∧ (∀ y, y ∈ items → EqAt A.in1 s y x (e y)) ∧ raisesNew "ValueError" A R s) := by
  intro prog w A R s h
  obtain ⟨hp, g, d, tk, os⟩ := s; obtain ⟨hl, he, h⟩ := h
  wp_walk using wpAny_loadPart' hl
  exact ⟨plainId_quiet plain_remove_loop _, codeAny_builtin entry_remove_loop (by
    rw [Around.under_plainId plain_remove_loop _]
    exact rem_loop_none l items n x e hno _ 0 rfl prog w A R _ ⟨hl, he, h⟩)⟩

/-- where x is first, in ds -/
noncomputable def posD (d : PyData) : List PyData → Option Nat
  | [] => none
  | y :: ys => if PyData.eqv y d then some 0 else (posD d ys).map (· + 1)
theorem posD_none {d : PyData} : ∀ {ds : List PyData}, posD d ds = none → ∀ y ∈ ds, PyData.eqv y d = false
  | [], _, y, hy => nomatch hy
  | z :: zs, h, y, hy => by
    unfold posD at h
    by_cases q : PyData.eqv z d = true
    · rw [if_pos q] at h; cases h
    · rw [if_neg q, Option.map_eq_none_iff] at h
      rcases List.mem_cons.mp hy with rfl | hy
      · simpa using q
      · exact posD_none h y hy
theorem posD_some {d : PyData} : ∀ {ds : List PyData} {j : Nat}, posD d ds = some j → ∃ hj : j < ds.length, PyData.eqv ds[j] d = true ∧ ∀ m (hm : m < ds.length), m < j → PyData.eqv ds[m] d = false
  | [], j, h => nomatch h
  | z :: zs, j, h => by
    unfold posD at h
    by_cases q : PyData.eqv z d = true
    · rw [if_pos q] at h; cases h; exact ⟨by simp, q, fun m hm h => by omega⟩
    · rw [if_neg q, Option.map_eq_some_iff] at h
      obtain ⟨i, hi, rfl⟩ := h
      obtain ⟨h1, h2, h3⟩ := posD_some hi
      refine ⟨by simp; omega, by simpa using h2, fun m hm hlt => ?_⟩
      cases m with
      | zero => simpa using q
      | succ m => simpa using h3 m (by simpa using hm) (by omega)

section
variable {prog : Program} {w : World} {A : Around} {hb g g' h h' : Heap} {I M : List Addr} {env envc : Env} {ρ : Store} {c : Addr} {mc : Str → Option Value} {K : Frag} {s : Shared} {X : String} {D : Store → Prop}

/-- x.remove(e): the first is gone, or ValueError -/
theorem x_remove {x : Str} {px apos cpos pos : Pos} {e : PySem.Expr} {a : Addr} {cs : List PyData} {d : PyData} {rest : List Stmt} {s : Shared} {Q : Flow → Shared → Prop} {E : Value → Shared → Prop} (S : St hb g I M env ρ s.heap) (hh : A.handled = none) (hu : A.units + 65 < cLine)
    (hx : lcl env.scope x = true) (hl : ρ.lookup x = some (.own a cs)) (h : PE prog w A hb g I M env ρ e d) (hd : ∀ y ∈ cs, y.depth ≤ 64) (hz : cs.length ≤ sizeLine)
    (k : ∀ j, posD d cs = some j → ∀ h' tk, St hb g I M env ((x, .own a (cs.eraseIdx j)) :: ρ) h' → wpAny (model prog w) A (execs rest env) Q E { s with heap := h', toks := tk })
    (ko : posD d cs = none → ∀ h' h'' tk' e, St hb g I M env ρ h' → Heap.NewExc h' h'' e "ValueError" → E (.ref e) { s with heap := h'', toks := tk' })
    (hline : (apos.endLine == cpos.line) = true := by rfl) (hst : starEach [e] env = [(false, eval e env)] := by rfl) (hi : interactive env = false := by rfl) :
    wpAny (model prog w) A (execs (.Expr (.Call (.Attribute (.Name x px) "remove" apos) [e] [] cpos) pos :: rest) env) Q E s := by
  refine x_skip (wpAny_Expr ?_ hi rfl)
  obtain ⟨v, ⟨e', _, _, ws, l, _⟩, h0⟩ := S.load (prog := prog) (w := w) (A := A) hx hl
  cases e'
  refine Call_method1 rfl hst hline (wpAny_Name' (lcl_debug hx) (h0 _ _ ?_))
  refine list_meth l F.slot_list_remove F.type_list_remove (callWith_m1 (EvS.use h S fun u h₁ tk₁ k₁ S₁ r₁ => ?_))
  obtain ⟨m, _, sok⟩ := S₁.names
  obtain ⟨_, haM, _, ws₁, l₁, q₁⟩ := sok x _ hl
  obtain ⟨n, e₁⟩ := id l₁
  have hlen := q₁.length
  have heq : ∀ y, y ∈ ws₁.toArray → EqAt A.in1 { s with heap := h₁, toks := tk₁ } y u (PyData.eqv (datOf M h₁ y) d) := fun y hy => by
    obtain ⟨dy, hdy, ry⟩ := q₁.reads_mem y (by simpa using hy)
    rw [datOf_eq ry]
    exact eqAt_rep hu (hd _ hdy) ry.o r₁.o
  have hdat : ∀ j (hj : j < ws₁.length) (hj' : j < cs.length), datOf M h₁ ws₁[j] = cs[j] := fun j hj hj' => by
    have := q₁.map_datOf
    have h2 : (ws₁.map (datOf M h₁))[j]? = cs[j]? := by rw [this]
    rw [List.getElem?_map, List.getElem?_eq_getElem hj, List.getElem?_eq_getElem hj'] at h2
    simpa using h2
  cases hp : posD d cs with
  | none =>
    refine call_meets F.slot_list_remove ⟨_, e₁, rfl⟩ F.entry_list_remove (F.args_list_remove_2 _ _) (rem_none a ws₁.toArray n u (fun y => PyData.eqv (datOf M h₁ y) d) fun j hj => ?_) ⟨e₁, heq, hh, fun h₂ tk₂ e₂ x₂ => ko hp h₁ h₂ tk₂ e₂ S₁ x₂⟩
    have hj' : j < cs.length := by simpa [hlen] using hj
    rw [List.getElem_toArray, hdat j (by simpa using hj) hj']
    exact posD_none hp _ (List.getElem_mem hj')
  | some j =>
    obtain ⟨hj, j1, j2⟩ := posD_some hp
    have hjw : j < ws₁.length := by omega
    refine call_meets F.slot_list_remove ⟨_, e₁, rfl⟩ F.entry_list_remove (F.args_list_remove_2 _ _) (rem_at a ws₁.toArray n u (fun y => PyData.eqv (datOf M h₁ y) d) j (by simpa using hjw) ?_ (fun m hm hlt => ?_) (by simpa [hlen] using hz)) ⟨e₁, heq, ?_⟩
    · rw [List.getElem_toArray, hdat j hjw hj]; exact j1
    · have hm' : m < ws₁.length := by simpa using hm
      rw [List.getElem_toArray, hdat m hm' (by omega)]; exact j2 m (by omega) hlt
    · obtain ⟨u1, u2⟩ := lst_update l₁ (fun xs => xs.eraseIdxIfInBounds j)
      have ks := keep_sameBut u2
      refine ⟨rfl, k j hp _ _ (S₁.mut hl ks (ns_sameBut ks l₁) u1 ?_)⟩
      have kM : KeepM M h₁ (h₁.update a (Obj.mapSeq fun xs => xs.eraseIdxIfInBounds j)) := ks.sub fun y hy => by simp at hy; rw [hy]; exact haM
      have e2 : (ws₁.toArray.eraseIdxIfInBounds j).toList = ws₁.take j ++ ws₁.drop (j + 1) := by
        rw [Array.eraseIdxIfInBounds, dif_pos (by simpa using hjw), Array.toList_eraseIdx, List.eraseIdx_eq_take_drop_succ]
      rw [e2, List.eraseIdx_eq_take_drop_succ]
      exact ((q₁.take j).append (q₁.drop (j + 1))).keep kM

/-- x.extend(e), e a list -/
theorem x_extend {x : Str} {px apos cpos pos : Pos} {e : PySem.Expr} {a : Addr} {cs ds : List PyData} {rest : List Stmt} {s : Shared} {Q : Flow → Shared → Prop} {E : Value → Shared → Prop} (S : St hb g I M env ρ s.heap)
    (hx : lcl env.scope x = true) (hl : ρ.lookup x = some (.own a cs)) (h : PE prog w A hb g I M env ρ e (.list ds)) (hz : cs.length + ds.length ≤ 1000)
    (k : ∀ h' tk, St hb g I M env ((x, .own a (cs ++ ds)) :: ρ) h' → wpAny (model prog w) A (execs rest env) Q E { s with heap := h', toks := tk })
    (hline : (apos.endLine == cpos.line) = true := by rfl) (hst : starEach [e] env = [(false, eval e env)] := by rfl) (hi : interactive env = false := by rfl) :
    wpAny (model prog w) A (execs (.Expr (.Call (.Attribute (.Name x px) "extend" apos) [e] [] cpos) pos :: rest) env) Q E s := by
  refine x_skip (wpAny_Expr ?_ hi rfl)
  obtain ⟨v, ⟨e', _, _, ws, l, _⟩, h0⟩ := S.load (prog := prog) (w := w) (A := A) hx hl
  cases e'
  refine Call_method1 rfl hst hline (wpAny_Name' (lcl_debug hx) (h0 _ _ ?_))
  refine list_meth l F.slot_list_extend F.type_list_extend (callWith_m1 (EvS.use h S fun u h₁ tk₁ k₁ S₁ r₁ => ?_))
  obtain ⟨m, _, sok⟩ := S₁.names
  obtain ⟨_, haM, _, ws₁, l₁, q₁⟩ := sok x _ hl
  obtain ⟨n, e₁⟩ := id l₁
  cases r₁ with
  | @list b us _ hbM lb rb => ?_
  obtain ⟨n2, e₂⟩ := id lb
  have hl1 := q₁.length
  have hl2 := rb.length
  refine call_meets F.slot_list_extend ⟨_, e₁, rfl⟩ F.entry_list_extend (F.args_list_extend_2 _ _) (PySem.AutoSeq1.list_extend_list_list_0 a ws₁.toArray n b us.toArray n2 ?_ ?_ ?_) ⟨e₁, e₂, ?_⟩
  · simp [Builtin.List.listTooLong, sizeLine]; intro _; omega
  · simp [sizeLine]; omega
  · simp [sizeLine]; omega
  · obtain ⟨u1, u2⟩ := lst_update l₁ (fun xs => xs ++ us.toArray)
    have ks := keep_sameBut u2
    have kM : KeepM M h₁ (h₁.update a (Obj.mapSeq fun xs => xs ++ us.toArray)) := ks.sub fun y hy => by simp at hy; rw [hy]; exact haM
    refine ⟨rfl, k _ _ (S₁.mut hl ks (ns_sameBut ks l₁) u1 ?_)⟩
    simpa using (q₁.append rb).keep kM

/-- while, by a measure; a turn may raise and catch -/
theorem x_whileG {test : PySem.Expr} {body : List Stmt} {pos : Pos} {rest : List Stmt} {s : Shared} {Q : Flow → Shared → Prop} {E : Value → Shared → Prop} (J : Nat → Store → Prop) (Z : Store → Prop) (n : Nat) (S : St hb g I M env ρ s.heap) (C : Cx hb g I M env c mc) (h0 : J n ρ)
    (turn : ∀ (n : Nat) (ρ : Store) (g' : Heap), Cx hb g' I M env c mc → J n ρ → ∃ b, PT prog w A hb g' I M env ρ test b ∧ (b = false → Z ρ) ∧
      (b = true → ∀ (h : Heap) (tk : Nat) (E' : Value → Shared → Prop) (Q' : Flow → Shared → Prop), (∀ f h' tk' ρ' g'', Rg c mc g' g'' → St hb g'' I M env ρ' h' → (((f = .next ∨ f = .cont) ∧ ∃ m, m < n ∧ J m ρ') ∨ (f = .brk ∧ Z ρ')) → Q' f { s with heap := h', toks := tk' }) → St hb g' I M env ρ h → wpAny (model prog w) A (execs body env) Q' E' { s with heap := h, toks := tk }))
    (k : ∀ ρ' h' tk g', Z ρ' → Rg c mc g g' → St hb g' I M env ρ' h' → wpAny (model prog w) A (execs rest env) Q E { s with heap := h', toks := tk }) :
    wpAny (model prog w) A (execs (.While test body [] pos :: rest) env) Q E s := by
  refine wpAny_execs_cons (wpAny_While ?_)
  refine codeAny_whileLoop (fun n s' => ∃ h tk ρ g', s' = { s with heap := h, toks := tk } ∧ J n ρ ∧ Rg c mc g g' ∧ St hb g' I M env ρ h) ?_ n ⟨s.heap, s.toks, ρ, g, rfl, h0, .refl C.n, S⟩
  rintro n s' ⟨h, tk, ρ, g', rfl, hJ, hr, S⟩
  obtain ⟨b, ht, hz, hb⟩ := turn n ρ g' (C.rg hr) hJ
  refine EvS.use (s := { s with heap := h, toks := tk }) ht S fun r h₁ tk₁ _ S₁ e => ?_
  subst e
  cases r with
  | false => exact wpAny_execs_nil (k ρ h₁ tk₁ g' (hz rfl) hr S₁)
  | true =>
    refine hb rfl h₁ tk₁ _ _ (fun f h' tk' ρ' g'' hr' S' q => ?_) S₁
    rcases q with ⟨(rfl | rfl), m, hm, hJ'⟩ | ⟨rfl, hZ⟩
    · exact ⟨m, hm, h', tk', ρ', g'', rfl, hJ', hr.trans hr', S'⟩
    · exact ⟨m, hm, h', tk', ρ', g'', rfl, hJ', hr.trans hr', S'⟩
    · exact k ρ' h' tk' g'' hZ (hr.trans hr') S'
end
end Oh

-- OhEc
namespace Oh
open PySem PySem.W PyProof.Rows PySem.SeqAt PySem.Calls PySem.MeetsSeq

section
variable {prog : Program} {w : World} {A : Around} {hb g g' h h' : Heap} {I M : List Addr} {env envc : Env} {ρ : Store} {c : Addr} {mc : Str → Option Value} {K : Frag} {s : Shared} {X : String} {D : Store → Prop}
/-- try: body, except X: suite -/
theorem x_tryE {n : Str} {body suite rest : List Stmt} {b₀ : Stmt} {pn pos tp : Pos} {Q : Flow → Shared → Prop} {E : Value → Shared → Prop} (B : BaseOk K hb) (F : Fm A env envc c) (C : Cx hb g I M env c mc)
    (hexc : isSubtype (.type X) (.type "BaseException") = pure true) (hnt : isSubtype (.type ((Manifest.find? X).elim "type" fun x => x.metatype)) (.type "tuple") = pure false) (hsub : isSubtype (.type X) (.type X) = pure true)
    (hf : glb env.scope n = true) (hg : nsIn K mainGlobals n = some none) (hv : bootBuiltins n = some (.type X)) (hnn : n ≠ "__name__")
    (hbody : wpAny (model prog w) A (execs body env) (fun f s₁ => match f with | .next => wpAny (model prog w) A (execs rest env) Q E s₁ | f => Q f s₁) (Raised s hb g I M env c mc X D) s)
    (k : ∀ e h tk g' ρ E', Rg c mc g g' → St hb g' I M env ρ h → D ρ → wpAny (model prog w) (A.mark (some (.ref e))) (execs (b₀ :: suite) env) (fun f s₁ => match f with | .next => wpAny (model prog w) A (execs rest env) Q E s₁ | f => Q f s₁) E' { s with heap := h, toks := tk }) :
    wpAny (model prog w) A (execs (.Try body [.ExceptHandler (some (.Name n pn)) none (b₀ :: suite) pos] [] [] tp :: rest) env) Q E s := by
  refine wpAny_execs_cons (wpAny_Try_except (wpAny_mono hbody (fun f s₁ q => ?_) fun v s₁ r => r.caught B F C hexc hnt hsub hf hg hv hnn k))
  cases f <;> first | exact wpAny_execs_nil q | exact q
end
theorem exc_ValueError : isSubtype (.type "ValueError") (.type "BaseException") = pure true ∧ isSubtype (.type ((Manifest.find? "ValueError").elim "type" fun x => x.metatype)) (.type "tuple") = pure false ∧ isSubtype (.type "ValueError") (.type "ValueError") = pure true := ⟨by rfl, by rfl, by rfl⟩
theorem exc_IndexError : isSubtype (.type "IndexError") (.type "BaseException") = pure true ∧ isSubtype (.type ((Manifest.find? "IndexError").elim "type" fun x => x.metatype)) (.type "tuple") = pure false ∧ isSubtype (.type "IndexError") (.type "IndexError") = pure true := ⟨by rfl, by rfl, by rfl⟩

/-! ## unorderable_list_difference -/
noncomputable def uldStep (st : List PyData × List PyData) (d : PyData) : List PyData × List PyData := match posD d st.1 with | some j => (st.1.eraseIdx j, st.2) | none => (st.1, st.2 ++ [d])
noncomputable def uldF (xs ys : List PyData) : List PyData × List PyData := xs.reverse.foldl uldStep (ys, [])
/-- a def that turns two new lists, and may note its caller's frame -/
noncomputable def FnU (prog : Program) (w : World) (hb : Heap) (lv : Nat) (f : Addr) (P : List PyData → List PyData → PyData → Prop) : Prop :=
  ∀ (A : Around) (s : Shared) (M : List Addr) (envc : Env) (c : Addr) (mc : Str → Option Value) (a b : Addr) (ws vs : List Value) (xs ys : List PyData) (d : PyData), P xs ys d → Rm lv A → A.frames = some [envc] → envc.frame = some c → envc.scope.kind ≠ .module →
    s.heap.Ns c mc → hb.get? c = none → c ∈ M → KeepM [] hb s.heap → (∀ a ∈ M, ∃ o, s.heap.get? a = some o) → a ≠ b → a ∉ M → b ∉ M → hb.get? a = none → hb.get? b = none →
    LstAt s.heap a ws → LstAt s.heap b vs → RepL (a :: b :: M) s.heap ws xs → RepL (a :: b :: M) s.heap vs ys →
    ∀ (Q : Value → Shared → Prop) (E : Value → Shared → Prop), (∀ v h' tk, KeepM [c, a, b] s.heap h' → h'.Ns c mc → Rep M h' v d → Q v { s with heap := h', toks := tk }) → wpAny (model prog w) A (call (.ref f) [.ref a, .ref b]) Q E s

section
variable {prog : Program} {w : World} {hb : Heap}
set_option maxHeartbeats 2000000 in
theorem uld_ok (B : BaseOk (KF w.params) hb) : FnU prog w hb 1 97 (fun xs ys d => xs.length < 64 ∧ ys.length < 64 ∧ (∀ y ∈ ys, y.depth ≤ 64) ∧ d = .tuple [.list (uldF xs ys).2, .list (uldF xs ys).1]) := by
  intro A s M envc c mc a b ws vs xs ys d hP R hfr hfc hkc nc hcb hcM hk0 hM hab haM hbM hba hbb la lb ra rb Q E k
  obtain ⟨lx, ly, dy, rfl⟩ := hP
  have oI0 : ∀ (x y : Str) (a' : Addr) (ds es : List PyData), List.lookup x ([("expected", .own a xs), ("actual", .own b ys)] : Store) = some (.own a' ds) → List.lookup y ([("expected", .own a xs), ("actual", .own b ys)] : Store) = some (.own a' es) → x = y := by
    intro x y a' ds es h1 h2
    have h1 := lookup_mem h1
    have h2 := lookup_mem h2
    simp only [List.mem_cons, Prod.mk.injEq, List.not_mem_nil, or_false, Slot.own.injEq] at h1 h2
    rcases h1 with ⟨rfl, rfl, _⟩ | ⟨rfl, rfl, _⟩ <;> rcases h2 with ⟨rfl, e2, _⟩ | ⟨rfl, e2, _⟩
    · rfl
    · exact absurd e2 hab
    · exact absurd e2.symm hab
    · rfl
  refine enter (I := [a, b]) (M := a :: b :: M) (fd := fdOf w.params 97) (body := bodyOf w.params 97) (binds := [("expected", .ref a), ("actual", .ref b)]) (ρ := [("expected", .own a xs), ("actual", .own b ys)]) B hk0 R.depth rfl rfl rfl rfl rfl rfl rfl
    (fun y hy => ?_) (fun y hy => ?_) (fun z sl hz => ?_) oI0 ?_
  · simp only [List.mem_cons, List.not_mem_nil, or_false] at hy; rcases hy with rfl | rfl <;> assumption
  · simp only [List.mem_cons] at hy
    rcases hy with rfl | rfl | hy
    · obtain ⟨n, e⟩ := la; exact ⟨_, e⟩
    · obtain ⟨n, e⟩ := lb; exact ⟨_, e⟩
    · exact hM y hy
  · have hz := lookup_mem hz
    simp only [List.mem_cons, Prod.mk.injEq, List.not_mem_nil, or_false] at hz
    rcases hz with ⟨rfl, rfl⟩ | ⟨rfl, rfl⟩
    · exact ⟨.ref a, fun L => rfl, rfl, by simp, .inl (by simp), ws, la, ra⟩
    · exact ⟨.ref b, fun L => rfl, rfl, by simp, .inl (by simp), vs, lb, rb⟩
  intro L h₁ tk Mc hMc hMn S
  have R' : Rm 0 (A.deeper (envF (fdOf w.params 97) 97 L)) := R.deeper _
  have F : Fm (A.deeper (envF (fdOf w.params 97) 97 L)) (envF (fdOf w.params 97) 97 L) envc c := ⟨Around.frames_deeper hfr, rfl, hfc, (by rw [S.kind]; decide), hkc⟩
  have hca : c ≠ a := fun q => ns_not_list nc la.isList q.symm
  have hcb' : c ≠ b := fun q => ns_not_list nc lb.isList q.symm
  have hcL : c ≠ (envF (fdOf w.params 97) 97 L).locals := fun q => by
    obtain ⟨o, ho⟩ := ns_ob nc
    rcases S.L1 with z | z
    · rw [← q] at z; simp [hca, hcb'] at z
    · rw [← q, ho] at z; cases z
  have C0 : ∀ Mx : List Addr, c ∈ Mx → Cx hb s.heap [a, b] Mx (envF (fdOf w.params 97) 97 L) c mc := fun Mx hx => ⟨nc, by simp [hca, hcb'], hcL, hx, hcb⟩
  refine x_assignF (x := "missing") (ds := []) S (pf_list pes_nil (by decide)) rfl fun m h tk hga haN S => ?_
  have hmM : m ∉ M := fun q => by obtain ⟨o, ho⟩ := hM m q; rw [hga] at ho; cases ho
  have fin : ∀ (xs' : List PyData) (x : PyData) (st : List PyData × List PyData), (xs' ++ [x]).reverse.foldl uldStep st = xs'.reverse.foldl uldStep (uldStep st x) := fun xs' x st => by simp
  refine x_whileG (fun n ρ => ∃ (xs' : List PyData) (st : List PyData × List PyData), Ow ρ "expected" a xs' ∧ Ow ρ "actual" b st.1 ∧ Ow ρ "missing" m st.2 ∧ xs'.length = n ∧ xs'.reverse.foldl uldStep st = uldF xs ys ∧ (∀ y ∈ st.1, y.depth ≤ 64) ∧ st.1.length < 64 ∧ st.2.length + xs'.length < 64)
    (fun ρ => Ow ρ "actual" b (uldF xs ys).1 ∧ Ow ρ "missing" m (uldF xs ys).2) xs.length S (C0 _ (by simp [hMc c (by simp [hcM])])) ⟨xs, (ys, []), rfl, rfl, rfl, rfl, rfl, dy, ly, by simpa using lx⟩ ?_ ?_
  · rintro n ρ g' C ⟨xs', st, h1, h2, h3, h4, h5, h6, h7, h8⟩
    refine ⟨_, pt_list (po_own rfl h1) (by omega), fun hz => ?_, fun hz h tk E' Q' kk S => ?_⟩
    · have : xs' = [] := by simpa using hz
      subst this
      simp only [List.reverse_nil, List.foldl_nil] at h5
      rw [← h5]; exact ⟨h2, h3⟩
    · obtain ⟨cs, d, rfl⟩ : ∃ cs d, xs' = cs ++ [d] := ⟨_, _, last_split (by simpa using hz)⟩
      rw [fin] at h5
      simp only [List.length_append, List.length_cons, List.length_nil] at h4 h8
      refine x_assign (x := "item") S (evx_pop rfl h1 (by unfold sizeLine; omega)) rfl fun h tk S => ?_
      have j1 : Ow ((("item" : Str), Slot.frz d) :: (("expected" : Str), Slot.own a cs) :: ρ) "expected" a cs := rfl
      have j2 : Ow ((("item" : Str), Slot.frz d) :: (("expected" : Str), Slot.own a cs) :: ρ) "actual" b st.1 := (lookup_cons_ne (by decide)).trans ((lookup_cons_ne (by decide)).trans h2)
      have j3 : Ow ((("item" : Str), Slot.frz d) :: (("expected" : Str), Slot.own a cs) :: ρ) "missing" m st.2 := (lookup_cons_ne (by decide)).trans ((lookup_cons_ne (by decide)).trans h3)
      obtain ⟨x1, x2, x3⟩ := exc_ValueError
      refine x_tryE (X := "ValueError") (D := fun ρ' => ρ' = (("item" : Str), Slot.frz d) :: (("expected" : Str), Slot.own a cs) :: ρ ∧ posD d st.1 = none) (s := { s with heap := h, toks := tk }) B F C x1 x2 x3 rfl rfl rfl (by decide) ?_ ?_
      · refine x_remove (x := "actual") S R'.hh R'.units rfl j2 (pe_name rfl rfl) h6 (by unfold sizeLine; omega) (fun j hj h' tk' S' => x_nil (x_nil ?_)) fun hn h' h'' tk' e S' x => ?_
        · have es : uldStep st d = (st.1.eraseIdx j, st.2) := by unfold uldStep; rw [hj]
          rw [es] at h5
          refine kk _ h' tk' _ g' (.refl C.n) S' (.inl ⟨.inl rfl, cs.length, by omega, cs, _, ?_, rfl, ?_, rfl, h5, fun y hy => h6 y (List.mem_of_mem_eraseIdx hy), ?_, by show st.2.length + cs.length < 64; omega⟩)
          · exact (lookup_cons_ne (by decide)).trans j1
          · exact (lookup_cons_ne (by decide)).trans j3
          · exact Nat.lt_of_le_of_lt (List.length_eraseIdx_le _ _) h7
        · exact Raised.new (s := { s with heap := h', toks := tk' }) S' C x ⟨rfl, hn⟩
      · rintro e h' tk' g'' ρ' E'' rg S' ⟨rfl, hn⟩
        have es : uldStep st d = (st.1, st.2 ++ [d]) := by unfold uldStep; rw [hn]
        rw [es] at h5
        refine x_append (x := "missing") S' rfl j3 (PE.x (pe_name rfl rfl)) j3 (by unfold sizeLine; omega) fun h' tk' S' => x_nil (x_nil ?_)
        refine kk _ h' tk' _ g'' rg S' (.inl ⟨.inl rfl, cs.length, by omega, cs, _, ?_, ?_, rfl, rfl, h5, h6, h7, by simp; omega⟩)
        · exact (lookup_cons_ne (by decide)).trans j1
        · exact (lookup_cons_ne (by decide)).trans j2
  · rintro ρ h tk g' ⟨h1, h2⟩ rg S
    have S1 := S.freeze h2 rfl
    have h1' : Ow ((("missing" : Str), Slot.frz (.list (uldF xs ys).2)) :: ρ) "actual" b (uldF xs ys).1 := (lookup_cons_ne (by decide)).trans h1
    have S2 := S1.freeze h1' rfl
    refine x_return (s := { s with heap := h, toks := tk }) S2 (PE.x (pe_tuple (pes_cons (pe_name rfl rfl) (pes_cons (pe_name rfl rfl) pes_nil)) (by simp [sizeLine]))) fun v h' tk' S3 r => ?_
    refine k v h' tk' (fun x o hx e => ?_) ?_ (r.sub fun x hx => ?_)
    · simp only [List.mem_cons, List.not_mem_nil, or_false, not_or] at hx
      exact S3.kg x o (by simp [hx.2.1, hx.2.2]) ((rg.1 x hx.1).trans e)
    · obtain ⟨o, es, ep, ho, r⟩ := rg.2
      exact ⟨o, es, ep, S3.kg c o (by simp [hca, hcb']) ho, r⟩
    · refine List.mem_filter.mpr ⟨List.mem_filter.mpr ⟨List.mem_cons_of_mem _ (hMc x (by simp [hx])), ?_⟩, ?_⟩
      · simp; intro q; rw [q] at hx; exact hmM hx
      · simp; intro q; rw [q] at hx; exact hbM hx
end
end Oh

-- OhEd
namespace Oh
open PySem PySem.W PyProof.Rows PySem.SeqAt PySem.Calls PySem.MeetsSeq

/-- behind the items that are e, from i on -/
noncomputable def skipD (xs : List PyData) (e : PyData) (i : Nat) : Nat := i + ((xs.drop i).takeWhile fun y => PyData.eqv y e).length
theorem skipD_le {xs : List PyData} {e : PyData} {i : Nat} (h : i ≤ xs.length) : i ≤ skipD xs e i ∧ skipD xs e i ≤ xs.length := by
  unfold skipD
  have := (List.takeWhile_sublist (l := xs.drop i) fun y => PyData.eqv y e).length_le
  simp only [List.length_drop] at this
  omega
theorem skipD_yes {xs : List PyData} {e : PyData} {i : Nat} (h : i < xs.length) (he : PyData.eqv (xs.getD i .none) e = true) : skipD xs e i = skipD xs e (i + 1) := by
  unfold skipD
  rw [List.drop_eq_getElem_cons h]
  rw [List.getD_eq_getElem?_getD, List.getElem?_eq_getElem h] at he
  simp only [Option.getD_some] at he
  rw [List.takeWhile_cons, if_pos he]
  simp; omega
theorem skipD_no {xs : List PyData} {e : PyData} {i : Nat} (h : i < xs.length) (he : PyData.eqv (xs.getD i .none) e = false) : skipD xs e i = i := by
  unfold skipD
  rw [List.drop_eq_getElem_cons h]
  rw [List.getD_eq_getElem?_getD, List.getElem?_eq_getElem h] at he
  simp only [Option.getD_some] at he
  rw [List.takeWhile_cons, if_neg (by simp [he])]
  simp

section
variable {prog : Program} {w : World} {A : Around} {hb g g' h h' : Heap} {I M : List Addr} {env envc : Env} {ρ : Store} {c : Addr} {mc : Str → Option Value} {K : Frag} {s : Shared} {X : String} {D : Store → Prop}
theorem Fm.mark (F : Fm A env envc c) (e : Option Value) : Fm (A.mark e) env envc c := ⟨F.fr, F.f1, F.f2, F.k1, F.k2⟩
theorem pt_true {k : Nat} {p : Pos} : PT prog w A hb g I M env ρ (.Constant (.bool true) k p) true :=
  pt_val (PE.po pe_bool) (fun s v Q E r k => by rw [r.bool]; exact wpAny_truthy_bool (by simpa using k s.toks)) rfl

/-- x = y = e -/
theorem x_assign2 {x y : Str} {px py pos : Pos} {e : PySem.Expr} {d : PyData} {rest : List Stmt} {s : Shared} {Q : Flow → Shared → Prop} {E : Value → Shared → Prop} (S : St hb g I M env ρ s.heap) (h : PE prog w A hb g I M env ρ e d) (hx : lcw env x = true) (hy : lcw env y = true)
    (k : ∀ h' tk, St hb g I M env ((y, .frz d) :: (x, .frz d) :: ρ) h' → wpAny (model prog w) A (execs rest env) Q E { s with heap := h', toks := tk })
    (he : (assignEach [.Name x px, .Name y py] env).map (·.2) = [assign (.Name x px) env, assign (.Name y py) env] := by rfl) (hw : swappedStores [.Name x px, .Name y py] e env = pure none := by rfl) :
    wpAny (model prog w) A (execs (.Assign [.Name x px, .Name y py] e pos :: rest) env) Q E s := by
  refine x_skip (wpAny_Assign_two (EvS.use h S fun v h₁ tk₁ k₁ S₁ r₁ => ?_) he hw)
  refine takes_nameT hx ρ { s with heap := h₁, toks := tk₁ } v S₁ r₁ _ _ fun h₂ tk₂ k₂ S₂ => ?_
  exact takes_nameT hy _ { s with heap := h₂, toks := tk₂ } v S₂ (r₁.keep k₂) _ _ fun h₃ tk₃ k₃ S₃ => ⟨rfl, k h₃ tk₃ S₃⟩

/-- an item that is not there -/
theorem raise_idx {o i : PySem.Expr} {ds : List PyData} {k : Int} {p : Pos} {s : Shared} {Q : Value → Shared → Prop} {E : Value → Shared → Prop} (hh : A.handled = none) (S : St hb g I M env ρ s.heap) (ho : PO prog w A hb g I M env ρ o (.list ds)) (hi : PO prog w A hb g I M env ρ i (.int k)) (hk : (ds.length : Int) ≤ k) (hz : k < 2 ^ 63)
    (hs : (match i with | .Slice .. => false | _ => true) = true) (kE : ∀ h' h'' tk e, St hb g I M env ρ h' → Heap.NewExc h' h'' e "IndexError" → E (.ref e) { s with heap := h'', toks := tk }) : wpAny (model prog w) A (eval (.Subscript o i p) env) Q E s := by
  refine Subscript_ (EvS.use ho S fun u h₁ tk₁ k₁ S₁ r₁ => EvS.use (s := { s with heap := h₁, toks := tk₁ }) hi S₁ fun v h₂ tk₂ k₂ S₂ r₂ => ?_)
  obtain ⟨t, rfl⟩ := r₂.int
  have r₁' := S₁.o k₂ r₁
  obtain ⟨a, vs, rfl, l, q⟩ := r₁'.list
  refine tail_any l.isList.typeIs slot_list_getitem.lookup (wpAny_getItem_list_out hh l.isList (.inr (by simpa [q.length] using hk)) (by omega) hz fun h₃ tk₃ e x => kE h₂ h₃ tk₃ e S₂ x) (subscr_of hs)

/-- while xs[k] == e: k += 1 -/
theorem x_skipW {xn kn en : Str} {p1 p2 p3 p4 p5 p6 p7 p8 pos : Pos} {kk : Nat} {xs : List PyData} {d : PyData} {k : Nat} {rest : List Stmt} {s : Shared} {Q : Flow → Shared → Prop} (S : St hb g I M env ρ s.heap) (F : Fm A env envc c) (C : Cx hb g I M env c mc) (hu : A.units + 64 < cLine)
    (hx : lcl env.scope xn = true) (hk : lcw env kn = true) (he : lcl env.scope en = true) (hne1 : xn ≠ kn) (hne2 : en ≠ kn) (h1 : Fz ρ xn (.list xs)) (h2 : Fz ρ kn (.int k)) (h3 : Fz ρ en d) (hkl : k ≤ xs.length) (hz : xs.length < 2 ^ 20) (hd : ∀ y ∈ xs, y.depth ≤ 64) (hdd : d.depth ≤ 64)
    (hh : A.handled = none ∨ skipD xs d k < xs.length)
    (kc : skipD xs d k < xs.length → ∀ ρ' h' tk, (∀ x, x ≠ kn → ρ'.lookup x = ρ.lookup x) → Fz ρ' kn (.int (skipD xs d k)) → St hb g I M env ρ' h' → wpAny (model prog w) A (execs rest env) Q (Raised s hb g I M env c mc "IndexError" D) { s with heap := h', toks := tk })
    (ke : skipD xs d k = xs.length → ∀ ρ', (∀ x, x ≠ kn → ρ'.lookup x = ρ.lookup x) → Fz ρ' kn (.int xs.length) → D ρ') :
    wpAny (model prog w) A (execs (.While (.Compare (.Subscript (.Name xn p1) (.Name kn p2) p3) [.Eq] [.Name en p4] p5) [.AugAssign (.Name kn p6) .Add (.Constant (.int 1) kk p7) p8] [] pos :: rest) env) Q (Raised s hb g I M env c mc "IndexError" D) s := by
  refine wpAny_execs_cons (wpAny_While ?_)
  refine codeAny_whileLoop (fun n s' => ∃ h tk ρ' i, s' = { s with heap := h, toks := tk } ∧ i + n = xs.length ∧ skipD xs d i = skipD xs d k ∧ (∀ x, x ≠ kn → ρ'.lookup x = ρ.lookup x) ∧ Fz ρ' kn (.int (i : Int)) ∧ St hb g I M env ρ' h) ?_ (xs.length - k) ⟨s.heap, s.toks, ρ, k, rfl, by omega, rfl, fun _ _ => rfl, h2, S⟩
  rintro n s' ⟨h, tk, ρ', i, rfl, hn, hsk, hρ, hi, S⟩
  have g1 : Fz ρ' xn (.list xs) := (hρ xn hne1).trans h1
  have g3 : Fz ρ' en d := (hρ en hne2).trans h3
  by_cases hil : i < xs.length
  · have xm := getD_mem (es := xs) (p := i) hil
    have xg := getD_some (es := xs) (p := i) hil
    have ht : PT prog w A hb g I M env ρ' (.Compare (.Subscript (.Name xn p1) (.Name kn p2) p3) [.Eq] [.Name en p4] p5) (PyData.eqv (xs.getD i .none) d) :=
      pt_cmp (PE.po (pe_idxL (k := (i : Int)) (d := xs.getD i .none) (PE.po (pe_name hx g1)) (PE.po (pe_name (lcw_l hk) hi)) (by omega) (by rw [Int.toNat_natCast]; exact xg) (by omega) rfl)) (PE.po (pe_name he g3)) rfl (fun s u v Q E ru rv h => cm_eq hu (hd _ xm) hdd ru rv h)
    refine EvS.use (s := { s with heap := h, toks := tk }) ht S fun r h₁ tk₁ _ S₁ e => ?_
    subst e
    cases hr : PyData.eqv (xs.getD i .none) d with
    | false =>
      have e1 : skipD xs d k = i := by rw [← hsk]; exact skipD_no hil hr
      exact wpAny_execs_nil (kc (by omega) ρ' h₁ tk₁ hρ (by rw [e1]; exact hi) S₁)
    | true =>
      have e1 := skipD_yes hil hr
      refine x_augI (s := { s with heap := h₁, toks := tk₁ }) S₁ hk hi (PE.po pe_int) fun h₂ tk₂ S₂ => x_nil ?_
      refine ⟨n - 1, by omega, h₂, tk₂, _, i + 1, rfl, by omega, e1.symm.trans hsk, fun x hx => (lookup_cons_ne hx).trans (hρ x hx), ?_, S₂⟩
      show List.lookup kn _ = _
      rw [lookup_cons_self]; rfl
  · have e0 : i = xs.length := by omega
    have e1 : skipD xs d i = xs.length := by have := skipD_le (xs := xs) (e := d) (i := i) (by omega); omega
    have hh' : A.handled = none := hh.resolve_right (by omega)
    refine wpAny_isTrue_Compare1 (raise_idx (s := { s with heap := h, toks := tk }) hh' S (PE.po (pe_name hx g1)) (PE.po (pe_name (lcw_l hk) hi)) (by omega) (by omega) rfl fun h₁ h₂ tk₂ e S₁ x => ?_) rfl
    refine Raised.noted F C (Raised.new (s := { s with heap := h₁, toks := tk₂ }) S₁ C x ?_)
    rw [e0] at hi
    exact ke (by omega) ρ' hρ hi

/-- the frame's own addresses -/
noncomputable def ownJ (env : Env) (ρ : Store) : List Addr := env.locals :: ρ.filterMap fun p => match ρ.lookup p.1 with | some (.own a _) => some a | _ => none
/-- try: body, finally: final (the final block raises nothing new behind a raise) -/
theorem x_finally {body final rest : List Stmt} {f₀ : Stmt} {tp : Pos} {Q : Flow → Shared → Prop} {D' : Store → Prop} (F : Fm A env envc c) (C : Cx hb g I M env c mc) (hcells : env.cells = [])
    (hbody : wpAny (model prog w) A (execs body env) (fun f s₁ => f = .next ∧ wpAny (model prog w) A (execs (f₀ :: final) env) (fun f' s₂ => f' = .next ∧ wpAny (model prog w) A (execs rest env) Q (Raised s hb g I M env c mc X D) s₂) (Raised s hb g I M env c mc X D) s₁) (Raised s hb g I M env c mc X D') s)
    (hfin : ∀ e h tk ρ J g' E', Cx hb g' J M env c mc → St hb g' J M env ρ h → D' ρ → wpAny (model prog w) (A.mark (some (.ref e))) (execs (f₀ :: final) env) (fun f s₂ => f = .next ∧ ∃ h' tk' ρ', s₂ = { s with heap := h', toks := tk' } ∧ St hb g' J M env ρ' h' ∧ D ρ') E' { s with heap := h, toks := tk }) :
    wpAny (model prog w) A (execs (.Try body [] [] (f₀ :: final) tp :: rest) env) Q (Raised s hb g I M env c mc X D) s := by
  refine wpAny_execs_cons (wpAny_Try_finally (wpAny_mono hbody (fun f s₁ q => ?_) fun v s₁ r => ?_))
  · obtain ⟨rfl, q⟩ := q
    refine wpAny_execs_nil (wpAny_mono q (fun f' s₂ q' => ?_) fun v s₂ r => r.noted F C)
    obtain ⟨rfl, q'⟩ := q'
    exact q'
  · refine r.note F C fun e h tk g' ρ hv h3 S x hD => ?_
    subst hv
    refine ⟨ref_ne_byPass e, note_again (s := { s with heap := h, toks := tk }) F.f1 x (set_flight (s := { s with heap := h, toks := tk }) (fr := none) S x fun h₁ S₁ x₁ => ?_)⟩
    have C₁ := C.rg h3
    obtain ⟨mL, nL⟩ := S₁.ns
    have nc := C₁.here S₁
    obtain ⟨m, nm, sok⟩ := S₁.names
    have jown : ∀ y a ds, ρ.lookup y = some (.own a ds) → a ∈ ownJ env ρ := fun y a ds hy => List.mem_cons_of_mem _ (List.mem_filterMap.mpr ⟨_, lookup_mem hy, by simp only [hy]⟩)
    have jcase : ∀ a ∈ ownJ env ρ, a = env.locals ∨ ∃ y ds, ρ.lookup y = some (.own a ds) := fun a ha => by
      rcases List.mem_cons.mp ha with rfl | ha
      · exact .inl rfl
      · obtain ⟨⟨y, sl⟩, _, hy⟩ := List.mem_filterMap.mp ha
        simp only at hy
        cases hl : ρ.lookup y with
        | none => rw [hl] at hy; cases hy
        | some sl' =>
          rw [hl] at hy
          cases sl' with
          | frz d => cases hy
          | own a' ds => cases hy; exact .inr ⟨y, ds, hl⟩
    have jM : ∀ a ∈ ownJ env ρ, a ∈ M := fun a ha => by
      rcases jcase a ha with rfl | ⟨y, ds, hy⟩
      · exact S₁.LM
      · exact (sok y _ hy).2.1
    have jI : ∀ a ∈ ownJ env ρ, a ∈ I ∨ g'.get? a = none := fun a ha => by
      rcases jcase a ha with rfl | ⟨y, ds, hy⟩
      · exact S₁.L1
      · exact (sok y _ hy).2.2.1
    have jb : ∀ a ∈ ownJ env ρ, hb.get? a = none := fun a ha => by
      cases hq : hb.get? a with
      | none => rfl
      | some o => exact (ne_of_kept (jI a ha) (S₁.bg a o hq).2 (S₁.bg a o hq).1 rfl).elim
    have S₂ := S₁.rebaseTo (I' := ownJ env ρ) jb (List.mem_cons_self ..) (fun _ x c' hc => by rw [hcells] at hc; cases hc) jown
    have C₂ : Cx hb h₁ (ownJ env ρ) M env c mc := ⟨nc, fun q => by
      rcases jcase c q with z | ⟨y, ds, hy⟩
      · exact C.cL z
      · obtain ⟨_, _, _, vs, l, _⟩ := sok y _ hy
        exact ns_not_list nc l.isList rfl, C.cL, C.cM, C.cb⟩
    refine wpAny_mono (hfin e h₁ tk ρ (ownJ env ρ) h₁ _ C₂ S₂ hD) (fun f s₂ q => ?_) fun _ _ x => x
    obtain ⟨rfl, h₂, tk₂, ρ₂, rfl, S₃, hD₂⟩ := q
    have S₄ : St hb g' I M env ρ₂ h₂ := S₁.back S₃ jI
    obtain ⟨oe, vs, he, hcl, hd, T, oT, ts, h1, hTM, hTg, hTe, hT, hdT, h3'⟩ := x₁.ob
    have he₂ := S₃.kg e oe (fun q => x₁.eM (jM e q)) he
    have hT₂ := S₃.kg T oT (fun q => hTM (jM T q)) hT
    have x₂ : Xc X M g' h₂ e (some ((none : Option Addr).elim .none fun a => rawInt a)) := ⟨x₁.eM, x₁.eg, oe, vs, he₂, hcl, hd, T, oT, ts, h1, hTM, hTg, hTe, hT₂, hdT, h3'⟩
    show wpAny _ _ (PySem.passOn "try.finally" (.ref e) env) _ _ _
    unfold PySem.passOn
    refine wpAny_bind (wpAny_field he₂ hd h1 ?_)
    rw [if_neg (show ¬ ((Value.ref T == Value.none) = true) from by simp)]
    have step : ∀ (Q' : Flow → Shared → Prop), wpAny (model prog w) A (setFlight (.ref e) env.frame >>= fun _ => (throw (.ref e) : Sem Flow)) Q' (Raised s hb g I M env c mc X D) { s with heap := h₂, toks := tk₂ } := fun Q' => by
      rw [F.f1]
      exact wpAny_bind (set_flight (s := { s with heap := h₂, toks := tk₂ }) (fr := some env.locals) S₄ x₂ fun h₃ S₅ x₃ => wpAny_throw ⟨e, h₃, tk₂, g', ρ₂, _, rfl, rfl, h3, S₅, x₃, .inr rfl, hD₂⟩)
    first
      | exact step _
      | exact wpAny_bind (wpAny_pure (step _))
end
end Oh

-- OhEe
namespace Oh
open PySem PySem.W PyProof.Rows PySem.SeqAt PySem.Calls PySem.MeetsSeq

/-! ## sorted_list_difference -/
noncomputable def sldF (xs ys : List PyData) : Nat → Nat → Nat → List PyData → List PyData → List PyData × List PyData
  | 0, i, j, m, u => (m ++ xs.drop i, u ++ ys.drop j)
  | f + 1, i, j, m, u => if i < xs.length ∧ j < ys.length then
      (if pyC false (xs.getD i .none) (ys.getD j .none) then sldF xs ys f (skipD xs (xs.getD i .none) (i + 1)) j (m ++ [xs.getD i .none]) u
      else if pyC true (xs.getD i .none) (ys.getD j .none) then sldF xs ys f i (skipD ys (ys.getD j .none) (j + 1)) m (u ++ [ys.getD j .none])
      else sldF xs ys f (skipD xs (xs.getD i .none) (i + 1)) (skipD ys (ys.getD j .none) (j + 1)) m u)
    else (m ++ xs.drop i, u ++ ys.drop j)
noncomputable def sld (xs ys : List PyData) : List PyData × List PyData := sldF xs ys (xs.length + ys.length) 0 0 [] []
theorem sldF_end {xs ys : List PyData} {n i j : Nat} {m u : List PyData} (h : ¬ (i < xs.length ∧ j < ys.length)) : sldF xs ys n i j m u = (m ++ xs.drop i, u ++ ys.drop j) := by
  cases n with
  | zero => rfl
  | succ n => unfold sldF; rw [if_neg h]
/-- not both at once end with the same item -/
noncomputable def NoBoth (xs ys : List PyData) : Prop := ∀ i j, i < xs.length → j < ys.length → pyC false (xs.getD i .none) (ys.getD j .none) = false → pyC true (xs.getD i .none) (ys.getD j .none) = false →
  skipD xs (xs.getD i .none) (i + 1) = xs.length → skipD ys (ys.getD j .none) (j + 1) < ys.length

/-- a def that changes nothing, and may note its caller's frame -/
noncomputable def FnR (prog : Program) (w : World) (hb : Heap) (lv : Nat) (f : Addr) (P : List PyData → PyData → Prop) : Prop :=
  ∀ (A : Around) (s : Shared) (M : List Addr) (envc : Env) (c : Addr) (mc : Str → Option Value) (vs : List Value) (ds : List PyData) (d : PyData), P ds d → Rm lv A → A.frames = some [envc] → envc.frame = some c → envc.scope.kind ≠ .module →
    s.heap.Ns c mc → hb.get? c = none → c ∈ M → KeepM [] hb s.heap → (∀ a ∈ M, ∃ o, s.heap.get? a = some o) → RepL M s.heap vs ds →
    ∀ (Q : Value → Shared → Prop) (E : Value → Shared → Prop), (∀ v h' tk, KeepM [c] s.heap h' → h'.Ns c mc → Rep M h' v d → Q v { s with heap := h', toks := tk }) → wpAny (model prog w) A (call (.ref f) vs) Q E s

structure SlS (xs ys : List PyData) (p q : Addr) (i j : Nat) (m u : List PyData) (ρ : Store) : Prop where
  fx : Fz ρ "expected" (.list xs)
  fy : Fz ρ "actual" (.list ys)
  fi : Fz ρ "i" (.int (i : Int))
  fj : Fz ρ "j" (.int (j : Int))
  fm : Ow ρ "missing" p m
  fu : Ow ρ "unexpected" q u
  il : i ≤ xs.length
  jl : j ≤ ys.length
  ml : m.length ≤ i
  ul : u.length ≤ j
theorem SlS.other {xs ys : List PyData} {p q : Addr} {i j : Nat} {m u : List PyData} {ρ : Store} {z : Str} {sl : Slot} (S : SlS xs ys p q i j m u ρ) (hz : ∀ n ∈ (["expected", "actual", "i", "j", "missing", "unexpected"] : List Str), n ≠ z) : SlS xs ys p q i j m u ((z, sl) :: ρ) where
  fx := (lookup_cons_ne (hz _ (by simp))).trans S.fx
  fy := (lookup_cons_ne (hz _ (by simp))).trans S.fy
  fi := (lookup_cons_ne (hz _ (by simp))).trans S.fi
  fj := (lookup_cons_ne (hz _ (by simp))).trans S.fj
  fm := (lookup_cons_ne (hz _ (by simp))).trans S.fm
  fu := (lookup_cons_ne (hz _ (by simp))).trans S.fu
  il := S.il
  jl := S.jl
  ml := S.ml
  ul := S.ul
theorem SlS.seti {xs ys : List PyData} {p q : Addr} {i i' j : Nat} {m u : List PyData} {ρ ρ' : Store} (S : SlS xs ys p q i j m u ρ) (h : ∀ x : Str, x ≠ "i" → ρ'.lookup x = ρ.lookup x) (hi : Fz ρ' "i" (.int (i' : Int))) (h1 : i' ≤ xs.length) (h2 : m.length ≤ i') : SlS xs ys p q i' j m u ρ' where
  fx := (h _ (by decide)).trans S.fx
  fy := (h _ (by decide)).trans S.fy
  fi := hi
  fj := (h _ (by decide)).trans S.fj
  fm := (h _ (by decide)).trans S.fm
  fu := (h _ (by decide)).trans S.fu
  il := h1
  jl := S.jl
  ml := h2
  ul := S.ul
theorem SlS.setj {xs ys : List PyData} {p q : Addr} {i j j' : Nat} {m u : List PyData} {ρ ρ' : Store} (S : SlS xs ys p q i j m u ρ) (h : ∀ x : Str, x ≠ "j" → ρ'.lookup x = ρ.lookup x) (hj : Fz ρ' "j" (.int (j' : Int))) (h1 : j' ≤ ys.length) (h2 : u.length ≤ j') : SlS xs ys p q i j' m u ρ' where
  fx := (h _ (by decide)).trans S.fx
  fy := (h _ (by decide)).trans S.fy
  fi := (h _ (by decide)).trans S.fi
  fj := hj
  fm := (h _ (by decide)).trans S.fm
  fu := (h _ (by decide)).trans S.fu
  il := S.il
  jl := h1
  ml := S.ml
  ul := h2

theorem SlS.putm {xs ys : List PyData} {p q : Addr} {i j : Nat} {m u : List PyData} {ρ : Store} {x : PyData} (S : SlS xs ys p q i j m u ρ) (h : i < xs.length) : SlS xs ys p q (i + 1) j (m ++ [x]) u (("i", .frz (.int ((i : Int) + 1))) :: ("missing", .own p (m ++ [x])) :: ρ) where
  fx := (lookup_cons_ne (by decide)).trans ((lookup_cons_ne (by decide)).trans S.fx)
  fy := (lookup_cons_ne (by decide)).trans ((lookup_cons_ne (by decide)).trans S.fy)
  fi := rfl
  fj := (lookup_cons_ne (by decide)).trans ((lookup_cons_ne (by decide)).trans S.fj)
  fm := rfl
  fu := (lookup_cons_ne (by decide)).trans ((lookup_cons_ne (by decide)).trans S.fu)
  il := h
  jl := S.jl
  ml := by have := S.ml; simp; omega
  ul := S.ul
theorem SlS.putu {xs ys : List PyData} {p q : Addr} {i j : Nat} {m u : List PyData} {ρ : Store} {x : PyData} (S : SlS xs ys p q i j m u ρ) (h : j < ys.length) : SlS xs ys p q i (j + 1) m (u ++ [x]) (("j", .frz (.int ((j : Int) + 1))) :: ("unexpected", .own q (u ++ [x])) :: ρ) where
  fx := (lookup_cons_ne (by decide)).trans ((lookup_cons_ne (by decide)).trans S.fx)
  fy := (lookup_cons_ne (by decide)).trans ((lookup_cons_ne (by decide)).trans S.fy)
  fi := (lookup_cons_ne (by decide)).trans ((lookup_cons_ne (by decide)).trans S.fi)
  fj := rfl
  fm := (lookup_cons_ne (by decide)).trans ((lookup_cons_ne (by decide)).trans S.fm)
  fu := rfl
  il := S.il
  jl := h
  ml := S.ml
  ul := by have := S.ul; simp; omega
theorem agree1 {ρ : Store} {z : Str} {sl : Slot} : ∀ x : Str, x ≠ z → List.lookup x ((z, sl) :: ρ) = ρ.lookup x := fun x hx => lookup_cons_ne hx

/-- the state where the end is met -/
noncomputable def slD (xs ys : List PyData) (p q : Addr) (ρ : Store) : Prop := ∃ i j m u, SlS xs ys p q i j m u ρ ∧ (m ++ xs.drop i, u ++ ys.drop j) = sld xs ys
section
variable {prog : Program} {w : World} {hb : Heap}
set_option maxHeartbeats 4000000 in
theorem sld_ok (B : BaseOk (KF w.params) hb) : FnR prog w hb 1 90 (fun ds d => ∃ xs ys : List PyData, ds = [.list xs, .list ys] ∧ xs.length < 64 ∧ ys.length < 64 ∧ Gd (xs ++ ys) ∧ NoBoth xs ys ∧ d = .tuple [.list (sld xs ys).1, .list (sld xs ys).2]) := by
  intro A s M envc c mc vs ds d hP R hfr hfc hkc nc hcb hcM hk0 hM rv Q E k
  obtain ⟨xs, ys, rfl, lx, ly, gd, nb, rfl⟩ := hP
  cases rv with | cons r1 rv => ?_
  cases rv with | cons r2 rv => ?_
  cases rv
  refine enter2 (fd := fdOf w.params 90) (body := bodyOf w.params 90) (x := "expected") (y := "actual") (by decide) B hk0 R.depth rfl rfl rfl rfl rfl rfl rfl hM (fun L => rfl) (fun L => rfl) r1 r2 ?_
  intro L h₁ tk Mc hMc hMn S
  have R' : Rm 0 (A.deeper (envF (fdOf w.params 90) 90 L)) := R.deeper _
  have F : Fm (A.deeper (envF (fdOf w.params 90) 90 L)) (envF (fdOf w.params 90) 90 L) envc c := ⟨Around.frames_deeper hfr, rfl, hfc, (by rw [S.kind]; decide), hkc⟩
  have hcL : c ≠ (envF (fdOf w.params 90) 90 L).locals := fun q => by
    obtain ⟨o, ho⟩ := ns_ob nc
    rcases S.L1 with z | z
    · cases z
    · rw [← q, ho] at z; cases z
  have hdx : ∀ y ∈ xs, y.depth ≤ 64 := fun y hy => gd.2 y (List.mem_append.mpr (.inl hy))
  have hdy : ∀ y ∈ ys, y.depth ≤ 64 := fun y hy => gd.2 y (List.mem_append.mpr (.inr hy))
  refine x_assign2 (x := "i") (y := "j") S pe_int rfl rfl fun h tk S => ?_
  refine x_assignF (x := "missing") (ds := []) S (pf_list pes_nil (by decide)) rfl fun p h tk hgp hpN S => ?_
  refine x_assignF (x := "unexpected") (ds := []) S (pf_list pes_nil (by decide)) rfl fun q h tk hgq hqN S => ?_
  have hpM : p ∉ M := fun z => by obtain ⟨o, ho⟩ := hM p z; rw [hgp] at ho; cases ho
  have hqM : q ∉ M := fun z => by obtain ⟨o, ho⟩ := hM q z; rw [hgq] at ho; cases ho
  have C : Cx hb s.heap [] (q :: p :: Mc) (envF (fdOf w.params 90) 90 L) c mc := ⟨nc, by simp, hcL, by simp [hMc c hcM], hcb⟩
  refine x_whileG (fun n ρ => ∃ i j m u, SlS xs ys p q i j m u ρ ∧ (xs.length - i) + (ys.length - j) ≤ n ∧ sldF xs ys n i j m u = sld xs ys) (fun ρ => Ow ρ "missing" p (sld xs ys).1 ∧ Ow ρ "unexpected" q (sld xs ys).2) (xs.length + ys.length) S C
    ⟨0, 0, [], [], ⟨rfl, rfl, rfl, rfl, rfl, rfl, by simp, by simp, by simp, by simp⟩, by omega, rfl⟩ ?_ ?_
  · rintro n ρ g' C ⟨i, j, m, u, hS, hn, hR⟩
    refine ⟨true, pt_true, (fun hz => by cases hz), fun _ h tk E' Q' kk S => ?_⟩
    obtain ⟨x1, x2, x3⟩ := exc_IndexError
    refine x_tryE (X := "IndexError") (D := slD xs ys p q) (s := { s with heap := h, toks := tk }) B F C x1 x2 x3 rfl rfl rfl (by decide) ?_ ?_
    · by_cases hi : i < xs.length
      · have xm := getD_mem (es := xs) (p := i) hi
        have xg := getD_some (es := xs) (p := i) hi
        refine x_assign (x := "e") (d := xs.getD i .none) S (PE.x (pe_idxL (PE.po (pe_name rfl hS.fx)) (PE.po (pe_name rfl hS.fi)) (by omega) (by rw [Int.toNat_natCast]; exact xg) (by omega) rfl)) rfl fun h tk S => ?_
        have hS := hS.other (z := "e") (sl := .frz (xs.getD i .none)) (by decide)
        by_cases hj : j < ys.length
        · have ym := getD_mem (es := ys) (p := j) hj
          have yg := getD_some (es := ys) (p := j) hj
          have he1 : Fz (("e", .frz (xs.getD i .none)) :: ρ) "e" (xs.getD i .none) := rfl
          refine x_assign (x := "a") (d := ys.getD j .none) S (PE.x (pe_idxL (PE.po (pe_name rfl hS.fy)) (PE.po (pe_name rfl hS.fj)) (by omega) (by rw [Int.toNat_natCast]; exact yg) (by omega) rfl)) rfl fun h tk S => ?_
          have hS := hS.other (z := "a") (sl := .frz (ys.getD j .none)) (by decide)
          obtain ⟨n', rfl⟩ : ∃ n', n = n' + 1 := ⟨n - 1, by omega⟩
          unfold sldF at hR
          rw [if_pos ⟨hi, hj⟩] at hR
          have nb' := nb i j hi hj
          have he : Fz (("a", .frz (ys.getD j .none)) :: ("e", .frz (xs.getD i .none)) :: ρ) "e" (xs.getD i .none) := rfl
          have ha : Fz (("a", .frz (ys.getD j .none)) :: ("e", .frz (xs.getD i .none)) :: ρ) "a" (ys.getD j .none) := rfl
          generalize hx : xs.getD i .none = x at *
          generalize hy : ys.getD j .none = y at *
          generalize hρ : (("a", .frz y) :: ("e", .frz x) :: ρ : Store) = ρ₁ at *
          have cok : cmpOk x y = true := gd.1 x (List.mem_append.mpr (.inl xm)) y (List.mem_append.mpr (.inr ym))
          have sx := skipD_le (xs := xs) (e := x) (i := i + 1) (by omega)
          have sy := skipD_le (xs := ys) (e := y) (i := j + 1) (by omega)
          have ml := hS.ml
          have ul := hS.ul
          refine x_if (b := pyC false x y) S (pt_cmp (PE.po (pe_name rfl he)) (PE.po (pe_name rfl ha)) rfl (fun s u v Q E ru rv h => cm_lt R'.units' (hdx x xm) cok ru rv h)) fun h tk S => ?_
          cases hlt : pyC false x y with
          | true =>
            rw [hlt, if_pos rfl] at hR
            refine x_append (x := "missing") S rfl hS.fm (PE.x (pe_name rfl he)) hS.fm (by unfold sizeLine; omega) fun h tk S => ?_
            refine x_augI S rfl ((lookup_cons_ne (by decide)).trans hS.fi) (PE.po pe_int) fun h tk S => ?_
            have hS := hS.putm (x := x) hi
            refine x_skipW (xn := "expected") (kn := "i") (en := "e") (xs := xs) (d := x) (k := i + 1) S F C R'.units' rfl rfl rfl (by decide) (by decide) hS.fx hS.fi ((lookup_cons_ne (by decide)).trans ((lookup_cons_ne (by decide)).trans he)) (by omega) (by omega) hdx (hdx x xm) (.inl R'.hh) (fun hs ρ' h' tk' hρ' hk S' => x_nil (x_nil (x_nil ?_))) fun hs ρ' hρ' hk => ?_
            · exact kk _ h' tk' ρ' g' (.refl C.n) S' (.inl ⟨.inl rfl, n', Nat.lt_succ_self _, _, j, _, u, hS.seti hρ' hk sx.2 (Nat.le_trans hS.ml sx.1), om_two hn hi sx.1, hR⟩)
            · rw [hs] at hR
              exact ⟨xs.length, j, _, u, hS.seti hρ' hk (by omega) (by have := hS.ml; omega), by rw [← hR, sldF_end (by omega)]⟩
          | false =>
            rw [hlt, if_neg (by decide)] at hR
            refine x_if (b := pyC true x y) S (pt_cmp (PE.po (pe_name rfl he)) (PE.po (pe_name rfl ha)) rfl (fun s u v Q E ru rv h => cm_gt R'.units' (hdx x xm) cok ru rv h)) fun h tk S => ?_
            cases hgt : pyC true x y with
            | true =>
              rw [hgt, if_pos rfl] at hR
              refine x_append (x := "unexpected") S rfl hS.fu (PE.x (pe_name rfl ha)) hS.fu (by unfold sizeLine; omega) fun h tk S => ?_
              refine x_augI S rfl ((lookup_cons_ne (by decide)).trans hS.fj) (PE.po pe_int) fun h tk S => ?_
              have hS := hS.putu (x := y) hj
              refine x_skipW (xn := "actual") (kn := "j") (en := "a") (xs := ys) (d := y) (k := j + 1) S F C R'.units' rfl rfl rfl (by decide) (by decide) hS.fy hS.fj ((lookup_cons_ne (by decide)).trans ((lookup_cons_ne (by decide)).trans ha)) (by omega) (by omega) hdy (hdy y ym) (.inl R'.hh) (fun hs ρ' h' tk' hρ' hk S' => x_nil (x_nil (x_nil (x_nil ?_)))) fun hs ρ' hρ' hk => ?_
              · exact kk _ h' tk' ρ' g' (.refl C.n) S' (.inl ⟨.inl rfl, n', Nat.lt_succ_self _, i, _, m, _, hS.setj hρ' hk sy.2 (Nat.le_trans hS.ul sy.1), om_two' hn hj sy.1, hR⟩)
              · rw [hs] at hR
                exact ⟨i, ys.length, m, _, hS.setj hρ' hk (by omega) (by have := hS.ul; omega), by rw [← hR, sldF_end (by omega)]⟩
            | false =>
              rw [hgt, if_neg (by decide)] at hR
              have nb'' := nb' hlt hgt
              refine x_augI S rfl hS.fi (PE.po pe_int) fun h tk S => ?_
              have hS1 : SlS xs ys p q (i + 1) j m u (("i", .frz (.int ((i : Int) + 1))) :: ρ₁) := hS.seti (i' := i + 1) agree1 rfl (by omega) (by omega)
              have he1 := (lookup_cons_ne (ρ := ρ₁) (sl := .frz (.int ((i : Int) + 1))) (x := "i") (y := "e") (by decide)).trans he
              have ha1 := (lookup_cons_ne (ρ := ρ₁) (sl := .frz (.int ((i : Int) + 1))) (x := "i") (y := "a") (by decide)).trans ha
              generalize hρ1 : (("i", .frz (.int ((i : Int) + 1))) :: ρ₁ : Store) = ρ₂ at *
              refine x_finally (s := { s with heap := h, toks := tk }) (X := "IndexError") (D := slD xs ys p q) (D' := fun ρ' => skipD xs x (i + 1) = xs.length ∧ SlS xs ys p q xs.length j m u ρ' ∧ Fz ρ' "a" y) F C rfl ?_ ?_
              · refine x_skipW (xn := "expected") (kn := "i") (en := "e") (xs := xs) (d := x) (k := i + 1) S F C R'.units' rfl rfl rfl (by decide) (by decide) hS1.fx hS1.fi he1 (by omega) (by omega) hdx (hdx x xm) (.inl R'.hh) (fun hs ρ' h' tk' hρ' hk S' => x_nil ⟨rfl, ?_⟩) fun hs ρ' hρ' hk => ⟨hs, hS1.seti hρ' hk (by omega) (by omega), (hρ' _ (by decide)).trans ha1⟩
                have hS2 := hS1.seti hρ' hk (by omega) (by omega)
                have ha2 := (hρ' "a" (by decide)).trans ha1
                refine x_augI S' rfl hS2.fj (PE.po pe_int) fun h tk S => ?_
                have hS3 : SlS xs ys p q (skipD xs x (i + 1)) (j + 1) m u (("j", .frz (.int ((j : Int) + 1))) :: ρ') := hS2.setj (j' := j + 1) agree1 rfl (by omega) (by omega)
                refine x_skipW (xn := "actual") (kn := "j") (en := "a") (xs := ys) (d := y) (k := j + 1) S F C R'.units' rfl rfl rfl (by decide) (by decide) hS3.fy hS3.fj ((lookup_cons_ne (by decide)).trans ha2) (by omega) (by omega) hdy (hdy y ym) (.inl R'.hh) (fun hs' ρ'' h' tk' hρ'' hk' S' => x_nil ⟨rfl, x_nil (x_nil (x_nil (x_nil ?_)))⟩) fun hs' ρ'' hρ'' hk' => ?_
                · exact kk _ h' tk' ρ'' g' (.refl C.n) S' (.inl ⟨.inl rfl, n', Nat.lt_succ_self _, _, _, m, u, hS3.setj hρ'' hk' (by omega) (by omega), om_two' (Nat.le_succ_of_le (om_two hn hi sx.1)) hj sy.1, hR⟩)
                · rw [hs'] at hR
                  exact ⟨_, ys.length, m, u, hS3.setj hρ'' hk' (by omega) (by omega), by rw [← hR, sldF_end (by omega)]⟩
              · rintro e h tk ρ' J g₃ E₃ C₃ S₃ ⟨hs, hS2, ha2⟩
                have hj' := nb'' hs
                refine x_augI S₃ rfl hS2.fj (PE.po pe_int) fun h tk S => ?_
                have hS3 : SlS xs ys p q xs.length (j + 1) m u (("j", .frz (.int ((j : Int) + 1))) :: ρ') := hS2.setj (j' := j + 1) agree1 rfl (by omega) (by omega)
                refine wpAny_mono (x_skipW (D := fun _ => False) (xn := "actual") (kn := "j") (en := "a") (xs := ys) (d := y) (k := j + 1) S (F.mark _) C₃ R'.units' rfl rfl rfl (by decide) (by decide) hS3.fy hS3.fj ((lookup_cons_ne (by decide)).trans ha2) (by omega) (by omega) hdy (hdy y ym) (.inr hj') (fun hs' ρ'' h' tk' hρ'' hk' S' => x_nil ?_) fun hs' => by omega) (fun f s' q => q) fun v s' r => ?_
                · refine ⟨rfl, h', tk', ρ'', rfl, S', _, _, m, u, hS3.setj hρ'' hk' (by omega) (by omega), ?_⟩
                  rw [← hR, hs, sldF_end (by omega)]
                · obtain ⟨_, _, _, _, _, _, _, _, _, _, _, _, ff⟩ := r
                  exact ff.elim
        · have jl := hS.jl
          refine x_skip (wpAny_Assign_Name (raise_idx R'.hh S (PE.po (pe_name rfl hS.fy)) (PE.po (pe_name rfl hS.fj)) (by omega) (by omega) rfl fun h₂ h₃ tk₃ e S₂ x => ?_))
          exact Raised.new (s := { s with heap := h₂, toks := tk₃ }) S₂ C x ⟨i, j, m, u, hS, by rw [← hR, sldF_end (by omega)]⟩
      · have il := hS.il
        refine x_skip (wpAny_Assign_Name (raise_idx R'.hh S (PE.po (pe_name rfl hS.fx)) (PE.po (pe_name rfl hS.fi)) (by omega) (by omega) rfl fun h₂ h₃ tk₃ e S₂ x => ?_))
        exact Raised.new (s := { s with heap := h₂, toks := tk₃ }) S₂ C x ⟨i, j, m, u, hS, by rw [← hR, sldF_end (by omega)]⟩
    · rintro e h tk g'' ρ E'' rg S ⟨i, j, m, u, hS, hR⟩
      have ml := hS.ml
      have ul := hS.ul
      have il := hS.il
      have jl := hS.jl
      refine x_extend (x := "missing") S rfl hS.fm (PE.cast (PF.pe (pf_slice (PE.po (pe_name rfl hS.fx)) (pp_some (PE.po (pe_name rfl hS.fi))) pp_none pp_none (by decide) (by unfold sizeLine; omega))) (by rw [pickD_from])) (by simp; omega) fun h tk S => ?_
      refine x_extend (x := "unexpected") S rfl ((lookup_cons_ne (by decide)).trans hS.fu) (PE.cast (PF.pe (pf_slice (PE.po (pe_name rfl ((lookup_cons_ne (by decide)).trans hS.fy))) (pp_some (PE.po (pe_name rfl ((lookup_cons_ne (by decide)).trans hS.fj)))) pp_none pp_none (by decide) (by unfold sizeLine; omega))) (by rw [pickD_from])) (by simp; omega) fun h tk S => ?_
      refine x_break (kk _ h tk _ g'' rg S (.inr ⟨rfl, ?_, ?_⟩))
      · rw [← hR]; rfl
      · rw [← hR]; rfl
  · rintro ρ h tk g' ⟨h1, h2⟩ rg S
    have S1 := S.freeze h1 rfl
    have h2' : Ow ((("missing" : Str), Slot.frz (.list (sld xs ys).1)) :: ρ) "unexpected" q (sld xs ys).2 := (lookup_cons_ne (by decide)).trans h2
    have S2 := S1.freeze h2' rfl
    refine x_return (s := { s with heap := h, toks := tk }) S2 (PE.x (pe_tuple (pes_cons (pe_name rfl rfl) (pes_cons (pe_name rfl rfl) pes_nil)) (by simp [sizeLine]))) fun v h' tk' S3 r => ?_
    refine k v h' tk' (fun z o hz e => ?_) ?_ (r.sub fun z hz => ?_)
    · simp only [List.mem_cons, List.not_mem_nil, or_false] at hz
      exact S3.kg z o (by simp) ((rg.1 z hz).trans e)
    · obtain ⟨o, es, ep, ho, r⟩ := rg.2
      exact ⟨o, es, ep, S3.kg c o (by simp) ho, r⟩
    · refine List.mem_filter.mpr ⟨List.mem_filter.mpr ⟨List.mem_cons_of_mem _ (List.mem_cons_of_mem _ (hMc z hz)), ?_⟩, ?_⟩
      · simp; intro q'; rw [q'] at hz; exact hpM hz
      · simp; intro q'; rw [q'] at hz; exact hqM hz
end
end Oh

-- OhPa
namespace Oh
open PySem PySem.W

/-! ## _law_doubled = quotedata, plain -/
theorem nlF_end {c : Nat} {r : List Nat} (h : c = 10 ∨ (c = 13 ∧ r.take 1 ≠ [10])) : nlF (c :: r) = 13 :: 10 :: nlF r := by
  rw [nlF]
  · rw [if_pos (h.imp id fun q => q.1)]; rfl
  · intro r' e1 e2
    rcases h with h | h
    · rw [h] at e1; cases e1
    · exact h.2 (by rw [e2]; rfl)
theorem nlF_other {c : Nat} {r : List Nat} (h1 : c ≠ 10) (h2 : c ≠ 13) : nlF (c :: r) = c :: nlF r := by
  rw [nlF]
  · rw [if_neg (fun q => q.elim h1 h2)]; rfl
  · intro r' e1 e2; exact h2 e1
theorem dotF_nl (f : Bool) (r : List Nat) : dotF f (13 :: 10 :: r) = 13 :: 10 :: dotF true r := by
  rw [dotF, if_neg (fun q => by have := q.2; omega), dotF, if_neg (fun q => by have := q.2; omega)]; rfl
theorem isEnd_iff (l : List Nat) (k : Nat) : isEnd l k = true ↔ (l.getD k 0 = 10 ∨ (l.getD k 0 = 13 ∧ (l.drop (k + 1)).take 1 ≠ [10])) := by
  unfold isEnd
  simp only [Bool.or_eq_true, Bool.and_eq_true, decide_eq_true_eq, Bool.not_eq_true', decide_eq_false_iff_not]
theorem dbl_inv (l : List Nat) : ∀ k, k ≤ l.length → dotF true (nlF l) = (dblN l k).1 ++ dotF (dblN l k).2 (nlF (l.drop k))
  | 0, _ => by simp [dblN]
  | k + 1, hk => by
    have ih := dbl_inv l k (by omega)
    rw [drop_cons (d := k) (by omega)] at ih
    rw [ih, dblN]
    by_cases he : isEnd l k = true
    · rw [if_pos he, nlF_end ((isEnd_iff l k).mp he), dotF_nl, List.append_assoc]; rfl
    · rw [if_neg he]
      have hn := fun q => he ((isEnd_iff l k).mpr q)
      by_cases h13 : l.getD k 0 = 13
      · rw [if_pos h13]
        have h10 : (l.drop (k + 1)).take 1 = [10] := Classical.byContradiction fun q => hn (.inr ⟨h13, q⟩)
        have hl : k + 1 < l.length := Classical.byContradiction fun q => by rw [List.drop_of_length_le (by omega)] at h10; cases h10
        rw [drop_cons hl] at h10 ⊢
        have e10 : l.getD (k + 1) 0 = 10 := by simpa using h10
        rw [h13, e10, nlF, nlF_end (.inl rfl)]
      · rw [if_neg h13]
        have h10 : l.getD k 0 ≠ 10 := fun q => hn (.inl q)
        rw [nlF_other h10 h13, dotF, decide_eq_false h10, List.append_assoc]
theorem doubled_quote (x : Str) : strL (dblN x.cps.toList x.length).1 = quoteS x := by
  have hl : x.cps.toList.length = x.length := by simp [Str.length]
  have := dbl_inv x.cps.toList x.length (by omega)
  rw [← hl, List.drop_length] at this
  unfold quoteS strL
  rw [this, ← hl]; simp [nlF, dotF]
end Oh

-- OhPb
namespace Oh
open PySem PySem.W

/-! ## the orders are total -/
theorem str_lt_irr (x : Str) : ¬ x.cps.toList < x.cps.toList := List.lt_irrefl _
theorem str_lt_tr {x y z : Str} (h1 : x.cps.toList < y.cps.toList) (h2 : y.cps.toList < z.cps.toList) : x.cps.toList < z.cps.toList := List.lt_trans h1 h2
theorem str_tot {x y : Str} (h1 : ¬ x.cps.toList < y.cps.toList) (h2 : ¬ y.cps.toList < x.cps.toList) : x = y := by
  have : x.cps.toList = y.cps.toList := List.le_antisymm (List.not_lt.mp h2) (List.not_lt.mp h1)
  cases x; cases y; simp only [Str.mk.injEq]; exact Array.toList_inj.mp this

noncomputable def Trip (d : PyData) : Prop := ∃ (a b : Int) (x : Str), d = .tuple [.int a, .int b, .str x]
theorem pyC_trip (a b a' b' : Int) (x x' : Str) : pyC false (.tuple [.int a, .int b, .str x]) (.tuple [.int a', .int b', .str x']) = true ↔ (a < a' ∨ (a = a' ∧ (b < b' ∨ (b = b' ∧ x.cps.toList < x'.cps.toList)))) := by
  simp only [pyC, pyCs, PyData.eqv]
  by_cases h1 : a = a'
  · subst h1
    by_cases h2 : b = b'
    · subst h2
      by_cases h3 : x = x'
      · subst h3; simp
      · have : (x == x') = false := by simpa using h3
        simp [this]
    · simp [h2]
  · simp [h1]
theorem trip_tot : Tot Trip (pyC false) where
  irr := by
    rintro _ ⟨a, b, x, rfl⟩
    refine Bool.eq_false_iff.mpr fun h => ?_
    rw [pyC_trip] at h
    rcases h with h | ⟨_, h | ⟨_, h⟩⟩
    · omega
    · omega
    · exact str_lt_irr x h
  tr := by
    rintro _ _ _ ⟨a, b, x, rfl⟩ ⟨a', b', x', rfl⟩ ⟨a'', b'', x'', rfl⟩ h1 h2
    rw [pyC_trip] at *
    rcases h1 with h1 | ⟨e1, h1 | ⟨e1', h1⟩⟩ <;> rcases h2 with h2 | ⟨e2, h2 | ⟨e2', h2⟩⟩
    · exact .inl (by omega)
    · exact .inl (by omega)
    · exact .inl (by omega)
    · exact .inl (by omega)
    · exact .inr ⟨by omega, .inl (by omega)⟩
    · exact .inr ⟨by omega, .inl (by omega)⟩
    · exact .inl (by omega)
    · exact .inr ⟨by omega, .inl (by omega)⟩
    · exact .inr ⟨by omega, .inr ⟨by omega, str_lt_tr h1 h2⟩⟩
  tot := by
    rintro _ _ ⟨a, b, x, rfl⟩ ⟨a', b', x', rfl⟩ h1 h2
    have h1 := mt (pyC_trip a b a' b' x x').mpr (by rw [h1]; decide)
    have h2 := mt (pyC_trip a' b' a b x' x).mpr (by rw [h2]; decide)
    have e1 : a = a' := by
      rcases Int.lt_trichotomy a a' with q | q | q
      · exact (h1 (.inl q)).elim
      · exact q
      · exact (h2 (.inl q)).elim
    subst e1
    have e2 : b = b' := by
      rcases Int.lt_trichotomy b b' with q | q | q
      · exact (h1 (.inr ⟨rfl, .inl q⟩)).elim
      · exact q
      · exact (h2 (.inr ⟨rfl, .inl q⟩)).elim
    subst e2
    have := str_tot (fun q => h1 (.inr ⟨rfl, .inr ⟨rfl, q⟩⟩)) (fun q => h2 (.inr ⟨rfl, .inr ⟨rfl, q⟩⟩))
    rw [this]

noncomputable def RowsP (d : PyData) : Prop := ∃ rs : List Str, d = .list (rs.map .str)
noncomputable def cmpL (xs ys : List Str) : Bool := pyCs false (xs.map .str) (ys.map .str)
theorem pyC_rows (xs ys : List Str) : pyC false (.list (xs.map .str)) (.list (ys.map .str)) = cmpL xs ys := by simp [pyC, cmpL]
theorem cmpL_cons (x y : Str) (xs ys : List Str) : cmpL (x :: xs) (y :: ys) = if x = y then cmpL xs ys else decide (x.cps.toList < y.cps.toList) := by
  unfold cmpL
  simp only [List.map_cons, pyCs, PyData.eqv]
  by_cases h : x = y
  · subst h; simp
  · have : (x == y) = false := by simpa using h
    simp [this, h, pyC]
theorem cmpL_irr : ∀ xs : List Str, cmpL xs xs = false
  | [] => rfl
  | x :: xs => by rw [cmpL_cons, if_pos rfl]; exact cmpL_irr xs
theorem cmpL_tr : ∀ xs ys zs : List Str, cmpL xs ys = true → cmpL ys zs = true → cmpL xs zs = true
  | [], [], zs, h, _ => by cases h
  | [], y :: ys, [], _, h => by cases h
  | [], y :: ys, z :: zs, _, _ => rfl
  | x :: xs, [], zs, h, _ => by cases h
  | x :: xs, y :: ys, [], _, h => by cases h
  | x :: xs, y :: ys, z :: zs, h1, h2 => by
    rw [cmpL_cons] at *
    by_cases e1 : x = y
    · subst e1
      rw [if_pos rfl] at h1
      by_cases e2 : x = z
      · subst e2; rw [if_pos rfl] at h2 ⊢; exact cmpL_tr xs ys zs h1 h2
      · rw [if_neg e2] at h2 ⊢; exact h2
    · rw [if_neg e1] at h1
      by_cases e2 : y = z
      · subst e2; rw [if_neg e1]; exact h1
      · rw [if_neg e2] at h2
        have h1 := of_decide_eq_true h1
        have h2 := of_decide_eq_true h2
        have h3 := str_lt_tr h1 h2
        have : x ≠ z := fun q => by subst q; exact str_lt_irr _ h3
        rw [if_neg this]; exact decide_eq_true h3
theorem cmpL_tot : ∀ xs ys : List Str, cmpL xs ys = false → cmpL ys xs = false → xs = ys
  | [], [], _, _ => rfl
  | [], y :: ys, h, _ => by cases h
  | x :: xs, [], _, h => by cases h
  | x :: xs, y :: ys, h1, h2 => by
    rw [cmpL_cons] at *
    by_cases e : x = y
    · subst e
      rw [if_pos rfl] at h1 h2
      rw [cmpL_tot xs ys h1 h2]
    · rw [if_neg e] at h1
      rw [if_neg (Ne.symm e)] at h2
      exact (e (str_tot (of_decide_eq_false h1) (of_decide_eq_false h2))).elim
theorem rows_tot : Tot RowsP (pyC false) where
  irr := by rintro _ ⟨xs, rfl⟩; rw [pyC_rows]; exact cmpL_irr xs
  tr := by rintro _ _ _ ⟨xs, rfl⟩ ⟨ys, rfl⟩ ⟨zs, rfl⟩; rw [pyC_rows, pyC_rows, pyC_rows]; exact cmpL_tr xs ys zs
  tot := by rintro _ _ ⟨xs, rfl⟩ ⟨ys, rfl⟩; rw [pyC_rows, pyC_rows]; intro h1 h2; rw [cmpL_tot xs ys h1 h2]
end Oh

-- OhPc
namespace Oh
open PySem PySem.W

/-! ## the heap's order is the told order -/
theorem minD_least {P : PyData → Prop} (T : Tot P ltD) {ws : List PyData} (hP : ∀ y ∈ ws, P y) : ∀ y ∈ ws, ltD y (minD ws) = false := fun y hy => by
  obtain ⟨i, hi, rfl⟩ := List.mem_iff_getElem.mp hy
  have hg : ∀ j, j < ws.length → P (ws.getD j .none) := fun j hj => hP _ (getD_mem hj)
  have := argBest_best (bt := fun i j => ltD (ws.getD i .none) (ws.getD j .none)) (N := ws.length) (fun i h => T.irr _ (hg i h)) (fun i j h1 h2 e => T.le (hg i h1) (hg j h2) e) (fun i j k h1 h2 h3 e1 e2 => T.leTr (hg i h1) (hg j h2) (hg k h3) e1 e2) (ws.length - 1) (by omega) i (by omega)
  unfold minD
  simpa [hi] using this
theorem least_unique {P : PyData → Prop} (T : Tot P ltD) {ws us : List PyData} {m m' : PyData} (hP : ∀ y ∈ ws, P y) (h : LeastOf ltD ws m us) (hm' : m' ∈ ws) (h' : ∀ y ∈ ws, ltD y m' = false) : m = m' := by
  have hm : m ∈ ws := h.1.mem_iff.mp (List.mem_cons_self ..)
  exact T.tot m m' (hP m hm) (hP m' hm') (h' m hm) (h.2 m' hm')
/-- eqv on triples is equality -/
theorem eqv_trip {d e : PyData} (hd : Trip d) (he : Trip e) : PyData.eqv d e = true ↔ d = e := by
  obtain ⟨a, b, x, rfl⟩ := hd
  obtain ⟨a', b', x', rfl⟩ := he
  simp [PyData.eqv, PyData.eqvAll]

theorem out_perm {l : List PyData} {m : PyData} (hn : l.Nodup) (hT : ∀ y ∈ l, Trip y) (hm : m ∈ l) : (m :: l.filter fun y => !PyData.eqv y m).Perm l ∧ (l.filter fun y => !PyData.eqv y m).Nodup := by
  have hf : (l.filter fun y => !PyData.eqv y m).Nodup := hn.filter _
  have key : ∀ y ∈ l, (!PyData.eqv y m) = true ↔ y ≠ m := fun y hy => by
    rw [Bool.not_eq_true', Bool.eq_false_iff, ne_eq, eqv_trip (hT y hy) (hT m hm)]
  refine ⟨(List.perm_ext_iff_of_nodup (List.nodup_cons.mpr ⟨fun q => ?_, hf⟩) hn).mpr fun y => ?_, hf⟩
  · obtain ⟨q1, q2⟩ := List.mem_filter.mp q
    exact (key m q1).mp q2 rfl
  · constructor
    · intro h
      rcases List.mem_cons.mp h with rfl | h
      · exact hm
      · exact (List.mem_filter.mp h).1
    · intro h
      by_cases e : y = m
      · rw [e]; exact List.mem_cons_self ..
      · exact List.mem_cons_of_mem _ (List.mem_filter.mpr ⟨h, (key y h).mpr e⟩)
/-- one turn: the same one goes, the rest is the same -/
theorem turn_eq {ws es us : List PyData} {m : PyData} (hn : ws.Nodup) (hT : ∀ y ∈ ws, Trip y) (h : LeastOf ltD ws m us) (hH : HeapOf ltD us es) :
    m = minD ws ∧ HeapOf ltD (ws.filter fun y => !PyData.eqv y (minD ws)) es ∧ (ws.filter fun y => !PyData.eqv y (minD ws)).Nodup := by
  have hm : m ∈ ws := h.1.mem_iff.mp (List.mem_cons_self ..)
  have hpos : 0 < ws.length := List.length_pos_of_mem hm
  have e := least_unique trip_tot hT h (minD_mem hpos) (minD_least trip_tot hT)
  obtain ⟨p1, p2⟩ := out_perm hn hT (minD_mem hpos)
  refine ⟨e, ⟨hH.1.trans ?_, hH.2⟩, p2⟩
  rw [← e] at p1 ⊢
  exact (List.perm_cons m).mp (h.1.trans p1.symm)

theorem item_lo {ls : List PyData} {i : Nat} (hi : i < (ls.drop (ls.length / 2)).length) : (itemsT ls).getD i .none = (ls.drop (ls.length / 2)).getD i .none := by
  unfold itemsT
  rw [List.getD_eq_getElem?_getD, List.getD_eq_getElem?_getD, List.getElem?_append_left hi]
theorem item_hi {ls : List PyData} {i : Nat} (hi : (ls.drop (ls.length / 2)).length ≤ i) : (itemsT ls).getD i .none = .none := by
  unfold itemsT
  rw [List.getD_eq_getElem?_getD, List.getElem?_append_right hi, List.getElem?_replicate]
  split <;> rfl
theorem trip_not_none {d : PyData} (h : Trip d) : isNone d = false := by obtain ⟨a, b, x, rfl⟩ := h; rfl
theorem phase1 {ls : List PyData} (hn : ls.Nodup) (hT : ∀ y ∈ ls, Trip y) : ∀ i, i ≤ (ls.drop (ls.length / 2)).length →
    HeapOf ltD (toldN ls i).1 (ppN (heap0 ls) (ls.drop (ls.length / 2)) i).1 ∧ (toldN ls i).1.Nodup ∧ (∀ y ∈ (toldN ls i).1, y ∈ ls.take (ls.length / 2 + i)) ∧ (toldN ls i).2 = (ppN (heap0 ls) (ls.drop (ls.length / 2)) i).2
  | 0, _ => ⟨hfF_all trip_tot fun y hy => hT y (List.mem_of_mem_take hy), hn.sublist (List.take_sublist ..), fun y hy => by simpa [toldN] using hy, rfl⟩
  | i + 1, hi => by
    obtain ⟨a, b, c, d⟩ := phase1 hn hT i (by omega)
    have hx := getD_mem (es := ls.drop (ls.length / 2)) (p := i) (by omega)
    have hxi := item_lo (ls := ls) (i := i) (by omega)
    have hxT := hT _ (List.mem_of_mem_drop hx)
    have hl : ls.length / 2 + i < ls.length := by simp at hi; omega
    have hxe : (ls.drop (ls.length / 2)).getD i .none = ls[ls.length / 2 + i] := by
      rw [List.getD_eq_getElem?_getD, List.getElem?_drop, List.getElem?_eq_getElem hl]; rfl
    have htk : ls.take (ls.length / 2 + (i + 1)) = ls.take (ls.length / 2 + i) ++ [(ls.drop (ls.length / 2)).getD i .none] := by
      rw [hxe, show ls.length / 2 + (i + 1) = ls.length / 2 + i + 1 by omega, List.take_add_one, List.getElem?_eq_getElem hl]; rfl
    have hnt : (ls.take (ls.length / 2 + (i + 1))).Nodup := hn.sublist (List.take_sublist ..)
    generalize hxv : (ls.drop (ls.length / 2)).getD i .none = x at *
    rw [htk] at hnt ⊢
    have hxw : x ∉ (toldN ls i).1 := fun q => (List.nodup_append.mp hnt).2.2 x (c x q) x (by simp) rfl
    have ad : addT (toldN ls i).1 ((itemsT ls).getD i .none) = (toldN ls i).1 ++ [x] := by
      rw [hxi]; unfold addT; rw [if_neg (by rw [trip_not_none hxT]; decide)]
    have hws : ((toldN ls i).1 ++ [x]).Nodup := List.nodup_append.mpr ⟨b, by simp, fun y hy z hz => by simp at hz; subst hz; rintro rfl; exact hxw hy⟩
    have hwT : ∀ y ∈ (toldN ls i).1, Trip y := fun y hy => hT y (List.mem_of_mem_take (c y hy))
    have hwT' : ∀ y ∈ (toldN ls i).1 ++ [x], Trip y := fun y hy => (List.mem_append.mp hy).elim (hwT y) fun q => by simp at q; rw [q]; exact hxT
    obtain ⟨us, u1, u2⟩ := ppF_all trip_tot hwT hxT a
    obtain ⟨e1, e2, e3⟩ := turn_eq hws hwT' u1 u2
    simp only [toldN, ppN, ad, hxv]
    refine ⟨e2, e3, fun y hy => ?_, by rw [d, e1]⟩
    rcases List.mem_append.mp (List.mem_filter.mp hy).1 with q | q
    · exact List.mem_append.mpr (.inl (c y q))
    · exact List.mem_append.mpr (.inr q)

theorem itemsT_len (ls : List PyData) : (itemsT ls).length = ls.length := by unfold itemsT; simp; omega
theorem phase2 {ls : List PyData} (hT : ∀ y ∈ ls, Trip y) : ∀ (f j : Nat) (hp : List PyData), HeapOf ltD (toldN ls ((ls.drop (ls.length / 2)).length + j)).1 hp → (toldN ls ((ls.drop (ls.length / 2)).length + j)).1.Nodup → (∀ y ∈ (toldN ls ((ls.drop (ls.length / 2)).length + j)).1, y ∈ ls) →
    hp.length = f → (ls.drop (ls.length / 2)).length + j + f = ls.length → popAll f hp (toldN ls ((ls.drop (ls.length / 2)).length + j)).2 = (toldN ls ls.length).2 ∧ ∀ i, (ls.drop (ls.length / 2)).length + j ≤ i → i < ls.length → 0 < (addT (toldN ls i).1 ((itemsT ls).getD i .none)).length
  | 0, j, hp, _, _, _, _, hl => ⟨by rw [Nat.add_zero] at hl; rw [hl]; rfl, fun i h1 h2 => by omega⟩
  | f + 1, j, hp, hH, hn, hm, hf, hl => by
    have hne : hp ≠ [] := fun e => by rw [e] at hf; simp at hf
    have sp := last_split hne
    have hT' : ∀ y ∈ (toldN ls ((ls.drop (ls.length / 2)).length + j)).1, Trip y := fun y hy => hT y (hm y hy)
    rw [sp] at hH
    obtain ⟨us, u1, u2⟩ := popF_all trip_tot hT' hH
    obtain ⟨e1, e2, e3⟩ := turn_eq hn hT' u1 u2
    have it := item_hi (ls := ls) (i := (ls.drop (ls.length / 2)).length + j) (by omega)
    have ad : addT (toldN ls ((ls.drop (ls.length / 2)).length + j)).1 ((itemsT ls).getD ((ls.drop (ls.length / 2)).length + j) .none) = (toldN ls ((ls.drop (ls.length / 2)).length + j)).1 := by rw [it]; rfl
    obtain ⟨p1, p2, p3⟩ := popF_mem (cs := hp.take (hp.length - 1)) (x := hp.getD (hp.length - 1) .none)
    have s1 : (toldN ls ((ls.drop (ls.length / 2)).length + (j + 1))).1 = (toldN ls ((ls.drop (ls.length / 2)).length + j)).1.filter (fun y => !PyData.eqv y (minD (toldN ls ((ls.drop (ls.length / 2)).length + j)).1)) := by
      rw [← Nat.add_assoc]; simp only [toldN, ad]
    have s2 : (toldN ls ((ls.drop (ls.length / 2)).length + (j + 1))).2 = (toldN ls ((ls.drop (ls.length / 2)).length + j)).2 ++ [minD (toldN ls ((ls.drop (ls.length / 2)).length + j)).1] := by
      rw [← Nat.add_assoc]; simp only [toldN, ad]
    have ih := phase2 hT f (j + 1) (popF ltD (hp.take (hp.length - 1)) (hp.getD (hp.length - 1) .none)).2 (by rw [s1]; exact e2) (by rw [s1]; exact e3) (fun y hy => by rw [s1] at hy; exact hm y (List.mem_filter.mp hy).1) (by rw [p3]; simp; omega) (by omega)
    refine ⟨?_, fun i h1 h2 => ?_⟩
    · unfold popAll
      rw [if_neg (by simpa using hne), e1, ← s2]; exact ih.1
    · by_cases e : i = (ls.drop (ls.length / 2)).length + j
      · rw [e, ad]
        have := hH.1.length_eq
        rw [← sp] at this
        omega
      · exact ih.2 i (by omega) h2
/-- what is sent is what is told -/
theorem told_sent {ls : List PyData} (hn : ls.Nodup) (hT : ∀ y ∈ ls, Trip y) : toldD ls = sentD ls ∧ ToldOk ls := by
  obtain ⟨a, b, c, d⟩ := phase1 hn hT (ls.drop (ls.length / 2)).length (Nat.le_refl _)
  have dl : (ls.drop (ls.length / 2)).length = ls.length - ls.length / 2 := by simp
  have hpm : (heap0 ls).Perm (ls.take (ls.length / 2)) := hfF_perm _ (Nat.le_refl _)
  have hl0 : (heap0 ls).length = ls.length / 2 := by rw [hpm.length_eq]; simp; omega
  have hlen := (ppN_mem (ls := ls) (fun y hy => List.mem_of_mem_take (hpm.mem_iff.mp hy)) (fun y hy => List.mem_of_mem_drop hy) (ls.drop (ls.length / 2)).length (Nat.le_refl _)).2.2.1
  obtain ⟨e1, e2⟩ := phase2 hT _ 0 _ a b (fun y hy => List.mem_of_mem_take (c y hy)) hlen (by omega)
  refine ⟨?_, fun i hi => ?_⟩
  · unfold toldD sentD
    rw [itemsT_len, ← e1, hlen, Nat.add_zero, d]
  · rw [itemsT_len] at hi
    by_cases h : i < (ls.drop (ls.length / 2)).length
    · rw [item_lo h]
      have := hT _ (List.mem_of_mem_drop (getD_mem (es := ls.drop (ls.length / 2)) (p := i) h))
      unfold addT
      rw [if_neg (by rw [trip_not_none this]; decide)]
      simp
    · exact e2 i (by omega) hi
end Oh

-- OhPd
namespace Oh
open PySem PySem.W PySem.Builtin PySem.Builtin.Str PySem.StrLaws

/-! ## a text parted at its line ends -/
noncomputable def crAt (l : List Nat) (i : Nat) : Bool := (l.drop i).take 2 == [13, 10]
theorem crAt_next {l : List Nat} {i : Nat} (h : crAt l i = true) : crAt l (i + 1) = false := by
  unfold crAt at *
  have h1 : (l.drop i).take 2 = [13, 10] := eq_of_beq h
  cases hd : l.drop i with
  | nil => rw [hd] at h1; simp at h1
  | cons a r =>
    cases r with
    | nil => rw [hd] at h1; simp at h1
    | cons b r =>
      rw [hd] at h1
      simp only [List.take_succ_cons, List.take_zero, List.cons.injEq, and_true] at h1
      have h2 : l.drop (i + 1) = b :: r := by rw [← List.drop_drop, hd]; rfl
      rw [h2, h1.2]
      cases r <;> simp
theorem crAt_sub (x : Str) (i : Nat) : subAt x "\r\n" i = crAt x.cps.toList i := by
  rw [subAt_eq]
  have e : ("\r\n" : Str).cps.toList = [13, 10] := by decide +kernel
  rw [e]
  have e2 : ("\r\n" : Str).length = 2 := by decide +kernel
  rw [e2]; rfl
theorem crAt_len {l : List Nat} {i : Nat} (h : crAt l i = true) : i + 2 ≤ l.length := by
  unfold crAt at h
  have h1 : (l.drop i).take 2 = [13, 10] := eq_of_beq h
  have h2 := congrArg List.length h1
  simp at h2
  omega
theorem occ_go (x : Str) (limit : Nat) : ∀ (n a : Nat) (st : Array Nat × Nat), (st.snd ≤ a ∨ (st.snd = a + 1 ∧ crAt x.cps.toList a = false)) → st.fst.size ≤ a → a + n ≤ limit →
    (forIn (List.range' a n) st (occBody x "\r\n" x.length limit)).run.fst.toList = st.fst.toList ++ (List.range' a n).filter (crAt x.cps.toList)
  | 0, a, st, _, _, _ => by simp
  | n + 1, a, st, h1, h2, h3 => by
    have e2 : ("\r\n" : Str).length = 2 := by decide +kernel
    rw [List.range'_succ, List.forIn_cons]
    unfold occBody
    rw [crAt_sub, e2]
    cases hc : crAt x.cps.toList a with
    | true =>
      have hs : st.snd ≤ a := by
        rcases h1 with h | ⟨_, h⟩
        · exact h
        · rw [hc] at h; cases h
      have hl := crAt_len hc
      have hl' : a + 2 ≤ x.length := by simpa [Str.length] using hl
      rw [if_pos ⟨⟨⟨by omega, hs⟩, hl'⟩, rfl⟩]
      have ih := occ_go x limit n (a + 1) (st.fst.push a, a + 2) (.inr ⟨rfl, crAt_next hc⟩) (by simp; omega) (by omega)
      have e3 : (List.range' a (n + 1)) = a :: List.range' (a + 1) n := List.range'_succ
      rw [List.filter_cons, if_pos hc]
      refine Eq.trans ?_ (ih.trans ?_)
      · show _ = (forIn (List.range' (a + 1) n) (st.fst.push a, a + 2) (occBody x "\r\n" x.length limit)).run.fst.toList
        simp only [pure_bind]
        unfold occBody
        rw [e2]
      · simp
    | false =>
      rw [if_neg (by simp)]
      have ih := occ_go x limit n (a + 1) st (.inl (by omega)) (by omega) (by omega)
      rw [List.filter_cons, if_neg (by simp [hc])]
      refine Eq.trans ?_ ih
      simp only [pure_bind]
      unfold occBody
      rw [e2]
theorem occ_filter (x : Str) : occurrences x "\r\n" 0 x.length (x.length + 1) = (List.range' 0 (x.length + 1)).filter (crAt x.cps.toList) := by
  rw [occ_eq, occ_go x (x.length + 1) (x.length + 1 - 0) 0 (#[], 0) (.inl (Nat.le_refl _)) (by simp) (by omega)]
  simp

/-- a row: no return, no line feed -/
noncomputable def Clean (r : List Nat) : Prop := ∀ c ∈ r, c ≠ 10 ∧ c ≠ 13
noncomputable def glueL (ss : List (List Nat)) : List Nat := ss.flatMap fun r => r ++ [13, 10]
theorem crAt_clean {pre r rest : List Nat} (hr : Clean r) {i : Nat} (h1 : pre.length ≤ i) (h2 : i < pre.length + r.length) : crAt (pre ++ (r ++ rest)) i = false := by
  unfold crAt
  have h3 : (pre ++ (r ++ rest)).drop i = r.drop (i - pre.length) ++ rest := by
    rw [List.drop_append, List.drop_eq_nil_of_le h1, List.nil_append, List.drop_append_of_le_length (by omega)]
  rw [h3, List.drop_eq_getElem_cons (by omega)]
  have hc := (hr r[i - pre.length] (List.getElem_mem _)).2
  simp only [List.cons_append, List.take_succ_cons]
  rw [beq_eq_false_iff_ne]
  intro e
  exact hc (List.cons.inj e).1
theorem parts_go (x : Str) : ∀ (ss : List (List Nat)) (pre : List Nat), (∀ r ∈ ss, Clean r) → x.cps.toList = pre ++ glueL ss →
    partsFrom x 2 pre.length ((List.range' pre.length (x.length + 1 - pre.length)).filter (crAt x.cps.toList)) = ss.map strL ++ [strL []]
  | [], pre, _, hx => by
    have hl : x.length = pre.length := by
      have := congrArg List.length hx
      simpa [Str.length, glueL] using this
    have e1 : x.length + 1 - pre.length = 1 := by omega
    have e2 : crAt x.cps.toList pre.length = false := by
      cases hc : crAt x.cps.toList pre.length with
      | false => rfl
      | true => have := crAt_len hc; simp [Str.length] at hl; simp at this; omega
    rw [e1]
    simp only [List.range'_succ, List.range'_zero, List.filter_cons, e2, Bool.false_eq_true, if_false, List.filter_nil, List.map_nil, List.nil_append]
    show [strSub x pre.length x.length] = _
    rw [hl]
    congr 1
    apply str_ext
    rw [strSub_toList]
    simp [strL]
  | r :: ss, pre, hc, hx => by
    have hx' : x.cps.toList = pre ++ (r ++ ([13, 10] ++ glueL ss)) := by rw [hx]; simp [glueL]
    have hlen : x.length = pre.length + (r.length + (2 + (glueL ss).length)) := by
      have := congrArg List.length hx'
      simp [Str.length] at this ⊢
      omega
    have e1 : x.length + 1 - pre.length = r.length + (1 + (1 + (x.length + 1 - (pre ++ (r ++ [13, 10])).length))) := by simp; omega
    have f1 : (List.range' pre.length r.length).filter (crAt x.cps.toList) = [] := by
      rw [List.filter_eq_nil_iff]
      intro i hi
      rw [List.mem_range'_1] at hi
      rw [hx', crAt_clean (hc r (by simp)) hi.1 hi.2]
      simp
    have f2 : crAt x.cps.toList (pre.length + r.length) = true := by
      unfold crAt
      have : x.cps.toList.drop (pre.length + r.length) = [13, 10] ++ glueL ss := by rw [hx', ← List.append_assoc, ← List.length_append, List.drop_left]
      rw [this]; rfl
    have f3 := crAt_next f2
    have ih := parts_go x ss (pre ++ (r ++ [13, 10])) (fun q hq => hc q (by simp [hq])) (by rw [hx']; simp)
    rw [e1, ← List.range'_append_1, ← List.range'_append_1, ← List.range'_append_1, List.filter_append, f1, List.nil_append, List.filter_append, List.filter_append]
    simp only [List.range'_succ, List.range'_zero, List.filter_cons, f2, f3, if_true, Bool.false_eq_true, if_false, List.filter_nil, List.nil_append, List.cons_append]
    show strSub x pre.length (pre.length + r.length) :: partsFrom x 2 (pre.length + r.length + 2) _ = _
    have e4 : pre.length + r.length + 2 = (pre ++ (r ++ [13, 10])).length := by simp; omega
    have e5 : pre.length + r.length + 1 + 1 = (pre ++ (r ++ [13, 10])).length := by simp; omega
    rw [e4, ih]
    simp only [List.map_cons, List.cons_append]
    congr 1
    apply str_ext
    rw [strSub_toList, hx', List.drop_left]
    simp [strL]
theorem split_glue {x : Str} {ss : List (List Nat)} (hne : ss ≠ []) (hc : ∀ r ∈ ss, Clean r) (hx : x.cps.toList = glueL ss) : Txt.split x "\r\n" = ss.map strL ++ [strL []] := by
  have e2 : ("\r\n" : Str).length = 2 := by decide +kernel
  have hg := parts_go x ss [] hc (by simpa using hx)
  have hl : 2 ≤ x.length := by
    cases ss with
    | nil => exact absurd rfl hne
    | cons r ss =>
      have := congrArg List.length hx
      simp [glueL] at this
      simp [Str.length]; omega
  have k1 : Builtin.Str.strKind ("\r\n" : Str) = 1 := by decide +kernel
  have k2 : 1 ≤ Builtin.Str.strKind x := by unfold Builtin.Str.strKind; split <;> (try split) <;> decide
  unfold Txt.split
  rw [if_neg (by simp [e2, k1]; omega), occ_filter]
  simp only [List.length_nil, Nat.sub_zero] at hg
  split
  · rename_i he
    have he' : (List.range' 0 (x.length + 1)).filter (crAt x.cps.toList) = [] := by simpa using he
    rw [he'] at hg
    rw [← hg]
    show [x] = [strSub x 0 x.length]
    rw [sub_whole]
  · rw [partsBetween_eq, e2]; exact hg
end Oh

-- OhPe
namespace Oh
open PySem PySem.W

/-! ## the wire, row by row -/
noncomputable def dot (r : List Nat) : List Nat := if r.head? = some 46 then 46 :: r else r
theorem glueL_append (a b : List (List Nat)) : glueL (a ++ b) = glueL a ++ glueL b := by simp [glueL]
theorem glueL_one (r : List Nat) : glueL [r] = r ++ [13, 10] := by simp [glueL]
theorem dot_snoc {r : List Nat} (h : r ≠ []) (c : Nat) : dot (r ++ [c]) = dot r ++ [c] := by
  cases r with
  | nil => exact absurd rfl h
  | cons a r => by_cases ha : a = 46 <;> simp [dot, ha]
theorem dot_one (c : Nat) : dot [c] = if c = 46 then [46, 46] else [c] := by
  unfold dot
  by_cases h : c = 46
  · simp [h]
  · simp [h]
theorem dot_clean {r : List Nat} (h : Clean r) : Clean (dot r) := by
  unfold dot
  split
  · intro c hc
    rcases List.mem_cons.mp hc with rfl | hc
    · decide
    · exact h c hc
  · exact h
theorem dbl_rows (l : List Nat) : ∀ k, k ≤ l.length → ∃ init last, rowsN l k = init ++ [last] ∧ (dblN l k).1 = glueL (init.map dot) ++ dot last ∧ (dblN l k).2 = decide (last = []) ∧ (∀ r ∈ init, Clean r) ∧ Clean last
  | 0, _ => ⟨[], [], rfl, by simp [dblN, glueL, dot], by simp [dblN], fun r hr => (nomatch hr), fun c hc => (nomatch hc)⟩
  | k + 1, h => by
    obtain ⟨init, last, h1, h2, h3, h4, h5⟩ := dbl_rows l k (by omega)
    have r1 : rowsN l (k + 1) = if isEnd l k then rowsN l k ++ [[]] else if l.getD k 0 = 13 then rowsN l k else (rowsN l k).set ((rowsN l k).length - 1) ((rowsN l k).getD ((rowsN l k).length - 1) [] ++ [l.getD k 0]) := rfl
    have d1 : dblN l (k + 1) = if isEnd l k then ((dblN l k).1 ++ [13, 10], true) else if l.getD k 0 = 13 then dblN l k else ((dblN l k).1 ++ (if (dblN l k).2 = true ∧ l.getD k 0 = 46 then [46, 46] else [l.getD k 0]), false) := rfl
    rw [r1, d1]
    cases he : isEnd l k with
    | true =>
      simp only [if_true]
      refine ⟨init ++ [last], [], by rw [h1], ?_, by simp, ?_, fun c hc => (nomatch hc)⟩
      · simp only [h2, List.map_append, List.map_cons, List.map_nil, glueL_append, glueL_one]
        simp [dot]
      · intro r hr
        rcases List.mem_append.mp hr with hr | hr
        · exact h4 r hr
        · simp only [List.mem_singleton] at hr; rw [hr]; exact h5
    | false =>
      simp only [Bool.false_eq_true, if_false]
      by_cases hc : l.getD k 0 = 13
      · simp only [hc, if_true]
        exact ⟨init, last, h1, h2, h3, h4, h5⟩
      · simp only [hc, if_false]
        have hc10 : l.getD k 0 ≠ 10 := by
          intro q
          have : isEnd l k = true := (isEnd_iff l k).mpr (.inl q)
          rw [this] at he; cases he
        generalize l.getD k 0 = c at *
        refine ⟨init, last ++ [c], ?_, ?_, by simp, h4, ?_⟩
        · rw [h1]; simp
        · simp only [h2, h3]
          by_cases hl : last = []
          · subst hl
            simp only [decide_true, true_and, List.nil_append, dot_one]
            simp [dot]
          · simp only [hl, decide_false, Bool.false_eq_true, false_and, if_false, dot_snoc hl]
            simp
        · intro d hd
          rcases List.mem_append.mp hd with hd | hd
          · exact h5 d hd
          · simp only [List.mem_singleton] at hd; rw [hd]; exact ⟨hc10, hc⟩
noncomputable def segs (l : List Nat) : List (List Nat) := (rowsF l).map dot ++ [[46]]
theorem drop_last2 {a b : List Nat} (h : b.length = 2) : (a ++ b).drop ((a ++ b).length - 2) = b := by
  rw [List.length_append, h, Nat.add_sub_cancel, List.drop_left]
theorem row_glue (x : Str) : (rowS x).cps.toList = glueL (segs x.cps.toList) ∧ (∀ r ∈ rowsF x.cps.toList, Clean r) := by
  obtain ⟨init, last, h1, h2, h3, h4, h5⟩ := dbl_rows x.cps.toList x.cps.toList.length (Nat.le_refl _)
  have hq : (quoteS x).cps.toList = glueL (init.map dot) ++ dot last := by
    rw [← doubled_quote, ← h2]; simp [strL, Str.length]
  have e1 : ("\r\n" : Str).cps.toList = [13, 10] := by decide +kernel
  have e2 : (".\r\n" : Str).cps.toList = [46, 13, 10] := by decide +kernel
  have e3 : ("" : Str).cps.toList = [] := by decide +kernel
  have hs := slice_last (quoteS x) 2 (by decide)
  have hcond : (Txt.slice (quoteS x) (some (-2)) none = "\r\n") ↔ ((quoteS x).cps.toList.drop ((quoteS x).cps.toList.length - 2) = [13, 10]) := by
    constructor
    · intro e
      have := congrArg (fun s : Str => s.cps.toList) e
      simp only [e1] at this
      rw [← this]
      have hs' := hs
      simp only [Str.length] at hs'
      simpa using hs'.symm
    · intro e
      apply str_ext
      rw [e1, ← e]
      simp only [Str.length] at hs
      simpa using hs
  have hrw : (rowS x).cps.toList = (quoteS x).cps.toList ++ (if Txt.slice (quoteS x) (some (-2)) none = "\r\n" then [] else [13, 10]) ++ [46, 13, 10] := by
    unfold rowS
    rw [Str.cps_append, Array.toList_append, Str.cps_append, Array.toList_append, e2]
    congr 2
    split
    · exact e3
    · exact e1
  rw [hrw]
  have hF : rowsF x.cps.toList = if 1 < (init ++ [last]).length ∧ last = [] then init else init ++ [last] := by
    unfold rowsF
    rw [h1]
    simp
  have hseg : segs x.cps.toList = (rowsF x.cps.toList).map dot ++ [[46]] := rfl
  rw [hseg, hF]
  by_cases hl : last = []
  · subst hl
    rcases List.eq_nil_or_concat init with hi | ⟨init', z, hi⟩
    · subst hi
      rw [if_neg (by rw [hcond, hq]; simp [glueL, dot]), if_neg (by simp)]
      refine ⟨by rw [hq]; simp [glueL, dot], ?_⟩
      intro r hr; simp only [List.nil_append, List.mem_singleton] at hr; rw [hr]; exact h5
    · rw [List.concat_eq_append] at hi
      subst hi
      have hc : Txt.slice (quoteS x) (some (-2)) none = "\r\n" := by
        rw [hcond, hq]
        simp only [List.map_append, List.map_cons, List.map_nil, glueL_append, glueL_one]
        have : dot [] = [] := by simp [dot]
        rw [this, List.append_nil, ← List.append_assoc]
        exact drop_last2 rfl
      rw [if_pos hc, if_pos (by simp)]
      refine ⟨?_, h4⟩
      rw [hq, glueL_append, glueL_one]
      simp [dot]
  · have hc : ¬ Txt.slice (quoteS x) (some (-2)) none = "\r\n" := by
      rw [hcond, hq]
      intro e
      obtain ⟨b, c, rfl⟩ : ∃ b c, last = b ++ [c] := by
        rcases List.eq_nil_or_concat last with q | ⟨b, c, q⟩
        · exact absurd q hl
        · exact ⟨b, c, by simpa using q⟩
      have hcc := h5 c (by simp)
      have hd : ∃ d, dot (b ++ [c]) = d ++ [c] := by
        by_cases hb : b = []
        · subst hb
          simp only [List.nil_append, dot_one]
          by_cases hc : c = 46
          · exact ⟨[46], by simp [hc]⟩
          · exact ⟨[], by simp [hc]⟩
        · exact ⟨_, dot_snoc hb c⟩
      obtain ⟨d, hd⟩ := hd
      rw [hd, ← List.append_assoc] at e
      have e' := congrArg List.getLast? e
      rw [List.getLast?_drop] at e'
      simp only [List.getLast?_append, List.getLast?_singleton, List.length_append, List.length_singleton] at e'
      split at e'
      · simp at e'
      · simp at e'
        exact hcc.1 e'
    rw [if_neg hc, if_neg (by simp [hl])]
    refine ⟨?_, ?_⟩
    · rw [hq]
      simp only [List.map_append, List.map_cons, List.map_nil, glueL_append, glueL_one]
      simp
    · intro r hr
      rcases List.mem_append.mp hr with hr | hr
      · exact h4 r hr
      · simp only [List.mem_singleton] at hr; rw [hr]; exact h5
end Oh

-- OhPf
namespace Oh
open PySem PySem.W

noncomputable def segsAll (ls : List PyData) : List (List Nat) := ls.flatMap fun d => segs (txtD d).cps.toList
theorem wire_go (ls : List PyData) : ∀ w : Str, (ls.foldl (fun w d => w ++ rowS (txtD d)) w).cps.toList = w.cps.toList ++ glueL (segsAll ls) := by
  induction ls with
  | nil => intro w; simp [segsAll, glueL]
  | cons d ls ih =>
    intro w
    rw [List.foldl_cons, ih, Str.cps_append, Array.toList_append, (row_glue _).1]
    have : segsAll (d :: ls) = segs (txtD d).cps.toList ++ segsAll ls := by simp [segsAll]
    rw [this, glueL_append, List.append_assoc]
theorem wire_glue (ls : List PyData) : (wireN ls ls.length).cps.toList = glueL (segsAll ls) := by
  unfold wireN
  rw [List.take_length, wire_go]
  have e3 : ("" : Str).cps.toList = [] := by decide +kernel
  rw [e3]; rfl
theorem segs_clean (ls : List PyData) : ∀ r ∈ segsAll ls, Clean r := by
  intro r hr
  obtain ⟨d, _, hr⟩ := List.mem_flatMap.mp hr
  unfold segs at hr
  rcases List.mem_append.mp hr with hr | hr
  · obtain ⟨q, hq, rfl⟩ := List.mem_map.mp hr
    exact dot_clean ((row_glue (txtD d)).2 q hq)
  · simp only [List.mem_singleton] at hr
    subst hr
    intro c hc
    simp only [List.mem_singleton] at hc
    subst hc
    decide
theorem segs_ne {ls : List PyData} (h : ls ≠ []) : segsAll ls ≠ [] := by
  cases ls with
  | nil => exact absurd rfl h
  | cons d ls => simp [segsAll, segs]
theorem strL_dot : strL [46] = "." := by decide +kernel
theorem strL_inj {a b : List Nat} (h : strL a = strL b) : a = b := by simpa [strL] using congrArg (fun s : Str => s.cps.toList) h
theorem strL_list (a : List Nat) : (strL a).cps.toList = a := by simp [strL]
theorem dot_ne (r : List Nat) : dot r ≠ [46] := by
  unfold dot
  split
  · rename_i h
    intro e
    have : r = [] := (List.cons.inj e).2
    rw [this] at h; cases h
  · rename_i h
    intro e; rw [e] at h; exact h rfl
theorem unq_dot (r : List Nat) : unq (strL (dot r)) = strL r := by
  have hs : (Txt.slice (strL (dot r)) none (some 1)).cps.toList = (dot r).take 1 := by
    have := slice_upto (strL (dot r)) 1
    rw [strL_list] at this; exact this
  have hf : (Txt.slice (strL (dot r)) (some 1) none).cps.toList = (dot r).drop 1 := by
    have := slice_from (strL (dot r)) 1
    rw [strL_list] at this; exact this
  unfold unq
  by_cases h : r.head? = some 46
  · have hd : dot r = 46 :: r := by unfold dot; rw [if_pos h]
    rw [hd] at hs hf
    rw [hd, if_pos (by rw [← strL_dot]; apply str_ext; rw [hs, strL_list]; rfl)]
    apply str_ext; rw [hf, strL_list]; rfl
  · have hd : dot r = r := by unfold dot; rw [if_neg h]
    rw [hd] at hs hf
    rw [hd, if_neg]
    intro e
    have e' : (Txt.slice (strL r) none (some 1)).cps.toList = (("." : Str)).cps.toList := by rw [e]
    rw [hs, ← strL_dot, strL_list] at e'
    cases r with
    | nil => simp at e'
    | cons a r => simp at e'; simp [e'] at h
theorem read_rows (rs : List (List Nat)) : ∀ (acc : List (List Str)) (cur : List Str), ((rs.map dot).map strL).foldl readStep (acc, cur) = (acc, cur ++ rs.map strL) := by
  induction rs with
  | nil => intro acc cur; simp
  | cons r rs ih =>
    intro acc cur
    rw [List.map_cons, List.map_cons, List.foldl_cons]
    have : readStep (acc, cur) (strL (dot r)) = (acc, cur ++ [strL r]) := by
      unfold readStep
      rw [if_neg (by rw [← strL_dot]; exact fun e => dot_ne r (strL_inj e)), unq_dot]
    rw [this, ih]
    simp
theorem read_segs (l : List Nat) (acc : List (List Str)) : ((segs l).map strL).foldl readStep (acc, []) = (acc ++ [(rowsF l).map strL], []) := by
  unfold segs
  rw [List.map_append, List.foldl_append, read_rows]
  simp only [List.map_cons, List.map_nil, List.foldl_cons, List.foldl_nil]
  unfold readStep
  rw [if_pos strL_dot]
  simp
theorem read_all (ls : List PyData) : ∀ acc : List (List Str), ((segsAll ls).map strL).foldl readStep (acc, []) = (acc ++ ls.map fun d => (rowsF (txtD d).cps.toList).map strL, []) := by
  induction ls with
  | nil => intro acc; simp [segsAll]
  | cons d ls ih =>
    intro acc
    have : segsAll (d :: ls) = segs (txtD d).cps.toList ++ segsAll ls := by simp [segsAll]
    rw [this, List.map_append, List.foldl_append, read_segs, ih]
    simp
theorem split_wire {ls : List PyData} (h : ls ≠ []) : Txt.split (wireN ls ls.length) "\r\n" = (segsAll ls).map strL ++ [strL []] := split_glue (segs_ne h) (segs_clean ls) (wire_glue ls)
theorem read_wire {ls : List PyData} (h : ls ≠ []) : lettD (readN (Txt.split (wireN ls ls.length) "\r\n") ((Txt.split (wireN ls ls.length) "\r\n").length - 1)).1 = ls.map fun d => .list (rowsD (rowsF (txtD d).cps.toList)) := by
  rw [split_wire h]
  unfold readN
  have : (((segsAll ls).map strL ++ [strL []]).length - 1) = ((segsAll ls).map strL).length := by simp
  rw [this, List.take_left, read_all]
  unfold lettD rowsD
  simp
theorem seg_mem {ls : List PyData} {r : List Nat} (h : r ∈ segsAll ls) : ∀ c ∈ r, c ∈ (wireN ls ls.length).cps.toList := by
  intro c hc
  rw [wire_glue]
  exact List.mem_flatMap.mpr ⟨r, h, by simp [hc]⟩
theorem glueL_len (ss : List (List Nat)) : ss.length ≤ (glueL ss).length ∧ ∀ r ∈ ss, r.length ≤ (glueL ss).length := by
  induction ss with
  | nil => simp [glueL]
  | cons s ss ih =>
    have e : glueL (s :: ss) = (s ++ [13, 10]) ++ glueL ss := by simp [glueL]
    rw [e]
    refine ⟨by simp; omega, fun r hr => ?_⟩
    rcases List.mem_cons.mp hr with rfl | hr
    · simp
    · have := ih.2 r hr; simp; omega
theorem wire_facts {ls : List PyData} (h : ls ≠ []) (hx : ∀ d ∈ ls, (txtD d).length ≤ 25) (hl : ls.length < 64) :
    (wireN ls ls.length).length ≤ 100000 ∧ (PyData.strOk (wireN ls ls.length) = true → ∀ z ∈ Txt.split (wireN ls ls.length) "\r\n", PyData.strOk z = true) ∧ (Txt.split (wireN ls ls.length) "\r\n").length ≤ 100000 ∧ ∀ z ∈ Txt.split (wireN ls ls.length) "\r\n", z.length ≤ 100000 := by
  have w1 := wireN_len ls hx ls.length (Nat.le_refl _)
  have wl : (glueL (segsAll ls)).length = (wireN ls ls.length).length := by rw [← wire_glue]; simp [Str.length]
  obtain ⟨g1, g2⟩ := glueL_len (segsAll ls)
  rw [split_wire h]
  refine ⟨by omega, fun ok z hz => ?_, by simp; omega, fun z hz => ?_⟩
  · rcases List.mem_append.mp hz with hz | hz
    · obtain ⟨r, hr, rfl⟩ := List.mem_map.mp hz
      refine strOk_of_mem ok fun c hc => ?_
      have := seg_mem hr c (by simpa [strL] using hc)
      simpa using this
    · simp only [List.mem_singleton] at hz
      subst hz
      decide +kernel
  · rcases List.mem_append.mp hz with hz | hz
    · obtain ⟨r, hr, rfl⟩ := List.mem_map.mp hz
      rw [strL_len]
      have := g2 r hr; omega
    · simp only [List.mem_singleton] at hz
      subst hz
      rw [strL_len]; simp
end Oh

-- OhPg
namespace Oh
open PySem PySem.W

/-! ## the letters -/
theorem catS_len : ∀ ys : List Str, (∀ y ∈ ys, y.length ≤ 5) → (catS ys).length ≤ 5 * ys.length
  | [], _ => by simp [catS]
  | y :: ys, h => by
    have h1 := h y (by simp)
    have h2 := catS_len ys fun z hz => h z (by simp [hz])
    have e : catS (y :: ys) = y.cps.toList ++ catS ys := by simp [catS]
    rw [e, List.length_append]
    simp only [List.length_cons]
    have : y.cps.toList.length = y.length := by simp [Str.length]
    omega
theorem text_len (v : Int) : (textOf v).length ≤ 25 := by
  have h := catS_len ((List.range 5).map (pieceS v)) fun y hy => by
    obtain ⟨k, _, rfl⟩ := List.mem_map.mp hy
    exact (pcs_len (piece_mem v k)).1
  have e : (textOf v).length = (catS ((List.range 5).map (pieceS v))).length := by
    unfold textOf
    rw [← join_cat]; simp [Str.length]
  rw [e]; simpa using h
theorem letters_len (ns : List Int) : 8 ≤ (lettersD ns).length ∧ (lettersD ns).length ≤ 13 := by
  unfold lettersD lettersN tailN
  simp; omega
theorem letters_shape (ns : List Int) : ∀ d ∈ lettersD ns, ∃ (a b : Int) (x : Str), d = .tuple [.int a, .int b, .str x] ∧ x.length ≤ 25 := by
  intro d hd
  unfold lettersD at hd
  obtain ⟨q, _, rfl⟩ := List.mem_map.mp hd
  exact ⟨_, _, _, rfl, text_len q.1⟩
theorem letters_trip (ns : List Int) : ∀ d ∈ lettersD ns, Trip d := fun d hd => by
  obtain ⟨a, b, x, h, _⟩ := letters_shape ns d hd; exact ⟨a, b, x, h⟩
theorem letters_nodup (ns : List Int) : (lettersD ns).Nodup := by
  unfold lettersD
  have h1 : ((lettersN ns).zipIdx.map Prod.snd).Nodup := by
    rw [List.zipIdx_map_snd]; exact List.nodup_range'
  have h2 : ((lettersN ns).zipIdx).Pairwise fun a b => a.2 ≠ b.2 := List.pairwise_map.mp h1
  refine List.pairwise_map.mpr (h2.imp fun hab e => hab ?_)
  unfold letD at e
  simp at e
  have := e.2.1
  omega
theorem trip_cmp {d e : PyData} (hd : Trip d) (he : Trip e) : cmpOk d e = true := by
  obtain ⟨a, b, x, rfl⟩ := hd
  obtain ⟨a', b', x', rfl⟩ := he
  simp only [cmpOk, cmpOks]
  split
  · split
    · split <;> rfl
    · rfl
  · rfl
theorem trip_depth {d : PyData} (hd : Trip d) : d.depth ≤ 64 := by
  obtain ⟨a, b, x, rfl⟩ := hd
  simp [PyData.depth, PyData.depthAll]
theorem trip_gd {ls : List PyData} (h : ∀ d ∈ ls, Trip d) : Gd ls := ⟨fun a ha b hb => trip_cmp (h a ha) (h b hb), fun a ha => trip_depth (h a ha)⟩
theorem letters_ok' (ns : List Int) : LetOk (lettersD ns) := ⟨trip_gd (letters_trip ns), by have := letters_len ns; omega, letters_shape ns⟩

/-! ## all out of the heap: sorted -/
theorem popN_all {P : PyData → Prop} (T : Tot P ltD) {h ws : List PyData} (hP : ∀ y ∈ ws, P y) (hH : HeapOf ltD ws h) : ∀ i, i ≤ ws.length →
    ∃ us, HeapOf ltD us (popN h i).1 ∧ ((popN h i).2 ++ us).Perm ws ∧ (popN h i).2.Pairwise (fun a b => ltD b a = false) ∧ (∀ a ∈ (popN h i).2, ∀ b ∈ us, ltD b a = false) ∧ us.length + i = ws.length
  | 0, _ => ⟨ws, hH, by simp [popN], by simp [popN], by simp [popN], by simp⟩
  | i + 1, hi => by
    obtain ⟨us, h1, h2, h3, h4, h5⟩ := popN_all T hP hH i (by omega)
    have hne : (popN h i).1 ≠ [] := by
      intro e
      have := h1.1.length_eq
      rw [e] at this
      simp at this
      omega
    have hs := last_split hne
    have husP : ∀ y ∈ us, P y := fun y hy => hP y (h2.mem_iff.mp (List.mem_append.mpr (.inr hy)))
    obtain ⟨vs, l1, l2⟩ := popF_all T husP (hs ▸ h1)
    unfold popN
    generalize hm : popF ltD ((popN h i).1.take ((popN h i).1.length - 1)) ((popN h i).1.getD ((popN h i).1.length - 1) .none) = r at *
    obtain ⟨l3, l4⟩ := l1
    have mem : r.1 ∈ us := l3.mem_iff.mp (by simp)
    have sub : ∀ y ∈ vs, y ∈ us := fun y hy => l3.mem_iff.mp (by simp [hy])
    refine ⟨vs, l2, ?_, ?_, ?_, ?_⟩
    · rw [List.append_assoc]
      exact ((List.Perm.refl _).append l3).trans h2
    · rw [List.pairwise_append]
      refine ⟨h3, by simp, fun a ha b hb => ?_⟩
      simp only [List.mem_singleton] at hb
      rw [hb]; exact h4 a ha _ mem
    · intro a ha b hb
      rcases List.mem_append.mp ha with ha | ha
      · exact h4 a ha b (sub b hb)
      · simp only [List.mem_singleton] at ha
        rw [ha]; exact l4 b (sub b hb)
    · have := l3.length_eq
      simp at this
      omega
theorem emptied_sorted {P : PyData → Prop} (T : Tot P ltD) {ls : List PyData} (hP : ∀ y ∈ ls, P y) : emptiedD ls = isort ltD ls := by
  unfold emptiedD
  obtain ⟨us, _, h2, h3, _, h5⟩ := popN_all T hP (hfF_all T hP) ls.length (Nat.le_refl _)
  have : us = [] := List.length_eq_zero_iff.mp (by omega)
  subst this
  rw [List.append_nil] at h2
  obtain ⟨i1, i2⟩ := isort_of T hP
  exact sorted_unique T (fun d hd => hP d (h2.mem_iff.mp hd)) (h2.trans i1.symm) h3 i2

/-- what is sent are the letters -/
theorem sent_mem {ls : List PyData} : (∀ y ∈ sentD ls, y ∈ ls) ∧ (sentD ls).length = ls.length := by
  have m1 : ∀ y ∈ heap0 ls, y ∈ ls := fun y hy => by
    unfold heap0 at hy
    exact List.mem_of_mem_take ((hfF_perm _ (Nat.le_refl _)).mem_iff.mp hy)
  have l1 : (heap0 ls).length = (ls.take (ls.length / 2)).length := (hfF_perm _ (Nat.le_refl _)).length_eq
  obtain ⟨a1, a2, a3, a4⟩ := ppN_mem (ls := ls) (h0 := heap0 ls) (xs := ls.drop (ls.length / 2)) m1 (fun y hy => List.mem_of_mem_drop hy) (ls.drop (ls.length / 2)).length (Nat.le_refl _)
  obtain ⟨b1, b2⟩ := popAll_mem (ls := ls) _ _ _ a1 a2 (Nat.le_refl _)
  refine ⟨b1, ?_⟩
  unfold sentD
  rw [b2, a3, a4, l1]
  simp; omega
end Oh

-- OhPh
namespace Oh
open PySem PySem.W

/-! ## lists of texts: equal, comparable -/
theorem eqvAll_strs : ∀ xs ys : List Str, PyData.eqvAll (xs.map .str) (ys.map .str) = decide (xs = ys)
  | [], [] => by simp [PyData.eqvAll]
  | [], y :: ys => by simp [PyData.eqvAll]
  | x :: xs, [] => by simp [PyData.eqvAll]
  | x :: xs, y :: ys => by
    have := eqvAll_strs xs ys
    simp only [List.map_cons, PyData.eqvAll, PyData.eqv, this, List.cons.injEq]
    by_cases h : x = y <;> by_cases h' : xs = ys <;> simp [h, h']
theorem strs_inj {xs ys : List Str} : (xs.map PyData.str = ys.map PyData.str) ↔ xs = ys := by
  constructor
  · intro h
    exact (List.map_inj_right (fun a b e => by simpa using e)).mp h
  · intro h; rw [h]
theorem eqv_rows {a b : PyData} (ha : RowsP a) (hb : RowsP b) : PyData.eqv a b = true ↔ a = b := by
  obtain ⟨xs, rfl⟩ := ha
  obtain ⟨ys, rfl⟩ := hb
  simp only [PyData.eqv, eqvAll_strs, decide_eq_true_eq, PyData.list.injEq, strs_inj]
theorem eqv_rowsR {a : PyData} (ha : RowsP a) : PyData.eqv a a = true := (eqv_rows ha ha).mpr rfl
theorem eqv_rowsN {a b : PyData} (ha : RowsP a) (hb : RowsP b) (h : a ≠ b) : PyData.eqv a b = false := by
  cases e : PyData.eqv a b with
  | false => rfl
  | true => exact absurd ((eqv_rows ha hb).mp e) h
theorem cmpOks_strs : ∀ xs ys : List Str, cmpOks (xs.map .str) (ys.map .str) = true
  | [], [] => by simp [cmpOks]
  | [], y :: ys => by simp [cmpOks]
  | x :: xs, [] => by simp [cmpOks]
  | x :: xs, y :: ys => by
    simp only [List.map_cons, cmpOks, cmpOks_strs xs ys, cmpOk]
    split <;> rfl
theorem rows_cmp {a b : PyData} (ha : RowsP a) (hb : RowsP b) : cmpOk a b = true := by
  obtain ⟨xs, rfl⟩ := ha
  obtain ⟨ys, rfl⟩ := hb
  simp only [cmpOk, cmpOks_strs]
theorem rows_depth {a : PyData} (ha : RowsP a) : a.depth ≤ 5 := by
  obtain ⟨xs, rfl⟩ := ha
  have : PyData.depthAll (xs.map .str) ≤ 1 := by
    induction xs with
    | nil => simp [PyData.depthAll]
    | cons x xs ih => simp only [List.map_cons, PyData.depthAll, PyData.depth]; omega
  simp only [PyData.depth]
  omega
theorem rows_gd {xs : List PyData} (h : ∀ d ∈ xs, RowsP d) : Gd xs := ⟨fun a ha b hb => rows_cmp (h a ha) (h b hb), fun a ha => Nat.le_trans (rows_depth (h a ha)) (by decide)⟩
theorem pyCs_gt : ∀ xs ys : List Str, pyCs true (xs.map .str) (ys.map .str) = pyCs false (ys.map .str) (xs.map .str)
  | [], [] => by simp [pyCs]
  | [], y :: ys => by simp [pyCs]
  | x :: xs, [] => by simp [pyCs]
  | x :: xs, y :: ys => by
    have := pyCs_gt xs ys
    simp only [List.map_cons, pyCs, this, pyC, PyData.eqv]
    by_cases h : x = y
    · subst h; simp
    · have h' : ¬ y = x := fun e => h e.symm
      simp [h, h']
theorem pyC_gt {a b : PyData} (ha : RowsP a) (hb : RowsP b) : pyC true a b = ltD b a := by
  obtain ⟨xs, rfl⟩ := ha
  obtain ⟨ys, rfl⟩ := hb
  simp only [ltD, pyC, pyCs_gt]
theorem rows_ls {xs : List PyData} (h : ∀ d ∈ xs, RowsP d) (hl : xs.length < 64) : LsOk xs := ⟨rows_gd h, hl, fun d hd => by obtain ⟨rs, e⟩ := h d hd; exact ⟨_, e⟩, RowsP, rows_tot, h⟩
end Oh

-- OhPi
namespace Oh
open PySem PySem.W

/-! ## unorderable_list_difference, plain -/
theorem cntD_cons (y : PyData) (ys : List PyData) (x : PyData) : cntD (y :: ys) x = cntD ys x + if PyData.eqv y x then 1 else 0 := by unfold cntD; rw [List.countP_cons]
theorem cntD_append (a b : List PyData) (x : PyData) : cntD (a ++ b) x = cntD a x + cntD b x := by unfold cntD; rw [List.countP_append]
theorem cntD_nil (x : PyData) : cntD [] x = 0 := rfl
noncomputable def missL : List PyData → List PyData → List PyData
  | [], _ => []
  | x :: xs, ys => (if cntD ys x < cntD (x :: xs) x then [x] else []) ++ missL xs ys
theorem miss_eq (ys : List PyData) : ∀ xs : List PyData, missD xs ys = missL xs ys
  | [] => rfl
  | x :: xs => by
    have ih := miss_eq ys xs
    unfold missD missK at *
    unfold missL
    rw [List.length_cons, List.range_succ_eq_map, List.filter_cons, ← ih]
    simp only [List.getD_cons_zero, List.drop_zero]
    have e : (((List.range xs.length).map Nat.succ).filter fun k => decide (cntD ys ((x :: xs).getD k .none) < cntD ((x :: xs).drop k) ((x :: xs).getD k .none))).map (fun k => (x :: xs).getD k .none) =
        ((List.range xs.length).filter fun k => decide (cntD ys (xs.getD k .none) < cntD (xs.drop k) (xs.getD k .none))).map fun k => xs.getD k .none := by
      rw [List.filter_map, List.map_map]
      rfl
    by_cases h : cntD ys x < cntD (x :: xs) x
    · simp only [h, decide_true, if_true, List.map_cons, List.getD_cons_zero, e]; rfl
    · simp only [h, decide_false, Bool.false_eq_true, if_false, e]; rfl
noncomputable def leftG (c : PyData → Nat) : List PyData → List PyData → List PyData
  | _, [] => []
  | pre, y :: ys => (if c y < cntD (pre ++ [y]) y then [y] else []) ++ leftG c (pre ++ [y]) ys
theorem left_go (c : PyData → Nat) : ∀ (ys pre : List PyData), ((List.range ys.length).filter fun k => decide (c (ys.getD k .none) < cntD (pre ++ ys.take (k + 1)) (ys.getD k .none))).map (fun k => ys.getD k .none) = leftG c pre ys
  | [], pre => rfl
  | y :: ys, pre => by
    have ih := left_go c ys (pre ++ [y])
    unfold leftG
    rw [List.length_cons, List.range_succ_eq_map, List.filter_cons, ← ih]
    have e : (((List.range ys.length).map Nat.succ).filter fun k => decide (c ((y :: ys).getD k .none) < cntD (pre ++ (y :: ys).take (k + 1)) ((y :: ys).getD k .none))).map (fun k => (y :: ys).getD k .none) =
        ((List.range ys.length).filter fun k => decide (c (ys.getD k .none) < cntD (pre ++ [y] ++ ys.take (k + 1)) (ys.getD k .none))).map fun k => ys.getD k .none := by
      rw [List.filter_map, List.map_map]
      simp only [List.append_assoc, List.cons_append, List.nil_append]
      rfl
    have t0 : pre ++ List.take (0 + 1) (y :: ys) = pre ++ [y] := by simp
    rw [t0]
    simp only [List.getD_cons_zero]
    by_cases h : c y < cntD (pre ++ [y]) y
    · simp only [h, decide_true, if_true, List.map_cons, List.getD_cons_zero, e]; rfl
    · simp only [h, decide_false, Bool.false_eq_true, if_false, e]; rfl
theorem left_eq (xs ys : List PyData) : leftD xs ys = leftG (cntD xs) [] ys := by
  rw [← left_go]
  unfold leftD leftK
  simp only [List.nil_append]

/-- one more to take away -/
noncomputable def bump (c : PyData → Nat) (d : PyData) (y : PyData) : Nat := c y + if PyData.eqv d y then 1 else 0
theorem leftG_P {c : PyData → Nat} : ∀ {ys pre : List PyData}, (∀ y ∈ ys, RowsP y) → ∀ y ∈ leftG c pre ys, RowsP y
  | [], pre, _, y, hy => nomatch hy
  | z :: ys, pre, h, y, hy => by
    unfold leftG at hy
    rcases List.mem_append.mp hy with hy | hy
    · split at hy
      · simp only [List.mem_singleton] at hy; rw [hy]; exact h z (by simp)
      · exact nomatch hy
    · exact leftG_P (fun q hq => h q (by simp [hq])) y hy
theorem left_same {c : PyData → Nat} {d : PyData} (hd : RowsP d) : ∀ {ys pre : List PyData}, (∀ y ∈ ys, RowsP y) → c d + 1 ≤ cntD pre d → leftG (bump c d) pre ys = leftG c pre ys
  | [], pre, _, _ => rfl
  | y :: ys, pre, h, hp => by
    have hy := h y (by simp)
    have ih := left_same (c := c) hd (ys := ys) (pre := pre ++ [y]) (fun q hq => h q (by simp [hq])) (by rw [cntD_append]; omega)
    unfold leftG
    rw [ih]
    congr 1
    by_cases e : y = d
    · subst e
      have e1 : cntD (pre ++ [y]) y = cntD pre y + 1 := by rw [cntD_append, cntD_cons, eqv_rowsR hd]; simp [cntD_nil]
      have e2 : bump c y y = c y + 1 := by unfold bump; rw [eqv_rowsR hd]; simp
      rw [e1, e2, if_pos (by omega), if_pos (by omega)]
    · have e2 : bump c d y = c y := by unfold bump; rw [eqv_rowsN hd hy (fun q => e q.symm)]; simp
      rw [e2]
theorem left_take {c : PyData → Nat} {d : PyData} (hd : RowsP d) : ∀ {ys pre : List PyData}, (∀ y ∈ ys, RowsP y) → cntD pre d ≤ c d →
    leftG (bump c d) pre ys = match posD d (leftG c pre ys) with | some j => (leftG c pre ys).eraseIdx j | none => leftG c pre ys
  | [], pre, _, _ => rfl
  | y :: ys, pre, h, hp => by
    have hy := h y (by simp)
    have hys : ∀ q ∈ ys, RowsP q := fun q hq => h q (by simp [hq])
    by_cases e : y = d
    · subst e
      have e1 : cntD (pre ++ [y]) y = cntD pre y + 1 := by rw [cntD_append, cntD_cons, eqv_rowsR hd]; simp [cntD_nil]
      have e2 : bump c y y = c y + 1 := by unfold bump; rw [eqv_rowsR hd]; simp
      unfold leftG
      rw [e1, e2, if_neg (by omega)]
      by_cases q : cntD pre y = c y
      · rw [if_pos (by omega)]
        have hs := left_same (c := c) hd (ys := ys) (pre := pre ++ [y]) hys (by omega)
        have hp0 : posD y ([y] ++ leftG c (pre ++ [y]) ys) = some 0 := by simp [posD, eqv_rowsR hd]
        rw [hp0, hs]
        simp
      · rw [if_neg (by omega)]
        simp only [List.nil_append]
        exact left_take hd hys (by omega)
    · have e2 : bump c d y = c y := by unfold bump; rw [eqv_rowsN hd hy (fun q => e q.symm)]; simp
      have e3 : cntD (pre ++ [y]) d = cntD pre d := by rw [cntD_append, cntD_cons, eqv_rowsN hy hd e]; simp [cntD_nil]
      have ih := left_take (c := c) hd (ys := ys) (pre := pre ++ [y]) hys (by omega)
      unfold leftG
      rw [e2, ih]
      by_cases q : c y < cntD (pre ++ [y]) y
      · simp only [q, if_true]
        have : posD d ([y] ++ leftG c (pre ++ [y]) ys) = (posD d (leftG c (pre ++ [y]) ys)).map (· + 1) := by
          show (if PyData.eqv y d then some 0 else _) = _
          rw [eqv_rowsN hy hd e]; rfl
        rw [this]
        cases posD d (leftG c (pre ++ [y]) ys) with
        | none => rfl
        | some j => simp
      · simp only [q, if_false, List.nil_append]
theorem left_has {c : PyData → Nat} {d : PyData} (hd : RowsP d) : ∀ {ys pre : List PyData}, (∀ y ∈ ys, RowsP y) → (d ∈ leftG c pre ys ↔ d ∈ ys ∧ c d < cntD (pre ++ ys) d)
  | [], pre, _ => by simp [leftG]
  | y :: ys, pre, h => by
    have hy := h y (by simp)
    have hys : ∀ q ∈ ys, RowsP q := fun q hq => h q (by simp [hq])
    have ih := left_has (c := c) hd (ys := ys) (pre := pre ++ [y]) hys
    have ea : pre ++ [y] ++ ys = pre ++ y :: ys := by simp
    rw [ea] at ih
    unfold leftG
    rw [List.mem_append, ih]
    by_cases e : y = d
    · subst e
      have e1 : cntD (pre ++ [y]) y = cntD pre y + 1 := by rw [cntD_append, cntD_cons, eqv_rowsR hd]; simp [cntD_nil]
      have e4 : cntD (pre ++ y :: ys) y = cntD pre y + (cntD ys y + 1) := by rw [cntD_append, cntD_cons, eqv_rowsR hd]; simp
      rw [e1, e4]
      constructor
      · rintro (q | ⟨q1, q2⟩)
        · split at q
          · exact ⟨by simp, by omega⟩
          · exact nomatch q
        · exact ⟨by simp, q2⟩
      · rintro ⟨_, q⟩
        by_cases z : y ∈ ys
        · exact .inr ⟨z, q⟩
        · have : cntD ys y = 0 := by
            unfold cntD
            rw [List.countP_eq_zero]
            intro a ha
            rw [eqv_rowsN (hys a ha) hd (fun w => z (w ▸ ha))]; simp
          exact .inl (by rw [if_pos (by omega)]; simp)
    · have : d ∉ (if c y < cntD (pre ++ [y]) y then [y] else []) := by
        split
        · simp; exact fun q => e q.symm
        · simp
      simp only [this, false_or, List.mem_cons]
      constructor
      · rintro ⟨a, b⟩; exact ⟨.inr a, b⟩
      · rintro ⟨a | a, b⟩
        · exact absurd a.symm e
        · exact ⟨a, b⟩
theorem posD_iff {d : PyData} (hd : RowsP d) {ys : List PyData} (h : ∀ y ∈ ys, RowsP y) : (∃ j, posD d ys = some j) ↔ d ∈ ys := by
  constructor
  · rintro ⟨j, hj⟩
    obtain ⟨h1, h2, _⟩ := posD_some hj
    rw [← (eqv_rows (h _ (List.getElem_mem h1)) hd).mp h2]
    exact List.getElem_mem h1
  · intro hm
    cases hp : posD d ys with
    | some j => exact ⟨j, rfl⟩
    | none => have := posD_none hp d hm; rw [eqv_rowsR hd] at this; cases this
theorem uld_plain {ys : List PyData} (hy : ∀ y ∈ ys, RowsP y) : ∀ {xs : List PyData}, (∀ x ∈ xs, RowsP x) → uldF xs ys = (leftG (cntD xs) [] ys, (missL xs ys).reverse)
  | [], _ => by
    have : ∀ pre zs, leftG (cntD []) pre zs = zs ∨ ∃ z ∈ zs, ¬ RowsP z := by
      intro pre zs
      induction zs generalizing pre with
      | nil => exact .inl rfl
      | cons z zs ih =>
        by_cases hz : RowsP z
        · rcases ih (pre ++ [z]) with q | ⟨w, q1, q2⟩
          · left
            unfold leftG
            rw [q, if_pos]; rfl
            rw [cntD_nil, cntD_append, cntD_cons, eqv_rowsR hz]; simp; omega
          · exact .inr ⟨w, by simp [q1], q2⟩
        · exact .inr ⟨z, by simp, hz⟩
    rcases this [] ys with q | ⟨z, q1, q2⟩
    · rw [q]; rfl
    · exact absurd (hy z q1) q2
  | x :: xs, h => by
    have hx := h x (by simp)
    have ih := uld_plain hy (xs := xs) fun q hq => h q (by simp [hq])
    have step : uldF (x :: xs) ys = uldStep (uldF xs ys) x := by unfold uldF; simp
    have hb : cntD (x :: xs) = bump (cntD xs) x := by
      funext y; rw [cntD_cons]; rfl
    have hpP : ∀ y ∈ leftG (cntD xs) [] ys, RowsP y := leftG_P hy
    have ht := left_take (c := cntD xs) hx (ys := ys) (pre := []) hy (by rw [cntD_nil]; omega)
    have hm := left_has (c := cntD xs) hx (ys := ys) (pre := []) hy
    rw [List.nil_append] at hm
    have hc : cntD (x :: xs) x = cntD xs x + 1 := by rw [cntD_cons, eqv_rowsR hx]; simp
    have hml : missL (x :: xs) ys = (if cntD ys x < cntD (x :: xs) x then [x] else []) ++ missL xs ys := rfl
    rw [step, ih, hml, hc, hb, ht]
    unfold uldStep
    cases hp : posD x (leftG (cntD xs) [] ys) with
    | some j =>
      have := hm.mp ((posD_iff hx hpP).mp ⟨j, hp⟩)
      simp only
      rw [if_neg (by omega)]; rfl
    | none =>
      have hn : ¬ x ∈ leftG (cntD xs) [] ys := fun q => by obtain ⟨j, hj⟩ := (posD_iff hx hpP).mpr q; rw [hp] at hj; cases hj
      have : ¬ cntD xs x < cntD ys x := by
        intro q
        refine hn (hm.mpr ⟨?_, q⟩)
        have hpos : 0 < cntD ys x := by omega
        unfold cntD at hpos
        rw [List.countP_pos_iff] at hpos
        obtain ⟨a, ha, he⟩ := hpos
        rw [← (eqv_rows (hy a ha) hx).mp he]; exact ha
      simp only
      rw [if_pos (by omega)]
      simp
theorem uld_bags {xs ys : List PyData} (hx : ∀ x ∈ xs, RowsP x) (hy : ∀ y ∈ ys, RowsP y) : uldF xs ys = (leftD xs ys, (missD xs ys).reverse) := by rw [uld_plain hy hx, left_eq, miss_eq]
end Oh

-- OhPj
namespace Oh
open PySem PySem.W

/-! ## sorted_list_difference, plain -/
theorem rows_totD : Tot RowsP ltD := rows_tot
noncomputable abbrev Sd (X : List PyData) : Prop := X.Pairwise fun a b => ltD b a = false
theorem cnt_zero {X : List PyData} {e : PyData} (hX : ∀ x ∈ X, RowsP x) (he : RowsP e) : cntD X e = 0 ↔ e ∉ X := by
  unfold cntD
  rw [List.countP_eq_zero]
  constructor
  · intro h hm
    exact h e hm (eqv_rowsR he)
  · intro h a ha
    rw [eqv_rowsN (hX a ha) he (fun q => h (q ▸ ha))]; simp
theorem perm_of_cnt : ∀ {as bs : List PyData}, (∀ x ∈ as, RowsP x) → (∀ x ∈ bs, RowsP x) → (∀ e, RowsP e → cntD as e = cntD bs e) → as.Perm bs
  | [], bs, _, hb, h => by
    cases bs with
    | nil => exact .nil
    | cons b bs =>
      have h1 := h b (hb b (by simp))
      rw [cntD_nil, cntD_cons, eqv_rowsR (hb b (by simp))] at h1
      simp at h1
  | a :: as, bs, ha, hb, h => by
    have hPa := ha a (by simp)
    have hm : a ∈ bs := by
      apply Classical.byContradiction
      intro q
      have h1 := h a hPa
      rw [(cnt_zero hb hPa).mpr q, cntD_cons, eqv_rowsR hPa] at h1
      simp at h1
    obtain ⟨s, t, rfl⟩ := List.append_of_mem hm
    have ih : as.Perm (s ++ t) := perm_of_cnt (fun x hx => ha x (by simp [hx])) (fun x hx => hb x (by simp at hx ⊢; rcases hx with q | q <;> simp [q])) fun e he => by
      have h1 := h e he
      rw [cntD_cons, cntD_append, cntD_cons] at h1
      rw [cntD_append]
      omega
    exact (ih.cons a).trans List.perm_middle.symm
theorem dw_facts {x : PyData} (hx : RowsP x) : ∀ {X : List PyData}, (∀ z ∈ X, RowsP z) → Sd (x :: X) →
    x ∉ X.dropWhile (fun y => PyData.eqv y x) ∧ (∀ e, RowsP e → e ≠ x → cntD (X.dropWhile fun y => PyData.eqv y x) e = cntD X e)
  | [], _, _ => ⟨by simp, fun e _ _ => rfl⟩
  | z :: X, hP, hs => by
    have hz := hP z (by simp)
    have hPX : ∀ w ∈ X, RowsP w := fun w hw => hP w (by simp [hw])
    rw [List.dropWhile_cons]
    by_cases e : z = x
    · subst e
      rw [if_pos (eqv_rowsR hx)]
      have hs' : Sd (z :: X) := (List.pairwise_cons.mp hs).2
      obtain ⟨h1, h2⟩ := dw_facts hx hPX hs'
      refine ⟨h1, fun e he hne => ?_⟩
      rw [h2 e he hne, cntD_cons, eqv_rowsN hz he (fun q => hne q.symm)]; simp
    · rw [if_neg (by rw [eqv_rowsN hz hx e]; simp)]
      refine ⟨fun hm => ?_, fun _ _ _ => rfl⟩
      rcases List.mem_cons.mp hm with q | q
      · exact e q.symm
      · obtain ⟨s1, s2⟩ := List.pairwise_cons.mp hs
        obtain ⟨s3, _⟩ := List.pairwise_cons.mp s2
        have a1 : ltD z x = false := s1 z (by simp)
        have a2 : ltD x z = false := s3 x q
        exact e (rows_totD.tot z x hz hx a1 a2)
theorem dw_sub {x : PyData} (X : List PyData) : (X.dropWhile fun y => PyData.eqv y x).Sublist X := List.dropWhile_sublist _
theorem sd_lt {x e : PyData} {X : List PyData} (hP : ∀ z ∈ x :: X, RowsP z) (hs : Sd (x :: X)) (he : e ∈ X) (hne : e ≠ x) : ltD x e = true := by
  have h1 : ltD e x = false := (List.pairwise_cons.mp hs).1 e he
  cases h2 : ltD x e with
  | true => rfl
  | false => exact absurd (rows_totD.tot e x (hP e (by simp [he])) (hP x (by simp)) h1 h2) hne

noncomputable def sldL : Nat → List PyData → List PyData → List PyData × List PyData
  | f + 1, x :: X, y :: Y => if pyC false x y then (x :: (sldL f (X.dropWhile fun z => PyData.eqv z x) (y :: Y)).1, (sldL f (X.dropWhile fun z => PyData.eqv z x) (y :: Y)).2)
      else if pyC true x y then ((sldL f (x :: X) (Y.dropWhile fun z => PyData.eqv z y)).1, y :: (sldL f (x :: X) (Y.dropWhile fun z => PyData.eqv z y)).2)
      else sldL f (X.dropWhile fun z => PyData.eqv z x) (Y.dropWhile fun z => PyData.eqv z y)
  | _, X, Y => (X, Y)
theorem sldL_nil1 (n : Nat) (Y : List PyData) : sldL n [] Y = ([], Y) := by cases n <;> simp [sldL]
theorem sldL_nil2 (n : Nat) (X : List PyData) : sldL n X [] = (X, []) := by cases n <;> cases X <;> simp [sldL]
theorem drop_tw (p : PyData → Bool) (l : List PyData) : l.drop (l.takeWhile p).length = l.dropWhile p := by
  have h : l.takeWhile p ++ l.dropWhile p = l := List.takeWhile_append_dropWhile
  exact (congrArg (List.drop (l.takeWhile p).length) h.symm).trans List.drop_left
theorem drop_skip (xs : List PyData) (e : PyData) (i : Nat) : xs.drop (skipD xs e i) = (xs.drop i).dropWhile fun y => PyData.eqv y e := by
  unfold skipD
  rw [← List.drop_drop, drop_tw]
theorem drop_getD {xs : List PyData} {i : Nat} (h : i < xs.length) : xs.drop i = xs.getD i .none :: xs.drop (i + 1) := by
  rw [List.drop_eq_getElem_cons h, List.getD_eq_getElem?_getD, List.getElem?_eq_getElem h]; rfl
theorem sldF_L (xs ys : List PyData) : ∀ (n i j : Nat) (m u : List PyData), sldF xs ys n i j m u = (m ++ (sldL n (xs.drop i) (ys.drop j)).1, u ++ (sldL n (xs.drop i) (ys.drop j)).2)
  | 0, i, j, m, u => by simp [sldF, sldL]
  | n + 1, i, j, m, u => by
    by_cases h : i < xs.length ∧ j < ys.length
    · have ex := drop_getD h.1
      have ey := drop_getD h.2
      rw [sldF, if_pos h]
      generalize xs.getD i .none = x at *
      generalize ys.getD j .none = y at *
      have el : sldL (n + 1) (xs.drop i) (ys.drop j) = if pyC false x y then (x :: (sldL n (xs.drop (skipD xs x (i + 1))) (ys.drop j)).1, (sldL n (xs.drop (skipD xs x (i + 1))) (ys.drop j)).2)
          else if pyC true x y then ((sldL n (xs.drop i) (ys.drop (skipD ys y (j + 1)))).1, y :: (sldL n (xs.drop i) (ys.drop (skipD ys y (j + 1)))).2)
          else sldL n (xs.drop (skipD xs x (i + 1))) (ys.drop (skipD ys y (j + 1))) := by
        rw [drop_skip, drop_skip]
        rw [ex, ey]
        rfl
      rw [el]
      by_cases h1 : pyC false x y = true
      · rw [if_pos h1, if_pos h1, sldF_L xs ys n]
        simp
      · rw [if_neg h1, if_neg h1]
        by_cases h2 : pyC true x y = true
        · rw [if_pos h2, if_pos h2, sldF_L xs ys n]
          simp
        · rw [if_neg h2, if_neg h2, sldF_L xs ys n]
    · rw [sldF_end h]
      rcases Nat.lt_or_ge i xs.length with hi | hi
      · have hj : ys.length ≤ j := by omega
        rw [List.drop_eq_nil_of_le hj, sldL_nil2]
      · rw [List.drop_eq_nil_of_le hi, sldL_nil1]
theorem sldL_sub : ∀ (n : Nat) (X Y : List PyData), (sldL n X Y).1.Sublist X ∧ (sldL n X Y).2.Sublist Y
  | 0, X, Y => by simp [sldL]
  | n + 1, [], Y => by rw [sldL_nil1]; simp
  | n + 1, x :: X, [] => by rw [sldL_nil2]; simp
  | n + 1, x :: X, y :: Y => by
    rw [sldL]
    split
    · obtain ⟨a, b⟩ := sldL_sub n (X.dropWhile fun z => PyData.eqv z x) (y :: Y)
      exact ⟨(a.trans (dw_sub X)).cons_cons x, b⟩
    · split
      · obtain ⟨a, b⟩ := sldL_sub n (x :: X) (Y.dropWhile fun z => PyData.eqv z y)
        exact ⟨a, (b.trans (dw_sub Y)).cons_cons y⟩
      · obtain ⟨a, b⟩ := sldL_sub n (X.dropWhile fun z => PyData.eqv z x) (Y.dropWhile fun z => PyData.eqv z y)
        exact ⟨(a.trans (dw_sub X)).cons x, (b.trans (dw_sub Y)).cons y⟩
theorem sldL_swap : ∀ (n : Nat) (X Y : List PyData), (∀ x ∈ X, RowsP x) → (∀ y ∈ Y, RowsP y) → sldL n X Y = ((sldL n Y X).2, (sldL n Y X).1)
  | 0, X, Y, _, _ => by simp [sldL]
  | n + 1, [], Y, _, _ => by rw [sldL_nil1, sldL_nil2]
  | n + 1, x :: X, [], _, _ => by rw [sldL_nil1, sldL_nil2]
  | n + 1, x :: X, y :: Y, hx, hy => by
    have px := hx x (by simp)
    have py := hy y (by simp)
    have hX : ∀ z ∈ X.dropWhile (fun z => PyData.eqv z x), RowsP z := fun z hz => hx z (by simp [(dw_sub X).subset hz])
    have hY : ∀ z ∈ Y.dropWhile (fun z => PyData.eqv z y), RowsP z := fun z hz => hy z (by simp [(dw_sub Y).subset hz])
    have e1 : pyC true y x = pyC false x y := pyC_gt py px
    have e2 : pyC true x y = pyC false y x := pyC_gt px py
    rw [sldL, sldL, e1, e2]
    by_cases h1 : pyC false x y = true
    · have h2 : pyC false y x = false := rows_totD.le px py h1
      rw [if_pos h1, h2, if_neg (by simp), if_pos h1, sldL_swap n _ (y :: Y) hX hy]
    · by_cases h2 : pyC false y x = true
      · rw [if_neg h1, if_pos h2, if_pos h2, sldL_swap n (x :: X) _ hx hY]
      · rw [if_neg h1, if_neg h2, if_neg h2, if_neg h1, sldL_swap n _ _ hX hY]

open Classical in
/-- how often e is to be told as lacking -/
noncomputable def wantN (X Y : List PyData) (e : PyData) : Nat := if e ∈ Y then 0 else if ∀ y ∈ Y, ltD y e = true then cntD X e else min 1 (cntD X e)
theorem want_zero {X Y : List PyData} {e : PyData} (h : cntD X e = 0) : wantN X Y e = 0 := by unfold wantN; rw [h]; split <;> (try split) <;> rfl
theorem want_congr {X X' Y Y' : List PyData} {e : PyData} (h1 : cntD X e = cntD X' e) (h2 : e ∈ Y ↔ e ∈ Y') (h3 : cntD X e ≠ 0 → ((∀ y ∈ Y, ltD y e = true) ↔ ∀ y ∈ Y', ltD y e = true)) : wantN X Y e = wantN X' Y' e := by
  by_cases h : cntD X e = 0
  · rw [want_zero h, want_zero (h1 ▸ h)]
  · unfold wantN
    rw [h1]
    by_cases q : e ∈ Y
    · rw [if_pos q, if_pos (h2.mp q)]
    · rw [if_neg q, if_neg (fun z => q (h2.mpr z))]
      by_cases z : ∀ y ∈ Y, ltD y e = true
      · rw [if_pos z, if_pos ((h3 h).mp z)]
      · rw [if_neg z, if_neg (fun w => z ((h3 h).mpr w))]
theorem sldL_cnt : ∀ (n : Nat) (X Y : List PyData), (∀ x ∈ X, RowsP x) → (∀ y ∈ Y, RowsP y) → Sd X → Sd Y → X.length + Y.length ≤ n → ∀ e, RowsP e → cntD (sldL n X Y).1 e = wantN X Y e
  | n, [], Y, _, _, _, _, _, e, he => by rw [sldL_nil1, want_zero (cntD_nil e)]; rfl
  | n, x :: X, [], _, _, _, _, _, e, he => by rw [sldL_nil2]; unfold wantN; simp
  | 0, x :: X, y :: Y, _, _, _, _, hn, _, _ => by simp at hn
  | n + 1, x :: X, y :: Y, hx, hy, sx, sy, hn, e, he => by
    have px := hx x (by simp)
    have py := hy y (by simp)
    have hX' : ∀ z ∈ X, RowsP z := fun z hz => hx z (by simp [hz])
    have hY' : ∀ z ∈ Y, RowsP z := fun z hz => hy z (by simp [hz])
    have subX := dw_sub (x := x) X
    have subY := dw_sub (x := y) Y
    have hX : ∀ z ∈ X.dropWhile (fun z => PyData.eqv z x), RowsP z := fun z hz => hX' z (subX.subset hz)
    have hY : ∀ z ∈ Y.dropWhile (fun z => PyData.eqv z y), RowsP z := fun z hz => hY' z (subY.subset hz)
    obtain ⟨x1, x2⟩ := dw_facts px hX' sx
    obtain ⟨y1, y2⟩ := dw_facts py hY' sy
    have sX : Sd (X.dropWhile fun z => PyData.eqv z x) := (List.pairwise_cons.mp sx).2.sublist subX
    have sY : Sd (Y.dropWhile fun z => PyData.eqv z y) := (List.pairwise_cons.mp sy).2.sublist subY
    have lX := subX.length_le
    have lY := subY.length_le
    simp only [List.length_cons] at hn
    generalize hDX : X.dropWhile (fun z => PyData.eqv z x) = X₂ at *
    generalize hDY : Y.dropWhile (fun z => PyData.eqv z y) = Y₂ at *
    have e2 : pyC true x y = ltD y x := pyC_gt px py
    have memY : e ≠ y → (e ∈ y :: Y ↔ e ∈ Y₂) := fun hne => by
      have c1 := y2 e he hne
      have : (e ∉ Y) ↔ (e ∉ Y₂) := by rw [← cnt_zero hY' he, ← cnt_zero hY he, c1]
      rw [List.mem_cons]
      constructor
      · rintro (q | q)
        · exact absurd q hne
        · exact Classical.byContradiction fun z => (this.mpr z) q
      · intro q; exact .inr (subY.subset q)
    have cX : e ≠ x → cntD (x :: X) e = cntD X₂ e := fun hne => by rw [cntD_cons, eqv_rowsN px he (fun q => hne q.symm), x2 e he hne]; simp
    have allY : ltD y e = true → ((∀ z ∈ y :: Y, ltD z e = true) ↔ ∀ z ∈ Y₂, ltD z e = true) := fun hlt => by
      constructor
      · intro h z hz; exact h z (by simp [subY.subset hz])
      · intro h z hz
        by_cases q : z = y
        · rw [q]; exact hlt
        · have hzP : RowsP z := hy z hz
          have hzY : z ∈ Y := by rcases List.mem_cons.mp hz with w | w; exact absurd w q; exact w
          have c1 := y2 z hzP q
          refine h z (Classical.byContradiction fun w => ?_)
          have := (cnt_zero hY hzP).mpr w
          rw [c1] at this
          exact ((cnt_zero hY' hzP).mp this) hzY
    have belowX : ∀ z, RowsP z → z ∈ x :: X → z = x ∨ ltD x z = true := fun z hz hm => by
      rcases List.mem_cons.mp hm with q | q
      · exact .inl q
      · by_cases w : z = x
        · exact .inl w
        · exact .inr (sd_lt hx sx q w)
    have belowY : ∀ z, RowsP z → z ∈ y :: Y → z = y ∨ ltD y z = true := fun z hz hm => by
      rcases List.mem_cons.mp hm with q | q
      · exact .inl q
      · by_cases w : z = y
        · exact .inl w
        · exact .inr (sd_lt hy sy q w)
    have mX : cntD (x :: X) e ≠ 0 → e ∈ x :: X := fun h => Classical.byContradiction fun w => h ((cnt_zero hx he).mpr w)
    rw [sldL, hDX, hDY, e2]
    by_cases h1 : pyC false x y = true
    · rw [if_pos h1]
      have ih := sldL_cnt n X₂ (y :: Y) hX hy sX sy (by simp; omega) e he
      show cntD (x :: (sldL n X₂ (y :: Y)).1) e = _
      rw [cntD_cons, ih]
      by_cases hex : e = x
      · subst hex
        have nY : e ∉ y :: Y := fun hm => by
          rcases belowY e he hm with q | q
          · rw [q] at h1; rw [rows_tot.irr y py] at h1; cases h1
          · have := rows_totD.le px py h1; rw [this] at q; cases q
        have nall : ¬ ∀ z ∈ y :: Y, ltD z e = true := fun h => by
          have := h y (by simp); rw [rows_totD.le px py h1] at this; cases this
        rw [want_zero ((cnt_zero hX he).mpr x1), eqv_rowsR he]
        unfold wantN
        rw [if_neg nY, if_neg nall, cntD_cons, eqv_rowsR he]
        simp
      · rw [eqv_rowsN px he (fun q => hex q.symm)]
        simp only [Bool.false_eq_true, if_false, Nat.add_zero]
        exact want_congr (cX hex).symm Iff.rfl fun _ => Iff.rfl
    · have h1' : ltD x y = false := by simpa using h1
      rw [if_neg h1]
      by_cases h2 : ltD y x = true
      · rw [if_pos h2]
        have ih := sldL_cnt n (x :: X) Y₂ hx hY sx sY (by simp; omega) e he
        show cntD (sldL n (x :: X) Y₂).1 e = _
        rw [ih]
        by_cases h0 : cntD (x :: X) e = 0
        · rw [want_zero h0, want_zero h0]
        · have hlt : ltD y e = true := by
            rcases belowX e he (mX h0) with q | q
            · rw [q]; exact h2
            · exact rows_totD.tr y x e py px he h2 q
          have hne : e ≠ y := fun q => by rw [q] at hlt; rw [rows_totD.irr y py] at hlt; cases hlt
          exact want_congr rfl (memY hne).symm fun _ => (allY hlt).symm
      · have h2' : ltD y x = false := by simpa using h2
        have hxy : x = y := rows_totD.tot x y px py h1' h2'
        rw [if_neg h2]
        have ih := sldL_cnt n X₂ Y₂ hX hY sX sY (by omega) e he
        rw [ih]
        by_cases hex : e = x
        · have hm : e ∈ y :: Y := by rw [hex, hxy]; simp
          have z0 : cntD X₂ e = 0 := by rw [hex]; exact (cnt_zero hX px).mpr x1
          rw [want_zero z0]
          unfold wantN
          rw [if_pos hm]
        · have hne : e ≠ y := by rw [← hxy]; exact hex
          have c := cX hex
          by_cases h0 : cntD X₂ e = 0
          · rw [want_zero h0, want_zero (c.trans h0)]
          · have hm := mX (by rw [c]; exact h0)
            have hlt : ltD y e = true := by
              rcases belowX e he hm with q | q
              · exact absurd q hex
              · rw [← hxy]; exact q
            exact want_congr c.symm (memY hne).symm fun _ => (allY hlt).symm
end Oh

-- OhPk
namespace Oh
open PySem PySem.W

theorem hasD_iff {ys : List PyData} {x : PyData} (hy : ∀ y ∈ ys, RowsP y) (hx : RowsP x) : hasD ys x = true ↔ x ∈ ys := by
  unfold hasD
  rw [List.any_eq_true]
  constructor
  · rintro ⟨y, h1, h2⟩
    rw [← (eqv_rows (hy y h1) hx).mp h2]; exact h1
  · intro h; exact ⟨x, h, eqv_rowsR hx⟩
theorem maxD_greatest {ys : List PyData} (hP : ∀ y ∈ ys, RowsP y) : ∀ y ∈ ys, ltD (maxD ys) y = false := by
  intro y hy
  obtain ⟨i, hi, rfl⟩ := List.getElem_of_mem hy
  have hg : ∀ k, k < ys.length → RowsP (ys.getD k .none) := fun k hk => hP _ (getD_mem hk)
  have hgt : ∀ i j, i < ys.length → j < ys.length → pyC true (ys.getD i .none) (ys.getD j .none) = ltD (ys.getD j .none) (ys.getD i .none) := fun i j h1 h2 => pyC_gt (hg i h1) (hg j h2)
  have hb := argBest_best (bt := fun i j => pyC true (ys.getD i .none) (ys.getD j .none)) (N := ys.length)
    (fun i hi => by rw [hgt i i hi hi]; exact rows_totD.irr _ (hg i hi))
    (fun i j hi hj h => by rw [hgt j i hj hi]; rw [hgt i j hi hj] at h; exact rows_totD.le (hg j hj) (hg i hi) h)
    (fun i j k hi hj hk h1 h2 => by
      rw [hgt j i hj hi] at h1
      rw [hgt k j hk hj] at h2
      rw [hgt k i hk hi]
      exact rows_totD.leTr (hg k hk) (hg j hj) (hg i hi) h2 h1) (ys.length - 1) (by omega) i (by omega)
  have hm : argBest (fun i j => pyC true (ys.getD i .none) (ys.getD j .none)) (ys.length - 1) < ys.length := Nat.lt_of_le_of_lt (argBest_le _ _) (by omega)
  rw [hgt i _ hi hm] at hb
  have e : ys[i] = ys.getD i .none := by rw [List.getD_eq_getElem?_getD, List.getElem?_eq_getElem hi]; rfl
  rw [e]
  exact hb
theorem top_iff {ys : List PyData} {x : PyData} (hy : ∀ y ∈ ys, RowsP y) (hx : RowsP x) : (ys.isEmpty || pyC true x (maxD ys)) = true ↔ ∀ y ∈ ys, ltD y x = true := by
  cases hys : ys with
  | nil => simp
  | cons z zs =>
    rw [← hys]
    have hpos : 0 < ys.length := by rw [hys]; simp
    have hm := maxD_mem hpos
    have he : ys.isEmpty = false := by rw [hys]; rfl
    rw [he, Bool.false_or, pyC_gt hx (hy _ hm)]
    constructor
    · intro h y hm'
      cases hl : ltD y x with
      | true => rfl
      | false =>
        have := rows_totD.leTr (a := x) (b := y) (c := maxD ys) hx (hy y hm') (hy _ hm) hl (maxD_greatest hy y hm')
        rw [this] at h; cases h
    · intro h; exact h _ hm
theorem lack_cnt {xs ys : List PyData} (hx : ∀ x ∈ xs, RowsP x) (hy : ∀ y ∈ ys, RowsP y) {e : PyData} (he : RowsP e) : ∀ k, k ≤ xs.length → cntD (lackN xs ys k) e = wantN (xs.take k) ys e
  | 0, _ => by rw [want_zero (by simp [cntD])]; rfl
  | k + 1, hk => by
    have ih := lack_cnt hx hy he k (by omega)
    have xm := getD_mem (es := xs) (p := k) (by omega)
    have xg := getD_some (es := xs) (p := k) (by omega)
    have tk : xs.take (k + 1) = xs.take k ++ [xs.getD k .none] := by rw [List.take_add_one, xg]; rfl
    have px := hx _ xm
    have hxt : ∀ z ∈ xs.take k, RowsP z := fun z hz => hx z (List.mem_of_mem_take hz)
    have st : lackN xs ys (k + 1) = if lackT xs ys k then lackN xs ys k ++ [xs.getD k .none] else lackN xs ys k := rfl
    rw [st, tk]
    unfold lackT
    generalize xs.getD k .none = x at *
    have hi := hasD_iff hy px
    have ht := hasD_iff hxt px
    have hto := top_iff hy px
    by_cases hex : e = x
    · subst hex
      have c1 : cntD (xs.take k ++ [e]) e = cntD (xs.take k) e + 1 := by rw [cntD_append, cntD_cons, eqv_rowsR he]; simp [cntD_nil]
      have c2 : cntD (lackN xs ys k ++ [e]) e = cntD (lackN xs ys k) e + 1 := by rw [cntD_append, cntD_cons, eqv_rowsR he]; simp [cntD_nil]
      by_cases h1 : e ∈ ys
      · have w1 : wantN (xs.take k) ys e = 0 := by unfold wantN; rw [if_pos h1]
        have w2 : wantN (xs.take k ++ [e]) ys e = 0 := by unfold wantN; rw [if_pos h1]
        rw [hi.mpr h1, w2]
        simp only [Bool.not_true, Bool.false_and, Bool.false_eq_true, if_false]
        rw [ih, w1]
      · have hf : hasD ys e = false := by cases q : hasD ys e with | false => rfl | true => exact absurd (hi.mp q) h1
        by_cases h2 : ∀ y ∈ ys, ltD y e = true
        · have w1 : wantN (xs.take k) ys e = cntD (xs.take k) e := by unfold wantN; rw [if_neg h1, if_pos h2]
          have w2 : wantN (xs.take k ++ [e]) ys e = cntD (xs.take k ++ [e]) e := by unfold wantN; rw [if_neg h1, if_pos h2]
          rw [hf, hto.mpr h2, w2, c1]
          simp only [Bool.not_false, Bool.or_true, Bool.and_self, if_true]
          rw [c2, ih, w1]
        · have w1 : wantN (xs.take k) ys e = min 1 (cntD (xs.take k) e) := by unfold wantN; rw [if_neg h1, if_neg h2]
          have w2 : wantN (xs.take k ++ [e]) ys e = min 1 (cntD (xs.take k ++ [e]) e) := by unfold wantN; rw [if_neg h1, if_neg h2]
          have hn : (ys.isEmpty || pyC true e (maxD ys)) = false := by cases q : (ys.isEmpty || pyC true e (maxD ys)) with | false => rfl | true => exact absurd (hto.mp q) h2
          rw [hf, hn, w2, c1]
          by_cases h3 : e ∈ xs.take k
          · have hz : cntD (xs.take k) e ≠ 0 := fun q => (cnt_zero hxt he).mp q h3
            rw [ht.mpr h3]
            simp only [Bool.not_false, Bool.not_true, Bool.or_false, Bool.and_false, Bool.false_eq_true, if_false]
            rw [ih, w1]; omega
          · have hz : cntD (xs.take k) e = 0 := (cnt_zero hxt he).mpr h3
            have hf3 : hasD (xs.take k) e = false := by cases q : hasD (xs.take k) e with | false => rfl | true => exact absurd (ht.mp q) h3
            rw [hf3]
            simp only [Bool.not_false, Bool.true_or, Bool.and_self, if_true]
            rw [c2, ih, w1]; omega
    · have c1 : cntD (xs.take k ++ [x]) e = cntD (xs.take k) e := by rw [cntD_append, cntD_cons, eqv_rowsN px he (fun q => hex q.symm)]; simp [cntD_nil]
      have c2 : cntD (lackN xs ys k ++ [x]) e = cntD (lackN xs ys k) e := by rw [cntD_append, cntD_cons, eqv_rowsN px he (fun q => hex q.symm)]; simp [cntD_nil]
      have w : wantN (xs.take k ++ [x]) ys e = wantN (xs.take k) ys e := want_congr c1 Iff.rfl fun _ => Iff.rfl
      rw [w]
      split
      · rw [c2, ih]
      · exact ih
theorem cnt_perm {as bs : List PyData} (h : as.Perm bs) (e : PyData) : cntD as e = cntD bs e := h.countP_eq _
theorem isort_P {xs : List PyData} (h : ∀ x ∈ xs, RowsP x) : ∀ x ∈ isort ltD xs, RowsP x := fun x hx => h x (isort_perm.mem_iff.mp hx)
theorem one_lack {xs ys : List PyData} (hx : ∀ x ∈ xs, RowsP x) (hy : ∀ y ∈ ys, RowsP y) {n : Nat} (hn : xs.length + ys.length ≤ n) : (sldL n (isort ltD xs) (isort ltD ys)).1 = isort ltD (lackN xs ys xs.length) := by
  have lP : ∀ z ∈ lackN xs ys xs.length, RowsP z := fun z hz => hx z ((lackN_mem xs ys xs.length (Nat.le_refl _)).1 z hz)
  obtain ⟨a1, a2⟩ := isort_of rows_totD hx
  obtain ⟨b1, b2⟩ := isort_of rows_totD hy
  obtain ⟨c1, c2⟩ := isort_of rows_totD lP
  have sub := (sldL_sub n (isort ltD xs) (isort ltD ys)).1
  have sP : ∀ z ∈ (sldL n (isort ltD xs) (isort ltD ys)).1, RowsP z := fun z hz => isort_P hx z (sub.subset hz)
  refine sorted_unique rows_totD sP (perm_of_cnt sP (isort_P lP) fun e he => ?_) (a2.sublist sub) c2
  rw [sldL_cnt n _ _ (isort_P hx) (isort_P hy) a2 b2 (by rw [a1.length_eq, b1.length_eq]; exact hn) e he, cnt_perm c1 e, lack_cnt hx hy he xs.length (Nat.le_refl _), List.take_length]
  exact want_congr (cnt_perm a1 e) b1.mem_iff fun _ => ⟨fun h y hm => h y (b1.mem_iff.mpr hm), fun h y hm => h y (b1.mem_iff.mp hm)⟩
theorem sld_lack {xs ys : List PyData} (hx : ∀ x ∈ xs, RowsP x) (hy : ∀ y ∈ ys, RowsP y) : sld (isort ltD xs) (isort ltD ys) = (isort ltD (lackN xs ys xs.length), isort ltD (lackN ys xs ys.length)) := by
  have l1 : (isort ltD xs).length = xs.length := isort_perm.length_eq
  have l2 : (isort ltD ys).length = ys.length := isort_perm.length_eq
  unfold sld
  rw [sldF_L, List.drop_zero, List.drop_zero, List.nil_append, List.nil_append, l1, l2, one_lack hx hy (Nat.le_refl _), sldL_swap _ _ _ (isort_P hx) (isort_P hy)]
  simp only
  rw [one_lack hy hx (by omega)]

/-! ## not both end alike -/
theorem skip_max {R : List PyData} (hP : ∀ x ∈ R, RowsP x) (hs : Sd R) {i : Nat} (hi : i < R.length) (h : skipD R (R.getD i .none) (i + 1) = R.length) : ∀ t ∈ R, ltD (R.getD i .none) t = false := by
  intro t ht
  obtain ⟨m, hm, rfl⟩ := List.getElem_of_mem ht
  have ei : R.getD i .none = R[i] := by rw [List.getD_eq_getElem?_getD, List.getElem?_eq_getElem hi]; rfl
  have pi := hP R[i] (List.getElem_mem hi)
  rw [ei] at h ⊢
  rcases Nat.lt_trichotomy m i with q | q | q
  · exact List.pairwise_iff_getElem.mp hs m i hm hi q
  · subst q; exact rows_totD.irr _ pi
  · have hmd : R[m] ∈ R.drop (i + 1) := by
      rw [List.mem_drop_iff_getElem]
      exact ⟨m - (i + 1), by omega, by congr 1; omega⟩
    have htw : (R.drop (i + 1)).takeWhile (fun y => PyData.eqv y R[i]) = R.drop (i + 1) := by
      refine (List.takeWhile_sublist _).eq_of_length ?_
      unfold skipD at h
      simp only [List.length_drop]
      omega
    rw [← htw] at hmd
    have := List.all_eq_true.mp (List.all_takeWhile (l := R.drop (i + 1)) (p := fun y => PyData.eqv y R[i])) _ hmd
    rw [(eqv_rows (hP _ (List.getElem_mem hm)) pi).mp this]
    exact rows_totD.irr _ pi
theorem no_both {xs ys : List PyData} (hx : ∀ x ∈ xs, RowsP x) (hy : ∀ y ∈ ys, RowsP y) {t : PyData} (ht : t ∈ ys) (hlt : ∀ d ∈ xs, ltD d t = true) : NoBoth (isort ltD xs) (isort ltD ys) ∧ NoBoth (isort ltD ys) (isort ltD xs) := by
  obtain ⟨a1, a2⟩ := isort_of rows_totD hx
  obtain ⟨b1, b2⟩ := isort_of rows_totD hy
  have hX := isort_P hx
  have hY := isort_P hy
  have ht' : t ∈ isort ltD ys := b1.mem_iff.mpr ht
  have hlt' : ∀ d ∈ isort ltD xs, ltD d t = true := fun d hd => hlt d (a1.mem_iff.mp hd)
  generalize isort ltD xs = S at *
  generalize isort ltD ys = R at *
  constructor
  · intro i j hi hj h1 h2 _
    have pi := hX _ (getD_mem hi)
    have pj := hY _ (getD_mem hj)
    rw [pyC_gt pi pj] at h2
    have e := rows_totD.tot _ _ pi pj h1 h2
    have sl := skipD_le (xs := R) (e := R.getD j .none) (i := j + 1) (by omega)
    rcases Nat.lt_or_ge (skipD R (R.getD j .none) (j + 1)) R.length with q | q
    · exact q
    · have h3 := skip_max hY b2 hj (by omega) t ht'
      rw [← e, hlt' _ (getD_mem hi)] at h3; cases h3
  · intro i j hi hj h1 h2 h3
    have pi := hY _ (getD_mem hi)
    have pj := hX _ (getD_mem hj)
    rw [pyC_gt pi pj] at h2
    have e := rows_totD.tot _ _ pi pj h1 h2
    have h4 := skip_max hY b2 hi h3 t ht'
    rw [e, hlt' _ (getD_mem hj)] at h4; cases h4
end Oh

-- OhLw
namespace Oh
open PySem PySem.W PyProof.Rows PySem.SeqAt PySem.Calls PySem.MeetsSeq

section
variable {prog : Program} {w : World} {A : Around} {hb g : Heap} {I M : List Addr} {env : Env} {ρ : Store} {K : Frag}
/-- f([..], ..): a new list is turned, and dropped -/
theorem pe_callF {f : Str} {fa : Addr} {e : PySem.Expr} {es : List PySem.Expr} {cs ds cs' : List PyData} {d : PyData} {lv : Nat} {P : List PyData → List PyData → PyData → List PyData → Prop} {p pos : Pos} (B : BaseOk K hb) (C : FnIO prog w hb lv fa P) (R : Rm lv A) (hf : glb env.scope f = true) (hn : nsIn K mainGlobals f = some (some (.ref fa))) (hk : keepIn K (.ref fa) = true)
    (h1 : PF prog w A hb g I M env ρ e cs) (hs : ∀ a, PEs prog w A hb g I (a :: M) env ρ es ds) (hp : P cs ds d cs') (he : starEach (e :: es) env = (false, eval e env) :: starEach es env := by rfl)
    (hpl : (backTo pos (starEach es env)).any (·.1) = false := by rfl) : PE prog w A hb g I M env ρ (.Call (.Name f p) (e :: es) [] pos) d := fun s S mL n Q E k => by
  refine Call_Name rfl (St.glob B S hf hn (callWith_K B.X hk (wpAny_items_cons ((h1 s S).then n fun u h₁ tk₁ k₁ n₁ r₁ => ?_) he) he hpl))
  obtain ⟨a, ws, rfl, ha, l, r⟩ := r₁
  have hoa : ∃ o, h₁.get? a = some o := by obtain ⟨c, e⟩ := id l; exact ⟨_, e⟩
  have S₁ := S.addM ha k₁ (fun mL' n' => by rw [ns_unique n n']; exact n₁) hoa
  refine (hs a pos { s with heap := h₁, toks := tk₁ } S₁).then n₁ fun vs h₂ tk₂ k₂ n₂ r₂ => ?_
  have S₂ := S₁.grow' n₁ k₂ n₂
  refine ⟨B.X.keeps fun b o e => S₂.kb b o (by simp) e, ?_⟩
  have hab : hb.get? a = none := by
    cases e : hb.get? a with
    | none => rfl
    | some o => have := S.kb a o (by simp) e; rw [ha] at this; cases this
  have l₂ : LstAt h₂ a ws := LstAt.keep k₂ (by simpa using ns_not_list n₁ l.isList) l
  refine C A { s with heap := h₂, toks := tk₂ } (a :: M) a ws vs cs ds d cs' hp R S₂.kb hab S₂.ob (by simp) l₂ (S₁.rl k₂ r) r₂ Q E fun v h₃ tk₃ ws' k₃ l₃ r₃ rv => ?_
  refine k v h₃ tk₃ (fun b o hb' e => ?_) (ns_sameBut k₃ l₂ _ n₂) (rv.sub fun b hb' => List.mem_cons_of_mem _ hb')
  refine k₃ b o ?_ (k₂ b o hb' (k₁ b o hb' e))
  simp only [List.mem_singleton]
  intro q; rw [q, ha] at e; cases e

/-- f(..), a def that may note this frame -/
theorem pe_callR {f : Str} {fa : Addr} {e : PySem.Expr} {es : List PySem.Expr} {ds : List PyData} {d : PyData} {lv : Nat} {P : List PyData → PyData → Prop} {p pos : Pos} (B : BaseOk K hb) (C : FnR prog w hb lv fa P) (R : Rm lv A) (hfr : A.frames = some [env]) (hff : env.frame = some env.locals) (hf : glb env.scope f = true) (hn : nsIn K mainGlobals f = some (some (.ref fa))) (hk : keepIn K (.ref fa) = true)
    (hs : PEs prog w A hb g I M env ρ (e :: es) ds) (hp : P ds d) (he : starEach (e :: es) env = (false, eval e env) :: starEach es env := by rfl) (hpl : (backTo pos (starEach es env)).any (·.1) = false := by rfl) :
    PE prog w A hb g I M env ρ (.Call (.Name f p) (e :: es) [] pos) d := fun s S mL n Q E k => by
  refine Call_Name rfl (St.glob B S hf hn (callWith_K B.X hk ((hs pos s S).then n fun vs h₁ tk₁ k₁ n₁ r => ?_) he hpl))
  have S₁ := S.grow' n k₁ n₁
  refine ⟨B.X.keeps fun b o e => S₁.kb b o (by simp) e, ?_⟩
  have hLb : hb.get? env.locals = none := by
    cases e : hb.get? env.locals with
    | none => rfl
    | some o => exact (ne_of_kept S.L1 (S.bg _ o e).2 (S.bg _ o e).1 rfl).elim
  refine C A { s with heap := h₁, toks := tk₁ } M env env.locals mL vs ds d hp R hfr hff (by rw [S.kind]; decide) n₁ hLb S.LM S₁.kb S₁.ob r Q E fun v h₂ tk₂ k₂ n₂ rv => ?_
  exact k v h₂ tk₂ (k₁.trans k₂) n₂ rv

/-- f(l, m), two new lists that are turned; the def may note this frame -/
theorem pe_callU {f : Str} {fa : Addr} {e1 e2 : PySem.Expr} {xs ys : List PyData} {d : PyData} {lv : Nat} {P : List PyData → List PyData → PyData → Prop} {p pos : Pos} (B : BaseOk K hb) (C : FnU prog w hb lv fa P) (R : Rm lv A) (hfr : A.frames = some [env]) (hff : env.frame = some env.locals) (hf : glb env.scope f = true) (hn : nsIn K mainGlobals f = some (some (.ref fa))) (hk : keepIn K (.ref fa) = true)
    (h1 : PF prog w A hb g I M env ρ e1 xs) (h2 : ∀ a, PF prog w A hb g I (a :: M) env ρ e2 ys) (hp : P xs ys d) (he : starEach [e1, e2] env = (false, eval e1 env) :: starEach [e2] env := by rfl) (he2 : starEach [e2] env = (false, eval e2 env) :: starEach [] env := by rfl)
    (hpl : (backTo pos (starEach [e2] env)).any (·.1) = false := by rfl) : PE prog w A hb g I M env ρ (.Call (.Name f p) [e1, e2] [] pos) d := fun s S mL n Q E k => by
  refine Call_Name rfl (St.glob B S hf hn (callWith_K B.X hk (wpAny_items_cons ((h1 s S).then n fun u h₁ tk₁ k₁ n₁ r₁ => ?_) he) he hpl))
  obtain ⟨a, ws, rfl, ha, l, r⟩ := r₁
  have hoa : ∃ o, h₁.get? a = some o := by obtain ⟨c, e⟩ := id l; exact ⟨_, e⟩
  have S₁ := S.addM ha k₁ (fun mL' n' => by rw [ns_unique n n']; exact n₁) hoa
  refine wpAny_items_cons ((h2 a { s with heap := h₁, toks := tk₁ } S₁).then n₁ fun u h₂ tk₂ k₂ n₂ r₂ => wpAny_items_nil ?_) he2
  obtain ⟨b, vs, rfl, hb₁, l₂, r₂⟩ := r₂
  have S₂ := S₁.grow' n₁ k₂ n₂
  refine ⟨B.X.keeps fun b o e => S₂.kb b o (by simp) e, ?_⟩
  have hb₁ : h₁.get? b = none := hb₁
  have hab : a ≠ b := fun q => by obtain ⟨o, ho⟩ := hoa; rw [q, hb₁] at ho; cases ho
  have hbs : s.heap.get? b = none := none_of_keep n n₁ k₁ hb₁
  have nb : ∀ x, s.heap.get? x = none → hb.get? x = none := fun x hx => by
    cases e : hb.get? x with
    | none => rfl
    | some o => have := S.kb x o (by simp) e; rw [hx] at this; cases this
  have nM : ∀ x, s.heap.get? x = none → x ∉ M := fun x hx q => by obtain ⟨o, ho⟩ := S.ob x q; rw [hx] at ho; cases ho
  have hLb : hb.get? env.locals = none := by
    cases e : hb.get? env.locals with
    | none => rfl
    | some o => exact (ne_of_kept S.L1 (S.bg _ o e).2 (S.bg _ o e).1 rfl).elim
  have la : LstAt h₂ a ws := LstAt.keep k₂ (by simpa using ns_not_list n₁ l.isList) l
  have ra : RepL (a :: b :: M) h₂ ws xs := by
    have q1 : RepL (b :: a :: M) h₁ ws xs := r.other fun x hx => by
      rcases List.mem_cons.mp hx with rfl | hx
      · exact .inr hb₁
      · exact .inl hx
    exact (q1.keep (k₂.sub fun x hx => by simp only [List.mem_singleton] at hx; rw [hx]; simp [S.LM])).sub fun x hx => by simp only [List.mem_cons] at hx ⊢; rcases hx with h | h | h <;> simp [h]
  have rb : RepL (a :: b :: M) h₂ vs ys := r₂.sub fun x hx => by simp only [List.mem_cons] at hx ⊢; rcases hx with h | h | h <;> simp [h]
  refine C A { s with heap := h₂, toks := tk₂ } M env env.locals mL a b ws vs xs ys d hp R hfr hff (by rw [S.kind]; decide) n₂ hLb S.LM S₂.kb (fun x hx => S₂.ob x (List.mem_cons_of_mem _ hx)) hab (nM a ha) (nM b hbs) (nb a ha) (nb b hbs) la l₂ ra rb Q E fun v h₃ tk₃ k₃ n₃ rv => ?_
  refine k v h₃ tk₃ (fun x o hx e => ?_) n₃ rv
  refine k₃ x o ?_ (k₂ x o hx (k₁ x o hx e))
  simp only [List.mem_cons, List.not_mem_nil, or_false, not_or] at hx ⊢
  refine ⟨hx, fun q => ?_, fun q => ?_⟩
  · rw [q, ha] at e; cases e
  · rw [q, hbs] at e; cases e

/-- the same data on both sides -/
theorem pt_neSame {l r : PySem.Expr} {d : PyData} {p : Pos} (hu : A.units + 64 < cLine) (hd : d.depth ≤ 64) (hl : PO prog w A hb g I M env ρ l d) (hr : PO prog w A hb g I M env ρ r d) (hm : behindInMarks .NotEq r = false := by rfl) : PT prog w A hb g I M env ρ (.Compare l [.NotEq] [r] p) false :=
  pt_cmp hl hr hm fun s u v Q E ru rv h => cm_ne hu hd hd ru rv (by rw [PySem.SeqAt.eqv_refl d ru.lay]; exact h)
theorem pe_eqSame {l r : PySem.Expr} {d : PyData} {p : Pos} (hu : A.units + 64 < cLine) (hd : d.depth ≤ 64) (hl : PO prog w A hb g I M env ρ l d) (hr : PO prog w A hb g I M env ρ r d) (hm : behindInMarks .Eq r = false := by rfl) : PE prog w A hb g I M env ρ (.Compare l [.Eq] [r] p) (.bool true) :=
  pe_cmp hl hr hm fun s u v Q E ru rv h => cm_eq hu hd hd ru rv (by rw [PySem.SeqAt.eqv_refl d ru.lay]; exact h)
/-- x = a + b + c + d, lists -/
theorem x_assignAdd4 {x : Str} {p pos p1 p2 p3 : Pos} {e1 e2 e3 e4 : PySem.Expr} {as bs cs ds es : List PyData} {rest : List Stmt} {s : Shared} {Q : Flow → Shared → Prop} {E : Value → Shared → Prop} (S : St hb g I M env ρ s.heap)
    (h1 : PO prog w A hb g I M env ρ e1 (.list as)) (h2 : PO prog w A hb g I M env ρ e2 (.list bs)) (h3 : PO prog w A hb g I M env ρ e3 (.list cs)) (h4 : PO prog w A hb g I M env ρ e4 (.list ds)) (he : es = ((as ++ bs) ++ cs) ++ ds) (hz : as.length + bs.length + cs.length + ds.length ≤ 1000) (hx : lcw env x = true)
    (k : ∀ h' tk, St hb g I M env ((x, .frz (.list es)) :: ρ) h' → wpAny (model prog w) A (execs rest env) Q E { s with heap := h', toks := tk })
    (hs : swapsWith (.BinOp (.BinOp (.BinOp e1 .Add e2 p1) .Add e3 p2) .Add e4 p3) (some (.Name x p)) pos.line env = pure false := by rfl) :
    wpAny (model prog w) A (execs (.Assign [.Name x p] (.BinOp (.BinOp (.BinOp e1 .Add e2 p1) .Add e3 p2) .Add e4 p3) pos :: rest) env) Q E s := by
  subst he
  exact x_assign S (PE.x (pe_addL (PE.po (pe_addL (PE.po (pe_addL h1 h2 (by simp [sizeLine]; omega))) h3 (by simp [sizeLine]; omega))) h4 (by simp [sizeLine]; omega))) hx k hs
theorem pt_or2f {a b : PySem.Expr} {p : Pos} (ha : PT prog w A hb g I M env ρ a false) (hb' : PT prog w A hb g I M env ρ b false) : PT prog w A hb g I M env ρ (.BoolOp .Or [a, b] p) false := pt_boolop (pts_or_f ha (pts_or_f hb' pts_or_nil))
end

/-! ## law -/
theorem depth_all {n : Nat} : ∀ {xs : List PyData}, (∀ x ∈ xs, x.depth ≤ n) → PyData.depthAll xs ≤ n
  | [], _ => by simp [PyData.depthAll]
  | x :: xs, h => by
    have h1 := h x (by simp)
    have h2 := depth_all (xs := xs) fun y hy => h y (by simp [hy])
    simp only [PyData.depthAll]
    omega
theorem depth_list {n m : Nat} {xs : List PyData} (h : ∀ x ∈ xs, x.depth ≤ n) (hm : n + 1 ≤ m) : (PyData.list xs).depth ≤ m := by
  have := depth_all h
  simp only [PyData.depth]
  omega
theorem depth_tuple {n m : Nat} {xs : List PyData} (h : ∀ x ∈ xs, x.depth ≤ n) (hm : n + 1 ≤ m) : (PyData.tuple xs).depth ≤ m := by
  have := depth_all h
  simp only [PyData.depth]
  omega
theorem isort_mem {lt : PyData → PyData → Bool} {xs : List PyData} {y : PyData} : y ∈ isort lt xs ↔ y ∈ xs := isort_perm.mem_iff
theorem bags_depth {xs ys : List PyData} (hx : ∀ d ∈ xs, d.depth ≤ 10) (hy : ∀ d ∈ ys, d.depth ≤ 10) : (bagsD xs ys).depth ≤ 13 := by
  unfold bagsD
  refine depth_list (n := 12) (fun x h => ?_) (by decide)
  simp only [List.mem_cons, List.not_mem_nil, or_false] at h
  rcases h with rfl | rfl
  · refine depth_tuple (n := 11) (fun x h => ?_) (by decide)
    simp only [List.mem_cons, List.not_mem_nil, or_false] at h
    rcases h with rfl | rfl
    · exact depth_list (fun z hz => hx z ((lackN_mem xs ys xs.length (Nat.le_refl _)).1 z (isort_mem.mp hz))) (Nat.le_refl _)
    · exact depth_list (fun z hz => hy z ((lackN_mem ys xs ys.length (Nat.le_refl _)).1 z (isort_mem.mp hz))) (Nat.le_refl _)
  · refine depth_tuple (n := 11) (fun x h => ?_) (by decide)
    simp only [List.mem_cons, List.not_mem_nil, or_false] at h
    rcases h with rfl | rfl
    · refine depth_list (fun z hz => hx z ?_) (Nat.le_refl _)
      rw [List.mem_reverse] at hz
      unfold missD missK at hz
      obtain ⟨j, hj, rfl⟩ := List.mem_map.mp hz
      exact getD_mem (by simpa using (List.mem_filter.mp hj).1)
    · refine depth_list (fun z hz => hy z ?_) (Nat.le_refl _)
      unfold leftD leftK at hz
      obtain ⟨j, hj, rfl⟩ := List.mem_map.mp hz
      exact getD_mem (by simpa using (List.mem_filter.mp hj).1)
noncomputable def wireD (ns : List Int) : Str := wireN (sentD (lettersD ns)) (sentD (lettersD ns)).length
noncomputable def readD (ns : List Int) : List PyData := (toldD (lettersD ns)).map fun d => .list (rowsD (rowsF (txtD d).cps.toList))
noncomputable def lostN (ns : List Int) : Nat := ((ns.take 5).sum.fmod (readD ns).length).toNat
noncomputable def restD (ns : List Int) : List PyData := (([.list [.str "~"], .list [.str "a"], .list [.str "~"]] ++ (readD ns).take (lostN ns)) ++ (readD ns).drop (lostN ns + 1)) ++ [.list [.str "a"]]
theorem c_s1 : PyData.strOk ".a.\r" = true := by decide +kernel
theorem c_s2 : PyData.strOk "..a.\r\n" = true := by decide +kernel
theorem c_m1 : MulOk ".a.\r" 12 := ⟨by decide, fun _ _ => by decide +kernel, fun _ _ => by decide +kernel⟩
theorem c_m2 : MulOk "..a.\r\n" 12 := ⟨by decide, fun _ _ => by decide +kernel, fun _ _ => by decide +kernel⟩
theorem c_o1 : PyData.strOk (Txt.mul ".a.\r" 12) = true := by decide +kernel
theorem c_o2 : PyData.strOk (Txt.mul "..a.\r\n" 12) = true := by decide +kernel
theorem c_l1 : (Txt.mul ".a.\r" 12).length ≤ 1000 := by decide +kernel
theorem c_q : quoteS (Txt.mul ".a.\r" 12) = Txt.mul "..a.\r\n" 12 := by decide +kernel
theorem c_ti : PyData.strOk "~" = true := by decide +kernel
theorem c_a : PyData.strOk "a" = true := by decide +kernel
/-- what is told of two lists -/
structure PairOk (xs ys : List PyData) : Prop where
  lx : LsOk xs
  ly : LsOk ys
  gxy : Gd (xs ++ ys)
  gyx : Gd (ys ++ xs)
  dx : ∀ d ∈ xs, d.depth ≤ 10
  dy : ∀ d ∈ ys, d.depth ≤ 10
  nb : NoBoth (isort ltD xs) (isort ltD ys)
  nb' : NoBoth (isort ltD ys) (isort ltD xs)
  sl : sld (isort ltD xs) (isort ltD ys) = (isort ltD (lackN xs ys xs.length), isort ltD (lackN ys xs ys.length))
  sl' : sld (isort ltD ys) (isort ltD xs) = (isort ltD (lackN ys xs ys.length), isort ltD (lackN xs ys xs.length))
  ul : uldF xs ys = (leftD xs ys, (missD xs ys).reverse)
  ul' : uldF ys xs = (leftD ys xs, (missD ys xs).reverse)
structure LawFacts (ns : List Int) : Prop where
  letOk : LetOk (lettersD ns)
  len : 0 < (lettersD ns).length
  told : ToldOk (lettersD ns)
  wl : (wireD ns).length ≤ 100000
  ws : PyData.strOk (wireD ns) = true → ∀ z ∈ Txt.split (wireD ns) "\r\n", PyData.strOk z = true
  wn : (Txt.split (wireD ns) "\r\n").length ≤ 100000
  wz : ∀ z ∈ Txt.split (wireD ns) "\r\n", z.length ≤ 100000
  rd : lettD (readN (Txt.split (wireD ns) "\r\n") ((Txt.split (wireD ns) "\r\n").length - 1)).1 = readD ns
  rl : (readD ns).length = (lettersD ns).length
  emp : emptiedD (lettersD ns) = isort ltD (lettersD ns)
  trip : ∀ d ∈ lettersD ns, Trip d
  pair : PairOk (readD ns) (restD ns)

section
variable {prog : Program} {w : World} {hb : Heap}
set_option maxHeartbeats 4000000 in
theorem law_walk (B : BaseOk (KF w.params) hb) {nm : Str} {L fa : Addr} {cd : Value} {s : Shared} {M : List Addr} {ns : List Int} (hlen : ns.length ≤ 63) (Fx : LawFacts ns) (S : St hb hb [] M (envOf nm (fdOf w.params 157).scope L fa cd) [("script", .frz (.list (ns.map .int)))] s.heap)
    {Q : Flow → Shared → Prop} {E : Value → Shared → Prop} (k : ∀ h' tk, KeepM [] hb h' → Q (.ret (.bool true)) { s with heap := h', toks := tk }) :
    wpAny (model prog w) (callerA.deeper (envOf nm (fdOf w.params 157).scope L fa cd)) (execs (bodyOf w.params 157) (envOf nm (fdOf w.params 157).scope L fa cd)) Q E s := by
  have R : Rm 5 (callerA.deeper (envOf nm (fdOf w.params 157).scope L fa cd)) := Rm.deeper (lv := 5) (A := callerA) ⟨rfl, by decide, by decide⟩ _
  have hu80 : (callerA.deeper (envOf nm (fdOf w.params 157).scope L fa cd)).units + 80 < cLine := by have := R.hu; unfold cLine; omega
  generalize hA : callerA.deeper (envOf nm (fdOf w.params 157).scope L fa cd) = A at *
  have hfr : A.frames = some [envOf nm (fdOf w.params 157).scope L fa cd] := by rw [← hA]; rfl
  obtain ⟨gl, ll, sh⟩ := id Fx.letOk
  refine x_assign (x := "letters") S (PE.x (pe_call (f := "_law_letters") B (letters_ok B) (R.less (by decide)) rfl rfl rfl (pes_cons (pe_name rfl rfl) pes_nil) ⟨ns, rfl, hlen, rfl⟩)) rfl fun h tk S => ?_
  refine x_assign (x := "read") S (PE.x (PE.cast (pe_call (f := "_law_read") B (read_ok B) (R.less (by decide)) rfl rfl rfl (pes_cons (pe_call (f := "_law_sent") B (sent_ok B) (R.less (by decide)) rfl rfl rfl (pes_cons (pe_name rfl rfl) pes_nil) ⟨lettersD ns, rfl, Fx.letOk, rfl⟩) pes_nil) ⟨wireD ns, rfl, Fx.wl, Fx.ws, Fx.wn, Fx.wz, rfl⟩) (congrArg PyData.list Fx.rd))) rfl fun h tk S => ?_
  have lsP : ∀ d ∈ lettersD ns, d.depth ≤ 5 := fun d hd => by
    obtain ⟨a, b, x, rfl⟩ := Fx.trip d hd
    exact depth_tuple (n := 0) (fun z hz => by simp only [List.mem_cons, List.not_mem_nil, or_false] at hz; rcases hz with rfl | rfl | rfl <;> simp [PyData.depth]) (by decide)
  have Pr := Fx.pair
  have rl := Fx.rl
  refine x_if (b := false) S (pt_or2f
    (pt_neSame (d := .list ((lettersD ns).map fun d => .str (quoteS (txtD d)))) R.units' (depth_list (n := 0) (fun z hz => by obtain ⟨d, _, rfl⟩ := List.mem_map.mp hz; simp [PyData.depth]) (by decide))
      (PE.po (PE.cast (PF.pe (pf_comp (ds := lettersD ns) (fun d => match d with | .tuple [p, q, r] => [("text", .frz r), ("place", .frz q), ("rank", .frz p)] | _ => []) [] (fun d => .str (quoteS (txtD d))) (fun _ => true) (pi_list R.hh (pe_name rfl rfl)) (fun x sl hx => nomatch hx) (fun x b es hx => nomatch hx) (fun d hd x sl hx => nomatch hx) (by unfold sizeLine; omega) (fun C D g' I' d hd => ?a1) (fun C D g' d hd => ?a2))) (by rw [List.filter_eq_self.mpr (fun _ _ => rfl)])))
      (PE.po (PE.cast (PF.pe (pf_comp (ds := lettersD ns) (fun d => match d with | .tuple [p, q, r] => [("text", .frz r), ("place", .frz q), ("rank", .frz p)] | _ => []) [] (fun d => .str (strL (dblN (txtD d).cps.toList (txtD d).length).1)) (fun _ => true) (pi_list R.hh (pe_name rfl rfl)) (fun x sl hx => nomatch hx) (fun x b es hx => nomatch hx) (fun d hd x sl hx => nomatch hx) (by unfold sizeLine; omega) (fun C D g' I' d hd => ?a3) (fun C D g' d hd => ?a4))) (by rw [List.filter_eq_self.mpr (fun _ _ => rfl)]; simp only [doubled_quote]))))
    (pt_neSame (d := .list (readD ns)) R.units' (depth_list Pr.dx (by decide)) (PE.po (pe_name rfl rfl)) (PE.po (pe_call (f := "_law_told") B (told_ok B) (R.less (by decide)) rfl rfl rfl (pes_cons (pe_name rfl rfl) pes_nil) ⟨lettersD ns, rfl, Fx.letOk, Fx.told, rfl⟩)))) fun h tk S => x_nil ?_
  case a1 =>
    obtain ⟨x, y, z, rfl, _⟩ := sh d hd
    exact takes_three R.hh rfl rfl rfl
  case a2 =>
    obtain ⟨x, y, z, rfl, hz⟩ := sh d hd
    exact ⟨rfl, fun _ => pe_call (f := "quotedata") B (quotedata_ok B) (R.less (by decide)) rfl rfl rfl (pes_cons (pe_name (x := "text") rfl rfl) pes_nil) ⟨z, rfl, by omega, rfl⟩⟩
  case a3 =>
    obtain ⟨x, y, z, rfl, _⟩ := sh d hd
    exact takes_three R.hh rfl rfl rfl
  case a4 =>
    obtain ⟨x, y, z, rfl, hz⟩ := sh d hd
    exact ⟨rfl, fun _ => pe_call (f := "_law_doubled") B (doubled_ok B) (R.less (by decide)) rfl rfl rfl (pes_cons (pe_name (x := "text") rfl rfl) pes_nil) ⟨z, rfl, by omega, rfl⟩⟩
  have ln := Fx.len
  have ln1 : 1 ≤ (lettersD ns).length := by omega
  have lm := getD_mem (es := lettersD ns) (p := (lettersD ns).length - 1) (om_pred ln1)
  have lg := getD_some (es := lettersD ns) (p := (lettersD ns).length - 1) (om_pred ln1)
  have lidx : ((-1 : Int) + ((lettersD ns).length : Int)).toNat = (lettersD ns).length - 1 := om_last ln1
  generalize hlast : (lettersD ns).getD ((lettersD ns).length - 1) .none = last at *
  refine x_if (b := false) S (pt_or2f
    (pt_neSame (d := last) R.units' (Nat.le_trans (lsP last lm) (by decide))
      (PE.po (pe_callF (f := "heappushpop") B (pushpop_ok B) (R.less (by decide)) rfl rfl rfl (pf_list pes_nil (by decide)) (fun a => pes_cons (pe_idxN (k := -1) (d := last) (PE.po (pe_name rfl rfl)) (PE.po (pe_negI pe_int)) (by decide) (by omega) (by rw [lidx]; exact lg) (by decide) rfl) pes_nil) ⟨last, rfl, gl.sub (fun a ha => by simp only [List.mem_singleton] at ha; rw [ha]; exact lm), by decide, rfl, rfl⟩))
      (PE.po (pe_idxN (k := -1) (d := last) (PE.po (pe_name rfl rfl)) (PE.po (pe_negI pe_int)) (by decide) (by omega) (by rw [lidx]; exact lg) (by decide) rfl)))
    (pt_neSame (d := .list (isort ltD (lettersD ns))) R.units' (depth_list (fun z hz => lsP z (isort_mem.mp hz)) (by decide))
      (PE.po (PE.cast (pe_call (f := "_law_emptied") B (emptied_ok B) (R.less (by decide)) rfl rfl rfl (pes_cons (pe_name rfl rfl) pes_nil) ⟨lettersD ns, rfl, gl, ll, rfl⟩) (congrArg PyData.list Fx.emp)))
      (PE.po (PF.pe (pf_sorted (P := Trip) B rfl rfl rfl (by decide) trip_tot Fx.trip gl (.inr Fx.trip) ll hu80 (PE.po (pe_name rfl rfl))))))) fun h tk S => x_nil ?_
  refine x_if (b := false) S (pt_neSame (d := .str (Txt.mul "..a.\r\n" 12)) R.units' (by simp [PyData.depth])
    (PE.po (PE.cast (pe_call (f := "quotedata") B (quotedata_ok B) (R.less (by decide)) rfl rfl rfl (pes_cons (pe_mulS (PE.po (pe_str c_s1)) (PE.po pe_int) c_m1 c_o1) pes_nil) ⟨_, rfl, c_l1, rfl⟩) (congrArg PyData.str c_q)))
    (PE.po (pe_mulS (PE.po (pe_str c_s2)) (PE.po pe_int) c_m2 c_o2))) fun h tk S => x_nil ?_
  have hl0 : (0 : Int) < ((readD ns).length : Int) := by omega
  have hlost : (ns.take 5).sum.fmod ((readD ns).length : Int) = ((lostN ns : Nat) : Int) := by
    unfold lostN
    rw [Int.toNat_of_nonneg]
    rw [Int.fmod_eq_emod_of_nonneg _ (by omega)]
    exact Int.emod_nonneg _ (by omega)
  have lostlt : lostN ns < (readD ns).length := by
    have h1 : (ns.take 5).sum.fmod ((readD ns).length : Int) < ((readD ns).length : Int) := by
      rw [Int.fmod_eq_emod_of_nonneg _ (by omega)]
      exact Int.emod_lt_of_pos _ hl0
    omega
  refine x_assign (x := "lost") S (PE.x (PE.cast (pe_modI (PE.po (pe_sum (ns := ns.take 5) B rfl rfl rfl (by decide) R.hh (PE.po (PE.cast (PF.pe (pf_slice (PE.po (pe_name rfl rfl)) pp_none (pp_some (PE.po pe_int)) pp_none (by decide) (by simp [sizeLine]; omega))) (by rw [show (5 : Int) = ((5 : Nat) : Int) from rfl, pickD_upto, List.map_take])))))
    (PE.po (pe_lenL B rfl rfl rfl (by decide) (PE.po (pe_name rfl rfl)) (by omega))) (by omega)) (congrArg PyData.int hlost))) rfl fun h tk S => ?_
  have hrest : restD ns = (([.list [.str "~"], .list [.str "a"], .list [.str "~"]] ++ (readD ns).take (lostN ns)) ++ (readD ns).drop (lostN ns + 1)) ++ [.list [.str "a"]] := rfl
  clear hlost
  generalize restD ns = ys at *
  generalize lostN ns = q at *
  generalize readD ns = xs at *
  have hq1 : ((q : Int) + 1) = ((q + 1 : Nat) : Int) := by omega
  refine x_assignAdd4 (x := "rest") (es := ys) S
    (PE.po (PF.pe (pf_list (pes_cons (PF.pe (pf_list (pes_cons (pe_str c_ti) pes_nil) (by simp [sizeLine]))) (pes_cons (PF.pe (pf_list (pes_cons (pe_str c_a) pes_nil) (by simp [sizeLine]))) (pes_cons (PF.pe (pf_list (pes_cons (pe_str c_ti) pes_nil) (by simp [sizeLine]))) pes_nil))) (by simp [sizeLine]))))
    (PE.po (PE.cast (PF.pe (pf_slice (ds := xs) (lo' := none) (hi' := some (q : Int)) (st' := none) (PE.po (pe_name rfl rfl)) pp_none (pp_some (PE.po (pe_name rfl rfl))) pp_none (by decide) (by unfold sizeLine; omega))) (congrArg PyData.list (pickD_upto xs q))))
    (PE.po (PE.cast (d' := .list (xs.drop (q + 1))) (PF.pe (pf_slice (ds := xs) (lo' := some ((q : Int) + 1)) (hi' := none) (st' := none) (PE.po (pe_name rfl rfl)) (pp_some (PE.po (pe_addI (PE.po (pe_name rfl rfl)) (PE.po pe_int)))) pp_none pp_none (by decide) (by unfold sizeLine; omega))) (by rw [hq1, pickD_from])))
    (PE.po (PF.pe (pf_list (pes_cons (PF.pe (pf_list (pes_cons (pe_str c_a) pes_nil) (by simp [sizeLine]))) pes_nil) (by simp [sizeLine]))))
    hrest (by
      simp only [List.length_take, List.length_drop, List.length_cons, List.length_nil]
      have := om_rest (a := q) (b := xs.length)
      generalize min q xs.length = u at *
      generalize xs.length - (q + 1) = v at *
      omega) rfl fun h tk S => ?_
  obtain ⟨gx, lx, kx, P1, T1, hP1⟩ := id Pr.lx
  obtain ⟨gy, ly, ky, P2, T2, hP2⟩ := id Pr.ly
  have il : ∀ zs : List PyData, (isort ltD zs).length = zs.length := fun zs => isort_perm.length_eq
  have gsub : ∀ a b : List PyData, Gd (a ++ b) → Gd (isort ltD a ++ isort ltD b) := fun a b hg => hg.sub fun z hz => by
    rcases List.mem_append.mp hz with hz | hz
    · exact List.mem_append.mpr (.inl (isort_mem.mp hz))
    · exact List.mem_append.mpr (.inr (isort_mem.mp hz))
  refine x_assign (x := "said") (d := bagsD xs ys) S (PE.x (PE.cast (PF.pe (pf_list (pes_cons
      (pe_callR (f := "sorted_list_difference") B (sld_ok B) (R.less (by decide)) hfr rfl rfl rfl rfl (pes_cons (PF.pe (pf_sorted (P := P1) B rfl rfl rfl (by decide) T1 hP1 gx (.inl kx) lx hu80 (PE.po (pe_name rfl rfl)))) (pes_cons (PF.pe (pf_sorted (P := P2) B rfl rfl rfl (by decide) T2 hP2 gy (.inl ky) ly hu80 (PE.po (pe_name rfl rfl)))) pes_nil)) ⟨_, _, rfl, by rw [il]; exact lx, by rw [il]; exact ly, gsub _ _ Pr.gxy, Pr.nb, rfl⟩)
      (pes_cons (pe_callU (f := "unorderable_list_difference") B (uld_ok B) (R.less (by decide)) hfr rfl rfl rfl rfl (pf_copy B rfl rfl rfl (by decide) (PE.po (pe_name rfl rfl)) (by unfold sizeLine; omega)) (fun a => pf_copy B rfl rfl rfl (by decide) (PE.po (pe_name rfl rfl)) (by unfold sizeLine; omega)) ⟨lx, ly, gy.2, rfl⟩) pes_nil)) (by simp [sizeLine]))) (by rw [Pr.sl, Pr.ul]; rfl))) rfl fun h tk S => ?_
  refine x_assign (x := "turned") (d := bagsD ys xs) S (PE.x (PE.cast (PF.pe (pf_list (pes_cons
      (pe_callR (f := "sorted_list_difference") B (sld_ok B) (R.less (by decide)) hfr rfl rfl rfl rfl (pes_cons (PF.pe (pf_sorted (P := P2) B rfl rfl rfl (by decide) T2 hP2 gy (.inl ky) ly hu80 (PE.po (pe_name rfl rfl)))) (pes_cons (PF.pe (pf_sorted (P := P1) B rfl rfl rfl (by decide) T1 hP1 gx (.inl kx) lx hu80 (PE.po (pe_name rfl rfl)))) pes_nil)) ⟨_, _, rfl, by rw [il]; exact ly, by rw [il]; exact lx, gsub _ _ Pr.gyx, Pr.nb', rfl⟩)
      (pes_cons (pe_callU (f := "unorderable_list_difference") B (uld_ok B) (R.less (by decide)) hfr rfl rfl rfl rfl (pf_copy B rfl rfl rfl (by decide) (PE.po (pe_name rfl rfl)) (by unfold sizeLine; omega)) (fun a => pf_copy B rfl rfl rfl (by decide) (PE.po (pe_name rfl rfl)) (by unfold sizeLine; omega)) ⟨ly, lx, gx.2, rfl⟩) pes_nil)) (by simp [sizeLine]))) (by rw [Pr.sl', Pr.ul']; rfl))) rfl fun h tk S => ?_
  refine x_return S (PE.x (pe_eqSame (d := .list [bagsD xs ys, bagsD ys xs]) R.units' (depth_list (n := 13) (fun z hz => ?_) (by decide)) (PE.po (PF.pe (pf_list (pes_cons (pe_name rfl rfl) (pes_cons (pe_name rfl rfl) pes_nil)) (by simp [sizeLine]))))
    (PE.po (PF.pe (pf_list (pes_cons (pe_call (f := "_law_bags") B (bags_ok B) (R.less (by decide)) rfl rfl rfl (pes_cons (pe_name rfl rfl) (pes_cons (pe_name rfl rfl) pes_nil)) ⟨xs, ys, rfl, Pr.lx, Pr.ly, Pr.gxy, Pr.gyx, depth_list Pr.dx (by decide), depth_list Pr.dy (by decide), rfl⟩)
      (pes_cons (pe_call (f := "_law_bags") B (bags_ok B) (R.less (by decide)) rfl rfl rfl (pes_cons (pe_name rfl rfl) (pes_cons (pe_name rfl rfl) pes_nil)) ⟨ys, xs, rfl, Pr.ly, Pr.lx, Pr.gyx, Pr.gxy, depth_list Pr.dy (by decide), depth_list Pr.dx (by decide), rfl⟩) pes_nil)) (by simp [sizeLine])))))) fun v h tk S r => ?_
  · simp only [List.mem_cons, List.not_mem_nil, or_false] at hz
    rcases hz with rfl | rfl
    · exact bags_depth Pr.dx Pr.dy
    · exact bags_depth Pr.dy Pr.dx
  · rw [r.o.bool]
    exact k h tk S.kg
end
end Oh

-- OhPl
namespace Oh
open PySem PySem.W

/-! ## no row begins high -/
/-- a sign from 126 on stands behind one that is no line end -/
noncomputable def okS : Bool → List Nat → Bool
  | _, [] => true
  | f, c :: r => (decide (c < 126) || f) && okS (decide (c ≠ 10 ∧ c ≠ 13)) r
theorem okS_mono : ∀ {r : List Nat} {f : Bool}, okS false r = true → okS f r = true
  | [], _, _ => rfl
  | c :: r, f, h => by
    simp only [okS, Bool.and_eq_true, Bool.or_eq_true, decide_eq_true_eq] at h ⊢
    exact ⟨.inl (by simpa using h.1), h.2⟩
theorem okS_append : ∀ {a b : List Nat} {f : Bool}, okS f a = true → okS false b = true → okS f (a ++ b) = true
  | [], b, f, _, h => okS_mono h
  | c :: a, b, f, h1, h2 => by
    simp only [okS, Bool.and_eq_true, List.cons_append] at h1 ⊢
    exact ⟨h1.1, okS_append h1.2 h2⟩
theorem okS_cat : ∀ {ys : List Str}, (∀ y ∈ ys, okS false y.cps.toList = true) → okS false (catS ys) = true
  | [], _ => rfl
  | y :: ys, h => by
    have e : catS (y :: ys) = y.cps.toList ++ catS ys := by simp [catS]
    rw [e]
    exact okS_append (h y (by simp)) (okS_cat fun z hz => h z (by simp [hz]))
theorem text_ok (v : Int) : okS false (textOf v).cps.toList = true := by
  unfold textOf
  rw [join_cat]
  refine okS_cat fun y hy => ?_
  obtain ⟨k, _, rfl⟩ := List.mem_map.mp hy
  have hp : ∀ p ∈ pcs, okS false p.cps.toList = true := by decide +kernel
  exact hp _ (piece_mem v k)
noncomputable def Low (r : List Nat) : Prop := ∀ c, r.head? = some c → c < 126
noncomputable def flg (l : List Nat) (k : Nat) : Bool := decide (0 < k ∧ l.getD (k - 1) 0 ≠ 10 ∧ l.getD (k - 1) 0 ≠ 13)
theorem rows_low {l : List Nat} (hl : okS false l = true) : ∀ k, k ≤ l.length → okS (flg l k) (l.drop k) = true ∧ ∃ init last, rowsN l k = init ++ [last] ∧ (∀ r ∈ init, Low r) ∧ Low last ∧ (last = [] → flg l k = false)
  | 0, _ => ⟨by simpa [flg] using hl, [], [], rfl, fun r hr => (nomatch hr), fun c hc => (nomatch hc), fun _ => by simp [flg]⟩
  | k + 1, h => by
    obtain ⟨h0, init, last, h1, h2, h3, h4⟩ := rows_low hl k (by omega)
    have hd : l.drop k = l.getD k 0 :: l.drop (k + 1) := drop_cons (by omega)
    rw [hd] at h0
    simp only [okS, Bool.and_eq_true, Bool.or_eq_true, decide_eq_true_eq] at h0
    have hf : flg l (k + 1) = decide (l.getD k 0 ≠ 10 ∧ l.getD k 0 ≠ 13) := by unfold flg; simp
    refine ⟨by rw [hf]; exact h0.2, ?_⟩
    have r1 : rowsN l (k + 1) = if isEnd l k then rowsN l k ++ [[]] else if l.getD k 0 = 13 then rowsN l k else (rowsN l k).set ((rowsN l k).length - 1) ((rowsN l k).getD ((rowsN l k).length - 1) [] ++ [l.getD k 0]) := rfl
    rw [r1, hf]
    cases he : isEnd l k with
    | true =>
      simp only [if_true]
      refine ⟨init ++ [last], [], by rw [h1], ?_, fun c hc => (nomatch hc), fun _ => ?_⟩
      · intro r hr
        rcases List.mem_append.mp hr with hr | hr
        · exact h2 r hr
        · simp only [List.mem_singleton] at hr; rw [hr]; exact h3
      · rcases (isEnd_iff l k).mp he with q | ⟨q, _⟩
        · rw [q]; decide
        · rw [q]; decide
    | false =>
      simp only [Bool.false_eq_true, if_false]
      by_cases hc : l.getD k 0 = 13
      · simp only [hc, if_true]
        exact ⟨init, last, h1, h2, h3, fun _ => by simp⟩
      · simp only [hc, if_false]
        refine ⟨init, last ++ [l.getD k 0], by rw [h1]; simp, h2, fun c hcc => ?_, fun q => by simp at q⟩
        by_cases hl : last = []
        · rw [hl] at hcc
          simp only [List.nil_append, List.head?_cons, Option.some.injEq] at hcc
          rw [← hcc]
          rcases h0.1 with q | q
          · exact q
          · rw [h4 hl] at q; cases q
        · obtain ⟨z, zs, hz⟩ := List.exists_cons_of_ne_nil hl
          rw [hz] at hcc
          simp only [List.cons_append, List.head?_cons, Option.some.injEq] at hcc
          exact h3 c (by rw [hz]; simp [hcc])
theorem rowsF_low {l : List Nat} (hl : okS false l = true) : ∃ r rs, rowsF l = r :: rs ∧ Low r := by
  obtain ⟨_, init, last, h1, h2, h3, _⟩ := rows_low hl l.length (Nat.le_refl _)
  unfold rowsF
  rw [h1]
  cases init with
  | nil => exact ⟨last, [], by simp, h3⟩
  | cons r rs =>
    have hr := h2 r (by simp)
    split
    · exact ⟨r, rs, by simp, hr⟩
    · exact ⟨r, rs ++ [last], rfl, hr⟩
theorem low_tilde {r : List Nat} (h : Low r) : strL r ≠ "~" ∧ (strL r).cps.toList < ("~" : Str).cps.toList := by
  have e : ("~" : Str).cps.toList = [126] := by decide +kernel
  rw [e, strL_list]
  cases r with
  | nil => exact ⟨fun q => (by have := congrArg (fun s : Str => s.cps.toList) q; simp [strL_list, e] at this), List.nil_lt_cons _ _⟩
  | cons c r =>
    have hc := h c rfl
    refine ⟨fun q => ?_, ?_⟩
    · have : (strL (c :: r)).cps.toList = ("~" : Str).cps.toList := by rw [q]
      rw [strL_list, e] at this
      simp at this; omega
    · rw [List.cons_lt_cons_iff]; exact .inl hc
noncomputable def rowsOf (x : Str) : PyData := .list (rowsD (rowsF x.cps.toList))
theorem rowsOf_P (x : Str) : RowsP (rowsOf x) := ⟨(rowsF x.cps.toList).map strL, by unfold rowsOf rowsD; simp⟩
theorem rowsOf_lt (v : Int) : ltD (rowsOf (textOf v)) (.list [.str "~"]) = true := by
  obtain ⟨r, rs, h1, h2⟩ := rowsF_low (text_ok v)
  obtain ⟨h3, h4⟩ := low_tilde h2
  have e1 : rowsOf (textOf v) = .list (((r :: rs).map strL).map .str) := by unfold rowsOf rowsD; rw [h1]; simp
  have e2 : PyData.list [.str "~"] = .list ((["~"] : List Str).map .str) := rfl
  show pyC false _ _ = true
  rw [e1, e2, pyC_rows, List.map_cons, cmpL_cons, if_neg h3]
  exact decide_eq_true h4

/-! ## all the facts -/
theorem read_mem (ns : List Int) : ∀ d ∈ readD ns, RowsP d ∧ ltD d (.list [.str "~"]) = true := by
  intro d hd
  unfold readD at hd
  obtain ⟨e, he, rfl⟩ := List.mem_map.mp hd
  obtain ⟨ts, to⟩ := told_sent (letters_nodup ns) (letters_trip ns)
  rw [ts] at he
  have hm := sent_mem.1 e he
  unfold lettersD at hm
  obtain ⟨q, _, rfl⟩ := List.mem_map.mp hm
  exact ⟨rowsOf_P _, rowsOf_lt q.1⟩
theorem str_P (x : Str) : RowsP (.list [.str x]) := ⟨[x], rfl⟩
theorem rest_mem (ns : List Int) : ∀ d ∈ restD ns, RowsP d := by
  intro d hd
  unfold restD at hd
  rcases List.mem_append.mp hd with hd | hd
  · rcases List.mem_append.mp hd with hd | hd
    · rcases List.mem_append.mp hd with hd | hd
      · simp only [List.mem_cons, List.not_mem_nil, or_false] at hd
        rcases hd with rfl | rfl | rfl <;> exact str_P _
      · exact (read_mem ns d (List.mem_of_mem_take hd)).1
    · exact (read_mem ns d (List.mem_of_mem_drop hd)).1
  · simp only [List.mem_singleton] at hd
    rw [hd]; exact str_P _
theorem law_facts (ns : List Int) : LawFacts ns := by
  obtain ⟨ts, to⟩ := told_sent (letters_nodup ns) (letters_trip ns)
  have ll := letters_len ns
  obtain ⟨sm, sl⟩ := sent_mem (ls := lettersD ns)
  have sne : sentD (lettersD ns) ≠ [] := fun q => by rw [q] at sl; simp at sl; omega
  have stx : ∀ d ∈ sentD (lettersD ns), (txtD d).length ≤ 25 := fun d hd => by
    obtain ⟨a, b, x, rfl, hx⟩ := letters_shape ns d (sm d hd); exact hx
  obtain ⟨w1, w2, w3, w4⟩ := wire_facts sne stx (by omega)
  have rl : (readD ns).length = (lettersD ns).length := by unfold readD; rw [List.length_map, ts, sl]
  have hx : ∀ d ∈ readD ns, RowsP d := fun d hd => (read_mem ns d hd).1
  have hy := rest_mem ns
  have rel : (restD ns).length < 64 := by
    unfold restD
    simp only [List.length_append, List.length_take, List.length_drop, List.length_cons, List.length_nil]
    have := om_rest (a := lostN ns) (b := (readD ns).length)
    generalize min (lostN ns) (readD ns).length = u at *
    generalize (readD ns).length - (lostN ns + 1) = v at *
    omega
  have tm : (PyData.list [.str "~"]) ∈ restD ns := by unfold restD; simp
  obtain ⟨n1, n2⟩ := no_both hx hy tm fun d hd => (read_mem ns d hd).2
  have happ : ∀ (a b : List PyData), (∀ d ∈ a, RowsP d) → (∀ d ∈ b, RowsP d) → ∀ d ∈ a ++ b, RowsP d := fun a b ha hb d hd => (List.mem_append.mp hd).elim (ha d) (hb d)
  exact {
    letOk := letters_ok' ns
    len := by omega
    told := to
    wl := w1
    ws := w2
    wn := w3
    wz := w4
    rd := by unfold wireD readD; rw [read_wire sne, ts]
    rl := rl
    emp := emptied_sorted trip_tot (letters_trip ns)
    trip := letters_trip ns
    pair := {
      lx := rows_ls hx (by omega)
      ly := rows_ls hy rel
      gxy := rows_gd (happ _ _ hx hy)
      gyx := rows_gd (happ _ _ hy hx)
      dx := fun d hd => Nat.le_trans (rows_depth (hx d hd)) (by decide)
      dy := fun d hd => Nat.le_trans (rows_depth (hy d hd)) (by decide)
      nb := n1
      nb' := n2
      sl := sld_lack hx hy
      sl' := sld_lack hy hx
      ul := uld_bags hx hy
      ul' := uld_bags hy hx } }
end Oh

end
end
-- OhJo
open PySem PySem.W PyProof.Rows
namespace Oh
theorem lawScope_noCell (P : Params) : ((fdOf P 157).scope.names.all fun p => p.2 != .cell) = true := rfl
theorem repL_ints {M : List Addr} {h : Heap} : ∀ {vs : List Value} {ns : List Int}, IntsAre vs ns → RepL M h vs (ns.map .int)
  | _, _, .nil => .nil
  | _, _, .cons i t r => .cons (.int i t) (repL_ints r)
theorem law_enter {prog : Program} {w : World} {hb h₁ : Heap} (B : BaseOk (KF w.params) hb) {nm : Str} {fa a : Addr} {cd : Value} {s : Shared} {ns : List Int} {vs : List Value} (hlen : ns.length ≤ 63) (Fx : LawFacts ns) (hl : LstAt hb a vs) (hi : IntsAre vs ns)
    (F : Fr hb hb.objs.size h₁ fun x => List.lookup x [(("script" : Str), Value.ref a)].reverse) (hs : s.heap = h₁) {Q : Flow → Shared → Prop} {E : Value → Shared → Prop} (k : ∀ h' tk, KeepM [] hb h' → Q (.ret (.bool true)) { s with heap := h', toks := tk }) :
    wpAny (model prog w) (callerA.deeper (envOf nm (fdOf w.params 157).scope hb.objs.size fa cd)) (execs (bodyOf w.params 157) (envOf nm (fdOf w.params 157).scope hb.objs.size fa cd)) Q E s := by
  have nL := get_size_none hb
  have aL : a ≠ hb.objs.size := fun q => by obtain ⟨n, e⟩ := hl; rw [q, nL] at e; cases e
  have kp : KeepM [] hb s.heap := fun b o _ e => by rw [hs]; exact F.keep b o e
  refine law_walk B (M := [hb.objs.size]) hlen Fx ?_ k
  refine {
    kb := kp
    kg := kp
    al := fun b o e => ⟨o, kp b o (by simp) e⟩
    bg := fun b o e => ⟨e, by simp⟩
    glo := ⟨rfl, rfl⟩
    kind := rfl
    L1 := .inr nL
    LM := by simp [envOf]
    ob := fun b hb' => by
      simp only [List.mem_singleton] at hb'
      rw [hb', hs]; exact ns_ob F.ns
    cM := fun x c hc => nomatch hc
    cE := fun x hx => ?_
    cI := fun x y c hc => nomatch hc
    names := ⟨_, ⟨⟨_, by rw [hs]; exact F.ns, fun _ _ => rfl⟩, fun x c _ hc => nomatch hc⟩, fun x sl hx => ?_⟩
    oI := fun x y b ds es hx hy => ?_ }
  · have h1 := lookup_mem (l := (fdOf w.params 157).scope.names) hx
    have h2 := List.all_eq_true.mp (lawScope_noCell w.params) _ h1
    simp at h2
  · have hx := lookup_mem hx
    simp only [List.mem_cons, Prod.mk.injEq, List.not_mem_nil, or_false] at hx
    obtain ⟨rfl, rfl⟩ := hx
    refine ⟨.ref a, rfl, .list (by simpa using aL) ?_ (repL_ints hi)⟩
    obtain ⟨n, e⟩ := hl
    exact ⟨n, kp a _ (by simp) e⟩
  · have hx := lookup_mem hx
    simp only [List.mem_cons, Prod.mk.injEq, List.not_mem_nil, or_false, reduceCtorEq, and_false] at hx
end Oh
open Oh in
set_option maxHeartbeats 8000000 in
theorem Oh.tt (facts : ∀ ns : List Int, ns.length ≤ 63 → LawFacts ns) : PySem.Challenge.rw_oh0022_01.Holds := hd (by
  k_go0
  rename_i w s₀ s₁ mg mb G Y fa o pm doc kV ho hg KX X V GL T B TE TW x1 x2 M x3 x4 hcd ns hs hlay0 hL1 hr1 hl2 y1 y2 a vs y3 hL ra w1 r0 hI hr hc1 hc2 K0 hD h₁ F N0
  have hlen : ns.length ≤ 63 := by omega
  have Bo : BaseOk (KF w.params) s₁.heap := ⟨KX, ⟨mg, T.g⟩, ⟨mb, T.b, T.builtins⟩, T.nolimit, T.seer rfl⟩
  have hl : Oh.LstAt s₁.heap a vs := by
    simp only [ofPy] at w1
    cases w1 with
    | @list _ vs' _ e _ =>
      obtain ⟨o', ho', _, n, hd'⟩ := hL
      rw [e] at ho'
      cases ho'
      simp only [Data.seq.injEq] at hd'
      have hv : vs' = vs := by simpa using congrArg Array.toList hd'.1
      subst hv
      exact ⟨_, e⟩
  refine law_enter (s := { heap := h₁, gens := s₁.gens, drawn := s₁.drawn, toks := s₁.toks + 1, os := s₁.os }) Bo hlen (facts ns hlen) hl hI F rfl fun h' tk kk => ?_
  refine ⟨.inl ⟨.bool true, .bool true, [], rfl, ?_, ?_, ?_, ?_⟩, fun b o e => kk b o (by simp) e, rfl, hg⟩
  · intro cls; rfl
  · exact .bool true
  · wrow_post
  · intro hu; exact ⟨.nil, fun a ha => nomatch ha⟩)

theorem PySem.Challenge.cw_oh0022_01_holds : PySem.Challenge.rw_oh0022_01.Holds :=
  Oh.tt fun ns _ => Oh.law_facts ns
