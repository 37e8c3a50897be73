import PyProof.Rows.All
import Wide.All
import OpenK.AllK
import Wide.FinOn
import Lean
import PySem.Challenge.RW_pg0278_01
set_option Elab.async false

section -- PgHead
open PySem PySem.W PyProof.Rows
set_option Elab.async false
set_option maxRecDepth 100000
set_option maxHeartbeats 8000000
namespace Mine
noncomputable def topRunT (tb : String → Option Builtin) (p : Program) (w : World) (n₀ : Nat) (ann : Option Value) : Nat → SharedT → Thread → Option SharedT
  | 0, _, _ => none
  | n + 1, s, t => match through t with
    | true => some s
    | false => match stepOk n₀ ann t with
      | false => none
      | true => match stepT (denote tb) p w s t with
        | some (s', t') => topRunT tb p w n₀ ann n s' t'
        | none => none
theorem topRunT_of {tb : String → Option Builtin} {p : Program} {w : World} {n₀ : Nat} {ann : Option Value} : ∀ {n : Nat} {s s' : SharedT} {t : Thread}, topRunT tb p w n₀ ann n s t = some s' → topRun tb p w n₀ ann n s.abs t = some s'.abs
  | 0, _, _, _, h => by cases h
  | n + 1, s, s', t, h => by
    unfold topRunT at h
    unfold topRun
    cases ht : through t with
    | true => rw [ht] at h; cases h; rfl
    | false =>
      rw [ht] at h
      cases hk : stepOk n₀ ann t with
      | false => rw [hk] at h; cases h
      | true =>
        rw [hk] at h
        cases hs : stepT (denote tb) p w s t with
        | none => rw [hs] at h; cases h
        | some r => obtain ⟨s₂, t₂⟩ := r; rw [hs] at h; rw [stepT_spec hs]; exact topRunT_of h
noncomputable def buildT : List Obj → Nat → BT → Option BT
  | [], _, t => some t
  | o :: r, n, t => match ((t.ins n o).get n).isSome with
    | true => buildT r (n + 1) (t.ins n o)
    | false => none
theorem buildT_of {life : Life} : ∀ {l : List Obj} {n : Nat} {t t' : BT}, buildT l n t = some t' → (absHeap t' (n + l.length) life).objs.toList = (absHeap t n life).objs.toList ++ l
  | [], n, t, t', h => by cases h; simp
  | o :: r, n, t, t', h => by
    unfold buildT at h
    cases hi : ((t.ins n o).get n).isSome with
    | false => rw [hi] at h; cases h
    | true =>
      rw [hi] at h
      have h1 := buildT_of (life := life) h
      have h2 := absHeap_ins (life := life) hi
      rw [List.length_cons, show n + (r.length + 1) = n + 1 + r.length by omega, h1, h2]
      show ((absHeap t n life).objs.push o).toList ++ r = _
      simp
noncomputable def toT (s : Shared) : Option SharedT := match buildT s.heap.objs.toList 0 .nil with
  | some t => some ⟨t, s.heap.objs.size, s.heap.life, s.gens, s.drawn, s.toks, s.os⟩
  | none => none
theorem toT_of {s : Shared} {x : SharedT} (h : toT s = some x) : x.abs = s := by
  unfold toT at h
  cases hb : buildT s.heap.objs.toList 0 .nil with
  | none => rw [hb] at h; cases h
  | some t =>
    rw [hb] at h
    cases h
    have h1 := buildT_of (life := s.heap.life) hb
    obtain ⟨⟨objs, life⟩, gens, drawn, toks, os⟩ := s
    have h2 : (absHeap t objs.size life).objs = objs := by
      apply Array.toList_inj.mp
      have : (absHeap .nil 0 life).objs.toList = [] := rfl
      rw [this, List.nil_append] at h1
      simpa using h1
    show Shared.mk (absHeap t objs.size life) gens drawn toks os = _
    have h3 : absHeap t objs.size life = ⟨objs, life⟩ := by
      show Heap.mk _ life = _
      exact congrArg (Heap.mk · life) h2
    rw [h3]
noncomputable def topFromT (tb : String → Option Builtin) (p : Program) (w : World) (N : Nat) (s₀ : Shared) : Option Shared :=
  match s₀.heap.isNs mainGlobals && s₀.gens.size == 0 with
  | true => match toT s₀ with
    | some x => match topRunT tb p w s₀.heap.objs.size (s₀.heap.nsMap mainGlobals "__annotations__") N x (topStub p) with
      | some y => match staticsOk (importedModules p.main.body) s₀.heap y.abs.heap && namesBound p y.abs.heap && gensDone y.abs && laidKept s₀.heap y.abs.heap with
        | true => some y.abs
        | false => none
      | none => none
    | none => none
  | false => none
theorem topFromT_of {tb : String → Option Builtin} {p : Program} {w : World} {N : Nat} {s₀ s : Shared} (h : topFromT tb p w N s₀ = some s) : topFrom tb p w N s₀ = some s := by
  unfold topFromT at h
  unfold topFrom
  split at h
  · rename_i h0
    rw [h0]
    dsimp only
    split at h
    · rename_i x hx
      split at h
      · rename_i y hy
        have := topRunT_of hy
        rw [toT_of hx] at this
        rw [this]
        exact h
      · cases h
    · cases h
  · cases h
theorem left_of {p q : Program} {loose : List Str} {Xt : Shared → Bool} {α : Type} {Yf : Shared → α} {Ya : World → α} {N : Nat} {g0 : Bool}
    (h : ∀ w : World, ((fencedOpening treeTable p w N).bind (topFromT treeTable p w N)).map (fun s => (openSeen q loose (importedModules p.main.body) Xt g0 s, Yf s)) = some (openGood q loose, Ya w)) : LeftO p q loose Xt Yf Ya N g0 := fun w => by
  obtain ⟨s, h1, h2⟩ := Option.map_eq_some_iff.mp (h w)
  obtain ⟨s₀, h3, h4⟩ := Option.bind_eq_some_iff.mp h1
  unfold openEnds
  rw [h3]
  show Option.map _ (topFrom treeTable p w N s₀) = _
  rw [topFromT_of h4]
  exact congrArg some h2
noncomputable def vw : Program := view PySem.Challenge.pw_pg0278_01 [0, 1, 3, 4, 5, 7, 8, 9, 10, 11, 13, 14, 16, 17, 18, 19, 20, 21, 22]
theorem map_pair {α β γ : Type} {x : Option α} {f : α → β} {g : α → γ} {b : β} {c : γ} (h1 : x.map f = some b) (h2 : x.map g = some c) : x.map (fun s => (f s, g s)) = some (b, c) := by
  cases x with
  | none => cases h1
  | some a =>
    cases h1; cases h2; rfl
theorem look_seen (w : World) : ((fencedOpening treeTable PySem.Challenge.rw_pg0278_01.row.prog w 3336).bind (topFromT treeTable PySem.Challenge.rw_pg0278_01.row.prog w 3336)).map
    (fun s => openSeen vw [PySem.Str.ofString "_name_disallowed_re", PySem.Str.ofString "_value_disallowed_re"] (importedModules PySem.Challenge.rw_pg0278_01.row.prog.main.body) (fun s => xlAt vw [] s && recOk (RowW.records PySem.Challenge.rw_pg0278_01.row.toRowW) s) true s) =
    some (openGood vw [PySem.Str.ofString "_name_disallowed_re", PySem.Str.ofString "_value_disallowed_re"]) := by kernel_rfl
local macro_rules | `(tactic| o_head $H:term) => `(tactic| (
  refine holds_open (q := vw) (loose := [PySem.Str.ofString "_name_disallowed_re", PySem.Str.ofString "_value_disallowed_re"]) (Xt := fun s => xlAt vw [] s && recOk (RowW.records PySem.Challenge.rw_pg0278_01.row.toRowW) s) (XP := XL vw []) (Yf := Hook.obs $H) (Ya := Hook.val $H) (YP := Hook.says $H) (N := 3336) ?hl (Hook.of $H) (Hook.keeps $H) (fun s e => xl_of s (Bool.and_eq_true_iff.mp e).1) XL.keeps (by rfl) (by rfl) (by rfl) (fun s e => recFacts_of (Bool.and_eq_true_iff.mp e).2) (by rfl) (by first | assumption | decide +kernel) (by decide +kernel) ⟨rfl, rfl, rfl, rfl, rfl, by decide +kernel⟩ ?hw ?hc
  case hl => exact left_of fun w => map_pair (look_seen w) (by kernel_rfl)))
local macro_rules | `(tactic| o_law) => `(tactic| refine holds_law (by decide +kernel) fun said => ?_)
open_top pghead for PySem.Challenge.rw_pg0278_01
end Mine
end

section -- PgA
open PySem PySem.W PyProof.Rows
set_option Elab.async false
namespace Mine
set_option linter.unusedVariables false
set_option autoImplicit false

noncomputable abbrev Fz := Nat → Obj → Prop

@[reducible] noncomputable def tupObj (vs : List Value) (n : Nat) : Obj := { cls := .type "tuple", data := .seq vs.toArray n }
@[reducible] noncomputable def lstObj (vs : List Value) (n : Nat) : Obj := { cls := .type "list", data := .seq vs.toArray n }

noncomputable abbrev NF (F : Fz) (a : Nat) : Prop := ∀ o, o.isFreed = false → ¬ F a o

@[reducible] noncomputable def tokObj : Obj := { cls := .none, data := .freed }

noncomputable def DictO (prog : Program) (w : World) (o : Obj) (kvs : List (Str × Value)) (ep : Nat) (keys : List Value) : Prop :=
  o.ExactDict ∧ ∃ es, o.data = .dict es ep ∧ KeysOf (strKind prog w) es ∧ Pairs (strKind prog w) es.toList kvs ∧ (kvs.map (·.1)).Nodup ∧ es.toList.map (·.key) = keys

section
variable (prog : Program) (w : World)
mutual
inductive Rd (F : Fz) : PyData → Value → Prop
  | none : Rd F .none .none
  | bool (b) : Rd F (.bool b) (.bool b)
  | int (i t) : Rd F (.int i) (.int i t)
  | str {x t} : F t tokObj → Rd F (.str x) (.str x t)
  | tuple {a vs n ds} : F a (tupObj vs n) → RdAll F ds vs → Rd F (.tuple ds) (.ref a)
  | list {a vs n ds} : F a (lstObj vs n) → RdAll F ds vs → Rd F (.list ds) (.ref a)
  | dict {a o ep kvs ks ds es keys} : 3 < a → F a o → DictO prog w o kvs ep keys → es = (List.map PyData.str ks).zip ds → ks = kvs.map (·.1) → RdAll F (List.map PyData.str ks) keys → RdAll F ds (kvs.map (·.2)) → Rd F (.dict es) (.ref a)
inductive RdAll (F : Fz) : List PyData → List Value → Prop
  | nil : RdAll F [] []
  | cons {d v ds vs} : Rd F d v → RdAll F ds vs → RdAll F (d :: ds) (v :: vs)
end
end
section
variable {prog : Program} {w : World}

mutual
theorem Rd.mono {F F' : Fz} (hs : ∀ a o, F a o → F' a o) : ∀ {d : PyData} {v : Value}, Rd prog w F d v → Rd prog w F' d v
  | _, _, .none => .none
  | _, _, .bool b => .bool b
  | _, _, .int i t => .int i t
  | _, _, .str h1 => .str (hs _ _ h1)
  | _, _, .tuple h r => .tuple (hs _ _ h) (RdAll.mono hs r)
  | _, _, .list h r => .list (hs _ _ h) (RdAll.mono hs r)
  | _, _, .dict h0 h1 h2 h3 h4 q r => .dict h0 (hs _ _ h1) h2 h3 h4 (RdAll.mono hs q) (RdAll.mono hs r)
theorem RdAll.mono {F F' : Fz} (hs : ∀ a o, F a o → F' a o) : ∀ {ds vs}, RdAll prog w F ds vs → RdAll prog w F' ds vs
  | _, _, .nil => .nil
  | _, _, .cons h r => .cons (Rd.mono hs h) (RdAll.mono hs r)
end

theorem reads_keys {h : Heap} : ∀ {es : List DictEntry} {kvs : List (Str × Value)}, Pairs (strKind prog w) es kvs → ReadsAll h (es.map (·.key)) (kvs.map fun p => .str p.1) []
  | _, _, .nil => .nil
  | _, _, .cons h1 _ r => by
    obtain ⟨t, e⟩ := Value.isStrOf_shape h1
    simp only [List.map_cons]
    rw [e]
    exact ReadsAll.cons (as := []) (.str _ t) (reads_keys r)
theorem pairs_vals : ∀ {es : List DictEntry} {kvs : List (Str × Value)}, Pairs (strKind prog w) es kvs → es.map (·.val) = kvs.map (·.2)
  | _, _, .nil => rfl
  | _, _, .cons _ h2 r => by simp only [List.map_cons]; rw [pairs_vals r]; simp [h2]

theorem RdAll.length {F : Fz} {ds vs} (h : RdAll prog w F ds vs) : ds.length = vs.length := by
  induction ds generalizing vs with
  | nil => cases h; rfl
  | cons x ds ih => cases h with | cons _ r => simp [ih r]

mutual
theorem Rd.reads {F : Fz} {h : Heap} (hs : ∀ a o, F a o → o.isFreed = false → h.get? a = some o) : ∀ {d v}, Rd prog w F d v → ∃ as, Reads h v d as
  | _, _, .none => ⟨_, .none⟩
  | _, _, .bool b => ⟨_, .bool b⟩
  | _, _, .int i t => ⟨_, .int i t⟩
  | _, _, .str (x := x) (t := t) _ => ⟨_, .str x t⟩
  | _, _, .tuple h r => let ⟨_, q⟩ := RdAll.reads hs r; ⟨_, .tuple (hs _ _ h rfl) rfl rfl q⟩
  | _, _, .list h r => let ⟨_, q⟩ := RdAll.reads hs r; ⟨_, .list (hs _ _ h rfl) rfl rfl q⟩
  | _, _, .dict (ds := ds) (kvs := kvs) _ h1 hd e1 e2 _ r => by
    obtain ⟨h2, es, h3, _, h5, _, _⟩ := hd
    subst e1; subst e2
    obtain ⟨as, q⟩ := RdAll.reads hs r
    have hl : ds.length = kvs.length := by rw [RdAll.length r, List.length_map]
    refine ⟨_, .dict (hs _ _ h1 (Obj.isFreed_of_dict h3)) h2.1 h3 (as := []) (bs := as) ?_ ?_⟩
    · rw [List.map_fst_zip (by simp [hl])]; rw [List.map_map]; exact reads_keys h5
    · rw [List.map_snd_zip (by simp [hl]), pairs_vals h5]; exact q
theorem RdAll.reads {F : Fz} {h : Heap} (hs : ∀ a o, F a o → o.isFreed = false → h.get? a = some o) : ∀ {ds vs}, RdAll prog w F ds vs → ∃ as, ReadsAll h vs ds as
  | _, _, .nil => ⟨_, .nil⟩
  | _, _, .cons h r => let ⟨_, p⟩ := Rd.reads hs h; let ⟨_, q⟩ := RdAll.reads hs r; ⟨_, .cons p q⟩
end
end
section
variable {prog : Program} {w : World} {F : Fz}
theorem RdAll.append : ∀ {ds vs es us}, RdAll prog w F ds vs → RdAll prog w F es us → RdAll prog w F (ds ++ es) (vs ++ us)
  | _, _, _, _, .nil, k => k
  | _, _, _, _, .cons h r, k => .cons h (RdAll.append r k)
theorem RdAll.get {ds vs} (h : RdAll prog w F ds vs) : ∀ {k : Nat} {d}, ds[k]? = some d → ∃ v, vs[k]? = some v ∧ Rd prog w F d v := by
  induction ds generalizing vs with
  | nil => intro k d e; simp at e
  | cons x ds ih =>
    cases h with
    | cons h r =>
      intro k d e
      cases k with
      | zero => simp at e; subst e; exact ⟨_, rfl, h⟩
      | succ k => simp at e; simpa using ih r e
theorem RdAll.set {ds vs} (h : RdAll prog w F ds vs) {d v} (hd : Rd prog w F d v) : ∀ (k : Nat), RdAll prog w F (ds.set k d) (vs.set k v) := by
  induction ds generalizing vs with
  | nil => cases h; intro k; simpa using RdAll.nil
  | cons x ds ih =>
    cases h with
    | cons h r =>
      intro k
      cases k with
      | zero => exact .cons hd r
      | succ k => exact .cons h (ih r k)
theorem RdAll.take {ds vs} (h : RdAll prog w F ds vs) : ∀ (k : Nat), RdAll prog w F (ds.take k) (vs.take k) := by
  induction ds generalizing vs with
  | nil => cases h; intro k; simpa using RdAll.nil
  | cons x ds ih =>
    cases h with
    | cons h r =>
      intro k
      cases k with
      | zero => exact .nil
      | succ k => exact .cons h (ih r k)
theorem RdAll.drop {ds vs} (h : RdAll prog w F ds vs) : ∀ (k : Nat), RdAll prog w F (ds.drop k) (vs.drop k) := by
  induction ds generalizing vs with
  | nil => cases h; intro k; simpa using RdAll.nil
  | cons x ds ih =>
    cases h with
    | cons h r =>
      intro k
      cases k with
      | zero => exact .cons h r
      | succ k => simpa using ih r k
end

noncomputable abbrev sd (es : List (Str × PyData)) : PyData := .dict ((List.map PyData.str (es.map (·.1))).zip (es.map (·.2)))
@[reducible] noncomputable def rngObj (n : Int) (t u v : Tok) : Obj := { cls := .type "range", data := .fields #[.int 0 t, .int n u, .int 1 v] }
@[reducible] noncomputable def viewObj (d : Nat) : Obj := { cls := .type "dict_items", data := .fields #[.ref d] }

inductive AV where
  | dat (d : PyData)
  | mr (i : Nat)
  | opq (v : Value)
  | inst (c : Addr) (n : Str) (x : AV)
  | rng (n : Int)
  | view (es : List (Str × PyData))

inductive MO where
  | lst (ds : List PyData)
  | dict (es : List (Str × PyData))
  | dead

@[reducible] noncomputable def attrObj (P : Params) (n : Str) (t : Tok) (v : Value) (ep : Nat) : Obj := dictOf [⟨PyData.keyHash P n, .str n t, v⟩] ep

noncomputable def VR (prog : Program) (w : World) (F : Fz) (m : List Nat) : AV → Value → Prop
  | .dat d, v => Rd prog w F d v
  | .mr i, v => ∃ a, v = .ref a ∧ m[i]? = some a
  | .opq u, v => v = u
  | .inst c n x, v => ∃ a da t ep u, v = .ref a ∧ F a (instObj c da) ∧ F da (attrObj w.params n t u ep) ∧ VR prog w F m x u
  | .rng n, v => ∃ r t u z, v = .ref r ∧ F r (rngObj n t u z)
  | .view es, v => ∃ r d, v = .ref r ∧ F r (viewObj d) ∧ Rd prog w F (sd es) (.ref d)

section
variable (prog : Program) (w : World)
inductive MR (F : Fz) (h : Heap) (a : Nat) : MO → Prop
  | lst {vs n ds} : h.get? a = some (lstObj vs n) → RdAll prog w F ds vs → MR F h a (.lst ds)
  | dict {o kvs es ep keys} : 3 < a → h.get? a = some o → DictO prog w o kvs ep keys → kvs.map (·.1) = es.map (·.1) → RdAll prog w F (List.map PyData.str (es.map (·.1))) keys → RdAll prog w F (es.map (·.2)) (kvs.map (·.2)) → MR F h a (.dict es)
  | dead : MR F h a .dead

structure St (h0 : Heap) (F : Fz) (m : List Nat) (σ : List MO) (s : Shared) : Prop where
  base : ∀ b o, h0.get? b = some o → F b o
  fz : ∀ b o, F b o → o.isFreed = false → s.heap.get? b = some o
  len : m.length = σ.length
  nd : m.Nodup
  mr : ∀ (i : Nat) (a : Nat) (o : MO), m[i]? = some a → σ[i]? = some o → MR prog w F s.heap a o
  sep : ∀ (i : Nat) (a : Nat) (o : MO), m[i]? = some a → σ[i]? = some o → o ≠ .dead → ∀ ob, ob.isFreed = false → ¬ F a ob
  lt : ∀ a : Nat, a ∈ m → s.heap.get? a ≠ none
  tk : ∀ t o, F t o → o.isFreed = true → 0 < t ∧ t < s.toks
  pos : 0 < s.toks

structure Go (h0 : Heap) (F : Fz) (m : List Nat) (s : Shared) (F' : Fz) (m' : List Nat) (σ' : List MO) (s' : Shared) : Prop where
  fsub : ∀ b o, F b o → F' b o
  mpre : m <+: m'
  keep : ∀ b o, b ∉ m → s.heap.get? b = some o → s'.heap.get? b = some o
  mnew : ∀ a ∈ m', a ∈ m ∨ s.heap.get? a = none
  fnew : ∀ b o, F' b o → o.isFreed = false → F b o ∨ b ∈ m ∨ s.heap.get? b = none
  live : ∀ b, s.heap.get? b ≠ none → s'.heap.get? b ≠ none
  st : St prog w h0 F' m' σ' s'
  tks : s.toks ≤ s'.toks
  rest : ∃ tk, s' = { s with heap := s'.heap, toks := tk }
end

section
variable {prog : Program} {w : World} {h0 : Heap} {F F' F'' : Fz} {m m' m'' : List Nat} {σ σ' σ'' : List MO} {s s' s'' : Shared}

theorem none_of {h h' : Heap} (l : ∀ b, h.get? b ≠ none → h'.get? b ≠ none) {b : Nat} (e : h'.get? b = none) : h.get? b = none := by
  cases hb : h.get? b with
  | none => rfl
  | some o => exact absurd e (l b (by rw [hb]; simp))
theorem ne_none {h : Heap} {b : Nat} {o : Obj} (e : h.get? b = some o) : h.get? b ≠ none := by rw [e]; simp
theorem live_of {h h' : Heap} (hk : ∀ b o, h.get? b = some o → h'.get? b = some o) : ∀ b, h.get? b ≠ none → h'.get? b ≠ none := fun b hb => by
  cases e : h.get? b with
  | none => exact absurd e hb
  | some o => exact ne_none (hk b o e)
theorem fresh_size (h : Heap) : h.get? h.objs.size = none := by
  cases e : h.get? h.objs.size with
  | none => rfl
  | some o => exact absurd (Heap.lt_size e) (Nat.lt_irrefl _)

theorem Go.refl (S : St prog w h0 F m σ s) : Go prog w h0 F m s F m σ s :=
  ⟨fun _ _ h => h, List.prefix_refl _, fun _ _ _ e => e, fun _ h => .inl h, fun _ _ h _ => .inl h, fun _ h => h, S, Nat.le_refl _, ⟨_, rfl⟩⟩
theorem Go.trans (g : Go prog w h0 F m s F' m' σ' s') (g' : Go prog w h0 F' m' s' F'' m'' σ'' s'') : Go prog w h0 F m s F'' m'' σ'' s'' where
  fsub := fun b o h => g'.fsub b o (g.fsub b o h)
  mpre := g.mpre.trans g'.mpre
  keep := fun b o hb e => g'.keep b o (fun hb' => (g.mnew b hb').elim hb fun h => by rw [h] at e; cases e) (g.keep b o hb e)
  mnew := fun a ha => (g'.mnew a ha).elim (fun h => g.mnew a h) fun h => .inr (none_of g.live h)
  fnew := fun b o hb hf => (g'.fnew b o hb hf).elim (fun h => g.fnew b o h hf) fun h => h.elim (fun h => .inr (g.mnew b h)) fun h => .inr (.inr (none_of g.live h))
  live := fun b h => g'.live b (g.live b h)
  st := g'.st
  tks := Nat.le_trans g.tks g'.tks
  rest := by
    obtain ⟨t, e⟩ := g.rest
    obtain ⟨t', e'⟩ := g'.rest
    refine ⟨t', ?_⟩
    rw [e'] ; rw [e]

theorem VR.mono (hs : ∀ b o, F b o → F' b o) (hm : m <+: m') : ∀ {x v}, VR prog w F m x v → VR prog w F' m' x v
  | .dat d, v, h => Rd.mono hs h
  | .mr i, v, ⟨a, e, h⟩ => ⟨a, e, by
      obtain ⟨t, rfl⟩ := hm
      rw [List.getElem?_append_left]; exact h
      exact (List.getElem?_eq_some_iff.mp h).1⟩
  | .opq u, v, h => h
  | .inst c n x, v, ⟨a, da, t, ep, u, e, h1, h2, h3⟩ => ⟨a, da, t, ep, u, e, hs _ _ h1, hs _ _ h2, VR.mono hs hm h3⟩
  | .rng n, v, ⟨r, t, u, z, e, h⟩ => ⟨r, t, u, z, e, hs _ _ h⟩
  | .view es, v, ⟨r, d, e, h1, h2⟩ => ⟨r, d, e, hs _ _ h1, Rd.mono hs h2⟩
theorem Go.vr (g : Go prog w h0 F m s F' m' σ' s') {x v} (h : VR prog w F m x v) : VR prog w F' m' x v := VR.mono g.fsub g.mpre h
theorem Go.rd (g : Go prog w h0 F m s F' m' σ' s') {x v} (h : Rd prog w F x v) : Rd prog w F' x v := Rd.mono g.fsub h
theorem Go.rds (g : Go prog w h0 F m s F' m' σ' s') {x v} (h : RdAll prog w F x v) : RdAll prog w F' x v := RdAll.mono g.fsub h

theorem St.start (S : St prog w h0 F m σ s) : ∀ b o, h0.get? b = some o → s.heap.get? b = some o := fun b o e => S.fz b o (S.base b o e) (Heap.get?_some_iff.mp e).2

inductive VRs (prog : Program) (w : World) (F : Fz) (m : List Nat) : List AV → List Value → Prop
  | nil : VRs prog w F m [] []
  | cons {x v xs vs} : VR prog w F m x v → VRs prog w F m xs vs → VRs prog w F m (x :: xs) (v :: vs)
theorem VRs.mono (hs : ∀ b o, F b o → F' b o) (hm : m <+: m') {x v} (h : VRs prog w F m x v) : VRs prog w F' m' x v := by
  induction h with
  | nil => exact .nil
  | cons h _ ih => exact .cons (VR.mono hs hm h) ih
theorem Go.vrs (g : Go prog w h0 F m s F' m' σ' s') {x v} (h : VRs prog w F m x v) : VRs prog w F' m' x v := VRs.mono g.fsub g.mpre h
end

structure Room (A : Around) (k : Nat) : Prop where
  handled : A.handled = none
  depth : A.depth + 3 * k < recursionLimit
  units : A.units + 100 * k + 100 < cLine

theorem Room.d {A : Around} {k : Nat} (h : Room A k) : A.depth < recursionLimit := by have := h.depth; omega
theorem Room.u64 {A : Around} {k : Nat} (h : Room A k) : A.units + 64 < cLine := by have := h.units; omega
theorem Room.u0 {A : Around} {k : Nat} (h : Room A k) : A.units < cLine := by have := h.units; omega
theorem Room.deeper {A : Around} {k : Nat} {env : Env} (h : Room A (k + 1)) : Room (A.deeper env) k :=
  ⟨h.handled, by have := h.depth; show A.depth + 1 + _ < _; omega, by have := h.units; show A.units + 3 + _ + _ < _; omega⟩

section
variable (prog : Program) (w : World) (h0 : Heap)
inductive GP {α β : Type} (R : Fz → List Nat → β → α → Prop) (Q : β → List MO → Prop) (F : Fz) (m : List Nat) (s : Shared) (v : α) (s' : Shared) : Prop
  | mk (F' : Fz) (m' : List Nat) (x : β) (σ' : List MO) : Go prog w h0 F m s F' m' σ' s' → R F' m' x v → Q x σ' → GP R Q F m s v s'
noncomputable def GW {α β : Type} (R : Fz → List Nat → β → α → Prop) (A : Around) (t : Sem α) (Q : β → List MO → Prop) (F : Fz) (m : List Nat) (s : Shared) : Prop :=
  wpAny (model prog w) A t (GP prog w h0 R Q F m s) (fun _ _ => False) s
noncomputable abbrev AW := GW prog w h0 (VR prog w)
noncomputable abbrev AWs := GW prog w h0 (VRs prog w)
end
noncomputable abbrev REq {α : Type} : Fz → List Nat → α → α → Prop := fun _ _ a b => a = b

section
variable {prog : Program} {w : World} {h0 : Heap} {F F' F'' : Fz} {m m' m'' : List Nat} {σ σ' σ'' : List MO} {s s' s'' : Shared} {A : Around}
variable {α β γ δ : Type} {R : Fz → List Nat → β → α → Prop} {R' : Fz → List Nat → δ → γ → Prop}

theorem GW.mono {t : Sem α} {Q Q' : β → List MO → Prop} (h : GW prog w h0 R A t Q F m s) (k : ∀ x σ, Q x σ → Q' x σ) : GW prog w h0 R A t Q' F m s :=
  wpAny_mono h (fun _ _ ⟨F', m', x, σ', g, r, q⟩ => ⟨F', m', x, σ', g, r, k _ _ q⟩) fun _ _ e => e
theorem GW.after {t : Sem α} {Q : β → List MO → Prop} (g : Go prog w h0 F m s F' m' σ' s') (h : GW prog w h0 R A t Q F' m' s') : 
    wpAny (model prog w) A t (GP prog w h0 R Q F m s) (fun _ _ => False) s' :=
  wpAny_mono h (fun v s'' ⟨F'', m'', y, σ'', g', r', q'⟩ => ⟨F'', m'', y, σ'', g.trans g', r', q'⟩) fun _ _ e => e
theorem GW.use {t : Sem α} {Q : β → List MO → Prop} {Q' : α → Shared → Prop} {E : Value → Shared → Prop} (h : GW prog w h0 R A t Q F m s)
    (k : ∀ F' m' x σ' v s', Go prog w h0 F m s F' m' σ' s' → R F' m' x v → Q x σ' → Q' v s') : wpAny (model prog w) A t Q' E s :=
  wpAny_mono h (fun v s' ⟨F', m', x, σ', g, r, q⟩ => k F' m' x σ' v s' g r q) fun _ _ e => e.elim
end

section
variable {prog : Program} {w : World} {h0 : Heap} {F : Fz} {m : List Nat} {σ : List MO} {s : Shared}

theorem MR.keep {F F' : Fz} {h h' : Heap} {a : Nat} {o : MO} (x : MR prog w F h a o) (hs : ∀ b o, F b o → F' b o) (hk : ∀ o, h.get? a = some o → h'.get? a = some o) : MR prog w F' h' a o := by
  cases x with
  | lst h1 h2 => exact .lst (hk _ h1) (h2.mono hs)
  | dict h0 h1 h2 h3 h4 h5 => exact .dict h0 (hk _ h1) h2 h3 (h4.mono hs) (h5.mono hs)
  | dead => exact .dead

theorem St.tk' (S : St prog w h0 F m σ s) {t : Tok} (ht : s.toks ≤ t) : St prog w h0 F m σ { s with toks := t } :=
  ⟨S.base, S.fz, S.len, S.nd, S.mr, S.sep, S.lt, fun b o e hf => ⟨(S.tk b o e hf).1, Nat.lt_of_lt_of_le (S.tk b o e hf).2 ht⟩, Nat.lt_of_lt_of_le S.pos ht⟩
end
theorem Go.tok {prog : Program} {w : World} {h0 : Heap} {F : Fz} {m : List Nat} {σ : List MO} {s : Shared} (S : St prog w h0 F m σ s) (t : Tok) (ht : s.toks ≤ t := by first | exact Nat.le_refl _ | exact Nat.le_succ _ | omega) : Go prog w h0 F m s F m σ { s with toks := t } :=
  ⟨fun _ _ h => h, List.prefix_refl _, fun _ _ _ e => e, fun _ h => .inl h, fun _ _ h _ => .inl h, fun _ h => h, S.tk' ht, ht, ⟨_, rfl⟩⟩

theorem Go.tok1 {prog : Program} {w : World} {h0 : Heap} {F : Fz} {m : List Nat} {σ : List MO} {s : Shared} (S : St prog w h0 F m σ s) {t : Tok} (ht : s.toks < t) :
    Go prog w h0 F m s (fun b q => F b q ∨ (b = s.toks ∧ q = tokObj)) m σ { s with toks := t } :=
  ⟨fun _ _ h => .inl h, List.prefix_refl _, fun _ _ _ e => e, fun _ h => .inl h, fun _ _ h hf => h.elim .inl fun e => (by rw [e.2] at hf; cases hf), fun _ h => h,
    ⟨fun b q e => .inl (S.base b q e), fun b q e hf => e.elim (fun e => S.fz b q e hf) fun e => (by rw [e.2] at hf; cases hf), S.len, S.nd, fun i a o h1 h2 => (S.mr i a o h1 h2).keep (fun _ _ h => .inl h) fun o e => e,
      fun i a o h1 h2 h3 ob hf e => e.elim (S.sep i a o h1 h2 h3 ob hf) fun e => (by rw [e.2] at hf; cases hf), S.lt, fun t' o e hf => e.elim (fun e => ⟨(S.tk t' o e hf).1, Nat.lt_trans (S.tk t' o e hf).2 ht⟩) fun e => (by rw [e.1]; exact ⟨S.pos, ht⟩), Nat.lt_trans S.pos ht⟩, Nat.le_of_lt ht, ⟨_, rfl⟩⟩

section
variable {prog : Program} {w : World} {h0 : Heap} {F : Fz} {m : List Nat} {σ : List MO} {s : Shared}

theorem Go.grow {h' : Heap} {tk : Tok} (S : St prog w h0 F m σ s) (hk : ∀ b o, s.heap.get? b = some o → h'.get? b = some o) (ht : s.toks ≤ tk := by first | exact Nat.le_refl _ | exact Nat.le_succ _ | omega) :
    Go prog w h0 F m s F m σ { s with heap := h', toks := tk } :=
  ⟨fun _ _ h => h, List.prefix_refl _, fun b o _ e => hk b o e, fun _ h => .inl h, fun _ _ h _ => .inl h, live_of hk,
    ⟨S.base, fun b o h hf => hk b o (S.fz b o h hf), S.len, S.nd, fun i a o h1 h2 => (S.mr i a o h1 h2).keep (fun _ _ h => h) fun o e => hk _ o e, S.sep, fun a ha => live_of hk a (S.lt a ha), (S.tk' ht).tk, (S.tk' ht).pos⟩, ht, ⟨_, rfl⟩⟩

theorem Go.frz {h' : Heap} {tk : Tok} {a : Nat} {o : Obj} (S : St prog w h0 F m σ s) (hk : ∀ b o, s.heap.get? b = some o → h'.get? b = some o)
    (ha : s.heap.get? a = none) (ho : h'.get? a = some o) (ht : s.toks ≤ tk := by first | exact Nat.le_refl _ | exact Nat.le_succ _ | omega) :
    Go prog w h0 F m s (fun b q => F b q ∨ (b = a ∧ q = o)) m σ { s with heap := h', toks := tk } :=
  ⟨fun _ _ h => .inl h, List.prefix_refl _, fun b o _ e => hk b o e, fun _ h => .inl h, fun b q h _ => h.elim .inl fun h => .inr (.inr (h.1 ▸ ha)), live_of hk,
    ⟨fun b q e => .inl (S.base b q e), fun b q h hf => h.elim (fun h => hk b q (S.fz b q h hf)) fun h => h.1 ▸ h.2 ▸ ho, S.len, S.nd,
      fun i a o h1 h2 => (S.mr i a o h1 h2).keep (fun _ _ h => .inl h) fun o e => hk _ o e,
      fun i b q h1 h2 h3 ob hf h => h.elim (S.sep i b q h1 h2 h3 ob hf) fun h => S.lt b (List.mem_of_getElem? h1) (h.1 ▸ ha), fun a ha => live_of hk a (S.lt a ha),
      fun b q h hf => h.elim (fun h => (S.tk' ht).tk b q h hf) fun h => (by have := (Heap.get?_some_iff.mp ho).2; rw [← h.2, hf] at this; cases this), (S.tk' ht).pos⟩, ht, ⟨_, rfl⟩⟩

theorem Go.newmr {h' : Heap} {tk : Tok} {a : Nat} {mo : MO} (S : St prog w h0 F m σ s) (hk : ∀ b o, s.heap.get? b = some o → h'.get? b = some o)
    (ha : s.heap.get? a = none) (hlt : h'.get? a ≠ none) (ho : MR prog w F h' a mo) (ht : s.toks ≤ tk := by first | exact Nat.le_refl _ | exact Nat.le_succ _ | omega) :
    Go prog w h0 F m s F (m ++ [a]) (σ ++ [mo]) { s with heap := h', toks := tk } :=
  ⟨fun _ _ h => h, List.prefix_append _ _, fun b o _ e => hk b o e, fun b hb => (List.mem_append.mp hb).elim .inl fun h => .inr (by rw [List.mem_singleton.mp h]; exact ha), fun _ _ h _ => .inl h, live_of hk,
    ⟨S.base, fun b o h hf => hk b o (S.fz b o h hf), by simp [S.len],
      List.nodup_append.mpr ⟨S.nd, by simp, fun x hx y hy e => by rw [List.mem_singleton] at hy; subst hy; subst e; exact S.lt x hx ha⟩,
      fun i b q h1 h2 => by
        rcases Nat.lt_or_ge i m.length with hi | hi
        · rw [List.getElem?_append_left hi] at h1
          rw [List.getElem?_append_left (S.len ▸ hi)] at h2
          exact (S.mr i b q h1 h2).keep (fun _ _ h => h) fun o e => hk _ o e
        · rw [List.getElem?_append_right hi] at h1
          rw [List.getElem?_append_right (S.len ▸ hi), ← S.len] at h2
          cases hj : i - m.length with
          | zero => rw [hj] at h1 h2; simp at h1 h2; subst h1; subst h2; exact ho
          | succ k => rw [hj] at h1; simp at h1,
      fun i b q h1 h2 h3 ob hf hF => by
        rcases Nat.lt_or_ge i m.length with hi | hi
        · rw [List.getElem?_append_left hi] at h1
          rw [List.getElem?_append_left (S.len ▸ hi)] at h2
          exact S.sep i b q h1 h2 h3 ob hf hF
        · rw [List.getElem?_append_right hi] at h1
          cases hj : i - m.length with
          | zero => rw [hj] at h1; simp at h1; subst h1; have := S.fz _ _ hF hf; rw [ha] at this; cases this
          | succ k => rw [hj] at h1; simp at h1,
      fun b hb => (List.mem_append.mp hb).elim (fun h => live_of hk b (S.lt b h)) fun h => by rw [List.mem_singleton.mp h]; exact hlt, (S.tk' ht).tk, (S.tk' ht).pos⟩, ht, ⟨_, rfl⟩⟩

theorem nodup_ne {l : List Nat} (h : l.Nodup) {i j : Nat} {a b : Nat} (hi : l[i]? = some a) (hj : l[j]? = some b) (hne : i ≠ j) : a ≠ b := by
  intro e
  subst e
  exact hne ((List.getElem?_inj (List.getElem?_eq_some_iff.mp hi).1 h).mp (hi.trans hj.symm))

theorem Go.change {h' : Heap} {tk : Tok} {i : Nat} {a : Nat} {mo mo' : MO} (S : St prog w h0 F m σ s) (hi : m[i]? = some a) (hσ : σ[i]? = some mo) (hmo : mo ≠ .dead)
    (hk : ∀ b o, b ≠ a → s.heap.get? b = some o → h'.get? b = some o) (hz : h'.get? a ≠ none) (ho : MR prog w F h' a mo') (ht : s.toks ≤ tk := by first | exact Nat.le_refl _ | exact Nat.le_succ _ | omega) :
    Go prog w h0 F m s F m (σ.set i mo') { s with heap := h', toks := tk } := by
  have hl : ∀ b, s.heap.get? b ≠ none → h'.get? b ≠ none := fun b hb => by
    by_cases e : b = a
    · rw [e]; exact hz
    · cases e' : s.heap.get? b with
      | none => exact absurd e' hb
      | some o => exact ne_none (hk b o e e')
  exact
  ⟨fun _ _ h => h, List.prefix_refl _, fun b o hb e => hk b o (fun h => hb (h ▸ List.mem_of_getElem? hi)) e, fun _ h => .inl h, fun _ _ h _ => .inl h, hl,
    ⟨S.base, fun b o h hf => hk b o (fun e => S.sep i a mo hi hσ hmo o hf (e ▸ h)) (S.fz b o h hf), by simp [S.len], S.nd,
      fun j b q h1 h2 => by
        by_cases hij : i = j
        · subst hij
          rw [hi] at h1; cases h1
          rw [List.getElem?_set_self (List.getElem?_eq_some_iff.mp hσ).1] at h2; cases h2
          exact ho
        · rw [List.getElem?_set_ne hij] at h2
          exact (S.mr j b q h1 h2).keep (fun _ _ h => h) fun o e => hk b o (nodup_ne S.nd h1 hi (Ne.symm hij)) e,
      fun j b q h1 h2 h3 ob hf hF => by
        by_cases hij : i = j
        · subst hij
          rw [hi] at h1; cases h1
          exact S.sep i a mo hi hσ hmo ob hf hF
        · rw [List.getElem?_set_ne hij] at h2
          exact S.sep j b q h1 h2 h3 ob hf hF,
      fun b hb => hl b (S.lt b hb), (S.tk' ht).tk, (S.tk' ht).pos⟩, ht, ⟨_, rfl⟩⟩

theorem Go.freezeO {i : Nat} {a : Nat} {mo : MO} {o : Obj} (S : St prog w h0 F m σ s) (hi : m[i]? = some a) (hσ : σ[i]? = some mo) (hg : s.heap.get? a = some o) :
    Go prog w h0 F m s (fun b q => F b q ∨ (b = a ∧ q = o)) m (σ.set i .dead) s := by
  refine ⟨fun _ _ h => .inl h, List.prefix_refl _, fun b o _ e => e, fun _ h => .inl h, fun b q h _ => h.elim .inl fun h => .inr (.inl (h.1 ▸ List.mem_of_getElem? hi)), fun _ h => h,
    ⟨fun b q e => .inl (S.base b q e), fun b q h hf => h.elim (fun h => S.fz b q h hf) fun h => h.1 ▸ h.2 ▸ hg, by simp [S.len], S.nd, ?_, ?_, S.lt,
      fun b q h hf => h.elim (fun h => S.tk b q h hf) fun h => (by have := (Heap.get?_some_iff.mp hg).2; rw [← h.2, hf] at this; cases this), S.pos⟩, Nat.le_refl _, ⟨_, rfl⟩⟩
  · intro j b q h1 h2
    by_cases hij : i = j
    · subst hij
      rw [List.getElem?_set_self (List.getElem?_eq_some_iff.mp hσ).1] at h2; cases h2
      exact .dead
    · rw [List.getElem?_set_ne hij] at h2
      exact (S.mr j b q h1 h2).keep (fun _ _ h => .inl h) fun o e => e
  · intro j b q h1 h2 h3 ob hf hF
    by_cases hij : i = j
    · subst hij
      rw [List.getElem?_set_self (List.getElem?_eq_some_iff.mp hσ).1] at h2; cases h2
      exact h3 rfl
    · rw [List.getElem?_set_ne hij] at h2
      exact hF.elim (S.sep j b q h1 h2 h3 ob hf) fun h => nodup_ne S.nd h1 hi (Ne.symm hij) h.1

theorem Go.freezeD {i : Nat} {a : Nat} {es : List (Str × PyData)} (S : St prog w h0 F m σ s) (hi : m[i]? = some a) (hσ : σ[i]? = some (.dict es)) :
    ∃ F', Go prog w h0 F m s F' m (σ.set i .dead) s ∧ Rd prog w F' (sd es) (.ref a) := by
  have hmr := S.mr i a _ hi hσ
  cases hmr with
  | dict h3a h1 hd hk hq hr =>
  exact ⟨_, Go.freezeO S hi hσ h1, .dict h3a (.inr ⟨rfl, rfl⟩) hd rfl hk.symm (hq.mono fun _ _ h => .inl h) (hr.mono fun _ _ h => .inl h)⟩

theorem Go.cut {F' : Fz} {m' : List Nat} {σ' : List MO} {s' : Shared} (g : Go prog w h0 F m s F' m' σ' s') (k : Nat) (hk : m.length ≤ k) : Go prog w h0 F m s F' (m'.take k) (σ'.take k) s' :=
  ⟨g.fsub, by
      obtain ⟨t, rfl⟩ := g.mpre
      rw [List.take_append, List.take_of_length_le hk]
      exact List.prefix_append _ _, g.keep, fun a ha => g.mnew a (List.mem_of_mem_take ha), g.fnew, g.live,
    ⟨g.st.base, g.st.fz, by simp [g.st.len], g.st.nd.sublist (List.take_sublist _ _), fun i a o h1 h2 => (by
        rw [List.getElem?_take] at h1 h2
        by_cases hi : i < k
        · rw [if_pos hi] at h1 h2; exact g.st.mr i a o h1 h2
        · rw [if_neg hi] at h1; cases h1),
      fun i a o h1 h2 => (by
        rw [List.getElem?_take] at h1 h2
        by_cases hi : i < k
        · rw [if_pos hi] at h1 h2; exact g.st.sep i a o h1 h2
        · rw [if_neg hi] at h1; cases h1), fun a ha => g.st.lt a (List.mem_of_mem_take ha), g.st.tk, g.st.pos⟩, g.tks, g.rest⟩
end
end Mine
end

section -- PgB
open PySem PySem.W PyProof.Rows PySem.Calls
set_option Elab.async false
namespace Mine
set_option autoImplicit false
set_option linter.unusedVariables false

structure Wd where
  prog : Program
  w : World
  h0 : Heap
  mg : Str → Option Value
  K : Frag
  kin : K.In h0
  g : h0.Ns mainGlobals mg
  b : ∃ mb, h0.Ns builtinsNs mb ∧ ∀ x : Str, x ≠ "__name__" → mb x = bootBuiltins x
  nolimit : h0.NoLimit
  digits : ∃ mc, h0.Ns cStatics mc ∧ mc "sys.int_max_str_digits" = none

structure Cx where
  sc : Scope
  own : List Str

noncomputable abbrev Loc := List (Str × AV)
noncomputable def put (x : Str) (v : AV) : Loc → Loc
  | [] => [(x, v)]
  | (y, u) :: r => if y = x then (y, v) :: r else (y, u) :: put x v r

theorem put_self (x : Str) (v : AV) : ∀ l : Loc, (put x v l).lookup x = some v
  | [] => by simp [put]
  | (y, u) :: r => by
    unfold put
    split
    · rename_i h; subst h; simp
    · rename_i h
      have hb : (x == y) = false := beq_eq_false_iff_ne.mpr fun e => h e.symm
      simp only [List.lookup_cons, hb]
      exact put_self x v r
theorem put_other (x : Str) (v : AV) {z : Str} (hz : z ≠ x) : ∀ l : Loc, (put x v l).lookup z = l.lookup z
  | [] => by simp [put, hz]
  | (y, u) :: r => by
    unfold put
    split
    · rename_i h; subst h
      have hb : (z == y) = false := beq_eq_false_iff_ne.mpr hz
      simp only [List.lookup_cons, hb]
    · simp only [List.lookup_cons]
      rw [put_other x v hz r]

structure En (prog : Program) (w : World) (c : Cx) (env : Env) (W : List Nat) (loc : Loc) (F : Fz) (m : List Nat) (h : Heap) : Prop where
  scope : env.scope = c.sc
  kind : c.sc.kind = .function
  glob : env.globals = mainGlobals
  bns : env.builtins = builtinsNs
  locW : env.locals ∈ W
  priv : ∀ b : Nat, b ∈ W → b ∉ m ∧ NF F b ∧ h.get? b ≠ none
  ns : ∃ mp, h.Ns env.locals mp ∧ ∀ x v, loc.lookup x = some v → c.sc.names.lookup x = some .local → ∃ u, mp x = some u ∧ VR prog w F m v u
  cell : ∀ x v, loc.lookup x = some v → c.sc.names.lookup x ≠ some .local →
    (c.sc.names.lookup x = some .cell ∨ c.sc.names.lookup x = some .free) ∧ ∃ a u, env.cells.lookup x = some a ∧ h.IsCell a (some u) ∧ VR prog w F m v u
  cells : ∀ x a, env.cells.lookup x = some a → a ∉ m ∧ NF F a ∧ a ≠ env.locals ∧ ∃ v0, h.IsCell a v0
  apart : ∀ x y a, env.cells.lookup x = some a → env.cells.lookup y = some a → x = y
  own : ∀ x ∈ c.own, c.sc.names.lookup x = some .cell ∧ ∃ a, env.cells.lookup x = some a ∧ a ∈ W

noncomputable def Subs : Loc → Loc → Prop
  | [], _ => True
  | (x, v) :: r, l => l.lookup x = some v ∧ Subs r l
theorem Subs.at : ∀ {l' l : Loc}, Subs l' l → ∀ x v, l'.lookup x = some v → l.lookup x = some v
  | [], _, _, x, v, h => by simp at h
  | (y, u) :: r, l, hs, x, v, h => by
    simp only [List.lookup_cons] at h
    cases hb : x == y with
    | true => rw [hb] at h; cases h; rw [eq_of_beq hb]; exact hs.1
    | false => rw [hb] at h; exact Subs.at hs.2 x v h
theorem En.sub {prog : Program} {w : World} {c : Cx} {env : Env} {W : List Nat} {loc loc' : Loc} {F : Fz} {m : List Nat} {h : Heap} (e : En prog w c env W loc F m h) (hs : Subs loc' loc) : En prog w c env W loc' F m h :=
  ⟨e.scope, e.kind, e.glob, e.bns, e.locW, e.priv, let ⟨mp, h1, h2⟩ := e.ns; ⟨mp, h1, fun x v h3 => h2 x v (hs.at x v h3)⟩, fun x v h3 => e.cell x v (hs.at x v h3), e.cells, e.apart, e.own⟩

structure XGo (X : Wd) (W : List Nat) (F : Fz) (m : List Nat) (s : Shared) (F' : Fz) (m' : List Nat) (σ' : List MO) (s' : Shared) : Prop where
  fsub : ∀ b o, F b o → F' b o
  mpre : m <+: m'
  keep : ∀ b o, b ∉ m → b ∉ W → s.heap.get? b = some o → s'.heap.get? b = some o
  mnew : ∀ a ∈ m', a ∈ m ∨ s.heap.get? a = none
  fnew : ∀ b o, F' b o → o.isFreed = false → F b o ∨ b ∈ m ∨ s.heap.get? b = none
  live : ∀ b, s.heap.get? b ≠ none → s'.heap.get? b ≠ none
  st : St X.prog X.w X.h0 F' m' σ' s'
  tks : s.toks ≤ s'.toks
  rest : ∃ tk, s' = { s with heap := s'.heap, toks := tk }

section
variable {X : Wd} {F F' F'' : Fz} {m m' m'' : List Nat} {σ σ' σ'' : List MO} {s s' s'' : Shared} {c : Cx} {env : Env} {W : List Nat} {loc : Loc}

theorem St.move {h' : Heap} {tk : Tok} (S : St X.prog X.w X.h0 F m σ s) (hk : ∀ b o, (b ∈ m ∨ ∃ q, q.isFreed = false ∧ F b q) → s.heap.get? b = some o → h'.get? b = some o) (ht : s.toks ≤ tk := by first | exact Nat.le_refl _ | exact Nat.le_succ _ | omega) :
    St X.prog X.w X.h0 F m σ { s with heap := h', toks := tk } :=
  ⟨S.base, fun b o e hf => hk b o (.inr ⟨o, hf, e⟩) (S.fz b o e hf), S.len, S.nd, fun i b q h1 h2 => (S.mr i b q h1 h2).keep (fun _ _ h => h) fun o => hk b o (.inl (List.mem_of_getElem? h1)), S.sep, fun b hb => by
    cases e : s.heap.get? b with
    | none => exact absurd e (S.lt b hb)
    | some o => exact ne_none (hk b o (.inl hb) e), (S.tk' ht).tk, (S.tk' ht).pos⟩

theorem Go.toX (g : Go X.prog X.w X.h0 F m s F' m' σ' s') : XGo X W F m s F' m' σ' s' := ⟨g.fsub, g.mpre, fun b o hb _ e => g.keep b o hb e, g.mnew, g.fnew, g.live, g.st, g.tks, g.rest⟩
theorem XGo.trans (g : XGo X W F m s F' m' σ' s') (g' : XGo X W F' m' s' F'' m'' σ'' s'') : XGo X W F m s F'' m'' σ'' s'' where
  fsub := fun b o h => g'.fsub b o (g.fsub b o h)
  mpre := g.mpre.trans g'.mpre
  keep := fun b o hb hw e => g'.keep b o (fun hb' => (g.mnew b hb').elim hb fun h => by rw [h] at e; cases e) hw (g.keep b o hb hw e)
  mnew := fun a ha => (g'.mnew a ha).elim (fun h => g.mnew a h) fun h => .inr (none_of g.live h)
  fnew := fun b o hb hf => (g'.fnew b o hb hf).elim (fun h => g.fnew b o h hf) fun h => h.elim (fun h => .inr (g.mnew b h)) fun h => .inr (.inr (none_of g.live h))
  live := fun b h => g'.live b (g.live b h)
  st := g'.st
  tks := Nat.le_trans g.tks g'.tks
  rest := by
    obtain ⟨t, e⟩ := g.rest
    obtain ⟨t', e'⟩ := g'.rest
    refine ⟨t', ?_⟩
    rw [e'] ; rw [e]
theorem XGo.vr (g : XGo X W F m s F' m' σ' s') {x v} (h : VR X.prog X.w F m x v) : VR X.prog X.w F' m' x v := VR.mono g.fsub g.mpre h
theorem XGo.close (g : XGo X W F m s F' m' σ' s') (hW : ∀ b ∈ W, s.heap.get? b = none) : Go X.prog X.w X.h0 F m s F' m' σ' s' :=
  ⟨g.fsub, g.mpre, fun b o hb e => g.keep b o hb (fun h => by rw [hW b h] at e; cases e) e, g.mnew, g.fnew, g.live, g.st, g.tks, g.rest⟩
theorem XGo.drop {W' : List Nat} (g : XGo X W' F m s F' m' σ' s') (hW : ∀ b ∈ W', b ∈ W ∨ s.heap.get? b = none) : XGo X W F m s F' m' σ' s' :=
  ⟨g.fsub, g.mpre, fun b o hb hw e => g.keep b o hb (fun h => (hW b h).elim hw fun q => by rw [q] at e; cases e) e, g.mnew, g.fnew, g.live, g.st, g.tks, g.rest⟩

theorem En.of {h h' : Heap} (e : En X.prog X.w c env W loc F m h) (hs : ∀ b o, F b o → F' b o) (hm : m <+: m') (hk : ∀ b o, b ∈ W ∨ (∃ x, env.cells.lookup x = some b) → h.get? b = some o → h'.get? b = some o)
    (hmn : ∀ a ∈ m', a ∈ m ∨ h.get? a = none) (hfn : ∀ b o, F' b o → o.isFreed = false → F b o ∨ b ∈ m ∨ h.get? b = none) (hz : ∀ b ∈ W, h.get? b ≠ none → h'.get? b ≠ none) : En X.prog X.w c env W loc F' m' h' where
  scope := e.scope
  kind := e.kind
  glob := e.glob
  bns := e.bns
  locW := e.locW
  priv := fun b hb => by
    obtain ⟨h1, h2, h3⟩ := e.priv b hb
    exact ⟨fun hx => (hmn b hx).elim h1 h3, fun o hf hx => (hfn b o hx hf).elim (h2 o hf) fun q => q.elim h1 h3, hz b hb h3⟩
  ns := by
    obtain ⟨mp, hn, hv⟩ := e.ns
    exact ⟨mp, hn.at' fun o => hk _ o (.inl e.locW), fun x v h1 h2 => let ⟨u, h3, h4⟩ := hv x v h1 h2; ⟨u, h3, VR.mono hs hm h4⟩⟩
  cell := fun x v h1 h2 => by
    obtain ⟨h3, a, u, h4, ⟨o, h5, h6⟩, h7⟩ := e.cell x v h1 h2
    exact ⟨h3, a, u, h4, ⟨o, hk a o (.inr ⟨x, h4⟩) h5, h6⟩, VR.mono hs hm h7⟩
  cells := fun x a ha => by
    obtain ⟨h1, h2, h3, v0, o, h4, h5⟩ := e.cells x a ha
    have hlt := ne_none h4
    exact ⟨fun hx => (hmn a hx).elim h1 hlt, fun o hf hx => (hfn a o hx hf).elim (h2 o hf) fun q => q.elim h1 hlt, h3, v0, o, hk a o (.inr ⟨x, ha⟩) h4, h5⟩
  apart := e.apart
  own := e.own
theorem En.go (e : En X.prog X.w c env W loc F m s.heap) (g : Go X.prog X.w X.h0 F m s F' m' σ' s') : En X.prog X.w c env W loc F' m' s'.heap :=
  e.of g.fsub g.mpre (fun b o hb h => g.keep b o (hb.elim (fun hb => (e.priv b hb).1) fun ⟨x, hb⟩ => (e.cells x b hb).1) h) g.mnew g.fnew (fun b _ => g.live b)
theorem En.xgo {W' : List Nat} (e : En X.prog X.w c env W loc F m s.heap) (g : XGo X W' F m s F' m' σ' s') (hW : ∀ b ∈ W, b ∉ W') (hc : ∀ x b, env.cells.lookup x = some b → b ∉ W') : En X.prog X.w c env W loc F' m' s'.heap :=
  e.of g.fsub g.mpre (fun b o hb h => g.keep b o (hb.elim (fun hb => (e.priv b hb).1) fun ⟨x, hb⟩ => (e.cells x b hb).1) (hb.elim (fun hb => hW b hb) fun ⟨x, hb⟩ => hc x b hb) h) g.mnew g.fnew (fun b _ => g.live b)

theorem En.endI {I : Nat} {h h' : Heap} (e : En X.prog X.w c env W loc F m h) (hk : ∀ b o, b ≠ I → h.get? b = some o → h'.get? b = some o) (hW : I ∉ W) (hc : ∀ x b, env.cells.lookup x = some b → b ≠ I) : En X.prog X.w c env W loc F m h' :=
  e.of (fun _ _ h => h) (List.prefix_refl _) (fun b o hb => hk b o (hb.elim (fun hb e => hW (e ▸ hb)) fun ⟨x, hb⟩ => hc x b hb)) (fun _ h => .inl h) (fun _ _ h _ => .inl h) fun b hb hn => by
    cases e' : h.get? b with
    | none => exact absurd e' hn
    | some o => rw [hk b o (fun q => hW (q ▸ hb)) e']; simp
theorem XGo.endI {I : Nat} {s₁ : Shared} (g : XGo X W F m s F' m' σ' s₁) (hk : ∀ b o, b ≠ I → s₁.heap.get? b = some o → s'.heap.get? b = some o) (hr : ∃ tk, s₁.toks ≤ tk ∧ s' = { s₁ with heap := s'.heap, toks := tk })
    (h1 : s.heap.get? I = none) (h3 : I ∉ m') (h4 : NF F' I) : XGo X W F m s F' m' σ' s' := by
  have hC : ∀ b, s.heap.get? b ≠ none → b ≠ I := fun b hb e => hb (e ▸ h1)
  have hl : ∀ b, b ≠ I → s₁.heap.get? b ≠ none → s'.heap.get? b ≠ none := fun b hb hn => by
    cases e' : s₁.heap.get? b with
    | none => exact absurd e' hn
    | some o => rw [hk b o hb e']; simp
  refine ⟨g.fsub, g.mpre, fun b o hb hw e => hk b o (hC b (ne_none e)) (g.keep b o hb hw e), g.mnew, g.fnew, fun b hb => hl b (hC b hb) (g.live b hb),
    ⟨g.st.base, fun b o e hf => hk b o (fun h => h4 o hf (h ▸ e)) (g.st.fz b o e hf), g.st.len, g.st.nd, fun i b q e1 e2 => (g.st.mr i b q e1 e2).keep (fun _ _ h => h) fun o => hk b o (fun h => h3 (h ▸ List.mem_of_getElem? e1)), g.st.sep,
      fun b hb => hl b (fun h => h3 (h ▸ hb)) (g.st.lt b hb), ?_, ?_⟩, ?_, ?_⟩
  · obtain ⟨t', ht, e'⟩ := hr
    rw [e']; exact (g.st.tk' ht).tk
  · obtain ⟨t', ht, e'⟩ := hr
    rw [e']; exact (g.st.tk' ht).pos
  · obtain ⟨t', ht, e'⟩ := hr
    rw [e']; exact Nat.le_trans g.tks ht
  obtain ⟨t, e⟩ := g.rest
  obtain ⟨t', _, e'⟩ := hr
  exact ⟨t', by rw [e']; rw [e]⟩

theorem En.kindOf (e : En X.prog X.w c env W loc F m s.heap) (x : Str) : env.kindOf x = c.sc.names.lookup x := by unfold Env.kindOf; rw [e.scope]
theorem En.ek (e : En X.prog X.w c env W loc F m s.heap) : env.scope.kind = .function := by rw [e.scope]; exact e.kind
end

section
variable (X : Wd)
noncomputable abbrev aw := @GW X.prog X.w X.h0
noncomputable def ewp (c : Cx) (k : Nat) (e : Expr) (Q : AV → List MO → Prop) (loc : Loc) (σ : List MO) : Prop :=
  ∀ A env W F m s, Room A k → St X.prog X.w X.h0 F m σ s → En X.prog X.w c env W loc F m s.heap → AW X.prog X.w X.h0 A (eval e env) Q F m s
noncomputable def twp (c : Cx) (k : Nat) (e : Expr) (Q : Bool → List MO → Prop) (loc : Loc) (σ : List MO) : Prop :=
  ∀ A env W F m s, Room A k → St X.prog X.w X.h0 F m σ s → En X.prog X.w c env W loc F m s.heap → GW X.prog X.w X.h0 REq A (isTrue e env (eval e env)) Q F m s
noncomputable def tsp (c : Cx) (k : Nat) (es : List Expr) (Q : Bool → List MO → Prop) (loc : Loc) (σ : List MO) : Prop :=
  ∀ A env W F m s, Room A k → St X.prog X.w X.h0 F m σ s → En X.prog X.w c env W loc F m s.heap → GW X.prog X.w X.h0 REq A (allTrue .And es env) Q F m s
noncomputable def asp (c : Cx) (k : Nat) (es : List Expr) (Q : List AV → List MO → Prop) (loc : Loc) (σ : List MO) : Prop :=
  ∀ A env W F m s pos, Room A k → St X.prog X.w X.h0 F m σ s → En X.prog X.w c env W loc F m s.heap → AWs X.prog X.w X.h0 A (spliced (backTo pos (starEach es env))) Q F m s
noncomputable def ksp (c : Cx) (k : Nat) (ks : List Keyword) (Q : List AV → List MO → Prop) (loc : Loc) (σ : List MO) : Prop :=
  ∀ A env W F m s pos, Room A k → St X.prog X.w X.h0 F m σ s → En X.prog X.w c env W loc F m s.heap → AWs X.prog X.w X.h0 A (evalAll ((backToKw pos (keywordEach ks env)).map (·.2))) Q F m s
noncomputable def v1 (k : Nat) (f : Value → Sem Value) (a : AV) (Q : AV → List MO → Prop) (σ : List MO) : Prop :=
  ∀ A F m s u, Room A k → St X.prog X.w X.h0 F m σ s → VR X.prog X.w F m a u → AW X.prog X.w X.h0 A (f u) Q F m s
noncomputable def v2 (k : Nat) (f : Value → Value → Sem Value) (a b : AV) (Q : AV → List MO → Prop) (σ : List MO) : Prop :=
  ∀ A F m s u v, Room A k → St X.prog X.w X.h0 F m σ s → VR X.prog X.w F m a u → VR X.prog X.w F m b v → AW X.prog X.w X.h0 A (f u v) Q F m s
noncomputable def v3 (k : Nat) (f : Value → Value → Value → Sem Unit) (a b d : AV) (Q : List MO → Prop) (σ : List MO) : Prop :=
  ∀ A F m s u v x, Room A k → St X.prog X.w X.h0 F m σ s → VR X.prog X.w F m a u → VR X.prog X.w F m b v → VR X.prog X.w F m d x → GW X.prog X.w X.h0 REq A (f u v x) (fun _ => Q) F m s
noncomputable def vt (k : Nat) (a : AV) (Q : Bool → List MO → Prop) (σ : List MO) : Prop :=
  ∀ A F m s u, Room A k → St X.prog X.w X.h0 F m σ s → VR X.prog X.w F m a u → GW X.prog X.w X.h0 REq A (truthy u) Q F m s
noncomputable def fwp (k : Nat) (f : Value) (as : List AV) (kn : List Str) (ks : List AV) (Q : AV → List MO → Prop) (σ : List MO) : Prop :=
  ∀ A F m s us vs, Room A k → St X.prog X.w X.h0 F m σ s → VRs X.prog X.w F m as us → VRs X.prog X.w F m ks vs → AW X.prog X.w X.h0 A (call f us (kn.zip vs)) Q F m s
end

section
variable {X : Wd} {c : Cx} {k : Nat} {loc : Loc} {σ : List MO} {Q : AV → List MO → Prop}

theorem Wd.three {X : Wd} {F : Fz} {m : List Nat} {σ : List MO} {s : Shared} (S : St X.prog X.w X.h0 F m σ s) : 3 < s.heap.objs.size := by
  obtain ⟨o, _, _, ho, _⟩ := X.g.keeps S.start
  exact Heap.lt_size ho
theorem ewp_int {i : Int} {kd : Nat} {pos : Pos} (h : Q (.dat (.int i)) σ) : ewp X c k (.Constant (.int i) kd pos) Q loc σ := fun A env W F m s R S E =>
  wpAny_Constant_int ⟨F, m, .dat (.int i), σ, Go.tok S _, Rd.int _ _, h⟩
theorem ewp_str {x : Str} {kd : Nat} {pos : Pos} (h : Q (.dat (.str x)) σ) : ewp X c k (.Constant (.str x) kd pos) Q loc σ := fun A env W F m s R S E =>
  wpAny_Constant_str ⟨_, m, .dat (.str x), σ, Go.tok1 S (Nat.lt_succ_self _), Rd.str (.inr ⟨rfl, rfl⟩), h⟩
theorem ewp_bool {b : Bool} {kd : Nat} {pos : Pos} (h : Q (.dat (.bool b)) σ) : ewp X c k (.Constant (.bool b) kd pos) Q loc σ := fun A env W F m s R S E =>
  wpAny_Constant_bool ⟨F, m, .dat (.bool b), σ, Go.refl S, Rd.bool _, h⟩
theorem ewp_none {kd : Nat} {pos : Pos} (h : Q (.dat .none) σ) : ewp X c k (.Constant .none kd pos) Q loc σ := fun A env W F m s R S E =>
  wpAny_Constant_none ⟨F, m, .dat .none, σ, Go.refl S, Rd.none, h⟩

theorem ewp_name {x : Str} {pos : Pos} {v : AV} (hv : loc.lookup x = some v) (h : Q v σ) (hd : (x == ("__debug__" : Str)) = false := by decide) (hd' : (x == ("__classdict__" : Str)) = false := by decide) :
    ewp X c k (.Name x pos) Q loc σ := fun A env W F m s R S E => by
  refine wpAny_Name ?_ hd
  by_cases hl : c.sc.names.lookup x = some .local
  · obtain ⟨mp, hn, hm⟩ := E.ns
    obtain ⟨u, h1, h2⟩ := hm x v hv hl
    exact wpAny_loadName_local E.ek ((E.kindOf x).trans hl) hn h1 ⟨F, m, v, σ, Go.refl S, h2, h⟩
  · obtain ⟨hk, a, u, h1, h2, h3⟩ := E.cell x v hv hl
    rcases hk with hk | hk
    · exact wpAny_loadName_cell E.ek ((E.kindOf x).trans hk) h1 h2 ⟨F, m, v, σ, Go.refl S, h3, h⟩
    · exact wpAny_loadName_free E.ek ((E.kindOf x).trans hk) h1 h2 ⟨F, m, v, σ, Go.refl S, h3, h⟩ hd'

theorem ewp_global {x : Str} {pos : Pos} {v : Value} (hk : c.sc.names.lookup x = some .globalImplicit) (hv : X.mg x = some v) (h : Q (.opq v) σ) (hd : (x == ("__debug__" : Str)) = false := by decide) :
    ewp X c k (.Name x pos) Q loc σ := fun A env W F m s R S E =>
  Name_function_global E.ek ((E.kindOf x).trans hk) (loadGlobal_global (by rw [E.glob]; exact X.g.keeps S.start) hv ⟨F, m, .opq v, σ, Go.refl S, rfl, h⟩) hd
theorem ewp_builtin {x : Str} {pos : Pos} {v : Value} (hk : c.sc.names.lookup x = some .globalImplicit) (hm : X.mg x = none) (hv : bootBuiltins x = some v) (h : Q (.opq v) σ)
    (hn : x ≠ "__name__" := by decide) (hd : (x == ("__debug__" : Str)) = false := by decide) :
    ewp X c k (.Name x pos) Q loc σ := fun A env W F m s R S E => by
  obtain ⟨mb, h1, h2⟩ := X.b
  exact Name_function_global E.ek ((E.kindOf x).trans hk) (loadGlobal_builtin (by rw [E.glob]; exact X.g.keeps S.start) hm (by rw [E.bns]; exact h1.keeps S.start) ((h2 x hn).trans hv) ⟨F, m, .opq v, σ, Go.refl S, rfl, h⟩) hd

theorem ewp.use {e : Expr} (h : ewp X c k e Q loc σ) {A : Around} {env : Env} {W : List Nat} {F : Fz} {m : List Nat} {s : Shared} (R : Room A k) (S : St X.prog X.w X.h0 F m σ s)
    (E : En X.prog X.w c env W loc F m s.heap) {Q' : Value → Shared → Prop} {Er : Value → Shared → Prop}
    (q : ∀ F' m' x σ' v s', Go X.prog X.w X.h0 F m s F' m' σ' s' → VR X.prog X.w F' m' x v → Q x σ' → En X.prog X.w c env W loc F' m' s'.heap → Q' v s') : wpAny (model X.prog X.w) A (eval e env) Q' Er s :=
  (h A env W F m s R S E).use fun F' m' x σ' v s' g r qx => q F' m' x σ' v s' g r qx (E.go g)
theorem twp.use {e : Expr} {Q : Bool → List MO → Prop} (h : twp X c k e Q loc σ) {A : Around} {env : Env} {W : List Nat} {F : Fz} {m : List Nat} {s : Shared} (R : Room A k) (S : St X.prog X.w X.h0 F m σ s)
    (E : En X.prog X.w c env W loc F m s.heap) {Q' : Bool → Shared → Prop} {Er : Value → Shared → Prop}
    (q : ∀ F' m' x σ' s', Go X.prog X.w X.h0 F m s F' m' σ' s' → Q x σ' → En X.prog X.w c env W loc F' m' s'.heap → Q' x s') : wpAny (model X.prog X.w) A (isTrue e env (eval e env)) Q' Er s :=
  (h A env W F m s R S E).use fun F' m' x σ' v s' g r qx => r ▸ q F' m' x σ' s' g qx (E.go g)

theorem ewp_BinOp {l r : Expr} {op : Operator} {pos : Pos} (h : ewp X c k l (fun a σ₁ => ewp X c k r (fun b σ₂ => v2 X k (binaryOp op) a b Q σ₂) loc σ₁) loc σ) : ewp X c k (.BinOp l op r pos) Q loc σ :=
  fun A env W F m s R S E => wpAny_BinOp (h.use R S E fun F1 m1 a σ1 u s1 g1 ra qa E1 => qa.use R g1.st E1 fun F2 m2 b σ2 v s2 g2 rb qb E2 =>
    GW.after (g1.trans g2) (qb A F2 m2 s2 u v R g2.st (g2.vr ra) rb))
theorem ewp_Compare {l r : Expr} {op : CmpOp} {pos : Pos} (h : ewp X c k l (fun a σ₁ => ewp X c k r (fun b σ₂ => v2 X k (compareOp op) a b Q σ₂) loc σ₁) loc σ) (hm : behindInMarks op r = false := by rfl) : ewp X c k (.Compare l [op] [r] pos) Q loc σ :=
  fun A env W F m s R S E => wpAny_Compare1 (h.use R S E fun F1 m1 a σ1 u s1 g1 ra qa E1 => qa.use R g1.st E1 fun F2 m2 b σ2 v s2 g2 rb qb E2 =>
    GW.after (g1.trans g2) (qb A F2 m2 s2 u v R g2.st (g2.vr ra) rb)) hm
theorem ewp_UnaryOp {e : Expr} {op : UnaryOp} {pos : Pos} (h : ewp X c k e (fun a σ₁ => v1 X k (unaryOp op) a Q σ₁) loc σ) : ewp X c k (.UnaryOp op e pos) Q loc σ :=
  fun A env W F m s R S E => wpAny_UnaryOp (h.use R S E fun F1 m1 a σ1 u s1 g1 ra qa E1 => GW.after g1 (qa A F1 m1 s1 u R g1.st ra))
theorem ewp_IfExp {t b o : Expr} {pos : Pos} (h : twp X c k t (fun z σ₁ => if z then ewp X c k b Q loc σ₁ else ewp X c k o Q loc σ₁) loc σ) : ewp X c k (.IfExp t b o pos) Q loc σ :=
  fun A env W F m s R S E => wpAny_IfExp (h.use R S E fun F1 m1 z σ1 s1 g1 qz E1 => by
    cases z with
    | true => exact GW.after g1 (qz A env W F1 m1 s1 R g1.st E1)
    | false => exact GW.after g1 (qz A env W F1 m1 s1 R g1.st E1))
theorem ewp_And {x y : Expr} {pos : Pos} (h : ewp X c k x (fun a σ₁ => vt X k a (fun z σ₂ => if z then ewp X c k y Q loc σ₂ else Q a σ₂) σ₁) loc σ) : ewp X c k (.BoolOp .And [x, y] pos) Q loc σ :=
  fun A env W F m s R S E => wpAny_And2 (h.use R S E fun F1 m1 a σ1 u s1 g1 ra qa E1 => (qa A F1 m1 s1 u R g1.st ra).use fun F2 m2 z σ2 z' s2 g2 rz qz => by
    cases rz
    cases z with
    | true => exact GW.after (g1.trans g2) (qz A env W F2 m2 s2 R g2.st (E1.go g2))
    | false => exact ⟨F2, m2, a, σ2, g1.trans g2, g2.vr ra, qz⟩)

theorem twp_Compare {l r : Expr} {op : CmpOp} {pos : Pos} {Q : Bool → List MO → Prop} (h : ewp X c k l (fun a σ₁ => ewp X c k r (fun b σ₂ => v2 X k (compareOp op) a b (fun x σ₃ => ∃ z, x = .dat (.bool z) ∧ Q z σ₃) σ₂) loc σ₁) loc σ)
    (hm : behindInMarks op r = false := by rfl) : twp X c k (.Compare l [op] [r] pos) Q loc σ :=
  fun A env W F m s R S E => wpAny_isTrue_Compare1 (h.use R S E fun F1 m1 a σ1 u s1 g1 ra qa E1 => qa.use R g1.st E1 fun F2 m2 b σ2 v s2 g2 rb qb E2 =>
    (qb A F2 m2 s2 u v R g2.st (g2.vr ra) rb).use fun F3 m3 x σ3 vx s3 g3 rx ⟨z, hz, q⟩ => by
      subst hz
      cases rx
      exact wpAny_truthy_bool ⟨F3, m3, z, σ3, (g1.trans g2).trans g3, rfl, q⟩) hm
theorem twp_Not {e : Expr} {pos : Pos} {Q : Bool → List MO → Prop} (h : twp X c k e (fun z σ₁ => Q (!z) σ₁) loc σ) : twp X c k (.UnaryOp .Not e pos) Q loc σ :=
  fun A env W F m s R S E => wpAny_isTrue_Not (h.use R S E fun F1 m1 z σ1 s1 g1 qz E1 => ⟨F1, m1, !z, σ1, g1, rfl, qz⟩)
theorem tsp_nil {Q : Bool → List MO → Prop} (h : Q true σ) : tsp X c k [] Q loc σ := fun A env W F m s R S E => wpAny_allTrue_And_nil ⟨F, m, true, σ, Go.refl S, rfl, h⟩
theorem tsp_cons {e : Expr} {r : List Expr} {Q : Bool → List MO → Prop} (h : twp X c k e (fun z σ₁ => if z then tsp X c k r Q loc σ₁ else Q false σ₁) loc σ) : tsp X c k (e :: r) Q loc σ :=
  fun A env W F m s R S E => wpAny_allTrue_And_cons (h.use R S E fun F1 m1 z σ1 s1 g1 qz E1 => by
    cases z with
    | true => exact GW.after g1 (qz A env W F1 m1 s1 R g1.st E1)
    | false => exact ⟨F1, m1, false, σ1, g1, rfl, qz⟩)
theorem twp_And {es : List Expr} {pos : Pos} {Q : Bool → List MO → Prop} (h : tsp X c k es Q loc σ) : twp X c k (.BoolOp .And es pos) Q loc σ :=
  fun A env W F m s R S E => wpAny_isTrue_BoolOp (h A env W F m s R S E)
theorem twp_value {e : Expr} {Q : Bool → List MO → Prop} (h : ewp X c k e (fun a σ₁ => vt X k a Q σ₁) loc σ)
    (he : ∀ env, isTrue e env (eval e env) = (do let v ← eval e env; standAt e.pos; holding [v] (truthy v)) := by intro _; rfl) : twp X c k e Q loc σ :=
  fun A env W F m s R S E => wpAny_isTrue_value (h.use R S E fun F1 m1 a σ1 u s1 g1 ra qa E1 => GW.after g1 (qa A F1 m1 s1 u R g1.st ra)) (he env)

theorem asp_nil {Q : List AV → List MO → Prop} (h : Q [] σ) : asp X c k [] Q loc σ := fun A env W F m s pos R S E => spliced_nil ⟨F, m, [], σ, Go.refl S, .nil, h⟩
theorem asp_cons {e : Expr} {r : List Expr} {Q : List AV → List MO → Prop} (h : ewp X c k e (fun a σ₁ => asp X c k r (fun as σ₂ => Q (a :: as) σ₂) loc σ₁) loc σ)
    (he : ∀ env, starEach (e :: r) env = (false, eval e env) :: starEach r env := by intro _; rfl) : asp X c k (e :: r) Q loc σ :=
  fun A env W F m s pos R S E => args_cons (h.use R S E fun F1 m1 a σ1 u s1 g1 ra qa E1 => (qa A env W F1 m1 s1 pos R g1.st E1).use fun F2 m2 as σ2 us s2 g2 ras qas =>
    ⟨F2, m2, a :: as, σ2, g1.trans g2, .cons (g2.vr ra) ras, qas⟩) (he env)
theorem ksp_nil {Q : List AV → List MO → Prop} (h : Q [] σ) : ksp X c k [] Q loc σ := fun A env W F m s pos R S E => wpAny_pure ⟨F, m, [], σ, Go.refl S, .nil, h⟩
theorem ksp_one {n : Option Str} {e : Expr} {p : Pos} {Q : List AV → List MO → Prop} (h : ewp X c k e (fun a σ₁ => Q [a] σ₁) loc σ) : ksp X c k [⟨n, e, p⟩] Q loc σ :=
  fun A env W F m s pos R S E => by
    show wpAny _ A (evalAll [do let v ← eval e env; standAt pos; pure v]) _ _ s
    unfold evalAll
    refine wpAny_bind (wpAny_bind (h.use R S E fun F1 m1 a σ1 u s1 g1 ra qa E1 => ?_))
    refine wpAny_bind (wpAny_standAt (wpAny_pure ?_))
    exact wpAny_bind (wpAny_holding (wpAny_pure (wpAny_pure ⟨F1, m1, [a], σ1, g1, .cons ra .nil, qa⟩)))

theorem VRs.dats {prog : Program} {w : World} {F : Fz} {m : List Nat} : ∀ {ds : List PyData} {vs : List Value}, VRs prog w F m (ds.map .dat) vs → RdAll prog w F ds vs
  | [], _, h => by cases h; exact .nil
  | d :: ds, _, h => by
    cases h with
    | cons h r => exact .cons h (VRs.dats r)
theorem ewp_Tuple {es : List Expr} {kd : Nat} {pos : Pos} (h : asp X c k es (fun as σ₁ => ∃ ds, as = ds.map .dat ∧ ds.length ≤ 1000 ∧ Q (.dat (.tuple ds)) σ₁) loc σ) : ewp X c k (.Tuple es kd pos) Q loc σ :=
  fun A env W F m s R S E => wpAny_Tuple_spliced ((h A env W F m s pos R S E).use fun F1 m1 as σ1 us s1 g1 ras ⟨ds, e, hl, q⟩ => by
    subst e
    have hr := ras.dats
    have hz : us.length ≤ sizeLine := by rw [← hr.length, sizeLine_eq]; omega
    refine ⟨hz, _, m1, .dat (.tuple ds), σ1, g1.trans (Go.frz (tk := s1.toks) (a := s1.heap.objs.size) (o := tupObj us 0) g1.st (fun b o e => Heap.get?_push_of_some _ e) (fresh_size _) (Heap.get?_push_size _ rfl)), ?_, q⟩
    exact Rd.tuple (vs := us) (n := 0) (.inr ⟨rfl, rfl⟩) (hr.mono fun _ _ h => .inl h))
theorem ewp_ListF {es : List Expr} {pos : Pos} (h : asp X c k es (fun as σ₁ => ∃ ds, as = ds.map .dat ∧ ds.length ≤ 1000 ∧ Q (.dat (.list ds)) σ₁) loc σ) : ewp X c k (.List es pos) Q loc σ :=
  fun A env W F m s R S E => wpAny_List_spliced ((h A env W F m s pos R S E).use fun F1 m1 as σ1 us s1 g1 ras ⟨ds, e, hl, q⟩ => by
    subst e
    have hr := ras.dats
    have hz : us.length ≤ sizeLine := by rw [← hr.length, sizeLine_eq]; omega
    refine ⟨hz, _, m1, .dat (.list ds), σ1, g1.trans (Go.frz (tk := s1.toks) (a := s1.heap.objs.size) (o := lstObj us 0) g1.st (fun b o e => Heap.get?_push_of_some _ e) (fresh_size _) (Heap.get?_push_size _ rfl)), ?_, q⟩
    exact Rd.list (vs := us) (n := 0) (.inr ⟨rfl, rfl⟩) (hr.mono fun _ _ h => .inl h))
theorem ewp_ListM {es : List Expr} {pos : Pos} (h : asp X c k es (fun as σ₁ => ∃ ds, as = ds.map .dat ∧ ds.length ≤ 1000 ∧ Q (.mr σ₁.length) (σ₁ ++ [.lst ds])) loc σ) : ewp X c k (.List es pos) Q loc σ :=
  fun A env W F m s R S E => wpAny_List_spliced ((h A env W F m s pos R S E).use fun F1 m1 as σ1 us s1 g1 ras ⟨ds, e, hl, q⟩ => by
    subst e
    have hr := ras.dats
    have hz : us.length ≤ sizeLine := by rw [← hr.length, sizeLine_eq]; omega
    refine ⟨hz, F1, _, .mr σ1.length, _, g1.trans (Go.newmr (tk := s1.toks) (a := s1.heap.objs.size) (mo := .lst ds) g1.st (fun b o e => Heap.get?_push_of_some _ e) (fresh_size _) (ne_none (Heap.get?_push_size _ rfl))
      (.lst (Heap.get?_push_size _ rfl) hr)), ⟨_, rfl, ?_⟩, q⟩
    rw [← g1.st.len]; simp)
theorem ewp_DictE {pos : Pos} (h : Q (.mr σ.length) (σ ++ [.dict []])) : ewp X c k (.Dict [] [] pos) Q loc σ :=
  fun A env W F m s R S E => wpAny_Dict_empty ⟨F, _, .mr σ.length, _, Go.newmr (tk := s.toks) (a := s.heap.objs.size) (mo := .dict []) S (fun b o e => Heap.get?_push_of_some _ e) (fresh_size _) (ne_none (Heap.get?_push_size _ rfl))
      (.dict (kvs := []) (keys := []) (X.three S) (Heap.get?_push_size _ rfl) ⟨⟨rfl, rfl, rfl⟩, #[], rfl, fun _ he => by simp at he, Pairs.nil, List.nodup_nil, rfl⟩ rfl .nil .nil), ⟨_, rfl, by rw [← S.len]; simp⟩, h⟩
end
end Mine
end

section -- PgC
open PySem PySem.W PyProof.Rows PySem.Calls
set_option Elab.async false
namespace Mine
set_option autoImplicit false
set_option linter.unusedVariables false

inductive AFl where
  | next | brk | cont
  | ret (v : AV)

inductive FR (X : Wd) (F : Fz) (m : List Nat) : AFl → Flow → Prop
  | next : FR X F m .next .next
  | brk : FR X F m .brk .brk
  | cont : FR X F m .cont .cont
  | ret {x v} : VR X.prog X.w F m x v → FR X F m (.ret x) (.ret v)

section
variable (X : Wd)
inductive XPost (c : Cx) (env : Env) (W : List Nat) (Q : AFl → Loc → List MO → Prop) (F : Fz) (m : List Nat) (s : Shared) (f : Flow) (s' : Shared) : Prop
  | mk (F' : Fz) (m' : List Nat) (fl : AFl) (loc' : Loc) (σ' : List MO) : XGo X W F m s F' m' σ' s' → En X.prog X.w c env W loc' F' m' s'.heap → FR X F' m' fl f → Q fl loc' σ' → XPost c env W Q F m s f s'
inductive UPost (c : Cx) (env : Env) (W : List Nat) (Q : Loc → List MO → Prop) (F : Fz) (m : List Nat) (s : Shared) (s' : Shared) : Prop
  | mk (F' : Fz) (m' : List Nat) (loc' : Loc) (σ' : List MO) : XGo X W F m s F' m' σ' s' → En X.prog X.w c env W loc' F' m' s'.heap → Q loc' σ' → UPost c env W Q F m s s'
noncomputable abbrev nof : Value → Shared → Prop := fun _ _ => False
noncomputable def xwp (c : Cx) (k : Nat) (ss : List Stmt) (Q : AFl → Loc → List MO → Prop) (loc : Loc) (σ : List MO) : Prop :=
  ∀ A env W F m s, Room A k → St X.prog X.w X.h0 F m σ s → En X.prog X.w c env W loc F m s.heap → wpAny (model X.prog X.w) A (execs ss env) (XPost X c env W Q F m s) nof s
noncomputable def swp (c : Cx) (k : Nat) (st : Stmt) (Q : AFl → Loc → List MO → Prop) (loc : Loc) (σ : List MO) : Prop :=
  ∀ A env W F m s, Room A k → St X.prog X.w X.h0 F m σ s → En X.prog X.w c env W loc F m s.heap → wpAny (model X.prog X.w) A (exec st env) (XPost X c env W Q F m s) nof s
noncomputable def agn (c : Cx) (k : Nat) (t : Expr) (x : AV) (Q : Loc → List MO → Prop) (loc : Loc) (σ : List MO) : Prop :=
  ∀ A env W F m s u, Room A k → St X.prog X.w X.h0 F m σ s → En X.prog X.w c env W loc F m s.heap → VR X.prog X.w F m x u → wpAny (model X.prog X.w) A (assign t env u) (fun _ => UPost X c env W Q F m s) nof s
end

section
variable {X : Wd} {c : Cx} {k : Nat} {loc : Loc} {σ : List MO} {Q : AFl → Loc → List MO → Prop}

theorem XPost.after {env : Env} {W : List Nat} {F F' : Fz} {m m' : List Nat} {σ' : List MO} {s s' s'' : Shared} {f : Flow} (g : XGo X W F m s F' m' σ' s') (h : XPost X c env W Q F' m' s' f s'') : XPost X c env W Q F m s f s'' :=
  let ⟨F2, m2, fl, l2, σ2, g2, e2, r2, q2⟩ := h; ⟨F2, m2, fl, l2, σ2, g.trans g2, e2, r2, q2⟩
theorem xafter {α : Type} {t : Sem α} {A : Around} {P P' : α → Shared → Prop} {Er : Value → Shared → Prop} {s : Shared} (h : wpAny (model X.prog X.w) A t P nof s) (k : ∀ v s', P v s' → P' v s') : wpAny (model X.prog X.w) A t P' Er s :=
  wpAny_mono h k fun _ _ e => e.elim

theorem xwp_nil (h : Q .next loc σ) : xwp X c k [] Q loc σ := fun A env W F m s R S E => wpAny_execs_nil ⟨F, m, .next, loc, σ, (Go.refl S).toX, E, .next, h⟩
theorem xwp_cons {st : Stmt} {r : List Stmt} (h : swp X c k st (fun fl l1 σ1 => match fl with | .next => xwp X c k r Q l1 σ1 | fl => Q fl l1 σ1) loc σ) : xwp X c k (st :: r) Q loc σ :=
  fun A env W F m s R S E => wpAny_execs_cons (xafter (h A env W F m s R S E) fun f s1 ⟨F1, m1, fl, l1, σ1, g1, E1, r1, q1⟩ => by
    cases r1 with
    | next => exact xafter (q1 A env W F1 m1 s1 R g1.st E1) fun f s2 h2 => h2.after g1
    | brk => exact ⟨F1, m1, .brk, l1, σ1, g1, E1, .brk, q1⟩
    | cont => exact ⟨F1, m1, .cont, l1, σ1, g1, E1, .cont, q1⟩
    | ret r => exact ⟨F1, m1, .ret _, l1, σ1, g1, E1, .ret r, q1⟩)
theorem xwp.mono {ss : List Stmt} {Q' : AFl → Loc → List MO → Prop} (h : xwp X c k ss Q loc σ) (q : ∀ fl l σ, Q fl l σ → Q' fl l σ) : xwp X c k ss Q' loc σ :=
  fun A env W F m s R S E => xafter (h A env W F m s R S E) fun f s1 ⟨F1, m1, fl, l1, σ1, g1, E1, r1, q1⟩ => ⟨F1, m1, fl, l1, σ1, g1, E1, r1, q _ _ _ q1⟩
theorem swp.mono {st : Stmt} {Q' : AFl → Loc → List MO → Prop} (h : swp X c k st Q loc σ) (q : ∀ fl l σ, Q fl l σ → Q' fl l σ) : swp X c k st Q' loc σ :=
  fun A env W F m s R S E => xafter (h A env W F m s R S E) fun f s1 ⟨F1, m1, fl, l1, σ1, g1, E1, r1, q1⟩ => ⟨F1, m1, fl, l1, σ1, g1, E1, r1, q _ _ _ q1⟩
theorem swp_Return {e : Expr} {pos : Pos} (h : ewp X c k e (fun a σ1 => Q (.ret a) loc σ1) loc σ) : swp X c k (.Return (some e) pos) Q loc σ :=
  fun A env W F m s R S E => wpAny_Return_some (h.use R S E fun F1 m1 a σ1 u s1 g1 ra qa E1 => ⟨F1, m1, .ret a, loc, σ1, g1.toX, E1, .ret ra, qa⟩)
theorem swp_If {t : Expr} {b o : List Stmt} {pos : Pos} (h : twp X c k t (fun z σ1 => if z then xwp X c k b Q loc σ1 else xwp X c k o Q loc σ1) loc σ) : swp X c k (.If t b o pos) Q loc σ :=
  fun A env W F m s R S E => wpAny_If (h.use R S E fun F1 m1 z σ1 s1 g1 qz E1 => by
    cases z with
    | true => exact xafter (qz A env W F1 m1 s1 R g1.st E1) fun f s2 h2 => h2.after g1.toX
    | false => exact xafter (qz A env W F1 m1 s1 R g1.st E1) fun f s2 h2 => h2.after g1.toX)
theorem swp_Continue {pos : Pos} (h : Q .cont loc σ) : swp X c k (.Continue pos) Q loc σ := fun A env W F m s R S E => wpAny_Continue ⟨F, m, .cont, loc, σ, (Go.refl S).toX, E, .cont, h⟩
theorem swp_Break {pos : Pos} (h : Q .brk loc σ) : swp X c k (.Break pos) Q loc σ := fun A env W F m s R S E => wpAny_Break ⟨F, m, .brk, loc, σ, (Go.refl S).toX, E, .brk, h⟩
theorem swp_Expr {e : Expr} {pos : Pos} (h : ewp X c k e (fun _ σ1 => Q .next loc σ1) loc σ) (hs : ∀ env, swapsWith e none pos.line env = pure false := by intro _; rfl) : swp X c k (.Expr e pos) Q loc σ :=
  fun A env W F m s R S E => wpAny_Expr_any (h.use R S E fun F1 m1 a σ1 u s1 g1 ra qa E1 => ⟨F1, m1, .next, loc, σ1, g1.toX, E1, .next, qa⟩) (by unfold interactive; rw [E.ek]; rfl) (hs env)

theorem store_ok {A : Around} {env : Env} {W : List Nat} {F : Fz} {m : List Nat} {s : Shared} {x : Str} {a : AV} {u : Value} {Er : Value → Shared → Prop} {Q' : Unit → Shared → Prop} (S : St X.prog X.w X.h0 F m σ s) (E : En X.prog X.w c env W loc F m s.heap)
    (ra : VR X.prog X.w F m a u) (hx : c.sc.names.lookup x = some .local ∨ x ∈ c.own)
    (q : ∀ s', XGo X W F m s F m σ s' → En X.prog X.w c env W (put x a loc) F m s'.heap → Q' () s') : wpAny (model X.prog X.w) A (storeName env x u) Q' Er s := by
  rcases hx with hx | hx
  · obtain ⟨mp, hn, hm⟩ := E.ns
    have hp := E.priv _ E.locW
    refine wpAny_storeName_local ((E.kindOf x).trans hx) hn (fun h' hn' hs => ?_) (by rw [E.ek]; rfl)
    have hk : ∀ b o, b ≠ env.locals → s.heap.get? b = some o → h'.get? b = some o := fun b o hb e => (hs.2 b hb).trans e
    have hlv : ∀ b, s.heap.get? b ≠ none → h'.get? b ≠ none := fun b hb => by
      by_cases e : b = env.locals
      · obtain ⟨o, _, _, ho, _⟩ := hn'
        rw [e]; exact ne_none ho
      · rw [hs.2 b e]; exact hb
    have S' : St X.prog X.w X.h0 F m σ { s with heap := h', toks := s.toks + 1 } :=
      S.move fun b o hb => hk b o fun e => hb.elim (fun h => hp.1 (e ▸ h)) fun ⟨q, h1, h2⟩ => hp.2.1 q h1 (e ▸ h2)
    have hcell : ∀ y b v, env.cells.lookup y = some b → s.heap.IsCell b v → h'.IsCell b v := fun y b v hy ⟨o, h1, h2⟩ => ⟨o, hk b o (E.cells y b hy).2.2.1 h1, h2⟩
    refine q _ ⟨fun _ _ h => h, List.prefix_refl _, fun b o _ hw e => hk b o (fun h => hw (h ▸ E.locW)) e, fun _ h => .inl h, fun _ _ h _ => .inl h, hlv, S', Nat.le_succ _, ⟨_, rfl⟩⟩ ?_
    refine ⟨E.scope, E.kind, E.glob, E.bns, E.locW, fun b hb => ⟨(E.priv b hb).1, (E.priv b hb).2.1, hlv b (E.priv b hb).2.2⟩, ⟨_, hn', fun y v h1 h2 => ?_⟩, fun y v h1 h2 => ?_, fun y b hy => ?_, E.apart, E.own⟩
    · by_cases hy : y = x
      · subst hy
        rw [put_self] at h1; cases h1
        exact ⟨u, by simp, ra⟩
      · rw [put_other _ _ hy] at h1
        obtain ⟨v', h3, h4⟩ := hm y v h1 h2
        exact ⟨v', by simp [hy, h3], h4⟩
    · have hy : y ≠ x := by rintro rfl; exact h2 hx
      rw [put_other _ _ hy] at h1
      obtain ⟨h3, b, v', h4, h5, h6⟩ := E.cell y v h1 h2
      exact ⟨h3, b, v', h4, hcell y b _ h4 h5, h6⟩
    · obtain ⟨h3, h4, h5, v0, h6⟩ := E.cells y b hy
      exact ⟨h3, h4, h5, v0, hcell y b _ hy h6⟩
  · obtain ⟨hk1, a0, hc0, hW0⟩ := E.own x hx
    obtain ⟨h3, h4, h5, v0, h6⟩ := E.cells x a0 hc0
    refine wpAny_storeName_cell E.ek ((E.kindOf x).trans hk1) hc0 h6 fun h' hc' hs => ?_
    have hk : ∀ b o, b ≠ a0 → s.heap.get? b = some o → h'.get? b = some o := fun b o hb e => (hs.2 b hb).trans e
    have hlv : ∀ b, s.heap.get? b ≠ none → h'.get? b ≠ none := fun b hb => by
      by_cases e : b = a0
      · obtain ⟨o, ho, _⟩ := hc'
        rw [e]; exact ne_none ho
      · rw [hs.2 b e]; exact hb
    have S' : St X.prog X.w X.h0 F m σ { s with heap := h', toks := s.toks } :=
      S.move fun b o hb => hk b o fun e => hb.elim (fun h => h3 (e ▸ h)) fun ⟨q, h1, h2⟩ => h4 q h1 (e ▸ h2)
    obtain ⟨mp, hn, hm⟩ := E.ns
    refine q _ ⟨fun _ _ h => h, List.prefix_refl _, fun b o _ hw e => hk b o (fun h => hw (h ▸ hW0)) e, fun _ h => .inl h, fun _ _ h _ => .inl h, hlv, S', Nat.le_refl _, ⟨s.toks, rfl⟩⟩ ?_
    refine ⟨E.scope, E.kind, E.glob, E.bns, E.locW, fun b hb => ⟨(E.priv b hb).1, (E.priv b hb).2.1, hlv b (E.priv b hb).2.2⟩, ⟨mp, hn.sameBut hs (Ne.symm h5), fun y v h1 h2 => ?_⟩, fun y v h1 h2 => ?_, fun y b hy => ?_, E.apart, E.own⟩
    · have hy : y ≠ x := by rintro rfl; rw [hk1] at h2; cases h2
      rw [put_other _ _ hy] at h1
      exact hm y v h1 h2
    · by_cases hy : y = x
      · subst hy
        rw [put_self] at h1; cases h1
        exact ⟨.inl hk1, a0, u, hc0, hc', ra⟩
      · rw [put_other _ _ hy] at h1
        obtain ⟨h7, b, v', h8, h9, h10⟩ := E.cell y v h1 h2
        refine ⟨h7, b, v', h8, ?_, h10⟩
        exact h9.sameBut hs fun e => hy (E.apart _ _ _ h8 (e ▸ hc0))
    · obtain ⟨h7, h8, h9, v1, h10⟩ := E.cells y b hy
      by_cases hb : b = a0
      · subst hb; exact ⟨h7, h8, h9, _, hc'⟩
      · exact ⟨h7, h8, h9, v1, h10.sameBut hs hb⟩

theorem agn_Name {x : Str} {pos : Pos} {a : AV} {Q : Loc → List MO → Prop} (hx : c.sc.names.lookup x = some .local ∨ x ∈ c.own) (h : Q (put x a loc) σ) : agn X c k (.Name x pos) a Q loc σ :=
  fun A env W F m s u R S E ra => wpAny_assign_Name (store_ok S E ra hx fun s' g e => ⟨F, m, _, σ, g, e, h⟩)
theorem UPost.after {env : Env} {W : List Nat} {F F' : Fz} {m m' : List Nat} {σ' : List MO} {s s' s'' : Shared} {Q : Loc → List MO → Prop} (g : XGo X W F m s F' m' σ' s') (h : UPost X c env W Q F' m' s' s'') : UPost X c env W Q F m s s'' :=
  let ⟨F2, m2, l2, σ2, g2, e2, q2⟩ := h; ⟨F2, m2, l2, σ2, g.trans g2, e2, q2⟩

theorem ext_keep {h h' : Heap} (he : Heap.ExtBut h.objs.size h h') : ∀ b o, h.get? b = some o → h'.get? b = some o := fun b o e => he b o (Nat.ne_of_lt (Heap.lt_size e)) e

noncomputable def agns (X : Wd) (c : Cx) (k : Nat) (Q : Loc → List MO → Prop) : List Expr → List AV → Loc → List MO → Prop
  | [], [], loc, σ => Q loc σ
  | t :: ts, x :: xs, loc, σ => agn X c k t x (fun l1 σ1 => agns X c k Q ts xs l1 σ1) loc σ
  | _, _, _, _ => False
theorem agns_ok {Q : Loc → List MO → Prop} : ∀ {ts : List Expr} {xs : List AV} {loc : Loc} {σ : List MO}, agns X c k Q ts xs loc σ → ∀ {A : Around} {env : Env} {W : List Nat} {F : Fz} {m : List Nat} {s : Shared} {us : List Value}, Room A k → St X.prog X.w X.h0 F m σ s →
    En X.prog X.w c env W loc F m s.heap → VRs X.prog X.w F m xs us → wpAny (model X.prog X.w) A (assignInOrder (ts.map fun t => assign t env) us) (fun _ => UPost X c env W Q F m s) nof s
  | [], [], loc, σ, h, A, env, W, F, m, s, us, R, S, E, r => by
    cases r
    exact wpAny_assignInOrder_none ⟨F, m, loc, σ, (Go.refl S).toX, E, h⟩
  | t :: ts, x :: xs, loc, σ, h, A, env, W, F, m, s, us, R, S, E, r => by
    cases r with
    | cons r1 r2 =>
    exact wpAny_assignInOrder_more (xafter (h A env W F m s _ R S E r1) fun _ s1 ⟨F1, m1, l1, σ1, g1, E1, q1⟩ => xafter (agns_ok q1 R g1.st E1 (VRs.mono g1.fsub g1.mpre r2)) fun _ s2 h2 => h2.after g1)
  | [], _ :: _, _, _, h, _, _, _, _, _, _, _, _, _, _, _ => h.elim
  | _ :: _, [], _, _, h, _, _, _, _, _, _, _, _, _, _, _ => h.elim

theorem VRs.ofDats {prog : Program} {w : World} {F : Fz} {m : List Nat} : ∀ {ds : List PyData} {vs : List Value}, RdAll prog w F ds vs → VRs prog w F m (ds.map .dat) vs
  | _, _, .nil => .nil
  | _, _, .cons h r => .cons h (VRs.ofDats r)

theorem agn_Tuple {ts : List Expr} {kd : Nat} {pos : Pos} {ds : List PyData} {Q : Loc → List MO → Prop} (hp : ∀ env, assignEach ts env = ts.map fun t => (false, assign t env)) (hl : ts.length = ds.length) (h : agns X c k Q ts (ds.map .dat) loc σ) :
    agn X c k (.Tuple ts kd pos) (.dat (.tuple ds)) Q loc σ := fun A env W F m s u R S E ra => by
  cases ra with
  | @tuple t vs n _ hF hr =>
  have he := hp env
  refine wpAny_assign_Tuple R.handled (items := vs.toArray) ⟨_, S.fz _ _ hF rfl, rfl, n, rfl⟩ ?_ ?_ fun h' hx => ?_
  · rw [he, List.length_map, hl, hr.length]; simp
  · rw [he, List.findIdx?_eq_none_iff]; intro x hx; obtain ⟨t, _, rfl⟩ := List.mem_map.mp hx; rfl
  · rw [he, List.map_map]
    have g : Go X.prog X.w X.h0 F m s F m σ { s with heap := h' } := Go.grow (tk := s.toks) S (ext_keep hx)
    exact xafter (agns_ok h R g.st (E.go g) (VRs.ofDats hr)) fun _ s2 h2 => h2.after g.toX

theorem swp_Assign_Name {x : Str} {px pos : Pos} {e : Expr} (hx : c.sc.names.lookup x = some .local ∨ x ∈ c.own) (h : ewp X c k e (fun a σ1 => Q .next (put x a loc) σ1) loc σ)
    (hs : ∀ env, swapsWith e (some (.Name x px)) pos.line env = pure false := by intro _; rfl) (hw : ∀ env, swappedStores [.Name x px] e env = pure none := by intro _; rfl) :
    swp X c k (.Assign [.Name x px] e pos) Q loc σ := fun A env W F m s R S E =>
  wpAny_Assign_Name (h.use R S E fun F1 m1 a σ1 u s1 g1 ra qa E1 => store_ok g1.st E1 ra hx fun s2 g2 E2 => ⟨F1, m1, .next, _, σ1, g1.toX.trans g2, E2, .next, qa⟩) (hs env)
end
end Mine
end

section -- PgD
open PySem PySem.W PyProof.Rows PySem.Calls
set_option Elab.async false
namespace Mine
set_option autoImplicit false
set_option linter.unusedVariables false

section
inductive VB (X : Wd) (F : Fz) (m : List Nat) : Loc → List (Str × Value) → Prop
  | nil : VB X F m [] []
  | cons {x a v l b} : VR X.prog X.w F m a v → VB X F m l b → VB X F m ((x, a) :: l) ((x, v) :: b)

theorem VB.names {X : Wd} {F : Fz} {m : List Nat} {l : Loc} {b : List (Str × Value)} (h : VB X F m l b) : l.map (·.1) = b.map (·.1) := by
  induction h with
  | nil => rfl
  | cons _ _ ih => simp [ih]
theorem VB.lookup {X : Wd} {F : Fz} {m : List Nat} {l : Loc} {b : List (Str × Value)} (h : VB X F m l b) {x : Str} {a : AV} (hx : l.lookup x = some a) : ∃ v, b.lookup x = some v ∧ VR X.prog X.w F m a v := by
  induction h with
  | nil => simp at hx
  | @cons y c v l b hr _ ih =>
    simp only [List.lookup_cons] at hx ⊢
    cases hb : x == y with
    | true => rw [hb] at hx; cases hx; exact ⟨v, rfl, hr⟩
    | false => rw [hb] at hx; exact ih hx

theorem bindL_not {kd : Str → Option NameKind} : ∀ (b : List (Str × Value)) (mp : Str → Option Value) {x : Str}, x ∉ b.map (·.1) → bindL kd b mp x = mp x
  | [], _, _, _ => rfl
  | (n, v) :: r, mp, x, h => by
    simp only [List.map_cons, List.mem_cons, not_or] at h
    unfold bindL
    rw [bindL_not r _ h.2]
    split
    · simp [h.1]
    · rfl
theorem bindL_at {kd : Str → Option NameKind} : ∀ (b : List (Str × Value)) (mp : Str → Option Value) {x : Str} {v : Value}, (b.map (·.1)).Nodup → b.lookup x = some v → kd x = some .local → bindL kd b mp x = some v
  | [], _, _, _, _, h, _ => by simp at h
  | (n, u) :: r, mp, x, v, hn, h, hk => by
    simp only [List.map_cons, List.nodup_cons] at hn
    simp only [List.lookup_cons] at h
    unfold bindL
    cases hb : x == n with
    | true =>
      rw [hb] at h; cases h
      have e := eq_of_beq hb; subst e
      rw [bindL_not r _ hn.1, if_pos hk]; simp
    | false => rw [hb] at h; exact bindL_at r _ hn.2 h hk
theorem bindC_not {kd : Str → Option NameKind} : ∀ (b : List (Str × Value)) (mp : Str → Option Value) {x : Str}, x ∉ b.map (·.1) → bindC kd b mp x = mp x
  | [], _, _, _ => rfl
  | (n, v) :: r, mp, x, h => by
    simp only [List.map_cons, List.mem_cons, not_or] at h
    unfold bindC
    rw [bindC_not r _ h.2]
    split
    · rfl
    · simp [h.1]
theorem bindC_at {kd : Str → Option NameKind} : ∀ (b : List (Str × Value)) (mp : Str → Option Value) {x : Str} {v : Value}, (b.map (·.1)).Nodup → b.lookup x = some v → kd x ≠ some .local → bindC kd b mp x = some v
  | [], _, _, _, _, h, _ => by simp at h
  | (n, u) :: r, mp, x, v, hn, h, hk => by
    simp only [List.map_cons, List.nodup_cons] at hn
    simp only [List.lookup_cons] at h
    unfold bindC
    cases hb : x == n with
    | true =>
      rw [hb] at h; cases h
      have e := eq_of_beq hb; subst e
      rw [bindC_not r _ hn.1, if_neg hk]; simp
    | false => rw [hb] at h; exact bindC_at r _ hn.2 h hk

theorem cellsFrom_some : ∀ (names : List (Str × NameKind)) (n : Nat) (acc : List (Str × Addr)) {x : Str}, ((x, NameKind.cell) ∈ names ∨ (acc.lookup x).isSome = true) → ((cellsFrom n names acc).lookup x).isSome = true
  | [], n, acc, x, h => by
    unfold cellsFrom
    rcases h with h | h
    · simp at h
    · exact h
  | (y, kd) :: r, n, acc, x, h => by
    unfold cellsFrom
    split
    · rename_i hk
      refine cellsFrom_some r _ _ ?_
      by_cases hxy : x = y
      · subst hxy; right; simp
      · rcases h with h | h
        · rcases List.mem_cons.mp h with e | h
          · cases e; exact absurd rfl hxy
          · exact .inl h
        · right
          have hb : (x == y) = false := beq_eq_false_iff_ne.mpr hxy
          simp only [List.lookup_cons, hb]; exact h
    · rename_i hk
      refine cellsFrom_some r _ _ ?_
      rcases h with h | h
      · rcases List.mem_cons.mp h with e | h
        · cases e; exact absurd rfl hk
        · exact .inl h
      · exact .inr h
end

noncomputable def retv : AFl → AV
  | .ret v => v
  | _ => .dat .none

noncomputable def codeOk (K : Frag) (fd : FuncData) : Bool := match fd.code with
  | .ref c => (match K.lookup c with
    | some ⟨_, _, .fields vs, _⟩ => (match vs[1]? with
      | some (Value.str q _) => q == fd.qualname
      | _ => false)
    | _ => false)
  | _ => false
theorem codeRec_of {K : Frag} {fd : FuncData} {h : Heap} (hK : K.In h) (e : codeOk K fd = true) : h.CodeRec fd.code fd.qualname := by
  unfold codeOk at e
  split at e
  · rename_i c hc
    split at e
    · rename_i cl dd vs sl hl
      split at e
      · rename_i q t hq
        rw [eq_of_beq e] at hq
        exact ⟨c, _, vs, t, hc, hK _ _ hl, rfl, hq⟩
      · cases e
    · cases e
  · cases e

section
variable {X : Wd} {k : Nat} {σ : List MO} {Q : AV → List MO → Prop}

theorem VRs.length {prog : Program} {w : World} {F : Fz} {m : List Nat} {as : List AV} {us : List Value} (h : VRs prog w F m as us) : us.length = as.length := by
  induction h with
  | nil => rfl
  | cons _ _ ih => simp [ih]

theorem fwp_fun {a : Addr} {o : Obj} {fd : FuncData} {body : List Stmt} {as ks : List AV} {kn : List Str} {LB : Loc} {own : List Str} (B : List Value → List Value → List (Str × Value))
    (ho : X.K.lookup a = some o) (hd : o.data = .func fd) (hbody : fd.body = .stmts body) (hcode : codeOk X.K fd = true)
    (hbind : ∀ us vs, us.length = as.length → vs.length = ks.length → ∀ M h, X.K.In h → Looks M h (bindArgs fd ⟨us, kn.zip vs⟩) (B us vs))
    (hB : ∀ F m us vs, VRs X.prog X.w F m as us → VRs X.prog X.w F m ks vs → VB X F m LB (B us vs))
    (hnd : (LB.map (·.1)).Nodup) (hkinds : ∀ x ∈ LB.map (·.1), fd.scope.names.lookup x = some .local ∨ fd.scope.names.lookup x = some .cell)
    (hown : ∀ x ∈ own, fd.scope.names.lookup x = some .cell)
    (h : xwp X ⟨fd.scope, own⟩ k body (fun fl _ σ' => Q (retv fl) σ') LB σ)
    (hclo : fd.closure = [] := by rfl) (hg : fd.globals = mainGlobals := by rfl) (hbn : fd.builtins = builtinsNs := by rfl)
    (hco : fd.scope.isCoroutine = false := by rfl) (hgen : fd.scope.isGenerator = false := by rfl) (hk : fd.scope.kind = .function := by rfl) :
    fwp X (k + 1) (.ref a) as kn ks Q σ := fun A F m s us vs R S ra rk => by
  have KI : X.K.In s.heap := X.kin.keeps S.start
  refine wpAny_call (codeAny_call_function R.d (KI _ _ ho) hd hco hgen hbody (codeRec_of KI hcode) ?_)
  refine (hbind us vs ra.length rk.length _ _ KI).here ?_
  have hvb := hB F m us vs ra rk
  rw [hclo]
  refine wpAny_with_toks (Nat.le_refl _) <| wpAny_newFunctionEnv_cells hk (fun x hx => ?_) fun env he s1 x1 htk => ?_
  · have hx' : x.1 ∈ LB.map (·.1) := by rw [hvb.names]; exact List.mem_map.mpr ⟨x, hx, rfl⟩
    rcases hkinds _ hx' with h1 | h1
    · exact .inl h1
    · exact .inr ⟨h1, cellsFrom_some _ _ _ (.inl (mem_of_lookup h1))⟩
  · have hL : env.locals = s.heap.objs.size := by subst he; rfl
    have hsc : env.scope = fd.scope := by subst he; rfl
    have hcl : env.cells = cellsFrom (s.heap.objs.size + 1) fd.scope.names [] := by subst he; rfl
    have hgl : env.globals = fd.globals := by subst he; rfl
    have hbl : env.builtins = fd.builtins := by subst he; rfl
    obtain ⟨tk, hs1⟩ : ∃ tk, s1 = { s with heap := s1.heap, toks := tk } := by
      obtain ⟨h', tk, e⟩ := x1.toInCall.same
      exact ⟨tk, by rw [e]⟩
    have g1 : Go X.prog X.w X.h0 F m s F m σ s1 := by rw [hs1] at htk; rw [hs1]; exact Go.grow S x1.toInCall.keep htk
    refine ⟨X.nolimit.keeps g1.st.start, codeAny_func ?_⟩
    have hkd : ∀ y, env.kindOf y = fd.scope.names.lookup y := fun y => by unfold Env.kindOf; rw [hsc]
    have hnew : ∀ y b, env.cells.lookup y = some b → s.heap.get? b = none := fun y b hy => by
      cases e : s.heap.get? b with
      | none => rfl
      | some o' =>
        have h1 := Heap.lt_size e
        have h2 : s.heap.objs.size < b := hL ▸ x1.above y b (mem_of_lookup hy)
        exact absurd h1 (Nat.lt_asymm h2)
    have hnewL : s.heap.get? env.locals = none := by rw [hL]; exact fresh_size _
    have hnm : ∀ b, s.heap.get? b = none → b ∉ m := fun b hb hm => S.lt b hm hb
    have hnF : ∀ b, s.heap.get? b = none → NF F b := fun b hb o hf hF => by have := S.fz b o hF hf; rw [hb] at this; cases this
    have hcell : ∀ y b, env.cells.lookup y = some b → ∃ v0, s1.heap.IsCell b v0 := fun y b hy => ⟨_, x1.cell y b hy⟩
    have hW : ∀ b ∈ env.locals :: own.filterMap (fun y => env.cells.lookup y), s.heap.get? b = none ∧ s1.heap.get? b ≠ none := fun b hb => by
      rcases List.mem_cons.mp hb with e | hb
      · rw [e]
        obtain ⟨o', _, _, ho', _⟩ := x1.toInCall.ns
        exact ⟨hnewL, ne_none ho'⟩
      · obtain ⟨y, _, hy⟩ := List.mem_filterMap.mp hb
        obtain ⟨v0, o', ho', _⟩ := hcell y b hy
        exact ⟨hnew y b hy, ne_none ho'⟩
    have E1 : En X.prog X.w ⟨fd.scope, own⟩ env (env.locals :: own.filterMap (fun y => env.cells.lookup y)) LB F m s1.heap := by
      refine ⟨hsc, hk, hgl.trans hg, hbl.trans hbn, List.mem_cons_self, fun b hb => ?_, ⟨_, x1.toInCall.ns, fun y v h1 h2 => ?_⟩, fun y v h1 h2 => ?_, fun y b hy => ?_, fun y z b hy hz => name_of_addr x1.apart (mem_of_lookup hy) (mem_of_lookup hz), fun y hy => ?_⟩
      · exact ⟨hnm b (hW b hb).1, hnF b (hW b hb).1, (hW b hb).2⟩
      · obtain ⟨u, h3, h4⟩ := hvb.lookup h1
        exact ⟨u, bindL_at _ _ (hvb.names ▸ hnd) h3 ((hkd y).trans h2), h4⟩
      · obtain ⟨u, h3, h4⟩ := hvb.lookup h1
        have hy : y ∈ LB.map (·.1) := List.mem_map.mpr ⟨(y, v), mem_of_lookup h1, rfl⟩
        have hc := (hkinds y hy).resolve_left h2
        obtain ⟨b, hb⟩ := Option.isSome_iff_exists.mp (cellsFrom_some fd.scope.names (s.heap.objs.size + 1) [] (.inl (mem_of_lookup hc)))
        rw [← hcl] at hb
        refine ⟨.inl hc, b, u, hb, ?_, h4⟩
        have := x1.cell y b hb
        rw [bindC_at _ _ (hvb.names ▸ hnd) h3 (by rw [hkd]; exact h2)] at this
        exact this
      · exact ⟨hnm b (hnew y b hy), hnF b (hnew y b hy), Nat.ne_of_gt (x1.above y b (mem_of_lookup hy)), hcell y b hy⟩
      · obtain ⟨b, hb⟩ := Option.isSome_iff_exists.mp (cellsFrom_some fd.scope.names (s.heap.objs.size + 1) [] (.inl (mem_of_lookup (hown y hy))))
        rw [← hcl] at hb
        exact ⟨hown y hy, b, hb, List.mem_cons_of_mem _ (List.mem_filterMap.mpr ⟨y, hy, hb⟩)⟩
    refine xafter (h (A.deeper env) env _ F m s1 R.deeper g1.st E1) fun f s2 ⟨F2, m2, fl, l2, σ2, g2, E2, r2, q2⟩ => ?_
    have g : Go X.prog X.w X.h0 F m s F2 m2 σ2 s2 := (g1.toX.trans g2).close fun b hb => (hW b hb).1
    cases r2 with
    | next => exact ⟨F2, m2, .dat .none, σ2, g, Rd.none, q2⟩
    | brk => exact ⟨F2, m2, .dat .none, σ2, g, Rd.none, q2⟩
    | cont => exact ⟨F2, m2, .dat .none, σ2, g, Rd.none, q2⟩
    | ret r => exact ⟨F2, m2, _, σ2, g, r, q2⟩
end
end Mine
end

section -- PgE
open PySem PySem.W PyProof.Rows PySem.Calls
set_option Elab.async false
namespace Mine
set_option autoImplicit false
set_option linter.unusedVariables false

structure Src (X : Wd) (A : Around) (t : Expr) (I : Nat) (xs : List AV) (src : List MO → Prop) (m₀ : List Nat) (F₀ : Fz) (It : Nat → Heap → Prop) (Mid : Nat → Value → Heap → Prop) : Prop where
  frame : ∀ i h h', It i h → (∀ o, h.get? I = some o → h'.get? I = some o) → It i h'
  obj : ∀ i h, It i h → h.get? I ≠ none
  objM : ∀ i v h, Mid i v h → h.get? I ≠ none
  mid : ∀ i v h, (∀ it v, letOwnedTupleGo t it v = pure ()) → Mid i v h → It i h
  item : ∀ i F m σ s x, xs[i]? = some x → It i s.heap → St X.prog X.w X.h0 F m σ s → (∀ b o, F₀ b o → F b o) → m₀ <+: m → I ∉ m → NF F I → src σ →
    wpAny (model X.prog X.w) A (pyNext (.ref I)) (fun r s' => ∃ v F', r = some v ∧ XGo X [I] F m s F' m σ s' ∧ Mid (i + 1) v s'.heap ∧ VR X.prog X.w F' m x v) nof s
  done : ∀ F m σ s, It xs.length s.heap → St X.prog X.w X.h0 F m σ s → (∀ b o, F₀ b o → F b o) → m₀ <+: m → I ∉ m → NF F I → src σ →
    wpAny (model X.prog X.w) A (pyNext (.ref I)) (fun r s' => r = none ∧ (∀ b o, b ≠ I → s.heap.get? b = some o → s'.heap.get? b = some o) ∧ ∃ tk, s.toks ≤ tk ∧ s' = { s with heap := s'.heap, toks := tk }) nof s
  own : ∀ i F m σ s v, Mid i v s.heap → St X.prog X.w X.h0 F m σ s → I ∉ m → NF F I →
    wpAny (model X.prog X.w) A (letOwnedTupleGo t (.ref I) v) (fun _ s' => XGo X [I] F m s F m σ s' ∧ It i s'.heap) nof s

  self : ∀ i s (Q : Value → Shared → Prop), It i s.heap → Q (.ref I) s → wpAny (model X.prog X.w) A (pyIter (.ref I)) Q nof s

section
variable (X : Wd)
noncomputable def isrc (k : Nat) (t : Expr) (a : AV) (xs : List AV) (src : List MO → Prop) (σ : List MO) : Prop :=
  ∀ A F m s u, Room A k → St X.prog X.w X.h0 F m σ s → VR X.prog X.w F m a u →
    wpAny (model X.prog X.w) A (pyIter u) (fun it s' => ∃ I It Mid, it = .ref I ∧ Go X.prog X.w X.h0 F m s F m σ s' ∧ s.heap.get? I = none ∧ It 0 s'.heap ∧ Src X A t I xs src m F It Mid) nof s

noncomputable def forW (c : Cx) (k : Nat) (t : Expr) (body : List Stmt) (src : List MO → Prop) (Q : AFl → Loc → List MO → Prop) : List AV → Loc → List MO → Prop
  | [], loc, σ => src σ ∧ Q .next loc σ
  | x :: r, loc, σ => src σ ∧ agn X c k t x (fun l1 σ1 => xwp X c k body (fun fl l2 σ2 => match fl with
    | .next => ∃ l', Subs l' l2 ∧ forW c k t body src Q r l' σ2
    | .cont => ∃ l', Subs l' l2 ∧ forW c k t body src Q r l' σ2
    | .brk => Q .next l2 σ2
    | .ret v => Q (.ret v) l2 σ2) l1 σ1) loc σ
end

section
variable {X : Wd} {c : Cx} {k : Nat} {loc : Loc} {σ : List MO} {Q : AFl → Loc → List MO → Prop}

theorem XGo.refl {W : List Nat} {F : Fz} {m : List Nat} {s : Shared} (S : St X.prog X.w X.h0 F m σ s) : XGo X W F m s F m σ s := (Go.refl S).toX
theorem XGo.widen {W W' : List Nat} {F F' : Fz} {m m' : List Nat} {σ' : List MO} {s s' : Shared} (g : XGo X W F m s F' m' σ' s') (h : ∀ b ∈ W, b ∈ W') : XGo X W' F m s F' m' σ' s' :=
  g.drop fun b hb => .inl (h b hb)

structure Own (X : Wd) (env : Env) (W : List Nat) (I : Nat) (F : Fz) (m : List Nat) : Prop where
  m : I ∉ m
  F : NF F I
  W : I ∉ W
  cells : ∀ x b, env.cells.lookup x = some b → b ≠ I
theorem Own.x {env : Env} {W W' : List Nat} {I : Nat} {F F' : Fz} {m m' : List Nat} {σ' : List MO} {s s' : Shared} (o : Own X env W I F m) (g : XGo X W' F m s F' m' σ' s') (hI : s.heap.get? I ≠ none) : Own X env W I F' m' :=
  ⟨fun h => (g.mnew I h).elim o.m hI, fun q hf h => (g.fnew I q h hf).elim (o.F q hf) fun h => h.elim o.m hI, o.W, o.cells⟩
theorem XGo.keepI {W : List Nat} {I : Nat} {F F' : Fz} {m m' : List Nat} {σ' : List MO} {s s' : Shared} (g : XGo X W F m s F' m' σ' s') (hm : I ∉ m) (hW : I ∉ W) : ∀ o, s.heap.get? I = some o → s'.heap.get? I = some o := fun o => g.keep I o hm hW

inductive ForI (X : Wd) (c : Cx) (env : Env) (W : List Nat) (I : Nat) (It : Nat → Heap → Prop) (len : Nat) (P : Nat → Loc → List MO → Prop) (F0 : Fz) (m0 : List Nat) (s0 : Shared) (n : Nat) (s1 : Shared) : Prop
  | mk (i : Nat) (F1 : Fz) (m1 : List Nat) (loc1 : Loc) (σ1 : List MO) : n = len - i → i ≤ len → XGo X (I :: W) F0 m0 s0 F1 m1 σ1 s1 → En X.prog X.w c env W loc1 F1 m1 s1.heap → Own X env W I F1 m1 → It i s1.heap → P i loc1 σ1 → ForI X c env W I It len P F0 m0 s0 n s1
theorem forL {t : Expr} {body : List Stmt} {src : List MO → Prop} {A : Around} {env : Env} {W : List Nat} {I : Nat} {It : Nat → Heap → Prop} {Mid : Nat → Value → Heap → Prop} {xs : List AV} {F₀ : Fz} {m₀ : List Nat} (R : Room A k) (H : Src X A t I xs src m₀ F₀ It Mid)
    {Q' : Result → Shared → Prop} {F : Fz} {m : List Nat} {s s0 : Shared} {i : Nat} (g0 : XGo X (I :: W) F₀ m₀ s0 F m σ s) (hI0 : s0.heap.get? I = none) (hi : i ≤ xs.length) (S : St X.prog X.w X.h0 F m σ s) (E : En X.prog X.w c env W loc F m s.heap) (O : Own X env W I F m) (hit : It i s.heap)
    (h : forW X c k t body src Q (xs.drop i) loc σ)
    (q : ∀ F' m' fl f loc' σ' s', XGo X (I :: W) F₀ m₀ s0 F' m' σ' s' → En X.prog X.w c env W loc' F' m' s'.heap → FR X F' m' fl f → Q fl loc' σ' → Q' (.ok f) s') :
    codeAny (model X.prog X.w) A (.forLoop t (.ref I) body [] env) Q' s := by
  refine codeAny_forLoop_any (ForI X c env W I It xs.length (fun i loc1 σ1 => forW X c k t body src Q (xs.drop i) loc1 σ1) F₀ m₀ s0) ?_
    (xs.length - i) ⟨i, F, m, loc, σ, rfl, hi, g0, E, O, hit, h⟩
  rintro n s1 ⟨i, F1, m1, loc1, σ1, rfl, hi, g1, E1, O1, hit1, h1⟩
  have hF1 := g1.fsub
  have hm1 := g1.mpre
  cases hx : xs[i]? with
  | none =>
    have hil : i = xs.length := by
      have := List.getElem?_eq_none_iff.mp hx
      omega
    subst hil
    rw [List.drop_length] at h1
    refine xafter (H.done F1 m1 σ1 s1 hit1 g1.st hF1 hm1 O1.m O1.F h1.1) fun r s2 ⟨e, hk2, hr2⟩ => ?_
    subst e
    exact wpAny_execs_nil (q F1 m1 .next .next loc1 σ1 s2 (g1.endI hk2 hr2 hI0 O1.m O1.F) (E1.endI hk2 O1.W O1.cells) .next h1.2)
  | some x =>
    have hil : i < xs.length := (List.getElem?_eq_some_iff.mp hx).1
    have hd : xs.drop i = x :: xs.drop (i + 1) := by
      rw [List.drop_eq_getElem_cons hil]; congr 1; exact (List.getElem?_eq_some_iff.mp hx).2
    rw [hd] at h1
    refine xafter (H.item i F1 m1 σ1 s1 x hx hit1 g1.st hF1 hm1 O1.m O1.F h1.1) fun r s2 ⟨v, F2, e, g2, hit2, r2⟩ => ?_
    subst e
    have wid : ∀ b ∈ [I], b ∈ I :: W := fun b hb => by rw [List.mem_singleton.mp hb]; exact List.mem_cons_self
    have hIl := H.obj _ _ hit1
    have E2 := E1.xgo g2 (fun b hb h => O1.W (by rw [← List.mem_singleton.mp h]; exact hb)) fun x b hb h => O1.cells x b hb (List.mem_singleton.mp h)
    have O2 := O1.x g2 hIl
    refine xafter (H.own (i + 1) F2 m1 σ1 s2 v hit2 g2.st O2.m O2.F) fun _ s3 ⟨g3, hit3⟩ => ?_
    have E3 := E2.xgo g3 (fun b hb h => O2.W (by rw [← List.mem_singleton.mp h]; exact hb)) fun x b hb h => O2.cells x b hb (List.mem_singleton.mp h)
    have O3 := O2.x g3 (H.objM _ _ _ hit2)
    refine xafter (h1.2 A env W F2 m1 s3 v R g3.st E3 (g3.vr r2)) fun _ s4 ⟨F4, m4, l4, σ4, g4, E4, q4⟩ => ?_
    have O4 := O3.x g4 (H.obj _ _ hit3)
    have hit4 := H.frame _ _ _ hit3 (g4.keepI O3.m O3.W)
    refine xafter (q4 A env W F4 m4 s4 R g4.st E4) fun f s5 ⟨F5, m5, fl, l5, σ5, g5, E5, r5, q5⟩ => ?_
    have O5 := O4.x g5 (H.obj _ _ hit4)
    have hit5 := H.frame _ _ _ hit4 (g5.keepI O4.m O4.W)
    have G : XGo X (I :: W) F₀ m₀ s0 F5 m5 σ5 s5 := (((g1.trans (g2.widen wid)).trans (g3.widen wid)).trans (g4.widen fun b hb => List.mem_cons_of_mem _ hb)).trans (g5.widen fun b hb => List.mem_cons_of_mem _ hb)
    cases r5 with
    | next => obtain ⟨l', hs, q5⟩ := q5; exact ⟨xs.length - (i + 1), by omega, i + 1, F5, m5, l', σ5, rfl, by omega, G, E5.sub hs, O5, hit5, q5⟩
    | cont => obtain ⟨l', hs, q5⟩ := q5; exact ⟨xs.length - (i + 1), by omega, i + 1, F5, m5, l', σ5, rfl, by omega, G, E5.sub hs, O5, hit5, q5⟩
    | brk => exact q F5 m5 .next .next l5 σ5 s5 G E5 .next q5
    | ret r => exact q F5 m5 (.ret _) (.ret _) l5 σ5 s5 G E5 (.ret r) q5

theorem swp_For {t it : Expr} {body : List Stmt} {pos : Pos} (h : ewp X c k it (fun a σ1 => ∃ xs src, isrc X k t a xs src σ1 ∧ forW X c k t body src Q xs loc σ1) loc σ)
    (hs : ∀ env x, foldedSetIterable it env x = pure x := by intro _ _; rfl) : swp X c k (.For t it body [] pos) Q loc σ := fun A env W F m s R S E =>
  wpAny_For (h.use R S E fun F1 m1 a σ1 u s1 g1 ra ⟨xs, src, hi, hf⟩ E1 => xafter (hi A F1 m1 s1 u R g1.st ra) fun itv s2 ⟨I, It, Mid, e, g2, hI, hit, H⟩ => by
    subst e
    have hIm : I ∉ m1 := fun h => g1.st.lt I h hI
    have hIF : NF F1 I := fun o hf h => by have := g1.st.fz I o h hf; rw [hI] at this; cases this
    have O : Own X env W I F1 m1 := ⟨hIm, hIF, fun h => (E1.priv I h).2.2 hI, fun x b hb e => by
      obtain ⟨_, _, _, v0, o, ho, _⟩ := E1.cells x b hb
      rw [e, hI] at ho; cases ho⟩
    refine forL (Q := Q) R H g2.toX hI (Nat.zero_le _) g2.st (E1.go g2) O hit hf ?_
    intro F' m' fl f loc' σ' s' g E' r q
    exact ⟨F', m', fl, loc', σ', g1.toX.trans (g.drop fun b hb => by
      rcases List.mem_cons.mp hb with e | hb
      · rw [e]; exact .inr hI
      · exact .inl hb), E', r, q⟩) (hs env)

theorem swp_While {t : Expr} {body : List Stmt} {pos : Pos} (Inv : Nat → Loc → List MO → Prop) (n : Nat) (h0 : Inv n loc σ)
    (turn : ∀ n loc σ, Inv n loc σ → twp X c k t (fun z σ1 => if z then xwp X c k body (fun fl l2 σ2 => match fl with
      | .next => ∃ n' l', n' < n ∧ Subs l' l2 ∧ Inv n' l' σ2
      | .cont => ∃ n' l', n' < n ∧ Subs l' l2 ∧ Inv n' l' σ2
      | .brk => Q .next l2 σ2
      | .ret v => Q (.ret v) l2 σ2) loc σ1 else Q .next loc σ1) loc σ) : swp X c k (.While t body [] pos) Q loc σ := fun A env W F m s R S E => by
  refine wpAny_While (codeAny_whileLoop (fun n s1 => UPost X c env W (Inv n) F m s s1) ?_ n ⟨F, m, loc, σ, XGo.refl S, E, h0⟩)
  rintro n s1 ⟨F1, m1, loc1, σ1, g1, E1, h1⟩
  refine (turn n loc1 σ1 h1).use R g1.st E1 fun F2 m2 z σ2 s2 g2 qz E2 => ?_
  cases z with
  | true =>
    refine xafter (qz A env W F2 m2 s2 R g2.st E2) fun f s3 ⟨F3, m3, fl, l3, σ3, g3, E3, r3, q3⟩ => ?_
    have G := (g1.trans g2.toX).trans g3
    cases r3 with
    | next => obtain ⟨n', l', hn, hs, q⟩ := q3; exact ⟨n', hn, F3, m3, l', σ3, G, E3.sub hs, q⟩
    | cont => obtain ⟨n', l', hn, hs, q⟩ := q3; exact ⟨n', hn, F3, m3, l', σ3, G, E3.sub hs, q⟩
    | brk => exact ⟨F3, m3, .next, l3, σ3, G, E3, .next, q3⟩
    | ret r => exact ⟨F3, m3, .ret _, l3, σ3, G, E3, .ret r, q3⟩
  | false => exact wpAny_execs_nil ⟨F2, m2, .next, loc1, σ2, g1.trans g2.toX, E2, .next, qz⟩
end
end Mine
end

section -- PgF
open PySem PySem.W PyProof.Rows PySem.Calls
set_option Elab.async false
namespace Mine
set_option autoImplicit false
set_option linter.unusedVariables false

noncomputable def clOf (cells : List (Str × Addr)) : List (Str × NameKind) → List (Str × Addr) → List (Str × Addr)
  | [], acc => acc
  | (n, kd) :: r, acc => if kd == .free then clOf cells r ((n, (cells.lookup n).getD 0) :: acc) else clOf cells r acc

theorem closure_loop {env : Env} (f : Str × NameKind → List (Str × Addr) → Sem (ForInStep (List (Str × Addr))))
    (hf : ∀ n kd cs, f (n, kd) cs = if kd == .free then (do let a ← cellOf env n; pure (ForInStep.yield ((n, a) :: cs))) else pure (ForInStep.yield cs)) :
    ∀ (names : List (Str × NameKind)) (acc : List (Str × Addr)), (∀ p ∈ names, p.2 = .free → (env.cells.lookup p.1).isSome = true) → forIn names acc f = (pure (clOf env.cells names acc) : Sem (List (Str × Addr)))
  | [], acc, _ => rfl
  | (n, kd) :: r, acc, h => by
    rw [List.forIn_cons, hf]
    unfold clOf
    cases hk : kd == NameKind.free with
    | false =>
      simp only [Bool.false_eq_true, if_false]
      exact closure_loop f hf r acc fun p hp => h p (List.mem_cons_of_mem _ hp)
    | true =>
      obtain ⟨a, ha⟩ := Option.isSome_iff_exists.mp (h (n, kd) List.mem_cons_self (eq_of_beq hk))
      have ha' : env.cells.lookup n = some a := ha
      simp only [if_true, cellOf, ha', Option.getD_some]
      exact closure_loop f hf r ((n, a) :: acc) fun p hp => h p (List.mem_cons_of_mem _ hp)
theorem closure_eq {env : Env} {scope : Scope} (h : ∀ p ∈ scope.names, p.2 = .free → (env.cells.lookup p.1).isSome = true) : closureFor scope env = pure (clOf env.cells scope.names []) := by
  unfold closureFor
  have := closure_loop (env := env) (fun (name, kind) cs => if kind == .free then (do let a ← cellOf env name; pure (ForInStep.yield ((name, a) :: cs))) else pure (ForInStep.yield cs)) (fun _ _ _ => rfl) scope.names [] h
  exact (congrArg (fun t => t >>= fun cs => pure cs) this).trans rfl

theorem clOf_lookup {cells : List (Str × Addr)} : ∀ (names : List (Str × NameKind)) (acc : List (Str × Addr)) {x : Str} {a : Addr}, (clOf cells names acc).lookup x = some a → (∀ p ∈ names, p.2 = .free → (cells.lookup p.1).isSome = true) → acc.lookup x = some a ∨ ((x, NameKind.free) ∈ names ∧ cells.lookup x = some a)
  | [], acc, x, a, h, _ => .inl h
  | (n, kd) :: r, acc, x, a, h, hs => by
    unfold clOf at h
    have hs' : ∀ p ∈ r, p.2 = .free → (cells.lookup p.1).isSome = true := fun p hp => hs p (List.mem_cons_of_mem _ hp)
    cases hk : kd == NameKind.free with
    | false =>
      rw [hk] at h
      rcases clOf_lookup r acc h hs' with h | ⟨h1, h2⟩
      · exact .inl h
      · exact .inr ⟨List.mem_cons_of_mem _ h1, h2⟩
    | true =>
      rw [hk] at h
      rcases clOf_lookup r _ h hs' with h | ⟨h1, h2⟩
      · simp only [List.lookup_cons] at h
        cases hx : x == n with
        | true =>
          rw [hx] at h
          have e := eq_of_beq hx; subst e
          have ek := eq_of_beq hk; subst ek
          obtain ⟨b, hb⟩ := Option.isSome_iff_exists.mp (hs (x, .free) List.mem_cons_self rfl)
          have hb' : cells.lookup x = some b := hb
          rw [hb'] at h; cases h
          exact .inr ⟨List.mem_cons_self, hb'⟩
        | false => rw [hx] at h; exact .inl h
      · exact .inr ⟨List.mem_cons_of_mem _ h1, h2⟩
theorem clOf_has {cells : List (Str × Addr)} : ∀ (names : List (Str × NameKind)) (acc : List (Str × Addr)) {x : Str}, ((x, NameKind.free) ∈ names ∨ (acc.lookup x).isSome = true) → ((clOf cells names acc).lookup x).isSome = true
  | [], acc, x, h => by
    unfold clOf
    rcases h with h | h
    · simp at h
    · exact h
  | (n, kd) :: r, acc, x, h => by
    unfold clOf
    split
    · rename_i hk
      refine clOf_has r _ ?_
      by_cases hxy : x = n
      · subst hxy; right; simp
      · rcases h with h | h
        · rcases List.mem_cons.mp h with e | h
          · cases e; exact absurd rfl hxy
          · exact .inl h
        · right
          have hb : (x == n) = false := beq_eq_false_iff_ne.mpr hxy
          simp only [List.lookup_cons, hb]; exact h
    · rename_i hk
      refine clOf_has r _ ?_
      rcases h with h | h
      · rcases List.mem_cons.mp h with e | h
        · cases e; exact absurd rfl hk
        · exact .inl h
      · exact .inr h

theorem cellsFrom_app : ∀ (names : List (Str × NameKind)) (n : Nat) (a b : List (Str × Addr)), cellsFrom n names (a ++ b) = cellsFrom n names a ++ b
  | [], _, _, _ => rfl
  | (x, kd) :: r, n, a, b => by
    unfold cellsFrom
    split
    · exact cellsFrom_app r (n + 1) ((x, n) :: a) b
    · exact cellsFrom_app r n a b

theorem newCompEnv {M : Model} {A : Around} {E : Value → Shared → Prop} {s : Shared} {scope : Scope} {globals : Addr} {cl : List (Str × Addr)} {qual : Str} {env : Env} {Q : Env → Shared → Prop}
    (hQ : ∀ h', (∀ b o, s.heap.get? b = some o → h'.get? b = some o) → h'.Ns s.heap.objs.size (fun _ => none) → CellsOk h' (s.heap.objs.size + 1) (cellsFrom (s.heap.objs.size + 1) scope.names []) →
      Q (newEnv scope s.heap.objs.size globals (cellsFrom (s.heap.objs.size + 1) scope.names [] ++ cl) qual none .none (some env) builtinsNs) { s with heap := h' }) :
    wpAny M A (newFunctionEnv scope globals cl [] qual none .none (some env)) Q E s := by
  simp only [newFunctionEnv, Option.isSome_some, if_true]
  refine wpAny_bind (wpAny_alloc ?_)
  refine wpAny_bind (wpAny_layCells _ (fun name kind cells => by cases hkc : kind == NameKind.cell <;> simp [hkc]) _ _ _ _ ?_)
  have ok := cellsFrom_ok scope.names (s.heap.push { cls := .type "dict", data := .dict #[] }) (s.heap.objs.size + 1) [] ⟨fun _ _ hm => (nomatch hm), List.Pairwise.nil⟩ (by rw [Heap.size_push]; exact Nat.le_refl _)
  rw [Heap.size_push] at ok
  rw [show ({ s with heap := s.heap.push { cls := .type "dict", data := .dict #[] } } : Shared).heap.objs.size = s.heap.objs.size + 1 from Heap.size_push ..]
  rw [show cl = [] ++ cl from rfl, cellsFrom_app]
  refine wpAny_bind ?_
  rw [List.forIn_nil]
  exact wpAny_pure (wpAny_pure (hQ _ (fun b o e => pushCells_keeps _ _ b o (Heap.get?_push_of_some _ e)) ((Heap.Ns.new s.heap (.type "dict")).keeps (pushCells_keeps _ _)) ok))

noncomputable def relabelS (scope sc : Scope) : Scope :=
  { scope with names := scope.names.map fun (n, k) => if (k == .free && sc.kind == .function && sc.names.lookup n == some .cell) then (n, .cell) else (n, k) }
theorem relabel_S {scope : Scope} {env : Env} : relabel scope env = relabelS scope env.scope := rfl
noncomputable abbrev rl (sc : Scope) : Str × NameKind → Str × NameKind := fun (n, k) => if (k == .free && sc.kind == .function && sc.names.lookup n == some .cell) then (n, .cell) else (n, k)
theorem relabelS_lookup {sc : Scope} {x : Str} {k : NameKind} : ∀ {names : List (Str × NameKind)}, names.lookup x = some k → k ≠ .free → (names.map (rl sc)).lookup x = some k
  | [], h, _ => by simp at h
  | (n, k') :: r, h, hk => by
    show List.lookup x ((if (k' == .free && sc.kind == .function && sc.names.lookup n == some .cell) = true then (n, NameKind.cell) else (n, k')) :: r.map (rl sc)) = _
    rw [List.lookup_cons] at h
    cases hx : x == n with
    | true =>
      rw [hx] at h; cases h
      have : (k == NameKind.free) = false := beq_eq_false_iff_ne.mpr hk
      rw [this, Bool.false_and, Bool.false_and, if_neg (by simp), List.lookup_cons, hx]
    | false =>
      rw [hx] at h
      have ih := relabelS_lookup (sc := sc) h hk
      by_cases hc : (k' == NameKind.free && sc.kind == .function && sc.names.lookup n == some .cell) = true
      · rw [if_pos hc, List.lookup_cons, hx]; exact ih
      · rw [if_neg hc, List.lookup_cons, hx]; exact ih
theorem relabelS_free {sc : Scope} {x : Str} : ∀ {names : List (Str × NameKind)}, names.lookup x = some .free → (names.map (rl sc)).lookup x = some .cell ∨ (names.map (rl sc)).lookup x = some .free
  | [], h => by simp at h
  | (n, k') :: r, h => by
    show List.lookup x ((if (k' == .free && sc.kind == .function && sc.names.lookup n == some .cell) = true then (n, NameKind.cell) else (n, k')) :: r.map (rl sc)) = _ ∨ List.lookup x ((if (k' == .free && sc.kind == .function && sc.names.lookup n == some .cell) = true then (n, NameKind.cell) else (n, k')) :: r.map (rl sc)) = _
    rw [List.lookup_cons] at h
    cases hx : x == n with
    | true =>
      rw [hx] at h; cases h
      by_cases hc : (NameKind.free == NameKind.free && sc.kind == .function && sc.names.lookup n == some .cell) = true
      · left; rw [if_pos hc, List.lookup_cons, hx]
      · right; rw [if_neg hc, List.lookup_cons, hx]
    | false =>
      rw [hx] at h
      have ih := relabelS_free (sc := sc) h
      by_cases hc : (k' == NameKind.free && sc.kind == .function && sc.names.lookup n == some .cell) = true
      · rw [if_pos hc, List.lookup_cons, hx]; exact ih
      · rw [if_neg hc, List.lookup_cons, hx]; exact ih

noncomputable def sub (fvs : List Str) (loc : Loc) : Loc := fvs.filterMap fun x => (loc.lookup x).map fun v => (x, v)
theorem sub_lookup {loc : Loc} {x : Str} {v : AV} : ∀ {fvs : List Str}, (sub fvs loc).lookup x = some v → x ∈ fvs ∧ loc.lookup x = some v
  | [], h => by simp [sub] at h
  | y :: r, h => by
    unfold sub at h
    rw [List.filterMap_cons] at h
    cases hy : loc.lookup y with
    | none =>
      rw [hy] at h
      have := sub_lookup (fvs := r) h
      exact ⟨List.mem_cons_of_mem _ this.1, this.2⟩
    | some u =>
      rw [hy] at h
      simp only [Option.map_some, List.lookup_cons] at h
      cases hx : x == y with
      | true =>
        rw [hx] at h; cases h
        have e := eq_of_beq hx; subst e
        exact ⟨List.mem_cons_self, hy⟩
      | false =>
        rw [hx] at h
        have := sub_lookup (fvs := r) h
        exact ⟨List.mem_cons_of_mem _ this.1, this.2⟩

section
variable {X : Wd}
theorem St.addF {F : Fz} {m : List Nat} {σ : List MO} {s : Shared} {D : Nat} {o : Obj} (S : St X.prog X.w X.h0 F m σ s) (h3 : D ∉ m) (h2 : s.heap.get? D = some o) : St X.prog X.w X.h0 (fun b q => F b q ∨ (b = D ∧ q = o)) m σ s :=
  ⟨fun b q e => .inl (S.base b q e), fun b q h hf => h.elim (fun h => S.fz b q h hf) fun h => h.1 ▸ h.2 ▸ h2, S.len, S.nd, fun i a q e1 e2 => (S.mr i a q e1 e2).keep (fun _ _ h => .inl h) fun _ e => e,
      fun i a q e1 e2 e3 ob hf h => h.elim (S.sep i a q e1 e2 e3 ob hf) fun h => h3 (h.1 ▸ List.mem_of_getElem? e1), S.lt,
      fun b q h hf => h.elim (fun h => S.tk b q h hf) fun h => (by have := (Heap.get?_some_iff.mp h2).2; rw [← h.2, hf] at this; cases this), S.pos⟩
theorem Go.addF {F F' : Fz} {m m' : List Nat} {σ' : List MO} {s s' : Shared} {D : Nat} {o : Obj} (g : Go X.prog X.w X.h0 F m s F' m' σ' s') (h1 : s.heap.get? D = none) (h2 : s'.heap.get? D = some o) (h3 : D ∉ m') :
    Go X.prog X.w X.h0 F m s (fun b q => F' b q ∨ (b = D ∧ q = o)) m' σ' s' :=
  ⟨fun b q h => .inl (g.fsub b q h), g.mpre, g.keep, g.mnew, fun b q h hf => h.elim (fun h => g.fnew b q h hf) fun h => .inr (.inr (h.1 ▸ h1)), g.live,
    ⟨fun b q e => .inl (g.st.base b q e), fun b q h hf => h.elim (fun h => g.st.fz b q h hf) fun h => h.1 ▸ h.2 ▸ h2, g.st.len, g.st.nd, fun i a q e1 e2 => (g.st.mr i a q e1 e2).keep (fun _ _ h => .inl h) fun _ e => e,
      fun i a q e1 e2 e3 ob hf h => h.elim (g.st.sep i a q e1 e2 e3 ob hf) fun h => h3 (h.1 ▸ List.mem_of_getElem? e1), g.st.lt,
      fun b q h hf => h.elim (fun h => g.st.tk b q h hf) fun h => (by have := (Heap.get?_some_iff.mp h2).2; rw [← h.2, hf] at this; cases this), g.st.pos⟩, g.tks, g.rest⟩
theorem Go.addM {F F' : Fz} {m m' : List Nat} {σ' : List MO} {s s' : Shared} {D : Nat} {mo : MO} (g : Go X.prog X.w X.h0 F m s F' m' σ' s') (h1 : s.heap.get? D = none) (h2 : MR X.prog X.w F' s'.heap D mo) (hl : s'.heap.get? D ≠ none) (h3 : D ∉ m') (h4 : NF F' D) :
    Go X.prog X.w X.h0 F m s F' (m' ++ [D]) (σ' ++ [mo]) s' :=
  ⟨g.fsub, g.mpre.trans (List.prefix_append _ _), g.keep, fun a ha => (List.mem_append.mp ha).elim (g.mnew a) fun h => .inr (by rw [List.mem_singleton.mp h]; exact h1), g.fnew, g.live,
    ⟨g.st.base, g.st.fz, by simp [g.st.len], List.nodup_append.mpr ⟨g.st.nd, by simp, fun x hx y hy e => by rw [List.mem_singleton] at hy; subst hy; subst e; exact h3 hx⟩,
      fun i b q e1 e2 => by
        rcases Nat.lt_or_ge i m'.length with hi | hi
        · rw [List.getElem?_append_left hi] at e1
          rw [List.getElem?_append_left (g.st.len ▸ hi)] at e2
          exact g.st.mr i b q e1 e2
        · rw [List.getElem?_append_right hi] at e1
          rw [List.getElem?_append_right (g.st.len ▸ hi), ← g.st.len] at e2
          cases hj : i - m'.length with
          | zero => rw [hj] at e1 e2; simp at e1 e2; subst e1; subst e2; exact h2
          | succ k => rw [hj] at e1; simp at e1,
      fun i b q e1 e2 e3 ob hf hF => by
        rcases Nat.lt_or_ge i m'.length with hi | hi
        · rw [List.getElem?_append_left hi] at e1
          rw [List.getElem?_append_left (g.st.len ▸ hi)] at e2
          exact g.st.sep i b q e1 e2 e3 ob hf hF
        · rw [List.getElem?_append_right hi] at e1
          cases hj : i - m'.length with
          | zero => rw [hj] at e1; simp at e1; subst e1; exact h4 _ hf hF
          | succ k => rw [hj] at e1; simp at e1,
      fun b hb => (List.mem_append.mp hb).elim (g.st.lt b) fun h => by rw [List.mem_singleton.mp h]; exact hl, g.st.tk, g.st.pos⟩, g.tks, g.rest⟩
theorem XGo.own1 {F : Fz} {m : List Nat} {σ : List MO} {s : Shared} {D : Nat} {h' : Heap} {tk : Tok} (S : St X.prog X.w X.h0 F m σ s) (hm : D ∉ m) (hF : NF F D) (hs : Heap.SameBut D s.heap h') (hl : h'.get? D ≠ none) (ht : s.toks ≤ tk := by first | exact Nat.le_refl _ | exact Nat.le_succ _ | omega) :
    XGo X [D] F m s F m σ { s with heap := h', toks := tk } := by
  have hk : ∀ b o, b ≠ D → s.heap.get? b = some o → h'.get? b = some o := fun b o hb e => (hs.2 b hb).trans e
  have hlv : ∀ b, s.heap.get? b ≠ none → h'.get? b ≠ none := fun b hb => by
    by_cases e : b = D
    · rw [e]; exact hl
    · rw [hs.2 b e]; exact hb
  exact ⟨fun _ _ h => h, List.prefix_refl _, fun b o _ hw e => hk b o (fun h => hw (by rw [h]; exact List.mem_singleton_self _)) e, fun _ h => .inl h, fun _ _ h _ => .inl h, hlv,
    S.move (fun b o hb => hk b o fun e => hb.elim (fun h => hm (e ▸ h)) fun ⟨q, h1, h2⟩ => hF q h1 (e ▸ h2)) ht, ht, ⟨_, rfl⟩⟩
end

section
variable (X : Wd)
noncomputable def ifsW (c : Cx) (k : Nat) : List Expr → (Bool → List MO → Prop) → Loc → List MO → Prop
  | [], Q, _, σ => Q true σ
  | [t], Q, loc, σ => twp X c k t Q loc σ
  | _, _, _, _ => False
noncomputable def cpW (c : Cx) (k : Nat) (t : Expr) (ifs : List Expr) (elt : Expr) (src : List MO → Prop) (Q : List PyData → List MO → Prop) : List AV → List PyData → Loc → List MO → Prop
  | [], acc, loc, σ => src σ ∧ Q acc σ
  | x :: r, acc, loc, σ => src σ ∧ agn X c k t x (fun l1 σ1 => ifsW X c k ifs (fun z σ2 => if z then ewp X c k elt (fun v σ3 => ∃ d l', v = .dat d ∧ Subs l' l1 ∧ cpW c k t ifs elt src Q r (acc ++ [d]) l' σ3) l1 σ2
      else ∃ l', Subs l' l1 ∧ cpW c k t ifs elt src Q r acc l' σ2) l1 σ1) loc σ
end
end Mine
end

section -- PgG
open PySem PySem.W PyProof.Rows PySem.Calls
set_option Elab.async false
namespace Mine
set_option autoImplicit false
set_option linter.unusedVariables false

section
variable {X : Wd} {c : Cx} {k : Nat} {loc : Loc} {σ : List MO}

theorem ifs_ok {A : Around} {env : Env} {W : List Nat} {F : Fz} {m : List Nat} {s : Shared} {Q : Bool → List MO → Prop} : ∀ {ifs : List Expr}, ifsW X c k ifs Q loc σ → Room A k → St X.prog X.w X.h0 F m σ s → En X.prog X.w c env W loc F m s.heap →
    ∀ {Q' : Bool → Shared → Prop} {Er : Value → Shared → Prop}, (∀ F' m' z σ' s', Go X.prog X.w X.h0 F m s F' m' σ' s' → Q z σ' → En X.prog X.w c env W loc F' m' s'.heap → Q' z s') →
    wpAny (model X.prog X.w) A (forIn ifs true fun c r => if r = true then do let ok ← isTrue c env (eval c env); pure (ForInStep.yield ok) else pure (ForInStep.yield r)) Q' Er s
  | [], h, R, S, E, Q', Er, q => wpAny_tests_nil (q F m true σ s (Go.refl S) h E)
  | [t], h, R, S, E, Q', Er, q => wpAny_tests_one (twp.use h R S E q)
  | _ :: _ :: _, h, _, _, _, _, _, _ => h.elim

theorem cellsFrom_mem : ∀ (names : List (Str × NameKind)) (n : Nat) (acc : List (Str × Addr)) {x : Str} {b : Addr}, (cellsFrom n names acc).lookup x = some b → acc.lookup x = some b ∨ (x, NameKind.cell) ∈ names
  | [], n, acc, x, b, h => .inl h
  | (y, kd) :: r, n, acc, x, b, h => by
    unfold cellsFrom at h
    by_cases hk : (kd == NameKind.cell) = true
    · rw [if_pos hk] at h
      rcases cellsFrom_mem r _ _ h with h | h
      · simp only [List.lookup_cons] at h
        cases hx : x == y with
        | true =>
          have e := eq_of_beq hx; subst e
          rw [← eq_of_beq hk]; exact .inr List.mem_cons_self
        | false => rw [hx] at h; exact .inl h
      · exact .inr (List.mem_cons_of_mem _ h)
    · rw [if_neg hk] at h
      rcases cellsFrom_mem r _ _ h with h | h
      · exact .inl h
      · exact .inr (List.mem_cons_of_mem _ h)
theorem lookup_nodup {α : Type} : ∀ {l : List (Str × α)} {x : Str} {v : α}, (l.map (·.1)).Nodup → (x, v) ∈ l → l.lookup x = some v
  | (y, u) :: r, x, v, hn, h => by
    simp only [List.map_cons, List.nodup_cons] at hn
    rw [List.lookup_cons]
    rcases List.mem_cons.mp h with e | h
    · cases e; simp
    · have hne : x ≠ y := fun e => hn.1 (e ▸ List.mem_map.mpr ⟨_, h, rfl⟩)
      have hb : (x == y) = false := beq_eq_false_iff_ne.mpr hne
      rw [hb]; exact lookup_nodup hn.2 h

theorem comp_env {e : Expr} {scope : Scope} {A : Around} {env : Env} {W : List Nat} {F : Fz} {m : List Nat} {s : Shared} {u : Value} {a : AV} {tgt : Expr} {xs : List AV} {src : List MO → Prop} {fvs own' : List Str}
    {RR : Value → Addr → Result → Shared → Prop}
    (R : Room A k) (S : St X.prog X.w X.h0 F m σ s) (E : En X.prog X.w c env W loc F m s.heap) (ra : VR X.prog X.w F m a u) (hi : isrc X k tgt a xs src σ)
    (hfree : ∀ p ∈ scope.names, p.2 = .free → (loc.lookup p.1).isSome = true ∧ c.sc.names.lookup p.1 ≠ some .local) (hkind : scope.kind = .function)
    (hnd : (scope.names.map (·.1)).Nodup) (hfv : ∀ x ∈ fvs, scope.names.lookup x = some .free) (hown : ∀ x ∈ own', scope.names.lookup x = some .cell)
    (K : ∀ I It Mid D C cenv W' s4, Src X A tgt I xs src m F It Mid → Go X.prog X.w X.h0 F m s F m σ s4 → En X.prog X.w ⟨relabelS scope c.sc, own'⟩ cenv W' (sub fvs loc) F m s4.heap → Own X cenv W' I F m → Own X cenv W' D F m → I ≠ D → It 0 s4.heap → s4.heap.get? D = some (lstObj [] 0) →
      (∀ b ∈ I :: D :: W', s.heap.get? b = none) → C ∈ W' → cenv.locals = C → codeAny (model X.prog X.w) A (.compStart e 0 (.ref I) (.ref D) cenv) (RR (.ref D) C) s4) :
    wpAny (model X.prog X.w) A (pyIter u) (fun it s₂ => wpAny (model X.prog X.w) A (newList []) (fun acc s₃ =>
      wpAny (model X.prog X.w) A (newFunctionEnv scope env.globals (clOf env.cells scope.names []) [] env.qual none .none (some env)) (fun cenv s₄ =>
        codeAny (model X.prog X.w) A (.compStart e 0 it acc { cenv with scope := relabel scope env }) (RR acc cenv.locals) s₄) nof s₃) nof s₂) nof s := by
  refine xafter (hi A F m s u R S ra) fun it s2 ⟨I, It, Mid, eI, g2, hI, hit, H⟩ => ?_
  subst eI
  refine wpAny_newObj_type ?_ (by show ([] : List Value).toArray.size ≤ sizeLine; rw [sizeLine_eq]; decide)
  have g3 : Go X.prog X.w X.h0 F m s2 F m σ { s2 with heap := s2.heap.push (lstObj [] 0) } := Go.grow (tk := s2.toks) g2.st fun b o e => Heap.get?_push_of_some _ e
  have hDn : s2.heap.get? s2.heap.objs.size = none := fresh_size _
  have hD3 : (s2.heap.push (lstObj [] 0)).get? s2.heap.objs.size = some (lstObj [] 0) := Heap.get?_push_size _ rfl
  have E3 := (E.go g2).go g3
  have hIn2 : s2.heap.get? I ≠ none := H.obj _ _ hit
  have hit3 : It 0 (s2.heap.push (lstObj [] 0)) := H.frame _ _ _ hit fun o e => Heap.get?_push_of_some _ e
  generalize hs3 : ({ s2 with heap := s2.heap.push (lstObj [] 0) } : Shared) = s3 at g3 E3
  have hh3 : s3.heap = s2.heap.push (lstObj [] 0) := by rw [← hs3]
  generalize hDd : s2.heap.objs.size = D at hDn hD3
  rw [← hh3] at hD3 hit3
  have hcells : ∀ p ∈ scope.names, p.2 = .free → (env.cells.lookup p.1).isSome = true := fun p hp hk => by
    obtain ⟨h1, h2⟩ := hfree p hp hk
    obtain ⟨v, hv⟩ := Option.isSome_iff_exists.mp h1
    obtain ⟨_, a', _, h3, _⟩ := E.cell p.1 v hv h2
    rw [h3]; rfl
  refine newCompEnv fun h' hk hns ok => ?_
  have g4 : Go X.prog X.w X.h0 F m s3 F m σ { s3 with heap := h' } := Go.grow (tk := s3.toks) g3.st hk
  have E4 := E3.go g4
  generalize hC : s3.heap.objs.size = C at hns ok
  have hC3 : s3.heap.get? C = none := by rw [← hC]; exact fresh_size _
  have hD4 : h'.get? D = some (lstObj [] 0) := hk _ _ hD3
  have hDC : D ≠ C := by rintro rfl; rw [hC3] at hD3; cases hD3
  have hit4 : It 0 h' := H.frame _ _ _ hit3 fun o e => hk _ o e
  generalize hs4 : ({ s3 with heap := h' } : Shared) = s4 at g4 E4
  have hh4 : s4.heap = h' := by rw [← hs4]
  rw [← hh4] at hns ok hD4 hit4
  have gs4 : Go X.prog X.w X.h0 F m s F m σ s4 := (g2.trans g3).trans g4
  have hnew : ∀ b, s3.heap.get? b = none → s.heap.get? b = none ∧ b ∉ m ∧ NF F b := fun b hb => by
    have h1 : s.heap.get? b = none := none_of (g2.trans g3).live hb
    exact ⟨h1, fun hm => S.lt b hm h1, fun o hf hF => by have := S.fz b o hF hf; rw [h1] at this; cases this⟩
  have hnc : ∀ x b, (cellsFrom (C + 1) scope.names []).lookup x = some b → s3.heap.get? b = none ∧ s4.heap.IsCell b none := fun x b hb => by
    obtain ⟨h1, h2⟩ := ok.empty x b (mem_of_lookup hb)
    refine ⟨?_, h1⟩
    cases e : s3.heap.get? b with
    | none => rfl
    | some o =>
      have h3 : b < C := hC ▸ Heap.lt_size e
      exact absurd (Nat.lt_of_lt_of_le h3 (Nat.le_succ C)) (Nat.not_lt.mpr h2)
  generalize hcen : ({ newEnv scope C env.globals (cellsFrom (C + 1) scope.names [] ++ clOf env.cells scope.names []) env.qual none Value.none (some env) builtinsNs with scope := relabel scope env } : Env) = cenv
  have hcl : cenv.locals = C := by rw [← hcen]; rfl
  have hcc : cenv.cells = cellsFrom (C + 1) scope.names [] ++ clOf env.cells scope.names [] := by rw [← hcen]; rfl
  have hcs : cenv.scope = relabelS scope c.sc := by rw [← hcen]; show relabel scope env = _; rw [relabel_S, E.scope]
  have hlk : ∀ x b, cenv.cells.lookup x = some b → ((cellsFrom (C + 1) scope.names []).lookup x = some b) ∨ ((cellsFrom (C + 1) scope.names []).lookup x = none ∧ env.cells.lookup x = some b) := fun x b hb => by
    rw [hcc, List.lookup_append] at hb
    cases e : (cellsFrom (C + 1) scope.names []).lookup x with
    | some b' => rw [e] at hb; exact .inl hb
    | none =>
      rw [e] at hb
      rcases clOf_lookup scope.names [] hb hcells with h1 | h1
      · simp at h1
      · exact .inr ⟨rfl, h1.2⟩
  have hold : ∀ x b, env.cells.lookup x = some b → s3.heap.get? b ≠ none := fun x b hb => by
    obtain ⟨_, _, _, v0, o, ho, _⟩ := E3.cells x b hb
    exact ne_none ho
  have hW' : ∀ b ∈ C :: own'.filterMap (fun y => (cellsFrom (C + 1) scope.names []).lookup y), s3.heap.get? b = none ∧ s4.heap.get? b ≠ none := fun b hb => by
    rcases List.mem_cons.mp hb with e | hb
    · rw [e]
      obtain ⟨o, _, _, ho, _⟩ := hns
      exact ⟨hC3, ne_none ho⟩
    · obtain ⟨y, _, hy⟩ := List.mem_filterMap.mp hb
      obtain ⟨h1, o, ho, _⟩ := hnc y b hy
      exact ⟨h1, ne_none ho⟩
  have EC : En X.prog X.w ⟨relabelS scope c.sc, own'⟩ cenv (C :: own'.filterMap (fun y => (cellsFrom (C + 1) scope.names []).lookup y)) (sub fvs loc) F m s4.heap := by
    refine ⟨hcs, hkind, by rw [← hcen]; exact E.glob, by rw [← hcen]; exact E.bns, by rw [hcl]; exact List.mem_cons_self, fun b hb => ?_, ⟨_, hcl ▸ hns, fun x v h1 h2 => ?_⟩, fun x v h1 h2 => ?_, fun x b hb => ?_, fun x y b hx hy => ?_, fun x hx => ?_⟩
    · obtain ⟨h1, h2⟩ := hW' b hb
      exact ⟨(hnew b h1).2.1, (hnew b h1).2.2, h2⟩
    · obtain ⟨h3, _⟩ := sub_lookup h1
      have h2' : (scope.names.map (rl c.sc)).lookup x = some .local := h2
      rcases relabelS_free (sc := c.sc) (hfv x h3) with h4 | h4 <;> rw [h4] at h2' <;> cases h2'
    · obtain ⟨h3, h4⟩ := sub_lookup h1
      have h5 : (scope.names.map (rl c.sc)).lookup x = some .cell ∨ (scope.names.map (rl c.sc)).lookup x = some .free := relabelS_free (sc := c.sc) (hfv x h3)
      have h6 := hfree (x, .free) (mem_of_lookup (hfv x h3)) rfl
      obtain ⟨_, b, v', h7, h8, h9⟩ := E4.cell x v h4 h6.2
      refine ⟨h5, b, v', ?_, h8, h9⟩
      rw [hcc, List.lookup_append]
      cases e : (cellsFrom (C + 1) scope.names []).lookup x with
      | some b' =>
        exfalso
        rcases cellsFrom_mem scope.names (C + 1) [] e with q | q
        · simp at q
        · have := lookup_nodup hnd q
          rw [hfv x h3] at this; cases this
      | none =>
        show (clOf env.cells scope.names []).lookup x = some b
        obtain ⟨b2, hb2⟩ := Option.isSome_iff_exists.mp (clOf_has (cells := env.cells) scope.names [] (.inl (mem_of_lookup (hfv x h3))))
        rcases clOf_lookup scope.names [] hb2 hcells with q | q
        · simp at q
        · rw [hb2, ← h7, q.2]
    · rcases hlk x b hb with h1 | ⟨h0, h1⟩
      · obtain ⟨h2, h3⟩ := hnc x b h1
        have h4 := (ok.empty x b (mem_of_lookup h1)).2
        exact ⟨(hnew b h2).2.1, (hnew b h2).2.2, by rw [hcl]; exact Nat.ne_of_gt (Nat.lt_of_lt_of_le (Nat.lt_succ_self C) h4), _, h3⟩
      · obtain ⟨h2, h3, h4, v0, h5⟩ := E4.cells x b h1
        refine ⟨h2, h3, ?_, v0, h5⟩
        rw [hcl]; rintro rfl; exact hold x b h1 hC3
    · rcases hlk x b hx with h1 | ⟨_, h1⟩ <;> rcases hlk y b hy with h2 | ⟨_, h2⟩
      · exact name_of_addr ok.apart (mem_of_lookup h1) (mem_of_lookup h2)
      · exact absurd (hnc x b h1).1 (hold y b h2)
      · exact absurd (hnc y b h2).1 (hold x b h1)
      · exact E.apart x y b h1 h2
    · refine ⟨relabelS_lookup (hown x hx) (by decide), ?_⟩
      obtain ⟨b, hb⟩ := Option.isSome_iff_exists.mp (cellsFrom_some scope.names (C + 1) [] (.inl (mem_of_lookup (hown x hx))))
      refine ⟨b, by rw [hcc, List.lookup_append, hb]; rfl, List.mem_cons_of_mem _ (List.mem_filterMap.mpr ⟨x, hx, hb⟩)⟩
  have hDm : D ∉ m := fun hm => g2.st.lt D hm hDn
  have hDF : NF F D := fun o hf hF => by have := g2.st.fz D o hF hf; rw [hDn] at this; cases this
  have hIs3 : s3.heap.get? I ≠ none := H.obj _ _ hit3
  have hDs3 : s3.heap.get? D ≠ none := ne_none hD3
  have hIC : ∀ b, b = I ∨ b = D → b ∉ C :: own'.filterMap (fun y => (cellsFrom (C + 1) scope.names []).lookup y) := fun b hb hm => by
    have := (hW' b hm).1
    rcases hb with e | e
    · rw [e] at this; exact hIs3 this
    · rw [e] at this; exact hDs3 this
  have hIm : I ∉ m := fun hm => S.lt I hm hI
  have hIF : NF F I := fun o hf hF => by have := S.fz I o hF hf; rw [hI] at this; cases this
  have hcne : ∀ b, (b = I ∨ b = D) → s3.heap.get? b ≠ none → ∀ x b', cenv.cells.lookup x = some b' → b' ≠ b := fun b hb hbs x b' hx e => by
    rcases hlk x b' hx with h1 | ⟨_, h1⟩
    · rw [e] at h1; exact hbs (hnc x b h1).1
    · obtain ⟨_, _, _, v0, o, ho, _⟩ := E.cells x b' h1
      rcases hb with q | q
      · rw [e, q, hI] at ho; cases ho
      · rw [e, q] at ho
        have := (g2.live D (ne_none ho))
        exact this hDn
  have hid : I ≠ D := by rintro rfl; exact hIn2 hDn
  have OI : Own X cenv (C :: own'.filterMap (fun y => (cellsFrom (C + 1) scope.names []).lookup y)) I F m := ⟨hIm, hIF, hIC I (.inl rfl), fun x b hx => hcne I (.inl rfl) hIs3 x b hx⟩
  have OD : Own X cenv (C :: own'.filterMap (fun y => (cellsFrom (C + 1) scope.names []).lookup y)) D F m := ⟨hDm, hDF, hIC D (.inr rfl), fun x b hx => hcne D (.inr rfl) hDs3 x b hx⟩
  have hWfresh : ∀ b ∈ I :: D :: C :: own'.filterMap (fun y => (cellsFrom (C + 1) scope.names []).lookup y), s.heap.get? b = none := fun b hb => by
    rcases List.mem_cons.mp hb with e | hb
    · rw [e]; exact hI
    · rcases List.mem_cons.mp hb with e | hb
      · rw [e]; exact none_of g2.live hDn
      · exact (hnew b (hW' b hb).1).1
  have hCW : C ∈ C :: own'.filterMap (fun y => (cellsFrom (C + 1) scope.names []).lookup y) := List.mem_cons_self
  show codeAny (model X.prog X.w) A (.compStart e 0 (.ref I) (.ref D) cenv) (RR (.ref D) C) s4
  generalize hWg : C :: own'.filterMap (fun y => (cellsFrom (C + 1) scope.names []).lookup y) = W' at EC OI OD hWfresh hCW
  exact K I It Mid D C cenv W' s4 H gs4 EC OI OD hid hit4 hD4 hWfresh hCW hcl

inductive CoreI (X : Wd) (c' : Cx) (cenv : Env) (W' : List Nat) (I D : Nat) (It : Nat → Heap → Prop) (len : Nat) (P : Nat → List PyData → Loc → List MO → Prop) (F0 : Fz) (m0 : List Nat) (s0 : Shared) (n : Nat) (s1 : Shared) : Prop
  | mk (i : Nat) (F1 : Fz) (m1 : List Nat) (loc1 : Loc) (σ1 : List MO) (acc : List PyData) (vs : List Value) (nn : Nat) : n = len - i → i ≤ len → XGo X (I :: D :: W') F0 m0 s0 F1 m1 σ1 s1 → En X.prog X.w c' cenv W' loc1 F1 m1 s1.heap → Own X cenv W' I F1 m1 → Own X cenv W' D F1 m1 →
      It i s1.heap → s1.heap.get? D = some (lstObj vs nn) → RdAll X.prog X.w F1 acc vs → P i acc loc1 σ1 → CoreI X c' cenv W' I D It len P F0 m0 s0 n s1
theorem comp_core {elt tgt iter : Expr} {ifs : List Expr} {scope : Scope} {pos : Pos} {A : Around} {env : Env} {W : List Nat} {F : Fz} {m : List Nat} {s : Shared} {u : Value} {a : AV} {xs : List AV} {src : List MO → Prop} {fvs own' : List Str}
    {Q : List PyData → List MO → Prop} {RR : Value → Addr → Result → Shared → Prop}
    (R : Room A k) (S : St X.prog X.w X.h0 F m σ s) (E : En X.prog X.w c env W loc F m s.heap) (ra : VR X.prog X.w F m a u) (hi : isrc X k tgt a xs src σ) (hlen : xs.length ≤ 1000)
    (hfree : ∀ p ∈ scope.names, p.2 = .free → (loc.lookup p.1).isSome = true ∧ c.sc.names.lookup p.1 ≠ some .local) (hkind : scope.kind = .function)
    (hnd : (scope.names.map (·.1)).Nodup) (hfv : ∀ x ∈ fvs, scope.names.lookup x = some .free) (hown : ∀ x ∈ own', scope.names.lookup x = some .cell)
    (h : cpW X ⟨relabelS scope c.sc, own'⟩ k tgt ifs elt src Q xs [] (sub fvs loc) σ)
    (hRR : ∀ D C s' F' m' σ' ds vs n mp, Go X.prog X.w X.h0 F m s F' m' σ' s' → s.heap.get? D = none → s.heap.get? C = none → D ≠ C → D ∉ m' → NF F' D → C ∉ m' → NF F' C → s'.heap.get? D = some (lstObj vs n) →
      RdAll X.prog X.w F' ds vs → ds.length ≤ xs.length → s'.heap.Ns C mp → Q ds σ' → RR (.ref D) C (.ok .next) s')
    (ht : ∀ it v, letOwnedTupleGo tgt it v = pure () := by intro _ _; rfl) :
    wpAny (model X.prog X.w) A (pyIter u) (fun it s₂ => wpAny (model X.prog X.w) A (newList []) (fun acc s₃ =>
      wpAny (model X.prog X.w) A (newFunctionEnv scope env.globals (clOf env.cells scope.names []) [] env.qual none .none (some env)) (fun cenv s₄ =>
        codeAny (model X.prog X.w) A (.compStart (.ListComp elt [⟨tgt, iter, ifs, 0⟩] scope pos) 0 it acc { cenv with scope := relabel scope env }) (RR acc cenv.locals) s₄) nof s₃) nof s₂) nof s := by
  refine comp_env (e := .ListComp elt [⟨tgt, iter, ifs, 0⟩] scope pos) R S E ra hi hfree hkind hnd hfv hown ?_
  intro I It Mid D C cenv W' s4 H gs4 EC OI OD hid hit4 hD4 hWfresh hCW hcl
  have hI : s.heap.get? I = none := hWfresh I List.mem_cons_self
  have hDn : s.heap.get? D = none := hWfresh D (List.mem_cons_of_mem _ List.mem_cons_self)
  have hDC : D ≠ C := fun e => OD.W (e ▸ hCW)
  have loop : codeAny (model X.prog X.w) A (.compLoop (.ListComp elt [⟨tgt, iter, ifs, 0⟩] scope pos) 0 (.ref I) (.ref D) cenv) (RR (.ref D) C) s4 := by
    refine codeAny_compLoop_tests (CoreI X ⟨relabelS scope c.sc, own'⟩ cenv W' I D It xs.length (fun i acc loc1 σ1 => acc.length ≤ i ∧ cpW X ⟨relabelS scope c.sc, own'⟩ k tgt ifs elt src Q (xs.drop i) acc loc1 σ1) F m s4) ?_
      xs.length ⟨0, F, m, _, σ, [], [], 0, rfl, Nat.zero_le _, XGo.refl gs4.st, EC, OI, OD, hit4, hD4, .nil, Nat.le_refl _, h⟩ (ht (.ref I))
    rintro n s5 ⟨i, F1, m1, loc1, σ1, acc, vs, nn, rfl, hi, g1, E1, O1, P1, hit1, hD1, hacc, hal, h1⟩
    have hF1 : ∀ b o, F b o → F1 b o := g1.fsub
    have hm1 : m <+: m1 := g1.mpre
    have wid : ∀ b ∈ [I], b ∈ I :: D :: W' := fun b hb => by rw [List.mem_singleton.mp hb]; exact List.mem_cons_self
    have widD : ∀ b ∈ [D], b ∈ I :: D :: W' := fun b hb => by rw [List.mem_singleton.mp hb]; exact List.mem_cons_of_mem _ List.mem_cons_self
    have widW : ∀ b ∈ W', b ∈ I :: D :: W' := fun b hb => List.mem_cons_of_mem _ (List.mem_cons_of_mem _ hb)
    cases hx : xs[i]? with
    | none =>
      have hil : i = xs.length := by
        have := List.getElem?_eq_none_iff.mp hx
        omega
      subst hil
      rw [List.drop_length] at h1
      refine xafter (H.done F1 m1 σ1 s5 hit1 g1.st hF1 hm1 O1.m O1.F h1.1) fun r s6 ⟨e, hk6, hr6⟩ => ?_
      subst e
      have E6 := E1.endI hk6 O1.W O1.cells
      have hD6 := hk6 D _ (fun h => hid h.symm) hD1
      obtain ⟨mp, hn6, _⟩ := E6.ns
      rw [hcl] at hn6
      have hp := E6.priv C hCW
      exact hRR D C s6 F1 m1 σ1 acc vs nn mp (((gs4.toX.trans g1).endI hk6 hr6 hI O1.m O1.F).close hWfresh) hDn (hWfresh C (widW C hCW)) hDC P1.m P1.F hp.1 hp.2.1 hD6 hacc hal hn6 h1.2
    | some x =>
      have hil : i < xs.length := (List.getElem?_eq_some_iff.mp hx).1
      have hd : xs.drop i = x :: xs.drop (i + 1) := by
        rw [List.drop_eq_getElem_cons hil]; congr 1; exact (List.getElem?_eq_some_iff.mp hx).2
      rw [hd] at h1
      refine xafter (H.item i F1 m1 σ1 s5 x hx hit1 g1.st hF1 hm1 O1.m O1.F h1.1) fun r s6 ⟨v, F2, e, g6, hmid6, r6⟩ => ?_
      subst e
      have hit6 := H.mid _ _ _ ht hmid6
      have E6 := E1.xgo g6 (fun b hb h => O1.W (by rw [← List.mem_singleton.mp h]; exact hb)) fun x b hb h => O1.cells x b hb (List.mem_singleton.mp h)
      have O6 := O1.x g6 (H.obj _ _ hit1)
      have P6 := P1.x g6 (ne_none hD1)
      have hD6 := g6.keep D _ P1.m (fun h => hid (List.mem_singleton.mp h).symm) hD1
      refine xafter (h1.2 A cenv W' F2 m1 s6 v R g6.st E6 r6) fun _ s7 ⟨F7, m7, l7, σ7, g7, E7, q7⟩ => ?_
      have O7 := O6.x g7 (H.obj _ _ hit6)
      have P7 := P6.x g7 (ne_none hD6)
      have hit7 := H.frame _ _ _ hit6 (g7.keepI O6.m O6.W)
      have hD7 := g7.keepI P6.m P6.W _ hD6
      refine ifs_ok q7 R g7.st E7 fun F8 m8 z σ8 s8 g8 q8 E8 => ?_
      have O8 := O7.x (g8.toX (W := [])) (H.obj _ _ hit7)
      have P8 := P7.x (g8.toX (W := [])) (ne_none hD7)
      have hit8 := H.frame _ _ _ hit7 ((g8.toX (W := [])).keepI O7.m (by simp))
      have hD8 := g8.keep D _ P7.m hD7
      have G8 : XGo X (I :: D :: W') F m s4 F8 m8 σ8 s8 := ((g1.trans (g6.widen wid)).trans (g7.widen widW)).trans g8.toX
      have hacc8 : RdAll X.prog X.w F8 acc vs := ((hacc.mono g6.fsub).mono g7.fsub).mono g8.fsub
      cases z with
      | false =>
        obtain ⟨l', hs, q8⟩ := q8
        exact ⟨xs.length - (i + 1), by omega, i + 1, F8, m8, l', σ8, acc, vs, nn, rfl, by omega, G8, E8.sub hs, O8, P8, hit8, hD8, hacc8, by omega, q8⟩
      | true =>
        refine ewp.use q8 R g8.st E8 fun F9 m9 y σ9 w9 s9 g9 r9 q9 E9 => ?_
        obtain ⟨d, l', e, hs, q9⟩ := q9
        subst e
        have O9 := O8.x (g9.toX (W := [])) (H.obj _ _ hit8)
        have P9 := P8.x (g9.toX (W := [])) (ne_none hD8)
        have hit9 := H.frame _ _ _ hit8 ((g9.toX (W := [])).keepI O8.m (by simp))
        have hD9 := g9.keep D _ P8.m hD8
        have hvl : vs.length ≤ 1000 := by rw [← hacc.length]; omega
        refine wpAny_list_append_plain (items := vs.toArray) ⟨nn, hD9⟩ (fun h10 hp10 hs10 => ?_) (by rw [sizeLine_eq, List.size_toArray]; omega)
        obtain ⟨n10, hD10⟩ := hp10
        have hD10' : h10.get? D = some (lstObj (vs ++ [w9]) n10) := by rw [hD10]; simp [lstObj]
        have g10 : XGo X [D] F9 m9 s9 F9 m9 σ9 { s9 with heap := h10 } := XGo.own1 (tk := s9.toks) g9.st P9.m P9.F hs10 (ne_none hD10)
        have E10 := E9.xgo g10 (fun b hb h => P9.W (by rw [← List.mem_singleton.mp h]; exact hb)) fun x b hb h => P9.cells x b hb (List.mem_singleton.mp h)
        have O10 := O9.x g10 (H.obj _ _ hit9)
        have P10 := P9.x g10 (ne_none hD9)
        have hit10 := H.frame _ _ _ hit9 (g10.keepI O9.m fun h => hid (List.mem_singleton.mp h))
        exact ⟨xs.length - (i + 1), by omega, i + 1, F9, m9, l', σ9, acc ++ [d], vs ++ [w9], n10, rfl, by omega, (G8.trans g9.toX).trans (g10.widen widD), E10.sub hs, O10, P10, hit10, hD10', (hacc8.mono g9.fsub).append (.cons r9 .nil), by simp; omega, q9⟩
  exact codeAny_compStart_list loop (wpAny_mono (H.self 0 s4 (fun it' s' => codeAny (model X.prog X.w) A (.compLoop (.ListComp elt [⟨tgt, iter, ifs, 0⟩] scope pos) 0 it' (.ref D) cenv) (RR (.ref D) C) s') hit4 loop) (fun _ _ h => h) fun _ _ e => e.elim)

theorem Go.priv {F F' : Fz} {m m' : List Nat} {σ' : List MO} {s s' : Shared} {C : Nat} {h' : Heap} (g : Go X.prog X.w X.h0 F m s F' m' σ' s') (h1 : s.heap.get? C = none) (h3 : C ∉ m') (h4 : NF F' C) (hs : Heap.SameBut C s'.heap h') :
    Go X.prog X.w X.h0 F m s F' m' σ' { s' with heap := h' } := by
  have hk : ∀ b o, b ≠ C → s'.heap.get? b = some o → h'.get? b = some o := fun b o hb e => (hs.2 b hb).trans e
  have hC : ∀ b, s.heap.get? b ≠ none → b ≠ C := fun b hb e => hb (e ▸ h1)
  refine ⟨g.fsub, g.mpre, fun b o hb e => hk b o (hC b (ne_none e)) (g.keep b o hb e), g.mnew, g.fnew, fun b hb => by show h'.get? b ≠ none; rw [hs.2 b (hC b hb)]; exact g.live b hb,
    g.st.move (tk := s'.toks) (fun b o hb => hk b o fun e => hb.elim (fun h => h3 (e ▸ h)) fun ⟨q, h1, h2⟩ => h4 q h1 (e ▸ h2)), g.tks, ?_⟩
  obtain ⟨t, e⟩ := g.rest
  exact ⟨t, by rw [e]⟩

structure CompOk (scope : Scope) (c : Cx) (loc : Loc) (fvs own' : List Str) : Prop where
  kind : scope.kind = .function
  nd : (scope.names.map (·.1)).Nodup
  locals : ∀ x ∈ scope.names, x.2 = .local → scope.names.lookup x.1 = some .local
  free : ∀ p ∈ scope.names, p.2 = .free → (loc.lookup p.1).isSome = true ∧ c.sc.names.lookup p.1 ≠ some .local
  fv : ∀ x ∈ fvs, scope.names.lookup x = some .free
  own : ∀ x ∈ own', scope.names.lookup x = some .cell

theorem CompOk.clos {scope : Scope} {fvs own' : List Str} (ok : CompOk scope c loc fvs own') {env : Env} {W : List Nat} {F : Fz} {m : List Nat} {h : Heap} (E : En X.prog X.w c env W loc F m h) : closureFor scope env = pure (clOf env.cells scope.names []) :=
  closure_eq fun p hp hk => by
    obtain ⟨h1, h2⟩ := ok.free p hp hk
    obtain ⟨v, hv⟩ := Option.isSome_iff_exists.mp h1
    obtain ⟨_, a', _, h3, _⟩ := E.cell p.1 v hv h2
    rw [h3]; rfl

theorem ewp_Comp {elt tgt iter : Expr} {ifs : List Expr} {scope : Scope} {pos : Pos} {Q : AV → List MO → Prop} (fvs own' : List Str) (ok : CompOk scope c loc fvs own')
    (h : ewp X c k iter (fun a σ1 => ∃ xs src, isrc X k tgt a xs src σ1 ∧ xs.length ≤ 1000 ∧ cpW X ⟨relabelS scope c.sc, own'⟩ k tgt ifs elt src (fun ds σ2 => Q (.dat (.list ds)) σ2) xs [] (sub fvs loc) σ1) loc σ)
    (ht : ∀ it v, letOwnedTupleGo tgt it v = pure () := by intro _ _; rfl) (hs : ∀ env x, foldedSetIterable iter env x = pure x := by intro _ _; rfl) :
    ewp X c k (.ListComp elt [⟨tgt, iter, ifs, 0⟩] scope pos) Q loc σ := fun A env W F m s R S E => by
  show wpAny _ A (eval (.ListComp elt [⟨tgt, iter, ifs, 0⟩] scope pos) env) _ nof s
  rw [eval_ListComp]
  refine wpAny_comprehension_free (use := none) rfl (hs env) (ok.clos E) ok.kind ok.locals (h.use R S E fun F1 m1 a σ1 u s1 g1 ra ⟨xs, src, hi, hl, hc⟩ E1 => ?_)
  refine comp_core (RR := fun acc C => compPost (model X.prog X.w) A nof none (GP X.prog X.w X.h0 (VR X.prog X.w) Q F m s) acc C) R g1.st E1 ra hi hl ok.free ok.kind ok.nd ok.fv ok.own hc ?_ ht
  intro D C s' F' m' σ' ds vs n mp g h1 h2 h3 h4 h5 h6 h7 h8 h9 h10 hn q
  refine ⟨mp, hn, fun h' hs' => ?_⟩
  have g' := (g.priv h2 h6 h7 hs').addF (D := D) (o := lstObj vs n) h1 ((hs'.2 D h3).trans h8) h4
  exact ⟨_, m', .dat (.list ds), σ', g1.trans g', .list (.inr ⟨rfl, rfl⟩) (h9.mono fun _ _ h => .inl h), q⟩

theorem En.priv1 {env : Env} {W : List Nat} {F : Fz} {m : List Nat} {h h' : Heap} {C : Nat} (e : En X.prog X.w c env W loc F m h) (hs : Heap.SameBut C h h') (hW : C ∉ W) (hc : ∀ x b, env.cells.lookup x = some b → b ≠ C) : En X.prog X.w c env W loc F m h' where
  scope := e.scope
  kind := e.kind
  glob := e.glob
  bns := e.bns
  locW := e.locW
  priv := fun b hb => by
    obtain ⟨h1, h2, h3⟩ := e.priv b hb
    exact ⟨h1, h2, by rw [hs.2 b (fun q => hW (q ▸ hb))]; exact h3⟩
  ns := by
    obtain ⟨mp, hn, hv⟩ := e.ns
    exact ⟨mp, hn.sameBut hs (fun q => hW (q ▸ e.locW)), hv⟩
  cell := fun x v h1 h2 => by
    obtain ⟨h3, a, u, h4, h5, h7⟩ := e.cell x v h1 h2
    exact ⟨h3, a, u, h4, h5.sameBut hs (hc x a h4), h7⟩
  cells := fun x a ha => by
    obtain ⟨h1, h2, h3, v0, h4⟩ := e.cells x a ha
    exact ⟨h1, h2, h3, v0, h4.sameBut hs (hc x a ha)⟩
  apart := e.apart
  own := e.own
theorem XGo.priv1 {W : List Nat} {F F' : Fz} {m m' : List Nat} {σ' : List MO} {s s' : Shared} {C : Nat} {h' : Heap} (g : XGo X W F m s F' m' σ' s') (h1 : s.heap.get? C = none) (h3 : C ∉ m') (h4 : NF F' C) (hs : Heap.SameBut C s'.heap h') :
    XGo X W F m s F' m' σ' { s' with heap := h' } := by
  have hk : ∀ b o, b ≠ C → s'.heap.get? b = some o → h'.get? b = some o := fun b o hb e => (hs.2 b hb).trans e
  have hC : ∀ b, s.heap.get? b ≠ none → b ≠ C := fun b hb e => hb (e ▸ h1)
  refine ⟨g.fsub, g.mpre, fun b o hb hw e => hk b o (hC b (ne_none e)) (g.keep b o hb hw e), g.mnew, g.fnew, fun b hb => by show h'.get? b ≠ none; rw [hs.2 b (hC b hb)]; exact g.live b hb,
    g.st.move (tk := s'.toks) (fun b o hb => hk b o fun e => hb.elim (fun h => h3 (e ▸ h)) fun ⟨q, h1, h2⟩ => h4 q h1 (e ▸ h2)), g.tks, ?_⟩
  obtain ⟨t, e⟩ := g.rest
  exact ⟨t, by rw [e]⟩

theorem swp_Assign_Comp {elt tgt iter : Expr} {ifs : List Expr} {scope : Scope} {x : Str} {px pos spos : Pos} {Q : AFl → Loc → List MO → Prop} (fvs own' : List Str) (mu : Bool) (ok : CompOk scope c loc fvs own') (hx : c.sc.names.lookup x = some .local)
    (hsw : (px.line == pos.line && !(scope.names.any fun (n, k) => n == x && (k == .local || k == .cell))) = true)
    (h : ewp X c k iter (fun a σ1 => ∃ xs src, isrc X k tgt a xs src σ1 ∧ xs.length ≤ 1000 ∧ cpW X ⟨relabelS scope c.sc, own'⟩ k tgt ifs elt src (fun ds σ2 => if mu then Q .next (put x (.mr σ2.length) loc) (σ2 ++ [.lst ds]) else Q .next (put x (.dat (.list ds)) loc) σ2) xs [] (sub fvs loc) σ1) loc σ)
    (ht : ∀ it v, letOwnedTupleGo tgt it v = pure () := by intro _ _; rfl) (hs : ∀ env x, foldedSetIterable iter env x = pure x := by intro _ _; rfl) :
    swp X c k (.Assign [.Name x px] (.ListComp elt [⟨tgt, iter, ifs, 0⟩] scope pos) spos) Q loc σ := fun A env W F m s R S E => by
  have hsw' : swapsWith (.ListComp elt [⟨tgt, iter, ifs, 0⟩] scope pos) (some (.Name x px)) spos.line env = pure true := by
    show (pure (env.blockKind == .function && env.kindOf x == some .local && px.line == pos.line && !(scope.names.any fun (n, k) => n == x && (k == .local || k == .cell))) : Sem Bool) = _
    have h1 : (env.blockKind == ScopeKind.function) = true := by unfold Env.blockKind; rw [E.ek]; rfl
    have h2 : (env.kindOf x == some NameKind.local) = true := by rw [E.kindOf x, hx]; rfl
    rw [h1, h2, Bool.true_and, Bool.true_and, hsw]
  rw [exec_Assign_Name_used _ _ _ _ hsw']
  refine wpAny_bind (wpAny_standAt (wpAny_bind ?_))
  show wpAny _ A (do let _ ← comprehension (.ListComp elt [⟨tgt, iter, ifs, 0⟩] scope pos) scope env (firstIterPos [⟨tgt, iter, ifs, 0⟩] pos) (newList []) (firstAsync [⟨tgt, iter, ifs, 0⟩]) (firstIter [⟨tgt, iter, ifs, 0⟩] env) (some (assign (.Name x px) env))) _ _ s
  refine wpAny_bind (wpAny_comprehension_free (use := some (assign (.Name x px) env)) rfl (hs env) (ok.clos E) ok.kind ok.locals (h.use R S E fun F1 m1 a σ1 u s1 g1 ra ⟨xs, src, hi, hl, hc⟩ E1 => ?_))
  refine comp_core (RR := fun acc C => compPost (model X.prog X.w) A nof (some (assign (.Name x px) env)) (fun _ s' => wpAny (model X.prog X.w) A (pure ()) (fun _ s' => wpAny (model X.prog X.w) A (pure Flow.next) (XPost X c env W Q F m s) nof s') nof s') acc C) R g1.st E1 ra hi hl ok.free ok.kind ok.nd ok.fv ok.own hc ?_ ht
  intro D C s' F' m' σ' ds vs n mp g h1 h2 h3 h4 h5 h6 h7 h8 h9 h10 hn q
  show wpAny _ A (assign (.Name x px) env (.ref D)) _ _ s'
  have hCW : C ∉ W := fun hW => (E1.priv C hW).2.2 h2
  have hCc : ∀ y b, env.cells.lookup y = some b → b ≠ C := fun y b hy e => by
    obtain ⟨_, _, _, v0, o, ho, _⟩ := E1.cells y b hy
    rw [e, h2] at ho; cases ho
  have fin : ∀ F2 m2 (a : AV) σ2, Go X.prog X.w X.h0 F1 m1 s1 F2 m2 σ2 s' → VR X.prog X.w F2 m2 a (.ref D) → C ∉ m2 → NF F2 C → Q .next (put x a loc) σ2 →
      wpAny (model X.prog X.w) A (assign (.Name x px) env (.ref D)) (fun _ s'' => ∃ mp, s''.heap.Ns C mp ∧ ∀ h', Heap.SameBut C s''.heap h' → wpAny (model X.prog X.w) A (pure ()) (fun _ s' => wpAny (model X.prog X.w) A (pure Flow.next) (XPost X c env W Q F m s) nof s') nof { s'' with heap := h' }) nof s' := by
    intro F2 m2 a σ2 g' r hm hF q'
    refine wpAny_assign_Name (store_ok g'.st (E1.go g') r (.inl hx) fun s3 g3 E3 => ⟨mp, ?_, fun h' hs' => ?_⟩)
    · exact hn.at' fun o e => g3.keep C o hm hCW e
    · have G := (g'.toX (W := W)).trans g3
      exact wpAny_pure (wpAny_pure ⟨F2, m2, .next, _, σ2, g1.toX.trans (G.priv1 h2 hm hF hs'), E3.priv1 hs' hCW hCc, .next, q'⟩)
  cases mu with
  | false => exact fin _ m' (.dat (.list ds)) σ' (g.addF (D := D) (o := lstObj vs n) h1 h8 h4) (.list (.inr ⟨rfl, rfl⟩) (h9.mono fun _ _ h => .inl h)) h6 (fun o hf h => h.elim (h7 o hf) fun h => h3 h.1.symm) (by simpa using q)
  | true =>
    refine fin F' (m' ++ [D]) (.mr σ'.length) (σ' ++ [MO.lst ds]) (g.addM h1 (.lst h8 h9) (ne_none h8) h4 h5) ⟨D, rfl, ?_⟩ (fun hm => (List.mem_append.mp hm).elim h6 fun e => h3 (List.mem_singleton.mp e).symm) h7 (by simpa using q)
    rw [← g.st.len]; simp
end
end Mine
end

section -- PgX
open PySem PySem.W PyProof.Rows PySem.Calls
set_option Elab.async false
namespace Mine
set_option autoImplicit false
set_option linter.unusedVariables false

section
variable {prog : Program} {w : World} {A : Around} {E : Value → Shared → Prop} {s : Shared}

theorem next_key {it d : Addr} {i ep n : Nat} {od : Obj} {es : Array DictEntry} {Q : Option Value → Shared → Prop} (hit : s.heap.IsKeyIter it d i n ep)
    (hod : s.heap.get? d = some od) (hdd : od.data = .dict es ep) (hsz : es.size = n) (hlt' : i < es.size)
    (hQ : ∀ h', h'.IsKeyIter it d (i + 1) n ep → Heap.SameBut it s.heap h' → Q (some es[i].key) { s with heap := h' }) :
    wpAny (model prog w) A (pyNext (.ref it)) Q E s := by
  obtain ⟨o, ho, hc, hd⟩ := id hit
  unfold pyNext
  refine wpAny_bind (wpAny_attempt (wpAny_callSpecial?_slot (name := Str.ofString "__next__") hit.typeIs PySem.F.slot_dict_keyiterator_next
    (wpAny_call_entry PySem.F.slot_dict_keyiterator_next hit.typeIs PySem.F.entry_dict_keyiterator_next ?_ (PySem.F.args_dict_keyiterator_next_1 _))))
  refine wpAny_bind (wpAny_pure ?_)
  refine wpAny_bind ?_
  refine wpAny_bind ?_
  first | refine wpAny_bind (wpAny_typeNameOfWhole_keyiter hit.typeIs (wpAny_pure ?_)) | refine wpAny_bind (wpAny_typeNameOf_keyiter hit.typeIs (wpAny_pure ?_))
  refine wpAny_bind (wpAny_fieldsOf ho hd ?_)
  have hown : Builtin.Dict_items.ownsTuple "dict_keyiterator" = false := by decide
  simp only [hown, Bool.false_eq_true, if_false]
  show wpAny _ _ (if (Value.ref d == Value.none) = true then _ else _) _ _ s
  rw [if_neg (show ¬ ((Value.ref d == Value.none) = true) from Bool.false_ne_true)]
  refine wpAny_bind (wpAny_pure ?_)
  refine wpAny_bind (wpAny_dictEntries hod hdd ?_)
  rw [if_neg (by rw [hsz]; simp)]
  refine wpAny_bind (wpAny_pure ?_)
  refine wpAny_bind (wpAny_dictEpoch hod hdd ?_)
  rw [if_neg (by simp)]
  refine wpAny_pure ?_
  simp only [show ¬ ((i : Int) < 0) from by omega, if_false, Int.toNat_natCast, Array.getElem?_eq_getElem hlt']
  refine wpAny_bind ?_
  first | refine wpAny_bind (wpAny_typeNameOfWhole_keyiter hit.typeIs (wpAny_pure ?_)) | refine wpAny_bind (wpAny_typeNameOf_keyiter hit.typeIs (wpAny_pure ?_))
  refine wpAny_bind (wpAny_isOneOf_keyiter hit.typeIs ?_)
  show wpAny _ _ (setField (.ref it) 1 (rawInt ((i : Int) + 1)) >>= _) _ _ s
  refine wpAny_bind (wpAny_setField ho hd (by simp) ?_)
  have hit' : (s.heap.update it (Obj.mapFields (·.setIfInBounds 1 (rawInt ((i : Int) + 1))))).IsKeyIter it d (i + 1) n ep :=
    ⟨_, Heap.get?_update_self _ ho (Obj.isFreed_of_fields (Obj.data_mapFields hd _)), (Obj.cls_mapFields ..).trans hc, by rw [Obj.data_mapFields hd]; simp [rawInt]⟩
  refine wpAny_bind (wpAny_holding ?_)
  refine wpAny_bind (wpAny_isOneOf_keyiter (s := { s with heap := s.heap.update it (Obj.mapFields (·.setIfInBounds 1 (rawInt ((i : Int) + 1)))) }) hit'.typeIs ?_)
  show wpAny _ _ (pure es[i].key) _ _ _
  exact wpAny_pure (wpAny_pure ⟨_, rfl, wpAny_pure (hQ _ hit' (Heap.SameBut.update ..))⟩)

theorem next_item {it d : Addr} {i ep n : Nat} {od : Obj} {es : Array DictEntry} {ok ov : Value} {Q : Option Value → Shared → Prop} (hit : IsItemIter s.heap it d i n ep ok ov)
    (hod : s.heap.get? d = some od) (hdd : od.data = .dict es ep) (hsz : es.size = n) (hlt' : i < es.size)
    (hQ : ∀ h', IsItemIterOut h' it d (i + 1) n ep es[i].key es[i].val s.heap.objs.size →
      h'.get? s.heap.objs.size = some { cls := .type "tuple", data := .seq #[es[i].key, es[i].val] } → h'.objs.size = s.heap.objs.size + 1 →
      (∀ b o, b ≠ it → s.heap.get? b = some o → h'.get? b = some o) → Q (some (.ref s.heap.objs.size)) { s with heap := h' }) :
    wpAny (model prog w) A (pyNext (.ref it)) Q E s := by
  obtain ⟨hp, g, dr, tk, os⟩ := s
  have hT : Shared.TypeIs ⟨hp, g, dr, tk, os⟩ (.ref it) "dict_itemiterator" := ⟨_, hit, rfl⟩
  unfold pyNext
  refine wpAny_bind (wpAny_attempt (wpAny_callSpecial?_slot (name := Str.ofString "__next__") hT PySem.F.slot_dict_itemiterator_next
    (wpAny_call_entry PySem.F.slot_dict_itemiterator_next hT PySem.F.entry_dict_itemiterator_next ?_ (PySem.F.args_dict_itemiterator_next_1 _))))
  refine wpAny_bind (wpAny_pure ?_)
  refine wpAny_bind ?_
  refine wpAny_bind ?_
  first | refine wpAny_bind (wpAny_typeNameOfWhole_itemiter hT (wpAny_pure ?_)) | refine wpAny_bind (wpAny_typeNameOf_itemiter hT (wpAny_pure ?_))
  refine wpAny_bind (wpAny_fieldsOf hit rfl ?_)
  have hown : Builtin.Dict_items.ownsTuple "dict_itemiterator" = true := by decide
  simp only [hown, if_true]
  show wpAny _ _ (if (Value.ref d == Value.none) = true then _ else _) _ _ _
  rw [if_neg (show ¬ ((Value.ref d == Value.none) = true) from Bool.false_ne_true)]
  refine wpAny_bind (wpAny_pure ?_)
  refine wpAny_bind (wpAny_dictEntries hod hdd ?_)
  rw [if_neg (by rw [hsz]; simp)]
  refine wpAny_bind (wpAny_pure ?_)
  refine wpAny_bind (wpAny_dictEpoch hod hdd ?_)
  rw [if_neg (by simp)]
  refine wpAny_pure ?_
  simp only [show ¬ ((i : Int) < 0) from by omega, if_false, Int.toNat_natCast, Array.getElem?_eq_getElem hlt']
  refine wpAny_bind ?_
  first | refine wpAny_bind (wpAny_typeNameOfWhole_itemiter hT (wpAny_pure ?_)) | refine wpAny_bind (wpAny_typeNameOf_itemiter hT (wpAny_pure ?_))
  refine wpAny_bind (wpAny_isOneOf_itemiter hT ?_)
  show wpAny _ _ (setField (.ref it) 3 (rawInt ((i : Int) + 1)) >>= _) _ _ ⟨hp, g, dr, tk, os⟩
  refine wpAny_bind (wpAny_setField_rec hit (by simp) fun h₁ he₁ hs₁ => ?_)
  replace hs₁ : Heap.SameBut it hp h₁ := hs₁
  replace he₁ : IsItemIter h₁ it d (i + 1) n ep ok ov := by
    have e : ((i + 1 : Nat) : Int) = (i : Int) + 1 := by omega
    unfold IsItemIter; rw [e]; simpa [rawInt] using he₁
  have hT₁ : Shared.TypeIs ⟨h₁, g, dr, tk, os⟩ (.ref it) "dict_itemiterator" := ⟨_, he₁, rfl⟩
  refine wpAny_bind (wpAny_holding ?_)
  refine wpAny_bind (wpAny_isOneOf_itemiter hT₁ ?_)
  refine wpAny_bind (wpAny_isOneOf_itemiter hT₁ ?_)
  show wpAny _ _ (Builtin.Dict_items.pairFromOwner (.ref it) 6 es[i].key es[i].val) _ _ ⟨h₁, g, dr, tk, os⟩
  unfold Builtin.Dict_items.pairFromOwner
  refine wpAny_bind (wpAny_newTuple ?_)
  have he₂ : IsItemIter (h₁.push { cls := .type "tuple", data := .seq #[es[i].key, es[i].val] }) it d (i + 1) n ep ok ov := Heap.get?_push_of_some _ he₁
  generalize hh₂ : h₁.push { cls := .type "tuple", data := .seq #[es[i].key, es[i].val] } = h₂ at he₂
  have hz₁ : h₁.objs.size = hp.objs.size := hs₁.1
  have hil : it < hp.objs.size := Heap.lt_size hit
  have ht₂ : h₂.get? hp.objs.size = some { cls := .type "tuple", data := .seq #[es[i].key, es[i].val] } := by rw [← hh₂, ← hz₁]; exact Heap.get?_push_size _ rfl
  have hz₂ : h₂.objs.size = hp.objs.size + 1 := by rw [← hh₂, Heap.size_push, hz₁]
  have hk₂ : ∀ b o, b ≠ it → hp.get? b = some o → h₂.get? b = some o := fun b o hb e => by rw [← hh₂]; exact Heap.get?_push_of_some _ (hs₁.extBut b o hb e)
  show wpAny _ _ (Builtin.Dict_items.ownedTupleIsFree (.ref it) >>= _) _ _ ⟨h₂, g, dr, tk, os⟩
  rw [hz₁]
  clear hh₂ he₁ hs₁ hT₁ hz₁ h₁
  refine wpAny_bind ?_
  unfold Builtin.Dict_items.ownedTupleIsFree
  refine wpAny_bind (wpAny_field he₂ rfl (x := .none) rfl (wpAny_pure ?_))
  simp only [if_true]
  refine wpAny_bind (wpAny_field he₂ rfl (x := ok) rfl ?_)
  refine wpAny_bind (wpAny_field he₂ rfl (x := ov) rfl ?_)
  refine wpAny_bind (wpAny_setField_rec he₂ (by simp) fun h₃ he₃ hs₃ => ?_)
  replace hs₃ : Heap.SameBut it h₂ h₃ := hs₃
  replace he₃ : IsItemIter h₃ it d (i + 1) n ep es[i].key ov := he₃
  refine wpAny_bind (wpAny_setField_rec he₃ (by simp) fun h₄ he₄ hs₄ => ?_)
  replace hs₄ : Heap.SameBut it h₃ h₄ := hs₄
  replace he₄ : IsItemIter h₄ it d (i + 1) n ep es[i].key es[i].val := he₄
  refine wpAny_bind (wpAny_setField_rec he₄ (by simp) fun h₅ he₅ hs₅ => ?_)
  replace hs₅ : Heap.SameBut it h₄ h₅ := hs₅
  replace he₅ : IsItemIterOut h₅ it d (i + 1) n ep es[i].key es[i].val hp.objs.size := he₅
  refine wpAny_bind (wpAny_setField_rec he₅ (by simp) fun h₆ he₆ hs₆ => ?_)
  replace hs₆ : Heap.SameBut it h₅ h₆ := hs₆
  replace he₆ : IsItemIterOut h₆ it d (i + 1) n ep es[i].key es[i].val hp.objs.size := he₆
  refine wpAny_bind (wpAny_letGo (wpAny_pure (wpAny_pure ⟨_, rfl, wpAny_pure (hQ h₆ he₆ ?_ ?_ ?_)⟩)))
  · exact hs₆.extBut _ _ (Nat.ne_of_gt hil) (hs₅.extBut _ _ (Nat.ne_of_gt hil) (hs₄.extBut _ _ (Nat.ne_of_gt hil) (hs₃.extBut _ _ (Nat.ne_of_gt hil) ht₂)))
  · show h₆.objs.size = hp.objs.size + 1
    rw [hs₆.1, hs₅.1, hs₄.1, hs₃.1, hz₂]
  · exact fun b o hb e => hs₆.extBut b o hb (hs₅.extBut b o hb (hs₄.extBut b o hb (hs₃.extBut b o hb (hk₂ b o hb e))))

theorem DictO.nf {o : Obj} {kvs : List (Str × Value)} {ep : Nat} {keys : List Value} (x : DictO prog w o kvs ep keys) : o.isFreed = false := let ⟨_, _, h, _⟩ := x; Obj.isFreed_of_dict h
theorem DictO.at {o : Obj} {kvs : List (Str × Value)} {ep : Nat} {keys : List Value} {h : Heap} {d : Nat} (x : DictO prog w o kvs ep keys) (hd : h.get? d = some o) : h.DictAt (strKind prog w) d kvs ep :=
  let ⟨h1, es, h2, h3, h4, h5, _⟩ := x; ⟨o, es, hd, h1, h2, h3, h4, h5⟩

noncomputable def keyput (kvs : List (Str × Value)) (keys : List Value) (x : Str) (key : Value) : List Value := if kvs.any (fun kv => kv.1 = x) then keys else keys ++ [key]

theorem set_pairs {d : Addr} {o : Obj} {ep : Nat} {kvs : List (Str × Value)} {keys : List Value} {x : Str} {key v : Value} {Q : Unit → Shared → Prop} (hkey : (strKind prog w).is x key = true)
    (ho : s.heap.get? d = some o) (hm : DictO prog w o kvs ep keys) (hsz : kvs.length ≤ 1000)
    (hQ : ∀ h' o' ep', h'.get? d = some o' → DictO prog w o' (stored kvs x v) ep' (keyput kvs keys x key) → Heap.SameBut d s.heap h' → Q () { s with heap := h', toks := s.toks + 1 }) :
    wpAny (model prog w) A (dictSet d key v) Q E s := by
  obtain ⟨hc, es, hd, hk, hp, hn, hkk⟩ := hm
  have hes : es.size ≤ sizeLine := by
    have e1 := hp.length
    have e2 : es.toList.length = es.size := by simp
    rw [sizeLine_eq]; omega
  unfold dictSet
  try with_reducible refine wpAny_holding ?_
  refine wpAny_bind ((strKind prog w).pyHash hkey ?_)
  unfold dictSetHashed
  try with_reducible refine wpAny_holding ?_
  refine wpAny_bind (wpAny_dictFind_of (s := { s with toks := s.toks + 1 }) hkey ho hd hk ?_)
  have hidx : (es.findIdx? fun e => (strKind prog w).is x e.key) = kvs.findIdx? fun kv => decide (kv.1 = x) := by
    rw [← hp.findIdx x]; obtain ⟨l⟩ := es; simp
  cases hi : es.findIdx? fun e => (strKind prog w).is x e.key with
  | some i =>
    refine wpAny_bind (wpAny_rule (wpAny_bind (wpAny_updateDict (s := { s with toks := s.toks + 1 }) ho hd (wpAny_point (hQ _ _ ep (Heap.get?_update_self _ ho (Obj.isFreed_of_dict (Obj.data_mapDict hd _)))
      ⟨hc.mapDict _, _, Obj.data_mapDict hd _, hk.modify _ _, ?_, ?_, ?_⟩ (Heap.SameBut.update ..))))))
    · rw [stored, if_pos (any_of_findIdx_some (hidx ▸ hi))]
      have hl : (es.toList.findIdx? fun e => (strKind prog w).is x e.key) = some i := by rw [← hi]; obtain ⟨l⟩ := es; simp
      have := hp.modify hn hl v
      obtain ⟨l⟩ := es
      simpa using this
    · rw [stored, if_pos (any_of_findIdx_some (hidx ▸ hi)), keys_map_store]; exact hn
    · rw [keyput, if_pos (any_of_findIdx_some (hidx ▸ hi)), ← hkk]
      obtain ⟨l⟩ := es
      simp only [List.modify_toArray]
      clear hi hes hidx hp hk hd hkk
      induction l generalizing i with
      | nil => simp
      | cons y l ih => cases i <;> simp_all
  | none =>
    have hnot : x ∉ kvs.map (·.1) := not_mem_of_findIdx_none (hidx ▸ hi)
    have hany : ¬ (kvs.any fun kv => decide (kv.1 = x)) = true := by
      rw [List.any_eq_true]; rintro ⟨kv, hkv, he⟩
      exact hnot (List.mem_map.mpr ⟨kv, hkv, of_decide_eq_true he⟩)
    refine wpAny_bind (wpAny_rule (wpAny_updateDictKeys (hz := hes) (s := { s with toks := s.toks + 1 }) ho hd (hQ _ _ (ep + 1) (Heap.get?_update_self _ ho (Obj.isFreed_of_dict (Obj.data_mapDictKeys hd _)))
      ⟨hc.mapDictKeys _, _, Obj.data_mapDictKeys hd _, hk.push hkey _, ?_, ?_, ?_⟩ (Heap.SameBut.update ..))))
    · rw [stored, if_neg hany]
      have := hp.append hkey ((strKind prog w).hash x) v
      obtain ⟨l⟩ := es
      simpa using this
    · rw [stored, if_neg hany, List.map_append, List.nodup_append]
      refine ⟨hn, by simp, ?_⟩
      intro a ha b hb
      simp only [List.map_cons, List.map_nil, List.mem_singleton] at hb
      subst hb
      exact fun e => hnot (e ▸ ha)
    · rw [keyput, if_neg hany, ← hkk]; simp

theorem setItem_pairs {d : Addr} {o : Obj} {ep : Nat} {kvs : List (Str × Value)} {keys : List Value} {x : Str} {key v : Value} {Q : Unit → Shared → Prop} (hkey : (strKind prog w).is x key = true)
    (ho : s.heap.get? d = some o) (hm : DictO prog w o kvs ep keys) (hsz : kvs.length ≤ 1000)
    (hQ : ∀ h' o' ep', h'.get? d = some o' → DictO prog w o' (stored kvs x v) ep' (keyput kvs keys x key) → Heap.SameBut d s.heap h' → Q () { s with heap := h', toks := s.toks + 1 }) :
    wpAny (model prog w) A (setItem (.ref d) key v) Q E s := by
  have hT : s.TypeIs (.ref d) "dict" := (hm.at ho).dictOf.typeIs
  unfold setItem
  try with_reducible refine wpAny_holding ?_
  refine wpAny_bind (wpAny_sequenceKey hT (by decide) ?_)
  refine wpAny_bind (wpAny_callSpecial?_slot (name := Str.ofString "__setitem__") hT slot_dict_setitem
    (wpAny_call_entry slot_dict_setitem hT entry_dict_setitem ?_ (args_dict_setitem _ _ _)))
  show wpAny _ _ (Builtin.Dict.notOrdered "__setitem__" ⟨[.ref d, key, v], []⟩ >>= _) _ _ s
  refine wpAny_bind (wpAny_notOrdered_dict hT ?_)
  show wpAny _ _ (dictSet d key v >>= _) _ _ s
  exact wpAny_bind (set_pairs hkey ho hm hsz fun h' o' ep' h1 h2 h3 => wpAny_pure ⟨.none, rfl, wpAny_pure (hQ h' o' ep' h1 h2 h3)⟩)
end
end Mine
end

section -- PgH
open PySem PySem.W PyProof.Rows PySem.Calls
set_option Elab.async false
namespace Mine
set_option autoImplicit false
set_option linter.unusedVariables false

section
variable {X : Wd} {A : Around} {s : Shared}

theorem own_plain {t : Expr} {I : Nat} {v : Value} {o : Obj} {n : String} {Q : Unit → Shared → Prop} {Er : Value → Shared → Prop} (ho : s.heap.get? I = some o) (hc : o.cls = .type n)
    (hn : ["enumerate", "zip", "dict_itemiterator", "dict_reverseitemiterator", "odict_iterator", "itertools.zip_longest", "itertools.pairwise"].contains n = false) (q : Q () s) :
    wpAny (model X.prog X.w) A (letOwnedTupleGo t (.ref I) v) Q Er s := by
  have key : ∀ a, wpAny (model X.prog X.w) A (do
      let o ← load I
      match o.cls, o.data with
      | .type n, .fields vs =>
        if ["enumerate", "zip", "dict_itemiterator", "dict_reverseitemiterator", "odict_iterator", "itertools.zip_longest", "itertools.pairwise"].contains n && vs[0]? == some (rawInt a) then
          rule "for.unpacks-the-owned-tuple"
          updateField I 0 .none
      | _, _ => pure () : Sem Unit) Q Er s := fun a => by
    refine wpAny_bind (wpAny_load ho ?_)
    rw [hc]
    cases o.data with
    | fields vs =>
      show wpAny _ _ (if (["enumerate", "zip", "dict_itemiterator", "dict_reverseitemiterator", "odict_iterator", "itertools.zip_longest", "itertools.pairwise"].contains n && vs[0]? == some (rawInt a)) = true then _ else _) _ _ _
      rw [hn, Bool.false_and, if_neg (by simp)]
      exact wpAny_pure q
    | _ => exact wpAny_pure q
  cases t with
  | Tuple elts x pos =>
    cases v with
    | ref a => exact key a
    | _ => exact wpAny_pure q
  | List elts pos =>
    cases v with
    | ref a => exact key a
    | _ => exact wpAny_pure q
  | _ => exact wpAny_pure q

theorem push_some {h : Heap} {o : Obj} : ∀ b q, h.get? b = some q → (h.push o).get? b = some q := fun b q e => Heap.get?_push_of_some o e

theorem isrc_list {k : Nat} {t : Expr} {ds : List PyData} {σ : List MO} : isrc X k t (.dat (.list ds)) (ds.map .dat) (fun _ => True) σ := fun A F m s u R S ra => by
  cases ra with
  | @list l vs n _ hF hr =>
  refine wpAny_pyIter_list (items := vs.toArray) ⟨_, S.fz _ _ hF rfl, rfl, n, rfl⟩ ?_
  refine ⟨s.heap.objs.size, fun i h => h.IsListIter s.heap.objs.size l i, fun i _ h => h.IsListIter s.heap.objs.size l i, rfl, Go.grow (tk := s.toks) S push_some, fresh_size _, ⟨_, Heap.get?_push_size _ rfl, rfl, rfl⟩, ?_⟩
  have hne : ∀ F' : Fz, (∀ b o, F b o → F' b o) → NF F' s.heap.objs.size → l ≠ s.heap.objs.size := fun F' h1 h2 e => h2 _ rfl (e ▸ h1 _ _ hF)
  exact {
    frame := fun i h h' x hk => let ⟨o, ho, r⟩ := x; ⟨o, hk o ho, r⟩
    obj := fun i h x => let ⟨o, ho, r⟩ := x; ne_none ho
    objM := fun i _ h x => let ⟨o, ho, r⟩ := x; ne_none ho
    mid := fun _ _ _ _ h => h
    item := fun i F' m' σ' s' x hx hit S' hs hm hIm hIF _ => by
      rw [List.getElem?_map] at hx
      obtain ⟨d, hd, rfl⟩ := Option.map_eq_some_iff.mp hx
      obtain ⟨v, hv, rv⟩ := hr.get hd
      refine wpAny_pyNext_list_item hit (items := vs.toArray) ⟨_, S'.fz _ _ (hs _ _ hF) rfl, rfl, n, rfl⟩ (x := v) (by simpa using hv) fun h' hit' hs' => ?_
      obtain ⟨o, ho, _⟩ := id hit'
      exact ⟨v, F', rfl, XGo.own1 (tk := s'.toks) S' hIm hIF hs' (ne_none ho), hit', rv.mono hs⟩
    done := fun F' m' σ' s' hit S' hs hm hIm hIF _ => by
      refine wpAny_pyNext_list_end R.handled hit (items := vs.toArray) ⟨_, S'.fz _ _ (hs _ _ hF) rfl, rfl, n, rfl⟩ (by simp [hr.length]) fun h' he => ?_
      exact ⟨rfl, fun b o hb e => he b o hb e, _, Nat.le_refl _, rfl⟩
    own := fun i F' m' σ' s' v hit S' hIm hIF => by
      obtain ⟨o, ho, hc, _⟩ := id hit
      exact own_plain ho hc (by decide) ⟨XGo.refl S', hit⟩
    self := fun i s' Q hit q => wpAny_pyIter_listiter hit q }

theorem isrc_mr {k : Nat} {t : Expr} {i₀ : Nat} {ds : List PyData} {σ : List MO} (hσ : σ[i₀]? = some (.lst ds)) : isrc X k t (.mr i₀) (ds.map .dat) (fun σ => σ[i₀]? = some (.lst ds)) σ := fun A F m s u R S ra => by
  obtain ⟨l, rfl, hl⟩ := ra
  have hmr := S.mr i₀ l _ hl hσ
  cases hmr with
  | @lst vs n _ hg hr =>
  refine wpAny_pyIter_list (items := vs.toArray) ⟨_, hg, rfl, n, rfl⟩ ?_
  refine ⟨s.heap.objs.size, fun i h => h.IsListIter s.heap.objs.size l i, fun i _ h => h.IsListIter s.heap.objs.size l i, rfl, Go.grow (tk := s.toks) S push_some, fresh_size _, ⟨_, Heap.get?_push_size _ rfl, rfl, rfl⟩, ?_⟩
  exact {
    frame := fun i h h' x hk => let ⟨o, ho, r⟩ := x; ⟨o, hk o ho, r⟩
    obj := fun i h x => let ⟨o, ho, r⟩ := x; ne_none ho
    objM := fun i _ h x => let ⟨o, ho, r⟩ := x; ne_none ho
    mid := fun _ _ _ _ h => h
    item := fun i F' m' σ' s' x hx hit S' hs hm hIm hIF hsrc => by
      rw [List.getElem?_map] at hx
      obtain ⟨d, hd, rfl⟩ := Option.map_eq_some_iff.mp hx
      have hl' : m'[i₀]? = some l := by
        obtain ⟨t, rfl⟩ := hm
        rw [List.getElem?_append_left (List.getElem?_eq_some_iff.mp hl).1]; exact hl
      have hmr' := S'.mr i₀ l _ hl' hsrc
      cases hmr' with
      | @lst vs' n' _ hg' hr' =>
      obtain ⟨v, hv, rv⟩ := hr'.get hd
      refine wpAny_pyNext_list_item hit (items := vs'.toArray) ⟨_, hg', rfl, n', rfl⟩ (x := v) (by simpa using hv) fun h' hit' hs' => ?_
      obtain ⟨o, ho, _⟩ := id hit'
      exact ⟨v, F', rfl, XGo.own1 (tk := s'.toks) S' hIm hIF hs' (ne_none ho), hit', rv⟩
    done := fun F' m' σ' s' hit S' hs hm hIm hIF hsrc => by
      have hl' : m'[i₀]? = some l := by
        obtain ⟨t, rfl⟩ := hm
        rw [List.getElem?_append_left (List.getElem?_eq_some_iff.mp hl).1]; exact hl
      have hmr' := S'.mr i₀ l _ hl' hsrc
      cases hmr' with
      | @lst vs' n' _ hg' hr' =>
      refine wpAny_pyNext_list_end R.handled hit (items := vs'.toArray) ⟨_, hg', rfl, n', rfl⟩ (by simp [hr'.length]) fun h' he => ?_
      exact ⟨rfl, fun b o hb e => he b o hb e, _, Nat.le_refl _, rfl⟩
    own := fun i F' m' σ' s' v hit S' hIm hIF => by
      obtain ⟨o, ho, hc, _⟩ := id hit
      exact own_plain ho hc (by decide) ⟨XGo.refl S', hit⟩
    self := fun i s' Q hit q => wpAny_pyIter_listiter hit q }

theorem isrc_tuple {k : Nat} {t : Expr} {ds : List PyData} {σ : List MO} : isrc X k t (.dat (.tuple ds)) (ds.map .dat) (fun _ => True) σ := fun A F m s u R S ra => by
  cases ra with
  | @tuple l vs n _ hF hr =>
  refine wpAny_pyIter_tuple (items := vs.toArray) ⟨_, S.fz _ _ hF rfl, rfl, n, rfl⟩ ?_
  refine ⟨s.heap.objs.size, fun i h => h.IsTupleIter s.heap.objs.size l i, fun i _ h => h.IsTupleIter s.heap.objs.size l i, rfl, Go.grow (tk := s.toks) S push_some, fresh_size _, ⟨_, Heap.get?_push_size _ rfl, rfl, rfl⟩, ?_⟩
  exact {
    frame := fun i h h' x hk => let ⟨o, ho, r⟩ := x; ⟨o, hk o ho, r⟩
    obj := fun i h x => let ⟨o, ho, r⟩ := x; ne_none ho
    objM := fun i _ h x => let ⟨o, ho, r⟩ := x; ne_none ho
    mid := fun _ _ _ _ h => h
    item := fun i F' m' σ' s' x hx hit S' hs hm hIm hIF _ => by
      rw [List.getElem?_map] at hx
      obtain ⟨d, hd, rfl⟩ := Option.map_eq_some_iff.mp hx
      obtain ⟨v, hv, rv⟩ := hr.get hd
      refine wpAny_pyNext_tuple_item hit (items := vs.toArray) ⟨_, S'.fz _ _ (hs _ _ hF) rfl, rfl, n, rfl⟩ (x := v) (by simpa using hv) fun h' hit' hs' => ?_
      obtain ⟨o, ho, _⟩ := id hit'
      exact ⟨v, F', rfl, XGo.own1 (tk := s'.toks) S' hIm hIF hs' (ne_none ho), hit', rv.mono hs⟩
    done := fun F' m' σ' s' hit S' hs hm hIm hIF _ => by
      refine wpAny_pyNext_tuple_end R.handled hit (items := vs.toArray) ⟨_, S'.fz _ _ (hs _ _ hF) rfl, rfl, n, rfl⟩ (by simp [hr.length]) fun h' he => ?_
      exact ⟨rfl, fun b o hb e => he b o hb e, _, Nat.le_refl _, rfl⟩
    own := fun i F' m' σ' s' v hit S' hIm hIF => by
      obtain ⟨o, ho, hc, _⟩ := id hit
      exact own_plain ho hc (by decide) ⟨XGo.refl S', hit⟩
    self := fun i s' Q hit q => wpAny_pyIter_tupleiter hit q }

noncomputable def signs (x : Str) : List AV := x.cps.toList.map fun c => .dat (.str ⟨#[c]⟩)
theorem isrc_str {k : Nat} {t : Expr} {x : Str} {σ : List MO} (ha : x.cps.all (· < 128) = true) : isrc X k t (.dat (.str x)) (signs x) (fun _ => True) σ := fun A F m s u R S ra => by
  cases ra with
  | @str _ tk _ =>
  refine wpAny_pyIter_ascii ha ?_
  refine ⟨s.heap.objs.size, fun i h => h.IsStrIter s.heap.objs.size "str_ascii_iterator" x tk i, fun i _ h => h.IsStrIter s.heap.objs.size "str_ascii_iterator" x tk i, rfl, Go.grow (tk := s.toks) S push_some, fresh_size _, ⟨_, Heap.get?_push_size _ rfl, rfl, rfl⟩, ?_⟩
  exact {
    frame := fun i h h' x hk => let ⟨o, ho, r⟩ := x; ⟨o, hk o ho, r⟩
    obj := fun i h x => let ⟨o, ho, r⟩ := x; ne_none ho
    objM := fun i _ h x => let ⟨o, ho, r⟩ := x; ne_none ho
    mid := fun _ _ _ _ h => h
    item := fun i F' m' σ' s' y hx hit S' hs hm hIm hIF _ => by
      unfold signs at hx
      rw [List.getElem?_map] at hx
      obtain ⟨cp, hd, rfl⟩ := Option.map_eq_some_iff.mp hx
      refine wpAny_pyNext_ascii_item hit (c := cp) (by simpa using hd) fun h' hit' hs' => ?_
      obtain ⟨o, ho, _⟩ := id hit'
      have g1 := Go.tok1 S' (Nat.lt_succ_self _)
      exact ⟨_, _, rfl, g1.toX.trans (XGo.own1 (tk := s'.toks + 1) g1.st hIm (fun o hf h => h.elim (hIF o hf) fun h => by rw [h.2] at hf; cases hf) hs' (ne_none ho)), hit', Rd.str (.inr ⟨rfl, rfl⟩)⟩
    done := fun F' m' σ' s' hit S' hs hm hIm hIF _ => by
      refine wpAny_pyNext_ascii_end R.handled hit (by simp [signs]) fun h' he => ?_
      exact ⟨rfl, fun b o hb e => he b o hb e, _, Nat.le_refl _, rfl⟩
    own := fun i F' m' σ' s' v hit S' hIm hIF => by
      obtain ⟨o, ho, hc, _⟩ := id hit
      exact own_plain ho hc (by decide) ⟨XGo.refl S', hit⟩
    self := fun i s' Q hit q => wpAny_pyIter_striter_ascii hit q }

noncomputable def prog1 (a c : Int) (n : Nat) : List AV := (List.range n).map fun (i : Nat) => AV.dat (.int (a + (i : Int) * c))
theorem src_range {t : Expr} {I : Nat} {a c : Int} {n : Nat} {m : List Nat} {F : Fz} {k : Nat} (R : Room A k) : Src X A t I (prog1 a c n) (fun _ => True) m F (fun i h => IsRangeIter h I (a + (i : Nat) * c) ((n : Int) - (i : Nat)) c) (fun i _ h => IsRangeIter h I (a + (i : Nat) * c) ((n : Int) - (i : Nat)) c) where
  frame := fun i h h' x hk => hk _ x
  obj := fun i h x => ne_none x
  objM := fun i _ h x => ne_none x
  mid := fun _ _ _ _ h => h
  item := fun i F' m' σ' s' y hx hit S' hs hm hIm hIF _ => by
    unfold prog1 at hx
    rw [List.getElem?_map] at hx
    obtain ⟨j, hd, rfl⟩ := Option.map_eq_some_iff.mp hx
    have hi : i < n := by simpa using (List.getElem?_eq_some_iff.mp hd).1
    have hj : j = i := by
      rw [List.getElem?_range hi] at hd
      simpa using hd.symm
    subst hj
    refine wpAny_pyNext_range_item hit (by omega) fun h' hit' hs' => ?_
    have e1 : a + ((j + 1 : Nat) : Int) * c = a + (j : Int) * c + c := by push_cast; rw [Int.add_mul, Int.one_mul, Int.add_assoc]
    have e2 : (n : Int) - ((j + 1 : Nat) : Int) = (n : Int) - (j : Int) - 1 := by push_cast; omega
    exact ⟨_, F', rfl, XGo.own1 (tk := s'.toks + 1) S' hIm hIF hs' (ne_none hit'), by rw [e1, e2]; exact hit', Rd.int _ _⟩
  done := fun F' m' σ' s' hit S' hs hm hIm hIF _ => by
    refine wpAny_pyNext_range_end R.handled hit (by simp [prog1]) fun h' he => ?_
    exact ⟨rfl, fun b o hb e => he b o hb e, _, Nat.le_refl _, rfl⟩
  own := fun i F' m' σ' s' v hit S' hIm hIF => own_plain hit rfl (by decide) ⟨XGo.refl S', hit⟩
  self := fun i s' Q hit q => wpAny_pyIter_rangeiter hit q

theorem rangeSize_0 (n : Nat) : Builtin.Range.rangeSize 0 n 1 = n := by
  unfold Builtin.Range.rangeSize
  rw [if_pos (by decide)]
  split
  · omega
  · omega
theorem small_0 {n : Nat} (hn : n < 2 ^ 30) : Builtin.Range.small 0 n 1 = true := by
  unfold Builtin.Range.small
  rw [rangeSize_0]
  have h : ∀ i : Int, 0 ≤ i → i ≤ 2 ^ 30 → Builtin.Range.rangeFitsLong i = true := fun i h1 h2 => by
    unfold Builtin.Range.rangeFitsLong
    simp only [Bool.and_eq_true, decide_eq_true_eq]
    omega
  rw [h 0 (by omega) (by omega), h n (by omega) (by omega), h 1 (by omega) (by omega), if_pos (by decide), h ((n : Int) + (1 - 1)) (by omega) (by omega)]
  simp
theorem isrc_rng {k : Nat} {t : Expr} {n : Nat} {σ : List MO} (hn : n < 2 ^ 30) : isrc X k t (.rng n) (prog1 0 1 n) (fun _ => True) σ := fun A F m s u R S ra => by
  obtain ⟨r, t1, t2, t3, rfl, hF⟩ := ra
  have hsz : Builtin.Range.rangeSize 0 n 1 = n := rangeSize_0 n
  have hsm : Builtin.Range.small 0 n 1 = true := small_0 hn
  refine wpAny_pyIter_range (r := r) (S.fz _ _ hF rfl) hsm ?_
  rw [hsz]
  exact ⟨s.heap.objs.size, _, _, rfl, Go.grow (tk := s.toks) S push_some, fresh_size _, by simpa using Heap.get?_push_size s.heap (o := { cls := .type "range_iterator", dict := none, data := .fields #[rawInt 0, rawInt n, rawInt 1], slots := #[] }) rfl, src_range R⟩

theorem sd_names {es : List (Str × PyData)} {ks : List Str} {ds : List PyData} (h : (List.map PyData.str (es.map (·.1))).zip (es.map (·.2)) = (List.map PyData.str ks).zip ds) (hl : ks.length = ds.length) : ks = es.map (·.1) ∧ ds = es.map (·.2) := by
  have h1 := congrArg (List.map Prod.fst) h
  have h2 := congrArg (List.map Prod.snd) h
  rw [List.map_fst_zip (by simp), List.map_fst_zip (by simp [hl])] at h1
  rw [List.map_snd_zip (by simp), List.map_snd_zip (by simp [hl])] at h2
  refine ⟨?_, h2.symm⟩
  have := (List.map_inj_right (f := PyData.str) (fun a b e => by injection e)).mp h1
  exact this.symm

theorem Rd.sd {F : Fz} {es : List (Str × PyData)} {v : Value} (h : Rd X.prog X.w F (sd es) v) : ∃ d o kvs ep keys, v = .ref d ∧ 3 < d ∧ F d o ∧ DictO X.prog X.w o kvs ep keys ∧ kvs.map (·.1) = es.map (·.1) ∧ RdAll X.prog X.w F (List.map PyData.str (es.map (·.1))) keys ∧ RdAll X.prog X.w F (es.map (·.2)) (kvs.map (·.2)) := by
  cases h with
  | @dict a o ep kvs ks ds _ keys h0 h1 h2 e1 e2 q r =>
  have hl : ks.length = ds.length := by rw [e2, r.length]; simp
  obtain ⟨h3, h4⟩ := sd_names e1 hl
  exact ⟨a, o, kvs, ep, keys, rfl, h0, h1, h2, by rw [← e2, h3], h3 ▸ q, h4 ▸ r⟩
theorem not_sys {d : Nat} (h : 3 < d) : (d == sysModules) = false := by
  refine beq_eq_false_iff_ne.mpr fun e => ?_
  have : d = 1 := e
  omega
theorem isrc_dict {k : Nat} {t : Expr} {es : List (Str × PyData)} {σ : List MO} : isrc X k t (.dat (sd es)) (es.map fun p => .dat (.str p.1)) (fun _ => True) σ := fun A F m s u R S ra => by
  obtain ⟨d, o, kvs, ep, keys, rfl, h3, hF, hd, hn, hq, hr⟩ := Rd.sd ra
  have hlen : kvs.length = es.length := by have := congrArg List.length hn; simpa using this
  have hds : (d == sysModules) = false := not_sys h3
  refine wpAny_pyIter_dict (knd := strKind X.prog X.w) hds (hd.at (S.fz _ _ hF hd.nf)) ?_
  refine ⟨s.heap.objs.size, fun i h => h.IsKeyIter s.heap.objs.size d i kvs.length ep, fun i _ h => h.IsKeyIter s.heap.objs.size d i kvs.length ep, rfl, Go.grow (tk := s.toks) S push_some, fresh_size _, ⟨_, Heap.get?_push_size _ rfl, rfl, rfl⟩, ?_⟩
  exact {
    frame := fun i h h' x hk => let ⟨o, ho, r⟩ := x; ⟨o, hk o ho, r⟩
    obj := fun i h x => let ⟨o, ho, r⟩ := x; ne_none ho
    objM := fun i _ h x => let ⟨o, ho, r⟩ := x; ne_none ho
    mid := fun _ _ _ _ h => h
    item := fun i F' m' σ' s' y hx hit S' hs hm hIm hIF _ => by
      rw [List.getElem?_map] at hx
      obtain ⟨p, hp, rfl⟩ := Option.map_eq_some_iff.mp hx
      have hk : (List.map PyData.str (es.map (·.1)))[i]? = some (.str p.1) := by rw [List.getElem?_map, List.getElem?_map, hp]; rfl
      obtain ⟨key, hkey, rk⟩ := hq.get hk
      obtain ⟨_, ees, hdd, _, hpr, _, hkk⟩ := id hd
      have hsz : ees.size = kvs.length := by rw [← hpr.length]; simp
      have hlt : i < ees.size := by rw [hsz, hlen]; exact (List.getElem?_eq_some_iff.mp hp).1
      have hke : ees[i].key = key := by
        rw [← hkk, List.getElem?_map, Array.getElem?_toList, Array.getElem?_eq_getElem hlt] at hkey
        simpa using hkey
      refine next_key hit (S'.fz _ _ (hs _ _ hF) hd.nf) hdd hsz hlt fun h' hit' hs' => ?_
      obtain ⟨o, ho, _⟩ := id hit'
      exact ⟨_, F', rfl, XGo.own1 (tk := s'.toks) S' hIm hIF hs' (ne_none ho), hit', hke ▸ rk.mono hs⟩
    done := fun F' m' σ' s' hit S' hs hm hIm hIF _ => by
      rw [List.length_map, ← hlen] at hit
      refine wpAny_pyNext_dict_end (knd := strKind X.prog X.w) R.handled hit (hd.at (S'.fz _ _ (hs _ _ hF) hd.nf)) (by simp) fun h' he => ?_
      exact ⟨rfl, fun b o hb e => he b o hb e, _, Nat.le_refl _, rfl⟩
    own := fun i F' m' σ' s' v hit S' hIm hIF => by
      obtain ⟨o, ho, hc, _⟩ := id hit
      exact own_plain ho hc (by decide) ⟨XGo.refl S', hit⟩
    self := fun i s' Q hit q => wpAny_pyIter_keyiter hit q }

theorem XGo.own1F {F : Fz} {m : List Nat} {σ : List MO} {s : Shared} {D N : Nat} {o : Obj} {h' : Heap} {tk : Tok} (S : St X.prog X.w X.h0 F m σ s) (hm : D ∉ m) (hF : NF F D) (hk : ∀ b o, b ≠ D → s.heap.get? b = some o → h'.get? b = some o) (hl : h'.get? D ≠ none)
    (hN : s.heap.get? N = none) (hND : N ≠ D) (ho : h'.get? N = some o) (ht : s.toks ≤ tk := by first | exact Nat.le_refl _ | exact Nat.le_succ _ | omega) : XGo X [D] F m s (fun b q => F b q ∨ (b = N ∧ q = o)) m σ { s with heap := h', toks := tk } := by
  have hlv : ∀ b, s.heap.get? b ≠ none → h'.get? b ≠ none := fun b hb => by
    by_cases e : b = D
    · rw [e]; exact hl
    · cases e' : s.heap.get? b with
      | none => exact absurd e' hb
      | some q => rw [hk b q e e']; simp
  have S' : St X.prog X.w X.h0 F m σ { s with heap := h', toks := tk } := S.move (fun b o hb => hk b o fun e => hb.elim (fun h => hm (e ▸ h)) fun ⟨q, h1, h2⟩ => hF q h1 (e ▸ h2)) ht
  exact ⟨fun _ _ h => .inl h, List.prefix_refl _, fun b o _ hw e => hk b o (fun h => hw (by rw [h]; exact List.mem_singleton_self _)) e, fun _ h => .inl h, fun b q h _ => h.elim .inl fun h => .inr (.inr (h.1 ▸ hN)), hlv,
    S'.addF (fun h => S.lt N h hN) ho, ht, ⟨_, rfl⟩⟩

theorem isrc_view {k : Nat} {elts : List Expr} {x1 : Nat} {tp : Pos} {es : List (Str × PyData)} {σ : List MO} : isrc X k (.Tuple elts x1 tp) (.view es) (es.map fun p => .dat (.tuple [.str p.1, p.2])) (fun _ => True) σ := fun A F m s u R S ra => by
  obtain ⟨r, d0, rfl, hFr, hrd⟩ := ra
  obtain ⟨d, o, kvs, ep, keys, e0, h3, hF, hd, hn, hq, hr⟩ := Rd.sd hrd
  cases e0
  have hlen : kvs.length = es.length := by have := congrArg List.length hn; simpa using this
  refine wpAny_pyIter_items (knd := strKind X.prog X.w) ⟨_, S.fz _ _ hFr rfl, rfl, rfl⟩ (hd.at (S.fz _ _ hF hd.nf)) ?_
  refine ⟨s.heap.objs.size, fun i h => ∃ ok ov, IsItemIter h s.heap.objs.size d0 i kvs.length ep ok ov, fun i v h => ∃ ok ov a, v = .ref a ∧ IsItemIterOut h s.heap.objs.size d0 i kvs.length ep ok ov a, rfl, Go.grow (tk := s.toks) S push_some, fresh_size _, ⟨_, _, Heap.get?_push_size _ rfl⟩, ?_⟩
  exact {
    frame := fun i h h' x hk => let ⟨a, b, r⟩ := x; ⟨a, b, hk _ r⟩
    obj := fun i h x => let ⟨a, b, r⟩ := x; ne_none r
    objM := fun i _ h x => let ⟨a, b, c, _, r⟩ := x; ne_none r
    mid := fun i v h hno _ => absurd (hno (.ref 0) (.ref 0)) (by intro e; cases e)
    item := fun i F' m' σ' s' y hx hit S' hs hm hIm hIF _ => by
      rw [List.getElem?_map] at hx
      obtain ⟨p, hp, rfl⟩ := Option.map_eq_some_iff.mp hx
      have hk : (List.map PyData.str (es.map (·.1)))[i]? = some (.str p.1) := by rw [List.getElem?_map, List.getElem?_map, hp]; rfl
      obtain ⟨key, hkey, rk⟩ := hq.get hk
      have hv : (es.map (·.2))[i]? = some p.2 := by rw [List.getElem?_map, hp]; rfl
      obtain ⟨v', hv', rv⟩ := hr.get hv
      obtain ⟨_, ees, hdd, _, hpr, _, hkk⟩ := id hd
      have hsz : ees.size = kvs.length := by rw [← hpr.length]; simp
      have hlt : i < ees.size := by rw [hsz, hlen]; exact (List.getElem?_eq_some_iff.mp hp).1
      have hke : ees[i].key = key := by
        rw [← hkk, List.getElem?_map, Array.getElem?_toList, Array.getElem?_eq_getElem hlt] at hkey
        simpa using hkey
      have hve : ees[i].val = v' := by
        rw [← pairs_vals hpr, List.getElem?_map, Array.getElem?_toList, Array.getElem?_eq_getElem hlt] at hv'
        simpa using hv'
      obtain ⟨ok, ov, hit⟩ := hit
      refine next_item hit (S'.fz _ _ (hs _ _ hF) hd.nf) hdd hsz hlt fun h' hit' htup hsz' hk' => ?_
      have hne : s'.heap.objs.size ≠ s.heap.objs.size := fun e => by
        have := fresh_size s'.heap
        rw [e] at this
        exact ne_none hit this
      refine ⟨_, _, rfl, XGo.own1F (tk := s'.toks) S' hIm hIF hk' (ne_none hit') (fresh_size _) hne htup, ⟨_, _, _, rfl, hit'⟩, ?_⟩
      refine Rd.tuple (vs := [ees[i].key, ees[i].val]) (n := 0) (.inr ⟨rfl, rfl⟩) ?_
      rw [hke, hve]
      exact .cons ((rk.mono hs).mono fun _ _ h => .inl h) (.cons ((rv.mono hs).mono fun _ _ h => .inl h) .nil)
    done := fun F' m' σ' s' hit S' hs hm hIm hIF _ => by
      rw [List.length_map, ← hlen] at hit
      obtain ⟨ok, ov, hit⟩ := hit
      refine wpAny_pyNext_items_end (knd := strKind X.prog X.w) R.handled hit (hd.at (S'.fz _ _ (hs _ _ hF) hd.nf)) (by simp) fun h' he => ?_
      exact ⟨rfl, fun b o hb e => he b o hb e, _, Nat.le_refl _, rfl⟩
    own := fun i F' m' σ' s' v hit S' hIm hIF => by
      obtain ⟨ok, ov, a, rfl, hit⟩ := hit
      refine wpAny_letOwnedTupleGo_items hit fun h' hit' hs' => ?_
      exact ⟨XGo.own1 (tk := s'.toks) S' hIm hIF hs' (ne_none hit'), _, _, hit'⟩
    self := fun i s' Q hit q => by
      obtain ⟨ok, ov, hit⟩ := hit
      exact kcp_self hit q }
end
end Mine
end

section -- PgI
open PySem PySem.W PyProof.Rows PySem.Calls
set_option Elab.async false
namespace Mine
set_option autoImplicit false
set_option linter.unusedVariables false

noncomputable abbrev AV.int (i : Int) : AV := .dat (.int i)
noncomputable abbrev AV.str (x : Str) : AV := .dat (.str x)
noncomputable abbrev AV.bool (b : Bool) : AV := .dat (.bool b)

theorem vri {prog : Program} {w : World} {F : Fz} {m : List Nat} {i : Int} {t : Tok} : VR prog w F m (.int i) (.int i t) := Rd.int _ _
theorem vrb {prog : Program} {w : World} {F : Fz} {m : List Nat} {i : Bool} : VR prog w F m (.bool i) (.bool i) := Rd.bool _
section
variable {X : Wd} {k : Nat} {σ : List MO} {Q : AV → List MO → Prop}

theorem tok_str {F : Fz} {m : List Nat} {s : Shared} {x : Str} (S : St X.prog X.w X.h0 F m σ s) (h : Q (.str x) σ) : GP X.prog X.w X.h0 (VR X.prog X.w) Q F m s (.str x s.toks) { s with toks := s.toks + 1 } :=
  ⟨_, m, .str x, σ, Go.tok1 S (Nat.lt_succ_self _), Rd.str (.inr ⟨rfl, rfl⟩), h⟩
theorem mk_str {F : Fz} {m : List Nat} {s : Shared} {x : Str} (S : St X.prog X.w X.h0 F m σ s) (hl : x.length ≤ 1000) (h : Q (.str x) σ) : (Made.str x).post (GP X.prog X.w X.h0 (VR X.prog X.w) Q F m s) s :=
  ⟨by rw [sizeLine_eq]; omega, tok_str S h⟩
theorem v2_add {a b : Int} (h : Q (.int (a + b)) σ) : v2 X k (binaryOp .Add) (.int a) (.int b) Q σ := fun A F m s u v R S ra rb => by
  cases ra; cases rb
  exact PyProof.Rows.add_int ⟨F, m, _, σ, Go.tok S _, vri, h⟩
theorem v2_sub {a b : Int} (h : Q (.int (a - b)) σ) : v2 X k (binaryOp .Sub) (.int a) (.int b) Q σ := fun A F m s u v R S ra rb => by
  cases ra; cases rb
  exact PyProof.Rows.sub_int ⟨F, m, _, σ, Go.tok S _, vri, h⟩
theorem v2_mul {a b : Int} (hm : IntMulOk a b) (h : Q (.int (a * b)) σ) : v2 X k (binaryOp .Mult) (.int a) (.int b) Q σ := fun A F m s u v R S ra rb => by
  cases ra; cases rb
  exact PyProof.Rows.mul_int ⟨F, m, _, σ, Go.tok S _, vri, h⟩ hm
theorem v2_mod {a b : Int} (hb : b ≠ 0) (h : Q (.int (a.fmod b)) σ) : v2 X k (binaryOp .Mod) (.int a) (.int b) Q σ := fun A F m s u v R S ra rb => by
  cases ra; cases rb
  exact PyProof.Rows.mod_int' hb ⟨F, m, _, σ, Go.tok S _, vri, h⟩
theorem v2_fdiv {a b : Int} (hb : b ≠ 0) (hp : Builtin.divisionGoesByPylong a b = false) (h : Q (.int (a.fdiv b)) σ) : v2 X k (binaryOp .FloorDiv) (.int a) (.int b) Q σ := fun A F m s u v R S ra rb => by
  cases ra; cases rb
  exact PyProof.Rows.floordiv_int hb ⟨F, m, _, σ, Go.tok S _, vri, h⟩ (.inl hp)
theorem v2_shr {a b : Int} (hb : 0 ≤ b) (h : Q (.int (a.fdiv (2 ^ b.toNat))) σ) : v2 X k (binaryOp .RShift) (.int a) (.int b) Q σ := fun A F m s u v R S ra rb => by
  cases ra; cases rb
  exact PyProof.Rows.rshift_int hb ⟨F, m, _, σ, Go.tok S _, vri, h⟩
theorem v1_neg {a : Int} (h : Q (.int (-a)) σ) : v1 X k (unaryOp .USub) (.int a) Q σ := fun A F m s u R S ra => by
  cases ra
  exact PyProof.Rows.neg_int ⟨F, m, _, σ, Go.tok S _, vri, h⟩
theorem v2_adds {x y : Str} (hl : x.length + y.length ≤ 1000) (h : Q (.str (x ++ y)) σ) : v2 X k (binaryOp .Add) (.str x) (.str y) Q σ := fun A F m s u v R S ra rb => by
  cases ra with
  | @str _ t hx =>
  cases rb with
  | @str _ t2 hy =>
  refine PySem.P.add_str ?_
  by_cases h1 : (x.length == 0) = true
  · rw [if_pos h1]
    rw [Str.append_left_empty h1] at h
    exact ⟨F, m, .str y, σ, Go.refl S, Rd.str hy, h⟩
  · rw [if_neg h1]
    by_cases h2 : (y.length == 0) = true
    · rw [if_pos h2]
      rw [Str.append_right_empty h2] at h
      exact ⟨F, m, .str x, σ, Go.refl S, Rd.str hx, h⟩
    · rw [if_neg h2]
      have hln : (x ++ y).length = x.length + y.length := by show (Str.append x y).cps.size = _; simp [Str.append, Str.length]
      exact mk_str S (by omega) h
theorem v2_addl {xs ys : List PyData} (hl : xs.length + ys.length ≤ 1000) (h : Q (.dat (.list (xs ++ ys))) σ) : v2 X k (binaryOp .Add) (.dat (.list xs)) (.dat (.list ys)) Q σ := fun A F m s u v R S ra rb => by
  cases ra with
  | @list l vs n _ hF hr =>
  cases rb with
  | @list l2 ws n2 _ hF2 hr2 =>
  refine PySem.P.add_list (S.fz _ _ hF rfl) (S.fz _ _ hF2 rfl) ?_ (by have := hr.length; have := hr2.length; rw [sizeLine_eq]; simp; omega)
  refine ⟨_, m, .dat _, σ, Go.frz (tk := s.toks) (a := s.heap.objs.size) (o := lstObj (vs ++ ws) 0) S push_some (fresh_size _) (by simpa using Heap.get?_push_size s.heap (o := lstObj (vs ++ ws) 0) rfl), Rd.list (vs := vs ++ ws) (n := 0) (.inr ⟨rfl, rfl⟩) ?_, h⟩
  exact (hr.mono fun _ _ h => .inl h).append (hr2.mono fun _ _ h => .inl h)
theorem v2_addt {xs ys : List PyData} (hx : xs ≠ []) (hy : ys ≠ []) (hl : xs.length + ys.length ≤ 1000) (h : Q (.dat (.tuple (xs ++ ys))) σ) : v2 X k (binaryOp .Add) (.dat (.tuple xs)) (.dat (.tuple ys)) Q σ := fun A F m s u v R S ra rb => by
  cases ra with
  | @tuple l vs n _ hF hr =>
  cases rb with
  | @tuple l2 ws n2 _ hF2 hr2 =>
  have h1 := hr.length
  have h2 := hr2.length
  have e1 : vs ≠ [] := by rintro rfl; exact hx (List.length_eq_zero_iff.mp h1)
  have e2 : ws ≠ [] := by rintro rfl; exact hy (List.length_eq_zero_iff.mp h2)
  refine PySem.P.add_tuple (S.fz _ _ hF rfl) (S.fz _ _ hF2 rfl) (by simpa using e1) (by simpa using e2) ?_ (by rw [sizeLine_eq]; simp; omega)
  refine ⟨_, m, .dat _, σ, Go.frz (tk := s.toks) (a := s.heap.objs.size) (o := tupObj (vs ++ ws) 0) S push_some (fresh_size _) (by simpa using Heap.get?_push_size s.heap (o := tupObj (vs ++ ws) 0) rfl), Rd.tuple (vs := vs ++ ws) (n := 0) (.inr ⟨rfl, rfl⟩) ?_, h⟩
  exact (hr.mono fun _ _ h => .inl h).append (hr2.mono fun _ _ h => .inl h)

theorem v2_eq {a b : PyData} (ha : SeqAt.shaped a = true) (hb : SeqAt.shaped b = true) (h : Q (.bool (PyData.eqv a b)) σ) : v2 X k (compareOp .Eq) (.dat a) (.dat b) Q σ := fun A F m s u v R S ra rb => by
  obtain ⟨_, ra⟩ := Rd.reads S.fz ra
  obtain ⟨_, rb⟩ := Rd.reads S.fz rb
  exact eq_dataH ra rb ha hb R.u64 ⟨F, m, _, σ, Go.refl S, vrb, h⟩
theorem v2_ne {a b : PyData} (ha : SeqAt.shaped a = true) (hb : SeqAt.shaped b = true) (h : Q (.bool (!PyData.eqv a b)) σ) : v2 X k (compareOp .NotEq) (.dat a) (.dat b) Q σ := fun A F m s u v R S ra rb => by
  obtain ⟨_, ra⟩ := Rd.reads S.fz ra
  obtain ⟨_, rb⟩ := Rd.reads S.fz rb
  exact ne_dataH ra rb ha hb R.u64 ⟨F, m, _, σ, Go.refl S, vrb, h⟩
theorem v2_lt {a b : Int} (h : Q (.bool (decide (a < b))) σ) : v2 X k (compareOp .Lt) (.int a) (.int b) Q σ := fun A F m s u v R S ra rb => by
  cases ra; cases rb
  exact PyProof.Rows.lt_int ⟨F, m, _, σ, Go.refl S, vrb, h⟩
theorem v2_gt {a b : Int} (h : Q (.bool (decide (b < a))) σ) : v2 X k (compareOp .Gt) (.int a) (.int b) Q σ := fun A F m s u v R S ra rb => by
  cases ra; cases rb
  exact PyProof.Rows.gt_int ⟨F, m, _, σ, Go.refl S, vrb, h⟩
theorem v2_ins {x y : Str} (h : Q (.bool !(Builtin.Str.occurrences x y 0 x.length 1).isEmpty) σ) : v2 X k (compareOp .In) (.str y) (.str x) Q σ := fun A F m s u v R S ra rb => by
  cases ra; cases rb
  exact PyProof.Rows.in_str ⟨F, m, _, σ, Go.refl S, vrb, h⟩
theorem v2_ne_mr {i : Nat} {xs ys : List PyData} (hσ : σ[i]? = some (.lst xs)) (ha : SeqAt.shaped (.list xs) = true) (hb : SeqAt.shaped (.list ys) = true) (h : Q (.bool (!PyData.eqv (.list xs) (.list ys))) σ) : v2 X k (compareOp .NotEq) (.mr i) (.dat (.list ys)) Q σ := fun A F m s u v R S ra rb => by
  obtain ⟨l, rfl, hl⟩ := ra
  have hmr := S.mr i l _ hl hσ
  cases hmr with
  | @lst vs n _ hg hr =>
  obtain ⟨_, rx⟩ := RdAll.reads S.fz hr
  obtain ⟨_, rb⟩ := Rd.reads S.fz rb
  exact ne_dataH (.list hg rfl rfl rx) rb ha hb R.u64 ⟨F, m, _, σ, Go.refl S, vrb, h⟩
end
end Mine
end

section -- PgJ
open PySem PySem.W PyProof.Rows PySem.Calls PySem.SeqAt
set_option Elab.async false
namespace Mine
set_option autoImplicit false
set_option linter.unusedVariables false

noncomputable def LtAt (A : Around) (s : Shared) (y x : Value) (b : Bool) : Prop :=
  ∀ (prog : Program) (w : World) (E : Value → Shared → Prop) (Q : Value → Shared → Prop), Q (.bool b) s → wpAny (model prog w) A (richCompare .Lt y x) Q E s
noncomputable def LtSeq (A : Around) (s : Shared) : List Value → List Value → Bool → Prop
  | [], [], r => r = false
  | [], _ :: _, r => r = true
  | _ :: _, [], r => r = false
  | x :: xs, y :: ys, r => ∃ e, EqAt A s x y e ∧ (if e = true then LtSeq A s xs ys r else LtAt A s x y r)

theorem tuple_ltAt (l b : Addr) (items items2 : Array Value) (n n2 : Nat) (r : Bool) :
    Meets (Builtin.«tuple.__lt__» ⟨[.ref l, .ref b], []⟩)
      (fun A R s => s.heap.get? l = some { cls := .type "tuple", dict := none, data := .seq items n, slots := #[] } ∧ s.heap.get? b = some { cls := .type "tuple", dict := none, data := .seq items2 n2, slots := #[] } ∧
        LtSeq A.in1 s items.toList items2.toList r ∧ R (.ok (.ret (.bool r))) s) :=
  .of_wp fun prog w A R s h => by
    obtain ⟨hp, g, d, tk, os⟩ := s; obtain ⟨hl, hb, he, h⟩ := h
    have f2 := AutoSeq1.sub_tuple_tuple
    wp_walk using wpAny_loadPart' hl, wpAny_loadPart' hb, wpAny_forIn_list _ (fun rest b s' => b.1 = none ∧ s' = ⟨hp, g, d, tk, os⟩ ∧ ∃ us ws, rest = us.zip ws ∧ LtSeq A.in1 ⟨hp, g, d, tk, os⟩ us ws r ∧ items.size + ws.length = items2.size + us.length) _
    case turn =>
      rintro ⟨y, x⟩ rest b s' ⟨hb', rfl, us, ws, hz, hR, hsz⟩
      cases us with
      | nil => simp at hz
      | cons u us =>
        cases ws with
        | nil => simp at hz
        | cons v ws =>
          rw [List.zip_cons_cons] at hz
          injection hz with h1 hrest
          injection h1 with h1 h2
          subst h1; subst h2
          obtain ⟨e, he1, he2⟩ := hR
          refine wpAny_bind (he1 prog w _ _ ?_)
          cases e with
          | true =>
            simp only [if_true] at he2
            wp_walk
            exact ⟨rfl, rfl, us, ws, hrest, he2, by simp at hsz; omega⟩
          | false =>
            simp only [Bool.false_eq_true, if_false] at he2
            simp only [Bool.not_false, if_true]
            refine wpAny_bind (wpAny_rule (wpAny_bind (he2 prog w _ _ ?_)))
            wp_walk
            exact ⟨_, rfl, h⟩
    case fin =>
      rintro ⟨b1, b2⟩ s' ⟨hb', rfl, us, ws, hz, hR, hsz⟩
      simp only at hb'
      subst hb'
      have hr : r = decide (items.size < items2.size) := by
        cases us with
        | nil =>
          cases ws with
          | nil => rw [show r = false from hR]; simp at hsz ⊢; omega
          | cons v ws => rw [show r = true from hR]; simp at hsz ⊢; omega
        | cons u us =>
          cases ws with
          | nil => rw [show r = false from hR]; simp at hsz ⊢; omega
          | cons v ws => simp at hz
      wp_walk
      exact ⟨_, rfl, by simpa [Builtin.Tuple.tupleCompareSizes, hr] using h⟩
    case h =>
      exact ⟨rfl, rfl, items.toList, items2.toList, rfl, he, by simp; omega⟩

mutual
noncomputable def ltD : PyData → PyData → Option Bool
  | .int a, .int b => some (decide (a < b))
  | .str x, .str y => some (decide (x.cps.toList < y.cps.toList))
  | .tuple xs, .tuple ys => ltL xs ys
  | _, _ => none
noncomputable def ltL : List PyData → List PyData → Option Bool
  | [], [] => some false
  | [], _ :: _ => some true
  | _ :: _, [] => some false
  | x :: xs, y :: ys => if PyData.eqv x y = true then ltL xs ys else ltD x y
end

section
variable {X : Wd}
theorem lt_int' {A : Around} {s : Shared} {a b : Int} {t u : Tok} : LtAt A s (.int a t) (.int b u) (decide (a < b)) := fun prog w E Q h => PyProof.Rows.lt_int h
theorem lt_str' {A : Around} {s : Shared} {x y : Str} {t u : Tok} : LtAt A s (.str x t) (.str y u) (decide (x.cps.toList < y.cps.toList)) := fun prog w E Q h => PyProof.Rows.lt_str h
theorem lt_tup {A : Around} {s : Shared} {l b : Addr} {vs ws : List Value} {n n2 : Nat} {r : Bool} (hu : A.units < cLine) (hl : s.heap.get? l = some (tupObj vs n)) (hb : s.heap.get? b = some (tupObj ws n2)) (h : LtSeq A.in1 s vs ws r) : LtAt A s (.ref l) (.ref b) r := fun prog w E Q q => by
  have h1 : s.TypeIs (.ref l) "tuple" := ⟨_, hl, rfl⟩
  have h2 : s.TypeIs (.ref b) "tuple" := ⟨_, hb, rfl⟩
  refine wpAny_richCompare_same_room (op := .Lt) h1 h2 PySem.F.slot_tuple_lt (call_meets PySem.F.slot_tuple_lt h1 PySem.F.entry_tuple_lt (PySem.F.args_tuple_lt_2 _ _) (tuple_ltAt l b vs.toArray ws.toArray n n2 r) ⟨hl, hb, by simpa using h, ?_⟩) hu
  exact ⟨(by intro e; cases e), q⟩

mutual
theorem lt_ok : ∀ (a b : PyData) {F : Fz} {A : Around} {s : Shared} {u v : Value} {r : Bool}, Rd X.prog X.w F a u → Rd X.prog X.w F b v → (∀ b o, F b o → o.isFreed = false → s.heap.get? b = some o) → a.canLay0 = true → b.canLay0 = true → A.units + a.depth < cLine → ltD a b = some r → LtAt A s u v r
  | a, b, F, A, s, u, v, r, ra, rb, hF, ha, hb, hu, e => by
    cases ra with
    | int i t =>
      cases rb <;> (unfold ltD at e; try cases e)
      exact lt_int'
    | @str x t _ =>
      cases rb <;> (unfold ltD at e; try cases e)
      exact lt_str'
    | @tuple l vs n xs hl hr =>
      cases rb with
      | @tuple l2 ws n2 ys hl2 hr2 =>
        unfold ltD at e
        have hd : PyData.depth (.tuple xs) = PyData.depthAll xs + 1 := by rw [PyData.depth]
        rw [hd] at hu
        refine lt_tup (by omega) (hF _ _ hl rfl) (hF _ _ hl2 rfl) (ltL_ok xs ys hr hr2 hF (by simpa [PyData.canLay0] using ha) (by simpa [PyData.canLay0] using hb) (by show A.units + 1 + _ < _; omega) e)
      | _ => unfold ltD at e; cases e
    | _ => cases rb <;> (unfold ltD at e; cases e)
theorem ltL_ok : ∀ (xs ys : List PyData) {F : Fz} {A : Around} {s : Shared} {us vs : List Value} {r : Bool}, RdAll X.prog X.w F xs us → RdAll X.prog X.w F ys vs → (∀ b o, F b o → o.isFreed = false → s.heap.get? b = some o) → PyData.canLayAll0 xs = true → PyData.canLayAll0 ys = true →
    A.units + PyData.depthAll xs < cLine → ltL xs ys = some r → LtSeq A s us vs r
  | [], [], F, A, s, us, vs, r, ra, rb, _, _, _, _, e => by
    cases ra; cases rb; unfold ltL at e; cases e; rfl
  | [], _ :: _, F, A, s, us, vs, r, ra, rb, _, _, _, _, e => by
    cases ra; cases rb; unfold ltL at e; cases e; rfl
  | _ :: _, [], F, A, s, us, vs, r, ra, rb, _, _, _, _, e => by
    cases ra; cases rb; unfold ltL at e; cases e; rfl
  | x :: xs, y :: ys, F, A, s, us, vs, r, ra, rb, hF, ha, hb, hu, e => by
    cases ra with
    | cons r1 r2 =>
    cases rb with
    | cons q1 q2 =>
    have ha' : x.canLay0 = true ∧ PyData.canLayAll0 xs = true := by simpa [PyData.canLayAll0] using ha
    have hb' : y.canLay0 = true ∧ PyData.canLayAll0 ys = true := by simpa [PyData.canLayAll0] using hb
    have hd : PyData.depthAll (x :: xs) = max x.depth (PyData.depthAll xs) := by rw [PyData.depthAll]
    rw [hd] at hu
    have h1 : x.depth ≤ max x.depth (PyData.depthAll xs) := Nat.le_max_left _ _
    have h2 : PyData.depthAll xs ≤ max x.depth (PyData.depthAll xs) := Nat.le_max_right _ _
    obtain ⟨_, rx⟩ := Rd.reads hF r1
    obtain ⟨_, ry⟩ := Rd.reads hF q1
    refine ⟨PyData.eqv x y, eqAt_reads x y A s _ _ _ _ rx ry ha'.1 hb'.1 (by have := Nat.min_le_left x.depth y.depth; omega), ?_⟩
    unfold ltL at e
    by_cases he : PyData.eqv x y = true
    · rw [if_pos he] at e ⊢
      exact ltL_ok xs ys r2 q2 hF ha'.2 hb'.2 (by omega) e
    · rw [if_neg he] at e ⊢
      exact lt_ok x y r1 q1 hF ha'.1 hb'.1 (by omega) e
end

variable {k : Nat} {σ : List MO} {Q : AV → List MO → Prop}
theorem v2_ltD {a b : PyData} {r : Bool} (ha : SeqAt.shaped a = true) (hb : SeqAt.shaped b = true) (e : ltD a b = some r) (h : Q (.bool r) σ) : v2 X k (compareOp .Lt) (.dat a) (.dat b) Q σ := fun A F m s u v R S ra rb => by
  have h1 := SeqAt.canLay_of_shaped ha
  have h2 := SeqAt.canLay_of_shaped hb
  have h3 := SeqAt.depth_of_shaped ha
  have := R.u64
  exact lt_ok a b ra rb S.fz h1 h2 (by omega) e _ _ _ _ ⟨F, m, _, σ, Go.refl S, vrb, h⟩
end
end Mine
end

section -- PgK
open PySem PySem.W PyProof.Rows PySem.Calls PySem.SeqAt
set_option Elab.async false
namespace Mine
set_option autoImplicit false
set_option linter.unusedVariables false

inductive HasT : AV → List MO → String → Prop
  | str {x σ} : HasT (.dat (.str x)) σ "str"
  | list {xs σ} : HasT (.dat (.list xs)) σ "list"
  | tuple {xs σ} : HasT (.dat (.tuple xs)) σ "tuple"
  | dict {es σ} : HasT (.dat (.dict es)) σ "dict"
  | mrl {i σ ds} : σ[i]? = some (.lst ds) → HasT (.mr i) σ "list"
  | mrd {i σ es} : σ[i]? = some (.dict es) → HasT (.mr i) σ "dict"

section
variable {X : Wd} {c : Cx} {k : Nat} {loc : Loc} {σ : List MO} {Q : AV → List MO → Prop}

theorem HasT.ok {a : AV} {T : String} (h : HasT a σ T) {F : Fz} {m : List Nat} {s : Shared} {u : Value} (S : St X.prog X.w X.h0 F m σ s) (r : VR X.prog X.w F m a u) : s.TypeIs u T ∧ ∀ b, u = .ref b → ∃ o, s.heap.get? b = some o ∧ o.dict = none := by
  cases h with
  | str => cases r; exact ⟨by trivial, fun b e => by cases e⟩
  | list => cases r with | list hF _ => exact ⟨⟨_, S.fz _ _ hF rfl, rfl⟩, fun b e => by cases e; exact ⟨_, S.fz _ _ hF rfl, rfl⟩⟩
  | tuple => cases r with | tuple hF _ => exact ⟨⟨_, S.fz _ _ hF rfl, rfl⟩, fun b e => by cases e; exact ⟨_, S.fz _ _ hF rfl, rfl⟩⟩
  | dict => cases r with | dict h3 hF hd _ _ _ => exact ⟨⟨_, S.fz _ _ hF hd.nf, hd.1.1⟩, fun b e => by cases e; exact ⟨_, S.fz _ _ hF hd.nf, hd.1.2.1⟩⟩
  | mrl hσ =>
    obtain ⟨l, rfl, hl⟩ := r
    cases S.mr _ _ _ hl hσ with
    | lst hg _ => exact ⟨⟨_, hg, rfl⟩, fun b e => by cases e; exact ⟨_, hg, rfl⟩⟩
  | mrd hσ =>
    obtain ⟨l, rfl, hl⟩ := r
    cases S.mr _ _ _ hl hσ with
    | dict h3 h1 hd _ _ _ => exact ⟨⟨_, h1, hd.1.1⟩, fun b e => by cases e; exact ⟨_, h1, hd.1.2.1⟩⟩

noncomputable def getId : String → String
  | "str" => "str.__getitem__"
  | "list" => "list.__getitem__"
  | "tuple" => "tuple.__getitem__"
  | _ => "dict.__getitem__"
theorem HasT.lookup {a : AV} {T : String} (h : HasT a σ T) : typeLookup (.type T) "__getitem__" = pure (some (.builtin (getId T))) := by
  cases h with
  | str => exact PySem.F.slot_str_getitem.lookup
  | list => exact slot_list_getitem.lookup
  | tuple => exact slot_tuple_getitem.lookup
  | dict => exact PySem.F.slot_dict_getitem.lookup
  | mrl => exact slot_list_getitem.lookup
  | mrd => exact PySem.F.slot_dict_getitem.lookup

theorem ewp_Sub {value slice : Expr} {pos : Pos} (h : ewp X c k value (fun a σ₁ => ewp X c k slice (fun b σ₂ => ∃ T, HasT a σ₂ T ∧ v2 X k getItem a b Q σ₂) loc σ₁) loc σ)
    (hs : ∀ o i, subscripted slice false o i = operate [o, i] (getItem o i) := by intro _ _; rfl) : ewp X c k (.Subscript value slice pos) Q loc σ :=
  fun A env W F m s R S E => Subscript_ (h.use R S E fun F1 m1 a σ1 u s1 g1 ra qa E1 => qa.use R g1.st E1 fun F2 m2 b σ2 v s2 g2 rb ⟨T, hT, qb⟩ E2 =>
    tail_any (hT.ok g2.st (g2.vr ra)).1 hT.lookup (GW.after (g1.trans g2) (qb A F2 m2 s2 u v R g2.st (g2.vr ra) rb)) (hs _ _))

theorem v2_get_list {ds : List PyData} {i : Nat} {d : PyData} (hd : ds[i]? = some d) (hi : i < 2 ^ 30) (h : Q (.dat d) σ) : v2 X k getItem (.dat (.list ds)) (.int i) Q σ := fun A F m s u v R S ra rb => by
  cases rb
  cases ra with
  | @list l vs n _ hF hr =>
  obtain ⟨x, hx, rx⟩ := hr.get hd
  exact wpAny_getItem_list (items := vs.toArray) ⟨_, S.fz _ _ hF rfl, rfl, n, rfl⟩ (by omega) (by omega) (x := x) (by simpa using hx) ⟨F, m, .dat d, σ, Go.refl S, rx, h⟩
theorem v2_get_mr {j : Nat} {ds : List PyData} {i : Nat} {d : PyData} (hσ : σ[j]? = some (.lst ds)) (hd : ds[i]? = some d) (hi : i < 2 ^ 30) (h : Q (.dat d) σ) : v2 X k getItem (.mr j) (.int i) Q σ := fun A F m s u v R S ra rb => by
  cases rb
  obtain ⟨l, rfl, hl⟩ := ra
  cases S.mr _ _ _ hl hσ with
  | @lst vs n _ hg hr =>
  obtain ⟨x, hx, rx⟩ := hr.get hd
  exact wpAny_getItem_list (items := vs.toArray) ⟨_, hg, rfl, n, rfl⟩ (by omega) (by omega) (x := x) (by simpa using hx) ⟨F, m, .dat d, σ, Go.refl S, rx, h⟩
theorem seqIndex_nat {i n : Nat} (h : i < n) : seqIndex? (i : Int) n = some i := by
  have h1 : ¬ ((i : Int) < 0) := by omega
  have h2 : (0 : Int) ≤ i := by omega
  have h3 : (i : Int) < n := by omega
  unfold seqIndex?
  simp [h1, h2, h3]
theorem v2_get_tuple {ds : List PyData} {i : Nat} {d : PyData} (hd : ds[i]? = some d) (hi : i < 2 ^ 30) (h : Q (.dat d) σ) : v2 X k getItem (.dat (.tuple ds)) (.int i) Q σ := fun A F m s u v R S ra rb => by
  cases rb
  cases ra with
  | @tuple l vs n _ hF hr =>
  obtain ⟨x, hx, rx⟩ := hr.get hd
  have hlt := (List.getElem?_eq_some_iff.mp hx).1
  exact PySem.P.getItem_tuple (S.fz _ _ hF rfl) (by omega) (by omega) (k := i) (seqIndex_nat (by simpa using hlt)) (y := x) (by simpa using hx) ⟨F, m, .dat d, σ, Go.refl S, rx, h⟩
theorem v2_get_str {x : Str} {i cp : Nat} (hc : x.cps[i]? = some cp) (hi : i < 2 ^ 30) (h : Q (.str ⟨#[cp]⟩) σ) : v2 X k getItem (.str x) (.int i) Q σ := fun A F m s u v R S ra rb => by
  cases rb; cases ra
  have hlt : i < x.length := (Array.getElem?_eq_some_iff.mp hc).1
  refine PyProof.Rows.getItem_str (c := cp) ?_ ?_ (tok_str S h)
  · simp only [Bool.or_eq_false_iff, decide_eq_false_iff_not]; omega
  · rw [seqIndex_nat hlt]; exact hc

theorem isk {prog : Program} {w : World} {x : Str} {t : Tok} : (PySem.strKind prog w).is x (.str x t) = true := by show Value.isStrOf x (.str x t) = true; simp [Value.isStrOf]
theorem valueAt_rel {kvs : List (Str × Value)} {es : List (Str × PyData)} {F : Fz} (hn : kvs.map (·.1) = es.map (·.1)) (hr : RdAll X.prog X.w F (es.map (·.2)) (kvs.map (·.2))) (x : Str) :
    (es.lookup x = none ∧ valueAt kvs x = none) ∨ ∃ d v, es.lookup x = some d ∧ valueAt kvs x = some v ∧ Rd X.prog X.w F d v := by
  induction es generalizing kvs with
  | nil =>
    cases kvs with
    | nil => exact .inl ⟨rfl, rfl⟩
    | cons _ _ => simp at hn
  | cons p es ih =>
    cases kvs with
    | nil => simp at hn
    | cons q kvs =>
      simp only [List.map_cons, List.cons.injEq] at hn
      simp only [List.map_cons] at hr
      cases hr with
      | cons r1 r2 =>
      obtain ⟨pk, pd⟩ := p
      obtain ⟨qk, qv⟩ := q
      have e : qk = pk := hn.1
      subst e
      unfold valueAt
      rw [List.lookup_cons, List.find?_cons]
      by_cases hx : x = qk
      · subst hx
        right
        exact ⟨pd, qv, by simp, by simp, r1⟩
      · have h1 : (x == qk) = false := beq_eq_false_iff_ne.mpr hx
        have h2 : decide (qk = x) = false := decide_eq_false fun e => hx e.symm
        simp only [h1, h2]
        exact ih hn.2 r2

theorem v2_get_sd {es : List (Str × PyData)} {x : Str} {d : PyData} (hd : es.lookup x = some d) (h : Q (.dat d) σ) : v2 X k getItem (.dat (sd es)) (.str x) Q σ := fun A F m s u v R S ra rb => by
  cases rb with
  | @str _ tk ht =>
  obtain ⟨l, o, kvs, ep, keys, rfl, h3, hF, hdo, hn, hq, hr⟩ := Rd.sd ra
  rcases valueAt_rel hn hr x with ⟨h1, _⟩ | ⟨d', v', h1, h2, h4⟩
  · rw [hd] at h1; cases h1
  · rw [hd] at h1; cases h1
    exact wpAny_getItem_of (knd := strKind X.prog X.w) (k := x) isk ((hdo.at (S.fz _ _ hF hdo.nf)).dictOf.mapOf) h2 ⟨F, m, .dat d, σ, Go.tok S _, h4, h⟩

theorem v2_in_mr {i : Nat} {es : List (Str × PyData)} {x : Str} (hσ : σ[i]? = some (.dict es)) (h : Q (.bool (es.lookup x).isSome) σ) : v2 X k (compareOp .In) (.str x) (.mr i) Q σ := fun A F m s u v R S rb ra => by
  cases rb with
  | @str _ tk ht =>
  obtain ⟨l, rfl, hl⟩ := ra
  cases S.mr _ _ _ hl hσ with
  | @dict o kvs _ ep keys h3 ho hd hn hq hr =>
  refine wpAny_in_of (knd := strKind X.prog X.w) (k := x) isk (not_sys h3) (hd.at ho).dictOf.mapOf ⟨F, m, .bool (es.lookup x).isSome, σ, Go.tok S _, ?_, h⟩
  rcases valueAt_rel hn hr x with ⟨h1, h2⟩ | ⟨d', v', h1, h2, h4⟩ <;> rw [h1, h2] <;> exact vrb
theorem v2_notin_mr {i : Nat} {es : List (Str × PyData)} {x : Str} (hσ : σ[i]? = some (.dict es)) (h : Q (.bool (!(es.lookup x).isSome)) σ) : v2 X k (compareOp .NotIn) (.str x) (.mr i) Q σ := fun A F m s u v R S rb ra => by
  cases rb with
  | @str _ tk ht =>
  obtain ⟨l, rfl, hl⟩ := ra
  cases S.mr _ _ _ hl hσ with
  | @dict o kvs _ ep keys h3 ho hd hn hq hr =>
  refine wpAny_notIn_of (knd := strKind X.prog X.w) (k := x) isk (not_sys h3) (hd.at ho).dictOf.mapOf ⟨F, m, .bool (!(es.lookup x).isSome), σ, Go.tok S _, ?_, h⟩
  rcases valueAt_rel hn hr x with ⟨h1, h2⟩ | ⟨d', v', h1, h2, h4⟩ <;> rw [h1, h2] <;> exact vrb
theorem v2_get_mrd {i : Nat} {es : List (Str × PyData)} {x : Str} {d : PyData} (hσ : σ[i]? = some (.dict es)) (hd : es.lookup x = some d) (h : Q (.dat d) σ) : v2 X k getItem (.mr i) (.str x) Q σ := fun A F m s u v R S ra rb => by
  cases rb with
  | @str _ tk ht =>
  obtain ⟨l, rfl, hl⟩ := ra
  cases S.mr _ _ _ hl hσ with
  | @dict o kvs _ ep keys h3 ho hdo hn hq hr =>
  rcases valueAt_rel hn hr x with ⟨h1, _⟩ | ⟨d', v', h1, h2, h4⟩
  · rw [hd] at h1; cases h1
  · rw [hd] at h1; cases h1
    exact wpAny_getItem_of (knd := strKind X.prog X.w) (k := x) isk (hdo.at ho).dictOf.mapOf h2 ⟨F, m, .dat d, σ, Go.tok S _, h4, h⟩

noncomputable def dput (x : Str) (d : PyData) : List (Str × PyData) → List (Str × PyData)
  | [] => [(x, d)]
  | (y, e) :: r => if y = x then (y, d) :: r else (y, e) :: dput x d r

theorem stored_cons {a : Str × Value} {kvs : List (Str × Value)} {x : Str} {v : Value} (hn : a.1 ≠ x) : stored (a :: kvs) x v = a :: stored kvs x v := by
  unfold stored
  simp only [List.any_cons, decide_eq_false hn, Bool.false_or, List.map_cons, if_neg hn]
  split <;> rfl
theorem stored_head {y : Str} {e v : Value} {kvs : List (Str × Value)} (hnd : y ∉ kvs.map (·.1)) : stored ((y, e) :: kvs) y v = (y, v) :: kvs := by
  unfold stored
  simp only [List.any_cons, decide_true, Bool.true_or, if_true, List.map_cons, List.cons.injEq, true_and]
  refine (List.map_congr_left fun p hp => ?_).trans (List.map_id _)
  rw [if_neg fun e => hnd (List.mem_map.mpr ⟨p, hp, e⟩)]; rfl
theorem stored_rel {F : Fz} {x : Str} {d : PyData} {v : Value} (rd : Rd X.prog X.w F d v) : ∀ {kvs : List (Str × Value)} {es : List (Str × PyData)}, (kvs.map (·.1)).Nodup → kvs.map (·.1) = es.map (·.1) → RdAll X.prog X.w F (es.map (·.2)) (kvs.map (·.2)) →
    (stored kvs x v).map (·.1) = (dput x d es).map (·.1) ∧ RdAll X.prog X.w F ((dput x d es).map (·.2)) ((stored kvs x v).map (·.2))
  | [], [], _, _, _ => ⟨rfl, .cons rd .nil⟩
  | [], _ :: _, _, h, _ => by simp at h
  | _ :: _, [], _, h, _ => by simp at h
  | (y, u) :: kvs, (z, e) :: es, hnd, hn, hr => by
    simp only [List.map_cons, List.cons.injEq, List.nodup_cons] at hn hnd hr
    obtain ⟨e1, hn⟩ := hn
    subst e1
    cases hr with
    | cons r1 r2 =>
    unfold dput
    by_cases hx : y = x
    · subst hx
      rw [if_pos rfl, stored_head hnd.1]
      exact ⟨by simp [hn], .cons rd r2⟩
    · rw [if_neg hx, stored_cons hx]
      obtain ⟨h1, h2⟩ := stored_rel (x := x) rd hnd.2 hn r2
      exact ⟨by simp [h1], .cons r1 h2⟩

theorem dput_keys (x : Str) (d : PyData) : ∀ es : List (Str × PyData), (dput x d es).map (·.1) = if es.any (fun p => p.1 = x) then es.map (·.1) else es.map (·.1) ++ [x]
  | [] => by simp [dput]
  | (y, e) :: r => by
    unfold dput
    by_cases h : y = x
    · simp [h]
    · simp only [h, if_false, List.map_cons, dput_keys x d r, List.any_cons, decide_false, Bool.false_or]
      split <;> simp
theorem keyput_rel {F : Fz} {x : Str} {d : PyData} {key : Value} (rk : Rd X.prog X.w F (.str x) key) {kvs : List (Str × Value)} {es : List (Str × PyData)} {keys : List Value} (hn : kvs.map (·.1) = es.map (·.1))
    (hq : RdAll X.prog X.w F (List.map PyData.str (es.map (·.1))) keys) : RdAll X.prog X.w F (List.map PyData.str ((dput x d es).map (·.1))) (keyput kvs keys x key) := by
  have h1 : kvs.any (fun kv => kv.1 = x) = es.any (fun p => p.1 = x) := by
    have e1 : kvs.any (fun kv => kv.1 = x) = (kvs.map (·.1)).any (fun y => decide (y = x)) := by rw [List.any_map]; rfl
    have e2 : es.any (fun kv => kv.1 = x) = (es.map (·.1)).any (fun y => decide (y = x)) := by rw [List.any_map]; rfl
    rw [e1, e2, hn]
  rw [dput_keys, keyput, h1]
  split
  · exact hq
  · rw [List.map_append]; exact hq.append (.cons rk .nil)

theorem v3_set_mrd {i : Nat} {es : List (Str × PyData)} {x : Str} {d : PyData} {Q : List MO → Prop} (hσ : σ[i]? = some (.dict es)) (hl : es.length ≤ 1000) (h : Q (σ.set i (.dict (dput x d es)))) : v3 X k setItem (.mr i) (.str x) (.dat d) Q σ := fun A F m s u v y R S ra rb rd => by
  cases rb with
  | @str _ tk ht =>
  obtain ⟨l, rfl, hl'⟩ := ra
  cases S.mr _ _ _ hl' hσ with
  | @dict o kvs _ ep keys h3 ho hdo hn hq hr =>
  have hlen : kvs.length = es.length := by have := congrArg List.length hn; simpa using this
  have hnd : (kvs.map (·.1)).Nodup := let ⟨_, _, _, _, _, h, _⟩ := hdo; h
  refine setItem_pairs (x := x) isk ho hdo (by omega) (fun h' o' ep' ho' hd' hs' => ?_)
  obtain ⟨h1, h2⟩ := stored_rel (x := x) rd hnd hn hr
  exact ⟨F, m, (), _, Go.change (tk := s.toks + 1) S hl' hσ (by intro e; cases e) (fun b o hb e => (hs'.2 b hb).trans e) (ne_none ho') (.dict h3 ho' hd' h1 (keyput_rel (.str ht) hn hq) h2), rfl, h⟩

theorem setItem_plain {A : Around} {s : Shared} {E : Value → Shared → Prop} {l : Addr} {items : Array Value} {n : Nat} {k : Int} {t : Tok} {v : Value} {Q : Unit → Shared → Prop} (ho : s.heap.get? l = some { cls := .type "list", dict := none, data := .seq items n, slots := #[] })
    (h0 : 0 ≤ k) (hfit : k < 2 ^ 63) (hn : k < items.size) (hQ : Q () { s with heap := s.heap.update l (Obj.mapSeq (·.setIfInBounds k.toNat v)) }) : wpAny (model X.prog X.w) A (setItem (.ref l) (.int k t) v) Q E s := by
  have hT : s.TypeIs (.ref l) "list" := ⟨_, ho, rfl⟩
  unfold setItem
  try with_reducible refine wpAny_holding ?_
  first | refine wpAny_bind (wpAny_pure ?_) | skip
  refine wpAny_bind (wpAny_sequenceKey hT (by decide) ?_)
  refine wpAny_bind (wpAny_callSpecial?_slot (name := Str.ofString "__setitem__") hT slot_list_setitem
    (wpAny_call_entry slot_list_setitem hT entry_list_setitem ?_ (args_list_setitem _ _ _)))
  show wpAny _ _ (Builtin.List.listSubscript? (.int k t) >>= _) _ _ s
  refine wpAny_bind (wpAny_listSubscript_int (fitsIndex_of h0 hfit) ?_)
  clear hfit
  obtain ⟨j, rfl⟩ := Int.eq_ofNat_of_zero_le h0
  have hj : j < items.size := by omega
  have hx' : items[j]? = some items[j] := Array.getElem?_eq_getElem hj
  show wpAny _ _ ((seqItemAt l j >>= fun r => pure (r.map (j, ·))) >>= _) _ _ s
  refine wpAny_bind (wpAny_bind (wpAny_seqItemAt ho rfl (wpAny_pure ?_)))
  rw [hx']
  show wpAny _ _ (setSeqItemAt l j v >>= _) _ _ s
  refine wpAny_bind (wpAny_setSeqItemAt ho rfl ?_)
  first
    | exact wpAny_bind (wpAny_pure (wpAny_pure ⟨.none, rfl, wpAny_pure hQ⟩))
    | exact wpAny_pure ⟨.none, rfl, wpAny_pure hQ⟩
theorem v3_set_mr {j i : Nat} {ds : List PyData} {d : PyData} {Q : List MO → Prop} (hσ : σ[j]? = some (.lst ds)) (hi : i < ds.length) (hfit : i < 2 ^ 30) (h : Q (σ.set j (.lst (ds.set i d)))) : v3 X k setItem (.mr j) (.int i) (.dat d) Q σ := fun A F m s u v y R S ra rb rd => by
  cases rb
  obtain ⟨l, rfl, hl'⟩ := ra
  cases S.mr _ _ _ hl' hσ with
  | @lst vs n _ hg hr =>
  have hlt : (i : Int) < vs.toArray.size := by have := hr.length; simp; omega
  refine setItem_plain hg (by omega) (by omega) hlt ?_
  rw [Int.toNat_natCast]
  have hup : (s.heap.update l (Obj.mapSeq (·.setIfInBounds i y))).get? l = some (lstObj (vs.set i y) n) := by
    rw [Heap.get?_update_self _ hg rfl]; simp [Obj.mapSeq, lstObj]
  exact ⟨F, m, (), _, Go.change (tk := s.toks) S hl' hσ (by intro e; cases e) (fun b o hb e => (Heap.get?_update_other _ _ (Ne.symm hb)).trans e) (ne_none hup) (.lst hup (hr.set rd i)), rfl, h⟩
end
end Mine
end

section -- PgL
open PySem PySem.W PyProof.Rows PySem.Calls PySem.SeqAt
set_option Elab.async false
namespace Mine
set_option autoImplicit false
set_option linter.unusedVariables false

inductive Sl (ds : List PyData) : Option Int → Option Int → List PyData → Prop
  | all : Sl ds none none ds
  | from (a : Nat) : Sl ds (some a) none (ds.drop a)
  | upto (b : Nat) : Sl ds none (some b) (ds.take b)

section
variable {X : Wd} {c : Cx} {k : Nat} {loc : Loc} {σ : List MO} {Q : AV → List MO → Prop}

noncomputable def prt (X : Wd) (c : Cx) (k : Nat) : Option Expr → (Option Int → List MO → Prop) → Loc → List MO → Prop
  | none, Q, _, σ => Q none σ
  | some e, Q, loc, σ => ewp X c k e (fun b σ1 => ∃ i : Int, b = .int i ∧ Q (some i) σ1) loc σ

theorem prt.use {e : Option Expr} {Q : Option Int → List MO → Prop} (h : prt X c k e Q loc σ) {A : Around} {env : Env} {W : List Nat} {F : Fz} {m : List Nat} {s : Shared} (R : Room A k) (S : St X.prog X.w X.h0 F m σ s)
    (E : En X.prog X.w c env W loc F m s.heap) {Q' : Value → Shared → Prop} {Er : Value → Shared → Prop}
    (q : ∀ F' m' p σ' v s', Go X.prog X.w X.h0 F m s F' m' σ' s' → IsPart v p → Q p σ' → En X.prog X.w c env W loc F' m' s'.heap → Q' v s') : wpAny (model X.prog X.w) A (evalPart e env) Q' Er s := by
  cases e with
  | none => exact wpAny_evalPart_none (q F m none σ .none s (Go.refl S) .none h E)
  | some e =>
    refine wpAny_evalPart_some (ewp.use h R S E fun F1 m1 b σ1 v s1 g1 r1 ⟨i, e, q1⟩ E1 => ?_)
    subst e
    cases r1
    exact q F1 m1 (some i) σ1 _ s1 g1 (.int _ _) q1 E1

theorem RdAll.sl {F : Fz} {ds : List PyData} {vs : List Value} {lo hi : Option Int} {ds' : List PyData} (h : RdAll X.prog X.w F ds vs) (hs : Sl ds lo hi ds') : ∃ vs', slicePick vs.toArray lo hi none = vs'.toArray ∧ RdAll X.prog X.w F ds' vs' := by
  cases hs with
  | all => exact ⟨vs, slicePick_all _, h⟩
  | «from» a => exact ⟨vs.drop a, by rw [slicePick_from'], h.drop a⟩
  | upto b => exact ⟨vs.take b, by rw [slicePick_upto'], h.take b⟩

inductive LstIs (σ : List MO) : AV → List PyData → Prop
  | dat {ds} : LstIs σ (.dat (.list ds)) ds
  | mr {i ds} : σ[i]? = some (.lst ds) → LstIs σ (.mr i) ds
theorem LstIs.at {a : AV} {ds : List PyData} (h : LstIs σ a ds) {F : Fz} {m : List Nat} {s : Shared} {u : Value} (S : St X.prog X.w X.h0 F m σ s) (r : VR X.prog X.w F m a u) : ∃ l vs n, u = .ref l ∧ s.heap.get? l = some (lstObj vs n) ∧ RdAll X.prog X.w F ds vs := by
  cases h with
  | dat => cases r with | list hF hr => exact ⟨_, _, _, rfl, S.fz _ _ hF rfl, hr⟩
  | mr hσ =>
    obtain ⟨l, rfl, hl⟩ := r
    cases S.mr _ _ _ hl hσ with
    | lst hg hr => exact ⟨_, _, _, rfl, hg, hr⟩

theorem ewp_Slice {value : Expr} {lo hi : Option Expr} {p pos : Pos} (h : ewp X c k value (fun a σ₁ => prt X c k lo (fun x σ₂ => prt X c k hi (fun y σ₃ => ∃ ds ds', LstIs σ₃ a ds ∧ ds.length ≤ 1000 ∧ Sl ds x y ds' ∧ Q (.dat (.list ds')) σ₃) loc σ₂) loc σ₁) loc σ) :
    ewp X c k (.Subscript value (.Slice lo hi none p) pos) Q loc σ := fun A env W F m s R S E =>
  Subscript_ (h.use R S E fun F1 m1 a σ1 u s1 g1 ra qa E1 => wpAny_Slice (prt.use qa R g1.st E1 fun F2 m2 x σ2 v s2 g2 px qb E2 => prt.use qb R g2.st E2 fun F3 m3 y σ3 v' s3 g3 py ⟨ds, ds', hl, hn, hsl, q⟩ E3 => by
    rw [evalPart_none]
    refine wpAny_pure ?_
    have g4 : Go X.prog X.w X.h0 F3 m3 s3 F3 m3 σ3 { s3 with heap := s3.heap.push { cls := .type "slice", data := .fields #[v, v', .none] } } := Go.grow (tk := s3.toks) g3.st push_some
    obtain ⟨l, vs, n, rfl, hg, hr⟩ := hl.at g4.st (g3.vr (g2.vr ra))
    obtain ⟨vs', e1, hr'⟩ := hr.sl hsl
    refine tail_any (ops := [.ref s3.heap.objs.size, .ref l]) (T := "list") ⟨_, hg, rfl⟩ slot_list_getitem.lookup (wpAny_getItem_list_slice (items := vs.toArray) ⟨_, hg, rfl, n, rfl⟩ (Heap.IsSliceOf.new ..) px py .none (by simp) ?_ (by have := hr.length; rw [sizeLine_eq]; simp; omega)) rfl
    rw [e1]
    refine ⟨_, m3, .dat (.list ds'), σ3, ((g1.trans g2).trans g3).trans (g4.trans (Go.frz (tk := s3.toks) (o := lstObj vs' 0) g4.st push_some (fresh_size _) (Heap.get?_push_size _ rfl))), Rd.list (vs := vs') (n := 0) (.inr ⟨rfl, rfl⟩) (hr'.mono fun _ _ h => .inl h), q⟩))

noncomputable def cutFrom (x : Str) (i : Int) : Str := ⟨((slicePicked x (some (i, 0)) none none).filterMap (x.cps[·]?)).toArray⟩
theorem ewp_SliceS {value lo : Expr} {p pos : Pos} (h : ewp X c k value (fun a σ₁ => ewp X c k lo (fun b σ₂ => ∃ (x : Str) (i : Int), a = .str x ∧ b = .int i ∧ (cutFrom x i).length ≤ 1000 ∧ (slicePicked x (some (i, 0)) none none).length ≠ x.length ∧ Q (.str (cutFrom x i)) σ₂) loc σ₁) loc σ) :
    ewp X c k (.Subscript value (.Slice (some lo) none none p) pos) Q loc σ := fun A env W F m s R S E =>
  Subscript_ (h.use R S E fun F1 m1 a σ1 u s1 g1 ra qa E1 => wpAny_Slice (wpAny_evalPart_some (qa.use R g1.st E1 fun F2 m2 b σ2 v s2 g2 rb ⟨x, i, e1, e2, hl, hne, q⟩ E2 => by
    subst e1; subst e2
    rw [evalPart_none]
    refine wpAny_pure (wpAny_pure ?_)
    cases rb with
    | int _ tk =>
    cases ra with
    | @str _ tx _ =>
    have g4 : Go X.prog X.w X.h0 F2 m2 s2 F2 m2 σ2 { s2 with heap := s2.heap.push { cls := .type "slice", data := .fields #[.int i tk, .none, .none] } } := Go.grow (tk := s2.toks) g2.st push_some
    refine tail_any (ops := [.ref s2.heap.objs.size, .str x tx]) (T := "str") (by trivial) PySem.F.slot_str_getitem.lookup (wpAny_getItem_str_slice (l := some (i, tk)) (u := none) (st := none) ⟨_, Heap.get?_push_size _ rfl, rfl, rfl⟩ rfl ?_) rfl
    unfold sliceMade
    have hne' : ¬ ((Option.map (fun x : Int × Tok => x.1) none).getD 1 == 1 && (slicePicked x (some (i, tk)) none none).length == x.length) = true := by
      have : (slicePicked x (some (i, tk)) none none).length = (slicePicked x (some (i, 0)) none none).length := rfl
      rw [this]
      simp [hne]
    rw [if_neg hne']
    refine ⟨by rw [sizeLine_eq]; exact Nat.le_trans hl (by decide), ?_⟩
    obtain ⟨F', m', x', σ', g5, r5, q5⟩ := tok_str g4.st q
    exact ⟨F', m', x', σ', ((g1.trans g2).trans g4).trans g5, r5, q5⟩)))
end
end Mine
end

section -- PgM
open PySem PySem.W PyProof.Rows PySem.Calls PySem.SeqAt
set_option Elab.async false
namespace Mine
set_option autoImplicit false
set_option linter.unusedVariables false

noncomputable def Kp (X : Wd) (f : Value) : Prop := ∀ (M : Model) (h : Heap), X.K.In h → ∃ k, (k = Keeper.frame ∨ k = Keeper.machine ∨ k = Keeper.boundFrame) ∧ Looks M h (keeperOf f) k

theorem VRs.append {prog : Program} {w : World} {F : Fz} {m : List Nat} {as bs : List AV} {us vs : List Value} (h : VRs prog w F m as us) (h2 : VRs prog w F m bs vs) : VRs prog w F m (as ++ bs) (us ++ vs) := by
  induction h with
  | nil => exact h2
  | cons x _ ih => exact .cons x ih

section
variable {X : Wd} {c : Cx} {k : Nat} {loc : Loc} {σ : List MO} {Q : AV → List MO → Prop}

theorem Kp.builtin {id : String} : Kp X (.builtin id) := fun M h _ => ⟨.machine, .inr (.inl rfl), .now⟩
theorem Kp.type {T : String} : Kp X (.type T) := fun M h _ => ⟨.machine, .inr (.inl rfl), .now⟩
theorem Kp.of {f : Value} (hk : keepIn X.K f = true) : Kp X f := fun M h x => keeps_K hk h x

theorem St.K {F : Fz} {m : List Nat} {s : Shared} (S : St X.prog X.w X.h0 F m σ s) : X.K.In s.heap := X.kin.keeps S.start

theorem call_ok {A : Around} {env : Env} {W : List Nat} {F : Fz} {m : List Nat} {s : Shared} {f : Value} {first : List Value} {fa : List AV} {e : Expr} {rest : List Expr} {kws : List Keyword} {pos : Pos} {kn : List Str}
    (R : Room A k) (S : St X.prog X.w X.h0 F m σ s) (E : En X.prog X.w c env W loc F m s.heap) (hf : Kp X f) (ra : VRs X.prog X.w F m fa first)
    (h : asp X c k (e :: rest) (fun as σ1 => ksp X c k kws (fun ks σ2 => fwp X k f (fa ++ as) kn ks Q σ2) loc σ1) loc σ)
    (hkn : (backToKw pos (keywordEach kws env)).filterMap (·.1) = kn) (hall : (backToKw pos (keywordEach kws env)).all (·.1.isSome) = true)
    (hplain : ((backTo pos (starEach (e :: rest) env)).any (·.1) || (backToKw pos (keywordEach kws env)).any (·.1.isNone)) = false)
    (he : starEach (e :: rest) env = (false, eval e env) :: starEach rest env) :
    AW X.prog X.w X.h0 A (callWith pos f first (backTo pos (starEach (e :: rest) env)) (backToKw pos (keywordEach kws env))) Q F m s := by
  refine callWith_of (P := X.K.In) hplain (fun h x => hf _ h x) ?_
  refine evalArgs_kw2 hall ?_ he
  refine (h A env W F m s pos R S E).use fun F1 m1 as σ1 us s1 g1 r1 q1 => ?_
  refine (q1 A env W F1 m1 s1 pos R g1.st (E.go g1)).use fun F2 m2 ks σ2 vs s2 g2 r2 q2 => ⟨g2.st.K, ?_⟩
  rw [hkn]
  exact GW.after (g1.trans g2) (q2 A F2 m2 s2 _ vs R g2.st (((g1.trans g2).vrs ra).append (g2.vrs r1)) r2)
theorem call_ok0 {A : Around} {env : Env} {F : Fz} {m : List Nat} {s : Shared} {f : Value} {first : List Value} {fa : List AV} {pos : Pos}
    (R : Room A k) (S : St X.prog X.w X.h0 F m σ s) (hf : Kp X f) (ra : VRs X.prog X.w F m fa first) (h : fwp X k f fa [] [] Q σ) :
    AW X.prog X.w X.h0 A (callWith pos f first (backTo pos (starEach [] env)) []) Q F m s := by
  refine callWith_of (P := X.K.In) rfl (fun h x => hf _ h x) (evalArgs_nil3 ⟨S.K, ?_⟩)
  rw [List.append_nil]
  exact h A F m s first [] R S ra .nil

theorem ewp_Call {func e : Expr} {rest : List Expr} {kws : List Keyword} {pos : Pos} {kn : List Str}
    (h : ewp X c k func (fun a σ1 => ∃ f, a = .opq f ∧ Kp X f ∧ asp X c k (e :: rest) (fun as σ2 => ksp X c k kws (fun ks σ3 => fwp X k f as kn ks Q σ3) loc σ2) loc σ1) loc σ)
    (hkn : ∀ env, (backToKw pos (keywordEach kws env)).filterMap (·.1) = kn := by intro _; rfl) (hall : ∀ env, (backToKw pos (keywordEach kws env)).all (·.1.isSome) = true := by intro _; rfl)
    (hplain : ∀ env, ((backTo pos (starEach (e :: rest) env)).any (·.1) || (backToKw pos (keywordEach kws env)).any (·.1.isNone)) = false := by intro _; rfl)
    (he : ∀ env, starEach (e :: rest) env = (false, eval e env) :: starEach rest env := by intro _; rfl)
    (hc : ∀ env, eval (.Call func (e :: rest) kws pos) env = (do callWith pos (← eval func env) [] (backTo pos (starEach (e :: rest) env)) (backToKw pos (keywordEach kws env))) := by intro _; rfl) :
    ewp X c k (.Call func (e :: rest) kws pos) Q loc σ := fun A env W F m s R S E => by
  show wpAny _ A (eval (.Call func (e :: rest) kws pos) env) _ _ s
  rw [hc env]
  refine wpAny_bind (h.use R S E fun F1 m1 a σ1 u s1 g1 ra ⟨f, e1, hf, q1⟩ E1 => ?_)
  subst e1
  cases ra
  exact GW.after g1 (call_ok R g1.st E1 hf .nil q1 (hkn env) (hall env) (hplain env) (he env))

noncomputable def mth (X : Wd) (k : Nat) (name : Str) (a : AV) (f : Value) (σ : List MO) : Prop :=
  ∀ A F m s u pl, Room A k → St X.prog X.w X.h0 F m σ s → VR X.prog X.w F m a u → wpAny (model X.prog X.w) A (getMethod u name pl) (fun r s' => r = (f, [u]) ∧ Go X.prog X.w X.h0 F m s F m σ s') (fun _ _ => False) s

theorem ewp_Meth {o e : Expr} {name : Str} {rest : List Expr} {kws : List Keyword} {apos pos : Pos} {kn : List Str} {pl : Env → Sem Bool}
    (h : ewp X c k o (fun a σ1 => ∃ f, mth X k name a f σ1 ∧ Kp X f ∧ asp X c k (e :: rest) (fun as σ2 => ksp X c k kws (fun ks σ3 => fwp X k f (a :: as) kn ks Q σ3) loc σ2) loc σ1) loc σ)
    (hkn : ∀ env, (backToKw pos (keywordEach kws env)).filterMap (·.1) = kn := by intro _; rfl) (hall : ∀ env, (backToKw pos (keywordEach kws env)).all (·.1.isSome) = true := by intro _; rfl)
    (hplain : ∀ env, ((backTo pos (starEach (e :: rest) env)).any (·.1) || (backToKw pos (keywordEach kws env)).any (·.1.isNone)) = false := by intro _; rfl)
    (he : ∀ env, starEach (e :: rest) env = (false, eval e env) :: starEach rest env := by intro _; rfl)
    (hc : ∀ env, eval (.Call (.Attribute o name apos) (e :: rest) kws pos) env = (do
      let ov ← eval o env
      standAt apos.atName
      let (f, first) ← holding [ov] (getMethod ov name (pl env))
      callWith pos f first (backTo pos (starEach (e :: rest) env)) (backToKw pos (keywordEach kws env))) := by intro _; rfl) :
    ewp X c k (.Call (.Attribute o name apos) (e :: rest) kws pos) Q loc σ := fun A env W F m s R S E =>
  methodCall_KW (pl := pl env) (h.use R S E fun F1 m1 a σ1 u s1 g1 ra ⟨f, hm, hf, q1⟩ E1 => xafter (hm A F1 m1 s1 u (pl env) R g1.st ra) fun fx s2 ⟨e2, g2⟩ => by
    subst e2
    exact GW.after (g1.trans g2) (call_ok (fa := [a]) R g2.st (E1.go g2) hf (.cons (g2.vr ra) .nil) q1 (hkn env) (hall env) (hplain env) (he env))) (hc env)
theorem ewp_Meth0 {o : Expr} {name : Str} {apos pos : Pos} {pl : Env → Sem Bool}
    (h : ewp X c k o (fun a σ1 => ∃ f, mth X k name a f σ1 ∧ Kp X f ∧ fwp X k f [a] [] [] Q σ1) loc σ)
    (hc : ∀ env, eval (.Call (.Attribute o name apos) [] [] pos) env = (do
      let ov ← eval o env
      standAt apos.atName
      let (f, first) ← holding [ov] (getMethod ov name (pl env))
      callWith pos f first (backTo pos (starEach [] env)) []) := by intro _; rfl) :
    ewp X c k (.Call (.Attribute o name apos) [] [] pos) Q loc σ := fun A env W F m s R S E =>
  MethodCall_ (pl := pl env) (h.use R S E fun F1 m1 a σ1 u s1 g1 ra ⟨f, hm, hf, q1⟩ E1 => xafter (hm A F1 m1 s1 u (pl env) R g1.st ra) fun fx s2 ⟨e2, g2⟩ => by
    subst e2
    exact GW.after (g1.trans g2) (call_ok0 (fa := [a]) R g2.st hf (.cons (g2.vr ra) .nil) q1)) (hc env)

theorem mth_builtin {a : AV} {T id : String} {name : Str} (hT : HasT a σ T) (pa : PlainAttrs T) (slot : Slot T name id) (hty : typeOf (.builtin id) = pure (.type "method_descriptor")) : mth X k name a (.builtin id) σ :=
  fun A F m s u pl R S ra => getMethod_builtin (hT.ok S ra).1 pa slot hty (hT.ok S ra).2 ⟨rfl, Go.refl S⟩

theorem instAt {C da : Addr} {n : Str} {t : Tok} {v : Value} {ep : Nat} {F : Fz} {m : List Nat} {s : Shared} {a : Nat} (S : St X.prog X.w X.h0 F m σ s) (h1 : F a (instObj C da)) (h2 : F da (attrObj X.w.params n t v ep)) :
    InstAt s.heap a (instObj C da) C (some (dictOf [⟨PyData.keyHash X.w.params n, .str n t, v⟩] ep)) :=
  ⟨S.fz _ _ h1 rfl, rfl, rfl, S.fz _ _ h2 rfl⟩
theorem isStr_self {n : Str} {t : Tok} : (Value.str n t).isStr n = true := by simp [Value.isStr]
theorem mth_inst {C : Addr} {n name : Str} {x : AV} {f : Addr} (hg : plainGet X.K C name = true) (hf : findIn X.K (.ref C) name = some (some (.ref f))) (ht : isFn X.K (.ref f) = true) (hn : n ≠ name) : mth X k name (.inst C n x) (.ref f) σ :=
  fun A F m s u pl R S ⟨a, da, t, ep, v, e, h1, h2, r⟩ => by
    subst e
    refine method_fn S.K (instAt S h1 h2) (plainGet_of hg).1 (plainGet_of hg).2 hf (beq_iff_eq.mp ht) ?_ ⟨rfl, Go.refl S⟩
    show (lookIn name (dictOf _ _)).map _ = _
    rw [lookIn_dict]
    have hs : (Value.str n t).isStr name = false := by simp [Value.isStr, hn]
    simp [getL, hs, DictEntry.refKey]

theorem ewp_Attr {value : Expr} {attr : Str} {pos : Pos} (h : ewp X c k value (fun a σ1 => ∃ C x at', a = .inst C attr x ∧ plainGet X.K C attr = true ∧ hasDictIn X.K C = true ∧ findIn X.K (.ref C) attr = some at' ∧ noGet X.K at' = true ∧ (∀ v, x ≠ .opq v) ∧ Q x σ1) loc σ)
    (he : ∀ env, eval (.Attribute value attr pos) env = (do
      let o ← eval value env
      standAt pos.atName
      let r ← holding [o] (getAttr o attr true)
      letTemporaryGo value o r
      pure r) := by intro _; with_unfolding_all rfl) (hl : ∀ o r, letTemporaryGo value o r = pure () := by intro _ _; rfl) : ewp X c k (.Attribute value attr pos) Q loc σ := fun A env W F m s R S E => by
  show wpAny _ A (eval (.Attribute value attr pos) env) _ _ s
  rw [he env]
  refine wpAny_bind (h.use R S E fun F1 m1 a σ1 u s1 g1 ra ⟨C, x, at', e1, hg, hh, ha, hn, hx, q⟩ E1 => ?_)
  subst e1
  obtain ⟨b, da, t, ep, v, e, h1, h2, r⟩ := ra
  subst e
  refine wpAny_bind (wpAny_standAt (wpAny_bind (wpAny_holding ?_)))
  have hv : handedIn v = true := by
    cases x with
    | dat d => cases r <;> rfl
    | mr i => obtain ⟨l, rfl, _⟩ := r; rfl
    | opq v => exact absurd rfl (hx v)
    | inst c n x => obtain ⟨l, _, _, _, _, rfl, _⟩ := r; rfl
    | rng n => obtain ⟨l, _, _, _, rfl, _⟩ := r; rfl
    | view es => obtain ⟨l, _, rfl, _⟩ := r; rfl
  have hl' : getL attr [⟨PyData.keyHash X.w.params attr, .str attr t, v⟩] = some (some v) := by simp [getL, isStr_self]
  refine get_value g1.st.K (instAt g1.st h1 h2) (plainGet_of hg).1 (findObj_own hh ha hn hl') hv ?_
  rw [hl]
  exact wpAny_bind (wpAny_pure (wpAny_pure ⟨F1, m1, x, σ1, g1.trans (Go.tok g1.st _), r, q⟩))
end
end Mine
end

section -- PgN
open PySem PySem.W PyProof.Rows PySem.Calls PySem.SeqAt PySem.Builtin.Str
set_option Elab.async false
namespace Mine
set_option autoImplicit false
set_option linter.unusedVariables false

noncomputable abbrev AV.none : AV := .dat .none

section
variable {X : Wd} {c : Cx} {k : Nat} {loc : Loc} {σ : List MO} {Q : AV → List MO → Prop}

theorem VRs.one {prog : Program} {w : World} {F : Fz} {m : List Nat} {a : AV} {us : List Value} (h : VRs prog w F m [a] us) : ∃ u, us = [u] ∧ VR prog w F m a u := by
  cases h with | cons h1 h2 => cases h2; exact ⟨_, rfl, h1⟩
theorem VRs.two {prog : Program} {w : World} {F : Fz} {m : List Nat} {a b : AV} {us : List Value} (h : VRs prog w F m [a, b] us) : ∃ u v, us = [u, v] ∧ VR prog w F m a u ∧ VR prog w F m b v := by
  cases h with | cons h1 h2 => obtain ⟨v, rfl, h3⟩ := h2.one; exact ⟨_, _, rfl, h1, h3⟩
theorem VRs.three {prog : Program} {w : World} {F : Fz} {m : List Nat} {a b d : AV} {us : List Value} (h : VRs prog w F m [a, b, d] us) : ∃ u v x, us = [u, v, x] ∧ VR prog w F m a u ∧ VR prog w F m b v ∧ VR prog w F m d x := by
  cases h with | cons h1 h2 => obtain ⟨v, x, rfl, h3, h4⟩ := h2.two; exact ⟨_, _, _, rfl, h1, h3, h4⟩
theorem VRs.zero {prog : Program} {w : World} {F : Fz} {m : List Nat} {us : List Value} (h : VRs prog w F m [] us) : us = [] := by cases h; rfl

theorem f_append {i : Nat} {ds : List PyData} {d : PyData} (hσ : σ[i]? = some (.lst ds)) (hl : ds.length ≤ 1000) (h : Q .none (σ.set i (.lst (ds ++ [d])))) : fwp X k (.builtin "list.append") [.mr i, .dat d] [] [] Q σ := fun A F m s us vs R S r0 rk => by
  obtain ⟨u, v, rfl, ⟨l, rfl, hl'⟩, rd⟩ := r0.two
  cases rk.zero
  cases S.mr _ _ _ hl' hσ with
  | @lst vs n _ hg hr =>
  have hT : s.TypeIs (.ref l) "list" := ⟨_, hg, rfl⟩
  have hsz : vs.toArray.size ≤ sizeLine := by have := hr.length; rw [sizeLine_eq]; simp; omega
  refine wpAny_call_entry slot_list_append hT entry_list_append ?_ (args_list_append _ _)
  show wpAny _ _ (updateSeq l (·.push v) >>= fun _ => ret .none) _ _ s
  refine wpAny_bind (wpAny_updateSeq hg rfl (hz := hsz) (wpAny_pure ⟨.none, rfl, ?_⟩))
  have hup : (s.heap.update l (Obj.mapSeq (·.push v))).get? l = some (lstObj (vs ++ [v]) (n + 1)) := by
    rw [Heap.get?_update_self _ hg rfl]; simp [Obj.mapSeq, lstObj]
  exact ⟨F, m, .none, _, Go.change (tk := s.toks) S hl' hσ (by intro e; cases e) (fun b o hb e => (Heap.get?_update_other _ _ (Ne.symm hb)).trans e) (ne_none hup) (.lst hup (hr.append (.cons rd .nil))), Rd.none, h⟩

theorem f_pop {i : Nat} {ds : List PyData} {d : PyData} (hσ : σ[i]? = some (.lst (ds ++ [d]))) (hl : ds.length ≤ 1000) (h : Q (.dat d) (σ.set i (.lst ds))) : fwp X k (.builtin "list.pop") [.mr i] [] [] Q σ := fun A F m s us vs R S r0 rk => by
  obtain ⟨u, rfl, l, rfl, hl'⟩ := r0.one
  cases rk.zero
  cases S.mr _ _ _ hl' hσ with
  | @lst vs n _ hg hr =>
  have hT : s.TypeIs (.ref l) "list" := ⟨_, hg, rfl⟩
  have hln : vs.length = ds.length + 1 := by have := hr.length; simpa using this.symm
  have hsz : vs.toArray.size ≤ sizeLine := by rw [sizeLine_eq]; simp; omega
  obtain ⟨y, hy, ry⟩ := hr.get (k := ds.length) (d := d) (by simp)
  have hsplit : vs = vs.take ds.length ++ [y] := by
    rw [List.getElem?_eq_some_iff] at hy
    obtain ⟨hlt, e⟩ := hy
    conv => lhs; rw [← List.take_append_drop ds.length vs]
    congr 1
    rw [List.drop_eq_getElem_cons hlt, e, List.drop_of_length_le (by omega)]
  have hr' : RdAll X.prog X.w F ds (vs.take ds.length) := by have := hr.take ds.length; simpa using this
  refine call_meets PySem.F.slot_list_pop hT PySem.F.entry_list_pop (PySem.F.args_list_pop_1 _) (PySem.MeetsSeq.list_pop_last l vs.toArray n y (by simp only [List.size_toArray, hln, Nat.add_sub_cancel, List.getElem?_toArray]; exact hy) hsz) ⟨hg, ?_⟩
  have hup : (s.heap.update l (Obj.mapSeq fun xs => xs.eraseIdxIfInBounds (vs.toArray.size - 1))).get? l = some (lstObj (vs.take ds.length) (n + 1)) := by
    rw [Heap.get?_update_self _ hg rfl]
    have e1 : vs.toArray.eraseIdxIfInBounds (vs.toArray.size - 1) = (vs.take ds.length).toArray := by
      rw [List.eraseIdxIfInBounds_toArray]
      congr 1
      simp only [List.size_toArray, hln, Nat.add_sub_cancel]
      conv => lhs; rw [hsplit]
      rw [List.eraseIdx_append_of_length_le (by simp; omega)]
      simp [hln]
    simp only [Obj.mapSeq, e1]
    congr 3
    rw [if_neg]; simp [hln]
  exact ⟨F, m, .dat d, _, Go.change (tk := s.toks) S hl' hσ (by intro e; cases e) (fun b o hb e => (Heap.get?_update_other _ _ (Ne.symm hb)).trans e) (ne_none hup) (.lst hup hr'), ry, h⟩

theorem f_len {a : AV} {ds : List PyData} (ha : LstIs σ a ds) (hl : ds.length ≤ 1000) (h : Q (.int ds.length) σ) : fwp X k (.builtin "len") [a] [] [] Q σ := fun A F m s us vs R S r0 rk => by
  obtain ⟨u, rfl, ru⟩ := r0.one
  cases rk.zero
  obtain ⟨l, vs, n, rfl, hg, hr⟩ := ha.at S ru
  have hln : vs.toArray.size = ds.length := by have := hr.length; simp [this]
  refine call_len_list (items := vs.toArray) ⟨_, hg, rfl, n, rfl⟩ (by omega) ?_
  rw [hln]
  exact ⟨F, m, _, σ, Go.tok S _, vri, h⟩

theorem f_get_sd {es : List (Str × PyData)} {x : Str} {d : PyData} (h : Q (.dat ((es.lookup x).getD d)) σ) : fwp X k (.builtin "dict.get") [.dat (sd es), .str x, .dat d] [] [] Q σ := fun A F m s us vs R S r0 rk => by
  obtain ⟨u, v, y, rfl, ra, rb, rd⟩ := r0.three
  cases rk.zero
  cases rb with
  | @str _ tk ht =>
  obtain ⟨l, o, kvs, ep, keys, rfl, h3, hF, hdo, hn, hq, hr⟩ := Rd.sd ra
  have hat := (hdo.at (S.fz _ _ hF hdo.nf)).dictOf
  refine call_meetsIn PySem.F.slot_dict_get hat.typeIs PySem.F.entry_dict_get (PySem.F.args_dict_get_3 _ _ _) (meets_dict_get_default (strKind X.prog X.w) (k := x) l isk (not_sys h3) y) ⟨_, hat.mapOf, ?_⟩
  refine ⟨F, m, _, σ, Go.tok S _, ?_, h⟩
  rcases valueAt_rel hn hr x with ⟨h1, h2⟩ | ⟨d', v', h1, h2, h4⟩ <;> rw [h1, h2]
  · exact rd
  · exact h4
theorem f_get_mrd {i : Nat} {es : List (Str × PyData)} {x : Str} {d : PyData} (hσ : σ[i]? = some (.dict es)) (h : Q (.dat ((es.lookup x).getD d)) σ) : fwp X k (.builtin "dict.get") [.mr i, .str x, .dat d] [] [] Q σ := fun A F m s us vs R S r0 rk => by
  obtain ⟨u, v, y, rfl, ⟨l, rfl, hl⟩, rb, rd⟩ := r0.three
  cases rk.zero
  cases rb with
  | @str _ tk ht =>
  cases S.mr _ _ _ hl hσ with
  | @dict o kvs _ ep keys h3 ho hdo hn hq hr =>
  have hat := (hdo.at ho).dictOf
  refine call_meetsIn PySem.F.slot_dict_get hat.typeIs PySem.F.entry_dict_get (PySem.F.args_dict_get_3 _ _ _) (meets_dict_get_default (strKind X.prog X.w) (k := x) l isk (not_sys h3) y) ⟨_, hat.mapOf, ?_⟩
  refine ⟨F, m, _, σ, Go.tok S _, ?_, h⟩
  rcases valueAt_rel hn hr x with ⟨h1, h2⟩ | ⟨d', v', h1, h2, h4⟩ <;> rw [h1, h2]
  · exact rd
  · exact h4
theorem f_items {es : List (Str × PyData)} (h : Q (.view es) σ) : fwp X k (.builtin "dict.items") [.dat (sd es)] [] [] Q σ := fun A F m s us vs R S r0 rk => by
  obtain ⟨u, rfl, ra⟩ := r0.one
  cases rk.zero
  have ra' := ra
  obtain ⟨l, o, kvs, ep, keys, rfl, h3, hF, hdo, hn, hq, hr⟩ := Rd.sd ra
  have hat := (hdo.at (S.fz _ _ hF hdo.nf)).dictOf
  refine call_meetsIn PySem.F.slot_dict_items hat.typeIs PySem.F.entry_dict_items (PySem.F.args_dict_items_1 _) (meets_dict_items (strKind X.prog X.w) l (not_sys h3)) ⟨⟨_, hat⟩, ?_⟩
  exact ⟨_, m, .view es, σ, Go.frz (tk := s.toks) (o := viewObj l) S push_some (fresh_size _) (Heap.get?_push_size _ rfl), ⟨_, l, rfl, .inr ⟨rfl, rfl⟩, Rd.mono (fun _ _ h => .inl h) ra'⟩, h⟩

noncomputable def low (x : Str) : Str := ⟨placed x fun i _ => Unicode.lowerAt x.cps i⟩
noncomputable def upp (x : Str) : Str := ⟨placed x fun _ c => Unicode.upperOf c⟩
theorem f_lower {x : Str} (hl : (low x).length ≤ 1000) (h : Q (.str (low x)) σ) : fwp X k (.builtin "str.lower") [.str x] [] [] Q σ := fun A F m s us vs R S r0 rk => by
  obtain ⟨u, rfl, ra⟩ := r0.one
  cases rk.zero
  cases ra with
  | @str _ tk ht =>
  have ht : tooLong (low x).cps.size = false := by
    unfold tooLong; simp only [decide_eq_false_iff_not]; have : (low x).cps.size ≤ 1000 := hl; rw [sizeLine_eq]; omega
  exact call_gives PySem.F.slot_str_lower (by trivial) PySem.F.entry_str_lower (PySem.F.args_str_lower_1 _) (gives_str_lower x tk ht) (mk_str S hl h)

theorem t_str {i : Int} (hi : i.natAbs.log2 < 1920) (hl : (Str.ofString (toString i)).length ≤ 1000) (h : Q (.str (Str.ofString (toString i))) σ) : fwp X k (.type "str") [.int i] [] [] Q σ := fun A F m s us vs R S r0 rk => by
  obtain ⟨u, rfl, ra⟩ := r0.one
  cases rk.zero
  cases ra
  exact PySem.P.str_of_int hi (tok_str S h)
theorem t_range {n : Int} (h : Q (.rng n) σ) : fwp X k (.type "range") [.int n] [] [] Q σ := fun A F m s us vs R S r0 rk => by
  obtain ⟨u, rfl, ra⟩ := r0.one
  cases rk.zero
  cases ra
  refine call_range_1 ?_
  exact ⟨_, m, .rng n, σ, Go.frz (tk := s.toks + 1 + 1) (a := s.heap.objs.size) S push_some (fresh_size _) (Heap.get?_push_size _ rfl), ⟨_, _, _, _, rfl, .inr ⟨rfl, rfl⟩⟩, h⟩
end
end Mine
end

section -- PgO
open PySem PySem.W PyProof.Rows PySem.Calls PySem.SeqAt PySem.Builtin.Str
set_option Elab.async false
namespace Mine
set_option autoImplicit false
set_option linter.unusedVariables false

noncomputable abbrev iL (ns : List Int) : List PyData := ns.map PyData.int

section
variable {X : Wd} {c : Cx} {k : Nat} {loc : Loc} {σ : List MO} {Q : AV → List MO → Prop}

theorem ints_are {F : Fz} : ∀ {ns : List Int} {vs : List Value}, RdAll X.prog X.w F (iL ns) vs → IntsAre vs ns
  | [], _, h => by cases h; exact .nil
  | n :: ns, _, h => by
    cases h with
    | cons h1 h2 => cases h1; exact .cons _ _ (ints_are h2)
theorem are_ints {F : Fz} : ∀ {ns : List Int} {vs : List Value}, IntsAre vs ns → RdAll X.prog X.w F (iL ns) vs
  | _, _, .nil => .nil
  | _, _, .cons n t h => .cons (.int n t) (are_ints h)
theorem ints_items : ∀ {ns : List Int} {vs : List Value}, IntsAre vs ns → ∃ xs : List (Int × Tok), vs = xs.map (fun p => .int p.1 p.2) ∧ xs.map (·.1) = ns
  | _, _, .nil => ⟨[], rfl, rfl⟩
  | _, _, .cons n t h => by
    obtain ⟨xs, e1, e2⟩ := ints_items h
    exact ⟨(n, t) :: xs, by simp [e1], by simp [e2]⟩
theorem numAt_of {xs : List (Int × Tok)} {ns : List Int} (h : xs.map (·.1) = ns) (i : Nat) : numAt xs.toArray i = ns.getD i 0 := by
  subst h; simp [numAt, List.getD]
theorem preSum_of (f : Nat → Int) (n : Nat) : preSum f n = ((List.range n).map f).sum := by
  induction n with
  | zero => rfl
  | succ n ih => rw [List.range_succ]; simp [preSum, ih]
theorem range_getD (ns : List Int) : (List.range ns.length).map (fun i => ns.getD i 0) = ns := by
  apply List.ext_getElem
  · simp
  · intro i h1 h2; simp at h1; simp [List.getD, h1]

theorem f_type {a : AV} {T : String} (hT : HasT a σ T) (h : Q (.opq (.type T)) σ) : fwp X k (.type "type") [a] [] [] Q σ := fun A F m s us vs R S r0 rk => by
  obtain ⟨u, rfl, ra⟩ := r0.one
  cases rk.zero
  refine call_type_of (hT.ok S ra).1 ?_ ⟨F, m, .opq (.type T), σ, Go.refl S, rfl, h⟩
  cases hT <;> decide +kernel
theorem v2_is_type {a b : String} (h : Q (.bool (a == b)) σ) : v2 X k (compareOp .Is) (.opq (.type a)) (.opq (.type b)) Q σ := fun A F m s u v R S ra rb => by
  cases ra; cases rb
  refine wpAny_is_plain rfl ?_
  have e : (Value.type a == Value.type b) = (a == b) := by
    by_cases e : a = b
    · subst e; rw [beq_self_eq_true, beq_self_eq_true]
    · rw [beq_eq_false_iff_ne.mpr e]
      exact beq_eq_false_iff_ne.mpr fun h => e (Value.type.inj h)
  rw [e]
  exact ⟨F, m, .bool _, σ, Go.refl S, vrb, h⟩
theorem v2_isnot_type {a b : String} (h : Q (.bool (!(a == b))) σ) : v2 X k (compareOp .IsNot) (.opq (.type a)) (.opq (.type b)) Q σ := fun A F m s u v R S ra rb => by
  cases ra; cases rb
  refine wpAny_isNot_plain rfl ?_
  have e : (Value.type a == Value.type b) = (a == b) := by
    by_cases e : a = b
    · subst e; rw [beq_self_eq_true, beq_self_eq_true]
    · rw [beq_eq_false_iff_ne.mpr e]
      exact beq_eq_false_iff_ne.mpr fun h => e (Value.type.inj h)
  rw [e]
  exact ⟨F, m, .bool _, σ, Go.refl S, vrb, h⟩
theorem v2_isnot_none {a : AV} {T : String} (hT : HasT a σ T) (hs : T ≠ "str") (h : Q (.bool true) σ) : v2 X k (compareOp .IsNot) a .none Q σ := fun A F m s u v R S ra rb => by
  cases rb
  have hu : ∃ l, u = .ref l := by
    cases hT with
    | str => exact absurd rfl hs
    | list => cases ra; exact ⟨_, rfl⟩
    | tuple => cases ra; exact ⟨_, rfl⟩
    | dict => cases ra; exact ⟨_, rfl⟩
    | mrl _ => obtain ⟨l, rfl, _⟩ := ra; exact ⟨_, rfl⟩
    | mrd _ => obtain ⟨l, rfl, _⟩ := ra; exact ⟨_, rfl⟩
  obtain ⟨l, rfl⟩ := hu
  exact wpAny_isNot_other rfl (by intro e; cases e) ⟨F, m, .bool _, σ, Go.refl S, vrb, h⟩

theorem f_isinst {n : Int} (h : Q (.bool false) σ) : fwp X k (.builtin "isinstance") [.int n, .opq (.type "tuple")] [] [] Q σ := fun A F m s us vs R S r0 rk => by
  obtain ⟨u, v, rfl, ra, rb⟩ := r0.two
  cases rk.zero
  cases ra; cases rb
  exact PySem.IsiPair.int_tuple ⟨F, m, .bool _, σ, Go.tok S _, vrb, h⟩

theorem f_sorted {a : AV} {ns : List Int} (ha : LstIs σ a (iL ns)) (hl : ns.length < 64) (h : Q (.dat (.list (iL (sortI ns)))) σ) : fwp X k (.builtin "sorted") [a] [] [] Q σ := fun A F m s us vs R S r0 rk => by
  obtain ⟨u, rfl, ra⟩ := r0.one
  cases rk.zero
  obtain ⟨l, vs, n, rfl, hg, hr⟩ := ha.at S ra
  have hln : vs.length = ns.length := by have := hr.length; simpa using this.symm
  refine sorted_ints (vs := vs) (ns := ns) ⟨_, hg, rfl, n, rfl⟩ (ints_are hr) (by omega) fun out ns' h1 h2 h3 => ?_
  rw [eq_sortI h2 h3] at h1
  obtain ⟨e, he⟩ := sortedAll_at s.heap vs out
  have hn : s.heap.get? (s.heap.objs.size + 1) = none := by
    cases e' : s.heap.get? (s.heap.objs.size + 1) with
    | none => rfl
    | some o => exact absurd (Heap.lt_size e') (by have : s.heap.objs.size < s.heap.objs.size + 1 := Nat.lt_succ_self _; exact Nat.lt_asymm this)
  refine ⟨_, m, .dat (.list _), σ, Go.frz (tk := s.toks) (o := lstObj out.toList e) S (fun _ _ => sortedAll_old) hn he, Rd.list (.inr ⟨rfl, rfl⟩) (are_ints h1), h⟩

theorem f_sum {a : AV} {ns : List Int} (ha : LstIs σ a (iL ns)) (hf : ∀ j, j < ns.length → InLong (ns.getD j 0) ∧ InLong (((List.range (j + 1)).map fun i => ns.getD i 0).sum)) (h : Q (.int ns.sum) σ) : fwp X k (.builtin "sum") [a] [] [] Q σ := fun A F m s us vs R S r0 rk => by
  obtain ⟨u, rfl, ra⟩ := r0.one
  cases rk.zero
  obtain ⟨l, vs, n, rfl, hg, hr⟩ := ha.at S ra
  obtain ⟨xs, e1, e2⟩ := ints_items (ints_are hr)
  have hxl : xs.toArray.size = ns.length := by rw [← e2]; simp
  have hfun : numAt xs.toArray = fun i => ns.getD i 0 := funext fun i => numAt_of e2 i
  refine wpAny_with_toks (Nat.le_refl _) (sum_intList (xs := xs.toArray) R.handled ⟨_, hg, rfl, n, by simp [intItems, e1]⟩ (fun j hj => ?_) fun h' tk t' hk htk => ?_)
  · rw [preSum_of, hfun]
    exact hf j (by omega)
  · rw [preSum_of, hfun, hxl, range_getD]
    exact ⟨F, m, .int _, σ, Go.grow S hk htk, Rd.int _ _, h⟩

noncomputable def lmin (ns : List Int) : Int := ns.getD (argBest (fun i j => decide (ns.getD i 0 < ns.getD j 0)) (ns.length - 1)) 0
theorem f_min {a : AV} {ns : List Int} (ha : LstIs σ a (iL ns)) (hne : ns ≠ []) (h : Q (.int (lmin ns)) σ) : fwp X k (.builtin "min") [a] [] [] Q σ := fun A F m s us vs R S r0 rk => by
  obtain ⟨u, rfl, ra⟩ := r0.one
  cases rk.zero
  obtain ⟨l, vs, n, rfl, hg, hr⟩ := ha.at S ra
  obtain ⟨xs, e1, e2⟩ := ints_items (ints_are hr)
  have hxl : xs.toArray.size = ns.length := by rw [← e2]; simp
  have hfun : numAt xs.toArray = fun i => ns.getD i 0 := funext fun i => numAt_of e2 i
  refine wpAny_with_toks (Nat.le_refl _) (min_intList (xs := xs.toArray) R.handled ⟨_, hg, rfl, n, by simp [intItems, e1]⟩ (by rw [hxl]; exact List.length_pos_iff.mpr hne) fun v h' tk hv hk htk => ?_)
  obtain ⟨t, rfl⟩ := intItems_at hv
  rw [hfun, hxl]
  exact ⟨F, m, .int _, σ, Go.grow S hk htk, Rd.int _ _, h⟩

theorem f_list_rng {n : Nat} (hn : n < 2 ^ 20) (h : Q (.dat (.list (iL ((List.range n).map fun (i : Nat) => (i : Int))))) σ) : fwp X k (.type "list") [.rng n] [] [] Q σ := fun A F m s us vs R S r0 rk => by
  obtain ⟨u, rfl, r, t1, t2, t3, rfl, hF⟩ := r0.one
  cases rk.zero
  refine wpAny_with_toks (Nat.le_refl _) (call_list_range (n := n) R.handled (S.fz _ _ hF rfl) (small_0 (by omega)) (rangeSize_0 n) (by omega) fun h' tk acc' c' hk hg hi htk => ?_)
  refine ⟨_, m, .dat _, σ, Go.frz (o := lstObj acc'.toList c') S hk (fresh_size _) hg htk, Rd.list (.inr ⟨rfl, rfl⟩) (are_ints ?_), h⟩
  obtain ⟨h1, h2⟩ := hi
  obtain ⟨acc⟩ := acc'
  simp only [List.size_toArray, List.getElem?_toArray] at h1 h2 ⊢
  have key : ∀ (l : List Value) (b : Nat), (∀ (j : Nat) (v : Value), l[j]? = some v → ∃ t, v = .int ((b + j : Nat) : Int) t) → IntsAre l ((List.range' b l.length).map fun (i : Nat) => (i : Int)) := by
    intro l
    induction l with
    | nil => intro b _; exact .nil
    | cons x l ih =>
      intro b hb
      obtain ⟨t, e⟩ := hb 0 x rfl
      subst e
      rw [List.length_cons, List.range'_succ, List.map_cons]
      exact .cons _ _ (ih (b + 1) fun j v hv => by obtain ⟨t, e⟩ := hb (j + 1) v hv; exact ⟨t, by rw [e]; congr 1; omega⟩)
  have := key acc 0 (fun j v hv => by obtain ⟨t, e⟩ := h2 j v hv; exact ⟨t, by rw [e]; congr 1; push_cast; omega⟩)
  rw [h1] at this
  rw [List.range_eq_range']
  exact this

theorem t_int {x : Str} {n : Int} (hn : PySem.intText? x = some n) (hl : x.length ≤ 640) (h : Q (.int n) σ) : fwp X k (.type "int") [.str x] [] [] Q σ := fun A F m s us vs R S r0 rk => by
  obtain ⟨u, rfl, ra⟩ := r0.one
  cases rk.zero
  cases ra
  exact KIN.call_text hn hl ⟨F, m, .int n, σ, Go.tok S _, Rd.int _ _, h⟩
end
end Mine
end

section -- PgP
open PySem PySem.W PyProof.Rows PySem.Calls PySem.SeqAt PySem.Builtin.Str
set_option Elab.async false
namespace Mine
set_option autoImplicit false
set_option maxRecDepth 20000
set_option linter.unusedVariables false

section
variable {X : Wd} {c : Cx} {k : Nat} {loc : Loc} {σ : List MO} {Q : AV → List MO → Prop}

inductive FP (X : Wd) (Q : Str → List MO → Prop) (F : Fz) (m : List Nat) (s : Shared) (v : Value) (s' : Shared) : Prop
  | mk (F' : Fz) (m' : List Nat) (x : Str) (t : Tok) (σ' : List MO) : Go X.prog X.w X.h0 F m s F' m' σ' s' → v = .str x t → s.toks ≤ t → F' t tokObj → Q x σ' → FP X Q F m s v s'
noncomputable def ewpF (X : Wd) (c : Cx) (k : Nat) (e : Expr) (Q : Str → List MO → Prop) (loc : Loc) (σ : List MO) : Prop :=
  ∀ A env W F m s, Room A k → St X.prog X.w X.h0 F m σ s → En X.prog X.w c env W loc F m s.heap →
    wpAny (model X.prog X.w) A (eval e env) (FP X Q F m s) nof s
theorem ewpF_str {x : Str} {kd : Nat} {pos : Pos} {Q : Str → List MO → Prop} (h : Q x σ) : ewpF X c k (.Constant (.str x) kd pos) Q loc σ := fun A env W F m s R S E =>
  wpAny_Constant_str ⟨_, m, x, _, σ, Go.tok1 S (Nat.lt_succ_self _), rfl, Nat.le_refl _, .inr ⟨rfl, rfl⟩, h⟩
theorem ewpF_upper {o : Expr} {apos pos : Pos} {Q : Str → List MO → Prop} {pl : Env → Sem Bool} (h : ewp X c k o (fun a σ1 => ∃ x, a = .str x ∧ (upp x).length ≤ 1000 ∧ Q (upp x) σ1) loc σ)
    (hc : ∀ env, eval (.Call (.Attribute o "upper" apos) [] [] pos) env = (do
      let ov ← eval o env
      standAt apos.atName
      let (f, first) ← holding [ov] (getMethod ov "upper" (pl env))
      callWith pos f first (backTo pos (starEach [] env)) []) := by intro _; rfl) : ewpF X c k (.Call (.Attribute o "upper" apos) [] [] pos) Q loc σ := fun A env W F m s R S E =>
  MethodCall_ (pl := pl env) (h.use R S E fun F1 m1 a σ1 u s1 g1 ra ⟨x, e1, hl, q1⟩ E1 => by
    subst e1
    cases ra with
    | @str _ tk ht =>
    refine getMethod_builtin (T := "str") (by trivial) PySem.F.plainAttrs_str PySem.F.slot_str_upper PySem.F.type_str_upper (fun a e => by cases e) ?_
    refine callWith_of (P := X.K.In) rfl (fun h x => Kp.builtin _ h x) (evalArgs_nil3 ⟨g1.st.K, ?_⟩)
    have ht' : tooLong (upp x).cps.size = false := by
      unfold tooLong; simp only [decide_eq_false_iff_not]; have : (upp x).cps.size ≤ 1000 := hl; rw [sizeLine_eq]; omega
    refine call_gives PySem.F.slot_str_upper (by trivial) PySem.F.entry_str_upper (PySem.F.args_str_upper_1 _) (gives_str_upper x tk ht') ⟨by rw [sizeLine_eq]; exact Nat.le_trans hl (by decide), ?_⟩
    exact ⟨_, m1, upp x, _, σ1, g1.trans (Go.tok1 g1.st (Nat.lt_succ_self _)), rfl, g1.tks, .inr ⟨rfl, rfl⟩, q1⟩) (hc env)

noncomputable def repl (x y z : Str) : Str := if ((occurrences x y 0 x.length (x.length + 1)).isEmpty || (y.length == 0 && z.length == 0)) = true then x else glued z (partsBetween x (occurrences x y 0 x.length (x.length + 1)) y.length)
theorem ewp_Replace {o b z : Expr} {apos pos : Pos} {pl : Env → Sem Bool}
    (h : ewp X c k o (fun a σ1 => ∃ x, a = .str x ∧ ewp X c k b (fun d σ2 => ∃ y, d = .str y ∧ ewpF X c k z (fun zz σ3 => y ≠ zz ∧ x.length + (occurrences x y 0 x.length (x.length + 1)).length * zz.length ≤ 1000 ∧ (repl x y zz).length ≤ 1000 ∧ Q (.str (repl x y zz)) σ3) loc σ2) loc σ1) loc σ)
    (hc : ∀ env, eval (.Call (.Attribute o "replace" apos) [b, z] [] pos) env = (do
      let ov ← eval o env
      standAt apos.atName
      let (f, first) ← holding [ov] (getMethod ov "replace" (pl env))
      callWith pos f first (backTo pos (starEach [b, z] env)) []) := by intro _; rfl)
    (h1 : ∀ env, starEach [b, z] env = (false, eval b env) :: starEach [z] env := by intro _; rfl) (h2 : ∀ env, starEach [z] env = (false, eval z env) :: starEach [] env := by intro _; rfl) :
    ewp X c k (.Call (.Attribute o "replace" apos) [b, z] [] pos) Q loc σ := fun A env W F m s R S E =>
  MethodCall_ (pl := pl env) (h.use R S E fun F1 m1 a σ1 u s1 g1 ra ⟨x, e0, q1⟩ E1 => by
      subst e0
      cases ra with
      | @str _ tk ht =>
      refine getMethod_builtin (T := "str") (by trivial) PySem.F.plainAttrs_str PySem.F.slot_str_replace PySem.F.type_str_replace (fun a e => by cases e) ?_
      refine callWith_of (P := X.K.In) (by rw [h1, h2]; rfl) (fun h x => Kp.builtin _ h x) ?_
      refine evalArgs_kw2 (kws := []) rfl (args_cons (q1.use R g1.st E1 fun F2 m2 d σ2 v s2 g2 rd ⟨y, e1, q2⟩ E2 => ?_) (h1 env)) (h1 env)
      subst e1
      refine args_cons (xafter (q2 A env W F2 m2 s2 R g2.st E2) fun v3 s3 ⟨F3, m3, zz, t3, σ3, g3, e3, hlt, hF3, hne, hl1, hl2, q3⟩ => ?_) (h2 env)
      subst e3
      refine args_nil (wpAny_pure ⟨g3.st.K, ?_⟩)
      cases rd with
      | @str _ ty hty =>
      have hty' := g2.st.tk _ _ hty rfl
      have ht3 := g3.st.tk _ _ hF3 rfl
      have G := (g1.trans g2).trans g3
      refine call_gives PySem.F.slot_str_replace (by trivial) PySem.F.entry_str_replace (PySem.F.args_str_replace_3 _ _ _) (gives_str_replace x y zz tk ty t3 fun ho => ⟨?_, ?_, ?_, ?_⟩) ?_
      · have e1 : (ty == 0) = false := beq_eq_false_iff_ne.mpr (Nat.ne_of_gt hty'.1)
        have e2 : (t3 == 0) = false := beq_eq_false_iff_ne.mpr (Nat.ne_of_gt ht3.1)
        rw [e1, e2]; rfl
      · exact beq_eq_false_iff_ne.mpr (Nat.ne_of_lt (Nat.lt_of_lt_of_le hty'.2 hlt))
      · exact beq_eq_false_iff_ne.mpr hne
      · unfold tooLong; simp only [decide_eq_false_iff_not]; rw [sizeLine_eq]; omega
      · unfold repl at q3 hl2
        split
        · rename_i e; rw [if_pos e] at q3
          exact ⟨F3, m3, .str x, σ3, G, Rd.str ((g2.trans g3).fsub _ _ ht), q3⟩
        · rename_i e; rw [if_neg e] at q3 hl2
          refine ⟨by rw [sizeLine_eq]; exact Nat.le_trans hl2 (by decide), ?_⟩
          obtain ⟨F', m', x', σ', g5, r5, q5⟩ := tok_str g3.st q3
          exact ⟨F', m', x', σ', G.trans g5, r5, q5⟩) (hc env)
end
end Mine
end

section -- PgQ
open PySem PySem.W PyProof.Rows PySem.Calls PySem.SeqAt PySem.Builtin.Str
set_option Elab.async false
namespace Mine
set_option autoImplicit false
set_option maxRecDepth 20000
set_option linter.unusedVariables false

section
variable {X : Wd} {c : Cx} {k : Nat} {loc : Loc} {σ : List MO} {Q : AV → List MO → Prop}

theorem ewp_Dict1 {ke ve : Expr} {pos : Pos} (h : ewp X c k ke (fun a σ1 => ∃ x, a = .str x ∧ ewp X c k ve (fun b σ2 => ∃ d, b = .dat d ∧ Q (.dat (sd [(x, d)])) σ2) loc σ1) loc σ) :
    ewp X c k (.Dict [some ke] [ve] pos) Q loc σ := fun A env W F m s R S E => by
  have g0 : Go X.prog X.w X.h0 F m s F m σ { s with heap := s.heap.push { cls := .type "dict", data := .dict #[] } } := Go.grow (tk := s.toks) S push_some
  have hshape : (evalEachOpt [some ke] env).zip ((evalEach [ve] env).map fun v => do let x ← v; standAt pos; pure x) = [((eval ke env : Sem Value), (do let x ← eval ve env; standAt pos; pure x : Sem Value))].map fun p => (some p.1, p.2) := rfl
  show wpAny _ A (eval (.Dict [some ke] [ve] pos) env) _ _ s
  rw [arm_eval_Dict, hshape, dictDisplay_pairs _ (by simp) (by simp)]
  refine wpAny_bind (wpAny_standAt (wpAny_bind ?_))
  unfold subDict
  refine wpAny_bind (wpAny_alloc ?_)
  refine wpAny_bind (wpAny_holding ?_)
  rw [if_pos (by simp)]
  have hD : s.heap.get? s.heap.objs.size = none := fresh_size _
  have hD3 := X.three S
  generalize hDd : s.heap.objs.size = D at hD hD3
  refine wpAny_bind ?_
  unfold evalPairs
  refine wpAny_bind (h.use R g0.st (E.go g0) fun F1 m1 a σ1 u s1 g1 ra ⟨x, e1, q1⟩ E1 => ?_)
  subst e1
  refine wpAny_bind (wpAny_holding (wpAny_bind (q1.use R g1.st E1 fun F2 m2 b σ2 v s2 g2 rb ⟨d, e2, q⟩ E2 => wpAny_bind (wpAny_standAt (wpAny_pure ?_)))))
  subst e2
  refine wpAny_bind (wpAny_holding ?_)
  unfold evalPairs
  refine wpAny_pure (wpAny_pure (wpAny_holding ?_))
  cases ra with
  | @str _ t ht =>
  have G := (g0.trans g1).trans g2
  have hDm : D ∉ m := fun hm => S.lt D hm hD
  have hDs : s2.heap.get? D = some { cls := .type "dict", data := .dict #[] } := by
    refine g2.keep D _ (fun hm => (g1.mnew D hm).elim hDm fun h => ?_) (g1.keep D _ hDm (by rw [← hDd]; exact Heap.get?_push_size _ rfl))
    have := Heap.get?_push_size s.heap (o := { cls := .type "dict", data := .dict #[] }) rfl
    rw [hDd] at this
    exact absurd h (ne_none this)
  rw [List.forIn_cons]
  have hDg : ({ s with heap := s.heap.push { cls := .type "dict", data := .dict #[] } } : Shared).heap.get? D ≠ none := by
    have := Heap.get?_push_size s.heap (o := { cls := .type "dict", data := .dict #[] }) rfl
    rw [hDd] at this
    exact ne_none this
  have hDm2 : D ∉ m2 := fun hm => ((g1.trans g2).mnew D hm).elim hDm hDg
  have hDF : NF F D := fun o hf hF => by have := S.fz D o hF hf; rw [hD] at this; cases this
  have hDF2 : NF F2 D := fun o hf hF => ((g1.trans g2).fnew D o hF hf).elim (hDF o hf) fun h => h.elim hDm hDg
  refine wpAny_bind (wpAny_bind ?_)
  show wpAny _ _ (do dictSet D (.str x t) v; pure (ForInStep.yield PUnit.unit)) _ _ s2
  refine wpAny_bind (set_pairs (x := x) (kvs := []) (keys := []) isk hDs ⟨⟨rfl, rfl, rfl⟩, #[], rfl, fun _ he => by simp at he, Pairs.nil, List.nodup_nil, rfl⟩ (by simp) fun h' o' ep' ho' hd' hs' => wpAny_pure ?_)
  show wpAny _ _ (forIn ([] : List (Value × Value)) _ _) _ _ _
  rw [List.forIn_nil]
  refine wpAny_pure (wpAny_pure (wpAny_pure ?_))
  have Gt : Go X.prog X.w X.h0 F m s F2 m2 σ2 { s2 with toks := s2.toks + 1 } := G.trans (Go.tok g2.st _)
  have G2 := (Gt.priv (C := D) (h' := h') hD hDm2 hDF2 hs').addF (D := D) (o := o') hD ho' hDm2
  refine wpAny_pure ⟨_, m2, .dat (sd [(x, d)]), σ2, G2, ?_, q⟩
  refine Rd.dict (ks := [x]) (ds := [d]) hD3 (.inr ⟨rfl, rfl⟩) hd' rfl rfl ?_ ?_
  · exact .cons (.str (.inl ((g2.fsub _ _ ht)))) .nil
  · exact .cons (Rd.mono (fun _ _ h => .inl h) rb) .nil

theorem vt_bool {b : Bool} {Q : Bool → List MO → Prop} (h : Q b σ) : vt X k (.bool b) Q σ := fun A F m s u R S ra => by
  cases ra
  exact wpAny_truthy_bool ⟨F, m, b, σ, Go.refl S, rfl, h⟩
theorem vt_none {Q : Bool → List MO → Prop} (h : Q false σ) : vt X k .none Q σ := fun A F m s u R S ra => by
  cases ra
  exact wpAny_of_eq (a := false) rfl ⟨F, m, false, σ, Go.refl S, rfl, h⟩
theorem vt_list {a : AV} {ds : List PyData} {Q : Bool → List MO → Prop} (ha : LstIs σ a ds) (hl : ds.length ≤ 1000) (h : Q (!ds.isEmpty) σ) : vt X k a Q σ := fun A F m s u R S ra => by
  obtain ⟨l, vs, n, rfl, hg, hr⟩ := ha.at S ra
  have hln := hr.length
  refine wpAny_truthy_list (items := vs.toArray) ⟨_, hg, rfl, n, rfl⟩ (by simp; omega) ⟨F, m, _, σ, Go.tok S _, ?_, h⟩
  show (!ds.isEmpty) = _
  cases ds <;> cases vs <;> simp_all

theorem v2_notin_list {a : AV} {xs : List PyData} {d : PyData} (ha : LstIs σ a xs) (hxs : PyData.canLayAll0 xs = true) (hd : d.canLay0 = true) (hu : d.depth ≤ 10) (h : Q (.bool (!xs.any fun y => PyData.eqv y d)) σ) : v2 X k (compareOp .NotIn) (.dat d) a Q σ := fun A F m s u v R S rb ra => by
  obtain ⟨l, vs, n, rfl, hg, hr⟩ := ha.at S ra
  obtain ⟨_, rx⟩ := RdAll.reads S.fz hr
  obtain ⟨_, rd⟩ := Rd.reads S.fz rb
  exact notIn_list_reads (.list hg rfl rfl rx) rd hxs hd (by have := R.u64; omega) ⟨F, m, .bool _, σ, Go.refl S, vrb, h⟩

theorem v3_own {C f : Addr} {n : Str} {x b d : AV} {Q : List MO → Prop} (hq : noSeq X.K C = true) (hs : findIn X.K (.ref C) "__setitem__" = some (some (.ref f))) (hf : isFn X.K (.ref f) = true)
    (h : fwp X k (.ref f) [.inst C n x, b, d] [] [] (fun _ σ' => Q σ') σ) : v3 X k setItem (.inst C n x) b d Q σ := fun A F m s u v y R S ra rb rd => by
  have ra' := ra
  obtain ⟨a, da, t, ep, w0, rfl, h1, h2, r⟩ := ra
  have I := instAt S h1 h2
  unfold setItem sequenceKey
  refine wpAny_holding (wpAny_bind (wpAny_bind (I.type.here ?_)))
  refine wpAny_bind ((anyM_none S.K hq).here ?_)
  rw [if_pos (show (!false) = true from rfl)]
  refine wpAny_pure (wpAny_bind (special_fn S.K I hs (beq_iff_eq.mp hf) ?_))
  exact (h A F m s _ [] R S (.cons ra' (.cons rb (.cons rd .nil))) .nil).use fun F' m' x σ' v s' g r q => wpAny_pure ⟨F', m', (), σ', g, rfl, q⟩
theorem v2_del_own {C f : Addr} {n : Str} {x b : AV} {Q : List MO → Prop} (hq : noSeq X.K C = true) (hs : findIn X.K (.ref C) "__delitem__" = some (some (.ref f))) (hf : isFn X.K (.ref f) = true)
    (h : fwp X k (.ref f) [.inst C n x, b] [] [] (fun _ σ' => Q σ') σ) : ∀ A F m s u v, Room A k → St X.prog X.w X.h0 F m σ s → VR X.prog X.w F m (.inst C n x) u → VR X.prog X.w F m b v → GW X.prog X.w X.h0 REq A (delItem u v) (fun (_ : Unit) => Q) F m s := fun A F m s u v R S ra rb => by
  have ra' := ra
  obtain ⟨a, da, t, ep, w0, rfl, h1, h2, r⟩ := ra
  have I := instAt S h1 h2
  show wpAny _ A (delItem (.ref a) v) _ _ s
  unfold delItem sequenceKey
  refine wpAny_holding (wpAny_bind (wpAny_bind (I.type.here ?_)))
  refine wpAny_bind ((anyM_none S.K hq).here ?_)
  rw [if_pos (show (!false) = true from rfl)]
  refine wpAny_pure (wpAny_bind (special_fn S.K I hs (beq_iff_eq.mp hf) ?_))
  exact (h A F m s _ [] R S (.cons ra' (.cons rb .nil)) .nil).use fun F' m' x σ' v s' g r q => wpAny_pure ⟨F', m', (), σ', g, rfl, q⟩
end

section
variable {X : Wd} {c : Cx} {k : Nat} {loc : Loc} {σ : List MO} {Q : AFl → Loc → List MO → Prop}
theorem XPost.next {env : Env} {W : List Nat} {F F' : Fz} {m m' : List Nat} {σ' : List MO} {s s' : Shared} (E : En X.prog X.w c env W loc F m s.heap) (g : Go X.prog X.w X.h0 F m s F' m' σ' s') (q : Q .next loc σ') : XPost X c env W Q F m s .next s' :=
  ⟨F', m', .next, loc, σ', g.toX, E.go g, .next, q⟩
theorem swp_Assign_Sub {o i value : Expr} {pos' pos : Pos} (h : ewp X c k value (fun v σ1 => ewp X c k o (fun a σ2 => ewp X c k i (fun b σ3 => v3 X k setItem a b v (fun σ' => Q .next loc σ') σ3) loc σ2) loc σ1) loc σ)
    (hs : ∀ env, swapsWith value (some (.Subscript o i pos')) pos.line env = pure false := by intro _; rfl) : swp X c k (.Assign [.Subscript o i pos'] value pos) Q loc σ := fun A env W F m s R S E =>
  wpAny_Assign_Subscript (h.use R S E fun F1 m1 v σ1 u s1 g1 rv q1 E1 => q1.use R g1.st E1 fun F2 m2 a σ2 ua s2 g2 ra q2 E2 => q2.use R g2.st E2 fun F3 m3 b σ3 ub s3 g3 rb q3 E3 =>
    (q3 A F3 m3 s3 ua ub u R g3.st (g3.vr ra) rb ((g2.trans g3).vr rv)).use fun F4 m4 _ σ4 _ s4 g4 _ q4 => XPost.next E (((g1.trans g2).trans g3).trans g4) q4) (hs env)
theorem swp_Aug_Sub {o i value : Expr} {op : Operator} {tpos pos : Pos} (h : ewp X c k o (fun a σ1 => ewp X c k i (fun b σ2 => v2 X k getItem a b (fun old σ3 => ewp X c k value (fun v σ4 => v2 X k (inplaceOp op) old v (fun new σ5 => v3 X k setItem a b new (fun σ' => Q .next loc σ') σ5) σ4) loc σ3) σ2) loc σ1) loc σ)
    (hi : ∀ ov iv new, augStore i ov iv new = (do holding [new, ov, iv] (setItem ov iv new); release [new, ov, iv] []; pure .next) := by intros; rfl) : swp X c k (.AugAssign (.Subscript o i tpos) op value pos) Q loc σ := fun A env W F m s R S E =>
  wpAny_AugAssign_SubscriptAny (h.use R S E fun F1 m1 a σ1 ua s1 g1 ra q1 E1 => q1.use R g1.st E1 fun F2 m2 b σ2 ub s2 g2 rb q2 E2 => (q2 A F2 m2 s2 ua ub R g2.st (g2.vr ra) rb).use fun F3 m3 old σ3 uo s3 g3 ro q3 =>
    q3.use R g3.st (E2.go g3) fun F4 m4 v σ4 uv s4 g4 rv q4 E4 => (q4 A F4 m4 s4 uo uv R g4.st (g4.vr ro) rv).use fun F5 m5 nw σ5 un s5 g5 rn q5 =>
      (q5 A F5 m5 s5 ua ub un R g5.st ((((g2.trans g3).trans g4).trans g5).vr ra) (((g3.trans g4).trans g5).vr rb) rn).use fun F6 m6 _ σ6 _ s6 g6 _ q6 => XPost.next E (((((g1.trans g2).trans g3).trans g4).trans g5).trans g6) q6) hi
theorem swp_Del_Sub {o i : Expr} {pos' pos : Pos} (h : ewp X c k o (fun a σ1 => ewp X c k i (fun b σ2 => ∀ A F m s u v, Room A k → St X.prog X.w X.h0 F m σ2 s → VR X.prog X.w F m a u → VR X.prog X.w F m b v → GW X.prog X.w X.h0 REq A (delItem u v) (fun (_ : Unit) σ' => Q .next loc σ') F m s) loc σ1) loc σ) :
    swp X c k (.Delete [.Subscript o i pos'] pos) Q loc σ := fun A env W F m s R S E =>
  wpAny_Delete (wpAny_deleteEach_cons (wpAny_delete_Subscript (h.use R S E fun F1 m1 a σ1 ua s1 g1 ra q1 E1 => q1.use R g1.st E1 fun F2 m2 b σ2 ub s2 g2 rb q2 E2 =>
    (q2 A F2 m2 s2 ua ub R g2.st (g2.vr ra) rb).use fun F3 m3 _ σ3 _ s3 g3 _ q3 => wpAny_deleteEach_nil (XPost.next E ((g1.trans g2).trans g3) q3))))
end
end Mine
end

section -- PgR
open PySem PySem.W PyProof.Rows PySem.Calls PySem.SeqAt PySem.Builtin.Str
set_option Elab.async false
namespace Mine
set_option autoImplicit false
set_option maxRecDepth 20000
set_option linter.unusedVariables false

theorem fit30 {i n m : Nat} (h : i < n) (e : n = m) (hl : m ≤ 1000) : i < 2 ^ 30 := Nat.lt_of_lt_of_le (e ▸ h) (Nat.le_trans hl (by decide))
theorem fit5 {i : Nat} (h : i < 5) : i < 2 ^ 30 := Nat.lt_trans h (by decide)
theorem succ_of {s p f : Nat} (h : s < p) (h2 : p ≤ f) : ∃ f', f = f' + 1 := ⟨f - 1, by omega⟩
theorem half_lt {n m : Nat} (h : n < m) : (n - 1) / 2 < m := by omega
theorem half_dec {s n : Nat} (h : s < n) : (n - 1) / 2 < n := by omega
theorem half_le {n f : Nat} (h : n ≤ f + 1) : (n - 1) / 2 ≤ f := by omega
theorem sub_lt {n k p : Nat} (h : p < k) (h2 : k < n) : n - k < n - p := by omega
theorem sub_le {n k p f : Nat} (h : p < k) (h2 : n - p ≤ f + 1) : n - k ≤ f := by omega
theorem two_lt {p n m : Nat} (e : n = m) (h : 2 * p + 1 < n) : 2 * (p : Int) + 1 < (m : Int) := by omega
theorem two_not {p n m : Nat} (e : n = m) (h : ¬ 2 * p + 1 < n) : ¬ 2 * (p : Int) + 1 < (m : Int) := by omega
theorem two_lt2 {p n m : Nat} (e : n = m) (h : 2 * p + 2 < n) : 2 * (p : Int) + 1 + 1 < (m : Int) := by omega
theorem two_not2 {p n m : Nat} (e : n = m) (h : n ≤ 2 * p + 2) : ¬ 2 * (p : Int) + 1 + 1 < (m : Int) := by omega
theorem two_eq {p : Nat} : (2 * (p : Int) + 1 + 1) = ((2 * p + 2 : Nat) : Int) := by omega
theorem inv0 {n i : Nat} (h : n - i = 0) (h2 : i ≤ n) : i = n := Nat.le_antisymm h2 (Nat.le_of_sub_eq_zero h)
theorem inv1 {n i k : Nat} (h : n - i = k + 1) : i < n := by omega
theorem inv2 {n i k : Nat} (h : n - i = k + 1) : n - (i + 1) = k := by omega
theorem end1 {α : Type} {σ : List α} {a : α} : (σ ++ [a])[σ.length]? = some a := by simp
theorem end2a {α : Type} {σ : List α} {a b : α} : (σ ++ [a, b])[σ.length]? = some a := by simp
theorem end2b {α : Type} {σ : List α} {a b : α} : (σ ++ [a, b])[σ.length + 1]? = some b := by simp
theorem endS2a {α : Type} {σ : List α} {a b c : α} : (σ ++ [a, b]).set σ.length c = σ ++ [c, b] := by simp
theorem endS2b {α : Type} {σ : List α} {a b c : α} : (σ ++ [a, b]).set (σ.length + 1) c = σ ++ [a, c] := by simp
section
variable {X : Wd} {c : Cx} {k : Nat} {loc loc' : Loc} {σ : List MO} {Q : AFl → Loc → List MO → Prop}
theorem xwp.sub {ss : List Stmt} (h : xwp X c k ss Q loc' σ) (hs : Subs loc' loc) : xwp X c k ss Q loc σ := fun A env W F m s R S E => h A env W F m s R S (E.sub hs)
theorem xwp_gen {ss : List Stmt} (h : ∀ Q' : AFl → Loc → List MO → Prop, (∀ fl l σ, Q fl l σ → Q' fl l σ) → xwp X c k ss Q' loc σ) : xwp X c k ss Q loc σ := h Q fun _ _ _ q => q
theorem swp.sub {st : Stmt} (h : swp X c k st Q loc' σ) (hs : Subs loc' loc) : swp X c k st Q loc σ := fun A env W F m s R S E => h A env W F m s R S (E.sub hs)
theorem agn.mono {t : Expr} {x : AV} {Q Q' : Loc → List MO → Prop} (h : agn X c k t x Q loc σ) (q : ∀ l σ, Q l σ → Q' l σ) : agn X c k t x Q' loc σ := fun A env W F m s u R S E r =>
  xafter (h A env W F m s u R S E r) fun _ s1 ⟨F1, m1, l1, σ1, g1, E1, q1⟩ => ⟨F1, m1, l1, σ1, g1, E1, q _ _ q1⟩

theorem swp_Assign_agn {t e : Expr} {pos : Pos} (h : ewp X c k e (fun a σ1 => agn X c k t a (fun l σ2 => Q .next l σ2) loc σ1) loc σ) (hs : ∀ env, swapsWithSole [t] e pos.line env = pure false := by intro _; rfl)
    (hw : ∀ env, swappedStores [t] e env = pure none := by intro _; rfl) (he : ∀ env, (assignEach [t] env).map (·.2) = [assign t env] := by intro _; rfl) : swp X c k (.Assign [t] e pos) Q loc σ := fun A env W F m s R S E =>
  wpAny_Assign_stores (h.use R S E fun F1 m1 a σ1 u s1 g1 ra q1 E1 => by
    rw [he env]
    exact xafter (q1 A env W F1 m1 s1 u R g1.st E1 ra) fun _ s2 ⟨F2, m2, l2, σ2, g2, E2, q2⟩ => ⟨F2, m2, .next, l2, σ2, g1.toX.trans g2, E2, .next, q2⟩) (hs env) (hw env)

theorem forW_inv {t : Expr} {body : List Stmt} {src : List MO → Prop} {xs : List AV} (Inv : Nat → Loc → List MO → Prop)
    (turn : ∀ i x loc σ, xs[i]? = some x → Inv i loc σ → src σ ∧ agn X c k t x (fun l1 σ1 => xwp X c k body (fun fl l2 σ2 => match fl with
      | .next => ∃ l', Subs l' l2 ∧ Inv (i + 1) l' σ2
      | .cont => ∃ l', Subs l' l2 ∧ Inv (i + 1) l' σ2
      | .brk => Q .next l2 σ2
      | .ret v => Q (.ret v) l2 σ2) l1 σ1) loc σ)
    (done : ∀ loc σ, Inv xs.length loc σ → src σ ∧ Q .next loc σ) : ∀ (n i : Nat), xs.length - i = n → i ≤ xs.length → ∀ loc σ, Inv i loc σ → forW X c k t body src Q (xs.drop i) loc σ
  | 0, i, hn, hi, loc, σ, h => by
    have : i = xs.length := inv0 hn hi
    subst this
    rw [List.drop_length]
    exact done loc σ h
  | n + 1, i, hn, hi, loc, σ, h => by
    have hil : i < xs.length := inv1 hn
    rw [List.drop_eq_getElem_cons hil]
    obtain ⟨h1, h2⟩ := turn i xs[i] loc σ (List.getElem?_eq_getElem hil) h
    refine ⟨h1, h2.mono fun l1 σ1 q1 => xwp.mono q1 fun fl l2 σ2 q2 => ?_⟩
    cases fl with
    | next => obtain ⟨l', hs, q⟩ := q2; exact ⟨l', hs, forW_inv Inv turn done n (i + 1) (inv2 hn) hil l' σ2 q⟩
    | cont => obtain ⟨l', hs, q⟩ := q2; exact ⟨l', hs, forW_inv Inv turn done n (i + 1) (inv2 hn) hil l' σ2 q⟩
    | brk => exact q2
    | ret v => exact q2
theorem swp_ForI {t it : Expr} {body : List Stmt} {pos : Pos} (h : ewp X c k it (fun a σ1 => ∃ xs src, isrc X k t a xs src σ1 ∧ ∃ Inv : Nat → Loc → List MO → Prop, (∃ l, Subs l loc ∧ Inv 0 l σ1) ∧
      (∀ i x loc σ, xs[i]? = some x → Inv i loc σ → src σ ∧ agn X c k t x (fun l1 σ1 => xwp X c k body (fun fl l2 σ2 => match fl with
      | .next => ∃ l', Subs l' l2 ∧ Inv (i + 1) l' σ2
      | .cont => ∃ l', Subs l' l2 ∧ Inv (i + 1) l' σ2
      | .brk => Q .next l2 σ2
      | .ret v => Q (.ret v) l2 σ2) l1 σ1) loc σ) ∧ (∀ loc σ, Inv xs.length loc σ → src σ ∧ Q .next loc σ)) loc σ)
    (hs : ∀ env x, foldedSetIterable it env x = pure x := by intro _ _; rfl) : swp X c k (.For t it body [] pos) Q loc σ := fun A env W F m s R S E =>
  wpAny_For (h.use R S E fun F1 m1 a σ1 u s1 g1 ra ⟨xs, src, hi, Inv, ⟨l0, hl0, h0⟩, turn, done⟩ E1 => xafter (hi A F1 m1 s1 u R g1.st ra) fun itv s2 ⟨I, It, Mid, e, g2, hI, hit, H⟩ => by
    subst e
    have hf := forW_inv Inv turn done xs.length 0 (by omega) (by omega) l0 σ1 h0
    rw [List.drop_zero] at hf
    have hIm : I ∉ m1 := fun h => g1.st.lt I h hI
    have hIF : NF F1 I := fun o hf h => by have := g1.st.fz I o h hf; rw [hI] at this; cases this
    have O : Own X env W I F1 m1 := ⟨hIm, hIF, fun h => (E1.priv I h).2.2 hI, fun x b hb e => by
      obtain ⟨_, _, _, v0, o, ho, _⟩ := E1.cells x b hb
      rw [e, hI] at ho; cases ho⟩
    refine forL (Q := Q) R H g2.toX hI (Nat.zero_le _) g2.st ((E1.go g2).sub hl0) O hit hf ?_
    intro F' m' fl f loc' σ' s' g E' r q
    exact ⟨F', m', fl, loc', σ', g1.toX.trans (g.drop fun b hb => by
      rcases List.mem_cons.mp hb with e | hb
      · rw [e]; exact .inr hI
      · exact .inl hb), E', r, q⟩) (hs env)
theorem swp_WhileI {t : Expr} {body : List Stmt} {pos : Pos} (Inv : Nat → Loc → List MO → Prop) (n : Nat) (l0 : Loc) (hs0 : Subs l0 loc) (h0 : Inv n l0 σ)
    (turn : ∀ n loc σ, Inv n loc σ → twp X c k t (fun z σ1 => if z then xwp X c k body (fun fl l2 σ2 => match fl with
      | .next => ∃ n' l', n' < n ∧ Subs l' l2 ∧ Inv n' l' σ2
      | .cont => ∃ n' l', n' < n ∧ Subs l' l2 ∧ Inv n' l' σ2
      | .brk => Q .next l2 σ2
      | .ret v => Q (.ret v) l2 σ2) loc σ1 else Q .next loc σ1) loc σ) : swp X c k (.While t body [] pos) Q loc σ :=
  swp.sub (swp_While Inv n h0 turn) hs0
end

section
variable {X : Wd} {k : Nat} {σ : List MO} {Q : AV → List MO → Prop}
theorem fwp_cut {f : Value} {as ks : List AV} {kn : List Str} (h : fwp X k f as kn ks (fun a σ' => ∃ d, a = .dat d ∧ Q (.dat d) (σ'.take σ.length)) σ) : fwp X k f as kn ks Q σ := fun A F m s us vs R S r1 r2 =>
  (h A F m s us vs R S r1 r2).use fun F' m' a σ' v s' g r ⟨d, e, q⟩ => by
    subst e
    exact ⟨F', _, .dat d, _, g.cut σ.length (by rw [S.len]; exact Nat.le_refl _), r, q⟩
theorem fwp_freeze {f : Value} {as ks : List AV} {kn : List Str} (h : fwp X k f as kn ks (fun a σ' => ∃ i es, a = .mr i ∧ σ'[i]? = some (.dict es) ∧ Q (.dat (sd es)) (σ'.set i .dead)) σ) : fwp X k f as kn ks Q σ := fun A F m s us vs R S r1 r2 =>
  (h A F m s us vs R S r1 r2).use fun F' m' a σ' v s' g r ⟨i, es, e, hσ, q⟩ => by
    subst e
    obtain ⟨l, rfl, hl⟩ := r
    obtain ⟨F2, g2, r2⟩ := Go.freezeD g.st hl hσ
    exact ⟨F2, m', .dat (sd es), _, g.trans g2, r2, q⟩
end
end Mine
end

section -- PgS
open PySem PySem.W PyProof.Rows PySem.Calls PySem.SeqAt PySem.Builtin.Str
set_option Elab.async false
namespace Mine
set_option autoImplicit false
set_option maxRecDepth 20000
set_option linter.unusedVariables false

noncomputable def kindsOk (sc : Scope) (ns own : List Str) : Bool := (ns.all fun x => sc.names.lookup x == some .local || sc.names.lookup x == some .cell) && (own.all fun x => sc.names.lookup x == some .cell)
theorem kinds_of {sc : Scope} {ns own : List Str} (h : kindsOk sc ns own = true) : (∀ x ∈ ns, sc.names.lookup x = some .local ∨ sc.names.lookup x = some .cell) ∧ ∀ x ∈ own, sc.names.lookup x = some .cell := by
  unfold kindsOk at h
  rw [Bool.and_eq_true, List.all_eq_true, List.all_eq_true] at h
  refine ⟨fun x hx => ?_, fun x hx => eq_of_beq (h.2 x hx)⟩
  have := h.1 x hx
  rw [Bool.or_eq_true] at this
  exact this.elim (fun e => .inl (eq_of_beq e)) fun e => .inr (eq_of_beq e)
theorem VRs.four {prog : Program} {w : World} {F : Fz} {m : List Nat} {a b d e : AV} {us : List Value} (h : VRs prog w F m [a, b, d, e] us) : ∃ u v x y, us = [u, v, x, y] ∧ VR prog w F m a u ∧ VR prog w F m b v ∧ VR prog w F m d x ∧ VR prog w F m e y := by
  cases h with | cons h1 h2 => obtain ⟨v, x, y, rfl, h3, h4, h5⟩ := h2.three; exact ⟨_, _, _, _, rfl, h1, h3, h4, h5⟩
section
variable {X : Wd} {k : Nat} {σ : List MO} {Q : AV → List MO → Prop}

theorem len1 {α : Type} {l : List α} (h : l.length = 1) : ∃ a, l = [a] := List.length_eq_one_iff.mp h
theorem len2 {α : Type} {l : List α} (h : l.length = 2) : ∃ a b, l = [a, b] := by
  cases l with
  | nil => cases h
  | cons a l => obtain ⟨b, rfl⟩ := len1 (Nat.succ.inj h); exact ⟨a, b, rfl⟩
theorem len3 {α : Type} {l : List α} (h : l.length = 3) : ∃ a b c, l = [a, b, c] := by
  cases l with
  | nil => cases h
  | cons a l => obtain ⟨b, c, rfl⟩ := len2 (Nat.succ.inj h); exact ⟨a, b, c, rfl⟩
theorem len4 {α : Type} {l : List α} (h : l.length = 4) : ∃ a b c d, l = [a, b, c, d] := by
  cases l with
  | nil => cases h
  | cons a l => obtain ⟨b, c, d, rfl⟩ := len3 (Nat.succ.inj h); exact ⟨a, b, c, d, rfl⟩
theorem fwp_fn1 {a : Addr} {o : Obj} {fd : FuncData} {body : List Stmt} {a1 : AV} {x1 : Str} (own : List Str) (ho : X.K.lookup a = some o) (hd : o.data = .func fd) (hbody : fd.body = .stmts body) (hcode : codeOk X.K fd = true)
    (h : xwp X ⟨fd.scope, own⟩ k body (fun fl _ σ' => Q (retv fl) σ') [(x1, a1)] σ)
    (hbind : ∀ u1 : Value, bindArgs fd ⟨[u1], []⟩ = pure [(x1, u1)] := by intros; rfl)
    (hnd : [x1].Nodup := by decide) (hk : kindsOk fd.scope [x1] own = true := by rfl)
    (hclo : fd.closure = [] := by rfl) (hg : fd.globals = mainGlobals := by rfl) (hbn : fd.builtins = builtinsNs := by rfl)
    (hco : fd.scope.isCoroutine = false := by rfl) (hgen : fd.scope.isGenerator = false := by rfl) (hkd : fd.scope.kind = .function := by rfl) :
    fwp X (k + 1) (.ref a) [a1] [] [] Q σ := by
  refine fwp_fun (LB := [(x1, a1)]) (own := own) (fun us _ => [(x1, us.getD 0 .none)]) ho hd hbody hcode ?_ ?_ hnd (kinds_of hk).1 (kinds_of hk).2 h hclo hg hbn hco hgen hkd
  · intro us vs h1 h2 M h' hK
    obtain rfl : vs = [] := List.length_eq_zero_iff.mp h2
    obtain ⟨u1, rfl⟩ := len1 h1
    exact Looks.of_pure (hbind u1)
  · intro F m us vs q1 q2
    obtain ⟨u1, rfl, r1⟩ := q1.one
    exact .cons r1 .nil

theorem fwp_fn2 {a : Addr} {o : Obj} {fd : FuncData} {body : List Stmt} {a1 a2 : AV} {x1 x2 : Str} (own : List Str) (ho : X.K.lookup a = some o) (hd : o.data = .func fd) (hbody : fd.body = .stmts body) (hcode : codeOk X.K fd = true)
    (h : xwp X ⟨fd.scope, own⟩ k body (fun fl _ σ' => Q (retv fl) σ') [(x1, a1), (x2, a2)] σ)
    (hbind : ∀ u1 u2 : Value, bindArgs fd ⟨[u1, u2], []⟩ = pure [(x1, u1), (x2, u2)] := by intros; rfl)
    (hnd : [x1, x2].Nodup := by decide) (hk : kindsOk fd.scope [x1, x2] own = true := by rfl)
    (hclo : fd.closure = [] := by rfl) (hg : fd.globals = mainGlobals := by rfl) (hbn : fd.builtins = builtinsNs := by rfl)
    (hco : fd.scope.isCoroutine = false := by rfl) (hgen : fd.scope.isGenerator = false := by rfl) (hkd : fd.scope.kind = .function := by rfl) :
    fwp X (k + 1) (.ref a) [a1, a2] [] [] Q σ := by
  refine fwp_fun (LB := [(x1, a1), (x2, a2)]) (own := own) (fun us _ => [(x1, us.getD 0 .none), (x2, us.getD 1 .none)]) ho hd hbody hcode ?_ ?_ hnd (kinds_of hk).1 (kinds_of hk).2 h hclo hg hbn hco hgen hkd
  · intro us vs h1 h2 M h' hK
    obtain rfl : vs = [] := List.length_eq_zero_iff.mp h2
    obtain ⟨u1, u2, rfl⟩ := len2 h1
    exact Looks.of_pure (hbind u1 u2)
  · intro F m us vs q1 q2
    obtain ⟨u1, u2, rfl, r1, r2⟩ := q1.two
    exact .cons r1 (.cons r2 .nil)

theorem fwp_fn3 {a : Addr} {o : Obj} {fd : FuncData} {body : List Stmt} {a1 a2 a3 : AV} {x1 x2 x3 : Str} (own : List Str) (ho : X.K.lookup a = some o) (hd : o.data = .func fd) (hbody : fd.body = .stmts body) (hcode : codeOk X.K fd = true)
    (h : xwp X ⟨fd.scope, own⟩ k body (fun fl _ σ' => Q (retv fl) σ') [(x1, a1), (x2, a2), (x3, a3)] σ)
    (hbind : ∀ u1 u2 u3 : Value, bindArgs fd ⟨[u1, u2, u3], []⟩ = pure [(x1, u1), (x2, u2), (x3, u3)] := by intros; rfl)
    (hnd : [x1, x2, x3].Nodup := by decide) (hk : kindsOk fd.scope [x1, x2, x3] own = true := by rfl)
    (hclo : fd.closure = [] := by rfl) (hg : fd.globals = mainGlobals := by rfl) (hbn : fd.builtins = builtinsNs := by rfl)
    (hco : fd.scope.isCoroutine = false := by rfl) (hgen : fd.scope.isGenerator = false := by rfl) (hkd : fd.scope.kind = .function := by rfl) :
    fwp X (k + 1) (.ref a) [a1, a2, a3] [] [] Q σ := by
  refine fwp_fun (LB := [(x1, a1), (x2, a2), (x3, a3)]) (own := own) (fun us _ => [(x1, us.getD 0 .none), (x2, us.getD 1 .none), (x3, us.getD 2 .none)]) ho hd hbody hcode ?_ ?_ hnd (kinds_of hk).1 (kinds_of hk).2 h hclo hg hbn hco hgen hkd
  · intro us vs h1 h2 M h' hK
    obtain rfl : vs = [] := List.length_eq_zero_iff.mp h2
    obtain ⟨u1, u2, u3, rfl⟩ := len3 h1
    exact Looks.of_pure (hbind u1 u2 u3)
  · intro F m us vs q1 q2
    obtain ⟨u1, u2, u3, rfl, r1, r2, r3⟩ := q1.three
    exact .cons r1 (.cons r2 (.cons r3 .nil))

theorem fwp_fn4 {a : Addr} {o : Obj} {fd : FuncData} {body : List Stmt} {a1 a2 a3 a4 : AV} {x1 x2 x3 x4 : Str} (own : List Str) (ho : X.K.lookup a = some o) (hd : o.data = .func fd) (hbody : fd.body = .stmts body) (hcode : codeOk X.K fd = true)
    (h : xwp X ⟨fd.scope, own⟩ k body (fun fl _ σ' => Q (retv fl) σ') [(x1, a1), (x2, a2), (x3, a3), (x4, a4)] σ)
    (hbind : ∀ u1 u2 u3 u4 : Value, bindArgs fd ⟨[u1, u2, u3, u4], []⟩ = pure [(x1, u1), (x2, u2), (x3, u3), (x4, u4)] := by intros; rfl)
    (hnd : [x1, x2, x3, x4].Nodup := by decide) (hk : kindsOk fd.scope [x1, x2, x3, x4] own = true := by rfl)
    (hclo : fd.closure = [] := by rfl) (hg : fd.globals = mainGlobals := by rfl) (hbn : fd.builtins = builtinsNs := by rfl)
    (hco : fd.scope.isCoroutine = false := by rfl) (hgen : fd.scope.isGenerator = false := by rfl) (hkd : fd.scope.kind = .function := by rfl) :
    fwp X (k + 1) (.ref a) [a1, a2, a3, a4] [] [] Q σ := by
  refine fwp_fun (LB := [(x1, a1), (x2, a2), (x3, a3), (x4, a4)]) (own := own) (fun us _ => [(x1, us.getD 0 .none), (x2, us.getD 1 .none), (x3, us.getD 2 .none), (x4, us.getD 3 .none)]) ho hd hbody hcode ?_ ?_ hnd (kinds_of hk).1 (kinds_of hk).2 h hclo hg hbn hco hgen hkd
  · intro us vs h1 h2 M h' hK
    obtain rfl : vs = [] := List.length_eq_zero_iff.mp h2
    obtain ⟨u1, u2, u3, u4, rfl⟩ := len4 h1
    exact Looks.of_pure (hbind u1 u2 u3 u4)
  · intro F m us vs q1 q2
    obtain ⟨u1, u2, u3, u4, rfl, r1, r2, r3, r4⟩ := q1.four
    exact .cons r1 (.cons r2 (.cons r3 (.cons r4 .nil)))
end
end Mine
end

section -- PgU
open PySem PySem.W PyProof.Rows PySem.Calls PySem.SeqAt
set_option Elab.async false
namespace Mine
set_option autoImplicit false
set_option maxRecDepth 200000
set_option linter.unusedVariables false

section
variable {prog : Program} {w : World} {A : Around} {E : Value → Shared → Prop} {s : Shared}
@[reducible] noncomputable def ritObj (x left step : Int) : Obj := { cls := .type "range_iterator", dict := none, data := .fields #[rawInt x, rawInt left, rawInt step], slots := #[] }

theorem range_rev {r : Addr} {n : Nat} {t u v : Tok} {Q : Value → Shared → Prop} (hr : s.heap.get? r = some (rngObj n t u v)) (hn : n < 2 ^ 30)
    (h : Q (.ref s.heap.objs.size) { s with heap := s.heap.push (ritObj ((n : Int) - 1) n (-1)) }) : wpAny (model prog w) A (call (.builtin "range.__reversed__") [.ref r]) Q E s := by
  have hT : s.TypeIs (.ref r) "range" := ⟨_, hr, rfl⟩
  refine wpAny_call_entry PySem.F.slot_range_reversed hT PySem.F.entry_range_reversed ?_ (PySem.F.args_range_reversed_1 _)
  unfold Builtin.«range.__reversed__»
  refine wpAny_bind (wpAny_of_eq (a := Value.ref r) rfl ?_)
  unfold Builtin.Range.rangeFields
  refine wpAny_bind (wpAny_bind (wpAny_field hr rfl (x := .int 0 t) rfl ?_))
  refine wpAny_bind (wpAny_of_eq (a := some (0 : Int)) rfl ?_)
  refine wpAny_bind (wpAny_field hr rfl (x := .int n u) rfl ?_)
  refine wpAny_bind (wpAny_of_eq (a := some (n : Int)) rfl ?_)
  refine wpAny_bind (wpAny_field hr rfl (x := .int 1 v) rfl ?_)
  have e1 : asInt? (Value.int 1 v) = pure (some 1) := rfl
  refine wpAny_bind ?_
  rw [e1]
  refine wpAny_pure ?_
  refine wpAny_pure ?_
  have hsz : Builtin.Range.rangeSize 0 n 1 = n := rangeSize_0 n
  have fl : ∀ i : Int, -(2 ^ 30) ≤ i → i ≤ 2 ^ 30 → Builtin.Range.rangeFitsLong i = true := fun i h1 h2 => by
    unfold Builtin.Range.rangeFitsLong
    simp only [Bool.and_eq_true, decide_eq_true_eq]
    omega
  simp only [hsz, fl 0 (by decide) (by decide), fl n (by omega) (by omega), fl 1 (by decide) (by decide), fl (-1) (by decide) (by decide), fl (0 - 1) (by decide) (by decide), Bool.and_self, Bool.not_true, Bool.false_eq_true, if_false, if_true]
  refine wpAny_bind (wpAny_newObj_type (wpAny_pure ⟨_, rfl, ?_⟩))
  have e : (0 : Int) + ((n : Int) - 1) * 1 = (n : Int) - 1 := by omega
  rw [e]
  exact h
theorem sub_rit_reversed : isSubtype (.type "range_iterator") (.type "reversed") = pure false := by rw [isSubtype_type]; kernel_rfl
theorem reversed_range {r : Addr} {n : Nat} {t u v : Tok} {Q : Value → Shared → Prop} (hr : s.heap.get? r = some (rngObj n t u v)) (hn : n < 2 ^ 30)
    (h : Q (.ref s.heap.objs.size) { s with heap := s.heap.push (ritObj ((n : Int) - 1) n (-1)) }) : wpAny (model prog w) A (call (.type "reversed") [.ref r]) Q E s := by
  have hT : s.TypeIs (.ref r) "range" := ⟨_, hr, rfl⟩
  refine callType_other (U := "range_iterator") (Q₁ := fun obj s₁ => obj = .ref s.heap.objs.size ∧ s₁ = { s with heap := s.heap.push (ritObj ((n : Int) - 1) n (-1)) }) (by decide +kernel) PySem.F.create_reversed ⟨_, _, PySem.F.mro_reversed⟩ PySem.F.made_reversed sub_rit_reversed (PySem.F.typeCall_reversed_1 _) ?_ ?_
  · refine codeAny_of_tree ?_
    show wpAny _ A.in1.in1 (do checkBuiltinCall "reversed.__new__" ⟨[.type "reversed", .ref r], []⟩; again (.builtin "reversed.__new__" ⟨[.type "reversed", .ref r], []⟩)) _ _ s
    refine wpAny_bind (wpAny_of_eq (PySem.F.newCall_reversed_1 _) (wpAny_pure ⟨plainId_quiet PySem.F.plain_reversed_new _, codeAny_builtin PySem.F.entry_reversed_new ?_⟩))
    rw [Around.under_plainId PySem.F.plain_reversed_new _]
    unfold Builtin.«reversed.__new__»
    refine wpAny_bind (wpAny_of_eq (newClass_reversed _) ?_)
    refine wpAny_bind (wpAny_of_eq (a := ()) rfl ?_)
    refine wpAny_bind (wpAny_of_eq (a := ()) rfl ?_)
    dsimp only
    refine wpAny_bind (wpAny_specialOf hT PySem.F.slot_range_reversed.lookup ?_)
    dsimp only
    refine wpAny_bind (wpAny_of_eq (PySem.F.slot_range_reversed.bind _) ?_)
    dsimp only
    rw [if_neg (show ¬ ((Value.builtin "range.__reversed__" == Value.none) = true) from Bool.false_ne_true)]
    refine wpAny_bind (wpAny_rule ?_)
    refine wpAny_bind (m := runValue (.call (.builtin "range.__reversed__") ⟨[.ref r], []⟩)) (show wpAny _ _ (call (.builtin "range.__reversed__") [.ref r]) _ _ _ from range_rev hr hn ?_)
    exact wpAny_pure ⟨rfl, rfl⟩
  · rintro obj s₁ ⟨rfl, rfl⟩
    exact ⟨⟨_, Heap.get?_push_size _ rfl, rfl⟩, h⟩
end

section
variable {X : Wd} {c : Cx} {k : Nat} {loc : Loc} {σ : List MO} {Q : AFl → Loc → List MO → Prop}
theorem swp_ForRev {t inner : Expr} {rx : Str} {rp cp pos : Pos} {body : List Stmt} (hk : c.sc.names.lookup rx = some .globalImplicit) (hm : X.mg rx = none) (hv : bootBuiltins rx = some (.type "reversed"))
    (h : ewp X c k inner (fun a σ1 => ∃ n : Nat, a = .rng n ∧ n ≤ 1000 ∧ forW X c k t body (fun _ => True) Q (prog1 ((n : Int) - 1) (-1) n) loc σ1) loc σ)
    (hn : rx ≠ "__name__" := by decide) (hd : (rx == ("__debug__" : Str)) = false := by decide)
    (hc : ∀ env, eval (.Call (.Name rx rp) [inner] [] cp) env = (do callWith cp (← eval (.Name rx rp) env) [] (backTo cp (starEach [inner] env)) (backToKw cp (keywordEach [] env))) := by intro _; rfl)
    (he : ∀ env, starEach [inner] env = (false, eval inner env) :: starEach [] env := by intro _; rfl)
    (hs : ∀ env x, foldedSetIterable (.Call (.Name rx rp) [inner] [] cp) env x = pure x := by intro _ _; rfl) : swp X c k (.For t (.Call (.Name rx rp) [inner] [] cp) body [] pos) Q loc σ := fun A env W F m s R S E => by
  refine wpAny_For ?_ (hs env)
  rw [hc env]
  refine wpAny_bind ((ewp_builtin (Q := fun a σ' => a = .opq (.type "reversed") ∧ σ' = σ) hk hm hv ⟨rfl, rfl⟩ hn hd).use R S E fun F0 m0 a0 σ0 u0 s0 g0 r0 ⟨ea, es⟩ E0 => ?_)
  subst ea; subst es
  cases r0
  refine callWith_of (P := X.K.In) (by rw [he]; rfl) (fun h x => Kp.type _ h x) ?_
  refine evalArgs_kw2 (kws := []) rfl (args_cons (h.use R g0.st E0 fun F1 m1 a σ1 u s1 g1 ra ⟨n, e1, hn', hf⟩ E1 => ?_) (he env)) (he env)
  subst e1
  obtain ⟨r, t1, t2, t3, rfl, hF⟩ := ra
  refine args_nil (wpAny_pure ⟨g1.st.K, ?_⟩)
  refine reversed_range (g1.st.fz _ _ hF rfl) (by omega) ?_
  have g2 : Go X.prog X.w X.h0 F1 m1 s1 F1 m1 σ1 { s1 with heap := s1.heap.push (ritObj ((n : Int) - 1) n (-1)) } := Go.grow (tk := s1.toks) g1.st push_some
  have hI : s1.heap.get? s1.heap.objs.size = none := fresh_size _
  have hit0 : IsRangeIter (s1.heap.push (ritObj ((n : Int) - 1) n (-1))) s1.heap.objs.size ((n : Int) - 1) n (-1) := Heap.get?_push_size _ rfl
  generalize s1.heap.objs.size = I at hI hit0
  refine wpAny_pyIter_rangeiter hit0 ?_
  have hIm : I ∉ m1 := fun h => g1.st.lt I h hI
  have hIF : NF F1 I := fun o hf h => by have := g1.st.fz I o h hf; rw [hI] at this; cases this
  have O : Own X env W I F1 m1 := ⟨hIm, hIF, fun h => (E1.priv I h).2.2 hI, fun x b hb e => by
    obtain ⟨_, _, _, v0, o, ho, _⟩ := E1.cells x b hb
    rw [e, hI] at ho; cases ho⟩
  refine forL (Q := Q) R (src_range (n := n) (a := (n : Int) - 1) (c := -1) (m := m1) (F := F1) R) g2.toX hI (Nat.zero_le _) g2.st (E1.go g2) O (by simpa using hit0) hf ?_
  intro F' m' fl f loc' σ' s' g E' r q
  exact ⟨F', m', fl, loc', σ', (g0.trans g1).toX.trans (g.drop fun b hb => by
    rcases List.mem_cons.mp hb with e | hb
    · rw [e]; exact .inr hI
    · exact .inl hb), E', r, q⟩
end
end Mine
end

section -- PgT
open PySem PySem.W PyProof.Rows PySem.Calls PySem.SeqAt
set_option Elab.async false
set_option maxRecDepth 100000
namespace Mine
set_option linter.unusedVariables false

structure Ok (X : Wd) : Prop where
  K : X.K = pghead.heap_1 X.w.params

theorem Ok.at {X : Wd} (ok : Ok X) {a : Addr} {o : Obj} (h : (pghead.heap_1 X.w.params).lookup a = some o) : X.K.lookup a = some o := by rw [ok.K]; exact h
theorem Ok.mg {X : Wd} (ok : Ok X) {n : Str} {v : Value} (h : nsIn (pghead.heap_1 X.w.params) mainGlobals n = some (some v)) : X.mg n = some v := mg_of X.kin X.g (by rw [ok.K]; exact h)
theorem Ok.mgn {X : Wd} (ok : Ok X) {n : Str} (h : nsIn (pghead.heap_1 X.w.params) mainGlobals n = some none) : X.mg n = none := mg_none_of X.kin X.g (by rw [ok.K]; exact h)
theorem Ok.kp {X : Wd} (ok : Ok X) {f : Value} (h : keepIn (pghead.heap_1 X.w.params) f = true) : Kp X f := Kp.of (by rw [ok.K]; exact h)

noncomputable def ltB (a b : PyData) : Bool := ltD a b == some true
noncomputable def Tot (hs : List PyData) : Prop := ∀ a ∈ hs, SeqAt.shaped a = true ∧ ∀ b ∈ hs, ∃ r, ltD a b = some r
theorem Tot.sub {hs hs' : List PyData} (h : Tot hs) (s : ∀ a ∈ hs', a ∈ hs) : Tot hs' := fun a ha => ⟨(h a (s a ha)).1, fun b hb => (h a (s a ha)).2 b (s b hb)⟩
theorem Tot.lt {hs : List PyData} (h : Tot hs) {a b : PyData} (ha : a ∈ hs) (hb : b ∈ hs) {X : Wd} {k : Nat} {σ : List MO} {Q : AV → List MO → Prop} (q : Q (.bool (ltB a b)) σ) : v2 X k (compareOp .Lt) (.dat a) (.dat b) Q σ := by
  obtain ⟨h1, h2⟩ := h a ha
  obtain ⟨h3, _⟩ := h b hb
  obtain ⟨r, e⟩ := h2 b hb
  refine v2_ltD h1 h3 e ?_
  have e2 : ltB a b = r := by unfold ltB; rw [e]; cases r <;> rfl
  rw [← e2]; exact q

section
variable {α : Type} (lt : α → α → Bool)
noncomputable def sdown (new : α) (start : Nat) : Nat → List α → Nat → List α
  | 0, h, p => h.set p new
  | f + 1, h, p => if start < p then (match h[(p - 1) / 2]? with
      | some x => if lt new x then sdown new start f (h.set p x) ((p - 1) / 2) else h.set p new
      | none => h) else h.set p new
noncomputable def kid (h : List α) (p : Nat) : Nat := match h[2 * p + 1]?, h[2 * p + 2]? with
  | some a, some b => if lt a b then 2 * p + 1 else 2 * p + 2
  | _, _ => 2 * p + 1
noncomputable def sup : Nat → List α → Nat → List α × Nat
  | 0, h, p => (h, p)
  | f + 1, h, p => if 2 * p + 1 < h.length then (match h[kid lt h p]? with
      | some x => sup f (h.set p x) (kid lt h p)
      | none => (h, p)) else (h, p)
noncomputable def siftup (h : List α) (pos : Nat) (new : α) : List α :=
  let r := sup lt h.length h pos
  sdown lt new pos r.2 (r.1.set r.2 new) r.2
noncomputable def hpush (h : List α) (x : α) : List α := sdown lt x 0 h.length (h ++ [x]) h.length
noncomputable def hpop (r : List α) (l : α) : α × List α := match r with
  | [] => (l, [])
  | x :: _ => (x, siftup lt (r.set 0 l) 0 l)
end

theorem half (n : Nat) (h : 0 < n) : ((n : Int) - 1).fdiv (2 ^ (1 : Int).toNat) = ((n - 1) / 2 : Nat) := by
  have e : ((n : Int) - 1) = ((n - 1 : Nat) : Int) := by omega
  rw [e]
  show ((n - 1 : Nat) : Int).fdiv 2 = _
  rw [Int.fdiv_eq_ediv_of_nonneg _ (by decide)]
  simp
theorem set_same {σ : List MO} {i : Nat} {o : MO} (hσ : σ[i]? = some o) : σ.set i o = σ := by
  obtain ⟨h1, h2⟩ := List.getElem?_eq_some_iff.mp hσ
  rw [← h2]; exact List.set_getElem_self h1
theorem some_mem {l : List PyData} {i : Nat} {d : PyData} (h : l[i]? = some d) : d ∈ l := List.mem_of_getElem? h
theorem some_lt {l : List PyData} {i : Nat} {d : PyData} (h : l[i]? = some d) : i < l.length := (List.getElem?_eq_some_iff.mp h).1
theorem set_sub {l hs : List PyData} {i : Nat} {d : PyData} (h : ∀ a ∈ l, a ∈ hs) (hd : d ∈ hs) : ∀ a ∈ l.set i d, a ∈ hs := fun a ha => (List.mem_or_eq_of_mem_set ha).elim (h a) fun e => e ▸ hd

theorem siftdown_spec {X : Wd} (ok : Ok X) {k : Nat} {σ : List MO} {Q : AV → List MO → Prop} {i start pos : Nat} {hs : List PyData} {new : PyData} (hσ : σ[i]? = some (.lst hs)) (hp : hs[pos]? = some new) (hl : hs.length ≤ 1000) (ht : Tot hs)
    (h : Q .none (σ.set i (.lst (sdown ltB new start pos hs pos)))) : fwp X (k + 1) (.ref 203) [.mr i, .int start, .int pos] [] [] Q σ := by
  refine fwp_fn3 [] (ok.at rfl) rfl rfl (by rw [ok.K]; rfl) ?_
  refine xwp_cons (swp_Assign_Name (.inl rfl) (ewp_Sub (ewp_name rfl (ewp_name rfl ⟨"list", .mrl hσ, v2_get_mr hσ hp (fit30 (some_lt hp) rfl hl) ?_⟩))))
  generalize hfin : sdown ltB new start pos hs pos = fin at h
  have hσi : i < σ.length := (List.getElem?_eq_some_iff.mp hσ).1
  refine xwp_cons (swp.mono (swp_WhileI (Q := fun fl l σ' => fl = .next ∧ ∃ (p : Nat) (cur : List PyData), Subs [("heap", .mr i), ("pos", .int p), ("newitem", .dat new)] l ∧ σ' = σ.set i (.lst cur) ∧ p < cur.length ∧ cur.length = hs.length ∧ cur.set p new = fin)
    (fun n loc σ' => ∃ (p f : Nat) (cur : List PyData), n = p ∧ loc = ([("heap", .mr i), ("startpos", .int start), ("pos", .int p), ("newitem", .dat new)] : Loc) ∧ σ' = σ.set i (.lst cur) ∧ p < cur.length ∧ cur.length = hs.length ∧
      (∀ a ∈ cur, a ∈ hs) ∧ p ≤ f ∧ sdown ltB new start f cur p = fin) pos ([("heap", .mr i), ("startpos", .int start), ("pos", .int pos), ("newitem", .dat new)] : Loc) ⟨rfl, rfl, rfl, rfl, trivial⟩ ⟨pos, pos, hs, rfl, rfl, (set_same hσ).symm, some_lt hp, rfl, fun _ h => h, Nat.le_refl _, hfin⟩ ?_) ?_)
  · rintro n loc σ' ⟨p, f, cur, rfl, rfl, rfl, hp', hl', hsub, hf, he⟩
    have hσ' : (σ.set i (.lst cur))[i]? = some (.lst cur) := List.getElem?_set_self hσi
    refine twp_Compare (ewp_name rfl (ewp_name rfl (v2_gt ⟨_, rfl, ?_⟩)))
    by_cases hlt : start < n
    · rw [decide_eq_true (Int.ofNat_lt.mpr hlt)]
      obtain ⟨f, rfl⟩ : ∃ f', f = f' + 1 := succ_of hlt hf
      unfold sdown at he
      rw [if_pos hlt] at he
      have hpar : (n - 1) / 2 < cur.length := half_lt hp'
      obtain ⟨par, hpr⟩ : ∃ x, cur[(n - 1) / 2]? = some x := ⟨_, List.getElem?_eq_getElem hpar⟩
      rw [hpr] at he
      refine xwp_cons (swp_Assign_Name (.inl rfl) (ewp_BinOp (ewp_BinOp (ewp_name rfl (ewp_int (v2_sub (ewp_int (v2_shr (by decide) ?_))))))))
      rw [half n (Nat.lt_of_le_of_lt (Nat.zero_le _) hlt)]
      refine xwp_cons (swp_Assign_Name (.inl rfl) (ewp_Sub (ewp_name rfl (ewp_name rfl ⟨"list", .mrl hσ', v2_get_mr hσ' hpr (fit30 hpar hl' hl) ?_⟩))))
      refine xwp_cons (swp_If (twp_Compare (ewp_name rfl (ewp_name rfl (ht.lt (some_mem hp) (hsub _ (some_mem hpr)) ⟨_, rfl, ?_⟩)))))
      cases hb : ltB new par with
      | true =>
        simp only [hb, if_true] at he
        refine xwp_cons (swp_Assign_Sub (ewp_name rfl (ewp_name rfl (ewp_name rfl (v3_set_mr hσ' hp' (fit30 hp' hl' hl) ?_)))))
        refine xwp_cons (swp_Assign_Name (.inl rfl) (ewp_name rfl ?_))
        refine xwp_cons (swp_Continue ?_)
        rw [List.set_set]
        exact ⟨(n - 1) / 2, ([("heap", .mr i), ("startpos", .int start), ("pos", .int ((n - 1) / 2 : Nat)), ("newitem", .dat new)] : Loc), by omega, ⟨rfl, rfl, rfl, rfl, trivial⟩, (n - 1) / 2, f, _, rfl, rfl, rfl, by simpa using hpar, by simpa using hl', set_sub hsub (hsub _ (some_mem hpr)), by omega, he⟩
      | false =>
        simp only [hb, Bool.false_eq_true, if_false] at he
        refine xwp_nil ?_
        refine xwp_cons (swp_Break ?_)
        exact ⟨rfl, n, cur, ⟨rfl, rfl, rfl, trivial⟩, rfl, hp', hl', he⟩
    · rw [decide_eq_false fun h => hlt (Int.ofNat_lt.mp h)]
      refine ⟨rfl, n, cur, ⟨rfl, rfl, rfl, trivial⟩, rfl, hp', hl', ?_⟩
      rw [← he]
      cases f with
      | zero => rfl
      | succ f => unfold sdown; rw [if_neg hlt]
  · rintro fl l σ' ⟨rfl, p, cur, hs, rfl, hp', hl', he⟩
    have hσ' : (σ.set i (.lst cur))[i]? = some (.lst cur) := List.getElem?_set_self hσi
    refine xwp.sub ?_ hs
    refine xwp_cons (swp_Assign_Sub (ewp_name rfl (ewp_name rfl (ewp_name rfl (v3_set_mr hσ' hp' (fit30 hp' hl' hl) ?_)))))
    refine xwp_nil ?_
    rw [List.set_set, he]
    exact h

theorem kid_lt {h : List PyData} {p : Nat} (hl : 2 * p + 1 < h.length) : kid ltB h p < h.length ∧ p < kid ltB h p := by
  unfold kid
  split
  · rename_i a b h1 h2
    have := some_lt h2
    split <;> omega
  · omega

theorem kid_pair {h : List PyData} {p : Nat} {a b : PyData} (h1 : h[2 * p + 1]? = some a) (h2 : h[2 * p + 2]? = some b) : kid ltB h p = if ltB a b then 2 * p + 1 else 2 * p + 2 := by
  unfold kid; rw [h1, h2]
theorem kid_lone {h : List PyData} {p : Nat} (h2 : h[2 * p + 2]? = none) : kid ltB h p = 2 * p + 1 := by
  unfold kid
  split
  · rename_i a b e1 e2; rw [h2] at e2; cases e2
  · rfl
theorem mulok (p : Nat) : IntMulOk 2 p := IntMulOk.of_left (by decide)

theorem siftup_spec {X : Wd} (ok : Ok X) {k : Nat} {σ : List MO} {Q : AV → List MO → Prop} {i pos : Nat} {hs : List PyData} {new : PyData} (hσ : σ[i]? = some (.lst hs)) (hp : hs[pos]? = some new) (hl : hs.length ≤ 1000) (ht : Tot hs)
    (h : Q .none (σ.set i (.lst (siftup ltB hs pos new)))) : fwp X (k + 2) (.ref 210) [.mr i, .int pos] [] [] Q σ := by
  refine fwp_fn2 [] (ok.at rfl) rfl rfl (by rw [ok.K]; rfl) ?_
  have hpl := some_lt hp
  refine xwp_cons (swp_Assign_Name (.inl rfl) (ewp_Call (ewp_builtin rfl (ok.mgn rfl) rfl ⟨_, rfl, Kp.builtin, asp_cons (ewp_name rfl (asp_nil (ksp_nil (f_len (.mr hσ) hl ?_))))⟩)))
  refine xwp_cons (swp_Assign_Name (.inl rfl) (ewp_name rfl ?_))
  refine xwp_cons (swp_Assign_Name (.inl rfl) (ewp_Sub (ewp_name rfl (ewp_name rfl ⟨"list", .mrl hσ, v2_get_mr hσ hp (fit30 hpl rfl hl) ?_⟩))))
  refine xwp_cons (swp_Assign_Name (.inl rfl) (ewp_BinOp (ewp_BinOp (ewp_int (ewp_name rfl (v2_mul (mulok pos) (ewp_int (v2_add ?_))))))))
  have hσi : i < σ.length := (List.getElem?_eq_some_iff.mp hσ).1
  unfold siftup at h
  generalize hfin : sup ltB hs.length hs pos = fin at h
  refine xwp_cons (swp.mono (swp_WhileI (Q := fun fl l σ' => fl = .next ∧ Subs [("heap", .mr i), ("pos", .int fin.2), ("startpos", .int pos), ("newitem", .dat new)] l ∧ σ' = σ.set i (.lst fin.1) ∧ fin.2 < fin.1.length ∧ fin.1.length = hs.length ∧ (∀ a ∈ fin.1, a ∈ hs))
    (fun n loc σ' => ∃ (p f : Nat) (cur : List PyData), n = hs.length - p ∧ loc = ([("heap", .mr i), ("pos", .int p), ("endpos", .int hs.length), ("startpos", .int pos), ("newitem", .dat new), ("childpos", .int (2 * (p : Int) + 1))] : Loc) ∧ σ' = σ.set i (.lst cur) ∧ p < cur.length ∧ cur.length = hs.length ∧
      (∀ a ∈ cur, a ∈ hs) ∧ hs.length - p ≤ f ∧ sup ltB f cur p = fin) (hs.length - pos) ([("heap", .mr i), ("pos", .int pos), ("endpos", .int hs.length), ("startpos", .int pos), ("newitem", .dat new), ("childpos", .int (2 * (pos : Int) + 1))] : Loc) ⟨rfl, rfl, rfl, rfl, rfl, rfl, trivial⟩ ⟨pos, hs.length, hs, rfl, rfl, (set_same hσ).symm, hpl, rfl, fun _ h => h, Nat.sub_le _ _, hfin⟩ ?_) ?_)
  · rintro n loc σ' ⟨p, f, cur, rfl, rfl, rfl, hp', hl', hsub, hf, he⟩
    have hσ' : (σ.set i (.lst cur))[i]? = some (.lst cur) := List.getElem?_set_self hσi
    refine twp_Compare (ewp_name rfl (ewp_name rfl (v2_lt ⟨_, rfl, ?_⟩)))
    obtain ⟨f, rfl⟩ : ∃ f', f = f' + 1 := succ_of (Nat.sub_pos_of_lt (hl' ▸ hp')) hf
    unfold sup at he
    by_cases hlt : 2 * p + 1 < cur.length
    · rw [decide_eq_true (two_lt hl' hlt)]
      rw [if_pos hlt] at he
      obtain ⟨hk1, hk2⟩ := kid_lt hlt
      obtain ⟨x, hx⟩ : ∃ x, cur[kid ltB cur p]? = some x := ⟨_, List.getElem?_eq_getElem hk1⟩
      rw [hx] at he
      refine xwp_cons (swp_Assign_Name (.inl rfl) (ewp_BinOp (ewp_name rfl (ewp_int (v2_add ?_)))))
      refine xwp_cons (swp.mono (Q := fun fl l σ' => fl = .next ∧ Subs [("heap", .mr i), ("pos", .int p), ("endpos", .int hs.length), ("startpos", .int pos), ("newitem", .dat new), ("childpos", .int (kid ltB cur p : Nat))] l ∧ σ' = σ.set i (.lst cur)) (swp_If (twp_And (tsp_cons (twp_Compare (ewp_name rfl (ewp_name rfl (v2_lt ⟨_, rfl, ?_⟩))))))) ?_)
      · cases h2 : cur[2 * p + 2]? with
        | none =>
          have h2l : cur.length ≤ 2 * p + 2 := List.getElem?_eq_none_iff.mp h2
          rw [decide_eq_false (two_not2 hl' h2l)]
          refine xwp_nil ⟨rfl, ?_, rfl⟩
          rw [kid_lone h2]
          exact ⟨rfl, rfl, rfl, rfl, rfl, by show _ = some (AV.int ((2 * p + 1 : Nat) : Int)); push_cast; rfl, trivial⟩
        | some b =>
          have h2l := some_lt h2
          rw [decide_eq_true (two_lt2 hl' h2l)]
          obtain ⟨a, h1⟩ : ∃ a, cur[2 * p + 1]? = some a := ⟨_, List.getElem?_eq_getElem hlt⟩
          have e1 : (2 * (p : Int) + 1) = ((2 * p + 1 : Nat) : Int) := by push_cast; rfl
          have e2 : (2 * (p : Int) + 1 + 1) = ((2 * p + 2 : Nat) : Int) := two_eq
          rw [e1, e2] at *
          refine tsp_cons (twp_Not (twp_Compare (ewp_Sub (ewp_name rfl (ewp_name rfl ⟨"list", .mrl hσ', v2_get_mr hσ' h1 (fit30 (some_lt h1) hl' hl) (ewp_Sub (ewp_name rfl (ewp_name rfl ⟨"list", .mrl hσ', v2_get_mr hσ' h2 (fit30 (some_lt h2) hl' hl) (ht.lt (hsub _ (some_mem h1)) (hsub _ (some_mem h2)) ⟨_, rfl, ?_⟩)⟩)))⟩)))))
          have hk := kid_pair h1 h2
          cases hb : ltB a b with
          | true =>
            rw [hb, if_pos rfl] at hk
            refine xwp_nil ⟨rfl, ?_, rfl⟩
            rw [hk]
            exact ⟨rfl, rfl, rfl, rfl, rfl, rfl, trivial⟩
          | false =>
            rw [hb, if_neg (by simp)] at hk
            refine tsp_nil ?_
            refine xwp_cons (swp_Assign_Name (.inl rfl) (ewp_name rfl ?_))
            refine xwp_nil ⟨rfl, ?_, rfl⟩
            rw [hk]
            exact ⟨rfl, rfl, rfl, rfl, rfl, rfl, trivial⟩
      · rintro fl l σ' ⟨rfl, hs2, rfl⟩
        refine xwp.sub ?_ hs2
        refine xwp_cons (swp_Assign_Sub (ewp_Sub (ewp_name rfl (ewp_name rfl ⟨"list", .mrl hσ', v2_get_mr hσ' hx (fit30 hk1 hl' hl) (ewp_name rfl (ewp_name rfl (v3_set_mr hσ' hp' (fit30 hp' hl' hl) ?_)))⟩))))
        refine xwp_cons (swp_Assign_Name (.inl rfl) (ewp_name rfl ?_))
        refine xwp_cons (swp_Assign_Name (.inl rfl) (ewp_BinOp (ewp_BinOp (ewp_int (ewp_name rfl (v2_mul (mulok _) (ewp_int (v2_add ?_))))))))
        refine xwp_nil ?_
        rw [List.set_set]
        exact ⟨hs.length - kid ltB cur p, ([("heap", .mr i), ("pos", .int (kid ltB cur p : Nat)), ("endpos", .int hs.length), ("startpos", .int pos), ("newitem", .dat new), ("childpos", .int (2 * ((kid ltB cur p : Nat) : Int) + 1))] : Loc), sub_lt hk2 (hl' ▸ hk1), ⟨rfl, rfl, rfl, rfl, rfl, rfl, trivial⟩, kid ltB cur p, f, _, rfl, rfl, rfl, by simpa using hk1, by simpa using hl', set_sub hsub (hsub _ (some_mem hx)), sub_le hk2 hf, he⟩
    · rw [decide_eq_false (two_not hl' hlt)]
      rw [if_neg hlt] at he
      subst he
      exact ⟨rfl, ⟨rfl, rfl, rfl, rfl, trivial⟩, rfl, hp', hl', hsub⟩
  · rintro fl l σ' ⟨rfl, hs2, rfl, hp', hl', hsub⟩
    have hσ' : (σ.set i (.lst fin.1))[i]? = some (.lst fin.1) := List.getElem?_set_self hσi
    refine xwp.sub ?_ hs2
    refine xwp_cons (swp_Assign_Sub (ewp_name rfl (ewp_name rfl (ewp_name rfl (v3_set_mr hσ' hp' (fit30 hp' hl' hl) ?_)))))
    rw [List.set_set]
    refine xwp_cons (swp_Expr (ewp_Call (ewp_global rfl (ok.mg rfl) ⟨_, rfl, ok.kp rfl, asp_cons (ewp_name rfl (asp_cons (ewp_name rfl (asp_cons (ewp_name rfl (asp_nil (ksp_nil ?_)))))))⟩)))
    refine siftdown_spec ok (new := new) (List.getElem?_set_self hσi) (by simp [hp']) (by simp; omega) (ht.sub (set_sub hsub (some_mem hp))) ?_
    refine xwp_nil ?_
    rw [List.set_set]
    exact h

theorem heappush_spec {X : Wd} (ok : Ok X) {k : Nat} {σ : List MO} {Q : AV → List MO → Prop} {i : Nat} {hs : List PyData} {x : PyData} (hσ : σ[i]? = some (.lst hs)) (hl : hs.length < 1000) (ht : Tot (x :: hs))
    (h : Q .none (σ.set i (.lst (hpush ltB hs x)))) : fwp X (k + 2) (.ref 182) [.mr i, .dat x] [] [] Q σ := by
  refine fwp_fn2 [] (ok.at rfl) rfl rfl (by rw [ok.K]; rfl) ?_
  have hσi : i < σ.length := (List.getElem?_eq_some_iff.mp hσ).1
  refine xwp_cons (swp_Expr (ewp_Meth (ewp_name rfl ⟨_, mth_builtin (.mrl hσ) PySem.F.plainAttrs_list slot_list_append type_list_append, Kp.builtin, asp_cons (ewp_name rfl (asp_nil (ksp_nil (f_append hσ (by omega) ?_))))⟩)))
  have hσ' : (σ.set i (.lst (hs ++ [x])))[i]? = some (.lst (hs ++ [x])) := List.getElem?_set_self hσi
  refine xwp_cons (swp_Expr (ewp_Call (ewp_global rfl (ok.mg rfl) ⟨_, rfl, ok.kp rfl, asp_cons (ewp_name rfl (asp_cons (ewp_int (asp_cons (ewp_BinOp (ewp_Call (ewp_builtin rfl (ok.mgn rfl) rfl ⟨_, rfl, Kp.builtin, asp_cons (ewp_name rfl (asp_nil (ksp_nil (f_len (.mr hσ') (by simp; omega) (ewp_int (v2_sub (asp_nil (ksp_nil ?_))))))))⟩)))))))⟩)))
  have e : (((hs ++ [x]).length : Nat) : Int) - 1 = (hs.length : Nat) := by simp
  rw [e]
  refine siftdown_spec ok (start := 0) (new := x) hσ' (by simp) (by simp; omega) (ht.sub fun a ha => ?_) ?_
  · rcases List.mem_append.mp ha with h1 | h1
    · exact List.mem_cons_of_mem _ h1
    · rw [List.mem_singleton.mp h1]; exact List.mem_cons_self
  · refine xwp_nil ?_
    rw [List.set_set]
    exact h

theorem heappop_spec {X : Wd} (ok : Ok X) {k : Nat} {σ : List MO} {Q : AV → List MO → Prop} {i : Nat} {r : List PyData} {l : PyData} (hσ : σ[i]? = some (.lst (r ++ [l]))) (hl : r.length < 1000) (ht : Tot (l :: r))
    (h : Q (.dat (hpop ltB r l).1) (σ.set i (.lst (hpop ltB r l).2))) : fwp X (k + 3) (.ref 189) [.mr i] [] [] Q σ := by
  refine fwp_fn1 [] (ok.at rfl) rfl rfl (by rw [ok.K]; rfl) ?_
  have hσi : i < σ.length := (List.getElem?_eq_some_iff.mp hσ).1
  refine xwp_cons (swp_Assign_Name (.inl rfl) (ewp_Meth0 (ewp_name rfl ⟨_, mth_builtin (.mrl hσ) PySem.F.plainAttrs_list PySem.F.slot_list_pop PySem.F.type_list_pop, Kp.builtin, f_pop hσ (by omega) ?_⟩)))
  have hσ' : (σ.set i (.lst r))[i]? = some (.lst r) := List.getElem?_set_self hσi
  refine xwp_cons (swp_If (twp_value (ewp_name rfl (vt_list (.mr hσ') (by omega) ?_))))
  cases r with
  | nil =>
    refine xwp_nil ?_
    refine xwp_cons (swp_Return (ewp_name rfl ?_))
    exact h
  | cons y r =>
    refine xwp_cons (swp_Assign_Name (.inl rfl) (ewp_Sub (ewp_name rfl (ewp_int ⟨"list", .mrl hσ', v2_get_mr (i := 0) (d := y) hσ' rfl (by omega) ?_⟩))))
    refine xwp_cons (swp_Assign_Sub (ewp_name rfl (ewp_name rfl (ewp_int (v3_set_mr (i := 0) hσ' (by simp) (by omega) ?_)))))
    rw [List.set_set]
    have hσ2 : (σ.set i (.lst ((y :: r).set 0 l)))[i]? = some (.lst ((y :: r).set 0 l)) := List.getElem?_set_self hσi
    refine xwp_cons (swp_Expr (ewp_Call (ewp_global rfl (ok.mg rfl) ⟨_, rfl, ok.kp rfl, asp_cons (ewp_name rfl (asp_cons (ewp_int (asp_nil (ksp_nil ?_)))))⟩)))
    refine siftup_spec ok (pos := 0) (new := l) hσ2 rfl (by simp at hl ⊢; omega) (ht.sub fun a ha => ?_) ?_
    · simp only [List.set_cons_zero, List.mem_cons] at ha ⊢
      exact ha.elim .inl fun h => .inr (.inr h)
    · rw [List.set_set]
      refine xwp_cons (swp_Return (ewp_name rfl ?_))
      exact h

theorem heapify_spec {X : Wd} (ok : Ok X) {k : Nat} {σ : List MO} {Q : AV → List MO → Prop} {i : Nat} {a b : PyData} (hσ : σ[i]? = some (.lst [a, b])) (ht : Tot [a, b])
    (h : Q .none (σ.set i (.lst (siftup ltB [a, b] 0 a)))) : fwp X (k + 3) (.ref 196) [.mr i] [] [] Q σ := by
  refine fwp_fn1 [] (ok.at rfl) rfl rfl (by rw [ok.K]; rfl) ?_
  refine xwp_cons (swp_Assign_Name (.inl rfl) (ewp_Call (ewp_builtin rfl (ok.mgn rfl) rfl ⟨_, rfl, Kp.builtin, asp_cons (ewp_name rfl (asp_nil (ksp_nil (f_len (.mr hσ) (by simp) ?_))))⟩)))
  refine xwp_cons (swp_ForRev rfl (ok.mgn rfl) rfl (ewp_Call (ewp_builtin rfl (ok.mgn rfl) rfl ⟨_, rfl, Kp.type, asp_cons (ewp_BinOp (ewp_name rfl (ewp_int (v2_fdiv (by decide) (by show Builtin.divisionGoesByPylong 2 2 = false; decide +kernel) (asp_nil (ksp_nil (t_range ?_)))))))⟩)))
  refine ⟨1, congrArg AV.rng (show ((2 : Nat) : Int).fdiv 2 = ((1 : Nat) : Int) by decide), by decide, ?_⟩
  refine ⟨trivial, agn_Name (.inl rfl) ?_⟩
  refine xwp_cons (swp_Expr (ewp_Call (ewp_global rfl (ok.mg rfl) ⟨_, rfl, ok.kp rfl, asp_cons (ewp_name rfl (asp_cons (ewp_name rfl (asp_nil (ksp_nil ?_)))))⟩)))
  refine siftup_spec ok (pos := 0) (new := a) hσ rfl (by simp) ht ?_
  refine xwp_nil ?_
  exact ⟨[], trivial, trivial, xwp_nil h⟩
end Mine
end

section -- PgV
open PySem PySem.W PyProof.Rows PySem.Calls PySem.SeqAt
set_option Elab.async false
set_option maxRecDepth 100000
namespace Mine
set_option linter.unusedVariables false

noncomputable def cmpI (l r : List Int) : List Nat → Int
  | [] => 0
  | i :: is => if l.getD i 0 < r.getD i 0 then -1 else if r.getD i 0 < l.getD i 0 then 1 else cmpI l r is

@[reducible] noncomputable def judgeL (is : List Nat) : PyData := .list (is.map fun (i : Nat) => PyData.tuple [.int (i : Int), .int 1])
theorem iL_at {l : List Int} {i : Nat} (h : i < l.length) : (iL l)[i]? = some (.int (l.getD i 0)) := by simp [iL, h]

structure Attr (X : Wd) (C : Addr) (n : Str) : Prop where
  g : plainGet X.K C n = true
  h : hasDictIn X.K C = true
  a : findIn X.K (.ref C) n = some none
theorem Ok.tc {X : Wd} (ok : Ok X) : Attr X 234 "comp_select_list" := ⟨by rw [ok.K]; rfl, by rw [ok.K]; rfl, by rw [ok.K]; rfl⟩
theorem Ok.hd {X : Wd} (ok : Ok X) : Attr X 171 "_headers" := ⟨by rw [ok.K]; rfl, by rw [ok.K]; rfl, by rw [ok.K]; rfl⟩

noncomputable abbrev cmpL (is : List Nat) (l r : List Int) : Loc := [("self", .inst 234 "comp_select_list" (.dat (judgeL is))), ("left", .dat (.list (iL l))), ("right", .dat (.list (iL r)))]
theorem compare_spec {X : Wd} (ok : Ok X) {k : Nat} {σ : List MO} {Q : AV → List MO → Prop} {is : List Nat} {l r : List Int} (hl : ∀ i ∈ is, i < l.length ∧ i < r.length) (hn : l.length ≤ 1000 ∧ r.length ≤ 1000)
    (h : Q (.int (cmpI l r is)) σ) : fwp X (k + 1) (.ref 231) [.inst 234 "comp_select_list" (.dat (judgeL is)), .dat (.list (iL l)), .dat (.list (iL r))] [] [] Q σ := by
  refine fwp_fn3 [] (ok.at rfl) rfl rfl (by rw [ok.K]; rfl) ?_
  generalize hf : cmpI l r is = fin at h
  refine xwp_cons (swp.mono (swp_ForI (Q := fun fl l' σ' => σ' = σ ∧ ((fl = .next ∧ fin = 0) ∨ (fl = .ret (.int fin)))) (ewp_Attr (ewp_name rfl ⟨234, _, _, rfl, ok.tc.g, ok.tc.h, ok.tc.a, rfl, (by intro v e; cases e), _, _, isrc_list,
    fun i loc σ' => σ' = σ ∧ loc = cmpL is l r ∧ cmpI l r (is.drop i) = fin, ⟨cmpL is l r, ⟨rfl, rfl, rfl, trivial⟩, rfl, rfl, by rw [List.drop_zero]; exact hf⟩, ?_, ?_⟩))) ?_)
  · rintro i x loc σ' hx ⟨rfl, rfl, hc⟩
    refine ⟨trivial, ?_⟩
    simp only [List.getElem?_map, Option.map_map] at hx
    obtain ⟨j, hj, rfl⟩ := Option.map_eq_some_iff.mp hx
    have hjl := hl j (List.mem_of_getElem? hj)
    have hil : i < is.length := (List.getElem?_eq_some_iff.mp hj).1
    have hd : is.drop i = j :: is.drop (i + 1) := by
      rw [List.drop_eq_getElem_cons hil]; congr 1; exact (List.getElem?_eq_some_iff.mp hj).2
    rw [hd] at hc
    unfold cmpI at hc
    refine agn_Tuple (fun _ => rfl) rfl (agn_Name (.inl rfl) (agn_Name (.inl rfl) ?_))
    refine xwp_cons (swp_Assign_Name (.inl rfl) (ewp_Sub (ewp_name rfl (ewp_name rfl ⟨"list", .list, v2_get_list (iL_at hjl.1) (by omega) ?_⟩))))
    refine xwp_cons (swp_Assign_Name (.inl rfl) (ewp_Sub (ewp_name rfl (ewp_name rfl ⟨"list", .list, v2_get_list (iL_at hjl.2) (by omega) ?_⟩))))
    refine xwp_cons (swp_If (twp_Compare (ewp_name rfl (ewp_name rfl (v2_lt ⟨_, rfl, ?_⟩)))))
    by_cases h1 : l.getD j 0 < r.getD j 0
    · rw [decide_eq_true h1]
      rw [if_pos h1] at hc
      refine xwp_cons (swp_Return (ewp_UnaryOp (ewp_name rfl (v1_neg ?_))))
      exact ⟨rfl, .inr (by rw [← hc])⟩
    · rw [decide_eq_false h1]
      rw [if_neg h1] at hc
      refine xwp_nil ?_
      refine xwp_cons (swp_If (twp_Compare (ewp_name rfl (ewp_name rfl (v2_gt ⟨_, rfl, ?_⟩)))))
      by_cases h2 : r.getD j 0 < l.getD j 0
      · rw [decide_eq_true h2]
        rw [if_pos h2] at hc
        refine xwp_cons (swp_Return (ewp_name rfl ?_))
        exact ⟨rfl, .inr (by rw [← hc])⟩
      · rw [decide_eq_false h2]
        rw [if_neg h2] at hc
        refine xwp_nil (xwp_nil ?_)
        exact ⟨cmpL is l r, ⟨rfl, rfl, rfl, trivial⟩, rfl, rfl, hc⟩
  · rintro loc σ' ⟨rfl, rfl, hc⟩
    refine ⟨trivial, rfl, .inl ⟨rfl, ?_⟩⟩
    rw [List.drop_of_length_le (by simp)] at hc
    exact hc.symm
  · rintro fl l' σ' ⟨rfl, ⟨rfl, e⟩ | rfl⟩
    · refine xwp_cons (swp_Return (ewp_int ?_))
      rw [e] at h; exact h
    · exact h

noncomputable abbrev four : List Nat := [3, 2, 1, 0]
noncomputable abbrev judge : AV := .inst 234 "comp_select_list" (.dat (judgeL four))
noncomputable def firstOf (rows : List (List Int)) (f : List Int) : List Int := rows.foldl (fun f r => if cmpI r f four < 0 then r else f) f
@[reducible] noncomputable def rowsL (rows : List (List Int)) : List PyData := rows.map fun r => .list (iL r)

noncomputable abbrev firstL (i : Nat) (f : List Int) : Loc := [("rows", .mr i), ("judge", judge), ("first", .dat (.list (iL f)))]
theorem first_spec {X : Wd} (ok : Ok X) {k : Nat} {σ : List MO} {Q : AV → List MO → Prop} {i : Nat} {rows : List (List Int)} {r0 : List Int} (hσ : σ[i]? = some (.lst (rowsL rows))) (h0 : rows[0]? = some r0) (hl : ∀ r ∈ rows, r.length = 4)
    (h : Q (.dat (.list (iL (firstOf rows r0)))) σ) : fwp X (k + 2) (.ref 271) [.mr i, judge] [] [] Q σ := by
  refine fwp_fn2 [] (ok.at rfl) rfl rfl (by rw [ok.K]; rfl) ?_
  refine xwp_cons (swp_Assign_Name (.inl rfl) (ewp_Sub (ewp_name rfl (ewp_int ⟨"list", .mrl hσ, v2_get_mr (i := 0) (d := .list (iL r0)) hσ (by simp [h0]) (by decide) ?_⟩))))
  generalize hf : firstOf rows r0 = fin at h
  refine xwp_cons (swp.mono (swp_ForI (Q := fun fl l' σ' => fl = .next ∧ σ' = σ ∧ Subs [("first", .dat (.list (iL fin)))] l') (ewp_name rfl ⟨_, _, isrc_mr hσ,
    fun j loc σ' => σ' = σ ∧ ∃ f, loc = firstL i f ∧ f.length = 4 ∧ firstOf (rows.drop j) f = fin, ⟨firstL i r0, ⟨rfl, rfl, rfl, trivial⟩, rfl, r0, rfl, hl r0 (List.mem_of_getElem? h0), by rw [List.drop_zero]; exact hf⟩, ?_, ?_⟩)) ?_)
  · rintro j x loc σ' hx ⟨rfl, f, rfl, hfl, hc⟩
    refine ⟨hσ, ?_⟩
    simp only [List.getElem?_map, Option.map_map] at hx
    obtain ⟨r, hj, rfl⟩ := Option.map_eq_some_iff.mp hx
    have hrl := hl r (List.mem_of_getElem? hj)
    have hil : j < rows.length := (List.getElem?_eq_some_iff.mp hj).1
    have hd : rows.drop j = r :: rows.drop (j + 1) := by
      rw [List.drop_eq_getElem_cons hil]; congr 1; exact (List.getElem?_eq_some_iff.mp hj).2
    rw [hd] at hc
    unfold firstOf at hc
    rw [List.foldl_cons] at hc
    refine agn_Name (.inl rfl) ?_
    refine xwp_cons (swp_If (twp_Compare (ewp_Meth (ewp_name rfl ⟨_, mth_inst ok.tc.g (f := 231) (by rw [ok.K]; rfl) (by rw [ok.K]; rfl) (by decide), ok.kp rfl, asp_cons (ewp_name rfl (asp_cons (ewp_name rfl (asp_nil (ksp_nil ?_)))))⟩))))
    refine compare_spec ok (fun a ha => ?_) (by omega) ?_
    · simp only [four, List.mem_cons, List.not_mem_nil, or_false] at ha
      omega
    · refine ewp_int (v2_lt ⟨_, rfl, ?_⟩)
      by_cases h1 : cmpI r f four < 0
      · rw [decide_eq_true h1]
        rw [if_pos h1] at hc
        refine xwp_cons (swp_Assign_Name (.inl rfl) (ewp_name rfl (xwp_nil (xwp_nil ?_))))
        exact ⟨firstL i r, ⟨rfl, rfl, rfl, trivial⟩, rfl, r, rfl, hrl, hc⟩
      · rw [decide_eq_false h1]
        rw [if_neg h1] at hc
        refine xwp_nil (xwp_nil ?_)
        exact ⟨firstL i f, ⟨rfl, rfl, rfl, trivial⟩, rfl, f, rfl, hfl, hc⟩
  · rintro loc σ' ⟨rfl, f, rfl, hfl, hc⟩
    rw [List.drop_of_length_le (by simp)] at hc
    refine ⟨hσ, rfl, rfl, ?_⟩
    rw [← hc]
    exact ⟨rfl, trivial⟩
  · rintro fl l' σ' ⟨rfl, rfl, hs⟩
    refine xwp.sub ?_ hs
    exact xwp_cons (swp_Return (ewp_name rfl h))
end Mine
end

section -- PgW
open PySem PySem.W PyProof.Rows PySem.Calls PySem.SeqAt PySem.Builtin.Str
set_option Elab.async false
set_option maxRecDepth 100000
namespace Mine
set_option linter.unusedVariables false

noncomputable def pa (p : Nat) : Nat := [0, 0, 0, 1, 1, 2].getD p 0
noncomputable def pb (p : Nat) : Nat := [1, 2, 3, 2, 3, 3].getD p 0
noncomputable def isIn (p d : Nat) : Bool := d == pa p || d == pb p
noncomputable def oth (p d : Nat) : Nat := if d == pa p then pb p else pa p
noncomputable def dk (d : Nat) : Str := ⟨#[97 + d]⟩
noncomputable def pr (p : Nat) : Str := ⟨#[97 + pa p, 97 + pb p]⟩
noncomputable def spell (p n d : Nat) : Str := ⟨#[if d == pa p then 65 + d else 97 + pa p, if d == pa p then 97 + pb p else 65 + d, 48 + n]⟩
noncomputable def key (p n : Nat) : Str := ⟨#[97 + pa p, 97 + pb p, 48 + n]⟩

theorem nat6 {p : Nat} (hp : p < 6) {P : Nat → Prop} (h : ∀ q : Fin 6, P q) : P p := h ⟨p, hp⟩
theorem isIn_lt {p d : Nat} (hp : p < 6) (h : isIn p d = true) : d < 4 := by
  have : ∀ q : Fin 6, pa q < 4 ∧ pb q < 4 := by decide
  obtain ⟨h1, h2⟩ := this ⟨p, hp⟩
  simp only [isIn, Bool.or_eq_true, beq_iff_eq] at h
  rcases h with rfl | rfl
  · exact h1
  · exact h2

theorem tab_upper : ∀ d : Fin 4, (upp (dk d)).length ≤ 1000 ∧ dk d ≠ upp (dk d) ∧ dk d ≠ Str.empty := by decide +kernel
theorem tab_repl : ∀ p : Fin 6, ∀ d : Fin 4, isIn p d = true → (pr p).length + (occurrences (pr p) (dk d) 0 (pr p).length ((pr p).length + 1)).length * (upp (dk d)).length ≤ 1000 ∧
    (repl (pr p) (dk d) (upp (dk d))).length ≤ 900 ∧ (pr p).length + (occurrences (pr p) (dk d) 0 (pr p).length ((pr p).length + 1)).length * (Str.empty).length ≤ 1000 ∧ repl (pr p) (dk d) Str.empty = dk (oth p d) := by decide +kernel
theorem tab_spell : ∀ p : Fin 6, ∀ d : Fin 4, ∀ n : Fin 5, isIn p d = true → repl (pr p) (dk d) (upp (dk d)) ++ Str.ofString (toString ((n.val : Nat) : Int)) = spell p n d := by decide +kernel
theorem tab_num : ∀ n : Fin 5, ((n.val : Nat) : Int).natAbs.log2 < 1920 ∧ (Str.ofString (toString ((n.val : Nat) : Int))).length ≤ 100 := by decide +kernel

theorem spelled_spec {X : Wd} (ok : Ok X) {k : Nat} {σ : List MO} {Q : AV → List MO → Prop} {p n d : Nat} (hp : p < 6) (hn : n < 5) (hd : isIn p d = true) (h : Q (.str (spell p n d)) σ) :
    fwp X (k + 1) (.ref 252) [.str (pr p), .int n, .str (dk d)] [] [] Q σ := by
  refine fwp_fn3 [] (ok.at rfl) rfl rfl (by rw [ok.K]; rfl) ?_
  have hd4 := isIn_lt hp hd
  obtain ⟨u1, u2, _⟩ := tab_upper ⟨d, hd4⟩
  obtain ⟨r1, r2, _, _⟩ := tab_repl ⟨p, hp⟩ ⟨d, hd4⟩ hd
  obtain ⟨n1, n2⟩ := tab_num ⟨n, hn⟩
  refine xwp_cons (swp_Return (ewp_BinOp (ewp_Replace (ewp_name rfl ⟨_, rfl, ewp_name rfl ⟨_, rfl, ewpF_upper (ewp_name rfl ⟨_, rfl, u1, u2, r1, Nat.le_trans r2 (by decide), ?_⟩)⟩⟩))))
  refine ewp_Call (ewp_builtin rfl (ok.mgn rfl) rfl ⟨_, rfl, Kp.type, asp_cons (ewp_name rfl (asp_nil (ksp_nil (t_str n1 (Nat.le_trans n2 (by decide)) (v2_adds (Nat.add_le_add r2 n2) ?_)))))⟩)
  rw [tab_spell ⟨p, hp⟩ ⟨d, hd4⟩ ⟨n, hn⟩ hd]
  exact h
end Mine
end

section -- PgY
open PySem PySem.W PyProof.Rows PySem.Calls PySem.SeqAt PySem.Builtin.Str
set_option Elab.async false
set_option maxRecDepth 100000
namespace Mine
set_option linter.unusedVariables false

noncomputable def drive : Nat → Sre.M → Option Sre.M
  | 0, _ => none
  | t + 1, m => let m := m.runFor Builtin.Re.reTurnSteps; if m.outcome.isSome then some m else drive t m
noncomputable def fails (code text : Array Nat) : Bool := match drive 200 (Sre.forSearch code text 0 0 text.size false) with
  | some m => match m.outcome with
    | some .failed => true
    | _ => false
  | none => false
noncomputable def codeN : Array Nat := #[14, 10, 4, 1, 1, 22, 0, 31, 16, 127, 0, 13, 7, 22, 0, 31, 16, 127, 0, 1]
noncomputable def codeV : Array Nat := #[14, 14, 4, 1, 1, 9, 4294966783, 0, 0, 2147483648, 0, 0, 0, 0, 0, 13, 11, 9, 4294966783, 0, 0, 2147483648, 0, 0, 0, 0, 0, 1]
theorem tab_v : ∀ d : Fin 4, fails codeV (dk d).cps = true := by decide +kernel
theorem tab_k : ∀ p : Fin 6, ∀ n : Fin 5, fails codeN (key p n).cps = true := by decide +kernel
end Mine
namespace Mine
theorem pa_rePat : PlainAttrs "re.Pattern" :=
  ⟨⟨"object.__getattribute__", by rw [typeLookup_type, builtinLookup_eq_fast]; kernel_rfl, by decide +kernel⟩, by rw [typeLookup_type, builtinLookup_eq_fast]; kernel_rfl⟩
theorem slot_rePat : Slot "re.Pattern" "search" "re.Pattern.search" :=
  .of (owner := "re.Pattern") (n := "search") (by rw [typeLookup_type, builtinLookup_eq_fast]; kernel_rfl) (by decide +kernel) (by decide +kernel) (by decide +kernel)
    (by first | exact .inl (by decide +kernel) | exact .inr (by decide +kernel)) (by rw [isSubtype_type]; kernel_rfl)
theorem type_rePat : typeOf (.builtin "re.Pattern.search") = pure (.type "method_descriptor") := by show builtinType _ = _; rw [builtinType_eq_fast]; kernel_rfl
theorem entry_rePat : entryFor table "re.Pattern.search" = some Builtin.«re.Pattern.search» := entryFor_of_tree (by kernel_rfl)
theorem args_rePat (a b : Value) : argsOk "re.Pattern.search" ⟨[a, b], []⟩ := by
  unfold argsOk; kernel_rfl

section
variable {M : Model} {A : Around} {E : Value → Shared → Prop} {s : Shared}
theorem drive_ok : ∀ (f : Nat) (m r : Sre.M) (N : Nat) {Q : Sre.M → Shared → Prop}, drive f m = some r → f ≤ N → Q r s → wpAny M A (Builtin.Re.reDrive N m) Q E s
  | 0, m, r, N, Q, h, _, _ => by cases h
  | f + 1, m, r, N, Q, h, hN, q => by
    obtain ⟨N, rfl⟩ : ∃ N', N = N' + 1 := ⟨N - 1, by omega⟩
    unfold drive at h
    unfold Builtin.Re.reDrive
    dsimp only at h ⊢
    by_cases ho : (m.runFor Builtin.Re.reTurnSteps).outcome.isSome = true
    · rw [if_pos ho] at h ⊢
      cases h
      exact wpAny_pure q
    · rw [if_neg ho] at h ⊢
      exact wpAny_bind (wpAny_rule (drive_ok f _ r N h (by omega) q))
theorem run_ok {m r : Sre.M} {Q : Option Sre.M → Shared → Prop} (h : drive 200 m = some r) (ho : r.outcome = some .failed) (q : Q none s) : wpAny M A (Builtin.Re.reRunToEnd m) Q E s := by
  unfold Builtin.Re.reRunToEnd
  refine wpAny_bind (drive_ok 200 m r _ h (by decide) ?_)
  rw [ho]
  refine wpAny_bind (wpAny_mono (Q := fun _ s' => s' = s) (E := E) ?_ (fun _ s' e => by subst e; exact wpAny_pure q) fun _ _ e => e)
  generalize List.range Sre.names.size = l
  induction l with
  | nil => rw [List.forIn_nil]; exact wpAny_pure rfl
  | cons i l ih =>
    rw [List.forIn_cons]
    refine wpAny_bind ?_
    split
    · exact wpAny_bind (wpAny_rule (wpAny_pure ih))
    · exact wpAny_pure ih
end

section
variable {prog : Program} {w : World} {A : Around} {E : Value → Shared → Prop} {s : Shared}
theorem search_ok {P C : Addr} {oP oC : Obj} {f0 f1 f3 f4 : Value} {t2 t6 : Tok} {vs : Array Value} {n : Nat} {code : Array Nat} {x : Str} {t : Tok} {r : Sre.M} {Q : Value → Shared → Prop}
    (hP : s.heap.get? P = some oP) (hc : oP.cls = .type "re.Pattern") (hd : oP.data = .fields #[f0, f1, .int 0 t2, f3, f4, .ref C, .int 0 t6]) (hC : s.heap.get? C = some oC) (hcd : oC.data = .seq vs n)
    (hcode : (vs.map Builtin.Re.reRawOf).map (·.toNat) = code) (h : drive 200 (Sre.forSearch code x.cps 0 0 x.cps.size false) = some r) (ho : r.outcome = some .failed) (hx : x.cps.size < 2 ^ 62) (q : Q .none s) :
    wpAny (model prog w) A (call (.builtin "re.Pattern.search") [.ref P, .str x t]) Q E s := by
  have hT : s.TypeIs (.ref P) "re.Pattern" := ⟨_, hP, hc⟩
  refine wpAny_call_entry slot_rePat hT entry_rePat ?_ (args_rePat _ _)
  unfold Builtin.«re.Pattern.search» Builtin.Re.reTarget
  refine wpAny_bind ?_
  dsimp only
  refine wpAny_bind (wpAny_of_eq (a := [some (.str x t), none, none]) rfl ?_)
  dsimp only
  refine wpAny_bind (wpAny_pure ?_)
  refine wpAny_bind (wpAny_pure ?_)
  refine wpAny_bind (wpAny_fieldsOf hP hd ?_)
  refine wpAny_bind (wpAny_of_eq (a := (x.cps, 0)) rfl ?_)
  have g1 : ¬ (Builtin.Re.reRawNat (#[f0, f1, Value.int 0 t2, f3, f4, Value.ref C, Value.int 0 t6].getD 6 Value.none) == 0 && (x.cps, 0).snd == 1) = true := Bool.false_ne_true
  have g2 : ¬ (Builtin.Re.reRawNat (#[f0, f1, Value.int 0 t2, f3, f4, Value.ref C, Value.int 0 t6].getD 6 Value.none) == 1 && (x.cps, 0).snd == 0) = true := Bool.false_ne_true
  rw [if_neg g1, if_neg g2]
  refine wpAny_bind (wpAny_of_eq (a := ()) rfl ?_)
  refine wpAny_bind ?_
  show wpAny _ _ (Builtin.Re.reRawItems (.ref C)) _ _ _
  unfold Builtin.Re.reRawItems
  refine wpAny_bind (wpAny_seqItems hC hcd (wpAny_pure (wpAny_pure ?_)))
  have e1 : min (Int.toNat 0) x.cps.size = 0 := Nat.zero_min _
  have e2 : min ((2 : Int) ^ 63 - 1).toNat x.cps.size = x.cps.size := Nat.min_eq_right (by have : ((2 : Int) ^ 63 - 1).toNat = 2 ^ 63 - 1 := by decide
                                                                                           omega)
  have e3 : Array.map (fun x => x.toNat) (((some vs).getD #[]).map Builtin.Re.reRawOf) = code := hcode
  dsimp only
  rw [e1, e2, e3]
  unfold Builtin.Re.reAnswer
  exact wpAny_bind (run_ok h ho (wpAny_pure ⟨_, rfl, q⟩))
end
end Mine
end

section -- PgZ
open PySem PySem.W PyProof.Rows PySem.Calls PySem.SeqAt PySem.Builtin.Str
set_option Elab.async false
set_option maxRecDepth 100000
namespace Mine
set_option linter.unusedVariables false

theorem fails_run {code text : Array Nat} (h : fails code text = true) : ∃ r, drive 200 (Sre.forSearch code text 0 0 text.size false) = some r ∧ r.outcome = some .failed := by
  unfold fails at h
  split at h
  · rename_i m hm
    split at h
    · rename_i ho; exact ⟨m, hm, ho⟩
    · cases h
  · cases h

theorem mth_search {X : Wd} (ok : Ok X) {k : Nat} {σ : List MO} {a : Addr} (ha : a = 43 ∨ a = 48) : mth X k "search" (.opq (.ref a)) (.builtin "re.Pattern.search") σ := fun A F m s u pl R S ra => by
  cases ra
  have hT : s.TypeIs (.ref a) "re.Pattern" ∧ ∃ o, s.heap.get? a = some o ∧ o.dict = none := by
    rcases ha with rfl | rfl
    · exact ⟨⟨_, S.K _ _ (ok.at rfl), rfl⟩, _, S.K _ _ (ok.at rfl), rfl⟩
    · exact ⟨⟨_, S.K _ _ (ok.at rfl), rfl⟩, _, S.K _ _ (ok.at rfl), rfl⟩
  exact getMethod_builtin hT.1 pa_rePat slot_rePat type_rePat (fun b e => by cases e; exact hT.2) ⟨rfl, Go.refl S⟩
theorem f_search {X : Wd} (ok : Ok X) {k : Nat} {σ : List MO} {Q : AV → List MO → Prop} {b : Bool} {x : Str} (hf : fails (if b then codeN else codeV) x.cps = true) (hx : x.cps.size < 2 ^ 62) (h : Q .none σ) :
    fwp X k (.builtin "re.Pattern.search") [.opq (.ref (if b then 43 else 48)), .str x] [] [] Q σ := fun A F m s us vs R S r0 rk => by
  obtain ⟨u, v, rfl, ra, rb⟩ := r0.two
  cases rk.zero
  cases ra
  cases rb with
  | @str _ t ht =>
  obtain ⟨r, h1, h2⟩ := fails_run hf
  cases b with
  | true => exact search_ok (code := codeN) (S.K _ _ (ok.at rfl)) rfl rfl (S.K _ _ (ok.at rfl)) rfl (by decide +kernel) h1 h2 hx ⟨F, m, .none, σ, Go.refl S, Rd.none, h⟩
  | false => exact search_ok (code := codeV) (S.K _ _ (ok.at rfl)) rfl rfl (S.K _ _ (ok.at rfl)) rfl (by decide +kernel) h1 h2 hx ⟨F, m, .none, σ, Go.refl S, Rd.none, h⟩

theorem conv_spec {X : Wd} (ok : Ok X) {k : Nat} {σ : List MO} {Q : AV → List MO → Prop} {b : Bool} {x : Str} {self : AV} (hf : fails (if b then codeN else codeV) x.cps = true) (hx : x.cps.size < 2 ^ 62) (h : Q (.str x) σ) :
    fwp X (k + 1) (.ref 70) [self, .str x] ["name"] [.bool b] Q σ := by
  refine fwp_fun (LB := [("self", self), ("value", .str x), ("name", .bool b)]) (own := []) (fun us vs => [("self", us.getD 0 .none), ("value", us.getD 1 .none), ("name", vs.getD 0 .none)]) (ok.at rfl) rfl rfl (by rw [ok.K]; rfl) ?_ ?_ (by show (["self", "value", "name"] : List Str).Nodup; decide) (kinds_of (own := []) (by rfl)).1 (fun x hx => by cases hx) ?_
  · intro us vs h1 h2 M h' hK
    obtain ⟨u1, u2, rfl⟩ := len2 h1
    obtain ⟨v1, rfl⟩ := len1 h2
    exact Looks.of_pure rfl
  · intro F m us vs r1 r2
    obtain ⟨u1, u2, rfl, q1, q2⟩ := r1.two
    obtain ⟨v1, rfl, q3⟩ := r2.one
    exact .cons q1 (.cons q2 (.cons q3 .nil))
  · refine xwp_cons (swp_If (twp_Compare (ewp_Call (ewp_builtin rfl (ok.mgn rfl) rfl ⟨_, rfl, Kp.type, asp_cons (ewp_name rfl (asp_nil (ksp_nil (f_type .str (ewp_builtin rfl (ok.mgn rfl) rfl (v2_is_type ⟨_, rfl, ?_⟩))))))⟩))))
    refine xwp_cons (swp_Assign_Name (.inl rfl) (ewp_IfExp (twp_value (ewp_name rfl (vt_bool ?_)))))
    have rest : ∀ l : Loc, Subs [("value", .str x), ("regex", .opq (.ref (if b then 43 else 48)))] l → True := fun _ _ => trivial
    cases b with
    | true =>
      refine ewp_global rfl (ok.mg rfl) ?_
      refine xwp_cons (swp_If (twp_value (ewp_Meth (ewp_name rfl ⟨_, mth_search ok (.inl rfl), Kp.builtin, asp_cons (ewp_name rfl (asp_nil (ksp_nil (f_search ok (b := true) hf hx (vt_none ?_)))))⟩))))
      exact xwp_nil (xwp_cons (swp_Return (ewp_name rfl h)))
    | false =>
      refine ewp_global rfl (ok.mg rfl) ?_
      refine xwp_cons (swp_If (twp_value (ewp_Meth (ewp_name rfl ⟨_, mth_search ok (.inr rfl), Kp.builtin, asp_cons (ewp_name rfl (asp_nil (ksp_nil (f_search ok (b := false) hf hx (vt_none ?_)))))⟩))))
      exact xwp_nil (xwp_cons (swp_Return (ewp_name rfl h)))
end Mine
end

section -- PgA1
open PySem PySem.W PyProof.Rows PySem.Calls PySem.SeqAt
set_option Elab.async false
namespace Mine
set_option autoImplicit false
set_option maxRecDepth 100000
set_option linter.unusedVariables false

section
variable {prog : Program} {w : World} {A : Around} {E : Value → Shared → Prop} {s : Shared}
theorem set_all {l sl r : Addr} {xs ys : Array Value} {n n2 : Nat} {Q : Unit → Shared → Prop} (hl : s.heap.get? l = some { cls := .type "list", dict := none, data := .seq xs n, slots := #[] }) (hr : s.heap.get? r = some { cls := .type "list", dict := none, data := .seq ys n2, slots := #[] })
    (hlr : l ≠ r) (hs : s.heap.IsSliceOf sl .none .none .none) (hx : xs.size ≤ 1000) (hy : ys.size ≤ 1000)
    (h : ∀ h' n', h'.get? l = some { cls := .type "list", dict := none, data := .seq ys n', slots := #[] } → Heap.SameBut l s.heap h' → Q () { s with heap := h' }) : wpAny (model prog w) A (setItem (.ref l) (.ref sl) (.ref r)) Q E s := by
  have hT : s.TypeIs (.ref l) "list" := ⟨_, hl, rfl⟩
  have hTr : s.TypeIs (.ref r) "list" := ⟨_, hr, rfl⟩
  obtain ⟨os, hos, hcs, hds⟩ := id hs
  have hTs : s.TypeIs (.ref sl) "slice" := ⟨os, hos, hcs⟩
  unfold setItem
  refine wpAny_holding ?_
  refine wpAny_bind (wpAny_sequenceKey hT (by decide) ?_)
  refine wpAny_bind (wpAny_callSpecial?_slot (name := Str.ofString "__setitem__") hT slot_list_setitem
    (wpAny_call_entry slot_list_setitem hT entry_list_setitem ?_ (args_list_setitem _ _ _)))
  show wpAny _ _ (Builtin.List.listSubscript? (.ref sl) >>= _) _ _ s
  refine wpAny_bind ?_
  unfold Builtin.List.listSubscript?
  refine wpAny_bind (wpAny_specialOf hTs slice_no_index ?_)
  simp only [Option.isNone_none, if_true]
  refine wpAny_pure ?_
  show wpAny _ _ (typeOf (.ref sl) >>= _) _ _ s
  refine wpAny_bind (wpAny_typeOf hTs ?_)
  rw [if_neg (by decide), listSliceParts_eq]
  refine wpAny_bind (wpAny_bind (wpAny_field hos hds (x := .none) rfl (wpAny_bind (wpAny_listPart .none ?_))))
  rw [if_neg (show ¬ ((rawPart none == rawInt 0) = true) from Bool.false_ne_true)]
  refine wpAny_bind (wpAny_field hos hds (x := .none) rfl (wpAny_bind (wpAny_listPart .none ?_)))
  refine wpAny_bind (wpAny_field hos hds (x := .none) rfl (wpAny_bind (wpAny_listPart .none (wpAny_pure ?_))))
  have hsame : Builtin.List.listSameRef (.ref l) (.ref r) = false := beq_eq_false_iff_ne.mpr hlr
  simp only [hsame, Bool.false_eq_true, if_false]
  unfold Builtin.List.listAllItems
  refine wpAny_bind ?_
  refine wpAny_bind (wpAny_typeOf hTr ?_)
  rw [if_pos (by decide)]
  unfold Builtin.List.listItems
  refine wpAny_bind (wpAny_seqItems hr rfl (wpAny_pure ?_))
  refine wpAny_bind (wpAny_bind (wpAny_seqItems hl rfl (wpAny_pure ?_)))
  refine wpAny_bind (wpAny_of_eq (sliceIndices_raw none none none xs.size (by simp)) ?_)
  have hb : sliceBounds none none none xs.size = (0, (xs.size : Int), 1) := by simp [sliceBounds]
  rw [hb]
  dsimp only
  rw [if_pos (show (((1 : Int) == 1) = true) from rfl)]
  refine wpAny_bind (wpAny_rule ?_)
  have htl : Builtin.List.listTooLong (xs.size + ys.size) = false := by
    unfold Builtin.List.listTooLong; simp only [decide_eq_false_iff_not]; rw [sizeLine_eq]; omega
  rw [htl, if_neg Bool.false_ne_true]
  have hf : (fun xs : Array Value => xs.extract 0 (0 : Int).toNat ++ ys ++ xs.extract (max 0 (xs.size : Int)).toNat) xs = ys := by simp
  refine wpAny_bind (wpAny_updateSeq hl rfl (hz := by rw [sizeLine_eq]; omega) ?_ (by
    have : xs.extract 0 (0 : Int).toNat ++ ys ++ xs.extract (max 0 ((xs.size : Nat) : Int)).toNat = ys := by simp
    show (xs.extract 0 (0 : Int).toNat ++ ys ++ xs.extract (max 0 ((xs.size : Nat) : Int)).toNat).size ≤ _
    rw [this, sizeLine_eq]; omega))
  refine wpAny_bind (wpAny_letGo (wpAny_pure ⟨.none, rfl, wpAny_pure (h _ (if ys.size == xs.size then n else n + 1) ?_ (Heap.SameBut.update ..))⟩))
  · rw [Heap.get?_update_self _ hl rfl]
    have e : xs.extract 0 (0 : Int).toNat ++ ys ++ xs.extract (max 0 ((xs.size : Nat) : Int)).toNat = ys := by simp
    show some (Obj.mapSeq _ _) = _
    simp only [Obj.mapSeq, e]
end

section
variable {X : Wd} {c : Cx} {k : Nat} {loc : Loc} {σ : List MO} {Q : AFl → Loc → List MO → Prop}
theorem swp_Assign_All {o value : Expr} {p pos' pos : Pos} (h : ewp X c k value (fun v σ1 => ∃ ds, v = .dat (.list ds) ∧ ds.length ≤ 1000 ∧ ewp X c k o (fun a σ2 => ∃ i old, a = .mr i ∧ σ2[i]? = some (.lst old) ∧ old.length ≤ 1000 ∧ Q .next loc (σ2.set i (.lst ds))) loc σ1) loc σ)
    (hs : ∀ env, swapsWith value (some (.Subscript o (.Slice none none none p) pos')) pos.line env = pure false := by intro _; rfl) : swp X c k (.Assign [.Subscript o (.Slice none none none p) pos'] value pos) Q loc σ := fun A env W F m s R S E =>
  wpAny_Assign_Subscript (h.use R S E fun F1 m1 v σ1 u s1 g1 rv ⟨ds, e1, hl1, q1⟩ E1 => q1.use R g1.st E1 fun F2 m2 a σ2 ua s2 g2 ra ⟨i, old, e2, hσ, hl2, q2⟩ E2 => wpAny_Slice (by
    subst e1; subst e2
    rw [evalPart_none]
    refine wpAny_pure (wpAny_pure (wpAny_pure ?_))
    have rv' := g2.vr rv
    cases rv' with
    | @list r ys n2 _ hF hr =>
    obtain ⟨l, rfl, hl⟩ := ra
    have g3 : Go X.prog X.w X.h0 F2 m2 s2 F2 m2 σ2 { s2 with heap := s2.heap.push { cls := .type "slice", data := .fields #[.none, .none, .none] } } := Go.grow (tk := s2.toks) g2.st push_some
    have hne : l ≠ r := fun e => g3.st.sep i l _ hl hσ (by intro e; cases e) _ rfl (e ▸ hF)
    cases g3.st.mr _ _ _ hl hσ with
    | @lst xs n _ hg hr0 =>
    refine set_all (xs := xs.toArray) (ys := ys.toArray) hg (g3.st.fz _ _ hF rfl) hne (Heap.IsSliceOf.new ..) (by have := hr0.length; simp; omega) (by have := hr.length; simp; omega) fun h' n' hg' hs' => ?_
    have g4 := Go.change (tk := s2.toks) (mo' := .lst ds) (h' := h') g3.st hl hσ (by intro e; cases e) (fun b o hb e => (hs'.2 b hb).trans e) (ne_none hg') (.lst hg' hr)
    exact XPost.next E (((g1.trans g2).trans g3).trans g4) q2)) (hs env)
end
end Mine
end

section -- PgB1
open PySem PySem.W PyProof.Rows PySem.Calls PySem.SeqAt PySem.Builtin.Str
set_option Elab.async false
set_option maxRecDepth 100000
namespace Mine
set_option linter.unusedVariables false

noncomputable abbrev Ps := List Nat
noncomputable abbrev Tb := List (Nat × Nat)
noncomputable def pOf (ps : Ps) (n : Nat) : Nat := ps.getD n 0
@[reducible] noncomputable def entL (ps : Ps) (e : Nat × Nat) : PyData := .tuple [.str (spell (pOf ps e.1) e.1 e.2), .str (dk (oth (pOf ps e.1) e.2))]
@[reducible] noncomputable def tabL (ps : Ps) (tb : Tb) : List PyData := tb.map (entL ps)
structure PsOk (ps : Ps) : Prop where
  lt : ∀ p ∈ ps, p < 6
  len : ps.length ≤ 5
structure TbOk (ps : Ps) (tb : Tb) : Prop where
  lt : ∀ e ∈ tb, e.1 < 5
  isIn : ∀ e ∈ tb, isIn (pOf ps e.1) e.2 = true
  len : tb.length ≤ 100
theorem pOf_lt {ps : Ps} (h : PsOk ps) (n : Nat) : pOf ps n < 6 := by
  unfold pOf
  rw [List.getD_eq_getElem?_getD]
  cases e : ps[n]? with
  | none => decide
  | some p => exact h.lt p (List.mem_of_getElem? e)

theorem tab_low : ∀ p : Fin 6, ∀ d : Fin 4, ∀ n : Fin 5, isIn p d = true → low (spell p n d) = key p n ∧ fails codeN (spell p n d).cps = true := by decide +kernel
theorem tab_key : ∀ p : Fin 6, ∀ n : Fin 5, low (key p n) = key p n := by decide +kernel
theorem tab_sh : ∀ p : Fin 6, ∀ n : Fin 5, SeqAt.shaped (.str (key p n)) = true := by decide +kernel
theorem sh_key {ps : Ps} (hps : PsOk ps) {n : Nat} (hn : n < 5) : SeqAt.shaped (.str (key (pOf ps n) n)) = true := tab_sh ⟨_, pOf_lt hps n⟩ ⟨n, hn⟩
theorem key_num {p q n k : Nat} (h : key p n = key q k) : n = k := by
  unfold key at h
  simp only [Str.mk.injEq, Array.mk.injEq, List.cons.injEq, and_true] at h
  omega
theorem low_ent {ps : Ps} (hps : PsOk ps) {tb : Tb} (ht : TbOk ps tb) {e : Nat × Nat} (he : e ∈ tb) : low (spell (pOf ps e.1) e.1 e.2) = key (pOf ps e.1) e.1 :=
  (tab_low ⟨_, pOf_lt hps e.1⟩ ⟨_, isIn_lt (pOf_lt hps e.1) (ht.isIn e he)⟩ ⟨_, ht.lt e he⟩ (ht.isIn e he)).1
theorem key_eq (ps : Ps) (k n : Nat) : PyData.eqv (.str (key (pOf ps k) k)) (.str (key (pOf ps n) n)) = (k == n) := by
  show (key (pOf ps k) k == key (pOf ps n) n) = _
  by_cases h : k = n
  · subst h; rw [beq_self_eq_true, beq_self_eq_true]
  · rw [beq_eq_false_iff_ne.mpr h]
    exact beq_eq_false_iff_ne.mpr fun e => h (key_num e)
theorem len_key (p n : Nat) : (key p n).length ≤ 1000 := by show 3 ≤ 1000; decide

noncomputable abbrev tabA (i : Nat) : AV := .inst 171 "_headers" (.mr i)
noncomputable abbrev getL (i : Nat) (p n : Nat) : Loc := [("self", tabA i), ("name", .str (key p n)), ("default", .none)]
noncomputable def findT (ps : Ps) (tb : Tb) (n : Nat) : AV := match tb.find? (fun e => e.1 == n) with
  | some e => .str (dk (oth (pOf ps e.1) e.2))
  | none => .none

theorem get_spec {X : Wd} (ok : Ok X) {k : Nat} {σ : List MO} {Q : AV → List MO → Prop} {i n : Nat} {ps : Ps} {tb : Tb} (hps : PsOk ps) (ht : TbOk ps tb) (hn : n < 5) (hσ : σ[i]? = some (.lst (tabL ps tb))) (h : Q (findT ps tb n) σ) :
    fwp X (k + 2) (.ref 118) [tabA i, .str (key (pOf ps n) n)] [] [] Q σ := by
  refine fwp_fun (LB := getL i (pOf ps n) n) (own := []) (fun us vs => [("self", us.getD 0 .none), ("name", us.getD 1 .none), ("default", .none)]) (ok.at rfl) rfl rfl (by rw [ok.K]; rfl) ?_ ?_ (by show (["self", "name", "default"] : List Str).Nodup; decide) (kinds_of (own := []) (by rfl)).1 (fun x hx => by cases hx) ?_
  · intro us vs h1 h2 M h' hK
    obtain ⟨u1, u2, rfl⟩ := len2 h1
    obtain rfl : vs = [] := List.length_eq_zero_iff.mp h2
    exact Looks.of_peek (ok.K ▸ hK : (pghead.heap_1 X.w.params).In h') (by rfl)
  · intro F m us vs r1 r2
    obtain ⟨u1, u2, rfl, q1, q2⟩ := r1.two
    exact .cons q1 (.cons q2 (.cons Rd.none .nil))
  · have hk1 := tab_key ⟨_, pOf_lt hps n⟩ ⟨n, hn⟩
    have hk2 := tab_k ⟨_, pOf_lt hps n⟩ ⟨n, hn⟩
    refine xwp_cons (swp_Assign_Name (.inl rfl) (ewp_Meth (kn := ["name"]) (ewp_name rfl ⟨_, mth_inst ok.hd.g (f := 70) (by rw [ok.K]; rfl) (by rw [ok.K]; rfl) (by decide), ok.kp rfl,
      asp_cons (ewp_Meth0 (ewp_name rfl ⟨_, mth_builtin .str PySem.F.plainAttrs_str PySem.F.slot_str_lower PySem.F.type_str_lower, Kp.builtin, f_lower (by rw [hk1]; exact len_key _ _) (asp_nil (ksp_one (ewp_bool ?_)))⟩))⟩)))
    rw [hk1]
    refine conv_spec ok (b := true) hk2 (by show 3 < 2 ^ 62; decide) ?_
    generalize hf : findT ps tb n = fin at h
    refine xwp_cons (swp.mono (swp_ForI (Q := fun fl l' σ' => σ' = σ ∧ ((fl = .next ∧ fin = .none ∧ Subs [("default", .none)] l') ∨ (fl = .ret fin))) (ewp_Attr (ewp_name rfl ⟨171, _, _, rfl, ok.hd.g, ok.hd.h, ok.hd.a, rfl, (by intro v e; cases e), _, _, isrc_mr hσ,
      fun j loc σ' => σ' = σ ∧ loc = getL i (pOf ps n) n ∧ findT ps (tb.drop j) n = fin, ⟨getL i (pOf ps n) n, ⟨rfl, rfl, rfl, trivial⟩, rfl, rfl, by rw [List.drop_zero]; exact hf⟩, ?_, ?_⟩))) ?_)
    · rintro j x loc σ' hx ⟨rfl, rfl, hc⟩
      refine ⟨hσ, ?_⟩
      simp only [List.getElem?_map, Option.map_map] at hx
      obtain ⟨e, hj, rfl⟩ := Option.map_eq_some_iff.mp hx
      have hem := List.mem_of_getElem? hj
      have hil : j < tb.length := (List.getElem?_eq_some_iff.mp hj).1
      have hd : tb.drop j = e :: tb.drop (j + 1) := by
        rw [List.drop_eq_getElem_cons hil]; congr 1; exact (List.getElem?_eq_some_iff.mp hj).2
      rw [hd] at hc
      unfold findT at hc
      rw [List.find?_cons] at hc
      refine agn_Tuple (fun _ => rfl) rfl (agn_Name (.inl rfl) (agn_Name (.inl rfl) ?_))
      refine xwp_cons (swp_If (twp_Compare (ewp_Meth0 (ewp_name rfl ⟨_, mth_builtin .str PySem.F.plainAttrs_str PySem.F.slot_str_lower PySem.F.type_str_lower, Kp.builtin, f_lower (by rw [low_ent hps ht hem]; exact len_key _ _) ?_⟩))))
      rw [low_ent hps ht hem]
      refine ewp_name rfl (v2_eq (sh_key hps (ht.lt e hem)) (sh_key hps hn) ⟨_, rfl, ?_⟩)
      rw [key_eq]
      cases hb : e.1 == n with
      | true =>
        rw [hb] at hc
        refine xwp_cons (swp_Return (ewp_name rfl ⟨rfl, .inr ?_⟩))
        rw [← hc]
      | false =>
        rw [hb] at hc
        refine xwp_nil (xwp_nil ?_)
        exact ⟨getL i (pOf ps n) n, ⟨rfl, rfl, rfl, trivial⟩, rfl, rfl, hc⟩
    · rintro loc σ' ⟨rfl, rfl, hc⟩
      rw [List.drop_of_length_le (by simp)] at hc
      exact ⟨hσ, rfl, .inl ⟨rfl, hc.symm, rfl, trivial⟩⟩
    · rintro fl l' σ' ⟨rfl, ⟨rfl, e, hs⟩ | rfl⟩
      · refine xwp.sub ?_ hs
        refine xwp_cons (swp_Return (ewp_name rfl ?_))
        rw [e] at h; exact h
      · exact h
end Mine
end

section -- PgC1
open PySem PySem.W PyProof.Rows PySem.Calls PySem.SeqAt
set_option Elab.async false
namespace Mine
set_option autoImplicit false
set_option maxRecDepth 20000
set_option linter.unusedVariables false

noncomputable def compB (scope sc : Scope) (keys fvs own' : List Str) : Bool :=
  scope.kind == .function && decide (scope.names.map (·.1)).Nodup && (scope.names.all fun x => x.2 != .local || scope.names.lookup x.1 == some .local) &&
    (scope.names.all fun p => p.2 != .free || (keys.contains p.1 && sc.names.lookup p.1 != some .local)) && (fvs.all fun x => scope.names.lookup x == some .free) && (own'.all fun x => scope.names.lookup x == some .cell)
theorem lookup_isSome {loc : Loc} {x : Str} (h : x ∈ loc.map (·.1)) : (loc.lookup x).isSome = true := by
  induction loc with
  | nil => simp at h
  | cons p r ih =>
    rw [List.lookup_cons]
    cases hx : x == p.1 with
    | true => rfl
    | false =>
      simp only [List.map_cons, List.mem_cons] at h
      rcases h with h | h
      · rw [h, beq_self_eq_true] at hx; cases hx
      · exact ih h
theorem CompOk.of {scope : Scope} {c : Cx} {loc : Loc} {fvs own' : List Str} (h : compB scope c.sc (loc.map (·.1)) fvs own' = true) : CompOk scope c loc fvs own' := by
  unfold compB at h
  simp only [Bool.and_eq_true, List.all_eq_true, Bool.or_eq_true, bne_iff_ne, beq_iff_eq, decide_eq_true_eq, List.contains_iff_mem] at h
  obtain ⟨⟨⟨⟨⟨h1, h2⟩, h3⟩, h4⟩, h5⟩, h6⟩ := h
  exact ⟨h1, h2, fun x hx hk => (h3 x hx).resolve_left fun h => h hk, fun p hp hk => by
    obtain ⟨a, b⟩ := (h4 p hp).resolve_left fun h => h hk
    exact ⟨lookup_isSome a, b⟩, h5, h6⟩

section
variable {X : Wd} {c : Cx} {k : Nat} {loc : Loc} {σ : List MO}
theorem ewp.mono {e : Expr} {Q Q' : AV → List MO → Prop} (h : ewp X c k e Q loc σ) (q : ∀ a σ, Q a σ → Q' a σ) : ewp X c k e Q' loc σ := fun A env W F m s R S E => (h A env W F m s R S E).mono q
theorem ewp_gen {e : Expr} {Q : AV → List MO → Prop} (h : ∀ Q' : AV → List MO → Prop, (∀ a σ, Q a σ → Q' a σ) → ewp X c k e Q' loc σ) : ewp X c k e Q loc σ := h Q fun _ _ q => q
theorem twp.mono {e : Expr} {Q Q' : Bool → List MO → Prop} (h : twp X c k e Q loc σ) (q : ∀ a σ, Q a σ → Q' a σ) : twp X c k e Q' loc σ := fun A env W F m s R S E => (h A env W F m s R S E).mono q
theorem ifsW.mono {ifs : List Expr} {Q Q' : Bool → List MO → Prop} (h : ifsW X c k ifs Q loc σ) (q : ∀ a σ, Q a σ → Q' a σ) : ifsW X c k ifs Q' loc σ := by
  match ifs, h with
  | [], h => exact q _ _ h
  | [t], h => exact twp.mono h q
  | _ :: _ :: _, h => exact h.elim
theorem cpW_inv {t elt : Expr} {ifs : List Expr} {src : List MO → Prop} {xs : List AV} {Q : List PyData → List MO → Prop} (Inv : Nat → List PyData → Loc → List MO → Prop)
    (turn : ∀ i acc x loc σ, xs[i]? = some x → Inv i acc loc σ → src σ ∧ agn X c k t x (fun l1 σ1 => ifsW X c k ifs (fun z σ2 => if z then ewp X c k elt (fun v σ3 => ∃ d l', v = .dat d ∧ Subs l' l1 ∧ Inv (i + 1) (acc ++ [d]) l' σ3) l1 σ2
      else ∃ l', Subs l' l1 ∧ Inv (i + 1) acc l' σ2) l1 σ1) loc σ)
    (done : ∀ acc loc σ, Inv xs.length acc loc σ → src σ ∧ Q acc σ) : ∀ (n i : Nat), xs.length - i = n → i ≤ xs.length → ∀ acc loc σ, Inv i acc loc σ → cpW X c k t ifs elt src Q (xs.drop i) acc loc σ
  | 0, i, hn, hi, acc, loc, σ, h => by
    have : i = xs.length := inv0 hn hi
    subst this
    rw [List.drop_length]
    exact done acc loc σ h
  | n + 1, i, hn, hi, acc, loc, σ, h => by
    have hil : i < xs.length := inv1 hn
    rw [List.drop_eq_getElem_cons hil]
    obtain ⟨h1, h2⟩ := turn i acc xs[i] loc σ (List.getElem?_eq_getElem hil) h
    refine ⟨h1, h2.mono fun l1 σ1 q1 => q1.mono fun z σ2 q2 => ?_⟩
    cases z with
    | true => exact ewp.mono q2 fun v σ3 ⟨d, l', e, hs, q⟩ => ⟨d, l', e, hs, cpW_inv Inv turn done n (i + 1) (inv2 hn) hil _ _ _ q⟩
    | false => obtain ⟨l', hs, q⟩ := q2; exact ⟨l', hs, cpW_inv Inv turn done n (i + 1) (inv2 hn) hil _ _ _ q⟩
theorem cpW_all {t elt : Expr} {ifs : List Expr} {src : List MO → Prop} {xs : List AV} {Q : List PyData → List MO → Prop} (Inv : Nat → List PyData → Loc → List MO → Prop)
    (turn : ∀ i acc x loc σ, xs[i]? = some x → Inv i acc loc σ → src σ ∧ agn X c k t x (fun l1 σ1 => ifsW X c k ifs (fun z σ2 => if z then ewp X c k elt (fun v σ3 => ∃ d l', v = .dat d ∧ Subs l' l1 ∧ Inv (i + 1) (acc ++ [d]) l' σ3) l1 σ2
      else ∃ l', Subs l' l1 ∧ Inv (i + 1) acc l' σ2) l1 σ1) loc σ)
    (done : ∀ acc loc σ, Inv xs.length acc loc σ → src σ ∧ Q acc σ) {acc : List PyData} (h : Inv 0 acc loc σ) : cpW X c k t ifs elt src Q xs acc loc σ := by
  have := cpW_inv Inv turn done xs.length 0 (by omega) (by omega) acc loc σ h
  rwa [List.drop_zero] at this
end
end Mine
end

section -- PgD1
open PySem PySem.W PyProof.Rows PySem.Calls PySem.SeqAt PySem.Builtin.Str
set_option Elab.async false
set_option maxRecDepth 100000
namespace Mine
set_option linter.unusedVariables false

noncomputable def wo (tb : Tb) (n : Nat) : Tb := tb.filter fun e => !(e.1 == n)
theorem TbOk.wo {ps : Ps} {tb : Tb} (h : TbOk ps tb) (n : Nat) : TbOk ps (wo tb n) := ⟨fun e he => h.lt e (List.mem_filter.mp he).1, fun e he => h.isIn e (List.mem_filter.mp he).1, Nat.le_trans (List.length_filter_le _ _) h.len⟩

noncomputable abbrev nameL (x : Str) : Loc := [("name", .str x)]
theorem del_spec {X : Wd} (ok : Ok X) {k : Nat} {σ : List MO} {Q : AV → List MO → Prop} {i n d : Nat} {ps : Ps} {tb : Tb} (hps : PsOk ps) (ht : TbOk ps tb) (hn : n < 5) (hd : isIn (pOf ps n) d = true) (hσ : σ[i]? = some (.lst (tabL ps tb)))
    (h : Q .none (σ.set i (.lst (tabL ps (wo tb n))))) : fwp X (k + 2) (.ref 89) [tabA i, .str (spell (pOf ps n) n d)] [] [] Q σ := by
  refine fwp_fn2 ["name"] (ok.at rfl) rfl rfl (by rw [ok.K]; rfl) ?_
  have hk1 := (tab_low ⟨_, pOf_lt hps n⟩ ⟨d, isIn_lt (pOf_lt hps n) hd⟩ ⟨n, hn⟩ hd).1
  have hk2 := tab_k ⟨_, pOf_lt hps n⟩ ⟨n, hn⟩
  refine xwp_cons (swp_Assign_Name (.inr (List.mem_singleton_self _)) (ewp_Meth (kn := ["name"]) (ewp_name rfl ⟨_, mth_inst ok.hd.g (f := 70) (by rw [ok.K]; rfl) (by rw [ok.K]; rfl) (by decide), ok.kp rfl,
    asp_cons (ewp_Meth0 (ewp_name rfl ⟨_, mth_builtin .str PySem.F.plainAttrs_str PySem.F.slot_str_lower PySem.F.type_str_lower, Kp.builtin, f_lower (by rw [hk1]; exact len_key _ _) (asp_nil (ksp_one (ewp_bool ?_)))⟩))⟩)))
  rw [hk1]
  refine conv_spec ok (b := true) hk2 (by show 3 < 2 ^ 62; decide) ?_
  refine xwp_cons (swp_Assign_All (ewp_Comp ["name"] [] (CompOk.of (by rfl)) (ewp_Attr (ewp_name rfl ⟨171, _, _, rfl, ok.hd.g, ok.hd.h, ok.hd.a, rfl, (by intro v e; cases e), _, _, isrc_mr hσ, by simp only [List.length_map]; have := ht.len; omega, ?_⟩))))
  refine cpW_all (fun j acc loc σ' => σ' = σ ∧ loc = nameL (key (pOf ps n) n) ∧ acc = tabL ps (wo (tb.take j) n)) ?_ ?_ ⟨rfl, rfl, rfl⟩
  · rintro j acc x loc σ' hx ⟨rfl, rfl, rfl⟩
    refine ⟨hσ, ?_⟩
    simp only [List.getElem?_map, Option.map_map] at hx
    obtain ⟨e, hj, rfl⟩ := Option.map_eq_some_iff.mp hx
    have hem := List.mem_of_getElem? hj
    have htk : tb.take (j + 1) = tb.take j ++ [e] := by rw [List.take_succ, hj]; rfl
    have hlow := low_ent hps ht hem
    refine agn_Name (.inl rfl) ?_
    refine twp_Compare (ewp_Meth0 (ewp_Sub (ewp_name rfl (ewp_int ⟨"tuple", .tuple, v2_get_tuple (i := 0) (d := .str (spell (pOf ps e.1) e.1 e.2)) rfl (by decide) ⟨_, mth_builtin .str PySem.F.plainAttrs_str PySem.F.slot_str_lower PySem.F.type_str_lower, Kp.builtin, f_lower (by rw [hlow]; exact len_key _ _) ?_⟩⟩))))
    rw [hlow]
    refine ewp_name rfl (v2_ne (sh_key hps (ht.lt e hem)) (sh_key hps hn) ⟨_, rfl, ?_⟩)
    rw [key_eq]
    cases hb : e.1 == n with
    | true => exact ⟨nameL (key (pOf ps n) n), ⟨rfl, trivial⟩, rfl, rfl, by rw [htk]; unfold wo; rw [List.filter_append]; simp [hb]⟩
    | false => exact ewp_name rfl ⟨_, nameL (key (pOf ps n) n), rfl, ⟨rfl, trivial⟩, rfl, rfl, by rw [htk]; unfold wo; rw [List.filter_append]; simp [hb]⟩
  · rintro acc loc σ' ⟨rfl, rfl, rfl⟩
    have e : tb.take (List.map AV.dat (tabL ps tb)).length = tb := List.take_of_length_le (by simp)
    rw [e]
    refine ⟨hσ, _, rfl, ?_, ?_⟩
    · rw [List.length_map]; have := (ht.wo n).len; omega
    · refine ewp_Attr (ewp_name rfl ⟨171, _, _, rfl, ok.hd.g, ok.hd.h, ok.hd.a, rfl, (by intro v e; cases e), i, _, rfl, hσ, ?_, ?_⟩)
      · rw [List.length_map]; have := ht.len; omega
      · exact xwp_nil h

theorem oth_lt {p d : Nat} (hp : p < 6) : oth p d < 4 := by
  have h1 : ∀ q : Fin 6, pa q < 4 ∧ pb q < 4 := by decide
  unfold oth
  split
  · exact (h1 ⟨p, hp⟩).2
  · exact (h1 ⟨p, hp⟩).1
theorem set_spec {X : Wd} (ok : Ok X) {k : Nat} {σ : List MO} {Q : AV → List MO → Prop} {i n d : Nat} {ps : Ps} {tb : Tb} (hps : PsOk ps) (ht : TbOk ps tb) (hn : n < 5) (hd : isIn (pOf ps n) d = true) (hσ : σ[i]? = some (.lst (tabL ps tb)))
    (h : Q .none (σ.set i (.lst (tabL ps (wo tb n ++ [(n, d)]))))) : fwp X (k + 3) (.ref 84) [tabA i, .str (spell (pOf ps n) n d), .str (dk (oth (pOf ps n) d))] [] [] Q σ := by
  refine fwp_fn3 [] (ok.at rfl) rfl rfl (by rw [ok.K]; rfl) ?_
  have hσi : i < σ.length := (List.getElem?_eq_some_iff.mp hσ).1
  have hk2 := (tab_low ⟨_, pOf_lt hps n⟩ ⟨d, isIn_lt (pOf_lt hps n) hd⟩ ⟨n, hn⟩ hd).2
  have hv2 := tab_v ⟨_, oth_lt (d := d) (pOf_lt hps n)⟩
  refine xwp_cons (swp_Del_Sub (ewp_name rfl (ewp_name rfl (v2_del_own (f := 89) (by rw [ok.K]; rfl) (by rw [ok.K]; rfl) (by rw [ok.K]; rfl) (del_spec ok hps ht hn hd hσ ?_)))))
  have hσ' : (σ.set i (.lst (tabL ps (wo tb n))))[i]? = some (.lst (tabL ps (wo tb n))) := List.getElem?_set_self hσi
  refine xwp_cons (swp_Expr (ewp_Meth (ewp_Attr (ewp_name rfl ⟨171, _, _, rfl, ok.hd.g, ok.hd.h, ok.hd.a, rfl, (by intro v e; cases e), ?_⟩))))
  refine ⟨_, mth_builtin (.mrl hσ') PySem.F.plainAttrs_list slot_list_append type_list_append, Kp.builtin, asp_cons (ewp_Tuple (asp_cons (ewp_Meth (kn := ["name"]) (ewp_name rfl ⟨_, mth_inst ok.hd.g (f := 70) (by rw [ok.K]; rfl) (by rw [ok.K]; rfl) (by decide), ok.kp rfl,
    asp_cons (ewp_name rfl (asp_nil (ksp_one (ewp_bool ?_))))⟩))))⟩
  refine conv_spec ok (b := true) hk2 (by show 3 < 2 ^ 62; decide) ?_
  refine asp_cons (ewp_Meth (kn := ["name"]) (ewp_name rfl ⟨_, mth_inst ok.hd.g (f := 70) (by rw [ok.K]; rfl) (by rw [ok.K]; rfl) (by decide), ok.kp rfl,
    asp_cons (ewp_name rfl (asp_nil (ksp_one (ewp_bool ?_))))⟩))
  refine conv_spec ok (b := false) hv2 (by show 1 < 2 ^ 62; decide) ?_
  refine asp_nil ⟨[.str (spell (pOf ps n) n d), .str (dk (oth (pOf ps n) d))], rfl, by simp, ?_⟩
  refine asp_nil (ksp_nil (f_append hσ' ?_ ?_))
  · rw [List.length_map]; have := (ht.wo n).len; omega
  · refine xwp_nil ?_
    rw [List.set_set]
    have e : tabL ps (wo tb n) ++ [PyData.tuple [.str (spell (pOf ps n) n d), .str (dk (oth (pOf ps n) d))]] = tabL ps (wo tb n ++ [(n, d)]) := by simp [tabL]
    rw [e]
    exact h
theorem items_spec {X : Wd} (ok : Ok X) {k : Nat} {σ : List MO} {Q : AV → List MO → Prop} {i : Nat} {ps : Ps} {tb : Tb} (ht : TbOk ps tb) (hσ : σ[i]? = some (.lst (tabL ps tb))) (h : Q (.dat (.list (tabL ps tb))) σ) :
    fwp X (k + 1) (.ref 135) [tabA i] [] [] Q σ := by
  refine fwp_fn1 [] (ok.at rfl) rfl rfl (by rw [ok.K]; rfl) ?_
  refine xwp_cons (swp_Return (ewp_Slice (ewp_Attr (ewp_name rfl ⟨171, _, _, rfl, ok.hd.g, ok.hd.h, ok.hd.a, rfl, (by intro v e; cases e), ?_⟩))))
  exact ⟨tabL ps tb, tabL ps tb, .mr hσ, by rw [List.length_map]; have := ht.len; omega, .all, h⟩
end Mine
end

section -- PgE1
open PySem PySem.W PyProof.Rows PySem.Calls PySem.SeqAt PySem.Builtin.Str
set_option Elab.async false
set_option maxRecDepth 100000
namespace Mine
set_option linter.unusedVariables false

noncomputable abbrev Bk := List (Nat × Nat)
@[reducible] noncomputable def bkL (bk : Bk) : List (Str × PyData) := bk.map fun e => (dk e.1, .int (e.2 : Int))
noncomputable def bump : Bk → Nat → Bk
  | [], d => [(d, 1)]
  | (e, c) :: r, d => if e = d then (e, c + 1) :: r else (e, c) :: bump r d
theorem dk_inj {a b : Nat} (h : dk a = dk b) : a = b := by
  unfold dk at h
  simp only [Str.mk.injEq, Array.mk.injEq, List.cons.injEq, and_true] at h
  omega
theorem dk_beq (a b : Nat) : (dk a == dk b) = (a == b) := by
  by_cases h : a = b
  · subst h; rw [beq_self_eq_true, beq_self_eq_true]
  · rw [beq_eq_false_iff_ne.mpr h]; exact beq_eq_false_iff_ne.mpr fun e => h (dk_inj e)
theorem bk_lookup (d : Nat) : ∀ bk : Bk, (bkL bk).lookup (dk d) = (bk.lookup d).map fun c => .int (c : Int)
  | [] => rfl
  | (e, c) :: r => by
    simp only [List.map_cons, List.lookup_cons, dk_beq]
    cases d == e with
    | true => rfl
    | false => exact bk_lookup d r
theorem bump_old {d c : Nat} : ∀ {bk : Bk}, bk.lookup d = some c → dput (dk d) (.int ((c : Int) + 1)) (bkL bk) = bkL (bump bk d)
  | [], h => by simp at h
  | (e, c') :: r, h => by
    rw [List.lookup_cons] at h
    unfold bump dput
    simp only [List.map_cons]
    by_cases he : e = d
    · subst he
      rw [beq_self_eq_true] at h
      cases h
      rw [if_pos rfl, if_pos rfl]
      simp
    · rw [beq_eq_false_iff_ne.mpr (Ne.symm he)] at h
      rw [if_neg (fun q => he (dk_inj q)), if_neg he]
      simp only [List.map_cons, List.cons.injEq, true_and]
      exact bump_old h
theorem bump_new {d : Nat} : ∀ {bk : Bk}, bk.lookup d = none → dput (dk d) (.int 1) (bkL bk) = bkL (bump bk d)
  | [], h => rfl
  | (e, c') :: r, h => by
    rw [List.lookup_cons] at h
    unfold bump dput
    simp only [List.map_cons]
    by_cases he : e = d
    · subst he
      rw [beq_self_eq_true] at h
      cases h
    · rw [beq_eq_false_iff_ne.mpr (Ne.symm he)] at h
      rw [if_neg (fun q => he (dk_inj q)), if_neg he]
      simp only [List.map_cons, List.cons.injEq, true_and]
      exact bump_new h
theorem dput_new {x : Str} {d : PyData} : ∀ {es : List (Str × PyData)}, x ∉ es.map (·.1) → dput x d es = es ++ [(x, d)]
  | [], _ => rfl
  | (y, e) :: r, h => by
    simp only [List.map_cons, List.mem_cons, not_or] at h
    unfold dput
    rw [if_neg (fun q => h.1 q.symm), dput_new h.2]; rfl
structure BkOk (bk : Bk) : Prop where
  nd : (bk.map (·.1)).Nodup
  lt : ∀ e ∈ bk, e.1 < 4
  len : bk.length ≤ 100

theorem v2_iadd {X : Wd} {k : Nat} {σ : List MO} {Q : AV → List MO → Prop} {a b : Int} (h : Q (.int (a + b)) σ) : v2 X k (inplaceOp .Add) (.int a) (.int b) Q σ := fun A F m s u v R S ra rb => by
  cases ra; cases rb
  exact PyProof.Rows.iadd_int ⟨F, m, .int (a + b), σ, Go.tok S _, vri, h⟩

noncomputable abbrev acL (bk : Bk) (d j : Nat) : Loc := [("target", .dat (sd (bkL bk))), ("source", .dat (sd [(dk d, .int 1)])), ("new_callers", .mr j)]
theorem add_spec {X : Wd} (ok : Ok X) {k : Nat} {σ : List MO} {Q : AV → List MO → Prop} {bk : Bk} {d : Nat} (hb : BkOk bk) (h : Q (.dat (sd (bkL (bump bk d)))) σ) :
    fwp X (k + 1) (.ref 245) [.dat (sd (bkL bk)), .dat (sd [(dk d, .int 1)])] [] [] Q σ := by
  refine fwp_cut (fwp_freeze (fwp_fn2 [] (ok.at rfl) rfl rfl (by rw [ok.K]; rfl) ?_))
  refine xwp_cons (swp_Assign_Name (.inl rfl) (ewp_DictE ?_))
  have hnd : ((bkL bk).map (·.1)).Nodup := by
    have e : (bkL bk).map (·.1) = (bk.map (·.1)).map dk := by simp [bkL]
    rw [e]
    exact List.Pairwise.map _ (fun a b hab h => hab (dk_inj h)) hb.nd
  refine xwp_cons (swp.mono (swp_ForI (Q := fun fl l' σ' => fl = .next ∧ Subs (acL bk d σ.length) l' ∧ σ' = σ ++ [.dict (bkL bk)]) (ewp_Meth0 (ewp_name rfl ⟨_, mth_builtin .dict PySem.F.plainAttrs_dict PySem.F.slot_dict_items PySem.F.type_dict_items, Kp.builtin, f_items ⟨_, _, isrc_view,
    fun j loc σ' => loc = acL bk d σ.length ∧ σ' = σ ++ [.dict ((bkL bk).take j)], ⟨acL bk d σ.length, ⟨rfl, rfl, rfl, trivial⟩, rfl, rfl⟩, ?_, ?_⟩⟩))) ?_)
  · rintro j x loc σ' hx ⟨rfl, rfl⟩
    refine ⟨trivial, ?_⟩
    rw [List.getElem?_map] at hx
    obtain ⟨e, hj, rfl⟩ := Option.map_eq_some_iff.mp hx
    have hjl : j < (bkL bk).length := (List.getElem?_eq_some_iff.mp hj).1
    have htk : (bkL bk).take (j + 1) = (bkL bk).take j ++ [e] := by rw [List.take_succ, hj]; rfl
    have hnot : e.1 ∉ ((bkL bk).take j).map (·.1) := by
      intro hm
      have h1 : ((bkL bk).take (j + 1)).map (·.1) = ((bkL bk).take j).map (·.1) ++ [e.1] := by rw [htk]; simp
      have h2 : (((bkL bk).take (j + 1)).map (·.1)).Nodup := hnd.sublist ((List.take_sublist _ _).map _)
      rw [h1, List.nodup_append] at h2
      exact h2.2.2 _ hm _ (List.mem_singleton_self _) rfl
    refine agn_Tuple (fun _ => rfl) rfl (agn_Name (.inl rfl) (agn_Name (.inl rfl) ?_))
    refine xwp_cons (swp_Assign_Sub (ewp_name rfl (ewp_name rfl (ewp_name rfl (v3_set_mrd (i := σ.length) (es := (bkL bk).take j) (by simp) ?_ ?_)))))
    · rw [List.length_take, List.length_map]; have := hb.len; omega
    · refine xwp_nil ⟨acL bk d σ.length, ⟨rfl, rfl, rfl, trivial⟩, rfl, ?_⟩
      rw [dput_new hnot, htk]
      simp
  · rintro loc σ' ⟨rfl, rfl⟩
    refine ⟨trivial, rfl, ⟨rfl, rfl, rfl, trivial⟩, ?_⟩
    rw [List.take_of_length_le (by simp)]
  · rintro fl l' σ' ⟨rfl, hs, rfl⟩
    refine xwp.sub ?_ hs
    have hσ' : (σ ++ [MO.dict (bkL bk)])[σ.length]? = some (.dict (bkL bk)) := end1
    have hlen : (bkL bk).length ≤ 1000 := by rw [List.length_map]; have := hb.len; omega
    have fin : ∀ l : Loc, Subs [("new_callers", .mr σ.length)] l → True := fun _ _ => trivial
    refine xwp_cons (swp.mono (swp_For (Q := fun fl l' σ' => fl = .next ∧ Subs [("new_callers", .mr σ.length)] l' ∧ σ' = σ ++ [.dict (bkL (bump bk d))]) (ewp_Meth0 (ewp_name rfl ⟨_, mth_builtin .dict PySem.F.plainAttrs_dict PySem.F.slot_dict_items PySem.F.type_dict_items, Kp.builtin, f_items ⟨_, _, isrc_view, trivial, ?_⟩⟩))) ?_)
    · refine agn_Tuple (fun _ => rfl) rfl (agn_Name (.inl rfl) (agn_Name (.inl rfl) ?_))
      refine xwp_cons (swp_If (twp_Compare (ewp_name rfl (ewp_name rfl (v2_in_mr hσ' ⟨_, rfl, ?_⟩)))))
      rw [bk_lookup]
      cases hl : bk.lookup d with
      | none =>
        refine xwp_cons (swp_Assign_Sub (ewp_name rfl (ewp_name rfl (ewp_name rfl (v3_set_mrd hσ' hlen ?_)))))
        refine xwp_nil (xwp_nil ⟨[("new_callers", .mr σ.length)], ⟨rfl, trivial⟩, trivial, rfl, ⟨rfl, trivial⟩, ?_⟩)
        rw [bump_new hl]; simp
      | some c =>
        refine xwp_cons (swp_If (twp_value (ewp_Call (ewp_builtin rfl (ok.mgn rfl) rfl ⟨_, rfl, Kp.builtin, asp_cons (ewp_name rfl (asp_cons (ewp_builtin rfl (ok.mgn rfl) rfl (asp_nil (ksp_nil (f_isinst (vt_bool ?_)))))))⟩))))
        refine xwp_cons (swp_Aug_Sub (ewp_name rfl (ewp_name rfl (v2_get_mrd (d := .int (c : Int)) hσ' (by rw [bk_lookup, hl]; rfl) (ewp_name rfl (v2_iadd (v3_set_mrd hσ' hlen ?_)))))))
        refine xwp_nil (xwp_nil (xwp_nil ⟨[("new_callers", .mr σ.length)], ⟨rfl, trivial⟩, trivial, rfl, ⟨rfl, trivial⟩, ?_⟩))
        rw [bump_old hl]; simp
    · rintro fl l' σ' ⟨rfl, hs2, rfl⟩
      refine xwp.sub ?_ hs2
      refine xwp_cons (swp_Return (ewp_name rfl ?_))
      refine ⟨σ.length, bkL (bump bk d), rfl, by simp, _, rfl, ?_⟩
      simpa using h
end Mine
end

section -- PgF1
open PySem PySem.W PyProof.Rows PySem.Calls PySem.SeqAt PySem.Builtin.Str
set_option Elab.async false
set_option maxRecDepth 100000
namespace Mine
set_option linter.unusedVariables false

section
variable {α β : Type} {la : α → α → Bool} {lb : β → β → Bool} {f : α → β} (hf : ∀ a b, lb (f a) (f b) = la a b)
include hf
theorem sdown_map (new : α) (start : Nat) : ∀ (n : Nat) (h : List α) (p : Nat), sdown lb (f new) start n (h.map f) p = (sdown la new start n h p).map f
  | 0, h, p => by simp [sdown, List.map_set]
  | n + 1, h, p => by
    unfold sdown
    by_cases h1 : start < p
    · rw [if_pos h1, if_pos h1, List.getElem?_map]
      cases h[(p - 1) / 2]? with
      | none => rfl
      | some x =>
        simp only [Option.map_some, hf]
        cases la new x with
        | true => rw [if_pos rfl, if_pos rfl, ← List.map_set]; exact sdown_map new start n _ _
        | false => simp [List.map_set]
    · rw [if_neg h1, if_neg h1, List.map_set]
theorem kid_map (h : List α) (p : Nat) : kid lb (h.map f) p = kid la h p := by
  unfold kid
  rw [List.getElem?_map, List.getElem?_map]
  cases h[2 * p + 1]? <;> cases h[2 * p + 2]? <;> simp [hf]
theorem sup_map : ∀ (n : Nat) (h : List α) (p : Nat), sup lb n (h.map f) p = ((sup la n h p).1.map f, (sup la n h p).2)
  | 0, h, p => rfl
  | n + 1, h, p => by
    unfold sup
    rw [kid_map hf, List.length_map, List.getElem?_map]
    by_cases h1 : 2 * p + 1 < h.length
    · rw [if_pos h1, if_pos h1]
      cases h[kid la h p]? with
      | none => rfl
      | some x => simp only [Option.map_some]; rw [← List.map_set]; exact sup_map n _ _
    · rw [if_neg h1, if_neg h1]
theorem siftup_map (h : List α) (p : Nat) (new : α) : siftup lb (h.map f) p (f new) = (siftup la h p new).map f := by
  unfold siftup
  rw [List.length_map, sup_map hf]
  simp only []
  rw [← List.map_set, sdown_map hf]
theorem hpush_map (h : List α) (x : α) : hpush lb (h.map f) (f x) = (hpush la h x).map f := by
  unfold hpush
  have e : h.map f ++ [f x] = (h ++ [x]).map f := by simp
  rw [List.length_map, e, sdown_map hf]
theorem hpop_map (r : List α) (l : α) : hpop lb (r.map f) (f l) = (f (hpop la r l).1, (hpop la r l).2.map f) := by
  cases r with
  | nil => rfl
  | cons x r =>
    unfold hpop
    simp only [List.map_cons]
    rw [← List.map_cons, ← List.map_set, siftup_map hf]
end
section
variable {α : Type} {lt : α → α → Bool}
theorem sdown_mem {new : α} {start : Nat} : ∀ (n : Nat) (h : List α) (p : Nat) (a : α), a ∈ sdown lt new start n h p → a = new ∨ a ∈ h
  | 0, h, p, a, ha => (List.mem_or_eq_of_mem_set ha).symm
  | n + 1, h, p, a, ha => by
    unfold sdown at ha
    split at ha
    · split at ha
      · rename_i x hx
        split at ha
        · rcases sdown_mem n _ _ a ha with h1 | h1
          · exact .inl h1
          · rcases List.mem_or_eq_of_mem_set h1 with h2 | h2
            · exact .inr h2
            · exact .inr (h2 ▸ List.mem_of_getElem? hx)
        · exact (List.mem_or_eq_of_mem_set ha).symm
      · exact .inr ha
    · exact (List.mem_or_eq_of_mem_set ha).symm
theorem sdown_len {new : α} {start : Nat} : ∀ (n : Nat) (h : List α) (p : Nat), (sdown lt new start n h p).length = h.length
  | 0, h, p => by simp [sdown]
  | n + 1, h, p => by
    unfold sdown
    split
    · split
      · split
        · rw [sdown_len n]; simp
        · simp
      · rfl
    · simp
theorem sup_mem : ∀ (n : Nat) (h : List α) (p : Nat) (a : α), a ∈ (sup lt n h p).1 → a ∈ h
  | 0, h, p, a, ha => ha
  | n + 1, h, p, a, ha => by
    unfold sup at ha
    split at ha
    · split at ha
      · rename_i x hx
        rcases List.mem_or_eq_of_mem_set (sup_mem n _ _ a ha) with h1 | h1
        · exact h1
        · exact h1 ▸ List.mem_of_getElem? hx
      · exact ha
    · exact ha
theorem sup_len : ∀ (n : Nat) (h : List α) (p : Nat), (sup lt n h p).1.length = h.length
  | 0, h, p => rfl
  | n + 1, h, p => by
    unfold sup
    split
    · split
      · rw [sup_len n]; simp
      · rfl
    · rfl
theorem siftup_mem {h : List α} {p : Nat} {new a : α} (ha : a ∈ siftup lt h p new) : a = new ∨ a ∈ h := by
  unfold siftup at ha
  rcases sdown_mem _ _ _ a ha with h1 | h1
  · exact .inl h1
  · rcases List.mem_or_eq_of_mem_set h1 with h2 | h2
    · exact .inr (sup_mem _ _ _ a h2)
    · exact .inl h2
theorem siftup_len {h : List α} {p : Nat} {new : α} : (siftup lt h p new).length = h.length := by
  unfold siftup; simp [sdown_len, sup_len]
theorem hpush_mem {h : List α} {x a : α} (ha : a ∈ hpush lt h x) : a = x ∨ a ∈ h := by
  rcases sdown_mem _ _ _ a ha with h1 | h1
  · exact .inl h1
  · rcases List.mem_append.mp h1 with h2 | h2
    · exact .inr h2
    · exact .inl (List.mem_singleton.mp h2)
theorem hpush_len {h : List α} {x : α} : (hpush lt h x).length = h.length + 1 := by unfold hpush; simp [sdown_len]
theorem hpop_mem {r : List α} {l : α} : (hpop lt r l).1 ∈ l :: r ∧ (∀ a ∈ (hpop lt r l).2, a ∈ l :: r) ∧ (hpop lt r l).2.length = r.length := by
  cases r with
  | nil => exact ⟨List.mem_cons_self, fun a ha => (by cases ha), rfl⟩
  | cons x r =>
    refine ⟨by simp [hpop], fun a ha => ?_, by simp [hpop, siftup_len]⟩
    rcases siftup_mem ha with h1 | h1
    · rw [h1]; exact List.mem_cons_self
    · simp only [List.set_cons_zero, List.mem_cons] at h1 ⊢
      exact h1.elim .inl fun h => .inr (.inr h)
end

noncomputable abbrev Way := List (Nat × Nat)
noncomputable abbrev Ent := Nat × Nat × Way
@[reducible] noncomputable def stepD (e : Nat × Nat) : PyData := .tuple [.int (e.1 : Int), .str (dk e.2)]
@[reducible] noncomputable def wayD (w : Way) : PyData := .tuple (w.map stepD)
@[reducible] noncomputable def entD (e : Ent) : PyData := .tuple [.int (e.1 : Int), .str (dk e.2.1), wayD e.2.2]
noncomputable def ltP (a b : Nat × Nat) : Bool := if a.1 = b.1 then decide (a.2 < b.2) else decide (a.1 < b.1)
noncomputable def ltW : Way → Way → Bool
  | [], [] => false
  | [], _ :: _ => true
  | _ :: _, [] => false
  | a :: v, b :: w => if a = b then ltW v w else ltP a b
noncomputable def ltC (a b : Ent) : Bool := if a.1 = b.1 then (if a.2.1 = b.2.1 then ltW a.2.2 b.2.2 else decide (a.2.1 < b.2.1)) else decide (a.1 < b.1)

theorem eqv_int (a b : Nat) : PyData.eqv (.int (a : Int)) (.int (b : Int)) = decide (a = b) := by
  show ((a : Int) == (b : Int)) = _
  by_cases h : a = b
  · subst h; simp
  · rw [decide_eq_false h]; exact beq_eq_false_iff_ne.mpr (by omega)
theorem eqv_dk (a b : Nat) : PyData.eqv (.str (dk a)) (.str (dk b)) = decide (a = b) := by
  show (dk a == dk b) = _
  rw [dk_beq]
  by_cases h : a = b
  · subst h; simp
  · rw [decide_eq_false h]; exact beq_eq_false_iff_ne.mpr h
theorem lt_dk (a b : Nat) : decide ((dk a).cps.toList < (dk b).cps.toList) = decide (a < b) := by
  have : (dk a).cps.toList < (dk b).cps.toList ↔ a < b := by
    show [97 + a] < [97 + b] ↔ a < b
    rw [List.cons_lt_cons_iff]
    simp
  rw [decide_eq_decide]; exact this
theorem eqv_step (a b : Nat × Nat) : PyData.eqv (stepD a) (stepD b) = decide (a = b) := by
  show PyData.eqvAll [.int (a.1 : Int), .str (dk a.2)] [.int (b.1 : Int), .str (dk b.2)] = _
  show (PyData.eqv (.int (a.1 : Int)) (.int (b.1 : Int)) && (PyData.eqv (.str (dk a.2)) (.str (dk b.2)) && true)) = _
  rw [eqv_int, eqv_dk, Bool.and_true, ← Bool.decide_and, decide_eq_decide]
  exact ⟨fun h => Prod.ext h.1 h.2, fun h => by rw [h]; exact ⟨rfl, rfl⟩⟩
theorem lt_step (a b : Nat × Nat) : ltD (stepD a) (stepD b) = some (ltP a b) := by
  show ltL [.int (a.1 : Int), .str (dk a.2)] [.int (b.1 : Int), .str (dk b.2)] = _
  unfold ltL
  rw [eqv_int]
  unfold ltP
  by_cases h1 : a.1 = b.1
  · rw [decide_eq_true h1, if_pos rfl, if_pos h1]
    unfold ltL
    rw [eqv_dk]
    by_cases h2 : a.2 = b.2
    · rw [decide_eq_true h2, if_pos rfl, h2]; simp [ltL]
    · rw [decide_eq_false h2, if_neg Bool.false_ne_true]
      show some (decide ((dk a.2).cps.toList < (dk b.2).cps.toList)) = _
      rw [lt_dk]
  · rw [decide_eq_false h1, if_neg Bool.false_ne_true, if_neg h1]
    show some (decide ((a.1 : Int) < (b.1 : Int))) = _
    simp
theorem eqvAll_way : ∀ v w : Way, PyData.eqvAll (v.map stepD) (w.map stepD) = decide (v = w)
  | [], [] => rfl
  | [], _ :: _ => rfl
  | _ :: _, [] => rfl
  | a :: v, b :: w => by
    show (PyData.eqv (stepD a) (stepD b) && PyData.eqvAll (v.map stepD) (w.map stepD)) = _
    rw [eqv_step, eqvAll_way v w, ← Bool.decide_and, decide_eq_decide]
    simp
theorem eqv_way (v w : Way) : PyData.eqv (wayD v) (wayD w) = decide (v = w) := eqvAll_way v w
theorem lt_way : ∀ v w : Way, ltL (v.map stepD) (w.map stepD) = some (ltW v w)
  | [], [] => rfl
  | [], _ :: _ => rfl
  | _ :: _, [] => rfl
  | a :: v, b :: w => by
    show (if PyData.eqv (stepD a) (stepD b) = true then ltL (v.map stepD) (w.map stepD) else ltD (stepD a) (stepD b)) = _
    rw [eqv_step, lt_way v w, lt_step]
    show _ = some (if a = b then ltW v w else ltP a b)
    by_cases h : a = b
    · rw [decide_eq_true h, if_pos rfl, if_pos h]
    · rw [decide_eq_false h, if_neg Bool.false_ne_true, if_neg h]
theorem ltW_self : ∀ v : Way, ltW v v = false
  | [] => rfl
  | a :: v => by unfold ltW; rw [if_pos rfl]; exact ltW_self v
theorem lt_ent (a b : Ent) : ltD (entD a) (entD b) = some (ltC a b) := by
  show ltL [.int (a.1 : Int), .str (dk a.2.1), wayD a.2.2] [.int (b.1 : Int), .str (dk b.2.1), wayD b.2.2] = _
  unfold ltL
  rw [eqv_int]
  unfold ltC
  by_cases h1 : a.1 = b.1
  · rw [decide_eq_true h1, if_pos rfl, if_pos h1]
    unfold ltL
    rw [eqv_dk]
    by_cases h2 : a.2.1 = b.2.1
    · rw [decide_eq_true h2, if_pos rfl, if_pos h2]
      unfold ltL
      rw [eqv_way]
      by_cases h3 : a.2.2 = b.2.2
      · rw [decide_eq_true h3, if_pos rfl, h3, ltW_self]; rfl
      · rw [decide_eq_false h3, if_neg Bool.false_ne_true]
        exact lt_way _ _
    · rw [decide_eq_false h2, if_neg Bool.false_ne_true, if_neg h2]
      show some (decide ((dk a.2.1).cps.toList < (dk b.2.1).cps.toList)) = _
      rw [lt_dk]
  · rw [decide_eq_false h1, if_neg Bool.false_ne_true, if_neg h1]
    show some (decide ((a.1 : Int) < (b.1 : Int))) = _
    simp
theorem ltB_ent (a b : Ent) : ltB (entD a) (entD b) = ltC a b := by
  unfold ltB; rw [lt_ent]; cases ltC a b <;> rfl

noncomputable def EOk (e : Ent) : Prop := e.2.1 < 4 ∧ ∀ x ∈ e.2.2, x.2 < 4
theorem str_dk {d : Nat} (h : d < 4) : (PyData.str (dk d)).canLay0 = true := by
  have : ∀ q : Fin 4, (PyData.str (dk q)).canLay0 = true := by decide +kernel
  exact this ⟨d, h⟩
theorem way_ok : ∀ w : Way, (∀ x ∈ w, x.2 < 4) → PyData.canLayAll0 (w.map stepD) = true ∧ PyData.depthAll (w.map stepD) ≤ 1
  | [], _ => ⟨rfl, Nat.zero_le _⟩
  | a :: w, h => by
    obtain ⟨h1, h2⟩ := way_ok w fun x hx => h x (List.mem_cons_of_mem _ hx)
    have h3 := str_dk (h a List.mem_cons_self)
    refine ⟨?_, ?_⟩
    · show ((PyData.canLay0 (stepD a)) && PyData.canLayAll0 (w.map stepD)) = true
      rw [h1, Bool.and_true]
      show (true && ((PyData.str (dk a.2)).canLay0 && true)) = true
      rw [h3]; rfl
    · show max (PyData.depth (stepD a)) (PyData.depthAll (w.map stepD)) ≤ 1
      exact Nat.max_le.mpr ⟨Nat.le_refl _, h2⟩
theorem ent_shaped {e : Ent} (h : EOk e) : SeqAt.shaped (entD e) = true := by
  obtain ⟨h1, h2⟩ := way_ok e.2.2 h.2
  unfold SeqAt.shaped
  rw [Bool.and_eq_true]
  refine ⟨?_, decide_eq_true ?_⟩
  · show (true && ((PyData.str (dk e.2.1)).canLay0 && (PyData.canLayAll0 (e.2.2.map stepD) && true))) = true
    rw [str_dk h.1, h1]; rfl
  · show max 0 (max 0 (max (PyData.depthAll (e.2.2.map stepD) + 1) 0)) + 1 ≤ 64
    omega
theorem tot_ent {h : List Ent} (hh : ∀ e ∈ h, EOk e) : Tot (h.map entD) := fun a ha => by
  obtain ⟨e, he, rfl⟩ := List.mem_map.mp ha
  refine ⟨ent_shaped (hh e he), fun b hb => ?_⟩
  obtain ⟨e', _, rfl⟩ := List.mem_map.mp hb
  exact ⟨_, lt_ent e e'⟩
end Mine
end

section -- PgG1
open PySem PySem.W PyProof.Rows PySem.Calls PySem.SeqAt PySem.Builtin.Str
set_option Elab.async false
set_option maxRecDepth 100000
namespace Mine
set_option linter.unusedVariables false

noncomputable abbrev Wy := List (Nat × Way)
@[reducible] noncomputable def wyL (wy : Wy) : List (Str × PyData) := wy.map fun e => (dk e.1, wayD e.2)
@[reducible] noncomputable def psL (ps : Ps) : PyData := .list (ps.map fun p => .str (pr p))
noncomputable def othT (ps : Ps) (tb : Tb) (n : Nat) : Option Nat := (tb.find? fun e => e.1 == n).map fun e => oth (pOf ps e.1) e.2
noncomputable def pushes (ps : Ps) (tb : Tb) (s spot : Nat) (way : Way) (h : List Ent) (nums : List Nat) : List Ent :=
  nums.foldl (fun h n => if isIn (pOf ps n) spot then (match othT ps tb n with
    | some o => if o = spot then h else hpush ltC h (s + 1, o, way ++ [(n, o)])
    | none => h) else h) h
noncomputable def wloop (ps : Ps) (tb : Tb) (newest : Nat) : Nat → List Ent → Wy → Wy
  | 0, _, wy => wy
  | f + 1, h, wy => match h.getLast? with
    | none => wy
    | some l =>
      if (wy.lookup (hpop ltC h.dropLast l).1.2.1).isSome then wloop ps tb newest f (hpop ltC h.dropLast l).2 wy
      else wloop ps tb newest f (pushes ps tb (hpop ltC h.dropLast l).1.1 (hpop ltC h.dropLast l).1.2.1 (hpop ltC h.dropLast l).1.2.2 (hpop ltC h.dropLast l).2 (List.range newest)) (wy ++ [((hpop ltC h.dropLast l).1.2.1, (hpop ltC h.dropLast l).1.2.2)])
noncomputable def waysOf (ps : Ps) (tb : Tb) (newest : Nat) : Wy :=
  wloop ps tb newest 22 (siftup ltC [(1, pa (pOf ps newest), [(newest, pa (pOf ps newest))]), (1, pb (pOf ps newest), [(newest, pb (pOf ps newest))])] 0 (1, pa (pOf ps newest), [(newest, pa (pOf ps newest))])) []

theorem wy_lookup (d : Nat) : ∀ wy : Wy, (wyL wy).lookup (dk d) = (wy.lookup d).map wayD
  | [] => rfl
  | (e, c) :: r => by
    simp only [List.map_cons, List.lookup_cons, dk_beq]
    cases d == e with
    | true => rfl
    | false => exact wy_lookup d r
theorem wy_put {d : Nat} {w : Way} : ∀ {wy : Wy}, wy.lookup d = none → dput (dk d) (wayD w) (wyL wy) = wyL (wy ++ [(d, w)])
  | [], _ => rfl
  | (e, c) :: r, h => by
    rw [List.lookup_cons] at h
    unfold dput
    simp only [List.map_cons, List.cons_append]
    by_cases he : e = d
    · subst he
      rw [beq_self_eq_true] at h; cases h
    · rw [beq_eq_false_iff_ne.mpr (Ne.symm he)] at h
      rw [if_neg (fun q => he (dk_inj q)), wy_put h]
theorem lookup_none {α : Type} {d : Nat} : ∀ {wy : List (Nat × α)}, wy.lookup d = none → d ∉ wy.map (·.1)
  | [], _ => by simp
  | (e, c) :: r, h => by
    rw [List.lookup_cons] at h
    by_cases he : d = e
    · subst he; rw [beq_self_eq_true] at h; cases h
    · rw [beq_eq_false_iff_ne.mpr he] at h
      simp only [List.map_cons, List.mem_cons, not_or]
      exact ⟨he, lookup_none h⟩

theorem tab_in : ∀ p : Fin 6, ∀ d : Fin 4, (!(occurrences (pr p) (dk d) 0 (pr p).length 1).isEmpty) = isIn p d := by decide +kernel
theorem tab_cat : ∀ p : Fin 6, ∀ n : Fin 5, pr p ++ Str.ofString (toString ((n.val : Nat) : Int)) = key p n := by decide +kernel
theorem tab_ascii : ∀ p : Fin 6, (pr p).cps.all (· < 128) = true ∧ pa p < 4 ∧ pb p < 4 ∧ isIn p (pa p) = true ∧ isIn p (pb p) = true := by decide +kernel

structure EI (m : Nat) (e : Ent) : Prop where
  ok : EOk e
  len : e.2.2.length = e.1
  pos : 1 ≤ e.1
  le : e.1 ≤ m + 1
theorem ents_shaped : ∀ {h : List Ent}, (∀ e ∈ h, EOk e) → PyData.canLayAll0 (h.map entD) = true ∧ PyData.depthAll (h.map entD) ≤ 10
  | [], _ => ⟨rfl, Nat.zero_le _⟩
  | e :: h, hh => by
    obtain ⟨h1, h2⟩ := ents_shaped fun x hx => hh x (List.mem_cons_of_mem _ hx)
    have h3 := ent_shaped (hh e List.mem_cons_self)
    obtain ⟨_, h5⟩ := way_ok e.2.2 (hh e List.mem_cons_self).2
    refine ⟨?_, ?_⟩
    · show (PyData.canLay0 (entD e) && PyData.canLayAll0 (h.map entD)) = true
      rw [h1, Bool.and_true]; exact SeqAt.canLay_of_shaped h3
    · show max (max 0 (max 0 (max (PyData.depthAll (e.2.2.map stepD) + 1) 0)) + 1) (PyData.depthAll (h.map entD)) ≤ 10
      omega
theorem list_shaped {h : List Ent} (hh : ∀ e ∈ h, EOk e) : SeqAt.shaped (.list (h.map entD)) = true := by
  obtain ⟨h1, h2⟩ := ents_shaped hh
  unfold SeqAt.shaped
  rw [Bool.and_eq_true]
  exact ⟨h1, decide_eq_true (by show PyData.depthAll (h.map entD) + 1 ≤ 64; omega)⟩

theorem nodup_lt : ∀ (n : Nat) (l : List Nat), l.Nodup → (∀ x ∈ l, x < n) → l.length ≤ n
  | 0, l, _, h => by
    cases l with
    | nil => exact Nat.le_refl _
    | cons x r => exact absurd (h x List.mem_cons_self) (Nat.not_lt_zero _)
  | n + 1, l, hn, h => by
    have h1 := nodup_lt n (l.erase n) (hn.erase n) fun x hx => by
      have h2 := (List.Nodup.mem_erase_iff hn).mp hx
      have h3 := h x h2.2
      have := h2.1
      omega
    have h4 : l.length ≤ (l.erase n).length + 1 := by
      by_cases hm : n ∈ l
      · rw [List.length_erase_of_mem hm]; omega
      · rw [List.erase_of_not_mem hm]; omega
    omega
structure WI (h : List Ent) (wy : Wy) : Prop where
  e : ∀ e ∈ h, EI wy.length e
  nd : (wy.map (·.1)).Nodup
  lt : ∀ x ∈ wy, x.1 < 4
theorem WI.len {h : List Ent} {wy : Wy} (w : WI h wy) : wy.length ≤ 4 := by
  have := nodup_lt 4 (wy.map (·.1)) w.nd fun x hx => by
    obtain ⟨e, he, rfl⟩ := List.mem_map.mp hx
    exact w.lt e he
  simpa using this
end Mine
end

section -- PgH1
open PySem PySem.W PyProof.Rows PySem.Calls PySem.SeqAt PySem.Builtin.Str
set_option Elab.async false
set_option maxRecDepth 100000
namespace Mine
set_option linter.unusedVariables false

theorem find_oth {ps : Ps} {tb : Tb} {n o : Nat} (h : othT ps tb n = some o) : findT ps tb n = .str (dk o) := by
  unfold othT at h
  unfold findT
  cases hf : tb.find? fun e => e.1 == n with
  | none => rw [hf] at h; cases h
  | some e => rw [hf] at h; cases h; rfl
theorem oth_find {ps : Ps} (hps : PsOk ps) {tb : Tb} {n o : Nat} (h : othT ps tb n = some o) : o < 4 := by
  unfold othT at h
  obtain ⟨e, _, rfl⟩ := Option.map_eq_some_iff.mp h
  exact oth_lt (pOf_lt hps e.1)
theorem ps_at {ps : Ps} {n : Nat} (h : n < ps.length) : (ps.map fun p => PyData.str (pr p))[n]? = some (.str (pr (pOf ps n))) := by
  rw [List.getElem?_map, List.getElem?_eq_getElem h]
  simp [pOf, List.getD, h]
theorem signs_pr (p : Nat) : signs (pr p) = [.str (dk (pa p)), .str (dk (pb p))] := rfl
theorem eqv_list_nil (xs : List PyData) : PyData.eqv (.list xs) (.list []) = xs.isEmpty := by
  cases xs <;> rfl

noncomputable abbrev waysB (i : Nat) (ps : Ps) (n J : Nat) : Loc := [("table", tabA i), ("pairs", .dat (psL ps)), ("newest", .int (n : Int)), ("ways", .mr J), ("heap", .mr (J + 1))]
noncomputable abbrev waysC (i : Nat) (ps : Ps) (n J s d : Nat) (w : Way) : Loc := [("table", tabA i), ("pairs", .dat (psL ps)), ("newest", .int (n : Int)), ("ways", .mr J), ("heap", .mr (J + 1)), ("size", .int (s : Int)), ("spot", .str (dk d)), ("way", .dat (wayD w))]
noncomputable abbrev deskL (n : Nat) : Loc := [("newest", .int (n : Int))]

theorem pushes_ok {ps : Ps} (hps : PsOk ps) {tb : Tb} {s spot m : Nat} {way : Way} (hw : way.length = s) (hwd : ∀ x ∈ way, x.2 < 4) (hs : s ≤ m) : ∀ (nums : List Nat) (h : List Ent), (∀ e ∈ h, EI m e) → ∀ e ∈ pushes ps tb s spot way h nums, EI m e
  | [], h, hh => hh
  | n :: nums, h, hh => by
    unfold pushes
    rw [List.foldl_cons]
    refine pushes_ok hps hw hwd hs nums _ ?_
    split
    · split
      · rename_i o ho
        split
        · exact hh
        · intro e he
          rcases hpush_mem he with h1 | h1
          · rw [h1]
            have ho4 := oth_find hps ho
            exact ⟨⟨ho4, fun x hx => (List.mem_append.mp hx).elim (hwd x) fun h => by rw [List.mem_singleton.mp h]; exact ho4⟩, by simp [hw], Nat.succ_le_succ (Nat.zero_le _), by show s + 1 ≤ m + 1; omega⟩
          · exact hh e h1
      · exact hh
    · exact hh
theorem pushes_len {ps : Ps} {tb : Tb} {s spot : Nat} {way : Way} : ∀ (nums : List Nat) (h : List Ent), (pushes ps tb s spot way h nums).length ≤ h.length + nums.length
  | [], h => Nat.le_refl _
  | n :: nums, h => by
    unfold pushes
    rw [List.foldl_cons]
    refine Nat.le_trans (pushes_len nums _) ?_
    rw [List.length_cons]
    split
    · split
      · split
        · omega
        · rw [hpush_len]; omega
      · omega
    · omega
theorem pushes_succ {ps : Ps} {tb : Tb} {s spot n : Nat} {way : Way} {h : List Ent} : pushes ps tb s spot way h (List.range (n + 1)) = pushes ps tb s spot way (pushes ps tb s spot way h (List.range n)) [n] := by
  unfold pushes; rw [List.range_succ, List.foldl_append]

theorem ar_f {α : Type} {r : List α} {l : α} {a f : Nat} (h : a + (r ++ [l]).length ≤ f) : ∃ f', f = f' + 1 := ⟨f - 1, by simp at h; omega⟩
theorem ar_r {α : Type} {r : List α} {l : α} {a f : Nat} (h : a + (r ++ [l]).length ≤ f) (h2 : f ≤ 22) : r.length + 1 ≤ 22 := by simp at h; omega
theorem ar_hj {a b c j : Nat} (h : a ≤ b + j) (e : b = c) (h2 : c + 1 ≤ 22) (h3 : j < 5) : a ≤ 30 := by omega
theorem ar_w {a b s : Nat} (h : a = s) (h2 : s ≤ b + 1) (h3 : b ≤ 3) : a ≤ 10 := by omega
theorem ar_m {a p q r n : Nat} (ha : a ≤ 3) (hp : p ≤ q + n) (hq : q = r) (hn : n < 5) : (4 - (a + 1)) * 5 + p < (4 - a) * 5 + r + 1 := by omega
theorem ways_spec {X : Wd} (ok : Ok X) {k : Nat} {σ : List MO} {Q : AV → List MO → Prop} {i n : Nat} {ps : Ps} {tb : Tb} (hps : PsOk ps) (ht : TbOk ps tb) (hn : n < ps.length) (hcov : ∀ j < n, ∃ o, othT ps tb j = some o) (hσ : σ[i]? = some (.lst (tabL ps tb)))
    (h : Q (.dat (sd (wyL (waysOf ps tb n)))) σ) : fwp X (k + 4) (.ref 257) [tabA i, .dat (psL ps), .int (n : Int)] [] [] Q σ := by
  have hn5 : n < 5 := Nat.lt_of_lt_of_le hn hps.len
  obtain ⟨hasc, hpa, hpb, hia, hib⟩ := tab_ascii ⟨_, pOf_lt hps n⟩
  have hiσ : i < σ.length := (List.getElem?_eq_some_iff.mp hσ).1
  refine fwp_cut (fwp_freeze (fwp_fn3 [] (ok.at rfl) rfl rfl (by rw [ok.K]; rfl) ?_))
  refine xwp_cons (swp_Assign_Name (.inl rfl) (ewp_DictE ?_))
  refine xwp_cons (swp_Assign_Comp ["newest"] [] true (CompOk.of (by rfl)) rfl rfl (ewp_Sub (ewp_name rfl (ewp_name rfl ⟨"list", .list, v2_get_list (ps_at hn) (fit5 hn5) ⟨_, _, isrc_str hasc, by show 2 ≤ 1000; decide, ?_⟩⟩))))
  have one : ∀ d : Nat, ([.int 1, .str (dk d), wayD [(n, d)]] : List PyData).length ≤ 1000 := fun d => by simp
  refine ⟨trivial, agn_Name (.inl rfl) ?_⟩
  refine ewp_Tuple (asp_cons (ewp_int (asp_cons (ewp_name rfl (asp_cons (ewp_Tuple (asp_cons (ewp_Tuple (asp_cons (ewp_name rfl (asp_cons (ewp_name rfl (asp_nil ⟨[.int (n : Int), .str (dk (pa (pOf ps n)))], rfl, by simp, ?_⟩)))))))))))))
  refine asp_nil ⟨[stepD (n, pa (pOf ps n))], rfl, by simp, asp_nil ⟨[.int 1, .str (dk (pa (pOf ps n))), wayD [(n, pa (pOf ps n))]], rfl, by simp, entD (1, pa (pOf ps n), [(n, pa (pOf ps n))]), deskL n, rfl, ⟨rfl, trivial⟩, ?_⟩⟩
  refine ⟨trivial, agn_Name (.inl rfl) ?_⟩
  refine ewp_Tuple (asp_cons (ewp_int (asp_cons (ewp_name rfl (asp_cons (ewp_Tuple (asp_cons (ewp_Tuple (asp_cons (ewp_name rfl (asp_cons (ewp_name rfl (asp_nil ⟨[.int (n : Int), .str (dk (pb (pOf ps n)))], rfl, by simp, ?_⟩)))))))))))))
  refine asp_nil ⟨[stepD (n, pb (pOf ps n))], rfl, by simp, asp_nil ⟨[.int 1, .str (dk (pb (pOf ps n))), wayD [(n, pb (pOf ps n))]], rfl, by simp, entD (1, pb (pOf ps n), [(n, pb (pOf ps n))]), deskL n, rfl, ⟨rfl, trivial⟩, ?_⟩⟩
  refine ⟨trivial, ?_⟩
  refine Eq.mpr (if_pos rfl) ?_
  generalize hA : ((1, pa (pOf ps n), [(n, pa (pOf ps n))]) : Ent) = A1
  generalize hB : ((1, pb (pOf ps n), [(n, pb (pOf ps n))]) : Ent) = B1
  have eA : EI 0 A1 := by rw [← hA]; exact ⟨⟨hpa, fun x hx => by rw [List.mem_singleton.mp hx]; exact hpa⟩, rfl, Nat.le_refl _, Nat.le_refl _⟩
  have eB : EI 0 B1 := by rw [← hB]; exact ⟨⟨hpb, fun x hx => by rw [List.mem_singleton.mp hx]; exact hpb⟩, rfl, Nat.le_refl _, Nat.le_refl _⟩
  have hJ : (σ ++ [MO.dict []] ++ [MO.lst [entD A1, entD B1]])[σ.length + 1]? = some (.lst ([A1, B1].map entD)) := by simp
  have hlen1 : (σ ++ [MO.dict []]).length = σ.length + 1 := by simp
  show xwp X _ _ _ _ (put _ (AV.mr (σ ++ [MO.dict []]).length) _) (σ ++ [MO.dict []] ++ [MO.lst [entD A1, entD B1]])
  rw [hlen1]
  refine xwp_cons (swp_Expr (ewp_Call (ewp_global rfl (ok.mg rfl) ⟨_, rfl, ok.kp rfl, asp_cons (ewp_name rfl (asp_nil (ksp_nil (heapify_spec ok hJ (tot_ent (h := [A1, B1]) ?_) ?_))))⟩)))
  · intro e he
    simp only [List.mem_cons, List.not_mem_nil, or_false] at he
    rcases he with rfl | rfl
    · exact eA.ok
    · exact eB.ok
  have hheap0 : siftup ltB [entD A1, entD B1] 0 (entD A1) = (siftup ltC [A1, B1] 0 A1).map entD := siftup_map (f := entD) ltB_ent [A1, B1] 0 A1
  rw [hheap0]
  have hway : waysOf ps tb n = wloop ps tb n 22 (siftup ltC [A1, B1] 0 A1) [] := by unfold waysOf; rw [hA, hB]
  rw [hway] at h
  generalize hfin : wloop ps tb n 22 (siftup ltC [A1, B1] 0 A1) [] = fin at h
  have hW0 : WI (siftup ltC [A1, B1] 0 A1) [] := ⟨fun e he => by
    rcases siftup_mem he with h1 | h1
    · rw [h1]; exact eA
    · simp only [List.mem_cons, List.not_mem_nil, or_false] at h1
      rcases h1 with rfl | rfl
      · exact eA
      · exact eB, by simp, fun x hx => by cases hx⟩
  have hL0 : (siftup ltC [A1, B1] 0 A1).length = 2 := siftup_len
  have hset : (σ ++ [MO.dict []] ++ [MO.lst [entD A1, entD B1]]).set (σ.length + 1) (MO.lst ((siftup ltC [A1, B1] 0 A1).map entD)) = σ ++ [MO.dict (wyL []), MO.lst ((siftup ltC [A1, B1] 0 A1).map entD)] := by simp
  rw [hset]
  refine xwp_cons (swp.mono (swp_WhileI (Q := fun fl l' σ' => fl = .next ∧ Subs [("ways", .mr σ.length)] l' ∧ ∃ o, σ' = σ ++ [.dict (wyL fin), o])
    (fun m loc σ' => ∃ (f : Nat) (hp : List Ent) (wy : Wy), m = (4 - wy.length) * 5 + hp.length ∧ m ≤ f ∧ f ≤ 22 ∧ loc = waysB i ps n σ.length ∧ σ' = σ ++ [.dict (wyL wy), .lst (hp.map entD)] ∧ WI hp wy ∧ wloop ps tb n f hp wy = fin) 22 (waysB i ps n σ.length) ⟨rfl, rfl, rfl, rfl, rfl, trivial⟩
    ⟨22, siftup ltC [A1, B1] 0 A1, [], by rw [hL0]; rfl, Nat.le_refl _, Nat.le_refl _, rfl, rfl, hW0, hfin⟩ ?_) ?_)
  · rintro m loc σ' ⟨f, hp, wy, rfl, hmf, hf22, rfl, rfl, hW, he⟩
    have hσh : (σ ++ [MO.dict (wyL wy), MO.lst (hp.map entD)])[σ.length + 1]? = some (.lst (hp.map entD)) := end2b
    have hσw : (σ ++ [MO.dict (wyL wy), MO.lst (hp.map entD)])[σ.length]? = some (.dict (wyL wy)) := end2a
    have hwl := hW.len
    refine twp_Compare (ewp_name rfl (ewp_ListF (asp_nil ⟨[], rfl, by simp, v2_ne_mr hσh (list_shaped fun e he => (hW.e e he).ok) rfl ⟨_, rfl, ?_⟩⟩)))
    rw [eqv_list_nil]
    cases hgl : hp.getLast? with
    | none =>
      have e0 : hp = [] := List.getLast?_eq_none_iff.mp hgl
      subst e0
      refine ⟨rfl, ⟨rfl, trivial⟩, .lst ([].map entD), ?_⟩
      have : wloop ps tb n f [] wy = wy := by cases f <;> rfl
      rw [← he, this]
    | some l =>
      obtain ⟨r, rfl⟩ := List.getLast?_eq_some_iff.mp hgl
      have hne : (List.map entD (r ++ [l])).isEmpty = false := by simp
      rw [hne]
      refine xwp_gen fun Q1 hQ1 => ?_
      obtain ⟨f, rfl⟩ : ∃ f', f = f' + 1 := ar_f hmf
      unfold wloop at he
      rw [hgl] at he
      dsimp only at he
      rw [List.dropLast_concat] at he
      have hlen22 : r.length + 1 ≤ 22 := ar_r hmf hf22
      have hσ2 : (σ ++ [MO.dict (wyL wy), MO.lst ((r ++ [l]).map entD)])[σ.length + 1]? = some (.lst (r.map entD ++ [entD l])) := by simp
      obtain ⟨hm1, hm2, hm3⟩ := hpop_mem (lt := ltC) (r := r) (l := l)
      have hall : ∀ e ∈ l :: r, EI wy.length e := fun e h1 => hW.e e (by
        rcases List.mem_cons.mp h1 with h2 | h2
        · rw [h2]; simp
        · exact List.mem_append_left _ h2)
      have hpm : hpop ltB (r.map entD) (entD l) = (entD (hpop ltC r l).1, (hpop ltC r l).2.map entD) := hpop_map (f := entD) ltB_ent r l
      generalize hP : hpop ltC r l = P at he hm1 hm2 hm3 hpm
      obtain ⟨⟨s, d, w⟩, h2⟩ := P
      dsimp only at he hm1 hm2 hm3 hpm
      have eTop := hall _ hm1
      have eRest : ∀ e ∈ h2, EI wy.length e := fun e he => hall e (hm2 e he)
      refine xwp_cons (swp_Assign_agn (ewp_Call (ewp_global rfl (ok.mg rfl) ⟨_, rfl, ok.kp rfl, asp_cons (ewp_name rfl (asp_nil (ksp_nil (heappop_spec ok hσ2 (by rw [List.length_map]; exact Nat.lt_of_lt_of_le hlen22 (by decide)) (tot_ent (h := l :: r) fun e h1 => (hall e h1).ok) ?_))))⟩)))
      rw [hpm]
      have hset2 : (σ ++ [MO.dict (wyL wy), MO.lst ((r ++ [l]).map entD)]).set (σ.length + 1) (MO.lst (h2.map entD)) = σ ++ [MO.dict (wyL wy), MO.lst (h2.map entD)] := endS2b
      rw [hset2]
      have hσw2 : (σ ++ [MO.dict (wyL wy), MO.lst (h2.map entD)])[σ.length]? = some (.dict (wyL wy)) := end2a
      refine agn_Tuple (fun _ => rfl) rfl (agn_Name (.inl rfl) (agn_Name (.inl rfl) (agn_Name (.inl rfl) ?_)))
      refine xwp_cons (swp_If (twp_Compare (ewp_name rfl (ewp_name rfl (v2_notin_mr hσw2 ⟨_, rfl, ?_⟩)))))
      rw [wy_lookup]
      have hmeas : ((4 - wy.length) * 5 + (r ++ [l]).length) = (4 - wy.length) * 5 + r.length + 1 := by rw [List.length_append, List.length_singleton, Nat.add_assoc]
      cases hlk : wy.lookup d with
      | some w0 =>
        rw [hlk] at he
        simp only [Option.isSome_some, if_true] at he
        refine xwp_nil (xwp_nil (hQ1 .next _ _ ?_))
        exact ⟨_, waysB i ps n σ.length, by rw [hmeas, ← hm3]; exact Nat.lt_succ_self _, ⟨rfl, rfl, rfl, rfl, rfl, trivial⟩, f, h2, wy, rfl, by rw [hm3]; exact Nat.le_of_succ_le_succ (show (4 - wy.length) * 5 + r.length + 1 ≤ f + 1 from hmeas ▸ hmf), Nat.le_of_succ_le hf22, rfl, rfl, ⟨eRest, hW.nd, hW.lt⟩, he⟩
      | none =>
        rw [hlk] at he
        simp only [Option.isSome_none, Bool.false_eq_true, if_false] at he
        have hW2 : WI [] (wy ++ [(d, w)]) := ⟨fun e he => by (cases he), by
          rw [List.map_append, List.nodup_append]
          refine ⟨hW.nd, by simp, fun a ha b hb e => ?_⟩
          simp only [List.map_cons, List.map_nil, List.mem_singleton] at hb
          exact lookup_none hlk (by rw [← hb, ← e]; exact ha), fun x hx => (List.mem_append.mp hx).elim (hW.lt x) fun h => by rw [List.mem_singleton.mp h]; exact eTop.ok.1⟩
        have hwl2 := hW2.len
        have hwl3 : wy.length ≤ 3 := by rw [List.length_append] at hwl2; exact Nat.le_of_succ_le_succ hwl2
        refine xwp_cons (swp_Assign_Sub (ewp_name rfl (ewp_name rfl (ewp_name rfl (v3_set_mrd hσw2 (by rw [List.length_map]; exact Nat.le_trans hwl3 (by decide)) ?_)))))
        rw [wy_put hlk]
        have hset3 : (σ ++ [MO.dict (wyL wy), MO.lst (h2.map entD)]).set σ.length (MO.dict (wyL (wy ++ [(d, w)]))) = σ ++ [MO.dict (wyL (wy ++ [(d, w)])), MO.lst (h2.map entD)] := endS2a
        rw [hset3]
        have hs5 : s ≤ wy.length + 1 := eTop.le
        refine xwp_cons (swp.mono (swp_ForI (Q := fun fl l' σ' => fl = .next ∧ Subs (waysB i ps n σ.length) l' ∧ σ' = σ ++ [MO.dict (wyL (wy ++ [(d, w)])), MO.lst ((pushes ps tb s d w h2 (List.range n)).map entD)]) (ewp_Call (ewp_builtin rfl (ok.mgn rfl) rfl ⟨_, rfl, Kp.type, asp_cons (ewp_name rfl (asp_nil (ksp_nil (t_range ⟨_, _, isrc_rng (n := n) (fit5 hn5),
          fun j loc σ' => loc = waysC i ps n σ.length s d w ∧ σ' = σ ++ [MO.dict (wyL (wy ++ [(d, w)])), MO.lst ((pushes ps tb s d w h2 (List.range j)).map entD)], ⟨waysC i ps n σ.length s d w, ⟨rfl, rfl, rfl, rfl, rfl, rfl, rfl, rfl, trivial⟩, rfl, rfl⟩, ?_, ?_⟩))))⟩))) ?_)
        · rintro j x loc σ' hx ⟨rfl, rfl⟩
          refine ⟨trivial, agn_Name (.inl rfl) (xwp_gen fun Q2 hQ2 => ?_)⟩
          have hjn : j < n := by
            have := (List.getElem?_eq_some_iff.mp hx).1
            simpa [prog1] using this
          obtain rfl : AV.int (j : Int) = x := by
            rw [prog1, List.getElem?_map, List.getElem?_range hjn] at hx
            simp only [Option.map_some, Option.some.injEq] at hx
            rw [← hx]; simp
          have hj5 : j < 5 := Nat.lt_trans hjn hn5
          obtain ⟨o, ho⟩ := hcov j hjn
          have ho4 := oth_find hps ho
          have hd4 : d < 4 := eTop.ok.1
          generalize hHj : pushes ps tb s d w h2 (List.range j) = hj
          have hjE : ∀ e ∈ hj, EI (wy.length + 1) e := by
            rw [← hHj]
            refine pushes_ok hps eTop.len eTop.ok.2 hs5 _ _ fun e he => ?_
            have := eRest e he
            exact ⟨this.ok, this.len, this.pos, Nat.le_succ_of_le this.le⟩
          have hjl : hj.length ≤ 30 := by
            have := pushes_len (ps := ps) (tb := tb) (s := s) (spot := d) (way := w) (List.range j) h2
            rw [hHj, List.length_range] at this; exact ar_hj this hm3 hlen22 hj5
          have hsucc : pushes ps tb s d w h2 (List.range (j + 1)) = pushes ps tb s d w hj [j] := by rw [pushes_succ, hHj]
          generalize hS : σ ++ [MO.dict (wyL (wy ++ [(d, w)])), MO.lst (hj.map entD)] = S at *
          have hSi : S[i]? = some (.lst (tabL ps tb)) := by rw [← hS, List.getElem?_append_left hiσ]; exact hσ
          have hSh : S[σ.length + 1]? = some (.lst (hj.map entD)) := by rw [← hS]; exact end2b
          have hin := tab_in ⟨_, pOf_lt hps j⟩ ⟨d, hd4⟩
          have hcat := tab_cat ⟨_, pOf_lt hps j⟩ ⟨j, hj5⟩
          obtain ⟨n1, n2⟩ := tab_num ⟨j, hj5⟩
          have hend : ∀ l' : Loc, Subs (waysC i ps n σ.length s d w) l' → pushes ps tb s d w hj [j] = hj → ∃ l'', Subs l'' l' ∧ l'' = waysC i ps n σ.length s d w ∧ S = σ ++ [MO.dict (wyL (wy ++ [(d, w)])), MO.lst ((pushes ps tb s d w h2 (List.range (j + 1))).map entD)] :=
            fun l' hs e => ⟨_, hs, rfl, by rw [hsucc, e, hS]⟩
          refine xwp_cons (swp_If (twp_Compare (ewp_name rfl (ewp_Sub (ewp_name rfl (ewp_name rfl ⟨"list", .list, v2_get_list (ps_at (Nat.lt_trans hjn hn)) (fit5 hj5) (v2_ins ⟨_, rfl, ?_⟩)⟩))))))
          rw [hin]
          cases hb : isIn (pOf ps j) d with
          | false =>
            refine xwp_nil (xwp_nil (hQ2 .next _ _ (hend _ ⟨rfl, rfl, rfl, rfl, rfl, rfl, rfl, rfl, trivial⟩ ?_)))
            show (if isIn (pOf ps j) d then _ else hj) = hj
            rw [hb, if_neg Bool.false_ne_true]
          | true =>
            refine xwp_cons (swp_Assign_Name (.inl rfl) (ewp_Meth (ewp_name rfl ⟨_, mth_inst ok.hd.g (f := 118) (by rw [ok.K]; rfl) (by rw [ok.K]; rfl) (by decide), ok.kp rfl,
              asp_cons (ewp_BinOp (ewp_Sub (ewp_name rfl (ewp_name rfl ⟨"list", .list, v2_get_list (ps_at (Nat.lt_trans hjn hn)) (fit5 hj5)
                (ewp_Call (ewp_builtin rfl (ok.mgn rfl) rfl ⟨_, rfl, Kp.type, asp_cons (ewp_name rfl (asp_nil (ksp_nil (t_str n1 (Nat.le_trans n2 (by decide)) (v2_adds (Nat.le_trans (Nat.add_le_add (show (pr (pOf ps j)).length ≤ 2 from Nat.le_refl _) n2) (by decide)) ?_)))))⟩))⟩))))⟩)))
            rw [hcat]
            refine asp_nil (ksp_nil (get_spec ok hps ht hj5 hSi ?_))
            rw [find_oth ho]
            refine xwp_cons (swp_If (twp_Compare (ewp_name rfl (ewp_name rfl (v2_ne (by unfold SeqAt.shaped; rw [str_dk ho4]; rfl) (by unfold SeqAt.shaped; rw [str_dk hd4]; rfl) ⟨_, rfl, ?_⟩)))))
            rw [eqv_dk]
            by_cases hod : o = d
            · rw [decide_eq_true hod]
              refine xwp_nil (xwp_nil (xwp_nil (hQ2 .next _ _ (hend _ ⟨rfl, rfl, rfl, rfl, rfl, rfl, rfl, rfl, trivial⟩ ?_))))
              show (if isIn (pOf ps j) d then (match othT ps tb j with | some o => if o = d then hj else hpush ltC hj (s + 1, o, w ++ [(j, o)]) | none => hj) else hj) = hj
              rw [hb, if_pos rfl, ho]
              exact if_pos hod
            · rw [decide_eq_false hod]
              have hpush : pushes ps tb s d w hj [j] = hpush ltC hj (s + 1, o, w ++ [(j, o)]) := by
                show (if isIn (pOf ps j) d then (match othT ps tb j with | some o => if o = d then hj else hpush ltC hj (s + 1, o, w ++ [(j, o)]) | none => hj) else hj) = _
                rw [hb, if_pos rfl, ho]
                exact if_neg hod
              have hwne : w.map stepD ≠ [] := by
                intro e
                have h1 : w.length = s := eTop.len
                have h2' : 1 ≤ s := eTop.pos
                have h0 : w = [] := by simpa using e
                rw [h0] at h1
                have h3 : 0 = s := h1
                rw [← h3] at h2'
                exact absurd h2' (by decide)
              have hws : w.length = s := eTop.len
              have hwl4 : w.length ≤ 10 := ar_w hws hs5 hwl3
              refine xwp_cons (swp_Expr (ewp_Call (ewp_global rfl (ok.mg rfl) ⟨_, rfl, ok.kp rfl, asp_cons (ewp_name rfl (asp_cons (ewp_Tuple ?_)))⟩)))
              refine asp_cons (ewp_BinOp (ewp_name rfl (ewp_int (v2_add ?_))))
              refine asp_cons (ewp_name rfl ?_)
              refine asp_cons (ewp_BinOp (ewp_name rfl (ewp_Tuple ?_)))
              refine asp_cons (ewp_Tuple (asp_cons (ewp_name rfl (asp_cons (ewp_name rfl (asp_nil ⟨[.int (j : Int), .str (dk o)], rfl, by simp, ?_⟩))))))
              refine asp_nil ⟨[stepD (j, o)], rfl, by simp, ?_⟩
              refine v2_addt hwne (List.cons_ne_nil _ _) (by rw [List.length_map]; exact Nat.le_trans (Nat.add_le_add_right hwl4 1) (by decide)) ?_
              have ew : w.map stepD ++ [stepD (j, o)] = (w ++ [(j, o)]).map stepD := by simp
              rw [ew]
              refine asp_nil ⟨[.int ((s : Int) + 1), .str (dk o), wayD (w ++ [(j, o)])], rfl, by simp, ?_⟩
              have eE : PyData.tuple [.int ((s : Int) + 1), .str (dk o), wayD (w ++ [(j, o)])] = entD (s + 1, o, w ++ [(j, o)]) := by simp [entD]
              rw [eE]
              have okN : EOk (s + 1, o, w ++ [(j, o)]) := ⟨ho4, fun x hx => (List.mem_append.mp hx).elim (eTop.ok.2 x) fun h => by rw [List.mem_singleton.mp h]; exact ho4⟩
              refine asp_nil (ksp_nil (heappush_spec ok hSh (by rw [List.length_map]; exact Nat.lt_of_le_of_lt hjl (by decide)) (tot_ent (h := (s + 1, o, w ++ [(j, o)]) :: hj) fun e he => ?_) ?_))
              · rcases List.mem_cons.mp he with h1 | h1
                · rw [h1]; exact okN
                · exact (hjE e h1).ok
              · rw [hpush_map (f := entD) ltB_ent]
                refine xwp_nil (xwp_nil (xwp_nil (hQ2 .next _ _ ?_)))
                refine ⟨waysC i ps n σ.length s d w, ⟨rfl, rfl, rfl, rfl, rfl, rfl, rfl, rfl, trivial⟩, rfl, ?_⟩
                rw [hsucc, hpush, ← hS]
                simp
        · rintro loc σ' ⟨rfl, rfl⟩
          refine ⟨trivial, rfl, ⟨rfl, rfl, rfl, rfl, rfl, trivial⟩, ?_⟩
          simp [prog1]
        · rintro fl l' σ' ⟨rfl, hs2, rfl⟩
          refine xwp.sub ?_ hs2
          have hpl := pushes_len (ps := ps) (tb := tb) (s := s) (spot := d) (way := w) (List.range n) h2
          rw [List.length_range] at hpl
          refine xwp_nil (xwp_nil (hQ1 .next _ _ ?_))
          have hml : (wy ++ [(d, w)]).length = wy.length + 1 := by simp
          refine ⟨_, waysB i ps n σ.length, ?_, ⟨rfl, rfl, rfl, rfl, rfl, trivial⟩, f, _, wy ++ [(d, w)], rfl, ?_, Nat.le_of_succ_le hf22, rfl, rfl, ⟨?_, hW2.nd, hW2.lt⟩, he⟩
          · rw [hmeas, hml]; exact ar_m hwl3 hpl hm3 hn5
          · rw [hml]; exact Nat.le_of_lt_succ (Nat.lt_of_lt_of_le (ar_m hwl3 hpl hm3 hn5) (show (4 - wy.length) * 5 + r.length + 1 ≤ f + 1 from hmeas ▸ hmf))
          · rw [hml]
            refine pushes_ok hps eTop.len eTop.ok.2 hs5 _ _ fun e he => ?_
            have := eRest e he
            exact ⟨this.ok, this.len, this.pos, Nat.le_succ_of_le this.le⟩
  · rintro fl l' σ' ⟨rfl, hs, o, rfl⟩
    refine xwp.sub ?_ hs
    refine xwp_cons (swp_Return (ewp_name rfl ?_))
    refine ⟨σ.length, wyL fin, rfl, by simp, _, rfl, ?_⟩
    simpa using h
end Mine
end

section -- PgI1
open PySem PySem.W PyProof.Rows PySem.Calls PySem.SeqAt PySem.Builtin.Str
set_option Elab.async false
set_option maxRecDepth 100000
namespace Mine
set_option linter.unusedVariables false

noncomputable def SOk (ps : Ps) (n : Nat) (y : Nat × Nat) : Prop := y.1 ≤ n ∧ isIn (pOf ps y.1) y.2 = true
structure PWI (ps : Ps) (n : Nat) (h : List Ent) (wy : Wy) : Prop where
  e : ∀ e ∈ h, e.2.1 < 4 ∧ ∀ y ∈ e.2.2, SOk ps n y
  x : ∀ x ∈ wy, x.1 < 4 ∧ ∀ y ∈ x.2, SOk ps n y
  nd : (wy.map (·.1)).Nodup
theorem isIn_oth {p d : Nat} : isIn p (oth p d) = true := by
  unfold isIn oth
  split <;> simp
theorem pushes_P {ps : Ps} (hps : PsOk ps) {tb : Tb} {n s spot : Nat} {way : Way} (hw : ∀ y ∈ way, SOk ps n y) : ∀ (nums : List Nat) (h : List Ent), (∀ j ∈ nums, j ≤ n) → (∀ e ∈ h, e.2.1 < 4 ∧ ∀ y ∈ e.2.2, SOk ps n y) → ∀ e ∈ pushes ps tb s spot way h nums, e.2.1 < 4 ∧ ∀ y ∈ e.2.2, SOk ps n y
  | [], h, _, hh => hh
  | j :: nums, h, hj, hh => by
    unfold pushes
    rw [List.foldl_cons]
    refine pushes_P hps hw nums _ (fun j' hj' => hj j' (List.mem_cons_of_mem _ hj')) ?_
    split
    · split
      · rename_i o ho
        split
        · exact hh
        · intro e he
          rcases hpush_mem he with h1 | h1
          · rw [h1]
            refine ⟨oth_find hps ho, fun y hy => (List.mem_append.mp hy).elim (hw y) fun h => ?_⟩
            rw [List.mem_singleton.mp h]
            refine ⟨hj j List.mem_cons_self, ?_⟩
            unfold othT at ho
            obtain ⟨e', he', rfl⟩ := Option.map_eq_some_iff.mp ho
            have := List.find?_some he'
            simp only [beq_iff_eq] at this
            rw [this]
            exact isIn_oth
          · exact hh e h1
      · exact hh
    · exact hh
theorem wloop_P {ps : Ps} (hps : PsOk ps) {tb : Tb} {n : Nat} : ∀ (f : Nat) (h : List Ent) (wy : Wy), PWI ps n h wy → PWI ps n [] (wloop ps tb n f h wy)
  | 0, h, wy, w => ⟨fun e he => (by cases he), w.x, w.nd⟩
  | f + 1, h, wy, w => by
    unfold wloop
    cases hgl : h.getLast? with
    | none => exact ⟨fun e he => (by cases he), w.x, w.nd⟩
    | some l =>
      obtain ⟨r, rfl⟩ := List.getLast?_eq_some_iff.mp hgl
      simp only [List.dropLast_concat]
      obtain ⟨hm1, hm2, hm3⟩ := hpop_mem (lt := ltC) (r := r) (l := l)
      have hall : ∀ e ∈ l :: r, e.2.1 < 4 ∧ ∀ y ∈ e.2.2, SOk ps n y := fun e h1 => w.e e (by
        rcases List.mem_cons.mp h1 with h2 | h2
        · rw [h2]; simp
        · exact List.mem_append_left _ h2)
      split
      · exact wloop_P hps f _ _ ⟨fun e he => hall e (hm2 e he), w.x, w.nd⟩
      · rename_i hlk
        refine wloop_P hps f _ _ ⟨?_, ?_, ?_⟩
        · exact pushes_P hps (hall _ hm1).2 _ _ (fun j hj => Nat.le_of_lt (List.mem_range.mp hj)) fun e he => hall e (hm2 e he)
        · intro x hx
          rcases List.mem_append.mp hx with h1 | h1
          · exact w.x x h1
          · rw [List.mem_singleton.mp h1]; exact hall _ hm1
        · rw [List.map_append, List.nodup_append]
          refine ⟨w.nd, by simp, fun a ha b hb e => ?_⟩
          simp only [List.map_cons, List.map_nil, List.mem_singleton] at hb
          have hnone : wy.lookup (hpop ltC r l).1.2.1 = none := by
            cases hq : wy.lookup (hpop ltC r l).1.2.1 with
            | none => rfl
            | some v => rw [hq] at hlk; exact absurd rfl hlk
          exact lookup_none hnone (by rw [← hb, ← e]; exact ha)
theorem wloop_ne {ps : Ps} {tb : Tb} {n : Nat} : ∀ (f : Nat) (h : List Ent) (wy : Wy), wy ≠ [] → wloop ps tb n f h wy ≠ []
  | 0, h, wy, w => w
  | f + 1, h, wy, w => by
    unfold wloop
    split
    · exact w
    · split
      · exact wloop_ne f _ _ w
      · exact wloop_ne f _ _ (by simp)
theorem ways_P {ps : Ps} (hps : PsOk ps) {tb : Tb} {n : Nat} : PWI ps n [] (waysOf ps tb n) ∧ waysOf ps tb n ≠ [] := by
  obtain ⟨_, hpa, hpb, hia, hib⟩ := tab_ascii ⟨_, pOf_lt hps n⟩
  have h0 : ∀ e ∈ siftup ltC [((1, pa (pOf ps n), [(n, pa (pOf ps n))]) : Ent), (1, pb (pOf ps n), [(n, pb (pOf ps n))])] 0 (1, pa (pOf ps n), [(n, pa (pOf ps n))]), e.2.1 < 4 ∧ ∀ y ∈ e.2.2, SOk ps n y := by
    intro e he
    have hA : ((1, pa (pOf ps n), [(n, pa (pOf ps n))]) : Ent).2.1 < 4 ∧ ∀ y ∈ ((1, pa (pOf ps n), [(n, pa (pOf ps n))]) : Ent).2.2, SOk ps n y := ⟨hpa, fun y hy => by rw [List.mem_singleton.mp hy]; exact ⟨Nat.le_refl _, hia⟩⟩
    have hB : ((1, pb (pOf ps n), [(n, pb (pOf ps n))]) : Ent).2.1 < 4 ∧ ∀ y ∈ ((1, pb (pOf ps n), [(n, pb (pOf ps n))]) : Ent).2.2, SOk ps n y := ⟨hpb, fun y hy => by rw [List.mem_singleton.mp hy]; exact ⟨Nat.le_refl _, hib⟩⟩
    rcases siftup_mem he with h1 | h1
    · rw [h1]; exact hA
    · simp only [List.mem_cons, List.not_mem_nil, or_false] at h1
      rcases h1 with rfl | rfl
      · exact hA
      · exact hB
  refine ⟨wloop_P hps 22 _ _ ⟨h0, fun x hx => (by cases hx), by simp⟩, ?_⟩
  unfold waysOf
  rw [show (22 : Nat) = 21 + 1 from rfl]
  unfold wloop
  have hl : (siftup ltC [((1, pa (pOf ps n), [(n, pa (pOf ps n))]) : Ent), (1, pb (pOf ps n), [(n, pb (pOf ps n))])] 0 (1, pa (pOf ps n), [(n, pa (pOf ps n))])).length = 2 := siftup_len
  split
  · rename_i hg
    rw [List.getLast?_eq_none_iff] at hg
    rw [hg] at hl; cases hl
  · split
    · rename_i hs; cases hs
    · exact wloop_ne _ _ _ (by simp)

noncomputable def store (tb : Tb) (e : Nat × Nat) : Tb := wo tb e.1 ++ [e]
structure TbN (ps : Ps) (tb : Tb) : Prop where
  lt : ∀ e ∈ tb, e.1 < 5
  isIn : ∀ e ∈ tb, isIn (pOf ps e.1) e.2 = true
  nd : (tb.map (·.1)).Nodup
theorem TbN.ok {ps : Ps} {tb : Tb} (h : TbN ps tb) : TbOk ps tb := ⟨h.lt, h.isIn, by
  have := nodup_lt 5 (tb.map (·.1)) h.nd fun x hx => by
    obtain ⟨e, he, rfl⟩ := List.mem_map.mp hx
    exact h.lt e he
  rw [List.length_map] at this; omega⟩
theorem TbN.store {ps : Ps} {tb : Tb} (h : TbN ps tb) {e : Nat × Nat} (h1 : e.1 < 5) (h2 : Mine.isIn (pOf ps e.1) e.2 = true) : TbN ps (Mine.store tb e) := by
  refine ⟨fun x hx => (List.mem_append.mp hx).elim (fun q => h.lt x (List.mem_filter.mp q).1) fun q => by rw [List.mem_singleton.mp q]; exact h1,
    fun x hx => (List.mem_append.mp hx).elim (fun q => h.isIn x (List.mem_filter.mp q).1) fun q => by rw [List.mem_singleton.mp q]; exact h2, ?_⟩
  unfold Mine.store
  rw [List.map_append, List.nodup_append]
  refine ⟨h.nd.sublist ((List.filter_sublist).map _), by simp, fun a ha b hb e' => ?_⟩
  simp only [List.map_cons, List.map_nil, List.mem_singleton] at hb
  obtain ⟨x, hx, rfl⟩ := List.mem_map.mp ha
  have := (List.mem_filter.mp hx).2
  rw [hb] at e'
  simp [e'] at this
end Mine
end

section -- PgJ1
open PySem PySem.W PyProof.Rows PySem.Calls PySem.SeqAt PySem.Builtin.Str
set_option Elab.async false
set_option maxRecDepth 100000
namespace Mine
set_option linter.unusedVariables false

noncomputable def loadOf (bk : Bk) (d : Nat) : Nat := (bk.lookup d).getD 0
noncomputable def goalsOf (bk : Bk) (wy : Wy) : List (Nat × Nat) := wy.foldl (fun g x => hpush ltP g (loadOf bk x.1, x.1)) []
noncomputable def leastOf (bk : Bk) (wy : Wy) : Nat := match (goalsOf bk wy).getLast? with
  | some l => (hpop ltP (goalsOf bk wy).dropLast l).1.2
  | none => 0
noncomputable def placeTb (tb : Tb) (way : Way) : Tb := way.foldl store tb
noncomputable def wayOf (ps : Ps) (tb : Tb) (bk : Bk) (n : Nat) : Way := ((waysOf ps tb n).lookup (leastOf bk (waysOf ps tb n))).getD []
theorem ltB_step (a b : Nat × Nat) : ltB (stepD a) (stepD b) = ltP a b := by
  unfold ltB; rw [lt_step]; cases ltP a b <;> rfl
theorem step_shaped {y : Nat × Nat} (h : y.2 < 4) : SeqAt.shaped (stepD y) = true := by
  unfold SeqAt.shaped
  rw [Bool.and_eq_true]
  refine ⟨?_, rfl⟩
  show (true && ((PyData.str (dk y.2)).canLay0 && true)) = true
  rw [str_dk h]; rfl
theorem tot_step {h : List (Nat × Nat)} (hh : ∀ e ∈ h, e.2 < 4) : Tot (h.map stepD) := fun a ha => by
  obtain ⟨e, he, rfl⟩ := List.mem_map.mp ha
  refine ⟨step_shaped (hh e he), fun b hb => ?_⟩
  obtain ⟨e', _, rfl⟩ := List.mem_map.mp hb
  exact ⟨_, lt_step e e'⟩
theorem goals_ok {bk : Bk} : ∀ (wy : Wy) (g : List (Nat × Nat)), (∀ x ∈ wy, x.1 < 4) → (∀ e ∈ g, e.2 < 4) → (∀ e ∈ wy.foldl (fun g x => hpush ltP g (loadOf bk x.1, x.1)) g, e.2 < 4) ∧ (wy.foldl (fun g x => hpush ltP g (loadOf bk x.1, x.1)) g).length = g.length + wy.length
  | [], g, _, hg => ⟨hg, rfl⟩
  | x :: wy, g, hw, hg => by
    rw [List.foldl_cons]
    have h1 : ∀ e ∈ hpush ltP g (loadOf bk x.1, x.1), e.2 < 4 := fun e he => by
      rcases hpush_mem he with h | h
      · rw [h]; exact hw x List.mem_cons_self
      · exact hg e h
    obtain ⟨h2, h3⟩ := goals_ok wy _ (fun y hy => hw y (List.mem_cons_of_mem _ hy)) h1
    refine ⟨h2, ?_⟩
    rw [h3, hpush_len, List.length_cons]; omega
theorem goals_key {bk : Bk} : ∀ (wy : Wy) (g : List (Nat × Nat)), ∀ e ∈ wy.foldl (fun g x => hpush ltP g (loadOf bk x.1, x.1)) g, e ∈ g ∨ e.2 ∈ wy.map (·.1)
  | [], g, e, he => .inl he
  | x :: wy, g, e, he => by
    rw [List.foldl_cons] at he
    rcases goals_key wy _ e he with h | h
    · rcases hpush_mem h with h1 | h1
      · rw [h1]; exact .inr (by simp)
      · exact .inl h1
    · exact .inr (List.mem_cons_of_mem _ h)
theorem lookup_key {α : Type} {d : Nat} : ∀ {wy : List (Nat × α)}, d ∈ wy.map (·.1) → ∃ w, wy.lookup d = some w ∧ (d, w) ∈ wy
  | [], h => by simp at h
  | (e, c) :: r, h => by
    rw [List.lookup_cons]
    by_cases he : d = e
    · subst he; rw [beq_self_eq_true]; exact ⟨c, rfl, List.mem_cons_self⟩
    · rw [beq_eq_false_iff_ne.mpr he]
      simp only [List.map_cons, List.mem_cons] at h
      obtain ⟨w, h1, h2⟩ := lookup_key (h.resolve_left he)
      exact ⟨w, h1, List.mem_cons_of_mem _ h2⟩
theorem bk_get (bk : Bk) (d : Nat) : ((bkL bk).lookup (dk d)).getD (.int 0) = .int (loadOf bk d : Int) := by
  rw [bk_lookup]
  unfold loadOf
  cases bk.lookup d <;> rfl

theorem place_N {ps : Ps} (hps : PsOk ps) {n : Nat} (hn : n < ps.length) : ∀ (way : Way) (tb : Tb), TbN ps tb → (∀ y ∈ way, SOk ps n y) → TbN ps (placeTb tb way)
  | [], tb, ht, _ => ht
  | y :: way, tb, ht, hw => by
    unfold placeTb
    rw [List.foldl_cons]
    have h1 := hw y List.mem_cons_self
    have hl := hps.len
    exact place_N hps hn way _ (ht.store (by have := h1.1; omega) h1.2) fun z hz => hw z (List.mem_cons_of_mem _ hz)
theorem place_succ {tb : Tb} {way : Way} {j : Nat} {y : Nat × Nat} (h : way[j]? = some y) : placeTb tb (way.take (j + 1)) = store (placeTb tb (way.take j)) y := by
  unfold placeTb
  rw [List.take_succ, h]
  simp [List.foldl_append]

noncomputable abbrev plL (i J : Nat) (ps : Ps) (bk : Bk) (n : Nat) (wy : Wy) : Loc := [("table", tabA i), ("pairs", .dat (psL ps)), ("book", .dat (sd (bkL bk))), ("newest", .int (n : Int)), ("ways", .dat (sd (wyL wy))), ("goals", .mr J)]
noncomputable abbrev pmL (i : Nat) (ps : Ps) (bk : Bk) (least : Nat) : Loc := [("table", tabA i), ("pairs", .dat (psL ps)), ("book", .dat (sd (bkL bk))), ("least", .str (dk least))]
theorem place_spec {X : Wd} (ok : Ok X) {k : Nat} {σ : List MO} {Q : AV → List MO → Prop} {i n : Nat} {ps : Ps} {tb : Tb} {bk : Bk} (hps : PsOk ps) (ht : TbN ps tb) (hb : BkOk bk) (hn : n < ps.length) (hcov : ∀ j < n, ∃ o, othT ps tb j = some o) (hσ : σ[i]? = some (.lst (tabL ps tb)))
    (h : Q (.dat (sd (bkL (bump bk (leastOf bk (waysOf ps tb n)))))) (σ.set i (.lst (tabL ps (placeTb tb (wayOf ps tb bk n)))))) : fwp X (k + 5) (.ref 264) [tabA i, .dat (psL ps), .dat (sd (bkL bk)), .int (n : Int)] [] [] Q σ := by
  have hiσ : i < σ.length := (List.getElem?_eq_some_iff.mp hσ).1
  have hn5 : n < 5 := Nat.lt_of_lt_of_le hn hps.len
  obtain ⟨⟨_, hwx, hwn⟩, hwne⟩ := ways_P hps (tb := tb) (n := n)
  unfold wayOf at h
  generalize hwy : waysOf ps tb n = wy at h hwx hwn hwne
  refine fwp_cut (fwp_fn4 [] (ok.at rfl) rfl rfl (by rw [ok.K]; rfl) ?_)
  refine xwp_cons (swp_Assign_Name (.inl rfl) (ewp_Call (ewp_global rfl (ok.mg rfl) ⟨_, rfl, ok.kp rfl, asp_cons (ewp_name rfl (asp_cons (ewp_name rfl (asp_cons (ewp_name rfl ?_)))))⟩)))
  refine asp_nil (ksp_nil (ways_spec ok hps ht.ok hn hcov hσ ?_))
  rw [hwy]
  refine xwp_cons (swp_Assign_Name (.inl rfl) (ewp_ListM (asp_nil ⟨[], rfl, by simp, ?_⟩)))
  have hwlen : wy.length ≤ 4 := by
    have := nodup_lt 4 (wy.map (·.1)) hwn fun x hx => by
      obtain ⟨e, he, rfl⟩ := List.mem_map.mp hx
      exact (hwx e he).1
    simpa using this
  have hgo : ∀ j, (∀ e ∈ goalsOf bk (wy.take j), e.2 < 4) ∧ (goalsOf bk (wy.take j)).length = (wy.take j).length := fun j => by
    have := goals_ok (bk := bk) (wy.take j) [] (fun x hx => (hwx x (List.mem_of_mem_take hx)).1) (fun e he => by cases he)
    simpa [goalsOf] using this
  refine xwp_cons (swp.mono (swp_ForI (Q := fun fl l' σ' => fl = .next ∧ Subs (plL i σ.length ps bk n wy) l' ∧ σ' = σ ++ [MO.lst ((goalsOf bk wy).map stepD)]) (ewp_name rfl ⟨_, _, isrc_dict,
    fun j loc σ' => loc = plL i σ.length ps bk n wy ∧ σ' = σ ++ [MO.lst ((goalsOf bk (wy.take j)).map stepD)], ⟨plL i σ.length ps bk n wy, ⟨rfl, rfl, rfl, rfl, rfl, rfl, trivial⟩, rfl, rfl⟩, ?_, ?_⟩)) ?_)
  · rintro j x loc σ' hx ⟨rfl, rfl⟩
    refine ⟨trivial, ?_⟩
    simp only [List.getElem?_map, Option.map_map] at hx
    obtain ⟨e, hj, rfl⟩ := Option.map_eq_some_iff.mp hx
    have hem := List.mem_of_getElem? hj
    have htk : wy.take (j + 1) = wy.take j ++ [e] := by rw [List.take_succ, hj]; rfl
    obtain ⟨hg1, hg2⟩ := hgo j
    have hgs : (σ ++ [MO.lst ((goalsOf bk (wy.take j)).map stepD)])[σ.length]? = some (.lst ((goalsOf bk (wy.take j)).map stepD)) := end1
    refine agn_Name (.inl rfl) (xwp_gen fun Q1 hQ1 => ?_)
    refine xwp_cons (swp_Expr (ewp_Call (ewp_global rfl (ok.mg rfl) ⟨_, rfl, ok.kp rfl, asp_cons (ewp_name rfl (asp_cons (ewp_Tuple ?_)))⟩)))
    refine asp_cons (ewp_Meth (ewp_name rfl ⟨_, mth_builtin .dict PySem.F.plainAttrs_dict PySem.F.slot_dict_get PySem.F.type_dict_get, Kp.builtin, asp_cons (ewp_name rfl (asp_cons (ewp_int (asp_nil (ksp_nil (f_get_sd ?_))))))⟩))
    rw [bk_get]
    refine asp_cons (ewp_name rfl (asp_nil ⟨[.int (loadOf bk e.1 : Int), .str (dk e.1)], rfl, by simp, ?_⟩))
    refine asp_nil (ksp_nil (heappush_spec ok hgs (by simp; have := hg2; rw [List.length_take] at this; omega) (tot_step (h := (loadOf bk e.1, e.1) :: goalsOf bk (wy.take j)) fun y hy => ?_) ?_))
    · rcases List.mem_cons.mp hy with h1 | h1
      · rw [h1]; exact (hwx e hem).1
      · exact hg1 y h1
    · have hpm := hpush_map (f := stepD) ltB_step (goalsOf bk (wy.take j)) (loadOf bk e.1, e.1)
      refine xwp_nil (hQ1 .next _ _ ⟨plL i σ.length ps bk n wy, ⟨rfl, rfl, rfl, rfl, rfl, rfl, trivial⟩, rfl, ?_⟩)
      have e2 : goalsOf bk (wy.take (j + 1)) = hpush ltP (goalsOf bk (wy.take j)) (loadOf bk e.1, e.1) := by
        rw [htk]; unfold goalsOf; rw [List.foldl_append]; rfl
      rw [e2, ← hpm]
      simp
  · rintro loc σ' ⟨rfl, rfl⟩
    refine ⟨trivial, rfl, ⟨rfl, rfl, rfl, rfl, rfl, rfl, trivial⟩, ?_⟩
    rw [List.take_of_length_le (by simp)]
  · rintro fl l' σ' ⟨rfl, hs, rfl⟩
    refine xwp.sub ?_ hs
    have hg : (∀ e ∈ goalsOf bk wy, e.2 < 4) ∧ (goalsOf bk wy).length = wy.length := by
      have := hgo wy.length
      rwa [List.take_length] at this
    cases hgl : (goalsOf bk wy).getLast? with
    | none =>
      have e0 := List.getLast?_eq_none_iff.mp hgl
      rw [e0] at hg
      exact absurd (List.length_eq_zero_iff.mp hg.2.symm) hwne
    | some l =>
    obtain ⟨r, hr⟩ := List.getLast?_eq_some_iff.mp hgl
    have hle : leastOf bk wy = (hpop ltP r l).1.2 := by unfold leastOf; rw [hgl, hr]; simp
    obtain ⟨hm1, hm2, hm3⟩ := hpop_mem (lt := ltP) (r := r) (l := l)
    have hmem : ∀ e ∈ l :: r, e ∈ goalsOf bk wy := fun e h1 => by
      rw [hr]
      rcases List.mem_cons.mp h1 with h2 | h2
      · rw [h2]; simp
      · exact List.mem_append_left _ h2
    have hpm : hpop ltB (r.map stepD) (stepD l) = (stepD (hpop ltP r l).1, (hpop ltP r l).2.map stepD) := hpop_map (f := stepD) ltB_step r l
    have hkey : leastOf bk wy ∈ wy.map (·.1) := by
      rw [hle]
      exact (goals_key wy [] _ (hmem _ hm1)).resolve_left (by simp)
    obtain ⟨w, hw1, hw2⟩ := lookup_key hkey
    have hwS := (hwx _ hw2).2
    rw [hw1] at h
    dsimp only [Option.getD_some] at h
    have hσ2 : (σ ++ [MO.lst ((goalsOf bk wy).map stepD)])[σ.length]? = some (.lst (r.map stepD ++ [stepD l])) := by rw [hr]; simp
    have hrl : r.length < 1000 := by
      have := hg.2
      rw [hr] at this
      simp at this; omega
    refine xwp_cons (swp_Assign_Name (.inl rfl) (ewp_Sub (ewp_Call (ewp_global rfl (ok.mg rfl) ⟨_, rfl, ok.kp rfl, asp_cons (ewp_name rfl (asp_nil (ksp_nil (heappop_spec ok hσ2 (by simp; omega) (tot_step (h := l :: r) fun e h1 => hg.1 e (hmem e h1)) ?_))))⟩))))
    rw [hpm]
    refine ewp_int ⟨"tuple", .tuple, v2_get_tuple (i := 1) (d := .str (dk (hpop ltP r l).1.2)) rfl (by decide) ?_⟩
    rw [← hle]
    generalize leastOf bk wy = least at h hw1
    have hset : ∃ o, (σ ++ [MO.lst ((goalsOf bk wy).map stepD)]).set σ.length (MO.lst ((hpop ltP r l).2.map stepD)) = σ.set i (.lst (tabL ps (placeTb tb (w.take 0)))) ++ [o] :=
      ⟨MO.lst ((hpop ltP r l).2.map stepD), by rw [show placeTb tb (w.take 0) = tb from rfl, set_same hσ]; simp⟩
    obtain ⟨o0, hset⟩ := hset
    rw [hset]
    refine xwp_cons (swp.mono (swp_ForI (Q := fun fl l' σ' => fl = .next ∧ Subs (pmL i ps bk least) l' ∧ ∃ o, σ' = σ.set i (.lst (tabL ps (placeTb tb w))) ++ [o]) (ewp_Sub (ewp_name rfl (ewp_name rfl ⟨"dict", .dict, v2_get_sd (d := wayD w) (by rw [wy_lookup, hw1]; rfl) ⟨_, _, isrc_tuple,
      fun j loc σ' => loc = pmL i ps bk least ∧ ∃ o, σ' = σ.set i (.lst (tabL ps (placeTb tb (w.take j)))) ++ [o], ⟨pmL i ps bk least, ⟨rfl, rfl, rfl, rfl, trivial⟩, rfl, o0, rfl⟩, ?_, ?_⟩⟩))) ) ?_)
    · rintro j x loc σ' hx ⟨rfl, o, rfl⟩
      refine ⟨trivial, ?_⟩
      simp only [List.getElem?_map, Option.map_map] at hx
      obtain ⟨y, hj, rfl⟩ := Option.map_eq_some_iff.mp hx
      obtain ⟨hy1, hy2⟩ := hwS y (List.mem_of_getElem? hj)
      obtain ⟨q, d⟩ := y
      dsimp only at hy1 hy2
      have hN := place_N hps hn (w.take j) tb ht fun z hz => hwS z (List.mem_of_mem_take hz)
      have hd4 := isIn_lt (pOf_lt hps q) hy2
      obtain ⟨_, _, r3, r4⟩ := tab_repl ⟨_, pOf_lt hps q⟩ ⟨d, hd4⟩ hy2
      have hq : q < ps.length := by omega
      have hσt : (σ.set i (MO.lst (tabL ps (placeTb tb (w.take j)))) ++ [o])[i]? = some (.lst (tabL ps (placeTb tb (w.take j)))) := by
        rw [List.getElem?_append_left (by simpa using hiσ)]; exact List.getElem?_set_self hiσ
      refine agn_Tuple (fun _ => rfl) rfl (agn_Name (.inl rfl) (agn_Name (.inl rfl) (xwp_gen fun Q2 hQ2 => ?_)))
      refine xwp_cons (swp_Assign_Sub (ewp_Replace (ewp_Sub (ewp_name rfl (ewp_name rfl ⟨"list", .list, v2_get_list (ps_at hq) (fit5 (Nat.lt_of_le_of_lt hy1 hn5)) ⟨_, rfl, ewp_name rfl ⟨_, rfl, ewpF_str ?_⟩⟩⟩)))))
      refine ⟨(tab_upper ⟨d, hd4⟩).2.2, r3, ?_, ?_⟩
      · rw [show Str.ofString "" = Str.empty from rfl, r4]; show 1 ≤ 1000; decide
      · rw [show Str.ofString "" = Str.empty from rfl, r4]
        refine ewp_name rfl ?_
        refine ewp_Call (ewp_global rfl (ok.mg rfl) ⟨_, rfl, ok.kp rfl, asp_cons (ewp_Sub (ewp_name rfl (ewp_name rfl ⟨"list", .list, v2_get_list (ps_at hq) (fit5 (Nat.lt_of_le_of_lt hy1 hn5)) ?_⟩)))⟩)
        refine asp_cons (ewp_name rfl (asp_cons (ewp_name rfl (asp_nil (ksp_nil (spelled_spec ok (pOf_lt hps q) (by omega) hy2 ?_))))))
        refine v3_own (f := 84) (by rw [ok.K]; rfl) (by rw [ok.K]; rfl) (by rw [ok.K]; rfl) (set_spec ok hps hN.ok (by omega) hy2 hσt ?_)
        refine xwp_nil (hQ2 .next _ _ ⟨pmL i ps bk least, ⟨rfl, rfl, rfl, rfl, trivial⟩, rfl, o, ?_⟩)
        rw [place_succ hj, List.set_append_left _ _ (by simpa using hiσ), List.set_set]
        rfl
    · rintro loc σ' ⟨rfl, o, rfl⟩
      refine ⟨trivial, rfl, ⟨rfl, rfl, rfl, rfl, trivial⟩, o, ?_⟩
      rw [List.take_of_length_le (by simp)]
    · rintro fl l' σ' ⟨rfl, hs2, o, rfl⟩
      refine xwp.sub ?_ hs2
      refine xwp_cons (swp_Return (ewp_Call (ewp_global rfl (ok.mg rfl) ⟨_, rfl, ok.kp rfl, asp_cons (ewp_name rfl (asp_cons (ewp_Dict1 (ewp_name rfl ⟨_, rfl, ewp_int ⟨_, rfl, asp_nil (ksp_nil (add_spec ok hb ?_))⟩⟩))))⟩)))
      refine ⟨_, rfl, ?_⟩
      rw [List.take_append_of_le_length (by simp), List.take_of_length_le (by simp)]
      exact h
end Mine
end

section -- PgK1
open PySem PySem.W PyProof.Rows PySem.Calls PySem.SeqAt
set_option Elab.async false
namespace Mine
set_option autoImplicit false
set_option maxRecDepth 20000
set_option linter.unusedVariables false

noncomputable abbrev two (elt t1 i1 t2 i2 : Expr) (scope : Scope) (pos : Pos) : Expr := .ListComp elt [⟨t1, i1, [], 0⟩, ⟨t2, i2, [], 0⟩] scope pos
theorem turn_outer (elt t1 i1 t2 i2 : Expr) (scope : Scope) (pos : Pos) (it acc : Value) (env : Env) :
    compTurn (two elt t1 i1 t2 i2 scope pos) 0 it acc env = (standAt i1.pos >>= fun _ => pyNext it >>= fun r => match r with
      | none => pure (.done .next)
      | some v => letOwnedTupleGo t1 it v >>= fun _ => assign t1 env v >>= fun _ =>
        eval i2 env >>= fun x => standAt i2.pos >>= fun _ => foldedSetIterable i2 env x >>= fun x => holding [x] (pyIter x) >>= fun it2 => runOwn (.compStart (two elt t1 i1 t2 i2 scope pos) 1 it2 acc env) env >>= fun _ =>
          again (.compLoop (two elt t1 i1 t2 i2 scope pos) 0 it acc env)) := by rfl
theorem turn_inner (elt t1 i1 t2 i2 : Expr) (scope : Scope) (pos : Pos) (it acc : Value) (env : Env) :
    compTurn (two elt t1 i1 t2 i2 scope pos) 1 it acc env = (standAt i2.pos >>= fun _ => pyNext it >>= fun r => match r with
      | none => pure (.done .next)
      | some v => letOwnedTupleGo t2 it v >>= fun _ => assign t2 env v >>= fun _ =>
        (eval elt env >>= fun x => call (.builtin "list.append") [acc, x] >>= fun _ => pure ()) >>= fun _ =>
          again (.compLoop (two elt t1 i1 t2 i2 scope pos) 1 it acc env)) := by rfl

section
variable {prog : Program} {w : World} {A : Around} {R : Result → Shared → Prop} {s : Shared} {elt t1 i1 t2 i2 : Expr} {scope : Scope} {pos : Pos} {it acc : Value} {env : Env}
theorem loop_inner (I : Nat → Shared → Prop)
    (turn : ∀ n s, I n s → wpAny (model prog w) A (pyNext it) (fun r s₁ => match r with
      | none => R (.ok .next) s₁
      | some v => wpAny (model prog w) A (assign t2 env v) (fun _ s₂ => wpAny (model prog w) A (eval elt env) (fun x s₃ => wpAny (model prog w) A (call (.builtin "list.append") [acc, x]) (fun _ s₄ => ∃ m, m < n ∧ I m s₄) nof s₃) nof s₂) nof s₁) nof s)
    (n : Nat) (h : I n s) (ht : ∀ v, letOwnedTupleGo t2 it v = pure () := by intro _; rfl) : codeAny (model prog w) A (.compLoop (two elt t1 i1 t2 i2 scope pos) 1 it acc env) R s := by
  refine codeAny_loop rfl I (fun n s hI => ?_) n h
  show wpAny _ A ((compTurn (two elt t1 i1 t2 i2 scope pos) 1 it acc env).onRaise (fun x => do noteFrame x env; theTreesLotGoes x)) _ _ s
  refine wpAny_noted ?_
  rw [turn_inner]
  refine wpAny_bind (wpAny_standAt (wpAny_bind (wpAny_mono (turn n s hI) (fun r s₁ h₁ => ?_) fun _ _ h' => h'.elim)))
  cases r with
  | none => exact wpAny_pure h₁
  | some v =>
    refine wpAny_bind (wpAny_of_eq (ht v) ?_)
    exact wpAny_bind (wpAny_mono h₁ (fun _ s₂ h₂ => wpAny_bind (wpAny_bind (wpAny_mono h₂ (fun x s₃ h₃ => wpAny_bind (wpAny_mono h₃ (fun _ s₄ h₄ => wpAny_pure (wpAny_pure ⟨rfl, h₄⟩)) fun _ _ h' => h'.elim)) fun _ _ h' => h'.elim))) fun _ _ h' => h'.elim)
theorem loop_outer (I : Nat → Shared → Prop)
    (turn : ∀ n s, I n s → wpAny (model prog w) A (pyNext it) (fun r s₁ => match r with
      | none => R (.ok .next) s₁
      | some v => wpAny (model prog w) A (assign t1 env v) (fun _ s₂ => wpAny (model prog w) A (eval i2 env) (fun x s₃ => wpAny (model prog w) A (pyIter x) (fun it2 s₄ =>
          codeAny (model prog w) A (.compStart (two elt t1 i1 t2 i2 scope pos) 1 it2 acc env) (fun r s₅ => r = .ok .next ∧ ∃ m, m < n ∧ I m s₅) s₄) nof s₃) nof s₂) nof s₁) nof s)
    (n : Nat) (h : I n s) (ht : ∀ v, letOwnedTupleGo t1 it v = pure () := by intro _; rfl) (hs : ∀ x, foldedSetIterable i2 env x = pure x := by intro _; rfl) : codeAny (model prog w) A (.compLoop (two elt t1 i1 t2 i2 scope pos) 0 it acc env) R s := by
  refine codeAny_loop rfl I (fun n s hI => ?_) n h
  show wpAny _ A ((compTurn (two elt t1 i1 t2 i2 scope pos) 0 it acc env).onRaise (fun x => do noteFrame x env; theTreesLotGoes x)) _ _ s
  refine wpAny_noted ?_
  rw [turn_outer]
  refine wpAny_bind (wpAny_standAt (wpAny_bind (wpAny_mono (turn n s hI) (fun r s₁ h₁ => ?_) fun _ _ h' => h'.elim)))
  cases r with
  | none => exact wpAny_pure h₁
  | some v =>
    refine wpAny_bind (wpAny_of_eq (ht v) ?_)
    refine wpAny_bind (wpAny_mono h₁ (fun _ s₂ h₂ => wpAny_bind (wpAny_mono h₂ (fun x s₃ h₃ => ?_) fun _ _ h' => h'.elim)) fun _ _ h' => h'.elim)
    refine wpAny_bind (wpAny_standAt (wpAny_bind (wpAny_of_eq (hs x) (wpAny_bind (wpAny_holding (wpAny_mono h₃ (fun it2 s₄ h₄ => ?_) fun _ _ h' => h'.elim))))))
    refine wpAny_bind (wpAny_runOwn (codeAny_mono h₄ fun r s₅ h₅ => ?_))
    obtain ⟨rfl, h₅⟩ := h₅
    exact wpAny_pure ⟨rfl, h₅⟩
theorem start_inner (h0 : codeAny (model prog w) A (.compLoop (two elt t1 i1 t2 i2 scope pos) 1 it acc env) R s)
    (h : wpAny (model prog w) A (pyIter it) (fun it' s' => codeAny (model prog w) A (.compLoop (two elt t1 i1 t2 i2 scope pos) 1 it' acc env) R s') nof s) :
    codeAny (model prog w) A (.compStart (two elt t1 i1 t2 i2 scope pos) 1 it acc env) R s := by
  refine codeAny_of_tree ?_
  show wpAny _ _ ((compStart (two elt t1 i1 t2 i2 scope pos) 1 it acc env).onRaise (fun x => do noteFrame x env; standAt theWindowsPlace)) _ _ s
  refine wpAny_notedAt ?_
  unfold compStart
  show wpAny _ _ (ask >>= _) _ _ s
  refine wpAny_bind (wpAny_askSetting (wpAny_ite ?_))
  split
  · exact wpAny_bind (wpAny_pure (wpAny_pure ⟨rfl, h0⟩))
  · refine wpAny_bind (wpAny_rule ?_)
    show wpAny _ _ (standAt i2.pos >>= _) _ _ s
    exact wpAny_bind (wpAny_standAt (wpAny_bind (wpAny_mono h (fun it' s' h' => wpAny_pure ⟨rfl, h'⟩) fun _ _ x => x.elim)))
end
end Mine
end

section -- PgL1
open PySem PySem.W PyProof.Rows PySem.Calls
set_option Elab.async false
namespace Mine
set_option autoImplicit false
set_option linter.unusedVariables false
end Mine
end

section -- PgM1
open PySem PySem.W PyProof.Rows PySem.Calls
set_option Elab.async false
namespace Mine
set_option autoImplicit false
set_option linter.unusedVariables false
section
variable (X : Wd)
noncomputable def cpV (c : Cx) (k : Nat) (t elt : Expr) (src : List MO → Prop) (Q : List PyData → Loc → List MO → Prop) : List AV → List PyData → Loc → List MO → Prop
  | [], acc, loc, σ => src σ ∧ Q acc loc σ
  | x :: r, acc, loc, σ => src σ ∧ agn X c k t x (fun l1 σ1 => ewp X c k elt (fun v σ3 => ∃ d l', v = .dat d ∧ Subs l' l1 ∧ acc.length < 1000 ∧ cpV c k t elt src Q r (acc ++ [d]) l' σ3) l1 σ1) loc σ
noncomputable def cpO (c : Cx) (k : Nat) (t1 i2 t2 elt : Expr) (src : List MO → Prop) (Q : List PyData → List MO → Prop) : List AV → List PyData → Loc → List MO → Prop
  | [], acc, loc, σ => src σ ∧ Q acc σ
  | x :: r, acc, loc, σ => src σ ∧ agn X c k t1 x (fun l1 σ1 => ewp X c k i2 (fun a2 σ2 => ∃ xs2 src2, isrc X k t2 a2 xs2 src2 σ2 ∧ cpV X c k t2 elt src2 (fun acc' l' σ' => ∃ l'', Subs l'' l' ∧ cpO c k t1 i2 t2 elt src Q r acc' l'' σ') xs2 acc l1 σ2) l1 σ1) loc σ
end
section
variable {X : Wd} {c : Cx} {k : Nat} {loc : Loc} {σ : List MO}
inductive InnI (X : Wd) (c : Cx) (cenv : Env) (W' : List Nat) (I D : Nat) (It : Nat → Heap → Prop) (len : Nat) (P : Nat → List PyData → Loc → List MO → Prop) (F : Fz) (m : List Nat) (F0 : Fz) (m0 : List Nat) (s0 : Shared) (n : Nat) (s1 : Shared) : Prop
  | mk (i : Nat) (F1 : Fz) (m1 : List Nat) (loc1 : Loc) (σ1 : List MO) (acc : List PyData) (vs : List Value) (nn : Nat) : n = len - i → i ≤ len → (∀ b o, F b o → F1 b o) → m <+: m1 → XGo X (I :: D :: W') F0 m0 s0 F1 m1 σ1 s1 → En X.prog X.w c cenv W' loc1 F1 m1 s1.heap → Own X cenv W' I F1 m1 → Own X cenv W' D F1 m1 →
      It i s1.heap → s1.heap.get? D = some (lstObj vs nn) → RdAll X.prog X.w F1 acc vs → P i acc loc1 σ1 → InnI X c cenv W' I D It len P F m F0 m0 s0 n s1
theorem inner_ok {elt t1 i1 t2 i2 : Expr} {scope : Scope} {pos : Pos} {A : Around} {cenv : Env} {W' : List Nat} {I D : Nat} {It : Nat → Heap → Prop} {Mid : Nat → Value → Heap → Prop} {xs : List AV} {src : List MO → Prop} {F F0 : Fz} {m m0 : List Nat} {s s0 : Shared} {vs : List Value} {nn : Nat}
    {acc : List PyData} {Q : List PyData → Loc → List MO → Prop} {RR : Result → Shared → Prop} (R : Room A k) (H : Src X A t2 I xs src m F It Mid) (g0 : XGo X (I :: D :: W') F0 m0 s0 F m σ s) (hI0 : s0.heap.get? I = none) (E : En X.prog X.w c cenv W' loc F m s.heap) (OI : Own X cenv W' I F m) (OD : Own X cenv W' D F m) (hid : I ≠ D)
    (hit : It 0 s.heap) (hD : s.heap.get? D = some (lstObj vs nn)) (hacc : RdAll X.prog X.w F acc vs) (h : cpV X c k t2 elt src Q xs acc loc σ) (ht : ∀ it v, letOwnedTupleGo t2 it v = pure ())
    (q : ∀ F' m' σ' loc' acc' vs' nn' s', XGo X (I :: D :: W') F0 m0 s0 F' m' σ' s' → En X.prog X.w c cenv W' loc' F' m' s'.heap → s'.heap.get? D = some (lstObj vs' nn') → RdAll X.prog X.w F' acc' vs' → Q acc' loc' σ' → RR (.ok .next) s') :
    codeAny (model X.prog X.w) A (.compLoop (two elt t1 i1 t2 i2 scope pos) 1 (.ref I) (.ref D) cenv) RR s := by
  refine loop_inner (InnI X c cenv W' I D It xs.length (fun i acc loc1 σ1 => cpV X c k t2 elt src Q (xs.drop i) acc loc1 σ1) F m F0 m0 s0) ?_
      xs.length ⟨0, F, m, _, σ, acc, vs, nn, rfl, Nat.zero_le _, fun _ _ h => h, List.prefix_refl _, g0, E, OI, OD, hit, hD, hacc, h⟩ (ht (.ref I))
  rintro n s5 ⟨i, F1, m1, loc1, σ1, acc, vs, nn, rfl, hi, hF1, hm1, g1, E1, O1, P1, hit1, hD1, hacc, h1⟩
  have wid : ∀ b ∈ [I], b ∈ I :: D :: W' := fun b hb => by rw [List.mem_singleton.mp hb]; exact List.mem_cons_self
  have widD : ∀ b ∈ [D], b ∈ I :: D :: W' := fun b hb => by rw [List.mem_singleton.mp hb]; exact List.mem_cons_of_mem _ List.mem_cons_self
  have widW : ∀ b ∈ W', b ∈ I :: D :: W' := fun b hb => List.mem_cons_of_mem _ (List.mem_cons_of_mem _ hb)
  cases hx : xs[i]? with
  | none =>
    have hil : i = xs.length := by
      have := List.getElem?_eq_none_iff.mp hx
      omega
    subst hil
    rw [List.drop_length] at h1
    refine xafter (H.done F1 m1 σ1 s5 hit1 g1.st hF1 hm1 O1.m O1.F h1.1) fun r s6 ⟨e, hk6, hr6⟩ => ?_
    subst e
    exact q F1 m1 σ1 loc1 acc vs nn s6 (g1.endI hk6 hr6 hI0 O1.m O1.F) (E1.endI hk6 O1.W O1.cells) (hk6 D _ (fun h => hid h.symm) hD1) hacc h1.2
  | some x =>
    have hil : i < xs.length := (List.getElem?_eq_some_iff.mp hx).1
    have hd : xs.drop i = x :: xs.drop (i + 1) := by
      rw [List.drop_eq_getElem_cons hil]; congr 1; exact (List.getElem?_eq_some_iff.mp hx).2
    rw [hd] at h1
    refine xafter (H.item i F1 m1 σ1 s5 x hx hit1 g1.st hF1 hm1 O1.m O1.F h1.1) fun r s6 ⟨v, F2, e, g6, hmid6, r6⟩ => ?_
    subst e
    have hit6 := H.mid _ _ _ ht hmid6
    have E6 := E1.xgo g6 (fun b hb h => O1.W (by rw [← List.mem_singleton.mp h]; exact hb)) fun x b hb h => O1.cells x b hb (List.mem_singleton.mp h)
    have O6 := O1.x g6 (H.obj _ _ hit1)
    have P6 := P1.x g6 (ne_none hD1)
    have hD6 := g6.keep D _ P1.m (fun h => hid (List.mem_singleton.mp h).symm) hD1
    refine xafter (h1.2 A cenv W' F2 m1 s6 v R g6.st E6 r6) fun _ s7 ⟨F7, m7, l7, σ7, g7, E7, q7⟩ => ?_
    have O7 := O6.x g7 (H.obj _ _ hit6)
    have P7 := P6.x g7 (ne_none hD6)
    have hit7 := H.frame _ _ _ hit6 (g7.keepI O6.m O6.W)
    have hD7 := g7.keepI P6.m P6.W _ hD6
    have G7 : XGo X (I :: D :: W') F0 m0 s0 F7 m7 σ7 s7 := (g1.trans (g6.widen wid)).trans (g7.widen widW)
    refine ewp.use q7 R g7.st E7 fun F9 m9 y σ9 w9 s9 g9 r9 q9 E9 => ?_
    obtain ⟨d, l', e, hs, hlen, q9⟩ := q9
    subst e
    have hacc9 : RdAll X.prog X.w F9 acc vs := ((hacc.mono g6.fsub).mono g7.fsub).mono g9.fsub
    have O9 := O7.x (g9.toX (W := [])) (H.obj _ _ hit7)
    have P9 := P7.x (g9.toX (W := [])) (ne_none hD7)
    have hit9 := H.frame _ _ _ hit7 ((g9.toX (W := [])).keepI O7.m (by simp))
    have hD9 := g9.keep D _ P7.m hD7
    have hvl : vs.length ≤ 1000 := by rw [← hacc.length]; omega
    refine wpAny_list_append_plain (items := vs.toArray) ⟨nn, hD9⟩ (fun h10 hp10 hs10 => ?_) (by rw [sizeLine_eq, List.size_toArray]; omega)
    obtain ⟨n10, hD10⟩ := hp10
    have hD10' : h10.get? D = some (lstObj (vs ++ [w9]) n10) := by rw [hD10]; simp [lstObj]
    have g10 : XGo X [D] F9 m9 s9 F9 m9 σ9 { s9 with heap := h10 } := XGo.own1 (tk := s9.toks) g9.st P9.m P9.F hs10 (ne_none hD10)
    have E10 := E9.xgo g10 (fun b hb h => P9.W (by rw [← List.mem_singleton.mp h]; exact hb)) fun x b hb h => P9.cells x b hb (List.mem_singleton.mp h)
    have O10 := O9.x g10 (H.obj _ _ hit9)
    have P10 := P9.x g10 (ne_none hD9)
    have hit10 := H.frame _ _ _ hit9 (g10.keepI O9.m fun h => hid (List.mem_singleton.mp h))
    exact ⟨xs.length - (i + 1), by omega, i + 1, F9, m9, l', σ9, acc ++ [d], vs ++ [w9], n10, rfl, by omega, fun b o h => g9.fsub b o (g7.fsub b o (g6.fsub b o (hF1 b o h))), ((hm1.trans g6.mpre).trans g7.mpre).trans g9.mpre, (G7.trans g9.toX).trans (g10.widen widD), E10.sub hs, O10, P10, hit10, hD10', hacc9.append (.cons r9 .nil), q9⟩
end
end Mine
end

section -- PgN1
open PySem PySem.W PyProof.Rows PySem.Calls
set_option Elab.async false
namespace Mine
set_option autoImplicit false
set_option linter.unusedVariables false
section
variable {X : Wd} {c : Cx} {k : Nat} {loc : Loc} {σ : List MO}
theorem comp2_core {elt t1 i1 t2 i2 : Expr} {scope : Scope} {pos : Pos} {A : Around} {env : Env} {W : List Nat} {F : Fz} {m : List Nat} {s : Shared} {u : Value} {a : AV} {xs : List AV} {src : List MO → Prop} {fvs own' : List Str}
    {Q : List PyData → List MO → Prop} {RR : Value → Addr → Result → Shared → Prop}
    (R : Room A k) (S : St X.prog X.w X.h0 F m σ s) (E : En X.prog X.w c env W loc F m s.heap) (ra : VR X.prog X.w F m a u) (hi : isrc X k t1 a xs src σ) (ok : CompOk scope c loc fvs own')
    (h : cpO X ⟨relabelS scope c.sc, own'⟩ k t1 i2 t2 elt src Q xs [] (sub fvs loc) σ)
    (hRR : ∀ D C s' F' m' σ' ds vs n mp, Go X.prog X.w X.h0 F m s F' m' σ' s' → s.heap.get? D = none → s.heap.get? C = none → D ≠ C → D ∉ m' → NF F' D → C ∉ m' → NF F' C → s'.heap.get? D = some (lstObj vs n) →
      RdAll X.prog X.w F' ds vs → s'.heap.Ns C mp → Q ds σ' → RR (.ref D) C (.ok .next) s')
    (ht1 : ∀ it v, letOwnedTupleGo t1 it v = pure ()) (ht2 : ∀ it v, letOwnedTupleGo t2 it v = pure ()) (hs : ∀ env x, foldedSetIterable i2 env x = pure x) :
    wpAny (model X.prog X.w) A (pyIter u) (fun it s₂ => wpAny (model X.prog X.w) A (newList []) (fun acc s₃ =>
      wpAny (model X.prog X.w) A (newFunctionEnv scope env.globals (clOf env.cells scope.names []) [] env.qual none .none (some env)) (fun cenv s₄ =>
        codeAny (model X.prog X.w) A (.compStart (two elt t1 i1 t2 i2 scope pos) 0 it acc { cenv with scope := relabel scope env }) (RR acc cenv.locals) s₄) nof s₃) nof s₂) nof s := by
  refine comp_env R S E ra hi ok.free ok.kind ok.nd ok.fv ok.own ?_
  intro I It Mid D C cenv W' s4 H gs4 EC OI OD hid hit4 hD4 hWfresh hCW hcl
  have loop : codeAny (model X.prog X.w) A (.compLoop (two elt t1 i1 t2 i2 scope pos) 0 (.ref I) (.ref D) cenv) (RR (.ref D) C) s4 := by
    refine loop_outer (CoreI X ⟨relabelS scope c.sc, own'⟩ cenv W' I D It xs.length (fun i acc loc1 σ1 => cpO X ⟨relabelS scope c.sc, own'⟩ k t1 i2 t2 elt src Q (xs.drop i) acc loc1 σ1) F m s4) ?_
      xs.length ⟨0, F, m, _, σ, [], [], 0, rfl, Nat.zero_le _, XGo.refl gs4.st, EC, OI, OD, hit4, hD4, .nil, h⟩ (ht1 (.ref I)) (hs cenv)
    rintro n s5 ⟨i, F1, m1, loc1, σ1, acc, vs, nn, rfl, hi, g1, E1, O1, P1, hit1, hD1, hacc, h1⟩
    have hF1 : ∀ b o, F b o → F1 b o := g1.fsub
    have hm1 : m <+: m1 := g1.mpre
    have wid : ∀ b ∈ [I], b ∈ I :: D :: W' := fun b hb => by rw [List.mem_singleton.mp hb]; exact List.mem_cons_self
    have widW : ∀ b ∈ W', b ∈ I :: D :: W' := fun b hb => List.mem_cons_of_mem _ (List.mem_cons_of_mem _ hb)
    cases hx : xs[i]? with
    | none =>
      have hil : i = xs.length := by
        have := List.getElem?_eq_none_iff.mp hx
        omega
      subst hil
      rw [List.drop_length] at h1
      refine xafter (H.done F1 m1 σ1 s5 hit1 g1.st hF1 hm1 O1.m O1.F h1.1) fun r s6 ⟨e, hk6, hr6⟩ => ?_
      subst e
      have E6 := E1.endI hk6 O1.W O1.cells
      have hD6 := hk6 D _ (fun h => hid h.symm) hD1
      obtain ⟨mp, hn6, _⟩ := E6.ns
      rw [hcl] at hn6
      have hp := E6.priv C hCW
      have hI : s.heap.get? I = none := hWfresh I List.mem_cons_self
      have hDn : s.heap.get? D = none := hWfresh D (List.mem_cons_of_mem _ List.mem_cons_self)
      have hDC : D ≠ C := fun e => OD.W (e ▸ hCW)
      exact hRR D C s6 F1 m1 σ1 acc vs nn mp (((gs4.toX.trans g1).endI hk6 hr6 hI O1.m O1.F).close hWfresh) hDn (hWfresh C (widW C hCW)) hDC P1.m P1.F hp.1 hp.2.1 hD6 hacc hn6 h1.2
    | some x =>
      have hil : i < xs.length := (List.getElem?_eq_some_iff.mp hx).1
      have hd : xs.drop i = x :: xs.drop (i + 1) := by
        rw [List.drop_eq_getElem_cons hil]; congr 1; exact (List.getElem?_eq_some_iff.mp hx).2
      rw [hd] at h1
      refine xafter (H.item i F1 m1 σ1 s5 x hx hit1 g1.st hF1 hm1 O1.m O1.F h1.1) fun r s6 ⟨v, F2, e, g6, hmid6, r6⟩ => ?_
      subst e
      have hit6 := H.mid _ _ _ ht1 hmid6
      have E6 := E1.xgo g6 (fun b hb h => O1.W (by rw [← List.mem_singleton.mp h]; exact hb)) fun x b hb h => O1.cells x b hb (List.mem_singleton.mp h)
      have O6 := O1.x g6 (H.obj _ _ hit1)
      have P6 := P1.x g6 (ne_none hD1)
      have hD6 := g6.keep D _ P1.m (fun h => hid (List.mem_singleton.mp h).symm) hD1
      refine xafter (h1.2 A cenv W' F2 m1 s6 v R g6.st E6 r6) fun _ s7 ⟨F7, m7, l7, σ7, g7, E7, q7⟩ => ?_
      have O7 := O6.x g7 (H.obj _ _ hit6)
      have P7 := P6.x g7 (ne_none hD6)
      have hit7 := H.frame _ _ _ hit6 (g7.keepI O6.m O6.W)
      have hD7 := g7.keepI P6.m P6.W _ hD6
      have G7 : XGo X (I :: D :: W') F m s4 F7 m7 σ7 s7 := (g1.trans (g6.widen wid)).trans (g7.widen widW)
      refine ewp.use q7 R g7.st E7 fun F8 m8 y σ8 w8 s8 g8 r8 q8 E8 => ?_
      obtain ⟨xs2, src2, hi2, hc2⟩ := q8
      have O8 := O7.x (g8.toX (W := [])) (H.obj _ _ hit7)
      have P8 := P7.x (g8.toX (W := [])) (ne_none hD7)
      have hit8 := H.frame _ _ _ hit7 ((g8.toX (W := [])).keepI O7.m (by simp))
      have hD8 := g8.keep D _ P7.m hD7
      have hacc8 : RdAll X.prog X.w F8 acc vs := ((hacc.mono g6.fsub).mono g7.fsub).mono g8.fsub
      refine xafter (hi2 A F8 m8 s8 w8 R g8.st r8) fun it2 s9 ⟨I2, It2, Mid2, e2, g9, hI2, hit2, H2⟩ => ?_
      subst e2
      have hII : I ≠ I2 := fun e => H.obj _ _ hit8 (e ▸ hI2)
      have hDI : D ≠ I2 := fun e => ne_none hD8 (e ▸ hI2)
      have E9 := E8.go g9
      have O2 : Own X cenv W' I2 F8 m8 := ⟨fun h => g8.st.lt I2 h hI2, fun o hf h => (by have := g8.st.fz I2 o h hf; rw [hI2] at this; cases this), fun h => (E8.priv I2 h).2.2 hI2, fun x b hb e => by
        obtain ⟨_, _, _, v0, o, ho, _⟩ := E8.cells x b hb
        rw [e, hI2] at ho; cases ho⟩
      have P9 := P8.x (g9.toX (W := [])) (ne_none hD8)
      have hD9 := g9.keep D _ P8.m hD8
      have inner : codeAny (model X.prog X.w) A (.compLoop (two elt t1 i1 t2 i2 scope pos) 1 (.ref I2) (.ref D) cenv) (fun r s₅ => r = .ok .next ∧ ∃ m', m' < xs.length - i ∧ CoreI X ⟨relabelS scope c.sc, own'⟩ cenv W' I D It xs.length (fun i acc loc1 σ1 => cpO X ⟨relabelS scope c.sc, own'⟩ k t1 i2 t2 elt src Q (xs.drop i) acc loc1 σ1) F m s4 m' s₅) s9 := by
        refine inner_ok R H2 g9.toX hI2 E9 O2 P9 (Ne.symm hDI) hit2 hD9 (hacc8.mono g9.fsub) hc2 ht2 ?_
        intro F' m' σ' loc' acc' vs' nn' s' G' E' hD' hacc' ⟨l'', hsub, hcO⟩
        have G : XGo X (I :: D :: W') F m s4 F' m' σ' s' := (G7.trans g8.toX).trans (G'.drop fun b hb => by
          rcases List.mem_cons.mp hb with e | hb
          · rw [e]; exact .inr hI2
          · exact .inl (List.mem_cons_of_mem _ hb))
        have hIW : I ∉ I2 :: D :: W' := fun h => by
          rcases List.mem_cons.mp h with e | h
          · exact hII e
          · rcases List.mem_cons.mp h with e | h
            · exact hid e
            · exact O8.W h
        exact ⟨rfl, xs.length - (i + 1), by omega, i + 1, F', m', l'', σ', acc', vs', nn', rfl, by omega, G, E'.sub hsub, O8.x G' (H.obj _ _ hit8), P8.x G' (ne_none hD8), H.frame _ _ _ hit8 (G'.keepI O8.m hIW), hD', hacc', hcO⟩
      exact start_inner inner (H2.self 0 s9 (fun it' s' => codeAny (model X.prog X.w) A (.compLoop (two elt t1 i1 t2 i2 scope pos) 1 it' (.ref D) cenv) _ s') hit2 inner)
  exact codeAny_compStart_list loop (wpAny_mono (H.self 0 s4 (fun it' s' => codeAny (model X.prog X.w) A (.compLoop (two elt t1 i1 t2 i2 scope pos) 0 it' (.ref D) cenv) (RR (.ref D) C) s') hit4 loop) (fun _ _ h => h) fun _ _ e => e.elim)
end
end Mine
end

section -- PgO1
open PySem PySem.W PyProof.Rows PySem.Calls
set_option Elab.async false
namespace Mine
set_option autoImplicit false
set_option linter.unusedVariables false
section
variable {X : Wd} {c : Cx} {k : Nat} {loc : Loc} {σ : List MO}
theorem swp_Assign_Comp2 {elt t1 i1 t2 i2 : Expr} {scope : Scope} {x : Str} {px pos spos : Pos} {Q : AFl → Loc → List MO → Prop} (fvs own' : List Str) (ok : CompOk scope c loc fvs own') (hx : c.sc.names.lookup x = some .local)
    (hsw : (px.line == pos.line && !(scope.names.any fun (n, k) => n == x && (k == .local || k == .cell))) = true)
    (h : ewp X c k i1 (fun a σ1 => ∃ xs src, isrc X k t1 a xs src σ1 ∧ cpO X ⟨relabelS scope c.sc, own'⟩ k t1 i2 t2 elt src (fun ds σ2 => Q .next (put x (.dat (.list ds)) loc) σ2) xs [] (sub fvs loc) σ1) loc σ)
    (ht1 : ∀ it v, letOwnedTupleGo t1 it v = pure () := by intro _ _; rfl) (ht2 : ∀ it v, letOwnedTupleGo t2 it v = pure () := by intro _ _; rfl) (hs1 : ∀ env x, foldedSetIterable i1 env x = pure x := by intro _ _; rfl) (hs2 : ∀ env x, foldedSetIterable i2 env x = pure x := by intro _ _; rfl) :
    swp X c k (.Assign [.Name x px] (two elt t1 i1 t2 i2 scope pos) spos) Q loc σ := fun A env W F m s R S E => by
  have hsw' : swapsWith (two elt t1 i1 t2 i2 scope pos) (some (.Name x px)) spos.line env = pure true := by
    show (pure (env.blockKind == .function && env.kindOf x == some .local && px.line == pos.line && !(scope.names.any fun (n, k) => n == x && (k == .local || k == .cell))) : Sem Bool) = _
    have h1 : (env.blockKind == ScopeKind.function) = true := by unfold Env.blockKind; rw [E.ek]; rfl
    have h2 : (env.kindOf x == some NameKind.local) = true := by rw [E.kindOf x, hx]; rfl
    rw [h1, h2, Bool.true_and, Bool.true_and, hsw]
  rw [exec_Assign_Name_used _ _ _ _ hsw']
  refine wpAny_bind (wpAny_standAt (wpAny_bind ?_))
  show wpAny _ A (do let _ ← comprehension (two elt t1 i1 t2 i2 scope pos) scope env (firstIterPos [⟨t1, i1, [], 0⟩, ⟨t2, i2, [], 0⟩] pos) (newList []) (firstAsync [⟨t1, i1, [], 0⟩, ⟨t2, i2, [], 0⟩]) (firstIter [⟨t1, i1, [], 0⟩, ⟨t2, i2, [], 0⟩] env) (some (assign (.Name x px) env))) _ _ s
  refine wpAny_bind (wpAny_comprehension_free (use := some (assign (.Name x px) env)) rfl (hs1 env) (ok.clos E) ok.kind ok.locals (h.use R S E fun F1 m1 a σ1 u s1 g1 ra ⟨xs, src, hi, hc⟩ E1 => ?_))
  refine comp2_core (RR := fun acc C => compPost (model X.prog X.w) A nof (some (assign (.Name x px) env)) (fun _ s' => wpAny (model X.prog X.w) A (pure ()) (fun _ s' => wpAny (model X.prog X.w) A (pure Flow.next) (XPost X c env W Q F m s) nof s') nof s') acc C) R g1.st E1 ra hi ok hc ?_ ht1 ht2 hs2
  intro D C s' F' m' σ' ds vs n mp g h1 h2 h3 h4 h5 h6 h7 h8 h9 hn q
  show wpAny _ A (assign (.Name x px) env (.ref D)) _ _ s'
  have hCW : C ∉ W := fun hW => (E1.priv C hW).2.2 h2
  have hCc : ∀ y b, env.cells.lookup y = some b → b ≠ C := fun y b hy e => by
    obtain ⟨_, _, _, v0, o, ho, _⟩ := E1.cells y b hy
    rw [e, h2] at ho; cases ho
  have fin : ∀ F2 m2 (a : AV) σ2, Go X.prog X.w X.h0 F1 m1 s1 F2 m2 σ2 s' → VR X.prog X.w F2 m2 a (.ref D) → C ∉ m2 → NF F2 C → Q .next (put x a loc) σ2 →
      wpAny (model X.prog X.w) A (assign (.Name x px) env (.ref D)) (fun _ s'' => ∃ mp, s''.heap.Ns C mp ∧ ∀ h', Heap.SameBut C s''.heap h' → wpAny (model X.prog X.w) A (pure ()) (fun _ s' => wpAny (model X.prog X.w) A (pure Flow.next) (XPost X c env W Q F m s) nof s') nof { s'' with heap := h' }) nof s' := by
    intro F2 m2 a σ2 g' r hm hF q'
    refine wpAny_assign_Name (store_ok g'.st (E1.go g') r (.inl hx) fun s3 g3 E3 => ⟨mp, ?_, fun h' hs' => ?_⟩)
    · exact hn.at' fun o e => g3.keep C o hm hCW e
    · have G := (g'.toX (W := W)).trans g3
      exact wpAny_pure (wpAny_pure ⟨F2, m2, .next, _, σ2, g1.toX.trans (G.priv1 h2 hm hF hs'), E3.priv1 hs' hCW hCc, .next, q'⟩)
  exact fin _ m' (.dat (.list ds)) σ' (g.addF (D := D) (o := lstObj vs n) h1 h8 h4) (.list (.inr ⟨rfl, rfl⟩) (h9.mono fun _ _ h => .inl h)) h6 (fun o hf h => h.elim (h7 o hf) fun h => h3 h.1.symm) q
end
end Mine
end

section -- PgP1
open PySem PySem.W PyProof.Rows PySem.Calls PySem.SeqAt PySem.Builtin.Str
set_option Elab.async false
set_option maxRecDepth 100000
namespace Mine
set_option linter.unusedVariables false
section
variable {X : Wd} {c : Cx} {k : Nat} {loc : Loc} {σ : List MO} {Q : AV → List MO → Prop}
theorem ewp_DictF {pos : Pos} (h : Q (.dat (sd [])) σ) : ewp X c k (.Dict [] [] pos) Q loc σ :=
  fun A env W F m s R S E => wpAny_Dict_empty ⟨_, m, .dat (sd []), σ, Go.frz (tk := s.toks) (a := s.heap.objs.size) (o := { cls := .type "dict", data := .dict #[] }) S push_some (fresh_size _) (Heap.get?_push_size _ rfl),
    Rd.dict (ks := []) (ds := []) (kvs := []) (keys := []) (ep := 0) (X.three S) (.inr ⟨rfl, rfl⟩) ⟨⟨rfl, rfl, rfl⟩, #[], rfl, fun _ he => by simp at he, Pairs.nil, List.nodup_nil, rfl⟩ rfl rfl .nil .nil, h⟩

noncomputable def hitsB (b : Bk) : Bk → Bool
  | [] => true
  | (d, n) :: r => match b.lookup d with
    | none => false
    | some n' => (n == n') && hitsB b r
theorem hits_ok {F : Fz} {A : Around} {s : Shared} {b : Bk} {kb : List (Str × Value)} (hn : kb.map (·.1) = (bkL b).map (·.1)) (hr : RdAll X.prog X.w F ((bkL b).map (·.2)) (kb.map (·.2))) : ∀ {a : Bk} {ka : List (Str × Value)}, ka.map (·.1) = (bkL a).map (·.1) → RdAll X.prog X.w F ((bkL a).map (·.2)) (ka.map (·.2)) → KeqHits A s kb ka (hitsB b a)
  | [], [], _, _ => .nil
  | [], _ :: _, h, _ => by simp at h
  | _ :: _, [], h, _ => by simp at h
  | (d, n) :: r, (x, v) :: ka, h, h2 => by
    simp only [List.map_cons, List.cons.injEq] at h h2
    obtain ⟨e, h⟩ := h
    subst e
    cases h2 with
    | cons r1 r2 =>
    have ih := hits_ok (A := A) (s := s) hn hr h r2
    unfold hitsB
    rcases valueAt_rel hn hr (dk d) with ⟨h1, h3⟩ | ⟨d', v', h1, h3, h4⟩
    · rw [bk_lookup] at h1
      have : b.lookup d = none := by
        cases e : b.lookup d with
        | none => rfl
        | some n' => rw [e] at h1; cases h1
      rw [this]
      exact .miss h3
    · rw [bk_lookup] at h1
      obtain ⟨n', e, rfl⟩ := Option.map_eq_some_iff.mp h1
      rw [e]
      cases r1; cases h4
      have e2 : (n == n') = ((n : Int) == (n' : Int)) := by
        by_cases q : n = n'
        · subst q; simp
        · rw [beq_eq_false_iff_ne.mpr q]; exact (beq_eq_false_iff_ne.mpr (by omega)).symm
      show KeqHits _ _ _ _ (n == n' && hitsB b r)
      rw [e2]
      exact .hit h3 (SeqAt.EqAt.int_int _ _ _ _) ih
theorem v2_eq_bk {a b : Bk} (h : Q (.bool (a.length == b.length && hitsB b a)) σ) : v2 X k (compareOp .Eq) (.dat (sd (bkL a))) (.dat (sd (bkL b))) Q σ := fun A F m s u v R S ra rb => by
  obtain ⟨d, o, ka, ep, keys, rfl, h3, hF, hd, hn, hq, hr⟩ := Rd.sd ra
  obtain ⟨d2, o2, kb, ep2, keys2, rfl, h32, hF2, hd2, hn2, hq2, hr2⟩ := Rd.sd rb
  have la : ka.length = a.length := by have := congrArg List.length hn; simpa using this
  have lb : kb.length = b.length := by have := congrArg List.length hn2; simpa using this
  refine keq_eq (not_sys h3) (not_sys h32) (hd.at (S.fz _ _ hF hd.nf)).dictOf (hd2.at (S.fz _ _ hF2 hd2.nf)).dictOf R.u0 (fun _ => hits_ok hn2 hr2 hn hr) ?_
  rw [la, lb]
  exact ⟨F, m, .bool _, σ, Go.refl S, vrb, h⟩
end
end Mine
end

section -- PgQ1
open PySem PySem.W PyProof.Rows PySem.Calls PySem.SeqAt
set_option Elab.async false
namespace Mine
set_option autoImplicit false
set_option maxRecDepth 20000
set_option linter.unusedVariables false
section
variable {prog : Program} {w : World} {A : Around} {E : Value → Shared → Prop} {s : Shared}
theorem set_first {K : Frag} {x dx C : Addr} {n : Str} {v : Value} {Q : Unit → Shared → Prop} (X : K.In s.heap) (hx : s.heap.get? x = some (instObj C dx)) (hdx : s.heap.get? dx = some emptyDict)
    (hs : findIn K (.ref C) "__setattr__" = some (some (.builtin "object.__setattr__"))) (hp : plainOver K C = true) (ht : takerIn K C n = some none) (hh : hasDictIn K C = true)
    (h : ∀ h', h'.get? dx = some (attrObj w.params n (s.toks + 1) v 1) → Heap.SameBut dx s.heap h' → Q () { s with heap := h', toks := s.toks + 2 }) : wpAny (model prog w) A (setAttr (.ref x) n v) Q E s := by
  obtain ⟨hp0, g, d, tk, os⟩ := s
  have I : InstAt hp0 x (instObj C dx) C (some emptyDict) := ⟨hx, rfl, rfl, hdx⟩
  refine set_plain X I hs (osa_open (s := ⟨hp0, g, d, tk + 1, os⟩) X I hp ht fun b => ?_)
  obtain ⟨cd, hc, hd'⟩ := any_some hh
  refine wpAny_bind (wpAny_pure (wpAny_bind (wpAny_bind (wpAny_loadPart (s := ⟨hp0, g, d, tk + 1, os⟩) hx (wpAny_bind ((looks_clsIn (h := hp0) X hc).at ?_))))))
  rw [hd']
  refine wpAny_pure (a := some dx) (wpAny_bind (wpAny_pure (wpAny_bind ?_)))
  unfold nsSet
  refine wpAny_bind (wpAny_bind (wpAny_askSetting (wpAny_pure (wpAny_bind (wpAny_mkText (wpAny_bind (wpAny_loadPart (s := ⟨hp0, g, d, tk + 1 + 1, os⟩) hdx ?_)))))))
  dsimp only
  rw [if_neg (show ¬ (aRefKeyMayBeTheName n #[] = true) from by rw [aRefKeyMayBeTheName_at]; simp)]
  have D' : (hp0.update dx (Obj.putName n (PyData.keyHash w.params n) (.str n (tk + 1)) v)).get? dx = some (attrObj w.params n (tk + 1) v 1) := by
    rw [Heap.get?_update_self _ hdx (by rfl)]; rfl
  refine wpAny_updatePart (s := ⟨hp0, g, d, tk + 1 + 1, os⟩) hdx ?_
  refine wpAny_bind (wpAny_lookBehind (s := ⟨_, g, d, tk + 1 + 1, os⟩) D' (pastItsLine_dict (by simp [sizeLine_eq])) ?_)
  exact wpAny_pure (h _ D' (Heap.SameBut.update ..))
end
end Mine
end

section -- PgR1
open PySem PySem.W PyProof.Rows PySem.Calls PySem.SeqAt
set_option Elab.async false
namespace Mine
set_option autoImplicit false
set_option maxRecDepth 20000
set_option linter.unusedVariables false
section
variable (X : Wd)
structure Raw (F : Fz) (m : List Nat) (W : List Nat) (env : Env) (s : Shared) (x dx C : Addr) : Prop where
  nW : dx ∉ W
  nm : dx ∉ m
  nF : NF F dx
  cells : ∀ y b, env.cells.lookup y = some b → b ≠ dx
  at' : s.heap.get? dx = some emptyDict
  ob : F x (instObj C dx)
inductive IP (W : List Nat) (dx : Addr) (n : Str) (Q : AV → List MO → Prop) (F : Fz) (m : List Nat) (s : Shared) (f : Flow) (s' : Shared) : Prop
  | mk (F' : Fz) (m' : List Nat) (fl : AFl) (σ' : List MO) (a : AV) (t : Tok) (u : Value) (ep : Nat) : XGo X (dx :: W) F m s F' m' σ' s' → FR X F' m' fl f → retv fl = .dat .none → s'.heap.get? dx = some (attrObj X.w.params n t u ep) → dx ∉ m' → NF F' dx → VR X.prog X.w F' m' a u → Q a σ' → IP W dx n Q F m s f s'
noncomputable def iwp (c : Cx) (k : Nat) (body : List Stmt) (x dx C : Addr) (n : Str) (Q : AV → List MO → Prop) (loc : Loc) (σ : List MO) : Prop :=
  ∀ A env W F m s, Room A k → St X.prog X.w X.h0 F m σ s → En X.prog X.w c env W loc F m s.heap → Raw F m W env s x dx C →
    wpAny (model X.prog X.w) A (execs body env) (IP X W dx n Q F m s) nof s
end
section
variable {X : Wd} {c : Cx} {k : Nat} {loc : Loc} {σ : List MO}
theorem iwp_stmt {st : Stmt} {r : List Stmt} {x dx C : Addr} {n : Str} {Q : AV → List MO → Prop} (h : swp X c k st (fun fl l1 σ1 => fl = .next ∧ iwp X c k r x dx C n Q l1 σ1) loc σ) : iwp X c k (st :: r) x dx C n Q loc σ :=
  fun A env W F m s R S E w => wpAny_execs_cons (xafter (h A env W F m s R S E) fun f s1 ⟨F1, m1, fl, l1, σ1, g1, E1, r1, e, q1⟩ => by
    subst e
    cases r1
    have hne := ne_none w.at'
    have w1 : Raw F1 m1 W env s1 x dx C := ⟨w.nW, fun h => (g1.mnew dx h).elim w.nm hne, fun o hf h => (g1.fnew dx o h hf).elim (w.nF o hf) fun h => h.elim w.nm hne, w.cells, g1.keep dx _ w.nm w.nW w.at', g1.fsub _ _ w.ob⟩
    exact xafter (q1 A env W F1 m1 s1 R g1.st E1 w1) fun f s2 ⟨F2, m2, fl, σ2, a, t, u, ep, g2, r2, e2, h2, h3, h4, h5, q2⟩ => ⟨F2, m2, fl, σ2, a, t, u, ep, (g1.widen fun b hb => List.mem_cons_of_mem _ hb).trans g2, r2, e2, h2, h3, h4, h5, q2⟩)
theorem iwp_attr {value : Expr} {self : Str} {r : List Stmt} {sp pos' pos : Pos} {x dx C : Addr} {n : Str} {Q : AV → List MO → Prop} (hs : findIn X.K (.ref C) "__setattr__" = some (some (.builtin "object.__setattr__"))) (hp : plainOver X.K C = true) (ht : takerIn X.K C n = some none) (hh : hasDictIn X.K C = true)
    (hself : loc.lookup self = some (.opq (.ref x)))
    (h : ewp X c k value (fun a σ1 => xwp X c k r (fun fl l σ2 => retv fl = .dat .none ∧ Q a σ2) loc σ1) loc σ)
    (hd : (self == ("__debug__" : Str)) = false := by decide) (hd' : (self == ("__classdict__" : Str)) = false := by decide)
    (hsw : ∀ env, swapsWith value (some (.Attribute (.Name self sp) n pos')) pos.line env = pure false := by intro _; rfl) : iwp X c k (.Assign [.Attribute (.Name self sp) n pos'] value pos :: r) x dx C n Q loc σ :=
  fun A env W F m s R S E w => wpAny_execs_cons (plainObj_wpAny_Assign_Attribute (h.use R S E fun F1 m1 a σ1 u s1 g1 ra q1 E1 => (ewp_name (Q := fun b σ' => b = .opq (.ref x) ∧ σ' = σ1) hself ⟨rfl, rfl⟩ hd hd').use R g1.st E1 fun F2 m2 b σ2 ub s2 g2 rb ⟨eb, es⟩ E2 => by
    subst eb; subst es
    cases rb
    have G := g1.trans g2
    have hne := ne_none w.at'
    have hm2 : dx ∉ m2 := fun h => (G.mnew dx h).elim w.nm hne
    have hF2 : NF F2 dx := fun o hf h => (G.fnew dx o h hf).elim (w.nF o hf) fun h => h.elim w.nm hne
    have hdx := G.keep dx _ w.nm w.at'
    have hob := g2.st.fz _ _ (G.fsub _ _ w.ob) rfl
    refine set_first g2.st.K hob hdx hs hp ht hh fun h' hd' hs' => ?_
    have g3 : XGo X [dx] F2 m2 s2 F2 m2 σ2 { s2 with heap := h', toks := s2.toks + 2 } := XGo.own1 (tk := s2.toks + 2) g2.st hm2 hF2 hs' (ne_none hd')
    have E3 := E2.xgo g3 (fun b hb e => w.nW (by rw [← List.mem_singleton.mp e]; exact hb)) fun y b hb e => w.cells y b hb (List.mem_singleton.mp e)
    refine xafter (q1.mono (fun fl l σ q => q) A env W F2 m2 _ R g3.st E3) fun f s4 ⟨F4, m4, fl, l4, σ4, g4, E4, r4, e4, q4⟩ => ?_
    have hne3 : ({ s2 with heap := h', toks := s2.toks + 2 } : Shared).heap.get? dx ≠ none := ne_none hd'
    exact ⟨F4, m4, fl, σ4, a, _, u, _, ((G.toX.trans (g3.widen fun b hb => by rw [List.mem_singleton.mp hb]; exact List.mem_cons_self)).trans (g4.widen fun b hb => List.mem_cons_of_mem _ hb)), r4, e4, g4.keep dx _ hm2 w.nW hd',
      fun h => (g4.mnew dx h).elim hm2 hne3, fun o hf h => (g4.fnew dx o h hf).elim (hF2 o hf) fun h => h.elim hm2 hne3, g4.vr (g2.vr ra), q4⟩) (hsw env))
end
end Mine
end

section -- PgS1
open PySem PySem.W PyProof.Rows PySem.Calls PySem.SeqAt
set_option Elab.async false
namespace Mine
set_option autoImplicit false
set_option maxRecDepth 20000
set_option linter.unusedVariables false
section
variable {X : Wd} {k : Nat} {σ : List MO}
theorem Room.make {A : Around} {k : Nat} {C : Addr} {vals : List Value} {kw : List (Str × Value)} (R : Room A (k + 1)) : Room (A.under (.builtin "type.__call__" ⟨.ref C :: vals, kw⟩)) k :=
  ⟨R.handled, by show A.depth + 1 + 3 * k < recursionLimit; have := R.depth; omega, by show A.units + 1 + 100 * k + 100 < cLine; have := R.units; omega⟩

theorem init_ok {fI : Addr} {o : Obj} {fd : FuncData} {body : List Stmt} {A : Around} {F : Fz} {m : List Nat} {s : Shared} {LB : Loc} {x dx C : Addr} {n : Str} {args : List Value} {bs : List (Str × Value)} {Q : AV → List MO → Prop} {RR : Result → Shared → Prop} (R : Room A (k + 1)) (S : St X.prog X.w X.h0 F m σ s)
    (ho : X.K.lookup fI = some o) (hd : o.data = .func fd) (hbody : fd.body = .stmts body) (hcode : codeOk X.K fd = true) (hbind : Looks (model X.prog X.w) s.heap (bindArgs fd ⟨args, []⟩) bs) (hvb : VB X F m LB bs)
    (hnd : (LB.map (·.1)).Nodup) (hkinds : ∀ y ∈ LB.map (·.1), fd.scope.names.lookup y = some .local ∨ fd.scope.names.lookup y = some .cell)
    (hdm : dx ∉ m) (hdF : NF F dx) (hdx : s.heap.get? dx = some emptyDict) (hob : F x (instObj C dx)) (h : iwp X ⟨fd.scope, []⟩ k body x dx C n Q LB σ)
    (q : ∀ F' m' σ' a t u ep s', XGo X [dx] F m s F' m' σ' s' → s'.heap.get? dx = some (attrObj X.w.params n t u ep) → dx ∉ m' → NF F' dx → VR X.prog X.w F' m' a u → Q a σ' → RR (.ok (.ret .none)) s')
    (hclo : fd.closure = []) (hg : fd.globals = mainGlobals) (hbn : fd.builtins = builtinsNs) (hco : fd.scope.isCoroutine = false) (hgen : fd.scope.isGenerator = false) (hk : fd.scope.kind = .function) :
    codeAny (model X.prog X.w) A (.call (.ref fI) ⟨args, []⟩) RR s := by
  have KI : X.K.In s.heap := X.kin.keeps S.start
  have hown0 : ∀ y ∈ ([] : List Str), fd.scope.names.lookup y = some .cell := fun y hy => by cases hy
  refine codeAny_call_function R.d (KI _ _ ho) hd hco hgen hbody (codeRec_of KI hcode) ?_
  refine hbind.here ?_
  rw [hclo]
  refine wpAny_with_toks (Nat.le_refl _) <| wpAny_newFunctionEnv_cells hk (fun x hx => ?_) fun env he s1 x1 htk => ?_
  · have hx' : x.1 ∈ LB.map (·.1) := by rw [hvb.names]; exact List.mem_map.mpr ⟨x, hx, rfl⟩
    rcases hkinds _ hx' with h1 | h1
    · exact .inl h1
    · exact .inr ⟨h1, cellsFrom_some _ _ _ (.inl (mem_of_lookup h1))⟩
  · have hL : env.locals = s.heap.objs.size := by subst he; rfl
    have hsc : env.scope = fd.scope := by subst he; rfl
    have hcl : env.cells = cellsFrom (s.heap.objs.size + 1) fd.scope.names [] := by subst he; rfl
    have hgl : env.globals = fd.globals := by subst he; rfl
    have hbl : env.builtins = fd.builtins := by subst he; rfl
    obtain ⟨tk, hs1⟩ : ∃ tk, s1 = { s with heap := s1.heap, toks := tk } := by
      obtain ⟨h', tk, e⟩ := x1.toInCall.same
      exact ⟨tk, by rw [e]⟩
    have g1 : Go X.prog X.w X.h0 F m s F m σ s1 := by rw [hs1] at htk; rw [hs1]; exact Go.grow S x1.toInCall.keep htk
    refine ⟨X.nolimit.keeps g1.st.start, codeAny_func ?_⟩
    have hkd : ∀ y, env.kindOf y = fd.scope.names.lookup y := fun y => by unfold Env.kindOf; rw [hsc]
    have hnew : ∀ y b, env.cells.lookup y = some b → s.heap.get? b = none := fun y b hy => by
      cases e : s.heap.get? b with
      | none => rfl
      | some o' =>
        have h1 := Heap.lt_size e
        have h2 : s.heap.objs.size < b := hL ▸ x1.above y b (mem_of_lookup hy)
        exact absurd h1 (Nat.lt_asymm h2)
    have hnewL : s.heap.get? env.locals = none := by rw [hL]; exact fresh_size _
    have hnm : ∀ b, s.heap.get? b = none → b ∉ m := fun b hb hm => S.lt b hm hb
    have hnF : ∀ b, s.heap.get? b = none → NF F b := fun b hb o hf hF => by have := S.fz b o hF hf; rw [hb] at this; cases this
    have hcell : ∀ y b, env.cells.lookup y = some b → ∃ v0, s1.heap.IsCell b v0 := fun y b hy => ⟨_, x1.cell y b hy⟩
    have hW : ∀ b ∈ env.locals :: ([] : List Str).filterMap (fun y => env.cells.lookup y), s.heap.get? b = none ∧ s1.heap.get? b ≠ none := fun b hb => by
      rcases List.mem_cons.mp hb with e | hb
      · rw [e]
        obtain ⟨o', _, _, ho', _⟩ := x1.toInCall.ns
        exact ⟨hnewL, ne_none ho'⟩
      · obtain ⟨y, _, hy⟩ := List.mem_filterMap.mp hb
        obtain ⟨v0, o', ho', _⟩ := hcell y b hy
        exact ⟨hnew y b hy, ne_none ho'⟩
    have E1 : En X.prog X.w ⟨fd.scope, []⟩ env (env.locals :: ([] : List Str).filterMap (fun y => env.cells.lookup y)) LB F m s1.heap := by
      refine ⟨hsc, hk, hgl.trans hg, hbl.trans hbn, List.mem_cons_self, fun b hb => ?_, ⟨_, x1.toInCall.ns, fun y v h1 h2 => ?_⟩, fun y v h1 h2 => ?_, fun y b hy => ?_, fun y z b hy hz => name_of_addr x1.apart (mem_of_lookup hy) (mem_of_lookup hz), fun y hy => ?_⟩
      · exact ⟨hnm b (hW b hb).1, hnF b (hW b hb).1, (hW b hb).2⟩
      · obtain ⟨u, h3, h4⟩ := hvb.lookup h1
        exact ⟨u, bindL_at _ _ (hvb.names ▸ hnd) h3 ((hkd y).trans h2), h4⟩
      · obtain ⟨u, h3, h4⟩ := hvb.lookup h1
        have hy : y ∈ LB.map (·.1) := List.mem_map.mpr ⟨(y, v), mem_of_lookup h1, rfl⟩
        have hc := (hkinds y hy).resolve_left h2
        obtain ⟨b, hb⟩ := Option.isSome_iff_exists.mp (cellsFrom_some fd.scope.names (s.heap.objs.size + 1) [] (.inl (mem_of_lookup hc)))
        rw [← hcl] at hb
        refine ⟨.inl hc, b, u, hb, ?_, h4⟩
        have := x1.cell y b hb
        rw [bindC_at _ _ (hvb.names ▸ hnd) h3 (by rw [hkd]; exact h2)] at this
        exact this
      · exact ⟨hnm b (hnew y b hy), hnF b (hnew y b hy), Nat.ne_of_gt (x1.above y b (mem_of_lookup hy)), hcell y b hy⟩
      · obtain ⟨b, hb⟩ := Option.isSome_iff_exists.mp (cellsFrom_some fd.scope.names (s.heap.objs.size + 1) [] (.inl (mem_of_lookup (hown0 y hy))))
        rw [← hcl] at hb
        exact ⟨hown0 y hy, b, hb, List.mem_cons_of_mem _ (List.mem_filterMap.mpr ⟨y, hy, hb⟩)⟩
    have w1 : Raw F m (env.locals :: ([] : List Str).filterMap (fun y => env.cells.lookup y)) env s1 x dx C := ⟨fun hb => (by have := (hW dx hb).1; rw [hdx] at this; cases this), hdm, hdF, fun y b hy e => (by have := hnew y b hy; rw [e, hdx] at this; cases this), g1.keep dx _ hdm hdx, hob⟩
    refine xafter (h (A.deeper env) env _ F m s1 R.deeper g1.st E1 w1) fun f s2 ⟨F2, m2, fl, σ2, a, t, u, ep, g2, r2, e2, h2, h3, h4, h5, q2⟩ => ?_
    have G : XGo X [dx] F m s F2 m2 σ2 s2 := (g1.toX.trans g2).drop fun b hb => (List.mem_cons.mp hb).elim (fun e => .inl (by rw [e]; exact List.mem_singleton_self _)) fun hb => .inr (hW b hb).1
    have fin := q F2 m2 σ2 a t u ep s2 G h2 h3 h4 h5 q2
    cases r2 with
    | next => exact fin
    | brk => exact fin
    | cont => exact fin
    | ret r => cases e2; cases r; exact fin

theorem fwp_make1 {C fI : Addr} {o : Obj} {fd : FuncData} {body : List Stmt} {a0 : AV} {y n : Str} {Q : AV → List MO → Prop} (hm : makesIn X.K C = true) (hi : findIn X.K (.ref C) "__init__" = some (some (.ref fI))) (hf : typeIn X.K (.ref fI) = some (.type "function"))
    (ho : X.K.lookup fI = some o) (hd : o.data = .func fd) (hbody : fd.body = .stmts body) (hcode : codeOk X.K fd = true) (hbind : ∀ u v M h, X.K.In h → Looks M h (bindArgs fd ⟨[u, v], []⟩) [("self", u), (y, v)])
    (h : ∀ x dx, iwp X ⟨fd.scope, []⟩ k body x dx C n (fun a σ' => Q (.inst C n a) σ') [("self", .opq (.ref x)), (y, a0)] σ)
    (hnd : (["self", y] : List Str).Nodup := by decide) (hkk : kindsOk fd.scope ["self", y] [] = true := by rfl)
    (hclo : fd.closure = [] := by rfl) (hg : fd.globals = mainGlobals := by rfl) (hbn : fd.builtins = builtinsNs := by rfl)
    (hco : fd.scope.isCoroutine = false := by rfl) (hgen : fd.scope.isGenerator = false := by rfl) (hk : fd.scope.kind = .function := by rfl) : fwp X (k + 2) (.ref C) [a0] [] [] Q σ := fun A F m s us vs R S r0 rk => by
  obtain ⟨u, rfl, ra⟩ := r0.one
  cases rk.zero
  refine wpAny_call ?_
  obtain ⟨hp, g, d, tk, os⟩ := s
  have KI := S.K
  refine make_core (makes_of KI hm) (looks_findIn KI hi) (fun self => bind_fn KI self hf) (.inl rfl) ?_
  have hdn : hp.get? hp.objs.size = none := fresh_size _
  have g1 : Go X.prog X.w X.h0 F m ⟨hp, g, d, tk, os⟩ F m σ ⟨hp.push emptyDict, g, d, tk, os⟩ := Go.grow (tk := tk) S push_some
  have hxs : (hp.push emptyDict).objs.size = hp.objs.size + 1 := Heap.size_push ..
  have hxn : (hp.push emptyDict).get? (hp.objs.size + 1) = none := by rw [← hxs]; exact fresh_size _
  have hxo : ((hp.push emptyDict).push (instObj C hp.objs.size)).get? (hp.objs.size + 1) = some (instObj C hp.objs.size) := by rw [← hxs]; exact Heap.get?_push_size _ rfl
  have hdo : ((hp.push emptyDict).push (instObj C hp.objs.size)).get? hp.objs.size = some emptyDict := Heap.get?_push_of_some _ (Heap.get?_push_size _ rfl)
  have g2 := Go.frz (tk := tk) (a := hp.objs.size + 1) (o := instObj C hp.objs.size) (h' := (hp.push emptyDict).push (instObj C hp.objs.size)) g1.st push_some hxn hxo
  have G := g1.trans g2
  have hdm : hp.objs.size ∉ m := fun h => S.lt _ h hdn
  have hdF : NF (fun b q => F b q ∨ (b = hp.objs.size + 1 ∧ q = instObj C hp.objs.size)) hp.objs.size := fun o hf h => h.elim (fun h => by have := S.fz _ o h hf; rw [hdn] at this; cases this) fun h => by have := h.1; omega
  refine init_ok (R.make) g2.st ho hd hbody hcode (hbind _ _ _ _ g2.st.K) (LB := [("self", .opq (.ref (hp.objs.size + 1))), (y, a0)]) (.cons rfl (.cons (G.vr ra) .nil)) hnd (kinds_of hkk).1 hdm hdF hdo (.inr ⟨rfl, rfl⟩) (h _ _) ?_ hclo hg hbn hco hgen hk
  intro F' m' σ' a t u' ep s' gx hd' hm' hF' rv qq
  refine ⟨rfl, ?_⟩
  have G' : Go X.prog X.w X.h0 F m ⟨hp, g, d, tk, os⟩ F' m' σ' s' := (G.toX.trans gx).close fun b hb => by rw [List.mem_singleton.mp hb]; exact hdn
  exact ⟨_, m', .inst C n a, σ', G'.addF (D := hp.objs.size) hdn hd' hm', ⟨_, _, t, ep, u', rfl, .inl (gx.fsub _ _ (.inr ⟨rfl, rfl⟩)), .inr ⟨rfl, rfl⟩, rv.mono (fun _ _ h => .inl h) (List.prefix_refl _)⟩, qq⟩
end
end Mine
end

section -- PgU1
open PySem PySem.W PyProof.Rows PySem.Calls PySem.SeqAt
set_option Elab.async false
set_option maxRecDepth 100000
namespace Mine
set_option linter.unusedVariables false
theorem tc_spec {X : Wd} (ok : Ok X) {k : Nat} {σ : List MO} {Q : AV → List MO → Prop} {a : AV}
    (h : Q (.inst 234 "comp_select_list" a) σ) : fwp X (k + 2) (.ref 234) [a] [] [] Q σ := by
  refine fwp_make1 (fI := 224) (y := "comp_select_list") (n := "comp_select_list") (by rw [ok.K]; rfl) (by rw [ok.K]; rfl) (by rw [ok.K]; rfl) (ok.at rfl) rfl rfl (by rw [ok.K]; rfl) (fun u v M hp hk => ?_) (fun x dx => ?_)
  · exact Looks.of_peek hk (by rw [ok.K]; rfl)
  · refine iwp_attr (by rw [ok.K]; rfl) (by rw [ok.K]; rfl) (by rw [ok.K]; rfl) (by rw [ok.K]; rfl) rfl (ewp_name rfl ?_)
    refine xwp_nil ⟨rfl, h⟩
theorem hd_spec {X : Wd} (ok : Ok X) {k : Nat} {σ : List MO} {Q : AV → List MO → Prop} {i : Nat} (hσ : σ[i]? = some (.lst []))
    (h : Q (.inst 171 "_headers" (.mr i)) σ) : fwp X (k + 3) (.ref 171) [.mr i] [] [] Q σ := by
  refine fwp_make1 (fI := 63) (y := "headers") (n := "_headers") (by rw [ok.K]; rfl) (by rw [ok.K]; rfl) (by rw [ok.K]; rfl) (ok.at rfl) rfl rfl (by rw [ok.K]; rfl) (fun u v M hp hk => ?_) (fun x dx => ?_)
  · exact Looks.of_peek hk (by rw [ok.K]; rfl)
  · refine iwp_stmt (swp_Assign_Name (.inl rfl) (ewp_IfExp (twp_Compare (ewp_name rfl (ewp_none (v2_isnot_none (.mrl hσ) (by decide) ⟨_, rfl, ?_⟩))))))
    refine ewp_name rfl ⟨rfl, ?_⟩
    refine iwp_stmt (swp_If (twp_Compare (ewp_Call (ewp_builtin rfl (ok.mgn rfl) rfl ⟨_, rfl, Kp.type, asp_cons (ewp_name rfl (asp_nil (ksp_nil (f_type (.mrl hσ) (ewp_builtin rfl (ok.mgn rfl) rfl (v2_isnot_type ⟨_, rfl, ?_⟩))))))⟩))))
    refine xwp_nil ⟨rfl, ?_⟩
    refine iwp_attr (by rw [ok.K]; rfl) (by rw [ok.K]; rfl) (by rw [ok.K]; rfl) (by rw [ok.K]; rfl) rfl (ewp_name rfl ?_)
    refine xwp_cons (swp_If (twp_value (ewp_bool (vt_bool ?_))))
    refine xwp_cons (swp_For (ewp_name rfl ⟨_, _, isrc_mr hσ, hσ, ?_⟩))
    refine xwp_nil (xwp_nil ⟨rfl, h⟩)
end Mine
end

section -- PgV1
open PySem PySem.W PyProof.Rows PySem.Calls PySem.SeqAt
set_option Elab.async false
set_option maxRecDepth 100000
namespace Mine
set_option linter.unusedVariables false
theorem kp_tc (P : Params) : keepIn (pghead.heap_1 P) (.ref 234) = true := by
  show (specialIn (pghead.heap_1 P) (.ref 234) "__call__" == some (some (.builtin "type.__call__"))) = true
  rfl
theorem kp_hd (P : Params) : keepIn (pghead.heap_1 P) (.ref 171) = true := by
  show (specialIn (pghead.heap_1 P) (.ref 171) "__call__" == some (some (.builtin "type.__call__"))) = true
  rfl
noncomputable def addAt (l : List Int) (d : Nat) : List Int := (List.range 4).map fun k => l.getD k 0 + (if k == d then 1 else 0)
noncomputable def stepLd (ls : List (List Int)) (p : Nat) : List (List Int) := ls.flatMap fun l => [addAt l (pa p), addAt l (pb p)]
noncomputable def putRow (rows : List (List Int)) (l : List Int) : List (List Int) := if rows.contains (sortI l) then rows else rows ++ [sortI l]
noncomputable def rowsOf (ls : List (List Int)) : List (List Int) := ls.foldl putRow []
noncomputable def bestOf (bk : Bk) : List Int := sortI ((List.range 4).map fun d => (loadOf bk d : Int))
noncomputable def checkR (rows : List (List Int)) (best : List Int) : Bool := (firstOf rows (rows.headD []) == best) && ([1, 2, 3].all fun k => lmin (rows.map fun r => (r.drop k).sum) == (best.drop k).sum)
noncomputable def trj (ps : Ps) : Nat → Tb × Bk
  | 0 => ([], [])
  | n + 1 => let t := trj ps n
    (placeTb t.1 (wayOf ps t.1 t.2 n), bump t.2 (leastOf t.2 (waysOf ps t.1 n)))
noncomputable def ldOf (ps : Ps) : Nat → List (List Int)
  | 0 => [[0, 0, 0, 0]]
  | n + 1 => stepLd (ldOf ps n) (pOf ps n)
theorem addAt_len (l : List Int) (d : Nat) : (addAt l d).length = 4 := by simp [addAt]
theorem ld_len {ps : Ps} : ∀ n, ∀ l ∈ ldOf ps n, l.length = 4
  | 0, l, h => by
    have : l = [0, 0, 0, 0] := by simpa [ldOf] using h
    rw [this]; rfl
  | n + 1, l, h => by
    unfold ldOf stepLd at h
    obtain ⟨l0, _, h2⟩ := List.mem_flatMap.mp h
    simp only [List.mem_cons, List.not_mem_nil, or_false] at h2
    rcases h2 with h2 | h2 <;> rw [h2] <;> exact addAt_len _ _
theorem ld_num {ps : Ps} : ∀ n, (ldOf ps n).length = 2 ^ n
  | 0 => rfl
  | n + 1 => by
    unfold ldOf stepLd
    have : ∀ ls : List (List Int), (ls.flatMap fun l => [addAt l (pa (pOf ps n)), addAt l (pb (pOf ps n))]).length = 2 * ls.length := fun ls => by
      induction ls with
      | nil => rfl
      | cons a r ih => simp only [List.flatMap_cons, List.length_append, List.length_cons, List.length_nil, ih]; omega
    rw [this, ld_num n, Nat.pow_succ]; omega
end Mine
end

section -- PgX1
open PySem PySem.W PyProof.Rows PySem.Calls PySem.SeqAt
set_option Elab.async false
set_option maxRecDepth 100000
namespace Mine
set_option linter.unusedVariables false
section
variable {X : Wd} {c : Cx} {k : Nat} {loc : Loc} {σ : List MO}
theorem cpV.mono {t elt : Expr} {src : List MO → Prop} {Q Q' : List PyData → Loc → List MO → Prop} (q : ∀ acc l σ, Q acc l σ → Q' acc l σ) : ∀ {xs : List AV} {acc : List PyData} {loc : Loc} {σ : List MO}, cpV X c k t elt src Q xs acc loc σ → cpV X c k t elt src Q' xs acc loc σ
  | [], acc, loc, σ, h => ⟨h.1, q _ _ _ h.2⟩
  | x :: r, acc, loc, σ, h => ⟨h.1, agn.mono h.2 fun l σ h2 => ewp.mono h2 fun v σ3 ⟨d, l', e, hs, hl, h3⟩ => ⟨d, l', e, hs, hl, cpV.mono q h3⟩⟩
theorem cpO_inv {t1 i2 t2 elt : Expr} {src : List MO → Prop} {xs : List AV} {Q : List PyData → List MO → Prop} (Inv : Nat → List PyData → Loc → List MO → Prop)
    (turn : ∀ i acc x loc σ, xs[i]? = some x → Inv i acc loc σ → src σ ∧ agn X c k t1 x (fun l1 σ1 => ewp X c k i2 (fun a2 σ2 => ∃ xs2 src2, isrc X k t2 a2 xs2 src2 σ2 ∧ cpV X c k t2 elt src2 (fun acc' l' σ' => ∃ l'', Subs l'' l' ∧ Inv (i + 1) acc' l'' σ') xs2 acc l1 σ2) l1 σ1) loc σ)
    (done : ∀ acc loc σ, Inv xs.length acc loc σ → src σ ∧ Q acc σ) : ∀ (n i : Nat), xs.length - i = n → i ≤ xs.length → ∀ acc loc σ, Inv i acc loc σ → cpO X c k t1 i2 t2 elt src Q (xs.drop i) acc loc σ
  | 0, i, hn, hi, acc, loc, σ, h => by
    have : i = xs.length := inv0 hn hi
    subst this
    rw [List.drop_length]
    exact done acc loc σ h
  | n + 1, i, hn, hi, acc, loc, σ, h => by
    have hil : i < xs.length := inv1 hn
    rw [List.drop_eq_getElem_cons hil]
    obtain ⟨h1, h2⟩ := turn i acc xs[i] loc σ (List.getElem?_eq_getElem hil) h
    refine ⟨h1, h2.mono fun l1 σ1 q1 => ewp.mono q1 fun a2 σ2 ⟨xs2, src2, hi2, h3⟩ => ⟨xs2, src2, hi2, cpV.mono (fun acc' l' σ' ⟨l'', hs, q⟩ => ⟨l'', hs, cpO_inv Inv turn done n (i + 1) (inv2 hn) hil _ _ _ q⟩) h3⟩⟩
theorem cpO_all {t1 i2 t2 elt : Expr} {src : List MO → Prop} {xs : List AV} {Q : List PyData → List MO → Prop} (Inv : Nat → List PyData → Loc → List MO → Prop)
    (turn : ∀ i acc x loc σ, xs[i]? = some x → Inv i acc loc σ → src σ ∧ agn X c k t1 x (fun l1 σ1 => ewp X c k i2 (fun a2 σ2 => ∃ xs2 src2, isrc X k t2 a2 xs2 src2 σ2 ∧ cpV X c k t2 elt src2 (fun acc' l' σ' => ∃ l'', Subs l'' l' ∧ Inv (i + 1) acc' l'' σ') xs2 acc l1 σ2) l1 σ1) loc σ)
    (done : ∀ acc loc σ, Inv xs.length acc loc σ → src σ ∧ Q acc σ) {acc : List PyData} (h : Inv 0 acc loc σ) : cpO X c k t1 i2 t2 elt src Q xs acc loc σ := by
  have := cpO_inv Inv turn done xs.length 0 (by omega) (by omega) acc loc σ h
  rwa [List.drop_zero] at this
end

theorem eqvAll_ints : ∀ a b : List Int, PyData.eqvAll (iL a) (iL b) = (a == b)
  | [], [] => rfl
  | [], _ :: _ => rfl
  | _ :: _, [] => rfl
  | x :: a, y :: b => by
    show ((x == y) && PyData.eqvAll (iL a) (iL b)) = _
    rw [eqvAll_ints a b]; rfl
theorem eqv_ints (a b : List Int) : PyData.eqv (.list (iL a)) (.list (iL b)) = (a == b) := eqvAll_ints a b
theorem ints_lay : ∀ a : List Int, PyData.canLayAll0 (iL a) = true ∧ PyData.depthAll (iL a) = 0
  | [] => ⟨rfl, rfl⟩
  | x :: a => by
    obtain ⟨h1, h2⟩ := ints_lay a
    refine ⟨?_, ?_⟩
    · show (true && PyData.canLayAll0 (iL a)) = true
      rw [h1]; rfl
    · show max 0 (PyData.depthAll (iL a)) = 0
      rw [h2]; rfl
theorem rows_lay : ∀ rows : List (List Int), PyData.canLayAll0 (rowsL rows) = true
  | [] => rfl
  | r :: rows => by
    show (PyData.canLayAll0 (iL r) && PyData.canLayAll0 (rowsL rows)) = true
    rw [(ints_lay r).1, rows_lay rows]; rfl
theorem sh_ints (a : List Int) : SeqAt.shaped (.list (iL a)) = true := by
  unfold SeqAt.shaped
  rw [Bool.and_eq_true]
  refine ⟨(ints_lay a).1, decide_eq_true ?_⟩
  show PyData.depthAll (iL a) + 1 ≤ 64
  rw [(ints_lay a).2]; decide
theorem rows_any (rows : List (List Int)) (l : List Int) : ((rowsL rows).any fun y => PyData.eqv y (.list (iL l))) = rows.contains l := by
  induction rows with
  | nil => rfl
  | cons r rows ih =>
    show (PyData.eqv (.list (iL r)) (.list (iL l)) || (rowsL rows).any fun y => PyData.eqv y (.list (iL l))) = _
    rw [ih, eqv_ints, List.contains_cons, BEq.comm]
theorem sort_len (l : List Int) : (sortI l).length = l.length := (sortI_perm l).length_eq
theorem putRow_len {rows : List (List Int)} {l : List Int} (h : ∀ r ∈ rows, r.length = 4) (hl : l.length = 4) : ∀ r ∈ putRow rows l, r.length = 4 := by
  intro r hr
  unfold putRow at hr
  split at hr
  · exact h r hr
  · rcases List.mem_append.mp hr with h1 | h1
    · exact h r h1
    · rw [List.mem_singleton.mp h1, sort_len, hl]
theorem putRow_le {rows : List (List Int)} {l : List Int} : (putRow rows l).length ≤ rows.length + 1 := by
  unfold putRow; split <;> simp
theorem foldRow : ∀ (ls : List (List Int)) (rows : List (List Int)), (∀ r ∈ rows, r.length = 4) → (∀ l ∈ ls, l.length = 4) → (∀ r ∈ ls.foldl putRow rows, r.length = 4) ∧ (ls.foldl putRow rows).length ≤ rows.length + ls.length
  | [], rows, h, _ => ⟨h, Nat.le_refl _⟩
  | l :: ls, rows, h, hl => by
    rw [List.foldl_cons]
    obtain ⟨h1, h2⟩ := foldRow ls (putRow rows l) (putRow_len h (hl l List.mem_cons_self)) fun l' h' => hl l' (List.mem_cons_of_mem _ h')
    refine ⟨h1, ?_⟩
    have := putRow_le (rows := rows) (l := l)
    rw [List.length_cons]; omega
theorem putRow_ne (rows : List (List Int)) (l : List Int) : putRow rows l ≠ [] := by
  unfold putRow
  split
  · rename_i h
    intro e
    rw [e] at h; cases h
  · simp
theorem foldRow_ne : ∀ (ls : List (List Int)) (rows : List (List Int)), rows ≠ [] ∨ ls ≠ [] → ls.foldl putRow rows ≠ []
  | [], rows, h => h.elim id fun h => absurd rfl h
  | l :: ls, rows, h => by
    rw [List.foldl_cons]
    exact foldRow_ne ls _ (.inl (putRow_ne rows l))
theorem rowsOf_succ {ls : List (List Int)} {j : Nat} {l : List Int} (h : ls[j]? = some l) : rowsOf (ls.take (j + 1)) = putRow (rowsOf (ls.take j)) l := by
  unfold rowsOf
  rw [List.take_add_one, h]
  simp [List.foldl_append]
theorem addAt_take (l : List Int) (d : Nat) {j : Nat} (hj : j < 4) : (addAt l d).take (j + 1) = (addAt l d).take j ++ [l.getD j 0 + (if j == d then 1 else 0)] := by
  rw [List.take_add_one]
  have : (addAt l d)[j]? = some (l.getD j 0 + (if j == d then 1 else 0)) := by
    unfold addAt
    rw [List.getElem?_map, List.getElem?_range hj]; rfl
  rw [this]; rfl
theorem abcd_at : ∀ k : Fin 4, ("abcd" : Str).cps[k.val]? = some (97 + k.val) := by decide
theorem sh_dk {d : Nat} (h : d < 4) : SeqAt.shaped (.str (dk d)) = true := by
  have : ∀ q : Fin 4, SeqAt.shaped (.str (dk q)) = true := by decide +kernel
  exact this ⟨d, h⟩
theorem isrc_pair (p : Nat) (hp : p < 6) : (pr p).cps.all (· < 128) = true := (tab_ascii ⟨p, hp⟩).1
theorem stepLd_take {ls : List (List Int)} {p j : Nat} {l : List Int} (h : ls[j]? = some l) : stepLd (ls.take (j + 1)) p = stepLd (ls.take j) p ++ [addAt l (pa p), addAt l (pb p)] := by
  unfold stepLd
  rw [List.take_add_one, h]
  simp
theorem bump_keys (d : Nat) : ∀ bk : Bk, (bump bk d).map (·.1) = if d ∈ bk.map (·.1) then bk.map (·.1) else bk.map (·.1) ++ [d]
  | [] => by simp [bump]
  | (e, c) :: r => by
    unfold bump
    by_cases h : e = d
    · subst h; simp
    · rw [if_neg h]
      simp only [List.map_cons, List.mem_cons, Ne.symm h, false_or]
      rw [bump_keys d r]
      split <;> simp
theorem BkOk.bump {bk : Bk} (h : BkOk bk) {d : Nat} (hd : d < 4) : BkOk (bump bk d) := by
  have hk := bump_keys d bk
  have h1 : ((Mine.bump bk d).map (·.1)).Nodup := by
    rw [hk]
    split
    · exact h.nd
    · rename_i hn
      refine List.nodup_append.mpr ⟨h.nd, by simp, fun a ha b hb e => ?_⟩
      rw [List.mem_singleton] at hb
      exact hn (by rw [← hb, ← e]; exact ha)
  have h2 : ∀ e ∈ Mine.bump bk d, e.1 < 4 := fun e he => by
    have hm : e.1 ∈ (Mine.bump bk d).map (·.1) := List.mem_map.mpr ⟨e, he, rfl⟩
    rw [hk] at hm
    split at hm
    · obtain ⟨x, hx, e'⟩ := List.mem_map.mp hm
      rw [← e']; exact h.lt x hx
    · rcases List.mem_append.mp hm with hm | hm
      · obtain ⟨x, hx, e'⟩ := List.mem_map.mp hm
        rw [← e']; exact h.lt x hx
      · rw [List.mem_singleton.mp hm]; exact hd
  refine ⟨h1, h2, ?_⟩
  have := nodup_lt 4 _ h1 fun x hx => by
    obtain ⟨e, he, rfl⟩ := List.mem_map.mp hx
    exact h2 e he
  rw [List.length_map] at this; omega
theorem least_key {bk : Bk} {wy : Wy} (hne : wy ≠ []) (hw : ∀ x ∈ wy, x.1 < 4) : leastOf bk wy ∈ wy.map (·.1) := by
  have hg : (goalsOf bk wy).length = wy.length := by
    have := (goals_ok (bk := bk) wy [] hw (fun e he => by cases he)).2
    simpa [goalsOf] using this
  cases hgl : (goalsOf bk wy).getLast? with
  | none =>
    have e0 := List.getLast?_eq_none_iff.mp hgl
    rw [e0] at hg
    exact absurd (List.length_eq_zero_iff.mp hg.symm) hne
  | some l =>
    obtain ⟨r, hr⟩ := List.getLast?_eq_some_iff.mp hgl
    have hle : leastOf bk wy = (hpop ltP r l).1.2 := by unfold leastOf; rw [hgl, hr]; simp
    obtain ⟨hm1, _, _⟩ := hpop_mem (lt := ltP) (r := r) (l := l)
    have hmem : ∀ e ∈ l :: r, e ∈ goalsOf bk wy := fun e h1 => by
      rw [hr]
      rcases List.mem_cons.mp h1 with h2 | h2
      · rw [h2]; simp
      · exact List.mem_append_left _ h2
    rw [hle]
    exact (goals_key wy [] _ (hmem _ hm1)).resolve_left (by simp)
theorem trj_ok {ps : Ps} (hps : PsOk ps) : ∀ n, n ≤ ps.length → TbN ps (trj ps n).1 ∧ BkOk (trj ps n).2
  | 0, _ => ⟨⟨fun e he => (by cases he), fun e he => (by cases he), by simp [trj]⟩, ⟨by simp [trj], fun e he => (by cases he), by simp [trj]⟩⟩
  | n + 1, h => by
    obtain ⟨h1, h2⟩ := trj_ok hps n (by omega)
    obtain ⟨⟨_, hwx, hwn⟩, hwne⟩ := ways_P hps (tb := (trj ps n).1) (n := n)
    have hk := least_key (bk := (trj ps n).2) hwne fun x hx => (hwx x hx).1
    obtain ⟨w, hw1, hw2⟩ := lookup_key hk
    refine ⟨?_, h2.bump (hwx _ hw2).1⟩
    show TbN ps (placeTb (trj ps n).1 (wayOf ps (trj ps n).1 (trj ps n).2 n))
    unfold wayOf
    rw [hw1]
    exact place_N hps (by omega) w _ h1 (hwx _ hw2).2
theorem loadOf_bump (d e : Nat) : ∀ bk : Bk, loadOf (bump bk d) e = loadOf bk e + (if e = d then 1 else 0)
  | [] => by
    unfold bump loadOf
    rw [List.lookup_cons]
    by_cases h : e = d
    · subst h; simp
    · rw [beq_eq_false_iff_ne.mpr h, if_neg h]; rfl
  | (f, c) :: r => by
    have ih := loadOf_bump d e r
    unfold loadOf at ih ⊢
    unfold bump
    by_cases h : f = d
    · subst h
      rw [if_pos rfl, List.lookup_cons, List.lookup_cons]
      by_cases h2 : e = f
      · subst h2; simp
      · rw [beq_eq_false_iff_ne.mpr h2, if_neg h2]; rfl
    · rw [if_neg h, List.lookup_cons, List.lookup_cons]
      by_cases h2 : e = f
      · subst h2; rw [beq_self_eq_true, if_neg h]; rfl
      · rw [beq_eq_false_iff_ne.mpr h2]; exact ih
theorem load_le {ps : Ps} : ∀ n d, loadOf (trj ps n).2 d ≤ n
  | 0, d => Nat.le_refl _
  | n + 1, d => by
    show loadOf (bump (trj ps n).2 _) d ≤ n + 1
    rw [loadOf_bump]
    have := load_le (ps := ps) n d
    split <;> omega
noncomputable def Sm (l : List Int) : Prop := ∀ x ∈ l, 0 ≤ x ∧ x ≤ 100
theorem Sm.getD {l : List Int} (h : Sm l) (i : Nat) : 0 ≤ l.getD i 0 ∧ l.getD i 0 ≤ 100 := by
  rw [List.getD_eq_getElem?_getD]
  cases e : l[i]? with
  | none => exact ⟨Int.le_refl _, by decide⟩
  | some x => exact h x (List.mem_of_getElem? e)
theorem Sm.sums {l : List Int} (h : Sm l) : ∀ j, 0 ≤ ((List.range j).map fun i => l.getD i 0).sum ∧ ((List.range j).map fun i => l.getD i 0).sum ≤ 100 * (j : Int)
  | 0 => ⟨Int.le_refl _, Int.le_refl _⟩
  | j + 1 => by
    obtain ⟨h1, h2⟩ := Sm.sums h j
    obtain ⟨h3, h4⟩ := h.getD j
    rw [List.range_succ, List.map_append, List.sum_append]
    simp only [List.map_cons, List.map_nil, List.sum_cons, List.sum_nil]
    omega
theorem Sm.fits {l : List Int} (h : Sm l) (hl : l.length ≤ 1000) : ∀ j, j < l.length → InLong (l.getD j 0) ∧ InLong (((List.range (j + 1)).map fun i => l.getD i 0).sum) := fun j hj => by
  obtain ⟨h3, h4⟩ := h.getD j
  obtain ⟨h1, h2⟩ := h.sums (j + 1)
  unfold InLong
  omega
theorem Sm.drop {l : List Int} (h : Sm l) (k : Nat) : Sm (l.drop k) := fun x hx => h x (List.mem_of_mem_drop hx)
theorem Sm.sort {l : List Int} (h : Sm l) : Sm (sortI l) := fun x hx => h x ((sortI_perm l).mem_iff.mp hx)
theorem addAt_bd {l : List Int} {d n : Nat} (h : ∀ x ∈ l, 0 ≤ x ∧ x ≤ (n : Int)) : ∀ x ∈ addAt l d, 0 ≤ x ∧ x ≤ ((n + 1 : Nat) : Int) := fun x hx => by
  unfold addAt at hx
  obtain ⟨i, hi, rfl⟩ := List.mem_map.mp hx
  have h0 : 0 ≤ l.getD i 0 ∧ l.getD i 0 ≤ (n : Int) := by
    rw [List.getD_eq_getElem?_getD]
    cases e : l[i]? with
    | none => exact ⟨Int.le_refl _, by show (0 : Int) ≤ n; omega⟩
    | some x => exact h x (List.mem_of_getElem? e)
  split <;> omega
theorem ld_bd {ps : Ps} : ∀ n, ∀ l ∈ ldOf ps n, ∀ x ∈ l, 0 ≤ x ∧ x ≤ (n : Int)
  | 0, l, h => by
    have : l = [0, 0, 0, 0] := by simpa [ldOf] using h
    rw [this]; intro x hx
    simp at hx
    rw [hx]; exact ⟨Int.le_refl _, Int.le_refl _⟩
  | n + 1, l, h => by
    unfold ldOf stepLd at h
    obtain ⟨l0, h1, h2⟩ := List.mem_flatMap.mp h
    simp only [List.mem_cons, List.not_mem_nil, or_false] at h2
    rcases h2 with h2 | h2 <;> rw [h2] <;> exact addAt_bd (ld_bd n l0 h1)
theorem rows_from : ∀ (ls : List (List Int)) (rows : List (List Int)), ∀ r ∈ ls.foldl putRow rows, r ∈ rows ∨ ∃ l ∈ ls, r = sortI l
  | [], rows, r, h => .inl h
  | l :: ls, rows, r, h => by
    rw [List.foldl_cons] at h
    rcases rows_from ls _ r h with h1 | ⟨l', h1, h2⟩
    · unfold putRow at h1
      split at h1
      · exact .inl h1
      · rcases List.mem_append.mp h1 with h2 | h2
        · exact .inl h2
        · exact .inr ⟨l, List.mem_cons_self, List.mem_singleton.mp h2⟩
    · exact .inr ⟨l', List.mem_cons_of_mem _ h1, h2⟩
theorem row_of {ps : Ps} {n : Nat} {r : List Int} (h : r ∈ rowsOf (ldOf ps n)) : ∃ l ∈ ldOf ps n, r = sortI l := (rows_from _ [] r h).resolve_left (by simp)
theorem row_Sm {ps : Ps} {n : Nat} (hn : n ≤ 5) {r : List Int} (h : r ∈ rowsOf (ldOf ps n)) : Sm r := by
  obtain ⟨l, hl, rfl⟩ := row_of h
  exact Sm.sort fun x hx => by have := ld_bd n l hl x hx; omega
theorem best_Sm {ps : Ps} {n : Nat} (hn : n ≤ 5) : Sm (bestOf (trj ps n).2) := Sm.sort fun x hx => by
  obtain ⟨d, _, rfl⟩ := List.mem_map.mp hx
  have := load_le (ps := ps) n d
  omega
theorem best_len (bk : Bk) : (bestOf bk).length = 4 := by unfold bestOf; rw [sort_len]; rfl
end Mine
end

section -- PgY1
open PySem PySem.W PyProof.Rows PySem.Calls PySem.SeqAt
set_option Elab.async false
set_option maxRecDepth 100000
set_option maxHeartbeats 4000000
namespace Mine
set_option linter.unusedVariables false
noncomputable abbrev deA (i : Nat) (ps : Ps) (bk : Bk) (ls : List (List Int)) : Loc := [("table", tabA i), ("pairs", .dat (psL ps)), ("judge", judge), ("book", .dat (sd (bkL bk))), ("loads", .dat (.list (rowsL ls)))]
noncomputable abbrev deN (i : Nat) (ps : Ps) (bk : Bk) (ls : List (List Int)) (n : Nat) : Loc := [("table", tabA i), ("pairs", .dat (psL ps)), ("judge", judge), ("book", .dat (sd (bkL bk))), ("loads", .dat (.list (rowsL ls))), ("newest", .int (n : Int))]
noncomputable abbrev deR (i : Nat) (ps : Ps) (bk : Bk) (ls : List (List Int)) (n J : Nat) : Loc := [("table", tabA i), ("pairs", .dat (psL ps)), ("judge", judge), ("book", .dat (sd (bkL bk))), ("loads", .dat (.list (rowsL ls))), ("newest", .int (n : Int)), ("rows", .mr J)]
noncomputable abbrev deB (i : Nat) (ps : Ps) (bk : Bk) (ls : List (List Int)) (J : Nat) (best : List Int) : Loc := [("table", tabA i), ("pairs", .dat (psL ps)), ("judge", judge), ("book", .dat (sd (bkL bk))), ("loads", .dat (.list (rowsL ls))), ("rows", .mr J), ("best", .dat (.list (iL best)))]
noncomputable abbrev elL (d : Nat) (l : List Int) : Loc := [("desk", .str (dk d)), ("load", .dat (.list (iL l)))]
noncomputable abbrev lcL (ps : Ps) (n : Nat) (l : List Int) : Loc := [("newest", .int (n : Int)), ("pairs", .dat (psL ps)), ("load", .dat (.list (iL l)))]
noncomputable abbrev cmN (ps : Ps) (n : Nat) : Loc := [("newest", .int (n : Int)), ("pairs", .dat (psL ps))]
section
variable {X : Wd} {c : Cx} {k : Nat} {loc : Loc} {σ : List MO}
theorem cpV_inv {t elt : Expr} {src : List MO → Prop} {xs : List AV} {Q : List PyData → Loc → List MO → Prop} (Inv : Nat → List PyData → Loc → List MO → Prop)
    (turn : ∀ i acc x loc σ, xs[i]? = some x → Inv i acc loc σ → src σ ∧ agn X c k t x (fun l1 σ1 => ewp X c k elt (fun v σ3 => ∃ d l', v = .dat d ∧ Subs l' l1 ∧ acc.length < 1000 ∧ Inv (i + 1) (acc ++ [d]) l' σ3) l1 σ1) loc σ)
    (done : ∀ acc loc σ, Inv xs.length acc loc σ → src σ ∧ Q acc loc σ) : ∀ (n i : Nat), xs.length - i = n → i ≤ xs.length → ∀ acc loc σ, Inv i acc loc σ → cpV X c k t elt src Q (xs.drop i) acc loc σ
  | 0, i, hn, hi, acc, loc, σ, h => by
    have : i = xs.length := inv0 hn hi
    subst this
    rw [List.drop_length]
    exact done acc loc σ h
  | n + 1, i, hn, hi, acc, loc, σ, h => by
    have hil : i < xs.length := inv1 hn
    rw [List.drop_eq_getElem_cons hil]
    obtain ⟨h1, h2⟩ := turn i acc xs[i] loc σ (List.getElem?_eq_getElem hil) h
    exact ⟨h1, h2.mono fun l1 σ1 q1 => ewp.mono q1 fun v σ3 ⟨d, l', e, hs, hl, q⟩ => ⟨d, l', e, hs, hl, cpV_inv Inv turn done n (i + 1) (inv2 hn) hil _ _ _ q⟩⟩
theorem cpV_all {t elt : Expr} {src : List MO → Prop} {xs : List AV} {Q : List PyData → Loc → List MO → Prop} (Inv : Nat → List PyData → Loc → List MO → Prop)
    (turn : ∀ i acc x loc σ, xs[i]? = some x → Inv i acc loc σ → src σ ∧ agn X c k t x (fun l1 σ1 => ewp X c k elt (fun v σ3 => ∃ d l', v = .dat d ∧ Subs l' l1 ∧ acc.length < 1000 ∧ Inv (i + 1) (acc ++ [d]) l' σ3) l1 σ1) loc σ)
    (done : ∀ acc loc σ, Inv xs.length acc loc σ → src σ ∧ Q acc loc σ) {acc : List PyData} (h : Inv 0 acc loc σ) : cpV X c k t elt src Q xs acc loc σ := by
  have := cpV_inv Inv turn done xs.length 0 (by omega) (by omega) acc loc σ h
  rwa [List.drop_zero] at this
end
theorem stepLd_len (ls : List (List Int)) (p : Nat) : (stepLd ls p).length = 2 * ls.length := by
  unfold stepLd
  induction ls with
  | nil => rfl
  | cons a r ih => simp only [List.flatMap_cons, List.length_append, List.length_cons, List.length_nil, ih]; omega
theorem abcd_cps : ("abcd" : Str).cps = #[97, 98, 99, 100] := by decide +kernel
theorem signs_abcd : signs "abcd" = (List.range 4).map fun m => AV.str (dk m) := by
  unfold signs
  rw [abcd_cps]; rfl
theorem checkR_iff {rows : List (List Int)} {best : List Int} (h : checkR rows best = true) : firstOf rows (rows.headD []) = best ∧ ∀ k, k = 1 ∨ k = 2 ∨ k = 3 → lmin (rows.map fun r => (r.drop k).sum) = (best.drop k).sum := by
  unfold checkR at h
  simp only [Bool.and_eq_true, beq_iff_eq, List.all_cons, List.all_nil, Bool.and_true] at h
  obtain ⟨h1, h2, h3, h4⟩ := h
  refine ⟨h1, fun k hk => ?_⟩
  rcases hk with rfl | rfl | rfl
  · exact h2
  · exact h3
  · exact h4
noncomputable def fnOf (P : Params) (a : Addr) : Option FuncData := match (pghead.heap_1 P).lookup a with
  | some o => (match o.data with
    | .func fd => some fd
    | _ => none)
  | none => none
noncomputable def bodyOf (P : Params) (a : Addr) : List Stmt := match fnOf P a with
  | some fd => (match fd.body with
    | .stmts b => b
    | _ => [])
  | none => []
noncomputable def scOf (P : Params) (a : Addr) : Scope := match fnOf P a with
  | some fd => fd.scope
  | none => ⟨.function, [], false, false, []⟩
noncomputable def loopOf : List Stmt → List Stmt
  | [] => []
  | .For _ _ b _ _ :: _ => b
  | _ :: r => loopOf r
theorem dealt_turn {X : Wd} (ok : Ok X) {k : Nat} {σ : List MO} {Q : AFl → Loc → List MO → Prop} {i n : Nat} {ps : Ps} (hps : PsOk ps) (hσ : σ[i]? = some (.lst (tabL ps (trj ps n).1))) (hn : n < ps.length)
    (hc : checkR (rowsOf (ldOf ps (n + 1))) (bestOf (trj ps (n + 1)).2) = true) (hcov : ∀ j < n, ∃ o, othT ps (trj ps n).1 j = some o)
    (h : ∀ l' J, Subs (deA i ps (trj ps (n + 1)).2 (ldOf ps (n + 1))) l' → Q .next l' (σ.set i (.lst (tabL ps (trj ps (n + 1)).1)) ++ J)) :
    xwp X ⟨scOf X.w.params 276, ["pairs", "book", "newest", "k"]⟩ (k + 5) (loopOf (bodyOf X.w.params 276)) Q (deN i ps (trj ps n).2 (ldOf ps n) n) σ := by
  have hl5 := hps.len
  have hiσ : i < σ.length := (List.getElem?_eq_some_iff.mp hσ).1
  obtain ⟨hT, hB⟩ := trj_ok hps n (by omega)
  refine xwp_cons (swp_Assign_Name (.inr (by simp)) (ewp_Call (ewp_global rfl (ok.mg rfl) ⟨_, rfl, ok.kp rfl, asp_cons (ewp_name rfl (asp_cons (ewp_name rfl (asp_cons (ewp_name rfl (asp_cons (ewp_name rfl (asp_nil (ksp_nil (place_spec ok hps hT hB hn hcov hσ ?_))))))))))⟩)))
  have hbk : bump (trj ps n).2 (leastOf (trj ps n).2 (waysOf ps (trj ps n).1 n)) = (trj ps (n + 1)).2 := rfl
  have htb : placeTb (trj ps n).1 (wayOf ps (trj ps n).1 (trj ps n).2 n) = (trj ps (n + 1)).1 := rfl
  rw [hbk, htb]
  have hlo : stepLd (ldOf ps n) (pOf ps n) = ldOf ps (n + 1) := rfl
  have hp6 := pOf_lt hps n
  obtain ⟨_, hpa, hpb, _, _⟩ := tab_ascii ⟨_, hp6⟩
  dsimp only at hpa hpb
  have hnum : (ldOf ps n).length ≤ 16 := by
    rw [ld_num]
    have : n ≤ 4 := by omega
    exact Nat.pow_le_pow_right (by decide) this
  have hll := ld_len (ps := ps) n
  have hll' := ld_len (ps := ps) (n + 1)
  have hbest := best_Sm (ps := ps) (n := n + 1) (by omega)
  have hrow := fun r => row_Sm (ps := ps) (n := n + 1) (by omega) (r := r)
  obtain ⟨hrl, hrn⟩ := foldRow (ldOf ps (n + 1)) [] (fun r hr => by cases hr) hll'
  have hne : rowsOf (ldOf ps (n + 1)) ≠ [] := foldRow_ne _ _ (.inr fun e => by
    have := ld_num (ps := ps) (n + 1)
    rw [e] at this
    have h2 := Nat.two_pow_pos (n + 1)
    rw [← this] at h2
    exact absurd h2 (Nat.lt_irrefl _))
  have hrn' : (rowsOf (ldOf ps (n + 1))).length ≤ 32 := by
    have h1 := stepLd_len (ldOf ps n) (pOf ps n)
    rw [hlo] at h1
    have : (rowsOf (ldOf ps (n + 1))).length ≤ (ldOf ps (n + 1)).length := by simpa [rowsOf] using hrn
    omega
  have hrl' : ∀ r ∈ rowsOf (ldOf ps (n + 1)), r.length = 4 := hrl
  obtain ⟨hc1, hc2⟩ := checkR_iff hc
  have hbl := best_len (trj ps (n + 1)).2
  generalize hbe : bestOf (trj ps (n + 1)).2 = best at hc1 hc2 hbest hbl
  generalize (trj ps (n + 1)).1 = tb' at h
  generalize hbk' : (trj ps (n + 1)).2 = bk' at h hbe
  generalize hls : ldOf ps n = ls at hnum hll hlo
  generalize hpp : pOf ps n = p at hp6 hpa hpb hlo
  have hσ1l : i < (σ.set i (.lst (tabL ps tb'))).length := by simpa using hiσ
  generalize σ.set i (.lst (tabL ps tb')) = σ1 at h hσ1l
  -- the loads
  refine xwp_cons (swp_Assign_Comp2 ["newest", "pairs"] ["load", "desk"] (CompOk.of (by rfl)) rfl rfl (ewp_name rfl ⟨_, _, isrc_list, cpO_all (fun j acc loc σ' => σ' = σ1 ∧ loc = cmN ps n ∧ acc = rowsL (stepLd (ls.take j) p)) ?_ ?_ ⟨rfl, rfl, rfl⟩⟩))
  · rintro j acc x loc σ' hx ⟨rfl, rfl, rfl⟩
    simp only [List.getElem?_map, Option.map_map] at hx
    obtain ⟨l, hj, rfl⟩ := Option.map_eq_some_iff.mp hx
    have hl4 := hll l (List.mem_of_getElem? hj)
    refine ⟨trivial, agn_Name (.inr (by simp)) ?_⟩
    refine ewp_Sub (ewp_name rfl (ewp_name rfl ⟨"list", .list, v2_get_list (ps_at hn) (fit5 (Nat.lt_of_lt_of_le hn hl5)) ⟨_, _, isrc_str (isrc_pair _ (pOf_lt hps n)), ?_⟩⟩))
    rw [hpp, signs_pr]
    refine cpV_all (fun t acc loc σ2 => σ2 = σ' ∧ loc = lcL ps n l ∧ acc = rowsL (stepLd (ls.take j) p ++ [addAt l (pa p), addAt l (pb p)].take t)) ?_ ?_ ⟨rfl, rfl, by simp⟩
    · rintro t acc x loc σ2 hx ⟨rfl, rfl, rfl⟩
      obtain ⟨d, hd4, rfl, htk⟩ : ∃ d, d < 4 ∧ x = .str (dk d) ∧ [addAt l (pa p), addAt l (pb p)].take (t + 1) = [addAt l (pa p), addAt l (pb p)].take t ++ [addAt l d] := by
        match t, hx with
        | 0, hx => exact ⟨pa p, hpa, by simpa using hx.symm, rfl⟩
        | 1, hx => exact ⟨pb p, hpb, by simpa using hx.symm, rfl⟩
        | t + 2, hx => simp at hx
      refine ⟨trivial, agn_Name (.inr (by simp)) (ewp_gen fun Q1 hQ1 => ?_)⟩
      refine ewp_Comp ["desk", "load"] [] (CompOk.of (by rfl)) (ewp_Call (ewp_builtin rfl (ok.mgn rfl) rfl ⟨_, rfl, Kp.type, asp_cons (ewp_int (asp_nil (ksp_nil (t_range ⟨_, _, isrc_rng (n := 4) (by decide), by decide, ?_⟩))))⟩))
      refine cpW_all (fun m acc loc σ3 => σ3 = σ2 ∧ loc = elL d l ∧ acc = iL ((addAt l d).take m)) ?_ ?_ ⟨rfl, rfl, rfl⟩
      · rintro m acc x loc σ3 hx ⟨rfl, rfl, rfl⟩
        have hm : m < 4 := by
          have := (List.getElem?_eq_some_iff.mp hx).1
          simpa [prog1] using this
        have hxe : x = .int (m : Int) := by
          rw [show prog1 0 1 4 = (List.range 4).map (fun (i : Nat) => AV.dat (.int (0 + (i : Int) * 1))) from rfl, List.getElem?_map, List.getElem?_range hm] at hx
          simp only [Option.map_some, Option.some.injEq] at hx
          rw [← hx]
          simp
        subst hxe
        refine ⟨trivial, agn_Name (.inl rfl) (ewp_gen fun Q2 hQ2 => ?_)⟩
        refine ewp_BinOp (ewp_Sub (ewp_name rfl (ewp_name rfl ⟨"list", .list, v2_get_list (iL_at (by rw [hl4]; exact hm)) (fit5 (Nat.lt_succ_of_lt hm)) ?_⟩)))
        refine ewp_IfExp (twp_Compare (ewp_Sub (ewp_str (ewp_name rfl ⟨"str", .str, v2_get_str (abcd_at ⟨m, hm⟩) (fit5 (Nat.lt_succ_of_lt hm)) (ewp_name rfl (v2_eq (sh_dk hm) (sh_dk hd4) ⟨_, rfl, ?_⟩))⟩))))
        rw [show (PyData.eqv (.str ⟨#[97 + m]⟩) (.str (dk d))) = decide (m = d) from eqv_dk m d]
        have hta := addAt_take l d hm
        by_cases he : m = d
        · rw [decide_eq_true he]
          refine ewp_int (v2_add (hQ2 _ _ ⟨_, elL d l, rfl, ⟨rfl, rfl, trivial⟩, rfl, rfl, ?_⟩))
          rw [hta, if_pos (by simpa using he)]; simp
        · rw [decide_eq_false he]
          refine ewp_int (v2_add (hQ2 _ _ ⟨_, elL d l, rfl, ⟨rfl, rfl, trivial⟩, rfl, rfl, ?_⟩))
          rw [hta, if_neg (by simpa using he)]; simp
      · rintro acc loc σ3 ⟨rfl, rfl, rfl⟩
        have e : (addAt l d).take (prog1 0 1 4).length = addAt l d := List.take_of_length_le (by rw [addAt_len]; decide)
        rw [e]
        refine ⟨trivial, hQ1 _ _ ⟨_, lcL ps n l, rfl, ⟨rfl, rfl, rfl, trivial⟩, ?_, rfl, rfl, ?_⟩⟩
        · rw [List.length_map, List.length_append, stepLd_len, List.length_take, List.length_take]
          simp only [List.length_cons, List.length_nil]
          omega
        · rw [htk]; simp
    · rintro acc loc σ2 ⟨rfl, rfl, rfl⟩
      refine ⟨trivial, cmN ps n, ⟨rfl, rfl, trivial⟩, rfl, rfl, ?_⟩
      · rw [stepLd_take hj]; rfl
  · rintro acc loc σ' ⟨rfl, rfl, rfl⟩
    refine ⟨trivial, ?_⟩
    rw [List.take_of_length_le (by simp), hlo]
    -- rows
    refine xwp_cons (swp_Assign_Name (.inl rfl) (ewp_ListM (asp_nil ⟨[], rfl, by simp, ?_⟩)))
    generalize hls' : ldOf ps (n + 1) = ls' at *
    refine xwp_cons (swp.mono (swp_ForI (Q := fun fl l' σ2 => fl = .next ∧ Subs (deR i ps bk' ls' n σ'.length) l' ∧ σ2 = σ' ++ [MO.lst (rowsL (rowsOf ls'))]) (ewp_name rfl ⟨_, _, isrc_list,
      fun m loc σ2 => loc = deR i ps bk' ls' n σ'.length ∧ σ2 = σ' ++ [MO.lst (rowsL (rowsOf (ls'.take m)))], ⟨deR i ps bk' ls' n σ'.length, ⟨rfl, rfl, rfl, rfl, rfl, rfl, rfl, trivial⟩, rfl, rfl⟩, ?_, ?_⟩)) ?_)
    · rintro m x loc σ2 hx ⟨rfl, rfl⟩
      refine ⟨trivial, ?_⟩
      simp only [List.getElem?_map, Option.map_map] at hx
      obtain ⟨l, hj, rfl⟩ := Option.map_eq_some_iff.mp hx
      have hl4 := hll' l (List.mem_of_getElem? hj)
      have hsr : (σ' ++ [MO.lst (rowsL (rowsOf (ls'.take m)))])[σ'.length]? = some (.lst (rowsL (rowsOf (ls'.take m)))) := end1
      have hle : (rowsOf (ls'.take m)).length ≤ 1000 := by
        have h1 := (foldRow (ls'.take m) [] (fun r hr => by cases hr) fun l hl => hll' l (List.mem_of_mem_take hl)).2
        have h2 := stepLd_len ls p
        rw [hlo] at h2
        rw [List.length_take] at h1
        have : (rowsOf (ls'.take m)).length ≤ min m ls'.length := by simpa [rowsOf] using h1
        omega
      have hsc := rowsOf_succ hj
      refine agn_Name (.inl rfl) (xwp_gen fun Q3 hQ3 => ?_)
      refine xwp_cons (swp_If (twp_Compare (ewp_Call (ewp_builtin rfl (ok.mgn rfl) rfl ⟨_, rfl, Kp.builtin, asp_cons (ewp_name rfl (asp_nil (ksp_nil (f_sorted .dat (by rw [hl4]; decide) (ewp_name rfl (v2_notin_list (.mr hsr) (rows_lay _) (ints_lay _).1 (by show PyData.depthAll (iL (sortI l)) + 1 ≤ 10; rw [(ints_lay _).2]; decide) ⟨_, rfl, ?_⟩))))))⟩))))
      rw [rows_any]
      unfold putRow at hsc
      cases hb : (rowsOf (ls'.take m)).contains (sortI l) with
      | true =>
        rw [hb, if_pos rfl] at hsc
        refine xwp_nil (xwp_nil (hQ3 .next _ _ ⟨deR i ps bk' ls' n σ'.length, ⟨rfl, rfl, rfl, rfl, rfl, rfl, rfl, trivial⟩, rfl, ?_⟩))
        rw [hsc]
      | false =>
        rw [hb, if_neg Bool.false_ne_true] at hsc
        refine xwp_cons (swp_Expr (ewp_Meth (ewp_name rfl ⟨_, mth_builtin (.mrl hsr) PySem.F.plainAttrs_list slot_list_append type_list_append, Kp.builtin, asp_cons (ewp_Call (ewp_builtin rfl (ok.mgn rfl) rfl ⟨_, rfl, Kp.builtin, asp_cons (ewp_name rfl (asp_nil (ksp_nil (f_sorted .dat (by rw [hl4]; decide) ?_))))⟩))⟩)))
        refine asp_nil (ksp_nil (f_append hsr (by rw [List.length_map]; exact hle) ?_))
        refine xwp_nil (xwp_nil (hQ3 .next _ _ ⟨deR i ps bk' ls' n σ'.length, ⟨rfl, rfl, rfl, rfl, rfl, rfl, rfl, trivial⟩, rfl, ?_⟩))
        rw [hsc]; simp [rowsL]
    · rintro loc σ2 ⟨rfl, rfl⟩
      refine ⟨trivial, rfl, ⟨rfl, rfl, rfl, rfl, rfl, rfl, rfl, trivial⟩, ?_⟩
      rw [List.take_of_length_le (by simp)]
    · rintro fl l' σ2 ⟨rfl, hs, rfl⟩
      refine xwp.sub ?_ hs
      generalize hro : rowsOf ls' = rows at *
      have hsr : (σ' ++ [MO.lst (rowsL rows)])[σ'.length]? = some (.lst (rowsL rows)) := end1
      -- best
      refine xwp_cons (swp_Assign_Name (.inl rfl) (ewp_Call (ewp_builtin rfl (ok.mgn rfl) rfl ⟨_, rfl, Kp.builtin, asp_cons (ewp_Comp ["book"] [] (CompOk.of (by rfl)) (ewp_str ⟨_, _, isrc_str (by decide +kernel), by rw [signs_abcd]; decide, ?_⟩))⟩)))
      rw [signs_abcd]
      refine cpW_all (fun m acc loc σ3 => σ3 = σ' ++ [MO.lst (rowsL rows)] ∧ loc = ([("book", .dat (sd (bkL bk')))] : Loc) ∧ acc = iL (((List.range 4).map fun d => (loadOf bk' d : Int)).take m)) ?_ ?_ ⟨rfl, rfl, rfl⟩
      · rintro m acc x loc σ3 hx ⟨rfl, rfl, rfl⟩
        have hm : m < 4 := by
          have := (List.getElem?_eq_some_iff.mp hx).1
          simpa using this
        rw [List.getElem?_map, List.getElem?_range hm] at hx
        simp only [Option.map_some, Option.some.injEq] at hx
        subst hx
        refine ⟨trivial, agn_Name (.inl rfl) ?_⟩
        refine ewp_Meth (ewp_name rfl ⟨_, mth_builtin .dict PySem.F.plainAttrs_dict PySem.F.slot_dict_get PySem.F.type_dict_get, Kp.builtin, asp_cons (ewp_name rfl (asp_cons (ewp_int (asp_nil (ksp_nil (f_get_sd ?_))))))⟩)
        rw [bk_get]
        refine ⟨_, [("book", .dat (sd (bkL bk')))], rfl, ⟨rfl, trivial⟩, rfl, rfl, ?_⟩
        rw [List.take_add_one, List.getElem?_map, List.getElem?_range hm]
        simp
      · rintro acc loc σ3 ⟨rfl, rfl, rfl⟩
        refine ⟨trivial, ?_⟩
        rw [List.take_of_length_le (by simp)]
        refine asp_nil (ksp_nil (f_sorted .dat (by simp) ?_))
        rw [show sortI ((List.range 4).map fun d => (loadOf bk' d : Int)) = best from hbe]
        obtain ⟨r0, h0, hd0⟩ : ∃ r0, rows[0]? = some r0 ∧ rows.headD [] = r0 := by
          cases hr : rows with
          | nil => exact absurd hr hne
          | cons r0 _ => exact ⟨r0, rfl, rfl⟩
        rw [hd0] at hc1
        refine xwp_cons (swp_If (twp_Compare (ewp_Call (ewp_global rfl (ok.mg rfl) ⟨_, rfl, ok.kp rfl, asp_cons (ewp_name rfl (asp_cons (ewp_name rfl (asp_nil (ksp_nil (first_spec ok hsr h0 hrl' (ewp_name rfl (v2_ne (sh_ints _) (sh_ints _) ⟨_, rfl, ?_⟩))))))))⟩))))
        rw [eqv_ints, hc1, beq_self_eq_true]
        refine xwp_nil ?_
        -- for k
        refine xwp_cons (swp.mono (swp_ForI (Q := fun fl l' σ2 => fl = .next ∧ Subs (deB i ps bk' ls' σ'.length best) l' ∧ σ2 = σ' ++ [MO.lst (rowsL rows)]) (ewp_Tuple (asp_cons (ewp_int (asp_cons (ewp_int (asp_cons (ewp_int (asp_nil ⟨[.int 1, .int 2, .int 3], rfl, by simp, _, _, isrc_tuple,
          fun m loc σ2 => loc = deB i ps bk' ls' σ'.length best ∧ σ2 = σ' ++ [MO.lst (rowsL rows)], ⟨deB i ps bk' ls' σ'.length best, ⟨rfl, rfl, rfl, rfl, rfl, rfl, rfl, trivial⟩, rfl, rfl⟩, ?_, ?_⟩))))))))) ?_)
        · rintro m x loc σ2 hx ⟨rfl, rfl⟩
          obtain ⟨kk, hk, rfl⟩ : ∃ kk : Nat, (kk = 1 ∨ kk = 2 ∨ kk = 3) ∧ x = .int (kk : Int) := by
            match m, hx with
            | 0, hx => exact ⟨1, by simp, by simpa using hx.symm⟩
            | 1, hx => exact ⟨2, by simp, by simpa using hx.symm⟩
            | 2, hx => exact ⟨3, by simp, by simpa using hx.symm⟩
            | m + 3, hx => simp at hx
          refine ⟨trivial, agn_Name (.inr (by simp)) (xwp_gen fun Q4 hQ4 => ?_)⟩
          refine xwp_cons (swp_If (twp_Compare (ewp_Call (ewp_builtin rfl (ok.mgn rfl) rfl ⟨_, rfl, Kp.builtin, asp_cons (ewp_Comp ["k"] [] (CompOk.of (by rfl)) (ewp_name rfl ⟨_, _, isrc_mr hsr, by rw [List.length_map, List.length_map]; exact Nat.le_trans hrn' (by decide), ?_⟩))⟩))))
          refine cpW_all (fun j acc loc σ3 => σ3 = σ' ++ [MO.lst (rowsL rows)] ∧ loc = ([("k", .int (kk : Int))] : Loc) ∧ acc = iL ((rows.take j).map fun r => (r.drop kk).sum)) ?_ ?_ ⟨rfl, rfl, rfl⟩
          · rintro j acc x loc σ3 hx ⟨rfl, rfl, rfl⟩
            simp only [List.getElem?_map, Option.map_map] at hx
            obtain ⟨r, hj, rfl⟩ := Option.map_eq_some_iff.mp hx
            have hrm := List.mem_of_getElem? hj
            have hr4 := hrl' r hrm
            refine ⟨hsr, agn_Name (.inl rfl) (ewp_gen fun Q5 hQ5 => ?_)⟩
            refine ewp_Call (ewp_builtin rfl (ok.mgn rfl) rfl ⟨_, rfl, Kp.builtin, asp_cons (ewp_Slice (ewp_name rfl (ewp_name rfl ⟨_, rfl, _, _, .dat, by rw [List.length_map, hr4]; decide, .from kk, ?_⟩)))⟩)
            rw [← List.map_drop]
            refine asp_nil (ksp_nil (f_sum .dat ((hrow r hrm).drop kk |>.fits (by rw [List.length_drop, hr4]; exact Nat.le_trans (Nat.sub_le _ _) (by decide))) ?_))
            refine hQ5 _ _ ⟨_, [("k", .int (kk : Int))], rfl, ⟨rfl, trivial⟩, rfl, rfl, ?_⟩
            rw [List.take_add_one, hj]
            simp
          · rintro acc loc σ3 ⟨rfl, rfl, rfl⟩
            refine ⟨hsr, ?_⟩
            rw [List.take_of_length_le (by simp)]
            refine asp_nil (ksp_nil (f_min .dat (by simpa using hne) ?_))
            refine ewp_Call (ewp_builtin rfl (ok.mgn rfl) rfl ⟨_, rfl, Kp.builtin, asp_cons (ewp_Slice (ewp_name rfl (ewp_name rfl ⟨_, rfl, _, _, .dat, by rw [List.length_map, hbl]; decide, .from kk, ?_⟩)))⟩)
            rw [← List.map_drop]
            refine asp_nil (ksp_nil (f_sum .dat (hbest.drop kk |>.fits (by rw [List.length_drop, hbl]; exact Nat.le_trans (Nat.sub_le _ _) (by decide))) ?_))
            refine v2_ne rfl rfl ⟨_, rfl, ?_⟩
            rw [hc2 kk hk, show PyData.eqv (.int (best.drop kk).sum) (.int (best.drop kk).sum) = true from beq_self_eq_true (best.drop kk).sum]
            refine xwp_nil (xwp_nil (hQ4 .next _ _ ⟨deB i ps bk' ls' σ'.length best, ⟨rfl, rfl, rfl, rfl, rfl, rfl, rfl, trivial⟩, rfl, rfl⟩))
        · rintro loc σ2 ⟨rfl, rfl⟩
          exact ⟨trivial, rfl, ⟨rfl, rfl, rfl, rfl, rfl, rfl, rfl, trivial⟩, rfl⟩
        · rintro fl l' σ2 ⟨rfl, hs2, rfl⟩
          refine xwp_nil (h _ _ ?_)
          exact ⟨hs2.at _ _ rfl, hs2.at _ _ rfl, hs2.at _ _ rfl, hs2.at _ _ rfl, hs2.at _ _ rfl, trivial⟩
end Mine
end

section -- PgW1
open PySem PySem.W PyProof.Rows PySem.Calls PySem.SeqAt
set_option Elab.async false
set_option maxRecDepth 100000
set_option maxHeartbeats 4000000
namespace Mine
set_option linter.unusedVariables false
theorem dealt_spec {X : Wd} (ok : Ok X) {k : Nat} {σ : List MO} {Q : AV → List MO → Prop} {i : Nat} {ps : Ps} (hps : PsOk ps) (hσ : σ[i]? = some (.lst []))
    (hc : ∀ n < ps.length, checkR (rowsOf (ldOf ps (n + 1))) (bestOf (trj ps (n + 1)).2) = true) (hcov : ∀ n < ps.length, ∀ j < n, ∃ o, othT ps (trj ps n).1 j = some o)
    (h : Q (.dat (sd (bkL (trj ps ps.length).2))) (σ.set i (.lst (tabL ps (trj ps ps.length).1)))) : fwp X (k + 8) (.ref 276) [tabA i, .dat (psL ps)] [] [] Q σ := by
  have hl5 := hps.len
  have hiσ : i < σ.length := (List.getElem?_eq_some_iff.mp hσ).1
  refine fwp_cut (fwp_fn2 ["pairs", "book", "newest", "k"] (ok.at rfl) rfl rfl (by rw [ok.K]; rfl) ?_)
  refine xwp_cons (swp_Assign_Name (.inl rfl) (ewp_Call (ewp_global rfl (ok.mg rfl) ⟨.ref 234, rfl, ok.kp (kp_tc X.w.params), asp_cons (ewp_ListF ?_)⟩)))
  refine asp_cons (ewp_Tuple (asp_cons (ewp_int (asp_cons (ewp_int (asp_nil ⟨[.int 3, .int 1], rfl, by simp, ?_⟩))))))
  refine asp_cons (ewp_Tuple (asp_cons (ewp_int (asp_cons (ewp_int (asp_nil ⟨[.int 2, .int 1], rfl, by simp, ?_⟩))))))
  refine asp_cons (ewp_Tuple (asp_cons (ewp_int (asp_cons (ewp_int (asp_nil ⟨[.int 1, .int 1], rfl, by simp, ?_⟩))))))
  refine asp_cons (ewp_Tuple (asp_cons (ewp_int (asp_cons (ewp_int (asp_nil ⟨[.int 0, .int 1], rfl, by simp, ?_⟩))))))
  refine asp_nil ⟨[.tuple [.int 3, .int 1], .tuple [.int 2, .int 1], .tuple [.int 1, .int 1], .tuple [.int 0, .int 1]], rfl, by simp, asp_nil (ksp_nil (tc_spec ok ?_))⟩
  refine xwp_cons (swp_Assign_Name (.inr (by decide)) (ewp_DictF ?_))
  refine xwp_cons (swp_Assign_Name (.inl rfl) (ewp_ListF (asp_cons (ewp_ListF (asp_cons (ewp_int (asp_cons (ewp_int (asp_cons (ewp_int (asp_cons (ewp_int (asp_nil ⟨[.int 0, .int 0, .int 0, .int 0], rfl, by simp, asp_nil ⟨[.list [.int 0, .int 0, .int 0, .int 0]], rfl, by simp, ?_⟩⟩)))))))))))))
  refine xwp_cons (swp.mono (swp_ForI (Q := fun fl l' σ' => fl = .next ∧ Subs (deA i ps (trj ps ps.length).2 (ldOf ps ps.length)) l' ∧ ∃ J, σ' = σ.set i (.lst (tabL ps (trj ps ps.length).1)) ++ J)
    (ewp_Call (ewp_builtin rfl (ok.mgn rfl) rfl ⟨_, rfl, Kp.type, asp_cons (ewp_Call (ewp_builtin rfl (ok.mgn rfl) rfl ⟨_, rfl, Kp.builtin, asp_cons (ewp_name rfl (asp_nil (ksp_nil (f_len .dat (by rw [List.length_map]; omega) ?_))))⟩))⟩)) ) ?_)
  · refine asp_nil (ksp_nil (t_range ?_))
    rw [List.length_map]
    refine ⟨_, _, isrc_rng (by omega), fun m loc σ' => loc = deA i ps (trj ps m).2 (ldOf ps m) ∧ ∃ J, σ' = σ.set i (.lst (tabL ps (trj ps m).1)) ++ J, ⟨deA i ps (trj ps 0).2 (ldOf ps 0), ⟨rfl, rfl, rfl, rfl, rfl, trivial⟩, rfl, [], ?_⟩, ?_, ?_⟩
    · show σ = σ.set i (.lst []) ++ []
      rw [List.append_nil, set_same hσ]
    · rintro m x loc σ' hx ⟨rfl, J, rfl⟩
      have hm : m < ps.length := by
        have := (List.getElem?_eq_some_iff.mp hx).1
        simpa [prog1] using this
      have hxe : x = .int (m : Int) := by
        rw [show prog1 0 1 ps.length = (List.range ps.length).map (fun (i : Nat) => AV.dat (.int (0 + (i : Int) * 1))) from rfl, List.getElem?_map, List.getElem?_range hm] at hx
        simp only [Option.map_some, Option.some.injEq] at hx
        rw [← hx]
        simp
      subst hxe
      refine ⟨trivial, agn_Name (.inr (by simp)) ?_⟩
      have hσ1 : (σ.set i (.lst (tabL ps (trj ps m).1)) ++ J)[i]? = some (.lst (tabL ps (trj ps m).1)) := by
        rw [List.getElem?_append_left (by simpa using hiσ)]; exact List.getElem?_set_self hiσ
      refine dealt_turn (k := k + 2) ok hps hσ1 hm (hc m hm) (hcov m hm) ?_
      intro l' J' hs
      refine ⟨deA i ps (trj ps (m + 1)).2 (ldOf ps (m + 1)), hs, rfl, J ++ J', ?_⟩
      rw [List.set_append_left _ _ (by simpa using hiσ), List.set_set, List.append_assoc]
    · rintro loc σ' ⟨rfl, J, rfl⟩
      have e : (prog1 0 1 ps.length).length = ps.length := by simp [prog1]
      rw [e]
      exact ⟨trivial, rfl, ⟨rfl, rfl, rfl, rfl, rfl, trivial⟩, J, rfl⟩
  · rintro fl l' σ' ⟨rfl, hs, J, rfl⟩
    refine xwp.sub ?_ hs
    refine xwp_cons (swp_Return (ewp_name rfl ⟨_, rfl, ?_⟩))
    rw [List.take_append_of_le_length (by simp), List.take_of_length_le (by simp)]
    exact h
end Mine
end

section -- PgZ1
open PySem PySem.W PyProof.Rows PySem.Calls PySem.SeqAt PySem.Builtin.Str
set_option Elab.async false
set_option maxRecDepth 100000
set_option maxHeartbeats 4000000
namespace Mine
set_option linter.unusedVariables false
theorem tab_cut : ∀ p : Fin 6, ∀ d : Fin 4, ∀ n : Fin 5, cutFrom (spell p n d) 2 = ⟨#[48 + n.val]⟩ ∧ (slicePicked (spell p n d) (some (2, 0)) none none).length ≠ (spell p n d).length := by decide +kernel
theorem tab_dig : ∀ n : Fin 5, PySem.intText? ⟨#[48 + n.val]⟩ = some ((n.val : Nat) : Int) := by decide +kernel
theorem tab_oth : ∀ p : Fin 6, ∀ d : Fin 4, isIn p d = true → oth p (oth p d) = d ∧ oth p d < 4 := by decide +kernel
theorem tab_shs : ∀ p : Fin 6, ∀ d : Fin 4, ∀ n : Fin 5, SeqAt.shaped (.str (spell p n d)) = true := by decide +kernel
noncomputable def toldB (tb : Tb) : Bk := tb.foldl (fun b e => bump b e.2) []
theorem toldB_succ {tb : Tb} {j : Nat} {e : Nat × Nat} (h : tb[j]? = some e) : toldB (tb.take (j + 1)) = bump (toldB (tb.take j)) e.2 := by
  unfold toldB
  rw [List.take_add_one, h]
  simp [List.foldl_append]
theorem toldB_ok : ∀ (tb : Tb) (b : Bk), BkOk b → (∀ e ∈ tb, e.2 < 4) → BkOk (tb.foldl (fun b e => bump b e.2) b)
  | [], b, h, _ => h
  | e :: tb, b, h, ht => by
    rw [List.foldl_cons]
    exact toldB_ok tb _ (h.bump (ht e List.mem_cons_self)) fun e' h' => ht e' (List.mem_cons_of_mem _ h')
theorem BkOk.nil : BkOk [] := ⟨by simp, fun e he => (by cases he), by simp⟩
theorem bump_put (bk : Bk) (d : Nat) : dput (dk d) (.int ((loadOf bk d : Int) + 1)) (bkL bk) = bkL (bump bk d) := by
  unfold loadOf
  cases h : bk.lookup d with
  | none => exact bump_new h
  | some c => exact bump_old h
noncomputable abbrev toL (i J : Nat) (ps : Ps) : Loc := [("table", tabA i), ("pairs", .dat (psL ps)), ("book", .mr J), ("seen", .mr (J + 1))]
theorem told_spec {X : Wd} (ok : Ok X) {k : Nat} {σ : List MO} {Q : AV → List MO → Prop} {i : Nat} {ps : Ps} {tb : Tb} (hps : PsOk ps) (h5 : ps.length = 5) (ht : TbN ps tb) (hσ : σ[i]? = some (.lst (tabL ps tb)))
    (hs : sortI (tb.map fun e => (e.1 : Int)) = (List.range ps.length).map fun (i : Nat) => (i : Int))
    (h : Q (.dat (sd (bkL (toldB tb)))) σ) : fwp X (k + 3) (.ref 283) [tabA i, .dat (psL ps)] [] [] Q σ := by
  have hiσ : i < σ.length := (List.getElem?_eq_some_iff.mp hσ).1
  have hlt : ∀ e ∈ tb, e.2 < 4 := fun e he => isIn_lt (pOf_lt hps e.1) (ht.isIn e he)
  have hlen := ht.ok.len
  refine fwp_cut (fwp_freeze (fwp_fn2 [] (ok.at rfl) rfl rfl (by rw [ok.K]; rfl) ?_))
  refine xwp_cons (swp_Assign_Name (.inl rfl) (ewp_DictE ?_))
  refine xwp_cons (swp_Assign_Name (.inl rfl) (ewp_ListM (asp_nil ⟨[], rfl, by simp, ?_⟩)))
  rw [show (σ ++ [MO.dict []]).length = σ.length + 1 by simp, List.append_assoc]
  have hσ0 : (σ ++ ([MO.dict []] ++ [MO.lst []]))[i]? = some (.lst (tabL ps tb)) := by rw [List.getElem?_append_left hiσ]; exact hσ
  refine xwp_cons (swp.mono (swp_ForI (Q := fun fl l' σ' => fl = .next ∧ Subs (toL i σ.length ps) l' ∧ σ' = σ ++ ([.dict (bkL (toldB tb))] ++ [.lst (iL (tb.map fun e => (e.1 : Int)))]))
    (ewp_Meth0 (ewp_name rfl ⟨_, mth_inst ok.hd.g (f := 135) (by rw [ok.K]; rfl) (by rw [ok.K]; rfl) (by decide), ok.kp rfl, items_spec ok ht.ok hσ0 ⟨_, _, isrc_list,
    fun j loc σ' => loc = toL i σ.length ps ∧ σ' = σ ++ ([.dict (bkL (toldB (tb.take j)))] ++ [.lst (iL ((tb.take j).map fun e => (e.1 : Int)))]), ⟨toL i σ.length ps, ⟨rfl, rfl, rfl, rfl, trivial⟩, rfl, rfl⟩, ?_, ?_⟩⟩)) ) ?_)
  · rintro j x loc σ' hx ⟨rfl, rfl⟩
    refine ⟨trivial, ?_⟩
    simp only [List.getElem?_map, Option.map_map] at hx
    obtain ⟨⟨n, d⟩, hj, rfl⟩ := Option.map_eq_some_iff.mp hx
    have hem := List.mem_of_getElem? hj
    have hn := ht.lt _ hem
    have hin := ht.isIn _ hem
    have hd := hlt _ hem
    dsimp only at hn hin hd
    have hp6 := pOf_lt hps n
    obtain ⟨c1, c2⟩ := tab_cut ⟨_, hp6⟩ ⟨d, hd⟩ ⟨n, hn⟩
    obtain ⟨o1, o2⟩ := tab_oth ⟨_, hp6⟩ ⟨d, hd⟩ hin
    have hsh := tab_shs ⟨_, hp6⟩ ⟨d, hd⟩ ⟨n, hn⟩
    obtain ⟨_, _, r3, r4⟩ := tab_repl ⟨_, hp6⟩ ⟨_, o2⟩ isIn_oth
    dsimp only at c1 c2 o1 o2 hsh r3 r4
    rw [o1] at r4
    have hbd : σ.length < (σ ++ ([MO.dict (bkL (toldB (tb.take j)))] ++ [MO.lst (iL ((tb.take j).map fun e => (e.1 : Int)))])).length := by simp
    have hsb : (σ ++ ([MO.dict (bkL (toldB (tb.take j)))] ++ [MO.lst (iL ((tb.take j).map fun e => (e.1 : Int)))]))[σ.length]? = some (.dict (bkL (toldB (tb.take j)))) := end2a
    have hbk := toldB_ok (tb.take j) [] BkOk.nil fun e he => hlt e (List.mem_of_mem_take he)
    refine agn_Tuple (fun _ => rfl) rfl (agn_Name (.inl rfl) (agn_Name (.inl rfl) (xwp_gen fun Q1 hQ1 => ?_)))
    refine xwp_cons (swp_Assign_Name (.inl rfl) (ewp_Call (ewp_builtin rfl (ok.mgn rfl) rfl ⟨_, rfl, Kp.type, asp_cons (ewp_SliceS (ewp_name rfl (ewp_int ⟨_, 2, rfl, rfl, ?_, c2, ?_⟩)))⟩)))
    · rw [c1]; show 1 ≤ 1000; decide
    rw [c1]
    refine asp_nil (ksp_nil (t_int (tab_dig ⟨n, hn⟩) (by show 1 ≤ 640; decide) ?_))
    refine xwp_cons (swp_Assign_Name (.inl rfl) (ewp_Replace (ewp_Sub (ewp_name rfl (ewp_name rfl ⟨"list", .list, v2_get_list (ps_at (by rw [h5]; exact hn)) (fit5 hn) ⟨_, rfl, ewp_name rfl ⟨_, rfl, ewpF_str ?_⟩⟩⟩)))))
    refine ⟨(tab_upper ⟨_, o2⟩).2.2, r3, ?_, ?_⟩
    · rw [show Str.ofString "" = Str.empty from rfl, r4]; show 1 ≤ 1000; decide
    rw [show Str.ofString "" = Str.empty from rfl, r4]
    refine xwp_cons (swp_If (twp_Compare (ewp_name rfl (ewp_Call (ewp_global rfl (ok.mg rfl) ⟨_, rfl, ok.kp rfl, asp_cons (ewp_Sub (ewp_name rfl (ewp_name rfl ⟨"list", .list, v2_get_list (ps_at (by rw [h5]; exact hn)) (fit5 hn) ?_⟩)))⟩)))))
    refine asp_cons (ewp_name rfl (asp_cons (ewp_name rfl (asp_nil (ksp_nil (spelled_spec ok hp6 hn hin ?_))))))
    refine v2_ne hsh hsh ⟨_, rfl, ?_⟩
    rw [show PyData.eqv (.str (spell (pOf ps n) n d)) (.str (spell (pOf ps n) n d)) = true from beq_self_eq_true (spell (pOf ps n) n d)]
    refine xwp_nil ?_
    refine xwp_cons (swp_Assign_Sub (ewp_BinOp (ewp_Meth (ewp_name rfl ⟨_, mth_builtin (.mrd hsb) PySem.F.plainAttrs_dict PySem.F.slot_dict_get PySem.F.type_dict_get, Kp.builtin, asp_cons (ewp_name rfl (asp_cons (ewp_int (asp_nil (ksp_nil (f_get_mrd hsb ?_))))))⟩))))
    rw [bk_get]
    refine ewp_int (v2_add (ewp_name rfl (ewp_name rfl (v3_set_mrd hsb (by rw [List.length_map]; have := hbk.len; unfold toldB; omega) ?_))))
    rw [bump_put, ← toldB_succ hj]
    have hss : ((σ ++ ([MO.dict (bkL (toldB (tb.take j)))] ++ [MO.lst (iL ((tb.take j).map fun e => (e.1 : Int)))])).set σ.length (MO.dict (bkL (toldB (tb.take (j + 1)))))) = σ ++ ([MO.dict (bkL (toldB (tb.take (j + 1))))] ++ [MO.lst (iL ((tb.take j).map fun e => (e.1 : Int)))]) := endS2a
    rw [hss]
    have hsl : (σ ++ ([MO.dict (bkL (toldB (tb.take (j + 1))))] ++ [MO.lst (iL ((tb.take j).map fun e => (e.1 : Int)))]))[σ.length + 1]? = some (.lst (iL ((tb.take j).map fun e => (e.1 : Int)))) := end2b
    refine xwp_cons (swp_Expr (ewp_Meth (ewp_name rfl ⟨_, mth_builtin (.mrl hsl) PySem.F.plainAttrs_list slot_list_append type_list_append, Kp.builtin, asp_cons (ewp_name rfl (asp_nil (ksp_nil (f_append hsl ?_ ?_))))⟩)))
    · rw [List.length_map, List.length_map, List.length_take]; omega
    refine xwp_nil (hQ1 .next _ _ ⟨toL i σ.length ps, ⟨rfl, rfl, rfl, rfl, trivial⟩, rfl, ?_⟩)
    rw [List.set_append_right _ _ (by omega), List.take_add_one (l := tb), hj]
    simp
  · rintro loc σ' ⟨rfl, rfl⟩
    refine ⟨trivial, rfl, ⟨rfl, rfl, rfl, rfl, trivial⟩, ?_⟩
    rw [List.take_of_length_le (by simp)]
  · rintro fl l' σ' ⟨rfl, hsu, rfl⟩
    refine xwp.sub ?_ hsu
    have hsl : (σ ++ ([MO.dict (bkL (toldB tb))] ++ [MO.lst (iL (tb.map fun e => (e.1 : Int)))]))[σ.length + 1]? = some (.lst (iL (tb.map fun e => (e.1 : Int)))) := end2b
    have hn5 : tb.length ≤ 5 := by
      have := nodup_lt 5 (tb.map (·.1)) ht.nd fun x hx => by
        obtain ⟨e, he, rfl⟩ := List.mem_map.mp hx
        exact ht.lt e he
      simpa using this
    refine xwp_cons (swp_Return (ewp_IfExp (twp_Compare (ewp_Call (ewp_builtin rfl (ok.mgn rfl) rfl ⟨_, rfl, Kp.builtin, asp_cons (ewp_name rfl (asp_nil (ksp_nil (f_sorted (.mr hsl) (by rw [List.length_map]; omega) ?_))))⟩)))))
    refine ewp_Call (ewp_builtin rfl (ok.mgn rfl) rfl ⟨_, rfl, Kp.type, asp_cons (ewp_Call (ewp_builtin rfl (ok.mgn rfl) rfl ⟨_, rfl, Kp.type, asp_cons (ewp_Call (ewp_builtin rfl (ok.mgn rfl) rfl ⟨_, rfl, Kp.builtin, asp_cons (ewp_name rfl (asp_nil (ksp_nil (f_len .dat (by rw [List.length_map]; omega) (asp_nil (ksp_nil (t_range ?_)))))))⟩))⟩))⟩)
    rw [List.length_map]
    refine asp_nil (ksp_nil (f_list_rng (by omega) (v2_eq (sh_ints _) (sh_ints _) ⟨_, rfl, ?_⟩)))
    rw [eqv_ints, hs, beq_self_eq_true]
    refine ewp_name rfl ⟨σ.length, bkL (toldB tb), rfl, by simp, _, rfl, ?_⟩
    simpa using h
end Mine
end

section -- PgA2
open PySem PySem.W PyProof.Rows PySem.Calls PySem.SeqAt
set_option Elab.async false
set_option maxRecDepth 100000
set_option maxHeartbeats 4000000
namespace Mine
set_option linter.unusedVariables false
theorem six_pr : (["ab", "ac", "ad", "bc", "bd", "cd"] : List Str) = (List.range 6).map pr := by decide +kernel
theorem six_at {q : Nat} (h : q < 6) : ([.str "ab", .str "ac", .str "ad", .str "bc", .str "bd", .str "cd"] : List PyData)[q]? = some (.str (pr q)) := by
  have e : ([.str "ab", .str "ac", .str "ad", .str "bc", .str "bd", .str "cd"] : List PyData) = (List.map PyData.str ["ab", "ac", "ad", "bc", "bd", "cd"]) := rfl
  rw [e, six_pr, List.map_map, List.getElem?_map, List.getElem?_range h]; rfl
noncomputable def numsOf (ns : List Int) : List Int := ns.take 5 ++ [0, 1, 2, 3, 0].drop (ns.take 5).length
noncomputable def psOf (ns : List Int) : Ps := (numsOf ns).map fun a => (a.fmod 6).toNat
theorem nums_len (ns : List Int) : (numsOf ns).length = 5 := by
  unfold numsOf
  rw [List.length_append, List.length_drop, List.length_take]
  simp only [List.length_cons, List.length_nil]
  omega
theorem mod_lt (a : Int) : (a.fmod 6).toNat < 6 ∧ a.fmod 6 = ((a.fmod 6).toNat : Int) := by
  have h1 := Int.fmod_nonneg_of_pos a (b := 6) (by decide)
  have h2 := Int.fmod_lt_of_pos a (b := 6) (by decide)
  omega
theorem ps_ok (ns : List Int) : PsOk (psOf ns) ∧ (psOf ns).length = 5 := by
  have h5 : (psOf ns).length = 5 := by unfold psOf; rw [List.length_map, nums_len]
  refine ⟨⟨fun p hp => ?_, by omega⟩, h5⟩
  unfold psOf at hp
  obtain ⟨a, _, rfl⟩ := List.mem_map.mp hp
  exact (mod_lt a).1
structure Plain (ps : Ps) : Prop where
  c : ∀ n < ps.length, checkR (rowsOf (ldOf ps (n + 1))) (bestOf (trj ps (n + 1)).2) = true
  cov : ∀ n < ps.length, ∀ j < n, ∃ o, othT ps (trj ps n).1 j = some o
  s : sortI ((trj ps ps.length).1.map fun e => (e.1 : Int)) = (List.range ps.length).map fun (i : Nat) => (i : Int)
  e : ((toldB (trj ps ps.length).1).length == (trj ps ps.length).2.length && hitsB (trj ps ps.length).2 (toldB (trj ps ps.length).1)) = true
noncomputable abbrev laA (ns : List Int) : Loc := [("script", .dat (.list (iL ns))), ("numbers", .dat (.list (iL (numsOf ns))))]
theorem law_body {X : Wd} (ok : Ok X) {k : Nat} {Q : AFl → Loc → List MO → Prop} {ns : List Int} (hns : ns.length ≤ 63) (P : Plain (psOf ns)) (h : ∀ l σ, Q (.ret (.bool true)) l σ) :
    xwp X ⟨scOf X.w.params 288, []⟩ (k + 9) (bodyOf X.w.params 288) Q [("script", .dat (.list (iL ns)))] [] := by
  obtain ⟨hps, h5⟩ := ps_ok ns
  have ht : (iL ns).take 5 = iL (ns.take 5) := List.map_take.symm
  have hl : (iL ns).length ≤ 1000 := by rw [List.length_map]; omega
  have hl5 : (ns.take 5).length ≤ 5 := by rw [List.length_take]; omega
  refine xwp_cons (swp_Assign_Name (.inl rfl) (ewp_BinOp (ewp_Slice (ewp_name rfl (ewp_int ⟨5, rfl, _, _, .dat, hl, .upto 5, ?_⟩)))))
  refine ewp_Slice (ewp_ListF (asp_cons (ewp_int (asp_cons (ewp_int (asp_cons (ewp_int (asp_cons (ewp_int (asp_cons (ewp_int (asp_nil ⟨[.int 0, .int 1, .int 2, .int 3, .int 0], rfl, by simp, ?_⟩))))))))))))
  refine ewp_Call (ewp_builtin rfl (ok.mgn rfl) rfl ⟨_, rfl, Kp.builtin, asp_cons (ewp_Slice (ewp_name rfl (ewp_int ⟨5, rfl, _, _, .dat, hl, .upto 5, asp_nil (ksp_nil (f_len .dat (by rw [ht, List.length_map]; omega) ?_))⟩)))⟩)
  refine ⟨_, rfl, _, _, .dat, by simp, .from _, ?_⟩
  rw [ht, List.length_map]
  have hd : ([.int 0, .int 1, .int 2, .int 3, .int 0] : List PyData).drop (ns.take 5).length = iL ([0, 1, 2, 3, 0].drop (ns.take 5).length) := by
    show (iL [0, 1, 2, 3, 0]).drop _ = _
    exact List.map_drop.symm
  rw [hd]
  refine v2_addl (by rw [List.length_map, List.length_map, List.length_drop]; simp only [List.length_cons, List.length_nil]; omega) ?_
  have hn : iL (ns.take 5) ++ iL ([0, 1, 2, 3, 0].drop (ns.take 5).length) = iL (numsOf ns) := by unfold numsOf; exact List.map_append.symm
  rw [hn]
  refine xwp_cons (swp_Assign_Comp [] [] false (CompOk.of (by rfl)) rfl rfl (ewp_name rfl ⟨_, _, isrc_list, by rw [List.length_map, List.length_map, nums_len]; decide, ?_⟩))
  refine cpW_all (fun j acc loc σ' => σ' = [] ∧ loc = ([] : Loc) ∧ acc = ((psOf ns).take j).map fun p => .str (pr p)) ?_ ?_ ⟨rfl, rfl, rfl⟩
  · rintro j acc x loc σ' hx ⟨rfl, rfl, rfl⟩
    simp only [List.getElem?_map, Option.map_map] at hx
    obtain ⟨a, hj, rfl⟩ := Option.map_eq_some_iff.mp hx
    obtain ⟨m1, m2⟩ := mod_lt a
    refine ⟨trivial, agn_Name (.inl rfl) ?_⟩
    refine ewp_Sub (ewp_ListF (asp_cons (ewp_str (asp_cons (ewp_str (asp_cons (ewp_str (asp_cons (ewp_str (asp_cons (ewp_str (asp_cons (ewp_str (asp_nil ⟨[.str "ab", .str "ac", .str "ad", .str "bc", .str "bd", .str "cd"], rfl, by simp, ?_⟩))))))))))))))
    refine ewp_BinOp (ewp_name rfl (ewp_int (v2_mod (by decide) ?_)))
    rw [m2]
    refine ⟨"list", .list, v2_get_list (six_at m1) (by omega) ⟨_, [], rfl, trivial, rfl, rfl, ?_⟩⟩
    have hp : (psOf ns)[j]? = some (a.fmod 6).toNat := by unfold psOf; rw [List.getElem?_map, hj]; rfl
    rw [List.take_add_one, hp]; simp
  · rintro acc loc σ' ⟨rfl, rfl, rfl⟩
    refine ⟨trivial, ?_⟩
    rw [List.take_of_length_le (by rw [h5, List.length_map, List.length_map, nums_len]; decide)]
    show xwp X _ _ _ _ (put "pairs" (.dat (psL (psOf ns))) (laA ns)) []
    generalize psOf ns = ps at hps h5 P
    refine xwp_cons (swp_Assign_Name (.inl rfl) (ewp_Call (ewp_global rfl (ok.mg rfl) ⟨.ref 171, rfl, ok.kp (kp_hd X.w.params), asp_cons (ewp_ListM (asp_nil ⟨[], rfl, by simp, asp_nil (ksp_nil (hd_spec ok rfl ?_))⟩))⟩)))
    refine xwp_cons (swp_Assign_Name (.inl rfl) (ewp_Call (ewp_global rfl (ok.mg rfl) ⟨_, rfl, ok.kp rfl, asp_cons (ewp_name rfl (asp_cons (ewp_name rfl (asp_nil (ksp_nil (dealt_spec ok hps rfl P.c P.cov ?_))))))⟩)))
    obtain ⟨hT, hB⟩ := trj_ok hps ps.length (Nat.le_refl _)
    refine xwp_cons (swp_Return (ewp_And (ewp_Compare (ewp_name rfl (ewp_none (v2_isnot_none .dict (by decide) (vt_bool ?_)))))))
    refine ewp_Compare (ewp_Call (ewp_global rfl (ok.mg rfl) ⟨_, rfl, ok.kp rfl, asp_cons (ewp_name rfl (asp_cons (ewp_name rfl (asp_nil (ksp_nil (told_spec ok hps h5 hT rfl P.s (ewp_name rfl (v2_eq_bk ?_))))))))⟩))
    rw [P.e]
    exact h _ _
end Mine
end

section -- PgC2
open PySem PySem.W PyProof.Rows PySem.Calls PySem.SeqAt
set_option Elab.async false
set_option maxRecDepth 100000
namespace Mine
set_option linter.unusedVariables false
section
variable {α : Type} {lt : α → α → Bool}
theorem set_same_at {h : List α} {p : Nat} {x : α} (hp : p < h.length) : (h.set p x)[p]? = some x := List.getElem?_set_self hp
theorem sdown_keeps {new : α} {start : Nat} : ∀ (f : Nat) (h : List α) (p : Nat), p < h.length → new ∈ sdown lt new start f h p ∧ ∀ i x, i ≠ p → h[i]? = some x → x ∈ sdown lt new start f h p
  | 0, h, p, hp => ⟨List.mem_of_getElem? (set_same_at hp), fun i x hi hx => List.mem_of_getElem? (i := i) (by unfold sdown; rw [List.getElem?_set_ne (Ne.symm hi)]; exact hx)⟩
  | f + 1, h, p, hp => by
    have base : new ∈ h.set p new ∧ ∀ i x, i ≠ p → h[i]? = some x → x ∈ h.set p new :=
      ⟨List.mem_of_getElem? (set_same_at hp), fun i x hi hx => List.mem_of_getElem? (i := i) (by rw [List.getElem?_set_ne (Ne.symm hi)]; exact hx)⟩
    unfold sdown
    split
    · rename_i hs
      have hq : (p - 1) / 2 < h.length := by omega
      rw [List.getElem?_eq_getElem hq]
      dsimp only
      split
      · have hpl : (p - 1) / 2 < (h.set p h[(p - 1) / 2]).length := by simpa using hq
        obtain ⟨h1, h2⟩ := sdown_keeps f (h.set p h[(p - 1) / 2]) ((p - 1) / 2) hpl
        refine ⟨h1, fun i x hi hx => ?_⟩
        by_cases he : i = (p - 1) / 2
        · subst he
          rw [List.getElem?_eq_getElem hq] at hx
          cases hx
          exact h2 p _ (by omega) (set_same_at hp)
        · exact h2 i x he (by rw [List.getElem?_set_ne (Ne.symm hi)]; exact hx)
      · exact base
    · exact base
theorem kid_ne (h : List α) (p : Nat) : kid lt h p ≠ p := by
  unfold kid
  split
  · split <;> omega
  · omega
theorem sup_keeps : ∀ (f : Nat) (h : List α) (p : Nat), p < h.length → (sup lt f h p).2 < (sup lt f h p).1.length ∧ ∀ i x, i ≠ p → h[i]? = some x → ∃ i', i' ≠ (sup lt f h p).2 ∧ (sup lt f h p).1[i']? = some x
  | 0, h, p, hp => ⟨hp, fun i x hi hx => ⟨i, hi, hx⟩⟩
  | f + 1, h, p, hp => by
    unfold sup
    split
    · split
      · rename_i x hx
        have hq := (List.getElem?_eq_some_iff.mp hx).1
        have hql : kid lt h p < (h.set p x).length := by simpa using hq
        obtain ⟨h1, h2⟩ := sup_keeps f (h.set p x) (kid lt h p) hql
        refine ⟨h1, fun i y hi hy => ?_⟩
        by_cases he : i = kid lt h p
        · subst he
          rw [hx] at hy
          cases hy
          exact h2 p _ (Ne.symm (kid_ne h p)) (set_same_at hp)
        · exact h2 i y he (by rw [List.getElem?_set_ne (Ne.symm hi)]; exact hy)
      · exact ⟨hp, fun i x hi hx => ⟨i, hi, hx⟩⟩
    · exact ⟨hp, fun i x hi hx => ⟨i, hi, hx⟩⟩
theorem siftup_keeps {h : List α} {p : Nat} {new : α} (hp : p < h.length) : new ∈ siftup lt h p new ∧ ∀ i x, i ≠ p → h[i]? = some x → x ∈ siftup lt h p new := by
  obtain ⟨h1, h2⟩ := sup_keeps (lt := lt) h.length h p hp
  unfold siftup
  obtain ⟨h3, h4⟩ := sdown_keeps (lt := lt) (new := new) (start := p) (sup lt h.length h p).2 ((sup lt h.length h p).1.set (sup lt h.length h p).2 new) (sup lt h.length h p).2 (by simpa using h1)
  refine ⟨h3, fun i x hi hx => ?_⟩
  obtain ⟨i', hi', hx'⟩ := h2 i x hi hx
  exact h4 i' x hi' (by rw [List.getElem?_set_ne (Ne.symm hi')]; exact hx')
theorem hpush_keeps {h : List α} {x : α} : x ∈ hpush lt h x ∧ ∀ y ∈ h, y ∈ hpush lt h x := by
  unfold hpush
  obtain ⟨h1, h2⟩ := sdown_keeps (lt := lt) (new := x) (start := 0) h.length (h ++ [x]) h.length (by simp)
  refine ⟨h1, fun y hy => ?_⟩
  obtain ⟨i, hi, rfl⟩ := List.getElem_of_mem hy
  exact h2 i _ (by omega) (by rw [List.getElem?_append_left hi]; exact List.getElem?_eq_getElem hi)
theorem hpop_keeps {r : List α} {l : α} : ∀ a ∈ l :: r, a = (hpop lt r l).1 ∨ a ∈ (hpop lt r l).2 := by
  intro a ha
  cases r with
  | nil => exact .inl (List.mem_singleton.mp ha)
  | cons x r =>
    unfold hpop
    dsimp only
    obtain ⟨h1, h2⟩ := siftup_keeps (lt := lt) (h := (x :: r).set 0 l) (p := 0) (new := l) (by simp)
    rcases List.mem_cons.mp ha with e | ha
    · rw [e]; exact .inr h1
    rcases List.mem_cons.mp ha with e | ha
    · exact .inl e
    obtain ⟨i, hi, rfl⟩ := List.getElem_of_mem ha
    exact .inr (h2 (i + 1) _ (by omega) (by simp [List.getElem?_eq_getElem hi]))
end
section
variable {α : Type} {lt : α → α → Bool} (tr : ∀ a b c, lt a b = true → lt c b = false → lt a c = true)
include tr
theorem sdown_head {new h0 : α} : ∀ (f : Nat) (h : List α) (p : Nat), p ≤ f → p < h.length → 0 < p → h[0]? = some h0 → (∀ i y, i ≠ p → h[i]? = some y → lt y h0 = false) → (sdown lt new 0 f h p)[0]? = some (if lt new h0 = true then new else h0)
  | 0, h, p, hf, hp, h1, _, _ => absurd h1 (Nat.not_lt.mpr hf)
  | f + 1, h, p, hf, hp, h1, h2, h3 => by
    unfold sdown
    rw [if_pos h1]
    have hq : (p - 1) / 2 < h.length := half_lt hp
    have hqp : (p - 1) / 2 ≠ p := Nat.ne_of_lt (half_dec h1)
    have hno := h3 ((p - 1) / 2) _ hqp (List.getElem?_eq_getElem hq)
    rw [List.getElem?_eq_getElem hq]
    dsimp only
    have hz : h[(p - 1) / 2]? = some h[(p - 1) / 2] := List.getElem?_eq_getElem hq
    generalize h[(p - 1) / 2] = z at hno hz ⊢
    by_cases hl : lt new z = true
    · rw [if_pos hl]
      by_cases h0q : (p - 1) / 2 = 0
      · have e0 : z = h0 := by rw [h0q, h2] at hz; exact (Option.some.inj hz).symm
        rw [e0] at hl ⊢
        rw [if_pos hl, h0q]
        have h0l : 0 < (h.set p h0).length := by rw [List.length_set]; exact Nat.lt_of_le_of_lt (Nat.zero_le _) hp
        cases f with
        | zero => exact set_same_at h0l
        | succ f => unfold sdown; rw [if_neg (Nat.lt_irrefl 0)]; exact set_same_at h0l
      · refine sdown_head f _ _ (half_le hf) (by rw [List.length_set]; exact hq) (Nat.pos_of_ne_zero h0q) (by rw [List.getElem?_set_ne (Nat.ne_of_gt h1)]; exact h2) fun i y hi hy => ?_
        by_cases hip : i = p
        · subst hip
          rw [set_same_at hp] at hy
          cases hy
          exact hno
        · rw [List.getElem?_set_ne (Ne.symm hip)] at hy
          exact h3 i y hip hy
    · rw [if_neg hl, List.getElem?_set_ne (Nat.ne_of_gt h1), h2]
      have hn : ¬ lt new h0 = true := fun e => hl (tr _ _ _ e hno)
      rw [if_neg hn]
theorem hpush_head {h : List α} {x h0 : α} (h2 : h[0]? = some h0) (h3 : ∀ y ∈ h, lt y h0 = false) : (hpush lt h x)[0]? = some (if lt x h0 = true then x else h0) := by
  have hl := (List.getElem?_eq_some_iff.mp h2).1
  unfold hpush
  refine sdown_head tr h.length _ h.length (Nat.le_refl _) (by rw [List.length_append]; exact Nat.lt_succ_self _) hl (by rw [List.getElem?_append_left hl]; exact h2) fun i y hi hy => ?_
  have hil := (List.getElem?_eq_some_iff.mp hy).1
  rw [List.length_append, List.length_singleton] at hil
  rw [List.getElem?_append_left (Nat.lt_of_le_of_ne (Nat.le_of_lt_succ hil) hi)] at hy
  exact h3 y (List.mem_of_getElem? hy)
end
end Mine
end

section -- PgD2
open PySem PySem.W PyProof.Rows PySem.Calls PySem.SeqAt
set_option Elab.async false
set_option maxRecDepth 100000
namespace Mine
set_option linter.unusedVariables false
noncomputable def Rp (tb : Tb) (n : Nat) (a : Nat → Nat) : Prop := tb.Perm ((List.range n).map fun j => (j, a j))
noncomputable def Ori (ps : Ps) (n : Nat) (a : Nat → Nat) : Prop := ∀ j < n, isIn (pOf ps j) (a j) = true
theorem Rp.mem {tb : Tb} {n : Nat} {a : Nat → Nat} (h : Rp tb n a) {e : Nat × Nat} : e ∈ tb ↔ e.1 < n ∧ e.2 = a e.1 := by
  rw [h.mem_iff, List.mem_map]
  constructor
  · rintro ⟨j, hj, rfl⟩
    exact ⟨List.mem_range.mp hj, rfl⟩
  · rintro ⟨h1, h2⟩
    exact ⟨e.1, List.mem_range.mpr h1, Prod.ext rfl h2.symm⟩
theorem Rp.find {tb : Tb} {n : Nat} {a : Nat → Nat} (h : Rp tb n a) {j : Nat} (hj : j < n) : tb.find? (fun e => e.1 == j) = some (j, a j) := by
  cases e : tb.find? (fun e => e.1 == j) with
  | none =>
    have := List.find?_eq_none.mp e (j, a j) (h.mem.mpr ⟨hj, rfl⟩)
    simp at this
  | some x =>
    have h1 := List.find?_some e
    have h2 := h.mem.mp (List.mem_of_find?_eq_some e)
    simp only [beq_iff_eq] at h1
    rw [h1] at h2
    exact congrArg some (Prod.ext h1 h2.2)
theorem Rp.oth {tb : Tb} {n : Nat} {a : Nat → Nat} (h : Rp tb n a) {ps : Ps} {j : Nat} (hj : j < n) : othT ps tb j = some (Mine.oth (pOf ps j) (a j)) := by
  unfold othT
  rw [h.find hj]; rfl
theorem tab_two : ∀ p : Fin 6, ∀ d e : Fin 4, isIn p d = true → isIn p e = true → e.val ≠ d.val → e.val = oth p d := by decide +kernel
theorem tab_one : ∀ p : Fin 6, ∀ d : Fin 4, isIn p d = true → oth p d ≠ d := by decide +kernel
theorem oth_other {p d e : Nat} (hp : p < 6) (h1 : isIn p d = true) (h2 : isIn p e = true) (h : e ≠ d) : e = oth p d := tab_two ⟨p, hp⟩ ⟨d, isIn_lt hp h1⟩ ⟨e, isIn_lt hp h2⟩ h1 h2 h
theorem oth_ne {p d : Nat} (hp : p < 6) (h1 : isIn p d = true) : oth p d ≠ d := tab_one ⟨p, hp⟩ ⟨d, isIn_lt hp h1⟩ h1

inductive PathTo (ps : Ps) (n : Nat) (a : Nat → Nat) : Way → List Nat → Nat → Prop
  | one {d} : isIn (pOf ps n) d = true → PathTo ps n a [(n, d)] [] d
  | snoc {w vs d j} : PathTo ps n a w vs d → d ∉ vs → j < n → a j = d → PathTo ps n a (w ++ [(j, oth (pOf ps j) d)]) (d :: vs) (oth (pOf ps j) d)

noncomputable abbrev nextE (ps : Ps) (s spot : Nat) (way : Way) (j : Nat) : Ent := (s + 1, oth (pOf ps j) spot, way ++ [(j, oth (pOf ps j) spot)])
theorem pushes_eq {ps : Ps} (hps : PsOk ps) {tb : Tb} {n : Nat} {a : Nat → Nat} (R : Rp tb n a) (O : Ori ps n a) {s spot : Nat} {way : Way} : ∀ (nums : List Nat) (h : List Ent), (∀ j ∈ nums, j < n) →
    pushes ps tb s spot way h nums = nums.foldl (fun h j => if a j = spot then hpush ltC h (nextE ps s spot way j) else h) h
  | [], h, _ => rfl
  | j :: nums, h, hj => by
    have hjn := hj j List.mem_cons_self
    have ih := fun h => pushes_eq hps R O (s := s) (spot := spot) (way := way) nums h fun j' h' => hj j' (List.mem_cons_of_mem _ h')
    unfold pushes at ih ⊢
    rw [List.foldl_cons, List.foldl_cons, ih]
    congr 1
    have hin := O j hjn
    have hp := pOf_lt hps j
    rw [R.oth hjn]
    by_cases h1 : a j = spot
    · rw [if_pos h1, ← h1, if_pos hin]
      dsimp only
      rw [if_neg (oth_ne hp hin)]
    · rw [if_neg h1]
      by_cases h2 : isIn (pOf ps j) spot = true
      · rw [if_pos h2]
        dsimp only
        rw [if_pos (oth_other hp hin h2 (Ne.symm h1)).symm]
      · rw [if_neg h2]
theorem fold_push {ps : Ps} {a : Nat → Nat} {s spot : Nat} {way : Way} : ∀ (nums : List Nat) (h : List Ent),
    (∀ e ∈ nums.foldl (fun h j => if a j = spot then hpush ltC h (nextE ps s spot way j) else h) h, e ∈ h ∨ ∃ j ∈ nums, a j = spot ∧ e = nextE ps s spot way j) ∧
    (∀ e ∈ h, e ∈ nums.foldl (fun h j => if a j = spot then hpush ltC h (nextE ps s spot way j) else h) h) ∧
    (∀ j ∈ nums, a j = spot → nextE ps s spot way j ∈ nums.foldl (fun h j => if a j = spot then hpush ltC h (nextE ps s spot way j) else h) h) ∧
    (nums.foldl (fun h j => if a j = spot then hpush ltC h (nextE ps s spot way j) else h) h).length ≤ h.length + nums.length
  | [], h => ⟨fun e he => .inl he, fun e he => he, fun j hj => (by cases hj), Nat.le_refl _⟩
  | j :: nums, h => by
    rw [List.foldl_cons]
    obtain ⟨h1, h2, h3, h4⟩ := fold_push (ps := ps) (a := a) (s := s) (spot := spot) (way := way) nums (if a j = spot then hpush ltC h (nextE ps s spot way j) else h)
    refine ⟨fun e he => ?_, fun e he => h2 e ?_, fun j' hj' ha => ?_, ?_⟩
    · rcases h1 e he with h5 | ⟨j', h5, h6⟩
      · split at h5
        · rename_i ha
          rcases hpush_mem h5 with h7 | h7
          · exact .inr ⟨j, List.mem_cons_self, ha, h7⟩
          · exact .inl h7
        · exact .inl h5
      · exact .inr ⟨j', List.mem_cons_of_mem _ h5, h6⟩
    · split
      · exact hpush_keeps.2 e he
      · exact he
    · rcases List.mem_cons.mp hj' with e | h5
      · subst e
        exact h2 _ (by rw [if_pos ha]; exact hpush_keeps.1)
      · exact h3 j' h5 ha
    · refine Nat.le_trans h4 ?_
      rw [List.length_cons]
      split
      · rw [hpush_len]; omega
      · omega

structure JI (ps : Ps) (n : Nat) (a : Nat → Nat) (h : List Ent) (wy : Wy) : Prop where
  e : ∀ e ∈ h, e.2.1 < 4 ∧ ∃ vs, PathTo ps n a e.2.2 vs e.2.1 ∧ ∀ v ∈ vs, v ∈ wy.map (·.1)
  x : ∀ x ∈ wy, x.1 < 4 ∧ ∃ vs, PathTo ps n a x.2 vs x.1 ∧ x.1 ∉ vs ∧ ∀ v ∈ vs, v ∈ wy.map (·.1)
  nd : (wy.map (·.1)).Nodup
  cl : ∀ j < n, a j ∈ wy.map (·.1) → oth (pOf ps j) (a j) ∈ wy.map (·.1) ∨ ∃ e ∈ h, e.2.1 = oth (pOf ps j) (a j)
  ia : ∀ d, isIn (pOf ps n) d = true → d ∈ wy.map (·.1) ∨ ∃ e ∈ h, e.2.1 = d
theorem JI.len {ps : Ps} {n : Nat} {a : Nat → Nat} {h : List Ent} {wy : Wy} (w : JI ps n a h wy) : wy.length ≤ 4 := by
  have := nodup_lt 4 (wy.map (·.1)) w.nd fun x hx => by
    obtain ⟨e, he, rfl⟩ := List.mem_map.mp hx
    exact (w.x e he).1
  simpa using this
theorem lookup_some_mem {α : Type} {d : Nat} {v : α} : ∀ {wy : List (Nat × α)}, wy.lookup d = some v → (d, v) ∈ wy
  | [], h => by simp at h
  | (e, c) :: r, h => by
    rw [List.lookup_cons] at h
    by_cases he : d = e
    · subst he; rw [beq_self_eq_true] at h; cases h; exact List.mem_cons_self
    · rw [beq_eq_false_iff_ne.mpr he] at h
      exact List.mem_cons_of_mem _ (lookup_some_mem h)
theorem wloop_J {ps : Ps} (hps : PsOk ps) {tb : Tb} {n : Nat} (hn : n ≤ 4) {a : Nat → Nat} (R : Rp tb n a) (O : Ori ps n a) : ∀ (f : Nat) (h : List Ent) (wy : Wy), JI ps n a h wy → h.length + 4 * (4 - wy.length) ≤ f → JI ps n a [] (wloop ps tb n f h wy)
  | 0, h, wy, w, hf => by
    have : h = [] := List.length_eq_zero_iff.mp (by omega)
    subst this
    exact w
  | f + 1, h, wy, w, hf => by
    unfold wloop
    cases hgl : h.getLast? with
    | none =>
      have := List.getLast?_eq_none_iff.mp hgl
      subst this
      exact w
    | some l =>
      obtain ⟨r, rfl⟩ := List.getLast?_eq_some_iff.mp hgl
      simp only [List.dropLast_concat]
      obtain ⟨hm1, hm2, hm3⟩ := hpop_mem (lt := ltC) (r := r) (l := l)
      have hk := hpop_keeps (lt := ltC) (r := r) (l := l)
      have hin : ∀ e, e ∈ l :: r ↔ e ∈ r ++ [l] := fun e => by simp [or_comm]
      rw [List.length_append, List.length_singleton] at hf
      generalize hpop ltC r l = P at hm1 hm2 hm3 hk ⊢
      obtain ⟨⟨s, spot, way⟩, r'⟩ := P
      dsimp only at hm1 hm2 hm3 hk ⊢
      have he := w.e _ ((hin _).mp hm1)
      obtain ⟨hs4, vs, hpath, hvs⟩ := he
      dsimp only at hs4 hpath
      split
      · rename_i hlk
        obtain ⟨v, hv⟩ := Option.isSome_iff_exists.mp hlk
        have hkey : spot ∈ wy.map (·.1) := List.mem_map.mpr ⟨_, lookup_some_mem hv, rfl⟩
        refine wloop_J hps hn R O f r' wy ⟨fun e h1 => w.e e ((hin e).mp (hm2 e h1)), w.x, w.nd, fun j hj ha => ?_, fun d hd => ?_⟩ (by omega)
        · rcases w.cl j hj ha with h1 | ⟨e, h1, h2⟩
          · exact .inl h1
          · rcases hk e ((hin e).mpr h1) with h3 | h3
            · rw [h3] at h2; dsimp only at h2; rw [← h2]; exact .inl hkey
            · exact .inr ⟨e, h3, h2⟩
        · rcases w.ia d hd with h1 | ⟨e, h1, h2⟩
          · exact .inl h1
          · rcases hk e ((hin e).mpr h1) with h3 | h3
            · rw [h3] at h2; dsimp only at h2; rw [← h2]; exact .inl hkey
            · exact .inr ⟨e, h3, h2⟩
      · rename_i hlk
        have hnone : wy.lookup spot = none := by
          cases hq : wy.lookup spot with
          | none => rfl
          | some v => rw [hq] at hlk; exact absurd rfl hlk
        have hnk := lookup_none hnone
        have hkeys : (wy ++ [(spot, way)]).map (·.1) = wy.map (·.1) ++ [spot] := by simp
        have hup : ∀ v, v ∈ wy.map (·.1) → v ∈ (wy ++ [(spot, way)]).map (·.1) := fun v hv => by rw [hkeys]; exact List.mem_append_left _ hv
        have hsp : spot ∈ (wy ++ [(spot, way)]).map (·.1) := by rw [hkeys]; simp
        rw [pushes_eq hps R O _ _ fun j hj => List.mem_range.mp hj]
        obtain ⟨q1, q2, q3, q4⟩ := fold_push (ps := ps) (a := a) (s := s) (spot := spot) (way := way) (List.range n) r'
        rw [List.length_range] at q4
        have hnd : ((wy ++ [(spot, way)]).map (·.1)).Nodup := by
          rw [hkeys, List.nodup_append]
          refine ⟨w.nd, by simp, fun x hx y hy e => ?_⟩
          rw [List.mem_singleton] at hy
          exact hnk (by rw [← hy, ← e]; exact hx)
        have J : JI ps n a ((List.range n).foldl (fun h j => if a j = spot then hpush ltC h (nextE ps s spot way j) else h) r') (wy ++ [(spot, way)]) := by
          refine ⟨fun e h1 => ?_, fun x h1 => ?_, hnd, fun j hj ha => ?_, fun d hd => ?_⟩
          · rcases q1 e h1 with h2 | ⟨j, h2, h3, h4⟩
            · obtain ⟨z1, us, z2, z3⟩ := w.e e ((hin e).mp (hm2 e h2))
              exact ⟨z1, us, z2, fun v hv => hup v (z3 v hv)⟩
            · subst h4
              refine ⟨oth_lt (pOf_lt hps j), spot :: vs, .snoc hpath (fun h5 => hnk (hvs _ h5)) (List.mem_range.mp h2) h3, fun v hv => ?_⟩
              rcases List.mem_cons.mp hv with e | hv
              · rw [e]; exact hsp
              · exact hup v (hvs v hv)
          · rcases List.mem_append.mp h1 with h2 | h2
            · obtain ⟨z1, us, z2, z3, z4⟩ := w.x x h2
              exact ⟨z1, us, z2, z3, fun v hv => hup v (z4 v hv)⟩
            · rw [List.mem_singleton.mp h2]
              exact ⟨hs4, vs, hpath, fun h5 => hnk (hvs _ h5), fun v hv => hup v (hvs v hv)⟩
          · by_cases hja : a j = spot
            · exact .inr ⟨_, q3 j (List.mem_range.mpr hj) hja, by rw [hja]⟩
            · rw [hkeys] at ha
              have ha' : a j ∈ wy.map (·.1) := (List.mem_append.mp ha).resolve_right fun h => hja (List.mem_singleton.mp h)
              rcases w.cl j hj ha' with h1 | ⟨e, h1, h2⟩
              · exact .inl (hup _ h1)
              · rcases hk e ((hin e).mpr h1) with h3 | h3
                · rw [h3] at h2; dsimp only at h2; rw [← h2]; exact .inl hsp
                · exact .inr ⟨e, q2 e h3, h2⟩
          · rcases w.ia d hd with h1 | ⟨e, h1, h2⟩
            · exact .inl (hup _ h1)
            · rcases hk e ((hin e).mpr h1) with h3 | h3
              · rw [h3] at h2; dsimp only at h2; rw [← h2]; exact .inl hsp
              · exact .inr ⟨e, q2 e h3, h2⟩
        have hl := J.len
        refine wloop_J hps hn R O f _ _ J ?_
        rw [List.length_append, List.length_singleton] at hl ⊢
        omega
theorem isIn_two {p d : Nat} (h : isIn p d = true) : d = pa p ∨ d = pb p := by
  simpa [isIn] using h
theorem ways_J {ps : Ps} (hps : PsOk ps) {tb : Tb} {n : Nat} (hn : n ≤ 4) {a : Nat → Nat} (R : Rp tb n a) (O : Ori ps n a) : JI ps n a [] (waysOf ps tb n) := by
  obtain ⟨_, hpa, hpb, hia, hib⟩ := tab_ascii ⟨_, pOf_lt hps n⟩
  dsimp only at hpa hpb hia hib
  unfold waysOf
  refine wloop_J hps hn R O 22 _ _ ⟨fun e he => ?_, fun x hx => (by cases hx), by simp, fun j hj ha => (by cases ha), fun d hd => ?_⟩ ?_
  · rcases siftup_mem he with h1 | h1
    · rw [h1]; exact ⟨hpa, [], .one hia, fun v hv => (by cases hv)⟩
    · simp only [List.mem_cons, List.not_mem_nil, or_false] at h1
      rcases h1 with rfl | rfl
      · exact ⟨hpa, [], .one hia, fun v hv => (by cases hv)⟩
      · exact ⟨hpb, [], .one hib, fun v hv => (by cases hv)⟩
  · refine .inr ?_
    obtain ⟨k1, k2⟩ := siftup_keeps (lt := ltC) (h := [((1, pa (pOf ps n), [(n, pa (pOf ps n))]) : Ent), (1, pb (pOf ps n), [(n, pb (pOf ps n))])]) (p := 0) (new := (1, pa (pOf ps n), [(n, pa (pOf ps n))])) (by simp)
    rcases isIn_two hd with e | e
    · exact ⟨_, k1, e.symm⟩
    · exact ⟨_, k2 1 _ (by decide) rfl, e.symm⟩
  · rw [siftup_len]; show 2 + 4 * 4 ≤ 22; decide
end Mine
end

section -- PgE2
open PySem PySem.W PyProof.Rows PySem.Calls PySem.SeqAt
set_option Elab.async false
set_option maxRecDepth 100000
namespace Mine
set_option linter.unusedVariables false
theorem ltP_iff {a b : Nat × Nat} : ltP a b = true ↔ a.1 < b.1 ∨ (a.1 = b.1 ∧ a.2 < b.2) := by
  unfold ltP
  by_cases e : a.1 = b.1
  · rw [if_pos e, decide_eq_true_iff]; omega
  · rw [if_neg e, decide_eq_true_iff]; omega
theorem ltP_not {a b : Nat × Nat} : ltP a b = false ↔ ¬ (a.1 < b.1 ∨ (a.1 = b.1 ∧ a.2 < b.2)) := by
  rw [← ltP_iff, Bool.not_eq_true]
theorem ltP_tr (a b c : Nat × Nat) (h1 : ltP a b = true) (h2 : ltP c b = false) : ltP a c = true := by
  rw [ltP_iff] at *
  rw [ltP_not] at h2
  omega
theorem ltP_self (a : Nat × Nat) : ltP a a = false := by unfold ltP; simp
theorem ltP_le {a b : Nat × Nat} (h : ltP a b = false) : b.1 ≤ a.1 := by
  unfold ltP at h
  by_cases e : a.1 = b.1
  · omega
  · rw [if_neg e] at h
    have := of_decide_eq_false h
    omega
theorem goals_head {bk : Bk} : ∀ (wy : Wy) (g : List (Nat × Nat)) (h0 : Nat × Nat), g[0]? = some h0 → (∀ y ∈ g, ltP y h0 = false) →
    ∃ h1, (wy.foldl (fun g x => hpush ltP g (loadOf bk x.1, x.1)) g)[0]? = some h1 ∧ (∀ y ∈ g, ltP y h1 = false) ∧ ∀ x ∈ wy, ltP (loadOf bk x.1, x.1) h1 = false
  | [], g, h0, h1, h2 => ⟨h0, h1, h2, fun x hx => (by cases hx)⟩
  | x :: wy, g, h0, h1, h2 => by
    rw [List.foldl_cons]
    have hh := hpush_head ltP_tr (x := (loadOf bk x.1, x.1)) h1 h2
    have hmin : ∀ y, (y = (loadOf bk x.1, x.1) ∨ ltP y h0 = false) → ltP y (if ltP (loadOf bk x.1, x.1) h0 = true then (loadOf bk x.1, x.1) else h0) = false := by
      intro y hy
      by_cases hl : ltP (loadOf bk x.1, x.1) h0 = true
      · rw [if_pos hl]
        rcases hy with rfl | hy
        · exact ltP_self _
        · rw [ltP_iff] at hl
          rw [ltP_not] at hy ⊢
          omega
      · rw [if_neg hl]
        rcases hy with rfl | hy
        · cases e : ltP (loadOf bk x.1, x.1) h0 with
          | false => rfl
          | true => exact absurd e hl
        · exact hy
    obtain ⟨h3, h4, h5, h6⟩ := goals_head wy _ _ hh (fun y hy => by
      rcases hpush_mem hy with h7 | h7
      · exact hmin y (.inl h7)
      · exact hmin y (.inr (h2 y h7)))
    refine ⟨h3, h4, fun y hy => h5 y (hpush_keeps.2 y hy), fun z hz => ?_⟩
    rcases List.mem_cons.mp hz with e | hz
    · rw [e]; exact h5 _ hpush_keeps.1
    · exact h6 z hz
theorem hpop_head {α : Type} {lt : α → α → Bool} {r : List α} {l : α} : (r ++ [l])[0]? = some (hpop lt r l).1 := by
  cases r <;> rfl
theorem least_le {bk : Bk} {wy : Wy} (hw : ∀ x ∈ wy, x.1 < 4) : ∀ d ∈ wy.map (·.1), loadOf bk (leastOf bk wy) ≤ loadOf bk d := by
  intro d hd
  obtain ⟨x, hx, rfl⟩ := List.mem_map.mp hd
  cases wy with
  | nil => cases hx
  | cons x0 wy =>
  have hg : (goalsOf bk (x0 :: wy)) = wy.foldl (fun g x => hpush ltP g (loadOf bk x.1, x.1)) [(loadOf bk x0.1, x0.1)] := rfl
  obtain ⟨h1, h2, h3, h4⟩ := goals_head (bk := bk) wy [(loadOf bk x0.1, x0.1)] (loadOf bk x0.1, x0.1) rfl (fun y hy => by rw [List.mem_singleton.mp hy]; exact ltP_self _)
  rw [← hg] at h2
  have hmem : h1 ∈ goalsOf bk (x0 :: wy) := List.mem_of_getElem? h2
  have hload : h1.1 = loadOf bk h1.2 := by
    have : ∀ (wy : Wy) (g : List (Nat × Nat)), (∀ e ∈ g, e.1 = loadOf bk e.2) → ∀ e ∈ wy.foldl (fun g x => hpush ltP g (loadOf bk x.1, x.1)) g, e.1 = loadOf bk e.2 := by
      intro wy
      induction wy with
      | nil => intro g h e he; exact h e he
      | cons x wy ih =>
        intro g h e he
        refine ih _ (fun e he => ?_) e he
        rcases hpush_mem he with h1 | h1
        · rw [h1]
        · exact h e h1
    exact this (x0 :: wy) [] (fun e he => by cases he) h1 hmem
  have hle : leastOf bk (x0 :: wy) = h1.2 := by
    unfold leastOf
    cases hgl : (goalsOf bk (x0 :: wy)).getLast? with
    | none =>
      have := List.getLast?_eq_none_iff.mp hgl
      rw [this] at hmem; cases hmem
    | some l =>
      obtain ⟨r, hr⟩ := List.getLast?_eq_some_iff.mp hgl
      rw [hr] at h2 ⊢
      rw [hpop_head (lt := ltP)] at h2
      simp only [List.dropLast_concat]
      exact congrArg (·.2) (Option.some.inj h2)
  rw [hle, ← hload]
  rcases List.mem_cons.mp hx with e | hx
  · rw [e]
    exact ltP_le (h3 _ (List.mem_singleton_self _))
  · exact ltP_le (h4 x hx)

noncomputable def ldA (a : Nat → Nat) : Nat → Nat → Nat
  | 0, _ => 0
  | n + 1, v => ldA a n v + if a n = v then 1 else 0
noncomputable def upd (a : Nat → Nat) (j d : Nat) : Nat → Nat := fun i => if i = j then d else a i
theorem upd_same {a : Nat → Nat} {j d : Nat} : upd a j d j = d := if_pos rfl
theorem upd_ne {a : Nat → Nat} {j d i : Nat} (h : i ≠ j) : upd a j d i = a i := if_neg h
theorem ldA_congr {a b : Nat → Nat} : ∀ {n : Nat}, (∀ j < n, a j = b j) → ∀ v, ldA a n v = ldA b n v
  | 0, _, _ => rfl
  | n + 1, h, v => by
    unfold ldA
    rw [ldA_congr (fun j hj => h j (by omega)) v, h n (by omega)]
theorem ldA_upd {a : Nat → Nat} {j d : Nat} : ∀ {n : Nat}, j < n → ∀ v, ldA (upd a j d) n v + (if a j = v then 1 else 0) = ldA a n v + (if d = v then 1 else 0)
  | 0, h, _ => by omega
  | n + 1, h, v => by
    unfold ldA
    by_cases hj : j = n
    · subst hj
      rw [upd_same, ldA_congr (b := a) (fun i hi => upd_ne (by omega)) v]
      omega
    · have := ldA_upd (a := a) (d := d) (n := n) (j := j) (by omega) v
      rw [upd_ne (Ne.symm hj)]
      omega
theorem ldA_new {a : Nat → Nat} {n d : Nat} (v : Nat) : ldA (upd a n d) (n + 1) v = ldA a n v + (if d = v then 1 else 0) := by
  show ldA (upd a n d) n v + (if upd a n d n = v then 1 else 0) = _
  rw [upd_same, ldA_congr (b := a) (fun i hi => upd_ne (by omega)) v]

theorem perm_swap_end {α : Type} (l : List α) (x y : α) : (l ++ [x] ++ [y]).Perm (l ++ [y] ++ [x]) := by
  rw [List.append_assoc, List.append_assoc]
  exact (List.Perm.swap y x []).append_left l
theorem Rp_old {a : Nat → Nat} {j d : Nat} : ∀ {n : Nat}, j < n → (((List.range n).map fun i => (i, a i)).filter (fun e => !(e.1 == j)) ++ [(j, d)]).Perm ((List.range n).map fun i => (i, upd a j d i))
  | 0, h => by omega
  | n + 1, h => by
    rw [List.range_succ, List.map_append, List.map_append, List.filter_append]
    by_cases hj : j = n
    · subst hj
      have e1 : ((List.range j).map fun i => (i, a i)).filter (fun e => !(e.1 == j)) = (List.range j).map fun i => (i, upd a j d i) := by
        rw [List.filter_eq_self.mpr]
        · refine List.map_congr_left fun i hi => ?_
          rw [upd_ne (by have := List.mem_range.mp hi; omega)]
        · intro e he
          obtain ⟨i, hi, rfl⟩ := List.mem_map.mp he
          have := List.mem_range.mp hi
          simp; omega
      rw [e1]
      simp [upd_same]
    · have ih := Rp_old (a := a) (d := d) (n := n) (j := j) (by omega)
      have e2 : ([n].map fun i => (i, a i)).filter (fun e => !(e.1 == j)) = [n].map fun i => (i, upd a j d i) := by
        simp [upd_ne (Ne.symm hj), Ne.symm hj]
      rw [e2]
      exact (perm_swap_end _ _ _).trans (ih.append_right _)
theorem Rp.store_old {tb : Tb} {n : Nat} {a : Nat → Nat} (h : Rp tb n a) {j d : Nat} (hj : j < n) : Rp (store tb (j, d)) n (upd a j d) :=
  ((h.filter _).append_right _).trans (Rp_old hj)
theorem Rp.store_new {tb : Tb} {n : Nat} {a : Nat → Nat} (h : Rp tb n a) {d : Nat} : Rp (store tb (n, d)) (n + 1) (upd a n d) := by
  have e1 : wo tb n = tb := by
    unfold wo
    rw [List.filter_eq_self.mpr]
    intro e he
    have := (h.mem.mp he).1
    simp; omega
  unfold store Rp
  rw [e1, List.range_succ, List.map_append]
  refine (List.Perm.append_right _ h).trans (List.Perm.of_eq ?_)
  congr 1
  · refine List.map_congr_left fun i hi => ?_
    rw [upd_ne (by have := List.mem_range.mp hi; omega)]
  · simp [upd_same]

structure Along (ps : Ps) (n : Nat) (a : Nat → Nat) (tb : Tb) (w : Way) (vs : List Nat) (d : Nat) (a' : Nat → Nat) : Prop where
  r : Rp (placeTb tb w) (n + 1) a'
  o : Ori ps (n + 1) a'
  ld : ∀ v, ldA a' (n + 1) v = ldA a n v + (if d = v then 1 else 0)
  c : ∀ j < n, a' j = a j ∨ a j ∈ vs
  ch : ∀ j ≤ n, (j < n ∧ a' j = a j) ∨ a' j ∈ d :: vs
theorem along {ps : Ps} (hps : PsOk ps) {n : Nat} {a : Nat → Nat} {tb : Tb} (R : Rp tb n a) (O : Ori ps n a) {w : Way} {vs : List Nat} {d : Nat} (h : PathTo ps n a w vs d) : d ∉ vs → ∃ a', Along ps n a tb w vs d a' := by
  induction h with
  | @one d hd =>
    intro _
    refine ⟨upd a n d, R.store_new, fun j hj => ?_, fun v => ldA_new v, fun j hj => .inl (upd_ne (by omega)), fun j hj => ?_⟩
    · by_cases e : j = n
      · rw [e, upd_same]; exact hd
      · rw [upd_ne e]; exact O j (by omega)
    · by_cases e : j = n
      · rw [e, upd_same]; exact .inr List.mem_cons_self
      · rw [upd_ne e]; exact .inl ⟨by omega, rfl⟩
  | @snoc w vs d j hp hdv hj ha ih =>
    intro hnot
    obtain ⟨a1, A⟩ := ih hdv
    have h1 : a1 j = d := by
      rcases A.c j hj with h | h
      · rw [h, ha]
      · rw [ha] at h; exact absurd h hdv
    have hpl : placeTb tb (w ++ [(j, oth (pOf ps j) d)]) = store (placeTb tb w) (j, oth (pOf ps j) d) := by
      unfold placeTb; rw [List.foldl_append]; rfl
    refine ⟨upd a1 j (oth (pOf ps j) d), ?_, fun i hi => ?_, fun v => ?_, fun i hi => ?_, fun i hi => ?_⟩
    · rw [hpl]; exact A.r.store_old (by omega)
    · by_cases e : i = j
      · rw [e, upd_same]; exact isIn_oth
      · rw [upd_ne e]; exact A.o i hi
    · have h2 := ldA_upd (a := a1) (j := j) (d := oth (pOf ps j) d) (n := n + 1) (by omega) v
      have h3 := A.ld v
      rw [h1] at h2
      omega
    · by_cases e : i = j
      · rw [e, ha]; exact .inr List.mem_cons_self
      · rw [upd_ne e]
        exact (A.c i hi).imp id fun h => List.mem_cons_of_mem _ h
    · by_cases e : i = j
      · rw [e, upd_same]; exact .inr List.mem_cons_self
      · rw [upd_ne e]
        exact (A.ch i hi).imp id fun h => List.mem_cons_of_mem _ h
end Mine
end

section -- PgF2
open PySem PySem.W PyProof.Rows PySem.Calls PySem.SeqAt
set_option Elab.async false
set_option maxRecDepth 100000
namespace Mine
set_option linter.unusedVariables false
noncomputable def Ed (ps : Ps) (n : Nat) (a : Nat → Nat) (u v : Nat) : Prop := ∃ j < n, a j = u ∧ oth (pOf ps j) u = v
inductive Rch (E : Nat → Nat → Prop) : Nat → Nat → Prop
  | refl {u} : Rch E u u
  | head {u x v} : E u x → Rch E x v → Rch E u v
theorem Rch.trans {E : Nat → Nat → Prop} {u v w : Nat} (h : Rch E u v) (h2 : Rch E v w) : Rch E u w := by
  induction h with
  | refl => exact h2
  | head e _ ih => exact .head e (ih h2)
theorem Rch.one {E : Nat → Nat → Prop} {u v : Nat} (h : E u v) : Rch E u v := .head h .refl
noncomputable def Opt (ps : Ps) (n : Nat) (a : Nat → Nat) : Prop := ∀ u v, Rch (Ed ps n a) u v → ldA a n u ≤ ldA a n v + 1

theorem path_reach {ps : Ps} {n : Nat} {a : Nat → Nat} {w : Way} {vs : List Nat} {d : Nat} (h : PathTo ps n a w vs d) : ∀ u ∈ d :: vs, Rch (Ed ps n a) u d := by
  induction h with
  | one _ =>
    intro u hu
    rw [List.mem_singleton.mp hu]; exact .refl
  | @snoc w vs d j hp hdv hj ha ih =>
    intro u hu
    rcases List.mem_cons.mp hu with e | hu
    · rw [e]; exact .refl
    · exact (ih u hu).trans (.one ⟨j, hj, ha, rfl⟩)

theorem opt_step {ps : Ps} (hps : PsOk ps) {n : Nat} {a a' : Nat → Nat} {tb : Tb} {w : Way} {vs : List Nat} {t : Nat} {D : Nat → Prop} (O : Ori ps n a) (H : Opt ps n a) (hp : PathTo ps n a w vs t) (A : Along ps n a tb w vs t a')
    (hD : ∀ v ∈ t :: vs, D v) (hcl : ∀ j < n, D (a j) → D (oth (pOf ps j) (a j))) (hia : ∀ d, isIn (pOf ps n) d = true → D d) (hmin : ∀ d, D d → ldA a n t ≤ ldA a n d) : Opt ps (n + 1) a' := by
  have hreach := path_reach hp
  have hE : ∀ u v, Ed ps (n + 1) a' u v → Ed ps n a u v ∨ (Rch (Ed ps n a) u t ∧ D u ∧ D v) := by
    rintro u v ⟨j, hj, hu, hv⟩
    rcases A.ch j (by omega) with ⟨h1, h2⟩ | h1
    · exact .inl ⟨j, h1, by rw [← h2]; exact hu, hv⟩
    · rw [hu] at h1
      refine .inr ⟨hreach u h1, hD u h1, ?_⟩
      by_cases hjn : j = n
      · rw [← hv, hjn]; exact hia _ isIn_oth
      · have hjl : j < n := by omega
        rcases A.c j hjl with h3 | h3
        · rw [hu] at h3
          rw [← hv, h3]
          exact hcl j hjl (by rw [← h3]; exact hD u h1)
        · have h4 : D (a j) := hD _ (List.mem_cons_of_mem _ h3)
          by_cases h5 : u = a j
          · rw [← hv, h5]; exact hcl j hjl h4
          · have h6 := A.o j (by omega)
            rw [hu] at h6
            have h7 := oth_other (pOf_lt hps j) h6 (O j hjl) (Ne.symm h5)
            rw [← hv, ← h7]; exact h4
  have hDE : ∀ u v, Ed ps n a u v → D u → D v := by
    rintro u v ⟨j, hj, hu, hv⟩ hd
    rw [← hv, ← hu]
    exact hcl j hj (by rw [hu]; exact hd)
  have hDR : ∀ u v, Rch (Ed ps (n + 1) a') u v → D u → D v := by
    intro u v h
    induction h with
    | refl => exact id
    | @head u x v e _ ih =>
      intro hu
      refine ih ?_
      rcases hE u x e with h1 | ⟨_, _, h1⟩
      · exact hDE _ _ h1 hu
      · exact h1
  have claim : ∀ u v, Rch (Ed ps (n + 1) a') u v → Rch (Ed ps n a) u v ∨ (Rch (Ed ps n a) u t ∧ D v) := by
    intro u v h
    induction h with
    | refl => exact .inl .refl
    | @head u x v e r ih =>
      rcases hE u x e with h1 | ⟨h1, _, h2⟩
      · rcases ih with h3 | ⟨h3, h4⟩
        · exact .inl (.head h1 h3)
        · exact .inr ⟨.head h1 h3, h4⟩
      · exact .inr ⟨h1, hDR x v r h2⟩
  intro u v h
  rw [A.ld u, A.ld v]
  have hDt := hD t List.mem_cons_self
  rcases claim u v h with h1 | ⟨h1, h2⟩
  · have h3 := H u v h1
    by_cases hut : t = u
    · subst hut
      have h4 := hmin v (hDR _ _ h hDt)
      rw [if_pos rfl]
      split <;> omega
    · rw [if_neg hut]
      split <;> omega
  · have h3 := H u t h1
    have h4 := hmin v h2
    by_cases hut : t = u
    · subst hut
      rw [if_pos rfl]
      split <;> omega
    · rw [if_neg hut]
      split <;> omega

noncomputable def cR (χ : Nat → Nat) (a : Nat → Nat) : Nat → Nat
  | 0 => 0
  | m + 1 => cR χ a m + χ (a m)
theorem cR_sum {χ a : Nat → Nat} : ∀ {m : Nat}, (∀ j < m, a j < 4) → cR χ a m = χ 0 * ldA a m 0 + χ 1 * ldA a m 1 + χ 2 * ldA a m 2 + χ 3 * ldA a m 3
  | 0, _ => by simp [cR, ldA]
  | m + 1, h => by
    have ih := cR_sum (χ := χ) (a := a) (m := m) fun j hj => h j (by omega)
    have h4 := h m (by omega)
    simp only [cR, ldA, Nat.mul_add, ih]
    clear ih
    generalize a m = x at h4
    generalize χ 0 * ldA a m 0 = p0
    generalize χ 1 * ldA a m 1 = p1
    generalize χ 2 * ldA a m 2 = p2
    generalize χ 3 * ldA a m 3 = p3
    match x, h4 with
    | 0, _ => simp [Nat.add_assoc, Nat.add_comm, Nat.add_left_comm]
    | 1, _ => simp [Nat.add_assoc, Nat.add_comm, Nat.add_left_comm]
    | 2, _ => simp [Nat.add_assoc, Nat.add_comm, Nat.add_left_comm]
    | 3, _ => simp [Nat.add_assoc]
theorem cR_le {χ a b : Nat → Nat} : ∀ {m : Nat}, (∀ j < m, χ (a j) ≤ χ (b j)) → cR χ a m ≤ cR χ b m
  | 0, _ => Nat.le_refl _
  | m + 1, h => Nat.add_le_add (cR_le fun j hj => h j (by omega)) (h m (by omega))
theorem hinge_one {l s : Nat} (h : s ≤ l) : (l - s) + 1 * s = 1 * l := by omega
theorem hinge_le {l s : Nat} : 1 * l ≤ (l - s) + 1 * s := by omega
theorem hinge_four {a0 a1 a2 a3 b0 b1 b2 b3 c0 c1 c2 c3 p0 p1 p2 p3 q0 q1 q2 q3 : Nat} (h : p0 + p1 + p2 + p3 ≤ q0 + q1 + q2 + q3) (e0 : a0 + c0 = p0) (e1 : a1 + c1 = p1) (e2 : a2 + c2 = p2) (e3 : a3 + c3 = p3)
    (f0 : q0 ≤ b0 + c0) (f1 : q1 ≤ b1 + c1) (f2 : q2 ≤ b2 + c2) (f3 : q3 ≤ b3 + c3) : a0 + a1 + a2 + a3 ≤ b0 + b1 + b2 + b3 := by omega
open Classical in
theorem hinge {ps : Ps} (hps : PsOk ps) {n : Nat} {a b : Nat → Nat} (O : Ori ps n a) (Ob : Ori ps n b) (H : Opt ps n a) (s : Nat) :
    (ldA a n 0 - s) + (ldA a n 1 - s) + (ldA a n 2 - s) + (ldA a n 3 - s) ≤ (ldA b n 0 - s) + (ldA b n 1 - s) + (ldA b n 2 - s) + (ldA b n 3 - s) := by
  let R : Nat → Prop := fun v => ∃ u, s < ldA a n u ∧ Rch (Ed ps n a) u v
  let χ : Nat → Nat := fun v => if R v then 1 else 0
  have hcl : ∀ j < n, R (a j) → R (b j) := fun j hj ⟨u, h1, h2⟩ => by
    by_cases e : b j = a j
    · rw [e]; exact ⟨u, h1, h2⟩
    · have h3 := oth_other (pOf_lt hps j) (O j hj) (Ob j hj) e
      exact ⟨u, h1, h2.trans (.one ⟨j, hj, rfl, h3.symm⟩)⟩
  have hχ : ∀ j < n, χ (a j) ≤ χ (b j) := fun j hj => by
    show (if R (a j) then 1 else 0) ≤ (if R (b j) then 1 else 0)
    by_cases h : R (a j)
    · rw [if_pos h, if_pos (hcl j hj h)]; exact Nat.le_refl _
    · rw [if_neg h]; exact Nat.zero_le _
  have h1 := cR_le hχ
  rw [cR_sum fun j hj => isIn_lt (pOf_lt hps j) (O j hj), cR_sum fun j hj => isIn_lt (pOf_lt hps j) (Ob j hj)] at h1
  have each : ∀ v, (ldA a n v - s) + χ v * s = χ v * ldA a n v ∧ χ v * ldA b n v ≤ (ldA b n v - s) + χ v * s := fun v => by
    show (ldA a n v - s) + (if R v then 1 else 0) * s = (if R v then 1 else 0) * ldA a n v ∧ (if R v then 1 else 0) * ldA b n v ≤ (ldA b n v - s) + (if R v then 1 else 0) * s
    by_cases h : R v
    · rw [if_pos h]
      obtain ⟨u, h2, h3⟩ := h
      have := H u v h3
      exact ⟨hinge_one (Nat.le_of_lt_succ (Nat.lt_of_lt_of_le h2 this)), hinge_le⟩
    · rw [if_neg h, Nat.zero_mul, Nat.zero_mul, Nat.zero_mul]
      have : ldA a n v ≤ s := Nat.le_of_not_lt fun h2 => h ⟨v, h2, .refl⟩
      exact ⟨Nat.sub_eq_zero_of_le this, Nat.zero_le _⟩
  obtain ⟨p0, q0⟩ := each 0
  obtain ⟨p1, q1⟩ := each 1
  obtain ⟨p2, q2⟩ := each 2
  obtain ⟨p3, q3⟩ := each 3
  exact hinge_four h1 p0 p1 p2 p3 q0 q1 q2 q3
end Mine
end

section -- PgG2
open PySem PySem.W PyProof.Rows PySem.Calls PySem.SeqAt
set_option Elab.async false
set_option maxRecDepth 100000
namespace Mine
set_option linter.unusedVariables false
structure Kept (ps : Ps) (n : Nat) (a : Nat → Nat) : Prop where
  r : Rp (trj ps n).1 n a
  o : Ori ps n a
  ld : ∀ v, loadOf (trj ps n).2 v = ldA a n v
  opt : Opt ps n a
theorem kept {ps : Ps} (hps : PsOk ps) : ∀ n, n ≤ 5 → ∃ a, Kept ps n a
  | 0, _ => ⟨fun _ => 0, List.Perm.refl _, fun j hj => by omega, fun v => rfl, fun u v _ => Nat.zero_le _⟩
  | n + 1, hn => by
    obtain ⟨a, K⟩ := kept hps n (by omega)
    have J := ways_J hps (n := n) (by omega) K.r K.o
    have hne := (ways_P hps (tb := (trj ps n).1) (n := n)).2
    generalize hwy : waysOf ps (trj ps n).1 n = wy at J hne
    have hlt : ∀ x ∈ wy, x.1 < 4 := fun x hx => (J.x x hx).1
    have hk := least_key (bk := (trj ps n).2) hne hlt
    have hmin := least_le (bk := (trj ps n).2) hlt
    obtain ⟨w, hw1, hw2⟩ := lookup_key hk
    obtain ⟨_, vs, hp, hnv, hvs⟩ := J.x _ hw2
    dsimp only at hp hnv
    have ht1 : (trj ps (n + 1)).1 = placeTb (trj ps n).1 w := by
      show placeTb (trj ps n).1 (wayOf ps (trj ps n).1 (trj ps n).2 n) = _
      unfold wayOf
      rw [hwy, hw1]; rfl
    have ht2 : (trj ps (n + 1)).2 = bump (trj ps n).2 (leastOf (trj ps n).2 wy) := by
      show bump (trj ps n).2 (leastOf (trj ps n).2 (waysOf ps (trj ps n).1 n)) = _
      rw [hwy]
    generalize leastOf (trj ps n).2 wy = t at hk hmin hw1 hw2 hp hnv ht2
    obtain ⟨a', A⟩ := along hps K.r K.o hp hnv
    refine ⟨a', by rw [ht1]; exact A.r, A.o, fun v => ?_, ?_⟩
    · rw [ht2, loadOf_bump, K.ld v, A.ld v]
      by_cases e : v = t
      · subst e; simp
      · rw [if_neg e, if_neg (Ne.symm e)]
    · refine opt_step hps (D := fun v => v ∈ wy.map (·.1)) K.o K.opt hp A (fun v hv => ?_) (fun j hj h => ?_) (fun d hd => ?_) fun d hd => ?_
      · rcases List.mem_cons.mp hv with e | hv
        · rw [e]; exact hk
        · exact hvs v hv
      · rcases J.cl j hj h with h1 | ⟨e, h1, _⟩
        · exact h1
        · cases h1
      · rcases J.ia d hd with h1 | ⟨e, h1, _⟩
        · exact h1
        · cases h1
      · have := hmin d hd
        rw [K.ld, K.ld] at this
        exact this

noncomputable def vec (b : Nat → Nat) (n : Nat) : List Int := (List.range 4).map fun v => (ldA b n v : Int)
theorem vec_eq (b : Nat → Nat) (n : Nat) : vec b n = [(ldA b n 0 : Int), (ldA b n 1 : Int), (ldA b n 2 : Int), (ldA b n 3 : Int)] := rfl
theorem vec_step {b : Nat → Nat} {n d : Nat} : addAt (vec b n) d = vec (upd b n d) (n + 1) := by
  unfold addAt vec
  refine List.map_congr_left fun k hk => ?_
  have hk4 := List.mem_range.mp hk
  rw [ldA_new]
  have : ((List.range 4).map fun v => (ldA b n v : Int)).getD k 0 = (ldA b n k : Int) := by
    rw [List.getD_eq_getElem?_getD, List.getElem?_map, List.getElem?_range hk4]; rfl
  rw [this]
  by_cases e : k = d
  · subst e; simp
  · rw [if_neg (by simpa using e), if_neg (Ne.symm e)]; simp
theorem vec_congr {b c : Nat → Nat} {n : Nat} (h : ∀ j < n, b j = c j) : vec b n = vec c n := by
  unfold vec
  refine List.map_congr_left fun k hk => ?_
  rw [ldA_congr h k]
theorem ld_in {ps : Ps} : ∀ n (b : Nat → Nat), Ori ps n b → vec b n ∈ ldOf ps n
  | 0, b, _ => by show vec b 0 ∈ [[0, 0, 0, 0]]; rw [vec_eq]; simp [ldA]
  | n + 1, b, O => by
    have ih := ld_in n b fun j hj => O j (by omega)
    show _ ∈ stepLd (ldOf ps n) (pOf ps n)
    unfold stepLd
    refine List.mem_flatMap.mpr ⟨_, ih, ?_⟩
    rw [vec_step, vec_step]
    have e : vec b (n + 1) = vec (upd b n (b n)) (n + 1) := vec_congr fun j hj => by
      by_cases e : j = n
      · rw [e, upd_same]
      · rw [upd_ne e]
    rw [e]
    rcases isIn_two (O n (by omega)) with h | h
    · rw [h]; simp
    · rw [h]; simp
theorem in_ld {ps : Ps} (hps : PsOk ps) : ∀ n, ∀ l ∈ ldOf ps n, ∃ b, Ori ps n b ∧ l = vec b n
  | 0, l, h => ⟨fun _ => 0, fun j hj => by omega, by
      have : l = [0, 0, 0, 0] := by simpa [ldOf] using h
      rw [this]; rfl⟩
  | n + 1, l, h => by
    unfold ldOf stepLd at h
    obtain ⟨l0, h1, h2⟩ := List.mem_flatMap.mp h
    obtain ⟨b, O, rfl⟩ := in_ld hps n l0 h1
    obtain ⟨_, _, _, hia, hib⟩ := tab_ascii ⟨_, pOf_lt hps n⟩
    dsimp only at hia hib
    have hO : ∀ d, isIn (pOf ps n) d = true → Ori ps (n + 1) (upd b n d) := fun d hd j hj => by
      by_cases e : j = n
      · rw [e, upd_same]; exact hd
      · rw [upd_ne e]; exact O j (by omega)
    simp only [List.mem_cons, List.not_mem_nil, or_false] at h2
    rw [vec_step, vec_step] at h2
    rcases h2 with h2 | h2
    · exact ⟨_, hO _ hia, h2⟩
    · exact ⟨_, hO _ hib, h2⟩
noncomputable def hg (s : Int) (l : List Int) : Nat := (l.map fun x => (x - s).toNat).sum
theorem hg_perm {s : Int} {l l' : List Int} (h : l.Perm l') : hg s l = hg s l' := (h.map _).sum_nat
theorem hg_vec {b : Nat → Nat} {n s : Nat} : hg (s : Int) (vec b n) = (ldA b n 0 - s) + (ldA b n 1 - s) + (ldA b n 2 - s) + (ldA b n 3 - s) := by
  rw [vec_eq]
  unfold hg
  simp only [List.map_cons, List.map_nil, List.sum_cons, List.sum_nil, Int.toNat_sub, Nat.add_zero, Nat.add_assoc]
theorem best_eq {ps : Ps} {n : Nat} {a : Nat → Nat} (K : Kept ps n a) : bestOf (trj ps n).2 = sortI (vec a n) := by
  unfold bestOf vec
  congr 1
  refine List.map_congr_left fun k _ => ?_
  rw [K.ld]
theorem hg_best {ps : Ps} (hps : PsOk ps) {n : Nat} {a : Nat → Nat} (K : Kept ps n a) {r : List Int} (hr : r ∈ rowsOf (ldOf ps n)) (s : Nat) : hg s (bestOf (trj ps n).2) ≤ hg s r := by
  obtain ⟨l, hl, rfl⟩ := row_of hr
  obtain ⟨b, Ob, rfl⟩ := in_ld hps n l hl
  rw [best_eq K, hg_perm (sortI_perm _), hg_perm (sortI_perm _), hg_vec, hg_vec]
  exact hinge hps K.o Ob K.opt s
structure Row4 (r : List Int) : Prop where
  len : r.length = 4
  up : r.Pairwise (· ≤ ·)
  pos : ∀ x ∈ r, 0 ≤ x
theorem Row4.ex {r : List Int} (h : Row4 r) : ∃ a b c d, r = [a, b, c, d] ∧ 0 ≤ a ∧ a ≤ b ∧ b ≤ c ∧ c ≤ d := by
  match r, h.len, h with
  | [a, b, c, d], _, h =>
    have hu := h.up
    have hp := h.pos
    simp only [List.pairwise_cons, List.mem_cons, List.not_mem_nil, or_false] at hu
    refine ⟨a, b, c, d, rfl, hp a (by simp), ?_, ?_, ?_⟩
    · exact hu.1 b (.inl rfl)
    · exact hu.2.1 c (.inl rfl)
    · exact hu.2.2.1 d rfl
theorem row_Row4 {ps : Ps} {n : Nat} (hn : n ≤ 5) {r : List Int} (h : r ∈ rowsOf (ldOf ps n)) : Row4 r := by
  obtain ⟨l, hl, e⟩ := row_of h
  refine ⟨by rw [e, sort_len, ld_len n l hl], by rw [e]; exact sortI_rises _, fun x hx => (row_Sm hn h x hx).1⟩
theorem best_Row4 {ps : Ps} {n : Nat} (hn : n ≤ 5) : Row4 (bestOf (trj ps n).2) :=
  ⟨best_len _, by unfold bestOf; exact sortI_rises _, fun x hx => (best_Sm hn x hx).1⟩
theorem hg_low (s : Int) : ∀ l : List Int, l.sum ≤ (hg s l : Int) + (l.length : Int) * s
  | [] => by simp [hg]
  | x :: l => by
    have ih := hg_low s l
    have e1 : hg s (x :: l) = (x - s).toNat + hg s l := rfl
    have e2 : ((x :: l).length : Int) * s = (l.length : Int) * s + s := by rw [List.length_cons, Int.natCast_add, Int.add_mul]; simp
    rw [e1, e2, List.sum_cons]
    generalize (l.length : Int) * s = t at *
    have := Int.self_le_toNat (x - s)
    omega
theorem hg_eq (s : Int) : ∀ l : List Int, (∀ x ∈ l, s ≤ x) → (hg s l : Int) + (l.length : Int) * s = l.sum
  | [], _ => by simp [hg]
  | x :: l, h => by
    have ih := hg_eq s l fun y hy => h y (List.mem_cons_of_mem _ hy)
    have e1 : hg s (x :: l) = (x - s).toNat + hg s l := rfl
    have e2 : ((x :: l).length : Int) * s = (l.length : Int) * s + s := by rw [List.length_cons, Int.natCast_add, Int.add_mul]; simp
    rw [e1, e2, List.sum_cons]
    generalize (l.length : Int) * s = t at *
    have := h x List.mem_cons_self
    have := Int.toNat_of_nonneg (a := x - s) (by omega)
    omega
theorem hg_zero (s : Int) : ∀ l : List Int, (∀ x ∈ l, x ≤ s) → hg s l = 0
  | [], _ => rfl
  | x :: l, h => by
    have e1 : hg s (x :: l) = (x - s).toNat + hg s l := rfl
    rw [e1, hg_zero s l fun y hy => h y (List.mem_cons_of_mem _ hy), Int.toNat_of_nonpos (by have := h x List.mem_cons_self; omega)]
theorem hg_split (s : Int) (l : List Int) (k : Nat) : hg s l = hg s (l.take k) + hg s (l.drop k) := by
  have h := congrArg (hg s) (List.take_append_drop k l)
  rw [← h]
  unfold hg
  rw [List.map_append, List.sum_append]
theorem tops_le {r q : List Int} (hr : Row4 r) (hq : Row4 q) (h : ∀ s : Nat, hg s q ≤ hg s r) : ∀ k, k ≤ 3 → (q.drop k).sum ≤ (r.drop k).sum := by
  intro k hk
  have hkl : k < r.length := by rw [hr.len]; omega
  have hd := List.drop_eq_getElem_cons hkl
  have hup := hr.up
  rw [← List.take_append_drop k r, List.pairwise_append] at hup
  obtain ⟨_, hu2, hu3⟩ := hup
  have hm : r[k] ∈ r.drop k := by rw [hd]; exact List.mem_cons_self
  have hall : ∀ x ∈ r.drop k, r[k] ≤ x := fun x hx => by
    rw [hd] at hx hu2
    rcases List.mem_cons.mp hx with e | hx
    · rw [e]; exact Int.le_refl _
    · exact (List.pairwise_cons.mp hu2).1 x hx
  have h0 : hg r[k] (r.take k) = 0 := hg_zero _ _ fun x hx => hu3 x hx _ hm
  have h1 := hg_eq r[k] _ hall
  have h2 := hg_low r[k] (q.drop k)
  have h3 := hg_split r[k] r k
  have h4 := hg_split r[k] q k
  have hp := hr.pos r[k] (List.getElem_mem hkl)
  have h5 := h r[k].toNat
  rw [Int.toNat_of_nonneg hp] at h5
  have e : (q.drop k).length = (r.drop k).length := by rw [List.length_drop, List.length_drop, hr.len, hq.len]
  rw [e] at h2
  generalize ((r.drop k).length : Int) * r[k] = t at *
  omega
theorem cmp_of {r q : List Int} (hr : Row4 r) (hq : Row4 q) (h : ∀ k, k ≤ 3 → (q.drop k).sum ≤ (r.drop k).sum) : ¬ cmpI r q four < 0 ∧ (r ≠ q → cmpI q r four < 0) := by
  obtain ⟨a, b, c, d, rfl, a0, a1, a2, a3⟩ := hr.ex
  obtain ⟨x, y, z, w, rfl, x0, x1, x2, x3⟩ := hq.ex
  have h0 := h 0 (by omega)
  have h1 := h 1 (by omega)
  have h2 := h 2 (by omega)
  have h3 := h 3 (by omega)
  simp only [List.drop_succ_cons, List.drop_zero, List.sum_cons, List.sum_nil] at h0 h1 h2 h3
  have e : ∀ p q r s p' q' r' s' : Int, cmpI [p, q, r, s] [p', q', r', s'] four = if s < s' then -1 else if s' < s then 1 else if r < r' then -1 else if r' < r then 1 else if q < q' then -1 else if q' < q then 1 else if p < p' then -1 else if p' < p then 1 else 0 := fun _ _ _ _ _ _ _ _ => rfl
  rw [e, e]
  have g3 : w ≤ d := by omega
  by_cases c3 : w = d
  · subst c3
    simp only [Int.lt_irrefl, if_false]
    have g2 : z ≤ c := by omega
    by_cases c2 : z = c
    · subst c2
      simp only [Int.lt_irrefl, if_false]
      have g1 : y ≤ b := by omega
      by_cases c1 : y = b
      · subst c1
        simp only [Int.lt_irrefl, if_false]
        have g0 : x ≤ a := by omega
        by_cases c0 : x = a
        · subst c0
          simp only [Int.lt_irrefl, if_false]
          exact ⟨by decide, fun hne => absurd rfl hne⟩
        · rw [if_neg (Int.not_lt.mpr g0), if_pos (Std.lt_of_le_of_ne g0 c0), if_pos (Std.lt_of_le_of_ne g0 c0)]; exact ⟨by decide, fun _ => by decide⟩
      · rw [if_neg (Int.not_lt.mpr g1), if_pos (Std.lt_of_le_of_ne g1 c1), if_pos (Std.lt_of_le_of_ne g1 c1)]; exact ⟨by decide, fun _ => by decide⟩
    · rw [if_neg (Int.not_lt.mpr g2), if_pos (Std.lt_of_le_of_ne g2 c2), if_pos (Std.lt_of_le_of_ne g2 c2)]; exact ⟨by decide, fun _ => by decide⟩
  · rw [if_neg (Int.not_lt.mpr g3), if_pos (Std.lt_of_le_of_ne g3 c3), if_pos (Std.lt_of_le_of_ne g3 c3)]; exact ⟨by decide, fun _ => by decide⟩
theorem first_stays {q : List Int} : ∀ {rows : List (List Int)}, (∀ r ∈ rows, ¬ cmpI r q four < 0) → firstOf rows q = q
  | [], _ => rfl
  | r :: rows, h => by
    unfold firstOf
    rw [List.foldl_cons, if_neg (h r List.mem_cons_self)]
    exact first_stays fun r hr => h r (List.mem_cons_of_mem _ hr)
theorem first_best {q : List Int} : ∀ {rows : List (List Int)} {f : List Int}, (∀ r ∈ rows, ¬ cmpI r q four < 0) → q ∈ rows → (∀ r ∈ f :: rows, r ≠ q → cmpI q r four < 0) → firstOf rows f = q
  | [], f, _, h, _ => by cases h
  | r :: rows, f, h1, h2, h3 => by
    unfold firstOf
    rw [List.foldl_cons]
    by_cases e : r = q
    · subst e
      have : (if cmpI r f four < 0 then r else f) = r := by
        by_cases e2 : f = r
        · subst e2; split <;> rfl
        · rw [if_pos (h3 f List.mem_cons_self e2)]
      rw [this]
      exact first_stays fun r' hr => h1 r' (List.mem_cons_of_mem _ hr)
    · refine first_best (fun r' hr => h1 r' (List.mem_cons_of_mem _ hr)) ((List.mem_cons.mp h2).resolve_left (Ne.symm e)) fun r' hr hne => ?_
      rcases List.mem_cons.mp hr with e2 | hr
      · rw [e2] at hne ⊢
        split at hne
        · rename_i hc
          rw [if_pos hc]
          exact h3 r (by simp) e
        · rename_i hc
          rw [if_neg hc]
          exact h3 f (by simp) hne
      · exact h3 r' (by simp [hr]) hne
end Mine
end

section -- PgH2
open PySem PySem.W PyProof.Rows PySem.Calls PySem.SeqAt
set_option Elab.async false
set_option maxRecDepth 100000
namespace Mine
set_option linter.unusedVariables false
theorem argBest_le {ns : List Int} : ∀ k, argBest (fun i j => decide (ns.getD i 0 < ns.getD j 0)) k ≤ k ∧ ∀ i ≤ k, ns.getD (argBest (fun i j => decide (ns.getD i 0 < ns.getD j 0)) k) 0 ≤ ns.getD i 0
  | 0 => ⟨Nat.le_refl _, fun i hi => by
      have : i = 0 := by omega
      subst this; exact Int.le_refl _⟩
  | k + 1 => by
    obtain ⟨h1, h2⟩ := argBest_le (ns := ns) k
    unfold argBest
    split
    · rename_i h
      have h := of_decide_eq_true h
      refine ⟨Nat.le_refl _, fun i hi => ?_⟩
      by_cases e : i = k + 1
      · rw [e]; exact Int.le_refl _
      · exact Int.le_trans (Int.le_of_lt h) (h2 i (by omega))
    · rename_i h
      have h := of_decide_eq_false (Bool.not_eq_true _ ▸ h)
      refine ⟨by omega, fun i hi => ?_⟩
      by_cases e : i = k + 1
      · rw [e]; omega
      · exact h2 i (by omega)
theorem getD_mem {ns : List Int} {i : Nat} (h : i < ns.length) : ns.getD i 0 ∈ ns := by
  rw [List.getD_eq_getElem?_getD, List.getElem?_eq_getElem h]
  exact List.getElem_mem h
theorem lmin_eq {ns : List Int} {v : Int} (h1 : v ∈ ns) (h2 : ∀ x ∈ ns, v ≤ x) : lmin ns = v := by
  obtain ⟨i, hi, rfl⟩ := List.getElem_of_mem h1
  obtain ⟨h3, h4⟩ := argBest_le (ns := ns) (ns.length - 1)
  have h5 := h4 i (by omega)
  have h6 := h2 _ (getD_mem (ns := ns) (i := argBest (fun i j => decide (ns.getD i 0 < ns.getD j 0)) (ns.length - 1)) (by omega))
  have h7 : ns.getD i 0 = ns[i] := by rw [List.getD_eq_getElem?_getD, List.getElem?_eq_getElem hi]; rfl
  unfold lmin
  rw [h7] at h5
  omega
theorem putRow_in {rows : List (List Int)} {l : List Int} : sortI l ∈ putRow rows l ∧ ∀ r ∈ rows, r ∈ putRow rows l := by
  unfold putRow
  split
  · rename_i h
    exact ⟨List.contains_iff_mem.mp h, fun r hr => hr⟩
  · exact ⟨by simp, fun r hr => List.mem_append_left _ hr⟩
theorem rows_in : ∀ (ls : List (List Int)) (rows : List (List Int)), (∀ r ∈ rows, r ∈ ls.foldl putRow rows) ∧ ∀ l ∈ ls, sortI l ∈ ls.foldl putRow rows
  | [], rows => ⟨fun r hr => hr, fun l hl => (by cases hl)⟩
  | l :: ls, rows => by
    rw [List.foldl_cons]
    obtain ⟨h1, h2⟩ := rows_in ls (putRow rows l)
    refine ⟨fun r hr => h1 r (putRow_in.2 r hr), fun l' hl => ?_⟩
    rcases List.mem_cons.mp hl with e | hl
    · rw [e]; exact h1 _ putRow_in.1
    · exact h2 l' hl
theorem check_ok {ps : Ps} (hps : PsOk ps) {n : Nat} (hn : n ≤ 5) {a : Nat → Nat} (K : Kept ps n a) : checkR (rowsOf (ldOf ps n)) (bestOf (trj ps n).2) = true := by
  have hmem : bestOf (trj ps n).2 ∈ rowsOf (ldOf ps n) := by
    rw [best_eq K]
    exact (rows_in _ []).2 _ (ld_in n a K.o)
  have hq := best_Row4 (ps := ps) hn
  have htop : ∀ r ∈ rowsOf (ldOf ps n), ∀ k, k ≤ 3 → ((bestOf (trj ps n).2).drop k).sum ≤ (r.drop k).sum := fun r hr => tops_le (row_Row4 hn hr) hq (hg_best hps K hr)
  have hcmp : ∀ r ∈ rowsOf (ldOf ps n), ¬ cmpI r (bestOf (trj ps n).2) four < 0 ∧ (r ≠ bestOf (trj ps n).2 → cmpI (bestOf (trj ps n).2) r four < 0) := fun r hr => cmp_of (row_Row4 hn hr) hq (htop r hr)
  have hhead : (rowsOf (ldOf ps n)).headD [] ∈ rowsOf (ldOf ps n) := by
    cases e : rowsOf (ldOf ps n) with
    | nil => rw [e] at hmem; cases hmem
    | cons r rows => exact List.mem_cons_self
  have hfirst : firstOf (rowsOf (ldOf ps n)) ((rowsOf (ldOf ps n)).headD []) = bestOf (trj ps n).2 := first_best (fun r hr => (hcmp r hr).1) hmem fun r hr => by
    rcases List.mem_cons.mp hr with e | hr
    · rw [e]; exact (hcmp _ hhead).2
    · exact (hcmp r hr).2
  have hl : ∀ k, k ≤ 3 → lmin ((rowsOf (ldOf ps n)).map fun r => (r.drop k).sum) = ((bestOf (trj ps n).2).drop k).sum := fun k hk => lmin_eq (List.mem_map.mpr ⟨_, hmem, rfl⟩) fun x hx => by
    obtain ⟨r, hr, rfl⟩ := List.mem_map.mp hx
    exact htop r hr k hk
  unfold checkR
  rw [hfirst, beq_self_eq_true]
  simp only [List.all_cons, List.all_nil, hl 1 (by omega), hl 2 (by omega), hl 3 (by omega), beq_self_eq_true, Bool.and_self]

theorem told_load (v : Nat) : ∀ (tb : Tb) (b : Bk), loadOf (tb.foldl (fun b e => bump b e.2) b) v = loadOf b v + (tb.map fun e => if e.2 = v then 1 else 0).sum
  | [], b => rfl
  | e :: tb, b => by
    rw [List.foldl_cons, told_load v tb, loadOf_bump, List.map_cons, List.sum_cons]
    by_cases h : e.2 = v
    · rw [if_pos h, if_pos h.symm]; omega
    · rw [if_neg h, if_neg (Ne.symm h)]; omega
theorem ldA_sum (a : Nat → Nat) (v : Nat) : ∀ n, ((List.range n).map fun j => if a j = v then 1 else 0).sum = ldA a n v
  | 0 => rfl
  | n + 1 => by
    rw [List.range_succ, List.map_append, List.sum_append, ldA_sum a v n]
    simp [ldA]
theorem toldB_load {tb : Tb} {n : Nat} {a : Nat → Nat} (R : Rp tb n a) (v : Nat) : loadOf (toldB tb) v = ldA a n v := by
  unfold toldB
  rw [told_load v tb [], (R.map fun e => if e.2 = v then 1 else 0).sum_nat, List.map_map]
  show 0 + ((List.range n).map fun j => if a j = v then 1 else 0).sum = _
  rw [ldA_sum, Nat.zero_add]
noncomputable def Pos (b : Bk) : Prop := ∀ e ∈ b, 1 ≤ e.2
theorem Pos.bump {d : Nat} : ∀ {b : Bk}, Pos b → Pos (bump b d)
  | [], _ => fun e he => by
    have he' : e ∈ [(d, 1)] := he
    rw [List.mem_singleton.mp he']; exact Nat.le_refl _
  | (f, c) :: r, h => fun e he => by
    unfold Mine.bump at he
    split at he
    · rcases List.mem_cons.mp he with e' | he
      · rw [e']; exact Nat.succ_le_succ (Nat.zero_le _)
      · exact h e (List.mem_cons_of_mem _ he)
    · rcases List.mem_cons.mp he with e' | he
      · rw [e']; exact h _ List.mem_cons_self
      · exact Pos.bump (b := r) (fun x hx => h x (List.mem_cons_of_mem _ hx)) e he
theorem told_pos : ∀ (tb : Tb) (b : Bk), Pos b → Pos (tb.foldl (fun b e => bump b e.2) b)
  | [], b, h => h
  | e :: tb, b, h => told_pos tb _ h.bump
theorem trj_pos {ps : Ps} : ∀ n, Pos (trj ps n).2
  | 0 => fun e he => (by cases he)
  | n + 1 => (trj_pos n).bump
theorem lookup_nd {α : Type} {d : Nat} {c : α} : ∀ {b : List (Nat × α)}, (b.map (·.1)).Nodup → (d, c) ∈ b → b.lookup d = some c
  | (f, c') :: r, hn, h => by
    simp only [List.map_cons, List.nodup_cons] at hn
    rw [List.lookup_cons]
    rcases List.mem_cons.mp h with e | h
    · cases e; rw [beq_self_eq_true]
    · have hne : d ≠ f := fun e => hn.1 (e ▸ List.mem_map.mpr ⟨_, h, rfl⟩)
      rw [beq_eq_false_iff_ne.mpr hne]
      exact lookup_nd hn.2 h
theorem load_mem {b : Bk} (hb : BkOk b) {d c : Nat} (h : (d, c) ∈ b) : loadOf b d = c := by
  unfold loadOf
  rw [lookup_nd hb.nd h]; rfl
theorem mem_load {b : Bk} {d : Nat} (h : 1 ≤ loadOf b d) : b.lookup d = some (loadOf b d) := by
  unfold loadOf at *
  cases e : b.lookup d with
  | none => rw [e] at h; exact absurd h (by decide)
  | some c => rfl
theorem hits_of {a b : Bk} (he : ∀ v, loadOf a v = loadOf b v) : ∀ {r : Bk}, (∀ e ∈ r, loadOf a e.1 = e.2 ∧ 1 ≤ e.2) → hitsB b r = true
  | [], _ => rfl
  | (d, c) :: r, h => by
    obtain ⟨h1, h2⟩ := h _ List.mem_cons_self
    dsimp only at h1 h2
    rw [he] at h1
    unfold hitsB
    rw [mem_load (b := b) (d := d) (by omega), h1]
    simp only [beq_self_eq_true, Bool.true_and]
    exact hits_of he fun e hr => h e (List.mem_cons_of_mem _ hr)
theorem nd_len : ∀ {l m : List Nat}, l.Nodup → (∀ x ∈ l, x ∈ m) → l.length ≤ m.length
  | [], m, _, _ => Nat.zero_le _
  | x :: l, m, hn, h => by
    simp only [List.nodup_cons] at hn
    have hx := h x List.mem_cons_self
    have ih := nd_len (l := l) (m := m.erase x) hn.2 fun y hy => by
      have hne : y ≠ x := fun e => hn.1 (e ▸ hy)
      exact (List.mem_erase_of_ne hne).mpr (h y (List.mem_cons_of_mem _ hy))
    rw [List.length_erase_of_mem hx] at ih
    have := List.length_pos_of_mem hx
    rw [List.length_cons]; omega
theorem len_le {a b : Bk} (ha : BkOk a) (pa : Pos a) (he : ∀ v, loadOf a v = loadOf b v) : a.length ≤ b.length := by
  have := nd_len (l := a.map (·.1)) (m := b.map (·.1)) ha.nd fun x hx => by
    obtain ⟨e, h1, rfl⟩ := List.mem_map.mp hx
    have h2 := load_mem ha (d := e.1) (c := e.2) h1
    have h3 := pa e h1
    have h4 := mem_load (b := b) (d := e.1) (by rw [← he, h2]; exact h3)
    exact List.mem_map.mpr ⟨_, lookup_some_mem h4, rfl⟩
  simpa using this
theorem plain_ok {ps : Ps} (hps : PsOk ps) : Plain ps := by
  have h5 := hps.len
  obtain ⟨a, K⟩ := kept hps ps.length h5
  obtain ⟨hT, hB⟩ := trj_ok hps ps.length (Nat.le_refl _)
  refine ⟨fun n hn => ?_, fun n hn j hj => ?_, ?_, ?_⟩
  · obtain ⟨b, Kb⟩ := kept hps (n + 1) (by omega)
    exact check_ok hps (by omega) Kb
  · obtain ⟨b, Kb⟩ := kept hps n (by omega)
    exact ⟨_, Kb.r.oth hj⟩
  · refine (eq_sortI ?_ ?_).symm
    · refine List.Perm.trans (List.Perm.of_eq ?_) (K.r.map fun e => (e.1 : Int)).symm
      rw [List.map_map]; rfl
    · refine List.Pairwise.map _ (fun x y (h : x < y) => ?_) List.pairwise_lt_range
      omega
  · have hok := toldB_ok (trj ps ps.length).1 [] BkOk.nil fun e he => isIn_lt (pOf_lt hps e.1) (hT.isIn e he)
    have hpos : Pos (toldB (trj ps ps.length).1) := told_pos _ [] fun e he => (by cases he)
    have hld : ∀ v, loadOf (toldB (trj ps ps.length).1) v = loadOf (trj ps ps.length).2 v := fun v => by rw [toldB_load K.r, K.ld]
    have hl : (toldB (trj ps ps.length).1).length = (trj ps ps.length).2.length := Nat.le_antisymm (len_le hok hpos hld) (len_le hB (trj_pos _) fun v => (hld v).symm)
    rw [hl, beq_self_eq_true, Bool.true_and]
    exact hits_of hld fun e he => ⟨load_mem hok he, hpos e he⟩
theorem PL (ns : List Int) : Plain (psOf ns) := plain_ok (ps_ok ns).1
end Mine
end

section -- PgB2
open PySem PySem.W PyProof.Rows PySem.Calls PySem.SeqAt
set_option Elab.async false
set_option maxRecDepth 100000
set_option maxHeartbeats 4000000
namespace Mine
set_option linter.unusedVariables false
theorem well_ints {P : Params} {h : Heap} : ∀ {vs : List Value} {ns : List Int}, WellAll P h vs (ofPys (ns.map .int)) → IntsAre vs ns
  | _, [], h => by cases h; exact .nil
  | _, n :: ns, h => by
    cases h with
    | cons h1 h2 =>
      cases h1
      exact .cons _ _ (well_ints h2)
theorem well_list {P : Params} {h : Heap} {v : Value} {ns : List Int} (W : Well P h v (ofPy (.list (ns.map .int)))) : ∃ a vs n, v = .ref a ∧ h.get? a = some (lstObj vs n) ∧ IntsAre vs ns := by
  have W' : Well P h v (.list (ofPys (ns.map .int))) := W
  cases W' with
  | list h1 h2 => exact ⟨_, _, _, rfl, h1, well_ints h2⟩
theorem fin_body {w : World} {s₁ : Shared} {loose : List Str} {mean : ExcName → Option Value} {p' : Program} {mg mb : Str → Option Value} {l fa : Addr} {cd : Value} {ns : List Int} {h₁ : Heap} {nm : Str} {Post : Flow → Shared → Prop} {Er : Value → Shared → Prop}
    (KX : (pghead.heap_1 w.params).In s₁.heap) (T : Top p' loose mean mg mb s₁.heap) (W : Well w.params s₁.heap (.ref l) (ofPy (.list (ns.map .int)))) (hlen : ns.length ≤ 63)
    (F : Fr s₁.heap s₁.heap.objs.size h₁ (fun x => List.lookup x [(("script" : Str), Value.ref l)])) (P : Plain (psOf ns))
    (hp : ∀ s' m', Fr s₁.heap s₁.heap.objs.size s'.heap m' → s'.gens = s₁.gens → s'.os = s₁.os → Post (.ret (.bool true)) s') :
    wpAny (model PySem.Challenge.rw_pg0278_01.row.prog w) (callerA.deeper (envOf nm (scOf w.params 288) s₁.heap.objs.size fa cd)) (execs (bodyOf w.params 288) (envOf nm (scOf w.params 288) s₁.heap.objs.size fa cd)) Post Er
      { heap := h₁, gens := s₁.gens, drawn := s₁.drawn, toks := s₁.toks + 1, os := s₁.os } := by
  obtain ⟨a, vs, n, e, ho, hI⟩ := well_list W
  cases e
  let X : Wd := { prog := PySem.Challenge.rw_pg0278_01.row.prog, w := w, h0 := s₁.heap, mg := mg, K := pghead.heap_1 w.params, kin := KX, g := T.g, b := ⟨mb, T.b, T.builtins⟩, nolimit := T.nolimit, digits := T.nodigits }
  have ok : Ok X := ⟨rfl⟩
  have S : St X.prog X.w X.h0 (fun b o => s₁.heap.get? b = some o) [] [] { heap := h₁, gens := s₁.gens, drawn := s₁.drawn, toks := s₁.toks + 1, os := s₁.os } :=
    ⟨fun b o e => e, fun b o e _ => F.keep b o e, rfl, List.nodup_nil, fun i a o e => (by simp at e), fun i a o e => (by simp at e), fun a ha => (by cases ha), fun t o e hf => (by have := (Heap.get?_some_iff.mp e).2; rw [hf] at this; cases this), Nat.succ_pos _⟩
  obtain ⟨oL, hoL⟩ : ∃ o, h₁.get? s₁.heap.objs.size = some o := by
    obtain ⟨o, _, _, h, _⟩ := F.ns
    exact ⟨o, h⟩
  have E : En X.prog X.w ⟨scOf w.params 288, []⟩ (envOf nm (scOf w.params 288) s₁.heap.objs.size fa cd) [s₁.heap.objs.size] [("script", .dat (.list (iL ns)))] (fun b o => s₁.heap.get? b = some o) [] h₁ := by
    refine ⟨rfl, rfl, rfl, rfl, List.mem_singleton_self _, fun b hb => ?_, ⟨_, F.ns, fun x v h1 h2 => ?_⟩, fun x v h1 h2 => ?_, fun x b hb => ?_, fun x y b hb => ?_, fun x hx => ?_⟩
    · rw [List.mem_singleton.mp hb]
      exact ⟨by simp, fun o hf h => (by have h' : s₁.heap.get? s₁.heap.objs.size = some o := h; rw [fresh_size] at h'; cases h'), ne_none hoL⟩
    · have hx : x = "script" := by
        by_cases hx : x = "script"
        · exact hx
        · rw [List.lookup_cons, beq_eq_false_iff_ne.mpr hx] at h1; cases h1
      subst hx
      rw [List.lookup_cons, beq_self_eq_true] at h1
      cases h1
      refine ⟨.ref l, by simp, ?_⟩
      exact Rd.list ho (are_ints hI)
    · have hx : x = "script" := by
        by_cases hx : x = "script"
        · exact hx
        · rw [List.lookup_cons, beq_eq_false_iff_ne.mpr hx] at h1; cases h1
      subst hx
      exact absurd rfl h2
    · cases hb
    · cases hb
    · cases hx
  have R : Room (callerA.deeper (envOf nm (scOf w.params 288) s₁.heap.objs.size fa cd)) (0 + 9) := ⟨rfl, by show 1 + claimMargin + 1 + 3 * 9 < recursionLimit; decide, by show 4 + 3 + 100 * 9 + 100 < cLine; decide⟩
  refine xafter (law_body (k := 0) ok hlen P (Q := fun fl _ _ => fl = .ret (.bool true)) (fun _ _ => rfl) _ _ _ _ _ _ R S E) ?_
  rintro f s' ⟨F', m', fl, loc', σ', g, E', r, rfl⟩
  cases r with
  | ret r =>
    cases r
    obtain ⟨tk, e⟩ := g.rest
    obtain ⟨mp, hn, _⟩ := E'.ns
    refine hp s' mp ⟨hn, fun b o hb => g.keep b o (by simp) (fun h => ?_) (F.keep b o hb), Nat.le_refl _⟩ (by rw [e]) (by rw [e])
    rw [List.mem_singleton.mp h, fresh_size] at hb; cases hb
end Mine
end

open PySem PySem.W PyProof.Rows
set_option maxRecDepth 100000 in
set_option maxHeartbeats 8000000 in
theorem PySem.Challenge.cw_pg0278_01_holds : PySem.Challenge.rw_pg0278_01.Holds := by
  refine Mine.pghead ?_
  k_go0
  refine Mine.fin_body (by assumption) (by assumption) (by assumption) (by omega) (by assumption) (Mine.PL _) ?_
  intro s' m' F' hg' ho'
  refine goodW_bool F' (hg'.trans (by assumption)) (raisesW_false (by wrow_none_raised)) ?_ ho'
  refine' postW_of ?q1 ?q2 ?q3
  (case q1 => o_shape)
  (case q2 => wtm_val)
  (case q3 => w_fin)
