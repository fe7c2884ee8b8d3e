import PyProof.Rows.All
import Wide.All
import OpenK.AllK
import Wide.FinOn
import KE.KMethU
import PyProof.NeKinds
import PyProof.CompFree
import PyProof.WalksMore
import PyProof.AssignAttr
import PyProof.RulesAssignMore
import KE.KNestM
import KE.BitLaws
import PyProof.IsiH_list
import PyProof.DelItemList
import PyProof.RulesDel
import KE.KSetInts
import PyProof.DictCompW
import PyProof.TupleOps
import KE.KSetDisp
import PyProof.CollectIter
import PyProof.DictWalks
import KE.KLam
import KE.KSortKey
import PyProof.Rows.FStrParts
import PyProof.Rows.StrSplitMax
import PyProof.DefCall
import KE.KItemsList
import PyProof.SliceStr2
import PyProof.StrLaws
import PyProof.WalksPairs
import PyProof.DictTruth
import PyProof.DictItems
import PyProof.ToksMono
import PyProof.RulesTry
import PyProof.StrReplace2
import PyProof.Rows.SortWalk
import PyProof.ListStr
import PyProof.Conv_int_bool
import PyProof.StrLawsNeg
import PySem.Challenge.RW_tc0097_01
open PySem PySem.SeqAt PySem.Calls PyProof.Rows PySem.W
set_option Elab.async false
set_option compiler.extract_closed false
set_option linter.unusedVariables false
set_option maxRecDepth 100000
set_option maxHeartbeats 8000000
namespace Mine
noncomputable abbrev rL : OpenLaw := PySem.Challenge.rw_tc0097_01
theorem said_a1 : sreFenced rL.row.prog.main = true := by rw [PySem.W.Fast.te11788848310118352699]; kernel_rfl
theorem said_a2 : ((moduleNames rL.row.prog.main.body).isEmpty || lookedIntoSs (moduleNames rL.row.prog.main.body) rL.row.prog.main.body) = true := by rw [PySem.W.Fast.te9807087744658564304]; rw [PySem.W.Fast.te12862048085361865435]; kernel_rfl
theorem said_a3 : namesResolve rL.row.prog = true := by rw [PySem.W.Fast.te8377067652309620493]; kernel_rfl
theorem said_a4 : rL.row.prog.boundNames.all (fun n => !worldNames.contains n) = true := by kernel_rfl
theorem said_i : (importedModules rL.row.prog.main.body).all cThrough.contains = true := by kernel_rfl
theorem said_f : (["vars", "dir", "locals"] : List Str).filter (readsOut rL.row.prog rL.row.prog.main.body) = [] := by rw [PySem.W.Fast.te13343964577679436407]; kernel_rfl
theorem said_a5 : noRoadLSs { strict := !(importedModules rL.row.prog.main.body).all cThrough.contains, foot := none, bare := (["vars", "dir", "locals"] : List Str).filter (readsOut rL.row.prog rL.row.prog.main.body) } rL.row.prog.main.body = true := by rw [said_i, said_f, PySem.W.Fast.te8326940854005059898]; kernel_rfl
theorem said_a6 : (namesMeet rL.row.prog rL.row.prog.main.body fun _ n => attrL n) = true := by rw [PySem.W.Fast.te17119622794617984870]; kernel_rfl
theorem said_looks : looksOpen rL.row.prog = true := by
  unfold looksOpen
  exact look_both (look_both (look_both (look_both (look_both said_a1 said_a2) said_a3) said_a4) said_a5) said_a6
theorem said_part : rL.row.partSaid = true := by
  unfold OpenRow.partSaid
  refine look_both (look_both (look_both (look_both (look_both (look_both (look_both (look_both (look_both (look_both (look_both (look_both (look_both said_looks ?_) ?_) ?_) ?_) ?_) ?_) ?_) ?_) ?_) ?_) ?_) ?_) ?_ <;> kernel_rfl
theorem said_b2 : (rL.row.prog.boundNames.contains rL.row.name) = true := by kernel_rfl
theorem said_row : rL.row.wellSaid = true := by
  unfold OpenRow.wellSaid
  exact look_both (look_both said_part said_b2) (by kernel_rfl)
theorem said_c2 : decide (rL.foot ≤ (behindTheImports rL.prog).length) = true := by kernel_rfl
theorem said_c3 : rL.footing.all footLine = true := by kernel_rfl
theorem said_c4 : noClassBlock rL.prog rL.footing = true := by rw [PySem.W.Fast.te8179353310426384613]; kernel_rfl
theorem said_c7 : noRoadLSs { strict := true, foot := some rL.bound', writes := rL.writes, may := rL.may } rL.footing = true := by rw [PySem.W.Fast.te8326940854005059898]; kernel_rfl
theorem said_c8 : defStands rL.about rL.above = true := by kernel_rfl
theorem said_c9 : rL.namesIt = true := by kernel_rfl
theorem said_d2 : rL.bound'.all (fun n => !builtinNamed n || rL.about == [n] || !rL.reads n) = true := by kernel_rfl
theorem said_d4 : (rL.prog.main.body.flatMap importedNames).all (fun n => !rL.reads n || (drawsOf n rL.prog.main.body).all fun mn => mn.2 != ("attrgetter" : Str) && mn.2 != ("methodcaller" : Str)) = true := by kernel_rfl
theorem said_e1 : namesMeet rL.prog rL.footing (fun sc n => (!(["type", "isinstance", "issubclass", "getattr", "hasattr"] : List Str).contains n || sc.names.lookup n == some .globalImplicit) &&
    (rL.may != some n || sc.kind == .module || sc.names.lookup n == some .globalImplicit)) = true := by kernel_rfl
theorem said_e4 : rL.own.all (fun n => !builtinNamed n) = true := by kernel_rfl
theorem said_e5 : namesMeet rL.prog rL.above (fun _ n => !rL.own.contains n) = true := by rw [PySem.W.Fast.te17119622794617984870]; kernel_rfl
theorem said_e6 : (namesMeet rL.prog rL.footing fun sc n => sc.kind == .module || sc.names.lookup n != some .globalExplicit) = true := by rw [PySem.W.Fast.te17119622794617984870]; kernel_rfl
theorem p_said : rL.wellSaid = true := by
  unfold OpenLaw.wellSaid
  refine look_both (look_both (look_both (look_both (look_both (look_both (look_both (look_both (look_both (look_both (look_both (look_both (look_both (look_both (look_both (look_both (look_both (look_both said_row said_c2) said_c3) said_c4) ?_) ?_) said_c7) said_c8) said_c9) ?_) said_d2) ?_) said_d4) said_e1) ?_) ?_) said_e4) said_e5) said_e6 <;> kernel_rfl
local macro_rules | `(tactic| wtm_at "om") => `(tactic| first | lia -abstractProof | omega)
theorem len0 {α : Type} : ∀ {l : List α}, l.length = 0 → l = [] := List.length_eq_zero_iff.mp
theorem len1 {α : Type} {l : List α} (h : l.length = 1) : ∃ a, l = [a] := List.length_eq_one_iff.mp h
theorem lenS {α : Type} {n : Nat} {l : List α} (h : l.length = n + 1) : ∃ a r, l = a :: r ∧ r.length = n := by
  cases l with
  | nil => cases h
  | cons a r => exact ⟨a, r, rfl, Nat.succ.inj h⟩
theorem len2 {α : Type} {l : List α} (h : l.length = 2) : ∃ a b, l = [a, b] := by
  obtain ⟨a, r, rfl, h2⟩ := lenS h; obtain ⟨b, rfl⟩ := len1 h2; exact ⟨a, b, rfl⟩
theorem len3 {α : Type} {l : List α} (h : l.length = 3) : ∃ a b c, l = [a, b, c] := by
  obtain ⟨a, r, rfl, h2⟩ := lenS h; obtain ⟨b, c, rfl⟩ := len2 h2; exact ⟨a, b, c, rfl⟩
theorem len4 {α : Type} {l : List α} (h : l.length = 4) : ∃ a b c d, l = [a, b, c, d] := by
  obtain ⟨a, r, rfl, h2⟩ := lenS h; obtain ⟨b, c, d, rfl⟩ := len3 h2; exact ⟨a, b, c, d, rfl⟩
theorem ln1 {α : Type} {n : Nat} {P : List α → Prop} (hn : n = 1) (h : ∀ a, P [a]) (l : List α) (e : l.length = n) : P l := by
  subst hn; obtain ⟨a, rfl⟩ := len1 e; exact h a
theorem ln2 {α : Type} {n : Nat} {P : List α → Prop} (hn : n = 2) (h : ∀ a b, P [a, b]) (l : List α) (e : l.length = n) : P l := by
  subst hn; obtain ⟨a, b, rfl⟩ := len2 e; exact h a b
theorem ln3 {α : Type} {n : Nat} {P : List α → Prop} (hn : n = 3) (h : ∀ a b c, P [a, b, c]) (l : List α) (e : l.length = n) : P l := by
  subst hn; obtain ⟨a, b, c, rfl⟩ := len3 e; exact h a b c
theorem ln4 {α : Type} {n : Nat} {P : List α → Prop} (hn : n = 4) (h : ∀ a b c d, P [a, b, c, d]) (l : List α) (e : l.length = n) : P l := by
  subst hn; obtain ⟨a, b, c, d, rfl⟩ := len4 e; exact h a b c d
/- a value without the token that tells one int or text from an equal one -/
noncomputable def can : Value → Value
  | .int i _ => .int i 0
  | .float b _ => .float b 0
  | .str s _ => .str s 0
  | .bytes b _ => .bytes b 0
  | v => v
noncomputable abbrev vI (i : Int) : Value := .int i 0
noncomputable abbrev vS (s : Str) : Value := .str s 0
theorem can_int {v : Value} {i : Int} (h : can v = vI i) : ∃ t, v = .int i t := by cases v <;> first | (cases h; exact ⟨_, rfl⟩) | cases h
theorem can_str {v : Value} {x : Str} (h : can v = vS x) : ∃ t, v = .str x t := by cases v <;> first | (cases h; exact ⟨_, rfl⟩) | cases h
theorem can_ref {v : Value} {a : Addr} (h : can v = .ref a) : v = .ref a := by cases v <;> first | (cases h; exact rfl) | cases h
theorem can_bool {v : Value} {b : Bool} (h : can v = .bool b) : v = .bool b := by cases v <;> first | (cases h; exact rfl) | cases h
theorem can_none {v : Value} (h : can v = .none) : v = .none := by cases v <;> first | (cases h; exact rfl) | cases h
theorem can_builtin {v : Value} {i : String} (h : can v = .builtin i) : v = .builtin i := by cases v <;> first | (cases h; exact rfl) | cases h
theorem can_type {v : Value} {i : String} (h : can v = .type i) : v = .type i := by cases v <;> first | (cases h; exact rfl) | cases h
@[simp] theorem can_can (v : Value) : can (can v) = can v := by cases v <;> rfl
noncomputable def canF : Flow → Flow
  | .ret v => .ret (can v)
  | f => f
/- what an object is, without tokens, epochs and hashes -/
inductive AO where
  | list (vs : List Value)
  | tuple (vs : List Value)
  | sd (kvs : List (Str × Value))
  | inst (C d : Addr)
  | cell (v : Option Value)
  | fields (ty : String) (vs : List Value)
  | obj (o : Obj)
  | sset (xs : List Str)
  | ex (ty : String) (vs : Array Value)
noncomputable def Rep (P : Params) : AO → Obj → Prop
  | .list vs, o => ∃ (items : List Value) (n : Nat), o = ⟨.type "list", none, .seq items.toArray n, #[]⟩ ∧ items.map can = vs
  | .tuple vs, o => ∃ (items : List Value) (n : Nat), o = ⟨.type "tuple", none, .seq items.toArray n, #[]⟩ ∧ items.map can = vs
  | .sd kvs, o => ∃ (es : List DictEntry) (n : Nat), o = ⟨.type "dict", none, .dict es.toArray n, #[]⟩ ∧ (es.map fun e => (e.hash, can e.key, can e.val)) = kvs.map fun kv => (PyData.keyHash P kv.1, vS kv.1, kv.2)
  | .inst C d, o => o = ⟨.ref C, some d, .plain, #[]⟩
  | .cell v, o => ∃ v' : Option Value, o.data = .cell v' ∧ v'.map can = v
  | .fields ty vs, o => o.cls = .type ty ∧ ∃ items : Array Value, o.data = .fields items ∧ items.toList.map can = vs
  | .obj x, o => o = x
  | .sset xs, o => o.cls = .type "set" ∧ ∃ es n t, o.data = .set es n t ∧ (es.toList.map fun e => (e.1, can e.2)) = xs.map (fun x => (PyData.keyHash P x, vS x)) ∧ t.place.size = es.size ∧ t.fill ≤ t.mask ∧ xs.length ≤ 1
  | .ex ty vs, o => o.cls = .type ty ∧ o.data = .fields vs
noncomputable abbrev Mu := List (Str × Value)
noncomputable abbrev Sg := List (Addr × AO)
structure Cx where
  prog : Program
  w : World
  h₀ : Heap
  gens : Array GenState
  drawn : Drawn
  os : OsState
structure St (C : Cx) (L : Addr) (μ : Mu) (σ : Sg) (s : Shared) : Prop where
  fr : ∃ m, Fr C.h₀ L s.heap m ∧ ∀ x v, μ.lookup x = some v → ∃ v', m x = some v' ∧ can v' = v
  ob : ∀ p ∈ σ, p.1 ≠ L ∧ C.h₀.get? p.1 = none ∧ ∃ o, s.heap.get? p.1 = some o ∧ Rep C.w.params p.2 o
  nd : (σ.map (·.1)).Nodup
  fx : s.gens = C.gens ∧ s.drawn = C.drawn ∧ s.os = C.os
noncomputable def W (C : Cx) (A : Around) (L : Addr) {α : Type} (t : Sem α) (μ : Mu) (σ : Sg) (Q : α → Mu → Sg → Prop) : Prop :=
  ∀ s, St C L μ σ s → wpAny (model C.prog C.w) A t (fun a s' => ∃ μ' σ', Q a μ' σ' ∧ St C L μ' σ' s') (fun _ _ => False) s
section
variable {C : Cx} {A : Around} {L : Addr} {α β : Type} {μ : Mu} {σ : Sg}
theorem W_pure {a : α} {Q : α → Mu → Sg → Prop} (h : Q a μ σ) : W C A L (pure a) μ σ Q := fun _ hs => wpAny_pure ⟨μ, σ, h, hs⟩
theorem W_bind {t : Sem α} {f : α → Sem β} {Q : β → Mu → Sg → Prop} (h : W C A L t μ σ (fun a μ' σ' => W C A L (f a) μ' σ' Q)) : W C A L (t >>= f) μ σ Q :=
  fun s hs => wpAny_bind (wpAny_mono (h s hs) (fun _ s' ⟨_, _, hq, hst⟩ => hq s' hst) fun _ _ x => x)
theorem W_mono {t : Sem α} {Q Q' : α → Mu → Sg → Prop} (h : W C A L t μ σ Q) (hq : ∀ a μ' σ', Q a μ' σ' → Q' a μ' σ') : W C A L t μ σ Q' :=
  fun s hs => wpAny_mono (h s hs) (fun a _ ⟨μ', σ', q, hst⟩ => ⟨μ', σ', hq a μ' σ' q, hst⟩) fun _ _ x => x
theorem W_map {t : Sem α} {f : α → β} {Q : β → Mu → Sg → Prop} (h : W C A L t μ σ (fun a μ' σ' => Q (f a) μ' σ')) : W C A L (f <$> t) μ σ Q :=
  fun s hs => wpAny_map (h s hs)
theorem W_rule {tag : String} {Q : Unit → Mu → Sg → Prop} (h : Q () μ σ) : W C A L (rule tag) μ σ Q := fun _ hs => wpAny_rule ⟨μ, σ, h, hs⟩
theorem W_standAt {pos : Pos} {Q : Unit → Mu → Sg → Prop} (h : Q () μ σ) : W C A L (standAt pos) μ σ Q := fun _ hs => wpAny_standAt ⟨μ, σ, h, hs⟩
theorem W_point {Q : Unit → Mu → Sg → Prop} (h : Q () μ σ) : W C A L point μ σ Q := fun _ hs => wpAny_point ⟨μ, σ, h, hs⟩
theorem W_holding {vs : List Value} {t : Sem α} {Q : α → Mu → Sg → Prop} (h : W C A L t μ σ Q) : W C A L (holding vs t) μ σ Q := fun s hs => wpAny_holding (h s hs)
theorem W_release {vs keep : List Value} {Q : Unit → Mu → Sg → Prop} (h : Q () μ σ) : W C A L (release vs keep) μ σ Q := fun _ hs => wpAny_release' ⟨μ, σ, h, hs⟩
theorem W_operate {vs : List Value} {t : Sem Value} {Q : Value → Mu → Sg → Prop} (h : W C A L t μ σ Q) : W C A L (operate vs t) μ σ Q := fun s hs => wpAny_operate' (h s hs)
theorem W_onRaise {t : Sem α} {k : Value → Sem Unit} {Q : α → Mu → Sg → Prop} (h : W C A L t μ σ Q) : W C A L (t.onRaise k) μ σ Q :=
  fun s hs => wpAny_onRaise (wpAny_mono (h s hs) (fun _ _ x => x) fun _ _ x => x.elim)
theorem W_keep {vs : List Value} {t : Sem α} {Q : α → Mu → Sg → Prop} (h : W C A L t μ σ Q) : W C A L (t.keep vs) μ σ Q := fun s hs => Calls.wpAny_keep (h s hs)
theorem W_fresh {Q : Tok → Mu → Sg → Prop} (h : ∀ t, Q t μ σ) : W C A L fresh μ σ Q := fun s hs => wpAny_fresh ⟨μ, σ, h _, ⟨hs.fr, hs.ob, hs.nd, hs.fx⟩⟩
/- a tree that only looks -/
theorem W_of {t : Sem α} {Q : α → Mu → Sg → Prop} (h : ∀ s, St C L μ σ s → ∀ Q' : α → Shared → Prop, (∀ a, Q a μ σ → Q' a s) → wpAny (model C.prog C.w) A t Q' (fun _ _ => False) s) : W C A L t μ σ Q :=
  fun s hs => h s hs _ fun _ q => ⟨μ, σ, q, hs⟩
theorem W_looks {t : Sem α} {r : α} {Q : α → Mu → Sg → Prop} (h : ∀ s, St C L μ σ s → Looks (model C.prog C.w) s.heap t r) (q : Q r μ σ) : W C A L t μ σ Q :=
  fun s hs => (h s hs).here ⟨μ, σ, q, hs⟩
theorem W_eq {t t' : Sem α} {Q : α → Mu → Sg → Prop} (e : t = t') (h : W C A L t' μ σ Q) : W C A L t μ σ Q := e ▸ h
/- less may be known -/
theorem St.weaken {μ' : Mu} {σ' : Sg} {s : Shared} (h : St C L μ σ s) (hμ : ∀ x v, μ'.lookup x = some v → μ.lookup x = some v) (hσ : ∀ p ∈ σ', p ∈ σ) (hn : (σ'.map (·.1)).Nodup) : St C L μ' σ' s :=
  ⟨let ⟨m, F, k⟩ := h.fr; ⟨m, F, fun x v e => k x v (hμ x v e)⟩, fun p hp => h.ob p (hσ p hp), hn, h.fx⟩
theorem W_weaken {t : Sem α} {μ' : Mu} {σ' : Sg} {Q : α → Mu → Sg → Prop} (hμ : ∀ x v, μ'.lookup x = some v → μ.lookup x = some v) (hσ : σ'.Sublist σ) (h : W C A L t μ' σ' Q) : W C A L t μ σ Q :=
  fun s hs => h s (hs.weaken hμ (fun _ hp => hσ.subset hp) (List.Nodup.sublist (hσ.map _) hs.nd))
theorem W_perm {t : Sem α} {σ' : Sg} {Q : α → Mu → Sg → Prop} (p : σ'.Perm σ) (h : W C A L t μ σ' Q) : W C A L t μ σ Q :=
  fun s hs => h s (hs.weaken (fun _ _ e => e) (fun _ hp => p.subset hp) ((p.map (·.1)).nodup_iff.mpr hs.nd))
end
/- σ holds o at a; f puts another there -/
inductive At : Sg → Addr → AO → (AO → Sg) → Prop
  | here {a o r} : At ((a, o) :: r) a o (fun o' => (a, o') :: r)
  | there {p r a o f} : At r a o f → At (p :: r) a o (fun o' => p :: f o')
theorem At.mem {σ : Sg} {a : Addr} {o : AO} {f : AO → Sg} (h : At σ a o f) : (a, o) ∈ σ := by
  induction h with
  | here => exact .head _
  | there _ ih => exact .tail _ ih
theorem At.keys {σ : Sg} {a : Addr} {o : AO} {f : AO → Sg} (h : At σ a o f) (o' : AO) : (f o').map (·.1) = σ.map (·.1) := by
  induction h with
  | here => rfl
  | there _ ih => simp [ih]
theorem At.put {σ : Sg} {a : Addr} {o : AO} {f : AO → Sg} (h : At σ a o f) (o' : AO) : ∀ p ∈ f o', p = (a, o') ∨ (p ∈ σ ∧ (p.1 = a → (σ.map (·.1)).Nodup → False)) := by
  induction h with
  | here =>
    intro p hp
    rcases List.mem_cons.mp hp with rfl | hp
    · exact .inl rfl
    · refine .inr ⟨.tail _ hp, fun e n => ?_⟩
      have := (List.nodup_cons.mp n).1
      exact this (List.mem_map.mpr ⟨p, hp, e⟩)
  | there _ ih =>
    rename_i q r a o f hat
    intro p hp
    rcases List.mem_cons.mp hp with rfl | hp
    · refine .inr ⟨.head _, fun e n => ?_⟩
      exact (List.nodup_cons.mp n).1 (List.mem_map.mpr ⟨_, hat.mem, e.symm⟩)
    · rcases ih p hp with e | ⟨e, k⟩
      · exact .inl e
      · exact .inr ⟨.tail _ e, fun e n => k e (List.nodup_cons.mp n).2⟩
noncomputable def nthN : Nat → Sg → Option (Addr × AO)
  | _, [] => none
  | 0, p :: _ => some p
  | n + 1, _ :: r => nthN n r
noncomputable def updN : Nat → Sg → AO → Sg
  | _, [], _ => []
  | 0, p :: r, o => (p.1, o) :: r
  | n + 1, p :: r, o => p :: updN n r o
theorem At.cert {a : Addr} {o : AO} {n : Nat} : ∀ {σ : Sg}, nthN n σ = some (a, o) → At σ a o (updN n σ) := by
  induction n with
  | zero =>
    intro σ h
    cases σ with
    | nil => cases h
    | cons p r => cases h; exact .here
  | succ n ih =>
    intro σ h
    cases σ with
    | nil => cases h
    | cons p r => exact .there (ih h)
@[irreducible] noncomputable def AtI (_ : Sg) (_ : Addr) (_ : AO) (_ : Nat) : Prop := True
theorem AtI.here {a : Addr} {o : AO} {r : Sg} : AtI ((a, o) :: r) a o .zero := by unfold AtI; trivial
theorem AtI.there {p : Addr × AO} {a : Addr} {o : AO} {r : Sg} {n : Nat} : AtI r a o n → AtI (p :: r) a o (.succ n) := by unfold AtI; exact id
theorem At.certW {σ : Sg} {a : Addr} {o : AO} {f : AO → Sg} (n : Nat) (h : nthN n σ = some (a, o)) (e : updN n σ = f) : At σ a o f := e ▸ At.cert h
@[irreducible] noncomputable def AtJ (_ : Sg) (_ : Addr) (_ : AO) (_ : AO → Sg) (_ : Nat) : Prop := True
theorem AtJ.here {a : Addr} {o : AO} {r : Sg} : AtJ ((a, o) :: r) a o (fun o' => (a, o') :: r) .zero := by unfold AtJ; trivial
theorem AtJ.there {p : Addr × AO} {a : Addr} {o : AO} {r : Sg} {f : AO → Sg} {n : Nat} : AtJ r a o f n → AtJ (p :: r) a o (fun o' => p :: f o') (.succ n) := by unfold AtJ; exact id
/- σ is o at a beside r -/
inductive Pull : Sg → Addr → AO → Sg → Prop
  | here {a o r} : Pull ((a, o) :: r) a o r
  | there {p r a o r'} : Pull r a o r' → Pull (p :: r) a o (p :: r')
theorem Pull.perm {σ r : Sg} {a : Addr} {o : AO} (h : Pull σ a o r) : ((a, o) :: r).Perm σ := by
  induction h with
  | here => exact .refl _
  | there _ ih => exact (List.Perm.swap _ _ _).trans (ih.cons _)
section
variable {C : Cx} {A : Around} {L : Addr} {α β : Type} {μ : Mu} {σ : Sg}
theorem St.at {s : Shared} {a : Addr} {o : AO} {f : AO → Sg} (h : St C L μ σ s) (x : At σ a o f) : ∃ ob, s.heap.get? a = some ob ∧ Rep C.w.params o ob := (h.ob _ x.mem).2.2
theorem St.lt {s : Shared} {a : Addr} {o : AO} {f : AO → Sg} (h : St C L μ σ s) (x : At σ a o f) : a < s.heap.objs.size := let ⟨_, e, _⟩ := h.at x; Heap.lt_size e
theorem Fr.changes {h₀ h h' : Heap} {L a : Addr} {m : Str → Option Value} (F : Fr h₀ L h m) (hs : Heap.SameBut a h h') (h1 : a ≠ L) (h2 : h₀.get? a = none) : Fr h₀ L h' m :=
  ⟨F.ns.sameBut hs (Ne.symm h1), fun b o e => (hs.2 b (fun q => by subst q; rw [h2] at e; cases e)).trans (F.keep b o e), F.above⟩
/- the object at a is turned -/
theorem St.upd {s : Shared} {a : Addr} {o o' : AO} {f : AO → Sg} {h' : Heap} {ob' : Obj} (h : St C L μ σ s) (x : At σ a o f) (hs : Heap.SameBut a s.heap h') (hg : h'.get? a = some ob') (hr : Rep C.w.params o' ob')
    {tk : Nat} : St C L μ (f o') ⟨h', s.gens, s.drawn, tk, s.os⟩ := by
  obtain ⟨h1, h2, _⟩ := h.ob _ x.mem
  refine ⟨let ⟨m, F, k⟩ := h.fr; ⟨m, Fr.changes F hs h1 h2, k⟩, fun p hp => ?_, by rw [x.keys]; exact h.nd, h.fx⟩
  rcases x.put o' p hp with rfl | ⟨hp, hne⟩
  · exact ⟨h1, h2, ob', hg, hr⟩
  · obtain ⟨k1, k2, ob, k3, k4⟩ := h.ob p hp
    exact ⟨k1, k2, ob, (hs.2 p.1 fun e => hne e h.nd).trans k3, k4⟩
/- a new object -/
theorem St.push {s : Shared} {ob : Obj} {o : AO} (h : St C L μ σ s) (hr : Rep C.w.params o ob) (hf : ob.isFreed = false) : St C L μ ((s.heap.objs.size, o) :: σ) { s with heap := s.heap.push ob } := by
  obtain ⟨m, F, k⟩ := h.fr
  obtain ⟨oL, _, _, hL, _⟩ := F.ns
  refine ⟨⟨m, F.push ob, k⟩, fun p hp => ?_, ?_, h.fx⟩
  · rcases List.mem_cons.mp hp with rfl | hp
    · refine ⟨Nat.ne_of_gt (Heap.lt_size hL), ?_, ob, Heap.get?_push_size _ hf, hr⟩
      cases q : C.h₀.get? s.heap.objs.size with
      | none => rfl
      | some o' => exact absurd (Heap.lt_size (F.keep _ _ q)) (Nat.lt_irrefl _)
    · obtain ⟨k1, k2, ob', k3, k4⟩ := h.ob p hp
      exact ⟨k1, k2, ob', Heap.get?_push_of_some _ k3, k4⟩
  · refine List.nodup_cons.mpr ⟨fun hm => ?_, h.nd⟩
    obtain ⟨p, hp, e⟩ := List.mem_map.mp hm
    obtain ⟨_, _, ob', k3, _⟩ := h.ob p hp
    have := Heap.lt_size k3
    rw [e] at this
    exact Nat.lt_irrefl _ this
/- an object that nobody keeps -/
theorem St.waste {s : Shared} {ob : Obj} (h : St C L μ σ s) : St C L μ σ { s with heap := s.heap.push ob } := by
  obtain ⟨m, F, k⟩ := h.fr
  exact ⟨⟨m, F.push ob, k⟩, fun p hp => let ⟨k1, k2, ob', k3, k4⟩ := h.ob p hp; ⟨k1, k2, ob', Heap.get?_push_of_some _ k3, k4⟩, h.nd, h.fx⟩
theorem St.toks {s : Shared} {tk : Nat} (h : St C L μ σ s) : St C L μ σ ⟨s.heap, s.gens, s.drawn, tk, s.os⟩ := ⟨h.fr, h.ob, h.nd, h.fx⟩
theorem W_alloc {ob : Obj} {o : AO} {Q : Addr → Mu → Sg → Prop} (hr : Rep C.w.params o ob) (hf : ob.isFreed = false) (h : ∀ a, Q a μ ((a, o) :: σ)) : W C A L (alloc ob) μ σ Q :=
  fun s hs => wpAny_alloc ⟨μ, _, h _, hs.push hr hf⟩
end
noncomputable def WV (C : Cx) (A : Around) (L : Addr) (t : Sem Value) (μ : Mu) (σ : Sg) (Q : Value → Sg → Prop) : Prop := W C A L t μ σ (fun v μ' σ' => μ' = μ ∧ Q (can v) σ')
noncomputable def WE (C : Cx) (A : Around) (env : Env) (e : Expr) (μ : Mu) (σ : Sg) (Q : Value → Sg → Prop) : Prop := WV C A env.locals (eval e env) μ σ Q
noncomputable def WT (C : Cx) (A : Around) (env : Env) (e : Expr) (μ : Mu) (σ : Sg) (Q : Bool → Sg → Prop) : Prop := W C A env.locals (isTrue e env (eval e env)) μ σ (fun b μ' σ' => μ' = μ ∧ Q b σ')
/- a tree over two operands, known up to tokens -/
noncomputable def W2 (C : Cx) (A : Around) (L : Addr) (f : Value → Value → Sem Value) (a b : Value) (σ : Sg) (Q : Value → Sg → Prop) : Prop :=
  ∀ μ a' b', can a' = a → can b' = b → WV C A L (f a' b') μ σ Q
noncomputable def W1 (C : Cx) (A : Around) (L : Addr) {α : Type} (f : Value → Sem α) (a : Value) (σ : Sg) (Q : α → Sg → Prop) : Prop :=
  ∀ μ a', can a' = a → W C A L (f a') μ σ (fun v μ' σ' => μ' = μ ∧ Q v σ')
/- a way for each answer -/
noncomputable def Br (b : Bool) (P R : Prop) : Prop := (b = true → P) ∧ (b = false → R)
theorem Br_tt {P R : Prop} (h : P) : Br true P R := ⟨fun _ => h, fun e => Bool.noConfusion e⟩
theorem Br_ff {P R : Prop} (h : R) : Br false P R := ⟨fun e => Bool.noConfusion e, fun _ => h⟩
section
variable {C : Cx} {A : Around} {L : Addr} {μ : Mu} {σ : Sg} {env : Env} {Q : Value → Sg → Prop}
theorem WV_mono {t : Sem Value} {Q' : Value → Sg → Prop} (h : WV C A L t μ σ Q) (k : ∀ v σ', Q v σ' → Q' v σ') : WV C A L t μ σ Q' := W_mono h fun _ _ _ ⟨a, b⟩ => ⟨a, k _ _ b⟩
theorem WV_pure {v : Value} (h : Q (can v) σ) : WV C A L (pure v) μ σ Q := W_pure ⟨rfl, h⟩
/- the same place, for a tree whose way through is known -/
theorem W_by {α : Type} {t : Sem α} {R : α → Mu → Sg → Prop} (h : ∀ s, St C L μ σ s → ∀ Q' : α → Shared → Prop, (∀ a μ' σ' s', R a μ' σ' → St C L μ' σ' s' → Q' a s') → wpAny (model C.prog C.w) A t Q' (fun _ _ => False) s) : W C A L t μ σ R :=
  fun s hs => h s hs _ fun a μ' σ' s' q st => ⟨μ', σ', q, st⟩
theorem WV_by {t : Sem Value} (h : ∀ s, St C L μ σ s → ∀ Q' : Value → Shared → Prop, (∀ v σ' s', Q (can v) σ' → St C L μ σ' s' → Q' v s') → wpAny (model C.prog C.w) A t Q' (fun _ _ => False) s) : WV C A L t μ σ Q :=
  fun s hs => h s hs _ fun v σ' s' q st => ⟨μ, σ', ⟨rfl, q⟩, st⟩
-- constants
theorem WE_int {i k pos} (h : Q (vI i) σ) : WE C A env (.Constant (.int i) k pos) μ σ Q := WV_by fun s hs Q' q => wpAny_Constant_int (q _ _ _ h hs.toks)
theorem WE_str {x k pos} (h : Q (vS x) σ) : WE C A env (.Constant (.str x) k pos) μ σ Q := WV_by fun s hs Q' q => wpAny_mkText (q _ _ _ h hs.toks)
theorem WE_none {k pos} (h : Q .none σ) : WE C A env (.Constant .none k pos) μ σ Q := WV_by fun s hs Q' q => wpAny_pure (q _ _ _ h hs)
theorem WE_bool {b k pos} (h : Q (.bool b) σ) : WE C A env (.Constant (.bool b) k pos) μ σ Q := WV_by fun s hs Q' q => wpAny_pure (q _ _ _ h hs)
-- names
theorem WE_local {x pos} {v : Value} (hk : env.scope.kind = .function) (hl : env.kindOf x = some .local) (hd : (x == ("__debug__" : Str)) = false) (hv : μ.lookup x = some v) (h : Q v σ) : WE C A env (.Name x pos) μ σ Q :=
  WV_by fun s hs Q' q => by
    obtain ⟨m, F, k⟩ := hs.fr
    obtain ⟨v', e, rfl⟩ := k x v hv
    exact wpAny_Name (wpAny_loadName_local hk hl F.ns e (q _ _ _ h hs)) hd
theorem IsCell_of {c : Addr} {v : Option Value} {f : AO → Sg} {s : Shared} (hs : St C L μ σ s) (x : At σ c (.cell v) f) : ∃ v', s.heap.IsCell c v' ∧ v'.map can = v := by
  obtain ⟨ob, e, v', hd, hv⟩ := hs.at x
  exact ⟨v', ⟨_, e, hd⟩, hv⟩
theorem WE_cell {x pos} {c : Addr} {v : Value} {f : AO → Sg} (hk : env.scope.kind = .function) (hl : env.kindOf x = some .cell) (hd : (x == ("__debug__" : Str)) = false) (hc : env.cells.lookup x = some c) (hv : At σ c (.cell (some v)) f) (h : Q v σ) :
    WE C A env (.Name x pos) μ σ Q :=
  WV_by fun s hs Q' q => by
    obtain ⟨v', e, hv⟩ := IsCell_of hs hv
    obtain ⟨v', rfl, rfl⟩ := Option.map_eq_some_iff.mp hv
    exact wpAny_Name (wpAny_loadName_cell hk hl hc e (q _ _ _ h hs)) hd
theorem WE_free {x pos} {c : Addr} {v : Value} {f : AO → Sg} (hk : env.scope.kind = .function) (hl : env.kindOf x = some .free) (hd : (x == ("__debug__" : Str)) = false) (hd2 : (x == ("__classdict__" : Str)) = false) (hc : env.cells.lookup x = some c) (hv : At σ c (.cell (some v)) f) (h : Q v σ) :
    WE C A env (.Name x pos) μ σ Q :=
  WV_by fun s hs Q' q => by
    obtain ⟨v', e, hv⟩ := IsCell_of hs hv
    obtain ⟨v', rfl, rfl⟩ := Option.map_eq_some_iff.mp hv
    exact wpAny_Name (wpAny_loadName_free hk hl hc e (q _ _ _ h hs) hd2) hd
structure TopD where
  K : Frag
  GL : List (Str × Value)
  BL : List (Str × Value)
structure Tp (D : TopD) (C : Cx) : Prop where
  X : D.K.In C.h₀
  g : ∃ mg, C.h₀.Ns mainGlobals mg ∧ (∀ x v, D.GL.lookup x = some v → mg x = some v) ∧ ∃ mb, C.h₀.Ns builtinsNs mb ∧ ∀ x v, D.BL.lookup x = some v → mg x = none ∧ mb x = some v
  lim : C.h₀.NoLimit
  gens : C.gens = #[]
  top : ∃ p loose mean mg mb, Top p loose mean mg mb C.h₀
theorem St.keep {s : Shared} (hs : St C L μ σ s) : ∀ b o, C.h₀.get? b = some o → s.heap.get? b = some o := let ⟨_, F, _⟩ := hs.fr; F.keep
theorem eval_Name_global {x pos} (hk : env.scope.kind = .function) (hl : env.kindOf x = some .globalImplicit) (hd : (x == ("__debug__" : Str)) = false) : eval (.Name x pos) env = (do standAt pos; loadGlobal env x) := by
  rw [eval_Name env x pos hd]
  unfold loadName
  simp only [Env.blockKind, hk, hl, ScopeKind.isAnnotationScope, Bool.false_and, Bool.false_eq_true, if_false]
theorem WE_global {x pos} {D : TopD} {v : Value} (T : Tp D C) (hg : env.globals = mainGlobals) (hk : env.scope.kind = .function) (hl : env.kindOf x = some .globalImplicit) (hd : (x == ("__debug__" : Str)) = false) (hv : D.GL.lookup x = some v) (h : Q (can v) σ) :
    WE C A env (.Name x pos) μ σ Q :=
  WV_by fun s hs Q' q => by
    obtain ⟨mg, g, gl, _⟩ := T.g
    rw [eval_Name_global hk hl hd]
    refine wpAny_bind (wpAny_standAt ?_)
    unfold loadGlobal
    rw [hg]
    refine wpAny_bind (wpAny_nsGet (g.keeps hs.keep) ?_)
    rw [gl x v hv]
    exact wpAny_pure (q _ _ _ h hs)
theorem WE_builtin {x pos} {D : TopD} {v : Value} (T : Tp D C) (hg : env.globals = mainGlobals) (hb : env.builtins = builtinsNs) (hk : env.scope.kind = .function) (hl : env.kindOf x = some .globalImplicit) (hd : (x == ("__debug__" : Str)) = false) (hv : D.BL.lookup x = some v) (h : Q (can v) σ) :
    WE C A env (.Name x pos) μ σ Q :=
  WV_by fun s hs Q' q => by
    obtain ⟨mg, g, gl, mb, b, bl⟩ := T.g
    obtain ⟨b1, b2⟩ := bl x v hv
    rw [eval_Name_global hk hl hd]
    refine wpAny_bind (wpAny_standAt ?_)
    unfold loadGlobal
    rw [hg, hb]
    refine wpAny_bind (wpAny_nsGet (g.keeps hs.keep) ?_)
    rw [b1]
    refine wpAny_bind (wpAny_nsGet (b.keeps hs.keep) ?_)
    rw [b2]
    exact wpAny_pure (q _ _ _ h hs)
-- operators
theorem WE_BinOp {l op r pos} (h : WE C A env l μ σ (fun a σ1 => WE C A env r μ σ1 (fun b σ2 => W2 C A env.locals (binaryOp op) a b σ2 Q))) : WE C A env (.BinOp l op r pos) μ σ Q := by
  unfold WE WV
  rw [eval_BinOp]
  refine W_bind (W_mono h fun a μ1 σ1 ⟨e1, h1⟩ => ?_)
  subst e1
  refine W_bind (W_holding (W_mono h1 fun b μ2 σ2 ⟨e2, h2⟩ => ?_))
  subst e2
  exact W_bind (W_standAt (W_operate (h2 _ _ _ rfl rfl)))
theorem WE_Compare {l op r pos} (h : WE C A env l μ σ (fun a σ1 => WE C A env r μ σ1 (fun b σ2 => W2 C A env.locals (compareOp op) a b σ2 Q))) (hm : behindInMarks op r = false := by with_unfolding_all rfl) :
    WE C A env (.Compare l [op] [r] pos) μ σ Q := by
  unfold WE WV
  rw [eval_Compare1, markedBehindIn_of_false hm]
  refine W_bind (W_mono h fun a μ1 σ1 ⟨e1, h1⟩ => ?_)
  subst e1
  refine W_bind (W_holding (W_mono h1 fun b μ2 σ2 ⟨e2, h2⟩ => ?_))
  subst e2
  exact W_bind (W_standAt (W_operate (h2 _ _ _ rfl rfl)))
theorem WT_Compare {l op r pos} {Q : Bool → Sg → Prop} (h : WE C A env l μ σ (fun a σ1 => WE C A env r μ σ1 (fun b σ2 => W2 C A env.locals (compareOp op) a b σ2 (fun v σ3 => ∃ b, v = .bool b ∧ Q b σ3)))) (hm : behindInMarks op r = false := by with_unfolding_all rfl) :
    WT C A env (.Compare l [op] [r] pos) μ σ Q := by
  unfold WT
  rw [isTrue_Compare1, markedBehindIn_of_false hm]
  refine W_bind (W_mono h fun a μ1 σ1 ⟨e1, h1⟩ => ?_)
  subst e1
  refine W_bind (W_holding (W_mono h1 fun b μ2 σ2 ⟨e2, h2⟩ => ?_))
  subst e2
  refine W_bind (W_standAt (W_bind (W_operate (W_mono (h2 _ _ _ rfl rfl) fun v μ3 σ3 ⟨e3, b, hb, q⟩ => ?_))))
  subst e3
  rw [can_bool hb]
  exact W_holding (W_pure ⟨rfl, q⟩)
theorem WT_plain {e : Expr} {Q : Bool → Sg → Prop} (h : WE C A env e μ σ (fun v σ1 => W1 C A env.locals truthy v σ1 Q)) (he : ∀ whole, isTrue e env whole = (do let v ← whole; standAt e.pos; holding [v] (truthy v)) := by intro _; rfl) : WT C A env e μ σ Q := by
  unfold WT
  rw [he]
  refine W_bind (W_mono h fun a μ1 σ1 ⟨e1, h1⟩ => ?_)
  subst e1
  exact W_bind (W_standAt (W_holding (h1 _ _ rfl)))
theorem WT_not {x pos} {Q : Bool → Sg → Prop} (h : WT C A env x μ σ (fun b σ1 => Q (!b) σ1)) : WT C A env (.UnaryOp .Not x pos) μ σ Q := by
  show W C A env.locals (do return !(← isTrue x env (eval x env))) μ σ _
  exact W_bind (W_mono h fun b μ1 σ1 ⟨e1, h1⟩ => W_pure ⟨e1, h1⟩)
theorem all_cons (op : BoolOp) (x : Expr) (rest : List Expr) : allTrue op (x :: rest) env = isTrue x env (eval x env) >>= fun b => match op, b with
    | .And, false => pure false
    | .Or, true => pure true
    | _, _ => allTrue op rest env := rfl
theorem WT_and2 {x y pos} {Q : Bool → Sg → Prop} (h : WT C A env x μ σ (fun b σ1 => Br b (WT C A env y μ σ1 Q) (Q false σ1))) : WT C A env (.BoolOp .And [x, y] pos) μ σ Q := by
  show W C A env.locals (allTrue .And [x, y] env) μ σ _
  rw [all_cons]
  refine W_bind (W_mono h fun b μ1 σ1 ⟨e1, h1⟩ => ?_)
  subst e1
  cases b with
  | false => exact W_pure ⟨rfl, h1.2 rfl⟩
  | true =>
    replace h1 := h1.1 rfl
    show W C A env.locals (allTrue .And [y] env) μ1 σ1 _
    rw [all_cons]
    refine W_bind (W_mono h1 fun b μ2 σ2 ⟨e2, h2⟩ => ?_)
    subst e2
    cases b with
    | false => exact W_pure ⟨rfl, h2⟩
    | true =>
      exact W_pure ⟨rfl, h2⟩
theorem WT_or2 {x y pos} {Q : Bool → Sg → Prop} (h : WT C A env x μ σ (fun b σ1 => Br b (Q true σ1) (WT C A env y μ σ1 Q))) : WT C A env (.BoolOp .Or [x, y] pos) μ σ Q := by
  show W C A env.locals (allTrue .Or [x, y] env) μ σ _
  rw [all_cons]
  refine W_bind (W_mono h fun b μ1 σ1 ⟨e1, h1⟩ => ?_)
  subst e1
  cases b with
  | true => exact W_pure ⟨rfl, h1.1 rfl⟩
  | false =>
    replace h1 := h1.2 rfl
    show W C A env.locals (allTrue .Or [y] env) μ1 σ1 _
    rw [all_cons]
    refine W_bind (W_mono h1 fun b μ2 σ2 ⟨e2, h2⟩ => ?_)
    subst e2
    cases b with
    | true => exact W_pure ⟨rfl, h2⟩
    | false =>
      exact W_pure ⟨rfl, h2⟩
theorem WE_IfExp {t b o pos} (h : WT C A env t μ σ (fun c σ1 => Br c (WE C A env b μ σ1 Q) (WE C A env o μ σ1 Q))) : WE C A env (.IfExp t b o pos) μ σ Q := by
  unfold WE WV
  rw [eval_IfExp]
  refine W_bind (W_mono h fun c μ1 σ1 ⟨e1, h1⟩ => ?_)
  subst e1
  cases c
  · exact h1.2 rfl
  · exact h1.1 rfl
theorem WE_neg1 {k p pos} {i : Int} (h : Q (vI (-i)) σ) : WE C A env (.UnaryOp .USub (.Constant (.int i) k p) pos) μ σ Q := WV_by fun s hs Q' q => by
  refine wpAny_bind (wpAny_Constant_int (wpAny_bind (wpAny_standAt (wpAny_holding ?_))))
  exact neg_int (q _ _ _ h hs.toks)
-- numbers
section
variable {a b : Int}
theorem B_add (h : Q (vI (a + b)) σ) : W2 C A L (binaryOp .Add) (vI a) (vI b) σ Q := fun μ a' b' ha hb => by
  obtain ⟨t, rfl⟩ := can_int ha; obtain ⟨u, rfl⟩ := can_int hb
  exact WV_by fun s hs Q' q => add_int (q _ _ _ h hs.toks)
theorem B_sub (h : Q (vI (a - b)) σ) : W2 C A L (binaryOp .Sub) (vI a) (vI b) σ Q := fun μ a' b' ha hb => by
  obtain ⟨t, rfl⟩ := can_int ha; obtain ⟨u, rfl⟩ := can_int hb
  exact WV_by fun s hs Q' q => sub_int (q _ _ _ h hs.toks)
theorem B_mul (hm : IntMulOk a b) (h : Q (vI (a * b)) σ) : W2 C A L (binaryOp .Mult) (vI a) (vI b) σ Q := fun μ a' b' ha hb => by
  obtain ⟨t, rfl⟩ := can_int ha; obtain ⟨u, rfl⟩ := can_int hb
  exact WV_by fun s hs Q' q => mul_int (q _ _ _ h hs.toks) hm
theorem B_div (hb0 : 0 < b) (hp : Builtin.divisionGoesByPylong a b = false) (h : Q (vI (a / b)) σ) : W2 C A L (binaryOp .FloorDiv) (vI a) (vI b) σ Q := fun μ a' b' ha hb => by
  obtain ⟨t, rfl⟩ := can_int ha; obtain ⟨u, rfl⟩ := can_int hb
  exact WV_by fun s hs Q' q => floordiv_int (by wtm_at "om") (q _ _ _ (by rw [Int.fdiv_eq_ediv_of_nonneg _ (by wtm_at "om")]; exact h) hs.toks) (.inl hp)
theorem B_mod (hb0 : 0 < b) (h : Q (vI (a % b)) σ) (hp : Builtin.divisionGoesByPylong a b = false) : W2 C A L (binaryOp .Mod) (vI a) (vI b) σ Q := fun μ a' b' ha hb => by
  obtain ⟨t, rfl⟩ := can_int ha; obtain ⟨u, rfl⟩ := can_int hb
  exact WV_by fun s hs Q' q => mod_int' (by wtm_at "om") (q _ _ _ (by rw [Int.fmod_eq_emod_of_nonneg _ (by wtm_at "om")]; exact h) hs.toks)
theorem B_shl (h0 : 0 ≤ b) (h1 : b ≤ 1000000) (h2 : a.natAbs < 2 ^ 64) (h : Q (vI (a * 2 ^ b.toNat)) σ) : W2 C A L (binaryOp .LShift) (vI a) (vI b) σ Q := fun μ a' b' ha hb => by
  obtain ⟨t, rfl⟩ := can_int ha; obtain ⟨u, rfl⟩ := can_int hb
  exact WV_by fun s hs Q' q => lshift_int_small h0 h1 h2 (q _ _ _ h hs.toks)
theorem B_and (h : Q (vI (Builtin.bitAnd a b)) σ) : W2 C A L (binaryOp .BitAnd) (vI a) (vI b) σ Q := fun μ a' b' ha hb => by
  obtain ⟨t, rfl⟩ := can_int ha; obtain ⟨u, rfl⟩ := can_int hb
  exact WV_by fun s hs Q' q => and_int (q _ _ _ h hs.toks)
theorem I_xor (h : Q (vI (Builtin.bitXor a b)) σ) : W2 C A L (inplaceOp .BitXor) (vI a) (vI b) σ Q := fun μ a' b' ha hb => by
  obtain ⟨t, rfl⟩ := can_int ha; obtain ⟨u, rfl⟩ := can_int hb
  exact WV_by fun s hs Q' q => ixor_int (q _ _ _ h hs.toks)
theorem I_add (h : Q (vI (a + b)) σ) : W2 C A L (inplaceOp .Add) (vI a) (vI b) σ Q := fun μ a' b' ha hb => by
  obtain ⟨t, rfl⟩ := can_int ha; obtain ⟨u, rfl⟩ := can_int hb
  exact WV_by fun s hs Q' q => iadd_int (q _ _ _ h hs.toks)
theorem B_pow (h0 : 0 ≤ b) (h1 : (Builtin.Int.intBits a : Int) * b ≤ 2 ^ 27) (h : Q (vI (a ^ b.toNat)) σ) : W2 C A L (binaryOp .Pow) (vI a) (vI b) σ Q := fun μ a' b' ha hb => by
  obtain ⟨t, rfl⟩ := can_int ha; obtain ⟨u, rfl⟩ := can_int hb
  exact WV_by fun s hs Q' q => pow_int h0 h1 (q _ _ _ h hs.toks)
theorem C_eqI (h : Q (.bool (decide (a = b))) σ) : W2 C A L (compareOp .Eq) (vI a) (vI b) σ Q := fun μ a' b' ha hb => by
  obtain ⟨t, rfl⟩ := can_int ha; obtain ⟨u, rfl⟩ := can_int hb
  exact WV_by fun s hs Q' q => eq_int (q _ _ _ (by have : (a == b) = decide (a = b) := rfl; rw [this]; exact h) hs)
theorem C_neI (h : Q (.bool (decide (a ≠ b))) σ) : W2 C A L (compareOp .NotEq) (vI a) (vI b) σ Q := fun μ a' b' ha hb => by
  obtain ⟨t, rfl⟩ := can_int ha; obtain ⟨u, rfl⟩ := can_int hb
  exact WV_by fun s hs Q' q => ne_int (q _ _ _ (by
    have e : (a != b) = decide (a ≠ b) := (decide_not (p := a = b)).symm
    rw [e]; exact h) hs)
theorem C_ltI (h : Q (.bool (decide (a < b))) σ) : W2 C A L (compareOp .Lt) (vI a) (vI b) σ Q := fun μ a' b' ha hb => by
  obtain ⟨t, rfl⟩ := can_int ha; obtain ⟨u, rfl⟩ := can_int hb
  exact WV_by fun s hs Q' q => lt_int (q _ _ _ h hs)
theorem T_int {Q : Bool → Sg → Prop} (h : Q (decide (a ≠ 0)) σ) : W1 C A L truthy (vI a) σ Q := fun μ a' ha => by
  obtain ⟨t, rfl⟩ := can_int ha
  exact W_by fun s hs Q' q => truthy_int (q _ _ _ _ ⟨rfl, by
    have e : (a != 0) = decide (a ≠ 0) := (decide_not (p := a = 0)).symm
    rw [e]; exact h⟩ hs)
end
theorem T_bool {b : Bool} {Q : Bool → Sg → Prop} (h : Q b σ) : W1 C A L truthy (.bool b) σ Q := fun μ a' ha => by
  rw [can_bool ha]
  exact W_pure ⟨rfl, h⟩
theorem T_none {Q : Bool → Sg → Prop} (h : Q false σ) : W1 C A L truthy .none σ Q := fun μ a' ha => by
  rw [can_none ha]
  exact W_pure ⟨rfl, h⟩
end
noncomputable def WS (C : Cx) (A : Around) (env : Env) (st : Stmt) (μ : Mu) (σ : Sg) (Q : Flow → Mu → Sg → Prop) : Prop := W C A env.locals (exec st env) μ σ (fun f μ' σ' => Q (canF f) μ' σ')
noncomputable def WB (C : Cx) (A : Around) (env : Env) (b : List Stmt) (μ : Mu) (σ : Sg) (Q : Flow → Mu → Sg → Prop) : Prop := W C A env.locals (execs b env) μ σ (fun f μ' σ' => Q (canF f) μ' σ')
/- what stands behind a statement -/
noncomputable def After (C : Cx) (A : Around) (env : Env) (rest : List Stmt) (Q : Flow → Mu → Sg → Prop) : Flow → Mu → Sg → Prop
  | .next, μ, σ => WB C A env rest μ σ Q
  | f, μ, σ => Q f μ σ
section
variable {C : Cx} {A : Around} {L : Addr} {μ : Mu} {σ : Sg} {env : Env} {Q : Flow → Mu → Sg → Prop}
theorem WB_mono {b} {Q' : Flow → Mu → Sg → Prop} (h : WB C A env b μ σ Q) (k : ∀ f μ' σ', Q f μ' σ' → Q' f μ' σ') : WB C A env b μ σ Q' := W_mono h fun _ _ _ q => k _ _ _ q
theorem WB_nil (h : Q .next μ σ) : WB C A env [] μ σ Q := W_pure h
theorem WB_cons {st rest} (h : WS C A env st μ σ (After C A env rest Q)) : WB C A env (st :: rest) μ σ Q := by
  unfold WB
  rw [execs_cons]
  refine W_bind (W_mono h fun f μ1 σ1 h1 => ?_)
  cases f with
  | next => exact h1
  | brk => exact W_pure h1
  | cont => exact W_pure h1
  | ret v => exact W_pure h1
theorem WB_last {st} (h : WS C A env st μ σ Q) : WB C A env [st] μ σ Q := by
  refine WB_cons (W_mono h fun f μ1 σ1 h1 => ?_)
  cases f with
  | next => exact WB_nil h1
  | brk => exact h1
  | cont => exact h1
  | ret v => exact h1
theorem WB_weaken {b} {μ' : Mu} {σ' : Sg} (hμ : ∀ x v, μ'.lookup x = some v → μ.lookup x = some v) (hσ : σ'.Sublist σ) (h : WB C A env b μ' σ' Q) : WB C A env b μ σ Q := W_weaken hμ hσ h
theorem WS_weaken {b} {μ' : Mu} {σ' : Sg} (hμ : ∀ x v, μ'.lookup x = some v → μ.lookup x = some v) (hσ : σ'.Sublist σ) (h : WS C A env b μ' σ' Q) : WS C A env b μ σ Q := W_weaken hμ hσ h
theorem St.local {x : Str} {v : Value} {s : Shared} {h' : Heap} {m : Str → Option Value} (hs : St C env.locals μ σ s) (F : Fr C.h₀ env.locals s.heap m) (k : ∀ x v, μ.lookup x = some v → ∃ v', m x = some v' ∧ can v' = v)
    (hn : h'.Ns env.locals (fun y => if y = x then some v else m y)) (hb : Heap.SameBut env.locals s.heap h') {tk : Nat} : St C env.locals ((x, can v) :: μ) σ ⟨h', s.gens, s.drawn, tk, s.os⟩ := by
  refine ⟨⟨_, F.set hn hb, fun y u e => ?_⟩, fun p hp => ?_, hs.nd, hs.fx⟩
  · rw [List.lookup_cons] at e
    by_cases q : y = x
    · subst q
      rw [beq_self_eq_true] at e
      exact ⟨v, by simp, Option.some.inj e⟩
    · rw [show (y == x) = false from beq_eq_false_iff_ne.mpr q] at e
      obtain ⟨v', e1, e2⟩ := k y u e
      exact ⟨v', by simp [q, e1], e2⟩
  · obtain ⟨k1, k2, ob, k3, k4⟩ := hs.ob p hp
    exact ⟨k1, k2, ob, (hb.2 p.1 k1).trans k3, k4⟩
theorem W_store_local {x : Str} {v : Value} {Q : Unit → Mu → Sg → Prop} (hk : env.scope.kind = .function) (hl : env.kindOf x = some .local) (h : Q () ((x, can v) :: μ) σ) : W C A env.locals (storeName env x v) μ σ Q :=
  W_by fun s hs Q' q => by
    obtain ⟨m, F, k⟩ := hs.fr
    refine wpAny_storeName_local hl F.ns (fun h' hn hb => q _ _ _ _ h (St.local hs F k hn hb)) ?_
    rw [hk]; rfl
theorem W_store_cell {x : Str} {v : Value} {c : Addr} {o : Option Value} {f : AO → Sg} {Q : Unit → Mu → Sg → Prop} (hk : env.scope.kind = .function) (hl : env.kindOf x = some .cell) (hc : env.cells.lookup x = some c) (x0 : At σ c (.cell o) f)
    (h : Q () μ (f (.cell (some (can v))))) : W C A env.locals (storeName env x v) μ σ Q :=
  W_by fun s hs Q' q => by
    obtain ⟨⟨oc, od, dt, sl⟩, e, v0, rfl, hv⟩ := hs.at x0
    have e1 : (if (env.kindOf x == some .globalImplicit && env.blockKind != .function) = true then none else env.kindOf x) = some NameKind.cell := by rw [hl]; rfl
    unfold storeName
    rw [e1]
    show wpAny _ _ (if (env.scope.kind == ScopeKind.class && env.kindOf x == some NameKind.cell) = true then _ else _) _ _ _
    rw [hk, hl, if_neg (by decide)]
    refine wpAny_bind (wpAny_cellOf hc ?_)
    unfold cellSet
    refine wpAny_bind (wpAny_load e ?_)
    exact wpAny_update e (q _ _ _ _ h (hs.upd (o' := .cell (some (can v))) x0 (Heap.SameBut.update ..) (Heap.get?_update_self _ e rfl) ⟨some v, rfl, rfl⟩))
theorem W_bindName {x : Str} {v : Value} {Q : Unit → Mu → Sg → Prop} (h : W C A L (storeName env x v) μ σ Q) : W C A L (bindName env x v) μ σ Q := fun s hs => wpAny_bindName (h s hs)
/- a name takes a value -/
noncomputable def Binds (C : Cx) (A : Around) (env : Env) (x : Str) (μ : Mu) (σ : Sg) (v : Value) (Q : Mu → Sg → Prop) : Prop := ∀ v', can v' = v → W C A env.locals (storeName env x v') μ σ (fun _ μ' σ' => Q μ' σ')
theorem Binds_local {x : Str} {v : Value} {Q : Mu → Sg → Prop} (hk : env.scope.kind = .function) (hl : env.kindOf x = some .local) (h : Q ((x, v) :: μ) σ) : Binds C A env x μ σ v Q := fun v' e => W_store_local hk hl (e ▸ h)
theorem Binds_cell {x : Str} {v : Value} {c : Addr} {o : Option Value} {f : AO → Sg} {Q : Mu → Sg → Prop} (hk : env.scope.kind = .function) (hl : env.kindOf x = some .cell) (hc : env.cells.lookup x = some c) (x0 : At σ c (.cell o) f)
    (h : Q μ (f (.cell (some v)))) : Binds C A env x μ σ v Q := fun v' e => W_store_cell hk hl hc x0 (e ▸ h)
theorem WS_Assign {x p value pos} (h : WE C A env value μ σ (fun v σ1 => Binds C A env x μ σ1 v (Q .next))) (hs : swapsWith value (some (.Name x p)) pos.line env = pure false := by with_unfolding_all rfl) :
    WS C A env (.Assign [.Name x p] value pos) μ σ Q := by
  unfold WS
  rw [exec_Assign_Name env x p value pos hs]
  refine W_bind (W_standAt (W_bind (W_mono h fun v μ1 σ1 ⟨e1, h1⟩ => ?_)))
  subst e1
  exact W_bind (W_standAt (W_bind (W_bindName (W_mono (h1 v rfl) fun _ μ2 σ2 h2 => W_pure h2))))
theorem WS_AugAssign {x p op value pos} (ho : WE C A env (.Name x p) μ σ (fun a σ1 => WE C A env value μ σ1 (fun b σ2 => W2 C A env.locals (inplaceOp op) a b σ2 (fun v σ3 => Binds C A env x μ σ3 v (Q .next)))))
    (hd : (x == ("__debug__" : Str)) = false) : WS C A env (.AugAssign (.Name x p) op value pos) μ σ Q := by
  unfold WS
  rw [exec_AugAssign_Name]
  have e : eval (.Name x p) env = (do standAt p; loadName env x) := eval_Name env x p hd
  show W C A env.locals ((do standAt p; loadName env x) >>= fun old => (holding [old] (eval value env)) >>= fun v => standAt pos >>= fun _ => operate [old, v] (inplaceOp op old v) >>= fun new => standAt p >>= fun _ => bindName env x new >>= fun _ => (pure Flow.next : Sem Flow)) μ σ _
  rw [← e]
  refine W_bind (W_mono ho fun a μ1 σ1 ⟨e1, h1⟩ => ?_)
  subst e1
  refine W_bind (W_holding (W_mono h1 fun b μ2 σ2 ⟨e2, h2⟩ => ?_))
  subst e2
  refine W_bind (W_standAt (W_bind (W_operate (W_mono (h2 _ _ _ rfl rfl) fun v μ3 σ3 ⟨e3, h3⟩ => ?_))))
  subst e3
  exact W_bind (W_standAt (W_bind (W_bindName (W_mono (h3 v rfl) fun _ μ4 σ4 h4 => W_pure h4))))
theorem WS_If {t b o pos} (h : WT C A env t μ σ (fun c σ1 => Br c (WB C A env b μ σ1 Q) (WB C A env o μ σ1 Q))) : WS C A env (.If t b o pos) μ σ Q := by
  unfold WS
  rw [exec_If]
  refine W_bind (W_standAt (W_bind (W_mono h fun c μ1 σ1 ⟨e1, h1⟩ => ?_)))
  subst e1
  cases c
  · exact h1.2 rfl
  · exact h1.1 rfl
theorem WS_Return {e pos} (h : WE C A env e μ σ (fun v σ1 => Q (.ret v) μ σ1)) : WS C A env (.Return (some e) pos) μ σ Q := by
  unfold WS
  rw [exec_Return_some]
  refine W_bind (W_standAt (W_bind (W_mono h fun v μ1 σ1 ⟨e1, h1⟩ => W_pure ?_)))
  subst e1
  exact h1
theorem WS_Return_none {pos} (h : Q (.ret .none) μ σ) : WS C A env (.Return none pos) μ σ Q := by
  unfold WS
  rw [exec_Return_none]
  exact W_bind (W_standAt (W_pure h))
theorem WS_Expr {e pos} (h : WE C A env e μ σ (fun _ σ1 => Q .next μ σ1)) (hi : interactive env = false := by rfl) (hs : swapsWith e none pos.line env = pure false := by rfl) : WS C A env (.Expr e pos) μ σ Q := by
  unfold WS
  rw [exec_Expr env e pos hi hs]
  refine W_bind (W_standAt (W_bind (W_mono h fun v μ1 σ1 ⟨e1, h1⟩ => ?_)))
  subst e1
  exact fun s hs => wpAny_dropValue ⟨_, _, h1, hs⟩
theorem WS_Break {pos} (h : Q .brk μ σ) : WS C A env (.Break pos) μ σ Q := W_bind (W_standAt (W_pure h))
theorem WS_Continue {pos} (h : Q .cont μ σ) : WS C A env (.Continue pos) μ σ Q := W_bind (W_standAt (W_pure h))
theorem WS_Pass {pos} (h : Q .next μ σ) : WS C A env (.Pass pos) μ σ Q := W_bind (W_standAt (W_pure h))
theorem After_next {rest} (h : WB C A env rest μ σ Q) : After C A env rest Q .next μ σ := h
theorem After_ret {rest} {v : Value} (h : Q (.ret v) μ σ) : After C A env rest Q (.ret v) μ σ := h
theorem After_brk {rest} (h : Q .brk μ σ) : After C A env rest Q .brk μ σ := h
theorem After_cont {rest} (h : Q .cont μ σ) : After C A env rest Q .cont μ σ := h
end
/- a name's value -/
inductive LookIn {α : Type} (x : Str) : List (Str × α) → α → Prop
  | here {v r} : LookIn x ((x, v) :: r) v
  | there {y u v r} : (x == y) = false → LookIn x r v → LookIn x ((y, u) :: r) v
theorem LookIn.eq {α : Type} {x : Str} {μ : List (Str × α)} {v : α} (h : LookIn x μ v) : μ.lookup x = some v := by
  induction h with
  | here => simp [List.lookup_cons]
  | there h _ ih => rw [List.lookup_cons, h]; exact ih
theorem LookIn.cert {α : Type} {x : Str} {v : α} : ∀ {l : List (Str × α)}, l.lookup x = some v → LookIn x l v := by
  intro l
  induction l with
  | nil => intro h; cases h
  | cons p r ih =>
    intro h
    obtain ⟨y, u⟩ := p
    rw [List.lookup_cons] at h
    cases e : (x == y) with
    | true => rw [e] at h; cases h; rw [eq_of_beq e]; exact .here
    | false => rw [e] at h; exact .there e (ih h)
@[irreducible] noncomputable def LookI {α : Type} (_ : Str) (_ : List (Str × α)) (_ : α) : Prop := True
theorem LookI.here {α : Type} {x : Str} {v : α} {r : List (Str × α)} : LookI x ((x, v) :: r) v := by unfold LookI; trivial
theorem LookI.there {α : Type} {x y : Str} {u v : α} {r : List (Str × α)} : LookI x r v → LookI x ((y, u) :: r) v := by unfold LookI; exact id
/- room for frames and for C -/
structure Room (A : Around) (n : Nat) : Prop where
  hh : A.handled = none
  dep : A.depth + n ≤ 390
  un : A.units + 10 * n ≤ 2500
theorem cLine_ge : 2600 ≤ cLine := by decide +kernel
theorem rec_ge : 400 ≤ recursionLimit := by decide +kernel
theorem Room.depth {A : Around} {n : Nat} (r : Room A n) : A.depth < recursionLimit := by have := r.dep; have := rec_ge; wtm_at "om"
theorem Room.units {A : Around} {n : Nat} (r : Room A n) : A.units < cLine := by have := r.un; have := cLine_ge; wtm_at "om"
theorem Room.le {A : Around} {n m : Nat} (r : Room A n) (h : m ≤ n) : Room A m := ⟨r.hh, by have := r.dep; wtm_at "om", by have := r.un; wtm_at "om"⟩
theorem Room.deeper {A : Around} {n : Nat} {env : Env} (r : Room A (n + 1)) : Room (A.deeper env) n := ⟨r.hh, by show A.depth + 1 + n ≤ _; have := r.dep; wtm_at "om", by show A.units + 3 + 10 * n ≤ _; have := r.un; wtm_at "om"⟩
theorem Room.in1 {A : Around} {n : Nat} (r : Room A (n + 1)) : Room A.in1 n := ⟨r.hh, by show A.depth + n ≤ _; have := r.dep; wtm_at "om", by show A.units + 1 + 10 * n ≤ _; have := r.un; wtm_at "om"⟩
/- a call -/
noncomputable def WC (C : Cx) (A : Around) (L : Addr) (f : Value) (args : List Value) (σ : Sg) (Q : Value → Sg → Prop) : Prop := ∀ μ args', args'.map can = args → WV C A L (call f args') μ σ Q
/- the ground grows -/
structure Cx.Le (C C' : Cx) : Prop where
  prog : C'.prog = C.prog
  w : C'.w = C.w
  gens : C'.gens = C.gens
  drawn : C'.drawn = C.drawn
  os : C'.os = C.os
  keep : ∀ b o, C.h₀.get? b = some o → C'.h₀.get? b = some o
theorem Tp.le {D : TopD} {C C' : Cx} (T : Tp D C) (l : C.Le C') : Tp D C' :=
  ⟨T.X.keeps l.keep, let ⟨mg, g, a, mb, b, c⟩ := T.g; ⟨mg, g.keeps l.keep, a, mb, b.keeps l.keep, c⟩, T.lim.keeps l.keep, l.gens.trans T.gens, let ⟨p, loose, mean, mg, mb, h⟩ := T.top; ⟨p, loose, mean, mg, mb, h.keeps l.keep⟩⟩
section
variable {C : Cx} {A : Around} {L : Addr} {μ : Mu} {σ : Sg} {env : Env} {Q : Value → Sg → Prop}
/- the callee's ground: all that stands but what is told -/
noncomputable def Cx.under (C : Cx) (s : Shared) (σ : Sg) : Cx := { C with h₀ := hideAll s.heap (σ.map (·.1)) }
theorem under_le {s : Shared} (hs : St C L μ σ s) : C.Le (C.under s σ) := ⟨rfl, rfl, rfl, rfl, rfl, fun b o e => hideAll_get _ (hs.keep b o e) fun q => by
  obtain ⟨p, hp, rfl⟩ := List.mem_map.mp q
  rw [(hs.ob p hp).2.1] at e; cases e⟩
theorem under_enter {s : Shared} {h₁ : Heap} {binds : List (Str × Value)} {tk : Nat} (hs : St C L μ σ s) (hn : h₁.Ns s.heap.objs.size (fun x => binds.reverse.lookup x)) (hk : ∀ b o, s.heap.get? b = some o → h₁.get? b = some o) :
    St (C.under s σ) s.heap.objs.size (binds.reverse.map fun p => (p.1, can p.2)) σ ⟨h₁, s.gens, s.drawn, tk, s.os⟩ := by
  refine ⟨⟨_, ⟨hn, fun b o e => hk b o (of_hideAll _ e), Nat.le_of_eq (hideAll_size _ _)⟩, fun x v e => ?_⟩, fun p hp => ?_, hs.nd, hs.fx⟩
  · have : ∀ l : List (Str × Value), (l.map fun p => (p.1, can p.2)).lookup x = some v → ∃ v', l.lookup x = some v' ∧ can v' = v := by
      intro l
      induction l with
      | nil => intro h; cases h
      | cons a r ih =>
        intro h
        rw [List.map_cons, List.lookup_cons] at h
        rw [List.lookup_cons]
        cases q : (x == a.1) with
        | true => simp only [q] at h; exact ⟨_, rfl, Option.some.inj h⟩
        | false => simp only [q] at h; exact ih h
    exact this _ e
  · obtain ⟨k1, k2, ob, k3, k4⟩ := hs.ob p hp
    exact ⟨Nat.ne_of_lt (Heap.lt_size k3), hideAll_none _ (List.mem_map_of_mem hp), ob, hk _ _ k3, k4⟩
theorem under_leave {s s' : Shared} {L' : Addr} {μ' : Mu} {σ' : Sg} (hs : St C L μ σ s) (h' : St (C.under s σ) L' μ' σ' s') : St C L μ σ' s' := by
  obtain ⟨m, F, k⟩ := hs.fr
  obtain ⟨oL, es, ep, hL, r⟩ := id F.ns
  have nL : L ∉ σ.map (·.1) := fun q => by
    obtain ⟨p, hp, e⟩ := List.mem_map.mp q
    exact (hs.ob p hp).1 e
  have hL' : (C.under s σ).h₀.get? L = some oL := hideAll_get _ hL nL
  refine ⟨⟨m, ⟨⟨oL, es, ep, h'.keep _ _ hL', r⟩, fun b o e => h'.keep _ _ ((under_le hs).keep b o e), F.above⟩, k⟩, fun p hp => ?_, h'.nd, h'.fx⟩
  obtain ⟨k1, k2, ob, k3, k4⟩ := h'.ob p hp
  refine ⟨fun e => ?_, ?_, ob, k3, k4⟩
  · rw [e, hL'] at k2; cases k2
  · cases q : C.h₀.get? p.1 with
    | none => rfl
    | some o => rw [(under_le hs).keep _ _ q] at k2; cases k2
/- where a def of the text stands -/
structure FnAt (C : Cx) (σ : Sg) (f : Addr) (fd : FuncData) : Prop where
  at_ : ∀ s : Shared, (∀ b o, C.h₀.get? b = some o → s.heap.get? b = some o) → (∀ p ∈ σ, ∃ o, s.heap.get? p.1 = some o ∧ Rep C.w.params p.2 o) → (∃ o, s.heap.get? f = some o ∧ o.data = .func fd) ∧ s.heap.CodeRec fd.code fd.qualname
theorem FnAt.of {D : TopD} {f : Addr} {fd : FuncData} {oc : Value} {od : Option Addr} {osl : Array (Option Value)} (T : Tp D C) (ho : D.K.lookup f = some ⟨oc, od, .func fd, osl⟩) (hc : codeIn D.K fd.code fd.qualname = true) : FnAt C σ f fd :=
  ⟨fun s hk _ => ⟨⟨_, hk _ _ (T.X _ _ ho), rfl⟩, codeRec_of (T.X.keeps hk) hc⟩⟩
theorem FnAt.here {f : Addr} {fd : FuncData} {s : Shared} (F : FnAt C σ f fd) (hs : St C L μ σ s) : (∃ o, s.heap.get? f = some o ∧ o.data = .func fd) ∧ s.heap.CodeRec fd.code fd.qualname := F.at_ s hs.keep fun p hp => (hs.ob p hp).2.2
/- a code that gives a value -/
noncomputable def WK (C : Cx) (A : Around) (L : Addr) (c : Code) (μ : Mu) (σ : Sg) (Q : Value → Sg → Prop) : Prop :=
  ∀ s, St C L μ σ s → codeAny (model C.prog C.w) A c (fun r s' => match r with | .ok (.ret v) => ∃ σ', Q (can v) σ' ∧ St C L μ σ' s' | _ => False) s
theorem WK.run {c : Code} (h : WK C A L c μ σ Q) : WV C A L (runValue c) μ σ Q := fun s hs => wpAny_runValue (codeAny_mono (h s hs) fun r s' z => by
  rcases r with e | (v | _ | _ | _) <;> first | exact z.elim | (obtain ⟨σ', q, st⟩ := z; exact ⟨μ, σ', ⟨rfl, q⟩, st⟩))
/- a call, as a code -/
noncomputable def WCK (C : Cx) (A : Around) (L : Addr) (f : Value) (args : List Value) (σ : Sg) (Q : Value → Sg → Prop) : Prop := ∀ μ args', args'.map can = args → WK C A L (.call f ⟨args', []⟩) μ σ Q
theorem WCK.wc {f : Value} {args : List Value} (h : WCK C A L f args σ Q) : WC C A L f args σ Q := fun μ as e => (h μ as e).run
noncomputable def retV : Flow → Value
  | .ret v => v
  | _ => .none
theorem retV_can (f : Flow) : retV (canF f) = can (retV f) := by cases f <;> rfl
/- a def without cells of its own is entered -/
theorem WK_call_def {n : Nat} {f : Addr} {fd : FuncData} {body : List Stmt} {args : Args} {binds : List (Str × Value)} (r : Room A (n + 1)) (lim : C.h₀.NoLimit) (F : FnAt C σ f fd) (hbody : fd.body = .stmts body)
    (hbind : ∀ s, St C L μ σ s → BindsTo s fd args binds) (hcell : ∀ x ∈ fd.scope.names, x.2 ≠ .cell) (hloc : ∀ x ∈ binds, fd.scope.names.lookup x.1 = some .local)
    (h : ∀ C' L', C.Le C' → Room (A.deeper (callEnv fd L' f)) n → WB C' (A.deeper (callEnv fd L' f)) (callEnv fd L' f) body (binds.reverse.map fun p => (p.1, can p.2)) σ (fun fl _ σ' => Q (retV fl) σ'))
    (hco : fd.scope.isCoroutine = false := by rfl) (hgen : fd.scope.isGenerator = false := by rfl) (hk : fd.scope.kind = .function := by rfl) :
    WK C A L (.call (.ref f) args) μ σ Q :=
  fun s hs => by
    obtain ⟨⟨o, ho, hd⟩, hcd⟩ := F.here hs
    refine (codeAny_call_def r.depth ho hd (lim.keeps hs.keep) hcd hbody (hbind s hs) hcell hloc (fun h₁ hns hk₁ => ?_) hco hgen hk)
    have z := h (C.under s σ) s.heap.objs.size (under_le hs) r.deeper _ (under_enter (tk := s.toks + binds.length) hs hns hk₁)
    refine wpAny_mono z (fun fl s' hz => ?_) fun _ _ x => x.elim
    obtain ⟨μ', σ', q, st⟩ := hz
    refine ⟨σ', ?_, under_leave hs st⟩
    replace q : Q (retV (canF fl)) σ' := q
    rw [retV_can] at q
    cases fl <;> exact q
end
/- some of what is told -/
inductive Sub : Sg → Sg → Prop
  | refl {σ} : Sub σ σ
  | nil {σ} : Sub [] σ
  | cons {σ r τ a o} : Pull σ a o r → Sub τ r → Sub ((a, o) :: τ) σ
  | skip {p r τ} : Sub τ r → Sub τ (p :: r)
theorem Sub.perm {τ σ : Sg} (h : Sub τ σ) : ∃ r, (τ ++ r).Perm σ := by
  induction h with
  | refl => exact ⟨[], by simp⟩
  | nil => exact ⟨_, .refl _⟩
  | cons p _ ih => obtain ⟨r, h⟩ := ih; exact ⟨r, (h.cons _).trans p.perm⟩
  | skip _ ih => obtain ⟨r, h⟩ := ih; exact ⟨_, (List.perm_middle).trans (h.cons _)⟩
noncomputable def pullN : Nat → Sg → Option ((Addr × AO) × Sg)
  | _, [] => none
  | 0, p :: r => some (p, r)
  | n + 1, p :: r => (pullN n r).map fun q => (q.1, p :: q.2)
theorem pullN_pull {n : Nat} : ∀ {σ : Sg} {p : Addr × AO} {r : Sg}, pullN n σ = some (p, r) → Pull σ p.1 p.2 r := by
  induction n with
  | zero =>
    intro σ p r h
    cases σ with
    | nil => cases h
    | cons q t => cases h; exact .here
  | succ n ih =>
    intro σ p r h
    cases σ with
    | nil => cases h
    | cons q t =>
      have h : (pullN n t).map (fun z => (z.1, q :: z.2)) = some (p, r) := h
      obtain ⟨z, hz, e⟩ := Option.map_eq_some_iff.mp h
      cases e
      exact .there (ih hz)
/- picked entries: 0 skips the front one, n + 1 picks the one at n -/
noncomputable def selN (b : Bool) : List Nat → Sg → Option Sg
  | [], σ => some (bif b then σ else [])
  | 0 :: is, σ => selN b is σ.tail
  | (n + 1) :: is, σ => (pullN n σ).bind fun q => (selN b is q.2).map fun t => q.1 :: t
theorem Sub.tail {τ σ : Sg} (h : Sub τ σ.tail) : Sub τ σ := by
  cases σ with
  | nil => exact h
  | cons p r => exact .skip h
theorem Sub.cert {b : Bool} {is : List Nat} : ∀ {σ τ : Sg}, selN b is σ = some τ → Sub τ σ := by
  induction is with
  | nil =>
    intro σ τ h
    cases b with
    | true => cases h; exact .refl
    | false => cases h; exact .nil
  | cons i is ih =>
    intro σ τ h
    cases i with
    | zero => exact (ih h).tail
    | succ n =>
      have h : ((pullN n σ).bind fun q => (selN b is q.2).map fun t => q.1 :: t) = some τ := h
      obtain ⟨q, hq, h2⟩ := Option.bind_eq_some_iff.mp h
      obtain ⟨t, ht, e⟩ := Option.map_eq_some_iff.mp h2
      subst e
      exact .cons (pullN_pull hq) (ih ht)
@[irreducible] noncomputable def PullI (_ : Sg) (_ : Addr) (_ : AO) (_ : Sg) (_ : Nat) : Prop := True
theorem PullI.here {a : Addr} {o : AO} {r : Sg} : PullI ((a, o) :: r) a o r .zero := by unfold PullI; trivial
theorem PullI.there {p : Addr × AO} {a : Addr} {o : AO} {r r' : Sg} {n : Nat} : PullI r a o r' n → PullI (p :: r) a o (p :: r') (.succ n) := by unfold PullI; exact id
@[irreducible] noncomputable def SubI (_ : Sg) (_ : Sg) (_ : Bool) (_ : List Nat) : Prop := True
theorem SubI.refl {σ : Sg} : SubI σ σ true [] := by unfold SubI; trivial
theorem SubI.nil {σ : Sg} : SubI [] σ false [] := by unfold SubI; trivial
theorem SubI.cons {σ r τ : Sg} {a : Addr} {o : AO} {n : Nat} {b : Bool} {is : List Nat} : PullI σ a o r n → SubI τ r b is → SubI ((a, o) :: τ) σ b (.succ n :: is) := by unfold SubI; exact fun _ h => h
theorem SubI.skip {p : Addr × AO} {r τ : Sg} {b : Bool} {is : List Nat} : SubI τ r b is → SubI τ (p :: r) b (.zero :: is) := by unfold SubI; exact id
section
variable {C : Cx} {A : Around} {L : Addr} {μ : Mu} {σ : Sg} {env : Env} {Q : Value → Sg → Prop}
theorem St.sub {τ : Sg} {s : Shared} (hs : St C L μ σ s) (h : Sub τ σ) : St C L μ τ s := by
  obtain ⟨r, p⟩ := h.perm
  refine hs.weaken (fun _ _ e => e) (fun q hq => p.subset (List.mem_append_left _ hq)) ?_
  have n := (p.map (·.1)).nodup_iff.mpr hs.nd
  rw [List.map_append] at n
  exact (List.nodup_append.mp n).1
theorem St.sub2 {μ' : Mu} {τ : Sg} {s : Shared} (hs : St C L μ σ s) (hμ : ∀ x v, μ'.lookup x = some v → μ.lookup x = some v) (h : Sub τ σ) : St C L μ' τ s :=
  (hs.weaken hμ (fun _ hp => hp) hs.nd).sub h
theorem W_sub {α : Type} {t : Sem α} {τ : Sg} {Q : α → Mu → Sg → Prop} (h : Sub τ σ) (k : W C A L t μ τ Q) : W C A L t μ σ Q := fun s hs => k s (hs.sub h)
theorem W_sub2 {α : Type} {t : Sem α} {μ' : Mu} {τ : Sg} {Q : α → Mu → Sg → Prop} (hμ : ∀ x v, μ'.lookup x = some v → μ.lookup x = some v) (h : Sub τ σ) (k : W C A L t μ' τ Q) : W C A L t μ σ Q := fun s hs => k s (hs.sub2 hμ h)
/- an end: what is told there may be less than what is known -/
noncomputable def Ret (Q : Value → Sg → Prop) (v : Value) (σ : Sg) : Prop := ∃ τ, Sub τ σ ∧ Q v τ
theorem WV_ret {t : Sem Value} (h : WV C A L t μ σ (Ret Q)) : WV C A L t μ σ Q :=
  fun s hs => wpAny_mono (h s hs) (fun v s' ⟨μ', σ', ⟨e, τ, hτ, q⟩, st⟩ => ⟨μ', τ, ⟨e, q⟩, st.sub hτ⟩) fun _ _ x => x
theorem W_ends {α : Type} {t : Sem α} {Q : α → Mu → Sg → Prop} (h : W C A L t μ σ (fun a μ' σ' => ∃ μ'' τ, (∀ x v, μ''.lookup x = some v → μ'.lookup x = some v) ∧ Sub τ σ' ∧ Q a μ'' τ)) : W C A L t μ σ Q :=
  fun s hs => wpAny_mono (h s hs) (fun v s' ⟨μ', σ', ⟨μ'', τ, e, hτ, q⟩, st⟩ => ⟨μ'', τ, q, st.sub2 e hτ⟩) fun _ _ x => x
noncomputable def cellsOf (L : Addr) (names : List (Str × NameKind)) (binds : List (Str × Value)) : Sg :=
  (cellsFrom (L + 1) names []).map fun p => (p.2, .cell ((binds.reverse.lookup p.1).map can))
noncomputable def localsOf (names : List (Str × NameKind)) (binds : List (Str × Value)) : Mu :=
  (binds.reverse.filter fun p => decide (names.lookup p.1 = some .local)).map fun p => (p.1, can p.2)
theorem bindL_eq (kindOf : Str → Option NameKind) : ∀ (binds : List (Str × Value)) (m : Str → Option Value) (x : Str), kindOf x = some .local → bindL kindOf binds m x = (binds.reverse.lookup x).or (m x)
  | [], m, x, h => by simp [bindL]
  | (n, v) :: r, m, x, h => by
    rw [bindL, bindL_eq kindOf r _ x h, List.reverse_cons, List.lookup_append, Option.or_assoc]
    congr 1
    by_cases e : x = n
    · subst e; simp [h]
    · have : (x == n) = false := beq_eq_false_iff_ne.mpr e
      by_cases k : kindOf n = some .local <;> simp [k, e, List.lookup_cons, this]
theorem bindC_eq (kindOf : Str → Option NameKind) : ∀ (binds : List (Str × Value)) (m : Str → Option Value) (x : Str), kindOf x ≠ some .local → bindC kindOf binds m x = (binds.reverse.lookup x).or (m x)
  | [], m, x, h => by simp [bindC]
  | (n, v) :: r, m, x, h => by
    rw [bindC, bindC_eq kindOf r _ x h, List.reverse_cons, List.lookup_append, Option.or_assoc]
    congr 1
    by_cases e : x = n
    · subst e; simp [h]
    · have : (x == n) = false := beq_eq_false_iff_ne.mpr e
      by_cases k : kindOf n = some .local <;> simp [k, e, List.lookup_cons, this]
theorem lookup_filter_map {p : Str → Bool} : ∀ {l : List (Str × Value)} {x : Str} {v : Value}, ((l.filter fun q => p q.1).map fun q => (q.1, can q.2)).lookup x = some v → p x = true ∧ ∃ v', l.lookup x = some v' ∧ can v' = v
  | [], x, v, h => by cases h
  | (n, u) :: r, x, v, h => by
    by_cases hp : p n = true
    · rw [List.filter_cons_of_pos (by exact hp), List.map_cons, List.lookup_cons] at h
      rw [List.lookup_cons]
      cases q : (x == n) with
      | true => simp only [q] at h; rw [beq_iff_eq.mp q]; exact ⟨hp, u, rfl, Option.some.inj h⟩
      | false => simp only [q] at h; exact lookup_filter_map h
    · rw [List.filter_cons_of_neg (by exact hp)] at h
      obtain ⟨a, v', b, c⟩ := lookup_filter_map h
      refine ⟨a, v', ?_, c⟩
      have : (x == n) = false := beq_eq_false_iff_ne.mpr fun e => by subst e; exact hp a
      rw [List.lookup_cons, this]
      exact b
theorem cellsFrom_kind : ∀ (names : List (Str × NameKind)) (n : Nat) (acc : List (Str × Addr)) (x : Str) (c : Addr), (x, c) ∈ cellsFrom n names acc → (x, c) ∈ acc ∨ (x, NameKind.cell) ∈ names
  | [], n, acc, x, c, h => .inl h
  | (m, k) :: r, n, acc, x, c, h => by
    unfold cellsFrom at h
    split at h
    · rename_i hk
      rcases cellsFrom_kind r _ _ x c h with q | q
      · rcases List.mem_cons.mp q with e | q
        · cases e
          right
          rw [beq_iff_eq.mp hk]
          exact .head _
        · exact .inl q
      · exact .inr (.tail _ q)
    · rcases cellsFrom_kind r _ _ x c h with q | q
      · exact .inl q
      · exact .inr (.tail _ q)
theorem under_cells {s s₁ : Shared} {names : List (Str × NameKind)} {kindOf : Str → Option NameKind} {binds : List (Str × Value)} (hs : St C L μ σ s) (hkd : ∀ x, kindOf x = names.lookup x)
    (hnl : ∀ x c, (x, c) ∈ cellsFrom (s.heap.objs.size + 1) names [] → names.lookup x ≠ some .local ∧ (cellsFrom (s.heap.objs.size + 1) names []).lookup x = some c)
    (X : InCallC s s.heap.objs.size (bindL kindOf binds fun _ => none) (cellsFrom (s.heap.objs.size + 1) names []) (bindC kindOf binds fun _ => none) s₁) :
    St (C.under s σ) s.heap.objs.size (localsOf names binds) (cellsOf s.heap.objs.size names binds ++ σ) s₁ := by
  obtain ⟨h₁, tk, rfl, _⟩ := X.done
  have hcell : ∀ p ∈ cellsOf s.heap.objs.size names binds, s.heap.objs.size < p.1 ∧ ∃ o, h₁.get? p.1 = some o ∧ Rep C.w.params p.2 o := by
    intro p hp
    obtain ⟨⟨x, c⟩, hm, rfl⟩ := List.mem_map.mp hp
    refine ⟨X.above x c hm, ?_⟩
    obtain ⟨hn, hl⟩ := hnl x c hm
    obtain ⟨o, ho, hd⟩ := X.cell x c hl
    refine ⟨o, ho, _, hd, ?_⟩
    rw [bindC_eq kindOf binds _ x (by rw [hkd]; exact hn)]
    simp
  refine ⟨⟨_, ⟨X.toInCall.ns, fun b o e => X.toInCall.keep b o (of_hideAll _ e), Nat.le_of_eq (hideAll_size _ _)⟩, fun x v e => ?_⟩, fun p hp => ?_, ?_, hs.fx⟩
  · obtain ⟨h1, v', h2, h3⟩ := lookup_filter_map (p := fun x => decide (names.lookup x = some .local)) e
    refine ⟨v', ?_, h3⟩
    rw [bindL_eq kindOf binds _ x (by rw [hkd]; exact of_decide_eq_true h1), h2]
    rfl
  · rcases List.mem_append.mp hp with hp | hp
    · obtain ⟨h1, o, h2, h3⟩ := hcell p hp
      refine ⟨Nat.ne_of_gt h1, ?_, o, h2, h3⟩
      cases q : (C.under s σ).h₀.get? p.1 with
      | none => rfl
      | some o' =>
        have h4 := Heap.lt_size q
        have e : (C.under s σ).h₀.objs.size = s.heap.objs.size := hideAll_size _ _
        rw [e] at h4
        exact absurd (Nat.lt_trans h1 h4) (Nat.lt_irrefl _)
    · obtain ⟨k1, k2, ob, k3, k4⟩ := hs.ob p hp
      exact ⟨Nat.ne_of_lt (Heap.lt_size k3), hideAll_none _ (List.mem_map_of_mem hp), ob, X.toInCall.keep _ _ k3, k4⟩
  · rw [List.map_append, List.nodup_append]
    refine ⟨?_, hs.nd, ?_⟩
    · unfold cellsOf
      rw [List.map_map]
      exact List.Pairwise.map _ (fun a b h => h) X.apart
    · intro a ha b hb e
      subst e
      obtain ⟨p, hp, rfl⟩ := List.mem_map.mp ha
      obtain ⟨q, hq, e⟩ := List.mem_map.mp hb
      obtain ⟨_, _, ob, k3, _⟩ := hs.ob q hq
      have h4 := Heap.lt_size k3
      rw [e] at h4
      exact absurd (Nat.lt_trans (hcell p hp).1 h4) (Nat.lt_irrefl _)
theorem WK_ret {c : Code} (h : WK C A L c μ σ (Ret Q)) : WK C A L c μ σ Q := fun s hs => codeAny_mono (h s hs) fun r s' z => by
  rcases r with e | (v | _ | _ | _) <;> first | exact z.elim | (obtain ⟨σ', ⟨τ, hτ, q⟩, st⟩ := z; exact ⟨τ, q, st.sub hτ⟩)
theorem WK_call_cells {n : Nat} {f : Addr} {fd : FuncData} {body : List Stmt} {args : Args} {binds : List (Str × Value)} (r : Room A (n + 1)) (lim : C.h₀.NoLimit) (F : FnAt C σ f fd) (hbody : fd.body = .stmts body) (hclo : fd.closure = [])
    (hbind : ∀ s, St C L μ σ s → BindsTo s fd args binds)
    (hkind : ∀ L' : Addr, ∀ x ∈ binds, fd.scope.names.lookup x.1 = some .local ∨ (fd.scope.names.lookup x.1 = some .cell ∧ ((cellsFrom (L' + 1) fd.scope.names []).lookup x.1).isSome = true))
    (hnl : ∀ L' : Addr, ∀ x c, (x, c) ∈ cellsFrom (L' + 1) fd.scope.names [] → fd.scope.names.lookup x ≠ some .local ∧ (cellsFrom (L' + 1) fd.scope.names []).lookup x = some c)
    (h : ∀ C' L', C.Le C' → Room (A.deeper (callEnvC fd L' f)) n → WB C' (A.deeper (callEnvC fd L' f)) (callEnvC fd L' f) body (localsOf fd.scope.names binds) (cellsOf L' fd.scope.names binds ++ σ) (fun fl _ σ' => Ret Q (retV fl) σ'))
    (hco : fd.scope.isCoroutine = false := by rfl) (hgen : fd.scope.isGenerator = false := by rfl) (hk : fd.scope.kind = .function := by rfl) :
    WK C A L (.call (.ref f) args) μ σ Q :=
  WK_ret fun s hs => by
    obtain ⟨⟨o, ho, hd⟩, hcd⟩ := F.here hs
    refine (codeAny_call_function r.depth ho hd hco hgen hbody hcd (hbind s hs _ _ _ _ ?_))
    rw [hclo]
    refine wpAny_newFunctionEnv_cells hk (hkind s.heap.objs.size) fun env he s' X => ?_
    subst he
    refine ⟨(lim.keeps hs.keep).keeps X.toInCall.keep, codeAny_func ?_⟩
    have z := h (C.under s σ) s.heap.objs.size (under_le hs) r.deeper s' (under_cells hs (fun _ => rfl) (hnl _) X)
    refine wpAny_mono z (fun fl s' hz => ?_) fun _ _ x => x.elim
    obtain ⟨μ', σ', q, st⟩ := hz
    refine ⟨σ', ?_, under_leave hs st⟩
    replace q : Ret Q (retV (canF fl)) σ' := q
    rw [retV_can] at q
    cases fl <;> exact q
end
noncomputable def WAr (C : Cx) (A : Around) (env : Env) (pos : Pos) (args : List Expr) (μ : Mu) (σ : Sg) (Q : List Value → Sg → Prop) : Prop :=
  W C A env.locals (spliced (backTo pos (starEach args env))) μ σ (fun vs μ' σ' => μ' = μ ∧ Q (vs.map can) σ')
/- who keeps a call's operands -/
noncomputable def CanF (f : Value) : Prop := ∀ f', can f' = f → f' = f
theorem CanF_builtin {i} : CanF (.builtin i) := fun _ h => can_builtin h
theorem CanF_type {i} : CanF (.type i) := fun _ h => can_type h
theorem CanF_ref {i} : CanF (.ref i) := fun _ h => can_ref h
noncomputable def Kp (C : Cx) (σ : Sg) (f : Value) : Prop := ∀ L μ s, St C L μ σ s → ∃ k, (k = Keeper.frame ∨ k = Keeper.machine ∨ k = Keeper.boundFrame) ∧ Looks (model C.prog C.w) s.heap (keeperOf f) k
/- a method is looked up -/
noncomputable def WM (C : Cx) (A : Around) (L : Addr) (v : Value) (name : Str) (σ : Sg) (Q : Value → List Value → Sg → Prop) : Prop :=
  ∀ μ pl v', can v' = v → W C A L (getMethod v' name pl) μ σ (fun fx μ' σ' => μ' = μ ∧ Q fx.1 (fx.2.map can) σ')
noncomputable def WA (C : Cx) (A : Around) (L : Addr) (v : Value) (name : Str) (σ : Sg) (Q : Value → Sg → Prop) : Prop :=
  ∀ μ ex v', can v' = v → WV C A L (getAttr v' name ex) μ σ Q
/- an attribute is stored -/
noncomputable def WP (C : Cx) (A : Around) (L : Addr) (v : Value) (name : Str) (x : Value) (σ : Sg) (Q : Sg → Prop) : Prop :=
  ∀ μ v' x', can v' = v → can x' = x → W C A L (setAttr v' name x') μ σ (fun _ μ' σ' => μ' = μ ∧ Q σ')
section
variable {C : Cx} {A : Around} {L : Addr} {μ : Mu} {σ : Sg} {env : Env} {Q : Value → Sg → Prop}
theorem WAr_nil {pos} {Q : List Value → Sg → Prop} (h : Q [] σ) : WAr C A env pos [] μ σ Q := W_pure ⟨rfl, h⟩
theorem WAr_cons {pos} {e : Expr} {rest : List Expr} {Q : List Value → Sg → Prop} (h : WE C A env e μ σ (fun v σ1 => WAr C A env pos rest μ σ1 (fun vs σ2 => Q (v :: vs) σ2))) (he : starEach (e :: rest) env = (false, eval e env) :: starEach rest env := by rfl) :
    WAr C A env pos (e :: rest) μ σ Q := by
  unfold WAr
  rw [he]
  intro s hs
  refine spliced_cons (wpAny_mono (h s hs) (fun v s1 h1 => ?_) fun _ _ x => x.elim)
  obtain ⟨μ1, σ1, ⟨rfl, h1⟩, st⟩ := h1
  refine wpAny_mono (h1 s1 st) (fun vs s2 h2 => ?_) fun _ _ x => x
  obtain ⟨μ2, σ2, ⟨rfl, h2⟩, st2⟩ := h2
  exact ⟨_, _, ⟨rfl, h2⟩, st2⟩
theorem Kp_builtin {i} : Kp C σ (.builtin i) := fun _ _ _ _ => ⟨.machine, .inr (.inl rfl), .now⟩
theorem Kp_type {i} : Kp C σ (.type i) := fun _ _ _ _ => ⟨.machine, .inr (.inl rfl), .now⟩
theorem Kp_K {D : TopD} {f : Value} (T : Tp D C) (h : keepIn D.K f = true) : Kp C σ f := fun _ _ _ hs => keeps_K h _ (T.X.keeps hs.keep)
theorem W_callWith {f : Value} {first : List Value} {args : List Expr} {pos : Pos} (h : WAr C A env pos args μ σ (fun vs σ1 => Kp C σ1 f ∧ WC C A env.locals f (first.map can ++ vs) σ1 Q)) (hp : (backTo pos (starEach args env)).any (·.1) = false) :
    WV C A env.locals (callWith pos f first (backTo pos (starEach args env)) []) μ σ Q := fun s hs => by
  refine callWith_of (P := fun h => ∃ k, (k = Keeper.frame ∨ k = Keeper.machine ∨ k = Keeper.boundFrame) ∧ Looks (model C.prog C.w) h (keeperOf f) k) (by rw [hp]; rfl) (fun _ h => h) ?_
  have go : ∀ trees : List (Bool × Sem Value), trees.any (·.1) = false → ∀ R, wpAny (model C.prog C.w) A (spliced trees) (fun vs s' => R ⟨vs, []⟩ s') (fun _ _ => False) s → wpAny (model C.prog C.w) A (evalArgs f true trees []) R (fun _ _ => False) s := by
    intro trees ht R hR
    cases trees with
    | nil =>
      unfold evalArgs
      show wpAny _ _ (spliced [] >>= _) _ _ _
      refine wpAny_bind (wpAny_mono hR (fun vs s' h' => ?_) fun _ _ x => x)
      refine wpAny_holding ?_
      exact wpAny_bind (wpAny_pure (wpAny_bind (wpAny_pure (wpAny_pure h'))))
    | cons t r =>
      obtain ⟨b, t⟩ := t
      cases b with
      | true => cases ht
      | false => exact evalArgs_plain hR
  refine go _ hp _ (wpAny_mono (h s hs) (fun vs s1 h1 => ?_) fun _ _ x => x)
  obtain ⟨μ1, σ1, ⟨rfl, k, c⟩, st⟩ := h1
  refine ⟨k _ _ _ st, ?_⟩
  exact c μ1 (first ++ vs) (by rw [List.map_append]) s1 st
theorem WE_Call_Name {id : Str} {p pos : Pos} {args : List Expr} (h : WE C A env (.Name id p) μ σ (fun f σ1 => CanF f ∧ WAr C A env pos args μ σ1 (fun vs σ2 => Kp C σ2 f ∧ WC C A env.locals f vs σ2 Q)))
    (hp : (backTo pos (starEach args env)).any (·.1) = false := by rfl) : WE C A env (.Call (.Name id p) args [] pos) μ σ Q := by
  unfold WE
  rw [arm_eval_Call_Name']
  refine W_bind (W_mono h fun f μ1 σ1 ⟨e1, h1, h2⟩ => ?_)
  subst e1
  have e := h1 f rfl
  rw [← e] at h2
  exact W_callWith (first := []) h2 hp
theorem WE_Method {o : Expr} {name : Str} {apos pos : Pos} {args : List Expr} {pl : Sem Bool} (h : WE C A env o μ σ (fun v σ1 => WM C A env.locals v name σ1 (fun f first σ2 => WAr C A env pos args μ σ2 (fun vs σ3 => Kp C σ3 f ∧ WC C A env.locals f (first ++ vs) σ3 Q))))
    (he : eval (.Call (.Attribute o name apos) args [] pos) env = (do
      let ov ← eval o env
      standAt apos.atName
      let (f, first) ← holding [ov] (getMethod ov name pl)
      callWith pos f first (backTo pos (starEach args env)) []) := by rfl)
    (hp : (backTo pos (starEach args env)).any (·.1) = false := by rfl) : WE C A env (.Call (.Attribute o name apos) args [] pos) μ σ Q := by
  unfold WE
  rw [he]
  refine W_bind (W_mono h fun v μ1 σ1 ⟨e1, h1⟩ => W_bind (W_standAt (W_bind (W_holding (W_mono (h1 _ pl v rfl) fun fx μ2 σ2 ⟨e2, h2⟩ => ?_)))))
  subst e1 e2
  exact W_callWith h2 hp
theorem WE_Attr {o : Expr} {name : Str} {pos : Pos} (h : WE C A env o μ σ (fun v σ1 => WA C A env.locals v name σ1 Q))
    (he : eval (.Attribute o name pos) env = (do
      let v ← eval o env
      standAt pos.atName
      let r ← holding [v] (getAttr v name true)
      letTemporaryGo o v r
      pure r) := by with_unfolding_all rfl) : WE C A env (.Attribute o name pos) μ σ Q := by
  unfold WE WV
  rw [he]
  refine W_bind (W_mono h fun v μ1 σ1 ⟨e1, h1⟩ => W_bind (W_standAt (W_bind (W_holding (W_mono (h1 _ true v rfl) fun r μ2 σ2 ⟨e2, h2⟩ => ?_)))))
  subst e1 e2
  exact W_bind (fun s hs => wpAny_letTemporaryGo ⟨_, _, W_pure ⟨rfl, h2⟩, hs⟩)
end
inductive RepAll (P : Params) : Sg → List (Addr × Obj) → Prop
  | nil : RepAll P [] []
  | cons {a o ob σ news} : Rep P o ob → RepAll P σ news → RepAll P ((a, o) :: σ) ((a, ob) :: news)
theorem RepAll.keys {P : Params} {σ : Sg} {news : List (Addr × Obj)} (h : RepAll P σ news) : news.map (·.1) = σ.map (·.1) := by
  induction h with
  | nil => rfl
  | cons _ _ ih => simp [ih]
section
variable {C : Cx} {A : Around} {L : Addr} {μ : Mu} {σ : Sg} {env : Env} {Q : Value → Sg → Prop}
theorem repAll_of {P : Params} {h₀ h : Heap} : ∀ {σ : Sg}, (∀ p ∈ σ, p.1 ≠ L ∧ h₀.get? p.1 = none ∧ ∃ o, h.get? p.1 = some o ∧ Rep P p.2 o) → ∃ news, News h₀ L h news ∧ RepAll P σ news
  | [], _ => ⟨[], ⟨(fun _ hp => nomatch hp), RepAll.nil⟩⟩
  | (a, o) :: r, k => by
    obtain ⟨news, N, R⟩ := repAll_of (σ := r) fun p hp => k p (.tail _ hp)
    obtain ⟨k1, k2, ob, k3, k4⟩ := k (a, o) (.head _)
    refine ⟨(a, ob) :: news, fun p hp => ?_, .cons k4 R⟩
    rcases List.mem_cons.mp hp with rfl | hp
    · exact ⟨k3, k1, k2⟩
    · exact N p hp
theorem St.news {s : Shared} (hs : St C L μ σ s) : ∃ m news, Fr C.h₀ L s.heap m ∧ (∀ x v, μ.lookup x = some v → ∃ v', m x = some v' ∧ can v' = v) ∧ News C.h₀ L s.heap news ∧ RepAll C.w.params σ news := by
  obtain ⟨m, F, k⟩ := hs.fr
  obtain ⟨news, N, R⟩ := repAll_of hs.ob
  exact ⟨m, news, F, k, N, R⟩
theorem RepAll.ob {P : Params} {h₀ h : Heap} {news : List (Addr × Obj)} (R : RepAll P σ news) (N : News h₀ L h news) : ∀ p ∈ σ, p.1 ≠ L ∧ h₀.get? p.1 = none ∧ ∃ o, h.get? p.1 = some o ∧ Rep P p.2 o := by
  induction R with
  | nil => exact fun _ hp => nomatch hp
  | @cons a o ob σ news hr _ ih =>
    intro p hp
    rcases List.mem_cons.mp hp with rfl | hp
    · obtain ⟨n1, n2, n3⟩ := N (a, ob) (.head _)
      exact ⟨n2, n3, ob, n1, hr⟩
    · exact ih (fun q hq => N q (.tail _ hq)) p hp
theorem St.back {s : Shared} {h' : Heap} {m : Str → Option Value} {news : List (Addr × Obj)} {σ' : Sg} {tk : Nat} (hs : St C L μ σ s) (F : Fr C.h₀ L h' m) (k : ∀ x v, μ.lookup x = some v → ∃ v', m x = some v' ∧ can v' = v)
    (N : News C.h₀ L h' news) (R : RepAll C.w.params σ' news) (nd : (σ'.map (·.1)).Nodup) : St C L μ σ' ⟨h', s.gens, s.drawn, tk, s.os⟩ :=
  ⟨⟨m, F, k⟩, R.ob N, nd, hs.fx⟩
theorem At.ups {P : Params} {a : Addr} {o : AO} {f : AO → Sg} {news : List (Addr × Obj)} (x : At σ a o f) (R : RepAll P σ news) (nd : (σ.map (·.1)).Nodup) :
    ∃ ob, Rep P o ob ∧ (a, ob) ∈ news ∧ ∀ ob', ∃ news', Upd a ob ob' news news' ∧ ∀ o', Rep P o' ob' → RepAll P (f o') news' := by
  induction x generalizing news with
  | here =>
    cases R with
    | cons hr R' =>
      rename_i ob news'
      refine ⟨ob, hr, .head _, fun ob' => ⟨_, .head fun p hp e => ?_, fun o' hr' => .cons hr' R'⟩⟩
      have : p.1 ∈ news'.map (·.1) := List.mem_map_of_mem hp
      rw [R'.keys, e] at this
      exact (List.nodup_cons.mp nd).1 this
  | there x ih =>
    cases R with
    | cons hr R' =>
      obtain ⟨ob, h1, h2, h3⟩ := ih R' (List.nodup_cons.mp nd).2
      refine ⟨ob, h1, .tail _ h2, fun ob' => ?_⟩
      obtain ⟨news', U, h4⟩ := h3 ob'
      refine ⟨_, .tail (fun e => (List.nodup_cons.mp nd).1 ?_) U, fun o' hr' => .cons hr (h4 o' hr')⟩
      have e : _ = _ := e
      show _ ∈ _
      dsimp only at e ⊢
      rw [e]
      exact List.mem_map_of_mem (f := (·.1)) x.mem
theorem St.mem {s : Shared} {a : Addr} {o : AO} {f : AO → Sg} (hs : St C L μ σ s) (x : At σ a o f) : (σ.map (·.1)).Nodup ∧ a ≠ L ∧ C.h₀.get? a = none := ⟨hs.nd, (hs.ob _ x.mem).1, (hs.ob _ x.mem).2.1⟩
/- a dict with names as keys -/
noncomputable def putS (name : Str) (v : Value) : List (Str × Value) → List (Str × Value)
  | [] => [(name, v)]
  | (k, u) :: r => if k = name then (k, v) :: r else (k, u) :: putS name v r
noncomputable def getS (name : Str) : List (Str × Value) → Option Value
  | [] => none
  | (k, u) :: r => if k = name then some u else getS name r
noncomputable def Ent (P : Params) (es : List DictEntry) (kvs : List (Str × Value)) : Prop := (es.map fun e => (e.hash, can e.key, can e.val)) = kvs.map fun kv => (PyData.keyHash P kv.1, vS kv.1, kv.2)
theorem Ent.cons_inv {P : Params} {es : List DictEntry} {k : Str} {u : Value} {r : List (Str × Value)} (h : Ent P es ((k, u) :: r)) : ∃ t u' es', es = ⟨PyData.keyHash P k, .str k t, u'⟩ :: es' ∧ can u' = u ∧ Ent P es' r := by
  cases es with
  | nil => cases h
  | cons e es' =>
    obtain ⟨hh, hk, hv⟩ := e
    simp only [Ent, List.map_cons, List.cons.injEq, Prod.mk.injEq] at h
    obtain ⟨⟨rfl, h2, h3⟩, h4⟩ := h
    obtain ⟨t, rfl⟩ := can_str h2
    exact ⟨t, hv, es', rfl, h3, h4⟩
theorem isStr_str (k name : Str) (t : Tok) : Value.isStr (.str k t) name = decide (k = name) := by
  first
    | rfl
    | (show (k == name) = _; by_cases h : k = name <;> simp [h])
theorem Ent.nil_inv {P : Params} {es : List DictEntry} (h : Ent P es []) : es = [] := by
  cases es with
  | nil => rfl
  | cons _ _ => cases h
theorem Ent.put {P : Params} {name : Str} {v : Value} {t : Tok} : ∀ {kvs : List (Str × Value)} {es : List DictEntry}, Ent P es kvs → Ent P (putL name (PyData.keyHash P name) (.str name t) v es) (putS name (can v) kvs)
  | [], es, h => by
    rw [h.nil_inv]
    rfl
  | (k, u) :: r, es, h => by
    obtain ⟨t', u', es', rfl, rfl, h'⟩ := h.cons_inv
    unfold putL putS
    rw [isStr_str]
    by_cases e : k = name
    · simp only [e, decide_true, if_true]
      subst e
      simp only [Ent, List.map_cons, List.cons.injEq] at h' ⊢
      exact ⟨rfl, h'⟩
    · simp only [e, decide_false, if_false, Bool.false_eq_true]
      have := Ent.put (name := name) (v := v) (t := t) h'
      simp only [Ent, List.map_cons, List.cons.injEq] at this ⊢
      exact ⟨rfl, this⟩
theorem Ent.plain {P : Params} : ∀ {kvs : List (Str × Value)} {es : List DictEntry}, Ent P es kvs → es.any (·.refKey) = false
  | [], es, h => by rw [h.nil_inv]; rfl
  | (k, u) :: r, es, h => by
    obtain ⟨t', u', es', rfl, rfl, h'⟩ := h.cons_inv
    rw [List.any_cons, Ent.plain h']
    rfl
theorem Ent.get {P : Params} {name : Str} : ∀ {kvs : List (Str × Value)} {es : List DictEntry}, Ent P es kvs →
    match getS name kvs with | some v => ∃ v', getL name es = some (some v') ∧ can v' = v | none => getL name es = some none
  | [], es, h => by
    rw [h.nil_inv]
    rfl
  | (k, u) :: r, es, h => by
    obtain ⟨t', u', es', rfl, rfl, h'⟩ := h.cons_inv
    have ih := Ent.get (name := name) h'
    have pl := h'.plain
    unfold getS
    by_cases e : k = name
    · simp only [e, if_true]
      refine ⟨u', ?_, rfl⟩
      unfold getL
      rw [List.find?_cons_of_pos (by rw [isStr_str]; simp [e])]
    · simp only [e, if_false]
      have fe : getL name (⟨PyData.keyHash P k, .str k t', u'⟩ :: es') = getL name es' := by
        unfold getL
        rw [List.find?_cons_of_neg (by rw [isStr_str]; simp [e]), List.any_cons]
        rfl
      rw [fe]
      exact ih
theorem Ent.length {P : Params} {es : List DictEntry} {kvs : List (Str × Value)} (h : Ent P es kvs) : es.length = kvs.length := by
  have := congrArg List.length h
  simpa using this
theorem handed_can (v : Value) : handedIn (can v) = handedIn v := by cases v <;> rfl
/- an object of a class of the text -/
theorem inst_at {s : Shared} {x Cc d : Addr} {kvs : List (Str × Value)} {f g : AO → Sg} (hs : St C L μ σ s) (h1 : At σ x (.inst Cc d) f) (h2 : At σ d (.sd kvs) g) :
    ∃ es n, Ent C.w.params es kvs ∧ s.heap.get? d = some (PySem.W.dictOf es n) ∧ InstAt s.heap x ⟨.ref Cc, some d, .plain, #[]⟩ Cc (some (PySem.W.dictOf es n)) := by
  obtain ⟨ox, e1, rfl⟩ := hs.at h1
  obtain ⟨od, e2, es, n, rfl, E⟩ := hs.at h2
  exact ⟨es, n, E, e2, e1, rfl, rfl, e2⟩
theorem WA_own {D : TopD} {x Cc d : Addr} {name : Str} {kvs : List (Str × Value)} {v : Value} {attr : Option Value} {f g : AO → Sg} (T : Tp D C) (h1 : At σ x (.inst Cc d) f) (h2 : At σ d (.sd kvs) g)
    (hg : plainGet D.K Cc name = true) (hh : hasDictIn D.K Cc = true) (ha : findIn D.K (.ref Cc) name = some attr) (hn : noGet D.K attr = true) (hl : getS name kvs = some v) (hv : handedIn v = true) (h : Q v σ) : WA C A L (.ref x) name σ Q := by
  intro μ ex v' hv'
  rw [can_ref hv']
  refine WV_by fun s hs Q' q => ?_
  obtain ⟨m, F, k⟩ := hs.fr
  obtain ⟨es, n, E, _, I⟩ := inst_at hs h1 h2
  have e := E.get (name := name)
  rw [hl] at e
  obtain ⟨v', e1, rfl⟩ := e
  exact get_own F T.X I hg hh ha hn e1 (by rw [← handed_can]; exact hv) (q _ _ _ h hs.toks)
theorem WA_bound {D : TopD} {x Cc d fn : Addr} {name : Str} {kvs : List (Str × Value)} {f g : AO → Sg} (T : Tp D C) (h1 : At σ x (.inst Cc d) f) (h2 : At σ d (.sd kvs) g)
    (hg : plainGet D.K Cc name = true) (hh : hasDictIn D.K Cc = true) (ha : findIn D.K (.ref Cc) name = some (some (.ref fn))) (hf : isFn D.K (.ref fn) = true)
    (hgf : specialIn D.K (.ref fn) "__get__" = some (some (.builtin "function.__get__"))) (ht : takesIn D.K (.ref fn) = some false) (hc : copiedNames.contains name = false) (hl : getS name kvs = none)
    (h : ∀ q, Q (.ref q) ((q, .obj (methodObj (.ref fn) (.ref x))) :: σ)) : WA C A L (.ref x) name σ Q := by
  intro μ ex v' hv'
  rw [can_ref hv']
  refine WV_by fun s hs Q' q => ?_
  obtain ⟨m, news, F, k, N, R⟩ := hs.news
  obtain ⟨es, n, E, _, I⟩ := inst_at hs h1 h2
  have e := E.get (name := name)
  rw [hl] at e
  refine kbm_bound F T.X N I hg hh ha hf hgf ht hc e fun a h' F' N' hlt => q _ _ _ (h a) (hs.back F' k N' (.cons rfl R) ?_)
  refine List.nodup_cons.mpr ⟨fun hm => ?_, hs.nd⟩
  rw [← R.keys] at hm
  obtain ⟨p, hp, e⟩ := List.mem_map.mp hm
  have := hlt p hp
  rw [e] at this
  exact Nat.lt_irrefl _ this
theorem WP_inst {D : TopD} {x Cc d : Addr} {name : Str} {v : Value} {kvs : List (Str × Value)} {f g : AO → Sg} {Q : Sg → Prop} (T : Tp D C) (h1 : At σ x (.inst Cc d) f) (h2 : At σ d (.sd kvs) g)
    (hs : findIn D.K (.ref Cc) "__setattr__" = some (some (.builtin "object.__setattr__"))) (hp : plainOver D.K Cc = true) (ht : takerIn D.K Cc name = some none) (hh : hasDictIn D.K Cc = true)
    (hz : (putS name v kvs).length ≤ 1000) (h : Q (g (.sd (putS name v kvs)))) : WP C A L (.ref x) name v σ Q := by
  intro μ x' v' hx hv
  subst hv
  rw [can_ref hx]
  refine W_by fun s hst Q' q => ?_
  obtain ⟨m, news, F, k, N, R⟩ := hst.news
  obtain ⟨ox, e1, rfl⟩ := hst.at h1
  obtain ⟨od, hr, hm, U⟩ := h2.ups R hst.nd
  obtain ⟨es, n, rfl, E⟩ := hr
  have E : Ent C.w.params es kvs := E
  have hd := (N _ hm).1
  have I : InstAt s.heap x ⟨.ref Cc, some d, .plain, #[]⟩ Cc (some (PySem.W.dictOf es n)) := ⟨e1, rfl, rfl, hd⟩
  have eg := E.get (name := name)
  have E' := E.put (name := name) (v := v') (t := s.toks + 1)
  obtain ⟨news', U, R'⟩ := U (PySem.W.dictOf (putL name (PyData.keyHash C.w.params name) (.str name (s.toks + 1)) v' es) (putN name es n))
  refine set_dict F T.X N I rfl hs hp ht hh ?_ rfl U (by rw [E'.length]; exact hz) fun h' F' N' => q _ _ _ _ ⟨rfl, h⟩ (hst.back F' k N' (R' _ ⟨_, _, rfl, E'⟩) (by rw [h2.keys]; exact hst.nd))
  cases q : getS name kvs with
  | none => rw [q] at eg; rw [eg]; rfl
  | some v => rw [q] at eg; obtain ⟨_, e, _⟩ := eg; rw [e]; rfl
theorem WM_inst {D : TopD} {x Cc d fn : Addr} {name : Str} {kvs : List (Str × Value)} {f g : AO → Sg} {Q : Value → List Value → Sg → Prop} (T : Tp D C) (h1 : At σ x (.inst Cc d) f) (h2 : At σ d (.sd kvs) g)
    (hg : plainGet D.K Cc name = true) (hf : findIn D.K (.ref Cc) name = some (some (.ref fn))) (ht : isFn D.K (.ref fn) = true) (hl : getS name kvs = none) (h : Q (.ref fn) [.ref x] σ) : WM C A L (.ref x) name σ Q := by
  intro μ pl v' hv'
  rw [can_ref hv']
  refine W_by fun s hs Q' q => ?_
  obtain ⟨m, F, k⟩ := hs.fr
  obtain ⟨es, n, E, _, I⟩ := inst_at hs h1 h2
  have e := E.get (name := name)
  rw [hl] at e
  exact method_inst F T.X I hg hf ht e (q (.ref fn, [.ref x]) μ _ _ ⟨rfl, h⟩ hs)
/- a name that the object's own dict holds -/
theorem WM_own {D : TopD} {x Cc d : Addr} {name : Str} {kvs : List (Str × Value)} {v : Value} {f g : AO → Sg} {Q : Value → List Value → Sg → Prop} (T : Tp D C) (h1 : At σ x (.inst Cc d) f) (h2 : At σ d (.sd kvs) g)
    (hg : plainGet D.K Cc name = true) (hh : hasDictIn D.K Cc = true) (hf : findIn D.K (.ref Cc) name = some none) (hl : getS name kvs = some v) (hc : CanF v) (hv : handedIn v = true) (h : Q v [] σ) : WM C A L (.ref x) name σ Q := by
  intro μ pl v' hv'
  rw [can_ref hv']
  refine W_by fun s hs Q' q => ?_
  obtain ⟨m, F, k⟩ := hs.fr
  obtain ⟨es, n, E, _, I⟩ := inst_at hs h1 h2
  have e := E.get (name := name)
  rw [hl] at e
  obtain ⟨v', e1, e2⟩ := e
  have := hc _ e2
  subst this
  exact kmu_own F T.X I hg hf (get_own F T.X I hg hh hf rfl e1 hv (q (v', []) μ σ _ ⟨rfl, h⟩ hs.toks))
/- as above, where the class has a method of that name too -/
theorem WM_over {D : TopD} {x Cc d fn : Addr} {name : Str} {kvs : List (Str × Value)} {v : Value} {f g : AO → Sg} {Q : Value → List Value → Sg → Prop} (T : Tp D C) (h1 : At σ x (.inst Cc d) f) (h2 : At σ d (.sd kvs) g)
    (hg : plainGet D.K Cc name = true) (hh : hasDictIn D.K Cc = true) (hf : findIn D.K (.ref Cc) name = some (some (.ref fn))) (ht : isFn D.K (.ref fn) = true) (hgf : (specialIn D.K (.ref fn) "__get__").isSome = true) (htk : takesIn D.K (.ref fn) = some false)
    (hl : getS name kvs = some v) (hc : CanF v) (hv : handedIn v = true) (h : Q v [] σ) : WM C A L (.ref x) name σ Q := by
  intro μ pl v' hv'
  rw [can_ref hv']
  refine W_by fun s hs Q' q => ?_
  obtain ⟨m, F, k⟩ := hs.fr
  obtain ⟨es, n, E, _, I⟩ := inst_at hs h1 h2
  have e := E.get (name := name)
  rw [hl] at e
  obtain ⟨v', e1, e2⟩ := e
  have := hc _ e2
  subst this
  have X := T.X.keeps hs.keep
  have fo : findObj D.K Cc (some (PySem.W.dictOf es n)) name = some (.value v') := by
    obtain ⟨cd, hc', hd⟩ := any_some hh
    obtain ⟨gg, hgg⟩ := Option.isSome_iff_exists.mp hgf
    unfold findObj
    have ho : PySem.W.ownOf cd (some (PySem.W.dictOf es n)) name = some (some v') := by unfold PySem.W.ownOf; rw [if_pos hd]; exact e1
    rw [hc', Option.bind_some, hf, Option.bind_some]
    show (specialIn D.K (.ref fn) "__get__").bind _ = _
    rw [hgg, Option.bind_some]
    cases gg with
    | none =>
      show (PySem.W.ownOf cd _ name).bind _ = _
      rw [ho]; rfl
    | some g =>
      show (takesIn D.K (.ref fn)).bind _ = _
      rw [htk, Option.bind_some]
      show (PySem.W.ownOf cd _ name).bind _ = _
      rw [ho]; rfl
  have G : wpAny (model C.prog C.w) A (getAttr (.ref x) name) (fun v s' => Q' (v, []) s') (fun _ _ => False) s := get_value X I (plainGet_of hg).1 fo hv (q (v', []) μ σ _ ⟨rfl, h⟩ hs.toks)
  have hcan := PySem.F.canon_object_ga
  unfold getMethod specialOf
  refine wpAny_bind (wpAny_bind (I.type.here ((looks_findIn X (plainGet_of hg).1).here ?_)))
  dsimp only
  rw [hcan, if_neg (by decide)]
  refine wpAny_bind (wpAny_bind (I.type.here ((looks_findIn X (plainGet_of hg).2).here ?_)))
  refine wpAny_bind (wpAny_bind (I.type.here ((looks_findIn X hf).here (wpAny_bind ((looks_typeIn X (beq_iff_eq.mp ht)).here ?_)))))
  rw [if_neg (by decide +kernel)]
  refine wpAny_bind (wpAny_loadPart I.at_ ?_)
  refine wpAny_bind (wpAny_bind (wpAny_loadPart I.dict ?_))
  rw [nsLook_of (show lookIn name (PySem.W.dictOf es n) = some (some v') from e1)]
  refine wpAny_pure ?_
  dsimp only [Option.isSome_some]
  rw [if_pos rfl]
  exact wpAny_bind (wpAny_mono G (fun _ _ z => wpAny_pure z) fun _ _ z => z)
end
theorem big_line : 9000000 ≤ sizeLine := by rw [sizeLine_eq]; decide
noncomputable def WG (C : Cx) (A : Around) (L : Addr) (o i : Value) (σ : Sg) (Q : Value → Sg → Prop) : Prop :=
  ∀ μ o' i', can o' = o → can i' = i → WV C A L (getItem o' i') μ σ Q
/- of a built-in type, where getitem is not a def -/
noncomputable def PlainItem (C : Cx) (σ : Sg) (o : Value) : Prop := ∀ L μ s, St C L μ σ s → ∀ o', can o' = o → ∃ T id, s.TypeIs o' T ∧ typeLookup (.type T) "__getitem__" = pure (some (.builtin id))
section
variable {C : Cx} {A : Around} {L : Addr} {μ : Mu} {σ : Sg} {env : Env} {Q : Value → Sg → Prop}
theorem St.list {s : Shared} {a : Addr} {vs : List Value} {f : AO → Sg} (hs : St C L μ σ s) (x : At σ a (.list vs) f) : ∃ (items : List Value) (n : Nat), s.heap.get? a = some ⟨.type "list", none, .seq items.toArray n, #[]⟩ ∧ items.map can = vs := by
  obtain ⟨ob, e, items, n, rfl, h⟩ := hs.at x
  exact ⟨items, n, e, h⟩
theorem PI_list {a : Addr} {vs : List Value} {f : AO → Sg} (x : At σ a (.list vs) f) : PlainItem C σ (.ref a) := fun L μ s hs o' e => by
  rw [can_ref e]
  obtain ⟨items, n, h, _⟩ := hs.list x
  exact ⟨"list", _, ⟨_, h, rfl⟩, slot_list_getitem.lookup⟩
theorem PI_str {x : Str} : PlainItem C σ (vS x) := fun L μ s hs o' e => by
  obtain ⟨t, rfl⟩ := can_str e
  exact ⟨"str", _, typeIs_str _ _ _, PySem.F.slot_str_getitem.lookup⟩
theorem PI_tuple {a : Addr} {vs : List Value} {f : AO → Sg} (x : At σ a (.tuple vs) f) : PlainItem C σ (.ref a) := fun L μ s hs o' e => by
  rw [can_ref e]
  obtain ⟨ob, h, items, n, rfl, _⟩ := hs.at x
  exact ⟨"tuple", _, ⟨_, h, rfl⟩, PySem.F.slot_tuple_getitem.lookup⟩
theorem PI_sd {a : Addr} {vs : List (Str × Value)} {f : AO → Sg} (x : At σ a (.sd vs) f) : PlainItem C σ (.ref a) := fun L μ s hs o' e => by
  rw [can_ref e]
  obtain ⟨ob, h, items, n, rfl, _⟩ := hs.at x
  exact ⟨"dict", _, ⟨_, h, rfl⟩, PySem.F.slot_dict_getitem.lookup⟩
theorem subscripted_ops (slice : Expr) (o i : Value) : ∃ ops, subscripted slice false o i = operate ops (getItem o i) := by
  cases slice with
  | Slice a b c p => cases c with
    | none => exact ⟨_, rfl⟩
    | some c => exact ⟨_, rfl⟩
  | _ => exact ⟨_, rfl⟩
theorem W_tail {value slice : Expr} {o i o' i' : Value} (ho : can o' = o) (hi : can i' = i) (hp : PlainItem C σ o) (h : WG C A L o i σ Q) : WV C A L (subscriptTail value slice o' i') μ σ Q := fun s hs => by
  obtain ⟨T, id, hT, hl⟩ := hp _ _ _ hs o' ho
  obtain ⟨ops, e⟩ := subscripted_ops slice o' i'
  unfold subscriptTail
  refine wpAny_bind ?_
  rw [getitemInPython_of_ne hT.not_modules]
  refine wpAny_bind (wpAny_specialOf hT hl ?_)
  have fin : wpAny (model C.prog C.w) A (subscripted slice false o' i') (fun r s₃ => wpAny (model C.prog C.w) A (letTemporaryGo value o' r >>= fun _ => pure r) (fun a s' => ∃ μ' σ', (μ' = μ ∧ Q (can a) σ') ∧ St C L μ' σ' s') (fun _ _ => False) s₃) (fun _ _ => False) s := by
    rw [e]
    exact wpAny_operating (wpAny_mono (h μ o' i' ho hi s hs) (fun r s₃ h₃ => wpAny_bind (wpAny_letTemporaryGo (wpAny_pure h₃))) fun _ _ x => x)
  first
    | exact wpAny_pure (wpAny_bind fin)
    | exact wpAny_bind (wpAny_pure (wpAny_bind fin))
    | exact wpAny_bind fin
theorem WE_Sub {value slice : Expr} {pos : Pos} (h : WE C A env value μ σ (fun o σ1 => WE C A env slice μ σ1 (fun i σ2 => PlainItem C σ2 o ∧ WG C A env.locals o i σ2 Q))) : WE C A env (.Subscript value slice pos) μ σ Q := by
  unfold WE WV
  rw [eval_Subscript]
  refine W_bind (W_mono h fun o μ1 σ1 ⟨e1, h1⟩ => ?_)
  subst e1
  refine W_bind (W_holding (W_mono h1 fun i μ2 σ2 ⟨e2, h2, h3⟩ => ?_))
  subst e2
  exact W_bind (W_standAt (W_tail rfl rfl h2 h3))
/- a part of a slice -/
noncomputable def WO (C : Cx) (A : Around) (env : Env) (e : Option Expr) (μ : Mu) (σ : Sg) (Q : Value → Sg → Prop) : Prop := WV C A env.locals (valueOrNone (evalOpt e env)) μ σ Q
theorem WO_none (h : Q .none σ) : WO C A env none μ σ Q := WV_pure h
theorem WO_some {e : Expr} (h : WE C A env e μ σ Q) (he : valueOrNone (evalOpt (some e) env) = eval e env := by rfl) : WO C A env (some e) μ σ Q := by
  unfold WO
  rw [he]
  exact h
theorem WE_Slice {l u k : Option Expr} {pos : Pos} (h : WO C A env l μ σ (fun vl σ1 => WO C A env u μ σ1 (fun vu σ2 => WO C A env k μ σ2 (fun vk σ3 => ∀ a, Q (.ref a) ((a, .fields "slice" [vl, vu, vk]) :: σ3))))) :
    WE C A env (.Slice l u k pos) μ σ Q := by
  have e : eval (.Slice l u k pos) env = (do
    let l ← valueOrNone (evalOpt l env)
    let u ← holding [l] (valueOrNone (evalOpt u env))
    let s ← holding [l, u] (valueOrNone (evalOpt k env))
    newFields "slice" [l, u, s]) := rfl
  unfold WE WV
  rw [e]
  refine W_bind (W_mono h fun vl μ1 σ1 ⟨e1, h1⟩ => ?_)
  subst e1
  refine W_bind (W_holding (W_mono h1 fun vu μ2 σ2 ⟨e2, h2⟩ => ?_))
  subst e2
  refine W_bind (W_holding (W_mono h2 fun vk μ3 σ3 ⟨e3, h3⟩ => ?_))
  subst e3
  intro s hs
  unfold newFields
  exact wpAny_newObj_type ⟨_, _, ⟨rfl, h3 _⟩, hs.push ⟨rfl, _, rfl, rfl⟩ rfl⟩ (by show (3 : Nat) ≤ _; have := big_line; wtm_at "om")
theorem WE_List {elts : List Expr} {pos : Pos} (h : WAr C A env pos elts μ σ (fun vs σ1 => vs.length ≤ 1000000 ∧ ∀ a, Q (.ref a) ((a, .list vs) :: σ1))) : WE C A env (.List elts pos) μ σ Q := fun s hs => by
  refine List_ (wpAny_mono (h s hs) (fun vs s1 h1 => ?_) fun _ _ x => x)
  obtain ⟨μ1, σ1, ⟨rfl, hz, q⟩, st⟩ := h1
  exact wpAny_newList ⟨_, _, ⟨rfl, q _⟩, st.push ⟨_, _, rfl, rfl⟩ rfl⟩ (by rw [List.length_map] at hz; have := big_line; wtm_at "om")
theorem WE_Tuple {elts : List Expr} {k : Nat} {pos : Pos} (h : WAr C A env pos elts μ σ (fun vs σ1 => vs.length ≤ 1000000 ∧ ∀ a, Q (.ref a) ((a, .tuple vs) :: σ1))) : WE C A env (.Tuple elts k pos) μ σ Q := fun s hs => by
  refine Tuple_ (wpAny_mono (h s hs) (fun vs s1 h1 => ?_) fun _ _ x => x)
  obtain ⟨μ1, σ1, ⟨rfl, hz, q⟩, st⟩ := h1
  exact wpAny_newTuple ⟨_, _, ⟨rfl, q _⟩, st.push ⟨_, _, rfl, rfl⟩ rfl⟩ (by rw [List.length_map] at hz; have := big_line; wtm_at "om")
theorem map_get {items vs : List Value} (h : items.map can = vs) {i : Nat} {x : Value} (e : vs[i]? = some x) : ∃ x', items[i]? = some x' ∧ can x' = x := by
  subst h
  rw [List.getElem?_map] at e
  exact Option.map_eq_some_iff.mp e
theorem map_len {items vs : List Value} (h : items.map can = vs) : items.length = vs.length := by subst h; simp
theorem WG_list {a : Addr} {vs : List Value} {f : AO → Sg} {i : Int} {x : Value} (h1 : At σ a (.list vs) f) (h0 : 0 ≤ i) (hi : i < 2 ^ 63) (hx : vs[i.toNat]? = some x) (h : Q x σ) : WG C A L (.ref a) (vI i) σ Q := fun μ o' i' ho hi' => by
  rw [can_ref ho]
  obtain ⟨t, rfl⟩ := can_int hi'
  refine WV_by fun s hs Q' q => ?_
  obtain ⟨items, n, e, hm⟩ := hs.list h1
  obtain ⟨x', e1, rfl⟩ := map_get hm hx
  exact wpAny_getItem_list ⟨_, e, rfl, n, rfl⟩ h0 hi (by simpa using e1) (q _ _ _ h hs)
theorem WG_last {a : Addr} {vs : List Value} {f : AO → Sg} {x : Value} (h1 : At σ a (.list (vs ++ [x])) f) (h : Q x σ) : WG C A L (.ref a) (vI (-1)) σ Q := fun μ o' i' ho hi' => by
  rw [can_ref ho]
  obtain ⟨t, rfl⟩ := can_int hi'
  refine WV_by fun s hs Q' q => ?_
  obtain ⟨items, n, e, hm⟩ := hs.list h1
  obtain ⟨x', e1, rfl⟩ := map_get (i := vs.length) (x := x) hm (by simp)
  have hl := map_len hm
  simp only [List.length_append, List.length_cons, List.length_nil] at hl
  exact wpAny_getItem_list_neg ⟨_, e, rfl, n, rfl⟩ (by decide) (by simp only [List.size_toArray]; wtm_at "om") (by decide) (by
    have : (-1 + (items.toArray.size : Int)).toNat = vs.length := by simp only [List.size_toArray]; wtm_at "om"
    rw [this]; simpa using e1) (q _ _ _ h hs)
noncomputable def pick (vs : List Value) (lo hi st : Option Int) : List Value := (sliceRange (sliceBounds lo hi st vs.length).1 (sliceBounds lo hi st vs.length).2.1 (sliceBounds lo hi st vs.length).2.2).filterMap (vs[·]?)
inductive Part : Value → Option Int → Prop
  | none : Part .none none
  | int (i : Int) : Part (vI i) (some i)
theorem Part.of {v v' : Value} {o : Option Int} (p : Part v o) (e : can v' = v) : IsPart v' o := by
  cases p with
  | none => rw [can_none e]; exact .none
  | int i => obtain ⟨t, rfl⟩ := can_int e; exact .int i t
theorem can_map3 {items : List Value} {a b c : Value} (h : items.map can = [a, b, c]) : ∃ a' b' c', items = [a', b', c'] ∧ can a' = a ∧ can b' = b ∧ can c' = c := by
  obtain ⟨a', b', c', rfl⟩ := len3 (show items.length = 3 by simpa using congrArg List.length h)
  simp only [List.map_cons, List.map_nil, List.cons.injEq, and_true] at h
  exact ⟨a', b', c', rfl, h.1, h.2.1, h.2.2⟩
theorem WG_slice {a sl : Addr} {vs : List Value} {vl vu vk : Value} {lo hi st : Option Int} {f g : AO → Sg} (h1 : At σ a (.list vs) f) (h2 : At σ sl (.fields "slice" [vl, vu, vk]) g) (pl : Part vl lo) (pu : Part vu hi) (pk : Part vk st) (h0 : st ≠ some 0)
    (hz : vs.length ≤ 1000000) (h : ∀ b, Q (.ref b) ((b, .list (pick vs lo hi st)) :: σ)) : WG C A L (.ref a) (.ref sl) σ Q := fun μ o' i' ho hi' => by
  rw [can_ref ho, can_ref hi']
  refine WV_by fun s hs Q' q => ?_
  obtain ⟨items, n, e, hm⟩ := hs.list h1
  obtain ⟨ob, e2, hc, its, hd, hmm⟩ := hs.at h2
  obtain ⟨a', b', c', hits, ha, hb, hc'⟩ := can_map3 hmm
  have hits : its = #[a', b', c'] := by cases its; simp_all
  subst hits
  have hl := map_len hm
  refine wpAny_getItem_list_slice ⟨_, e, rfl, n, rfl⟩ ⟨ob, e2, hc, hd⟩ (pl.of ha) (pu.of hb) (pk.of hc') h0 (q _ _ _ (h _) (hs.push ⟨(slicePick items.toArray lo hi st).toList, 0, by simp, ?_⟩ rfl)) (by simp only [List.size_toArray]; have := big_line; wtm_at "om")
  subst hm
  unfold pick slicePick
  simp only [List.size_toArray, List.length_map, List.map_filterMap]
  congr 1
  funext i
  simp
end
section
variable {C : Cx} {A : Around} {L : Addr} {μ : Mu} {σ : Sg} {env : Env} {Q : Value → Sg → Prop}
theorem map_cons_inv {items : List Value} {x : Value} {r : List Value} (h : items.map can = x :: r) : ∃ x' r', items = x' :: r' ∧ can x' = x ∧ r'.map can = r := by
  cases items with
  | nil => cases h
  | cons a l =>
    simp only [List.map_cons, List.cons.injEq] at h
    exact ⟨a, l, rfl, h.1, h.2⟩
theorem map_one {items : List Value} {x : Value} (h : items.map can = [x]) : ∃ x', items = [x'] ∧ can x' = x := by
  obtain ⟨x', r, rfl, e, h⟩ := map_cons_inv h
  rw [List.map_eq_nil_iff.mp h]
  exact ⟨x', rfl, e⟩
theorem map_two {items : List Value} {x y : Value} (h : items.map can = [x, y]) : ∃ x' y', items = [x', y'] ∧ can x' = x ∧ can y' = y := by
  obtain ⟨x', r, rfl, e, h⟩ := map_cons_inv h
  obtain ⟨y', rfl, e2⟩ := map_one h
  exact ⟨x', y', rfl, e, e2⟩
theorem WC1 {f x : Value} (h : ∀ μ x', can x' = x → WV C A L (call f [x']) μ σ Q) : WC C A L f [x] σ Q := fun μ args e => by
  obtain ⟨x', rfl, e2⟩ := map_one e
  exact h μ x' e2
theorem WC2 {f x y : Value} (h : ∀ μ x' y', can x' = x → can y' = y → WV C A L (call f [x', y']) μ σ Q) : WC C A L f [x, y] σ Q := fun μ args e => by
  obtain ⟨x', y', rfl, e1, e2⟩ := map_two e
  exact h μ x' y' e1 e2
theorem St.grow {s : Shared} {h' : Heap} {m : Str → Option Value} {news : List (Addr × Obj)} {a : Addr} {o : AO} {ob : Obj} {tk : Nat} (hs : St C L μ σ s) (F : Fr C.h₀ L h' m) (k : ∀ x v, μ.lookup x = some v → ∃ v', m x = some v' ∧ can v' = v)
    (N : News C.h₀ L s.heap news) (R : RepAll C.w.params σ news) (N' : News C.h₀ L h' ((a, ob) :: news)) (ha : s.heap.objs.size ≤ a) (hr : Rep C.w.params o ob) : St C L μ ((a, o) :: σ) ⟨h', s.gens, s.drawn, tk, s.os⟩ :=
  hs.back F k N' (.cons hr R) (List.nodup_cons.mpr ⟨fun hm => by
    rw [← R.keys] at hm
    obtain ⟨p, hp, e⟩ := List.mem_map.mp hm
    have := Heap.lt_size (N p hp).1
    rw [e] at this
    exact Nat.lt_irrefl _ (Nat.lt_of_lt_of_le this ha), hs.nd⟩)
theorem WM_list {a : Addr} {vs : List Value} {f : AO → Sg} {name : Str} {id : String} {Q : Value → List Value → Sg → Prop} (x : At σ a (.list vs) f) (slot : Slot "list" name id) (ty : typeOf (.builtin id) = pure (.type "method_descriptor")) (h : Q (.builtin id) [.ref a] σ) :
    WM C A L (.ref a) name σ Q := fun μ pl v' e => by
  rw [can_ref e]
  refine W_by fun s hs Q' q => ?_
  obtain ⟨items, n, g, _⟩ := hs.list x
  exact getMethod_builtin (T := "list") ⟨_, g, rfl⟩ PySem.F.plainAttrs_list slot ty (fun b eb => by cases eb; exact ⟨_, g, rfl⟩) (q (.builtin id, [.ref a]) μ _ _ ⟨rfl, h⟩ hs)
theorem WM_str {x : Str} {name : Str} {id : String} {Q : Value → List Value → Sg → Prop} (slot : Slot "str" name id) (ty : typeOf (.builtin id) = pure (.type "method_descriptor")) (h : Q (.builtin id) [vS x] σ) :
    WM C A L (vS x) name σ Q := fun μ pl v' e => by
  obtain ⟨t, rfl⟩ := can_str e
  refine W_by fun s hs Q' q => ?_
  exact getMethod_builtin (T := "str") (typeIs_str _ _ _) PySem.F.plainAttrs_str slot ty (fun b eb => nomatch eb) (q (.builtin id, [.str x t]) μ _ _ ⟨rfl, h⟩ hs)
theorem upd_list {s : Shared} {a : Addr} {vs ws : List Value} {f : AO → Sg} {items items' : List Value} {n n' : Nat} {g : Obj → Obj} (hs : St C L μ σ s) (x : At σ a (.list vs) f) (e : s.heap.get? a = some ⟨.type "list", none, .seq items.toArray n, #[]⟩)
    (hg : g ⟨.type "list", none, .seq items.toArray n, #[]⟩ = ⟨.type "list", none, .seq items'.toArray n', #[]⟩) (hw : items'.map can = ws) {tk : Nat} : St C L μ (f (.list ws)) ⟨s.heap.update a g, s.gens, s.drawn, tk, s.os⟩ :=
  hs.upd x (Heap.SameBut.update ..) (by rw [Heap.get?_update_self _ e (by rw [hg]; rfl), hg]) (show Rep C.w.params (.list ws) _ from ⟨items', n', rfl, hw⟩)
theorem WC_append {a : Addr} {vs : List Value} {v : Value} {f : AO → Sg} (x : At σ a (.list vs) f) (hz : vs.length ≤ 1000000) (h : Q .none (f (.list (vs ++ [v])))) : WC C A L (.builtin "list.append") [.ref a, v] σ Q :=
  WC2 fun μ a' v' ea ev => WV_by fun s hs Q' q => by
    rw [can_ref ea]
    obtain ⟨items, n, e, hm⟩ := hs.list x
    have hl := map_len hm
    refine wpAny_call_entry slot_list_append ⟨_, e, rfl⟩ entry_list_append ?_ (args_list_append _ _)
    show wpAny _ _ (updateSeq a (·.push v') >>= fun _ => ret .none) _ _ s
    refine wpAny_bind (wpAny_updateSeq e rfl (wpAny_pure ⟨.none, rfl, q _ _ _ h (upd_list hs x e (items' := items ++ [v']) (n' := n + 1) (by rw [Obj.mapSeq_push_plain]; simp) (by subst hm; subst ev; simp))⟩) (hz := by simp only [List.size_toArray]; have := big_line; wtm_at "om"))
theorem WC_pop0 {a : Addr} {vs : List Value} {v : Value} {f : AO → Sg} (x : At σ a (.list (v :: vs)) f) (hz : vs.length ≤ 1000000) (h : Q v (f (.list vs))) : WC C A L (.builtin "list.pop") [.ref a, vI 0] σ Q :=
  WC2 fun μ a' i' ea ei => WV_by fun s hs Q' q => by
    rw [can_ref ea]
    obtain ⟨u, rfl⟩ := can_int ei
    obtain ⟨items, n, e, hm⟩ := hs.list x
    obtain ⟨v', r, rfl, rfl, hr⟩ := map_cons_inv hm
    have hl := map_len hr
    refine call_meets PySem.F.slot_list_pop ⟨_, e, rfl⟩ PySem.F.entry_list_pop (PySem.F.args_list_pop_2 _ _) (PySem.MeetsSeq.list_pop_at a _ n 0 u 0 v' (by decide) (by simp [seqIndex?]) (by simp) (by simp; have := big_line; wtm_at "om")) ⟨e, ?_⟩
    exact q _ _ _ h (upd_list hs x e (items' := r) (n' := n + 1) (by rw [mapSeq_erase _ _ _ (by simp)]; simp) hr)
theorem WC_popLast {a : Addr} {vs : List Value} {v : Value} {f : AO → Sg} (x : At σ a (.list (vs ++ [v])) f) (hz : vs.length ≤ 1000000) (h : Q v (f (.list vs))) : WC C A L (.builtin "list.pop") [.ref a] σ Q :=
  WC1 fun μ a' ea => WV_by fun s hs Q' q => by
    rw [can_ref ea]
    obtain ⟨items, n, e, hm⟩ := hs.list x
    obtain ⟨v', e1, rfl⟩ := map_get (i := vs.length) (x := v) hm (by simp)
    have hl := map_len hm
    simp only [List.length_append, List.length_cons, List.length_nil] at hl
    have hsz : items.toArray.size - 1 = vs.length := by simp only [List.size_toArray]; wtm_at "om"
    refine call_meets PySem.F.slot_list_pop ⟨_, e, rfl⟩ PySem.F.entry_list_pop (PySem.F.args_list_pop_1 _) (PySem.MeetsSeq.list_pop_last a _ n v' (by rw [hsz]; simpa using e1) (by simp; have := big_line; wtm_at "om")) ⟨e, ?_⟩
    rw [hsz]
    refine q _ _ _ h (upd_list hs x e (items' := items.eraseIdx vs.length) (n' := n + 1) (by rw [mapSeq_erase _ _ _ (by simp; wtm_at "om")]) ?_)
    rw [List.eraseIdx_eq_take_drop_succ, List.map_append, List.map_take, List.map_drop, hm]
    simp
theorem WC_extend {a b : Addr} {vs ws : List Value} {f g : AO → Sg} (x : At σ a (.list vs) f) (y : At σ b (.list ws) g) (hz : vs.length + ws.length ≤ 1000000) (h : Q .none (f (.list (vs ++ ws)))) : WC C A L (.builtin "list.extend") [.ref a, .ref b] σ Q :=
  WC2 fun μ a' b' ea eb => WV_by fun s hs Q' q => by
    rw [can_ref ea, can_ref eb]
    obtain ⟨items, n, e, hm⟩ := hs.list x
    obtain ⟨items2, n2, e2, hm2⟩ := hs.list y
    have hl := map_len hm
    have hl2 := map_len hm2
    have big := big_line
    have s1 : items.toArray.size + items2.toArray.size ≤ sizeLine := by simp only [List.size_toArray]; wtm_at "om"
    refine call_meets PySem.F.slot_list_extend ⟨_, e, rfl⟩ PySem.F.entry_list_extend (PySem.F.args_list_extend_2 _ _) (AutoSeq1.list_extend_list_list_0 a _ n b _ n2 (extend_door s1) (by wtm_at "om") (by wtm_at "om")) ⟨e, e2, ?_⟩
    exact q _ _ _ h (upd_list hs x e (items' := items ++ items2) (n' := if (items.toArray ++ items2.toArray).size == items.toArray.size then n else n + 1) (by rw [mapSeq_app]; simp) (by subst hm; subst hm2; simp))
theorem strs_of {items : List Value} : ∀ {xs : List Str}, items.map can = xs.map vS → StrsAre items xs := by
  induction items with
  | nil => intro xs h; cases xs with | nil => exact .nil | cons _ _ => cases h
  | cons a l ih =>
    intro xs h
    cases xs with
    | nil => cases h
    | cons x r =>
      simp only [List.map_cons, List.cons.injEq] at h
      obtain ⟨t, rfl⟩ := can_str h.1
      exact .cons x t (ih h.2)
theorem ints_of {items : List Value} : ∀ {xs : List Int}, items.map can = xs.map vI → IntsAre items xs := by
  induction items with
  | nil => intro xs h; cases xs with | nil => exact .nil | cons _ _ => cases h
  | cons a l ih =>
    intro xs h
    cases xs with
    | nil => cases h
    | cons x r =>
      simp only [List.map_cons, List.cons.injEq] at h
      obtain ⟨t, rfl⟩ := can_int h.1
      exact .cons x t (ih h.2)
theorem of_ints {vs : List Value} {ns : List Int} (h : IntsAre vs ns) : vs.map can = ns.map vI := by
  induction h with
  | nil => rfl
  | cons n t _ ih => simp [ih, can]
theorem of_strs {vs : List Value} {ns : List Str} (h : StrsAre vs ns) : vs.map can = ns.map vS := by
  induction h with
  | nil => rfl
  | cons n t _ ih => simp [ih, can]
theorem strs_vals {items : List Value} {xs : List Str} (h : StrsAre items xs) : ∃ l, items = strValues l ∧ l.map (·.1) = xs := by
  induction h with
  | nil => exact ⟨[], rfl, rfl⟩
  | cons y t _ ih => obtain ⟨l, rfl, rfl⟩ := ih; exact ⟨(y, t) :: l, rfl, rfl⟩
theorem WC_len_list {a : Addr} {vs : List Value} {f : AO → Sg} (x : At σ a (.list vs) f) (hz : vs.length ≤ 1000000) (h : Q (vI vs.length) σ) : WC C A L (.builtin "len") [.ref a] σ Q :=
  WC1 fun μ a' ea => WV_by fun s hs Q' q => by
    rw [can_ref ea]
    obtain ⟨items, n, e, hm⟩ := hs.list x
    have hl := map_len hm
    refine call_len_list ⟨_, e, rfl, n, rfl⟩ (by simp; wtm_at "om") (q _ _ _ ?_ hs.toks)
    show Q (vI _) σ
    simp only [List.size_toArray, hl]
    exact h
theorem T_list {a : Addr} {vs : List Value} {f : AO → Sg} {Q : Bool → Sg → Prop} (x : At σ a (.list vs) f) (hz : vs.length ≤ 1000000) (h : Q (!vs.isEmpty) σ) : W1 C A L truthy (.ref a) σ Q := fun μ a' ea => W_by fun s hs Q' q => by
  rw [can_ref ea]
  obtain ⟨items, n, e, hm⟩ := hs.list x
  have hl := map_len hm
  refine wpAny_truthy_list ⟨_, e, rfl, n, rfl⟩ (by simp; wtm_at "om") (q _ μ σ _ ⟨rfl, ?_⟩ hs.toks)
  have : items.toArray.isEmpty = vs.isEmpty := by subst hm; simp
  rw [this]
  exact h
theorem B_add_list {a b : Addr} {vs ws : List Value} {f g : AO → Sg} (x : At σ a (.list vs) f) (y : At σ b (.list ws) g) (hz : vs.length + ws.length ≤ 1000000) (h : ∀ c, Q (.ref c) ((c, .list (vs ++ ws)) :: σ)) : W2 C A L (binaryOp .Add) (.ref a) (.ref b) σ Q := fun μ a' b' ea eb => WV_by fun s hs Q' q => by
  rw [can_ref ea, can_ref eb]
  obtain ⟨m, news, F, k, N, R⟩ := hs.news
  obtain ⟨items, n, e, hm⟩ := hs.list x
  obtain ⟨items2, n2, e2, hm2⟩ := hs.list y
  have hl := map_len hm
  have hl2 := map_len hm2
  have big := big_line
  exact add_lists F N ⟨_, e, rfl, n, rfl⟩ ⟨_, e2, rfl, n2, rfl⟩ (fun h' F' N' => q _ _ _ (h _) (hs.grow F' k N R N' (Nat.le_refl _) ⟨items ++ items2, 0, rfl, by subst hm; subst hm2; simp⟩)) (by wtm_at "om")
theorem joined_eq (items : List Value) : ∀ (k : Nat) (acc : Array Value), (List.foldl (fun x1 x2 => x1 ++ x2) acc (List.replicate k items.toArray)).toList = acc.toList ++ (List.replicate k items).flatten
  | 0, acc => by simp
  | k + 1, acc => by rw [List.replicate_succ, List.foldl_cons, joined_eq items k, List.replicate_succ]; simp
theorem B_mul_list {a : Addr} {vs : List Value} {i : Int} {f : AO → Sg} (x : At σ a (.list vs) f) (h0 : 0 ≤ i) (h1 : i ≤ 1000) (hz : vs.length ≤ 1000) (h : ∀ c, Q (.ref c) ((c, .list (List.replicate i.toNat vs).flatten) :: σ)) : W2 C A L (binaryOp .Mult) (.ref a) (vI i) σ Q := fun μ a' b' ea eb => WV_by fun s hs Q' q => by
  rw [can_ref ea]
  obtain ⟨u, rfl⟩ := can_int eb
  obtain ⟨m, news, F, k, N, R⟩ := hs.news
  obtain ⟨items, n, e, hm⟩ := hs.list x
  have hl := map_len hm
  have hb : items.toArray.size * i.toNat ≤ 2 ^ 24 := by
    have h1 : items.toArray.size ≤ 1000 := by simp only [List.size_toArray]; wtm_at "om"
    have h2 : i.toNat ≤ 1000 := by wtm_at "om"
    exact Nat.le_trans (Nat.mul_le_mul h1 h2) (by decide)
  refine mul_list F N e (by wtm_at "om") (by wtm_at "om") hb (fun h' F' N' => q _ _ _ (h _) (hs.grow F' k N R N' (Nat.le_refl _) ⟨(List.replicate i.toNat items).flatten, 0, ?_, by subst hm; simp⟩))
  congr 2
  apply Array.toList_inj.mp
  rw [joined_eq]
  by_cases hi : items = []
  · subst hi; simp
  · simp [hi]
theorem WC_index {a : Addr} {xs : List Str} {y : Str} {f : AO → Sg} (x : At σ a (.list (xs.map vS)) f) (hy : y ∈ xs) (hz : xs.length ≤ 1000000) (h : Q (vI (xs.idxOf y)) σ) : WC C A L (.builtin "list.index") [.ref a, vS y] σ Q :=
  WC2 fun μ a' b' ea eb => WV_by fun s hs Q' q => by
    rw [can_ref ea]
    obtain ⟨u, rfl⟩ := can_str eb
    obtain ⟨items, n, e, hm⟩ := hs.list x
    have hS := strs_of hm
    have hlen : items.length = xs.length := by have := map_len hm; simpa using this
    have hj : xs.idxOf y < xs.length := List.idxOf_lt_length_iff.mpr hy
    have get : ∀ (j : Nat) (h1 : j < items.toArray.size) (h2 : j < xs.length), isStrOf y items.toArray[j] = (xs[j] == y) := by
      intro j h1 h2
      have e0 : (items.map can)[j]? = (xs.map vS)[j]? := by rw [hm]
      have h1' : j < items.length := by simpa using h1
      rw [List.getElem?_map, List.getElem?_map, List.getElem?_eq_getElem h1', List.getElem?_eq_getElem h2] at e0
      simp only [Option.map_some, Option.some.injEq] at e0
      obtain ⟨t, et⟩ := can_str e0
      simp only [List.getElem_toArray]
      rw [et]; rfl
    refine call_meets PySem.F.slot_list_index ⟨_, e, rfl⟩ PySem.F.entry_list_index (PySem.F.args_list_index_2 _ _)
      (PySem.MeetsSeq.list_index a _ n (.str y u) (isStrOf y) (fun v hv => eq_isStrOf y u hS v (by simpa using hv)) (xs.idxOf y) (by simp; wtm_at "om") (by wtm_at "om") ?_ ?_) ⟨e, q _ _ _ h hs.toks⟩
    · rw [get _ _ hj]; simp
    · intro m hm1 hm2
      rw [get _ _ (by wtm_at "om")]
      have := List.not_of_lt_findIdx (p := (· == y)) (xs := xs) hm2
      simpa using this
theorem WC_count {a : Addr} {xs : List Int} {y : Int} {f : AO → Sg} (x : At σ a (.list (xs.map vI)) f) (h : Q (vI (xs.count y)) σ) : WC C A L (.builtin "list.count") [.ref a, vI y] σ Q :=
  WC2 fun μ a' b' ea eb => WV_by fun s hs Q' q => by
    rw [can_ref ea]
    obtain ⟨u, rfl⟩ := can_int eb
    obtain ⟨items, n, e, hm⟩ := hs.list x
    let e0 : Value → Bool := fun v => can v == vI y
    have hI := ints_of hm
    have key : ∀ {vs : List Value} {ns : List Int}, IntsAre vs ns → (∀ v ∈ vs, PySem.MeetsSeq.EqGives v (.int y u) (match v with | .int i _ => i == y | _ => false)) ∧ vs.countP (fun v => match v with | .int i _ => i == y | _ => false) = ns.count y := by
      intro vs ns h
      induction h with
      | nil => exact ⟨(fun _ h => nomatch h), rfl⟩
      | cons n t _ ih =>
        refine ⟨fun v hv => ?_, ?_⟩
        · rcases List.mem_cons.mp hv with rfl | hv
          · exact PySem.MeetsSeq.EqGives.int n y t u
          · exact ih.1 v hv
        · rw [List.countP_cons, List.count_cons, ih.2]
    obtain ⟨k1, k2⟩ := key hI
    refine call_meets PySem.F.slot_list_count ⟨_, e, rfl⟩ PySem.F.entry_list_count (PySem.F.args_list_count_2 _ _)
      (PySem.MeetsSeq.list_count a _ n (.int y u) _ (fun v hv => k1 v (by simpa using hv))) ⟨e, ?_⟩
    refine q _ _ _ ?_ hs.toks
    show Q (vI _) σ
    simp only [k2]
    exact h
/- a thing that is no object -/
noncomputable def Flat (v : Value) : Prop := (∃ i, v = vI i) ∨ ∃ x, v = vS x
theorem eqAt_same {A : Around} {s : Shared} {v w x : Value} (hv : can v = x) (hw : can w = x) (h : Flat x) : EqAt A s v w true := by
  rcases h with ⟨i, rfl⟩ | ⟨i, rfl⟩
  · obtain ⟨t, rfl⟩ := can_int hv
    obtain ⟨u, rfl⟩ := can_int hw
    exact beq_self_eq_true i ▸ EqAt.int_int _ _ _ _
  · obtain ⟨t, rfl⟩ := can_str hv
    obtain ⟨u, rfl⟩ := can_str hw
    exact beq_self_eq_true i ▸ EqAt.str_str _ _ _ _
theorem list_eqs {s : Shared} {a b : Addr} {vs : List Value} {f g : AO → Sg} {A' : Around} (hs : St C L μ σ s) (x : At σ a (.list vs) f) (y : At σ b (.list vs) g) (h : ∀ v ∈ vs, Flat v) :
    ∃ items items2 : Array Value, s.heap.IsList a items ∧ s.heap.IsList b items2 ∧ items.size = items2.size ∧ ∀ j (h1 : j < items.size) (h2 : j < items2.size), EqAt A' s items[j] items2[j] true := by
  obtain ⟨items, n, e, hm⟩ := hs.list x
  obtain ⟨items2, n2, e2, hm2⟩ := hs.list y
  have hl := map_len hm
  have hl2 := map_len hm2
  refine ⟨_, _, ⟨_, e, rfl, n, rfl⟩, ⟨_, e2, rfl, n2, rfl⟩, hl.trans hl2.symm, fun j g1 g2 => ?_⟩
  have g3 : j < vs.length := Nat.lt_of_lt_of_eq g1 hl
  refine eqAt_same (x := vs[j]) ?_ ?_ (h _ (List.getElem_mem _))
  · subst hm; simp
  · subst hm2; simp
theorem all_true (n : Nat) : ((List.range n).all fun _ => true) = true := List.all_eq_true.mpr fun _ _ => rfl
theorem C_eqL {n : Nat} {a b : Addr} {vs : List Value} {f g : AO → Sg} (rm : Room A n) (x : At σ a (.list vs) f) (y : At σ b (.list vs) g) (hc : ∀ v ∈ vs, Flat v) (h : Q (.bool true) σ) : W2 C A L (compareOp .Eq) (.ref a) (.ref b) σ Q := fun μ a' b' ea eb => WV_by fun s hs Q' q => by
  rw [can_ref ea, can_ref eb]
  obtain ⟨items, items2, e, e2, hl, h3⟩ := list_eqs (A' := A.in1) hs x y hc
  exact RcAt.lists (e := fun _ => true) e e2 hl rm.units h3 _ _ _ _ (q _ _ _ (by rw [all_true]; exact h) hs)
theorem C_neL {n : Nat} {a b : Addr} {vs : List Value} {f g : AO → Sg} (rm : Room A n) (x : At σ a (.list vs) f) (y : At σ b (.list vs) g) (hc : ∀ v ∈ vs, Flat v) (h : Q (.bool (!true)) σ) : W2 C A L (compareOp .NotEq) (.ref a) (.ref b) σ Q := fun μ a' b' ea eb => WV_by fun s hs Q' q => by
  rw [can_ref ea, can_ref eb]
  obtain ⟨items, items2, e, e2, hl, h3⟩ := list_eqs (A' := A.in1) hs x y hc
  exact RcNeAt.lists (e := fun _ => true) e e2 hl rm.units h3 _ _ _ _ (q _ _ _ (by rw [all_true]; exact h) hs)
end
/- o i is an iterator that stands ahead of the i-th of vs -/
structure Walk (vs : List Value) (o : Nat → AO) (H : Sg → Prop) : Prop where
  item : ∀ {C : Cx} {A : Around} {L : Addr} {μ : Mu} {σ : Sg} {i : Nat} {x : Value} {it : Addr} {f : AO → Sg}, vs[i]? = some x → At σ it (o i) f → H σ →
    W C A L (pyNext (.ref it)) μ σ (fun r μ' σ' => μ' = μ ∧ r.map can = some x ∧ σ' = f (o (i + 1)))
  fin : ∀ {C : Cx} {A : Around} {L : Addr} {μ : Mu} {σ r : Sg} {it : Addr} {f : AO → Sg}, A.handled = none → At σ it (o vs.length) f → Pull σ it (o vs.length) r → H σ →
    W C A L (pyNext (.ref it)) μ σ (fun r' μ' σ' => μ' = μ ∧ r' = none ∧ σ' = r)
  again : ∀ {C : Cx} {A : Around} {L : Addr} {μ : Mu} {σ : Sg} {i : Nat} {it : Addr} {f : AO → Sg}, At σ it (o i) f → W C A L (pyIter (.ref it)) μ σ (fun r μ' σ' => μ' = μ ∧ r = .ref it ∧ σ' = σ)
  more : ∀ {σ : Sg} {p : Addr × AO}, H σ → H (p :: σ)
noncomputable def ItS (C : Cx) (A : Around) (v : Value) (vs : List Value) (H : Sg → Prop) (σ : Sg) : Prop :=
  ∀ L μ v', can v' = v → W C A L (pyIter v') μ σ (fun r μ' σ' => μ' = μ ∧ ∃ it o, r = .ref it ∧ Walk vs o H ∧ σ' = (it, o 0) :: σ)
section
variable {C : Cx} {A : Around} {L : Addr} {μ : Mu} {σ : Sg} {env : Env}
theorem Pull.at {r : Sg} {a : Addr} {o : AO} (h : Pull σ a o r) : ∃ f, At σ a o f := by
  induction h with
  | here => exact ⟨_, .here⟩
  | there _ ih => obtain ⟨f, h⟩ := ih; exact ⟨_, .there h⟩
theorem St.obj {s : Shared} {a : Addr} {ob : Obj} {f : AO → Sg} (hs : St C L μ σ s) (x : At σ a (.obj ob) f) : s.heap.get? a = some ob := by
  obtain ⟨o, e, h⟩ := hs.at x
  have h : o = ob := h
  rw [h] at e; exact e
/- an object goes out of sight -/
theorem St.out {s : Shared} {a : Addr} {o : AO} {r : Sg} {h' : Heap} (hs : St C L μ σ s) (x : Pull σ a o r) (e : Heap.ExtBut a s.heap h') {tk : Nat} : St C L μ r ⟨h', s.gens, s.drawn, tk, s.os⟩ := by
  have nd := (x.perm.map (·.1)).nodup_iff.mpr hs.nd
  obtain ⟨f, hat⟩ := x.at
  obtain ⟨k1, k2, _⟩ := hs.ob _ hat.mem
  refine ⟨let ⟨m, F, k⟩ := hs.fr; ⟨m, ⟨F.ns.extBut e (Ne.symm k1), fun b o q => e b o (fun z => by subst z; rw [k2] at q; cases q) (F.keep b o q), F.above⟩, k⟩, fun p hp => ?_, (List.nodup_cons.mp nd).2, hs.fx⟩
  obtain ⟨j1, j2, ob, j3, j4⟩ := hs.ob p (x.perm.subset (.tail _ hp))
  refine ⟨j1, j2, ob, e _ _ (fun z => ?_) j3, j4⟩
  exact (List.nodup_cons.mp nd).1 (List.mem_map.mpr ⟨p, hp, z⟩)
theorem St.setObj {s : Shared} {a : Addr} {o o' : AO} {f : AO → Sg} {h' : Heap} {ob' : Obj} (hs : St C L μ σ s) (x : At σ a o f) (e : Heap.SameBut a s.heap h') (hg : h'.get? a = some ob') (hr : Rep C.w.params o' ob') {tk : Nat} :
    St C L μ (f o') ⟨h', s.gens, s.drawn, tk, s.os⟩ := hs.upd x e hg hr
theorem St.updEx {s : Shared} {a : Addr} {o : AO} {ty : String} {vs : Array Value} {f : AO → Sg} {h' : Heap} {ob' : Obj} (hs : St C L μ σ s) (x : At σ a o f) (e : Heap.SameBut a s.heap h') (hg : h'.get? a = some ob') (h1 : ob'.cls = .type ty) (h2 : ob'.data = .fields vs) {tk : Nat} :
    St C L μ (f (.ex ty vs)) ⟨h', s.gens, s.drawn, tk, s.os⟩ := hs.upd x e hg (show Rep _ (.ex ty vs) _ from ⟨h1, h2⟩)
theorem range_get {n i : Nat} {β : Type} {g : Nat → β} {v : β} (h : ((List.range n).map g)[i]? = some v) : i < n ∧ v = g i := by
  by_cases hlt : i < n
  · rw [List.getElem?_map, List.getElem?_range hlt] at h
    exact ⟨hlt, (Option.some.inj h).symm⟩
  · rw [List.getElem?_eq_none (by simpa using hlt)] at h
    cases h
theorem Walk_list (a : Addr) (vs : List Value) : Walk vs (fun i => .ex "list_iterator" #[.ref a, .int i 0]) (fun σ => ∃ g, At σ a (.list vs) g) where
  item := fun {C A L μ σ i x it f} hx h1 ⟨g, h2⟩ => W_by fun s hs Q' q => by
    obtain ⟨ob, e, hc, hd⟩ := hs.at h1
    obtain ⟨items, n, e2, hm⟩ := hs.list h2
    obtain ⟨x', e3, rfl⟩ := map_get hm hx
    exact wpAny_pyNext_list_item ⟨ob, e, hc, hd⟩ ⟨_, e2, rfl, n, rfl⟩ (by simpa using e3) fun h' ⟨o', g1, g2, g3⟩ hsb => q _ _ _ _ ⟨rfl, rfl, rfl⟩ (hs.updEx h1 hsb g1 g2 g3)
  fin := fun {C A L μ σ r it f} hh h1 hp ⟨g, h2⟩ => W_by fun s hs Q' q => by
    obtain ⟨ob, e, hc, hd⟩ := hs.at h1
    obtain ⟨items, n, e2, hm⟩ := hs.list h2
    have hl := map_len hm
    exact wpAny_pyNext_list_end hh ⟨ob, e, hc, hd⟩ ⟨_, e2, rfl, n, rfl⟩ (by simp [hl]) fun h' hsb => q _ _ _ _ ⟨rfl, rfl, rfl⟩ (hs.out hp hsb)
  again := fun {C A L μ σ i it f} h1 => W_by fun s hs Q' q => by
    obtain ⟨ob, e, hc, hd⟩ := hs.at h1
    exact wpAny_pyIter_listiter ⟨ob, e, hc, hd⟩ (q _ _ _ _ ⟨rfl, rfl, rfl⟩ hs)
  more := fun ⟨g, h⟩ => ⟨_, .there h⟩
theorem ItS_list {a : Addr} {vs : List Value} {f : AO → Sg} (x : At σ a (.list vs) f) : ItS C A (.ref a) vs (fun σ => ∃ g, At σ a (.list vs) g) σ := fun L μ v' e => W_by fun s hs Q' q => by
  rw [can_ref e]
  obtain ⟨items, n, e2, hm⟩ := hs.list x
  exact wpAny_pyIter_list ⟨_, e2, rfl, n, rfl⟩ (q _ _ _ _ ⟨rfl, _, _, rfl, Walk_list a vs, rfl⟩ (hs.push ⟨rfl, rfl⟩ rfl))
/- the signs of a text -/
noncomputable def chars (x : Str) : List Value := x.cps.toList.map fun c => vS ⟨#[c]⟩
theorem chars_get {x : Str} {i : Nat} {v : Value} (h : (chars x)[i]? = some v) : ∃ c, x.cps[i]? = some c ∧ v = vS ⟨#[c]⟩ := by
  unfold chars at h
  rw [List.getElem?_map] at h
  obtain ⟨c, h1, h2⟩ := Option.map_eq_some_iff.mp h
  exact ⟨c, by simpa using h1, h2.symm⟩
theorem Walk_ascii (x : Str) (t : Tok) : Walk (chars x) (fun i => .ex "str_ascii_iterator" #[.str x t, .int i 0]) (fun _ => True) where
  item := fun {C A L μ σ i v it f} hx h1 _ => W_by fun s hs Q' q => by
    obtain ⟨ob, e, hc, hd⟩ := hs.at h1
    obtain ⟨c, hc', rfl⟩ := chars_get hx
    exact wpAny_pyNext_ascii_item ⟨ob, e, hc, hd⟩ hc' fun h' ⟨o', g1, g2, g3⟩ hsb => q _ _ _ _ ⟨rfl, rfl, rfl⟩ (hs.updEx h1 hsb g1 g2 g3)
  fin := fun {C A L μ σ r it f} hh h1 hp _ => W_by fun s hs Q' q => by
    obtain ⟨ob, e, hc, hd⟩ := hs.at h1
    exact wpAny_pyNext_ascii_end hh ⟨ob, e, hc, hd⟩ (by simp [chars]) fun h' hsb => q _ _ _ _ ⟨rfl, rfl, rfl⟩ (hs.out hp hsb)
  again := fun {C A L μ σ i it f} h1 => W_by fun s hs Q' q => by
    obtain ⟨ob, e, hc, hd⟩ := hs.at h1
    exact wpAny_pyIter_striter_ascii ⟨ob, e, hc, hd⟩ (q _ _ _ _ ⟨rfl, rfl, rfl⟩ hs)
  more := fun h => h
theorem Walk_wide (x : Str) (t : Tok) : Walk (chars x) (fun i => .ex "str_iterator" #[.str x t, .int i 0]) (fun _ => True) where
  item := fun {C A L μ σ i v it f} hx h1 _ => W_by fun s hs Q' q => by
    obtain ⟨ob, e, hc, hd⟩ := hs.at h1
    obtain ⟨c, hc', rfl⟩ := chars_get hx
    exact wpAny_pyNext_wide_item ⟨ob, e, hc, hd⟩ hc' fun h' ⟨o', g1, g2, g3⟩ hsb => q _ _ _ _ ⟨rfl, rfl, rfl⟩ (hs.updEx h1 hsb g1 g2 g3)
  fin := fun {C A L μ σ r it f} hh h1 hp _ => W_by fun s hs Q' q => by
    obtain ⟨ob, e, hc, hd⟩ := hs.at h1
    exact wpAny_pyNext_wide_end hh ⟨ob, e, hc, hd⟩ (by simp [chars]) fun h' hsb => q _ _ _ _ ⟨rfl, rfl, rfl⟩ (hs.out hp hsb)
  again := fun {C A L μ σ i it f} h1 => W_by fun s hs Q' q => by
    obtain ⟨ob, e, hc, hd⟩ := hs.at h1
    exact wpAny_pyIter_striter_wide ⟨ob, e, hc, hd⟩ (q _ _ _ _ ⟨rfl, rfl, rfl⟩ hs)
  more := fun h => h
theorem ItS_str {x : Str} : ItS C A (vS x) (chars x) (fun _ => True) σ := fun L μ v' e => W_by fun s hs Q' q => by
  obtain ⟨t, rfl⟩ := can_str e
  cases ha : x.cps.all (· < 128) with
  | true => exact wpAny_pyIter_ascii ha (q _ _ _ _ ⟨rfl, _, _, rfl, Walk_ascii x t, rfl⟩ (hs.push ⟨rfl, rfl⟩ rfl))
  | false => exact wpAny_pyIter_wide ha (q _ _ _ _ ⟨rfl, _, _, rfl, Walk_wide x t, rfl⟩ (hs.push ⟨rfl, rfl⟩ rfl))
theorem Walk_range (a : Int) (n : Nat) : Walk ((List.range n).map fun (i : Nat) => vI (a + i)) (fun i => .obj ⟨.type "range_iterator", none, .fields #[rawInt (a + i), rawInt ((n : Int) - i), rawInt 1], #[]⟩) (fun _ => True) where
  item := fun {C A L μ σ i v it f} hx h1 _ => W_by fun s hs Q' q => by
    have e := hs.obj h1
    obtain ⟨hlt, rfl⟩ := range_get hx
    refine wpAny_pyNext_range_item e (by wtm_at "om") fun h' g1 hsb => q _ _ _ _ ⟨rfl, rfl, rfl⟩ (hs.upd h1 hsb g1 ?_)
    show _ = _
    rw [show a + (i : Int) + 1 = a + ((i + 1 : Nat) : Int) by push_cast; wtm_at "om", show (n : Int) - (i : Int) - 1 = (n : Int) - ((i + 1 : Nat) : Int) by push_cast; wtm_at "om"]
  fin := fun {C A L μ σ r it f} hh h1 hp _ => W_by fun s hs Q' q => by
    have e := hs.obj h1
    exact wpAny_pyNext_range_end hh e (by simp) fun h' hsb => q _ _ _ _ ⟨rfl, rfl, rfl⟩ (hs.out hp hsb)
  again := fun {C A L μ σ i it f} h1 => W_by fun s hs Q' q => by
    have e := hs.obj h1
    exact wpAny_pyIter_rangeiter e (q _ _ _ _ ⟨rfl, rfl, rfl⟩ hs)
  more := fun h => h
end
/- a target takes a value -/
noncomputable def WTg (C : Cx) (A : Around) (env : Env) (target : Expr) (μ : Mu) (σ : Sg) (v : Value) (Q : Mu → Sg → Prop) : Prop := ∀ v', can v' = v → W C A env.locals (assign target env v') μ σ (fun _ μ' σ' => Q μ' σ')
noncomputable def LeM (μ' μ : Mu) : Prop := ∀ x v, μ'.lookup x = some v → μ.lookup x = some v
theorem LeM.refl {μ : Mu} : LeM μ μ := fun _ _ h => h
theorem LeM.nil {μ : Mu} : LeM [] μ := fun _ _ h => nomatch h
/- the end of a loop's turn -/
noncomputable def Turn (it : Addr) (o : AO) (J : Mu → Sg → Prop) (Q : Flow → Mu → Sg → Prop) : Flow → Mu → Sg → Prop
  | .next, μ, σ => ∃ μ' τ, LeM μ' μ ∧ Sub ((it, o) :: τ) σ ∧ J μ' τ
  | .cont, μ, σ => ∃ μ' τ, LeM μ' μ ∧ Sub ((it, o) :: τ) σ ∧ J μ' τ
  | .brk, μ, σ => Q .next μ σ
  | .ret v, μ, σ => Q (.ret v) μ σ
/- the end of a while's turn -/
noncomputable def WTurn (J : Nat → Mu → Sg → Prop) (Q : Flow → Mu → Sg → Prop) (n : Nat) : Flow → Mu → Sg → Prop
  | .next, μ, σ => ∃ m μ' τ, m < n ∧ LeM μ' μ ∧ Sub τ σ ∧ J m μ' τ
  | .cont, μ, σ => ∃ m μ' τ, m < n ∧ LeM μ' μ ∧ Sub τ σ ∧ J m μ' τ
  | .brk, μ, σ => Q .next μ σ
  | .ret v, μ, σ => Q (.ret v) μ σ
section
variable {C : Cx} {A : Around} {L : Addr} {μ : Mu} {σ : Sg} {env : Env}
theorem WTg_name {x : Str} {p : Pos} {v : Value} {Q : Mu → Sg → Prop} (h : Binds C A env x μ σ v Q) : WTg C A env (.Name x p) μ σ v Q := fun v' e s hs => wpAny_assign_Name (h v' e s hs)
theorem W_forLoop {target : Expr} {it : Addr} {body orelse : List Stmt} {vs : List Value} {o : Nat → AO} {H : Sg → Prop} {J : Nat → Mu → Sg → Prop} {Q : Flow → Mu → Sg → Prop} {n : Nat} (r : Room A n) (K : Walk vs o H)
    (hat : ∀ i μ σ, J i μ σ → H σ)
    (step : ∀ i x μ σ, vs[i]? = some x → J i μ σ → WTg C A env target μ ((it, o (i + 1)) :: σ) x (fun μ2 σ2 => WB C A env body μ2 σ2 (Turn it (o (i + 1)) (J (i + 1)) Q)))
    (done : ∀ μ σ, J vs.length μ σ → WB C A env orelse μ σ Q) (h : J 0 μ σ) {s : Shared} (hs : St C env.locals μ ((it, o 0) :: σ) s)
    (ht : ∀ v, letOwnedTupleGo target (.ref it) v = pure () := by intro _; rfl) {E : Value → Shared → Prop} :
    codeAny (model C.prog C.w) A (.forLoop target (.ref it) body orelse env) (fun r s' => match r with | .ok f => ∃ μ' σ', Q (canF f) μ' σ' ∧ St C env.locals μ' σ' s' | .error e => E e s') s := by
  refine codeAny_forLoop (fun n s => ∃ i μ σ, n + i = vs.length ∧ J i μ σ ∧ St C env.locals μ ((it, o i) :: σ) s) (fun n s hI => ?_) vs.length ⟨0, μ, σ, by wtm_at "om", h, hs⟩ ht
  obtain ⟨i, μ, σ, hn, hj, hs⟩ := hI
  by_cases hi : i < vs.length
  · have hx : vs[i]? = some vs[i] := List.getElem?_eq_getElem hi
    refine wpAny_mono (K.item hx .here (K.more (hat _ _ _ hj)) s hs) (fun r s1 h1 => ?_) fun _ _ x => x.elim
    obtain ⟨μ1, σ1, ⟨rfl, hr, rfl⟩, st⟩ := h1
    obtain ⟨v, rfl, hv⟩ := Option.map_eq_some_iff.mp hr
    refine wpAny_mono (step i _ μ1 σ hx hj v hv s1 st) (fun _ s2 h2 => ?_) fun _ _ x => x.elim
    obtain ⟨μ2, σ2, h2, st2⟩ := h2
    refine wpAny_mono (h2 s2 st2) (fun f s3 h3 => ?_) fun _ _ x => x.elim
    obtain ⟨μ3, σ3, h3, st3⟩ := h3
    cases f with
    | next => obtain ⟨μ', τ, a, b, c⟩ := h3; exact ⟨n - 1, by wtm_at "om", i + 1, μ', τ, by wtm_at "om", c, st3.sub2 a b⟩
    | cont => obtain ⟨μ', τ, a, b, c⟩ := h3; exact ⟨n - 1, by wtm_at "om", i + 1, μ', τ, by wtm_at "om", c, st3.sub2 a b⟩
    | brk => exact ⟨_, _, h3, st3⟩
    | ret v => exact ⟨_, _, h3, st3⟩
  · have hi : i = vs.length := by wtm_at "om"
    subst hi
    refine wpAny_mono (K.fin r.hh .here .here (K.more (hat _ _ _ hj)) s hs) (fun r s1 h1 => ?_) fun _ _ x => x.elim
    obtain ⟨μ1, σ1, ⟨rfl, rfl, rfl⟩, st⟩ := h1
    exact wpAny_mono (done _ _ hj s1 st) (fun f s3 h3 => h3) fun _ _ x => x.elim
theorem WS_For {target iter : Expr} {body orelse : List Stmt} {pos : Pos} {vs : List Value} {H : Sg → Prop} {J : Nat → Mu → Sg → Prop} {Q : Flow → Mu → Sg → Prop} {n : Nat} (r : Room A n)
    (hiter : WE C A env iter μ σ (fun v σ1 => ItS C A v vs H σ1 ∧ J 0 μ σ1)) (hat : ∀ i μ σ, J i μ σ → H σ)
    (step : ∀ i x it (o : AO) μ σ, vs[i]? = some x → J i μ σ → WTg C A env target μ ((it, o) :: σ) x (fun μ2 σ2 => WB C A env body μ2 σ2 (Turn it o (J (i + 1)) Q)))
    (done : ∀ μ σ, J vs.length μ σ → WB C A env orelse μ σ Q) (hf : ∀ x, foldedSetIterable iter env x = pure x := by intro _; rfl)
    (ht : ∀ it v, letOwnedTupleGo target (.ref it) v = pure () := by intro _ _; rfl) : WS C A env (.For target iter body orelse pos) μ σ Q := fun s hs => by
  refine wpAny_For (wpAny_mono (hiter s hs) (fun v s1 h1 => ?_) fun _ _ x => x.elim) hf
  obtain ⟨μ1, σ1, ⟨rfl, hit, hj⟩, st⟩ := h1
  refine wpAny_mono (hit _ _ v rfl s1 st) (fun r' s2 h2 => ?_) fun _ _ x => x.elim
  obtain ⟨μ2, σ2, ⟨rfl, it, o, rfl, K, rfl⟩, st2⟩ := h2
  exact W_forLoop r K hat (fun i x μ σ hx hj => step i x it _ μ σ hx hj) done hj st2 (ht it)
theorem WS_While {test : Expr} {body orelse : List Stmt} {pos : Pos} {Q : Flow → Mu → Sg → Prop} (J : Nat → Mu → Sg → Prop) (n : Nat) (h : J n μ σ)
    (step : ∀ n μ σ, J n μ σ → WT C A env test μ σ (fun b σ1 => Br b
      (WB C A env body μ σ1 (WTurn J Q n))
      (WB C A env orelse μ σ1 Q))) : WS C A env (.While test body orelse pos) μ σ Q := fun s hs => by
  refine wpAny_While (codeAny_mono (codeAny_whileLoop (R := fun r s' => match r with | .ok f => ∃ μ' σ', Q (canF f) μ' σ' ∧ St C env.locals μ' σ' s' | .error e => False) (fun n s => ∃ μ σ, J n μ σ ∧ St C env.locals μ σ s) (fun n s hI => ?_) n ⟨μ, σ, h, hs⟩) fun r s' h => ?_)
  · obtain ⟨μ, σ, hj, hs⟩ := hI
    refine wpAny_mono (step n μ σ hj s hs) (fun b s1 h1 => ?_) fun _ _ x => x.elim
    obtain ⟨μ1, σ1, ⟨rfl, h1⟩, st⟩ := h1
    cases b with
    | true =>
      refine wpAny_mono (h1.1 rfl s1 st) (fun f s3 h3 => ?_) fun _ _ x => x.elim
      obtain ⟨μ3, σ3, h3, st3⟩ := h3
      cases f with
      | next => obtain ⟨m, μ', τ, l, a, b, c⟩ := h3; exact ⟨m, l, μ', τ, c, st3.sub2 a b⟩
      | cont => obtain ⟨m, μ', τ, l, a, b, c⟩ := h3; exact ⟨m, l, μ', τ, c, st3.sub2 a b⟩
      | brk => exact ⟨_, _, h3, st3⟩
      | ret v => exact ⟨_, _, h3, st3⟩
    | false => exact wpAny_mono (h1.2 rfl s1 st) (fun f s3 h3 => h3) fun _ _ x => x.elim
  · cases r with
    | ok f => exact h
    | error e => exact h.elim
/- all the tests of a comprehension -/
noncomputable def WIfs (C : Cx) (A : Around) (env : Env) : List Expr → Mu → Sg → (Bool → Sg → Prop) → Prop
  | [], _, σ, Q => Q true σ
  | [c], μ, σ, Q => WT C A env c μ σ Q
  | _, _, _, _ => False
/- a comprehension's turn ends -/
noncomputable def CTurn (it D : Addr) (o : AO) (ys : List Value) (J : List Value → Sg → Prop) (σ : Sg) : Prop := ∃ τ, Sub ((it, o) :: (D, .list ys) :: τ) σ ∧ ys.length ≤ 1000000 ∧ J ys τ
theorem St.fresh {s : Shared} (hs : St C L μ σ s) {a : Addr} (ha : s.heap.get? a = none) : a ≠ L ∧ a ∉ σ.map (·.1) ∧ C.h₀.get? a = none := by
  refine ⟨fun e => ?_, fun hm => ?_, ?_⟩
  · obtain ⟨m, F, _⟩ := hs.fr
    obtain ⟨o, _, _, h, _⟩ := F.ns
    rw [e, h] at ha; cases ha
  · obtain ⟨p, hp, e⟩ := List.mem_map.mp hm
    obtain ⟨_, _, ob, h, _⟩ := hs.ob p hp
    rw [e, ha] at h; cases h
  · cases q : C.h₀.get? a with
    | none => rfl
    | some o => rw [hs.keep _ _ q] at ha; cases ha
/- what nobody tells of may be turned -/
theorem St.but {s : Shared} {a : Addr} {h' : Heap} {tk : Nat} (hs : St C L μ σ s) (hb : Heap.SameBut a s.heap h') (h1 : a ≠ L) (h2 : a ∉ σ.map (·.1)) (h3 : C.h₀.get? a = none) : St C L μ σ ⟨h', s.gens, s.drawn, tk, s.os⟩ := by
  refine ⟨let ⟨m, F, k⟩ := hs.fr; ⟨m, Fr.changes F hb h1 h3, k⟩, fun p hp => ?_, hs.nd, hs.fx⟩
  obtain ⟨j1, j2, ob, j3, j4⟩ := hs.ob p hp
  exact ⟨j1, j2, ob, (hb.2 _ fun z => h2 (List.mem_map.mpr ⟨p, hp, z⟩)).trans j3, j4⟩
section
variable {elt target iter : Expr} {ifs : List Expr} {scope : Scope} {pos : Pos} {cl : List (Str × Addr)} {vs : List Value} {H : Sg → Prop} {J : Nat → List Value → Sg → Prop}
/- what a comprehension's turn does -/
noncomputable def CStep (C : Cx) (A : Around) (env : Env) (scope : Scope) (cl : List (Str × Addr)) (target : Expr) (ifs : List Expr) (elt : Expr) (vs : List Value) (J : Nat → List Value → Sg → Prop) : Prop :=
  ∀ C' L' i x ys it D (o : AO) σ, C.Le C' → vs[i]? = some x → J i ys σ → ys.length ≤ 1000000 →
    WTg C' A (compEnvC scope cl L' env) target [] ((it, o) :: (D, .list ys) :: σ) x (fun μ2 σ2 =>
      WIfs C' A (compEnvC scope cl L' env) ifs μ2 σ2 (fun b σ3 => Br b
        (WE C' A (compEnvC scope cl L' env) elt μ2 σ3 (fun y σ4 => ∃ τ, Sub ((it, o) :: (D, .list ys) :: τ) σ4 ∧ (ys ++ [y]).length ≤ 1000000 ∧ J (i + 1) (ys ++ [y]) τ))
        (CTurn it D o ys (J (i + 1)) σ3)))
theorem tests_run {C' : Cx} {env : Env} {μ : Mu} {σ : Sg} {Q : Bool → Sg → Prop} (h : WIfs C' A env ifs μ σ Q) : W C' A env.locals (forIn ifs true fun c r => if r = true then do let ok ← isTrue c env (eval c env); pure (ForInStep.yield ok) else pure (ForInStep.yield r)) μ σ (fun b μ' σ' => μ' = μ ∧ Q b σ') := by
  match ifs, h with
  | [], h => exact fun s hs => wpAny_tests_nil ⟨_, _, ⟨rfl, h⟩, hs⟩
  | [c], h => exact fun s hs => wpAny_tests_one (h s hs)
theorem W_compLoop {C' : Cx} {L' it D : Addr} {o : Nat → AO} {n : Nat} {R : Result → Shared → Prop} (r : Room A n) (l : C.Le C') (K : Walk vs o H) (hat : ∀ i ys σ, J i ys σ → H σ) (step : CStep C A env scope cl target ifs elt vs J)
    (hj : J 0 [] σ) {s : Shared} (hs : St C' L' [] ((it, o 0) :: (D, .list []) :: σ) s) (done : ∀ ys σ' s', J vs.length ys σ' → ys.length ≤ 1000000 → St C' L' [] ((D, .list ys) :: σ') s' → R (.ok .next) s')
    (ht : ∀ v, letOwnedTupleGo target (.ref it) v = pure () := by intro _; rfl) :
    codeAny (model C.prog C.w) A (.compLoop (.ListComp elt [⟨target, iter, ifs, 0⟩] scope pos) 0 (.ref it) (.ref D) (compEnvC scope cl L' env)) R s := by
  rw [← l.prog, ← l.w]
  refine codeAny_compLoop_tests (fun n s => ∃ i ys σ, n + i = vs.length ∧ J i ys σ ∧ ys.length ≤ 1000000 ∧ St C' L' [] ((it, o i) :: (D, .list ys) :: σ) s) (fun n s hI => ?_) vs.length ⟨0, [], σ, by wtm_at "om", hj, by simp, hs⟩ ht
  obtain ⟨i, ys, σ, hn, hj, hz, hs⟩ := hI
  by_cases hi : i < vs.length
  · have hx : vs[i]? = some vs[i] := List.getElem?_eq_getElem hi
    refine wpAny_mono (K.item hx .here (K.more (K.more (hat _ _ _ hj))) s hs) (fun r s1 h1 => ?_) fun _ _ x => x.elim
    obtain ⟨μ1, σ1, ⟨rfl, hr, rfl⟩, st⟩ := h1
    obtain ⟨v, rfl, hv⟩ := Option.map_eq_some_iff.mp hr
    refine wpAny_mono (step C' L' i _ ys it D (o (i + 1)) σ l hx hj hz v hv s1 st) (fun _ s2 h2 => ?_) fun _ _ x => x.elim
    obtain ⟨μ2, σ2, h2, st2⟩ := h2
    refine wpAny_mono (tests_run h2 s2 st2) (fun b s3 h3 => ?_) fun _ _ x => x.elim
    obtain ⟨μ3, σ3, ⟨rfl, h3⟩, st3⟩ := h3
    cases b with
    | true =>
      rw [if_pos rfl]
      refine wpAny_mono (h3.1 rfl s3 st3) (fun y s4 h4 => ?_) fun _ _ x => x.elim
      obtain ⟨μ4, σ4, ⟨rfl, τ, hτ, hz', hj'⟩, st4⟩ := h4
      have st5 := st4.sub2 (μ' := []) LeM.nil hτ
      have ap := WC_append (C := C') (A := A) (L := L') (Q := fun v σ' => v = .none ∧ σ' = (it, o (i + 1)) :: (D, .list (ys ++ [can y])) :: τ) (.there .here) hz ⟨rfl, rfl⟩ [] [.ref D, y] rfl
      refine wpAny_mono (ap s4 st5) (fun _ s5 h5 => ?_) fun _ _ x => x.elim
      obtain ⟨μ5, σ5, ⟨rfl, _, rfl⟩, st6⟩ := h5
      exact ⟨n - 1, by wtm_at "om", i + 1, _, τ, by wtm_at "om", hj', hz', st6⟩
    | false =>
      rw [if_neg (by decide)]
      obtain ⟨τ, hτ, hz', hj'⟩ := h3.2 rfl
      exact ⟨n - 1, by wtm_at "om", i + 1, ys, τ, by wtm_at "om", hj', hz', st3.sub2 LeM.nil hτ⟩
  · have hi : i = vs.length := by wtm_at "om"
    subst hi
    refine wpAny_mono (K.fin r.hh .here .here (K.more (K.more (hat _ _ _ hj))) s hs) (fun r s1 h1 => ?_) fun _ _ x => x.elim
    obtain ⟨μ1, σ1, ⟨rfl, rfl, rfl⟩, st⟩ := h1
    exact done _ _ _ hj hz st
end
end
section
variable {C : Cx} {A : Around} {L : Addr} {μ : Mu} {σ : Sg} {env : Env}
variable {elt target iter : Expr} {ifs : List Expr} {scope : Scope} {pos : Pos} {cl : List (Str × Addr)} {vs : List Value} {H : Sg → Prop} {J : Nat → List Value → Sg → Prop}
theorem fresh_ne {h : Heap} {a : Addr} (ha : h.objs.size ≤ a) : h.get? a = none := by
  cases e : h.get? a with
  | none => rfl
  | some o' => exact absurd (Heap.lt_size e) (Nat.not_lt.mpr ha)
/- from the iterator to the list -/
theorem W_comp {n : Nat} (r : Room A n) (hcell : ∀ y ∈ scope.names, y.2 ≠ .cell) (hkind : scope.kind = .function) (hat : ∀ i ys σ, J i ys σ → H σ) (step : CStep C A env scope cl target ifs elt vs J)
    {it : Addr} {o : Nat → AO} (K : Walk vs o H) (hj : J 0 [] σ) {s : Shared} (hs : St C L μ ((it, o 0) :: σ) s) (ht : ∀ v, letOwnedTupleGo target (.ref it) v = pure () := by intro _; rfl) {RR : Value → Addr → Result → Shared → Prop}
    (done : ∀ D L' ys σ' s', J vs.length ys σ' → ys.length ≤ 1000000 → St C L μ ((D, .list ys) :: σ') s' → (∃ m, s'.heap.Ns L' m) → L' ≠ L → L' ∉ ((D, AO.list ys) :: σ').map (·.1) → C.h₀.get? L' = none → RR (.ref D) L' (.ok .next) s') :
    wpAny (model C.prog C.w) A (newList []) (fun acc s₃ => wpAny (model C.prog C.w) A (newFunctionEnv scope env.globals cl [] env.qual none .none (some env)) (fun cenv s₄ =>
      codeAny (model C.prog C.w) A (.compStart (.ListComp elt [⟨target, iter, ifs, 0⟩] scope pos) 0 (.ref it) acc { cenv with scope := relabel scope env }) (RR acc cenv.locals) s₄) (fun _ _ => False) s₃) (fun _ _ => False) s := by
  refine wpAny_newList (items := []) ?_
  have hs1 : St C L μ ((s.heap.objs.size, .list []) :: (it, o 0) :: σ) _ := hs.push (ob := { cls := .type "list", data := .seq ([] : List Value).toArray }) ⟨[], 0, rfl, rfl⟩ rfl
  refine wpAny_newFunctionEnv hcell (by intro y hy; simp at hy) (fun h₁ hns₁ hsb₁ => ?_) hkind
  generalize hD : s.heap.objs.size = D at *
  dsimp only at hns₁ hsb₁ ⊢
  generalize hs3 : ({ s with heap := s.heap.push { cls := .type "list", data := .seq ([] : List Value).toArray } } : Shared) = s3 at *
  have hh : s3.heap = s.heap.push { cls := .type "list", data := .seq ([] : List Value).toArray } := by rw [← hs3]
  rw [← hh] at hns₁ hsb₁
  have keep : ∀ b o, s3.heap.get? b = some o → h₁.get? b = some o := fun b o e => hsb₁.extBut b o (Nat.ne_of_lt (Heap.lt_size e)) (Heap.get?_push_of_some _ e)
  have hs5 : St (C.under s3 ((D, .list []) :: (it, o 0) :: σ)) s3.heap.objs.size [] ((D, .list []) :: (it, o 0) :: σ) ⟨h₁, s.gens, s.drawn, s.toks + 0, s.os⟩ := by
    have := under_enter (binds := []) (tk := s.toks + 0) hs1 hns₁ keep
    rw [← hs3] at this ⊢
    exact this
  have hs6 := hs5.sub (τ := (it, o 0) :: (D, .list []) :: σ) (.cons (.there .here) (.cons .here .refl))
  have nL : s3.heap.get? s3.heap.objs.size = none := fresh_ne (Nat.le_refl _)
  have hs1' : St C L μ ((D, .list []) :: (it, o 0) :: σ) s3 := hs1
  obtain ⟨f1, f2, f3⟩ := hs1'.fresh nL
  have loop : codeAny (model C.prog C.w) A (.compLoop (.ListComp elt [⟨target, iter, ifs, 0⟩] scope pos) 0 (.ref it) (.ref D) (compEnvC scope cl s3.heap.objs.size env)) (RR (.ref D) s3.heap.objs.size) ⟨h₁, s.gens, s.drawn, s.toks + 0, s.os⟩ := by
    refine W_compLoop r (under_le hs1') K hat step hj hs6 (fun ys σ' s' h1 h2 h3 => ?_) ht
    refine done D _ ys σ' s' h1 h2 (under_leave hs1' h3) (let ⟨m, F, _⟩ := h3.fr; ⟨m, F.ns⟩) f1 (fun hm => ?_) f3
    obtain ⟨p, hp, e⟩ := List.mem_map.mp hm
    exact (h3.ob p hp).1 e
  subst hs3
  refine codeAny_compStart_list loop ?_
  have ag := K.again (C := C.under _ ((D, .list []) :: (it, o 0) :: σ)) (A := A) (L := _) (μ := []) (σ := (it, o 0) :: (D, .list []) :: σ) .here _ hs6
  refine wpAny_mono ag (fun r s' h' => ?_) fun _ _ x => x.elim
  obtain ⟨μ', σ', ⟨rfl, rfl, rfl⟩, st⟩ := h'
  refine W_compLoop r (under_le hs1') K hat step hj st (fun ys σ' s' h1 h2 h3 => ?_) ht
  refine done D _ ys σ' s' h1 h2 (under_leave hs1' h3) (let ⟨m, F, _⟩ := h3.fr; ⟨m, F.ns⟩) f1 (fun hm => ?_) f3
  obtain ⟨p, hp, e⟩ := List.mem_map.mp hm
  exact (h3.ob p hp).1 e
/- what is known once the iterable stands -/
noncomputable def CGo (C : Cx) (A : Around) (env : Env) (scope : Scope) (cl : List (Str × Addr)) (target : Expr) (ifs : List Expr) (elt : Expr) (Q : Addr → Sg → Prop) (v : Value) (σ : Sg) : Prop :=
  ∃ (vs : List Value) (H : Sg → Prop) (J : Nat → List Value → Sg → Prop), ItS C A v vs H σ ∧ J 0 [] σ ∧ (∀ i ys σ, J i ys σ → H σ) ∧ CStep C A env scope cl target ifs elt vs J ∧ ∀ D ys σ, J vs.length ys σ → ys.length ≤ 1000000 → Q D ((D, .list ys) :: σ)
theorem WE_ListComp {n : Nat} (r : Room A n) (hclos : closureFor scope env = pure cl) (hcell : ∀ y ∈ scope.names, y.2 ≠ .cell) (hkind : scope.kind = .function) (hnames : ∀ z ∈ scope.names, z.2 = .local → scope.names.lookup z.1 = some .local)
    {Q : Value → Sg → Prop} (hiter : WE C A env iter μ σ (CGo C A env scope cl target ifs elt (fun D σ' => Q (.ref D) σ'))) (hs : ∀ x, foldedSetIterable iter env x = pure x) (ht : ∀ it v, letOwnedTupleGo target (.ref it) v = pure ()) :
    WE C A env (.ListComp elt [⟨target, iter, ifs, 0⟩] scope pos) μ σ Q := fun s hst => by
  rw [eval_ListComp]
  refine wpAny_comprehension_free (use := none) rfl hs hclos hkind hnames (wpAny_mono (hiter s hst) (fun v s1 h1 => ?_) fun _ _ x => x.elim)
  obtain ⟨μ1, σ1, ⟨rfl, vs, H, J, hit, hj, hat, step, done⟩, st⟩ := h1
  refine wpAny_mono (hit _ _ v rfl s1 st) (fun r' s2 h2 => ?_) fun _ _ x => x.elim
  obtain ⟨μ2, σ2, ⟨rfl, it, o, rfl, K, rfl⟩, st2⟩ := h2
  refine W_comp r hcell hkind hat step K hj st2 (ht it) fun D L' ys σ' s' h1 h2 h3 ⟨m, h4⟩ h5 h6 h7 => ⟨m, h4, fun h' hb => ⟨_, _, ⟨rfl, done D ys σ' h1 h2⟩, h3.but hb h5 h6 h7⟩⟩
/- name = [...], the list stored ahead of the end -/
theorem WS_Assign_ListComp {n : Nat} {y : Str} {py spos : Pos} (r : Room A n) (hsw : swapsWith (.ListComp elt [⟨target, iter, ifs, 0⟩] scope pos) (some (.Name y py)) spos.line env = pure true) (hclos : closureFor scope env = pure cl) (hcell : ∀ y ∈ scope.names, y.2 ≠ .cell) (hkind : scope.kind = .function)
    (hnames : ∀ z ∈ scope.names, z.2 = .local → scope.names.lookup z.1 = some .local) (hk : env.scope.kind = .function) (hy : env.kindOf y = some .local)
    {Q : Flow → Mu → Sg → Prop} (hiter : WE C A env iter μ σ (CGo C A env scope cl target ifs elt (fun D σ' => Q .next ((y, .ref D) :: μ) σ'))) (hs : ∀ x, foldedSetIterable iter env x = pure x) (ht : ∀ it v, letOwnedTupleGo target (.ref it) v = pure ()) :
    WS C A env (.Assign [.Name y py] (.ListComp elt [⟨target, iter, ifs, 0⟩] scope pos) spos) μ σ Q := fun s hst => by
  rw [exec_Assign_Name_used _ _ _ _ hsw]
  refine wpAny_bind (wpAny_standAt (wpAny_bind ?_))
  show wpAny _ A (do let _ ← comprehension (.ListComp elt [⟨target, iter, ifs, 0⟩] scope pos) scope env _ (newList []) false (eval iter env) (some (assign (.Name y py) env))) _ _ s
  refine wpAny_bind (wpAny_mono (wpAny_comprehension_free (use := some (assign (.Name y py) env)) (Q := fun _ s' => ∃ μ' σ', Q .next μ' σ' ∧ St C env.locals μ' σ' s') rfl hs hclos hkind hnames
    (wpAny_mono (hiter s hst) (fun v s1 h1 => ?_) fun _ _ x => x.elim)) (fun _ s' hq => wpAny_pure (wpAny_pure hq)) fun _ _ e => e)
  obtain ⟨μ1, σ1, ⟨rfl, vs, H, J, hit, hj, hat, step, done⟩, st⟩ := h1
  refine wpAny_mono (hit _ _ v rfl s1 st) (fun r' s2 h2 => ?_) fun _ _ x => x.elim
  obtain ⟨μ2, σ2, ⟨rfl, it, o, rfl, K, rfl⟩, st2⟩ := h2
  refine W_comp r hcell hkind hat step K hj st2 (ht it) fun D L' ys σ' s' h1 h2 h3 ⟨m, h4⟩ h5 h6 h7 => ?_
  obtain ⟨m0, F, k⟩ := h3.fr
  show wpAny _ A (assign (.Name y py) env (.ref D)) _ _ _
  refine wpAny_assign_Name (wpAny_storeName_local hy F.ns (fun h' hn hb => ?_) (by rw [hk]; rfl))
  have h8 := St.local (tk := s'.toks + 1) h3 F k hn hb
  exact ⟨m, h4.sameBut hb h5, fun h'' hb' => ⟨_, _, done D ys σ' h1 h2, h8.but hb' h5 h6 h7⟩⟩
end
section
variable {C : Cx} {A : Around} {L : Addr} {μ : Mu} {σ : Sg} {env : Env} {Q : Value → Sg → Prop} {x y : Str}
theorem B_addS (hz : x.length + y.length ≤ 1000000) (h : Q (vS (x ++ y)) σ) : W2 C A L (binaryOp .Add) (vS x) (vS y) σ Q := fun μ a' b' ha hb => by
  obtain ⟨t, rfl⟩ := can_str ha; obtain ⟨u, rfl⟩ := can_str hb
  exact WV_by fun s hs Q' q => SB.add (fun t' k => q _ _ _ h hs.toks) (by have := big_line; wtm_at "om")
theorem I_addS (hz : x.length + y.length ≤ 1000000) (h : Q (vS (x ++ y)) σ) : W2 C A L (inplaceOp .Add) (vS x) (vS y) σ Q := fun μ a' b' ha hb => by
  obtain ⟨t, rfl⟩ := can_str ha; obtain ⟨u, rfl⟩ := can_str hb
  exact WV_by fun s hs Q' q => SB.iadd (fun t' k => q _ _ _ h hs.toks) (by have := big_line; wtm_at "om")
theorem C_eqS (h : Q (.bool (decide (x = y))) σ) : W2 C A L (compareOp .Eq) (vS x) (vS y) σ Q := fun μ a' b' ha hb => by
  obtain ⟨t, rfl⟩ := can_str ha; obtain ⟨u, rfl⟩ := can_str hb
  refine WV_by fun s hs Q' q => PyProof.Rows.eq_str (q _ _ _ ?_ hs)
  have e : (x == y) = decide (x = y) := rfl
  rw [e]; exact h
theorem C_neS (h : Q (.bool (decide (x ≠ y))) σ) : W2 C A L (compareOp .NotEq) (vS x) (vS y) σ Q := fun μ a' b' ha hb => by
  obtain ⟨t, rfl⟩ := can_str ha; obtain ⟨u, rfl⟩ := can_str hb
  refine WV_by fun s hs Q' q => PySem.P.ne_str (q _ _ _ ?_ hs)
  have e : (x.cps.toList != y.cps.toList) = decide (x ≠ y) := by
    rw [Bool.eq_iff_iff]
    simp only [bne_iff_ne, decide_eq_true_eq, ne_eq]
    constructor
    · rintro h rfl; exact h rfl
    · intro h e; apply h; cases x; cases y; simp_all
  rw [e]; exact h
theorem C_inS (h : Q (.bool (Txt.contains y x)) σ) : W2 C A L (compareOp .In) (vS x) (vS y) σ Q := fun μ a' b' ha hb => by
  obtain ⟨t, rfl⟩ := can_str ha; obtain ⟨u, rfl⟩ := can_str hb
  exact WV_by fun s hs Q' q => PySem.P.in_str (q _ _ _ h hs)
theorem T_str {Q : Bool → Sg → Prop} (hz : x.length ≤ 1000000) (h : Q (decide (x.length ≠ 0)) σ) : W1 C A L truthy (vS x) σ Q := fun μ a' ha => by
  obtain ⟨t, rfl⟩ := can_str ha
  refine W_by fun s hs Q' q => PySem.P.truthy_str (by wtm_at "om") (q _ μ σ _ ⟨rfl, ?_⟩ hs.toks)
  have e : ((x.length : Int) != 0) = decide (x.length ≠ 0) := by
    rw [Bool.eq_iff_iff]; simp
  rw [e]; exact h
theorem C_isNone {v : Value} (h : Q (.bool (v == .none)) σ) : W2 C A L (compareOp .Is) v .none σ Q := fun μ a' b' ha hb => by
  rw [can_none hb]
  refine WV_by fun s hs Q' q => is_none (q _ _ _ ?_ hs)
  have e : (a' == Value.none) = (v == Value.none) := by subst ha; cases a' <;> rfl
  rw [e]; exact h
theorem C_isNotNone {v : Value} (h : Q (.bool (!(v == .none))) σ) : W2 C A L (compareOp .IsNot) v .none σ Q := fun μ a' b' ha hb => by
  rw [can_none hb]
  refine WV_by fun s hs Q' q => ?_
  have e : (a' == Value.none) = (v == Value.none) := by subst ha; cases a' <;> rfl
  show wpAny _ _ (do return Value.bool (!(← isSame a' .none))) _ _ _
  rw [isSame_none]
  refine wpAny_bind (wpAny_pure (wpAny_pure (q _ _ _ ?_ hs)))
  rw [e]; exact h
theorem WC_len_str (hz : x.length ≤ 1000000) (h : Q (vI x.length) σ) : WC C A L (.builtin "len") [vS x] σ Q := WC1 fun μ a' ea => WV_by fun s hs Q' q => by
  obtain ⟨t, rfl⟩ := can_str ea
  exact PySem.P.len_str (by wtm_at "om") (q _ _ _ h hs.toks)
theorem WC_chr {i : Int} (h0 : 0 ≤ i) (h1 : i ≤ 1114111) (h : Q (vS ⟨#[i.toNat]⟩) σ) : WC C A L (.builtin "chr") [vI i] σ Q := WC1 fun μ a' ea => WV_by fun s hs Q' q => by
  obtain ⟨t, rfl⟩ := can_int ea
  exact chr_of_range h0 h1 (q _ _ _ h hs.toks)
theorem WC_ord {c : Nat} (h : Q (vI c) σ) : WC C A L (.builtin "ord") [vS ⟨#[c]⟩] σ Q := WC1 fun μ a' ea => WV_by fun s hs Q' q => by
  obtain ⟨t, rfl⟩ := can_str ea
  exact PySem.P.ord_of_char (q _ _ _ h hs.toks)
theorem WC_hex {i : Int} (hz : (PySem.baseText "0x" 16 i).length ≤ sizeLine) (h : Q (vS (PySem.baseText "0x" 16 i)) σ) : WC C A L (.builtin "hex") [vI i] σ Q := WC1 fun μ a' ea => WV_by fun s hs Q' q => by
  obtain ⟨t, rfl⟩ := can_int ea
  exact PySem.P.hex_of_int (q _ _ _ h hs.toks) hz
theorem WC_join {a : Addr} {xs : List Str} {f : AO → Sg} (hx : At σ a (.list (xs.map vS)) f) (hok : JoinOk x xs = true) (h : Q (vS (Txt.join x xs)) σ) : WC C A L (.builtin "str.join") [vS x, .ref a] σ Q := WC2 fun μ x' a' ex ea => WV_by fun s hs Q' q => by
  obtain ⟨t, rfl⟩ := can_str ex
  rw [can_ref ea]
  obtain ⟨items, n, e, hm⟩ := hs.list hx
  obtain ⟨l, rfl, hl⟩ := strs_vals (strs_of hm)
  exact SC.join ⟨_, e, rfl, n, rfl⟩ hl hok fun t' k => q _ _ _ h hs.toks
theorem WC_lower (hz : Builtin.Str.tooLong (Txt.lower x).length = false) (h : Q (vS (Txt.lower x)) σ) : WC C A L (.builtin "str.lower") [vS x] σ Q := WC1 fun μ x' ex => WV_by fun s hs Q' q => by
  obtain ⟨t, rfl⟩ := can_str ex
  exact SC.lower hz (q _ _ _ h hs.toks)
theorem WC_countS (h : Q (vI (Txt.count x y)) σ) : WC C A L (.builtin "str.count") [vS x, vS y] σ Q := WC2 fun μ x' y' ex ey => WV_by fun s hs Q' q => by
  obtain ⟨t, rfl⟩ := can_str ex; obtain ⟨u, rfl⟩ := can_str ey
  exact SC.count (q _ _ _ h hs.toks)
theorem WG_str {i : Int} (hr : PySem.fitsSsize i = true) (hin : (Txt.charAt x i).isSome = true) (h : Q (vS (Txt.item x i)) σ) : WG C A L (vS x) (vI i) σ Q := fun μ o' i' ho hi => WV_by fun s hs Q' q => by
  obtain ⟨t, rfl⟩ := can_str ho; obtain ⟨u, rfl⟩ := can_int hi
  exact SB.getItem hr hin (q _ _ _ h hs.toks)
end
section
variable {C : Cx} {A : Around} {L : Addr} {μ : Mu} {σ : Sg} {env : Env} {Q : Value → Sg → Prop}
theorem WE_loc {x pos} {v : Value} (h : Q v σ) (hv : LookIn x μ v) (hk : env.scope.kind = .function) (hl : env.kindOf x = some .local) (hd : (x == ("__debug__" : Str)) = false) : WE C A env (.Name x pos) μ σ Q :=
  WE_local hk hl hd hv.eq h
theorem zip_can {xs : List Str} : ∀ {as vs : List Value}, as.map can = vs → ((xs.zip as).reverse.map fun p => (p.1, can p.2)) = (xs.zip vs).reverse := by
  intro as vs h
  subst h
  rw [List.map_reverse]
  congr 1
  induction xs generalizing as with
  | nil => rfl
  | cons x r ih => cases as with
    | nil => rfl
    | cons a l => simp only [List.map_cons, List.zip_cons_cons]; rw [ih]
/- a def without cells and without defaults -/
theorem WCK_def {n : Nat} {f : Addr} {fd : FuncData} {body : List Stmt} {args : List Value} (xs : List Str) (μ0 : Mu) (r : Room A (n + 1)) (lim : C.h₀.NoLimit) (F : FnAt C σ f fd) (hμ : (xs.zip args).reverse = μ0) (hbody : fd.body = .stmts body)
    (hbind : ∀ as : List Value, as.length = args.length → bindArgs fd ⟨as, []⟩ = pure (xs.zip as)) (hcell : (fd.scope.names.all fun x => x.2 != .cell) = true) (hloc : (xs.all fun x => fd.scope.names.lookup x == some .local) = true)
    (hco : fd.scope.isCoroutine = false) (hgen : fd.scope.isGenerator = false) (hk : fd.scope.kind = .function)
    (h : ∀ C' L', C.Le C' → Room (A.deeper (callEnv fd L' f)) n → WB C' (A.deeper (callEnv fd L' f)) (callEnv fd L' f) body μ0 σ (fun fl _ σ' => Ret Q (retV fl) σ')) : WCK C A L (.ref f) args σ Q := fun μ as e => by
  refine WK_ret (WK_call_def (binds := xs.zip as) r lim F hbody (fun s hs => .of_eq (hbind as (by rw [← e]; simp))) (fun x hx => by simpa using List.all_eq_true.mp hcell x hx) (fun x hx => by simpa using List.all_eq_true.mp hloc x.1 (List.of_mem_zip (a := x.1) (b := x.2) hx).1) ?_ hco hgen hk)
  · rw [zip_can e, hμ]; exact h
end
-- the text
noncomputable def stm (n : Nat) : Stmt := PySem.Challenge.pw_tc0097_01.main.body.getD n (.Pass ⟨0, 0, 0, 0⟩)
noncomputable def bodyOf : Stmt → List Stmt
  | .FunctionDef _ _ b .. => b
  | _ => []
noncomputable def argsOf : Stmt → Arguments
  | .FunctionDef _ a .. => a
  | _ => ⟨[], [], none, [], [], none, []⟩
noncomputable def scopeOf : Stmt → Scope
  | .FunctionDef _ _ _ _ _ _ s .. => s
  | _ => ⟨.module, [], false, false, []⟩
noncomputable def clsBody : Stmt → List Stmt
  | .ClassDef _ _ _ b .. => b
  | _ => []
noncomputable def mth (n i : Nat) : Stmt := (clsBody (stm n)).getD i (.Pass ⟨0, 0, 0, 0⟩)
noncomputable def fdOf (s : Stmt) (name qual : Str) (pm : Value) (c : Addr) (dv kv : Value) : FuncData :=
  { name := name, qualname := qual, params := argsOf s, body := .stmts (bodyOf s), scope := scopeOf s, globals := mainGlobals, closure := [], defaults := dv, kwdefaults := kv, pyModule := pm, code := .ref c, builtins := builtinsNs }
noncomputable def HasFn (K : Frag) (f c : Addr) (s : Stmt) (name qual : Str) (dv kv : Value) : Prop := ∃ pm oc od osl, K.lookup f = some ⟨oc, od, .func (fdOf s name qual pm c dv kv), osl⟩ ∧ codeIn K (.ref c) qual = true
noncomputable abbrev gl : List (Str × Value) := [("_law_hidden", .ref 289), ("_law_letter", .ref 296), ("_law_typed", .ref 301), ("_law_raw", .ref 306), ("_law_lexer", .ref 313), ("_law_prepared", .ref 318), ("_law_walk", .ref 325), ("_law_page", .ref 332), ("_law_words", .ref 339), ("_law_flag", .ref 346),
  ("pretty_flags", .ref 46), ("_netrclex", .ref 84), ("in_table_b1", .ref 106), ("map_table_b3", .ref 152), ("C14NWriterTarget", .ref 264), ("_escape_cdata_c14n", .ref 275), ("COMPILER_FLAG_NAMES", .ref 39), ("b1_set", .ref 96), ("b3_exceptions", .ref 107), ("_namespace_map", .ref 158)]
noncomputable abbrev bl : List (Str × Value) := [("chr", .builtin "chr"), ("ord", .builtin "ord"), ("len", .builtin "len"), ("hex", .builtin "hex"), ("range", .type "range"), ("list", .type "list"), ("int", .type "int"), ("sorted", .builtin "sorted"), ("sum", .builtin "sum"), ("iter", .builtin "iter"), ("set", .type "set"), ("TypeError", .type "TypeError"), ("AttributeError", .type "AttributeError")]
noncomputable abbrev DD (K : Frag) : TopD := ⟨K, gl, bl⟩
noncomputable abbrev S (l : List Nat) : Str := ⟨l.toArray⟩
theorem lit0 : (Str.ofString "") = S [] := by kernel_rfl
theorem lit1 : (Str.ofString "\\") = S [92] := by kernel_rfl
theorem lit7 : (Str.ofString "&") = S [38] := by kernel_rfl
theorem lit12 : (Str.ofString "&amp;") = S [38, 97, 109, 112, 59] := by kernel_rfl
noncomputable abbrev litT : List (Str × List Nat) := [(Str.ofString "", []), (Str.ofString "\\", [92]), (Str.ofString "\n", [10]), (Str.ofString "\t \r", [9, 32, 13]), (Str.ofString "\"", [34]), (Str.ofString "\r\t\n ", [13, 9, 10, 32]), (Str.ofString "#", [35]), (Str.ofString "&", [38]), (Str.ofString "<", [60]), (Str.ofString ">", [62]), (Str.ofString "\r", [13]), (Str.ofString "\n\t ", [10, 9, 32]), (Str.ofString "&amp;", [38, 97, 109, 112, 59]), (Str.ofString "<?#?>", [60, 63, 35, 63, 62]), (Str.ofString "0x0", [48, 120, 48]), (Str.ofString "0x300000000", [48, 120, 51, 48, 48, 48, 48, 48, 48, 48, 48]), (Str.ofString "{", [123]), (Str.ofString "}", [125]), (Str.ofString ", ", [44, 32]), (Str.ofString "ff", [102, 102]), (Str.ofString "fi", [102, 105]), (Str.ofString "fl", [102, 108]), (Str.ofString "ffi", [102, 102, 105]), (Str.ofString "ffl", [102, 102, 108]), (Str.ofString "st", [115, 116]), (Str.ofString "t", [116]), (Str.ofString "f", [102]), (Str.ofString "OPTIMIZED", [79, 80, 84, 73, 77, 73, 90, 69, 68]), (Str.ofString "NEWLOCALS", [78, 69, 87, 76, 79, 67, 65, 76, 83]), (Str.ofString "VARARGS", [86, 65, 82, 65, 82, 71, 83]), (Str.ofString "VARKEYWORDS", [86, 65, 82, 75, 69, 89, 87, 79, 82, 68, 83]), (Str.ofString "NESTED", [78, 69, 83, 84, 69, 68]), (Str.ofString "GENERATOR", [71, 69, 78, 69, 82, 65, 84, 79, 82]), (Str.ofString "NOFREE", [78, 79, 70, 82, 69, 69]), (Str.ofString "COROUTINE", [67, 79, 82, 79, 85, 84, 73, 78, 69]), (Str.ofString "ITERABLE_COROUTINE", [73, 84, 69, 82, 65, 66, 76, 69, 95, 67, 79, 82, 79, 85, 84, 73, 78, 69]), (Str.ofString "ASYNC_GENERATOR", [65, 83, 89, 78, 67, 95, 71, 69, 78, 69, 82, 65, 84, 79, 82]), (Str.ofString "<?", [60, 63]), (Str.ofString "?>", [63, 62]), (Str.ofString " ", [32]), (Str.ofString "</", [60, 47]), (Str.ofString "&lt;", [38, 108, 116, 59]), (Str.ofString "&gt;", [38, 103, 116, 59]), (Str.ofString "&#xD;", [38, 35, 120, 68, 59]), (Str.ofString "\n\t\r ", [10, 9, 13, 32]), (Str.ofString "preserve", [112, 114, 101, 115, 101, 114, 118, 101]), (Str.ofString "{http://www.w3.org/XML/1998/namespace}space", [123, 104, 116, 116, 112, 58, 47, 47, 119, 119, 119, 46, 119, 51, 46, 111, 114, 103, 47, 88, 77, 76, 47, 49, 57, 57, 56, 47, 110, 97, 109, 101, 115, 112, 97, 99, 101, 125, 115, 112, 97, 99, 101])]
section
variable {C : Cx} {A : Around} {L : Addr} {μ : Mu} {σ : Sg} {env : Env} {Q : Value → Sg → Prop} {K : Frag}
theorem WE_strS {x k pos} {l : List Nat} (e : x = S l) (h : Q (vS (S l)) σ) : WE C A env (.Constant (.str x) k pos) μ σ Q := WE_str (e ▸ h)
theorem WE_glo {x pos} {a : Addr} (T : Tp (DD K) C) (h : Q (.ref a) σ) (hv : LookIn x gl (.ref a)) (hg : env.globals = mainGlobals) (hk : env.scope.kind = .function) (hl : env.kindOf x = some .globalImplicit) (hd : (x == ("__debug__" : Str)) = false) : WE C A env (.Name x pos) μ σ Q :=
  WE_global T hg hk hl hd (LookIn.eq hv) h
theorem WE_bltn {x pos} {i : String} (T : Tp (DD K) C) (h : Q (.builtin i) σ) (hv : LookIn x bl (.builtin i)) (hg : env.globals = mainGlobals) (hb : env.builtins = builtinsNs) (hk : env.scope.kind = .function) (hl : env.kindOf x = some .globalImplicit) (hd : (x == ("__debug__" : Str)) = false) : WE C A env (.Name x pos) μ σ Q :=
  WE_builtin T hg hb hk hl hd (LookIn.eq hv) h
theorem WE_blty {x pos} {i : String} (T : Tp (DD K) C) (h : Q (.type i) σ) (hv : LookIn x bl (.type i)) (hg : env.globals = mainGlobals) (hb : env.builtins = builtinsNs) (hk : env.scope.kind = .function) (hl : env.kindOf x = some .globalImplicit) (hd : (x == ("__debug__" : Str)) = false) : WE C A env (.Name x pos) μ σ Q :=
  WE_builtin T hg hb hk hl hd (LookIn.eq hv) h
theorem HasFn.keep {f c : Addr} {s : Stmt} {name qual : Str} {dv kv : Value} (h : HasFn K f c s name qual dv kv) : keepIn K (.ref f) = true := by
  obtain ⟨pm, oc, od, osl, h, _⟩ := h
  have e : ∀ x, x = K.lookup f → (match x with
      | some ⟨_, _, .func _, _⟩ => true
      | some ⟨_, _, .cls _, _⟩ => specialIn K (.ref f) "__call__" == some (some (.builtin "type.__call__"))
      | _ => false) = keepIn K (.ref f) := fun x q => by rw [q]; rfl
  rw [← e _ h.symm]
theorem Kp_fn {f c : Addr} {s : Stmt} {name qual : Str} {dv kv : Value} (T : Tp (DD K) C) (h : HasFn K f c s name qual dv kv) : Kp C σ (.ref f) := Kp_K T h.keep
theorem WCK_fn {n : Nat} {f c : Addr} {s : Stmt} {name qual : Str} {args : List Value} (H : HasFn K f c s name qual .none .none) (T : Tp (DD K) C) (xs : List Str) (μ0 : Mu) (r : Room A (n + 1)) (hμ : (xs.zip args).reverse = μ0)
    (hbind : ∀ pm, ∀ as : List Value, as.length = args.length → bindArgs (fdOf s name qual pm c .none .none) ⟨as, []⟩ = pure (xs.zip as)) (hcell : ((scopeOf s).names.all fun x => x.2 != .cell) = true) (hloc : (xs.all fun x => (scopeOf s).names.lookup x == some .local) = true)
    (hco : (scopeOf s).isCoroutine = false) (hgen : (scopeOf s).isGenerator = false) (hk : (scopeOf s).kind = .function)
    (h : ∀ pm C' L', C.Le C' → Tp (DD K) C' → Room (A.deeper (callEnv (fdOf s name qual pm c .none .none) L' f)) n → WB C' (A.deeper (callEnv (fdOf s name qual pm c .none .none) L' f)) (callEnv (fdOf s name qual pm c .none .none) L' f) (bodyOf s) μ0 σ (fun fl _ σ' => Ret Q (retV fl) σ')) : WCK C A L (.ref f) args σ Q := by
  obtain ⟨pm, oc, od, osl, hK, hc⟩ := H
  exact WCK_def xs μ0 r T.lim (FnAt.of T hK hc) hμ rfl (hbind pm) hcell hloc hco hgen hk fun C' L' l r' => h pm C' L' l (T.le l) r'
theorem WC_fn {n : Nat} {f c : Addr} {s : Stmt} {name qual : Str} {args : List Value} (H : HasFn K f c s name qual .none .none) (T : Tp (DD K) C) (xs : List Str) (μ0 : Mu) (r : Room A (n + 1)) (hμ : (xs.zip args).reverse = μ0)
    (hbind : ∀ pm, ∀ as : List Value, as.length = args.length → bindArgs (fdOf s name qual pm c .none .none) ⟨as, []⟩ = pure (xs.zip as)) (hcell : ((scopeOf s).names.all fun x => x.2 != .cell) = true) (hloc : (xs.all fun x => (scopeOf s).names.lookup x == some .local) = true)
    (hco : (scopeOf s).isCoroutine = false) (hgen : (scopeOf s).isGenerator = false) (hk : (scopeOf s).kind = .function)
    (h : ∀ pm C' L', C.Le C' → Tp (DD K) C' → Room (A.deeper (callEnv (fdOf s name qual pm c .none .none) L' f)) n → WB C' (A.deeper (callEnv (fdOf s name qual pm c .none .none) L' f)) (callEnv (fdOf s name qual pm c .none .none) L' f) (bodyOf s) μ0 σ (fun fl _ σ' => Ret Q (retV fl) σ')) : WC C A L (.ref f) args σ Q :=
  (WCK_fn H T xs μ0 r hμ hbind hcell hloc hco hgen hk h).wc
noncomputable def localsV (names : List (Str × NameKind)) (binds : List (Str × Value)) : Mu := binds.reverse.filter fun p => decide (names.lookup p.1 = some .local)
noncomputable def cellsV (L : Addr) (names : List (Str × NameKind)) (binds : List (Str × Value)) : Sg := (cellsFrom (L + 1) names []).map fun p => (p.2, .cell (binds.reverse.lookup p.1))
theorem lookup_can (x : Str) : ∀ l : List (Str × Value), (l.map fun p => (p.1, can p.2)).lookup x = (l.lookup x).map can
  | [] => rfl
  | (y, v) :: r => by
    rw [List.map_cons, List.lookup_cons, List.lookup_cons]
    cases h : (x == y) with
    | true => rfl
    | false => exact lookup_can x r
theorem localsV_eq {names : List (Str × NameKind)} {xs : List Str} {as args : List Value} (e : as.map can = args) : localsOf names (xs.zip as) = localsV names (xs.zip args) := by
  unfold localsOf localsV
  rw [← zip_can (xs := xs) e, List.filter_map]
  congr 1
theorem cellsV_eq {L : Addr} {names : List (Str × NameKind)} {xs : List Str} {as args : List Value} (e : as.map can = args) : cellsOf L names (xs.zip as) = cellsV L names (xs.zip args) := by
  unfold cellsOf cellsV
  apply List.map_congr_left
  intro p _
  rw [← zip_can (xs := xs) e, lookup_can]
theorem lookup_some {α : Type} : ∀ {l : List (Str × α)} {p : Str × α}, p ∈ l → (l.lookup p.1).isSome = true
  | (y, v) :: r, p, h => by
    rw [List.lookup_cons]
    cases q : (p.1 == y) with
    | true => rfl
    | false =>
      rcases List.mem_cons.mp h with rfl | h
      · simp at q
      · exact lookup_some h
theorem lookup_nodup {α : Type} : ∀ {l : List (Str × α)} {x : Str} {a : α}, (l.map (·.1)).Nodup → (x, a) ∈ l → l.lookup x = some a
  | (y, v) :: r, x, a, n, h => by
    rw [List.lookup_cons]
    rcases List.mem_cons.mp h with e | h
    · cases e; simp
    · have : (x == y) = false := beq_eq_false_iff_ne.mpr fun e => (List.nodup_cons.mp n).1 (by
        have h2 : (x, a) ∈ r := h
        show y ∈ _
        rw [← e]
        exact List.mem_map.mpr ⟨(x, a), h2, rfl⟩)
      rw [this]
      exact lookup_nodup (List.nodup_cons.mp n).2 h
/- as WC_fn, of a def with cells of its own -/
theorem WCK_fnC {n : Nat} {f c : Addr} {s : Stmt} {name qual : Str} {args : List Value} (H : HasFn K f c s name qual .none .none) (T : Tp (DD K) C) (xs : List Str) (μ0 : Mu) (cl : Addr → List (Str × Addr)) (cs : Addr → Sg) (r : Room A (n + 1))
    (hμ : localsV (scopeOf s).names (xs.zip args) = μ0) (hcl : ∀ L', cellsFrom (L' + 1) (scopeOf s).names [] = cl L') (hcs : ∀ L', ((cl L').map fun p => (p.2, AO.cell ((xs.zip args).reverse.lookup p.1))) = cs L')
    (hbind : ∀ pm, ∀ as : List Value, as.length = args.length → bindArgs (fdOf s name qual pm c .none .none) ⟨as, []⟩ = pure (xs.zip as))
    (cn : List Str) (hn1 : ∀ L', (cl L').map (·.1) = cn) (hkind : (xs.all fun x => (scopeOf s).names.lookup x == some .local || ((scopeOf s).names.lookup x == some .cell && cn.contains x)) = true)
    (hn2 : (cn.all fun x => (scopeOf s).names.lookup x != some .local) = true) (hn3 : cn.Nodup)
    (hco : (scopeOf s).isCoroutine = false) (hgen : (scopeOf s).isGenerator = false) (hk : (scopeOf s).kind = .function)
    (h : ∀ pm C' L', C.Le C' → Tp (DD K) C' → Room (A.deeper (callEnvC (fdOf s name qual pm c .none .none) L' f)) n → (callEnvC (fdOf s name qual pm c .none .none) L' f).cells = cl L' →
      WB C' (A.deeper (callEnvC (fdOf s name qual pm c .none .none) L' f)) (callEnvC (fdOf s name qual pm c .none .none) L' f) (bodyOf s) μ0 (cs L' ++ σ) (fun fl _ σ' => Ret Q (retV fl) σ')) : WCK C A L (.ref f) args σ Q := by
  obtain ⟨pm, oc, od, osl, hK, hc⟩ := H
  intro μ as e
  refine WK_call_cells (binds := xs.zip as) r T.lim (FnAt.of T hK hc) rfl rfl (fun s hs => .of_eq (hbind pm as (by rw [← e]; simp))) (fun L' x hx => ?_) (fun L' x a hx => ?_) (fun C' L' l r' => ?_) hco hgen hk
  · have hm := (List.of_mem_zip (a := x.1) (b := x.2) hx).1
    have h1 := List.all_eq_true.mp hkind x.1 hm
    show (scopeOf s).names.lookup x.1 = _ ∨ ((scopeOf s).names.lookup x.1 = _ ∧ ((cellsFrom (L' + 1) (scopeOf s).names []).lookup x.1).isSome = true)
    rw [hcl]
    simp only [Bool.or_eq_true, beq_iff_eq, Bool.and_eq_true, List.contains_iff_mem] at h1
    rcases h1 with h1 | ⟨h1, h2⟩
    · exact .inl h1
    · refine .inr ⟨h1, ?_⟩
      rw [← hn1 L'] at h2
      obtain ⟨p, hp, e⟩ := List.mem_map.mp h2
      rw [← e]
      exact lookup_some hp
  · have hx : (x, a) ∈ cl L' := by rw [← hcl]; exact hx
    have h1 := List.all_eq_true.mp hn2 x (by rw [← hn1 L']; exact List.mem_map_of_mem (f := (·.1)) hx)
    show (scopeOf s).names.lookup x ≠ _ ∧ (cellsFrom (L' + 1) (scopeOf s).names []).lookup x = _
    rw [hcl]
    exact ⟨by simpa using h1, lookup_nodup (by rw [hn1]; exact hn3) hx⟩
  · have z := h pm C' L' l (T.le l) r' (by
      show (cellsFrom (L' + 1) (scopeOf s).names []) = _
      exact hcl L')
    rw [localsV_eq e, cellsV_eq e]
    show WB C' _ _ _ (localsV (scopeOf s).names (xs.zip args)) (cellsV L' (scopeOf s).names (xs.zip args) ++ σ) _
    unfold cellsV
    rw [hμ, hcl, hcs]
    exact z
theorem WE_cel {x pos} {cl : List (Str × Addr)} {c : Addr} {v : Value} {f : AO → Sg} (h : Q v σ) (hcl : env.cells = cl) (hc : LookIn x cl c) (hv : At σ c (.cell (some v)) f) (hk : env.scope.kind = .function) (hl : env.kindOf x = some .cell) (hd : (x == ("__debug__" : Str)) = false) : WE C A env (.Name x pos) μ σ Q :=
  WE_cell hk hl hd (hcl ▸ hc.eq) hv h
theorem WE_fre {x pos} {cl : List (Str × Addr)} {c : Addr} {v : Value} {f : AO → Sg} (h : Q v σ) (hcl : env.cells = cl) (hc : LookIn x cl c) (hv : At σ c (.cell (some v)) f) (hk : env.scope.kind = .function) (hl : env.kindOf x = some .free) (hd : (x == ("__debug__" : Str)) = false) (hd2 : (x == ("__classdict__" : Str)) = false) : WE C A env (.Name x pos) μ σ Q :=
  WE_free hk hl hd hd2 (hcl ▸ hc.eq) hv h
theorem Binds_cel {x : Str} {v : Value} {cl : List (Str × Addr)} {c : Addr} {o : Option Value} {f : AO → Sg} {Q : Mu → Sg → Prop} (hcl : env.cells = cl) (hc : LookIn x cl c) (x0 : At σ c (.cell o) f) (hk : env.scope.kind = .function) (hl : env.kindOf x = some .cell) 
    (h : Q μ (f (.cell (some v)))) : Binds C A env x μ σ v Q := Binds_cell hk hl (hcl ▸ hc.eq) x0 h
theorem ret_now {v : Value} {τ : Sg} (h1 : Sub τ σ) (h2 : Q v τ) : Ret Q (retV (.ret v)) σ := ⟨τ, h1, h2⟩
theorem WIfs_nil {Q : Bool → Sg → Prop} (h : Q true σ) : WIfs C A env [] μ σ Q := h
theorem WIfs_one {c : Expr} {Q : Bool → Sg → Prop} (h : WT C A env c μ σ Q) : WIfs C A env [c] μ σ Q := h
theorem ret_nx {τ : Sg} (h1 : Sub τ σ) (h2 : Q .none τ) : Ret Q (retV .next) σ := ⟨τ, h1, h2⟩
theorem call_now {C : Cx} {A : Around} {L : Addr} {σ : Sg} {f : Value} {vs : List Value} {Q : Value → Sg → Prop} (h1 : Kp C σ f) (h2 : WC C A L f vs σ Q) : Kp C σ f ∧ WC C A L f vs σ Q := ⟨h1, h2⟩
theorem made {vs : List Value} {P : Addr → Prop} (h1 : vs.length ≤ 1000000) (h2 : ∀ a, P a) : vs.length ≤ 1000000 ∧ ∀ a, P a := ⟨h1, h2⟩
theorem item_now {C : Cx} {A : Around} {L : Addr} {σ : Sg} {o i : Value} {Q : Value → Sg → Prop} (h1 : PlainItem C σ o) (h2 : WG C A L o i σ Q) : PlainItem C σ o ∧ WG C A L o i σ Q := ⟨h1, h2⟩
theorem as_bool {b : Bool} {P : Bool → Prop} (h : P b) : ∃ b', (Value.bool b = .bool b') ∧ P b' := ⟨b, rfl, h⟩
theorem br {b : Bool} {P R : Prop} (h1 : b = true → P) (h2 : b = false → R) : Br b P R := ⟨h1, h2⟩
theorem callee {P : Prop} {f : Value} (h1 : CanF f) (h2 : P) : CanF f ∧ P := ⟨h1, h2⟩
end
/- the search for a certificate, and what it gives -/
def LkD {α : Type} (x : Str) (l : List (Str × α)) (v : α) : Prop := LookI x l v → LookIn x l v
def AtD (σ : Sg) (a : Addr) (o : AO) (f : AO → Sg) (n : Nat) : Prop := AtI σ a o n → At σ a o f
def AwD (σ : Sg) (a : Addr) (o : AO) (f : AO → Sg) (n : Nat) : Prop := AtJ σ a o f n → At σ a o f
def SubD (τ σ : Sg) (b : Bool) (is : List Nat) : Prop := SubI τ σ b is → Sub τ σ
def LitD (x : Str) (l : List Nat) : Prop := LookI x litT l → x = S l
theorem At.certN {σ : Sg} {a : Addr} {o : AO} (n : Nat) (h : nthN n σ = some (a, o)) : At σ a o (updN n σ) := At.cert h
theorem Sub.certN {σ τ : Sg} (b : Bool) (is : List Nat) (h : selN b is σ = some τ) : Sub τ σ := Sub.cert h
open Lean in
def tacHole (i : Nat) : MacroM Ident := return mkIdent (← Macro.addMacroScope (.mkSimple s!"h{i}"))
open Lean in
def tacEnd (w : String) : MacroM (TSyntax `tactic) :=
  if w == "K" then `(tactic| kernel_rfl) else if w == "r" then `(tactic| rfl) else if w == "a" then `(tactic| assumption) else if w == "d" then `(tactic| decide) else if w == "u" then `(tactic| with_unfolding_all rfl) else `(tactic| wtm_at $(Syntax.mkStrLit w))
open Lean in
def tacPl (as : List String) : MacroM (List Term × List (TSyntax `tactic) × List (TSyntax `tactic)) :=
  as.foldrM (fun a (ts, c1, c2) => do
    let h := a.front
    let b := (a.drop 1).toString
    if h == '=' then return ((mkIdent b.toName : Term) :: ts, c1, c2)
    let k ← tacHole (if h == '?' then 50 + b.toNat! else ts.length)
    let g ← if h == '_' || h == 'F' then `(?_) else `(?$k)
    let n := if h.isDigit then h.toNat - 48 else if h == 'F' then 1 else 0
    let f ← (List.range n).foldlM (fun t _ => `(fun _ => $t)) g
    if h == '_' || h == 'F' || h == '?' then return (f :: ts, c1, c2)
    let t ← `(tactic| case $k:ident => $(← tacEnd (if h == '!' || n != 0 then b else a)):tactic)
    return (f :: ts, if h == '!' then (t :: c1, c2) else (c1, t :: c2))) ([], [], [])
open Lean in
def tac1 (l : String) : MacroM (TSyntax `tactic) := do
  let h := l.front
  let d := (l.drop 1).toString
  if h == '!' then return ← tacEnd d
  let n :: as := (if h == '@' || h == '%' || h == '^' then d else l).splitOn " " | Macro.throwUnsupported
  let f := mkIdent n.toName
  if h == '%' || h == '^' then
    let p ← if h == '%' then `($f ..) else `($(mkIdent `WE) _ _ _ ($f ..) ..)
    return ← `(tactic| ((with_reducible show $p); $(← tacEnd (as.headD "")):tactic))
  let (ts, c1, c2) ← tacPl as
  let r ← if as.isEmpty then `(tactic| exact $f) else `(tactic| refine' $f $ts.toArray*)
  let r ← if h == '@' then pure r else `(tactic| with_reducible $r:tactic)
  let cs := c1 ++ c2
  if cs.isEmpty then return r
  `(tactic| ($r:tactic; $[$cs.toArray:tactic];*))
open Lean in
def tacs (l : String) : MacroM (TSyntax `tactic) := do
  let h := l.front
  let lp := h == '*' || h == '+'
  let ts ← ((if lp then (l.drop 1).toString else l).splitOn ";").mapM tac1
  let t ← `(tactic| first $[| $ts.toArray:tactic]*)
  if h == '*' then `(tactic| ((repeat' $t:tactic); done)) else if lp then `(tactic| repeat $t:tactic) else return t
open Lean in
def tacCert (d : String) (n : Nat) (search fin : String) : MacroM (TSyntax `tactic) := do
  let xs ← (List.range n).mapM fun i => do `(?$(← tacHole (50 + i)))
  let p ← tacHole 40
  let q ← tacHole 41
  `(tactic| (refine' (?$p : $(mkIdent d.toName) $xs.toArray*) ?$q; (case $q:ident => wtm_at $(Syntax.mkStrLit search)); (case $p:ident => (intro _; $(← tac1 fin):tactic))))
def tacT : String := "li:*LookI.here;@LookI.there _|ai:*AtI.here;@AtI.there _|aj:*AtJ.here;@AtJ.there _|pi:*PullI.here;PullI.there _|pull:*Pull.app _;Pull.here;@Pull.there _|at0:*At.esg _;At.here;@At.there _|pq:*PutI.here;PutI.new;@PutI.there _|lk:$LkD$3$li$@LookIn.cert K|lit:$LitD$2$li$!K|aw:$AwD$5$aj$@At.certW ?4 K K|ac:$AtD$5$ai$@At.certN ?4 K|sc:$SubD$4$si$@Sub.certN ?2 ?3 K|put:$PutD$4$pq$@PutIn.cert K|si:*SubI.refl;SubI.nil;SubI.cons pi _;SubI.skip _|at:At.here;!aw;!at0|rd:!ac;!at0|sub1:Sub.refl;Sub.nil;@Sub.cons pull sub1;@Sub.skip sub1|sub:Sub.refl;Sub.nil;!sc;!sub1|fr1:Sub.refl;@Sub.cons pull fr1|front:Sub.refl;!sc;!fr1|sb:!sc;!sb0|sb0:Sub.refl;Sub.nil;!sb1|sb1:Sub.esgc sb;sub_swap;@Sub.cons pull sb0;sub_mid pull sb0;@Sub.skip sb0|f:!a;!r|ru:!r;!u|le:@Nat.le_of_ble_eq_true r|np:@PyProof.noPylong_small d|can:@CanF_builtin;@CanF_type;@CanF_ref|item:@PI_str;@PI_list rd;@PI_tuple rd;@PI_sd rd|lem:@LeM.cert K|next:@next_now lem sub|kf:KF.hidden a;KF.letter a;KF.typed a;KF.raw a;KF.lexer a;KF.prepared a;KF.lwalk a;KF.page a;KF.words a;KF.flag a;KF.pretty a;KF.inb1 a;KF.mapb3 a;KF.escape a;KF.lxInit a;KF.lxRead a;KF.lxGet a;KF.lxPush a;KF.wData a;KF.wStart a;KF.wEnd a;KF.wPi a;KF.wInit a;KF.wQname a;KF.wFlush a;KF.wStart2 a|kp:@Kp_cls a cls;@Kp_builtin;@Kp_type;@Kp_fn a kf;@Kp_fn a a|cls:@KG.lex a;@KG.wri a|met:KG.lexRead a;KG.lexGet a;KG.lexPush a;KG.wriQname a;KG.wriData a;KG.wriFlush a;KG.wriStart a;KG.wriStart2 a;KG.wriEnd a;KG.wriPi a;KG.wriIter a|mi:KG.wriIter a|one:+!m|all:+!m;WB_cons _|m:%WE we;%W2 w2;%WS ws;%Binds bi;%After af;%WM wm;%WAr wa;%WT wt;!mr|we:^PySem.Expr.Name wn;^PySem.Expr.Constant wc;!wx|wn:WE_celC _ lk rd !K !r !K;WE_loc _ lk K K K;WE_cel _ f lk rd !K !r !K;WE_fre _ f lk rd !K !r !K !K;WE_glo a _ !lk K K K K;WE_bltn a _ !lk K K K K K;WE_blty a _ !lk K K K K K|wc:WE_int _;WE_none _;WE_bool _;WE_strS =lit47 _;WE_strS =lit48 _;WE_strS lit _|wx:WE_Call_Name _ r;WE_Method _ r r;WE_BinOp _;WE_Compare _;WE_Attr _;WE_Sub _;WE_List _;WE_Tuple _;WE_IfExp _;WE_neg1 _;WE_DictNil F|w2:B_add _;B_addSS len _;C_ltI _;C_eqI _;C_neI _;C_eqS _;C_neS _;C_inS _;C_isNone _;C_isNotNone _;B_mod d _ np;B_div d np _;B_sub _;I_add _;I_addSS len _;B_and _;I_xor _|ws:WS_Assign _;WS_Return _;WS_If _;WS_Expr _ r ru;WS_AugAssign _ K;WS_AssignAttr _ ru;WS_AugAttr _;WS_Return_none _;WS_Pass _;WS_Break _;WS_Continue _|bi:Binds_cel f lk at !K !K _;Binds_local K K _|af:After_next _;After_ret _;After_brk _;After_cont _|wa:WAr_cons _ r;WAr_nil _|wt:WT_and2 _;WT_or2 _;WT_not _;WT_Compare _;WT_plain _ 1r|wm:WM_overv a cls !mi rd rd lk can r _;WM_met a cls met !rd !rd K _;WM_ownv a cls !rd !rd K lk can r _;WM_str =PySem.F.slot_str_join =PySem.F.type_str_join _;WM_str =PySem.F.slot_str_lower =PySem.F.type_str_lower _;WM_str =PySem.F.slot_str_count =PySem.F.type_str_count _;WM_list rd =PySem.F.slot_list_append =PySem.F.type_list_append _;WM_list rd =PySem.F.slot_list_pop =PySem.F.type_list_pop _;WM_list rd =PySem.F.slot_list_extend =PySem.F.type_list_extend _;WM_list rd =PySem.F.slot_list_index =PySem.F.type_list_index _;WM_list rd =PySem.F.slot_list_count =PySem.F.type_list_count _|mr:%W1 w1;%Br br;callee can _;call_now kp _;made le F;item_now item _;as_bool _;WA_at a cls !rd !rd K lk r _;WP_at a cls !rd !at K put le _;WB_nil _;WIfs_nil _;WIfs_one _|w1:T_bool _;T_none _;T_int _|br:Br_tt _;Br_ff _;Br_isn _;Br_isnn _"
open Lean in
def tacBy (s : String) : MacroM (TSyntax `tactic) :=
  match (tacT.splitOn "|").find? fun l => l.startsWith (s ++ ":") with
  | some l =>
    let r := (l.drop (s.length + 1)).toString
    if r.front == '$' then
      match r.splitOn "$" with
      | [_, d, n, q, f] => tacCert d n.toNat! q f
      | _ => Macro.throwUnsupported
    else tacs r
  | none => Macro.throwUnsupported
local macro_rules | `(tactic| wtm_at $s:str) => tacBy s.getString
noncomputable def hidN (place : Int) : Int := if place % 27 < 11 then ([173, 847, 6150, 6155, 6156, 6157, 8203, 8204, 8205, 8288, 65279] : List Int).getD (place % 27).toNat 0 else 65013 + place % 27
noncomputable def hid (place : Int) : Str := ⟨#[(hidN place).toNat]⟩
structure KF (K : Frag) : Prop where
  hidden : HasFn K 289 288 (stm 21) "_law_hidden" "_law_hidden" .none .none
  letter : HasFn K 296 295 (stm 22) "_law_letter" "_law_letter" .none .none
  typed : HasFn K 301 300 (stm 23) "_law_typed" "_law_typed" .none .none
  raw : HasFn K 306 305 (stm 24) "_law_raw" "_law_raw" .none .none
  lexer : HasFn K 313 312 (stm 25) "_law_lexer" "_law_lexer" .none .none
  prepared : HasFn K 318 317 (stm 26) "_law_prepared" "_law_prepared" .none .none
  lwalk : HasFn K 325 324 (stm 27) "_law_walk" "_law_walk" .none .none
  page : HasFn K 332 331 (stm 28) "_law_page" "_law_page" .none .none
  words : HasFn K 339 338 (stm 29) "_law_words" "_law_words" .none .none
  flag : HasFn K 346 345 (stm 30) "_law_flag" "_law_flag" .none .none
  pretty : HasFn K 46 45 (stm 4) "pretty_flags" "pretty_flags" .none .none
  inb1 : HasFn K 106 105 (stm 9) "in_table_b1" "in_table_b1" .none .none
  mapb3 : HasFn K 152 151 (stm 11) "map_table_b3" "map_table_b3" .none .none
  escape : HasFn K 275 274 (stm 18) "_escape_cdata_c14n" "_escape_cdata_c14n" .none .none
  lxInit : HasFn K 60 59 (mth 6 0) "__init__" "_netrclex.__init__" .none .none
  lxRead : HasFn K 67 66 (mth 6 1) "_read_char" "_netrclex._read_char" .none .none
  lxGet : HasFn K 74 73 (mth 6 2) "get_token" "_netrclex.get_token" .none .none
  lxPush : HasFn K 81 80 (mth 6 3) "push_token" "_netrclex.push_token" .none .none
  wData : HasFn K 211 210 (mth 17 4) "data" "C14NWriterTarget.data" .none .none
  wStart : HasFn K 234 233 (mth 17 7) "start" "C14NWriterTarget.start" .none .none
  wEnd : HasFn K 247 246 (mth 17 9) "end" "C14NWriterTarget.end" .none .none
  wPi : HasFn K 261 260 (mth 17 11) "pi" "C14NWriterTarget.pi" .none .none
  wInit : HasFn K 181 180 (mth 17 0) "__init__" "C14NWriterTarget.__init__" .none (.ref 174)
  wQname : HasFn K 204 203 (mth 17 3) "_qname" "C14NWriterTarget._qname" (.ref 197) .none
  wFlush : HasFn K 220 219 (mth 17 5) "_flush" "C14NWriterTarget._flush" (.ref 213) .none
  wStart2 : HasFn K 240 239 (mth 17 8) "_start" "C14NWriterTarget._start" (.ref 235) .none
section
variable {C : Cx} {A : Around} {L : Addr} {σ : Sg} {n : Nat} {K : Frag} {Q : Value → Sg → Prop}
theorem C_hidden {place : Int} (r : Room A (n + 2)) (T : Tp (DD K) C) (F : KF K) (h : Q (vS (hid place)) σ) : WC C A L (.ref 289) [vI place] σ Q := by
  refine WC_fn F.hidden T ["place"] [("place", vI place)] r rfl (by (intro pm; refine' ln1 rfl ?_; intro a; kernel_rfl)) (by kernel_rfl) (by kernel_rfl) (by kernel_rfl) (by kernel_rfl) (by kernel_rfl) ?_
  intro pm C' L' l T' r'
  refine WB_cons ?_
  wtm_at "all"
  refine br (fun hb => ?_) (fun hb => ?_)
  all_goals have hb' := of_decide_eq_true (p := place % 27 < 11)
  · have hb := of_decide_eq_true hb
    wtm_at "all"
    have e : hidN place = ([173, 847, 6150, 6155, 6156, 6157, 8203, 8204, 8205, 8288, 65279] : List Int).getD (place % 27).toNat 0 := if_pos hb
    obtain ⟨k, hk, hk2⟩ : ∃ k : Nat, (place % 27).toNat = k ∧ k < 11 := ⟨_, rfl, by wtm_at "om"⟩
    have hx : [vI 173, vI 847, vI 6150, vI 6155, vI 6156, vI 6157, vI 8203, vI 8204, vI 8205, vI 8288, vI 65279][(place % 27).toNat]? = some (vI (hidN place)) ∧ 0 ≤ hidN place ∧ hidN place ≤ 1114111 := by
      rw [e, hk]
      rcases k with _|_|_|_|_|_|_|_|_|_|_|k <;> first | exact ⟨rfl, by decide, by decide⟩ | wtm_at "om"
    refine WG_list .here (by wtm_at "om") (by wtm_at "om") hx.1 ?_
    wtm_at "all"
    refine WC_chr hx.2.1 hx.2.2 ?_
    wtm_at "all"
    exact ret_now (by wtm_at "sub") h
  · have hb := of_decide_eq_false hb
    have e : hidN place = 65013 + place % 27 := if_neg hb
    wtm_at "all"
    refine WC_chr (by wtm_at "om") (by wtm_at "om") ?_
    wtm_at "all"
    refine ret_now (by wtm_at "sub") ?_
    rw [← e]
    exact h
end
section
variable {C : Cx} {A : Around} {L : Addr} {μ : Mu} {σ τ : Sg} {env : Env} {K : Frag}
variable {elt target iter : Expr} {ifs : List Expr} {scope : Scope} {pos : Pos} {cl : List (Str × Addr)} {vs : List Value} {H : Sg → Prop}
theorem LeM.cons {x : Str} {v : Value} {r μ' : Mu} (h : LookIn x μ' v) (k : LeM r μ') : LeM ((x, v) :: r) μ' := fun y u e => by
  rw [List.lookup_cons] at e
  cases q : (y == x) with
  | true =>
    rw [q] at e
    cases e
    rw [beq_iff_eq.mp q]
    exact h.eq
  | false => rw [q] at e; exact k y u e
noncomputable def selM (μ : Mu) : List Str → Option Mu
  | [] => some []
  | x :: r => (μ.lookup x).bind fun v => (selM μ r).map ((x, v) :: ·)
theorem LeM.cert {μ τ : Mu} (h : selM μ (τ.map (·.1)) = some τ) : LeM τ μ := by
  have g : ∀ (xs : List Str) (τ : Mu), selM μ xs = some τ → LeM τ μ := by
    intro xs
    induction xs with
    | nil => intro τ h; cases h; exact .nil
    | cons x r ih =>
      intro τ h
      have h : ((μ.lookup x).bind fun v => (selM μ r).map ((x, v) :: ·)) = some τ := h
      obtain ⟨v, hv, h2⟩ := Option.bind_eq_some_iff.mp h
      obtain ⟨t, ht, e⟩ := Option.map_eq_some_iff.mp h2
      subst e
      exact .cons (.cert hv) (ih t ht)
  exact g _ τ h
/- a statement that goes on, and what is kept of it -/
theorem WB_cut {st : Stmt} {rest : List Stmt} {Q : Flow → Mu → Sg → Prop} (μ1 : Mu) (σ1 : Sg) (h : WS C A env st μ σ (fun f μ' σ' => f = .next ∧ LeM μ1 μ' ∧ Sub σ1 σ')) (k : WB C A env rest μ1 σ1 Q) : WB C A env (st :: rest) μ σ Q := by
  refine WB_cons (W_ends (W_mono h fun f μ' σ' ⟨e, a, b⟩ => ⟨μ1, σ1, a, b, ?_⟩))
  rw [e]
  exact k
theorem next_now {μ1 μ : Mu} {σ1 σ : Sg} (h1 : LeM μ1 μ) (h2 : Sub σ1 σ) : Flow.next = .next ∧ LeM μ1 μ ∧ Sub σ1 σ := ⟨rfl, h1, h2⟩
/- a test whose answer is known, and what is kept -/
theorem WT_to {e : Expr} {Q : Bool → Sg → Prop} (B : Bool) (σ1 : Sg) (h : WT C A env e μ σ (fun b σ' => b = B ∧ Sub σ1 σ')) (k : Q B σ1) : WT C A env e μ σ Q :=
  W_ends (W_mono h fun b μ' σ' ⟨e1, e2, s⟩ => ⟨μ', σ1, LeM.refl, s, e1, by rw [e2]; exact k⟩)
theorem WE_drop {e : Expr} {Q : Value → Sg → Prop} (h : WE C A env e μ σ (Ret Q)) : WE C A env e μ σ Q := WV_ret h
noncomputable def CMap (C : Cx) (A : Around) (env : Env) (scope : Scope) (cl : List (Str × Addr)) (target : Expr) (ifs : List Expr) (elt : Expr) (vs : List Value) (g : Value → Option Value) (τ : Sg) : Prop :=
  ∀ C' L' x it D (o : AO) ys, C.Le C' → x ∈ vs → WTg C' A (compEnvC scope cl L' env) target [] ((it, o) :: (D, .list ys) :: τ) x (fun μ2 σ2 => WIfs C' A (compEnvC scope cl L' env) ifs μ2 σ2 (fun b σ3 =>
    Br b (WE C' A (compEnvC scope cl L' env) elt μ2 σ3 (fun y σ4 => Sub ((it, o) :: (D, .list ys) :: τ) σ4 ∧ g x = some y)) (Sub ((it, o) :: (D, .list ys) :: τ) σ3 ∧ g x = none)))
theorem CMap.step {g : Value → Option Value} (h : CMap C A env scope cl target ifs elt vs g τ) (hz : vs.length ≤ 1000000) : CStep C A env scope cl target ifs elt vs (fun i ys σ => ys = (vs.take i).filterMap g ∧ σ = τ) := by
  intro C' L' i x ys it D o σ l hx hj hz'
  obtain ⟨rfl, rfl⟩ := hj
  have hi : i < vs.length := by
    by_cases hi : i < vs.length
    · exact hi
    · rw [List.getElem?_eq_none (by wtm_at "om")] at hx; cases hx
  have take : vs.take (i + 1) = vs.take i ++ [x] := by
    rw [List.take_add_one, hx]; rfl
  have len : ∀ k, ((vs.take k).filterMap g).length ≤ 1000000 := fun k => Nat.le_trans (List.length_filterMap_le ..) (by rw [List.length_take]; wtm_at "om")
  intro v' ev
  refine W_mono (h C' L' x it D o ((vs.take i).filterMap g) l (List.mem_of_getElem? hx) v' ev) fun _ μ2 σ2 h2 => ?_
  have imp : ∀ (b : Bool) σ3, Br b (WE C' A (compEnvC scope cl L' env) elt μ2 σ3 (fun y σ4 => Sub ((it, o) :: (D, .list ((vs.take i).filterMap g)) :: σ) σ4 ∧ g x = some y)) (Sub ((it, o) :: (D, .list ((vs.take i).filterMap g)) :: σ) σ3 ∧ g x = none) →
      Br b (WE C' A (compEnvC scope cl L' env) elt μ2 σ3 (fun y σ4 => ∃ τ', Sub ((it, o) :: (D, .list ((vs.take i).filterMap g)) :: τ') σ4 ∧ (((vs.take i).filterMap g) ++ [y]).length ≤ 1000000 ∧ (((vs.take i).filterMap g) ++ [y]) = (vs.take (i + 1)).filterMap g ∧ τ' = σ))
        (CTurn it D o ((vs.take i).filterMap g) (fun ys σ' => ys = (vs.take (i + 1)).filterMap g ∧ σ' = σ) σ3) := by
    intro b σ3 hb
    refine ⟨fun e => WV_mono (hb.1 e) fun y σ4 ⟨a, b⟩ => ?_, fun e => ?_⟩
    · have e2 : (vs.take (i + 1)).filterMap g = (vs.take i).filterMap g ++ [y] := by rw [take, List.filterMap_append]; simp [b]
      exact ⟨σ, a, by rw [← e2]; exact len _, e2.symm, rfl⟩
    · obtain ⟨a, b⟩ := hb.2 e
      have e2 : (vs.take (i + 1)).filterMap g = (vs.take i).filterMap g := by rw [take, List.filterMap_append]; simp [b]
      exact ⟨σ, a, len _, e2.symm, rfl⟩
  match ifs, h2 with
  | [], h2 => exact imp _ _ h2
  | [c], h2 => exact W_mono h2 fun b μ3 σ3 ⟨a, b'⟩ => ⟨a, imp _ _ b'⟩
/- a comprehension whose elements leave no trace -/
noncomputable def LGo (C : Cx) (A : Around) (env : Env) (scope : Scope) (cl : List (Str × Addr)) (target : Expr) (ifs : List Expr) (elt : Expr) (Q : Addr → Sg → Prop) (v : Value) (τ : Sg) : Prop :=
  ∃ (vs : List Value) (H : Sg → Prop) (g : Value → Option Value), ItS C A v vs H τ ∧ H τ ∧ vs.length ≤ 1000000 ∧ CMap C A env scope cl target ifs elt vs g τ ∧ ∀ D, Q D ((D, .list (vs.filterMap g)) :: τ)
theorem LGo.go {Q : Addr → Sg → Prop} {v : Value} (h : LGo C A env scope cl target ifs elt Q v τ) : CGo C A env scope cl target ifs elt Q v τ := by
  obtain ⟨vs, H, g, h1, h2, h3, h4, h5⟩ := h
  refine ⟨vs, H, fun i ys σ => ys = (vs.take i).filterMap g ∧ σ = τ, h1, ⟨rfl, rfl⟩, fun i ys σ h => by rw [h.2]; exact h2, h4.step h3, fun D ys σ h hz => ?_⟩
  rw [h.1, h.2, List.take_length]
  exact h5 D
theorem WE_LC {n : Nat} {Q : Value → Sg → Prop} (cl : List (Str × Addr)) (r : Room A n) (hiter : WE C A env iter μ σ (Ret (LGo C A env scope cl target ifs elt (fun D σ' => Q (.ref D) σ'))))
    (hclos : closureFor scope env = pure cl) (hcell : (scope.names.all fun y => y.2 != .cell) = true) (hkind : scope.kind = .function) (hnames : (scope.names.all fun z => z.2 != .local || scope.names.lookup z.1 == some .local) = true)
    (hs : ∀ x, foldedSetIterable iter env x = pure x) (ht : ∀ it v, letOwnedTupleGo target (.ref it) v = pure ()) : WE C A env (.ListComp elt [⟨target, iter, ifs, 0⟩] scope pos) μ σ Q :=
  WE_ListComp r hclos (fun y hy => by simpa using List.all_eq_true.mp hcell y hy) hkind (fun z hz e => by simpa [e] using List.all_eq_true.mp hnames z hz) (WE_drop (WV_mono hiter fun v σ1 ⟨τ', s, h⟩ => ⟨τ', s, h.go⟩)) hs ht
theorem WS_LC {n : Nat} {y : Str} {py spos : Pos} {Q : Flow → Mu → Sg → Prop} (cl : List (Str × Addr)) (r : Room A n) (hiter : WE C A env iter μ σ (Ret (LGo C A env scope cl target ifs elt (fun D σ' => Q .next ((y, .ref D) :: μ) σ'))))
    (hsw : swapsWith (.ListComp elt [⟨target, iter, ifs, 0⟩] scope pos) (some (.Name y py)) spos.line env = pure true) (hclos : closureFor scope env = pure cl) (hcell : (scope.names.all fun y => y.2 != .cell) = true) (hkind : scope.kind = .function) (hnames : (scope.names.all fun z => z.2 != .local || scope.names.lookup z.1 == some .local) = true)
    (hk : env.scope.kind = .function) (hy : env.kindOf y = some .local)
    (hs : ∀ x, foldedSetIterable iter env x = pure x) (ht : ∀ it v, letOwnedTupleGo target (.ref it) v = pure ()) : WS C A env (.Assign [.Name y py] (.ListComp elt [⟨target, iter, ifs, 0⟩] scope pos) spos) μ σ Q :=
  WS_Assign_ListComp r hsw hclos (fun y hy => by simpa using List.all_eq_true.mp hcell y hy) hkind (fun z hz e => by simpa [e] using List.all_eq_true.mp hnames z hz) hk hy (WE_drop (WV_mono hiter fun v σ1 ⟨τ', s, h⟩ => ⟨τ', s, h.go⟩)) hs ht
/- the plainest: over a text, each sign gives one -/
theorem lgo {Q : Addr → Sg → Prop} {v : Value} {τ' : Sg} (vs : List Value) (H : Sg → Prop) (g : Value → Option Value) (hsub : Sub τ τ') (h1 : ItS C A v vs H τ) (h2 : H τ) (h3 : vs.length ≤ 1000000) (h4 : CMap C A env scope cl target ifs elt vs g τ) (h5 : ∀ D, Q D ((D, .list (vs.filterMap g)) :: τ)) : Ret (LGo C A env scope cl target ifs elt Q) v τ' :=
  ⟨τ, hsub, vs, H, g, h1, h2, h3, h4, h5⟩
end
theorem S_app (a b : List Nat) : S a ++ S b = S (a ++ b) := by
  show (⟨(S a).cps ++ (S b).cps⟩ : Str) = _
  simp [S]
theorem S_len (a : List Nat) : (S a).length = a.length := by show (S a).cps.size = _; simp [S]
theorem chars_S (l : List Nat) : chars (S l) = l.map fun c => vS (S [c]) := by simp [chars, S]
theorem B_addSS {C : Cx} {A : Around} {L : Addr} {σ : Sg} {Q : Value → Sg → Prop} {a b : List Nat} (hz : a.length + b.length ≤ 1000000) (h : Q (vS (S (a ++ b))) σ) : W2 C A L (binaryOp .Add) (vS (S a)) (vS (S b)) σ Q := B_addS (by rw [S_len, S_len]; exact hz) (by rw [S_app]; exact h)
theorem I_addSS {C : Cx} {A : Around} {L : Addr} {σ : Sg} {Q : Value → Sg → Prop} {a b : List Nat} (hz : a.length + b.length ≤ 1000000) (h : Q (vS (S (a ++ b))) σ) : W2 C A L (inplaceOp .Add) (vS (S a)) (vS (S b)) σ Q := I_addS (by rw [S_len, S_len]; exact hz) (by rw [S_app]; exact h)
local macro_rules | `(tactic| wtm_at "len") => `(tactic| ((try simp only [List.length_append, List.length_cons, List.length_nil, List.length_map]); wtm_at "om"))
theorem S_inj {a b : List Nat} : S a = S b ↔ a = b := ⟨fun h => by simpa [S] using h, fun h => by rw [h]⟩
theorem glued_S : ∀ (ls : List (List Nat)), Txt.join (S []) (ls.map S) = S ls.flatten := by
  intro ls
  unfold Txt.join Builtin.Str.glued
  cases ls with
  | nil => rfl
  | cons a r =>
    have key : ∀ (r : List (List Nat)) (acc : Array Nat), (r.map S).foldl (fun acc p => acc ++ (S []).cps ++ p.cps) acc = acc ++ r.flatten.toArray := by
      intro r
      induction r with
      | nil => intro acc; simp
      | cons b t ih => intro acc; rw [List.map_cons, List.foldl_cons, ih]; simp [S]
    simp only [List.map_cons, List.drop_succ_cons, List.drop_zero, List.headD_cons]
    rw [key]
    simp [S]
theorem joinOk_S {ls : List (List Nat)} (h : ls.flatten.length ≤ 1000000) : JoinOk (S []) (ls.map S) = true := by
  unfold JoinOk
  rw [Bool.not_eq_true']
  have e : ∀ (l : List (List Nat)) (k : Nat), (l.map S).foldl (fun (a : Nat) (b : Str) => a + b.length + (S []).length) k = k + l.flatten.length := by
    intro l
    induction l with
    | nil => intro k; simp
    | cons a r ih => intro k; rw [List.map_cons, List.foldl_cons, ih]; simp [S_len]; wtm_at "om"
  have : (ls.map S).toArray.foldl (· + ·.length + (S []).length) 0 = ls.flatten.length := by
    rw [List.foldl_toArray, e]; simp
  rw [this]
  unfold Builtin.Str.tooLong
  have := big_line
  exact decide_eq_false (by wtm_at "om")
theorem flat_one {α β : Type} (f : α → β) : ∀ l : List α, (l.map fun c => [f c]).flatten = l.map f
  | [] => rfl
  | a :: r => by simp [flat_one f r]
/- on a sign -/
noncomputable def gS (f : Nat → List Nat) : Value → Option Value
  | .str s _ => some (vS (S (f (s.cps.getD 0 0))))
  | _ => none
theorem gS_one (f : Nat → List Nat) (c : Nat) : gS f (vS (S [c])) = some (vS (S (f c))) := rfl
theorem gS_map (f : Nat → List Nat) (l : List Nat) : (chars (S l)).filterMap (gS f) = ((l.map f).map S).map vS := by
  rw [chars_S]
  induction l with
  | nil => rfl
  | cons a r ih => simp only [List.map_cons, List.filterMap_cons, gS_one, ih]
theorem chars_mem {l : List Nat} {v : Value} (h : v ∈ chars (S l)) : ∃ c, c ∈ l ∧ v = vS (S [c]) := by
  rw [chars_S] at h
  obtain ⟨c, hc, e⟩ := List.mem_map.mp h
  exact ⟨c, hc, e.symm⟩
theorem chars_len (l : List Nat) : (chars (S l)).length = l.length := by rw [chars_S]; simp
noncomputable def great : List Int := [65, 119808, 119860, 119912, 120016, 120172, 120224, 120276, 120328, 120380, 120432]
noncomputable def letN (c : Nat) (form : Int) : Nat := if form = 0 then c else (great.getD (form - 1).toNat 0 + (c : Int) - 97).toNat
section
variable {C : Cx} {A : Around} {L : Addr} {σ : Sg} {n : Nat} {K : Frag} {Q : Value → Sg → Prop}
theorem C_letter {c : Nat} {form : Int} (r : Room A (n + 1)) (T : Tp (DD K) C) (F : KF K) (h0 : 0 ≤ form) (h1 : form < 12) (h2 : 97 ≤ c) (h3 : c ≤ 122) (h : Q (vS (S [letN c form])) σ) : WC C A L (.ref 296) [vS (S [c]), vI form] σ Q := by
  refine WC_fn F.letter T ["letter", "form"] [("form", vI form), ("letter", vS (S [c]))] r rfl (by (intro pm; refine' ln2 rfl ?_; intro a b; kernel_rfl)) (by kernel_rfl) (by kernel_rfl) (by kernel_rfl) (by kernel_rfl) (by kernel_rfl) ?_
  intro pm C' L' l T' r'
  refine WB_cons ?_
  wtm_at "all"
  refine br (fun hb => ?_) (fun hb => ?_)
  · have hb := of_decide_eq_true hb
    wtm_at "all"
    have e : letN c form = c := if_pos hb
    rw [e] at h
    exact ret_now (τ := σ) (by wtm_at "sub") h
  · have hb := of_decide_eq_false hb
    wtm_at "all"
    obtain ⟨k, hk, hk2⟩ : ∃ k : Nat, form = k + 1 ∧ k < 11 := ⟨(form - 1).toNat, by wtm_at "om", by wtm_at "om"⟩
    subst hk
    have e : letN c ((k : Int) + 1) = (great.getD k 0 + (c : Int) - 97).toNat := by
      unfold letN
      rw [if_neg (by wtm_at "om"), show ((k : Int) + 1 - 1).toNat = k by wtm_at "om"]
    have hx : [vI 65, vI 119808, vI 119860, vI 119912, vI 120016, vI 120172, vI 120224, vI 120276, vI 120328, vI 120380, vI 120432][k]? = some (vI (great.getD k 0)) ∧ 65 ≤ great.getD k 0 ∧ great.getD k 0 ≤ 1000000 := by
      rcases k with _|_|_|_|_|_|_|_|_|_|_|k <;> first | exact ⟨rfl, by decide, by decide⟩ | wtm_at "om"
    refine WG_list (i := (k : Int) + 1 - 1) .here (by wtm_at "om") (by wtm_at "om") (by rw [show ((k : Int) + 1 - 1).toNat = k by wtm_at "om"]; exact hx.1) ?_
    wtm_at "all"
    refine WC_ord ?_
    wtm_at "all"
    refine WC_chr (by wtm_at "om") (by wtm_at "om") ?_
    wtm_at "all"
    rw [e] at h
    exact ret_now (τ := σ) (by wtm_at "sub") h
end
noncomputable def lig (k : Nat) : Nat := ([64256, 64257, 64258, 64259, 64260, 64262, 116, 102] : List Nat).getD k 0
noncomputable def shown (name : List Nat) (k : Nat) (x : Int) : List Nat := if x % 3 = 1 ∨ (x % 3 = 2 ∧ k ≠ 5) then name.map fun c => letN c (x / 3 % 12) else if x % 3 = 2 then [64261] else [lig k]
noncomputable def typedN (name : List Nat) (k : Nat) (x : Int) : List Nat := if x / 972 % 2 = 0 then (hidN (x / 36)).toNat :: shown name k x else shown name k x ++ [(hidN (x / 36)).toNat]
theorem shown_len (name : List Nat) (k : Nat) (x : Int) : (shown name k x).length ≤ name.length + 1 := by
  unfold shown
  split
  · simp
  · split <;> simp
section
variable {C : Cx} {A : Around} {L : Addr} {σ : Sg} {n : Nat} {K : Frag} {Q : Value → Sg → Prop}
theorem C_typed {name : List Nat} {k : Nat} {x : Int} (r : Room A (n + 3)) (T : Tp (DD K) C) (F : KF K) (hn : ∀ c ∈ name, 97 ≤ c ∧ c ≤ 122) (hz : name.length ≤ 100) (hk : k < 8) (h : Q (vS (S (typedN name k x))) σ) : WC C A L (.ref 301) [vS (S name), vI k, vI x] σ Q := by
  refine WCK.wc (WCK_fnC F.typed T ["name", "card", "x"] [("card", vI k), ("name", vS (S name))] (fun L' => [("x", L' + 1)]) (fun L' => [(L' + 1, .cell (some (vI x)))]) r (by kernel_rfl) (by intro; kernel_rfl) (by intro; kernel_rfl) (by (intro pm; refine' ln3 rfl ?_; intro a b d; kernel_rfl)) ["x"] (by intro; rfl) (by kernel_rfl) (by kernel_rfl) (by decide +kernel) (by kernel_rfl) (by kernel_rfl) (by kernel_rfl) ?_)
  intro pm C' L' l T' r' hcl
  refine WB_cons ?_
  dsimp only [List.cons_append, List.nil_append]
  wtm_at "one"
  have hx : [vI 64256, vI 64257, vI 64258, vI 64259, vI 64260, vI 64262, vI 116, vI 102][k]? = some (vI (lig k)) ∧ lig k ≤ 100000 := by
    rcases k with _|_|_|_|_|_|_|_|k <;> first | exact ⟨rfl, by decide⟩ | wtm_at "om"
  refine WG_list .here (by wtm_at "om") (by wtm_at "om") (by rw [show (k : Int).toNat = k by wtm_at "om"]; exact hx.1) ?_
  repeat wtm_at "m"
  refine WC_chr (by wtm_at "om") (by wtm_at "om") ?_
  wtm_at "one"
  rw [show ((lig k : Int)).toNat = lig k by wtm_at "om"]
  refine WB_cut [("typed", vS (S (shown name k x))), ("card", vI k), ("name", vS (S name))] ((L' + 1, .cell (some (vI x))) :: σ) ?_ ?_
  · refine WS_If (WT_to (decide (x % 3 = 1 ∨ (x % 3 = 2 ∧ k ≠ 5))) ((L' + 1, .cell (some (vI x))) :: σ) ?_ ?_)
    · wtm_at "one"
      refine br (fun hb => ?_) (fun hb => ?_)
      · have hb := of_decide_eq_true hb
        exact ⟨by simp [hb], by wtm_at "sub"⟩
      · have hb := of_decide_eq_false hb
        wtm_at "one"
        refine br (fun hc => ?_) (fun hc => ?_)
        · have hc := of_decide_eq_true hc
          wtm_at "one"
          refine ⟨?_, by wtm_at "sub"⟩
          rw [Bool.eq_iff_iff]
          simp only [decide_eq_true_eq]
          wtm_at "om"
        · have hc := of_decide_eq_false hc
          refine ⟨?_, by wtm_at "sub"⟩
          rw [Bool.eq_iff_iff]
          simp
          wtm_at "om"
    refine br (fun hb => ?_) (fun hb => ?_)
    · have e : shown name k x = name.map fun c => letN c (x / 3 % 12) := if_pos (of_decide_eq_true hb)
      wtm_at "all"
      refine WE_LC [("x", L' + 1)] r' ?_ (by kernel_rfl) (by kernel_rfl) (by kernel_rfl) (by kernel_rfl) (by intro _; rfl) (by intro _ _; rfl)
      wtm_at "one"
      refine lgo (τ := (L' + 1, .cell (some (vI x))) :: σ) (chars (S name)) (fun _ => True) (gS fun c => [letN c (x / 3 % 12)]) (by wtm_at "sub") ItS_str trivial (by rw [chars_len]; wtm_at "om") ?_ (fun D => ?_)
      · intro C'' L'' v it D o ys l'' hv
        obtain ⟨c, hc, rfl⟩ := chars_mem hv
        have T'' := T'.le l''
        refine WTg_name ?_
        wtm_at "one"
        refine C_letter (n := n + 1) r' T'' F (by wtm_at "om") (by wtm_at "om") (hn c hc).1 (hn c hc).2 ?_
        exact ⟨by wtm_at "sub", rfl⟩
      · rw [gS_map]
        wtm_at "one"
        refine WC_join .here (joinOk_S ?_) ?_
        · rw [flat_one]; simp; wtm_at "om"
        rw [glued_S, flat_one]
        wtm_at "one"
        rw [← e]
        wtm_at "next"
    · have hb := of_decide_eq_false hb
      refine WB_last ?_
      wtm_at "one"
      refine br (fun hc => ?_) (fun hc => ?_)
      · have hc := of_decide_eq_true hc
        have e : shown name k x = [64261] := (if_neg hb).trans (if_pos hc)
        wtm_at "all"
        refine WC_chr (by decide) (by decide) ?_
        rw [show (64261 : Int).toNat = 64261 from rfl]
        wtm_at "all"
        rw [e]
        wtm_at "next"
      · have hc := of_decide_eq_false hc
        have e : shown name k x = [lig k] := (if_neg hb).trans (if_neg hc)
        wtm_at "all"
        rw [e]
        wtm_at "next"
  · refine WB_cons ?_
    wtm_at "one"
    refine br (fun hb => ?_) (fun hb => ?_)
    · have hb := of_decide_eq_true hb
      have e : typedN name k x = (hidN (x / 36)).toNat :: shown name k x := if_pos hb
      wtm_at "one"
      refine C_hidden (n := n) r' T' F ?_
      wtm_at "one"
      refine B_addS ?_ ?_
      · have := shown_len name k x
        simp [S_len, hid]; wtm_at "om"
      wtm_at "one"
      rw [show hid (x / 36) = S [(hidN (x / 36)).toNat] from rfl, S_app]
      rw [e] at h
      exact ret_now (τ := σ) (by wtm_at "sub") h
    · have hb := of_decide_eq_false hb
      have e : typedN name k x = shown name k x ++ [(hidN (x / 36)).toNat] := if_neg hb
      wtm_at "one"
      refine C_hidden (n := n) r' T' F ?_
      wtm_at "one"
      refine B_addS ?_ ?_
      · have := shown_len name k x
        simp [S_len, hid]; wtm_at "om"
      wtm_at "one"
      rw [show hid (x / 36) = S [(hidN (x / 36)).toNat] from rfl, S_app]
      rw [e] at h
      exact ret_now (τ := σ) (by wtm_at "sub") h
end
noncomputable def barred (place : Nat) (way : Int) : Bool := decide (way = 1 ∨ (way = 0 ∧ place % 2 = 1))
noncomputable def inner (place : Nat) (way : Int) (word : List Nat) : List Nat := if barred place way then (word.map fun c => [92, c]).flatten else word
noncomputable def aheadN (place : Nat) : Nat := ([9, 32, 13] : List Nat).getD (place % 3) 0
noncomputable def behindN (place : Nat) : Nat := ([13, 9, 10, 32] : List Nat).getD (place % 4) 0
noncomputable def rawN (place : Nat) (way : Int) (word : List Nat) : List Nat := if way = 0 then [10, aheadN place] ++ [34] ++ inner place way word ++ [34] else [10, aheadN place] ++ inner place way word ++ [behindN place]
theorem item_S {l : List Nat} {i : Nat} (h : i < l.length) : (Txt.charAt (S l) i).isSome = true ∧ Txt.item (S l) i = S [l.getD i 0] := by
  have e : seqIndex? (i : Int) (S l).length = some i := by
    rw [S_len]
    unfold seqIndex?
    have h1 : ¬ ((i : Int) < 0) := by wtm_at "om"
    have h2 : (i : Int) < (l.length : Int) := by wtm_at "om"
    simp [h1, h2]
  have g : (S l).cps[i]? = some l[i] := by simp [h]
  unfold Txt.item Txt.charAt
  rw [e]
  simp only [Option.bind_some, g, Option.isSome_some, Option.getD_some, true_and]
  simp [h]
theorem two_len : ∀ l : List Nat, (l.map fun c => [92, c]).flatten.length = 2 * l.length
  | [] => rfl
  | a :: r => by rw [List.map_cons, List.flatten_cons, List.length_append, two_len r]; simp; wtm_at "om"
section
variable {C : Cx} {A : Around} {L : Addr} {σ : Sg} {n : Nat} {K : Frag} {Q : Value → Sg → Prop}
theorem WG_S {l : List Nat} {i : Int} (h0 : 0 ≤ i) (h1 : i < l.length) (hz : l.length ≤ 1000000) (h : Q (vS (S [l.getD i.toNat 0])) σ) : WG C A L (vS (S l)) (vI i) σ Q := by
  obtain ⟨k, rfl⟩ : ∃ k : Nat, i = k := ⟨i.toNat, by wtm_at "om"⟩
  obtain ⟨a, b⟩ := item_S (l := l) (i := k) (by wtm_at "om")
  refine WG_str ?_ a ?_
  · unfold fitsSsize
    simp
    wtm_at "om"
  · rw [b]; exact h
theorem C_raw {word : List Nat} {k : Nat} {way : Int} (r : Room A (n + 3)) (T : Tp (DD K) C) (F : KF K) (hz : word.length ≤ 1000) (hk : k < 8) (h : Q (vS (S (rawN k way word))) σ) : WC C A L (.ref 306) [vI k, vI way, vS (S word)] σ Q := by
  refine WC_fn F.raw T ["place", "way", "word"] [("word", vS (S word)), ("way", vI way), ("place", vI k)] r rfl (by (intro pm; refine' ln3 rfl ?_; intro a b d; kernel_rfl)) (by kernel_rfl) (by kernel_rfl) (by kernel_rfl) (by kernel_rfl) (by kernel_rfl) ?_
  intro pm C' L' l T' r'
  have hlen : (inner k way word).length ≤ 2000 := by
    unfold inner
    split
    · rw [two_len]; wtm_at "om"
    · wtm_at "om"
  refine WB_cut [("word", vS (S (inner k way word))), ("way", vI way), ("place", vI k)] σ ?_ ?_
  · refine WS_If (WT_to (barred k way) σ ?_ ?_)
    · wtm_at "one"
      refine br (fun hb => ?_) (fun hb => ?_)
      · have hb := of_decide_eq_true hb
        exact ⟨by simp [barred, hb], by wtm_at "sub"⟩
      · have hb := of_decide_eq_false hb
        wtm_at "one"
        refine br (fun hc => ?_) (fun hc => ?_)
        · have hc := of_decide_eq_true hc
          wtm_at "one"
          refine ⟨?_, by wtm_at "sub"⟩
          unfold barred
          rw [Bool.eq_iff_iff]
          simp only [decide_eq_true_eq]
          wtm_at "om"
        · have hc := of_decide_eq_false hc
          refine ⟨?_, by wtm_at "sub"⟩
          unfold barred
          rw [Bool.eq_iff_iff]
          simp
          wtm_at "om"
    refine br (fun hb => ?_) (fun hb => ?_)
    · have e : inner k way word = (word.map fun c => [92, c]).flatten := if_pos hb
      wtm_at "all"
      refine WE_LC [] r' ?_ (by kernel_rfl) (by kernel_rfl) (by kernel_rfl) (by kernel_rfl) (by intro _; rfl) (by intro _ _; rfl)
      wtm_at "one"
      refine lgo (τ := σ) (chars (S word)) (fun _ => True) (gS fun c => [92, c]) (by wtm_at "sub") ItS_str trivial (by rw [chars_len]; wtm_at "om") ?_ (fun D => ?_)
      · intro C'' L'' v it D o ys l'' hv
        obtain ⟨c, hc, rfl⟩ := chars_mem hv
        refine WTg_name ?_
        wtm_at "one"
        exact ⟨by wtm_at "sub", rfl⟩
      · rw [gS_map]
        wtm_at "one"
        refine WC_join .here (joinOk_S ?_) ?_
        · rw [← e]; wtm_at "om"
        rw [glued_S, ← e]
        wtm_at "one"
        wtm_at "next"
    · have e : inner k way word = word := if_neg (by rw [hb]; decide)
      wtm_at "all"
      rw [e]
      wtm_at "next"
  · refine WB_cons ?_
    wtm_at "one"
    refine WG_S (by wtm_at "om") (by simp; wtm_at "om") (by simp) ?_
    rw [show ((k : Int) % 3).toNat = k % 3 by wtm_at "om"]
    wtm_at "all"
    refine br (fun hb => ?_) (fun hb => ?_)
    · have hb := of_decide_eq_true hb
      have e : rawN k way word = [10, aheadN k] ++ [34] ++ inner k way word ++ [34] := if_pos hb
      wtm_at "all"
      rw [e] at h
      exact ret_now (τ := σ) (by wtm_at "sub") h
    · have hb := of_decide_eq_false hb
      have e : rawN k way word = [10, aheadN k] ++ inner k way word ++ [behindN k] := if_neg hb
      wtm_at "all"
      refine WG_S (by wtm_at "om") (by simp; wtm_at "om") (by simp) ?_
      rw [show ((k : Int) % 4).toNat = k % 4 by wtm_at "om"]
      wtm_at "all"
      rw [e] at h
      exact ret_now (τ := σ) (by wtm_at "sub") h
end
/- what is known of a class of the text -/
structure ClsF (K : Frag) (Cc init : Addr) (free : List Str) : Prop where
  get : ∀ name, plainGet K Cc name = true
  dict : hasDictIn K Cc = true
  over : plainOver K Cc = true
  set : findIn K (.ref Cc) "__setattr__" = some (some (.builtin "object.__setattr__"))
  makes : makesIn K Cc = true
  initAt : findIn K (.ref Cc) "__init__" = some (some (.ref init))
  initf : typeIn K (.ref init) = some (.type "function")
  keep : keepIn K (.ref Cc) = true
  free : (free.all fun x => findIn K (.ref Cc) x == some none) = true
structure MetF (K : Frag) (Cc : Addr) (name : Str) (fn : Addr) : Prop where
  find : findIn K (.ref Cc) name = some (some (.ref fn))
  isfn : isFn K (.ref fn) = true
  get : specialIn K (.ref fn) "__get__" = some (some (.builtin "function.__get__"))
  take : takesIn K (.ref fn) = some false
theorem ClsF.no {K : Frag} {Cc init : Addr} {free : List Str} (c : ClsF K Cc init free) {x : Str} (h : free.contains x = true) : findIn K (.ref Cc) x = some none :=
  beq_iff_eq.mp (List.all_eq_true.mp c.free x (List.contains_iff_mem.mp h))
/- a name is put into a dict of names -/
inductive PutIn (x : Str) (v : Value) : List (Str × Value) → List (Str × Value) → Prop
  | new : PutIn x v [] [(x, v)]
  | here {u r} : PutIn x v ((x, u) :: r) ((x, v) :: r)
  | there {y u r r'} : (y == x) = false → PutIn x v r r' → PutIn x v ((y, u) :: r) ((y, u) :: r')
theorem PutIn.cert {x : Str} {v : Value} : ∀ {a b : List (Str × Value)}, putS x v a = b → PutIn x v a b := by
  intro a
  induction a with
  | nil => intro b h; subst h; exact .new
  | cons p r ih =>
    intro b h
    obtain ⟨y, u⟩ := p
    subst h
    by_cases e : y = x
    · subst e; rw [putS, if_pos rfl]; exact .here
    · rw [putS, if_neg e]; exact .there (beq_eq_false_iff_ne.mpr e) (ih rfl)
@[irreducible] noncomputable def PutI (_ : Str) (_ : Value) (_ _ : List (Str × Value)) : Prop := True
theorem PutI.new {x : Str} {v : Value} : PutI x v [] [(x, v)] := by unfold PutI; trivial
theorem PutI.here {x : Str} {v u : Value} {r : List (Str × Value)} : PutI x v ((x, u) :: r) ((x, v) :: r) := by unfold PutI; trivial
theorem PutI.there {x y : Str} {u v : Value} {r r' : List (Str × Value)} : PutI x v r r' → PutI x v ((y, u) :: r) ((y, u) :: r') := by unfold PutI; exact id
def PutD (x : Str) (v : Value) (a b : List (Str × Value)) : Prop := PutI x v a b → PutIn x v a b
theorem PutIn.eq {x : Str} {v : Value} {a b : List (Str × Value)} (h : PutIn x v a b) : putS x v a = b := by
  induction h with
  | new => rfl
  | here => simp [putS]
  | there h _ ih => rw [putS, if_neg (by simpa using h), ih]
theorem getS_of {x : Str} {v : Value} {l : List (Str × Value)} (h : LookIn x l v) : getS x l = some v := by
  induction h with
  | here => simp [getS]
  | there h _ ih =>
    rw [getS, if_neg (fun e => by subst e; simp at h), ih]
theorem getS_no {x : Str} : ∀ {l : List (Str × Value)}, (l.all fun p => !(p.1 == x)) = true → getS x l = none
  | [], _ => rfl
  | (y, v) :: r, h => by
    simp only [List.all_cons, Bool.and_eq_true] at h
    rw [getS, if_neg (by simpa using h.1)]
    exact getS_no h.2
section
variable {C : Cx} {A : Around} {L : Addr} {μ : Mu} {σ : Sg} {env : Env} {K : Frag} {Q : Value → Sg → Prop} {Cc init x d fn : Addr} {free : List Str} {kvs : List (Str × Value)} {f g : AO → Sg} {name : Str} {v : Value}
theorem WA_at (T : Tp (DD K) C) (c : ClsF K Cc init free) (h1 : At σ x (.inst Cc d) f) (h2 : At σ d (.sd kvs) g) (hn : free.contains name = true) (hl : LookIn name kvs v) (hv : handedIn v = true) (h : Q v σ) : WA C A L (.ref x) name σ Q :=
  WA_own T h1 h2 (c.get name) c.dict (c.no hn) rfl (getS_of hl) hv h
theorem WP_at {kvs' : List (Str × Value)} {Q : Sg → Prop} (T : Tp (DD K) C) (c : ClsF K Cc init free) (h1 : At σ x (.inst Cc d) f) (h2 : At σ d (.sd kvs) g) (hn : free.contains name = true) (hp : PutIn name v kvs kvs') (hz : kvs'.length ≤ 1000) (h : Q (g (.sd kvs'))) : WP C A L (.ref x) name v σ Q := by
  have e := hp.eq
  refine WP_inst T h1 h2 c.set c.over ?_ c.dict (by rw [e]; exact hz) (by rw [e]; exact h)
  unfold takerIn
  rw [show findIn (DD K).K (.ref Cc) name = some none from c.no hn]
  rfl
theorem WM_met {Q : Value → List Value → Sg → Prop} (T : Tp (DD K) C) (c : ClsF K Cc init free) (m : MetF K Cc name fn) (h1 : At σ x (.inst Cc d) f) (h2 : At σ d (.sd kvs) g) (hl : (kvs.all fun p => !(p.1 == name)) = true) (h : Q (.ref fn) [.ref x] σ) : WM C A L (.ref x) name σ Q :=
  WM_inst T h1 h2 (c.get name) m.find m.isfn (getS_no hl) h
theorem WM_ownv {Q : Value → List Value → Sg → Prop} (T : Tp (DD K) C) (c : ClsF K Cc init free) (h1 : At σ x (.inst Cc d) f) (h2 : At σ d (.sd kvs) g) (hn : free.contains name = true) (hl : LookIn name kvs v) (hc : CanF v) (hv : handedIn v = true) (h : Q v [] σ) : WM C A L (.ref x) name σ Q :=
  WM_own T h1 h2 (c.get name) c.dict (c.no hn) (getS_of hl) hc hv h
theorem WM_overv {Q : Value → List Value → Sg → Prop} (T : Tp (DD K) C) (c : ClsF K Cc init free) (m : MetF K Cc name fn) (h1 : At σ x (.inst Cc d) f) (h2 : At σ d (.sd kvs) g) (hl : LookIn name kvs v) (hc : CanF v) (hv : handedIn v = true) (h : Q v [] σ) : WM C A L (.ref x) name σ Q :=
  WM_over T h1 h2 (c.get name) c.dict m.find m.isfn (by rw [show specialIn (DD K).K (.ref fn) "__get__" = _ from m.get]; rfl) m.take (getS_of hl) hc hv h
theorem WA_met (T : Tp (DD K) C) (c : ClsF K Cc init free) (m : MetF K Cc name fn) (h1 : At σ x (.inst Cc d) f) (h2 : At σ d (.sd kvs) g) (hc : copiedNames.contains name = false) (hl : (kvs.all fun p => !(p.1 == name)) = true)
    (h : ∀ q, Q (.ref q) ((q, .obj (methodObj (.ref fn) (.ref x))) :: σ)) : WA C A L (.ref x) name σ Q :=
  WA_bound T h1 h2 (c.get name) c.dict m.find m.isfn m.get m.take hc (getS_no hl) h
theorem WS_AssignAttr {o value : Expr} {attr : Str} {pos' pos : Pos} {Q : Flow → Mu → Sg → Prop} (h : WE C A env value μ σ (fun v σ1 => WE C A env o μ σ1 (fun ov σ2 => WP C A env.locals ov attr v σ2 (fun σ3 => Q .next μ σ3))))
    (hs : swapsWith value (some (.Attribute o attr pos')) pos.line env = pure false) : WS C A env (.Assign [.Attribute o attr pos'] value pos) μ σ Q := by
  unfold WS
  rw [plainObj_exec_Assign_Attribute _ _ _ _ _ hs]
  refine W_bind (W_standAt (W_bind (W_mono h fun v μ1 σ1 ⟨e1, h1⟩ => ?_)))
  subst e1
  rw [assign_Attribute]
  refine W_bind (W_bind (W_holding (W_mono h1 fun ov μ2 σ2 ⟨e2, h2⟩ => ?_)))
  subst e2
  refine W_bind (W_standAt (W_bind (W_holding (W_mono (h2 _ _ _ rfl rfl) fun _ μ3 σ3 ⟨e3, h3⟩ => ?_))))
  subst e3
  exact W_release (W_pure h3)
theorem WS_AugAttr {o value : Expr} {attr : Str} {tpos pos : Pos} {op : Operator} {Q : Flow → Mu → Sg → Prop} (h : WE C A env o μ σ (fun ov σ1 => WA C A env.locals ov attr σ1 (fun old σ2 => WE C A env value μ σ2 (fun v σ3 => W2 C A env.locals (inplaceOp op) old v σ3 (fun new σ4 =>
    WP C A env.locals ov attr new σ4 (fun σ5 => Q .next μ σ5)))))) : WS C A env (.AugAssign (.Attribute o attr tpos) op value pos) μ σ Q := fun s hs => by
  refine wpAny_AugAssign_AttributeAny (wpAny_mono (h s hs) (fun ov s1 h1 => ?_) fun _ _ x => x.elim)
  obtain ⟨μ1, σ1, ⟨rfl, h1⟩, st1⟩ := h1
  refine wpAny_mono (h1 _ true _ rfl s1 st1) (fun old s2 h2 => ?_) fun _ _ x => x.elim
  obtain ⟨μ2, σ2, ⟨rfl, h2⟩, st2⟩ := h2
  refine wpAny_mono (h2 s2 st2) (fun v s3 h3 => ?_) fun _ _ x => x.elim
  obtain ⟨μ3, σ3, ⟨rfl, h3⟩, st3⟩ := h3
  refine wpAny_mono (h3 _ _ _ rfl rfl s3 st3) (fun new s4 h4 => ?_) fun _ _ x => x.elim
  obtain ⟨μ4, σ4, ⟨rfl, h4⟩, st4⟩ := h4
  refine wpAny_mono (h4 _ _ _ rfl rfl s4 st4) (fun _ s5 h5 => ?_) fun _ _ x => x.elim
  obtain ⟨μ5, σ5, ⟨rfl, h5⟩, st5⟩ := h5
  exact ⟨_, _, h5, st5⟩
theorem room_make {n : Nat} {rest : List Value} (r : Room A (n + 1)) : Room (A.under (.builtin "type.__call__" ⟨.ref Cc :: rest, []⟩)) n := by
  have e1 : (A.under (.builtin "type.__call__" ⟨.ref Cc :: rest, []⟩)).depth = A.depth + 1 := rfl
  have e2 : (A.under (.builtin "type.__call__" ⟨.ref Cc :: rest, []⟩)).units = A.units + 1 := by
    show A.units + (Code.builtin "type.__call__" ⟨.ref Cc :: rest, []⟩).cUnits = _
    rw [show (Code.builtin "type.__call__" ⟨.ref Cc :: rest, []⟩).cUnits = 1 by kernel_rfl]
  exact ⟨r.hh, by rw [e1]; have := r.dep; wtm_at "om", by rw [e2]; have := r.un; wtm_at "om"⟩
/- an object is made -/
theorem WC_make {n : Nat} {rest : List Value} (T : Tp (DD K) C) (c : ClsF K Cc init free) (r : Room A (n + 1))
    (h : ∀ A' x d, Room A' n → WCK C A' L (.ref init) (.ref x :: rest) ((x, .inst Cc d) :: (d, .sd []) :: σ) (fun v σ' => v = .none ∧ Q (.ref x) σ')) : WC C A L (.ref Cc) rest σ Q := by
  refine WCK.wc fun μ rest' er s hs => ?_
  obtain ⟨m, news, F, k, N, R⟩ := hs.news
  refine make_K F N (T.X.keeps hs.keep) c.makes c.initAt c.initf fun x dx h' F' N' hlt hdx => ?_
  have st : St C L μ ((x, .inst Cc dx) :: (dx, .sd []) :: σ) { s with heap := h' } := by
    refine hs.back (tk := s.toks) F' k N' (.cons rfl (.cons ⟨[], 0, rfl, rfl⟩ R)) ?_
    have hl : ∀ p ∈ σ, p.1 < dx := fun p hp => by
      have : p.1 ∈ news.map (·.1) := by rw [R.keys]; exact List.mem_map_of_mem hp
      obtain ⟨q, hq, e⟩ := List.mem_map.mp this
      rw [← e]; exact hlt q hq
    refine List.nodup_cons.mpr ⟨fun hm => ?_, List.nodup_cons.mpr ⟨fun hm => ?_, hs.nd⟩⟩
    · rcases List.mem_cons.mp hm with e | hm
      · have e : x = dx := e
        rw [e] at hdx; exact Nat.lt_irrefl _ hdx
      · obtain ⟨p, hp, e⟩ := List.mem_map.mp hm
        have h1 := hl p hp
        rw [e] at h1
        exact Nat.lt_irrefl _ (Nat.lt_trans hdx h1)
    · obtain ⟨p, hp, e⟩ := List.mem_map.mp hm
      have h1 := hl p hp
      rw [e] at h1
      exact Nat.lt_irrefl _ h1
  have z := h (A.under (.builtin "type.__call__" ⟨.ref Cc :: rest', []⟩)) x dx (room_make r) μ (.ref x :: rest') (by rw [List.map_cons, er]; rfl) _ st
  refine codeAny_mono z fun r s' z => ?_
  rcases r with e | (v | _ | _ | _) <;> first | exact z.elim | skip
  obtain ⟨σ', ⟨e, q⟩, st'⟩ := z
  exact ⟨can_none e, σ', q, st'⟩
end
structure KG (K : Frag) : Prop where
  lex : ClsF K 84 60 ["lineno", "instream", "whitespace", "pushback", "read"]
  lexRead : MetF K 84 "_read_char" 67
  lexGet : MetF K 84 "get_token" 74
  lexPush : MetF K 84 "push_token" 81
  wri : ClsF K 264 181 ["_write", "_data", "_with_comments", "_strip_text", "_exclude_attrs", "_exclude_tags", "_rewrite_prefixes", "_qname_aware_tags", "_find_qname_aware_attrs", "_declared_ns_stack", "_ns_stack", "_prefix_map", "_preserve_space", "_pending_start", "_root_seen", "_root_done", "_ignored_depth"]
  wriIter : MetF K 264 "_iter_namespaces" 189
  wriQname : MetF K 264 "_qname" 204
  wriData : MetF K 264 "data" 211
  wriFlush : MetF K 264 "_flush" 220
  wriStart : MetF K 264 "start" 234
  wriStart2 : MetF K 264 "_start" 240
  wriEnd : MetF K 264 "end" 247
  wriPi : MetF K 264 "pi" 261
theorem Kp_cls {C : Cx} {σ : Sg} {K : Frag} {Cc init : Addr} {free : List Str} (T : Tp (DD K) C) (c : ClsF K Cc init free) : Kp C σ (.ref Cc) := Kp_K T c.keep
theorem WC_sub {C : Cx} {A : Around} {L : Addr} {f : Value} {vs : List Value} {σ τ : Sg} {Q : Value → Sg → Prop} (h : Sub τ σ) (k : WC C A L f vs τ Q) : WC C A L f vs σ Q := fun μ as e => W_sub h (k μ as e)
section
variable {C : Cx} {A : Around} {L : Addr} {σ ρ : Sg} {n : Nat} {K : Frag} {Q : Value → Sg → Prop}
noncomputable abbrev white : List Nat := [10, 9, 13, 32]
theorem litW : (Str.ofString "\n\t\r ") = S white := by kernel_rfl
/- a lexer's names -/
noncomputable abbrev lexD (line : Int) (stream : Value) (p : Addr) : List (Str × Value) := [("lineno", vI line), ("instream", stream), ("whitespace", vS (S white)), ("pushback", .ref p)]
theorem C_lexInit {x d : Addr} {v : Value} (r : Room A (n + 1)) (T : Tp (DD K) C) (F : KF K) (G : KG K) (h : ∀ p, Q .none ((p, .list []) :: (x, .inst 84 d) :: (d, .sd (lexD 1 v p)) :: ρ)) : WCK C A L (.ref 60) [.ref x, v] ((x, .inst 84 d) :: (d, .sd []) :: ρ) Q := by
  refine WCK_fn F.lxInit T ["self", "fp"] [("fp", v), ("self", .ref x)] r rfl (by (intro pm; refine' ln2 rfl ?_; intro a b; kernel_rfl)) (by kernel_rfl) (by kernel_rfl) (by kernel_rfl) (by kernel_rfl) (by kernel_rfl) ?_
  intro pm C' L' l T' r'
  refine WB_cons ?_
  wtm_at "all"
  exact ret_nx (τ := _) (by wtm_at "sub") (h _)
theorem C_push {x d p : Addr} {line : Int} {v : Value} {t : Value} {vs : List Value} (r : Room A (n + 1)) (T : Tp (DD K) C) (F : KF K) (G : KG K) (hz : vs.length ≤ 1000000) (h : Q .none ((p, .list (vs ++ [t])) :: (x, .inst 84 d) :: (d, .sd (lexD line v p)) :: ρ)) :
    WC C A L (.ref 81) [.ref x, t] ((p, .list vs) :: (x, .inst 84 d) :: (d, .sd (lexD line v p)) :: ρ) Q := by
  refine WC_fn F.lxPush T ["self", "token"] [("token", t), ("self", .ref x)] r rfl (by (intro pm; refine' ln2 rfl ?_; intro a b; kernel_rfl)) (by kernel_rfl) (by kernel_rfl) (by kernel_rfl) (by kernel_rfl) (by kernel_rfl) ?_
  intro pm C' L' l T' r'
  refine WB_cons ?_
  wtm_at "all"
  refine WC_append .here hz ?_
  wtm_at "all"
  exact ret_nx (by wtm_at "sub") h
end
theorem At.upsF {P : Params} {σ : Sg} {a : Addr} {o : AO} {f : AO → Sg} {news : List (Addr × Obj)} (x : At σ a o f) (R : RepAll P σ news) (nd : (σ.map (·.1)).Nodup) :
    ∃ ob g, Rep P o ob ∧ UpdF a ob news g ∧ (a, ob) ∈ news ∧ ∀ o' ob', Rep P o' ob' → RepAll P (f o') (g ob') := by
  induction x generalizing news with
  | here =>
    cases R with
    | cons hr R' =>
      rename_i ob news'
      refine ⟨ob, _, hr, .head fun p hp e => ?_, .head _, fun o' ob' hr' => .cons hr' R'⟩
      have : p.1 ∈ news'.map (·.1) := List.mem_map_of_mem hp
      rw [R'.keys, e] at this
      exact (List.nodup_cons.mp nd).1 this
  | there x ih =>
    cases R with
    | cons hr R' =>
      obtain ⟨ob, g, h1, h2, h3, h4⟩ := ih R' (List.nodup_cons.mp nd).2
      refine ⟨ob, _, h1, .tail (fun e => (List.nodup_cons.mp nd).1 ?_) h2, .tail _ h3, fun o' ob' hr' => .cons hr (h4 o' ob' hr')⟩
      have e : _ = _ := e
      show _ ∈ _
      dsimp only at e ⊢
      rw [e]
      exact List.mem_map_of_mem (f := (·.1)) x.mem
section
variable {C : Cx} {A : Around} {L : Addr} {μ : Mu} {σ : Sg} {env : Env} {K : Frag}
theorem lt_keys {P : Params} {news : List (Addr × Obj)} {σ : Sg} {c : Addr} (R : RepAll P σ news) (h : ∀ q ∈ news, q.1 < c) : ∀ p ∈ σ, p.1 < c := fun p hp => by
  have : p.1 ∈ news.map (·.1) := by rw [R.keys]; exact List.mem_map_of_mem hp
  obtain ⟨q, hq, e⟩ := List.mem_map.mp this
  rw [← e]; exact h q hq
noncomputable def IsRec (oc : Obj) (qual : Str) : Prop := ∃ vs t, oc.data = .fields vs ∧ vs[1]? = some (.str qual t)
theorem WS_nest {name : Str} {params : Arguments} {body : List Stmt} {scope : Scope} {pos : Pos} {cn : Str} {cs : Scope} {a c P : Addr} {cl clos : List (Str × Addr)} {ps : Array Value} {k : AO → Sg} {Q : Flow → Mu → Sg → Prop} (T : Tp (DD K) C) (hc : codeHdIn K c P = true)
    (henv : env = envX cn cs env.locals a (.ref c) cl) (hP : At σ P (.obj (tabObj ps)) k) (ht : TriplesOk ps.toList) (hnf : codeAmong pos ps.toList = none) (hcl : closureFor scope env = pure clos) (hd0 : params.defaults = []) (hk0 : params.kw_defaults = []) (ha : annTrees params none env = [])
    (h : ∀ f c' oc doc pm ctv, IsRec oc (qualnameIn env name name) → Binds C A env name μ ((f, .obj (fnMade name (qualnameIn env name name) params body scope clos doc pm c' ctv)) :: (c', .obj oc) :: k (.obj (tabObj (ps ++ #[rawInt pos.line, rawInt pos.col, .ref c'])))) (.ref f) (Q .next)) :
    WS C A env (.FunctionDef name params body [] none [] scope none name pos) μ σ Q := fun s hs => by
  obtain ⟨m, news, F, km, N, R⟩ := hs.news
  obtain ⟨ob, g, hr, U, hm, hR⟩ := hP.upsF R hs.nd
  have hr : ob = tabObj ps := hr
  subst hr
  obtain ⟨p, loose, mean, mg, mb, T'⟩ := T.top
  have nd := hs.nd
  refine nestDef_K hd0 hk0 ha ?_
  generalize hq : qualnameIn env name name = qual at h ⊢
  rw [henv]
  rw [henv] at hcl
  refine nest_K F N T' (codeHd_of_K T.X hc) rfl U ht hnf hcl fun f c' oc vs t ctv doc h' tk F' N' e1 e2 hlt hcf => ?_
  rw [← henv]
  have st : St C env.locals μ ((f, .obj (fnMade name qual params body scope clos doc ((mg "__name__").getD .none) c' ctv)) :: (c', .obj oc) :: k (.obj (tabObj (ps ++ #[rawInt pos.line, rawInt pos.col, .ref c'])))) { s with heap := h', toks := tk } := by
    refine hs.back F' km N' (.cons rfl (.cons rfl (hR _ _ rfl))) ?_
    have hl := lt_keys R hlt
    have kk : ∀ o', ∀ q ∈ (k o').map (·.1), q < c' := fun o' q hq => by
      rw [hP.keys] at hq
      obtain ⟨p, hp, e⟩ := List.mem_map.mp hq
      rw [← e]; exact hl p hp
    refine List.nodup_cons.mpr ⟨fun hm => ?_, List.nodup_cons.mpr ⟨fun hm => ?_, by rw [hP.keys]; exact nd⟩⟩
    · rcases List.mem_cons.mp hm with e | hm
      · have e : f = c' := e
        rw [e] at hcf; exact Nat.lt_irrefl _ hcf
      · exact Nat.lt_irrefl _ (Nat.lt_trans hcf (kk _ _ hm))
    · exact Nat.lt_irrefl _ (kk _ _ hm)
  exact wpAny_mono (h f c' oc doc _ ctv ⟨vs, t, e1, e2⟩ (.ref f) rfl _ st) (fun _ s' z => z) fun _ _ x => x
theorem WS_nestHit {name : Str} {params : Arguments} {body : List Stmt} {scope : Scope} {pos : Pos} {cn : Str} {cs : Scope} {a c P c' : Addr} {cl clos : List (Str × Addr)} {ps : Array Value} {k : AO → Sg} {Q : Flow → Mu → Sg → Prop} (T : Tp (DD K) C) (hc : codeHdIn K c P = true)
    (henv : env = envX cn cs env.locals a (.ref c) cl) (hP : At σ P (.obj (tabObj ps)) k) (ht : TriplesOk ps.toList) (hf : codeAmong pos ps.toList = some (.ref c')) (hcl : closureFor scope env = pure clos) (hd0 : params.defaults = []) (hk0 : params.kw_defaults = []) (ha : annTrees params none env = [])
    (h : ∀ f doc pm ctv, Binds C A env name μ ((f, .obj (fnMade name (qualnameIn env name name) params body scope clos doc pm c' ctv)) :: σ) (.ref f) (Q .next)) :
    WS C A env (.FunctionDef name params body [] none [] scope none name pos) μ σ Q := fun s hs => by
  obtain ⟨m, news, F, km, N, R⟩ := hs.news
  obtain ⟨ob, g, hr, U, hm, hR⟩ := hP.upsF R hs.nd
  have hr : ob = tabObj ps := hr
  subst hr
  obtain ⟨p, loose, mean, mg, mb, T'⟩ := T.top
  refine nestDef_K hd0 hk0 ha ?_
  generalize hq : qualnameIn env name name = qual at h ⊢
  rw [henv]
  rw [henv] at hcl
  refine nestHit_K F N T' (codeHd_of_K T.X hc) rfl hm ht hf hcl fun f ctv doc h' tk F' N' hlt => ?_
  rw [← henv]
  have st : St C env.locals μ ((f, .obj (fnMade name qual params body scope clos doc ((mg "__name__").getD .none) c' ctv)) :: σ) { s with heap := h', toks := tk } := by
    refine hs.back F' km N' (.cons rfl R) (List.nodup_cons.mpr ⟨fun hm => ?_, hs.nd⟩)
    obtain ⟨p, hp, e⟩ := List.mem_map.mp hm
    have h1 := lt_keys R hlt p hp
    rw [e] at h1
    exact Nat.lt_irrefl _ h1
  exact wpAny_mono (h f doc _ ctv (.ref f) rfl _ st) (fun _ s' z => z) fun _ _ x => x
end
/- the def within _law_lexer -/
noncomputable def nst (s : Stmt) (i : Nat) : Stmt := (bodyOf s).getD i (.Pass ⟨0, 0, 0, 0⟩)
noncomputable abbrev giveObj (clos : List (Str × Addr)) (doc pm : Value) (c' : Addr) (ctv : Value) : Obj := fnMade "give" "_law_lexer.<locals>.give" (argsOf (nst (stm 25) 2)) (bodyOf (nst (stm 25) 2)) (scopeOf (nst (stm 25) 2)) clos doc pm c' ctv
noncomputable abbrev giveFd (clos : List (Str × Addr)) (doc pm : Value) (c' : Addr) (ctv : Value) : FuncData := fnX "give" "_law_lexer.<locals>.give" (argsOf (nst (stm 25) 2)) (bodyOf (nst (stm 25) 2)) (scopeOf (nst (stm 25) 2)) clos .none .none doc pm none (.ref c') ctv
section
variable {C : Cx} {A : Around} {L : Addr} {μ : Mu} {σ : Sg} {env : Env} {K : Frag} {Q : Value → Sg → Prop}
theorem FnAt.made {f c' : Addr} {fd : FuncData} {oc : Obj} {g h : AO → Sg} {o1 : Value} {o2 : Option Addr} {o3 : Array (Option Value)} (x : At σ f (.obj ⟨o1, o2, .func fd, o3⟩) g) (y : At σ c' (.obj oc) h) (hr : IsRec oc fd.qualname) (hc : fd.code = .ref c') : FnAt C σ f fd :=
  ⟨fun s _ k => by
    obtain ⟨o, e, r⟩ := k _ x.mem
    obtain ⟨o', e', r'⟩ := k _ y.mem
    have r : o = _ := r
    have r' : o' = oc := r'
    subst r r'
    obtain ⟨vs, t, h1, h2⟩ := hr
    exact ⟨⟨_, e, rfl⟩, ⟨c', _, vs, t, hc, e', h1, h2⟩⟩⟩
theorem Kp_made {f : Addr} {fd : FuncData} {g : AO → Sg} {o1 : Value} {o2 : Option Addr} {o3 : Array (Option Value)} (x : At σ f (.obj ⟨o1, o2, .func fd, o3⟩) g) : Kp C σ (.ref f) := fun L μ s hs =>
  ⟨.frame, .inl rfl, (Looks.ld (part := none) (hs.obj x)).andThen .now⟩
theorem C_eqL_len {n : Nat} {a b : Addr} {vs ws : List Value} {f g : AO → Sg} (rm : Room A n) (x : At σ a (.list vs) f) (y : At σ b (.list ws) g) (hc : vs.length ≠ ws.length) (h : Q (.bool false) σ) : W2 C A L (compareOp .Eq) (.ref a) (.ref b) σ Q := fun μ a' b' ea eb => WV_by fun s hs Q' q => by
  rw [can_ref ea, can_ref eb]
  obtain ⟨items, n, e, hm⟩ := hs.list x
  obtain ⟨items2, n2, e2, hm2⟩ := hs.list y
  have hl := map_len hm
  have hl2 := map_len hm2
  exact RcAt.lists_lengths ⟨_, e, rfl, n, rfl⟩ ⟨_, e2, rfl, n2, rfl⟩ (by simp [hl, hl2]; exact hc) rm.units _ _ _ _ (q _ _ _ h hs)
/- the reader of a list of signs: one sign, or none -/
theorem C_give {ρ : Sg} {n : Nat} {f c' cs sg : Addr} {doc pm ctv : Value} {oc : Obj} {vs : List Value} (r : Room A (n + 1)) (T : Tp (DD K) C) (hz : vs.length ≤ 1000000) (hr : IsRec oc "_law_lexer.<locals>.give")
    (h : Q (vs.headD (vS (S []))) ((sg, .list vs.tail) :: (f, .obj (giveObj [("signs", cs)] doc pm c' ctv)) :: (c', .obj oc) :: (cs, .cell (some (.ref sg))) :: ρ)) :
    WCK C A L (.ref f) [vI 1] ((sg, .list vs) :: (f, .obj (giveObj [("signs", cs)] doc pm c' ctv)) :: (c', .obj oc) :: (cs, .cell (some (.ref sg))) :: ρ) Q := by
  refine WCK_def (fd := giveFd [("signs", cs)] doc pm c' ctv) ["count"] [("count", vI 1)] r T.lim (FnAt.made (.there .here) (.there (.there .here)) hr rfl) rfl rfl (by refine' ln1 rfl ?_; intro a; kernel_rfl) (by kernel_rfl) (by kernel_rfl) (by kernel_rfl) (by kernel_rfl) (by kernel_rfl) ?_
  intro C' L' l r'
  have T' := T.le l
  have hcl : (callEnv (giveFd [("signs", cs)] doc pm c' ctv) L' f).cells = [((("signs" : Str), cs) : Str × Addr)] := rfl
  refine WB_cons ?_
  wtm_at "one"
  refine br (fun hb => absurd hb (by decide)) (fun _ => ?_)
  wtm_at "one"
  cases vs with
  | nil =>
    simp only [List.headD_nil, List.tail_nil] at h
    refine C_eqL (vs := []) r' (.there .here) .here (fun _ hv => nomatch hv) ?_
    wtm_at "all"
    exact ret_now (by wtm_at "sub") h
  | cons v vs =>
    simp only [List.headD_cons, List.tail_cons] at h
    refine C_eqL_len (vs := v :: vs) (ws := []) r' (.there .here) .here (by simp) ?_
    wtm_at "all"
    refine WC_pop0 (v := v) (vs := vs) (.there .here) (by simp at hz; wtm_at "om") ?_
    wtm_at "all"
    exact ret_now (by wtm_at "sub") h
end
/- a list of signs -/
noncomputable def cl (l : List Nat) : List Value := l.map fun c => vS (S [c])
noncomputable def nl (l : List Nat) : Int := if l.head? = some 10 then 1 else 0
/- what a reader touches -/
structure Lx where
  x : Addr
  d : Addr
  p : Addr
  y : Addr
  dy : Addr
  py : Addr
  f : Addr
  cs : Addr
  sg : Addr
  doc : Value
  pm : Value
  ctv : Value
noncomputable abbrev Lx.sgn (l : Lx) (c' : Addr) (oc : Obj) (line : Int) (t : List Nat) (ρ : Sg) : Sg :=
  (l.sg, .list (cl t)) :: (l.d, .sd (lexD line (.ref l.y) l.p)) :: (l.x, .inst 84 l.d) :: (l.y, .inst 84 l.dy) :: (l.dy, .sd [("lineno", vI 1), ("instream", .none), ("whitespace", vS (S white)), ("pushback", .ref l.py), ("read", .ref l.f)]) :: (l.f, .obj (giveObj [("signs", l.cs)] l.doc l.pm c' l.ctv)) :: (c', .obj oc) :: (l.cs, .cell (some (.ref l.sg))) :: ρ
section
variable {C : Cx} {A : Around} {L : Addr} {σ ρ : Sg} {n : Nat} {K : Frag} {Q : Value → Sg → Prop}
theorem C_read {l : Lx} {c' : Addr} {oc : Obj} {line : Int} {t : List Nat} (r : Room A (n + 2)) (T : Tp (DD K) C) (F : KF K) (G : KG K) (hz : t.length ≤ 100000) (hr : IsRec oc "_law_lexer.<locals>.give")
    (h : Q (vS (S (t.take 1))) (l.sgn c' oc (line + nl t) t.tail ρ)) : WCK C A L (.ref 67) [.ref l.x] (l.sgn c' oc line t ρ) Q := by
  refine WCK_fn F.lxRead T ["self"] [("self", .ref l.x)] r rfl (by (intro pm; refine' ln1 rfl ?_; intro a; kernel_rfl)) (by kernel_rfl) (by kernel_rfl) (by kernel_rfl) (by kernel_rfl) (by kernel_rfl) ?_
  intro pm C' L' e T' r'
  refine WB_cons ?_
  wtm_at "one"
  refine call_now (Kp_made (by wtm_at "at")) ?_
  rw [List.nil_append]
  refine WC_sub (by wtm_at "front") (C_give (n := n) (doc := l.doc) (pm := l.pm) (ctv := l.ctv) (oc := oc) (vs := cl t) r' T' (by unfold cl; simp; wtm_at "om") hr ?_).wc
  wtm_at "one"
  rw [show (cl t).headD (vS (S [])) = vS (S (t.take 1)) by cases t <;> rfl, show (cl t).tail = cl t.tail by cases t <;> rfl]
  wtm_at "all"
  refine br (fun hb => ?_) (fun hb => ?_)
  · have hb : t.take 1 = [10] := S_inj.mp (of_decide_eq_true hb)
    have e : nl t = 1 := by
      cases t with
      | nil => cases hb
      | cons a b => simp at hb; simp [nl, hb]
    rw [e] at h
    refine WB_cons ?_
    wtm_at "all"
    exact ret_now (by wtm_at "front") h
  · have hb : ¬ t.take 1 = [10] := fun q => of_decide_eq_false hb (by rw [q])
    have e : nl t = 0 := by
      cases t with
      | nil => rfl
      | cons a b => simp at hb; simp [nl, hb]
    rw [e, Int.add_zero] at h
    wtm_at "all"
    exact ret_now (by wtm_at "front") h
end
theorem slot_ci_next : Slot "callable_iterator" "__next__" "callable_iterator.__next__" :=
  .of (owner := "callable_iterator") (n := "__next__") (by rw [typeLookup_type, builtinLookup_eq_fast]; kernel_rfl) (by decide +kernel) (by decide +kernel) (by decide +kernel)
    (by first | exact .inl (by decide +kernel) | exact .inr (by decide +kernel)) (by rw [isSubtype_type]; kernel_rfl)
theorem entry_ci_next : entryFor table "callable_iterator.__next__" = some Builtin.«callable_iterator.__next__» := entryFor_of_tree (by kernel_rfl)
theorem args_ci_next (a : Value) : argsOk "callable_iterator.__next__" ⟨[a], []⟩ := by unfold argsOk; kernel_rfl
theorem wpAny_borrowed {M : Model} {A : Around} {E : Value → Shared → Prop} {s : Shared} {f : Value} {pos : List Value} {Q : Value → Shared → Prop}
    (hc : codeAny M A (.call f ⟨pos, []⟩) (fun r s' => match r with | .ok (.ret v) => Q v s' | .ok _ => False | .error e => E e s') s) : wpAny M A (callBorrowed f pos) Q E s := fun Γ p hΓ => by
  have h := hc _ p rfl (hΓ.enter (.call f ⟨pos, []⟩) none p (by intro x; cases x))
  unfold callBorrowed
  rw [Sem.wp_call]
  refine Eq.mp ?_ h
  congr 1
  funext r s'
  cases r with
  | error e => rfl
  | ok f => cases f <;> rfl
noncomputable abbrev ciObj (f : Value) (x : Str) (t : Tok) : Obj := ⟨.type "callable_iterator", none, .fields #[f, .str x t, .bool false], #[]⟩
section
variable {C : Cx} {A : Around} {L : Addr} {μ : Mu} {σ : Sg} {K : Frag}
theorem borrows_K {M : Model} {h : Heap} {bm fn : Addr} {self : Value} (X : K.In h) (hb : h.get? bm = some (methodObj (.ref fn) self)) (hf : fnIn K fn = true) : Looks M h (borrowsExactly (.ref bm)) true := by
  unfold fnIn at hf
  split at hf
  · rename_i e
    intro A Q E s k q
    unfold borrowsExactly
    refine wpAny_bind (wpAny_load (k _ _ hb) ?_)
    dsimp only
    rw [if_pos (by decide)]
    refine wpAny_bind (wpAny_load (k _ _ (X _ _ e)) ?_)
    exact wpAny_pure q
  · cases hf
end
noncomputable abbrev endObj : Obj := ⟨.type "callable_iterator", none, .fields #[.none, .none, .bool true], #[]⟩
section
variable {prog : Program} {w : World} {A : Around} {E : Value → Shared → Prop} {s : Shared} {it bm : Addr} {t : Tok}
/- the end's throw, as pyNext takes it -/
theorem stop_now {α : Type} {Q : Option Value → Shared → Prop} {h' : Heap} {s₁ : Shared} (hh : A.handled = none) (hQ : ∀ h'', (∀ b o, h'.get? b = some o → h''.get? b = some o) → Q none { s₁ with heap := h'' }) :
    wpAny (model prog w) A.in1 (Builtin.SmallTypes.stopIteration : Sem α) (fun _ _ => False) (fun e s' => wpAny (model prog w) A (do if ← isInstance e (.type "StopIteration") then pure none else throw e : Sem (Option Value)) Q E s') { s₁ with heap := h' } := by
  show wpAny _ _ (newExc (.type "StopIteration") [] >>= _) _ _ _
  refine wpAny_bind ?_
  simp only [newExc, newTuple]
  refine wpAny_bind (wpAny_newObj_type ?_ (by size_fits))
  refine wpAny_bind (m := firstArgMember _ _) (wpAny_of_eq (a := Value.none) (by first | rfl | (simp only [firstArgMember]; rfl)) ?_)
  refine wpAny_newObj_type ?_ (by size_fits)
  simp only [raiseNew]
  refine wpAny_bind (wpAny_handled ?_)
  rw [show A.in1.handled = none from hh]
  refine wpAny_bind (wpAny_pure (wpAny_throw ?_))
  refine wpAny_bind (wpAny_isInstance (T := "StopIteration") (b := true) ⟨_, Heap.get?_push_size _ rfl, rfl⟩ isSubtype_stop ?_)
  exact wpAny_pure (hQ _ fun b o e => Heap.get?_push_of_some _ (Heap.get?_push_of_some _ e))
theorem ci_tree {R : PySem.Fin → Shared → Prop} (h1 : s.heap.get? it = some (ciObj (.ref bm) (S []) t)) (hb : Looks (model prog w) s.heap (borrowsExactly (.ref bm)) true)
    (hc : codeAny (model prog w) A (.call (.ref bm) ⟨[], []⟩) (fun r s' => match r with
      | .ok (.ret v) => ∃ l u, v = .str l u ∧ s'.heap.get? it = some (ciObj (.ref bm) (S []) t) ∧ Looks (model prog w) s'.heap (borrowsExactly (.ref bm)) true ∧
        (l ≠ S [] → R (.done (.ret v)) s') ∧ (l = S [] → ∀ h', Heap.SameBut it s'.heap h' → h'.get? it = some endObj → wpAny (model prog w) A (Builtin.SmallTypes.stopIteration : Sem PySem.Fin) (fun _ _ => False) E { s' with heap := h' })
      | _ => False) s) : wpAny (model prog w) A (Builtin.«callable_iterator.__next__» ⟨[.ref it], []⟩) R E s := by
  unfold Builtin.«callable_iterator.__next__»
  refine wpAny_bind (m := slotArgs _ _ _) (wpAny_pure ?_)
  refine wpAny_bind (wpAny_field h1 rfl (x := .bool false) rfl ?_)
  refine wpAny_ite_false rfl ?_
  refine wpAny_bind (wpAny_field h1 rfl (x := .ref bm) rfl ?_)
  refine wpAny_bind (wpAny_attempt ?_)
  unfold callOutOfASlot
  refine wpAny_bind (hb.here ?_)
  rw [if_pos rfl]
  refine wpAny_borrowed (codeAny_mono hc fun r s' z => ?_)
  rcases r with e | (v | _ | _ | _) <;> first | exact z.elim | skip
  obtain ⟨l, u, rfl, g1, g2, g3, g4⟩ := z
  dsimp only
  refine wpAny_bind (wpAny_field g1 rfl (x := .bool false) rfl ?_)
  refine wpAny_ite_false rfl ?_
  refine wpAny_bind (wpAny_field g1 rfl (x := .str (S []) t) rfl ?_)
  refine wpAny_bind (wpAny_holding (wpAny_eqBool_str ?_))
  by_cases hl : l = S []
  · have : decide (S [] = l) = true := by rw [hl]; simp
    rw [this]
    refine wpAny_ite_false rfl ?_
    refine wpAny_bind (wpAny_rule ?_)
    k_delta "callableEnd"
    refine wpAny_bind (wpAny_bind (wpAny_field g1 rfl (x := .ref bm) rfl ?_))
    unfold slotLetsGo
    refine wpAny_bind (wpAny_bind (g2.here ?_))
    rw [if_pos rfl]
    refine wpAny_pure ?_
    refine wpAny_bind (wpAny_setField g1 rfl (by simp) ?_)
    have e1 : (s'.heap.update it (Obj.mapFields fun vs => vs.setIfInBounds 0 .none)).get? it = some ⟨.type "callable_iterator", none, .fields #[.none, .str (S []) t, .bool false], #[]⟩ := Heap.get?_update_self _ g1 rfl
    refine wpAny_bind (wpAny_setField e1 rfl (by simp) ?_)
    have e2 := Heap.get?_update_self (Obj.mapFields fun vs => vs.setIfInBounds 1 .none) e1 rfl
    refine wpAny_setField e2 rfl (by simp) ?_
    exact wpAny_mono (g4 hl _ (((Heap.SameBut.update ..).trans (Heap.SameBut.update ..)).trans (Heap.SameBut.update ..)) (Heap.get?_update_self _ e2 rfl)) (fun _ _ x => x.elim) fun _ _ x => x
  · have : decide (S [] = l) = false := decide_eq_false fun e => hl e.symm
    rw [this]
    refine wpAny_ite_true rfl ?_
    exact wpAny_pure (g3 hl)
theorem ci_ended {R : PySem.Fin → Shared → Prop} (h1 : s.heap.get? it = some endObj) (h : ∀ α : Type, wpAny (model prog w) A (Builtin.SmallTypes.stopIteration : Sem α) (fun _ _ => False) E s) : wpAny (model prog w) A (Builtin.«callable_iterator.__next__» ⟨[.ref it], []⟩) R E s := by
  unfold Builtin.«callable_iterator.__next__»
  refine wpAny_bind (m := slotArgs _ _ _) (wpAny_pure ?_)
  refine wpAny_bind (wpAny_field h1 rfl (x := .bool true) rfl ?_)
  refine wpAny_ite_true rfl ?_
  refine wpAny_bind (wpAny_rule ?_)
  exact wpAny_bind (wpAny_mono (h _) (fun _ _ x => x.elim) fun _ _ x => x)
end
section
variable {C : Cx} {A : Around} {L : Addr} {μ : Mu} {σ : Sg} {K : Frag}
theorem St.grown {s : Shared} {h' : Heap} {tk : Nat} (hs : St C L μ σ s) (hk : ∀ b o, s.heap.get? b = some o → h'.get? b = some o) : St C L μ σ ⟨h', s.gens, s.drawn, tk, s.os⟩ :=
  ⟨let ⟨m, F, k⟩ := hs.fr; ⟨m, F.keeps hk, k⟩, fun p hp => let ⟨k1, k2, ob, k3, k4⟩ := hs.ob p hp; ⟨k1, k2, ob, hk _ _ k3, k4⟩, hs.nd, hs.fx⟩
/- iter(f, '') gives its next sign, or ends -/
theorem W_ci {n : Nat} {fn x bm it : Addr} {t : Tok} {f g : AO → Sg} {Q : Option Value → Sg → Prop} (r : Room A (n + 1)) (T : Tp (DD K) C) (hf : fnIn K fn = true) (h1 : At σ it (.obj (ciObj (.ref bm) (S []) t)) f) (h2 : At σ bm (.obj (methodObj (.ref fn) (.ref x))) g)
    (hc : ∀ A', Room A' n → WCK C A' L (.ref fn) [.ref x] σ (fun v σ1 => ∃ l, v = vS l ∧ (∃ f1, At σ1 it (.obj (ciObj (.ref bm) (S []) t)) f1) ∧ (∃ g1, At σ1 bm (.obj (methodObj (.ref fn) (.ref x))) g1) ∧
      (l ≠ S [] → Q (some (vS l)) σ1) ∧ (l = S [] → ∃ f1, At σ1 it (.obj (ciObj (.ref bm) (S []) t)) f1 ∧ Q none (f1 (.obj endObj))))) :
    W C A L (pyNext (.ref it)) μ σ (fun r μ' σ' => μ' = μ ∧ Q (r.map can) σ') := fun s hs => by
  have e1 := hs.obj h1
  have e2 := hs.obj h2
  have hT : s.TypeIs (.ref it) "callable_iterator" := ⟨_, e1, rfl⟩
  unfold pyNext
  refine wpAny_bind (wpAny_attempt (wpAny_callSpecial?_slot (name := Str.ofString "__next__") hT slot_ci_next (wpAny_call_entry slot_ci_next hT entry_ci_next ?_ (args_ci_next _))))
  refine ci_tree e1 (borrows_K (T.X.keeps hs.keep) e2 hf) ?_
  refine method_call e2 (codeAny_mono (hc A.in1 r.in1 μ [.ref x] rfl s hs) fun r' s' z => ?_)
  rcases r' with e | (v | _ | _ | _) <;> first | exact z.elim | skip
  obtain ⟨σ1, ⟨l, hv, ⟨f1, a1⟩, ⟨g1, a2⟩, q1, q2⟩, st⟩ := z
  obtain ⟨u, rfl⟩ := can_str hv
  refine ⟨l, u, rfl, st.obj a1, borrows_K (T.X.keeps st.keep) (st.obj a2) hf, fun hl => ?_, fun hl h' hx hg => ?_⟩
  · exact ⟨_, rfl, wpAny_pure ⟨_, _, ⟨rfl, q1 hl⟩, st⟩⟩
  · obtain ⟨f2, p, q⟩ := q2 hl
    have st2 := st.upd (tk := s'.toks) p hx hg (show Rep _ (.obj endObj) endObj from rfl)
    exact wpAny_mono (stop_now (E := fun _ _ => False) (Q := fun r s' => ∃ μ' σ', (μ' = μ ∧ Q (r.map can) σ') ∧ St C L μ' σ' s') (s₁ := s') r.hh fun h'' hk => ⟨μ, _, ⟨rfl, q⟩, st2.grown hk⟩) (fun _ _ x => x.elim) fun e s'' z => z
theorem W_ci_end {it : Addr} {f : AO → Sg} {Q : Option Value → Sg → Prop} (hh : A.handled = none) (h1 : At σ it (.obj endObj) f) (h : Q none σ) : W C A L (pyNext (.ref it)) μ σ (fun r μ' σ' => μ' = μ ∧ Q (r.map can) σ') := fun s hs => by
  have e1 := hs.obj h1
  have hT : s.TypeIs (.ref it) "callable_iterator" := ⟨_, e1, rfl⟩
  unfold pyNext
  refine wpAny_bind (wpAny_attempt (wpAny_callSpecial?_slot (name := Str.ofString "__next__") hT slot_ci_next (wpAny_call_entry slot_ci_next hT entry_ci_next ?_ (args_ci_next _))))
  refine ci_ended e1 fun α => ?_
  exact wpAny_mono (stop_now (E := fun _ _ => False) (Q := fun r s' => ∃ μ' σ', (μ' = μ ∧ Q (r.map can) σ') ∧ St C L μ' σ' s') (s₁ := s) (h' := s.heap) hh fun h'' hk => ⟨μ, _, ⟨rfl, h⟩, hs.grown hk⟩) (fun _ _ x => x.elim) fun e s'' z => z
end
theorem slot_ci_iter : Slot "callable_iterator" "__iter__" "callable_iterator.__iter__" :=
  .of (owner := "callable_iterator") (n := "__iter__") (by rw [typeLookup_type, builtinLookup_eq_fast]; kernel_rfl) (by decide +kernel) (by decide +kernel) (by decide +kernel)
    (by first | exact .inl (by decide +kernel) | exact .inr (by decide +kernel)) (by rw [isSubtype_type]; kernel_rfl)
theorem entry_ci_iter : entryFor table "callable_iterator.__iter__" = some Builtin.«dict_keyiterator.__iter__» :=
  entryFor_alias (id' := "dict_keyiterator.__iter__") (by kernel_rfl) (by first | rfl | decide +kernel | (unfold String.splitOn; simp +decide [String.splitOnAux])) (by decide +kernel) (by kernel_rfl)
theorem args_ci_iter (a : Value) : argsOk "callable_iterator.__iter__" ⟨[a], []⟩ := by unfold argsOk; kernel_rfl
theorem kind_iter2 : builtinKind "iter" = none := by decide +kernel
theorem plain_iter2 : plainId "iter" = true := by decide +kernel
theorem entry_iter2 : entryFor table "iter" = some Builtin.«iter» := entryFor_of_tree (by kernel_rfl)
theorem args_iter2 (a b : Value) : argsOk "iter" ⟨[a, b], []⟩ := by unfold argsOk; kernel_rfl
theorem method_call_slot : typeLookup (.type "method") "__call__" = pure (some (.builtin "method.__call__")) := by rw [typeLookup_type, builtinLookup_eq_fast]; kernel_rfl
section
variable {C : Cx} {A : Around} {L : Addr} {μ : Mu} {σ : Sg} {env : Env} {K : Frag}
theorem WC_iter2 {bm fn x : Addr} {g : AO → Sg} {Q : Value → Sg → Prop} (h2 : At σ bm (.obj (methodObj (.ref fn) (.ref x))) g) (h : ∀ it t, Q (.ref it) ((it, .obj (ciObj (.ref bm) (S []) t)) :: σ)) : WC C A L (.builtin "iter") [.ref bm, vS (S [])] σ Q :=
  WC2 fun μ f' y' e1 e2 => WV_by fun s hs Q' q => by
    rw [can_ref e1]
    obtain ⟨t, rfl⟩ := can_str e2
    have hb := hs.obj h2
    refine call_function_entry kind_iter2 plain_iter2 entry_iter2 (args_iter2 _ _) ?_
    unfold Builtin.«iter»
    refine wpAny_bind (wpAny_pure ?_)
    dsimp only
    refine wpAny_bind (wpAny_specialOf (T := "method") ⟨_, hb, rfl⟩ method_call_slot ?_)
    refine wpAny_ite_false rfl ?_
    refine wpAny_bind (wpAny_rule ?_)
    refine wpAny_bind (m := newFields _ _) (wpAny_newObj_type (wpAny_pure ⟨_, rfl, ?_⟩) (by show (3 : Nat) ≤ _; have := big_line; wtm_at "om"))
    exact q _ _ _ (h _ t) (hs.push (ob := ciObj (.ref bm) (S []) t) rfl rfl)
theorem W_ci_self {it bm : Addr} {t : Tok} {f : AO → Sg} (h1 : At σ it (.obj (ciObj (.ref bm) (S []) t)) f) : W C A L (pyIter (.ref it)) μ σ (fun r μ' σ' => μ' = μ ∧ r = .ref it ∧ σ' = σ) := W_by fun s hs Q' q => by
  have hT : s.TypeIs (.ref it) "callable_iterator" := ⟨_, hs.obj h1, rfl⟩
  refine wpAny_pyIter_slot hT slot_ci_iter (wpAny_call_entry slot_ci_iter hT entry_ci_iter ?_ (args_ci_iter _))
  show wpAny _ _ (ret (.ref it)) _ _ s
  exact wpAny_pure ⟨_, rfl, "callable_iterator", _, hT, slot_ci_next.lookup, q _ _ _ _ ⟨rfl, rfl, rfl⟩ hs⟩
/- the end of a turn, in general -/
noncomputable def GTurn (J : Nat → Mu → Sg → Prop) (Q : Flow → Mu → Sg → Prop) (n : Nat) : Flow → Mu → Sg → Prop := WTurn J Q n
/- what is to be shown of the next one -/
noncomputable def GN (C : Cx) (A : Around) (env : Env) (target : Expr) (body orelse : List Stmt) (J : Nat → Mu → Sg → Prop) (Q : Flow → Mu → Sg → Prop) (n : Nat) (μ : Mu) : Option Value → Sg → Prop
  | none, σ' => WB C A env orelse μ σ' Q
  | some v, σ' => WTg C A env target μ σ' v (fun μ2 σ2 => WB C A env body μ2 σ2 (WTurn J Q n))
theorem GN_none {target : Expr} {body orelse : List Stmt} {J : Nat → Mu → Sg → Prop} {Q : Flow → Mu → Sg → Prop} {n : Nat} (h : WB C A env orelse μ σ Q) : GN C A env target body orelse J Q n μ none σ := h
theorem GN_some {target : Expr} {body orelse : List Stmt} {J : Nat → Mu → Sg → Prop} {Q : Flow → Mu → Sg → Prop} {n : Nat} {v : Value} (h : WTg C A env target μ σ v (fun μ2 σ2 => WB C A env body μ2 σ2 (WTurn J Q n))) : GN C A env target body orelse J Q n μ (some v) σ := h
theorem WS_ForG {target iter : Expr} {body orelse : List Stmt} {pos : Pos} {J : Nat → Mu → Sg → Prop} {Q : Flow → Mu → Sg → Prop}
    (hiter : WE C A env iter μ σ (fun v σ1 => ∃ it n, v = .ref it ∧ W C A env.locals (pyIter (.ref it)) μ σ1 (fun r μ' σ' => μ' = μ ∧ r = .ref it ∧ σ' = σ1) ∧ J n μ σ1 ∧
      ∀ n μ σ, J n μ σ → W C A env.locals (pyNext (.ref it)) μ σ (fun r μ' σ' => μ' = μ ∧ GN C A env target body orelse J Q n μ (r.map can) σ')))
    (hf : ∀ x, foldedSetIterable iter env x = pure x) (ht : ∀ it v, letOwnedTupleGo target (.ref it) v = pure ()) : WS C A env (.For target iter body orelse pos) μ σ Q := fun s hs => by
  refine wpAny_For (wpAny_mono (hiter s hs) (fun v s1 h1 => ?_) fun _ _ x => x.elim) hf
  obtain ⟨μ1, σ1, ⟨rfl, it, n, e, hself, hj, step⟩, st⟩ := h1
  have e := can_ref e
  subst e
  refine wpAny_mono (hself s1 st) (fun r' s2 h2 => ?_) fun _ _ x => x.elim
  obtain ⟨μ2, σ2, ⟨rfl, rfl, rfl⟩, st2⟩ := h2
  refine codeAny_mono (codeAny_forLoop (R := fun r s' => match r with | .ok f => ∃ μ' σ', Q (canF f) μ' σ' ∧ St C env.locals μ' σ' s' | .error e => False) (fun n s => ∃ μ σ, J n μ σ ∧ St C env.locals μ σ s) (fun n s hI => ?_) n ⟨_, _, hj, st2⟩ (ht it)) fun r s' z => ?_
  · obtain ⟨μ, σ, hj, hs⟩ := hI
    refine wpAny_mono (step n μ σ hj s hs) (fun r s1 h1 => ?_) fun _ _ x => x.elim
    obtain ⟨μ1, σ1, ⟨rfl, h1⟩, st⟩ := h1
    cases r with
    | none => exact wpAny_mono (h1 s1 st) (fun f s3 h3 => h3) fun _ _ x => x.elim
    | some v =>
      refine wpAny_mono (h1 v rfl s1 st) (fun _ s2 h2 => ?_) fun _ _ x => x.elim
      obtain ⟨μ2, σ2, h2, st2⟩ := h2
      refine wpAny_mono (h2 s2 st2) (fun f s3 h3 => ?_) fun _ _ x => x.elim
      obtain ⟨μ3, σ3, h3, st3⟩ := h3
      cases f with
      | next => obtain ⟨m, μ', τ, l, a, b, c⟩ := h3; exact ⟨m, l, μ', τ, c, st3.sub2 a b⟩
      | cont => obtain ⟨m, μ', τ, l, a, b, c⟩ := h3; exact ⟨m, l, μ', τ, c, st3.sub2 a b⟩
      | brk => exact ⟨_, _, h3, st3⟩
      | ret v => exact ⟨_, _, h3, st3⟩
  · cases r with
    | ok f => exact z
    | error e => exact z.elim
end
/- a bare word: the token, and what is left -/
noncomputable def bare : List Nat → List Nat → List Nat × List Nat
  | acc, [] => (acc, [])
  | acc, c :: r => if c ∈ white then (acc, r) else if c = 92 then (match r with | [] => (acc, []) | d :: r' => bare (acc ++ [d]) r') else bare (acc ++ [c]) r
/- a word in quotation marks -/
noncomputable def quoted : List Nat → List Nat → List Nat × List Nat
  | acc, [] => (acc, [])
  | acc, c :: r => if c = 34 then (acc, r) else if c = 92 then (match r with | [] => (acc, []) | d :: r' => quoted (acc ++ [d]) r') else quoted (acc ++ [c]) r
noncomputable def word : List Nat → List Nat × List Nat
  | [] => ([], [])
  | c :: r => if c ∈ white then word r else if c = 34 then quoted [] r else if c = 92 then bare (r.take 1) r.tail else bare [c] r
theorem contains_one (l : List Nat) (c : Nat) : Txt.contains (S l) (S [c]) = decide (c ∈ l) := StrLaws.found_one (S l) c
section
variable {C : Cx} {A : Around} {L : Addr} {σ ρ : Sg} {n : Nat} {K : Frag} {Q : Value → Sg → Prop}
/- a word that waits -/
theorem C_getPB {x d p : Addr} {line : Int} {w v : Value} {vs : List Value} (r : Room A (n + 1)) (T : Tp (DD K) C) (F : KF K) (G : KG K) (hz : vs.length ≤ 100000) (h : Q v ((p, .list vs) :: (x, .inst 84 d) :: (d, .sd (lexD line w p)) :: ρ)) :
    WCK C A L (.ref 74) [.ref x] ((p, .list (v :: vs)) :: (x, .inst 84 d) :: (d, .sd (lexD line w p)) :: ρ) Q := by
  refine WCK_fn F.lxGet T ["self"] [("self", .ref x)] r rfl (by (intro pm; refine' ln1 rfl ?_; intro a; kernel_rfl)) (by kernel_rfl) (by kernel_rfl) (by kernel_rfl) (by kernel_rfl) (by kernel_rfl) ?_
  intro pm C' L' l T' r'
  refine WB_cons ?_
  wtm_at "one"
  refine T_list .here (by simp; wtm_at "om") ?_
  refine Br_tt ?_
  wtm_at "all"
  refine WC_pop0 .here (by wtm_at "om") ?_
  wtm_at "all"
  exact ret_now (by wtm_at "front") h
end
noncomputable def cnt (t : List Nat) : Int := t.count 10
theorem cnt_cons (c : Nat) (r : List Nat) : cnt (c :: r) = cnt r + nl (c :: r) := by
  unfold cnt nl
  rw [List.count_cons]
  by_cases h : c = 10 <;> simp [h]
section
variable {C : Cx} {A : Around} {L : Addr} {σ ρ : Sg} {n : Nat} {K : Frag} {Q : Value → Sg → Prop}
/- the reader's next sign -/
theorem N_sign {μ : Mu} {l : Lx} {c' it bm : Addr} {oc : Obj} {u : Tok} {line : Int} {t : List Nat} {Q : Option Value → Sg → Prop} (r : Room A (n + 3)) (T : Tp (DD K) C) (F : KF K) (G : KG K) (hz : t.length ≤ 100000) (hr : IsRec oc "_law_lexer.<locals>.give")
    (hnil : t = [] → Q none ((it, .obj endObj) :: (bm, .obj (methodObj (.ref 67) (.ref l.x))) :: l.sgn c' oc line [] ρ))
    (hcons : ∀ c s, t = c :: s → Q (some (vS (S [c]))) ((it, .obj (ciObj (.ref bm) (S []) u)) :: (bm, .obj (methodObj (.ref 67) (.ref l.x))) :: l.sgn c' oc (line + nl t) s ρ)) :
    W C A L (pyNext (.ref it)) μ ((it, .obj (ciObj (.ref bm) (S []) u)) :: (bm, .obj (methodObj (.ref 67) (.ref l.x))) :: l.sgn c' oc line t ρ) (fun r μ' σ' => μ' = μ ∧ Q (r.map can) σ') := by
  have hf : fnIn K 67 = true := by
    obtain ⟨pm, oc', od, osl, h, _⟩ := F.lxRead
    unfold fnIn
    rw [h]
  refine W_ci (n := n + 2) r T hf .here (.there .here) fun A' r' => ?_
  intro μ' as e
  refine fun s hs => ?_
  have z := C_read (C := C) (A := A') (L := L) (l := l) (c' := c') (oc := oc) (line := line) (t := t) (n := n) (ρ := (it, .obj (ciObj (.ref bm) (S []) u)) :: (bm, .obj (methodObj (.ref 67) (.ref l.x))) :: ρ) (Q := fun v σ1 => v = vS (S (t.take 1)) ∧ σ1 = l.sgn c' oc (line + nl t) t.tail ((it, .obj (ciObj (.ref bm) (S []) u)) :: (bm, .obj (methodObj (.ref 67) (.ref l.x))) :: ρ)) r' T F G hz hr ⟨rfl, rfl⟩ μ' as e s
    (hs.sub (by wtm_at "front"))
  refine codeAny_mono z fun r s' z => ?_
  rcases r with e | (v | _ | _ | _) <;> first | exact z.elim | skip
  obtain ⟨σ1, ⟨e1, rfl⟩, st⟩ := z
  refine ⟨_, ⟨S (t.take 1), by rw [e1], ⟨_, .here⟩, ⟨_, .there .here⟩, fun hl => ?_, fun hl => ⟨_, .here, ?_⟩⟩, st.sub (τ := (it, .obj (ciObj (.ref bm) (S []) u)) :: (bm, .obj (methodObj (.ref 67) (.ref l.x))) :: l.sgn c' oc (line + nl t) t.tail ρ) (by wtm_at "front")⟩
  · cases t with
    | nil => exact absurd rfl hl
    | cons c s => exact hcons c s rfl
  · cases t with
    | nil =>
      have := hnil rfl
      simp only [List.tail_nil]
      rw [show line + nl [] = line by simp [nl]]
      exact this
    | cons c s => exact absurd (S_inj.mp hl) (by simp)
end
theorem quoted_nil (a : List Nat) : quoted a [] = (a, []) := by simp [quoted]
theorem quoted_end (a r : List Nat) : quoted a (34 :: r) = (a, r) := by cases r <;> simp [quoted]
theorem quoted_esc (a r : List Nat) : quoted a (92 :: r) = quoted (a ++ r.take 1) r.tail := by cases r <;> simp [quoted]
theorem quoted_else {c : Nat} (a r : List Nat) (h1 : ¬ c = 34) (h2 : ¬ c = 92) : quoted a (c :: r) = quoted (a ++ [c]) r := by cases r <;> simp [quoted, h1, h2]
theorem bare_nil (a : List Nat) : bare a [] = (a, []) := by simp [bare]
theorem bare_end {c : Nat} (a r : List Nat) (h : c ∈ white) : bare a (c :: r) = (a, r) := by cases r <;> (rw [bare.eq_def]; simp only; rw [if_pos h])
theorem bare_esc (a r : List Nat) : bare a (92 :: r) = bare (a ++ r.take 1) r.tail := by cases r <;> simp [bare]
theorem bare_else {c : Nat} (a r : List Nat) (h1 : ¬ c ∈ white) (h2 : ¬ c = 92) : bare a (c :: r) = bare (a ++ [c]) r := by cases r <;> (rw [bare.eq_def]; simp only; rw [if_neg h1, if_neg h2])
theorem cnt_tail (t : List Nat) : cnt t = cnt t.tail + nl t := by
  cases t with
  | nil => simp [cnt, nl]
  | cons c r => exact cnt_cons c r
theorem WS_keepM {C : Cx} {A : Around} {env : Env} {st : Stmt} {μ : Mu} {σ : Sg} {Q : Flow → Mu → Sg → Prop} (μ' : Mu) (τ : Sg) (hμ : LeM μ' μ) (h : Sub τ σ) (k : WS C A env st μ' τ Q) : WS C A env st μ σ Q := W_sub2 hμ h k
section
variable {C : Cx} {A : Around} {L : Addr} {σ ρ : Sg} {n : Nat} {K : Frag} {Q : Value → Sg → Prop}
theorem C_get {l : Lx} {c' : Addr} {oc : Obj} {line : Int} {t : List Nat} (r : Room A (n + 4)) (T : Tp (DD K) C) (F : KF K) (G : KG K) (hz : t.length ≤ 100000) (hr : IsRec oc "_law_lexer.<locals>.give")
    (h : Q (vS (S (word t).1)) (l.sgn c' oc (line + cnt t - cnt (word t).2) (word t).2 ((l.p, .list []) :: ρ))) : WCK C A L (.ref 74) [.ref l.x] (l.sgn c' oc line t ((l.p, .list []) :: ρ)) Q := by
  refine WCK_fn F.lxGet T ["self"] [("self", .ref l.x)] r rfl (by (intro pm; refine' ln1 rfl ?_; intro a; kernel_rfl)) (by kernel_rfl) (by kernel_rfl) (by kernel_rfl) (by kernel_rfl) (by kernel_rfl) ?_
  intro pm C' L' e T' r'
  refine WB_cons ?_
  wtm_at "one"
  refine T_list (vs := []) (by wtm_at "at") (by simp) ?_
  refine Br_ff ?_
  wtm_at "all"
  refine WA_met T' G.lex G.lexRead (by wtm_at "at") (by wtm_at "at") (by decide +kernel) (by kernel_rfl) fun bm => ?_
  wtm_at "all"
  refine WC_iter2 (by wtm_at "at") fun it u => ?_
  wtm_at "all"
  let live : Int → List Nat → Sg := fun ln s => (it, .obj (ciObj (.ref bm) (S []) u)) :: (bm, .obj (methodObj (.ref 67) (.ref l.x))) :: l.sgn c' oc ln s ((l.p, .list []) :: ρ)
  let over : Int → Sg := fun ln => (it, .obj endObj) :: (bm, .obj (methodObj (.ref 67) (.ref l.x))) :: l.sgn c' oc ln [] ((l.p, .list []) :: ρ)
  let mu : List Nat → Mu := fun a => [("fiter", .ref it), ("token", vS (S a)), ("self", .ref l.x)]
  refine WS_ForG (J := fun n μ σ => (∃ s, word s = word t ∧ n = s.length + 1 ∧ s.length ≤ t.length ∧ μ = mu [] ∧ σ = live (line + cnt t - cnt s) s) ∨
    (n = 0 ∧ (word t).2 = [] ∧ μ = mu (word t).1 ∧ σ = over (line + cnt t))) ?_ (by intro _; rfl) (by intro _ _; rfl)
  wtm_at "one"
  refine ⟨it, t.length + 1, rfl, W_ci_self .here, .inl ⟨t, rfl, rfl, Nat.le_refl _, rfl, ?_⟩, fun m μ σ hj => ?_⟩
  · show _ = live _ _
    rw [show line + cnt t - cnt t = line by wtm_at "om"]
  rcases hj with ⟨s, hw, rfl, hs, rfl, rfl⟩ | ⟨rfl, hw, rfl, rfl⟩
  · refine N_sign (n := n) r' T' F G (by wtm_at "om") hr (fun hn => ?_) (fun c s' hc => ?_)
    · subst hn
      refine GN_none ?_
      wtm_at "all"
      have e1 : word t = ([], []) := hw.symm
      rw [e1] at h
      have e2 : line + cnt t - cnt [] = line + cnt t - cnt ([] : List Nat) := rfl
      exact ret_now (τ := l.sgn c' oc (line + cnt t - cnt []) [] ((l.p, .list []) :: ρ)) (by wtm_at "sub") h
    · subst hc
      have hcn := cnt_cons c s'
      refine GN_some (WTg_name ?_)
      simp only [mu]
      wtm_at "one"
      refine WB_cons ?_
      wtm_at "one"
      rw [contains_one]
      wtm_at "one"
      refine br (fun hb => ?_) (fun hb => ?_)
      · have hb := of_decide_eq_true hb
        have hw' : word s' = word t := by rw [← hw]; exact (if_pos hb).symm
        wtm_at "all"
        refine ⟨s'.length + 1, mu [], live (line + cnt t - cnt s') s', by simp, ?_, ?_, .inl ⟨s', hw', rfl, ?_, rfl, rfl⟩⟩
        · simp only [mu]
          wtm_at "lem"
        · simp only [live]
          rw [show line + cnt t - cnt s' = line + cnt t - cnt (c :: s') + nl (c :: s') by wtm_at "om"]
          wtm_at "sub"
        · simp at hs; wtm_at "om"
      · have hb := of_decide_eq_false hb
        refine WB_nil ?_
        wtm_at "one"
        refine WB_last ?_
        wtm_at "one"
        refine br (fun hq => ?_) (fun hq => ?_)
        · have hq : c = 34 := by
            have := S_inj.mp (of_decide_eq_true hq)
            simpa using this
          subst hq
          have hw' : quoted [] s' = word t := by rw [← hw]; exact ((if_neg hb).trans (if_pos rfl)).symm
          refine WB_last ?_
          refine WS_keepM (mu []) (live (line + cnt t - cnt s') s') ?_ ?_ ?_
          · simp only [mu]
            wtm_at "lem"
          · simp only [live]
            rw [show line + cnt t - cnt s' = line + cnt t - cnt (34 :: s') + nl (34 :: s') by wtm_at "om"]
            wtm_at "sub"
          refine WS_ForG (J := fun k μ σ => ∃ acc s, quoted acc s = word t ∧ k = s.length + 1 ∧ acc.length + s.length ≤ t.length ∧ μ = mu acc ∧ σ = live (line + cnt t - cnt s) s) ?_ (by intro _; rfl) (by intro _ _; rfl)
          simp only [mu]
          wtm_at "one"
          refine ⟨it, s'.length + 1, rfl, W_ci_self .here, ⟨[], s', hw', rfl, by simp at hs ⊢; wtm_at "om", rfl, rfl⟩, fun k μ σ hj2 => ?_⟩
          obtain ⟨acc, q, hq, rfl, hql, rfl, rfl⟩ := hj2
          refine N_sign (n := n) r' T' F G (by wtm_at "om") hr (fun hn => ?_) (fun d q' hd => ?_)
          · subst hn
            refine GN_none (WB_nil ?_)
            have e1 : word t = (acc, []) := by rw [← hq, quoted_nil]
            have e2 : cnt ([] : List Nat) = 0 := by simp [cnt]
            refine ⟨0, mu (word t).1, over (line + cnt t), by wtm_at "om", ?_, ?_, .inr ⟨rfl, by rw [e1], rfl, rfl⟩⟩
            · rw [e1]
              wtm_at "lem"
            · simp only [over, e2, Int.sub_zero]
              wtm_at "sub"
          · subst hd
            have hcn2 := cnt_cons d q'
            have hql : acc.length + q'.length + 1 ≤ t.length := by simpa [Nat.add_assoc] using hql
            refine GN_some (WTg_name ?_)
            wtm_at "one"
            refine WB_cons ?_
            wtm_at "one"
            refine br (fun hb2 => ?_) (fun hb2 => ?_)
            · have hb2 : d = 34 := by simpa using S_inj.mp (of_decide_eq_true hb2)
              subst hb2
              have e1 : word t = (acc, q') := by rw [← hq, quoted_end]
              wtm_at "all"
              rw [e1] at h
              refine ret_now (τ := l.sgn c' oc (line + cnt t - cnt q') q' ((l.p, .list []) :: ρ)) ?_ h
              rw [show line + cnt t - cnt q' = line + cnt t - cnt (34 :: q') + nl (34 :: q') by wtm_at "om"]
              wtm_at "sub"
            · have hb2 : ¬ d = 34 := fun e => of_decide_eq_false hb2 (by rw [e])
              wtm_at "one"
              refine WB_last ?_
              wtm_at "one"
              refine br (fun hb3 => ?_) (fun hb3 => ?_)
              · have hb3 : d = 92 := by simpa using S_inj.mp (of_decide_eq_true hb3)
                subst hb3
                rw [quoted_esc] at hq
                have hcn3 := cnt_tail q'
                refine WB_last ?_
                wtm_at "one"
                rw [show ([.ref l.x] ++ [] : List Value) = [.ref l.x] from rfl]
                refine WC_sub (by wtm_at "front") (C_read (n := n + 1) (ρ := (it, .obj (ciObj (.ref bm) (S []) u)) :: (bm, .obj (methodObj (.ref 67) (.ref l.x))) :: (l.p, .list []) :: ρ) r' T' F G (by wtm_at "om") hr ?_).wc
                have hlt : (q'.take 1).length ≤ 1 := by simp; wtm_at "om"
                have hlu : (q'.take 1).length + q'.tail.length = q'.length := by cases q' <;> simp; wtm_at "om"
                wtm_at "all"
                refine ⟨q'.tail.length + 1, mu (acc ++ q'.take 1), live (line + cnt t - cnt q'.tail) q'.tail, by simp; wtm_at "om", ?_, ?_, acc ++ q'.take 1, q'.tail, hq, rfl, ?_, rfl, rfl⟩
                · wtm_at "lem"
                · simp only [live]
                  rw [show line + cnt t - cnt q'.tail = line + cnt t - cnt (92 :: q') + nl (92 :: q') + nl q' by wtm_at "om"]
                  wtm_at "sub"
                · rw [List.length_append]; wtm_at "om"
              · have hb3 : ¬ d = 92 := fun e => of_decide_eq_false hb3 (by rw [e])
                rw [quoted_else _ _ hb2 hb3] at hq
                wtm_at "all"
                refine ⟨q'.length + 1, mu (acc ++ [d]), live (line + cnt t - cnt q') q', by simp, ?_, ?_, acc ++ [d], q', hq, rfl, ?_, rfl, rfl⟩
                · wtm_at "lem"
                · simp only [live]
                  rw [show line + cnt t - cnt q' = line + cnt t - cnt (d :: q') + nl (d :: q') by wtm_at "om"]
                  wtm_at "sub"
                · rw [List.length_append, List.length_singleton]; wtm_at "om"
        · have hq : ¬ c = 34 := fun e => of_decide_eq_false hq (by rw [e])
          have hcn1 := cnt_tail s'
          have hlt0 : (s'.take 1).length ≤ 1 := by simp; wtm_at "om"
          have hlu0 : (s'.take 1).length + s'.tail.length = s'.length := by cases s' <;> simp; wtm_at "om"
          have hs : s'.length + 1 ≤ t.length := by simpa using hs
          obtain ⟨a0, q0, e0, hw0, hl0, hc0, ha0⟩ : ∃ a0 q0, (if c = 92 then (s'.take 1, s'.tail) else ([c], s')) = (a0, q0) ∧ bare a0 q0 = word t ∧ a0.length + q0.length ≤ t.length ∧ q0.length ≤ s'.length ∧ a0.length ≤ 1 := by
            by_cases h92 : c = 92
            · refine ⟨s'.take 1, s'.tail, if_pos h92, ?_, by wtm_at "om", by wtm_at "om", hlt0⟩
              rw [← hw]; exact ((if_neg hb).trans ((if_neg hq).trans (if_pos h92))).symm
            · refine ⟨[c], s', if_neg h92, ?_, by simp; wtm_at "om", by wtm_at "om", by simp⟩
              rw [← hw]; exact ((if_neg hb).trans ((if_neg hq).trans (if_neg h92))).symm
          refine WB_cut [("ch", vS (S a0)), ("fiter", .ref it), ("token", vS (S [])), ("self", .ref l.x)] (live (line + cnt t - cnt q0) q0) ?_ ?_
          · wtm_at "one"
            refine br (fun hb3 => ?_) (fun hb3 => ?_)
            · have hb3 : c = 92 := by simpa using S_inj.mp (of_decide_eq_true hb3)
              subst hb3
              rw [if_pos rfl] at e0
              obtain ⟨rfl, rfl⟩ := Prod.mk.inj e0
              refine WB_last ?_
              wtm_at "one"
              rw [show ([.ref l.x] ++ [] : List Value) = [.ref l.x] from rfl]
              refine WC_sub (by wtm_at "front") (C_read (n := n + 1) (ρ := (it, .obj (ciObj (.ref bm) (S []) u)) :: (bm, .obj (methodObj (.ref 67) (.ref l.x))) :: (l.p, .list []) :: ρ) r' T' F G (by wtm_at "om") hr ?_).wc
              wtm_at "one"
              refine next_now (by wtm_at "lem") ?_
              simp only [live]
              rw [show line + cnt t - cnt s'.tail = line + cnt t - cnt (92 :: s') + nl (92 :: s') + nl s' by wtm_at "om"]
              wtm_at "sub"
            · have hb3 : ¬ c = 92 := fun e => of_decide_eq_false hb3 (by rw [e])
              rw [if_neg hb3] at e0
              obtain ⟨rfl, rfl⟩ := Prod.mk.inj e0
              wtm_at "one"
              refine next_now (by wtm_at "lem") ?_
              simp only [live]
              rw [show line + cnt t - cnt s' = line + cnt t - cnt (c :: s') + nl (c :: s') by wtm_at "om"]
              wtm_at "sub"
          · refine WB_cons ?_
            wtm_at "one"
            rw [List.nil_append]
            refine WB_last ?_
            refine WS_keepM (mu a0) (live (line + cnt t - cnt q0) q0) ?_ Sub.refl ?_
            · simp only [mu]
              wtm_at "lem"
            refine WS_ForG (J := fun k μ σ => ∃ acc s, bare acc s = word t ∧ k = s.length + 1 ∧ acc.length + s.length ≤ t.length ∧ μ = mu acc ∧ σ = live (line + cnt t - cnt s) s) ?_ (by intro _; rfl) (by intro _ _; rfl)
            simp only [mu]
            wtm_at "one"
            refine ⟨it, q0.length + 1, rfl, W_ci_self .here, ⟨a0, q0, hw0, rfl, hl0, rfl, rfl⟩, fun k μ σ hj2 => ?_⟩
            obtain ⟨acc, q, hq, rfl, hql, rfl, rfl⟩ := hj2
            refine N_sign (n := n) r' T' F G (by wtm_at "om") hr (fun hn => ?_) (fun d q' hd => ?_)
            · subst hn
              refine GN_none (WB_nil ?_)
              have e1 : word t = (acc, []) := by rw [← hq, bare_nil]
              have e2 : cnt ([] : List Nat) = 0 := by simp [cnt]
              refine ⟨0, mu (word t).1, over (line + cnt t), by wtm_at "om", ?_, ?_, .inr ⟨rfl, by rw [e1], rfl, rfl⟩⟩
              · rw [e1]
                wtm_at "lem"
              · simp only [over, e2, Int.sub_zero]
                wtm_at "sub"
            · subst hd
              have hcn2 := cnt_cons d q'
              have hql : acc.length + q'.length + 1 ≤ t.length := by simpa [Nat.add_assoc] using hql
              refine GN_some (WTg_name ?_)
              wtm_at "one"
              refine WB_cons ?_
              wtm_at "one"
              rw [contains_one]
              wtm_at "one"
              refine br (fun hb2 => ?_) (fun hb2 => ?_)
              · have hb2 := of_decide_eq_true hb2
                have e1 : word t = (acc, q') := by rw [← hq, bare_end _ _ hb2]
                wtm_at "all"
                rw [e1] at h
                refine ret_now (τ := l.sgn c' oc (line + cnt t - cnt q') q' ((l.p, .list []) :: ρ)) ?_ h
                rw [show line + cnt t - cnt q' = line + cnt t - cnt (d :: q') + nl (d :: q') by wtm_at "om"]
                wtm_at "sub"
              · have hb2 := of_decide_eq_false hb2
                wtm_at "one"
                refine WB_last ?_
                wtm_at "one"
                refine br (fun hb3 => ?_) (fun hb3 => ?_)
                · have hb3 : d = 92 := by simpa using S_inj.mp (of_decide_eq_true hb3)
                  subst hb3
                  rw [bare_esc] at hq
                  have hcn3 := cnt_tail q'
                  refine WB_last ?_
                  wtm_at "one"
                  rw [show ([.ref l.x] ++ [] : List Value) = [.ref l.x] from rfl]
                  refine WC_sub (by wtm_at "front") (C_read (n := n + 1) (ρ := (it, .obj (ciObj (.ref bm) (S []) u)) :: (bm, .obj (methodObj (.ref 67) (.ref l.x))) :: (l.p, .list []) :: ρ) r' T' F G (by wtm_at "om") hr ?_).wc
                  have hlt : (q'.take 1).length ≤ 1 := by simp; wtm_at "om"
                  have hlu : (q'.take 1).length + q'.tail.length = q'.length := by cases q' <;> simp; wtm_at "om"
                  wtm_at "all"
                  refine ⟨q'.tail.length + 1, mu (acc ++ q'.take 1), live (line + cnt t - cnt q'.tail) q'.tail, by simp; wtm_at "om", ?_, ?_, acc ++ q'.take 1, q'.tail, hq, rfl, ?_, rfl, rfl⟩
                  · wtm_at "lem"
                  · simp only [live]
                    rw [show line + cnt t - cnt q'.tail = line + cnt t - cnt (92 :: q') + nl (92 :: q') + nl q' by wtm_at "om"]
                    wtm_at "sub"
                  · rw [List.length_append]; wtm_at "om"
                · have hb3 : ¬ d = 92 := fun e => of_decide_eq_false hb3 (by rw [e])
                  rw [bare_else _ _ hb2 hb3] at hq
                  wtm_at "all"
                  refine ⟨q'.length + 1, mu (acc ++ [d]), live (line + cnt t - cnt q') q', by simp, ?_, ?_, acc ++ [d], q', hq, rfl, ?_, rfl, rfl⟩
                  · wtm_at "lem"
                  · simp only [live]
                    rw [show line + cnt t - cnt q' = line + cnt t - cnt (d :: q') + nl (d :: q') by wtm_at "om"]
                    wtm_at "sub"
                  · rw [List.length_append, List.length_singleton]; wtm_at "om"
  · refine W_ci_end r'.hh .here ?_
    refine GN_none ?_
    wtm_at "all"
    rw [hw] at h
    have e2 : line + cnt t - cnt ([] : List Nat) = line + cnt t := by simp [cnt]
    rw [e2] at h
    exact ret_now (τ := l.sgn c' oc (line + cnt t) [] ((l.p, .list []) :: ρ)) (by wtm_at "sub") h
end
/- the tables of codes -/
structure KT (K : Frag) : Prop where
  lex : codeHdIn K 312 308 = true
  sta : codeHdIn K 239 237 = true
noncomputable abbrev lexTab (c' : Addr) : Array Value := #[rawInt ((309 : Nat) : Int), rawInt ((4 : Nat) : Int), .ref c']
section
variable {C : Cx} {A : Around} {L : Addr} {σ ρ : Sg} {n : Nat} {K : Frag} {Q : Value → Sg → Prop}
theorem Binds_obj {env : Env} {x : Str} {μ : Mu} {f : Addr} {o : Obj} {v : Value} {Q : Mu → Sg → Prop} (o' : Obj) (e : o = o') (h : Binds C A env x μ ((f, .obj o') :: σ) v Q) : Binds C A env x μ ((f, .obj o) :: σ) v Q := e ▸ h
theorem IsRec_to {oc : Obj} {a b : Str} (h : IsRec oc a) (e : a = b) : IsRec oc b := e ▸ h
theorem C_newLexer {v : Value} (r : Room A (n + 2)) (T : Tp (DD K) C) (F : KF K) (G : KG K) (h : ∀ p x d, Q (.ref x) ((p, .list []) :: (x, .inst 84 d) :: (d, .sd (lexD 1 v p)) :: ρ)) : WC C A L (.ref 84) [v] ρ Q :=
  WC_make T G.lex r fun A' x d r' => C_lexInit r' T F G fun p => ⟨rfl, h p x d⟩
theorem C_lexer1 {sg : Addr} {t : List Nat} (r : Room A (n + 4)) (T : Tp (DD K) C) (F : KF K) (G : KG K) (KT : KT K)
    (h : ∀ l : Lx, ∀ c' oc, l.sg = sg → IsRec oc "_law_lexer.<locals>.give" → Q (.ref l.x) ((308, .obj (tabObj (lexTab c'))) :: (l.py, .list [vS (S [35])]) :: l.sgn c' oc 1 t ((l.p, .list []) :: ρ))) :
    WC C A L (.ref 313) [.ref sg] ((308, .obj (tabObj #[])) :: (sg, .list (cl t)) :: ρ) Q := by
  refine WCK.wc (WCK_fnC F.lexer T ["signs"] [] (fun L' => [("signs", L' + 1)]) (fun L' => [(L' + 1, .cell (some (.ref sg)))]) r (by kernel_rfl) (by intro; kernel_rfl) (by intro; kernel_rfl) (by (intro pm; refine' ln1 rfl ?_; intro a; kernel_rfl)) ["signs"] (by intro; rfl) (by kernel_rfl) (by kernel_rfl) (by decide +kernel) (by kernel_rfl) (by kernel_rfl) (by kernel_rfl) ?_)
  intro pm C' L' l T' r' hcl
  refine WB_cons ?_
  dsimp only [List.cons_append, List.nil_append]
  wtm_at "one"
  refine C_newLexer r' T' F G fun py y dy => ?_
  wtm_at "all"
  rw [show ([.ref y] ++ [vS (S [35])] : List Value) = [.ref y, vS (S [35])] from rfl]
  refine WC_sub (by wtm_at "front") (C_push (vs := []) r' T' F G (by simp) ?_)
  wtm_at "all"
  refine WS_nest (P := 308) (c := 312) (ps := #[]) (clos := [("signs", L' + 1)]) T' KT.lex rfl (by wtm_at "at") (by first | trivial | exact True.intro) (by kernel_rfl) (by kernel_rfl) rfl rfl (by kernel_rfl) fun f c' oc doc pm2 ctv hr => ?_
  have hr := IsRec_to hr (b := "_law_lexer.<locals>.give") (by kernel_rfl)
  refine Binds_obj (giveObj [("signs", L' + 1)] doc pm2 c' ctv) (by kernel_rfl) ?_
  wtm_at "all"
  refine C_newLexer r' T' F G fun p x d => ?_
  wtm_at "all"
  rw [Array.empty_append, List.nil_append]
  refine ret_now (τ := (308, .obj (tabObj (lexTab c'))) :: (py, .list [vS (S [35])]) :: (⟨x, d, p, y, dy, py, f, L' + 1, sg, doc, pm2, ctv⟩ : Lx).sgn c' oc 1 t ((p, .list []) :: ρ)) ?_ (h ⟨x, d, p, y, dy, py, f, L' + 1, sg, doc, pm2, ctv⟩ c' oc rfl hr)
  wtm_at "sub"
theorem C_lexer2 {sg : Addr} {t : List Nat} {c' : Addr} {oc : Obj} (r : Room A (n + 4)) (T : Tp (DD K) C) (F : KF K) (G : KG K) (KT : KT K)
    (h : ∀ l : Lx, l.sg = sg → Q (.ref l.x) ((308, .obj (tabObj (lexTab c'))) :: (l.py, .list [vS (S [35])]) :: l.sgn c' oc 1 t ((l.p, .list []) :: ρ))) :
    WC C A L (.ref 313) [.ref sg] ((308, .obj (tabObj (lexTab c'))) :: (c', .obj oc) :: (sg, .list (cl t)) :: ρ) Q := by
  refine WCK.wc (WCK_fnC F.lexer T ["signs"] [] (fun L' => [("signs", L' + 1)]) (fun L' => [(L' + 1, .cell (some (.ref sg)))]) r (by kernel_rfl) (by intro; kernel_rfl) (by intro; kernel_rfl) (by (intro pm; refine' ln1 rfl ?_; intro a; kernel_rfl)) ["signs"] (by intro; rfl) (by kernel_rfl) (by kernel_rfl) (by decide +kernel) (by kernel_rfl) (by kernel_rfl) (by kernel_rfl) ?_)
  intro pm C' L' l T' r' hcl
  refine WB_cons ?_
  dsimp only [List.cons_append, List.nil_append]
  wtm_at "one"
  refine C_newLexer r' T' F G fun py y dy => ?_
  wtm_at "all"
  rw [show ([.ref y] ++ [vS (S [35])] : List Value) = [.ref y, vS (S [35])] from rfl]
  refine WC_sub (by wtm_at "front") (C_push (vs := []) r' T' F G (by simp) ?_)
  wtm_at "all"
  refine WS_nestHit (P := 308) (c := 312) (ps := lexTab c') (c' := c') (clos := [("signs", L' + 1)]) T' KT.lex rfl (by wtm_at "at") (by first | trivial | exact True.intro) (by kernel_rfl) (by kernel_rfl) rfl rfl (by kernel_rfl) fun f doc pm2 ctv => ?_
  refine Binds_obj (giveObj [("signs", L' + 1)] doc pm2 c' ctv) (by kernel_rfl) ?_
  wtm_at "all"
  refine C_newLexer r' T' F G fun p x d => ?_
  wtm_at "all"
  rw [List.nil_append]
  refine ret_now (τ := (308, .obj (tabObj (lexTab c'))) :: (py, .list [vS (S [35])]) :: (⟨x, d, p, y, dy, py, f, L' + 1, sg, doc, pm2, ctv⟩ : Lx).sgn c' oc 1 t ((p, .list []) :: ρ)) ?_ (h ⟨x, d, p, y, dy, py, f, L' + 1, sg, doc, pm2, ctv⟩ rfl)
  wtm_at "sub"
end
theorem bare_len (a t : List Nat) : (bare a t).2.length ≤ t.length := by
  fun_induction bare a t <;> simp_all <;> wtm_at "om"
theorem quoted_len (a t : List Nat) : (quoted a t).2.length ≤ t.length := by
  fun_induction quoted a t <;> simp_all <;> wtm_at "om"
theorem word_len (t : List Nat) : (word t).2.length ≤ t.length := by
  induction t with
  | nil => simp [word]
  | cons c r ih =>
    have h1 := quoted_len [] r
    have h2 := bare_len (r.take 1) r.tail
    have h3 := bare_len [c] r
    rw [word]
    split
    · simp; wtm_at "om"
    · split
      · simp; wtm_at "om"
      · split
        · simp at h2 ⊢; wtm_at "om"
        · simp; wtm_at "om"
inductive Words : List Nat → List (List Nat) → List Nat → Prop
  | nil {t r} : word t = ([], r) → Words t [] r
  | cons {t w r ws r'} : word t = (w, r) → w ≠ [] → Words r ws r' → Words t (w :: ws) r'
noncomputable def vL (ws : List (List Nat)) : List Value := ws.map fun w => vS (S w)
noncomputable def Seen (w r : List Nat) (ws : List (List Nat)) (t' : List Nat) : Prop := (w = [] ∧ ws = [] ∧ r = t') ∨ (w ≠ [] ∧ ∃ ws', ws = w :: ws' ∧ Words r ws' t')
theorem Words.seen {t t' : List Nat} {ws : List (List Nat)} (h : Words t ws t') : Seen (word t).1 (word t).2 ws t' := by
  cases h with
  | nil e => exact .inl ⟨by rw [e], rfl, by rw [e]⟩
  | cons e h1 h2 => exact .inr ⟨by rw [e]; exact h1, _, by rw [e], by rw [e]; exact h2⟩
section
variable {C : Cx} {A : Around} {L : Addr} {σ ρ : Sg} {n : Nat} {K : Frag} {Q : Value → Sg → Prop}
theorem C_words {l : Lx} {c' : Addr} {oc : Obj} {line : Int} {t t' : List Nat} {ws : List (List Nat)} (r : Room A (n + 5)) (T : Tp (DD K) C) (F : KF K) (G : KG K) (hz : t.length ≤ 100000) (hr : IsRec oc "_law_lexer.<locals>.give") (hw : Words t ws t') (hws : ws.length ≤ 100000)
    (h : ∀ a, Q (.ref a) ((a, .list (vL ws)) :: l.sgn c' oc (line + cnt t - cnt t') t' ((l.p, .list []) :: ρ))) : WC C A L (.ref 339) [.ref l.x] (l.sgn c' oc line t ((l.p, .list []) :: ρ)) Q := by
  refine WC_fn F.words T ["lexer"] [("lexer", .ref l.x)] r rfl (by (intro pm; refine' ln1 rfl ?_; intro a; kernel_rfl)) (by kernel_rfl) (by kernel_rfl) (by kernel_rfl) (by kernel_rfl) (by kernel_rfl) ?_
  intro pm C' L' e T' r'
  refine WB_cons ?_
  wtm_at "all"
  rename_i a
  refine WC_sub (by wtm_at "front") (C_get (n := n) (ρ := (a, .list []) :: ρ) r' T' F G hz hr ?_).wc
  wtm_at "one"
  have hl := word_len t
  refine WB_cons (WS_While (fun k μ σ => ∃ done w q us, Seen w q us t' ∧ ws = done ++ us ∧ k = us.length ∧ q.length ≤ t.length ∧ μ = ([("word", vS (S w)), ("words", .ref a), ("lexer", .ref l.x)] : Mu) ∧ σ = l.sgn c' oc (line + cnt t - cnt q) q ((l.p, .list []) :: (a, .list (vL done)) :: ρ)) ws.length ⟨[], _, _, ws, hw.seen, rfl, rfl, hl, rfl, rfl⟩ ?_)
  rintro k μ σ ⟨done, w, q, us, hs, rfl, rfl, hq, rfl, rfl⟩
  wtm_at "one"
  refine br (fun hb => ?_) (fun hb => ?_)
  · have hb : ¬ w = [] := fun e => of_decide_eq_true hb (by rw [e])
    rcases hs with ⟨rfl, _, _⟩ | ⟨_, vs, rfl, hs⟩
    · exact absurd rfl hb
    wtm_at "all"
    refine WC_append (vs := vL done) (by wtm_at "at") (by simp [vL] at hws ⊢; wtm_at "om") ?_
    wtm_at "all"
    refine WC_sub (by wtm_at "front") (C_get (n := n) (ρ := (a, .list (vL done ++ [vS (S w)])) :: ρ) r' T' F G (by wtm_at "om") hr ?_).wc
    wtm_at "all"
    have hl2 := word_len q
    refine ⟨vs.length, [("word", vS (S (word q).1)), ("words", .ref a), ("lexer", .ref l.x)], l.sgn c' oc (line + cnt t - cnt (word q).2) (word q).2 ((l.p, .list []) :: (a, .list (vL (done ++ [w]))) :: ρ), by simp, by wtm_at "lem", ?_, done ++ [w], _, _, vs, hs.seen, by simp, rfl, by wtm_at "om", rfl, rfl⟩
    rw [show vL (done ++ [w]) = vL done ++ [vS (S w)] by simp [vL], show line + cnt t - cnt (word q).2 = line + cnt t - cnt q + cnt q - cnt (word q).2 by wtm_at "om"]
    wtm_at "sub"
  · have hb : w = [] := S_inj.mp (by simpa using of_decide_eq_false hb)
    rcases hs with ⟨_, rfl, rfl⟩ | ⟨hn, _⟩
    · wtm_at "all"
      rw [List.append_nil] at h
      exact ret_now (by wtm_at "sub") (h a)
    · exact absurd hb hn
end
noncomputable def b1N : List Nat := [173, 847, 6150, 6155, 6156, 6157, 8203, 8204, 8205, 8288, 65279] ++ (List.range 16).map (65024 + ·)
noncomputable def lets : List Nat := [102, 105, 108, 115, 116]
/- the signs that are folded here: a sign, what it becomes, and if the table holds it -/
noncomputable def dom : List (Nat × List Nat × Bool) :=
  [(60, [60], false), (47, [47], false), (62, [62], false)] ++ lets.map (fun c => (c, [c], false)) ++ lets.map (fun c => (c - 32, [c], false)) ++
  [(64256, [102, 102], true), (64257, [102, 105], true), (64258, [102, 108], true), (64259, [102, 102, 105], true), (64260, [102, 102, 108], true), (64261, [115, 116], true), (64262, [115, 116], true)] ++
  ([119808, 119860, 119912, 120016, 120172, 120224, 120276, 120328, 120380, 120432] : List Nat).flatMap fun b => lets.map fun c => (b + c - 97, [c], true)
noncomputable def foldN (c : Nat) : List Nat := ((dom.lookup c).map (·.1)).getD []
theorem dom_ok : (dom.all fun p => decide (foldN p.1 = p.2.1) && (p.2.2 || decide (Txt.lower (S [p.1]) = S p.2.1))) = true := by decide +kernel
theorem dom_short {c : Nat} {f : List Nat} (hm : (c, f, false) ∈ dom) (hd : foldN c = f) : Builtin.Str.tooLong (Txt.lower (S [c])).length = false := by
  have h : (dom.all fun p => p.2.2 || !Builtin.Str.tooLong (Txt.lower (S [p.1])).length) = true := by decide +kernel
  simpa using List.all_eq_true.mp h _ hm
/- what the head's tables hold -/
structure KD (K : Frag) : Prop where
  b1 : ∀ prog w h, K.In h → h.SetOf (intKind prog w) 96 (fun i => decide (∃ c ∈ b1N, i = ((c : Nat) : Int))) 27
  b3 : ∀ prog w h, K.In h → ∃ f, h.MapOf (intKind prog w) 107 f ∧ ∀ p ∈ dom, (f ((p.1 : Nat) : Int)).map can = if p.2.2 then some (vS (S p.2.1)) else none
section
variable {C : Cx} {A : Around} {L : Addr} {σ ρ : Sg} {n : Nat} {K : Frag} {Q : Value → Sg → Prop}
theorem intKind_is {prog : Program} {w : World} {i : Int} {t : Tok} : (intKind prog w).is i (.int i t) = true := by
  show Value.isInt i (.int i t) = true
  simp [Value.isInt]
theorem C_inSetK {p : Addr} {F : Int → Bool} {m : Nat} {i : Int} (T : Tp (DD K) C) (H : ∀ prog w h, K.In h → h.SetOf (intKind prog w) p F m) (h : Q (.bool (F i)) σ) : W2 C A L (compareOp .In) (vI i) (.ref p) σ Q := fun μ a' b' ha hb => WV_by fun s hs Q' q => by
  obtain ⟨t, rfl⟩ := can_int ha
  rw [can_ref hb]
  exact wpAny_inSet_of intKind_is rfl (H C.prog C.w _ (T.X.keeps hs.keep)) (q _ _ _ h hs.toks)
theorem MapOf_type {prog : Program} {w : World} {h : Heap} {p : Addr} {f : Int → Option Value} (m : h.MapOf (intKind prog w) p f) : ∃ o, h.get? p = some o ∧ o.cls = .type "dict" ∧ o.dict = none := by
  obtain ⟨o, es, ep, ho, hc, _⟩ := m
  exact ⟨o, ho, hc.1, hc.2.1⟩
theorem WM_dictK {p : Addr} {name : Str} {id : String} {Q : Value → List Value → Sg → Prop} (T : Tp (DD K) C) (H : ∀ prog w h, K.In h → ∃ f : Int → Option Value, h.MapOf (intKind prog w) p f) (slot : Slot "dict" name id) (ty : typeOf (.builtin id) = pure (.type "method_descriptor")) (h : Q (.builtin id) [.ref p] σ) :
    WM C A L (.ref p) name σ Q := fun μ pl v' e => by
  rw [can_ref e]
  refine W_by fun s hs Q' q => ?_
  obtain ⟨f, m⟩ := H C.prog C.w _ (T.X.keeps hs.keep)
  obtain ⟨o, ho, hc, hn⟩ := MapOf_type m
  exact getMethod_builtin (T := "dict") ⟨_, ho, hc⟩ PySem.F.plainAttrs_dict slot ty (fun b eb => by cases eb; exact ⟨_, ho, hn⟩) (q (.builtin id, [.ref p]) μ _ _ ⟨rfl, h⟩ hs)
theorem WC_getK {p : Addr} {i : Int} {v : Value} (T : Tp (DD K) C) (H : ∀ prog w h, K.In h → ∃ f : Int → Option Value, h.MapOf (intKind prog w) p f ∧ ((f i).map can).getD .none = v) (hp : (p == sysModules) = false) (h : Q v σ) : WC C A L (.builtin "dict.get") [.ref p, vI i] σ Q :=
  WC2 fun μ a' b' ea eb => WV_by fun s hs Q' q => by
    rw [can_ref ea]
    obtain ⟨t, rfl⟩ := can_int eb
    obtain ⟨f, m, hv⟩ := H C.prog C.w _ (T.X.keeps hs.keep)
    obtain ⟨o, ho, hc, hn⟩ := MapOf_type m
    refine call_meetsIn PySem.F.slot_dict_get ⟨_, ho, hc⟩ PySem.F.entry_dict_get (PySem.F.args_dict_get_2 _ _) (meets_dict_get (intKind C.prog C.w) p (k := i) intKind_is hp) ⟨f, m, ?_⟩
    refine q _ _ _ ?_ hs.toks
    have e : can ((f i).getD .none) = v := by rw [← hv]; cases f i <;> rfl
    show Q (can _) σ
    rw [e]; exact h
theorem C_inb1 {c : Nat} (r : Room A (n + 1)) (T : Tp (DD K) C) (F : KF K) (D : KD K) (h : Q (.bool (decide (c ∈ b1N))) σ) : WC C A L (.ref 106) [vS (S [c])] σ Q := by
  refine WC_fn F.inb1 T ["code"] [("code", vS (S [c]))] r rfl (by (intro pm; refine' ln1 rfl ?_; intro a; kernel_rfl)) (by kernel_rfl) (by kernel_rfl) (by kernel_rfl) (by kernel_rfl) (by kernel_rfl) ?_
  intro pm C' L' e T' r'
  refine WB_cons ?_
  wtm_at "one"
  refine WC_ord ?_
  wtm_at "one"
  refine C_inSetK T' D.b1 ?_
  wtm_at "all"
  refine ret_now (by wtm_at "sub") ?_
  rw [show decide (∃ c_1 ∈ b1N, (c : Int) = ((c_1 : Nat) : Int)) = decide (c ∈ b1N) from decide_eq_decide.mpr ⟨fun ⟨x, hx, e⟩ => by rw [Int.ofNat_inj.mp e]; exact hx, fun hx => ⟨c, hx, rfl⟩⟩]
  exact h
theorem C_mapb3 {c : Nat} {f : List Nat} {b : Bool} (r : Room A (n + 1)) (T : Tp (DD K) C) (F : KF K) (D : KD K) (hm : (c, f, b) ∈ dom) (h : Q (vS (S f)) σ) : WC C A L (.ref 152) [vS (S [c])] σ Q := by
  refine WC_fn F.mapb3 T ["code"] [("code", vS (S [c]))] r rfl (by (intro pm; refine' ln1 rfl ?_; intro a; kernel_rfl)) (by kernel_rfl) (by kernel_rfl) (by kernel_rfl) (by kernel_rfl) (by kernel_rfl) ?_
  intro pm C' L' e T' r'
  refine WB_cons ?_
  wtm_at "one"
  refine WM_dictK T' (fun prog w h i => let ⟨f, m, _⟩ := D.b3 prog w h i; ⟨f, m⟩) PySem.F.slot_dict_get PySem.F.type_dict_get ?_
  wtm_at "one"
  refine WC_ord ?_
  wtm_at "one"
  have hd := List.all_eq_true.mp dom_ok _ hm
  simp only [Bool.and_eq_true, decide_eq_true_eq, Bool.or_eq_true] at hd
  refine WC_getK (v := if b then vS (S f) else .none) T' (fun prog w h i => ?_) (by decide) ?_
  · obtain ⟨g, m, hg⟩ := D.b3 prog w h i
    refine ⟨g, m, ?_⟩
    have := hg _ hm
    simp only at this
    rw [this]
    cases b <;> rfl
  · cases b with
    | true =>
      wtm_at "all"
      rw [if_pos rfl, show (!vS (S f) == Value.none) = true from rfl]
      wtm_at "all"
      exact ret_now (by wtm_at "sub") h
    | false =>
      wtm_at "all"
      simp only [Bool.false_eq_true, if_false]
      rw [show (!Value.none == Value.none) = false from rfl]
      wtm_at "all"
      refine WC_lower (dom_short hm hd.1) ?_
      wtm_at "all"
      rw [hd.2.resolve_left (by simp)]
      exact ret_now (by wtm_at "sub") h
end
noncomputable def prep (word : List Nat) : List Nat := ((word.filter fun c => decide (c ∉ b1N)).map foldN).flatten
noncomputable def gP : Value → Option Value
  | .str s _ => if s.cps.getD 0 0 ∈ b1N then none else some (vS (S (foldN (s.cps.getD 0 0))))
  | _ => none
theorem gP_one (a : Nat) : gP (vS (S [a])) = if a ∈ b1N then none else some (vS (S (foldN a))) := rfl
theorem gP_map (l : List Nat) : (chars (S l)).filterMap gP = (((l.filter fun c => decide (c ∉ b1N)).map foldN).map S).map vS := by
  rw [chars_S]
  induction l with
  | nil => rfl
  | cons a r ih =>
    rw [List.map_cons, List.filterMap_cons, ih]
    rw [gP_one]
    by_cases h : a ∈ b1N
    · rw [if_pos h, List.filter_cons_of_neg (by simpa using h)]
    · rw [if_neg h, List.filter_cons_of_pos (by simpa using h)]; rfl
theorem lookup_mem' {α : Type} : ∀ {l : List (Nat × α)} {c : Nat} {a : α}, l.lookup c = some a → (c, a) ∈ l
  | (y, v) :: r, c, a, h => by
    rw [List.lookup_cons] at h
    cases q : (c == y) with
    | true => rw [q] at h; rw [beq_iff_eq.mp q]; cases h; exact .head _
    | false => rw [q] at h; exact .tail _ (lookup_mem' h)
theorem fold_dom {c : Nat} (h : (dom.lookup c).isSome = true) : ∃ b, (c, foldN c, b) ∈ dom := by
  obtain ⟨⟨f, b⟩, e⟩ := Option.isSome_iff_exists.mp h
  refine ⟨b, ?_⟩
  rw [show foldN c = f by unfold foldN; rw [e]; rfl]
  exact lookup_mem' e
theorem fold_len (c : Nat) : (foldN c).length ≤ 3 := by
  have h : (dom.all fun p => decide (p.2.1.length ≤ 3)) = true := by decide +kernel
  unfold foldN
  cases e : dom.lookup c with
  | none => simp
  | some p =>
    have := List.all_eq_true.mp h _ (lookup_mem' e)
    simpa using this
theorem prep_len (l : List Nat) : (prep l).length ≤ 3 * l.length := by
  unfold prep
  induction l with
  | nil => simp
  | cons a r ih =>
    have := fold_len a
    by_cases h : a ∈ b1N
    · rw [List.filter_cons_of_neg (by simpa using h)]
      rw [List.length_cons]; wtm_at "om"
    · rw [List.filter_cons_of_pos (by simpa using h)]
      simp only [List.map_cons, List.flatten_cons, List.length_append, List.length_cons]
      wtm_at "om"
section
variable {C : Cx} {A : Around} {L : Addr} {σ ρ : Sg} {n : Nat} {K : Frag} {Q : Value → Sg → Prop}
theorem C_prepared {word : List Nat} (r : Room A (n + 2)) (T : Tp (DD K) C) (F : KF K) (D : KD K) (hz : word.length ≤ 1000) (hw : ∀ c ∈ word, c ∈ b1N ∨ (dom.lookup c).isSome = true) (h : Q (vS (S (prep word))) σ) : WC C A L (.ref 318) [vS (S word)] σ Q := by
  refine WC_fn F.prepared T ["word"] [("word", vS (S word))] r rfl (by (intro pm; refine' ln1 rfl ?_; intro a; kernel_rfl)) (by kernel_rfl) (by kernel_rfl) (by kernel_rfl) (by kernel_rfl) (by kernel_rfl) ?_
  intro pm C' L' l T' r'
  refine WB_cons ?_
  wtm_at "one"
  refine WE_LC [] r' ?_ (by kernel_rfl) (by kernel_rfl) (by kernel_rfl) (by kernel_rfl) (by intro _; rfl) (by intro _ _; rfl)
  wtm_at "one"
  refine lgo (τ := σ) (chars (S word)) (fun _ => True) gP (by wtm_at "sub") ItS_str trivial (by rw [chars_len]; wtm_at "om") ?_ (fun D => ?_)
  · intro C'' L'' v it D o ys l'' hv
    obtain ⟨c, hc, rfl⟩ := chars_mem hv
    have T'' := T'.le l''
    refine WTg_name ?_
    wtm_at "one"
    refine C_inb1 r' T'' F (by assumption) ?_
    wtm_at "one"
    rw [gP_one]
    refine br (fun hb => ?_) (fun hb => ?_)
    · have hb : ¬ c ∈ b1N := by simpa using hb
      obtain ⟨b, hd⟩ := fold_dom ((hw c hc).resolve_left hb)
      wtm_at "one"
      refine C_mapb3 r' T'' F (by assumption) hd ?_
      exact ⟨by wtm_at "sub", if_neg hb⟩
    · have hb : c ∈ b1N := by simpa using hb
      exact ⟨by wtm_at "sub", if_pos hb⟩
  · rw [gP_map]
    wtm_at "one"
    refine WC_join .here (joinOk_S ?_) ?_
    · have := prep_len word
      unfold prep at this
      wtm_at "om"
    wtm_at "all"
    rw [glued_S]
    exact ret_now (by wtm_at "sub") h
end
noncomputable abbrev rgObj (a b : Int) (t u v : Tok) : Obj := { cls := .type "range", dict := none, data := .fields #[.int a t, .int b u, .int 1 v], slots := #[] }
section
variable {C : Cx} {A : Around} {L : Addr} {σ : Sg} {K : Frag} {Q : Value → Sg → Prop}
theorem WC3 {f x y z : Value} (h : ∀ μ x' y' z', can x' = x → can y' = y → can z' = z → WV C A L (call f [x', y', z']) μ σ Q) : WC C A L f [x, y, z] σ Q := fun μ args e => by
  obtain ⟨x', y', z', rfl, e1, e2, e3⟩ := can_map3 e
  exact h μ x' y' z' e1 e2 e3
theorem WC_range1 {b : Int} (h : ∀ r t u v, Q (.ref r) ((r, .obj (rgObj 0 b t u v)) :: σ)) : WC C A L (.type "range") [vI b] σ Q := WC1 fun μ a' ea => WV_by fun s hs Q' q => by
  obtain ⟨t, rfl⟩ := can_int ea
  exact call_range_1 (q _ _ _ (h _ _ _ _) ((hs.push (o := .obj (rgObj 0 b s.toks t (s.toks + 1))) (ob := rgObj 0 b s.toks t (s.toks + 1)) rfl rfl).toks))
theorem WC_range2 {a b : Int} (h : ∀ r t u v, Q (.ref r) ((r, .obj (rgObj a b t u v)) :: σ)) : WC C A L (.type "range") [vI a, vI b] σ Q := WC2 fun μ a' b' ea eb => WV_by fun s hs Q' q => by
  obtain ⟨t, rfl⟩ := can_int ea; obtain ⟨u, rfl⟩ := can_int eb
  exact call_range_2 (q _ _ _ (h _ _ _ _) ((hs.push (o := .obj (rgObj a b t u s.toks)) (ob := rgObj a b t u s.toks) rfl rfl).toks))
theorem ItS_range {r : Addr} {a b : Int} {t u v : Tok} {f : AO → Sg} (x : At σ r (.obj (rgObj a b t u v)) f) (h1 : -(2 ^ 62) ≤ a) (h2 : a < 2 ^ 62) (h3 : -(2 ^ 62) ≤ b) (h4 : b < 2 ^ 62) :
    ItS C A (.ref r) ((List.range (b - a).toNat).map fun (i : Nat) => vI (a + i)) (fun _ => True) σ := fun L μ v' e => W_by fun s hs Q' q => by
  rw [can_ref e]
  refine wpAny_pyIter_range (hs.obj x) (small_one h1 h2 h3 h4) (q _ _ _ _ ⟨rfl, _, _, rfl, Walk_range a (b - a).toNat, rfl⟩ (hs.push ?_ rfl))
  show _ = _
  rw [rangeSize_one, show (if a < b then b - a else 0) = (((b - a).toNat : Nat) : Int) - ((0 : Nat) : Int) by split <;> wtm_at "om", show a + ((0 : Nat) : Int) = a by simp]
theorem WC_getK2 {p : Addr} {i : Int} {v d : Value} (T : Tp (DD K) C) (H : ∀ prog w h, K.In h → ∃ f : Int → Option Value, h.MapOf (intKind prog w) p f ∧ ((f i).map can).getD d = v) (hp : (p == sysModules) = false) (h : Q v σ) : WC C A L (.builtin "dict.get") [.ref p, vI i, d] σ Q :=
  WC3 fun μ a' b' d' ea eb ed => WV_by fun s hs Q' q => by
    rw [can_ref ea]
    obtain ⟨t, rfl⟩ := can_int eb
    obtain ⟨f, m, hv⟩ := H C.prog C.w _ (T.X.keeps hs.keep)
    obtain ⟨o, ho, hc, _⟩ := MapOf_type m
    refine call_meetsIn PySem.F.slot_dict_get ⟨_, ho, hc⟩ PySem.F.entry_dict_get (PySem.F.args_dict_get_3 _ _ _) (meets_dict_get_default (intKind C.prog C.w) p (k := i) intKind_is hp d') ⟨f, m, ?_⟩
    refine q _ _ _ ?_ hs.toks
    have e : can ((f i).getD d') = v := by rw [← hv, ← ed]; cases f i <;> rfl
    show Q (can _) σ
    rw [e]; exact h
end
noncomputable def flagNames : List Str := ["OPTIMIZED", "NEWLOCALS", "VARARGS", "VARKEYWORDS", "NESTED", "GENERATOR", "NOFREE", "COROUTINE", "ITERABLE_COROUTINE", "ASYNC_GENERATOR"]
noncomputable def flagS (i : Nat) : Str := if i < 10 then flagNames.getD i (S []) else PySem.baseText "0x" 16 ((2 ^ i : Nat) : Int)
structure KD2 (K : Frag) : Prop where
  flags : ∀ prog w h, K.In h → ∃ f, h.MapOf (intKind prog w) 39 f ∧ ∀ i < 32, (f ((2 ^ i : Nat) : Int)).map can = if i < 10 then some (vS (flagS i)) else none
/- the flags from the i-th place on -/
noncomputable def cut (F i : Nat) : Nat := F / 2 ^ i * 2 ^ i
theorem cut_zero (F : Nat) : cut F 0 = F := by simp [cut]
theorem div_succ (F i : Nat) : F / 2 ^ i = 2 * (F / 2 ^ (i + 1)) + (F.testBit i).toNat := by
  rw [Nat.toNat_testBit, Nat.pow_succ, ← Nat.div_div_eq_div_mul]
  wtm_at "om"
theorem cut_succ (F i : Nat) : cut F i = cut F (i + 1) + (F.testBit i).toNat * 2 ^ i := by
  unfold cut
  rw [div_succ F i, Nat.pow_succ, Nat.add_mul]
  congr 1
  rw [Nat.mul_assoc, Nat.mul_left_comm, Nat.mul_comm 2 (2 ^ i)]
theorem cut_bit (F i : Nat) : (cut F i).testBit i = F.testBit i := by
  unfold cut
  rw [Nat.testBit_eq_decide_div_mod_eq, Nat.testBit_eq_decide_div_mod_eq, Nat.mul_div_cancel _ (Nat.two_pow_pos i)]
theorem and_pow (n i : Nat) : n &&& 2 ^ i = (n.testBit i).toNat * 2 ^ i := by
  apply Nat.eq_of_testBit_eq
  intro j
  rw [Nat.testBit_and, Nat.testBit_two_pow]
  by_cases e : i = j
  · subst e
    cases n.testBit i <;> simp
  · simp only [e, decide_false, Bool.and_false]
    cases n.testBit i <;> simp [Nat.testBit_two_pow, e]
theorem and_cut (F i : Nat) : Builtin.bitAnd (cut F i) ((2 ^ i : Nat) : Int) = (((F.testBit i).toNat * 2 ^ i : Nat) : Int) := by
  have e : Builtin.bitAnd (cut F i) ((2 ^ i : Nat) : Int) = ((cut F i &&& 2 ^ i : Nat) : Int) := by
    unfold Builtin.bitAnd
    have h1 : decide ((0 : Int) ≤ ((cut F i : Nat) : Int)) = true := by simp
    have h2 : decide ((0 : Int) ≤ ((2 ^ i : Nat) : Int)) = true := decide_eq_true (Int.natCast_nonneg _)
    rw [h1, h2]
    rfl
  rw [e, and_pow, cut_bit]
theorem xor_cut (F i : Nat) (h : F.testBit i = true) : Builtin.bitXor (cut F i) ((2 ^ i : Nat) : Int) = ((cut F (i + 1) : Nat) : Int) := by
  rw [bitXor_and, and_cut, cut_succ F i, h]
  simp only [Bool.toNat_true, Nat.one_mul]
  push_cast
  wtm_at "om"
theorem cut_big {F : Nat} (h : 2 ^ 32 ≤ F) {i : Nat} (hi : i ≤ 32) : 2 ^ 32 ≤ cut F i := by
  unfold cut
  obtain ⟨k, e⟩ : ∃ k, 32 = i + k := ⟨32 - i, by wtm_at "om"⟩
  rw [e, Nat.pow_add, Nat.mul_comm] at h ⊢
  refine Nat.mul_le_mul_right _ ?_
  rw [Nat.le_div_iff_mul_le (Nat.two_pow_pos i)]
  exact h
theorem joinOk_le {sep : Str} {xs : List Str} {m : Nat} (h : ∀ x ∈ xs, x.length ≤ m) (hk : xs.length * (m + sep.length) ≤ 1000000) : JoinOk sep xs = true := by
  unfold JoinOk
  rw [Bool.not_eq_true']
  have e : ∀ (l : List Str) (k : Nat), (∀ x ∈ l, x.length ≤ m) → l.foldl (fun (a : Nat) (b : Str) => a + b.length + sep.length) k ≤ k + l.length * (m + sep.length) := by
    intro l
    induction l with
    | nil => intro k _; simp
    | cons a r ih =>
      intro k hl
      rw [List.foldl_cons, List.length_cons, Nat.add_mul]
      have h1 := ih (k + a.length + sep.length) fun x hx => hl x (.tail _ hx)
      have h2 := hl a (.head _)
      wtm_at "om"
  have := e xs 0 h
  rw [List.foldl_toArray]
  unfold Builtin.Str.tooLong
  have := big_line
  exact decide_eq_false (by wtm_at "om")
noncomputable def hexN (i : Nat) : Str := PySem.baseText "0x" 16 ((2 ^ i : Nat) : Int)
theorem flag_len {i : Nat} (h : i < 32) : (flagS i).length ≤ 40 ∧ (PySem.baseText "0x" 16 ((2 ^ i : Nat) : Int)).length ≤ 40 := by
  have k : ((List.range 32).all fun i => decide ((flagS i).length ≤ 40) && decide ((PySem.baseText "0x" 16 ((2 ^ i : Nat) : Int)).length ≤ 40)) = true := by decide +kernel
  have := List.all_eq_true.mp k i (List.mem_range.mpr h)
  simpa using this
theorem hex_top : PySem.baseText "0x" 16 ((3 * 2 ^ 32 : Nat) : Int) = S [48, 120, 51, 48, 48, 48, 48, 48, 48, 48, 48] := by decide +kernel
theorem hex_zero : PySem.baseText "0x" 16 ((0 : Nat) : Int) = S [48, 120, 48] := by decide +kernel
noncomputable def shownTop (F : Nat) : Str := if F = 0 then S [48, 120, 48] else S [48, 120, 51, 48, 48, 48, 48, 48, 48, 48, 48]
theorem cut_top {F : Nat} (h : F / 2 ^ 32 = 3 ∨ F = 0) : PySem.baseText "0x" 16 ((cut F 32 : Nat) : Int) = shownTop F := by
  unfold shownTop cut
  rcases h with h | rfl
  · rw [h, hex_top, if_neg (by intro e; subst e; simp at h)]
  · rw [if_pos rfl]; exact hex_zero
theorem top_len (F : Nat) : (shownTop F).length ≤ 40 := by unfold shownTop; split <;> decide
noncomputable def placed (F k : Nat) : List Str := ((List.range k).filter F.testBit).map flagS
theorem placed_succ (F k : Nat) : placed F (k + 1) = placed F k ++ if F.testBit k then [flagS k] else [] := by
  unfold placed
  rw [List.range_succ, List.filter_append, List.map_append]
  congr 1
  cases h : F.testBit k <;> simp [h]
theorem placed_len (F k : Nat) : (placed F k).length ≤ k := by
  unfold placed
  rw [List.length_map]
  exact Nat.le_trans (List.length_filter_le ..) (by simp)
theorem one_shl (i : Nat) : (1 : Int) * 2 ^ i = ((2 ^ i : Nat) : Int) := by push_cast; wtm_at "om"
section
variable {C : Cx} {A : Around} {L : Addr} {σ ρ : Sg} {n : Nat} {K : Frag} {Q : Value → Sg → Prop}
theorem C_pretty {F : Nat} (r : Room A (n + 1)) (T : Tp (DD K) C) (FF : KF K) (D : KD2 K) (hF : F / 2 ^ 32 = 3 ∨ F = 0) (h : Q (vS (Txt.join (S [44, 32]) (placed F 32 ++ [shownTop F]))) σ) : WC C A L (.ref 46) [vI F] σ Q := by
  refine WC_fn FF.pretty T ["flags"] [("flags", vI F)] r rfl (by (intro pm; refine' ln1 rfl ?_; intro a; kernel_rfl)) (by kernel_rfl) (by kernel_rfl) (by kernel_rfl) (by kernel_rfl) (by kernel_rfl) ?_
  intro pm C' L' e T' r'
  refine WB_cons ?_
  wtm_at "all"
  rename_i a
  refine WS_For (n := n) (H := fun _ => True) (J := fun i μ σ' => μ = ([("names", .ref a), ("flags", vI (cut F i))] : Mu) ∧ ∃ p o, σ' = (p, o) :: (a, .list ((placed F i).map vS)) :: σ) (vs := (List.range 32).map fun (i : Nat) => vI (0 + i)) r' ?_ (fun _ _ _ _ => trivial) ?_ ?_ (by intro _; rfl) (by intro _ _; rfl)
  · wtm_at "one"
    refine WC_range1 fun p t u v => ?_
    refine ⟨ItS_range (b := 32) .here (by decide) (by decide) (by decide) (by decide), ?_, p, _, rfl⟩
    rw [cut_zero]
  · rintro i x it o μ σ' hx ⟨rfl, p, ob, rfl⟩
    obtain ⟨hi, rfl⟩ := range_get hx
    have hlen := placed_len F i
    refine WTg_name ?_
    wtm_at "one"
    refine WB_cons ?_
    wtm_at "one"
    refine B_shl (by wtm_at "om") (by wtm_at "om") (by decide) ?_
    rw [show (0 + (i : Int)).toNat = i by wtm_at "om", one_shl]
    wtm_at "one"
    refine WB_cons ?_
    wtm_at "one"
    rw [and_cut]
    refine br (fun hb => ?_) (fun hb => ?_)
    · have hb : F.testBit i = true := by
        cases hc : F.testBit i with
        | true => rfl
        | false => rw [hc] at hb; simp at hb
      wtm_at "all"
      refine WM_dictK T' (fun prog w h i => let ⟨f, m, _⟩ := D.flags prog w h i; ⟨f, m⟩) PySem.F.slot_dict_get PySem.F.type_dict_get ?_
      wtm_at "one"
      refine WC_hex (by have := (flag_len hi).2; have := big_line; wtm_at "om") ?_
      wtm_at "one"
      refine WC_getK2 (v := vS (flagS i)) T' (fun prog w h x => ?_) (by decide) ?_
      · obtain ⟨g, m, hg⟩ := D.flags prog w h x
        refine ⟨g, m, ?_⟩
        rw [hg i hi]
        unfold flagS
        by_cases h10 : i < 10
        · simp [h10]
        · simp [h10]
      wtm_at "one"
      refine WC_append (vs := (placed F i).map vS) (by wtm_at "at") (by simp; wtm_at "om") ?_
      wtm_at "all"
      rw [xor_cut F i hb]
      wtm_at "all"
      have hge : 2 ^ 32 ≤ F := by
        rcases hF with hF | rfl
        · wtm_at "om"
        · simp at hb
      have hbig := cut_big hge (i := i + 1) (by wtm_at "om")
      have e1 : placed F (i + 1) = placed F i ++ [flagS i] := by rw [placed_succ, hb]; simp
      rw [show (!decide (((cut F (i + 1) : Nat) : Int) ≠ 0)) = false by simp; wtm_at "om"]
      wtm_at "all"
      refine ⟨[("names", .ref a), ("flags", vI (cut F (i + 1)))], (p, ob) :: (a, .list ((placed F (i + 1)).map vS)) :: σ, by wtm_at "lem", ?_, rfl, p, ob, rfl⟩
      rw [e1, List.map_append, List.map_cons, List.map_nil]
      wtm_at "sub"
    · have hb : F.testBit i = false := by
        cases hc : F.testBit i with
        | false => rfl
        | true =>
          rw [hc] at hb
          have h1 := Nat.two_pow_pos i
          exact absurd (show ((true.toNat * 2 ^ i : Nat) : Int) ≠ 0 by simp only [Bool.toNat_true, Nat.one_mul]; wtm_at "om") (of_decide_eq_false hb)
      have e1 : placed F (i + 1) = placed F i := by rw [placed_succ, hb]; simp
      have e2 : cut F i = cut F (i + 1) := by rw [cut_succ, hb]; simp
      wtm_at "all"
      refine ⟨[("names", .ref a), ("flags", vI (cut F (i + 1)))], (p, ob) :: (a, .list ((placed F (i + 1)).map vS)) :: σ, ?_, ?_, rfl, p, ob, rfl⟩
      · rw [← e2]
        wtm_at "lem"
      · rw [e1]
        wtm_at "sub"
  · rintro μ σ' ⟨rfl, p, ob, rfl⟩
    have hlen := placed_len F 32
    rw [List.length_map, List.length_range]
    refine WB_cons ?_
    wtm_at "one"
    refine WC_hex (by rw [cut_top hF]; have := top_len F; have := big_line; wtm_at "om") ?_
    rw [cut_top hF]
    wtm_at "one"
    refine WC_append (vs := (placed F 32).map vS) (by wtm_at "at") (by simp; wtm_at "om") ?_
    wtm_at "all"
    refine WC_join (xs := placed F 32 ++ [shownTop F]) (by rw [List.map_append, List.map_cons, List.map_nil]; wtm_at "at") (joinOk_le (m := 40) ?_ ?_) ?_
    · intro x hx
      rcases List.mem_append.mp hx with hx | hx
      · unfold placed at hx
        obtain ⟨i, hi, rfl⟩ := List.mem_map.mp hx
        exact (flag_len (List.mem_range.mp (List.mem_filter.mp hi).1)).1
      · rw [List.mem_singleton.mp hx]; exact top_len F
    · rw [List.length_append, S_len]; simp; wtm_at "om"
    wtm_at "all"
    exact ret_now (by wtm_at "sub") h
end
section
variable {C : Cx} {A : Around} {L : Addr} {σ ρ : Sg} {n : Nat} {K : Frag} {Q : Value → Sg → Prop}
theorem C_flag {i : Nat} (r : Room A (n + 1)) (T : Tp (DD K) C) (FF : KF K) (hi : i < 32) (h : Q (vS (flagS i)) σ) : WC C A L (.ref 346) [vI i] σ Q := by
  refine WC_fn FF.flag T ["place"] [("place", vI i)] r rfl (by (intro pm; refine' ln1 rfl ?_; intro a; kernel_rfl)) (by kernel_rfl) (by kernel_rfl) (by kernel_rfl) (by kernel_rfl) (by kernel_rfl) ?_
  intro pm C' L' e T' r'
  refine WB_cons ?_
  wtm_at "all"
  refine WC_extend (by wtm_at "at") (by wtm_at "at") (by decide) ?_
  wtm_at "all"
  refine br (fun hb => ?_) (fun hb => ?_)
  · have hb : i < 10 := by have := of_decide_eq_true hb; wtm_at "om"
    wtm_at "all"
    refine WG_list (x := vS (flagS i)) (by wtm_at "at") (by wtm_at "om") (by wtm_at "om") ?_ ?_
    · rw [show (i : Int).toNat = i by wtm_at "om"]
      unfold flagS
      rw [if_pos hb]
      rcases i with _|_|_|_|_|_|_|_|_|_|i <;> first | (exfalso; wtm_at "om") | kernel_rfl
    wtm_at "all"
    exact ret_now (τ := σ) (by wtm_at "sub") h
  · have hb : ¬ i < 10 := by have := of_decide_eq_false hb; wtm_at "om"
    wtm_at "all"
    refine B_shl (by wtm_at "om") (by wtm_at "om") (by decide) ?_
    rw [show (i : Int).toNat = i by wtm_at "om", one_shl]
    wtm_at "all"
    refine WC_hex (by have := (flag_len hi).2; have := big_line; wtm_at "om") ?_
    wtm_at "all"
    refine ret_now (τ := σ) (by wtm_at "sub") ?_
    unfold flagS at h
    rw [if_neg hb] at h
    exact h
end
theorem slot_md_get : Slot "method_descriptor" "__get__" "method_descriptor.__get__" :=
  .of (owner := "method_descriptor") (n := "__get__") (by rw [typeLookup_type, builtinLookup_eq_fast]; kernel_rfl) (by decide +kernel) (by decide +kernel) (by decide +kernel)
    (by first | exact .inl (by decide +kernel) | exact .inr (by decide +kernel)) (by rw [isSubtype_type]; kernel_rfl)
theorem entry_md_get : entryFor table "method_descriptor.__get__" = some Builtin.«method_descriptor.__get__» := entryFor_of_tree (by kernel_rfl)
theorem args_md_get (a b c : Value) : argsOk "method_descriptor.__get__" ⟨[a, b, c], []⟩ := by unfold argsOk; kernel_rfl
theorem md_set : typeLookup (.type "method_descriptor") "__set__" = pure none := by rw [typeLookup_type, builtinLookup_eq_fast]; kernel_rfl
theorem md_delete : typeLookup (.type "method_descriptor") "__delete__" = pure none := by rw [typeLookup_type, builtinLookup_eq_fast]; kernel_rfl
theorem sub_list_list : isSubtype (.type "list") (.type "list") = pure true := by rw [isSubtype_type]; kernel_rfl
theorem told_append : Manifest.toldItsClass.contains "list.append" = false := by decide +kernel
noncomputable abbrev boundOf (id : String) (self : Value) : Obj := { cls := .type "builtin_function_or_method", data := .fields #[.builtin id, self] }
section
variable {prog : Program} {w : World} {A : Around} {E : Value → Shared → Prop} {h : Heap} {g : Array GenState} {d : Drawn} {t : Nat} {os : OsState} {a : Addr} {its : Array Value} {n : Nat}
theorem append_get {R : Result → Shared → Prop} (hx : h.get? a = some ⟨.type "list", none, .seq its n, #[]⟩) (hq : R (.ok (.ret (.ref h.objs.size))) ⟨h.push (boundOf "list.append" (.ref a)), g, d, t, os⟩) :
    codeAny (model prog w) A (.call (.builtin "method_descriptor.__get__") ⟨[.builtin "list.append", .ref a, .type "list"], []⟩) R ⟨h, g, d, t, os⟩ := by
  have hT : (⟨h, g, d, t, os⟩ : Shared).TypeIs (.ref a) "list" := ⟨_, hx, rfl⟩
  have hT5 : (⟨h, g, d, t, os⟩ : Shared).TypeIs (.builtin "list.append") "method_descriptor" := F.type_list_append
  refine codeAny_call_builtin slot_md_get.plain entry_md_get (slot_md_get.check _ _ _ _ _ _ _ _ hT5 (args_md_get _ _ _) ?_)
  unfold Builtin.«method_descriptor.__get__»
  refine wpAny_bind (wpAny_of_eq (a := (Value.builtin "list.append", some (Value.ref a), some (Value.type "list"))) rfl ?_)
  dsimp only
  refine wpAny_ite_false told_append ?_
  wp_delta
  refine wpAny_bind ?_
  wp_delta
  refine wpAny_bind (wpAny_of_eq (a := (("append" : Str), Value.type "list")) (by kernel_rfl) ?_)
  dsimp only
  refine wpAny_bind (wpAny_isInstance hT sub_list_list ?_)
  refine wpAny_ite_false rfl (wpAny_pure ?_)
  exact wpAny_bind (m := newFields _ _) (wpAny_newObj_type (wpAny_pure hq) (by show (2 : Nat) ≤ _; have := big_line; wtm_at "om"))
theorem lk_list_append : typeLookup (.type "list") "append" = pure (some (.builtin "list.append")) := F.slot_list_append.lookup
theorem append_entry {tk : Tok} {Q : Fin → Shared → Prop} (hx : h.get? a = some ⟨.type "list", none, .seq its n, #[]⟩) (hq : Q (.done (.ret (.ref h.objs.size))) ⟨h.push (boundOf "list.append" (.ref a)), g, d, t, os⟩) :
    wpAny (model prog w) A (Builtin.«object.__getattribute__» ⟨[.ref a, .str "append" tk], []⟩) Q E ⟨h, g, d, t, os⟩ := by
  have hT : (⟨h, g, d, t, os⟩ : Shared).TypeIs (.ref a) "list" := ⟨_, hx, rfl⟩
  have hT5 : (⟨h, g, d, t, os⟩ : Shared).TypeIs (.builtin "list.append") "method_descriptor" := F.type_list_append
  unfold Builtin.«object.__getattribute__»
  refine wpAny_bind (wpAny_of_eq (a := (Value.ref a, [Value.str "append" tk])) rfl ?_)
  dsimp only
  refine wpAny_bind (wpAny_of_eq (a := ("append" : Str)) rfl ?_)
  refine wpAny_bind (wpAny_typeOf hT ?_)
  unfold Builtin.ObjectAttr.find
  refine wpAny_bind (wpAny_bind (wpAny_of_eq lk_list_append ?_))
  refine wpAny_bind (wpAny_specialOf hT5 slot_md_get.lookup ?_)
  refine wpAny_bind (m := Builtin.ObjectAttr.dataDescriptor? _ _) ?_
  unfold Builtin.ObjectAttr.dataDescriptor? Builtin.ObjectAttr.takesStores
  dsimp only
  refine wpAny_bind (wpAny_bind (wpAny_specialOf hT5 md_set ?_))
  refine wpAny_ite_false rfl ?_
  refine wpAny_bind (wpAny_specialOf hT5 md_delete (wpAny_pure ?_))
  refine wpAny_ite_false rfl (wpAny_pure ?_)
  dsimp only
  unfold Builtin.ObjectAttr.ownThenClass Builtin.ObjectAttr.inOwnDict Builtin.ObjectAttr.ownDict instanceDict
  dsimp only
  refine wpAny_bind (wpAny_bind (wpAny_bind (m := loadHead a) (wpAny_loadPart hx ?_)))
  dsimp only
  refine wpAny_bind (wpAny_loadPart hx ?_)
  dsimp only
  refine wpAny_ite_true rfl (wpAny_pure (wpAny_pure ?_))
  dsimp only
  unfold Builtin.ObjectAttr.copiedAttributeGuard
  dsimp only
  refine wpAny_bind (wpAny_ite_false (by decide +kernel) (wpAny_pure ?_))
  unfold Builtin.ObjectAttr.byTheClass
  dsimp only
  refine wpAny_bind (wpAny_rule (wpAny_pure ?_))
  dsimp only
  unfold Builtin.ObjectAttr.bindTo
  dsimp only
  refine wpAny_bind (wpAny_holding (wpAny_call (append_get hx (wpAny_pure hq))))
theorem WA_append_at {Q : Value → Shared → Prop} (hx : h.get? a = some ⟨.type "list", none, .seq its n, #[]⟩) {ex : Bool} (hq : Q (.ref h.objs.size) ⟨h.push (boundOf "list.append" (.ref a)), g, d, t + 1, os⟩) :
    wpAny (model prog w) A (getAttr (.ref a) "append" ex) Q E ⟨h, g, d, t, os⟩ := by
  have hT : ∀ t', (⟨h, g, d, t', os⟩ : Shared).TypeIs (.ref a) "list" := fun _ => ⟨_, hx, rfl⟩
  unfold getAttr getAttrBy
  refine wpAny_bind (wpAny_mkText (wpAny_holding (wpAny_bind (wpAny_typeOf (hT _) (wpAny_bind (wpAny_of_eq F.slot_list_getattribute.lookup ?_))))))
  show wpAny _ _ (getAttrByItsOwn (.ref a) (.str "append" t) (.type "list") (.builtin "list.__getattribute__") true ex) _ _ _
  unfold getAttrByItsOwn hookBefore callGetattribute boundAndCalled
  refine wpAny_bind (wpAny_of_eq (show (if onTheHeap (.type "list") then typeLookup (.type "list") "__getattr__" else pure none) = pure none from rfl) ?_)
  refine wpAny_bind (wpAny_attempt (wpAny_holding ?_))
  refine wpAny_ite_false (by cases ex <;> rfl) ?_
  refine wpAny_bind (wpAny_of_eq (F.slot_list_getattribute.bind _) ?_)
  refine wpAny_mono (Q := fun v s' => v = .ref h.objs.size ∧ s' = ⟨h.push (boundOf "list.append" (.ref a)), g, d, t + 1, os⟩) (E := fun _ _ => False)
    (wpAny_call_entry F.slot_list_getattribute (hT _) F.entry_list_ga (append_entry hx ⟨_, rfl, rfl, rfl⟩) (F.args_list_getattribute_2 _ _)) (fun v s' hv => ?_) fun _ _ z => z.elim
  obtain ⟨rfl, rfl⟩ := hv
  exact wpAny_pure hq
end
section
variable {C : Cx} {A : Around} {L : Addr} {σ : Sg} {Q : Value → Sg → Prop}
theorem WA_append {a : Addr} {vs : List Value} {f : AO → Sg} (x : At σ a (.list vs) f) (h : ∀ b, Q (.ref b) ((b, .obj (boundOf "list.append" (.ref a))) :: σ)) : WA C A L (.ref a) "append" σ Q := fun μ ex v' ev => WV_by fun s hs Q' q => by
  rw [can_ref ev]
  obtain ⟨items, n, e, hm⟩ := hs.list x
  have st := (hs.push (o := .obj (boundOf "list.append" (.ref a))) (ob := boundOf "list.append" (.ref a)) rfl rfl).toks (tk := s.toks + 1)
  obtain ⟨hh, g, d, t, os⟩ := s
  exact WA_append_at e (q _ _ _ (h _) st)
end
theorem kind_append : builtinKind "list.append" = some .method := by decide +kernel
theorem kind_join : builtinKind "str.join" = some .method := by decide +kernel
theorem vararg_append : Manifest.varargsMethods.contains "list.append" = false := by decide +kernel
theorem vararg_join : Manifest.varargsMethods.contains "str.join" = false := by decide +kernel
theorem sub_list_module : isSubtype (.type "list") (.type "module") = pure false := by rw [isSubtype_type]; kernel_rfl
theorem sub_str_module : isSubtype (.type "str") (.type "module") = pure false := by rw [isSubtype_type]; kernel_rfl
theorem bargs_append (a b : Value) : (match Manifest.signature? "list.append" with | some sig => Bind.checkArgs "list.append" { sig with full := s!"{Bind.lastOf "list"}.{Bind.lastOf "list.append"}" } ⟨[a, b], []⟩ | none => pure ()) = pure () := by kernel_rfl
theorem bargs_join (a b : Value) : (match Manifest.signature? "str.join" with | some sig => Bind.checkArgs "str.join" { sig with full := s!"{Bind.lastOf "str"}.{Bind.lastOf "str.join"}" } ⟨[a, b], []⟩ | none => pure ()) = pure () := by kernel_rfl
section
variable {M : Model} {A : Around} {E : Value → Shared → Prop} {s : Shared}
theorem bcheck_append {a : Addr} {o : Obj} {v : Value} {Q : Unit → Shared → Prop} (ho : s.heap.get? a = some o) (hc : o.cls = .type "list") (hd : ∀ c, o.data ≠ .cls c) (h : Q () s) : wpAny M A (checkBoundCall "list.append" ⟨[.ref a, v], []⟩) Q E s := by
  have hb := bargs_append (.ref a) v
  unfold checkBoundCall
  cases hsig : Manifest.signature? "list.append" with
  | none => exact wpAny_pure h
  | some sig =>
    rw [hsig] at hb
    rw [kind_append]
    dsimp only
    refine wpAny_ite_false (by decide) ?_
    refine wpAny_bind (wpAny_isInstance (T := "list") ⟨o, ho, hc⟩ sub_list_module ?_)
    refine wpAny_ite_false (by rw [vararg_append]; rfl) ?_
    refine wpAny_bind (wpAny_bind (m := loadHead a) (wpAny_loadPart ho (wpAny_pure ?_)))
    refine wpAny_ite_false (by cases q : o.data <;> first | rfl | exact absurd q (hd _)) (wpAny_bind (wpAny_typeOf (T := "list") ⟨o, ho, hc⟩ ?_))
    dsimp only at hb ⊢
    exact wpAny_of_eq hb h
theorem bcheck_join {x : Str} {t : Tok} {v : Value} {Q : Unit → Shared → Prop} (h : Q () s) : wpAny M A (checkBoundCall "str.join" ⟨[.str x t, v], []⟩) Q E s := by
  have hb := bargs_join (.str x t) v
  unfold checkBoundCall
  cases hsig : Manifest.signature? "str.join" with
  | none => exact wpAny_pure h
  | some sig =>
    rw [hsig] at hb
    rw [kind_join]
    dsimp only
    refine wpAny_ite_false (by decide) ?_
    refine wpAny_bind (wpAny_isInstance (T := "str") (typeIs_str _ _ _) sub_str_module ?_)
    refine wpAny_ite_false (by rw [vararg_join]; rfl) ?_
    refine wpAny_bind (wpAny_of_eq (a := false) (by rfl) ?_)
    refine wpAny_ite_false rfl (wpAny_bind (wpAny_typeOf (T := "str") (typeIs_str _ _ _) ?_))
    dsimp only at hb ⊢
    exact wpAny_of_eq hb h
end
section
variable {prog : Program} {w : World} {A : Around} {E : Value → Shared → Prop} {s : Shared}
theorem callBound {id : String} {b : Builtin} {p : Addr} {self : Value} {args : List Value} {Q : Value → Shared → Prop} (ho : s.heap.get? p = some (boundOf id self)) (hq : plainId id = true) (hb : entryFor table id = some b)
    (hc : ∀ Q' E', Q' () s → wpAny (model prog w) A.in1 (checkBoundCall id ⟨self :: args, []⟩) Q' E' s)
    (h : wpAny (model prog w) A.in1 (b ⟨self :: args, []⟩) (fun fin s' => match fin with | .done f => wants Q E (.ok f) s' | .again c' => c'.quiet = true ∧ codeAny (model prog w) A c' (wants Q E) s') (fun e s' => wants Q E (.error e) s') s) : wpAny (model prog w) A (call (.ref p) args) Q E s := by
  refine wpAny_call (codeAny_of_tree ?_)
  show wpAny _ A.in1 (callAny (.ref p) ⟨args, []⟩) _ _ s
  refine wpAny_bind (m := load p) (wpAny_load ho ?_)
  simp only [show (Value.type "builtin_function_or_method" == Value.type "method" || Value.type "builtin_function_or_method" == Value.type "builtin_function_or_method" || Value.type "builtin_function_or_method" == Value.type "method-wrapper") = true by decide, if_true]
  refine wpAny_ite_true (by rfl) ?_
  refine wpAny_bind (hc _ _ ?_)
  refine wpAny_bind (wpAny_pure (wpAny_pure ?_))
  refine ⟨plainId_quiet hq _, codeAny_builtin hb ?_⟩
  rw [Around.under_plainId hq]
  exact h
end
section
variable {C : Cx} {A : Around} {L : Addr} {σ : Sg} {K : Frag} {Q : Value → Sg → Prop}
theorem WC_bAppend {p a : Addr} {vs : List Value} {v : Value} {f g : AO → Sg} (x : At σ p (.obj (boundOf "list.append" (.ref a))) f) (y : At σ a (.list vs) g) (hz : vs.length ≤ 1000000) (h : Q .none (g (.list (vs ++ [v])))) : WC C A L (.ref p) [v] σ Q :=
  WC1 fun μ v' ev => WV_by fun s hs Q' q => by
    have hb := hs.obj x
    obtain ⟨items, n, e, hm⟩ := hs.list y
    have hl := map_len hm
    refine callBound hb PySem.F.slot_list_append.plain entry_list_append (fun Q' E' k => bcheck_append e rfl (fun c => by simp) k) ?_
    show wpAny _ _ (updateSeq a (·.push v') >>= fun _ => ret .none) _ _ s
    refine wpAny_bind (wpAny_updateSeq e rfl (wpAny_pure (q _ _ _ h (upd_list hs y e (items' := items ++ [v']) (n' := n + 1) (by rw [Obj.mapSeq_push_plain]; simp) (by subst hm; subst ev; simp)))) (hz := by simp only [List.size_toArray]; have := big_line; wtm_at "om"))
theorem WC_bJoin {p a : Addr} {x : Str} {t : Tok} {xs : List Str} {f : AO → Sg} (T : Tp (DD K) C) (hp : K.lookup p = some (boundOf "str.join" (.str x t))) (hx : At σ a (.list (xs.map vS)) f) (hok : JoinOk x xs = true) (h : Q (vS (Txt.join x xs)) σ) : WC C A L (.ref p) [.ref a] σ Q :=
  WC1 fun μ a' ea => WV_by fun s hs Q' q => by
    have hb := T.X.keeps hs.keep _ _ hp
    rw [can_ref ea]
    obtain ⟨items, n, e, hm⟩ := hs.list hx
    obtain ⟨l, rfl, hl⟩ := strs_vals (strs_of hm)
    subst hl
    unfold JoinOk at hok
    rw [Bool.not_eq_true'] at hok
    refine callBound hb PySem.F.slot_str_join.plain PySem.F.entry_str_join (fun Q' E' k => bcheck_join k) ?_
    exact meets_str_join_list x t a l hok _ _ A (wants Q' _) s ⟨⟨_, e, rfl, n, rfl⟩, post_join l ⟨joinFit_length hok, fun t' k => q _ _ _ h hs.toks⟩⟩
theorem Kp_bound {p : Addr} {id : String} {self : Value} {f : AO → Sg} (x : At σ p (.obj (boundOf id self)) f) : Kp C σ (.ref p) := fun L μ s hs =>
  ⟨.machine, .inr (.inl rfl), (Looks.ld (part := none) (hs.obj x)).andThen .now⟩
end
section
variable {prog : Program} {w : World} {A : Around} {E : Value → Shared → Prop} {s : Shared}
theorem delAll2 {l sl : Addr} {x y : Value} {n : Nat} {Q : Unit → Shared → Prop} (hl : s.heap.get? l = some ⟨.type "list", none, .seq #[x, y] n, #[]⟩) (hs : s.heap.IsSliceOf sl .none .none .none)
    (h : ∀ f : Array Value → Array Value, f #[x, y] = #[] → Q () { s with heap := s.heap.update l (Obj.mapSeq f) }) : wpAny (model prog w) A (delItem (.ref l) (.ref sl)) Q E s := by
  have hT : s.TypeIs (.ref l) "list" := ⟨_, hl, rfl⟩
  obtain ⟨os, hos, hcs, hds⟩ := id hs
  have hTs : s.TypeIs (.ref sl) "slice" := ⟨os, hos, hcs⟩
  refine wpAny_delItem_slot hT (by decide) PySem.F.slot_list_delitem (wpAny_call_entry PySem.F.slot_list_delitem hT PySem.F.entry_list_delitem ?_ (PySem.F.args_list_delitem_2 _ _))
  unfold Builtin.«list.__delitem__»
  refine wpAny_bind (wpAny_of_eq (a := (Value.ref l, [Value.ref sl])) rfl ?_)
  dsimp only
  refine wpAny_bind ?_
  unfold Builtin.List.listSubscript?
  refine wpAny_bind (wpAny_specialOf hTs slice_no_index ?_)
  simp only [Option.isNone_none, if_true]
  refine wpAny_pure ?_
  dsimp only
  refine wpAny_bind (wpAny_typeOf hTs ?_)
  rw [if_neg (by decide)]
  rw [listSliceParts_eq]
  refine wpAny_bind (wpAny_bind (wpAny_field hos hds (x := .none) rfl (wpAny_bind (wpAny_listPart .none ?_))))
  rw [if_neg (by decide)]
  refine wpAny_bind (wpAny_field hos hds (x := .none) rfl (wpAny_bind (wpAny_listPart .none ?_)))
  refine wpAny_bind (wpAny_field hos hds (x := .none) rfl (wpAny_bind (wpAny_listPart .none (wpAny_pure ?_))))
  dsimp only
  refine wpAny_bind (m := Builtin.List.listItems (.ref l)) ?_
  unfold Builtin.List.listItems
  refine wpAny_bind (wpAny_seqItems hl rfl (wpAny_pure ?_))
  refine wpAny_bind (wpAny_of_eq (sliceIndices_raw none none none 2 (by simp)) ?_)
  refine wpAny_bind (wpAny_rule ?_)
  refine wpAny_bind (wpAny_updateSeq hl rfl ?_ (hz := ?_) (_hz' := ?_))
  · refine wpAny_bind (wpAny_letGo ?_)
    exact wpAny_pure ⟨_, rfl, h _ (by kernel_rfl)⟩
  · have := big_line; show (2 : Nat) ≤ _; wtm_at "om"
  · exact Nat.le_trans (Nat.le_of_eq (congrArg Array.size (show _ = #[] by kernel_rfl))) (Nat.zero_le _)
end
section
variable {C : Cx} {A : Around} {L : Addr} {μ : Mu} {σ : Sg} {env : Env} {K : Frag}
theorem WS_delAll2 {o : Expr} {l : Addr} {x y : Value} {f : AO → Sg} {p1 p2 p3 : Pos} {Q : Flow → Mu → Sg → Prop} (h : WE C A env o μ σ (fun v σ1 => ∃ f, v = .ref l ∧ At σ1 l (.list [x, y]) f ∧ Q .next μ (f (.list [])))) :
    WS C A env (.Delete [.Subscript o (.Slice none none none p1) p2] p3) μ σ Q := fun s hs => by
  refine wpAny_Delete (wpAny_deleteEach_cons ?_)
  rw [arm_delete_Subscript]
  refine wpAny_bind (wpAny_mono (h s hs) (fun v s1 h1 => ?_) fun _ _ x => x.elim)
  obtain ⟨μ1, σ1, ⟨rfl, f, e, x1, k⟩, st⟩ := h1
  have e := can_ref e
  subst e
  have z : WE C A env (.Slice none none none p1) μ1 σ1 (fun sv σ2 => ∃ sl, sv = .ref sl ∧ σ2 = (sl, .fields "slice" [.none, .none, .none]) :: σ1) :=
    WE_Slice (WO_none (WO_none (WO_none fun a => ⟨a, rfl, rfl⟩)))
  refine wpAny_bind (wpAny_holding (wpAny_mono (z s1 st) (fun v s2 h2 => ?_) fun _ _ x => x.elim))
  obtain ⟨μ2, σ2, ⟨rfl, sl, e, rfl⟩, st2⟩ := h2
  have e := can_ref e
  subst e
  refine wpAny_bind (wpAny_standAt (wpAny_bind (wpAny_holding ?_)))
  obtain ⟨items, n, e, hm⟩ := st2.list (.there x1)
  obtain ⟨x', y', rfl, ex, ey⟩ := map_two hm
  obtain ⟨ob, e2, hc, its, hd, hmm⟩ := st2.at At.here
  obtain ⟨a', b', c', hits, ha, hb, hc'⟩ := can_map3 hmm
  have hits : its = #[a', b', c'] := by cases its; simp_all
  subst hits
  rw [can_none ha, can_none hb, can_none hc'] at hd
  refine delAll2 e ⟨ob, e2, hc, hd⟩ fun F hF => ?_
  refine wpAny_release' (wpAny_deleteEach_nil ?_)
  have st3 := upd_list (ws := []) (g := Obj.mapSeq F) (tk := s2.toks) st2 (.there x1) e (items' := []) (n' := n + 1) (by
    show Obj.mapSeq F ⟨.type "list", none, .seq #[x', y'] n, #[]⟩ = _
    unfold Obj.mapSeq
    simp only [hF]; rfl) rfl
  exact ⟨_, _, k, st3.sub (.skip .refl)⟩
end
noncomputable abbrev SetS (C : Cx) (o : Obj) (F : Str → Bool) (n : Nat) : Prop := o.SetObjOf (strKind C.prog C.w) F n
theorem scan_big : 4000 ≤ scanBound := by decide +kernel
section
variable {C : Cx} {A : Around} {L : Addr} {σ : Sg} {K : Frag} {Q : Value → Sg → Prop}
theorem strKind_is' {prog : Program} {w : World} {x : Str} {t : Tok} : (strKind prog w).is x (.str x t) = true := by
  show Value.isStrOf x (.str x t) = true
  simp [Value.isStrOf]
theorem WC_setNew (h : ∀ a o, SetS C o (fun _ => false) 0 → Q (.ref a) ((a, .obj o) :: σ)) : WC C A L (.type "set") [] σ Q := fun μ args e => WV_by fun s hs Q' q => by
  obtain rfl : args = [] := by cases args with | nil => rfl | cons _ _ => cases e
  exact call_set_0 fun led => q _ _ _ (h _ _ (setObjOf_fresh led)) (hs.push (o := .obj { cls := .type "set", dict := none, data := .set #[] 0 (.fresh 0 0 led) }) rfl rfl)
theorem WM_setAdd {a : Addr} {o : Obj} {F : Str → Bool} {n : Nat} {f : AO → Sg} {Q : Value → List Value → Sg → Prop} (x : At σ a (.obj o) f) (ho : SetS C o F n) (hn : n ≤ 1000) (h : Q (.builtin "set.add") [.ref a] σ) : WM C A L (.ref a) "add" σ Q := fun μ pl v' e => by
  rw [can_ref e]
  refine W_by fun s hs Q' q => ?_
  have hS := ho.setOf (hs.obj x) (by have := scan_big; wtm_at "om")
  exact getMethod_set_add hS (q (.builtin "set.add", [.ref a]) μ _ _ ⟨rfl, h⟩ hs)
theorem WC_setAdd {a : Addr} {o : Obj} {F : Str → Bool} {n : Nat} {f : AO → Sg} {y : Str} (x : At σ a (.obj o) f) (ho : SetS C o F n) (hn : n ≤ 1000) (h : ∀ o', SetS C o' (fun k => F k || decide (k = y)) (if F y then n else n + 1) → Q .none (f (.obj o'))) : WC C A L (.builtin "set.add") [.ref a, vS y] σ Q :=
  WC2 fun μ a' y' ea ey => WV_by fun s hs Q' q => by
    rw [can_ref ea]
    obtain ⟨t, rfl⟩ := can_str ey
    have hS := ho.setOf (hs.obj x) (by have := scan_big; wtm_at "om")
    refine call_set_add strKind_is' rfl hS (by have := scan_big; wtm_at "om") fun h' hb hS' => ?_
    obtain ⟨o', ho', hso'⟩ := hS'.objOf
    exact q _ _ _ (h o' hso') (hs.upd (o' := .obj o') x hb ho' rfl)
theorem C_notInSetS {a : Addr} {o : Obj} {F : Str → Bool} {n : Nat} {f : AO → Sg} {y : Str} (x : At σ a (.obj o) f) (ho : SetS C o F n) (hn : n ≤ 1000) (h : Q (.bool (!F y)) σ) : W2 C A L (compareOp .NotIn) (vS y) (.ref a) σ Q := fun μ a' b' ha hb => WV_by fun s hs Q' q => by
  obtain ⟨t, rfl⟩ := can_str ha
  rw [can_ref hb]
  exact wpAny_notInSet_of strKind_is' rfl (ho.setOf (hs.obj x) (by have := scan_big; wtm_at "om")) (q _ _ _ h hs.toks)
end
/- a dict with names as keys, by what it gives -/
noncomputable def MapO (C : Cx) (o : Obj) (f : Str → Option Value) : Prop := ∀ (h : Heap) (d : Addr), h.get? d = some o → h.MapOf (strKind C.prog C.w) d f
section
variable {C : Cx} {A : Around} {L : Addr} {μ : Mu} {σ : Sg} {env : Env} {K : Frag} {Q : Value → Sg → Prop}
theorem MapO.of {h : Heap} {d : Addr} {f : Str → Option Value} (m : h.MapOf (strKind C.prog C.w) d f) : ∃ o, h.get? d = some o ∧ MapO C o f := by
  obtain ⟨o, es, ep, ho, hc, hd, hk, hf⟩ := m
  exact ⟨o, ho, fun h d e => ⟨o, es, ep, e, hc, hd, hk, hf⟩⟩
theorem WG_mapO {d : Addr} {o : Obj} {fm : Str → Option Value} {k : Str} {v : Value} {f : AO → Sg} (x : At σ d (.obj o) f) (m : MapO C o fm) (hv : (fm k).map can = some v) (h : Q v σ) : WG C A L (.ref d) (vS k) σ Q := fun μ o' i' ho hi => WV_by fun s hs Q' q => by
  rw [can_ref ho]
  obtain ⟨t, rfl⟩ := can_str hi
  obtain ⟨v', e, rfl⟩ := Option.map_eq_some_iff.mp hv
  exact wpAny_getItem_of strKind_is' (m _ _ (hs.obj x)) e (q _ _ _ h hs.toks)
theorem PI_mapO {d : Addr} {o : Obj} {fm : Str → Option Value} {f : AO → Sg} (x : At σ d (.obj o) f) (m : MapO C o fm) : PlainItem C σ (.ref d) := fun L μ s hs o' e => by
  rw [can_ref e]
  exact ⟨"dict", _, (m _ _ (hs.obj x)).typeIs, slot_dict_getitem.lookup⟩
theorem WG_tuple {a : Addr} {vs : List Value} {f : AO → Sg} {i : Nat} {x : Value} (h1 : At σ a (.tuple vs) f) (hi : i < 100) (hx : vs[i]? = some x) (h : Q x σ) : WG C A L (.ref a) (vI i) σ Q := fun μ o' i' ho hi' => by
  rw [can_ref ho]
  obtain ⟨t, rfl⟩ := can_int hi'
  refine WV_by fun s hs Q' q => ?_
  obtain ⟨ob, e, items, n, rfl, hm⟩ := hs.at h1
  obtain ⟨x', e1, rfl⟩ := map_get hm hx
  have hl : i < items.length := by
    by_cases h : i < items.length
    · exact h
    · rw [List.getElem?_eq_none (by wtm_at "om")] at e1; cases e1
  refine PySem.P.getItem_tuple (k := i) (n := n) e (by wtm_at "om") (by wtm_at "om") ?_ (by simpa using e1) (q _ _ _ h hs)
  unfold seqIndex?
  have h1 : ¬ ((i : Int) < 0) := by wtm_at "om"
  have h2 : (i : Int) < ((items.toArray.size : Nat) : Int) := by simp only [List.size_toArray]; wtm_at "om"
  simp only [h1, if_false]
  simp [h2]
  simpa using hl
theorem St.ext {s : Shared} {h' : Heap} {tk : Nat} (hs : St C L μ σ s) (e : Heap.ExtBut s.heap.objs.size s.heap h') : St C L μ σ ⟨h', s.gens, s.drawn, tk, s.os⟩ := by
  have hk : ∀ b o, s.heap.get? b = some o → h'.get? b = some o := fun b o q => e b o (Nat.ne_of_lt (Heap.lt_size q)) q
  refine ⟨let ⟨m, F, k⟩ := hs.fr; ⟨m, ⟨F.ns.keeps hk, fun b o q => hk b o (F.keep b o q), F.above⟩, k⟩, fun p hp => ?_, hs.nd, hs.fx⟩
  obtain ⟨j1, j2, ob, j3, j4⟩ := hs.ob p hp
  exact ⟨j1, j2, ob, hk _ _ j3, j4⟩
/- a pair is taken apart -/
theorem WTg_pair {u v : Str} {p1 p2 pos : Pos} {k : Nat} {t : Addr} {a b : Value} {f : AO → Sg} {Q : Mu → Sg → Prop} (hh : A.handled = none) (x : At σ t (.tuple [a, b]) f) (h : Binds C A env u μ σ a (fun μ1 σ1 => Binds C A env v μ1 σ1 b Q)) :
    WTg C A env (.Tuple [.Name u p1, .Name v p2] k pos) μ σ (.ref t) Q := fun v' e => by
  rw [can_ref e]
  intro s hs
  obtain ⟨ob, e, items, n, rfl, hm⟩ := hs.at x
  obtain ⟨a', b', rfl, ha, hb⟩ := map_two hm
  refine PySem.wpAny_assign_Tuple hh ⟨_, e, rfl, n, rfl⟩ rfl rfl fun h' he => ?_
  refine assignInOrder_cons ?_
  refine wpAny_mono (WTg_name (p := p1) h a' ha _ (hs.ext (tk := s.toks) he)) (fun _ s1 h1 => ?_) fun _ _ x => x.elim
  obtain ⟨μ1, σ1, h1, st1⟩ := h1
  refine assignInOrder_cons ?_
  refine wpAny_mono (WTg_name (p := p2) h1 b' hb _ st1) (fun _ s2 h2 => ?_) fun _ _ x => x.elim
  obtain ⟨μ2, σ2, h2, st2⟩ := h2
  exact assignInOrder_nil ⟨μ2, σ2, h2, st2⟩
theorem WS_AssignTg {t value : Expr} {pos : Pos} {Q : Flow → Mu → Sg → Prop} (h : WE C A env value μ σ (fun v σ1 => WTg C A env t μ σ1 v (Q .next))) (he : (assignEach [t] env).map (·.2) = [assign t env])
    (hs : swapsWithSole [t] value pos.line env = pure false) (hw : swappedStores [t] value env = pure none) : WS C A env (.Assign [t] value pos) μ σ Q := fun s hst => by
  refine wpAny_Assign_stores (wpAny_mono (h s hst) (fun v s1 h1 => ?_) fun _ _ x => x.elim) hs hw
  obtain ⟨μ1, σ1, ⟨rfl, h1⟩, st⟩ := h1
  rw [he]
  exact wpAny_mono (h1 v rfl s1 st) (fun _ s2 h2 => h2) fun _ _ x => x
end
section
variable {C : Cx} {A : Around} {L : Addr} {μ : Mu} {σ : Sg} {env : Env}
variable {kx vx target iter : Expr} {scope : Scope} {pos : Pos} {cl : List (Str × Addr)} {a : Value}
/- a dict of one key -/
theorem WS_DictComp1 {n : Nat} {y : Str} {py spos : Pos} (r : Room A n) (hsw : swapsWith (.DictComp kx vx [⟨target, iter, [], 0⟩] scope pos) (some (.Name y py)) spos.line env = pure true) (hclos : closureFor scope env = pure cl) (hcell : (scope.names.all fun y => y.2 != .cell) = true) (hkind : scope.kind = .function)
    (hnames : (scope.names.all fun z => z.2 != .local || scope.names.lookup z.1 == some .local) = true) (hk : env.scope.kind = .function) (hy : env.kindOf y = some .local)
    {Q : Flow → Mu → Sg → Prop} (hiter : WE C A env iter μ σ (fun v σ1 => ∃ H : Sg → Prop, ItS C A v [a] H σ1 ∧ H σ1 ∧ ∀ C' L' it D (o : AO), C.Le C' →
      WTg C' A (compEnvC scope cl L' env) target [] ((it, o) :: (D, .sd []) :: σ1) a (fun μ2 σ2 => WE C' A (compEnvC scope cl L' env) kx μ2 σ2 (fun kv σ3 => WE C' A (compEnvC scope cl L' env) vx μ2 σ3 (fun vv σ4 =>
        ∃ k τ, kv = vS k ∧ Sub ((it, o) :: (D, .sd []) :: τ) σ4 ∧ H τ ∧ ∀ od f, MapO C od f → (f k).map can = some vv → Q .next ((y, .ref D) :: μ) ((D, .obj od) :: τ))))))
    (hs : ∀ x, foldedSetIterable iter env x = pure x) (ht : ∀ it v, letOwnedTupleGo target (.ref it) v = pure ()) :
    WS C A env (.Assign [.Name y py] (.DictComp kx vx [⟨target, iter, [], 0⟩] scope pos) spos) μ σ Q := fun s hst => by
  have hcell' : ∀ y ∈ scope.names, y.2 ≠ .cell := fun y hy => by simpa using List.all_eq_true.mp hcell y hy
  have hnames' : ∀ z ∈ scope.names, z.2 = .local → scope.names.lookup z.1 = some .local := fun z hz e => by simpa [e] using List.all_eq_true.mp hnames z hz
  rw [exec_Assign_Name_used _ _ _ _ hsw]
  refine wpAny_bind (wpAny_standAt (wpAny_bind ?_))
  show wpAny _ A (do let _ ← comprehension (.DictComp kx vx [⟨target, iter, [], 0⟩] scope pos) scope env _ newDict false (eval iter env) (some (assign (.Name y py) env))) _ _ s
  refine wpAny_bind (wpAny_mono (wpAny_comprehension_free (use := some (assign (.Name y py) env)) (Q := fun _ s' => ∃ μ' σ', Q .next μ' σ' ∧ St C env.locals μ' σ' s') rfl hs hclos hkind hnames'
    (wpAny_mono (hiter s hst) (fun v s1 h1 => ?_) fun _ _ x => x.elim)) (fun _ s' hq => wpAny_pure (wpAny_pure hq)) fun _ _ e => e)
  obtain ⟨μ1, σ1, ⟨rfl, H, hit, hH, step⟩, st⟩ := h1
  refine wpAny_mono (hit _ _ v rfl s1 st) (fun r' s2 h2 => ?_) fun _ _ x => x.elim
  obtain ⟨μ2, σ2, ⟨rfl, it, o, rfl, K, rfl⟩, st2⟩ := h2
  refine wpAny_newObj_type ?_ (by show (0 : Nat) ≤ _; wtm_at "om")
  have hs1 := st2.push (o := .sd []) (ob := { cls := .type "dict", data := .dict #[] }) ⟨[], 0, rfl, rfl⟩ rfl
  refine wpAny_newFunctionEnv hcell' (by intro y hy; simp at hy) (fun h₁ hns₁ hsb₁ => ?_) hkind
  generalize hD : s2.heap.objs.size = D at *
  dsimp only at hns₁ hsb₁ ⊢
  generalize hs3 : ({ s2 with heap := s2.heap.push { cls := .type "dict", data := .dict #[] } } : Shared) = s3 at *
  have hh : s3.heap = s2.heap.push { cls := .type "dict", data := .dict #[] } := by rw [← hs3]
  rw [← hh] at hns₁ hsb₁
  have keep : ∀ b o, s3.heap.get? b = some o → h₁.get? b = some o := fun b o e => hsb₁.extBut b o (Nat.ne_of_lt (Heap.lt_size e)) (Heap.get?_push_of_some _ e)
  have hs5 : St (C.under s3 ((D, .sd []) :: (it, o 0) :: σ1)) s3.heap.objs.size [] ((D, .sd []) :: (it, o 0) :: σ1) ⟨h₁, s2.gens, s2.drawn, s2.toks + 0, s2.os⟩ := by
    have := under_enter (binds := []) (tk := s2.toks + 0) hs1 hns₁ keep
    rw [← hs3] at this ⊢
    exact this
  have hs6 := hs5.sub (τ := (it, o 0) :: (D, .sd []) :: σ1) (.cons (.there .here) (.cons .here .refl))
  have nL : s3.heap.get? s3.heap.objs.size = none := fresh_ne (Nat.le_refl _)
  have hs1' : St C env.locals μ2 ((D, .sd []) :: (it, o 0) :: σ1) s3 := hs1
  obtain ⟨f1, f2, f3⟩ := hs1'.fresh nL
  have lle := under_le hs1'
  generalize hC : C.under s3 ((D, .sd []) :: (it, o 0) :: σ1) = C' at *
  have hp : C'.prog = C.prog := lle.prog
  have hw : C'.w = C.w := lle.w
  have loop : ∀ s4, St C' s3.heap.objs.size [] ((it, o 0) :: (D, .sd []) :: σ1) s4 → codeAny (model C.prog C.w) A (.compLoop (.DictComp kx vx [⟨target, iter, [], 0⟩] scope pos) 0 (.ref it) (.ref D) (compEnvC scope cl s3.heap.objs.size env))
      (compPost (model C.prog C.w) A (fun _ _ => False) (some (assign (.Name y py) env)) (fun _ s' => ∃ μ' σ', Q .next μ' σ' ∧ St C env.locals μ' σ' s') (.ref D) s3.heap.objs.size) s4 := fun s4 hs4 => by
    have hPw : model C.prog C.w = model C'.prog C'.w := by rw [hp, hw]
    rw [hPw]
    refine codeAny_compLoop_testsD (fun n s => (n = 1 ∧ St C' s3.heap.objs.size [] ((it, o 0) :: (D, .sd []) :: σ1) s) ∨ (n = 0 ∧ ∃ od τ, H τ ∧ Q .next ((y, .ref D) :: μ2) ((D, .obj od) :: τ) ∧ St C' s3.heap.objs.size [] ((it, o 1) :: (D, .obj od) :: τ) s)) (fun n s hI => ?_) 1 (.inl ⟨rfl, hs4⟩) (ht it)
    rcases hI with ⟨rfl, hst⟩ | ⟨rfl, od, τ, hτ, hq, hst⟩
    · refine wpAny_mono (K.item (i := 0) (x := a) rfl .here (K.more (K.more hH)) s hst) (fun r s5 h5 => ?_) fun _ _ x => x.elim
      obtain ⟨μ5, σ5, ⟨rfl, hr, rfl⟩, st5⟩ := h5
      obtain ⟨v, rfl, hv⟩ := Option.map_eq_some_iff.mp hr
      refine wpAny_mono (step C' _ it D (o 1) lle v hv s5 st5) (fun _ s6 h6 => ?_) fun _ _ x => x.elim
      obtain ⟨μ6, σ6, h6, st6⟩ := h6
      refine wpAny_tests_nil ?_
      rw [if_pos rfl]
      refine wpAny_mono (h6 s6 st6) (fun kv s7 h7 => ?_) fun _ _ x => x.elim
      obtain ⟨μ7, σ7, ⟨rfl, h7⟩, st7⟩ := h7
      refine wpAny_mono (h7 s7 st7) (fun vv s8 h8 => ?_) fun _ _ x => x.elim
      obtain ⟨μ8, σ8, ⟨rfl, k, τ, hkv, hτ, hHτ, hQ⟩, st8⟩ := h8
      obtain ⟨t, rfl⟩ := can_str hkv
      have st9 := st8.sub2 (μ' := []) LeM.nil hτ
      obtain ⟨ob, e, es, m, rfl, hes⟩ := st9.at (.there .here)
      have hes : es = [] := by cases es with | nil => rfl | cons _ _ => cases hes
      subst hes
      have hm : s8.heap.MapOf (strKind C'.prog C'.w) D (fun _ => none) := ⟨_, _, _, e, ⟨rfl, rfl, rfl⟩, rfl, fun e he => by simp at he, fun k => by simp [findBy]⟩
      refine wpAny_dictSet_of strKind_is' hm (fun h' hm' hb => ?_) (fun o es ep ho hd => by rw [e] at ho; cases ho; cases hd; exact Nat.zero_le _)
      obtain ⟨od, hod, mo⟩ := MapO.of hm'
      have st10 := st9.upd (o' := .obj od) (tk := s8.toks + 1) (.there .here) hb hod rfl
      refine ⟨0, by wtm_at "om", .inr ⟨rfl, od, τ, hHτ, hQ od _ (cast (by unfold MapO; rw [hp, hw]) (show MapO C' od _ from mo)) (by simp), st10⟩⟩
    · refine wpAny_mono (K.fin r.hh .here .here (K.more (K.more hτ)) s hst) (fun r s5 h5 => ?_) fun _ _ x => x.elim
      obtain ⟨μ5, σ5, ⟨rfl, rfl, rfl⟩, st5⟩ := h5
      have h3 := under_leave hs1' (hC ▸ st5)
      have h5 : s3.heap.objs.size ∉ ((D, AO.obj od) :: τ).map (·.1) := fun hm => by
        obtain ⟨p, hp, e⟩ := List.mem_map.mp hm
        exact (st5.ob p hp).1 e
      obtain ⟨m', F', _⟩ := st5.fr
      obtain ⟨m0, F, k⟩ := h3.fr
      show wpAny _ A (assign (.Name y py) env (.ref D)) _ _ _
      refine wpAny_assign_Name (wpAny_storeName_local hy F.ns (fun h' hn hb => ?_) (by rw [hk]; rfl))
      have h8 := St.local (tk := s5.toks + 1) h3 F k hn hb
      exact ⟨_, F'.ns.sameBut hb f1, fun h'' hb' => ⟨_, _, hq, h8.but hb' f1 h5 f3⟩⟩
  subst hs3
  refine codeAny_compStart_dict (loop _ hs6) ?_
  have ag := K.again (C := C') (A := A) (L := _) (μ := []) (σ := (it, o 0) :: (D, .sd []) :: σ1) .here _ hs6
  rw [hp, hw] at ag
  refine wpAny_mono ag (fun r s' h' => ?_) fun _ _ x => x.elim
  obtain ⟨μ', σ', ⟨rfl, rfl, rfl⟩, st'⟩ := h'
  exact loop _ st'
end
noncomputable abbrev setT (P : Params) (h : Int) : SetTable := { mask := 7, place := #[SetTable.bits h % 8], dummies := #[], finger := 0, led := !P.followText "set-order", moves := 0, plain := false }
noncomputable abbrev set0 (P : Params) : Obj := { cls := .type "set", dict := none, data := .set #[] 0 (.fresh 0 0 (!P.followText "set-order")), slots := #[] }
noncomputable abbrev set1 (w : World) (x : Str) (t : Tok) : Obj := { cls := .type "set", dict := none, data := .set #[(hashStr w x, .str x t)] 1 (setT w.params (hashStr w x)), slots := #[] }
section
variable {prog : Program} {w : World} {A : Around} {E : Value → Shared → Prop} {s : Shared} {a : Addr} {x : Str} {t : Tok}
theorem lay_one (led : Bool) (h : Int) (v : Value) : layNew (.fresh 0 0 led) #[] h v = (#[(h, v)], { mask := 7, place := #[SetTable.bits h % 8], dummies := #[], finger := 0, led := led, moves := 0, plain := true }, false, false) := by
  rfl
theorem setAdd_one {Q : Bool → Shared → Prop} (ho : s.heap.get? a = some (set0 w.params)) (h : ∀ h', Heap.SameBut a s.heap h' → h'.get? a = some (set1 w x t) → Q true { s with heap := h', toks := s.toks + 1 }) : wpAny (model prog w) A (setAdd a (.str x t)) Q E s := by
  unfold setAdd
  refine wpAny_holding (wpAny_bind (wpAny_pyHash_str ?_))
  unfold setAddHashed setAddHashedIn
  have ho' : ({ s with toks := s.toks + 1 } : Shared).heap.get? a = some (set0 w.params) := ho
  refine wpAny_holding (wpAny_bind (wpAny_setState_of ho' rfl (by rfl) ?_))
  dsimp only
  rw [if_pos (show byScan (.str x t) #[] = true by kernel_rfl)]
  unfold setAddByScan
  refine wpAny_bind ?_
  refine wpAny_bind (wpAny_rule ?_)
  refine wpAny_bind (wpAny_of_eq (a := ScanMet.absent) (by kernel_rfl) ?_)
  dsimp only
  rw [lay_one]
  dsimp only
  refine wpAny_bind ?_
  wp_delta
  refine wpAny_pure ?_
  refine wpAny_bind (wpAny_of_eq (a := false) (by rfl) ?_)
  simp only [Bool.false_eq_true, if_false]
  refine wpAny_bind (wpAny_storeSet_of ho' rfl ?_ (by show (1 : Nat) ≤ _; have := big_line; wtm_at "om"))
  refine wpAny_ite_false (by rfl) ?_
  refine wpAny_pure (wpAny_pure ?_)
  exact h _ (Heap.SameBut.update ..) (by rw [Heap.get?_update_self _ ho (by rfl)]; rfl)
theorem newSet_one {Q : Value → Shared → Prop} (h : Q (.ref s.heap.objs.size) { s with heap := s.heap.push (set0 w.params) }) : wpAny (model prog w) A (newSet (.type "set")) Q E s := by
  unfold newSet setsByText
  refine wpAny_bind (wpAny_bind (wpAny_askSetting (wpAny_pure ?_)))
  dsimp only
  simp only [newObj]
  exact wpAny_bind (wpAny_alloc (wpAny_pure h))
end
noncomputable abbrev setIt (a : Addr) (slot i : Int) : Obj := { cls := .type "set_iterator", dict := none, data := .fields #[rawInt slot, rawInt i, .ref a, rawInt 1, rawInt 1], slots := #[] }
theorem entry_set_iter : entryFor table "set.__iter__" = some Builtin.«frozenset.__iter__» :=
  entryFor_alias (id' := "frozenset.__iter__") (by kernel_rfl) (by first | rfl | decide +kernel) (by decide +kernel) (by kernel_rfl)
theorem args_set_iter (a : Value) : argsOk "set.__iter__" ⟨[a], []⟩ := by unfold argsOk; kernel_rfl
theorem slot_si_next : Slot "set_iterator" "__next__" "set_iterator.__next__" :=
  .of (owner := "set_iterator") (n := "__next__") (by rw [typeLookup_type, builtinLookup_eq_fast]; kernel_rfl) (by decide +kernel) (by decide +kernel) (by decide +kernel)
    (by first | exact .inl (by decide +kernel) | exact .inr (by decide +kernel)) (by rw [isSubtype_type]; kernel_rfl)
theorem entry_si_next : entryFor table "set_iterator.__next__" = some Builtin.«set_iterator.__next__» := entryFor_of_tree (by kernel_rfl)
theorem args_si_next (a : Value) : argsOk "set_iterator.__next__" ⟨[a], []⟩ := by unfold argsOk; kernel_rfl
theorem slot_si_iter : Slot "set_iterator" "__iter__" "set_iterator.__iter__" :=
  .of (owner := "set_iterator") (n := "__iter__") (by rw [typeLookup_type, builtinLookup_eq_fast]; kernel_rfl) (by decide +kernel) (by decide +kernel) (by decide +kernel)
    (by first | exact .inl (by decide +kernel) | exact .inr (by decide +kernel)) (by rw [isSubtype_type]; kernel_rfl)
theorem entry_si_iter : entryFor table "set_iterator.__iter__" = some Builtin.«dict_keyiterator.__iter__» :=
  entryFor_alias (id' := "dict_keyiterator.__iter__") (by kernel_rfl) (by first | rfl | decide +kernel) (by decide +kernel) (by kernel_rfl)
theorem args_si_iter (a : Value) : argsOk "set_iterator.__iter__" ⟨[a], []⟩ := by unfold argsOk; kernel_rfl
section
variable {prog : Program} {w : World} {A : Around} {E : Value → Shared → Prop} {s : Shared} {a it : Addr} {x : Str} {t : Tok}
theorem setIter_one {Q : Value → Shared → Prop} (ho : s.heap.get? a = some (set1 w x t)) (h : Q (.ref s.heap.objs.size) { s with heap := s.heap.push (setIt a 0 0) }) : wpAny (model prog w) A (pyIter (.ref a)) Q E s := by
  have hT : s.TypeIs (.ref a) "set" := ⟨_, ho, rfl⟩
  refine wpAny_pyIter_slot hT PySem.F.slot_set_iter (wpAny_call_entry PySem.F.slot_set_iter hT entry_set_iter ?_ (args_set_iter _))
  unfold Builtin.«frozenset.__iter__»
  refine wpAny_bind (m := Builtin.Frozenset.slot0 _ _) (wpAny_of_eq (a := a) rfl ?_)
  unfold Builtin.Frozenset.sizeOf setEntries
  refine wpAny_bind (wpAny_bind (wpAny_bind (wpAny_setState_of ho rfl (by rfl) (wpAny_pure (wpAny_pure ?_)))))
  unfold setDrawn setsByText
  refine wpAny_bind (wpAny_bind (wpAny_setState_of ho rfl (by rfl) ?_))
  refine wpAny_bind (wpAny_bind (wpAny_askSetting (wpAny_pure (wpAny_pure ?_))))
  refine wpAny_ite_false (decide_eq_false (by simp only [Bool.and_eq_true, not_and, Bool.not_eq_true]; intro _; rfl)) (wpAny_bind (wpAny_pure ?_))
  unfold setEpoch
  refine wpAny_bind (wpAny_bind (wpAny_setState_of ho rfl (by rfl) (wpAny_pure ?_)))
  exact wpAny_bind (m := newFields _ _) (wpAny_newObj_type (wpAny_pure ⟨_, rfl, "set_iterator", _, ⟨_, Heap.get?_push_size _ rfl, rfl⟩, slot_si_next.lookup, h⟩) (by show (5 : Nat) ≤ _; have := big_line; wtm_at "om"))
theorem below_zero (p : Nat) : SetTable.below #[p] 0 = 0 := by rfl
theorem below_succ (p : Nat) : SetTable.below #[p] (p + 1) = 1 := by
  unfold SetTable.below
  show SetTable.below.go #[p] (p + 1) 1 0 1 = 1
  show (if p < p + 1 then _ else _) = _
  rw [if_pos (Nat.lt_succ_self p)]
  rfl
theorem pick_one {α : Type} (f : Nat → Nat) (e : α) : pickOrder f #[e] = #[e] := by
  unfold pickOrder
  show pickOrder.go f 1 0 [e] #[] = _
  show (match [e][f 0 % 1]? with | some x => pickOrder.go f 0 1 ([e].eraseIdx (f 0 % 1)) (#[].push x) | none => #[]) = _
  rw [Nat.mod_one]
  rfl
theorem walk_one {Q : Array (Int × Value) → Shared → Prop} (ho : s.heap.get? a = some (set1 w x t)) (hb : w.params.followText "set-order" = true) (h : Q #[(hashStr w x, .str x t)] s) : wpAny (model prog w) A (setWalk a) Q E s := by
  unfold setWalk setsByText
  refine wpAny_bind (wpAny_setState_of ho rfl (by rfl) ?_)
  refine wpAny_bind (wpAny_bind (wpAny_askSetting (wpAny_pure ?_)))
  refine wpAny_ite_true (decide_eq_true (show (model prog w).w.params.followText "set-order" = true from hb)) ?_
  refine wpAny_bind (wpAny_askSetting (wpAny_pure ?_))
  rw [pick_one]
  exact h
theorem si_next0 {Q : PySem.Fin → Shared → Prop} (hi : s.heap.get? it = some (setIt a 0 0)) (ho : s.heap.get? a = some (set1 w x t))
    (h : ∀ slot, slot = 0 ∨ slot = ((SetTable.bits (hashStr w x) % 8 + 1 : Nat) : Int) → ∀ h', Heap.SameBut it s.heap h' → h'.get? it = some (setIt a slot 1) → (w.params.followText "set-order" = false → slot = ((SetTable.bits (hashStr w x) % 8 + 1 : Nat) : Int)) → Q (.done (.ret (.str x t))) { s with heap := h' }) :
    wpAny (model prog w) A (Builtin.«set_iterator.__next__» ⟨[.ref it], []⟩) Q E s := by
  unfold Builtin.«set_iterator.__next__»
  refine wpAny_bind (wpAny_of_eq (a := (Value.ref it, ([] : List Value))) rfl ?_)
  dsimp only
  refine wpAny_bind (wpAny_fieldsOf hi rfl ?_)
  dsimp only
  unfold setEntries
  refine wpAny_bind (wpAny_bind (wpAny_setState_of ho rfl (by rfl) (wpAny_pure ?_)))
  refine wpAny_ite_false (by rfl) ?_
  refine wpAny_bind (m := setNext _ _ _ _) ?_
  unfold setNext setsByText
  refine wpAny_bind (wpAny_setState_of ho rfl (by rfl) ?_)
  refine wpAny_bind (wpAny_bind (wpAny_askSetting (wpAny_pure ?_)))
  cases hb : w.params.followText "set-order" with
  | true =>
    rw [if_pos (show (model prog w).w.params.followText "set-order" = true from hb)]
    refine wpAny_ite_false (by rfl) ?_
    dsimp only
    refine wpAny_bind (walk_one ho hb (wpAny_pure ?_))
    show wpAny _ _ (do setField (.ref it) 0 (rawInt ((0 : Nat) : Int)); setField (.ref it) 1 (rawInt (0 + 1)); ret (.str x t)) Q E s
    refine wpAny_bind (wpAny_setField_rec hi (by show 0 < 5; wtm_at "om") fun h1 g1 b1 => ?_)
    refine wpAny_bind (wpAny_setField_rec g1 (by show 1 < 5; wtm_at "om") fun h2 g2 b2 => ?_)
    exact wpAny_pure (h 0 (.inl rfl) h2 (b1.trans b2) g2 (fun e => by rw [hb] at e; cases e))
  | false =>
    rw [if_neg (show ¬ (model prog w).w.params.followText "set-order" = true by rw [show (model prog w).w.params.followText "set-order" = false from hb]; decide)]
    refine wpAny_ite_false (by rfl) ?_
    dsimp only
    refine wpAny_bind ?_
    wp_delta
    refine wpAny_ite_false (decide_eq_false (by simp [setT, hb])) (wpAny_pure ?_)
    rw [show SetTable.below #[SetTable.bits (hashStr w x) % 8] (Int.toNat 0) = 0 from below_zero _]
    refine wpAny_pure ?_
    show wpAny _ _ (do setField (.ref it) 0 (rawInt ((SetTable.bits (hashStr w x) % 8 + 1 : Nat) : Int)); setField (.ref it) 1 (rawInt (0 + 1)); ret (.str x t)) Q E s
    refine wpAny_bind (wpAny_setField_rec hi (by show 0 < 5; wtm_at "om") fun h1 g1 b1 => ?_)
    refine wpAny_bind (wpAny_setField_rec g1 (by show 1 < 5; wtm_at "om") fun h2 g2 b2 => ?_)
    exact wpAny_pure (h _ (.inr rfl) h2 (b1.trans b2) g2 (fun _ => rfl))
end
section
variable {prog : Program} {w : World} {A : Around} {E : Value → Shared → Prop} {s : Shared} {a it : Addr} {x : Str} {t : Tok}
theorem raise_stop {α : Type} {Q : Option Value → Shared → Prop} {s₁ : Shared} (hh : A.handled = none) (hQ : ∀ h'', (∀ b o, s₁.heap.get? b = some o → h''.get? b = some o) → Q none { s₁ with heap := h'' }) :
    wpAny (model prog w) A.in1 (newExc (.type "StopIteration") [] >>= raiseNew : Sem α) (fun _ _ => False) (fun e s' => wpAny (model prog w) A (do if ← isInstance e (.type "StopIteration") then pure none else throw e : Sem (Option Value)) Q E s') s₁ := by
  refine wpAny_bind ?_
  simp only [newExc, newTuple]
  refine wpAny_bind (wpAny_newObj_type ?_ (by size_fits))
  refine wpAny_bind (m := firstArgMember _ _) (wpAny_of_eq (a := Value.none) (by first | rfl | (simp only [firstArgMember]; rfl)) ?_)
  refine wpAny_newObj_type ?_ (by size_fits)
  simp only [raiseNew]
  refine wpAny_bind (wpAny_handled ?_)
  rw [show A.in1.handled = none from hh]
  refine wpAny_bind (wpAny_pure (wpAny_throw ?_))
  refine wpAny_bind (wpAny_isInstance (T := "StopIteration") (b := true) ⟨_, Heap.get?_push_size _ rfl, rfl⟩ isSubtype_stop ?_)
  exact wpAny_pure (hQ _ fun b o e => Heap.get?_push_of_some _ (Heap.get?_push_of_some _ e))
noncomputable def SlotOk (w : World) (x : Str) (slot : Int) : Prop := w.params.followText "set-order" = false → slot = ((SetTable.bits (hashStr w x) % 8 + 1 : Nat) : Int)
theorem si_next1 {slot : Int} {Q : Option Value → Shared → Prop} (hh : A.handled = none) (hs : SlotOk w x slot) (hi : s.heap.get? it = some (setIt a slot 1)) (ho : s.heap.get? a = some (set1 w x t))
    (hQ : ∀ h', (∀ b o, b ≠ it → s.heap.get? b = some o → h'.get? b = some o) → Q none { s with heap := h' }) :
    wpAny (model prog w) A.in1 (Builtin.«set_iterator.__next__» ⟨[.ref it], []⟩) (fun _ _ => False) (fun e s' => wpAny (model prog w) A (do if ← isInstance e (.type "StopIteration") then pure none else throw e : Sem (Option Value)) Q E s') s := by
  unfold Builtin.«set_iterator.__next__»
  refine wpAny_bind (wpAny_of_eq (a := (Value.ref it, ([] : List Value))) rfl ?_)
  dsimp only
  refine wpAny_bind (wpAny_fieldsOf hi rfl ?_)
  dsimp only
  unfold setEntries
  refine wpAny_bind (wpAny_bind (wpAny_setState_of ho rfl (by rfl) (wpAny_pure ?_)))
  refine wpAny_ite_false (by rfl) ?_
  have fin : wpAny (model prog w) A.in1 (do setField (.ref it) 2 .none; newExc (.type "StopIteration") [] >>= raiseNew : Sem PySem.Fin) (fun _ _ => False) (fun e s' => wpAny (model prog w) A (do if ← isInstance e (.type "StopIteration") then pure none else throw e : Sem (Option Value)) Q E s') s := by
    refine wpAny_bind (wpAny_setField_rec hi (by show 2 < 5; wtm_at "om") fun h1 g1 b1 => ?_)
    exact raise_stop (s₁ := { s with heap := h1 }) hh fun h'' hk => hQ h'' fun b o hb e => hk b o (b1.extBut b o hb e)
  refine wpAny_bind (m := setNext _ _ _ _) ?_
  unfold setNext setsByText
  refine wpAny_bind (wpAny_setState_of ho rfl (by rfl) ?_)
  refine wpAny_bind (wpAny_bind (wpAny_askSetting (wpAny_pure ?_)))
  cases hb : w.params.followText "set-order" with
  | true =>
    rw [if_pos (show (model prog w).w.params.followText "set-order" = true from hb)]
    refine wpAny_ite_false (by rfl) ?_
    dsimp only
    refine wpAny_bind (walk_one ho hb (wpAny_pure ?_))
    exact fin
  | false =>
    rw [if_neg (show ¬ (model prog w).w.params.followText "set-order" = true by rw [show (model prog w).w.params.followText "set-order" = false from hb]; decide)]
    refine wpAny_ite_false (by rfl) ?_
    dsimp only
    refine wpAny_bind ?_
    wp_delta
    refine wpAny_ite_false (decide_eq_false (by simp [hb])) (wpAny_pure ?_)
    rw [hs hb, show (((SetTable.bits (hashStr w x) % 8 + 1 : Nat) : Int)).toNat = SetTable.bits (hashStr w x) % 8 + 1 from Int.toNat_natCast _, below_succ]
    refine wpAny_pure ?_
    exact fin
/- the iterator's two stands -/
noncomputable def SetStand (w : World) (a I : Addr) (x : Str) (t : Tok) (i : Nat) (h : Heap) : Prop := h.get? a = some (set1 w x t) ∧ (match i with | 0 => h.get? I = some (setIt a 0 0) | _ => ∃ slot, SlotOk w x slot ∧ h.get? I = some (setIt a slot 1))
theorem Walks_set (hh : A.handled = none) (I : Addr) (hne : a ≠ I) : Walks prog w A I [I, a] [I] 1 (fun i v => v = .str x t) (SetStand w a I x t) where
  sub := fun b hb => by simp at hb; simp [hb]
  frame := fun i h h' st hk => by
    refine ⟨hk a (by simp) _ st.1, ?_⟩
    cases i with
    | zero => exact hk I (by simp) _ st.2
    | succ i => obtain ⟨slot, h1, h2⟩ := st.2; exact ⟨slot, h1, hk I (by simp) _ h2⟩
  item := fun i s Q E hi st hQ => by
    obtain rfl : i = 0 := by wtm_at "om"
    have hit : s.heap.get? I = some (setIt a 0 0) := st.2
    have hT : s.TypeIs (.ref I) "set_iterator" := ⟨_, hit, rfl⟩
    unfold pyNext
    refine wpAny_bind (wpAny_attempt (wpAny_callSpecial?_slot (name := Str.ofString "__next__") hT slot_si_next (wpAny_call_entry slot_si_next hT entry_si_next ?_ (args_si_next _))))
    refine si_next0 hit st.1 fun slot _ h' hb hg hs => ⟨_, rfl, ?_⟩
    exact wpAny_pure (hQ _ h' s.toks rfl ⟨(hb.2 a hne).trans st.1, slot, hs, hg⟩ fun b o hb' e => hb.extBut b o (fun h => hb' (by simp [h])) e)
  done := fun s Q E st hQ => by
    obtain ⟨slot, hs, hit⟩ := st.2
    have hT : s.TypeIs (.ref I) "set_iterator" := ⟨_, hit, rfl⟩
    unfold pyNext
    refine wpAny_bind (wpAny_attempt (wpAny_callSpecial?_slot (name := Str.ofString "__next__") hT slot_si_next (wpAny_call_entry slot_si_next hT entry_si_next ?_ (args_si_next _))))
    refine wpAny_mono (si_next1 (E := E) (Q := Q) hh hs hit st.1 fun h' hk => hQ h' s.toks fun b o hb e => hk b o (fun h => hb (by simp [h])) e) (fun _ _ x => x.elim) fun e s' h' => h'
  self := fun i s Q E st hQ => by
    have hT : s.TypeIs (.ref I) "set_iterator" := by
      cases i with
      | zero => exact ⟨_, st.2, rfl⟩
      | succ i => obtain ⟨slot, _, h2⟩ := st.2; exact ⟨_, h2, rfl⟩
    refine wpAny_pyIter_slot hT slot_si_iter (wpAny_call_entry slot_si_iter hT entry_si_iter ?_ (args_si_iter _))
    show wpAny _ _ (ret (.ref I)) _ _ s
    exact wpAny_pure ⟨_, rfl, "set_iterator", _, hT, slot_si_next.lookup, hQ⟩
end
theorem nolen_si : typeLookup (.type "set_iterator") "__len__" = pure none := by rw [typeLookup_type, builtinLookup_eq_fast]; kernel_rfl
theorem hint_si : typeLookup (.type "set_iterator") "__length_hint__" = pure (some (.builtin "set_iterator.__length_hint__")) := by rw [typeLookup_type, builtinLookup_eq_fast]; kernel_rfl
section
variable {prog : Program} {w : World} {A : Around} {E : Value → Shared → Prop} {s : Shared} {a it : Addr} {x : Str} {t : Tok}
theorem collect_set {Q : List Value → Shared → Prop} (hh : A.handled = none) (ho : s.heap.get? a = some (set1 w x t)) (hQ : ∀ h' tk, (∀ b o, s.heap.get? b = some o → h'.get? b = some o) → Q [.str x t] { s with heap := h', toks := tk }) : wpAny (model prog w) A (collect (.ref a)) Q E s := by
  have ha := Heap.lt_size ho
  unfold collect
  refine wpAny_bind (wpAny_runValue (codeAny_builtin PySem.F.entry_proto_collect ?_))
  rw [Around.under_plainId PySem.F.plain_proto_collect _]
  show wpAny _ A.in1 (newList [] >>= fun l => again (.builtin "list.__iadd__" ⟨[l, .ref a], []⟩)) _ _ s
  refine wpAny_bind (wpAny_newObj_type ?_)
  refine wpAny_pure ⟨plainId_quiet PySem.F.plain_list_iadd _, codeAny_builtin PySem.F.entry_list_iadd ?_⟩
  rw [Around.under_plainId PySem.F.plain_list_iadd _]
  have ho1 : (s.heap.push { cls := .type "list", data := .seq ([] : List Value).toArray }).get? a = some (set1 w x t) := Heap.get?_push_of_some _ ho
  have hS₁ : (s.heap.push { cls := .type "list", data := .seq ([] : List Value).toArray }).get? s.heap.objs.size = some { cls := .type "list", data := .seq ([] : List Value).toArray } := Heap.get?_push_size _ rfl
  have h1 : Builtin.List.listSameRef (.ref s.heap.objs.size) (.ref a) = false := by simp [Builtin.List.listSameRef]; exact Nat.ne_of_gt ha
  show wpAny _ A.in1 (Builtin.List.listExtendWith (.ref s.heap.objs.size) (.ref a) (.ref s.heap.objs.size)) _ _ _
  unfold Builtin.List.listExtendWith
  refine wpAny_bind (wpAny_typeOf (T := "set") ⟨_, ho1, rfl⟩ ?_)
  rw [if_neg (by rw [h1]; decide)]
  refine wpAny_bind (setIter_one ho1 ?_)
  generalize hI : (s.heap.push { cls := .type "list", data := .seq ([] : List Value).toArray }).objs.size = I
  have hIa : a ≠ I := by rw [← hI, Heap.size_push]; exact Nat.ne_of_lt (Nat.lt_succ_of_lt ha)
  have hIS : s.heap.objs.size ≠ I := by rw [← hI, Heap.size_push]; exact Nat.ne_of_lt (Nat.lt_succ_self _)
  have hit : ((s.heap.push { cls := .type "list", data := .seq ([] : List Value).toArray }).push (setIt a 0 0)).get? I = some (setIt a 0 0) := by rw [← hI]; exact Heap.get?_push_size _ rfl
  generalize hH : (s.heap.push { cls := .type "list", data := .seq ([] : List Value).toArray }).push (setIt a 0 0) = H at *
  have keepH : ∀ b o, s.heap.get? b = some o → H.get? b = some o := fun b o e => by rw [← hH]; exact Heap.get?_push_of_some _ (Heap.get?_push_of_some _ e)
  have hSH : H.get? s.heap.objs.size = some { cls := .type "list", data := .seq ([] : List Value).toArray } := by rw [← hH]; exact Heap.get?_push_of_some _ hS₁
  have hTs : ({ s with heap := H } : Shared).TypeIs (.ref a) "set" := ⟨_, keepH _ _ ho, rfl⟩
  refine wpAny_bind (wpAny_holding ?_)
  unfold Builtin.List.listLengthHint
  refine wpAny_bind (wpAny_specialOf hTs PySem.F.slot_set_len.lookup ?_)
  generalize hid : ("set.__len__" : String) = id0; (fail_if_success (clear hid id0)); wp_delta; rw [show splitId id0 = some ("set", "__len__") from by subst hid; decide +kernel]; subst hid
  refine wpAny_bind (wpAny_isInstance (b := true) hTs (by rw [isSubtype_type]; kernel_rfl) ?_)
  refine wpAny_ite_false rfl ?_
  refine wpAny_ite_true (by decide +kernel) ?_
  refine wpAny_bind (wpAny_typeOf hTs (wpAny_pure ?_))
  refine wpAny_ite_true (by rfl) ?_
  refine wpAny_bind (wpAny_rule ?_)
  unfold Builtin.List.listTouch Builtin.List.listUpdate
  have sz1 : (1 : Nat) ≤ sizeLine := by have := big_line; wtm_at "om"
  refine wpAny_bind (wpAny_bind (wpAny_updateSeq hSH rfl ?_ (hz := Nat.zero_le _) (_hz' := by show (1 : Nat) ≤ _; wtm_at "om")))
  have g1 : (H.update s.heap.objs.size (Obj.mapSeq fun x => x.push .none)).get? s.heap.objs.size = some { cls := .type "list", data := .seq #[.none] 1 } := Heap.get?_update_self _ hSH rfl
  refine wpAny_updateSeq g1 rfl ?_ (hz := by show (1 : Nat) ≤ _; wtm_at "om") (_hz' := by show (0 : Nat) ≤ _; wtm_at "om")
  have g2 : ((H.update s.heap.objs.size (Obj.mapSeq fun x => x.push .none)).update s.heap.objs.size (Obj.mapSeq fun x => x.pop)).get? s.heap.objs.size = some { cls := .type "list", data := .seq #[] 2 } := Heap.get?_update_self _ g1 rfl
  have bS : Heap.SameBut s.heap.objs.size H ((H.update s.heap.objs.size (Obj.mapSeq fun x => x.push .none)).update s.heap.objs.size (Obj.mapSeq fun x => x.pop)) := (Heap.SameBut.update ..).trans (Heap.SameBut.update ..)
  dsimp only
  generalize hH2 : (H.update s.heap.objs.size (Obj.mapSeq fun x => x.push .none)).update s.heap.objs.size (Obj.mapSeq fun x => x.pop) = H2 at *
  have haS : a ≠ s.heap.objs.size := Nat.ne_of_lt ha
  have st : SetStand w a I x t 0 H2 := ⟨(bS.2 a haS).trans (keepH _ _ ho), (bS.2 I hIS.symm).trans hit⟩
  refine wpAny_pure ⟨plainId_quiet PySem.F.plain_extend_loop _, codeAny_extend_loopS (Walks_set (A := A.in1) (t := t) hh I hIa).toS sz1 _ (by simp; exact ⟨hIS, haS.symm⟩) _ 1 0 _ _ _ rfl (Nat.zero_le _) st g2 (ItemsOf.nil _) fun s' acc' c' hm hS' hacc => ?_⟩
  show wpAny _ A (load s.heap.objs.size >>= _) _ _ s'
  refine wpAny_bind (wpAny_load hS' ?_)
  have hacc2 : acc'.toList = [.str x t] := by
    obtain ⟨h1, h2⟩ := hacc
    obtain ⟨v, hv⟩ := len1 (l := acc'.toList) (by simpa using h1)
    have h3 := h2 0 v (by rw [← Array.getElem?_toList, hv]; rfl)
    rw [hv]
    simpa using h3
  dsimp only
  rw [hacc2]
  refine wpAny_pure ?_
  obtain ⟨h', g', d', t', o'⟩ := s'
  have hg := hm.gens
  have hd := hm.drawn
  have ho' := hm.os
  dsimp only at hg hd ho'
  subst hg hd ho'
  refine hQ h' t' fun b o e => hm.heap b o ?_ ((bS.2 b (Nat.ne_of_lt (Heap.lt_size e))).trans (keepH _ _ e))
  have hlt := Heap.lt_size e
  simp
  refine ⟨Nat.ne_of_lt hlt, ?_⟩
  rw [← hI, Heap.size_push]
  exact Nat.ne_of_lt (Nat.lt_succ_of_lt hlt)
end
structure KS (K : Frag) : Prop where
  sys : ∃ o, K.lookup sysModules = some o
  cst : kdsCode K (.ref 239) = true
theorem KS.ne {K : Frag} (k : KS K) {C : Cx} {L : Addr} {μ : Mu} {σ : Sg} {s : Shared} (T : Tp (DD K) C) (hs : St C L μ σ s) {a : Addr} {o : AO} {f : AO → Sg} (x : At σ a o f) : (a == sysModules) = false := by
  obtain ⟨o', e⟩ := k.sys
  refine beq_eq_false_iff_ne.mpr fun q => ?_
  have h1 := T.X _ _ e
  have h2 := (hs.ob _ x.mem).2.1
  rw [q, h1] at h2
  cases h2
theorem sub_dict_set : isSubtype (.type "dict") (.type "set") = pure false := by rw [isSubtype_type]; kernel_rfl
theorem sub_dict_fset : isSubtype (.type "dict") (.type "frozenset") = pure false := by rw [isSubtype_type]; kernel_rfl
section
variable {prog : Program} {w : World} {A : Around} {E : Value → Shared → Prop} {s : Shared} {a d : Addr} {x : Str} {t : Tok} {n : Nat}
theorem star_none {Q : Unit → Shared → Prop} (hh : A.handled = none) (ho : s.heap.get? a = some (set1 w x t)) (hd : s.heap.get? d = some { cls := .type "dict", dict := none, data := .dict #[] n, slots := #[] }) (hne : (d == sysModules) = false)
    (h : ∀ h' tk, (∀ b o, s.heap.get? b = some o → h'.get? b = some o) → Q () { s with heap := h', toks := tk }) : wpAny (model prog w) A (setDisplayStar a (.ref d)) Q E s := by
  have hT : s.TypeIs (.ref d) "dict" := ⟨_, hd, rfl⟩
  unfold setDisplayStar
  refine wpAny_bind (wpAny_isInstance hT sub_dict_set ?_)
  refine wpAny_ite_false rfl ?_
  refine wpAny_bind (wpAny_isInstance hT sub_dict_fset ?_)
  refine wpAny_bind (wpAny_askSetting ?_)
  cases hb : w.params.followText "set-display-star-reads-storage" with
  | false =>
    simp only [show (model prog w).w.params.followText "set-display-star-reads-storage" = false from hb, Bool.false_eq_true, if_false]
    refine wpAny_bind (wpAny_typeOf hT ?_)
    refine wpAny_ite_true (by decide) ?_
    refine wpAny_bind (wpAny_rule ?_)
    refine wpAny_ite_false (decide_eq_false (by rw [hne]; decide)) ?_
    refine wpAny_bind (wpAny_dictEpoch hd rfl ?_)
    refine wpAny_bind (wpAny_dictEntries hd rfl ?_)
    unfold setRoomFor
    refine wpAny_bind (wpAny_bind (wpAny_setState_of ho rfl (by rfl) ?_))
    rw [show SetTable.roomFor (setT w.params (hashStr w x)) (#[] : Array DictEntry).size = none from rfl]
    refine wpAny_pure ?_
    refine wpAny_bind (wpAny_of_eq (a := PUnit.unit) (by rw [show (#[] : Array DictEntry).size = 0 from rfl]; simp [Std.Legacy.Range.forIn_eq_forIn_range', Std.Legacy.Range.size]) (wpAny_pure ?_))
    exact h s.heap s.toks fun _ _ e => e
  | true =>
    simp only [show (model prog w).w.params.followText "set-display-star-reads-storage" = true from hb, if_true]
    have hm : s.heap.DictAt (strKind prog w) d [] n := ⟨_, #[], hd, ⟨rfl, rfl, rfl⟩, rfl, fun e he => by simp at he, .nil, by simp⟩
    refine wpAny_bind (wpAny_pyIter_dict hne hm ?_)
    have hdI : d ≠ s.heap.objs.size := Nat.ne_of_lt (Heap.lt_size hd)
    refine wpAny_bind (wpAny_runValue (codeAny_builtin PyProof.Rows.F.entry_set_update_loop ?_))
    rw [Around.under_plainId PyProof.Rows.F.plain_set_update_loop _]
    show wpAny _ A.in1 (pyNext (.ref s.heap.objs.size) >>= _) _ _ _
    refine wpAny_bind ((Walks.dictKeys (A := A.in1) hh s.heap.objs.size d hdI [] n).done _ _ _ ⟨⟨_, Heap.get?_push_size _ rfl, rfl, rfl⟩, hm.push _⟩ fun h' tk hk => ?_)
    show wpAny _ A.in1 (ret Value.none) _ _ _
    exact wpAny_pure (wpAny_pure (h h' tk fun b o e => hk b o (by simp; exact Nat.ne_of_lt (Heap.lt_size e)) (Heap.get?_push_of_some _ e)))
end
section
variable {C : Cx} {A : Around} {L : Addr} {μ : Mu} {σ : Sg} {env : Env} {K : Frag} {Q : Value → Sg → Prop}
theorem St.grown' {s : Shared} {h' : Heap} {tk : Nat} (hs : St C L μ σ s) (hk : ∀ b o, s.heap.get? b = some o → h'.get? b = some o) : St C L μ σ ⟨h', s.gens, s.drawn, tk, s.os⟩ := by
  refine ⟨let ⟨m, F, k⟩ := hs.fr; ⟨m, ⟨F.ns.keeps hk, fun b o q => hk b o (F.keep b o q), F.above⟩, k⟩, fun p hp => ?_, hs.nd, hs.fx⟩
  obtain ⟨j1, j2, ob, j3, j4⟩ := hs.ob p hp
  exact ⟨j1, j2, ob, hk _ _ j3, j4⟩
theorem WE_SetStar {e1 e2 : Expr} {p2 pos : Pos} {x : Str} {d : Addr} {f : AO → Sg} (T : Tp (DD K) C) (ks : KS K) (hh : A.handled = none) (hc : kdsCode K env.code = true)
    (he : ((starEach [e1, .Starred e2 p2] env).map fun (star, t) => (star, do let v ← t; standAt pos; pure v)) = [(false, do let v ← eval e1 env; standAt pos; pure v), (true, do let v ← eval e2 env; standAt pos; pure v)])
    (h1 : ∀ σ' (Q' : Value → Sg → Prop), Q' (vS x) σ' → WE C A env e1 μ σ' Q') (h2 : ∀ σ' (Q' : Value → Sg → Prop), Q' (.ref d) σ' → WE C A env e2 μ σ' Q') (hd : At σ d (.sd []) f)
    (h : ∀ a t, Q (.ref a) ((a, .obj (set1 C.w x t)) :: σ)) : WE C A env (.Set [e1, .Starred e2 p2] 0 pos) μ σ Q := fun s hs => by
  rw [arm_eval_Set]
  refine wpAny_bind (wpAny_standAt ?_)
  refine wpAny_bind (kds_main (T.X.keeps hs.keep) hc fun b => ?_)
  rw [he]
  unfold setDisplay
  refine wpAny_ite_false (by rfl) ?_
  refine wpAny_bind (newSet_one ?_)
  have st0 := hs.push (o := .obj (set0 C.w.params)) (ob := set0 C.w.params) rfl rfl
  generalize hs1 : ({ s with heap := s.heap.push (set0 C.w.params) } : Shared) = s1 at st0 ⊢
  generalize s.heap.objs.size = a at st0 ⊢
  dsimp only
  refine wpAny_bind (wpAny_holding ?_)
  refine wpAny_bind ?_
  show wpAny _ _ (evalAll [do let v ← eval e1 env; standAt pos; pure v]) _ _ s1
  refine PyProof.Rows.evalAll_cons (wpAny_bind (wpAny_mono (h1 _ (fun v σ' => v = vS x ∧ σ' = (a, .obj (set0 C.w.params)) :: σ) ⟨rfl, rfl⟩ s1 st0) (fun v s2 h2' => wpAny_bind (wpAny_standAt (wpAny_pure ?_))) fun _ _ x => x.elim))
  obtain ⟨μ2, σ2, ⟨rfl, e, rfl⟩, st2⟩ := h2'
  obtain ⟨t, rfl⟩ := can_str e
  refine PyProof.Rows.evalAll_nil ?_
  show wpAny _ _ (holding [.str x t] (do
      forIn [Value.str x t] PUnit.unit fun x __s => do
        let _ ← setAdd a x
        pure (ForInStep.yield PUnit.unit)
      pure ()) >>= fun _ => (do
        forIn [(true, (do let v ← eval e2 env; standAt pos; pure v : Sem Value))] PUnit.unit fun (x : Bool × Sem Value) __s => do
          let v ← x.snd
          if x.fst = true then do
            holding [v] (setDisplayStar a v)
            pure (ForInStep.yield PUnit.unit)
          else do
            let _ ← holding [v] (setAdd a v)
            pure (ForInStep.yield PUnit.unit)
        pure ())) _ _ s2
  refine wpAny_bind (wpAny_holding (wpAny_bind ?_))
  rw [List.forIn_cons]
  have hob := st2.obj At.here
  refine wpAny_bind (wpAny_bind (setAdd_one hob fun h' hb hg => wpAny_pure ?_))
  have st3 := st2.upd (o' := .obj (set1 C.w x t)) (tk := s2.toks + 1) At.here hb hg rfl
  dsimp only
  rw [List.forIn_nil]
  refine wpAny_pure (wpAny_pure ?_)
  refine wpAny_bind ?_
  rw [List.forIn_cons]
  refine wpAny_bind (wpAny_bind (wpAny_bind (wpAny_mono (h2 _ (fun v σ' => v = .ref d ∧ σ' = (a, .obj (set1 C.w x t)) :: σ) ⟨rfl, rfl⟩ _ st3) (fun v s4 h4 => wpAny_bind (wpAny_standAt (wpAny_pure ?_))) fun _ _ x => x.elim)))
  obtain ⟨μ4, σ4, ⟨rfl, e, rfl⟩, st4⟩ := h4
  have e := can_ref e
  subst e
  refine wpAny_ite_true rfl ?_
  obtain ⟨ob, e, es, n, rfl, hes⟩ := st4.at (.there hd)
  have hes : es = [] := by cases es with | nil => rfl | cons _ _ => cases hes
  subst hes
  refine wpAny_bind (wpAny_holding (star_none hh (st4.obj At.here) e (ks.ne T st4 (.there hd)) fun h' tk hk => wpAny_pure ?_))
  dsimp only
  rw [List.forIn_nil]
  refine wpAny_pure (wpAny_pure (wpAny_pure ?_))
  exact ⟨_, _, ⟨rfl, h a t⟩, st4.grown' hk⟩
end
section
variable {C : Cx} {A : Around} {L : Addr} {μ : Mu} {σ : Sg} {env : Env} {K : Frag} {Q : Value → Sg → Prop}
theorem WE_Lam {params : Arguments} {body : Expr} {scope : Scope} {pos : Pos} {cn : Str} {cs : Scope} {a c P : Addr} {cl clos : List (Str × Addr)} {ps : Array Value} {k : AO → Sg} (T : Tp (DD K) C) (hc : codeHdIn K c P = true)
    (henv : env = envX cn cs env.locals a (.ref c) cl) (hP : At σ P (.obj (tabObj ps)) k) (ht : TriplesOk ps.toList) (hnf : codeAmong pos ps.toList = none) (hcl : closureFor scope env = pure clos) (hdef : defaultsOf params env = ([], []))
    (h : ∀ f c' oc pm ctv, IsRec oc (env.qual ++ "<lambda>") → Q (.ref f) ((f, .obj (kla_obj "<lambda>" (env.qual ++ "<lambda>") params body scope clos pm c' ctv)) :: (c', .obj oc) :: k (.obj (tabObj (ps ++ #[rawInt pos.line, rawInt pos.col, .ref c']))))) :
    WE C A env (.Lambda params body scope pos) μ σ Q := fun s hs => by
  obtain ⟨m, news, F, km, N, R⟩ := hs.news
  obtain ⟨ob, g, hr, U, hm, hR⟩ := hP.upsF R hs.nd
  have hr : ob = tabObj ps := hr
  subst hr
  obtain ⟨p, loose, mean, mg, mb, T'⟩ := T.top
  have nd := hs.nd
  refine kla_eval hdef ?_
  generalize hq : env.qual ++ "<lambda>" = qual at h ⊢
  rw [henv]
  rw [henv] at hcl
  refine kla_nest F N T' (codeHd_of_K T.X hc) rfl U ht hnf hcl fun f c' oc vs t ctv h' tk F' N' e1 e2 hlt hcf => ?_
  rw [← henv]
  have st : St C env.locals μ ((f, .obj (kla_obj "<lambda>" qual params body scope clos ((mg "__name__").getD .none) c' ctv)) :: (c', .obj oc) :: k (.obj (tabObj (ps ++ #[rawInt pos.line, rawInt pos.col, .ref c'])))) { s with heap := h', toks := tk } := by
    refine hs.back F' km N' (.cons rfl (.cons rfl (hR _ _ rfl))) ?_
    have hl := lt_keys R hlt
    have kk : ∀ o', ∀ q ∈ (k o').map (·.1), q < c' := fun o' q hq => by
      rw [hP.keys] at hq
      obtain ⟨p, hp, e⟩ := List.mem_map.mp hq
      rw [← e]; exact hl p hp
    refine List.nodup_cons.mpr ⟨fun hm => ?_, List.nodup_cons.mpr ⟨fun hm => ?_, by rw [hP.keys]; exact nd⟩⟩
    · rcases List.mem_cons.mp hm with e | hm
      · have e : f = c' := e
        rw [e] at hcf; exact Nat.lt_irrefl _ hcf
      · exact Nat.lt_irrefl _ (Nat.lt_trans hcf (kk _ _ hm))
    · exact Nat.lt_irrefl _ (kk _ _ hm)
  exact ⟨_, _, ⟨rfl, h f c' oc _ ctv ⟨vs, t, e1, e2⟩⟩, st⟩
theorem WE_LamHit {params : Arguments} {body : Expr} {scope : Scope} {pos : Pos} {cn : Str} {cs : Scope} {a c P c' : Addr} {cl clos : List (Str × Addr)} {ps : Array Value} {k : AO → Sg} (T : Tp (DD K) C) (hc : codeHdIn K c P = true)
    (henv : env = envX cn cs env.locals a (.ref c) cl) (hP : At σ P (.obj (tabObj ps)) k) (ht : TriplesOk ps.toList) (hf : codeAmong pos ps.toList = some (.ref c')) (hcl : closureFor scope env = pure clos) (hdef : defaultsOf params env = ([], []))
    (h : ∀ f pm ctv, Q (.ref f) ((f, .obj (kla_obj "<lambda>" (env.qual ++ "<lambda>") params body scope clos pm c' ctv)) :: σ)) : WE C A env (.Lambda params body scope pos) μ σ Q := fun s hs => by
  obtain ⟨m, news, F, km, N, R⟩ := hs.news
  obtain ⟨ob, g, hr, U, hm, hR⟩ := hP.upsF R hs.nd
  have hr : ob = tabObj ps := hr
  subst hr
  obtain ⟨p, loose, mean, mg, mb, T'⟩ := T.top
  refine kla_eval hdef ?_
  generalize hq : env.qual ++ "<lambda>" = qual at h ⊢
  rw [henv]
  rw [henv] at hcl
  refine kla_hit F N T' (codeHd_of_K T.X hc) rfl hm ht hf hcl fun f ctv h' tk F' N' hlt => ?_
  rw [← henv]
  have st : St C env.locals μ ((f, .obj (kla_obj "<lambda>" qual params body scope clos ((mg "__name__").getD .none) c' ctv)) :: σ) { s with heap := h', toks := tk } := by
    refine hs.back F' km N' (.cons rfl R) (List.nodup_cons.mpr ⟨fun hm => ?_, hs.nd⟩)
    obtain ⟨p, hp, e⟩ := List.mem_map.mp hm
    have h1 := lt_keys R hlt p hp
    rw [e] at h1
    exact Nat.lt_irrefl _ h1
  exact ⟨_, _, ⟨rfl, h f _ ctv⟩, st⟩
/- a lambda is called -/
theorem WCK_lam {n : Nat} {f : Addr} {fd : FuncData} {body : Expr} {args : List Value} (xs : List Str) (μ0 : Mu) (r : Room A (n + 1)) (lim : C.h₀.NoLimit) (F : FnAt C σ f fd) (hμ : (xs.zip args).reverse = μ0) (hbody : fd.body = .expr body)
    (hbind : ∀ as : List Value, as.length = args.length → bindArgs fd ⟨as, []⟩ = pure (xs.zip as)) (hcell : (fd.scope.names.all fun x => x.2 != .cell) = true) (hloc : (xs.all fun x => fd.scope.names.lookup x == some .local) = true)
    (hco : fd.scope.isCoroutine = false) (hgen : fd.scope.isGenerator = false) (hk : fd.scope.kind = .function)
    (h : ∀ C' L', C.Le C' → Room (A.deeper (callEnv fd L' f)) n → WE C' (A.deeper (callEnv fd L' f)) (callEnv fd L' f) body μ0 σ (Ret Q)) : WCK C A L (.ref f) args σ Q := fun μ as e => by
  refine WK_ret fun s hs => ?_
  obtain ⟨⟨o, ho, hd⟩, hcd⟩ := F.here hs
  refine kla_callFunE r.depth ho hd hco hgen hbody hcd ?_
  rw [hbind as (by rw [← e]; simp)]
  have hcell' : ∀ x ∈ fd.scope.names, x.2 ≠ .cell := fun x hx => by simpa using List.all_eq_true.mp hcell x hx
  have hloc' : ∀ x ∈ xs.zip as, fd.scope.names.lookup x.1 = some .local := fun x hx => by simpa using List.all_eq_true.mp hloc x.1 (List.of_mem_zip (a := x.1) (b := x.2) hx).1
  refine wpAny_pure (wpAny_newFunctionEnv hcell' hloc' (fun h₁ hns hsb => ⟨((lim.keeps hs.keep)).fresh _ hsb, ?_⟩) hk)
  have hk₁ : ∀ b o, s.heap.get? b = some o → h₁.get? b = some o := fun b o e => hsb.extBut b o (Nat.ne_of_lt (Heap.lt_size e)) (Heap.get?_push_of_some _ e)
  have z := h (C.under s σ) s.heap.objs.size (under_le hs) r.deeper _ (by
    have := under_enter (tk := s.toks + (xs.zip as).length) hs hns hk₁
    rw [zip_can e, hμ] at this
    exact this)
  refine kla_codeExpr (wpAny_mono z (fun v s' hz => ?_) fun _ _ x => x.elim)
  obtain ⟨μ', σ', ⟨rfl, q⟩, st⟩ := hz
  exact ⟨σ', q, under_leave hs st⟩
end
noncomputable abbrev lsO (xs : Array Value) (n : Nat) : Obj := { cls := .type "list", dict := none, data := .seq xs n, slots := #[] }
section
variable {C : Cx} {A : Around} {L : Addr} {μ : Mu} {σ : Sg} {env : Env} {K : Frag}
theorem sort_one {x : Str} {t : Tok} {D f : Addr} {s : Shared} {P : PySem.Fin → Shared → Prop} (hs : St C L μ ((D, .obj (lsO #[.str x t] 0)) :: σ) s)
    (hcall : ∀ kS oD, WC C A L (.ref f) [vS x] ((kS, .list []) :: (D, .obj oD) :: σ) (fun k σ' => ∃ σ2, Sub ((kS, .list []) :: (D, .obj oD) :: σ2) σ' ∧ ∀ s', St C L μ ((D, .list [vS x]) :: σ2) s' → P (.done (.ret .none)) s')) :
    wpAny (model C.prog C.w) A (ksk_tree D (.ref f) false) P (fun _ _ => False) s := by
  have big := big_line
  have hD := hs.obj At.here
  unfold ksk_tree
  refine wpAny_bind (listItems_at hD rfl ?_)
  refine wpAny_bind (listUpdate_at hD rfl ?_ (by show (1 : Nat) ≤ _; wtm_at "om") (Nat.zero_le _))
  have g1 : (s.heap.update D (Obj.mapSeq fun _ => (#[] : Array Value))).get? D = some (lsO #[] 1) := Heap.get?_update_self _ hD rfl
  have st1 := hs.upd (o' := .obj (lsO #[] 1)) (tk := s.toks) At.here (Heap.SameBut.update ..) g1 rfl
  generalize hs1 : ({ s with heap := s.heap.update D (Obj.mapSeq fun _ => (#[] : Array Value)) } : Shared) = s1
  have st1' : St C L μ ((D, .obj (lsO #[] 1)) :: σ) s1 := by rw [← hs1]; exact st1
  refine wpAny_bind (seqEpoch_at (st1'.obj At.here) rfl ?_)
  refine wpAny_bind (wpAny_newTuple ?_ (by show (1 : Nat) ≤ _; wtm_at "om"))
  have st2 := st1'.waste (ob := { cls := .type "tuple", data := .seq #[.str x t] })
  refine wpAny_bind (wpAny_newList ?_ (Nat.zero_le _))
  have st3 := st2.push (o := .list []) (ob := { cls := .type "list", data := .seq ([] : List Value).toArray }) ⟨[], 0, rfl, rfl⟩ rfl
  refine wpAny_holding ?_
  generalize hk : ({ s1 with heap := s1.heap.push { cls := .type "tuple", data := .seq #[.str x t] } } : Shared).heap.objs.size = kS at st3 ⊢
  unfold ksk_rest
  refine wpAny_bind (wpAny_rule ?_)
  rw [List.forIn_toArray]
  rw [List.forIn_cons]
  refine wpAny_bind (wpAny_bind (wpAny_bind (wpAny_attempt (wpAny_mono (hcall kS (lsO #[] 1) μ [.str x t] rfl _ st3) (fun k s4 h4 => ?_) fun _ _ x => x.elim))))
  obtain ⟨μ4, σ4, ⟨rfl, σ2, hsub, hP⟩, st4⟩ := h4
  have st5 := st4.sub hsub
  dsimp only
  obtain ⟨items, n, e5, hm⟩ := st5.list At.here
  have hi : items = [] := by cases items with | nil => rfl | cons _ _ => cases hm
  subst hi
  refine wpAny_bind (listUpdate_at e5 rfl ?_ (Nat.zero_le _) (by show (1 : Nat) ≤ _; wtm_at "om"))
  have g6 : (s4.heap.update kS (Obj.mapSeq fun x => x.push k)).get? kS = some (lsO #[k] (n + 1)) := Heap.get?_update_self _ e5 rfl
  have st6 := st5.upd (o' := .obj (lsO #[k] (n + 1))) (tk := s4.toks) At.here (Heap.SameBut.update ..) g6 rfl
  refine wpAny_pure ?_
  dsimp only
  rw [List.forIn_nil]
  refine wpAny_pure ?_
  refine wpAny_bind (listItems_at (st6.obj At.here) rfl ?_)
  unfold ksk_end
  dsimp only
  refine wpAny_ite_false rfl ?_
  simp only [show (#[Value.str x t] : Array Value).size < 2 from (by show (1 : Nat) < 2; decide), if_true, Bool.false_eq_true, if_false]
  refine wpAny_bind (wpAny_pure ?_)
  rw [StateT.run_pure]
  refine wpAny_bind (wpAny_pure ?_)
  dsimp only
  unfold ksk_tail
  have hzip : (#[k].zip #[Value.str x t]) = #[(k, .str x t)] := by simp
  rw [hzip, show arrOf (SortSt.mk' general' #[(k, Value.str x t)] #[] 7 none) = #[(k, .str x t)] from rfl]
  simp only [Bool.false_eq_true, if_false, List.map_toArray, List.map_cons, List.map_nil]
  refine wpAny_bind (listUpdate_at (st6.obj At.here) rfl ?_ (by show (1 : Nat) ≤ _; wtm_at "om") (Nat.zero_le _))
  have g7 : ((s4.heap.update kS (Obj.mapSeq fun x => x.push k)).update kS (Obj.mapSeq fun _ => #[])).get? kS = some (lsO #[] (n + 2)) := Heap.get?_update_self _ g6 rfl
  have st7 := st6.upd (o' := .obj (lsO #[] (n + 2))) (tk := s4.toks) At.here (Heap.SameBut.update ..) g7 rfl
  refine wpAny_bind (wpAny_letGo ?_)
  refine wpAny_bind (seqEpoch_at (st7.obj (.there .here)) rfl ?_)
  refine wpAny_bind (listUpdate_at (st7.obj (.there .here)) rfl ?_ (Nat.zero_le _) (by show (1 : Nat) ≤ _; wtm_at "om"))
  refine wpAny_ite_false (by rfl) ?_
  refine wpAny_pure ?_
  have g8 : (((s4.heap.update kS (Obj.mapSeq fun x => x.push k)).update kS (Obj.mapSeq fun _ => #[])).update D (Obj.mapSeq fun _ => #[.str x t])).get? D = some (lsO #[.str x t] 2) := Heap.get?_update_self _ (st7.obj (.there .here)) rfl
  have st8 := st7.upd (o' := .list [vS x]) (tk := s4.toks) (.there .here) (Heap.SameBut.update ..) g8 ⟨[.str x t], 2, rfl, rfl⟩
  exact hP _ (st8.sub (.skip .refl))
/- sorted, of a set of one, by a key -/
theorem WE_sorted {n : Nat} {x : Str} {t : Tok} {e lam : Expr} {p pos kp : Pos} {a : Addr} {g : AO → Sg} {Q : Value → Sg → Prop} (r : Room A n) (hname : ∀ (Q' : Value → Sg → Prop), Q' (.builtin "sorted") σ → WE C A env (.Name "sorted" p) μ σ Q')
    (he : ∀ (Q' : Value → Sg → Prop), Q' (.ref a) σ → WE C A env e μ σ Q') (hpl : starEach [e] env = [(false, eval e env)]) 
    (hl : WE C A env lam μ σ (fun v σ1 => ∃ f g1, v = .ref f ∧ At σ1 a (.obj (set1 C.w x t)) g1 ∧ ∀ kS D oD, WC C A.in1.in1 env.locals (.ref f) [vS x] ((kS, .list []) :: (D, .obj oD) :: σ1) (fun k σ' => ∃ σ2, Sub ((kS, .list []) :: (D, .obj oD) :: σ2) σ' ∧ Q (.ref D) ((D, .list [vS x]) :: σ2)))) :
    WE C A env (.Call (.Name "sorted" p) [e] [⟨some "key", lam, kp⟩] pos) μ σ Q := fun s hs => by
  have big := big_line
  show wpAny _ A (eval (.Name "sorted" p) env >>= fun f => callWith pos f [] (backTo pos (starEach [e] env)) (backToKw pos (keywordEach [⟨some "key", lam, kp⟩] env))) _ _ s
  refine wpAny_bind (wpAny_mono (hname (fun v σ' => v = .builtin "sorted" ∧ σ' = σ) ⟨rfl, rfl⟩ s hs) (fun f s1 h1 => ?_) fun _ _ x => x.elim)
  obtain ⟨μ1, σ1, ⟨rfl, ef, rfl⟩, st1⟩ := h1
  rw [can_builtin ef]
  refine PyProof.Rows.callWith_kw ?_ (by rw [hpl]; rfl) (by rw [hpl]; rfl)
  rw [hpl]
  refine spliced_cons (wpAny_mono (he (fun v σ' => v = .ref a ∧ σ' = σ1) ⟨rfl, rfl⟩ s1 st1) (fun v s2 h2 => ?_) fun _ _ x => x.elim)
  obtain ⟨μ2, σ2, ⟨rfl, ev, rfl⟩, st2⟩ := h2
  rw [can_ref ev]
  refine spliced_nil (PyProof.Rows.kws_cons (wpAny_mono (hl s2 st2) (fun v s3 h3 => PyProof.Rows.kws_nil ?_) fun _ _ x => x.elim))
  obtain ⟨μ3, σ3, ⟨rfl, f, g1, ev3, ha, hcall⟩, st3⟩ := h3
  rw [can_ref ev3]
  show wpAny _ A (call (.builtin "sorted") [.ref a] [(Str.ofString "key", .ref f)]) _ _ s3
  refine call_function_entry_kw kind_sorted plain_sorted entry_sorted (ksk_s1 _ _) ?_
  unfold Builtin.«sorted»
  refine wpAny_bind (m := checkCount "sorted" 1 1 _) (wpAny_pure ?_)
  refine wpAny_bind (collect_set (t := t) r.hh (st3.obj ha) fun h' tk hk => ?_)
  have st4 := st3.grown' (tk := tk) hk
  refine wpAny_bind (wpAny_newList ?_ (by show (1 : Nat) ≤ _; wtm_at "om"))
  have st5 := st4.push (o := .obj (lsO #[.str x t] 0)) (ob := lsO #[.str x t] 0) rfl rfl
  generalize hD : ({ s3 with heap := h', toks := tk } : Shared).heap.objs.size = D at st5 ⊢
  refine wpAny_bind (wpAny_holding (wpAny_call_entry_kw slot_list_sort ⟨_, st5.obj At.here, rfl⟩ entry_list_sort ?body (ksk_l1 _ _)))
  case body =>
    show wpAny _ _ (Builtin.«list.sort» ⟨[.ref D], [(Str.ofString "key", .ref f)]⟩) _ _ _
    rw [ksk_t1]
    refine sort_one (σ := σ3) st5 fun kS oD μ' as e => ?_
    refine W_mono (hcall kS D oD μ' as e) fun k μ5 σ5 h5 => ⟨h5.1, ?_⟩
    obtain ⟨σ6, hsub, hq⟩ := h5.2
    exact ⟨σ6, hsub, fun s' st' => ⟨_, rfl, wpAny_pure ⟨_, rfl, _, _, ⟨rfl, hq⟩, st'⟩⟩⟩
end
section
variable {C : Cx} {A : Around} {L : Addr} {μ : Mu} {σ : Sg} {env : Env} {K : Frag} {Q : Value → Sg → Prop}
theorem WC_split1 {x y : Str} (hy : (y.length == 0) = false) (hz : x.length ≤ 1000000) (h : ∀ r vs, Q (.ref r) ((r, .list vs) :: σ)) : WC C A L (.builtin "str.split") [vS x, vS y, vI 1] σ Q := WC3 fun μ x' y' k' ex ey ek => WV_by fun s hs Q' q => by
  obtain ⟨t, rfl⟩ := can_str ex
  obtain ⟨u, rfl⟩ := can_str ey
  obtain ⟨v, rfl⟩ := can_int ek
  obtain ⟨m, news, F, k, N, R⟩ := hs.news
  have big := big_line
  refine splitN2A F N hy (by decide) (fun l h' tk hl hS hsh hL F' N' => ?_) (by wtm_at "om")
  exact q _ _ _ (h _ ((strValues l).map can)) (hs.grow F' k N R N' (Nat.le_refl _) ⟨strValues l, 0, rfl, rfl⟩)
theorem WE_DictNil {pos : Pos} (h : ∀ a, Q (.ref a) ((a, .sd []) :: σ)) : WE C A env (.Dict [] [] pos) μ σ Q := fun s hs => by
  rw [arm_eval_Dict]
  refine wpAny_bind (wpAny_standAt ?_)
  show wpAny _ A (dictDisplay []) _ _ s
  unfold dictDisplay
  simp only [List.forIn_nil]
  refine wpAny_bind (wpAny_pure ?_)
  refine wpAny_bind (wpAny_ite_true rfl (wpAny_pure ?_))
  exact wpAny_newObj_type ⟨_, _, ⟨rfl, h _⟩, hs.push (o := .sd []) (ob := { cls := .type "dict", data := .dict #[] }) ⟨[], 0, rfl, rfl⟩ rfl⟩ (by show (0 : Nat) ≤ _; wtm_at "om")
theorem ent_keys {prog : Program} {w : World} : ∀ {kvs : List (Str × Value)} {es : List DictEntry}, Ent w.params es kvs → ∀ e ∈ es, ∃ k, (strKind prog w).is k e.key = true ∧ e.hash = (strKind prog w).hash k
  | [], es, h => by rw [h.nil_inv]; exact fun _ h => nomatch h
  | (k, u) :: r, es, h => by
    obtain ⟨t, u', es', rfl, rfl, h'⟩ := h.cons_inv
    intro e he
    rcases List.mem_cons.mp he with rfl | he
    · exact ⟨k, strKind_is', rfl⟩
    · exact ent_keys h' e he
theorem ent_find {prog : Program} {w : World} {k : Str} : ∀ {kvs : List (Str × Value)} {es : List DictEntry}, Ent w.params es kvs → ((es.find? fun e => (strKind prog w).is k e.key).map (·.val)).map can = getS k kvs
  | [], es, h => by rw [h.nil_inv]; rfl
  | (k', u) :: r, es, h => by
    obtain ⟨t, u', es', rfl, rfl, h'⟩ := h.cons_inv
    have e1 : (strKind prog w).is k (.str k' t) = decide (k' = k) := by
      show Value.isStrOf k (.str k' t) = _
      unfold Value.isStrOf
      by_cases e : k' = k <;> simp [e]
    unfold getS
    rw [List.find?_cons]
    rw [show (strKind prog w).is k ({ hash := PyData.keyHash w.params k', key := .str k' t, val := u' } : DictEntry).key = decide (k' = k) from e1]
    by_cases e : k' = k
    · simp [e]
    · simp only [e, decide_false, if_false]
      exact ent_find h'
/- what a dict with names gives -/
theorem sd_map {d : Addr} {kvs : List (Str × Value)} {f : AO → Sg} {s : Shared} (hs : St C L μ σ s) (x : At σ d (.sd kvs) f) : ∃ fm, s.heap.MapOf (strKind C.prog C.w) d fm ∧ ∀ k, (fm k).map can = getS k kvs := by
  obtain ⟨ob, e, es, n, rfl, E⟩ := hs.at x
  have E : Ent C.w.params es kvs := E
  refine ⟨findBy (strKind C.prog C.w).is es.toArray, ⟨_, es.toArray, n, e, ⟨rfl, rfl, rfl⟩, rfl, fun en hen => ent_keys E en (by simpa using hen), fun k => rfl⟩, fun k => ?_⟩
  have := ent_find (prog := C.prog) (k := k) E
  unfold findBy
  simpa using this
theorem WM_sd {a : Addr} {kvs : List (Str × Value)} {f : AO → Sg} {name : Str} {id : String} {Q : Value → List Value → Sg → Prop} (x : At σ a (.sd kvs) f) (slot : Slot "dict" name id) (ty : typeOf (.builtin id) = pure (.type "method_descriptor")) (h : Q (.builtin id) [.ref a] σ) :
    WM C A L (.ref a) name σ Q := fun μ pl v' e => by
  rw [can_ref e]
  refine W_by fun s hs Q' q => ?_
  obtain ⟨ob, e, es, n, rfl, E⟩ := hs.at x
  exact getMethod_builtin (T := "dict") ⟨_, e, rfl⟩ PySem.F.plainAttrs_dict slot ty (fun b eb => by cases eb; exact ⟨_, e, rfl⟩) (q (.builtin id, [.ref a]) μ _ _ ⟨rfl, h⟩ hs)
theorem WC_getSd {a : Addr} {kvs : List (Str × Value)} {f : AO → Sg} {k : Str} (T : Tp (DD K) C) (ks : KS K) (x : At σ a (.sd kvs) f) (h : Q ((getS k kvs).getD .none) σ) : WC C A L (.builtin "dict.get") [.ref a, vS k] σ Q :=
  WC2 fun μ a' b' ea eb => WV_by fun s hs Q' q => by
    rw [can_ref ea]
    obtain ⟨t, rfl⟩ := can_str eb
    obtain ⟨fm, m, hv⟩ := sd_map hs x
    refine call_meetsIn PySem.F.slot_dict_get m.typeIs PySem.F.entry_dict_get (PySem.F.args_dict_get_2 _ _) (meets_dict_get (strKind C.prog C.w) a (k := k) strKind_is' (ks.ne T hs x)) ⟨fm, m, ?_⟩
    refine q _ _ _ ?_ hs.toks
    have e : can ((fm k).getD .none) = (getS k kvs).getD .none := by rw [← hv]; cases fm k <;> rfl
    show Q (can _) σ
    rw [e]; exact h
/- texts put together -/
noncomputable def WJ (C : Cx) (A : Around) (env : Env) (out : List Nat) (es : List Expr) (μ : Mu) (σ : Sg) (Q : Value → Sg → Prop) : Prop := WV C A env.locals (joinParts (S out) (evalEach es env)) μ σ Q
theorem WJ_nil {out : List Nat} (hz : out.length ≤ 1000000) (h : Q (vS (S out)) σ) : WJ C A env out [] μ σ Q := fun s hs => by
  have big := big_line
  exact joinParts_nil ⟨_, _, ⟨rfl, h⟩, hs.toks⟩ (by rw [S_len]; wtm_at "om")
theorem WJ_cons {out : List Nat} {e : Expr} {es : List Expr} (h : WE C A env e μ σ (fun v σ1 => ∃ l, v = vS (S l) ∧ out.length + l.length ≤ 1000000 ∧ WJ C A env (out ++ l) es μ σ1 Q)) : WJ C A env out (e :: es) μ σ Q := fun s hs => by
  have big := big_line
  refine joinParts_consE (joinParts_cons (wpAny_mono (h s hs) (fun v s1 h1 => ?_) fun _ _ x => x.elim))
  obtain ⟨μ1, σ1, ⟨rfl, l, e, hz, k⟩, st⟩ := h1
  obtain ⟨t, rfl⟩ := can_str e
  refine ⟨?_, ?_⟩
  · rw [S_app, S_len, List.length_append]; wtm_at "om"
  · rw [S_app]; exact k s1 st
theorem WE_Joined {v1 v2 : Expr} {rest : List Expr} {pos : Pos} (h : WJ C A env [] (v1 :: v2 :: rest) μ σ Q) : WE C A env (.JoinedStr (v1 :: v2 :: rest) pos) μ σ Q := fun s hs => JoinedStr_many (h s hs)
theorem WE_Formatted {e : Expr} {pos : Pos} (h : WE C A env e μ σ (fun v σ1 => ∃ l, v = vS (S l) ∧ l.length ≤ 1000000 ∧ Q (vS (S l)) σ1)) : WE C A env (.FormattedValue e (-1) none pos) μ σ Q := fun s hs => by
  have big := big_line
  refine FormattedValue_plain (wpAny_mono (h s hs) (fun v s1 h1 => ?_) fun _ _ x => x.elim)
  obtain ⟨μ1, σ1, ⟨rfl, l, e, hz, k⟩, st⟩ := h1
  obtain ⟨t, rfl⟩ := can_str e
  exact formatField_str (fun t' tk => ⟨_, _, ⟨rfl, k⟩, st.toks⟩) (by rw [S_len]; wtm_at "om")
end
section
variable {C : Cx} {A : Around} {L : Addr} {μ : Mu} {σ : Sg} {env : Env} {K : Frag} {Q : Value → Sg → Prop}
/- a def without cells, its last parameter by default -/
theorem WCK_fnD {n : Nat} {f c d : Addr} {s : Stmt} {name qual : Str} {args : List Value} {v : Value} (H : HasFn K f c s name qual (.ref d) .none) (hd : K.lookup d = some { cls := .type "tuple", data := .seq #[v] }) (hv : can v = v) (T : Tp (DD K) C) (xs : List Str) (μ0 : Mu) (r : Room A (n + 1)) (hμ : (xs.zip (args ++ [v])).reverse = μ0)
    (hbind : ∀ pm, ∀ as : List Value, as.length = args.length → ∃ k, bindArgs (fdOf s name qual pm c (.ref d) .none) ⟨as, []⟩ = seqItems? (.ref d) >>= k ∧ k (some #[v]) = pure (xs.zip (as ++ [v]))) (hcell : ((scopeOf s).names.all fun x => x.2 != .cell) = true) (hloc : (xs.all fun x => (scopeOf s).names.lookup x == some .local) = true)
    (hco : (scopeOf s).isCoroutine = false) (hgen : (scopeOf s).isGenerator = false) (hk : (scopeOf s).kind = .function)
    (h : ∀ pm C' L', C.Le C' → Tp (DD K) C' → Room (A.deeper (callEnv (fdOf s name qual pm c (.ref d) .none) L' f)) n → WB C' (A.deeper (callEnv (fdOf s name qual pm c (.ref d) .none) L' f)) (callEnv (fdOf s name qual pm c (.ref d) .none) L' f) (bodyOf s) μ0 σ (fun fl _ σ' => Ret Q (retV fl) σ')) : WCK C A L (.ref f) args σ Q := by
  obtain ⟨pm, oc, od, osl, hK, hc⟩ := H
  intro μ as e
  obtain ⟨kk, h1, h2⟩ := hbind pm as (by rw [← e]; simp)
  refine WK_ret (WK_call_def (binds := xs.zip (as ++ [v])) r T.lim (FnAt.of T hK hc) rfl (fun s' hs => ?_) (fun x hx => by simpa using List.all_eq_true.mp hcell x hx) (fun x hx => by show (scopeOf _).names.lookup x.1 = _; simpa using List.all_eq_true.mp hloc x.1 (List.of_mem_zip (a := x.1) (b := x.2) hx).1) ?_ hco hgen hk)
  · exact BindsTo.of_defaults rfl (T.X.keeps hs.keep _ _ hd) rfl h1 h2
  · rw [zip_can (vs := args ++ [v]) (by rw [List.map_append, e]; simp [hv]), hμ]
    exact fun C' L' l r' => h pm C' L' l (T.le l) r'
/- a def without cells, with names of keywords alone by default -/
theorem WCK_fnK {n : Nat} {f c d : Addr} {s : Stmt} {name qual : Str} {args : List Value} {vs : List Value} (H : HasFn K f c s name qual .none (.ref d)) (hvs : vs.map can = vs) (T : Tp (DD K) C) (xs : List Str) (μ0 : Mu) (r : Room A (n + 1)) (hμ : (xs.zip (args ++ vs)).reverse = μ0)
    (hbind : ∀ pm, ∀ as : List Value, as.length = args.length → ∀ s' : Shared, K.In s'.heap → BindsTo s' (fdOf s name qual pm c .none (.ref d)) ⟨as, []⟩ (xs.zip (as ++ vs))) (hcell : ((scopeOf s).names.all fun x => x.2 != .cell) = true) (hloc : (xs.all fun x => (scopeOf s).names.lookup x == some .local) = true)
    (hco : (scopeOf s).isCoroutine = false) (hgen : (scopeOf s).isGenerator = false) (hk : (scopeOf s).kind = .function)
    (h : ∀ pm C' L', C.Le C' → Tp (DD K) C' → Room (A.deeper (callEnv (fdOf s name qual pm c .none (.ref d)) L' f)) n → WB C' (A.deeper (callEnv (fdOf s name qual pm c .none (.ref d)) L' f)) (callEnv (fdOf s name qual pm c .none (.ref d)) L' f) (bodyOf s) μ0 σ (fun fl _ σ' => Ret Q (retV fl) σ')) : WCK C A L (.ref f) args σ Q := by
  obtain ⟨pm, oc, od, osl, hK, hc⟩ := H
  intro μ as e
  refine WK_ret (WK_call_def (binds := xs.zip (as ++ vs)) r T.lim (FnAt.of T hK hc) rfl (fun s' hs => hbind pm as (by rw [← e]; simp) s' (T.X.keeps hs.keep)) (fun x hx => by simpa using List.all_eq_true.mp hcell x hx) (fun x hx => by show (scopeOf _).names.lookup x.1 = _; simpa using List.all_eq_true.mp hloc x.1 (List.of_mem_zip (a := x.1) (b := x.2) hx).1) ?_ hco hgen hk)
  rw [zip_can (vs := args ++ vs) (by rw [List.map_append, e, hvs]), hμ]
  exact fun C' L' l r' => h pm C' L' l (T.le l) r'
end
/- what more of the frozen part is asked -/
structure KD3 (K : Frag) (P : Params) : Prop where
  ns : ∀ prog (w : World) h, w.params = P → K.In h → ∃ (kvs : List (Str × Value)) (ep : Nat), h.DictAt (strKind prog w) 158 kvs ep ∧ kvs.length ≤ 100
  kw : ∃ es n, K.lookup 174 = some { cls := .type "dict", data := .dict es n } ∧ lookIn "with_comments" { cls := .type "dict", data := .dict es n } = some (some (.bool false)) ∧ lookIn "strip_text" { cls := .type "dict", data := .dict es n } = some (some (.bool false)) ∧ lookIn "rewrite_prefixes" { cls := .type "dict", data := .dict es n } = some (some (.bool false)) ∧
    lookIn "qname_aware_tags" { cls := .type "dict", data := .dict es n } = some (some .none) ∧ lookIn "qname_aware_attrs" { cls := .type "dict", data := .dict es n } = some (some .none) ∧ lookIn "exclude_attrs" { cls := .type "dict", data := .dict es n } = some (some .none) ∧ lookIn "exclude_tags" { cls := .type "dict", data := .dict es n } = some (some .none)
  dQname : K.lookup 197 = some { cls := .type "tuple", data := .seq #[.none] }
  dStart : K.lookup 235 = some { cls := .type "tuple", data := .seq #[.none] }
  dFlush : K.lookup 213 = some { cls := .type "tuple", data := .seq #[.ref 212] }
  join : ∃ t, K.lookup 212 = some (boundOf "str.join" (.str "" t))
theorem range_rev (n : Nat) : sliceRange ((n : Int) - 1) (-1) (-1) = (List.range n).map fun k => n - 1 - k := PyProof.Rows.picked_rev n
theorem fm_congr {α β : Type} {f g : α → Option β} : ∀ {l : List α}, (∀ k ∈ l, f k = g k) → l.filterMap f = l.filterMap g
  | [], _ => rfl
  | a :: r, h => by
    rw [List.filterMap_cons, List.filterMap_cons, h a (.head _), fm_congr fun k hk => h k (.tail _ hk)]
theorem rev_pick : ∀ (n : Nat) (vs : List Value), vs.length = n → ((List.range n).map fun k => n - 1 - k).filterMap (vs[·]?) = vs.reverse
  | 0, vs, h => by rw [List.length_eq_zero_iff.mp h]; rfl
  | n + 1, vs, h => by
    obtain ⟨us, x, rfl⟩ : ∃ us x, vs = us ++ [x] := by
      rcases List.eq_nil_or_concat vs with e | ⟨us, x, e⟩
      · rw [e] at h; simp at h
      · exact ⟨us, x, by rw [e, List.concat_eq_append]⟩
    have hl : us.length = n := by simpa using h
    rw [List.range_succ_eq_map, List.map_cons, List.filterMap_cons]
    rw [show (us ++ [x])[n + 1 - 1 - 0]? = some x by simp [hl]]
    rw [List.map_map, List.filterMap_map, List.reverse_append, List.reverse_cons, List.reverse_nil, List.nil_append, List.singleton_append, ← rev_pick n us hl, List.filterMap_map]
    show x :: _ = x :: _
    congr 1
    refine fm_congr fun k hk => ?_
    have hk := List.mem_range.mp hk
    show (us ++ [x])[n + 1 - 1 - (k + 1)]? = us[n - 1 - k]?
    rw [show n + 1 - 1 - (k + 1) = n - 1 - k by wtm_at "om", List.getElem?_append_left (by wtm_at "om")]
theorem pick_rev (vs : List Value) : pick vs none none (some (-1)) = vs.reverse := by
  unfold pick
  rw [show sliceBounds none none (some (-1)) vs.length = ((vs.length : Int) - 1, -1, -1) from rfl]
  dsimp only
  rw [range_rev]
  exact rev_pick _ vs rfl
noncomputable def esg (re : List Addr) : Sg := re.map fun e => (e, AO.list [])
theorem At_esg : ∀ {re : List Addr} {e : Addr} {ρ : Sg}, e ∈ re → ∃ f, At (esg re ++ ρ) e (.list []) f
  | a :: r, e, ρ, h => by
    rcases List.mem_cons.mp h with rfl | h
    · exact ⟨_, .here⟩
    · obtain ⟨f, x⟩ := At_esg (ρ := ρ) h
      exact ⟨_, .there x⟩
section
variable {C : Cx} {A : Around} {L : Addr} {σ ρ : Sg} {n : Nat} {K : Frag} {Q : Value → Sg → Prop}
/- a for loop, all told behind the iterable -/
theorem WS_ForE {env : Env} {μ : Mu} {target iter : Expr} {body orelse : List Stmt} {pos : Pos} {Q : Flow → Mu → Sg → Prop} (r : Room A n)
    (hiter : WE C A env iter μ σ (fun v σ1 => ∃ (vs : List Value) (H : Sg → Prop) (J : Nat → Mu → Sg → Prop), ItS C A v vs H σ1 ∧ J 0 μ σ1 ∧ (∀ i μ σ, J i μ σ → H σ) ∧
      (∀ i x it (o : AO) μ σ, vs[i]? = some x → J i μ σ → WTg C A env target μ ((it, o) :: σ) x (fun μ2 σ2 => WB C A env body μ2 σ2 (Turn it o (J (i + 1)) Q))) ∧ (∀ μ σ, J vs.length μ σ → WB C A env orelse μ σ Q)))
    (hf : ∀ x, foldedSetIterable iter env x = pure x) (ht : ∀ it v, letOwnedTupleGo target (.ref it) v = pure ()) : WS C A env (.For target iter body orelse pos) μ σ Q := fun s hs => by
  refine wpAny_For (wpAny_mono (hiter s hs) (fun v s1 h1 => ?_) fun _ _ x => x.elim) hf
  obtain ⟨μ1, σ1, ⟨rfl, vs, H, J, hit, hj, hat, step, done⟩, st⟩ := h1
  refine wpAny_mono (hit _ _ v rfl s1 st) (fun r' s2 h2 => ?_) fun _ _ x => x.elim
  obtain ⟨μ2, σ2, ⟨rfl, it, o, rfl, K, rfl⟩, st2⟩ := h2
  exact W_forLoop r K hat (fun i x μ σ hx hj => step i x it _ μ σ hx hj) done hj st2 (ht it)
theorem C_lwalk {ds l0 tp : Addr} {re : List Addr} (r : Room A (n + 1)) (T : Tp (DD K) C) (F : KF K) (hz : re.length ≤ 1000) (hes : ∀ e ∈ re, ∃ f, At ρ e (.list []) f) (h : ∀ a, Q (.ref a) ((a, .list [.ref tp]) :: (ds, .list (.ref l0 :: re.reverse.map .ref)) :: (l0, .list [.ref tp]) :: ρ)) :
    WCK C A L (.ref 325) [.ref ds] ((ds, .list (.ref l0 :: re.reverse.map .ref)) :: (l0, .list [.ref tp]) :: ρ) Q := by
  refine WCK_fn F.lwalk T ["stack"] [("stack", .ref ds)] r rfl (by (intro pm; refine' ln1 rfl ?_; intro a; kernel_rfl)) (by kernel_rfl) (by kernel_rfl) (by kernel_rfl) (by kernel_rfl) (by kernel_rfl) ?_
  intro pm C' L' l T' r'
  refine WB_cons ?_
  wtm_at "all"
  rename_i a
  have hv : (.ref l0 :: re.reverse.map .ref : List Value).reverse = re.map .ref ++ [.ref l0] := by simp
  let base : Sg := (ds, .list (.ref l0 :: re.reverse.map .ref)) :: (l0, .list [.ref tp]) :: ρ
  refine WS_ForE (n := n) r' ?_ (by intro _; rfl) (by intro _ _; rfl)
  wtm_at "one"
  refine WE_Slice ?_
  refine WO_none (WO_none (WO_some ?_))
  wtm_at "one"
  intro sl
  refine item_now (PI_list (by wtm_at "at")) ?_
  refine WG_slice (lo := none) (hi := none) (st := some (-1)) (by wtm_at "at") (by wtm_at "at") .none .none (.int (-1)) (by simp) (by simp; wtm_at "om") fun b => ?_
  rw [pick_rev, hv]
  refine ⟨re.map .ref ++ [.ref l0], _, fun i μ σ' => μ = ([("pairs", .ref a), ("stack", .ref ds)] : Mu) ∧ σ' = (b, .list (re.map .ref ++ [.ref l0])) :: (sl, .fields "slice" [.none, .none, vI (-1)]) :: (a, .list (if i ≤ re.length then [] else [.ref tp])) :: base, ItS_list .here, ⟨rfl, ?_⟩, ?_, ?_, ?_⟩
  · rw [if_pos (Nat.zero_le _)]
  · rintro i μ σ ⟨_, rfl⟩
    exact ⟨_, .here⟩
  · rintro i x it o μ σ hx ⟨rfl, rfl⟩
    refine WTg_name ?_
    wtm_at "one"
    refine WB_cons ?_
    have hi : i < re.length + 1 := by
      by_cases h : i < re.length + 1
      · exact h
      · rw [List.getElem?_eq_none (by simp; wtm_at "om")] at hx; cases hx
    by_cases hlt : i < re.length
    · have hx : x = .ref re[i] := by
        rw [List.getElem?_append_left (by simpa using hlt)] at hx
        simp [hlt] at hx
        exact hx.symm
      subst hx
      obtain ⟨f, at1⟩ := hes _ (List.getElem_mem hlt)
      rw [if_pos (Nat.le_of_lt hlt)]
      wtm_at "one"
      refine WC_extend (by wtm_at "at") (.there (.there (.there (.there (.there (.there at1)))))) (by simp) ?_
      wtm_at "all"
      refine ⟨[("pairs", .ref a), ("stack", .ref ds)], _, by wtm_at "lem", Sub.refl, rfl, ?_⟩
      rw [if_pos (by wtm_at "om")]
      rfl
    · have hi' : i = re.length := by wtm_at "om"
      have hx : x = .ref l0 := by
        rw [List.getElem?_append_right (by simp; wtm_at "om")] at hx
        simp [hi'] at hx
        exact hx.symm
      subst hx
      rw [if_pos (by wtm_at "om")]
      wtm_at "one"
      refine WC_extend (by wtm_at "at") (.there (.there (.there (.there (.there .here))))) (by simp) ?_
      wtm_at "all"
      refine ⟨[("pairs", .ref a), ("stack", .ref ds)], _, by wtm_at "lem", Sub.refl, rfl, ?_⟩
      rw [if_neg (by wtm_at "om")]
      rfl
  · rintro μ σ ⟨rfl, rfl⟩
    rw [if_neg (by simp)]
    wtm_at "all"
    exact ret_now (τ := (a, .list [.ref tp]) :: base) (by wtm_at "sub") (h a)
end
noncomputable abbrev nsL : List Nat := [104, 116, 116, 112, 58, 47, 47, 119, 119, 119, 46, 119, 51, 46, 111, 114, 103, 47, 88, 77, 76, 47, 49, 57, 57, 56, 47, 110, 97, 109, 101, 115, 112, 97, 99, 101]
noncomputable abbrev xmlL : List Nat := [120, 109, 108]
theorem lit47 : (Str.ofString "http://www.w3.org/XML/1998/namespace") = S nsL := by kernel_rfl
theorem lit48 : (Str.ofString "xml") = S xmlL := by kernel_rfl
theorem Br_isn {P R : Prop} (h : P) : Br (Value.none == Value.none) P R := Br_tt h
theorem Br_isnn {P R : Prop} (h : R) : Br (!(Value.none == Value.none)) P R := Br_ff h
section
variable {C : Cx} {A : Around} {L : Addr} {σ ρ : Sg} {n : Nat} {K : Frag} {Q : Value → Sg → Prop}
/- a run of signs -/
theorem WG_sliceS {l : List Nat} {sl : Addr} {vl vu : Value} {lo hi : Option Int} {g : AO → Sg} {a k : Nat} (h2 : At σ sl (.fields "slice" [vl, vu, .none]) g) (pl : Part vl lo) (pu : Part vu hi) (hidx : Builtin.Str.strSliceIndices lo hi 1 l.length = (List.range k).map (a + ·)) (hk : a + k ≤ l.length) (hz : l.length ≤ 1000000)
    (h : Q (vS (S ((l.drop a).take k))) σ) : WG C A L (vS (S l)) (.ref sl) σ Q := fun μ o' i' ho hi' => by
  obtain ⟨t, rfl⟩ := can_str ho
  rw [can_ref hi']
  refine WV_by fun s hs Q' q => ?_
  have big := big_line
  obtain ⟨ob, e2, hc, its, hd, hmm⟩ := hs.at h2
  obtain ⟨a', b', c', hits, ha, hb, hc'⟩ := can_map3 hmm
  have hits : its = #[a', b', c'] := by cases its; simp_all
  subst hits
  have part : ∀ {v v' : Value} {o : Option Int}, Part v o → can v' = v → ∃ p : Option (Int × Tok), v' = partValue p ∧ p.map (·.1) = o := by
    intro v v' o p e
    cases p with
    | none => exact ⟨none, can_none e, rfl⟩
    | int i => obtain ⟨t, rfl⟩ := can_int e; exact ⟨some (i, t), rfl, rfl⟩
  obtain ⟨p1, rfl, e1⟩ := part pl ha
  obtain ⟨p2, rfl, e3⟩ := part pu hb
  rw [can_none hc'] at hd
  refine wpAny_getItem_str_slice (l := p1) (u := p2) (st := none) ⟨ob, e2, hc, hd⟩ rfl ?_
  have hp : slicePicked (S l) p1 p2 none = (List.range k).map (a + ·) := by
    unfold slicePicked
    rw [e1, e3, S_len]
    exact hidx
  have hr : ((slicePicked (S l) p1 p2 none).filterMap ((S l).cps[·]?)).toArray = ((l.drop a).take k).toArray := by
    rw [hp, pick_run]
  unfold sliceMade
  split
  · rename_i he
    simp only [Option.map_none, Option.getD_none, beq_self_eq_true, Bool.true_and, beq_iff_eq, hp, List.length_map, List.length_range, S_len] at he
    have h0 : a = 0 := by wtm_at "om"
    subst h0
    rw [he] at h
    simp only [List.drop_zero, List.take_length] at h
    exact q _ _ _ h hs
  · refine ⟨?_, q _ _ _ ?_ hs.toks⟩
    · rw [hr]
      show (S ((l.drop a).take k)).length ≤ sizeLine
      rw [S_len, List.length_take, List.length_drop]
      wtm_at "om"
    · rw [hr]; exact h
structure Wr where
  x : Addr
  d : Addr
  pb : Addr
  pcs : Addr
  dl : Addr
  ds : Addr
  l0 : Addr
  tp : Addr
  ns : Addr
  ps : Addr
  pm : Addr
noncomputable abbrev wD (w : Wr) (rs rd : Bool) : List (Str × Value) := [("_write", .ref w.pb), ("_data", .ref w.dl), ("_with_comments", .bool false), ("_strip_text", .bool false), ("_exclude_attrs", .none), ("_exclude_tags", .none), ("_rewrite_prefixes", .bool false), ("_qname_aware_tags", .none), ("_find_qname_aware_attrs", .none), ("_declared_ns_stack", .ref w.ds), ("_ns_stack", .ref w.ns), ("_prefix_map", .ref w.pm), ("_preserve_space", .ref w.ps), ("_pending_start", .none), ("_root_seen", .bool rs), ("_root_done", .bool rd), ("_ignored_depth", vI 0), ("_iter_namespaces", .ref 325)]
/- what a name's walk touches -/
noncomputable abbrev Wr.qsg (w : Wr) (re : List Addr) (rs rd : Bool) (ρ : Sg) : Sg := (w.ds, .list (.ref w.l0 :: re.reverse.map .ref)) :: (w.l0, .list [.ref w.tp]) :: (w.tp, .tuple [vS (S nsL), vS (S xmlL)]) :: (w.x, .inst 264 w.d) :: (w.d, .sd (wD w rs rd)) :: (esg re ++ ρ)
theorem idx_one (n : Nat) : Builtin.Str.strSliceIndices none (some 1) 1 n = (List.range (min 1 n)).map (0 + ·) := by
  show sliceRange 0 (max 0 (min 1 (n : Int))) 1 = _
  rw [show max 0 (min 1 (n : Int)) = ((min 1 n : Nat) : Int) by wtm_at "om"]
  exact sliceRange_one 0 (min 1 n)
end
section
variable {C : Cx} {A : Around} {L : Addr} {σ ρ : Sg} {n : Nat} {K : Frag} {Q : Value → Sg → Prop}
theorem codeAny_forLoopT {prog : Program} {w : World} {A : Around} {R : Result → Shared → Prop} {s : Shared} {target : Expr} {it : Value} {body orelse : List Stmt} {env : Env} (I : Nat → Shared → Prop)
    (turn : ∀ n s, I n s → wpAny (model prog w) A (pyNext it) (fun r s₁ => match r with
      | none => wpAny (model prog w) A (execs orelse env) (fun f s₃ => R (.ok f) s₃) (notedBy (model prog w) A env fun e s' => R (.error e) s') s₁
      | some v => wpAny (model prog w) A (letOwnedTupleGo target it v) (fun _ s₁ => wpAny (model prog w) A (assign target env v) (fun _ s₂ => wpAny (model prog w) A (execs body env) (fun f s₃ => match f with
          | .next | .cont => ∃ m, m < n ∧ I m s₃
          | .brk => R (.ok .next) s₃
          | .ret v => R (.ok (.ret v)) s₃) (notedBy (model prog w) A env fun e s' => R (.error e) s') s₂) (notedBy (model prog w) A env fun e s' => R (.error e) s') s₁) (notedBy (model prog w) A env fun e s' => R (.error e) s') s₁) (notedBy (model prog w) A env fun e s' => R (.error e) s') s)
    (n : Nat) (h : I n s) : codeAny (model prog w) A (.forLoop target it body orelse env) R s := by
  refine codeAny_loop' rfl I (fun n s hI => ?_) n h
  show wpAny _ _ ((forTurn target it body orelse env).onRaise (fun x => do noteFrame x env; theTreesLotGoes x)) _ _ s
  refine wpAny_noted ?_
  simp only [forTurn]
  refine wpAny_bind (wpAny_standAt (wpAny_bind (wpAny_onRaise (wpAny_mono (turn n s hI) (fun r s₁ h₁ => ?_) fun _ _ h' => wpAny_standAt h'))))
  cases r with
  | none => exact wpAny_pure (.inr ⟨rfl, codeAny_block h₁⟩)
  | some v =>
    refine wpAny_bind (wpAny_mono h₁ (fun _ s₁ h₁ => ?_) fun _ _ h' => h')
    refine wpAny_bind (wpAny_mono h₁ (fun _ s₂ h₂ => wpAny_bind (wpAny_mono h₂ (fun f s₃ h₃ => ?_) fun _ _ h' => h')) fun _ _ h' => h')
    cases f with
    | next => exact wpAny_pure (.inl ⟨rfl, h₃⟩)
    | cont => exact wpAny_pure (.inl ⟨rfl, h₃⟩)
    | brk => exact wpAny_pure h₃
    | ret v => exact wpAny_pure h₃
/- a for loop over a list of tuples, each taken apart -/
theorem WS_ForP {env : Env} {μ : Mu} {elts : List Expr} {x1 : Nat} {tpos : Pos} {iter : Expr} {body orelse : List Stmt} {pos : Pos} {Q : Flow → Mu → Sg → Prop} (r : Room A n)
    (hiter : WE C A env iter μ σ (fun v σ1 => ∃ (a : Addr) (ts : List Addr) (f : AO → Sg) (J : Nat → Mu → Sg → Prop), v = .ref a ∧ At σ1 a (.list (ts.map .ref)) f ∧ J 0 μ σ1 ∧ (∀ i μ σ, J i μ σ → ∃ g, At σ a (.list (ts.map .ref)) g) ∧
      (∀ i T it (o : AO) μ σ, ts[i]? = some T → J i μ σ → WTg C A env (.Tuple elts x1 tpos) μ ((it, o) :: σ) (.ref T) (fun μ2 σ2 => WB C A env body μ2 σ2 (Turn it o (J (i + 1)) Q))) ∧ (∀ μ σ, J ts.length μ σ → WB C A env orelse μ σ Q)))
    (hf : ∀ x, foldedSetIterable iter env x = pure x) : WS C A env (.For (.Tuple elts x1 tpos) iter body orelse pos) μ σ Q := fun s hs => by
  refine wpAny_For (wpAny_mono (hiter s hs) (fun v s1 h1 => ?_) fun _ _ x => x.elim) hf
  obtain ⟨μ1, σ1, ⟨rfl, a, ts, f, J, ev, hat, hj, hat2, step, done⟩, st⟩ := h1
  rw [can_ref ev]
  obtain ⟨items, n0, e2, hm⟩ := st.list hat
  refine wpAny_pyIter_list ⟨_, e2, rfl, n0, rfl⟩ ?_
  have st2 := st.push (o := .ex "list_iterator" #[.ref a, .int 0 0]) (ob := { cls := .type "list_iterator", data := .fields #[.ref a, .int 0 0] }) ⟨rfl, rfl⟩ rfl
  generalize hit : s1.heap.objs.size = it at st2 ⊢
  have K := Walk_list a (ts.map .ref)
  refine codeAny_mono (codeAny_forLoopT (R := fun r s' => match r with | .ok f => ∃ μ' σ', Q (canF f) μ' σ' ∧ St C env.locals μ' σ' s' | .error e => False)
    (fun n s => ∃ i μ σ, n + i = ts.length ∧ J i μ σ ∧ St C env.locals μ ((it, .ex "list_iterator" #[.ref a, .int (i : Nat) 0]) :: σ) s) (fun n s hI => ?_) ts.length ⟨0, _, _, by wtm_at "om", hj, st2⟩) fun r s' z => ?_
  · obtain ⟨i, μ, σ, hn, hj, hs⟩ := hI
    by_cases hi : i < ts.length
    · have hx : (ts.map Value.ref)[i]? = some (.ref ts[i]) := by simp [hi]
      refine wpAny_mono (K.item (i := i) hx .here (K.more (hat2 _ _ _ hj)) s hs) (fun r s1 h1 => ?_) fun _ _ x => x.elim
      obtain ⟨μ1, σ1, ⟨rfl, hr, rfl⟩, st⟩ := h1
      obtain ⟨v, rfl, hv⟩ := Option.map_eq_some_iff.mp hr
      have hv := can_ref hv
      subst hv
      obtain ⟨ob, e, hc, hd⟩ := st.at At.here
      refine wpAny_letOwnedTupleGo_listiter ⟨ob, e, hc, hd⟩ ?_
      refine wpAny_mono (step i ts[i] it _ μ1 σ (by simp [hi]) hj (.ref ts[i]) rfl s1 st) (fun _ s2 h2 => ?_) fun _ _ x => x.elim
      obtain ⟨μ2, σ2, h2, st2⟩ := h2
      refine wpAny_mono (h2 s2 st2) (fun f s3 h3 => ?_) fun _ _ x => x.elim
      obtain ⟨μ3, σ3, h3, st3⟩ := h3
      cases f with
      | next => obtain ⟨μ', τ, a, b, c⟩ := h3; exact ⟨n - 1, by wtm_at "om", i + 1, μ', τ, by wtm_at "om", c, st3.sub2 a b⟩
      | cont => obtain ⟨μ', τ, a, b, c⟩ := h3; exact ⟨n - 1, by wtm_at "om", i + 1, μ', τ, by wtm_at "om", c, st3.sub2 a b⟩
      | brk => exact ⟨_, _, h3, st3⟩
      | ret v => exact ⟨_, _, h3, st3⟩
    · have hi : i = ts.length := by wtm_at "om"
      subst hi
      refine wpAny_mono (K.fin r.hh (by rw [List.length_map]; exact .here) (by rw [List.length_map]; exact .here) (K.more (hat2 _ _ _ hj)) s hs) (fun r s1 h1 => ?_) fun _ _ x => x.elim
      obtain ⟨μ1, σ1, ⟨rfl, rfl, rfl⟩, st⟩ := h1
      exact wpAny_mono (done _ _ hj s1 st) (fun f s3 h3 => h3) fun _ _ x => x.elim
  · cases r with
    | ok f => exact z
    | error e => exact z.elim
end
noncomputable abbrev Wr.rest (w : Wr) (re : List Addr) (rs rd : Bool) (ρ : Sg) : Sg := (w.tp, .tuple [vS (S nsL), vS (S xmlL)]) :: (w.x, .inst 264 w.d) :: (w.d, .sd (wD w rs rd)) :: (esg re ++ ρ)
section
variable {C : Cx} {A : Around} {L : Addr} {σ ρ : Sg} {n : Nat} {K : Frag} {Q : Value → Sg → Prop}
theorem T_strS {l : List Nat} {Q : Bool → Sg → Prop} (hz : l.length ≤ 1000000) (h : Q (!l.isEmpty) σ) : W1 C A L truthy (vS (S l)) σ Q := T_str (by rw [S_len]; exact hz) (by
  rw [S_len]
  cases l with
  | nil => exact h
  | cons a r => exact h)
theorem C_qname {w : Wr} {q : List Nat} {re : List Addr} {rs rd : Bool} {P : Params} (r : Room A (n + 2)) (T : Tp (DD K) C) (F : KF K) (G : KG K) (D : KD3 K P) (hz : re.length ≤ 1000) (hq : q.take 1 ≠ [123]) (hl : q.length ≤ 1000)
    (h : ∀ a, Q (.ref a) ((a, .tuple [vS (S q), vS (S q), vS (S [])]) :: w.qsg re rs rd ρ)) : WCK C A L (.ref 204) [.ref w.x, vS (S q)] (w.qsg re rs rd ρ) Q := by
  refine WCK_fnD F.wQname D.dQname rfl T ["self", "qname", "uri"] [("uri", .none), ("qname", vS (S q)), ("self", .ref w.x)] r rfl (by (intro pm; refine' ln2 rfl ?_; intro a b; exact ⟨_, rfl, by kernel_rfl⟩)) (by kernel_rfl) (by kernel_rfl) (by kernel_rfl) (by kernel_rfl) (by kernel_rfl) ?_
  intro pm C' L' e T' r'
  refine WB_cons ?_
  wtm_at "one"
  refine WB_last ?_
  refine WS_AssignTg ?_ rfl rfl rfl
  wtm_at "one"
  refine WE_Slice (WO_none (WO_some ?_))
  wtm_at "one"
  refine WO_none fun sl => ?_
  refine item_now PI_str ?_
  refine WG_sliceS (a := 0) (k := min 1 q.length) .here .none (.int 1) (idx_one _) (by wtm_at "om") (by wtm_at "om") ?_
  rw [show (q.drop 0).take (min 1 q.length) = q.take 1 by rw [List.drop_zero]; cases q <;> simp]
  wtm_at "one"
  rw [show decide (S (q.take 1) = S [123]) = false from decide_eq_false fun e => hq (S_inj.mp e)]
  wtm_at "one"
  refine WTg_pair r'.hh .here ?_
  wtm_at "one"
  refine WB_cons ?_
  wtm_at "one"
  refine WC_setNew fun st o ho => ?_
  wtm_at "one"
  refine WB_cons ?_
  refine WS_keepM [("prefixes_seen", .ref st), ("tag", vS (S q)), ("uri", vS (S [])), ("qname", vS (S q)), ("self", .ref w.x)] ((w.ds, .list (.ref w.l0 :: re.reverse.map .ref)) :: (w.l0, .list [.ref w.tp]) :: (st, .obj o) :: w.rest re rs rd ρ) (by wtm_at "lem") (by wtm_at "sub") ?_
  refine WS_ForP (n := n) (r'.le (by wtm_at "om")) ?_ (by intro _; rfl)
  wtm_at "one"
  rw [List.nil_append]
  refine WC_sub (τ := (w.ds, .list (.ref w.l0 :: re.reverse.map .ref)) :: (w.l0, .list [.ref w.tp]) :: (st, .obj o) :: w.rest re rs rd ρ) (by wtm_at "sub") (C_lwalk (n := n) r' T' F hz (fun e he => let ⟨_, x⟩ := At_esg (ρ := ρ) he; ⟨_, .there (.there (.there (.there x)))⟩) fun a => ?_).wc
  refine ⟨a, [w.tp], _, fun i μ σ => ∃ o', SetS C' o' (fun k => decide (0 < i) && decide (k = S xmlL)) i ∧ μ = ([("prefixes_seen", .ref st), ("tag", vS (S q)), ("uri", vS (S [])), ("qname", vS (S q)), ("self", .ref w.x)] : Mu) ∧ σ = (a, .list [.ref w.tp]) :: (w.ds, .list (.ref w.l0 :: re.reverse.map .ref)) :: (w.l0, .list [.ref w.tp]) :: (st, .obj o') :: w.rest re rs rd ρ, rfl, .here, ?_, ?_, ?_, ?_⟩
  · exact ⟨o, ho, rfl, rfl⟩
  · rintro i μ σ ⟨o', _, _, rfl⟩
    exact ⟨_, .here⟩
  · rintro i tp it oo μ σ hx ⟨o', ho', rfl, rfl⟩
    have hi : i = 0 := by
      cases i with
      | zero => rfl
      | succ i => simp at hx
    subst hi
    have hx : tp = w.tp := by simpa using hx.symm
    subst hx
    refine WTg_pair r'.hh (by wtm_at "at") ?_
    wtm_at "one"
    refine WB_cons ?_
    wtm_at "one"
    rw [show decide (S nsL = S []) = false from decide_eq_false fun e => by simpa using S_inj.mp e]
    refine Br_ff ?_
    wtm_at "all"
    refine WM_setAdd (by wtm_at "at") ho' (by wtm_at "om") ?_
    wtm_at "one"
    refine WC_setAdd (by wtm_at "at") ho' (by wtm_at "om") fun o'' ho'' => ?_
    wtm_at "all"
    refine ⟨_, _, ?_, Sub.refl, o'', ?_, rfl, rfl⟩
    · wtm_at "lem"
    · simp only [Nat.lt_irrefl, decide_false, Bool.false_and, Bool.false_or, Bool.false_eq_true, if_false] at ho''
      simpa using ho''
  · rintro μ σ ⟨o', ho', rfl, rfl⟩
    refine WB_nil ?_
    wtm_at "all"
    refine T_strS (by simp) ?_
    refine Br_tt ?_
    wtm_at "one"
    refine C_notInSetS (by wtm_at "at") ho' (by simp) ?_
    wtm_at "one"
    rw [show (!(decide (0 < [w.tp].length) && decide (S [] = S xmlL))) = true by rw [show decide (S [] = S xmlL) = false from decide_eq_false fun e => by simpa using S_inj.mp e]; rfl]
    wtm_at "all"
    exact ret_now (by wtm_at "sub") (h _)
end
section
variable {C : Cx} {A : Around} {L : Addr} {σ ρ : Sg} {n : Nat} {K : Frag} {Q : Value → Sg → Prop}
theorem C_data {w : Wr} {t : Value} {vs : List Value} {rs rd : Bool} (r : Room A (n + 1)) (T : Tp (DD K) C) (F : KF K) (G : KG K) (hz : vs.length ≤ 1000)
    (h : Q .none ((w.dl, .list (vs ++ [t])) :: (w.x, .inst 264 w.d) :: (w.d, .sd (wD w rs rd)) :: ρ)) : WC C A L (.ref 211) [.ref w.x, t] ((w.dl, .list vs) :: (w.x, .inst 264 w.d) :: (w.d, .sd (wD w rs rd)) :: ρ) Q := by
  refine WC_fn F.wData T ["self", "data"] [("data", t), ("self", .ref w.x)] r rfl (by (intro pm; refine' ln2 rfl ?_; intro a b; kernel_rfl)) (by kernel_rfl) (by kernel_rfl) (by kernel_rfl) (by kernel_rfl) (by kernel_rfl) ?_
  intro pm C' L' e T' r'
  refine WB_cons ?_
  wtm_at "all"
  rw [show (!decide ((0 : Int) ≠ 0)) = true from rfl]
  wtm_at "all"
  refine WC_append (vs := vs) (by wtm_at "at") (by wtm_at "om") ?_
  wtm_at "all"
  exact ret_nx (by wtm_at "sub") h
theorem Kp_boundK {p : Addr} {id : String} {self : Value} (T : Tp (DD K) C) (hp : K.lookup p = some (boundOf id self)) : Kp C σ (.ref p) := fun L μ s hs =>
  ⟨.machine, .inr (.inl rfl), (Looks.ld (part := none) (T.X.keeps hs.keep _ _ hp)).andThen .now⟩
/- the data is written: two texts, the page's white sign and its & -/
theorem C_flush {w : Wr} {a b : List Nat} {vs : List Value} {rd : Bool} {P : Params} (r : Room A (n + 2)) (T : Tp (DD K) C) (F : KF K) (G : KG K) (D : KD3 K P) (hz : vs.length ≤ 1000) (hl : a.length + b.length ≤ 100) (hne : a ++ b ≠ []) (out : List Nat)
    (hesc : ∀ {C : Cx} {A : Around} {L : Addr} {σ : Sg} {Q : Value → Sg → Prop}, Room A (n + 1) → Tp (DD K) C → Q (vS (S out)) σ → WC C A L (.ref 275) [vS (S (a ++ b))] σ Q)
    (h : Q .none ((w.dl, .list []) :: (w.pcs, .list (vs ++ [vS (S out)])) :: (w.pb, .obj (boundOf "list.append" (.ref w.pcs))) :: (w.x, .inst 264 w.d) :: (w.d, .sd (wD w true rd)) :: ρ)) :
    WCK C A L (.ref 220) [.ref w.x] ((w.dl, .list [vS (S a), vS (S b)]) :: (w.pcs, .list vs) :: (w.pb, .obj (boundOf "list.append" (.ref w.pcs))) :: (w.x, .inst 264 w.d) :: (w.d, .sd (wD w true rd)) :: ρ) Q := by
  refine WCK_fnD F.wFlush D.dFlush rfl T ["self", "_join_text"] [("_join_text", .ref 212), ("self", .ref w.x)] r rfl (by (intro pm; refine' ln1 rfl ?_; intro a; exact ⟨_, rfl, by kernel_rfl⟩)) (by kernel_rfl) (by kernel_rfl) (by kernel_rfl) (by kernel_rfl) (by kernel_rfl) ?_
  intro pm C' L' e T' r'
  refine WB_cons ?_
  wtm_at "one"
  obtain ⟨tj, hj⟩ := D.join
  refine ⟨Kp_boundK T' hj, ?_⟩
  refine WC_bJoin (xs := [S a, S b]) T' hj At.here (by rw [show ([S a, S b] : List Str) = [a, b].map S from rfl, lit0]; exact joinOk_S (by simp; wtm_at "om")) ?_
  rw [lit0, show ([S a, S b] : List Str) = [a, b].map S from rfl, glued_S, show [a, b].flatten = a ++ b by simp]
  wtm_at "one"
  refine WB_cons ?_
  refine WS_delAll2 (l := w.dl) (f := fun _ => []) (x := vS (S a)) (y := vS (S b)) ?_
  wtm_at "one"
  refine ⟨_, rfl, by wtm_at "at", ?_⟩
  wtm_at "all"
  refine T_strS (by simp; wtm_at "om") ?_
  rw [show (!(a ++ b).isEmpty) = true by cases hc : a ++ b with | nil => exact absurd hc hne | cons _ _ => rfl]
  wtm_at "all"
  refine hesc r' T' ?_
  wtm_at "all"
  refine call_now (Kp_bound (by wtm_at "at")) ?_
  rw [List.nil_append]
  refine WC_bAppend (vs := vs) (by wtm_at "at") (by wtm_at "at") (by wtm_at "om") ?_
  wtm_at "all"
  exact ret_nx (by wtm_at "sub") h
end
section
variable {C : Cx} {A : Around} {L : Addr} {σ ρ : Sg} {n : Nat} {K : Frag} {Q : Value → Sg → Prop}
/- as WCK_fnC, the last parameter by default -/
theorem WCK_fnCD {n : Nat} {f c d : Addr} {s : Stmt} {name qual : Str} {args : List Value} {v : Value} (H : HasFn K f c s name qual (.ref d) .none) (hd : K.lookup d = some { cls := .type "tuple", data := .seq #[v] }) (hv : can v = v) (T : Tp (DD K) C) (xs : List Str) (μ0 : Mu) (cl : Addr → List (Str × Addr)) (cs : Addr → Sg) (r : Room A (n + 1))
    (hμ : localsV (scopeOf s).names (xs.zip (args ++ [v])) = μ0) (hcl : ∀ L', cellsFrom (L' + 1) (scopeOf s).names [] = cl L') (hcs : ∀ L', ((cl L').map fun p => (p.2, AO.cell ((xs.zip (args ++ [v])).reverse.lookup p.1))) = cs L')
    (hbind : ∀ pm, ∀ as : List Value, as.length = args.length → ∃ k, bindArgs (fdOf s name qual pm c (.ref d) .none) ⟨as, []⟩ = seqItems? (.ref d) >>= k ∧ k (some #[v]) = pure (xs.zip (as ++ [v])))
    (cn : List Str) (hn1 : ∀ L', (cl L').map (·.1) = cn) (hkind : (xs.all fun x => (scopeOf s).names.lookup x == some .local || ((scopeOf s).names.lookup x == some .cell && cn.contains x)) = true)
    (hn2 : (cn.all fun x => (scopeOf s).names.lookup x != some .local) = true) (hn3 : cn.Nodup)
    (hco : (scopeOf s).isCoroutine = false) (hgen : (scopeOf s).isGenerator = false) (hk : (scopeOf s).kind = .function)
    (h : ∀ pm C' L', C.Le C' → Tp (DD K) C' → Room (A.deeper (callEnvC (fdOf s name qual pm c (.ref d) .none) L' f)) n → (callEnvC (fdOf s name qual pm c (.ref d) .none) L' f).cells = cl L' →
      WB C' (A.deeper (callEnvC (fdOf s name qual pm c (.ref d) .none) L' f)) (callEnvC (fdOf s name qual pm c (.ref d) .none) L' f) (bodyOf s) μ0 (cs L' ++ σ) (fun fl _ σ' => Ret Q (retV fl) σ')) : WCK C A L (.ref f) args σ Q := by
  obtain ⟨pm, oc, od, osl, hK, hc⟩ := H
  intro μ as e
  have e2 : (as ++ [v]).map can = args ++ [v] := by rw [List.map_append, e]; simp [hv]
  refine WK_call_cells (binds := xs.zip (as ++ [v])) r T.lim (FnAt.of T hK hc) rfl rfl (fun s' hs => ?_) (fun L' x hx => ?_) (fun L' x a hx => ?_) (fun C' L' l r' => ?_) hco hgen hk
  · obtain ⟨kk, h1, h2⟩ := hbind pm as (by rw [← e]; simp)
    exact BindsTo.of_defaults rfl (T.X.keeps hs.keep _ _ hd) rfl h1 h2
  · have hm := (List.of_mem_zip (a := x.1) (b := x.2) hx).1
    have h1 := List.all_eq_true.mp hkind x.1 hm
    show (scopeOf s).names.lookup x.1 = _ ∨ ((scopeOf s).names.lookup x.1 = _ ∧ ((cellsFrom (L' + 1) (scopeOf s).names []).lookup x.1).isSome = true)
    rw [hcl]
    simp only [Bool.or_eq_true, beq_iff_eq, Bool.and_eq_true, List.contains_iff_mem] at h1
    rcases h1 with h1 | ⟨h1, h2⟩
    · exact .inl h1
    · refine .inr ⟨h1, ?_⟩
      rw [← hn1 L'] at h2
      obtain ⟨p, hp, e⟩ := List.mem_map.mp h2
      rw [← e]
      exact lookup_some hp
  · have hx : (x, a) ∈ cl L' := by rw [← hcl]; exact hx
    have h1 := List.all_eq_true.mp hn2 x (by rw [← hn1 L']; exact List.mem_map_of_mem (f := (·.1)) hx)
    show (scopeOf s).names.lookup x ≠ _ ∧ (cellsFrom (L' + 1) (scopeOf s).names []).lookup x = _
    rw [hcl]
    exact ⟨by simpa using h1, lookup_nodup (by rw [hn1]; exact hn3) hx⟩
  · have z := h pm C' L' l (T.le l) r' (by
      show (cellsFrom (L' + 1) (scopeOf s).names []) = _
      exact hcl L')
    rw [localsV_eq e2, cellsV_eq e2]
    show WB C' _ _ _ (localsV (scopeOf s).names (xs.zip (args ++ [v]))) (cellsV L' (scopeOf s).names (xs.zip (args ++ [v])) ++ σ) _
    unfold cellsV
    rw [hμ, hcl, hcs]
    exact z
/- the writer, as a tag begins or ends -/
noncomputable abbrev Wr.tsg (w : Wr) (re : List Addr) (rs rd : Bool) (dv vs nv pv : List Value) (ρ : Sg) : Sg := (w.ds, .list (.ref w.l0 :: re.reverse.map .ref)) :: (w.l0, .list [.ref w.tp]) :: (w.tp, .tuple [vS (S nsL), vS (S xmlL)]) :: (w.x, .inst 264 w.d) :: (w.d, .sd (wD w rs rd)) :: (w.dl, .list dv) :: (w.pcs, .list vs) :: (w.pb, .obj (boundOf "list.append" (.ref w.pcs))) :: (w.ns, .list nv) :: (w.ps, .list pv) :: (esg re ++ ρ)
theorem T_sdNil {a : Addr} {f : AO → Sg} {Q : Bool → Sg → Prop} (T : Tp (DD K) C) (ks : KS K) (x : At σ a (.sd []) f) (h : Q false σ) : W1 C A L truthy (.ref a) σ Q := fun μ a' ea => W_by fun s hs Q' q => by
  rw [can_ref ea]
  obtain ⟨ob, e, es, n, rfl, E⟩ := hs.at x
  have hes : es = [] := by cases es with | nil => rfl | cons _ _ => cases E
  subst hes
  exact wpAny_truthy_dict (knd := strKind C.prog C.w) (kvs := []) (ks.ne T hs x) ⟨_, #[], n, e, ⟨rfl, rfl, rfl⟩, rfl, fun e he => by simp at he, by constructor, by simp⟩ (by simp) (q _ _ _ _ ⟨rfl, h⟩ hs.toks)
theorem Kp_meth {p fn : Addr} {self : Value} {f : AO → Sg} (T : Tp (DD K) C) (hf : fnIn K fn = true) (x : At σ p (.obj (methodObj (.ref fn) self)) f) : Kp C σ (.ref p) := fun L μ s hs => keeps_M hf s.heap ⟨hs.obj x, T.X.keeps hs.keep⟩
theorem WC_meth {p fn : Addr} {self : Value} {args : List Value} {f : AO → Sg} (x : At σ p (.obj (methodObj (.ref fn) self)) f) (hv : can self = self) (h : WCK C A L (.ref fn) (self :: args) σ Q) : WC C A L (.ref p) args σ Q := fun μ as e =>
  WK.run fun s hs => method_call (hs.obj x) (h μ (self :: as) (by rw [List.map_cons, e, hv]) s hs)
theorem HasFn.fn {f c : Addr} {s : Stmt} {name qual : Str} {dv kv : Value} (h : HasFn K f c s name qual dv kv) : fnIn K f = true := by
  obtain ⟨pm, oc, od, osl, h, _⟩ := h
  unfold fnIn
  rw [h]
end
theorem sub_swap {p : Addr × AO} {ρ : Sg} : ∀ {l : Sg}, Sub (l ++ p :: ρ) (p :: (l ++ ρ))
  | [] => .refl
  | (a, o) :: r => .cons (.there .here) sub_swap
theorem Pull.of_mem {a : Addr} {o : AO} : ∀ {σ : Sg}, (a, o) ∈ σ → ∃ r, Pull σ a o r
  | p :: σ, h => by
    rcases List.mem_cons.mp h with e | h
    · subst e; exact ⟨_, .here⟩
    · obtain ⟨r, x⟩ := Pull.of_mem h
      exact ⟨_, .there x⟩
theorem Sub.of_perm : ∀ {τ σ r : Sg}, (τ ++ r).Perm σ → Sub τ σ
  | [], _, _, _ => .nil
  | (a, o) :: τ, σ, r, h => by
    obtain ⟨q, x⟩ := Pull.of_mem (h.subset (.head _))
    exact .cons x (Sub.of_perm (r := r) ((List.perm_cons (a, o)).mp (h.trans x.perm.symm)))
theorem Sub.trans {a b c : Sg} (h : Sub a b) (k : Sub b c) : Sub a c := by
  obtain ⟨r, x⟩ := h.perm
  obtain ⟨q, y⟩ := k.perm
  exact .of_perm (r := r ++ q) (by rw [← List.append_assoc]; exact (x.append_right q).trans y)
theorem sub_mid {re : List Addr} {τ σ r : Sg} {a : Addr} {o : AO} (h : Pull σ a o r) (k : Sub (esg re ++ τ) r) : Sub (esg re ++ (a, o) :: τ) σ := sub_swap.trans (.cons h k)
theorem At.app {ρ : Sg} {a : Addr} {o : AO} {f : AO → Sg} (x : At ρ a o f) : ∀ l : Sg, ∃ g, At (l ++ ρ) a o g
  | [] => ⟨_, x⟩
  | p :: r => let ⟨_, y⟩ := x.app r; ⟨_, .there y⟩
theorem WE_post {C : Cx} {A : Around} {env : Env} {e : Expr} {μ : Mu} {σ : Sg} {Q : Value → Sg → Prop} (h : WE C A env e μ σ (fun v σ1 => ∃ τ, Sub τ σ1 ∧ Q v τ)) : WE C A env e μ σ Q := fun s hs =>
  wpAny_mono (h s hs) (fun v s1 h1 => let ⟨μ1, _, ⟨e, τ, hτ, q⟩, st⟩ := h1; ⟨μ1, τ, ⟨e, q⟩, st.sub hτ⟩) fun _ _ x => x.elim
noncomputable abbrev lamTab (c' : Addr) : Array Value := #[rawInt ((203 : Nat) : Int), rawInt ((71 : Nat) : Int), .ref c']
/- the lambda's table: nothing yet, or its code -/
noncomputable def LamOk (ps : Array Value) (ρ : Sg) : Prop := ps = #[] ∨ ∃ c' oc g, ps = lamTab c' ∧ At ρ c' (.obj oc) g ∧ IsRec oc "C14NWriterTarget._start.<locals>.<lambda>"
noncomputable def LamNew (ps ps' : Array Value) (ex : Sg) : Prop := (ex = [] ∧ ps' = ps) ∨ ∃ c' oc, ex = [(c', .obj oc)] ∧ ps' = lamTab c' ∧ IsRec oc "C14NWriterTarget._start.<locals>.<lambda>"
theorem LamNew.ok {ps ps' : Array Value} {ex ρ : Sg} (h : LamNew ps ps' ex) (k : LamOk ps ρ) : LamOk ps' (ex ++ ρ) := by
  rcases h with ⟨rfl, rfl⟩ | ⟨c', oc, rfl, rfl, hr⟩
  · exact k
  · exact .inr ⟨c', oc, _, rfl, .here, hr⟩
theorem WE_lam2 {C : Cx} {A : Around} {env : Env} {K : Frag} {Q : Value → Sg → Prop} {params : Arguments} {body : Expr} {scope : Scope} {pos : Pos} {cn : Str} {cs : Scope} {a : Addr} {cl clos : List (Str × Addr)} {ps : Array Value} {pre ρ : Sg} {μ : Mu} (T : Tp (DD K) C) (KT : KT K)
    (henv : env = envX cn cs env.locals a (.ref 239) cl) (hcl : closureFor scope env = pure clos) (hdef : defaultsOf params env = ([], [])) (hq : env.qual ++ "<lambda>" = "C14NWriterTarget._start.<locals>.<lambda>") (hpos : pos.line = 203 ∧ pos.col = 71) (hL : LamOk ps ρ)
    (h : ∀ f c' oc pm ctv ex g, LamNew ps (lamTab c') ex → At (ex ++ ρ) c' (.obj oc) g → IsRec oc "C14NWriterTarget._start.<locals>.<lambda>" → Q (.ref f) ((f, .obj (kla_obj "<lambda>" "C14NWriterTarget._start.<locals>.<lambda>" params body scope clos pm c' ctv)) :: (237, .obj (tabObj (lamTab c'))) :: (pre ++ (ex ++ ρ)))) :
    WE C A env (.Lambda params body scope pos) μ ((237, .obj (tabObj ps)) :: (pre ++ ρ)) Q := by
  rcases hL with rfl | ⟨c', oc, g, rfl, hc, hr⟩
  · refine WE_post (WE_Lam T KT.sta henv At.here (by first | trivial | exact True.intro) rfl hcl hdef fun f c' oc pm ctv hr => ?_)
    rw [hq] at hr ⊢
    refine ⟨_, ?_, h f c' oc pm ctv [(c', .obj oc)] _ (.inr ⟨c', oc, rfl, rfl, hr⟩) .here hr⟩
    rw [hpos.1, hpos.2]
    exact .cons .here (.cons (.there .here) sub_swap)
  · refine WE_LamHit (c' := c') T KT.sta henv At.here (by first | trivial | exact ⟨rfl, rfl, trivial⟩ | exact True.intro) (by show codeAmong pos [_, _, _] = _; unfold codeAmong; rw [hpos.1, hpos.2]; rfl) hcl hdef fun f pm ctv => ?_
    rw [hq]
    exact h f c' oc pm ctv [] g (.inl ⟨rfl, rfl⟩) hc hr
theorem Pull.app {ρ r : Sg} {a : Addr} {o : AO} (x : Pull ρ a o r) : ∀ {re : List Addr}, Pull (esg re ++ ρ) a o (esg re ++ r)
  | [] => x
  | _ :: _ => .there (Pull.app x)
theorem At.esg {ρ : Sg} {a : Addr} {o : AO} {f : AO → Sg} (x : At ρ a o f) : ∀ {re : List Addr}, At (esg re ++ ρ) a o (fun o' => esg re ++ f o')
  | [] => x
  | _ :: _ => .there (At.esg x)
theorem Sub.esgc {e : Addr} {re : List Addr} {τ σ : Sg} (h : Sub ((e, .list []) :: (esg re ++ τ)) σ) : Sub (esg (e :: re) ++ τ) σ := h
section
variable {C : Cx} {A : Around} {L : Addr} {σ ρ : Sg} {n : Nat} {K : Frag} {Q : Value → Sg → Prop}
noncomputable abbrev Wr.ssg (w : Wr) (re : List Addr) (rs rd : Bool) (dv vs nv pv : List Value) (at_ nw c' cs : Addr) (ρ : Sg) : Sg := (237, .obj (tabObj (lamTab c'))) :: (cs, .cell (some (.ref w.x))) :: (at_, .sd []) :: w.tsg re rs rd dv vs nv pv ρ
theorem WCK_sub {f : Value} {vs : List Value} {τ : Sg} (h : Sub τ σ) (k : WCK C A L f vs τ Q) : WCK C A L f vs σ Q := fun μ as e s hs => k μ as e s (hs.sub h)
theorem C_start2 {w : Wr} {q : List Nat} {re : List Addr} {rs rd : Bool} {P : Params} {at_ nw : Addr} {dv vs nv pv : List Value} {b : Value} {ps : Array Value} (r : Room A (n + 5)) (T : Tp (DD K) C) (F : KF K) (G : KG K) (D0 : KD3 K P) (KT : KT K) (ks : KS K) (hz : re.length ≤ 1000) (hq : q.take 1 ≠ [123]) (hl : q.length ≤ 1000) (hL : LamOk ps ρ) (hnw : nw ∈ re) (hzp : pv.length ≤ 1000) (hzn : nv.length ≤ 1000) (hzv : vs.length ≤ 1000)
    (h : ∀ ps' ex e, LamNew ps ps' ex → Q .none ((237, .obj (tabObj ps')) :: w.tsg re true rd dv (vs ++ [vS (S ([60] ++ q))] ++ [vS (S [62])]) (nv ++ [.ref e]) (pv ++ [b] ++ [b]) (ex ++ ρ))) :
    WCK C A L (.ref 240) [.ref w.x, vS (S q), .ref at_, .ref nw] ((237, .obj (tabObj ps)) :: (at_, .sd []) :: w.tsg re rs rd dv vs nv (pv ++ [b]) ρ) Q := by
  refine WCK_fnCD F.wStart2 D0.dStart rfl T ["self", "tag", "attrs", "new_namespaces", "qname_text"] [("qname_text", .none), ("new_namespaces", .ref nw), ("attrs", .ref at_), ("tag", vS (S q))] (fun L' => [("parse_qname", L' + 2), ("self", L' + 1)]) (fun L' => [(L' + 2, .cell none), (L' + 1, .cell (some (.ref w.x)))]) r (by kernel_rfl) (by intro; kernel_rfl) (by intro; kernel_rfl) (by (intro pm; refine' ln4 rfl ?_; intro a b d f; exact ⟨_, rfl, by kernel_rfl⟩)) ["parse_qname", "self"] (by intro; rfl) (by kernel_rfl) (by kernel_rfl) (by decide +kernel) (by kernel_rfl) (by kernel_rfl) (by kernel_rfl) ?_
  intro pm C' L' l T' r' hcl
  refine WB_cons ?_
  dsimp only [List.cons_append, List.nil_append]
  wtm_at "one"
  refine WB_cons ?_
  refine WS_Assign ?_
  refine WE_SetStar (x := S q) (d := at_) T' ks r'.hh ks.cst (by rfl) ?_ ?_ (by wtm_at "at") fun st t => ?_
  · intro σ' Q' hq'
    wtm_at "one"
    exact hq'
  · intro σ' Q' hq'
    wtm_at "one"
    exact hq'
  wtm_at "all"
  wtm_at "one"
  refine WA_met T' G.wri G.wriQname (by wtm_at "at") (by wtm_at "at") (by kernel_rfl) (by kernel_rfl) fun bm => ?_
  wtm_at "all"
  rename_i rn
  refine WS_keepM [("qattrs", .none), ("resolved_names", .ref rn), ("qnames", .ref st), ("new_namespaces", .ref nw), ("attrs", .ref at_), ("tag", vS (S q)), ("qname_text", .none)] ((237, .obj (tabObj ps)) :: (st, .obj (set1 C'.w (S q) t)) :: (bm, .obj (methodObj (.ref 204) (.ref w.x))) :: (L' + 2, .cell (some (.ref bm))) :: (L' + 1, .cell (some (.ref w.x))) :: (at_, .sd []) :: w.tsg re rs rd dv vs nv (pv ++ [b]) ρ) (by wtm_at "lem") (by wtm_at "sb") ?_
  refine WS_DictComp1 (n := n + 4) (a := vS (S q)) (cl := [("parse_qname", L' + 2)]) r' (by rfl) (by rfl) (by kernel_rfl) (by kernel_rfl) (by kernel_rfl) (by kernel_rfl) (by kernel_rfl) ?_ (by intro _; rfl) (by intro _ _; rfl)
  refine WE_sorted (g := fun _ => []) (x := S q) (t := t) (a := st) r' ?_ ?_ (by rfl) ?_
  · intro Q' hq'
    wtm_at "one"
    exact hq'
  · intro Q' hq'
    wtm_at "one"
    exact hq'
  refine WE_lam2 (pre := (st, .obj (set1 C'.w (S q) t)) :: (bm, .obj (methodObj (.ref 204) (.ref w.x))) :: (L' + 2, .cell (some (.ref bm))) :: (L' + 1, .cell (some (.ref w.x))) :: (at_, .sd []) :: (w.ds, .list (.ref w.l0 :: re.reverse.map .ref)) :: (w.l0, .list [.ref w.tp]) :: (w.tp, .tuple [vS (S nsL), vS (S xmlL)]) :: (w.x, .inst 264 w.d) :: (w.d, .sd (wD w rs rd)) :: (w.dl, .list dv) :: (w.pcs, .list vs) :: (w.pb, .obj (boundOf "list.append" (.ref w.pcs))) :: (w.ns, .list nv) :: (w.ps, .list (pv ++ [b])) :: esg re) (ρ := ρ) T' KT rfl rfl rfl (by kernel_rfl) ⟨rfl, rfl⟩ hL ?_
  intro f c' oc pm2 ctv ex g hs hat hrec
  obtain ⟨ρ', hρ⟩ : ∃ ρ', ρ' = ex ++ ρ := ⟨_, rfl⟩
  rw [← hρ] at hat ⊢
  have h' := h (lamTab c') ex
  rw [← hρ] at h'
  refine ⟨f, _, rfl, .there (.there .here), fun kS D oD => ?_⟩
  obtain ⟨g2, hat2⟩ := hat.app (esg re)
  dsimp only [List.cons_append]
  refine' WCK.wc (WCK_lam (n := n) ["n"] [("n", vS (S q))] ((r'.in1.in1).le (by wtm_at "om")) T'.lim (FnAt.made (.there (.there .here)) ?y hrec rfl) rfl rfl (by refine' ln1 rfl ?_; intro a; kernel_rfl) (by kernel_rfl) (by kernel_rfl) rfl rfl rfl ?_)
  case y => (repeat' (first | exact hat2 | refine' At.there ?_))
  intro C2 L2 l2 r2
  wtm_at "one"
  refine WM_str PySem.F.slot_str_split PySem.F.type_str_split ?_
  wtm_at "one"
  refine WC_split1 (by rfl) (by rw [S_len]; wtm_at "om") fun sp vs2 => ?_
  refine ⟨_, .skip .refl, (bm, .obj (methodObj (.ref 204) (.ref w.x))) :: (L' + 2, .cell (some (.ref bm))) :: w.ssg re rs rd dv vs nv (pv ++ [b]) at_ nw c' (L' + 1) ρ', by wtm_at "sb", ?_⟩
  refine ⟨fun σ => ∃ g, At σ D (.list [vS (S q)]) g, ItS_list .here, ⟨_, .here⟩, fun C3 L3 it D3 o l3 => ?_⟩
  have T3 := T'.le l3
  refine WTg_name ?_
  wtm_at "one"
  refine WE_cel ?_ (cl := [("parse_qname", L' + 2)]) rfl LookIn.here (by wtm_at "at") ?a ?b ?c
  case a => kernel_rfl
  case c => kernel_rfl
  case b => rfl
  wtm_at "one"
  refine call_now (Kp_meth T3 F.wQname.fn (by wtm_at "at")) ?_
  refine WC_meth (by wtm_at "at") rfl ?_
  refine WCK_sub (τ := w.qsg re rs rd ((it, o) :: (D3, .sd []) :: (D, .list [vS (S q)]) :: (237, .obj (tabObj (lamTab c'))) :: (L' + 1, .cell (some (.ref w.x))) :: (at_, .sd []) :: (w.dl, .list dv) :: (w.pcs, .list vs) :: (w.pb, .obj (boundOf "list.append" (.ref w.pcs))) :: (w.ns, .list nv) :: (w.ps, .list (pv ++ [b])) :: ρ')) (by wtm_at "sb") (C_qname (n := n + 2) r' T3 F G D0 hz hq hl fun tq => ?_)
  refine ⟨S q, (D, .list [vS (S q)]) :: (tq, .tuple [vS (S q), vS (S q), vS (S [])]) :: w.ssg re rs rd dv vs nv (pv ++ [b]) at_ nw c' (L' + 1) ρ', rfl, by wtm_at "sb", ⟨_, .here⟩, fun od fm hm hf => ?_⟩
  wtm_at "all"
  obtain ⟨fnw, atn⟩ := At_esg (ρ := ρ') hnw
  refine' T_list (vs := []) ?xn (by simp) ?_
  case xn => (repeat' (first | exact atn | refine' At.there ?_))
  refine Br_ff ?_
  wtm_at "all"
  refine T_sdNil T' ks (by wtm_at "at") ?_
  wtm_at "all"
  refine WM_sd (by wtm_at "at") PySem.F.slot_dict_get PySem.F.type_dict_get ?_
  wtm_at "all"
  refine WC_getSd T' ks (by wtm_at "at") ?_
  rw [show (getS (S [123, 104, 116, 116, 112, 58, 47, 47, 119, 119, 119, 46, 119, 51, 46, 111, 114, 103, 47, 88, 77, 76, 47, 49, 57, 57, 56, 47, 110, 97, 109, 101, 115, 112, 97, 99, 101, 125, 115, 112, 97, 99, 101]) ([] : List (Str × Value))).getD Value.none = Value.none from rfl]
  wtm_at "all"
  refine WG_last (by wtm_at "at") ?_
  wtm_at "one"
  refine WC_append (vs := pv ++ [b]) (by wtm_at "at") (by simp; wtm_at "om") ?_
  wtm_at "all"
  refine item_now (PI_mapO (by wtm_at "at") hm) ?_
  refine WG_mapO (by wtm_at "at") hm hf ?_
  wtm_at "all"
  refine WG_tuple (i := 0) (by wtm_at "at") (by wtm_at "om") rfl ?_
  wtm_at "all"
  refine call_now (Kp_bound (by wtm_at "at")) ?_
  refine WC_bAppend (vs := vs) (by wtm_at "at") (by wtm_at "at") (by wtm_at "om") ?_
  wtm_at "all"
  refine T_list (by wtm_at "at") (by simp) ?_
  refine Br_ff ?_
  wtm_at "all"
  refine call_now (Kp_bound (by wtm_at "at")) ?_
  refine WC_bAppend (vs := vs ++ [_]) (by wtm_at "at") (by wtm_at "at") (by simp; wtm_at "om") ?_
  wtm_at "all"
  rename_i e1 e2
  refine WC_append (vs := nv) (by wtm_at "at") (by wtm_at "om") ?_
  wtm_at "all"
  exact ret_nx (by wtm_at "sb") (h' _ hs)
end
theorem esg_cons {a : Addr} {re : List Addr} {ρ : Sg} : esg (a :: re) ++ ρ = (a, .list []) :: (esg re ++ ρ) := rfl
section
variable {C : Cx} {A : Around} {L : Addr} {σ ρ : Sg} {n : Nat} {K : Frag} {Q : Value → Sg → Prop}
noncomputable def EscOk (K : Frag) (x out : List Nat) : Prop := ∀ {n : Nat} {C : Cx} {A : Around} {L : Addr} {σ : Sg} {Q : Value → Sg → Prop}, Room A (n + 1) → Tp (DD K) C → Q (vS (S out)) σ → WC C A L (.ref 275) [vS (S x)] σ Q
/- what waits, and the page before and behind its telling -/
noncomputable def Told (K : Frag) (rs : Bool) (dv vs vs1 : List Value) : Prop := (dv = [] ∧ vs1 = vs) ∨ ∃ a b out, dv = [vS (S a), vS (S b)] ∧ vs1 = vs ++ [vS (S out)] ∧ rs = true ∧ a.length + b.length ≤ 100 ∧ a ++ b ≠ [] ∧ EscOk K (a ++ b) out
/- a tag begins -/
theorem C_start {w : Wr} {q : List Nat} {re : List Addr} {rs rd : Bool} {P : Params} {at_ : Addr} {dv vs vs1 nv pv : List Value} {b : Value} {ps : Array Value} (r : Room A (n + 6)) (T : Tp (DD K) C) (F : KF K) (G : KG K) (D0 : KD3 K P) (KT : KT K) (ks : KS K) (hz : re.length ≤ 900) (hq : q.take 1 ≠ [123]) (hl : q.length ≤ 1000) (hL : LamOk ps ρ) (hzp : pv.length ≤ 1000) (hzn : nv.length ≤ 1000) (hzv : vs.length ≤ 900) (ht : Told K rs dv vs vs1)
    (h : ∀ nw ps' ex e, LamNew ps ps' ex → Q .none ((237, .obj (tabObj ps')) :: w.tsg (nw :: re) true rd [] (vs1 ++ [vS (S ([60] ++ q))] ++ [vS (S [62])]) (nv ++ [.ref e]) (pv ++ [b] ++ [b]) (ex ++ ρ))) :
    WC C A L (.ref 234) [.ref w.x, vS (S q), .ref at_] ((237, .obj (tabObj ps)) :: (at_, .sd []) :: w.tsg re rs rd dv vs nv (pv ++ [b]) ρ) Q := by
  refine WC_fn F.wStart T ["self", "tag", "attrs"] [("attrs", .ref at_), ("tag", vS (S q)), ("self", .ref w.x)] r rfl (by (intro pm; refine' ln3 rfl ?_; intro a b d; kernel_rfl)) (by kernel_rfl) (by kernel_rfl) (by kernel_rfl) (by kernel_rfl) (by kernel_rfl) ?_
  intro pm C' L' l T' r'
  have hz1 : vs1.length ≤ 1000 := by
    rcases ht with ⟨_, rfl⟩ | ⟨_, _, _, _, rfl, _⟩
    · wtm_at "om"
    · simp; wtm_at "om"
  refine WB_cons ?_
  wtm_at "one"
  refine WB_cut [("attrs", .ref at_), ("tag", vS (S q)), ("self", .ref w.x)] ((237, .obj (tabObj ps)) :: (at_, .sd []) :: w.tsg re rs rd [] vs1 nv (pv ++ [b]) ρ) ?_ ?_
  · rcases ht with ⟨rfl, rfl⟩ | ⟨a, b', out, rfl, rfl, rfl, h1, h2, h3⟩
    · wtm_at "one"
      refine T_list (by wtm_at "at") (by simp) ?_
      refine Br_ff ?_
      wtm_at "all"
      exact ⟨rfl, by wtm_at "lem", by wtm_at "sb"⟩
    · wtm_at "one"
      refine T_list (by wtm_at "at") (by simp) ?_
      refine Br_tt ?_
      wtm_at "all"
      refine WC_sub (τ := (w.dl, .list [vS (S a), vS (S b')]) :: (w.pcs, .list vs) :: (w.pb, .obj (boundOf "list.append" (.ref w.pcs))) :: (w.x, .inst 264 w.d) :: (w.d, .sd (wD w true rd)) :: (237, .obj (tabObj ps)) :: (at_, .sd []) :: (w.ds, .list (.ref w.l0 :: re.reverse.map .ref)) :: (w.l0, .list [.ref w.tp]) :: (w.tp, .tuple [vS (S nsL), vS (S xmlL)]) :: (w.ns, .list nv) :: (w.ps, .list (pv ++ [b])) :: (esg re ++ ρ)) (by wtm_at "sb") (C_flush (n := n + 3) r' T' F G D0 (by wtm_at "om") h1 h2 out h3 ?_).wc
      wtm_at "all"
      exact ⟨rfl, by wtm_at "lem", by wtm_at "sb"⟩
  wtm_at "all"
  rename_i nw
  refine WC_append (vs := .ref w.l0 :: re.reverse.map .ref) (by wtm_at "at") (by simp; wtm_at "om") ?_
  rw [show ((.ref w.l0 :: re.reverse.map .ref) ++ [.ref nw] : List Value) = .ref w.l0 :: (nw :: re).reverse.map .ref by simp]
  wtm_at "all"
  refine WC_sub (τ := (237, .obj (tabObj ps)) :: (at_, .sd []) :: w.tsg (nw :: re) rs rd [] vs1 nv (pv ++ [b]) ρ) (by wtm_at "sb") (C_start2 (n := n) r' T' F G D0 KT ks (by simp; wtm_at "om") hq hl hL (.head _) hzp hzn hz1 fun ps' ex e hs => ?_).wc
  wtm_at "all"
  exact ret_nx (by wtm_at "sb") (h nw ps' ex e hs)
end
section
variable {C : Cx} {A : Around} {L : Addr} {σ ρ : Sg} {n : Nat} {K : Frag} {Q : Value → Sg → Prop}
/- a tag ends -/
theorem C_end {w : Wr} {q : List Nat} {re : List Addr} {nw : Addr} {rd : Bool} {P : Params} {dv vs vs1 nv pv : List Value} {b e : Value} (r : Room A (n + 6)) (T : Tp (DD K) C) (F : KF K) (G : KG K) (D0 : KD3 K P) (KT : KT K) (ks : KS K) (hz : re.length ≤ 900) (hq : q.take 1 ≠ [123]) (hl : q.length ≤ 1000) (hzp : pv.length ≤ 1000) (hzn : nv.length ≤ 1000) (hzv : vs.length ≤ 900) (ht : Told K true dv vs vs1)
    (h : Q .none (w.tsg re true (decide ((pv.length : Int) = 1)) [] (vs1 ++ [vS (S ([60, 47] ++ q ++ [62]))]) nv pv ρ)) :
    WC C A L (.ref 247) [.ref w.x, vS (S q)] (w.tsg (nw :: re) true rd dv vs (nv ++ [e]) (pv ++ [b]) ρ) Q := by
  obtain ⟨re2, hre⟩ : ∃ re2, re2 = nw :: re := ⟨_, rfl⟩
  have hz2 : re2.length ≤ 1000 := by rw [hre]; simp; wtm_at "om"
  rw [← hre]
  refine WC_fn F.wEnd T ["self", "tag"] [("tag", vS (S q)), ("self", .ref w.x)] r rfl (by (intro pm; refine' ln2 rfl ?_; intro a b; kernel_rfl)) (by kernel_rfl) (by kernel_rfl) (by kernel_rfl) (by kernel_rfl) (by kernel_rfl) ?_
  intro pm C' L' l T' r'
  have hz1 : vs1.length ≤ 1000 := by
    rcases ht with ⟨_, rfl⟩ | ⟨_, _, _, _, rfl, _⟩
    · wtm_at "om"
    · simp; wtm_at "om"
  refine WB_cons ?_
  wtm_at "one"
  refine Br_ff ?_
  wtm_at "one"
  refine WB_cut [("tag", vS (S q)), ("self", .ref w.x)] (w.tsg re2 true rd [] vs1 (nv ++ [e]) (pv ++ [b]) ρ) ?_ ?_
  · rcases ht with ⟨rfl, rfl⟩ | ⟨a, b', out, rfl, rfl, _, h1, h2, h3⟩
    · wtm_at "one"
      refine T_list (by wtm_at "at") (by simp) ?_
      refine Br_ff ?_
      wtm_at "all"
      exact ⟨rfl, by wtm_at "lem", by wtm_at "sb"⟩
    · wtm_at "one"
      refine T_list (by wtm_at "at") (by simp) ?_
      refine Br_tt ?_
      wtm_at "all"
      refine WC_sub (τ := (w.dl, .list [vS (S a), vS (S b')]) :: (w.pcs, .list vs) :: (w.pb, .obj (boundOf "list.append" (.ref w.pcs))) :: (w.x, .inst 264 w.d) :: (w.d, .sd (wD w true rd)) :: (w.ds, .list (.ref w.l0 :: re2.reverse.map .ref)) :: (w.l0, .list [.ref w.tp]) :: (w.tp, .tuple [vS (S nsL), vS (S xmlL)]) :: (w.ns, .list (nv ++ [e])) :: (w.ps, .list (pv ++ [b])) :: (esg re2 ++ ρ)) (by wtm_at "sb") (C_flush (n := n + 3) r' T' F G D0 (by wtm_at "om") h1 h2 out h3 ?_).wc
      wtm_at "all"
      exact ⟨rfl, by wtm_at "lem", by wtm_at "sb"⟩
  wtm_at "all"
  refine WE_Joined (WJ_cons ?_)
  wtm_at "one"
  refine ⟨_, rfl, by simp, WJ_cons ?_⟩
  refine WE_Formatted ?_
  wtm_at "one"
  refine WC_sub (τ := w.qsg re2 true rd ((w.dl, .list []) :: (w.pcs, .list vs1) :: (w.pb, .obj (boundOf "list.append" (.ref w.pcs))) :: (w.ns, .list (nv ++ [e])) :: (w.ps, .list (pv ++ [b])) :: ρ)) (by wtm_at "sb") (C_qname (n := n + 3) r' T' F G D0 hz2 hq hl fun tq => ?_).wc
  wtm_at "one"
  refine WG_tuple (i := 0) (by wtm_at "at") (by wtm_at "om") rfl ?_
  refine ⟨_, rfl, by wtm_at "om", _, rfl, by simp; wtm_at "om", WJ_cons ?_⟩
  wtm_at "one"
  refine ⟨_, rfl, by simp; wtm_at "om", WJ_nil (by simp; wtm_at "om") ?_⟩
  wtm_at "one"
  refine call_now (Kp_bound (by wtm_at "at")) ?_
  rw [show (([] : List Value) ++ [vS (S (([] : List Nat) ++ [60, 47] ++ q ++ [62]))]) = [vS (S ([60, 47] ++ q ++ [62]))] from rfl]
  refine WC_bAppend (vs := vs1) (by wtm_at "at") (by wtm_at "at") (by wtm_at "om") ?_
  wtm_at "all"
  refine WC_popLast (vs := pv) (by wtm_at "at") (by wtm_at "om") ?_
  wtm_at "all"
  refine WC_len_list (by wtm_at "at") (by wtm_at "om") ?_
  wtm_at "all"
  rw [show (Value.ref w.l0 :: List.map Value.ref re2.reverse) = (Value.ref w.l0 :: re.reverse.map .ref) ++ [.ref nw] by rw [hre]; simp]
  refine WC_popLast (vs := Value.ref w.l0 :: re.reverse.map .ref) (v := .ref nw) (by wtm_at "at") (by simp; wtm_at "om") ?_
  wtm_at "all"
  refine WC_popLast (vs := nv) (by wtm_at "at") (by wtm_at "om") ?_
  wtm_at "all"
  subst hre
  rw [esg_cons]
  exact ret_nx (by wtm_at "sb") h
/- the page's end -/
theorem C_pi {w : Wr} {re : List Addr} {P : Params} {dv vs nv pv : List Value} (r : Room A (n + 6)) (T : Tp (DD K) C) (F : KF K) (G : KG K) (D0 : KD3 K P) (hzv : vs.length ≤ 1000)
    (h : Q .none (w.tsg re true true dv (vs ++ [vS (S [10])] ++ [vS (S [60, 63, 35, 63, 62])]) nv pv ρ)) :
    WC C A L (.ref 261) [.ref w.x, vS (S [35]), vS (S [])] (w.tsg re true true dv vs nv pv ρ) Q := by
  refine WC_fn F.wPi T ["self", "target", "data"] [("data", vS (S [])), ("target", vS (S [35])), ("self", .ref w.x)] r rfl (by (intro pm; refine' ln3 rfl ?_; intro a b d; kernel_rfl)) (by kernel_rfl) (by kernel_rfl) (by kernel_rfl) (by kernel_rfl) (by kernel_rfl) ?_
  intro pm C' L' l T' r'
  refine WB_cons ?_
  wtm_at "one"
  refine Br_ff ?_
  wtm_at "all"
  refine call_now (Kp_bound (by wtm_at "at")) ?_
  rw [List.nil_append]
  refine WC_bAppend (vs := vs) (by wtm_at "at") (by wtm_at "at") (by wtm_at "om") ?_
  wtm_at "all"
  refine T_strS (by simp) ?_
  refine Br_ff ?_
  wtm_at "one"
  refine WE_Joined (WJ_cons ?_)
  wtm_at "one"
  refine ⟨_, rfl, by simp, WJ_cons ?_⟩
  refine WE_Formatted ?_
  wtm_at "one"
  refine ⟨_, rfl, by simp, _, rfl, by simp, WJ_cons ?_⟩
  wtm_at "one"
  refine ⟨_, rfl, by simp, WJ_nil (by simp) ?_⟩
  wtm_at "one"
  refine call_now (Kp_bound (by wtm_at "at")) ?_
  rw [show (([] : List Value) ++ [vS (S (([] : List Nat) ++ [60, 63] ++ [35] ++ [63, 62]))]) = [vS (S [60, 63, 35, 63, 62])] from rfl]
  refine WC_bAppend (vs := vs ++ [_]) (by wtm_at "at") (by wtm_at "at") (by simp; wtm_at "om") ?_
  wtm_at "all"
  refine Br_ff ?_
  wtm_at "all"
  exact ret_nx (by wtm_at "sb") h
end
theorem init_binds {K : Frag} {P : Params} (D0 : KD3 K P) (pm a b : Value) (s' : Shared) (hk : K.In s'.heap) : BindsTo s' (fdOf (mth 17 0) "__init__" "C14NWriterTarget.__init__" pm 180 .none (.ref 174)) ⟨[a, b], []⟩ ((["self", "write", "with_comments", "strip_text", "rewrite_prefixes", "qname_aware_tags", "qname_aware_attrs", "exclude_attrs", "exclude_tags"] : List Str).zip ([a, b] ++ [.bool false, .bool false, .bool false, .none, .none, .none, .none])) := by
  obtain ⟨es, n, ho, e1, e2, e3, e4, e5, e6, e7⟩ := D0.kw
  have ho := hk _ _ ho
  generalize ({ cls := .type "dict", data := .dict es n } : Obj) = o at *
  have f1 := nsLook_of e1
  have f2 := nsLook_of e2
  have f3 := nsLook_of e3
  have f4 := nsLook_of e4
  have f5 := nsLook_of e5
  have f6 := nsLook_of e6
  have f7 := nsLook_of e7
  intro M A E Q hq
  iterate 300 (first | ((fail_if_success (with_reducible show wpAny _ _ (nsLook _ _) _ _ _)); lk) | skip)
  refine wpAny_of_eq f1 ?_
  iterate 300 (first | ((fail_if_success (with_reducible show wpAny _ _ (nsLook _ _) _ _ _)); lk) | skip)
  refine wpAny_of_eq f2 ?_
  iterate 300 (first | ((fail_if_success (with_reducible show wpAny _ _ (nsLook _ _) _ _ _)); lk) | skip)
  refine wpAny_of_eq f3 ?_
  iterate 300 (first | ((fail_if_success (with_reducible show wpAny _ _ (nsLook _ _) _ _ _)); lk) | skip)
  refine wpAny_of_eq f4 ?_
  iterate 300 (first | ((fail_if_success (with_reducible show wpAny _ _ (nsLook _ _) _ _ _)); lk) | skip)
  refine wpAny_of_eq f5 ?_
  iterate 300 (first | ((fail_if_success (with_reducible show wpAny _ _ (nsLook _ _) _ _ _)); lk) | skip)
  refine wpAny_of_eq f6 ?_
  iterate 300 (first | ((fail_if_success (with_reducible show wpAny _ _ (nsLook _ _) _ _ _)); lk) | skip)
  refine wpAny_of_eq f7 ?_
  iterate 300 (first | lk | skip)
  have e : ∀ l, l = _ → Q l s' := fun l e => e ▸ hq
  exact e _ (by kernel_rfl)
section
variable {C : Cx} {A : Around} {L : Addr} {σ ρ : Sg} {n : Nat} {K : Frag} {Q : Value → Sg → Prop} {P : Params}
theorem WM_nsK {name : Str} {id : String} {Q : Value → List Value → Sg → Prop} (T : Tp (DD K) C) (D0 : KD3 K P) (hP : C.w.params = P) (slot : Slot "dict" name id) (ty : typeOf (.builtin id) = pure (.type "method_descriptor")) (h : Q (.builtin id) [.ref 158] σ) :
    WM C A L (.ref 158) name σ Q := fun μ pl v' e => by
  rw [can_ref e]
  refine W_by fun s hs Q' q => ?_
  obtain ⟨kvs, ep, m, hz⟩ := D0.ns C.prog C.w _ hP (T.X.keeps hs.keep)
  obtain ⟨od, es, hod, hcd, _⟩ := m
  exact getMethod_builtin (T := "dict") ⟨_, hod, hcd.1⟩ PySem.F.plainAttrs_dict slot ty (fun b eb => by cases eb; exact ⟨_, hod, hcd.2.1⟩) (q (.builtin id, [.ref 158]) μ _ _ ⟨rfl, h⟩ hs)
theorem WC_itemsK (T : Tp (DD K) C) (D0 : KD3 K P) (hP : C.w.params = P) (h : ∀ r, Q (.ref r) ((r, .ex "dict_items" #[.ref 158]) :: σ)) : WC C A L (.builtin "dict.items") [.ref 158] σ Q :=
  WC1 fun μ a' ea => WV_by fun s hs Q' q => by
    rw [can_ref ea]
    obtain ⟨kvs, ep, m, hz⟩ := D0.ns C.prog C.w _ hP (T.X.keeps hs.keep)
    have hD := m.dictOf
    have st := hs.push (o := .ex "dict_items" #[.ref 158]) (ob := { cls := .type "dict_items", data := .fields #[.ref 158] }) ⟨rfl, rfl⟩ rfl
    exact call_meetsIn PySem.F.slot_dict_items hD.typeIs PySem.F.entry_dict_items (PySem.F.args_dict_items_1 _) (meets_dict_items (strKind C.prog C.w) 158 (by decide)) ⟨⟨kvs, hD⟩, q _ _ _ (h _) st⟩
theorem WC_listNs {n : Nat} {r : Addr} {f : AO → Sg} (rm : Room A n) (T : Tp (DD K) C) (D0 : KD3 K P) (hP : C.w.params = P) (x : At σ r (.ex "dict_items" #[.ref 158]) f) (h : ∀ l, Q (.ref l) σ) : WC C A L (.type "list") [.ref r] σ Q :=
  WC1 fun μ a' ea => WV_by fun s hs Q' q => by
    rw [can_ref ea]
    obtain ⟨kvs, ep, m, hz⟩ := D0.ns C.prog C.w _ hP (T.X.keeps hs.keep)
    obtain ⟨ob, e, hc, hd⟩ := hs.at x
    have big := big_line
    exact kdx_call (knd := strKind C.prog C.w) (kvs := kvs) (ep := ep) rm.hh ⟨ob, e, hc, hd⟩ m (by wtm_at "om") fun h' tk acc c as hk _ _ _ _ => q _ _ _ (h _) (hs.grown' hk)
noncomputable abbrev wD0 (pb dl ds ns pm ps : Addr) : List (Str × Value) := [("_write", .ref pb), ("_data", .ref dl), ("_with_comments", .bool false), ("_strip_text", .bool false), ("_exclude_attrs", .none), ("_exclude_tags", .none), ("_rewrite_prefixes", .bool false), ("_qname_aware_tags", .none), ("_find_qname_aware_attrs", .none), ("_declared_ns_stack", .ref ds), ("_ns_stack", .ref ns), ("_prefix_map", .ref pm), ("_preserve_space", .ref ps), ("_pending_start", .none), ("_root_seen", .bool false), ("_root_done", .bool false), ("_ignored_depth", vI 0)]
/- a writer is made -/
theorem C_wInit {x d : Addr} {pb : Addr} (r : Room A (n + 1)) (T : Tp (DD K) C) (F : KF K) (G : KG K) (D0 : KD3 K P) (hP : C.w.params = P)
    (h : ∀ dl ds l0 tp ns ps pm e0 e1, Q .none ((ds, .list [.ref l0]) :: (l0, .list [.ref tp]) :: (tp, .tuple [vS (S nsL), vS (S xmlL)]) :: (x, .inst 264 d) :: (d, .sd (wD0 pb dl ds ns pm ps)) :: (dl, .list []) :: (ns, .list [.ref e0, .ref e1]) :: (ps, .list [.bool false]) :: ρ)) :
    WCK C A L (.ref 181) [.ref x, .ref pb] ((x, .inst 264 d) :: (d, .sd []) :: ρ) Q := by
  refine WCK_fnK (vs := [.bool false, .bool false, .bool false, .none, .none, .none, .none]) F.wInit rfl T ["self", "write", "with_comments", "strip_text", "rewrite_prefixes", "qname_aware_tags", "qname_aware_attrs", "exclude_attrs", "exclude_tags"] [("exclude_tags", .none), ("exclude_attrs", .none), ("qname_aware_attrs", .none), ("qname_aware_tags", .none), ("rewrite_prefixes", .bool false), ("strip_text", .bool false), ("with_comments", .bool false), ("write", .ref pb), ("self", .ref x)] r rfl ?bind (by kernel_rfl) (by kernel_rfl) (by kernel_rfl) (by kernel_rfl) (by kernel_rfl) ?_
  case bind =>
    intro pm as e s' hk
    obtain ⟨a, b, rfl⟩ := len2 e
    exact init_binds D0 pm a b s' hk
  intro pm C' L' l T' r'
  have hP' : C'.w.params = P := by rw [l.w]; exact hP
  refine WB_cons ?_
  wtm_at "all"
  refine Br_tt ?_
  wtm_at "all"
  refine WM_nsK T' D0 hP' PySem.F.slot_dict_items PySem.F.type_dict_items ?_
  wtm_at "all"
  refine WC_itemsK T' D0 hP' fun r1 => ?_
  wtm_at "all"
  refine WC_listNs r' T' D0 hP' (by wtm_at "at") fun l1 => ?_
  wtm_at "all"
  refine WC_append (vs := []) (by wtm_at "at") (by simp) ?_
  rw [List.nil_append]
  wtm_at "all"
  refine WC_append (vs := [.ref l1]) (by wtm_at "at") (by simp) ?_
  dsimp only [List.nil_append, List.cons_append]
  wtm_at "all"
  exact ret_nx (by wtm_at "sb") (h _ _ _ _ _ _ _ _ _)
end
/- as W, a token made already -/
noncomputable def Wt (C : Cx) (A : Around) (L : Addr) {α : Type} (t : Sem α) (μ : Mu) (σ : Sg) (Q : α → Mu → Sg → Prop) : Prop :=
  ∀ s, St C L μ σ s → 1 ≤ s.toks → wpAny (model C.prog C.w) A t (fun a s' => ∃ μ' σ', Q a μ' σ' ∧ St C L μ' σ' s') (fun _ _ => False) s
noncomputable def WSt (C : Cx) (A : Around) (env : Env) (st : Stmt) (μ : Mu) (σ : Sg) (Q : Flow → Mu → Sg → Prop) : Prop := Wt C A env.locals (exec st env) μ σ (fun f μ' σ' => Q (canF f) μ' σ')
noncomputable def WBt (C : Cx) (A : Around) (env : Env) (b : List Stmt) (μ : Mu) (σ : Sg) (Q : Flow → Mu → Sg → Prop) : Prop := Wt C A env.locals (execs b env) μ σ (fun f μ' σ' => Q (canF f) μ' σ')
section
variable {C : Cx} {A : Around} {L : Addr} {μ : Mu} {σ : Sg} {env : Env} {α β : Type} {n : Nat} {K : Frag}
theorem W.wt {t : Sem α} {Q : α → Mu → Sg → Prop} (h : W C A L t μ σ Q) : Wt C A L t μ σ Q := fun s hs _ => h s hs
theorem Wt_bind {t : Sem α} {f : α → Sem β} {Q : β → Mu → Sg → Prop} (h : Wt C A L t μ σ (fun a μ' σ' => Wt C A L (f a) μ' σ' Q)) : Wt C A L (t >>= f) μ σ Q := fun s hs hn =>
  wpAny_bind (wpAny_mono (wpAny_toks_of hn (h s hs hn)) (fun a s1 h1 => let ⟨e, μ1, σ1, q, st⟩ := h1; q s1 st e) fun _ _ x => x.2.elim)
theorem Wt_mono {t : Sem α} {Q Q' : α → Mu → Sg → Prop} (h : Wt C A L t μ σ Q) (hq : ∀ a μ' σ', Q a μ' σ' → Q' a μ' σ') : Wt C A L t μ σ Q' := fun s hs hn =>
  wpAny_mono (h s hs hn) (fun a s1 h1 => let ⟨μ1, σ1, q, st⟩ := h1; ⟨μ1, σ1, hq _ _ _ q, st⟩) fun _ _ x => x
theorem WBt_last {st : Stmt} {Q : Flow → Mu → Sg → Prop} (h : WSt C A env st μ σ Q) : WBt C A env [st] μ σ Q := by
  unfold WBt
  rw [execs_cons]
  refine Wt_bind (Wt_mono h fun f μ1 σ1 h1 => ?_)
  cases f with
  | next => exact W.wt (WB_nil h1)
  | brk => exact W.wt (W_pure h1)
  | cont => exact W.wt (W_pure h1)
  | ret v => exact W.wt (W_pure h1)
theorem WBt_cons {st : Stmt} {rest : List Stmt} {Q : Flow → Mu → Sg → Prop} (h : WSt C A env st μ σ (After C A env rest Q)) : WBt C A env (st :: rest) μ σ Q := by
  unfold WBt
  rw [execs_cons]
  refine Wt_bind (Wt_mono h fun f μ1 σ1 h1 => ?_)
  cases f with
  | next => exact W.wt h1
  | brk => exact W.wt (W_pure h1)
  | cont => exact W.wt (W_pure h1)
  | ret v => exact W.wt (W_pure h1)
/- a try that gives something back -/
theorem WSt_Try {body orelse : List Stmt} {h0 : ExceptHandler} {hs : List ExceptHandler} {pos : Pos} {Q : Flow → Mu → Sg → Prop} (h : WBt C A env body μ σ (fun f μ' σ' => f ≠ .next ∧ Q f μ' σ')) : WSt C A env (.Try body (h0 :: hs) orelse [] pos) μ σ Q := fun s hst hn =>
  wpAny_Try_except (wpAny_mono (h s hst hn) (fun f s1 h1 => by
    obtain ⟨μ1, σ1, ⟨h2, q⟩, st⟩ := h1
    cases f with
    | next => exact absurd rfl h2
    | brk => exact ⟨_, _, q, st⟩
    | cont => exact ⟨_, _, q, st⟩
    | ret v => exact ⟨_, _, q, st⟩) fun _ _ x => x.elim)
theorem WSt_If {t : Expr} {b o : List Stmt} {pos : Pos} {Q : Flow → Mu → Sg → Prop} (h : WT C A env t μ σ (fun c σ1 => Br c (WBt C A env b μ σ1 Q) (WB C A env o μ σ1 Q))) : WSt C A env (.If t b o pos) μ σ Q := by
  unfold WSt
  rw [exec_If]
  refine Wt_bind (W.wt (W_standAt (Wt_bind (W.wt (W_mono h fun c μ1 σ1 ⟨e1, h1⟩ => ?_)))))
  subst e1
  cases c
  · exact W.wt (h1.2 rfl)
  · exact h1.1 rfl
/- x = x.replace(y, z) -/
theorem WSt_replace {pl : Sem Bool} {x : Str} {p1 p2 p3 p4 p5 p6 pos : Pos} {k1 k2 : Nat} {v y z : Str} {Q : Flow → Mu → Sg → Prop} (hv : LookIn x μ (vS v)) (hk : env.scope.kind = .function) (hl : env.kindOf x = some .local) (hd : (x == ("__debug__" : Str)) = false)
    (hs : swapsWith (.Call (.Attribute (.Name x p2) "replace" p3) [.Constant (.str y) k1 p4, .Constant (.str z) k2 p5] [] p6) (some (.Name x p1)) pos.line env = pure false)
    (he : eval (.Call (.Attribute (.Name x p2) "replace" p3) [.Constant (.str y) k1 p4, .Constant (.str z) k2 p5] [] p6) env = (do
      let ov ← eval (.Name x p2) env
      standAt p3.atName
      let (f, first) ← holding [ov] (getMethod ov "replace" pl)
      callWith p6 f first (backTo p6 (starEach [.Constant (.str y) k1 p4, .Constant (.str z) k2 p5] env)) []))
    (hb : v.length + (v.length + 1) * z.length ≤ 100000) (hyz : (y == z) = false) (h : Q .next ((x, vS (Txt.replace v y z)) :: μ) σ) :
    WSt C A env (.Assign [.Name x p1] (.Call (.Attribute (.Name x p2) "replace" p3) [.Constant (.str y) k1 p4, .Constant (.str z) k2 p5] [] p6) pos) μ σ Q := by
  have hl2 : Builtin.Str.tooLong (v.length + (Builtin.Str.occurrences v y 0 v.length (v.length + 1)).length * z.length) = false := by
    have h1 := StrLaws.occ_length_le v y 0 v.length (v.length + 1)
    have h2 : (Builtin.Str.occurrences v y 0 v.length (v.length + 1)).length * z.length ≤ (v.length + 1) * z.length := Nat.mul_le_mul_right _ h1
    unfold Builtin.Str.tooLong sizeLine
    exact decide_eq_false (by wtm_at "om")
  have main : Wt C A env.locals (eval (.Call (.Attribute (.Name x p2) "replace" p3) [.Constant (.str y) k1 p4, .Constant (.str z) k2 p5] [] p6) env) μ σ (fun r μ' σ' => μ' = μ ∧ σ' = σ ∧ can r = vS (Txt.replace v y z)) := by
    rw [he]
    refine Wt_bind (W.wt (W_mono (WE_loc (Q := fun a b => a = vS v ∧ b = σ) ⟨rfl, rfl⟩ hv hk hl hd) fun ov μ1 σ1 ⟨e1, e2, e3⟩ => ?_))
    subst e1 e3
    obtain ⟨t, rfl⟩ := can_str e2
    refine Wt_bind (W.wt (W_standAt (Wt_bind (W.wt (W_holding (W_mono (WM_str PySem.F.slot_str_replace PySem.F.type_str_replace (Q := fun a b c => a = .builtin "str.replace" ∧ b = [vS v] ∧ c = σ1) ⟨rfl, rfl, rfl⟩ _ _ _ rfl) fun fx μ2 σ2 h2 => ?_))))))
    obtain ⟨f, first⟩ := fx
    obtain ⟨e1, e2, e3, e4⟩ := h2
    dsimp only at e1 e2 e3 e4 ⊢
    subst e1 e2 e4
    obtain ⟨a, rfl, ha⟩ : ∃ a, first = [a] ∧ can a = vS v := by
      cases first with
      | nil => simp at e3
      | cons a r =>
        cases r with
        | nil => exact ⟨a, rfl, by simpa using e3⟩
        | cons b r => simp at e3
    obtain ⟨t', rfl⟩ := can_str ha
    intro s hst hn
    have h0 : s.toks ≠ 0 := by wtm_at "om"
    refine callWith_of (P := fun _ => True) rfl (fun h _ => ⟨.machine, .inr (.inl rfl), .now⟩) ?_
    refine evalArgs_plain ?_
    refine spliced_cons (wpAny_mkText ?_)
    refine spliced_cons (wpAny_mkText ?_)
    refine spliced_nil ⟨trivial, ?_⟩
    refine call_gives PySem.F.slot_str_replace (typeIs_str _ _ _) PySem.F.entry_str_replace (PySem.F.args_str_replace_3 _ _ _) (gives_str_replace v y z t' _ _ fun _ => ⟨by simp [h0], by simp, hyz, hl2⟩) ?_
    cases hc : ((Builtin.Str.occurrences v y 0 v.length (v.length + 1)).isEmpty || (y.length == 0 && z.length == 0))
    · have e : Txt.replace v y z = Builtin.Str.glued z (Builtin.Str.partsBetween v (Builtin.Str.occurrences v y 0 v.length (v.length + 1)) y.length) := by unfold Txt.replace; rw [hc]; rfl
      simp only [Bool.false_eq_true, if_false]
      exact ⟨PySem.fits_replaced y (by wtm_at "om"), _, _, ⟨rfl, rfl, by rw [e]; rfl⟩, hst.toks⟩
    · have e : Txt.replace v y z = v := by unfold Txt.replace; rw [hc]; rfl
      simp only [if_true]
      exact ⟨_, _, ⟨rfl, rfl, by rw [e]; rfl⟩, hst.toks⟩
  unfold WSt
  rw [exec_Assign_Name env x p1 _ pos hs]
  refine Wt_bind (W.wt (W_standAt (Wt_bind (Wt_mono main fun r μ1 σ1 ⟨e1, e2, e3⟩ => ?_))))
  subst e1 e2
  refine W.wt (W_bind (W_standAt (W_bind (W_bindName (W_mono (Binds_local hk hl h _ e3) fun _ μ2 σ2 h2 => W_pure h2)))))
end
section
variable {C : Cx} {A : Around} {L : Addr} {μ : Mu} {σ : Sg} {env : Env} {n : Nat} {K : Frag} {Q : Value → Sg → Prop}
theorem WK_call_defT {n : Nat} {f : Addr} {fd : FuncData} {body : List Stmt} {args : Args} {binds : List (Str × Value)} {Q : Value → Sg → Prop} (r : Room A (n + 1)) (lim : C.h₀.NoLimit) (F : FnAt C σ f fd) (hbody : fd.body = .stmts body) (hne : 1 ≤ binds.length)
    (hbind : ∀ s, St C L μ σ s → BindsTo s fd args binds) (hcell : ∀ x ∈ fd.scope.names, x.2 ≠ .cell) (hloc : ∀ x ∈ binds, fd.scope.names.lookup x.1 = some .local)
    (h : ∀ C' L', C.Le C' → Room (A.deeper (callEnv fd L' f)) n → WBt C' (A.deeper (callEnv fd L' f)) (callEnv fd L' f) body (binds.reverse.map fun p => (p.1, can p.2)) σ (fun fl _ σ' => Q (retV fl) σ'))
    (hco : fd.scope.isCoroutine = false) (hgen : fd.scope.isGenerator = false) (hk : fd.scope.kind = .function) :
    WK C A L (.call (.ref f) args) μ σ Q :=
  fun s hs => by
    obtain ⟨⟨o, ho, hd⟩, hcd⟩ := F.here hs
    refine (codeAny_call_def r.depth ho hd (lim.keeps hs.keep) hcd hbody (hbind s hs) hcell hloc (fun h₁ hns hk₁ => ?_) hco hgen hk)
    have z := h (C.under s σ) s.heap.objs.size (under_le hs) r.deeper _ (under_enter (tk := s.toks + binds.length) hs hns hk₁) (by show 1 ≤ s.toks + binds.length; wtm_at "om")
    refine wpAny_mono z (fun fl s' hz => ?_) fun _ _ x => x.elim
    obtain ⟨μ', σ', q, st⟩ := hz
    refine ⟨σ', ?_, under_leave hs st⟩
    replace q : Q (retV (canF fl)) σ' := q
    rw [retV_can] at q
    cases fl <;> exact q
theorem WCK_fnT {n : Nat} {f c : Addr} {s : Stmt} {name qual : Str} {args : List Value} (H : HasFn K f c s name qual .none .none) (T : Tp (DD K) C) (xs : List Str) (μ0 : Mu) (r : Room A (n + 1)) (hμ : (xs.zip args).reverse = μ0) (hne : 1 ≤ (xs.zip args).length)
    (hbind : ∀ pm, ∀ as : List Value, as.length = args.length → bindArgs (fdOf s name qual pm c .none .none) ⟨as, []⟩ = pure (xs.zip as)) (hcell : ((scopeOf s).names.all fun x => x.2 != .cell) = true) (hloc : (xs.all fun x => (scopeOf s).names.lookup x == some .local) = true)
    (hco : (scopeOf s).isCoroutine = false) (hgen : (scopeOf s).isGenerator = false) (hk : (scopeOf s).kind = .function)
    (h : ∀ pm C' L', C.Le C' → Tp (DD K) C' → Room (A.deeper (callEnv (fdOf s name qual pm c .none .none) L' f)) n → WBt C' (A.deeper (callEnv (fdOf s name qual pm c .none .none) L' f)) (callEnv (fdOf s name qual pm c .none .none) L' f) (bodyOf s) μ0 σ (fun fl _ σ' => Ret Q (retV fl) σ')) : WCK C A L (.ref f) args σ Q := by
  obtain ⟨pm, oc, od, osl, hK, hc⟩ := H
  intro μ as e
  refine WK_ret (WK_call_defT (binds := xs.zip as) r T.lim (FnAt.of T hK hc) rfl (by rw [List.length_zip] at hne ⊢; rw [← e] at hne; simpa using hne) (fun s' hs => .of_eq (hbind pm as (by rw [← e]; simp))) (fun x hx => by simpa using List.all_eq_true.mp hcell x hx) (fun x hx => by show (scopeOf _).names.lookup x.1 = _; simpa using List.all_eq_true.mp hloc x.1 (List.of_mem_zip (a := x.1) (b := x.2) hx).1) ?_ hco hgen hk)
  rw [zip_can e, hμ]
  exact fun C' L' l r' => h pm C' L' l (T.le l) r'
theorem esc_of {d out : List Nat} (F : KF K) (hl : d.length ≤ 100) (h1 : Txt.contains (S d) (S [38]) = true) (h2 : Txt.replace (S d) (S [38]) (S [38, 97, 109, 112, 59]) = S out) (h3 : Txt.contains (S out) (S [60]) = false) (h4 : Txt.contains (S out) (S [62]) = false) (h5 : Txt.contains (S out) (S [13]) = false) : EscOk K d out := by
  intro n C A L σ Q r T h
  refine (WCK_fnT F.escape T ["text"] [("text", vS (S d))] r rfl (by simp) (by (intro pm; refine' ln1 rfl ?_; intro a; kernel_rfl)) (by kernel_rfl) (by kernel_rfl) (by kernel_rfl) (by kernel_rfl) (by kernel_rfl) ?_).wc
  intro pm C' L' l T' r'
  refine WBt_last ?_
  refine WSt_Try ?_
  refine WBt_cons ?_
  refine WSt_If ?_
  wtm_at "one"
  rw [h1]
  refine Br_tt ?_
  refine WBt_last ?_
  refine WSt_replace (v := S d) (by wtm_at "lk") (by kernel_rfl) (by kernel_rfl) (by kernel_rfl) (by with_unfolding_all rfl) (by rfl) ?_ (by kernel_rfl) ?_
  · rw [S_len]
    show _ + _ * 5 ≤ _
    wtm_at "om"
  rw [lit7, lit12, h2]
  wtm_at "all"
  rw [h3]
  wtm_at "all"
  rw [h4]
  wtm_at "all"
  rw [h5]
  wtm_at "all"
  exact ⟨by simp, ret_now .refl h⟩
/- the page's white signs -/
theorem esc_white {w : Nat} (F : KF K) (hw : w = 10 ∨ w = 9 ∨ w = 32) : EscOk K [w, 38, w] [w, 38, 97, 109, 112, 59, w] := by
  rcases hw with rfl | rfl | rfl
  · exact esc_of F (by simp) (by kernel_rfl) (by kernel_rfl) (by kernel_rfl) (by kernel_rfl) (by kernel_rfl)
  · exact esc_of F (by simp) (by kernel_rfl) (by kernel_rfl) (by kernel_rfl) (by kernel_rfl) (by kernel_rfl)
  · exact esc_of F (by simp) (by kernel_rfl) (by kernel_rfl) (by kernel_rfl) (by kernel_rfl) (by kernel_rfl)
end
section
variable {C : Cx} {A : Around} {L : Addr} {σ ρ : Sg} {n : Nat} {K : Frag} {Q : Value → Sg → Prop}
theorem WP_met {Cc init x d fn : Addr} {free : List Str} {kvs kvs' : List (Str × Value)} {f g : AO → Sg} {name : Str} {v : Value} {Q : Sg → Prop} (T : Tp (DD K) C) (c : ClsF K Cc init free) (m : MetF K Cc name fn) (h1 : At σ x (.inst Cc d) f) (h2 : At σ d (.sd kvs) g) (hp : PutIn name v kvs kvs') (hz : kvs'.length ≤ 1000) (h : Q (g (.sd kvs'))) : WP C A L (.ref x) name v σ Q := by
  have e := hp.eq
  refine WP_inst T h1 h2 c.set c.over ?_ c.dict (by rw [e]; exact hz) (by rw [e]; exact h)
  unfold takerIn
  rw [show findIn (DD K).K (.ref Cc) name = _ from m.find, Option.bind_some]
  show Option.map _ (takesIn K (.ref fn)) = _
  rw [m.take]
  rfl
theorem LamNew.trans {ps ps' : Array Value} {ex ex' τ : Sg} (h : LamNew #[] ps ex) (k : LamNew ps ps' ex') : ∃ ex2, LamNew #[] ps' ex2 ∧ Sub (ex2 ++ τ) (ex' ++ (ex ++ τ)) := by
  rcases k with ⟨rfl, rfl⟩ | ⟨c', oc, rfl, rfl, hr⟩
  · exact ⟨ex, h, .refl⟩
  · refine ⟨[(c', .obj oc)], .inr ⟨c', oc, rfl, rfl, hr⟩, ?_⟩
    rcases h with ⟨rfl, rfl⟩ | ⟨c2, oc2, rfl, rfl, hr2⟩
    · exact .refl
    · exact .cons .here (.skip .refl)
theorem LamNew.ok0 {ps : Array Value} {ex τ : Sg} {p : Addr × AO} (h : LamNew #[] ps ex) : LamOk ps (p :: (ex ++ τ)) := by
  rcases h with ⟨rfl, rfl⟩ | ⟨c', oc, rfl, rfl, hr⟩
  · exact .inl rfl
  · exact .inr ⟨c', oc, _, rfl, .there .here, hr⟩
/- the pieces of the begins and of the ends -/
noncomputable def escL (wc : Nat) : List Nat := [wc, 38, 97, 109, 112, 59, wc]
noncomputable def pBeg (wc : Nat) (qs : List (List Nat)) (i : Nat) : List (List Nat) := (List.range i).flatMap fun k => (if k = 0 then [] else [escL wc]) ++ [60 :: qs.getD k [], [62]]
noncomputable def pEnd (wc : Nat) (qs : List (List Nat)) (i : Nat) : List (List Nat) := pBeg wc qs qs.length ++ (List.range i).flatMap fun k => [escL wc, [60, 47] ++ qs.getD (qs.length - 1 - k) [] ++ [62]]
noncomputable def pageT (wc : Nat) (qs : List (List Nat)) : List Nat := (pEnd wc qs qs.length ++ [[10]] ++ [[60, 63, 35, 63, 62]]).flatten
theorem pBeg_succ (wc : Nat) (qs : List (List Nat)) (i : Nat) : pBeg wc qs (i + 1) = pBeg wc qs i ++ ((if i = 0 then [] else [escL wc]) ++ [60 :: qs.getD i [], [62]]) := by
  unfold pBeg; rw [List.range_succ, List.flatMap_append]; simp
theorem pEnd_succ (wc : Nat) (qs : List (List Nat)) (i : Nat) : pEnd wc qs (i + 1) = pEnd wc qs i ++ [escL wc, [60, 47] ++ qs.getD (qs.length - 1 - i) [] ++ [62]] := by
  unfold pEnd; rw [List.range_succ, List.flatMap_append]; simp
theorem pBeg_len (wc : Nat) (qs : List (List Nat)) (i : Nat) : (pBeg wc qs i).length ≤ 3 * i := by
  induction i with
  | zero => simp [pBeg]
  | succ i ih => rw [pBeg_succ, List.length_append]; split <;> simp <;> wtm_at "om"
theorem pEnd_len (wc : Nat) (qs : List (List Nat)) (i : Nat) : (pEnd wc qs i).length ≤ 3 * qs.length + 2 * i := by
  induction i with
  | zero => simp [pEnd]; exact pBeg_len _ _ _
  | succ i ih => rw [pEnd_succ, List.length_append]; simp; wtm_at "om"
theorem flat_le {m : Nat} : ∀ {l : List (List Nat)}, (∀ x ∈ l, x.length ≤ m) → l.flatten.length ≤ m * l.length
  | [], _ => by simp
  | a :: r, h => by
    have h1 := h a (.head _)
    have h2 := flat_le (l := r) fun x hx => h x (.tail _ hx)
    rw [List.flatten_cons, List.length_append, List.length_cons, Nat.mul_succ]
    wtm_at "om"
theorem getD_len {m : Nat} {qs : List (List Nat)} (h : ∀ q ∈ qs, q.length ≤ m) (k : Nat) : (qs.getD k []).length ≤ m := by
  rw [List.getD_eq_getElem?_getD]
  cases hk : qs[k]? with
  | none => simp
  | some x => exact h x (List.mem_of_getElem? hk)
theorem pEnd_all {wc : Nat} {qs : List (List Nat)} (h : ∀ q ∈ qs, q.length ≤ 100) (i : Nat) : ∀ x ∈ pEnd wc qs i, x.length ≤ 110 := by
  have key : ∀ i, ∀ x ∈ pBeg wc qs i, x.length ≤ 110 := by
    intro i
    induction i with
    | zero => intro x hx; simp [pBeg] at hx
    | succ i ih =>
      intro x hx
      rw [pBeg_succ, List.mem_append, List.mem_append] at hx
      have hq := getD_len h i
      rw [List.getD_eq_getElem?_getD] at hq
      rcases hx with hx | hx | hx
      · exact ih x hx
      · split at hx
        · simp at hx
        · simp at hx; subst hx; simp [escL]
      · simp at hx
        rcases hx with rfl | rfl
        · simp; wtm_at "om"
        · simp
  induction i with
  | zero => intro x hx; simp [pEnd] at hx; exact key _ x hx
  | succ i ih =>
    intro x hx
    rw [pEnd_succ, List.mem_append] at hx
    have hq := getD_len h (qs.length - 1 - i)
    rw [List.getD_eq_getElem?_getD] at hq
    rcases hx with hx | hx
    · exact ih x hx
    · simp at hx
      rcases hx with rfl | rfl
      · simp [escL]
      · simp; wtm_at "om"
theorem pageT_len {wc : Nat} {qs : List (List Nat)} (h : ∀ q ∈ qs, q.length ≤ 100) (hn : qs.length ≤ 100) : (pageT wc qs).length ≤ 100000 := by
  have h1 := flat_le (l := pEnd wc qs qs.length) (m := 110) (pEnd_all h _)
  have h2 := pEnd_len wc qs qs.length
  have h3 : 110 * (pEnd wc qs qs.length).length ≤ 110 * (5 * qs.length) := Nat.mul_le_mul_left _ (by wtm_at "om")
  unfold pageT
  rw [List.flatten_append, List.flatten_append, List.length_append, List.length_append]
  simp only [List.flatten_cons, List.flatten_nil, List.append_nil, List.length_cons, List.length_nil]
  wtm_at "om"
noncomputable def vq (qs : List (List Nat)) : List Value := qs.map fun q => vS (S q)
end
section
variable {C : Cx} {A : Around} {L : Addr} {σ ρ : Sg} {n : Nat} {K : Frag} {Q : Value → Sg → Prop}
theorem told0 {rs : Bool} {vs : List Value} : Told K rs [] vs vs := .inl ⟨rfl, rfl⟩
theorem told1 {wc : Nat} {vs : List Value} (F : KF K) (hw : wc = 10 ∨ wc = 9 ∨ wc = 32) : Told K true [vS (S [wc, 38]), vS (S [wc])] vs (vs ++ [vS (S (escL wc))]) :=
  .inr ⟨[wc, 38], [wc], escL wc, rfl, rfl, rfl, by simp, by simp, esc_white F hw⟩
/- what waits to be told at the i-th begin -/
noncomputable def dvB (wc i : Nat) : List Value := if i = 0 then [] else [vS (S [wc, 38]), vS (S [wc])]
theorem told_beg {wc i : Nat} {qs : List (List Nat)} (F : KF K) (hw : wc = 10 ∨ wc = 9 ∨ wc = 32) : Told K (decide (0 < i)) (dvB wc i) (vq (pBeg wc qs i)) (vq (pBeg wc qs i ++ (if i = 0 then [] else [escL wc]))) := by
  unfold dvB
  by_cases h : i = 0
  · subst h
    simp only [if_true, List.append_nil]
    exact told0
  · rw [if_neg h, if_neg h, show decide (0 < i) = true by simp; wtm_at "om"]
    rw [show vq (pBeg wc qs i ++ [escL wc]) = vq (pBeg wc qs i) ++ [vS (S (escL wc))] by unfold vq; rw [List.map_append]; rfl]
    exact told1 F hw
theorem told_end {wc i : Nat} {qs : List (List Nat)} (F : KF K) (hw : wc = 10 ∨ wc = 9 ∨ wc = 32) : Told K true [vS (S [wc, 38]), vS (S [wc])] (vq (pEnd wc qs i)) (vq (pEnd wc qs i ++ [escL wc])) := by
  rw [show vq (pEnd wc qs i ++ [escL wc]) = vq (pEnd wc qs i) ++ [vS (S (escL wc))] by unfold vq; rw [List.map_append]; rfl]
  exact told1 F hw
theorem vq_len (l : List (List Nat)) : (vq l).length = l.length := by unfold vq; simp
theorem vq_get {l : List (List Nat)} {i : Nat} {x : Value} (h : (vq l)[i]? = some x) : i < l.length ∧ x = vS (S (l.getD i [])) ∧ l.getD i [] ∈ l := by
  unfold vq at h
  rw [List.getElem?_map] at h
  obtain ⟨q, hq, rfl⟩ := Option.map_eq_some_iff.mp h
  obtain ⟨hi, e⟩ := List.getElem?_eq_some_iff.mp hq
  refine ⟨hi, ?_, ?_⟩
  · rw [List.getD_eq_getElem?_getD, hq]; rfl
  · rw [List.getD_eq_getElem?_getD, hq]; exact List.mem_of_getElem? hq
theorem WC_drop {f : Value} {args : List Value} (h : WC C A L f args σ (Ret Q)) : WC C A L f args σ Q := fun μ as e => WV_ret (h μ as e)
theorem sub_out {p : Addr × AO} {ρ : Sg} {l : Sg} : Sub (p :: (l ++ ρ)) (l ++ p :: ρ) := .of_perm (r := []) (by rw [List.append_nil]; exact List.perm_middle.symm)
theorem Sub.app {X Y : Sg} (h : Sub X Y) : ∀ l : Sg, Sub (l ++ X) (l ++ Y)
  | [] => h
  | (a, o) :: r => .cons .here (Sub.app h r)
theorem C_dataT {w : Wr} {t : Value} {re : List Addr} {dv vs nv pv : List Value} {rs rd : Bool} (r : Room A (n + 1)) (T : Tp (DD K) C) (F : KF K) (G : KG K) (hz : dv.length ≤ 1000)
    (h : Q .none (w.tsg re rs rd (dv ++ [t]) vs nv pv ρ)) : WC C A L (.ref 211) [.ref w.x, t] (w.tsg re rs rd dv vs nv pv ρ) Q := by
  refine WC_sub (τ := (w.dl, .list dv) :: (w.x, .inst 264 w.d) :: (w.d, .sd (wD w rs rd)) :: (w.ds, .list (.ref w.l0 :: re.reverse.map .ref)) :: (w.l0, .list [.ref w.tp]) :: (w.tp, .tuple [vS (S nsL), vS (S xmlL)]) :: (w.pcs, .list vs) :: (w.pb, .obj (boundOf "list.append" (.ref w.pcs))) :: (w.ns, .list nv) :: (w.ps, .list pv) :: (esg re ++ ρ)) (by wtm_at "sb") (WC_drop (C_data r T F G hz ⟨_, ?_, h⟩))
  wtm_at "sb"
theorem C_startT {w : Wr} {q : List Nat} {re : List Addr} {rs rd : Bool} {P : Params} {at_ : Addr} {dv vs vs1 nv pv : List Value} {b : Value} {ps : Array Value} {ex τ : Sg} {p : Addr × AO} (r : Room A (n + 6)) (T : Tp (DD K) C) (F : KF K) (G : KG K) (D0 : KD3 K P) (KT : KT K) (ks : KS K) (hz : re.length ≤ 900) (hq : q.take 1 ≠ [123]) (hl : q.length ≤ 1000) (hL : LamNew #[] ps ex) (hzp : pv.length ≤ 1000) (hzn : nv.length ≤ 1000) (hzv : vs.length ≤ 900) (ht : Told K rs dv vs vs1)
    (h : ∀ nw ps' ex2 e, LamNew #[] ps' ex2 → Q .none (w.tsg (nw :: re) true rd [] (vs1 ++ [vS (S ([60] ++ q))] ++ [vS (S [62])]) (nv ++ [.ref e]) (pv ++ [b] ++ [b]) ((237, .obj (tabObj ps')) :: p :: (ex2 ++ τ)))) :
    WC C A L (.ref 234) [.ref w.x, vS (S q), .ref at_] ((at_, .sd []) :: w.tsg re rs rd dv vs nv (pv ++ [b]) ((237, .obj (tabObj ps)) :: p :: (ex ++ τ))) Q := by
  refine WC_sub (τ := (237, .obj (tabObj ps)) :: (at_, .sd []) :: w.tsg re rs rd dv vs nv (pv ++ [b]) (p :: (ex ++ τ))) (by wtm_at "sb") (WC_drop (C_start r T F G D0 KT ks hz hq hl hL.ok0 hzp hzn hzv ht fun nw ps' ex' e hN => ?_))
  obtain ⟨ex2, h2, hs⟩ := LamNew.trans (τ := p :: τ) hL hN
  refine ⟨_, ?_, h nw ps' ex2 e h2⟩
  refine Sub.trans (b := (237, .obj (tabObj ps')) :: w.tsg (nw :: re) true rd [] (vs1 ++ [vS (S ([60] ++ q))] ++ [vS (S [62])]) (nv ++ [.ref e]) (pv ++ [b] ++ [b]) (ex2 ++ p :: τ)) ?_ ?_
  · refine Sub.trans (b := w.tsg (nw :: re) true rd [] (vs1 ++ [vS (S ([60] ++ q))] ++ [vS (S [62])]) (nv ++ [.ref e]) (pv ++ [b] ++ [b]) ((237, .obj (tabObj ps')) :: (ex2 ++ p :: τ))) ?_ ?_
    · have := Sub.app (sub_out (p := p) (ρ := τ) (l := ex2)) (((237, .obj (tabObj ps')) : Addr × AO) :: [])
      repeat (refine Sub.cons Pull.here ?_)
      exact Sub.app this _
    · exact sub_swap (l := _ :: _ :: _ :: _ :: _ :: _ :: _ :: _ :: _ :: _ :: esg (nw :: re))
  · repeat (refine Sub.cons Pull.here ?_)
    refine Sub.app ?_ _
    refine Sub.trans hs ?_
    exact Sub.app (sub_swap) _
end
section
variable {C : Cx} {A : Around} {L : Addr} {σ ρ : Sg} {n : Nat} {K : Frag} {Q : Value → Sg → Prop}
theorem vq_app (a b : List (List Nat)) : vq (a ++ b) = vq a ++ vq b := by unfold vq; rw [List.map_append]
theorem getD_rev (qs : List (List Nat)) {i : Nat} (h : i < qs.length) : qs.reverse.getD i [] = qs.getD (qs.length - 1 - i) [] := by
  rw [List.getD_eq_getElem?_getD, List.getD_eq_getElem?_getD, List.getElem?_reverse h]
theorem sub_back {X Y : Sg} : ∀ l : Sg, Sub X Y → Sub X (l ++ Y)
  | [], h => h
  | _ :: r, h => .skip (sub_back r h)
theorem C_page {pk : Addr} {qs : List (List Nat)} {wc : Nat} {P : Params} (r : Room A (n + 8)) (T : Tp (DD K) C) (F : KF K) (G : KG K) (D0 : KD3 K P) (KT : KT K) (ks : KS K) (hP : C.w.params = P) (hw : wc = 10 ∨ wc = 9 ∨ wc = 32) (h1 : 1 ≤ qs.length) (hn : qs.length ≤ 100) (hq : ∀ q ∈ qs, q.take 1 ≠ [123] ∧ q.length ≤ 100)
    (h : ∀ pst, Q (vS (S (pageT wc qs))) ((237, .obj (tabObj pst)) :: (pk, .list (vq qs)) :: ρ)) :
    WC C A L (.ref 332) [.ref pk, vS (S [wc])] ((237, .obj (tabObj #[])) :: (pk, .list (vq qs)) :: ρ) Q := by
  refine WC_fn F.page T ["packet", "white"] [("white", vS (S [wc])), ("packet", .ref pk)] r rfl (by (intro pm; refine' ln2 rfl ?_; intro a b; kernel_rfl)) (by kernel_rfl) (by kernel_rfl) (by kernel_rfl) (by kernel_rfl) (by kernel_rfl) ?_
  intro pm C' L' l T' r'
  have hP' : C'.w.params = P := by rw [l.w]; exact hP
  refine WB_cons ?_
  wtm_at "all"
  rename_i pcs
  refine WA_append (by wtm_at "at") fun pb => ?_
  wtm_at "one"
  refine WC_make T' G.wri (n := n + 6) r' fun A' x d rA => ?_
  refine C_wInit (n := n + 5) rA T' F G D0 hP' fun dl ds l0 tp ns ps pm2 e0 e1 => ⟨rfl, ?_⟩
  wtm_at "m"
  wtm_at "m"
  refine WB_cons ?_
  wtm_at "m"
  wtm_at "m"
  wtm_at "m"
  refine WP_met T' G.wri G.wriIter (by wtm_at "at") (by wtm_at "at") (by wtm_at "put") (by exact Nat.le_of_ble_eq_true rfl) ?_
  wtm_at "m"
  refine WB_cons ?_
  obtain ⟨w, hwr⟩ : ∃ w : Wr, w = ⟨x, d, pb, pcs, dl, ds, l0, tp, ns, ps, pm2⟩ := ⟨_, rfl⟩
  have hiter0 : ∀ (i : Nat) (re : List Addr) (rs rd : Bool) (dv vs nv pv : List Value) (p : Addr × AO) (ex : Sg), ∃ g, At (w.tsg re rs rd dv vs nv pv (p :: (ex ++ (pk, .list (vq qs)) :: ρ))) pk (.list (vq qs)) g := by
    intro i re rs rd dv vs nv pv p ex
    obtain ⟨g, x⟩ := (At.here (a := pk) (o := .list (vq qs)) (r := ρ)).app ex
    exact ⟨_, by (repeat' (first | exact At.esg (.there x) | refine' At.there ?_))⟩
  refine WS_keepM [("writer", .ref w.x), ("pieces", .ref w.pcs), ("white", vS (S [wc])), ("packet", .ref pk)] ((w.ds, .list [.ref w.l0]) :: (w.l0, .list [.ref w.tp]) :: (w.tp, .tuple [vS (S nsL), vS (S xmlL)]) :: (w.x, .inst 264 w.d) :: (w.d, .sd (wD w false false)) :: (w.dl, .list []) :: (w.pcs, .list []) :: (w.pb, .obj (boundOf "list.append" (.ref w.pcs))) :: (w.ns, .list [.ref e0, .ref e1]) :: (w.ps, .list [.bool false]) :: (237, .obj (tabObj #[])) :: (pk, .list (vq qs)) :: ρ) ?hμ ?hs ?_
  case hμ => subst hwr; wtm_at "lem"
  case hs => subst hwr; wtm_at "sb"
  refine WS_For (n := n + 7) (vs := vq qs) (H := fun σ => ∃ g, At σ pk (.list (vq qs)) g) (J := fun i μ σ => μ = ([("writer", .ref w.x), ("pieces", .ref w.pcs), ("white", vS (S [wc])), ("packet", .ref pk)] : Mu) ∧ ∃ re nv pst ex, σ = w.tsg re (decide (0 < i)) false (dvB wc i) (vq (pBeg wc qs i)) nv (List.replicate (i + 1) (.bool false)) ((237, .obj (tabObj pst)) :: (ex ++ (pk, .list (vq qs)) :: ρ)) ∧ LamNew #[] pst ex ∧ re.length = i ∧ nv.length = 2 + i) r' ?iter ?hat ?step ?done
  case iter =>
    wtm_at "one"
    exact ⟨ItS_list (hiter0 0 [] false false [] [] [.ref e0, .ref e1] [.bool false] (237, .obj (tabObj #[])) []).choose_spec, rfl, [], [.ref e0, .ref e1], #[], [], rfl, .inl ⟨rfl, rfl⟩, rfl, rfl⟩
  case hat =>
    rintro i μ σ ⟨_, re, nv, pst, ex, rfl, _⟩
    exact hiter0 0 ..
  case step =>
    rintro i x it o μ σ hx ⟨rfl, re, nv, pst, ex, rfl, hL, hre, hnv⟩
    obtain ⟨hi, rfl, hm⟩ := vq_get hx
    refine WTg_name ?_
    wtm_at "one"
    refine WB_cons ?_
    wtm_at "one"
    rename_i at_
    rw [List.replicate_succ' (n := i)]
    refine WC_sub (τ := (at_, .sd []) :: w.tsg re (decide (0 < i)) false (dvB wc i) (vq (pBeg wc qs i)) nv (List.replicate i (.bool false) ++ [.bool false]) ((237, .obj (tabObj pst)) :: (it, o) :: (ex ++ (pk, .list (vq qs)) :: ρ))) (by wtm_at "sb") (C_startT (n := n + 1) r' T' F G D0 KT ks (by wtm_at "om") (hq _ hm).1 (by have := (hq _ hm).2; wtm_at "om") hL (by simp; wtm_at "om") (by wtm_at "om") (by have := pBeg_len wc qs i; rw [vq_len]; wtm_at "om") (told_beg F hw) fun nw ps' ex2 e hN => ?_)
    rw [show vq (pBeg wc qs i ++ if i = 0 then [] else [escL wc]) ++ [vS (S ([60] ++ qs.getD i []))] ++ [vS (S [62])] = vq (pBeg wc qs (i + 1)) by rw [pBeg_succ, ← List.append_assoc, vq_app (_ ++ _)]; simp [vq], ← List.replicate_succ', ← List.replicate_succ']
    wtm_at "m"
    refine WB_cons ?_
    wtm_at "one"
    refine C_dataT (n := n + 6) r' T' F G (by simp) ?_
    wtm_at "m"
    refine WB_cons ?_
    wtm_at "one"
    refine C_dataT (n := n + 6) r' T' F G (by simp) ?_
    wtm_at "one"
    refine ⟨[("writer", .ref w.x), ("pieces", .ref w.pcs), ("white", vS (S [wc])), ("packet", .ref pk)], w.tsg (nw :: re) true false [vS (S [wc, 38]), vS (S [wc])] (vq (pBeg wc qs (i + 1))) (nv ++ [.ref e]) (List.replicate (i + 1 + 1) (.bool false)) ((237, .obj (tabObj ps')) :: (ex2 ++ (pk, .list (vq qs)) :: ρ)), by wtm_at "lem", ?_, rfl, nw :: re, nv ++ [.ref e], ps', ex2, ?_, hN, by simp [hre], by simp [hnv]; wtm_at "om"⟩
    · rw [show (([] : List Value) ++ [vS (S ([wc] ++ [38]))] ++ [vS (S [wc])]) = [vS (S [wc, 38]), vS (S [wc])] from rfl]
      wtm_at "sb"
    · rw [show decide (0 < i + 1) = true by simp, show dvB wc (i + 1) = [vS (S [wc, 38]), vS (S [wc])] from rfl]
  case done =>
    rintro μ σ ⟨rfl, re, nv, pst, ex, rfl, hL, hre, hnv⟩
    rw [vq_len] at hre hnv ⊢
    rw [show decide (0 < qs.length) = true by simp; wtm_at "om", show dvB wc qs.length = [vS (S [wc, 38]), vS (S [wc])] from if_neg (by wtm_at "om")]
    wtm_at "m"
    wtm_at "m"
    refine WB_cons ?_
    refine WS_ForE (n := n + 7) r' ?_ (by intro _; rfl) (by intro _ _; rfl)
    wtm_at "one"
    refine WE_Slice ?_
    refine WO_none (WO_none (WO_some ?_))
    wtm_at "one"
    intro sl
    obtain ⟨g0, hat0⟩ := hiter0 0 re true false [vS (S [wc, 38]), vS (S [wc])] (vq (pBeg wc qs qs.length)) nv (List.replicate (qs.length + 1) (.bool false)) (237, .obj (tabObj pst)) ex
    refine item_now (PI_list (.there hat0)) ?_
    refine WG_slice (lo := none) (hi := none) (st := some (-1)) (.there hat0) (by wtm_at "at") .none .none (.int (-1)) (by simp) (by rw [vq_len]; wtm_at "om") fun b => ?_
    rw [pick_rev, show (vq qs).reverse = vq qs.reverse by unfold vq; rw [List.map_reverse]]
    refine ⟨vq qs.reverse, (fun σ => ∃ g, At σ b (.list (vq qs.reverse)) g), fun i μ σ => μ = ([("writer", .ref w.x), ("pieces", .ref w.pcs), ("white", vS (S [wc])), ("packet", .ref pk)] : Mu) ∧ ∃ re nv, σ = (b, .list (vq qs.reverse)) :: (sl, .fields "slice" [.none, .none, vI (-1)]) :: w.tsg re true (decide (i = qs.length)) [vS (S [wc, 38]), vS (S [wc])] (vq (pEnd wc qs i)) nv (List.replicate (qs.length + 1 - i) (.bool false)) ((237, .obj (tabObj pst)) :: (ex ++ (pk, .list (vq qs)) :: ρ)) ∧ re.length = qs.length - i ∧ nv.length = 2 + qs.length - i, ItS_list .here, ⟨rfl, re, nv, ?_, hre, by wtm_at "om"⟩, ?_, ?_, ?_⟩
    · rw [show decide (0 = qs.length) = false by simp; wtm_at "om", show pEnd wc qs 0 = pBeg wc qs qs.length by simp [pEnd]]
      rfl
    · rintro i μ σ ⟨_, re, nv, rfl, _⟩
      exact ⟨_, .here⟩
    · rintro i x it o μ σ hx ⟨rfl, re, nv, rfl, hre, hnv⟩
      obtain ⟨hi, rfl, hm⟩ := vq_get hx
      rw [List.length_reverse] at hi
      rw [getD_rev qs hi] at hm ⊢
      have hm := List.mem_reverse.mp hm
      obtain ⟨nw, re, rfl⟩ : ∃ nw re', re = nw :: re' := by
        cases re with
        | nil => simp at hre; wtm_at "om"
        | cons a r => exact ⟨a, r, rfl⟩
      obtain ⟨nv, e, rfl⟩ : ∃ nv' e, nv = nv' ++ [e] := by
        rcases List.eq_nil_or_concat nv with e | ⟨us, x, e⟩
        · rw [e] at hnv; simp at hnv; wtm_at "om"
        · exact ⟨us, x, by rw [e, List.concat_eq_append]⟩
      simp only [List.length_cons, List.length_append, List.length_nil] at hre hnv
      rw [show qs.length + 1 - i = (qs.length - i) + 1 by wtm_at "om", List.replicate_succ' (n := qs.length - i)]
      refine WTg_name ?_
      wtm_at "one"
      refine WB_cons ?_
      obtain ⟨re2, hre2⟩ : ∃ re2, re2 = nw :: re := ⟨_, rfl⟩
      rw [← hre2]
      wtm_at "one"
      refine WC_sub (τ := w.tsg re2 true (decide (i = qs.length)) [vS (S [wc, 38]), vS (S [wc])] (vq (pEnd wc qs i)) (nv ++ [e]) (List.replicate (qs.length - i) (.bool false) ++ [.bool false]) ((237, .obj (tabObj pst)) :: (it, o) :: (b, .list (vq qs.reverse)) :: (sl, .fields "slice" [.none, .none, vI (-1)]) :: (ex ++ (pk, .list (vq qs)) :: ρ))) (by wtm_at "sb") ?_
      rw [hre2]
      refine C_end (n := n + 1) r' T' F G D0 KT ks (by wtm_at "om") (hq _ hm).1 (by have := (hq _ hm).2; wtm_at "om") (by simp; wtm_at "om") (by wtm_at "om") (by have := pEnd_len wc qs i; rw [vq_len]; wtm_at "om") (told_end F hw) ?_
      rw [show vq (pEnd wc qs i ++ [escL wc]) ++ [vS (S ([60, 47] ++ qs.getD (qs.length - 1 - i) [] ++ [62]))] = vq (pEnd wc qs (i + 1)) by rw [pEnd_succ, vq_app, vq_app]; simp [vq], show decide (((List.replicate (qs.length - i) (Value.bool false)).length : Int) = 1) = decide (i + 1 = qs.length) by rw [List.length_replicate, decide_eq_decide]; wtm_at "om"]
      wtm_at "m"
      refine WB_cons ?_
      wtm_at "one"
      refine C_dataT (n := n + 6) r' T' F G (by simp) ?_
      wtm_at "m"
      refine WB_cons ?_
      wtm_at "one"
      refine C_dataT (n := n + 6) r' T' F G (by simp) ?_
      wtm_at "one"
      rw [show (([] : List Value) ++ [vS (S ([wc] ++ [38]))] ++ [vS (S [wc])]) = [vS (S [wc, 38]), vS (S [wc])] from rfl]
      refine ⟨[("writer", .ref w.x), ("pieces", .ref w.pcs), ("white", vS (S [wc])), ("packet", .ref pk)], (b, .list (vq qs.reverse)) :: (sl, .fields "slice" [.none, .none, vI (-1)]) :: w.tsg re true (decide (i + 1 = qs.length)) [vS (S [wc, 38]), vS (S [wc])] (vq (pEnd wc qs (i + 1))) nv (List.replicate (qs.length - i) (.bool false)) ((237, .obj (tabObj pst)) :: (ex ++ (pk, .list (vq qs)) :: ρ)), by wtm_at "lem", ?_, rfl, re, nv, ?_, by wtm_at "om", by wtm_at "om"⟩
      · wtm_at "sb"
      · rw [show qs.length + 1 - (i + 1) = qs.length - i by wtm_at "om"]
    · rintro μ σ ⟨rfl, re, nv, rfl, hre, hnv⟩
      rw [vq_len, List.length_reverse, show decide (qs.length = qs.length) = true by simp]
      wtm_at "m"
      wtm_at "m"
      refine WB_cons ?_
      wtm_at "one"
      refine WC_sub (τ := w.tsg re true true [vS (S [wc, 38]), vS (S [wc])] (vq (pEnd wc qs qs.length)) nv (List.replicate (qs.length + 1 - qs.length) (.bool false)) ((237, .obj (tabObj pst)) :: (ex ++ (pk, .list (vq qs)) :: ρ))) (by wtm_at "sb") (C_pi (n := n + 1) r' T' F G D0 (by have := pEnd_len wc qs qs.length; rw [vq_len]; wtm_at "om") ?_)
      wtm_at "m"
      refine WB_cons ?_
      wtm_at "one"
      rw [show vq (pEnd wc qs qs.length) ++ [vS (S [10])] ++ [vS (S [60, 63, 35, 63, 62])] = ((pEnd wc qs qs.length ++ [[10]] ++ [[60, 63, 35, 63, 62]]).map S).map vS by unfold vq; simp]
      refine WC_join (by wtm_at "at") (joinOk_S ?_) ?_
      · have := pageT_len (wc := wc) (fun q hq' => (hq q hq').2) hn
        unfold pageT at this
        wtm_at "om"
      rw [glued_S]
      wtm_at "all"
      refine ret_now (τ := (237, .obj (tabObj pst)) :: (pk, .list (vq qs)) :: ρ) ?_ (h pst)
      iterate 10 (refine Sub.skip ?_)
      exact sub_back (esg re) (.cons .here (sub_back ex .refl))
end
section
variable {C : Cx} {A : Around} {L : Addr} {μ : Mu} {σ ρ : Sg} {n : Nat} {K : Frag} {Q : Value → Sg → Prop} {env : Env}
theorem WC_intB {b : Bool} (h : Q (vI (if b then 1 else 0)) σ) : WC C A L (.type "int") [.bool b] σ Q := WC1 fun μ a' ea => WV_by fun s hs Q' q => by
  rw [can_bool ea]
  exact call_int_bool (q _ _ _ h hs.toks)
theorem WC_sortedI {a : Addr} {ns : List Int} {f : AO → Sg} (x : At σ a (.list (ns.map vI)) f) (hz : ns.length < 64) (h : ∀ c (ns' : List Int), ns'.Perm ns → ns'.Pairwise (· ≤ ·) → Q (.ref c) ((c, .list (ns'.map vI)) :: σ)) : WC C A L (.builtin "sorted") [.ref a] σ Q := WC1 fun μ a' ea => WV_by fun s hs Q' q => by
  rw [can_ref ea]
  obtain ⟨m, news, F, k, N, R⟩ := hs.news
  obtain ⟨items, n0, e, hm⟩ := hs.list x
  have hI := ints_of hm
  have hl := map_len hm
  rw [List.length_map] at hl
  exact sorted_N F N ⟨_, e, rfl, n0, rfl⟩ hI (by wtm_at "om") fun h' vs' ns' e' F' N' hI' hp hs' => q _ _ _ (h _ ns' hp hs') (hs.grow F' k N R N' (Nat.le_succ _) ⟨vs', e', rfl, of_ints hI'⟩)
theorem WC_sumI {n : Nat} {a : Addr} {ns : List Int} {f : AO → Sg} (r : Room A n) (x : At σ a (.list (ns.map vI)) f) (h : Q (vI ns.sum) σ) : WC C A L (.builtin "sum") [.ref a] σ Q := WC1 fun μ a' ea => WV_by fun s hs Q' q => by
  rw [can_ref ea]
  obtain ⟨m, news, F, k, N, R⟩ := hs.news
  obtain ⟨items, n0, e, hm⟩ := hs.list x
  exact sumK r.hh F N ⟨_, e, rfl, n0, rfl⟩ (ints_of hm) fun h' tk t' F' N' => q _ _ _ h (hs.back F' k N' R hs.nd)
theorem WC_listS {n : Nat} {t : List Nat} (r : Room A n) (hz : t.length ≤ 1000000) (h : ∀ c, Q (.ref c) ((c, .list (cl t)) :: σ)) : WC C A L (.type "list") [vS (S t)] σ Q := WC1 fun μ a' ea => WV_by fun s hs Q' q => by
  obtain ⟨u, rfl⟩ := can_str ea
  obtain ⟨m, news, F, k, N, R⟩ := hs.news
  have big := big_line
  refine call_list_str r.hh (S t) u (hn := by rw [show (S t).cps.size = t.length by simp]; wtm_at "om") fun h' tk acc c hk hS hI => q _ _ _ (h _) (hs.grow (F.keeps hk) k N R (N.kept_cons F hk (Nat.le_refl _) hS) (Nat.le_refl _) ⟨acc.toList, c, by simp, ?_⟩)
  obtain ⟨hsz, hI⟩ := hI
  have hsz : acc.toList.length = t.length := by simpa using hsz
  refine List.ext_getElem? fun j => ?_
  unfold cl
  rw [List.getElem?_map, List.getElem?_map]
  by_cases hj : j < t.length
  · obtain ⟨c', u', h1, h2⟩ := hI j acc.toList[j] (by rw [← Array.getElem?_toList]; simp [hsz, hj])
    have h1 : t[j]? = some c' := by simpa using h1
    rw [h1, List.getElem?_eq_getElem (by wtm_at "om"), h2]
    rfl
  · rw [List.getElem?_eq_none (by wtm_at "om"), List.getElem?_eq_none (by wtm_at "om")]
    rfl
/- a tag's name -/
theorem idx_mid {m : Nat} (h : 3 ≤ m) : Builtin.Str.strSliceIndices (some 2) (some (-1)) 1 m = (List.range (m - 3)).map (2 + ·) := by
  rw [PySem.StrLaws.sliceIdx_neg_hi (some 2) (j := -1) m (by wtm_at "om") (by wtm_at "om"), show ((-1 : Int) + (m : Int)) = ((m - 1 : Nat) : Int) by wtm_at "om"]
  have := PySem.StrLaws.strSliceIndices_plain (a := 2) (b := m - 1) (len := m) (by wtm_at "om") (by wtm_at "om")
  rw [show (m - 1) - 2 = m - 3 by wtm_at "om"] at this
  exact this
theorem pick_eq (vs : List Value) (lo hi st : Option Int) : pick vs lo hi st = (slicePick vs.toArray lo hi st).toList := by
  unfold pick slicePick
  simp only [List.size_toArray, List.getElem?_toArray]
theorem pick_from (vs : List Value) {a : Nat} (h : a ≤ vs.length) : pick vs (some (a : Int)) none none = vs.drop a := by
  rw [pick_eq, slicePick_from vs.toArray a (by simpa using h)]
theorem pick_upto (vs : List Value) {b : Nat} (h : b ≤ vs.length) : pick vs none (some (b : Int)) none = vs.take b := by
  rw [pick_eq, slicePick_upto vs.toArray b (by simpa using h)]
theorem pick_mid (vs : List Value) {a b : Nat} (hab : a ≤ b) (h : b ≤ vs.length) : pick vs (some (a : Int)) (some (b : Int)) none = (vs.drop a).take (b - a) := by
  unfold pick
  rw [show sliceBounds (some (a : Int)) (some (b : Int)) none vs.length = ((a : Int), (b : Int), 1) by
    simp only [sliceBounds, Option.getD_none]
    have h1 : ¬ ((a : Int) < 0) := by wtm_at "om"
    have h2 : ¬ ((b : Int) < 0) := by wtm_at "om"
    simp only [h1, h2, if_false, show (1 : Int) > 0 by decide, if_true]
    rw [show max 0 (min (a : Int) vs.length) = a by wtm_at "om", show max 0 (min (b : Int) vs.length) = b by wtm_at "om"]]
  dsimp only
  rw [sliceRange_one]
  have := pick_run vs.toArray a (b - a)
  simpa using this
theorem flat_get {α : Type} : ∀ (l : List (α × α)) (k : Nat), (l.flatMap fun p => [p.1, p.2])[2 * k]? = l[k]?.map (·.1) ∧ (l.flatMap fun p => [p.1, p.2])[2 * k + 1]? = l[k]?.map (·.2)
  | [], k => by simp
  | p :: r, 0 => by simp
  | p :: r, k + 1 => by
    have := flat_get r k
    rw [show 2 * (k + 1) = 2 * k + 1 + 1 by wtm_at "om"]
    simpa using this
theorem flat_len {α : Type} (l : List (α × α)) : (l.flatMap fun p => [p.1, p.2]).length = 2 * l.length := by
  induction l with
  | nil => rfl
  | cons a r ih => simp only [List.flatMap_cons, List.length_append, ih, List.length_cons, List.length_nil]; wtm_at "om"
theorem range_fm {α β : Type} (l : List α) (g : α → β) : (List.range l.length).filterMap (fun k => l[k]?.map g) = l.map g := by
  induction l with
  | nil => rfl
  | cons a r ih =>
    rw [List.length_cons, List.range_succ_eq_map, List.filterMap_cons, List.filterMap_map, show ((fun k => Option.map g (a :: r)[k]?) ∘ Nat.succ) = fun k => r[k]?.map g by funext k; simp, ih]
    rfl
theorem step2 (n : Nat) : sliceRange 0 ((2 * n : Nat) : Int) 2 = (List.range n).map fun k => 2 * k := by
  unfold sliceRange
  rcases Nat.eq_zero_or_pos n with e | e
  · subst e; rfl
  · simp only [show (2 : Int) > 0 by decide, if_true, show (0 : Int) < ((2 * n : Nat) : Int) by wtm_at "om"]
    rw [show ((((2 * n : Nat) : Int) - 0 + 2 - 1) / 2).toNat = n by wtm_at "om"]
    apply List.map_congr_left
    intro k _
    wtm_at "om"
theorem step2b (n : Nat) : sliceRange ((min 1 (2 * n) : Nat) : Int) ((2 * n : Nat) : Int) 2 = (List.range n).map fun k => 2 * k + 1 := by
  unfold sliceRange
  rcases Nat.eq_zero_or_pos n with e | e
  · subst e; rfl
  · rw [show min 1 (2 * n) = 1 by wtm_at "om"]
    simp only [show (2 : Int) > 0 by decide, if_true, show (((1 : Nat) : Int)) < ((2 * n : Nat) : Int) by wtm_at "om"]
    rw [show ((((2 * n : Nat) : Int) - ((1 : Nat) : Int) + 2 - 1) / 2).toNat = n by wtm_at "om"]
    apply List.map_congr_left
    intro k _
    wtm_at "om"
theorem pick_even (l : List (Value × Value)) : pick (l.flatMap fun p => [p.1, p.2]) none none (some 2) = l.map (·.1) := by
  unfold pick
  rw [flat_len]
  show (sliceRange 0 ((2 * l.length : Nat) : Int) 2).filterMap _ = _
  rw [step2, List.filterMap_map, ← range_fm]
  exact fm_congr fun k _ => (flat_get l k).1
theorem pick_odd (l : List (Value × Value)) : pick (l.flatMap fun p => [p.1, p.2]) (some 1) none (some 2) = l.map (·.2) := by
  unfold pick
  rw [flat_len]
  show (sliceRange (max 0 (min 1 ((2 * l.length : Nat) : Int))) ((2 * l.length : Nat) : Int) 2).filterMap _ = _
  rw [show max 0 (min 1 ((2 * l.length : Nat) : Int)) = ((min 1 (2 * l.length) : Nat) : Int) by wtm_at "om", step2b, List.filterMap_map, ← range_fm]
  exact fm_congr fun k _ => (flat_get l k).2
end
noncomputable def nmL : List (List Nat) := [[102, 102], [102, 105], [102, 108], [102, 102, 105], [102, 102, 108], [115, 116], [116], [102]]
noncomputable def cellN (xs : List Int) (k : Nat) : Int := if k < xs.length then xs.getD k 0 else ([150, 105, 3400] : List Int).getD k 0
noncomputable def seedN (c2 : Int) (k : Nat) : Int := c2 + 101 * k
noncomputable def tyN (c2 : Int) (k : Nat) : List Nat := typedN (nmL.getD k []) k (seedN c2 k)
noncomputable def tys (c2 : Int) : List (List Nat) := (List.range 8).map (tyN c2)
noncomputable def cutN (c0 : Int) : Nat := (1 + c0 % 7).toNat
noncomputable def wcN (c0 : Int) : Nat := ([10, 9, 32] : List Nat).getD (c0 / 7 % 3).toNat 0
noncomputable def lowN (c0 : Int) : Nat := (c0 / 21 % 32).toNat
noncomputable abbrev lawCl (L' : Addr) : List (Str × Addr) := [("j", L' + 9), ("deck", L' + 8), ("low", L' + 7), ("cut", L' + 6), ("typed", L' + 5), ("seeds", L' + 4), ("names", L' + 3), ("cells", L' + 2), ("script", L' + 1)]
noncomputable abbrev lawE (pm : Value) (L' lf lc : Addr) : Env := callEnvC (fdOf (stm 31) "law" "law" pm lc .none .none) L' lf
theorem lit49 : (Str.ofString "&amp;") = S [38, 97, 109, 112, 59] := by kernel_rfl
section
variable {C : Cx} {A : Around} {L : Addr} {μ : Mu} {σ ρ : Sg} {n : Nat} {K : Frag} {Q : Value → Sg → Prop} {env : Env}
noncomputable def gI (f : Int → Value) : Value → Option Value
  | .int i _ => some (f i)
  | _ => none
theorem gI_map (f : Int → Value) (a : Int) (n : Nat) : ((List.range n).map fun (i : Nat) => vI (a + i)).filterMap (gI f) = (List.range n).map fun (i : Nat) => f (a + i) := by
  rw [List.filterMap_map]
  show (List.range n).filterMap (fun (i : Nat) => some (f (a + i))) = _
  exact congrFun List.filterMap_eq_map _
theorem rng_mem {a : Int} {n : Nat} {v : Value} (h : v ∈ (List.range n).map fun (i : Nat) => vI (a + i)) : ∃ i < n, v = vI (a + (i : Nat)) := by
  obtain ⟨i, hi, rfl⟩ := List.mem_map.mp h
  exact ⟨i, List.mem_range.mp hi, rfl⟩
theorem WE_celC {scope : Scope} {L0 : Addr} {env0 : Env} {x : Str} {pos : Pos} {cl : List (Str × Addr)} {c : Addr} {v : Value} {f : AO → Sg} {Q : Value → Sg → Prop} (h : Q v σ) (hc : LookIn x cl c) (hv : At σ c (.cell (some v)) f) (hk : (compEnvC scope cl L0 env0).scope.kind = .function) (hl : (compEnvC scope cl L0 env0).kindOf x = some .cell) (hd : (x == ("__debug__" : Str)) = false) : WE C A (compEnvC scope cl L0 env0) (.Name x pos) μ σ Q := WE_cel h rfl hc hv hk hl hd
theorem law_in {lf lc sc : Addr} (HL : HasFn K lf lc (stm 31) "law" "law" .none .none) (r : Room A (n + 1)) (T : Tp (DD K) C)
    (h : ∀ pm C' L', C.Le C' → Tp (DD K) C' → Room (A.deeper (lawE pm L' lf lc)) n → (lawE pm L' lf lc).cells = lawCl L' → WB C' (A.deeper (lawE pm L' lf lc)) (lawE pm L' lf lc) (bodyOf (stm 31)) [] ((L' + 9, .cell none) :: (L' + 8, .cell none) :: (L' + 7, .cell none) :: (L' + 6, .cell none) :: (L' + 5, .cell none) :: (L' + 4, .cell none) :: (L' + 3, .cell none) :: (L' + 2, .cell none) :: (L' + 1, .cell (some (.ref sc))) :: σ) (fun fl _ σ' => Ret Q (retV fl) σ')) : WC C A L (.ref lf) [.ref sc] σ Q :=
  WCK.wc (WCK_fnC HL T ["script"] [] lawCl (fun L' => [(L' + 9, .cell none), (L' + 8, .cell none), (L' + 7, .cell none), (L' + 6, .cell none), (L' + 5, .cell none), (L' + 4, .cell none), (L' + 3, .cell none), (L' + 2, .cell none), (L' + 1, .cell (some (.ref sc)))]) r (by kernel_rfl) (by intro; kernel_rfl) (by intro; kernel_rfl) (by (intro pm; refine' ln1 rfl ?_; intro a; kernel_rfl)) ["j", "deck", "low", "cut", "typed", "seeds", "names", "cells", "script"] (by intro; rfl) (by kernel_rfl) (by kernel_rfl) (by decide +kernel) (by kernel_rfl) (by kernel_rfl) (by kernel_rfl) h)
/- a list of the ground -/
noncomputable def LsF (C : Cx) (a : Addr) (vs : List Value) : Prop := ∃ (items : List Value) (n : Nat), C.h₀.get? a = some ⟨.type "list", none, .seq items.toArray n, #[]⟩ ∧ items.map can = vs
theorem LsF.le {C C' : Cx} {a : Addr} {vs : List Value} (x : LsF C a vs) (l : C.Le C') : LsF C' a vs := let ⟨i, n, e, h⟩ := x; ⟨i, n, l.keep _ _ e, h⟩
theorem PI_listF {a : Addr} {vs : List Value} (x : LsF C a vs) : PlainItem C σ (.ref a) := fun L μ s hs o' e => by
  rw [can_ref e]
  obtain ⟨items, n, h, _⟩ := x
  exact ⟨"list", _, ⟨_, hs.keep _ _ h, rfl⟩, slot_list_getitem.lookup⟩
theorem WG_listF {a : Addr} {vs : List Value} {i : Int} {x : Value} {Q : Value → Sg → Prop} (h1 : LsF C a vs) (h0 : 0 ≤ i) (hi : i < 2 ^ 63) (hx : vs[i.toNat]? = some x) (h : Q x σ) : WG C A L (.ref a) (vI i) σ Q := fun μ o' i' ho hi' => by
  rw [can_ref ho]
  obtain ⟨t, rfl⟩ := can_int hi'
  refine WV_by fun s hs Q' q => ?_
  obtain ⟨items, n, e, hm⟩ := h1
  obtain ⟨x', e1, rfl⟩ := map_get hm hx
  exact wpAny_getItem_list ⟨_, hs.keep _ _ e, rfl, n, rfl⟩ h0 hi (by simpa using e1) (q _ _ _ h hs)
theorem WC_lenF {a : Addr} {vs : List Value} {Q : Value → Sg → Prop} (x : LsF C a vs) (hz : vs.length ≤ 1000000) (h : Q (vI vs.length) σ) : WC C A L (.builtin "len") [.ref a] σ Q :=
  WC1 fun μ a' ea => WV_by fun s hs Q' q => by
    rw [can_ref ea]
    obtain ⟨items, n, e, hm⟩ := x
    have hl := map_len hm
    refine call_len_list ⟨_, hs.keep _ _ e, rfl, n, rfl⟩ (by simp; wtm_at "om") (q _ _ _ ?_ hs.toks)
    show Q (vI _) σ
    simp only [List.size_toArray, hl]
    exact h
/- the cells and what they hold -/
noncomputable abbrev lawS (xs : List Int) (L' sc a1 a2 a3 a4 : Addr) (dk jv : Option Value) (ρ : Sg) : Sg := (L' + 1, .cell (some (.ref sc))) :: (L' + 2, .cell (some (.ref a1))) :: (L' + 3, .cell (some (.ref a2))) :: (L' + 4, .cell (some (.ref a3))) :: (L' + 5, .cell (some (.ref a4))) :: (L' + 6, .cell (some (vI (cutN (cellN xs 0))))) :: (L' + 7, .cell (some (vI (lowN (cellN xs 0))))) :: (L' + 8, .cell dk) :: (L' + 9, .cell jv) ::
      (a1, .list [vI (cellN xs 0), vI (cellN xs 1), vI (cellN xs 2)]) :: (a2, .list (vq nmL)) :: (a3, .list ((List.range 8).map fun k => vI (seedN (cellN xs 2) k))) :: (a4, .list (vq (tys (cellN xs 2)))) :: ρ
theorem law_a {pm : Value} {lf lc sc L' : Addr} {xs : List Int} {Q : Flow → Mu → Sg → Prop} (hx : xs.length ≤ 100) (hsc : LsF C sc (xs.map vI)) (r : Room A (n + 5)) (T : Tp (DD K) C) (F : KF K) (hcl : (lawE pm L' lf lc).cells = lawCl L')
    (h : ∀ a1 a2 a3 a4, WB C A (lawE pm L' lf lc) ((bodyOf (stm 31)).drop 7) [("white", vS (S [wcN (cellN xs 0)]))] (lawS xs L' sc a1 a2 a3 a4 none none ρ) Q) :
    WB C A (lawE pm L' lf lc) (bodyOf (stm 31)) [] ((L' + 9, .cell none) :: (L' + 8, .cell none) :: (L' + 7, .cell none) :: (L' + 6, .cell none) :: (L' + 5, .cell none) :: (L' + 4, .cell none) :: (L' + 3, .cell none) :: (L' + 2, .cell none) :: (L' + 1, .cell (some (.ref sc))) :: ρ) Q := by
  refine WB_cons ?_
  wtm_at "one"
  refine WE_LC [("script", L' + 1)] r ?_ (by kernel_rfl) (by kernel_rfl) (by kernel_rfl) (by kernel_rfl) (by intro _; rfl) (by intro _ _; rfl)
  wtm_at "one"
  refine WC_range1 fun rg t u v => ?_
  refine lgo (τ := _) ((List.range 3).map fun (i : Nat) => vI (0 + i)) (fun _ => True) (gI fun i => vI (cellN xs i.toNat)) .refl (ItS_range .here (by decide) (by decide) (by decide) (by decide)) trivial (by decide) ?_ (fun D => ?_)
  · intro C'' L'' v it D o ys l'' hv
    obtain ⟨i, hi, rfl⟩ := rng_mem hv
    have T'' := T.le l''
    refine WTg_name ?_
    wtm_at "one"
    refine WC_lenF (hsc.le l'') (by simp; wtm_at "om") ?_
    wtm_at "one"
    rw [List.length_map]
    refine br (fun hb => ?_) (fun hb => ?_)
    · have hb := of_decide_eq_true hb
      have hc : cellN xs ((0 : Int) + (i : Int)).toNat = xs.getD i 0 := by
        rw [show ((0 : Int) + (i : Int)).toNat = i by wtm_at "om"]
        exact if_pos (by wtm_at "om")
      wtm_at "one"
      refine item_now (PI_listF (hsc.le l'')) ?_
      refine WG_listF (x := vI (cellN xs ((0 : Int) + (i : Int)).toNat)) (hsc.le l'') (by wtm_at "om") (by wtm_at "om") ?_ ?_
      · rw [hc, show ((0 : Int) + (i : Int)).toNat = i by wtm_at "om", List.getElem?_map, List.getElem?_eq_getElem (by wtm_at "om")]
        simp [List.getD, show i < xs.length by wtm_at "om"]
      exact ⟨by wtm_at "sub", rfl⟩
    · have hb := of_decide_eq_false hb
      have hc : cellN xs ((0 : Int) + (i : Int)).toNat = ([150, 105, 3400] : List Int).getD i 0 := by
        rw [show ((0 : Int) + (i : Int)).toNat = i by wtm_at "om"]
        exact if_neg (by wtm_at "om")
      wtm_at "one"
      refine WG_list (x := vI (cellN xs ((0 : Int) + (i : Int)).toNat)) (by wtm_at "at") (by wtm_at "om") (by wtm_at "om") ?_ ?_
      · rw [hc, show ((0 : Int) + (i : Int)).toNat = i by wtm_at "om"]
        rcases i with _|_|_|i <;> first | rfl | wtm_at "om"
      exact ⟨by wtm_at "sub", rfl⟩
  rw [gI_map, show ((List.range 3).map fun (i : Nat) => vI (cellN xs ((0 : Int) + (i : Int)).toNat)) = [vI (cellN xs 0), vI (cellN xs 1), vI (cellN xs 2)] from rfl]
  wtm_at "all"
  rename_i a2
  rw [show [vS (S [102, 102]), vS (S [102, 105]), vS (S [102, 108]), vS (S [102, 102, 105]), vS (S [102, 102, 108]), vS (S [115, 116]), vS (S [116]), vS (S [102])] = vq nmL from rfl]
  refine WE_LC [("cells", L' + 2)] r ?_ (by kernel_rfl) (by kernel_rfl) (by kernel_rfl) (by kernel_rfl) (by intro _; rfl) (by intro _ _; rfl)
  wtm_at "one"
  refine WC_range1 fun rg2 t2 u2 v2 => ?_
  refine lgo (τ := _) ((List.range 8).map fun (i : Nat) => vI (0 + i)) (fun _ => True) (gI fun i => vI (seedN (cellN xs 2) i.toNat)) .refl (ItS_range .here (by decide) (by decide) (by decide) (by decide)) trivial (by decide) ?_ (fun D3 => ?_)
  · intro C'' L'' v it D o ys l'' hv
    obtain ⟨i, hi, rfl⟩ := rng_mem hv
    have T'' := T.le l''
    refine WTg_name ?_
    wtm_at "one"
    refine WG_list (x := vI (cellN xs 2)) (by wtm_at "at") (by wtm_at "om") (by wtm_at "om") rfl ?_
    wtm_at "one"
    refine B_mul ?_ ?_
    · exact IntMulOk.of_left (by decide +kernel)
    wtm_at "one"
    refine ⟨by wtm_at "sub", ?_⟩
    show some (vI (seedN (cellN xs 2) ((0 : Int) + (i : Int)).toNat)) = _
    unfold seedN
    rw [show ((((0 : Int) + (i : Int)).toNat : Nat) : Int) = 0 + (i : Int) by wtm_at "om"]
  rw [gI_map, show ((List.range 8).map fun (i : Nat) => vI (seedN (cellN xs 2) ((0 : Int) + (i : Int)).toNat)) = (List.range 8).map fun k => vI (seedN (cellN xs 2) k) by apply List.map_congr_left; intro k _; rw [show ((0 : Int) + (k : Int)).toNat = k by wtm_at "om"]]
  wtm_at "all"
  refine WE_LC [("seeds", L' + 4), ("names", L' + 3)] r ?_ (by kernel_rfl) (by kernel_rfl) (by kernel_rfl) (by kernel_rfl) (by intro _; rfl) (by intro _ _; rfl)
  wtm_at "one"
  refine WC_range1 fun rg3 t3 u3 v3 => ?_
  refine lgo (τ := _) ((List.range 8).map fun (i : Nat) => vI (0 + i)) (fun _ => True) (gI fun i => vS (S (tyN (cellN xs 2) i.toNat))) .refl (ItS_range .here (by decide) (by decide) (by decide) (by decide)) trivial (by decide) ?_ (fun D4 => ?_)
  · intro C'' L'' v it D o ys l'' hv
    obtain ⟨i, hi, rfl⟩ := rng_mem hv
    have T'' := T.le l''
    refine WTg_name ?_
    wtm_at "one"
    have hn : (vq nmL)[((0 : Int) + (i : Int)).toNat]? = some (vS (S (nmL.getD i []))) ∧ (∀ c ∈ nmL.getD i [], 97 ≤ c ∧ c ≤ 122) ∧ (nmL.getD i []).length ≤ 100 := by
      rw [show ((0 : Int) + (i : Int)).toNat = i by wtm_at "om"]
      rcases i with _|_|_|_|_|_|_|_|i <;> first | exact ⟨rfl, by decide, by decide⟩ | wtm_at "om"
    refine WG_list (x := vS (S (nmL.getD i []))) (by wtm_at "at") (by wtm_at "om") (by wtm_at "om") hn.1 ?_
    wtm_at "one"
    refine WG_list (x := vI (seedN (cellN xs 2) i)) (by wtm_at "at") (by wtm_at "om") (by wtm_at "om") (by rw [show ((0 : Int) + (i : Int)).toNat = i by wtm_at "om"]; simp [hi]) ?_
    wtm_at "one"
    rw [show ((0 : Int) + (i : Int)) = (i : Int) by wtm_at "om"]
    refine C_typed (n := n + 2) r T'' F hn.2.1 hn.2.2 hi ?_
    exact ⟨by wtm_at "sub", rfl⟩
  rw [gI_map, show ((List.range 8).map fun (i : Nat) => vS (S (tyN (cellN xs 2) ((0 : Int) + (i : Int)).toNat))) = vq (tys (cellN xs 2)) by
    unfold vq tys
    rw [List.map_map]
    apply List.map_congr_left
    intro k _
    rw [show ((0 : Int) + (k : Int)).toNat = k by wtm_at "om"]
    rfl]
  wtm_at "all"
  refine WG_list (x := vI (cellN xs 0)) (by wtm_at "at") (by wtm_at "om") (by wtm_at "om") rfl ?_
  wtm_at "all"
  refine WG_list (x := vI (cellN xs 0)) (by wtm_at "at") (by wtm_at "om") (by wtm_at "om") rfl ?_
  wtm_at "one"
  have h3 : 0 ≤ cellN xs 0 / 7 % 3 ∧ cellN xs 0 / 7 % 3 < 3 := by wtm_at "om"
  refine WG_S h3.1 (by simpa using h3.2) (by simp) ?_
  wtm_at "all"
  refine WG_list (x := vI (cellN xs 0)) (by wtm_at "at") (by wtm_at "om") (by wtm_at "om") rfl ?_
  wtm_at "one"
  rw [show 1 + cellN xs 0 % 7 = ((cutN (cellN xs 0) : Nat) : Int) by unfold cutN; wtm_at "om", show cellN xs 0 / 21 % 32 = ((lowN (cellN xs 0) : Nat) : Int) by unfold lowN; wtm_at "om", show ([10, 9, 32] : List Nat).getD (cellN xs 0 / 7 % 3).toNat 0 = wcN (cellN xs 0) from rfl]
  exact W_sub2 (by wtm_at "lem") (by wtm_at "sb") (h D a2 D3 D4)
end
noncomputable def begT (q : List Nat) : List Nat := [60] ++ q ++ [62]
noncomputable def endT (q : List Nat) : List Nat := [60, 47] ++ q ++ [62]
noncomputable abbrev ampL : List Nat := [38, 97, 109, 112, 59]
noncomputable abbrev piL : List Nat := [60, 63, 35, 63, 62]
noncomputable def rawTags (qs : List (List Nat)) : List (List Nat) := qs.map begT ++ qs.reverse.map endT
noncomputable def pairsN (qs : List (List Nat)) : List (List Nat × List Nat) := (rawTags qs).zip (List.replicate (2 * qs.length - 1) ampL ++ [piL])
noncomputable def pageW (qs : List (List Nat)) : List (List Nat) := (pairsN qs).flatMap fun p => [p.1, p.2]
noncomputable def safe (q : List Nat) : Prop := ∀ c ∈ q, c ∉ white ∧ c ≠ 34 ∧ c ≠ 92
/- what is so of the typed cards -/
structure TyOk (c2 : Int) (k : Nat) : Prop where
  safe : safe (tyN c2 k)
  len : (tyN c2 k).length ≤ 10
  brace : (tyN c2 k).take 1 ≠ [123]
  known : ∀ c ∈ tyN c2 k, c ∈ b1N ∨ (dom.lookup c).isSome = true
  prep : prep (tyN c2 k) = nmL.getD k []
  ne : tyN c2 k ≠ []
/- a sign that may stand in a typed card -/
noncomputable def okc (c : Nat) : Bool := !white.contains c && c != 34 && c != 92 && c != 123 && (b1N.contains c || (dom.lookup c).isSome)
theorem hid_ok : ((List.range 27).all fun p => b1N.contains (hidN (p : Int)).toNat && okc (hidN (p : Int)).toNat) = true := by decide +kernel
/- what is shown, is good -/
noncomputable def okw (name w : List Nat) : Bool := w.all okc && prep w == name && decide (w.length ≤ 9) && !w.isEmpty
theorem forms_ok : ((List.range 8).all fun k => ((List.range 12).all fun f => okw (nmL.getD k []) ((nmL.getD k []).map fun c => letN c (f : Int))) && okw (nmL.getD k []) [lig k]) = true := by decide +kernel
theorem long_ok : okw (nmL.getD 5 []) [64261] = true := by decide +kernel
theorem hid_in (x : Int) : (hidN x).toNat ∈ b1N ∧ okc (hidN x).toNat = true := by
  have e : hidN x = hidN (((x % 27).toNat : Nat) : Int) := by
    have h : (((x % 27).toNat : Nat) : Int) = x % 27 := by wtm_at "om"
    unfold hidN
    rw [h, Int.emod_emod_of_dvd x (by decide : (27 : Int) ∣ 27)]
  have h := List.all_eq_true.mp hid_ok (x % 27).toNat (List.mem_range.mpr (by wtm_at "om"))
  rw [← e, Bool.and_eq_true, List.contains_iff_mem] at h
  exact h
theorem shown_ok (c2 : Int) {k : Nat} (hk : k < 8) : okw (nmL.getD k []) (shown (nmL.getD k []) k (seedN c2 k)) = true := by
  have h := List.all_eq_true.mp forms_ok k (List.mem_range.mpr hk)
  rw [Bool.and_eq_true] at h
  unfold shown
  split
  · have := List.all_eq_true.mp h.1 (seedN c2 k / 3 % 12).toNat (List.mem_range.mpr (by wtm_at "om"))
    rwa [show (((seedN c2 k / 3 % 12).toNat : Nat) : Int) = seedN c2 k / 3 % 12 by wtm_at "om"] at this
  · rename_i h1
    split
    · rename_i h2
      obtain rfl : k = 5 := by
        by_cases e : k = 5
        · exact e
        · exact absurd (.inr ⟨h2, e⟩) h1
      exact long_ok
    · exact h.2
theorem prep_cat (a b : List Nat) : prep (a ++ b) = prep a ++ prep b := by unfold prep; simp
theorem prep_hid {c : Nat} (h : c ∈ b1N) : prep [c] = [] := by
  unfold prep
  rw [List.filter_cons_of_neg (by simpa using h)]
  rfl
theorem tyOk_of {c2 : Int} {k : Nat} (h1 : (tyN c2 k).all okc = true) (h2 : prep (tyN c2 k) = nmL.getD k []) (h3 : (tyN c2 k).length ≤ 10) (h4 : tyN c2 k ≠ []) : TyOk c2 k := by
  have hc : ∀ c ∈ tyN c2 k, (c ∉ white ∧ c ≠ 34 ∧ c ≠ 92) ∧ c ≠ 123 ∧ (c ∈ b1N ∨ (dom.lookup c).isSome = true) := fun c hc => by
    have h := List.all_eq_true.mp h1 c hc
    unfold okc at h
    simp only [Bool.and_eq_true, Bool.or_eq_true, Bool.not_eq_true', bne_iff_ne, List.contains_iff_mem, List.contains_eq_mem, decide_eq_false_iff_not, decide_eq_true_eq] at h
    exact ⟨⟨h.1.1.1.1, h.1.1.1.2, h.1.1.2⟩, h.1.2, h.2⟩
  refine ⟨fun c h => (hc c h).1, h3, fun e => ?_, fun c h => (hc c h).2.2, h2, h4⟩
  have : (123 : Nat) ∈ tyN c2 k := List.mem_of_mem_take (i := 1) (by rw [e]; exact .head _)
  exact (hc _ this).2.1 rfl
theorem tyOk (c2 : Int) {k : Nat} (hk : k < 8) : TyOk c2 k := by
  have hs := shown_ok c2 hk
  obtain ⟨hh1, hh2⟩ := hid_in (seedN c2 k / 36)
  unfold okw at hs
  simp only [Bool.and_eq_true, beq_iff_eq, decide_eq_true_eq] at hs
  obtain ⟨⟨⟨s1, s2⟩, s3⟩, _⟩ := hs
  have e : tyN c2 k = (hidN (seedN c2 k / 36)).toNat :: shown (nmL.getD k []) k (seedN c2 k) ∨ tyN c2 k = shown (nmL.getD k []) k (seedN c2 k) ++ [(hidN (seedN c2 k / 36)).toNat] := by
    unfold tyN typedN
    split
    · exact .inl rfl
    · exact .inr rfl
  rcases e with e | e
  · refine tyOk_of ?_ ?_ ?_ ?_ <;> rw [e]
    · rw [List.all_cons, hh2, s1]; rfl
    · rw [show ∀ (a : Nat) (l : List Nat), a :: l = [a] ++ l from fun _ _ => rfl, prep_cat, prep_hid hh1, s2]; rfl
    · rw [List.length_cons]; wtm_at "om"
    · simp
  · refine tyOk_of ?_ ?_ ?_ ?_ <;> rw [e]
    · rw [List.all_append, s1, List.all_cons, hh2]; rfl
    · rw [prep_cat, prep_hid hh1, s2, List.append_nil]
    · rw [List.length_append, List.length_singleton]; wtm_at "om"
    · simp
/- a plain run of signs is read as one word -/
theorem bare_run : ∀ (q acc : List Nat) (c : Nat) (r : List Nat), safe q → c ∈ white → bare acc (q ++ c :: r) = (acc ++ q, r)
  | [], acc, c, r, _, hc => by
    rw [List.nil_append, bare_end _ _ hc, List.append_nil]
  | a :: q, acc, c, r, hs, hc => by
    obtain ⟨h1, _, h2⟩ := hs a (.head _)
    rw [List.cons_append, bare_else _ _ h1 h2, bare_run q _ c r (fun b hb => hs b (.tail _ hb)) hc, List.append_assoc]
    rfl
theorem bare_fin : ∀ (q acc : List Nat), safe q → bare acc q = (acc ++ q, [])
  | [], acc, _ => by rw [bare_nil, List.append_nil]
  | a :: q, acc, hs => by
    obtain ⟨h1, _, h2⟩ := hs a (.head _)
    rw [bare_else _ _ h1 h2, bare_fin q _ (fun b hb => hs b (.tail _ hb)), List.append_assoc]
    rfl
theorem word_white {c : Nat} {r : List Nat} (h : c ∈ white) : word (c :: r) = word r := by rw [word, if_pos h]
theorem word_run {q : List Nat} {c : Nat} {r : List Nat} (hs : safe q) (h0 : q ≠ []) (hc : c ∈ white) : word (q ++ c :: r) = (q, r) := by
  cases q with
  | nil => exact absurd rfl h0
  | cons a q =>
    obtain ⟨h1, h2, h3⟩ := hs a (.head _)
    rw [List.cons_append, word, if_neg h1, if_neg h2, if_neg h3, bare_run q _ c r (fun b hb => hs b (.tail _ hb)) hc]
    rfl
theorem word_end {q : List Nat} (hs : safe q) (h0 : q ≠ []) : word q = (q, []) := by
  cases q with
  | nil => exact absurd rfl h0
  | cons a q =>
    obtain ⟨h1, h2, h3⟩ := hs a (.head _)
    rw [word, if_neg h1, if_neg h2, if_neg h3, bare_fin q _ (fun b hb => hs b (.tail _ hb))]
    rfl
/- the page, tag by tag -/
noncomputable def joined (wc : Nat) : List (List Nat) → List Nat
  | [] => []
  | [t] => t ++ [10] ++ piL
  | t :: r => t ++ escL wc ++ joined wc r
noncomputable def joinedW : List (List Nat) → List (List Nat)
  | [] => []
  | [t] => [t, piL]
  | t :: r => t :: ampL :: joinedW r
theorem joined_one (wc : Nat) (t : List Nat) : joined wc [t] = t ++ [10] ++ piL := rfl
theorem safe_amp : safe ampL := by unfold safe; decide
theorem safe_pi : safe piL := by unfold safe; decide
theorem joined_words {wc : Nat} (hw : wc ∈ white) : ∀ (l : List (List Nat)), l ≠ [] → (∀ t ∈ l, safe t ∧ t ≠ []) → Words (joined wc l) (joinedW l) []
  | [], h, _ => absurd rfl h
  | [t], _, hs => by
    obtain ⟨h1, h2⟩ := hs t (.head _)
    show Words (t ++ [10] ++ piL) [t, piL] []
    rw [List.append_assoc]
    refine .cons (word_run (c := 10) (r := piL) h1 h2 (by decide)) h2 ?_
    exact .cons (word_end safe_pi (by decide)) (by decide) (.nil rfl)
  | t :: u :: r, _, hs => by
    obtain ⟨h1, h2⟩ := hs t (.head _)
    have ih := joined_words hw (u :: r) (by simp) (fun x hx => hs x (.tail _ hx))
    show Words (t ++ escL wc ++ joined wc (u :: r)) (t :: ampL :: joinedW (u :: r)) []
    rw [List.append_assoc]
    refine .cons (word_run (c := wc) (r := ampL ++ wc :: joined wc (u :: r)) h1 h2 hw) h2 ?_
    exact .cons (word_run safe_amp (by decide) hw) (by decide) ih
theorem joined_cons {wc : Nat} {t : List Nat} {r : List (List Nat)} (h : r ≠ []) : joined wc (t :: r) = t ++ escL wc ++ joined wc r := by
  cases r with
  | nil => exact absurd rfl h
  | cons u r => rfl
/- the tags up to the last one, each with what follows -/
theorem joined_snoc (wc : Nat) : ∀ (l : List (List Nat)) (t : List Nat), joined wc (l ++ [t]) = (l.flatMap fun t => t ++ escL wc) ++ (t ++ [10] ++ piL)
  | [], t => rfl
  | u :: l, t => by
    rw [List.cons_append, joined_cons (by simp), joined_snoc wc l t, List.flatMap_cons]
    simp only [List.append_assoc]
/- what stands between the tags goes ahead of each but the first -/
theorem shift (e : List Nat) : ∀ (l : List (List Nat)) (t : List Nat), ((t :: l).flatMap fun t => t ++ e) = t ++ (l.flatMap fun t => e ++ t) ++ e
  | [], t => by simp
  | u :: l, t => by
    rw [List.flatMap_cons, shift e l u, List.flatMap_cons]
    simp only [List.append_assoc]
theorem beg_flat (wc : Nat) (qs : List (List Nat)) (q : List Nat) (r : List (List Nat)) (hq : qs = q :: r) : ∀ i, i < qs.length → (pBeg wc qs (i + 1)).flatten = begT q ++ ((r.take i).map begT).flatMap fun t => escL wc ++ t
  | 0, _ => by subst hq; simp [pBeg, begT]
  | i + 1, hi => by
    rw [pBeg_succ, List.flatten_append, beg_flat wc qs q r hq i (by wtm_at "om"), if_neg (by wtm_at "om")]
    have hr : i < r.length := by rw [hq] at hi; simpa using hi
    rw [List.take_add_one, List.getElem?_eq_getElem hr, List.map_append, List.flatMap_append, hq]
    have e : (q :: r).getD (i + 1) [] = r[i] := by simp [hr]
    rw [e]
    simp [begT]
theorem end_flat (wc : Nat) (qs : List (List Nat)) : ∀ i, i ≤ qs.length → (pEnd wc qs i).flatten = (pBeg wc qs qs.length).flatten ++ ((qs.reverse.take i).map endT).flatMap fun t => escL wc ++ t
  | 0, _ => by simp [pEnd]
  | i + 1, hi => by
    rw [pEnd_succ, List.flatten_append, end_flat wc qs i (by wtm_at "om")]
    have hr : i < qs.reverse.length := by rw [List.length_reverse]; wtm_at "om"
    rw [List.take_add_one, List.getElem?_eq_getElem hr, List.map_append, List.flatMap_append]
    have e : qs.getD (qs.length - 1 - i) [] = qs.reverse[i] := by
      rw [List.getElem_reverse, List.getD_eq_getElem?_getD, List.getElem?_eq_getElem (by wtm_at "om")]
      rfl
    rw [e]
    simp [endT]
theorem page_joined {wc : Nat} {qs : List (List Nat)} (h1 : 1 ≤ qs.length) : pageT wc qs = joined wc (rawTags qs) := by
  obtain ⟨q, r, rfl⟩ : ∃ q r, qs = q :: r := by cases qs with | nil => simp at h1 | cons q r => exact ⟨q, r, rfl⟩
  have e1 := end_flat wc (q :: r) (q :: r).length (Nat.le_refl _)
  have e2 := beg_flat wc (q :: r) q r rfl r.length (by simp)
  rw [show r.length + 1 = (q :: r).length from rfl, List.take_length] at e2
  rw [show (q :: r).length = (q :: r).reverse.length by rw [List.length_reverse], List.take_length, List.length_reverse, e2] at e1
  unfold pageT
  rw [List.flatten_append, List.flatten_append, e1]
  have e3 : rawTags (q :: r) = (begT q :: (r.map begT ++ r.reverse.map endT)) ++ [endT q] := by unfold rawTags; simp
  rw [e3, joined_snoc, shift, List.flatMap_append]
  simp only [List.append_assoc, List.reverse_cons, List.map_append, List.flatMap_append, List.map_cons, List.map_nil, List.flatMap_cons, List.flatMap_nil, List.append_nil, List.flatten_cons, List.flatten_nil]
theorem joinedW_eq : ∀ (l : List (List Nat)), l ≠ [] → joinedW l = (l.zip (List.replicate (l.length - 1) ampL ++ [piL])).flatMap fun p => [p.1, p.2]
  | [], h => absurd rfl h
  | [t], _ => rfl
  | t :: u :: r, _ => by
    show t :: ampL :: joinedW (u :: r) = _
    rw [joinedW_eq (u :: r) (by simp)]
    rfl
theorem tags_len (qs : List (List Nat)) : (rawTags qs).length = 2 * qs.length := by unfold rawTags; simp; wtm_at "om"
theorem safe_beg {q : List Nat} (h : safe q) : safe (begT q) := by
  intro c hc
  unfold begT at hc
  simp only [List.mem_append, List.mem_singleton] at hc
  rcases hc with (rfl | hc) | rfl
  · decide
  · exact h c hc
  · decide
theorem safe_fin {q : List Nat} (h : safe q) : safe (endT q) := by
  intro c hc
  unfold endT at hc
  simp only [List.mem_append, List.mem_cons, List.not_mem_nil, or_false] at hc
  rcases hc with ((rfl | rfl) | hc) | rfl
  · decide
  · decide
  · exact h c hc
  · decide
theorem tags_safe {qs : List (List Nat)} (hs : ∀ q ∈ qs, safe q) : ∀ t ∈ rawTags qs, safe t ∧ t ≠ [] := by
  intro t ht
  unfold rawTags at ht
  rcases List.mem_append.mp ht with ht | ht
  · obtain ⟨q, hq, rfl⟩ := List.mem_map.mp ht
    exact ⟨safe_beg (hs q hq), by simp [begT]⟩
  · obtain ⟨q, hq, rfl⟩ := List.mem_map.mp ht
    exact ⟨safe_fin (hs q (List.mem_reverse.mp hq)), by simp [endT]⟩
theorem page_words {wc : Nat} {qs : List (List Nat)} (hw : wc = 10 ∨ wc = 9 ∨ wc = 32) (h1 : 1 ≤ qs.length) (hs : ∀ q ∈ qs, safe q) : Words (pageT wc qs) (pageW qs) [] := by
  have hne : rawTags qs ≠ [] := fun e => by have := congrArg List.length e; rw [tags_len] at this; simp at this; wtm_at "om"
  rw [page_joined h1, show pageW qs = joinedW (rawTags qs) by rw [joinedW_eq _ hne, tags_len]; rfl]
  exact joined_words (by rcases hw with rfl | rfl | rfl <;> decide) _ hne (tags_safe hs)
theorem cnt_app (a b : List Nat) : cnt (a ++ b) = cnt a + cnt b := by unfold cnt; rw [List.count_append]; wtm_at "om"
theorem cnt_safe {q : List Nat} (h : safe q) : cnt q = 0 := by
  unfold cnt
  rw [List.count_eq_zero.mpr fun hm => (h 10 hm).1 (by decide)]
  rfl
theorem joined_cnt {wc : Nat} (k : Int) (hk : cnt (escL wc) = k) : ∀ (l : List (List Nat)), l ≠ [] → (∀ t ∈ l, safe t ∧ t ≠ []) → cnt (joined wc l) = 1 + k * ((l.length : Int) - 1)
  | [], h, _ => absurd rfl h
  | [t], _, hs => by
    rw [joined_one, cnt_app, cnt_app, cnt_safe (hs t (.head _)).1]
    simp
    decide
  | t :: u :: r, _, hs => by
    rw [joined_cons (by simp), cnt_app, cnt_app, cnt_safe (hs t (.head _)).1, hk, joined_cnt k hk (u :: r) (by simp) fun x hx => hs x (.tail _ hx)]
    simp only [List.length_cons]
    rw [show (((r.length + 1 + 1 : Nat) : Int) - 1) = (((r.length + 1 : Nat) : Int) - 1) + 1 by wtm_at "om", Int.mul_add]
    wtm_at "om"
theorem page_cnt {wc : Nat} {qs : List (List Nat)} (hw : wc = 10 ∨ wc = 9 ∨ wc = 32) (h1 : 1 ≤ qs.length) (hs : ∀ q ∈ qs, safe q) : cnt (pageT wc qs) = 1 + if wc = 10 then 4 * qs.length - 2 else 0 := by
  have hne : rawTags qs ≠ [] := fun e => by have := congrArg List.length e; rw [tags_len] at this; simp at this; wtm_at "om"
  rw [page_joined h1]
  rcases hw with rfl | rfl | rfl
  · rw [joined_cnt 2 (by decide) _ hne (tags_safe hs), tags_len, if_pos rfl]; wtm_at "om"
  · rw [joined_cnt 0 (by decide) _ hne (tags_safe hs), if_neg (by decide)]; wtm_at "om"
  · rw [joined_cnt 0 (by decide) _ hne (tags_safe hs), if_neg (by decide)]; wtm_at "om"
noncomputable def qsN (xs : List Int) : List (List Nat) := (tys (cellN xs 2)).take (cutN (cellN xs 0))
noncomputable def tagsN (xs : List Int) : List (List Nat) := (nmL.take (cutN (cellN xs 0))).map begT ++ (nmL.take (cutN (cellN xs 0))).reverse.map endT
noncomputable def gQ (f : List Nat → List Nat) : Value → Option Value
  | .str s _ => some (vS (S (f s.cps.toList)))
  | _ => none
theorem gQ_map (f : List Nat → List Nat) (l : List (List Nat)) : (vq l).filterMap (gQ f) = vq (l.map f) := by
  unfold vq
  rw [List.filterMap_map, List.map_map]
  exact congrFun List.filterMap_eq_map _
theorem vq_mem {l : List (List Nat)} {v : Value} (h : v ∈ vq l) : ∃ q ∈ l, v = vS (S q) := by
  obtain ⟨q, hq, rfl⟩ := List.mem_map.mp h
  exact ⟨q, hq, rfl⟩
theorem vq_flat (l : List (List Nat × List Nat)) : vq (l.flatMap fun p => [p.1, p.2]) = (l.map fun p => (vS (S p.1), vS (S p.2))).flatMap fun p => [p.1, p.2] := by
  unfold vq
  rw [List.map_flatMap, List.flatMap_map]
  rfl
theorem cut_range (xs : List Int) : 1 ≤ cutN (cellN xs 0) ∧ cutN (cellN xs 0) ≤ 7 := by unfold cutN; wtm_at "om"
theorem qs_len (xs : List Int) : (qsN xs).length = cutN (cellN xs 0) := by
  have := cut_range xs
  unfold qsN tys
  simp; wtm_at "om"
theorem tys_mem {c2 : Int} {q : List Nat} (h : q ∈ tys c2) : ∃ k < 8, q = tyN c2 k := by
  obtain ⟨k, hk, rfl⟩ := List.mem_map.mp h
  exact ⟨k, List.mem_range.mp hk, rfl⟩
theorem qs_mem {xs : List Int} {q : List Nat} (h : q ∈ qsN xs) : ∃ k < 8, q = tyN (cellN xs 2) k := tys_mem (List.mem_of_mem_take h)
theorem rawTags_len (qs : List (List Nat)) : (rawTags qs).length = 2 * qs.length := by unfold rawTags; simp; wtm_at "om"
theorem behind_len {qs : List (List Nat)} (h : 1 ≤ qs.length) : (List.replicate (2 * qs.length - 1) ampL ++ [piL]).length = 2 * qs.length := by simp; wtm_at "om"
theorem pairs_fst {qs : List (List Nat)} (h : 1 ≤ qs.length) : (pairsN qs).map (·.1) = rawTags qs := by
  unfold pairsN
  exact List.map_fst_zip (by rw [rawTags_len, behind_len h]; wtm_at "om")
theorem pairs_snd {qs : List (List Nat)} (h : 1 ≤ qs.length) : (pairsN qs).map (·.2) = List.replicate (2 * qs.length - 1) ampL ++ [piL] := by
  unfold pairsN
  exact List.map_snd_zip (by rw [rawTags_len, behind_len h]; wtm_at "om")
theorem prep_app (a b : List Nat) : prep (a ++ b) = prep a ++ prep b := by
  unfold prep
  rw [List.filter_append, List.map_append, List.flatten_append]
theorem prep_beg (q : List Nat) : prep (begT q) = begT (prep q) := by
  unfold begT
  rw [prep_app, prep_app, show prep [60] = [60] by decide +kernel, show prep [62] = [62] by decide +kernel]
theorem prep_end (q : List Nat) : prep (endT q) = endT (prep q) := by
  unfold endT
  rw [prep_app, prep_app, show prep [60, 47] = [60, 47] by decide +kernel, show prep [62] = [62] by decide +kernel]
theorem qs_prep (xs : List Int) : (qsN xs).map prep = nmL.take (cutN (cellN xs 0)) := by
  unfold qsN tys
  rw [List.map_take, List.map_map]
  congr 1
  rw [show (List.range 8).map (prep ∘ tyN (cellN xs 2)) = (List.range 8).map fun k => nmL.getD k [] from List.map_congr_left fun k hk => (tyOk _ (List.mem_range.mp hk)).prep]
  rfl
theorem tags_eq (xs : List Int) : (rawTags (qsN xs)).map prep = tagsN xs := by
  unfold rawTags tagsN
  rw [← qs_prep, List.map_append, List.map_map, List.map_map, ← List.map_reverse, List.map_map, List.map_map]
  congr 1
  · exact List.map_congr_left fun q _ => prep_beg q
  · exact List.map_congr_left fun q _ => prep_end q
theorem flat_vq (l : List (List Nat)) : ∀ v ∈ vq l, Flat v := fun v h => by
  obtain ⟨q, _, rfl⟩ := List.mem_map.mp h
  exact .inr ⟨_, rfl⟩
theorem known_tag {xs : List Int} {w : List Nat} (h : w ∈ rawTags (qsN xs)) : (∀ c ∈ w, c ∈ b1N ∨ (dom.lookup c).isSome = true) ∧ w.length ≤ 20 := by
  have key : ∀ q ∈ qsN xs, (∀ c ∈ begT q, c ∈ b1N ∨ (dom.lookup c).isSome = true) ∧ (∀ c ∈ endT q, c ∈ b1N ∨ (dom.lookup c).isSome = true) ∧ q.length ≤ 10 := by
    intro q hq
    obtain ⟨k, hk, rfl⟩ := qs_mem hq
    have t := tyOk (cellN xs 2) hk
    have h1 : ∀ c ∈ [60, 47, 62], c ∈ b1N ∨ (dom.lookup c).isSome = true := by decide +kernel
    refine ⟨fun c hc => ?_, fun c hc => ?_, t.len⟩
    · unfold begT at hc
      simp only [List.mem_append, List.mem_cons, List.not_mem_nil, or_false] at hc
      rcases hc with (rfl | hc) | rfl
      · exact h1 _ (by simp)
      · exact t.known c hc
      · exact h1 _ (by simp)
    · unfold endT at hc
      simp only [List.mem_append, List.mem_cons, List.not_mem_nil, or_false] at hc
      rcases hc with ((rfl | rfl) | hc) | rfl
      · exact h1 _ (by simp)
      · exact h1 _ (by simp)
      · exact t.known c hc
      · exact h1 _ (by simp)
  unfold rawTags at h
  rcases List.mem_append.mp h with h | h
  · obtain ⟨q, hq, rfl⟩ := List.mem_map.mp h
    obtain ⟨a, b, c⟩ := key q hq
    exact ⟨a, by unfold begT; simp; wtm_at "om"⟩
  · obtain ⟨q, hq, rfl⟩ := List.mem_map.mp h
    obtain ⟨a, b, c⟩ := key q (List.mem_reverse.mp hq)
    exact ⟨b, by unfold endT; simp; wtm_at "om"⟩
section
variable {C : Cx} {A : Around} {L : Addr} {μ : Mu} {σ ρ : Sg} {n : Nat} {K : Frag} {env : Env}
theorem law_b {pm : Value} {lf lc sc L' a1 a2 a3 a4 : Addr} {xs : List Int} {P : Params} {Q : Flow → Mu → Sg → Prop} (r : Room A (n + 9)) (T : Tp (DD K) C) (F : KF K) (G : KG K) (D : KD K) (D0 : KD3 K P) (KT : KT K) (ks : KS K) (hP : C.w.params = P) (hcl : (lawE pm L' lf lc).cells = lawCl L')
    (h : ∀ (l : Lx) c' oc a5 pst, IsRec oc "_law_lexer.<locals>.give" → WB C A (lawE pm L' lf lc) ((bodyOf (stm 31)).drop 12) [("tags", .ref a5), ("page", .ref l.x), ("white", vS (S [wcN (cellN xs 0)]))] (lawS xs L' sc a1 a2 a3 a4 none none ((a5, .list (vq (tagsN xs))) :: (308, .obj (tabObj (lexTab c'))) :: (c', .obj oc) :: (l.x, .inst 84 l.d) :: (l.d, .sd (lexD (1 + cnt (pageT (wcN (cellN xs 0)) (qsN xs))) (.ref l.y) l.p)) :: (237, .obj (tabObj pst)) :: ρ)) Q) :
    WB C A (lawE pm L' lf lc) ((bodyOf (stm 31)).drop 7) [("white", vS (S [wcN (cellN xs 0)]))] (lawS xs L' sc a1 a2 a3 a4 none none ((308, .obj (tabObj #[])) :: (237, .obj (tabObj #[])) :: ρ)) Q := by
  have hc := cut_range xs
  have hql := qs_len xs
  have hw : wcN (cellN xs 0) = 10 ∨ wcN (cellN xs 0) = 9 ∨ wcN (cellN xs 0) = 32 := by
    unfold wcN
    obtain ⟨k, hk, e⟩ : ∃ k : Nat, k < 3 ∧ (cellN xs 0 / 7 % 3).toNat = k := ⟨_, by ((try clear h); wtm_at "om"), rfl⟩
    rw [e]
    rcases k with _|_|_|k <;> first | ((try clear h); wtm_at "om") | simp
  have hq : ∀ q ∈ qsN xs, q.take 1 ≠ [123] ∧ q.length ≤ 100 := fun q hq => by
    obtain ⟨k, hk, rfl⟩ := qs_mem hq
    have t := tyOk (cellN xs 2) hk
    exact ⟨t.brace, by have := t.len; ((try clear h); wtm_at "om")⟩
  have hs : ∀ q ∈ qsN xs, safe q := fun q hq => by
    obtain ⟨k, hk, rfl⟩ := qs_mem hq
    exact (tyOk (cellN xs 2) hk).safe
  refine WB_cons ?_
  wtm_at "one"
  refine WE_Slice (WO_none (WO_some ?_))
  wtm_at "one"
  refine WO_none ?_
  intro sl
  refine item_now (PI_list (by wtm_at "at")) ?_
  refine WG_slice (lo := none) (hi := some (cutN (cellN xs 0) : Int)) (st := none) (by wtm_at "at") (by wtm_at "at") .none (.int _) .none (by simp) (by rw [vq_len]; simp [tys]) fun pk => ?_
  rw [pick_upto _ (by rw [vq_len]; simp [tys]; ((try clear h); wtm_at "om")), show (vq (tys (cellN xs 2))).take (cutN (cellN xs 0)) = vq (qsN xs) by unfold vq qsN; rw [List.map_take]]
  wtm_at "one"
  have hpl : (pageT (wcN (cellN xs 0)) (qsN xs)).length ≤ 100000 := pageT_len (fun q hq' => (hq q hq').2) (by ((try clear h); wtm_at "om"))
  refine WC_sub (τ := (237, .obj (tabObj #[])) :: (pk, .list (vq (qsN xs))) :: lawS xs L' sc a1 a2 a3 a4 none none ((308, .obj (tabObj #[])) :: ρ)) (by wtm_at "sb") (C_page (n := n + 1) r T F G D0 KT ks hP hw (by ((try clear h); wtm_at "om")) (by ((try clear h); wtm_at "om")) hq fun pst => ?_)
  wtm_at "one"
  refine WC_listS r (by ((try clear h); wtm_at "om")) fun sg => ?_
  wtm_at "one"
  refine WC_sub (τ := (308, .obj (tabObj #[])) :: (sg, .list (cl (pageT (wcN (cellN xs 0)) (qsN xs)))) :: lawS xs L' sc a1 a2 a3 a4 none none ((237, .obj (tabObj pst)) :: ρ)) (by wtm_at "sb") (C_lexer1 (n := n + 5) r T F G KT fun l c' oc hsg hrec => ?_)
  wtm_at "one"
  refine WB_cons ?_
  wtm_at "one"
  refine WC_sub (τ := l.sgn c' oc 1 (pageT (wcN (cellN xs 0)) (qsN xs)) ((l.p, .list []) :: (308, .obj (tabObj (lexTab c'))) :: lawS xs L' sc a1 a2 a3 a4 none none ((237, .obj (tabObj pst)) :: ρ))) (by wtm_at "sb") (C_words (n := n + 4) r T F G hpl hrec (page_words hw (by ((try clear h); wtm_at "om")) hs) ?_ fun aw => ?_)
  · unfold pageW
    rw [flat_len]
    unfold pairsN
    rw [List.length_zip, rawTags_len, behind_len (by ((try clear h); wtm_at "om"))]
    ((try clear h); wtm_at "om")
  wtm_at "one"
  refine WB_cons ?_
  wtm_at "one"
  rw [show vL (pageW (qsN xs)) = ((pairsN (qsN xs)).map fun p => (vS (S p.1), vS (S p.2))).flatMap fun p => [p.1, p.2] from vq_flat _]
  have hpl2 : (((pairsN (qsN xs)).map fun p => (vS (S p.1), vS (S p.2))).flatMap fun p => [p.1, p.2]).length ≤ 1000 := by
    rw [flat_len, List.length_map]
    unfold pairsN
    rw [List.length_zip, rawTags_len, behind_len (by ((try clear h); wtm_at "om"))]
    ((try clear h); wtm_at "om")
  refine WS_LC [] r ?_ (by with_unfolding_all rfl) (by kernel_rfl) (by kernel_rfl) (by kernel_rfl) (by kernel_rfl) (by kernel_rfl) (by kernel_rfl) (by intro _; rfl) (by intro _ _; rfl)
  wtm_at "one"
  refine WE_Slice (WO_none (WO_none (WO_some ?_)))
  wtm_at "one"
  intro sl2
  refine item_now (PI_list (by wtm_at "at")) ?_
  refine WG_slice (lo := none) (hi := none) (st := some 2) (by wtm_at "at") (by wtm_at "at") .none .none (.int 2) (by simp) (by ((try clear h); wtm_at "om")) fun b2 => ?_
  rw [pick_even, List.map_map, show (pairsN (qsN xs)).map ((fun p : Value × Value => p.1) ∘ fun p => (vS (S p.1), vS (S p.2))) = vq (rawTags (qsN xs)) by rw [← pairs_fst (by ((try clear h); wtm_at "om"))]; unfold vq; rw [List.map_map]; rfl]
  refine lgo (τ := _) (vq (rawTags (qsN xs))) (fun σ => ∃ g, At σ b2 (.list (vq (rawTags (qsN xs)))) g) (gQ prep) .refl (ItS_list .here) ⟨_, .here⟩ (by rw [vq_len, rawTags_len]; ((try clear h); wtm_at "om")) ?_ (fun D5 => ?_)
  · intro C'' L'' v it D' o ys l'' hv
    obtain ⟨w, hw', rfl⟩ := vq_mem hv
    have T'' := T.le l''
    refine WTg_name ?_
    wtm_at "one"
    have kt := known_tag hw'
    refine C_prepared (n := n + 7) r T'' F D (by ((try clear h); wtm_at "om")) kt.1 ?_
    exact ⟨by wtm_at "sb", rfl⟩
  rw [gQ_map, tags_eq]
  wtm_at "one"
  refine WB_cons ?_
  wtm_at "one"
  have htl : (tagsN xs).length = 2 * cutN (cellN xs 0) := by unfold tagsN nmL; simp; ((try clear h); wtm_at "om")
  refine WE_Slice (WO_none (WO_some ?_))
  wtm_at "one"
  refine WO_none ?_
  intro sl3
  refine item_now (PI_list (by wtm_at "at")) ?_
  refine WG_slice (lo := none) (hi := some (cutN (cellN xs 0) : Int)) (st := none) (by wtm_at "at") (by wtm_at "at") .none (.int _) .none (by simp) (by rw [vq_len]; ((try clear h); wtm_at "om")) fun b3 => ?_
  rw [pick_upto _ (by rw [vq_len]; ((try clear h); wtm_at "om")), show (vq (tagsN xs)).take (cutN (cellN xs 0)) = vq ((nmL.take (cutN (cellN xs 0))).map begT) by
    unfold vq tagsN
    rw [← List.map_take, List.take_append_of_le_length (by unfold nmL; simp; ((try clear h); wtm_at "om")), List.take_of_length_le (by rw [List.length_map, List.length_take]; ((try clear h); wtm_at "om"))]]
  refine WE_LC [] r ?_ (by kernel_rfl) (by kernel_rfl) (by kernel_rfl) (by kernel_rfl) (by intro _; rfl) (by intro _ _; rfl)
  wtm_at "one"
  refine WE_Slice (WO_none (WO_some ?_))
  wtm_at "one"
  refine WO_none ?_
  intro sl4
  refine item_now (PI_list (by wtm_at "at")) ?_
  refine WG_slice (lo := none) (hi := some (cutN (cellN xs 0) : Int)) (st := none) (by wtm_at "at") (by wtm_at "at") .none (.int _) .none (by simp) (by rw [vq_len]; simp [nmL]) fun b4 => ?_
  rw [pick_upto _ (by rw [vq_len]; simp [nmL]; ((try clear h); wtm_at "om")), show (vq nmL).take (cutN (cellN xs 0)) = vq (nmL.take (cutN (cellN xs 0))) by unfold vq; rw [List.map_take]]
  refine lgo (τ := _) (vq (nmL.take (cutN (cellN xs 0)))) (fun σ => ∃ g, At σ b4 (.list (vq (nmL.take (cutN (cellN xs 0))))) g) (gQ begT) .refl (ItS_list .here) ⟨_, .here⟩ (by rw [vq_len, List.length_take]; ((try clear h); wtm_at "om")) ?_ (fun D6 => ?_)
  · intro C'' L'' v it D' o ys l'' hv
    obtain ⟨w, hw', rfl⟩ := vq_mem hv
    have hwl : w.length ≤ 3 := by
      have : ∀ q ∈ nmL, q.length ≤ 3 := by decide
      exact this _ (List.mem_of_mem_take hw')
    refine WTg_name ?_
    wtm_at "one"
    exact ⟨by wtm_at "sb", rfl⟩
  rw [gQ_map]
  refine C_neL r (by wtm_at "rd") (by wtm_at "rd") (flat_vq _) ?_
  refine ⟨_, rfl, Br_ff ?_⟩
  wtm_at "one"
  refine WB_cons ?_
  wtm_at "one"
  refine WE_Slice (WO_some ?_)
  wtm_at "one"
  refine WO_none (WO_some ?_)
  wtm_at "one"
  intro sl5
  refine item_now (PI_list (by wtm_at "at")) ?_
  refine WG_slice (lo := some 1) (hi := none) (st := some 2) (by wtm_at "at") (by wtm_at "at") (.int 1) .none (.int 2) (by simp) (by ((try clear h); wtm_at "om")) fun b5 => ?_
  rw [pick_odd, List.map_map, show (pairsN (qsN xs)).map ((fun p : Value × Value => p.2) ∘ fun p => (vS (S p.1), vS (S p.2))) = vq (List.replicate (2 * (qsN xs).length - 1) ampL ++ [piL]) by rw [← pairs_snd (by ((try clear h); wtm_at "om"))]; unfold vq; rw [List.map_map]; rfl]
  wtm_at "one"
  refine B_mul (IntMulOk.of_left (by decide +kernel)) ?_
  wtm_at "one"
  refine B_mul_list (by wtm_at "at") (by ((try clear h); wtm_at "om")) (by ((try clear h); wtm_at "om")) (by simp) fun c1 => ?_
  wtm_at "one"
  refine B_add_list (by wtm_at "at") (by wtm_at "at") (by simp; ((try clear h); wtm_at "om")) fun c2 => ?_
  rw [show (List.replicate (2 * (cutN (cellN xs 0) : Int) - 1).toNat [vS (S [38, 97, 109, 112, 59])]).flatten ++ [vS (S [60, 63, 35, 63, 62])] = vq (List.replicate (2 * (qsN xs).length - 1) ampL ++ [piL]) by
    rw [show (2 * (cutN (cellN xs 0) : Int) - 1).toNat = 2 * (qsN xs).length - 1 by ((try clear h); wtm_at "om")]
    unfold vq
    rw [List.map_append, List.map_replicate]
    congr 1
    generalize 2 * (qsN xs).length - 1 = m
    induction m with
    | zero => rfl
    | succ m ih => rw [List.replicate_succ, List.flatten_cons, ih]; rfl]
  refine C_neL r (by wtm_at "rd") (by wtm_at "rd") (flat_vq _) ?_
  refine ⟨_, rfl, Br_ff ?_⟩
  wtm_at "one"
  rw [show (1 : Int) + cnt (pageT (wcN (cellN xs 0)) (qsN xs)) - cnt [] = 1 + cnt (pageT (wcN (cellN xs 0)) (qsN xs)) by simp [cnt]]
  exact W_sub2 (by wtm_at "lem") (by wtm_at "sb") (h l c' oc D5 pst hrec)
end
noncomputable def wayN (c2 : Int) (k : Nat) : Int := seedN c2 k / 1944 % 3
noncomputable def othL (xs : List Int) : List (List Nat) := (List.range (8 - cutN (cellN xs 0))).map fun i => rawN (cutN (cellN xs 0) + i) (wayN (cellN xs 2) (cutN (cellN xs 0) + i)) (tyN (cellN xs 2) (cutN (cellN xs 0) + i))
noncomputable def othN (xs : List Int) : List Nat := (othL xs).flatten
/- a lexer, its code apart -/
noncomputable abbrev Lx.s7 (l : Lx) (c' : Addr) (line : Int) (t : List Nat) (pb : List Value) (ρ : Sg) : Sg :=
  (l.sg, .list (cl t)) :: (l.d, .sd (lexD line (.ref l.y) l.p)) :: (l.x, .inst 84 l.d) :: (l.y, .inst 84 l.dy) :: (l.dy, .sd [("lineno", vI 1), ("instream", .none), ("whitespace", vS (S white)), ("pushback", .ref l.py), ("read", .ref l.f)]) :: (l.f, .obj (giveObj [("signs", l.cs)] l.doc l.pm c' l.ctv)) :: (l.cs, .cell (some (.ref l.sg))) :: (l.p, .list pb) :: ρ
theorem raw_len (k : Nat) (way : Int) (w : List Nat) : (rawN k way w).length ≤ 2 * w.length + 10 := by
  have : (inner k way w).length ≤ 2 * w.length := by
    unfold inner
    split
    · rw [two_len]; ((try clear h); wtm_at "om")
    · ((try clear h); wtm_at "om")
  unfold rawN
  split <;> simp <;> ((try clear h); wtm_at "om")
theorem oth_len (xs : List Int) : (othN xs).length ≤ 1000 := by
  have hc := cut_range xs
  have h : ∀ x ∈ othL xs, x.length ≤ 30 := by
    intro x hx
    obtain ⟨i, hi, rfl⟩ := List.mem_map.mp hx
    have hi := List.mem_range.mp hi
    have := raw_len (cutN (cellN xs 0) + i) (wayN (cellN xs 2) (cutN (cellN xs 0) + i)) (tyN (cellN xs 2) (cutN (cellN xs 0) + i))
    have := (tyOk (cellN xs 2) (k := cutN (cellN xs 0) + i) (by ((try clear h); wtm_at "om"))).len
    ((try clear h); wtm_at "om")
  have := flat_le h
  unfold othN
  have : (othL xs).length ≤ 8 := by unfold othL; simp
  ((try clear h); wtm_at "om")
theorem end_cut (q : List Nat) : ((endT q).drop 2).take ((endT q).length - 3) = q := by
  unfold endT
  simp
section
variable {C : Cx} {A : Around} {L : Addr} {μ : Mu} {σ ρ : Sg} {n : Nat} {K : Frag} {env : Env}
theorem C_push7 {l : Lx} {c' : Addr} {line : Int} {t : List Nat} {pb : List Value} {v : Value} {Q : Value → Sg → Prop} (r : Room A (n + 1)) (T : Tp (DD K) C) (F : KF K) (G : KG K) (hz : pb.length ≤ 1000000)
    (h : Q .none (l.s7 c' line t (pb ++ [v]) ρ)) : WC C A L (.ref 81) [.ref l.x, v] (l.s7 c' line t pb ρ) Q := by
  refine WC_sub (τ := (l.p, .list pb) :: (l.x, .inst 84 l.d) :: (l.d, .sd (lexD line (.ref l.y) l.p)) :: (l.sg, .list (cl t)) :: (l.y, .inst 84 l.dy) :: (l.dy, .sd [("lineno", vI 1), ("instream", .none), ("whitespace", vS (S white)), ("pushback", .ref l.py), ("read", .ref l.f)]) :: (l.f, .obj (giveObj [("signs", l.cs)] l.doc l.pm c' l.ctv)) :: (l.cs, .cell (some (.ref l.sg))) :: ρ) (by wtm_at "sb") (WC_drop (C_push r T F G hz ⟨_, ?_, h⟩))
  wtm_at "sb"
theorem law_c {pm : Value} {lf lc sc L' a1 a2 a3 a4 a5 c' : Addr} {l : Lx} {oc : Obj} {xs : List Int} {Q : Flow → Mu → Sg → Prop} (r : Room A (n + 9)) (T : Tp (DD K) C) (F : KF K) (G : KG K) (KT : KT K) (hcl : (lawE pm L' lf lc).cells = lawCl L')
    (h : ∀ (l2 l3 l4 : Lx) pk lft, WB C A (lawE pm L' lf lc) ((bodyOf (stm 31)).drop 19) [("left", .ref lft), ("packets", .ref pk), ("second", .ref l3.x), ("others", vS (S (othN xs))), ("first", .ref l2.x), ("page", .ref l.x), ("white", vS (S [wcN (cellN xs 0)]))]
      (lawS xs L' sc a1 a2 a3 a4 (some (.ref l4.x)) none ((pk, .list []) :: (lft, .list [vI (8 - cutN (cellN xs 0)), vI (cutN (cellN xs 0))]) :: (c', .obj oc) :: l2.s7 c' 1 [] (vq (nmL.take (cutN (cellN xs 0))).reverse) (l3.s7 c' 1 (othN xs) [] ((l4.p, .list []) :: (l4.x, .inst 84 l4.d) :: (l4.d, .sd (lexD 1 (.ref l4.y) l4.p)) :: (308, .obj (tabObj (lexTab c'))) :: ρ)))) Q) :
    WB C A (lawE pm L' lf lc) ((bodyOf (stm 31)).drop 12) [("tags", .ref a5), ("page", .ref l.x), ("white", vS (S [wcN (cellN xs 0)]))] (lawS xs L' sc a1 a2 a3 a4 none none ((a5, .list (vq (tagsN xs))) :: (308, .obj (tabObj (lexTab c'))) :: (c', .obj oc) :: ρ)) Q := by
  have hc := cut_range xs
  have htl : (tagsN xs).length = 2 * cutN (cellN xs 0) := by unfold tagsN nmL; simp; ((try clear h); wtm_at "om")
  refine WB_cons ?_
  wtm_at "one"
  rename_i sg2
  refine WC_sub (τ := (308, .obj (tabObj (lexTab c'))) :: (c', .obj oc) :: (sg2, .list []) :: lawS xs L' sc a1 a2 a3 a4 none none ((a5, .list (vq (tagsN xs))) :: ρ)) (by wtm_at "sb") ?_
  refine C_lexer2 (n := n + 5) (t := []) r T F G KT fun l2 hsg2 => ?_
  wtm_at "one"
  refine WB_cons ?_
  obtain ⟨nms, hnms⟩ : ∃ nms, nms = (nmL.take (cutN (cellN xs 0))).reverse := ⟨_, rfl⟩
  have hnl : nms.length = cutN (cellN xs 0) := by rw [hnms]; unfold nmL; simp; ((try clear h); wtm_at "om")
  have hnq : ∀ q ∈ nms, q.length ≤ 3 := by
    intro q hq
    rw [hnms] at hq
    have : ∀ q ∈ nmL, q.length ≤ 3 := by decide
    exact this q (List.mem_of_mem_take (List.mem_reverse.mp hq))
  refine WS_keepM [("first", .ref l2.x), ("tags", .ref a5), ("page", .ref l.x), ("white", vS (S [wcN (cellN xs 0)]))] ((308, .obj (tabObj (lexTab c'))) :: (c', .obj oc) :: l2.s7 c' 1 [] [] (lawS xs L' sc a1 a2 a3 a4 none none ((a5, .list (vq (tagsN xs))) :: ρ))) (by wtm_at "lem") (by wtm_at "sb") ?_
  refine WS_ForE (n := n + 9) r ?_ (by intro _; rfl) (by intro _ _; rfl)
  wtm_at "one"
  refine WE_Slice (WO_some ?_)
  wtm_at "one"
  refine WO_none (WO_none ?_)
  intro sl
  refine item_now (PI_list (by wtm_at "at")) ?_
  refine WG_slice (lo := some (cutN (cellN xs 0) : Int)) (hi := none) (st := none) (by wtm_at "at") (by wtm_at "at") (.int _) .none .none (by simp) (by rw [vq_len]; ((try clear h); wtm_at "om")) fun b => ?_
  rw [pick_from _ (by rw [vq_len]; ((try clear h); wtm_at "om")), show (vq (tagsN xs)).drop (cutN (cellN xs 0)) = vq (nms.map endT) by
    unfold vq tagsN
    rw [← List.map_drop, List.drop_append_of_le_length (by unfold nmL; simp; ((try clear h); wtm_at "om")), List.drop_eq_nil_of_le (by rw [List.length_map, List.length_take]; ((try clear h); wtm_at "om")), List.nil_append, hnms]]
  refine ⟨vq (nms.map endT), (fun σ => ∃ g, At σ b (.list (vq (nms.map endT))) g), fun i μ σ => μ = ([("first", .ref l2.x), ("tags", .ref a5), ("page", .ref l.x), ("white", vS (S [wcN (cellN xs 0)]))] : Mu) ∧ σ = (b, .list (vq (nms.map endT))) :: (sl, .fields "slice" [vI (cutN (cellN xs 0)), .none, .none]) :: (308, .obj (tabObj (lexTab c'))) :: (c', .obj oc) :: l2.s7 c' 1 [] (vq (nms.take i)) (lawS xs L' sc a1 a2 a3 a4 none none ((a5, .list (vq (tagsN xs))) :: ρ)), ItS_list .here, ⟨rfl, rfl⟩, ?_, ?_, ?_⟩
  · rintro i μ σ ⟨_, rfl⟩
    exact ⟨_, .here⟩
  · rintro i x it o μ σ hx ⟨rfl, rfl⟩
    obtain ⟨hi, rfl, hm⟩ := vq_get hx
    rw [List.length_map] at hi
    have he : (nms.map endT).getD i [] = endT (nms.getD i []) := by simp [List.getD, hi]
    rw [he]
    have hql := hnq (nms.getD i []) (by simp [List.getD, hi])
    refine WTg_name ?_
    wtm_at "one"
    refine WB_cons ?_
    wtm_at "one"
    refine WE_Slice (WO_some ?_)
    wtm_at "one"
    refine WO_some ?_
    wtm_at "one"
    refine WO_none ?_
    intro sl6
    refine item_now PI_str ?_
    have hel : (endT (nms.getD i [])).length = (nms.getD i []).length + 3 := by unfold endT; simp
    refine WG_sliceS (a := 2) (k := (endT (nms.getD i [])).length - 3) (lo := some 2) (hi := some (-1)) (by wtm_at "at") (.int 2) (.int (-1)) (idx_mid (by ((try clear h); wtm_at "om"))) (by ((try clear h); wtm_at "om")) (by ((try clear h); wtm_at "om")) ?_
    rw [end_cut]
    wtm_at "one"
    refine WC_sub (τ := l2.s7 c' 1 [] (vq (nms.take i)) ((it, o) :: (b, .list (vq (nms.map endT))) :: (sl, .fields "slice" [vI (cutN (cellN xs 0)), .none, .none]) :: (308, .obj (tabObj (lexTab c'))) :: (c', .obj oc) :: lawS xs L' sc a1 a2 a3 a4 none none ((a5, .list (vq (tagsN xs))) :: ρ))) (by wtm_at "sb") (C_push7 (n := n + 8) r T F G (by rw [vq_len, List.length_take]; ((try clear h); wtm_at "om")) ?_)
    rw [show vq (nms.take i) ++ [vS (S (nms.getD i []))] = vq (nms.take (i + 1)) by
      unfold vq
      rw [List.take_add_one, List.map_append]
      simp [List.getD, hi]]
    wtm_at "one"
    exact ⟨[("first", .ref l2.x), ("tags", .ref a5), ("page", .ref l.x), ("white", vS (S [wcN (cellN xs 0)]))], _, by wtm_at "lem", by wtm_at "sb", rfl, rfl⟩
  · rintro μ σ ⟨rfl, rfl⟩
    rw [vq_len, List.length_map, List.take_length]
    wtm_at "one"
    refine WB_cons ?_
    wtm_at "one"
    refine WE_LC [("typed", L' + 5), ("seeds", L' + 4)] r ?_ (by kernel_rfl) (by kernel_rfl) (by kernel_rfl) (by kernel_rfl) (by intro _; rfl) (by intro _ _; rfl)
    wtm_at "one"
    refine WC_range2 fun rg t u v => ?_
    refine lgo (τ := _) ((List.range ((8 : Int) - (cutN (cellN xs 0) : Int)).toNat).map fun (i : Nat) => vI ((cutN (cellN xs 0) : Int) + i)) (fun _ => True) (gI fun i => vS (S (rawN i.toNat (wayN (cellN xs 2) i.toNat) (tyN (cellN xs 2) i.toNat)))) .refl (ItS_range .here (by ((try clear h); wtm_at "om")) (by ((try clear h); wtm_at "om")) (by decide) (by decide)) trivial (by simp; ((try clear h); wtm_at "om")) ?_ (fun D7 => ?_)
    · intro C'' L'' v it D o ys l'' hv
      obtain ⟨i, hi, rfl⟩ := rng_mem hv
      have T'' := T.le l''
      rw [show (cutN (cellN xs 0) : Int) + (i : Int) = ((cutN (cellN xs 0) + i : Nat) : Int) by ((try clear h); wtm_at "om")]
      obtain ⟨k, hk, hk8⟩ : ∃ k, k = cutN (cellN xs 0) + i ∧ k < 8 := ⟨_, rfl, by ((try clear h); wtm_at "om")⟩
      rw [← hk]
      refine WTg_name ?_
      wtm_at "one"
      refine WG_list (x := vI (seedN (cellN xs 2) k)) (by wtm_at "at") (by ((try clear h); wtm_at "om")) (by ((try clear h); wtm_at "om")) (by simp [hk8]) ?_
      wtm_at "one"
      refine WG_list (x := vS (S (tyN (cellN xs 2) k))) (by wtm_at "at") (by ((try clear h); wtm_at "om")) (by ((try clear h); wtm_at "om")) (by simp [vq, tys, hk8]) ?_
      wtm_at "one"
      have t := tyOk (cellN xs 2) hk8
      refine C_raw (n := n + 6) r T'' F (by have := t.len; ((try clear h); wtm_at "om")) hk8 ?_
      exact ⟨by wtm_at "sb", rfl⟩
    rw [gI_map, show ((List.range ((8 : Int) - (cutN (cellN xs 0) : Int)).toNat).map fun (i : Nat) => vS (S (rawN ((cutN (cellN xs 0) : Int) + (i : Int)).toNat (wayN (cellN xs 2) ((cutN (cellN xs 0) : Int) + (i : Int)).toNat) (tyN (cellN xs 2) ((cutN (cellN xs 0) : Int) + (i : Int)).toNat)))) = ((othL xs).map S).map vS by
      unfold othL
      rw [List.map_map, List.map_map, show ((8 : Int) - (cutN (cellN xs 0) : Int)).toNat = 8 - cutN (cellN xs 0) by ((try clear h); wtm_at "om")]
      apply List.map_congr_left
      intro k _
      rw [show ((cutN (cellN xs 0) : Int) + (k : Int)).toNat = cutN (cellN xs 0) + k by ((try clear h); wtm_at "om")]
      rfl]
    have hol := oth_len xs
    wtm_at "one"
    refine WC_join .here (joinOk_S (by unfold othN at hol; ((try clear h); wtm_at "om"))) ?_
    rw [glued_S, show (othL xs).flatten = othN xs from rfl]
    wtm_at "one"
    refine WB_cons ?_
    wtm_at "one"
    refine WC_listS r (by ((try clear h); wtm_at "om")) fun sg3 => ?_
    wtm_at "one"
    refine WC_sub (τ := (308, .obj (tabObj (lexTab c'))) :: (c', .obj oc) :: (sg3, .list (cl (othN xs))) :: l2.s7 c' 1 [] (vq nms) (lawS xs L' sc a1 a2 a3 a4 none none ρ)) (by wtm_at "sb") (C_lexer2 (n := n + 5) r T F G KT fun l3 hsg3 => ?_)
    wtm_at "one"
    refine WB_cons ?_
    wtm_at "one"
    rename_i sg4
    refine WC_sub (τ := (308, .obj (tabObj (lexTab c'))) :: (c', .obj oc) :: (sg4, .list []) :: l2.s7 c' 1 [] (vq nms) (l3.s7 c' 1 (othN xs) [] (lawS xs L' sc a1 a2 a3 a4 none none ρ))) (by wtm_at "sb") ?_
    refine C_lexer2 (n := n + 5) (t := []) r T F G KT fun l4 hsg4 => ?_
    wtm_at "one"
    refine WB_cons ?_
    wtm_at "one"
    rename_i pk
    refine WB_cons ?_
    wtm_at "one"
    rename_i lft
    rw [hnms]
    exact W_sub2 (by wtm_at "lem") (by wtm_at "sb") (h l2 l3 l4 pk lft)
end
/- the two packets and the deck, as they are laid into one another -/
noncomputable def stepM : List Nat × List Nat × List Nat → Bool → List Nat × List Nat × List Nat
  | (a :: A, B, D), true => (A, B, D ++ [a])
  | ([], b :: B, D), true => ([], B, D ++ [b])
  | (A, b :: B, D), false => (A, B, D ++ [b])
  | (a :: A, [], D), false => (A, [], D ++ [a])
  | ([], [], D), _ => ([], [], D)
noncomputable def mst (ct m : Nat) : Nat → List Nat × List Nat × List Nat
  | 0 => ((List.range ct).reverse, (List.range (8 - ct)).map (ct + ·), [])
  | i + 1 => stepM (mst ct m i) (m.testBit i)
theorem mst_succ {ct m i : Nat} {p : List Nat × List Nat × List Nat} (h : mst ct m i = p) : mst ct m (i + 1) = stepM p (m.testBit i) := by rw [← h]; rfl
noncomputable def srcN (ct c : Nat) : Int := if c < ct then 1 else 0
noncomputable def turnB (b : Bool) : Int := if b then 1 else 0
noncomputable def okAt (ct i : Nat) (b : Bool) : List Nat × List Nat × List Nat → List Nat × List Nat × List Nat → Bool
  | (A, B, D), (_, _, D') => (!A.isEmpty || !B.isEmpty) && A.all (· < 8) && B.all (· < 8) && D.length == i &&
    (match D'.getLast? with
    | some c => (if ((D.map (srcN ct)).count (turnB b) : Int) < (if b then (ct : Int) else 8 - ct) then turnB b else 1 - turnB b) == srcN ct c
    | none => false)
/- every full hand of j cards has each remainder by j once -/
noncomputable def handsAt : List Nat × List Nat × List Nat → Bool
  | (A, B, D) => A.isEmpty && B.isEmpty && D.length == 8 && D.all (· < 8) && (List.range 7).all fun j => (List.range (8 / (j + 2))).all fun h => (((D.drop (h * (j + 2))).take (j + 2)).map (· % (j + 2))).isPerm (List.range (j + 2))
/- all ways from here -/
noncomputable def goM (ct : Nat) : Nat → Nat → List Nat × List Nat × List Nat → Bool
  | 0, _, p => handsAt p
  | k + 1, i, p => okAt ct i true p (stepM p true) && okAt ct i false p (stepM p false) && goM ct k (i + 1) (stepM p true) && goM ct k (i + 1) (stepM p false)
theorem goM_all {ct m : Nat} (k : Nat) : ∀ i, goM ct k i (mst ct m i) = true → (∀ j, j < k → okAt ct (i + j) (m.testBit (i + j)) (mst ct m (i + j)) (mst ct m (i + j + 1)) = true) ∧ handsAt (mst ct m (i + k)) = true := by
  induction k with
  | zero => exact fun i h => ⟨fun _ hj => absurd hj (Nat.not_lt_zero _), h⟩
  | succ k ih =>
    intro i h
    obtain ⟨⟨⟨h1, h2⟩, h3⟩, h4⟩ : ((okAt ct i true (mst ct m i) (stepM (mst ct m i) true) = true ∧ okAt ct i false (mst ct m i) (stepM (mst ct m i) false) = true) ∧ goM ct k (i + 1) (stepM (mst ct m i) true) = true) ∧ goM ct k (i + 1) (stepM (mst ct m i) false) = true := by
      simpa only [goM, Bool.and_eq_true] using h
    have e : mst ct m (i + 1) = stepM (mst ct m i) (m.testBit i) := rfl
    have z : okAt ct i (m.testBit i) (mst ct m i) (mst ct m (i + 1)) = true ∧ goM ct k (i + 1) (mst ct m (i + 1)) = true := by
      rw [e]
      cases m.testBit i
      · exact ⟨h2, h4⟩
      · exact ⟨h1, h3⟩
    obtain ⟨q1, q2⟩ := ih (i + 1) z.2
    rw [show i + 1 + k = i + (k + 1) by wtm_at "om"] at q2
    refine ⟨fun j hj => ?_, q2⟩
    cases j with
    | zero => exact z.1
    | succ j =>
      have := q1 j (by wtm_at "om")
      rwa [show i + 1 + j = i + (j + 1) by wtm_at "om"] at this
theorem ways_all : ((List.range 7).all fun c => goM (c + 1) 8 0 ((List.range (c + 1)).reverse, (List.range (8 - (c + 1))).map (c + 1 + ·), [])) = true := by decide +kernel
theorem ways {ct : Nat} (m : Nat) (h1 : 1 ≤ ct) (h7 : ct ≤ 7) : (∀ i, i < 8 → okAt ct i (m.testBit i) (mst ct m i) (mst ct m (i + 1)) = true) ∧ handsAt (mst ct m 8) = true := by
  obtain ⟨c, rfl⟩ : ∃ c, ct = c + 1 := ⟨ct - 1, by wtm_at "om"⟩
  obtain ⟨q1, q2⟩ := goM_all (m := m) 8 0 (List.all_eq_true.mp ways_all c (List.mem_range.mpr h7))
  refine ⟨fun i hi => ?_, q2⟩
  have := q1 i hi
  rwa [Nat.zero_add] at this
noncomputable def deckN (ct m : Nat) : List Nat := (mst ct m 8).2.2
noncomputable def placeN (low r : Nat) : Nat := (low + 5 * r) % 32
noncomputable def sumN (low j : Nat) : Nat := ((List.range j).map fun r => 2 ^ placeN low r).sum + 3 * 2 ^ 32
noncomputable def sortN (low j : Nat) : List Nat := (List.range 32).filter fun p => ((List.range j).map (placeN low)).contains p
theorem flags_all : ((List.range 32).all fun low => (List.range 7).all fun j => decide (placed (sumN low (j + 2)) 32 = (sortN low (j + 2)).map flagS) && decide (shownTop (sumN low (j + 2)) = S [48, 120, 51, 48, 48, 48, 48, 48, 48, 48, 48]) && decide ((sortN low (j + 2)).isPerm ((List.range (j + 2)).map (placeN low)) = true) && decide (sumN low (j + 2) / 2 ^ 32 = 3)) = true := by decide +kernel
noncomputable def forBody : Stmt → List Stmt
  | .For _ _ b _ _ => b
  | _ => []
noncomputable abbrev lawSt (k : Nat) : Stmt := (bodyOf (stm 31)).getD k (.Pass ⟨0, 0, 0, 0⟩)
noncomputable def nmN (k : Nat) : List Nat := nmL.getD k []
noncomputable abbrev baseD (xs : List Int) (l l2 l3 : Lx) (pk lft : Addr) : Mu := [("left", .ref lft), ("packets", .ref pk), ("second", .ref l3.x), ("others", vS (S (othN xs))), ("first", .ref l2.x), ("page", .ref l.x), ("white", vS (S [wcN (cellN xs 0)]))]
/- the ledger of the merge -/
noncomputable abbrev sgD (xs : List Int) (L' sc a1 a2 a3 a4 : Addr) (l2 l3 l4 : Lx) (pk lft c' : Addr) (oc : Obj) (line2 line3 : Int) (t3 : List Nat) (A B Dp D : List Nat) (ρ : Sg) : Sg :=
  lawS xs L' sc a1 a2 a3 a4 (some (.ref l4.x)) none ((pk, .list ((Dp.map (srcN (cutN (cellN xs 0)))).map vI)) :: (lft, .list [vI (8 - cutN (cellN xs 0)), vI (cutN (cellN xs 0))]) :: (c', .obj oc) :: l2.s7 c' line2 [] (vq (A.map nmN)) (l3.s7 c' line3 t3 [] ((l4.p, .list (vq (D.map nmN))) :: (l4.x, .inst 84 l4.d) :: (l4.d, .sd (lexD 1 (.ref l4.y) l4.p)) :: ρ)))
noncomputable def JD (xs : List Int) (L' sc a1 a2 a3 a4 : Addr) (l l2 l3 l4 : Lx) (pk lft c' : Addr) (oc : Obj) (m : Nat) (ρ : Sg) (i : Nat) (μ : Mu) (σ : Sg) : Prop :=
  μ = baseD xs l l2 l3 pk lft ∧ ∃ line2 t3, Sub (sgD xs L' sc a1 a2 a3 a4 l2 l3 l4 pk lft c' oc line2 (1 + cnt (othN xs) - cnt t3) t3 (mst (cutN (cellN xs 0)) m i).1 (mst (cutN (cellN xs 0)) m i).2.1 (mst (cutN (cellN xs 0)) m i).2.2 (mst (cutN (cellN xs 0)) m i).2.2 ρ) σ ∧ Words t3 ((mst (cutN (cellN xs 0)) m i).2.1.map (tyN (cellN xs 2))) [] ∧ t3.length ≤ 1000
theorem nm_len (k : Nat) : (nmN k).length ≤ 3 := by
  unfold nmN
  rw [List.getD_eq_getElem?_getD]
  cases h : nmL[k]? with
  | none => simp
  | some x =>
    have : ∀ q ∈ nmL, q.length ≤ 3 := by decide
    exact this x (List.mem_of_getElem? h)
section
variable {C : Cx} {A : Around} {L : Addr} {μ : Mu} {σ ρ : Sg} {n : Nat} {K : Frag} {env : Env}
/- a merge's turn ends: the word is prepared, and waits in the deck -/
theorem law_dt {pm : Value} {lf lc sc L' a1 a2 a3 a4 c' pk lft it : Addr} {l l2 l3 l4 : Lx} {oc : Obj} {o : AO} {xs : List Int} {m i c : Nat} {A' B' D : List Nat} {w : List Nat} {line2 : Int} {t3 : List Nat} {wi : Int} {Q : Flow → Mu → Sg → Prop} (r : Room A (n + 9)) (T : Tp (DD K) C) (F : KF K) (G : KG K) (KDa : KD K) (hcl : (lawE pm L' lf lc).cells = lawCl L')
    (hi : i < 8) (hD : D.length = i) (hs : mst (cutN (cellN xs 0)) m (i + 1) = (A', B', D ++ [c]))
    (hp : (if ((D.map (srcN (cutN (cellN xs 0)))).count (turnB (m.testBit i)) : Int) < (if m.testBit i then (cutN (cellN xs 0) : Int) else 8 - cutN (cellN xs 0)) then turnB (m.testBit i) else 1 - turnB (m.testBit i)) = srcN (cutN (cellN xs 0)) c)
    (hwl : w.length ≤ 20) (hwk : ∀ c ∈ w, c ∈ b1N ∨ (dom.lookup c).isSome = true) (hwp : prep w = nmN c) (ht : Words t3 (B'.map (tyN (cellN xs 2))) []) (htl : t3.length ≤ 1000) :
    WB C A (lawE pm L' lf lc) ((forBody (lawSt 19)).drop 3) (("word", vS (S w)) :: ("turn", vI (turnB (m.testBit i))) :: ("i", vI wi) :: baseD xs l l2 l3 pk lft) ((it, o) :: sgD xs L' sc a1 a2 a3 a4 l2 l3 l4 pk lft c' oc line2 (1 + cnt (othN xs) - cnt t3) t3 A' B' D D ρ)
      (Turn it o (JD xs L' sc a1 a2 a3 a4 l l2 l3 l4 pk lft c' oc m ρ (i + 1)) Q) := by
  have hc := cut_range xs
  refine WB_cons ?_
  wtm_at "one"
  refine C_prepared (n := n + 7) r T F KDa (by wtm_at "om") hwk ?_
  rw [hwp]
  wtm_at "one"
  refine WC_sub (τ := (l4.p, .list (vq (D.map nmN))) :: (l4.x, .inst 84 l4.d) :: (l4.d, .sd (lexD 1 (.ref l4.y) l4.p)) :: (it, o) :: lawS xs L' sc a1 a2 a3 a4 (some (.ref l4.x)) none ((pk, .list ((D.map (srcN (cutN (cellN xs 0)))).map vI)) :: (lft, .list [vI (8 - cutN (cellN xs 0)), vI (cutN (cellN xs 0))]) :: (c', .obj oc) :: l2.s7 c' line2 [] (vq (A'.map nmN)) (l3.s7 c' (1 + cnt (othN xs) - cnt t3) t3 [] ρ))) (by wtm_at "sb")
    (WC_drop (C_push (n := n + 8) r T F G (by rw [vq_len, List.length_map]; wtm_at "om") ⟨(it, o) :: sgD xs L' sc a1 a2 a3 a4 l2 l3 l4 pk lft c' oc line2 (1 + cnt (othN xs) - cnt t3) t3 A' B' D (D ++ [c]) ρ, ?_, ?_⟩))
  · rw [show vq (D.map nmN) ++ [vS (S (nmN c))] = vq ((D ++ [c]).map nmN) by unfold vq; rw [List.map_append, List.map_append]; rfl]
    wtm_at "sb"
  wtm_at "one"
  refine WB_cons ?_
  wtm_at "one"
  have tb : 0 ≤ turnB (m.testBit i) ∧ turnB (m.testBit i) < 2 := by unfold turnB; split <;> wtm_at "om"
  have tg : ([vI (8 - cutN (cellN xs 0)), vI (cutN (cellN xs 0))] : List Value)[(turnB (m.testBit i)).toNat]? = some (vI (if m.testBit i then (cutN (cellN xs 0) : Int) else 8 - cutN (cellN xs 0))) := by
    cases m.testBit i <;> rfl
  refine WC_count (xs := D.map (srcN (cutN (cellN xs 0)))) (by wtm_at "at") ?_
  wtm_at "one"
  refine WG_list (x := vI (if m.testBit i then (cutN (cellN xs 0) : Int) else 8 - cutN (cellN xs 0))) (by wtm_at "at") tb.1 (by wtm_at "om") tg ?_
  wtm_at "one"
  have fin : ∀ v, v = srcN (cutN (cellN xs 0)) c → ∀ μ', LeM (baseD xs l l2 l3 pk lft) μ' → After C A (lawE pm L' lf lc) ((forBody (lawSt 19)).drop 5) (Turn it o (JD xs L' sc a1 a2 a3 a4 l l2 l3 l4 pk lft c' oc m ρ (i + 1)) Q) .next (("packet", vI v) :: ("word", vS (S w)) :: ("turn", vI (turnB (m.testBit i))) :: ("i", vI wi) :: baseD xs l l2 l3 pk lft) ((it, o) :: sgD xs L' sc a1 a2 a3 a4 l2 l3 l4 pk lft c' oc line2 (1 + cnt (othN xs) - cnt t3) t3 A' B' D (D ++ [c]) ρ) := by
    intro v hv μ' hμ
    wtm_at "m"
    refine WB_cons ?_
    wtm_at "one"
    refine WC_append (vs := (D.map (srcN (cutN (cellN xs 0)))).map vI) (by wtm_at "at") (by simp; wtm_at "om") ?_
    rw [show (D.map (srcN (cutN (cellN xs 0)))).map vI ++ [vI v] = ((D ++ [c]).map (srcN (cutN (cellN xs 0)))).map vI by rw [hv]; simp]
    wtm_at "one"
    refine ⟨baseD xs l l2 l3 pk lft, sgD xs L' sc a1 a2 a3 a4 l2 l3 l4 pk lft c' oc line2 (1 + cnt (othN xs) - cnt t3) t3 A' B' (D ++ [c]) (D ++ [c]) ρ, by wtm_at "lem", by wtm_at "sb", rfl, line2, t3, ?_, ?_, htl⟩
    · rw [hs]; exact .refl
    · rw [hs]; exact ht
  refine br (fun hb => ?_) (fun hb => ?_)
  · have hb := of_decide_eq_true hb
    rw [if_pos hb] at hp
    wtm_at "m"
    wtm_at "m"
    exact fin _ hp _ (fun _ _ h => h)
  · have hb := of_decide_eq_false hb
    rw [if_neg hb] at hp
    wtm_at "m"
    wtm_at "m"
    wtm_at "m"
    wtm_at "m"
    wtm_at "m"
    exact fin _ hp _ (fun _ _ h => h)
end
theorem turn_of (c : Int) {k m : Int} (hk : k ≠ 0) : c % (k * (2 * m)) / k % 2 = c / k % 2 := by
  have h : c % (k * (2 * m)) = c + k * (2 * -(m * (c / (k * (2 * m))))) := by rw [Int.emod_def]; grind
  rw [h, Int.add_mul_ediv_left _ _ hk, Int.add_mul_emod_self_left]
theorem turn_eq (c : Int) {i : Nat} (hi : i < 8) : c / ((2 ^ i : Nat) : Int) % 2 = turnB ((c % 256).toNat.testBit i) := by
  have h0 : (0 : Int) ≤ c % 256 := Int.emod_nonneg _ (by decide)
  have e : (256 : Int) = ((2 ^ i : Nat) : Int) * (2 * ((2 ^ (7 - i) : Nat) : Int)) := by
    have : 2 ^ i * (2 * 2 ^ (7 - i)) = 256 := by rw [Nat.mul_comm 2, ← Nat.pow_succ, ← Nat.pow_add, show i + (7 - i + 1) = 8 by wtm_at "om"]
    exact_mod_cast this.symm
  rw [← turn_of c (m := ((2 ^ (7 - i) : Nat) : Int)) (Int.natCast_ne_zero.mpr (Nat.ne_of_gt (Nat.pow_pos (by decide)))), ← e, Nat.testBit_eq_decide_div_mod_eq]
  generalize hd : (c % 256).toNat = d
  rw [show c % 256 = (d : Int) by rw [← hd]; exact (Int.toNat_of_nonneg h0).symm, ← Int.natCast_ediv]
  unfold turnB
  rcases Nat.mod_two_eq_zero_or_one (d / 2 ^ i) with h | h <;> rw [h, show ((d / 2 ^ i : Nat) : Int) % 2 = ((d / 2 ^ i % 2 : Nat) : Int) from rfl, h] <;> rfl
theorem mst_step {ct m i : Nat} (h1 : 1 ≤ ct) (h7 : ct ≤ 7) (hm : m < 256) (hi : i < 8) {A B D : List Nat} (h : mst ct m i = (A, B, D)) : D.length = i ∧ (∀ c ∈ A, c < 8) ∧ (∀ c ∈ B, c < 8) ∧ (A ≠ [] ∨ B ≠ []) ∧ ∀ A' B' c, mst ct m (i + 1) = (A', B', D ++ [c]) →
    (if ((D.map (srcN ct)).count (turnB (m.testBit i)) : Int) < (if m.testBit i then (ct : Int) else 8 - ct) then turnB (m.testBit i) else 1 - turnB (m.testBit i)) = srcN ct c := by
  have z := (ways m h1 h7).1 i hi
  rw [h] at z
  rcases hx : mst ct m (i + 1) with ⟨A1, B1, D1⟩
  rw [hx] at z
  simp only [okAt, Bool.and_eq_true, Bool.or_eq_true, Bool.not_eq_true', List.all_eq_true, decide_eq_true_eq, beq_iff_eq] at z
  obtain ⟨⟨⟨⟨z1, z2⟩, z3⟩, z4⟩, z5⟩ := z
  refine ⟨z4, z2, z3, ?_, ?_⟩
  · rcases z1 with z | z
    · exact .inl (by intro e; subst e; cases z)
    · exact .inr (by intro e; subst e; cases z)
  · intro A' B' c he
    obtain ⟨rfl, rfl, rfl⟩ : A1 = A' ∧ B1 = B' ∧ D1 = D ++ [c] := by simpa using he
    rw [List.getLast?_append] at z5
    simpa using z5
theorem range_nm {ct : Nat} (h : ct ≤ 8) : (List.range ct).map nmN = nmL.take ct := by
  rcases ct with _|_|_|_|_|_|_|_|_|ct <;> first | rfl | wtm_at "om"
theorem range_ty (c2 : Int) {ct : Nat} (h : ct ≤ 8) : ((List.range (8 - ct)).map (ct + ·)).map (tyN c2) = (tys c2).drop ct := by
  rcases ct with _|_|_|_|_|_|_|_|_|ct <;> first | rfl | wtm_at "om"
noncomputable def esc2 (w : List Nat) : List Nat := (w.map fun c => [92, c]).flatten
theorem esc2_cons (c : Nat) (w : List Nat) : esc2 (c :: w) = 92 :: c :: esc2 w := rfl
theorem quoted_bar : ∀ (w acc r : List Nat), quoted acc (esc2 w ++ 34 :: r) = (acc ++ w, r)
  | [], acc, r => by rw [show esc2 [] = [] from rfl, List.nil_append, quoted_end, List.append_nil]
  | c :: w, acc, r => by
    rw [esc2_cons, List.cons_append, List.cons_append, quoted_esc]
    show quoted (acc ++ [c]) (esc2 w ++ 34 :: r) = _
    rw [quoted_bar w, List.append_assoc]
    rfl
theorem quoted_run : ∀ (w acc r : List Nat), safe w → quoted acc (w ++ 34 :: r) = (acc ++ w, r)
  | [], acc, r, _ => by rw [List.nil_append, quoted_end, List.append_nil]
  | c :: w, acc, r, hs => by
    obtain ⟨_, h1, h2⟩ := hs c (.head _)
    rw [List.cons_append, quoted_else _ _ h1 h2, quoted_run w _ r (fun b hb => hs b (.tail _ hb)), List.append_assoc]
    rfl
theorem bare_bar : ∀ (w acc : List Nat) (b : Nat) (r : List Nat), b ∈ white → bare acc (esc2 w ++ b :: r) = (acc ++ w, r)
  | [], acc, b, r, hb => by rw [show esc2 [] = [] from rfl, List.nil_append, bare_end _ _ hb, List.append_nil]
  | c :: w, acc, b, r, hb => by
    rw [esc2_cons, List.cons_append, List.cons_append, bare_esc]
    show bare (acc ++ [c]) (esc2 w ++ b :: r) = _
    rw [bare_bar w _ b r hb, List.append_assoc]
    rfl
theorem ahead_white (p : Nat) : aheadN p ∈ white := by
  unfold aheadN
  have : p % 3 < 3 := Nat.mod_lt _ (by decide)
  rcases h : p % 3 with _|_|_|k <;> first | decide | wtm_at "om"
theorem behind_white (p : Nat) : behindN p ∈ white := by
  unfold behindN
  have : p % 4 < 4 := Nat.mod_lt _ (by decide)
  rcases h : p % 4 with _|_|_|_|k <;> first | decide | wtm_at "om"
/- a raw card is read as the word that it was made of -/
theorem raw_word {p : Nat} {way : Int} {w r : List Nat} (hs : safe w) (h0 : w ≠ []) : word (rawN p way w ++ r) = (w, r) := by
  have e10 : (10 : Nat) ∈ white := by decide
  have start : ∀ t : List Nat, word ([10, aheadN p] ++ t) = word t := fun t => by
    show word (10 :: aheadN p :: t) = _
    rw [word_white e10, word_white (ahead_white p)]
  unfold rawN
  by_cases hw : way = 0
  · rw [if_pos hw]
    simp only [List.append_assoc]
    rw [start]
    show word (34 :: (inner p way w ++ 34 :: r)) = _
    rw [word, if_neg (by decide), if_pos rfl]
    unfold inner
    split
    · exact quoted_bar w [] r
    · exact quoted_run w [] r hs
  · rw [if_neg hw]
    simp only [List.append_assoc]
    rw [start]
    unfold inner
    split
    · cases w with
      | nil => exact absurd rfl h0
      | cons c w =>
        show word (92 :: c :: (esc2 w ++ behindN p :: r)) = _
        rw [word, if_neg (by decide), if_neg (by decide), if_pos rfl]
        exact bare_bar w [c] _ r (behind_white p)
    · exact word_run hs h0 (behind_white p)
theorem raws_words (f : Nat → Nat) (g : Nat → Int) (t : Nat → List Nat) : ∀ (l : List Nat), (∀ i ∈ l, safe (t i) ∧ t i ≠ []) → Words (l.map fun i => rawN (f i) (g i) (t i)).flatten (l.map t) []
  | [], _ => .nil (by show word [] = _; rw [word])
  | i :: l, h => by
    obtain ⟨h1, h2⟩ := h i (.head _)
    rw [List.map_cons, List.map_cons, List.flatten_cons]
    exact .cons (raw_word h1 h2) h2 (raws_words f g t l fun j hj => h j (.tail _ hj))
theorem oth_words (xs : List Int) : Words (othN xs) ((tys (cellN xs 2)).drop (cutN (cellN xs 0))) [] := by
  have hc := cut_range xs
  have h := raws_words (fun i => cutN (cellN xs 0) + i) (fun i => wayN (cellN xs 2) (cutN (cellN xs 0) + i)) (fun i => tyN (cellN xs 2) (cutN (cellN xs 0) + i)) (List.range (8 - cutN (cellN xs 0))) fun i hi => by
    have hi := List.mem_range.mp hi
    have t := tyOk (cellN xs 2) (k := cutN (cellN xs 0) + i) (by wtm_at "om")
    exact ⟨t.safe, t.ne⟩
  rw [← range_ty (cellN xs 2) (by wtm_at "om"), List.map_map]
  exact h
section
variable {C : Cx} {A : Around} {L : Addr} {μ : Mu} {σ ρ : Sg} {n : Nat} {K : Frag} {env : Env}
theorem WTg_sub {target : Expr} {x : Value} {τ : Sg} {Q : Mu → Sg → Prop} (h : Sub τ σ) (k : WTg C A env target μ τ x Q) : WTg C A env target μ σ x Q := fun v' e => W_sub h (k v' e)
theorem W_le {Q : Flow → Mu → Sg → Prop} {b : List Stmt} {τ : Sg} (h : Sub τ σ) (k : WB C A env b μ τ Q) : WB C A env b μ σ Q := W_sub h k
end
section
variable {C : Cx} {A : Around} {L : Addr} {μ : Mu} {σ ρ : Sg} {n : Nat} {K : Frag} {env : Env}
theorem nm_ok {a : Nat} (h : a < 8) : nmN a ≠ [] ∧ prep (nmN a) = nmN a ∧ (∀ c ∈ nmN a, c ∈ b1N ∨ (dom.lookup c).isSome = true) := by
  have z : ((List.range 8).all fun a => decide (nmN a ≠ []) && decide (prep (nmN a) = nmN a) && (nmN a).all fun c => decide (c ∈ b1N) || (dom.lookup c).isSome) = true := by decide +kernel
  have := List.all_eq_true.mp z a (List.mem_range.mpr h)
  simp only [Bool.and_eq_true, List.all_eq_true, decide_eq_true_eq, Bool.or_eq_true] at this
  exact ⟨this.1.1, this.1.2, this.2⟩
theorem mst_len {ct m : Nat} (h : ct ≤ 8) (i : Nat) : ∀ (A B D : List Nat), mst ct m i = (A, B, D) → A.length + B.length + D.length = 8 := by
  induction i with
  | zero =>
    intro A B D e
    cases e
    simp; wtm_at "om"
  | succ i ih =>
    intro A B D e
    rcases hst : mst ct m i with ⟨A0, B0, D0⟩
    have ih := ih A0 B0 D0 hst
    rw [mst_succ hst] at e
    generalize m.testBit i = bt at e
    rcases A0 with _ | ⟨a, A0⟩ <;> rcases B0 with _ | ⟨b, B0⟩ <;> cases bt <;> cases e <;> simp only [List.length_cons, List.length_append, List.length_nil] at ih ⊢ <;> wtm_at "om"
theorem C_get7 {l : Lx} {c' : Addr} {line : Int} {t : List Nat} {pb : List Value} {v : Value} {Q : Value → Sg → Prop} (r : Room A (n + 1)) (T : Tp (DD K) C) (F : KF K) (G : KG K) (hz : pb.length ≤ 100000)
    (h : Q v (l.s7 c' line t pb ρ)) : WC C A L (.ref 74) [.ref l.x] (l.s7 c' line t (v :: pb) ρ) Q := by
  refine WC_sub (τ := (l.p, .list (v :: pb)) :: (l.x, .inst 84 l.d) :: (l.d, .sd (lexD line (.ref l.y) l.p)) :: (l.sg, .list (cl t)) :: (l.y, .inst 84 l.dy) :: (l.dy, .sd [("lineno", vI 1), ("instream", .none), ("whitespace", vS (S white)), ("pushback", .ref l.py), ("read", .ref l.f)]) :: (l.f, .obj (giveObj [("signs", l.cs)] l.doc l.pm c' l.ctv)) :: (l.cs, .cell (some (.ref l.sg))) :: ρ) (by wtm_at "sb") (WC_drop (WCK.wc (C_getPB r T F G hz ⟨_, ?_, h⟩)))
  wtm_at "sb"
theorem C_get7e {l : Lx} {c' : Addr} {oc : Obj} {line : Int} {t : List Nat} {Q : Value → Sg → Prop} (r : Room A (n + 4)) (T : Tp (DD K) C) (F : KF K) (G : KG K) (hz : t.length ≤ 100000) (hr : IsRec oc "_law_lexer.<locals>.give")
    (h : Q (vS (S (word t).1)) ((c', .obj oc) :: l.s7 c' (line + cnt t - cnt (word t).2) (word t).2 [] ρ)) : WC C A L (.ref 74) [.ref l.x] ((c', .obj oc) :: l.s7 c' line t [] ρ) Q := by
  refine WC_sub (τ := l.sgn c' oc line t ((l.p, .list []) :: ρ)) (by wtm_at "sb") (WC_drop (WCK.wc (C_get r T F G hz hr ⟨_, ?_, h⟩)))
  wtm_at "sb"
theorem law_d {pm : Value} {lf lc sc L' a1 a2 a3 a4 c' pk lft : Addr} {l l2 l3 l4 : Lx} {oc : Obj} {xs : List Int} {m : Nat} {Q : Flow → Mu → Sg → Prop} (r : Room A (n + 9)) (T : Tp (DD K) C) (F : KF K) (G : KG K) (KDa : KD K) (hcl : (lawE pm L' lf lc).cells = lawCl L') (hrec : IsRec oc "_law_lexer.<locals>.give")
    (hm : m = (cellN xs 1 % 256).toNat)
    (h : ∀ line2 line3 t3, Words t3 [] [] → t3.length ≤ 1000 → line3 = 1 + cnt (othN xs) - cnt t3 → WB C A (lawE pm L' lf lc) ((bodyOf (stm 31)).drop 20) (baseD xs l l2 l3 pk lft)
      (sgD xs L' sc a1 a2 a3 a4 l2 l3 l4 pk lft c' oc line2 line3 t3 [] [] (deckN (cutN (cellN xs 0)) m) (deckN (cutN (cellN xs 0)) m) ρ) Q) :
    WB C A (lawE pm L' lf lc) ((bodyOf (stm 31)).drop 19) (baseD xs l l2 l3 pk lft)
      (lawS xs L' sc a1 a2 a3 a4 (some (.ref l4.x)) none ((pk, .list []) :: (lft, .list [vI (8 - cutN (cellN xs 0)), vI (cutN (cellN xs 0))]) :: (c', .obj oc) :: l2.s7 c' 1 [] (vq (nmL.take (cutN (cellN xs 0))).reverse) (l3.s7 c' 1 (othN xs) [] ((l4.p, .list []) :: (l4.x, .inst 84 l4.d) :: (l4.d, .sd (lexD 1 (.ref l4.y) l4.p)) :: ρ)))) Q := by
  have hc := cut_range xs
  have hm256 : m < 256 := by ((try clear tail); (try clear h); wtm_at "om")
  refine WB_cons ?_
  refine WS_For (n := n + 9) (vs := (List.range 8).map fun (i : Nat) => vI (0 + i)) (H := fun _ => True) (J := JD xs L' sc a1 a2 a3 a4 l l2 l3 l4 pk lft c' oc m ρ) r ?iter (fun _ _ _ _ => trivial) ?step ?done
  case iter =>
    wtm_at "one"
    refine WC_range1 fun rg t u v => ?_
    refine ⟨ItS_range .here (by decide) (by decide) (by decide) (by decide), rfl, 1, othN xs, ?_, ?_, oth_len xs⟩
    · rw [show (1 : Int) + cnt (othN xs) - cnt (othN xs) = 1 by ((try clear tail); (try clear h); wtm_at "om")]
      show Sub (sgD xs L' sc a1 a2 a3 a4 l2 l3 l4 pk lft c' oc 1 1 (othN xs) (List.range (cutN (cellN xs 0))).reverse _ [] [] ρ) _
      unfold sgD
      rw [show (List.range (cutN (cellN xs 0))).reverse.map nmN = (nmL.take (cutN (cellN xs 0))).reverse by rw [List.map_reverse, range_nm (by ((try clear tail); (try clear h); wtm_at "om"))]]
      exact .skip .refl
    · show Words _ (((List.range (8 - cutN (cellN xs 0))).map (cutN (cellN xs 0) + ·)).map (tyN (cellN xs 2))) []
      rw [range_ty _ (by ((try clear tail); (try clear h); wtm_at "om"))]
      exact oth_words xs
  case step =>
    rintro i x it o μ σ hx ⟨rfl, line2, t3, hsub, ht, htl⟩
    obtain ⟨hi, rfl⟩ : i < 8 ∧ x = vI (0 + (i : Int)) := by
      have hlt : i < 8 := by
        have := (List.getElem?_eq_some_iff.mp hx).1
        simpa using this
      refine ⟨hlt, ?_⟩
      rw [List.getElem?_map, List.getElem?_range hlt] at hx
      exact (Option.some.inj hx).symm
    refine WTg_sub (Sub.cons .here hsub) ?_
    rcases hst : mst (cutN (cellN xs 0)) m i with ⟨A0, B0, D0⟩
    rw [hst] at ht
    obtain ⟨s1, s2, s3, s4, s5⟩ := mst_step hc.1 hc.2 hm256 hi hst
    dsimp only at ht ⊢
    rw [show (0 : Int) + (i : Int) = (i : Int) by ((try clear tail); (try clear h); wtm_at "om")]
    refine WTg_name ?_
    wtm_at "one"
    refine WB_cons ?_
    wtm_at "one"
    refine WG_list (x := vI (cellN xs 1)) (by wtm_at "at") (by ((try clear tail); (try clear h); wtm_at "om")) (by ((try clear tail); (try clear h); wtm_at "om")) rfl ?_
    wtm_at "one"
    refine B_pow (by ((try clear tail); (try clear h); wtm_at "om")) ?_ ?_
    · rw [show Builtin.Int.intBits 2 = 2 by decide +kernel]
      ((try clear tail); (try clear h); wtm_at "om")
    rw [show ((2 : Int) ^ (i : Int).toNat) = ((2 ^ i : Nat) : Int) by rw [show (i : Int).toNat = i by ((try clear tail); (try clear h); wtm_at "om")]; push_cast; rfl]
    have hp1 : 1 ≤ 2 ^ i := Nat.one_le_two_pow
    have hp2 : 2 ^ i ≤ 256 := by
      have := Nat.pow_le_pow_right (n := 2) (by ((try clear tail); (try clear h); wtm_at "om")) (show i ≤ 8 by ((try clear tail); (try clear h); wtm_at "om"))
      ((try clear tail); (try clear h); wtm_at "om")
    refine B_div (by ((try clear tail); (try clear h); wtm_at "om")) (PyProof.noPylong_small (by ((try clear tail); (try clear h); wtm_at "om"))) ?_
    wtm_at "one"
    rw [turn_eq _ hi, ← hm]
    refine WB_cons ?_
    have mlen : A0.length + B0.length ≤ 16 := by have := mst_len (m := m) (show cutN (cellN xs 0) ≤ 8 by ((try clear tail); (try clear h); wtm_at "om")) i A0 B0 D0 hst; ((try clear tail); (try clear h); wtm_at "om")
    have tb : ∀ b : Bool, 0 ≤ turnB b ∧ turnB b < 2 := by intro b; unfold turnB; split <;> ((try clear tail); (try clear h); wtm_at "om")
    have tail := fun (A' B' : List Nat) (c : Nat) (w : List Nat) (line2 : Int) (t3 : List Nat) (hs : mst (cutN (cellN xs 0)) m (i + 1) = (A', B', D0 ++ [c])) => law_dt (n := n) (pm := pm) (lf := lf) (lc := lc) (L' := L') (sc := sc) (a1 := a1) (a2 := a2) (a3 := a3) (a4 := a4) (c' := c') (pk := pk) (lft := lft) (it := it) (l := l) (l2 := l2) (l3 := l3) (l4 := l4) (oc := oc) (o := o) (w := w) (line2 := line2) (t3 := t3) (wi := (i : Int)) (ρ := ρ) (Q := After C A (lawE pm L' lf lc) ((bodyOf (stm 31)).drop 20) Q) r T F G KDa hcl hi s1 hs (s5 A' B' c hs)
    have hms := mst_succ hst
    generalize hb : m.testBit i = bt at hms tail ⊢
    wtm_at "one"
    cases bt
    · refine WG_list (x := .ref l3.x) (by wtm_at "at") (tb false).1 (by have := (tb false).2; ((try clear tail); (try clear h); wtm_at "om")) rfl ?_
      wtm_at "one"
      refine WC_sub (τ := (c', .obj oc) :: l3.s7 c' (1 + cnt (othN xs) - cnt t3) t3 [] ((it, o) :: lawS xs L' sc a1 a2 a3 a4 (some (.ref l4.x)) none ((pk, .list ((D0.map (srcN (cutN (cellN xs 0)))).map vI)) :: (lft, .list [vI (8 - cutN (cellN xs 0)), vI (cutN (cellN xs 0))]) :: l2.s7 c' line2 [] (vq (A0.map nmN)) ((l4.p, .list (vq (D0.map nmN))) :: (l4.x, .inst 84 l4.d) :: (l4.d, .sd (lexD 1 (.ref l4.y) l4.p)) :: ρ)))) (by wtm_at "sb") (C_get7e (n := n + 5) r T F G (by ((try clear tail); (try clear h); wtm_at "om")) hrec ?_)
      wtm_at "one"
      refine WB_cons ?_
      wtm_at "one"
      rcases B0 with _ | ⟨b, B1⟩
      · obtain ⟨a, A1, rfl⟩ : ∃ a A1, A0 = a :: A1 := by
          rcases A0 with _ | ⟨a, A1⟩
          · exact absurd rfl (s4.resolve_right (by simp))
          · exact ⟨a, A1, rfl⟩
        have hs : mst (cutN (cellN xs 0)) m (i + 1) = (A1, [], D0 ++ [a]) := hms
        have e3 : word t3 = ([], (word t3).2) := by
          cases ht with
          | nil e => rw [e]
        have hwl := word_len t3
        rw [e3]
        dsimp only
        refine br (fun _ => ?_) (fun hb => absurd rfl (of_decide_eq_false hb))
        refine WB_cons ?_
        wtm_at "one"
        refine WG_list (x := .ref l2.x) (by wtm_at "at") (tb false).1 (by have := (tb false).2; ((try clear tail); (try clear h); wtm_at "om")) rfl ?_
        wtm_at "one"
        rw [show (1 : Int) + cnt (othN xs) - cnt t3 + cnt t3 - cnt (word t3).2 = 1 + cnt (othN xs) - cnt (word t3).2 by ((try clear tail); (try clear h); wtm_at "om")]
        refine WC_sub (τ := l2.s7 c' line2 [] (vS (S (nmN a)) :: vq (A1.map nmN)) ((it, o) :: (c', .obj oc) :: l3.s7 c' (1 + cnt (othN xs) - cnt (word t3).2) (word t3).2 [] (lawS xs L' sc a1 a2 a3 a4 (some (.ref l4.x)) none ((pk, .list ((D0.map (srcN (cutN (cellN xs 0)))).map vI)) :: (lft, .list [vI (8 - cutN (cellN xs 0)), vI (cutN (cellN xs 0))]) :: (l4.p, .list (vq (D0.map nmN))) :: (l4.x, .inst 84 l4.d) :: (l4.d, .sd (lexD 1 (.ref l4.y) l4.p)) :: ρ)))) ?hsub (C_get7 (n := n + 8) r T F G (by rw [vq_len, List.length_map]; have := mlen; simp at this; ((try clear tail); (try clear h); wtm_at "om")) ?_)
        case hsub =>
          rw [show vS (S (nmN a)) :: vq (A1.map nmN) = vq ((a :: A1).map nmN) from rfl]
          wtm_at "sb"
        wtm_at "m"
        wtm_at "m"
        wtm_at "m"
        wtm_at "m"
        have nk := nm_ok (s2 a (.head _))
        exact W_sub2 (by wtm_at "lem") (by wtm_at "sb") (tail A1 [] a (nmN a) line2 (word t3).2 hs (by have := nm_len a; ((try clear tail); (try clear h); wtm_at "om")) nk.2.2 nk.2.1 (.nil (by
          cases ht with
          | nil e => rw [e]; rfl)) (by ((try clear tail); (try clear h); wtm_at "om")))
      · have hs : mst (cutN (cellN xs 0)) m (i + 1) = (A0, B1, D0 ++ [b]) := by rw [hms]; cases A0 <;> rfl
        have tk := tyOk (cellN xs 2) (s3 b (.head _))
        obtain ⟨r3, e3, h3⟩ : ∃ r3, word t3 = (tyN (cellN xs 2) b, r3) ∧ Words r3 (B1.map (tyN (cellN xs 2))) [] := by
          cases ht with
          | cons e h1 h2 => exact ⟨_, e, h2⟩
        have hwl := word_len t3
        rw [e3] at hwl ⊢
        refine br (fun hb => absurd (S_inj.mp (of_decide_eq_true hb)) tk.ne) (fun _ => ?_)
        wtm_at "m"
        wtm_at "m"
        rw [show (1 : Int) + cnt (othN xs) - cnt t3 + cnt t3 - cnt r3 = 1 + cnt (othN xs) - cnt r3 by ((try clear tail); (try clear h); wtm_at "om")]
        exact W_sub2 (by wtm_at "lem") (by wtm_at "sb") (tail A0 B1 b (tyN (cellN xs 2) b) line2 r3 hs (by have := tk.len; ((try clear tail); (try clear h); wtm_at "om")) tk.known tk.prep h3 (by dsimp only at hwl; ((try clear tail); (try clear h); wtm_at "om")))
    · refine WG_list (x := .ref l2.x) (by wtm_at "at") (tb true).1 (by have := (tb true).2; ((try clear tail); (try clear h); wtm_at "om")) rfl ?_
      wtm_at "one"
      rcases A0 with _ | ⟨a, A1⟩
      · obtain ⟨b, B1, rfl⟩ : ∃ b B1, B0 = b :: B1 := by
          rcases B0 with _ | ⟨b, B1⟩
          · exact absurd rfl (s4.resolve_left (by simp))
          · exact ⟨b, B1, rfl⟩
        have hs : mst (cutN (cellN xs 0)) m (i + 1) = ([], B1, D0 ++ [b]) := hms
        have tk := tyOk (cellN xs 2) (s3 b (.head _))
        obtain ⟨r3, e3, h3⟩ : ∃ r3, word t3 = (tyN (cellN xs 2) b, r3) ∧ Words r3 (B1.map (tyN (cellN xs 2))) [] := by
          cases ht with
          | cons e h1 h2 => exact ⟨_, e, h2⟩
        have hwl := word_len t3
        refine WC_sub (τ := (c', .obj oc) :: l2.s7 c' line2 [] [] ((it, o) :: l3.s7 c' (1 + cnt (othN xs) - cnt t3) t3 [] (lawS xs L' sc a1 a2 a3 a4 (some (.ref l4.x)) none ((pk, .list ((D0.map (srcN (cutN (cellN xs 0)))).map vI)) :: (lft, .list [vI (8 - cutN (cellN xs 0)), vI (cutN (cellN xs 0))]) :: (l4.p, .list (vq (D0.map nmN))) :: (l4.x, .inst 84 l4.d) :: (l4.d, .sd (lexD 1 (.ref l4.y) l4.p)) :: ρ)))) ?hsub (C_get7e (n := n + 5) r T F G (by simp) hrec ?_)
        case hsub =>
          unfold sgD
          rw [show vq (([] : List Nat).map nmN) = [] from rfl]
          wtm_at "sb"
        rw [show word [] = ([], []) from rfl]
        dsimp only
        wtm_at "one"
        refine WB_cons ?_
        wtm_at "one"
        refine br (fun _ => ?_) (fun hb => absurd rfl (of_decide_eq_false hb))
        refine WB_cons ?_
        wtm_at "one"
        refine WG_list (x := .ref l3.x) (by wtm_at "at") (tb true).1 (by have := (tb true).2; ((try clear tail); (try clear h); wtm_at "om")) rfl ?_
        wtm_at "one"
        refine WC_sub (τ := (c', .obj oc) :: l3.s7 c' (1 + cnt (othN xs) - cnt t3) t3 [] ((it, o) :: l2.s7 c' (line2 + cnt [] - cnt []) [] [] (lawS xs L' sc a1 a2 a3 a4 (some (.ref l4.x)) none ((pk, .list ((D0.map (srcN (cutN (cellN xs 0)))).map vI)) :: (lft, .list [vI (8 - cutN (cellN xs 0)), vI (cutN (cellN xs 0))]) :: (l4.p, .list (vq (D0.map nmN))) :: (l4.x, .inst 84 l4.d) :: (l4.d, .sd (lexD 1 (.ref l4.y) l4.p)) :: ρ)))) (by wtm_at "sb") (C_get7e (n := n + 5) r T F G (by ((try clear tail); (try clear h); wtm_at "om")) hrec ?_)
        rw [e3] at hwl ⊢
        wtm_at "m"
        wtm_at "m"
        wtm_at "m"
        wtm_at "m"
        rw [show (1 : Int) + cnt (othN xs) - cnt t3 + cnt t3 - cnt r3 = 1 + cnt (othN xs) - cnt r3 by ((try clear tail); (try clear h); wtm_at "om")]
        refine W_sub2 ?_ ?_ (tail [] B1 b (tyN (cellN xs 2) b) (line2 + cnt [] - cnt []) r3 hs (by have := tk.len; ((try clear tail); (try clear h); wtm_at "om")) tk.known tk.prep h3 (by dsimp only at hwl; ((try clear tail); (try clear h); wtm_at "om")))
        · wtm_at "lem"
        · unfold sgD
          rw [show vq (([] : List Nat).map nmN) = [] from rfl]
          wtm_at "sb"
      · have hs : mst (cutN (cellN xs 0)) m (i + 1) = (A1, B0, D0 ++ [a]) := by rw [hms]; rfl
        refine WC_sub (τ := l2.s7 c' line2 [] (vS (S (nmN a)) :: vq (A1.map nmN)) ((it, o) :: (c', .obj oc) :: l3.s7 c' (1 + cnt (othN xs) - cnt t3) t3 [] (lawS xs L' sc a1 a2 a3 a4 (some (.ref l4.x)) none ((pk, .list ((D0.map (srcN (cutN (cellN xs 0)))).map vI)) :: (lft, .list [vI (8 - cutN (cellN xs 0)), vI (cutN (cellN xs 0))]) :: (l4.p, .list (vq (D0.map nmN))) :: (l4.x, .inst 84 l4.d) :: (l4.d, .sd (lexD 1 (.ref l4.y) l4.p)) :: ρ)))) ?hsub (C_get7 (n := n + 8) r T F G (by rw [vq_len, List.length_map]; have := mlen; simp at this; ((try clear tail); (try clear h); wtm_at "om")) ?_)
        case hsub =>
          rw [show vS (S (nmN a)) :: vq (A1.map nmN) = vq ((a :: A1).map nmN) from rfl]
          wtm_at "sb"
        wtm_at "one"
        refine WB_cons ?_
        wtm_at "one"
        have nk := nm_ok (s2 a (.head _))
        refine br (fun hb => absurd (S_inj.mp (of_decide_eq_true hb)) nk.1) (fun _ => ?_)
        wtm_at "m"
        wtm_at "m"
        exact W_sub2 (by wtm_at "lem") (by wtm_at "sb") (tail A1 B0 a (nmN a) line2 t3 hs (by have := nm_len a; ((try clear tail); (try clear h); wtm_at "om")) nk.2.2 nk.2.1 ht htl)
  case done =>
    rintro μ σ ⟨rfl, line2, t3, hsub, ht, htl⟩
    have z := (ways m hc.1 hc.2).2
    rcases hst : mst (cutN (cellN xs 0)) m 8 with ⟨A0, B0, D0⟩
    rw [show ((List.range 8).map fun (i : Nat) => vI (0 + i)).length = 8 from rfl, hst] at ht hsub
    rw [hst] at z
    simp only [handsAt, Bool.and_eq_true, List.isEmpty_iff] at z
    obtain ⟨⟨⟨⟨z1, z2⟩, _⟩, _⟩, _⟩ := z
    subst z1 z2
    dsimp only at ht hsub
    refine W_le hsub ?_
    wtm_at "m"
    wtm_at "m"
    have := h line2 (1 + cnt (othN xs) - cnt t3) t3 ht htl rfl
    unfold deckN at this
    rw [hst] at this
    exact this
end
/- the deck ahead of the rest -/
noncomputable abbrev dkS (xs : List Int) (L' sc a1 a2 a3 a4 : Addr) (l4 : Lx) (dv : List Value) (jv : Option Value) (γ : Sg) : Sg :=
  (l4.p, .list dv) :: (l4.x, .inst 84 l4.d) :: (l4.d, .sd (lexD 1 (.ref l4.y) l4.p)) :: lawS xs L' sc a1 a2 a3 a4 (some (.ref l4.x)) jv γ
noncomputable def cardsV (D : List Nat) : List Value := D.map fun (c : Nat) => vI c
theorem nm_idx {c : Nat} (h : c < 8) : (nmL.map S).idxOf (S (nmN c)) = c ∧ S (nmN c) ∈ nmL.map S := by
  rcases c with _|_|_|_|_|_|_|_|c <;> first | exact ⟨by decide +kernel, by decide +kernel⟩ | wtm_at "om"
section
variable {C : Cx} {A : Around} {L : Addr} {μ : Mu} {σ ρ γ : Sg} {n : Nat} {K : Frag} {env : Env}
theorem vq_eq (l : List (List Nat)) : vq l = (l.map S).map vS := by unfold vq; rw [List.map_map]; rfl
theorem WC_indexQ {a : Addr} {l : List (List Nat)} {q : List Nat} {f : AO → Sg} {Q : Value → Sg → Prop} (x : At σ a (.list (vq l)) f) (hy : S q ∈ l.map S) (hz : l.length ≤ 1000000) (h : Q (vI ((l.map S).idxOf (S q))) σ) : WC C A L (.builtin "list.index") [.ref a, vS (S q)] σ Q := by
  rw [vq_eq] at x
  exact WC_index x hy (by simpa using hz) h
theorem law_e0 {pm : Value} {lf lc sc L' a1 a2 a3 a4 pk lft : Addr} {l l2 l3 l4 : Lx} {xs : List Int} {D : List Nat} {jv : Option Value} {Q : Flow → Mu → Sg → Prop} (r : Room A (n + 9)) (T : Tp (DD K) C) (F : KF K) (G : KG K) (hcl : (lawE pm L' lf lc).cells = lawCl L')
    (hD : D.length = 8) (hD8 : ∀ c ∈ D, c < 8)
    (h : ∀ a8, WB C A (lawE pm L' lf lc) ((forBody (lawSt 20)).drop 2) (("cards", .ref a8) :: baseD xs l l2 l3 pk lft) ((a8, .list (cardsV D)) :: dkS xs L' sc a1 a2 a3 a4 l4 (vq (D.map nmN)) jv γ) Q) :
    WB C A (lawE pm L' lf lc) ((forBody (lawSt 20)).drop 0) (baseD xs l l2 l3 pk lft) (dkS xs L' sc a1 a2 a3 a4 l4 (vq (D.map nmN)) jv γ) Q := by
  refine WB_cons ?_
  refine WS_Assign_ListComp (n := n + 9) (cl := [("names", L' + 3), ("deck", L' + 8)]) r (by with_unfolding_all rfl) (by kernel_rfl) (by decide +kernel) (by kernel_rfl) (by decide +kernel) (by kernel_rfl) (by kernel_rfl) ?_ (by intro _; rfl) (by intro _ _; rfl)
  wtm_at "one"
  refine WC_range1 fun rg t u v => ?_
  refine ⟨(List.range 8).map fun (i : Nat) => vI (0 + i), fun _ => True, fun i ys σ => ys = cardsV (D.take i) ∧ Sub (dkS xs L' sc a1 a2 a3 a4 l4 (vq ((D.drop i).map nmN)) jv γ) σ, ItS_range .here (by decide) (by decide) (by decide) (by decide), ⟨rfl, .skip .refl⟩, fun _ _ _ _ => trivial, ?_, ?_⟩
  · intro C' L1 i x ys it Dl o σ l' hx hj hz
    obtain ⟨rfl, hsub⟩ := hj
    have hi : i < 8 := by
      have := (List.getElem?_eq_some_iff.mp hx).1
      simpa using this
    have T' := T.le l'
    refine WTg_sub (Sub.cons .here (.cons .here hsub)) ?_
    refine WTg_name ?_
    wtm_at "one"
    obtain ⟨c, hc, hd⟩ : ∃ c, D[i]? = some c ∧ D.drop i = c :: D.drop (i + 1) := ⟨D[i], by simp [hD, hi], by rw [List.drop_eq_getElem_cons (by wtm_at "om")]⟩
    have hc8 : c < 8 := hD8 c (List.mem_of_getElem? hc)
    obtain ⟨n1, n2⟩ := nm_idx hc8
    rw [hd]
    refine WC_sub (τ := (l4.p, .list (vq ((c :: D.drop (i + 1)).map nmN))) :: (l4.x, .inst 84 l4.d) :: (l4.d, .sd (lexD 1 (.ref l4.y) l4.p)) :: (it, o) :: (Dl, .list (cardsV (D.take i))) :: lawS xs L' sc a1 a2 a3 a4 (some (.ref l4.x)) jv γ) (by wtm_at "sb") (WCK.wc (C_getPB (n := n + 8) (vs := vq ((D.drop (i + 1)).map nmN)) (v := vS (S (nmN c))) r T' F G (by rw [vq_len, List.length_map, List.length_drop]; wtm_at "om") ?_))
    wtm_at "one"
    refine WC_indexQ (l := nmL) (by wtm_at "at") n2 (by simp [nmL]) ?_
    rw [n1]
    have e : cardsV (D.take i) ++ [vI c] = cardsV (D.take (i + 1)) := by
      unfold cardsV
      rw [List.take_add_one, hc, List.map_append]
      rfl
    refine ⟨dkS xs L' sc a1 a2 a3 a4 l4 (vq ((D.drop (i + 1)).map nmN)) jv γ, by wtm_at "sb", ?_, e, .refl⟩
    rw [e]
    unfold cardsV
    simp; wtm_at "om"
  · rintro Dc ys σ ⟨rfl, hsub⟩ hz
    refine W_le (Sub.cons .here hsub) ?_
    rw [show ((List.range 8).map fun (i : Nat) => vI (0 + i)).length = 8 from rfl, List.take_of_length_le (by wtm_at "om"), List.drop_of_length_le (by wtm_at "om")]
    refine WB_cons ?_
    refine WS_For (n := n + 9) (vs := cardsV D) (H := fun σ => ∃ g, At σ Dc (.list (cardsV D)) g) (J := fun i μ σ => μ = (("cards", .ref Dc) :: baseD xs l l2 l3 pk lft : Mu) ∧ σ = (Dc, .list (cardsV D)) :: dkS xs L' sc a1 a2 a3 a4 l4 (vq ((D.take i).map nmN)) jv γ) r ?iter ?hat ?step ?done
    case iter =>
      wtm_at "one"
      exact ⟨ItS_list .here, rfl, rfl⟩
    case hat =>
      rintro i μ σ ⟨_, rfl⟩
      exact ⟨_, .here⟩
    case step =>
      rintro i x it o μ σ hx ⟨rfl, rfl⟩
      obtain ⟨c, hc, rfl⟩ : ∃ c, D[i]? = some c ∧ x = vI c := by
        unfold cardsV at hx
        rw [List.getElem?_map] at hx
        obtain ⟨c, h1, rfl⟩ := Option.map_eq_some_iff.mp hx
        exact ⟨c, h1, rfl⟩
      have hc8 : c < 8 := hD8 c (List.mem_of_getElem? hc)
      refine WTg_name ?_
      wtm_at "one"
      refine WB_cons ?_
      wtm_at "one"
      refine WG_list (x := vS (S (nmN c))) (by wtm_at "at") (by wtm_at "om") (by wtm_at "om") ?_ ?_
      · rw [show ((c : Int)).toNat = c by wtm_at "om"]
        unfold vq nmN
        rw [List.getElem?_map, List.getD_eq_getElem?_getD, List.getElem?_eq_getElem (by simpa [nmL] using hc8)]
        rfl
      wtm_at "one"
      refine WC_sub (τ := (l4.p, .list (vq ((D.take i).map nmN))) :: (l4.x, .inst 84 l4.d) :: (l4.d, .sd (lexD 1 (.ref l4.y) l4.p)) :: (it, o) :: (Dc, .list (cardsV D)) :: lawS xs L' sc a1 a2 a3 a4 (some (.ref l4.x)) jv γ) (by wtm_at "sb") (C_push (n := n + 8) r T F G (by rw [vq_len, List.length_map, List.length_take]; wtm_at "om") ?_)
      rw [show vq ((D.take i).map nmN) ++ [vS (S (nmN c))] = vq ((D.take (i + 1)).map nmN) by
        unfold vq
        rw [List.take_add_one, hc, List.map_append, List.map_append]
        rfl]
      wtm_at "one"
      exact ⟨("cards", .ref Dc) :: baseD xs l l2 l3 pk lft, (Dc, .list (cardsV D)) :: dkS xs L' sc a1 a2 a3 a4 l4 (vq ((D.take (i + 1)).map nmN)) jv γ, by wtm_at "lem", by wtm_at "sb", rfl, rfl⟩
    case done =>
      rintro μ σ ⟨rfl, rfl⟩
      rw [show (cardsV D).length = D.length by unfold cardsV; simp, List.take_length]
      wtm_at "m"
      exact h Dc
end
noncomputable abbrev top3 : List Nat := [48, 120, 51, 48, 48, 48, 48, 48, 48, 48, 48]
noncomputable def dueN (low j : Nat) : List Str := (sortN low j).map flagS ++ [S top3]
theorem sortN_sorted (low j : Nat) : ((sortN low j).map fun (p : Nat) => (p : Int)).Pairwise (· ≤ ·) := by
  unfold sortN
  rw [List.pairwise_map]
  refine (List.Pairwise.filter _ List.pairwise_lt_range).imp fun h => ?_
  wtm_at "om"
theorem flags_at {low j : Nat} (hl : low < 32) (h2 : 2 ≤ j) (h8 : j ≤ 8) : placed (sumN low j) 32 = (sortN low j).map flagS ∧ shownTop (sumN low j) = S top3 ∧ (sortN low j).Perm ((List.range j).map (placeN low)) ∧ sumN low j / 2 ^ 32 = 3 := by
  have z := flags_all
  simp only [List.all_eq_true, List.mem_range] at z
  have z := z low hl (j - 2) (by wtm_at "om")
  rw [show j - 2 + 2 = j by wtm_at "om"] at z
  simp only [Bool.and_eq_true, decide_eq_true_eq] at z
  exact ⟨z.1.1.1, z.1.1.2, List.isPerm_iff.mp z.1.2, z.2⟩
noncomputable def gF : Value → Option Value
  | .int i _ => some (vS (flagS i.toNat))
  | _ => none
theorem gF_map (l : List Nat) : ((l.map fun (p : Nat) => (p : Int)).map vI).filterMap gF = (l.map flagS).map vS := by
  rw [List.map_map, List.filterMap_map, List.map_map]
  show l.filterMap (fun (p : Nat) => some (vS (flagS ((p : Int)).toNat))) = _
  rw [show (fun (p : Nat) => some (vS (flagS ((p : Int)).toNat))) = some ∘ fun p => vS (flagS p) by funext p; simp, List.filterMap_eq_map]
  rfl
section
variable {C : Cx} {A : Around} {L : Addr} {μ : Mu} {σ ρ γ : Sg} {n : Nat} {K : Frag} {env : Env}
theorem law_e2 {pm : Value} {lf lc sc L' a1 a2 a3 a4 a8 pk lft : Addr} {l l2 l3 l4 : Lx} {xs : List Int} {dv cv : List Value} {j : Nat} {Q : Flow → Mu → Sg → Prop} (r : Room A (n + 9)) (T : Tp (DD K) C) (F : KF K) (hcl : (lawE pm L' lf lc).cells = lawCl L')
    (h2 : 2 ≤ j) (h8 : j ≤ 8)
    (h : ∀ a9, WB C A (lawE pm L' lf lc) ((forBody (lawSt 20)).drop 3) (("due", .ref a9) :: ("cards", .ref a8) :: baseD xs l l2 l3 pk lft) ((a9, .list ((dueN (lowN (cellN xs 0)) j).map vS)) :: (a8, .list cv) :: dkS xs L' sc a1 a2 a3 a4 l4 dv (some (vI j)) γ) Q) :
    WB C A (lawE pm L' lf lc) ((forBody (lawSt 20)).drop 2) (("cards", .ref a8) :: baseD xs l l2 l3 pk lft) ((a8, .list cv) :: dkS xs L' sc a1 a2 a3 a4 l4 dv (some (vI j)) γ) Q := by
  have hlow : lowN (cellN xs 0) < 32 := by unfold lowN; wtm_at "om"
  generalize hlw : lowN (cellN xs 0) = low at hlow h
  obtain ⟨f1, f2, f3, f4⟩ := flags_at hlow h2 h8
  refine WB_cons ?_
  wtm_at "one"
  refine WE_LC [] r ?_ (by kernel_rfl) (by kernel_rfl) (by kernel_rfl) (by kernel_rfl) (by intro _; rfl) (by intro _ _; rfl)
  wtm_at "one"
  refine WE_LC [("low", L' + 7)] r ?_ (by kernel_rfl) (by kernel_rfl) (by kernel_rfl) (by kernel_rfl) (by intro _; rfl) (by intro _ _; rfl)
  wtm_at "one"
  refine WC_range1 fun rg t u v => ?_
  refine lgo (τ := _) ((List.range ((j : Int) - 0).toNat).map fun (i : Nat) => vI (0 + i)) (fun _ => True) (gI fun i => vI ((placeN low i.toNat : Nat) : Int)) .refl (ItS_range .here (by decide) (by decide) (by wtm_at "om") (by wtm_at "om")) trivial (by simp; wtm_at "om") ?_ (fun D7 => ?_)
  · intro C'' L'' v it D o ys l'' hv
    obtain ⟨i, hi, rfl⟩ := rng_mem hv
    have T'' := T.le l''
    refine WTg_name ?_
    wtm_at "one"
    refine B_mul (IntMulOk.of_left (by decide +kernel)) ?_
    wtm_at "one"
    refine ⟨by wtm_at "sb", ?_⟩
    show some (vI ((placeN low ((0 : Int) + (i : Int)).toNat : Nat) : Int)) = _
    rw [hlw]
    unfold placeN
    congr 2
  rw [gI_map, show ((List.range ((j : Int) - 0).toNat).map fun (i : Nat) => vI ((placeN low ((0 : Int) + (i : Int)).toNat : Nat) : Int)) = (((List.range j).map (placeN low)).map fun (p : Nat) => (p : Int)).map vI by
    rw [List.map_map, List.map_map, show ((j : Int) - 0).toNat = j by wtm_at "om"]
    apply List.map_congr_left
    intro k _
    rw [show ((0 : Int) + (k : Int)).toNat = k by wtm_at "om"]
    rfl]
  wtm_at "one"
  refine WC_sortedI (by wtm_at "at") (by simp; wtm_at "om") fun c ns hp hs => ?_
  have hns : ns = (sortN low j).map fun (p : Nat) => (p : Int) := by
    have : ns.Perm ((sortN low j).map fun (p : Nat) => (p : Int)) := hp.trans (f3.symm.map _)
    exact this.eq_of_pairwise (fun a b _ _ h1 h2 => by wtm_at "om") hs (sortN_sorted low j)
  subst hns
  refine lgo (τ := _) (((sortN low j).map fun (p : Nat) => (p : Int)).map vI) (fun σ => ∃ g, At σ c (.list (((sortN low j).map fun (p : Nat) => (p : Int)).map vI)) g) gF .refl (ItS_list .here) ⟨_, .here⟩ ?_ ?_ (fun D8 => ?_)
  · have := f3.length_eq
    simp at this ⊢
    wtm_at "om"
  · intro C'' L'' v it D o ys l'' hv
    obtain ⟨q, hq, rfl⟩ := List.mem_map.mp hv
    obtain ⟨p, hpp, rfl⟩ := List.mem_map.mp hq
    have hp32 : p < 32 := by
      unfold sortN at hpp
      exact List.mem_range.mp (List.mem_filter.mp hpp).1
    have T'' := T.le l''
    refine WTg_name ?_
    wtm_at "one"
    refine C_flag (n := n + 8) r T'' F hp32 ?_
    exact ⟨by wtm_at "sb", rfl⟩
  rw [gF_map]
  wtm_at "one"
  refine B_add_list (by wtm_at "at") (by wtm_at "at") ?_ fun c2 => ?_
  · have := f3.length_eq
    simp at this ⊢
    wtm_at "om"
  wtm_at "one"
  refine W_sub2 ?_ ?_ (h c2)
  · wtm_at "lem"
  · rw [show (dueN low j).map vS = ((sortN low j).map flagS).map vS ++ [vS (S top3)] by unfold dueN; rw [List.map_append]; rfl]
    wtm_at "sb"
end
theorem sum_cast (l : List Nat) : (l.map fun (p : Nat) => (p : Int)).sum = ((l.sum : Nat) : Int) := by
  induction l with
  | nil => rfl
  | cons a r ih => rw [List.map_cons, List.sum_cons, List.sum_cons, ih]; push_cast; rfl
noncomputable def gH (low j : Nat) : Value → Option Value
  | .int i _ => some (vI ((2 ^ placeN low (i.toNat % j) : Nat) : Int))
  | _ => none
theorem gH_map (low j : Nat) (l : List Nat) : (cardsV l).filterMap (gH low j) = ((l.map fun c => 2 ^ placeN low (c % j)).map fun (p : Nat) => (p : Int)).map vI := by
  unfold cardsV
  rw [List.filterMap_map, List.map_map, List.map_map]
  show l.filterMap (fun (c : Nat) => some (vI ((2 ^ placeN low ((c : Int).toNat % j) : Nat) : Int))) = _
  rw [show (fun (c : Nat) => some (vI ((2 ^ placeN low ((c : Int).toNat % j) : Nat) : Int))) = some ∘ fun (c : Nat) => vI ((2 ^ placeN low (c % j) : Nat) : Int) by funext c; simp, List.filterMap_eq_map]
  rfl
theorem due_ok {low j : Nat} (h2 : 2 ≤ j) (h8 : j ≤ 8) (hl : low < 32) : JoinOk (S [44, 32]) (dueN low j) = true := by
  obtain ⟨f1, f2, f3, f4⟩ := flags_at hl h2 h8
  refine joinOk_le (m := 40) ?_ ?_
  · intro x hx
    unfold dueN at hx
    rcases List.mem_append.mp hx with hx | hx
    · obtain ⟨p, hp, rfl⟩ := List.mem_map.mp hx
      have hp32 : p < 32 := by
        unfold sortN at hp
        exact List.mem_range.mp (List.mem_filter.mp hp).1
      have z : ((List.range 32).all fun p => decide ((flagS p).length ≤ 40)) = true := by decide +kernel
      simpa using List.all_eq_true.mp z p (List.mem_range.mpr hp32)
    · rw [List.mem_singleton.mp hx]; decide +kernel
  · have := f3.length_eq
    unfold dueN
    simp [S_len] at this ⊢
    wtm_at "om"
theorem hand_sum {low j : Nat} {H : List Nat} (h : (H.map (· % j)).Perm (List.range j)) : ((H.map fun c => 2 ^ placeN low (c % j)).map fun (p : Nat) => (p : Int)).sum + 3 * 2 ^ ((32 : Int)).toNat = ((sumN low j : Nat) : Int) := by
  rw [sum_cast]
  unfold sumN
  rw [show (H.map fun c => 2 ^ placeN low (c % j)) = (H.map (· % j)).map fun r => 2 ^ placeN low r by rw [List.map_map]; rfl, (h.map _).sum_nat, Int.natCast_add, show ((3 * 2 ^ 32 : Nat) : Int) = 3 * 2 ^ ((32 : Int)).toNat by decide +kernel]
section
variable {C : Cx} {A : Around} {L : Addr} {μ : Mu} {σ ρ γ : Sg} {n : Nat} {K : Frag} {env : Env}
theorem law_e3 {pm : Value} {lf lc sc L' a1 a2 a3 a4 a8 a9 pk lft : Addr} {l l2 l3 l4 : Lx} {xs : List Int} {dv : List Value} {D : List Nat} {j : Nat} {Q : Flow → Mu → Sg → Prop} (r : Room A (n + 9)) (T : Tp (DD K) C) (F : KF K) (D2 : KD2 K) (hcl : (lawE pm L' lf lc).cells = lawCl L')
    (h2 : 2 ≤ j) (h8 : j ≤ 8) (hD : D.length = 8) (hD8 : ∀ c ∈ D, c < 8) (hh : ∀ i < 8 / j, (((D.drop (i * j)).take j).map (· % j)).Perm (List.range j))
    (h : Q .next (("due", .ref a9) :: ("cards", .ref a8) :: baseD xs l l2 l3 pk lft) ((a9, .list ((dueN (lowN (cellN xs 0)) j).map vS)) :: (a8, .list (cardsV D)) :: dkS xs L' sc a1 a2 a3 a4 l4 dv (some (vI j)) γ)) :
    WB C A (lawE pm L' lf lc) ((forBody (lawSt 20)).drop 3) (("due", .ref a9) :: ("cards", .ref a8) :: baseD xs l l2 l3 pk lft) ((a9, .list ((dueN (lowN (cellN xs 0)) j).map vS)) :: (a8, .list (cardsV D)) :: dkS xs L' sc a1 a2 a3 a4 l4 dv (some (vI j)) γ) Q := by
  have hlow : lowN (cellN xs 0) < 32 := by unfold lowN; wtm_at "om"
  obtain ⟨low, hlw⟩ : ∃ low, low = lowN (cellN xs 0) := ⟨_, rfl⟩
  rw [← hlw] at hlow h ⊢
  obtain ⟨f1, f2, f3, f4⟩ := flags_at hlow h2 h8
  obtain ⟨q, hq⟩ : ∃ q, q = 8 / j := ⟨_, rfl⟩
  have hq8 : q ≤ 8 := by rw [hq]; exact Nat.div_le_self ..
  have hqi : (8 : Int) / (j : Int) = (q : Int) := by rw [hq]; push_cast; rfl
  rw [← hq] at hh
  refine WB_cons ?_
  refine WS_For (n := n + 9) (vs := (List.range ((q : Int) - 0).toNat).map fun (i : Nat) => vI (0 + i)) (H := fun _ => True) (J := fun i μ σ => μ = (("due", .ref a9) :: ("cards", .ref a8) :: baseD xs l l2 l3 pk lft : Mu) ∧ Sub ((a9, .list ((dueN low j).map vS)) :: (a8, .list (cardsV D)) :: dkS xs L' sc a1 a2 a3 a4 l4 dv (some (vI j)) γ) σ) r ?iter (fun _ _ _ _ => trivial) ?step ?done
  case iter =>
    wtm_at "one"
    refine B_div (by wtm_at "om") (PyProof.noPylong_small (by wtm_at "om")) ?_
    wtm_at "one"
    rw [hqi]
    refine WC_range1 fun rg t u v => ⟨ItS_range .here (by decide) (by decide) (by wtm_at "om") (by wtm_at "om"), rfl, .skip .refl⟩
  case step =>
    rintro i x it o μ σ hx ⟨rfl, hsub⟩
    obtain ⟨hi, rfl⟩ : i < q ∧ x = vI (0 + (i : Int)) := by
      have hlt : i < ((q : Int) - 0).toNat := by
        have := (List.getElem?_eq_some_iff.mp hx).1
        simpa using this
      refine ⟨by wtm_at "om", ?_⟩
      rw [List.getElem?_map, List.getElem?_range hlt] at hx
      exact (Option.some.inj hx).symm
    have hij : i * j + j ≤ 8 := by
      have h1 : (i + 1) * j ≤ q * j := Nat.mul_le_mul_right _ (by wtm_at "om")
      have h2 := Nat.div_mul_le_self 8 j
      rw [← hq] at h2
      rw [Nat.add_mul, Nat.one_mul] at h1
      wtm_at "om"
    refine WTg_sub (Sub.cons .here hsub) ?_
    refine WTg_name ?_
    wtm_at "one"
    refine WB_cons ?_
    wtm_at "one"
    have hm1 : (0 + (i : Int)) * (j : Int) = ((i * j : Nat) : Int) := by rw [Int.zero_add]; push_cast; rfl
    have imo : IntMulOk (0 + (i : Int)) (j : Int) := IntMulOk.of_right (PySem.intBits_le_64 (by wtm_at "om") (by wtm_at "om"))
    refine WS_LC [("low", L' + 7), ("j", L' + 9)] r ?_ (by with_unfolding_all rfl) (by kernel_rfl) (by kernel_rfl) (by kernel_rfl) (by kernel_rfl) (by kernel_rfl) (by kernel_rfl) (by intro _; rfl) (by intro _ _; rfl)
    wtm_at "one"
    refine WE_Slice (WO_some ?_)
    wtm_at "one"
    refine B_mul imo ?_
    rw [hm1]
    refine WO_some ?_
    wtm_at "one"
    refine B_mul imo ?_
    rw [hm1]
    wtm_at "one"
    rw [show ((i * j : Nat) : Int) + (j : Int) = ((i * j + j : Nat) : Int) by push_cast; rfl]
    refine WO_none ?_
    intro sl
    refine item_now (PI_list (by wtm_at "at")) ?_
    refine WG_slice (lo := some ((i * j : Nat) : Int)) (hi := some ((i * j + j : Nat) : Int)) (st := none) (by wtm_at "at") (by wtm_at "at") (.int _) (.int _) .none (by simp) (by unfold cardsV; simp; wtm_at "om") fun b => ?_
    rw [pick_mid _ (by wtm_at "om") (by unfold cardsV; simp; wtm_at "om"), show ((cardsV D).drop (i * j)).take (i * j + j - i * j) = cardsV ((D.drop (i * j)).take j) by
      unfold cardsV
      rw [← List.map_drop, ← List.map_take, show i * j + j - i * j = j by wtm_at "om"]]
    generalize hH : (D.drop (i * j)).take j = H
    have hP := hh i hi
    rw [hH] at hP
    have hHl : H.length ≤ 8 := by rw [← hH]; simp; wtm_at "om"
    have hH8 : ∀ c ∈ H, c < 8 := fun c hc => hD8 c (by rw [← hH] at hc; exact List.mem_of_mem_drop (List.mem_of_mem_take hc))
    refine lgo (τ := _) (cardsV H) (fun σ => ∃ g, At σ b (.list (cardsV H)) g) (gH low j) .refl (ItS_list .here) ⟨_, .here⟩ (by unfold cardsV; simp; wtm_at "om") ?_ (fun D8 => ?_)
    · intro C'' L'' v it' D' o' ys l'' hv
      obtain ⟨c, hc, rfl⟩ := List.mem_map.mp hv
      have hc8 := hH8 c hc
      refine WTg_name ?_
      wtm_at "one"
      refine B_mod (by wtm_at "om") ?_ (PyProof.noPylong_small (by wtm_at "om"))
      wtm_at "one"
      refine B_mul (IntMulOk.of_left (by decide +kernel)) ?_
      wtm_at "one"
      rw [← hlw, show ((low : Int) + 5 * ((c : Int) % (j : Int))) % 32 = ((placeN low (c % j) : Nat) : Int) by
        unfold placeN
        rw [show (c : Int) % (j : Int) = ((c % j : Nat) : Int) by push_cast; rfl]
        wtm_at "om"]
      have hpl : placeN low (c % j) < 32 := by unfold placeN; wtm_at "om"
      refine B_shl (by wtm_at "om") (by wtm_at "om") (by decide) ?_
      refine ⟨by wtm_at "sb", ?_⟩
      show some (vI ((2 ^ placeN low ((c : Int).toNat % j) : Nat) : Int)) = _
      rw [show (c : Int).toNat = c by wtm_at "om", show ((placeN low (c % j) : Nat) : Int).toNat = placeN low (c % j) by wtm_at "om", one_shl]
    rw [gH_map]
    wtm_at "one"
    refine WB_cons ?_
    wtm_at "one"
    refine WC_sumI r (by wtm_at "at") ?_
    wtm_at "one"
    refine B_shl (by wtm_at "om") (by wtm_at "om") (by decide) ?_
    wtm_at "one"
    rw [hand_sum hP]
    refine C_pretty (n := n + 8) r T F D2 (.inl f4) ?_
    rw [f1, f2, show (sortN low j).map flagS ++ [S top3] = dueN low j from rfl]
    wtm_at "one"
    refine WC_join (by wtm_at "at") (due_ok h2 h8 hlow) ?_
    wtm_at "one"
    refine br (fun hb => absurd rfl (of_decide_eq_true hb)) (fun _ => ?_)
    wtm_at "one"
    exact ⟨("due", .ref a9) :: ("cards", .ref a8) :: baseD xs l l2 l3 pk lft, (a9, .list ((dueN low j).map vS)) :: (a8, .list (cardsV D)) :: dkS xs L' sc a1 a2 a3 a4 l4 dv (some (vI j)) γ, by wtm_at "lem", by wtm_at "sb", rfl, .refl⟩
  case done =>
    rintro μ σ ⟨rfl, hsub⟩
    refine W_le hsub ?_
    wtm_at "m"
    wtm_at "m"
    wtm_at "m"
    exact h
end
section
variable {C : Cx} {A : Around} {L : Addr} {μ : Mu} {σ ρ γ : Sg} {n : Nat} {K : Frag} {env : Env}
theorem law_e {pm : Value} {lf lc sc L' a1 a2 a3 a4 pk lft : Addr} {l l2 l3 l4 : Lx} {xs : List Int} {D : List Nat} {Q : Flow → Mu → Sg → Prop} (r : Room A (n + 9)) (T : Tp (DD K) C) (F : KF K) (G : KG K) (D2 : KD2 K) (hcl : (lawE pm L' lf lc).cells = lawCl L')
    (hD : D.length = 8) (hD8 : ∀ c ∈ D, c < 8) (hh : ∀ j, 2 ≤ j → j ≤ 8 → ∀ i < 8 / j, (((D.drop (i * j)).take j).map (· % j)).Perm (List.range j))
    (h : ∀ jv, WB C A (lawE pm L' lf lc) ((bodyOf (stm 31)).drop 21) (baseD xs l l2 l3 pk lft) (dkS xs L' sc a1 a2 a3 a4 l4 (vq (D.map nmN)) jv γ) Q) :
    WB C A (lawE pm L' lf lc) ((bodyOf (stm 31)).drop 20) (baseD xs l l2 l3 pk lft) (dkS xs L' sc a1 a2 a3 a4 l4 (vq (D.map nmN)) none γ) Q := by
  refine WB_cons ?_
  refine WS_For (n := n + 9) (vs := (List.range ((9 : Int) - 2).toNat).map fun (i : Nat) => vI (2 + i)) (H := fun _ => True) (J := fun i μ σ => μ = baseD xs l l2 l3 pk lft ∧ ∃ jv, Sub (dkS xs L' sc a1 a2 a3 a4 l4 (vq (D.map nmN)) jv γ) σ) r ?iter (fun _ _ _ _ => trivial) ?step ?done
  case iter =>
    wtm_at "one"
    refine WC_range2 fun rg t u v => ⟨ItS_range .here (by decide) (by decide) (by decide) (by decide), rfl, none, .skip .refl⟩
  case step =>
    rintro i x it o μ σ hx ⟨rfl, jv, hsub⟩
    obtain ⟨hi, rfl⟩ : i < 7 ∧ x = vI (2 + (i : Int)) := by
      have hlt : i < ((9 : Int) - 2).toNat := by
        have := (List.getElem?_eq_some_iff.mp hx).1
        simpa using this
      refine ⟨by wtm_at "om", ?_⟩
      rw [List.getElem?_map, List.getElem?_range hlt] at hx
      exact (Option.some.inj hx).symm
    refine WTg_sub (Sub.cons .here hsub) ?_
    refine WTg_name ?_
    rw [show (2 : Int) + (i : Int) = ((2 + i : Nat) : Int) by wtm_at "om"]
    wtm_at "one"
    refine W_le (τ := dkS xs L' sc a1 a2 a3 a4 l4 (vq (D.map nmN)) (some (vI ((2 + i : Nat) : Int))) ((it, o) :: γ)) (by wtm_at "sb") ?_
    refine law_e0 (n := n) r T F G hcl hD hD8 fun a8 => ?_
    refine law_e2 (n := n) r T F hcl (by wtm_at "om") (by wtm_at "om") fun a9 => ?_
    refine law_e3 (n := n) r T F D2 hcl (by wtm_at "om") (by wtm_at "om") hD hD8 (hh (2 + i) (by wtm_at "om") (by wtm_at "om")) ?_
    exact ⟨baseD xs l l2 l3 pk lft, dkS xs L' sc a1 a2 a3 a4 l4 (vq (D.map nmN)) (some (vI ((2 + i : Nat) : Int))) γ, by wtm_at "lem", by wtm_at "sb", rfl, _, .refl⟩
  case done =>
    rintro μ σ ⟨rfl, jv, hsub⟩
    refine W_le hsub ?_
    wtm_at "m"
    wtm_at "m"
    exact h jv
end
theorem occ_count (t : List Nat) (c : Nat) : ∀ (n a : Nat) (f : Array Nat) (fr : Nat), fr ≤ a → f.size ≤ a →
    (forIn (List.range' a n) (f, fr) (PySem.StrLaws.occBody (S t) ⟨#[c]⟩ (S t).length ((S t).length + 1))).run.fst.size = f.size + ((t.drop a).take n).count c
  | 0, a, f, fr, _, _ => by simp
  | n + 1, a, f, fr, h1, h2 => by
    rw [List.range'_succ, List.forIn_cons]
    unfold PySem.StrLaws.occBody
    have hs := PySem.StrLaws.subAt_one (S t) c a
    have hcp : (S t).cps.toList = t := by simp [S]
    rw [hcp] at hs
    by_cases hc : t[a]? = some c
    · obtain ⟨k1, k2⟩ := hs.mpr hc
      have hlt : a < t.length := (List.getElem?_eq_some_iff.mp hc).1
      have hz : f.size < (S t).length + 1 := by rw [S_len]; wtm_at "om"
      rw [if_pos ⟨⟨⟨hz, h1⟩, k1⟩, k2⟩]
      have ih := occ_count t c n (a + 1) (f.push a) (a + (⟨#[c]⟩ : Str).length) (by show a + 1 ≤ a + 1; wtm_at "om") (by rw [Array.size_push]; wtm_at "om")
      refine Eq.trans ih ?_
      rw [Array.size_push, List.drop_eq_getElem_cons hlt, List.take_succ_cons, List.count_cons]
      have : t[a] = c := by
        have := List.getElem?_eq_some_iff.mp hc
        exact this.2
      rw [this]
      simp; wtm_at "om"
    · rw [if_neg (fun h => hc (hs.mp ⟨h.1.2, h.2⟩))]
      have ih := occ_count t c n (a + 1) f fr (by wtm_at "om") (by wtm_at "om")
      refine Eq.trans ih ?_
      by_cases hlt : a < t.length
      · rw [List.drop_eq_getElem_cons hlt, List.take_succ_cons, List.count_cons]
        have : ¬ (t[a] = c) := fun e => hc (by rw [List.getElem?_eq_getElem hlt, e])
        simp [this]
      · rw [List.drop_eq_nil_of_le (by wtm_at "om"), List.drop_eq_nil_of_le (by wtm_at "om")]
        simp
theorem count_S (t : List Nat) : Txt.count (S t) (S [10]) = cnt t := by
  unfold Txt.count cnt
  rw [PySem.StrLaws.occ_eq, Array.length_toList]
  have := occ_count t 10 ((S t).length + 1 - 0) 0 #[] 0 (by wtm_at "om") (by simp)
  rw [show (S [10] : Str) = ⟨#[10]⟩ from rfl, this]
  rw [S_len, List.drop_zero, List.take_of_length_le (by wtm_at "om")]
  simp
noncomputable def lessV (ct c : Nat) : Value := vI (if (decide ((c : Int) < (ct : Int))) = true then 1 else 0)
theorem srcs_eq (ct : Nat) (D : List Nat) : (D.map (lessV ct)) = (D.map (srcN ct)).map vI := by
  rw [List.map_map]
  apply List.map_congr_left
  intro c _
  unfold srcN lessV
  show vI _ = vI _
  congr 1
  simp
theorem pretty0 : Txt.join (S [44, 32]) (placed 0 32 ++ [shownTop 0]) = S [48, 120, 48] := by decide +kernel
section
variable {C : Cx} {A : Around} {L : Addr} {μ : Mu} {σ ρ γ : Sg} {n : Nat} {K : Frag} {env : Env}
theorem WE_sub {e : Expr} {τ : Sg} {Q : Value → Sg → Prop} (h : Sub τ σ) (k : WE C A env e μ τ Q) : WE C A env e μ σ Q := W_sub h k
theorem law_f1 {pm : Value} {lf lc sc L' a1 a2 a3 a4 pk lft : Addr} {l l2 l3 l4 : Lx} {xs : List Int} {D : List Nat} {jv : Option Value} {Q : Flow → Mu → Sg → Prop} (r : Room A (n + 9)) (T : Tp (DD K) C) (F : KF K) (G : KG K) (hcl : (lawE pm L' lf lc).cells = lawCl L')
    (hD : D.length = 8) (hD8 : ∀ c ∈ D, c < 8)
    (h : WB C A (lawE pm L' lf lc) ((bodyOf (stm 31)).drop 22) (baseD xs l l2 l3 pk lft) (lawS xs L' sc a1 a2 a3 a4 (some (.ref l4.x)) jv γ) Q) :
    WB C A (lawE pm L' lf lc) ((bodyOf (stm 31)).drop 21) (baseD xs l l2 l3 pk lft) (dkS xs L' sc a1 a2 a3 a4 l4 (vq (D.map nmN)) jv ((pk, .list ((D.map (srcN (cutN (cellN xs 0)))).map vI)) :: γ)) Q := by
  refine WB_cons ?_
  wtm_at "one"
  refine WE_ListComp (n := n + 9) (cl := [("names", L' + 3), ("deck", L' + 8), ("cut", L' + 6)]) r (by kernel_rfl) (by decide +kernel) (by kernel_rfl) (by decide +kernel) ?_ (by intro _; rfl) (by intro _ _; rfl)
  wtm_at "one"
  refine WC_range1 fun rg t u v => ?_
  refine ⟨(List.range 8).map fun (i : Nat) => vI (0 + i), fun _ => True, fun i ys σ => ys = ((D.take i).map (lessV (cutN (cellN xs 0)))) ∧ Sub (dkS xs L' sc a1 a2 a3 a4 l4 (vq ((D.drop i).map nmN)) jv ((pk, .list ((D.map (srcN (cutN (cellN xs 0)))).map vI)) :: γ)) σ, ItS_range .here (by decide) (by decide) (by decide) (by decide), ⟨rfl, .skip .refl⟩, fun _ _ _ _ => trivial, ?_, ?_⟩
  · intro C' L1 i x ys it Dl o σ l' hx hj hz
    obtain ⟨rfl, hsub⟩ := hj
    have hi : i < 8 := by
      have := (List.getElem?_eq_some_iff.mp hx).1
      simpa using this
    have T' := T.le l'
    refine WTg_sub (Sub.cons .here (.cons .here hsub)) ?_
    refine WTg_name ?_
    wtm_at "one"
    obtain ⟨c, hc, hd⟩ : ∃ c, D[i]? = some c ∧ D.drop i = c :: D.drop (i + 1) := ⟨D[i], by simp [hD, hi], by rw [List.drop_eq_getElem_cons (by wtm_at "om")]⟩
    have hc8 : c < 8 := hD8 c (List.mem_of_getElem? hc)
    obtain ⟨n1, n2⟩ := nm_idx hc8
    rw [hd]
    refine WC_sub (τ := (l4.p, .list (vq ((c :: D.drop (i + 1)).map nmN))) :: (l4.x, .inst 84 l4.d) :: (l4.d, .sd (lexD 1 (.ref l4.y) l4.p)) :: (it, o) :: (Dl, .list ((D.take i).map (lessV (cutN (cellN xs 0))))) :: lawS xs L' sc a1 a2 a3 a4 (some (.ref l4.x)) jv ((pk, .list ((D.map (srcN (cutN (cellN xs 0)))).map vI)) :: γ)) (by wtm_at "sb") (WCK.wc (C_getPB (n := n + 8) (vs := vq ((D.drop (i + 1)).map nmN)) (v := vS (S (nmN c))) r T' F G (by rw [vq_len, List.length_map, List.length_drop]; wtm_at "om") ?_))
    wtm_at "one"
    refine WC_indexQ (l := nmL) (by wtm_at "at") n2 (by simp [nmL]) ?_
    rw [n1]
    wtm_at "one"
    refine WC_intB ?_
    have e : ((D.take i).map (lessV (cutN (cellN xs 0)))) ++ [vI (if (decide ((c : Int) < (cutN (cellN xs 0) : Int))) = true then 1 else 0)] = ((D.take (i + 1)).map (lessV (cutN (cellN xs 0)))) := by
      rw [List.take_add_one, hc, List.map_append]
      rfl
    refine ⟨dkS xs L' sc a1 a2 a3 a4 l4 (vq ((D.drop (i + 1)).map nmN)) jv ((pk, .list ((D.map (srcN (cutN (cellN xs 0)))).map vI)) :: γ), by wtm_at "sb", ?_, e, .refl⟩
    rw [e]
    simp; wtm_at "om"
  · rintro Dc ys σ ⟨rfl, hsub⟩ hz
    rw [show ((List.range 8).map fun (i : Nat) => vI (0 + i)).length = 8 from rfl, List.take_of_length_le (by wtm_at "om")] at *
    rw [List.drop_of_length_le (by wtm_at "om")] at hsub
    refine WE_sub (Sub.cons .here hsub) ?_
    rw [srcs_eq]
    wtm_at "one"
    refine C_neL r (by wtm_at "rd") (by wtm_at "rd") (fun v hv => .inl ?_) ?_
    · obtain ⟨i, _, rfl⟩ := List.mem_map.mp hv
      exact ⟨i, rfl⟩
    refine ⟨_, rfl, Br_ff ?_⟩
    wtm_at "one"
    exact W_le (by wtm_at "sb") h
theorem law_f2 {pm : Value} {lf lc sc L' a1 a2 a3 a4 c' pk lft : Addr} {l l2 l3 : Lx} {oc : Obj} {xs : List Int} {dk jv : Option Value} {line2 line3 : Int} {t3 : List Nat} {P : Params} {Q : Value → Sg → Prop} (r : Room A (n + 9)) (T : Tp (DD K) C) (F : KF K) (G : KG K) (D2 : KD2 K) (hcl : (lawE pm L' lf lc).cells = lawCl L') (hrec : IsRec oc "_law_lexer.<locals>.give")
    (ht : Words t3 [] []) (htl : t3.length ≤ 1000) (hl3 : line3 = 1 + cnt (othN xs) - cnt t3) (hpg : cnt (pageT (wcN (cellN xs 0)) (qsN xs)) = 1 + if wcN (cellN xs 0) = 10 then 4 * (cutN (cellN xs 0) : Int) - 2 else 0)
    (h : Q (.bool true) ρ) :
    WB C A (lawE pm L' lf lc) ((bodyOf (stm 31)).drop 22) (baseD xs l l2 l3 pk lft) (lawS xs L' sc a1 a2 a3 a4 dk jv ((c', .obj oc) :: l2.s7 c' line2 [] [] (l3.s7 c' line3 t3 [] ((l.x, .inst 84 l.d) :: (l.d, .sd (lexD (1 + cnt (pageT (wcN (cellN xs 0)) (qsN xs))) (.ref l.y) l.p)) :: ρ)))) (fun fl _ σ' => Ret Q (retV fl) σ') := by
  have hc := cut_range xs
  have e3 : word t3 = ([], (word t3).2) := by
    cases ht with
    | nil e => rw [e]
  have e4 : cnt (word t3).2 = 0 := by
    cases ht with
    | nil e => rw [e]; rfl
  refine WB_cons ?_
  wtm_at "one"
  refine WC_sub (τ := (c', .obj oc) :: l2.s7 c' line2 [] [] (lawS xs L' sc a1 a2 a3 a4 dk jv (l3.s7 c' line3 t3 [] ((l.x, .inst 84 l.d) :: (l.d, .sd (lexD (1 + cnt (pageT (wcN (cellN xs 0)) (qsN xs))) (.ref l.y) l.p)) :: ρ)))) (by wtm_at "sb") (C_get7e (n := n + 5) r T F G (by simp) hrec ?_)
  rw [show word [] = ([], []) from rfl]
  dsimp only
  wtm_at "one"
  refine WC_sub (τ := (c', .obj oc) :: l3.s7 c' line3 t3 [] (lawS xs L' sc a1 a2 a3 a4 dk jv ρ)) (by wtm_at "sb") (C_get7e (n := n + 5) r T F G (by wtm_at "om") hrec ?_)
  rw [e3]
  dsimp only
  wtm_at "one"
  refine C_pretty (n := n + 8) (F := 0) r T F D2 (.inr rfl) ?_
  rw [pretty0]
  wtm_at "one"
  rename_i en
  refine WB_cons ?_
  wtm_at "one"
  have hall : ∀ (a b : Int), ∀ v ∈ [vI a, vS (S []), vS (S []), vI b, vS (S [48, 120, 48])], (∃ i, v = vI i) ∨ ∃ x, v = vS x := by
    intro a b x hx
    simp only [List.mem_cons, List.not_mem_nil, or_false] at hx
    rcases hx with rfl | rfl | rfl | rfl | rfl
    · exact .inl ⟨_, rfl⟩
    · exact .inr ⟨_, rfl⟩
    · exact .inr ⟨_, rfl⟩
    · exact .inl ⟨_, rfl⟩
    · exact .inr ⟨_, rfl⟩
  have hline : line3 + cnt t3 - cnt (word t3).2 = 1 + cnt (othN xs) := by rw [hl3, e4]; wtm_at "om"
  refine br (fun hb => ?_) (fun hb => ?_)
  · have hw : wcN (cellN xs 0) = 10 := by
      have := S_inj.mp (of_decide_eq_true hb)
      simpa using this
    wtm_at "one"
    refine B_mul (IntMulOk.of_left (by decide +kernel)) ?_
    wtm_at "one"
    refine WC_countS ?_
    rw [count_S]
    wtm_at "one"
    rename_i en2
    rw [hline, show 1 + cnt (pageT (wcN (cellN xs 0)) (qsN xs)) = 2 + (4 * (cutN (cellN xs 0) : Int) - 2) by rw [hpg, if_pos hw]; wtm_at "om"]
    refine C_eqL r (by wtm_at "rd") (by wtm_at "rd") (hall _ _) ?_
    refine ret_now (τ := ρ) ?_ h
    repeat (first | with_reducible exact Sub.refl | refine Sub.skip ?_)
  · have hw : ¬ wcN (cellN xs 0) = 10 := fun e => of_decide_eq_false hb (by rw [e])
    wtm_at "one"
    refine WC_countS ?_
    rw [count_S]
    wtm_at "one"
    rename_i en2
    rw [hline, show 1 + cnt (pageT (wcN (cellN xs 0)) (qsN xs)) = 2 + 0 by rw [hpg, if_neg hw]; wtm_at "om"]
    refine C_eqL r (by wtm_at "rd") (by wtm_at "rd") (hall _ _) ?_
    refine ret_now (τ := ρ) ?_ h
    repeat (first | with_reducible exact Sub.refl | refine Sub.skip ?_)
end
section
variable {C : Cx} {A : Around} {L : Addr} {μ : Mu} {σ ρ γ : Sg} {n : Nat} {K : Frag} {env : Env}
/- the law gives True -/
theorem C_law {pm : Value} {L' lf lc sc : Addr} {xs : List Int} {P : Params} {Q : Value → Sg → Prop} (r' : Room A (n + 9)) (hcl : (lawE pm L' lf lc).cells = lawCl L') (T' : Tp (DD K) C) (F : KF K) (G : KG K) (KDa : KD K) (D2 : KD2 K) (D0 : KD3 K P) (KT : KT K) (ks : KS K) (hP : C.w.params = P) (hx : xs.length ≤ 100) (hsc : LsF C sc (xs.map vI))
    (h : ∀ t1 t2, Q (.bool true) ((308, .obj (tabObj t1)) :: (237, .obj (tabObj t2)) :: ρ)) : WB C A (lawE pm L' lf lc) (bodyOf (stm 31)) [] ((L' + 9, .cell none) :: (L' + 8, .cell none) :: (L' + 7, .cell none) :: (L' + 6, .cell none) :: (L' + 5, .cell none) :: (L' + 4, .cell none) :: (L' + 3, .cell none) :: (L' + 2, .cell none) :: (L' + 1, .cell (some (.ref sc))) :: (308, .obj (tabObj #[])) :: (237, .obj (tabObj #[])) :: ρ) (fun fl _ σ' => Ret Q (retV fl) σ') := by
  have hc := cut_range xs
  have hwc : wcN (cellN xs 0) = 10 ∨ wcN (cellN xs 0) = 9 ∨ wcN (cellN xs 0) = 32 := by
    unfold wcN
    obtain ⟨k, hk, e⟩ : ∃ k : Nat, k < 3 ∧ (cellN xs 0 / 7 % 3).toNat = k := ⟨_, by wtm_at "om", rfl⟩
    rw [e]
    rcases k with _|_|_|k <;> first | wtm_at "om" | simp
  have hs : ∀ q ∈ qsN xs, safe q := fun q hq => by
    obtain ⟨k, hk, rfl⟩ := qs_mem hq
    exact (tyOk (cellN xs 2) hk).safe
  have hpg := page_cnt hwc (by rw [qs_len]; wtm_at "om") hs
  rw [qs_len] at hpg
  have hpg : cnt (pageT (wcN (cellN xs 0)) (qsN xs)) = 1 + if wcN (cellN xs 0) = 10 then 4 * (cutN (cellN xs 0) : Int) - 2 else 0 := by
    rw [hpg]
    split <;> wtm_at "om"
  refine law_a (n := n + 4) hx hsc (r'.le (by wtm_at "om")) T' F hcl fun a1 a2 a3 a4 => ?_
  refine law_b (n := n) r' T' F G KDa D0 KT ks hP hcl fun lx c' oc a5 pst hrec => ?_
  refine law_c (n := n) r' T' F G KT hcl fun l2 l3 l4 pk lft => ?_
  refine law_d (n := n) (m := (cellN xs 1 % 256).toNat) r' T' F G KDa hcl hrec rfl fun line2 line3 t3 ht htl hl3 => ?_
  have hm : (cellN xs 1 % 256).toNat < 256 := by wtm_at "om"
  generalize (cellN xs 1 % 256).toNat = m at hm ⊢
  have z := (ways m (cut_range xs).1 (cut_range xs).2).2
  rcases hst : mst (cutN (cellN xs 0)) m 8 with ⟨A0, B0, D0'⟩
  rw [hst] at z
  simp only [handsAt, Bool.and_eq_true, List.all_eq_true, decide_eq_true_eq, beq_iff_eq, List.mem_range] at z
  obtain ⟨⟨⟨_, z3⟩, z4⟩, z5⟩ := z
  have hdk : deckN (cutN (cellN xs 0)) m = D0' := by unfold deckN; rw [hst]
  rw [hdk]
  refine W_le (τ := dkS xs L' sc a1 a2 a3 a4 l4 (vq (D0'.map nmN)) none ((pk, .list ((D0'.map (srcN (cutN (cellN xs 0)))).map vI)) :: (c', .obj oc) :: l2.s7 c' line2 [] [] (l3.s7 c' line3 t3 [] ((lx.x, .inst 84 lx.d) :: (lx.d, .sd (lexD (1 + cnt (pageT (wcN (cellN xs 0)) (qsN xs))) (.ref lx.y) lx.p)) :: (308, .obj (tabObj (lexTab c'))) :: (237, .obj (tabObj pst)) :: ρ)))) ?_ ?_
  · unfold sgD
    rw [show vq (([] : List Nat).map nmN) = [] from rfl]
    wtm_at "sb"
  refine law_e (n := n) r' T' F G D2 hcl z3 z4 (fun j h2 h8 i hi => ?_) fun jv => ?_
  · have := z5 (j - 2) (by wtm_at "om") i (by rw [show j - 2 + 2 = j by wtm_at "om"]; exact hi)
    rw [show j - 2 + 2 = j by wtm_at "om"] at this
    exact List.isPerm_iff.mp this
  refine law_f1 (n := n) r' T' F G hcl z3 z4 ?_
  exact law_f2 (n := n) (P := P) (c' := c') (l2 := l2) (l3 := l3) (oc := oc) (line2 := line2) (line3 := line3) (t3 := t3) r' T' F G D2 hcl hrec ht htl hl3 hpg (h _ _)
end
section
variable {C : Cx} {A : Around} {L : Addr} {μ : Mu} {σ ρ : Sg} {n : Nat} {K : Frag} {Q : Value → Sg → Prop} {env : Env}
/- the state at the call: all stands still but what is told -/
structure Bare (C : Cx) (σ : Sg) (s : Shared) : Prop where
  hC : C.h₀ = hideAll s.heap (σ.map (·.1))
  ob : ∀ p ∈ σ, ∃ o, s.heap.get? p.1 = some o ∧ Rep C.w.params p.2 o
  nd : (σ.map (·.1)).Nodup
  fx : s.gens = C.gens ∧ s.drawn = C.drawn ∧ s.os = C.os
theorem Bare.keep {s : Shared} (hs : Bare C σ s) : ∀ b o, C.h₀.get? b = some o → s.heap.get? b = some o := fun b o e => by
  rw [hs.hC] at e
  exact of_hideAll _ e
theorem bare_cells {s s₁ : Shared} {names : List (Str × NameKind)} {kindOf : Str → Option NameKind} {binds : List (Str × Value)} (hs : Bare C σ s) (hkd : ∀ x, kindOf x = names.lookup x)
    (hnl : ∀ x c, (x, c) ∈ cellsFrom (s.heap.objs.size + 1) names [] → names.lookup x ≠ some .local ∧ (cellsFrom (s.heap.objs.size + 1) names []).lookup x = some c)
    (X : InCallC s s.heap.objs.size (bindL kindOf binds fun _ => none) (cellsFrom (s.heap.objs.size + 1) names []) (bindC kindOf binds fun _ => none) s₁) :
    St C s.heap.objs.size (localsOf names binds) (cellsOf s.heap.objs.size names binds ++ σ) s₁ := by
  obtain ⟨h₁, tk, rfl, _⟩ := X.done
  have esz : C.h₀.objs.size = s.heap.objs.size := by rw [hs.hC]; exact hideAll_size _ _
  have hcell : ∀ p ∈ cellsOf s.heap.objs.size names binds, s.heap.objs.size < p.1 ∧ ∃ o, h₁.get? p.1 = some o ∧ Rep C.w.params p.2 o := by
    intro p hp
    obtain ⟨⟨x, c⟩, hm, rfl⟩ := List.mem_map.mp hp
    refine ⟨X.above x c hm, ?_⟩
    obtain ⟨hn, hl⟩ := hnl x c hm
    obtain ⟨o, ho, hd⟩ := X.cell x c hl
    refine ⟨o, ho, _, hd, ?_⟩
    rw [bindC_eq kindOf binds _ x (by rw [hkd]; exact hn)]
    simp
  refine ⟨⟨_, ⟨X.toInCall.ns, fun b o e => X.toInCall.keep b o (hs.keep b o e), Nat.le_of_eq esz⟩, fun x v e => ?_⟩, fun p hp => ?_, ?_, hs.fx⟩
  · obtain ⟨h1, v', h2, h3⟩ := lookup_filter_map (p := fun x => decide (names.lookup x = some .local)) e
    refine ⟨v', ?_, h3⟩
    rw [bindL_eq kindOf binds _ x (by rw [hkd]; exact of_decide_eq_true h1), h2]
    rfl
  · rcases List.mem_append.mp hp with hp | hp
    · obtain ⟨h1, o, h2, h3⟩ := hcell p hp
      refine ⟨Nat.ne_of_gt h1, ?_, o, h2, h3⟩
      cases q : C.h₀.get? p.1 with
      | none => rfl
      | some o' =>
        have h4 := Heap.lt_size q
        rw [esz] at h4
        exact absurd (Nat.lt_trans h1 h4) (Nat.lt_irrefl _)
    · obtain ⟨ob, k3, k4⟩ := hs.ob p hp
      exact ⟨Nat.ne_of_lt (Heap.lt_size k3), by rw [hs.hC]; exact hideAll_none _ (List.mem_map_of_mem hp), ob, X.toInCall.keep _ _ k3, k4⟩
  · rw [List.map_append, List.nodup_append]
    refine ⟨?_, hs.nd, ?_⟩
    · unfold cellsOf
      rw [List.map_map]
      exact List.Pairwise.map _ (fun a b h => h) X.apart
    · intro a ha b hb e
      subst e
      obtain ⟨p, hp, rfl⟩ := List.mem_map.mp ha
      obtain ⟨q, hq, e⟩ := List.mem_map.mp hb
      obtain ⟨ob, k3, _⟩ := hs.ob q hq
      have h4 := Heap.lt_size k3
      rw [e] at h4
      exact absurd (Nat.lt_trans (hcell p hp).1 h4) (Nat.lt_irrefl _)
/- the law is called from outside -/
theorem law_enter {lf lc sc : Addr} {s : Shared} (HL : HasFn K lf lc (stm 31) "law" "law" .none .none) (hs : Bare C σ s) (r : Room A (n + 1)) (T : Tp (DD K) C)
    (h : ∀ pm L', Room (A.deeper (lawE pm L' lf lc)) n → (lawE pm L' lf lc).cells = lawCl L' → WB C (A.deeper (lawE pm L' lf lc)) (lawE pm L' lf lc) (bodyOf (stm 31)) [] ((L' + 9, .cell none) :: (L' + 8, .cell none) :: (L' + 7, .cell none) :: (L' + 6, .cell none) :: (L' + 5, .cell none) :: (L' + 4, .cell none) :: (L' + 3, .cell none) :: (L' + 2, .cell none) :: (L' + 1, .cell (some (.ref sc))) :: σ) (fun fl _ σ' => Ret Q (retV fl) σ')) :
    wpAny (model C.prog C.w) A (call (.ref lf) [.ref sc]) (fun v s' => ∃ L' μ' σ', Q (can v) σ' ∧ St C L' μ' σ' s') (fun _ _ => False) s := by
  obtain ⟨pm, oc, od, osl, hK, hc⟩ := HL
  have F : FnAt C σ lf (fdOf (stm 31) "law" "law" pm lc .none .none) := FnAt.of T hK hc
  obtain ⟨⟨o, ho, hd⟩, hcd⟩ := F.at_ s hs.keep hs.ob
  refine wpAny_runValue (c := .call (.ref lf) ⟨[.ref sc], []⟩) ?_
  refine codeAny_call_function (body := bodyOf (stm 31)) r.depth ho hd (by kernel_rfl) (by kernel_rfl) rfl hcd ?_
  refine (BindsTo.of_eq (binds := (["script"] : List Str).zip [Value.ref sc]) (by rfl) : BindsTo s (fdOf (stm 31) "law" "law" pm lc .none .none) ⟨[.ref sc], []⟩ _) _ _ _ _ ?_
  have hkind : ∀ L' : Addr, ∀ x ∈ (["script"] : List Str).zip [Value.ref sc], (scopeOf (stm 31)).names.lookup x.1 = some .local ∨ ((scopeOf (stm 31)).names.lookup x.1 = some .cell ∧ ((cellsFrom (L' + 1) (scopeOf (stm 31)).names []).lookup x.1).isSome = true) := by
    intro L' x hx
    obtain rfl : x = (("script" : Str), Value.ref sc) := by simpa using hx
    exact .inr ⟨by kernel_rfl, by kernel_rfl⟩
  refine wpAny_newFunctionEnv_cells (by kernel_rfl) (hkind s.heap.objs.size) fun env he s' X => ?_
  subst he
  refine ⟨(T.lim.keeps hs.keep).keeps X.toInCall.keep, codeAny_func ?_⟩
  have hcl : ∀ L', cellsFrom (L' + 1) (scopeOf (stm 31)).names [] = lawCl L' := by intro; kernel_rfl
  have z := h pm s.heap.objs.size r.deeper (hcl _) s' (by
    have z := bare_cells hs (fun _ => rfl) (fun x c hx => ?_) X
    · exact z
    · have hx : (x, c) ∈ lawCl s.heap.objs.size := by rw [← hcl]; exact hx
      have hn : ((lawCl s.heap.objs.size).map (·.1)).all (fun x => (scopeOf (stm 31)).names.lookup x != some .local) = true := by kernel_rfl
      have h1 := List.all_eq_true.mp hn x (List.mem_map_of_mem (f := (·.1)) hx)
      show (scopeOf (stm 31)).names.lookup x ≠ _ ∧ (cellsFrom (s.heap.objs.size + 1) (scopeOf (stm 31)).names []).lookup x = _
      rw [hcl]
      exact ⟨by simpa using h1, lookup_nodup (show (["j", "deck", "low", "cut", "typed", "seeds", "names", "cells", "script"] : List Str).Nodup by decide +kernel) hx⟩)
  refine wpAny_mono z (fun fl s' hz => ?_) fun _ _ x => x.elim
  obtain ⟨μ', σ', q, st⟩ := hz
  replace q : Ret Q (retV (canF fl)) σ' := q
  rw [retV_can] at q
  obtain ⟨τ, hτ, q⟩ := q
  cases fl <;> exact ⟨_, μ', τ, q, st.sub hτ⟩
end
namespace H
noncomputable abbrev dobj (es : List DictEntry) (n : Nat) : Obj := ⟨.type "dict", none, .dict es.toArray n, #[]⟩
noncomputable def entA (q : Nat × Str) (a b : Nat) : DictEntry := ⟨q.1, .int (Int.ofNat q.1) a, .str q.2 b⟩
/- the entries of a long run -/
noncomputable def entL : Nat → List (Nat × Str) → List DictEntry
  | _, [] => []
  | tk, q :: r => entA q tk (tk + 1) :: entL (tk + 3) r
/- the entries of a short one -/
noncomputable def entS : Nat → List (Nat × Str) → List DictEntry
  | _, [] => []
  | tk, q :: r => entA q tk (tk + 1) :: entS (tk + 2) r
/- the temporary dicts of the chunks -/
noncomputable def temps : Nat → List (List (Nat × Str)) → List Obj
  | _, [] => []
  | tk, c :: r => dobj (entL tk c) 17 :: temps (tk + 51) r
noncomputable def entsC : Nat → List (List (Nat × Str)) → List DictEntry
  | _, [] => []
  | tk, c :: r => entL tk c ++ entsC (tk + 51) r
noncomputable def b3v : Expr := match stm 10 with | .Assign _ v _ => v | _ => .Constant .none 0 ⟨0, 0, 0, 0⟩
noncomputable def b3K : List (Option Expr) := match b3v with | .Dict k _ _ => k | _ => []
noncomputable def b3V : List Expr := match b3v with | .Dict _ v _ => v | _ => []
noncomputable def pairOf : Option Expr × Expr → Nat × Str
  | (some (.Constant (.int (.ofNat n)) _ _), .Constant (.str s) _ _) => (n, s)
  | _ => (0, "")
noncomputable def b3L : List (Nat × Str) := (b3K.zip b3V).map pairOf
noncomputable def chunk (n : Nat) : Nat → List (Nat × Str) → List (List (Nat × Str))
  | 0, _ => []
  | k + 1, l => l.take n :: chunk n k (l.drop n)
noncomputable def b3c0 : List (Nat × Str) := b3L.take 17
noncomputable def b3cs : List (List (Nat × Str)) := chunk 17 37 (b3L.drop 17)
noncomputable def b3last : List (Nat × Str) := b3L.drop 646
noncomputable def b3objs : List Obj := dobj ((entL 461 b3c0 ++ entsC 512 b3cs) ++ entS 2399 b3last) 650 :: (temps 512 b3cs ++ [dobj (entS 2399 b3last) 4])
noncomputable def bobj (a : Nat) : Obj := b3objs.getD (a - 107) default
noncomputable abbrev nil : BT := .nil
noncomputable abbrev nd (o : Obj) (l r : BT) : BT := .node o l r
noncomputable abbrev lst (l : List Value) : Array Value := l.toArray
noncomputable abbrev den (l : List DictEntry) : Array DictEntry := l.toArray
noncomputable abbrev ols (l : List (Option Value)) : Array (Option Value) := l.toArray
noncomputable def fdZ (s : Stmt) (name qual : Str) : FuncData :=
  { name := name, qualname := qual, params := argsOf s, body := .stmts (bodyOf s), scope := scopeOf s, globals := 0, closure := [], defaults := .none, kwdefaults := .none }
noncomputable def o0a (P : Params) : Obj := ⟨(.type "dict"), none, (.dict (den [⟨PyData.keyHash P "__name__", (.str "__name__" 1), (.str "builtins" 160)⟩, ⟨PyData.keyHash P "__doc__", (.str "__doc__" 2), (.builtin "builtins.__doc__:str#opaque")⟩, ⟨PyData.keyHash P "__package__", (.str "__package__" 3), (.builtin "builtins.__package__:str#opaque")⟩, ⟨PyData.keyHash P "__loader__", (.str "__loader__" 4), (.builtin "builtins.__loader__:shared#opaque")⟩, ⟨PyData.keyHash P "__spec__", (.str "__spec__" 5), (.builtin "builtins.__spec__#opaque")⟩, ⟨PyData.keyHash P "__build_class__", (.str "__build_class__" 6), (.builtin "__build_class__")⟩, ⟨PyData.keyHash P "__import__", (.str "__import__" 7), (.builtin "__import__")⟩, ⟨PyData.keyHash P "abs", (.str "abs" 8), (.builtin "abs")⟩, ⟨PyData.keyHash P "all", (.str "all" 9), (.builtin "all")⟩, ⟨PyData.keyHash P "any", (.str "any" 10), (.builtin "any")⟩, ⟨PyData.keyHash P "ascii", (.str "ascii" 11), (.builtin "ascii")⟩, ⟨PyData.keyHash P "bin", (.str "bin" 12), (.builtin "bin")⟩, ⟨PyData.keyHash P "breakpoint", (.str "breakpoint" 13), (.builtin "breakpoint")⟩, ⟨PyData.keyHash P "callable", (.str "callable" 14), (.builtin "callable")⟩, ⟨PyData.keyHash P "chr", (.str "chr" 15), (.builtin "chr")⟩, ⟨PyData.keyHash P "compile", (.str "compile" 16), (.builtin "compile")⟩, ⟨PyData.keyHash P "delattr", (.str "delattr" 17), (.builtin "delattr")⟩, ⟨PyData.keyHash P "dir", (.str "dir" 18), (.builtin "dir")⟩, ⟨PyData.keyHash P "divmod", (.str "divmod" 19), (.builtin "divmod")⟩, ⟨PyData.keyHash P "eval", (.str "eval" 20), (.builtin "eval")⟩, ⟨PyData.keyHash P "exec", (.str "exec" 21), (.builtin "exec")⟩, ⟨PyData.keyHash P "format", (.str "format" 22), (.builtin "format")⟩, ⟨PyData.keyHash P "getattr", (.str "getattr" 23), (.builtin "getattr")⟩, ⟨PyData.keyHash P "globals", (.str "globals" 24), (.builtin "globals")⟩, ⟨PyData.keyHash P "hasattr", (.str "hasattr" 25), (.builtin "hasattr")⟩, ⟨PyData.keyHash P "hash", (.str "hash" 26), (.builtin "hash")⟩, ⟨PyData.keyHash P "hex", (.str "hex" 27), (.builtin "hex")⟩, ⟨PyData.keyHash P "id", (.str "id" 28), (.builtin "id")⟩, ⟨PyData.keyHash P "input", (.str "input" 29), (.builtin "input")⟩, ⟨PyData.keyHash P "isinstance", (.str "isinstance" 30), (.builtin "isinstance")⟩, ⟨PyData.keyHash P "issubclass", (.str "issubclass" 31), (.builtin "issubclass")⟩, ⟨PyData.keyHash P "iter", (.str "iter" 32), (.builtin "iter")⟩, ⟨PyData.keyHash P "aiter", (.str "aiter" 33), (.builtin "aiter")⟩, ⟨PyData.keyHash P "len", (.str "len" 34), (.builtin "len")⟩, ⟨PyData.keyHash P "locals", (.str "locals" 35), (.builtin "locals")⟩, ⟨PyData.keyHash P "max", (.str "max" 36), (.builtin "max")⟩, ⟨PyData.keyHash P "min", (.str "min" 37), (.builtin "min")⟩, ⟨PyData.keyHash P "next", (.str "next" 38), (.builtin "next")⟩, ⟨PyData.keyHash P "anext", (.str "anext" 39), (.builtin "anext")⟩, ⟨PyData.keyHash P "oct", (.str "oct" 40), (.builtin "oct")⟩, ⟨PyData.keyHash P "ord", (.str "ord" 41), (.builtin "ord")⟩, ⟨PyData.keyHash P "pow", (.str "pow" 42), (.builtin "pow")⟩, ⟨PyData.keyHash P "print", (.str "print" 43), (.builtin "print")⟩, ⟨PyData.keyHash P "repr", (.str "repr" 44), (.builtin "repr")⟩, ⟨PyData.keyHash P "round", (.str "round" 45), (.builtin "round")⟩, ⟨PyData.keyHash P "setattr", (.str "setattr" 46), (.builtin "setattr")⟩, ⟨PyData.keyHash P "sorted", (.str "sorted" 47), (.builtin "sorted")⟩, ⟨PyData.keyHash P "sum", (.str "sum" 48), (.builtin "sum")⟩, ⟨PyData.keyHash P "vars", (.str "vars" 49), (.builtin "vars")⟩, ⟨PyData.keyHash P "None", (.str "None" 50), .none⟩, ⟨PyData.keyHash P "Ellipsis", (.str "Ellipsis" 51), .ellipsis⟩, ⟨PyData.keyHash P "NotImplemented", (.str "NotImplemented" 52), .notImplemented⟩, ⟨PyData.keyHash P "False", (.str "False" 53), (.bool false)⟩, ⟨PyData.keyHash P "True", (.str "True" 54), (.bool true)⟩, ⟨PyData.keyHash P "bool", (.str "bool" 55), (.type "bool")⟩, ⟨PyData.keyHash P "memoryview", (.str "memoryview" 56), (.type "memoryview")⟩, ⟨PyData.keyHash P "bytearray", (.str "bytearray" 57), (.type "bytearray")⟩, ⟨PyData.keyHash P "bytes", (.str "bytes" 58), (.type "bytes")⟩, ⟨PyData.keyHash P "classmethod", (.str "classmethod" 59), (.type "classmethod")⟩, ⟨PyData.keyHash P "complex", (.str "complex" 60), (.type "complex")⟩, ⟨PyData.keyHash P "dict", (.str "dict" 61), (.type "dict")⟩, ⟨PyData.keyHash P "enumerate", (.str "enumerate" 62), (.type "enumerate")⟩, ⟨PyData.keyHash P "filter", (.str "filter" 63), (.type "filter")⟩, ⟨PyData.keyHash P "float", (.str "float" 64), (.type "float")⟩, ⟨PyData.keyHash P "frozenset", (.str "frozenset" 65), (.type "frozenset")⟩, ⟨PyData.keyHash P "property", (.str "property" 66), (.type "property")⟩, ⟨PyData.keyHash P "int", (.str "int" 67), (.type "int")⟩, ⟨PyData.keyHash P "list", (.str "list" 68), (.type "list")⟩, ⟨PyData.keyHash P "map", (.str "map" 69), (.type "map")⟩, ⟨PyData.keyHash P "object", (.str "object" 70), (.type "object")⟩, ⟨PyData.keyHash P "range", (.str "range" 71), (.type "range")⟩, ⟨PyData.keyHash P "reversed", (.str "reversed" 72), (.type "reversed")⟩, ⟨PyData.keyHash P "set", (.str "set" 73), (.type "set")⟩, ⟨PyData.keyHash P "slice", (.str "slice" 74), (.type "slice")⟩, ⟨PyData.keyHash P "staticmethod", (.str "staticmethod" 75), (.type "staticmethod")⟩, ⟨PyData.keyHash P "str", (.str "str" 76), (.type "str")⟩, ⟨PyData.keyHash P "super", (.str "super" 77), (.type "super")⟩, ⟨PyData.keyHash P "tuple", (.str "tuple" 78), (.type "tuple")⟩, ⟨PyData.keyHash P "type", (.str "type" 79), (.type "type")⟩, ⟨PyData.keyHash P "zip", (.str "zip" 80), (.type "zip")⟩, ⟨PyData.keyHash P "__debug__", (.str "__debug__" 81), (.bool true)⟩, ⟨PyData.keyHash P "BaseException", (.str "BaseException" 82), (.type "BaseException")⟩, ⟨PyData.keyHash P "BaseExceptionGroup", (.str "BaseExceptionGroup" 83), (.type "BaseExceptionGroup")⟩, ⟨PyData.keyHash P "Exception", (.str "Exception" 84), (.type "Exception")⟩, ⟨PyData.keyHash P "GeneratorExit", (.str "GeneratorExit" 85), (.type "GeneratorExit")⟩, ⟨PyData.keyHash P "KeyboardInterrupt", (.str "KeyboardInterrupt" 86), (.type "KeyboardInterrupt")⟩, ⟨PyData.keyHash P "SystemExit", (.str "SystemExit" 87), (.type "SystemExit")⟩, ⟨PyData.keyHash P "ArithmeticError", (.str "ArithmeticError" 88), (.type "ArithmeticError")⟩, ⟨PyData.keyHash P "AssertionError", (.str "AssertionError" 89), (.type "AssertionError")⟩, ⟨PyData.keyHash P "AttributeError", (.str "AttributeError" 90), (.type "AttributeError")⟩, ⟨PyData.keyHash P "BufferError", (.str "BufferError" 91), (.type "BufferError")⟩, ⟨PyData.keyHash P "EOFError", (.str "EOFError" 92), (.type "EOFError")⟩, ⟨PyData.keyHash P "ImportError", (.str "ImportError" 93), (.type "ImportError")⟩, ⟨PyData.keyHash P "LookupError", (.str "LookupError" 94), (.type "LookupError")⟩, ⟨PyData.keyHash P "MemoryError", (.str "MemoryError" 95), (.type "MemoryError")⟩, ⟨PyData.keyHash P "NameError", (.str "NameError" 96), (.type "NameError")⟩, ⟨PyData.keyHash P "OSError", (.str "OSError" 97), (.type "OSError")⟩, ⟨PyData.keyHash P "ReferenceError", (.str "ReferenceError" 98), (.type "ReferenceError")⟩, ⟨PyData.keyHash P "RuntimeError", (.str "RuntimeError" 99), (.type "RuntimeError")⟩, ⟨PyData.keyHash P "StopAsyncIteration", (.str "StopAsyncIteration" 100), (.type "StopAsyncIteration")⟩, ⟨PyData.keyHash P "StopIteration", (.str "StopIteration" 101), (.type "StopIteration")⟩, ⟨PyData.keyHash P "SyntaxError", (.str "SyntaxError" 102), (.type "SyntaxError")⟩, ⟨PyData.keyHash P "SystemError", (.str "SystemError" 103), (.type "SystemError")⟩, ⟨PyData.keyHash P "TypeError", (.str "TypeError" 104), (.type "TypeError")⟩, ⟨PyData.keyHash P "ValueError", (.str "ValueError" 105), (.type "ValueError")⟩, ⟨PyData.keyHash P "Warning", (.str "Warning" 106), (.type "Warning")⟩, ⟨PyData.keyHash P "FloatingPointError", (.str "FloatingPointError" 107), (.type "FloatingPointError")⟩, ⟨PyData.keyHash P "OverflowError", (.str "OverflowError" 108), (.type "OverflowError")⟩, ⟨PyData.keyHash P "ZeroDivisionError", (.str "ZeroDivisionError" 109), (.type "ZeroDivisionError")⟩, ⟨PyData.keyHash P "BytesWarning", (.str "BytesWarning" 110), (.type "BytesWarning")⟩, ⟨PyData.keyHash P "DeprecationWarning", (.str "DeprecationWarning" 111), (.type "DeprecationWarning")⟩, ⟨PyData.keyHash P "EncodingWarning", (.str "EncodingWarning" 112), (.type "EncodingWarning")⟩, ⟨PyData.keyHash P "FutureWarning", (.str "FutureWarning" 113), (.type "FutureWarning")⟩, ⟨PyData.keyHash P "ImportWarning", (.str "ImportWarning" 114), (.type "ImportWarning")⟩, ⟨PyData.keyHash P "PendingDeprecationWarning", (.str "PendingDeprecationWarning" 115), (.type "PendingDeprecationWarning")⟩, ⟨PyData.keyHash P "ResourceWarning", (.str "ResourceWarning" 116), (.type "ResourceWarning")⟩, ⟨PyData.keyHash P "RuntimeWarning", (.str "RuntimeWarning" 117), (.type "RuntimeWarning")⟩, ⟨PyData.keyHash P "SyntaxWarning", (.str "SyntaxWarning" 118), (.type "SyntaxWarning")⟩, ⟨PyData.keyHash P "UnicodeWarning", (.str "UnicodeWarning" 119), (.type "UnicodeWarning")⟩, ⟨PyData.keyHash P "UserWarning", (.str "UserWarning" 120), (.type "UserWarning")⟩, ⟨PyData.keyHash P "BlockingIOError", (.str "BlockingIOError" 121), (.type "BlockingIOError")⟩, ⟨PyData.keyHash P "ChildProcessError", (.str "ChildProcessError" 122), (.type "ChildProcessError")⟩, ⟨PyData.keyHash P "ConnectionError", (.str "ConnectionError" 123), (.type "ConnectionError")⟩, ⟨PyData.keyHash P "FileExistsError", (.str "FileExistsError" 124), (.type "FileExistsError")⟩, ⟨PyData.keyHash P "FileNotFoundError", (.str "FileNotFoundError" 125), (.type "FileNotFoundError")⟩, ⟨PyData.keyHash P "InterruptedError", (.str "InterruptedError" 126), (.type "InterruptedError")⟩, ⟨PyData.keyHash P "IsADirectoryError", (.str "IsADirectoryError" 127), (.type "IsADirectoryError")⟩, ⟨PyData.keyHash P "NotADirectoryError", (.str "NotADirectoryError" 128), (.type "NotADirectoryError")⟩, ⟨PyData.keyHash P "PermissionError", (.str "PermissionError" 129), (.type "PermissionError")⟩, ⟨PyData.keyHash P "ProcessLookupError", (.str "ProcessLookupError" 130), (.type "ProcessLookupError")⟩, ⟨PyData.keyHash P "TimeoutError", (.str "TimeoutError" 131), (.type "TimeoutError")⟩, ⟨PyData.keyHash P "IndentationError", (.str "IndentationError" 132), (.type "IndentationError")⟩, ⟨PyData.keyHash P "_IncompleteInputError", (.str "_IncompleteInputError" 133), (.type "_IncompleteInputError")⟩, ⟨PyData.keyHash P "IndexError", (.str "IndexError" 134), (.type "IndexError")⟩, ⟨PyData.keyHash P "KeyError", (.str "KeyError" 135), (.type "KeyError")⟩, ⟨PyData.keyHash P "ModuleNotFoundError", (.str "ModuleNotFoundError" 136), (.type "ModuleNotFoundError")⟩, ⟨PyData.keyHash P "NotImplementedError", (.str "NotImplementedError" 137), (.type "NotImplementedError")⟩, ⟨PyData.keyHash P "PythonFinalizationError", (.str "PythonFinalizationError" 138), (.type "PythonFinalizationError")⟩, ⟨PyData.keyHash P "RecursionError", (.str "RecursionError" 139), (.type "RecursionError")⟩, ⟨PyData.keyHash P "UnboundLocalError", (.str "UnboundLocalError" 140), (.type "UnboundLocalError")⟩, ⟨PyData.keyHash P "UnicodeError", (.str "UnicodeError" 141), (.type "UnicodeError")⟩, ⟨PyData.keyHash P "BrokenPipeError", (.str "BrokenPipeError" 142), (.type "BrokenPipeError")⟩, ⟨PyData.keyHash P "ConnectionAbortedError", (.str "ConnectionAbortedError" 143), (.type "ConnectionAbortedError")⟩, ⟨PyData.keyHash P "ConnectionRefusedError", (.str "ConnectionRefusedError" 144), (.type "ConnectionRefusedError")⟩, ⟨PyData.keyHash P "ConnectionResetError", (.str "ConnectionResetError" 145), (.type "ConnectionResetError")⟩, ⟨PyData.keyHash P "TabError", (.str "TabError" 146), (.type "TabError")⟩, ⟨PyData.keyHash P "UnicodeDecodeError", (.str "UnicodeDecodeError" 147), (.type "UnicodeDecodeError")⟩, ⟨PyData.keyHash P "UnicodeEncodeError", (.str "UnicodeEncodeError" 148), (.type "UnicodeEncodeError")⟩, ⟨PyData.keyHash P "UnicodeTranslateError", (.str "UnicodeTranslateError" 149), (.type "UnicodeTranslateError")⟩, ⟨PyData.keyHash P "ExceptionGroup", (.str "ExceptionGroup" 150), (.type "ExceptionGroup")⟩, ⟨PyData.keyHash P "EnvironmentError", (.str "EnvironmentError" 151), (.type "OSError")⟩, ⟨PyData.keyHash P "IOError", (.str "IOError" 152), (.type "OSError")⟩, ⟨PyData.keyHash P "open", (.str "open" 153), (.builtin "open")⟩, ⟨PyData.keyHash P "quit", (.str "quit" 154), (.builtin "builtins.quit#opaque")⟩, ⟨PyData.keyHash P "exit", (.str "exit" 155), (.builtin "builtins.exit#opaque")⟩, ⟨PyData.keyHash P "copyright", (.str "copyright" 156), (.builtin "builtins.copyright#opaque")⟩, ⟨PyData.keyHash P "credits", (.str "credits" 157), (.builtin "builtins.credits#opaque")⟩, ⟨PyData.keyHash P "license", (.str "license" 158), (.builtin "builtins.license#opaque")⟩, ⟨PyData.keyHash P "help", (.str "help" 159), (.builtin "builtins.help#opaque")⟩]) 159), #[]⟩
noncomputable def o1a (P : Params) : Obj := ⟨(.type "dict"), none, (.dict (den [⟨PyData.keyHash P "builtins", (.str "builtins" 162), (.ref 4)⟩, ⟨PyData.keyHash P "__main__", (.str "__main__" 163), (.ref 5)⟩, ⟨PyData.keyHash P "_sre", (.str "_sre" 244), (.ref 12)⟩]) 3), #[]⟩
noncomputable def o2a (P : Params) : Obj := ⟨.none, none, (.dict (den [⟨PyData.keyHash P "\u0069mport.loaded._sre", (.str "\u0069mport.loaded._sre" 183), (.bool true)⟩, ⟨PyData.keyHash P "class._frozen_importlib.BuiltinImporter", (.str "class._frozen_importlib.BuiltinImporter" 185), (.ref 14)⟩, ⟨PyData.keyHash P "watched.\u0069mport", (.str "watched.\u0069mport" 206), (.ref 18)⟩, ⟨PyData.keyHash P "class._frozen_importlib.ModuleSpec", (.str "class._frozen_importlib.ModuleSpec" 216), (.ref 22)⟩, ⟨PyData.keyHash P "sys.modules.booked-epoch", (.str "sys.modules.booked-epoch" 245), (.int (3) 0)⟩, ⟨PyData.keyHash P "\u0069mport.later-laid._sre", (.str "\u0069mport.later-laid._sre" 270), (.bool true)⟩, ⟨PyData.keyHash P "watched.library", (.str "watched.library" 272), (.ref 27)⟩, ⟨PyData.keyHash P "watched.library-objects", (.str "watched.library-objects" 0), (.str "\x0c" 0)⟩, ⟨PyData.keyHash P "watched.library-deep._sre", (.str "watched.library-deep._sre" 273), (.str "\x04\x00\x00\x0b\x04\x00\x00\x0b\x04\x00\x00\x03\x04\x00\x00\x0b\x08\x04dict\x02" 0)⟩]) 9), #[]⟩
noncomputable def o3a (P : Params) : Obj := ⟨(.type "dict"), none, (.dict (den [⟨PyData.keyHash P "__name__", (.str "__name__" 165), (.str "__main__" 164)⟩, ⟨PyData.keyHash P "__doc__", (.str "__doc__" 166), .none⟩, ⟨PyData.keyHash P "__package__", (.str "__package__" 167), .none⟩, ⟨PyData.keyHash P "__loader__", (.str "__loader__" 168), (.builtin "__main__.__loader__#opaque")⟩, ⟨PyData.keyHash P "__spec__", (.str "__spec__" 169), .none⟩, ⟨PyData.keyHash P "__annotations__", (.str "__annotations__" 170), (.ref 6)⟩, ⟨PyData.keyHash P "__builtins__", (.str "__builtins__" 171), (.ref 4)⟩, ⟨PyData.keyHash P "__file__", (.str "__file__" 173), (.str "/claim/cut.py" 172)⟩, ⟨PyData.keyHash P "__cached__", (.str "__cached__" 174), .none⟩, ⟨PyData.keyHash P "_sre", (.str "_sre" 275), (.ref 12)⟩]) 10), #[]⟩
noncomputable def o4a (P : Params) : Obj := ⟨(.type "module"), (some 0), .plain, #[]⟩
noncomputable def o5a (P : Params) : Obj := ⟨(.type "module"), (some 3), .plain, #[]⟩
noncomputable def o6a (P : Params) : Obj := ⟨(.type "dict"), none, (.dict (den []) 0), #[]⟩
noncomputable def o7a (P : Params) : Obj := ⟨(.type "tuple"), none, (.seq (lst []) 0), #[]⟩
noncomputable def o8a (P : Params) : Obj := ⟨.none, none, (.fields (lst [])), #[]⟩
noncomputable def o9a (P : Params) : Obj := ⟨(.type "code"), none, (.fields (lst [(.str "<module>" 176), (.str "<module>" 177), (.str "/claim/cut.py" 178), (.int (1) 0), (.int (0) 0), (.int (0) 0), (.int (0) 0), (.int (0) 0), (.ref 7), (.bool false), (.int (175) 0), (.ref 8), .none, .none, .none, .none, (.int (179) 0), (.int (1) 0), (.str "/claim/cut.py" 180)])), #[]⟩
noncomputable def o10a (P : Params) : Obj := ⟨(.type "frame"), none, .plain, (ols [(some (.ref 9)), (some (.ref 3)), (some (.ref 3)), none, (some (.str "__main__" 164)), none, (some (.ref 0))])⟩
noncomputable def o11a (P : Params) : Obj := ⟨(.type "dict"), none, (.dict (den [⟨PyData.keyHash P "__name__", (.str "__name__" 247), (.str "_sre" 246)⟩, ⟨PyData.keyHash P "__doc__", (.str "__doc__" 248), .none⟩, ⟨PyData.keyHash P "__package__", (.str "__package__" 250), (.str "" 249)⟩, ⟨PyData.keyHash P "__loader__", (.str "__loader__" 251), (.builtin "off-the-table:_sre.__loader__:shared#opaque")⟩, ⟨PyData.keyHash P "__spec__", (.str "__spec__" 252), (.builtin "off-the-table:_sre.__spec__:shared#opaque")⟩, ⟨PyData.keyHash P "compile", (.str "compile" 253), (.builtin "_sre.compile")⟩, ⟨PyData.keyHash P "template", (.str "template" 254), (.builtin "off-the-table:_sre.template:shared#opaque")⟩, ⟨PyData.keyHash P "getcodesize", (.str "getcodesize" 255), (.builtin "off-the-table:_sre.getcodesize:shared#opaque")⟩, ⟨PyData.keyHash P "ascii_iscased", (.str "ascii_iscased" 256), (.builtin "off-the-table:_sre.ascii_iscased:shared#opaque")⟩, ⟨PyData.keyHash P "unicode_iscased", (.str "unicode_iscased" 257), (.builtin "off-the-table:_sre.unicode_iscased:shared#opaque")⟩, ⟨PyData.keyHash P "ascii_tolower", (.str "ascii_tolower" 258), (.builtin "off-the-table:_sre.ascii_tolower:shared#opaque")⟩, ⟨PyData.keyHash P "unicode_tolower", (.str "unicode_tolower" 259), (.builtin "off-the-table:_sre.unicode_tolower:shared#opaque")⟩, ⟨PyData.keyHash P "MAGIC", (.str "MAGIC" 261), (.int (20230612) 260)⟩, ⟨PyData.keyHash P "CODESIZE", (.str "CODESIZE" 263), (.int (4) 262)⟩, ⟨PyData.keyHash P "MAXREPEAT", (.str "MAXREPEAT" 265), (.int (4294967295) 264)⟩, ⟨PyData.keyHash P "MAXGROUPS", (.str "MAXGROUPS" 267), (.int (1073741823) 266)⟩, ⟨PyData.keyHash P "copyright", (.str "copyright" 269), (.str " SRE 2.2.2 Copyright (c) 1997-2002 by Secret Labs AB " 268)⟩]) 17), #[]⟩
noncomputable def o12a (P : Params) : Obj := ⟨(.type "module"), (some 11), .plain, #[]⟩
noncomputable def o13a (P : Params) : Obj := ⟨(.type "dict"), none, (.dict (den [⟨PyData.keyHash P "__module__", (.str "__module__" 189), (.str "_frozen_importlib" 186)⟩, ⟨PyData.keyHash P "__firstlineno__", (.str "__firstlineno__" 190), (.int (971) 187)⟩, ⟨PyData.keyHash P "__doc__", (.str "__doc__" 191), (.builtin "_frozen_importlib.BuiltinImporter.__doc__:str#opaque")⟩, ⟨PyData.keyHash P "_ORIGIN", (.str "_ORIGIN" 192), (.str "built-in" 188)⟩, ⟨PyData.keyHash P "find_spec", (.str "find_spec" 193), (.builtin "_frozen_importlib.BuiltinImporter.find_spec#opaque")⟩, ⟨PyData.keyHash P "create_module", (.str "create_module" 194), (.builtin "_frozen_importlib.BuiltinImporter.create_module#opaque")⟩, ⟨PyData.keyHash P "exec_module", (.str "exec_module" 195), (.builtin "_frozen_importlib.BuiltinImporter.exec_module#opaque")⟩, ⟨PyData.keyHash P "get_code", (.str "get_code" 196), (.builtin "_frozen_importlib.BuiltinImporter.get_code#opaque")⟩, ⟨PyData.keyHash P "get_source", (.str "get_source" 197), (.builtin "_frozen_importlib.BuiltinImporter.get_source#opaque")⟩, ⟨PyData.keyHash P "is_package", (.str "is_package" 198), (.builtin "_frozen_importlib.BuiltinImporter.is_package#opaque")⟩, ⟨PyData.keyHash P "load_module", (.str "load_module" 199), (.builtin "_frozen_importlib.BuiltinImporter.load_module#opaque")⟩, ⟨PyData.keyHash P "__static_attributes__", (.str "__static_attributes__" 200), (.ref 15)⟩, ⟨PyData.keyHash P "__dict__", (.str "__dict__" 202), (.ref 16)⟩, ⟨PyData.keyHash P "__weakref__", (.str "__weakref__" 204), (.ref 17)⟩]) 14), #[]⟩
noncomputable def o14a (P : Params) : Obj := ⟨(.type "type"), none, (.cls ⟨"BuiltinImporter", [(.type "object")], [(.ref 14), (.type "object")], 13, "BuiltinImporter", true, [], [], false, none, false⟩), #[]⟩
noncomputable def o15a (P : Params) : Obj := ⟨(.type "tuple"), none, (.seq (lst []) 0), #[]⟩
noncomputable def o16a (P : Params) : Obj := ⟨(.type "getset_descriptor"), none, (.fields (lst [(.str "__dict__" 201), (.ref 14), (.builtin "function.__dict__"), (.builtin "function.__dict__#set")])), #[]⟩
noncomputable def o17a (P : Params) : Obj := ⟨(.type "getset_descriptor"), none, (.fields (lst [(.str "__weakref__" 203), (.ref 14), (.builtin "ExceptionGroup.__weakref__"), .none])), #[]⟩
noncomputable def o18a (P : Params) : Obj := ⟨.none, none, (.seq (lst [(.int (13) 0), (.str ⟨List.toArray [6, 189, 10, 95, 95, 109, 111, 100, 117, 108, 101, 95, 95, 6, 186, 17, 95, 102, 114, 111, 122, 101, 110, 95, 105, 109, 112, 111, 114, 116, 108, 105, 98, 6, 190, 15, 95, 95, 102, 105, 114, 115, 116, 108, 105, 110, 101, 110, 111, 95, 95, 4, 187, 0, 971, 6, 191, 7, 95, 95, 100, 111, 99, 95, 95, 9, 52, 95, 102, 114, 111, 122, 101, 110, 95, 105, 109, 112, 111, 114, 116, 108, 105, 98, 46, 66, 117, 105, 108, 116, 105, 110, 73, 109, 112, 111, 114, 116, 101, 114, 46, 95, 95, 100, 111, 99, 95, 95, 58, 115, 116, 114, 35, 111, 112, 97, 113, 117, 101, 6, 192, 7, 95, 79, 82, 73, 71, 73, 78, 6, 188, 8, 98, 117, 105, 108, 116, 45, 105, 110, 6, 193, 9, 102, 105, 110, 100, 95, 115, 112, 101, 99, 9, 50, 95, 102, 114, 111, 122, 101, 110, 95, 105, 109, 112, 111, 114, 116, 108, 105, 98, 46, 66, 117, 105, 108, 116, 105, 110, 73, 109, 112, 111, 114, 116, 101, 114, 46, 102, 105, 110, 100, 95, 115, 112, 101, 99, 35, 111, 112, 97, 113, 117, 101, 6, 194, 13, 99, 114, 101, 97, 116, 101, 95, 109, 111, 100, 117, 108, 101, 9, 54, 95, 102, 114, 111, 122, 101, 110, 95, 105, 109, 112, 111, 114, 116, 108, 105, 98, 46, 66, 117, 105, 108, 116, 105, 110, 73, 109, 112, 111, 114, 116, 101, 114, 46, 99, 114, 101, 97, 116, 101, 95, 109, 111, 100, 117, 108, 101, 35, 111, 112, 97, 113, 117, 101, 6, 195, 11, 101, 120, 101, 99, 95, 109, 111, 100, 117, 108, 101, 9, 52, 95, 102, 114, 111, 122, 101, 110, 95, 105, 109, 112, 111, 114, 116, 108, 105, 98, 46, 66, 117, 105, 108, 116, 105, 110, 73, 109, 112, 111, 114, 116, 101, 114, 46, 101, 120, 101, 99, 95, 109, 111, 100, 117, 108, 101, 35, 111, 112, 97, 113, 117, 101, 6, 196, 8, 103, 101, 116, 95, 99, 111, 100, 101, 9, 49, 95, 102, 114, 111, 122, 101, 110, 95, 105, 109, 112, 111, 114, 116, 108, 105, 98, 46, 66, 117, 105, 108, 116, 105, 110, 73, 109, 112, 111, 114, 116, 101, 114, 46, 103, 101, 116, 95, 99, 111, 100, 101, 35, 111, 112, 97, 113, 117, 101, 6, 197, 10, 103, 101, 116, 95, 115, 111, 117, 114, 99, 101, 9, 51, 95, 102, 114, 111, 122, 101, 110, 95, 105, 109, 112, 111, 114, 116, 108, 105, 98, 46, 66, 117, 105, 108, 116, 105, 110, 73, 109, 112, 111, 114, 116, 101, 114, 46, 103, 101, 116, 95, 115, 111, 117, 114, 99, 101, 35, 111, 112, 97, 113, 117, 101, 6, 198, 10, 105, 115, 95, 112, 97, 99, 107, 97, 103, 101, 9, 51, 95, 102, 114, 111, 122, 101, 110, 95, 105, 109, 112, 111, 114, 116, 108, 105, 98, 46, 66, 117, 105, 108, 116, 105, 110, 73, 109, 112, 111, 114, 116, 101, 114, 46, 105, 115, 95, 112, 97, 99, 107, 97, 103, 101, 35, 111, 112, 97, 113, 117, 101, 6, 199, 11, 108, 111, 97, 100, 95, 109, 111, 100, 117, 108, 101, 9, 52, 95, 102, 114, 111, 122, 101, 110, 95, 105, 109, 112, 111, 114, 116, 108, 105, 98, 46, 66, 117, 105, 108, 116, 105, 110, 73, 109, 112, 111, 114, 116, 101, 114, 46, 108, 111, 97, 100, 95, 109, 111, 100, 117, 108, 101, 35, 111, 112, 97, 113, 117, 101, 6, 200, 21, 95, 95, 115, 116, 97, 116, 105, 99, 95, 97, 116, 116, 114, 105, 98, 117, 116, 101, 115, 95, 95, 4, 0, 0, 15, 6, 202, 8, 95, 95, 100, 105, 99, 116, 95, 95, 4, 0, 0, 16, 6, 204, 11, 95, 95, 119, 101, 97, 107, 114, 101, 102, 95, 95, 4, 0, 0, 17]⟩ 0), (.bool true), (.bool true), (.str "" 205), (.int (21) 0), (.str ⟨List.toArray [6, 227, 10, 95, 95, 109, 111, 100, 117, 108, 101, 95, 95, 6, 217, 17, 95, 102, 114, 111, 122, 101, 110, 95, 105, 109, 112, 111, 114, 116, 108, 105, 98, 6, 228, 15, 95, 95, 102, 105, 114, 115, 116, 108, 105, 110, 101, 110, 111, 95, 95, 4, 218, 0, 562, 6, 229, 7, 95, 95, 100, 111, 99, 95, 95, 9, 47, 95, 102, 114, 111, 122, 101, 110, 95, 105, 109, 112, 111, 114, 116, 108, 105, 98, 46, 77, 111, 100, 117, 108, 101, 83, 112, 101, 99, 46, 95, 95, 100, 111, 99, 95, 95, 58, 115, 116, 114, 35, 111, 112, 97, 113, 117, 101, 6, 230, 8, 95, 95, 105, 110, 105, 116, 95, 95, 9, 44, 95, 102, 114, 111, 122, 101, 110, 95, 105, 109, 112, 111, 114, 116, 108, 105, 98, 46, 77, 111, 100, 117, 108, 101, 83, 112, 101, 99, 46, 95, 95, 105, 110, 105, 116, 95, 95, 35, 111, 112, 97, 113, 117, 101, 6, 231, 8, 95, 95, 114, 101, 112, 114, 95, 95, 9, 44, 95, 102, 114, 111, 122, 101, 110, 95, 105, 109, 112, 111, 114, 116, 108, 105, 98, 46, 77, 111, 100, 117, 108, 101, 83, 112, 101, 99, 46, 95, 95, 114, 101, 112, 114, 95, 95, 35, 111, 112, 97, 113, 117, 101, 6, 232, 6, 95, 95, 101, 113, 95, 95, 9, 42, 95, 102, 114, 111, 122, 101, 110, 95, 105, 109, 112, 111, 114, 116, 108, 105, 98, 46, 77, 111, 100, 117, 108, 101, 83, 112, 101, 99, 46, 95, 95, 101, 113, 95, 95, 35, 111, 112, 97, 113, 117, 101, 6, 233, 6, 99, 97, 99, 104, 101, 100, 9, 42, 95, 102, 114, 111, 122, 101, 110, 95, 105, 109, 112, 111, 114, 116, 108, 105, 98, 46, 77, 111, 100, 117, 108, 101, 83, 112, 101, 99, 46, 99, 97, 99, 104, 101, 100, 35, 111, 112, 97, 113, 117, 101, 6, 234, 6, 112, 97, 114, 101, 110, 116, 9, 42, 95, 102, 114, 111, 122, 101, 110, 95, 105, 109, 112, 111, 114, 116, 108, 105, 98, 46, 77, 111, 100, 117, 108, 101, 83, 112, 101, 99, 46, 112, 97, 114, 101, 110, 116, 35, 111, 112, 97, 113, 117, 101, 6, 235, 12, 104, 97, 115, 95, 108, 111, 99, 97, 116, 105, 111, 110, 9, 48, 95, 102, 114, 111, 122, 101, 110, 95, 105, 109, 112, 111, 114, 116, 108, 105, 98, 46, 77, 111, 100, 117, 108, 101, 83, 112, 101, 99, 46, 104, 97, 115, 95, 108, 111, 99, 97, 116, 105, 111, 110, 35, 111, 112, 97, 113, 117, 101, 6, 236, 21, 95, 95, 115, 116, 97, 116, 105, 99, 95, 97, 116, 116, 114, 105, 98, 117, 116, 101, 115, 95, 95, 4, 0, 0, 23, 6, 238, 8, 95, 95, 100, 105, 99, 116, 95, 95, 4, 0, 0, 24, 6, 240, 11, 95, 95, 119, 101, 97, 107, 114, 101, 102, 95, 95, 4, 0, 0, 25, 6, 241, 8, 95, 95, 104, 97, 115, 104, 95, 95, 0]⟩ 0), (.bool true), (.bool true), (.str "" 242)]) 1), #[]⟩
noncomputable def o19a (P : Params) : Obj := ⟨(.type "list"), none, (.seq (lst []) 0), #[]⟩
noncomputable def o20a (P : Params) : Obj := ⟨(.type "dict"), none, (.dict (den [⟨PyData.keyHash P "name", (.str "name" 208), (.str "_sre" 207)⟩, ⟨PyData.keyHash P "loader", (.str "loader" 209), (.ref 14)⟩, ⟨PyData.keyHash P "origin", (.str "origin" 210), (.str "built-in" 184)⟩, ⟨PyData.keyHash P "loader_state", (.str "loader_state" 211), .none⟩, ⟨PyData.keyHash P "submodule_search_locations", (.str "submodule_search_locations" 212), .none⟩, ⟨PyData.keyHash P "_uninitialized_submodules", (.str "_uninitialized_submodules" 213), (.ref 19)⟩, ⟨PyData.keyHash P "_set_fileattr", (.str "_set_fileattr" 214), (.bool false)⟩, ⟨PyData.keyHash P "_cached", (.str "_cached" 215), .none⟩, ⟨PyData.keyHash P "_initializing", (.str "_initializing" 243), (.bool false)⟩]) 9), #[]⟩
noncomputable def o21a (P : Params) : Obj := ⟨(.type "dict"), none, (.dict (den [⟨PyData.keyHash P "__module__", (.str "__module__" 227), (.str "_frozen_importlib" 217)⟩, ⟨PyData.keyHash P "__firstlineno__", (.str "__firstlineno__" 228), (.int (562) 218)⟩, ⟨PyData.keyHash P "__doc__", (.str "__doc__" 229), (.builtin "_frozen_importlib.ModuleSpec.__doc__:str#opaque")⟩, ⟨PyData.keyHash P "__init__", (.str "__init__" 230), (.builtin "_frozen_importlib.ModuleSpec.__init__#opaque")⟩, ⟨PyData.keyHash P "__repr__", (.str "__repr__" 231), (.builtin "_frozen_importlib.ModuleSpec.__repr__#opaque")⟩, ⟨PyData.keyHash P "__eq__", (.str "__eq__" 232), (.builtin "_frozen_importlib.ModuleSpec.__eq__#opaque")⟩, ⟨PyData.keyHash P "cached", (.str "cached" 233), (.builtin "_frozen_importlib.ModuleSpec.cached#opaque")⟩, ⟨PyData.keyHash P "parent", (.str "parent" 234), (.builtin "_frozen_importlib.ModuleSpec.parent#opaque")⟩, ⟨PyData.keyHash P "has_location", (.str "has_location" 235), (.builtin "_frozen_importlib.ModuleSpec.has_location#opaque")⟩, ⟨PyData.keyHash P "__static_attributes__", (.str "__static_attributes__" 236), (.ref 23)⟩, ⟨PyData.keyHash P "__dict__", (.str "__dict__" 238), (.ref 24)⟩, ⟨PyData.keyHash P "__weakref__", (.str "__weakref__" 240), (.ref 25)⟩, ⟨PyData.keyHash P "__hash__", (.str "__hash__" 241), .none⟩]) 13), #[]⟩
noncomputable def o22a (P : Params) : Obj := ⟨(.type "type"), none, (.cls ⟨"ModuleSpec", [(.type "object")], [(.ref 22), (.type "object")], 21, "ModuleSpec", true, [], [], false, none, false⟩), #[]⟩
noncomputable def o23a (P : Params) : Obj := ⟨(.type "tuple"), none, (.seq (lst [(.str "_cached" 219), (.str "_set_fileattr" 220), (.str "_uninitialized_submodules" 221), (.str "loader" 222), (.str "loader_state" 223), (.str "name" 224), (.str "origin" 225), (.str "submodule_search_locations" 226)]) 0), #[]⟩
noncomputable def o24a (P : Params) : Obj := ⟨(.type "getset_descriptor"), none, (.fields (lst [(.str "__dict__" 237), (.ref 22), (.builtin "function.__dict__"), (.builtin "function.__dict__#set")])), #[]⟩
noncomputable def o25a (P : Params) : Obj := ⟨(.type "getset_descriptor"), none, (.fields (lst [(.str "__weakref__" 239), (.ref 22), (.builtin "ExceptionGroup.__weakref__"), .none])), #[]⟩
noncomputable def o26a (P : Params) : Obj := ⟨(.ref 22), (some 20), .plain, #[]⟩
noncomputable def o27a (P : Params) : Obj := ⟨.none, none, (.seq (lst [(.int (11) 0), (.str ⟨List.toArray [6, 247, 8, 95, 95, 110, 97, 109, 101, 95, 95, 6, 246, 4, 95, 115, 114, 101, 6, 248, 7, 95, 95, 100, 111, 99, 95, 95, 0, 6, 250, 11, 95, 95, 112, 97, 99, 107, 97, 103, 101, 95, 95, 6, 249, 0, 6, 251, 10, 95, 95, 108, 111, 97, 100, 101, 114, 95, 95, 4, 0, 0, 14, 6, 252, 8, 95, 95, 115, 112, 101, 99, 95, 95, 4, 0, 0, 26, 6, 253, 7, 99, 111, 109, 112, 105, 108, 101, 9, 12, 95, 115, 114, 101, 46, 99, 111, 109, 112, 105, 108, 101, 6, 254, 8, 116, 101, 109, 112, 108, 97, 116, 101, 9, 13, 95, 115, 114, 101, 46, 116, 101, 109, 112, 108, 97, 116, 101, 6, 255, 11, 103, 101, 116, 99, 111, 100, 101, 115, 105, 122, 101, 9, 16, 95, 115, 114, 101, 46, 103, 101, 116, 99, 111, 100, 101, 115, 105, 122, 101, 6, 256, 13, 97, 115, 99, 105, 105, 95, 105, 115, 99, 97, 115, 101, 100, 9, 18, 95, 115, 114, 101, 46, 97, 115, 99, 105, 105, 95, 105, 115, 99, 97, 115, 101, 100, 6, 257, 15, 117, 110, 105, 99, 111, 100, 101, 95, 105, 115, 99, 97, 115, 101, 100, 9, 20, 95, 115, 114, 101, 46, 117, 110, 105, 99, 111, 100, 101, 95, 105, 115, 99, 97, 115, 101, 100, 6, 258, 13, 97, 115, 99, 105, 105, 95, 116, 111, 108, 111, 119, 101, 114, 9, 18, 95, 115, 114, 101, 46, 97, 115, 99, 105, 105, 95, 116, 111, 108, 111, 119, 101, 114, 6, 259, 15, 117, 110, 105, 99, 111, 100, 101, 95, 116, 111, 108, 111, 119, 101, 114, 9, 20, 95, 115, 114, 101, 46, 117, 110, 105, 99, 111, 100, 101, 95, 116, 111, 108, 111, 119, 101, 114, 6, 261, 5, 77, 65, 71, 73, 67, 4, 260, 0, 20230612, 6, 263, 8, 67, 79, 68, 69, 83, 73, 90, 69, 4, 262, 0, 4, 6, 265, 9, 77, 65, 88, 82, 69, 80, 69, 65, 84, 4, 264, 0, 4294967295, 6, 267, 9, 77, 65, 88, 71, 82, 79, 85, 80, 83, 4, 266, 0, 1073741823, 6, 269, 9, 99, 111, 112, 121, 114, 105, 103, 104, 116, 6, 268, 53, 32, 83, 82, 69, 32, 50, 46, 50, 46, 50, 32, 67, 111, 112, 121, 114, 105, 103, 104, 116, 32, 40, 99, 41, 32, 49, 57, 57, 55, 45, 50, 48, 48, 50, 32, 98, 121, 32, 83, 101, 99, 114, 101, 116, 32, 76, 97, 98, 115, 32, 65, 66, 32]⟩ 0), (.bool true), (.bool false), (.str "_sre" 271)]) 0), #[]⟩
noncomputable def o28b (P : Params) : Obj := ⟨(.type "tuple"), none, (.seq (lst []) 0), #[]⟩
noncomputable def o29b (P : Params) : Obj := ⟨.none, none, (.fields (lst [])), #[]⟩
noncomputable def o30b (P : Params) : Obj := ⟨(.type "code"), none, (.fields (lst [(.str "<module>" 277), (.str "<module>" 278), (.str "/claim/cut.py" 279), (.int (1) 0), (.int (0) 0), (.int (0) 0), (.int (0) 0), (.int (0) 0), (.ref 28), (.bool false), (.int (276) 0), (.ref 29), .none, .none, .none, .none, (.int (280) 0), (.int (1) 0), (.str "/claim/cut.py" 281)])), #[]⟩
noncomputable def o31b (P : Params) : Obj := ⟨(.type "frame"), none, .plain, (ols [(some (.ref 30)), (some (.ref 3)), (some (.ref 3)), none, (some (.str "__main__" 164)), none, (some (.ref 0))])⟩
noncomputable def o3c (P : Params) : Obj := ⟨(.type "dict"), none, (.dict (den [⟨PyData.keyHash P "__name__", (.str "__name__" 165), (.str "cpy313.dis" 289)⟩, ⟨PyData.keyHash P "__doc__", (.str "__doc__" 166), .none⟩, ⟨PyData.keyHash P "__package__", (.str "__package__" 167), .none⟩, ⟨PyData.keyHash P "__loader__", (.str "__loader__" 168), (.builtin "__main__.__loader__#opaque")⟩, ⟨PyData.keyHash P "__spec__", (.str "__spec__" 169), .none⟩, ⟨PyData.keyHash P "__annotations__", (.str "__annotations__" 170), (.ref 6)⟩, ⟨PyData.keyHash P "__builtins__", (.str "__builtins__" 171), (.ref 4)⟩, ⟨PyData.keyHash P "__file__", (.str "__file__" 173), (.str "/claim/cut.py" 172)⟩, ⟨PyData.keyHash P "__cached__", (.str "__cached__" 174), .none⟩, ⟨PyData.keyHash P "_sre", (.str "_sre" 275), (.ref 12)⟩, ⟨PyData.keyHash P "_wall", (.str "_wall" 288), (.ref 38)⟩]) 11), #[]⟩
noncomputable def o29c (P : Params) : Obj := ⟨.none, none, (.fields (lst [(.int (2) 0), (.int (0) 0), (.ref 37)])), #[]⟩
noncomputable def o32c (P : Params) : Obj := ⟨(.type "tuple"), none, (.seq (lst []) 0), #[]⟩
noncomputable def o33c (P : Params) : Obj := ⟨.none, none, (.fields (lst [])), #[]⟩
noncomputable def o34c (P : Params) : Obj := ⟨(.type "tuple"), none, (.seq (lst [(.str "k" 285)]) 0), #[]⟩
noncomputable def o35c (P : Params) : Obj := ⟨(.type "tuple"), none, (.seq (lst []) 0), #[]⟩
noncomputable def o36c (P : Params) : Obj := ⟨.none, none, (.func (fdZ (stm 1) "_wall" "_wall")), #[]⟩
noncomputable def o37c (P : Params) : Obj := ⟨(.type "code"), none, (.fields (lst [(.str "_wall" 282), (.str "_wall" 283), (.str "/claim/cut.py" 284), (.int (2) 0), (.int (1) 0), (.int (0) 0), (.int (0) 0), (.int (3) 0), (.ref 32), (.bool true), (.int (276) 0), (.ref 33), .none, (.ref 34), (.ref 35), (.ref 36), (.int (286) 0), (.int (2) 0), (.str "/claim/cut.py" 287)])), #[]⟩
noncomputable def o38c (P : Params) : Obj := ⟨(.type "function"), none, (.func (fdOf (stm 1) "_wall" "_wall" (.str "__main__" 164) 37 .none .none)), #[]⟩
noncomputable def o3d (P : Params) : Obj := ⟨(.type "dict"), none, (.dict (den [⟨PyData.keyHash P "__name__", (.str "__name__" 165), (.str "cpy313.dis" 289)⟩, ⟨PyData.keyHash P "__doc__", (.str "__doc__" 166), .none⟩, ⟨PyData.keyHash P "__package__", (.str "__package__" 167), .none⟩, ⟨PyData.keyHash P "__loader__", (.str "__loader__" 168), (.builtin "__main__.__loader__#opaque")⟩, ⟨PyData.keyHash P "__spec__", (.str "__spec__" 169), .none⟩, ⟨PyData.keyHash P "__annotations__", (.str "__annotations__" 170), (.ref 6)⟩, ⟨PyData.keyHash P "__builtins__", (.str "__builtins__" 171), (.ref 4)⟩, ⟨PyData.keyHash P "__file__", (.str "__file__" 173), (.str "/claim/cut.py" 172)⟩, ⟨PyData.keyHash P "__cached__", (.str "__cached__" 174), .none⟩, ⟨PyData.keyHash P "_sre", (.str "_sre" 275), (.ref 12)⟩, ⟨PyData.keyHash P "_wall", (.str "_wall" 288), (.ref 38)⟩, ⟨PyData.keyHash P "COMPILER_FLAG_NAMES", (.str "COMPILER_FLAG_NAMES" 321), (.ref 39)⟩]) 12), #[]⟩
noncomputable def o39d (P : Params) : Obj := ⟨(.type "dict"), none, (.dict (den [⟨1, (.int (1) 291), (.str "OPTIMIZED" 292)⟩, ⟨2, (.int (2) 293), (.str "NEWLOCALS" 294)⟩, ⟨4, (.int (4) 295), (.str "VARARGS" 296)⟩, ⟨8, (.int (8) 297), (.str "VARKEYWORDS" 298)⟩, ⟨16, (.int (16) 299), (.str "NESTED" 300)⟩, ⟨32, (.int (32) 301), (.str "GENERATOR" 302)⟩, ⟨64, (.int (64) 303), (.str "NOFREE" 304)⟩, ⟨128, (.int (128) 305), (.str "COROUTINE" 306)⟩, ⟨256, (.int (256) 307), (.str "ITERABLE_COROUTINE" 308)⟩, ⟨512, (.int (512) 309), (.str "ASYNC_GENERATOR" 310)⟩]) 10), #[]⟩
noncomputable def o3e (P : Params) : Obj := ⟨(.type "dict"), none, (.dict (den [⟨PyData.keyHash P "__name__", (.str "__name__" 165), (.str "cpy313.stringprep" 392)⟩, ⟨PyData.keyHash P "__doc__", (.str "__doc__" 166), .none⟩, ⟨PyData.keyHash P "__package__", (.str "__package__" 167), .none⟩, ⟨PyData.keyHash P "__loader__", (.str "__loader__" 168), (.builtin "__main__.__loader__#opaque")⟩, ⟨PyData.keyHash P "__spec__", (.str "__spec__" 169), .none⟩, ⟨PyData.keyHash P "__annotations__", (.str "__annotations__" 170), (.ref 6)⟩, ⟨PyData.keyHash P "__builtins__", (.str "__builtins__" 171), (.ref 4)⟩, ⟨PyData.keyHash P "__file__", (.str "__file__" 173), (.str "/claim/cut.py" 172)⟩, ⟨PyData.keyHash P "__cached__", (.str "__cached__" 174), .none⟩, ⟨PyData.keyHash P "_sre", (.str "_sre" 275), (.ref 12)⟩, ⟨PyData.keyHash P "_wall", (.str "_wall" 288), (.ref 38)⟩, ⟨PyData.keyHash P "COMPILER_FLAG_NAMES", (.str "COMPILER_FLAG_NAMES" 321), (.ref 39)⟩, ⟨PyData.keyHash P "pretty_flags", (.str "pretty_flags" 331), (.ref 46)⟩, ⟨PyData.keyHash P "_netrclex", (.str "_netrclex" 391), (.ref 84)⟩]) 14), #[]⟩
noncomputable def o29e (P : Params) : Obj := ⟨.none, none, (.fields (lst [(.int (2) 0), (.int (0) 0), (.ref 37), (.int (7) 0), (.int (0) 0), (.ref 45), (.int (20) 0), (.int (0) 0), (.ref 52)])), #[]⟩
noncomputable def o40e (P : Params) : Obj := ⟨(.type "tuple"), none, (.seq (lst []) 0), #[]⟩
noncomputable def o41e (P : Params) : Obj := ⟨.none, none, (.fields (lst [])), #[]⟩
noncomputable def o42e (P : Params) : Obj := ⟨(.type "tuple"), none, (.seq (lst [(.str "flags" 325), (.str "names" 326), (.str "i" 327), (.str "flag" 328)]) 0), #[]⟩
noncomputable def o43e (P : Params) : Obj := ⟨(.type "tuple"), none, (.seq (lst []) 0), #[]⟩
noncomputable def o44e (P : Params) : Obj := ⟨.none, none, (.func (fdZ (stm 4) "pretty_flags" "pretty_flags")), #[]⟩
noncomputable def o45e (P : Params) : Obj := ⟨(.type "code"), none, (.fields (lst [(.str "pretty_flags" 322), (.str "pretty_flags" 323), (.str "/claim/cut.py" 324), (.int (7) 0), (.int (1) 0), (.int (0) 0), (.int (0) 0), (.int (3) 0), (.ref 40), (.bool true), (.int (276) 0), (.ref 41), .none, (.ref 42), (.ref 43), (.ref 44), (.int (329) 0), (.int (7) 0), (.str "/claim/cut.py" 330)])), #[]⟩
noncomputable def o46e (P : Params) : Obj := ⟨(.type "function"), none, (.func (fdOf (stm 4) "pretty_flags" "pretty_flags" (.str "cpy313.dis" 289) 45 .none .none)), #[]⟩
noncomputable def o47e (P : Params) : Obj := ⟨(.type "tuple"), none, (.seq (lst []) 0), #[]⟩
noncomputable def o48e (P : Params) : Obj := ⟨(.type "builtin_function_or_method"), none, (.fields (lst [(.builtin "type.__prepare__"), (.type "type")])), #[]⟩
noncomputable def o49e (P : Params) : Obj := ⟨(.type "dict"), none, (.dict (den [⟨PyData.keyHash P "__module__", (.str "__module__" 341), (.str "cpy313.netrc" 332)⟩, ⟨PyData.keyHash P "__qualname__", (.str "__qualname__" 343), (.str "_netrclex" 342)⟩, ⟨PyData.keyHash P "__firstlineno__", (.str "__firstlineno__" 345), (.int (20) 344)⟩, ⟨PyData.keyHash P "__init__", (.str "__init__" 353), (.ref 60)⟩, ⟨PyData.keyHash P "_read_char", (.str "_read_char" 361), (.ref 67)⟩, ⟨PyData.keyHash P "get_token", (.str "get_token" 371), (.ref 74)⟩, ⟨PyData.keyHash P "push_token", (.str "push_token" 379), (.ref 81)⟩, ⟨PyData.keyHash P "__static_attributes__", (.str "__static_attributes__" 384), (.ref 82)⟩]) 8), #[]⟩
noncomputable def o50e (P : Params) : Obj := ⟨(.type "tuple"), none, (.seq (lst []) 0), #[]⟩
noncomputable def o51e (P : Params) : Obj := ⟨.none, none, (.fields (lst [(.int (22) 0), (.int (4) 0), (.ref 59), (.int (28) 0), (.int (4) 0), (.ref 66), (.int (34) 0), (.int (4) 0), (.ref 73), (.int (61) 0), (.int (4) 0), (.ref 80)])), #[]⟩
noncomputable def o52e (P : Params) : Obj := ⟨(.type "code"), none, (.fields (lst [(.str "_netrclex" 336), (.str "_netrclex" 337), (.str "/claim/cut.py" 338), (.int (20) 0), (.int (0) 0), (.int (0) 0), (.int (0) 0), (.int (0) 0), (.ref 50), (.bool false), (.int (276) 0), (.ref 51), .none, .none, .none, .none, (.int (339) 0), (.int (20) 0), (.str "/claim/cut.py" 340)])), #[]⟩
noncomputable def o53e (P : Params) : Obj := ⟨(.type "frame"), none, .plain, (ols [(some (.ref 52)), (some (.ref 3)), (some (.ref 49)), none, (some (.str "cpy313.netrc" 332)), none, (some (.ref 0))])⟩
noncomputable def o54e (P : Params) : Obj := ⟨(.type "tuple"), none, (.seq (lst []) 0), #[]⟩
noncomputable def o55e (P : Params) : Obj := ⟨.none, none, (.fields (lst [])), #[]⟩
noncomputable def o56e (P : Params) : Obj := ⟨(.type "tuple"), none, (.seq (lst [(.str "self" 349), (.str "fp" 350)]) 0), #[]⟩
noncomputable def o57e (P : Params) : Obj := ⟨(.type "tuple"), none, (.seq (lst []) 0), #[]⟩
noncomputable def o58e (P : Params) : Obj := ⟨.none, none, (.func (fdZ (mth 6 0) "__init__" "_netrclex.__init__")), #[]⟩
noncomputable def o59e (P : Params) : Obj := ⟨(.type "code"), none, (.fields (lst [(.str "__init__" 346), (.str "_netrclex.__init__" 347), (.str "/claim/cut.py" 348), (.int (22) 0), (.int (2) 0), (.int (0) 0), (.int (0) 0), (.int (3) 0), (.ref 54), (.bool true), (.int (276) 0), (.ref 55), .none, (.ref 56), (.ref 57), (.ref 58), (.int (351) 0), (.int (22) 0), (.str "/claim/cut.py" 352)])), #[]⟩
noncomputable def o60e (P : Params) : Obj := ⟨(.type "function"), none, (.func (fdOf (mth 6 0) "__init__" "_netrclex.__init__" (.str "cpy313.netrc" 332) 59 .none .none)), #[]⟩
noncomputable def o61e (P : Params) : Obj := ⟨(.type "tuple"), none, (.seq (lst []) 0), #[]⟩
noncomputable def o62e (P : Params) : Obj := ⟨.none, none, (.fields (lst [])), #[]⟩
noncomputable def o63e (P : Params) : Obj := ⟨(.type "tuple"), none, (.seq (lst [(.str "self" 357), (.str "ch" 358)]) 0), #[]⟩
noncomputable def o64e (P : Params) : Obj := ⟨(.type "tuple"), none, (.seq (lst []) 0), #[]⟩
noncomputable def o65e (P : Params) : Obj := ⟨.none, none, (.func (fdZ (mth 6 1) "_read_char" "_netrclex._read_char")), #[]⟩
noncomputable def o66e (P : Params) : Obj := ⟨(.type "code"), none, (.fields (lst [(.str "_read_char" 354), (.str "_netrclex._read_char" 355), (.str "/claim/cut.py" 356), (.int (28) 0), (.int (1) 0), (.int (0) 0), (.int (0) 0), (.int (3) 0), (.ref 61), (.bool true), (.int (276) 0), (.ref 62), .none, (.ref 63), (.ref 64), (.ref 65), (.int (359) 0), (.int (28) 0), (.str "/claim/cut.py" 360)])), #[]⟩
noncomputable def o67e (P : Params) : Obj := ⟨(.type "function"), none, (.func (fdOf (mth 6 1) "_read_char" "_netrclex._read_char" (.str "cpy313.netrc" 332) 66 .none .none)), #[]⟩
noncomputable def o68e (P : Params) : Obj := ⟨(.type "tuple"), none, (.seq (lst []) 0), #[]⟩
noncomputable def o69e (P : Params) : Obj := ⟨.none, none, (.fields (lst [])), #[]⟩
noncomputable def o70e (P : Params) : Obj := ⟨(.type "tuple"), none, (.seq (lst [(.str "self" 365), (.str "token" 366), (.str "fiter" 367), (.str "ch" 368)]) 0), #[]⟩
noncomputable def o71e (P : Params) : Obj := ⟨(.type "tuple"), none, (.seq (lst []) 0), #[]⟩
noncomputable def o72e (P : Params) : Obj := ⟨.none, none, (.func (fdZ (mth 6 2) "get_token" "_netrclex.get_token")), #[]⟩
noncomputable def o73e (P : Params) : Obj := ⟨(.type "code"), none, (.fields (lst [(.str "get_token" 362), (.str "_netrclex.get_token" 363), (.str "/claim/cut.py" 364), (.int (34) 0), (.int (1) 0), (.int (0) 0), (.int (0) 0), (.int (3) 0), (.ref 68), (.bool true), (.int (276) 0), (.ref 69), .none, (.ref 70), (.ref 71), (.ref 72), (.int (369) 0), (.int (34) 0), (.str "/claim/cut.py" 370)])), #[]⟩
noncomputable def o74e (P : Params) : Obj := ⟨(.type "function"), none, (.func (fdOf (mth 6 2) "get_token" "_netrclex.get_token" (.str "cpy313.netrc" 332) 73 .none .none)), #[]⟩
noncomputable def o75e (P : Params) : Obj := ⟨(.type "tuple"), none, (.seq (lst []) 0), #[]⟩
noncomputable def o76e (P : Params) : Obj := ⟨.none, none, (.fields (lst [])), #[]⟩
noncomputable def o77e (P : Params) : Obj := ⟨(.type "tuple"), none, (.seq (lst [(.str "self" 375), (.str "token" 376)]) 0), #[]⟩
noncomputable def o78e (P : Params) : Obj := ⟨(.type "tuple"), none, (.seq (lst []) 0), #[]⟩
noncomputable def o79e (P : Params) : Obj := ⟨.none, none, (.func (fdZ (mth 6 3) "push_token" "_netrclex.push_token")), #[]⟩
noncomputable def o80e (P : Params) : Obj := ⟨(.type "code"), none, (.fields (lst [(.str "push_token" 372), (.str "_netrclex.push_token" 373), (.str "/claim/cut.py" 374), (.int (61) 0), (.int (2) 0), (.int (0) 0), (.int (0) 0), (.int (3) 0), (.ref 75), (.bool true), (.int (276) 0), (.ref 76), .none, (.ref 77), (.ref 78), (.ref 79), (.int (377) 0), (.int (61) 0), (.str "/claim/cut.py" 378)])), #[]⟩
noncomputable def o81e (P : Params) : Obj := ⟨(.type "function"), none, (.func (fdOf (mth 6 3) "push_token" "_netrclex.push_token" (.str "cpy313.netrc" 332) 80 .none .none)), #[]⟩
noncomputable def o82e (P : Params) : Obj := ⟨(.type "tuple"), none, (.seq (lst [(.str "instream" 380), (.str "lineno" 381), (.str "pushback" 382), (.str "whitespace" 383)]) 0), #[]⟩
noncomputable def o83e (P : Params) : Obj := ⟨(.type "dict"), none, (.dict (den [⟨PyData.keyHash P "__module__", (.str "__module__" 341), (.str "cpy313.netrc" 332)⟩, ⟨PyData.keyHash P "__firstlineno__", (.str "__firstlineno__" 345), (.int (20) 344)⟩, ⟨PyData.keyHash P "__init__", (.str "__init__" 353), (.ref 60)⟩, ⟨PyData.keyHash P "_read_char", (.str "_read_char" 361), (.ref 67)⟩, ⟨PyData.keyHash P "get_token", (.str "get_token" 371), (.ref 74)⟩, ⟨PyData.keyHash P "push_token", (.str "push_token" 379), (.ref 81)⟩, ⟨PyData.keyHash P "__static_attributes__", (.str "__static_attributes__" 384), (.ref 82)⟩, ⟨PyData.keyHash P "__dict__", (.str "__dict__" 386), (.ref 85)⟩, ⟨PyData.keyHash P "__weakref__", (.str "__weakref__" 388), (.ref 86)⟩, ⟨PyData.keyHash P "__doc__", (.str "__doc__" 389), .none⟩]) 4), #[]⟩
noncomputable def o84e (P : Params) : Obj := ⟨(.type "type"), none, (.cls ⟨"_netrclex", [(.type "object")], [(.ref 84), (.type "object")], 83, "_netrclex", true, [], [], false, none, false⟩), (ols [none, none, (some (.str "_netrclex" 334)), (some (.str "_netrclex" 342)), (some (.builtin "object.__new__")), (some (.bool true))])⟩
noncomputable def o85e (P : Params) : Obj := ⟨(.type "getset_descriptor"), none, (.fields (lst [(.str "__dict__" 385), (.ref 84), (.builtin "function.__dict__"), (.builtin "function.__dict__#set")])), #[]⟩
noncomputable def o86e (P : Params) : Obj := ⟨(.type "getset_descriptor"), none, (.fields (lst [(.str "__weakref__" 387), (.ref 84), (.builtin "ExceptionGroup.__weakref__"), .none])), #[]⟩
noncomputable def o87e (P : Params) : Obj := ⟨(.type "super"), none, (.fields (lst [(.ref 84), (.ref 84), (.ref 84)])), #[]⟩
noncomputable def o88e (P : Params) : Obj := ⟨(.type "builtin_function_or_method"), none, (.fields (lst [(.builtin "object.__init_subclass__"), (.ref 84)])), #[]⟩
noncomputable def o3f (P : Params) : Obj := ⟨(.type "dict"), none, (.dict (den [⟨PyData.keyHash P "__name__", (.str "__name__" 165), (.str "cpy313.stringprep" 392)⟩, ⟨PyData.keyHash P "__doc__", (.str "__doc__" 166), .none⟩, ⟨PyData.keyHash P "__package__", (.str "__package__" 167), .none⟩, ⟨PyData.keyHash P "__loader__", (.str "__loader__" 168), (.builtin "__main__.__loader__#opaque")⟩, ⟨PyData.keyHash P "__spec__", (.str "__spec__" 169), .none⟩, ⟨PyData.keyHash P "__annotations__", (.str "__annotations__" 170), (.ref 6)⟩, ⟨PyData.keyHash P "__builtins__", (.str "__builtins__" 171), (.ref 4)⟩, ⟨PyData.keyHash P "__file__", (.str "__file__" 173), (.str "/claim/cut.py" 172)⟩, ⟨PyData.keyHash P "__cached__", (.str "__cached__" 174), .none⟩, ⟨PyData.keyHash P "_sre", (.str "_sre" 275), (.ref 12)⟩, ⟨PyData.keyHash P "_wall", (.str "_wall" 288), (.ref 38)⟩, ⟨PyData.keyHash P "COMPILER_FLAG_NAMES", (.str "COMPILER_FLAG_NAMES" 321), (.ref 39)⟩, ⟨PyData.keyHash P "pretty_flags", (.str "pretty_flags" 331), (.ref 46)⟩, ⟨PyData.keyHash P "_netrclex", (.str "_netrclex" 391), (.ref 84)⟩, ⟨PyData.keyHash P "b1_set", (.str "b1_set" 453), (.ref 96)⟩]) 15), #[]⟩
noncomputable def o89f (P : Params) : Obj := ⟨(.type "list"), none, (.seq (lst [(.int (173) 394), (.int (847) 395), (.int (6150) 396), (.int (6155) 397), (.int (6156) 398), (.int (6157) 399), (.int (8203) 400), (.int (8204) 401), (.int (8205) 402), (.int (8288) 403), (.int (65279) 404)]) 0), #[]⟩
noncomputable def o90f (P : Params) : Obj := ⟨(.type "range"), none, (.fields (lst [(.int (65024) 405), (.int (65040) 406), (.int (1) 407)])), #[]⟩
noncomputable def o91f (P : Params) : Obj := ⟨(.type "list"), none, (.seq (lst [(.int (65024) 410), (.int (65025) 411), (.int (65026) 412), (.int (65027) 413), (.int (65028) 414), (.int (65029) 415), (.int (65030) 416), (.int (65031) 417), (.int (65032) 418), (.int (65033) 419), (.int (65034) 420), (.int (65035) 421), (.int (65036) 422), (.int (65037) 423), (.int (65038) 424), (.int (65039) 425)]) 18), #[]⟩
noncomputable def o92f (P : Params) : Obj := ⟨(.type "range_iterator"), none, (.fields (lst [(.int (65040) 0), (.int (0) 0), (.int (1) 0)])), #[]⟩
noncomputable def o93f (P : Params) : Obj := ⟨(.type "tuple"), none, (.seq (lst []) 0), #[]⟩
noncomputable def o94f (P : Params) : Obj := ⟨(.type "StopIteration"), none, (.fields (lst [(.ref 93), .none, .none, .none, (.bool false), .none])), #[]⟩
noncomputable def o95f (P : Params) : Obj := ⟨(.type "list"), none, (.seq (lst [(.int (173) 394), (.int (847) 395), (.int (6150) 396), (.int (6155) 397), (.int (6156) 398), (.int (6157) 399), (.int (8203) 400), (.int (8204) 401), (.int (8205) 402), (.int (8288) 403), (.int (65279) 404), (.int (65024) 410), (.int (65025) 411), (.int (65026) 412), (.int (65027) 413), (.int (65028) 414), (.int (65029) 415), (.int (65030) 416), (.int (65031) 417), (.int (65032) 418), (.int (65033) 419), (.int (65034) 420), (.int (65035) 421), (.int (65036) 422), (.int (65037) 423), (.int (65038) 424), (.int (65039) 425)]) 0), #[]⟩
noncomputable def o96f (P : Params) : Obj := ⟨(.type "set"), none, (.set (List.toArray [((65024 : Int), (.int (65024) 410)), ((65025 : Int), (.int (65025) 411)), ((65026 : Int), (.int (65026) 412)), ((65027 : Int), (.int (65027) 413)), ((65028 : Int), (.int (65028) 414)), ((65029 : Int), (.int (65029) 415)), ((6150 : Int), (.int (6150) 396)), ((65030 : Int), (.int (65030) 416)), ((65031 : Int), (.int (65031) 417)), ((65032 : Int), (.int (65032) 418)), ((65033 : Int), (.int (65033) 419)), ((6155 : Int), (.int (6155) 397)), ((6156 : Int), (.int (6156) 398)), ((6157 : Int), (.int (6157) 399)), ((8203 : Int), (.int (8203) 400)), ((8204 : Int), (.int (8204) 401)), ((8205 : Int), (.int (8205) 402)), ((65034 : Int), (.int (65034) 420)), ((65035 : Int), (.int (65035) 421)), ((65036 : Int), (.int (65036) 422)), ((65037 : Int), (.int (65037) 423)), ((65038 : Int), (.int (65038) 424)), ((65039 : Int), (.int (65039) 425)), ((173 : Int), (.int (173) 394)), ((847 : Int), (.int (847) 395)), ((8288 : Int), (.int (8288) 403)), ((65279 : Int), (.int (65279) 404))]) 29 ⟨127, (List.toArray [0, 1, 2, 3, 4, 5, 6, 7, 8, 9, 10, 11, 12, 13, 14, 15, 16, 17, 18, 19, 20, 21, 22, 45, 79, 96, 127]), (List.toArray []), 0, !P.followText "set-order", 2, true⟩), #[]⟩
noncomputable def o97f (P : Params) : Obj := ⟨(.type "list_iterator"), none, (.fields (lst [.none, (.int (27) 0)])), #[]⟩
noncomputable def o98f (P : Params) : Obj := ⟨(.type "tuple"), none, (.seq (lst []) 0), #[]⟩
noncomputable def o99f (P : Params) : Obj := ⟨(.type "StopIteration"), none, (.fields (lst [(.ref 98), .none, .none, .none, (.bool false), .none])), #[]⟩
noncomputable def o3g (P : Params) : Obj := ⟨(.type "dict"), none, (.dict (den [⟨PyData.keyHash P "__name__", (.str "__name__" 165), (.str "cpy313.stringprep" 392)⟩, ⟨PyData.keyHash P "__doc__", (.str "__doc__" 166), .none⟩, ⟨PyData.keyHash P "__package__", (.str "__package__" 167), .none⟩, ⟨PyData.keyHash P "__loader__", (.str "__loader__" 168), (.builtin "__main__.__loader__#opaque")⟩, ⟨PyData.keyHash P "__spec__", (.str "__spec__" 169), .none⟩, ⟨PyData.keyHash P "__annotations__", (.str "__annotations__" 170), (.ref 6)⟩, ⟨PyData.keyHash P "__builtins__", (.str "__builtins__" 171), (.ref 4)⟩, ⟨PyData.keyHash P "__file__", (.str "__file__" 173), (.str "/claim/cut.py" 172)⟩, ⟨PyData.keyHash P "__cached__", (.str "__cached__" 174), .none⟩, ⟨PyData.keyHash P "_sre", (.str "_sre" 275), (.ref 12)⟩, ⟨PyData.keyHash P "_wall", (.str "_wall" 288), (.ref 38)⟩, ⟨PyData.keyHash P "COMPILER_FLAG_NAMES", (.str "COMPILER_FLAG_NAMES" 321), (.ref 39)⟩, ⟨PyData.keyHash P "pretty_flags", (.str "pretty_flags" 331), (.ref 46)⟩, ⟨PyData.keyHash P "_netrclex", (.str "_netrclex" 391), (.ref 84)⟩, ⟨PyData.keyHash P "b1_set", (.str "b1_set" 453), (.ref 96)⟩, ⟨PyData.keyHash P "in_table_b1", (.str "in_table_b1" 460), (.ref 106)⟩]) 16), #[]⟩
noncomputable def o29g (P : Params) : Obj := ⟨.none, none, (.fields (lst [(.int (2) 0), (.int (0) 0), (.ref 37), (.int (7) 0), (.int (0) 0), (.ref 45), (.int (20) 0), (.int (0) 0), (.ref 52), (.int (65) 0), (.int (0) 0), (.ref 105)])), #[]⟩
noncomputable def o100g (P : Params) : Obj := ⟨(.type "tuple"), none, (.seq (lst []) 0), #[]⟩
noncomputable def o101g (P : Params) : Obj := ⟨.none, none, (.fields (lst [])), #[]⟩
noncomputable def o102g (P : Params) : Obj := ⟨(.type "tuple"), none, (.seq (lst [(.str "code" 457)]) 0), #[]⟩
noncomputable def o103g (P : Params) : Obj := ⟨(.type "tuple"), none, (.seq (lst []) 0), #[]⟩
noncomputable def o104g (P : Params) : Obj := ⟨.none, none, (.func (fdZ (stm 9) "in_table_b1" "in_table_b1")), #[]⟩
noncomputable def o105g (P : Params) : Obj := ⟨(.type "code"), none, (.fields (lst [(.str "in_table_b1" 454), (.str "in_table_b1" 455), (.str "/claim/cut.py" 456), (.int (65) 0), (.int (1) 0), (.int (0) 0), (.int (0) 0), (.int (3) 0), (.ref 100), (.bool true), (.int (276) 0), (.ref 101), .none, (.ref 102), (.ref 103), (.ref 104), (.int (458) 0), (.int (65) 0), (.str "/claim/cut.py" 459)])), #[]⟩
noncomputable def o106g (P : Params) : Obj := ⟨(.type "function"), none, (.func (fdOf (stm 9) "in_table_b1" "in_table_b1" (.str "cpy313.stringprep" 392) 105 .none .none)), #[]⟩
noncomputable def o3h (P : Params) : Obj := ⟨(.type "dict"), none, (.dict (den [⟨PyData.keyHash P "__name__", (.str "__name__" 165), (.str "cpy313.stringprep" 392)⟩, ⟨PyData.keyHash P "__doc__", (.str "__doc__" 166), .none⟩, ⟨PyData.keyHash P "__package__", (.str "__package__" 167), .none⟩, ⟨PyData.keyHash P "__loader__", (.str "__loader__" 168), (.builtin "__main__.__loader__#opaque")⟩, ⟨PyData.keyHash P "__spec__", (.str "__spec__" 169), .none⟩, ⟨PyData.keyHash P "__annotations__", (.str "__annotations__" 170), (.ref 6)⟩, ⟨PyData.keyHash P "__builtins__", (.str "__builtins__" 171), (.ref 4)⟩, ⟨PyData.keyHash P "__file__", (.str "__file__" 173), (.str "/claim/cut.py" 172)⟩, ⟨PyData.keyHash P "__cached__", (.str "__cached__" 174), .none⟩, ⟨PyData.keyHash P "_sre", (.str "_sre" 275), (.ref 12)⟩, ⟨PyData.keyHash P "_wall", (.str "_wall" 288), (.ref 38)⟩, ⟨PyData.keyHash P "COMPILER_FLAG_NAMES", (.str "COMPILER_FLAG_NAMES" 321), (.ref 39)⟩, ⟨PyData.keyHash P "pretty_flags", (.str "pretty_flags" 331), (.ref 46)⟩, ⟨PyData.keyHash P "_netrclex", (.str "_netrclex" 391), (.ref 84)⟩, ⟨PyData.keyHash P "b1_set", (.str "b1_set" 453), (.ref 96)⟩, ⟨PyData.keyHash P "in_table_b1", (.str "in_table_b1" 460), (.ref 106)⟩, ⟨PyData.keyHash P "b3_exceptions", (.str "b3_exceptions" 2411), (.ref 107)⟩]) 17), #[]⟩
noncomputable def o3i (P : Params) : Obj := ⟨(.type "dict"), none, (.dict (den [⟨PyData.keyHash P "__name__", (.str "__name__" 165), (.str "cpy313.xml.etree.ElementTree" 2420)⟩, ⟨PyData.keyHash P "__doc__", (.str "__doc__" 166), .none⟩, ⟨PyData.keyHash P "__package__", (.str "__package__" 167), .none⟩, ⟨PyData.keyHash P "__loader__", (.str "__loader__" 168), (.builtin "__main__.__loader__#opaque")⟩, ⟨PyData.keyHash P "__spec__", (.str "__spec__" 169), .none⟩, ⟨PyData.keyHash P "__annotations__", (.str "__annotations__" 170), (.ref 6)⟩, ⟨PyData.keyHash P "__builtins__", (.str "__builtins__" 171), (.ref 4)⟩, ⟨PyData.keyHash P "__file__", (.str "__file__" 173), (.str "/claim/cut.py" 172)⟩, ⟨PyData.keyHash P "__cached__", (.str "__cached__" 174), .none⟩, ⟨PyData.keyHash P "_sre", (.str "_sre" 275), (.ref 12)⟩, ⟨PyData.keyHash P "_wall", (.str "_wall" 288), (.ref 38)⟩, ⟨PyData.keyHash P "COMPILER_FLAG_NAMES", (.str "COMPILER_FLAG_NAMES" 321), (.ref 39)⟩, ⟨PyData.keyHash P "pretty_flags", (.str "pretty_flags" 331), (.ref 46)⟩, ⟨PyData.keyHash P "_netrclex", (.str "_netrclex" 391), (.ref 84)⟩, ⟨PyData.keyHash P "b1_set", (.str "b1_set" 453), (.ref 96)⟩, ⟨PyData.keyHash P "in_table_b1", (.str "in_table_b1" 460), (.ref 106)⟩, ⟨PyData.keyHash P "b3_exceptions", (.str "b3_exceptions" 2411), (.ref 107)⟩, ⟨PyData.keyHash P "map_table_b3", (.str "map_table_b3" 2419), (.ref 152)⟩, ⟨PyData.keyHash P "_twin_re_1", (.str "_twin_re_1" 2459), (.ref 157)⟩]) 19), #[]⟩
noncomputable def o29i (P : Params) : Obj := ⟨.none, none, (.fields (lst [(.int (2) 0), (.int (0) 0), (.ref 37), (.int (7) 0), (.int (0) 0), (.ref 45), (.int (20) 0), (.int (0) 0), (.ref 52), (.int (65) 0), (.int (0) 0), (.ref 105), (.int (68) 0), (.int (0) 0), (.ref 151)])), #[]⟩
noncomputable def o146i (P : Params) : Obj := ⟨(.type "tuple"), none, (.seq (lst []) 0), #[]⟩
noncomputable def o147i (P : Params) : Obj := ⟨.none, none, (.fields (lst [])), #[]⟩
noncomputable def o148i (P : Params) : Obj := ⟨(.type "tuple"), none, (.seq (lst [(.str "code" 2415), (.str "r" 2416)]) 0), #[]⟩
noncomputable def o149i (P : Params) : Obj := ⟨(.type "tuple"), none, (.seq (lst []) 0), #[]⟩
noncomputable def o150i (P : Params) : Obj := ⟨.none, none, (.func (fdZ (stm 11) "map_table_b3" "map_table_b3")), #[]⟩
noncomputable def o151i (P : Params) : Obj := ⟨(.type "code"), none, (.fields (lst [(.str "map_table_b3" 2412), (.str "map_table_b3" 2413), (.str "/claim/cut.py" 2414), (.int (68) 0), (.int (1) 0), (.int (0) 0), (.int (0) 0), (.int (3) 0), (.ref 146), (.bool true), (.int (276) 0), (.ref 147), .none, (.ref 148), (.ref 149), (.ref 150), (.int (2417) 0), (.int (68) 0), (.str "/claim/cut.py" 2418)])), #[]⟩
noncomputable def o152i (P : Params) : Obj := ⟨(.type "function"), none, (.func (fdOf (stm 11) "map_table_b3" "map_table_b3" (.str "cpy313.stringprep" 392) 151 .none .none)), #[]⟩
noncomputable def o153i (P : Params) : Obj := ⟨(.type "list"), none, (.seq (lst [(.int (14) 2425), (.int (4) 2426), (.int (0) 2427), (.int (3) 2428), (.int (4294967295) 2429), (.int (6) 2430), (.int (0) 2431), (.int (24) 2432), (.int (9) 2433), (.int (1) 2434), (.int (4294967295) 2435), (.int (13) 2436), (.int (4) 2437), (.int (8) 2438), (.int (14) 2439), (.int (0) 2440), (.int (1) 2441), (.int (16) 2442), (.int (58) 2443), (.int (24) 2444), (.int (9) 2445), (.int (1) 2446), (.int (4294967295) 2447), (.int (13) 2448), (.int (4) 2449), (.int (8) 2450), (.int (14) 2451), (.int (0) 2452), (.int (1) 2453), (.int (6) 2454), (.int (5) 2455), (.int (1) 2456)]) 0), #[]⟩
noncomputable def o154i (P : Params) : Obj := ⟨(.type "dict"), none, (.dict (den []) 0), #[]⟩
noncomputable def o155i (P : Params) : Obj := ⟨(.type "tuple"), none, (.seq (lst [.none]) 0), #[]⟩
noncomputable def o156i (P : Params) : Obj := ⟨(.type "tuple"), none, (.seq (lst [(.int (14) 0), (.int (4) 0), (.int (0) 0), (.int (3) 0), (.int (4294967295) 0), (.int (6) 0), (.int (0) 0), (.int (24) 0), (.int (9) 0), (.int (1) 0), (.int (4294967295) 0), (.int (13) 0), (.int (4) 0), (.int (8) 0), (.int (14) 0), (.int (0) 0), (.int (1) 0), (.int (16) 0), (.int (58) 0), (.int (24) 0), (.int (9) 0), (.int (1) 0), (.int (4294967295) 0), (.int (13) 0), (.int (4) 0), (.int (8) 0), (.int (14) 0), (.int (0) 0), (.int (1) 0), (.int (6) 0), (.int (5) 0), (.int (1) 0)]) 0), #[]⟩
noncomputable def o157i (P : Params) : Obj := ⟨(.type "re.Pattern"), none, (.fields (lst [(.str "^\\w+:\\w+$" 2423), (.int (32) 2458), (.int (0) 0), .none, .none, (.ref 156), (.int (0) 0)])), #[]⟩
noncomputable def o3j (P : Params) : Obj := ⟨(.type "dict"), none, (.dict (den [⟨PyData.keyHash P "__name__", (.str "__name__" 165), (.str "cpy313.xml.etree.ElementTree" 2420)⟩, ⟨PyData.keyHash P "__doc__", (.str "__doc__" 166), .none⟩, ⟨PyData.keyHash P "__package__", (.str "__package__" 167), .none⟩, ⟨PyData.keyHash P "__loader__", (.str "__loader__" 168), (.builtin "__main__.__loader__#opaque")⟩, ⟨PyData.keyHash P "__spec__", (.str "__spec__" 169), .none⟩, ⟨PyData.keyHash P "__annotations__", (.str "__annotations__" 170), (.ref 6)⟩, ⟨PyData.keyHash P "__builtins__", (.str "__builtins__" 171), (.ref 4)⟩, ⟨PyData.keyHash P "__file__", (.str "__file__" 173), (.str "/claim/cut.py" 172)⟩, ⟨PyData.keyHash P "__cached__", (.str "__cached__" 174), .none⟩, ⟨PyData.keyHash P "_sre", (.str "_sre" 275), (.ref 12)⟩, ⟨PyData.keyHash P "_wall", (.str "_wall" 288), (.ref 38)⟩, ⟨PyData.keyHash P "COMPILER_FLAG_NAMES", (.str "COMPILER_FLAG_NAMES" 321), (.ref 39)⟩, ⟨PyData.keyHash P "pretty_flags", (.str "pretty_flags" 331), (.ref 46)⟩, ⟨PyData.keyHash P "_netrclex", (.str "_netrclex" 391), (.ref 84)⟩, ⟨PyData.keyHash P "b1_set", (.str "b1_set" 453), (.ref 96)⟩, ⟨PyData.keyHash P "in_table_b1", (.str "in_table_b1" 460), (.ref 106)⟩, ⟨PyData.keyHash P "b3_exceptions", (.str "b3_exceptions" 2411), (.ref 107)⟩, ⟨PyData.keyHash P "map_table_b3", (.str "map_table_b3" 2419), (.ref 152)⟩, ⟨PyData.keyHash P "_twin_re_1", (.str "_twin_re_1" 2459), (.ref 157)⟩, ⟨PyData.keyHash P "_namespace_map", (.str "_namespace_map" 2481), (.ref 158)⟩]) 20), #[]⟩
noncomputable def o158j (P : Params) : Obj := ⟨(.type "dict"), none, (.dict (den [⟨PyData.keyHash P "http://www.w3.org/XML/1998/namespace", (.str "http://www.w3.org/XML/1998/namespace" 2460), (.str "xml" 2461)⟩, ⟨PyData.keyHash P "http://www.w3.org/1999/xhtml", (.str "http://www.w3.org/1999/xhtml" 2462), (.str "html" 2463)⟩, ⟨PyData.keyHash P "http://www.w3.org/1999/02/22-rdf-syntax-ns#", (.str "http://www.w3.org/1999/02/22-rdf-syntax-ns#" 2464), (.str "rdf" 2465)⟩, ⟨PyData.keyHash P "http://schemas.xmlsoap.org/wsdl/", (.str "http://schemas.xmlsoap.org/wsdl/" 2466), (.str "wsdl" 2467)⟩, ⟨PyData.keyHash P "http://www.w3.org/2001/XMLSchema", (.str "http://www.w3.org/2001/XMLSchema" 2468), (.str "xs" 2469)⟩, ⟨PyData.keyHash P "http://www.w3.org/2001/XMLSchema-instance", (.str "http://www.w3.org/2001/XMLSchema-instance" 2470), (.str "xsi" 2471)⟩, ⟨PyData.keyHash P "http://purl.org/dc/elements/1.1/", (.str "http://purl.org/dc/elements/1.1/" 2472), (.str "dc" 2473)⟩]) 7), #[]⟩
noncomputable def o3k (P : Params) : Obj := ⟨(.type "dict"), none, (.dict (den [⟨PyData.keyHash P "__name__", (.str "__name__" 165), (.str "cpy313.xml.etree.ElementTree" 2420)⟩, ⟨PyData.keyHash P "__doc__", (.str "__doc__" 166), .none⟩, ⟨PyData.keyHash P "__package__", (.str "__package__" 167), .none⟩, ⟨PyData.keyHash P "__loader__", (.str "__loader__" 168), (.builtin "__main__.__loader__#opaque")⟩, ⟨PyData.keyHash P "__spec__", (.str "__spec__" 169), .none⟩, ⟨PyData.keyHash P "__annotations__", (.str "__annotations__" 170), (.ref 6)⟩, ⟨PyData.keyHash P "__builtins__", (.str "__builtins__" 171), (.ref 4)⟩, ⟨PyData.keyHash P "__file__", (.str "__file__" 173), (.str "/claim/cut.py" 172)⟩, ⟨PyData.keyHash P "__cached__", (.str "__cached__" 174), .none⟩, ⟨PyData.keyHash P "_sre", (.str "_sre" 275), (.ref 12)⟩, ⟨PyData.keyHash P "_wall", (.str "_wall" 288), (.ref 38)⟩, ⟨PyData.keyHash P "COMPILER_FLAG_NAMES", (.str "COMPILER_FLAG_NAMES" 321), (.ref 39)⟩, ⟨PyData.keyHash P "pretty_flags", (.str "pretty_flags" 331), (.ref 46)⟩, ⟨PyData.keyHash P "_netrclex", (.str "_netrclex" 391), (.ref 84)⟩, ⟨PyData.keyHash P "b1_set", (.str "b1_set" 453), (.ref 96)⟩, ⟨PyData.keyHash P "in_table_b1", (.str "in_table_b1" 460), (.ref 106)⟩, ⟨PyData.keyHash P "b3_exceptions", (.str "b3_exceptions" 2411), (.ref 107)⟩, ⟨PyData.keyHash P "map_table_b3", (.str "map_table_b3" 2419), (.ref 152)⟩, ⟨PyData.keyHash P "_twin_re_1", (.str "_twin_re_1" 2459), (.ref 157)⟩, ⟨PyData.keyHash P "_namespace_map", (.str "_namespace_map" 2481), (.ref 158)⟩, ⟨PyData.keyHash P "_raise_serialization_error", (.str "_raise_serialization_error" 2488), (.ref 165)⟩, ⟨PyData.keyHash P "_looks_like_prefix_name", (.str "_looks_like_prefix_name" 2490), (.ref 166)⟩]) 22), #[]⟩
noncomputable def o29k (P : Params) : Obj := ⟨.none, none, (.fields (lst [(.int (2) 0), (.int (0) 0), (.ref 37), (.int (7) 0), (.int (0) 0), (.ref 45), (.int (20) 0), (.int (0) 0), (.ref 52), (.int (65) 0), (.int (0) 0), (.ref 105), (.int (68) 0), (.int (0) 0), (.ref 151), (.int (76) 0), (.int (0) 0), (.ref 164)])), #[]⟩
noncomputable def o159k (P : Params) : Obj := ⟨(.type "tuple"), none, (.seq (lst []) 0), #[]⟩
noncomputable def o160k (P : Params) : Obj := ⟨.none, none, (.fields (lst [])), #[]⟩
noncomputable def o161k (P : Params) : Obj := ⟨(.type "tuple"), none, (.seq (lst [(.str "text" 2485)]) 0), #[]⟩
noncomputable def o162k (P : Params) : Obj := ⟨(.type "tuple"), none, (.seq (lst []) 0), #[]⟩
noncomputable def o163k (P : Params) : Obj := ⟨.none, none, (.func (fdZ (stm 15) "_raise_serialization_error" "_raise_serialization_error")), #[]⟩
noncomputable def o164k (P : Params) : Obj := ⟨(.type "code"), none, (.fields (lst [(.str "_raise_serialization_error" 2482), (.str "_raise_serialization_error" 2483), (.str "/claim/cut.py" 2484), (.int (76) 0), (.int (1) 0), (.int (0) 0), (.int (0) 0), (.int (3) 0), (.ref 159), (.bool true), (.int (276) 0), (.ref 160), .none, (.ref 161), (.ref 162), (.ref 163), (.int (2486) 0), (.int (76) 0), (.str "/claim/cut.py" 2487)])), #[]⟩
noncomputable def o165k (P : Params) : Obj := ⟨(.type "function"), none, (.func (fdOf (stm 15) "_raise_serialization_error" "_raise_serialization_error" (.str "cpy313.xml.etree.ElementTree" 2420) 164 .none .none)), #[]⟩
noncomputable def o166k (P : Params) : Obj := ⟨(.type "builtin_function_or_method"), none, (.fields (lst [(.builtin "re.Pattern.match"), (.ref 157)])), #[]⟩
noncomputable def o3l (P : Params) : Obj := ⟨(.type "dict"), none, (.dict (den [⟨PyData.keyHash P "__name__", (.str "__name__" 165), (.str "cpy313.xml.etree.ElementTree" 2420)⟩, ⟨PyData.keyHash P "__doc__", (.str "__doc__" 166), .none⟩, ⟨PyData.keyHash P "__package__", (.str "__package__" 167), .none⟩, ⟨PyData.keyHash P "__loader__", (.str "__loader__" 168), (.builtin "__main__.__loader__#opaque")⟩, ⟨PyData.keyHash P "__spec__", (.str "__spec__" 169), .none⟩, ⟨PyData.keyHash P "__annotations__", (.str "__annotations__" 170), (.ref 6)⟩, ⟨PyData.keyHash P "__builtins__", (.str "__builtins__" 171), (.ref 4)⟩, ⟨PyData.keyHash P "__file__", (.str "__file__" 173), (.str "/claim/cut.py" 172)⟩, ⟨PyData.keyHash P "__cached__", (.str "__cached__" 174), .none⟩, ⟨PyData.keyHash P "_sre", (.str "_sre" 275), (.ref 12)⟩, ⟨PyData.keyHash P "_wall", (.str "_wall" 288), (.ref 38)⟩, ⟨PyData.keyHash P "COMPILER_FLAG_NAMES", (.str "COMPILER_FLAG_NAMES" 321), (.ref 39)⟩, ⟨PyData.keyHash P "pretty_flags", (.str "pretty_flags" 331), (.ref 46)⟩, ⟨PyData.keyHash P "_netrclex", (.str "_netrclex" 391), (.ref 84)⟩, ⟨PyData.keyHash P "b1_set", (.str "b1_set" 453), (.ref 96)⟩, ⟨PyData.keyHash P "in_table_b1", (.str "in_table_b1" 460), (.ref 106)⟩, ⟨PyData.keyHash P "b3_exceptions", (.str "b3_exceptions" 2411), (.ref 107)⟩, ⟨PyData.keyHash P "map_table_b3", (.str "map_table_b3" 2419), (.ref 152)⟩, ⟨PyData.keyHash P "_twin_re_1", (.str "_twin_re_1" 2459), (.ref 157)⟩, ⟨PyData.keyHash P "_namespace_map", (.str "_namespace_map" 2481), (.ref 158)⟩, ⟨PyData.keyHash P "_raise_serialization_error", (.str "_raise_serialization_error" 2488), (.ref 165)⟩, ⟨PyData.keyHash P "_looks_like_prefix_name", (.str "_looks_like_prefix_name" 2490), (.ref 166)⟩, ⟨PyData.keyHash P "C14NWriterTarget", (.str "C14NWriterTarget" 2655), (.ref 264)⟩]) 23), #[]⟩
noncomputable def o29l (P : Params) : Obj := ⟨.none, none, (.fields (lst [(.int (2) 0), (.int (0) 0), (.ref 37), (.int (7) 0), (.int (0) 0), (.ref 45), (.int (20) 0), (.int (0) 0), (.ref 52), (.int (65) 0), (.int (0) 0), (.ref 105), (.int (68) 0), (.int (0) 0), (.ref 151), (.int (76) 0), (.int (0) 0), (.ref 164), (.int (79) 0), (.int (0) 0), (.ref 172)])), #[]⟩
noncomputable def o167l (P : Params) : Obj := ⟨(.type "tuple"), none, (.seq (lst []) 0), #[]⟩
noncomputable def o168l (P : Params) : Obj := ⟨(.type "builtin_function_or_method"), none, (.fields (lst [(.builtin "type.__prepare__"), (.type "type")])), #[]⟩
noncomputable def o169l (P : Params) : Obj := ⟨(.type "dict"), none, (.dict (den [⟨PyData.keyHash P "__module__", (.str "__module__" 2498), (.str "cpy313.xml.etree.ElementTree" 2420)⟩, ⟨PyData.keyHash P "__qualname__", (.str "__qualname__" 2500), (.str "C14NWriterTarget" 2499)⟩, ⟨PyData.keyHash P "__firstlineno__", (.str "__firstlineno__" 2502), (.int (79) 2501)⟩, ⟨PyData.keyHash P "__init__", (.str "__init__" 2524), (.ref 181)⟩, ⟨PyData.keyHash P "_iter_namespaces", (.str "_iter_namespaces" 2534), (.ref 189)⟩, ⟨PyData.keyHash P "_resolve_prefix_name", (.str "_resolve_prefix_name" 2546), (.ref 196)⟩, ⟨PyData.keyHash P "_qname", (.str "_qname" 2559), (.ref 204)⟩, ⟨PyData.keyHash P "data", (.str "data" 2567), (.ref 211)⟩, ⟨PyData.keyHash P "_flush", (.str "_flush" 2580), (.ref 220)⟩, ⟨PyData.keyHash P "start_ns", (.str "start_ns" 2589), (.ref 227)⟩, ⟨PyData.keyHash P "start", (.str "start" 2599), (.ref 234)⟩, ⟨PyData.keyHash P "_start", (.str "_start" 2605), (.ref 240)⟩, ⟨PyData.keyHash P "end", (.str "end" 2613), (.ref 247)⟩, ⟨PyData.keyHash P "comment", (.str "comment" 2621), (.ref 254)⟩, ⟨PyData.keyHash P "pi", (.str "pi" 2630), (.ref 261)⟩, ⟨PyData.keyHash P "__static_attributes__", (.str "__static_attributes__" 2648), (.ref 262)⟩]) 16), #[]⟩
noncomputable def o170l (P : Params) : Obj := ⟨(.type "tuple"), none, (.seq (lst []) 0), #[]⟩
noncomputable def o171l (P : Params) : Obj := ⟨.none, none, (.fields (lst [(.int (81) 0), (.int (4) 0), (.ref 180), (.int (109) 0), (.int (4) 0), (.ref 188), (.int (114) 0), (.int (4) 0), (.ref 195), (.int (121) 0), (.int (4) 0), (.ref 203), (.int (148) 0), (.int (4) 0), (.ref 210), (.int (152) 0), (.int (4) 0), (.ref 219), (.int (166) 0), (.int (4) 0), (.ref 226), (.int (169) 0), (.int (4) 0), (.ref 233), (.int (182) 0), (.int (4) 0), (.ref 239), (.int (227) 0), (.int (4) 0), (.ref 246), (.int (239) 0), (.int (4) 0), (.ref 253), (.int (242) 0), (.int (4) 0), (.ref 260)])), #[]⟩
noncomputable def o172l (P : Params) : Obj := ⟨(.type "code"), none, (.fields (lst [(.str "C14NWriterTarget" 2493), (.str "C14NWriterTarget" 2494), (.str "/claim/cut.py" 2495), (.int (79) 0), (.int (0) 0), (.int (0) 0), (.int (0) 0), (.int (0) 0), (.ref 170), (.bool false), (.int (276) 0), (.ref 171), .none, .none, .none, .none, (.int (2496) 0), (.int (79) 0), (.str "/claim/cut.py" 2497)])), #[]⟩
noncomputable def o173l (P : Params) : Obj := ⟨(.type "frame"), none, .plain, (ols [(some (.ref 172)), (some (.ref 3)), (some (.ref 169)), none, (some (.str "cpy313.xml.etree.ElementTree" 2420)), none, (some (.ref 0))])⟩
noncomputable def o174l (P : Params) : Obj := ⟨(.type "dict"), none, (.dict (den [⟨PyData.keyHash P "with_comments", (.str "with_comments" 2503), (.bool false)⟩, ⟨PyData.keyHash P "strip_text", (.str "strip_text" 2504), (.bool false)⟩, ⟨PyData.keyHash P "rewrite_prefixes", (.str "rewrite_prefixes" 2505), (.bool false)⟩, ⟨PyData.keyHash P "qname_aware_tags", (.str "qname_aware_tags" 2506), .none⟩, ⟨PyData.keyHash P "qname_aware_attrs", (.str "qname_aware_attrs" 2507), .none⟩, ⟨PyData.keyHash P "exclude_attrs", (.str "exclude_attrs" 2508), .none⟩, ⟨PyData.keyHash P "exclude_tags", (.str "exclude_tags" 2509), .none⟩]) 7), #[]⟩
noncomputable def o175l (P : Params) : Obj := ⟨(.type "tuple"), none, (.seq (lst []) 0), #[]⟩
noncomputable def o176l (P : Params) : Obj := ⟨.none, none, (.fields (lst [])), #[]⟩
noncomputable def o177l (P : Params) : Obj := ⟨(.type "tuple"), none, (.seq (lst [(.str "self" 2513), (.str "write" 2514), (.str "with_comments" 2515), (.str "strip_text" 2516), (.str "rewrite_prefixes" 2517), (.str "qname_aware_tags" 2518), (.str "qname_aware_attrs" 2519), (.str "exclude_attrs" 2520), (.str "exclude_tags" 2521)]) 0), #[]⟩
noncomputable def o178l (P : Params) : Obj := ⟨(.type "tuple"), none, (.seq (lst []) 0), #[]⟩
noncomputable def o179l (P : Params) : Obj := ⟨.none, none, (.func (fdZ (mth 17 0) "__init__" "C14NWriterTarget.__init__")), #[]⟩
noncomputable def o180l (P : Params) : Obj := ⟨(.type "code"), none, (.fields (lst [(.str "__init__" 2510), (.str "C14NWriterTarget.__init__" 2511), (.str "/claim/cut.py" 2512), (.int (81) 0), (.int (2) 0), (.int (0) 0), (.int (7) 0), (.int (3) 0), (.ref 175), (.bool true), (.int (276) 0), (.ref 176), .none, (.ref 177), (.ref 178), (.ref 179), (.int (2522) 0), (.int (81) 0), (.str "/claim/cut.py" 2523)])), #[]⟩
noncomputable def o181l (P : Params) : Obj := ⟨(.type "function"), none, (.func (fdOf (mth 17 0) "__init__" "C14NWriterTarget.__init__" (.str "cpy313.xml.etree.ElementTree" 2420) 180 .none (.ref 174))), #[]⟩
noncomputable def o182l (P : Params) : Obj := ⟨(.type "tuple"), none, (.seq (lst [(.type "reversed")]) 0), #[]⟩
noncomputable def o183l (P : Params) : Obj := ⟨(.type "tuple"), none, (.seq (lst []) 0), #[]⟩
noncomputable def o184l (P : Params) : Obj := ⟨.none, none, (.fields (lst [])), #[]⟩
noncomputable def o185l (P : Params) : Obj := ⟨(.type "tuple"), none, (.seq (lst [(.str "self" 2528), (.str "ns_stack" 2529), (.str "_reversed" 2530), (.str "namespaces" 2531)]) 0), #[]⟩
noncomputable def o186l (P : Params) : Obj := ⟨(.type "tuple"), none, (.seq (lst []) 0), #[]⟩
noncomputable def o187l (P : Params) : Obj := ⟨.none, none, (.func (fdZ (mth 17 1) "_iter_namespaces" "C14NWriterTarget._iter_namespaces")), #[]⟩
noncomputable def o188l (P : Params) : Obj := ⟨(.type "code"), none, (.fields (lst [(.str "_iter_namespaces" 2525), (.str "C14NWriterTarget._iter_namespaces" 2526), (.str "/claim/cut.py" 2527), (.int (109) 0), (.int (3) 0), (.int (0) 0), (.int (0) 0), (.int (35) 0), (.ref 183), (.bool true), (.int (276) 0), (.ref 184), .none, (.ref 185), (.ref 186), (.ref 187), (.int (2532) 0), (.int (109) 0), (.str "/claim/cut.py" 2533)])), #[]⟩
noncomputable def o189l (P : Params) : Obj := ⟨(.type "function"), none, (.func (fdOf (mth 17 1) "_iter_namespaces" "C14NWriterTarget._iter_namespaces" (.str "cpy313.xml.etree.ElementTree" 2420) 188 (.ref 182) .none)), #[]⟩
noncomputable def o190l (P : Params) : Obj := ⟨(.type "tuple"), none, (.seq (lst []) 0), #[]⟩
noncomputable def o191l (P : Params) : Obj := ⟨.none, none, (.fields (lst [])), #[]⟩
noncomputable def o192l (P : Params) : Obj := ⟨(.type "tuple"), none, (.seq (lst [(.str "self" 2538), (.str "prefixed_name" 2539), (.str "prefix" 2540), (.str "name" 2541), (.str "uri" 2542), (.str "p" 2543)]) 0), #[]⟩
noncomputable def o193l (P : Params) : Obj := ⟨(.type "tuple"), none, (.seq (lst []) 0), #[]⟩
noncomputable def o194l (P : Params) : Obj := ⟨.none, none, (.func (fdZ (mth 17 2) "_resolve_prefix_name" "C14NWriterTarget._resolve_prefix_name")), #[]⟩
noncomputable def o195l (P : Params) : Obj := ⟨(.type "code"), none, (.fields (lst [(.str "_resolve_prefix_name" 2535), (.str "C14NWriterTarget._resolve_prefix_name" 2536), (.str "/claim/cut.py" 2537), (.int (114) 0), (.int (2) 0), (.int (0) 0), (.int (0) 0), (.int (3) 0), (.ref 190), (.bool true), (.int (276) 0), (.ref 191), .none, (.ref 192), (.ref 193), (.ref 194), (.int (2544) 0), (.int (114) 0), (.str "/claim/cut.py" 2545)])), #[]⟩
noncomputable def o196l (P : Params) : Obj := ⟨(.type "function"), none, (.func (fdOf (mth 17 2) "_resolve_prefix_name" "C14NWriterTarget._resolve_prefix_name" (.str "cpy313.xml.etree.ElementTree" 2420) 195 .none .none)), #[]⟩
noncomputable def o197l (P : Params) : Obj := ⟨(.type "tuple"), none, (.seq (lst [.none]) 0), #[]⟩
noncomputable def o198l (P : Params) : Obj := ⟨(.type "tuple"), none, (.seq (lst []) 0), #[]⟩
noncomputable def o199l (P : Params) : Obj := ⟨.none, none, (.fields (lst [])), #[]⟩
noncomputable def o200l (P : Params) : Obj := ⟨(.type "tuple"), none, (.seq (lst [(.str "self" 2550), (.str "qname" 2551), (.str "uri" 2552), (.str "tag" 2553), (.str "prefixes_seen" 2554), (.str "u" 2555), (.str "prefix" 2556)]) 0), #[]⟩
noncomputable def o201l (P : Params) : Obj := ⟨(.type "tuple"), none, (.seq (lst []) 0), #[]⟩
noncomputable def o202l (P : Params) : Obj := ⟨.none, none, (.func (fdZ (mth 17 3) "_qname" "C14NWriterTarget._qname")), #[]⟩
noncomputable def o203l (P : Params) : Obj := ⟨(.type "code"), none, (.fields (lst [(.str "_qname" 2547), (.str "C14NWriterTarget._qname" 2548), (.str "/claim/cut.py" 2549), (.int (121) 0), (.int (3) 0), (.int (0) 0), (.int (0) 0), (.int (3) 0), (.ref 198), (.bool true), (.int (276) 0), (.ref 199), .none, (.ref 200), (.ref 201), (.ref 202), (.int (2557) 0), (.int (121) 0), (.str "/claim/cut.py" 2558)])), #[]⟩
noncomputable def o204l (P : Params) : Obj := ⟨(.type "function"), none, (.func (fdOf (mth 17 3) "_qname" "C14NWriterTarget._qname" (.str "cpy313.xml.etree.ElementTree" 2420) 203 (.ref 197) .none)), #[]⟩
noncomputable def o205l (P : Params) : Obj := ⟨(.type "tuple"), none, (.seq (lst []) 0), #[]⟩
noncomputable def o206l (P : Params) : Obj := ⟨.none, none, (.fields (lst [])), #[]⟩
noncomputable def o207l (P : Params) : Obj := ⟨(.type "tuple"), none, (.seq (lst [(.str "self" 2563), (.str "data" 2564)]) 0), #[]⟩
noncomputable def o208l (P : Params) : Obj := ⟨(.type "tuple"), none, (.seq (lst []) 0), #[]⟩
noncomputable def o209l (P : Params) : Obj := ⟨.none, none, (.func (fdZ (mth 17 4) "data" "C14NWriterTarget.data")), #[]⟩
noncomputable def o210l (P : Params) : Obj := ⟨(.type "code"), none, (.fields (lst [(.str "data" 2560), (.str "C14NWriterTarget.data" 2561), (.str "/claim/cut.py" 2562), (.int (148) 0), (.int (2) 0), (.int (0) 0), (.int (0) 0), (.int (3) 0), (.ref 205), (.bool true), (.int (276) 0), (.ref 206), .none, (.ref 207), (.ref 208), (.ref 209), (.int (2565) 0), (.int (148) 0), (.str "/claim/cut.py" 2566)])), #[]⟩
noncomputable def o211l (P : Params) : Obj := ⟨(.type "function"), none, (.func (fdOf (mth 17 4) "data" "C14NWriterTarget.data" (.str "cpy313.xml.etree.ElementTree" 2420) 210 .none .none)), #[]⟩
noncomputable def o212l (P : Params) : Obj := ⟨(.type "builtin_function_or_method"), none, (.fields (lst [(.builtin "str.join"), (.str "" 2568)])), #[]⟩
noncomputable def o213l (P : Params) : Obj := ⟨(.type "tuple"), none, (.seq (lst [(.ref 212)]) 0), #[]⟩
noncomputable def o214l (P : Params) : Obj := ⟨(.type "tuple"), none, (.seq (lst []) 0), #[]⟩
noncomputable def o215l (P : Params) : Obj := ⟨.none, none, (.fields (lst [])), #[]⟩
noncomputable def o216l (P : Params) : Obj := ⟨(.type "tuple"), none, (.seq (lst [(.str "self" 2573), (.str "_join_text" 2574), (.str "data" 2575), (.str "args" 2576), (.str "qname_text" 2577)]) 0), #[]⟩
noncomputable def o217l (P : Params) : Obj := ⟨(.type "tuple"), none, (.seq (lst []) 0), #[]⟩
noncomputable def o218l (P : Params) : Obj := ⟨.none, none, (.func (fdZ (mth 17 5) "_flush" "C14NWriterTarget._flush")), #[]⟩
noncomputable def o219l (P : Params) : Obj := ⟨(.type "code"), none, (.fields (lst [(.str "_flush" 2570), (.str "C14NWriterTarget._flush" 2571), (.str "/claim/cut.py" 2572), (.int (152) 0), (.int (2) 0), (.int (0) 0), (.int (0) 0), (.int (3) 0), (.ref 214), (.bool true), (.int (276) 0), (.ref 215), .none, (.ref 216), (.ref 217), (.ref 218), (.int (2578) 0), (.int (152) 0), (.str "/claim/cut.py" 2579)])), #[]⟩
noncomputable def o220l (P : Params) : Obj := ⟨(.type "function"), none, (.func (fdOf (mth 17 5) "_flush" "C14NWriterTarget._flush" (.str "cpy313.xml.etree.ElementTree" 2420) 219 (.ref 213) .none)), #[]⟩
noncomputable def o221l (P : Params) : Obj := ⟨(.type "tuple"), none, (.seq (lst []) 0), #[]⟩
noncomputable def o222l (P : Params) : Obj := ⟨.none, none, (.fields (lst [])), #[]⟩
noncomputable def o223l (P : Params) : Obj := ⟨(.type "tuple"), none, (.seq (lst [(.str "self" 2584), (.str "prefix" 2585), (.str "uri" 2586)]) 0), #[]⟩
noncomputable def o224l (P : Params) : Obj := ⟨(.type "tuple"), none, (.seq (lst []) 0), #[]⟩
noncomputable def o225l (P : Params) : Obj := ⟨.none, none, (.func (fdZ (mth 17 6) "start_ns" "C14NWriterTarget.start_ns")), #[]⟩
noncomputable def o226l (P : Params) : Obj := ⟨(.type "code"), none, (.fields (lst [(.str "start_ns" 2581), (.str "C14NWriterTarget.start_ns" 2582), (.str "/claim/cut.py" 2583), (.int (166) 0), (.int (3) 0), (.int (0) 0), (.int (0) 0), (.int (3) 0), (.ref 221), (.bool true), (.int (276) 0), (.ref 222), .none, (.ref 223), (.ref 224), (.ref 225), (.int (2587) 0), (.int (166) 0), (.str "/claim/cut.py" 2588)])), #[]⟩
noncomputable def o227l (P : Params) : Obj := ⟨(.type "function"), none, (.func (fdOf (mth 17 6) "start_ns" "C14NWriterTarget.start_ns" (.str "cpy313.xml.etree.ElementTree" 2420) 226 .none .none)), #[]⟩
noncomputable def o228l (P : Params) : Obj := ⟨(.type "tuple"), none, (.seq (lst []) 0), #[]⟩
noncomputable def o229l (P : Params) : Obj := ⟨.none, none, (.fields (lst [])), #[]⟩
noncomputable def o230l (P : Params) : Obj := ⟨(.type "tuple"), none, (.seq (lst [(.str "self" 2593), (.str "tag" 2594), (.str "attrs" 2595), (.str "new_namespaces" 2596)]) 0), #[]⟩
noncomputable def o231l (P : Params) : Obj := ⟨(.type "tuple"), none, (.seq (lst []) 0), #[]⟩
noncomputable def o232l (P : Params) : Obj := ⟨.none, none, (.func (fdZ (mth 17 7) "start" "C14NWriterTarget.start")), #[]⟩
noncomputable def o233l (P : Params) : Obj := ⟨(.type "code"), none, (.fields (lst [(.str "start" 2590), (.str "C14NWriterTarget.start" 2591), (.str "/claim/cut.py" 2592), (.int (169) 0), (.int (3) 0), (.int (0) 0), (.int (0) 0), (.int (3) 0), (.ref 228), (.bool true), (.int (276) 0), (.ref 229), .none, (.ref 230), (.ref 231), (.ref 232), (.int (2597) 0), (.int (169) 0), (.str "/claim/cut.py" 2598)])), #[]⟩
noncomputable def o234l (P : Params) : Obj := ⟨(.type "function"), none, (.func (fdOf (mth 17 7) "start" "C14NWriterTarget.start" (.str "cpy313.xml.etree.ElementTree" 2420) 233 .none .none)), #[]⟩
noncomputable def o235l (P : Params) : Obj := ⟨(.type "tuple"), none, (.seq (lst [.none]) 0), #[]⟩
noncomputable def o236l (P : Params) : Obj := ⟨(.type "tuple"), none, (.seq (lst []) 0), #[]⟩
noncomputable def o237l (P : Params) : Obj := ⟨.none, none, (.fields (lst [])), #[]⟩
noncomputable def o238l (P : Params) : Obj := ⟨.none, none, (.func (fdZ (mth 17 8) "_start" "C14NWriterTarget._start")), #[]⟩
noncomputable def o239l (P : Params) : Obj := ⟨(.type "code"), none, (.fields (lst [(.str "_start" 2600), (.str "C14NWriterTarget._start" 2601), (.str "/claim/cut.py" 2602), (.int (182) 0), (.int (5) 0), (.int (0) 0), (.int (0) 0), (.int (3) 0), (.ref 236), (.bool true), (.int (276) 0), (.ref 237), .none, .none, .none, (.ref 238), (.int (2603) 0), (.int (182) 0), (.str "/claim/cut.py" 2604)])), #[]⟩
noncomputable def o240l (P : Params) : Obj := ⟨(.type "function"), none, (.func (fdOf (mth 17 8) "_start" "C14NWriterTarget._start" (.str "cpy313.xml.etree.ElementTree" 2420) 239 (.ref 235) .none)), #[]⟩
noncomputable def o241l (P : Params) : Obj := ⟨(.type "tuple"), none, (.seq (lst []) 0), #[]⟩
noncomputable def o242l (P : Params) : Obj := ⟨.none, none, (.fields (lst [])), #[]⟩
noncomputable def o243l (P : Params) : Obj := ⟨(.type "tuple"), none, (.seq (lst [(.str "self" 2609), (.str "tag" 2610)]) 0), #[]⟩
noncomputable def o244l (P : Params) : Obj := ⟨(.type "tuple"), none, (.seq (lst []) 0), #[]⟩
noncomputable def o245l (P : Params) : Obj := ⟨.none, none, (.func (fdZ (mth 17 9) "end" "C14NWriterTarget.end")), #[]⟩
noncomputable def o246l (P : Params) : Obj := ⟨(.type "code"), none, (.fields (lst [(.str "end" 2606), (.str "C14NWriterTarget.end" 2607), (.str "/claim/cut.py" 2608), (.int (227) 0), (.int (2) 0), (.int (0) 0), (.int (0) 0), (.int (3) 0), (.ref 241), (.bool true), (.int (276) 0), (.ref 242), .none, (.ref 243), (.ref 244), (.ref 245), (.int (2611) 0), (.int (227) 0), (.str "/claim/cut.py" 2612)])), #[]⟩
noncomputable def o247l (P : Params) : Obj := ⟨(.type "function"), none, (.func (fdOf (mth 17 9) "end" "C14NWriterTarget.end" (.str "cpy313.xml.etree.ElementTree" 2420) 246 .none .none)), #[]⟩
noncomputable def o248l (P : Params) : Obj := ⟨(.type "tuple"), none, (.seq (lst []) 0), #[]⟩
noncomputable def o249l (P : Params) : Obj := ⟨.none, none, (.fields (lst [])), #[]⟩
noncomputable def o250l (P : Params) : Obj := ⟨(.type "tuple"), none, (.seq (lst [(.str "self" 2617), (.str "text" 2618)]) 0), #[]⟩
noncomputable def o251l (P : Params) : Obj := ⟨(.type "tuple"), none, (.seq (lst []) 0), #[]⟩
noncomputable def o252l (P : Params) : Obj := ⟨.none, none, (.func (fdZ (mth 17 10) "comment" "C14NWriterTarget.comment")), #[]⟩
noncomputable def o253l (P : Params) : Obj := ⟨(.type "code"), none, (.fields (lst [(.str "comment" 2614), (.str "C14NWriterTarget.comment" 2615), (.str "/claim/cut.py" 2616), (.int (239) 0), (.int (2) 0), (.int (0) 0), (.int (0) 0), (.int (3) 0), (.ref 248), (.bool true), (.int (276) 0), (.ref 249), .none, (.ref 250), (.ref 251), (.ref 252), (.int (2619) 0), (.int (239) 0), (.str "/claim/cut.py" 2620)])), #[]⟩
noncomputable def o254l (P : Params) : Obj := ⟨(.type "function"), none, (.func (fdOf (mth 17 10) "comment" "C14NWriterTarget.comment" (.str "cpy313.xml.etree.ElementTree" 2420) 253 .none .none)), #[]⟩
noncomputable def o255l (P : Params) : Obj := ⟨(.type "tuple"), none, (.seq (lst []) 0), #[]⟩
noncomputable def o256l (P : Params) : Obj := ⟨.none, none, (.fields (lst [])), #[]⟩
noncomputable def o257l (P : Params) : Obj := ⟨(.type "tuple"), none, (.seq (lst [(.str "self" 2625), (.str "target" 2626), (.str "data" 2627)]) 0), #[]⟩
noncomputable def o258l (P : Params) : Obj := ⟨(.type "tuple"), none, (.seq (lst []) 0), #[]⟩
noncomputable def o259l (P : Params) : Obj := ⟨.none, none, (.func (fdZ (mth 17 11) "pi" "C14NWriterTarget.pi")), #[]⟩
noncomputable def o260l (P : Params) : Obj := ⟨(.type "code"), none, (.fields (lst [(.str "pi" 2622), (.str "C14NWriterTarget.pi" 2623), (.str "/claim/cut.py" 2624), (.int (242) 0), (.int (3) 0), (.int (0) 0), (.int (0) 0), (.int (3) 0), (.ref 255), (.bool true), (.int (276) 0), (.ref 256), .none, (.ref 257), (.ref 258), (.ref 259), (.int (2628) 0), (.int (242) 0), (.str "/claim/cut.py" 2629)])), #[]⟩
noncomputable def o261l (P : Params) : Obj := ⟨(.type "function"), none, (.func (fdOf (mth 17 11) "pi" "C14NWriterTarget.pi" (.str "cpy313.xml.etree.ElementTree" 2420) 260 .none .none)), #[]⟩
noncomputable def o262l (P : Params) : Obj := ⟨(.type "tuple"), none, (.seq (lst [(.str "_data" 2631), (.str "_declared_ns_stack" 2632), (.str "_exclude_attrs" 2633), (.str "_exclude_tags" 2634), (.str "_find_qname_aware_attrs" 2635), (.str "_ignored_depth" 2636), (.str "_ns_stack" 2637), (.str "_pending_start" 2638), (.str "_prefix_map" 2639), (.str "_preserve_space" 2640), (.str "_qname_aware_tags" 2641), (.str "_rewrite_prefixes" 2642), (.str "_root_done" 2643), (.str "_root_seen" 2644), (.str "_strip_text" 2645), (.str "_with_comments" 2646), (.str "_write" 2647)]) 0), #[]⟩
noncomputable def o263l (P : Params) : Obj := ⟨(.type "dict"), none, (.dict (den [⟨PyData.keyHash P "__module__", (.str "__module__" 2498), (.str "cpy313.xml.etree.ElementTree" 2420)⟩, ⟨PyData.keyHash P "__firstlineno__", (.str "__firstlineno__" 2502), (.int (79) 2501)⟩, ⟨PyData.keyHash P "__init__", (.str "__init__" 2524), (.ref 181)⟩, ⟨PyData.keyHash P "_iter_namespaces", (.str "_iter_namespaces" 2534), (.ref 189)⟩, ⟨PyData.keyHash P "_resolve_prefix_name", (.str "_resolve_prefix_name" 2546), (.ref 196)⟩, ⟨PyData.keyHash P "_qname", (.str "_qname" 2559), (.ref 204)⟩, ⟨PyData.keyHash P "data", (.str "data" 2567), (.ref 211)⟩, ⟨PyData.keyHash P "_flush", (.str "_flush" 2580), (.ref 220)⟩, ⟨PyData.keyHash P "start_ns", (.str "start_ns" 2589), (.ref 227)⟩, ⟨PyData.keyHash P "start", (.str "start" 2599), (.ref 234)⟩, ⟨PyData.keyHash P "_start", (.str "_start" 2605), (.ref 240)⟩, ⟨PyData.keyHash P "end", (.str "end" 2613), (.ref 247)⟩, ⟨PyData.keyHash P "comment", (.str "comment" 2621), (.ref 254)⟩, ⟨PyData.keyHash P "pi", (.str "pi" 2630), (.ref 261)⟩, ⟨PyData.keyHash P "__static_attributes__", (.str "__static_attributes__" 2648), (.ref 262)⟩, ⟨PyData.keyHash P "__dict__", (.str "__dict__" 2650), (.ref 265)⟩, ⟨PyData.keyHash P "__weakref__", (.str "__weakref__" 2652), (.ref 266)⟩, ⟨PyData.keyHash P "__doc__", (.str "__doc__" 2653), .none⟩]) 4), #[]⟩
noncomputable def o264l (P : Params) : Obj := ⟨(.type "type"), none, (.cls ⟨"C14NWriterTarget", [(.type "object")], [(.ref 264), (.type "object")], 263, "C14NWriterTarget", true, [], [], false, none, false⟩), (ols [none, none, (some (.str "C14NWriterTarget" 2491)), (some (.str "C14NWriterTarget" 2499)), (some (.builtin "object.__new__")), (some (.bool true))])⟩
noncomputable def o265l (P : Params) : Obj := ⟨(.type "getset_descriptor"), none, (.fields (lst [(.str "__dict__" 2649), (.ref 264), (.builtin "function.__dict__"), (.builtin "function.__dict__#set")])), #[]⟩
noncomputable def o266l (P : Params) : Obj := ⟨(.type "getset_descriptor"), none, (.fields (lst [(.str "__weakref__" 2651), (.ref 264), (.builtin "ExceptionGroup.__weakref__"), .none])), #[]⟩
noncomputable def o267l (P : Params) : Obj := ⟨(.type "super"), none, (.fields (lst [(.ref 264), (.ref 264), (.ref 264)])), #[]⟩
noncomputable def o268l (P : Params) : Obj := ⟨(.type "builtin_function_or_method"), none, (.fields (lst [(.builtin "object.__init_subclass__"), (.ref 264)])), #[]⟩
noncomputable def o3m (P : Params) : Obj := ⟨(.type "dict"), none, (.dict (den [⟨PyData.keyHash P "__name__", (.str "__name__" 165), (.str "law_tc0097_01" 2670)⟩, ⟨PyData.keyHash P "__doc__", (.str "__doc__" 166), .none⟩, ⟨PyData.keyHash P "__package__", (.str "__package__" 167), .none⟩, ⟨PyData.keyHash P "__loader__", (.str "__loader__" 168), (.builtin "__main__.__loader__#opaque")⟩, ⟨PyData.keyHash P "__spec__", (.str "__spec__" 169), .none⟩, ⟨PyData.keyHash P "__annotations__", (.str "__annotations__" 170), (.ref 6)⟩, ⟨PyData.keyHash P "__builtins__", (.str "__builtins__" 171), (.ref 4)⟩, ⟨PyData.keyHash P "__file__", (.str "__file__" 173), (.str "/claim/cut.py" 172)⟩, ⟨PyData.keyHash P "__cached__", (.str "__cached__" 174), .none⟩, ⟨PyData.keyHash P "_sre", (.str "_sre" 275), (.ref 12)⟩, ⟨PyData.keyHash P "_wall", (.str "_wall" 288), (.ref 38)⟩, ⟨PyData.keyHash P "COMPILER_FLAG_NAMES", (.str "COMPILER_FLAG_NAMES" 321), (.ref 39)⟩, ⟨PyData.keyHash P "pretty_flags", (.str "pretty_flags" 331), (.ref 46)⟩, ⟨PyData.keyHash P "_netrclex", (.str "_netrclex" 391), (.ref 84)⟩, ⟨PyData.keyHash P "b1_set", (.str "b1_set" 453), (.ref 96)⟩, ⟨PyData.keyHash P "in_table_b1", (.str "in_table_b1" 460), (.ref 106)⟩, ⟨PyData.keyHash P "b3_exceptions", (.str "b3_exceptions" 2411), (.ref 107)⟩, ⟨PyData.keyHash P "map_table_b3", (.str "map_table_b3" 2419), (.ref 152)⟩, ⟨PyData.keyHash P "_twin_re_1", (.str "_twin_re_1" 2459), (.ref 157)⟩, ⟨PyData.keyHash P "_namespace_map", (.str "_namespace_map" 2481), (.ref 158)⟩, ⟨PyData.keyHash P "_raise_serialization_error", (.str "_raise_serialization_error" 2488), (.ref 165)⟩, ⟨PyData.keyHash P "_looks_like_prefix_name", (.str "_looks_like_prefix_name" 2490), (.ref 166)⟩, ⟨PyData.keyHash P "C14NWriterTarget", (.str "C14NWriterTarget" 2655), (.ref 264)⟩, ⟨PyData.keyHash P "_escape_cdata_c14n", (.str "_escape_cdata_c14n" 2662), (.ref 275)⟩, ⟨PyData.keyHash P "_escape_attrib_c14n", (.str "_escape_attrib_c14n" 2669), (.ref 282)⟩, ⟨PyData.keyHash P "_law_hidden", (.str "_law_hidden" 2679), (.ref 289)⟩, ⟨PyData.keyHash P "_law_letter", (.str "_law_letter" 2688), (.ref 296)⟩, ⟨PyData.keyHash P "_law_typed", (.str "_law_typed" 2694), (.ref 301)⟩, ⟨PyData.keyHash P "_law_raw", (.str "_law_raw" 2700), (.ref 306)⟩, ⟨PyData.keyHash P "_law_lexer", (.str "_law_lexer" 2710), (.ref 313)⟩, ⟨PyData.keyHash P "_law_prepared", (.str "_law_prepared" 2716), (.ref 318)⟩, ⟨PyData.keyHash P "_law_walk", (.str "_law_walk" 2725), (.ref 325)⟩, ⟨PyData.keyHash P "_law_page", (.str "_law_page" 2736), (.ref 332)⟩, ⟨PyData.keyHash P "_law_words", (.str "_law_words" 2745), (.ref 339)⟩, ⟨PyData.keyHash P "_law_flag", (.str "_law_flag" 2753), (.ref 346)⟩, ⟨PyData.keyHash P "law", (.str "law" 2759), (.ref 351)⟩]) 36), #[]⟩
noncomputable def o29m (P : Params) : Obj := ⟨.none, none, (.fields (lst [(.int (2) 0), (.int (0) 0), (.ref 37), (.int (7) 0), (.int (0) 0), (.ref 45), (.int (20) 0), (.int (0) 0), (.ref 52), (.int (65) 0), (.int (0) 0), (.ref 105), (.int (68) 0), (.int (0) 0), (.ref 151), (.int (76) 0), (.int (0) 0), (.ref 164), (.int (79) 0), (.int (0) 0), (.ref 172), (.int (252) 0), (.int (0) 0), (.ref 274), (.int (265) 0), (.int (0) 0), (.ref 281), (.int (283) 0), (.int (0) 0), (.ref 288), (.int (286) 0), (.int (0) 0), (.ref 295), (.int (291) 0), (.int (0) 0), (.ref 300), (.int (298) 0), (.int (0) 0), (.ref 305), (.int (305) 0), (.int (0) 0), (.ref 312), (.int (315) 0), (.int (0) 0), (.ref 317), (.int (317) 0), (.int (0) 0), (.ref 324), (.int (322) 0), (.int (0) 0), (.ref 331), (.int (336) 0), (.int (0) 0), (.ref 338), (.int (343) 0), (.int (0) 0), (.ref 345), (.int (347) 0), (.int (0) 0), (.ref 350)])), #[]⟩
noncomputable def o269m (P : Params) : Obj := ⟨(.type "tuple"), none, (.seq (lst []) 0), #[]⟩
noncomputable def o270m (P : Params) : Obj := ⟨.none, none, (.fields (lst [])), #[]⟩
noncomputable def o271m (P : Params) : Obj := ⟨(.type "tuple"), none, (.seq (lst [(.str "text" 2659)]) 0), #[]⟩
noncomputable def o272m (P : Params) : Obj := ⟨(.type "tuple"), none, (.seq (lst []) 0), #[]⟩
noncomputable def o273m (P : Params) : Obj := ⟨.none, none, (.func (fdZ (stm 18) "_escape_cdata_c14n" "_escape_cdata_c14n")), #[]⟩
noncomputable def o274m (P : Params) : Obj := ⟨(.type "code"), none, (.fields (lst [(.str "_escape_cdata_c14n" 2656), (.str "_escape_cdata_c14n" 2657), (.str "/claim/cut.py" 2658), (.int (252) 0), (.int (1) 0), (.int (0) 0), (.int (0) 0), (.int (3) 0), (.ref 269), (.bool true), (.int (276) 0), (.ref 270), .none, (.ref 271), (.ref 272), (.ref 273), (.int (2660) 0), (.int (252) 0), (.str "/claim/cut.py" 2661)])), #[]⟩
noncomputable def o275m (P : Params) : Obj := ⟨(.type "function"), none, (.func (fdOf (stm 18) "_escape_cdata_c14n" "_escape_cdata_c14n" (.str "cpy313.xml.etree.ElementTree" 2420) 274 .none .none)), #[]⟩
noncomputable def o276m (P : Params) : Obj := ⟨(.type "tuple"), none, (.seq (lst []) 0), #[]⟩
noncomputable def o277m (P : Params) : Obj := ⟨.none, none, (.fields (lst [])), #[]⟩
noncomputable def o278m (P : Params) : Obj := ⟨(.type "tuple"), none, (.seq (lst [(.str "text" 2666)]) 0), #[]⟩
noncomputable def o279m (P : Params) : Obj := ⟨(.type "tuple"), none, (.seq (lst []) 0), #[]⟩
noncomputable def o280m (P : Params) : Obj := ⟨.none, none, (.func (fdZ (stm 19) "_escape_attrib_c14n" "_escape_attrib_c14n")), #[]⟩
noncomputable def o281m (P : Params) : Obj := ⟨(.type "code"), none, (.fields (lst [(.str "_escape_attrib_c14n" 2663), (.str "_escape_attrib_c14n" 2664), (.str "/claim/cut.py" 2665), (.int (265) 0), (.int (1) 0), (.int (0) 0), (.int (0) 0), (.int (3) 0), (.ref 276), (.bool true), (.int (276) 0), (.ref 277), .none, (.ref 278), (.ref 279), (.ref 280), (.int (2667) 0), (.int (265) 0), (.str "/claim/cut.py" 2668)])), #[]⟩
noncomputable def o282m (P : Params) : Obj := ⟨(.type "function"), none, (.func (fdOf (stm 19) "_escape_attrib_c14n" "_escape_attrib_c14n" (.str "cpy313.xml.etree.ElementTree" 2420) 281 .none .none)), #[]⟩
noncomputable def o283m (P : Params) : Obj := ⟨(.type "tuple"), none, (.seq (lst []) 0), #[]⟩
noncomputable def o284m (P : Params) : Obj := ⟨.none, none, (.fields (lst [])), #[]⟩
noncomputable def o285m (P : Params) : Obj := ⟨(.type "tuple"), none, (.seq (lst [(.str "place" 2675), (.str "k" 2676)]) 0), #[]⟩
noncomputable def o286m (P : Params) : Obj := ⟨(.type "tuple"), none, (.seq (lst []) 0), #[]⟩
noncomputable def o287m (P : Params) : Obj := ⟨.none, none, (.func (fdZ (stm 21) "_law_hidden" "_law_hidden")), #[]⟩
noncomputable def o288m (P : Params) : Obj := ⟨(.type "code"), none, (.fields (lst [(.str "_law_hidden" 2672), (.str "_law_hidden" 2673), (.str "/claim/cut.py" 2674), (.int (283) 0), (.int (1) 0), (.int (0) 0), (.int (0) 0), (.int (3) 0), (.ref 283), (.bool true), (.int (276) 0), (.ref 284), .none, (.ref 285), (.ref 286), (.ref 287), (.int (2677) 0), (.int (283) 0), (.str "/claim/cut.py" 2678)])), #[]⟩
noncomputable def o289m (P : Params) : Obj := ⟨(.type "function"), none, (.func (fdOf (stm 21) "_law_hidden" "_law_hidden" (.str "law_tc0097_01" 2670) 288 .none .none)), #[]⟩
noncomputable def o290m (P : Params) : Obj := ⟨(.type "tuple"), none, (.seq (lst []) 0), #[]⟩
noncomputable def o291m (P : Params) : Obj := ⟨.none, none, (.fields (lst [])), #[]⟩
noncomputable def o292m (P : Params) : Obj := ⟨(.type "tuple"), none, (.seq (lst [(.str "letter" 2683), (.str "form" 2684), (.str "great" 2685)]) 0), #[]⟩
noncomputable def o293m (P : Params) : Obj := ⟨(.type "tuple"), none, (.seq (lst []) 0), #[]⟩
noncomputable def o294m (P : Params) : Obj := ⟨.none, none, (.func (fdZ (stm 22) "_law_letter" "_law_letter")), #[]⟩
noncomputable def o295m (P : Params) : Obj := ⟨(.type "code"), none, (.fields (lst [(.str "_law_letter" 2680), (.str "_law_letter" 2681), (.str "/claim/cut.py" 2682), (.int (286) 0), (.int (2) 0), (.int (0) 0), (.int (0) 0), (.int (3) 0), (.ref 290), (.bool true), (.int (276) 0), (.ref 291), .none, (.ref 292), (.ref 293), (.ref 294), (.int (2686) 0), (.int (286) 0), (.str "/claim/cut.py" 2687)])), #[]⟩
noncomputable def o296m (P : Params) : Obj := ⟨(.type "function"), none, (.func (fdOf (stm 22) "_law_letter" "_law_letter" (.str "law_tc0097_01" 2670) 295 .none .none)), #[]⟩
noncomputable def o297m (P : Params) : Obj := ⟨(.type "tuple"), none, (.seq (lst []) 0), #[]⟩
noncomputable def o298m (P : Params) : Obj := ⟨.none, none, (.fields (lst [])), #[]⟩
noncomputable def o299m (P : Params) : Obj := ⟨.none, none, (.func (fdZ (stm 23) "_law_typed" "_law_typed")), #[]⟩
noncomputable def o300m (P : Params) : Obj := ⟨(.type "code"), none, (.fields (lst [(.str "_law_typed" 2689), (.str "_law_typed" 2690), (.str "/claim/cut.py" 2691), (.int (291) 0), (.int (3) 0), (.int (0) 0), (.int (0) 0), (.int (3) 0), (.ref 297), (.bool true), (.int (276) 0), (.ref 298), .none, .none, .none, (.ref 299), (.int (2692) 0), (.int (291) 0), (.str "/claim/cut.py" 2693)])), #[]⟩
noncomputable def o301m (P : Params) : Obj := ⟨(.type "function"), none, (.func (fdOf (stm 23) "_law_typed" "_law_typed" (.str "law_tc0097_01" 2670) 300 .none .none)), #[]⟩
noncomputable def o302m (P : Params) : Obj := ⟨(.type "tuple"), none, (.seq (lst []) 0), #[]⟩
noncomputable def o303m (P : Params) : Obj := ⟨.none, none, (.fields (lst [])), #[]⟩
noncomputable def o304m (P : Params) : Obj := ⟨.none, none, (.func (fdZ (stm 24) "_law_raw" "_law_raw")), #[]⟩
noncomputable def o305m (P : Params) : Obj := ⟨(.type "code"), none, (.fields (lst [(.str "_law_raw" 2695), (.str "_law_raw" 2696), (.str "/claim/cut.py" 2697), (.int (298) 0), (.int (3) 0), (.int (0) 0), (.int (0) 0), (.int (3) 0), (.ref 302), (.bool true), (.int (276) 0), (.ref 303), .none, .none, .none, (.ref 304), (.int (2698) 0), (.int (298) 0), (.str "/claim/cut.py" 2699)])), #[]⟩
noncomputable def o306m (P : Params) : Obj := ⟨(.type "function"), none, (.func (fdOf (stm 24) "_law_raw" "_law_raw" (.str "law_tc0097_01" 2670) 305 .none .none)), #[]⟩
noncomputable def o307m (P : Params) : Obj := ⟨(.type "tuple"), none, (.seq (lst []) 0), #[]⟩
noncomputable def o308m (P : Params) : Obj := ⟨.none, none, (.fields (lst [])), #[]⟩
noncomputable def o309m (P : Params) : Obj := ⟨(.type "tuple"), none, (.seq (lst [(.str "signs" 2704), (.str "stream" 2705), (.str "give" 2706)]) 0), #[]⟩
noncomputable def o310m (P : Params) : Obj := ⟨(.type "tuple"), none, (.seq (lst [(.str "signs" 2707)]) 0), #[]⟩
noncomputable def o311m (P : Params) : Obj := ⟨.none, none, (.func (fdZ (stm 25) "_law_lexer" "_law_lexer")), #[]⟩
noncomputable def o312m (P : Params) : Obj := ⟨(.type "code"), none, (.fields (lst [(.str "_law_lexer" 2701), (.str "_law_lexer" 2702), (.str "/claim/cut.py" 2703), (.int (305) 0), (.int (1) 0), (.int (0) 0), (.int (0) 0), (.int (3) 0), (.ref 307), (.bool true), (.int (276) 0), (.ref 308), .none, (.ref 309), (.ref 310), (.ref 311), (.int (2708) 0), (.int (305) 0), (.str "/claim/cut.py" 2709)])), #[]⟩
noncomputable def o313m (P : Params) : Obj := ⟨(.type "function"), none, (.func (fdOf (stm 25) "_law_lexer" "_law_lexer" (.str "law_tc0097_01" 2670) 312 .none .none)), #[]⟩
noncomputable def o314m (P : Params) : Obj := ⟨(.type "tuple"), none, (.seq (lst []) 0), #[]⟩
noncomputable def o315m (P : Params) : Obj := ⟨.none, none, (.fields (lst [])), #[]⟩
noncomputable def o316m (P : Params) : Obj := ⟨.none, none, (.func (fdZ (stm 26) "_law_prepared" "_law_prepared")), #[]⟩
noncomputable def o317m (P : Params) : Obj := ⟨(.type "code"), none, (.fields (lst [(.str "_law_prepared" 2711), (.str "_law_prepared" 2712), (.str "/claim/cut.py" 2713), (.int (315) 0), (.int (1) 0), (.int (0) 0), (.int (0) 0), (.int (3) 0), (.ref 314), (.bool true), (.int (276) 0), (.ref 315), .none, .none, .none, (.ref 316), (.int (2714) 0), (.int (315) 0), (.str "/claim/cut.py" 2715)])), #[]⟩
noncomputable def o318m (P : Params) : Obj := ⟨(.type "function"), none, (.func (fdOf (stm 26) "_law_prepared" "_law_prepared" (.str "law_tc0097_01" 2670) 317 .none .none)), #[]⟩
noncomputable def o319m (P : Params) : Obj := ⟨(.type "tuple"), none, (.seq (lst []) 0), #[]⟩
noncomputable def o320m (P : Params) : Obj := ⟨.none, none, (.fields (lst [])), #[]⟩
noncomputable def o321m (P : Params) : Obj := ⟨(.type "tuple"), none, (.seq (lst [(.str "stack" 2720), (.str "pairs" 2721), (.str "level" 2722)]) 0), #[]⟩
noncomputable def o322m (P : Params) : Obj := ⟨(.type "tuple"), none, (.seq (lst []) 0), #[]⟩
noncomputable def o323m (P : Params) : Obj := ⟨.none, none, (.func (fdZ (stm 27) "_law_walk" "_law_walk")), #[]⟩
noncomputable def o324m (P : Params) : Obj := ⟨(.type "code"), none, (.fields (lst [(.str "_law_walk" 2717), (.str "_law_walk" 2718), (.str "/claim/cut.py" 2719), (.int (317) 0), (.int (1) 0), (.int (0) 0), (.int (0) 0), (.int (3) 0), (.ref 319), (.bool true), (.int (276) 0), (.ref 320), .none, (.ref 321), (.ref 322), (.ref 323), (.int (2723) 0), (.int (317) 0), (.str "/claim/cut.py" 2724)])), #[]⟩
noncomputable def o325m (P : Params) : Obj := ⟨(.type "function"), none, (.func (fdOf (stm 27) "_law_walk" "_law_walk" (.str "law_tc0097_01" 2670) 324 .none .none)), #[]⟩
noncomputable def o326m (P : Params) : Obj := ⟨(.type "tuple"), none, (.seq (lst []) 0), #[]⟩
noncomputable def o327m (P : Params) : Obj := ⟨.none, none, (.fields (lst [])), #[]⟩
noncomputable def o328m (P : Params) : Obj := ⟨(.type "tuple"), none, (.seq (lst [(.str "packet" 2729), (.str "white" 2730), (.str "pieces" 2731), (.str "writer" 2732), (.str "tag" 2733)]) 0), #[]⟩
noncomputable def o329m (P : Params) : Obj := ⟨(.type "tuple"), none, (.seq (lst []) 0), #[]⟩
noncomputable def o330m (P : Params) : Obj := ⟨.none, none, (.func (fdZ (stm 28) "_law_page" "_law_page")), #[]⟩
noncomputable def o331m (P : Params) : Obj := ⟨(.type "code"), none, (.fields (lst [(.str "_law_page" 2726), (.str "_law_page" 2727), (.str "/claim/cut.py" 2728), (.int (322) 0), (.int (2) 0), (.int (0) 0), (.int (0) 0), (.int (3) 0), (.ref 326), (.bool true), (.int (276) 0), (.ref 327), .none, (.ref 328), (.ref 329), (.ref 330), (.int (2734) 0), (.int (322) 0), (.str "/claim/cut.py" 2735)])), #[]⟩
noncomputable def o332m (P : Params) : Obj := ⟨(.type "function"), none, (.func (fdOf (stm 28) "_law_page" "_law_page" (.str "law_tc0097_01" 2670) 331 .none .none)), #[]⟩
noncomputable def o333m (P : Params) : Obj := ⟨(.type "tuple"), none, (.seq (lst []) 0), #[]⟩
noncomputable def o334m (P : Params) : Obj := ⟨.none, none, (.fields (lst [])), #[]⟩
noncomputable def o335m (P : Params) : Obj := ⟨(.type "tuple"), none, (.seq (lst [(.str "lexer" 2740), (.str "words" 2741), (.str "word" 2742)]) 0), #[]⟩
noncomputable def o336m (P : Params) : Obj := ⟨(.type "tuple"), none, (.seq (lst []) 0), #[]⟩
noncomputable def o337m (P : Params) : Obj := ⟨.none, none, (.func (fdZ (stm 29) "_law_words" "_law_words")), #[]⟩
noncomputable def o338m (P : Params) : Obj := ⟨(.type "code"), none, (.fields (lst [(.str "_law_words" 2737), (.str "_law_words" 2738), (.str "/claim/cut.py" 2739), (.int (336) 0), (.int (1) 0), (.int (0) 0), (.int (0) 0), (.int (3) 0), (.ref 333), (.bool true), (.int (276) 0), (.ref 334), .none, (.ref 335), (.ref 336), (.ref 337), (.int (2743) 0), (.int (336) 0), (.str "/claim/cut.py" 2744)])), #[]⟩
noncomputable def o339m (P : Params) : Obj := ⟨(.type "function"), none, (.func (fdOf (stm 29) "_law_words" "_law_words" (.str "law_tc0097_01" 2670) 338 .none .none)), #[]⟩
noncomputable def o340m (P : Params) : Obj := ⟨(.type "tuple"), none, (.seq (lst []) 0), #[]⟩
noncomputable def o341m (P : Params) : Obj := ⟨.none, none, (.fields (lst [])), #[]⟩
noncomputable def o342m (P : Params) : Obj := ⟨(.type "tuple"), none, (.seq (lst [(.str "place" 2749), (.str "names" 2750)]) 0), #[]⟩
noncomputable def o343m (P : Params) : Obj := ⟨(.type "tuple"), none, (.seq (lst []) 0), #[]⟩
noncomputable def o344m (P : Params) : Obj := ⟨.none, none, (.func (fdZ (stm 30) "_law_flag" "_law_flag")), #[]⟩
noncomputable def o345m (P : Params) : Obj := ⟨(.type "code"), none, (.fields (lst [(.str "_law_flag" 2746), (.str "_law_flag" 2747), (.str "/claim/cut.py" 2748), (.int (343) 0), (.int (1) 0), (.int (0) 0), (.int (0) 0), (.int (3) 0), (.ref 340), (.bool true), (.int (276) 0), (.ref 341), .none, (.ref 342), (.ref 343), (.ref 344), (.int (2751) 0), (.int (343) 0), (.str "/claim/cut.py" 2752)])), #[]⟩
noncomputable def o346m (P : Params) : Obj := ⟨(.type "function"), none, (.func (fdOf (stm 30) "_law_flag" "_law_flag" (.str "law_tc0097_01" 2670) 345 .none .none)), #[]⟩
noncomputable def o347m (P : Params) : Obj := ⟨(.type "tuple"), none, (.seq (lst []) 0), #[]⟩
noncomputable def o348m (P : Params) : Obj := ⟨.none, none, (.fields (lst [])), #[]⟩
noncomputable def o349m (P : Params) : Obj := ⟨.none, none, (.func (fdZ (stm 31) "law" "law")), #[]⟩
noncomputable def o350m (P : Params) : Obj := ⟨(.type "code"), none, (.fields (lst [(.str "law" 2754), (.str "law" 2755), (.str "/claim/cut.py" 2756), (.int (347) 0), (.int (1) 0), (.int (0) 0), (.int (0) 0), (.int (3) 0), (.ref 347), (.bool true), (.int (276) 0), (.ref 348), .none, .none, .none, (.ref 349), (.int (2757) 0), (.int (347) 0), (.str "/claim/cut.py" 2758)])), #[]⟩
noncomputable def o351m (P : Params) : Obj := ⟨(.type "function"), none, (.func (fdOf (stm 31) "law" "law" (.str "law_tc0097_01" 2670) 350 .none .none)), #[]⟩
noncomputable def t_a (P : Params) : BT := (nd (o0a P) (nd (o1a P) (nd (o3a P) (nd (o7a P) (nd (o15a P) nil nil) (nd (o23a P) nil nil)) (nd (o11a P) (nd (o19a P) nil nil) (nd (o27a P) nil nil))) (nd (o5a P) (nd (o9a P) (nd (o17a P) nil nil) (nd (o25a P) nil nil)) (nd (o13a P) (nd (o21a P) nil nil) nil))) (nd (o2a P) (nd (o4a P) (nd (o8a P) (nd (o16a P) nil nil) (nd (o24a P) nil nil)) (nd (o12a P) (nd (o20a P) nil nil) nil)) (nd (o6a P) (nd (o10a P) (nd (o18a P) nil nil) (nd (o26a P) nil nil)) (nd (o14a P) (nd (o22a P) nil nil) nil))))
noncomputable def t_b (P : Params) : BT := (nd (o0a P) (nd (o1a P) (nd (o3a P) (nd (o7a P) (nd (o15a P) (nd (o31b P) nil nil) nil) (nd (o23a P) nil nil)) (nd (o11a P) (nd (o19a P) nil nil) (nd (o27a P) nil nil))) (nd (o5a P) (nd (o9a P) (nd (o17a P) nil nil) (nd (o25a P) nil nil)) (nd (o13a P) (nd (o21a P) nil nil) (nd (o29b P) nil nil)))) (nd (o2a P) (nd (o4a P) (nd (o8a P) (nd (o16a P) nil nil) (nd (o24a P) nil nil)) (nd (o12a P) (nd (o20a P) nil nil) (nd (o28b P) nil nil))) (nd (o6a P) (nd (o10a P) (nd (o18a P) nil nil) (nd (o26a P) nil nil)) (nd (o14a P) (nd (o22a P) nil nil) (nd (o30b P) nil nil)))))
noncomputable def t_c (P : Params) : BT := (nd (o0a P) (nd (o1a P) (nd (o3c P) (nd (o7a P) (nd (o15a P) (nd (o31b P) nil nil) nil) (nd (o23a P) nil nil)) (nd (o11a P) (nd (o19a P) (nd (o35c P) nil nil) nil) (nd (o27a P) nil nil))) (nd (o5a P) (nd (o9a P) (nd (o17a P) (nd (o33c P) nil nil) nil) (nd (o25a P) nil nil)) (nd (o13a P) (nd (o21a P) (nd (o37c P) nil nil) nil) (nd (o29c P) nil nil)))) (nd (o2a P) (nd (o4a P) (nd (o8a P) (nd (o16a P) (nd (o32c P) nil nil) nil) (nd (o24a P) nil nil)) (nd (o12a P) (nd (o20a P) (nd (o36c P) nil nil) nil) (nd (o28b P) nil nil))) (nd (o6a P) (nd (o10a P) (nd (o18a P) (nd (o34c P) nil nil) nil) (nd (o26a P) nil nil)) (nd (o14a P) (nd (o22a P) (nd (o38c P) nil nil) nil) (nd (o30b P) nil nil)))))
noncomputable def t_d (P : Params) : BT := (nd (o0a P) (nd (o1a P) (nd (o3d P) (nd (o7a P) (nd (o15a P) (nd (o31b P) nil nil) nil) (nd (o23a P) (nd (o39d P) nil nil) nil)) (nd (o11a P) (nd (o19a P) (nd (o35c P) nil nil) nil) (nd (o27a P) nil nil))) (nd (o5a P) (nd (o9a P) (nd (o17a P) (nd (o33c P) nil nil) nil) (nd (o25a P) nil nil)) (nd (o13a P) (nd (o21a P) (nd (o37c P) nil nil) nil) (nd (o29c P) nil nil)))) (nd (o2a P) (nd (o4a P) (nd (o8a P) (nd (o16a P) (nd (o32c P) nil nil) nil) (nd (o24a P) nil nil)) (nd (o12a P) (nd (o20a P) (nd (o36c P) nil nil) nil) (nd (o28b P) nil nil))) (nd (o6a P) (nd (o10a P) (nd (o18a P) (nd (o34c P) nil nil) nil) (nd (o26a P) nil nil)) (nd (o14a P) (nd (o22a P) (nd (o38c P) nil nil) nil) (nd (o30b P) nil nil)))))
noncomputable def t_e (P : Params) : BT := (nd (o0a P) (nd (o1a P) (nd (o3e P) (nd (o7a P) (nd (o15a P) (nd (o31b P) (nd (o63e P) nil nil) nil) (nd (o47e P) (nd (o79e P) nil nil) nil)) (nd (o23a P) (nd (o39d P) (nd (o71e P) nil nil) nil) (nd (o55e P) (nd (o87e P) nil nil) nil))) (nd (o11a P) (nd (o19a P) (nd (o35c P) (nd (o67e P) nil nil) nil) (nd (o51e P) (nd (o83e P) nil nil) nil)) (nd (o27a P) (nd (o43e P) (nd (o75e P) nil nil) nil) (nd (o59e P) nil nil)))) (nd (o5a P) (nd (o9a P) (nd (o17a P) (nd (o33c P) (nd (o65e P) nil nil) nil) (nd (o49e P) (nd (o81e P) nil nil) nil)) (nd (o25a P) (nd (o41e P) (nd (o73e P) nil nil) nil) (nd (o57e P) nil nil))) (nd (o13a P) (nd (o21a P) (nd (o37c P) (nd (o69e P) nil nil) nil) (nd (o53e P) (nd (o85e P) nil nil) nil)) (nd (o29e P) (nd (o45e P) (nd (o77e P) nil nil) nil) (nd (o61e P) nil nil))))) (nd (o2a P) (nd (o4a P) (nd (o8a P) (nd (o16a P) (nd (o32c P) (nd (o64e P) nil nil) nil) (nd (o48e P) (nd (o80e P) nil nil) nil)) (nd (o24a P) (nd (o40e P) (nd (o72e P) nil nil) nil) (nd (o56e P) (nd (o88e P) nil nil) nil))) (nd (o12a P) (nd (o20a P) (nd (o36c P) (nd (o68e P) nil nil) nil) (nd (o52e P) (nd (o84e P) nil nil) nil)) (nd (o28b P) (nd (o44e P) (nd (o76e P) nil nil) nil) (nd (o60e P) nil nil)))) (nd (o6a P) (nd (o10a P) (nd (o18a P) (nd (o34c P) (nd (o66e P) nil nil) nil) (nd (o50e P) (nd (o82e P) nil nil) nil)) (nd (o26a P) (nd (o42e P) (nd (o74e P) nil nil) nil) (nd (o58e P) nil nil))) (nd (o14a P) (nd (o22a P) (nd (o38c P) (nd (o70e P) nil nil) nil) (nd (o54e P) (nd (o86e P) nil nil) nil)) (nd (o30b P) (nd (o46e P) (nd (o78e P) nil nil) nil) (nd (o62e P) nil nil))))))
noncomputable def t_f (P : Params) : BT := (nd (o0a P) (nd (o1a P) (nd (o3f P) (nd (o7a P) (nd (o15a P) (nd (o31b P) (nd (o63e P) nil nil) (nd (o95f P) nil nil)) (nd (o47e P) (nd (o79e P) nil nil) nil)) (nd (o23a P) (nd (o39d P) (nd (o71e P) nil nil) nil) (nd (o55e P) (nd (o87e P) nil nil) nil))) (nd (o11a P) (nd (o19a P) (nd (o35c P) (nd (o67e P) nil nil) (nd (o99f P) nil nil)) (nd (o51e P) (nd (o83e P) nil nil) nil)) (nd (o27a P) (nd (o43e P) (nd (o75e P) nil nil) nil) (nd (o59e P) (nd (o91f P) nil nil) nil)))) (nd (o5a P) (nd (o9a P) (nd (o17a P) (nd (o33c P) (nd (o65e P) nil nil) (nd (o97f P) nil nil)) (nd (o49e P) (nd (o81e P) nil nil) nil)) (nd (o25a P) (nd (o41e P) (nd (o73e P) nil nil) nil) (nd (o57e P) (nd (o89f P) nil nil) nil))) (nd (o13a P) (nd (o21a P) (nd (o37c P) (nd (o69e P) nil nil) nil) (nd (o53e P) (nd (o85e P) nil nil) nil)) (nd (o29e P) (nd (o45e P) (nd (o77e P) nil nil) nil) (nd (o61e P) (nd (o93f P) nil nil) nil))))) (nd (o2a P) (nd (o4a P) (nd (o8a P) (nd (o16a P) (nd (o32c P) (nd (o64e P) nil nil) (nd (o96f P) nil nil)) (nd (o48e P) (nd (o80e P) nil nil) nil)) (nd (o24a P) (nd (o40e P) (nd (o72e P) nil nil) nil) (nd (o56e P) (nd (o88e P) nil nil) nil))) (nd (o12a P) (nd (o20a P) (nd (o36c P) (nd (o68e P) nil nil) nil) (nd (o52e P) (nd (o84e P) nil nil) nil)) (nd (o28b P) (nd (o44e P) (nd (o76e P) nil nil) nil) (nd (o60e P) (nd (o92f P) nil nil) nil)))) (nd (o6a P) (nd (o10a P) (nd (o18a P) (nd (o34c P) (nd (o66e P) nil nil) (nd (o98f P) nil nil)) (nd (o50e P) (nd (o82e P) nil nil) nil)) (nd (o26a P) (nd (o42e P) (nd (o74e P) nil nil) nil) (nd (o58e P) (nd (o90f P) nil nil) nil))) (nd (o14a P) (nd (o22a P) (nd (o38c P) (nd (o70e P) nil nil) nil) (nd (o54e P) (nd (o86e P) nil nil) nil)) (nd (o30b P) (nd (o46e P) (nd (o78e P) nil nil) nil) (nd (o62e P) (nd (o94f P) nil nil) nil))))))
noncomputable def t_g (P : Params) : BT := (nd (o0a P) (nd (o1a P) (nd (o3g P) (nd (o7a P) (nd (o15a P) (nd (o31b P) (nd (o63e P) nil nil) (nd (o95f P) nil nil)) (nd (o47e P) (nd (o79e P) nil nil) nil)) (nd (o23a P) (nd (o39d P) (nd (o71e P) nil nil) (nd (o103g P) nil nil)) (nd (o55e P) (nd (o87e P) nil nil) nil))) (nd (o11a P) (nd (o19a P) (nd (o35c P) (nd (o67e P) nil nil) (nd (o99f P) nil nil)) (nd (o51e P) (nd (o83e P) nil nil) nil)) (nd (o27a P) (nd (o43e P) (nd (o75e P) nil nil) nil) (nd (o59e P) (nd (o91f P) nil nil) nil)))) (nd (o5a P) (nd (o9a P) (nd (o17a P) (nd (o33c P) (nd (o65e P) nil nil) (nd (o97f P) nil nil)) (nd (o49e P) (nd (o81e P) nil nil) nil)) (nd (o25a P) (nd (o41e P) (nd (o73e P) nil nil) (nd (o105g P) nil nil)) (nd (o57e P) (nd (o89f P) nil nil) nil))) (nd (o13a P) (nd (o21a P) (nd (o37c P) (nd (o69e P) nil nil) (nd (o101g P) nil nil)) (nd (o53e P) (nd (o85e P) nil nil) nil)) (nd (o29g P) (nd (o45e P) (nd (o77e P) nil nil) nil) (nd (o61e P) (nd (o93f P) nil nil) nil))))) (nd (o2a P) (nd (o4a P) (nd (o8a P) (nd (o16a P) (nd (o32c P) (nd (o64e P) nil nil) (nd (o96f P) nil nil)) (nd (o48e P) (nd (o80e P) nil nil) nil)) (nd (o24a P) (nd (o40e P) (nd (o72e P) nil nil) (nd (o104g P) nil nil)) (nd (o56e P) (nd (o88e P) nil nil) nil))) (nd (o12a P) (nd (o20a P) (nd (o36c P) (nd (o68e P) nil nil) (nd (o100g P) nil nil)) (nd (o52e P) (nd (o84e P) nil nil) nil)) (nd (o28b P) (nd (o44e P) (nd (o76e P) nil nil) nil) (nd (o60e P) (nd (o92f P) nil nil) nil)))) (nd (o6a P) (nd (o10a P) (nd (o18a P) (nd (o34c P) (nd (o66e P) nil nil) (nd (o98f P) nil nil)) (nd (o50e P) (nd (o82e P) nil nil) nil)) (nd (o26a P) (nd (o42e P) (nd (o74e P) nil nil) (nd (o106g P) nil nil)) (nd (o58e P) (nd (o90f P) nil nil) nil))) (nd (o14a P) (nd (o22a P) (nd (o38c P) (nd (o70e P) nil nil) (nd (o102g P) nil nil)) (nd (o54e P) (nd (o86e P) nil nil) nil)) (nd (o30b P) (nd (o46e P) (nd (o78e P) nil nil) nil) (nd (o62e P) (nd (o94f P) nil nil) nil))))))
noncomputable def t_h (P : Params) : BT := (nd (o0a P) (nd (o1a P) (nd (o3h P) (nd (o7a P) (nd (o15a P) (nd (o31b P) (nd (o63e P) (nd (bobj 127) nil nil) nil) (nd (o95f P) nil nil)) (nd (o47e P) (nd (o79e P) (nd (bobj 143) nil nil) nil) (nd (bobj 111) nil nil))) (nd (o23a P) (nd (o39d P) (nd (o71e P) (nd (bobj 135) nil nil) nil) (nd (o103g P) nil nil)) (nd (o55e P) (nd (o87e P) nil nil) (nd (bobj 119) nil nil)))) (nd (o11a P) (nd (o19a P) (nd (o35c P) (nd (o67e P) (nd (bobj 131) nil nil) nil) (nd (o99f P) nil nil)) (nd (o51e P) (nd (o83e P) nil nil) (nd (bobj 115) nil nil))) (nd (o27a P) (nd (o43e P) (nd (o75e P) (nd (bobj 139) nil nil) nil) (nd (bobj 107) nil nil)) (nd (o59e P) (nd (o91f P) nil nil) (nd (bobj 123) nil nil))))) (nd (o5a P) (nd (o9a P) (nd (o17a P) (nd (o33c P) (nd (o65e P) (nd (bobj 129) nil nil) nil) (nd (o97f P) nil nil)) (nd (o49e P) (nd (o81e P) (nd (bobj 145) nil nil) nil) (nd (bobj 113) nil nil))) (nd (o25a P) (nd (o41e P) (nd (o73e P) (nd (bobj 137) nil nil) nil) (nd (o105g P) nil nil)) (nd (o57e P) (nd (o89f P) nil nil) (nd (bobj 121) nil nil)))) (nd (o13a P) (nd (o21a P) (nd (o37c P) (nd (o69e P) (nd (bobj 133) nil nil) nil) (nd (o101g P) nil nil)) (nd (o53e P) (nd (o85e P) nil nil) (nd (bobj 117) nil nil))) (nd (o29g P) (nd (o45e P) (nd (o77e P) (nd (bobj 141) nil nil) nil) (nd (bobj 109) nil nil)) (nd (o61e P) (nd (o93f P) nil nil) (nd (bobj 125) nil nil)))))) (nd (o2a P) (nd (o4a P) (nd (o8a P) (nd (o16a P) (nd (o32c P) (nd (o64e P) (nd (bobj 128) nil nil) nil) (nd (o96f P) nil nil)) (nd (o48e P) (nd (o80e P) (nd (bobj 144) nil nil) nil) (nd (bobj 112) nil nil))) (nd (o24a P) (nd (o40e P) (nd (o72e P) (nd (bobj 136) nil nil) nil) (nd (o104g P) nil nil)) (nd (o56e P) (nd (o88e P) nil nil) (nd (bobj 120) nil nil)))) (nd (o12a P) (nd (o20a P) (nd (o36c P) (nd (o68e P) (nd (bobj 132) nil nil) nil) (nd (o100g P) nil nil)) (nd (o52e P) (nd (o84e P) nil nil) (nd (bobj 116) nil nil))) (nd (o28b P) (nd (o44e P) (nd (o76e P) (nd (bobj 140) nil nil) nil) (nd (bobj 108) nil nil)) (nd (o60e P) (nd (o92f P) nil nil) (nd (bobj 124) nil nil))))) (nd (o6a P) (nd (o10a P) (nd (o18a P) (nd (o34c P) (nd (o66e P) (nd (bobj 130) nil nil) nil) (nd (o98f P) nil nil)) (nd (o50e P) (nd (o82e P) nil nil) (nd (bobj 114) nil nil))) (nd (o26a P) (nd (o42e P) (nd (o74e P) (nd (bobj 138) nil nil) nil) (nd (o106g P) nil nil)) (nd (o58e P) (nd (o90f P) nil nil) (nd (bobj 122) nil nil)))) (nd (o14a P) (nd (o22a P) (nd (o38c P) (nd (o70e P) (nd (bobj 134) nil nil) nil) (nd (o102g P) nil nil)) (nd (o54e P) (nd (o86e P) nil nil) (nd (bobj 118) nil nil))) (nd (o30b P) (nd (o46e P) (nd (o78e P) (nd (bobj 142) nil nil) nil) (nd (bobj 110) nil nil)) (nd (o62e P) (nd (o94f P) nil nil) (nd (bobj 126) nil nil)))))))
noncomputable def t_i (P : Params) : BT := (nd (o0a P) (nd (o1a P) (nd (o3i P) (nd (o7a P) (nd (o15a P) (nd (o31b P) (nd (o63e P) (nd (bobj 127) nil nil) nil) (nd (o95f P) nil nil)) (nd (o47e P) (nd (o79e P) (nd (bobj 143) nil nil) nil) (nd (bobj 111) nil nil))) (nd (o23a P) (nd (o39d P) (nd (o71e P) (nd (bobj 135) nil nil) nil) (nd (o103g P) nil nil)) (nd (o55e P) (nd (o87e P) (nd (o151i P) nil nil) nil) (nd (bobj 119) nil nil)))) (nd (o11a P) (nd (o19a P) (nd (o35c P) (nd (o67e P) (nd (bobj 131) nil nil) nil) (nd (o99f P) nil nil)) (nd (o51e P) (nd (o83e P) (nd (o147i P) nil nil) nil) (nd (bobj 115) nil nil))) (nd (o27a P) (nd (o43e P) (nd (o75e P) (nd (bobj 139) nil nil) nil) (nd (bobj 107) nil nil)) (nd (o59e P) (nd (o91f P) (nd (o155i P) nil nil) nil) (nd (bobj 123) nil nil))))) (nd (o5a P) (nd (o9a P) (nd (o17a P) (nd (o33c P) (nd (o65e P) (nd (bobj 129) nil nil) nil) (nd (o97f P) nil nil)) (nd (o49e P) (nd (o81e P) (nd (bobj 145) nil nil) nil) (nd (bobj 113) nil nil))) (nd (o25a P) (nd (o41e P) (nd (o73e P) (nd (bobj 137) nil nil) nil) (nd (o105g P) nil nil)) (nd (o57e P) (nd (o89f P) (nd (o153i P) nil nil) nil) (nd (bobj 121) nil nil)))) (nd (o13a P) (nd (o21a P) (nd (o37c P) (nd (o69e P) (nd (bobj 133) nil nil) nil) (nd (o101g P) nil nil)) (nd (o53e P) (nd (o85e P) (nd (o149i P) nil nil) nil) (nd (bobj 117) nil nil))) (nd (o29i P) (nd (o45e P) (nd (o77e P) (nd (bobj 141) nil nil) nil) (nd (bobj 109) nil nil)) (nd (o61e P) (nd (o93f P) (nd (o157i P) nil nil) nil) (nd (bobj 125) nil nil)))))) (nd (o2a P) (nd (o4a P) (nd (o8a P) (nd (o16a P) (nd (o32c P) (nd (o64e P) (nd (bobj 128) nil nil) nil) (nd (o96f P) nil nil)) (nd (o48e P) (nd (o80e P) (nd (bobj 144) nil nil) nil) (nd (bobj 112) nil nil))) (nd (o24a P) (nd (o40e P) (nd (o72e P) (nd (bobj 136) nil nil) nil) (nd (o104g P) nil nil)) (nd (o56e P) (nd (o88e P) (nd (o152i P) nil nil) nil) (nd (bobj 120) nil nil)))) (nd (o12a P) (nd (o20a P) (nd (o36c P) (nd (o68e P) (nd (bobj 132) nil nil) nil) (nd (o100g P) nil nil)) (nd (o52e P) (nd (o84e P) (nd (o148i P) nil nil) nil) (nd (bobj 116) nil nil))) (nd (o28b P) (nd (o44e P) (nd (o76e P) (nd (bobj 140) nil nil) nil) (nd (bobj 108) nil nil)) (nd (o60e P) (nd (o92f P) (nd (o156i P) nil nil) nil) (nd (bobj 124) nil nil))))) (nd (o6a P) (nd (o10a P) (nd (o18a P) (nd (o34c P) (nd (o66e P) (nd (bobj 130) nil nil) nil) (nd (o98f P) nil nil)) (nd (o50e P) (nd (o82e P) (nd (o146i P) nil nil) nil) (nd (bobj 114) nil nil))) (nd (o26a P) (nd (o42e P) (nd (o74e P) (nd (bobj 138) nil nil) nil) (nd (o106g P) nil nil)) (nd (o58e P) (nd (o90f P) (nd (o154i P) nil nil) nil) (nd (bobj 122) nil nil)))) (nd (o14a P) (nd (o22a P) (nd (o38c P) (nd (o70e P) (nd (bobj 134) nil nil) nil) (nd (o102g P) nil nil)) (nd (o54e P) (nd (o86e P) (nd (o150i P) nil nil) nil) (nd (bobj 118) nil nil))) (nd (o30b P) (nd (o46e P) (nd (o78e P) (nd (bobj 142) nil nil) nil) (nd (bobj 110) nil nil)) (nd (o62e P) (nd (o94f P) nil nil) (nd (bobj 126) nil nil)))))))
noncomputable def t_j (P : Params) : BT := (nd (o0a P) (nd (o1a P) (nd (o3j P) (nd (o7a P) (nd (o15a P) (nd (o31b P) (nd (o63e P) (nd (bobj 127) nil nil) nil) (nd (o95f P) nil nil)) (nd (o47e P) (nd (o79e P) (nd (bobj 143) nil nil) nil) (nd (bobj 111) nil nil))) (nd (o23a P) (nd (o39d P) (nd (o71e P) (nd (bobj 135) nil nil) nil) (nd (o103g P) nil nil)) (nd (o55e P) (nd (o87e P) (nd (o151i P) nil nil) nil) (nd (bobj 119) nil nil)))) (nd (o11a P) (nd (o19a P) (nd (o35c P) (nd (o67e P) (nd (bobj 131) nil nil) nil) (nd (o99f P) nil nil)) (nd (o51e P) (nd (o83e P) (nd (o147i P) nil nil) nil) (nd (bobj 115) nil nil))) (nd (o27a P) (nd (o43e P) (nd (o75e P) (nd (bobj 139) nil nil) nil) (nd (bobj 107) nil nil)) (nd (o59e P) (nd (o91f P) (nd (o155i P) nil nil) nil) (nd (bobj 123) nil nil))))) (nd (o5a P) (nd (o9a P) (nd (o17a P) (nd (o33c P) (nd (o65e P) (nd (bobj 129) nil nil) nil) (nd (o97f P) nil nil)) (nd (o49e P) (nd (o81e P) (nd (bobj 145) nil nil) nil) (nd (bobj 113) nil nil))) (nd (o25a P) (nd (o41e P) (nd (o73e P) (nd (bobj 137) nil nil) nil) (nd (o105g P) nil nil)) (nd (o57e P) (nd (o89f P) (nd (o153i P) nil nil) nil) (nd (bobj 121) nil nil)))) (nd (o13a P) (nd (o21a P) (nd (o37c P) (nd (o69e P) (nd (bobj 133) nil nil) nil) (nd (o101g P) nil nil)) (nd (o53e P) (nd (o85e P) (nd (o149i P) nil nil) nil) (nd (bobj 117) nil nil))) (nd (o29i P) (nd (o45e P) (nd (o77e P) (nd (bobj 141) nil nil) nil) (nd (bobj 109) nil nil)) (nd (o61e P) (nd (o93f P) (nd (o157i P) nil nil) nil) (nd (bobj 125) nil nil)))))) (nd (o2a P) (nd (o4a P) (nd (o8a P) (nd (o16a P) (nd (o32c P) (nd (o64e P) (nd (bobj 128) nil nil) nil) (nd (o96f P) nil nil)) (nd (o48e P) (nd (o80e P) (nd (bobj 144) nil nil) nil) (nd (bobj 112) nil nil))) (nd (o24a P) (nd (o40e P) (nd (o72e P) (nd (bobj 136) nil nil) nil) (nd (o104g P) nil nil)) (nd (o56e P) (nd (o88e P) (nd (o152i P) nil nil) nil) (nd (bobj 120) nil nil)))) (nd (o12a P) (nd (o20a P) (nd (o36c P) (nd (o68e P) (nd (bobj 132) nil nil) nil) (nd (o100g P) nil nil)) (nd (o52e P) (nd (o84e P) (nd (o148i P) nil nil) nil) (nd (bobj 116) nil nil))) (nd (o28b P) (nd (o44e P) (nd (o76e P) (nd (bobj 140) nil nil) nil) (nd (bobj 108) nil nil)) (nd (o60e P) (nd (o92f P) (nd (o156i P) nil nil) nil) (nd (bobj 124) nil nil))))) (nd (o6a P) (nd (o10a P) (nd (o18a P) (nd (o34c P) (nd (o66e P) (nd (bobj 130) nil nil) nil) (nd (o98f P) nil nil)) (nd (o50e P) (nd (o82e P) (nd (o146i P) nil nil) nil) (nd (bobj 114) nil nil))) (nd (o26a P) (nd (o42e P) (nd (o74e P) (nd (bobj 138) nil nil) nil) (nd (o106g P) nil nil)) (nd (o58e P) (nd (o90f P) (nd (o154i P) nil nil) nil) (nd (bobj 122) nil nil)))) (nd (o14a P) (nd (o22a P) (nd (o38c P) (nd (o70e P) (nd (bobj 134) nil nil) nil) (nd (o102g P) nil nil)) (nd (o54e P) (nd (o86e P) (nd (o150i P) nil nil) nil) (nd (bobj 118) nil nil))) (nd (o30b P) (nd (o46e P) (nd (o78e P) (nd (bobj 142) nil nil) nil) (nd (bobj 110) nil nil)) (nd (o62e P) (nd (o94f P) (nd (o158j P) nil nil) nil) (nd (bobj 126) nil nil)))))))
noncomputable def t_k (P : Params) : BT := (nd (o0a P) (nd (o1a P) (nd (o3k P) (nd (o7a P) (nd (o15a P) (nd (o31b P) (nd (o63e P) (nd (bobj 127) nil nil) nil) (nd (o95f P) (nd (o159k P) nil nil) nil)) (nd (o47e P) (nd (o79e P) (nd (bobj 143) nil nil) nil) (nd (bobj 111) nil nil))) (nd (o23a P) (nd (o39d P) (nd (o71e P) (nd (bobj 135) nil nil) nil) (nd (o103g P) nil nil)) (nd (o55e P) (nd (o87e P) (nd (o151i P) nil nil) nil) (nd (bobj 119) nil nil)))) (nd (o11a P) (nd (o19a P) (nd (o35c P) (nd (o67e P) (nd (bobj 131) nil nil) nil) (nd (o99f P) (nd (o163k P) nil nil) nil)) (nd (o51e P) (nd (o83e P) (nd (o147i P) nil nil) nil) (nd (bobj 115) nil nil))) (nd (o27a P) (nd (o43e P) (nd (o75e P) (nd (bobj 139) nil nil) nil) (nd (bobj 107) nil nil)) (nd (o59e P) (nd (o91f P) (nd (o155i P) nil nil) nil) (nd (bobj 123) nil nil))))) (nd (o5a P) (nd (o9a P) (nd (o17a P) (nd (o33c P) (nd (o65e P) (nd (bobj 129) nil nil) nil) (nd (o97f P) (nd (o161k P) nil nil) nil)) (nd (o49e P) (nd (o81e P) (nd (bobj 145) nil nil) nil) (nd (bobj 113) nil nil))) (nd (o25a P) (nd (o41e P) (nd (o73e P) (nd (bobj 137) nil nil) nil) (nd (o105g P) nil nil)) (nd (o57e P) (nd (o89f P) (nd (o153i P) nil nil) nil) (nd (bobj 121) nil nil)))) (nd (o13a P) (nd (o21a P) (nd (o37c P) (nd (o69e P) (nd (bobj 133) nil nil) nil) (nd (o101g P) (nd (o165k P) nil nil) nil)) (nd (o53e P) (nd (o85e P) (nd (o149i P) nil nil) nil) (nd (bobj 117) nil nil))) (nd (o29k P) (nd (o45e P) (nd (o77e P) (nd (bobj 141) nil nil) nil) (nd (bobj 109) nil nil)) (nd (o61e P) (nd (o93f P) (nd (o157i P) nil nil) nil) (nd (bobj 125) nil nil)))))) (nd (o2a P) (nd (o4a P) (nd (o8a P) (nd (o16a P) (nd (o32c P) (nd (o64e P) (nd (bobj 128) nil nil) nil) (nd (o96f P) (nd (o160k P) nil nil) nil)) (nd (o48e P) (nd (o80e P) (nd (bobj 144) nil nil) nil) (nd (bobj 112) nil nil))) (nd (o24a P) (nd (o40e P) (nd (o72e P) (nd (bobj 136) nil nil) nil) (nd (o104g P) nil nil)) (nd (o56e P) (nd (o88e P) (nd (o152i P) nil nil) nil) (nd (bobj 120) nil nil)))) (nd (o12a P) (nd (o20a P) (nd (o36c P) (nd (o68e P) (nd (bobj 132) nil nil) nil) (nd (o100g P) (nd (o164k P) nil nil) nil)) (nd (o52e P) (nd (o84e P) (nd (o148i P) nil nil) nil) (nd (bobj 116) nil nil))) (nd (o28b P) (nd (o44e P) (nd (o76e P) (nd (bobj 140) nil nil) nil) (nd (bobj 108) nil nil)) (nd (o60e P) (nd (o92f P) (nd (o156i P) nil nil) nil) (nd (bobj 124) nil nil))))) (nd (o6a P) (nd (o10a P) (nd (o18a P) (nd (o34c P) (nd (o66e P) (nd (bobj 130) nil nil) nil) (nd (o98f P) (nd (o162k P) nil nil) nil)) (nd (o50e P) (nd (o82e P) (nd (o146i P) nil nil) nil) (nd (bobj 114) nil nil))) (nd (o26a P) (nd (o42e P) (nd (o74e P) (nd (bobj 138) nil nil) nil) (nd (o106g P) nil nil)) (nd (o58e P) (nd (o90f P) (nd (o154i P) nil nil) nil) (nd (bobj 122) nil nil)))) (nd (o14a P) (nd (o22a P) (nd (o38c P) (nd (o70e P) (nd (bobj 134) nil nil) nil) (nd (o102g P) (nd (o166k P) nil nil) nil)) (nd (o54e P) (nd (o86e P) (nd (o150i P) nil nil) nil) (nd (bobj 118) nil nil))) (nd (o30b P) (nd (o46e P) (nd (o78e P) (nd (bobj 142) nil nil) nil) (nd (bobj 110) nil nil)) (nd (o62e P) (nd (o94f P) (nd (o158j P) nil nil) nil) (nd (bobj 126) nil nil)))))))
noncomputable def t_l (P : Params) : BT := (nd (o0a P) (nd (o1a P) (nd (o3l P) (nd (o7a P) (nd (o15a P) (nd (o31b P) (nd (o63e P) (nd (bobj 127) (nd (o255l P) nil nil) nil) (nd (o191l P) nil nil)) (nd (o95f P) (nd (o159k P) nil nil) (nd (o223l P) nil nil))) (nd (o47e P) (nd (o79e P) (nd (bobj 143) nil nil) (nd (o207l P) nil nil)) (nd (bobj 111) (nd (o175l P) nil nil) (nd (o239l P) nil nil)))) (nd (o23a P) (nd (o39d P) (nd (o71e P) (nd (bobj 135) (nd (o263l P) nil nil) nil) (nd (o199l P) nil nil)) (nd (o103g P) (nd (o167l P) nil nil) (nd (o231l P) nil nil))) (nd (o55e P) (nd (o87e P) (nd (o151i P) nil nil) (nd (o215l P) nil nil)) (nd (bobj 119) (nd (o183l P) nil nil) (nd (o247l P) nil nil))))) (nd (o11a P) (nd (o19a P) (nd (o35c P) (nd (o67e P) (nd (bobj 131) (nd (o259l P) nil nil) nil) (nd (o195l P) nil nil)) (nd (o99f P) (nd (o163k P) nil nil) (nd (o227l P) nil nil))) (nd (o51e P) (nd (o83e P) (nd (o147i P) nil nil) (nd (o211l P) nil nil)) (nd (bobj 115) (nd (o179l P) nil nil) (nd (o243l P) nil nil)))) (nd (o27a P) (nd (o43e P) (nd (o75e P) (nd (bobj 139) (nd (o267l P) nil nil) nil) (nd (o203l P) nil nil)) (nd (bobj 107) (nd (o171l P) nil nil) (nd (o235l P) nil nil))) (nd (o59e P) (nd (o91f P) (nd (o155i P) nil nil) (nd (o219l P) nil nil)) (nd (bobj 123) (nd (o187l P) nil nil) (nd (o251l P) nil nil)))))) (nd (o5a P) (nd (o9a P) (nd (o17a P) (nd (o33c P) (nd (o65e P) (nd (bobj 129) (nd (o257l P) nil nil) nil) (nd (o193l P) nil nil)) (nd (o97f P) (nd (o161k P) nil nil) (nd (o225l P) nil nil))) (nd (o49e P) (nd (o81e P) (nd (bobj 145) nil nil) (nd (o209l P) nil nil)) (nd (bobj 113) (nd (o177l P) nil nil) (nd (o241l P) nil nil)))) (nd (o25a P) (nd (o41e P) (nd (o73e P) (nd (bobj 137) (nd (o265l P) nil nil) nil) (nd (o201l P) nil nil)) (nd (o105g P) (nd (o169l P) nil nil) (nd (o233l P) nil nil))) (nd (o57e P) (nd (o89f P) (nd (o153i P) nil nil) (nd (o217l P) nil nil)) (nd (bobj 121) (nd (o185l P) nil nil) (nd (o249l P) nil nil))))) (nd (o13a P) (nd (o21a P) (nd (o37c P) (nd (o69e P) (nd (bobj 133) (nd (o261l P) nil nil) nil) (nd (o197l P) nil nil)) (nd (o101g P) (nd (o165k P) nil nil) (nd (o229l P) nil nil))) (nd (o53e P) (nd (o85e P) (nd (o149i P) nil nil) (nd (o213l P) nil nil)) (nd (bobj 117) (nd (o181l P) nil nil) (nd (o245l P) nil nil)))) (nd (o29l P) (nd (o45e P) (nd (o77e P) (nd (bobj 141) nil nil) (nd (o205l P) nil nil)) (nd (bobj 109) (nd (o173l P) nil nil) (nd (o237l P) nil nil))) (nd (o61e P) (nd (o93f P) (nd (o157i P) nil nil) (nd (o221l P) nil nil)) (nd (bobj 125) (nd (o189l P) nil nil) (nd (o253l P) nil nil))))))) (nd (o2a P) (nd (o4a P) (nd (o8a P) (nd (o16a P) (nd (o32c P) (nd (o64e P) (nd (bobj 128) (nd (o256l P) nil nil) nil) (nd (o192l P) nil nil)) (nd (o96f P) (nd (o160k P) nil nil) (nd (o224l P) nil nil))) (nd (o48e P) (nd (o80e P) (nd (bobj 144) nil nil) (nd (o208l P) nil nil)) (nd (bobj 112) (nd (o176l P) nil nil) (nd (o240l P) nil nil)))) (nd (o24a P) (nd (o40e P) (nd (o72e P) (nd (bobj 136) (nd (o264l P) nil nil) nil) (nd (o200l P) nil nil)) (nd (o104g P) (nd (o168l P) nil nil) (nd (o232l P) nil nil))) (nd (o56e P) (nd (o88e P) (nd (o152i P) nil nil) (nd (o216l P) nil nil)) (nd (bobj 120) (nd (o184l P) nil nil) (nd (o248l P) nil nil))))) (nd (o12a P) (nd (o20a P) (nd (o36c P) (nd (o68e P) (nd (bobj 132) (nd (o260l P) nil nil) nil) (nd (o196l P) nil nil)) (nd (o100g P) (nd (o164k P) nil nil) (nd (o228l P) nil nil))) (nd (o52e P) (nd (o84e P) (nd (o148i P) nil nil) (nd (o212l P) nil nil)) (nd (bobj 116) (nd (o180l P) nil nil) (nd (o244l P) nil nil)))) (nd (o28b P) (nd (o44e P) (nd (o76e P) (nd (bobj 140) (nd (o268l P) nil nil) nil) (nd (o204l P) nil nil)) (nd (bobj 108) (nd (o172l P) nil nil) (nd (o236l P) nil nil))) (nd (o60e P) (nd (o92f P) (nd (o156i P) nil nil) (nd (o220l P) nil nil)) (nd (bobj 124) (nd (o188l P) nil nil) (nd (o252l P) nil nil)))))) (nd (o6a P) (nd (o10a P) (nd (o18a P) (nd (o34c P) (nd (o66e P) (nd (bobj 130) (nd (o258l P) nil nil) nil) (nd (o194l P) nil nil)) (nd (o98f P) (nd (o162k P) nil nil) (nd (o226l P) nil nil))) (nd (o50e P) (nd (o82e P) (nd (o146i P) nil nil) (nd (o210l P) nil nil)) (nd (bobj 114) (nd (o178l P) nil nil) (nd (o242l P) nil nil)))) (nd (o26a P) (nd (o42e P) (nd (o74e P) (nd (bobj 138) (nd (o266l P) nil nil) nil) (nd (o202l P) nil nil)) (nd (o106g P) (nd (o170l P) nil nil) (nd (o234l P) nil nil))) (nd (o58e P) (nd (o90f P) (nd (o154i P) nil nil) (nd (o218l P) nil nil)) (nd (bobj 122) (nd (o186l P) nil nil) (nd (o250l P) nil nil))))) (nd (o14a P) (nd (o22a P) (nd (o38c P) (nd (o70e P) (nd (bobj 134) (nd (o262l P) nil nil) nil) (nd (o198l P) nil nil)) (nd (o102g P) (nd (o166k P) nil nil) (nd (o230l P) nil nil))) (nd (o54e P) (nd (o86e P) (nd (o150i P) nil nil) (nd (o214l P) nil nil)) (nd (bobj 118) (nd (o182l P) nil nil) (nd (o246l P) nil nil)))) (nd (o30b P) (nd (o46e P) (nd (o78e P) (nd (bobj 142) nil nil) (nd (o206l P) nil nil)) (nd (bobj 110) (nd (o174l P) nil nil) (nd (o238l P) nil nil))) (nd (o62e P) (nd (o94f P) (nd (o158j P) nil nil) (nd (o222l P) nil nil)) (nd (bobj 126) (nd (o190l P) nil nil) (nd (o254l P) nil nil))))))))
noncomputable def t_m (P : Params) : BT := (nd (o0a P) (nd (o1a P) (nd (o3m P) (nd (o7a P) (nd (o15a P) (nd (o31b P) (nd (o63e P) (nd (bobj 127) (nd (o255l P) nil nil) nil) (nd (o191l P) (nd (o319m P) nil nil) nil)) (nd (o95f P) (nd (o159k P) (nd (o287m P) nil nil) nil) (nd (o223l P) (nd (o351m P) nil nil) nil))) (nd (o47e P) (nd (o79e P) (nd (bobj 143) (nd (o271m P) nil nil) nil) (nd (o207l P) (nd (o335m P) nil nil) nil)) (nd (bobj 111) (nd (o175l P) (nd (o303m P) nil nil) nil) (nd (o239l P) nil nil)))) (nd (o23a P) (nd (o39d P) (nd (o71e P) (nd (bobj 135) (nd (o263l P) nil nil) nil) (nd (o199l P) (nd (o327m P) nil nil) nil)) (nd (o103g P) (nd (o167l P) (nd (o295m P) nil nil) nil) (nd (o231l P) nil nil))) (nd (o55e P) (nd (o87e P) (nd (o151i P) (nd (o279m P) nil nil) nil) (nd (o215l P) (nd (o343m P) nil nil) nil)) (nd (bobj 119) (nd (o183l P) (nd (o311m P) nil nil) nil) (nd (o247l P) nil nil))))) (nd (o11a P) (nd (o19a P) (nd (o35c P) (nd (o67e P) (nd (bobj 131) (nd (o259l P) nil nil) nil) (nd (o195l P) (nd (o323m P) nil nil) nil)) (nd (o99f P) (nd (o163k P) (nd (o291m P) nil nil) nil) (nd (o227l P) nil nil))) (nd (o51e P) (nd (o83e P) (nd (o147i P) (nd (o275m P) nil nil) nil) (nd (o211l P) (nd (o339m P) nil nil) nil)) (nd (bobj 115) (nd (o179l P) (nd (o307m P) nil nil) nil) (nd (o243l P) nil nil)))) (nd (o27a P) (nd (o43e P) (nd (o75e P) (nd (bobj 139) (nd (o267l P) nil nil) nil) (nd (o203l P) (nd (o331m P) nil nil) nil)) (nd (bobj 107) (nd (o171l P) (nd (o299m P) nil nil) nil) (nd (o235l P) nil nil))) (nd (o59e P) (nd (o91f P) (nd (o155i P) (nd (o283m P) nil nil) nil) (nd (o219l P) (nd (o347m P) nil nil) nil)) (nd (bobj 123) (nd (o187l P) (nd (o315m P) nil nil) nil) (nd (o251l P) nil nil)))))) (nd (o5a P) (nd (o9a P) (nd (o17a P) (nd (o33c P) (nd (o65e P) (nd (bobj 129) (nd (o257l P) nil nil) nil) (nd (o193l P) (nd (o321m P) nil nil) nil)) (nd (o97f P) (nd (o161k P) (nd (o289m P) nil nil) nil) (nd (o225l P) nil nil))) (nd (o49e P) (nd (o81e P) (nd (bobj 145) (nd (o273m P) nil nil) nil) (nd (o209l P) (nd (o337m P) nil nil) nil)) (nd (bobj 113) (nd (o177l P) (nd (o305m P) nil nil) nil) (nd (o241l P) nil nil)))) (nd (o25a P) (nd (o41e P) (nd (o73e P) (nd (bobj 137) (nd (o265l P) nil nil) nil) (nd (o201l P) (nd (o329m P) nil nil) nil)) (nd (o105g P) (nd (o169l P) (nd (o297m P) nil nil) nil) (nd (o233l P) nil nil))) (nd (o57e P) (nd (o89f P) (nd (o153i P) (nd (o281m P) nil nil) nil) (nd (o217l P) (nd (o345m P) nil nil) nil)) (nd (bobj 121) (nd (o185l P) (nd (o313m P) nil nil) nil) (nd (o249l P) nil nil))))) (nd (o13a P) (nd (o21a P) (nd (o37c P) (nd (o69e P) (nd (bobj 133) (nd (o261l P) nil nil) nil) (nd (o197l P) (nd (o325m P) nil nil) nil)) (nd (o101g P) (nd (o165k P) (nd (o293m P) nil nil) nil) (nd (o229l P) nil nil))) (nd (o53e P) (nd (o85e P) (nd (o149i P) (nd (o277m P) nil nil) nil) (nd (o213l P) (nd (o341m P) nil nil) nil)) (nd (bobj 117) (nd (o181l P) (nd (o309m P) nil nil) nil) (nd (o245l P) nil nil)))) (nd (o29m P) (nd (o45e P) (nd (o77e P) (nd (bobj 141) (nd (o269m P) nil nil) nil) (nd (o205l P) (nd (o333m P) nil nil) nil)) (nd (bobj 109) (nd (o173l P) (nd (o301m P) nil nil) nil) (nd (o237l P) nil nil))) (nd (o61e P) (nd (o93f P) (nd (o157i P) (nd (o285m P) nil nil) nil) (nd (o221l P) (nd (o349m P) nil nil) nil)) (nd (bobj 125) (nd (o189l P) (nd (o317m P) nil nil) nil) (nd (o253l P) nil nil))))))) (nd (o2a P) (nd (o4a P) (nd (o8a P) (nd (o16a P) (nd (o32c P) (nd (o64e P) (nd (bobj 128) (nd (o256l P) nil nil) nil) (nd (o192l P) (nd (o320m P) nil nil) nil)) (nd (o96f P) (nd (o160k P) (nd (o288m P) nil nil) nil) (nd (o224l P) nil nil))) (nd (o48e P) (nd (o80e P) (nd (bobj 144) (nd (o272m P) nil nil) nil) (nd (o208l P) (nd (o336m P) nil nil) nil)) (nd (bobj 112) (nd (o176l P) (nd (o304m P) nil nil) nil) (nd (o240l P) nil nil)))) (nd (o24a P) (nd (o40e P) (nd (o72e P) (nd (bobj 136) (nd (o264l P) nil nil) nil) (nd (o200l P) (nd (o328m P) nil nil) nil)) (nd (o104g P) (nd (o168l P) (nd (o296m P) nil nil) nil) (nd (o232l P) nil nil))) (nd (o56e P) (nd (o88e P) (nd (o152i P) (nd (o280m P) nil nil) nil) (nd (o216l P) (nd (o344m P) nil nil) nil)) (nd (bobj 120) (nd (o184l P) (nd (o312m P) nil nil) nil) (nd (o248l P) nil nil))))) (nd (o12a P) (nd (o20a P) (nd (o36c P) (nd (o68e P) (nd (bobj 132) (nd (o260l P) nil nil) nil) (nd (o196l P) (nd (o324m P) nil nil) nil)) (nd (o100g P) (nd (o164k P) (nd (o292m P) nil nil) nil) (nd (o228l P) nil nil))) (nd (o52e P) (nd (o84e P) (nd (o148i P) (nd (o276m P) nil nil) nil) (nd (o212l P) (nd (o340m P) nil nil) nil)) (nd (bobj 116) (nd (o180l P) (nd (o308m P) nil nil) nil) (nd (o244l P) nil nil)))) (nd (o28b P) (nd (o44e P) (nd (o76e P) (nd (bobj 140) (nd (o268l P) nil nil) nil) (nd (o204l P) (nd (o332m P) nil nil) nil)) (nd (bobj 108) (nd (o172l P) (nd (o300m P) nil nil) nil) (nd (o236l P) nil nil))) (nd (o60e P) (nd (o92f P) (nd (o156i P) (nd (o284m P) nil nil) nil) (nd (o220l P) (nd (o348m P) nil nil) nil)) (nd (bobj 124) (nd (o188l P) (nd (o316m P) nil nil) nil) (nd (o252l P) nil nil)))))) (nd (o6a P) (nd (o10a P) (nd (o18a P) (nd (o34c P) (nd (o66e P) (nd (bobj 130) (nd (o258l P) nil nil) nil) (nd (o194l P) (nd (o322m P) nil nil) nil)) (nd (o98f P) (nd (o162k P) (nd (o290m P) nil nil) nil) (nd (o226l P) nil nil))) (nd (o50e P) (nd (o82e P) (nd (o146i P) (nd (o274m P) nil nil) nil) (nd (o210l P) (nd (o338m P) nil nil) nil)) (nd (bobj 114) (nd (o178l P) (nd (o306m P) nil nil) nil) (nd (o242l P) nil nil)))) (nd (o26a P) (nd (o42e P) (nd (o74e P) (nd (bobj 138) (nd (o266l P) nil nil) nil) (nd (o202l P) (nd (o330m P) nil nil) nil)) (nd (o106g P) (nd (o170l P) (nd (o298m P) nil nil) nil) (nd (o234l P) nil nil))) (nd (o58e P) (nd (o90f P) (nd (o154i P) (nd (o282m P) nil nil) nil) (nd (o218l P) (nd (o346m P) nil nil) nil)) (nd (bobj 122) (nd (o186l P) (nd (o314m P) nil nil) nil) (nd (o250l P) nil nil))))) (nd (o14a P) (nd (o22a P) (nd (o38c P) (nd (o70e P) (nd (bobj 134) (nd (o262l P) nil nil) nil) (nd (o198l P) (nd (o326m P) nil nil) nil)) (nd (o102g P) (nd (o166k P) (nd (o294m P) nil nil) nil) (nd (o230l P) nil nil))) (nd (o54e P) (nd (o86e P) (nd (o150i P) (nd (o278m P) nil nil) nil) (nd (o214l P) (nd (o342m P) nil nil) nil)) (nd (bobj 118) (nd (o182l P) (nd (o310m P) nil nil) nil) (nd (o246l P) nil nil)))) (nd (o30b P) (nd (o46e P) (nd (o78e P) (nd (bobj 142) (nd (o270m P) nil nil) nil) (nd (o206l P) (nd (o334m P) nil nil) nil)) (nd (bobj 110) (nd (o174l P) (nd (o302m P) nil nil) nil) (nd (o238l P) nil nil))) (nd (o62e P) (nd (o94f P) (nd (o158j P) (nd (o286m P) nil nil) nil) (nd (o222l P) (nd (o350m P) nil nil) nil)) (nd (bobj 126) (nd (o190l P) (nd (o318m P) nil nil) nil) (nd (o254l P) nil nil))))))))
noncomputable abbrev pw : Program := PySem.Challenge.pw_tc0097_01
noncomputable abbrev hEnv : Env := { scope := pw.main.scope, locals := mainNs, globals := mainNs, cells := [], code := .ref 30, frame := some 31 }
noncomputable abbrev hCode : Code := .body (behindTheImports pw) hEnv
noncomputable abbrev p00 : Pos := { line := 0, col := 0, endLine := 0, endCol := 0 }
noncomputable abbrev st (T : Params → BT) (n toks : Nat) (w : World) (os : OsState) : SharedT := ⟨T w.params, n, {}, #[], {}, toks, os⟩
noncomputable abbrev thr (l : List Stmt) (p : Pos) : Thread := piecesOf l hEnv hCode p [topFrame p00]
noncomputable abbrev sr (w : World) : Nat → Shared → Thread → Option (Flow × Shared × Code × Pos) := segRun treeTable pw w 28 (some (.ref 6)) 1
noncomputable abbrev thd (t : Sem Fin) (p : Pos) : Thread := ⟨t, hCode, p, [topFrame p00]⟩
/- n steps lead from a tree to what is behind it -/
noncomputable def Tr (w : World) (vs : List Value) (n : Nat) {α : Type} (t : Sem α) (s : Shared) (p : Pos) (a : α) (s' : Shared) (p' : Pos) : Prop :=
  ∀ (K : α → Sem Fin) (H : Value → Sem Fin) (N : Nat), sr w (N + n) s (thd (t.wrap K H id (vs ++ ·)) p) = sr w N s' (thd (K a) p')
section
variable {w : World} {vs : List Value} {n m : Nat} {α β : Type} {s s' s'' : Shared} {p p' p'' : Pos} {a : α} {b : β}
theorem Tr_pure : Tr w vs 0 (pure a : Sem α) s p a s p := fun K H N => rfl
theorem Tr_bind {t : Sem α} {f : α → Sem β} (h : Tr w vs n t s p a s' p') (k : Tr w vs m (f a) s' p' b s'' p'') : Tr w vs (m + n) (t >>= f) s p b s'' p'' := fun K H N => by
  rw [Sem.bind_eq_wrap', Sem.wrap_wrap]
  have h1 := h (fun x => (f x).wrap K H id (vs ++ ·)) H (N + m)
  rw [Nat.add_assoc] at h1
  exact h1.trans (k K H N)
theorem Tr_keep {us : List Value} {t : Sem α} (h : Tr w (vs ++ us) n t s p a s' p') : Tr w vs n (t.keep us) s p a s' p' := fun K H N => by
  rw [Sem.keep_eq_wrap, Sem.wrap_wrap]
  have h1 := h K H N
  rw [show (fun l => vs ++ (us ++ l)) = fun l => (vs ++ us) ++ l by funext l; simp]
  exact h1
theorem Tr_onRaise {t : Sem α} {k : Value → Sem Unit} (h : Tr w vs n t s p a s' p') : Tr w vs n (t.onRaise k) s p a s' p' := fun K H N => by
  rw [Sem.onRaise_eq_wrap, Sem.wrap_wrap]
  exact h K _ N
theorem Tr_eq {t t' : Sem α} (e : t = t') (h : Tr w vs n t' s p a s' p') : Tr w vs n t s p a s' p' := e ▸ h
theorem Tr_load {d : Addr} {q : Option Value} {o : Obj} (h : s.heap.get? d = some o) : Tr w vs 1 (loadPart d q) s p o s p := fun K H N => by
  obtain ⟨hp, g, dr, tk, os⟩ := s
  show segRun _ _ _ _ _ _ (N + 1) _ ⟨.load d q fun x => K x, _, _, _⟩ = _
  rw [segRun]
  show (match step (denote treeTable) pw w ⟨hp, g, dr, tk, os⟩ ⟨.load d q fun x => K x, _, _, _⟩ with | .go s' t' => _ | .halt _ _ => _) = _
  simp only [step]
  rw [show hp.get? d = some o from h]
theorem Tr_upd {d : Addr} {q : Option Value} {f : Obj → Obj} (hd : Nat.ble 28 d = true) (h : (s.heap.get? d).isSome = true) : Tr w vs 1 (updatePart d q f) s p () { s with heap := s.heap.update d f } p := fun K H N => by
  obtain ⟨hp, g, dr, tk, os⟩ := s
  show segRun _ _ _ _ _ _ (N + 1) _ ⟨.update d q f fun x => K x, _, _, _⟩ = _
  rw [segRun]
  have hk : stepOk 28 (some (.ref 6)) ⟨.update d q f fun x => K x, hCode, p, [topFrame p00]⟩ = true := by
    show (true && (Nat.ble 28 d || _ || _ || _)) = true
    rw [hd]
    rfl
  show (match stepOk 28 (some (.ref 6)) ⟨.update d q f fun x => K x, hCode, p, [topFrame p00]⟩ with | false => _ | true => _) = _
  rw [hk]
  show (match step (denote treeTable) pw w ⟨hp, g, dr, tk, os⟩ ⟨.update d q f fun x => K x, _, _, _⟩ with | .go s' t' => _ | .halt _ _ => _) = _
  simp only [step]
  rw [show (hp.get? d).isSome = true from h]
  rfl
theorem Tr_alloc {o : Obj} : Tr w vs 1 (alloc o) s p s.heap.objs.size { s with heap := s.heap.push o } p := fun K H N => by
  obtain ⟨hp, g, dr, tk, os⟩ := s
  rfl
theorem Tr_fresh : Tr w vs 1 fresh s p s.toks { s with toks := s.toks + 1 } p := fun K H N => by
  obtain ⟨hp, g, dr, tk, os⟩ := s
  rfl
theorem Tr_rule {x : String} : Tr w vs 1 (rule x) s p () s p := fun K H N => by
  obtain ⟨hp, g, dr, tk, os⟩ := s
  rfl
theorem Tr_at {q : Pos} : Tr w vs 1 (standAt q) s p () s q := fun K H N => by
  obtain ⟨hp, g, dr, tk, os⟩ := s
  rfl
end
/- the hash as the builtin says it -/
noncomputable def rawHash (m : Nat) : Int :=
  let x : Int := Int.ofNat m
  let h : Int := x.natAbs % (2 ^ 61 - 1 : Nat)
  let h := if x < 0 then -h else h
  if h == -1 then -2 else h
theorem rawHash_eq {m : Nat} (h : m < 2 ^ 60) : rawHash m = (m : Int) := by
  unfold rawHash
  have h1 : (Int.ofNat m).natAbs = m := rfl
  have h2 : ¬ (Int.ofNat m < 0) := by simp
  simp only [h1, if_neg h2]
  have h3 : ((2 ^ 61 - 1 : Nat) : Int) = 2305843009213693951 := by decide +kernel
  rw [h3, show (m : Int) % 2305843009213693951 = m by wtm_at "om"]
  rw [if_neg (by simp)]
section
variable {w : World} {m t tk : Nat} {s : Shared} {p : Pos} {h : Heap} {g : Array GenState} {d : Drawn} {os : OsState} {a b : Addr} {vs : List Value}
theorem reduced_raw (hm : m < 2 ^ 60) : pyHashByItsType.reduced (rawHash m) = pure (m : Int) := by
  rw [rawHash_eq hm]
  unfold pyHashByItsType.reduced
  have h1 : (decide (-(2 ^ 63 : Int) ≤ (m : Int)) && decide ((m : Int) < 2 ^ 63)) = true := by
    rw [Bool.and_eq_true, decide_eq_true_eq, decide_eq_true_eq]
    wtm_at "om"
  rw [if_pos h1, if_neg (by simp)]
theorem Tr_hash {bb : Bool} (hm : m < 2 ^ 60) (X : ∀ e : Unit → Sem Value, Tr (w.withFollow "special-get-raises" bb) vs 5 (callSpecialIfBoundUnlessNone? (.int (Int.ofNat m) t) "__hash__" (e ())) ⟨h, g, d, tk, os⟩ p (some (.int (rawHash m) tk)) ⟨h, g, d, tk + 1, os⟩ p) :
    Tr (w.withFollow "special-get-raises" bb) vs 5 (pyHash (.int (Int.ofNat m) t)) ⟨h, g, d, tk, os⟩ p (m : Int) ⟨h, g, d, tk + 1, os⟩ p := by
  show Tr _ _ (5 + 0) (pyHashByItsType (.int (Int.ofNat m) t)) _ _ _ _ _
  unfold pyHashByItsType
  refine Tr_bind (n := 0) (m := 5) (a := ()) (s' := ⟨h, g, d, tk, os⟩) (p' := p) (fun K H N => by kernel_rfl) ?_
  refine Tr_bind (n := 0) (m := 5) (a := some (.builtin "int.__hash__")) (s' := ⟨h, g, d, tk, os⟩) (p' := p) (fun K H N => by kernel_rfl) ?_
  dsimp only
  rw [if_neg (by decide)]
  refine Tr_bind (n := 0) (m := 5) (a := some (.builtin "int.__hash__")) (s' := ⟨h, g, d, tk, os⟩) (p' := p) (fun K H N => by kernel_rfl) ?_
  rw [if_neg (by decide)]
  refine Tr_bind (n := 5) (m := 0) (a := some (.int (rawHash m) tk)) (s' := ⟨h, g, d, tk + 1, os⟩) (p' := p) (X fun _ => _) ?_
  show Tr _ _ 0 (pyHashByItsType.reduced (rawHash m)) _ _ _ _ _
  rw [reduced_raw hm]
  exact Tr_pure
theorem raw1 (bb : Bool) (e : Unit → Sem Value) : Tr (w.withFollow "special-get-raises" bb) [.ref a] 5 (callSpecialIfBoundUnlessNone? (.int (Int.ofNat m) t) "__hash__" (e ())) ⟨h, g, d, tk, os⟩ p (some (.int (rawHash m) tk)) ⟨h, g, d, tk + 1, os⟩ p := by
  intro K H N
  cases bb
  · kernel_rfl
  · kernel_rfl
theorem raw2 (bb : Bool) (e : Unit → Sem Value) : Tr (w.withFollow "special-get-raises" bb) [.ref a, .ref b] 5 (callSpecialIfBoundUnlessNone? (.int (Int.ofNat m) t) "__hash__" (e ())) ⟨h, g, d, tk, os⟩ p (some (.int (rawHash m) tk)) ⟨h, g, d, tk + 1, os⟩ p := by
  intro K H N
  cases bb
  · kernel_rfl
  · kernel_rfl
/- who may hold while a key is hashed -/
noncomputable def Holds (vs : List Value) : Prop := (∃ a : Addr, vs = [.ref a]) ∨ ∃ a b : Addr, vs = [.ref a, .ref b]
theorem hash_at {bb : Bool} (hv : Holds vs) (hm : m < 2 ^ 60) : Tr (w.withFollow "special-get-raises" bb) vs 5 (pyHash (.int (Int.ofNat m) t)) ⟨h, g, d, tk, os⟩ p (m : Int) ⟨h, g, d, tk + 1, os⟩ p := by
  rcases hv with ⟨a, rfl⟩ | ⟨a, b, rfl⟩
  · exact Tr_hash hm (raw1 bb)
  · exact Tr_hash hm (raw2 bb)
end
section
variable {w : World} {vs : List Value} {t tk n : Nat} {i hh : Int} {v : Value} {p : Pos} {h : Heap} {g : Array GenState} {dr : Drawn} {os : OsState} {d : Addr} {es : List DictEntry}
theorem places_none (hf : ∀ e ∈ es, e.hash ≠ hh) : placesWithHash es.toArray.size (fun i => es.toArray[i]?.map (·.hash)) hh = [] := by
  unfold placesWithHash
  rw [List.filter_eq_nil_iff]
  intro k hk hq
  have hq : (es.toArray[k]?.map (·.hash) == some hh) = true := hq
  rw [List.getElem?_toArray] at hq
  cases he : es[k]? with
  | none => rw [he] at hq; simp at hq
  | some e =>
    rw [he] at hq
    simp at hq
    exact hf e (List.mem_of_getElem? he) hq
theorem find_none (hg : h.get? d = some (dobj es n)) (hf : ∀ e ∈ es, e.hash ≠ hh) : Tr w vs 1 (dictFind d (.int i t) hh) ⟨h, g, dr, tk, os⟩ p none ⟨h, g, dr, tk, os⟩ p := by
  unfold dictFind
  show Tr _ _ (0 + 1) (dictEntries d (some (.int i 0)) >>= _) _ _ _ _ _
  refine Tr_bind (a := es.toArray) (s' := ⟨h, g, dr, tk, os⟩) (p' := p) ?_ ?_
  · unfold dictEntries
    exact Tr_bind (n := 1) (m := 0) (Tr_load hg) Tr_pure
  dsimp only
  rw [places_none hf]
  refine Tr_eq (if_pos rfl) ?_
  exact Tr_pure
noncomputable abbrev pushed (e : DictEntry) : Obj → Obj := Obj.mapDictKeys (·.push e)
theorem pushed_eq (e : DictEntry) : pushed e (dobj es n) = dobj (es ++ [e]) (n + 1) := by
  show (⟨.type "dict", none, .dict (es.toArray.push e) (n + 1), #[]⟩ : Obj) = _
  rw [List.push_toArray]
theorem get_pushed {e : DictEntry} (hg : h.get? d = some (dobj es n)) : (h.update d (pushed e)).get? d = some (dobj (es ++ [e]) (n + 1)) := by
  rw [Heap.get?_update_self _ hg (by rw [pushed_eq]; rfl), pushed_eq]
theorem upd_keys {e : DictEntry} {q : Option Value} (hg : h.get? d = some (dobj es n)) (hd : Nat.ble 28 d = true) (hl : es.length ≤ 2000) : Tr w vs 3 (updateDictKeys d (·.push e) q) ⟨h, g, dr, tk, os⟩ p () ⟨h.update d (pushed e), g, dr, tk, os⟩ p := by
  unfold updateDictKeys
  refine Tr_bind (n := 1) (m := 2) (a := dobj es n) (s' := ⟨h, g, dr, tk, os⟩) (p' := p) (Tr_load hg) ?_
  show Tr _ _ 2 (updatePart d q (pushed e) >>= fun _ => lookBehind d q) _ _ _ _ _
  refine Tr_bind (n := 1) (m := 1) (a := ()) (s' := ⟨h.update d (pushed e), g, dr, tk, os⟩) (p' := p) (Tr_upd hd (by rw [hg]; rfl)) ?_
  unfold lookBehind
  refine Tr_bind (n := 1) (m := 0) (a := dobj (es ++ [e]) (n + 1)) (s' := ⟨h.update d (pushed e), g, dr, tk, os⟩) (p' := p) (Tr_load (get_pushed hg)) ?_
  have hp : (dobj (es ++ [e]) (n + 1)).data.pastItsLine = none := by
    show Data.pastItsLine (.dict (es ++ [e]).toArray (n + 1)) = none
    show (if (es ++ [e]).toArray.size > sizeLine + 1 then some "dict:memory" else none) = none
    have := big_line
    rw [if_neg (by simp; wtm_at "om")]
  rw [hp]
  exact Tr_pure
/- a new key, its hash known -/
theorem set_hashed {key : Int} {t2 : Nat} (hg : h.get? d = some (dobj es n)) (hd : Nat.ble 28 d = true) (hl : es.length ≤ 2000) (hf : ∀ e ∈ es, e.hash ≠ hh) (hv : ∀ a, v ≠ .ref a) : Tr w vs 5 (dictSetHashed d (.int i t) hh v) ⟨h, g, dr, tk, os⟩ p () ⟨h.update d (pushed ⟨hh, .int i t, v⟩), g, dr, tk, os⟩ p := by
  unfold dictSetHashed
  rw [show holding [(.int i t : Value), v] = (fun m => m : Sem Unit → Sem Unit) by funext m; cases v <;> first | rfl | exact absurd rfl (hv _)]
  refine Tr_bind (n := 1) (m := 4) (a := none) (s' := ⟨h, g, dr, tk, os⟩) (p' := p) (find_none hg hf) ?_
  show Tr _ _ 4 (rule "dict.set.new-key-at-the-end" >>= fun _ => updateDictKeys d (·.push ⟨hh, .int i t, v⟩) (some (.int i 0))) _ _ _ _ _
  exact Tr_bind (n := 1) (m := 3) Tr_rule (upd_keys hg hd hl)
theorem put_at (hg : h.get? d = some (dobj es n)) (hd : Nat.ble 28 d = true) (hl : es.length ≤ 2000) (hf : ∀ e ∈ es, e.hash ≠ hh) : Tr w vs 4 (dictPut d hh (.int i t) v) ⟨h, g, dr, tk, os⟩ p () ⟨h.update d (pushed ⟨hh, .int i t, v⟩), g, dr, tk, os⟩ p := by
  unfold dictPut
  refine Tr_bind (n := 1) (m := 3) (a := none) (s' := ⟨h, g, dr, tk, os⟩) (p' := p) (find_none hg hf) ?_
  exact upd_keys hg hd hl
theorem set_at {bb : Bool} {m : Nat} (hvs : Holds vs) (hm : m < 2 ^ 60) (hg : h.get? d = some (dobj es n)) (hd : Nat.ble 28 d = true) (hl : es.length ≤ 2000) (hf : ∀ e ∈ es, e.hash ≠ (m : Int)) (hv : ∀ a, v ≠ .ref a) : Tr (w.withFollow "special-get-raises" bb) vs 10 (dictSet d (.int (Int.ofNat m) t) v) ⟨h, g, dr, tk, os⟩ p () ⟨h.update d (pushed ⟨m, .int (Int.ofNat m) t, v⟩), g, dr, tk + 1, os⟩ p := by
  unfold dictSet
  rw [show holding [(.int (Int.ofNat m) t : Value), v] = (fun m => m : Sem Unit → Sem Unit) by funext m; cases v <;> first | rfl | exact absurd rfl (hv _)]
  exact Tr_bind (n := 5) (m := 5) (hash_at hvs hm) (set_hashed (key := 0) (t2 := 0) hg hd hl hf hv)
end
section
variable {w : World} {vs : List Value} {t tk n : Nat} {α : Type} {x : α} {v : Value} {p p' : Pos} {s s' : Shared} {h : Heap} {g : Array GenState} {dr : Drawn} {os : OsState} {d a : Addr} {es : List DictEntry}
theorem Tr_loadk {q : Option Value} {k : Obj → Sem α} {o : Obj} (hg : s.heap.get? d = some o) (hk : Tr w vs n (k o) s p x s' p') : Tr w vs (n + 1) (.load d q k) s p x s' p' := by
  have e : (Sem.load d q k : Sem α) = loadPart d q >>= k := rfl
  rw [e]
  exact Tr_bind (n := 1) (m := n) (Tr_load hg) hk
theorem Tr_typeOf {o : Obj} (hg : s.heap.get? a = some o) : Tr w vs 1 (typeOf (.ref a)) s p o.cls s p := by
  unfold typeOf
  exact Tr_bind (n := 1) (m := 0) (Tr_load hg) Tr_pure
theorem sub_dd : isSubtype (.type "dict") (.type "dict") = pure true := by rw [isSubtype_type]; kernel_rfl
theorem iter_d : typeLookup (.type "dict") "__iter__" = pure (some (.builtin "dict.__iter__")) := by rw [typeLookup_type, builtinLookup_eq_fast]; kernel_rfl
theorem isDict (hg : s.heap.get? a = some (dobj es n)) : Tr w vs 1 (isInstance (.ref a) (.type "dict")) s p true s p := by
  unfold isInstance
  refine Tr_bind (n := 1) (m := 0) (Tr_typeOf hg) ?_
  refine Tr_eq sub_dd Tr_pure
theorem iterOf (hg : s.heap.get? a = some (dobj es n)) : Tr w vs 1 (specialOf (.ref a) "__iter__") s p (some (.builtin "dict.__iter__")) s p := by
  unfold specialOf
  refine Tr_bind (n := 1) (m := 0) (Tr_typeOf hg) ?_
  refine Tr_eq iter_d Tr_pure
theorem ents (hg : s.heap.get? a = some (dobj es n)) {q : Option Value} : Tr w vs 1 (dictEntries a q) s p es.toArray s p := by
  unfold dictEntries
  exact Tr_bind (n := 1) (m := 0) (Tr_load hg) Tr_pure
theorem epoch (hg : s.heap.get? a = some (dobj es n)) {q : Option Value} : Tr w vs 1 (dictEpoch a q) s p n s p := by
  unfold dictEpoch
  exact Tr_bind (n := 1) (m := 0) (Tr_load hg) Tr_pure
theorem Tr_bind0 {β : Type} {t : Sem α} {f : α → Sem β} {a : α} {b : β} {s'' : Shared} {p'' : Pos} (h : Tr w vs n t s p a s' p') (k : Tr w vs 0 (f a) s' p' b s'' p'') : Tr w vs n (t >>= f) s p b s'' p'' := by
  have := Tr_bind h k
  rwa [Nat.zero_add] at this
theorem Tr_for {γ : Type} {c : Nat} : ∀ (l : List γ) (body : γ → PUnit → Sem (ForInStep PUnit)) (S : Nat → Shared) (P : Nat → Pos), (∀ i x, l[i]? = some x → Tr w vs c (body x ⟨⟩) (S i) (P i) (.yield ⟨⟩) (S (i + 1)) (P (i + 1))) → Tr w vs (c * l.length) (forIn l PUnit.unit body) (S 0) (P 0) PUnit.unit (S l.length) (P l.length)
  | [], body, S, P, _ => by
    rw [List.forIn_nil]
    exact Tr_pure
  | x :: r, body, S, P, h => by
    rw [List.forIn_cons, List.length_cons, Nat.mul_succ]
    refine Tr_bind (n := c) (m := c * r.length) (h 0 x rfl) ?_
    exact Tr_for r body (fun i => S (i + 1)) (fun i => P (i + 1)) fun i y hy => h (i + 1) y hy
/- a heap of a list -/
noncomputable abbrev hp (l : List Obj) : Heap := ⟨l.toArray, {}⟩
theorem hp_get {l1 l2 : List Obj} {es : List DictEntry} {n a : Nat} (ha : a = l1.length) : (hp (l1 ++ dobj es n :: l2)).get? a = some (dobj es n) := by
  subst ha
  unfold Heap.get?
  simp
theorem hp_upd {l1 l2 : List Obj} {o : Obj} {f : Obj → Obj} {a : Nat} (ha : a = l1.length) : (hp (l1 ++ o :: l2)).update a f = hp (l1 ++ f o :: l2) := by
  subst ha
  show Heap.mk _ _ = Heap.mk _ _
  congr 1
  apply Array.ext_getElem?
  intro i
  rw [Array.getElem?_modify]
  simp only [List.getElem?_toArray]
  by_cases e : l1.length = i
  · subst e; simp
  · rw [if_neg e]
    by_cases h : i < l1.length
    · rw [List.getElem?_append_left h, List.getElem?_append_left h]
    · rw [List.getElem?_append_right (by wtm_at "om"), List.getElem?_append_right (by wtm_at "om"), List.getElem?_cons, List.getElem?_cons, if_neg (by wtm_at "om"), if_neg (by wtm_at "om")]
theorem hp_push {l : List Obj} {o : Obj} : (hp l).push o = hp (l ++ [o]) := by
  show Heap.mk _ _ = Heap.mk _ _
  congr 1
  simp
theorem hp_pushed {l1 l2 : List Obj} {e : DictEntry} {n a : Nat} (ha : a = l1.length) : (hp (l1 ++ dobj es n :: l2)).update a (pushed e) = hp (l1 ++ dobj (es ++ [e]) (n + 1) :: l2) := by
  rw [hp_upd ha, pushed_eq]
/- entries as they are met here -/
noncomputable def Plain (e : DictEntry) : Prop := ∃ i t, e.key = .int i t ∧ ∀ a, e.val ≠ .ref a
theorem hold_plain {e : DictEntry} (h : Plain e) {m : Sem α} : holding [e.key, e.val] m = m := by
  obtain ⟨i, t, h1, h2⟩ := h
  unfold holding
  rw [h1]
  cases hv : e.val with
  | ref a => exact absurd hv (h2 a)
  | _ => rfl
theorem merge_hp {l1 l2 : List Obj} {es fs : List DictEntry} {n m d a : Nat} (hd : d = l1.length) (ha : a = l1.length + 1 + l2.length) (h1 : 28 ≤ l1.length) (he : es ≠ []) (hp1 : ∀ e ∈ fs, Plain e) (hn : ((es ++ fs).map (·.hash)).Nodup) (hl : es.length + fs.length ≤ 2000) :
    Tr w vs (6 * fs.length + 5) (mergeMapping d (.ref a) false) ⟨hp (l1 ++ dobj es n :: (l2 ++ [dobj fs m])), g, dr, tk, os⟩ p () ⟨hp (l1 ++ dobj (es ++ fs) (n + fs.length) :: (l2 ++ [dobj fs m])), g, dr, tk, os⟩ p := by
  have gd : ∀ es n, (hp (l1 ++ dobj es n :: (l2 ++ [dobj fs m]))).get? d = some (dobj es n) := fun es n => hp_get hd
  have ga : ∀ es n, (hp (l1 ++ dobj es n :: (l2 ++ [dobj fs m]))).get? a = some (dobj fs m) := fun es n => by
    have := hp_get (l1 := l1 ++ dobj es n :: l2) (l2 := []) (es := fs) (n := m) (a := a) (by simp; wtm_at "om")
    simpa using this
  unfold mergeMapping
  refine Tr_bind (n := 1) (m := 6 * fs.length + 4) (a := true) (s' := ⟨hp (l1 ++ dobj es n :: (l2 ++ [dobj fs m])), g, dr, tk, os⟩) (p' := p) (isDict (ga es n)) ?_
  refine Tr_eq (if_pos rfl) ?_
  refine Tr_bind (n := 1) (m := 6 * fs.length + 3) (a := some (.builtin "dict.__iter__")) (s' := ⟨hp (l1 ++ dobj es n :: (l2 ++ [dobj fs m])), g, dr, tk, os⟩) (p' := p) (iterOf (ga es n)) ?_
  refine Tr_bind (n := 0) (m := 6 * fs.length + 3) (a := true) (s' := ⟨hp (l1 ++ dobj es n :: (l2 ++ [dobj fs m])), g, dr, tk, os⟩) (p' := p) Tr_pure ?_
  dsimp only
  have hsm : ¬ ((a == sysModules) = true) := by
    have : sysModules = 1 := rfl
    rw [this]
    simp
    wtm_at "om"
  rw [if_neg hsm]
  refine Tr_bind (n := 1) (m := 6 * fs.length + 2) (a := es.toArray) (s' := ⟨hp (l1 ++ dobj es n :: (l2 ++ [dobj fs m])), g, dr, tk, os⟩) (p' := p) (ents (gd es n)) ?_
  have hne : ¬ (es.toArray.isEmpty = true) := by cases es with | nil => exact absurd rfl he | cons _ _ => simp
  rw [if_neg hne]
  refine Tr_bind (n := 1) (m := 6 * fs.length + 1) (a := fs.toArray) (s' := ⟨hp (l1 ++ dobj es n :: (l2 ++ [dobj fs m])), g, dr, tk, os⟩) (p' := p) (ents (ga es n)) ?_
  refine Tr_bind (n := 1) (m := 6 * fs.length) (a := m) (s' := ⟨hp (l1 ++ dobj es n :: (l2 ++ [dobj fs m])), g, dr, tk, os⟩) (p' := p) (epoch (ga es n)) ?_
  rw [show fs.toArray.size = (List.range fs.length).length by simp]
  refine Tr_bind0 (n := 6 * fs.length) (a := PUnit.unit) (s' := ⟨hp (l1 ++ dobj (es ++ fs) (n + fs.length) :: (l2 ++ [dobj fs m])), g, dr, tk, os⟩) (p' := p) ?_ Tr_pure
  rw [List.length_range]
  have key := fun body => Tr_for (w := w) (vs := vs) (c := 6) (List.range fs.length) body (fun i => ⟨hp (l1 ++ dobj (es ++ fs.take i) (n + i) :: (l2 ++ [dobj fs m])), g, dr, tk, os⟩) (fun _ => p)
  simp only [List.length_range, List.take_zero, List.append_nil, Nat.add_zero, List.take_length] at key
  refine key _ fun i x hx => ?_
  have hi : i < fs.length := by
    have := (List.getElem?_eq_some_iff.mp hx).1
    simpa using this
  obtain rfl : i = x := by
    rw [List.getElem?_range hi] at hx
    exact Option.some.inj hx
  have hei : fs[i]? = some fs[i] := List.getElem?_eq_getElem hi
  obtain ⟨ki, ti, hk1, hk2⟩ := hp1 fs[i] (List.getElem_mem hi)
  refine Tr_bind (n := 1) (m := 5) (a := fs.toArray) (s' := ⟨hp (l1 ++ dobj (es ++ fs.take i) (n + i) :: (l2 ++ [dobj fs m])), g, dr, tk, os⟩) (p' := p) (ents (ga _ _)) ?_
  rw [List.getElem?_toArray, hei]
  dsimp only
  have hnext : fs.take (i + 1) = fs.take i ++ [fs[i]] := by rw [List.take_add_one, hei]; rfl
  refine Tr_bind (n := 4) (m := 1) (a := ()) (s' := ⟨hp (l1 ++ dobj (es ++ fs.take (i + 1)) (n + (i + 1)) :: (l2 ++ [dobj fs m])), g, dr, tk, os⟩) (p' := p) ?_ ?_
  · rw [hold_plain ⟨ki, ti, hk1, hk2⟩]
    refine Tr_eq (if_neg (by decide)) ?_
    rw [hk1]
    have e1 : (⟨hp (l1 ++ dobj (es ++ fs.take (i + 1)) (n + (i + 1)) :: (l2 ++ [dobj fs m])), g, dr, tk, os⟩ : Shared) = ⟨(hp (l1 ++ dobj (es ++ fs.take i) (n + i) :: (l2 ++ [dobj fs m]))).update d (pushed ⟨fs[i].hash, .int ki ti, fs[i].val⟩), g, dr, tk, os⟩ := by
      rw [hp_pushed hd, hnext, List.append_assoc, ← hk1]
      rfl
    rw [e1]
    refine put_at (gd _ _) ?_ ?_ ?_
    · rw [hd]; exact Nat.ble_eq_true_of_le h1
    · rw [List.length_append, List.length_take]; wtm_at "om"
    · intro e he
      have : ((es ++ fs.take (i + 1)).map (·.hash)).Nodup := by
        refine List.Nodup.sublist ?_ hn
        exact List.Sublist.map _ (List.Sublist.append_left (List.take_sublist _ _) _)
      rw [hnext, ← List.append_assoc, List.map_append, List.nodup_append] at this
      exact this.2.2 _ (List.mem_map_of_mem he) _ (by simp)
  · refine Tr_bind (n := 1) (m := 0) (a := m) (s' := ⟨hp (l1 ++ dobj (es ++ fs.take (i + 1)) (n + (i + 1)) :: (l2 ++ [dobj fs m])), g, dr, tk, os⟩) (p' := p) (epoch (ga _ _)) ?_
    refine Tr_eq (if_neg (by simp)) Tr_pure
end
noncomputable def kT (m : Nat) : Sem Value := mkInt (Int.ofNat m)
noncomputable def vT (x : Str) (pos : Pos) : Sem Value := do let y ← mkText x; standAt pos; pure y
noncomputable def prT (pos : Pos) (l : List (Nat × Str)) : List (Sem Value × Sem Value) := l.map fun q => (kT q.1, vT q.2 pos)
theorem entL_snoc : ∀ (l : List (Nat × Str)) (tk : Nat) (q : Nat × Str), entL tk (l ++ [q]) = entL tk l ++ [entA q (tk + 3 * l.length) (tk + 3 * l.length + 1)]
  | [], tk, q => rfl
  | x :: r, tk, q => by
    rw [List.cons_append, entL, entL_snoc r, entL, List.cons_append, List.length_cons, show tk + 3 + 3 * r.length = tk + 3 * (r.length + 1) by wtm_at "om"]
theorem entS_snoc : ∀ (l : List (Nat × Str)) (tk : Nat) (q : Nat × Str), entS tk (l ++ [q]) = entS tk l ++ [entA q (tk + 2 * l.length) (tk + 2 * l.length + 1)]
  | [], tk, q => rfl
  | x :: r, tk, q => by
    rw [List.cons_append, entS, entS_snoc r, entS, List.cons_append, List.length_cons, show tk + 2 + 2 * r.length = tk + 2 * (r.length + 1) by wtm_at "om"]
theorem entL_hash : ∀ (l : List (Nat × Str)) (tk : Nat), (entL tk l).map (·.hash) = l.map fun q => (q.1 : Int)
  | [], _ => rfl
  | x :: r, tk => by rw [entL, List.map_cons, List.map_cons, entL_hash r]; rfl
theorem entS_hash : ∀ (l : List (Nat × Str)) (tk : Nat), (entS tk l).map (·.hash) = l.map fun q => (q.1 : Int)
  | [], _ => rfl
  | x :: r, tk => by rw [entS, List.map_cons, List.map_cons, entS_hash r]; rfl
theorem entL_plain (l : List (Nat × Str)) : ∀ (tk : Nat), ∀ e ∈ entL tk l, Plain e := by
  induction l with
  | nil => intro tk e h; rw [entL] at h; cases h
  | cons x r ih =>
    intro tk e h
    rw [entL] at h
    rcases List.mem_cons.mp h with h | h
    · rw [h]; exact ⟨_, _, rfl, fun a => by nofun⟩
    · exact ih _ e h
theorem entS_plain (l : List (Nat × Str)) : ∀ (tk : Nat), ∀ e ∈ entS tk l, Plain e := by
  induction l with
  | nil => intro tk e h; rw [entS] at h; cases h
  | cons x r ih =>
    intro tk e h
    rw [entS] at h
    rcases List.mem_cons.mp h with h | h
    · rw [h]; exact ⟨_, _, rfl, fun a => by nofun⟩
    · exact ih _ e h
theorem entL_len : ∀ (l : List (Nat × Str)) (tk : Nat), (entL tk l).length = l.length
  | [], _ => rfl
  | x :: r, tk => by rw [entL, List.length_cons, entL_len r]; rfl
theorem entS_len : ∀ (l : List (Nat × Str)) (tk : Nat), (entS tk l).length = l.length
  | [], _ => rfl
  | x :: r, tk => by rw [entS, List.length_cons, entS_len r]; rfl
section
variable {w : World} {vs : List Value} {t tk n : Nat} {α : Type} {x : α} {v : Value} {p p' pos : Pos} {s s' : Shared} {h : Heap} {g : Array GenState} {dr : Drawn} {os : OsState} {d a : Addr} {es : List DictEntry} {bb : Bool}
theorem Tr_kT {m : Nat} : Tr w vs 1 (kT m) ⟨h, g, dr, tk, os⟩ p (.int (Int.ofNat m) tk) ⟨h, g, dr, tk + 1, os⟩ p := by
  unfold kT mkInt
  exact Tr_bind0 (n := 1) (a := tk) (s' := ⟨h, g, dr, tk + 1, os⟩) (p' := p) Tr_fresh Tr_pure
theorem Tr_vT {x : Str} : Tr w vs 2 (vT x pos) ⟨h, g, dr, tk, os⟩ p (.str x tk) ⟨h, g, dr, tk + 1, os⟩ pos := by
  unfold vT mkText
  refine Tr_bind (n := 1) (m := 1) (a := (.str x tk : Value)) (s' := ⟨h, g, dr, tk + 1, os⟩) (p' := p) ?_ ?_
  · exact Tr_bind0 (n := 1) (a := tk) (s' := ⟨h, g, dr, tk + 1, os⟩) (p' := p) Tr_fresh Tr_pure
  · exact Tr_bind0 (n := 1) (a := ()) (s' := ⟨h, g, dr, tk + 1, os⟩) (p' := pos) Tr_at Tr_pure
/- where the text stands behind i values -/
noncomputable def posAt (p pos : Pos) (i : Nat) : Pos := if i = 0 then p else pos
theorem sub_long {L : List Obj} {l : List (Nat × Str)} {vs : List Value} (hvs : Holds (vs ++ [.ref L.length])) (h15 : 15 < l.length) (hl : l.length ≤ 1000) (hL : 28 ≤ L.length) (hn : (l.map (·.1)).Nodup) (hb : ∀ q ∈ l, q.1 < 2 ^ 60) :
    Tr (w.withFollow "special-get-raises" bb) vs (13 * l.length + 2) (subDict (prT pos l)) ⟨hp L, g, dr, tk, os⟩ p L.length ⟨hp (L ++ [dobj (entL tk l) l.length]), g, dr, tk + 3 * l.length, os⟩ pos := by
  unfold subDict
  refine Tr_bind (n := 1) (m := 13 * l.length + 1) (a := L.length) (s' := ⟨hp (L ++ [dobj [] 0]), g, dr, tk, os⟩) (p' := p) ?_ ?_
  · have e : (⟨hp (L ++ [dobj [] 0]), g, dr, tk, os⟩ : Shared) = { (⟨hp L, g, dr, tk, os⟩ : Shared) with heap := (hp L).push { cls := .type "dict", data := .dict #[] } } := by rw [hp_push]
    rw [e]
    exact Tr_alloc
  refine Tr_bind0 (a := PUnit.unit) (s' := ⟨hp (L ++ [dobj (entL tk l) l.length]), g, dr, tk + 3 * l.length, os⟩) (p' := pos) ?_ Tr_pure
  show Tr _ _ _ (Sem.keep [.ref L.length] _) _ _ _ _ _
  refine Tr_keep ?_
  have hlen : (prT pos l).length = l.length := by unfold prT; simp
  rw [if_neg (by rw [hlen]; wtm_at "om")]
  refine Tr_bind (n := 1) (m := 13 * l.length) (a := ()) (s' := ⟨hp (L ++ [dobj [] 0]), g, dr, tk, os⟩) (p' := p) Tr_rule ?_
  have key := fun body => Tr_for (w := w.withFollow "special-get-raises" bb) (vs := vs ++ [.ref L.length]) (c := 13) (prT pos l) body (fun i => ⟨hp (L ++ [dobj (entL tk (l.take i)) i]), g, dr, tk + 3 * i, os⟩) (fun i => posAt p pos i)
  rw [hlen] at key
  simp only [List.take_zero, Nat.mul_zero, Nat.add_zero, List.take_length] at key
  rw [show posAt p pos l.length = pos from if_neg (by wtm_at "om"), show posAt p pos 0 = p from if_pos rfl] at key
  refine Tr_bind0 (a := PUnit.unit) (s' := ⟨hp (L ++ [dobj (entL tk l) l.length]), g, dr, tk + 3 * l.length, os⟩) (p' := pos) ?_ Tr_pure
  refine key _ fun i pr hx => ?_
  obtain ⟨q, hq, rfl⟩ : ∃ q, l[i]? = some q ∧ pr = (kT q.1, vT q.2 pos) := by
    unfold prT at hx
    rw [List.getElem?_map] at hx
    obtain ⟨q, h1, rfl⟩ := Option.map_eq_some_iff.mp hx
    exact ⟨q, h1, rfl⟩
  have hi : i < l.length := (List.getElem?_eq_some_iff.mp hq).1
  have hql : q ∈ l := List.mem_of_getElem? hq
  have hnext : l.take (i + 1) = l.take i ++ [q] := by rw [List.take_add_one, hq]; rfl
  refine Tr_bind (n := 1) (m := 12) (a := (.int (Int.ofNat q.1) (tk + 3 * i) : Value)) (s' := ⟨hp (L ++ [dobj (entL tk (l.take i)) i]), g, dr, tk + 3 * i + 1, os⟩) (p' := posAt p pos i) Tr_kT ?_
  refine Tr_bind (n := 2) (m := 10) (a := (.str q.2 (tk + 3 * i + 1) : Value)) (s' := ⟨hp (L ++ [dobj (entL tk (l.take i)) i]), g, dr, tk + 3 * i + 2, os⟩) (p' := pos) Tr_vT ?_
  refine Tr_bind0 (n := 10) (a := ()) (s' := ⟨hp (L ++ [dobj (entL tk (l.take (i + 1))) (i + 1)]), g, dr, tk + 3 * (i + 1), os⟩) (p' := posAt p pos (i + 1)) ?_ Tr_pure
  show Tr _ _ 10 (dictSet L.length (.int (Int.ofNat q.1) (tk + 3 * i)) (.str q.2 (tk + 3 * i + 1))) _ _ _ _ _
  rw [show posAt p pos (i + 1) = pos from if_neg (by wtm_at "om")]
  have e1 : (⟨hp (L ++ [dobj (entL tk (l.take (i + 1))) (i + 1)]), g, dr, tk + 3 * (i + 1), os⟩ : Shared) = ⟨(hp (L ++ [dobj (entL tk (l.take i)) i])).update L.length (pushed (entA q (tk + 3 * i) (tk + 3 * i + 1))), g, dr, tk + 3 * i + 2 + 1, os⟩ := by
    rw [hp_pushed rfl, hnext, entL_snoc, List.length_take, Nat.min_eq_left (by wtm_at "om"), show tk + 3 * (i + 1) = tk + 3 * i + 2 + 1 by wtm_at "om"]
  rw [e1]
  refine set_at hvs (hb q hql) (hp_get rfl) (Nat.ble_eq_true_of_le hL) ?_ ?_ (fun a => by nofun)
  · rw [entL_len, List.length_take]; wtm_at "om"
  · intro e he hh
    have h1 : e.hash ∈ (l.take i).map fun q => (q.1 : Int) := by rw [← entL_hash (l.take i) tk]; exact List.mem_map_of_mem he
    obtain ⟨q', hq', e'⟩ := List.mem_map.mp h1
    have h2 : q'.1 = q.1 := by
      have : (q'.1 : Int) = (q.1 : Int) := e'.trans hh
      wtm_at "om"
    have h3 : ((l.take (i + 1)).map (·.1)).Nodup := List.Nodup.sublist (List.Sublist.map _ (List.take_sublist _ _)) hn
    rw [hnext, List.map_append, List.nodup_append] at h3
    exact h3.2.2 _ (List.mem_map_of_mem hq') _ (by simp) h2
/- values that a short run's pairs give -/
noncomputable def valS : Nat → List (Nat × Str) → List (Value × Value)
  | _, [] => []
  | tk, q :: r => (.int (Int.ofNat q.1) tk, .str q.2 (tk + 1)) :: valS (tk + 2) r
theorem Tr_pairs : ∀ (l : List (Nat × Str)) (tk : Nat) (p : Pos) (vs : List Value), Tr w vs (3 * l.length) (evalPairs (prT pos l)) ⟨h, g, dr, tk, os⟩ p (valS tk l) ⟨h, g, dr, tk + 2 * l.length, os⟩ (posAt p pos l.length)
  | [], tk, p, vs => Tr_pure
  | q :: r, tk, p, vs => by
    show Tr _ _ _ (evalPairs ((kT q.1, vT q.2 pos) :: prT pos r)) _ _ _ _ _
    rw [evalPairs, List.length_cons, show posAt p pos (r.length + 1) = pos from if_neg (by wtm_at "om")]
    rw [show 3 * (r.length + 1) = (3 * r.length + 2) + 1 by wtm_at "om"]
    refine Tr_bind (n := 1) (m := 3 * r.length + 2) (a := (.int (Int.ofNat q.1) tk : Value)) (s' := ⟨h, g, dr, tk + 1, os⟩) (p' := p) Tr_kT ?_
    refine Tr_bind (n := 2) (m := 3 * r.length) (a := (.str q.2 (tk + 1) : Value)) (s' := ⟨h, g, dr, tk + 2, os⟩) (p' := pos) Tr_vT ?_
    have := Tr_pairs r (tk + 2) pos vs
    rw [show posAt pos pos r.length = pos by unfold posAt; split <;> rfl, show tk + 2 + 2 * r.length = tk + 2 * (r.length + 1) by wtm_at "om"] at this
    exact Tr_bind0 this Tr_pure
theorem valS_get : ∀ (l : List (Nat × Str)) (tk i : Nat) (q : Nat × Str), l[i]? = some q → (valS tk l)[i]? = some (.int (Int.ofNat q.1) (tk + 2 * i), .str q.2 (tk + 2 * i + 1))
  | x :: r, tk, 0, q, h => by cases h; rfl
  | x :: r, tk, i + 1, q, h => by
    have := valS_get r (tk + 2) i q (by simpa using h)
    rw [show tk + 2 + 2 * i = tk + 2 * (i + 1) by wtm_at "om"] at this
    exact this
theorem valS_len : ∀ (l : List (Nat × Str)) (tk : Nat), (valS tk l).length = l.length
  | [], _ => rfl
  | x :: r, tk => by rw [valS, List.length_cons, valS_len r]; rfl
theorem hold_none {β : Type} {m : Sem β} : ∀ l : List Value, (∀ v ∈ l, ∀ a, v ≠ .ref a) → holding l m = m := by
  intro l h
  unfold holding
  rw [List.filter_eq_nil_iff.mpr (fun v hv => by
    cases v with
    | ref a => exact absurd rfl (h _ hv a)
    | _ => simp)]
theorem valS_plain : ∀ (l : List (Nat × Str)) (tk : Nat), ∀ v ∈ (valS tk l).flatMap (fun x => [x.1, x.2]), ∀ a, v ≠ .ref a
  | [], tk, v, hv, a => by simp [valS] at hv
  | x :: r, tk, v, hv, a => by
    rw [valS, List.flatMap_cons, List.mem_append] at hv
    rcases hv with hv | hv
    · simp only [List.mem_cons, List.not_mem_nil, or_false] at hv
      rcases hv with rfl | rfl <;> nofun
    · exact valS_plain r _ v hv a
theorem sub_short {L : List Obj} {l : List (Nat × Str)} {vs : List Value} (hvs : Holds (vs ++ [.ref L.length])) (h15 : l.length ≤ 15) (h0 : l ≠ []) (hL : 28 ≤ L.length) (hn : (l.map (·.1)).Nodup) (hb : ∀ q ∈ l, q.1 < 2 ^ 60) :
    Tr (w.withFollow "special-get-raises" bb) vs (10 * l.length + 3 * l.length + 1) (subDict (prT pos l)) ⟨hp L, g, dr, tk, os⟩ p L.length ⟨hp (L ++ [dobj (entS tk l) l.length]), g, dr, tk + 2 * l.length + l.length, os⟩ pos := by
  have hpos : 0 < l.length := by cases l with | nil => exact absurd rfl h0 | cons a b => exact Nat.succ_pos _
  unfold subDict
  refine Tr_bind (n := 1) (m := 10 * l.length + 3 * l.length) (a := L.length) (s' := ⟨hp (L ++ [dobj [] 0]), g, dr, tk, os⟩) (p' := p) ?_ ?_
  · have e : (⟨hp (L ++ [dobj [] 0]), g, dr, tk, os⟩ : Shared) = { (⟨hp L, g, dr, tk, os⟩ : Shared) with heap := (hp L).push { cls := .type "dict", data := .dict #[] } } := by rw [hp_push]
    rw [e]
    exact Tr_alloc
  refine Tr_bind0 (a := PUnit.unit) (s' := ⟨hp (L ++ [dobj (entS tk l) l.length]), g, dr, tk + 2 * l.length + l.length, os⟩) (p' := pos) ?_ Tr_pure
  show Tr _ _ _ (Sem.keep [.ref L.length] _) _ _ _ _ _
  refine Tr_keep ?_
  have hlen : (prT pos l).length = l.length := by unfold prT; simp
  rw [if_pos (by rw [hlen]; wtm_at "om")]
  have hp1 := Tr_pairs (w := w.withFollow "special-get-raises" bb) (pos := pos) (h := hp (L ++ [dobj [] 0])) (g := g) (dr := dr) (os := os) l tk p (vs ++ [.ref L.length])
  rw [show posAt p pos l.length = pos from if_neg (by wtm_at "om")] at hp1
  refine Tr_bind (n := 3 * l.length) (m := 10 * l.length) hp1 ?_
  refine Tr_eq (hold_none _ (valS_plain l tk)) ?_
  have key := fun body => Tr_for (w := w.withFollow "special-get-raises" bb) (vs := vs ++ [.ref L.length]) (c := 10) (valS tk l) body (fun i => ⟨hp (L ++ [dobj (entS tk (l.take i)) i]), g, dr, tk + 2 * l.length + i, os⟩) (fun i => pos)
  rw [valS_len] at key
  simp only [List.take_zero, Nat.add_zero, List.take_length] at key
  refine Tr_bind0 (a := PUnit.unit) (s' := ⟨hp (L ++ [dobj (entS tk l) l.length]), g, dr, tk + 2 * l.length + l.length, os⟩) (p' := pos) ?_ Tr_pure
  refine key _ fun i pr hx => ?_
  obtain ⟨q, hq⟩ : ∃ q, l[i]? = some q := by
    have := (List.getElem?_eq_some_iff.mp hx).1
    rw [valS_len] at this
    exact ⟨l[i], List.getElem?_eq_getElem this⟩
  have hi : i < l.length := (List.getElem?_eq_some_iff.mp hq).1
  have hql : q ∈ l := List.mem_of_getElem? hq
  have hnext : l.take (i + 1) = l.take i ++ [q] := by rw [List.take_add_one, hq]; rfl
  rw [valS_get l tk i q hq] at hx
  cases hx
  refine Tr_bind0 (n := 10) (a := ()) (s' := ⟨hp (L ++ [dobj (entS tk (l.take (i + 1))) (i + 1)]), g, dr, tk + 2 * l.length + (i + 1), os⟩) (p' := pos) ?_ Tr_pure
  have e1 : (⟨hp (L ++ [dobj (entS tk (l.take (i + 1))) (i + 1)]), g, dr, tk + 2 * l.length + (i + 1), os⟩ : Shared) = ⟨(hp (L ++ [dobj (entS tk (l.take i)) i])).update L.length (pushed (entA q (tk + 2 * i) (tk + 2 * i + 1))), g, dr, tk + 2 * l.length + i + 1, os⟩ := by
    rw [hp_pushed rfl, hnext, entS_snoc, List.length_take, Nat.min_eq_left (by wtm_at "om"), show tk + 2 * l.length + (i + 1) = tk + 2 * l.length + i + 1 by wtm_at "om"]
  rw [e1]
  refine set_at hvs (hb q hql) (hp_get rfl) (Nat.ble_eq_true_of_le hL) ?_ ?_ (fun a => by nofun)
  · rw [entS_len, List.length_take]; wtm_at "om"
  · intro e he hh
    have h1 : e.hash ∈ (l.take i).map fun q => (q.1 : Int) := by rw [← entS_hash (l.take i) tk]; exact List.mem_map_of_mem he
    obtain ⟨q', hq', e'⟩ := List.mem_map.mp h1
    have h2 : q'.1 = q.1 := by
      have : (q'.1 : Int) = (q.1 : Int) := e'.trans hh
      wtm_at "om"
    have h3 : ((l.take (i + 1)).map (·.1)).Nodup := List.Nodup.sublist (List.Sublist.map _ (List.take_sublist _ _)) hn
    rw [hnext, List.map_append, List.nodup_append] at h3
    exact h3.2.2 _ (List.mem_map_of_mem hq') _ (by simp) h2
end
noncomputable abbrev RunF := (Option (Sem Value) × Sem Value) → (Option Addr × List (Sem Value × Sem Value)) → Sem (ForInStep (Option Addr × List (Sem Value × Sem Value)))
/- what is done with a full run -/
noncomputable def flushD (run : List (Sem Value × Sem Value)) (main : Option Addr) : Sem (Option Addr) := do
  if run.isEmpty then return main
  match main with
  | none => return some (← subDict run)
  | some d =>
    let sub ← holding [.ref d] (subDict run)
    (holding [.ref d, .ref sub] (mergeMapping d (.ref sub) false)).onRaise fun x => do let _ ← holding [.ref d, x] (runValue (.builtin "proto.let_go" {}))
    return some d
noncomputable def GatherOk (f : RunF) : Prop :=
  (∀ (p : Sem Value × Sem Value) (main : Option Addr) (run : List (Sem Value × Sem Value)), run.length + 1 < 17 → f (some p.1, p.2) (main, run) = pure (.yield (main, run ++ [p]))) ∧
  (∀ (p : Sem Value × Sem Value) (main : Option Addr) (run : List (Sem Value × Sem Value)), run.length + 1 = 17 → f (some p.1, p.2) (main, run) = (flushD (run ++ [p]) main >>= fun m => pure (.yield (m, []))))
theorem forIn_part {f : RunF} (hf : GatherOk f) {main : Option Addr} {rest : List (Option (Sem Value) × Sem Value)} :
    ∀ (items run : List (Sem Value × Sem Value)), run.length + items.length < 17 → forIn (items.map (fun p => (some p.1, p.2)) ++ rest) (main, run) f = forIn rest (main, run ++ items) f
  | [], run, _ => by simp
  | p :: r, run, h => by
    rw [List.map_cons, List.cons_append, List.forIn_cons, hf.1 p main run (by simp at h; wtm_at "om"), pure_bind]
    have := forIn_part hf (main := main) (rest := rest) r (run ++ [p]) (by simp at h ⊢; wtm_at "om")
    simpa using this
theorem forIn_chunk {f : RunF} (hf : GatherOk f) {main : Option Addr} {rest : List (Option (Sem Value) × Sem Value)} {c : List (Sem Value × Sem Value)} (hc : c.length = 17) :
    forIn (c.map (fun p => (some p.1, p.2)) ++ rest) (main, []) f = (flushD c main >>= fun m => forIn rest (m, []) f) := by
  obtain ⟨c', q, rfl⟩ : ∃ c' q, c = c' ++ [q] := by
    rcases List.eq_nil_or_concat c with rfl | ⟨c', q, rfl⟩
    · simp at hc
    · exact ⟨c', q, by simp⟩
  have hl : c'.length = 16 := by simpa using hc
  rw [List.map_append, List.append_assoc, forIn_part hf c' [] (by simp; wtm_at "om")]
  show forIn ((some q.1, q.2) :: rest) (main, [] ++ c') f = _
  rw [List.forIn_cons, hf.2 q main _ (by simp; wtm_at "om"), List.nil_append]
  simp only [bind_assoc, pure_bind]
section
variable {w : World} {t tk n : Nat} {α : Type} {x : α} {v : Value} {p p' pos : Pos} {s s' : Shared} {h : Heap} {g : Array GenState} {dr : Drawn} {os : OsState} {d a : Addr} {es : List DictEntry} {bb : Bool}
theorem prT_len {l : List (Nat × Str)} : (prT pos l).length = l.length := by unfold prT; simp
theorem prT_ne {l : List (Nat × Str)} (h : l ≠ []) : (prT pos l).isEmpty = false := by cases l with | nil => exact absurd rfl h | cons _ _ => rfl
theorem flush_some {l : List (Nat × Str)} {L : List Obj} {E : List DictEntry} {tk' k : Nat} {es : List DictEntry} {l1 l2 : List Obj} (h0 : l ≠ [])
    (hs : Tr w [.ref l1.length] k (subDict (prT pos l)) ⟨hp (l1 ++ dobj es n :: l2), g, dr, tk, os⟩ p (l1.length + 1 + l2.length) ⟨hp (l1 ++ dobj es n :: (l2 ++ [dobj E l.length])), g, dr, tk', os⟩ pos)
    (hE : E.length = l.length) (h1 : 28 ≤ l1.length) (he : es ≠ []) (hp1 : ∀ e ∈ E, Plain e) (hn : ((es ++ E).map (·.hash)).Nodup) (hl : es.length + E.length ≤ 2000) :
    Tr w [] (k + (6 * l.length + 5)) (flushD (prT pos l) (some l1.length)) ⟨hp (l1 ++ dobj es n :: l2), g, dr, tk, os⟩ p (some l1.length) ⟨hp (l1 ++ dobj (es ++ E) (n + l.length) :: (l2 ++ [dobj E l.length])), g, dr, tk', os⟩ pos := by
  unfold flushD
  rw [if_neg (by rw [prT_ne h0]; decide)]
  dsimp only
  rw [Nat.add_comm]
  refine Tr_bind (n := k) (m := 6 * l.length + 5) (a := l1.length + 1 + l2.length) (s' := ⟨hp (l1 ++ dobj es n :: (l2 ++ [dobj E l.length])), g, dr, tk', os⟩) (p' := pos) ?_ ?_
  · show Tr _ _ _ (Sem.keep [.ref l1.length] _) _ _ _ _ _
    exact Tr_keep hs
  refine Tr_bind0 (n := 6 * l.length + 5) (a := ()) (s' := ⟨hp (l1 ++ dobj (es ++ E) (n + l.length) :: (l2 ++ [dobj E l.length])), g, dr, tk', os⟩) (p' := pos) (Tr_onRaise ?_) Tr_pure
  show Tr _ _ _ (Sem.keep [.ref l1.length, .ref (l1.length + 1 + l2.length)] _) _ _ _ _ _
  refine Tr_keep ?_
  have := merge_hp (w := w) (vs := [] ++ [.ref l1.length, .ref (l1.length + 1 + l2.length)]) (g := g) (dr := dr) (tk := tk') (os := os) (p := pos) (l1 := l1) (l2 := l2) (es := es) (fs := E) (n := n) (m := l.length) (d := l1.length) (a := l1.length + 1 + l2.length) rfl rfl h1 he hp1 hn hl
  rwa [hE] at this
/- one full chunk behind the first -/
theorem flush_long {l : List (Nat × Str)} {es : List DictEntry} {l1 l2 : List Obj} (hl : l.length = 17) (h1 : 28 ≤ l1.length) (he : es ≠ [])
    (hn : (es.map (·.hash) ++ l.map fun q => (q.1 : Int)).Nodup) (hb : ∀ q ∈ l, q.1 < 2 ^ 60) (hz : es.length + 17 ≤ 2000) :
    Tr (w.withFollow "special-get-raises" bb) [] 330 (flushD (prT pos l) (some l1.length)) ⟨hp (l1 ++ dobj es n :: l2), g, dr, tk, os⟩ p (some l1.length) ⟨hp (l1 ++ dobj (es ++ entL tk l) (n + 17) :: (l2 ++ [dobj (entL tk l) 17])), g, dr, tk + 51, os⟩ pos := by
  have hn' := hn
  rw [List.nodup_append] at hn'
  have hnl : (l.map (·.1)).Nodup := by
    have h := hn'.2.1
    rw [show (l.map fun q => (q.1 : Int)) = (l.map (·.1)).map (fun k : Nat => (k : Int)) by rw [List.map_map]; rfl] at h
    exact (List.pairwise_map.mp h).imp fun h e => h (by rw [e])
  have hs := sub_long (w := w) (bb := bb) (g := g) (dr := dr) (os := os) (tk := tk) (p := p) (pos := pos) (L := l1 ++ dobj es n :: l2) (l := l) (vs := [.ref l1.length]) (.inr ⟨_, _, rfl⟩) (by wtm_at "om") (by wtm_at "om") (by simp; wtm_at "om") hnl hb
  have hlen : (l1 ++ dobj es n :: l2).length = l1.length + 1 + l2.length := by simp; wtm_at "om"
  rw [hlen, hl, show (l1 ++ dobj es n :: l2) ++ [dobj (entL tk l) 17] = l1 ++ dobj es n :: (l2 ++ [dobj (entL tk l) 17]) by simp] at hs
  have := flush_some (l := l) (L := []) (E := entL tk l) (tk' := tk + 51) (k := 223) (es := es) (l1 := l1) (l2 := l2) (n := n) (by intro e; rw [e] at hl; simp at hl) (by rw [hl]; exact hs) (by rw [entL_len]) h1 he (entL_plain l tk) (by rw [List.map_append, entL_hash]; exact hn) (by rw [entL_len]; wtm_at "om")
  rw [hl] at this
  exact this
theorem flush_last {l : List (Nat × Str)} {es : List DictEntry} {l1 l2 : List Obj} (hl : l.length = 4) (h1 : 28 ≤ l1.length) (he : es ≠ [])
    (hn : (es.map (·.hash) ++ l.map fun q => (q.1 : Int)).Nodup) (hb : ∀ q ∈ l, q.1 < 2 ^ 60) (hz : es.length + 17 ≤ 2000) :
    Tr (w.withFollow "special-get-raises" bb) [] 82 (flushD (prT pos l) (some l1.length)) ⟨hp (l1 ++ dobj es n :: l2), g, dr, tk, os⟩ p (some l1.length) ⟨hp (l1 ++ dobj (es ++ entS tk l) (n + 4) :: (l2 ++ [dobj (entS tk l) 4])), g, dr, tk + 12, os⟩ pos := by
  have hn' := hn
  rw [List.nodup_append] at hn'
  have hnl : (l.map (·.1)).Nodup := by
    have h := hn'.2.1
    rw [show (l.map fun q => (q.1 : Int)) = (l.map (·.1)).map (fun k : Nat => (k : Int)) by rw [List.map_map]; rfl] at h
    exact (List.pairwise_map.mp h).imp fun h e => h (by rw [e])
  have h0 : l ≠ [] := by intro e; rw [e] at hl; simp at hl
  have hs := sub_short (w := w) (bb := bb) (g := g) (dr := dr) (os := os) (tk := tk) (p := p) (pos := pos) (L := l1 ++ dobj es n :: l2) (l := l) (vs := [.ref l1.length]) (.inr ⟨_, _, rfl⟩) (by wtm_at "om") h0 (by simp; wtm_at "om") hnl hb
  have hlen : (l1 ++ dobj es n :: l2).length = l1.length + 1 + l2.length := by simp; wtm_at "om"
  rw [hlen, hl, show (l1 ++ dobj es n :: l2) ++ [dobj (entS tk l) 4] = l1 ++ dobj es n :: (l2 ++ [dobj (entS tk l) 4]) by simp] at hs
  have := flush_some (l := l) (L := []) (E := entS tk l) (tk' := tk + 12) (k := 53) (es := es) (l1 := l1) (l2 := l2) (n := n) h0 (by rw [hl]; exact hs) (by rw [entS_len]) h1 he (entS_plain l tk) (by rw [List.map_append, entS_hash]; exact hn) (by rw [entS_len]; wtm_at "om")
  rw [hl] at this
  exact this
theorem chunks_run {f : RunF} (hf : GatherOk f) {l1 : List Obj} (h1 : 28 ≤ l1.length) {rest : List (Option (Sem Value) × Sem Value)} {k : Nat} {r : Option Addr × List (Sem Value × Sem Value)} :
    ∀ (cs : List (List (Nat × Str))) (es : List DictEntry) (n tk : Nat) (l2 : List Obj) (s' : Shared) (p' : Pos), (∀ c ∈ cs, c.length = 17) → es ≠ [] → (es.map (·.hash) ++ (cs.flatten).map fun q => (q.1 : Int)).Nodup → (∀ q ∈ cs.flatten, q.1 < 2 ^ 60) → es.length + 17 * cs.length + 17 ≤ 2000 →
      (Tr (w.withFollow "special-get-raises" bb) [] k (forIn rest (some l1.length, []) f) ⟨hp (l1 ++ dobj (es ++ entsC tk cs) (n + 17 * cs.length) :: (l2 ++ temps tk cs)), g, dr, tk + 51 * cs.length, os⟩ pos r s' p') →
      Tr (w.withFollow "special-get-raises" bb) [] (k + 330 * cs.length) (forIn ((prT pos cs.flatten).map (fun p => (some p.1, p.2)) ++ rest) (some l1.length, []) f) ⟨hp (l1 ++ dobj es n :: l2), g, dr, tk, os⟩ pos r s' p'
  | [], es, n, tk, l2, s', p', _, _, _, _, _, hk => by
    have := hk
    simpa [entsC, temps, prT] using this
  | c :: cs, es, n, tk, l2, s', p', hc, he, hn, hb, hz, hk => by
    have hcl := hc c (List.mem_cons_self)
    have e1 : (prT pos (c :: cs).flatten).map (fun p => (some p.1, p.2)) ++ rest = (prT pos c).map (fun p => (some p.1, p.2)) ++ ((prT pos cs.flatten).map (fun p => (some p.1, p.2)) ++ rest) := by
      rw [List.flatten_cons]; unfold prT; simp
    rw [e1, forIn_chunk hf (by rw [prT_len]; exact hcl)]
    rw [List.flatten_cons, List.map_append] at hn
    have hn1 : (es.map (·.hash) ++ c.map fun q => (q.1 : Int)).Nodup := by
      rw [← List.append_assoc] at hn
      exact (List.nodup_append.mp hn).1
    rw [List.length_cons] at hz
    rw [List.length_cons, show k + 330 * (cs.length + 1) = (k + 330 * cs.length) + 330 by wtm_at "om"]
    refine Tr_bind (flush_long (n := n) (l2 := l2) hcl h1 he hn1 (fun q hq => hb q (by rw [List.flatten_cons]; exact List.mem_append_left _ hq)) (by wtm_at "om")) ?_
    refine chunks_run hf h1 cs _ _ _ _ _ _ (fun c' h => hc c' (List.mem_cons_of_mem _ h)) (by simp [he]) ?_ (fun q hq => hb q (by rw [List.flatten_cons]; exact List.mem_append_right _ hq)) ?_ ?_
    · rw [List.map_append, entL_hash, List.append_assoc]; exact hn
    · rw [List.length_append, entL_len, hcl]; wtm_at "om"
    · have := hk
      rw [entsC, temps, List.length_cons, show n + 17 * (cs.length + 1) = n + 17 + 17 * cs.length by wtm_at "om", show tk + 51 * (cs.length + 1) = tk + 51 + 51 * cs.length by wtm_at "om", ← List.append_assoc] at this
      rwa [List.append_assoc l2]
end
theorem display_eq (items : List (Option (Sem Value) × Sem Value)) : ∃ f : RunF, GatherOk f ∧ dictDisplay items = (forIn items ((none : Option Addr), []) f >>= fun r => flushD r.2 r.1 >>= fun m => match m with | some d => pure (.ref d) | none => newDict) := by
  unfold dictDisplay
  dsimp only
  refine ⟨_, ⟨fun p main run h => ?_, fun p main run h => ?_⟩, rfl⟩
  · have hne : ((run ++ [(p.1, p.2)]).length == 17) = false := by simp; wtm_at "om"
    simp only [hne, Bool.false_eq_true, if_false]
  · have hne : ((run ++ [(p.1, p.2)]).length == 17) = true := by simp; wtm_at "om"
    simp only [hne, if_true]
    rfl
theorem entsC_hash : ∀ (cs : List (List (Nat × Str))) (tk : Nat), (entsC tk cs).map (·.hash) = cs.flatten.map fun q => (q.1 : Int)
  | [], _ => rfl
  | c :: r, tk => by rw [entsC, List.flatten_cons, List.map_append, List.map_append, entL_hash, entsC_hash r]
theorem entsC_len : ∀ (cs : List (List (Nat × Str))) (tk : Nat), (∀ c ∈ cs, c.length = 17) → (entsC tk cs).length = 17 * cs.length
  | [], _, _ => rfl
  | c :: r, tk, h => by rw [entsC, List.length_append, entL_len, h c List.mem_cons_self, entsC_len r _ fun c' h' => h c' (List.mem_cons_of_mem _ h'), List.length_cons]; wtm_at "om"
section
variable {w : World} {t tk n : Nat} {p p' pos : Pos} {g : Array GenState} {dr : Drawn} {os : OsState} {bb : Bool}
theorem display_at {L : List Obj} {c0 : List (Nat × Str)} {cs : List (List (Nat × Str))} {last : List (Nat × Str)} (hL : 28 ≤ L.length) (h0 : c0.length = 17) (hc : ∀ c ∈ cs, c.length = 17) (hl : last.length = 4) (hz : cs.length ≤ 100)
    (hn : ((c0 ++ (cs.flatten ++ last)).map (·.1)).Nodup) (hb : ∀ q ∈ c0 ++ (cs.flatten ++ last), q.1 < 2 ^ 60) :
    Tr (w.withFollow "special-get-raises" bb) [] (82 + 330 * cs.length + 223) (dictDisplay ((prT pos (c0 ++ (cs.flatten ++ last))).map fun p => (some p.1, p.2))) ⟨hp L, g, dr, tk, os⟩ p (.ref L.length)
      ⟨hp (L ++ dobj ((entL tk c0 ++ entsC (tk + 51) cs) ++ entS (tk + 51 + 51 * cs.length) last) (17 + 17 * cs.length + 4) :: (temps (tk + 51) cs ++ [dobj (entS (tk + 51 + 51 * cs.length) last) 4])), g, dr, tk + 51 + 51 * cs.length + 12, os⟩ pos := by
  obtain ⟨f, hf, e⟩ := display_eq ((prT pos (c0 ++ (cs.flatten ++ last))).map fun p => (some p.1, p.2))
  rw [e]
  have e1 : (prT pos (c0 ++ (cs.flatten ++ last))).map (fun p => (some p.1, p.2)) = (prT pos c0).map (fun p => (some p.1, p.2)) ++ ((prT pos cs.flatten).map (fun p => (some p.1, p.2)) ++ (prT pos last).map (fun p => (some p.1, p.2))) := by
    unfold prT; simp
  have hn0 : (c0.map (·.1)).Nodup := by rw [List.map_append] at hn; exact (List.nodup_append.mp hn).1
  have hnI : (((c0 ++ (cs.flatten ++ last)).map fun q => (q.1 : Int))).Nodup := by
    rw [show ((c0 ++ (cs.flatten ++ last)).map fun q => (q.1 : Int)) = ((c0 ++ (cs.flatten ++ last)).map (·.1)).map (fun k : Nat => (k : Int)) by rw [List.map_map]; rfl]
    exact List.pairwise_map.mpr (hn.imp fun h e => h (by wtm_at "om"))
  rw [e1, forIn_chunk hf (by rw [prT_len]; exact h0), show (82 + 330 * cs.length + 223 : Nat) = 82 + (330 * cs.length + 223) by wtm_at "om"]
  have hne : entL tk c0 ≠ [] := by intro e; have := congrArg List.length e; rw [entL_len, h0] at this; simp at this
  refine Tr_bind (n := 330 * cs.length + 223) (m := 82) (a := (some L.length, prT pos last)) (s' := ⟨hp (L ++ dobj (entL tk c0 ++ entsC (tk + 51) cs) (17 + 17 * cs.length) :: ([] ++ temps (tk + 51) cs)), g, dr, tk + 51 + 51 * cs.length, os⟩) (p' := pos) ?_ ?_
  · refine Tr_bind (n := 223) (m := 330 * cs.length) (a := some L.length) (s' := ⟨hp (L ++ [dobj (entL tk c0) 17]), g, dr, tk + 51, os⟩) (p' := pos) ?_ ?_
    · unfold flushD
      rw [if_neg (by rw [prT_ne (by intro e; rw [e] at h0; simp at h0)]; decide)]
      dsimp only
      have hs := sub_long (w := w) (bb := bb) (g := g) (dr := dr) (os := os) (tk := tk) (p := p) (pos := pos) (L := L) (l := c0) (vs := []) (.inl ⟨_, rfl⟩) (by wtm_at "om") (by wtm_at "om") hL hn0 (fun q hq => hb q (List.mem_append_left _ hq))
      rw [h0] at hs
      exact Tr_bind0 hs Tr_pure
    · rw [show 330 * cs.length = 0 + 330 * cs.length by wtm_at "om"]
      refine chunks_run hf hL cs _ _ _ [] _ _ hc hne ?_ (fun q hq => hb q (List.mem_append_right _ (List.mem_append_left _ hq))) ?_ ?_
      · rw [entL_hash]
        rw [List.map_append, List.map_append, ← List.append_assoc] at hnI
        exact (List.nodup_append.mp hnI).1
      · rw [entL_len, h0]; wtm_at "om"
      · have := forIn_part hf (main := some L.length) (rest := []) (prT pos last) [] (by rw [prT_len, hl]; decide)
        rw [List.append_nil, List.nil_append, List.forIn_nil] at this
        rw [this]
        exact Tr_pure
  · rw [List.nil_append]
    refine Tr_bind0 (n := 82) (a := some L.length) (s' := ⟨hp (L ++ dobj ((entL tk c0 ++ entsC (tk + 51) cs) ++ entS (tk + 51 + 51 * cs.length) last) (17 + 17 * cs.length + 4) :: (temps (tk + 51) cs ++ [dobj (entS (tk + 51 + 51 * cs.length) last) 4])), g, dr, tk + 51 + 51 * cs.length + 12, os⟩) (p' := pos) ?_ Tr_pure
    refine flush_last hl hL (by simp [hne]) ?_ (fun q hq => hb q (List.mem_append_right _ (List.mem_append_right _ hq))) ?_
    · rw [List.map_append, entL_hash, entsC_hash]
      rw [List.map_append, List.map_append, ← List.append_assoc] at hnI
      exact hnI
    · rw [List.length_append, entL_len, h0, entsC_len _ _ hc]; wtm_at "om"
end
noncomputable def b3pos : Pos := match b3v with | .Dict _ _ p => p | _ => ⟨0, 0, 0, 0⟩
noncomputable def b3spos : Pos := match stm 10 with | .Assign _ _ p => p | _ => ⟨0, 0, 0, 0⟩
noncomputable def b3t : List Expr := match stm 10 with | .Assign t _ _ => t | _ => []
theorem b3L_eq : b3L = b3c0 ++ (b3cs.flatten ++ b3last) := by kernel_rfl
theorem b3shape : (evalEachOpt b3K hEnv).zip ((evalEach b3V hEnv).map fun v => do let x ← v; standAt b3pos; pure x) = (prT b3pos b3L).map fun p => (some p.1, p.2) := by kernel_rfl
noncomputable def inc : List Nat → Bool
  | a :: b :: r => Nat.blt a b && inc (b :: r)
  | _ => true
theorem inc_low : ∀ (l : List Nat) (a : Nat), inc (a :: l) = true → ∀ b ∈ l, a < b
  | b :: r, a, h, c, hc => by
    have h1 : Nat.blt a b = true ∧ inc (b :: r) = true := by simpa [inc] using h
    have h2 : a < b := Nat.le_of_ble_eq_true h1.1
    rcases List.mem_cons.mp hc with rfl | hc
    · exact h2
    · exact Nat.lt_trans h2 (inc_low r b h1.2 c hc)
theorem inc_nodup : ∀ l : List Nat, inc l = true → l.Nodup
  | [], _ => List.nodup_nil
  | a :: l, h => by
    refine List.nodup_cons.mpr ⟨fun hm => Nat.lt_irrefl _ (inc_low l a h a hm), ?_⟩
    refine inc_nodup l ?_
    cases l with
    | nil => rfl
    | cons b r =>
      have h1 : Nat.blt a b = true ∧ inc (b :: r) = true := by simpa [inc] using h
      exact h1.2
theorem b3inc : inc (b3L.map (·.1)) = true := by kernel_rfl
theorem b3low : b3L.all (fun q => Nat.blt q.1 (2 ^ 60)) = true := by kernel_rfl
theorem b3lens : b3cs.all (fun c => c.length == 17) = true := by kernel_rfl
theorem b3stm : stm 10 = .Assign b3t (.Dict b3K b3V b3pos) b3spos := by kernel_rfl
theorem b3swap : swapsWithSole b3t (.Dict b3K b3V b3pos) b3spos.line hEnv = pure false := by kernel_rfl
theorem b3swap2 : swappedStores b3t (.Dict b3K b3V b3pos) hEnv = pure none := by kernel_rfl
/- the display of the whole table -/
theorem b3display {w : World} {bb : Bool} {L : List Obj} {g : Array GenState} {dr : Drawn} {os : OsState} {p : Pos} (hL : L.length = 107) :
    Tr (w.withFollow "special-get-raises" bb) [] 12515 (dictDisplay ((evalEachOpt b3K hEnv).zip ((evalEach b3V hEnv).map fun v => do let x ← v; standAt b3pos; pure x))) ⟨hp L, g, dr, 461, os⟩ p (.ref 107) ⟨hp (L ++ b3objs), g, dr, 2411, os⟩ b3pos := by
  rw [b3shape, b3L_eq]
  have hn : (b3L.map (·.1)).Nodup := inc_nodup _ b3inc
  have hb : ∀ q ∈ b3L, q.1 < 2 ^ 60 := fun q hq => Nat.le_of_ble_eq_true (List.all_eq_true.mp b3low q hq)
  rw [b3L_eq] at hn hb
  have h := display_at (w := w) (bb := bb) (g := g) (dr := dr) (os := os) (p := p) (pos := b3pos) (tk := 461) (L := L) (c0 := b3c0) (cs := b3cs) (last := b3last) (by wtm_at "om") (by kernel_rfl) (fun c hc => by simpa using List.all_eq_true.mp b3lens c hc) (by kernel_rfl) (by rw [show b3cs.length = 37 by kernel_rfl]; decide) hn hb
  rw [show b3cs.length = 37 by kernel_rfl, hL] at h
  exact h
noncomputable def t_gB (P : Params) : BT := (nd (o0a P) (nd (o1a P) (nd (o3g P) (nd (o7a P) (nd (o15a P) (nd (o31b P) (nd (o63e P) (nd (bobj 127) nil nil) nil) (nd (o95f P) nil nil)) (nd (o47e P) (nd (o79e P) (nd (bobj 143) nil nil) nil) (nd (bobj 111) nil nil))) (nd (o23a P) (nd (o39d P) (nd (o71e P) (nd (bobj 135) nil nil) nil) (nd (o103g P) nil nil)) (nd (o55e P) (nd (o87e P) nil nil) (nd (bobj 119) nil nil)))) (nd (o11a P) (nd (o19a P) (nd (o35c P) (nd (o67e P) (nd (bobj 131) nil nil) nil) (nd (o99f P) nil nil)) (nd (o51e P) (nd (o83e P) nil nil) (nd (bobj 115) nil nil))) (nd (o27a P) (nd (o43e P) (nd (o75e P) (nd (bobj 139) nil nil) nil) (nd (bobj 107) nil nil)) (nd (o59e P) (nd (o91f P) nil nil) (nd (bobj 123) nil nil))))) (nd (o5a P) (nd (o9a P) (nd (o17a P) (nd (o33c P) (nd (o65e P) (nd (bobj 129) nil nil) nil) (nd (o97f P) nil nil)) (nd (o49e P) (nd (o81e P) (nd (bobj 145) nil nil) nil) (nd (bobj 113) nil nil))) (nd (o25a P) (nd (o41e P) (nd (o73e P) (nd (bobj 137) nil nil) nil) (nd (o105g P) nil nil)) (nd (o57e P) (nd (o89f P) nil nil) (nd (bobj 121) nil nil)))) (nd (o13a P) (nd (o21a P) (nd (o37c P) (nd (o69e P) (nd (bobj 133) nil nil) nil) (nd (o101g P) nil nil)) (nd (o53e P) (nd (o85e P) nil nil) (nd (bobj 117) nil nil))) (nd (o29g P) (nd (o45e P) (nd (o77e P) (nd (bobj 141) nil nil) nil) (nd (bobj 109) nil nil)) (nd (o61e P) (nd (o93f P) nil nil) (nd (bobj 125) nil nil)))))) (nd (o2a P) (nd (o4a P) (nd (o8a P) (nd (o16a P) (nd (o32c P) (nd (o64e P) (nd (bobj 128) nil nil) nil) (nd (o96f P) nil nil)) (nd (o48e P) (nd (o80e P) (nd (bobj 144) nil nil) nil) (nd (bobj 112) nil nil))) (nd (o24a P) (nd (o40e P) (nd (o72e P) (nd (bobj 136) nil nil) nil) (nd (o104g P) nil nil)) (nd (o56e P) (nd (o88e P) nil nil) (nd (bobj 120) nil nil)))) (nd (o12a P) (nd (o20a P) (nd (o36c P) (nd (o68e P) (nd (bobj 132) nil nil) nil) (nd (o100g P) nil nil)) (nd (o52e P) (nd (o84e P) nil nil) (nd (bobj 116) nil nil))) (nd (o28b P) (nd (o44e P) (nd (o76e P) (nd (bobj 140) nil nil) nil) (nd (bobj 108) nil nil)) (nd (o60e P) (nd (o92f P) nil nil) (nd (bobj 124) nil nil))))) (nd (o6a P) (nd (o10a P) (nd (o18a P) (nd (o34c P) (nd (o66e P) (nd (bobj 130) nil nil) nil) (nd (o98f P) nil nil)) (nd (o50e P) (nd (o82e P) nil nil) (nd (bobj 114) nil nil))) (nd (o26a P) (nd (o42e P) (nd (o74e P) (nd (bobj 138) nil nil) nil) (nd (o106g P) nil nil)) (nd (o58e P) (nd (o90f P) nil nil) (nd (bobj 122) nil nil)))) (nd (o14a P) (nd (o22a P) (nd (o38c P) (nd (o70e P) (nd (bobj 134) nil nil) nil) (nd (o102g P) nil nil)) (nd (o54e P) (nd (o86e P) nil nil) (nd (bobj 118) nil nil))) (nd (o30b P) (nd (o46e P) (nd (o78e P) (nd (bobj 142) nil nil) nil) (nd (bobj 110) nil nil)) (nd (o62e P) (nd (o94f P) nil nil) (nd (bobj 126) nil nil)))))))
theorem Tr_pre {w : World} {vs : List Value} {n N : Nat} {α β : Type} {t : Sem α} {f : α → Sem β} {a : α} {s s' : Shared} {p p' : Pos} {K : β → Sem Fin} {H : Value → Sem Fin} (h : Tr w vs n t s p a s' p') : sr w (N + n) s (thd ((t >>= f).wrap K H id (vs ++ ·)) p) = sr w N s' (thd ((f a).wrap K H id (vs ++ ·)) p') := by
  rw [Sem.bind_eq_wrap', Sem.wrap_wrap]
  exact h _ _ _
noncomputable def b3tail (v : Value) : Sem Flow := assignStores hEnv v none ((assignEach b3t hEnv).map (·.2))
theorem b3exec : exec (stm 10) hEnv = (standAt b3spos >>= fun _ => (standAt b3pos >>= fun _ => dictDisplay ((evalEachOpt b3K hEnv).zip ((evalEach b3V hEnv).map fun v => do let x ← v; standAt b3pos; pure x))) >>= b3tail) := by
  rw [b3stm]
  show (standAt b3spos >>= fun _ => swapsWithSole b3t (.Dict b3K b3V b3pos) b3spos.line hEnv >>= fun b => _) = _
  rw [b3swap]
  show (standAt b3spos >>= fun _ => (eval (.Dict b3K b3V b3pos) hEnv >>= fun v => swappedStores b3t (.Dict b3K b3V b3pos) hEnv >>= fun sw => assignStores hEnv v sw ((assignEach b3t hEnv).map (·.2)))) = _
  rw [b3swap2]
  rfl
noncomputable abbrev b3thr : Thread := ⟨(b3tail (.ref 107)).wrap (fun f => match f with | .next => (execs [] hEnv).wrap doneF deadEnd id id | f => doneF f) deadEnd id id, hCode, b3pos, [topFrame p00]⟩
theorem b3end (w : World) (os : OsState) : segRunT treeTable pw w 28 (some (.ref 6)) 1 8 (st t_gB 146 2411 w os) b3thr = some (.next, st t_h 146 2412 w os, hCode, { line := 67, col := 0, endLine := 67, endCol := 13 }) := by
  rw [PySem.W.Fast.te10110043849684766642, PySem.W.Fast.te14364793385576792824]; unfold b3thr; rw [PySem.W.Fast.te12563942051412417395]; kernel_rfl
theorem list_len (t : BT) (n : Nat) : (t.list n).length = n := by unfold BT.list; simp
theorem b3list (P : Params) : (t_gB P).list 146 = (t_g P).list 107 ++ b3objs := by kernel_rfl
theorem b3body (w : World) (bb : Bool) (os : OsState) (p : Pos) : segRun treeTable pw (w.withFollow "special-get-raises" bb) 28 (some (.ref 6)) 1 (8 + 12515 + 1 + 1) (st t_g 107 461 (w.withFollow "special-get-raises" bb) os).abs (thr [stm 10] p) =
    some (.next, (st t_h 146 2412 (w.withFollow "special-get-raises" bb) os).abs, hCode, { line := 67, col := 0, endLine := 67, endCol := 13 }) := by
  have e0 : (thr [stm 10] p : Thread) = thd ((exec (stm 10) hEnv).wrap (fun f => match f with | .next => (execs [] hEnv).wrap doneF deadEnd id id | f => doneF f) deadEnd id ([] ++ ·)) p := by
    show (⟨(execs [stm 10] hEnv).wrap doneF deadEnd id id, hCode, p, [topFrame p00]⟩ : Thread) = _
    rw [execs_cons_wrap]
    rfl
  rw [e0, b3exec]
  refine (Tr_pre (n := 1) (a := ()) Tr_at).trans ?_
  rw [show ∀ (a : Sem Unit) (b : Sem Value) (c : Value → Sem Flow), ((a >>= fun _ => b) >>= c) = (a >>= fun _ => b >>= c) from fun a b c => bind_assoc ..]
  refine (Tr_pre (n := 1) (a := ()) Tr_at).trans ?_
  refine (Tr_pre (n := 12515) (b3display (list_len _ _))).trans ?_
  rw [← b3list]
  exact segRun_of (b3end (w.withFollow "special-get-raises" bb) os)
theorem b3run (w : World) : ∀ (os : OsState) (p : Pos), segRun treeTable pw w 28 (some (.ref 6)) 1 12525 (st t_g 107 461 w os).abs (thr [stm 10] p) =
    some (.next, (st t_h 146 2412 w os).abs, hCode, { line := 67, col := 0, endLine := 67, endCol := 13 }) :=
  byRow2 "special-get-raises" (P := fun w => ∀ (os : OsState) (p : Pos), segRun treeTable pw w 28 (some (.ref 6)) 1 12525 (st t_g 107 461 w os).abs (thr [stm 10] p) =
    some (.next, (st t_h 146 2412 w os).abs, hCode, { line := 67, col := 0, endLine := 67, endCol := 13 })) (fun w => b3body w false) (fun w => b3body w true) w
theorem g1 (w : World) (os : OsState) : segRunT treeTable pw w 28 (some (.ref 6)) 1 39 (st t_b 32 282 w os) (thr [stm 1, stm 2] { line := 0, col := 0, endLine := 0, endCol := 0 }) = some (.next, st t_c 39 291 w os, hCode, { line := 5, col := 0, endLine := 5, endCol := 8 }) := by
  rw [PySem.W.Fast.te10110043849684766642, PySem.W.Fast.te14364793385576792824]; unfold thr piecesOf; rw [PySem.W.Fast.te12563942051412417395]; kernel_rfl
noncomputable def g2P (w : World) : Prop := ∀ os : OsState, segRunT treeTable pw w 28 (some (.ref 6)) 1 141 (st t_c 39 291 w os) (thr [stm 3] { line := 5, col := 0, endLine := 5, endCol := 8 }) = some (.next, st t_d 40 322 w os, hCode, { line := 6, col := 0, endLine := 6, endCol := 19 })
theorem g2f (w : World) : g2P (w.withFollow "special-get-raises" false) := by
  intro os
  rw [PySem.W.Fast.te10110043849684766642, PySem.W.Fast.te14364793385576792824]; unfold thr piecesOf; rw [PySem.W.Fast.te12563942051412417395]; kernel_rfl
theorem g2t (w : World) : g2P (w.withFollow "special-get-raises" true) := by
  intro os
  rw [PySem.W.Fast.te10110043849684766642, PySem.W.Fast.te14364793385576792824]; unfold thr piecesOf; rw [PySem.W.Fast.te12563942051412417395]; kernel_rfl
theorem g2 (w : World) : g2P w := byRow2 "special-get-raises" (P := fun w => g2P w) g2f g2t w
theorem g3 (w : World) (os : OsState) : segRunT treeTable pw w 28 (some (.ref 6)) 1 374 (st t_d 40 322 w os) (thr [stm 4, stm 5, stm 6, stm 7] { line := 6, col := 0, endLine := 6, endCol := 19 }) = some (.next, st t_e 89 394 w os, hCode, { line := 63, col := 0, endLine := 63, endCol := 8 }) := by
  rw [PySem.W.Fast.te10110043849684766642, PySem.W.Fast.te14364793385576792824]; unfold thr piecesOf; rw [PySem.W.Fast.te12563942051412417395]; kernel_rfl
noncomputable def g4P (w : World) : Prop := ∀ os : OsState, segRunT treeTable pw w 28 (some (.ref 6)) 1 999 (st t_e 89 394 w os) (thr [stm 8] { line := 63, col := 0, endLine := 63, endCol := 8 }) = some (.next, st t_f 100 454 w os, hCode, { line := 64, col := 0, endLine := 64, endCol := 6 })
theorem g4ff (w : World) : g4P ((w.withFollow "special-get-raises" false).withFollow "set-order" false) := by
  intro os
  rw [PySem.W.Fast.te10110043849684766642, PySem.W.Fast.te14364793385576792824]; unfold thr piecesOf; rw [PySem.W.Fast.te12563942051412417395]; kernel_rfl
theorem g4ft (w : World) : g4P ((w.withFollow "special-get-raises" true).withFollow "set-order" false) := by
  intro os
  rw [PySem.W.Fast.te10110043849684766642, PySem.W.Fast.te14364793385576792824]; unfold thr piecesOf; rw [PySem.W.Fast.te12563942051412417395]; kernel_rfl
theorem g4f (w : World) : g4P (w.withFollow "set-order" false) := byRow2 "special-get-raises" (P := fun w => g4P (w.withFollow "set-order" false)) g4ff g4ft w
theorem g4tf (w : World) : g4P ((w.withFollow "special-get-raises" false).withFollow "set-order" true) := by
  intro os
  rw [PySem.W.Fast.te10110043849684766642, PySem.W.Fast.te14364793385576792824]; unfold thr piecesOf; rw [PySem.W.Fast.te12563942051412417395]; kernel_rfl
theorem g4tt (w : World) : g4P ((w.withFollow "special-get-raises" true).withFollow "set-order" true) := by
  intro os
  rw [PySem.W.Fast.te10110043849684766642, PySem.W.Fast.te14364793385576792824]; unfold thr piecesOf; rw [PySem.W.Fast.te12563942051412417395]; kernel_rfl
theorem g4t (w : World) : g4P (w.withFollow "set-order" true) := byRow2 "special-get-raises" (P := fun w => g4P (w.withFollow "set-order" true)) g4tf g4tt w
theorem g4 (w : World) : g4P w := byRow2 "set-order" (P := fun w => g4P w) g4f g4t w
theorem g5 (w : World) (os : OsState) : segRunT treeTable pw w 28 (some (.ref 6)) 1 30 (st t_f 100 454 w os) (thr [stm 9] { line := 64, col := 0, endLine := 64, endCol := 6 }) = some (.next, st t_g 107 461 w os, hCode, { line := 65, col := 0, endLine := 66, endCol := 30 }) := by
  rw [PySem.W.Fast.te10110043849684766642, PySem.W.Fast.te14364793385576792824]; unfold thr piecesOf; rw [PySem.W.Fast.te12563942051412417395]; kernel_rfl
theorem g6 (w : World) (os : OsState) : segRunT treeTable pw w 28 (some (.ref 6)) 1 121 (st t_h 146 2412 w os) (thr [stm 11, stm 12, stm 13] { line := 67, col := 0, endLine := 67, endCol := 13 }) = some (.next, st t_i 158 2460 w os, hCode, { line := 74, col := 0, endLine := 74, endCol := 10 }) := by
  rw [PySem.W.Fast.te10110043849684766642, PySem.W.Fast.te14364793385576792824]; unfold thr piecesOf; rw [PySem.W.Fast.te12563942051412417395]; kernel_rfl
noncomputable def g7P (w : World) : Prop := ∀ os : OsState, segRunT treeTable pw w 28 (some (.ref 6)) 1 116 (st t_i 158 2460 w os) (thr [stm 14] { line := 74, col := 0, endLine := 74, endCol := 10 }) = some (.next, st t_j 159 2482 w os, hCode, { line := 75, col := 0, endLine := 75, endCol := 14 })
theorem g7f (w : World) : g7P (w.withFollow "special-get-raises" false) := by
  intro os
  rw [PySem.W.Fast.te10110043849684766642, PySem.W.Fast.te14364793385576792824]; unfold thr piecesOf; rw [PySem.W.Fast.te12563942051412417395]; kernel_rfl
theorem g7t (w : World) : g7P (w.withFollow "special-get-raises" true) := by
  intro os
  rw [PySem.W.Fast.te10110043849684766642, PySem.W.Fast.te14364793385576792824]; unfold thr piecesOf; rw [PySem.W.Fast.te12563942051412417395]; kernel_rfl
theorem g7 (w : World) : g7P w := byRow2 "special-get-raises" (P := fun w => g7P w) g7f g7t w
theorem g8 (w : World) (os : OsState) : segRunT treeTable pw w 28 (some (.ref 6)) 1 57 (st t_j 159 2482 w os) (thr [stm 15, stm 16] { line := 75, col := 0, endLine := 75, endCol := 14 }) = some (.next, st t_k 167 2491 w os, hCode, { line := 78, col := 0, endLine := 78, endCol := 23 }) := by
  rw [PySem.W.Fast.te10110043849684766642, PySem.W.Fast.te14364793385576792824]; unfold thr piecesOf; rw [PySem.W.Fast.te12563942051412417395]; kernel_rfl
theorem g9 (w : World) (os : OsState) : segRunT treeTable pw w 28 (some (.ref 6)) 1 661 (st t_k 167 2491 w os) (thr [stm 17] { line := 78, col := 0, endLine := 78, endCol := 23 }) = some (.next, st t_l 269 2656 w os, hCode, { line := 79, col := 0, endLine := 251, endCol := 29 }) := by
  rw [PySem.W.Fast.te10110043849684766642, PySem.W.Fast.te14364793385576792824]; unfold thr piecesOf; rw [PySem.W.Fast.te12563942051412417395]; kernel_rfl
theorem g10 (w : World) (os : OsState) : segRunT treeTable pw w 28 (some (.ref 6)) 1 390 (st t_l 269 2656 w os) (thr [stm 18, stm 19, stm 20, stm 21, stm 22, stm 23, stm 24, stm 25, stm 26, stm 27, stm 28, stm 29, stm 30, stm 31] { line := 79, col := 0, endLine := 251, endCol := 29 }) = some (.next, st t_m 352 2760 w os, hCode, { line := 347, col := 0, endLine := 390, endCol := 101 }) := by
  rw [PySem.W.Fast.te10110043849684766642, PySem.W.Fast.te14364793385576792824]; unfold thr piecesOf; rw [PySem.W.Fast.te12563942051412417395]; kernel_rfl
noncomputable abbrev hpA (P : Params) : Heap := absHeap (t_a P) 28 {}
noncomputable abbrev hpM (P : Params) : Heap := absHeap (t_m P) 352 {}
theorem t_open (w : World) : (fencedOpening treeTable pw w 20000).map (fun s => (s.heap, s.gens, s.drawn, s.toks)) = some (hpA w.params, #[], {}, 276) := by kernel_rfl
theorem t_size (w : World) : ((hpA w.params).isNs mainGlobals && (#[] : Array GenState).size == 0, (hpA w.params).objs.size, (hpA w.params).nsMap mainGlobals "__annotations__") = (true, 28, some (.ref 6)) := by kernel_rfl
theorem t_pre (w : World) (os : OsState) : topGo treeTable pw w 28 (some (.ref 6)) 12 (st t_a 28 276 w os).abs (topStub pw) = some ((st t_b 32 282 w os).abs, ⟨denote treeTable hCode, hCode, p00, [topFrame p00]⟩) := by kernel_rfl
theorem t_block (w : World) (os : OsState) : segRun treeTable pw w 28 (some (.ref 6)) 1 1 (st t_b 32 282 w os).abs (blockOf (behindTheImports pw) hEnv hCode p00 [topFrame p00]) = some (.next, (st t_b 32 282 w os).abs, hCode, p00) := by kernel_rfl
theorem t_fin (w : World) (os : OsState) : topRun treeTable pw w 28 (some (.ref 6)) 2 (st t_m 352 2760 w os).abs ⟨doneF .next, hCode, { line := 347, col := 0, endLine := 390, endCol := 101 }, [topFrame p00]⟩ = some (st t_m 352 2760 w os).abs := by kernel_rfl
theorem t_body : behindTheImports pw = [stm 1, stm 2] ++ ([stm 3] ++ ([stm 4, stm 5, stm 6, stm 7] ++ ([stm 8] ++ ([stm 9] ++ ([stm 10] ++ ([stm 11, stm 12, stm 13] ++ ([stm 14] ++ ([stm 15, stm 16] ++ ([stm 17] ++ ([stm 18, stm 19, stm 20, stm 21, stm 22, stm 23, stm 24, stm 25, stm 26, stm 27, stm 28, stm 29, stm 30, stm 31] ++ [])))))))))) := by kernel_rfl
noncomputable def steps1 : Nat := 12 + (1 + (39 + (141 + (374 + (999 + (30 + (12525 + (121 + (116 + (57 + (661 + (390 + 2))))))))))))
theorem t_run (w : World) (os : OsState) : topRun treeTable pw w 28 (some (.ref 6)) steps1 ⟨hpA w.params, #[], {}, 276, os⟩ (topStub pw) = some ⟨hpM w.params, #[], {}, 2760, os⟩ := by
  refine go_top (n := 12) (t_pre w os) ?_
  refine piece_block (n := 1) (t_block w os) ?_
  rw [t_body]
  refine piece_app (n := 39) (segRun_of (g1 w os)) ?_
  refine piece_app (n := 141) (segRun_of (g2 w os)) ?_
  refine piece_app (n := 374) (segRun_of (g3 w os)) ?_
  refine piece_app (n := 999) (segRun_of (g4 w os)) ?_
  refine piece_app (n := 30) (segRun_of (g5 w os)) ?_
  refine piece_app (n := 12525) (b3run w os _) ?_
  refine piece_app (n := 121) (segRun_of (g6 w os)) ?_
  refine piece_app (n := 116) (segRun_of (g7 w os)) ?_
  refine piece_app (n := 57) (segRun_of (g8 w os)) ?_
  refine piece_app (n := 661) (segRun_of (g9 w os)) ?_
  refine piece_app (n := 390) (segRun_of (g10 w os)) ?_
  exact piece_nil (t_fin w os)
noncomputable abbrev q0 : Program := view pw [31]
noncomputable abbrev loo : List Str := pw.boundNames.filter fun n => n != ("law" : Str)
noncomputable abbrev endS (w : World) (os : OsState) : Shared := ⟨hpM w.params, #[], {}, 2760, os⟩
theorem k_stat (w : World) : staticsOk (importedModules pw.main.body) (hpA w.params) (hpM w.params) = true := by kernel_rfl
theorem k_names (w : World) : namesBound pw (hpM w.params) = true := by kernel_rfl
theorem k_laid (w : World) : laidKept (hpA w.params) (hpM w.params) = true := by kernel_rfl
theorem k_1 (w : World) (os : OsState) : seen ((recsOf q0).map (·.name)) (ownsOf q0) [] { endS w os with gens := #[] } = expectedOf q0 := by kernel_rfl
theorem k_2 (w : World) (os : OsState) : (endS w os).heap.bltView = bltViewBooted := by kernel_rfl
theorem k_3a (w : World) (os : OsState) : (endS w os).heap.keysOk (looseW q0 loo) ((recsOf q0).map (·.name)) ((litsOf q0).map (·.1)) ((clssOf q0 (looseW q0 loo)).map (·.name)) = true := by kernel_rfl
theorem k_3b (w : World) (os : OsState) : (endS w os).heap.accountedOkI (importedModules pw.main.body) = true := by kernel_rfl
theorem k_3c (w : World) (os : OsState) : ((endS w os).heap.isNs mainGlobals && (endS w os).heap.isNs builtinsNs && tablesOk q0 (endS w os).heap) = true := by kernel_rfl
theorem k_4 (w : World) (os : OsState) : tabsOk q0 (endS w os) = true := by kernel_rfl
theorem k_5 (w : World) (os : OsState) : pinSeenD q0 (drecsOf q0) (endS w os) = pinGoodD (drecsOf q0) := by kernel_rfl
theorem k_6 (w : World) (os : OsState) : plainSeenE q0 (looseW q0 loo) (endS w os) = plainGoodE q0 (looseW q0 loo) := by kernel_rfl
theorem k_7 (w : World) (os : OsState) : plainSeenD q0 loo (endS w os) = plainGoodD q0 loo := by kernel_rfl
theorem k_8 (w : World) (os : OsState) : wideSeen q0 (endS w os) = wideGood q0 := by kernel_rfl
theorem k_9 (w : World) (os : OsState) : clsSeenW q0 loo (endS w os) = clsGoodW q0 loo := by kernel_rfl
theorem t_left : LeftO pw q0 loo (fun _ => true) (fun s => s.heap) (fun w => hpM w.params) 20000 := by
  refine LeftO.of_pieces (H₀ := hpA) (H₁ := hpM) (m₀ := 28) (M := steps1) t_open t_size t_run (by kernel_rfl) fun w => ?_
  funext os
  refine Prod.ext ?_ (Prod.ext ?_ rfl)
  · show (staticsOk (importedModules pw.main.body) (hpA w.params) (hpM w.params) && namesBound pw (hpM w.params) && true && laidKept (hpA w.params) (hpM w.params)) = true
    rw [k_stat, k_names, k_laid]
    rfl
  · show openSeen q0 loo (importedModules pw.main.body) (fun _ => true) true (endS w os) = openGood q0 loo
    unfold openSeen openGood
    rw [k_1, k_2, k_3a, k_3b, k_4, k_5, k_6, k_7, k_8, k_9]
    have h := k_3c w os
    rw [Bool.and_eq_true, Bool.and_eq_true] at h
    rw [h.1.1, h.1.2, h.2]
    rfl
noncomputable def KK (P : Params) : Frag := (List.range 352).filterMap fun a => if a == 237 || a == 308 then none else ((t_m P).get a).map fun o => (a, o)
section
variable {P : Params}
theorem kf_hidden : HasFn (KK P) 289 288 (stm 21) "_law_hidden" "_law_hidden" .none .none := ⟨_, _, _, _, (by kernel_rfl : (KK P).lookup 289 = some (o289m P)), by kernel_rfl⟩
theorem kf_letter : HasFn (KK P) 296 295 (stm 22) "_law_letter" "_law_letter" .none .none := ⟨_, _, _, _, (by kernel_rfl : (KK P).lookup 296 = some (o296m P)), by kernel_rfl⟩
theorem kf_typed : HasFn (KK P) 301 300 (stm 23) "_law_typed" "_law_typed" .none .none := ⟨_, _, _, _, (by kernel_rfl : (KK P).lookup 301 = some (o301m P)), by kernel_rfl⟩
theorem kf_raw : HasFn (KK P) 306 305 (stm 24) "_law_raw" "_law_raw" .none .none := ⟨_, _, _, _, (by kernel_rfl : (KK P).lookup 306 = some (o306m P)), by kernel_rfl⟩
theorem kf_lexer : HasFn (KK P) 313 312 (stm 25) "_law_lexer" "_law_lexer" .none .none := ⟨_, _, _, _, (by kernel_rfl : (KK P).lookup 313 = some (o313m P)), by kernel_rfl⟩
theorem kf_prepared : HasFn (KK P) 318 317 (stm 26) "_law_prepared" "_law_prepared" .none .none := ⟨_, _, _, _, (by kernel_rfl : (KK P).lookup 318 = some (o318m P)), by kernel_rfl⟩
theorem kf_lwalk : HasFn (KK P) 325 324 (stm 27) "_law_walk" "_law_walk" .none .none := ⟨_, _, _, _, (by kernel_rfl : (KK P).lookup 325 = some (o325m P)), by kernel_rfl⟩
theorem kf_page : HasFn (KK P) 332 331 (stm 28) "_law_page" "_law_page" .none .none := ⟨_, _, _, _, (by kernel_rfl : (KK P).lookup 332 = some (o332m P)), by kernel_rfl⟩
theorem kf_words : HasFn (KK P) 339 338 (stm 29) "_law_words" "_law_words" .none .none := ⟨_, _, _, _, (by kernel_rfl : (KK P).lookup 339 = some (o339m P)), by kernel_rfl⟩
theorem kf_flag : HasFn (KK P) 346 345 (stm 30) "_law_flag" "_law_flag" .none .none := ⟨_, _, _, _, (by kernel_rfl : (KK P).lookup 346 = some (o346m P)), by kernel_rfl⟩
theorem kf_pretty : HasFn (KK P) 46 45 (stm 4) "pretty_flags" "pretty_flags" .none .none := ⟨_, _, _, _, (by kernel_rfl : (KK P).lookup 46 = some (o46e P)), by kernel_rfl⟩
theorem kf_inb1 : HasFn (KK P) 106 105 (stm 9) "in_table_b1" "in_table_b1" .none .none := ⟨_, _, _, _, (by kernel_rfl : (KK P).lookup 106 = some (o106g P)), by kernel_rfl⟩
theorem kf_mapb3 : HasFn (KK P) 152 151 (stm 11) "map_table_b3" "map_table_b3" .none .none := ⟨_, _, _, _, (by kernel_rfl : (KK P).lookup 152 = some (o152i P)), by kernel_rfl⟩
theorem kf_escape : HasFn (KK P) 275 274 (stm 18) "_escape_cdata_c14n" "_escape_cdata_c14n" .none .none := ⟨_, _, _, _, (by kernel_rfl : (KK P).lookup 275 = some (o275m P)), by kernel_rfl⟩
theorem kf_lxInit : HasFn (KK P) 60 59 (mth 6 0) "__init__" "_netrclex.__init__" .none .none := ⟨_, _, _, _, (by kernel_rfl : (KK P).lookup 60 = some (o60e P)), by kernel_rfl⟩
theorem kf_lxRead : HasFn (KK P) 67 66 (mth 6 1) "_read_char" "_netrclex._read_char" .none .none := ⟨_, _, _, _, (by kernel_rfl : (KK P).lookup 67 = some (o67e P)), by kernel_rfl⟩
theorem kf_lxGet : HasFn (KK P) 74 73 (mth 6 2) "get_token" "_netrclex.get_token" .none .none := ⟨_, _, _, _, (by kernel_rfl : (KK P).lookup 74 = some (o74e P)), by kernel_rfl⟩
theorem kf_lxPush : HasFn (KK P) 81 80 (mth 6 3) "push_token" "_netrclex.push_token" .none .none := ⟨_, _, _, _, (by kernel_rfl : (KK P).lookup 81 = some (o81e P)), by kernel_rfl⟩
theorem kf_wData : HasFn (KK P) 211 210 (mth 17 4) "data" "C14NWriterTarget.data" .none .none := ⟨_, _, _, _, (by kernel_rfl : (KK P).lookup 211 = some (o211l P)), by kernel_rfl⟩
theorem kf_wStart : HasFn (KK P) 234 233 (mth 17 7) "start" "C14NWriterTarget.start" .none .none := ⟨_, _, _, _, (by kernel_rfl : (KK P).lookup 234 = some (o234l P)), by kernel_rfl⟩
theorem kf_wEnd : HasFn (KK P) 247 246 (mth 17 9) "end" "C14NWriterTarget.end" .none .none := ⟨_, _, _, _, (by kernel_rfl : (KK P).lookup 247 = some (o247l P)), by kernel_rfl⟩
theorem kf_wPi : HasFn (KK P) 261 260 (mth 17 11) "pi" "C14NWriterTarget.pi" .none .none := ⟨_, _, _, _, (by kernel_rfl : (KK P).lookup 261 = some (o261l P)), by kernel_rfl⟩
theorem kf_wInit : HasFn (KK P) 181 180 (mth 17 0) "__init__" "C14NWriterTarget.__init__" .none (.ref 174) := ⟨_, _, _, _, (by kernel_rfl : (KK P).lookup 181 = some (o181l P)), by kernel_rfl⟩
theorem kf_wQname : HasFn (KK P) 204 203 (mth 17 3) "_qname" "C14NWriterTarget._qname" (.ref 197) .none := ⟨_, _, _, _, (by kernel_rfl : (KK P).lookup 204 = some (o204l P)), by kernel_rfl⟩
theorem kf_wFlush : HasFn (KK P) 220 219 (mth 17 5) "_flush" "C14NWriterTarget._flush" (.ref 213) .none := ⟨_, _, _, _, (by kernel_rfl : (KK P).lookup 220 = some (o220l P)), by kernel_rfl⟩
theorem kf_wStart2 : HasFn (KK P) 240 239 (mth 17 8) "_start" "C14NWriterTarget._start" (.ref 235) .none := ⟨_, _, _, _, (by kernel_rfl : (KK P).lookup 240 = some (o240l P)), by kernel_rfl⟩
theorem kf_law : HasFn (KK P) 351 350 (stm 31) "law" "law" .none .none := ⟨_, _, _, _, (by kernel_rfl : (KK P).lookup 351 = some (o351m P)), by kernel_rfl⟩
theorem kf : KF (KK P) := ⟨kf_hidden, kf_letter, kf_typed, kf_raw, kf_lexer, kf_prepared, kf_lwalk, kf_page, kf_words, kf_flag, kf_pretty, kf_inb1, kf_mapb3, kf_escape, kf_lxInit, kf_lxRead, kf_lxGet, kf_lxPush, kf_wData, kf_wStart, kf_wEnd, kf_wPi, kf_wInit, kf_wQname, kf_wFlush, kf_wStart2⟩
end
section
variable {P : Params}
theorem kg_lex : ClsF (KK P) 84 60 ["lineno", "instream", "whitespace", "pushback", "read"] := ⟨fun name => by kernel_rfl, by kernel_rfl, by kernel_rfl, by kernel_rfl, by kernel_rfl, by kernel_rfl, by kernel_rfl, by kernel_rfl, by kernel_rfl⟩
theorem kg_wri : ClsF (KK P) 264 181 ["_write", "_data", "_with_comments", "_strip_text", "_exclude_attrs", "_exclude_tags", "_rewrite_prefixes", "_qname_aware_tags", "_find_qname_aware_attrs", "_declared_ns_stack", "_ns_stack", "_prefix_map", "_preserve_space", "_pending_start", "_root_seen", "_root_done", "_ignored_depth"] := ⟨fun name => by kernel_rfl, by kernel_rfl, by kernel_rfl, by kernel_rfl, by kernel_rfl, by kernel_rfl, by kernel_rfl, by kernel_rfl, by kernel_rfl⟩
theorem kg_lexRead : MetF (KK P) 84 "_read_char" 67 := ⟨by kernel_rfl, by kernel_rfl, by kernel_rfl, by kernel_rfl⟩
theorem kg_lexGet : MetF (KK P) 84 "get_token" 74 := ⟨by kernel_rfl, by kernel_rfl, by kernel_rfl, by kernel_rfl⟩
theorem kg_lexPush : MetF (KK P) 84 "push_token" 81 := ⟨by kernel_rfl, by kernel_rfl, by kernel_rfl, by kernel_rfl⟩
theorem kg_wriIter : MetF (KK P) 264 "_iter_namespaces" 189 := ⟨by kernel_rfl, by kernel_rfl, by kernel_rfl, by kernel_rfl⟩
theorem kg_wriQname : MetF (KK P) 264 "_qname" 204 := ⟨by kernel_rfl, by kernel_rfl, by kernel_rfl, by kernel_rfl⟩
theorem kg_wriData : MetF (KK P) 264 "data" 211 := ⟨by kernel_rfl, by kernel_rfl, by kernel_rfl, by kernel_rfl⟩
theorem kg_wriFlush : MetF (KK P) 264 "_flush" 220 := ⟨by kernel_rfl, by kernel_rfl, by kernel_rfl, by kernel_rfl⟩
theorem kg_wriStart : MetF (KK P) 264 "start" 234 := ⟨by kernel_rfl, by kernel_rfl, by kernel_rfl, by kernel_rfl⟩
theorem kg_wriStart2 : MetF (KK P) 264 "_start" 240 := ⟨by kernel_rfl, by kernel_rfl, by kernel_rfl, by kernel_rfl⟩
theorem kg_wriEnd : MetF (KK P) 264 "end" 247 := ⟨by kernel_rfl, by kernel_rfl, by kernel_rfl, by kernel_rfl⟩
theorem kg_wriPi : MetF (KK P) 264 "pi" 261 := ⟨by kernel_rfl, by kernel_rfl, by kernel_rfl, by kernel_rfl⟩
theorem kg : KG (KK P) := ⟨kg_lex, kg_lexRead, kg_lexGet, kg_lexPush, kg_wri, kg_wriIter, kg_wriQname, kg_wriData, kg_wriFlush, kg_wriStart, kg_wriStart2, kg_wriEnd, kg_wriPi⟩
theorem kt : KT (KK P) := ⟨by kernel_rfl, by kernel_rfl⟩
end
theorem hashInt_nat {m : Nat} (h : m < 2 ^ 60) : hashInt ((m : Nat) : Int) = (m : Int) := by
  have e : PySem.rawHash ((m : Nat) : Int) = Mine.H.rawHash m := rfl
  unfold hashInt
  rw [e, rawHash_eq h, if_neg (by simp)]
noncomputable def keyO : Value → Option Nat
  | .int (.ofNat n) _ => some n
  | _ => none
theorem keyO_eq {v : Value} {n : Nat} (h : keyO v = some n) : ∃ t, v = .int (.ofNat n) t := by
  cases v with
  | int i t => cases i with
    | ofNat m => cases h; exact ⟨t, rfl⟩
    | negSucc m => cases h
  | _ => cases h
noncomputable def smallK (v : Value) (h : Int) : Bool := (keyO v).any fun n => Nat.blt n (2 ^ 60) && h == ((n : Nat) : Int)
theorem smallK_eq {v : Value} {h : Int} (e : smallK v h = true) : ∃ (n : Nat) (t : Tok), v = .int (.ofNat n) t ∧ n < 2 ^ 60 ∧ h = (n : Int) := by
  unfold smallK at e
  cases hk : keyO v with
  | none => rw [hk] at e; cases e
  | some n =>
    rw [hk] at e
    have e : (Nat.blt n (2 ^ 60) && h == ((n : Nat) : Int)) = true := e
    rw [Bool.and_eq_true] at e
    obtain ⟨t, ht⟩ := keyO_eq hk
    exact ⟨n, t, ht, Nat.le_of_ble_eq_true e.1, eq_of_beq e.2⟩
/- an entry whose key is a small number -/
noncomputable def okE (e : DictEntry) : Bool := smallK e.key e.hash
theorem keys_int {prog : Program} {w : World} {es : Array DictEntry} (h : es.toList.all okE = true) : KeysOf (intKind prog w) es := by
  intro e he
  obtain ⟨n, t, hk, hn, hh⟩ := smallK_eq (List.all_eq_true.mp h e (Array.mem_toList_iff.mpr he))
  refine ⟨(n : Int), ?_, ?_⟩
  · rw [hk]; exact intKind_is
  · rw [hh]; exact (hashInt_nat hn).symm
noncomputable def keyT (v : Value) : Nat := (keyO v).getD 0
noncomputable def okS (e : Int × Value) : Bool := smallK e.2 e.1 && e.2.scannable
theorem elems_int {prog : Program} {w : World} {es : List (Int × Value)} (h : es.all okS = true) : ElemsOf (intKind prog w) es := by
  intro e he
  obtain ⟨h0, h2⟩ := Bool.and_eq_true_iff.mp (List.all_eq_true.mp h e he : (smallK e.2 e.1 && e.2.scannable) = true)
  obtain ⟨n, t, hk, hn, hh⟩ := smallK_eq h0
  refine ⟨⟨(n : Int), ?_, ?_⟩, h2⟩
  · rw [hk]; exact intKind_is
  · rw [hh]; exact (hashInt_nat hn).symm
noncomputable def dictEs (o : Obj) : Array DictEntry := match o.data with | .dict es _ => es | _ => #[]
noncomputable def setEs (o : Obj) : Array (Int × Value) := match o.data with | .set es _ _ => es | _ => #[]
section
variable {P : Params}
theorem ks : KS (KK P) := ⟨⟨_, (by kernel_rfl : (KK P).lookup 1 = some (o1a P))⟩, by kernel_rfl⟩
theorem kd3_kw : ∃ es n, (KK P).lookup 174 = some { cls := .type "dict", data := .dict es n } ∧ lookIn "with_comments" { cls := .type "dict", data := .dict es n } = some (some (.bool false)) ∧ lookIn "strip_text" { cls := .type "dict", data := .dict es n } = some (some (.bool false)) ∧ lookIn "rewrite_prefixes" { cls := .type "dict", data := .dict es n } = some (some (.bool false)) ∧
    lookIn "qname_aware_tags" { cls := .type "dict", data := .dict es n } = some (some .none) ∧ lookIn "qname_aware_attrs" { cls := .type "dict", data := .dict es n } = some (some .none) ∧ lookIn "exclude_attrs" { cls := .type "dict", data := .dict es n } = some (some .none) ∧ lookIn "exclude_tags" { cls := .type "dict", data := .dict es n } = some (some .none) :=
  ⟨dictEs (o174l P), 7, by kernel_rfl, by kernel_rfl, by kernel_rfl, by kernel_rfl, by kernel_rfl, by kernel_rfl, by kernel_rfl, by kernel_rfl⟩
/- a dict of texts -/
noncomputable def strEs (P : Params) (l : List (Str × Nat × Value)) : List DictEntry := l.map fun q => ⟨PyData.keyHash P q.1, .str q.1 q.2.1, q.2.2⟩
noncomputable def unEs (o : Obj) : List (Str × Nat × Value) := (dictEs o).toList.map fun e => match e.key with | .str x t => (x, t, e.val) | _ => ("", 0, e.val)
noncomputable def dups : List Str → Bool
  | [] => false
  | x :: r => r.contains x || dups r
theorem dups_ok : ∀ l : List Str, dups l = false → l.Nodup
  | [], _ => List.nodup_nil
  | x :: r, h => by
    unfold dups at h
    rw [Bool.or_eq_false_iff] at h
    exact List.nodup_cons.mpr ⟨fun hm => by rw [List.contains_iff_mem.mpr hm] at h; exact absurd h.1 (by decide), dups_ok r h.2⟩
theorem strEs_pairs {prog : Program} {w : World} : ∀ l : List (Str × Nat × Value), Pairs (strKind prog w) (strEs P l) (l.map fun q => (q.1, q.2.2))
  | [] => .nil
  | q :: r => .cons (by show Value.isStrOf q.1 (.str q.1 q.2.1) = true; simp [Value.isStrOf]) rfl (strEs_pairs r)
theorem kd3_ns (prog : Program) (w : World) (h : Heap) (hw : w.params = P) (X : (KK P).In h) : ∃ (kvs : List (Str × Value)) (ep : Nat), h.DictAt (strKind prog w) 158 kvs ep ∧ kvs.length ≤ 100 := by
  subst hw
  have e : o158j w.params = ⟨.type "dict", none, .dict (strEs w.params (unEs (o158j w.params))).toArray (unEs (o158j w.params)).length, #[]⟩ := by kernel_rfl
  refine ⟨(unEs (o158j w.params)).map fun q => (q.1, q.2.2), (unEs (o158j w.params)).length, ⟨_, (strEs w.params (unEs (o158j w.params))).toArray, X _ _ (by kernel_rfl : (KK w.params).lookup 158 = some (o158j w.params)), ?_, congrArg Obj.data e, ?_, ?_, ?_⟩, ?_⟩
  · exact ⟨congrArg Obj.cls e, congrArg Obj.dict e, congrArg Obj.slots e⟩
  · intro d hd
    have hd : d ∈ strEs w.params (unEs (o158j w.params)) := by simpa using hd
    obtain ⟨q, _, rfl⟩ := List.mem_map.mp hd
    refine ⟨q.1, ?_, rfl⟩
    show Value.isStrOf q.1 (.str q.1 q.2.1) = true
    simp [Value.isStrOf]
  · exact strEs_pairs _
  · refine dups_ok _ ?_
    kernel_rfl
  · have : (unEs (o158j w.params)).length = 7 := by kernel_rfl
    rw [List.length_map, this]; decide
theorem kd3 : KD3 (KK P) P := ⟨kd3_ns, kd3_kw, by kernel_rfl, by kernel_rfl, by kernel_rfl, ⟨2568, by kernel_rfl⟩⟩
end
noncomputable def strT : Value → Option Str
  | .str s _ => some s
  | _ => none
theorem strT_can {v : Value} {y : Str} (h : strT v = some y) : can v = vS y := by
  cases v <;> first | (cases h; rfl) | cases h
/- what a dict of numbers gives -/
noncomputable def gives (es : Array DictEntry) (i : Int) (x : Option Str) : Bool := (findBy Value.isInt es i).map strT == x.map some
theorem gives_eq {es : Array DictEntry} {i : Int} {x : Option Str} (h : gives es i x = true) : (findBy Value.isInt es i).map can = x.map vS := by
  have e : (findBy Value.isInt es i).map strT = x.map some := eq_of_beq h
  generalize findBy Value.isInt es i = o at e
  cases o with
  | none => cases x with
    | none => rfl
    | some y => cases e
  | some v => cases x with
    | none => cases e
    | some y => exact congrArg some (strT_can (Option.some.inj e))
noncomputable def hasN : List (Nat × Str) → Nat → Option Str
  | [], _ => none
  | q :: r, c => match Nat.beq q.1 c with | true => some q.2 | false => hasN r c
noncomputable def sameO (a b : Option Str) : Bool := a.map (·.cps.toList) == b.map (·.cps.toList)
theorem sameO_eq {a b : Option Str} (h : sameO a b = true) : a = b := by
  have e := eq_of_beq h
  cases a with
  | none => cases b with
    | none => rfl
    | some y => cases e
  | some x => cases b with
    | none => cases e
    | some y =>
      obtain ⟨⟨x⟩⟩ := x
      obtain ⟨⟨y⟩⟩ := y
      exact congrArg (fun l => some (⟨⟨l⟩⟩ : Str)) (Option.some.inj e)
theorem find_has : ∀ (es : List DictEntry) (l : List (Nat × Str)) (c : Nat), es.all okE = true → es.map (fun e => (keyT e.key, can e.val)) = l.map (fun q => (q.1, vS q.2)) →
    ((es.find? fun e => Value.isInt (c : Int) e.key).map (·.val)).map can = (hasN l c).map vS := by
  intro es
  induction es with
  | nil => intro l c _ h; cases l with
    | nil => rfl
    | cons q l => cases h
  | cons e r ih => intro l c ho h; cases l with
    | nil => cases h
    | cons q l =>
      rw [List.all_cons, Bool.and_eq_true] at ho
      have hh := List.cons.inj h
      have ih := ih l c ho.2 hh.2
      obtain ⟨n, t, hk, _, _⟩ := smallK_eq ho.1
      have hq : n = q.1 := by rw [← (Prod.mk.inj hh.1).1, hk]; rfl
      have hn : hasN (q :: l) c = match Nat.beq q.1 c with | true => some q.2 | false => hasN l c := rfl
      have hi : Value.isInt (c : Int) e.key = (Int.ofNat q.1 == Int.ofNat c) := by rw [hk, hq]; rfl
      rw [List.find?_cons, hn, hi]
      cases hb : Nat.beq q.1 c with
      | true =>
        rw [Nat.eq_of_beq_eq_true hb, beq_self_eq_true]
        exact congrArg some (Prod.mk.inj hh.1).2
      | false =>
        have hqc : (Int.ofNat q.1 == Int.ofNat c) = false := beq_eq_false_iff_ne.mpr fun e => by rw [Int.ofNat.inj e, Nat.beq_refl] at hb; cases hb
        rw [hqc]
        exact ih
section
variable {P : Params}
theorem e96 : (setEs (o96f P)).toList.all okS = true := by kernel_rfl
theorem e96a : b1N.all (fun c => (setEs (o96f P)).toList.any fun e => Value.isInt ((c : Nat) : Int) e.2) = true := by kernel_rfl
theorem e96b : (setEs (o96f P)).toList.all (fun e => b1N.contains (keyT e.2)) = true := by kernel_rfl
theorem kd_b1 (prog : Program) (w : World) (h : Heap) (X : (KK P).In h) : h.SetOf (intKind prog w) 96 (fun i => decide (∃ c ∈ b1N, i = ((c : Nat) : Int))) 27 := by
  refine ⟨_, setEs (o96f P), _, _, X _ _ (by kernel_rfl : (KK P).lookup 96 = some (o96f P)), ⟨by kernel_rfl, by kernel_rfl, by kernel_rfl⟩, rfl, elems_int e96, fun k => ?_, (by rw [show (setEs (o96f P)).size = 27 by kernel_rfl]; decide), by kernel_rfl, by kernel_rfl⟩
  rw [decide_eq_true_eq]
  constructor
  · rintro ⟨c, hc, rfl⟩
    obtain ⟨e, he, h1⟩ := List.any_eq_true.mp (List.all_eq_true.mp e96a c hc)
    exact ⟨e, he, h1⟩
  · rintro ⟨e, he, h1⟩
    have h1 : Value.isInt k e.2 = true := h1
    have h2 := List.all_eq_true.mp e96 e he
    have h3 := List.all_eq_true.mp (e96b (P := P)) e he
    obtain ⟨n, t, hk, _, _⟩ := smallK_eq (Bool.and_eq_true_iff.mp h2).1
    rw [hk] at h1 h3
    refine ⟨n, List.contains_iff_mem.mp h3, ?_⟩
    have h1 : ((Int.ofNat n) == k) = true := h1
    exact (eq_of_beq h1).symm
theorem e107 : (dictEs (bobj 107)).toList.all okE = true := by kernel_rfl
theorem e107a : dom.all (fun p => sameO (hasN b3L p.1) (if p.2.2 then some (S p.2.1) else none)) = true := by kernel_rfl
theorem e107b : (dictEs (bobj 107)).toList.map (fun e => (keyT e.key, can e.val)) = b3L.map fun q => (q.1, vS q.2) := by kernel_rfl
theorem b107 : bobj 107 = dobj ((entL 461 b3c0 ++ entsC 512 b3cs) ++ entS 2399 b3last) 650 := by kernel_rfl
theorem kd_b3 (prog : Program) (w : World) (h : Heap) (X : (KK P).In h) : ∃ f, h.MapOf (intKind prog w) 107 f ∧ ∀ p ∈ dom, (f ((p.1 : Nat) : Int)).map can = if p.2.2 then some (vS (S p.2.1)) else none := by
  refine ⟨fun k => findBy Value.isInt (dictEs (bobj 107)) k, ⟨bobj 107, dictEs (bobj 107), 650, X _ _ (by kernel_rfl), by rw [b107]; exact ⟨rfl, rfl, rfl⟩, ?_, keys_int e107, fun k => rfl⟩, fun p hp => ?_⟩
  · have := congrArg Obj.data b107
    rw [this]
    show Data.dict _ 650 = Data.dict _ 650
    congr 1
  · show (findBy Value.isInt (dictEs (bobj 107)) ((p.1 : Nat) : Int)).map can = _
    have := find_has _ _ p.1 e107 e107b
    unfold findBy
    rw [← Array.find?_toList, this, sameO_eq (List.all_eq_true.mp e107a p hp)]
    split <;> rfl
theorem e39 : (dictEs (o39d P)).toList.all okE = true := by kernel_rfl
theorem e39a : (List.range 32).all (fun i => gives (dictEs (o39d P)) ((2 ^ i : Nat) : Int) (if i < 10 then some (flagS i) else none)) = true := by kernel_rfl
theorem kd2_flags (prog : Program) (w : World) (h : Heap) (X : (KK P).In h) : ∃ f, h.MapOf (intKind prog w) 39 f ∧ ∀ i < 32, (f ((2 ^ i : Nat) : Int)).map can = if i < 10 then some (vS (flagS i)) else none := by
  refine ⟨fun k => findBy Value.isInt (dictEs (o39d P)) k, ⟨o39d P, dictEs (o39d P), _, X _ _ (by kernel_rfl), ⟨by kernel_rfl, by kernel_rfl, by kernel_rfl⟩, rfl, keys_int e39, fun k => rfl⟩, fun i hi => ?_⟩
  rw [gives_eq (List.all_eq_true.mp (e39a (P := P)) i (List.mem_range.mpr hi))]
  split <;> rfl
theorem kd : KD (KK P) := ⟨kd_b1, kd_b3⟩
theorem kd2 : KD2 (KK P) := ⟨kd2_flags⟩
end
/- all that stands at the end of the top stands still -/
noncomputable def YY (w : World) (h : Heap) : Prop := ∀ b o, (hpM w.params).get? b = some o → h.get? b = some o
noncomputable abbrev tabs2 : List (Addr × Addr) := [(312, 308), (239, 237)]
section
variable {P : Params} {w : World} {h : Heap}
theorem kk_mem {a : Addr} {o : Obj} (e : (KK P).lookup a = some o) : a < 352 ∧ a ≠ 237 ∧ a ≠ 308 ∧ (t_m P).get a = some o := by
  have hm := mem_of_lookupK e
  unfold KK at hm
  obtain ⟨b, hb, h1⟩ := List.mem_filterMap.mp hm
  have hb := List.mem_range.mp hb
  split at h1
  · cases h1
  · rename_i hn
    obtain ⟨o', h2, h3⟩ := Option.map_eq_some_iff.mp h1
    cases h3
    simp only [Bool.or_eq_true, beq_iff_eq, not_or] at hn
    exact ⟨hb, hn.1, hn.2, h2⟩
noncomputable def lives (o : Obj) : Bool := match o.data with | .freed => false | _ => true
theorem all_live : ((t_m P).list 352).all lives = true := by kernel_rfl
theorem alive_of {o : Obj} (h : lives o = true) : alive o = some o := by
  obtain ⟨c, d, dt, sl⟩ := o
  cases dt <;> first | rfl | cases h
theorem get_of {a : Addr} {o : Obj} (h1 : a < 352) (h2 : (t_m P).get a = some o) : (hpM P).get? a = some o := by
  rw [abs_get h1 h2]
  refine alive_of (List.all_eq_true.mp (all_live (P := P)) o ?_)
  unfold BT.list
  refine List.mem_map.mpr ⟨a, List.mem_range.mpr h1, ?_⟩
  rw [h2]
  rfl
theorem yy_K (Y : YY w h) : (KK w.params).In h := fun a o e => by
  obtain ⟨h1, _, _, h2⟩ := kk_mem e
  exact Y _ _ (get_of h1 h2)
theorem yy_tab (Y : YY w h) {a : Addr} (ha : a = 308 ∨ a = 237) : h.get? a = some (tabObj #[]) := by
  rcases ha with rfl | rfl
  · exact Y _ _ (get_of (by decide) (by kernel_rfl))
  · exact Y _ _ (get_of (by decide) (by kernel_rfl))
theorem yy_tabs (Y : YY w h) : TabsAt tabs2 h := fun q hq => by
  simp only [List.mem_cons, List.not_mem_nil, or_false] at hq
  rcases hq with rfl | rfl
  · exact ⟨codeHd_of_K (yy_K Y) kt.lex, yy_tab Y (.inl rfl)⟩
  · exact ⟨codeHd_of_K (yy_K Y) kt.sta, yy_tab Y (.inr rfl)⟩
theorem yy_ghost (Y : YY w h) : (KK w.params).In (ghostOf h tabs2) := fun a o e => by
  obtain ⟨_, h2, h3, _⟩ := kk_mem e
  refine ghost_ne (yy_K Y _ _ e) ?_
  simp [h2, h3]
theorem gl_all : gl.all (fun p => nsIn (KK P) mainGlobals p.1 == some (some p.2)) = true := by kernel_rfl
theorem bl_all : bl.all (fun p => nsIn (KK P) mainGlobals p.1 == some none && p.1 != "__name__" && bootBuiltins p.1 == some p.2) = true := by kernel_rfl
theorem mem_lookup {l : List (Str × Value)} {x : Str} {v : Value} (e : l.lookup x = some v) : (x, v) ∈ l := by
  induction l with
  | nil => cases e
  | cons p r ih =>
    rw [List.lookup_cons] at e
    cases hb : (x == p.1) with
    | true => rw [hb] at e; cases e; rw [eq_of_beq hb]; exact .head _
    | false => rw [hb] at e; exact .tail _ (ih e)
/- the ground of the call -/
noncomputable abbrev cx (w : World) (s : Shared) : Cx := ⟨pw, w, ghostOf s.heap tabs2, #[], s.drawn, s.os⟩
theorem tp_cx {s : Shared} {p : Program} {loose : List Str} {mean : ExcName → Option Value} {mg mb : Str → Option Value} (Y : YY w s.heap) (T : Top p loose mean mg mb s.heap) : Tp (DD (KK w.params)) (cx w s) := by
  have X := yy_ghost Y
  have T' := ghost_top (yy_tabs Y) T
  refine ⟨X, ⟨mg, T'.g, fun x v e => ?_, mb, T'.b, fun x v e => ?_⟩, T'.nolimit, rfl, ⟨_, _, _, _, _, T'⟩⟩
  · exact mg_of X T'.g (eq_of_beq (List.all_eq_true.mp gl_all _ (mem_lookup e)))
  · have h := List.all_eq_true.mp (bl_all (P := w.params)) _ (mem_lookup e)
    simp only [Bool.and_eq_true, beq_iff_eq, bne_iff_ne] at h
    exact ⟨ns_none_of X T'.g h.1.1, (T'.builtins x h.1.2).trans h.2⟩
end
noncomputable abbrev rr : OpenRow := PySem.Challenge.rw_tc0097_01.row
theorem ints_of {R : WRecords} : ∀ {xs : List WData}, WShape.hasItems R xs .int = true → ∃ is : List Int, xs = is.map .int
  | [], _ => ⟨[], rfl⟩
  | x :: r, h => by
    have h : (WShape.has R x .int && WShape.hasItems R r .int) = true := h
    rw [Bool.and_eq_true] at h
    obtain ⟨i, rfl⟩ := hasW_int h.1
    obtain ⟨is, rfl⟩ := ints_of h.2
    exact ⟨i :: is, rfl⟩
theorem well_int {P : Params} {h : Heap} {v : Value} {i : Int} (x : Well P h v (.int i)) : can v = vI i := by
  cases x; rfl
theorem well_ints {P : Params} {h : Heap} {is : List Int} : ∀ {vs : List Value}, WellAll P h vs (is.map .int) → vs.map can = is.map vI := by
  induction is with
  | nil => intro vs x; cases x; rfl
  | cons i r ih => intro vs x; cases x with
    | cons a b => rw [List.map_cons, List.map_cons, ih b, well_int a]
theorem pre_of {args : List WData} (h : rr.toRowW.claim.pre args = true) : ∃ is : List Int, args = [.list (is.map .int)] ∧ is.length ≤ 63 := by
  obtain ⟨h1, h2⟩ := pre_splitW h
  obtain ⟨d, r, rfl, h3, h4⟩ := hasAllW_cons (show WShape.hasAll [] args (.list .int :: []) = true from h1)
  obtain rfl := hasAllW_nil h4
  obtain ⟨xs, rfl, h5⟩ := hasW_list h3
  obtain ⟨is, rfl⟩ := ints_of h5
  refine ⟨is, rfl, ?_⟩
  by_cases hl : is.length ≤ 63
  · exact hl
  · exfalso
    have e : less? (.int 63) (.int ((is.map WData.int).length : Int)) = some true := by
      show some (decide ((63 : Int) < ((is.map WData.int).length : Int))) = some true
      rw [decide_eq_true (by rw [List.length_map]; wtm_at "om")]
    have e2 : WTm.value [] (.not (.lt (.lit (.int 63)) (.len (.arg 0)))) { args := [.list (is.map .int)] } = some (.bool false) := by
      show (match (less? (.int 63) (.int ((is.map WData.int).length : Int))).map WData.bool with | some (.bool b) => some (WData.bool (!b)) | _ => none) = _
      rw [e]
      rfl
    have e3 : rr.toRowW.pre.holds [] { args := [.list (is.map .int)] } = false := by
      show WTm.holds [] (.and (.not (.lt (.lit (.int 63)) (.len (.arg 0)))) (.lit (.bool true))) _ = false
      unfold WTm.holds
      rw [WTm.value, e2]
    have h2 : rr.toRowW.pre.holds [] { args := [.list (is.map .int)] } = true := h2
    rw [e3] at h2
    cases h2
section
variable {w : World}
theorem law_runs {s : Shared} {p : Program} {loose : List Str} {mean : ExcName → Option Value} {mg mb : Str → Option Value} (Y : YY w s.heap) (T : Top p loose mean mg mb s.heap) (hg : s.gens = #[]) {sc : Addr} {is : List Int} (hl : is.length ≤ 63) (hsc : LsF (cx w s) sc (is.map vI)) :
    wpAny (model pw w) callerA (call (.ref 351) [.ref sc]) (fun v s' => v = .bool true ∧ ∃ L' μ' t1 t2, St (cx w s) L' μ' [(308, .obj (tabObj t1)), (237, .obj (tabObj t2))] s') (fun _ _ => False) s := by
  have hb : Bare (cx w s) [(308, .obj (tabObj #[])), (237, .obj (tabObj #[]))] s := by
    refine ⟨rfl, fun q hq => ?_, by simp, ⟨hg, rfl, rfl⟩⟩
    simp only [List.mem_cons, List.not_mem_nil, or_false] at hq
    rcases hq with rfl | rfl
    · exact ⟨_, yy_tab Y (.inl rfl), rfl⟩
    · exact ⟨_, yy_tab Y (.inr rfl), rfl⟩
  have r : Room callerA (20 + 10) := ⟨rfl, by decide, by decide⟩
  refine wpAny_mono (law_enter (Q := fun v σ => v = .bool true ∧ ∃ t1 t2, σ = [(308, .obj (tabObj t1)), (237, .obj (tabObj t2))]) kf_law hb r (tp_cx Y T) fun pm L' r' hcl => ?_) ?_ fun _ _ x => x
  · exact C_law (n := 20) (ρ := []) r' hcl (tp_cx Y T) kf kg kd kd2 kd3 kt ks rfl (by wtm_at "om") hsc fun t1 t2 => ⟨rfl, t1, t2, rfl⟩
  · rintro v s' ⟨L', μ', σ', ⟨e, t1, t2, rfl⟩, st⟩
    exact ⟨can_bool e, L', μ', t1, t2, st⟩
theorem law_good {s : Shared} {cl : Str → Option Addr} {mean : ExcName → Option Value} {args : List WData} {L' : Addr} {μ' : Mu} {t1 t2 : Array Value} {s' : Shared} (Y : YY w s.heap) (hg : s.gens = #[]) (st : St (cx w s) L' μ' [(308, .obj (tabObj t1)), (237, .obj (tabObj t2))] s') :
    GoodWG rr.toRowW.claim cl mean args s (.ok (.ret (.bool true))) s' := by
  have post : rr.toRowW.claim.post args (.bool true) args = true := by
    show (WShape.has [] (.bool true) .bool && WTm.holds [] (.eq .res (.lit (.bool true))) { args := args, res := some (.bool true), after := args }) = true
    kernel_rfl
  have g1 : s'.heap.get? 308 = some (tabObj t1) := by
    obtain ⟨_, _, o, h1, h2⟩ := st.ob _ (.head _)
    obtain rfl : o = tabObj t1 := h2
    exact h1
  have g2 : s'.heap.get? 237 = some (tabObj t2) := by
    obtain ⟨_, _, o, h1, h2⟩ := st.ob _ (.tail _ (.head _))
    obtain rfl : o = tabObj t2 := h2
    exact h1
  have tabs := yy_tabs Y
  have old : ∀ b o, b ∉ tabs2.map (·.2) → s.heap.get? b = some o → s'.heap.get? b = some o := fun b o hb e => st.keep b o (ghost_ne e hb)
  have grew : ∀ q ∈ tabs2, ∃ t, s'.heap.get? q.2 = some (tabObj t) := fun q hq => by
    simp only [List.mem_cons, List.not_mem_nil, or_false] at hq
    rcases hq with rfl | rfl
    · exact ⟨_, g1⟩
    · exact ⟨_, g2⟩
  refine ⟨.inl ⟨.bool true, .bool true, [], rfl, fun cls => rfl, .bool true, post, fun _ => ⟨List.nodup_nil, fun a ha => by cases ha⟩⟩, ⟨fun b o e => ?_, fun b o e => ?_⟩, st.fx.2.2, .of_eq st.fx.1⟩
  · by_cases hb : b ∈ tabs2.map (·.2)
    · obtain ⟨q, hq, rfl⟩ := List.mem_map.mp hb
      obtain ⟨t, ht⟩ := grew q hq
      have h0 := (tabs q hq).2
      rw [e] at h0
      obtain rfl := Option.some.inj h0
      exact .inr (.inl ⟨((tabs q hq).1.tab (tabs q hq).2).isCodeTable, rfl, #[], t, rfl, by rw [Array.empty_append]; exact ht⟩)
    · exact .inl (old b o hb e)
  · by_cases hb : b ∈ tabs2.map (·.2)
    · obtain ⟨q, hq, rfl⟩ := List.mem_map.mp hb
      obtain ⟨t, ht⟩ := grew q hq
      exact ⟨_, ht⟩
    · exact ⟨_, old b o hb e⟩
end
theorem p_promised : rr.toRowW.promised := ⟨[.list []], by decide +kernel, by decide +kernel⟩
theorem p_ok : (chainsOk q0 && opensWell rr.prog && (frees rr.toRowW && rr.within.isEmpty)) = true := by decide +kernel
theorem p_tables : rr.prog.tablesWhole = true := by
  unfold Program.tablesWhole TablesWhole.wProgram TablesWhole.holds
  rw [PySem.W.Fast.te6116379765354995101, PySem.W.Fast.te15985051520779696433]
  kernel_rfl
theorem p_bare : rr.prog.bare := ⟨rfl, rfl, rfl, rfl, rfl, p_tables⟩
noncomputable def dl : DefRec := ⟨"law", argsOf (stm 31), bodyOf (stm 31), scopeOf (stm 31), { line := 347, col := 0, endLine := 390, endCol := 101 }⟩
theorem p_def : defOf q0 rr.name = some (dl, []) := by kernel_rfl
theorem p_the : rr.prog.theDef rr.name = some (dl.params, dl.body, dl.scope) := by kernel_rfl
theorem p_kw : kwWritten? dl.params.kwonlyargs dl.params.kw_defaults = some [] := by kernel_rfl
theorem law_at {P : Params} : nsIn (KK P) mainGlobals "law" = some (some (.ref 351)) := by kernel_rfl
theorem p_call : WalkO q0 loo (fun _ _ => True) YY rr.toRowW dl [] fun f vs => PySem.call f vs := by
  intro w s₀ s₁ mg mb G Y a o pm cd doc dV kV ho hd hcd hD hmg hg args vals as hpre hlay hrd hwl hlo
  have e : a = 351 := by
    have h1 := mg_of (yy_K Y) G.T.g (law_at (P := w.params))
    have h2 : mg "law" = some (.ref a) := hmg
    rw [h1] at h2
    injection h2 with h2
    injection h2 with h2
    exact h2.symm
  subst e
  obtain ⟨is, rfl, hl⟩ := pre_of hpre
  cases hwl with
  | cons hv hr =>
    cases hr with
    | nil =>
      cases hv with
      | list hget hall =>
        rename_i sc vs
        have hsc : LsF (cx w s₁) sc (is.map vI) := by
          refine ⟨vs, 0, ghost_ne hget ?_, well_ints hall⟩
          intro hm
          obtain ⟨q, hq, e⟩ := List.mem_map.mp hm
          have := (yy_tabs Y q hq).2
          rw [e, hget] at this
          cases this
        refine wpAny_mono (law_runs Y G.T hg hl hsc) ?_ fun _ _ x => x.elim
        rintro v s' ⟨rfl, L', μ', t1, t2, st⟩
        exact law_good Y hg st
end H
end Mine
theorem PySem.Challenge.cw_tc0097_01_holds : PySem.Challenge.rw_tc0097_01.Holds := by
  refine PySem.W.holds_law Mine.p_said fun said => ?_
  exact PySem.W.holds_open (r := Mine.H.rr) Mine.H.t_left (fun w s e b o h => by rw [show s.heap = Mine.H.hpM w.params from e]; exact h) (fun w h h2 y k b o e => k b o (y b o e)) (fun _ _ => trivial) (fun _ _ _ _ _ => trivial) Mine.H.p_def Mine.H.p_the Mine.H.p_kw (fun _ _ => recFacts_nil rfl) rfl said Mine.H.p_ok Mine.H.p_bare Mine.H.p_promised Mine.H.p_call
