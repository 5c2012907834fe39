import PyProof.Rows.All
import Wide.All
import OpenK.AllK
import Wide.FinOn
import PySem.Challenge.RW_oc0122_01
set_option Elab.async false
section -- Hd
open PySem PySem.W PyProof.Rows
set_option Elab.async false
set_option maxRecDepth 100000
set_option maxHeartbeats 8000000
namespace Mine
noncomputable def hdView : Program := { PySem.Challenge.pw_oc0122_01 with main := { PySem.Challenge.pw_oc0122_01.main with body := PySem.Challenge.pw_oc0122_01.main.body.drop 38 } }
noncomputable def hdLoose : List Str := [("S_IFMT" : Str), ("S_IFDIR" : Str), ("S_IFCHR" : Str), ("S_IFBLK" : Str), ("S_IFREG" : Str), ("S_IFIFO" : Str), ("S_IFLNK" : Str), ("S_IFSOCK" : Str), ("S_ISUID" : Str), ("S_ISGID" : Str), ("S_ISVTX" : Str), ("S_IRUSR" : Str), ("S_IWUSR" : Str), ("S_IXUSR" : Str), ("S_IRGRP" : Str), ("S_IWGRP" : Str), ("S_IXGRP" : Str), ("S_IROTH" : Str), ("S_IWOTH" : Str), ("S_IXOTH" : Str), ("_filemode_table" : Str), ("filemode" : Str), ("cmp_to_key" : Str), ("_initial_missing" : Str), ("reduce" : Str), ("sorted_list_difference" : Str), ("unorderable_list_difference" : Str), ("three_way_cmp" : Str), ("_law_read" : Str), ("_law_set" : Str), ("_law_signs" : Str), ("_law_done" : Str), ("_law_only" : Str), ("_law_steps" : Str)]
theorem hdOpen (H : Hook) {d : DefRec} {kwd : List (Str × Expr)} (hl : LeftO (OpenLaw.row PySem.Challenge.rw_oc0122_01).prog hdView hdLoose (fun s => xlAt hdView [] s && recOk (RowW.records (OpenRow.toRowW (OpenLaw.row PySem.Challenge.rw_oc0122_01))) s) (Hook.obs H) (Hook.val H) 1752)
    (hdef : defOf hdView (OpenLaw.row PySem.Challenge.rw_oc0122_01).name = some (d, kwd)) (hp : (OpenLaw.row PySem.Challenge.rw_oc0122_01).prog.theDef (OpenLaw.row PySem.Challenge.rw_oc0122_01).name = some (d.params, d.body, d.scope)) (hk : kwWritten? d.params.kwonlyargs d.params.kw_defaults = some kwd)
    (k1 : (OpenLaw.row PySem.Challenge.rw_oc0122_01).wellSaid = true) (hw : (OpenLaw.row PySem.Challenge.rw_oc0122_01).toRowW.promised) (call : WalkO hdView hdLoose (XL hdView []) (Hook.says H) (OpenLaw.row PySem.Challenge.rw_oc0122_01).toRowW d kwd fun f vs => PySem.call f vs) : (OpenLaw.row PySem.Challenge.rw_oc0122_01).Holds :=
  holds_open hl (Hook.of H) (Hook.keeps H) (fun s e => xl_of s (Bool.and_eq_true_iff.mp e).1) XL.keeps hdef hp hk (fun s e => recFacts_of (Bool.and_eq_true_iff.mp e).2) (by rfl) k1 (by decide +kernel) ⟨rfl, rfl, rfl, rfl, rfl, by decide +kernel⟩ hw call
local macro_rules | `(tactic| o_head $H) => `(tactic| refine hdOpen $H (fun w => by kernel_rfl) (by rfl) (by rfl) (by rfl) (by assumption) ?hw ?hc)
local macro_rules | `(tactic| o_law) => `(tactic| refine holds_law (by kernel_rfl) fun said => ?_)
open_top hd for PySem.Challenge.rw_oc0122_01
end Mine
end
section -- Base
open PySem PySem.W PyProof.Rows PySem.Spec PySem.Calls
set_option Elab.async false
set_option maxRecDepth 100000
namespace Mine
noncomputable abbrev PG : Program := PySem.Challenge.pw_oc0122_01
noncomputable abbrev KF : Params → Frag := hd.heap_1
theorem hideQE {α : Type} {M : Model} {A : Around} {E : Value → Shared → Prop} {t : Sem α} {Q : α → Shared → Prop} {s : Shared} (k : ∀ (Q' : α → Shared → Prop) (E' : Value → Shared → Prop), (∀ a s', Q a s' → Q' a s') → (∀ x s', E x s' → E' x s') → wpAny M A t Q' E' s) : wpAny M A t Q E s := k Q E (fun _ _ x => x) (fun _ _ x => x)
theorem hideQ {α : Type} {M : Model} {A : Around} {E : Value → Shared → Prop} {t : Sem α} {Q : α → Shared → Prop} {s : Shared} (k : ∀ (Q' : α → Shared → Prop), (∀ a s', Q a s' → Q' a s') → wpAny M A t Q' E s) : wpAny M A t Q E s := k Q (fun _ _ x => x)
theorem snoc_get {α : Type} {l : List α} {x y : α} {i : Nat} (h : (l ++ [x])[i]? = some y) : l[i]? = some y ∨ (i = l.length ∧ x = y) := by
  by_cases q : i < l.length
  · rw [List.getElem?_append_left q] at h; exact .inl h
  · have hb := Nat.le_of_not_lt q
    rw [List.getElem?_append_right hb] at h
    cases z : i - l.length with
    | zero => rw [z] at h; exact .inr ⟨Nat.le_antisymm (Nat.sub_eq_zero_iff_le.mp z) hb, Option.some.inj h⟩
    | succ n => rw [z] at h; cases h
noncomputable def Kp (h h' : Heap) : Prop := ∀ b o, h.get? b = some o → h'.get? b = some o
theorem Kp.rfl {h : Heap} : Kp h h := fun _ _ e => e
theorem Kp.trans {a b c : Heap} (x : Kp a b) (y : Kp b c) : Kp a c := fun p o e => y p o (x p o e)
structure Gr (w : World) (h : Heap) : Prop where
  k : (KF w.params).In h
  b : ∃ mb, h.Ns builtinsNs mb ∧ ∀ x : Str, x ≠ "__name__" → mb x = bootBuiltins x
  m : ∃ o, h.get? 4 = some o ∧ o.cls = .type "module" ∧ o.dict = some builtinsNs ∧ o.data = .plain
theorem Gr.keeps {w : World} {h h' : Heap} (g : Gr w h) (k : Kp h h') : Gr w h' :=
  ⟨g.k.keeps k, let ⟨mb, x, y⟩ := g.b; ⟨mb, x.keeps k, y⟩, let ⟨o, x, y⟩ := g.m; ⟨o, k _ _ x, y⟩⟩
theorem Gr.nolimit {w : World} {h : Heap} (g : Gr w h) : h.NoLimit := by
  have e : h.get? 2 = some { cls := Value.none, data := Data.dict #[] } := g.k 2 _ rfl
  exact ⟨fun _ => none, ⟨_, _, _, e, rfl, fun e he => by simp at he, fun _ => rfl⟩, rfl⟩
structure Rm (n : Nat) (A : Around) : Prop where
  depth : A.depth + n < recursionLimit
  units : A.units + 8 * n < cLine
theorem Rm.deeper {n : Nat} {A : Around} {env : Env} (r : Rm (n + 1) A) : Rm n (A.deeper env) :=
  ⟨by have := r.depth; show A.depth + 1 + n < _; omega, by have := r.units; show A.units + 3 + 8 * n < _; omega⟩
theorem Rm.le {n m : Nat} {A : Around} (r : Rm n A) (h : m ≤ n) : Rm m A := ⟨by have := r.depth; omega, by have := r.units; omega⟩
theorem Rm.un2 {n : Nat} {A : Around} (r : Rm (n + 1) A) : A.units + 1 + 1 < cLine := Nat.lt_of_le_of_lt (Nat.add_le_add_left (Nat.le_trans (by decide : 2 ≤ 8 * 1) (Nat.mul_le_mul_left 8 (Nat.le_add_left 1 n))) A.units) r.units
theorem Rm.un1 {n : Nat} {A : Around} (r : Rm (n + 1) A) : A.units + 1 < cLine := Nat.lt_of_succ_lt r.un2
theorem Rm.un0 {n : Nat} {A : Around} (r : Rm (n + 1) A) : A.units < cLine := Nat.lt_of_succ_lt r.un1
structure EnvIs (env : Env) (sc : Scope) (L : Addr) (cs : List (Str × Addr)) : Prop where
  scope : env.scope = sc
  locals : env.locals = L
  globals : env.globals = mainGlobals
  builtins : env.builtins = builtinsNs
  cells : env.cells = cs
  fn : sc.kind = .function
theorem EnvIs.kind {env : Env} {sc : Scope} {L : Addr} {cs : List (Str × Addr)} (e : EnvIs env sc L cs) {x : Str} {k : NameKind} (h : sc.names.lookup x = some k) : env.kindOf x = some k := by
  unfold Env.kindOf; rw [e.scope]; exact h
noncomputable def aset (x : Str) (v : Value) : List (Str × Value) → List (Str × Value)
  | [] => [(x, v)]
  | p :: r => if x == p.1 then (p.1, v) :: r else p :: aset x v r
theorem aset_lookup (x : Str) (v : Value) : ∀ (l : List (Str × Value)) (y : Str), (aset x v l).lookup y = if y = x then some v else l.lookup y
  | [], y => by
    by_cases h : y = x
    · simp [aset, List.lookup, h]
    · have : (y == x) = false := by simpa using h
      simp [aset, List.lookup, h, this]
  | p :: r, y => by
    obtain ⟨a, b⟩ := p
    unfold aset
    by_cases h : x = a
    · subst h
      by_cases q : y = x
      · simp [List.lookup, q]
      · have : (y == x) = false := by simpa using q
        simp [List.lookup, q, this]
    · have hx : (x == a) = false := by simpa using h
      simp only [hx, Bool.false_eq_true, if_false]
      rw [List.lookup_cons, List.lookup_cons, aset_lookup x v r y]
      by_cases q : y = a
      · subst q
        have : ¬ y = x := fun z => h z.symm
        simp [this]
      · have : (y == a) = false := by simpa using q
        simp [this]
noncomputable abbrev Sort_ := Obj → Prop
noncomputable def lst (vs : List Value) : Sort_ := fun o => ∃ n, o = { cls := .type "list", data := .seq vs.toArray n }
noncomputable def tup (vs : List Value) : Sort_ := fun o => o.cls = .type "tuple" ∧ ∃ n, o.data = .seq vs.toArray n
noncomputable def cll (v : Option Value) : Sort_ := fun o => o.data = .cell v
noncomputable def Is (h : Heap) (a : Addr) (P : Sort_) : Prop := ∃ o, h.get? a = some o ∧ P o
theorem Is.keeps {h h' : Heap} {a : Addr} {P : Sort_} (x : Is h a P) (k : Kp h h') : Is h' a P := let ⟨o, e, p⟩ := x; ⟨o, k _ _ e, p⟩
theorem Is.list {h : Heap} {a : Addr} {vs : List Value} (x : Is h a (lst vs)) : h.IsList a vs.toArray := let ⟨_, e, n, p⟩ := x; ⟨_, e, p ▸ rfl, n, p ▸ rfl⟩
theorem Is.plain {h : Heap} {a : Addr} {vs : List Value} (x : Is h a (lst vs)) : h.PlainList a vs.toArray := let ⟨_, e, n, p⟩ := x; ⟨n, p ▸ e⟩
theorem Is.of_plain {h : Heap} {a : Addr} {vs : Array Value} (x : h.PlainList a vs) : Is h a (lst vs.toList) := let ⟨n, e⟩ := x; ⟨_, e, n, by simp⟩
theorem Is.lt {h : Heap} {a : Addr} {P : Sort_} (x : Is h a P) : a < h.objs.size := let ⟨_, e, _⟩ := x; Heap.lt_size e
structure St (h₀ : Heap) (L : Addr) (loc : List (Str × Value)) (own : List (Addr × Sort_)) (h : Heap) : Prop where
  keep : Kp h₀ h
  ns : h.Ns L (fun x => loc.lookup x)
  new : h₀.get? L = none
  owns : ∀ p ∈ own, Is h p.1 p.2
  fresh : ∀ p ∈ own, h₀.get? p.1 = none ∧ p.1 ≠ L
  apart : (own.map (·.1)).Nodup
section
variable {h₀ h h' : Heap} {L : Addr} {loc : List (Str × Value)} {own : List (Addr × Sort_)}
theorem St.pure (S : St h₀ L loc own h) (k : Kp h h') : St h₀ L loc own h' :=
  ⟨S.keep.trans k, S.ns.keeps k, S.new, fun p hp => (S.owns p hp).keeps k, S.fresh, S.apart⟩
theorem Is.same {a b : Addr} {P : Sort_} (x : Is h a P) (hs : Heap.SameBut b h h') (ne : a ≠ b) : Is h' a P := let ⟨o, e, p⟩ := x; ⟨o, (hs.2 a ne).trans e, p⟩
theorem St.store (S : St h₀ L loc own h) {x : Str} {v : Value} (hn : h'.Ns L (fun y => if y = x then some v else loc.lookup y)) (hs : Heap.SameBut L h h') : St h₀ L (aset x v loc) own h' := by
  refine ⟨fun b o e => ?_, ?_, S.new, fun p hp => (S.owns p hp).same hs (S.fresh p hp).2, S.fresh, S.apart⟩
  · have : b ≠ L := fun z => by rw [z, S.new] at e; cases e
    exact (hs.2 b this).trans (S.keep b o e)
  · have : (fun y => if y = x then some v else loc.lookup y) = fun y => (aset x v loc).lookup y := funext fun y => (aset_lookup x v loc y).symm
    rw [← this]; exact hn
theorem St.at (S : St h₀ L loc own h) (i : Nat) {a : Addr} {P : Sort_} (hi : own[i]? = some (a, P)) : Is h a P := S.owns (a, P) (List.mem_of_getElem? hi)
theorem St.more (S : St h₀ L loc own h) (k : Kp h h') {a : Addr} {P : Sort_} (ha : h.get? a = none) (ho : Is h' a P) : St h₀ L loc ((a, P) :: own) h' := by
  have S' := S.pure k
  obtain ⟨oL, _, _, hL, _⟩ := S.ns
  refine ⟨S'.keep, S'.ns, S.new, fun p hp => ?_, fun p hp => ?_, ?_⟩
  · rcases List.mem_cons.mp hp with rfl | hp
    · exact ho
    · exact S'.owns p hp
  · rcases List.mem_cons.mp hp with rfl | hp
    · refine ⟨?_, fun z => ?_⟩
      · cases q : h₀.get? a with
        | none => rfl
        | some o' => rw [S.keep _ _ q] at ha; cases ha
      · have z' : a = L := z
        rw [← z', ha] at hL; cases hL
    · exact S.fresh p hp
  · rw [List.map_cons, List.nodup_cons]
    refine ⟨fun hm => ?_, S.apart⟩
    obtain ⟨p, hp, e⟩ := List.mem_map.mp hm
    obtain ⟨o, q, _⟩ := S.owns p hp
    rw [e, ha] at q; cases q
theorem none_size (h : Heap) : h.get? h.objs.size = none := by
  cases q : h.get? h.objs.size with
  | none => rfl
  | some o => exact absurd (Heap.lt_size q) (Nat.lt_irrefl _)
theorem kp_push (h : Heap) (o : Obj) : Kp h (h.push o) := fun _ _ e => Heap.get?_push_of_some _ e
theorem St.push (S : St h₀ L loc own h) (o : Obj) {P : Sort_} (hp : P o) (hf : o.isFreed = false := by rfl) : St h₀ L loc ((h.objs.size, P) :: own) (h.push o) :=
  S.more (kp_push h o) (none_size h) ⟨o, Heap.get?_push_size _ hf, hp⟩
theorem St.step (S : St h₀ L loc own h) (wr : List Addr) {own' : List (Addr × Sort_)} (hk : ∀ b o, b ∉ wr → h.get? b = some o → h'.get? b = some o) (hw : ∀ b ∈ wr, b ∈ own.map (·.1)) (keys : own'.map (·.1) = own.map (·.1))
    (ho : ∀ p ∈ own', Is h' p.1 p.2) : St h₀ L loc own' h' := by
  have fr : ∀ b ∈ wr, h₀.get? b = none ∧ b ≠ L := fun b hb => by
    obtain ⟨p, hp, e⟩ := List.mem_map.mp (hw b hb)
    rw [← e]; exact S.fresh p hp
  obtain ⟨oL, es, ep, hL, r⟩ := S.ns
  refine ⟨fun b o e => ?_, ⟨oL, es, ep, hk L oL (fun hb => (fr L hb).2 rfl) hL, r⟩, S.new, ho, fun p hp => ?_, by rw [keys]; exact S.apart⟩
  · refine hk b o (fun hb => ?_) (S.keep b o e)
    have := (fr b hb).1
    rw [e] at this; cases this
  · have : p.1 ∈ own.map (·.1) := by rw [← keys]; exact List.mem_map_of_mem hp
    obtain ⟨q, hq, e⟩ := List.mem_map.mp this
    rw [← e]; exact S.fresh q hq
theorem nodup_key {l : List (Addr × Sort_)} (hn : (l.map (·.1)).Nodup) {i j : Nat} {a : Addr} {o o' : Sort_} (hi : l[i]? = some (a, o)) (hj : l[j]? = some (a, o')) : i = j := by
  obtain ⟨li, ei⟩ := List.getElem?_eq_some_iff.mp hi
  obtain ⟨lj, ej⟩ := List.getElem?_eq_some_iff.mp hj
  refine (List.getElem_inj (h₀ := by rw [List.length_map]; exact li) (h₁ := by rw [List.length_map]; exact lj) hn).mp ?_
  rw [List.getElem_map, List.getElem_map, ei, ej]
theorem St.upd (S : St h₀ L loc own h) (i : Nat) {a : Addr} {P P' : Sort_} (hi : own[i]? = some (a, P)) (hs : ∀ b o, b ≠ a → h.get? b = some o → h'.get? b = some o) (ho : Is h' a P') : St h₀ L loc (own.set i (a, P')) h' := by
  have keys : (own.set i (a, P')).map (·.1) = own.map (·.1) := by
    rw [List.map_set]
    apply List.ext_getElem?
    intro j
    rw [List.getElem?_set]
    split
    · rename_i q; subst q
      have : (own.map (·.1))[i]? = some a := by rw [List.getElem?_map, hi]; rfl
      obtain ⟨hl, _⟩ := List.getElem?_eq_some_iff.mp this
      rw [if_pos hl, this]
    · rfl
  refine S.step [a] (fun b o hb e => hs b o (fun z => hb (by rw [z]; exact List.mem_singleton.mpr rfl)) e) (fun b hb => ?_) keys fun p hp => ?_
  · rw [List.mem_singleton.mp hb]
    exact List.mem_map_of_mem (List.mem_of_getElem? hi)
  · obtain ⟨j, hj⟩ := List.getElem?_of_mem hp
    rw [List.getElem?_set] at hj
    split at hj
    · rename_i q
      split at hj
      · cases hj; exact ho
      · cases hj
    · rename_i q
      obtain ⟨o, e, pr⟩ := S.owns p (List.mem_of_getElem? hj)
      exact ⟨o, hs p.1 o (fun z => q (nodup_key S.apart hi (by rw [hj, ← z]))) e, pr⟩
theorem St.drop (S : St h₀ L loc own h) (own' : List (Addr × Sort_)) (hs : own'.Sublist own) : St h₀ L loc own' h :=
  ⟨S.keep, S.ns, S.new, fun p hp => S.owns p (hs.subset hp), fun p hp => S.fresh p (hs.subset hp), S.apart.sublist (hs.map _)⟩
end
theorem cellsFrom_keys (i j : Nat) : ∀ (names : List (Str × NameKind)) (acc : List (Str × Addr)), ((cellsFrom i names acc).map (·.1)).Nodup → ∀ {acc' : List (Str × Addr)}, acc'.map (·.1) = acc.map (·.1) → ((cellsFrom j names acc').map (·.1)).Nodup := by
  intro names
  induction names generalizing i j with
  | nil => intro acc h acc' e; show (acc'.map (·.1)).Nodup; rw [e]; exact h
  | cons p r ih =>
    intro acc h acc' e
    obtain ⟨n, k⟩ := p
    unfold cellsFrom at h ⊢
    split
    · rename_i q
      rw [if_pos q] at h
      exact ih (i + 1) (j + 1) _ h (by simp [e])
    · rename_i q
      rw [if_neg q] at h
      exact ih i j _ h e
theorem mem_lookup_nodup {α : Type} : ∀ {l : List (Str × α)}, (l.map (·.1)).Nodup → ∀ {n : Str} {c : α}, (n, c) ∈ l → l.lookup n = some c
  | [], _, _, _, h => nomatch h
  | (m, d) :: r, hn, n, c, h => by
    rw [List.map_cons, List.nodup_cons] at hn
    rcases List.mem_cons.mp h with h | h
    · cases h; simp [List.lookup]
    · have : n ≠ m := fun e => hn.1 (by rw [← e]; exact List.mem_map_of_mem (f := (·.1)) h)
      have q : (n == m) = false := by simpa using this
      rw [List.lookup_cons, q]
      exact mem_lookup_nodup hn.2 h
noncomputable def at_ (s : Shared) (h : Heap) (tk : Nat) : Shared := { s with heap := h, toks := tk }
theorem at_self (s : Shared) : at_ s s.heap s.toks = s := rfl
theorem at_at (s : Shared) (h h' : Heap) (t t' : Nat) : at_ (at_ s h t) h' t' = at_ s h' t' := rfl
section
variable {w : World} {A : Around} {E : Value → Shared → Prop} {s : Shared} {h : Heap} {tk : Nat} {env : Env} {sc : Scope} {L : Addr} {cs : List (Str × Addr)} {h₀ : Heap} {loc : List (Str × Value)} {own : List (Addr × Sort_)}
theorem ldl {x : Str} {pos : Pos} {v : Value} {Q : Value → Shared → Prop} (S : St h₀ L loc own h) (e : EnvIs env sc L cs) (hk : sc.names.lookup x = some .local) (hv : loc.lookup x = some v) (k : Q v (at_ s h tk))
    (hd : (x == ("__debug__" : Str)) = false := by decide) : wpAny (model PG w) A (eval (.Name x pos) env) Q E (at_ s h tk) :=
  wpAny_Name (wpAny_loadName_local (by rw [e.scope]; exact e.fn) (e.kind hk) (by rw [e.locals]; exact S.ns) hv k) hd
theorem ldn {x : Str} {v : Value} {Q : Value → Shared → Prop} (S : St h₀ L loc own h) (e : EnvIs env sc L cs) (hk : sc.names.lookup x = some .local) (hv : loc.lookup x = some v) (k : Q v (at_ s h tk)) :
    wpAny (model PG w) A (loadName env x) Q E (at_ s h tk) :=
  wpAny_loadName_local (by rw [e.scope]; exact e.fn) (e.kind hk) (by rw [e.locals]; exact S.ns) hv k
theorem ldc {x : Str} {pos : Pos} {v : Value} {c : Addr} {Q : Value → Shared → Prop} (e : EnvIs env sc L cs) (hk : sc.names.lookup x = some .cell) (hc : cs.lookup x = some c) (hv : Is h c (cll (some v))) (k : Q v (at_ s h tk))
    (hd : (x == ("__debug__" : Str)) = false := by decide) : wpAny (model PG w) A (eval (.Name x pos) env) Q E (at_ s h tk) :=
  wpAny_Name (wpAny_loadName_cell (by rw [e.scope]; exact e.fn) (e.kind hk) (by rw [e.cells]; exact hc) hv k) hd
theorem ldf {x : Str} {pos : Pos} {v : Value} {c : Addr} {Q : Value → Shared → Prop} (e : EnvIs env sc L cs) (hk : sc.names.lookup x = some .free) (hc : cs.lookup x = some c) (hv : Is h c (cll (some v))) (k : Q v (at_ s h tk))
    (hd : (x == ("__debug__" : Str)) = false := by decide) (hn : (x == ("__classdict__" : Str)) = false := by decide) : wpAny (model PG w) A (eval (.Name x pos) env) Q E (at_ s h tk) :=
  wpAny_Name (wpAny_loadName_free (by rw [e.scope]; exact e.fn) (e.kind hk) (by rw [e.cells]; exact hc) hv k hn) hd
theorem ldg {x : Str} {pos : Pos} {v : Value} {Q : Value → Shared → Prop} (G : Gr w h) (e : EnvIs env sc L cs) (hk : sc.names.lookup x = some .globalImplicit) (hv : nsIn (KF w.params) mainGlobals x = some (some v)) (k : Q v (at_ s h tk))
    (hd : (x == ("__debug__" : Str)) = false := by decide) : wpAny (model PG w) A (eval (.Name x pos) env) Q E (at_ s h tk) :=
  Name_function_global (by rw [e.scope]; exact e.fn) (e.kind hk) (by
    unfold loadGlobal
    rw [e.globals]
    exact wpAny_bind ((looks_nsIn (h := (at_ s h tk).heap) G.k hv).here (wpAny_pure k))) hd
theorem ldb {x : Str} {pos : Pos} (v : Value) {Q : Value → Shared → Prop} (G : Gr w h) (e : EnvIs env sc L cs) (hk : sc.names.lookup x = some .globalImplicit) (hv : nsIn (KF w.params) mainGlobals x = some none) (hb : bootBuiltins x = some v) (hn : x ≠ "__name__") (k : Q v (at_ s h tk))
    (hd : (x == ("__debug__" : Str)) = false := by decide) : wpAny (model PG w) A (eval (.Name x pos) env) Q E (at_ s h tk) :=
  Name_function_global (by rw [e.scope]; exact e.fn) (e.kind hk) (by
    unfold loadGlobal
    rw [e.globals, e.builtins]
    obtain ⟨mb, hm, hx⟩ := G.b
    exact wpAny_bind ((looks_nsIn (h := (at_ s h tk).heap) G.k hv).here (wpAny_bind (wpAny_nsGet (s := at_ s h tk) hm (by rw [hx x hn, hb]; exact wpAny_pure k)))) ) hd
theorem stl {x : Str} {v : Value} {Q : Unit → Shared → Prop} (S : St h₀ L loc own h) (e : EnvIs env sc L cs) (hk : sc.names.lookup x = some .local)
    (k : ∀ h' tk', St h₀ L (aset x v loc) own h' → Q () (at_ s h' tk')) : wpAny (model PG w) A (storeName env x v) Q E (at_ s h tk) :=
  wpAny_storeName_local (e.kind hk) (by rw [e.locals]; exact S.ns) (fun h' hn hs => k h' _ (S.store (by rw [e.locals] at hn; exact hn) (by rw [e.locals] at hs; exact hs)))
    (by rw [e.scope, e.fn]; rfl)
theorem stc {x : Str} {v : Value} {c : Addr} {v₀ : Option Value} {Q : Unit → Shared → Prop} (S : St h₀ L loc own h) (e : EnvIs env sc L cs) (hk : sc.names.lookup x = some .cell) (hc : cs.lookup x = some c) (i : Nat) (hi : own[i]? = some (c, cll v₀))
    (k : ∀ h', St h₀ L loc (own.set i (c, cll (some v))) h' → Q () (at_ s h' tk)) : wpAny (model PG w) A (storeName env x v) Q E (at_ s h tk) :=
  wpAny_storeName_cell (by rw [e.scope]; exact e.fn) (e.kind hk) (by rw [e.cells]; exact hc) (S.at i hi) (fun h' hn hs => k h' (S.upd i hi (fun b o hb q => (hs.2 b hb).trans q) hn))
theorem enter {Q : Value → Shared → Prop} {f : Addr} {vals : List Value} {oc : Value} {od : Option Addr} {osl : Array (Option Value)} {fd : FuncData} {body : List Stmt} {binds : List (Str × Value)} {n : Nat}
    (G : Gr w h) (R : Rm (n + 1) A) (ho : (KF w.params).lookup f = some ⟨oc, od, .func fd, osl⟩) (hbody : fd.body = .stmts body) (hcd : codeIn (KF w.params) fd.code fd.qualname = true) (hbind : bindArgs fd ⟨vals, []⟩ = pure binds)
    (hcell : ∀ x ∈ fd.scope.names, x.2 ≠ .cell) (hloc : ∀ x ∈ binds, fd.scope.names.lookup x.1 = some .local) (hgl : fd.globals = mainGlobals) (hbu : fd.builtins = builtinsNs) (hcl : fd.closure = []) (hk : fd.scope.kind = .function)
    (k : ∀ env L h₁ tk₁ (Qf : Flow → Shared → Prop) (Ef : Value → Shared → Prop), (∀ v s', Q v s' → Qf (.ret v) s') → EnvIs env fd.scope L [] → St h L binds.reverse [] h₁ → Gr w h₁ → Rm n (A.deeper env) →
      wpAny (model PG w) (A.deeper env) (execs body env) Qf Ef (at_ s h₁ tk₁))
    (hco : fd.scope.isCoroutine = false := by rfl) (hgen : fd.scope.isGenerator = false := by rfl) :
    wpAny (model PG w) A (call (.ref f) vals) Q E (at_ s h tk) := by
  refine wpAny_call (codeAny_call_def (s := at_ s h tk) (by have := R.depth; omega) (G.k _ _ ho) rfl G.nolimit (codeRec_of G.k hcd) hbody (BindsTo.of_eq hbind) hcell hloc (fun h₁ hns hk₁ => ?_) hco hgen hk)
  exact k _ h.objs.size h₁ _ _ _ (fun v s' q => q) ⟨rfl, rfl, hgl, hbu, hcl, hk⟩ ⟨hk₁, hns, none_size _, fun _ hp => (nomatch hp), fun _ hp => (nomatch hp), List.nodup_nil⟩ (G.keeps hk₁) R.deeper
noncomputable def blo (k : Str → Option NameKind) : List (Str × Value) → List (Str × Value) → List (Str × Value)
  | [], acc => acc
  | (n, v) :: r, acc => blo k r (if k n = some .local then aset n v acc else acc)
theorem blo_eq (k : Str → Option NameKind) : ∀ (binds acc : List (Str × Value)), bindL k binds (fun x => acc.lookup x) = fun x => (blo k binds acc).lookup x
  | [], _ => rfl
  | (n, v) :: r, acc => by
    unfold bindL blo
    by_cases h : k n = some .local
    · rw [if_pos h, if_pos h, ← blo_eq k r]
      congr 1
      funext y
      exact (aset_lookup n v acc y).symm
    · rw [if_neg h, if_neg h, ← blo_eq k r]
theorem enterC {Q : Value → Shared → Prop} {f : Addr} {vals : List Value} {oc : Value} {od : Option Addr} {osl : Array (Option Value)} {fd : FuncData} {body : List Stmt} {binds : List (Str × Value)} {n : Nat}
    (G : Gr w h) (R : Rm (n + 1) A) (ho : (KF w.params).lookup f = some ⟨oc, od, .func fd, osl⟩) (hbody : fd.body = .stmts body) (hcd : codeIn (KF w.params) fd.code fd.qualname = true) (hbind : bindArgs fd ⟨vals, []⟩ = pure binds)
    (hkind : (binds.all fun y => fd.scope.names.lookup y.1 == some .local || fd.scope.names.lookup y.1 == some .cell) = true) (hnd : ((cellsFrom 0 fd.scope.names []).map (·.1)).Nodup)
    (hgl : fd.globals = mainGlobals) (hbu : fd.builtins = builtinsNs) (hcl : fd.closure = []) (hk : fd.scope.kind = .function)
    (k : ∀ env L h₁ tk₁ (Qf : Flow → Shared → Prop) (Ef : Value → Shared → Prop), (∀ v s', Q v s' → Qf (.ret v) s') → EnvIs env fd.scope L (cellsFrom (L + 1) fd.scope.names []) →
      St h L (blo (fun x => fd.scope.names.lookup x) binds []) ((cellsFrom (L + 1) fd.scope.names []).map fun p => (p.2, cll (bindC (fun x => fd.scope.names.lookup x) binds (fun _ => none) p.1))) h₁ → Gr w h₁ → Rm n (A.deeper env) →
      wpAny (model PG w) (A.deeper env) (execs body env) Qf Ef (at_ s h₁ tk₁))
    (hco : fd.scope.isCoroutine = false := by rfl) (hgen : fd.scope.isGenerator = false := by rfl) :
    wpAny (model PG w) A (call (.ref f) vals) Q E (at_ s h tk) := by
  refine wpAny_call (codeAny_call_cells (s := at_ s h tk) (by have := R.depth; omega) (G.k _ _ ho) rfl G.nolimit (codeRec_of G.k hcd) hbody hbind hcl (kindsX hkind _) (fun s₁ x => ?_) hco hgen hk)
  obtain ⟨⟨h₁, tk₁, rfl⟩, hns, hkp, hfr⟩ := x.toInCall
  have kp : Kp h h₁ := hkp
  refine k (callEnvC fd h.objs.size f) h.objs.size h₁ tk₁ _ _ (fun v s' q => q) ⟨rfl, rfl, hgl, hbu, rfl, hk⟩ ⟨kp, ?_, none_size _, fun p hp => ?_, fun p hp => ?_, ?_⟩ (G.keeps kp) R.deeper
  · have e := blo_eq (fun x => fd.scope.names.lookup x) binds []
    rw [← e]; exact hns
  · obtain ⟨⟨nm, c⟩, hp', rfl⟩ := List.mem_map.mp hp
    exact x.cell nm c (mem_lookup_nodup (cellsFrom_keys 0 (h.objs.size + 1) fd.scope.names [] hnd rfl) hp')
  · obtain ⟨⟨nm, c⟩, hp', rfl⟩ := List.mem_map.mp hp
    have ab := x.above nm c hp'
    have ab' : h.objs.size < c := ab
    refine ⟨?_, Nat.ne_of_gt ab'⟩
    cases q : h.get? c with
    | none => rfl
    | some o => exact absurd (Heap.lt_size q) (Nat.not_lt.mpr (Nat.le_of_lt ab'))
  · rw [List.map_map]
    exact List.pairwise_map.mpr x.apart
end
end Mine
end
local macro_rules | `(tactic| x_close) => `(tactic| first | (apply_assumption; assumption) | (apply_assumption; exact PySem.W.X.Mem.start _))
section -- XS
open PySem PySem.W PyProof.Rows PySem.Spec PySem.Calls PySem.W.X
set_option Elab.async false
set_option maxRecDepth 100000
set_option maxHeartbeats 8000000
set_option pp.maxSteps 3000
namespace Mine
section
theorem x_super {w : World} {h : Heap} {g : Array GenState} {d : Drawn} {os : OsState} {tk : Nat} {a D B : Addr} {t q : Tok} {Q : Value → Shared → Prop} {E : Value → Shared → Prop} 
  (ha : h.get? a = some ⟨.type "type", none, .cls { name := "K", bases := [.type "object"], mro := [.ref a, .type "object"], ns := D, qualname := "cmp_to_key.<locals>.K", hasDict := false, slotNames := ["obj"] }, #[some (.ref B), none, some (.str "K" t), some (.str "cmp_to_key.<locals>.K" q), some (.builtin "object.__new__"), some (.bool false)]⟩)
  (k : ∀ X h' tk', Mem h h' [] [(X, { cls := .type "super", data := .fields #[.ref a, .ref a, .ref a] })] → Q (.ref X) ⟨h', g, d, tk', os⟩) :
   wpAny (model PG w) { handled := none, depth := 420, frames := none, guards := none, units := 200 } (call (.type "super") [.ref a, .ref a]) Q E ⟨h, g, d, tk, os⟩ := by
  x_run
theorem x_cmget {w : World} {h : Heap} {g : Array GenState} {d : Drawn} {os : OsState} {tk : Nat} {a D B : Addr} {t q : Tok} {Q : Value → Shared → Prop} {E : Value → Shared → Prop}
  (ha : h.get? a = some ⟨.type "type", none, .cls { name := "K", bases := [.type "object"], mro := [.ref a, .type "object"], ns := D, qualname := "cmp_to_key.<locals>.K", hasDict := false, slotNames := ["obj"] }, #[some (.ref B), none, some (.str "K" t), some (.str "cmp_to_key.<locals>.K" q), some (.builtin "object.__new__"), some (.bool false)]⟩)
  (k : ∀ X h' tk', Mem h h' [] [(X, { cls := .type "builtin_function_or_method", data := .fields #[.builtin "object.__init_subclass__", .ref a] })] → Q (.ref X) ⟨h', g, d, tk', os⟩) :
   wpAny (model PG w) { handled := none, depth := 420, frames := none, guards := none, units := 200 } (call (.builtin "classmethod_descriptor.__get__") [.builtin "object.__init_subclass__", .none, .ref a]) Q E ⟨h, g, d, tk, os⟩ := by
  x_run
theorem x_isub {w : World} {h : Heap} {g : Array GenState} {d : Drawn} {os : OsState} {tk : Nat} {X a D B : Addr} {t q : Tok} {Q : Value → Shared → Prop} {E : Value → Shared → Prop}
  (ha : h.get? a = some ⟨.type "type", none, .cls { name := "K", bases := [.type "object"], mro := [.ref a, .type "object"], ns := D, qualname := "cmp_to_key.<locals>.K", hasDict := false, slotNames := ["obj"] }, #[some (.ref B), none, some (.str "K" t), some (.str "cmp_to_key.<locals>.K" q), some (.builtin "object.__new__"), some (.bool false)]⟩)
  (hX : h.get? X = some ⟨.type "builtin_function_or_method", none, .fields #[.builtin "object.__init_subclass__", .ref a], #[]⟩)
  (k : ∀ h' tk', Mem h h' [] [] → Q .none ⟨h', g, d, tk', os⟩) :
   wpAny (model PG w) { handled := none, depth := 420, frames := none, guards := none, units := 200 } (call (.ref X) []) Q E ⟨h, g, d, tk, os⟩ := by
  x_run
end
theorem wk {α : Type} {M : Model} {A : Around} {E : Value → Shared → Prop} {t : Sem α} {Q : α → Shared → Prop} {s : Shared} (hh : A.handled = none) (hd : A.depth ≤ 420) (hu : A.units ≤ 200)
    (k : wpAny M { handled := none, depth := 420, frames := none, guards := none, units := 200 } t Q E s) : wpAny M A t Q E s :=
  fun Γ p hΓ => k Γ p ⟨hΓ.1.trans hh, Nat.le_trans hΓ.2.1 hd, fun _ z => (by cases z), fun _ z => (by cases z), Nat.le_trans hΓ.2.2.2.2 hu⟩
theorem Mem_kp {h h' : Heap} {news : List (Addr × Obj)} (D : Mem h h' [] news) : Kp h h' := fun b o e => D.keep b o e (by simp [away])
end Mine
end
section -- Iter
open PySem PySem.W PyProof.Rows PySem.Spec PySem.Calls
open PySem.AutoSeq1 (wpAny_loadPart')
set_option Elab.async false
set_option maxRecDepth 100000
namespace Mine
section
variable {prog : Program} {w : World} {A : Around} {E : Value → Shared → Prop} {s : Shared}
theorem nextOf_tup_item {it l : Addr} {i : Nat} {items : Array Value} {x : Value} {Q : Value → Shared → Prop} (hit : s.heap.IsTupleIter it l i) (hl : s.heap.IsTuple l items) (hx : items[i]? = some x)
    (hQ : ∀ h', h'.IsTupleIter it l (i + 1) → Heap.SameBut it s.heap h' → Q x { s with heap := h' }) : wpAny (model prog w) A (Builtin.SmallTypes.nextOf (.ref it)) Q E s := by
  obtain ⟨o, ho, hc, hd⟩ := id hit
  obtain ⟨ol, hol, _, nl, hdl⟩ := hl
  unfold Builtin.SmallTypes.nextOf
  refine wpAny_bind (wpAny_callSpecial?_slot (name := Str.ofString "__next__") hit.typeIs F.slot_tuple_iterator_next (wpAny_call_entry F.slot_tuple_iterator_next hit.typeIs F.entry_tuple_iterator_next ?_ (F.args_tuple_iterator_next_1 _)))
  show wpAny _ _ (field (.ref it) 0 >>= _) _ _ s
  refine wpAny_bind (wpAny_field ho hd (x := .ref l) rfl ?_)
  show wpAny _ _ (if (Value.ref l == Value.none) = true then _ else _) _ _ s
  rw [if_neg (show ¬ ((Value.ref l == Value.none) = true) from Bool.false_ne_true)]
  show wpAny _ _ (field (.ref it) 1 >>= _) _ _ s
  refine wpAny_bind (wpAny_field ho hd (x := .int i 0) rfl ?_)
  show wpAny _ _ (seqItems? (.ref l) >>= _) _ _ s
  refine wpAny_bind (wpAny_seqItems hol hdl ?_)
  simp only [Int.toNat_natCast, hx]
  refine wpAny_bind (wpAny_setField ho hd (by simp) (wpAny_pure ⟨x, rfl, wpAny_pure (hQ _ ?_ (Heap.SameBut.update ..))⟩))
  exact ⟨_, Heap.get?_update_self _ ho (Obj.isFreed_of_fields (Obj.data_mapFields hd _)), (Obj.cls_mapFields ..).trans hc, by
    rw [Obj.data_mapFields hd]; simp [rawInt]⟩
theorem nextOf_tup_end {it l : Addr} {i : Nat} {items : Array Value} {Q : Value → Shared → Prop} (hh : A.handled = none) (hit : s.heap.IsTupleIter it l i) (hl : s.heap.IsTuple l items) (hx : items[i]? = none)
    (hE : ∀ h' e, Heap.ExtBut it s.heap h' → (∃ o, h'.get? e = some o ∧ o.cls = .type "StopIteration") → E (.ref e) { s with heap := h' }) : wpAny (model prog w) A (Builtin.SmallTypes.nextOf (.ref it)) Q E s := by
  obtain ⟨o, ho, hc, hd⟩ := id hit
  obtain ⟨ol, hol, _, nl, hdl⟩ := hl
  unfold Builtin.SmallTypes.nextOf
  refine wpAny_bind (wpAny_callSpecial?_slot (name := Str.ofString "__next__") hit.typeIs F.slot_tuple_iterator_next (wpAny_call_entry F.slot_tuple_iterator_next hit.typeIs F.entry_tuple_iterator_next ?_ (F.args_tuple_iterator_next_1 _)))
  show wpAny _ _ (field (.ref it) 0 >>= _) _ _ s
  refine wpAny_bind (wpAny_field ho hd (x := .ref l) rfl ?_)
  show wpAny _ _ (if (Value.ref l == Value.none) = true then _ else _) _ _ s
  rw [if_neg (show ¬ ((Value.ref l == Value.none) = true) from Bool.false_ne_true)]
  show wpAny _ _ (field (.ref it) 1 >>= _) _ _ s
  refine wpAny_bind (wpAny_field ho hd (x := .int i 0) rfl ?_)
  show wpAny _ _ (seqItems? (.ref l) >>= _) _ _ s
  refine wpAny_bind (wpAny_seqItems hol hdl ?_)
  simp only [Int.toNat_natCast, hx]
  refine wpAny_bind (wpAny_rule (wpAny_bind (wpAny_setField ho hd (by simp) ?_)))
  show wpAny _ _ (newExc (.type "StopIteration") [] >>= _) _ _ _
  refine wpAny_bind ?_
  simp only [newExc, newTuple]
  refine wpAny_bind (wpAny_newObj_type ?_ (by size_fits))
  refine wpAny_bind (m := firstArgMember _ _) (wpAny_of_eq (a := Value.none) (by first | rfl | (simp only [firstArgMember]; rfl)) ?_)
  refine wpAny_newObj_type ?_ (by size_fits)
  simp only [raiseNew]
  refine wpAny_bind (wpAny_handled ?_)
  first | rw [show A.in1.handled = none from hh] | rw [hh]
  refine wpAny_bind (wpAny_pure (wpAny_throw ?_))
  exact hE _ _ (((Heap.SameBut.update ..).extBut.push _).push _) ⟨_, Heap.get?_push_size _ rfl, rfl⟩
theorem draws_tup (hh : A.handled = none) (it l : Addr) (hne : l ≠ it) (items : Array Value) :
    Draws prog w A it [it, l] items.size (fun i v => items[i]? = some v) (fun i h => h.IsTupleIter it l i ∧ h.IsTuple l items) where
  live := fun _ _ st => let ⟨o, ho, _⟩ := st.1; ⟨o, ho⟩
  frame := fun _ _ _ st hk => ⟨let ⟨o, ho, r⟩ := st.1; ⟨o, hk it (by simp) o ho, r⟩, let ⟨o, ho, r⟩ := st.2; ⟨o, hk l (by simp) o ho, r⟩⟩
  item := fun i s Q E hi st hQ => by
    refine nextOf_tup_item st.1 st.2 (x := items[i]) (by simp [hi]) fun h' hit' hs' => ?_
    exact hQ _ h' s.toks (by simp [hi]) ⟨hit', let ⟨o, ho, r⟩ := st.2; ⟨o, (hs'.2 l hne).trans ho, r⟩⟩ hs'
  done := fun s Q E st hE => nextOf_tup_end hh st.1 st.2 (by simp) hE
theorem meets_enum_tup (l : Addr) (items : Array Value) (n : Nat) (dct : Option Addr) (sl : Array (Option Value)) :
    Meets (Builtin.«enumerate.__new__» ⟨[.type "enumerate", .ref l], []⟩) (fun _ R s => s.heap.get? l = some { cls := .type "tuple", dict := dct, data := .seq items n, slots := sl } ∧
      R (.ok (.ret (.ref (s.heap.push { cls := .type "tuple_iterator", data := .fields #[.ref l, .int 0 0] }).objs.size)))
        { s with heap := (s.heap.push { cls := .type "tuple_iterator", data := .fields #[.ref l, .int 0 0] }).push { cls := .type "enumerate", data := .fields #[.none, .bool false, .ref s.heap.objs.size, rawInt 0, .none, .none] } }) :=
  .of_wp fun prog w A R s h => by
    obtain ⟨hp, g, d, tk, os⟩ := s; obtain ⟨hl, h⟩ := h
    have hsub := sub_enumerate
    have hL : Heap.IsTuple (Shared.heap ⟨hp, g, d, tk, os⟩) l items := ⟨_, hl, rfl, n, rfl⟩
    wp_walk using wpAny_loadPart' hl
    refine wpAny_stack_any fun st => wpAny_pure ?_
    split
    · rename_i c _ _ _ _ _
      cases (c == Value.type "enumerate")
      · wp_walk using wpAny_loadPart' hl, wpAny_pyIter_tuple hL
        exact ⟨_, rfl, h⟩
      · wp_walk using wpAny_loadPart' hl, wpAny_pyIter_tuple hL
        exact ⟨_, rfl, h⟩
    · wp_walk using wpAny_loadPart' hl, wpAny_pyIter_tuple hL
      exact ⟨_, rfl, h⟩
theorem call_enum_tup {l : Addr} {items : Array Value} {Q : Value → Shared → Prop} (hL : s.heap.IsTuple l items)
    (h : ∀ h', IsEnum h' (s.heap.objs.size + 1) s.heap.objs.size 0 .none → h'.IsTupleIter s.heap.objs.size l 0 → h'.objs.size = s.heap.objs.size + 2 →
      (∀ b o, s.heap.get? b = some o → h'.get? b = some o) → Q (.ref (s.heap.objs.size + 1)) { s with heap := h' }) :
    wpAny (model prog w) A (call (.type "enumerate") [.ref l]) Q E s := by
  obtain ⟨⟨c, dct, dt, sl⟩, hl, hc, n, hd⟩ := hL
  replace hc : c = .type "tuple" := hc
  replace hd : dt = .seq items n := hd
  subst hc hd
  refine callType_new F.called_enumerate (by decide) (F.typeCall_enumerate_1 _) (F.newCall_enumerate_1 _) (fun obj => F.args_object_init_2 obj _) F.entry_enumerate_new
    (meets_enum_tup l items n dct sl) ⟨hl, ?_⟩
  have hz : (s.heap.push { cls := .type "tuple_iterator", data := .fields #[.ref l, .int 0 0] }).objs.size = s.heap.objs.size + 1 := Heap.size_push ..
  show _ ∧ _
  rw [hz]
  have he : IsEnum ((s.heap.push { cls := .type "tuple_iterator", data := .fields #[.ref l, .int 0 0] }).push
      { cls := .type "enumerate", data := .fields #[.none, .bool false, .ref s.heap.objs.size, rawInt 0, .none, .none] }) (s.heap.objs.size + 1) s.heap.objs.size 0 .none := by
    have := Heap.get?_push_size (s.heap.push { cls := .type "tuple_iterator", data := .fields #[.ref l, .int 0 0] })
      (o := { cls := .type "enumerate", data := .fields #[.none, .bool false, .ref s.heap.objs.size, rawInt 0, .none, .none] }) rfl
    rw [hz] at this; exact this
  refine ⟨⟨_, he, rfl⟩, h _ he ⟨_, Heap.get?_push_of_some _ (Heap.get?_push_size _ rfl), rfl, rfl⟩ (by rw [Heap.size_push, hz]) fun b o x => Heap.get?_push_of_some _ (Heap.get?_push_of_some _ x)⟩
end
end Mine
end
section -- Loop
open PySem PySem.W PyProof.Rows PySem.Spec PySem.Calls
set_option Elab.async false
set_option maxRecDepth 100000
namespace Mine
noncomputable def anyAt (wr : List Addr) : List (Addr × Sort_) := wr.map fun b => (b, fun _ => True)
noncomputable def frz (h : Heap) (wr : List Addr) : List (Addr × Sort_) := wr.map fun b => (b, fun o => h.get? b = some o)
theorem keys_any (wr : List Addr) : (anyAt wr).map (·.1) = wr := by unfold anyAt; rw [List.map_map]; exact List.map_id wr
theorem keys_frz (h : Heap) (wr : List Addr) : (frz h wr).map (·.1) = wr := by unfold frz; rw [List.map_map]; exact List.map_id wr
section
variable {h₀ h h' : Heap} {L : Addr} {loc : List (Str × Value)} {own own' fz : List (Addr × Sort_)} {wr : List Addr}
theorem St.retell (S : St h₀ L loc own h) (keys : own'.map (·.1) = own.map (·.1)) (ho : ∀ p ∈ own', Is h p.1 p.2) : St h₀ L loc own' h :=
  S.step [] (fun _ _ _ e => e) (fun _ hb => (nomatch hb)) keys ho
theorem St.freeze (S : St h₀ L loc (own ++ (anyAt wr ++ fz)) h) : St h₀ L loc (own ++ (frz h wr ++ fz)) h := by
  refine S.retell (by simp only [List.map_append, keys_any, keys_frz]) fun p hp => ?_
  rcases List.mem_append.mp hp with hp | hp
  · exact S.owns p (List.mem_append.mpr (.inl hp))
  rcases List.mem_append.mp hp with hp | hp
  · obtain ⟨b, hb, rfl⟩ := List.mem_map.mp hp
    obtain ⟨o, e, _⟩ := S.owns (b, fun _ => True) (List.mem_append.mpr (.inr (List.mem_append.mpr (.inl (List.mem_map_of_mem hb)))))
    exact ⟨o, e, e⟩
  · exact S.owns p (List.mem_append.mpr (.inr (List.mem_append.mpr (.inr hp))))
theorem St.thaw {h₁ : Heap} (S : St h₀ L loc (own ++ (frz h₁ wr ++ fz)) h) : St h₀ L loc (own ++ (anyAt wr ++ fz)) h := by
  refine S.retell (by simp only [List.map_append, keys_any, keys_frz]) fun p hp => ?_
  rcases List.mem_append.mp hp with hp | hp
  · exact S.owns p (List.mem_append.mpr (.inl hp))
  rcases List.mem_append.mp hp with hp | hp
  · obtain ⟨b, hb, rfl⟩ := List.mem_map.mp hp
    obtain ⟨o, e, _⟩ := S.owns (b, fun o => h₁.get? b = some o) (List.mem_append.mpr (.inr (List.mem_append.mpr (.inl (List.mem_map_of_mem hb)))))
    exact ⟨o, e, trivial⟩
  · exact S.owns p (List.mem_append.mpr (.inr (List.mem_append.mpr (.inr hp))))
theorem St.frozen {h₁ : Heap} (S : St h₀ L loc (own ++ (frz h₁ wr ++ fz)) h) {b : Addr} (hb : b ∈ wr) {o : Obj} (e : h₁.get? b = some o) : h.get? b = some o := by
  obtain ⟨o', e', q⟩ := S.owns (b, fun o => h₁.get? b = some o) (List.mem_append.mpr (.inr (List.mem_append.mpr (.inl (List.mem_map_of_mem hb)))))
  have q' : h₁.get? b = some o' := q
  rw [e] at q'; cases q'; exact e'
theorem St.perm (S : St h₀ L loc own h) (p : own'.Perm own) : St h₀ L loc own' h :=
  ⟨S.keep, S.ns, S.new, fun q hq => S.owns q (p.mem_iff.mp hq), fun q hq => S.fresh q (p.mem_iff.mp hq), (p.map _).nodup_iff.mpr S.apart⟩
theorem St.addAny (S : St h₀ L loc (own ++ fz) h) (k : Kp h h') (hn : ∀ b ∈ wr, h.get? b = none) (he : ∀ b ∈ wr, ∃ o, h'.get? b = some o) (nd : wr.Nodup) : St h₀ L loc (own ++ (anyAt wr ++ fz)) h' := by
  have S' := S.pure k
  obtain ⟨oL, es, ep, hL, r⟩ := S.ns
  have pm : (own ++ (anyAt wr ++ fz)).Perm (anyAt wr ++ (own ++ fz)) := by
    rw [← List.append_assoc, ← List.append_assoc]
    exact List.Perm.append_right _ List.perm_append_comm
  refine St.perm ⟨S'.keep, S'.ns, S.new, fun p hp => ?_, fun p hp => ?_, ?_⟩ pm
  · rcases List.mem_append.mp hp with hp | hp
    · obtain ⟨b, hb, rfl⟩ := List.mem_map.mp hp
      obtain ⟨o, q⟩ := he b hb
      exact ⟨o, q, trivial⟩
    · exact S'.owns p hp
  · rcases List.mem_append.mp hp with hp | hp
    · obtain ⟨b, hb, rfl⟩ := List.mem_map.mp hp
      have q := hn b hb
      refine ⟨?_, fun z => ?_⟩
      · cases q' : h₀.get? b with
        | none => rfl
        | some o' => rw [S.keep _ _ q'] at q; cases q
      · have z' : b = L := z
        rw [z', hL] at q; cases q
    · exact S.fresh p hp
  · rw [List.map_append, keys_any]
    refine List.nodup_append.mpr ⟨nd, S.apart, fun a ha b hb e => ?_⟩
    obtain ⟨p, hp, rfl⟩ := List.mem_map.mp hb
    obtain ⟨o, q, _⟩ := S.owns p hp
    have q' := hn a ha
    rw [e, q] at q'; cases q'
theorem St.drawn (S : St h₀ L loc (own ++ (anyAt wr ++ fz)) h) (hk : ∀ b o, b ∉ wr → h.get? b = some o → h'.get? b = some o) (hex : ∀ b ∈ wr, ∃ o, h'.get? b = some o) : St h₀ L loc (own ++ (anyAt wr ++ fz)) h' := by
  have nd := S.apart
  simp only [List.map_append, keys_any] at nd
  refine S.step wr hk (fun b hb => ?_) rfl fun p hp => ?_
  · simp only [List.map_append, keys_any]
    exact List.mem_append.mpr (.inr (List.mem_append.mpr (.inl hb)))
  · rcases List.mem_append.mp hp with hp' | hp'
    · obtain ⟨o, e, q⟩ := S.owns p hp
      refine ⟨o, hk _ _ (fun hb => ?_) e, q⟩
      exact (List.nodup_append.mp nd).2.2 p.1 (List.mem_map_of_mem hp') p.1 (List.mem_append.mpr (.inl hb)) rfl
    rcases List.mem_append.mp hp' with hp' | hp'
    · obtain ⟨b, hb, rfl⟩ := List.mem_map.mp hp'
      obtain ⟨o, e⟩ := hex b hb
      exact ⟨o, e, trivial⟩
    · obtain ⟨o, e, q⟩ := S.owns p hp
      refine ⟨o, hk _ _ (fun hb => ?_) e, q⟩
      exact (List.nodup_append.mp (List.nodup_append.mp nd).2.1).2.2 p.1 hb p.1 (List.mem_map_of_mem hp') rfl
theorem St.gone (S : St h₀ L loc (own ++ (anyAt wr ++ fz)) h) (hk : ∀ b o, b ∉ wr → h.get? b = some o → h'.get? b = some o) : St h₀ L loc (own ++ fz) h' := by
  have nd := S.apart
  simp only [List.map_append, keys_any] at nd
  have fr : ∀ b ∈ wr, h₀.get? b = none ∧ b ≠ L := fun b hb => S.fresh (b, fun _ => True) (List.mem_append.mpr (.inr (List.mem_append.mpr (.inl (List.mem_map_of_mem hb)))))
  have sub : (own ++ fz).Sublist (own ++ (anyAt wr ++ fz)) := List.Sublist.append_left (List.sublist_append_right _ _) _
  obtain ⟨oL, es, ep, hL, r⟩ := S.ns
  refine ⟨fun b o e => ?_, ⟨oL, es, ep, hk L oL (fun hb => (fr L hb).2 rfl) hL, r⟩, S.new, fun p hp => ?_, fun p hp => S.fresh p (sub.subset hp), S.apart.sublist (sub.map _)⟩
  · refine hk b o (fun hb => ?_) (S.keep b o e)
    have := (fr b hb).1
    rw [e] at this; cases this
  · obtain ⟨o, e, q⟩ := S.owns p (sub.subset hp)
    refine ⟨o, hk _ _ (fun hb => ?_) e, q⟩
    rcases List.mem_append.mp hp with hp | hp
    · exact (List.nodup_append.mp nd).2.2 p.1 (List.mem_map_of_mem hp) p.1 (List.mem_append.mpr (.inl hb)) rfl
    · exact (List.nodup_append.mp (List.nodup_append.mp nd).2.1).2.2 p.1 hb p.1 (List.mem_map_of_mem hp) rfl
end
section
variable {w : World} {A : Around} {s : Shared} {env : Env} {L : Addr} {h₀ : Heap}
theorem for_walks {R : Result → Shared → Prop} {target : Expr} {body orelse : List Stmt} {I : Addr} {fp wr : List Addr} {n : Nat} {P : Nat → Value → Prop} {Sx : Nat → Heap → Prop} (W : Walks PG w A I fp wr n P Sx)
    (fz : List (Addr × Sort_)) (J : Nat → List (Str × Value) → List (Addr × Sort_) → Prop)
    (hgo : ∀ i v (s : Shared) (Q : Unit → Shared → Prop) (E : Value → Shared → Prop), P i v → Sx (i + 1) s.heap → Q () s → wpAny (model PG w) A (letOwnedTupleGo target (.ref I) v) Q E s)
    (hex : ∀ i h, Sx i h → ∀ b ∈ wr, ∃ o, h.get? b = some o)
    (hfp : ∀ b ∈ fp, b ∈ wr ∨ (∃ o, h₀.get? b = some o) ∨ (∃ h₁, (b, fun o => h₁.get? b = some o) ∈ fz ∧ Is h₁ b fun _ => True))
    (turn : ∀ i v loc own h tk fz' (Qb : Flow → Shared → Prop) (E : Value → Shared → Prop), i < n → P i v → J i loc own → St h₀ L loc (own ++ (fz' ++ fz)) h →
      (∀ loc' own' h' tk', J (i + 1) loc' own' → St h₀ L loc' (own' ++ (fz' ++ fz)) h' → Qb .next (at_ s h' tk')) →
      (∀ loc' own' h' tk', J (i + 1) loc' own' → St h₀ L loc' (own' ++ (fz' ++ fz)) h' → Qb .cont (at_ s h' tk')) →
      (∀ s', R (.ok .next) s' → Qb .brk s') → (∀ v s', R (.ok (.ret v)) s' → Qb (.ret v) s') →
      wpAny (model PG w) A (assign target env v) (fun _ s₂ => wpAny (model PG w) A (execs body env) Qb E s₂) E (at_ s h tk))
    (done : ∀ loc own h tk (Qb : Flow → Shared → Prop) (E : Value → Shared → Prop), J n loc own → St h₀ L loc (own ++ fz) h → (∀ f s', R (.ok f) s' → Qb f s') → wpAny (model PG w) A (execs orelse env) Qb E (at_ s h tk))
    {loc : List (Str × Value)} {own : List (Addr × Sort_)} {h : Heap} {tk : Nat} (S : St h₀ L loc (own ++ (anyAt wr ++ fz)) h) (hs : Sx 0 h) (hj : J 0 loc own) :
    codeAny (model PG w) A (.forLoop target (.ref I) body orelse env) R (at_ s h tk) := by
  refine codeAny_forLoop_any (fun k s' => ∃ i loc own h tk, k + i = n ∧ s' = at_ s h tk ∧ St h₀ L loc (own ++ (anyAt wr ++ fz)) h ∧ Sx i h ∧ J i loc own) ?_ n ⟨0, loc, own, h, tk, rfl, rfl, S, hs, hj⟩
  rintro k s' ⟨i, loc, own, h, tk, hk, rfl, S, hs, hj⟩
  by_cases hi : i < n
  · refine W.item i _ _ _ hi hs fun v h₁ tk₁ hP hs₁ hk₁ => ?_
    have S₁ := S.drawn hk₁ (hex _ _ hs₁)
    refine hgo i v _ _ _ hP hs₁ ?_
    refine turn i v loc own h₁ tk₁ (frz h₁ wr) _ _ hi hP hj S₁.freeze ?_ ?_ (fun _ q => q) (fun _ _ q => q)
    all_goals
      intro loc' own' h' tk' hj' S'
      refine ⟨k - 1, by omega, i + 1, loc', own', h', tk', by omega, rfl, S'.thaw, W.frame _ _ _ hs₁ fun b hb o e => ?_, hj'⟩
      rcases hfp b hb with q | ⟨o', q⟩ | ⟨h₂, q, o', e', _⟩
      · exact S'.frozen q e
      · have e1 := S₁.keep b o' q
        have e2 : h₁.get? b = some o := e
        rw [e1] at e2; cases e2
        exact S'.keep b _ q
      · have e2 : h₁.get? b = some o := e
        obtain ⟨oa, ea, qa⟩ := S₁.owns (b, _) (List.mem_append.mpr (.inr (List.mem_append.mpr (.inr q))))
        obtain ⟨ob, eb, qb⟩ := S'.owns (b, _) (List.mem_append.mpr (.inr (List.mem_append.mpr (.inr q))))
        have qa' : h₂.get? b = some oa := qa
        have qb' : h₂.get? b = some ob := qb
        have ea' : h₁.get? b = some oa := ea
        have eb' : h'.get? b = some ob := eb
        rw [qa'] at qb'; cases qb'
        rw [ea'] at e2; cases e2
        exact eb'
  · have hin : i = n := by omega
    subst hin
    refine W.done _ _ _ hs fun h₁ tk₁ hk₁ => ?_
    exact done loc own h₁ tk₁ _ _ hj (S.gone hk₁) fun _ _ q => q
theorem for_walksT {R : Result → Shared → Prop} {elts : List Expr} {tk0 : Nat} {tpos : Pos} {body orelse : List Stmt} {I : Addr} {fp wr : List Addr} {n : Nat} {Pt : Nat → Array Value → Prop} {Sx : Nat → Heap → Prop} {Mid : Nat → Addr → Heap → Prop} (W : WalksT PG w A I fp wr n Pt Sx Mid)
    (fz : List (Addr × Sort_)) (J : Nat → List (Str × Value) → List (Addr × Sort_) → Prop)
    (hex : ∀ i h, Sx i h → ∀ b ∈ wr, ∃ o, h.get? b = some o) (hexM : ∀ i T h, Mid i T h → ∀ b ∈ wr, ∃ o, h.get? b = some o)
    (hfp : ∀ b ∈ fp, b ∈ wr ∨ (∃ o, h₀.get? b = some o) ∨ (∃ h₁, (b, fun o => h₁.get? b = some o) ∈ fz ∧ Is h₁ b fun _ => True))
    (turn : ∀ i T vals loc own h tk fz' (Qb : Flow → Shared → Prop) (E : Value → Shared → Prop), i < n → Pt i vals → h.IsTuple T vals → J i loc own → St h₀ L loc (own ++ (fz' ++ fz)) h →
      (∀ loc' own' h' tk', J (i + 1) loc' own' → St h₀ L loc' (own' ++ (fz' ++ fz)) h' → Qb .next (at_ s h' tk')) →
      (∀ loc' own' h' tk', J (i + 1) loc' own' → St h₀ L loc' (own' ++ (fz' ++ fz)) h' → Qb .cont (at_ s h' tk')) →
      (∀ s', R (.ok .next) s' → Qb .brk s') → (∀ v s', R (.ok (.ret v)) s' → Qb (.ret v) s') →
      wpAny (model PG w) A (assign (.Tuple elts tk0 tpos) env (.ref T)) (fun _ s₂ => wpAny (model PG w) A (execs body env) Qb E s₂) E (at_ s h tk))
    (done : ∀ loc own h tk (Qb : Flow → Shared → Prop) (E : Value → Shared → Prop), J n loc own → St h₀ L loc (own ++ fz) h → (∀ f s', R (.ok f) s' → Qb f s') → wpAny (model PG w) A (execs orelse env) Qb E (at_ s h tk))
    {loc : List (Str × Value)} {own : List (Addr × Sort_)} {h : Heap} {tk : Nat} (S : St h₀ L loc (own ++ (anyAt wr ++ fz)) h) (hs : Sx 0 h) (hj : J 0 loc own) :
    codeAny (model PG w) A (.forLoop (.Tuple elts tk0 tpos) (.ref I) body orelse env) R (at_ s h tk) := by
  refine codeAny_forLoop_any (fun k s' => ∃ i loc own h tk, k + i = n ∧ s' = at_ s h tk ∧ St h₀ L loc (own ++ (anyAt wr ++ fz)) h ∧ Sx i h ∧ J i loc own) ?_ n ⟨0, loc, own, h, tk, rfl, rfl, S, hs, hj⟩
  rintro k s' ⟨i, loc, own, h, tk, hk, rfl, S, hs, hj⟩
  by_cases hi : i < n
  · refine W.item i _ _ _ hi hs fun T vals h₀' tk₁ hP hTs hT hm hk₁ => ?_
    have S₀ := S.drawn hk₁ (hexM _ _ _ hm)
    refine W.go elts tk0 tpos i T _ _ _ hm fun h₁ hs₁ hk₂ => ?_
    have S₁ := S₀.drawn hk₂ (hex _ _ hs₁)
    have hT₁ : h₁.IsTuple T vals := let ⟨o, e, q⟩ := hT; ⟨o, hk₂ _ _ (W.apart _ _ _ hm) e, q⟩
    refine turn i T vals loc own h₁ tk₁ (frz h₁ wr) _ _ hi hP hT₁ hj S₁.freeze ?_ ?_ (fun _ q => q) (fun _ _ q => q)
    all_goals
      intro loc' own' h' tk' hj' S'
      refine ⟨k - 1, by omega, i + 1, loc', own', h', tk', by omega, rfl, S'.thaw, W.frame _ _ _ hs₁ fun b hb o e => ?_, hj'⟩
      rcases hfp b hb with q | ⟨o', q⟩ | ⟨h₂, q, o', e', _⟩
      · exact S'.frozen q e
      · have e1 := S₁.keep b o' q
        have e2 : h₁.get? b = some o := e
        rw [e1] at e2; cases e2
        exact S'.keep b _ q
      · have e2 : h₁.get? b = some o := e
        obtain ⟨oa, ea, qa⟩ := S₁.owns (b, _) (List.mem_append.mpr (.inr (List.mem_append.mpr (.inr q))))
        obtain ⟨ob, eb, qb⟩ := S'.owns (b, _) (List.mem_append.mpr (.inr (List.mem_append.mpr (.inr q))))
        have qa' : h₂.get? b = some oa := qa
        have qb' : h₂.get? b = some ob := qb
        have ea' : h₁.get? b = some oa := ea
        have eb' : h'.get? b = some ob := eb
        rw [qa'] at qb'; cases qb'
        rw [ea'] at e2; cases e2
        exact eb'
  · have hin : i = n := by omega
    subst hin
    refine W.done _ _ _ hs fun h₁ tk₁ hk₁ => ?_
    exact done loc own h₁ tk₁ _ _ hj (S.gone hk₁) fun _ _ q => q
end
end Mine
end
section -- Ops
open PySem PySem.W PyProof.Rows PySem.Spec PySem.Calls
set_option Elab.async false
set_option maxRecDepth 100000
namespace Mine
section
variable {w : World} {A : Around} {E : Value → Shared → Prop} {s : Shared} {h : Heap} {tk : Nat} {env : Env} {sc : Scope} {L : Addr} {cs : List (Str × Addr)} {h₀ : Heap} {loc : List (Str × Value)} {own : List (Addr × Sort_)}
theorem kp_ext {h h' : Heap} (x : Heap.ExtBut h.objs.size h h') : Kp h h' := fun b o e => x b o (Nat.ne_of_lt (Heap.lt_size e)) e
theorem kp_same_new {h h' : Heap} {a : Addr} (x : Heap.SameBut a h h') (ha : h.get? a = none) : Kp h h' := fun b o e => (x.2 b fun z => by rw [z, ha] at e; cases e).trans e
theorem append_own {a : Addr} {vs : List Value} {x : Value} {Q : Value → Shared → Prop} (S : St h₀ L loc own h) (i : Nat) (hi : own[i]? = some (a, lst vs)) (hsz : vs.length ≤ 1000000)
    (k : ∀ h', St h₀ L loc (own.set i (a, lst (vs ++ [x]))) h' → Q .none (at_ s h' tk)) : wpAny (model PG w) A (call (.builtin "list.append") [.ref a, x]) Q E (at_ s h tk) := by
  refine wpAny_list_append_plain (s := at_ s h tk) (S.at i hi).plain (fun h' hp hs => k h' (S.upd i hi (fun b o hb e => (hs.2 b hb).trans e) ?_)) (by rw [List.size_toArray, sizeLine_eq]; omega)
  have := Is.of_plain hp
  simpa using this
theorem cint {i : Int} {x1 : Nat} {pos : Pos} {Q : Value → Shared → Prop} (k : ∀ t tk', Q (.int i t) (at_ s h tk')) : wpAny (model PG w) A (eval (.Constant (.int i) x1 pos) env) Q E (at_ s h tk) := wpAny_Constant_int (k _ _)
theorem cstr {x : Str} {x1 : Nat} {pos : Pos} {Q : Value → Shared → Prop} (k : ∀ t tk', Q (.str x t) (at_ s h tk')) : wpAny (model PG w) A (eval (.Constant (.str x) x1 pos) env) Q E (at_ s h tk) := Calls.Constant_str (k _ _)
theorem newL {vs : List Value} {Q : Value → Shared → Prop} (hsz : vs.length ≤ 1000000) (k : ∀ a h', h.get? a = none → Kp h h' → Is h' a (lst vs) → Q (.ref a) (at_ s h' tk)) : wpAny (model PG w) A (newList vs) Q E (at_ s h tk) :=
  wpAny_newList (s := at_ s h tk) (k _ _ (none_size h) (kp_push h _) ⟨_, Heap.get?_push_size _ rfl, _, rfl⟩) (by rw [sizeLine_eq]; omega)
theorem newT {vs : List Value} {Q : Value → Shared → Prop} (hsz : vs.length ≤ 1000000) (k : ∀ a h', h.get? a = none → Kp h h' → Is h' a (tup vs) → Q (.ref a) (at_ s h' tk)) : wpAny (model PG w) A (newTuple vs) Q E (at_ s h tk) :=
  wpAny_newTuple (s := at_ s h tk) (k _ _ (none_size h) (kp_push h _) ⟨_, Heap.get?_push_size _ rfl, rfl, _, rfl⟩) (by rw [sizeLine_eq]; omega)
theorem andI {a b : Int} {t u : Tok} {Q : Value → Shared → Prop} (k : ∀ t' tk', Q (.int (Builtin.bitAnd a b) t') (at_ s h tk')) : wpAny (model PG w) A (binaryOp .BitAnd (.int a t) (.int b u)) Q E (at_ s h tk) := and_int (k _ _)
theorem iterT {a : Addr} {its : Array Value} {Q : Value → Shared → Prop} (ht : h.IsTuple a its) (k : ∀ I h', h.get? I = none → Kp h h' → h'.IsTupleIter I a 0 → Q (.ref I) (at_ s h' tk)) : wpAny (model PG w) A (pyIter (.ref a)) Q E (at_ s h tk) :=
  wpAny_pyIter_tuple (s := at_ s h tk) ht (k _ _ (none_size h) (kp_push h _) ⟨_, Heap.get?_push_size _ rfl, rfl, rfl⟩)
theorem iterL {a : Addr} {its : Array Value} {Q : Value → Shared → Prop} (ht : h.IsList a its) (k : ∀ I h', h.get? I = none → Kp h h' → h'.IsListIter I a 0 → Q (.ref I) (at_ s h' tk)) : wpAny (model PG w) A (pyIter (.ref a)) Q E (at_ s h tk) :=
  wpAny_pyIter_list (s := at_ s h tk) ht (k _ _ (none_size h) (kp_push h _) ⟨_, Heap.get?_push_size _ rfl, rfl, rfl⟩)
theorem enumT {a : Addr} {its : Array Value} {Q : Value → Shared → Prop} (ht : h.IsTuple a its)
    (k : ∀ I J h', h.get? I = none → h.get? J = none → I ≠ J → Kp h h' → IsEnum h' I J 0 .none → h'.IsTupleIter J a 0 → Q (.ref I) (at_ s h' tk)) : wpAny (model PG w) A (call (.type "enumerate") [.ref a]) Q E (at_ s h tk) :=
  call_enum_tup (s := at_ s h tk) ht fun h' he hi _ hk => k (h.objs.size + 1) h.objs.size h' (Heap.get?_none_of_le (Nat.le_succ _)) (none_size h) (Nat.succ_ne_self _) hk he hi
theorem enumL {a : Addr} {its : Array Value} {Q : Value → Shared → Prop} (ht : h.IsList a its)
    (k : ∀ I J h', h.get? I = none → h.get? J = none → I ≠ J → Kp h h' → IsEnum h' I J 0 .none → h'.IsListIter J a 0 → Q (.ref I) (at_ s h' tk)) : wpAny (model PG w) A (call (.type "enumerate") [.ref a]) Q E (at_ s h tk) :=
  call_enumerate_list (s := at_ s h tk) ht fun h' he hi _ hk => k (h.objs.size + 1) h.objs.size h' (Heap.get?_none_of_le (Nat.le_succ _)) (none_size h) (Nat.succ_ne_self _) hk he hi
theorem call_append {o elt : Expr} {apos pos : Pos} {Q : Value → Shared → Prop} (h : wpAny (model PG w) A (eval o env) (fun ov s₁ => ∃ D vs, ov = .ref D ∧ Is s₁.heap D (lst vs) ∧
      wpAny (model PG w) A (eval elt env) (fun y s₂ => wpAny (model PG w) A (call (.builtin "list.append") [.ref D, y]) Q E s₂) E s₁) E s)
    (hbase : attributeBase o "append" env (eval o env) = eval o env := by rfl)
    (hfew : ((backTo pos (starEach [elt] env)).all (fun x => !x.1) && (backToKw pos (keywordEach [] env)).all (fun x => x.1.isSome)
      && decide (([elt] : List Expr).length + ([] : List Keyword).length + (if ([] : List Keyword).isEmpty then 0 else 1) < 30)) = true := by rfl)
    (hline : (apos.endLine == pos.line) = true := by rfl)
    (htrees : backTo pos (starEach [elt] env) = [(false, eval elt env)] := by rfl) :
    wpAny (model PG w) A (eval (.Call (.Attribute o "append" apos) [elt] [] pos) env) Q E s :=
  wpAny_Call_append hbase hfew hline htrees (wpAny_mono h (fun ov s₁ q => by
    obtain ⟨D, vs, e, hp, r⟩ := q
    obtain ⟨o, ho, n, rfl⟩ := hp
    exact ⟨D, vs.toArray, e, ⟨_, n, ho, rfl, rfl, rfl⟩, r⟩) fun _ _ x => x)
theorem letGo_tupiter {elts : List Expr} {x1 : Nat} {pos : Pos} {I l T : Addr} {i : Nat} {Q : Unit → Shared → Prop} (hit : s.heap.IsTupleIter I l i) (hQ : Q () s) :
    wpAny (model PG w) A (letOwnedTupleGo (.Tuple elts x1 pos) (.ref I) (.ref T)) Q E s := by
  obtain ⟨o, ho, hc, hd⟩ := hit
  unfold letOwnedTupleGo
  refine wpAny_bind (wpAny_load ho ?_)
  rw [hc, hd]
  show wpAny _ A (if (["enumerate", "zip", "dict_itemiterator", "dict_reverseitemiterator", "odict_iterator", "itertools.zip_longest", "itertools.pairwise"].contains "tuple_iterator" &&
      (#[.ref l, .int i 0] : Array Value)[0]? == some (rawInt T)) = true then _ else _) Q E s
  rw [if_neg (by
    intro h
    rw [show (["enumerate", "zip", "dict_itemiterator", "dict_reverseitemiterator", "odict_iterator", "itertools.zip_longest", "itertools.pairwise"].contains "tuple_iterator") = false from by decide, Bool.false_and] at h
    cases h)]
  exact wpAny_pure hQ
theorem assign2 {x y : Str} {px py pos : Pos} {k : Nat} {T : Addr} {v u : Value} {Q : Unit → Shared → Prop} (hh : A.handled = none) (hT : h.IsTuple T #[v, u]) (S : St h₀ L loc own h) (e : EnvIs env sc L cs)
    (hx : sc.names.lookup x = some .local) (hy : sc.names.lookup y = some .local)
    (k' : ∀ h' tk', St h₀ L (aset y u (aset x v loc)) own h' → Q () (at_ s h' tk')) : wpAny (model PG w) A (assign (.Tuple [.Name x px, .Name y py] k pos) env (.ref T)) Q E (at_ s h tk) := by
  refine wpAny_assign_Tuple (s := at_ s h tk) hh hT rfl rfl fun h₁ hx₁ => ?_
  have S₁ := S.pure (kp_ext hx₁)
  refine wpAny_assignInOrder_more (wpAny_assign_Name (stl (s := s) (tk := tk) S₁ e hx fun h₂ tk₂ S₂ => ?_))
  refine wpAny_assignInOrder_more (wpAny_assign_Name (stl S₂ e hy fun h₃ tk₃ S₃ => ?_))
  exact wpAny_assignInOrder_none (k' _ _ S₃)
theorem exprS {x : Expr} {pos : Pos} {Q : Flow → Shared → Prop} (e : EnvIs env sc L cs) (k : wpAny (model PG w) A (eval x env) (fun v s' => match v with | .ref _ => False | _ => Q .next s') E s)
    (hs : swapsWith x none pos.line env = pure false := by rfl) : wpAny (model PG w) A (exec (.Expr x pos) env) Q E s :=
  wpAny_Expr k (by unfold interactive; rw [e.scope, e.fn]; rfl) hs
theorem stmt_append {x : Str} {elt : Expr} {px pa pc pe : Pos} {a : Addr} {vs : List Value} {Q : Flow → Shared → Prop} (S : St h₀ L loc own h) (e : EnvIs env sc L cs) (hk : sc.names.lookup x = some .local) (hv : loc.lookup x = some (.ref a))
    (i : Nat) (hi : own[i]? = some (a, lst vs)) (hsz : vs.length ≤ 1000000) (v : Value) (hl : ∀ (Q' : Value → Shared → Prop), (∀ tk', Q' v (at_ s h tk')) → wpAny (model PG w) A (eval elt env) Q' E (at_ s h tk))
    (k : ∀ h' tk', St h₀ L loc (own.set i (a, lst (vs ++ [v]))) h' → Q .next (at_ s h' tk'))
    (hfew : ((backTo pc (starEach [elt] env)).all (fun x => !x.1) && (backToKw pc (keywordEach [] env)).all (fun x => x.1.isSome)
      && decide (([elt] : List Expr).length + ([] : List Keyword).length + (if ([] : List Keyword).isEmpty then 0 else 1) < 30)) = true := by rfl)
    (hline : (pa.endLine == pc.line) = true := by rfl) (htrees : backTo pc (starEach [elt] env) = [(false, eval elt env)] := by rfl) (hd : (x == ("__debug__" : Str)) = false := by decide) :
    wpAny (model PG w) A (exec (.Expr (.Call (.Attribute (.Name x px) "append" pa) [elt] [] pc) pe) env) Q E (at_ s h tk) := by
  refine exprS e (call_append (ldl S e hk hv ⟨a, vs, rfl, S.at i hi, ?_⟩ hd) rfl hfew hline htrees)
  refine hl _ fun tk' => ?_
  exact append_own S i hi hsz fun h' S' => k _ _ S'
theorem base_name {x : Str} {p : Pos} {n : Str} {W : Sem Value} : attributeBase (.Name x p) n env W = W := rfl
theorem base_const {c : Const} {i : Nat} {p : Pos} {n : Str} {W : Sem Value} : attributeBase (.Constant c i p) n env W = W := rfl
theorem meth1 {o elt : Expr} {name : Str} {apos pos : Pos} {T id : String} {Q : Value → Shared → Prop} (pa : PlainAttrs T) (slot : Slot T name id) (hty : typeOf (.builtin id) = pure (.type "method_descriptor"))
    (hbase : attributeBase o name env (eval o env) = eval o env) (htrees : starEach [elt] env = [(false, eval elt env)]) (hline : (apos.endLine == pos.line) = true)
    (k : wpAny (model PG w) A (eval o env) (fun ov s₁ => s₁.TypeIs ov T ∧ (∀ a, ov = .ref a → ∃ ob, s₁.heap.get? a = some ob ∧ ob.dict = none) ∧
      wpAny (model PG w) A (eval elt env) (fun y s₂ => wpAny (model PG w) A (call (.builtin id) [ov, y]) Q E s₂) E s₁) E s) :
    wpAny (model PG w) A (eval (.Call (.Attribute o name apos) [elt] [] pos) env) Q E s := by
  refine wpAny_Call_method hbase (by rw [htrees]; rfl) hline pa slot hty (wpAny_mono k (fun ov s₁ q => ⟨q.1, q.2.1, ?_⟩) fun _ _ x => x)
  rw [htrees]
  exact callWith_builtin rfl (evalArgs_plain (spliced_cons (wpAny_mono q.2.2 (fun y s₂ h₂ => spliced_nil h₂) fun _ _ e => e)))
theorem meth0 {o : Expr} {name : Str} {apos pos : Pos} {T id : String} {Q : Value → Shared → Prop} (pa : PlainAttrs T) (slot : Slot T name id) (hty : typeOf (.builtin id) = pure (.type "method_descriptor"))
    (hbase : attributeBase o name env (eval o env) = eval o env) (hline : (apos.endLine == pos.line) = true)
    (k : wpAny (model PG w) A (eval o env) (fun ov s₁ => s₁.TypeIs ov T ∧ (∀ a, ov = .ref a → ∃ ob, s₁.heap.get? a = some ob ∧ ob.dict = none) ∧
      wpAny (model PG w) A (call (.builtin id) [ov]) Q E s₁) E s) :
    wpAny (model PG w) A (eval (.Call (.Attribute o name apos) [] [] pos) env) Q E s := by
  refine wpAny_Call_method hbase rfl hline pa slot hty (wpAny_mono k (fun ov s₁ q => ⟨q.1, q.2.1, ?_⟩) fun _ _ x => x)
  refine callWith_builtin rfl ?_
  show wpAny _ _ (evalArgs _ true [] []) _ _ _
  exact evalArgs_kw_nil rfl (wpAny_evalAll_nil q.2.2)
end
end Mine
end
section -- Comp
open PySem PySem.W PyProof.Rows PySem.Spec PySem.Calls
set_option Elab.async false
set_option maxRecDepth 100000
namespace Mine
noncomputable def closL (cs : List (Str × Addr)) : List (Str × NameKind) → List (Str × Addr) → Option (List (Str × Addr))
  | [], acc => some acc
  | (n, k) :: r, acc => if k == .free then (match cs.lookup n with | some a => closL cs r ((n, a) :: acc) | none => none) else closL cs r acc
theorem closure_of {env : Env} {sc : Scope} {L : Addr} {cs cl : List (Str × Addr)} {scope : Scope} (e : EnvIs env sc L cs) (h : closL cs scope.names [] = some cl) : closureFor scope env = pure cl := by
  have key : ∀ (names : List (Str × NameKind)) (acc : List (Str × Addr)) (out : List (Str × Addr)), closL cs names acc = some out →
      (forIn names acc fun (x : Str × NameKind) (r : List (Str × Addr)) => (match x with
        | (name, kind) => if kind == .free then (do let a ← cellOf env name; pure (ForInStep.yield ((name, a) :: r))) else pure (ForInStep.yield r) : Sem (ForInStep (List (Str × Addr))))) = pure out := by
    intro names
    induction names with
    | nil => intro acc out q; cases q; rw [List.forIn_nil]
    | cons p r ih =>
      intro acc out q
      obtain ⟨n, k⟩ := p
      unfold closL at q
      rw [List.forIn_cons]
      by_cases hk : (k == NameKind.free) = true
      · rw [if_pos hk] at q
        simp only [hk, if_true]
        cases hc : cs.lookup n with
        | none => rw [hc] at q; cases q
        | some a =>
          rw [hc] at q
          have : cellOf env n = pure a := by unfold cellOf; rw [e.cells, hc]
          rw [this]
          exact ih _ _ q
      · rw [if_neg hk] at q
        simp only [hk]
        exact ih _ _ q
  have := key scope.names [] cl h
  unfold closureFor
  refine Eq.trans ?_ (congrArg (fun m => m >>= pure) this)
  rfl
noncomputable def relabelS (scope sc : Scope) : Scope := { scope with names := scope.names.map fun (n, k) => if (k == .free && sc.names.lookup n == some .cell) then (n, .cell) else (n, k) }
theorem relabel_of {env : Env} {sc : Scope} {L : Addr} {cs : List (Str × Addr)} (e : EnvIs env sc L cs) (scope : Scope) : relabel scope env = relabelS scope sc := by
  unfold relabel relabelS Env.kindOf
  rw [e.scope, e.fn]
  simp
section
variable {w : World} {A : Around} {E : Value → Shared → Prop} {s : Shared} {h : Heap} {tk : Nat} {env : Env} {sc : Scope} {L : Addr} {cs : List (Str × Addr)} {h₀ : Heap} {loc : List (Str × Value)} {own : List (Addr × Sort_)}
noncomputable def cellSorts (C : Addr) (scope : Scope) : List (Addr × Sort_) := (cellsFrom (C + 1) scope.names []).map fun p => (p.2, cll none)
theorem cellsFrom_acc : ∀ (names : List (Str × NameKind)) (n : Nat) (acc : List (Str × Addr)), cellsFrom n names acc = cellsFrom n names [] ++ acc := by
  intro names
  induction names with
  | nil => intro n acc; rfl
  | cons p r ih =>
    intro n acc
    obtain ⟨nm, k⟩ := p
    unfold cellsFrom
    split
    · rw [ih (n + 1) ((nm, n) :: acc), ih (n + 1) [(nm, n)], List.append_assoc]; rfl
    · exact ih n acc
theorem compEnv_new {scope : Scope} {cl : List (Str × Addr)} {Q : Env → Shared → Prop} (e : EnvIs env sc L cs) (hk : scope.kind = .function)
    (k : ∀ cenv C h', EnvIs { cenv with scope := relabel scope env } (relabelS scope sc) C (cellsFrom (C + 1) scope.names cl) → cenv.locals = C → Kp h h' → h'.Ns C (fun _ => none) → h.get? C = none →
      (∀ p ∈ cellSorts C scope, Is h' p.1 p.2 ∧ h.get? p.1 = none ∧ p.1 ≠ C) → ((cellSorts C scope).map (·.1)).Nodup → Q cenv (at_ s h' tk)) :
    wpAny (model PG w) A (newFunctionEnv scope env.globals cl [] env.qual none .none (some env)) Q E (at_ s h tk) := by
  simp only [newFunctionEnv, Option.isSome_some, if_true]
  refine wpAny_bind (wpAny_alloc ?_)
  refine wpAny_bind (wpAny_layCells _ (fun name kind cells => by cases hkc : kind == NameKind.cell <;> simp [hkc]) _ _ _ _ ?_)
  have ok := cellsFrom_ok scope.names (h.push { cls := .type "dict", data := .dict #[] }) (h.objs.size + 1) [] ⟨fun _ _ hm => (nomatch hm), List.Pairwise.nil⟩ (by rw [Heap.size_push]; exact Nat.le_refl _)
  rw [Heap.size_push] at ok
  rw [List.forIn_nil]
  refine wpAny_bind (wpAny_pure (wpAny_pure ?_))
  have kp : Kp (h.push { cls := .type "dict", data := .dict #[] }) (pushCells (h.push { cls := .type "dict", data := .dict #[] }) scope.names) := pushCells_keeps _ _
  refine k _ h.objs.size (pushCells (h.push { cls := .type "dict", data := .dict #[] }) scope.names) ⟨relabel_of e scope, rfl, e.globals, e.builtins, ?_, hk⟩ rfl ((kp_push h _).trans kp) ?_ (none_size h) (fun p hp => ?_) ?_
  · show cellsFrom (h.push _).objs.size scope.names cl = _
    rw [Heap.size_push]
  · exact ((Heap.Ns.new h (.type "dict")).keeps kp)
  · obtain ⟨⟨nm, c⟩, hp', rfl⟩ := List.mem_map.mp hp
    have q := ok.empty nm c hp'
    have lt : h.objs.size < c := q.2
    exact ⟨q.1, Heap.get?_none_of_le (Nat.le_of_lt lt), Nat.ne_of_gt lt⟩
  · unfold cellSorts
    rw [List.map_map]
    exact List.pairwise_map.mpr ok.apart
theorem comp_goR {elt iter : Expr} {x : Str} {px pos : Pos} {ifs : List Expr} {scope : Scope} {cl : List (Str × Addr)} {RR : Value → Addr → Result → Shared → Prop} {I : Addr} {fp wr : List Addr} {n : Nat} {P : Nat → Value → Prop} {Sx : Nat → Heap → Prop}
    (W : Walks PG w A I fp wr n P Sx) (e : EnvIs env sc L cs) (hk : scope.kind = .function) {h₁ h₂ : Heap} {tk₂ : Nat} (k₁₂ : Kp h₁ h₂) (hwr : ∀ b ∈ wr, h₁.get? b = none) (nd : wr.Nodup)
    (hex : ∀ i h, Sx i h → ∀ b ∈ wr, ∃ o, h.get? b = some o) (hfp : ∀ b ∈ fp, b ∈ wr ∨ ∃ o, h₁.get? b = some o) (hs : Sx 0 h₂) (hn : n ≤ 1000000)
    (J : Addr → Nat → List Value → List (Addr × Sort_) → Prop) (hj : ∀ C, J C 0 [] (cellSorts C scope))
    (turn : ∀ cenv C D i v ys objs loc h tk fz (Y : Value → Shared → Prop) (N : Shared → Prop) (E' : Value → Shared → Prop), i < n → P i v → J C i ys objs → EnvIs cenv (relabelS scope sc) C (cellsFrom (C + 1) scope.names cl) →
      St h₁ C loc ((D, lst ys) :: (objs ++ fz)) h →
      (∀ y objs' loc' h' tk', J C (i + 1) (ys ++ [y]) objs' → St h₁ C loc' ((D, lst ys) :: (objs' ++ fz)) h' → Y y (at_ s h' tk')) →
      (∀ objs' loc' h' tk', J C (i + 1) ys objs' → St h₁ C loc' ((D, lst ys) :: (objs' ++ fz)) h' → N (at_ s h' tk')) →
      wpAny (model PG w) A (assign (.Name x px) cenv v) (fun _ s₂ => wpAny (model PG w) A (forIn ifs true fun c r => if r = true then do let ok ← isTrue c cenv (eval c cenv); pure (ForInStep.yield ok) else pure (ForInStep.yield r))
        (fun ok s₃ => if ok = true then wpAny (model PG w) A (eval elt cenv) Y E' s₃ else N s₃) E' s₂) E' (at_ s h tk))
    (done : ∀ C D ys objs loc h' tk', J C n ys objs → ys.length ≤ n → h₂.get? D = none → St h₁ C loc ((D, lst ys) :: objs) h' → RR (.ref D) C (.ok .next) (at_ s h' tk')) :
    wpAny (model PG w) A (newList []) (fun acc s₃ => wpAny (model PG w) A (newFunctionEnv scope env.globals cl [] env.qual none .none (some env)) (fun cenv s₄ =>
      codeAny (model PG w) A (.compStart (.ListComp elt [⟨.Name x px, iter, ifs, 0⟩] scope pos) 0 (.ref I) acc { cenv with scope := relabel scope env }) (RR acc cenv.locals) s₄) E s₃) E (at_ s h₂ tk₂) := by
  refine newL (by decide) fun D h₃ hD k₂₃ lD => ?_
  refine compEnv_new e hk fun cenv C h₄ eC hC k₃₄ nsC nC hcs ndc => ?_
  subst hC
  have k₁₃ := k₁₂.trans k₂₃
  have k₁₄ := k₁₃.trans k₃₄
  have none13 : ∀ b, h₃.get? b = none → h₁.get? b = none := fun b q => by
    cases q' : h₁.get? b with
    | none => rfl
    | some o => rw [k₁₃ _ _ q'] at q; cases q
  have none12 : ∀ b, h₂.get? b = none → h₁.get? b = none := fun b q => by
    cases q' : h₁.get? b with
    | none => rfl
    | some o => rw [k₁₂ _ _ q'] at q; cases q
  have S₀ : St h₁ cenv.locals [] ((D, lst []) :: (cellSorts cenv.locals scope ++ (anyAt wr ++ []))) h₄ := by
    have hDs : ∃ o, h₃.get? D = some o := let ⟨o, q, _⟩ := lD; ⟨o, q⟩
    have base : St h₁ cenv.locals [] ([(D, lst [])] ++ cellSorts cenv.locals scope) h₄ := by
      refine ⟨k₁₄, nsC, none13 _ nC, fun p hp => ?_, fun p hp => ?_, ?_⟩
      · rcases List.mem_append.mp hp with hp | hp
        · rw [List.mem_singleton.mp hp]; exact lD.keeps k₃₄
        · exact (hcs p hp).1
      · rcases List.mem_append.mp hp with hp | hp
        · rw [List.mem_singleton.mp hp]
          refine ⟨none12 _ hD, fun z => ?_⟩
          obtain ⟨o, q⟩ := hDs
          have z' : D = cenv.locals := z
          rw [z', nC] at q; cases q
        · exact ⟨none13 _ (hcs p hp).2.1, (hcs p hp).2.2⟩
      · rw [List.map_append]
        refine List.nodup_append.mpr ⟨by simp, ndc, fun a ha b hb q => ?_⟩
        have ha' : a = D := by simpa using ha
        obtain ⟨p, hp, rfl⟩ := List.mem_map.mp hb
        obtain ⟨o, qq⟩ := hDs
        have := (hcs p hp).2.1
        rw [← q, ha', qq] at this; cases this
    have nin : ∀ b ∈ wr, ∀ p ∈ ([(D, lst [])] ++ cellSorts cenv.locals scope), p.1 ≠ b := fun b hb p hp q => by
      obtain ⟨o, qo⟩ := hex 0 h₂ hs b hb
      rcases List.mem_append.mp hp with hp | hp
      · rw [List.mem_singleton.mp hp] at q
        have q' : D = b := q
        rw [← q', hD] at qo; cases qo
      · have := (hcs p hp).2.1
        rw [q, k₂₃ _ _ qo] at this; cases this
    have neC : ∀ b ∈ wr, b ≠ cenv.locals := fun b hb q => by
      obtain ⟨o, qo⟩ := hex 0 h₂ hs b hb
      have := k₂₃ _ _ qo
      rw [q, nC] at this; cases this
    refine ⟨k₁₄, nsC, none13 _ nC, fun p hp => ?_, fun p hp => ?_, ?_⟩
    · rw [← List.singleton_append, ← List.append_assoc, List.append_nil] at hp
      rcases List.mem_append.mp hp with hp | hp
      · exact base.owns p hp
      · obtain ⟨b, hb, rfl⟩ := List.mem_map.mp hp
        obtain ⟨o, qo⟩ := hex 0 h₂ hs b hb
        exact ⟨o, k₃₄ _ _ (k₂₃ _ _ qo), trivial⟩
    · rw [← List.singleton_append, ← List.append_assoc, List.append_nil] at hp
      rcases List.mem_append.mp hp with hp | hp
      · exact base.fresh p hp
      · obtain ⟨b, hb, rfl⟩ := List.mem_map.mp hp
        exact ⟨hwr b hb, neC b hb⟩
    · rw [← List.singleton_append, ← List.append_assoc, List.append_nil, List.map_append, keys_any]
      refine List.nodup_append.mpr ⟨base.apart, nd, fun a ha b hb q => ?_⟩
      obtain ⟨p, hp, rfl⟩ := List.mem_map.mp ha
      exact nin b hb p hp q
  have hs₄ : Sx 0 h₄ := W.frame _ _ _ hs fun b _ o q => k₃₄ _ _ (k₂₃ _ _ q)
  have loop : codeAny (model PG w) A (.compLoop (.ListComp elt [⟨.Name x px, iter, ifs, 0⟩] scope pos) 0 (.ref I) (.ref D) { cenv with scope := relabel scope env }) (RR (.ref D) cenv.locals) (at_ s h₄ tk₂) := by
    refine codeAny_compLoop_tests (fun k s' => ∃ i ys objs loc h tk, k + i = n ∧ s' = at_ s h tk ∧ ys.length ≤ i ∧ J cenv.locals i ys objs ∧ St h₁ cenv.locals loc ((D, lst ys) :: (objs ++ (anyAt wr ++ []))) h ∧ Sx i h) ?_ n
      ⟨0, [], _, _, _, _, rfl, rfl, Nat.le_refl _, hj _, S₀, hs₄⟩
    rintro k s' ⟨i, ys, objs, loc, h, tk, hki, rfl, hlen, hJ, S, hsx⟩
    by_cases hi : i < n
    · refine W.item i _ _ _ hi hsx fun v h₅ tk₅ hP hs₅ hk₅ => ?_
      have S₅ : St h₁ cenv.locals loc (((D, lst ys) :: objs) ++ (anyAt wr ++ [])) h₅ := St.drawn (own := (D, lst ys) :: objs) S hk₅ (hex _ _ hs₅)
      have S₅' := S₅.freeze
      have stay : ∀ {ys' objs' loc' h'}, St h₁ cenv.locals loc' (((D, lst ys') :: objs') ++ (frz h₅ wr ++ [])) h' → Sx (i + 1) h' := by
        intro ys' objs' loc' h' S'
        refine W.frame _ _ _ hs₅ fun b hb o q => ?_
        rcases hfp b hb with q' | ⟨o', q'⟩
        · exact S'.frozen q' q
        · have e1 := S₅.keep b o' q'
          rw [e1] at q; cases q
          exact S'.keep b _ q'
      refine turn _ _ D i v ys objs loc h₅ tk₅ (frz h₅ wr ++ []) _ _ _ hi hP hJ eC S₅' ?_ ?_
      · intro y objs' loc' h' tk' hJ' S'
        refine append_own (own := (D, lst ys) :: (objs' ++ (frz h₅ wr ++ []))) S' 0 rfl (by omega) fun h'' S'' => ?_
        refine ⟨k - 1, by omega, i + 1, ys ++ [y], objs', loc', h'', tk', by omega, rfl, ?_, hJ', St.thaw (own := (D, lst (ys ++ [y])) :: objs') S'', stay S''⟩
        rw [List.length_append]; simp; exact hlen
      · intro objs' loc' h' tk' hJ' S'
        exact ⟨k - 1, by omega, i + 1, ys, objs', loc', h', tk', by omega, rfl, by omega, hJ', St.thaw (own := (D, lst ys) :: objs') S', stay S'⟩
    · have hin : i = n := by omega
      subst hin
      refine W.done _ _ _ hsx fun h₅ tk₅ hk₅ => ?_
      have S₅ : St h₁ cenv.locals loc (((D, lst ys) :: objs) ++ []) h₅ := St.gone (own := (D, lst ys) :: objs) S hk₅
      have S₅ : St h₁ cenv.locals loc ((D, lst ys) :: objs) h₅ := by rw [List.append_nil] at S₅; exact S₅
      exact done cenv.locals D ys objs loc h₅ tk₅ hJ hlen hD S₅
  exact codeAny_compStart_list loop (W.self 0 _ _ _ hs₄ loop)
theorem comp_goC {elt iter : Expr} {x : Str} {px pos : Pos} {ifs : List Expr} {scope : Scope} {cl : List (Str × Addr)} {Q : Value → Shared → Prop} {I : Addr} {fp wr : List Addr} {n : Nat} {P : Nat → Value → Prop} {Sx : Nat → Heap → Prop}
    (W : Walks PG w A I fp wr n P Sx) (e : EnvIs env sc L cs) (hk : scope.kind = .function) {h₁ h₂ : Heap} {tk₂ : Nat} (k₁₂ : Kp h₁ h₂) (hwr : ∀ b ∈ wr, h₁.get? b = none) (nd : wr.Nodup)
    (hex : ∀ i h, Sx i h → ∀ b ∈ wr, ∃ o, h.get? b = some o) (hfp : ∀ b ∈ fp, b ∈ wr ∨ ∃ o, h₁.get? b = some o) (hs : Sx 0 h₂) (hn : n ≤ 1000000)
    (J : Addr → Nat → List Value → List (Addr × Sort_) → Prop) (hj : ∀ C, J C 0 [] (cellSorts C scope))
    (turn : ∀ cenv C D i v ys objs loc h tk fz (Y : Value → Shared → Prop) (N : Shared → Prop) (E' : Value → Shared → Prop), i < n → P i v → J C i ys objs → EnvIs cenv (relabelS scope sc) C (cellsFrom (C + 1) scope.names cl) →
      St h₁ C loc ((D, lst ys) :: (objs ++ fz)) h →
      (∀ y objs' loc' h' tk', J C (i + 1) (ys ++ [y]) objs' → St h₁ C loc' ((D, lst ys) :: (objs' ++ fz)) h' → Y y (at_ s h' tk')) →
      (∀ objs' loc' h' tk', J C (i + 1) ys objs' → St h₁ C loc' ((D, lst ys) :: (objs' ++ fz)) h' → N (at_ s h' tk')) →
      wpAny (model PG w) A (assign (.Name x px) cenv v) (fun _ s₂ => wpAny (model PG w) A (forIn ifs true fun c r => if r = true then do let ok ← isTrue c cenv (eval c cenv); pure (ForInStep.yield ok) else pure (ForInStep.yield r))
        (fun ok s₃ => if ok = true then wpAny (model PG w) A (eval elt cenv) Y E' s₃ else N s₃) E' s₂) E' (at_ s h tk))
    (done : ∀ C D ys objs h' tk', J C n ys objs → ys.length ≤ n → h₂.get? D = none → Kp h₁ h' → Is h' D (lst ys) → (∀ p ∈ objs, Is h' p.1 p.2 ∧ h₁.get? p.1 = none) → (((D, lst ys) :: objs).map (·.1)).Nodup → Q (.ref D) (at_ s h' tk')) :
    wpAny (model PG w) A (newList []) (fun acc s₃ => wpAny (model PG w) A (newFunctionEnv scope env.globals cl [] env.qual none .none (some env)) (fun cenv s₄ =>
      codeAny (model PG w) A (.compStart (.ListComp elt [⟨.Name x px, iter, ifs, 0⟩] scope pos) 0 (.ref I) acc { cenv with scope := relabel scope env }) (compPost (model PG w) A E none Q acc cenv.locals) s₄) E s₃) E (at_ s h₂ tk₂) := by
  refine comp_goR (RR := fun acc C => compPost (model PG w) A E none Q acc C) W e hk k₁₂ hwr nd hex hfp hs hn J hj turn fun C D ys objs loc h' tk' hJ hlen hD S₅ => ?_
  refine ⟨_, S₅.ns, fun h₆ hs₆ => ?_⟩
  have ne : ∀ p ∈ (D, lst ys) :: objs, p.1 ≠ C := fun p hp => (S₅.fresh p hp).2
  have kk : Kp h₁ h₆ := fun b o q => (hs₆.2 b fun z => by
    have := S₅.new
    rw [← z, q] at this; cases this).trans (S₅.keep b o q)
  refine done C D ys objs h₆ tk' hJ hlen hD kk ((S₅.owns _ (.head _)).same hs₆ (ne _ (.head _))) (fun p hp => ?_) S₅.apart
  exact ⟨(S₅.owns p (.tail _ hp)).same hs₆ (ne p (.tail _ hp)), (S₅.fresh p (.tail _ hp)).1⟩
theorem comp_go {elt iter : Expr} {x : Str} {px pos : Pos} {ifs : List Expr} {scope : Scope} {cl : List (Str × Addr)} {Q : Value → Shared → Prop} {I : Addr} {fp wr : List Addr} {n : Nat} {P : Nat → Value → Prop} {Sx : Nat → Heap → Prop}
    (W : Walks PG w A I fp wr n P Sx) (e : EnvIs env sc L cs) (hk : scope.kind = .function) {h₁ h₂ : Heap} {tk₂ : Nat} (k₁₂ : Kp h₁ h₂) (hwr : ∀ b ∈ wr, h₁.get? b = none) (nd : wr.Nodup)
    (hex : ∀ i h, Sx i h → ∀ b ∈ wr, ∃ o, h.get? b = some o) (hfp : ∀ b ∈ fp, b ∈ wr ∨ ∃ o, h₁.get? b = some o) (hs : Sx 0 h₂) (hn : n ≤ 1000000)
    (J : Nat → List Value → List (Addr × Sort_) → Prop) (hj : ∀ C, J 0 [] (cellSorts C scope))
    (turn : ∀ cenv C D i v ys objs loc h tk fz (Y : Value → Shared → Prop) (N : Shared → Prop) (E' : Value → Shared → Prop), i < n → P i v → J i ys objs → EnvIs cenv (relabelS scope sc) C (cellsFrom (C + 1) scope.names cl) →
      St h₁ C loc ((D, lst ys) :: (objs ++ fz)) h →
      (∀ y objs' loc' h' tk', J (i + 1) (ys ++ [y]) objs' → St h₁ C loc' ((D, lst ys) :: (objs' ++ fz)) h' → Y y (at_ s h' tk')) →
      (∀ objs' loc' h' tk', J (i + 1) ys objs' → St h₁ C loc' ((D, lst ys) :: (objs' ++ fz)) h' → N (at_ s h' tk')) →
      wpAny (model PG w) A (assign (.Name x px) cenv v) (fun _ s₂ => wpAny (model PG w) A (forIn ifs true fun c r => if r = true then do let ok ← isTrue c cenv (eval c cenv); pure (ForInStep.yield ok) else pure (ForInStep.yield r))
        (fun ok s₃ => if ok = true then wpAny (model PG w) A (eval elt cenv) Y E' s₃ else N s₃) E' s₂) E' (at_ s h tk))
    (done : ∀ D ys objs h' tk', J n ys objs → ys.length ≤ n → h₂.get? D = none → Kp h₁ h' → Is h' D (lst ys) → (∀ p ∈ objs, Is h' p.1 p.2 ∧ h₁.get? p.1 = none) → (((D, lst ys) :: objs).map (·.1)).Nodup → Q (.ref D) (at_ s h' tk')) :
    wpAny (model PG w) A (newList []) (fun acc s₃ => wpAny (model PG w) A (newFunctionEnv scope env.globals cl [] env.qual none .none (some env)) (fun cenv s₄ =>
      codeAny (model PG w) A (.compStart (.ListComp elt [⟨.Name x px, iter, ifs, 0⟩] scope pos) 0 (.ref I) acc { cenv with scope := relabel scope env }) (compPost (model PG w) A E none Q acc cenv.locals) s₄) E s₃) E (at_ s h₂ tk₂) := by
  exact comp_goC W e hk k₁₂ hwr nd hex hfp hs hn (fun _ => J) hj turn fun _ => done
theorem comp_head {elt iter : Expr} {x : Str} {px pos : Pos} {ifs : List Expr} {scope : Scope} {cl : List (Str × Addr)} {Q : Value → Shared → Prop} (e : EnvIs env sc L cs) (hcl : closL cs scope.names [] = some cl) (hk : scope.kind = .function)
    (hnames : ∀ y ∈ scope.names, y.2 = .local → scope.names.lookup y.1 = some .local)
    (k : wpAny (model PG w) A (eval iter env) (fun xv s₁ => wpAny (model PG w) A (pyIter xv) (fun it s₂ => wpAny (model PG w) A (newList []) (fun acc s₃ => wpAny (model PG w) A (newFunctionEnv scope env.globals cl [] env.qual none .none (some env)) (fun cenv s₄ =>
      codeAny (model PG w) A (.compStart (.ListComp elt [⟨.Name x px, iter, ifs, 0⟩] scope pos) 0 it acc { cenv with scope := relabel scope env }) (compPost (model PG w) A E none Q acc cenv.locals) s₄) E s₃) E s₂) E s₁) E s)
    (hs : ∀ x, foldedSetIterable iter env x = pure x := by intro _; rfl) :
    wpAny (model PG w) A (eval (.ListComp elt [⟨.Name x px, iter, ifs, 0⟩] scope pos) env) Q E s := by
  rw [eval_ListComp]
  exact wpAny_comprehension_free (use := none) rfl hs (closure_of e hcl) hk hnames k
end
end Mine
end
section -- Ops2
open PySem PySem.W PyProof.Rows PySem.Spec PySem.Calls
set_option Elab.async false
set_option maxRecDepth 100000
namespace Mine
section
variable {w : World} {A : Around} {E : Value → Shared → Prop} {s : Shared} {h : Heap} {tk : Nat} {env : Env} {sc : Scope} {L : Addr} {cs : List (Str × Addr)} {h₀ : Heap} {loc : List (Str × Value)} {own : List (Addr × Sort_)}
variable {a b : Int} {t u : Tok} {Q : Value → Shared → Prop}
theorem powI (h0 : 0 ≤ b) (h1 : b ≤ 1000000) (ha : a.natAbs < 2 ^ 64) (k : ∀ t' tk', Q (.int (a ^ b.toNat) t') (at_ s h tk')) : wpAny (model PG w) A (binaryOp .Pow (.int a t) (.int b u)) Q E (at_ s h tk) := pow_int_small h0 h1 ha (k _ _)
theorem fdivI (h0 : b ≠ 0) (h1 : b.natAbs < 1073741824) (k : ∀ t' tk', Q (.int (a.fdiv b) t') (at_ s h tk')) : wpAny (model PG w) A (binaryOp .FloorDiv (.int a t) (.int b u)) Q E (at_ s h tk) :=
  floordiv_int h0 (k _ _) (Or.inl (PyProof.noPylong_small h1))
theorem fmodI (h0 : b ≠ 0) (k : ∀ t' tk', Q (.int (a.fmod b) t') (at_ s h tk')) : wpAny (model PG w) A (binaryOp .Mod (.int a t) (.int b u)) Q E (at_ s h tk) := PyProof.Rows.mod_int h0 (k _ _)
theorem addI (k : ∀ t' tk', Q (.int (a + b) t') (at_ s h tk')) : wpAny (model PG w) A (binaryOp .Add (.int a t) (.int b u)) Q E (at_ s h tk) := PyProof.Rows.add_int (k _ _)
theorem subI (k : ∀ t' tk', Q (.int (a - b) t') (at_ s h tk')) : wpAny (model PG w) A (binaryOp .Sub (.int a t) (.int b u)) Q E (at_ s h tk) := PyProof.Rows.sub_int (k _ _)
theorem iaddI (k : ∀ t' tk', Q (.int (a + b) t') (at_ s h tk')) : wpAny (model PG w) A (inplaceOp .Add (.int a t) (.int b u)) Q E (at_ s h tk) := iadd_int (k _ _)
theorem eqI (k : Q (.bool (a == b)) s) : wpAny (model PG w) A (compareOp .Eq (.int a t) (.int b u)) Q E s := PyProof.Rows.eq_int k
theorem range1 {n : Int} (k : ∀ r h' tk', h.get? r = none → Kp h h' → (∃ t u v, IsRange h' r 0 n 1 t u v) → Q (.ref r) (at_ s h' tk')) : wpAny (model PG w) A (call (.type "range") [.int n t]) Q E (at_ s h tk) :=
  call_range_1 (s := at_ s h tk) (k _ _ _ (none_size h) (kp_push h _) ⟨_, _, _, IsRange.new ..⟩)
theorem range2 {m n : Int} (k : ∀ r h' tk', h.get? r = none → Kp h h' → (∃ t u v, IsRange h' r m n 1 t u v) → Q (.ref r) (at_ s h' tk')) : wpAny (model PG w) A (call (.type "range") [.int m t, .int n u]) Q E (at_ s h tk) :=
  call_range_2 (s := at_ s h tk) (k _ _ _ (none_size h) (kp_push h _) ⟨_, _, _, IsRange.new ..⟩)
theorem iterR {r : Addr} {m n : Int} (hr : ∃ t u v, IsRange h r m n 1 t u v) (hm : 0 ≤ m) (hmn : m ≤ n) (hn : n < 1000000)
    (k : ∀ I h', h.get? I = none → Kp h h' → IsRangeIter h' I m (n - m) 1 → Q (.ref I) (at_ s h' tk)) : wpAny (model PG w) A (pyIter (.ref r)) Q E (at_ s h tk) := by
  obtain ⟨t, u, v, hr⟩ := hr
  refine wpAny_pyIter_range (s := at_ s h tk) hr (small_one (by omega) (by omega) (by omega) (by omega)) ?_
  have e : Builtin.Range.rangeSize m n 1 = n - m := by rw [rangeSize_one]; split <;> omega
  rw [e]
  exact k _ _ (none_size h) (kp_push h _) (Heap.get?_push_size _ rfl)
theorem walksR (hA : A.handled = none) (I : Addr) (m : Int) (n : Nat) : Walks PG w A I [I] [I] n (fun i v => ∃ t, v = .int (m + i) t) (fun i h => IsRangeIter h I (m + (i : Nat)) ((n : Int) - (i : Nat)) 1) := by
  have := Walks.range (prog := PG) (w := w) hA I m 1 n
  simpa using this
theorem sub_list {value slice : Expr} {l : Addr} {vs : List Value} {i : Int} {v : Value} (hl : h.IsList l vs.toArray) (h0 : 0 ≤ i) (h1 : i < 1000000) (hx : vs[i.toNat]? = some v) (k : Q v (at_ s h tk))
    (hs : subscripted slice false (.ref l) (.int i t) = operate [.ref l, .int i t] (getItem (.ref l) (.int i t)) := by rfl) :
    wpAny (model PG w) A (subscriptTail value slice (.ref l) (.int i t)) Q E (at_ s h tk) :=
  tail_any (s := at_ s h tk) (T := "list") hl.typeIs slot_list_getitem.lookup (wpAny_getItem_list (s := at_ s h tk) hl h0 (by omega) (by simpa using hx) k) hs
theorem kp_sorted (h : Heap) (vs : List Value) (out : Array Value) : Kp h (sortedAll h vs out) := by
  intro b o q
  have lt := Heap.lt_size q
  unfold sortedAll sortedHeap
  have z1 : (h.push (seqObj "list" #[] 0)).objs.size = h.objs.size + 1 := size_push' h _
  have ne1 : b ≠ h.objs.size := Nat.ne_of_lt lt
  have ne2 : b ≠ h.objs.size + 1 := Nat.ne_of_lt (Nat.lt_succ_of_lt lt)
  rw [(Heap.SameBut.update ..).2 b ne2]
  refine Heap.get?_push_of_some _ (Heap.get?_push_of_some _ ?_)
  rw [(Heap.SameBut.update ..).2 b ne2]
  refine Heap.get?_push_of_some _ ?_
  rw [(Heap.SameBut.update ..).2 b ne1]
  exact Heap.get?_push_of_some _ q
theorem sorted_at (h : Heap) (vs : List Value) (out : Array Value) : Is (sortedAll h vs out) (h.objs.size + 1) (lst out.toList) := by
  unfold sortedAll sortedHeap
  have z1 : ((h.push (seqObj "list" #[] 0)).update h.objs.size (Obj.mapSeq (· ++ vs.toArray))).objs.size = h.objs.size + 1 := by rw [Heap.size_update, size_push']
  generalize hg : (h.push (seqObj "list" #[] 0)).update h.objs.size (Obj.mapSeq (· ++ vs.toArray)) = g at z1
  rw [← z1]
  have e0 : (g.push (seqObj "list" vs.toArray 0)).get? g.objs.size = some (seqObj "list" vs.toArray 0) := Heap.get?_push_size _ rfl
  have e1 := get?_update_seq e0 (fun _ => (#[] : Array Value))
  have e2 := Heap.get?_push_of_some (seqObj "list" #[] 0) (Heap.get?_push_of_some (seqObj "tuple" vs.toArray 0) e1)
  have e3 := get?_update_seq e2 (fun _ => out)
  generalize (if (out.size == (#[] : Array Value).size) = true then _ else _ : Nat) = N at e3
  exact ⟨_, e3, N, by rw [Array.toArray_toList]⟩
theorem sortedT {l : Addr} {vs : List Value} {ss : List Str} (hl : h.IsList l vs.toArray) (hS : StrsAre vs ss) (h64 : vs.length < 64)
    (k : ∀ D out ss' h', h.get? D = none → Kp h h' → Is h' D (lst out) → StrsAre out ss' → ss'.Perm ss → sortedS ss' = true → Q (.ref D) (at_ s h' tk)) : wpAny (model PG w) A (call (.builtin "sorted") [.ref l]) Q E (at_ s h tk) :=
  sorted_strs (s := at_ s h tk) hl hS h64 fun out ss' h1 h2 h3 => k (h.objs.size + 1) out.toList ss' _ (Heap.get?_none_of_le (Nat.le_succ _)) (kp_sorted h vs out) (sorted_at h vs out) h1 h2 h3
theorem sp_nil {pos : Pos} {Q : List Value → Shared → Prop} (k : Q [] s) : wpAny (model PG w) A (spliced (backTo pos (starEach [] env))) Q E s := spliced_nil k
theorem sp_str {x : Str} {i : Nat} {p pos : Pos} {rest : List Expr} {Q : List Value → Shared → Prop} (k : ∀ t tk', wpAny (model PG w) A (spliced (backTo pos (starEach rest env))) (fun vs s₂ => Q (.str x t :: vs) s₂) E (at_ s h tk')) :
    wpAny (model PG w) A (spliced (backTo pos (starEach (.Constant (.str x) i p :: rest) env))) Q E (at_ s h tk) := spliced_cons (cstr (x1 := i) (pos := p) k)
theorem sp_int {x : Int} {i : Nat} {p pos : Pos} {rest : List Expr} {Q : List Value → Shared → Prop} (k : ∀ t tk', wpAny (model PG w) A (spliced (backTo pos (starEach rest env))) (fun vs s₂ => Q (.int x t :: vs) s₂) E (at_ s h tk')) :
    wpAny (model PG w) A (spliced (backTo pos (starEach (.Constant (.int x) i p :: rest) env))) Q E (at_ s h tk) := spliced_cons (cint (x1 := i) (pos := p) k)
theorem sp_name {x : Str} {p pos : Pos} {rest : List Expr} {Q : List Value → Shared → Prop} (k : wpAny (model PG w) A (eval (.Name x p) env) (fun v s₁ => wpAny (model PG w) A (spliced (backTo pos (starEach rest env))) (fun vs s₂ => Q (v :: vs) s₂) E s₁) E s) :
    wpAny (model PG w) A (spliced (backTo pos (starEach (.Name x p :: rest) env))) Q E s := spliced_cons k
theorem sp_comp {x : Expr} {g : List Comprehension} {c : Scope} {p pos : Pos} {rest : List Expr} {Q : List Value → Shared → Prop} (k : wpAny (model PG w) A (eval (.ListComp x g c p) env) (fun v s₁ => wpAny (model PG w) A (spliced (backTo pos (starEach rest env))) (fun vs s₂ => Q (v :: vs) s₂) E s₁) E s) :
    wpAny (model PG w) A (spliced (backTo pos (starEach (.ListComp x g c p :: rest) env))) Q E s := spliced_cons k
theorem sp_call {f : Expr} {g : List Expr} {c : List Keyword} {p pos : Pos} {rest : List Expr} {Q : List Value → Shared → Prop} (k : wpAny (model PG w) A (eval (.Call f g c p) env) (fun v s₁ => wpAny (model PG w) A (spliced (backTo pos (starEach rest env))) (fun vs s₂ => Q (v :: vs) s₂) E s₁) E s) :
    wpAny (model PG w) A (spliced (backTo pos (starEach (.Call f g c p :: rest) env))) Q E s := spliced_cons k
theorem sp_sub {f g : Expr} {p pos : Pos} {rest : List Expr} {Q : List Value → Shared → Prop} (k : wpAny (model PG w) A (eval (.Subscript f g p) env) (fun v s₁ => wpAny (model PG w) A (spliced (backTo pos (starEach rest env))) (fun vs s₂ => Q (v :: vs) s₂) E s₁) E s) :
    wpAny (model PG w) A (spliced (backTo pos (starEach (.Subscript f g p :: rest) env))) Q E s := spliced_cons k
theorem sp_bin {f g : Expr} {o : Operator} {p pos : Pos} {rest : List Expr} {Q : List Value → Shared → Prop} (k : wpAny (model PG w) A (eval (.BinOp f o g p) env) (fun v s₁ => wpAny (model PG w) A (spliced (backTo pos (starEach rest env))) (fun vs s₂ => Q (v :: vs) s₂) E s₁) E s) :
    wpAny (model PG w) A (spliced (backTo pos (starEach (.BinOp f o g p :: rest) env))) Q E s := spliced_cons k
theorem sp_list {f : List Expr} {p pos : Pos} {rest : List Expr} {Q : List Value → Shared → Prop} (k : wpAny (model PG w) A (eval (.List f p) env) (fun v s₁ => wpAny (model PG w) A (spliced (backTo pos (starEach rest env))) (fun vs s₂ => Q (v :: vs) s₂) E s₁) E s) :
    wpAny (model PG w) A (spliced (backTo pos (starEach (.List f p :: rest) env))) Q E s := spliced_cons k
theorem sp_lam {a : Arguments} {b : Expr} {c : Scope} {p pos : Pos} {rest : List Expr} {Q : List Value → Shared → Prop} (k : wpAny (model PG w) A (eval (.Lambda a b c p) env) (fun v s₁ => wpAny (model PG w) A (spliced (backTo pos (starEach rest env))) (fun vs s₂ => Q (v :: vs) s₂) E s₁) E s) :
    wpAny (model PG w) A (spliced (backTo pos (starEach (.Lambda a b c p :: rest) env))) Q E s := spliced_cons k
noncomputable def plainE : Expr → Bool
  | .Starred .. => false
  | _ => true
theorem starEach_plain : ∀ (es : List Expr), es.all plainE = true → (starEach es env) = es.map fun x => (false, eval x env)
  | [], _ => rfl
  | x :: r, q => by
    rw [List.all_cons, Bool.and_eq_true] at q
    have ih := starEach_plain r q.2
    have q1 := q.1
    cases x <;> first | (cases q1; done) | (show (false, _) :: starEach r env = _; rw [ih]; rfl)
theorem back_plain (pos : Pos) (es : List Expr) (q : es.all plainE = true) : (backTo pos (starEach es env)).any (·.1) = false := by
  rw [starEach_plain es q]
  unfold backTo
  rw [List.map_map, List.any_map]
  simp
theorem callW_b {pos : Pos} {id : String} {x : Expr} {rest : List Expr} {Q : Value → Shared → Prop} (q : (x :: rest).all plainE = true) (k : wpAny (model PG w) A (spliced (backTo pos (starEach (x :: rest) env))) (fun vs s₁ => wpAny (model PG w) A (call (.builtin id) vs) Q E s₁) E s) :
    wpAny (model PG w) A (callWith pos (.builtin id) [] (backTo pos (starEach (x :: rest) env)) []) Q E s := by
  refine callWith_builtin (back_plain pos _ q) ?_
  rw [starEach_plain _ q] at k ⊢
  exact evalArgs_plain k
theorem callW_t {pos : Pos} {T : String} {x : Expr} {rest : List Expr} {Q : Value → Shared → Prop} (q : (x :: rest).all plainE = true) (k : wpAny (model PG w) A (spliced (backTo pos (starEach (x :: rest) env))) (fun vs s₁ => wpAny (model PG w) A (call (.type T) vs) Q E s₁) E s) :
    wpAny (model PG w) A (callWith pos (.type T) [] (backTo pos (starEach (x :: rest) env)) []) Q E s := by
  refine PySem.callWith_type (back_plain pos _ q) ?_
  rw [starEach_plain _ q] at k ⊢
  exact evalArgs_plain k
theorem callW_f {pos : Pos} {f : Addr} {x : Expr} {rest : List Expr} {Q : Value → Shared → Prop} (q : (x :: rest).all plainE = true) (hf : keepIn (KF w.params) (.ref f) = true)
    (k : wpAny (model PG w) A (spliced (backTo pos (starEach (x :: rest) env))) (fun vs s₁ => Gr w s₁.heap ∧ wpAny (model PG w) A (call (.ref f) vs) Q E s₁) E s) (h₀ : Heap) (G : Gr w h₀) :
    wpAny (model PG w) A (callWith pos (.ref f) [] (backTo pos (starEach (x :: rest) env)) []) Q E s := by
  refine callWith_K G.k hf (wpAny_mono k (fun vs s₁ y => ⟨y.1.k, y.2⟩) fun _ _ y => y) ?_ (back_plain pos _ ?_)
  · have e1 := starEach_plain (env := env) (x :: rest) q
    rw [List.all_cons, Bool.and_eq_true] at q
    rw [e1, starEach_plain (env := env) rest q.2]; rfl
  · rw [List.all_cons, Bool.and_eq_true] at q; exact q.2
section
variable {x : Str} {pos : Pos} {v : Value} {c : Addr} {Q : Value → Shared → Prop}
theorem lo (S : St h₀ L loc own h) (e : EnvIs env sc L cs) (hv : loc.lookup x = some v) (k : Q v (at_ s h tk)) (hk : sc.names.lookup x = some .local := by with_unfolding_all rfl) (hd : (x == ("__debug__" : Str)) = false := by decide) :
    wpAny (model PG w) A (eval (.Name x pos) env) Q E (at_ s h tk) := ldl S e hk hv k hd
theorem lo0 (S : St h₀ L loc own h) (e : EnvIs env sc L cs) (k : Q v (at_ s h tk)) (hv : loc.lookup x = some v := by with_unfolding_all rfl) (hk : sc.names.lookup x = some .local := by with_unfolding_all rfl) (hd : (x == ("__debug__" : Str)) = false := by decide) :
    wpAny (model PG w) A (eval (.Name x pos) env) Q E (at_ s h tk) := ldl S e hk hv k hd
theorem ce (S : St h₀ L loc own h) (e : EnvIs env sc L cs) (i : Nat) (k : Q v (at_ s h tk)) (hi : own[i]? = some (c, cll (some v)) := by with_unfolding_all rfl) (hk : sc.names.lookup x = some .cell := by with_unfolding_all rfl) (hc : cs.lookup x = some c := by with_unfolding_all rfl) (hd : (x == ("__debug__" : Str)) = false := by decide) :
    wpAny (model PG w) A (eval (.Name x pos) env) Q E (at_ s h tk) := ldc e hk hc (S.at i hi) k hd
theorem ceI (e : EnvIs env sc L cs) (hv : Is h c (cll (some v))) (k : Q v (at_ s h tk)) (hk : sc.names.lookup x = some .cell := by with_unfolding_all rfl) (hc : cs.lookup x = some c := by with_unfolding_all rfl) (hd : (x == ("__debug__" : Str)) = false := by decide) :
    wpAny (model PG w) A (eval (.Name x pos) env) Q E (at_ s h tk) := ldc e hk hc hv k hd
theorem gl (v : Value) (G : Gr w h) (e : EnvIs env sc L cs) (k : Q v (at_ s h tk)) (hk : sc.names.lookup x = some .globalImplicit := by with_unfolding_all rfl) (hv : nsIn (KF w.params) mainGlobals x = some (some v) := by with_unfolding_all rfl) (hd : (x == ("__debug__" : Str)) = false := by decide) :
    wpAny (model PG w) A (eval (.Name x pos) env) Q E (at_ s h tk) := ldg G e hk hv k hd
theorem bl (v : Value) (G : Gr w h) (e : EnvIs env sc L cs) (k : Q v (at_ s h tk)) (hk : sc.names.lookup x = some .globalImplicit := by with_unfolding_all rfl) (hv : nsIn (KF w.params) mainGlobals x = some none := by with_unfolding_all rfl)
    (hb : bootBuiltins x = some v := by with_unfolding_all rfl) (hn : x ≠ "__name__" := by decide) (hd : (x == ("__debug__" : Str)) = false := by decide) :
    wpAny (model PG w) A (eval (.Name x pos) env) Q E (at_ s h tk) := ldb v G e hk hv hb hn k hd
theorem slo {Q : Unit → Shared → Prop} (S : St h₀ L loc own h) (e : EnvIs env sc L cs) (k : ∀ h' tk', St h₀ L (aset x v loc) own h' → Q () (at_ s h' tk')) (hk : sc.names.lookup x = some .local := by with_unfolding_all rfl) :
    wpAny (model PG w) A (storeName env x v) Q E (at_ s h tk) := stl S e hk k
theorem sce {v₀ : Option Value} {Q : Unit → Shared → Prop} (S : St h₀ L loc own h) (e : EnvIs env sc L cs) (i : Nat) (k : ∀ h', St h₀ L loc (own.set i (c, cll (some v))) h' → Q () (at_ s h' tk)) (hi : own[i]? = some (c, cll v₀) := by with_unfolding_all rfl)
    (hk : sc.names.lookup x = some .cell := by with_unfolding_all rfl) (hc : cs.lookup x = some c := by with_unfolding_all rfl) :
    wpAny (model PG w) A (storeName env x v) Q E (at_ s h tk) := stc S e hk hc i hi k
end
end
end Mine
end
section -- Words
open PySem PySem.W PyProof.Rows PySem.Spec PySem.Calls
set_option Elab.async false
set_option maxRecDepth 100000
namespace Mine
theorem strs_len {vs : List Value} {ys : List Str} (h : StrsAre vs ys) : vs.length = ys.length := by
  induction h with
  | nil => rfl
  | cons _ _ _ ih => simp [ih]
theorem strs_snoc {vs : List Value} {ys : List Str} (h : StrsAre vs ys) (y : Str) (t : Tok) : StrsAre (vs ++ [.str y t]) (ys ++ [y]) := by
  induction h with
  | nil => exact .cons y t .nil
  | cons a b _ ih => exact .cons a b ih
theorem strs_at {vs : List Value} {ys : List Str} (h : StrsAre vs ys) : ∀ {i : Nat} {y : Str}, ys[i]? = some y → ∃ t, vs[i]? = some (.str y t) := by
  induction h with
  | nil => intro i y q; simp at q
  | cons a b _ ih =>
    intro i y q
    cases i with
    | zero => simp at q; subst q; exact ⟨b, rfl⟩
    | succ i => simpa using ih (by simpa using q)
theorem asl {x y : Str} {v u : Value} {loc : List (Str × Value)} (h : loc.lookup y = some u) (ne : y ≠ x) : (aset x v loc).lookup y = some u := by rw [aset_lookup, if_neg ne]; exact h
theorem asl_self {x : Str} {v : Value} {loc : List (Str × Value)} : (aset x v loc).lookup x = some v := by rw [aset_lookup, if_pos rfl]
noncomputable abbrev has (loc : List (Str × Value)) (x : String) (v : Value) : Prop := loc.lookup (Str.ofString x) = some v
theorem none_of_kp {h h' : Heap} {a : Addr} (k : Kp h h') (q : h'.get? a = none) : h.get? a = none := by
  cases e : h.get? a with
  | none => rfl
  | some o => rw [k _ _ e] at q; cases q
theorem refs_at {l : List Addr} {i : Nat} {x : Value} (h : (l.map Value.ref).toArray[i]? = some x) : ∃ a, l[i]? = some a ∧ x = .ref a := by
  have q : (l.map Value.ref)[i]? = some x := by simpa using h
  rw [List.getElem?_map] at q
  obtain ⟨a, ha, e⟩ := Option.map_eq_some_iff.mp q
  exact ⟨a, ha, e.symm⟩
noncomputable def sle (a b : Str) : Prop := a.cps.toList ≤ b.cps.toList
theorem sle_iff (a b : Str) : sle a b ↔ ltCps b.cps.toList a.cps.toList = false := by
  rw [ltCps_eq, decide_eq_false_iff_not]; exact Iff.rfl
theorem sle_refl (a : Str) : sle a a := List.le_refl _
theorem sle_trans {a b c : Str} (x : sle a b) (y : sle b c) : sle a c := List.le_trans x y
theorem str_ext {a b : Str} (h : a.cps.toList = b.cps.toList) : a = b := by
  cases a; cases b; congr; exact Array.toList_inj.mp h
theorem sle_antisymm {a b : Str} (x : sle a b) (y : sle b a) : a = b := str_ext (List.le_antisymm x y)
theorem sle_total (a b : Str) : sle a b ∨ sle b a := List.le_total _ _
theorem rising_all : ∀ {p : Str} {l : List Str}, risingS p l = true → (∀ y ∈ l, sle p y) ∧ l.Pairwise sle
  | _, [], _ => ⟨fun _ hy => (nomatch hy), .nil⟩
  | p, x :: r, h => by
    have h' : (!ltCps x.cps.toList p.cps.toList && risingS x r) = true := h
    rw [Bool.and_eq_true] at h'
    have hpx : sle p x := (sle_iff p x).mpr (by simpa using h'.1)
    obtain ⟨ha, hp⟩ := rising_all h'.2
    refine ⟨fun y hy => ?_, .cons ha hp⟩
    rcases List.mem_cons.mp hy with rfl | hy
    · exact hpx
    · exact sle_trans hpx (ha y hy)
theorem sorted_pairwise {l : List Str} (h : sortedS l = true) : l.Pairwise sle := by
  cases l with
  | nil => exact .nil
  | cons x r => exact .cons (rising_all h).1 (rising_all h).2
theorem sorted_uniq : ∀ {a b : List Str}, a.Perm b → a.Pairwise sle → b.Pairwise sle → a = b
  | [], _, p, _, _ => p.nil_eq
  | x :: r, b, p, ha, hb => by
    cases b with
    | nil => exact absurd p.length_eq (by simp)
    | cons y t =>
      have hx : x ∈ y :: t := p.mem_iff.mp (.head _)
      have hy : y ∈ x :: r := p.mem_iff.mpr (.head _)
      have e : x = y := by
        rcases List.mem_cons.mp hx with h | h
        · exact h
        · rcases List.mem_cons.mp hy with h' | h'
          · exact h'.symm
          · exact sle_antisymm ((List.pairwise_cons.mp ha).1 y h') ((List.pairwise_cons.mp hb).1 x h)
      subst e
      rw [sorted_uniq (List.Perm.cons_inv p) (List.pairwise_cons.mp ha).2 (List.pairwise_cons.mp hb).2]
noncomputable def words : List Str := ["others x", "others w", "others r", "group x", "group w", "group r", "user x", "user w", "user r", "others t", "group s", "user s"]
noncomputable def W : List Str := ["group r", "group s", "group w", "group x", "others r", "others t", "others w", "others x", "user r", "user s", "user w", "user x"]
noncomputable def bitOn (mode : Int) (k : Nat) : Bool := (mode.fdiv (2 ^ k)).fmod 2 == 1
noncomputable def onW (mode : Int) (x : Str) : Bool := bitOn mode (words.idxOf x)
noncomputable def SW (mode : Int) : List Str := W.filter (onW mode)
theorem words_perm : words.Perm W := by decide
theorem W_sorted : W.Pairwise sle := sorted_pairwise (by decide +kernel)
theorem W_nodup : W.Nodup := by decide
theorem words_filter (mode : Int) : words.filter (onW mode) = ((List.range 12).filter (bitOn mode)).map (fun k => words.getD k "") := by
  have h1 : words = (List.range 12).map (fun k => words.getD k "") := by decide
  have h2 : ∀ k ∈ List.range 12, words.idxOf (words.getD k "") = k := by decide
  conv => lhs; rw [h1]
  rw [List.filter_map]
  refine congrArg (List.map _) (List.filter_congr ?_)
  intro k hk
  show bitOn mode (words.idxOf (words.getD k "")) = bitOn mode k
  rw [h2 k hk]
theorem SW_sorted (mode : Int) : (SW mode).Pairwise sle := W_sorted.sublist List.filter_sublist
theorem SW_nodup (mode : Int) : (SW mode).Nodup := W_nodup.sublist List.filter_sublist
theorem SW_of_sorted {mode : Int} {l : List Str} (h : sortedS l = true) (p : l.Perm (words.filter (onW mode))) : l = SW mode :=
  sorted_uniq (p.trans (words_perm.filter _)) (sorted_pairwise h) (SW_sorted mode)
theorem SW_length (mode : Int) : (SW mode).length ≤ 12 := List.length_filter_le _ _
end Mine
end
section -- Ops3
open PySem PySem.W PyProof.Rows PySem.Spec PySem.Calls
set_option Elab.async false
set_option maxRecDepth 100000
namespace Mine
section
variable {w : World} {A : Around} {E : Value → Shared → Prop} {s : Shared} {h : Heap} {tk : Nat} {env : Env} {sc : Scope} {L : Addr} {cs : List (Str × Addr)} {h₀ : Heap} {loc : List (Str × Value)} {own : List (Addr × Sort_)}
variable {t u : Tok} {Q : Value → Shared → Prop} {x y : Str}
theorem addS (hsz : x.length + y.length ≤ 16777216) (k : ∀ t' tk', Q (.str (x ++ y) t') (at_ s h tk')) : wpAny (model PG w) A (binaryOp .Add (.str x t) (.str y u)) Q E (at_ s h tk) :=
  PyProof.Rows.add_str (s := at_ s h tk) (fun t' tk' => k t' tk') (by rw [sizeLine_eq]; exact hsz)
theorem gtI {a b : Int} (k : Q (.bool (decide (b < a))) s) : wpAny (model PG w) A (compareOp .Gt (.int a t) (.int b u)) Q E s := PyProof.Rows.gt_int k
theorem unpack2L {l : Addr} {v₁ v₂ : Value} {Q : List Value → Shared → Prop} (hA : A.handled = none) (hl : h.IsList l #[v₁, v₂]) (k : ∀ h', Kp h h' → Q [v₁, v₂] (at_ s h' tk)) :
    wpAny (model PG w) A (unpackItems (.ref l) 2 none) Q E (at_ s h tk) := by
  unfold unpackItems
  refine wpAny_bind ?_
  unfold notIterableAtAll
  refine wpAny_bind (wpAny_specialOf (s := at_ s h tk) hl.typeIs F.slot_list_iter.lookup ?_)
  refine wpAny_pure ?_
  simp only [Bool.false_eq_true, if_false]
  refine wpAny_bind (wpAny_holding (iterL hl fun I h₁ nI k₁ hI => ?_))
  have hne : l ≠ I := fun z => by
    obtain ⟨o, q, _⟩ := hl
    rw [z, nI] at q; cases q
  have hl₁ : h₁.IsList l #[v₁, v₂] := let ⟨o, q, r⟩ := hl; ⟨o, k₁ _ _ q, r⟩
  refine wpAny_bind (wpAny_holding ?_)
  show wpAny _ _ (pyNext (.ref I) >>= _) _ _ _
  refine wpAny_bind (wpAny_pyNext_list_item (s := at_ s h₁ tk) (x := v₁) hI hl₁ rfl fun h₂ hI₂ hs₂ => ?_)
  have hs₂ : Heap.SameBut I h₁ h₂ := hs₂
  have hl₂ : h₂.IsList l #[v₁, v₂] := let ⟨o, q, r⟩ := hl₁; ⟨o, (hs₂.2 l hne).trans q, r⟩
  refine wpAny_bind (wpAny_holding ?_)
  show wpAny _ _ (pyNext (.ref I) >>= _) _ _ _
  refine wpAny_bind (wpAny_pyNext_list_item (s := at_ s h₂ tk) (x := v₂) hI₂ hl₂ rfl fun h₃ hI₃ hs₃ => ?_)
  have hs₃ : Heap.SameBut I h₂ h₃ := hs₃
  have hl₃ : h₃.IsList l #[v₁, v₂] := let ⟨o, q, r⟩ := hl₂; ⟨o, (hs₃.2 l hne).trans q, r⟩
  refine wpAny_bind (wpAny_holding ?_)
  show wpAny _ _ (pure []) _ _ _
  refine wpAny_pure (wpAny_pure (wpAny_pure ?_))
  rw [if_neg (show ¬ [v₁, v₂].length < 2 from Nat.lt_irrefl 2)]
  refine wpAny_bind (wpAny_holding (wpAny_pyNext_list_end (s := at_ s h₃ tk) hA hI₃ hl₃ rfl fun h₄ he₄ => ?_))
  simp only [Option.isSome_none, Bool.false_eq_true, if_false]
  refine wpAny_pure (k h₄ fun b o q => ?_)
  have bI : b ≠ I := fun z => by rw [z, nI] at q; cases q
  exact he₄ b o bI ((hs₃.2 b bI).trans ((hs₂.2 b bI).trans (k₁ b o q)))
theorem assign2L {x y : Str} {px py pos : Pos} {n : Nat} {l : Addr} {v u : Value} {Q : Unit → Shared → Prop} (hh : A.handled = none) (hT : h.IsList l #[v, u]) (S : St h₀ L loc own h) (e : EnvIs env sc L cs)
    (k : ∀ h' tk', St h₀ L (aset y u (aset x v loc)) own h' → Q () (at_ s h' tk')) (hx : sc.names.lookup x = some .local := by with_unfolding_all rfl) (hy : sc.names.lookup y = some .local := by with_unfolding_all rfl) :
    wpAny (model PG w) A (assign (.Tuple [.Name x px, .Name y py] n pos) env (.ref l)) Q E (at_ s h tk) := by
  rw [arm_assign_Tuple]
  refine wpAny_bind (wpAny_standAt ?_)
  unfold unpack
  refine wpAny_bind (wpAny_holding (unpack2L hh hT fun h₁ k₁ => ?_))
  refine wpAny_assignInOrder_more (wpAny_assign_Name (stl (S.pure k₁) e hx fun h₂ tk₂ S₂ => ?_))
  refine wpAny_assignInOrder_more (wpAny_assign_Name (stl S₂ e hy fun h₃ tk₃ S₃ => ?_))
  exact wpAny_assignInOrder_none (k _ _ S₃)
theorem letGo_listiter {elts : List Expr} {x1 : Nat} {pos : Pos} {I l T : Addr} {i : Nat} {Q : Unit → Shared → Prop} (hit : s.heap.IsListIter I l i) (hQ : Q () s) :
    wpAny (model PG w) A (letOwnedTupleGo (.Tuple elts x1 pos) (.ref I) (.ref T)) Q E s := wpAny_letOwnedTupleGo_listiter hit hQ
noncomputable def dct (kvs : List (Int × Value)) (w : World) (h : Heap) (a : Addr) : Prop := h.DictOf (intKind PG w) a kvs
theorem get2I {d : Addr} {kvs : List (Int × Value)} {a b : Expr} {pos : Pos} {hx : Heap} (_ : dct kvs w hx d) (hd : (d == sysModules) = false) (hp : ([a, b].all plainE) = true)
    (k : wpAny (model PG w) A (eval a env) (fun key s₁ => wpAny (model PG w) A (eval b env) (fun df s₂ => ∃ i t h' tk', key = .int i t ∧ s₂ = at_ s h' tk' ∧ dct kvs w h' d ∧ ∀ tk'', Q ((valueAt kvs i).getD df) (at_ s h' tk'')) E s₁) E s) :
    wpAny (model PG w) A (callWith pos (.builtin "dict.get") [.ref d] (backTo pos (starEach [a, b] env)) []) Q E s := by
  have e : backTo pos (starEach [a, b] env) = [(false, eval a env), (false, eval b env)] := by rw [starEach_plain _ hp]; rfl
  rw [e]
  refine wpAny_dict_get2 (knd := intKind PG w) hd (wpAny_mono k (fun key s₁ q => wpAny_mono q (fun df s₂ r => ?_) fun _ _ x => x) fun _ _ x => x)
  obtain ⟨i, t, h', tk', rfl, rfl, hm, hq⟩ := r
  refine ⟨i, valueAt kvs, ?_, hm.mapOf, hq _⟩
  show Value.isInt i (.int i t) = true
  simp [Value.isInt]
theorem Gr.size (G : Gr w h) : 135 < h.objs.size := Heap.lt_size (G.k 135 _ rfl)
theorem pairs_nil {pos : Pos} {Q : List (Value × Value) → Shared → Prop} (k : Q [] s) : wpAny (model PG w) A (evalPairs (pairTrees [] [] env pos)) Q E s := evalPairs_nil k
theorem pairs_is {i : Int} {x : Str} {a c : Nat} {p q pos : Pos} {ks : List (Option Expr)} {vs : List Expr} {Q : List (Value × Value) → Shared → Prop}
    (k : ∀ t₁ t₂ tk', wpAny (model PG w) A (evalPairs (pairTrees ks vs env pos)) (fun l s₂ => Q ((.int i t₁, .str x t₂) :: l) s₂) E (at_ s h tk')) :
    wpAny (model PG w) A (evalPairs (pairTrees (some (.Constant (.int i) a p) :: ks) (.Constant (.str x) c q :: vs) env pos)) Q E (at_ s h tk) := by
  show wpAny _ _ (evalPairs ((eval (.Constant (.int i) a p) env, do let x ← eval (.Constant (.str x) c q) env; standAt pos; pure x) :: pairTrees ks vs env pos)) _ _ _
  refine evalPairs_cons (cint fun t₁ k₁ => wpAny_bind (cstr fun t₂ k₂ => wpAny_bind (wpAny_standAt (wpAny_pure (k t₁ t₂ k₂)))))
theorem dictI {keys : List (Option Expr)} {values : List Expr} {pos : Pos} (hall : keys.all (·.isSome) = true) (hl : keys.length = values.length) (h0 : keys ≠ []) (hlen : keys.length ≤ 15)
    (k : wpAny (model PG w) A (evalPairs (pairTrees keys values env pos)) (fun vs s₁ => ∃ kvs tk₁, s₁ = at_ s (h.push { cls := .type "dict", data := .dict #[] }) tk₁ ∧ Carries (intKind PG w) vs kvs ∧
      ∀ d h' tk', h.get? d = none → h.objs.size ≤ d → Kp h h' → dct (merged [] kvs) w h' d → Q (.ref d) (at_ s h' tk')) E (at_ s (h.push { cls := .type "dict", data := .dict #[] }) tk)) :
    wpAny (model PG w) A (eval (.Dict keys values pos) env) Q E (at_ s h tk) := by
  refine wpAny_Dict_walk (s := at_ s h tk) (knd := intKind PG w) hall hl h0 hlen (wpAny_mono k (fun vs s₁ q => ?_) fun _ _ x => x)
  obtain ⟨kvs, tk₁, rfl, hc, hk⟩ := q
  refine ⟨kvs, hc, Heap.DictOf.new _, fun h' hd hs => hk _ _ _ (none_size h) (Nat.le_refl _) ?_ hd⟩
  have hs' : Heap.SameBut h.objs.size (h.push { cls := .type "dict", data := .dict #[] }) h' := hs
  exact fun b o q => (hs'.2 b (Nat.ne_of_lt (Heap.lt_size q))).trans (Heap.get?_push_of_some _ q)
theorem dct.typeIs {kvs : List (Int × Value)} {d : Addr} (x : dct kvs w h d) : (at_ s h tk).TypeIs (.ref d) "dict" ∧ ∀ a, Value.ref d = Value.ref a → ∃ ob, (at_ s h tk).heap.get? a = some ob ∧ ob.dict = none := by
  obtain ⟨o, es, ep, ho, hx, _⟩ := x
  refine ⟨⟨o, ho, ?_⟩, fun a q => ?_⟩
  · exact hx.1
  · cases q; exact ⟨o, ho, hx.2.1⟩
theorem dct.keeps {kvs : List (Int × Value)} {d : Addr} {h' : Heap} (x : dct kvs w h d) (k : Kp h h') : dct kvs w h' d := by
  obtain ⟨o, es, ep, ho, r⟩ := x
  exact ⟨o, es, ep, k _ _ ho, r⟩
theorem join_str {b : Bool} {t₁ t₂ : Sem Value} {x₁ x₂ : Str} {s₀ : Shared} (h₁ : b = true → ∀ Q' : Value → Shared → Prop, (∀ t' tk', Q' (.str x₁ t') (at_ s h tk')) → wpAny (model PG w) A t₁ Q' E s₀)
    (h₂ : b = false → ∀ Q' : Value → Shared → Prop, (∀ t' tk', Q' (.str x₂ t') (at_ s h tk')) → wpAny (model PG w) A t₂ Q' E s₀) (k : ∀ t' tk', Q (.str (if b = true then x₁ else x₂) t') (at_ s h tk')) :
    if b = true then wpAny (model PG w) A t₁ Q E s₀ else wpAny (model PG w) A t₂ Q E s₀ := by
  cases b with
  | true => exact h₁ rfl Q k
  | false => exact h₂ rfl Q k
theorem upperS (hfit : Builtin.Str.tooLong (Txt.upper x).length = false) (k : ∀ t' tk', Q (.str (Txt.upper x) t') (at_ s h tk')) : wpAny (model PG w) A (call (.builtin "str.upper") [.str x t]) Q E (at_ s h tk) := SC.upper hfit (k _ _)
theorem lowerS (hfit : Builtin.Str.tooLong (Txt.lower x).length = false) (k : ∀ t' tk', Q (.str (Txt.lower x) t') (at_ s h tk')) : wpAny (model PG w) A (call (.builtin "str.lower") [.str x t]) Q E (at_ s h tk) := SC.lower hfit (k _ _)
end
end Mine
end
section -- Ops4
open PySem PySem.W PyProof.Rows PySem.Spec PySem.Calls
set_option Elab.async false
set_option maxRecDepth 100000
namespace Mine
section
variable {w : World} {A : Around} {E : Value → Shared → Prop} {s : Shared} {h : Heap} {tk : Nat} {env : Env} {sc : Scope} {L : Addr} {cs : List (Str × Addr)} {h₀ : Heap} {loc : List (Str × Value)} {own : List (Addr × Sort_)}
variable {t u : Tok} {Q : Value → Shared → Prop} {x y : Str}
theorem addL {l b : Addr} {vs ws : List Value} (hl : Is h l (lst vs)) (hb : Is h b (lst ws)) (hsz : vs.length + ws.length ≤ 1000000)
    (k : ∀ D h', h.get? D = none → Kp h h' → Is h' D (lst (vs ++ ws)) → Q (.ref D) (at_ s h' tk)) : wpAny (model PG w) A (binaryOp .Add (.ref l) (.ref b)) Q E (at_ s h tk) := by
  obtain ⟨_, e1, n1, rfl⟩ := hl
  obtain ⟨_, e2, n2, rfl⟩ := hb
  refine P.add_list (s := at_ s h tk) e1 e2 ?_ (by rw [List.size_toArray, List.size_toArray, sizeLine_eq]; omega)
  exact k _ _ (none_size h) (kp_push h _) ⟨_, Heap.get?_push_size _ rfl, 0, by simp⟩
theorem neS (k : Q (.bool (x.cps.toList != y.cps.toList)) s) : wpAny (model PG w) A (compareOp .NotEq (.str x t) (.str y u)) Q E s := P.ne_str k
theorem eqS (k : Q (.bool (x.cps.toList == y.cps.toList)) s) : wpAny (model PG w) A (compareOp .Eq (.str x t) (.str y u)) Q E s := P.eq_str k
theorem inS (k : Q (.bool (Txt.contains x y)) s) : wpAny (model PG w) A (compareOp .In (.str y u) (.str x t)) Q E s := P.in_str k
theorem mulI {a b : Int} (hm : IntMulOk a b) (k : ∀ t' tk', Q (.int (a * b) t') (at_ s h tk')) : wpAny (model PG w) A (binaryOp .Mult (.int a t) (.int b u)) Q E (at_ s h tk) := PyProof.Rows.mul_int (k _ _) hm
theorem mulOk {a b : Int} (ha : a.natAbs < 1000) (hb : b.natAbs < 1000) : IntMulOk a b :=
  IntMulOk.of_le (m := 10) (n := 10) (intBits_le_iff.mpr (by omega)) (intBits_le_iff.mpr (by omega)) (by decide)
theorem subS {value slice : Expr} {i : Int} {c : Nat} (h0 : 0 ≤ i) (h1 : i < 1000000) (hx : x.cps[i.toNat]? = some c) (k : ∀ t' tk', Q (.str ⟨#[c]⟩ t') (at_ s h tk'))
    (hs : subscripted slice false (.str x t) (.int i u) = operate [.str x t, .int i u] (getItem (.str x t) (.int i u)) := by rfl) :
    wpAny (model PG w) A (subscriptTail value slice (.str x t) (.int i u)) Q E (at_ s h tk) := by
  refine tail_any (s := at_ s h tk) (T := "str") (typeIs_str _ _ _) F.slot_str_getitem.lookup (P.getItem_str (by simp; omega) ?_ (k _ _)) hs
  have lt : i.toNat < x.cps.size := by
    obtain ⟨q, _⟩ := Array.getElem?_eq_some_iff.mp hx; exact q
  have e : seqIndex? i x.length = some i.toNat := by
    unfold seqIndex?
    have : (x.length : Int) = x.cps.size := rfl
    simp only [this]
    split <;> simp_all <;> omega
  rw [e]; exact hx
end
end Mine
end
section -- Ops5
open PySem PySem.W PyProof.Rows PySem.Spec PySem.Calls
set_option Elab.async false
set_option maxRecDepth 100000
namespace Mine
section
variable {w : World} {A : Around} {E : Value → Shared → Prop} {s : Shared} {h : Heap} {tk : Nat} {env : Env} {sc : Scope} {L : Addr} {cs : List (Str × Addr)} {h₀ : Heap} {loc : List (Str × Value)} {own : List (Addr × Sort_)}
theorem comp_strs {elt iter : Expr} {x : Str} {px pos : Pos} {ifs : List Expr} {scope : Scope} {cl : List (Str × Addr)} {Q : Value → Shared → Prop} {I : Addr} {fp wr : List Addr} {n : Nat} {P : Nat → Value → Prop} {Sx : Nat → Heap → Prop}
    (W : Walks PG w A I fp wr n P Sx) (e : EnvIs env sc L cs) {h₁ h₂ : Heap} {tk₂ : Nat} (k₁₂ : Kp h₁ h₂) (hwr : ∀ b ∈ wr, h₁.get? b = none) (nd : wr.Nodup)
    (hex : ∀ i h, Sx i h → ∀ b ∈ wr, ∃ o, h.get? b = some o) (hfp : ∀ b ∈ fp, b ∈ wr ∨ ∃ o, h₁.get? b = some o) (hs : Sx 0 h₂) (hn : n ≤ 1000000)
    (xs : List Str) (hxs : xs.length = n) (hP : ∀ i v, P i v → ∃ y t, xs[i]? = some y ∧ v = .str y t) (p : Str → Bool) (g : Str → Str)
    (turn : ∀ cenv C y t loc own h tk (Y : Value → Shared → Prop) (N : Shared → Prop) (E' : Value → Shared → Prop), y ∈ xs → EnvIs cenv (relabelS scope sc) C (cellsFrom (C + 1) scope.names cl) → St h₁ C loc own h → loc.lookup x = some (.str y t) →
      (p y = true → ∀ t' tk', Y (.str (g y) t') (at_ s h tk')) → (p y = false → ∀ tk', N (at_ s h tk')) →
      wpAny (model PG w) A (forIn ifs true fun c r => if r = true then do let ok ← isTrue c cenv (eval c cenv); pure (ForInStep.yield ok) else pure (ForInStep.yield r))
        (fun ok s₃ => if ok = true then wpAny (model PG w) A (eval elt cenv) Y E' s₃ else N s₃) E' (at_ s h tk))
    (done : ∀ D vs h' tk', StrsAre vs ((xs.filter p).map g) → h₂.get? D = none → Kp h₁ h' → Is h' D (lst vs) → Q (.ref D) (at_ s h' tk'))
    (hk : scope.kind = .function := by with_unfolding_all rfl) (hcell : ∀ C, cellSorts C scope = [] := by intro C; with_unfolding_all rfl) (hx : (relabelS scope sc).names.lookup x = some .local := by with_unfolding_all rfl) :
    wpAny (model PG w) A (newList []) (fun acc s₃ => wpAny (model PG w) A (newFunctionEnv scope env.globals cl [] env.qual none .none (some env)) (fun cenv s₄ =>
      codeAny (model PG w) A (.compStart (.ListComp elt [⟨.Name x px, iter, ifs, 0⟩] scope pos) 0 (.ref I) acc { cenv with scope := relabel scope env }) (compPost (model PG w) A E none Q acc cenv.locals) s₄) E s₃) E (at_ s h₂ tk₂) := by
  refine comp_go W e hk k₁₂ hwr nd hex hfp hs hn (fun i ys objs => objs = [] ∧ StrsAre ys (((xs.take i).filter p).map g)) ?_ ?_ ?_
  · intro C; exact ⟨hcell C, .nil⟩
  · rintro cenv C D i v ys objs loc h₆ tk₆ fz Y N E' hi hv ⟨rfl, hys⟩ eC S₆ hY hN
    obtain ⟨y, t, hy, rfl⟩ := hP i v hv
    refine wpAny_assign_Name (slo S₆ eC (fun h₇ tk₇ S₇ => ?_) hx)
    have step : ((xs.take (i + 1)).filter p).map g = ((xs.take i).filter p).map g ++ (if p y then [g y] else []) := by
      rw [List.take_add_one, hy, List.filter_append, List.map_append]
      congr 1
      by_cases q : p y = true <;> simp [q]
    refine turn cenv C y t _ _ h₇ tk₇ Y N E' (List.mem_of_getElem? hy) eC S₇ asl_self (fun q t' tk' => ?_) (fun q tk' => ?_)
    · refine hY _ [] _ _ _ ⟨rfl, ?_⟩ S₇
      rw [step, if_pos q]; exact strs_snoc hys _ _
    · refine hN [] _ _ _ ⟨rfl, ?_⟩ S₇
      rw [step, q, if_neg Bool.false_ne_true, List.append_nil]; exact hys
  · rintro D ys objs h' tk' ⟨rfl, hys⟩ hlen nD kk lD _ _
    rw [← hxs, List.take_length] at hys
    exact done D ys h' tk' hys nD kk lD
noncomputable def chars (x : Str) : List Str := x.cps.toList.map fun c => ⟨#[c]⟩
theorem iterS {x : Str} {t : Tok} {Q : Value → Shared → Prop} (ha : x.cps.all (· < 128) = true) (k : ∀ I h', h.get? I = none → Kp h h' → h'.IsStrIter I "str_ascii_iterator" x t 0 → Q (.ref I) (at_ s h' tk)) : wpAny (model PG w) A (pyIter (.str x t)) Q E (at_ s h tk) :=
  wpAny_pyIter_ascii (s := at_ s h tk) ha (k _ _ (none_size h) (kp_push h _) ⟨_, Heap.get?_push_size _ rfl, rfl, rfl⟩)
theorem comp_text {elt iter : Expr} {z : Str} {t : Tok} {x : Str} {px pos : Pos} {ifs : List Expr} {scope : Scope} {cl : List (Str × Addr)} {Q : Value → Shared → Prop} 
    (hA : A.handled = none) (e : EnvIs env sc L cs) (ha : z.cps.all (· < 128) = true) (hn : z.cps.size ≤ 1000000) (p : Str → Bool) (g : Str → Str)
    (turn : ∀ cenv C y t loc own h₂ tk (Y : Value → Shared → Prop) (N : Shared → Prop) (E' : Value → Shared → Prop), y ∈ chars z → EnvIs cenv (relabelS scope sc) C (cellsFrom (C + 1) scope.names cl) → St h C loc own h₂ → loc.lookup x = some (.str y t) →
      (p y = true → ∀ t' tk', Y (.str (g y) t') (at_ s h₂ tk')) → (p y = false → ∀ tk', N (at_ s h₂ tk')) →
      wpAny (model PG w) A (forIn ifs true fun c r => if r = true then do let ok ← isTrue c cenv (eval c cenv); pure (ForInStep.yield ok) else pure (ForInStep.yield r))
        (fun ok s₃ => if ok = true then wpAny (model PG w) A (eval elt cenv) Y E' s₃ else N s₃) E' (at_ s h₂ tk))
    (done : ∀ D vs h' tk', StrsAre vs (((chars z).filter p).map g) → h.get? D = none → Kp h h' → Is h' D (lst vs) → Q (.ref D) (at_ s h' tk'))
    (hk : scope.kind = .function := by with_unfolding_all rfl) (hcell : ∀ C, cellSorts C scope = [] := by intro C; with_unfolding_all rfl) (hx : (relabelS scope sc).names.lookup x = some .local := by with_unfolding_all rfl) :
    wpAny (model PG w) A (pyIter (.str z t)) (fun it s₂ => wpAny (model PG w) A (newList []) (fun acc s₃ => wpAny (model PG w) A (newFunctionEnv scope env.globals cl [] env.qual none .none (some env)) (fun cenv s₄ =>
      codeAny (model PG w) A (.compStart (.ListComp elt [⟨.Name x px, iter, ifs, 0⟩] scope pos) 0 it acc { cenv with scope := relabel scope env }) (compPost (model PG w) A E none Q acc cenv.locals) s₄) E s₃) E s₂) E (at_ s h tk) := by
  refine iterS ha fun I h₂ nI k₂ hI => ?_
  refine comp_strs (Walks.strAscii hA I z t) e k₂ ?_ ?_ ?_ ?_ hI hn (chars z) ?_ ?_ p g turn (fun D vs h' tk' hv nD kk lD => done D vs h' tk' hv (none_of_kp k₂ nD) kk lD) hk hcell hx
  · intro b hb; rw [List.mem_singleton.mp hb]; exact nI
  · simp
  · rintro i h' ⟨o, q, _⟩ b hb; rw [List.mem_singleton.mp hb]; exact ⟨o, q⟩
  · intro b hb; exact .inl hb
  · simp [chars]
  · rintro i v ⟨c, u, hc, rfl⟩
    refine ⟨_, u, ?_, rfl⟩
    unfold chars
    rw [List.getElem?_map, Array.getElem?_toList, hc]; rfl
theorem slcS {value lower upper : Expr} {p pos : Pos} {x : Str} {Q : Value → Shared → Prop} {l u : Int} (a b : Nat) (hl : l = a) (hu : u = b) (hab : a ≤ b) (hb : b ≤ x.length) (h2 : b - a < x.length) (h3 : b ≤ 1000000)
    (k : wpAny (model PG w) A (eval value env) (fun o s₁ => wpAny (model PG w) A (eval lower env) (fun vl s₂ => wpAny (model PG w) A (eval upper env) (fun vu s₃ =>
      ∃ t t₁ t₂ h' tk', o = .str x t ∧ vl = .int l t₁ ∧ vu = .int u t₂ ∧ s₃ = at_ s h' tk' ∧ ∀ t' h'' tk'', Kp h' h'' → Q (.str ⟨((x.cps.toList.drop a).take (b - a)).toArray⟩ t') (at_ s h'' tk'')) E s₂) E s₁) E (at_ s h tk))
    (ht : ∀ o r, letTemporaryGo value o r = pure () := by intro _ _; rfl) :
    wpAny (model PG w) A (eval (.Subscript value (.Slice (some lower) (some upper) none p) pos) env) Q E (at_ s h tk) := by
  refine wpAny_Subscript_str_slice (wpAny_mono k (fun o s₁ y => wpAny_evalPart_some (wpAny_mono y (fun vl s₂ z => wpAny_evalPart_some (wpAny_mono z (fun vu s₃ q => ?_) fun _ _ e => e)) fun _ _ e => e)) fun _ _ e => e) ht
  obtain ⟨t, t₁, t₂, h', tk', rfl, rfl, rfl, rfl, hq⟩ := q
  refine ⟨x, t, some (l, t₁), some (u, t₂), rfl, rfl, rfl, ?_⟩
  subst hl hu
  have e1 : slicePicked x (some ((a : Int), t₁)) (some ((b : Int), t₂)) none = (List.range (b - a)).map (fun k => a + k) := StrLaws.strSliceIndices_plain hab hb
  have e2 := StrLaws.sliced_plain x hab hb
  rw [StrLaws.strSliceIndices_plain hab hb] at e2
  unfold sliceMade
  rw [e1, e2, if_neg]
  · refine ⟨?_, hq _ _ _ (kp_push _ _)⟩
    show ((x.cps.toList.drop a).take (b - a)).toArray.size ≤ _
    rw [sizeLine_eq, List.size_toArray, List.length_take]
    omega
  · rw [List.length_map, List.length_range]
    intro z
    rw [Bool.and_eq_true] at z
    have := eq_of_beq z.2
    omega
end
end Mine
end
section -- Lread
open PySem PySem.W PyProof.Rows PySem.Spec PySem.Calls
set_option Elab.async false
set_option maxRecDepth 100000
set_option maxHeartbeats 1000000
set_option pp.maxSteps 3000
namespace Mine
variable {w : World} {A : Around} {E : Value → Shared → Prop} {s : Shared} {h : Heap} {tk : Nat}
noncomputable def whos : List Str := ["user", "group", "others"]
noncomputable def rw1 (x : Str) (k : Nat) : List Str := ((chars ⟨((x.cps.toList.drop (3 * k + 1)).take 2).toArray⟩).filter fun y => y.cps.toList != (Str.ofString "-").cps.toList).map fun y => whos.getD k "" ++ " " ++ y
noncomputable def lastC (x : Str) (k : Nat) : Str := ⟨#[x.cps.getD (3 * k + 3) 0]⟩
noncomputable def rw2 (x : Str) (k : Nat) : List Str := ((chars (lastC x k)).filter fun y => Txt.contains "xst" y).map fun _ => whos.getD k "" ++ " x"
noncomputable def rw3 (x : Str) (k : Nat) : List Str := ((chars (lastC x k)).filter fun y => Txt.contains "sStT" y).map fun y => whos.getD k "" ++ " " ++ Txt.lower y
noncomputable def readL (x : Str) : Nat → List Str
  | 0 => []
  | k + 1 => readL x k ++ rw1 x k ++ rw2 x k ++ rw3 x k
theorem chars_len (x : Str) : (chars x).length = x.cps.size := by simp [chars]
theorem readL_len (x : Str) : ∀ k, (readL x k).length ≤ 4 * k
  | 0 => Nat.le_refl _
  | k + 1 => by
    have h1 : (rw1 x k).length ≤ 2 := by
      unfold rw1; rw [List.length_map]
      refine Nat.le_trans (List.length_filter_le _ _) ?_
      rw [chars_len]; simp; omega
    have h2 : (rw2 x k).length ≤ 1 := by
      unfold rw2; rw [List.length_map]
      refine Nat.le_trans (List.length_filter_le _ _) ?_
      rw [chars_len]; simp [lastC]
    have h3 : (rw3 x k).length ≤ 1 := by
      unfold rw3; rw [List.length_map]
      refine Nat.le_trans (List.length_filter_le _ _) ?_
      rw [chars_len]; simp [lastC]
    have := readL_len x k
    simp only [readL, List.length_append]
    omega
theorem strs_append {vs us : List Value} {ys zs : List Str} (h : StrsAre vs ys) (h' : StrsAre us zs) : StrsAre (vs ++ us) (ys ++ zs) := by
  induction h with
  | nil => exact h'
  | cons a b _ ih => exact .cons a b ih
noncomputable def rdJ (x : Str) (t : Tok) (c : Addr) (i : Nat) (loc : List (Str × Value)) (own : List (Addr × Sort_)) : Prop :=
  has loc "signs" (.str x t) ∧ ∃ r vs cv, has loc "rights" (.ref r) ∧ own = [(r, lst vs), (c, cll cv)] ∧ StrsAre vs (readL x i)
theorem ct_read {n : Nat} {x : Str} {t : Tok} {Q : Value → Shared → Prop} (G : Gr w h) (R : Rm (n + 1) A) (hA : A.handled = none) (hx : x.cps.size = 10) (ha : x.cps.all (· < 128) = true)
    (hlow : ∀ c ∈ x.cps.toList, Builtin.Str.tooLong (Txt.lower ⟨#[c]⟩).length = false ∧ (Txt.lower ⟨#[c]⟩).length ≤ 1000)
    (k : ∀ D vs ss' h' tk', h.get? D = none → Kp h h' → Is h' D (lst vs) → StrsAre vs ss' → ss'.Perm (readL x 3) → sortedS ss' = true → Q (.ref D) (at_ s h' tk')) :
    wpAny (model PG w) A (call (.ref 103) [.str x t]) Q E (at_ s h tk) := by
  refine enterC (binds := [("signs", .str x t)]) G R rfl rfl rfl rfl rfl (by decide) rfl rfl rfl rfl ?_
  intro env L h₁ tk₁ Qf Ef hQ e S G₁ R₁
  dsimp only at e S ⊢
  have hA' : (A.deeper env).handled = none := hA
  have S : St h L [("signs", .str x t)] [(L + 1, cll none)] h₁ := S
  replace e : EnvIs env _ L [("who", L + 1)] := e
  with_reducible refine wpAny_execs_cons (wpAny_Assign_Name ?_ rfl)
  with_reducible refine List_ (sp_nil (newL ?_ fun r h₂ nr k₂ lr => ?_))
  · exact Nat.zero_le _
  with_reducible refine slo (S.more k₂ nr lr) e fun h₃ tk₃ S₃ => ?_
  dsimp only
  have S₃ : St h L (aset "rights" (.ref r) [("signs", .str x t)]) [(r, lst []), (L + 1, cll none)] h₃ := S₃
  have G₃ := G.keeps S₃.keep
  with_reducible refine wpAny_execs_cons (wpAny_For (wpAny_Call_NameR (bl (.type "enumerate") G₃ e (callW_t ?_ (sp_list ?_)))) ?_)
  · rfl
  · with_reducible refine List_ (sp_str fun t0 k0 => sp_str fun t1 k1 => sp_str fun t2 k2 => sp_nil (newL ?_ fun D h₄ nD k₄ lD => sp_nil ?_))
    · exact (by decide : 3 ≤ 1000000)
    refine enumL lD.list fun I J h₅ nI nJ hIJ k₅ he hit => ?_
    refine wpAny_pyIter_enum (s := at_ s h₅ k2) he ?_
    have hDJ : D ≠ J := fun z => by
      obtain ⟨o, q, _⟩ := lD
      rw [z, nJ] at q; cases q
    have hID : I ≠ D := fun z => by
      obtain ⟨o, q, _⟩ := lD
      rw [← z, nI] at q; cases q
    have W₅ := WalksT.enumerateD (Draws.list (prog := PG) (w := w) (A := (A.deeper env).in1) hA J D hDJ [Value.str "user" t0, .str "group" t1, .str "others" t2].toArray) I hIJ (by simp [hIJ, hID]) (by simp)
    have S₄ := S₃.more k₄ nD lD
    have S₄' : St h L (aset "rights" (.ref r) [("signs", .str x t)]) ([(r, lst []), (L + 1, cll none)] ++ frz h₄ [D]) h₄ := by
      refine St.perm (own := (D, fun o => h₄.get? D = some o) :: [(r, lst []), (L + 1, cll none)]) ?_ List.perm_append_comm
      refine S₄.retell rfl fun p hp => ?_
      rcases List.mem_cons.mp hp with rfl | hp
      · obtain ⟨o, q, _⟩ := lD; exact ⟨o, q, q⟩
      · exact S₄.owns p (.tail _ hp)
    have ex2 : ∀ (h' : Heap) (_ : ∃ o, h'.get? I = some o) (_ : ∃ o, h'.get? J = some o), ∀ b ∈ [I, J], ∃ o, h'.get? b = some o := by
      intro h' x y b hb
      rcases List.mem_cons.mp hb with rfl | hb
      · exact x
      · rw [List.mem_singleton.mp hb]; exact y
    have S₅ := St.addAny (wr := [I, J]) S₄' k₅ (by simp [nI, nJ]) (ex2 h₅ ⟨_, he⟩ (let ⟨o, q, _⟩ := hit; ⟨o, q⟩)) (by simp [hIJ])
    refine codeAny_mono (for_walksT (s := s) (R := fun r s' => ∃ h' tk' loc D vs, r = .ok .next ∧ s' = at_ s h' tk' ∧ St h L loc [(D, lst vs)] h' ∧ has loc "rights" (.ref D) ∧ StrsAre vs (readL x 3)) W₅ (frz h₄ [D]) (rdJ x t (L + 1)) ?_ ?_ ?_ ?_ ?_ S₅ ⟨⟨_, he⟩, hit, ?_⟩ ?_) ?_
    · rintro i h' ⟨⟨_, a⟩, ⟨o, b, _⟩, _⟩
      exact ex2 h' ⟨_, a⟩ ⟨o, b⟩
    · rintro i T h' ⟨⟨_, a⟩, ⟨⟨o, b, _⟩, _⟩, _⟩
      exact ex2 h' ⟨_, a⟩ ⟨o, b⟩
    · intro b hb
      simp only [List.mem_cons, List.not_mem_nil, or_false] at hb
      rcases hb with rfl | rfl | rfl
      · exact .inl (.head _)
      · exact .inl (.tail _ (.head _))
      · obtain ⟨o, q, _⟩ := lD
        exact .inr (.inr ⟨h₄, .head _, o, q, trivial⟩)
    · rintro i T vals loc own h' tk' fz' Qb E' hi ⟨ti, y, hy, rfl⟩ hT ⟨hsg, r, vs, cv, hr, rfl, hv⟩ S' hnext hcont hbrk hret
      have hi3 : i < 3 := hi
      obtain ⟨tw, hyw⟩ : ∃ tw, y = .str (whos.getD i "") tw := by
        match i, hi3 with
        | 0, _ => cases hy; exact ⟨_, rfl⟩
        | 1, _ => cases hy; exact ⟨_, rfl⟩
        | 2, _ => cases hy; exact ⟨_, rfl⟩
      subst hyw
      have wl : (whos.getD i "").length ≤ 6 := by
        match i, hi3 with
        | 0, _ => decide
        | 1, _ => decide
        | 2, _ => decide
      refine wpAny_assign_Tuple (s := at_ s h' tk') hA' hT rfl rfl fun h₆ hx₆ => ?_
      have S₆ := S'.pure (kp_ext hx₆)
      refine wpAny_assignInOrder_more (wpAny_assign_Name (stl (s := s) (tk := tk') S₆ e rfl fun h₇ tk₇ S₇ => ?_))
      refine wpAny_assignInOrder_more (wpAny_assign_Name (sce (c := L + 1) (v₀ := cv) S₇ e 1 fun h₈ S₈ => ?_))
      refine wpAny_assignInOrder_none ?_
      have S₈ : St h L (aset "k" (.int i ti) loc) ([(r, lst vs), (L + 1, cll (some (.str (whos.getD i "") tw)))] ++ (fz' ++ frz h₄ [D])) h₈ := S₈
      have hsg₈ := asl (x := "k") (v := .int i ti) hsg (by decide)
      have hr₈ := asl (x := "k") (v := .int i ti) hr (by decide)
      have hk₈ := asl_self (x := "k") (v := .int i ti) (loc := loc)
      generalize aset "k" (.int i ti) loc = loc₈ at S₈ hsg₈ hr₈ hk₈
      have mo : IntMulOk 3 (i : Int) := mulOk (by decide) (by omega)
      with_reducible refine wpAny_execs_cons (wpAny_Assign_Name ?_ rfl)
      with_reducible refine Subscript_ (lo S₈ e hsg₈ (wpAny_BinOp (wpAny_BinOp (cint fun t3 k3 => lo S₈ e hk₈ (mulI mo fun t4 k4 => cint fun t5 k5 => addI fun t6 k6 => subS (c := x.cps.getD (3 * i + 3) 0) ?_ ?_ ?_ (fun t7 k7 => ?_) ?_)))))
      · omega
      · omega
      · have : (3 * (i : Int) + 3).toNat = 3 * i + 3 := by omega
        rw [this]
        have lt : 3 * i + 3 < x.cps.size := by omega
        rw [Array.getD_eq_getD_getElem?, Array.getElem?_eq_getElem lt]; rfl
      rotate_left
      · rfl
      with_reducible refine slo S₈ e fun h₉ tk₉ S₉ => ?_
      dsimp only
      have S₉ : St h L (aset "last" (.str (lastC x i) t7) loc₈) ([(r, lst vs), (L + 1, cll (some (.str (whos.getD i "") tw)))] ++ (fz' ++ frz h₄ [D])) h₉ := S₉
      have hsg₉ := asl (x := "last") (v := .str (lastC x i) t7) hsg₈ (by decide)
      have hr₉ := asl (x := "last") (v := .str (lastC x i) t7) hr₈ (by decide)
      have hk₉ := asl (x := "last") (v := .str (lastC x i) t7) hk₈ (by decide)
      have hl₉ := asl_self (x := "last") (v := .str (lastC x i) t7) (loc := loc₈)
      generalize aset "last" (.str (lastC x i) t7) loc₈ = loc₉ at S₉ hsg₉ hr₉ hk₉ hl₉
      have hw₉ : Is h₉ (L + 1) (cll (some (.str (whos.getD i "") tw))) := S₉.at 1 rfl
      have hcr₉ : Is h₉ r (lst vs) := S₉.at 0 rfl
      with_reducible refine wpAny_execs_cons (wpAny_Assign_Name ?_ rfl)
      with_reducible refine wpAny_BinOp (lo S₉ e hr₉ (comp_head (cl := [("who", L + 1)]) e ?_ ?_ ?_ ?_ ?_))
      · rfl
      · rfl
      · decide
      · with_reducible refine slcS (x := x) (l := 3 * (i : Int) + 1) (u := 3 * (i : Int) + 3) (3 * i + 1) (3 * i + 3) ?_ ?_ ?_ ?_ ?_ ?_ (lo S₉ e hsg₉ (wpAny_BinOp (wpAny_BinOp (cint fun t8 k8 => lo S₉ e hk₉ (mulI mo fun t9 k9 => cint fun t10 k10 => addI fun t11 k11 => wpAny_BinOp (wpAny_BinOp (cint fun t12 k12 => lo S₉ e hk₉ (mulI mo fun t13 k13 => cint fun t14 k14 => addI fun t15 k15 => ?_)))))))) ?_
        · omega
        · omega
        · omega
        · have : x.length = 10 := hx
          omega
        · have : x.length = 10 := hx
          omega
        · omega
        · refine ⟨t, t11, t15, h₉, k15, rfl, rfl, rfl, rfl, fun t16 h₁₀ tk₁₀ k₁₀ => ?_⟩
          have e2 : 3 * i + 3 - (3 * i + 1) = 2 := by omega
          rw [e2]
          refine comp_text hA' e ?_ ?_ (fun y => y.cps.toList != (Str.ofString "-").cps.toList) (fun y => whos.getD i "" ++ " " ++ y) ?_ ?_
          · rw [Array.all_eq_true'] at ha ⊢
            intro c hc
            refine ha c ?_
            have : c ∈ ((x.cps.toList.drop (3 * i + 1)).take 2) := by simpa using hc
            have := List.mem_of_mem_drop (List.mem_of_mem_take this)
            simpa using this
          · simp; omega
          · intro cenv C y ty locC ownC h₁₁ tk₁₁ Y N E'' hy eC SC hsC hY hN
            obtain ⟨c, _, rfl⟩ := List.mem_map.mp hy
            have hwC : Is h₁₁ (L + 1) (cll (some (.str (whos.getD i "") tw))) := (hw₉.keeps k₁₀).keeps SC.keep
            with_reducible refine wpAny_tests_one (wpAny_isTrue_Compare1 (lo SC eC hsC (cstr fun t17 k17 => neS (wpAny_truthy_bool ?_))) rfl)
            split
            · rename_i q
              with_reducible refine wpAny_BinOp (wpAny_BinOp (ceI eC hwC (cstr fun t18 k18 => addS ?_ fun t19 k19 => lo SC eC hsC (addS ?_ fun t20 k20 => hY q _ _))))
              · have : (Str.ofString " ").length = 1 := by decide
                omega
              · have : (Str.ofString " ").length = 1 := by decide
                have : (Str.mk #[c]).length = 1 := rfl
                rw [Str.length_append]
                omega
            · rename_i q
              exact hN (by simpa using q) _
          · intro D₁ vs₁ h₁₁ tk₁₁ hv₁ nD₁ k₁₁ lD₁
            have S₁₁ := S₉.pure (k₁₀.trans k₁₁)
            with_reducible refine addL (hcr₉.keeps (k₁₀.trans k₁₁)) lD₁ ?_ fun D₂ h₁₂ nD₂ k₁₂ lD₂ => ?_
            · have := readL_len x i
              have h1 : vs₁.length ≤ 2 := by
                rw [strs_len hv₁, List.length_map]
                refine Nat.le_trans (List.length_filter_le _ _) ?_
                rw [chars_len]; simp; omega
              rw [strs_len hv]; omega
            with_reducible refine slo (S₁₁.more k₁₂ nD₂ lD₂) e fun h₁₃ tk₁₃ S₁₃ => ?_
            dsimp only
            have S₁₃ : St h L (aset "rights" (.ref D₂) loc₉) ((D₂, lst (vs ++ vs₁)) :: ([(r, lst vs), (L + 1, cll (some (.str (whos.getD i "") tw)))] ++ (fz' ++ frz h₄ [D]))) h₁₃ := S₁₃
            have hv₂ : StrsAre (vs ++ vs₁) (readL x i ++ rw1 x i) := strs_append hv hv₁
            have hsg₁₃ := asl (x := "rights") (v := .ref D₂) hsg₉ (by decide)
            have hr₁₃ := asl_self (x := "rights") (v := .ref D₂) (loc := loc₉)
            have hl₁₃ := asl (x := "rights") (v := .ref D₂) hl₉ (by decide)
            generalize aset "rights" (.ref D₂) loc₉ = loc₁₃ at S₁₃ hsg₁₃ hr₁₃ hl₁₃
            generalize vs ++ vs₁ = vs₂ at S₁₃ hv₂
            have hw₁₃ : Is h₁₃ (L + 1) (cll (some (.str (whos.getD i "") tw))) := S₁₃.at 2 rfl
            have lD₂ : Is h₁₃ D₂ (lst vs₂) := S₁₃.at 0 rfl
            have lastA : (lastC x i).cps.all (· < 128) = true := by
              rw [Array.all_eq_true'] at ha ⊢
              intro c hc
              refine ha c ?_
              have e3 : c = x.cps.getD (3 * i + 3) 0 := by simpa [lastC] using hc
              have lt : 3 * i + 3 < x.cps.size := by omega
              rw [e3, Array.getD_eq_getD_getElem?, Array.getElem?_eq_getElem lt]
              exact Array.getElem_mem lt
            have lastM : x.cps.getD (3 * i + 3) 0 ∈ x.cps.toList := by
              have lt : 3 * i + 3 < x.cps.size := by omega
              rw [Array.getD_eq_getD_getElem?, Array.getElem?_eq_getElem lt]
              simp
            have lastZ : (lastC x i).cps.size ≤ 1000000 := by show 1 ≤ _; decide
            have sp1 : (Str.ofString " ").length = 1 := by decide
            with_reducible refine wpAny_execs_cons (wpAny_Assign_Name ?_ rfl)
            with_reducible refine wpAny_BinOp (wpAny_BinOp (lo S₁₃ e hr₁₃ (comp_head (cl := [("who", L + 1)]) e ?_ ?_ ?_ (lo S₁₃ e hl₁₃ (comp_text hA' e lastA lastZ (fun y => Txt.contains "xst" y) (fun y => whos.getD i "" ++ " x") ?_ fun D₃ vs₃ h₁₄ tk₁₄ hv₃ nD₃ k₁₄ lD₃ => ?_)) ?_)))
            · rfl
            · rfl
            · decide
            · intro cenv C y ty locC ownC h₁₄ tk₁₄ Y N E'' hy eC SC hsC hY hN
              have hwC : Is h₁₄ (L + 1) (cll (some (.str (whos.getD i "") tw))) := hw₁₃.keeps SC.keep
              with_reducible refine wpAny_tests_one (wpAny_isTrue_Compare1 (lo SC eC hsC (cstr fun t17 k17 => inS (wpAny_truthy_bool ?_))) rfl)
              split
              · rename_i q
                with_reducible refine wpAny_BinOp (ceI eC hwC (cstr fun t18 k18 => addS ?_ fun t19 k19 => hY q _ _))
                have : (Str.ofString " x").length = 2 := by decide
                omega
              · rename_i q
                exact hN (by simpa using q) _
            rotate_left
            · intro _; rfl
            have S₁₄ := S₁₃.pure k₁₄
            have l2 : vs₂.length ≤ 4 * i + 2 := by
              have := readL_len x i
              have h1 : (rw1 x i).length ≤ 2 := by
                unfold rw1
                rw [List.length_map]
                refine Nat.le_trans (List.length_filter_le _ _) ?_
                rw [chars_len]; simp; omega
              rw [strs_len hv₂, List.length_append]; omega
            have l3 : vs₃.length ≤ 1 := by
              rw [strs_len hv₃, List.length_map]
              refine Nat.le_trans (List.length_filter_le _ _) ?_
              rw [chars_len]; simp [lastC]
            with_reducible refine addL (lD₂.keeps k₁₄) lD₃ ?_ fun D₄ h₁₅ nD₄ k₁₅ lD₄ => ?_
            · omega
            have S₁₅ := S₁₄.pure k₁₅
            have hv₄ : StrsAre (vs₂ ++ vs₃) (readL x i ++ rw1 x i ++ rw2 x i) := strs_append hv₂ hv₃
            have l4 : (vs₂ ++ vs₃).length ≤ 4 * i + 3 := by rw [List.length_append]; omega
            generalize vs₂ ++ vs₃ = vs₄ at lD₄ hv₄ l4
            with_reducible refine comp_head (cl := [("who", L + 1)]) e ?_ ?_ ?_ (lo S₁₅ e hl₁₃ (comp_text hA' e lastA lastZ (fun y => Txt.contains "sStT" y) (fun y => whos.getD i "" ++ " " ++ Txt.lower y) ?_ fun D₅ vs₅ h₁₆ tk₁₆ hv₅ nD₅ k₁₆ lD₅ => ?_)) ?_
            · rfl
            · rfl
            · decide
            · intro cenv C y ty locC ownC h₁₆ tk₁₆ Y N E'' hy eC SC hsC hY hN
              have hwC : Is h₁₆ (L + 1) (cll (some (.str (whos.getD i "") tw))) := ((hw₁₃.keeps k₁₄).keeps k₁₅).keeps SC.keep
              obtain ⟨c, hc, rfl⟩ := List.mem_map.mp hy
              have e3 : c = x.cps.getD (3 * i + 3) 0 := by simpa [lastC] using hc
              have hlo := hlow c (by rw [e3]; exact lastM)
              with_reducible refine wpAny_tests_one (wpAny_isTrue_Compare1 (lo SC eC hsC (cstr fun t17 k17 => inS (wpAny_truthy_bool ?_))) rfl)
              split
              · rename_i q
                with_reducible refine wpAny_BinOp (wpAny_BinOp (ceI eC hwC (cstr fun t18 k18 => addS ?_ fun t19 k19 => meth0 F.plainAttrs_str F.slot_str_lower F.type_str_lower base_name ?_ (lo SC eC hsC ⟨typeIs_str _ _ _, fun _ q => (nomatch q), lowerS hlo.1 fun t20 k20 => addS ?_ fun t21 k21 => hY q _ _⟩))))
                · omega
                · rfl
                · have := hlo.2
                  rw [Str.length_append]
                  omega
              · rename_i q
                exact hN (by simpa using q) _
            rotate_left
            · intro _; rfl
            with_reducible refine addL (lD₄.keeps k₁₆) lD₅ ?_ fun D₆ h₁₇ nD₆ k₁₇ lD₆ => ?_
            · have l5 : vs₅.length ≤ 1 := by
                rw [strs_len hv₅, List.length_map]
                refine Nat.le_trans (List.length_filter_le _ _) ?_
                rw [chars_len]; simp [lastC]
              omega
            have S₁₆ := (S₁₅.pure k₁₆).more k₁₇ nD₆ lD₆
            with_reducible refine slo S₁₆ e fun h₁₈ tk₁₈ S₁₈ => ?_
            dsimp only
            have hv₆ : StrsAre (vs₄ ++ vs₅) (readL x (i + 1)) := strs_append hv₄ hv₅
            refine wpAny_execs_nil (hnext _ [(D₆, lst (vs₄ ++ vs₅)), (L + 1, cll (some (.str (whos.getD i "") tw)))] _ _ ⟨asl hsg₁₃ (by decide), D₆, _, _, asl_self, rfl, hv₆⟩ ?_)
            refine S₁₈.drop _ ?_
            exact List.Sublist.cons_cons _ (.cons _ (.cons _ (List.Sublist.refl _)))
        · intro _ _; rfl
      · intro _; rfl
    · rintro loc own h₉ tk₉ Qb E' ⟨hsg, r, vs, cv, hr, rfl, hv⟩ S₉ hq
      exact wpAny_execs_nil (hq _ _ ⟨_, _, loc, r, vs, rfl, rfl, S₉.drop _ (List.Sublist.cons_cons _ (List.nil_sublist _)), hr, hv⟩)
    · exact (lD.keeps k₅).list
    · exact ⟨rfl, r, [], none, rfl, rfl, .nil⟩
    · rintro r s' ⟨h₉, tk₉, loc', D₂, vs, rfl, rfl, S₉, ht, hv⟩
      dsimp only
      have G₉ := G.keeps S₉.keep
      have lD₂ : Is h₉ D₂ (lst vs) := S₉.at 0 rfl
      with_reducible refine wpAny_execs_cons (wpAny_Return_some (wpAny_Call_NameR (bl (.builtin "sorted") G₉ e (callW_b ?_ (sp_name (lo S₉ e ht (sp_nil (sortedT lD₂.list hv ?_ fun D₃ out ss' h₁₀ nD₃ k₁₀ lD₃ hout hperm hsort => ?_))))))))
      · rfl
      · have := readL_len x 3
        rw [strs_len hv]; omega
      refine hQ _ _ (k D₃ out ss' _ _ (none_of_kp S₉.keep nD₃) (S₉.keep.trans k₁₀) lD₃ hout hperm hsort)
  · intro _; rfl
end Mine
end
section -- Ldone
open PySem PySem.W PyProof.Rows PySem.Spec PySem.Calls
set_option Elab.async false
set_option maxRecDepth 100000
set_option maxHeartbeats 1000000
set_option pp.maxSteps 3000
namespace Mine
section
variable {w : World} {A : Around} {E : Value → Shared → Prop} {s : Shared} {h : Heap} {tk : Nat} {env : Env} {sc : Scope} {L : Addr} {cs : List (Str × Addr)} {h₀ : Heap} {loc : List (Str × Value)} {own : List (Addr × Sort_)}
theorem strs_get {vs : List Value} {ys : List Str} (h : StrsAre vs ys) : ∀ {i : Nat} {v : Value}, vs[i]? = some v → ∃ y t, ys[i]? = some y ∧ v = .str y t := by
  induction h with
  | nil => intro i v q; simp at q
  | cons a b _ ih =>
    intro i v q
    cases i with
    | zero => simp at q; subst q; exact ⟨a, b, rfl, rfl⟩
    | succ i => simpa using ih (by simpa using q)
theorem comp_slist {elt iter : Expr} {r : Addr} {vs : List Value} {ss : List Str} {x : Str} {px pos : Pos} {ifs : List Expr} {scope : Scope} {cl : List (Str × Addr)} {Q : Value → Shared → Prop} 
    (hA : A.handled = none) (e : EnvIs env sc L cs) (hr : Is h r (lst vs)) (hss : StrsAre vs ss) (hn : vs.length ≤ 1000000) (p : Str → Bool) (g : Str → Str)
    (turn : ∀ cenv C y t loc own h₂ tk (Y : Value → Shared → Prop) (N : Shared → Prop) (E' : Value → Shared → Prop), y ∈ ss → EnvIs cenv (relabelS scope sc) C (cellsFrom (C + 1) scope.names cl) → St h C loc own h₂ → loc.lookup x = some (.str y t) →
      (p y = true → ∀ t' tk', Y (.str (g y) t') (at_ s h₂ tk')) → (p y = false → ∀ tk', N (at_ s h₂ tk')) →
      wpAny (model PG w) A (forIn ifs true fun c r => if r = true then do let ok ← isTrue c cenv (eval c cenv); pure (ForInStep.yield ok) else pure (ForInStep.yield r))
        (fun ok s₃ => if ok = true then wpAny (model PG w) A (eval elt cenv) Y E' s₃ else N s₃) E' (at_ s h₂ tk))
    (done : ∀ D vs h' tk', StrsAre vs ((ss.filter p).map g) → h.get? D = none → Kp h h' → Is h' D (lst vs) → Q (.ref D) (at_ s h' tk'))
    (hk : scope.kind = .function := by with_unfolding_all rfl) (hcell : ∀ C, cellSorts C scope = [] := by intro C; with_unfolding_all rfl) (hx : (relabelS scope sc).names.lookup x = some .local := by with_unfolding_all rfl) :
    wpAny (model PG w) A (pyIter (.ref r)) (fun it s₂ => wpAny (model PG w) A (newList []) (fun acc s₃ => wpAny (model PG w) A (newFunctionEnv scope env.globals cl [] env.qual none .none (some env)) (fun cenv s₄ =>
      codeAny (model PG w) A (.compStart (.ListComp elt [⟨.Name x px, iter, ifs, 0⟩] scope pos) 0 it acc { cenv with scope := relabel scope env }) (compPost (model PG w) A E none Q acc cenv.locals) s₄) E s₃) E s₂) E (at_ s h tk) := by
  refine iterL hr.list fun I h₂ nI k₂ hI => ?_
  have hrI : r ≠ I := fun z => by
    obtain ⟨o, q, _⟩ := hr
    rw [z, nI] at q; cases q
  refine comp_strs (Walks.list (prog := PG) (w := w) hA I r hrI vs.toArray) e k₂ ?_ ?_ ?_ ?_ ⟨hI, (hr.keeps k₂).list⟩ ?_ ss ?_ ?_ p g turn (fun D vs h' tk' hv nD kk lD => done D vs h' tk' hv (none_of_kp k₂ nD) kk lD) hk hcell hx
  · intro b hb; rw [List.mem_singleton.mp hb]; exact nI
  · simp
  · rintro i h' ⟨⟨o, q, _⟩, _⟩ b hb; rw [List.mem_singleton.mp hb]; exact ⟨o, q⟩
  · intro b hb
    simp only [List.mem_cons, List.not_mem_nil, or_false] at hb
    rcases hb with rfl | rfl
    · exact .inl (.head _)
    · obtain ⟨o, q, _⟩ := hr
      exact .inr ⟨o, q⟩
  · simpa using hn
  · rw [← strs_len hss]; simp
  · intro i v hv
    exact strs_get hss (by simpa using hv)
end
section
variable {w : World} {A : Around} {E : Value → Shared → Prop} {s : Shared} {h : Heap} {tk : Nat}
noncomputable def doneR (op word : Str) (ss ss' : List Str) : Prop :=
  if (op.cps.toList == (Str.ofString "+").cps.toList) = true then ss'.Perm (ss ++ [word]) ∧ sortedS ss' = true else ss' = ss.filter fun y => y.cps.toList != word.cps.toList
theorem ct_done {n : Nat} {r d : Addr} {vs : List Value} {ss : List Str} {op word : Str} {t u : Tok} {Q : Value → Shared → Prop} (G : Gr w h) (R : Rm (n + 1) A) (hA : A.handled = none) (hr : Is h r (lst vs)) (hss : StrsAre vs ss)
    (hd : Is h d (lst [.str op t, .str word u])) (hlen : vs.length < 60)
    (k : ∀ D out ss' h' tk', h.get? D = none → Kp h h' → Is h' D (lst out) → StrsAre out ss' → doneR op word ss ss' → Q (.ref D) (at_ s h' tk')) :
    wpAny (model PG w) A (call (.ref 120) [.ref r, .ref d]) Q E (at_ s h tk) := by
  refine enterC (binds := [("rights", .ref r), ("deed", .ref d)]) G R rfl rfl rfl rfl rfl (by decide) rfl rfl rfl rfl ?_
  intro env L h₁ tk₁ Qf Ef hQ e S G₁ R₁
  dsimp only at e S ⊢
  have hA' : (A.deeper env).handled = none := hA
  have S : St h L [("rights", .ref r)] [(L + 1, cll (some (.ref d)))] h₁ := S
  replace e : EnvIs env _ L [("deed", L + 1)] := e
  have hd₁ := hd.keeps S.keep
  have hr₁ := hr.keeps S.keep
  have hc₁ : Is h₁ (L + 1) (cll (some (.ref d))) := S.at 0 rfl
  with_reducible refine wpAny_execs_cons (wpAny_Return_some (wpAny_IfExp (wpAny_isTrue_Compare1 (Subscript_ (ceI e hc₁ (cint fun t1 k1 => sub_list (v := .str op t) hd₁.list ?_ ?_ ?_ (cstr fun t2 k2 => eqS (wpAny_truthy_bool ?_)) ?_))) rfl)))
  · decide
  · decide
  · rfl
  rotate_left
  · rfl
  split
  · rename_i q
    with_reducible refine wpAny_Call_NameR (bl (.builtin "sorted") G₁ e (callW_b ?_ (sp_bin (wpAny_BinOp (lo0 (v := .ref r) S e (List_ (sp_sub (Subscript_ (ceI e hc₁ (cint fun t3 k3 => sub_list (v := .str word u) hd₁.list ?_ ?_ ?_ (sp_nil (newL ?_ fun D₁ h₂ nD₁ k₂ lD₁ => addL (hr₁.keeps k₂) lD₁ ?_ fun D₂ h₃ nD₂ k₃ lD₂ => sp_nil (sortedT lD₂.list (strs_snoc hss word u) ?_ fun D₃ out ss' h₄ nD₃ k₄ lD₃ hout hperm hsort => ?_))) ?_))))))))))
    · rfl
    · decide
    · decide
    · rfl
    · exact (by decide : 1 ≤ 1000000)
    · simp; omega
    · simp; omega
    rotate_left
    · rfl
    · refine hQ _ _ (k D₃ out ss' _ _ (none_of_kp ((S.keep.trans k₂).trans k₃) nD₃) (((S.keep.trans k₂).trans k₃).trans k₄) lD₃ hout ?_)
      unfold doneR
      rw [if_pos q]; exact ⟨hperm, hsort⟩
  · rename_i q
    with_reducible refine comp_head (cl := [("deed", L + 1)]) e ?_ ?_ ?_ (lo0 S e (comp_slist hA' e hr₁ hss ?_ (fun y => y.cps.toList != word.cps.toList) (fun y => y) ?_ fun D out h₂ tk₂ hout nD k₂ lD => ?_)) ?_
    · rfl
    · rfl
    · decide
    · omega
    · intro cenv C y ty locC ownC h₂ tk₂ Y N E'' hy eC SC hsC hY hN
      with_reducible refine wpAny_tests_one (wpAny_isTrue_Compare1 (lo SC eC hsC (Subscript_ (ceI eC (hc₁.keeps SC.keep) (cint fun t1 k1 => sub_list (v := .str word u) (hd₁.keeps SC.keep).list ?_ ?_ ?_ (neS (wpAny_truthy_bool ?_)) ?_)))) rfl)
      · decide
      · decide
      · rfl
      rotate_left
      · rfl
      split
      · rename_i q'
        exact lo SC eC hsC (hY q' _ _)
      · rename_i q'
        exact hN (by simpa using q') _
    · refine hQ _ _ (k D out _ _ _ (none_of_kp S.keep nD) (S.keep.trans k₂) lD hout ?_)
      unfold doneR
      rw [if_neg q, List.map_id']
    · intro _; rfl
end
end Mine
end
section -- Comp2
open PySem PySem.W PyProof.Rows PySem.Spec PySem.Calls
set_option Elab.async false
set_option maxRecDepth 100000
set_option maxHeartbeats 1000000
set_option pp.maxSteps 3000
namespace Mine
section
variable {prog : Program} {w : World} {A : Around} {E : Value → Shared → Prop} {R : Result → Shared → Prop} {s : Shared}
theorem turn_in (elt : Expr) (g₀ : Comprehension) (target iter : Expr) (scope : Scope) (pos : Pos) (it acc : Value) (env : Env) :
    compTurn (.ListComp elt [g₀, ⟨target, iter, [], 0⟩] scope pos) 1 it acc env = (do
      standAt iter.pos
      match ← pyNext it with
      | none => pure (.done .next)
      | some v =>
        letOwnedTupleGo target it v
        assign target env v
        (do let _ ← call (.builtin "list.append") [acc, ← eval elt env])
        again (.compLoop (.ListComp elt [g₀, ⟨target, iter, [], 0⟩] scope pos) 1 it acc env)) := by rfl
theorem turn_out (elt target iter : Expr) (ifs : List Expr) (t₂ i₂ : Expr) (ifs₂ : List Expr) (scope : Scope) (pos : Pos) (it acc : Value) (env : Env) :
    compTurn (.ListComp elt [⟨target, iter, ifs, 0⟩, ⟨t₂, i₂, ifs₂, 0⟩] scope pos) 0 it acc env = (do
      standAt iter.pos
      match ← pyNext it with
      | none => pure (.done .next)
      | some v =>
        letOwnedTupleGo target it v
        assign target env v
        let mut ok := true
        for c in ifs do
          if ok then ok ← isTrue c env (eval c env)
        if ok then
          let x ← eval i₂ env
          standAt i₂.pos
          let x ← foldedSetIterable i₂ env x
          let _ ← runOwn (.compStart (.ListComp elt [⟨target, iter, ifs, 0⟩, ⟨t₂, i₂, ifs₂, 0⟩] scope pos) 1 (← holding [x] (pyIter x)) acc env) env
        again (.compLoop (.ListComp elt [⟨target, iter, ifs, 0⟩, ⟨t₂, i₂, ifs₂, 0⟩] scope pos) 0 it acc env)) := by rfl
theorem code_in {elt target iter : Expr} {g₀ : Comprehension} {scope : Scope} {pos : Pos} {it acc : Value} {env : Env} (I : Nat → Shared → Prop)
    (turn : ∀ n s, I n s → wpAny (model prog w) A (pyNext it) (fun r s₁ => match r with
      | none => R (.ok .next) s₁
      | some v => wpAny (model prog w) A (assign target env v) (fun _ s₂ => wpAny (model prog w) A (eval elt env) (fun x s₃ =>
          wpAny (model prog w) A (call (.builtin "list.append") [acc, x]) (fun _ s₄ => ∃ m, m < n ∧ I m s₄) (notedBy (model prog w) A env fun e s' => R (.error e) s') s₃)
          (notedBy (model prog w) A env fun e s' => R (.error e) s') s₂) (notedBy (model prog w) A env fun e s' => R (.error e) s') s₁) (notedBy (model prog w) A env fun e s' => R (.error e) s') s)
    (n : Nat) (h : I n s) (ht : ∀ v, letOwnedTupleGo target it v = pure () := by intro _; rfl) :
    codeAny (model prog w) A (.compLoop (.ListComp elt [g₀, ⟨target, iter, [], 0⟩] scope pos) 1 it acc env) R s := by
  refine codeAny_loop rfl I (fun n s hI => ?_) n h
  show wpAny _ _ ((compTurn (.ListComp elt [g₀, ⟨target, iter, [], 0⟩] scope pos) 1 it acc env).onRaise (fun x => do noteFrame x env; theTreesLotGoes x)) _ _ s
  refine wpAny_noted ?_
  rw [turn_in]
  refine wpAny_bind (wpAny_standAt (wpAny_bind (wpAny_mono (turn n s hI) (fun r s₁ h₁ => ?_) fun _ _ h' => h')))
  cases r with
  | none => exact wpAny_pure h₁
  | some v =>
    refine wpAny_bind (wpAny_of_eq (ht v) ?_)
    exact wpAny_bind (wpAny_mono h₁ (fun _ s₂ h₂ => wpAny_bind (wpAny_bind (wpAny_mono h₂ (fun x s₃ h₃ => wpAny_bind (wpAny_mono h₃
      (fun _ s₄ h₄ => wpAny_pure (wpAny_pure ⟨rfl, h₄⟩)) fun _ _ h' => h')) fun _ _ h' => h'))) fun _ _ h' => h')
theorem code_out {elt target iter t₂ i₂ : Expr} {ifs ifs₂ : List Expr} {scope : Scope} {pos : Pos} {it acc : Value} {env : Env} (I : Nat → Shared → Prop)
    (turn : ∀ n s, I n s → wpAny (model prog w) A (pyNext it) (fun r s₁ => match r with
      | none => R (.ok .next) s₁
      | some v => wpAny (model prog w) A (assign target env v) (fun _ s₂ =>
          wpAny (model prog w) A (forIn ifs true fun c r => if r = true then do let ok ← isTrue c env (eval c env); pure (ForInStep.yield ok) else pure (ForInStep.yield r)) (fun ok s₃ =>
            if ok = true then wpAny (model prog w) A (eval i₂ env) (fun x s₄ => wpAny (model prog w) A (pyIter x) (fun it₂ s₅ =>
              codeAny (model prog w) A (.compStart (.ListComp elt [⟨target, iter, ifs, 0⟩, ⟨t₂, i₂, ifs₂, 0⟩] scope pos) 1 it₂ acc env) (fun r s' => r = .ok .next ∧ ∃ m, m < n ∧ I m s') s₅)
                (notedBy (model prog w) A env fun e s' => R (.error e) s') s₄) (notedBy (model prog w) A env fun e s' => R (.error e) s') s₃
            else ∃ m, m < n ∧ I m s₃) (notedBy (model prog w) A env fun e s' => R (.error e) s') s₂) (notedBy (model prog w) A env fun e s' => R (.error e) s') s₁) (notedBy (model prog w) A env fun e s' => R (.error e) s') s)
    (n : Nat) (h : I n s) (ht : ∀ v, letOwnedTupleGo target it v = pure () := by intro _; rfl) (hf : ∀ x, foldedSetIterable i₂ env x = pure x := by intro _; rfl) :
    codeAny (model prog w) A (.compLoop (.ListComp elt [⟨target, iter, ifs, 0⟩, ⟨t₂, i₂, ifs₂, 0⟩] scope pos) 0 it acc env) R s := by
  refine codeAny_loop rfl I (fun n s hI => ?_) n h
  show wpAny _ A ((compTurn (.ListComp elt [⟨target, iter, ifs, 0⟩, ⟨t₂, i₂, ifs₂, 0⟩] scope pos) 0 it acc env).onRaise (fun x => do noteFrame x env; theTreesLotGoes x)) _ _ s
  refine wpAny_noted ?_
  rw [turn_out]
  refine wpAny_bind (wpAny_standAt (wpAny_bind (wpAny_mono (turn n s hI) (fun r s₁ h₁ => ?_) fun _ _ h' => h')))
  cases r with
  | none => exact wpAny_pure h₁
  | some v =>
    refine wpAny_bind (wpAny_of_eq (ht v) ?_)
    refine wpAny_bind (wpAny_mono h₁ (fun _ s₂ h₂ => wpAny_bind (wpAny_mono h₂ (fun ok s₃ h₃ => ?_) fun _ _ h' => h')) fun _ _ h' => h')
    cases ok with
    | false => exact wpAny_pure ⟨rfl, h₃⟩
    | true =>
      refine wpAny_bind (wpAny_mono h₃ (fun x s₄ h₄ => wpAny_bind (wpAny_standAt (wpAny_bind (wpAny_of_eq (hf x) (wpAny_bind (wpAny_holding (wpAny_mono h₄ (fun it₂ s₅ h₅ => ?_) fun _ _ h' => h'))))))) fun _ _ h' => h')
      refine wpAny_bind (wpAny_runOwn (codeAny_mono h₅ fun r s' q => ?_))
      obtain ⟨rfl, q⟩ := q
      exact wpAny_pure ⟨rfl, q⟩
theorem start_in {elt target iter : Expr} {g₀ : Comprehension} {ifs : List Expr} {scope : Scope} {pos : Pos} {it acc : Value} {env : Env}
    (h0 : codeAny (model prog w) A (.compLoop (.ListComp elt [g₀, ⟨target, iter, ifs, 0⟩] scope pos) 1 it acc env) R s)
    (h : wpAny (model prog w) A (pyIter it) (fun it' s' => codeAny (model prog w) A (.compLoop (.ListComp elt [g₀, ⟨target, iter, ifs, 0⟩] scope pos) 1 it' acc env) R s')
      (notedBy (model prog w) A env fun x s' => R (.error x) s') s) :
    codeAny (model prog w) A (.compStart (.ListComp elt [g₀, ⟨target, iter, ifs, 0⟩] scope pos) 1 it acc env) R s := by
  refine codeAny_of_tree ?_
  show wpAny _ _ ((compStart (.ListComp elt [g₀, ⟨target, iter, ifs, 0⟩] scope pos) 1 it acc env).onRaise (fun x => do noteFrame x env; standAt theWindowsPlace)) _ _ s
  refine wpAny_notedAt ?_
  unfold compStart
  show wpAny _ _ (ask >>= _) _ _ s
  refine wpAny_bind (wpAny_askSetting (wpAny_ite ?_))
  split
  · first
      | exact wpAny_bind (wpAny_pure (wpAny_pure (And.intro rfl h0)))
      | exact wpAny_pure (And.intro rfl h0)
  · first
      | exact wpAny_bind (wpAny_rule (wpAny_bind (wpAny_standAt (wpAny_bind (wpAny_mono h (fun it' s' h' => wpAny_pure (And.intro rfl h')) fun _ _ x => x)))))
      | (refine wpAny_bind (wpAny_rule ?_); show wpAny _ _ (standAt iter.pos >>= _) _ _ s; exact wpAny_bind (wpAny_standAt (wpAny_bind (wpAny_mono h (fun it' s' h' => wpAny_pure (And.intro rfl h')) fun _ _ x => x))))
end
section
variable {w : World} {A : Around} {E : Value → Shared → Prop} {s : Shared} {h : Heap} {tk : Nat} {env : Env} {sc : Scope} {L : Addr} {cs : List (Str × Addr)} {h₀ : Heap} {loc : List (Str × Value)} {own : List (Addr × Sort_)}
theorem comp_begin {elt iter : Expr} {x : Str} {px pos : Pos} {ifs : List Expr} {rest : List Comprehension} {scope : Scope} {cl : List (Str × Addr)} {Q : Value → Shared → Prop} {I : Addr} {fp wr : List Addr} {n : Nat} {P : Nat → Value → Prop} {Sx : Nat → Heap → Prop}
    (W : Walks PG w A I fp wr n P Sx) (e : EnvIs env sc L cs) (hk : scope.kind = .function) {h₁ h₂ : Heap} {tk₂ : Nat} (k₁₂ : Kp h₁ h₂) (hwr : ∀ b ∈ wr, h₁.get? b = none) (nd : wr.Nodup)
    (hex : ∀ i h, Sx i h → ∀ b ∈ wr, ∃ o, h.get? b = some o) (hs : Sx 0 h₂)
    (loop : ∀ (cenv : Env) C D h₄, EnvIs { cenv with scope := relabel scope env } (relabelS scope sc) C (cellsFrom (C + 1) scope.names cl) → cenv.locals = C → St h₁ C [] ((D, lst []) :: (cellSorts C scope ++ (anyAt wr ++ []))) h₄ → Sx 0 h₄ → h₂.get? D = none →
      codeAny (model PG w) A (.compLoop (.ListComp elt (⟨.Name x px, iter, ifs, 0⟩ :: rest) scope pos) 0 (.ref I) (.ref D) { cenv with scope := relabel scope env }) (compPost (model PG w) A E none Q (.ref D) cenv.locals) (at_ s h₄ tk₂)) :
    wpAny (model PG w) A (newList []) (fun acc s₃ => wpAny (model PG w) A (newFunctionEnv scope env.globals cl [] env.qual none .none (some env)) (fun cenv s₄ =>
      codeAny (model PG w) A (.compStart (.ListComp elt (⟨.Name x px, iter, ifs, 0⟩ :: rest) scope pos) 0 (.ref I) acc { cenv with scope := relabel scope env }) (compPost (model PG w) A E none Q acc cenv.locals) s₄) E s₃) E (at_ s h₂ tk₂) := by
  refine newL (by decide) fun D h₃ hD k₂₃ lD => ?_
  refine compEnv_new e hk fun cenv C h₄ eC hC k₃₄ nsC nC hcs ndc => ?_
  subst hC
  have k₁₃ := k₁₂.trans k₂₃
  have k₁₄ := k₁₃.trans k₃₄
  have none13 : ∀ b, h₃.get? b = none → h₁.get? b = none := fun b q => by
    cases q' : h₁.get? b with
    | none => rfl
    | some o => rw [k₁₃ _ _ q'] at q; cases q
  have none12 : ∀ b, h₂.get? b = none → h₁.get? b = none := fun b q => by
    cases q' : h₁.get? b with
    | none => rfl
    | some o => rw [k₁₂ _ _ q'] at q; cases q
  have S₀ : St h₁ cenv.locals [] ((D, lst []) :: (cellSorts cenv.locals scope ++ (anyAt wr ++ []))) h₄ := by
    have hDs : ∃ o, h₃.get? D = some o := let ⟨o, q, _⟩ := lD; ⟨o, q⟩
    have base : St h₁ cenv.locals [] ([(D, lst [])] ++ cellSorts cenv.locals scope) h₄ := by
      refine ⟨k₁₄, nsC, none13 _ nC, fun p hp => ?_, fun p hp => ?_, ?_⟩
      · rcases List.mem_append.mp hp with hp | hp
        · rw [List.mem_singleton.mp hp]; exact lD.keeps k₃₄
        · exact (hcs p hp).1
      · rcases List.mem_append.mp hp with hp | hp
        · rw [List.mem_singleton.mp hp]
          refine ⟨none12 _ hD, fun z => ?_⟩
          obtain ⟨o, q⟩ := hDs
          have z' : D = cenv.locals := z
          rw [z', nC] at q; cases q
        · exact ⟨none13 _ (hcs p hp).2.1, (hcs p hp).2.2⟩
      · rw [List.map_append]
        refine List.nodup_append.mpr ⟨by simp, ndc, fun a ha b hb q => ?_⟩
        have ha' : a = D := by simpa using ha
        obtain ⟨p, hp, rfl⟩ := List.mem_map.mp hb
        obtain ⟨o, qq⟩ := hDs
        have := (hcs p hp).2.1
        rw [← q, ha', qq] at this; cases this
    have nin : ∀ b ∈ wr, ∀ p ∈ ([(D, lst [])] ++ cellSorts cenv.locals scope), p.1 ≠ b := fun b hb p hp q => by
      obtain ⟨o, qo⟩ := hex 0 h₂ hs b hb
      rcases List.mem_append.mp hp with hp | hp
      · rw [List.mem_singleton.mp hp] at q
        have q' : D = b := q
        rw [← q', hD] at qo; cases qo
      · have := (hcs p hp).2.1
        rw [q, k₂₃ _ _ qo] at this; cases this
    have neC : ∀ b ∈ wr, b ≠ cenv.locals := fun b hb q => by
      obtain ⟨o, qo⟩ := hex 0 h₂ hs b hb
      have := k₂₃ _ _ qo
      rw [q, nC] at this; cases this
    refine ⟨k₁₄, nsC, none13 _ nC, fun p hp => ?_, fun p hp => ?_, ?_⟩
    · rw [← List.singleton_append, ← List.append_assoc, List.append_nil] at hp
      rcases List.mem_append.mp hp with hp | hp
      · exact base.owns p hp
      · obtain ⟨b, hb, rfl⟩ := List.mem_map.mp hp
        obtain ⟨o, qo⟩ := hex 0 h₂ hs b hb
        exact ⟨o, k₃₄ _ _ (k₂₃ _ _ qo), trivial⟩
    · rw [← List.singleton_append, ← List.append_assoc, List.append_nil] at hp
      rcases List.mem_append.mp hp with hp | hp
      · exact base.fresh p hp
      · obtain ⟨b, hb, rfl⟩ := List.mem_map.mp hp
        exact ⟨hwr b hb, neC b hb⟩
    · rw [← List.singleton_append, ← List.append_assoc, List.append_nil, List.map_append, keys_any]
      refine List.nodup_append.mpr ⟨base.apart, nd, fun a ha b hb q => ?_⟩
      obtain ⟨p, hp, rfl⟩ := List.mem_map.mp ha
      exact nin b hb p hp q
  have hs₄ : Sx 0 h₄ := W.frame _ _ _ hs fun b _ o q => k₃₄ _ _ (k₂₃ _ _ q)
  have lp := loop cenv cenv.locals D h₄ eC rfl S₀ hs₄ hD
  exact codeAny_compStart_list lp (W.self 0 _ _ _ hs₄ lp)
theorem comp_headG {elt iter : Expr} {x : Str} {px pos : Pos} {ifs : List Expr} {rest : List Comprehension} {scope : Scope} {cl : List (Str × Addr)} {Q : Value → Shared → Prop} (e : EnvIs env sc L cs) (hcl : closL cs scope.names [] = some cl) (hk : scope.kind = .function)
    (hnames : ∀ y ∈ scope.names, y.2 = .local → scope.names.lookup y.1 = some .local)
    (k : wpAny (model PG w) A (eval iter env) (fun xv s₁ => wpAny (model PG w) A (pyIter xv) (fun it s₂ => wpAny (model PG w) A (newList []) (fun acc s₃ => wpAny (model PG w) A (newFunctionEnv scope env.globals cl [] env.qual none .none (some env)) (fun cenv s₄ =>
      codeAny (model PG w) A (.compStart (.ListComp elt (⟨.Name x px, iter, ifs, 0⟩ :: rest) scope pos) 0 it acc { cenv with scope := relabel scope env }) (compPost (model PG w) A E none Q acc cenv.locals) s₄) E s₃) E s₂) E s₁) E s)
    (hs : ∀ x, foldedSetIterable iter env x = pure x := by intro _; rfl) :
    wpAny (model PG w) A (eval (.ListComp elt (⟨.Name x px, iter, ifs, 0⟩ :: rest) scope pos) env) Q E s := by
  rw [eval_ListComp]
  exact wpAny_comprehension_free (use := none) rfl hs (closure_of e hcl) hk hnames k
noncomputable def copies (p : Str → Bool) (m : Str → Nat) (xs : List Str) : List Str := (xs.filter p).flatMap fun y => List.replicate (m y) y
theorem comp_copies {iter i₂ : Expr} {r : Addr} {vs : List Value} {ss : List Str} {x z : Str} {px pe pz pos : Pos} {ifs : List Expr} {scope : Scope} {cl : List (Str × Addr)} {Q : Value → Shared → Prop}
    (hA : A.handled = none) (e : EnvIs env sc L cs) (hr : Is h r (lst vs)) (hss : StrsAre vs ss) (hn : vs.length ≤ 1000) (p : Str → Bool) (m : Str → Nat) (hm : ∀ y, m y ≤ 2)
    (test : ∀ cenv C y t loc own h₂ tk (Q' : Bool → Shared → Prop) (E' : Value → Shared → Prop), y ∈ ss → EnvIs cenv (relabelS scope sc) C (cellsFrom (C + 1) scope.names cl) → St h C loc own h₂ → loc.lookup x = some (.str y t) →
      (∀ tk', Q' (p y) (at_ s h₂ tk')) →
      wpAny (model PG w) A (forIn ifs true fun c r => if r = true then do let ok ← isTrue c cenv (eval c cenv); pure (ForInStep.yield ok) else pure (ForInStep.yield r)) Q' E' (at_ s h₂ tk))
    (two : ∀ cenv C y t loc own h₂ tk (Q' : Value → Shared → Prop) (E' : Value → Shared → Prop), y ∈ ss → p y = true → EnvIs cenv (relabelS scope sc) C (cellsFrom (C + 1) scope.names cl) → St h C loc own h₂ → loc.lookup x = some (.str y t) →
      (∀ r h₃ tk', h₂.get? r = none → Kp h₂ h₃ → (∃ t u v, IsRange h₃ r 0 (m y) 1 t u v) → Q' (.ref r) (at_ s h₃ tk')) → wpAny (model PG w) A (eval i₂ cenv) Q' E' (at_ s h₂ tk))
    (done : ∀ D vs h' tk', StrsAre vs (copies p m ss) → h.get? D = none → Kp h h' → Is h' D (lst vs) → Q (.ref D) (at_ s h' tk'))
    (hk : scope.kind = .function := by with_unfolding_all rfl) (hcell : ∀ C, cellSorts C scope = [] := by intro C; with_unfolding_all rfl) (hx : (relabelS scope sc).names.lookup x = some .local := by with_unfolding_all rfl)
    (hz : (relabelS scope sc).names.lookup z = some .local := by with_unfolding_all rfl) (hxz : x ≠ z := by decide) (hxd : (x == ("__debug__" : Str)) = false := by decide) (hf : ∀ e x, foldedSetIterable i₂ e x = pure x := by intro _ _; with_unfolding_all rfl) :
    wpAny (model PG w) A (pyIter (.ref r)) (fun it s₂ => wpAny (model PG w) A (newList []) (fun acc s₃ => wpAny (model PG w) A (newFunctionEnv scope env.globals cl [] env.qual none .none (some env)) (fun cenv s₄ =>
      codeAny (model PG w) A (.compStart (.ListComp (.Name x pe) [⟨.Name x px, iter, ifs, 0⟩, ⟨.Name z pz, i₂, [], 0⟩] scope pos) 0 it acc { cenv with scope := relabel scope env }) (compPost (model PG w) A E none Q acc cenv.locals) s₄) E s₃) E s₂) E (at_ s h tk) := by
  refine iterL hr.list fun I h₂ nI k₂ hI => ?_
  have hrI : r ≠ I := fun z => by
    obtain ⟨o, q, _⟩ := hr
    rw [z, nI] at q; cases q
  have W := Walks.list (prog := PG) (w := w) hA I r hrI vs.toArray
  have hex : ∀ (i : Nat) (h : Heap), (h.IsListIter I r i ∧ h.IsList r vs.toArray) → ∀ b ∈ [I], ∃ o, h.get? b = some o := by
    rintro i h' ⟨⟨o, q, _⟩, _⟩ b hb; rw [List.mem_singleton.mp hb]; exact ⟨o, q⟩
  have lenC : ∀ l : List Str, (copies p m l).length ≤ 2 * l.length := by
    intro l
    unfold copies
    induction l with
    | nil => simp
    | cons a l ih =>
      have := hm a
      by_cases q : p a = true
      · rw [List.filter_cons_of_pos q, List.flatMap_cons, List.length_append, List.length_replicate, List.length_cons]; omega
      · rw [List.filter_cons_of_neg q, List.length_cons]; omega
  refine comp_begin W e hk k₂ ?_ ?_ hex ⟨hI, (hr.keeps k₂).list⟩ fun cenv C D h₄ eC hC S₀ hs₄ nD => ?_
  · intro b hb; rw [List.mem_singleton.mp hb]; exact nI
  · simp
  rw [hcell C] at S₀
  subst hC
  refine code_out (fun k s' => ∃ i ys loc h' tk', k + i = vs.length ∧ s' = at_ s h' tk' ∧ StrsAre ys (copies p m (ss.take i)) ∧ St h cenv.locals loc ((D, lst ys) :: ([] ++ (anyAt [I] ++ []))) h' ∧ (h'.IsListIter I r i ∧ h'.IsList r vs.toArray)) ?_ vs.length ⟨0, [], [], h₄, _, rfl, rfl, .nil, S₀, hs₄⟩ (by intro _; rfl) (hf _)
  rintro k s' ⟨i, ys, loc, h', tk', hki, rfl, hys, S, hsx⟩
  by_cases hi : i < vs.length
  · refine W.item i _ _ _ (by simpa using hi) hsx fun v h₅ tk₅ hP hs₅ hk₅ => ?_
    obtain ⟨y, t, hy, rfl⟩ := strs_get hss (i := i) (v := v) (by simpa using hP)
    have hyM : y ∈ ss := List.mem_of_getElem? hy
    have S₅ : St h cenv.locals loc ([(D, lst ys)] ++ (anyAt [I] ++ [])) h₅ := St.drawn (own := [(D, lst ys)]) S hk₅ (hex _ _ hs₅)
    have S₅' := S₅.freeze
    have step : copies p m (ss.take (i + 1)) = copies p m (ss.take i) ++ (if p y then List.replicate (m y) y else []) := by
      unfold copies
      rw [List.take_add_one, hy, List.filter_append, List.flatMap_append]
      congr 1
      by_cases q : p y = true <;> simp [q]
    have stay : ∀ {ys' loc' h' fz}, St h cenv.locals loc' ([(D, lst ys')] ++ (frz h₅ [I] ++ fz)) h' → (h'.IsListIter I r (i + 1) ∧ h'.IsList r vs.toArray) := by
      intro ys' loc' h' fz S'
      refine W.frame _ _ _ hs₅ fun b hb o q => ?_
      simp only [List.mem_cons, List.not_mem_nil, or_false] at hb
      rcases hb with rfl | rfl
      · exact S'.frozen (.head _) q
      · obtain ⟨o', q', _⟩ := hr
        have e1 := S₅.keep b o' q'
        rw [e1] at q; cases q
        exact S'.keep b _ q'
    refine wpAny_assign_Name (slo S₅' eC (fun h₆ tk₆ S₆ => ?_) hx)
    refine test _ _ y t _ _ h₆ tk₆ _ _ hyM eC S₆ asl_self fun tk₇ => ?_
    split
    · rename_i q
      refine two _ _ y t _ _ h₆ tk₇ _ _ hyM q eC S₆ asl_self fun rr h₇ tk₈ nrr k₇ hrr => ?_
      refine iterR hrr ?_ ?_ ?_ fun J h₈ nJ k₈ hJ => ?_
      · exact Int.le_refl _
      · exact Int.natCast_nonneg _
      · have := hm y; omega
      have W₂ := walksR (w := w) hA J 0 (m y)
      have S₈ := St.addAny (own := [(D, lst ys)]) (fz := frz h₅ [I] ++ []) (wr := [J]) (S₆.pure k₇) k₈ (by simp [nJ]) (by
        intro b hb; rw [List.mem_singleton.mp hb]; exact ⟨_, hJ⟩) (by simp)
      have hex₂ : ∀ (j : Nat) (h : Heap), IsRangeIter h J (0 + (j : Nat)) ((m y : Int) - (j : Nat)) 1 → ∀ b ∈ [J], ∃ o, h.get? b = some o := by
        intro j h q b hb; rw [List.mem_singleton.mp hb]; exact ⟨_, q⟩
      have loop : ∀ R : Result → Shared → Prop, (∀ s', (∃ ys loc h' tk', s' = at_ s h' tk' ∧ StrsAre ys (copies p m (ss.take (i + 1))) ∧ St h cenv.locals loc ([(D, lst ys)] ++ (frz h₅ [I] ++ [])) h') → R (.ok .next) s') →
          codeAny (model PG w) A (.compLoop (.ListComp (.Name x pe) [⟨.Name x px, iter, ifs, 0⟩, ⟨.Name z pz, i₂, [], 0⟩] scope pos) 1 (.ref J) (.ref D) { cenv with scope := relabel scope env }) R (at_ s h₈ tk₈) := by
        intro R hR
        refine code_in (fun k s' => ∃ j ys loc h' tk', k + j = m y ∧ s' = at_ s h' tk' ∧ StrsAre ys (copies p m (ss.take i) ++ List.replicate j y) ∧ St h cenv.locals loc ([(D, lst ys)] ++ (anyAt [J] ++ (frz h₅ [I] ++ []))) h' ∧ loc.lookup x = some (.str y t) ∧
          IsRangeIter h' J (0 + (j : Nat)) ((m y : Int) - (j : Nat)) 1) ?_ (m y) ⟨0, ys, _, h₈, _, rfl, rfl, by simpa using hys, S₈, asl_self, by simpa using hJ⟩
        rintro k s' ⟨j, ys', loc', h', tk', hkj, rfl, hys', S', hlx, hsj⟩
        by_cases hj : j < m y
        · refine W₂.item j _ _ _ hj hsj fun v h₉ tk₉ hP₂ hs₉ hk₉ => ?_
          obtain ⟨tj, rfl⟩ := hP₂
          have S₉ := (St.drawn (own := [(D, lst ys')]) S' hk₉ (hex₂ _ _ hs₉)).freeze
          refine wpAny_assign_Name (slo S₉ eC (fun h₁₀ tk₁₀ S₁₀ => ?_) hz)
          have hlx' := asl (x := z) (v := .int (0 + (j : Int)) tj) hlx hxz
          refine lo S₁₀ eC hlx' ?_ hx hxd
          refine append_own (own := (D, lst ys') :: (frz h₉ [J] ++ (frz h₅ [I] ++ []))) S₁₀ 0 rfl ?_ fun h₁₁ S₁₁ => ?_
          · have h1 := lenC (ss.take i)
            have h2 := hm y
            have h3 := strs_len hss
            have h4 : (ss.take i).length ≤ ss.length := by rw [List.length_take]; exact Nat.min_le_right _ _
            rw [strs_len hys', List.length_append, List.length_replicate]; omega
          refine ⟨k - 1, by omega, j + 1, ys' ++ [.str y t], _, h₁₁, tk₁₀, by omega, rfl, ?_, St.thaw (own := [(D, lst (ys' ++ [.str y t]))]) S₁₁, hlx', ?_⟩
          · have := strs_snoc hys' y t
            rw [List.append_assoc] at this
            rw [List.replicate_succ']; exact this
          · refine W₂.frame _ _ _ hs₉ fun b hb o q => ?_
            rw [List.mem_singleton.mp hb] at q ⊢
            exact St.frozen (own := [(D, lst (ys' ++ [.str y t]))]) S₁₁ (.head _) q
        · have hjm : j = m y := by omega
          subst hjm
          refine W₂.done _ _ _ hsj fun h₉ tk₉ hk₉ => ?_
          refine hR _ ⟨ys', loc', h₉, tk₉, rfl, ?_, St.gone (own := [(D, lst ys')]) S' hk₉⟩
          rw [step, if_pos q]; exact hys'
      have out : ∀ s', (∃ ys loc h' tk', s' = at_ s h' tk' ∧ StrsAre ys (copies p m (ss.take (i + 1))) ∧ St h cenv.locals loc ([(D, lst ys)] ++ (frz h₅ [I] ++ [])) h') →
          ∃ m_1, m_1 < k ∧ ∃ i ys loc h' tk', m_1 + i = vs.length ∧ s' = at_ s h' tk' ∧ StrsAre ys (copies p m (ss.take i)) ∧ St h cenv.locals loc ((D, lst ys) :: ([] ++ (anyAt [I] ++ []))) h' ∧ (h'.IsListIter I r i ∧ h'.IsList r vs.toArray) := by
        rintro s' ⟨ys', loc', h', tk', rfl, hys', S'⟩
        exact ⟨k - 1, by omega, i + 1, ys', loc', h', tk', by omega, rfl, hys', St.thaw (own := [(D, lst ys')]) S', stay S'⟩
      refine start_in (loop _ fun s' q => ⟨rfl, out s' q⟩) ?_
      exact W₂.self 0 (at_ s h₈ tk₈) _ _ (show IsRangeIter h₈ J _ _ 1 by simpa using hJ) (loop _ fun s' q => ⟨rfl, out s' q⟩)
    · rename_i q
      refine ⟨k - 1, by omega, i + 1, ys, _, h₆, tk₇, by omega, rfl, ?_, St.thaw (own := [(D, lst ys)]) S₆, stay S₆⟩
      rw [step, if_neg q, List.append_nil]; exact hys
  · have hin : i = vs.length := by omega
    subst hin
    refine W.done (at_ s h' tk') _ _ (show h'.IsListIter I r vs.toArray.size ∧ h'.IsList r vs.toArray from ⟨by rw [List.size_toArray]; exact hsx.1, hsx.2⟩) fun h₅ tk₅ hk₅ => ?_
    have S₅ : St h cenv.locals loc ([(D, lst ys)] ++ []) h₅ := St.gone (own := [(D, lst ys)]) S hk₅
    refine ⟨_, S₅.ns, fun h₆ hs₆ => ?_⟩
    have kk : Kp h h₆ := fun b o q => (hs₆.2 b fun z => by
      have := S₅.new
      rw [← z, q] at this; cases this).trans (S₅.keep b o q)
    rw [strs_len hss, List.take_length] at hys
    exact done D ys h₆ tk₅ hys (none_of_kp k₂ nD) kk ((S₅.owns _ (.head _)).same hs₆ (S₅.fresh _ (.head _)).2)
end
end Mine
end
section -- Cmp
open PySem PySem.W PyProof.Rows PySem.Spec PySem.Calls
open PySem.AutoSeq1 (wpAny_loadPart')
open PySem.MeetsSeq PySem.MeetsSeq2 PySem.MeetsSeq3 PySem.SeqAt
set_option Elab.async false
set_option maxRecDepth 100000
set_option maxHeartbeats 1000000
set_option pp.maxSteps 3000
namespace Mine
noncomputable def RcB (op : CmpOp) (A : Around) (s : Shared) (x y : Value) (b : Bool) : Prop :=
  ∀ (prog : Program) (w : World) (E : Value → Shared → Prop) (Q : Value → Shared → Prop), Q (.bool b) s → wpAny (model prog w) A (richCompare op x y) Q E s
noncomputable def lexB (e c : Nat → Bool) (d : Bool) : Nat → Nat → Bool
  | 0, _ => d
  | k + 1, i => if e i then lexB e c d k (i + 1) else c i
theorem lt_loopAt (l b : Addr) (items items2 : Array Value) (n n2 : Nat) (dd dd2 : Option Addr) (sl sl2 : Array (Option Value)) (e c : Nat → Bool) (k : Nat) :
    ∀ i : Nat, min items.size items2.size - i = k → Meets (Builtin.«list.__eq__.loop» ⟨[.ref l, .ref b, rawInt i, rawInt 0], []⟩)
      (fun A R s => s.heap.get? l = some { cls := .type "list", dict := dd, data := .seq items n, slots := sl } ∧ s.heap.get? b = some { cls := .type "list", dict := dd2, data := .seq items2 n2, slots := sl2 } ∧
        (∀ j (h1 : j < items.size) (h2 : j < items2.size), EqAt A.in1 s items[j] items2[j] (e j)) ∧ (∀ j (h1 : j < items.size) (h2 : j < items2.size), e j = false → RcB .Lt A.in1 s items[j] items2[j] (c j)) ∧
        R (.ok (.ret (.bool (lexB e c (items.size < items2.size) k i)))) s) := by
  induction k with
  | zero =>
    intro i hk prog w A R s h
    obtain ⟨hp, g, d, tk, os⟩ := s; obtain ⟨hl, hb, he, hc, h⟩ := h
    wp_walk using wpAny_loadPart' hl, wpAny_loadPart' hb
    have hi : items[((i : Nat) : Int).toNat]? = none ∨ items2[((i : Nat) : Int).toNat]? = none := by
      rcases Nat.lt_or_ge i items.size with q | q
      · right; simp; omega
      · left; simp; omega
    rcases hi with hi | hi
    · rw [hi]
      wp_walk using wpAny_loadPart' hl, wpAny_loadPart' hb
      exact h
    · rw [hi]
      cases items[((i : Nat) : Int).toNat]? <;>
      · wp_walk using wpAny_loadPart' hl, wpAny_loadPart' hb
        exact h
  | succ k ih =>
    intro i hk prog w A R s h
    obtain ⟨hp, g, d, tk, os⟩ := s; obtain ⟨hl, hb, he, hc, h⟩ := h
    wp_walk using wpAny_loadPart' hl, wpAny_loadPart' hb
    have hlt : i < items.size := by omega
    have hlt2 : i < items2.size := by omega
    have hi1 : items[((i : Nat) : Int).toNat]? = some items[i] := by simp [hlt]
    have hi2 : items2[((i : Nat) : Int).toNat]? = some items2[i] := by simp [hlt2]
    have hn : ((i : Int) + 1) = ((i + 1 : Nat) : Int) := by push_cast; rfl
    unfold lexB at h
    rw [hi1, hi2]
    refine wpAny_bind (he i hlt hlt2 prog w _ _ ?_)
    cases hb' : e i with
    | true =>
      rw [hb'] at h
      wp_walk
      rw [hn]
      exact ⟨plainId_quiet plain_eq_loop _, codeAny_builtin entry_eq_loop (by
        rw [Around.under_plainId plain_eq_loop _]
        exact ih (i + 1) (by omega) prog w A R _ ⟨hl, hb, he, hc, by simpa using h⟩)⟩
    | false =>
      rw [hb'] at h
      wp_walk using wpAny_loadPart' hl, wpAny_loadPart' hb
      rw [hi1, hi2]
      refine wpAny_bind (hc i hlt hlt2 hb' prog w _ _ ?_)
      wp_walk
      simpa using h
theorem gt_loopAt (l b : Addr) (items items2 : Array Value) (n n2 : Nat) (dd dd2 : Option Addr) (sl sl2 : Array (Option Value)) (e c : Nat → Bool) (k : Nat) :
    ∀ i : Nat, min items.size items2.size - i = k → Meets (Builtin.«list.__eq__.loop» ⟨[.ref l, .ref b, rawInt i, rawInt 4], []⟩)
      (fun A R s => s.heap.get? l = some { cls := .type "list", dict := dd, data := .seq items n, slots := sl } ∧ s.heap.get? b = some { cls := .type "list", dict := dd2, data := .seq items2 n2, slots := sl2 } ∧
        (∀ j (h1 : j < items.size) (h2 : j < items2.size), EqAt A.in1 s items[j] items2[j] (e j)) ∧ (∀ j (h1 : j < items.size) (h2 : j < items2.size), e j = false → RcB .Gt A.in1 s items[j] items2[j] (c j)) ∧
        R (.ok (.ret (.bool (lexB e c (items.size > items2.size) k i)))) s) := by
  induction k with
  | zero =>
    intro i hk prog w A R s h
    obtain ⟨hp, g, d, tk, os⟩ := s; obtain ⟨hl, hb, he, hc, h⟩ := h
    wp_walk using wpAny_loadPart' hl, wpAny_loadPart' hb
    have hi : items[((i : Nat) : Int).toNat]? = none ∨ items2[((i : Nat) : Int).toNat]? = none := by
      rcases Nat.lt_or_ge i items.size with q | q
      · right; simp; omega
      · left; simp; omega
    rcases hi with hi | hi
    · rw [hi]
      wp_walk using wpAny_loadPart' hl, wpAny_loadPart' hb
      exact h
    · rw [hi]
      cases items[((i : Nat) : Int).toNat]? <;>
      · wp_walk using wpAny_loadPart' hl, wpAny_loadPart' hb
        exact h
  | succ k ih =>
    intro i hk prog w A R s h
    obtain ⟨hp, g, d, tk, os⟩ := s; obtain ⟨hl, hb, he, hc, h⟩ := h
    wp_walk using wpAny_loadPart' hl, wpAny_loadPart' hb
    have hlt : i < items.size := by omega
    have hlt2 : i < items2.size := by omega
    have hi1 : items[((i : Nat) : Int).toNat]? = some items[i] := by simp [hlt]
    have hi2 : items2[((i : Nat) : Int).toNat]? = some items2[i] := by simp [hlt2]
    have hn : ((i : Int) + 1) = ((i + 1 : Nat) : Int) := by push_cast; rfl
    unfold lexB at h
    rw [hi1, hi2]
    refine wpAny_bind (he i hlt hlt2 prog w _ _ ?_)
    cases hb' : e i with
    | true =>
      rw [hb'] at h
      wp_walk
      rw [hn]
      exact ⟨plainId_quiet plain_eq_loop _, codeAny_builtin entry_eq_loop (by
        rw [Around.under_plainId plain_eq_loop _]
        exact ih (i + 1) (by omega) prog w A R _ ⟨hl, hb, he, hc, by simpa using h⟩)⟩
    | false =>
      rw [hb'] at h
      wp_walk using wpAny_loadPart' hl, wpAny_loadPart' hb
      rw [hi1, hi2]
      refine wpAny_bind (hc i hlt hlt2 hb' prog w _ _ ?_)
      wp_walk
      simpa using h
theorem list_ltAt (l b : Addr) (items items2 : Array Value) (n n2 : Nat) (dd dd2 : Option Addr) (sl sl2 : Array (Option Value)) (e c : Nat → Bool) :
    Meets (Builtin.«list.__lt__» ⟨[.ref l, .ref b], []⟩)
      (fun A R s => s.heap.get? l = some { cls := .type "list", dict := dd, data := .seq items n, slots := sl } ∧ s.heap.get? b = some { cls := .type "list", dict := dd2, data := .seq items2 n2, slots := sl2 } ∧
        (∀ j (h1 : j < items.size) (h2 : j < items2.size), EqAt A.in1 s items[j] items2[j] (e j)) ∧ (∀ j (h1 : j < items.size) (h2 : j < items2.size), e j = false → RcB .Lt A.in1 s items[j] items2[j] (c j)) ∧
        R (.ok (.ret (.bool (lexB e c (items.size < items2.size) (min items.size items2.size) 0)))) s) := by
  intro prog w A R s h
  obtain ⟨hp, g, d, tk, os⟩ := s; obtain ⟨hl, hb, he, hc, h⟩ := h
  have f3 := AutoSeq1.sub_list_list
  wp_walk using wpAny_loadPart' hl, wpAny_loadPart' hb
  exact ⟨plainId_quiet plain_eq_loop _, codeAny_builtin entry_eq_loop (by
    rw [Around.under_plainId plain_eq_loop _]
    exact lt_loopAt l b items items2 n n2 dd dd2 sl sl2 e c _ 0 rfl prog w A R _ ⟨hl, hb, he, hc, by simpa using h⟩)⟩
theorem RcB.lists_lt {A : Around} {s : Shared} {l b : Addr} {items items2 : Array Value} {e c : Nat → Bool} (hl : s.heap.IsList l items) (hb : s.heap.IsList b items2) (hu : A.units < cLine)
    (he : ∀ j (h1 : j < items.size) (h2 : j < items2.size), EqAt A.in1 s items[j] items2[j] (e j)) (hcc : ∀ j (h1 : j < items.size) (h2 : j < items2.size), e j = false → RcB .Lt A.in1 s items[j] items2[j] (c j)) :
    RcB .Lt A s (.ref l) (.ref b) (lexB e c (items.size < items2.size) (min items.size items2.size) 0) := fun prog w E Q h => by
  obtain ⟨⟨cls, dd, data, sl⟩, ho, hc, n, hd⟩ := id hl
  obtain ⟨⟨cls2, dd2, data2, sl2⟩, ho2, hc2, n2, hd2⟩ := id hb
  simp only at hc hd hc2 hd2
  subst hc hd hc2 hd2
  exact richCompare_meets_room (op := .Lt) ⟨_, ho, rfl⟩ ⟨_, ho2, rfl⟩ F.slot_list_lt F.entry_list_lt (F.args_list_lt_2 _ _) (list_ltAt l b items items2 n n2 dd dd2 sl sl2 e c)
    ⟨ho, ho2, he, hcc, show Value.bool _ ≠ Value.notImplemented ∧ Q (.bool _) s from ⟨(fun x => nomatch x), h⟩⟩ hu
theorem list_gtAt (l b : Addr) (items items2 : Array Value) (n n2 : Nat) (dd dd2 : Option Addr) (sl sl2 : Array (Option Value)) (e c : Nat → Bool) :
    Meets (Builtin.«list.__gt__» ⟨[.ref l, .ref b], []⟩)
      (fun A R s => s.heap.get? l = some { cls := .type "list", dict := dd, data := .seq items n, slots := sl } ∧ s.heap.get? b = some { cls := .type "list", dict := dd2, data := .seq items2 n2, slots := sl2 } ∧
        (∀ j (h1 : j < items.size) (h2 : j < items2.size), EqAt A.in1 s items[j] items2[j] (e j)) ∧ (∀ j (h1 : j < items.size) (h2 : j < items2.size), e j = false → RcB .Gt A.in1 s items[j] items2[j] (c j)) ∧
        R (.ok (.ret (.bool (lexB e c (items.size > items2.size) (min items.size items2.size) 0)))) s) := by
  intro prog w A R s h
  obtain ⟨hp, g, d, tk, os⟩ := s; obtain ⟨hl, hb, he, hc, h⟩ := h
  have f3 := AutoSeq1.sub_list_list
  wp_walk using wpAny_loadPart' hl, wpAny_loadPart' hb
  exact ⟨plainId_quiet plain_eq_loop _, codeAny_builtin entry_eq_loop (by
    rw [Around.under_plainId plain_eq_loop _]
    exact gt_loopAt l b items items2 n n2 dd dd2 sl sl2 e c _ 0 rfl prog w A R _ ⟨hl, hb, he, hc, by simpa using h⟩)⟩
theorem RcB.lists_gt {A : Around} {s : Shared} {l b : Addr} {items items2 : Array Value} {e c : Nat → Bool} (hl : s.heap.IsList l items) (hb : s.heap.IsList b items2) (hu : A.units < cLine)
    (he : ∀ j (h1 : j < items.size) (h2 : j < items2.size), EqAt A.in1 s items[j] items2[j] (e j)) (hcc : ∀ j (h1 : j < items.size) (h2 : j < items2.size), e j = false → RcB .Gt A.in1 s items[j] items2[j] (c j)) :
    RcB .Gt A s (.ref l) (.ref b) (lexB e c (items.size > items2.size) (min items.size items2.size) 0) := fun prog w E Q h => by
  obtain ⟨⟨cls, dd, data, sl⟩, ho, hc, n, hd⟩ := id hl
  obtain ⟨⟨cls2, dd2, data2, sl2⟩, ho2, hc2, n2, hd2⟩ := id hb
  simp only at hc hd hc2 hd2
  subst hc hd hc2 hd2
  exact richCompare_meets_room (op := .Gt) ⟨_, ho, rfl⟩ ⟨_, ho2, rfl⟩ F.slot_list_gt F.entry_list_gt (F.args_list_gt_2 _ _) (list_gtAt l b items items2 n n2 dd dd2 sl sl2 e c)
    ⟨ho, ho2, he, hcc, show Value.bool _ ≠ Value.notImplemented ∧ Q (.bool _) s from ⟨(fun x => nomatch x), h⟩⟩ hu
theorem RcB.lt_int {A : Around} {s : Shared} (a b : Int) (t u : Tok) : RcB .Lt A s (.int a t) (.int b u) (decide (a < b)) := fun _ _ _ _ h => PyProof.Rows.lt_int h
theorem RcB.gt_int {A : Around} {s : Shared} (a b : Int) (t u : Tok) : RcB .Gt A s (.int a t) (.int b u) (decide (b < a)) := fun _ _ _ _ h => PyProof.Rows.gt_int h
theorem RcB.lt_str {A : Around} {s : Shared} (a b : Str) (t u : Tok) : RcB .Lt A s (.str a t) (.str b u) (decide (a.cps.toList < b.cps.toList)) := fun _ _ _ _ h => P.lt_str h
theorem RcB.gt_str {A : Around} {s : Shared} (a b : Str) (t u : Tok) : RcB .Gt A s (.str a t) (.str b u) (decide (b.cps.toList < a.cps.toList)) := fun _ _ _ _ h => P.gt_str h
end Mine
end
section -- Lonly
open PySem PySem.W PyProof.Rows PySem.Spec PySem.Calls PySem.SeqAt
set_option Elab.async false
set_option maxRecDepth 100000
set_option maxHeartbeats 1000000
set_option pp.maxSteps 3000
namespace Mine
section
variable {w : World} {A : Around} {E : Value → Shared → Prop} {s : Shared} {h : Heap} {tk : Nat} {env : Env} {sc : Scope} {L : Addr} {cs : List (Str × Addr)} {h₀ : Heap} {loc : List (Str × Value)} {own : List (Addr × Sort_)}
variable {t u : Tok} {Q : Value → Shared → Prop} {x y : Str}
theorem slcL {value : Expr} {lower upper : Option Expr} {p pos : Pos}
    (k : wpAny (model PG w) A (eval value env) (fun o s₁ => wpAny (model PG w) A (evalPart lower env) (fun vl s₂ => wpAny (model PG w) A (evalPart upper env) (fun vu s₃ =>
      ∃ l vs lo hi h' tk', o = .ref l ∧ s₃ = at_ s h' tk' ∧ Is h' l (lst vs) ∧ vs.length ≤ 1000000 ∧ IsPart vl lo ∧ IsPart vu hi ∧
        ∀ D h'', h'.get? D = none → Kp h' h'' → Is h'' D (lst (slicePick vs.toArray lo hi none).toList) → Q (.ref D) (at_ s h'' tk')) E s₂) E s₁) E (at_ s h tk))
    (ht : ∀ o r, letTemporaryGo value o r = pure () := by intro _ _; rfl) :
    wpAny (model PG w) A (eval (.Subscript value (.Slice lower upper none p) pos) env) Q E (at_ s h tk) := by
  refine wpAny_Subscript_list_slice (wpAny_mono k (fun o s₁ y => wpAny_mono y (fun vl s₂ z => wpAny_mono z (fun vu s₃ q => ?_) fun _ _ e => e) fun _ _ e => e) fun _ _ e => e) ht
  obtain ⟨l, vs, lo, hi, h', tk', rfl, rfl, hl, hn, pl, pu, hq⟩ := q
  refine ⟨l, vs.toArray, lo, hi, rfl, hl.list, by rw [List.size_toArray, sizeLine_eq]; omega, pl, pu, hq _ _ ?_ ((kp_push _ _).trans (kp_push _ _)) ?_⟩
  · exact Heap.get?_none_of_le (Nat.le_succ _)
  · have z := Heap.get?_push_size (h'.push { cls := .type "slice", data := .fields #[vl, vu, .none] }) (o := { cls := .type "list", data := .seq (slicePick vs.toArray lo hi none) }) rfl
    rw [Heap.size_push] at z
    exact ⟨_, z, 0, by rw [Array.toArray_toList]⟩
theorem sp_ife {c b o : Expr} {p pos : Pos} {rest : List Expr} {Q : List Value → Shared → Prop} (k : wpAny (model PG w) A (eval (.IfExp c b o p) env) (fun v s₁ => wpAny (model PG w) A (spliced (backTo pos (starEach rest env))) (fun vs s₂ => Q (v :: vs) s₂) E s₁) E s) :
    wpAny (model PG w) A (spliced (backTo pos (starEach (.IfExp c b o p :: rest) env))) Q E s := spliced_cons k
theorem negI {a : Int} (k : ∀ t' tk', Q (.int (-a) t') (at_ s h tk')) : wpAny (model PG w) A (unaryOp .USub (.int a t)) Q E (at_ s h tk) := PyProof.Rows.neg_int (s := at_ s h tk) (k _ _)
theorem pt_none {Q : Value → Shared → Prop} (k : Q .none s) : wpAny (model PG w) A (evalPart none env) Q E s := wpAny_evalPart_none k
theorem pt_some {e : Expr} {Q : Value → Shared → Prop} (k : wpAny (model PG w) A (eval e env) Q E s) : wpAny (model PG w) A (evalPart (some e) env) Q E s := wpAny_evalPart_some k
theorem ltLL {a b : Addr} {vs us : List Value} {e c : Nat → Bool} (ha : Is h a (lst vs)) (hb : Is h b (lst us)) (hu : A.units < cLine)
    (he : ∀ j v u, vs[j]? = some v → us[j]? = some u → EqAt A.in1 (at_ s h tk) v u (e j)) (hc : ∀ j v u, vs[j]? = some v → us[j]? = some u → e j = false → RcB .Lt A.in1 (at_ s h tk) v u (c j))
    (k : Q (.bool (lexB e c (vs.length < us.length) (min vs.length us.length) 0)) (at_ s h tk)) : wpAny (model PG w) A (compareOp .Lt (.ref a) (.ref b)) Q E (at_ s h tk) := by
  refine RcB.lists_lt (s := at_ s h tk) (e := e) (c := c) ha.list hb.list hu (fun j h1 h2 => he j _ _ ?_ ?_) (fun j h1 h2 => hc j _ _ ?_ ?_) PG w E Q (by simpa using k)
  all_goals simp
theorem gtLL {a b : Addr} {vs us : List Value} {e c : Nat → Bool} (ha : Is h a (lst vs)) (hb : Is h b (lst us)) (hu : A.units < cLine)
    (he : ∀ j v u, vs[j]? = some v → us[j]? = some u → EqAt A.in1 (at_ s h tk) v u (e j)) (hc : ∀ j v u, vs[j]? = some v → us[j]? = some u → e j = false → RcB .Gt A.in1 (at_ s h tk) v u (c j))
    (k : Q (.bool (lexB e c (vs.length > us.length) (min vs.length us.length) 0)) (at_ s h tk)) : wpAny (model PG w) A (compareOp .Gt (.ref a) (.ref b)) Q E (at_ s h tk) := by
  refine RcB.lists_gt (s := at_ s h tk) (e := e) (c := c) ha.list hb.list hu (fun j h1 h2 => he j _ _ ?_ ?_) (fun j h1 h2 => hc j _ _ ?_ ?_) PG w E Q (by simpa using k)
  all_goals simp
theorem notinS {l : Addr} {vs : List Value} {ys : List Str} (hl : Is h l (lst vs)) (hi : StrsAre vs ys) (k : Q (.bool (!(ys.any (· == x)))) (at_ s h tk)) : wpAny (model PG w) A (compareOp .NotIn (.str x t) (.ref l)) Q E (at_ s h tk) :=
  notin_list_strs (s := at_ s h tk) hl.list hi k
end
theorem Rm.units_lt {n : Nat} {A : Around} (r : Rm n A) : A.units < cLine := by have := r.units; omega
theorem strs_drop {vs : List Value} {ys : List Str} (h : StrsAre vs ys) : ∀ n, StrsAre (vs.drop n) (ys.drop n) := by
  induction h with
  | nil => intro n; simp; exact .nil
  | cons a b h ih =>
    intro n
    cases n with
    | zero => exact .cons a b h
    | succ n => exact ih n
theorem strs_take {vs : List Value} {ys : List Str} (h : StrsAre vs ys) : ∀ n, StrsAre (vs.take n) (ys.take n) := by
  induction h with
  | nil => intro n; simp; exact .nil
  | cons a b h ih =>
    intro n
    cases n with
    | zero => exact .nil
    | succ n => exact .cons a b (ih n)
noncomputable def lastLt (two : List Str) (y : Str) : Bool :=
  match two.drop (two.length - 1) with
  | [] => true
  | z :: _ => decide (z.cps.toList < y.cps.toList)
noncomputable def only (one two : List Str) (twice : Bool) : List Str := copies (fun y => !(two.any (· == y))) (fun y => if twice && lastLt two y then 2 else 1) one
section
variable {w : World} {A : Around} {E : Value → Shared → Prop} {s : Shared} {h : Heap} {tk : Nat}
theorem ct_only {n : Nat} {a b : Addr} {vs us : List Value} {one two : List Str} {twice : Bool} {Q : Value → Shared → Prop} (G : Gr w h) (R : Rm (n + 2) A) (hA : A.handled = none) (ha : Is h a (lst vs)) (hv : StrsAre vs one)
    (hb : Is h b (lst us)) (hu : StrsAre us two) (h1 : vs.length ≤ 1000) (h2 : us.length ≤ 1000)
    (k : ∀ D out h' tk', h.get? D = none → Kp h h' → Is h' D (lst out) → StrsAre out (only one two twice) → Q (.ref D) (at_ s h' tk')) :
    wpAny (model PG w) A (call (.ref 125) [.ref a, .ref b, .bool twice]) Q E (at_ s h tk) := by
  refine enterC (binds := [("one", .ref a), ("two", .ref b), ("twice", .bool twice)]) G R rfl rfl rfl rfl rfl (by decide) rfl rfl rfl rfl ?_
  intro env L h₁ tk₁ Qf Ef hQ e S G₁ R₁
  dsimp only at e S ⊢
  have hA' : (A.deeper env).handled = none := hA
  have S : St h L [("one", .ref a)] [(L + 2, cll (some (.bool twice))), (L + 1, cll (some (.ref b)))] h₁ := S
  replace e : EnvIs env _ L [("twice", L + 2), ("two", L + 1)] := e
  have ha₁ := ha.keeps S.keep
  have hb₁ := hb.keeps S.keep
  have hct : Is h₁ (L + 2) (cll (some (.bool twice))) := S.at 0 rfl
  have hcb : Is h₁ (L + 1) (cll (some (.ref b))) := S.at 1 rfl
  have hun := R₁.units_lt
  with_reducible refine wpAny_execs_cons (wpAny_Return_some (comp_headG (cl := [("two", L + 1), ("twice", L + 2)]) e ?_ ?_ ?_ (lo0 S e (comp_copies hA' e ha₁ hv h1 (fun y => !(two.any (· == y))) (fun y => if twice && lastLt two y then 2 else 1) ?_ ?_ ?_ fun D out h₂ tk₂ hout nD k₂ lD => ?_)) ?_))
  · rfl
  · rfl
  · decide
  · intro y; split <;> decide
  · intro cenv C y ty locC ownC h₂ tk₂ Q' E' hy eC SC hsC hq
    with_reducible refine wpAny_tests_one (wpAny_isTrue_Compare1 (lo SC eC hsC (ceI eC (hcb.keeps SC.keep) (notinS (hb₁.keeps SC.keep) hu (wpAny_truthy_bool ?_)))) rfl)
    exact hq _
  · intro cenv C y ty locC ownC h₂ tk₂ Q' E' hy hp eC SC hsC hq
    have G₂ := G₁.keeps SC.keep
    have ends : ∀ (b : Bool) h₃ tk₃, Kp h₂ h₃ → b = (twice && lastLt two y) → (if b = true then wpAny (model PG w) (A.deeper env) (eval (.Constant (.int 2) 0 ⟨146, 67, 146, 68⟩) cenv) (fun v s₂ => wpAny (model PG w) (A.deeper env) (spliced (backTo ⟨146, 61, 146, 107⟩ (starEach [] cenv))) (fun vs s₂ => wpAny (model PG w) (A.deeper env) (call (.type "range") (v :: vs)) Q' E' s₂) E' s₂) E' (at_ s h₃ tk₃)
        else wpAny (model PG w) (A.deeper env) (eval (.Constant (.int 1) 0 ⟨146, 105, 146, 106⟩) cenv) (fun v s₂ => wpAny (model PG w) (A.deeper env) (spliced (backTo ⟨146, 61, 146, 107⟩ (starEach [] cenv))) (fun vs s₂ => wpAny (model PG w) (A.deeper env) (call (.type "range") (v :: vs)) Q' E' s₂) E' s₂) E' (at_ s h₃ tk₃)) := by
      intro b h₃ tk₃ k₃ hb
      rw [← hb] at hq
      cases b with
      | true =>
        rw [if_pos rfl]
        exact cint fun t1 k1 => sp_nil (range1 fun r h₄ tk₄ nr k₄ hr => hq _ _ _ (none_of_kp k₃ nr) (k₃.trans k₄) hr)
      | false =>
        rw [if_neg Bool.false_ne_true]
        exact cint fun t1 k1 => sp_nil (range1 fun r h₄ tk₄ nr k₄ hr => hq _ _ _ (none_of_kp k₃ nr) (k₃.trans k₄) hr)
    with_reducible refine wpAny_Call_NameR (bl (.type "range") G₂ eC (callW_t ?_ ?_))
    · rfl
    with_reducible refine sp_ife (wpAny_IfExp (wpAny_isTrue_BoolOp (wpAny_allTrue_And_cons (wpAny_isTrue_value (ceI eC (hct.keeps SC.keep) (wpAny_truthy_bool ?_)) ?_))))
    rotate_left
    · rfl
    cases htw : twice with
    | false => exact ends false h₂ tk₂ Kp.rfl (by rw [htw]; rfl)
    | true =>
      rw [if_pos rfl]
      refine wpAny_allTrue_And_cons ?_
      with_reducible refine wpAny_isTrue_Compare1 (slcL (ceI eC (hcb.keeps SC.keep) (pt_some (wpAny_UnaryOp (cint fun t1 k1 => negI fun t2 k2 => pt_none ?_)))) ?_) rfl
      · refine ⟨b, us, some (-1), none, h₂, k2, rfl, rfl, hb₁.keeps SC.keep, by omega, .int _ _, .none, fun D₁ h₃ nD₁ k₃ lD₁ => ?_⟩
        have e1 : (slicePick us.toArray (some (-1)) none none).toList = us.drop (us.length - 1) := by
          have := slicePick_last us.toArray 1 (Nat.le_refl _)
          rw [show ((-1 : Int)) = -((1 : Nat) : Int) from rfl, this]
          simp
        rw [e1] at lD₁
        with_reducible refine List_ (sp_name (lo (SC.pure k₃) eC hsC (sp_nil (newL ?_ fun D₂ h₄ nD₂ k₄ lD₂ => ?_))))
        · exact (by decide : 1 ≤ 1000000)
        have hd := strs_drop hu (us.length - 1)
        refine ltLL (e := fun j => ((two.drop (us.length - 1)).getD j "") == y) (c := fun j => decide (((two.drop (us.length - 1)).getD j "").cps.toList < y.cps.toList)) (lD₁.keeps k₄) lD₂ hun ?_ ?_ ?_
        · intro j v u hj hu'
          obtain ⟨z, tz, hz, rfl⟩ := strs_get hd hj
          cases j with
          | succ j => cases hu'
          | zero =>
            cases hu'
            have e2 : (two.drop (us.length - 1)).getD 0 "" = z := by rw [List.getD_eq_getElem?_getD, hz]; rfl
            rw [e2]
            exact EqAt.str_str _ _ _ _
        · intro j v u hj hu' _
          obtain ⟨z, tz, hz, rfl⟩ := strs_get hd hj
          cases j with
          | succ j => cases hu'
          | zero =>
            cases hu'
            have e2 : (two.drop (us.length - 1)).getD 0 "" = z := by rw [List.getD_eq_getElem?_getD, hz]; rfl
            rw [e2]
            exact RcB.lt_str _ _ _ _
        · have key : lexB (fun j => ((two.drop (us.length - 1)).getD j "") == y) (fun j => decide (((two.drop (us.length - 1)).getD j "").cps.toList < y.cps.toList)) ((us.drop (us.length - 1)).length < [Value.str y ty].length) (min (us.drop (us.length - 1)).length [Value.str y ty].length) 0 = lastLt two y := by
            rw [strs_len hd, strs_len hu]
            unfold lastLt
            have hl : (two.drop (two.length - 1)).length ≤ 1 := by rw [List.length_drop]; omega
            match hm : two.drop (two.length - 1), hl with
            | [], _ => rfl
            | [z], _ =>
              show (if (z == y) = true then _ else _) = _
              by_cases hzy : z = y
              · subst hzy
                rw [if_pos (by simp)]
                have : ¬ (z.cps.toList < z.cps.toList) := List.lt_irrefl _
                show (decide (1 < 1)) = decide (z.cps.toList < z.cps.toList)
                rw [decide_eq_false this]
                rfl
              · rw [if_neg (by simpa using hzy)]; rfl
          rw [key]
          refine wpAny_truthy_bool ?_
          split
          · rename_i ql
            refine wpAny_allTrue_And_nil (ends true h₄ k2 (k₃.trans k₄) (by rw [htw, ql]; rfl))
          · rename_i ql
            refine ends false h₄ k2 (k₃.trans k₄) (by rw [htw]; simpa using ql)
      · intro _ _; rfl
  · exact hQ _ _ (k D out _ _ (none_of_kp S.keep nD) (S.keep.trans k₂) lD hout)
  · intro _; rfl
end
end Mine
end
section -- Exc
open PySem PySem.W PyProof.Rows PySem.Spec PySem.Calls PySem.SeqAt
set_option Elab.async false
set_option maxRecDepth 100000
set_option maxHeartbeats 1000000
set_option pp.maxSteps 3000
namespace Mine
structure NewX (h h' : Heap) (e : Addr) (cls : String) (c : Value) : Prop where
  keeps : Kp h h'
  new : h.get? e = none
  there : ∃ ob t, h'.get? e = some ob ∧ ob.cls = .type cls ∧ ob.data = .fields #[t, .none, c, .none, .bool false, .none]
theorem NewX.of {h h' : Heap} {e : Addr} {cls : String} (x : Heap.NewExc h h' e cls) : NewX h h' e cls .none := ⟨x.keeps, x.new, x.there⟩
noncomputable def MayR (A : Around) (h : Heap) : Prop := A.handled = none ∨ ∃ e₁ o vs, A.handled = some (.ref e₁) ∧ h.get? e₁ = some o ∧ o.data = .fields vs ∧ vs[2]? = some .none
theorem MayR.in1 {A : Around} {h : Heap} (x : MayR A h) : MayR A.in1 h := x
theorem entry_unchain : entryFor table "proto.unchain" = some Builtin.«proto.unchain» := entryFor_of_tree (by kernel_rfl)
section
variable {prog : Program} {w : World} {A : Around} {E : Value → Shared → Prop} {s : Shared}
theorem raise_any {α : Type} {cls msg : String} {Q : α → Shared → Prop} (hp : PlainExc cls) (hh : MayR A s.heap)
    (k : ∀ h' tk e c, NewX s.heap h' e cls c → (A.handled = none → c = .none) → E (.ref e) { s with heap := h', toks := tk }) :
    wpAny (model prog w) A (raiseErrorWords cls msg : Sem α) Q E s := by
  rcases id hh with hn | ⟨e₁, o₁, vs₁, hs, ho₁, hd₁, hc₁⟩
  · exact wpAny_raiseErrorWords hp hn fun h' tk e x => k h' tk e .none (NewX.of x) fun _ => rfl
  · unfold raiseErrorWords
    refine wpAny_bind (wpAny_mkText (wpAny_bind ?_))
    unfold newExc newTuple
    refine wpAny_bind (wpAny_newObj_type ?_)
    refine wpAny_bind (m := firstArgMember _ _) (wpAny_of_eq (a := Value.none) (by simp only [firstArgMember, hp.first]; rfl) ?_)
    rw [hp.own]
    refine wpAny_newObj_type ?_
    unfold raiseNew
    refine wpAny_bind (wpAny_handled ?_)
    rw [hs]
    have lt₁ : e₁ < s.heap.objs.size := Heap.lt_size ho₁
    generalize hg : s.heap.push { cls := .type "tuple", data := .seq _ } = g
    have zg : g.objs.size = s.heap.objs.size + 1 := by rw [← hg, Heap.size_push]
    have kg : Kp s.heap g := by rw [← hg]; exact kp_push _ _
    have ho₂ := Heap.get?_push_of_some (h := g) { cls := .type cls, data := .fields (#[Value.ref s.heap.objs.size, .none, .none, .none, .bool false, Value.none] ++ #[]) } (kg _ _ ho₁)
    have nee : (Value.ref e₁ != Value.ref g.objs.size) = true := by
      rw [bne_iff_ne]; intro q; injection q with q
      have z : g.objs.size < s.heap.objs.size := q ▸ lt₁
      rw [zg] at z; exact Nat.lt_irrefl _ (Nat.lt_of_succ_lt z)
    show wpAny _ _ (if (Value.ref e₁ != Value.ref g.objs.size) = true then _ else _) _ _ _
    rw [if_pos nee]
    refine wpAny_bind (wpAny_holding (wpAny_runValue (codeAny_builtin entry_unchain ?_)))
    show wpAny _ _ (field (.ref e₁) 2 >>= _) _ _ _
    refine wpAny_bind (wpAny_field ho₂ hd₁ hc₁ ?_)
    show wpAny _ _ (ret Value.none) _ _ _
    refine wpAny_pure ?_
    show wpAny _ _ (updateField g.objs.size 2 (.ref e₁) >>= _) _ _ _
    unfold updateField
    refine wpAny_bind ?_
    have he := Heap.get?_push_size g (o := { cls := .type cls, data := .fields (#[Value.ref s.heap.objs.size, .none, .none, .none, .bool false, Value.none] ++ #[]) }) rfl
    refine wpAny_bind (wpAny_load he ?_)
    refine wpAny_ite_split (fun _ => ?_) (fun q => absurd (by decide : 2 < 6) q)
    refine wpAny_update he (wpAny_throw ?_)
    refine k _ _ _ (.ref e₁) ⟨fun b o q => ?_, ?_, ?_⟩ fun q => by rw [hs] at q; cases q
    · have ne : g.objs.size ≠ b := Nat.ne_of_gt (Heap.lt_size (kg _ _ q))
      rw [Heap.get?_update_other _ _ ne]
      exact Heap.get?_push_of_some _ (kg _ _ q)
    · exact Heap.get?_none_of_le (by show s.heap.objs.size ≤ g.objs.size; rw [zg]; exact Nat.le_succ _)
    · exact ⟨_, _, Heap.get?_update_self _ he rfl, rfl, rfl⟩
theorem getItem_out {l : Addr} {items : Array Value} {k : Int} {t : Tok} {Q : Value → Shared → Prop} (hA : MayR A s.heap) (hl : s.heap.IsList l items) (hout : (items.size : Int) ≤ k) (hhi : k < 1000000)
    (hE : ∀ h' tk e c, NewX s.heap h' e "IndexError" c → (A.handled = none → c = .none) → E (.ref e) { s with heap := h', toks := tk }) :
    wpAny (model prog w) A (getItem (.ref l) (.int k t)) Q E s := by
  obtain ⟨o, ho, hc, ne, hd⟩ := id hl
  unfold getItem
  try with_reducible refine wpAny_holding ?_
  first | refine wpAny_bind (wpAny_pure ?_) | skip
  refine wpAny_bind (wpAny_sequenceKey hl.typeIs (by decide) ?_)
  refine wpAny_bind (wpAny_callSpecial?_slot (name := Str.ofString "__getitem__") hl.typeIs slot_list_getitem
    (wpAny_call_entry slot_list_getitem hl.typeIs entry_list_getitem ?_ (args_list_getitem _ _)))
  show wpAny _ _ (Builtin.List.listSubscript? (.int k t) >>= _) _ _ s
  refine wpAny_bind (wpAny_listSubscript_int (fitsIndex_both (by omega) (by omega)) ?_)
  clear hhi
  cases k with
  | negSucc j => exact absurd hout (by have := Int.negSucc_lt_zero j; omega)
  | ofNat j =>
    have hx : items[j]? = none := Array.getElem?_eq_none (by have : (items.size : Int) ≤ (j : Int) := hout; omega)
    show wpAny _ _ ((seqItemAt l j >>= fun r => pure (r.map (j, ·))) >>= _) _ _ s
    refine wpAny_bind (wpAny_bind (wpAny_seqItemAt ho hd (wpAny_pure ?_)))
    rw [hx]
    exact wpAny_bind (wpAny_rule (wpAny_bind (raise_any plainExc_IndexError hA.in1 hE)))
end
noncomputable def slt (o : Obj) : Sort_ := fun o' => ∃ sl, o' = { o with slots := sl }
noncomputable def excS (X : String) (T : Addr) (c : Value) : Sort_ := fun o => o.cls = .type X ∧ ∃ vs, o.data = .fields vs ∧ vs[1]? = some (.ref T) ∧ vs[2]? = some c
noncomputable def tbS (fl : Value) : Sort_ := fun o => ∃ ts, o.data = .fields ts ∧ ts[3]? = some fl
structure Fk (A : Around) (env : Env) (L : Addr) (outer : List Env) (fo : List (Addr × Sort_)) : Prop where
  frames : A.frames = some (env :: outer)
  frame : env.frame = some L
  kind : env.scope.kind ≠ .module
  outs : ∀ env' ∈ outer, env'.scope.kind ≠ .module ∧ ∃ b o, env'.frame = some b ∧ (b, slt o) ∈ fo ∧ ∀ vs, o.data ≠ .fields vs
theorem Fk.mark {A : Around} {env : Env} {L : Addr} {outer : List Env} {fo : List (Addr × Sort_)} (F : Fk A env L outer fo) (e : Option Value) : Fk (A.mark e) env L outer fo :=
  ⟨by have := F.frames; cases e <;> exact this, F.frame, F.kind, F.outs⟩
section
variable {w : World} {A : Around} {E : Value → Shared → Prop} {s : Shared} {h h₁ : Heap} {tk : Nat} {env : Env} {L : Addr} {h₀ : Heap} {loc : List (Str × Value)} {own fo : List (Addr × Sort_)} {outer : List Env}
noncomputable def noH : Heap := {}
theorem emptyHeap_none (b : Addr) : noH.get? b = none := Heap.get?_none_of_le (Nat.zero_le _)
theorem funFrames_of (S : St h₀ L loc (own ++ fo) h) (F : Fk A env L outer fo) (k : Kp h h₁) : h₁.FunFrames noH (env :: outer) := by
  refine ⟨F.kind, ?_, ?_⟩
  · obtain ⟨o, es, ep, ho, hd, _⟩ := S.ns
    exact ⟨L, o, F.frame, emptyHeap_none _, k _ _ ho, fun vs q => by rw [hd] at q; cases q⟩
  · have key : ∀ l : List Env, (∀ env' ∈ l, env'.scope.kind ≠ .module ∧ ∃ b o, env'.frame = some b ∧ (b, slt o) ∈ fo ∧ ∀ vs, o.data ≠ .fields vs) → h₁.FunFrames noH l := by
      intro l
      induction l with
      | nil => intro _; trivial
      | cons a r ih =>
        intro q
        obtain ⟨hk, b, o, hb, hm, hd⟩ := q a (.head _)
        obtain ⟨o', ho', sl, rfl⟩ := S.owns (b, slt o) (List.mem_append.mpr (.inr hm))
        exact ⟨hk, ⟨b, _, hb, emptyHeap_none _, k _ _ ho', fun vs => hd vs⟩, ih fun x hx => q x (.tail _ hx)⟩
    exact key outer F.outs
theorem frames_mem (F : Fk A env L outer fo) {b : Addr} (hb : b ∈ (env :: outer).filterMap (·.frame)) : b = L ∨ ∃ o, (b, slt o) ∈ fo ∧ ∀ vs, o.data ≠ .fields vs := by
  obtain ⟨x, hx, hf⟩ := List.mem_filterMap.mp hb
  rcases List.mem_cons.mp hx with rfl | hx
  · rw [F.frame] at hf; cases hf; exact .inl rfl
  · obtain ⟨_, b', o, hb', hm, hd⟩ := F.outs x hx
    rw [hb'] at hf; cases hf; exact .inr ⟨o, hm, hd⟩
theorem note_new {e : Addr} {X : String} {c : Value} {Q : Unit → Shared → Prop} (S : St h₀ L loc (own ++ fo) h) (F : Fk A env L outer fo) (hx : NewX h h₁ e X c)
    (k : ∀ T h₂, St h₀ L loc ((e, excS X T c) :: (T, tbS (rawInt L)) :: (own ++ fo)) h₂ → Q () (at_ s h₂ tk)) :
    wpAny (model PG w) A (noteFrame (.ref e) env) Q E (at_ s h₁ tk) := by
  obtain ⟨oe, t, he, hcls, hd⟩ := hx.there
  have hene : e ∉ (env :: outer).filterMap (·.frame) := fun hm => by
    rcases frames_mem F hm with q | ⟨o, hm, _⟩
    · obtain ⟨o, es, ep, ho, _⟩ := S.ns
      rw [← q, hx.new] at ho; cases ho
    · obtain ⟨o', ho', _⟩ := S.owns _ (List.mem_append.mpr (.inr hm))
      have ho'' : h.get? e = some o' := ho'
      rw [hx.new] at ho''; cases ho''
  unfold noteFrame
  simp only [F.frame]
  refine wpAny_bind (wpAny_field (s := at_ s h₁ tk) he hd (x := .none) rfl ?_)
  rw [if_neg (by decide)]
  refine wpAny_bind (wpAny_frameOf_fun (s := at_ s h₁ tk) (base := noH) F.frames (funFrames_of S F hx.keeps) F.frame fun h₂ hs₂ => ?_)
  have hs₂ : Heap.SlotsOnly ((env :: outer).filterMap (·.frame)) h₁ h₂ := hs₂
  refine wpAny_bind (wpAny_entryPlaceOf fun pl hpl => ?_)
  unfold EntryCells.newEntry newFields
  refine wpAny_bind (wpAny_newObj_type ?_ (hpl.sizeOk5 _ _ _ _ _))
  have he₁ : h₂.get? e = some oe := (hs₂.2.1 e hene).trans he
  generalize hot : ({ cls := .type "traceback", dict := none, data := .fields ([Value.none, .ref L, .none, rawInt L, .none] ++ (if pl.isEmpty then List.replicate 6 Value.none else pl)).toArray } : Obj) = ot
  have he₂ := Heap.get?_push_of_some (h := h₂) ot he₁
  have hsz : 1 < (#[t, Value.none, c, .none, .bool false, .none] : Array Value).size := by show 1 < 6; decide
  refine wpAny_setField (s := at_ s (h₂.push ot) tk) he₂ hd hsz ?_
  have hTe : h₂.objs.size ≠ e := Nat.ne_of_gt (Heap.lt_size he₁)
  have hd₃ := Obj.data_mapFields hd (·.setIfInBounds 1 (Value.ref h₂.objs.size))
  have he₃ := Heap.get?_update_self (Obj.mapFields (·.setIfInBounds 1 (Value.ref h₂.objs.size))) he₂ (Obj.isFreed_of_fields hd₃)
  have hT₃ : (h₂.push ot).get? h₂.objs.size = some ot := Heap.get?_push_size h₂ (by rw [← hot]; rfl)
  have nT : h.get? h₂.objs.size = none := by
    refine none_of_kp hx.keeps (Heap.get?_none_of_le ?_)
    rw [hs₂.1]; exact Nat.le_refl _
  have keep : ∀ b o, h.get? b = some o → b ≠ e := fun b o q z => by rw [z, hx.new] at q; cases q
  have other : ∀ b o o', h.get? b = some o → h₂.get? b = some o' → ((h₂.push ot).update e (Obj.mapFields (·.setIfInBounds 1 (Value.ref h₂.objs.size)))).get? b = some o' := fun b o o' q q' => by
    rw [Heap.get?_update_other _ _ (Ne.symm (keep b o q))]
    exact Heap.get?_push_of_some _ q'
  refine k h₂.objs.size _ ?_
  have SL : ∀ b o, h.get? b = some o → ∃ sl, h₂.get? b = some { o with slots := sl } := fun b o q => hs₂.2.2 b o (hx.keeps b o q)
  have SN : ∀ b o, b ∉ (env :: outer).filterMap (·.frame) → h.get? b = some o → h₂.get? b = some o := fun b o hb q => (hs₂.2.1 b hb).trans (hx.keeps b o q)
  have base : ∀ b o, h₀.get? b = some o → b ∉ (env :: outer).filterMap (·.frame) := fun b o q hm => by
    rcases frames_mem F hm with z | ⟨o', hm, _⟩
    · rw [z, S.new] at q; cases q
    · have := (S.fresh _ (List.mem_append.mpr (.inr hm))).1
      rw [q] at this; cases this
  obtain ⟨oL, es, ep, hL, hLd, hLr⟩ := id S.ns
  refine ⟨fun b o q => other b o o (S.keep b o q) (SN b o (base b o q) (S.keep b o q)), ?_, S.new, fun p hp => ?_, fun p hp => ?_, ?_⟩
  · obtain ⟨sl, q⟩ := SL L oL hL
    exact ⟨_, es, ep, other L oL _ hL q, hLd, hLr⟩
  · rcases List.mem_cons.mp hp with rfl | hp
    · refine ⟨_, he₃, (Obj.cls_mapFields _ _).trans hcls, _, hd₃, ?_, ?_⟩
      · rfl
      · rfl
    rcases List.mem_cons.mp hp with rfl | hp
    · refine ⟨ot, (Heap.get?_update_other _ _ (Ne.symm hTe)).trans hT₃, ?_⟩
      rw [← hot]
      exact ⟨_, rfl, by first | rfl | (simp; done) | (rcases hpl with rfl | ⟨_, _, _, _, _, _, _, rfl⟩ <;> simp)⟩
    · obtain ⟨o, q, pr⟩ := S.owns p hp
      by_cases hm : p.1 ∈ (env :: outer).filterMap (·.frame)
      · rcases frames_mem F hm with z | ⟨o', hm', _⟩
        · exact absurd z (S.fresh p hp).2
        · have mem' : (p.1, slt o') ∈ own ++ fo := List.mem_append.mpr (.inr hm')
          obtain ⟨i, hi⟩ := List.getElem?_of_mem hp
          obtain ⟨j, hj⟩ := List.getElem?_of_mem mem'
          have ij := nodup_key S.apart (a := p.1) (o := p.2) (o' := slt o') hi hj
          subst ij
          rw [hi] at hj
          have pe : p.2 = slt o' := by have := Option.some.inj hj; rw [this]
          rw [pe] at pr ⊢
          obtain ⟨sl₀, rfl⟩ := pr
          obtain ⟨sl, q'⟩ := SL _ _ q
          exact ⟨_, other _ _ _ q q', sl, rfl⟩
      · exact ⟨o, other _ _ _ q (SN _ _ hm q), pr⟩
  · rcases List.mem_cons.mp hp with rfl | hp
    · exact ⟨none_of_kp S.keep hx.new, fun z => by rw [← z] at hL; rw [hx.new] at hL; cases hL⟩
    rcases List.mem_cons.mp hp with rfl | hp
    · exact ⟨none_of_kp S.keep nT, fun z => by
        have z' : h₂.objs.size = L := z
        rw [← z', nT] at hL; cases hL⟩
    · exact S.fresh p hp
  · have nin : ∀ a, h.get? a = none → a ∉ (own ++ fo).map (·.1) := fun a q hm => by
      obtain ⟨p, hp, rfl⟩ := List.mem_map.mp hm
      obtain ⟨o, q', _⟩ := S.owns p hp
      rw [q] at q'; cases q'
    rw [List.map_cons, List.map_cons, List.nodup_cons, List.nodup_cons]
    refine ⟨fun hm => ?_, nin _ nT, S.apart⟩
    rcases List.mem_cons.mp hm with z | hm
    · exact hTe z.symm
    · exact nin _ hx.new hm
theorem set_fl {e T : Addr} {X : String} {c fl : Value} {f : Option Addr} {Q : Unit → Shared → Prop} (S : St h₀ L loc own h) (i j : Nat) (hi : own[i]? = some (e, excS X T c)) (hj : own[j]? = some (T, tbS fl))
    (k : ∀ h', St h₀ L loc (own.set j (T, tbS (f.elim .none fun a => rawInt a))) h' → Q () (at_ s h' tk)) : wpAny (model PG w) A (setFlight (.ref e) f) Q E (at_ s h tk) := by
  obtain ⟨oe, he, _, vs, hd, h1, _⟩ := S.at i hi
  obtain ⟨ot, ht, ts, htd, h3⟩ := S.at j hj
  unfold setFlight
  refine wpAny_bind (wpAny_field (s := at_ s h tk) he hd h1 ?_)
  rw [if_pos (show (Value.ref T != Value.none) = true from by simp)]
  refine wpAny_setField (s := at_ s h tk) ht htd (Array.getElem?_eq_some_iff.mp h3).1 (k _ (S.upd j hj (fun b o hb q => ?_) ?_))
  · exact (Heap.get?_update_other _ _ (Ne.symm hb)).trans q
  · refine ⟨_, Heap.get?_update_self _ ht (Obj.isFreed_of_fields (Obj.data_mapFields htd _)), _, Obj.data_mapFields htd _, ?_⟩
    have := (Array.getElem?_eq_some_iff.mp h3).1
    simp [this]
theorem note_again {e T : Addr} {X : String} {c : Value} {Q : Unit → Shared → Prop} (hf : env.frame = some L) (S : St h₀ L loc own h) (i j : Nat) (hi : own[i]? = some (e, excS X T c)) (hj : own[j]? = some (T, tbS (rawInt L)))
    (k : Q () (at_ s h tk)) : wpAny (model PG w) A (noteFrame (.ref e) env) Q E (at_ s h tk) := by
  obtain ⟨oe, he, _, vs, hd, h1, _⟩ := S.at i hi
  obtain ⟨ot, ht, ts, htd, h3⟩ := S.at j hj
  exact wpAny_noteFrame_inFlight (s := at_ s h tk) hf he hd h1 ht htd h3 k
theorem came_back {e T : Addr} {X : String} {c fl : Value} (hf : env.frame = some L) (S : St h₀ L loc own h) (i j : Nat) (hi : own[i]? = some (e, excS X T c)) (hj : own[j]? = some (T, tbS fl))
    (k : ∀ h', St h₀ L loc (own.set j (T, tbS (rawInt L))) h' → E (.ref e) (at_ s h' tk)) : cameBackBy (model PG w) A env E (.ref e) (at_ s h tk) := by
  obtain ⟨oe, he, _, vs, hd, h1, _⟩ := S.at i hi
  unfold cameBackBy
  refine wpAny_bind (wpAny_field (s := at_ s h tk) he hd h1 ?_)
  rw [if_neg (show ¬ ((Value.ref T == Value.none) = true) from by simp)]
  rw [hf]
  exact set_fl S i j hi hj k
theorem pass_on {α : Type} {e T : Addr} {X : String} {c fl : Value} {what : String} {Q : α → Shared → Prop} (hf : env.frame = some L) (S : St h₀ L loc own h) (i j : Nat) (hi : own[i]? = some (e, excS X T c)) (hj : own[j]? = some (T, tbS fl))
    (k : ∀ h', St h₀ L loc (own.set j (T, tbS (rawInt L))) h' → E (.ref e) (at_ s h' tk)) : wpAny (model PG w) A (PySem.passOn what (.ref e) env : Sem α) Q E (at_ s h tk) := by
  obtain ⟨oe, he, _, vs, hd, h1, _⟩ := S.at i hi
  unfold PySem.passOn
  refine wpAny_bind (wpAny_field (s := at_ s h tk) he hd h1 ?_)
  rw [if_neg (show ¬ ((Value.ref T == Value.none) = true) from by simp)]
  rw [hf]
  exact wpAny_bind (set_fl S i j hi hj fun h' S' => wpAny_throw (k h' S'))
theorem thrown {e : Addr} {X : String} {c : Value} {E : Value → Shared → Prop} (S : St h₀ L loc (own ++ fo) h) (F : Fk A env L outer fo) (hx : NewX h h₁ e X c)
    (k : ∀ T h₂, St h₀ L loc ((e, excS X T c) :: (T, tbS (rawInt L)) :: (own ++ fo)) h₂ → E (.ref e) (at_ s h₂ tk)) : notedBy (model PG w) A env E (.ref e) (at_ s h₁ tk) :=
  note_new S F hx k
end
end Mine
end
section -- Eat
open PySem PySem.W PyProof.Rows PySem.Spec PySem.Calls PySem.SeqAt
set_option Elab.async false
set_option maxRecDepth 100000
set_option maxHeartbeats 1000000
set_option pp.maxSteps 3000
namespace Mine
noncomputable def MayO (A : Around) (own : List (Addr × Sort_)) : Prop := A.handled = none ∨ ∃ e₁ X T₁, A.handled = some (.ref e₁) ∧ (e₁, excS X T₁ .none) ∈ own
theorem MayO.may {A : Around} {h₀ h : Heap} {L : Addr} {loc : List (Str × Value)} {own fo : List (Addr × Sort_)} (m : MayO A own) (S : St h₀ L loc (own ++ fo) h) : MayR A h := by
  rcases m with q | ⟨e₁, X, T₁, q, hm⟩
  · exact .inl q
  · obtain ⟨o, ho, _, vs, hd, _, h2⟩ := S.owns _ (List.mem_append.mpr (.inl hm))
    exact .inr ⟨e₁, o, vs, q, ho, hd, h2⟩
theorem St.relook {h₀ h : Heap} {L : Addr} {loc loc' : List (Str × Value)} {own : List (Addr × Sort_)} (S : St h₀ L loc own h) (hl : ∀ x, loc'.lookup x = loc.lookup x) : St h₀ L loc' own h :=
  ⟨S.keep, by have : (fun x => loc'.lookup x) = fun x => loc.lookup x := funext hl
              rw [this]; exact S.ns, S.new, S.owns, S.fresh, S.apart⟩
noncomputable def sameS (x y : Str) : Bool := y.cps.toList == x.cps.toList
noncomputable def eatTo (ss : List Str) (x : Str) (p : Nat) : Nat := p + ((ss.drop p).takeWhile (sameS x)).length
theorem eatTo_step {ss : List Str} {x y : Str} {p : Nat} (h : ss[p]? = some y) : eatTo ss x p = if sameS x y then eatTo ss x (p + 1) else p := by
  unfold eatTo
  obtain ⟨hl, e⟩ := List.getElem?_eq_some_iff.mp h
  rw [List.drop_eq_getElem_cons hl, e, List.takeWhile_cons]
  by_cases q : sameS x y = true
  · rw [if_pos q, if_pos q, List.length_cons]; omega
  · rw [if_neg q, if_neg q]; rfl
theorem eatTo_end {ss : List Str} {x : Str} {p : Nat} (h : ss.length ≤ p) : eatTo ss x p = p := by
  unfold eatTo
  rw [List.drop_of_length_le h]; rfl
theorem eatTo_le {ss : List Str} {x : Str} {p : Nat} (h : p ≤ ss.length) : eatTo ss x p ≤ ss.length := by
  unfold eatTo
  have h1 : ((ss.drop p).takeWhile (sameS x)).length ≤ (ss.drop p).length := (List.takeWhile_sublist _).length_le
  rw [List.length_drop] at h1
  omega
theorem eatTo_ge {ss : List Str} {x : Str} {p : Nat} : p ≤ eatTo ss x p := Nat.le_add_right _ _
section
variable {w : World} {A : Around} {E : Value → Shared → Prop} {s : Shared} {h h₁ : Heap} {tk : Nat} {env : Env} {sc : Scope} {cs : List (Str × Addr)} {L : Addr} {h₀ : Heap} {loc : List (Str × Value)} {own fo : List (Addr × Sort_)} {outer : List Env}
theorem sub_out {value slice : Expr} {l : Addr} {vs : List Value} {i : Int} {t : Tok} {Q : Value → Shared → Prop} (hA : MayR A h) (hl : h.IsList l vs.toArray) (h0 : (vs.length : Int) ≤ i) (h1 : i < 1000000)
    (k : ∀ h' tk' e c, NewX h h' e "IndexError" c → (A.handled = none → c = .none) → E (.ref e) (at_ s h' tk'))
    (hs : subscripted slice false (.ref l) (.int i t) = operate [.ref l, .int i t] (getItem (.ref l) (.int i t)) := by rfl) :
    wpAny (model PG w) A (subscriptTail value slice (.ref l) (.int i t)) Q E (at_ s h tk) :=
  tail_any (s := at_ s h tk) (T := "list") hl.typeIs slot_list_getitem.lookup (getItem_out (s := at_ s h tk) hA hl (by simpa using h0) h1 fun h' tk' e c x y => k h' tk' e c x y) hs
theorem inc {iN : Str} {p6 p7 p8 : Pos} {q : Nat} {t : Tok} {Q : Flow → Shared → Prop} (S : St h₀ L loc own h) (e : EnvIs env sc L cs) (hv : loc.lookup iN = some (.int q t)) (hi : sc.names.lookup iN = some .local)
    (k : ∀ h' tk' t', St h₀ L (aset iN (.int (q + 1 : Nat) t') loc) own h' → Q .next (at_ s h' tk')) :
    wpAny (model PG w) A (exec (.AugAssign (.Name iN p6) .Add (.Constant (.int 1) 0 p7) p8) env) Q E (at_ s h tk) := by
  refine wpAny_AugAssign_Name (ldn S e hi hv (cint fun t1 k1 => iaddI fun t2 k2 => ?_))
  exact stl S e hi fun h' tk' S' => k _ _ _ S'
theorem eat {sN iN xN : Str} {p1 p2 p3 p4 p5 p6 p7 p8 p9 : Pos} {l : Addr} {vs : List Value} {ss : List Str} {x : Str} {tx tp : Tok} {p : Nat} {Q : Flow → Shared → Prop} (S : St h₀ L loc (own ++ fo) h) (F : Fk A env L outer fo) (e : EnvIs env sc L cs) (M : MayO A own)
    (hl : Is h₀ l (lst vs)) (hss : StrsAre vs ss) (hsz : ss.length < 1000) (hp : p ≤ ss.length) (ls : loc.lookup sN = some (.ref l)) (lx : loc.lookup xN = some (.str x tx)) (li : loc.lookup iN = some (.int p tp))
    (ks : sc.names.lookup sN = some .local) (kx : sc.names.lookup xN = some .local) (ki : sc.names.lookup iN = some .local) (n1 : sN ≠ iN) (n2 : xN ≠ iN)
    (hn : eatTo ss x p < ss.length → ∀ h' tk' t', St h₀ L (aset iN (.int (eatTo ss x p) t') loc) (own ++ fo) h' → Q .next (at_ s h' tk'))
    (hx : eatTo ss x p = ss.length → ∀ e T c h' tk' t', St h₀ L (aset iN (.int (eatTo ss x p) t') loc) ((e, excS "IndexError" T c) :: (T, tbS (rawInt L)) :: (own ++ fo)) h' → (A.handled = none → c = .none) → E (.ref e) (at_ s h' tk'))
    (d1 : (sN == ("__debug__" : Str)) = false := by decide) (d2 : (xN == ("__debug__" : Str)) = false := by decide) (d3 : (iN == ("__debug__" : Str)) = false := by decide) :
    wpAny (model PG w) A (exec (.While (.Compare (.Subscript (.Name sN p1) (.Name iN p2) p3) [.Eq] [.Name xN p4] p5) [.AugAssign (.Name iN p6) .Add (.Constant (.int 1) 0 p7) p8] [] p9) env) Q E (at_ s h tk) := by
  refine wpAny_While (codeAny_whileLoop (fun k s' => ∃ q t h' tk', k + q = ss.length ∧ eatTo ss x q = eatTo ss x p ∧ s' = at_ s h' tk' ∧ St h₀ L (aset iN (.int q t) loc) (own ++ fo) h') ?_ (ss.length - p) ⟨p, tp, h, tk, by omega, rfl, rfl, S.relook fun y => ?_⟩)
  · rintro k s' ⟨q, t, h', tk', hk, hq, rfl, S'⟩
    have ls' := asl (x := iN) (v := .int q t) ls n1
    have lx' := asl (x := iN) (v := .int q t) lx n2
    have li' := asl_self (x := iN) (v := .int q t) (loc := loc)
    have hl' := hl.keeps S'.keep
    by_cases hlt : q < ss.length
    · obtain ⟨ty, hv⟩ := strs_at hss (List.getElem?_eq_getElem hlt)
      generalize hy : ss[q] = y at hv
      have hy' : ss[q]? = some y := by rw [List.getElem?_eq_getElem hlt, hy]
      refine wpAny_isTrue_Compare1 (Subscript_ (lo S' e ls' (lo S' e li' (sub_list (v := .str y ty) hl'.list (by omega) (by omega) (by simpa using hv) (lo S' e lx' (eqS (wpAny_truthy_bool ?_)) kx d2)) ki d3) ks d1))
      have st := eatTo_step (x := x) hy'
      by_cases hs : sameS x y = true
      · rw [if_pos hs] at st
        have hs' : (y.cps.toList == x.cps.toList) = true := hs
        rw [if_pos hs']
        refine wpAny_execs_cons (inc S' e li' ki fun h₂ tk₂ t₂ S₂ => wpAny_execs_nil ?_)
        refine ⟨k - 1, by omega, q + 1, t₂, h₂, tk₂, by omega, by rw [← st, hq], rfl, S₂.relook fun z => ?_⟩
        rw [aset_lookup, aset_lookup, aset_lookup]; split <;> rfl
      · rw [if_neg hs] at st
        have hs' : ¬ (y.cps.toList == x.cps.toList) = true := hs
        rw [if_neg hs']
        have eq : eatTo ss x p = q := by rw [← hq, st]
        refine wpAny_execs_nil (hn (by rw [eq]; exact hlt) _ _ t ?_)
        rw [eq]; exact S'
    · have hqn : q = ss.length := by omega
      have eq : eatTo ss x p = q := by rw [← hq, eatTo_end (by omega)]
      refine wpAny_isTrue_Compare1 (Subscript_ (lo S' e ls' (lo S' e li' (sub_out (M.may S') hl'.list (by rw [strs_len hss]; omega) (by omega) fun h₂ tk₂ e₂ c hx₂ hc => ?_) ki d3) ks d1))
      refine thrown S' F hx₂ fun T h₃ S₃ => ?_
      refine came_back F.frame S₃ 0 1 rfl rfl fun h₄ S₄ => ?_
      refine hx (by rw [eq, hqn]) e₂ T c h₄ tk₂ t ?_ hc
      rw [eq]; exact S₄
  · rw [aset_lookup]; split
    · rename_i q; rw [q, li]
    · rfl
end
end Mine
end
section -- Frm
open PySem PySem.W PyProof.Rows PySem.Spec PySem.Calls PySem.SeqAt
set_option Elab.async false
set_option maxRecDepth 100000
set_option maxHeartbeats 1000000
set_option pp.maxSteps 3000
namespace Mine
noncomputable def Kg (l : List Addr) (h h' : Heap) : Prop := (∀ b o, b ∉ l → h.get? b = some o → h'.get? b = some o) ∧ ∀ b ∈ l, ∀ o, h.get? b = some o → ∃ sl, h'.get? b = some { o with slots := sl }
theorem Kg.of {l : List Addr} {h h' : Heap} (k : Kp h h') : Kg l h h' := ⟨fun b o _ e => k b o e, fun b _ o e => ⟨o.slots, k b o e⟩⟩
theorem Kg.trans {l : List Addr} {a b c : Heap} (x : Kg l a b) (y : Kg l b c) : Kg l a c :=
  ⟨fun p o hp e => y.1 p o hp (x.1 p o hp e), fun p hp o e => by
    obtain ⟨s1, e1⟩ := x.2 p hp o e
    obtain ⟨s2, e2⟩ := y.2 p hp _ e1
    exact ⟨s2, e2⟩⟩
structure Ou (A : Around) (h : Heap) (outer : List Env) (frs : List (Addr × Obj)) : Prop where
  frames : A.frames = some outer
  outs : ∀ env' ∈ outer, env'.scope.kind ≠ .module ∧ ∃ p ∈ frs, env'.frame = some p.1
  dict : ∀ p ∈ frs, ∃ es ep, p.2.data = .dict es ep
  there : ∀ p ∈ frs, h.get? p.1 = some p.2
  nodup : (frs.map (·.1)).Nodup
noncomputable def slots (frs : List (Addr × Obj)) : List (Addr × Sort_) := frs.map fun p => (p.1, slt p.2)
theorem slots_keys (frs : List (Addr × Obj)) : (slots frs).map (·.1) = frs.map (·.1) := by unfold slots; rw [List.map_map]; rfl
section
variable {A : Around} {h h₁ h' : Heap} {outer : List Env} {frs : List (Addr × Obj)} {L : Addr} {loc : List (Str × Value)} {own : List (Addr × Sort_)} {env : Env}
theorem Ou.fk (O : Ou A h outer frs) (hf : env.frame = some L) (hk : env.scope.kind ≠ .module) : Fk (A.deeper env) env L outer (slots frs) :=
  ⟨by show A.frames.map _ = _; rw [O.frames]; rfl, hf, hk, fun env' he => by
    obtain ⟨q, p, hp, hfp⟩ := O.outs env' he
    refine ⟨q, p.1, p.2, hfp, List.mem_map_of_mem (f := fun p : Addr × Obj => (p.1, slt p.2)) hp, fun vs z => ?_⟩
    obtain ⟨es, ep, hd⟩ := O.dict p hp
    rw [hd] at z; cases z⟩
theorem hid_kp (h : Heap) (l : List Addr) : Kp (hideAll h l) h := fun _ _ e => of_hideAll l e
theorem St.hide (S : St h L loc own h₁) (O : Ou A h outer frs) : St (hideAll h (frs.map (·.1))) L loc (own ++ slots frs) h₁ := by
  have nn : ∀ {b}, h.get? b = none → (hideAll h (frs.map (·.1))).get? b = none := fun {b} q => none_of_kp (hid_kp h _) q
  refine ⟨(hid_kp h _).trans S.keep, S.ns, nn S.new, fun p hp => ?_, fun p hp => ?_, ?_⟩
  · rcases List.mem_append.mp hp with hp | hp
    · exact S.owns p hp
    · obtain ⟨q, hq, rfl⟩ := List.mem_map.mp hp
      exact ⟨q.2, S.keep _ _ (O.there q hq), q.2.slots, rfl⟩
  · rcases List.mem_append.mp hp with hp | hp
    · exact ⟨nn (S.fresh p hp).1, (S.fresh p hp).2⟩
    · obtain ⟨q, hq, rfl⟩ := List.mem_map.mp hp
      refine ⟨hideAll_none _ (List.mem_map_of_mem hq), fun z => ?_⟩
      have e := O.there q hq
      have z' : q.1 = L := z
      rw [z', S.new] at e; cases e
  · rw [List.map_append, slots_keys]
    refine List.nodup_append.mpr ⟨S.apart, O.nodup, fun a ha b hb e => ?_⟩
    obtain ⟨p, hp, rfl⟩ := List.mem_map.mp ha
    obtain ⟨q, hq, rfl⟩ := List.mem_map.mp hb
    have e1 := (S.fresh p hp).1
    rw [e, O.there q hq] at e1; cases e1
theorem St.kg (S : St (hideAll h (frs.map (·.1))) L loc (own ++ slots frs) h') (O : Ou A h outer frs) : Kg (frs.map (·.1)) h h' := by
  refine ⟨fun b o hb e => S.keep b o (hideAll_get _ e hb), fun b hb o e => ?_⟩
  obtain ⟨q, hq, rfl⟩ := List.mem_map.mp hb
  obtain ⟨o', e', sl, z⟩ := S.owns (q.1, slt q.2) (List.mem_append.mpr (.inr (List.mem_map_of_mem (f := fun p : Addr × Obj => (p.1, slt p.2)) hq)))
  rw [O.there q hq] at e; cases e
  exact ⟨sl, by rw [← z]; exact e'⟩
end
section
variable {w : World} {A : Around} {E : Value → Shared → Prop} {s : Shared} {h : Heap} {tk : Nat}
theorem enterX {Q : Value → Shared → Prop} {f : Addr} {vals : List Value} {oc : Value} {od : Option Addr} {osl : Array (Option Value)} {fd : FuncData} {body : List Stmt} {binds : List (Str × Value)} {n : Nat} {outer : List Env} {frs : List (Addr × Obj)}
    (O : Ou A h outer frs) (G : Gr w (hideAll h (frs.map (·.1)))) (R : Rm (n + 1) A) (ho : (KF w.params).lookup f = some ⟨oc, od, .func fd, osl⟩) (hbody : fd.body = .stmts body) (hcd : codeIn (KF w.params) fd.code fd.qualname = true) (hbind : bindArgs fd ⟨vals, []⟩ = pure binds)
    (hcell : ∀ x ∈ fd.scope.names, x.2 ≠ .cell) (hloc : ∀ x ∈ binds, fd.scope.names.lookup x.1 = some .local) (hgl : fd.globals = mainGlobals) (hbu : fd.builtins = builtinsNs) (hcl : fd.closure = []) (hk : fd.scope.kind = .function)
    (k : ∀ env L h₁ tk₁ (Qf : Flow → Shared → Prop) (Ef : Value → Shared → Prop), (∀ v s', Q v s' → Qf (.ret v) s') → EnvIs env fd.scope L [] → Fk (A.deeper env) env L outer (slots frs) →
      St (hideAll h (frs.map (·.1))) L binds.reverse ([] ++ slots frs) h₁ → Rm n (A.deeper env) → wpAny (model PG w) (A.deeper env) (execs body env) Qf Ef (at_ s h₁ tk₁))
    (hco : fd.scope.isCoroutine = false := by rfl) (hgen : fd.scope.isGenerator = false := by rfl) :
    wpAny (model PG w) A (call (.ref f) vals) Q E (at_ s h tk) := by
  have G' := G.keeps (hid_kp h _)
  refine wpAny_call (codeAny_call_def (s := at_ s h tk) (by have := R.depth; omega) (G'.k _ _ ho) rfl G'.nolimit (codeRec_of G'.k hcd) hbody (BindsTo.of_eq hbind) hcell hloc (fun h₁ hns hk₁ => ?_) hco hgen hk)
  have S : St h h.objs.size binds.reverse [] h₁ := ⟨hk₁, hns, none_size _, fun _ hp => (nomatch hp), fun _ hp => (nomatch hp), List.nodup_nil⟩
  exact k _ h.objs.size h₁ _ _ _ (fun v s' q => q) ⟨rfl, rfl, hgl, hbu, hcl, hk⟩ (O.fk rfl (by show fd.scope.kind ≠ _; rw [hk]; decide)) (S.hide O) R.deeper
theorem enterCX {Q : Value → Shared → Prop} {f : Addr} {vals : List Value} {oc : Value} {od : Option Addr} {osl : Array (Option Value)} {fd : FuncData} {body : List Stmt} {binds : List (Str × Value)} {n : Nat} {outer : List Env} {frs : List (Addr × Obj)}
    (O : Ou A h outer frs) (G : Gr w (hideAll h (frs.map (·.1)))) (R : Rm (n + 1) A) (ho : (KF w.params).lookup f = some ⟨oc, od, .func fd, osl⟩) (hbody : fd.body = .stmts body) (hcd : codeIn (KF w.params) fd.code fd.qualname = true) (hbind : bindArgs fd ⟨vals, []⟩ = pure binds)
    (hkind : (binds.all fun y => fd.scope.names.lookup y.1 == some .local || fd.scope.names.lookup y.1 == some .cell) = true) (hnd : ((cellsFrom 0 fd.scope.names []).map (·.1)).Nodup)
    (hgl : fd.globals = mainGlobals) (hbu : fd.builtins = builtinsNs) (hcl : fd.closure = []) (hk : fd.scope.kind = .function)
    (k : ∀ env L h₁ tk₁ (Qf : Flow → Shared → Prop) (Ef : Value → Shared → Prop), (∀ v s', Q v s' → Qf (.ret v) s') → EnvIs env fd.scope L (cellsFrom (L + 1) fd.scope.names []) → env.code = fd.code → Fk (A.deeper env) env L outer (slots frs) →
      St (hideAll h (frs.map (·.1))) L (blo (fun x => fd.scope.names.lookup x) binds []) (((cellsFrom (L + 1) fd.scope.names []).map fun p => (p.2, cll (bindC (fun x => fd.scope.names.lookup x) binds (fun _ => none) p.1))) ++ slots frs) h₁ → Rm n (A.deeper env) →
      wpAny (model PG w) (A.deeper env) (execs body env) Qf Ef (at_ s h₁ tk₁))
    (hco : fd.scope.isCoroutine = false := by rfl) (hgen : fd.scope.isGenerator = false := by rfl) :
    wpAny (model PG w) A (call (.ref f) vals) Q E (at_ s h tk) := by
  have G' := G.keeps (hid_kp h _)
  refine wpAny_call (codeAny_call_cells (s := at_ s h tk) (by have := R.depth; omega) (G'.k _ _ ho) rfl G'.nolimit (codeRec_of G'.k hcd) hbody hbind hcl (kindsX hkind _) (fun s₁ x => ?_) hco hgen hk)
  obtain ⟨⟨h₁, tk₁, rfl⟩, hns, hkp, hfr⟩ := x.toInCall
  have kp : Kp h h₁ := hkp
  have S : St h h.objs.size (blo (fun x => fd.scope.names.lookup x) binds []) ((cellsFrom (h.objs.size + 1) fd.scope.names []).map fun p => (p.2, cll (bindC (fun x => fd.scope.names.lookup x) binds (fun _ => none) p.1))) h₁ := by
    refine ⟨kp, ?_, none_size _, fun p hp => ?_, fun p hp => ?_, ?_⟩
    · have e := blo_eq (fun x => fd.scope.names.lookup x) binds []
      rw [← e]; exact hns
    · obtain ⟨⟨nm, c⟩, hp', rfl⟩ := List.mem_map.mp hp
      exact x.cell nm c (mem_lookup_nodup (cellsFrom_keys 0 (h.objs.size + 1) fd.scope.names [] hnd rfl) hp')
    · obtain ⟨⟨nm, c⟩, hp', rfl⟩ := List.mem_map.mp hp
      have ab := x.above nm c hp'
      have ab' : h.objs.size < c := ab
      refine ⟨?_, Nat.ne_of_gt ab'⟩
      cases q : h.get? c with
      | none => rfl
      | some o => exact absurd (Heap.lt_size q) (Nat.not_lt.mpr (Nat.le_of_lt ab'))
    · rw [List.map_map]
      exact List.pairwise_map.mpr x.apart
  exact k (callEnvC fd h.objs.size f) h.objs.size h₁ tk₁ _ _ (fun v s' q => q) ⟨rfl, rfl, hgl, hbu, rfl, hk⟩ rfl (O.fk rfl (by show fd.scope.kind ≠ _; rw [hk]; decide)) (S.hide O) R.deeper
end
end Mine
end
section -- Sld
open PySem PySem.W PyProof.Rows PySem.Spec PySem.Calls PySem.SeqAt
set_option Elab.async false
set_option maxRecDepth 100000
set_option maxHeartbeats 1000000
set_option pp.maxSteps 3000
namespace Mine
noncomputable def ltS (a b : Str) : Bool := decide (a.cps.toList < b.cps.toList)
noncomputable def sldF : Nat → List Str → List Str → List Str × List Str
  | n + 1, e :: es, a :: as =>
    if ltS e a then (e :: (sldF n (es.dropWhile (sameS e)) (a :: as)).1, (sldF n (es.dropWhile (sameS e)) (a :: as)).2)
    else if ltS a e then ((sldF n (e :: es) (as.dropWhile (sameS a))).1, a :: (sldF n (e :: es) (as.dropWhile (sameS a))).2)
    else sldF n (es.dropWhile (sameS e)) (as.dropWhile (sameS a))
  | _, es, as => (es, as)
theorem sldF_nil_left (n : Nat) (as : List Str) : sldF n [] as = ([], as) := by cases n <;> rfl
theorem sldF_nil_right (n : Nat) (es : List Str) : sldF n es [] = (es, []) := by cases n <;> cases es <;> rfl
theorem dropWhile_len (x : Str) (l : List Str) : (l.dropWhile (sameS x)).length ≤ l.length := (List.dropWhile_sublist _).length_le
theorem drop_eat (ss : List Str) (x : Str) (p : Nat) : ss.drop (eatTo ss x p) = (ss.drop p).dropWhile (sameS x) := by
  unfold eatTo
  rw [← List.drop_drop]
  generalize ss.drop p = l
  induction l with
  | nil => rfl
  | cons a l ih =>
    by_cases q : sameS x a = true
    · rw [List.takeWhile_cons, if_pos q, List.dropWhile_cons, if_pos q]; exact ih
    · rw [List.takeWhile_cons, if_neg q, List.dropWhile_cons, if_neg q]; rfl
section
variable {w : World} {A : Around} {E : Value → Shared → Prop} {s : Shared} {h : Heap} {tk : Nat} {env : Env} {sc : Scope} {L : Addr} {cs : List (Str × Addr)} {h₀ : Heap} {loc : List (Str × Value)} {own : List (Addr × Sort_)}
theorem extend_own {a b : Addr} {vs ws : List Value} {Q : Value → Shared → Prop} (S : St h₀ L loc own h) (i : Nat) (hi : own[i]? = some (a, lst vs)) (hb : Is h b (lst ws)) (hsz : vs.length + ws.length ≤ 1000000)
    (k : ∀ h', St h₀ L loc (own.set i (a, lst (vs ++ ws))) h' → Q .none (at_ s h' tk)) : wpAny (model PG w) A (call (.builtin "list.extend") [.ref a, .ref b]) Q E (at_ s h tk) := by
  obtain ⟨_, ea, na, rfl⟩ := S.at i hi
  obtain ⟨_, eb, nb, rfl⟩ := id hb
  refine call_meets (s := at_ s h tk) F.slot_list_extend ⟨_, ea, rfl⟩ F.entry_list_extend (F.args_list_extend_2 _ _) (AutoSeq1.list_extend_list_list_0 a vs.toArray na b ws.toArray nb ?_ ?_ ?_) ⟨ea, eb, ?_⟩
  · intro q
    rw [Bool.and_eq_true] at q
    have := q.2
    unfold Builtin.List.listTooLong at this
    simp at this
    rw [sizeLine_eq] at this
    omega
  · rw [sizeLine_eq, List.size_toArray]; omega
  · rw [sizeLine_eq, List.size_toArray, List.size_toArray]; omega
  · refine k _ (S.upd i hi (fun c o hc q => (Heap.get?_update_other _ _ (Ne.symm hc)).trans q) ?_)
    have := get?_update_seq (c := "list") ea (fun x => x ++ ws.toArray)
    exact ⟨_, this, _, by rw [← List.toArray_appendList]; simp [seqObj]; rfl⟩
end
structure SL (loc : List (Str × Value)) (a b mA uA : Addr) (i j : Nat) : Prop where
  ex : has loc "expected" (.ref a)
  ac : has loc "actual" (.ref b)
  mi : has loc "missing" (.ref mA)
  un : has loc "unexpected" (.ref uA)
  ii : ∃ t, has loc "i" (.int i t)
  jj : ∃ t, has loc "j" (.int j t)
section
variable {loc : List (Str × Value)} {a b mA uA : Addr} {i j : Nat}
theorem SL.put (S : SL loc a b mA uA i j) {x : Str} {v : Value} (hx : x = "e" ∨ x = "a") : SL (aset x v loc) a b mA uA i j := by
  obtain ⟨h1, h2, h3, h4, ⟨t1, h5⟩, ⟨t2, h6⟩⟩ := S
  rcases hx with rfl | rfl
  · exact ⟨asl h1 (by decide), asl h2 (by decide), asl h3 (by decide), asl h4 (by decide), ⟨t1, asl h5 (by decide)⟩, ⟨t2, asl h6 (by decide)⟩⟩
  · exact ⟨asl h1 (by decide), asl h2 (by decide), asl h3 (by decide), asl h4 (by decide), ⟨t1, asl h5 (by decide)⟩, ⟨t2, asl h6 (by decide)⟩⟩
theorem SL.setI (S : SL loc a b mA uA i j) (i' : Nat) (t : Tok) : SL (aset "i" (.int i' t) loc) a b mA uA i' j :=
  ⟨asl S.ex (by decide), asl S.ac (by decide), asl S.mi (by decide), asl S.un (by decide), ⟨t, asl_self⟩, let ⟨t2, q⟩ := S.jj; ⟨t2, asl q (by decide)⟩⟩
theorem SL.setJ (S : SL loc a b mA uA i j) (j' : Nat) (t : Tok) : SL (aset "j" (.int j' t) loc) a b mA uA i j' :=
  ⟨asl S.ex (by decide), asl S.ac (by decide), asl S.mi (by decide), asl S.un (by decide), let ⟨t2, q⟩ := S.ii; ⟨t2, asl q (by decide)⟩, ⟨t, asl_self⟩⟩
end
section
variable {w : World} {A : Around} {E : Value → Shared → Prop} {s : Shared} {h : Heap} {tk : Nat}
theorem caught {A : Around} {E E' : Value → Shared → Prop} {env : Env} {sc : Scope} {L : Addr} {h₀ : Heap} {fo : List (Addr × Sort_)} {loc : List (Str × Value)} {a b mA uA : Addr} {i j : Nat} {e T : Addr} {c fl : Value} {vs us mv uv : List Value} {Q : Flow → Shared → Prop}
    {p0 p1 p2 p3 p4 p5 p6 p7 p8 p9 p10 p11 p12 p13 p14 p15 p16 p17 p18 : Pos}
    (G : Gr w h₀) (en : EnvIs env sc L []) (hm1 : sc.names.lookup (Str.ofString "expected") = some .local) (hm2 : sc.names.lookup (Str.ofString "actual") = some .local) (hm3 : sc.names.lookup (Str.ofString "missing") = some .local) (hm4 : sc.names.lookup (Str.ofString "unexpected") = some .local)
    (hm5 : sc.names.lookup (Str.ofString "i") = some .local) (hm6 : sc.names.lookup (Str.ofString "j") = some .local) (hm7 : sc.names.lookup (Str.ofString "IndexError") = some .globalImplicit) (hl1 : (p2.endLine == p6.line) = true) (hl2 : (p9.endLine == p13.line) = true)
    (ha : Is h₀ a (lst vs)) (hb : Is h₀ b (lst us)) (B : SL loc a b mA uA i j) (hi : i ≤ vs.length) (hj : j ≤ us.length) (hz : vs.length < 1000 ∧ us.length < 1000 ∧ mv.length < 1000 ∧ uv.length < 1000)
    (S : St h₀ L loc ((e, excS "IndexError" T c) :: (T, tbS fl) :: ([(uA, lst uv), (mA, lst mv)] ++ fo)) h)
    (k : ∀ h' tk', St h₀ L loc ([(uA, lst (uv ++ us.drop j)), (mA, lst (mv ++ vs.drop i))] ++ fo) h' → Q .brk (at_ s h' tk')) :
    wpAny (model PG w) A (setFlight (.ref e) none) (fun _ s₃ => wpAny (model PG w) A (handleBy (.ref e) env [.ExceptHandler (some (.Name "IndexError" p0)) none
      [.Expr (.Call (.Attribute (.Name "missing" p1) "extend" p2) [.Subscript (.Name "expected" p3) (.Slice (some (.Name "i" p4)) none none p5) p14] [] p6) p7,
       .Expr (.Call (.Attribute (.Name "unexpected" p8) "extend" p9) [.Subscript (.Name "actual" p10) (.Slice (some (.Name "j" p11)) none none p12) p15] [] p13) p17, .Break p16] p18]) Q E s₃) E' (at_ s h tk) := by
  refine set_fl S 0 1 rfl rfl fun h₁ S₁ => ?_
  refine wpAny_handleBy_builtin (X := "IndexError") (T := "IndexError") (b := true) F.isExc_IndexError F.notTuple_IndexError F.self_IndexError ?_
  refine bl (.type "IndexError") (G.keeps S₁.keep) en ⟨rfl, ?_, ?_⟩ hm7
  · obtain ⟨o, q, hc, _⟩ := S₁.at 0 rfl
    exact ⟨o, q, hc⟩
  rw [if_pos rfl]
  refine set_fl S₁ 0 1 rfl rfl fun h₂ S₂ => ?_
  obtain ⟨ti, hti⟩ := B.ii
  obtain ⟨tj, htj⟩ := B.jj
  have S₂ : St h₀ L loc ((e, excS "IndexError" T c) :: (T, tbS .none) :: ([(uA, lst uv), (mA, lst mv)] ++ fo)) h₂ := S₂
  have lm₂ : Is h₂ mA (lst mv) := S₂.at 3 rfl
  refine wpAny_execs_cons (exprS en (meth1 F.plainAttrs_list F.slot_list_extend F.type_list_extend base_name rfl hl1 (lo S₂ en B.mi ⟨lm₂.list.typeIs, ?_, ?_⟩ hm3)))
  · rintro _ ⟨⟩
    obtain ⟨o, q, n, rfl⟩ := lm₂
    exact ⟨_, q, rfl⟩
  refine slcL (lo S₂ en B.ex (pt_some (lo S₂ en hti (pt_none ⟨a, vs, some i, none, h₂, _, rfl, rfl, ha.keeps S₂.keep, by omega, .int _ _, .none, fun D h₃ nD k₃ lD => ?_⟩) hm5)) hm1)
  have e1 : (slicePick vs.toArray (some (i : Int)) none none).toList = vs.drop i := by rw [slicePick_from']
  rw [e1] at lD
  have S₃ := S₂.pure k₃
  refine extend_own S₃ 3 rfl lD (by rw [List.length_drop]; omega) fun h₄ S₄ => ?_
  have S₄ : St h₀ L loc ((e, excS "IndexError" T c) :: (T, tbS .none) :: ([(uA, lst uv), (mA, lst (mv ++ vs.drop i))] ++ fo)) h₄ := S₄
  have lu₄ : Is h₄ uA (lst uv) := S₄.at 2 rfl
  refine wpAny_execs_cons (exprS en (meth1 F.plainAttrs_list F.slot_list_extend F.type_list_extend base_name rfl hl2 (lo S₄ en B.un ⟨lu₄.list.typeIs, ?_, ?_⟩ hm4)))
  · rintro _ ⟨⟩
    obtain ⟨o, q, n, rfl⟩ := lu₄
    exact ⟨_, q, rfl⟩
  refine slcL (lo S₄ en B.ac (pt_some (lo S₄ en htj (pt_none ⟨b, us, some j, none, h₄, _, rfl, rfl, hb.keeps S₄.keep, by omega, .int _ _, .none, fun D₂ h₅ nD₂ k₅ lD₂ => ?_⟩) hm6)) hm2)
  have e2 : (slicePick us.toArray (some (j : Int)) none none).toList = us.drop j := by rw [slicePick_from']
  rw [e2] at lD₂
  have S₅ := S₄.pure k₅
  refine extend_own S₅ 2 rfl lD₂ (by rw [List.length_drop]; omega) fun h₆ S₆ => ?_
  have S₆ : St h₀ L loc ((e, excS "IndexError" T c) :: (T, tbS .none) :: ([(uA, lst (uv ++ us.drop j)), (mA, lst (mv ++ vs.drop i))] ++ fo)) h₆ := S₆
  refine wpAny_execs_cons (wpAny_Break (k _ _ (S₆.drop _ ?_)))
  exact .cons _ (.cons _ (List.Sublist.refl _))
end
end Mine
end
section -- Sld2
open PySem PySem.W PyProof.Rows PySem.Spec PySem.Calls PySem.SeqAt
set_option Elab.async false
set_option maxRecDepth 100000
set_option maxHeartbeats 1000000
set_option pp.maxSteps 3000
namespace Mine
theorem sldF_fuel : ∀ (n m : Nat) (es as : List Str), es.length + as.length ≤ n → es.length + as.length ≤ m → sldF n es as = sldF m es as := by
  intro n
  induction n with
  | zero =>
    intro m es as h1 h2
    have : es = [] := List.length_eq_zero_iff.mp (by omega)
    subst this
    rw [sldF_nil_left, sldF_nil_left]
  | succ n ih =>
    intro m es as h1 h2
    cases es with
    | nil => rw [sldF_nil_left, sldF_nil_left]
    | cons e es =>
      cases as with
      | nil => rw [sldF_nil_right, sldF_nil_right]
      | cons a as =>
        simp only [List.length_cons] at h1 h2
        cases m with
        | zero => omega
        | succ m =>
          have d1 := dropWhile_len e es
          have d2 := dropWhile_len a as
          have e1 := ih m (es.dropWhile (sameS e)) (a :: as) (by simp only [List.length_cons]; omega) (by simp only [List.length_cons]; omega)
          have e2 := ih m (e :: es) (as.dropWhile (sameS a)) (by simp only [List.length_cons]; omega) (by simp only [List.length_cons]; omega)
          have e3 := ih m (es.dropWhile (sameS e)) (as.dropWhile (sameS a)) (by omega) (by omega)
          unfold sldF
          rw [e1, e2, e3]
noncomputable def sld (es as : List Str) : List Str × List Str := sldF (es.length + as.length) es as
theorem sld_nil_left (as : List Str) : sld [] as = ([], as) := sldF_nil_left _ _
theorem sld_nil_right (es : List Str) : sld es [] = (es, []) := sldF_nil_right _ _
theorem sld_cons (e a : Str) (es as : List Str) : sld (e :: es) (a :: as) =
    if ltS e a then (e :: (sld (es.dropWhile (sameS e)) (a :: as)).1, (sld (es.dropWhile (sameS e)) (a :: as)).2)
    else if ltS a e then ((sld (e :: es) (as.dropWhile (sameS a))).1, a :: (sld (e :: es) (as.dropWhile (sameS a))).2)
    else sld (es.dropWhile (sameS e)) (as.dropWhile (sameS a)) := by
  have d1 := dropWhile_len e es
  have d2 := dropWhile_len a as
  have e1 := sldF_fuel (es.length + 1 + as.length) ((es.dropWhile (sameS e)).length + (a :: as).length) (es.dropWhile (sameS e)) (a :: as) (by simp only [List.length_cons]; omega) (Nat.le_refl _)
  have e2 := sldF_fuel (es.length + 1 + as.length) ((e :: es).length + (as.dropWhile (sameS a)).length) (e :: es) (as.dropWhile (sameS a)) (by simp only [List.length_cons]; omega) (Nat.le_refl _)
  have e3 := sldF_fuel (es.length + 1 + as.length) ((es.dropWhile (sameS e)).length + (as.dropWhile (sameS a)).length) (es.dropWhile (sameS e)) (as.dropWhile (sameS a)) (by omega) (Nat.le_refl _)
  have e0 : sld (e :: es) (a :: as) = sldF (es.length + 1 + as.length + 1) (e :: es) (a :: as) := rfl
  rw [e0]
  unfold sldF
  rw [e1, e2, e3]
  rfl
section
variable {w : World} {A : Around} {E : Value → Shared → Prop} {s : Shared} {h : Heap} {tk : Nat}
theorem ct_sld {n : Nat} {a b : Addr} {vs us : List Value} {es as : List Str} {outer : List Env} {frs : List (Addr × Obj)} {Q : Value → Shared → Prop} (O : Ou A h outer frs) (G : Gr w (hideAll h (frs.map (·.1)))) (R : Rm (n + 1) A) (hA : A.handled = none)
    (ha : Is h a (lst vs)) (hv : StrsAre vs es) (hb : Is h b (lst us)) (hu : StrsAre us as) (z1 : es.length < 400) (z2 : as.length < 400) (hna : a ∉ frs.map (·.1)) (hnb : b ∉ frs.map (·.1))
    (k : ∀ D mA uA mv uv h' tk', h.get? D = none → h.get? mA = none → h.get? uA = none → Kg (frs.map (·.1)) h h' → Is h' D (tup [.ref mA, .ref uA]) → Is h' mA (lst mv) → Is h' uA (lst uv) →
      StrsAre mv (sld es as).1 → StrsAre uv (sld es as).2 → mA ≠ uA → Q (.ref D) (at_ s h' tk')) :
    wpAny (model PG w) A (call (.ref 84) [.ref a, .ref b]) Q E (at_ s h tk) := by
  refine enterX (binds := [("expected", .ref a), ("actual", .ref b)]) O G R rfl rfl rfl rfl (by decide) (locs rfl) rfl rfl rfl rfl ?_
  intro env L h₁ tk₁ Qf Ef hQ e F S R₁
  dsimp only at e S ⊢
  have hA' : (A.deeper env).handled = none := hA
  generalize hbase : hideAll h (frs.map (·.1)) = base at S G
  have ha₀ : Is base a (lst vs) := by
    obtain ⟨o, q, p⟩ := ha
    exact ⟨o, by rw [← hbase]; exact hideAll_get _ q hna, p⟩
  have hb₀ : Is base b (lst us) := by
    obtain ⟨o, q, p⟩ := hb
    exact ⟨o, by rw [← hbase]; exact hideAll_get _ q hnb, p⟩
  have S : St base L [("actual", .ref b), ("expected", .ref a)] ([] ++ slots frs) h₁ := S
  have M : ∀ own, MayO (A.deeper env) own := fun _ => .inl hA
  refine wpAny_execs_cons (wpAny_Assign_two (cint fun t0 k0 => wpAny_assign_Name (stl S e rfl fun h₂ tk₂ S₂ => wpAny_assign_Name (stl S₂ e rfl fun h₃ tk₃ S₃ => ?_))))
  refine wpAny_execs_cons (wpAny_Assign_Name (List_ (sp_nil (newL (by decide) fun mA h₄ nm k₄ lm => ?_))))
  refine stl (S₃.more k₄ nm lm) e rfl fun h₅ tk₅ S₅ => ?_
  refine wpAny_execs_cons (wpAny_Assign_Name (List_ (sp_nil (newL (by decide) fun uA h₆ nu k₆ lu => ?_))))
  refine stl (S₅.more k₆ nu lu) e rfl fun h₇ tk₇ S₇ => ?_
  have S₇ : St base L (aset "unexpected" (.ref uA) (aset "missing" (.ref mA) (aset "j" (.int (0 : Nat) t0) (aset "i" (.int (0 : Nat) t0) [("actual", .ref b), ("expected", .ref a)])))) ([(uA, lst []), (mA, lst [])] ++ slots frs) h₇ := S₇
  have B₇ : SL (aset "unexpected" (.ref uA) (aset "missing" (.ref mA) (aset "j" (.int (0 : Nat) t0) (aset "i" (.int (0 : Nat) t0) [("actual", .ref b), ("expected", .ref a)])))) a b mA uA 0 0 :=
    ⟨rfl, rfl, rfl, rfl, ⟨t0, rfl⟩, ⟨t0, rfl⟩⟩
  generalize aset "unexpected" (.ref uA) (aset "missing" (.ref mA) (aset "j" (.int (0 : Nat) t0) (aset "i" (.int (0 : Nat) t0) [("actual", .ref b), ("expected", .ref a)]))) = loc₇ at S₇ B₇
  generalize hfin : sld es as = fin at k
  have lv := strs_len hv
  have lu' := strs_len hu
  refine wpAny_execs_cons (wpAny_While (codeAny_mono (codeAny_whileLoop (R := fun r s' => r = .ok .next ∧ ∃ h' tk' loc mv uv, s' = at_ s h' tk' ∧ has loc "missing" (.ref mA) ∧ has loc "unexpected" (.ref uA) ∧ St base L loc ([(uA, lst uv), (mA, lst mv)] ++ slots frs) h' ∧ StrsAre mv fin.1 ∧ StrsAre uv fin.2)
    (fun k s' => ∃ i j loc mv uv ms us' h' tk', k = (es.length - i) + (as.length - j) + 1 ∧ i ≤ es.length ∧ j ≤ as.length ∧ s' = at_ s h' tk' ∧ SL loc a b mA uA i j ∧ St base L loc ([(uA, lst uv), (mA, lst mv)] ++ slots frs) h' ∧ StrsAre mv ms ∧ StrsAre uv us' ∧
      ms.length ≤ i ∧ us'.length ≤ j ∧ ms ++ (sld (es.drop i) (as.drop j)).1 = fin.1 ∧ us' ++ (sld (es.drop i) (as.drop j)).2 = fin.2) ?_ (es.length + as.length + 1) ⟨0, 0, loc₇, [], [], [], [], h₇, tk₇, by omega, Nat.zero_le _, Nat.zero_le _, rfl, B₇, S₇, .nil, .nil, Nat.le_refl _, Nat.le_refl _, ?_⟩) ?_))
  · rintro kk s' ⟨i, j, loc, mv, uv, ms, us', h', tk', hk, hi, hj, rfl, B, S', hmv, huv, lms, lus, hf1, hf2⟩
    refine wpAny_isTrue_value (wpAny_Constant_bool (wpAny_truthy_bool ?_))
    rw [if_pos rfl]
    refine wpAny_execs_cons (wpAny_Try_except (wpAny_mono (Q := fun f s₃ => f = .next ∧ ∃ m, m < kk ∧ ∃ i j loc mv uv ms us' h' tk', m = (es.length - i) + (as.length - j) + 1 ∧ i ≤ es.length ∧ j ≤ as.length ∧ s₃ = at_ s h' tk' ∧ SL loc a b mA uA i j ∧ St base L loc ([(uA, lst uv), (mA, lst mv)] ++ slots frs) h' ∧ StrsAre mv ms ∧ StrsAre uv us' ∧
      ms.length ≤ i ∧ us'.length ≤ j ∧ ms ++ (sld (es.drop i) (as.drop j)).1 = fin.1 ∧ us' ++ (sld (es.drop i) (as.drop j)).2 = fin.2)
      (E := fun x s₁ => ∃ e c i j loc mv uv h tk, x = .ref e ∧ s₁ = at_ s h tk ∧ SL loc a b mA uA i j ∧ i ≤ es.length ∧ j ≤ as.length ∧ mv.length ≤ i ∧ uv.length ≤ j ∧ StrsAre (mv ++ vs.drop i) fin.1 ∧ StrsAre (uv ++ us.drop j) fin.2 ∧
        ((∃ h₀', St base L loc ([(uA, lst uv), (mA, lst mv)] ++ slots frs) h₀' ∧ NewX h₀' h e "IndexError" c) ∨ (∃ T, St base L loc ((e, excS "IndexError" T c) :: (T, tbS (rawInt L)) :: ([(uA, lst uv), (mA, lst mv)] ++ slots frs)) h))) ?_ ?_ ?_))
    · refine hideQE fun Q' E' hQ' hE' => ?_
      have e1000 : es.length < 1000 := Nat.lt_trans z1 (by decide)
      have a1000 : as.length < 1000 := Nat.lt_trans z2 (by decide)
      obtain ⟨ti, hti⟩ := B.ii
      obtain ⟨tj, htj⟩ := B.jj
      have l1 := strs_len hmv
      have l2 := strs_len huv
      have cont : ∀ i' j' loc mv uv ms us' h tk, i ≤ i' → j ≤ j' → i + j < i' + j' → i' ≤ es.length → j' ≤ as.length → SL loc a b mA uA i' j' → St base L loc ([(uA, lst uv), (mA, lst mv)] ++ slots frs) h → StrsAre mv ms → StrsAre uv us' → ms.length ≤ i' → us'.length ≤ j' →
          ms ++ (sld (es.drop i') (as.drop j')).1 = fin.1 → us' ++ (sld (es.drop i') (as.drop j')).2 = fin.2 →
          Q' .next (at_ s h tk) := by
        intro i' j' loc mv uv ms us' h tk a1 a2 a3 a4 a5 a6 a7 a8 a9 a10 a11 a12 a13
        exact hQ' _ _ ⟨rfl, _, by omega, i', j', loc, mv, uv, ms, us', h, tk, rfl, a4, a5, rfl, a6, a7, a8, a9, a10, a11, a12, a13⟩
      have exc : ∀ e T c i' j' loc mv uv ms us' h tk, (i' = es.length ∨ j' = as.length) → i' ≤ es.length → j' ≤ as.length → SL loc a b mA uA i' j' → St base L loc ((e, excS "IndexError" T c) :: (T, tbS (rawInt L)) :: ([(uA, lst uv), (mA, lst mv)] ++ slots frs)) h → StrsAre mv ms → StrsAre uv us' →
          ms.length ≤ i' → us'.length ≤ j' → ms ++ (sld (es.drop i') (as.drop j')).1 = fin.1 → us' ++ (sld (es.drop i') (as.drop j')).2 = fin.2 →
          E' (Value.ref e) (at_ s h tk) := by
        intro e T c i' j' loc mv uv ms us' h tk a0 a4 a5 a6 a7 a8 a9 a10 a11 a12 a13
        have hsl : sld (es.drop i') (as.drop j') = (es.drop i', as.drop j') := by
          rcases a0 with q | q
          · rw [q, List.drop_length, sld_nil_left]
          · rw [q, List.drop_length, sld_nil_right]
        rw [hsl] at a12 a13
        have b1 := strs_len a8
        have b2 := strs_len a9
        refine hE' _ _ ⟨e, c, i', j', loc, mv, uv, h, tk, rfl, rfl, a6, a4, a5, by omega, by omega, ?_, ?_, .inr ⟨T, a7⟩⟩
        · rw [← a12]; exact strs_append a8 (strs_drop hv i')
        · rw [← a13]; exact strs_append a9 (strs_drop hu j')
      by_cases hlt : i < es.length
      · obtain ⟨te, hve⟩ := strs_at hv (List.getElem?_eq_getElem hlt)
        generalize hee : es[i] = ew at hve
        have dE : es.drop i = ew :: es.drop (i + 1) := by rw [List.drop_eq_getElem_cons hlt, hee]
        refine wpAny_execs_cons (wpAny_Assign_Name (Subscript_ (lo S' e B.ex (lo S' e hti (sub_list (v := .str ew te) (ha₀.keeps S'.keep).list (by omega) (by omega) (by simpa using hve) ?_)))))
        refine stl S' e rfl fun h₈ tk₈ S₈ => ?_
        have B₈ : SL (aset "e" (.str ew te) loc) a b mA uA i j := B.put (.inl rfl)
        have le₈ : has (aset "e" (.str ew te) loc) "e" (.str ew te) := asl_self
        by_cases hlt2 : j < as.length
        · obtain ⟨ta, hva⟩ := strs_at hu (List.getElem?_eq_getElem hlt2)
          generalize haa : as[j] = aw at hva
          have dA : as.drop j = aw :: as.drop (j + 1) := by rw [List.drop_eq_getElem_cons hlt2, haa]
          refine wpAny_execs_cons (wpAny_Assign_Name (Subscript_ (lo S₈ e B₈.ac (lo S₈ e (asl htj (by decide)) (sub_list (v := .str aw ta) (hb₀.keeps S₈.keep).list (by omega) (by omega) (by simpa using hva) ?_)))))
          refine stl S₈ e rfl fun h₉ tk₉ S₉ => ?_
          have B₉ : SL (aset "a" (.str aw ta) (aset "e" (.str ew te) loc)) a b mA uA i j := B₈.put (.inr rfl)
          have le₉ : has (aset "a" (.str aw ta) (aset "e" (.str ew te) loc)) "e" (.str ew te) := asl le₈ (by decide)
          have la₉ : has (aset "a" (.str aw ta) (aset "e" (.str ew te) loc)) "a" (.str aw ta) := asl_self
          generalize aset "a" (.str aw ta) (aset "e" (.str ew te) loc) = loc₉ at S₉ B₉ le₉ la₉
          rw [dE, dA, sld_cons] at hf1 hf2
          obtain ⟨ti', hti'⟩ := B₉.ii
          obtain ⟨tj', htj'⟩ := B₉.jj
          refine wpAny_execs_cons (wpAny_If (wpAny_isTrue_Compare1 (lo S₉ e le₉ (lo S₉ e la₉ (P.lt_str (wpAny_truthy_bool ?_))))))
          by_cases c1 : ltS ew aw = true
          · have c1' : decide (ew.cps.toList < aw.cps.toList) = true := c1
            rw [if_pos c1']
            rw [if_pos c1, ← dA, ← drop_eat] at hf1 hf2
            refine wpAny_execs_cons (stmt_append S₉ e rfl B₉.mi 1 rfl (by omega) (.str ew te) (fun Q' q => lo S₉ e le₉ (q _)) (fun h₁₀ tk₁₀ S₁₀ => ?_) rfl rfl rfl)
            have S₁₀ : St base L loc₉ ([(uA, lst uv), (mA, lst (mv ++ [.str ew te]))] ++ slots frs) h₁₀ := S₁₀
            refine wpAny_execs_cons (inc S₁₀ e hti' rfl fun h₁₁ tk₁₁ t₁₁ S₁₁ => ?_)
            have B₁₁ := B₉.setI (i + 1) t₁₁
            have hle : eatTo es ew (i + 1) ≤ es.length := eatTo_le hlt
            have hge : i + 1 ≤ eatTo es ew (i + 1) := eatTo_ge
            have hms := strs_snoc hmv ew te
            have lms' : (ms ++ [ew]).length ≤ eatTo es ew (i + 1) := by rw [List.length_append]; simp; omega
            have hf1' : (ms ++ [ew]) ++ (sld (es.drop (eatTo es ew (i + 1))) (as.drop j)).1 = fin.1 := by rw [← hf1]; simp
            refine wpAny_execs_cons (eat (p := i + 1) S₁₁ F e (M _) ha₀ hv e1000 hlt B₁₁.ex (asl le₉ (by decide)) asl_self rfl rfl rfl (by decide) (by decide) (fun hlt' h₁₂ tk₁₂ t₁₂ S₁₂ => ?_) (fun heq e₂ T c h₁₂ tk₁₂ t₁₂ S₁₂ hc => ?_))
            · exact wpAny_execs_nil (wpAny_execs_nil (cont (eatTo es ew (i + 1)) j _ _ _ _ _ _ _ (by omega) (Nat.le_refl _) (by omega) hle hj (B₁₁.setI _ t₁₂) S₁₂ hms huv lms' lus hf1' hf2))
            · exact exc e₂ T c (eatTo es ew (i + 1)) j _ _ _ _ _ _ _ (.inl heq) hle hj (B₁₁.setI _ t₁₂) S₁₂ hms huv lms' lus hf1' hf2
          · have c1' : ¬ decide (ew.cps.toList < aw.cps.toList) = true := c1
            rw [if_neg c1']
            rw [if_neg c1] at hf1 hf2
            refine wpAny_execs_cons (wpAny_If (wpAny_isTrue_Compare1 (lo S₉ e le₉ (lo S₉ e la₉ (P.gt_str (wpAny_truthy_bool ?_))))))
            by_cases c2 : ltS aw ew = true
            · have c2' : decide (aw.cps.toList < ew.cps.toList) = true := c2
              rw [if_pos c2']
              rw [if_pos c2, ← dE, ← drop_eat] at hf1 hf2
              refine wpAny_execs_cons (stmt_append S₉ e rfl B₉.un 0 rfl (by omega) (.str aw ta) (fun Q' q => lo S₉ e la₉ (q _)) (fun h₁₀ tk₁₀ S₁₀ => ?_) rfl rfl rfl)
              have S₁₀ : St base L loc₉ ([(uA, lst (uv ++ [.str aw ta])), (mA, lst mv)] ++ slots frs) h₁₀ := S₁₀
              refine wpAny_execs_cons (inc S₁₀ e htj' rfl fun h₁₁ tk₁₁ t₁₁ S₁₁ => ?_)
              have B₁₁ := B₉.setJ (j + 1) t₁₁
              have hle : eatTo as aw (j + 1) ≤ as.length := eatTo_le hlt2
              have hge : j + 1 ≤ eatTo as aw (j + 1) := eatTo_ge
              have hus := strs_snoc huv aw ta
              have lus' : (us' ++ [aw]).length ≤ eatTo as aw (j + 1) := by rw [List.length_append]; simp; omega
              have hf2' : (us' ++ [aw]) ++ (sld (es.drop i) (as.drop (eatTo as aw (j + 1)))).2 = fin.2 := by rw [← hf2]; simp
              refine wpAny_execs_cons (eat (p := j + 1) S₁₁ F e (M _) hb₀ hu a1000 hlt2 B₁₁.ac (asl la₉ (by decide)) asl_self rfl rfl rfl (by decide) (by decide) (fun hlt' h₁₂ tk₁₂ t₁₂ S₁₂ => ?_) (fun heq e₂ T c h₁₂ tk₁₂ t₁₂ S₁₂ hc => ?_))
              · exact wpAny_execs_nil (wpAny_execs_nil (wpAny_execs_nil (cont i (eatTo as aw (j + 1)) _ _ _ _ _ _ _ (Nat.le_refl _) (by omega) (by omega) hi hle (B₁₁.setJ _ t₁₂) S₁₂ hmv hus lms lus' hf1 hf2')))
              · exact exc e₂ T c i (eatTo as aw (j + 1)) _ _ _ _ _ _ _ (.inr heq) hi hle (B₁₁.setJ _ t₁₂) S₁₂ hmv hus lms lus' hf1 hf2'
            · have c2' : ¬ decide (aw.cps.toList < ew.cps.toList) = true := c2
              rw [if_neg c2']
              rw [if_neg c2, ← drop_eat, ← drop_eat] at hf1 hf2
              refine wpAny_execs_cons (inc S₉ e hti' rfl fun h₁₁ tk₁₁ t₁₁ S₁₁ => ?_)
              have B₁₁ := B₉.setI (i + 1) t₁₁
              have hle : eatTo es ew (i + 1) ≤ es.length := eatTo_le hlt
              have hge : i + 1 ≤ eatTo es ew (i + 1) := eatTo_ge
              have hle2 : eatTo as aw (j + 1) ≤ as.length := eatTo_le hlt2
              have hge2 : j + 1 ≤ eatTo as aw (j + 1) := eatTo_ge
              refine wpAny_execs_cons (wpAny_Try_finally (wpAny_execs_cons (eat (p := i + 1) S₁₁ F e (M _) ha₀ hv e1000 hlt B₁₁.ex (asl le₉ (by decide)) asl_self rfl rfl rfl (by decide) (by decide) (fun hlt' h₁₂ tk₁₂ t₁₂ S₁₂ => ?_) (fun heq e₂ T c h₁₂ tk₁₂ t₁₂ S₁₂ hc => ?_))))
              · refine wpAny_execs_nil (wpAny_execs_nil ?_)
                have B₁₂ := B₁₁.setI (eatTo es ew (i + 1)) t₁₂
                obtain ⟨tj₁₂, htj₁₂⟩ := B₁₂.jj
                refine wpAny_execs_cons (inc S₁₂ e htj₁₂ rfl fun h₁₃ tk₁₃ t₁₃ S₁₃ => ?_)
                have B₁₃ := B₁₂.setJ (j + 1) t₁₃
                refine wpAny_execs_cons (eat (p := j + 1) S₁₃ F e (M _) hb₀ hu a1000 hlt2 B₁₃.ac (asl (asl (asl la₉ (by decide)) (by decide)) (by decide)) asl_self rfl rfl rfl (by decide) (by decide) (fun hlt₂ h₁₄ tk₁₄ t₁₄ S₁₄ => ?_) (fun heq₂ e₃ T₃ c₃ h₁₄ tk₁₄ t₁₄ S₁₄ hc₃ => ?_))
                · exact wpAny_execs_nil (wpAny_execs_nil (wpAny_execs_nil (wpAny_execs_nil (cont (eatTo es ew (i + 1)) (eatTo as aw (j + 1)) _ _ _ _ _ _ _ (by omega) (by omega) (by omega) hle hle2 (B₁₃.setJ _ t₁₄) S₁₄ hmv huv (by omega) (by omega) hf1 hf2))))
                · refine note_again F.frame S₁₄ 0 1 rfl rfl ?_
                  refine came_back F.frame S₁₄ 0 1 rfl rfl fun h₁₅ S₁₅ => ?_
                  exact exc e₃ T₃ c₃ (eatTo es ew (i + 1)) (eatTo as aw (j + 1)) _ _ _ _ _ _ _ (.inr heq₂) hle hle2 (B₁₃.setJ _ t₁₄) S₁₅ hmv huv (by omega) (by omega) hf1 hf2
              · have hcn := hc hA'
                subst hcn
                refine note_again F.frame S₁₂ 0 1 rfl rfl ⟨ref_ne_byPass _, note_again F.frame S₁₂ 0 1 rfl rfl ?_⟩
                refine set_fl S₁₂ 0 1 rfl rfl fun h₁₃ S₁₃ => ?_
                have B₁₂ := B₁₁.setI (eatTo es ew (i + 1)) t₁₂
                obtain ⟨tj₁₂, htj₁₂⟩ := B₁₂.jj
                have S₁₃ : St base L _ (((e₂, excS "IndexError" T .none) :: (T, tbS .none) :: [(uA, lst uv), (mA, lst mv)]) ++ slots frs) h₁₃ := S₁₃
                refine wpAny_execs_cons (inc S₁₃ e htj₁₂ rfl fun h₁₄ tk₁₄ t₁₄ S₁₄ => ?_)
                have B₁₄ := B₁₂.setJ (j + 1) t₁₄
                refine wpAny_execs_cons (eat (p := j + 1) S₁₄ (F.mark _) e (.inr ⟨e₂, "IndexError", T, rfl, .head _⟩) hb₀ hu a1000 hlt2 B₁₄.ac (asl (asl (asl la₉ (by decide)) (by decide)) (by decide)) asl_self rfl rfl rfl (by decide) (by decide) (fun hlt₂ h₁₅ tk₁₅ t₁₅ S₁₅ => ?_) (fun heq₂ e₃ T₃ c₃ h₁₅ tk₁₅ t₁₅ S₁₅ hc₃ => ?_))
                · refine wpAny_execs_nil ?_
                  refine pass_on F.frame S₁₅ 0 1 rfl rfl fun h₁₆ S₁₆ => ?_
                  exact exc e₂ T .none (eatTo es ew (i + 1)) (eatTo as aw (j + 1)) _ _ _ _ _ _ _ (.inl heq) hle hle2 (B₁₄.setJ _ t₁₅) S₁₆ hmv huv (by omega) (by omega) hf1 hf2
                · refine note_again F.frame S₁₅ 0 1 rfl rfl ?_
                  refine came_back F.frame S₁₅ 0 1 rfl rfl fun h₁₆ S₁₆ => ?_
                  refine exc e₃ T₃ c₃ (eatTo es ew (i + 1)) (eatTo as aw (j + 1)) _ _ _ _ _ _ _ (.inr heq₂) hle hle2 (B₁₄.setJ _ t₁₅) (S₁₆.drop _ ?_) hmv huv (by omega) (by omega) hf1 hf2
                  exact .cons_cons _ (.cons_cons _ (.cons _ (.cons _ (List.Sublist.refl _))))
        · have hjn : j = as.length := by omega
          refine wpAny_execs_cons (wpAny_Assign_Name (Subscript_ (lo S₈ e B₈.ac (lo S₈ e (asl htj (by decide)) (sub_out ((M _).may S₈) (hb₀.keeps S₈.keep).list (by omega) (by omega) fun h₉ tk₉ e₉ c₉ hx₉ hc₉ => ?_)))))
          refine hE' _ _ ⟨e₉, c₉, i, j, _, mv, uv, h₉, tk₉, rfl, rfl, B₈, hi, hj, by omega, by omega, ?_, ?_, .inl ⟨h₈, S₈, hx₉⟩⟩
          · rw [hjn, List.drop_length, sld_nil_right] at hf1
            rw [← hf1]; exact strs_append hmv (strs_drop hv i)
          · rw [hjn, List.drop_length, sld_nil_right] at hf2
            rw [← hf2, hjn, ← lu', List.drop_length]; exact strs_append huv .nil
      · have hin : i = es.length := by omega
        refine wpAny_execs_cons (wpAny_Assign_Name (Subscript_ (lo S' e B.ex (lo S' e hti (sub_out ((M _).may S') (ha₀.keeps S'.keep).list (by omega) (by omega) fun h₉ tk₉ e₉ c₉ hx₉ hc₉ => ?_)))))
        refine hE' _ _ ⟨e₉, c₉, i, j, _, mv, uv, h₉, tk₉, rfl, rfl, B, hi, hj, by omega, by omega, ?_, ?_, .inl ⟨h', S', hx₉⟩⟩
        · rw [hin, List.drop_length, sld_nil_left] at hf1
          rw [← hf1, hin, ← lv, List.drop_length]; exact strs_append hmv .nil
        · rw [hin, List.drop_length, sld_nil_left] at hf2
          rw [← hf2]; exact strs_append huv (strs_drop hu j)
    · rintro f s₃ ⟨rfl, m, hm, q⟩
      exact wpAny_execs_nil (wpAny_execs_nil ⟨m, hm, q⟩)
    · rintro x s₁ ⟨e₁, c, i, j, loc, mv, uv, h₂, tk₂, rfl, rfl, B, hi, hj, lm, lu, hm, hu', hS⟩
      have fin' : ∀ h₃ tk₃, St base L loc ([(uA, lst (uv ++ us.drop j)), (mA, lst (mv ++ vs.drop i))] ++ slots frs) h₃ → ∃ h' tk' loc mv uv, at_ s h₃ tk₃ = at_ s h' tk' ∧ has loc "missing" (.ref mA) ∧ has loc "unexpected" (.ref uA) ∧ St base L loc ([(uA, lst uv), (mA, lst mv)] ++ slots frs) h' ∧ StrsAre mv fin.1 ∧ StrsAre uv fin.2 :=
        fun h₃ tk₃ S₃ => ⟨h₃, tk₃, loc, _, _, rfl, B.mi, B.un, S₃, hm, hu'⟩
      rcases hS with ⟨h₀', S₀, hx⟩ | ⟨T, S₀⟩
      · refine note_new S₀ F hx fun T h₃ S₃ => ?_
        exact caught G e rfl rfl rfl rfl rfl rfl rfl rfl rfl ha₀ hb₀ B (by omega) (by omega) ⟨by omega, by omega, by omega, by omega⟩ S₃ fun h₄ tk₄ S₄ => ⟨rfl, fin' h₄ tk₄ S₄⟩
      · refine note_again F.frame S₀ 0 1 rfl rfl ?_
        exact caught G e rfl rfl rfl rfl rfl rfl rfl rfl rfl ha₀ hb₀ B (by omega) (by omega) ⟨by omega, by omega, by omega, by omega⟩ S₀ fun h₄ tk₄ S₄ => ⟨rfl, fin' h₄ tk₄ S₄⟩
  · rw [List.drop_zero, List.drop_zero, hfin]
    exact ⟨rfl, rfl⟩
  · rintro r s' ⟨rfl, h', tk', loc, mv, uv, rfl, hm, hu', S', hmv, huv⟩
    dsimp only
    refine wpAny_execs_cons (wpAny_Return_some (Tuple_ (sp_name (lo S' e hm (sp_name (lo S' e hu' (sp_nil (newT (by decide : 2 ≤ 1000000) fun D h₈ nD k₈ lD => ?_))))))))
    have S₈ := S'.pure k₈
    have kg : Kg (frs.map (·.1)) h h₈ := by
      refine St.kg (L := L) (loc := loc) (own := [(uA, lst uv), (mA, lst mv)]) ?_ O
      rw [hbase]; exact S₈
    have nn : ∀ {x}, base.get? x = none → (x ∉ frs.map (·.1)) → h.get? x = none := fun {x} q hx => by
      cases q' : h.get? x with
      | none => rfl
      | some o => rw [← hbase, hideAll_get _ q' hx] at q; cases q
    have ap := S'.apart
    rw [List.map_append, slots_keys] at ap
    have sep := (List.nodup_append.mp ap).2.2
    have nM : mA ∉ frs.map (·.1) := fun hm => sep mA (by simp) mA hm rfl
    have nU : uA ∉ frs.map (·.1) := fun hm => sep uA (by simp) uA hm rfl
    have nD' : D ∉ frs.map (·.1) := fun hm => by
      rw [← slots_keys] at hm
      obtain ⟨p, hp, z⟩ := List.mem_map.mp hm
      obtain ⟨o, q, _⟩ := S'.owns p (List.mem_append.mpr (.inr hp))
      rw [z, nD] at q; cases q
    have hne : mA ≠ uA := fun z => by
      have h2 := (List.nodup_append.mp ap).1
      rw [z] at h2
      simp at h2
    refine hQ _ _ (k D mA uA mv uv h₈ _ (nn (none_of_kp S'.keep nD) nD') (nn (S'.fresh (mA, lst mv) (by simp)).1 nM) (nn (S'.fresh (uA, lst uv) (by simp)).1 nU) kg lD ?_ ?_ hmv huv hne)
    · exact S₈.at 1 rfl
    · exact S₈.at 0 rfl
end
end Mine
end
section -- Uld
open PySem PySem.W PyProof.Rows PySem.Spec PySem.Calls PySem.SeqAt PySem.MeetsSeq
set_option Elab.async false
set_option maxRecDepth 100000
set_option maxHeartbeats 1000000
set_option pp.maxSteps 3000
namespace Mine
noncomputable def uldF : List Str → List Str → List Str → List Str × List Str
  | [], act, mis => (mis, act)
  | x :: r, act, mis => if act.any (sameS x) then uldF r (act.eraseIdx (act.findIdx (sameS x))) mis else uldF r act (mis ++ [x])
theorem strs_eraseIdx {vs : List Value} {ys : List Str} (h : StrsAre vs ys) : ∀ j, StrsAre (vs.eraseIdx j) (ys.eraseIdx j) := by
  induction h with
  | nil => intro j; exact .nil
  | cons a b h ih =>
    intro j
    cases j with
    | zero => exact h
    | succ j => exact .cons a b (ih j)
section
variable {h₀ h h' : Heap} {L : Addr} {loc : List (Str × Value)} {own : List (Addr × Sort_)}
theorem St.take1 (S : St h₀ L loc own h) {a : Addr} {P : Sort_} (ha : Is h₀ a P) : St (hideAll h₀ [a]) L loc ((a, P) :: own) h := by
  have nn : ∀ {b}, h₀.get? b = none → (hideAll h₀ [a]).get? b = none := fun {b} q => none_of_kp (hid_kp h₀ _) q
  obtain ⟨o, e, p⟩ := ha
  refine ⟨(hid_kp h₀ _).trans S.keep, S.ns, nn S.new, fun q hq => ?_, fun q hq => ?_, ?_⟩
  · rcases List.mem_cons.mp hq with rfl | hq
    · exact ⟨o, S.keep _ _ e, p⟩
    · exact S.owns q hq
  · rcases List.mem_cons.mp hq with rfl | hq
    · exact ⟨hideAll_none _ (.head _), fun z => by
        have z' : a = L := z
        rw [z', S.new] at e; cases e⟩
    · exact ⟨nn (S.fresh q hq).1, (S.fresh q hq).2⟩
  · rw [List.map_cons, List.nodup_cons]
    refine ⟨fun hm => ?_, S.apart⟩
    obtain ⟨q, hq, z⟩ := List.mem_map.mp hm
    have := (S.fresh q hq).1
    rw [z, e] at this; cases this
end
theorem mapSeq_is {h : Heap} {a : Addr} {vs : List Value} {n : Nat} (g : Array Value → Array Value) (ea : h.get? a = some { cls := .type "list", data := .seq vs.toArray n }) : Is (h.update a (Obj.mapSeq g)) a (lst (g vs.toArray).toList) := by
  have e := get?_update_seq (c := "list") ea g
  exact ⟨_, e, _, by rw [Array.toArray_toList]⟩
theorem erase_list (l : List Value) (j : Nat) : (l.toArray.eraseIdxIfInBounds j).toList = l.eraseIdx j := by
  unfold Array.eraseIdxIfInBounds
  split
  · simp
  · rename_i q
    rw [List.eraseIdx_of_length_le (by simpa using q)]
section
variable {w : World} {A : Around} {E : Value → Shared → Prop} {s : Shared} {h : Heap} {tk : Nat} {env : Env} {sc : Scope} {L : Addr} {cs : List (Str × Addr)} {h₀ : Heap} {loc : List (Str × Value)} {own : List (Addr × Sort_)}
theorem pop_own {a : Addr} {vs : List Value} {y : Value} {Q : Value → Shared → Prop} (S : St h₀ L loc own h) (i : Nat) (hi : own[i]? = some (a, lst (vs ++ [y]))) (hsz : vs.length ≤ 100000)
    (k : ∀ h' tk', St h₀ L loc (own.set i (a, lst vs)) h' → Q y (at_ s h' tk')) : wpAny (model PG w) A (call (.builtin "list.pop") [.ref a]) Q E (at_ s h tk) := by
  obtain ⟨_, ea, na, rfl⟩ := S.at i hi
  refine call_meets (s := at_ s h tk) F.slot_list_pop ⟨_, ea, rfl⟩ F.entry_list_pop (F.args_list_pop_1 _) (list_pop_last a (vs ++ [y]).toArray na y ?_ ?_) ⟨ea, ?_⟩
  · simp
  · rw [sizeLine_eq, List.size_toArray, List.length_append]; simp; omega
  · refine k _ _ (S.upd i hi (fun c o hc q => (Heap.get?_update_other _ _ (Ne.symm hc)).trans q) ?_)
    have e := mapSeq_is (fun xs => xs.eraseIdxIfInBounds ((vs ++ [y]).toArray.size - 1)) ea
    rw [erase_list] at e
    have : (vs ++ [y]).eraseIdx ((vs ++ [y]).toArray.size - 1) = vs := by
      rw [List.size_toArray, List.length_append]
      simp [List.eraseIdx_append_of_length_le]
    rw [this] at e
    exact e
theorem remove_own {a : Addr} {vs : List Value} {ss : List Str} {x : Str} {t : Tok} {Q : Value → Shared → Prop} (S : St h₀ L loc own h) (i : Nat) (hi : own[i]? = some (a, lst vs)) (hs : StrsAre vs ss) (hsz : vs.length ≤ 100000) (hx : ss.any (sameS x) = true)
    (k : ∀ h' tk', St h₀ L loc (own.set i (a, lst (vs.eraseIdx (ss.findIdx (sameS x))))) h' → Q .none (at_ s h' tk')) : wpAny (model PG w) A (call (.builtin "list.remove") [.ref a, .str x t]) Q E (at_ s h tk) := by
  obtain ⟨_, ea, na, rfl⟩ := S.at i hi
  have lt : ss.findIdx (sameS x) < ss.length := List.findIdx_lt_length_of_exists (by simpa using hx)
  have sz : vs.toArray.size = ss.length := by rw [List.size_toArray, strs_len hs]
  have item : ∀ j (hj : j < vs.toArray.size), ∃ y u, ss[j]? = some y ∧ vs.toArray[j] = .str y u := fun j hj => by
    obtain ⟨y, u, q, r⟩ := strs_get hs (i := j) (v := vs.toArray[j]) (by simp)
    exact ⟨y, u, q, r⟩
  let ev : Value → Bool := fun v => match v with | .str y _ => sameS x y | _ => false
  refine call_meets (s := at_ s h tk) F.slot_list_remove ⟨_, ea, rfl⟩ F.entry_list_remove (F.args_list_remove_2 _ _) (list_remove a vs.toArray na (.str x t) ev ?_ (ss.findIdx (sameS x)) (by rw [sz]; exact lt) ?_ ?_ ?_) ⟨ea, ?_⟩
  · intro v hv
    obtain ⟨j, hj, rfl⟩ := Array.mem_iff_getElem.mp hv
    obtain ⟨y, u, q, r⟩ := item j hj
    rw [r]
    exact SeqRoads2.EqGives.str y x u t
  · obtain ⟨y, u, q, r⟩ := item _ (by rw [sz]; exact lt)
    rw [r]
    have := List.findIdx_getElem (p := sameS x) (xs := ss) (w := lt)
    obtain ⟨_, z⟩ := List.getElem?_eq_some_iff.mp q
    rw [z] at this
    exact this
  · intro m hm hlt
    obtain ⟨y, u, q, r⟩ := item m hm
    rw [r]
    have := List.not_of_lt_findIdx (p := sameS x) (xs := ss) hlt
    obtain ⟨_, z⟩ := List.getElem?_eq_some_iff.mp q
    rw [z] at this
    exact this
  · rw [sizeLine_eq, List.size_toArray]; omega
  · refine k _ _ (S.upd i hi (fun c o hc q => (Heap.get?_update_other _ _ (Ne.symm hc)).trans q) ?_)
    have e := mapSeq_is (fun xs => xs.eraseIdxIfInBounds (ss.findIdx (sameS x))) ea
    rw [erase_list] at e
    exact e
theorem remove_none {a : Addr} {vs : List Value} {ss : List Str} {x : Str} {t : Tok} {Q : Value → Shared → Prop} (hA : A.handled = none) (hl : Is h a (lst vs)) (hs : StrsAre vs ss) (hx : ss.any (sameS x) = false)
    (k : ∀ h' tk' e, NewX h h' e "ValueError" .none → E (.ref e) (at_ s h' tk')) : wpAny (model PG w) A (call (.builtin "list.remove") [.ref a, .str x t]) Q E (at_ s h tk) := by
  obtain ⟨_, ea, na, rfl⟩ := hl
  have item : ∀ j (hj : j < vs.toArray.size), ∃ y u, ss[j]? = some y ∧ vs.toArray[j] = .str y u := fun j hj => by
    obtain ⟨y, u, q, r⟩ := strs_get hs (i := j) (v := vs.toArray[j]) (by simp)
    exact ⟨y, u, q, r⟩
  let ev : Value → Bool := fun v => match v with | .str y _ => sameS x y | _ => false
  refine call_meets (s := at_ s h tk) F.slot_list_remove ⟨_, ea, rfl⟩ F.entry_list_remove (F.args_list_remove_2 _ _) (list_remove_none a vs.toArray na (.str x t) ev ?_ ?_) ⟨ea, hA, fun h' tk' e q => k h' tk' e (NewX.of q)⟩
  · intro v hv
    obtain ⟨j, hj, rfl⟩ := Array.mem_iff_getElem.mp hv
    obtain ⟨y, u, q, r⟩ := item j hj
    rw [r]
    exact SeqRoads2.EqGives.str y x u t
  · intro m hm
    obtain ⟨y, u, q, r⟩ := item m hm
    rw [r]
    have mem : y ∈ ss := List.mem_of_getElem? q
    have := List.any_eq_false.mp hx y mem
    simpa using this
noncomputable def Kx (l ex : List Addr) (h h' : Heap) : Prop := (∀ b o, b ∉ l → b ∉ ex → h.get? b = some o → h'.get? b = some o) ∧ ∀ b ∈ l, ∀ o, h.get? b = some o → ∃ sl, h'.get? b = some { o with slots := sl }
theorem ct_uld {A : Around} {n : Nat} {a b : Addr} {vs us : List Value} {es as : List Str} {outer : List Env} {frs : List (Addr × Obj)} {Q : Value → Shared → Prop} (O : Ou A h outer frs) (G : Gr w (hideAll (hideAll (hideAll h (frs.map (·.1))) [b]) [a])) (R : Rm (n + 1) A) (hA : A.handled = none)
    (ha : Is h a (lst vs)) (hv : StrsAre vs es) (hb : Is h b (lst us)) (hu : StrsAre us as) (z1 : es.length < 400) (z2 : as.length < 400) (hna : a ∉ frs.map (·.1)) (hnb : b ∉ frs.map (·.1)) (hab : a ≠ b)
    (k : ∀ D mA mv uv h' tk', h.get? D = none → h.get? mA = none → Kx (frs.map (·.1)) [a, b] h h' → Is h' D (tup [.ref mA, .ref b]) → Is h' mA (lst mv) → Is h' a (lst []) → Is h' b (lst uv) →
      StrsAre mv (uldF es.reverse as []).1 → StrsAre uv (uldF es.reverse as []).2 → Q (.ref D) (at_ s h' tk')) :
    wpAny (model PG w) A (call (.ref 91) [.ref a, .ref b]) Q E (at_ s h tk) := by
  refine enterX (binds := [("expected", .ref a), ("actual", .ref b)]) O (G.keeps ((hid_kp _ _).trans (hid_kp _ _))) R rfl rfl rfl rfl (by decide) (locs rfl) rfl rfl rfl rfl ?_
  intro env L h₁ tk₁ Qf Ef hQ e F S R₁
  dsimp only at e S ⊢
  have hA' : (A.deeper env).handled = none := hA
  have hb₀ : Is (hideAll h (frs.map (·.1))) b (lst us) := by
    obtain ⟨o, q, p⟩ := hb
    exact ⟨o, hideAll_get _ q hnb, p⟩
  have ha₀ : Is (hideAll (hideAll h (frs.map (·.1))) [b]) a (lst vs) := by
    obtain ⟨o, q, p⟩ := ha
    exact ⟨o, hideAll_get _ (hideAll_get _ q hna) (by simpa using hab), p⟩
  have S := (S.take1 hb₀).take1 ha₀
  generalize hbase : hideAll (hideAll (hideAll h (frs.map (·.1))) [b]) [a] = base at S G
  have S : St base L [("actual", .ref b), ("expected", .ref a)] ([(a, lst vs), (b, lst us)] ++ slots frs) h₁ := S
  refine wpAny_execs_cons (wpAny_Assign_Name (List_ (sp_nil (newL (by decide) fun mA h₄ nm k₄ lm => ?_))))
  refine stl (S.more k₄ nm lm) e rfl fun h₅ tk₅ S₅ => ?_
  have S₅ : St base L (aset "missing" (.ref mA) [("actual", .ref b), ("expected", .ref a)]) ([(mA, lst []), (a, lst vs), (b, lst us)] ++ slots frs) h₅ := S₅
  generalize hfin : uldF es.reverse as [] = fin at k
  refine wpAny_execs_cons (wpAny_While (codeAny_mono (codeAny_whileLoop (R := fun r s' => r = .ok .next ∧ ∃ h' tk' loc mv uv, s' = at_ s h' tk' ∧ has loc "missing" (.ref mA) ∧ has loc "actual" (.ref b) ∧ St base L loc ([(mA, lst mv), (a, lst []), (b, lst uv)] ++ slots frs) h' ∧ StrsAre mv fin.1 ∧ StrsAre uv fin.2)
    (fun k s' => ∃ loc mv vs uv ms es us' h' tk', k = es.length ∧ s' = at_ s h' tk' ∧ has loc "expected" (.ref a) ∧ has loc "actual" (.ref b) ∧ has loc "missing" (.ref mA) ∧ St base L loc ([(mA, lst mv), (a, lst vs), (b, lst uv)] ++ slots frs) h' ∧ StrsAre mv ms ∧ StrsAre vs es ∧ StrsAre uv us' ∧
      ms.length + es.length < 1000 ∧ us'.length < 1000 ∧ uldF es.reverse us' ms = fin) ?_ es.length ⟨_, [], vs, us, [], es, as, h₅, tk₅, rfl, rfl, rfl, rfl, rfl, S₅, .nil, hv, hu, by simp; omega, by omega, hfin⟩) ?_))
  · rintro kk s' ⟨loc, mv, vs, uv, ms, es, us', h', tk', rfl, rfl, le, la, lm', S', hmv, hvs, huv, sz1, sz2, hf⟩
    have l1 := strs_len hmv
    have l2 := strs_len hvs
    have l3 := strs_len huv
    have lE : Is h' a (lst vs) := S'.at 1 rfl
    refine wpAny_isTrue_value (lo S' e le (wpAny_truthy_list (s := at_ s h' tk') lE.list (by rw [List.size_toArray]; omega) ?_))
    rcases List.eq_nil_or_concat es with rfl | ⟨es', x, rfl⟩
    · cases hvs
      refine wpAny_execs_nil ⟨rfl, h', _, loc, mv, uv, rfl, lm', la, S', ?_, ?_⟩
      · rw [← hf]; exact hmv
      · rw [← hf]; exact huv
    · obtain ⟨vs', tx, rfl, hvs'⟩ : ∃ vs' tx, vs = vs' ++ [.str x tx] ∧ StrsAre vs' es' := by
        rw [List.concat_eq_append] at hvs
        have hx : (es' ++ [x])[es'.length]? = some x := by simp
        obtain ⟨tx, q⟩ := strs_at hvs hx
        refine ⟨vs.take es'.length, tx, ?_, ?_⟩
        · rw [List.concat_eq_append, List.length_append, List.length_singleton] at l2
          obtain ⟨hl, z⟩ := List.getElem?_eq_some_iff.mp q
          apply List.ext_getElem?
          intro j
          by_cases hj : j < es'.length
          · rw [List.getElem?_append_left (by rw [List.length_take]; omega), List.getElem?_take_of_lt hj]
          · by_cases hj2 : j = es'.length
            · subst hj2
              rw [q, List.getElem?_append_right (by rw [List.length_take]; omega), List.length_take, Nat.min_eq_left (by omega), Nat.sub_self]; rfl
            · rw [List.getElem?_eq_none (by omega), List.getElem?_eq_none (by rw [List.length_append, List.length_take]; simp; omega)]
        · have := strs_take hvs es'.length
          simpa using this
      have hne : (!(vs' ++ [Value.str x tx]).toArray.isEmpty) = true := by simp
      rw [if_pos hne]
      rw [List.concat_eq_append, List.length_append, List.length_singleton] at sz1
      refine hideQE fun Q' E' hQ' hE' => ?_
      refine wpAny_execs_cons (wpAny_Assign_Name (meth0 PySem.F.plainAttrs_list PySem.F.slot_list_pop PySem.F.type_list_pop base_name rfl (lo S' e le ⟨lE.list.typeIs, ?_, ?_⟩)))
      · rintro _ ⟨⟩
        obtain ⟨o, q, n, rfl⟩ := lE
        exact ⟨_, q, rfl⟩
      refine pop_own S' 1 rfl (by have := strs_len hvs'; omega) fun h₆ tk₆ S₆ => ?_
      have S₆ : St base L loc ([(mA, lst mv), (a, lst vs'), (b, lst uv)] ++ slots frs) h₆ := S₆
      refine stl S₆ e rfl fun h₇ tk₇ S₇ => ?_
      have le₇ := asl (x := "item") (v := .str x tx) le (by decide)
      have la₇ := asl (x := "item") (v := .str x tx) la (by decide)
      have lm₇ := asl (x := "item") (v := .str x tx) lm' (by decide)
      have li₇ := asl_self (x := "item") (v := .str x tx) (loc := loc)
      have S₇ : St base L (aset "item" (.str x tx) loc) ([(mA, lst mv), (a, lst vs'), (b, lst uv)] ++ slots frs) h₇ := S₇
      generalize aset "item" (.str x tx) loc = loc₇ at S₇ le₇ la₇ lm₇ li₇
      have lB : Is h₇ b (lst uv) := S₇.at 2 rfl
      have hf' : (if us'.any (sameS x) then uldF es'.reverse (us'.eraseIdx (us'.findIdx (sameS x))) ms else uldF es'.reverse us' (ms ++ [x])) = fin := by
        rw [← hf, List.concat_eq_append, List.reverse_append]; rfl
      have ex : (es'.concat x).length = es'.length + 1 := by rw [List.concat_eq_append, List.length_append]; rfl
      refine wpAny_execs_cons (wpAny_Try_except (wpAny_execs_cons (exprS e (meth1 PySem.F.plainAttrs_list PySem.F.slot_list_remove PySem.F.type_list_remove base_name rfl rfl (lo S₇ e la₇ ⟨lB.list.typeIs, ?_, lo S₇ e li₇ ?_⟩)))))
      · rintro _ ⟨⟩
        obtain ⟨o, q, n, rfl⟩ := lB
        exact ⟨_, q, rfl⟩
      by_cases hx : us'.any (sameS x) = true
      · rw [if_pos hx] at hf'
        refine remove_own S₇ 2 rfl huv (by omega) hx fun h₈ tk₈ S₈ => ?_
        have S₈ : St base L loc₇ ([(mA, lst mv), (a, lst vs'), (b, lst (uv.eraseIdx (us'.findIdx (sameS x))))] ++ slots frs) h₈ := S₈
        refine wpAny_execs_nil (wpAny_execs_nil (wpAny_execs_nil (hQ' .next _ ⟨es'.length, by omega, loc₇, mv, vs', _, ms, es', _, h₈, tk₈, rfl, rfl, le₇, la₇, lm₇, S₈, hmv, hvs', strs_eraseIdx huv _, by omega, ?_, hf'⟩)))
        have := List.length_eraseIdx_le us' (us'.findIdx (sameS x))
        omega
      · have hx' : us'.any (sameS x) = false := by simpa using hx
        rw [if_neg hx] at hf'
        refine remove_none hA' lB huv hx' fun h₈ tk₈ e₈ hx₈ => ?_
        refine note_new S₇ F hx₈ fun T h₉ S₉ => ?_
        refine set_fl S₉ 0 1 rfl rfl fun h₁₀ S₁₀ => ?_
        refine wpAny_handleBy_builtin (X := "ValueError") (T := "ValueError") (b := true) PySem.F.isExc_ValueError PySem.F.notTuple_ValueError PySem.F.self_ValueError ?_
        refine bl (.type "ValueError") (G.keeps S₁₀.keep) e ⟨rfl, ?_, ?_⟩
        · obtain ⟨o, q, hc, _⟩ := S₁₀.at 0 rfl
          exact ⟨o, q, hc⟩
        rw [if_pos rfl]
        refine set_fl S₁₀ 0 1 rfl rfl fun h₁₁ S₁₁ => ?_
        have S₁₁ : St base L loc₇ ((e₈, excS "ValueError" T .none) :: (T, tbS .none) :: ([(mA, lst mv), (a, lst vs'), (b, lst uv)] ++ slots frs)) h₁₁ := S₁₁
        refine wpAny_execs_cons (stmt_append S₁₁ e rfl lm₇ 2 rfl (by omega) (.str x tx) (fun Q' q => lo S₁₁ e li₇ (q _)) (fun h₁₂ tk₁₂ S₁₂ => ?_) rfl rfl rfl)
        have S₁₂ : St base L loc₇ ((e₈, excS "ValueError" T .none) :: (T, tbS .none) :: ([(mA, lst (mv ++ [.str x tx])), (a, lst vs'), (b, lst uv)] ++ slots frs)) h₁₂ := S₁₂
        refine wpAny_execs_nil (wpAny_execs_nil (hQ' .next _ ⟨es'.length, by omega, loc₇, _, vs', uv, ms ++ [x], es', us', h₁₂, tk₁₂, rfl, rfl, le₇, la₇, lm₇, S₁₂.drop _ (.cons _ (.cons _ (List.Sublist.refl _))), strs_snoc hmv x tx, hvs', huv, ?_, sz2, hf'⟩))
        rw [List.length_append]; simp; omega
  · rintro r s' ⟨rfl, h', tk', loc, mv, uv, rfl, hm, hu', S', hmv, huv⟩
    dsimp only
    refine wpAny_execs_cons (wpAny_Return_some (Tuple_ (sp_name (lo S' e hm (sp_name (lo S' e hu' (sp_nil (newT (by decide : 2 ≤ 1000000) fun D h₈ nD k₈ lD => ?_))))))))
    have S₈ := S'.pure k₈
    have ap := S'.apart
    rw [List.map_append, slots_keys] at ap
    have sep := (List.nodup_append.mp ap).2.2
    have get : ∀ c o, c ∉ frs.map (·.1) → c ∉ [a, b] → h.get? c = some o → base.get? c = some o := fun c o q1 q2 q => by
      rw [← hbase]
      exact hideAll_get _ (hideAll_get _ (hideAll_get _ q q1) (by simp at q2 ⊢; exact q2.2)) (by simp at q2 ⊢; exact q2.1)
    have fr : ∀ c ∈ frs.map (·.1), ∃ o, h'.get? c = some o := fun c hm => by
      rw [← slots_keys] at hm
      obtain ⟨p, hp, z⟩ := List.mem_map.mp hm
      obtain ⟨o, q, _⟩ := S'.owns p (List.mem_append.mpr (.inr hp))
      exact ⟨o, by rw [← z]; exact q⟩
    have nM : mA ∉ frs.map (·.1) := fun hm => sep mA (by simp) mA hm rfl
    have nM2 : mA ∉ [a, b] := fun hm => by
      have h2 := (List.nodup_append.mp ap).1
      simp at h2 hm
      rcases hm with q | q
      · exact h2.1.1 q
      · exact h2.1.2 q
    have nn : ∀ x, (x ∉ frs.map (·.1)) → x ∉ [a, b] → base.get? x = none → h.get? x = none := fun x q1 q2 q => by
      cases q' : h.get? x with
      | none => rfl
      | some o => rw [get x o q1 q2 q'] at q; cases q
    have nD1 : D ∉ frs.map (·.1) := fun hm => by obtain ⟨o, q⟩ := fr D hm; rw [nD] at q; cases q
    have nD2 : D ∉ [a, b] := fun hm => by
      simp at hm
      rcases hm with rfl | rfl
      · obtain ⟨o, q, _⟩ := S'.at 1 rfl; rw [nD] at q; cases q
      · obtain ⟨o, q, _⟩ := S'.at 2 rfl; rw [nD] at q; cases q
    refine hQ _ _ (k D mA mv uv h₈ _ (nn D nD1 nD2 (none_of_kp S'.keep nD)) (nn mA nM nM2 (S'.fresh (mA, lst mv) (by simp)).1) ⟨fun c o q1 q2 q => S₈.keep c o (get c o q1 q2 q), fun c hc o q => ?_⟩ lD (S₈.at 0 rfl) (S₈.at 1 rfl) (S₈.at 2 rfl) hmv huv)
    obtain ⟨q', hq, rfl⟩ := List.mem_map.mp hc
    obtain ⟨o', e', sl, z⟩ := S₈.owns (q'.1, slt q'.2) (List.mem_append.mpr (.inr (List.mem_map_of_mem (f := fun p : Addr × Obj => (p.1, slt p.2)) hq)))
    rw [O.there q' hq] at q; cases q
    exact ⟨sl, by rw [← z]; exact e'⟩
end
end Mine
end
section -- Lred
open PySem PySem.W PyProof.Rows PySem.Spec PySem.Calls PySem.SeqAt
set_option Elab.async false
set_option maxRecDepth 100000
set_option maxHeartbeats 1000000
set_option pp.maxSteps 3000
namespace Mine
inductive DoneAll : List (Str × Str) → List Str → List Str → Prop
  | nil (ss : List Str) : DoneAll [] ss ss
  | snoc {ds : List (Str × Str)} {ss ss' ss'' : List Str} {d : Str × Str} : DoneAll ds ss ss' → doneR d.1 d.2 ss' ss'' → DoneAll (ds ++ [d]) ss ss''
theorem doneR_len {op x : Str} {ss ss' : List Str} (h : doneR op x ss ss') : ss'.length ≤ ss.length + 1 := by
  unfold doneR at h
  split at h
  · have := h.1.length_eq
    rw [List.length_append] at this; simp at this; omega
  · rw [h]
    have := List.length_filter_le (fun y : Str => y.cps.toList != x.cps.toList) ss
    omega
theorem DoneAll.len {ds : List (Str × Str)} {ss ss' : List Str} (h : DoneAll ds ss ss') : ss'.length ≤ ss.length + ds.length := by
  induction h with
  | nil => simp
  | snoc _ q ih =>
    have := doneR_len q
    rw [List.length_append]; simp; omega
noncomputable def DeedsAt (h : Heap) (vs : List Value) (ds : List (Str × Str)) : Prop := vs.length = ds.length ∧ ∀ (i : Nat) (d : Str × Str), ds[i]? = some d → ∃ a t u, vs[i]? = some (.ref a) ∧ Is h a (lst [.str d.1 t, .str d.2 u])
section
variable {w : World} {A : Around} {E : Value → Shared → Prop} {s : Shared} {h : Heap} {tk : Nat}
theorem iter_call {l : Addr} {its : Array Value} {Q : Value → Shared → Prop} (hl : h.IsList l its) (k : ∀ I h', h.get? I = none → Kp h h' → h'.IsListIter I l 0 → Q (.ref I) (at_ s h' tk)) : wpAny (model PG w) A (call (.builtin "iter") [.ref l]) Q E (at_ s h tk) := by
  refine call_function_entry (by decide +kernel) (by decide +kernel) kdk_entry_iter (kdk_args_iter _) ?_
  unfold Builtin.«iter»
  refine wpAny_bind (m := someArgs "iter" 1 2 _) (wpAny_of_eq (a := [Value.ref l]) (by first | rfl | kernel_rfl!) ?_)
  show wpAny _ _ (pyIter (.ref l) >>= _) _ _ _
  refine wpAny_bind (iterL hl fun I h' nI k' hI => wpAny_pure ⟨_, rfl, k I h' nI k' hI⟩)
theorem enterD {Q : Value → Shared → Prop} {f : Addr} {vals : List Value} {oc : Value} {od : Option Addr} {osl : Array (Option Value)} {fd : FuncData} {body : List Stmt} {binds : List (Str × Value)} {n : Nat}
    (G : Gr w h) (R : Rm (n + 1) A) (ho : (KF w.params).lookup f = some ⟨oc, od, .func fd, osl⟩) (hbody : fd.body = .stmts body) (hcd : codeIn (KF w.params) fd.code fd.qualname = true) (hbind : BindsTo (at_ s h tk) fd ⟨vals, []⟩ binds)
    (hcell : ∀ x ∈ fd.scope.names, x.2 ≠ .cell) (hloc : ∀ x ∈ binds, fd.scope.names.lookup x.1 = some .local) (hgl : fd.globals = mainGlobals) (hbu : fd.builtins = builtinsNs) (hcl : fd.closure = []) (hk : fd.scope.kind = .function)
    (k : ∀ env L h₁ tk₁ (Qf : Flow → Shared → Prop) (Ef : Value → Shared → Prop), (∀ v s', Q v s' → Qf (.ret v) s') → EnvIs env fd.scope L [] → St h L binds.reverse [] h₁ → Gr w h₁ → Rm n (A.deeper env) →
      wpAny (model PG w) (A.deeper env) (execs body env) Qf Ef (at_ s h₁ tk₁))
    (hco : fd.scope.isCoroutine = false := by rfl) (hgen : fd.scope.isGenerator = false := by rfl) :
    wpAny (model PG w) A (call (.ref f) vals) Q E (at_ s h tk) := by
  refine wpAny_call (codeAny_call_def (s := at_ s h tk) (by have := R.depth; omega) (G.k _ _ ho) rfl G.nolimit (codeRec_of G.k hcd) hbody hbind hcell hloc (fun h₁ hns hk₁ => ?_) hco hgen hk)
  exact k _ h.objs.size h₁ _ _ _ (fun v s' q => q) ⟨rfl, rfl, hgl, hbu, hcl, hk⟩ ⟨hk₁, hns, none_size _, fun _ hp => (nomatch hp), fun _ hp => (nomatch hp), List.nodup_nil⟩ (G.keeps hk₁) R.deeper
theorem isR {x y : Addr} {ox oy : Obj} {Q : Value → Shared → Prop} (hxy : x ≠ y) (hx : h.get? x = some ox) (hy : h.get? y = some oy) (hnt : ox.cls ≠ .type "tuple") (k : Q (.bool false) (at_ s h tk)) : wpAny (model PG w) A (compareOp .Is (.ref x) (.ref y)) Q E (at_ s h tk) :=
  wpAny_is_ref_other (s := at_ s h tk) hxy hx hy hnt k
theorem ct_reduce {n : Nat} {l r : Addr} {ls vs : List Value} {ds : List (Str × Str)} {ss : List Str} {Q : Value → Shared → Prop} (G : Gr w h) (R : Rm (n + 2) A) (hA : A.handled = none) (hl : Is h l (lst ls)) (hds : DeedsAt h ls ds)
    (hr : Is h r (lst vs)) (hss : StrsAre vs ss) (hlen : ss.length + ds.length < 60) (hr69 : r ≠ 69)
    (k : ∀ D out ss' h' tk', (h.get? D = none ∨ D = r) → Kp h h' → Is h' D (lst out) → StrsAre out ss' → DoneAll ds ss ss' → Q (.ref D) (at_ s h' tk')) :
    wpAny (model PG w) A (call (.ref 77) [.ref 120, .ref l, .ref r]) Q E (at_ s h tk) := by
  refine enterD (binds := [("function", .ref 120), ("sequence", .ref l), ("initial", .ref r)]) G R rfl rfl rfl (BindsTo.of_defaults rfl (G.k _ _ rfl) rfl rfl rfl) (by decide) (locs rfl) rfl rfl rfl rfl ?_
  intro env L h₁ tk₁ Qf Ef hQ e S G₁ R₁
  dsimp only at e S ⊢
  have hA' : (A.deeper env).handled = none := hA
  have S : St h L [("initial", .ref r), ("sequence", .ref l), ("function", .ref 120)] [] h₁ := S
  with_reducible refine wpAny_execs_cons (wpAny_Assign_Name (wpAny_Call_NameR (bl (.builtin "iter") G₁ e (callW_b ?_ (sp_name (lo0 (v := .ref l) S e (sp_nil (iter_call (hl.keeps S.keep).list fun I h₂ nI k₂ hI => ?_))))))) rfl)
  · rfl
  obtain ⟨oI, qI, rI⟩ := id hI
  have S₂ : St h L [("initial", .ref r), ("sequence", .ref l), ("function", .ref 120)] ([] ++ (frz h₂ [I] ++ [])) h₂ := S.more (P := fun o => h₂.get? I = some o) k₂ nI ⟨oI, qI, qI⟩
  refine stl S₂ e rfl fun h₃ tk₃ S₃ => ?_
  have hlI : l ≠ I := fun z => by
    obtain ⟨o, q, _⟩ := hl.keeps S.keep
    rw [z, nI] at q; cases q
  have W := Walks.list (prog := PG) (w := w) hA' I l hlI ls.toArray
  have G₃ := G.keeps S₃.keep
  have hr₃ := hr.keeps S₃.keep
  obtain ⟨or, eor, nr, rfl⟩ := id hr₃
  refine wpAny_execs_cons (wpAny_If (wpAny_isTrue_Compare1 (lo0 (v := .ref r) S₃ e (gl (.ref 69) G₃ e (isR hr69 eor (G₃.k 69 _ rfl) (by simp) (wpAny_truthy_bool ?_))))))
  rw [if_neg Bool.false_ne_true]
  refine wpAny_execs_cons (wpAny_Assign_Name (lo0 (v := .ref r) S₃ e (stl S₃ e rfl fun h₄ tk₄ S₄ => wpAny_execs_nil ?_)))
  have S₄ : St h L (aset "value" (.ref r) (aset "it" (.ref I) [("initial", .ref r), ("sequence", .ref l), ("function", .ref 120)])) ([] ++ (frz h₂ [I] ++ [])) h₄ := S₄
  have hI₄ : h₄.IsListIter I l 0 := ⟨oI, S₄.frozen (.head _) qI, rI⟩
  refine wpAny_execs_cons (wpAny_For (lo0 (v := .ref I) S₄ e (wpAny_pyIter_listiter (s := at_ s h₄ tk₄) hI₄ ?_)))
  refine codeAny_mono (for_walks (s := s) (R := fun r' s' => ∃ h' tk' loc' D out ss', r' = .ok .next ∧ s' = at_ s h' tk' ∧ St h L loc' [] h' ∧ has loc' "value" (.ref D) ∧ (h.get? D = none ∨ D = r) ∧ Is h' D (lst out) ∧ StrsAre out ss' ∧ DoneAll ds ss ss') W []
    (fun i loc own => has loc "function" (.ref 120) ∧ ∃ D out ss', has loc "value" (.ref D) ∧ StrsAre out ss' ∧ DoneAll (ds.take i) ss ss' ∧ ((own = [] ∧ D = r ∧ out = vs) ∨ own = [(D, lst out)]))
    ?_ ?_ ?_ ?_ ?_ S₄.thaw ⟨hI₄, (hl.keeps S₄.keep).list⟩ ?_) ?_
  · rintro i v s' Q' E' hP ⟨hs, _⟩ q
    obtain ⟨y, hy⟩ : ∃ a, v = .ref a := by
      have hi : i < ds.length := by
        rw [← hds.1]
        have : ls[i]? = some v := by simpa using hP
        exact (List.getElem?_eq_some_iff.mp this).1
      obtain ⟨a, t, u, q1, _⟩ := hds.2 i _ (List.getElem?_eq_getElem hi)
      have : ls[i]? = some v := by simpa using hP
      rw [q1] at this; cases this; exact ⟨a, rfl⟩
    exact wpAny_pure q
  · rintro i h' ⟨⟨o, q, _⟩, _⟩ b hb
    rw [List.mem_singleton.mp hb]; exact ⟨o, q⟩
  · intro b hb
    simp only [List.mem_cons, List.not_mem_nil, or_false] at hb
    rcases hb with rfl | rfl
    · exact .inl (.head _)
    · obtain ⟨o, q, _⟩ := hl
      exact .inr (.inl ⟨o, q⟩)
  · rintro i v loc own h₅ tk₅ fz' Qb E' hi hv ⟨hfn, D, out, ss', hval, hout, hda, hown⟩ S₅ hnext hcont hbrk hret
    have hi' : i < ds.length := by rw [← hds.1]; simpa using hi
    obtain ⟨a, t, u, q1, hdeed⟩ := hds.2 i _ (List.getElem?_eq_getElem hi')
    have hva : v = .ref a := by
      have : ls[i]? = some v := by simpa using hv
      rw [q1] at this; cases this; rfl
    subst hva
    have lD : Is h₅ D (lst out) := by
      rcases hown with ⟨rfl, rfl, rfl⟩ | rfl
      · exact hr.keeps S₅.keep
      · exact S₅.at 0 rfl
    refine wpAny_assign_Name (stl S₅ e rfl fun h₆ tk₆ S₆ => ?_)
    have lD₆ : Is h₆ D (lst out) := by
      rcases hown with ⟨rfl, rfl, rfl⟩ | rfl
      · exact hr.keeps S₆.keep
      · exact S₆.at 0 rfl
    have G₆ := G.keeps S₆.keep
    have hfn₆ := asl (x := "element") (v := .ref a) hfn (by decide)
    have hval₆ := asl (x := "element") (v := .ref a) hval (by decide)
    have hel₆ := asl_self (x := "element") (v := .ref a) (loc := loc)
    have hl' := hda.len
    have hlt : (ds.take i).length ≤ ds.length := by rw [List.length_take]; omega
    refine wpAny_execs_cons (wpAny_Assign_Name (wpAny_Call_NameR (lo S₆ e hfn₆ (callW_f rfl rfl (sp_name (lo S₆ e hval₆ (sp_name (lo S₆ e hel₆ (sp_nil ⟨G₆, ?_⟩))))) h₆ G₆))))
    refine ct_done G₆ R₁ hA' lD₆ hout (hdeed.keeps S₆.keep) (by rw [strs_len hout]; omega) fun D₂ out₂ ss₂ h₇ tk₇ nD₂ k₇ lD₂ hout₂ hdone => ?_
    have S₇ := S₆.more k₇ nD₂ lD₂
    refine stl S₇ e rfl fun h₈ tk₈ S₈ => ?_
    refine wpAny_execs_nil (hnext _ [(D₂, lst out₂)] _ _ ⟨asl hfn₆ (by decide), D₂, out₂, ss₂, asl_self, hout₂, ?_, .inr rfl⟩ (S₈.drop _ ?_))
    · rw [List.take_add_one, List.getElem?_eq_getElem hi']
      exact .snoc hda hdone
    · exact .cons_cons _ (List.sublist_append_right _ _)
  · rintro loc own h₅ tk₅ Qb E' ⟨hfn, D, out, ss', hval, hout, hda, hown⟩ S₅ hq
    have sz : ls.toArray.size = ds.length := by rw [List.size_toArray, hds.1]
    rw [sz, List.take_length] at hda
    refine wpAny_execs_nil (hq _ _ ⟨h₅, tk₅, loc, D, out, ss', rfl, rfl, S₅.drop _ (List.nil_sublist _), hval, ?_, ?_, hout, hda⟩)
    · rcases hown with ⟨rfl, rfl, rfl⟩ | rfl
      · exact .inr rfl
      · exact .inl (S₅.fresh (D, lst out) (.head _)).1
    · rcases hown with ⟨rfl, rfl, rfl⟩ | rfl
      · exact hr.keeps S₅.keep
      · exact S₅.at 0 rfl
  · exact ⟨rfl, r, vs, ss, rfl, hss, .nil ss, .inl ⟨rfl, rfl, rfl⟩⟩
  · rintro r' s' ⟨h₅, tk₅, loc', D, out, ss', rfl, rfl, S₅, hval, hD, lD, hout, hda⟩
    dsimp only
    exact wpAny_execs_cons (wpAny_Return_some (lo S₅ e hval (hQ _ _ (k D out ss' h₅ tk₅ hD S₅.keep lD hout hda))))
end
end Mine
end
section -- Lam
open PySem PySem.W PyProof.Rows PySem.Spec PySem.Calls PySem.SeqAt PySem.MeetsSeq
set_option Elab.async false
set_option maxRecDepth 100000
set_option maxHeartbeats 1000000
set_option pp.maxSteps 3000
namespace Mine
section
variable {w : World} {A : Around} {E : Value → Shared → Prop} {s : Shared} {h : Heap} {tk : Nat} {env : Env} {sc : Scope} {L : Addr} {cs : List (Str × Addr)} {h₀ : Heap} {loc : List (Str × Value)} {own : List (Addr × Sort_)}
theorem St.gain {own' : List (Addr × Sort_)} {h' : Heap} {c : Addr} {P : Sort_} (S : St h₀ L loc own h) (S' : St h₀ L loc own' h') (keys : own'.map (·.1) = own.map (·.1)) (hn : h.get? c = none) (hc : Is h' c P) : St h₀ L loc ((c, P) :: own') h' := by
  obtain ⟨oL, _, _, hL, _⟩ := S.ns
  refine ⟨S'.keep, S'.ns, S'.new, fun p hp => ?_, fun p hp => ?_, ?_⟩
  · rcases List.mem_cons.mp hp with rfl | hp
    · exact hc
    · exact S'.owns p hp
  · rcases List.mem_cons.mp hp with rfl | hp
    · exact ⟨none_of_kp S.keep hn, fun z => by
        have z' : c = L := z
        rw [← z', hn] at hL; cases hL⟩
    · exact S'.fresh p hp
  · rw [List.map_cons, List.nodup_cons, keys]
    refine ⟨fun hm => ?_, S.apart⟩
    obtain ⟨p, hp, z⟩ := List.mem_map.mp hm
    obtain ⟨o, q, _⟩ := S.owns p hp
    rw [z, hn] at q; cases q
theorem keys_set {i : Nat} {a : Addr} {P P' : Sort_} (hi : own[i]? = some (a, P)) : (own.set i (a, P')).map (·.1) = own.map (·.1) := by
  rw [List.map_set]
  apply List.ext_getElem?
  intro j
  rw [List.getElem?_set]
  split
  · rename_i q; subst q
    have : (own.map (·.1))[i]? = some a := by rw [List.getElem?_map, hi]; rfl
    obtain ⟨hl, _⟩ := List.getElem?_eq_some_iff.mp this
    rw [if_pos hl, this]
  · rfl
theorem Gr.main (G : Gr w h) : ∃ mg, h.Ns mainGlobals mg ∧ ∀ P, P ≠ 4 → h.BuiltinsAt mg P := by
  obtain ⟨o, q, q1, q2, q3⟩ := G.m
  have N : h.Ns mainGlobals (h.nsMap mainGlobals) := .of_isNs (isNs_of_in G.k (by kernel_rfl))
  exact ⟨_, N, fun P hP => ⟨4, o, mg_of G.k N (by kernel_rfl), by decide, by decide, hP.symm, q, q1, q2, q3⟩⟩
theorem enterL {Q : Value → Shared → Prop} {f c' : Addr} {name qual : Str} {params : Arguments} {body : Expr} {scope : Scope} {cl : List (Str × Addr)} {pm ctv : Value} {vals : List Value} {binds : List (Str × Value)} {n : Nat}
    (G : Gr w h) (R : Rm (n + 1) A) (ho : h.get? f = some (kla_obj name qual params body scope cl pm c' ctv)) (hcd : h.CodeRec (.ref c') qual) (hbind : bindArgs (kla_fn name qual params body scope cl pm (.ref c') ctv) ⟨vals, []⟩ = pure binds)
    (hcell : ∀ x ∈ scope.names, x.2 ≠ .cell) (hloc : ∀ x ∈ binds, scope.names.lookup x.1 = some .local) (hk : scope.kind = .function)
    (k : ∀ env L h₁ tk₁ (Ef : Value → Shared → Prop), EnvIs env scope L cl → St h L binds.reverse [] h₁ → Gr w h₁ → Rm n (A.deeper env) → wpAny (model PG w) (A.deeper env) (eval body env) Q Ef (at_ s h₁ tk₁))
    (hco : scope.isCoroutine = false := by rfl) (hgen : scope.isGenerator = false := by rfl) :
    wpAny (model PG w) A (call (.ref f) vals) Q E (at_ s h tk) := by
  refine wpAny_call (kla_callFunE (s := at_ s h tk) (by have := R.depth; omega) ho rfl hco hgen rfl hcd ?_)
  rw [hbind]
  refine wpAny_pure (wpAny_newFunctionEnv (s := at_ s h tk) hcell hloc (fun h₁ hns hsb => ⟨G.nolimit.fresh _ hsb, ?_⟩) hk)
  have hk₁ : Kp h h₁ := fun b o e => hsb.extBut b o (Nat.ne_of_lt (Heap.lt_size e)) (Heap.get?_push_of_some _ e)
  exact kla_codeExpr (k (envX qual scope h.objs.size f (.ref c') cl) h.objs.size h₁ _ _ ⟨rfl, rfl, rfl, rfl, rfl, hk⟩ ⟨hk₁, hns, none_size _, fun _ hp => (nomatch hp), fun _ hp => (nomatch hp), List.nodup_nil⟩ (G.keeps hk₁) R.deeper)
theorem idxL {l : Addr} {vs : List Value} {ss : List Str} {x : Str} {t : Tok} {Q : Value → Shared → Prop} (hl : Is h l (lst vs)) (hs : StrsAre vs ss) (hsz : vs.length ≤ 100000) (hx : ss.any (sameS x) = true)
    (k : ∀ t' tk', Q (.int (ss.findIdx (sameS x)) t') (at_ s h tk')) : wpAny (model PG w) A (call (.builtin "list.index") [.ref l, .str x t]) Q E (at_ s h tk) := by
  obtain ⟨_, ea, na, rfl⟩ := hl
  have lt : ss.findIdx (sameS x) < ss.length := List.findIdx_lt_length_of_exists (by simpa using hx)
  have sz : vs.toArray.size = ss.length := by rw [List.size_toArray, strs_len hs]
  have lv := strs_len hs
  have item : ∀ j (hj : j < vs.toArray.size), ∃ y u, ss[j]? = some y ∧ vs.toArray[j] = .str y u := fun j hj => by
    obtain ⟨y, u, q, r⟩ := strs_get hs (i := j) (v := vs.toArray[j]) (by simp)
    exact ⟨y, u, q, r⟩
  let ev : Value → Bool := fun v => match v with | .str y _ => sameS x y | _ => false
  refine call_meets (s := at_ s h tk) F.slot_list_index ⟨_, ea, rfl⟩ F.entry_list_index (F.args_list_index_2 _ _) (list_index l vs.toArray na (.str x t) ev ?_ (ss.findIdx (sameS x)) (by rw [sz]; exact lt) (by omega) ?_ ?_) ⟨ea, k _ _⟩
  · intro v hv
    obtain ⟨j, hj, rfl⟩ := Array.mem_iff_getElem.mp hv
    obtain ⟨y, u, q, r⟩ := item j hj
    rw [r]
    exact SeqRoads2.EqGives.str y x u t
  · obtain ⟨y, u, q, r⟩ := item _ (by rw [sz]; exact lt)
    rw [r]
    have := List.findIdx_getElem (p := sameS x) (xs := ss) (w := lt)
    obtain ⟨_, z⟩ := List.getElem?_eq_some_iff.mp q
    rw [z] at this
    exact this
  · intro m hm hlt
    obtain ⟨y, u, q, r⟩ := item m hm
    rw [r]
    have := List.not_of_lt_findIdx (p := sameS x) (xs := ss) hlt
    obtain ⟨_, z⟩ := List.getElem?_eq_some_iff.mp q
    rw [z] at this
    exact this
noncomputable def codS (q : Str) : Sort_ := fun o => ∃ vs t, o.data = .fields vs ∧ vs[1]? = some (.str q t)
theorem codS.rec {c : Addr} {q : Str} (x : Is h c (codS q)) : h.CodeRec (.ref c) q := let ⟨o, e, vs, t, a, b⟩ := x; ⟨c, o, vs, t, rfl, e, a, b⟩
theorem mkLam {params : Arguments} {body : Expr} {scope : Scope} {pos : Pos} {c P : Addr} {ps : Array Value} {clos : List (Str × Addr)} {Q : Value → Shared → Prop} (S : St h₀ L loc own h) (e : EnvIs env sc L cs) (hcode : env.code = .ref c) (G : Gr w h)
    (hC : codeHdIn (KF w.params) c P = true) (hP17 : P ≠ 4) (hPm : mainGlobals ≠ P) (i : Nat) (hi : own[i]? = some (P, fun o => o = tabObj ps)) (ht : TriplesOk ps.toList) (hnf : codeAmong pos ps.toList = none) (hcl : closL cs scope.names [] = some clos) (hdef : defaultsOf params env = ([], []))
    (k : ∀ f c' ctv pm h' tk', St h₀ L loc ((f, fun o => o = kla_obj "<lambda>" (env.qual ++ "<lambda>") params body scope clos pm c' ctv) :: (c', codS (env.qual ++ "<lambda>")) :: own.set i (P, fun o => o = tabObj (ps ++ #[rawInt pos.line, rawInt pos.col, .ref c']))) h' →
      (∀ b o, b ≠ P → h.get? b = some o → h'.get? b = some o) → Q (.ref f) (at_ s h' tk')) :
    wpAny (model PG w) A (eval (.Lambda params body scope pos) env) Q E (at_ s h tk) := by
  obtain ⟨mg, hmg, hbt⟩ := G.main
  obtain ⟨_, hP, rfl⟩ := S.at i hi
  refine kla_eval hdef (kla_makeFunction (s := at_ s h tk) (closure_of e hcl) e.globals hmg hcode (codeHd_of_K G.k hC) hP ht hnf hPm (hbt P hP17) fun c' ctv h' tk' hx hge hlt hrec htab => ?_)
  have hx : Heap.ExtBut P h h' := hx
  have S' := S.upd i hi (h' := h') (P' := fun o => o = tabObj (ps ++ #[rawInt pos.line, rawInt pos.col, .ref c'])) (fun b o hb q => hx b o hb q) ⟨_, htab, rfl⟩
  have nc : h.get? c' = none := Heap.get?_none_of_le hge
  have S₂ := S.gain S' (keys_set hi) nc (P := codS (env.qual ++ "<lambda>")) (by
    obtain ⟨c₂, o, vs, t, z, q, a, b⟩ := hrec
    cases z
    exact ⟨o, q, vs, t, a, b⟩)
  refine k h'.objs.size c' ctv _ _ _ (S₂.push (P := fun o => o = kla_obj "<lambda>" (env.qual ++ "<lambda>") params body scope clos ((mg "__name__").getD .none) c' ctv) _ rfl) fun b o hb q => ?_
  exact Heap.get?_push_of_some _ (hx b o hb q)
end
end Mine
end
section -- SortK
open PySem PySem.W PyProof.Rows PySem.Spec PySem.Calls PySem.SeqAt
set_option Elab.async false
set_option maxRecDepth 100000
set_option maxHeartbeats 1000000
set_option pp.maxSteps 3000
namespace Mine
noncomputable def allNews (h : Heap) (L : Addr) : List (Addr × Obj) := (List.range h.objs.size).filterMap fun b => if b = L then none else (h.get? b).map fun o => (b, o)
theorem allNews_mem {h : Heap} {L b : Addr} {o : Obj} : (b, o) ∈ allNews h L ↔ b ≠ L ∧ h.get? b = some o := by
  unfold allNews
  rw [List.mem_filterMap]
  constructor
  · rintro ⟨c, hc, q⟩
    split at q
    · cases q
    · rename_i hne
      obtain ⟨o', e, z⟩ := Option.map_eq_some_iff.mp q
      cases z
      exact ⟨hne, e⟩
  · rintro ⟨hne, e⟩
    exact ⟨b, List.mem_range.mpr (Heap.lt_size e), by rw [if_neg hne, e]; rfl⟩
structure KL (L : Addr) (m : Str → Option Value) (h h' : Heap) : Prop where
  keep : ∀ b o, b ≠ L → h.get? b = some o → h'.get? b = some o
  ns : h'.Ns L m
section
variable {w : World} {A : Around} {E : Value → Shared → Prop} {s : Shared} {h h' : Heap} {tk : Nat} {env : Env} {sc : Scope} {L : Addr} {cs : List (Str × Addr)} {h₀ : Heap} {loc : List (Str × Value)} {own : List (Addr × Sort_)}
theorem St.kl (S : St h₀ L loc own h) (k : KL L (fun x => loc.lookup x) h h') : St h₀ L loc own h' :=
  ⟨fun b o e => k.keep b o (fun z => by rw [z, S.new] at e; cases e) (S.keep b o e), k.ns, S.new, fun p hp => let ⟨o, q, r⟩ := S.owns p hp; ⟨o, k.keep _ _ (S.fresh p hp).2 q, r⟩, S.fresh, S.apart⟩
theorem KL.is {m : Str → Option Value} (k : KL L m h h') {a : Addr} {P : Sort_} (x : Is h a P) (ne : a ≠ L) : Is h' a P := let ⟨o, q, r⟩ := x; ⟨o, k.keep _ _ ne q, r⟩
theorem sortK {l : Addr} {f : Addr} {vs : List Value} {kz : List Int} {Q : Value → Shared → Prop} (S : St h₀ L loc own h) (hl : Is h l (lst vs)) (hlen : kz.length = vs.length) (h64 : vs.length < 64)
    (turn : ∀ (i : Nat) (v : Value) (k : Int), vs[i]? = some v → kz[i]? = some k → ∀ h' tk' (Q' : Value → Shared → Prop), KL L (fun x => loc.lookup x) h h' → (∀ t h'' tk'', Kp h' h'' → Q' (.int k t) (at_ s h'' tk'')) →
      wpAny (model PG w) A.in1.in1 (call (.ref f) [v]) Q' (fun _ _ => False) (at_ s h' tk'))
    (k : ∀ D h' tk' out, h.get? D = none → D ≠ L → KL L (fun x => loc.lookup x) h h' → Is h' D (lst out) → KskOut false kz vs out → Q (.ref D) (at_ s h' tk')) :
    wpAny (model PG w) A (call (.builtin "sorted") [.ref l] [(Str.ofString "key", .ref f)]) Q E (at_ s h tk) := by
  have Fx : Fr noH L h (fun x => loc.lookup x) := ⟨S.ns, fun b o e => (by rw [emptyHeap_none] at e; cases e), Nat.zero_le _⟩
  have Nx : News noH L h (allNews h L) := fun p hp => by
    obtain ⟨b, o⟩ := p
    obtain ⟨q1, q2⟩ := allNews_mem.mp hp
    exact ⟨q2, q1, emptyHeap_none _⟩
  have kl : ∀ {h' : Heap} {ex : List (Addr × Obj)}, Fr noH L h' (fun x => loc.lookup x) → News noH L h' (allNews h L ++ ex) → KL L (fun x => loc.lookup x) h h' := fun F' N' =>
    ⟨fun b o hne e => (N' (b, o) (List.mem_append_left _ (allNews_mem.mpr ⟨hne, e⟩))).1, F'.ns⟩
  refine ksk_sorted (s := at_ s h tk) (b := false) (f := .ref f) Fx Nx hl.list hlen h64 (ksk_s1 _ _) (fun x => ksk_l1 _ _) (fun x => ksk_t1 _ _) ?_ ?_
  · intro i v kx hv hk h₁ tk₁ ex F₁ N₁
    refine turn i v kx hv hk h₁ tk₁ _ (kl F₁ N₁) fun t h₂ tk₂ k₂ => ?_
    exact ⟨h₂, tk₂, t, rfl, rfl, ⟨F₁.ns.keeps k₂, fun b o e => (by rw [emptyHeap_none] at e; cases e), Nat.zero_le _⟩, fun p hp => ⟨k₂ _ _ (N₁ p hp).1, (N₁ p hp).2⟩⟩
  · intro D h₁ tk₁ out c F₁ N₁ hD hout
    have kk : KL L (fun x => loc.lookup x) h h₁ := ⟨fun b o hne e => (N₁ (b, o) (.tail _ (allNews_mem.mpr ⟨hne, e⟩))).1, F₁.ns⟩
    have dn := N₁ _ (.head _)
    refine k D h₁ tk₁ out.toList ?_ dn.2.1 kk ⟨_, dn.1, c, by rw [Array.toArray_toList]⟩ hout
    cases q : h.get? D with
    | none => rfl
    | some o => exact absurd (hD (D, o) (allNews_mem.mpr ⟨dn.2.1, q⟩)) (Nat.lt_irrefl _)
end
end Mine
end
section -- CallX
open PySem PySem.W PyProof.Rows PySem.Spec PySem.Calls PySem.SeqAt
set_option Elab.async false
set_option maxRecDepth 100000
set_option maxHeartbeats 1000000
set_option pp.maxSteps 3000
namespace Mine
section
variable {w : World} {A : Around} {E : Value → Shared → Prop} {s : Shared} {h h' : Heap} {tk : Nat} {env : Env} {sc : Scope} {L : Addr} {cs : List (Str × Addr)} {base : Heap} {loc : List (Str × Value)} {own : List (Addr × Sort_)} {outer : List Env} {frs : List (Addr × Obj)}
theorem Ou.of (S : St base L loc (own ++ slots frs) h) (F : Fk A env L outer (slots frs)) (hdict : ∀ p ∈ frs, ∃ es ep, p.2.data = .dict es ep) :
    ∃ frs', Ou A h (env :: outer) frs' ∧ frs'.map (·.1) = L :: frs.map (·.1) := by
  obtain ⟨oL, es, ep, hL, hLd, _⟩ := S.ns
  have get : ∀ p ∈ frs, ∃ sl, h.get? p.1 = some { p.2 with slots := sl } := fun p hp => by
    obtain ⟨o, q, sl, rfl⟩ := S.owns (p.1, slt p.2) (List.mem_append.mpr (.inr (List.mem_map_of_mem (f := fun p : Addr × Obj => (p.1, slt p.2)) hp)))
    exact ⟨sl, q⟩
  have ap := S.apart
  rw [List.map_append, slots_keys] at ap
  refine ⟨(L, oL) :: frs.map fun p => (p.1, (h.get? p.1).getD p.2), ⟨F.frames, ?_, ?_, ?_, ?_⟩, ?_⟩
  · intro env' he
    rcases List.mem_cons.mp he with rfl | he
    · exact ⟨F.kind, _, .head _, F.frame⟩
    · obtain ⟨q, b, o, hb, hm, _⟩ := F.outs env' he
      obtain ⟨p, hp, z⟩ := List.mem_map.mp hm
      have z1 : p.1 = b := congrArg Prod.fst z
      exact ⟨q, _, .tail _ (List.mem_map_of_mem hp), by rw [hb, ← z1]⟩
  · intro p hp
    rcases List.mem_cons.mp hp with rfl | hp
    · exact ⟨es, ep, hLd⟩
    · obtain ⟨q, hq, rfl⟩ := List.mem_map.mp hp
      obtain ⟨sl, e⟩ := get q hq
      obtain ⟨es', ep', hd⟩ := hdict q hq
      exact ⟨es', ep', by show ((h.get? q.1).getD q.2).data = _; rw [e]; exact hd⟩
  · intro p hp
    rcases List.mem_cons.mp hp with rfl | hp
    · exact hL
    · obtain ⟨q, hq, rfl⟩ := List.mem_map.mp hp
      obtain ⟨sl, e⟩ := get q hq
      show h.get? q.1 = some ((h.get? q.1).getD q.2)
      rw [e]; rfl
  · rw [List.map_cons, List.map_map]
    have e1 : List.map ((fun x => x.1) ∘ fun p : Addr × Obj => (p.1, (h.get? p.1).getD p.2)) frs = frs.map (·.1) := rfl
    rw [e1, List.nodup_cons]
    refine ⟨fun hm => ?_, (List.nodup_append.mp ap).2.1⟩
    rw [← slots_keys] at hm
    obtain ⟨p, hp, z⟩ := List.mem_map.mp hm
    exact (S.fresh p (List.mem_append.mpr (.inr hp))).2 z
  · rw [List.map_cons, List.map_map]; rfl
theorem St.base_hid (S : St base L loc (own ++ slots frs) h) : Kp base (hideAll h (L :: frs.map (·.1))) := fun b o e => by
  refine hideAll_get _ (S.keep b o e) fun hm => ?_
  rcases List.mem_cons.mp hm with z | hm
  · rw [z, S.new] at e; cases e
  · rw [← slots_keys] at hm
    obtain ⟨p, hp, z⟩ := List.mem_map.mp hm
    have := (S.fresh p (List.mem_append.mpr (.inr hp))).1
    rw [z, e] at this; cases this
theorem St.off (S : St base L loc (own ++ slots frs) h) {a : Addr} (ha : (∃ o, base.get? a = some o) ∨ a ∈ own.map (·.1)) : a ∉ L :: frs.map (·.1) := fun hm => by
  have ap := S.apart
  rw [List.map_append, slots_keys] at ap
  rcases ha with ⟨o, e⟩ | hin
  · rcases List.mem_cons.mp hm with z | hm
    · rw [z, S.new] at e; cases e
    · rw [← slots_keys] at hm
      obtain ⟨p, hp, z⟩ := List.mem_map.mp hm
      have := (S.fresh p (List.mem_append.mpr (.inr hp))).1
      rw [z, e] at this; cases this
  · rcases List.mem_cons.mp hm with z | hm
    · obtain ⟨p, hp, rfl⟩ := List.mem_map.mp hin
      exact (S.fresh p (List.mem_append.mpr (.inl hp))).2 z
    · exact (List.nodup_append.mp ap).2.2 a hin a hm rfl
theorem St.kgx (S : St base L loc (own ++ slots frs) h) (k : Kg (L :: frs.map (·.1)) h h') : St base L loc (own ++ slots frs) h' := by
  obtain ⟨oL, es, ep, hL, hLd, hLr⟩ := S.ns
  refine ⟨fun b o e => k.1 b o (S.off (.inl ⟨o, e⟩)) (S.keep b o e), ?_, S.new, fun p hp => ?_, S.fresh, S.apart⟩
  · obtain ⟨sl, e⟩ := k.2 L (.head _) oL hL
    exact ⟨_, es, ep, e, hLd, hLr⟩
  · obtain ⟨o, q, r⟩ := S.owns p hp
    rcases List.mem_append.mp hp with hp' | hp'
    · exact ⟨o, k.1 _ _ (S.off (.inr (List.mem_map_of_mem hp'))) q, r⟩
    · obtain ⟨z, hz, rfl⟩ := List.mem_map.mp hp'
      obtain ⟨sl, e⟩ := k.2 z.1 (.tail _ (List.mem_map_of_mem hz)) o q
      obtain ⟨sl₀, rfl⟩ := r
      exact ⟨_, e, sl, rfl⟩
end
end Mine
end
section -- Ops6
open PySem PySem.W PyProof.Rows PySem.Spec PySem.Calls PySem.SeqAt
set_option Elab.async false
set_option maxRecDepth 100000
set_option maxHeartbeats 1000000
set_option pp.maxSteps 3000
namespace Mine
section
variable {w : World} {A : Around} {E : Value → Shared → Prop} {s : Shared} {h h' : Heap} {tk : Nat} {env : Env} {sc : Scope} {L : Addr} {cs : List (Str × Addr)} {h₀ : Heap} {loc : List (Str × Value)} {own : List (Addr × Sort_)}
variable {t u : Tok} {Q : Value → Shared → Prop}
theorem lenL {l : Addr} {vs : List Value} (hl : Is h l (lst vs)) (hsz : vs.length ≤ 1000000) (k : ∀ t' tk', Q (.int vs.length t') (at_ s h tk')) : wpAny (model PG w) A (call (.builtin "len") [.ref l]) Q E (at_ s h tk) := by
  refine call_len_list (s := at_ s h tk) hl.list (by rw [List.size_toArray]; omega) ?_
  rw [List.size_toArray]
  exact k _ _
theorem listT {l : Addr} {vs : List Value} (hl : Is h l (tup vs)) (hsz : vs.length ≤ 1000000) (k : ∀ D h', h.get? D = none → Kp h h' → Is h' D (lst vs) → Q (.ref D) (at_ s h' tk)) : wpAny (model PG w) A (call (.type "list") [.ref l]) Q E (at_ s h tk) := by
  obtain ⟨o, q, hc, n, hd⟩ := hl
  exact call_list_seq (s := at_ s h tk) l (.inr rfl) q hc hd (fun h' c' k' q' => k _ _ (none_size h) k' ⟨_, q', c', rfl⟩) (by rw [sizeLine_eq, List.size_toArray]; omega)
theorem mulL2 {l : Addr} {vs : List Value} (hl : Is h l (lst vs)) (hsz : vs.length ≤ 1000) (k : ∀ D h', h.get? D = none → Kp h h' → Is h' D (lst (vs ++ vs)) → Q (.ref D) (at_ s h' tk)) : wpAny (model PG w) A (binaryOp .Mult (.ref l) (.int 2 u)) Q E (at_ s h tk) := by
  obtain ⟨_, q, n, rfl⟩ := hl
  refine wpAny_binaryOp_repeat_ref (s := at_ s h tk) (T := "list") (U := "int") (by decide) ⟨_, q, rfl⟩ (fun s' => typeIs_int s' 2 u) noFill_list_mul F.fills_int_mul F.slot_int_rmul repeat_list F.slot_int_index.lookup
    (call_meets F.slot_int_rmul (typeIs_int _ 2 u) F.entry_int_rmul (F.args_int_rmul_2 _ _) (int___rmul___int_list 2 u l vs.toArray n)
      ⟨q, rfl, ⟨_, q, rfl⟩, call_meets F.slot_list_mul ⟨_, q, rfl⟩ F.entry_list_mul (F.args_list_mul_2 _ _)
        (AutoListH.list___mul___list_int_3 l vs.toArray n 2 u (by decide) (by rw [List.size_toArray, show Int.toNat 2 = 2 from rfl]; omega) (by simp [Builtin.List.listTooLong, sizeLine]; omega))
        ⟨q, ?_⟩⟩)
  refine k _ _ (none_size h) (kp_push h _) ⟨_, Heap.get?_push_size _ rfl, 0, ?_⟩
  cases vs with
  | nil => rfl
  | cons a r => simp [List.replicate]
theorem eqLists {s : Shared} {a b : Addr} {vs us : List Value} (ha : Is s.heap a (lst vs)) (hb : Is s.heap b (lst us)) (hl : vs.length = us.length) (hu : A.units < cLine)
    (he : ∀ (j : Nat) v u, vs[j]? = some v → us[j]? = some u → EqAt A.in1 s v u true) : RcAt A s (.ref a) (.ref b) true := by
  have := RcAt.lists (A := A) (e := fun _ => true) ha.list hb.list (by rw [List.size_toArray, List.size_toArray, hl]) hu (fun j h1 h2 => he j _ _ (by simp) (by simp))
  have e : (List.range vs.toArray.size).all (fun _ => true) = true := by simp
  rw [e] at this
  exact this
theorem eqAt_lists {s : Shared} {a b : Addr} {vs us : List Value} (ha : Is s.heap a (lst vs)) (hb : Is s.heap b (lst us)) (hl : vs.length = us.length) (hu : A.units < cLine)
    (he : ∀ (j : Nat) v u, vs[j]? = some v → us[j]? = some u → EqAt A.in1 s v u true) : EqAt A s (.ref a) (.ref b) true := by
  by_cases z : a = b
  · subst z; exact EqAt.same _
  · exact EqAt.of_refs z (eqLists ha hb hl hu he)
theorem eqAt_str {s : Shared} (x : Str) (t u : Tok) : EqAt A s (.str x t) (.str x u) true := by
  have := EqAt.str_str (A := A) (s := s) x t x u
  rw [beq_self_eq_true] at this; exact this
theorem eqAt_int {s : Shared} (x : Int) (t u : Tok) : EqAt A s (.int x t) (.int x u) true := by
  have := EqAt.int_int (A := A) (s := s) x t x u
  rw [beq_self_eq_true] at this; exact this
theorem eqAt_strs {s : Shared} {a b : Addr} {vs us : List Value} {ss : List Str} (ha : Is s.heap a (lst vs)) (hb : Is s.heap b (lst us)) (hv : StrsAre vs ss) (hu' : StrsAre us ss) (hu : A.units < cLine) : EqAt A s (.ref a) (.ref b) true := by
  refine eqAt_lists ha hb (by rw [strs_len hv, strs_len hu']) hu fun j v u q r => ?_
  obtain ⟨y, ty, e1, rfl⟩ := strs_get hv q
  obtain ⟨z, tz, e2, rfl⟩ := strs_get hu' r
  rw [e1] at e2; cases e2
  exact eqAt_str _ _ _
theorem neLL {a b : Addr} {vs us : List Value} (ha : Is h a (lst vs)) (hb : Is h b (lst us)) (hl : vs.length = us.length) (hu : A.units < cLine)
    (he : ∀ (j : Nat) v u, vs[j]? = some v → us[j]? = some u → EqAt A.in1 (at_ s h tk) v u true) (k : Q (.bool false) (at_ s h tk)) : wpAny (model PG w) A (compareOp .NotEq (.ref a) (.ref b)) Q E (at_ s h tk) := by
  have := RcNeAt.lists (A := A) (s := at_ s h tk) (e := fun _ => true) ha.list hb.list (by rw [List.size_toArray, List.size_toArray, hl]) hu (fun j h1 h2 => he j _ _ (by simp) (by simp))
  have e : (!(List.range vs.toArray.size).all (fun _ => true)) = false := by simp
  rw [e] at this
  exact this PG w E Q k
theorem eqLL {a b : Addr} {vs us : List Value} (ha : Is h a (lst vs)) (hb : Is h b (lst us)) (hl : vs.length = us.length) (hu : A.units < cLine)
    (he : ∀ (j : Nat) v u, vs[j]? = some v → us[j]? = some u → EqAt A.in1 (at_ s h tk) v u true) (k : Q (.bool true) (at_ s h tk)) : wpAny (model PG w) A (compareOp .Eq (.ref a) (.ref b)) Q E (at_ s h tk) :=
  eqLists (s := at_ s h tk) ha hb hl hu he PG w E Q k
theorem cbool {b : Bool} {x1 : Nat} {pos : Pos} (k : Q (.bool b) (at_ s h tk)) : wpAny (model PG w) A (eval (.Constant (.bool b) x1 pos) env) Q E (at_ s h tk) := wpAny_Constant_bool k
end
end Mine
end
section -- Deeds
open PySem PySem.W PyProof.Rows PySem.Spec PySem.Calls PySem.SeqAt
set_option Elab.async false
set_option maxRecDepth 100000
set_option maxHeartbeats 1000000
set_option pp.maxSteps 3000
namespace Mine
section
variable {w : World} {A : Around} {E : Value → Shared → Prop} {s : Shared} {h h' : Heap} {tk : Nat} {env : Env} {sc : Scope} {L : Addr} {cs : List (Str × Addr)} {h₀ : Heap} {loc : List (Str × Value)} {own own' : List (Addr × Sort_)}
theorem St.gain2 {c d : Addr} {P R : Sort_} (S : St h₀ L loc own h) (S' : St h₀ L loc own' h') (keys : own'.map (·.1) = own.map (·.1)) (hc : h.get? c = none) (hd : h.get? d = none) (hcd : c ≠ d) (ic : Is h' c P) (id' : Is h' d R) : St h₀ L loc ((c, P) :: (d, R) :: own') h' := by
  have S₁ := S.gain S' keys hd id'
  have S₂ := S.gain S' keys hc ic
  refine ⟨S₁.keep, S₁.ns, S₁.new, fun p hp => ?_, fun p hp => ?_, ?_⟩
  · rcases List.mem_cons.mp hp with rfl | hp
    · exact ic
    · exact S₁.owns p hp
  · rcases List.mem_cons.mp hp with rfl | hp
    · exact S₂.fresh _ (.head _)
    · exact S₁.fresh p hp
  · have a1 := S₁.apart
    have a2 := S₂.apart
    rw [List.map_cons, List.nodup_cons] at a2
    rw [List.map_cons, List.nodup_cons]
    refine ⟨fun hm => ?_, a1⟩
    rw [List.map_cons] at hm
    rcases List.mem_cons.mp hm with z | hm
    · exact hcd z
    · exact a2.1 hm
noncomputable def deedObjs (op : Str) : List (Addr × Str × Tok × Tok) → List (Addr × Sort_) := List.map fun q => (q.1, lst [.str op q.2.2.1, .str q.2.1 q.2.2.2])
theorem comp_deeds {op : Str} {cp lp np : Pos} {ci : Nat} {iter : Expr} {r : Addr} {vs : List Value} {ss : List Str} {x : Str} {px pos : Pos} {scope : Scope} {cl : List (Str × Addr)} {Q : Value → Shared → Prop}
    (hA : A.handled = none) (e : EnvIs env sc L cs) (hr : Is h r (lst vs)) (hss : StrsAre vs ss) (hn : vs.length ≤ 1000)
    (done : ∀ D out h' tk', h.get? D = none → Kp h h' → Is h' D (lst out) → DeedsAt h' out (ss.map fun y => (op, y)) → Q (.ref D) (at_ s h' tk'))
    (hk : scope.kind = .function := by with_unfolding_all rfl) (hcell : ∀ C, cellSorts C scope = [] := by intro C; with_unfolding_all rfl) (hx : (relabelS scope sc).names.lookup x = some .local := by with_unfolding_all rfl) (hxd : (x == ("__debug__" : Str)) = false := by decide) :
    wpAny (model PG w) A (pyIter (.ref r)) (fun it s₂ => wpAny (model PG w) A (newList []) (fun acc s₃ => wpAny (model PG w) A (newFunctionEnv scope env.globals cl [] env.qual none .none (some env)) (fun cenv s₄ =>
      codeAny (model PG w) A (.compStart (.ListComp (.List [.Constant (.str op) ci cp, .Name x np] lp) [⟨.Name x px, iter, [], 0⟩] scope pos) 0 it acc { cenv with scope := relabel scope env }) (compPost (model PG w) A E none Q acc cenv.locals) s₄) E s₃) E s₂) E (at_ s h tk) := by
  refine iterL hr.list fun I h₂ nI k₂ hI => ?_
  have hrI : r ≠ I := fun z => by
    obtain ⟨o, q, _⟩ := hr
    rw [z, nI] at q; cases q
  refine comp_go (Walks.list (prog := PG) (w := w) hA I r hrI vs.toArray) e hk k₂ ?_ ?_ ?_ ?_ ⟨hI, (hr.keeps k₂).list⟩ ?_
    (fun i ys objs => ∃ qs : List (Addr × Str × Tok × Tok), objs = deedObjs op qs ∧ ys = qs.reverse.map (fun q => Value.ref q.1) ∧ qs.reverse.map (fun q => q.2.1) = ss.take i) ?_ ?_ ?_
  · intro b hb; rw [List.mem_singleton.mp hb]; exact nI
  · simp
  · rintro i h' ⟨⟨o, q, _⟩, _⟩ b hb; rw [List.mem_singleton.mp hb]; exact ⟨o, q⟩
  · intro b hb
    simp only [List.mem_cons, List.not_mem_nil, or_false] at hb
    rcases hb with rfl | rfl
    · exact .inl (.head _)
    · obtain ⟨o, q, _⟩ := hr
      exact .inr ⟨o, q⟩
  · rw [List.size_toArray]; omega
  · intro C; exact ⟨[], hcell C, rfl, rfl⟩
  · rintro cenv C D i v ys objs loc h₆ tk₆ fz Y N E' hi hv ⟨qs, rfl, rfl, hq⟩ eC S₆ hY hN
    obtain ⟨y, t, hy, rfl⟩ := strs_get hss (i := i) (v := v) (by simpa using hv)
    refine wpAny_assign_Name (slo S₆ eC (fun h₇ tk₇ S₇ => ?_) hx)
    refine wpAny_tests_nil ?_
    rw [if_pos rfl]
    refine List_ (sp_str fun t1 k1 => sp_name (lo S₇ eC asl_self (sp_nil (newL (by exact (by decide : 2 ≤ 1000000)) fun a h₈ na k₈ la => ?_)) hx hxd))
    have S₈ := S₇.more k₈ na la
    refine hY (.ref a) (deedObjs op ((a, y, t1, t) :: qs)) (aset x (.str y t) loc) h₈ k1 ⟨(a, y, t1, t) :: qs, rfl, by simp, ?_⟩ ?_
    · rw [List.take_add_one, hy]; simp [hq]
    · refine S₈.perm ?_
      exact (List.Perm.swap _ _ _)
  · rintro D ys objs h' tk' ⟨qs, rfl, rfl, hq⟩ hlen nD kk lD hobj _
    refine done D _ h' tk' (none_of_kp k₂ nD) kk lD ⟨?_, fun i d hd => ?_⟩
    · have := congrArg List.length hq
      rw [List.length_map, List.length_take, List.size_toArray, strs_len hss, Nat.min_self] at this
      rw [List.length_map, List.length_map]; exact this
    · rw [List.size_toArray, strs_len hss, List.take_length] at hq
      rw [List.getElem?_map] at hd
      obtain ⟨y, hy, rfl⟩ := Option.map_eq_some_iff.mp hd
      rw [← hq, List.getElem?_map] at hy
      obtain ⟨q, hqi, rfl⟩ := Option.map_eq_some_iff.mp hy
      refine ⟨q.1, q.2.2.1, q.2.2.2, by rw [List.getElem?_map, hqi]; rfl, ?_⟩
      have hm : q ∈ qs := List.mem_reverse.mp (List.mem_of_getElem? hqi)
      exact (hobj (q.1, lst [.str op q.2.2.1, .str q.2.1 q.2.2.2]) (List.mem_map_of_mem (f := fun q : Addr × Str × Tok × Tok => (q.1, lst [.str op q.2.2.1, .str q.2.1 q.2.2.2])) hm)).1
end
end Mine
end
section -- KskS
open PySem PySem.W PyProof.Rows PySem.Spec PySem.Calls PySem.SeqAt
set_option Elab.async false
set_option maxRecDepth 100000
set_option maxHeartbeats 1000000
namespace Mine
noncomputable def strOf (p : Int × Value) : Str := match p.2 with | .str y _ => y | _ => ""
theorem strsAre_of : ∀ (ps : List (Int × Value)), (∀ p ∈ ps, ∃ t, p.2 = .str (strOf p) t) → StrsAre (ps.map Prod.snd) (ps.map strOf)
  | [], _ => .nil
  | p :: r, h => by
    obtain ⟨t, e⟩ := h p (.head _)
    rw [List.map_cons, List.map_cons, e]
    exact .cons _ _ (strsAre_of r fun q hq => h q (.tail _ hq))
theorem zip_facts {key : Str → Int} {vs : List Value} {ss : List Str} (h : StrsAre vs ss) : (((ss.map key).zip vs).map strOf = ss) ∧ ∀ p ∈ (ss.map key).zip vs, (∃ t, p.2 = .str (strOf p) t) ∧ p.1 = key (strOf p) := by
  induction h with
  | nil => exact ⟨rfl, fun p hp => by simp at hp⟩
  | cons a b _ ih =>
    refine ⟨by rw [List.map_cons, List.zip_cons_cons, List.map_cons, ih.1]; rfl, fun p hp => ?_⟩
    rw [List.map_cons, List.zip_cons_cons] at hp
    rcases List.mem_cons.mp hp with rfl | hp
    · exact ⟨⟨b, rfl⟩, rfl⟩
    · exact ih.2 p hp
theorem ksk_strs {key : Str → Int} {vs out : List Value} {ss : List Str} (h : StrsAre vs ss) (k : KskOut false (ss.map key) vs out) : ∃ os, StrsAre out os ∧ os.Perm ss ∧ os.Pairwise fun x y => key x ≤ key y := by
  obtain ⟨ps, hp, rfl, hs⟩ := k
  obtain ⟨z1, z2⟩ := zip_facts (key := key) h
  have hm : ∀ p ∈ ps, (∃ t, p.2 = .str (strOf p) t) ∧ p.1 = key (strOf p) := fun p q => z2 p (hp.mem_iff.mp q)
  refine ⟨ps.map strOf, strsAre_of ps fun p q => (hm p q).1, by rw [← z1]; exact hp.map _, ?_⟩
  rw [List.pairwise_map]
  refine List.Pairwise.imp_of_mem (fun {a b} ha hb q => ?_) hs
  rw [← (hm a ha).2, ← (hm b hb).2]
  simpa using q
theorem Rm.in2 {n : Nat} {A : Around} (r : Rm (n + 1) A) : Rm n A.in1.in1 := ⟨by have := r.depth; show A.depth + n < _; omega, by have := r.units; show A.units + 1 + 1 + 8 * n < _; omega⟩
end Mine
end
section -- RevSl
open PySem PySem.W PyProof.Rows PySem.Spec PySem.Calls PySem.SeqAt
set_option Elab.async false
set_option maxRecDepth 100000
set_option maxHeartbeats 1000000
namespace Mine
section
variable {w : World} {A : Around} {E : Value → Shared → Prop} {s : Shared} {h : Heap} {tk : Nat} {env : Env} {Q : Value → Shared → Prop}
theorem slcRev {value : Expr} {p pos up cp : Pos} {ci : Nat}
    (k : wpAny (model PG w) A (eval value env) (fun o s₁ => ∃ l vs h' tk', o = .ref l ∧ s₁ = at_ s h' tk' ∧ Is h' l (lst vs) ∧ vs.length ≤ 1000000 ∧
        ∀ D h'' tk'', h'.get? D = none → Kp h' h'' → Is h'' D (lst vs.reverse) → Q (.ref D) (at_ s h'' tk'')) E (at_ s h tk))
    (ht : ∀ o r, letTemporaryGo value o r = pure () := by intro _ _; rfl) :
    wpAny (model PG w) A (eval (.Subscript value (.Slice none none (some (.UnaryOp .USub (.Constant (.int 1) ci cp) up)) p) pos) env) Q E (at_ s h tk) := by
  refine wpAny_Subscript_Slice_step (T := "list") list_getitem_lookup (wpAny_mono k (fun o s₁ q => ?_) fun _ _ e => e) ht
  obtain ⟨l, vs, h', tk', rfl, rfl, hl, hn, hq⟩ := q
  refine wpAny_Slice (wpAny_evalPart_none (wpAny_evalPart_none (wpAny_evalPart_some (wpAny_UnaryOp (cint fun t1 k1 => negI fun t2 k2 => ?_)))))
  have hl2 : Is (h'.push { cls := .type "slice", data := .fields #[.none, .none, .int (-1) t2] }) l (lst vs) := hl.keeps (kp_push _ _)
  refine ⟨hl2.list.typeIs, wpAny_getItem_list_slice (s := at_ s (h'.push { cls := .type "slice", data := .fields #[.none, .none, .int (-1) t2] }) k2) hl2.list (Heap.IsSliceOf.new ..) .none .none (.int _ _) (by decide) ?_ (by rw [List.size_toArray, sizeLine_eq]; omega)⟩
  have e1 : slicePick vs.toArray none none (some (-1)) = vs.reverse.toArray := krv_pick vs.toArray
  rw [e1]
  refine hq _ _ _ ?_ ((kp_push _ _).trans (kp_push _ _)) ⟨_, Heap.get?_push_size _ rfl, 0, rfl⟩
  exact none_of_kp (kp_push _ _) (none_size _)
end
end Mine
end
section -- Lsteps
open PySem PySem.W PyProof.Rows PySem.Spec PySem.Calls PySem.SeqAt
set_option Elab.async false
set_option maxRecDepth 100000
set_option maxHeartbeats 1000000
set_option pp.maxSteps 3000
namespace Mine
noncomputable def RowsAt (h : Heap) (l : Addr) (ms : List Int) : Prop :=
  ∃ refs : List Addr, Is h l (lst (refs.map Value.ref)) ∧ refs.length = ms.length ∧ ∀ (i : Nat) (m : Int), ms[i]? = some m → ∃ a vs, refs[i]? = some a ∧ Is h a (lst vs) ∧ StrsAre vs (SW m)
theorem RowsAt.keeps {h h' : Heap} {l : Addr} {ms : List Int} (x : RowsAt h l ms) (k : Kp h h') : RowsAt h' l ms := by
  obtain ⟨refs, a, b, c⟩ := x
  exact ⟨refs, a.keeps k, b, fun i m e => let ⟨p, q, r, s, t⟩ := c i m e; ⟨p, q, r, s.keeps k, t⟩⟩
theorem RowsAt.at {h : Heap} {l : Addr} {ms : List Int} (x : RowsAt h l ms) {i : Nat} (hi : i < ms.length) : ∃ vs' a vs, Is h l (lst vs') ∧ vs'.length = ms.length ∧ vs'[i]? = some (.ref a) ∧ Is h a (lst vs) ∧ StrsAre vs (SW (ms.getD i 0)) := by
  obtain ⟨refs, a, b, c⟩ := x
  obtain ⟨p, q, r, s, t⟩ := c i _ (List.getElem?_eq_getElem hi)
  refine ⟨_, p, q, a, by rw [List.length_map, b], by rw [List.getElem?_map, r]; rfl, s, ?_⟩
  rw [List.getD_eq_getElem?_getD, List.getElem?_eq_getElem hi]; exact t
noncomputable def lostM (m m' : Int) : List Str := only (SW m) (SW m') false
noncomputable def gv (ms : List Int) : Nat → List Str
  | 0 => []
  | i + 1 => gv ms i ++ lostM (ms.getD (i + 1) 0) (ms.getD i 0)
noncomputable def tkn (ms : List Int) : Nat → List Str
  | 0 => []
  | i + 1 => tkn ms i ++ lostM (ms.getD i 0) (ms.getD (i + 1) 0)
noncomputable def deeds (m m' : Int) : List (Str × Str) := (lostM m m').map (fun x => ((Str.ofString "-"), x)) ++ (lostM m' m).map (fun x => ((Str.ofString "+"), x))
structure Facts (ms : List Int) : Prop where
  one : ∀ m m', sld (SW m) (SW m') = (only (SW m) (SW m') false, only (SW m') (SW m) false)
  two : ∀ m m' d d', d.Perm (SW m ++ SW m) → sortedS d = true → d'.Perm (SW m' ++ SW m') → sortedS d' = true → sld d d' = (only (SW m) (SW m') true, only (SW m') (SW m) true)
  done : ∀ m m' ss', DoneAll (deeds m m') (SW m) ss' → ss' = SW m'
  inG : ∀ x ∈ lostM (ms.getD (ms.length - 1) 0) (ms.getD 0 0), (gv ms (ms.length - 1)).any (sameS x) = true
  inT : ∀ x ∈ lostM (ms.getD 0 0) (ms.getD (ms.length - 1) 0), (tkn ms (ms.length - 1)).reverse.any (sameS x) = true
  left : ∀ out : List Str, out.Perm (lostM (ms.getD (ms.length - 1) 0) (ms.getD 0 0)) → out.Pairwise (fun x y => -((gv ms (ms.length - 1)).findIdx (sameS x) : Int) ≤ -((gv ms (ms.length - 1)).findIdx (sameS y) : Int)) →
    out = (uldF (gv ms (ms.length - 1)).reverse (tkn ms (ms.length - 1)) []).1
  over : ∀ out : List Str, out.Perm (lostM (ms.getD 0 0) (ms.getD (ms.length - 1) 0)) → out.Pairwise (fun x y => -((tkn ms (ms.length - 1)).reverse.findIdx (sameS x) : Int) ≤ -((tkn ms (ms.length - 1)).reverse.findIdx (sameS y) : Int)) →
    out = (uldF (gv ms (ms.length - 1)).reverse (tkn ms (ms.length - 1)) []).2
theorem copies_len (p : Str → Bool) (xs : List Str) : (copies p (fun _ => 1) xs).length ≤ xs.length := by
  unfold copies
  induction xs with
  | nil => simp
  | cons a l ih =>
    by_cases q : p a = true
    · rw [List.filter_cons_of_pos q, List.flatMap_cons, List.length_append, List.length_replicate, List.length_cons]; dsimp only at ih ⊢; omega
    · rw [List.filter_cons_of_neg q, List.length_cons]; omega
theorem lostM_len (m m' : Int) : (lostM m m').length ≤ 12 := by
  have h1 := SW_length m
  have h2 := copies_len (fun y => !((SW m').any (· == y))) (SW m)
  unfold lostM only
  simp only [Bool.false_and, Bool.false_eq_true, if_false]
  omega
theorem gv_len (ms : List Int) : ∀ i, (gv ms i).length ≤ 12 * i
  | 0 => Nat.le_refl _
  | i + 1 => by
    have h1 := gv_len ms i
    have h2 := lostM_len (ms.getD (i + 1) 0) (ms.getD i 0)
    simp only [gv, List.length_append]; omega
theorem tkn_len (ms : List Int) : ∀ i, (tkn ms i).length ≤ 12 * i
  | 0 => Nat.le_refl _
  | i + 1 => by
    have h1 := tkn_len ms i
    have h2 := lostM_len (ms.getD i 0) (ms.getD (i + 1) 0)
    simp only [tkn, List.length_append]; omega
section
variable {w : World} {A : Around} {E : Value → Shared → Prop} {s : Shared} {h : Heap} {tk : Nat}
theorem sp_bool {env : Env} {b : Bool} {i : Nat} {p pos : Pos} {rest : List Expr} {Q : List Value → Shared → Prop} (k : wpAny (model PG w) A (spliced (backTo pos (starEach rest env))) (fun vs s₂ => Q (.bool b :: vs) s₂) E s) :
    wpAny (model PG w) A (spliced (backTo pos (starEach (.Constant (.bool b) i p :: rest) env))) Q E s := spliced_cons (wpAny_Constant_bool (k := i) (pos := p) k)
theorem neSS {a b : Addr} {vs us : List Value} {ss : List Str} {Q : Value → Shared → Prop} (ha : Is h a (lst vs)) (hb : Is h b (lst us)) (hv : StrsAre vs ss) (hu' : StrsAre us ss) (hu : A.units < cLine) (k : Q (.bool false) (at_ s h tk)) :
    wpAny (model PG w) A (compareOp .NotEq (.ref a) (.ref b)) Q E (at_ s h tk) := by
  refine neLL ha hb (by rw [strs_len hv, strs_len hu']) hu (fun j v u q r => ?_) k
  obtain ⟨y, ty, e1, rfl⟩ := strs_get hv q
  obtain ⟨z, tz, e2, rfl⟩ := strs_get hu' r
  rw [e1] at e2; cases e2
  exact eqAt_str _ _ _
theorem DeedsAt.keeps {h h' : Heap} {vs : List Value} {ds : List (Str × Str)} (x : DeedsAt h vs ds) (k : Kp h h') : DeedsAt h' vs ds :=
  ⟨x.1, fun i d e => let ⟨a, t, u, p, q⟩ := x.2 i d e; ⟨a, t, u, p, q.keeps k⟩⟩
theorem DeedsAt.append {h : Heap} {vs us : List Value} {ds es : List (Str × Str)} (x : DeedsAt h vs ds) (y : DeedsAt h us es) : DeedsAt h (vs ++ us) (ds ++ es) := by
  refine ⟨by rw [List.length_append, List.length_append, x.1, y.1], fun i d e => ?_⟩
  by_cases hi : i < ds.length
  · rw [List.getElem?_append_left hi] at e
    obtain ⟨a, t, u, p, q⟩ := x.2 i d e
    exact ⟨a, t, u, by rw [List.getElem?_append_left (by rw [x.1]; exact hi)]; exact p, q⟩
  · rw [List.getElem?_append_right (by omega)] at e
    obtain ⟨a, t, u, p, q⟩ := y.2 _ d e
    exact ⟨a, t, u, by rw [List.getElem?_append_right (by rw [x.1]; omega), x.1]; exact p, q⟩
theorem lst_inj {h : Heap} {a : Addr} {vs us : List Value} (x : Is h a (lst vs)) (y : Is h a (lst us)) : vs = us := by
  obtain ⟨o, q, n, rfl⟩ := x
  obtain ⟨o', q', n', rfl⟩ := y
  rw [q] at q'
  have := congrArg (fun z => z.map fun o : Obj => o.data) q'
  simp at this
  exact this.1
theorem St.kxx {base h h' : Heap} {L a b : Addr} {loc : List (Str × Value)} {own : List (Addr × Sort_)} {P P' : Sort_} {frs : List (Addr × Obj)} (S : St base L loc (((a, P) :: (b, P') :: own) ++ slots frs) h) (k : Kx (L :: frs.map (·.1)) [a, b] h h') : St base L loc (own ++ slots frs) h' := by
  obtain ⟨oL, es, ep, hL, hLd, hLr⟩ := S.ns
  have ap := S.apart
  have S0 : St base L loc (own ++ slots frs) h := S.drop _ (.cons _ (.cons _ (List.Sublist.refl _)))
  have ne : ∀ p ∈ own ++ slots frs, p.1 ∉ [a, b] := fun p hp hm => by
    rw [List.cons_append, List.cons_append, List.map_cons, List.map_cons, List.nodup_cons, List.nodup_cons] at ap
    have hin : p.1 ∈ (own ++ slots frs).map (·.1) := List.mem_map_of_mem hp
    simp only [List.mem_cons, List.not_mem_nil, or_false] at hm
    rcases hm with z | z
    · exact ap.1 (List.mem_cons_of_mem _ (z ▸ hin))
    · exact ap.2.1 (z ▸ hin)
  have nb : ∀ c o, base.get? c = some o → c ∉ [a, b] := fun c o e hm => by
    simp only [List.mem_cons, List.not_mem_nil, or_false] at hm
    rcases hm with z | z
    · have := (S.fresh (a, P) (.head _)).1
      have z' : c = a := z
      rw [z'] at e; rw [this] at e; cases e
    · have := (S.fresh (b, P') (.tail _ (.head _))).1
      have z' : c = b := z
      rw [z'] at e; rw [this] at e; cases e
  refine ⟨fun c o e => k.1 c o (S0.off (.inl ⟨o, e⟩)) (nb c o e) (S0.keep c o e), ?_, S0.new, fun p hp => ?_, S0.fresh, S0.apart⟩
  · obtain ⟨sl, e⟩ := k.2 L (.head _) oL hL
    exact ⟨_, es, ep, e, hLd, hLr⟩
  · obtain ⟨o, q, r⟩ := S0.owns p hp
    rcases List.mem_append.mp hp with hp' | hp'
    · exact ⟨o, k.1 _ _ (S0.off (.inr (List.mem_map_of_mem hp'))) (ne p hp) q, r⟩
    · obtain ⟨z, hz, rfl⟩ := List.mem_map.mp hp'
      obtain ⟨sl, e⟩ := k.2 z.1 (.tail _ (List.mem_map_of_mem hz)) o q
      obtain ⟨sl₀, rfl⟩ := r
      exact ⟨_, e, sl, rfl⟩
theorem sub_last {value slice : Expr} {l : Addr} {vs : List Value} {v : Value} {t : Tok} {Q : Value → Shared → Prop} (hl : Is h l (lst vs)) (h1 : 1 ≤ vs.length) (h2 : vs.length < 1000000) (hx : vs[vs.length - 1]? = some v) (k : Q v (at_ s h tk))
    (hs : subscripted slice false (.ref l) (.int (-1) t) = operate [.ref l, .int (-1) t] (getItem (.ref l) (.int (-1) t)) := by rfl) :
    wpAny (model PG w) A (subscriptTail value slice (.ref l) (.int (-1) t)) Q E (at_ s h tk) := by
  refine tail_any (s := at_ s h tk) (T := "list") hl.list.typeIs slot_list_getitem.lookup (wpAny_getItem_list_neg (s := at_ s h tk) (x := v) hl.list (by decide) (by rw [List.size_toArray]; omega) ?_ ?_ ?_) hs
  all_goals first
    | exact k
    | (rw [List.size_toArray]
       have e1 : (-1 + (vs.length : Int)).toNat = vs.length - 1 := by omega
       rw [e1]
       simpa using hx)
    | (rw [List.size_toArray]; omega)
    | decide
    | omega
theorem strs_reverse {vs : List Value} {ys : List Str} (h : StrsAre vs ys) : StrsAre vs.reverse ys.reverse := by
  induction h with
  | nil => exact .nil
  | cons a b _ ih =>
    rw [List.reverse_cons, List.reverse_cons]
    exact strs_snoc ih a b
noncomputable abbrev so (L st tA gA : Addr) (tvv gvv : List Value) (kv : Option Value) : List (Addr × Sort_) := [(tA, lst tvv), (gA, lst gvv), (127, fun o => o = tabObj #[]), (L + 4, cll (some (.ref tA))), (L + 3, cll (some (.ref gA))), (L + 2, cll kv), (L + 1, cll (some (.ref st)))]
noncomputable abbrev Rec5 := Addr × Addr × Addr × List Value × List Value
noncomputable def obj5 (q : Rec5) : List (Addr × Sort_) := [(q.1, lst [.ref q.2.1, .ref q.2.2.1]), (q.2.1, lst q.2.2.2.1), (q.2.2.1, lst q.2.2.2.2)]
theorem idx_facts {i n : Nat} (h : i + 1 < n) (hn : n ≤ 20) : (1 + (i : Int) - 1).toNat = i ∧ (1 + (i : Int)).toNat = i + 1 ∧ 0 ≤ 1 + (i : Int) - 1 ∧ 1 + (i : Int) - 1 < 1000000 ∧ 0 ≤ 1 + (i : Int) ∧ 1 + (i : Int) < 1000000 := by omega
theorem len_lt {a n : Nat} (h : a ≤ 12 * (n - 1)) (hn : n ≤ 20) : a < 400 := Nat.lt_of_le_of_lt (Nat.le_trans h (Nat.mul_le_mul_left 12 (Nat.le_trans (Nat.sub_le n 1) hn))) (by decide)
theorem len_add {a b c i n : Nat} (e : a = b) (h : b ≤ 12 * i) (h1 : i + 1 < n) (hn : n ≤ 20) (hc : c ≤ 12) : a + c ≤ 1000000 := by
  subst e
  exact Nat.le_trans (Nat.add_le_add (Nat.le_trans h (Nat.mul_le_mul_left 12 (Nat.le_of_lt (Nat.lt_of_lt_of_le (Nat.lt_of_succ_lt h1) hn)))) hc) (by decide)
theorem ct_steps {n : Nat} {rd st : Addr} {ms : List Int} {outer : List Env} {frs : List (Addr × Obj)} {Q : Value → Shared → Prop} (FX : Facts ms) (O : Ou A h outer frs) (G : Gr w (hideAll (hideAll h (frs.map (·.1))) [127])) (R : Rm (n + 4) A) (hA : A.handled = none)
    (h127 : h.get? 127 = some (tabObj #[])) (hn127 : 127 ∉ frs.map (·.1))
    (hrd : RowsAt (hideAll (hideAll h (frs.map (·.1))) [127]) rd ms) (hst : RowsAt (hideAll (hideAll h (frs.map (·.1))) [127]) st ms) (hm1 : 1 ≤ ms.length) (hm2 : ms.length ≤ 20)
    (k : ∀ h' tk', Kx (frs.map (·.1)) [127] h h' → (∃ ps, h'.get? 127 = some (tabObj ps)) → Q (.bool true) (at_ s h' tk')) :
    wpAny (model PG w) A (call (.ref 130) [.ref rd, .ref st]) Q E (at_ s h tk) := by
  refine enterCX (binds := [("read", .ref rd), ("sets", .ref st)]) O (G.keeps (hid_kp _ _)) R rfl rfl rfl rfl rfl (by decide) rfl rfl rfl rfl ?_
  intro env L h₁ tk₁ Qf Ef hQ e hcode F S R₁
  dsimp only at e S ⊢
  have hA' : (A.deeper env).handled = none := hA
  have S := S.take1 (P := fun o => o = tabObj #[]) (a := 127) ⟨_, hideAll_get _ h127 hn127, rfl⟩
  generalize hbase : hideAll (hideAll h (frs.map (·.1))) [127] = base at S G hrd hst
  have S : St base L [("read", .ref rd)] ([(127, fun o => o = tabObj #[]), (L + 4, cll none), (L + 3, cll none), (L + 2, cll none), (L + 1, cll (some (.ref st)))] ++ slots frs) h₁ := S
  replace e : EnvIs env _ L [("taken", L + 4), ("given", L + 3), ("k", L + 2), ("sets", L + 1)] := e
  obtain ⟨rs, r0, rv0, lrd, lrl, lr0, lrv, hr0⟩ := hrd.at (i := 0) hm1
  with_reducible refine wpAny_execs_cons (Assign_Tuple (Tuple_ (sp_sub (Subscript_ (lo0 (v := .ref rd) S e (cint fun t1 k1 => sub_list (v := .ref r0) (lrd.keeps S.keep).list ?_ ?_ ?_ (sp_list (List_ (sp_nil (newL ?_ fun gA h₂ ngA k₂ lgA => sp_list (List_ (sp_nil (newL ?_ fun tA h₃ ntA k₃ ltA => sp_nil (newT ?_ fun T h₄ nT k₄ lT => ?_)))))))) ?_))))) ?_ ?_)
  · decide
  · decide
  · exact lr0
  · exact Nat.zero_le _
  · exact Nat.zero_le _
  · exact (by decide : 3 ≤ 1000000)
  · have S₄ := ((S.more k₂ ngA lgA).more k₃ ntA ltA).pure k₄
    obtain ⟨oT, qT, cT, nT', dT⟩ := lT
    refine wpAny_assign_Tuple (s := at_ s h₄ k1) hA' ⟨oT, qT, cT, nT', dT⟩ rfl rfl fun h₅ hx₅ => ?_
    have S₅ := S₄.pure (kp_ext hx₅)
    refine wpAny_assignInOrder_more (wpAny_assign_Name (stl (s := s) (tk := k1) S₅ e rfl fun h₆ tk₆ S₆ => ?_))
    have S₆ : St base L (aset "rights" (.ref r0) [("read", .ref rd)]) ([(tA, lst []), (gA, lst []), (127, fun o => o = tabObj #[]), (L + 4, cll none), (L + 3, cll none), (L + 2, cll none), (L + 1, cll (some (.ref st)))] ++ slots frs) h₆ := S₆
    refine wpAny_assignInOrder_more (wpAny_assign_Name (sce (c := L + 3) (v₀ := none) S₆ e 4 fun h₇ S₇ => ?_))
    refine wpAny_assignInOrder_more (wpAny_assign_Name (sce (c := L + 4) (v₀ := none) S₇ e 3 fun h₈ S₈ => wpAny_assignInOrder_none ?_))
    have S₈ : St base L (aset "rights" (.ref r0) [("read", .ref rd)]) ([(tA, lst []), (gA, lst []), (127, fun o => o = tabObj #[]), (L + 4, cll (some (.ref tA))), (L + 3, cll (some (.ref gA))), (L + 2, cll none), (L + 1, cll (some (.ref st)))] ++ slots frs) h₈ := S₈
    dsimp only
    have G₈ := G.keeps S₈.keep
    have hc1 : Is h₈ (L + 1) (cll (some (.ref st))) := S₈.at 6 rfl
    obtain ⟨srefs, slst, slen, sat⟩ := id hst
    obtain ⟨rrefs, rlst, rlen, rat⟩ := id hrd
    with_reducible refine wpAny_execs_cons (wpAny_For (wpAny_Call_NameR (bl (.type "range") G₈ e (callW_t ?_ (sp_int fun t2 k2 => sp_call (wpAny_Call_NameR (bl (.builtin "len") G₈ e (callW_b ?_ (sp_name (ceI e hc1 (sp_nil (lenL (slst.keeps S₈.keep) ?_ fun t3 k3 => sp_nil ?_)))))))))) ) ?_)
    · rfl
    · rfl
    · rw [List.length_map, slen]; exact Nat.le_trans hm2 (by decide)
    · rw [List.length_map, slen]
      refine range2 fun r h₉ tk₉ nr k₉ hr => iterR hr (by decide) (Int.ofNat_le.mpr hm1) (Int.ofNat_lt.mpr (Nat.lt_of_le_of_lt hm2 (by decide))) fun I h₁₀ nI k₁₀ hI => ?_
      have W := walksR (w := w) hA' I 1 (ms.length - 1)
      have hI' : IsRangeIter h₁₀ I (1 + ((0 : Nat) : Int)) (((ms.length - 1 : Nat) : Int) - ((0 : Nat) : Int)) 1 := by
        have e1 : ((ms.length - 1 : Nat) : Int) = (ms.length : Int) - 1 := Int.ofNat_sub hm1
        rw [e1]; simpa using hI
      have S₁₀ := St.addAny (wr := [I]) (S₈.pure k₉) k₁₀ (by simp [nI]) (by
        intro b hb; rw [List.mem_singleton.mp hb]; exact ⟨_, hI⟩) (by simp)
      refine codeAny_mono (for_walks (s := s) (R := fun r s' => ∃ h' tk' loc rA rv gA tA gvv tvv kv ro, r = .ok .next ∧ s' = at_ s h' tk' ∧ has loc "read" (.ref rd) ∧
          St base L loc (((so L st tA gA tvv gvv kv) ++ ro) ++ slots frs) h' ∧
          StrsAre gvv (gv ms (ms.length - 1)) ∧ StrsAre tvv (tkn ms (ms.length - 1)) ∧ StrsAre rv (SW (ms.getD (ms.length - 1) 0)) ∧ ((ro = [] ∧ Is base rA (lst rv)) ∨ ro = [(rA, lst rv)])) W (slots frs)
        (fun i loc own => has loc "read" (.ref rd) ∧ ∃ rA rv gA tA gvv tvv kv ro, has loc "rights" (.ref rA) ∧ own = (so L st tA gA tvv gvv kv) ++ ro ∧
          StrsAre gvv (gv ms i) ∧ StrsAre tvv (tkn ms i) ∧ StrsAre rv (SW (ms.getD i 0)) ∧ ((ro = [] ∧ Is base rA (lst rv)) ∨ ro = [(rA, lst rv)]))
        ?_ ?_ ?_ ?_ ?_ S₁₀ hI' ?_) ?_
      · rintro i v s' Q' E' ⟨t, rfl⟩ hs q
        exact wpAny_pure q
      · rintro i h' q b hb
        rw [List.mem_singleton.mp hb]; exact ⟨_, q⟩
      · intro b hb
        exact .inl hb
      · rintro i v loc own h₁₁ tk₁₁ fz' Qb E' hi ⟨ti, rfl⟩ ⟨hread, rA, rv, gA, tA, gvv, tvv, kv, ro, hrights, rfl, hgv, htv, hrv, hro⟩ S₁₁ hnext hcont hbrk hret
        have hi1 : i + 1 < ms.length := Nat.add_lt_of_lt_sub hi
        have mi : ms[i]? = some (ms.getD i 0) := by rw [List.getD_eq_getElem?_getD, List.getElem?_eq_getElem (Nat.lt_of_succ_lt hi1)]; rfl
        have mi1 : ms[i + 1]? = some (ms.getD (i + 1) 0) := by rw [List.getD_eq_getElem?_getD, List.getElem?_eq_getElem hi1]; rfl
        generalize hm0 : ms.getD i 0 = m0 at mi hrv
        generalize hmm1 : ms.getD (i + 1) 0 = m1 at mi1
        obtain ⟨a0, v0, ra0, ia0, sa0⟩ := rat i m0 mi
        obtain ⟨a1, v1, ra1, ia1, sa1⟩ := rat (i + 1) m1 mi1
        obtain ⟨b0, u0, rb0, ib0, sb0⟩ := sat i m0 mi
        obtain ⟨b1, u1, rb1, ib1, sb1⟩ := sat (i + 1) m1 mi1
        refine wpAny_assign_Name (sce (c := L + 2) (v₀ := kv) S₁₁ e 5 fun h₁₂ S₁₂ => ?_)
        have S₁₂ : St base L loc ((((so L st tA gA tvv gvv (some (.int (1 + (i : Int)) ti))) ++ ro) ++ fz') ++ slots frs) h₁₂ := by
          rw [List.append_assoc]; exact S₁₂
        have G₁₂ := G.keeps S₁₂.keep
        have hk₁₂ : Is h₁₂ (L + 2) (cll (some (.int (1 + (i : Int)) ti))) := S₁₂.at 5 rfl
        obtain ⟨i0, i1, z1, z2, z3, z4⟩ := idx_facts hi1 hm2
        have rx0 : (rrefs.map Value.ref)[i]? = some (.ref a0) := by rw [List.getElem?_map, ra0]; rfl
        have rx1 : (rrefs.map Value.ref)[i + 1]? = some (.ref a1) := by rw [List.getElem?_map, ra1]; rfl
        have sx0 : (srefs.map Value.ref)[i]? = some (.ref b0) := by rw [List.getElem?_map, rb0]; rfl
        have sx1 : (srefs.map Value.ref)[i + 1]? = some (.ref b1) := by rw [List.getElem?_map, rb1]; rfl
        have hdict := O.dict
        have lz0 := SW_length m0
        have lz1 := SW_length m1
        with_reducible refine wpAny_execs_cons (Assign_Tuple (wpAny_Call_NameR (gl (.ref 84) G₁₂ e (callW_f ?_ ?_ (sp_sub (Subscript_ (lo S₁₂ e hread (wpAny_BinOp (ceI e hk₁₂ (cint fun t4 k4 => subI fun t5 k5 => sub_list (v := .ref a0) (rlst.keeps S₁₂.keep).list ?_ ?_ ?_
          (sp_sub (Subscript_ (lo S₁₂ e hread (ceI e hk₁₂ (sub_list (v := .ref a1) (rlst.keeps S₁₂.keep).list ?_ ?_ ?_ (sp_nil ?_) ?_))))) ?_)))))) h₁₂ G₁₂))) ?_ ?_)
        · rfl
        · rfl
        · exact z1
        · exact z2
        · rw [i0]; exact rx0
        · exact z3
        · exact z4
        · rw [i1]; exact rx1
        · refine ⟨G₁₂, ?_⟩
          obtain ⟨frs₁, O₁, ek₁⟩ := Ou.of S₁₂ F hdict
          refine ct_sld O₁ (by rw [ek₁]; exact G.keeps S₁₂.base_hid) R₁ hA' (ia0.keeps S₁₂.keep) sa0 (ia1.keeps S₁₂.keep) sa1 (Nat.lt_of_le_of_lt lz0 (by decide)) (Nat.lt_of_le_of_lt lz1 (by decide)) (by rw [ek₁]; exact S₁₂.off (.inl (let ⟨o, q, _⟩ := ia0; ⟨o, q⟩))) (by rw [ek₁]; exact S₁₂.off (.inl (let ⟨o, q, _⟩ := ia1; ⟨o, q⟩)))
            fun D lo₁ ne₁ lov nev h₁₃ tk₁₃ nD nlo nne kg lD llo lne slo' sne' hne => ?_
          rw [ek₁] at kg
          rw [FX.one m0 m1] at slo' sne'
          have S₁₃ := S₁₂.gain2 (S₁₂.kgx kg) rfl nlo nne hne llo lne
          obtain ⟨oT, qT, cT, nT', dT⟩ := lD
          refine assign2 hA' ⟨oT, qT, cT, nT', dT⟩ S₁₃ e rfl rfl fun h₁₄ tk₁₄ S₁₄ => ?_
          dsimp only
          have S₁₄ : St base L (aset "new" (.ref ne₁) (aset "lost" (.ref lo₁) loc)) ((((lo₁, lst lov) :: (ne₁, lst nev) :: so L st tA gA tvv gvv (some (.int (1 + (i : Int)) ti))) ++ (ro ++ fz')) ++ slots frs) h₁₄ := by
            have z := S₁₄
            rw [List.append_assoc] at z
            simpa using z
          have hread₁₄ := asl (x := "new") (v := .ref ne₁) (asl (x := "lost") (v := .ref lo₁) hread (by decide)) (by decide)
          have hrights₁₄ := asl (x := "new") (v := .ref ne₁) (asl (x := "lost") (v := .ref lo₁) hrights (by decide)) (by decide)
          have hlost₁₄ := asl (x := "new") (v := .ref ne₁) (asl_self (x := "lost") (v := .ref lo₁) (loc := loc)) (by decide)
          have hnew₁₄ := asl_self (x := "new") (v := .ref ne₁) (loc := aset "lost" (.ref lo₁) loc)
          generalize aset "new" (.ref ne₁) (aset "lost" (.ref lo₁) loc) = loc₁₄ at S₁₄ hread₁₄ hrights₁₄ hlost₁₄ hnew₁₄
          have G₁₄ := G.keeps S₁₄.keep
          have hk₁₄ : Is h₁₄ (L + 2) (cll (some (.int (1 + (i : Int)) ti))) := S₁₄.at 7 rfl
          with_reducible refine wpAny_execs_cons (wpAny_Assign_Name (wpAny_Call_NameR (bl (.type "list") G₁₄ e (callW_t ?_ (sp_call (wpAny_Call_NameR (gl (.ref 84) G₁₄ e (callW_f ?_ ?_ (sp_call (wpAny_Call_NameR (bl (.builtin "sorted") G₁₄ e (callW_b ?_ (sp_bin (wpAny_BinOp (Subscript_ (lo S₁₄ e hread₁₄ (wpAny_BinOp (ceI e hk₁₄ (cint fun t6 k6 => subI fun t7 k7 => sub_list (v := .ref a0) (rlst.keeps S₁₄.keep).list ?_ ?_ ?_
            (cint fun t8 k8 => mulL2 (ia0.keeps S₁₄.keep) ?_ fun D₁ h₁₅ nD₁ k₁₅ lD₁ => sp_nil (sortedT lD₁.list (strs_append sa0 sa0) ?_ fun D₂ o₂ s₂ h₁₆ nD₂ k₁₆ lD₂ so₂ p₂ q₂ => ?_)) ?_))))))))))) h₁₄ G₁₄))))))) rfl)
          · rfl
          · rfl
          · rfl
          · rfl
          · exact z1
          · exact z2
          · rw [i0]; exact rx0
          · rw [strs_len sa0]; exact Nat.le_trans lz0 (by decide)
          · rw [List.length_append, strs_len sa0]; exact Nat.lt_of_le_of_lt (Nat.add_le_add lz0 lz0) (by decide)
          rotate_left
          · rfl
          have S₁₆ := (S₁₄.pure k₁₅).pure k₁₆
          have G₁₆ := G.keeps S₁₆.keep
          have nD₂' : h₁₄.get? D₂ = none := none_of_kp k₁₅ nD₂
          with_reducible refine sp_call (wpAny_Call_NameR (bl (.builtin "sorted") G₁₆ e (callW_b ?_ (sp_bin (wpAny_BinOp (Subscript_ (lo S₁₆ e hread₁₄ (ceI e (S₁₆.at 7 rfl) (sub_list (v := .ref a1) (rlst.keeps S₁₆.keep).list ?_ ?_ ?_
            (cint fun t9 k9 => mulL2 (ia1.keeps S₁₆.keep) ?_ fun D₃ h₁₇ nD₃ k₁₇ lD₃ => sp_nil (sortedT lD₃.list (strs_append sa1 sa1) ?_ fun D₄ o₄ s₄ h₁₈ nD₄ k₁₈ lD₄ so₄ p₄ q₄ => sp_nil ?_)) ?_)))))))))
          · rfl
          · exact z3
          · exact z4
          · rw [i1]; exact rx1
          · rw [strs_len sa1]; exact Nat.le_trans lz1 (by decide)
          · rw [List.length_append, strs_len sa1]; exact Nat.lt_of_le_of_lt (Nat.add_le_add lz1 lz1) (by decide)
          rotate_left
          · rfl
          have k₁₆₈ : Kp h₁₆ h₁₈ := k₁₇.trans k₁₈
          have S₁₈ := ((S₁₄.pure k₁₅).more k₁₆ nD₂ lD₂).pure k₁₇ |>.more k₁₈ nD₄ lD₄
          have S₁₈ : St base L loc₁₄ ((((D₄, lst o₄) :: (D₂, lst o₂) :: (lo₁, lst lov) :: (ne₁, lst nev) :: so L st tA gA tvv gvv (some (.int (1 + (i : Int)) ti))) ++ (ro ++ fz')) ++ slots frs) h₁₈ := S₁₈
          refine ⟨G.keeps S₁₈.keep, ?_⟩
          obtain ⟨frs₂, O₂, ek₂⟩ := Ou.of S₁₈ F hdict
          have ps2 := p₂.length_eq
          have ps4 := p₄.length_eq
          rw [List.length_append] at ps2 ps4
          refine ct_sld O₂ (by rw [ek₂]; exact G.keeps S₁₈.base_hid) R₁ hA' (S₁₈.at 1 rfl) so₂ (S₁₈.at 0 rfl) so₄ (Nat.lt_of_le_of_lt (ps2 ▸ Nat.add_le_add lz0 lz0) (by decide)) (Nat.lt_of_le_of_lt (ps4 ▸ Nat.add_le_add lz1 lz1) (by decide)) (by rw [ek₂]; exact S₁₈.off (.inr (by simp))) (by rw [ek₂]; exact S₁₈.off (.inr (by simp)))
            fun D₅ lo₂ ne₂ lov₂ nev₂ h₁₉ tk₁₉ nD₅ nlo₂ nne₂ kg₂ lD₅ llo₂ lne₂ slo₂ sne₂ hne₂ => ?_
          rw [ek₂] at kg₂
          rw [FX.two m0 m1 s₂ s₄ p₂ q₂ p₄ q₄] at slo₂ sne₂
          have S₁₉ := S₁₈.gain2 (S₁₈.kgx kg₂) rfl nlo₂ nne₂ hne₂ llo₂ lne₂
          refine sp_nil (listT lD₅ (by decide : 2 ≤ 1000000) fun tw h₂₀ ntw k₂₀ ltw => ?_)
          have S₂₀ := S₁₉.more k₂₀ ntw ltw
          refine stl S₂₀ e rfl fun h₂₁ tk₂₁ S₂₁ => ?_
          dsimp only
          have S₂₁ : St base L (aset "twice" (.ref tw) loc₁₄) ((((tw, lst [.ref lo₂, .ref ne₂]) :: (lo₂, lst lov₂) :: (ne₂, lst nev₂) :: (lo₁, lst lov) :: (ne₁, lst nev) :: so L st tA gA tvv gvv (some (.int (1 + (i : Int)) ti))) ++ (ro ++ fz')) ++ slots frs) h₂₁ :=
            S₂₁.drop _ (.cons_cons _ (.cons_cons _ (.cons_cons _ (.cons _ (.cons _ (List.Sublist.refl _))))))
          have hread₂₁ := asl (x := "twice") (v := .ref tw) hread₁₄ (by decide)
          have hrights₂₁ := asl (x := "twice") (v := .ref tw) hrights₁₄ (by decide)
          have hlost₂₁ := asl (x := "twice") (v := .ref tw) hlost₁₄ (by decide)
          have hnew₂₁ := asl (x := "twice") (v := .ref tw) hnew₁₄ (by decide)
          have htw₂₁ := asl_self (x := "twice") (v := .ref tw) (loc := loc₁₄)
          generalize aset "twice" (.ref tw) loc₁₄ = loc₂₁ at S₂₁ hread₂₁ hrights₂₁ hlost₂₁ hnew₂₁ htw₂₁
          have G₂₁ := G.keeps S₂₁.keep
          have hun := R₁.units
          with_reducible refine wpAny_execs_cons (wpAny_If (wpAny_isTrue_Compare1 (List_ (sp_list (List_ (sp_name (lo S₂₁ e hlost₂₁ (sp_name (lo S₂₁ e hnew₂₁ (sp_nil (newL ?_ fun E₁ h₂₂ nE₁ k₂₂ lE₁ => sp_name (lo (S₂₁.pure k₂₂) e htw₂₁ (sp_nil (newL ?_ fun E₂ h₂₃ nE₂ k₂₃ lE₂ => comp_head (cl := [("sets", L + 1), ("k", L + 2)]) e ?_ ?_ ?_ (List_ (sp_bool (sp_bool (sp_nil (newL ?_ fun bl₁ h₂₄ nbl k₂₄ lbl => iterL lbl.list fun I₂ h₂₅ nI₂ k₂₅ hI₂ => ?_))))) ?_)))))))))))) rfl))
          · exact (by decide : 2 ≤ 1000000)
          · exact (by decide : 2 ≤ 1000000)
          · rfl
          · rfl
          · decide
          · exact (by decide : 2 ≤ 1000000)
          rotate_left
          · intro _; rfl
          have S₂₄ := ((S₂₁.pure k₂₂).pure k₂₃).pure k₂₄
          have k₂₁₄ : Kp h₂₁ h₂₄ := (k₂₂.trans k₂₃).trans k₂₄
          have hblI : bl₁ ≠ I₂ := fun z => by
            obtain ⟨o, q, _⟩ := lbl
            rw [z, nI₂] at q; cases q
          refine comp_go (Walks.list (prog := PG) (w := w) hA' I₂ bl₁ hblI [Value.bool false, .bool true].toArray) e rfl (h₁ := h₂₄) k₂₅ ?_ ?_ ?_ ?_ ⟨hI₂, (lbl.keeps k₂₅).list⟩ ?_
            (fun j ys objs => ∃ qs : List Rec5, objs = qs.flatMap obj5 ∧ ys = qs.reverse.map (fun q => Value.ref q.1) ∧ qs.length = j ∧ ∀ (j' : Nat) q, qs.reverse[j']? = some q → StrsAre q.2.2.2.1 (only (SW m0) (SW m1) (decide (j' = 1))) ∧ StrsAre q.2.2.2.2 (only (SW m1) (SW m0) (decide (j' = 1)))) ?_ ?_ ?_
          · intro b hb; rw [List.mem_singleton.mp hb]; exact nI₂
          · simp
          · rintro j h' ⟨⟨o, q, _⟩, _⟩ b hb; rw [List.mem_singleton.mp hb]; exact ⟨o, q⟩
          · intro b hb
            simp only [List.mem_cons, List.not_mem_nil, or_false] at hb
            rcases hb with rfl | rfl
            · exact .inl (.head _)
            · obtain ⟨o, q, _⟩ := lbl
              exact .inr ⟨o, q⟩
          · exact (by decide : 2 ≤ 1000000)
          · intro C; exact ⟨[], rfl, rfl, rfl, fun j q hq => by simp at hq⟩
          · rintro cenv C D₆ j v ys objs locC h₂₆ tk₂₆ fzC Y N E'' hj hv ⟨qs, rfl, rfl, hql, hqs⟩ eC S₂₆ hY hN
            have hj2 : j < 2 := hj
            have hvb : v = .bool (decide (j = 1)) := by
              match j, hj2 with
              | 0, _ => cases hv; rfl
              | 1, _ => cases hv; rfl
            subst hvb
            refine wpAny_assign_Name (slo S₂₆ eC fun h₂₇ tk₂₇ S₂₇ => ?_)
            refine wpAny_tests_nil ?_
            rw [if_pos rfl]
            have kb : Kp base h₂₇ := S₂₄.keep.trans S₂₇.keep
            have G₂₇ := G.keeps kb
            have hkC : Is h₂₇ (L + 2) (cll (some (.int (1 + (i : Int)) ti))) := (S₂₄.at 10 rfl).keeps S₂₇.keep
            have hsC : Is h₂₇ (L + 1) (cll (some (.ref st))) := (S₂₄.at 11 rfl).keeps S₂₇.keep
            have ls0 := strs_len sb0
            have ls1 := strs_len sb1
            with_reducible refine List_ (sp_call (wpAny_Call_NameR (gl (.ref 125) G₂₇ eC (callW_f ?_ ?_ (sp_sub (Subscript_ (ceI eC hsC (wpAny_BinOp (ceI eC hkC (cint fun t10 k10 => subI fun t11 k11 => sub_list (v := .ref b0) (slst.keeps kb).list ?_ ?_ ?_ (sp_sub (Subscript_ (ceI eC hsC (ceI eC hkC (sub_list (v := .ref b1) (slst.keeps kb).list ?_ ?_ ?_ (sp_name (lo S₂₇ eC asl_self (sp_nil ?_))) ?_))))) ?_)))))) h₂₇ G₂₇))))
            · rfl
            · rfl
            · exact z1
            · exact z2
            · rw [i0]; exact sx0
            · exact z3
            · exact z4
            · rw [i1]; exact sx1
            rotate_left
            · rfl
            · rfl
            refine ⟨G₂₇, ct_only G₂₇ R₁ hA' (ib0.keeps kb) sb0 (ib1.keeps kb) sb1 (Nat.le_trans (Nat.le_of_eq ls0) (Nat.le_trans lz0 (by decide))) (Nat.le_trans (Nat.le_of_eq ls1) (Nat.le_trans lz1 (by decide))) fun oa ov h₂₈ tk₂₈ noa k₂₈ loa soa => ?_⟩
            have S₂₈ := S₂₇.more k₂₈ noa loa
            have kb₂ : Kp base h₂₈ := kb.trans k₂₈
            have G₂₈ := G.keeps kb₂
            with_reducible refine sp_call (wpAny_Call_NameR (gl (.ref 125) G₂₈ eC (callW_f ?_ ?_ (sp_sub (Subscript_ (ceI eC (hsC.keeps k₂₈) (ceI eC (hkC.keeps k₂₈) (sub_list (v := .ref b1) (slst.keeps kb₂).list ?_ ?_ ?_ (sp_sub (Subscript_ (ceI eC (hsC.keeps k₂₈) (wpAny_BinOp (ceI eC (hkC.keeps k₂₈) (cint fun t12 k12 => subI fun t13 k13 => sub_list (v := .ref b0) (slst.keeps kb₂).list ?_ ?_ ?_ (sp_name (lo S₂₈ eC asl_self (sp_nil ?_))) ?_)))))) ?_))))) h₂₈ G₂₈)))
            · rfl
            · rfl
            · exact z3
            · exact z4
            · rw [i1]; exact sx1
            · exact z1
            · exact z2
            · rw [i0]; exact sx0
            rotate_left
            · rfl
            · rfl
            refine ⟨G₂₈, ct_only G₂₈ R₁ hA' (ib1.keeps kb₂) sb1 (ib0.keeps kb₂) sb0 (Nat.le_trans (Nat.le_of_eq ls1) (Nat.le_trans lz1 (by decide))) (Nat.le_trans (Nat.le_of_eq ls0) (Nat.le_trans lz0 (by decide))) fun ob ow h₂₉ tk₂₉ nob k₂₉ lob sob => ?_⟩
            have S₂₉ := S₂₈.more k₂₉ nob lob
            refine sp_nil (newL (by decide : 2 ≤ 1000000) fun d h₃₀ nd k₃₀ ld => ?_)
            have S₃₀ := S₂₉.more k₃₀ nd ld
            refine hY (.ref d) (((d, oa, ob, ov, ow) :: qs).flatMap obj5) _ h₃₀ _ ⟨(d, oa, ob, ov, ow) :: qs, rfl, by simp, by simp [hql], ?_⟩ (S₃₀.perm ?_)
            · intro j' q hq
              rw [List.reverse_cons] at hq
              rcases snoc_get hq with hq | ⟨ej, hq⟩
              · exact hqs j' q hq
              · rw [ej, List.length_reverse, hql, ← hq]; exact ⟨soa, sob⟩
            · exact List.Perm.append_right _ (l₁ := [_, _, _, _]) (l₂ := [_, _, _, _]) ((List.Perm.swap _ _ _).trans (List.Perm.cons _ (List.reverse_perm [_, _, _]).symm))
          · rintro D₆ ys objs h₃₁ tk₃₁ ⟨qs, rfl, rfl, hql, hqs⟩ hlen nD₆ k₃₁ lD₆ hobj hnd
            obtain ⟨q1, q0, rfl⟩ : ∃ q1 q0, qs = [q1, q0] := by
              match qs, hql with
              | [a, b], _ => exact ⟨a, b, rfl⟩
            have S₃₁ := S₂₄.pure k₃₁
            have s0 := hqs 0 q0 rfl
            have s1 := hqs 1 q1 rfl
            have un1 : (A.deeper env).in1.units < cLine := R₁.un1
            have un2 : (A.deeper env).in1.in1.units < cLine := R₁.un2
            have lE₁' : Is h₃₁ E₁ (lst [.ref lo₁, .ref ne₁]) := (lE₁.keeps (k₂₃.trans k₂₄)).keeps k₃₁
            have o0 : ∀ p ∈ obj5 q0, Is h₃₁ p.1 p.2 := fun p hp => (hobj p (by simp only [List.flatMap_cons, List.flatMap_nil, List.append_nil]; exact List.mem_append.mpr (.inr hp))).1
            have o1 : ∀ p ∈ obj5 q1, Is h₃₁ p.1 p.2 := fun p hp => (hobj p (by simp only [List.flatMap_cons, List.flatMap_nil, List.append_nil]; exact List.mem_append.mpr (.inl hp))).1
            refine neLL ((lE₂.keeps k₂₄).keeps k₃₁) lD₆ rfl R₁.un0 (fun j v u hv hu => ?_) (wpAny_truthy_bool ?_)
            · match j, hv, hu with
              | 0, hv, hu =>
                cases hv; cases hu
                refine eqAt_lists lE₁' (o0 _ (.head _)) rfl un1 fun j' v' u' hv' hu' => ?_
                match j', hv', hu' with
                | 0, hv', hu' => cases hv'; cases hu'; exact eqAt_strs (S₃₁.at 3 rfl) (o0 _ (.tail _ (.head _))) slo' s0.1 un2
                | 1, hv', hu' => cases hv'; cases hu'; exact eqAt_strs (S₃₁.at 4 rfl) (o0 _ (.tail _ (.tail _ (.head _)))) sne' s0.2 un2
                | j' + 2, hv', hu' => cases hv'
              | 1, hv, hu =>
                cases hv; cases hu
                refine eqAt_lists (S₃₁.at 0 rfl) (o1 _ (.head _)) rfl un1 fun j' v' u' hv' hu' => ?_
                match j', hv', hu' with
                | 0, hv', hu' => cases hv'; cases hu'; exact eqAt_strs (S₃₁.at 1 rfl) (o1 _ (.tail _ (.head _))) slo₂ s1.1 un2
                | 1, hv', hu' => cases hv'; cases hu'; exact eqAt_strs (S₃₁.at 2 rfl) (o1 _ (.tail _ (.tail _ (.head _)))) sne₂ s1.2 un2
                | j' + 2, hv', hu' => cases hv'
              | j + 2, hv, hu => cases hv
            · rw [if_neg Bool.false_ne_true]
              refine wpAny_execs_nil ?_
              dsimp only
              have G₃₁ := G.keeps S₃₁.keep
              have lo1 := strs_len slo'
              have ne1 := strs_len sne'
              have lm1 := lostM_len m0 m1
              have lm2 := lostM_len m1 m0
              have lo1' : lov.length ≤ 12 := by rw [lo1]; exact lm1
              have ne1' : nev.length ≤ 12 := by rw [ne1]; exact lm2
              have rA69 : rA ≠ 69 := fun z => by
                have q1 : h₃₁.get? 69 = _ := G₃₁.k 69 _ rfl
                have q2 : Is h₃₁ rA (lst rv) := by
                  rcases hro with ⟨_, q⟩ | rfl
                  · exact q.keeps S₃₁.keep
                  · exact S₃₁.at 12 rfl
                obtain ⟨o, q, n', rfl⟩ := q2
                rw [z, q1] at q
                have q3 := congrArg (fun x => x.map fun o : Obj => o.cls == Value.type "list") q
                revert q3
                show some (Value.type "object" == Value.type "list") = some (Value.type "list" == Value.type "list") → False
                decide
              with_reducible refine wpAny_execs_cons (wpAny_Assign_Name (wpAny_Call_NameR (gl (.ref 77) G₃₁ e (callW_f ?_ ?_ (sp_name (gl (.ref 120) G₃₁ e (sp_bin (wpAny_BinOp (comp_head (cl := []) e ?_ ?_ ?_ (lo S₃₁ e hlost₂₁ (comp_deeds hA' e (S₃₁.at 3 rfl) slo' ?_ fun D₇ o₇ h₃₂ tk₃₂ nD₇ k₃₂ lD₇ de₇ => ?_)) ?_))))) h₃₁ G₃₁))) rfl)
              · rfl
              · rfl
              · rfl
              · rfl
              · decide
              · exact Nat.le_trans lo1' (by decide)
              rotate_left
              · intro _; rfl
              have S₃₂ := S₃₁.pure k₃₂
              with_reducible refine comp_head (cl := []) e ?_ ?_ ?_ (lo S₃₂ e hnew₂₁ (comp_deeds hA' e (S₃₂.at 4 rfl) sne' ?_ fun D₈ o₈ h₃₃ tk₃₃ nD₈ k₃₃ lD₈ de₈ => ?_)) ?_
              · rfl
              · rfl
              · decide
              · exact Nat.le_trans ne1' (by decide)
              rotate_left
              · intro _; rfl
              have S₃₃ := S₃₂.pure k₃₃
              have lo7 := de₇.1
              have lo8 := de₈.1
              have lo7' : o₇.length ≤ 12 := by rw [lo7, List.length_map]; exact lm1
              have lo8' : o₈.length ≤ 12 := by rw [lo8, List.length_map]; exact lm2
              refine addL (lD₇.keeps k₃₃) lD₈ (Nat.le_trans (Nat.add_le_add lo7' lo8') (by decide)) fun D₉ h₃₄ nD₉ k₃₄ lD₉ => ?_
              have S₃₄ := S₃₃.pure k₃₄
              have G₃₄ := G.keeps S₃₄.keep
              refine sp_name (lo S₃₄ e hrights₂₁ (sp_nil ⟨G₃₄, ?_⟩))
              have dd : DeedsAt h₃₄ (o₇ ++ o₈) (deeds m0 m1) := ((de₇.keeps k₃₃).append de₈).keeps k₃₄
              have lrA : Is h₃₄ rA (lst rv) := by
                rcases hro with ⟨_, q⟩ | rfl
                · exact q.keeps S₃₄.keep
                · exact S₃₄.at 12 rfl
              have dlen : (deeds m0 m1).length ≤ 24 := by
                unfold deeds
                rw [List.length_append, List.length_map, List.length_map]; exact Nat.add_le_add lm1 lm2
              refine ct_reduce G₃₄ R₁ hA' lD₉ dd lrA hrv (Nat.lt_of_le_of_lt (Nat.add_le_add lz0 dlen) (by decide)) rA69 fun D₁₀ out₁₀ ss₁₀ h₃₅ tk₃₅ nD₁₀ k₃₅ lD₁₀ sout₁₀ hda => ?_
              have es₁₀ := FX.done m0 m1 ss₁₀ hda
              subst es₁₀
              obtain ⟨ro', rv', S₃₅, srv', lrv', hro'⟩ : ∃ ro' rv', St base L loc₂₁ ((((lo₁, lst lov) :: (ne₁, lst nev) :: so L st tA gA tvv gvv (some (.int (1 + (i : Int)) ti))) ++ (ro' ++ fz')) ++ slots frs) h₃₅ ∧
                  StrsAre rv' (SW m1) ∧ Is h₃₅ D₁₀ (lst rv') ∧ ((ro' = [] ∧ Is base D₁₀ (lst rv')) ∨ ro' = [(D₁₀, lst rv')]) := by
                rcases nD₁₀ with nD₁₀ | rfl
                · refine ⟨[(D₁₀, lst out₁₀)], out₁₀, ?_, sout₁₀, lD₁₀, .inr rfl⟩
                  have z := (S₃₄.more k₃₅ nD₁₀ lD₁₀).drop ((D₁₀, lst out₁₀) :: ((((lo₁, lst lov) :: (ne₁, lst nev) :: so L st tA gA tvv gvv (some (.int (1 + (i : Int)) ti))) ++ fz') ++ slots frs))
                    (.cons_cons _ (List.Sublist.append (.cons _ (.cons _ (.cons _ (List.Sublist.append (List.Sublist.refl _) (List.sublist_append_right _ _))))) (List.Sublist.refl _)))
                  exact z.perm (List.Perm.append_right _ List.perm_middle)
                · have ev := lst_inj lD₁₀ (lrA.keeps k₃₅)
                  subst ev
                  refine ⟨ro, _, (S₃₄.pure k₃₅).drop _ (.cons _ (.cons _ (.cons _ (List.Sublist.refl _)))), sout₁₀, lD₁₀, hro⟩
              refine stl S₃₅ e rfl fun h₃₆ tk₃₆ S₃₆ => ?_
              dsimp only
              have hread₃₆ := asl (x := "rights") (v := .ref D₁₀) hread₂₁ (by decide)
              have hlost₃₆ := asl (x := "rights") (v := .ref D₁₀) hlost₂₁ (by decide)
              have hnew₃₆ := asl (x := "rights") (v := .ref D₁₀) hnew₂₁ (by decide)
              have hrights₃₆ := asl_self (x := "rights") (v := .ref D₁₀) (loc := loc₂₁)
              generalize aset "rights" (.ref D₁₀) loc₂₁ = loc₃₆ at S₃₆ hread₃₆ hlost₃₆ hnew₃₆ hrights₃₆
              have lrv₃₆ : Is h₃₆ D₁₀ (lst rv') := by
                rcases hro' with ⟨_, q⟩ | rfl
                · exact q.keeps S₃₆.keep
                · exact S₃₆.at 9 rfl
              with_reducible refine wpAny_execs_cons (wpAny_If (wpAny_isTrue_Compare1 (lo S₃₆ e hrights₃₆ (Subscript_ (ceI e (S₃₆.at 8 rfl) (ceI e (S₃₆.at 7 rfl) (sub_list (v := .ref b1) (slst.keeps S₃₆.keep).list ?_ ?_ ?_ (neSS lrv₃₆ (ib1.keeps S₃₆.keep) srv' sb1 ?_ (wpAny_truthy_bool ?_)) ?_))))) rfl))
              · exact z3
              · exact z4
              · rw [i1]; exact sx1
              · exact R₁.un0
              rotate_left
              · rfl
              rw [if_neg Bool.false_ne_true]
              refine wpAny_execs_nil ?_
              dsimp only
              have lg := strs_len hgv
              have lt := strs_len htv
              have lg' := gv_len ms i
              have lt' := tkn_len ms i
              with_reducible refine wpAny_execs_cons (Assign_Tuple (Tuple_ (sp_bin (wpAny_BinOp (ceI e (S₃₆.at 6 rfl) (lo S₃₆ e hnew₃₆ (addL (S₃₆.at 3 rfl) (S₃₆.at 1 rfl) ?_ fun G2 h₃₇ nG2 k₃₇ lG2 => sp_bin (wpAny_BinOp (ceI e ((S₃₆.pure k₃₇).at 5 rfl) (lo (S₃₆.pure k₃₇) e hlost₃₆ (addL ((S₃₆.pure k₃₇).at 2 rfl) ((S₃₆.pure k₃₇).at 0 rfl) ?_ fun T2 h₃₈ nT2 k₃₈ lT2 => sp_nil (newT ?_ fun Tp h₃₉ nTp k₃₉ lTp => ?_))))))))))) ?_ ?_)
              · exact len_add lg lg' hi1 hm2 ne1'
              · exact len_add lt lt' hi1 hm2 lo1'
              · exact (by decide : 2 ≤ 1000000)
              rotate_left
              · rfl
              · have es := e.scope
                cases env
                cases es
                rfl
              have S₃₉ := (((S₃₆.more k₃₇ nG2 lG2).more k₃₈ nT2 lT2).pure k₃₉)
              obtain ⟨oP, qP, cP, nP', dP⟩ := lTp
              refine wpAny_assign_Tuple (s := at_ s h₃₉ _) hA' ⟨oP, qP, cP, nP', dP⟩ rfl rfl fun h₄₀ hx₄₀ => ?_
              have S₄₀ := S₃₉.pure (kp_ext hx₄₀)
              refine wpAny_assignInOrder_more (wpAny_assign_Name (sce (s := s) (c := L + 3) (v₀ := some (.ref gA)) S₄₀ e 8 fun h₄₁ S₄₁ => ?_))
              refine wpAny_assignInOrder_more (wpAny_assign_Name (sce (c := L + 4) (v₀ := some (.ref tA)) S₄₁ e 7 fun h₄₂ S₄₂ => wpAny_assignInOrder_none ?_))
              refine wpAny_execs_nil (hnext loc₃₆ ((so L st T2 G2 (tvv ++ lov) (gvv ++ nev) (some (.int (1 + (i : Int)) ti))) ++ ro') h₄₂ _
                ⟨hread₃₆, D₁₀, rv', G2, T2, _, _, _, ro', hrights₃₆, rfl, ?_, ?_, ?_, hro'⟩ ?_)
              · show StrsAre _ (gv ms i ++ lostM (ms.getD (i + 1) 0) (ms.getD i 0))
                rw [hm0, hmm1]
                exact strs_append hgv sne'
              · show StrsAre _ (tkn ms i ++ lostM (ms.getD i 0) (ms.getD (i + 1) 0))
                rw [hm0, hmm1]
                exact strs_append htv slo'
              · rw [hmm1]; exact srv'
              · have z := S₄₂.drop (((so L st T2 G2 (tvv ++ lov) (gvv ++ nev) (some (.int (1 + (i : Int)) ti))) ++ (ro' ++ fz')) ++ slots frs)
                  (.cons_cons _ (.cons_cons _ (.cons _ (.cons _ (.cons _ (.cons _ (List.Sublist.refl _)))))))
                have ee : ((so L st T2 G2 (tvv ++ lov) (gvv ++ nev) (some (.int (1 + (i : Int)) ti))) ++ (ro' ++ fz')) ++ slots frs = ((so L st T2 G2 (tvv ++ lov) (gvv ++ nev) (some (.int (1 + (i : Int)) ti))) ++ ro') ++ (fz' ++ slots frs) := by
                  simp only [List.append_assoc]
                rw [ee] at z
                exact z
        · rfl
        · rfl
        · rfl
        · rfl
      · rintro loc own h₁₁ tk₁₁ Qb E' ⟨hread, rA, rv, gA, tA, gvv, tvv, kv, ro, hrights, rfl, hgv, htv, hrv, hro⟩ S₁₁ hq
        exact wpAny_execs_nil (hq _ _ ⟨h₁₁, tk₁₁, loc, rA, rv, gA, tA, gvv, tvv, kv, ro, rfl, rfl, hread, S₁₁, hgv, htv, hrv, hro⟩)
      · exact ⟨rfl, r0, rv0, gA, tA, [], [], none, [], rfl, rfl, .nil, .nil, hr0, .inl ⟨rfl, lrv⟩⟩
      · rintro r s' ⟨h₁₁, tk₁₁, loc, rA, rv, gA, tA, gvv, tvv, kv, ro, rfl, rfl, hread, S₁₁, hgv, htv, hrv, hro⟩
        dsimp only
        have S₁₁ : St base L loc (((so L st tA gA tvv gvv kv) ++ []) ++ slots frs) h₁₁ := S₁₁.drop _ (List.Sublist.append (List.Sublist.append (List.Sublist.refl _) (List.nil_sublist _)) (List.Sublist.refl _))
        have G₁₁ := G.keeps S₁₁.keep
        have lg := strs_len hgv
        have lt := strs_len htv
        have lg' := gv_len ms (ms.length - 1)
        have lt' := tkn_len ms (ms.length - 1)
        have hg4 := len_lt lg' hm2
        have ht4 := len_lt lt' hm2
        have hg4' : gvv.length < 400 := lg ▸ hg4
        have ht4' : tvv.length < 400 := lt ▸ ht4
        with_reducible refine wpAny_execs_cons (Assign_Tuple (wpAny_Call_NameR (gl (.ref 91) G₁₁ e (callW_f ?_ ?_ (sp_sub (slcL (ceI e (S₁₁.at 4 rfl) (pt_none (pt_none ?_))) ?_)) h₁₁ G₁₁))) ?_ ?_)
        · rfl
        · rfl
        · refine ⟨gA, gvv, none, none, h₁₁, tk₁₁, rfl, rfl, S₁₁.at 1 rfl, Nat.le_of_lt (Nat.lt_trans hg4' (by decide)), .none, .none, fun g2 h₁₂ ng2 k₁₂ lg2 => ?_⟩
          rw [slicePick_all] at lg2
          have S₁₂ := S₁₁.more k₁₂ ng2 lg2
          have S₁₂ : St base L loc ((((g2, lst gvv) :: so L st tA gA tvv gvv kv)) ++ slots frs) h₁₂ := S₁₂
          with_reducible refine sp_sub (slcL (ceI e (S₁₂.at 4 rfl) (pt_none (pt_none ?_))) ?_)
          · refine ⟨tA, tvv, none, none, h₁₂, tk₁₁, rfl, rfl, S₁₂.at 1 rfl, Nat.le_of_lt (Nat.lt_trans ht4' (by decide)), .none, .none, fun t2 h₁₃ nt2 k₁₃ lt2 => sp_nil ?_⟩
            rw [slicePick_all] at lt2
            have S₁₃ := S₁₂.more k₁₃ nt2 lt2
            have S₁₃ : St base L loc ((((g2, lst gvv) :: (t2, lst tvv) :: so L st tA gA tvv gvv kv)) ++ slots frs) h₁₃ := S₁₃.perm (List.Perm.swap _ _ _)
            refine ⟨G.keeps S₁₃.keep, ?_⟩
            obtain ⟨frs₁, O₁, ek₁⟩ := Ou.of S₁₃ F O.dict
            have hgt : g2 ≠ t2 := fun z => by
              obtain ⟨o, q, _⟩ := lg2
              rw [z, nt2] at q; cases q
            have G₁₃ : Gr w (hideAll (hideAll (hideAll h₁₃ (frs₁.map (·.1))) [t2]) [g2]) := by
              refine G.keeps fun b o q => ?_
              have q1 := S₁₃.base_hid b o q
              rw [ek₁]
              refine hideAll_get _ (hideAll_get _ q1 ?_) ?_
              · intro hm
                have z : b = t2 := by simpa using hm
                have := (S₁₃.fresh (t2, lst tvv) (.tail _ (.head _))).1
                rw [z] at q; rw [this] at q; cases q
              · intro hm
                have z : b = g2 := by simpa using hm
                have := (S₁₃.fresh (g2, lst gvv) (.head _)).1
                rw [z] at q; rw [this] at q; cases q
            refine ct_uld O₁ G₁₃ R₁ hA' (S₁₃.at 0 rfl) hgv (S₁₃.at 1 rfl) htv hg4 ht4 (by rw [ek₁]; exact S₁₃.off (.inr (by simp))) (by rw [ek₁]; exact S₁₃.off (.inr (by simp))) hgt
              fun D mA mv uv h₁₄ tk₁₄ nD nmA kx lD lmA lg2' lt2' smv suv => ?_
            rw [ek₁] at kx
            have S₁₄ := S₁₃.kxx kx
            have nmA' : h₁₁.get? mA = none := none_of_kp (k₁₂.trans k₁₃) nmA
            have nt2' : h₁₁.get? t2 = none := none_of_kp k₁₂ nt2
            have hmt : mA ≠ t2 := fun z => by
              obtain ⟨o, q, _⟩ := S₁₃.at 1 rfl
              rw [z] at nmA; rw [nmA] at q; cases q
            have S₁₄ := S₁₁.gain2 S₁₄ rfl nmA' nt2' hmt lmA lt2'
            have S₁₄ : St base L loc ((((mA, lst mv) :: (t2, lst uv) :: so L st tA gA tvv gvv kv)) ++ slots frs) h₁₄ := S₁₄
            obtain ⟨oT, qT, cT, nT', dT⟩ := lD
            refine assign2 hA' ⟨oT, qT, cT, nT', dT⟩ S₁₄ e rfl rfl fun h₁₅ tk₁₅ S₁₅ => ?_
            dsimp only
            have hleft := asl (x := "over") (v := .ref t2) (asl_self (x := "left") (v := .ref mA) (loc := loc)) (by decide)
            have hover := asl_self (x := "over") (v := .ref t2) (loc := aset "left" (.ref mA) loc)
            generalize aset "over" (.ref t2) (aset "left" (.ref mA) loc) = loc₁₅ at S₁₅ hleft hover
            have G₁₅ := G.keeps S₁₅.keep
            obtain ⟨b0, u0, rb0, ib0, sb0⟩ := sat 0 (ms.getD 0 0) (by rw [List.getD_eq_getElem?_getD, List.getElem?_eq_getElem hm1]; rfl)
            obtain ⟨bn, un, rbn, ibn, sbn⟩ := sat (ms.length - 1) (ms.getD (ms.length - 1) 0) (by rw [List.getD_eq_getElem?_getD, List.getElem?_eq_getElem (Nat.sub_lt hm1 Nat.one_pos)]; rfl)
            have sx0 : (srefs.map Value.ref)[0]? = some (.ref b0) := by rw [List.getElem?_map, rb0]; rfl
            have sxn : (srefs.map Value.ref)[(srefs.map Value.ref).length - 1]? = some (.ref bn) := by rw [List.length_map, slen, List.getElem?_map, rbn]; rfl
            have lz0 := SW_length (ms.getD 0 0)
            have lzn := SW_length (ms.getD (ms.length - 1) 0)
            have lu0 := strs_len sb0
            have lun := strs_len sbn
            with_reducible refine wpAny_execs_cons (Assign_Tuple_swapped (names := [Str.ofString "more", Str.ofString "less"]) (Tuple_ (sp_call (wpAny_Call_NameR (gl (.ref 125) G₁₅ e (callW_f ?_ ?_ (sp_sub (Subscript_ (ceI e (S₁₅.at 8 rfl) (wpAny_UnaryOp (cint fun t3 k3 => negI fun t4 k4 => sub_last (v := .ref bn) (slst.keeps S₁₅.keep) ?_ ?_ ?_ (sp_sub (Subscript_ (ceI e (S₁₅.at 8 rfl) (cint fun t5 k5 => sub_list (v := .ref b0) (slst.keeps S₁₅.keep).list ?_ ?_ ?_ (sp_bool (sp_nil ?_)) ?_)))) ?_))))) h₁₅ G₁₅))))) ?_ ?_)
            · rfl
            · rfl
            · rw [List.length_map, slen]; exact hm1
            · rw [List.length_map, slen]; exact Nat.lt_of_le_of_lt hm2 (by decide)
            · exact sxn
            · decide
            · decide
            · exact sx0
            · refine ⟨G₁₅, ct_only G₁₅ R₁ hA' (ibn.keeps S₁₅.keep) sbn (ib0.keeps S₁₅.keep) sb0 (Nat.le_trans (Nat.le_of_eq lun) (Nat.le_trans lzn (by decide))) (Nat.le_trans (Nat.le_of_eq lu0) (Nat.le_trans lz0 (by decide))) fun mo mov h₁₆ tk₁₆ nmo k₁₆ lmo smo => ?_⟩
              have S₁₆ := S₁₅.more k₁₆ nmo lmo
              have G₁₆ := G.keeps S₁₆.keep
              with_reducible refine sp_call (wpAny_Call_NameR (gl (.ref 125) G₁₆ e (callW_f ?_ ?_ (sp_sub (Subscript_ (ceI e (S₁₆.at 9 rfl) (cint fun t6 k6 => sub_list (v := .ref b0) (slst.keeps S₁₆.keep).list ?_ ?_ ?_ (sp_sub (Subscript_ (ceI e (S₁₆.at 9 rfl) (wpAny_UnaryOp (cint fun t7 k7 => negI fun t8 k8 => sub_last (v := .ref bn) (slst.keeps S₁₆.keep) ?_ ?_ ?_ (sp_bool (sp_nil ?_)) ?_))))) ?_)))) h₁₆ G₁₆)))
              · rfl
              · rfl
              · decide
              · decide
              · exact sx0
              · rw [List.length_map, slen]; exact hm1
              · rw [List.length_map, slen]; exact Nat.lt_of_le_of_lt hm2 (by decide)
              · exact sxn
              rotate_left
              · rfl
              · rfl
              refine ⟨G₁₆, ct_only G₁₆ R₁ hA' (ib0.keeps S₁₆.keep) sb0 (ibn.keeps S₁₆.keep) sbn (Nat.le_trans (Nat.le_of_eq lu0) (Nat.le_trans lz0 (by decide))) (Nat.le_trans (Nat.le_of_eq lun) (Nat.le_trans lzn (by decide))) fun le lev h₁₇ tk₁₇ nle k₁₇ lle sle' => ?_⟩
              have S₁₇ := S₁₆.more k₁₇ nle lle
              refine sp_nil (newT (by decide : 2 ≤ 1000000) fun Tp h₁₈ nTp k₁₈ lTp => ?_)
              have S₁₈ := S₁₇.pure k₁₈
              obtain ⟨oP, qP, cP, nP', dP⟩ := lTp
              refine unpackItems_tuple (s := at_ s h₁₈ tk₁₇) (items := #[.ref mo, .ref le]) hA' ⟨oP, qP, cP, nP', dP⟩ fun h₁₉ hx₁₉ => ?_
              have S₁₉ := S₁₈.pure (kp_ext hx₁₉)
              refine wpAny_assignInOrder_more (bindName_ (stl (s := s) (tk := tk₁₇) S₁₉ e rfl fun h₂₀ tk₂₀ S₂₀ => wpAny_assignInOrder_more (bindName_ (stl S₂₀ e rfl fun h₂₁ tk₂₁ S₂₁ => wpAny_assignInOrder_none ?_))))
              dsimp only
              have S₂₁ : St base L (aset "more" (.ref mo) (aset "less" (.ref le) loc₁₅)) ((((le, lst lev) :: (mo, lst mov) :: (mA, lst mv) :: (t2, lst uv) :: so L st tA gA tvv gvv kv)) ++ slots frs) h₂₁ := S₂₁
              have hleft₂₁ := asl (x := "more") (v := .ref mo) (asl (x := "less") (v := .ref le) hleft (by decide)) (by decide)
              have hover₂₁ := asl (x := "more") (v := .ref mo) (asl (x := "less") (v := .ref le) hover (by decide)) (by decide)
              have hmore₂₁ := asl_self (x := "more") (v := .ref mo) (loc := aset "less" (.ref le) loc₁₅)
              have hless₂₁ := asl (x := "more") (v := .ref mo) (asl_self (x := "less") (v := .ref le) (loc := loc₁₅)) (by decide)
              generalize aset "more" (.ref mo) (aset "less" (.ref le) loc₁₅) = loc₂₁ at S₂₁ hleft₂₁ hover₂₁ hmore₂₁ hless₂₁
              have G₂₁ := G.keeps S₂₁.keep
              have hcode : env.code = .ref 129 := hcode
              with_reducible refine wpAny_execs_cons (wpAny_Return_some (wpAny_Compare1 (List_ (sp_name (lo S₂₁ e hleft₂₁ (sp_name (lo S₂₁ e hover₂₁ (sp_nil (newL ?_ fun E₁ h₂₂ nE₁ k₂₂ lE₁ => List_ (sp_call ?_)))))))) rfl))
              · exact (by decide : 2 ≤ 1000000)
              have S₂₂ := S₂₁.more k₂₂ nE₁ lE₁
              have S₂₂ : St base L loc₂₁ ((((E₁, lst [.ref mA, .ref t2]) :: (le, lst lev) :: (mo, lst mov) :: (mA, lst mv) :: (t2, lst uv) :: so L st tA gA tvv gvv kv)) ++ slots frs) h₂₂ := S₂₂
              refine wpAny_Call_Name_kw (bl (.builtin "sorted") (G.keeps S₂₂.keep) e (callWith_kw (sp_name (lo S₂₂ e hmore₂₁ (sp_nil (kws_cons ?_))))))
              refine mkLam (c := 129) (P := 127) (ps := #[]) (clos := [("given", L + 3)]) S₂₂ e hcode (G.keeps S₂₂.keep) rfl (by decide) (by decide) 7 rfl trivial rfl rfl rfl fun f₁ c₁ ctv₁ pm₁ h₂₃ tk₂₃ S₂₃ kk₂₃ => kws_nil ?_
              show wpAny _ _ (call (.builtin "sorted") [.ref mo] [(Str.ofString "key", .ref f₁)]) _ _ _
              have lmov := strs_len smo
              have lml := lostM_len (ms.getD (ms.length - 1) 0) (ms.getD 0 0)
              have lmov' : mov.length ≤ 12 := by rw [lmov]; exact lml
              refine sortK (kz := (lostM (ms.getD (ms.length - 1) 0) (ms.getD 0 0)).map fun x => -((gv ms (ms.length - 1)).findIdx (sameS x) : Int)) S₂₃ (S₂₃.at 4 rfl) (by rw [List.length_map, lmov]; rfl) (Nat.lt_of_le_of_lt lmov' (by decide)) ?_ ?_
              · intro j v kx hv hkz h₂₄ tk₂₄ Q' kl hQ'
                obtain ⟨x, tx, hx, rfl⟩ := strs_get smo hv
                have hx' : (lostM (ms.getD (ms.length - 1) 0) (ms.getD 0 0))[j]? = some x := hx
                have S₂₄ := S₂₃.kl kl
                have kxe : -((gv ms (ms.length - 1)).findIdx (sameS x) : Int) = kx := by
                  rw [List.getElem?_map, hx'] at hkz
                  exact Option.some.inj hkz
                have G₂₄ := G.keeps S₂₄.keep
                obtain ⟨_, of, rfl⟩ := S₂₄.at 0 rfl
                refine enterL (binds := [("one", .str x tx)]) G₂₄ R₁.in2 of (codS.rec (S₂₄.at 1 rfl)) rfl (by decide) (locs rfl) rfl fun env' L' h₂₅ tk₂₅ Ef e' S₂₅ G₂₅ R₂₅ => ?_
                have hcell : Is h₂₅ (L + 3) (cll (some (.ref gA))) := (S₂₄.at 11 rfl).keeps S₂₅.keep
                have lgA : Is h₂₅ gA (lst gvv) := (S₂₄.at 8 rfl).keeps S₂₅.keep
                refine wpAny_UnaryOp (meth1 PySem.F.plainAttrs_list PySem.F.slot_list_index PySem.F.type_list_index base_name rfl rfl (ldf e' rfl rfl hcell ⟨lgA.list.typeIs, ?_, lo0 (v := .str x tx) S₂₅ e' (idxL lgA hgv (Nat.le_of_lt (Nat.lt_trans hg4' (by decide))) (FX.inG x (List.mem_of_getElem? hx')) fun t3 k3 => negI fun t4 k4 => ?_)⟩))
                · rintro _ ⟨⟩
                  obtain ⟨o, q, n', rfl⟩ := lgA
                  exact ⟨_, q, rfl⟩
                · rw [kxe]
                  exact hQ' _ _ _ S₂₅.keep
              · intro D₁ h₂₄ tk₂₄ out₁ nD₁ hD₁L kl₁ lD₁ hko₁
                obtain ⟨os₁, sos₁, pos₁, pw₁⟩ := ksk_strs smo hko₁
                have eo₁ := FX.left os₁ pos₁ pw₁
                have S₂₄ := S₂₃.gain (S₂₃.kl kl₁) rfl nD₁ lD₁
                have G₂₄ := G.keeps S₂₄.keep
                refine sp_call (wpAny_Call_Name_kw (bl (.builtin "sorted") G₂₄ e (callWith_kw (sp_name (lo S₂₄ e hless₂₁ (sp_nil (kws_cons ?_)))))))
                refine mkLam (c := 129) (P := 127) (clos := [("taken", L + 4)]) S₂₄ e hcode G₂₄ rfl (by decide) (by decide) 10 rfl trivial rfl rfl rfl fun f₂ c₂ ctv₂ pm₂ h₂₅ tk₂₅ S₂₅ kk₂₅ => kws_nil ?_
                show wpAny _ _ (call (.builtin "sorted") [.ref le] [(Str.ofString "key", .ref f₂)]) _ _ _
                have llev := strs_len sle'
                have lll := lostM_len (ms.getD 0 0) (ms.getD (ms.length - 1) 0)
                have llev' : lev.length ≤ 12 := by rw [llev]; exact lll
                refine sortK (kz := (lostM (ms.getD 0 0) (ms.getD (ms.length - 1) 0)).map fun x => -((tkn ms (ms.length - 1)).reverse.findIdx (sameS x) : Int)) S₂₅ (S₂₅.at 6 rfl) (by rw [List.length_map, llev]; rfl) (Nat.lt_of_le_of_lt llev' (by decide)) ?_ ?_
                · intro j v kx hv hkz h₂₆ tk₂₆ Q' kl hQ'
                  obtain ⟨x, tx, hx, rfl⟩ := strs_get sle' hv
                  have hx' : (lostM (ms.getD 0 0) (ms.getD (ms.length - 1) 0))[j]? = some x := hx
                  have S₂₆ := S₂₅.kl kl
                  have kxe : -((tkn ms (ms.length - 1)).reverse.findIdx (sameS x) : Int) = kx := by
                    rw [List.getElem?_map, hx'] at hkz
                    exact Option.some.inj hkz
                  have G₂₆ := G.keeps S₂₆.keep
                  obtain ⟨_, of, rfl⟩ := S₂₆.at 0 rfl
                  refine enterL (binds := [("one", .str x tx)]) G₂₆ R₁.in2 of (codS.rec (S₂₆.at 1 rfl)) rfl (by decide) (locs rfl) rfl fun env' L' h₂₇ tk₂₇ Ef e' S₂₇ G₂₇ R₂₇ => ?_
                  have hcell : Is h₂₇ (L + 4) (cll (some (.ref tA))) := (S₂₆.at 13 rfl).keeps S₂₇.keep
                  have ltA : Is h₂₇ tA (lst tvv) := (S₂₆.at 10 rfl).keeps S₂₇.keep
                  refine wpAny_UnaryOp (meth1 PySem.F.plainAttrs_list PySem.F.slot_list_index PySem.F.type_list_index rfl rfl rfl (slcRev (ldf e' rfl rfl hcell ⟨tA, tvv, h₂₇, tk₂₇, rfl, rfl, ltA, Nat.le_of_lt (Nat.lt_trans ht4' (by decide)), fun D h₂₈ tk₂₈ nD k₂₈ lD => ⟨lD.list.typeIs, ?_, lo0 (v := .str x tx) (S₂₇.pure k₂₈) e' (idxL lD (strs_reverse htv) (by rw [List.length_reverse]; exact Nat.le_of_lt (Nat.lt_trans ht4' (by decide))) (FX.inT x (List.mem_of_getElem? hx')) fun t3 k3 => negI fun t4 k4 => ?_)⟩⟩)))
                  · rintro _ ⟨⟩
                    obtain ⟨o, q, n', rfl⟩ := lD
                    exact ⟨_, q, rfl⟩
                  · rw [kxe]
                    exact hQ' _ _ _ (S₂₇.keep.trans k₂₈)
                · intro D₂ h₂₆ tk₂₆ out₂ nD₂ hD₂L kl₂ lD₂ hko₂
                  obtain ⟨os₂, sos₂, pos₂, pw₂⟩ := ksk_strs sle' hko₂
                  have eo₂ := FX.over os₂ pos₂ pw₂
                  have S₂₆ := S₂₅.gain (S₂₅.kl kl₂) rfl nD₂ lD₂
                  refine sp_nil (newL (by decide : 2 ≤ 1000000) fun E₂ h₂₇ nE₂ k₂₇ lE₂ => ?_)
                  have S₂₇ := S₂₆.pure k₂₇
                  have hun := R₁.units
                  have un1 : (A.deeper env).in1.units < cLine := R₁.un1
                  rw [eo₁] at sos₁
                  rw [eo₂] at sos₂
                  refine eqLL (S₂₇.at 6 rfl) lE₂ rfl R₁.un0 (fun j v u hv hu => ?_) ?_
                  · match j, hv, hu with
                    | 0, hv, hu => cases hv; cases hu; exact eqAt_strs (S₂₇.at 9 rfl) (S₂₇.at 3 rfl) smv sos₁ un1
                    | 1, hv, hu => cases hv; cases hu; exact eqAt_strs (S₂₇.at 10 rfl) (S₂₇.at 0 rfl) suv sos₂ un1
                    | j + 2, hv, hu => cases hv
                  · refine hQ _ _ (k h₂₇ _ ?_ ?_)
                    · refine ⟨fun b o hb hb2 q => S₂₇.keep b o (by rw [← hbase]; exact hideAll_get _ (hideAll_get _ q hb) hb2), fun b hb o q => ?_⟩
                      obtain ⟨p, hp, rfl⟩ := List.mem_map.mp hb
                      have hin : (p.1, slt p.2) ∈ slots frs := List.mem_map_of_mem (f := fun p : Addr × Obj => (p.1, slt p.2)) hp
                      obtain ⟨o', q', sl, z⟩ := S₂₇.owns (p.1, slt p.2) (by
                        iterate 18 refine List.mem_cons_of_mem _ ?_
                        exact hin)
                      rw [O.there p hp] at q; cases q
                      exact ⟨sl, by rw [← z]; exact q'⟩
                    · obtain ⟨o, q, rfl⟩ := S₂₇.at 13 rfl
                      exact ⟨_, q⟩
            · rfl
            · rfl
            · rfl
            · have es := e.scope
              cases env
              cases es
              rfl
          · intro _ _; rfl
        · intro _ _; rfl
        · rfl
        · rfl
    · intro _; rfl
  · rfl
  · rfl
  · have es := e.scope
    cases env
    cases es
    rfl
end
end Mine
end
section -- Cmp3
open PySem PySem.W PyProof.Rows PySem.Spec PySem.Calls PySem.SeqAt
set_option Elab.async false
set_option maxRecDepth 100000
set_option maxHeartbeats 1000000
set_option pp.maxSteps 3000
namespace Mine
noncomputable def prLt (a b : Int × Str) : Bool := if a.1 = b.1 then decide (a.2.cps.toList < b.2.cps.toList) else decide (a.1 < b.1)
noncomputable def cmp3 (a b : Int × Str) : Int := (if prLt b a then 1 else 0) - (if prLt a b then 1 else 0)
section
variable {w : World} {A : Around} {E : Value → Shared → Prop} {s : Shared} {h : Heap} {tk : Nat} {Q : Value → Shared → Prop}
theorem lex2 (a b : Int × Str) (d : Bool) (hd : d = false) : lexB (fun j => if j = 0 then a.1 == b.1 else a.2 == b.2) (fun j => if j = 0 then decide (a.1 < b.1) else decide (a.2.cps.toList < b.2.cps.toList)) d 2 0 = prLt a b := by
  unfold lexB lexB lexB prLt
  subst hd
  by_cases h1 : a.1 = b.1
  · simp only [h1, if_true, beq_self_eq_true]
    by_cases h2 : a.2 = b.2
    · simp [h2]
    · have : (a.2 == b.2) = false := by simpa using h2
      simp [this]
  · have : (a.1 == b.1) = false := by simpa using h1
    simp [this, h1]
theorem ltPR {x y : Addr} {a b : Int × Str} {ta ua tb ub : Tok} (hx : Is h x (lst [.int a.1 ta, .str a.2 ua])) (hy : Is h y (lst [.int b.1 tb, .str b.2 ub])) (hu : A.units < cLine) (k : Q (.bool (prLt a b)) (at_ s h tk)) :
    wpAny (model PG w) A (compareOp .Lt (.ref x) (.ref y)) Q E (at_ s h tk) := by
  refine ltLL (e := fun j => if j = 0 then a.1 == b.1 else a.2 == b.2) (c := fun j => if j = 0 then decide (a.1 < b.1) else decide (a.2.cps.toList < b.2.cps.toList)) hx hy hu ?_ ?_ ?_
  · intro j v u q r
    match j, q, r with
    | 0, q, r => cases q; cases r; exact EqAt.int_int _ _ _ _
    | 1, q, r => cases q; cases r; exact EqAt.str_str _ _ _ _
    | j + 2, q, r => cases q
  · intro j v u q r _
    match j, q, r with
    | 0, q, r => cases q; cases r; exact RcB.lt_int _ _ _ _
    | 1, q, r => cases q; cases r; exact RcB.lt_str _ _ _ _
    | j + 2, q, r => cases q
  · have := lex2 a b (decide (2 < 2)) (by decide)
    show Q (.bool (lexB _ _ (decide (2 < 2)) 2 0)) _
    rw [this]; exact k
theorem gtPR {x y : Addr} {a b : Int × Str} {ta ua tb ub : Tok} (hx : Is h x (lst [.int a.1 ta, .str a.2 ua])) (hy : Is h y (lst [.int b.1 tb, .str b.2 ub])) (hu : A.units < cLine) (k : Q (.bool (prLt b a)) (at_ s h tk)) :
    wpAny (model PG w) A (compareOp .Gt (.ref x) (.ref y)) Q E (at_ s h tk) := by
  refine gtLL (e := fun j => if j = 0 then b.1 == a.1 else b.2 == a.2) (c := fun j => if j = 0 then decide (b.1 < a.1) else decide (b.2.cps.toList < a.2.cps.toList)) hx hy hu ?_ ?_ ?_
  · intro j v u q r
    match j, q, r with
    | 0, q, r =>
      cases q; cases r
      have := EqAt.int_int (A := A.in1) (s := at_ s h tk) a.1 ta b.1 tb
      have e : (a.1 == b.1) = (b.1 == a.1) := Bool.beq_comm ..
      rw [e] at this; exact this
    | 1, q, r =>
      cases q; cases r
      have := EqAt.str_str (A := A.in1) (s := at_ s h tk) a.2 ua b.2 ub
      have e : (a.2 == b.2) = (b.2 == a.2) := Bool.beq_comm ..
      rw [e] at this; exact this
    | j + 2, q, r => cases q
  · intro j v u q r _
    match j, q, r with
    | 0, q, r => cases q; cases r; exact RcB.gt_int _ _ _ _
    | 1, q, r => cases q; cases r; exact RcB.gt_str _ _ _ _
    | j + 2, q, r => cases q
  · have := lex2 b a (decide (2 > 2)) (by decide)
    show Q (.bool (lexB _ _ (decide (2 > 2)) 2 0)) _
    rw [this]; exact k
theorem ct_cmp {n : Nat} {x y : Addr} {a b : Int × Str} {ta ua tb ub : Tok} (G : Gr w h) (R : Rm (n + 2) A) (hx : Is h x (lst [.int a.1 ta, .str a.2 ua])) (hy : Is h y (lst [.int b.1 tb, .str b.2 ub]))
    (k : ∀ t' h' tk', Kp h h' → Q (.int (cmp3 a b) t') (at_ s h' tk')) : wpAny (model PG w) A (call (.ref 98) [.ref x, .ref y]) Q E (at_ s h tk) := by
  refine enter (binds := [("x", .ref x), ("y", .ref y)]) G R rfl rfl rfl rfl (by decide) (locs rfl) rfl rfl rfl rfl ?_
  intro env L h₁ tk₁ Qf Ef hQ e S G₁ R₁
  dsimp only at e S ⊢
  have S : St h L [("y", .ref y), ("x", .ref x)] [] h₁ := S
  have hu := R₁.units_lt
  refine wpAny_execs_cons (wpAny_Return_some (wpAny_BinOp (wpAny_Compare1 (lo0 (v := .ref x) S e (lo0 (v := .ref y) S e (gtPR (hx.keeps S.keep) (hy.keeps S.keep) hu (wpAny_Compare1 (lo0 (v := .ref x) S e (lo0 (v := .ref y) S e (ltPR (hx.keeps S.keep) (hy.keeps S.keep) hu (sub_bool (s := at_ s h₁ _) ?_)))))))))))
  refine hQ _ _ ?_
  have e1 : b2i (prLt b a) - b2i (prLt a b) = cmp3 a b := by
    unfold cmp3 b2i
    cases prLt b a <;> cases prLt a b <;> rfl
  rw [e1]
  exact k _ _ _ S.keep
end
end Mine
end
section -- Eng
open PySem PySem.W PyProof.Rows PySem.Spec PySem.Calls PySem.SeqAt
set_option Elab.async false
set_option maxRecDepth 100000
set_option maxHeartbeats 4000000
set_option pp.maxSteps 1500
set_option linter.unusedVariables false
namespace Mine
section
variable {w : World} {A : Around} {E : Value → Shared → Prop} {s : Shared} {h : Heap} {tk : Nat} {α β : Type} {M : Model} {L : Addr} {h₀ : Heap} {loc : List (Str × Value)} {own : List (Addr × Sort_)}
theorem hide {Q : α → Shared → Prop} {t : Sem α} {s : Shared} (k : ∀ Q' : α → Shared → Prop, (∀ a s', Q a s' → Q' a s') → wpAny M A t Q' E s) : wpAny M A t Q E s := k Q fun _ _ x => x
theorem bindH {Q : β → Shared → Prop} {m : Sem α} {f : α → Sem β} {s : Shared} (k : ∀ Q' : α → Shared → Prop, (∀ a s', wpAny M A (f a) Q E s' → Q' a s') → wpAny M A m Q' E s) : wpAny M A (m >>= f) Q E s := wpAny_bind (k _ fun _ _ x => x)
theorem bindH' {Q : β → Shared → Prop} {m : Sem α} {f : α → Sem β} {s : Shared} (k : ∀ Q' : α → Shared → Prop, (∀ a s', wpAny M A (f a) Q E s' → Q' a s') → wpAny M A m Q' E s) : wpAny M A (m.bind f) Q E s := wpAny_bind (k _ fun _ _ x => x)
theorem iteF {b : Bool} {x y : Sem α} {Q : α → Shared → Prop} {s : Shared} (hb : b = false) (k : wpAny M A y Q E s) : wpAny M A (if b = true then x else y) Q E s := by subst hb; exact k
theorem iteT {b : Bool} {x y : Sem α} {Q : α → Shared → Prop} {s : Shared} (hb : b = true) (k : wpAny M A x Q E s) : wpAny M A (if b = true then x else y) Q E s := by subst hb; exact k
noncomputable abbrev lit (o : Obj) : Sort_ := fun x => x = o
theorem St.lit (S : St h₀ L loc own h) (i : Nat) {a : Addr} {o : Obj} (hi : own[i]? = some (a, Mine.lit o)) : h.get? a = some o := by obtain ⟨o', e, rfl⟩ := S.at i hi; exact e
theorem ndL {a : Addr} {p : Option Value} {k : Obj → Sem α} {o : Obj} {Q : α → Shared → Prop} (i : Nat) (S : St h₀ L loc own h) (hi : own[i]? = some (a, lit o)) (q : wpAny M A (k o) Q E (at_ s h tk)) : wpAny M A (.load a p k) Q E (at_ s h tk) := nd_load (S.lit i hi) q
theorem ndA {o : Obj} {k : Addr → Sem α} {Q : α → Shared → Prop} (S : St h₀ L loc own h) (hf : o.isFreed = false) (q : ∀ a h', St h₀ L loc ((a, lit o) :: own) h' → h.get? a = none → Kp h h' → wpAny M A (k a) Q E (at_ s h' tk)) : wpAny M A (.alloc o k) Q E (at_ s h tk) :=
  nd_alloc (q _ _ (S.push o rfl hf) (none_size h) (kp_push h o))
theorem ndU {a : Addr} {p : Option Value} {f : Obj → Obj} {k : Unit → Sem α} {o o' : Obj} {Q : α → Shared → Prop} (i : Nat) (S : St h₀ L loc own h) (hi : own[i]? = some (a, lit o)) (he : f o = o') (hf : o'.isFreed = false)
    (q : ∀ h', St h₀ L loc (own.set i (a, lit o')) h' → wpAny M A (k ()) Q E (at_ s h' tk)) : wpAny M A (.update a p f k) Q E (at_ s h tk) := by
  subst he
  have ho := S.lit i hi
  refine wpAny_bind (m := updatePart a p f) (f := k) (wpAny_updatePart (s := at_ s h tk) ho (q _ (S.upd i hi (fun b o' hb e => ?_) ⟨_, Heap.get?_update_self _ ho hf, rfl⟩)))
  exact ((Heap.SameBut.update ..).2 b hb).trans e
noncomputable abbrev Sc (T S : Prop) : Prop := (T ∧ True → S) → T → S
theorem lL {a : Addr} {p : Option Value} {k : Obj → Sem α} {o : Obj} {Q : α → Shared → Prop} (i : Nat) (q : wpAny M A (k o) Q E (at_ s h tk)) (S : St h₀ L loc own h := by assumption) (hi : own[i]? = some (a, lit o) := by with_unfolding_all rfl) : wpAny M A (.load a p k) Q E (at_ s h tk) := ndL i S hi q
end
section
variable {w : World} {A : Around} {E : Value → Shared → Prop} {s : Shared} {h : Heap} {tk : Nat} {L : Addr} {h₀ : Heap} {loc : List (Str × Value)} {own : List (Addr × Sort_)}
theorem colL {v : Value} {l : Addr} {vs : List Value} {n : Nat} {Q : List Value → Shared → Prop} (i : Nat) (S : St h₀ L loc own h) (hi : own[i]? = some (l, lit { cls := .type "list", data := .seq vs.toArray n })) (hv : v = .ref l) (hsz : vs.length ≤ 1000)
    (k : ∀ h', St h₀ L loc own h' → Kp h h' → Q vs (at_ s h' tk)) : wpAny (model PG w) A (collect v) Q E (at_ s h tk) := by
  subst hv
  have kp : Kp h ((h.push (seqObj "list" #[] 0)).update h.objs.size (Obj.mapSeq (· ++ vs.toArray))) := fun b o e => by
    rw [(Heap.SameBut.update ..).2 b (Nat.ne_of_lt (Heap.lt_size e))]
    exact Heap.get?_push_of_some _ e
  exact collect_list (s := at_ s h tk) ⟨_, S.lit i hi, rfl, n, rfl⟩ (k _ (S.pure kp) kp) (by rw [sizeLine_eq]; omega)
noncomputable def Stop (P : Prop) : Prop := P
theorem go {P : Prop} (h : P) : Stop P := h
theorem stopC {v : Value} {Q : List Value → Shared → Prop} {s : Shared} (k : Stop (wpAny (model PG w) A (collect v) Q E s)) : wpAny (model PG w) A (collect v) Q E s := k
theorem lbX {a : Addr} {o : Obj} {Q : Unit → Shared → Prop} (i : Nat) (S : St h₀ L loc own h) (hi : own[i]? = some (a, lit o)) (hp : o.data.pastItsLine = none) (k : Q () (at_ s h tk)) : wpAny (model PG w) A (lookBehind a) Q E (at_ s h tk) :=
  wpAny_lookBehind (s := at_ s h tk) (S.lit i hi) hp k
theorem stopB {a : Addr} {Q : Unit → Shared → Prop} {s : Shared} (k : Stop (wpAny (model PG w) A (lookBehind a) Q E s)) : wpAny (model PG w) A (lookBehind a) Q E s := k
theorem stopM {v : Value} {Q : Option String → Shared → Prop} {s : Shared} (k : Stop (wpAny (model PG w) A (Bind.madeBy v) Q E s)) : wpAny (model PG w) A (Bind.madeBy v) Q E s := k
theorem stopW {v : Value} {Q : Bool → Shared → Prop} {s : Shared} (k : Stop (wpAny (model PG w) A (Builtin.Slots.givesWeak v) Q E s)) : wpAny (model PG w) A (Builtin.Slots.givesWeak v) Q E s := k
theorem stopN {n : String} {a : Addr} {Q : Unit → Shared → Prop} {s : Shared} (k : Stop (wpAny (model PG w) A (Builtin.noteSubclassOfBuiltin n a) Q E s)) : wpAny (model PG w) A (Builtin.noteSubclassOfBuiltin n a) Q E s := k
theorem stopT {v : Value} {x : Str} {Q : Option Value → Shared → Prop} {s : Shared} (k : Stop (wpAny (model PG w) A (typeLookup v x) Q E s)) : wpAny (model PG w) A (typeLookup v x) Q E s := k
theorem stopA {α : Type} {o : Obj} {k' : Addr → Sem α} {Q : α → Shared → Prop} {s : Shared} (k : Stop (wpAny (model PG w) A (.alloc o k') Q E s)) : wpAny (model PG w) A (.alloc o k') Q E s := k
theorem ndF {α : Type} {k' : Tok → Sem α} {Q : α → Shared → Prop} (k : wpAny (model PG w) A (k' tk) Q E (at_ s h (tk + 1))) : wpAny (model PG w) A (.fresh k') Q E (at_ s h tk) := k
theorem stopI {M : Model} {α β : Type} {Q : β → Shared → Prop} {m : Sem α} {f : α → Sem β} {s : Shared} (k : Stop (wpAny M A (m >>= f) Q E s)) : wpAny M A (m >>= f) Q E s := k
theorem stopJ {M : Model} {α β : Type} {Q : β → Shared → Prop} {m : Sem α} {f : α → Sem β} {s : Shared} (k : Stop (wpAny M A (m.bind f) Q E s)) : wpAny M A (m.bind f) Q E s := k
theorem stop1 {M : Model} {α : Type} {Q : α → Shared → Prop} {a : α} {s : Shared} (k : Stop (wpAny M A (.pure a) Q E s)) : wpAny M A (.pure a) Q E s := k
theorem stop2 {M : Model} {α : Type} {Q : α → Shared → Prop} {a : String} {f : Unit → Sem α} {s : Shared} (k : Stop (wpAny M A (.rule a f) Q E s)) : wpAny M A (.rule a f) Q E s := k
theorem stop3 {M : Model} {α : Type} {Q : α → Shared → Prop} {a : List Value} {f : Unit → Sem α} {s : Shared} (k : Stop (wpAny M A (.point a f) Q E s)) : wpAny M A (.point a f) Q E s := k
theorem stop4 {M : Model} {α : Type} {Q : α → Shared → Prop} {f : Setting → Sem α} {s : Shared} (k : Stop (wpAny M A (.ask f) Q E s)) : wpAny M A (.ask f) Q E s := k
theorem stop5 {M : Model} {α : Type} {Q : α → Shared → Prop} {a : Addr} {p : Option Value} {f : Obj → Sem α} {s : Shared} (k : Stop (wpAny M A (.load a p f) Q E s)) : wpAny M A (.load a p f) Q E s := k
theorem stop6 {M : Model} {α : Type} {Q : α → Shared → Prop} {f : Tok → Sem α} {s : Shared} (k : Stop (wpAny M A (.fresh f) Q E s)) : wpAny M A (.fresh f) Q E s := k
theorem bindU {M : Model} {α β : Type} {Q : β → Shared → Prop} {m : Sem α} {f : α → Sem β} {s : Shared} (k : let F := f; ∀ Q' : α → Shared → Prop, (∀ a s', wpAny M A (F a) Q E s' → Q' a s') → wpAny M A m Q' E s) : wpAny M A (m >>= f) Q E s := wpAny_bind (k _ fun _ _ x => x)
theorem stopH {M : Model} {α : Type} {Q : α → Shared → Prop} {v : List Value} {m : Sem α} {s : Shared} (k : Stop (wpAny M A (holding v m) Q E s)) : wpAny M A (holding v m) Q E s := k
theorem stop7 {M : Model} {Q : Unit → Shared → Prop} {p : Pos} {s : Shared} (k : Stop (wpAny M A (standAt p) Q E s)) : wpAny M A (standAt p) Q E s := k
theorem stop8 {M : Model} {α : Type} {Q : Except Value α → Shared → Prop} {m : Sem α} {s : Shared} (k : Stop (wpAny M A m.attempt Q E s)) : wpAny M A m.attempt Q E s := k
theorem stop9 {M : Model} {α : Type} {Q : α → Shared → Prop} {p : Pos} {f : Unit → Sem α} {s : Shared} (k : Stop (wpAny M A (.at p f) Q E s)) : wpAny M A (.at p f) Q E s := k
noncomputable abbrev clsS (T : String) : Sort_ := fun o => o.cls = .type T
theorem tryH {α : Type} {m : Sem α} {hd : Value → Sem α} {Q : α → Shared → Prop} {s : Shared} (k : ∀ E' : Value → Shared → Prop, wpAny (model PG w) A m Q E' s) : wpAny (model PG w) A (m.tryCatch hd) Q E s := wpAny_tryCatch (k _)
theorem stopS {v : Value} {x : Str} {Q : Option Value → Shared → Prop} {s : Shared} (k : Stop (wpAny (model PG w) A (specialOf v x) Q E s)) : wpAny (model PG w) A (specialOf v x) Q E s := k
theorem spR {v : Value} {a : Addr} {T : String} {x : Str} {r : Option Value} {Q : Option Value → Shared → Prop} (i : Nat) (S : St h₀ L loc own h) (hi : own[i]? = some (a, clsS T)) (hv : v = .ref a) (e : fastLookup T x = some r) (k : Q r (at_ s h tk)) : wpAny (model PG w) A (specialOf v x) Q E (at_ s h tk) := by
  subst hv
  obtain ⟨o, q, c⟩ := S.at i hi
  refine wpAny_bind (wpAny_typeOf (T := T) ⟨o, q, c⟩ ?_)
  rw [typeLookup_type, builtinLookup_eq_fast, e]; exact wpAny_pure k
theorem spL {v : Value} {a : Addr} {o : Obj} (T : String) {x : Str} {r : Option Value} {Q : Option Value → Shared → Prop} (i : Nat) (S : St h₀ L loc own h) (hi : own[i]? = some (a, lit o)) (hc : o.cls = .type T) (hv : v = .ref a) (e : fastLookup T x = some r) (k : Q r (at_ s h tk)) : wpAny (model PG w) A (specialOf v x) Q E (at_ s h tk) := by
  subst hv
  refine wpAny_bind (wpAny_typeOf (T := T) ⟨o, S.lit i hi, hc⟩ ?_)
  rw [typeLookup_type, builtinLookup_eq_fast, e]; exact wpAny_pure k
theorem spV {v : Value} (T : String) {x : Str} {r : Option Value} {Q : Option Value → Shared → Prop} {s : Shared} (hv : typeOf v = pure (.type T)) (e : fastLookup T x = some r) (k : Q r s) : wpAny (model PG w) A (specialOf v x) Q E s := by
  refine wpAny_bind (wpAny_of_eq hv ?_)
  rw [typeLookup_type, builtinLookup_eq_fast, e]; exact wpAny_pure k
theorem tlk {T : String} {x : Str} {Q : Option Value → Shared → Prop} {s : Shared} (r : Option Value) (e : fastLookup T x = some r) (k : Q r s) : wpAny (model PG w) A (typeLookup (.type T) x) Q E s := by
  rw [typeLookup_type, builtinLookup_eq_fast, e]; exact wpAny_pure k
theorem ldCls {a : Addr} {c : Value} {d : Option Addr} {sl : Array (Option Value)} {cd : ClassData} (ha : h.get? a = some ⟨c, d, .cls cd, sl⟩) : Looks (model PG w) h (classData a) cd := fun A Q E s k q => wpAny_bind (wpAny_load (k _ _ ha) (wpAny_pure q))
theorem own1 {a : Addr} {c : Value} {d : Option Addr} {sl : Array (Option Value)} {cd : ClassData} {m : Str → Option Value} {x : Str} (ha : h.get? a = some ⟨c, d, .cls cd, sl⟩) (hD : h.Ns cd.ns m) : Looks (model PG w) h (classOwn (.ref a) x) (m x) := by
  intro A Q E s k q
  show wpAny _ _ (classData a >>= fun c => nsGet c.ns x) _ _ _
  exact wpAny_bind (ldCls ha A _ E s k (wpAny_nsGet (hD.keeps k) q))
theorem tlC {a : Addr} {c : Value} {d : Option Addr} {sl : Array (Option Value)} {cd : ClassData} {m : Str → Option Value} {x : Str} (r : Option Value) (ha : h.get? a = some ⟨c, d, .cls cd, sl⟩) (hmro : cd.mro = [.ref a, .type "object"]) (hD : h.Ns cd.ns m) (hm : m x = none) (ho : fastBuiltinOwn "object" x = r) :
    Looks (model PG w) h (typeLookup (.ref a) x) r := by
  intro A Q E s k q
  rw [typeLookup_eq]
  refine wpAny_bind (wpAny_bind (wpAny_bind (wpAny_load (k _ _ ha) (wpAny_pure (wpAny_pure ?_)))))
  show wpAny _ _ (lookupAlong cd.mro x) _ _ _
  rw [hmro, lookupAlong_cons]
  refine wpAny_bind (own1 ha hD A _ E s k ?_)
  rw [hm]
  show wpAny _ _ (lookupAlong _ x) _ _ _
  rw [lookupAlong_cons]
  show wpAny _ _ (pure (builtinOwn "object" x) >>= _) _ _ _
  rw [builtinOwn_eq_fast, ho]
  refine wpAny_bind (wpAny_pure ?_)
  cases r with
  | none => exact wpAny_pure q
  | some v => exact wpAny_pure q
theorem tlC' {a : Addr} {c : Value} {d : Option Addr} {sl : Array (Option Value)} {cd : ClassData} {m : Str → Option Value} {x : Str} (v : Value) (rest : List Value) (ha : h.get? a = some ⟨c, d, .cls cd, sl⟩) (hmro : cd.mro = .ref a :: rest) (hD : h.Ns cd.ns m) (hm : m x = some v) :
    Looks (model PG w) h (typeLookup (.ref a) x) (some v) := by
  intro A Q E s k q
  rw [typeLookup_eq]
  refine wpAny_bind (wpAny_bind (wpAny_bind (wpAny_load (k _ _ ha) (wpAny_pure (wpAny_pure ?_)))))
  show wpAny _ _ (lookupAlong cd.mro x) _ _ _
  rw [hmro, lookupAlong_cons]
  refine wpAny_bind (own1 ha hD A _ E s k ?_)
  rw [hm]
  exact wpAny_pure q
noncomputable def strK (es : Array DictEntry) : Bool := es.toList.all fun e => match e.key with | .str _ _ => true | _ => false
theorem nsLit {a : Addr} {c : Value} {d : Option Addr} {sl : Array (Option Value)} {es : Array DictEntry} {n : Nat} (ha : h.get? a = some ⟨c, d, .dict es n, sl⟩) (hs : strK es = true) : h.Ns a (nsFind es) := by
  refine ⟨_, es, n, ha, rfl, fun e he => ?_, fun _ => rfl⟩
  have := List.all_eq_true.mp hs e (by simpa using he)
  cases q : e.key <;> rw [q] at this <;> first | exact ⟨_, _, rfl⟩ | cases this
theorem stopK {f : Value} {as : List Value} {kw : List (Str × Value)} {Q : Value → Shared → Prop} {s : Shared} (k : Stop (wpAny (model PG w) A (call f as kw) Q E s)) : wpAny (model PG w) A (call f as kw) Q E s := k
theorem stopO {x y : String} {v : Value} {Q : Unit → Shared → Prop} {s : Shared} (k : Stop (wpAny (model PG w) A (notOfAnOpaqueClass x y v) Q E s)) : wpAny (model PG w) A (notOfAnOpaqueClass x y v) Q E s := k
theorem opq {C : Addr} (G : Gr w h) : Looks (model PG w) h (opaqueClassAbove (.ref C)) none := looks_opaque (K := KF w.params) G.k (by with_unfolding_all rfl)
theorem notO {C : Addr} {x y : String} {Q : Unit → Shared → Prop} (G : Gr w h) (k : Q () (at_ s h tk)) : wpAny (model PG w) A (notOfAnOpaqueClass x y (.ref C)) Q E (at_ s h tk) := ks_wpAny_notOpaque (opq G) k
theorem stopF {β : Type} {l : List Value} {b : β} {f : Value → β → Sem (ForInStep β)} {Q : β → Shared → Prop} {s : Shared} (k : Stop (wpAny (model PG w) A (forIn l b f) Q E s)) : wpAny (model PG w) A (forIn l b f) Q E s := k
theorem drop_self (a : Addr) (x : String) : List.drop 1 (List.dropWhile (fun y => y != Value.ref a) [Value.ref a, Value.type x]) = [Value.type x] := by
  have h1 : (Value.ref a != Value.ref a) = false := by simp
  simp only [List.dropWhile, h1, List.drop]
theorem tlkE {v : Value} (T : String) {x : Str} {Q : Option Value → Shared → Prop} {s : Shared} (r : Option Value) (hv : v = .type T) (e : fastLookup T x = some r) (k : Q r s) : wpAny (model PG w) A (typeLookup v x) Q E s := by
  subst hv; exact tlk r e k
theorem cmget {a D B : Addr} {t q : Tok} {Q : Value → Shared → Prop} (hA : A.handled = none) (hd : A.depth ≤ 420) (hu : A.units ≤ 200) (i : Nat) (S : St h₀ L loc own h) (hi : own[i]? = some (a, lit { cls := .type "type", data := .cls { name := "K", bases := [.type "object"], mro := [.ref a, .type "object"], ns := D, qualname := "cmp_to_key.<locals>.K", hasDict := false, slotNames := ["obj"] }, slots := #[some (.ref B), none, some (.str "K" t), some (.str "cmp_to_key.<locals>.K" q), some (.builtin "object.__new__"), some (.bool false)] }))
    (k : ∀ F h' tk', Kp h h' → h.get? F = none → h'.get? F = some { cls := .type "builtin_function_or_method", data := .fields #[.builtin "object.__init_subclass__", .ref a] } → Q (.ref F) (at_ s h' tk')) : wpAny (model PG w) A (call (.builtin "classmethod_descriptor.__get__") [.builtin "object.__init_subclass__", .none, .ref a]) Q E (at_ s h tk) :=
  wk hA hd hu (x_cmget (S.lit i hi) fun F h' tk' D => k F h' tk' (Mem_kp D) (D.nw _ (.head _)).2 (D.nw _ (.head _)).1)
theorem mksuper {a D B : Addr} {t q : Tok} {Q : Value → Shared → Prop} (hA : A.handled = none) (hd : A.depth ≤ 420) (hu : A.units ≤ 200) (i : Nat) (S : St h₀ L loc own h) (hi : own[i]? = some (a, lit { cls := .type "type", data := .cls { name := "K", bases := [.type "object"], mro := [.ref a, .type "object"], ns := D, qualname := "cmp_to_key.<locals>.K", hasDict := false, slotNames := ["obj"] }, slots := #[some (.ref B), none, some (.str "K" t), some (.str "cmp_to_key.<locals>.K" q), some (.builtin "object.__new__"), some (.bool false)] }))
    (k : ∀ F h' tk', St h₀ L loc ((F, lit { cls := .type "super", data := .fields #[.ref a, .ref a, .ref a] }) :: own) h' → Kp h h' → Q (.ref F) (at_ s h' tk')) : wpAny (model PG w) A (call (.type "super") [.ref a, .ref a]) Q E (at_ s h tk) :=
  wk hA hd hu (x_super (S.lit i hi) fun F h' tk' D => k F h' tk' (S.more (Mem_kp D) (D.nw _ (.head _)).2 ⟨_, (D.nw _ (.head _)).1, rfl⟩) (Mem_kp D))
theorem callisub {X a D B : Addr} {t q : Tok} {Q : Value → Shared → Prop} (hA : A.handled = none) (hd : A.depth ≤ 420) (hu : A.units ≤ 200) (i j : Nat) (S : St h₀ L loc own h) (hi : own[i]? = some (a, lit { cls := .type "type", data := .cls { name := "K", bases := [.type "object"], mro := [.ref a, .type "object"], ns := D, qualname := "cmp_to_key.<locals>.K", hasDict := false, slotNames := ["obj"] }, slots := #[some (.ref B), none, some (.str "K" t), some (.str "cmp_to_key.<locals>.K" q), some (.builtin "object.__new__"), some (.bool false)] })) (hj : own[j]? = some (X, lit { cls := .type "builtin_function_or_method", data := .fields #[.builtin "object.__init_subclass__", .ref a] }))
    (k : ∀ h' tk', St h₀ L loc own h' → Kp h h' → Q .none (at_ s h' tk')) : wpAny (model PG w) A (call (.ref X) []) Q E (at_ s h tk) :=
  wk hA hd hu (x_isub (S.lit i hi) (S.lit j hj) fun h' tk' D => k h' tk' (S.pure (Mem_kp D)) (Mem_kp D))
theorem attH {α : Type} {m : Sem α} {Q : Except Value α → Shared → Prop} {s : Shared} (k : ∀ E' : Value → Shared → Prop, wpAny (model PG w) A m (fun v s' => Q (.ok v) s') E' s) : wpAny (model PG w) A m.attempt Q E s := wpAny_attempt (k _)
end
end Mine
end
section -- SG
open PySem PySem.W PyProof.Rows PySem.Spec PySem.Calls PySem.SeqAt
set_option Elab.async false
set_option maxRecDepth 100000
set_option maxHeartbeats 4000000
set_option pp.maxSteps 1500
set_option linter.unusedVariables false
namespace Mine
section
variable {w : World} {A : Around} {E : Value → Shared → Prop} {s : Shared} {h : Heap} {tk : Nat} {L : Addr} {h₀ : Heap} {loc : List (Str × Value)} {own : List (Addr × Sort_)}
theorem superGA (G : Gr w h) (hA : A.handled = none) (hd : A.depth ≤ 415) (hu : A.units ≤ 150) {X a D B : Addr} {t q : Tok} {Q : Value → Shared → Prop}
    (S : St h₀ L loc ((X, lit { cls := .type "super", data := .fields #[.ref a, .ref a, .ref a] }) :: (a, lit { cls := .type "type", data := .cls { name := "K", bases := [.type "object"], mro := [.ref a, .type "object"], ns := D, qualname := "cmp_to_key.<locals>.K", hasDict := false, slotNames := ["obj"] }, slots := #[some (.ref B), none, some (.str "K" t), some (.str "cmp_to_key.<locals>.K" q), some (.builtin "object.__new__"), some (.bool false)] }) :: own) h)
    (k : ∀ F h' tk', Kp h h' → h.get? F = none → h'.get? F = some { cls := .type "builtin_function_or_method", data := .fields #[.builtin "object.__init_subclass__", .ref a] } → Q (.ref F) (at_ s h' tk')) :
    wpAny (model PG w) A (getAttr (.ref X) "__init_subclass__") Q E (at_ s h tk) := by
  refine hide fun Q' hQ => ?_
  unfold getAttr
  repeat (first | (with_reducible refine bindH fun qZ hqZ => ?_) | (with_reducible refine bindH' fun qZ hqZ => ?_) | (with_reducible first | refine wpAny_holding ?_ | refine stopA ?_ | refine stopC ?_ | refine stopB ?_ | refine stopM ?_ | refine stopW ?_ | refine stopN ?_ | refine stopT ?_ | refine stopS ?_ | refine ndF ?_) | (with_reducible refine tryH fun eZ => ?_) | (with_reducible refine attH fun eZ => ?_) | (with_reducible first | refine stopK ?_ | refine stopO ?_ | refine stopF ?_) | k_node | (with_reducible refine (by assumption : ∀ a s, _ → _) _ _ ?_) | (with_reducible first | refine Looks.here (by assumption) ?_ | refine wpAny_onRaise ?_ | refine lL 0 ?_ | refine lL 1 ?_ | refine lL 2 ?_ | refine lL 3 ?_ | refine lL 4 ?_ | refine lL 5 ?_ | refine lL 6 ?_ | refine lL 7 ?_ | refine lL 8 ?_) | ((with_reducible first | refine ndU 0 (by assumption) (by with_unfolding_all rfl) rfl rfl fun hZ sZ => ?_ | refine ndU 1 (by assumption) (by with_unfolding_all rfl) rfl rfl fun hZ sZ => ?_ | refine ndU 2 (by assumption) (by with_unfolding_all rfl) rfl rfl fun hZ sZ => ?_ | refine ndU 3 (by assumption) (by with_unfolding_all rfl) rfl rfl fun hZ sZ => ?_ | refine ndU 4 (by assumption) (by with_unfolding_all rfl) rfl rfl fun hZ sZ => ?_ | refine ndU 5 (by assumption) (by with_unfolding_all rfl) rfl rfl fun hZ sZ => ?_ | refine ndU 6 (by assumption) (by with_unfolding_all rfl) rfl rfl fun hZ sZ => ?_ | refine ndU 7 (by assumption) (by with_unfolding_all rfl) rfl rfl fun hZ sZ => ?_ | refine ndU 8 (by assumption) (by with_unfolding_all rfl) rfl rfl fun hZ sZ => ?_); dsimp only [List.set] at sZ) | (with_reducible first | refine iteF (by assumption) ?_ | refine iteT (by assumption) ?_ | refine iteF (by kernel_rfl) ?_ | refine iteT (by kernel_rfl) ?_))
  refine go (tlk (some (.builtin "super.__getattribute__")) (by kernel_rfl) ?_)
  repeat (first | (with_reducible refine bindH fun qZ hqZ => ?_) | (with_reducible refine bindH' fun qZ hqZ => ?_) | (with_reducible first | refine wpAny_holding ?_ | refine stopA ?_ | refine stopC ?_ | refine stopB ?_ | refine stopM ?_ | refine stopW ?_ | refine stopN ?_ | refine stopT ?_ | refine stopS ?_ | refine ndF ?_) | (with_reducible refine tryH fun eZ => ?_) | (with_reducible refine attH fun eZ => ?_) | (with_reducible first | refine stopK ?_ | refine stopO ?_ | refine stopF ?_) | k_node | (with_reducible refine (by assumption : ∀ a s, _ → _) _ _ ?_) | (with_reducible first | refine Looks.here (by assumption) ?_ | refine wpAny_onRaise ?_ | refine lL 0 ?_ | refine lL 1 ?_ | refine lL 2 ?_ | refine lL 3 ?_ | refine lL 4 ?_ | refine lL 5 ?_ | refine lL 6 ?_ | refine lL 7 ?_ | refine lL 8 ?_) | ((with_reducible first | refine ndU 0 (by assumption) (by with_unfolding_all rfl) rfl rfl fun hZ sZ => ?_ | refine ndU 1 (by assumption) (by with_unfolding_all rfl) rfl rfl fun hZ sZ => ?_ | refine ndU 2 (by assumption) (by with_unfolding_all rfl) rfl rfl fun hZ sZ => ?_ | refine ndU 3 (by assumption) (by with_unfolding_all rfl) rfl rfl fun hZ sZ => ?_ | refine ndU 4 (by assumption) (by with_unfolding_all rfl) rfl rfl fun hZ sZ => ?_ | refine ndU 5 (by assumption) (by with_unfolding_all rfl) rfl rfl fun hZ sZ => ?_ | refine ndU 6 (by assumption) (by with_unfolding_all rfl) rfl rfl fun hZ sZ => ?_ | refine ndU 7 (by assumption) (by with_unfolding_all rfl) rfl rfl fun hZ sZ => ?_ | refine ndU 8 (by assumption) (by with_unfolding_all rfl) rfl rfl fun hZ sZ => ?_); dsimp only [List.set] at sZ) | (with_reducible first | refine iteF (by assumption) ?_ | refine iteT (by assumption) ?_ | refine iteF (by kernel_rfl) ?_ | refine iteT (by kernel_rfl) ?_))
  refine go (wpAny_call_entry F.ks_slot_super_ga ⟨_, S.lit 0 rfl, rfl⟩ F.ks_entry_super_ga ?_ (F.ks_gaArgs_super _ _))
  refine hide fun Q' hQ => ?_
  unfold Builtin.«super.__getattribute__»
  repeat (first | (with_reducible refine bindH fun qZ hqZ => ?_) | (with_reducible refine bindH' fun qZ hqZ => ?_) | (with_reducible first | refine wpAny_holding ?_ | refine stopA ?_ | refine stopC ?_ | refine stopB ?_ | refine stopM ?_ | refine stopW ?_ | refine stopN ?_ | refine stopT ?_ | refine stopS ?_ | refine ndF ?_) | (with_reducible refine tryH fun eZ => ?_) | (with_reducible refine attH fun eZ => ?_) | (with_reducible first | refine stopK ?_ | refine stopO ?_ | refine stopF ?_) | k_node | (with_reducible refine (by assumption : ∀ a s, _ → _) _ _ ?_) | (with_reducible first | refine Looks.here (by assumption) ?_ | refine wpAny_onRaise ?_ | refine lL 0 ?_ | refine lL 1 ?_ | refine lL 2 ?_ | refine lL 3 ?_ | refine lL 4 ?_ | refine lL 5 ?_ | refine lL 6 ?_ | refine lL 7 ?_ | refine lL 8 ?_) | ((with_reducible first | refine ndU 0 (by assumption) (by with_unfolding_all rfl) rfl rfl fun hZ sZ => ?_ | refine ndU 1 (by assumption) (by with_unfolding_all rfl) rfl rfl fun hZ sZ => ?_ | refine ndU 2 (by assumption) (by with_unfolding_all rfl) rfl rfl fun hZ sZ => ?_ | refine ndU 3 (by assumption) (by with_unfolding_all rfl) rfl rfl fun hZ sZ => ?_ | refine ndU 4 (by assumption) (by with_unfolding_all rfl) rfl rfl fun hZ sZ => ?_ | refine ndU 5 (by assumption) (by with_unfolding_all rfl) rfl rfl fun hZ sZ => ?_ | refine ndU 6 (by assumption) (by with_unfolding_all rfl) rfl rfl fun hZ sZ => ?_ | refine ndU 7 (by assumption) (by with_unfolding_all rfl) rfl rfl fun hZ sZ => ?_ | refine ndU 8 (by assumption) (by with_unfolding_all rfl) rfl rfl fun hZ sZ => ?_); dsimp only [List.set] at sZ) | (with_reducible first | refine iteF (by assumption) ?_ | refine iteT (by assumption) ?_ | refine iteF (by kernel_rfl) ?_ | refine iteT (by kernel_rfl) ?_))
  refine go (notO G ?_)
  repeat (first | (with_reducible refine bindH fun qZ hqZ => ?_) | (with_reducible refine bindH' fun qZ hqZ => ?_) | (with_reducible first | refine wpAny_holding ?_ | refine stopA ?_ | refine stopC ?_ | refine stopB ?_ | refine stopM ?_ | refine stopW ?_ | refine stopN ?_ | refine stopT ?_ | refine stopS ?_ | refine ndF ?_) | (with_reducible refine tryH fun eZ => ?_) | (with_reducible refine attH fun eZ => ?_) | (with_reducible first | refine stopK ?_ | refine stopO ?_ | refine stopF ?_) | k_node | (with_reducible refine (by assumption : ∀ a s, _ → _) _ _ ?_) | (with_reducible first | refine Looks.here (by assumption) ?_ | refine wpAny_onRaise ?_ | refine lL 0 ?_ | refine lL 1 ?_ | refine lL 2 ?_ | refine lL 3 ?_ | refine lL 4 ?_ | refine lL 5 ?_ | refine lL 6 ?_ | refine lL 7 ?_ | refine lL 8 ?_) | ((with_reducible first | refine ndU 0 (by assumption) (by with_unfolding_all rfl) rfl rfl fun hZ sZ => ?_ | refine ndU 1 (by assumption) (by with_unfolding_all rfl) rfl rfl fun hZ sZ => ?_ | refine ndU 2 (by assumption) (by with_unfolding_all rfl) rfl rfl fun hZ sZ => ?_ | refine ndU 3 (by assumption) (by with_unfolding_all rfl) rfl rfl fun hZ sZ => ?_ | refine ndU 4 (by assumption) (by with_unfolding_all rfl) rfl rfl fun hZ sZ => ?_ | refine ndU 5 (by assumption) (by with_unfolding_all rfl) rfl rfl fun hZ sZ => ?_ | refine ndU 6 (by assumption) (by with_unfolding_all rfl) rfl rfl fun hZ sZ => ?_ | refine ndU 7 (by assumption) (by with_unfolding_all rfl) rfl rfl fun hZ sZ => ?_ | refine ndU 8 (by assumption) (by with_unfolding_all rfl) rfl rfl fun hZ sZ => ?_); dsimp only [List.set] at sZ) | (with_reducible first | refine iteF (by assumption) ?_ | refine iteT (by assumption) ?_ | refine iteF (by kernel_rfl) ?_ | refine iteT (by kernel_rfl) ?_))
  refine go ?_
  show wpAny _ _ (forIn (List.drop 1 (List.dropWhile (fun y => y != Value.ref a) [Value.ref a, Value.type "object"])) _ _) _ _ _
  rw [drop_self, List.forIn_cons]
  refine bindH fun Q1 hQ1 => bindH fun Q2 hQ2 => ?_
  refine wpAny_of_eq (a := some (.builtin "object.__init_subclass__")) (by kernel_rfl) ?_
  repeat (first | (with_reducible refine bindH fun qZ hqZ => ?_) | (with_reducible refine bindH' fun qZ hqZ => ?_) | (with_reducible first | refine wpAny_holding ?_ | refine stopA ?_ | refine stopC ?_ | refine stopB ?_ | refine stopM ?_ | refine stopW ?_ | refine stopN ?_ | refine stopT ?_ | refine stopS ?_ | refine ndF ?_) | (with_reducible refine tryH fun eZ => ?_) | (with_reducible refine attH fun eZ => ?_) | (with_reducible first | refine stopK ?_ | refine stopO ?_ | refine stopF ?_) | k_node | (with_reducible refine (by assumption : ∀ a s, _ → _) _ _ ?_) | (with_reducible first | refine Looks.here (by assumption) ?_ | refine wpAny_onRaise ?_ | refine lL 0 ?_ | refine lL 1 ?_ | refine lL 2 ?_ | refine lL 3 ?_ | refine lL 4 ?_ | refine lL 5 ?_ | refine lL 6 ?_ | refine lL 7 ?_ | refine lL 8 ?_) | ((with_reducible first | refine ndU 0 (by assumption) (by with_unfolding_all rfl) rfl rfl fun hZ sZ => ?_ | refine ndU 1 (by assumption) (by with_unfolding_all rfl) rfl rfl fun hZ sZ => ?_ | refine ndU 2 (by assumption) (by with_unfolding_all rfl) rfl rfl fun hZ sZ => ?_ | refine ndU 3 (by assumption) (by with_unfolding_all rfl) rfl rfl fun hZ sZ => ?_ | refine ndU 4 (by assumption) (by with_unfolding_all rfl) rfl rfl fun hZ sZ => ?_ | refine ndU 5 (by assumption) (by with_unfolding_all rfl) rfl rfl fun hZ sZ => ?_ | refine ndU 6 (by assumption) (by with_unfolding_all rfl) rfl rfl fun hZ sZ => ?_ | refine ndU 7 (by assumption) (by with_unfolding_all rfl) rfl rfl fun hZ sZ => ?_ | refine ndU 8 (by assumption) (by with_unfolding_all rfl) rfl rfl fun hZ sZ => ?_); dsimp only [List.set] at sZ) | (with_reducible first | refine iteF (by assumption) ?_ | refine iteT (by assumption) ?_ | refine iteF (by kernel_rfl) ?_ | refine iteT (by kernel_rfl) ?_))
  refine go (tlkE "classmethod_descriptor" (some (.builtin "classmethod_descriptor.__get__")) (by kernel_rfl) (by kernel_rfl) ?_)
  repeat (first | (with_reducible refine bindH fun qZ hqZ => ?_) | (with_reducible refine bindH' fun qZ hqZ => ?_) | (with_reducible first | refine wpAny_holding ?_ | refine stopA ?_ | refine stopC ?_ | refine stopB ?_ | refine stopM ?_ | refine stopW ?_ | refine stopN ?_ | refine stopT ?_ | refine stopS ?_ | refine ndF ?_) | (with_reducible refine tryH fun eZ => ?_) | (with_reducible refine attH fun eZ => ?_) | (with_reducible first | refine stopK ?_ | refine stopO ?_ | refine stopF ?_) | k_node | (with_reducible refine (by assumption : ∀ a s, _ → _) _ _ ?_) | (with_reducible first | refine Looks.here (by assumption) ?_ | refine wpAny_onRaise ?_ | refine lL 0 ?_ | refine lL 1 ?_ | refine lL 2 ?_ | refine lL 3 ?_ | refine lL 4 ?_ | refine lL 5 ?_ | refine lL 6 ?_ | refine lL 7 ?_ | refine lL 8 ?_) | ((with_reducible first | refine ndU 0 (by assumption) (by with_unfolding_all rfl) rfl rfl fun hZ sZ => ?_ | refine ndU 1 (by assumption) (by with_unfolding_all rfl) rfl rfl fun hZ sZ => ?_ | refine ndU 2 (by assumption) (by with_unfolding_all rfl) rfl rfl fun hZ sZ => ?_ | refine ndU 3 (by assumption) (by with_unfolding_all rfl) rfl rfl fun hZ sZ => ?_ | refine ndU 4 (by assumption) (by with_unfolding_all rfl) rfl rfl fun hZ sZ => ?_ | refine ndU 5 (by assumption) (by with_unfolding_all rfl) rfl rfl fun hZ sZ => ?_ | refine ndU 6 (by assumption) (by with_unfolding_all rfl) rfl rfl fun hZ sZ => ?_ | refine ndU 7 (by assumption) (by with_unfolding_all rfl) rfl rfl fun hZ sZ => ?_ | refine ndU 8 (by assumption) (by with_unfolding_all rfl) rfl rfl fun hZ sZ => ?_); dsimp only [List.set] at sZ) | (with_reducible first | refine iteF (by assumption) ?_ | refine iteT (by assumption) ?_ | refine iteF (by kernel_rfl) ?_ | refine iteT (by kernel_rfl) ?_))
  have e0 : (if (Value.ref a == Value.ref a) = true then Value.none else Value.ref a) = Value.none := by simp
  refine go ?_
  show wpAny _ _ (call _ [_, (if (Value.ref a == Value.ref a) = true then Value.none else Value.ref a), Value.ref a]) _ _ _
  rw [e0]
  refine cmget hA (by show A.depth ≤ 420; omega) (by show A.units + 1 ≤ 200; omega) 1 S rfl fun F h' tk' kp nF gF => ?_
  have k' := k F h' tk' kp nF gF
  repeat (first | (with_reducible refine bindH fun qZ hqZ => ?_) | (with_reducible refine bindH' fun qZ hqZ => ?_) | (with_reducible first | refine wpAny_holding ?_ | refine stopA ?_ | refine stopC ?_ | refine stopB ?_ | refine stopM ?_ | refine stopW ?_ | refine stopN ?_ | refine stopT ?_ | refine stopS ?_ | refine ndF ?_) | (with_reducible refine tryH fun eZ => ?_) | (with_reducible refine attH fun eZ => ?_) | (with_reducible first | refine stopK ?_ | refine stopO ?_ | refine stopF ?_) | k_node | (with_reducible refine (by assumption : ∀ a s, _ → _) _ _ ?_) | (with_reducible first | refine Looks.here (by assumption) ?_ | refine wpAny_onRaise ?_ | refine lL 0 ?_ | refine lL 1 ?_ | refine lL 2 ?_ | refine lL 3 ?_ | refine lL 4 ?_ | refine lL 5 ?_ | refine lL 6 ?_ | refine lL 7 ?_ | refine lL 8 ?_) | ((with_reducible first | refine ndU 0 (by assumption) (by with_unfolding_all rfl) rfl rfl fun hZ sZ => ?_ | refine ndU 1 (by assumption) (by with_unfolding_all rfl) rfl rfl fun hZ sZ => ?_ | refine ndU 2 (by assumption) (by with_unfolding_all rfl) rfl rfl fun hZ sZ => ?_ | refine ndU 3 (by assumption) (by with_unfolding_all rfl) rfl rfl fun hZ sZ => ?_ | refine ndU 4 (by assumption) (by with_unfolding_all rfl) rfl rfl fun hZ sZ => ?_ | refine ndU 5 (by assumption) (by with_unfolding_all rfl) rfl rfl fun hZ sZ => ?_ | refine ndU 6 (by assumption) (by with_unfolding_all rfl) rfl rfl fun hZ sZ => ?_ | refine ndU 7 (by assumption) (by with_unfolding_all rfl) rfl rfl fun hZ sZ => ?_ | refine ndU 8 (by assumption) (by with_unfolding_all rfl) rfl rfl fun hZ sZ => ?_); dsimp only [List.set] at sZ) | (with_reducible first | refine iteF (by assumption) ?_ | refine iteT (by assumption) ?_ | refine iteF (by kernel_rfl) ?_ | refine iteT (by kernel_rfl) ?_))
  refine ⟨_, rfl, ?_⟩
  repeat (first | (with_reducible refine bindH fun qZ hqZ => ?_) | (with_reducible refine bindH' fun qZ hqZ => ?_) | (with_reducible first | refine wpAny_holding ?_ | refine stopA ?_ | refine stopC ?_ | refine stopB ?_ | refine stopM ?_ | refine stopW ?_ | refine stopN ?_ | refine stopT ?_ | refine stopS ?_ | refine ndF ?_) | (with_reducible refine tryH fun eZ => ?_) | (with_reducible refine attH fun eZ => ?_) | (with_reducible first | refine stopK ?_ | refine stopO ?_ | refine stopF ?_) | k_node | (with_reducible refine (by assumption : ∀ a s, _ → _) _ _ ?_) | (with_reducible first | refine Looks.here (by assumption) ?_ | refine wpAny_onRaise ?_ | refine lL 0 ?_ | refine lL 1 ?_ | refine lL 2 ?_ | refine lL 3 ?_ | refine lL 4 ?_ | refine lL 5 ?_ | refine lL 6 ?_ | refine lL 7 ?_ | refine lL 8 ?_) | ((with_reducible first | refine ndU 0 (by assumption) (by with_unfolding_all rfl) rfl rfl fun hZ sZ => ?_ | refine ndU 1 (by assumption) (by with_unfolding_all rfl) rfl rfl fun hZ sZ => ?_ | refine ndU 2 (by assumption) (by with_unfolding_all rfl) rfl rfl fun hZ sZ => ?_ | refine ndU 3 (by assumption) (by with_unfolding_all rfl) rfl rfl fun hZ sZ => ?_ | refine ndU 4 (by assumption) (by with_unfolding_all rfl) rfl rfl fun hZ sZ => ?_ | refine ndU 5 (by assumption) (by with_unfolding_all rfl) rfl rfl fun hZ sZ => ?_ | refine ndU 6 (by assumption) (by with_unfolding_all rfl) rfl rfl fun hZ sZ => ?_ | refine ndU 7 (by assumption) (by with_unfolding_all rfl) rfl rfl fun hZ sZ => ?_ | refine ndU 8 (by assumption) (by with_unfolding_all rfl) rfl rfl fun hZ sZ => ?_); dsimp only [List.set] at sZ) | (with_reducible first | refine iteF (by assumption) ?_ | refine iteT (by assumption) ?_ | refine iteF (by kernel_rfl) ?_ | refine iteT (by kernel_rfl) ?_))
  exact k'
theorem superGX (G : Gr w h) (hA : A.handled = none) (hd : A.depth ≤ 415) (hu : A.units ≤ 150) {X a D B : Addr} {t q : Tok} {Q : Value → Shared → Prop} (i j : Nat)
    (S : St h₀ L loc own h) (hi : own[i]? = some (X, lit { cls := .type "super", data := .fields #[.ref a, .ref a, .ref a] })) (hj : own[j]? = some (a, lit { cls := .type "type", data := .cls { name := "K", bases := [.type "object"], mro := [.ref a, .type "object"], ns := D, qualname := "cmp_to_key.<locals>.K", hasDict := false, slotNames := ["obj"] }, slots := #[some (.ref B), none, some (.str "K" t), some (.str "cmp_to_key.<locals>.K" q), some (.builtin "object.__new__"), some (.bool false)] }))
    (k : ∀ F h' tk', St h₀ L loc ((F, lit { cls := .type "builtin_function_or_method", data := .fields #[.builtin "object.__init_subclass__", .ref a] }) :: own) h' → Q (.ref F) (at_ s h' tk')) :
    wpAny (model PG w) A (getAttr (.ref X) "__init_subclass__") Q E (at_ s h tk) := by
  have gX := S.lit i hi
  have ga := S.lit j hj
  have ne : X ≠ a := fun z => by subst z; rw [gX] at ga; have := congrArg (fun o => o.map Obj.data) ga; simp at this
  have S' : St h₀ L loc [(X, lit { cls := .type "super", data := .fields #[.ref a, .ref a, .ref a] }), (a, lit { cls := .type "type", data := .cls { name := "K", bases := [.type "object"], mro := [.ref a, .type "object"], ns := D, qualname := "cmp_to_key.<locals>.K", hasDict := false, slotNames := ["obj"] }, slots := #[some (.ref B), none, some (.str "K" t), some (.str "cmp_to_key.<locals>.K" q), some (.builtin "object.__new__"), some (.bool false)] })] h := by
    refine ⟨S.keep, S.ns, S.new, fun p hp => ?_, fun p hp => ?_, ?_⟩
    · rcases List.mem_cons.mp hp with rfl | hp
      · exact ⟨_, gX, rfl⟩
      · rw [List.mem_singleton.mp hp]; exact ⟨_, ga, rfl⟩
    · rcases List.mem_cons.mp hp with rfl | hp
      · exact S.fresh _ (List.mem_of_getElem? hi)
      · rw [List.mem_singleton.mp hp]; exact S.fresh _ (List.mem_of_getElem? hj)
    · simp [ne]
  exact superGA G hA hd hu S' fun F h' tk' kp nF gF => k F h' tk' (S.more kp nF ⟨_, gF, rfl⟩)
end
end Mine
end
section -- TN
open PySem PySem.W PyProof.Rows PySem.Spec PySem.Calls PySem.SeqAt
set_option Elab.async false
set_option maxRecDepth 100000
set_option maxHeartbeats 4000000
set_option pp.maxSteps 1500
set_option linter.unusedVariables false
namespace Mine
section
variable {w : World} {A : Around} {E : Value → Shared → Prop} {s : Shared} {h : Heap} {tk : Nat} {L : Addr} {h₀ : Heap} {loc : List (Str × Value)} {own : List (Addr × Sort_)}
theorem stopG {o : Value} {n : Str} {e : Bool} {Q : Value → Shared → Prop} {s : Shared} (k : Stop (wpAny (model PG w) A (getAttr o n e) Q E s)) : wpAny (model PG w) A (getAttr o n e) Q E s := k
noncomputable abbrev fcS (P : Sort_) : Sort_ := fun o => o.cls = .type "function" ∧ P o
theorem spF {v : Value} {a : Addr} {P : Sort_} {x : Str} {r : Option Value} {Q : Option Value → Shared → Prop} (i : Nat) (S : St h₀ L loc own h) (hi : own[i]? = some (a, fcS P)) (hv : v = .ref a) (e : fastLookup "function" x = some r) (k : Q r (at_ s h tk)) : wpAny (model PG w) A (specialOf v x) Q E (at_ s h tk) := by
  subst hv
  obtain ⟨o, q, c, _⟩ := S.at i hi
  refine wpAny_bind (wpAny_typeOf (T := "function") ⟨o, q, c⟩ ?_)
  rw [typeLookup_type, builtinLookup_eq_fast, e]; exact wpAny_pure k
theorem isId_obj : Builtin.Slots.isIdentifier (Str.ofString "obj") = some true := by kernel_rfl
theorem filt_self (a : Addr) (x : String) : List.filter (fun x => x != Value.ref a) [Value.ref a, Value.type x] = [Value.type x] := by
  have h1 : (Value.ref a != Value.ref a) = false := by simp
  have h2 : (Value.type x != Value.ref a) = true := rfl
  simp only [List.filter, h1, h2]
theorem St.cast {own' : List (Addr × Sort_)} (S : St h₀ L loc own h) (e : own = own') : St h₀ L loc own' h := e ▸ S
noncomputable def nE0 (H : Nat → Int) (T : Nat → Tok) (F : Nat → Addr) : DictEntry := ⟨H 0, .str "__module__" (T 0), .str "cpy313.functools" (T 12)⟩
noncomputable def nE1 (H : Nat → Int) (T : Nat → Tok) (F : Nat → Addr) : DictEntry := ⟨H 1, .str "__qualname__" (T 1), .str "cmp_to_key.<locals>.K" (T 14)⟩
noncomputable def nE2 (H : Nat → Int) (T : Nat → Tok) (F : Nat → Addr) : DictEntry := ⟨H 2, .str "__firstlineno__" (T 2), .int 44 (T 13)⟩
noncomputable def nE3 (H : Nat → Int) (T : Nat → Tok) (F : Nat → Addr) : DictEntry := ⟨H 3, .str "__slots__" (T 3), .ref (F 6)⟩
noncomputable def nE4 (H : Nat → Int) (T : Nat → Tok) (F : Nat → Addr) : DictEntry := ⟨H 4, .str "__init__" (T 4), .ref (F 0)⟩
noncomputable def nE5 (H : Nat → Int) (T : Nat → Tok) (F : Nat → Addr) : DictEntry := ⟨H 5, .str "__lt__" (T 5), .ref (F 1)⟩
noncomputable def nE6 (H : Nat → Int) (T : Nat → Tok) (F : Nat → Addr) : DictEntry := ⟨H 6, .str "__gt__" (T 6), .ref (F 2)⟩
noncomputable def nE7 (H : Nat → Int) (T : Nat → Tok) (F : Nat → Addr) : DictEntry := ⟨H 7, .str "__eq__" (T 7), .ref (F 3)⟩
noncomputable def nE8 (H : Nat → Int) (T : Nat → Tok) (F : Nat → Addr) : DictEntry := ⟨H 8, .str "__le__" (T 8), .ref (F 4)⟩
noncomputable def nE9 (H : Nat → Int) (T : Nat → Tok) (F : Nat → Addr) : DictEntry := ⟨H 9, .str "__ge__" (T 9), .ref (F 5)⟩
noncomputable def nE10 (H : Nat → Int) (T : Nat → Tok) (F : Nat → Addr) : DictEntry := ⟨H 10, .str "__hash__" (T 10), .none⟩
noncomputable def nE11 (H : Nat → Int) (T : Nat → Tok) (F : Nat → Addr) : DictEntry := ⟨H 11, .str "__static_attributes__" (T 11), .ref (F 7)⟩
noncomputable def nS11 (H : Nat → Int) (T : Nat → Tok) (F : Nat → Addr) (m : List DictEntry) : List DictEntry := nE11 H T F :: m
noncomputable def nS10 (H : Nat → Int) (T : Nat → Tok) (F : Nat → Addr) (m : List DictEntry) : List DictEntry := nE10 H T F :: nS11 H T F m
noncomputable def nS9 (H : Nat → Int) (T : Nat → Tok) (F : Nat → Addr) (m : List DictEntry) : List DictEntry := nE9 H T F :: nS10 H T F m
noncomputable def nS8 (H : Nat → Int) (T : Nat → Tok) (F : Nat → Addr) (m : List DictEntry) : List DictEntry := nE8 H T F :: nS9 H T F m
noncomputable def nS7 (H : Nat → Int) (T : Nat → Tok) (F : Nat → Addr) (m : List DictEntry) : List DictEntry := nE7 H T F :: nS8 H T F m
noncomputable def nS6 (H : Nat → Int) (T : Nat → Tok) (F : Nat → Addr) (m : List DictEntry) : List DictEntry := nE6 H T F :: nS7 H T F m
noncomputable def nS5 (H : Nat → Int) (T : Nat → Tok) (F : Nat → Addr) (m : List DictEntry) : List DictEntry := nE5 H T F :: nS6 H T F m
noncomputable def nS4 (H : Nat → Int) (T : Nat → Tok) (F : Nat → Addr) (m : List DictEntry) : List DictEntry := nE4 H T F :: nS5 H T F m
noncomputable def nS3 (H : Nat → Int) (T : Nat → Tok) (F : Nat → Addr) (m : List DictEntry) : List DictEntry := nE3 H T F :: nS4 H T F m
noncomputable def nS2 (H : Nat → Int) (T : Nat → Tok) (F : Nat → Addr) (m : List DictEntry) : List DictEntry := nE2 H T F :: nS3 H T F m
noncomputable def nA (H : Nat → Int) (T : Nat → Tok) (F : Nat → Addr) : Array DictEntry := List.toArray (nE0 H T F :: nE1 H T F :: nS2 H T F [])
noncomputable def nB (H : Nat → Int) (T : Nat → Tok) (F : Nat → Addr) (m : List DictEntry) : Array DictEntry := List.toArray (nE0 H T F :: nS2 H T F m)
noncomputable def nT (H : Nat → Int) (T : Nat → Tok) (F : Nat → Addr) (P : Nat → Sort_) (ep eSL : Nat) (own : List (Addr × Sort_)) : List (Addr × Sort_) := (F 9, lit { cls := .type "dict", data := .dict (nA H T F) ep }) :: (F 8, lit { cls := .type "tuple", data := .seq #[.type "object"] 0 }) :: (F 6, lit { cls := .type "list", data := .seq #[.str "obj" (T 16)] eSL }) :: (F 7, clsS "tuple") :: (F 0, fcS (P 0)) :: (F 1, fcS (P 1)) :: (F 2, fcS (P 2)) :: (F 3, fcS (P 3)) :: (F 4, fcS (P 4)) :: (F 5, fcS (P 5)) :: own
noncomputable def nC (T : Nat → Tok) (F : Nat → Addr) (a D : Addr) (hd : Bool) (sn : List Str) (sl : List (Option Value)) : Addr × Sort_ := (a, lit { cls := .type "type", data := .cls { name := "K", bases := [.type "object"], mro := [.ref a, .type "object"], ns := D, qualname := "cmp_to_key.<locals>.K", hasDict := hd, slotNames := sn }, slots := List.toArray (some (.ref (F 8)) :: none :: some (.str "K" (T 15)) :: some (.str "cmp_to_key.<locals>.K" (T 14)) :: sl) })
noncomputable def nM (a MD : Addr) (tk : Tok) : Addr × Sort_ := (MD, lit { cls := .type "member_descriptor", data := .fields #[.str "obj" tk, .ref a, .builtin "proto.slot", .builtin "proto.slot#set", rawInt 0] })
noncomputable def nDD (H : Nat → Int) (T : Nat → Tok) (F : Nat → Addr) (D : Addr) (m : List DictEntry) (n : Nat) : Addr × Sort_ := (D, lit { cls := .type "dict", data := .dict (nB H T F m) n })
theorem tnew (G : Gr w h₀) (hA : A.handled = none) (hd : A.depth ≤ 415) (hu : A.units ≤ 150) {H : Nat → Int} {T : Nat → Tok} {F : Nat → Addr} {P : Nat → Sort_} {ep eSL : Nat} {Q : PySem.Fin → Shared → Prop}
    (S : St h₀ L loc (nT H T F P ep eSL own) h) (hNs : (F 9 == sysModules) = false)
    (k : ∀ a D MD h' tk', St h₀ L loc (nM a MD tk :: nC T F a D false ["obj"] [some (.builtin "object.__new__"), some (.bool false)] :: nDD H T F D [⟨PyData.keyHash w.params "obj", .str "obj" (tk + 1), .ref MD⟩, ⟨PyData.keyHash w.params "__doc__", .str "__doc__" (tk + 1 + 1), .none⟩] 3 :: nT H T F P ep eSL own) h' → Q (.done (.ret (.ref a))) (at_ s h' tk')) :
    wpAny (model PG w) A (Builtin.«type.__new__» ⟨[.type "type", .str "K" (T 15), .ref (F 8), .ref (F 9)], []⟩) Q E (at_ s h tk) := by
  refine hide fun Q' hQ => ?_
  unfold Builtin.«type.__new__»
  repeat (first | (with_reducible refine bindU ?_; intro FF qZ hqZ) | (with_reducible refine bindH' fun qZ hqZ => ?_) | (with_reducible first | refine wpAny_holding ?_ | refine stopA ?_ | refine stopC ?_ | refine stopB ?_ | refine stopM ?_ | refine stopW ?_ | refine stopN ?_ | refine stopT ?_ | refine stopS ?_ | refine stopK ?_ | refine stopG ?_ | refine ndF ?_) | (with_reducible refine tryH fun eZ => ?_) | (with_reducible first | refine nd_pure ?_ | refine nd_rule ?_ | refine nd_point ?_ | refine nd_ask ?_) | ((refine' (?_ : Sc _ _) (fun xZ => by k_node; (repeat (first | (with_reducible first | refine stopI ?_ | refine stopJ ?_ | refine stop1 ?_ | refine stop2 ?_ | refine stop3 ?_ | refine stop4 ?_ | refine stop5 ?_ | refine stop6 ?_ | refine stopA ?_ | refine stopC ?_ | refine stopB ?_ | refine stopM ?_ | refine stopW ?_ | refine stopN ?_ | refine stopT ?_ | refine stopS ?_ | refine stopK ?_ | refine stopG ?_) | k_node)); with_reducible first | exact go xZ.1 | exact xZ.1) ?_); exact fun _ x => x) | (with_reducible refine (by assumption : ∀ a s, _ → _) _ _ ?_) | (with_reducible first | refine Looks.here (by assumption) ?_ | refine wpAny_onRaise ?_ | refine lL 0 ?_ | refine lL 1 ?_ | refine lL 2 ?_ | refine lL 3 ?_ | refine lL 4 ?_ | refine lL 5 ?_ | refine lL 6 ?_ | refine lL 7 ?_ | refine lL 8 ?_) | ((with_reducible first | refine ndU 0 (by assumption) (by with_unfolding_all rfl) rfl rfl fun hZ sZ => ?_ | refine ndU 1 (by assumption) (by with_unfolding_all rfl) rfl rfl fun hZ sZ => ?_ | refine ndU 2 (by assumption) (by with_unfolding_all rfl) rfl rfl fun hZ sZ => ?_ | refine ndU 3 (by assumption) (by with_unfolding_all rfl) rfl rfl fun hZ sZ => ?_ | refine ndU 4 (by assumption) (by with_unfolding_all rfl) rfl rfl fun hZ sZ => ?_ | refine ndU 5 (by assumption) (by with_unfolding_all rfl) rfl rfl fun hZ sZ => ?_ | refine ndU 6 (by assumption) (by with_unfolding_all rfl) rfl rfl fun hZ sZ => ?_ | refine ndU 7 (by assumption) (by with_unfolding_all rfl) rfl rfl fun hZ sZ => ?_ | refine ndU 8 (by assumption) (by with_unfolding_all rfl) rfl rfl fun hZ sZ => ?_); dsimp only [List.set] at sZ) | (with_reducible first | refine iteF (by assumption) ?_ | refine iteT (by assumption) ?_ | refine iteF (by kernel_rfl) ?_ | refine iteT (by kernel_rfl) ?_))
  refine go (spL (r := some (.builtin "dict.__iter__")) "dict" 0 S rfl rfl rfl (by kernel_rfl) ?_)
  repeat (first | (with_reducible refine bindU ?_; intro FF qZ hqZ) | (with_reducible refine bindH' fun qZ hqZ => ?_) | (with_reducible first | refine wpAny_holding ?_ | refine stopA ?_ | refine stopC ?_ | refine stopB ?_ | refine stopM ?_ | refine stopW ?_ | refine stopN ?_ | refine stopT ?_ | refine stopS ?_ | refine stopK ?_ | refine stopG ?_ | refine ndF ?_) | (with_reducible refine tryH fun eZ => ?_) | (with_reducible first | refine nd_pure ?_ | refine nd_rule ?_ | refine nd_point ?_ | refine nd_ask ?_) | ((refine' (?_ : Sc _ _) (fun xZ => by k_node; (repeat (first | (with_reducible first | refine stopI ?_ | refine stopJ ?_ | refine stop1 ?_ | refine stop2 ?_ | refine stop3 ?_ | refine stop4 ?_ | refine stop5 ?_ | refine stop6 ?_ | refine stopA ?_ | refine stopC ?_ | refine stopB ?_ | refine stopM ?_ | refine stopW ?_ | refine stopN ?_ | refine stopT ?_ | refine stopS ?_ | refine stopK ?_ | refine stopG ?_) | k_node)); with_reducible first | exact go xZ.1 | exact xZ.1) ?_); exact fun _ x => x) | (with_reducible refine (by assumption : ∀ a s, _ → _) _ _ ?_) | (with_reducible first | refine Looks.here (by assumption) ?_ | refine wpAny_onRaise ?_ | refine lL 0 ?_ | refine lL 1 ?_ | refine lL 2 ?_ | refine lL 3 ?_ | refine lL 4 ?_ | refine lL 5 ?_ | refine lL 6 ?_ | refine lL 7 ?_ | refine lL 8 ?_) | ((with_reducible first | refine ndU 0 (by assumption) (by with_unfolding_all rfl) rfl rfl fun hZ sZ => ?_ | refine ndU 1 (by assumption) (by with_unfolding_all rfl) rfl rfl fun hZ sZ => ?_ | refine ndU 2 (by assumption) (by with_unfolding_all rfl) rfl rfl fun hZ sZ => ?_ | refine ndU 3 (by assumption) (by with_unfolding_all rfl) rfl rfl fun hZ sZ => ?_ | refine ndU 4 (by assumption) (by with_unfolding_all rfl) rfl rfl fun hZ sZ => ?_ | refine ndU 5 (by assumption) (by with_unfolding_all rfl) rfl rfl fun hZ sZ => ?_ | refine ndU 6 (by assumption) (by with_unfolding_all rfl) rfl rfl fun hZ sZ => ?_ | refine ndU 7 (by assumption) (by with_unfolding_all rfl) rfl rfl fun hZ sZ => ?_ | refine ndU 8 (by assumption) (by with_unfolding_all rfl) rfl rfl fun hZ sZ => ?_); dsimp only [List.set] at sZ) | (with_reducible first | refine iteF (by assumption) ?_ | refine iteT (by assumption) ?_ | refine iteF (by kernel_rfl) ?_ | refine iteT (by kernel_rfl) ?_))
  refine go (wpAny_of_eq (a := false) (by kernel_rfl) ?_)
  repeat (first | (with_reducible refine bindU ?_; intro FF qZ hqZ) | (with_reducible refine bindH' fun qZ hqZ => ?_) | (with_reducible first | refine wpAny_holding ?_ | refine stopA ?_ | refine stopC ?_ | refine stopB ?_ | refine stopM ?_ | refine stopW ?_ | refine stopN ?_ | refine stopT ?_ | refine stopS ?_ | refine stopK ?_ | refine stopG ?_ | refine ndF ?_) | (with_reducible refine tryH fun eZ => ?_) | (with_reducible first | refine nd_pure ?_ | refine nd_rule ?_ | refine nd_point ?_ | refine nd_ask ?_) | ((refine' (?_ : Sc _ _) (fun xZ => by k_node; (repeat (first | (with_reducible first | refine stopI ?_ | refine stopJ ?_ | refine stop1 ?_ | refine stop2 ?_ | refine stop3 ?_ | refine stop4 ?_ | refine stop5 ?_ | refine stop6 ?_ | refine stopA ?_ | refine stopC ?_ | refine stopB ?_ | refine stopM ?_ | refine stopW ?_ | refine stopN ?_ | refine stopT ?_ | refine stopS ?_ | refine stopK ?_ | refine stopG ?_) | k_node)); with_reducible first | exact go xZ.1 | exact xZ.1) ?_); exact fun _ x => x) | (with_reducible refine (by assumption : ∀ a s, _ → _) _ _ ?_) | (with_reducible first | refine Looks.here (by assumption) ?_ | refine wpAny_onRaise ?_ | refine lL 0 ?_ | refine lL 1 ?_ | refine lL 2 ?_ | refine lL 3 ?_ | refine lL 4 ?_ | refine lL 5 ?_ | refine lL 6 ?_ | refine lL 7 ?_ | refine lL 8 ?_) | ((with_reducible first | refine ndU 0 (by assumption) (by with_unfolding_all rfl) rfl rfl fun hZ sZ => ?_ | refine ndU 1 (by assumption) (by with_unfolding_all rfl) rfl rfl fun hZ sZ => ?_ | refine ndU 2 (by assumption) (by with_unfolding_all rfl) rfl rfl fun hZ sZ => ?_ | refine ndU 3 (by assumption) (by with_unfolding_all rfl) rfl rfl fun hZ sZ => ?_ | refine ndU 4 (by assumption) (by with_unfolding_all rfl) rfl rfl fun hZ sZ => ?_ | refine ndU 5 (by assumption) (by with_unfolding_all rfl) rfl rfl fun hZ sZ => ?_ | refine ndU 6 (by assumption) (by with_unfolding_all rfl) rfl rfl fun hZ sZ => ?_ | refine ndU 7 (by assumption) (by with_unfolding_all rfl) rfl rfl fun hZ sZ => ?_ | refine ndU 8 (by assumption) (by with_unfolding_all rfl) rfl rfl fun hZ sZ => ?_); dsimp only [List.set] at sZ) | (with_reducible first | refine iteF (by assumption) ?_ | refine iteT (by assumption) ?_ | refine iteF (by kernel_rfl) ?_ | refine iteT (by kernel_rfl) ?_))
  refine go (colL (vs := [_]) 2 (by assumption) (by with_unfolding_all rfl) (by with_unfolding_all rfl) (by simp) fun h' S' kk' => ?_)
  repeat (first | (with_reducible refine bindU ?_; intro FF qZ hqZ) | (with_reducible refine bindH' fun qZ hqZ => ?_) | (with_reducible first | refine wpAny_holding ?_ | refine stopA ?_ | refine stopC ?_ | refine stopB ?_ | refine stopM ?_ | refine stopW ?_ | refine stopN ?_ | refine stopT ?_ | refine stopS ?_ | refine stopK ?_ | refine stopG ?_ | refine ndF ?_) | (with_reducible refine tryH fun eZ => ?_) | (with_reducible first | refine nd_pure ?_ | refine nd_rule ?_ | refine nd_point ?_ | refine nd_ask ?_) | ((refine' (?_ : Sc _ _) (fun xZ => by k_node; (repeat (first | (with_reducible first | refine stopI ?_ | refine stopJ ?_ | refine stop1 ?_ | refine stop2 ?_ | refine stop3 ?_ | refine stop4 ?_ | refine stop5 ?_ | refine stop6 ?_ | refine stopA ?_ | refine stopC ?_ | refine stopB ?_ | refine stopM ?_ | refine stopW ?_ | refine stopN ?_ | refine stopT ?_ | refine stopS ?_ | refine stopK ?_ | refine stopG ?_) | k_node)); with_reducible first | exact go xZ.1 | exact xZ.1) ?_); exact fun _ x => x) | (with_reducible refine (by assumption : ∀ a s, _ → _) _ _ ?_) | (with_reducible first | refine Looks.here (by assumption) ?_ | refine wpAny_onRaise ?_ | refine lL 0 ?_ | refine lL 1 ?_ | refine lL 2 ?_ | refine lL 3 ?_ | refine lL 4 ?_ | refine lL 5 ?_ | refine lL 6 ?_ | refine lL 7 ?_ | refine lL 8 ?_) | ((with_reducible first | refine ndU 0 (by assumption) (by with_unfolding_all rfl) rfl rfl fun hZ sZ => ?_ | refine ndU 1 (by assumption) (by with_unfolding_all rfl) rfl rfl fun hZ sZ => ?_ | refine ndU 2 (by assumption) (by with_unfolding_all rfl) rfl rfl fun hZ sZ => ?_ | refine ndU 3 (by assumption) (by with_unfolding_all rfl) rfl rfl fun hZ sZ => ?_ | refine ndU 4 (by assumption) (by with_unfolding_all rfl) rfl rfl fun hZ sZ => ?_ | refine ndU 5 (by assumption) (by with_unfolding_all rfl) rfl rfl fun hZ sZ => ?_ | refine ndU 6 (by assumption) (by with_unfolding_all rfl) rfl rfl fun hZ sZ => ?_ | refine ndU 7 (by assumption) (by with_unfolding_all rfl) rfl rfl fun hZ sZ => ?_ | refine ndU 8 (by assumption) (by with_unfolding_all rfl) rfl rfl fun hZ sZ => ?_); dsimp only [List.set] at sZ) | (with_reducible first | refine iteF (by assumption) ?_ | refine iteT (by assumption) ?_ | refine iteF (by kernel_rfl) ?_ | refine iteT (by kernel_rfl) ?_))
  rw [isId_obj]
  repeat (first | (with_reducible refine bindU ?_; intro FF qZ hqZ) | (with_reducible refine bindH' fun qZ hqZ => ?_) | (with_reducible first | refine wpAny_holding ?_ | refine stopA ?_ | refine stopC ?_ | refine stopB ?_ | refine stopM ?_ | refine stopW ?_ | refine stopN ?_ | refine stopT ?_ | refine stopS ?_ | refine stopK ?_ | refine stopG ?_ | refine ndF ?_) | (with_reducible refine tryH fun eZ => ?_) | (with_reducible first | refine nd_pure ?_ | refine nd_rule ?_ | refine nd_point ?_ | refine nd_ask ?_) | ((refine' (?_ : Sc _ _) (fun xZ => by k_node; (repeat (first | (with_reducible first | refine stopI ?_ | refine stopJ ?_ | refine stop1 ?_ | refine stop2 ?_ | refine stop3 ?_ | refine stop4 ?_ | refine stop5 ?_ | refine stop6 ?_ | refine stopA ?_ | refine stopC ?_ | refine stopB ?_ | refine stopM ?_ | refine stopW ?_ | refine stopN ?_ | refine stopT ?_ | refine stopS ?_ | refine stopK ?_ | refine stopG ?_) | k_node)); with_reducible first | exact go xZ.1 | exact xZ.1) ?_); exact fun _ x => x) | (with_reducible refine (by assumption : ∀ a s, _ → _) _ _ ?_) | (with_reducible first | refine Looks.here (by assumption) ?_ | refine wpAny_onRaise ?_ | refine lL 0 ?_ | refine lL 1 ?_ | refine lL 2 ?_ | refine lL 3 ?_ | refine lL 4 ?_ | refine lL 5 ?_ | refine lL 6 ?_ | refine lL 7 ?_ | refine lL 8 ?_) | ((with_reducible first | refine ndU 0 (by assumption) (by with_unfolding_all rfl) rfl rfl fun hZ sZ => ?_ | refine ndU 1 (by assumption) (by with_unfolding_all rfl) rfl rfl fun hZ sZ => ?_ | refine ndU 2 (by assumption) (by with_unfolding_all rfl) rfl rfl fun hZ sZ => ?_ | refine ndU 3 (by assumption) (by with_unfolding_all rfl) rfl rfl fun hZ sZ => ?_ | refine ndU 4 (by assumption) (by with_unfolding_all rfl) rfl rfl fun hZ sZ => ?_ | refine ndU 5 (by assumption) (by with_unfolding_all rfl) rfl rfl fun hZ sZ => ?_ | refine ndU 6 (by assumption) (by with_unfolding_all rfl) rfl rfl fun hZ sZ => ?_ | refine ndU 7 (by assumption) (by with_unfolding_all rfl) rfl rfl fun hZ sZ => ?_ | refine ndU 8 (by assumption) (by with_unfolding_all rfl) rfl rfl fun hZ sZ => ?_); dsimp only [List.set] at sZ) | (with_reducible first | refine iteF (by assumption) ?_ | refine iteT (by assumption) ?_ | refine iteF (by kernel_rfl) ?_ | refine iteT (by kernel_rfl) ?_))
  refine go (ndA (by assumption) rfl fun D h' S' nD kD => ?_)
  repeat (first | (with_reducible refine bindU ?_; intro FF qZ hqZ) | (with_reducible refine bindH' fun qZ hqZ => ?_) | (with_reducible first | refine wpAny_holding ?_ | refine stopA ?_ | refine stopC ?_ | refine stopB ?_ | refine stopM ?_ | refine stopW ?_ | refine stopN ?_ | refine stopT ?_ | refine stopS ?_ | refine stopK ?_ | refine stopG ?_ | refine ndF ?_) | (with_reducible refine tryH fun eZ => ?_) | (with_reducible first | refine nd_pure ?_ | refine nd_rule ?_ | refine nd_point ?_ | refine nd_ask ?_) | ((refine' (?_ : Sc _ _) (fun xZ => by k_node; (repeat (first | (with_reducible first | refine stopI ?_ | refine stopJ ?_ | refine stop1 ?_ | refine stop2 ?_ | refine stop3 ?_ | refine stop4 ?_ | refine stop5 ?_ | refine stop6 ?_ | refine stopA ?_ | refine stopC ?_ | refine stopB ?_ | refine stopM ?_ | refine stopW ?_ | refine stopN ?_ | refine stopT ?_ | refine stopS ?_ | refine stopK ?_ | refine stopG ?_) | k_node)); with_reducible first | exact go xZ.1 | exact xZ.1) ?_); exact fun _ x => x) | (with_reducible refine (by assumption : ∀ a s, _ → _) _ _ ?_) | (with_reducible first | refine Looks.here (by assumption) ?_ | refine wpAny_onRaise ?_ | refine lL 0 ?_ | refine lL 1 ?_ | refine lL 2 ?_ | refine lL 3 ?_ | refine lL 4 ?_ | refine lL 5 ?_ | refine lL 6 ?_ | refine lL 7 ?_ | refine lL 8 ?_) | ((with_reducible first | refine ndU 0 (by assumption) (by with_unfolding_all rfl) rfl rfl fun hZ sZ => ?_ | refine ndU 1 (by assumption) (by with_unfolding_all rfl) rfl rfl fun hZ sZ => ?_ | refine ndU 2 (by assumption) (by with_unfolding_all rfl) rfl rfl fun hZ sZ => ?_ | refine ndU 3 (by assumption) (by with_unfolding_all rfl) rfl rfl fun hZ sZ => ?_ | refine ndU 4 (by assumption) (by with_unfolding_all rfl) rfl rfl fun hZ sZ => ?_ | refine ndU 5 (by assumption) (by with_unfolding_all rfl) rfl rfl fun hZ sZ => ?_ | refine ndU 6 (by assumption) (by with_unfolding_all rfl) rfl rfl fun hZ sZ => ?_ | refine ndU 7 (by assumption) (by with_unfolding_all rfl) rfl rfl fun hZ sZ => ?_ | refine ndU 8 (by assumption) (by with_unfolding_all rfl) rfl rfl fun hZ sZ => ?_); dsimp only [List.set] at sZ) | (with_reducible first | refine iteF (by assumption) ?_ | refine iteT (by assumption) ?_ | refine iteF (by kernel_rfl) ?_ | refine iteT (by kernel_rfl) ?_))
  refine go (ndA (by assumption) rfl fun a h' S' na ka => ?_)
  repeat (first | (with_reducible refine bindU ?_; intro FF qZ hqZ) | (with_reducible refine bindH' fun qZ hqZ => ?_) | (with_reducible first | refine wpAny_holding ?_ | refine stopA ?_ | refine stopC ?_ | refine stopB ?_ | refine stopM ?_ | refine stopW ?_ | refine stopN ?_ | refine stopT ?_ | refine stopS ?_ | refine stopK ?_ | refine stopG ?_ | refine ndF ?_) | (with_reducible refine tryH fun eZ => ?_) | (with_reducible first | refine nd_pure ?_ | refine nd_rule ?_ | refine nd_point ?_ | refine nd_ask ?_) | ((refine' (?_ : Sc _ _) (fun xZ => by k_node; (repeat (first | (with_reducible first | refine stopI ?_ | refine stopJ ?_ | refine stop1 ?_ | refine stop2 ?_ | refine stop3 ?_ | refine stop4 ?_ | refine stop5 ?_ | refine stop6 ?_ | refine stopA ?_ | refine stopC ?_ | refine stopB ?_ | refine stopM ?_ | refine stopW ?_ | refine stopN ?_ | refine stopT ?_ | refine stopS ?_ | refine stopK ?_ | refine stopG ?_) | k_node)); with_reducible first | exact go xZ.1 | exact xZ.1) ?_); exact fun _ x => x) | (with_reducible refine (by assumption : ∀ a s, _ → _) _ _ ?_) | (with_reducible first | refine Looks.here (by assumption) ?_ | refine wpAny_onRaise ?_ | refine lL 0 ?_ | refine lL 1 ?_ | refine lL 2 ?_ | refine lL 3 ?_ | refine lL 4 ?_ | refine lL 5 ?_ | refine lL 6 ?_ | refine lL 7 ?_ | refine lL 8 ?_) | ((with_reducible first | refine ndU 0 (by assumption) (by with_unfolding_all rfl) rfl rfl fun hZ sZ => ?_ | refine ndU 1 (by assumption) (by with_unfolding_all rfl) rfl rfl fun hZ sZ => ?_ | refine ndU 2 (by assumption) (by with_unfolding_all rfl) rfl rfl fun hZ sZ => ?_ | refine ndU 3 (by assumption) (by with_unfolding_all rfl) rfl rfl fun hZ sZ => ?_ | refine ndU 4 (by assumption) (by with_unfolding_all rfl) rfl rfl fun hZ sZ => ?_ | refine ndU 5 (by assumption) (by with_unfolding_all rfl) rfl rfl fun hZ sZ => ?_ | refine ndU 6 (by assumption) (by with_unfolding_all rfl) rfl rfl fun hZ sZ => ?_ | refine ndU 7 (by assumption) (by with_unfolding_all rfl) rfl rfl fun hZ sZ => ?_ | refine ndU 8 (by assumption) (by with_unfolding_all rfl) rfl rfl fun hZ sZ => ?_); dsimp only [List.set] at sZ) | (with_reducible first | refine iteF (by assumption) ?_ | refine iteT (by assumption) ?_ | refine iteF (by kernel_rfl) ?_ | refine iteT (by kernel_rfl) ?_))
  refine go (tlk (some (.builtin "type.mro")) (by kernel_rfl) ?_)
  repeat (first | (with_reducible refine bindU ?_; intro FF qZ hqZ) | (with_reducible refine bindH' fun qZ hqZ => ?_) | (with_reducible first | refine wpAny_holding ?_ | refine stopA ?_ | refine stopC ?_ | refine stopB ?_ | refine stopM ?_ | refine stopW ?_ | refine stopN ?_ | refine stopT ?_ | refine stopS ?_ | refine stopK ?_ | refine stopG ?_ | refine ndF ?_) | (with_reducible refine tryH fun eZ => ?_) | (with_reducible first | refine nd_pure ?_ | refine nd_rule ?_ | refine nd_point ?_ | refine nd_ask ?_) | ((refine' (?_ : Sc _ _) (fun xZ => by k_node; (repeat (first | (with_reducible first | refine stopI ?_ | refine stopJ ?_ | refine stop1 ?_ | refine stop2 ?_ | refine stop3 ?_ | refine stop4 ?_ | refine stop5 ?_ | refine stop6 ?_ | refine stopA ?_ | refine stopC ?_ | refine stopB ?_ | refine stopM ?_ | refine stopW ?_ | refine stopN ?_ | refine stopT ?_ | refine stopS ?_ | refine stopK ?_ | refine stopG ?_) | k_node)); with_reducible first | exact go xZ.1 | exact xZ.1) ?_); exact fun _ x => x) | (with_reducible refine (by assumption : ∀ a s, _ → _) _ _ ?_) | (with_reducible first | refine Looks.here (by assumption) ?_ | refine wpAny_onRaise ?_ | refine lL 0 ?_ | refine lL 1 ?_ | refine lL 2 ?_ | refine lL 3 ?_ | refine lL 4 ?_ | refine lL 5 ?_ | refine lL 6 ?_ | refine lL 7 ?_ | refine lL 8 ?_) | ((with_reducible first | refine ndU 0 (by assumption) (by with_unfolding_all rfl) rfl rfl fun hZ sZ => ?_ | refine ndU 1 (by assumption) (by with_unfolding_all rfl) rfl rfl fun hZ sZ => ?_ | refine ndU 2 (by assumption) (by with_unfolding_all rfl) rfl rfl fun hZ sZ => ?_ | refine ndU 3 (by assumption) (by with_unfolding_all rfl) rfl rfl fun hZ sZ => ?_ | refine ndU 4 (by assumption) (by with_unfolding_all rfl) rfl rfl fun hZ sZ => ?_ | refine ndU 5 (by assumption) (by with_unfolding_all rfl) rfl rfl fun hZ sZ => ?_ | refine ndU 6 (by assumption) (by with_unfolding_all rfl) rfl rfl fun hZ sZ => ?_ | refine ndU 7 (by assumption) (by with_unfolding_all rfl) rfl rfl fun hZ sZ => ?_ | refine ndU 8 (by assumption) (by with_unfolding_all rfl) rfl rfl fun hZ sZ => ?_); dsimp only [List.set] at sZ) | (with_reducible first | refine iteF (by assumption) ?_ | refine iteT (by assumption) ?_ | refine iteF (by kernel_rfl) ?_ | refine iteT (by kernel_rfl) ?_))
  rw [filt_self]
  refine wpAny_of_eq (a := false) (by kernel_rfl) ?_
  repeat (first | (with_reducible refine bindU ?_; intro FF qZ hqZ) | (with_reducible refine bindH' fun qZ hqZ => ?_) | (with_reducible first | refine wpAny_holding ?_ | refine stopA ?_ | refine stopC ?_ | refine stopB ?_ | refine stopM ?_ | refine stopW ?_ | refine stopN ?_ | refine stopT ?_ | refine stopS ?_ | refine stopK ?_ | refine stopG ?_ | refine ndF ?_) | (with_reducible refine tryH fun eZ => ?_) | (with_reducible first | refine nd_pure ?_ | refine nd_rule ?_ | refine nd_point ?_ | refine nd_ask ?_) | ((refine' (?_ : Sc _ _) (fun xZ => by k_node; (repeat (first | (with_reducible first | refine stopI ?_ | refine stopJ ?_ | refine stop1 ?_ | refine stop2 ?_ | refine stop3 ?_ | refine stop4 ?_ | refine stop5 ?_ | refine stop6 ?_ | refine stopA ?_ | refine stopC ?_ | refine stopB ?_ | refine stopM ?_ | refine stopW ?_ | refine stopN ?_ | refine stopT ?_ | refine stopS ?_ | refine stopK ?_ | refine stopG ?_) | k_node)); with_reducible first | exact go xZ.1 | exact xZ.1) ?_); exact fun _ x => x) | (with_reducible refine (by assumption : ∀ a s, _ → _) _ _ ?_) | (with_reducible first | refine Looks.here (by assumption) ?_ | refine wpAny_onRaise ?_ | refine lL 0 ?_ | refine lL 1 ?_ | refine lL 2 ?_ | refine lL 3 ?_ | refine lL 4 ?_ | refine lL 5 ?_ | refine lL 6 ?_ | refine lL 7 ?_ | refine lL 8 ?_) | ((with_reducible first | refine ndU 0 (by assumption) (by with_unfolding_all rfl) rfl rfl fun hZ sZ => ?_ | refine ndU 1 (by assumption) (by with_unfolding_all rfl) rfl rfl fun hZ sZ => ?_ | refine ndU 2 (by assumption) (by with_unfolding_all rfl) rfl rfl fun hZ sZ => ?_ | refine ndU 3 (by assumption) (by with_unfolding_all rfl) rfl rfl fun hZ sZ => ?_ | refine ndU 4 (by assumption) (by with_unfolding_all rfl) rfl rfl fun hZ sZ => ?_ | refine ndU 5 (by assumption) (by with_unfolding_all rfl) rfl rfl fun hZ sZ => ?_ | refine ndU 6 (by assumption) (by with_unfolding_all rfl) rfl rfl fun hZ sZ => ?_ | refine ndU 7 (by assumption) (by with_unfolding_all rfl) rfl rfl fun hZ sZ => ?_ | refine ndU 8 (by assumption) (by with_unfolding_all rfl) rfl rfl fun hZ sZ => ?_); dsimp only [List.set] at sZ) | (with_reducible first | refine iteF (by assumption) ?_ | refine iteT (by assumption) ?_ | refine iteF (by kernel_rfl) ?_ | refine iteT (by kernel_rfl) ?_))
  have S₁ := St.cast (own' := nC T F a D true [] [] :: nDD H T F D [] 1 :: nT H T F P ep eSL own) (by assumption) (by kernel_rfl)
  refine go (lbX 0 S₁ rfl (by kernel_rfl) ?_)
  repeat (first | (with_reducible refine bindU ?_; intro FF qZ hqZ) | (with_reducible refine bindH' fun qZ hqZ => ?_) | (with_reducible first | refine wpAny_holding ?_ | refine stopA ?_ | refine stopC ?_ | refine stopB ?_ | refine stopM ?_ | refine stopW ?_ | refine stopN ?_ | refine stopT ?_ | refine stopS ?_ | refine stopK ?_ | refine stopG ?_ | refine ndF ?_) | (with_reducible refine tryH fun eZ => ?_) | (with_reducible first | refine nd_pure ?_ | refine nd_rule ?_ | refine nd_point ?_ | refine nd_ask ?_) | ((refine' (?_ : Sc _ _) (fun xZ => by k_node; (repeat (first | (with_reducible first | refine stopI ?_ | refine stopJ ?_ | refine stop1 ?_ | refine stop2 ?_ | refine stop3 ?_ | refine stop4 ?_ | refine stop5 ?_ | refine stop6 ?_ | refine stopA ?_ | refine stopC ?_ | refine stopB ?_ | refine stopM ?_ | refine stopW ?_ | refine stopN ?_ | refine stopT ?_ | refine stopS ?_ | refine stopK ?_ | refine stopG ?_) | k_node)); with_reducible first | exact go xZ.1 | exact xZ.1) ?_); exact fun _ x => x) | (with_reducible refine (by assumption : ∀ a s, _ → _) _ _ ?_) | (with_reducible first | refine Looks.here (by assumption) ?_ | refine wpAny_onRaise ?_ | refine lL 0 ?_ | refine lL 1 ?_ | refine lL 2 ?_ | refine lL 3 ?_ | refine lL 4 ?_ | refine lL 5 ?_ | refine lL 6 ?_ | refine lL 7 ?_ | refine lL 8 ?_) | ((with_reducible first | refine ndU 0 (by assumption) (by with_unfolding_all rfl) rfl rfl fun hZ sZ => ?_ | refine ndU 1 (by assumption) (by with_unfolding_all rfl) rfl rfl fun hZ sZ => ?_ | refine ndU 2 (by assumption) (by with_unfolding_all rfl) rfl rfl fun hZ sZ => ?_ | refine ndU 3 (by assumption) (by with_unfolding_all rfl) rfl rfl fun hZ sZ => ?_ | refine ndU 4 (by assumption) (by with_unfolding_all rfl) rfl rfl fun hZ sZ => ?_ | refine ndU 5 (by assumption) (by with_unfolding_all rfl) rfl rfl fun hZ sZ => ?_ | refine ndU 6 (by assumption) (by with_unfolding_all rfl) rfl rfl fun hZ sZ => ?_ | refine ndU 7 (by assumption) (by with_unfolding_all rfl) rfl rfl fun hZ sZ => ?_ | refine ndU 8 (by assumption) (by with_unfolding_all rfl) rfl rfl fun hZ sZ => ?_); dsimp only [List.set] at sZ) | (with_reducible first | refine iteF (by assumption) ?_ | refine iteT (by assumption) ?_ | refine iteF (by kernel_rfl) ?_ | refine iteT (by kernel_rfl) ?_))
  refine go (wpAny_of_eq (a := some "object.__new__") (by kernel_rfl) ?_)
  repeat (first | (with_reducible refine bindU ?_; intro FF qZ hqZ) | (with_reducible refine bindH' fun qZ hqZ => ?_) | (with_reducible first | refine wpAny_holding ?_ | refine stopA ?_ | refine stopC ?_ | refine stopB ?_ | refine stopM ?_ | refine stopW ?_ | refine stopN ?_ | refine stopT ?_ | refine stopS ?_ | refine stopK ?_ | refine stopG ?_ | refine ndF ?_) | (with_reducible refine tryH fun eZ => ?_) | (with_reducible first | refine nd_pure ?_ | refine nd_rule ?_ | refine nd_point ?_ | refine nd_ask ?_) | ((refine' (?_ : Sc _ _) (fun xZ => by k_node; (repeat (first | (with_reducible first | refine stopI ?_ | refine stopJ ?_ | refine stop1 ?_ | refine stop2 ?_ | refine stop3 ?_ | refine stop4 ?_ | refine stop5 ?_ | refine stop6 ?_ | refine stopA ?_ | refine stopC ?_ | refine stopB ?_ | refine stopM ?_ | refine stopW ?_ | refine stopN ?_ | refine stopT ?_ | refine stopS ?_ | refine stopK ?_ | refine stopG ?_) | k_node)); with_reducible first | exact go xZ.1 | exact xZ.1) ?_); exact fun _ x => x) | (with_reducible refine (by assumption : ∀ a s, _ → _) _ _ ?_) | (with_reducible first | refine Looks.here (by assumption) ?_ | refine wpAny_onRaise ?_ | refine lL 0 ?_ | refine lL 1 ?_ | refine lL 2 ?_ | refine lL 3 ?_ | refine lL 4 ?_ | refine lL 5 ?_ | refine lL 6 ?_ | refine lL 7 ?_ | refine lL 8 ?_) | ((with_reducible first | refine ndU 0 (by assumption) (by with_unfolding_all rfl) rfl rfl fun hZ sZ => ?_ | refine ndU 1 (by assumption) (by with_unfolding_all rfl) rfl rfl fun hZ sZ => ?_ | refine ndU 2 (by assumption) (by with_unfolding_all rfl) rfl rfl fun hZ sZ => ?_ | refine ndU 3 (by assumption) (by with_unfolding_all rfl) rfl rfl fun hZ sZ => ?_ | refine ndU 4 (by assumption) (by with_unfolding_all rfl) rfl rfl fun hZ sZ => ?_ | refine ndU 5 (by assumption) (by with_unfolding_all rfl) rfl rfl fun hZ sZ => ?_ | refine ndU 6 (by assumption) (by with_unfolding_all rfl) rfl rfl fun hZ sZ => ?_ | refine ndU 7 (by assumption) (by with_unfolding_all rfl) rfl rfl fun hZ sZ => ?_ | refine ndU 8 (by assumption) (by with_unfolding_all rfl) rfl rfl fun hZ sZ => ?_); dsimp only [List.set] at sZ) | (with_reducible first | refine iteF (by assumption) ?_ | refine iteT (by assumption) ?_ | refine iteF (by kernel_rfl) ?_ | refine iteT (by kernel_rfl) ?_))
  have S₂ := St.cast (own' := nC T F a D true [] [some (.builtin "object.__new__")] :: nDD H T F D [] 1 :: nT H T F P ep eSL own) (by assumption) (by kernel_rfl)
  refine go ((tlC (some (.builtin "object.__new__")) (S₂.lit 0 rfl) rfl (nsLit (S₂.lit 1 rfl) (by kernel_rfl)) (by kernel_rfl) (by kernel_rfl)).here ?_)
  repeat (first | (with_reducible refine bindU ?_; intro FF qZ hqZ) | (with_reducible refine bindH' fun qZ hqZ => ?_) | (with_reducible first | refine wpAny_holding ?_ | refine stopA ?_ | refine stopC ?_ | refine stopB ?_ | refine stopM ?_ | refine stopW ?_ | refine stopN ?_ | refine stopT ?_ | refine stopS ?_ | refine stopK ?_ | refine stopG ?_ | refine ndF ?_) | (with_reducible refine tryH fun eZ => ?_) | (with_reducible first | refine nd_pure ?_ | refine nd_rule ?_ | refine nd_point ?_ | refine nd_ask ?_) | ((refine' (?_ : Sc _ _) (fun xZ => by k_node; (repeat (first | (with_reducible first | refine stopI ?_ | refine stopJ ?_ | refine stop1 ?_ | refine stop2 ?_ | refine stop3 ?_ | refine stop4 ?_ | refine stop5 ?_ | refine stop6 ?_ | refine stopA ?_ | refine stopC ?_ | refine stopB ?_ | refine stopM ?_ | refine stopW ?_ | refine stopN ?_ | refine stopT ?_ | refine stopS ?_ | refine stopK ?_ | refine stopG ?_) | k_node)); with_reducible first | exact go xZ.1 | exact xZ.1) ?_); exact fun _ x => x) | (with_reducible refine (by assumption : ∀ a s, _ → _) _ _ ?_) | (with_reducible first | refine Looks.here (by assumption) ?_ | refine wpAny_onRaise ?_ | refine lL 0 ?_ | refine lL 1 ?_ | refine lL 2 ?_ | refine lL 3 ?_ | refine lL 4 ?_ | refine lL 5 ?_ | refine lL 6 ?_ | refine lL 7 ?_ | refine lL 8 ?_) | ((with_reducible first | refine ndU 0 (by assumption) (by with_unfolding_all rfl) rfl rfl fun hZ sZ => ?_ | refine ndU 1 (by assumption) (by with_unfolding_all rfl) rfl rfl fun hZ sZ => ?_ | refine ndU 2 (by assumption) (by with_unfolding_all rfl) rfl rfl fun hZ sZ => ?_ | refine ndU 3 (by assumption) (by with_unfolding_all rfl) rfl rfl fun hZ sZ => ?_ | refine ndU 4 (by assumption) (by with_unfolding_all rfl) rfl rfl fun hZ sZ => ?_ | refine ndU 5 (by assumption) (by with_unfolding_all rfl) rfl rfl fun hZ sZ => ?_ | refine ndU 6 (by assumption) (by with_unfolding_all rfl) rfl rfl fun hZ sZ => ?_ | refine ndU 7 (by assumption) (by with_unfolding_all rfl) rfl rfl fun hZ sZ => ?_ | refine ndU 8 (by assumption) (by with_unfolding_all rfl) rfl rfl fun hZ sZ => ?_); dsimp only [List.set] at sZ) | (with_reducible first | refine iteF (by assumption) ?_ | refine iteT (by assumption) ?_ | refine iteF (by kernel_rfl) ?_ | refine iteT (by kernel_rfl) ?_))
  refine go (ndA (by assumption) rfl fun MD h' S' nMD kM => ?_)
  have S₃ := St.cast (own' := nM a MD tk :: nC T F a D true [] [some (.builtin "object.__new__")] :: nDD H T F D [] 1 :: nT H T F P ep eSL own) (by assumption) (by kernel_rfl)
  repeat (first | (with_reducible refine bindU ?_; intro FF qZ hqZ) | (with_reducible refine bindH' fun qZ hqZ => ?_) | (with_reducible first | refine wpAny_holding ?_ | refine stopA ?_ | refine stopC ?_ | refine stopB ?_ | refine stopM ?_ | refine stopW ?_ | refine stopN ?_ | refine stopT ?_ | refine stopS ?_ | refine stopK ?_ | refine stopG ?_ | refine ndF ?_) | (with_reducible refine tryH fun eZ => ?_) | (with_reducible first | refine nd_pure ?_ | refine nd_rule ?_ | refine nd_point ?_ | refine nd_ask ?_) | ((refine' (?_ : Sc _ _) (fun xZ => by k_node; (repeat (first | (with_reducible first | refine stopI ?_ | refine stopJ ?_ | refine stop1 ?_ | refine stop2 ?_ | refine stop3 ?_ | refine stop4 ?_ | refine stop5 ?_ | refine stop6 ?_ | refine stopA ?_ | refine stopC ?_ | refine stopB ?_ | refine stopM ?_ | refine stopW ?_ | refine stopN ?_ | refine stopT ?_ | refine stopS ?_ | refine stopK ?_ | refine stopG ?_) | k_node)); with_reducible first | exact go xZ.1 | exact xZ.1) ?_); exact fun _ x => x) | (with_reducible refine (by assumption : ∀ a s, _ → _) _ _ ?_) | (with_reducible first | refine Looks.here (by assumption) ?_ | refine wpAny_onRaise ?_ | refine lL 0 ?_ | refine lL 1 ?_ | refine lL 2 ?_ | refine lL 3 ?_ | refine lL 4 ?_ | refine lL 5 ?_ | refine lL 6 ?_ | refine lL 7 ?_ | refine lL 8 ?_) | ((with_reducible first | refine ndU 0 (by assumption) (by with_unfolding_all rfl) rfl rfl fun hZ sZ => ?_ | refine ndU 1 (by assumption) (by with_unfolding_all rfl) rfl rfl fun hZ sZ => ?_ | refine ndU 2 (by assumption) (by with_unfolding_all rfl) rfl rfl fun hZ sZ => ?_ | refine ndU 3 (by assumption) (by with_unfolding_all rfl) rfl rfl fun hZ sZ => ?_ | refine ndU 4 (by assumption) (by with_unfolding_all rfl) rfl rfl fun hZ sZ => ?_ | refine ndU 5 (by assumption) (by with_unfolding_all rfl) rfl rfl fun hZ sZ => ?_ | refine ndU 6 (by assumption) (by with_unfolding_all rfl) rfl rfl fun hZ sZ => ?_ | refine ndU 7 (by assumption) (by with_unfolding_all rfl) rfl rfl fun hZ sZ => ?_ | refine ndU 8 (by assumption) (by with_unfolding_all rfl) rfl rfl fun hZ sZ => ?_); dsimp only [List.set] at sZ) | (with_reducible first | refine iteF (by assumption) ?_ | refine iteT (by assumption) ?_ | refine iteF (by kernel_rfl) ?_ | refine iteT (by kernel_rfl) ?_))
  have S₄ := St.cast (own' := nM a MD tk :: nC T F a D false ["obj"] [some (.builtin "object.__new__")] :: nDD H T F D [⟨PyData.keyHash w.params "obj", .str "obj" (tk + 1), .ref MD⟩] 2 :: nT H T F P ep eSL own) (by assumption) (by kernel_rfl)
  refine go (lbX 1 S₄ rfl (by kernel_rfl) ?_)
  repeat (first | (with_reducible refine bindU ?_; intro FF qZ hqZ) | (with_reducible refine bindH' fun qZ hqZ => ?_) | (with_reducible first | refine wpAny_holding ?_ | refine stopA ?_ | refine stopC ?_ | refine stopB ?_ | refine stopM ?_ | refine stopW ?_ | refine stopN ?_ | refine stopT ?_ | refine stopS ?_ | refine stopK ?_ | refine stopG ?_ | refine ndF ?_) | (with_reducible refine tryH fun eZ => ?_) | (with_reducible first | refine nd_pure ?_ | refine nd_rule ?_ | refine nd_point ?_ | refine nd_ask ?_) | ((refine' (?_ : Sc _ _) (fun xZ => by k_node; (repeat (first | (with_reducible first | refine stopI ?_ | refine stopJ ?_ | refine stop1 ?_ | refine stop2 ?_ | refine stop3 ?_ | refine stop4 ?_ | refine stop5 ?_ | refine stop6 ?_ | refine stopA ?_ | refine stopC ?_ | refine stopB ?_ | refine stopM ?_ | refine stopW ?_ | refine stopN ?_ | refine stopT ?_ | refine stopS ?_ | refine stopK ?_ | refine stopG ?_) | k_node)); with_reducible first | exact go xZ.1 | exact xZ.1) ?_); exact fun _ x => x) | (with_reducible refine (by assumption : ∀ a s, _ → _) _ _ ?_) | (with_reducible first | refine Looks.here (by assumption) ?_ | refine wpAny_onRaise ?_ | refine lL 0 ?_ | refine lL 1 ?_ | refine lL 2 ?_ | refine lL 3 ?_ | refine lL 4 ?_ | refine lL 5 ?_ | refine lL 6 ?_ | refine lL 7 ?_ | refine lL 8 ?_) | ((with_reducible first | refine ndU 0 (by assumption) (by with_unfolding_all rfl) rfl rfl fun hZ sZ => ?_ | refine ndU 1 (by assumption) (by with_unfolding_all rfl) rfl rfl fun hZ sZ => ?_ | refine ndU 2 (by assumption) (by with_unfolding_all rfl) rfl rfl fun hZ sZ => ?_ | refine ndU 3 (by assumption) (by with_unfolding_all rfl) rfl rfl fun hZ sZ => ?_ | refine ndU 4 (by assumption) (by with_unfolding_all rfl) rfl rfl fun hZ sZ => ?_ | refine ndU 5 (by assumption) (by with_unfolding_all rfl) rfl rfl fun hZ sZ => ?_ | refine ndU 6 (by assumption) (by with_unfolding_all rfl) rfl rfl fun hZ sZ => ?_ | refine ndU 7 (by assumption) (by with_unfolding_all rfl) rfl rfl fun hZ sZ => ?_ | refine ndU 8 (by assumption) (by with_unfolding_all rfl) rfl rfl fun hZ sZ => ?_); dsimp only [List.set] at sZ) | (with_reducible first | refine iteF (by assumption) ?_ | refine iteT (by assumption) ?_ | refine iteF (by kernel_rfl) ?_ | refine iteT (by kernel_rfl) ?_))
  refine go (wpAny_of_eq (a := false) (by kernel_rfl) ?_)
  repeat (first | (with_reducible refine bindU ?_; intro FF qZ hqZ) | (with_reducible refine bindH' fun qZ hqZ => ?_) | (with_reducible first | refine wpAny_holding ?_ | refine stopA ?_ | refine stopC ?_ | refine stopB ?_ | refine stopM ?_ | refine stopW ?_ | refine stopN ?_ | refine stopT ?_ | refine stopS ?_ | refine stopK ?_ | refine stopG ?_ | refine ndF ?_) | (with_reducible refine tryH fun eZ => ?_) | (with_reducible first | refine nd_pure ?_ | refine nd_rule ?_ | refine nd_point ?_ | refine nd_ask ?_) | ((refine' (?_ : Sc _ _) (fun xZ => by k_node; (repeat (first | (with_reducible first | refine stopI ?_ | refine stopJ ?_ | refine stop1 ?_ | refine stop2 ?_ | refine stop3 ?_ | refine stop4 ?_ | refine stop5 ?_ | refine stop6 ?_ | refine stopA ?_ | refine stopC ?_ | refine stopB ?_ | refine stopM ?_ | refine stopW ?_ | refine stopN ?_ | refine stopT ?_ | refine stopS ?_ | refine stopK ?_ | refine stopG ?_) | k_node)); with_reducible first | exact go xZ.1 | exact xZ.1) ?_); exact fun _ x => x) | (with_reducible refine (by assumption : ∀ a s, _ → _) _ _ ?_) | (with_reducible first | refine Looks.here (by assumption) ?_ | refine wpAny_onRaise ?_ | refine lL 0 ?_ | refine lL 1 ?_ | refine lL 2 ?_ | refine lL 3 ?_ | refine lL 4 ?_ | refine lL 5 ?_ | refine lL 6 ?_ | refine lL 7 ?_ | refine lL 8 ?_) | ((with_reducible first | refine ndU 0 (by assumption) (by with_unfolding_all rfl) rfl rfl fun hZ sZ => ?_ | refine ndU 1 (by assumption) (by with_unfolding_all rfl) rfl rfl fun hZ sZ => ?_ | refine ndU 2 (by assumption) (by with_unfolding_all rfl) rfl rfl fun hZ sZ => ?_ | refine ndU 3 (by assumption) (by with_unfolding_all rfl) rfl rfl fun hZ sZ => ?_ | refine ndU 4 (by assumption) (by with_unfolding_all rfl) rfl rfl fun hZ sZ => ?_ | refine ndU 5 (by assumption) (by with_unfolding_all rfl) rfl rfl fun hZ sZ => ?_ | refine ndU 6 (by assumption) (by with_unfolding_all rfl) rfl rfl fun hZ sZ => ?_ | refine ndU 7 (by assumption) (by with_unfolding_all rfl) rfl rfl fun hZ sZ => ?_ | refine ndU 8 (by assumption) (by with_unfolding_all rfl) rfl rfl fun hZ sZ => ?_); dsimp only [List.set] at sZ) | (with_reducible first | refine iteF (by assumption) ?_ | refine iteT (by assumption) ?_ | refine iteF (by kernel_rfl) ?_ | refine iteT (by kernel_rfl) ?_))
  refine go (wpAny_of_eq (a := ()) (by kernel_rfl) ?_)
  have S₅ := St.cast (own' := nM a MD tk :: nC T F a D false ["obj"] [some (.builtin "object.__new__"), some (.bool false)] :: nDD H T F D [⟨PyData.keyHash w.params "obj", .str "obj" (tk + 1), .ref MD⟩, ⟨PyData.keyHash w.params "__doc__", .str "__doc__" (tk + 1 + 1), .none⟩] 3 :: nT H T F P ep eSL own) (by assumption) (by kernel_rfl)
  repeat (first | (with_reducible refine bindU ?_; intro FF qZ hqZ) | (with_reducible refine bindH' fun qZ hqZ => ?_) | (with_reducible first | refine wpAny_holding ?_ | refine stopA ?_ | refine stopC ?_ | refine stopB ?_ | refine stopM ?_ | refine stopW ?_ | refine stopN ?_ | refine stopT ?_ | refine stopS ?_ | refine stopK ?_ | refine stopG ?_ | refine ndF ?_) | (with_reducible refine tryH fun eZ => ?_) | (with_reducible first | refine nd_pure ?_ | refine nd_rule ?_ | refine nd_point ?_ | refine nd_ask ?_) | ((refine' (?_ : Sc _ _) (fun xZ => by k_node; (repeat (first | (with_reducible first | refine stopI ?_ | refine stopJ ?_ | refine stop1 ?_ | refine stop2 ?_ | refine stop3 ?_ | refine stop4 ?_ | refine stop5 ?_ | refine stop6 ?_ | refine stopA ?_ | refine stopC ?_ | refine stopB ?_ | refine stopM ?_ | refine stopW ?_ | refine stopN ?_ | refine stopT ?_ | refine stopS ?_ | refine stopK ?_ | refine stopG ?_) | k_node)); with_reducible first | exact go xZ.1 | exact xZ.1) ?_); exact fun _ x => x) | (with_reducible refine (by assumption : ∀ a s, _ → _) _ _ ?_) | (with_reducible first | refine Looks.here (by assumption) ?_ | refine wpAny_onRaise ?_ | refine lL 0 ?_ | refine lL 1 ?_ | refine lL 2 ?_ | refine lL 3 ?_ | refine lL 4 ?_ | refine lL 5 ?_ | refine lL 6 ?_ | refine lL 7 ?_ | refine lL 8 ?_) | ((with_reducible first | refine ndU 0 (by assumption) (by with_unfolding_all rfl) rfl rfl fun hZ sZ => ?_ | refine ndU 1 (by assumption) (by with_unfolding_all rfl) rfl rfl fun hZ sZ => ?_ | refine ndU 2 (by assumption) (by with_unfolding_all rfl) rfl rfl fun hZ sZ => ?_ | refine ndU 3 (by assumption) (by with_unfolding_all rfl) rfl rfl fun hZ sZ => ?_ | refine ndU 4 (by assumption) (by with_unfolding_all rfl) rfl rfl fun hZ sZ => ?_ | refine ndU 5 (by assumption) (by with_unfolding_all rfl) rfl rfl fun hZ sZ => ?_ | refine ndU 6 (by assumption) (by with_unfolding_all rfl) rfl rfl fun hZ sZ => ?_ | refine ndU 7 (by assumption) (by with_unfolding_all rfl) rfl rfl fun hZ sZ => ?_ | refine ndU 8 (by assumption) (by with_unfolding_all rfl) rfl rfl fun hZ sZ => ?_); dsimp only [List.set] at sZ) | (with_reducible first | refine iteF (by assumption) ?_ | refine iteT (by assumption) ?_ | refine iteF (by kernel_rfl) ?_ | refine iteT (by kernel_rfl) ?_))
  refine go (spV (r := none) "str" (by with_unfolding_all rfl) (by kernel_rfl) ?_)
  repeat (first | (with_reducible refine bindU ?_; intro FF qZ hqZ) | (with_reducible refine bindH' fun qZ hqZ => ?_) | (with_reducible first | refine wpAny_holding ?_ | refine stopA ?_ | refine stopC ?_ | refine stopB ?_ | refine stopM ?_ | refine stopW ?_ | refine stopN ?_ | refine stopT ?_ | refine stopS ?_ | refine stopK ?_ | refine stopG ?_ | refine ndF ?_) | (with_reducible refine tryH fun eZ => ?_) | (with_reducible first | refine nd_pure ?_ | refine nd_rule ?_ | refine nd_point ?_ | refine nd_ask ?_) | ((refine' (?_ : Sc _ _) (fun xZ => by k_node; (repeat (first | (with_reducible first | refine stopI ?_ | refine stopJ ?_ | refine stop1 ?_ | refine stop2 ?_ | refine stop3 ?_ | refine stop4 ?_ | refine stop5 ?_ | refine stop6 ?_ | refine stopA ?_ | refine stopC ?_ | refine stopB ?_ | refine stopM ?_ | refine stopW ?_ | refine stopN ?_ | refine stopT ?_ | refine stopS ?_ | refine stopK ?_ | refine stopG ?_) | k_node)); with_reducible first | exact go xZ.1 | exact xZ.1) ?_); exact fun _ x => x) | (with_reducible refine (by assumption : ∀ a s, _ → _) _ _ ?_) | (with_reducible first | refine Looks.here (by assumption) ?_ | refine wpAny_onRaise ?_ | refine lL 0 ?_ | refine lL 1 ?_ | refine lL 2 ?_ | refine lL 3 ?_ | refine lL 4 ?_ | refine lL 5 ?_ | refine lL 6 ?_ | refine lL 7 ?_ | refine lL 8 ?_) | ((with_reducible first | refine ndU 0 (by assumption) (by with_unfolding_all rfl) rfl rfl fun hZ sZ => ?_ | refine ndU 1 (by assumption) (by with_unfolding_all rfl) rfl rfl fun hZ sZ => ?_ | refine ndU 2 (by assumption) (by with_unfolding_all rfl) rfl rfl fun hZ sZ => ?_ | refine ndU 3 (by assumption) (by with_unfolding_all rfl) rfl rfl fun hZ sZ => ?_ | refine ndU 4 (by assumption) (by with_unfolding_all rfl) rfl rfl fun hZ sZ => ?_ | refine ndU 5 (by assumption) (by with_unfolding_all rfl) rfl rfl fun hZ sZ => ?_ | refine ndU 6 (by assumption) (by with_unfolding_all rfl) rfl rfl fun hZ sZ => ?_ | refine ndU 7 (by assumption) (by with_unfolding_all rfl) rfl rfl fun hZ sZ => ?_ | refine ndU 8 (by assumption) (by with_unfolding_all rfl) rfl rfl fun hZ sZ => ?_); dsimp only [List.set] at sZ) | (with_reducible first | refine iteF (by assumption) ?_ | refine iteT (by assumption) ?_ | refine iteF (by kernel_rfl) ?_ | refine iteT (by kernel_rfl) ?_))
  refine go (spV (r := none) "int" (by with_unfolding_all rfl) (by kernel_rfl) ?_)
  repeat (first | (with_reducible refine bindU ?_; intro FF qZ hqZ) | (with_reducible refine bindH' fun qZ hqZ => ?_) | (with_reducible first | refine wpAny_holding ?_ | refine stopA ?_ | refine stopC ?_ | refine stopB ?_ | refine stopM ?_ | refine stopW ?_ | refine stopN ?_ | refine stopT ?_ | refine stopS ?_ | refine stopK ?_ | refine stopG ?_ | refine ndF ?_) | (with_reducible refine tryH fun eZ => ?_) | (with_reducible first | refine nd_pure ?_ | refine nd_rule ?_ | refine nd_point ?_ | refine nd_ask ?_) | ((refine' (?_ : Sc _ _) (fun xZ => by k_node; (repeat (first | (with_reducible first | refine stopI ?_ | refine stopJ ?_ | refine stop1 ?_ | refine stop2 ?_ | refine stop3 ?_ | refine stop4 ?_ | refine stop5 ?_ | refine stop6 ?_ | refine stopA ?_ | refine stopC ?_ | refine stopB ?_ | refine stopM ?_ | refine stopW ?_ | refine stopN ?_ | refine stopT ?_ | refine stopS ?_ | refine stopK ?_ | refine stopG ?_) | k_node)); with_reducible first | exact go xZ.1 | exact xZ.1) ?_); exact fun _ x => x) | (with_reducible refine (by assumption : ∀ a s, _ → _) _ _ ?_) | (with_reducible first | refine Looks.here (by assumption) ?_ | refine wpAny_onRaise ?_ | refine lL 0 ?_ | refine lL 1 ?_ | refine lL 2 ?_ | refine lL 3 ?_ | refine lL 4 ?_ | refine lL 5 ?_ | refine lL 6 ?_ | refine lL 7 ?_ | refine lL 8 ?_) | ((with_reducible first | refine ndU 0 (by assumption) (by with_unfolding_all rfl) rfl rfl fun hZ sZ => ?_ | refine ndU 1 (by assumption) (by with_unfolding_all rfl) rfl rfl fun hZ sZ => ?_ | refine ndU 2 (by assumption) (by with_unfolding_all rfl) rfl rfl fun hZ sZ => ?_ | refine ndU 3 (by assumption) (by with_unfolding_all rfl) rfl rfl fun hZ sZ => ?_ | refine ndU 4 (by assumption) (by with_unfolding_all rfl) rfl rfl fun hZ sZ => ?_ | refine ndU 5 (by assumption) (by with_unfolding_all rfl) rfl rfl fun hZ sZ => ?_ | refine ndU 6 (by assumption) (by with_unfolding_all rfl) rfl rfl fun hZ sZ => ?_ | refine ndU 7 (by assumption) (by with_unfolding_all rfl) rfl rfl fun hZ sZ => ?_ | refine ndU 8 (by assumption) (by with_unfolding_all rfl) rfl rfl fun hZ sZ => ?_); dsimp only [List.set] at sZ) | (with_reducible first | refine iteF (by assumption) ?_ | refine iteT (by assumption) ?_ | refine iteF (by kernel_rfl) ?_ | refine iteT (by kernel_rfl) ?_))
  refine go (spL (r := none) "list" 5 S₅ rfl rfl (by with_unfolding_all rfl) (by kernel_rfl) ?_)
  repeat (first | (with_reducible refine bindU ?_; intro FF qZ hqZ) | (with_reducible refine bindH' fun qZ hqZ => ?_) | (with_reducible first | refine wpAny_holding ?_ | refine stopA ?_ | refine stopC ?_ | refine stopB ?_ | refine stopM ?_ | refine stopW ?_ | refine stopN ?_ | refine stopT ?_ | refine stopS ?_ | refine stopK ?_ | refine stopG ?_ | refine ndF ?_) | (with_reducible refine tryH fun eZ => ?_) | (with_reducible first | refine nd_pure ?_ | refine nd_rule ?_ | refine nd_point ?_ | refine nd_ask ?_) | ((refine' (?_ : Sc _ _) (fun xZ => by k_node; (repeat (first | (with_reducible first | refine stopI ?_ | refine stopJ ?_ | refine stop1 ?_ | refine stop2 ?_ | refine stop3 ?_ | refine stop4 ?_ | refine stop5 ?_ | refine stop6 ?_ | refine stopA ?_ | refine stopC ?_ | refine stopB ?_ | refine stopM ?_ | refine stopW ?_ | refine stopN ?_ | refine stopT ?_ | refine stopS ?_ | refine stopK ?_ | refine stopG ?_) | k_node)); with_reducible first | exact go xZ.1 | exact xZ.1) ?_); exact fun _ x => x) | (with_reducible refine (by assumption : ∀ a s, _ → _) _ _ ?_) | (with_reducible first | refine Looks.here (by assumption) ?_ | refine wpAny_onRaise ?_ | refine lL 0 ?_ | refine lL 1 ?_ | refine lL 2 ?_ | refine lL 3 ?_ | refine lL 4 ?_ | refine lL 5 ?_ | refine lL 6 ?_ | refine lL 7 ?_ | refine lL 8 ?_) | ((with_reducible first | refine ndU 0 (by assumption) (by with_unfolding_all rfl) rfl rfl fun hZ sZ => ?_ | refine ndU 1 (by assumption) (by with_unfolding_all rfl) rfl rfl fun hZ sZ => ?_ | refine ndU 2 (by assumption) (by with_unfolding_all rfl) rfl rfl fun hZ sZ => ?_ | refine ndU 3 (by assumption) (by with_unfolding_all rfl) rfl rfl fun hZ sZ => ?_ | refine ndU 4 (by assumption) (by with_unfolding_all rfl) rfl rfl fun hZ sZ => ?_ | refine ndU 5 (by assumption) (by with_unfolding_all rfl) rfl rfl fun hZ sZ => ?_ | refine ndU 6 (by assumption) (by with_unfolding_all rfl) rfl rfl fun hZ sZ => ?_ | refine ndU 7 (by assumption) (by with_unfolding_all rfl) rfl rfl fun hZ sZ => ?_ | refine ndU 8 (by assumption) (by with_unfolding_all rfl) rfl rfl fun hZ sZ => ?_); dsimp only [List.set] at sZ) | (with_reducible first | refine iteF (by assumption) ?_ | refine iteT (by assumption) ?_ | refine iteF (by kernel_rfl) ?_ | refine iteT (by kernel_rfl) ?_))
  refine go (spF (r := none) 7 S₅ rfl (by with_unfolding_all rfl) (by kernel_rfl) ?_)
  repeat (first | (with_reducible refine bindU ?_; intro FF qZ hqZ) | (with_reducible refine bindH' fun qZ hqZ => ?_) | (with_reducible first | refine wpAny_holding ?_ | refine stopA ?_ | refine stopC ?_ | refine stopB ?_ | refine stopM ?_ | refine stopW ?_ | refine stopN ?_ | refine stopT ?_ | refine stopS ?_ | refine stopK ?_ | refine stopG ?_ | refine ndF ?_) | (with_reducible refine tryH fun eZ => ?_) | (with_reducible first | refine nd_pure ?_ | refine nd_rule ?_ | refine nd_point ?_ | refine nd_ask ?_) | ((refine' (?_ : Sc _ _) (fun xZ => by k_node; (repeat (first | (with_reducible first | refine stopI ?_ | refine stopJ ?_ | refine stop1 ?_ | refine stop2 ?_ | refine stop3 ?_ | refine stop4 ?_ | refine stop5 ?_ | refine stop6 ?_ | refine stopA ?_ | refine stopC ?_ | refine stopB ?_ | refine stopM ?_ | refine stopW ?_ | refine stopN ?_ | refine stopT ?_ | refine stopS ?_ | refine stopK ?_ | refine stopG ?_) | k_node)); with_reducible first | exact go xZ.1 | exact xZ.1) ?_); exact fun _ x => x) | (with_reducible refine (by assumption : ∀ a s, _ → _) _ _ ?_) | (with_reducible first | refine Looks.here (by assumption) ?_ | refine wpAny_onRaise ?_ | refine lL 0 ?_ | refine lL 1 ?_ | refine lL 2 ?_ | refine lL 3 ?_ | refine lL 4 ?_ | refine lL 5 ?_ | refine lL 6 ?_ | refine lL 7 ?_ | refine lL 8 ?_) | ((with_reducible first | refine ndU 0 (by assumption) (by with_unfolding_all rfl) rfl rfl fun hZ sZ => ?_ | refine ndU 1 (by assumption) (by with_unfolding_all rfl) rfl rfl fun hZ sZ => ?_ | refine ndU 2 (by assumption) (by with_unfolding_all rfl) rfl rfl fun hZ sZ => ?_ | refine ndU 3 (by assumption) (by with_unfolding_all rfl) rfl rfl fun hZ sZ => ?_ | refine ndU 4 (by assumption) (by with_unfolding_all rfl) rfl rfl fun hZ sZ => ?_ | refine ndU 5 (by assumption) (by with_unfolding_all rfl) rfl rfl fun hZ sZ => ?_ | refine ndU 6 (by assumption) (by with_unfolding_all rfl) rfl rfl fun hZ sZ => ?_ | refine ndU 7 (by assumption) (by with_unfolding_all rfl) rfl rfl fun hZ sZ => ?_ | refine ndU 8 (by assumption) (by with_unfolding_all rfl) rfl rfl fun hZ sZ => ?_); dsimp only [List.set] at sZ) | (with_reducible first | refine iteF (by assumption) ?_ | refine iteT (by assumption) ?_ | refine iteF (by kernel_rfl) ?_ | refine iteT (by kernel_rfl) ?_))
  refine go (spF (r := none) 8 S₅ rfl (by with_unfolding_all rfl) (by kernel_rfl) ?_)
  repeat (first | (with_reducible refine bindU ?_; intro FF qZ hqZ) | (with_reducible refine bindH' fun qZ hqZ => ?_) | (with_reducible first | refine wpAny_holding ?_ | refine stopA ?_ | refine stopC ?_ | refine stopB ?_ | refine stopM ?_ | refine stopW ?_ | refine stopN ?_ | refine stopT ?_ | refine stopS ?_ | refine stopK ?_ | refine stopG ?_ | refine ndF ?_) | (with_reducible refine tryH fun eZ => ?_) | (with_reducible first | refine nd_pure ?_ | refine nd_rule ?_ | refine nd_point ?_ | refine nd_ask ?_) | ((refine' (?_ : Sc _ _) (fun xZ => by k_node; (repeat (first | (with_reducible first | refine stopI ?_ | refine stopJ ?_ | refine stop1 ?_ | refine stop2 ?_ | refine stop3 ?_ | refine stop4 ?_ | refine stop5 ?_ | refine stop6 ?_ | refine stopA ?_ | refine stopC ?_ | refine stopB ?_ | refine stopM ?_ | refine stopW ?_ | refine stopN ?_ | refine stopT ?_ | refine stopS ?_ | refine stopK ?_ | refine stopG ?_) | k_node)); with_reducible first | exact go xZ.1 | exact xZ.1) ?_); exact fun _ x => x) | (with_reducible refine (by assumption : ∀ a s, _ → _) _ _ ?_) | (with_reducible first | refine Looks.here (by assumption) ?_ | refine wpAny_onRaise ?_ | refine lL 0 ?_ | refine lL 1 ?_ | refine lL 2 ?_ | refine lL 3 ?_ | refine lL 4 ?_ | refine lL 5 ?_ | refine lL 6 ?_ | refine lL 7 ?_ | refine lL 8 ?_) | ((with_reducible first | refine ndU 0 (by assumption) (by with_unfolding_all rfl) rfl rfl fun hZ sZ => ?_ | refine ndU 1 (by assumption) (by with_unfolding_all rfl) rfl rfl fun hZ sZ => ?_ | refine ndU 2 (by assumption) (by with_unfolding_all rfl) rfl rfl fun hZ sZ => ?_ | refine ndU 3 (by assumption) (by with_unfolding_all rfl) rfl rfl fun hZ sZ => ?_ | refine ndU 4 (by assumption) (by with_unfolding_all rfl) rfl rfl fun hZ sZ => ?_ | refine ndU 5 (by assumption) (by with_unfolding_all rfl) rfl rfl fun hZ sZ => ?_ | refine ndU 6 (by assumption) (by with_unfolding_all rfl) rfl rfl fun hZ sZ => ?_ | refine ndU 7 (by assumption) (by with_unfolding_all rfl) rfl rfl fun hZ sZ => ?_ | refine ndU 8 (by assumption) (by with_unfolding_all rfl) rfl rfl fun hZ sZ => ?_); dsimp only [List.set] at sZ) | (with_reducible first | refine iteF (by assumption) ?_ | refine iteT (by assumption) ?_ | refine iteF (by kernel_rfl) ?_ | refine iteT (by kernel_rfl) ?_))
  refine go (spF (r := none) 9 S₅ rfl (by with_unfolding_all rfl) (by kernel_rfl) ?_)
  repeat (first | (with_reducible refine bindU ?_; intro FF qZ hqZ) | (with_reducible refine bindH' fun qZ hqZ => ?_) | (with_reducible first | refine wpAny_holding ?_ | refine stopA ?_ | refine stopC ?_ | refine stopB ?_ | refine stopM ?_ | refine stopW ?_ | refine stopN ?_ | refine stopT ?_ | refine stopS ?_ | refine stopK ?_ | refine stopG ?_ | refine ndF ?_) | (with_reducible refine tryH fun eZ => ?_) | (with_reducible first | refine nd_pure ?_ | refine nd_rule ?_ | refine nd_point ?_ | refine nd_ask ?_) | ((refine' (?_ : Sc _ _) (fun xZ => by k_node; (repeat (first | (with_reducible first | refine stopI ?_ | refine stopJ ?_ | refine stop1 ?_ | refine stop2 ?_ | refine stop3 ?_ | refine stop4 ?_ | refine stop5 ?_ | refine stop6 ?_ | refine stopA ?_ | refine stopC ?_ | refine stopB ?_ | refine stopM ?_ | refine stopW ?_ | refine stopN ?_ | refine stopT ?_ | refine stopS ?_ | refine stopK ?_ | refine stopG ?_) | k_node)); with_reducible first | exact go xZ.1 | exact xZ.1) ?_); exact fun _ x => x) | (with_reducible refine (by assumption : ∀ a s, _ → _) _ _ ?_) | (with_reducible first | refine Looks.here (by assumption) ?_ | refine wpAny_onRaise ?_ | refine lL 0 ?_ | refine lL 1 ?_ | refine lL 2 ?_ | refine lL 3 ?_ | refine lL 4 ?_ | refine lL 5 ?_ | refine lL 6 ?_ | refine lL 7 ?_ | refine lL 8 ?_) | ((with_reducible first | refine ndU 0 (by assumption) (by with_unfolding_all rfl) rfl rfl fun hZ sZ => ?_ | refine ndU 1 (by assumption) (by with_unfolding_all rfl) rfl rfl fun hZ sZ => ?_ | refine ndU 2 (by assumption) (by with_unfolding_all rfl) rfl rfl fun hZ sZ => ?_ | refine ndU 3 (by assumption) (by with_unfolding_all rfl) rfl rfl fun hZ sZ => ?_ | refine ndU 4 (by assumption) (by with_unfolding_all rfl) rfl rfl fun hZ sZ => ?_ | refine ndU 5 (by assumption) (by with_unfolding_all rfl) rfl rfl fun hZ sZ => ?_ | refine ndU 6 (by assumption) (by with_unfolding_all rfl) rfl rfl fun hZ sZ => ?_ | refine ndU 7 (by assumption) (by with_unfolding_all rfl) rfl rfl fun hZ sZ => ?_ | refine ndU 8 (by assumption) (by with_unfolding_all rfl) rfl rfl fun hZ sZ => ?_); dsimp only [List.set] at sZ) | (with_reducible first | refine iteF (by assumption) ?_ | refine iteT (by assumption) ?_ | refine iteF (by kernel_rfl) ?_ | refine iteT (by kernel_rfl) ?_))
  refine go (spF (r := none) 10 S₅ rfl (by with_unfolding_all rfl) (by kernel_rfl) ?_)
  repeat (first | (with_reducible refine bindU ?_; intro FF qZ hqZ) | (with_reducible refine bindH' fun qZ hqZ => ?_) | (with_reducible first | refine wpAny_holding ?_ | refine stopA ?_ | refine stopC ?_ | refine stopB ?_ | refine stopM ?_ | refine stopW ?_ | refine stopN ?_ | refine stopT ?_ | refine stopS ?_ | refine stopK ?_ | refine stopG ?_ | refine ndF ?_) | (with_reducible refine tryH fun eZ => ?_) | (with_reducible first | refine nd_pure ?_ | refine nd_rule ?_ | refine nd_point ?_ | refine nd_ask ?_) | ((refine' (?_ : Sc _ _) (fun xZ => by k_node; (repeat (first | (with_reducible first | refine stopI ?_ | refine stopJ ?_ | refine stop1 ?_ | refine stop2 ?_ | refine stop3 ?_ | refine stop4 ?_ | refine stop5 ?_ | refine stop6 ?_ | refine stopA ?_ | refine stopC ?_ | refine stopB ?_ | refine stopM ?_ | refine stopW ?_ | refine stopN ?_ | refine stopT ?_ | refine stopS ?_ | refine stopK ?_ | refine stopG ?_) | k_node)); with_reducible first | exact go xZ.1 | exact xZ.1) ?_); exact fun _ x => x) | (with_reducible refine (by assumption : ∀ a s, _ → _) _ _ ?_) | (with_reducible first | refine Looks.here (by assumption) ?_ | refine wpAny_onRaise ?_ | refine lL 0 ?_ | refine lL 1 ?_ | refine lL 2 ?_ | refine lL 3 ?_ | refine lL 4 ?_ | refine lL 5 ?_ | refine lL 6 ?_ | refine lL 7 ?_ | refine lL 8 ?_) | ((with_reducible first | refine ndU 0 (by assumption) (by with_unfolding_all rfl) rfl rfl fun hZ sZ => ?_ | refine ndU 1 (by assumption) (by with_unfolding_all rfl) rfl rfl fun hZ sZ => ?_ | refine ndU 2 (by assumption) (by with_unfolding_all rfl) rfl rfl fun hZ sZ => ?_ | refine ndU 3 (by assumption) (by with_unfolding_all rfl) rfl rfl fun hZ sZ => ?_ | refine ndU 4 (by assumption) (by with_unfolding_all rfl) rfl rfl fun hZ sZ => ?_ | refine ndU 5 (by assumption) (by with_unfolding_all rfl) rfl rfl fun hZ sZ => ?_ | refine ndU 6 (by assumption) (by with_unfolding_all rfl) rfl rfl fun hZ sZ => ?_ | refine ndU 7 (by assumption) (by with_unfolding_all rfl) rfl rfl fun hZ sZ => ?_ | refine ndU 8 (by assumption) (by with_unfolding_all rfl) rfl rfl fun hZ sZ => ?_); dsimp only [List.set] at sZ) | (with_reducible first | refine iteF (by assumption) ?_ | refine iteT (by assumption) ?_ | refine iteF (by kernel_rfl) ?_ | refine iteT (by kernel_rfl) ?_))
  refine go (spF (r := none) 11 S₅ rfl (by with_unfolding_all rfl) (by kernel_rfl) ?_)
  repeat (first | (with_reducible refine bindU ?_; intro FF qZ hqZ) | (with_reducible refine bindH' fun qZ hqZ => ?_) | (with_reducible first | refine wpAny_holding ?_ | refine stopA ?_ | refine stopC ?_ | refine stopB ?_ | refine stopM ?_ | refine stopW ?_ | refine stopN ?_ | refine stopT ?_ | refine stopS ?_ | refine stopK ?_ | refine stopG ?_ | refine ndF ?_) | (with_reducible refine tryH fun eZ => ?_) | (with_reducible first | refine nd_pure ?_ | refine nd_rule ?_ | refine nd_point ?_ | refine nd_ask ?_) | ((refine' (?_ : Sc _ _) (fun xZ => by k_node; (repeat (first | (with_reducible first | refine stopI ?_ | refine stopJ ?_ | refine stop1 ?_ | refine stop2 ?_ | refine stop3 ?_ | refine stop4 ?_ | refine stop5 ?_ | refine stop6 ?_ | refine stopA ?_ | refine stopC ?_ | refine stopB ?_ | refine stopM ?_ | refine stopW ?_ | refine stopN ?_ | refine stopT ?_ | refine stopS ?_ | refine stopK ?_ | refine stopG ?_) | k_node)); with_reducible first | exact go xZ.1 | exact xZ.1) ?_); exact fun _ x => x) | (with_reducible refine (by assumption : ∀ a s, _ → _) _ _ ?_) | (with_reducible first | refine Looks.here (by assumption) ?_ | refine wpAny_onRaise ?_ | refine lL 0 ?_ | refine lL 1 ?_ | refine lL 2 ?_ | refine lL 3 ?_ | refine lL 4 ?_ | refine lL 5 ?_ | refine lL 6 ?_ | refine lL 7 ?_ | refine lL 8 ?_) | ((with_reducible first | refine ndU 0 (by assumption) (by with_unfolding_all rfl) rfl rfl fun hZ sZ => ?_ | refine ndU 1 (by assumption) (by with_unfolding_all rfl) rfl rfl fun hZ sZ => ?_ | refine ndU 2 (by assumption) (by with_unfolding_all rfl) rfl rfl fun hZ sZ => ?_ | refine ndU 3 (by assumption) (by with_unfolding_all rfl) rfl rfl fun hZ sZ => ?_ | refine ndU 4 (by assumption) (by with_unfolding_all rfl) rfl rfl fun hZ sZ => ?_ | refine ndU 5 (by assumption) (by with_unfolding_all rfl) rfl rfl fun hZ sZ => ?_ | refine ndU 6 (by assumption) (by with_unfolding_all rfl) rfl rfl fun hZ sZ => ?_ | refine ndU 7 (by assumption) (by with_unfolding_all rfl) rfl rfl fun hZ sZ => ?_ | refine ndU 8 (by assumption) (by with_unfolding_all rfl) rfl rfl fun hZ sZ => ?_); dsimp only [List.set] at sZ) | (with_reducible first | refine iteF (by assumption) ?_ | refine iteT (by assumption) ?_ | refine iteF (by kernel_rfl) ?_ | refine iteT (by kernel_rfl) ?_))
  refine go (spF (r := none) 12 S₅ rfl (by with_unfolding_all rfl) (by kernel_rfl) ?_)
  repeat (first | (with_reducible refine bindU ?_; intro FF qZ hqZ) | (with_reducible refine bindH' fun qZ hqZ => ?_) | (with_reducible first | refine wpAny_holding ?_ | refine stopA ?_ | refine stopC ?_ | refine stopB ?_ | refine stopM ?_ | refine stopW ?_ | refine stopN ?_ | refine stopT ?_ | refine stopS ?_ | refine stopK ?_ | refine stopG ?_ | refine ndF ?_) | (with_reducible refine tryH fun eZ => ?_) | (with_reducible first | refine nd_pure ?_ | refine nd_rule ?_ | refine nd_point ?_ | refine nd_ask ?_) | ((refine' (?_ : Sc _ _) (fun xZ => by k_node; (repeat (first | (with_reducible first | refine stopI ?_ | refine stopJ ?_ | refine stop1 ?_ | refine stop2 ?_ | refine stop3 ?_ | refine stop4 ?_ | refine stop5 ?_ | refine stop6 ?_ | refine stopA ?_ | refine stopC ?_ | refine stopB ?_ | refine stopM ?_ | refine stopW ?_ | refine stopN ?_ | refine stopT ?_ | refine stopS ?_ | refine stopK ?_ | refine stopG ?_) | k_node)); with_reducible first | exact go xZ.1 | exact xZ.1) ?_); exact fun _ x => x) | (with_reducible refine (by assumption : ∀ a s, _ → _) _ _ ?_) | (with_reducible first | refine Looks.here (by assumption) ?_ | refine wpAny_onRaise ?_ | refine lL 0 ?_ | refine lL 1 ?_ | refine lL 2 ?_ | refine lL 3 ?_ | refine lL 4 ?_ | refine lL 5 ?_ | refine lL 6 ?_ | refine lL 7 ?_ | refine lL 8 ?_) | ((with_reducible first | refine ndU 0 (by assumption) (by with_unfolding_all rfl) rfl rfl fun hZ sZ => ?_ | refine ndU 1 (by assumption) (by with_unfolding_all rfl) rfl rfl fun hZ sZ => ?_ | refine ndU 2 (by assumption) (by with_unfolding_all rfl) rfl rfl fun hZ sZ => ?_ | refine ndU 3 (by assumption) (by with_unfolding_all rfl) rfl rfl fun hZ sZ => ?_ | refine ndU 4 (by assumption) (by with_unfolding_all rfl) rfl rfl fun hZ sZ => ?_ | refine ndU 5 (by assumption) (by with_unfolding_all rfl) rfl rfl fun hZ sZ => ?_ | refine ndU 6 (by assumption) (by with_unfolding_all rfl) rfl rfl fun hZ sZ => ?_ | refine ndU 7 (by assumption) (by with_unfolding_all rfl) rfl rfl fun hZ sZ => ?_ | refine ndU 8 (by assumption) (by with_unfolding_all rfl) rfl rfl fun hZ sZ => ?_); dsimp only [List.set] at sZ) | (with_reducible first | refine iteF (by assumption) ?_ | refine iteT (by assumption) ?_ | refine iteF (by kernel_rfl) ?_ | refine iteT (by kernel_rfl) ?_))
  refine go (spV (r := none) "NoneType" (by with_unfolding_all rfl) (by kernel_rfl) ?_)
  repeat (first | (with_reducible refine bindU ?_; intro FF qZ hqZ) | (with_reducible refine bindH' fun qZ hqZ => ?_) | (with_reducible first | refine wpAny_holding ?_ | refine stopA ?_ | refine stopC ?_ | refine stopB ?_ | refine stopM ?_ | refine stopW ?_ | refine stopN ?_ | refine stopT ?_ | refine stopS ?_ | refine stopK ?_ | refine stopG ?_ | refine ndF ?_) | (with_reducible refine tryH fun eZ => ?_) | (with_reducible first | refine nd_pure ?_ | refine nd_rule ?_ | refine nd_point ?_ | refine nd_ask ?_) | ((refine' (?_ : Sc _ _) (fun xZ => by k_node; (repeat (first | (with_reducible first | refine stopI ?_ | refine stopJ ?_ | refine stop1 ?_ | refine stop2 ?_ | refine stop3 ?_ | refine stop4 ?_ | refine stop5 ?_ | refine stop6 ?_ | refine stopA ?_ | refine stopC ?_ | refine stopB ?_ | refine stopM ?_ | refine stopW ?_ | refine stopN ?_ | refine stopT ?_ | refine stopS ?_ | refine stopK ?_ | refine stopG ?_) | k_node)); with_reducible first | exact go xZ.1 | exact xZ.1) ?_); exact fun _ x => x) | (with_reducible refine (by assumption : ∀ a s, _ → _) _ _ ?_) | (with_reducible first | refine Looks.here (by assumption) ?_ | refine wpAny_onRaise ?_ | refine lL 0 ?_ | refine lL 1 ?_ | refine lL 2 ?_ | refine lL 3 ?_ | refine lL 4 ?_ | refine lL 5 ?_ | refine lL 6 ?_ | refine lL 7 ?_ | refine lL 8 ?_) | ((with_reducible first | refine ndU 0 (by assumption) (by with_unfolding_all rfl) rfl rfl fun hZ sZ => ?_ | refine ndU 1 (by assumption) (by with_unfolding_all rfl) rfl rfl fun hZ sZ => ?_ | refine ndU 2 (by assumption) (by with_unfolding_all rfl) rfl rfl fun hZ sZ => ?_ | refine ndU 3 (by assumption) (by with_unfolding_all rfl) rfl rfl fun hZ sZ => ?_ | refine ndU 4 (by assumption) (by with_unfolding_all rfl) rfl rfl fun hZ sZ => ?_ | refine ndU 5 (by assumption) (by with_unfolding_all rfl) rfl rfl fun hZ sZ => ?_ | refine ndU 6 (by assumption) (by with_unfolding_all rfl) rfl rfl fun hZ sZ => ?_ | refine ndU 7 (by assumption) (by with_unfolding_all rfl) rfl rfl fun hZ sZ => ?_ | refine ndU 8 (by assumption) (by with_unfolding_all rfl) rfl rfl fun hZ sZ => ?_); dsimp only [List.set] at sZ) | (with_reducible first | refine iteF (by assumption) ?_ | refine iteT (by assumption) ?_ | refine iteF (by kernel_rfl) ?_ | refine iteT (by kernel_rfl) ?_))
  refine go (spR (r := none) 6 S₅ rfl (by with_unfolding_all rfl) (by kernel_rfl) ?_)
  repeat (first | (with_reducible refine bindU ?_; intro FF qZ hqZ) | (with_reducible refine bindH' fun qZ hqZ => ?_) | (with_reducible first | refine wpAny_holding ?_ | refine stopA ?_ | refine stopC ?_ | refine stopB ?_ | refine stopM ?_ | refine stopW ?_ | refine stopN ?_ | refine stopT ?_ | refine stopS ?_ | refine stopK ?_ | refine stopG ?_ | refine ndF ?_) | (with_reducible refine tryH fun eZ => ?_) | (with_reducible first | refine nd_pure ?_ | refine nd_rule ?_ | refine nd_point ?_ | refine nd_ask ?_) | ((refine' (?_ : Sc _ _) (fun xZ => by k_node; (repeat (first | (with_reducible first | refine stopI ?_ | refine stopJ ?_ | refine stop1 ?_ | refine stop2 ?_ | refine stop3 ?_ | refine stop4 ?_ | refine stop5 ?_ | refine stop6 ?_ | refine stopA ?_ | refine stopC ?_ | refine stopB ?_ | refine stopM ?_ | refine stopW ?_ | refine stopN ?_ | refine stopT ?_ | refine stopS ?_ | refine stopK ?_ | refine stopG ?_) | k_node)); with_reducible first | exact go xZ.1 | exact xZ.1) ?_); exact fun _ x => x) | (with_reducible refine (by assumption : ∀ a s, _ → _) _ _ ?_) | (with_reducible first | refine Looks.here (by assumption) ?_ | refine wpAny_onRaise ?_ | refine lL 0 ?_ | refine lL 1 ?_ | refine lL 2 ?_ | refine lL 3 ?_ | refine lL 4 ?_ | refine lL 5 ?_ | refine lL 6 ?_ | refine lL 7 ?_ | refine lL 8 ?_) | ((with_reducible first | refine ndU 0 (by assumption) (by with_unfolding_all rfl) rfl rfl fun hZ sZ => ?_ | refine ndU 1 (by assumption) (by with_unfolding_all rfl) rfl rfl fun hZ sZ => ?_ | refine ndU 2 (by assumption) (by with_unfolding_all rfl) rfl rfl fun hZ sZ => ?_ | refine ndU 3 (by assumption) (by with_unfolding_all rfl) rfl rfl fun hZ sZ => ?_ | refine ndU 4 (by assumption) (by with_unfolding_all rfl) rfl rfl fun hZ sZ => ?_ | refine ndU 5 (by assumption) (by with_unfolding_all rfl) rfl rfl fun hZ sZ => ?_ | refine ndU 6 (by assumption) (by with_unfolding_all rfl) rfl rfl fun hZ sZ => ?_ | refine ndU 7 (by assumption) (by with_unfolding_all rfl) rfl rfl fun hZ sZ => ?_ | refine ndU 8 (by assumption) (by with_unfolding_all rfl) rfl rfl fun hZ sZ => ?_); dsimp only [List.set] at sZ) | (with_reducible first | refine iteF (by assumption) ?_ | refine iteT (by assumption) ?_ | refine iteF (by kernel_rfl) ?_ | refine iteT (by kernel_rfl) ?_))
  refine go (spL (r := none) "member_descriptor" 0 S₅ rfl rfl (by with_unfolding_all rfl) (by kernel_rfl) ?_)
  repeat (first | (with_reducible refine bindU ?_; intro FF qZ hqZ) | (with_reducible refine bindH' fun qZ hqZ => ?_) | (with_reducible first | refine wpAny_holding ?_ | refine stopA ?_ | refine stopC ?_ | refine stopB ?_ | refine stopM ?_ | refine stopW ?_ | refine stopN ?_ | refine stopT ?_ | refine stopS ?_ | refine stopK ?_ | refine stopG ?_ | refine ndF ?_) | (with_reducible refine tryH fun eZ => ?_) | (with_reducible first | refine nd_pure ?_ | refine nd_rule ?_ | refine nd_point ?_ | refine nd_ask ?_) | ((refine' (?_ : Sc _ _) (fun xZ => by k_node; (repeat (first | (with_reducible first | refine stopI ?_ | refine stopJ ?_ | refine stop1 ?_ | refine stop2 ?_ | refine stop3 ?_ | refine stop4 ?_ | refine stop5 ?_ | refine stop6 ?_ | refine stopA ?_ | refine stopC ?_ | refine stopB ?_ | refine stopM ?_ | refine stopW ?_ | refine stopN ?_ | refine stopT ?_ | refine stopS ?_ | refine stopK ?_ | refine stopG ?_) | k_node)); with_reducible first | exact go xZ.1 | exact xZ.1) ?_); exact fun _ x => x) | (with_reducible refine (by assumption : ∀ a s, _ → _) _ _ ?_) | (with_reducible first | refine Looks.here (by assumption) ?_ | refine wpAny_onRaise ?_ | refine lL 0 ?_ | refine lL 1 ?_ | refine lL 2 ?_ | refine lL 3 ?_ | refine lL 4 ?_ | refine lL 5 ?_ | refine lL 6 ?_ | refine lL 7 ?_ | refine lL 8 ?_) | ((with_reducible first | refine ndU 0 (by assumption) (by with_unfolding_all rfl) rfl rfl fun hZ sZ => ?_ | refine ndU 1 (by assumption) (by with_unfolding_all rfl) rfl rfl fun hZ sZ => ?_ | refine ndU 2 (by assumption) (by with_unfolding_all rfl) rfl rfl fun hZ sZ => ?_ | refine ndU 3 (by assumption) (by with_unfolding_all rfl) rfl rfl fun hZ sZ => ?_ | refine ndU 4 (by assumption) (by with_unfolding_all rfl) rfl rfl fun hZ sZ => ?_ | refine ndU 5 (by assumption) (by with_unfolding_all rfl) rfl rfl fun hZ sZ => ?_ | refine ndU 6 (by assumption) (by with_unfolding_all rfl) rfl rfl fun hZ sZ => ?_ | refine ndU 7 (by assumption) (by with_unfolding_all rfl) rfl rfl fun hZ sZ => ?_ | refine ndU 8 (by assumption) (by with_unfolding_all rfl) rfl rfl fun hZ sZ => ?_); dsimp only [List.set] at sZ) | (with_reducible first | refine iteF (by assumption) ?_ | refine iteT (by assumption) ?_ | refine iteF (by kernel_rfl) ?_ | refine iteT (by kernel_rfl) ?_))
  refine go (spV (r := none) "NoneType" (by with_unfolding_all rfl) (by kernel_rfl) ?_)
  repeat (first | (with_reducible refine bindU ?_; intro FF qZ hqZ) | (with_reducible refine bindH' fun qZ hqZ => ?_) | (with_reducible first | refine wpAny_holding ?_ | refine stopA ?_ | refine stopC ?_ | refine stopB ?_ | refine stopM ?_ | refine stopW ?_ | refine stopN ?_ | refine stopT ?_ | refine stopS ?_ | refine stopK ?_ | refine stopG ?_ | refine ndF ?_) | (with_reducible refine tryH fun eZ => ?_) | (with_reducible first | refine nd_pure ?_ | refine nd_rule ?_ | refine nd_point ?_ | refine nd_ask ?_) | ((refine' (?_ : Sc _ _) (fun xZ => by k_node; (repeat (first | (with_reducible first | refine stopI ?_ | refine stopJ ?_ | refine stop1 ?_ | refine stop2 ?_ | refine stop3 ?_ | refine stop4 ?_ | refine stop5 ?_ | refine stop6 ?_ | refine stopA ?_ | refine stopC ?_ | refine stopB ?_ | refine stopM ?_ | refine stopW ?_ | refine stopN ?_ | refine stopT ?_ | refine stopS ?_ | refine stopK ?_ | refine stopG ?_) | k_node)); with_reducible first | exact go xZ.1 | exact xZ.1) ?_); exact fun _ x => x) | (with_reducible refine (by assumption : ∀ a s, _ → _) _ _ ?_) | (with_reducible first | refine Looks.here (by assumption) ?_ | refine wpAny_onRaise ?_ | refine lL 0 ?_ | refine lL 1 ?_ | refine lL 2 ?_ | refine lL 3 ?_ | refine lL 4 ?_ | refine lL 5 ?_ | refine lL 6 ?_ | refine lL 7 ?_ | refine lL 8 ?_) | ((with_reducible first | refine ndU 0 (by assumption) (by with_unfolding_all rfl) rfl rfl fun hZ sZ => ?_ | refine ndU 1 (by assumption) (by with_unfolding_all rfl) rfl rfl fun hZ sZ => ?_ | refine ndU 2 (by assumption) (by with_unfolding_all rfl) rfl rfl fun hZ sZ => ?_ | refine ndU 3 (by assumption) (by with_unfolding_all rfl) rfl rfl fun hZ sZ => ?_ | refine ndU 4 (by assumption) (by with_unfolding_all rfl) rfl rfl fun hZ sZ => ?_ | refine ndU 5 (by assumption) (by with_unfolding_all rfl) rfl rfl fun hZ sZ => ?_ | refine ndU 6 (by assumption) (by with_unfolding_all rfl) rfl rfl fun hZ sZ => ?_ | refine ndU 7 (by assumption) (by with_unfolding_all rfl) rfl rfl fun hZ sZ => ?_ | refine ndU 8 (by assumption) (by with_unfolding_all rfl) rfl rfl fun hZ sZ => ?_); dsimp only [List.set] at sZ) | (with_reducible first | refine iteF (by assumption) ?_ | refine iteT (by assumption) ?_ | refine iteF (by kernel_rfl) ?_ | refine iteT (by kernel_rfl) ?_))
  refine go (mksuper hA (by show A.depth ≤ 420; omega) (by show A.units ≤ 200; omega) 1 S₅ rfl fun X h' tk' S₆ kp => ?_)
  repeat (first | (with_reducible refine bindU ?_; intro FF qZ hqZ) | (with_reducible refine bindH' fun qZ hqZ => ?_) | (with_reducible first | refine wpAny_holding ?_ | refine stopA ?_ | refine stopC ?_ | refine stopB ?_ | refine stopM ?_ | refine stopW ?_ | refine stopN ?_ | refine stopT ?_ | refine stopS ?_ | refine stopK ?_ | refine stopG ?_ | refine ndF ?_) | (with_reducible refine tryH fun eZ => ?_) | (with_reducible first | refine nd_pure ?_ | refine nd_rule ?_ | refine nd_point ?_ | refine nd_ask ?_) | ((refine' (?_ : Sc _ _) (fun xZ => by k_node; (repeat (first | (with_reducible first | refine stopI ?_ | refine stopJ ?_ | refine stop1 ?_ | refine stop2 ?_ | refine stop3 ?_ | refine stop4 ?_ | refine stop5 ?_ | refine stop6 ?_ | refine stopA ?_ | refine stopC ?_ | refine stopB ?_ | refine stopM ?_ | refine stopW ?_ | refine stopN ?_ | refine stopT ?_ | refine stopS ?_ | refine stopK ?_ | refine stopG ?_) | k_node)); with_reducible first | exact go xZ.1 | exact xZ.1) ?_); exact fun _ x => x) | (with_reducible refine (by assumption : ∀ a s, _ → _) _ _ ?_) | (with_reducible first | refine Looks.here (by assumption) ?_ | refine wpAny_onRaise ?_ | refine lL 0 ?_ | refine lL 1 ?_ | refine lL 2 ?_ | refine lL 3 ?_ | refine lL 4 ?_ | refine lL 5 ?_ | refine lL 6 ?_ | refine lL 7 ?_ | refine lL 8 ?_) | ((with_reducible first | refine ndU 0 (by assumption) (by with_unfolding_all rfl) rfl rfl fun hZ sZ => ?_ | refine ndU 1 (by assumption) (by with_unfolding_all rfl) rfl rfl fun hZ sZ => ?_ | refine ndU 2 (by assumption) (by with_unfolding_all rfl) rfl rfl fun hZ sZ => ?_ | refine ndU 3 (by assumption) (by with_unfolding_all rfl) rfl rfl fun hZ sZ => ?_ | refine ndU 4 (by assumption) (by with_unfolding_all rfl) rfl rfl fun hZ sZ => ?_ | refine ndU 5 (by assumption) (by with_unfolding_all rfl) rfl rfl fun hZ sZ => ?_ | refine ndU 6 (by assumption) (by with_unfolding_all rfl) rfl rfl fun hZ sZ => ?_ | refine ndU 7 (by assumption) (by with_unfolding_all rfl) rfl rfl fun hZ sZ => ?_ | refine ndU 8 (by assumption) (by with_unfolding_all rfl) rfl rfl fun hZ sZ => ?_); dsimp only [List.set] at sZ) | (with_reducible first | refine iteF (by assumption) ?_ | refine iteT (by assumption) ?_ | refine iteF (by kernel_rfl) ?_ | refine iteT (by kernel_rfl) ?_))
  refine go (superGX (G.keeps S₆.keep) hA hd hu 0 2 S₆ rfl rfl fun F h' tk' S₇ => ?_)
  repeat (first | (with_reducible refine bindU ?_; intro FF qZ hqZ) | (with_reducible refine bindH' fun qZ hqZ => ?_) | (with_reducible first | refine wpAny_holding ?_ | refine stopA ?_ | refine stopC ?_ | refine stopB ?_ | refine stopM ?_ | refine stopW ?_ | refine stopN ?_ | refine stopT ?_ | refine stopS ?_ | refine stopK ?_ | refine stopG ?_ | refine ndF ?_) | (with_reducible refine tryH fun eZ => ?_) | (with_reducible first | refine nd_pure ?_ | refine nd_rule ?_ | refine nd_point ?_ | refine nd_ask ?_) | ((refine' (?_ : Sc _ _) (fun xZ => by k_node; (repeat (first | (with_reducible first | refine stopI ?_ | refine stopJ ?_ | refine stop1 ?_ | refine stop2 ?_ | refine stop3 ?_ | refine stop4 ?_ | refine stop5 ?_ | refine stop6 ?_ | refine stopA ?_ | refine stopC ?_ | refine stopB ?_ | refine stopM ?_ | refine stopW ?_ | refine stopN ?_ | refine stopT ?_ | refine stopS ?_ | refine stopK ?_ | refine stopG ?_) | k_node)); with_reducible first | exact go xZ.1 | exact xZ.1) ?_); exact fun _ x => x) | (with_reducible refine (by assumption : ∀ a s, _ → _) _ _ ?_) | (with_reducible first | refine Looks.here (by assumption) ?_ | refine wpAny_onRaise ?_ | refine lL 0 ?_ | refine lL 1 ?_ | refine lL 2 ?_ | refine lL 3 ?_ | refine lL 4 ?_ | refine lL 5 ?_ | refine lL 6 ?_ | refine lL 7 ?_ | refine lL 8 ?_) | ((with_reducible first | refine ndU 0 (by assumption) (by with_unfolding_all rfl) rfl rfl fun hZ sZ => ?_ | refine ndU 1 (by assumption) (by with_unfolding_all rfl) rfl rfl fun hZ sZ => ?_ | refine ndU 2 (by assumption) (by with_unfolding_all rfl) rfl rfl fun hZ sZ => ?_ | refine ndU 3 (by assumption) (by with_unfolding_all rfl) rfl rfl fun hZ sZ => ?_ | refine ndU 4 (by assumption) (by with_unfolding_all rfl) rfl rfl fun hZ sZ => ?_ | refine ndU 5 (by assumption) (by with_unfolding_all rfl) rfl rfl fun hZ sZ => ?_ | refine ndU 6 (by assumption) (by with_unfolding_all rfl) rfl rfl fun hZ sZ => ?_ | refine ndU 7 (by assumption) (by with_unfolding_all rfl) rfl rfl fun hZ sZ => ?_ | refine ndU 8 (by assumption) (by with_unfolding_all rfl) rfl rfl fun hZ sZ => ?_); dsimp only [List.set] at sZ) | (with_reducible first | refine iteF (by assumption) ?_ | refine iteT (by assumption) ?_ | refine iteF (by kernel_rfl) ?_ | refine iteT (by kernel_rfl) ?_))
  refine go (callisub hA (by show A.depth ≤ 420; omega) (by show A.units ≤ 200; omega) 3 0 S₇ rfl rfl fun h' tk' S₈ kp => ?_)
  repeat (first | (with_reducible refine bindU ?_; intro FF qZ hqZ) | (with_reducible refine bindH' fun qZ hqZ => ?_) | (with_reducible first | refine wpAny_holding ?_ | refine stopA ?_ | refine stopC ?_ | refine stopB ?_ | refine stopM ?_ | refine stopW ?_ | refine stopN ?_ | refine stopT ?_ | refine stopS ?_ | refine stopK ?_ | refine stopG ?_ | refine ndF ?_) | (with_reducible refine tryH fun eZ => ?_) | (with_reducible first | refine nd_pure ?_ | refine nd_rule ?_ | refine nd_point ?_ | refine nd_ask ?_) | ((refine' (?_ : Sc _ _) (fun xZ => by k_node; (repeat (first | (with_reducible first | refine stopI ?_ | refine stopJ ?_ | refine stop1 ?_ | refine stop2 ?_ | refine stop3 ?_ | refine stop4 ?_ | refine stop5 ?_ | refine stop6 ?_ | refine stopA ?_ | refine stopC ?_ | refine stopB ?_ | refine stopM ?_ | refine stopW ?_ | refine stopN ?_ | refine stopT ?_ | refine stopS ?_ | refine stopK ?_ | refine stopG ?_) | k_node)); with_reducible first | exact go xZ.1 | exact xZ.1) ?_); exact fun _ x => x) | (with_reducible refine (by assumption : ∀ a s, _ → _) _ _ ?_) | (with_reducible first | refine Looks.here (by assumption) ?_ | refine wpAny_onRaise ?_ | refine lL 0 ?_ | refine lL 1 ?_ | refine lL 2 ?_ | refine lL 3 ?_ | refine lL 4 ?_ | refine lL 5 ?_ | refine lL 6 ?_ | refine lL 7 ?_ | refine lL 8 ?_) | ((with_reducible first | refine ndU 0 (by assumption) (by with_unfolding_all rfl) rfl rfl fun hZ sZ => ?_ | refine ndU 1 (by assumption) (by with_unfolding_all rfl) rfl rfl fun hZ sZ => ?_ | refine ndU 2 (by assumption) (by with_unfolding_all rfl) rfl rfl fun hZ sZ => ?_ | refine ndU 3 (by assumption) (by with_unfolding_all rfl) rfl rfl fun hZ sZ => ?_ | refine ndU 4 (by assumption) (by with_unfolding_all rfl) rfl rfl fun hZ sZ => ?_ | refine ndU 5 (by assumption) (by with_unfolding_all rfl) rfl rfl fun hZ sZ => ?_ | refine ndU 6 (by assumption) (by with_unfolding_all rfl) rfl rfl fun hZ sZ => ?_ | refine ndU 7 (by assumption) (by with_unfolding_all rfl) rfl rfl fun hZ sZ => ?_ | refine ndU 8 (by assumption) (by with_unfolding_all rfl) rfl rfl fun hZ sZ => ?_); dsimp only [List.set] at sZ) | (with_reducible first | refine iteF (by assumption) ?_ | refine iteT (by assumption) ?_ | refine iteF (by kernel_rfl) ?_ | refine iteT (by kernel_rfl) ?_))
  exact k a D MD h' tk' (S₈.drop _ (.cons _ (.cons _ (.refl _))))
end
end Mine
end
section -- TC
open PySem PySem.W PyProof.Rows PySem.Spec PySem.Calls PySem.SeqAt
set_option Elab.async false
set_option maxRecDepth 100000
set_option maxHeartbeats 4000000
set_option pp.maxSteps 1500
set_option linter.unusedVariables false
namespace Mine
section
variable {w : World} {A : Around} {E : Value → Shared → Prop} {s : Shared} {h : Heap} {tk : Nat} {L : Addr} {h₀ : Heap} {loc : List (Str × Value)} {own : List (Addr × Sort_)}
theorem tnc (a b c : Value) : checkBuiltinCall "type.__new__" ⟨[.type "type", a, b, c], []⟩ = pure () := by kernel_rfl
theorem tn_entry : entryFor table "type.__new__" = some Builtin.«type.__new__» := entryFor_of_tree (by kernel_rfl)
theorem tn_plain : plainId "type.__new__" = true := by decide +kernel
theorem ti_slot : Slot "type" "__init__" "type.__init__" := .of (owner := "type") (n := "__init__") (by rw [typeLookup_type, builtinLookup_eq_fast]; kernel_rfl) (by decide +kernel) (by decide +kernel) (by decide +kernel) (by first | exact .inl (by decide +kernel) | exact .inr (by decide +kernel)) (by rw [isSubtype_type]; kernel_rfl)
theorem ti_entry : entryFor table "type.__init__" = some Builtin.«type.__init__» := entryFor_of_tree (by kernel_rfl)
theorem ti_args (o a b c : Value) : argsOk "type.__init__" ⟨[o, a, b, c], []⟩ := by unfold argsOk; kernel_rfl
theorem ctc (a b c : Value) : checkTypeCall "type" ⟨[a, b, c], []⟩ = pure () := by kernel_rfl
theorem tcall3 (G : Gr w h₀) (hA : A.handled = none) (hd : A.depth ≤ 412) (hu : A.units ≤ 120) {H : Nat → Int} {T : Nat → Tok} {F : Nat → Addr} {P : Nat → Sort_} {ep eSL : Nat} {Q : Value → Shared → Prop}
    (S : St h₀ L loc (nT H T F P ep eSL own) h) (hNs : (F 9 == sysModules) = false)
    (k : ∀ a D MD h' tk', St h₀ L loc (nM a MD tk :: nC T F a D false ["obj"] [some (.builtin "object.__new__"), some (.bool false)] :: nDD H T F D [⟨PyData.keyHash w.params "obj", .str "obj" (tk + 1), .ref MD⟩, ⟨PyData.keyHash w.params "__doc__", .str "__doc__" (tk + 1 + 1), .none⟩] 3 :: nT H T F P ep eSL own) h' → Q (.ref a) (at_ s h' tk')) :
    wpAny (model PG w) A (call (.type "type") [.str "K" (T 15), .ref (F 8), .ref (F 9)]) Q E (at_ s h tk) := by
  refine wpAny_call (codeAny_of_tree ?_)
  show wpAny _ _ (callAny (.type "type") _) _ _ _
  refine wpAny_pure ⟨Code.quiet_builtin _ (by decide +kernel), codeAny_builtin PySem.F.entry_type_call ?_⟩
  rw [Around.under_plain (weight_type_call_type "type" _ []) rfl]
  refine hide fun Q' hQ => ?_
  unfold Builtin.«type.__call__»
  repeat (first | (with_reducible refine bindU ?_; intro FF qZ hqZ) | (with_reducible refine bindH' fun qZ hqZ => ?_) | (with_reducible first | refine wpAny_holding ?_ | refine stopA ?_ | refine stopM ?_ | refine stopT ?_ | refine stopS ?_ | refine stopK ?_ | refine ndF ?_ | refine nd_pure ?_ | refine nd_rule ?_ | refine nd_point ?_ | refine nd_ask ?_) | ((refine' (?_ : Sc _ _) (fun xZ => by k_node; (repeat (first | (with_reducible first | refine stopI ?_ | refine stopJ ?_ | refine stop1 ?_ | refine stop2 ?_ | refine stop3 ?_ | refine stop4 ?_ | refine stop5 ?_ | refine stop6 ?_ | refine stopH ?_ | refine stopA ?_ | refine stopM ?_ | refine stopT ?_ | refine stopS ?_ | refine stopK ?_) | k_node)); with_reducible first | exact go xZ.1 | exact xZ.1) ?_); exact fun _ x => x) | (with_reducible refine (by assumption : ∀ a s, _ → _) _ _ ?_) | (with_reducible first | refine Looks.here (by assumption) ?_ | refine wpAny_onRaise ?_ | refine lL 0 ?_ | refine lL 1 ?_ | refine lL 2 ?_) | ((with_reducible first | refine ndU 0 (by assumption) (by with_unfolding_all rfl) rfl rfl fun hZ sZ => ?_ | refine ndU 1 (by assumption) (by with_unfolding_all rfl) rfl rfl fun hZ sZ => ?_ | refine ndU 2 (by assumption) (by with_unfolding_all rfl) rfl rfl fun hZ sZ => ?_); dsimp only [List.set] at sZ) | (with_reducible first | refine iteF (by assumption) ?_ | refine iteT (by assumption) ?_ | refine iteF (by kernel_rfl) ?_ | refine iteT (by kernel_rfl) ?_))
  refine go (wpAny_of_eq (a := some "type.__new__") (by kernel_rfl) ?_)
  repeat (first | (with_reducible refine bindU ?_; intro FF qZ hqZ) | (with_reducible refine bindH' fun qZ hqZ => ?_) | (with_reducible first | refine wpAny_holding ?_ | refine stopA ?_ | refine stopM ?_ | refine stopT ?_ | refine stopS ?_ | refine stopK ?_ | refine ndF ?_ | refine nd_pure ?_ | refine nd_rule ?_ | refine nd_point ?_ | refine nd_ask ?_) | ((refine' (?_ : Sc _ _) (fun xZ => by k_node; (repeat (first | (with_reducible first | refine stopI ?_ | refine stopJ ?_ | refine stop1 ?_ | refine stop2 ?_ | refine stop3 ?_ | refine stop4 ?_ | refine stop5 ?_ | refine stop6 ?_ | refine stopH ?_ | refine stopA ?_ | refine stopM ?_ | refine stopT ?_ | refine stopS ?_ | refine stopK ?_) | k_node)); with_reducible first | exact go xZ.1 | exact xZ.1) ?_); exact fun _ x => x) | (with_reducible refine (by assumption : ∀ a s, _ → _) _ _ ?_) | (with_reducible first | refine Looks.here (by assumption) ?_ | refine wpAny_onRaise ?_ | refine lL 0 ?_ | refine lL 1 ?_ | refine lL 2 ?_) | ((with_reducible first | refine ndU 0 (by assumption) (by with_unfolding_all rfl) rfl rfl fun hZ sZ => ?_ | refine ndU 1 (by assumption) (by with_unfolding_all rfl) rfl rfl fun hZ sZ => ?_ | refine ndU 2 (by assumption) (by with_unfolding_all rfl) rfl rfl fun hZ sZ => ?_); dsimp only [List.set] at sZ) | (with_reducible first | refine iteF (by assumption) ?_ | refine iteT (by assumption) ?_ | refine iteF (by kernel_rfl) ?_ | refine iteT (by kernel_rfl) ?_))
  refine go (wpAny_call (codeAny_call_builtin tn_plain tn_entry ?_))
  rw [tnc]
  refine wpAny_pure (tnew (A := A.in1.in1) G (show A.handled = none from hA) (by show A.depth ≤ 415; omega) (by show A.units + 1 + 1 ≤ 150; omega) S hNs fun a D MD h' tk' S' => ?_)
  dsimp only
  repeat (first | (with_reducible refine bindU ?_; intro FF qZ hqZ) | (with_reducible refine bindH' fun qZ hqZ => ?_) | (with_reducible first | refine wpAny_holding ?_ | refine stopA ?_ | refine stopM ?_ | refine stopT ?_ | refine stopS ?_ | refine stopK ?_ | refine ndF ?_ | refine nd_pure ?_ | refine nd_rule ?_ | refine nd_point ?_ | refine nd_ask ?_) | ((refine' (?_ : Sc _ _) (fun xZ => by k_node; (repeat (first | (with_reducible first | refine stopI ?_ | refine stopJ ?_ | refine stop1 ?_ | refine stop2 ?_ | refine stop3 ?_ | refine stop4 ?_ | refine stop5 ?_ | refine stop6 ?_ | refine stopH ?_ | refine stopA ?_ | refine stopM ?_ | refine stopT ?_ | refine stopS ?_ | refine stopK ?_) | k_node)); with_reducible first | exact go xZ.1 | exact xZ.1) ?_); exact fun _ x => x) | (with_reducible refine (by assumption : ∀ a s, _ → _) _ _ ?_) | (with_reducible first | refine Looks.here (by assumption) ?_ | refine wpAny_onRaise ?_ | refine lL 0 ?_ | refine lL 1 ?_ | refine lL 2 ?_) | ((with_reducible first | refine ndU 0 (by assumption) (by with_unfolding_all rfl) rfl rfl fun hZ sZ => ?_ | refine ndU 1 (by assumption) (by with_unfolding_all rfl) rfl rfl fun hZ sZ => ?_ | refine ndU 2 (by assumption) (by with_unfolding_all rfl) rfl rfl fun hZ sZ => ?_); dsimp only [List.set] at sZ) | (with_reducible first | refine iteF (by assumption) ?_ | refine iteT (by assumption) ?_ | refine iteF (by kernel_rfl) ?_ | refine iteT (by kernel_rfl) ?_))
  refine go (spL (r := some (.builtin "type.__init__")) "type" 1 S' rfl rfl rfl (by kernel_rfl) ?_)
  repeat (first | (with_reducible refine bindU ?_; intro FF qZ hqZ) | (with_reducible refine bindH' fun qZ hqZ => ?_) | (with_reducible first | refine wpAny_holding ?_ | refine stopA ?_ | refine stopM ?_ | refine stopT ?_ | refine stopS ?_ | refine stopK ?_ | refine ndF ?_ | refine nd_pure ?_ | refine nd_rule ?_ | refine nd_point ?_ | refine nd_ask ?_) | ((refine' (?_ : Sc _ _) (fun xZ => by k_node; (repeat (first | (with_reducible first | refine stopI ?_ | refine stopJ ?_ | refine stop1 ?_ | refine stop2 ?_ | refine stop3 ?_ | refine stop4 ?_ | refine stop5 ?_ | refine stop6 ?_ | refine stopH ?_ | refine stopA ?_ | refine stopM ?_ | refine stopT ?_ | refine stopS ?_ | refine stopK ?_) | k_node)); with_reducible first | exact go xZ.1 | exact xZ.1) ?_); exact fun _ x => x) | (with_reducible refine (by assumption : ∀ a s, _ → _) _ _ ?_) | (with_reducible first | refine Looks.here (by assumption) ?_ | refine wpAny_onRaise ?_ | refine lL 0 ?_ | refine lL 1 ?_ | refine lL 2 ?_) | ((with_reducible first | refine ndU 0 (by assumption) (by with_unfolding_all rfl) rfl rfl fun hZ sZ => ?_ | refine ndU 1 (by assumption) (by with_unfolding_all rfl) rfl rfl fun hZ sZ => ?_ | refine ndU 2 (by assumption) (by with_unfolding_all rfl) rfl rfl fun hZ sZ => ?_); dsimp only [List.set] at sZ) | (with_reducible first | refine iteF (by assumption) ?_ | refine iteT (by assumption) ?_ | refine iteF (by kernel_rfl) ?_ | refine iteT (by kernel_rfl) ?_))
  refine go (wpAny_call_entry ti_slot ⟨_, S'.lit 1 rfl, rfl⟩ ti_entry ?_ (ti_args _ _ _ _))
  unfold Builtin.«type.__init__»
  repeat (first | (with_reducible refine bindU ?_; intro FF qZ hqZ) | (with_reducible refine bindH' fun qZ hqZ => ?_) | (with_reducible first | refine wpAny_holding ?_ | refine stopA ?_ | refine stopM ?_ | refine stopT ?_ | refine stopS ?_ | refine stopK ?_ | refine ndF ?_ | refine nd_pure ?_ | refine nd_rule ?_ | refine nd_point ?_ | refine nd_ask ?_) | ((refine' (?_ : Sc _ _) (fun xZ => by k_node; (repeat (first | (with_reducible first | refine stopI ?_ | refine stopJ ?_ | refine stop1 ?_ | refine stop2 ?_ | refine stop3 ?_ | refine stop4 ?_ | refine stop5 ?_ | refine stop6 ?_ | refine stopH ?_ | refine stopA ?_ | refine stopM ?_ | refine stopT ?_ | refine stopS ?_ | refine stopK ?_) | k_node)); with_reducible first | exact go xZ.1 | exact xZ.1) ?_); exact fun _ x => x) | (with_reducible refine (by assumption : ∀ a s, _ → _) _ _ ?_) | (with_reducible first | refine Looks.here (by assumption) ?_ | refine wpAny_onRaise ?_ | refine lL 0 ?_ | refine lL 1 ?_ | refine lL 2 ?_) | ((with_reducible first | refine ndU 0 (by assumption) (by with_unfolding_all rfl) rfl rfl fun hZ sZ => ?_ | refine ndU 1 (by assumption) (by with_unfolding_all rfl) rfl rfl fun hZ sZ => ?_ | refine ndU 2 (by assumption) (by with_unfolding_all rfl) rfl rfl fun hZ sZ => ?_); dsimp only [List.set] at sZ) | (with_reducible first | refine iteF (by assumption) ?_ | refine iteT (by assumption) ?_ | refine iteF (by kernel_rfl) ?_ | refine iteT (by kernel_rfl) ?_))
  refine ⟨_, rfl, ?_⟩
  repeat (first | (with_reducible refine bindU ?_; intro FF qZ hqZ) | (with_reducible refine bindH' fun qZ hqZ => ?_) | (with_reducible first | refine wpAny_holding ?_ | refine stopA ?_ | refine stopM ?_ | refine stopT ?_ | refine stopS ?_ | refine stopK ?_ | refine ndF ?_ | refine nd_pure ?_ | refine nd_rule ?_ | refine nd_point ?_ | refine nd_ask ?_) | ((refine' (?_ : Sc _ _) (fun xZ => by k_node; (repeat (first | (with_reducible first | refine stopI ?_ | refine stopJ ?_ | refine stop1 ?_ | refine stop2 ?_ | refine stop3 ?_ | refine stop4 ?_ | refine stop5 ?_ | refine stop6 ?_ | refine stopH ?_ | refine stopA ?_ | refine stopM ?_ | refine stopT ?_ | refine stopS ?_ | refine stopK ?_) | k_node)); with_reducible first | exact go xZ.1 | exact xZ.1) ?_); exact fun _ x => x) | (with_reducible refine (by assumption : ∀ a s, _ → _) _ _ ?_) | (with_reducible first | refine Looks.here (by assumption) ?_ | refine wpAny_onRaise ?_ | refine lL 0 ?_ | refine lL 1 ?_ | refine lL 2 ?_) | ((with_reducible first | refine ndU 0 (by assumption) (by with_unfolding_all rfl) rfl rfl fun hZ sZ => ?_ | refine ndU 1 (by assumption) (by with_unfolding_all rfl) rfl rfl fun hZ sZ => ?_ | refine ndU 2 (by assumption) (by with_unfolding_all rfl) rfl rfl fun hZ sZ => ?_); dsimp only [List.set] at sZ) | (with_reducible first | refine iteF (by assumption) ?_ | refine iteT (by assumption) ?_ | refine iteF (by kernel_rfl) ?_ | refine iteT (by kernel_rfl) ?_))
  exact k a D MD h' tk' S'
end
end Mine
end
section -- XB
open PySem PySem.W PyProof.Rows PySem.Spec PySem.Calls PySem.W.X
set_option Elab.async false
set_option maxRecDepth 100000
set_option maxHeartbeats 8000000
set_option pp.maxSteps 3000
namespace Mine
section
theorem x_tga {w : World} {h : Heap} {g : Array GenState} {d : Drawn} {os : OsState} {tk : Nat} {t : Tok} {Q : Value → Shared → Prop} {E : Value → Shared → Prop}
  (k : ∀ X h' tk', Mem h h' [] [(X, { cls := .type "builtin_function_or_method", data := .fields #[.builtin "type.__prepare__", .type "type"] })] → Q (.ref X) ⟨h', g, d, tk', os⟩) :
   wpAny (model PG w) { handled := none, depth := 420, frames := none, guards := none, units := 200 } (call (.builtin "type.__getattribute__") [.type "type", .str "__prepare__" t]) Q E ⟨h, g, d, tk, os⟩ := by
  x_run
theorem x_prep {w : World} {h : Heap} {g : Array GenState} {d : Drawn} {os : OsState} {tk : Nat} {X B : Addr} {t : Tok} {Q : Value → Shared → Prop} {E : Value → Shared → Prop}
  (hX : h.get? X = some ⟨.type "builtin_function_or_method", none, .fields #[.builtin "type.__prepare__", .type "type"], #[]⟩) (hB : h.get? B = some ⟨.type "tuple", none, .seq #[.type "object"] 0, #[]⟩)
  (k : ∀ N h' tk', Mem h h' [] [(N, { cls := .type "dict", data := .dict #[] 0 })] → Q (.ref N) ⟨h', g, d, tk', os⟩) :
   wpAny (model PG w) { handled := none, depth := 420, frames := none, guards := none, units := 200 } (call (.ref X) [.str "K" t, .ref B]) Q E ⟨h, g, d, tk, os⟩ := by
  x_run
end
end Mine
end
section -- BC1
open PySem PySem.W PyProof.Rows PySem.Spec PySem.Calls PySem.SeqAt
set_option Elab.async false
set_option maxRecDepth 100000
set_option maxHeartbeats 4000000
set_option pp.maxSteps 1500
set_option linter.unusedVariables false
namespace Mine
theorem getElem?_filterMap_keys {own : List (Addr × Sort_)} (hn : (own.map (·.1)).Nodup) : ∀ (idx : List Nat), idx.Nodup → ((idx.filterMap fun i => own[i]?).map (·.1)).Nodup
  | [], _ => List.nodup_nil
  | i :: r, hi => by
    rw [List.nodup_cons] at hi
    have ih := getElem?_filterMap_keys hn r hi.2
    cases q : own[i]? with
    | none => rw [List.filterMap_cons_none (by exact q)]; exact ih
    | some p =>
      rw [List.filterMap_cons_some (by exact q), List.map_cons, List.nodup_cons]
      refine ⟨fun hm => ?_, ih⟩
      obtain ⟨p', hp', e⟩ := List.mem_map.mp hm
      obtain ⟨j, hj, ej⟩ := List.mem_filterMap.mp hp'
      obtain ⟨a, o⟩ := p
      obtain ⟨a', o'⟩ := p'
      have e : a' = a := e
      subst e
      exact hi.1 (by rw [nodup_key hn q ej]; exact hj)
section
variable {w : World} {A : Around} {E : Value → Shared → Prop} {s : Shared} {h : Heap} {tk : Nat} {L : Addr} {h₀ : Heap} {loc : List (Str × Value)} {own : List (Addr × Sort_)} {env : Env}
theorem St.pick (S : St h₀ L loc own h) (idx : List Nat) (hi : idx.Nodup) : St h₀ L loc (idx.filterMap fun i => own[i]?) h :=
  ⟨S.keep, S.ns, S.new, fun p hp => let ⟨_, _, e⟩ := List.mem_filterMap.mp hp; S.owns p (List.mem_of_getElem? e), fun p hp => let ⟨_, _, e⟩ := List.mem_filterMap.mp hp; S.fresh p (List.mem_of_getElem? e), getElem?_filterMap_keys S.apart idx hi⟩
theorem St.weak (S : St h₀ L loc own h) (i : Nat) {a : Addr} {P P' : Sort_} (hi : own[i]? = some (a, P)) (hp : ∀ o, P o → P' o) : St h₀ L loc (own.set i (a, P')) h :=
  S.upd i hi (fun _ _ _ e => e) (let ⟨o, e, q⟩ := S.at i hi; ⟨o, e, hp o q⟩)
theorem nsSetL {N : Addr} {name : Str} {v c : Value} {d : Option Addr} {es : Array DictEntry} {n n' : Nat} {sl : Array (Option Value)} {Q : Unit → Shared → Prop} (i : Nat) (S : St h₀ L loc own h) (hi : own[i]? = some (N, lit ⟨c, d, .dict es n, sl⟩))
    (hr : aRefKeyMayBeTheName name es = false) (es' : Int → Tok → Array DictEntry) (he : ∀ hh kk, Obj.putName name hh (.str name kk) v ⟨c, d, .dict es n, sl⟩ = ⟨c, d, .dict (es' hh kk) n', sl⟩)
    (k : ∀ hh kk h' tk', St h₀ L loc (own.set i (N, lit ⟨c, d, .dict (es' hh kk) n', sl⟩)) h' → Q () (at_ s h' tk')) : wpAny (model PG w) A (nsSet N name v) Q E (at_ s h tk) := by
  unfold nsSet strHash
  refine wpAny_bind (wpAny_bind (wpAny_askSetting (wpAny_pure ?_)))
  refine wpAny_bind (wpAny_mkText ?_)
  refine wpAny_bind (ndL i S hi (wpAny_pure ?_))
  dsimp only
  rw [hr]
  refine ndU i S hi (he _ _) rfl fun h' S' => ?_
  exact wpAny_pure (k _ _ h' _ S')
theorem closureC {cs cl : List (Str × Addr)} {scope : Scope} (hc : env.cells = cs) (hq : closL cs scope.names [] = some cl) : closureFor scope env = pure cl :=
  closure_of (env := { env with scope := { kind := .function, names := [], isGenerator := false, isCoroutine := false, more := [] }, locals := 0, globals := mainGlobals, builtins := builtinsNs }) (L := 0) ⟨rfl, rfl, rfl, rfl, hc, rfl⟩ hq
structure CEnv (env : Env) (sc : Scope) (N CC : Addr) (cs : List (Str × Addr)) (q : Str) : Prop where
  scope : env.scope = sc
  kind : sc.kind = .class
  locals : env.locals = N
  globals : env.globals = mainGlobals
  builtins : env.builtins = builtinsNs
  cells : env.cells = cs
  code : env.code = .ref CC
  qual : env.qual = q
theorem stK {sc : Scope} {N CC : Addr} {cs : List (Str × Addr)} {qq name : Str} {v : Value} {d : Option Addr} {es : Array DictEntry} {n n' : Nat} {sl : Array (Option Value)} {Q : Unit → Shared → Prop} (e : CEnv env sc N CC cs qq) (hk : sc.names.lookup name = some .local) (i : Nat) (S : St h₀ L loc own h) (hi : own[i]? = some (N, lit ⟨.type "dict", d, .dict es n, sl⟩))
    (hr : aRefKeyMayBeTheName name es = false) (es' : Int → Tok → Array DictEntry) (he : ∀ hh kk, Obj.putName name hh (.str name kk) v ⟨.type "dict", d, .dict es n, sl⟩ = ⟨.type "dict", d, .dict (es' hh kk) n', sl⟩)
    (k : ∀ hh kk h' tk', St h₀ L loc (own.set i (N, lit ⟨.type "dict", d, .dict (es' hh kk) n', sl⟩)) h' → Q () (at_ s h' tk')) : wpAny (model PG w) A (storeName env name v) Q E (at_ s h tk) := by
  have hko : env.kindOf name = some .local := by unfold Env.kindOf; rw [e.scope]; exact hk
  unfold storeName
  rw [hko, e.scope, e.kind]
  show wpAny _ _ (localSet env name v) _ _ _
  unfold localSet
  rw [e.locals]
  refine wpAny_bind (ndL i S hi (wpAny_pure ?_))
  exact nsSetL i S hi hr es' he k
theorem defK {sc : Scope} {N CC P : Addr} {cs clos : List (Str × Addr)} {qq name : Str} {params : Arguments} {body : List Stmt} {scope : Scope} {pos : Pos} {ps : Array Value} {d : Option Addr} {es : Array DictEntry} {n n' : Nat} {sl : Array (Option Value)} {Q : Flow → Shared → Prop} (e : CEnv env sc N CC cs qq)
    (hk : sc.names.lookup name = some .local) (G : Gr w h) (S : St h₀ L loc own h) (hC : CodeHd h CC P) (hP17 : P ≠ 4) (hPm : mainGlobals ≠ P) (j i : Nat) (hj : own[j]? = some (P, lit (tabObj ps))) (hi : own[i]? = some (N, lit ⟨.type "dict", d, .dict es n, sl⟩))
    (ht : TriplesOk ps.toList) (hnf : codeAmong pos ps.toList = none) (hcl : closL cs scope.names [] = some clos) (hdef : defaultsOf params env = ([], [])) (han : annTrees params none env = []) (hne : i ≠ j)
    (hr : aRefKeyMayBeTheName name es = false) (es' : Value → Int → Tok → Array DictEntry) (he : ∀ v hh kk, Obj.putName name hh (.str name kk) v ⟨.type "dict", d, .dict es n, sl⟩ = ⟨.type "dict", d, .dict (es' v hh kk) n', sl⟩)
    (k : ∀ f c' ctv doc pm hh kk h' tk', St h₀ L loc (((f, lit (fnMade name (qq ++ name) params body scope clos doc pm c' ctv)) :: (c', codS (qq ++ name)) :: own.set j (P, lit (tabObj (ps ++ #[rawInt pos.line, rawInt pos.col, .ref c'])))).set (i + 2) (N, lit ⟨.type "dict", d, .dict (es' (.ref f) hh kk) n', sl⟩)) h' → Q .next (at_ s h' tk')) :
    wpAny (model PG w) A (exec (.FunctionDef name params body [] none [] scope none name pos) env) Q E (at_ s h tk) := by
  obtain ⟨mg, hmg, hbt⟩ := G.main
  have hP := S.lit j hj
  have hko : env.kindOf name = some .local := by unfold Env.kindOf; rw [e.scope]; exact hk
  have hqn : qualnameIn env name name = qq ++ name := by unfold qualnameIn; rw [hko, e.qual]; rfl
  rw [exec_def, hdef, han, hqn]
  refine wpAny_bind (wpAny_standAt (wpAny_bind (wpAny_holding ?_)))
  refine wpAny_bind (wpAny_pure (wpAny_bind (wpAny_holding (wpAny_pure (wpAny_holding (wpAny_bind (wpAny_pure ?_)))))))
  refine makeFunction_K (s := at_ s h tk) (closureC e.cells hcl) e.globals hmg e.code hC hP ht hnf hPm (hbt P hP17) fun c' ctv doc h' tk' hx hge hlt hrec htab => ?_
  have hx : Heap.ExtBut P h h' := hx
  have S' := S.upd j hj (h' := h') (P' := lit (tabObj (ps ++ #[rawInt pos.line, rawInt pos.col, .ref c']))) (fun b o hb q => hx b o hb q) ⟨_, htab, rfl⟩
  have nc : h.get? c' = none := Heap.get?_none_of_le hge
  have S₂ := S.gain S' (keys_set hj) nc (P := codS (qq ++ name)) (by
    obtain ⟨c₂, o, vs, t, z, q, a, b⟩ := hrec
    cases z
    exact ⟨o, q, vs, t, a, b⟩)
  have S₃ := S₂.push (P := lit (fnMade name (qq ++ name) params body scope clos doc ((mg "__name__").getD .none) c' ctv)) _ rfl
  refine wpAny_bind (wpAny_standAt (wpAny_bind (wpAny_bindName ?_)))
  refine stK e hk (i + 2) S₃ ?_ hr (es' _) (he _) fun hh kk h'' tk'' S₄ => wpAny_pure (k _ c' ctv doc _ hh kk h'' tk'' S₄)
  show (own.set j _)[i]? = _
  rw [List.getElem?_set, if_neg (fun z => hne z.symm)]
  exact hi
end
end Mine
end
section -- BC2
open PySem PySem.W PyProof.Rows PySem.Spec PySem.Calls PySem.SeqAt
set_option Elab.async false
set_option maxRecDepth 100000
set_option maxHeartbeats 4000000
set_option pp.maxSteps 1500
set_option linter.unusedVariables false
namespace Mine
noncomputable def findDef (n : Str) : List Stmt → List Stmt
  | [] => []
  | .FunctionDef m _ b _ _ _ _ _ _ _ :: r => if m == n then b else findDef n r
  | _ :: r => findDef n r
noncomputable def clsBody : List Stmt → List Stmt
  | .ClassDef _ _ _ b _ _ _ _ _ _ _ :: _ => b
  | _ => []
noncomputable def clsScope : List Stmt → Scope
  | .ClassDef _ _ _ _ _ _ sc _ _ _ _ :: _ => sc
  | _ => default
noncomputable def kBody : List Stmt := clsBody (findDef "cmp_to_key" PG.main.body)
noncomputable def kScope : Scope := clsScope (findDef "cmp_to_key" PG.main.body)
noncomputable def dPar : Option Stmt → Arguments
  | some (.FunctionDef _ p _ _ _ _ _ _ _ _) => p
  | _ => default
noncomputable def dBody : Option Stmt → List Stmt
  | some (.FunctionDef _ _ b _ _ _ _ _ _ _) => b
  | _ => []
noncomputable def dScope : Option Stmt → Scope
  | some (.FunctionDef _ _ _ _ _ _ sc _ _ _) => sc
  | _ => default
noncomputable def kFn (i : Nat) (name : Str) (clos : List (Str × Addr)) (doc pm : Value) (c' : Addr) (ctv : Value) : Obj :=
  fnMade name ("cmp_to_key.<locals>.K." ++ name) (dPar kBody[i]?) (dBody kBody[i]?) (dScope kBody[i]?) clos doc pm c' ctv
section
variable {w : World} {A : Around} {E : Value → Shared → Prop} {s : Shared} {h : Heap} {tk : Nat} {L : Addr} {h₀ : Heap} {loc : List (Str × Value)} {own : List (Addr × Sort_)} {env : Env}
theorem bodyK {cs : List (Str × Addr)} {cm N T2 CC : Addr} {oc : Obj} {v0 vq v2 : Value} {h0 h1 h2 : Int} {k0 k1 k2 : Tok} {n : Nat} {Q : Flow → Shared → Prop} (e : CEnv env kScope N CC [("mycmp", cm)] "cmp_to_key.<locals>.K.") (G : Gr w h₀) (hC : ∀ h : Heap, h.get? CC = some oc → CodeHd h CC T2) (hT4 : T2 ≠ 4) (hTm : mainGlobals ≠ T2)
    (S : St h₀ L loc ((N, lit ⟨.type "dict", none, .dict #[⟨h0, .str "__module__" k0, v0⟩, ⟨h1, .str "__qualname__" k1, vq⟩, ⟨h2, .str "__firstlineno__" k2, v2⟩] n, #[]⟩) :: (T2, lit (tabObj #[])) :: (CC, lit oc) :: own) h)
    (k : ∀ u0 h3 k3 SL tobj eSL h4 k4 F0 c0 v0' d0 m0 h5 k5 F1 c1 v1' d1 m1 h6 k6 F2 c2 v2' d2 m2 h7 k7 F3 c3 v3' d3 m3 h8 k8 F4 c4 v4' d4 m4 h9 k9 F5 c5 v5' d5 m5 h10 k10 h' tk', St h₀ L loc ((F5, lit (kFn 7 "__ge__" [("mycmp", cm)] d5 m5 c5 v5')) :: (c5, codS ("cmp_to_key.<locals>.K." ++ "__ge__")) :: (F4, lit (kFn 6 "__le__" [("mycmp", cm)] d4 m4 c4 v4')) :: (c4, codS ("cmp_to_key.<locals>.K." ++ "__le__")) :: (F3, lit (kFn 5 "__eq__" [("mycmp", cm)] d3 m3 c3 v3')) :: (c3, codS ("cmp_to_key.<locals>.K." ++ "__eq__")) :: (F2, lit (kFn 4 "__gt__" [("mycmp", cm)] d2 m2 c2 v2')) :: (c2, codS ("cmp_to_key.<locals>.K." ++ "__gt__")) :: (F1, lit (kFn 3 "__lt__" [("mycmp", cm)] d1 m1 c1 v1')) :: (c1, codS ("cmp_to_key.<locals>.K." ++ "__lt__")) :: (F0, lit (kFn 2 "__init__" [] d0 m0 c0 v0')) :: (c0, codS ("cmp_to_key.<locals>.K." ++ "__init__")) :: (SL, lit { cls := .type "list", data := .seq #[.str "obj" tobj] eSL }) :: (N, lit ⟨.type "dict", none, .dict #[⟨h0, .str "__module__" k0, .str "cpy313.functools" u0⟩, ⟨h1, .str "__qualname__" k1, vq⟩, ⟨h2, .str "__firstlineno__" k2, v2⟩, ⟨h3, .str "__slots__" k3, .ref SL⟩, ⟨h4, .str "__init__" k4, .ref F0⟩, ⟨h5, .str "__lt__" k5, .ref F1⟩, ⟨h6, .str "__gt__" k6, .ref F2⟩, ⟨h7, .str "__eq__" k7, .ref F3⟩, ⟨h8, .str "__le__" k8, .ref F4⟩, ⟨h9, .str "__ge__" k9, .ref F5⟩, ⟨h10, .str "__hash__" k10, .none⟩] (n + 8), #[]⟩) :: (T2, lit (tabObj #[rawInt 48, rawInt 8, .ref c0, rawInt 51, rawInt 8, .ref c1, rawInt 54, rawInt 8, .ref c2, rawInt 57, rawInt 8, .ref c3, rawInt 60, rawInt 8, .ref c4, rawInt 63, rawInt 8, .ref c5])) :: (CC, lit oc) :: own) h' → Q .next (at_ s h' tk')) :
    wpAny (model PG w) A (execs kBody env) Q E (at_ s h tk) := by
  have gr : ∀ {own' : List (Addr × Sort_)} {h' : Heap}, St h₀ L loc own' h' → Gr w h' := fun S => G.keeps S.keep
  refine wpAny_execs_cons (wpAny_Assign_Name (cstr fun u0 tk₁ => ?_))
  refine stK e (by kernel_rfl) 0 S rfl (by kernel_rfl) (fun _ _ => #[⟨h0, .str "__module__" k0, .str "cpy313.functools" u0⟩, ⟨h1, .str "__qualname__" k1, vq⟩, ⟨h2, .str "__firstlineno__" k2, v2⟩]) (n' := n) (fun _ _ => by kernel_rfl) fun _ _ h₁ tk₁' S₁ => ?_
  refine wpAny_execs_cons (wpAny_Assign_Name (List_ (sp_str fun tobj tk₂ => sp_nil (newL (by simp) fun SL h₂ nSL kSL iSL => ?_))))
  obtain ⟨_, eSL', eSL, rfl⟩ := iSL
  have S₂ := St.more S₁ kSL nSL (P := lit { cls := .type "list", data := .seq #[.str "obj" tobj] eSL }) ⟨_, eSL', rfl⟩
  refine stK e (by kernel_rfl) 1 S₂ rfl (by kernel_rfl) (fun h3 k3 => #[⟨h0, .str "__module__" k0, .str "cpy313.functools" u0⟩, ⟨h1, .str "__qualname__" k1, vq⟩, ⟨h2, .str "__firstlineno__" k2, v2⟩, ⟨h3, .str "__slots__" k3, .ref SL⟩]) (n' := n + 1) (fun _ _ => by kernel_rfl) fun h3 k3 h₃ tk₃ S₃ => ?_
  have S_0 := S₃.cast (own' := (SL, lit { cls := .type "list", data := .seq #[.str "obj" tobj] eSL }) :: (N, lit ⟨.type "dict", none, .dict #[⟨h0, .str "__module__" k0, .str "cpy313.functools" u0⟩, ⟨h1, .str "__qualname__" k1, vq⟩, ⟨h2, .str "__firstlineno__" k2, v2⟩, ⟨h3, .str "__slots__" k3, .ref SL⟩] (n + 1), #[]⟩) :: (T2, lit (tabObj #[])) :: (CC, lit oc) :: own) (by kernel_rfl)
  refine wpAny_execs_cons (defK e (by kernel_rfl) (gr S_0) S_0 (hC _ (S_0.lit 3 rfl)) hT4 hTm 2 1 rfl rfl (by simp [TriplesOk, rawInt]) (by kernel_rfl) (clos := []) (by kernel_rfl) rfl rfl (by decide) (by kernel_rfl) (fun v h4 k4 => #[⟨h0, .str "__module__" k0, .str "cpy313.functools" u0⟩, ⟨h1, .str "__qualname__" k1, vq⟩, ⟨h2, .str "__firstlineno__" k2, v2⟩, ⟨h3, .str "__slots__" k3, .ref SL⟩, ⟨h4, .str "__init__" k4, v⟩]) (n' := n + 2) (fun _ _ _ => by kernel_rfl) fun F0 c0 v0' d0 m0 h4 k4 h'0 tk'0 Q0 => ?_)
  have S_1 := Q0.cast (own' := (F0, lit (kFn 2 "__init__" [] d0 m0 c0 v0')) :: (c0, codS ("cmp_to_key.<locals>.K." ++ "__init__")) :: (SL, lit { cls := .type "list", data := .seq #[.str "obj" tobj] eSL }) :: (N, lit ⟨.type "dict", none, .dict #[⟨h0, .str "__module__" k0, .str "cpy313.functools" u0⟩, ⟨h1, .str "__qualname__" k1, vq⟩, ⟨h2, .str "__firstlineno__" k2, v2⟩, ⟨h3, .str "__slots__" k3, .ref SL⟩, ⟨h4, .str "__init__" k4, .ref F0⟩] (n + 2), #[]⟩) :: (T2, lit (tabObj #[rawInt 48, rawInt 8, .ref c0])) :: (CC, lit oc) :: own) (by kernel_rfl)
  refine wpAny_execs_cons (defK e (by kernel_rfl) (gr S_1) S_1 (hC _ (S_1.lit 5 rfl)) hT4 hTm 4 3 rfl rfl (by simp [TriplesOk, rawInt]) (by kernel_rfl) (clos := [("mycmp", cm)]) (by kernel_rfl) rfl rfl (by decide) (by kernel_rfl) (fun v h5 k5 => #[⟨h0, .str "__module__" k0, .str "cpy313.functools" u0⟩, ⟨h1, .str "__qualname__" k1, vq⟩, ⟨h2, .str "__firstlineno__" k2, v2⟩, ⟨h3, .str "__slots__" k3, .ref SL⟩, ⟨h4, .str "__init__" k4, .ref F0⟩, ⟨h5, .str "__lt__" k5, v⟩]) (n' := n + 3) (fun _ _ _ => by kernel_rfl) fun F1 c1 v1' d1 m1 h5 k5 h'1 tk'1 Q1 => ?_)
  have S_2 := Q1.cast (own' := (F1, lit (kFn 3 "__lt__" [("mycmp", cm)] d1 m1 c1 v1')) :: (c1, codS ("cmp_to_key.<locals>.K." ++ "__lt__")) :: (F0, lit (kFn 2 "__init__" [] d0 m0 c0 v0')) :: (c0, codS ("cmp_to_key.<locals>.K." ++ "__init__")) :: (SL, lit { cls := .type "list", data := .seq #[.str "obj" tobj] eSL }) :: (N, lit ⟨.type "dict", none, .dict #[⟨h0, .str "__module__" k0, .str "cpy313.functools" u0⟩, ⟨h1, .str "__qualname__" k1, vq⟩, ⟨h2, .str "__firstlineno__" k2, v2⟩, ⟨h3, .str "__slots__" k3, .ref SL⟩, ⟨h4, .str "__init__" k4, .ref F0⟩, ⟨h5, .str "__lt__" k5, .ref F1⟩] (n + 3), #[]⟩) :: (T2, lit (tabObj #[rawInt 48, rawInt 8, .ref c0, rawInt 51, rawInt 8, .ref c1])) :: (CC, lit oc) :: own) (by kernel_rfl)
  refine wpAny_execs_cons (defK e (by kernel_rfl) (gr S_2) S_2 (hC _ (S_2.lit 7 rfl)) hT4 hTm 6 5 rfl rfl (by simp [TriplesOk, rawInt]) (by kernel_rfl) (clos := [("mycmp", cm)]) (by kernel_rfl) rfl rfl (by decide) (by kernel_rfl) (fun v h6 k6 => #[⟨h0, .str "__module__" k0, .str "cpy313.functools" u0⟩, ⟨h1, .str "__qualname__" k1, vq⟩, ⟨h2, .str "__firstlineno__" k2, v2⟩, ⟨h3, .str "__slots__" k3, .ref SL⟩, ⟨h4, .str "__init__" k4, .ref F0⟩, ⟨h5, .str "__lt__" k5, .ref F1⟩, ⟨h6, .str "__gt__" k6, v⟩]) (n' := n + 4) (fun _ _ _ => by kernel_rfl) fun F2 c2 v2' d2 m2 h6 k6 h'2 tk'2 Q2 => ?_)
  have S_3 := Q2.cast (own' := (F2, lit (kFn 4 "__gt__" [("mycmp", cm)] d2 m2 c2 v2')) :: (c2, codS ("cmp_to_key.<locals>.K." ++ "__gt__")) :: (F1, lit (kFn 3 "__lt__" [("mycmp", cm)] d1 m1 c1 v1')) :: (c1, codS ("cmp_to_key.<locals>.K." ++ "__lt__")) :: (F0, lit (kFn 2 "__init__" [] d0 m0 c0 v0')) :: (c0, codS ("cmp_to_key.<locals>.K." ++ "__init__")) :: (SL, lit { cls := .type "list", data := .seq #[.str "obj" tobj] eSL }) :: (N, lit ⟨.type "dict", none, .dict #[⟨h0, .str "__module__" k0, .str "cpy313.functools" u0⟩, ⟨h1, .str "__qualname__" k1, vq⟩, ⟨h2, .str "__firstlineno__" k2, v2⟩, ⟨h3, .str "__slots__" k3, .ref SL⟩, ⟨h4, .str "__init__" k4, .ref F0⟩, ⟨h5, .str "__lt__" k5, .ref F1⟩, ⟨h6, .str "__gt__" k6, .ref F2⟩] (n + 4), #[]⟩) :: (T2, lit (tabObj #[rawInt 48, rawInt 8, .ref c0, rawInt 51, rawInt 8, .ref c1, rawInt 54, rawInt 8, .ref c2])) :: (CC, lit oc) :: own) (by kernel_rfl)
  refine wpAny_execs_cons (defK e (by kernel_rfl) (gr S_3) S_3 (hC _ (S_3.lit 9 rfl)) hT4 hTm 8 7 rfl rfl (by simp [TriplesOk, rawInt]) (by kernel_rfl) (clos := [("mycmp", cm)]) (by kernel_rfl) rfl rfl (by decide) (by kernel_rfl) (fun v h7 k7 => #[⟨h0, .str "__module__" k0, .str "cpy313.functools" u0⟩, ⟨h1, .str "__qualname__" k1, vq⟩, ⟨h2, .str "__firstlineno__" k2, v2⟩, ⟨h3, .str "__slots__" k3, .ref SL⟩, ⟨h4, .str "__init__" k4, .ref F0⟩, ⟨h5, .str "__lt__" k5, .ref F1⟩, ⟨h6, .str "__gt__" k6, .ref F2⟩, ⟨h7, .str "__eq__" k7, v⟩]) (n' := n + 5) (fun _ _ _ => by kernel_rfl) fun F3 c3 v3' d3 m3 h7 k7 h'3 tk'3 Q3 => ?_)
  have S_4 := Q3.cast (own' := (F3, lit (kFn 5 "__eq__" [("mycmp", cm)] d3 m3 c3 v3')) :: (c3, codS ("cmp_to_key.<locals>.K." ++ "__eq__")) :: (F2, lit (kFn 4 "__gt__" [("mycmp", cm)] d2 m2 c2 v2')) :: (c2, codS ("cmp_to_key.<locals>.K." ++ "__gt__")) :: (F1, lit (kFn 3 "__lt__" [("mycmp", cm)] d1 m1 c1 v1')) :: (c1, codS ("cmp_to_key.<locals>.K." ++ "__lt__")) :: (F0, lit (kFn 2 "__init__" [] d0 m0 c0 v0')) :: (c0, codS ("cmp_to_key.<locals>.K." ++ "__init__")) :: (SL, lit { cls := .type "list", data := .seq #[.str "obj" tobj] eSL }) :: (N, lit ⟨.type "dict", none, .dict #[⟨h0, .str "__module__" k0, .str "cpy313.functools" u0⟩, ⟨h1, .str "__qualname__" k1, vq⟩, ⟨h2, .str "__firstlineno__" k2, v2⟩, ⟨h3, .str "__slots__" k3, .ref SL⟩, ⟨h4, .str "__init__" k4, .ref F0⟩, ⟨h5, .str "__lt__" k5, .ref F1⟩, ⟨h6, .str "__gt__" k6, .ref F2⟩, ⟨h7, .str "__eq__" k7, .ref F3⟩] (n + 5), #[]⟩) :: (T2, lit (tabObj #[rawInt 48, rawInt 8, .ref c0, rawInt 51, rawInt 8, .ref c1, rawInt 54, rawInt 8, .ref c2, rawInt 57, rawInt 8, .ref c3])) :: (CC, lit oc) :: own) (by kernel_rfl)
  refine wpAny_execs_cons (defK e (by kernel_rfl) (gr S_4) S_4 (hC _ (S_4.lit 11 rfl)) hT4 hTm 10 9 rfl rfl (by simp [TriplesOk, rawInt]) (by kernel_rfl) (clos := [("mycmp", cm)]) (by kernel_rfl) rfl rfl (by decide) (by kernel_rfl) (fun v h8 k8 => #[⟨h0, .str "__module__" k0, .str "cpy313.functools" u0⟩, ⟨h1, .str "__qualname__" k1, vq⟩, ⟨h2, .str "__firstlineno__" k2, v2⟩, ⟨h3, .str "__slots__" k3, .ref SL⟩, ⟨h4, .str "__init__" k4, .ref F0⟩, ⟨h5, .str "__lt__" k5, .ref F1⟩, ⟨h6, .str "__gt__" k6, .ref F2⟩, ⟨h7, .str "__eq__" k7, .ref F3⟩, ⟨h8, .str "__le__" k8, v⟩]) (n' := n + 6) (fun _ _ _ => by kernel_rfl) fun F4 c4 v4' d4 m4 h8 k8 h'4 tk'4 Q4 => ?_)
  have S_5 := Q4.cast (own' := (F4, lit (kFn 6 "__le__" [("mycmp", cm)] d4 m4 c4 v4')) :: (c4, codS ("cmp_to_key.<locals>.K." ++ "__le__")) :: (F3, lit (kFn 5 "__eq__" [("mycmp", cm)] d3 m3 c3 v3')) :: (c3, codS ("cmp_to_key.<locals>.K." ++ "__eq__")) :: (F2, lit (kFn 4 "__gt__" [("mycmp", cm)] d2 m2 c2 v2')) :: (c2, codS ("cmp_to_key.<locals>.K." ++ "__gt__")) :: (F1, lit (kFn 3 "__lt__" [("mycmp", cm)] d1 m1 c1 v1')) :: (c1, codS ("cmp_to_key.<locals>.K." ++ "__lt__")) :: (F0, lit (kFn 2 "__init__" [] d0 m0 c0 v0')) :: (c0, codS ("cmp_to_key.<locals>.K." ++ "__init__")) :: (SL, lit { cls := .type "list", data := .seq #[.str "obj" tobj] eSL }) :: (N, lit ⟨.type "dict", none, .dict #[⟨h0, .str "__module__" k0, .str "cpy313.functools" u0⟩, ⟨h1, .str "__qualname__" k1, vq⟩, ⟨h2, .str "__firstlineno__" k2, v2⟩, ⟨h3, .str "__slots__" k3, .ref SL⟩, ⟨h4, .str "__init__" k4, .ref F0⟩, ⟨h5, .str "__lt__" k5, .ref F1⟩, ⟨h6, .str "__gt__" k6, .ref F2⟩, ⟨h7, .str "__eq__" k7, .ref F3⟩, ⟨h8, .str "__le__" k8, .ref F4⟩] (n + 6), #[]⟩) :: (T2, lit (tabObj #[rawInt 48, rawInt 8, .ref c0, rawInt 51, rawInt 8, .ref c1, rawInt 54, rawInt 8, .ref c2, rawInt 57, rawInt 8, .ref c3, rawInt 60, rawInt 8, .ref c4])) :: (CC, lit oc) :: own) (by kernel_rfl)
  refine wpAny_execs_cons (defK e (by kernel_rfl) (gr S_5) S_5 (hC _ (S_5.lit 13 rfl)) hT4 hTm 12 11 rfl rfl (by simp [TriplesOk, rawInt]) (by kernel_rfl) (clos := [("mycmp", cm)]) (by kernel_rfl) rfl rfl (by decide) (by kernel_rfl) (fun v h9 k9 => #[⟨h0, .str "__module__" k0, .str "cpy313.functools" u0⟩, ⟨h1, .str "__qualname__" k1, vq⟩, ⟨h2, .str "__firstlineno__" k2, v2⟩, ⟨h3, .str "__slots__" k3, .ref SL⟩, ⟨h4, .str "__init__" k4, .ref F0⟩, ⟨h5, .str "__lt__" k5, .ref F1⟩, ⟨h6, .str "__gt__" k6, .ref F2⟩, ⟨h7, .str "__eq__" k7, .ref F3⟩, ⟨h8, .str "__le__" k8, .ref F4⟩, ⟨h9, .str "__ge__" k9, v⟩]) (n' := n + 7) (fun _ _ _ => by kernel_rfl) fun F5 c5 v5' d5 m5 h9 k9 h'5 tk'5 Q5 => ?_)
  have S_6 := Q5.cast (own' := (F5, lit (kFn 7 "__ge__" [("mycmp", cm)] d5 m5 c5 v5')) :: (c5, codS ("cmp_to_key.<locals>.K." ++ "__ge__")) :: (F4, lit (kFn 6 "__le__" [("mycmp", cm)] d4 m4 c4 v4')) :: (c4, codS ("cmp_to_key.<locals>.K." ++ "__le__")) :: (F3, lit (kFn 5 "__eq__" [("mycmp", cm)] d3 m3 c3 v3')) :: (c3, codS ("cmp_to_key.<locals>.K." ++ "__eq__")) :: (F2, lit (kFn 4 "__gt__" [("mycmp", cm)] d2 m2 c2 v2')) :: (c2, codS ("cmp_to_key.<locals>.K." ++ "__gt__")) :: (F1, lit (kFn 3 "__lt__" [("mycmp", cm)] d1 m1 c1 v1')) :: (c1, codS ("cmp_to_key.<locals>.K." ++ "__lt__")) :: (F0, lit (kFn 2 "__init__" [] d0 m0 c0 v0')) :: (c0, codS ("cmp_to_key.<locals>.K." ++ "__init__")) :: (SL, lit { cls := .type "list", data := .seq #[.str "obj" tobj] eSL }) :: (N, lit ⟨.type "dict", none, .dict #[⟨h0, .str "__module__" k0, .str "cpy313.functools" u0⟩, ⟨h1, .str "__qualname__" k1, vq⟩, ⟨h2, .str "__firstlineno__" k2, v2⟩, ⟨h3, .str "__slots__" k3, .ref SL⟩, ⟨h4, .str "__init__" k4, .ref F0⟩, ⟨h5, .str "__lt__" k5, .ref F1⟩, ⟨h6, .str "__gt__" k6, .ref F2⟩, ⟨h7, .str "__eq__" k7, .ref F3⟩, ⟨h8, .str "__le__" k8, .ref F4⟩, ⟨h9, .str "__ge__" k9, .ref F5⟩] (n + 7), #[]⟩) :: (T2, lit (tabObj #[rawInt 48, rawInt 8, .ref c0, rawInt 51, rawInt 8, .ref c1, rawInt 54, rawInt 8, .ref c2, rawInt 57, rawInt 8, .ref c3, rawInt 60, rawInt 8, .ref c4, rawInt 63, rawInt 8, .ref c5])) :: (CC, lit oc) :: own) (by kernel_rfl)
  refine wpAny_execs_cons (wpAny_Assign_Name (wpAny_Constant_none ?_))
  refine stK (h := h'5) (tk := tk'5) e (by kernel_rfl) 13 S_6 rfl (by kernel_rfl) (fun h10 k10 => #[⟨h0, .str "__module__" k0, .str "cpy313.functools" u0⟩, ⟨h1, .str "__qualname__" k1, vq⟩, ⟨h2, .str "__firstlineno__" k2, v2⟩, ⟨h3, .str "__slots__" k3, .ref SL⟩, ⟨h4, .str "__init__" k4, .ref F0⟩, ⟨h5, .str "__lt__" k5, .ref F1⟩, ⟨h6, .str "__gt__" k6, .ref F2⟩, ⟨h7, .str "__eq__" k7, .ref F3⟩, ⟨h8, .str "__le__" k8, .ref F4⟩, ⟨h9, .str "__ge__" k9, .ref F5⟩, ⟨h10, .str "__hash__" k10, .none⟩]) (n' := n + 8) (fun _ _ => by kernel_rfl) fun h10 k10 h₄ tk₄ S₄ => ?_
  refine wpAny_pure ?_
  exact k u0 h3 k3 SL tobj eSL h4 k4 F0 c0 v0' d0 m0 h5 k5 F1 c1 v1' d1 m1 h6 k6 F2 c2 v2' d2 m2 h7 k7 F3 c3 v3' d3 m3 h8 k8 F4 c4 v4' d4 m4 h9 k9 F5 c5 v5' d5 m5 h10 k10 h₄ tk₄ (S₄.cast (by kernel_rfl))
end
end Mine
end
section -- BC3
open PySem PySem.W PyProof.Rows PySem.Spec PySem.Calls PySem.SeqAt
set_option Elab.async false
set_option maxRecDepth 100000
set_option maxHeartbeats 4000000
set_option pp.maxSteps 1500
set_option linter.unusedVariables false
namespace Mine
section
variable {w : World} {A : Around} {E : Value → Shared → Prop} {s : Shared} {h : Heap} {tk : Nat} {L : Addr} {h₀ : Heap} {loc : List (Str × Value)} {own : List (Addr × Sort_)}
theorem stopNs {a : Addr} {n : Str} {Q : Option Value → Shared → Prop} {s : Shared} (k : Stop (wpAny (model PG w) A (nsGet a n) Q E s)) : wpAny (model PG w) A (nsGet a n) Q E s := k
theorem stopGq {v : Value} {n : Str} {Q : Option Value → Shared → Prop} {s : Shared} (k : Stop (wpAny (model PG w) A (getAttr? v n) Q E s)) : wpAny (model PG w) A (getAttr? v n) Q E s := k
theorem stopBC {a b : Str} {c : List Value} {d : List (Str × Value)} {e : List Stmt} {f : Scope} {g : List Str} {i : Nat} {j : Env} {l : Pos} {m : Option Value} {Q : Value → Shared → Prop} {s : Shared} (k : Stop (wpAny (model PG w) A (buildClass a b c d e f g i j l m) Q E s)) : wpAny (model PG w) A (buildClass a b c d e f g i j l m) Q E s := k
theorem tga {t : Tok} {as : List Value} {Q : Value → Shared → Prop} (hA : A.handled = none) (hd : A.depth ≤ 420) (hu : A.units ≤ 200) (has : as = [.type "type", .str "__prepare__" t]) (S : St h₀ L loc own h)
    (k : ∀ F h' tk', St h₀ L loc ((F, lit { cls := .type "builtin_function_or_method", data := .fields #[.builtin "type.__prepare__", .type "type"] }) :: own) h' → Kp h h' → Q (.ref F) (at_ s h' tk')) : wpAny (model PG w) A (call (.builtin "type.__getattribute__") as) Q E (at_ s h tk) := by
  subst has
  exact wk hA hd hu (x_tga fun F h' tk' D => k F h' tk' (S.more (Mem_kp D) (D.nw _ (.head _)).2 ⟨_, (D.nw _ (.head _)).1, rfl⟩) (Mem_kp D))
theorem prepC {kw : List (Str × Value)} {X B : Addr} {t : Tok} {Q : Value → Shared → Prop} (hA : A.handled = none) (hd : A.depth ≤ 420) (hu : A.units ≤ 200) (i j : Nat) (S : St h₀ L loc own h) (hi : own[i]? = some (X, lit { cls := .type "builtin_function_or_method", data := .fields #[.builtin "type.__prepare__", .type "type"] })) (hj : own[j]? = some (B, lit { cls := .type "tuple", data := .seq #[.type "object"] 0 }))
    (k : ∀ F h' tk', St h₀ L loc ((F, lit { cls := .type "dict", data := .dict #[] 0 }) :: own) h' → Kp h h' → h.get? F = none → Q (.ref F) (at_ s h' tk')) (hk : kw = []) : wpAny (model PG w) A (call (.ref X) [.str "K" t, .ref B] kw) Q E (at_ s h tk) := by
  subst hk
  exact wk hA hd hu (x_prep (S.lit i hi) (S.lit j hj) fun F h' tk' D => k F h' tk' (S.more (Mem_kp D) (D.nw _ (.head _)).2 ⟨_, (D.nw _ (.head _)).1, rfl⟩) (Mem_kp D) (D.nw _ (.head _)).2)
theorem mty : ((Manifest.find? "object").elim "type" fun x => x.metatype) = "type" := by kernel_rfl
theorem ndG {α : Type} {a : Addr} {p : Option Value} {k' : Obj → Sem α} {o : Obj} {Q : α → Shared → Prop} (G : Gr w h₀) (S : St h₀ L loc own h) (hk : (KF w.params).lookup a = some o) (q : wpAny (model PG w) A (k' o) Q E (at_ s h tk)) : wpAny (model PG w) A (.load a p k') Q E (at_ s h tk) := nd_load (S.keep _ _ (G.k _ _ hk)) q
theorem mapE {α β : Type} {f : α → Sem β} {l : List α} {acc : List β} {Q : List β → Shared → Prop} {s : Shared} (l' : List α) (e : l = l') (k : wpAny (model PG w) A (List.mapM.loop f l' acc) Q E s) : wpAny (model PG w) A (List.mapM.loop f l acc) Q E s := by subst e; exact k
theorem bget {x : Str} {v : Value} {a : Addr} {Q : Option Value → Shared → Prop} (G : Gr w h) (ha : a = builtinsNs) (hb : bootBuiltins x = some v) (hn : x ≠ "__name__") (k : Q (some v) (at_ s h tk)) : wpAny (model PG w) A (nsGet a x) Q E (at_ s h tk) := by
  subst ha
  obtain ⟨mb, hm, hx⟩ := G.b
  exact wpAny_nsGet (s := at_ s h tk) hm (by rw [hx x hn, hb]; exact k)
theorem gget {x : Str} {a : Addr} {Q : Option Value → Shared → Prop} (r : Option Value) (G : Gr w h) (ha : a = mainGlobals) (hv : nsIn (KF w.params) mainGlobals x = some r) (k : Q r (at_ s h tk)) : wpAny (model PG w) A (nsGet a x) Q E (at_ s h tk) := by
  subst ha
  exact (looks_nsIn (h := (at_ s h tk).heap) G.k hv).here k
theorem gr (G : Gr w h₀) (S : St h₀ L loc own h) : Gr w h := G.keeps S.keep
theorem stopEf {n : Nat} {Q : Unit → Shared → Prop} {s : Shared} (k : Stop (wpAny (model PG w) A (enterFrame n) Q E s)) : wpAny (model PG w) A (enterFrame n) Q E s := k
theorem stopSt {e : Env} {n : Str} {v : Value} {Q : Unit → Shared → Prop} {s : Shared} (k : Stop (wpAny (model PG w) A (storeName e n v) Q E s)) : wpAny (model PG w) A (storeName e n v) Q E s := k
theorem stopRn {c : Code} {v : Option Value} {Q : Flow → Shared → Prop} {s : Shared} (k : Stop (wpAny (model PG w) A (run c v) Q E s)) : wpAny (model PG w) A (run c v) Q E s := k
theorem bodyH {stmts : List Stmt} {env : Env} {Q : Flow → Shared → Prop} {s : Shared} (hann : hasAnns stmts = false) (hdoc : docOf stmts = none)
    (k : ∀ A₂ (E₂ : Value → Shared → Prop) (Q₂ : Flow → Shared → Prop), A₂.handled = A.handled → A₂.depth = A.depth + 1 → A₂.units = A.units + 3 → (∀ f s', Q f s' → Q₂ f s') → wpAny (model PG w) A₂ (execs stmts env) Q₂ E₂ s) : wpAny (model PG w) A (run (.body stmts env)) Q E s :=
  wpAny_run (codeAny_body hann hdoc (k ((A.mark none).deeper env) _ _ rfl rfl rfl fun _ _ q => q))
theorem stopBf {a b : Addr} {Q : Addr → Shared → Prop} {s : Shared} (k : Stop (wpAny (model PG w) A (builtinsFor a b) Q E s)) : wpAny (model PG w) A (builtinsFor a b) Q E s := k
theorem bforX {a b : Addr} {Q : Addr → Shared → Prop} (G : Gr w h) (ha : a = mainGlobals) (k : Q builtinsNs (at_ s h tk)) : wpAny (model PG w) A (builtinsFor a b) Q E (at_ s h tk) := by
  obtain ⟨o, q, c, d, p⟩ := G.m
  unfold builtinsFor
  refine wpAny_bind (gget (some (.ref 4)) G ha (by with_unfolding_all rfl) ?_)
  dsimp only
  rw [if_neg (by decide)]
  refine wpAny_bind (wpAny_load (s := at_ s h tk) q ?_)
  rw [p, d]
  dsimp only
  rw [c, if_pos (by decide)]
  exact wpAny_pure k
noncomputable def fnScope (n : Str) : List Stmt → Scope
  | [] => default
  | .FunctionDef m _ _ _ _ _ sc _ _ _ :: r => if m == n then sc else fnScope n r
  | _ :: r => fnScope n r
noncomputable def ckScope : Scope := fnScope "cmp_to_key" PG.main.body
noncomputable def E0 (L cm : Addr) : Env := { scope := ckScope, locals := L, globals := mainGlobals, cells := [("mycmp", cm)], qual := "cmp_to_key.<locals>.", func := some 68, code := .ref 67, frame := some L, builtins := builtinsNs }
noncomputable def chS (P : Addr) : Sort_ := fun o => ∃ vs file tf flags tg inF text tt, o.cls = .type "code" ∧ o.data = .fields vs ∧ vs[11]? = some (.ref P) ∧ vs.getD 11 .none = .ref P ∧ vs.getD 18 .none = .str file tf ∧
    vs.getD 7 .none = .int flags tg ∧ vs.getD 9 .none = .bool inF ∧ vs.getD 10 .none = .int text tt
theorem chS.hd {h : Heap} {c P : Addr} {o : Obj} (x : chS P o) (e : h.get? c = some o) (ne : c ≠ P) : CodeHd h c P := by
  obtain ⟨vs, file, tf, flags, tg, inF, text, tt, a1, a2, a3, a4, a5, a6, a7, a8⟩ := x
  exact ⟨o, vs, file, tf, flags, tg, inF, text, tt, e, a1, a2, a3, a4, a5, a6, a7, a8, ne⟩
set_option genInjectivity false in
set_option genSizeOfSpec false in
structure KP where
  (D MD B SL ST F0 F1 F2 F3 F4 F5 c0 c1 cm : Addr)
  (t q tm u0 u2 : Tok)
  (k0 k2 k3 k4 k5 k6 k7 k8 k9 k10 k11 k12 k13 : Tok)
  (h0 h2 h3 h4 h5 h6 h7 h8 h9 h10 h11 h12 h13 : Int)
  (d0 m0 v0 d1 m1 v1 : Value)
noncomputable def KP.cls (p : KP) (C : Addr) : Obj := { cls := .type "type", data := .cls { name := "K", bases := [.type "object"], mro := [.ref C, .type "object"], ns := p.D, qualname := "cmp_to_key.<locals>.K", hasDict := false, slotNames := ["obj"] }, slots := #[some (.ref p.B), none, some (.str "K" p.t), some (.str "cmp_to_key.<locals>.K" p.q), some (.builtin "object.__new__"), some (.bool false)] }
noncomputable def KP.mem (p : KP) (C : Addr) : Obj := { cls := .type "member_descriptor", data := .fields #[.str "obj" p.tm, .ref C, .builtin "proto.slot", .builtin "proto.slot#set", rawInt 0] }
noncomputable def KP.dict (p : KP) : Obj := { cls := .type "dict", data := .dict #[⟨p.h0, .str "__module__" p.k0, .str "cpy313.functools" p.u0⟩, ⟨p.h2, .str "__firstlineno__" p.k2, .int 44 p.u2⟩, ⟨p.h3, .str "__slots__" p.k3, .ref p.SL⟩, ⟨p.h4, .str "__init__" p.k4, .ref p.F0⟩, ⟨p.h5, .str "__lt__" p.k5, .ref p.F1⟩, ⟨p.h6, .str "__gt__" p.k6, .ref p.F2⟩, ⟨p.h7, .str "__eq__" p.k7, .ref p.F3⟩, ⟨p.h8, .str "__le__" p.k8, .ref p.F4⟩, ⟨p.h9, .str "__ge__" p.k9, .ref p.F5⟩, ⟨p.h10, .str "__hash__" p.k10, .none⟩, ⟨p.h11, .str "__static_attributes__" p.k11, .ref p.ST⟩, ⟨p.h12, .str "obj" p.k12, .ref p.MD⟩, ⟨p.h13, .str "__doc__" p.k13, .none⟩] 3 }
structure KC (h : Heap) (p : KP) (C f : Addr) : Prop where
  c : h.get? C = some (p.cls C)
  d : h.get? p.D = some p.dict
  m : h.get? p.MD = some (p.mem C)
  f0 : h.get? p.F0 = some (kFn 2 "__init__" [] p.d0 p.m0 p.c0 p.v0)
  f1 : h.get? p.F1 = some (kFn 3 "__lt__" [("mycmp", p.cm)] p.d1 p.m1 p.c1 p.v1)
  i0 : Is h p.c0 (codS ("cmp_to_key.<locals>.K." ++ "__init__"))
  i1 : Is h p.c1 (codS ("cmp_to_key.<locals>.K." ++ "__lt__"))
  cl : Is h p.cm (cll (some (.ref f)))
noncomputable def KP.all (p : KP) (C : Addr) : List Addr := [C, p.D, p.MD, p.F0, p.F1, p.c0, p.c1, p.cm]
theorem KC.but {h h' : Heap} {p : KP} {C f L : Addr} (x : KC h p C f) (ne : L ∉ p.all C) (k : ∀ b o, b ≠ L → h.get? b = some o → h'.get? b = some o) : KC h' p C f := by
  have n : ∀ b ∈ p.all C, b ≠ L := fun b hb z => ne (z ▸ hb)
  have ki : ∀ b ∈ p.all C, ∀ P, Is h b P → Is h' b P := fun b hb P y => let ⟨o, e, q⟩ := y; ⟨o, k _ _ (n b hb) e, q⟩
  exact ⟨k _ _ (n _ (by simp [KP.all])) x.c, k _ _ (n _ (by simp [KP.all])) x.d, k _ _ (n _ (by simp [KP.all])) x.m, k _ _ (n _ (by simp [KP.all])) x.f0, k _ _ (n _ (by simp [KP.all])) x.f1, ki _ (by simp [KP.all]) _ x.i0, ki _ (by simp [KP.all]) _ x.i1, ki _ (by simp [KP.all]) _ x.cl⟩
theorem KC.keeps {h h' : Heap} {p : KP} {C f : Addr} (x : KC h p C f) (k : Kp h h') : KC h' p C f :=
  ⟨k _ _ x.c, k _ _ x.d, k _ _ x.m, k _ _ x.f0, k _ _ x.f1, x.i0.keeps k, x.i1.keeps k, x.cl.keeps k⟩
theorem KP.each {p : KP} {C : Addr} {P : Addr → Prop} (a0 : P C) (a1 : P p.D) (a2 : P p.MD) (a3 : P p.F0) (a4 : P p.F1) (a5 : P p.c0) (a6 : P p.c1) (a7 : P p.cm) : ∀ x ∈ p.all C, P x := by
  intro x hx
  simp only [KP.all, List.mem_cons, List.not_mem_nil, or_false] at hx
  rcases hx with z | z | z | z | z | z | z | z <;> rw [z] <;> assumption
theorem KC.of {p : KP} {C f : Addr} {base h' : Heap} {K : Addr} {lo : List (Str × Value)} {ow : List (Addr × Sort_)} (S : St base K lo ow h') (e0 : ow[1]? = some (C, lit (p.cls C))) (e1 : ow[2]? = some (p.D, lit p.dict)) (e2 : ow[0]? = some (p.MD, lit (p.mem C))) (e3 : ow[7]? = some (p.F0, fcS (lit (kFn 2 "__init__" [] p.d0 p.m0 p.c0 p.v0))))
    (e4 : ow[8]? = some (p.F1, fcS (lit (kFn 3 "__lt__" [("mycmp", p.cm)] p.d1 p.m1 p.c1 p.v1)))) (e5 : ow[13]? = some (p.c0, codS ("cmp_to_key.<locals>.K." ++ "__init__"))) (e6 : ow[14]? = some (p.c1, codS ("cmp_to_key.<locals>.K." ++ "__lt__"))) (e7 : ow[16]? = some (p.cm, cll (some (.ref f)))) :
    KC h' p C f ∧ K ∉ p.all C ∧ ∀ a ∈ p.all C, base.get? a = none := by
  have fr : ∀ {i : Nat} {a : Addr} {P : Sort_}, ow[i]? = some (a, P) → base.get? a = none ∧ a ≠ K := fun {i a P} hi => S.fresh (a, P) (List.mem_of_getElem? hi)
  have nw := KP.each (p := p) (C := C) (P := fun a => base.get? a = none ∧ a ≠ K) (fr e0) (fr e1) (fr e2) (fr e3) (fr e4) (fr e5) (fr e6) (fr e7)
  obtain ⟨o, g, _, q⟩ := S.at _ e3
  obtain ⟨o', g', _, q'⟩ := S.at _ e4
  exact ⟨⟨S.lit _ e0, S.lit _ e1, S.lit _ e2, (show o = _ from q) ▸ g, (show o' = _ from q') ▸ g', S.at _ e5, S.at _ e6, S.at _ e7⟩, fun hm => (nw _ hm).2 rfl, fun a ha => (nw a ha).1⟩
theorem bcK {f cm : Addr} {Q : Value → Shared → Prop} (G : Gr w h₀) (hA : A.handled = none) (hd : A.depth ≤ 409) (hu : A.units ≤ 70) (h1 : ∃ o, h₀.get? sysModules = some o) (S : St h₀ L loc [(63, lit (tabObj #[])), (cm, cll (some (.ref f)))] h)
    (k : ∀ C p ps h' tk', St h₀ L loc [(63, lit (tabObj ps)), (cm, cll (some (.ref f)))] h' → KC h' p C f → L ∉ p.all C → (∀ a ∈ p.all C, h₀.get? a = none) → Q (.ref C) (at_ s h' tk')) :
    wpAny (model PG w) A (buildClass "K" "cmp_to_key.<locals>.K" [.type "object"] [] kBody kScope ["obj"] 44 (E0 L cm) ⟨44, 4, 65, 23⟩ none) Q E (at_ s h tk) := by
  refine hide fun Q' hQ' => ?_
  unfold buildClass
  repeat (first | (with_reducible refine bindU ?_; intro FF qZ hqZ) | (with_reducible refine bindH' fun qZ hqZ => ?_) | (with_reducible first | refine wpAny_holding ?_ | refine stopA ?_ | refine stopBf ?_ | refine stopEf ?_ | refine stopRn ?_ | refine stopNs ?_ | refine stopGq ?_ | refine stopBC ?_ | refine stopSt ?_ | refine stopM ?_ | refine stopT ?_ | refine stopS ?_ | refine stopK ?_ | refine ndF ?_ | refine wpAny_standAt ?_ | refine X.x_at ?_) | (with_reducible refine attH fun eZ => ?_) | (with_reducible first | refine nd_pure ?_ | refine nd_rule ?_ | refine nd_point ?_ | refine nd_ask ?_) | ((refine' (?_ : Sc _ _) (fun xZ => by k_node; (repeat (first | (with_reducible first | refine stopI ?_ | refine stopJ ?_ | refine stop1 ?_ | refine stop2 ?_ | refine stop3 ?_ | refine stop4 ?_ | refine stop5 ?_ | refine stop6 ?_ | refine stopH ?_ | refine stop7 ?_ | refine stop9 ?_ | refine stop8 ?_ | refine stopA ?_ | refine stopBf ?_ | refine stopEf ?_ | refine stopRn ?_ | refine stopNs ?_ | refine stopGq ?_ | refine stopBC ?_ | refine stopSt ?_ | refine stopM ?_ | refine stopT ?_ | refine stopS ?_ | refine stopK ?_) | k_node)); with_reducible first | exact go xZ.1 | exact xZ.1) ?_); exact fun _ x => x) | (with_reducible refine (by assumption : ∀ a s, _ → _) _ _ ?_) | (with_reducible first | refine Looks.here (by assumption) ?_ | refine wpAny_onRaise ?_ | refine lL 0 ?_ | refine lL 1 ?_ | refine lL 2 ?_ | refine lL 3 ?_ | refine lL 4 ?_ | refine lL 5 ?_ | refine lL 6 ?_) | ((with_reducible first | refine ndU 0 (by assumption) (by with_unfolding_all rfl) rfl rfl fun hZ sZ => ?_ | refine ndU 1 (by assumption) (by with_unfolding_all rfl) rfl rfl fun hZ sZ => ?_ | refine ndU 2 (by assumption) (by with_unfolding_all rfl) rfl rfl fun hZ sZ => ?_ | refine ndU 3 (by assumption) (by with_unfolding_all rfl) rfl rfl fun hZ sZ => ?_ | refine ndU 4 (by assumption) (by with_unfolding_all rfl) rfl rfl fun hZ sZ => ?_ | refine ndU 5 (by assumption) (by with_unfolding_all rfl) rfl rfl fun hZ sZ => ?_ | refine ndU 6 (by assumption) (by with_unfolding_all rfl) rfl rfl fun hZ sZ => ?_); dsimp only [List.set] at sZ) | (with_reducible first | refine iteF (by assumption) ?_ | refine iteT (by assumption) ?_ | refine iteF (by kernel_rfl) ?_ | refine iteT (by kernel_rfl) ?_ | refine ndG (by assumption) (by assumption) (by with_unfolding_all rfl) ?_))
  refine go (ndA (by assumption) rfl fun B h₂ S₂ nB kB => ?_)
  repeat (first | (with_reducible refine bindU ?_; intro FF qZ hqZ) | (with_reducible refine bindH' fun qZ hqZ => ?_) | (with_reducible first | refine wpAny_holding ?_ | refine stopA ?_ | refine stopBf ?_ | refine stopEf ?_ | refine stopRn ?_ | refine stopNs ?_ | refine stopGq ?_ | refine stopBC ?_ | refine stopSt ?_ | refine stopM ?_ | refine stopT ?_ | refine stopS ?_ | refine stopK ?_ | refine ndF ?_ | refine wpAny_standAt ?_ | refine X.x_at ?_) | (with_reducible refine attH fun eZ => ?_) | (with_reducible first | refine nd_pure ?_ | refine nd_rule ?_ | refine nd_point ?_ | refine nd_ask ?_) | ((refine' (?_ : Sc _ _) (fun xZ => by k_node; (repeat (first | (with_reducible first | refine stopI ?_ | refine stopJ ?_ | refine stop1 ?_ | refine stop2 ?_ | refine stop3 ?_ | refine stop4 ?_ | refine stop5 ?_ | refine stop6 ?_ | refine stopH ?_ | refine stop7 ?_ | refine stop9 ?_ | refine stop8 ?_ | refine stopA ?_ | refine stopBf ?_ | refine stopEf ?_ | refine stopRn ?_ | refine stopNs ?_ | refine stopGq ?_ | refine stopBC ?_ | refine stopSt ?_ | refine stopM ?_ | refine stopT ?_ | refine stopS ?_ | refine stopK ?_) | k_node)); with_reducible first | exact go xZ.1 | exact xZ.1) ?_); exact fun _ x => x) | (with_reducible refine (by assumption : ∀ a s, _ → _) _ _ ?_) | (with_reducible first | refine Looks.here (by assumption) ?_ | refine wpAny_onRaise ?_ | refine lL 0 ?_ | refine lL 1 ?_ | refine lL 2 ?_ | refine lL 3 ?_ | refine lL 4 ?_ | refine lL 5 ?_ | refine lL 6 ?_) | ((with_reducible first | refine ndU 0 (by assumption) (by with_unfolding_all rfl) rfl rfl fun hZ sZ => ?_ | refine ndU 1 (by assumption) (by with_unfolding_all rfl) rfl rfl fun hZ sZ => ?_ | refine ndU 2 (by assumption) (by with_unfolding_all rfl) rfl rfl fun hZ sZ => ?_ | refine ndU 3 (by assumption) (by with_unfolding_all rfl) rfl rfl fun hZ sZ => ?_ | refine ndU 4 (by assumption) (by with_unfolding_all rfl) rfl rfl fun hZ sZ => ?_ | refine ndU 5 (by assumption) (by with_unfolding_all rfl) rfl rfl fun hZ sZ => ?_ | refine ndU 6 (by assumption) (by with_unfolding_all rfl) rfl rfl fun hZ sZ => ?_); dsimp only [List.set] at sZ) | (with_reducible first | refine iteF (by assumption) ?_ | refine iteT (by assumption) ?_ | refine iteF (by kernel_rfl) ?_ | refine iteT (by kernel_rfl) ?_ | refine ndG (by assumption) (by assumption) (by with_unfolding_all rfl) ?_))
  rw [mty]
  refine go ?_
  unfold getAttr? getAttrBy?
  repeat (first | (with_reducible refine bindU ?_; intro FF qZ hqZ) | (with_reducible refine bindH' fun qZ hqZ => ?_) | (with_reducible first | refine wpAny_holding ?_ | refine stopA ?_ | refine stopBf ?_ | refine stopEf ?_ | refine stopRn ?_ | refine stopNs ?_ | refine stopGq ?_ | refine stopBC ?_ | refine stopSt ?_ | refine stopM ?_ | refine stopT ?_ | refine stopS ?_ | refine stopK ?_ | refine ndF ?_ | refine wpAny_standAt ?_ | refine X.x_at ?_) | (with_reducible refine attH fun eZ => ?_) | (with_reducible first | refine nd_pure ?_ | refine nd_rule ?_ | refine nd_point ?_ | refine nd_ask ?_) | ((refine' (?_ : Sc _ _) (fun xZ => by k_node; (repeat (first | (with_reducible first | refine stopI ?_ | refine stopJ ?_ | refine stop1 ?_ | refine stop2 ?_ | refine stop3 ?_ | refine stop4 ?_ | refine stop5 ?_ | refine stop6 ?_ | refine stopH ?_ | refine stop7 ?_ | refine stop9 ?_ | refine stop8 ?_ | refine stopA ?_ | refine stopBf ?_ | refine stopEf ?_ | refine stopRn ?_ | refine stopNs ?_ | refine stopGq ?_ | refine stopBC ?_ | refine stopSt ?_ | refine stopM ?_ | refine stopT ?_ | refine stopS ?_ | refine stopK ?_) | k_node)); with_reducible first | exact go xZ.1 | exact xZ.1) ?_); exact fun _ x => x) | (with_reducible refine (by assumption : ∀ a s, _ → _) _ _ ?_) | (with_reducible first | refine Looks.here (by assumption) ?_ | refine wpAny_onRaise ?_ | refine lL 0 ?_ | refine lL 1 ?_ | refine lL 2 ?_ | refine lL 3 ?_ | refine lL 4 ?_ | refine lL 5 ?_ | refine lL 6 ?_) | ((with_reducible first | refine ndU 0 (by assumption) (by with_unfolding_all rfl) rfl rfl fun hZ sZ => ?_ | refine ndU 1 (by assumption) (by with_unfolding_all rfl) rfl rfl fun hZ sZ => ?_ | refine ndU 2 (by assumption) (by with_unfolding_all rfl) rfl rfl fun hZ sZ => ?_ | refine ndU 3 (by assumption) (by with_unfolding_all rfl) rfl rfl fun hZ sZ => ?_ | refine ndU 4 (by assumption) (by with_unfolding_all rfl) rfl rfl fun hZ sZ => ?_ | refine ndU 5 (by assumption) (by with_unfolding_all rfl) rfl rfl fun hZ sZ => ?_ | refine ndU 6 (by assumption) (by with_unfolding_all rfl) rfl rfl fun hZ sZ => ?_); dsimp only [List.set] at sZ) | (with_reducible first | refine iteF (by assumption) ?_ | refine iteT (by assumption) ?_ | refine iteF (by kernel_rfl) ?_ | refine iteT (by kernel_rfl) ?_ | refine ndG (by assumption) (by assumption) (by with_unfolding_all rfl) ?_))
  refine go (tlk (some (.builtin "type.__getattribute__")) (by kernel_rfl) ?_)
  repeat (first | (with_reducible refine bindU ?_; intro FF qZ hqZ) | (with_reducible refine bindH' fun qZ hqZ => ?_) | (with_reducible first | refine wpAny_holding ?_ | refine stopA ?_ | refine stopBf ?_ | refine stopEf ?_ | refine stopRn ?_ | refine stopNs ?_ | refine stopGq ?_ | refine stopBC ?_ | refine stopSt ?_ | refine stopM ?_ | refine stopT ?_ | refine stopS ?_ | refine stopK ?_ | refine ndF ?_ | refine wpAny_standAt ?_ | refine X.x_at ?_) | (with_reducible refine attH fun eZ => ?_) | (with_reducible first | refine nd_pure ?_ | refine nd_rule ?_ | refine nd_point ?_ | refine nd_ask ?_) | ((refine' (?_ : Sc _ _) (fun xZ => by k_node; (repeat (first | (with_reducible first | refine stopI ?_ | refine stopJ ?_ | refine stop1 ?_ | refine stop2 ?_ | refine stop3 ?_ | refine stop4 ?_ | refine stop5 ?_ | refine stop6 ?_ | refine stopH ?_ | refine stop7 ?_ | refine stop9 ?_ | refine stop8 ?_ | refine stopA ?_ | refine stopBf ?_ | refine stopEf ?_ | refine stopRn ?_ | refine stopNs ?_ | refine stopGq ?_ | refine stopBC ?_ | refine stopSt ?_ | refine stopM ?_ | refine stopT ?_ | refine stopS ?_ | refine stopK ?_) | k_node)); with_reducible first | exact go xZ.1 | exact xZ.1) ?_); exact fun _ x => x) | (with_reducible refine (by assumption : ∀ a s, _ → _) _ _ ?_) | (with_reducible first | refine Looks.here (by assumption) ?_ | refine wpAny_onRaise ?_ | refine lL 0 ?_ | refine lL 1 ?_ | refine lL 2 ?_ | refine lL 3 ?_ | refine lL 4 ?_ | refine lL 5 ?_ | refine lL 6 ?_) | ((with_reducible first | refine ndU 0 (by assumption) (by with_unfolding_all rfl) rfl rfl fun hZ sZ => ?_ | refine ndU 1 (by assumption) (by with_unfolding_all rfl) rfl rfl fun hZ sZ => ?_ | refine ndU 2 (by assumption) (by with_unfolding_all rfl) rfl rfl fun hZ sZ => ?_ | refine ndU 3 (by assumption) (by with_unfolding_all rfl) rfl rfl fun hZ sZ => ?_ | refine ndU 4 (by assumption) (by with_unfolding_all rfl) rfl rfl fun hZ sZ => ?_ | refine ndU 5 (by assumption) (by with_unfolding_all rfl) rfl rfl fun hZ sZ => ?_ | refine ndU 6 (by assumption) (by with_unfolding_all rfl) rfl rfl fun hZ sZ => ?_); dsimp only [List.set] at sZ) | (with_reducible first | refine iteF (by assumption) ?_ | refine iteT (by assumption) ?_ | refine iteF (by kernel_rfl) ?_ | refine iteT (by kernel_rfl) ?_ | refine ndG (by assumption) (by assumption) (by with_unfolding_all rfl) ?_))
  refine go (tga hA (by omega) (by omega) (by with_unfolding_all rfl) (by assumption) fun X h₃ tk₃ S₃ k₃ => ?_)
  repeat (first | (with_reducible refine bindU ?_; intro FF qZ hqZ) | (with_reducible refine bindH' fun qZ hqZ => ?_) | (with_reducible first | refine wpAny_holding ?_ | refine stopA ?_ | refine stopBf ?_ | refine stopEf ?_ | refine stopRn ?_ | refine stopNs ?_ | refine stopGq ?_ | refine stopBC ?_ | refine stopSt ?_ | refine stopM ?_ | refine stopT ?_ | refine stopS ?_ | refine stopK ?_ | refine ndF ?_ | refine wpAny_standAt ?_ | refine X.x_at ?_) | (with_reducible refine attH fun eZ => ?_) | (with_reducible first | refine nd_pure ?_ | refine nd_rule ?_ | refine nd_point ?_ | refine nd_ask ?_) | ((refine' (?_ : Sc _ _) (fun xZ => by k_node; (repeat (first | (with_reducible first | refine stopI ?_ | refine stopJ ?_ | refine stop1 ?_ | refine stop2 ?_ | refine stop3 ?_ | refine stop4 ?_ | refine stop5 ?_ | refine stop6 ?_ | refine stopH ?_ | refine stop7 ?_ | refine stop9 ?_ | refine stop8 ?_ | refine stopA ?_ | refine stopBf ?_ | refine stopEf ?_ | refine stopRn ?_ | refine stopNs ?_ | refine stopGq ?_ | refine stopBC ?_ | refine stopSt ?_ | refine stopM ?_ | refine stopT ?_ | refine stopS ?_ | refine stopK ?_) | k_node)); with_reducible first | exact go xZ.1 | exact xZ.1) ?_); exact fun _ x => x) | (with_reducible refine (by assumption : ∀ a s, _ → _) _ _ ?_) | (with_reducible first | refine Looks.here (by assumption) ?_ | refine wpAny_onRaise ?_ | refine lL 0 ?_ | refine lL 1 ?_ | refine lL 2 ?_ | refine lL 3 ?_ | refine lL 4 ?_ | refine lL 5 ?_ | refine lL 6 ?_) | ((with_reducible first | refine ndU 0 (by assumption) (by with_unfolding_all rfl) rfl rfl fun hZ sZ => ?_ | refine ndU 1 (by assumption) (by with_unfolding_all rfl) rfl rfl fun hZ sZ => ?_ | refine ndU 2 (by assumption) (by with_unfolding_all rfl) rfl rfl fun hZ sZ => ?_ | refine ndU 3 (by assumption) (by with_unfolding_all rfl) rfl rfl fun hZ sZ => ?_ | refine ndU 4 (by assumption) (by with_unfolding_all rfl) rfl rfl fun hZ sZ => ?_ | refine ndU 5 (by assumption) (by with_unfolding_all rfl) rfl rfl fun hZ sZ => ?_ | refine ndU 6 (by assumption) (by with_unfolding_all rfl) rfl rfl fun hZ sZ => ?_); dsimp only [List.set] at sZ) | (with_reducible first | refine iteF (by assumption) ?_ | refine iteT (by assumption) ?_ | refine iteF (by kernel_rfl) ?_ | refine iteT (by kernel_rfl) ?_ | refine ndG (by assumption) (by assumption) (by with_unfolding_all rfl) ?_))
  have S₄ := St.cast (own' := [(X, lit { cls := .type "builtin_function_or_method", data := .fields #[.builtin "type.__prepare__", .type "type"] }), (B, lit { cls := .type "tuple", data := .seq #[.type "object"] 0 }), (63, lit (tabObj #[])), (cm, cll (some (.ref f)))]) S₃ (by kernel_rfl)
  refine go (prepC hA (by omega) (by omega) 0 1 S₄ rfl rfl (fun N h₅ tk₅ S₅ k₅ nN => ?_) (by with_unfolding_all rfl))
  have hNs : (N == sysModules) = false := by
    obtain ⟨o1, e1⟩ := h1
    rw [beq_eq_false_iff_ne]
    intro z
    rw [z, S₄.keep _ _ e1] at nN; cases nN
  have S₅ := (S₅.pick [0, 2, 3, 4] (by decide)).cast (own' := [(N, lit { cls := .type "dict", data := .dict #[] 0 }), (B, lit { cls := .type "tuple", data := .seq #[.type "object"] 0 }), (63, lit (tabObj #[])), (cm, cll (some (.ref f)))]) (by kernel_rfl)
  clear S₂ S₃ S₄
  repeat (first | (with_reducible refine bindU ?_; intro FF qZ hqZ) | (with_reducible refine bindH' fun qZ hqZ => ?_) | (with_reducible first | refine wpAny_holding ?_ | refine stopA ?_ | refine stopBf ?_ | refine stopEf ?_ | refine stopRn ?_ | refine stopNs ?_ | refine stopGq ?_ | refine stopBC ?_ | refine stopSt ?_ | refine stopM ?_ | refine stopT ?_ | refine stopS ?_ | refine stopK ?_ | refine ndF ?_ | refine wpAny_standAt ?_ | refine X.x_at ?_) | (with_reducible refine attH fun eZ => ?_) | (with_reducible first | refine nd_pure ?_ | refine nd_rule ?_ | refine nd_point ?_ | refine nd_ask ?_) | ((refine' (?_ : Sc _ _) (fun xZ => by k_node; (repeat (first | (with_reducible first | refine stopI ?_ | refine stopJ ?_ | refine stop1 ?_ | refine stop2 ?_ | refine stop3 ?_ | refine stop4 ?_ | refine stop5 ?_ | refine stop6 ?_ | refine stopH ?_ | refine stop7 ?_ | refine stop9 ?_ | refine stop8 ?_ | refine stopA ?_ | refine stopBf ?_ | refine stopEf ?_ | refine stopRn ?_ | refine stopNs ?_ | refine stopGq ?_ | refine stopBC ?_ | refine stopSt ?_ | refine stopM ?_ | refine stopT ?_ | refine stopS ?_ | refine stopK ?_) | k_node)); with_reducible first | exact go xZ.1 | exact xZ.1) ?_); exact fun _ x => x) | (with_reducible refine (by assumption : ∀ a s, _ → _) _ _ ?_) | (with_reducible first | refine Looks.here (by assumption) ?_ | refine wpAny_onRaise ?_ | refine lL 0 ?_ | refine lL 1 ?_ | refine lL 2 ?_ | refine lL 3 ?_ | refine lL 4 ?_ | refine lL 5 ?_ | refine lL 6 ?_) | ((with_reducible first | refine ndU 0 (by assumption) (by with_unfolding_all rfl) rfl rfl fun hZ sZ => ?_ | refine ndU 1 (by assumption) (by with_unfolding_all rfl) rfl rfl fun hZ sZ => ?_ | refine ndU 2 (by assumption) (by with_unfolding_all rfl) rfl rfl fun hZ sZ => ?_ | refine ndU 3 (by assumption) (by with_unfolding_all rfl) rfl rfl fun hZ sZ => ?_ | refine ndU 4 (by assumption) (by with_unfolding_all rfl) rfl rfl fun hZ sZ => ?_ | refine ndU 5 (by assumption) (by with_unfolding_all rfl) rfl rfl fun hZ sZ => ?_ | refine ndU 6 (by assumption) (by with_unfolding_all rfl) rfl rfl fun hZ sZ => ?_); dsimp only [List.set] at sZ) | (with_reducible first | refine iteF (by assumption) ?_ | refine iteT (by assumption) ?_ | refine iteF (by kernel_rfl) ?_ | refine iteT (by kernel_rfl) ?_ | refine ndG (by assumption) (by assumption) (by with_unfolding_all rfl) ?_))
  refine go (spL (r := some (.builtin "dict.__getitem__")) "dict" 0 S₅ rfl rfl rfl (by kernel_rfl) ?_)
  repeat (first | (with_reducible refine bindU ?_; intro FF qZ hqZ) | (with_reducible refine bindH' fun qZ hqZ => ?_) | (with_reducible first | refine wpAny_holding ?_ | refine stopA ?_ | refine stopBf ?_ | refine stopEf ?_ | refine stopRn ?_ | refine stopNs ?_ | refine stopGq ?_ | refine stopBC ?_ | refine stopSt ?_ | refine stopM ?_ | refine stopT ?_ | refine stopS ?_ | refine stopK ?_ | refine ndF ?_ | refine wpAny_standAt ?_ | refine X.x_at ?_) | (with_reducible refine attH fun eZ => ?_) | (with_reducible first | refine nd_pure ?_ | refine nd_rule ?_ | refine nd_point ?_ | refine nd_ask ?_) | ((refine' (?_ : Sc _ _) (fun xZ => by k_node; (repeat (first | (with_reducible first | refine stopI ?_ | refine stopJ ?_ | refine stop1 ?_ | refine stop2 ?_ | refine stop3 ?_ | refine stop4 ?_ | refine stop5 ?_ | refine stop6 ?_ | refine stopH ?_ | refine stop7 ?_ | refine stop9 ?_ | refine stop8 ?_ | refine stopA ?_ | refine stopBf ?_ | refine stopEf ?_ | refine stopRn ?_ | refine stopNs ?_ | refine stopGq ?_ | refine stopBC ?_ | refine stopSt ?_ | refine stopM ?_ | refine stopT ?_ | refine stopS ?_ | refine stopK ?_) | k_node)); with_reducible first | exact go xZ.1 | exact xZ.1) ?_); exact fun _ x => x) | (with_reducible refine (by assumption : ∀ a s, _ → _) _ _ ?_) | (with_reducible first | refine Looks.here (by assumption) ?_ | refine wpAny_onRaise ?_ | refine lL 0 ?_ | refine lL 1 ?_ | refine lL 2 ?_ | refine lL 3 ?_ | refine lL 4 ?_ | refine lL 5 ?_ | refine lL 6 ?_) | ((with_reducible first | refine ndU 0 (by assumption) (by with_unfolding_all rfl) rfl rfl fun hZ sZ => ?_ | refine ndU 1 (by assumption) (by with_unfolding_all rfl) rfl rfl fun hZ sZ => ?_ | refine ndU 2 (by assumption) (by with_unfolding_all rfl) rfl rfl fun hZ sZ => ?_ | refine ndU 3 (by assumption) (by with_unfolding_all rfl) rfl rfl fun hZ sZ => ?_ | refine ndU 4 (by assumption) (by with_unfolding_all rfl) rfl rfl fun hZ sZ => ?_ | refine ndU 5 (by assumption) (by with_unfolding_all rfl) rfl rfl fun hZ sZ => ?_ | refine ndU 6 (by assumption) (by with_unfolding_all rfl) rfl rfl fun hZ sZ => ?_); dsimp only [List.set] at sZ) | (with_reducible first | refine iteF (by assumption) ?_ | refine iteT (by assumption) ?_ | refine iteF (by kernel_rfl) ?_ | refine iteT (by kernel_rfl) ?_ | refine ndG (by assumption) (by assumption) (by with_unfolding_all rfl) ?_))
  refine mapE ["mycmp"] (by kernel_rfl) ?_
  repeat (first | (with_reducible refine bindU ?_; intro FF qZ hqZ) | (with_reducible refine bindH' fun qZ hqZ => ?_) | (with_reducible first | refine wpAny_holding ?_ | refine stopA ?_ | refine stopBf ?_ | refine stopEf ?_ | refine stopRn ?_ | refine stopNs ?_ | refine stopGq ?_ | refine stopBC ?_ | refine stopSt ?_ | refine stopM ?_ | refine stopT ?_ | refine stopS ?_ | refine stopK ?_ | refine ndF ?_ | refine wpAny_standAt ?_ | refine X.x_at ?_) | (with_reducible refine attH fun eZ => ?_) | (with_reducible first | refine nd_pure ?_ | refine nd_rule ?_ | refine nd_point ?_ | refine nd_ask ?_) | ((refine' (?_ : Sc _ _) (fun xZ => by k_node; (repeat (first | (with_reducible first | refine stopI ?_ | refine stopJ ?_ | refine stop1 ?_ | refine stop2 ?_ | refine stop3 ?_ | refine stop4 ?_ | refine stop5 ?_ | refine stop6 ?_ | refine stopH ?_ | refine stop7 ?_ | refine stop9 ?_ | refine stop8 ?_ | refine stopA ?_ | refine stopBf ?_ | refine stopEf ?_ | refine stopRn ?_ | refine stopNs ?_ | refine stopGq ?_ | refine stopBC ?_ | refine stopSt ?_ | refine stopM ?_ | refine stopT ?_ | refine stopS ?_ | refine stopK ?_) | k_node)); with_reducible first | exact go xZ.1 | exact xZ.1) ?_); exact fun _ x => x) | (with_reducible refine (by assumption : ∀ a s, _ → _) _ _ ?_) | (with_reducible first | refine Looks.here (by assumption) ?_ | refine wpAny_onRaise ?_ | refine lL 0 ?_ | refine lL 1 ?_ | refine lL 2 ?_ | refine lL 3 ?_ | refine lL 4 ?_ | refine lL 5 ?_ | refine lL 6 ?_) | ((with_reducible first | refine ndU 0 (by assumption) (by with_unfolding_all rfl) rfl rfl fun hZ sZ => ?_ | refine ndU 1 (by assumption) (by with_unfolding_all rfl) rfl rfl fun hZ sZ => ?_ | refine ndU 2 (by assumption) (by with_unfolding_all rfl) rfl rfl fun hZ sZ => ?_ | refine ndU 3 (by assumption) (by with_unfolding_all rfl) rfl rfl fun hZ sZ => ?_ | refine ndU 4 (by assumption) (by with_unfolding_all rfl) rfl rfl fun hZ sZ => ?_ | refine ndU 5 (by assumption) (by with_unfolding_all rfl) rfl rfl fun hZ sZ => ?_ | refine ndU 6 (by assumption) (by with_unfolding_all rfl) rfl rfl fun hZ sZ => ?_); dsimp only [List.set] at sZ) | (with_reducible first | refine iteF (by assumption) ?_ | refine iteT (by assumption) ?_ | refine iteF (by kernel_rfl) ?_ | refine iteT (by kernel_rfl) ?_ | refine ndG (by assumption) (by assumption) (by with_unfolding_all rfl) ?_))
  refine go (ndA (by assumption) rfl fun T1 h₆ S₆ n₆ k₆ => ?_)
  repeat (first | (with_reducible refine bindU ?_; intro FF qZ hqZ) | (with_reducible refine bindH' fun qZ hqZ => ?_) | (with_reducible first | refine wpAny_holding ?_ | refine stopA ?_ | refine stopBf ?_ | refine stopEf ?_ | refine stopRn ?_ | refine stopNs ?_ | refine stopGq ?_ | refine stopBC ?_ | refine stopSt ?_ | refine stopM ?_ | refine stopT ?_ | refine stopS ?_ | refine stopK ?_ | refine ndF ?_ | refine wpAny_standAt ?_ | refine X.x_at ?_) | (with_reducible refine attH fun eZ => ?_) | (with_reducible first | refine nd_pure ?_ | refine nd_rule ?_ | refine nd_point ?_ | refine nd_ask ?_) | ((refine' (?_ : Sc _ _) (fun xZ => by k_node; (repeat (first | (with_reducible first | refine stopI ?_ | refine stopJ ?_ | refine stop1 ?_ | refine stop2 ?_ | refine stop3 ?_ | refine stop4 ?_ | refine stop5 ?_ | refine stop6 ?_ | refine stopH ?_ | refine stop7 ?_ | refine stop9 ?_ | refine stop8 ?_ | refine stopA ?_ | refine stopBf ?_ | refine stopEf ?_ | refine stopRn ?_ | refine stopNs ?_ | refine stopGq ?_ | refine stopBC ?_ | refine stopSt ?_ | refine stopM ?_ | refine stopT ?_ | refine stopS ?_ | refine stopK ?_) | k_node)); with_reducible first | exact go xZ.1 | exact xZ.1) ?_); exact fun _ x => x) | (with_reducible refine (by assumption : ∀ a s, _ → _) _ _ ?_) | (with_reducible first | refine Looks.here (by assumption) ?_ | refine wpAny_onRaise ?_ | refine lL 0 ?_ | refine lL 1 ?_ | refine lL 2 ?_ | refine lL 3 ?_ | refine lL 4 ?_ | refine lL 5 ?_ | refine lL 6 ?_) | ((with_reducible first | refine ndU 0 (by assumption) (by with_unfolding_all rfl) rfl rfl fun hZ sZ => ?_ | refine ndU 1 (by assumption) (by with_unfolding_all rfl) rfl rfl fun hZ sZ => ?_ | refine ndU 2 (by assumption) (by with_unfolding_all rfl) rfl rfl fun hZ sZ => ?_ | refine ndU 3 (by assumption) (by with_unfolding_all rfl) rfl rfl fun hZ sZ => ?_ | refine ndU 4 (by assumption) (by with_unfolding_all rfl) rfl rfl fun hZ sZ => ?_ | refine ndU 5 (by assumption) (by with_unfolding_all rfl) rfl rfl fun hZ sZ => ?_ | refine ndU 6 (by assumption) (by with_unfolding_all rfl) rfl rfl fun hZ sZ => ?_); dsimp only [List.set] at sZ) | (with_reducible first | refine iteF (by assumption) ?_ | refine iteT (by assumption) ?_ | refine iteF (by kernel_rfl) ?_ | refine iteT (by kernel_rfl) ?_ | refine ndG (by assumption) (by assumption) (by with_unfolding_all rfl) ?_))
  refine go (ndA (by assumption) rfl fun T2 h₇ S₇ n₇ k₇ => ?_)
  repeat (first | (with_reducible refine bindU ?_; intro FF qZ hqZ) | (with_reducible refine bindH' fun qZ hqZ => ?_) | (with_reducible first | refine wpAny_holding ?_ | refine stopA ?_ | refine stopBf ?_ | refine stopEf ?_ | refine stopRn ?_ | refine stopNs ?_ | refine stopGq ?_ | refine stopBC ?_ | refine stopSt ?_ | refine stopM ?_ | refine stopT ?_ | refine stopS ?_ | refine stopK ?_ | refine ndF ?_ | refine wpAny_standAt ?_ | refine X.x_at ?_) | (with_reducible refine attH fun eZ => ?_) | (with_reducible first | refine nd_pure ?_ | refine nd_rule ?_ | refine nd_point ?_ | refine nd_ask ?_) | ((refine' (?_ : Sc _ _) (fun xZ => by k_node; (repeat (first | (with_reducible first | refine stopI ?_ | refine stopJ ?_ | refine stop1 ?_ | refine stop2 ?_ | refine stop3 ?_ | refine stop4 ?_ | refine stop5 ?_ | refine stop6 ?_ | refine stopH ?_ | refine stop7 ?_ | refine stop9 ?_ | refine stop8 ?_ | refine stopA ?_ | refine stopBf ?_ | refine stopEf ?_ | refine stopRn ?_ | refine stopNs ?_ | refine stopGq ?_ | refine stopBC ?_ | refine stopSt ?_ | refine stopM ?_ | refine stopT ?_ | refine stopS ?_ | refine stopK ?_) | k_node)); with_reducible first | exact go xZ.1 | exact xZ.1) ?_); exact fun _ x => x) | (with_reducible refine (by assumption : ∀ a s, _ → _) _ _ ?_) | (with_reducible first | refine Looks.here (by assumption) ?_ | refine wpAny_onRaise ?_ | refine lL 0 ?_ | refine lL 1 ?_ | refine lL 2 ?_ | refine lL 3 ?_ | refine lL 4 ?_ | refine lL 5 ?_ | refine lL 6 ?_) | ((with_reducible first | refine ndU 0 (by assumption) (by with_unfolding_all rfl) rfl rfl fun hZ sZ => ?_ | refine ndU 1 (by assumption) (by with_unfolding_all rfl) rfl rfl fun hZ sZ => ?_ | refine ndU 2 (by assumption) (by with_unfolding_all rfl) rfl rfl fun hZ sZ => ?_ | refine ndU 3 (by assumption) (by with_unfolding_all rfl) rfl rfl fun hZ sZ => ?_ | refine ndU 4 (by assumption) (by with_unfolding_all rfl) rfl rfl fun hZ sZ => ?_ | refine ndU 5 (by assumption) (by with_unfolding_all rfl) rfl rfl fun hZ sZ => ?_ | refine ndU 6 (by assumption) (by with_unfolding_all rfl) rfl rfl fun hZ sZ => ?_); dsimp only [List.set] at sZ) | (with_reducible first | refine iteF (by assumption) ?_ | refine iteT (by assumption) ?_ | refine iteF (by kernel_rfl) ?_ | refine iteT (by kernel_rfl) ?_ | refine ndG (by assumption) (by assumption) (by with_unfolding_all rfl) ?_))
  refine go (ndA (by assumption) rfl fun CC h₈ S₈ n₈ k₈ => ?_)
  have S₈ := (S₈.weak 0 rfl (P' := chS T2) (fun o e => by subst e; exact ⟨_, _, _, _, _, _, _, _, rfl, rfl, rfl, rfl, rfl, rfl, rfl, rfl⟩)).pick [0, 1, 3, 4, 5, 6] (by decide)
  have S₈ := S₈.cast (own' := [(CC, chS T2), (T2, lit (tabObj #[])), (N, lit { cls := .type "dict", data := .dict #[] 0 }), (B, lit { cls := .type "tuple", data := .seq #[.type "object"] 0 }), (63, lit (tabObj #[])), (cm, cll (some (.ref f)))]) (by kernel_rfl)
  clear S₅ S₆ S₇
  repeat (first | (with_reducible refine bindU ?_; intro FF qZ hqZ) | (with_reducible refine bindH' fun qZ hqZ => ?_) | (with_reducible first | refine wpAny_holding ?_ | refine stopA ?_ | refine stopBf ?_ | refine stopEf ?_ | refine stopRn ?_ | refine stopNs ?_ | refine stopGq ?_ | refine stopBC ?_ | refine stopSt ?_ | refine stopM ?_ | refine stopT ?_ | refine stopS ?_ | refine stopK ?_ | refine ndF ?_ | refine wpAny_standAt ?_ | refine X.x_at ?_) | (with_reducible refine attH fun eZ => ?_) | (with_reducible first | refine nd_pure ?_ | refine nd_rule ?_ | refine nd_point ?_ | refine nd_ask ?_) | ((refine' (?_ : Sc _ _) (fun xZ => by k_node; (repeat (first | (with_reducible first | refine stopI ?_ | refine stopJ ?_ | refine stop1 ?_ | refine stop2 ?_ | refine stop3 ?_ | refine stop4 ?_ | refine stop5 ?_ | refine stop6 ?_ | refine stopH ?_ | refine stop7 ?_ | refine stop9 ?_ | refine stop8 ?_ | refine stopA ?_ | refine stopBf ?_ | refine stopEf ?_ | refine stopRn ?_ | refine stopNs ?_ | refine stopGq ?_ | refine stopBC ?_ | refine stopSt ?_ | refine stopM ?_ | refine stopT ?_ | refine stopS ?_ | refine stopK ?_) | k_node)); with_reducible first | exact go xZ.1 | exact xZ.1) ?_); exact fun _ x => x) | (with_reducible refine (by assumption : ∀ a s, _ → _) _ _ ?_) | (with_reducible first | refine Looks.here (by assumption) ?_ | refine wpAny_onRaise ?_ | refine lL 0 ?_ | refine lL 1 ?_ | refine lL 2 ?_ | refine lL 3 ?_ | refine lL 4 ?_ | refine lL 5 ?_ | refine lL 6 ?_) | ((with_reducible first | refine ndU 0 (by assumption) (by with_unfolding_all rfl) rfl rfl fun hZ sZ => ?_ | refine ndU 1 (by assumption) (by with_unfolding_all rfl) rfl rfl fun hZ sZ => ?_ | refine ndU 2 (by assumption) (by with_unfolding_all rfl) rfl rfl fun hZ sZ => ?_ | refine ndU 3 (by assumption) (by with_unfolding_all rfl) rfl rfl fun hZ sZ => ?_ | refine ndU 4 (by assumption) (by with_unfolding_all rfl) rfl rfl fun hZ sZ => ?_ | refine ndU 5 (by assumption) (by with_unfolding_all rfl) rfl rfl fun hZ sZ => ?_ | refine ndU 6 (by assumption) (by with_unfolding_all rfl) rfl rfl fun hZ sZ => ?_); dsimp only [List.set] at sZ) | (with_reducible first | refine iteF (by assumption) ?_ | refine iteT (by assumption) ?_ | refine iteF (by kernel_rfl) ?_ | refine iteT (by kernel_rfl) ?_ | refine ndG (by assumption) (by assumption) (by with_unfolding_all rfl) ?_))
  have S₉ := St.cast (own' := [(CC, chS T2), (T2, lit (tabObj #[])), (N, lit { cls := .type "dict", data := .dict #[] 0 }), (B, lit { cls := .type "tuple", data := .seq #[.type "object"] 0 }), (63, lit (tabObj #[rawInt 44, rawInt 4, .ref CC])), (cm, cll (some (.ref f)))]) (by assumption) (by kernel_rfl)
  clear S₈
  refine go (bforX (gr G S₉) rfl ?_)
  repeat (first | (with_reducible refine bindU ?_; intro FF qZ hqZ) | (with_reducible refine bindH' fun qZ hqZ => ?_) | (with_reducible first | refine wpAny_holding ?_ | refine stopA ?_ | refine stopBf ?_ | refine stopEf ?_ | refine stopRn ?_ | refine stopNs ?_ | refine stopGq ?_ | refine stopBC ?_ | refine stopSt ?_ | refine stopM ?_ | refine stopT ?_ | refine stopS ?_ | refine stopK ?_ | refine ndF ?_ | refine wpAny_standAt ?_ | refine X.x_at ?_) | (with_reducible refine attH fun eZ => ?_) | (with_reducible first | refine nd_pure ?_ | refine nd_rule ?_ | refine nd_point ?_ | refine nd_ask ?_) | ((refine' (?_ : Sc _ _) (fun xZ => by k_node; (repeat (first | (with_reducible first | refine stopI ?_ | refine stopJ ?_ | refine stop1 ?_ | refine stop2 ?_ | refine stop3 ?_ | refine stop4 ?_ | refine stop5 ?_ | refine stop6 ?_ | refine stopH ?_ | refine stop7 ?_ | refine stop9 ?_ | refine stop8 ?_ | refine stopA ?_ | refine stopBf ?_ | refine stopEf ?_ | refine stopRn ?_ | refine stopNs ?_ | refine stopGq ?_ | refine stopBC ?_ | refine stopSt ?_ | refine stopM ?_ | refine stopT ?_ | refine stopS ?_ | refine stopK ?_) | k_node)); with_reducible first | exact go xZ.1 | exact xZ.1) ?_); exact fun _ x => x) | (with_reducible refine (by assumption : ∀ a s, _ → _) _ _ ?_) | (with_reducible first | refine Looks.here (by assumption) ?_ | refine wpAny_onRaise ?_ | refine lL 0 ?_ | refine lL 1 ?_ | refine lL 2 ?_ | refine lL 3 ?_ | refine lL 4 ?_ | refine lL 5 ?_ | refine lL 6 ?_) | ((with_reducible first | refine ndU 0 (by assumption) (by with_unfolding_all rfl) rfl rfl fun hZ sZ => ?_ | refine ndU 1 (by assumption) (by with_unfolding_all rfl) rfl rfl fun hZ sZ => ?_ | refine ndU 2 (by assumption) (by with_unfolding_all rfl) rfl rfl fun hZ sZ => ?_ | refine ndU 3 (by assumption) (by with_unfolding_all rfl) rfl rfl fun hZ sZ => ?_ | refine ndU 4 (by assumption) (by with_unfolding_all rfl) rfl rfl fun hZ sZ => ?_ | refine ndU 5 (by assumption) (by with_unfolding_all rfl) rfl rfl fun hZ sZ => ?_ | refine ndU 6 (by assumption) (by with_unfolding_all rfl) rfl rfl fun hZ sZ => ?_); dsimp only [List.set] at sZ) | (with_reducible first | refine iteF (by assumption) ?_ | refine iteT (by assumption) ?_ | refine iteF (by kernel_rfl) ?_ | refine iteT (by kernel_rfl) ?_ | refine ndG (by assumption) (by assumption) (by with_unfolding_all rfl) ?_))
  refine go (gget _ (gr G S₉) rfl (by with_unfolding_all rfl) ?_)
  repeat (first | (with_reducible refine bindU ?_; intro FF qZ hqZ) | (with_reducible refine bindH' fun qZ hqZ => ?_) | (with_reducible first | refine wpAny_holding ?_ | refine stopA ?_ | refine stopBf ?_ | refine stopEf ?_ | refine stopRn ?_ | refine stopNs ?_ | refine stopGq ?_ | refine stopBC ?_ | refine stopSt ?_ | refine stopM ?_ | refine stopT ?_ | refine stopS ?_ | refine stopK ?_ | refine ndF ?_ | refine wpAny_standAt ?_ | refine X.x_at ?_) | (with_reducible refine attH fun eZ => ?_) | (with_reducible first | refine nd_pure ?_ | refine nd_rule ?_ | refine nd_point ?_ | refine nd_ask ?_) | ((refine' (?_ : Sc _ _) (fun xZ => by k_node; (repeat (first | (with_reducible first | refine stopI ?_ | refine stopJ ?_ | refine stop1 ?_ | refine stop2 ?_ | refine stop3 ?_ | refine stop4 ?_ | refine stop5 ?_ | refine stop6 ?_ | refine stopH ?_ | refine stop7 ?_ | refine stop9 ?_ | refine stop8 ?_ | refine stopA ?_ | refine stopBf ?_ | refine stopEf ?_ | refine stopRn ?_ | refine stopNs ?_ | refine stopGq ?_ | refine stopBC ?_ | refine stopSt ?_ | refine stopM ?_ | refine stopT ?_ | refine stopS ?_ | refine stopK ?_) | k_node)); with_reducible first | exact go xZ.1 | exact xZ.1) ?_); exact fun _ x => x) | (with_reducible refine (by assumption : ∀ a s, _ → _) _ _ ?_) | (with_reducible first | refine Looks.here (by assumption) ?_ | refine wpAny_onRaise ?_ | refine lL 0 ?_ | refine lL 1 ?_ | refine lL 2 ?_ | refine lL 3 ?_ | refine lL 4 ?_ | refine lL 5 ?_ | refine lL 6 ?_) | ((with_reducible first | refine ndU 0 (by assumption) (by with_unfolding_all rfl) rfl rfl fun hZ sZ => ?_ | refine ndU 1 (by assumption) (by with_unfolding_all rfl) rfl rfl fun hZ sZ => ?_ | refine ndU 2 (by assumption) (by with_unfolding_all rfl) rfl rfl fun hZ sZ => ?_ | refine ndU 3 (by assumption) (by with_unfolding_all rfl) rfl rfl fun hZ sZ => ?_ | refine ndU 4 (by assumption) (by with_unfolding_all rfl) rfl rfl fun hZ sZ => ?_ | refine ndU 5 (by assumption) (by with_unfolding_all rfl) rfl rfl fun hZ sZ => ?_ | refine ndU 6 (by assumption) (by with_unfolding_all rfl) rfl rfl fun hZ sZ => ?_); dsimp only [List.set] at sZ) | (with_reducible first | refine iteF (by assumption) ?_ | refine iteT (by assumption) ?_ | refine iteF (by kernel_rfl) ?_ | refine iteT (by kernel_rfl) ?_ | refine ndG (by assumption) (by assumption) (by with_unfolding_all rfl) ?_))
  refine go (ndA S₉ rfl fun FR h₁₀ S₁₀ n₁₀ k₁₀ => ?_)
  have S₁₀ := (S₁₀.pick [1, 2, 3, 4, 5, 6] (by decide)).cast (own' := [(CC, chS T2), (T2, lit (tabObj #[])), (N, lit { cls := .type "dict", data := .dict #[] 0 }), (B, lit { cls := .type "tuple", data := .seq #[.type "object"] 0 }), (63, lit (tabObj #[rawInt 44, rawInt 4, .ref CC])), (cm, cll (some (.ref f)))]) (by kernel_rfl)
  repeat (first | (with_reducible refine bindU ?_; intro FF qZ hqZ) | (with_reducible refine bindH' fun qZ hqZ => ?_) | (with_reducible first | refine wpAny_holding ?_ | refine stopA ?_ | refine stopBf ?_ | refine stopEf ?_ | refine stopRn ?_ | refine stopNs ?_ | refine stopGq ?_ | refine stopBC ?_ | refine stopSt ?_ | refine stopM ?_ | refine stopT ?_ | refine stopS ?_ | refine stopK ?_ | refine ndF ?_ | refine wpAny_standAt ?_ | refine X.x_at ?_) | (with_reducible refine attH fun eZ => ?_) | (with_reducible first | refine nd_pure ?_ | refine nd_rule ?_ | refine nd_point ?_ | refine nd_ask ?_) | ((refine' (?_ : Sc _ _) (fun xZ => by k_node; (repeat (first | (with_reducible first | refine stopI ?_ | refine stopJ ?_ | refine stop1 ?_ | refine stop2 ?_ | refine stop3 ?_ | refine stop4 ?_ | refine stop5 ?_ | refine stop6 ?_ | refine stopH ?_ | refine stop7 ?_ | refine stop9 ?_ | refine stop8 ?_ | refine stopA ?_ | refine stopBf ?_ | refine stopEf ?_ | refine stopRn ?_ | refine stopNs ?_ | refine stopGq ?_ | refine stopBC ?_ | refine stopSt ?_ | refine stopM ?_ | refine stopT ?_ | refine stopS ?_ | refine stopK ?_) | k_node)); with_reducible first | exact go xZ.1 | exact xZ.1) ?_); exact fun _ x => x) | (with_reducible refine (by assumption : ∀ a s, _ → _) _ _ ?_) | (with_reducible first | refine Looks.here (by assumption) ?_ | refine wpAny_onRaise ?_ | refine lL 0 ?_ | refine lL 1 ?_ | refine lL 2 ?_ | refine lL 3 ?_ | refine lL 4 ?_ | refine lL 5 ?_ | refine lL 6 ?_) | ((with_reducible first | refine ndU 0 (by assumption) (by with_unfolding_all rfl) rfl rfl fun hZ sZ => ?_ | refine ndU 1 (by assumption) (by with_unfolding_all rfl) rfl rfl fun hZ sZ => ?_ | refine ndU 2 (by assumption) (by with_unfolding_all rfl) rfl rfl fun hZ sZ => ?_ | refine ndU 3 (by assumption) (by with_unfolding_all rfl) rfl rfl fun hZ sZ => ?_ | refine ndU 4 (by assumption) (by with_unfolding_all rfl) rfl rfl fun hZ sZ => ?_ | refine ndU 5 (by assumption) (by with_unfolding_all rfl) rfl rfl fun hZ sZ => ?_ | refine ndU 6 (by assumption) (by with_unfolding_all rfl) rfl rfl fun hZ sZ => ?_); dsimp only [List.set] at sZ) | (with_reducible first | refine iteF (by assumption) ?_ | refine iteT (by assumption) ?_ | refine iteF (by kernel_rfl) ?_ | refine iteT (by kernel_rfl) ?_ | refine ndG (by assumption) (by assumption) (by with_unfolding_all rfl) ?_))
  refine go (wpAny_enterFrame (s := at_ s h₁₀ _) (gr G S₁₀).nolimit (by show A.depth < recursionLimit; have : recursionLimit = 1000 := rfl; omega) ?_)
  repeat (first | (with_reducible refine bindU ?_; intro FF qZ hqZ) | (with_reducible refine bindH' fun qZ hqZ => ?_) | (with_reducible first | refine wpAny_holding ?_ | refine stopA ?_ | refine stopBf ?_ | refine stopEf ?_ | refine stopRn ?_ | refine stopNs ?_ | refine stopGq ?_ | refine stopBC ?_ | refine stopSt ?_ | refine stopM ?_ | refine stopT ?_ | refine stopS ?_ | refine stopK ?_ | refine ndF ?_ | refine wpAny_standAt ?_ | refine X.x_at ?_) | (with_reducible refine attH fun eZ => ?_) | (with_reducible first | refine nd_pure ?_ | refine nd_rule ?_ | refine nd_point ?_ | refine nd_ask ?_) | ((refine' (?_ : Sc _ _) (fun xZ => by k_node; (repeat (first | (with_reducible first | refine stopI ?_ | refine stopJ ?_ | refine stop1 ?_ | refine stop2 ?_ | refine stop3 ?_ | refine stop4 ?_ | refine stop5 ?_ | refine stop6 ?_ | refine stopH ?_ | refine stop7 ?_ | refine stop9 ?_ | refine stop8 ?_ | refine stopA ?_ | refine stopBf ?_ | refine stopEf ?_ | refine stopRn ?_ | refine stopNs ?_ | refine stopGq ?_ | refine stopBC ?_ | refine stopSt ?_ | refine stopM ?_ | refine stopT ?_ | refine stopS ?_ | refine stopK ?_) | k_node)); with_reducible first | exact go xZ.1 | exact xZ.1) ?_); exact fun _ x => x) | (with_reducible refine (by assumption : ∀ a s, _ → _) _ _ ?_) | (with_reducible first | refine Looks.here (by assumption) ?_ | refine wpAny_onRaise ?_ | refine lL 0 ?_ | refine lL 1 ?_ | refine lL 2 ?_ | refine lL 3 ?_ | refine lL 4 ?_ | refine lL 5 ?_ | refine lL 6 ?_) | ((with_reducible first | refine ndU 0 (by assumption) (by with_unfolding_all rfl) rfl rfl fun hZ sZ => ?_ | refine ndU 1 (by assumption) (by with_unfolding_all rfl) rfl rfl fun hZ sZ => ?_ | refine ndU 2 (by assumption) (by with_unfolding_all rfl) rfl rfl fun hZ sZ => ?_ | refine ndU 3 (by assumption) (by with_unfolding_all rfl) rfl rfl fun hZ sZ => ?_ | refine ndU 4 (by assumption) (by with_unfolding_all rfl) rfl rfl fun hZ sZ => ?_ | refine ndU 5 (by assumption) (by with_unfolding_all rfl) rfl rfl fun hZ sZ => ?_ | refine ndU 6 (by assumption) (by with_unfolding_all rfl) rfl rfl fun hZ sZ => ?_); dsimp only [List.set] at sZ) | (with_reducible first | refine iteF (by assumption) ?_ | refine iteT (by assumption) ?_ | refine iteF (by kernel_rfl) ?_ | refine iteT (by kernel_rfl) ?_ | refine ndG (by assumption) (by assumption) (by with_unfolding_all rfl) ?_))
  have S₁₁ := St.cast (own' := [(CC, chS T2), (T2, lit (tabObj #[])), (N, lit ⟨.type "dict", none, .dict #[⟨PyData.keyHash w.params "__module__", .str "__module__" (tk₅ + 1 + 1 + 1 + 1 + 1 + 1), ((nsIn (KF w.params) mainGlobals "__name__").getD none).getD .none⟩, ⟨PyData.keyHash w.params "__qualname__", .str "__qualname__" (tk₅ + 1 + 1 + 1 + 1 + 1 + 1 + 1 + 1), .str "cmp_to_key.<locals>.K" (tk₅ + 1 + 1 + 1 + 1 + 1 + 1 + 1)⟩, ⟨PyData.keyHash w.params "__firstlineno__", .str "__firstlineno__" (tk₅ + 1 + 1 + 1 + 1 + 1 + 1 + 1 + 1 + 1 + 1), .int 44 (tk₅ + 1 + 1 + 1 + 1 + 1 + 1 + 1 + 1 + 1)⟩] 3, #[]⟩), (B, lit { cls := .type "tuple", data := .seq #[.type "object"] 0 }), (63, lit (tabObj #[rawInt 44, rawInt 4, .ref CC])), (cm, cll (some (.ref f)))]) (by assumption) (by kernel_rfl)
  clear S₁₀ S₉
  obtain ⟨oc, eCC, xCC⟩ := S₁₁.at 0 rfl
  have neCT : CC ≠ T2 := fun z => absurd S₁₁.apart (by rw [z]; simp)
  have neT4 : T2 ≠ 4 := fun z => by
    have q := (S₁₁.fresh _ (.tail _ (.head _))).1
    obtain ⟨o4, e4, _⟩ := G.m
    rw [show ((T2, lit (tabObj #[])) : Addr × Sort_).1 = 4 from z, e4] at q; cases q
  have neTm : mainGlobals ≠ T2 := fun z => by
    have q := (S₁₁.fresh _ (.tail _ (.head _))).1
    obtain ⟨mg, ⟨o3, _, _, e3, _⟩, _⟩ := G.main
    rw [show ((T2, lit (tabObj #[])) : Addr × Sort_).1 = mainGlobals from z.symm, e3] at q; cases q
  have S₁₂ := ((S₁₁.upd 0 rfl (P' := lit oc) (fun _ _ _ e => e) ⟨oc, eCC, rfl⟩).pick [2, 1, 0, 3, 4, 5] (by decide)).cast (own' := [(N, lit ⟨.type "dict", none, .dict #[⟨PyData.keyHash w.params "__module__", .str "__module__" (tk₅ + 1 + 1 + 1 + 1 + 1 + 1), ((nsIn (KF w.params) mainGlobals "__name__").getD none).getD .none⟩, ⟨PyData.keyHash w.params "__qualname__", .str "__qualname__" (tk₅ + 1 + 1 + 1 + 1 + 1 + 1 + 1 + 1), .str "cmp_to_key.<locals>.K" (tk₅ + 1 + 1 + 1 + 1 + 1 + 1 + 1)⟩, ⟨PyData.keyHash w.params "__firstlineno__", .str "__firstlineno__" (tk₅ + 1 + 1 + 1 + 1 + 1 + 1 + 1 + 1 + 1 + 1), .int 44 (tk₅ + 1 + 1 + 1 + 1 + 1 + 1 + 1 + 1 + 1)⟩] 3, #[]⟩), (T2, lit (tabObj #[])), (CC, lit oc), (B, lit { cls := .type "tuple", data := .seq #[.type "object"] 0 }), (63, lit (tabObj #[rawInt 44, rawInt 4, .ref CC])), (cm, cll (some (.ref f)))]) (by kernel_rfl)
  clear S₁₁ S₅
  refine go (bodyH (by kernel_rfl) (by kernel_rfl) fun A₂ E₂ Q₂ hA₂ hd₂ hu₂ hQ₂ => ?_)
  refine bodyK (cs := []) (N := N) (T2 := T2) (CC := CC) (cm := cm) (env := { scope := kScope, locals := N, globals := mainGlobals, cells := [("mycmp", cm)], qual := "cmp_to_key.<locals>.K.", code := .ref CC, frame := some FR, builtins := builtinsNs }) ⟨rfl, by kernel_rfl, rfl, rfl, rfl, rfl, rfl, rfl⟩ G (fun h e => xCC.hd e neCT) neT4 neTm S₁₂ ?_
  intro u0 h3 k3 SL tobj eSL h4 k4 F0 c0 v0' d0 m0 h5 k5 F1 c1 v1' d1 m1 h6 k6 F2 c2 v2' d2 m2 h7 k7 F3 c3 v3' d3 m3 h8 k8 F4 c4 v4' d4 m4 h9 k9 F5 c5 v5' d5 m5 h10 k10 h₁₃ tk₁₃ S₁₃
  clear S₁₂ hA₂ hd₂ hu₂
  refine hQ₂ _ _ ?_
  repeat (first | (with_reducible refine bindU ?_; intro FF qZ hqZ) | (with_reducible refine bindH' fun qZ hqZ => ?_) | (with_reducible first | refine wpAny_holding ?_ | refine stopA ?_ | refine stopBf ?_ | refine stopEf ?_ | refine stopRn ?_ | refine stopNs ?_ | refine stopGq ?_ | refine stopBC ?_ | refine stopSt ?_ | refine stopM ?_ | refine stopT ?_ | refine stopS ?_ | refine stopK ?_ | refine ndF ?_ | refine wpAny_standAt ?_ | refine X.x_at ?_) | (with_reducible refine attH fun eZ => ?_) | (with_reducible first | refine nd_pure ?_ | refine nd_rule ?_ | refine nd_point ?_ | refine nd_ask ?_) | ((refine' (?_ : Sc _ _) (fun xZ => by k_node; (repeat (first | (with_reducible first | refine stopI ?_ | refine stopJ ?_ | refine stop1 ?_ | refine stop2 ?_ | refine stop3 ?_ | refine stop4 ?_ | refine stop5 ?_ | refine stop6 ?_ | refine stopH ?_ | refine stop7 ?_ | refine stop9 ?_ | refine stop8 ?_ | refine stopA ?_ | refine stopBf ?_ | refine stopEf ?_ | refine stopRn ?_ | refine stopNs ?_ | refine stopGq ?_ | refine stopBC ?_ | refine stopSt ?_ | refine stopM ?_ | refine stopT ?_ | refine stopS ?_ | refine stopK ?_) | k_node)); with_reducible first | exact go xZ.1 | exact xZ.1) ?_); exact fun _ x => x) | (with_reducible refine (by assumption : ∀ a s, _ → _) _ _ ?_) | (with_reducible first | refine Looks.here (by assumption) ?_ | refine wpAny_onRaise ?_ | refine lL 0 ?_ | refine lL 1 ?_ | refine lL 2 ?_ | refine lL 3 ?_ | refine lL 4 ?_ | refine lL 5 ?_ | refine lL 6 ?_) | ((with_reducible first | refine ndU 0 (by assumption) (by with_unfolding_all rfl) rfl rfl fun hZ sZ => ?_ | refine ndU 1 (by assumption) (by with_unfolding_all rfl) rfl rfl fun hZ sZ => ?_ | refine ndU 2 (by assumption) (by with_unfolding_all rfl) rfl rfl fun hZ sZ => ?_ | refine ndU 3 (by assumption) (by with_unfolding_all rfl) rfl rfl fun hZ sZ => ?_ | refine ndU 4 (by assumption) (by with_unfolding_all rfl) rfl rfl fun hZ sZ => ?_ | refine ndU 5 (by assumption) (by with_unfolding_all rfl) rfl rfl fun hZ sZ => ?_ | refine ndU 6 (by assumption) (by with_unfolding_all rfl) rfl rfl fun hZ sZ => ?_); dsimp only [List.set] at sZ) | (with_reducible first | refine iteF (by assumption) ?_ | refine iteT (by assumption) ?_ | refine iteF (by kernel_rfl) ?_ | refine iteT (by kernel_rfl) ?_ | refine ndG (by assumption) (by assumption) (by with_unfolding_all rfl) ?_))
  refine go (ndA S₁₃ rfl fun ST h₁₄ S₁₄ nST kST => ?_)
  have S₁₄ := (S₁₄.pick [14, 17, 13, 0, 11, 9, 7, 5, 3, 1, 12, 10, 18, 19] (by decide)).cast (own' := [(N, lit ⟨.type "dict", none, .dict #[⟨PyData.keyHash w.params "__module__", .str "__module__" (tk₅ + 1 + 1 + 1 + 1 + 1 + 1), .str "cpy313.functools" u0⟩, ⟨PyData.keyHash w.params "__qualname__", .str "__qualname__" (tk₅ + 1 + 1 + 1 + 1 + 1 + 1 + 1 + 1), .str "cmp_to_key.<locals>.K" (tk₅ + 1 + 1 + 1 + 1 + 1 + 1 + 1)⟩, ⟨PyData.keyHash w.params "__firstlineno__", .str "__firstlineno__" (tk₅ + 1 + 1 + 1 + 1 + 1 + 1 + 1 + 1 + 1 + 1), .int 44 (tk₅ + 1 + 1 + 1 + 1 + 1 + 1 + 1 + 1 + 1)⟩, ⟨h3, .str "__slots__" k3, .ref SL⟩, ⟨h4, .str "__init__" k4, .ref F0⟩, ⟨h5, .str "__lt__" k5, .ref F1⟩, ⟨h6, .str "__gt__" k6, .ref F2⟩, ⟨h7, .str "__eq__" k7, .ref F3⟩, ⟨h8, .str "__le__" k8, .ref F4⟩, ⟨h9, .str "__ge__" k9, .ref F5⟩, ⟨h10, .str "__hash__" k10, .none⟩] (3 + 8), #[]⟩), (B, lit { cls := .type "tuple", data := .seq #[.type "object"] 0 }), (SL, lit { cls := .type "list", data := .seq #[.str "obj" tobj] eSL }), (ST, lit { cls := .type "tuple", data := .seq #[.str "obj" tk₁₃] 0 }), (F0, lit (kFn 2 "__init__" [] d0 m0 c0 v0')), (F1, lit (kFn 3 "__lt__" [("mycmp", cm)] d1 m1 c1 v1')), (F2, lit (kFn 4 "__gt__" [("mycmp", cm)] d2 m2 c2 v2')), (F3, lit (kFn 5 "__eq__" [("mycmp", cm)] d3 m3 c3 v3')), (F4, lit (kFn 6 "__le__" [("mycmp", cm)] d4 m4 c4 v4')), (F5, lit (kFn 7 "__ge__" [("mycmp", cm)] d5 m5 c5 v5')), (c0, codS ("cmp_to_key.<locals>.K." ++ "__init__")), (c1, codS ("cmp_to_key.<locals>.K." ++ "__lt__")), (63, lit (tabObj #[rawInt 44, rawInt 4, .ref CC])), (cm, cll (some (.ref f)))]) (by kernel_rfl)
  clear S₁₃
  repeat (first | (with_reducible refine bindU ?_; intro FF qZ hqZ) | (with_reducible refine bindH' fun qZ hqZ => ?_) | (with_reducible first | refine wpAny_holding ?_ | refine stopA ?_ | refine stopBf ?_ | refine stopEf ?_ | refine stopRn ?_ | refine stopNs ?_ | refine stopGq ?_ | refine stopBC ?_ | refine stopSt ?_ | refine stopM ?_ | refine stopT ?_ | refine stopS ?_ | refine stopK ?_ | refine ndF ?_ | refine wpAny_standAt ?_ | refine X.x_at ?_) | (with_reducible refine attH fun eZ => ?_) | (with_reducible first | refine nd_pure ?_ | refine nd_rule ?_ | refine nd_point ?_ | refine nd_ask ?_) | ((refine' (?_ : Sc _ _) (fun xZ => by k_node; (repeat (first | (with_reducible first | refine stopI ?_ | refine stopJ ?_ | refine stop1 ?_ | refine stop2 ?_ | refine stop3 ?_ | refine stop4 ?_ | refine stop5 ?_ | refine stop6 ?_ | refine stopH ?_ | refine stop7 ?_ | refine stop9 ?_ | refine stop8 ?_ | refine stopA ?_ | refine stopBf ?_ | refine stopEf ?_ | refine stopRn ?_ | refine stopNs ?_ | refine stopGq ?_ | refine stopBC ?_ | refine stopSt ?_ | refine stopM ?_ | refine stopT ?_ | refine stopS ?_ | refine stopK ?_) | k_node)); with_reducible first | exact go xZ.1 | exact xZ.1) ?_); exact fun _ x => x) | (with_reducible refine (by assumption : ∀ a s, _ → _) _ _ ?_) | (with_reducible first | refine Looks.here (by assumption) ?_ | refine wpAny_onRaise ?_ | refine lL 0 ?_ | refine lL 1 ?_ | refine lL 2 ?_ | refine lL 3 ?_ | refine lL 4 ?_ | refine lL 5 ?_ | refine lL 6 ?_) | ((with_reducible first | refine ndU 0 (by assumption) (by with_unfolding_all rfl) rfl rfl fun hZ sZ => ?_ | refine ndU 1 (by assumption) (by with_unfolding_all rfl) rfl rfl fun hZ sZ => ?_ | refine ndU 2 (by assumption) (by with_unfolding_all rfl) rfl rfl fun hZ sZ => ?_ | refine ndU 3 (by assumption) (by with_unfolding_all rfl) rfl rfl fun hZ sZ => ?_ | refine ndU 4 (by assumption) (by with_unfolding_all rfl) rfl rfl fun hZ sZ => ?_ | refine ndU 5 (by assumption) (by with_unfolding_all rfl) rfl rfl fun hZ sZ => ?_ | refine ndU 6 (by assumption) (by with_unfolding_all rfl) rfl rfl fun hZ sZ => ?_); dsimp only [List.set] at sZ) | (with_reducible first | refine iteF (by assumption) ?_ | refine iteT (by assumption) ?_ | refine iteF (by kernel_rfl) ?_ | refine iteT (by kernel_rfl) ?_ | refine ndG (by assumption) (by assumption) (by with_unfolding_all rfl) ?_))
  have S₁₅ := ((((((((by assumption : St h₀ L loc _ _).weak 3 rfl (P' := clsS "tuple") (fun o e => by subst e; rfl)).weak 4 rfl (P' := fcS (lit (kFn 2 "__init__" [] d0 m0 c0 v0'))) (fun o e => ⟨by subst e; rfl, e⟩)).weak 5 rfl (P' := fcS (lit (kFn 3 "__lt__" [("mycmp", cm)] d1 m1 c1 v1'))) (fun o e => ⟨by subst e; rfl, e⟩)).weak 6 rfl (P' := fcS (lit (kFn 4 "__gt__" [("mycmp", cm)] d2 m2 c2 v2'))) (fun o e => ⟨by subst e; rfl, e⟩)).weak 7 rfl (P' := fcS (lit (kFn 5 "__eq__" [("mycmp", cm)] d3 m3 c3 v3'))) (fun o e => ⟨by subst e; rfl, e⟩)).weak 8 rfl (P' := fcS (lit (kFn 6 "__le__" [("mycmp", cm)] d4 m4 c4 v4'))) (fun o e => ⟨by subst e; rfl, e⟩)).weak 9 rfl (P' := fcS (lit (kFn 7 "__ge__" [("mycmp", cm)] d5 m5 c5 v5'))) (fun o e => ⟨by subst e; rfl, e⟩)).cast (own' := nT (fun i => List.getD [PyData.keyHash w.params "__module__", PyData.keyHash w.params "__qualname__", PyData.keyHash w.params "__firstlineno__", h3, h4, h5, h6, h7, h8, h9, h10, PyData.keyHash w.params "__static_attributes__"] i 0) (fun i => List.getD [tk₅ + 1 + 1 + 1 + 1 + 1 + 1, tk₅ + 1 + 1 + 1 + 1 + 1 + 1 + 1 + 1, tk₅ + 1 + 1 + 1 + 1 + 1 + 1 + 1 + 1 + 1 + 1, k3, k4, k5, k6, k7, k8, k9, k10, tk₁₃ + 1, u0, tk₅ + 1 + 1 + 1 + 1 + 1 + 1 + 1 + 1 + 1, tk₅ + 1 + 1 + 1 + 1 + 1 + 1 + 1, tk, tobj] i 0) (fun i => List.getD [F0, F1, F2, F3, F4, F5, SL, ST, B, N] i 0) (fun i => List.getD [lit (kFn 2 "__init__" [] d0 m0 c0 v0'), lit (kFn 3 "__lt__" [("mycmp", cm)] d1 m1 c1 v1'), lit (kFn 4 "__gt__" [("mycmp", cm)] d2 m2 c2 v2'), lit (kFn 5 "__eq__" [("mycmp", cm)] d3 m3 c3 v3'), lit (kFn 6 "__le__" [("mycmp", cm)] d4 m4 c4 v4'), lit (kFn 7 "__ge__" [("mycmp", cm)] d5 m5 c5 v5')] i (fun _ => True)) 12 eSL [(c0, codS ("cmp_to_key.<locals>.K." ++ "__init__")), (c1, codS ("cmp_to_key.<locals>.K." ++ "__lt__")), (63, lit (tabObj #[rawInt 44, rawInt 4, .ref CC])), (cm, cll (some (.ref f)))]) (by kernel_rfl)
  refine go (tcall3 G hA (by omega) (by omega) S₁₅ hNs fun C D MD h₁₆ tk₁₆ S₁₆ => ?_)
  clear S₁₄ S₁₅
  repeat (first | (with_reducible refine bindU ?_; intro FF qZ hqZ) | (with_reducible refine bindH' fun qZ hqZ => ?_) | (with_reducible first | refine wpAny_holding ?_ | refine stopA ?_ | refine stopBf ?_ | refine stopEf ?_ | refine stopRn ?_ | refine stopNs ?_ | refine stopGq ?_ | refine stopBC ?_ | refine stopSt ?_ | refine stopM ?_ | refine stopT ?_ | refine stopS ?_ | refine stopK ?_ | refine ndF ?_ | refine wpAny_standAt ?_ | refine X.x_at ?_) | (with_reducible refine attH fun eZ => ?_) | (with_reducible first | refine nd_pure ?_ | refine nd_rule ?_ | refine nd_point ?_ | refine nd_ask ?_) | ((refine' (?_ : Sc _ _) (fun xZ => by k_node; (repeat (first | (with_reducible first | refine stopI ?_ | refine stopJ ?_ | refine stop1 ?_ | refine stop2 ?_ | refine stop3 ?_ | refine stop4 ?_ | refine stop5 ?_ | refine stop6 ?_ | refine stopH ?_ | refine stop7 ?_ | refine stop9 ?_ | refine stop8 ?_ | refine stopA ?_ | refine stopBf ?_ | refine stopEf ?_ | refine stopRn ?_ | refine stopNs ?_ | refine stopGq ?_ | refine stopBC ?_ | refine stopSt ?_ | refine stopM ?_ | refine stopT ?_ | refine stopS ?_ | refine stopK ?_) | k_node)); with_reducible first | exact go xZ.1 | exact xZ.1) ?_); exact fun _ x => x) | (with_reducible refine (by assumption : ∀ a s, _ → _) _ _ ?_) | (with_reducible first | refine Looks.here (by assumption) ?_ | refine wpAny_onRaise ?_ | refine lL 0 ?_ | refine lL 1 ?_ | refine lL 2 ?_ | refine lL 3 ?_ | refine lL 4 ?_ | refine lL 5 ?_ | refine lL 6 ?_) | ((with_reducible first | refine ndU 0 (by assumption) (by with_unfolding_all rfl) rfl rfl fun hZ sZ => ?_ | refine ndU 1 (by assumption) (by with_unfolding_all rfl) rfl rfl fun hZ sZ => ?_ | refine ndU 2 (by assumption) (by with_unfolding_all rfl) rfl rfl fun hZ sZ => ?_ | refine ndU 3 (by assumption) (by with_unfolding_all rfl) rfl rfl fun hZ sZ => ?_ | refine ndU 4 (by assumption) (by with_unfolding_all rfl) rfl rfl fun hZ sZ => ?_ | refine ndU 5 (by assumption) (by with_unfolding_all rfl) rfl rfl fun hZ sZ => ?_ | refine ndU 6 (by assumption) (by with_unfolding_all rfl) rfl rfl fun hZ sZ => ?_); dsimp only [List.set] at sZ) | (with_reducible first | refine iteF (by assumption) ?_ | refine iteT (by assumption) ?_ | refine iteF (by kernel_rfl) ?_ | refine iteT (by kernel_rfl) ?_ | refine ndG (by assumption) (by assumption) (by with_unfolding_all rfl) ?_))
  have z := KC.of (p := ⟨D, MD, B, SL, ST, F0, F1, F2, F3, F4, F5, c0, c1, cm, _, _, _, u0, _, _, _, k3, k4, k5, k6, k7, k8, k9, k10, _, _, _, _, _, h3, h4, h5, h6, h7, h8, h9, h10, _, _, _, d0, m0, v0', d1, m1, v1'⟩) (C := C) (f := f) S₁₆ rfl rfl rfl rfl rfl rfl rfl rfl
  exact k C _ #[rawInt 44, rawInt 4, .ref CC] h₁₆ tk₁₆ ((S₁₆.pick [15, 16] (by decide)).cast (by rfl)) z.1 z.2.1 z.2.2
end
end Mine
end
section -- BC4
open PySem PySem.W PyProof.Rows PySem.Spec PySem.Calls PySem.SeqAt
set_option Elab.async false
set_option maxRecDepth 100000
set_option maxHeartbeats 4000000
set_option pp.maxSteps 1500
set_option linter.unusedVariables false
namespace Mine
section
variable {w : World} {A : Around} {E : Value → Shared → Prop} {s : Shared} {h : Heap} {tk : Nat} {L : Addr} {h₀ : Heap} {loc : List (Str × Value)} {own : List (Addr × Sort_)}
theorem enterE {Q : Value → Shared → Prop} {f : Addr} {vals : List Value} {oc : Value} {od : Option Addr} {osl : Array (Option Value)} {fd : FuncData} {body : List Stmt} {binds : List (Str × Value)} {n : Nat}
    (G : Gr w h) (R : Rm (n + 1) A) (ho : (KF w.params).lookup f = some ⟨oc, od, .func fd, osl⟩) (hbody : fd.body = .stmts body) (hcd : codeIn (KF w.params) fd.code fd.qualname = true) (hbind : bindArgs fd ⟨vals, []⟩ = pure binds)
    (hkind : (binds.all fun y => fd.scope.names.lookup y.1 == some .local || fd.scope.names.lookup y.1 == some .cell) = true) (hnd : ((cellsFrom 0 fd.scope.names []).map (·.1)).Nodup)
    (hcl : fd.closure = []) (hk : fd.scope.kind = .function)
    (k : ∀ L A₁ h₁ tk₁ (Qf : Flow → Shared → Prop) (Ef : Value → Shared → Prop), A₁.handled = A.handled → A₁.depth = A.depth + 1 → A₁.units = A.units + 3 → (∀ v s', Q v s' → Qf (.ret v) s') →
      St h L (blo (fun x => fd.scope.names.lookup x) binds []) ((cellsFrom (L + 1) fd.scope.names []).map fun p => (p.2, cll (bindC (fun x => fd.scope.names.lookup x) binds (fun _ => none) p.1))) h₁ → Gr w h₁ → Rm n A₁ →
      wpAny (model PG w) A₁ (execs body (callEnvC fd L f)) Qf Ef (at_ s h₁ tk₁))
    (hco : fd.scope.isCoroutine = false := by rfl) (hgen : fd.scope.isGenerator = false := by rfl) :
    wpAny (model PG w) A (call (.ref f) vals) Q E (at_ s h tk) := by
  refine wpAny_call (codeAny_call_cells (s := at_ s h tk) (by have := R.depth; omega) (G.k _ _ ho) rfl G.nolimit (codeRec_of G.k hcd) hbody hbind hcl (kindsX hkind _) (fun s₁ x => ?_) hco hgen hk)
  obtain ⟨⟨h₁, tk₁, rfl⟩, hns, hkp, hfr⟩ := x.toInCall
  have kp : Kp h h₁ := hkp
  refine k h.objs.size _ h₁ tk₁ _ _ rfl rfl rfl (fun v s' q => q) ⟨kp, ?_, none_size _, fun p hp => ?_, fun p hp => ?_, ?_⟩ (G.keeps kp) R.deeper
  · have e := blo_eq (fun x => fd.scope.names.lookup x) binds []
    rw [← e]; exact hns
  · obtain ⟨⟨nm, c⟩, hp', rfl⟩ := List.mem_map.mp hp
    exact x.cell nm c (mem_lookup_nodup (cellsFrom_keys 0 (h.objs.size + 1) fd.scope.names [] hnd rfl) hp')
  · obtain ⟨⟨nm, c⟩, hp', rfl⟩ := List.mem_map.mp hp
    have ab := x.above nm c hp'
    have ab' : h.objs.size < c := ab
    refine ⟨?_, Nat.ne_of_gt ab'⟩
    cases q : h.get? c with
    | none => rfl
    | some o => exact absurd (Heap.lt_size q) (Nat.not_lt.mpr (Nat.le_of_lt ab'))
  · rw [List.map_map]
    exact List.pairwise_map.mpr x.apart
theorem nsgL {x : Str} {v : Value} {a : Addr} {Q : Option Value → Shared → Prop} (S : St h₀ L loc own h) (ha : a = L) (hv : loc.lookup x = some v) (k : Q (some v) (at_ s h tk)) : wpAny (model PG w) A (nsGet a x) Q E (at_ s h tk) := by
  subst ha
  exact wpAny_nsGet (s := at_ s h tk) S.ns (by rw [hv]; exact k)
theorem stlS {env : Env} {sc : Scope} {cs : List (Str × Addr)} {x : Str} {v : Value} {Q : Unit → Shared → Prop} (S : St h₀ L loc own h) (e : EnvIs env sc L cs) (hk : sc.names.lookup x = some .local)
    (k : ∀ h' tk', St h₀ L (aset x v loc) own h' → (∀ b o, b ≠ L → h.get? b = some o → h'.get? b = some o) → Q () (at_ s h' tk')) : wpAny (model PG w) A (storeName env x v) Q E (at_ s h tk) :=
  wpAny_storeName_local (e.kind hk) (by rw [e.locals]; exact S.ns) (fun h' hn hs => k h' _ (S.store (by rw [e.locals] at hn; exact hn) (by rw [e.locals] at hs; exact hs)) (fun b o hb q => by rw [e.locals] at hs; exact (hs.2 b hb).trans q))
    (by rw [e.scope, e.fn]; rfl)
theorem bcE {f cm : Addr} {Q : Value → Shared → Prop} {n q : Str} {gv : List Value} {kw : List (Str × Value)} {body : List Stmt} {sc : Scope} {st : List Str} {fl : Nat} {env : Env} {pos : Pos} {tp : Option Value} (G : Gr w h₀) (hA : A.handled = none) (hd : A.depth ≤ 409) (hu : A.units ≤ 70) (h1 : ∃ o, h₀.get? sysModules = some o) (S : St h₀ L loc [(63, lit (tabObj #[])), (cm, cll (some (.ref f)))] h)
    (k : ∀ C p ps h' tk', St h₀ L loc [(63, lit (tabObj ps)), (cm, cll (some (.ref f)))] h' → KC h' p C f → L ∉ p.all C → (∀ a ∈ p.all C, h₀.get? a = none) → Q (.ref C) (at_ s h' tk'))
    (hn : n = "K" := by kernel_rfl) (hq : q = "cmp_to_key.<locals>.K" := by kernel_rfl) (hg : gv = [.type "object"] := by kernel_rfl) (hkw : kw = [] := by kernel_rfl) (hb : body = kBody := by kernel_rfl) (hs : sc = kScope := by kernel_rfl) (hst : st = [Str.ofString "obj"] := by kernel_rfl) (hf : fl = 44 := by kernel_rfl) (he : env = E0 L cm := by kernel_rfl) (hp : pos = ⟨44, 4, 65, 23⟩ := by kernel_rfl) (ht : tp = none := by kernel_rfl) :
    wpAny (model PG w) A (buildClass n q gv kw body sc st fl env pos tp) Q E (at_ s h tk) := by
  subst hn hq hg hkw hb hs hst hf he hp ht
  exact bcK G hA hd hu h1 S k
theorem ct_ctk {f : Addr} {n : Nat} {Q : Value → Shared → Prop} (G : Gr w (hideAll h [63])) (R : Rm (n + 4) A) (hA : A.handled = none) (hd : A.depth ≤ 408) (hu : A.units ≤ 60) (h63 : h.get? 63 = some (tabObj #[])) (h1 : ∃ o, h.get? sysModules = some o)
    (k : ∀ C p ps h' tk', (∀ b o, b ≠ 63 → h.get? b = some o → h'.get? b = some o) → h'.get? 63 = some (tabObj ps) → KC h' p C f → (∀ a ∈ p.all C, h.get? a = none ∨ a = 63) → Q (.ref C) (at_ s h' tk')) :
    wpAny (model PG w) A (call (.ref 68) [.ref f]) Q E (at_ s h tk) := by
  refine enterE (binds := [("mycmp", .ref f)]) (G.keeps (hid_kp h _)) R rfl rfl rfl rfl rfl (by decide) rfl rfl ?_
  intro L A₁ h₁ tk₁ Qf Ef hA₁ hd₁ hu₁ hQ S G₁ R₁
  rw [hA] at hA₁
  have S := S.take1 (P := lit (tabObj #[])) (a := 63) ⟨_, h63, rfl⟩
  have S : St (hideAll h [63]) L [] [(63, lit (tabObj #[])), (L + 1, cll (some (.ref f)))] h₁ := S
  have h1 : ∃ o, (hideAll h [63]).get? sysModules = some o := let ⟨o, e⟩ := h1; ⟨o, hideAll_get _ e (by decide)⟩
  have kk : ∀ b o, b ≠ 63 → h.get? b = some o → (hideAll h [63]).get? b = some o := fun b o hb e => hideAll_get _ e (by simpa using hb)
  generalize hbase : hideAll h [63] = base at S G h1 kk
  refine wpAny_execs_cons ?_
  rw [arm_exec_ClassDef]
  refine hide fun Q' hQ' => ?_
  dsimp only [callEnvC, newEnv]
  repeat (first | (with_reducible refine bindU ?_; intro FF qZ hqZ) | (with_reducible refine bindH' fun qZ hqZ => ?_) | (with_reducible first | refine wpAny_holding ?_ | refine stopA ?_ | refine stopBf ?_ | refine stopEf ?_ | refine stopRn ?_ | refine stopNs ?_ | refine stopGq ?_ | refine stopBC ?_ | refine stopSt ?_ | refine stopM ?_ | refine stopT ?_ | refine stopS ?_ | refine stopK ?_ | refine ndF ?_ | refine wpAny_standAt ?_ | refine X.x_at ?_) | (with_reducible refine attH fun eZ => ?_) | (with_reducible first | refine nd_pure ?_ | refine nd_rule ?_ | refine nd_point ?_ | refine nd_ask ?_) | ((refine' (?_ : Sc _ _) (fun xZ => by k_node; (repeat (first | (with_reducible first | refine stopI ?_ | refine stopJ ?_ | refine stop1 ?_ | refine stop2 ?_ | refine stop3 ?_ | refine stop4 ?_ | refine stop5 ?_ | refine stop6 ?_ | refine stopH ?_ | refine stop7 ?_ | refine stop9 ?_ | refine stop8 ?_ | refine stopA ?_ | refine stopBf ?_ | refine stopEf ?_ | refine stopRn ?_ | refine stopNs ?_ | refine stopGq ?_ | refine stopBC ?_ | refine stopSt ?_ | refine stopM ?_ | refine stopT ?_ | refine stopS ?_ | refine stopK ?_) | k_node)); with_reducible first | exact go xZ.1 | exact xZ.1) ?_); exact fun _ x => x) | (with_reducible refine (by assumption : ∀ a s, _ → _) _ _ ?_) | (with_reducible first | refine Looks.here (by assumption) ?_ | refine wpAny_onRaise ?_ | refine lL 0 ?_ | refine lL 1 ?_ | refine lL 2 ?_) | ((with_reducible first | refine ndU 0 (by assumption) (by with_unfolding_all rfl) rfl rfl fun hZ sZ => ?_ | refine ndU 1 (by assumption) (by with_unfolding_all rfl) rfl rfl fun hZ sZ => ?_ | refine ndU 2 (by assumption) (by with_unfolding_all rfl) rfl rfl fun hZ sZ => ?_); dsimp only [List.set] at sZ) | (with_reducible first | refine iteF (by assumption) ?_ | refine iteT (by assumption) ?_ | refine iteF (by kernel_rfl) ?_ | refine iteT (by kernel_rfl) ?_))
  refine go (bget G₁ (v := .builtin "__build_class__") (by with_unfolding_all rfl) (by with_unfolding_all rfl) (by decide) ?_)
  repeat (first | (with_reducible refine bindU ?_; intro FF qZ hqZ) | (with_reducible refine bindH' fun qZ hqZ => ?_) | (with_reducible first | refine wpAny_holding ?_ | refine stopA ?_ | refine stopBf ?_ | refine stopEf ?_ | refine stopRn ?_ | refine stopNs ?_ | refine stopGq ?_ | refine stopBC ?_ | refine stopSt ?_ | refine stopM ?_ | refine stopT ?_ | refine stopS ?_ | refine stopK ?_ | refine ndF ?_ | refine wpAny_standAt ?_ | refine X.x_at ?_) | (with_reducible refine attH fun eZ => ?_) | (with_reducible first | refine nd_pure ?_ | refine nd_rule ?_ | refine nd_point ?_ | refine nd_ask ?_) | ((refine' (?_ : Sc _ _) (fun xZ => by k_node; (repeat (first | (with_reducible first | refine stopI ?_ | refine stopJ ?_ | refine stop1 ?_ | refine stop2 ?_ | refine stop3 ?_ | refine stop4 ?_ | refine stop5 ?_ | refine stop6 ?_ | refine stopH ?_ | refine stop7 ?_ | refine stop9 ?_ | refine stop8 ?_ | refine stopA ?_ | refine stopBf ?_ | refine stopEf ?_ | refine stopRn ?_ | refine stopNs ?_ | refine stopGq ?_ | refine stopBC ?_ | refine stopSt ?_ | refine stopM ?_ | refine stopT ?_ | refine stopS ?_ | refine stopK ?_) | k_node)); with_reducible first | exact go xZ.1 | exact xZ.1) ?_); exact fun _ x => x) | (with_reducible refine (by assumption : ∀ a s, _ → _) _ _ ?_) | (with_reducible first | refine Looks.here (by assumption) ?_ | refine wpAny_onRaise ?_ | refine lL 0 ?_ | refine lL 1 ?_ | refine lL 2 ?_) | ((with_reducible first | refine ndU 0 (by assumption) (by with_unfolding_all rfl) rfl rfl fun hZ sZ => ?_ | refine ndU 1 (by assumption) (by with_unfolding_all rfl) rfl rfl fun hZ sZ => ?_ | refine ndU 2 (by assumption) (by with_unfolding_all rfl) rfl rfl fun hZ sZ => ?_); dsimp only [List.set] at sZ) | (with_reducible first | refine iteF (by assumption) ?_ | refine iteT (by assumption) ?_ | refine iteF (by kernel_rfl) ?_ | refine iteT (by kernel_rfl) ?_))
  refine go (gget none G₁ (by with_unfolding_all rfl) (by with_unfolding_all rfl) ?_)
  repeat (first | (with_reducible refine bindU ?_; intro FF qZ hqZ) | (with_reducible refine bindH' fun qZ hqZ => ?_) | (with_reducible first | refine wpAny_holding ?_ | refine stopA ?_ | refine stopBf ?_ | refine stopEf ?_ | refine stopRn ?_ | refine stopNs ?_ | refine stopGq ?_ | refine stopBC ?_ | refine stopSt ?_ | refine stopM ?_ | refine stopT ?_ | refine stopS ?_ | refine stopK ?_ | refine ndF ?_ | refine wpAny_standAt ?_ | refine X.x_at ?_) | (with_reducible refine attH fun eZ => ?_) | (with_reducible first | refine nd_pure ?_ | refine nd_rule ?_ | refine nd_point ?_ | refine nd_ask ?_) | ((refine' (?_ : Sc _ _) (fun xZ => by k_node; (repeat (first | (with_reducible first | refine stopI ?_ | refine stopJ ?_ | refine stop1 ?_ | refine stop2 ?_ | refine stop3 ?_ | refine stop4 ?_ | refine stop5 ?_ | refine stop6 ?_ | refine stopH ?_ | refine stop7 ?_ | refine stop9 ?_ | refine stop8 ?_ | refine stopA ?_ | refine stopBf ?_ | refine stopEf ?_ | refine stopRn ?_ | refine stopNs ?_ | refine stopGq ?_ | refine stopBC ?_ | refine stopSt ?_ | refine stopM ?_ | refine stopT ?_ | refine stopS ?_ | refine stopK ?_) | k_node)); with_reducible first | exact go xZ.1 | exact xZ.1) ?_); exact fun _ x => x) | (with_reducible refine (by assumption : ∀ a s, _ → _) _ _ ?_) | (with_reducible first | refine Looks.here (by assumption) ?_ | refine wpAny_onRaise ?_ | refine lL 0 ?_ | refine lL 1 ?_ | refine lL 2 ?_) | ((with_reducible first | refine ndU 0 (by assumption) (by with_unfolding_all rfl) rfl rfl fun hZ sZ => ?_ | refine ndU 1 (by assumption) (by with_unfolding_all rfl) rfl rfl fun hZ sZ => ?_ | refine ndU 2 (by assumption) (by with_unfolding_all rfl) rfl rfl fun hZ sZ => ?_); dsimp only [List.set] at sZ) | (with_reducible first | refine iteF (by assumption) ?_ | refine iteT (by assumption) ?_ | refine iteF (by kernel_rfl) ?_ | refine iteT (by kernel_rfl) ?_))
  refine go (bget G₁ (v := .type "object") (by with_unfolding_all rfl) (by with_unfolding_all rfl) (by decide) ?_)
  repeat (first | (with_reducible refine bindU ?_; intro FF qZ hqZ) | (with_reducible refine bindH' fun qZ hqZ => ?_) | (with_reducible first | refine wpAny_holding ?_ | refine stopA ?_ | refine stopBf ?_ | refine stopEf ?_ | refine stopRn ?_ | refine stopNs ?_ | refine stopGq ?_ | refine stopBC ?_ | refine stopSt ?_ | refine stopM ?_ | refine stopT ?_ | refine stopS ?_ | refine stopK ?_ | refine ndF ?_ | refine wpAny_standAt ?_ | refine X.x_at ?_) | (with_reducible refine attH fun eZ => ?_) | (with_reducible first | refine nd_pure ?_ | refine nd_rule ?_ | refine nd_point ?_ | refine nd_ask ?_) | ((refine' (?_ : Sc _ _) (fun xZ => by k_node; (repeat (first | (with_reducible first | refine stopI ?_ | refine stopJ ?_ | refine stop1 ?_ | refine stop2 ?_ | refine stop3 ?_ | refine stop4 ?_ | refine stop5 ?_ | refine stop6 ?_ | refine stopH ?_ | refine stop7 ?_ | refine stop9 ?_ | refine stop8 ?_ | refine stopA ?_ | refine stopBf ?_ | refine stopEf ?_ | refine stopRn ?_ | refine stopNs ?_ | refine stopGq ?_ | refine stopBC ?_ | refine stopSt ?_ | refine stopM ?_ | refine stopT ?_ | refine stopS ?_ | refine stopK ?_) | k_node)); with_reducible first | exact go xZ.1 | exact xZ.1) ?_); exact fun _ x => x) | (with_reducible refine (by assumption : ∀ a s, _ → _) _ _ ?_) | (with_reducible first | refine Looks.here (by assumption) ?_ | refine wpAny_onRaise ?_ | refine lL 0 ?_ | refine lL 1 ?_ | refine lL 2 ?_) | ((with_reducible first | refine ndU 0 (by assumption) (by with_unfolding_all rfl) rfl rfl fun hZ sZ => ?_ | refine ndU 1 (by assumption) (by with_unfolding_all rfl) rfl rfl fun hZ sZ => ?_ | refine ndU 2 (by assumption) (by with_unfolding_all rfl) rfl rfl fun hZ sZ => ?_); dsimp only [List.set] at sZ) | (with_reducible first | refine iteF (by assumption) ?_ | refine iteT (by assumption) ?_ | refine iteF (by kernel_rfl) ?_ | refine iteT (by kernel_rfl) ?_))
  refine go (bcE G hA₁ (by omega) (by omega) h1 S (fun C p ps h₂ tk₂ S₂ x nL nw => ?_))
  repeat (first | (with_reducible refine bindU ?_; intro FF qZ hqZ) | (with_reducible refine bindH' fun qZ hqZ => ?_) | (with_reducible first | refine wpAny_holding ?_ | refine stopA ?_ | refine stopBf ?_ | refine stopEf ?_ | refine stopRn ?_ | refine stopNs ?_ | refine stopGq ?_ | refine stopBC ?_ | refine stopSt ?_ | refine stopM ?_ | refine stopT ?_ | refine stopS ?_ | refine stopK ?_ | refine ndF ?_ | refine wpAny_standAt ?_ | refine X.x_at ?_) | (with_reducible refine attH fun eZ => ?_) | (with_reducible first | refine nd_pure ?_ | refine nd_rule ?_ | refine nd_point ?_ | refine nd_ask ?_) | ((refine' (?_ : Sc _ _) (fun xZ => by k_node; (repeat (first | (with_reducible first | refine stopI ?_ | refine stopJ ?_ | refine stop1 ?_ | refine stop2 ?_ | refine stop3 ?_ | refine stop4 ?_ | refine stop5 ?_ | refine stop6 ?_ | refine stopH ?_ | refine stop7 ?_ | refine stop9 ?_ | refine stop8 ?_ | refine stopA ?_ | refine stopBf ?_ | refine stopEf ?_ | refine stopRn ?_ | refine stopNs ?_ | refine stopGq ?_ | refine stopBC ?_ | refine stopSt ?_ | refine stopM ?_ | refine stopT ?_ | refine stopS ?_ | refine stopK ?_) | k_node)); with_reducible first | exact go xZ.1 | exact xZ.1) ?_); exact fun _ x => x) | (with_reducible refine (by assumption : ∀ a s, _ → _) _ _ ?_) | (with_reducible first | refine Looks.here (by assumption) ?_ | refine wpAny_onRaise ?_ | refine lL 0 ?_ | refine lL 1 ?_ | refine lL 2 ?_) | ((with_reducible first | refine ndU 0 (by assumption) (by with_unfolding_all rfl) rfl rfl fun hZ sZ => ?_ | refine ndU 1 (by assumption) (by with_unfolding_all rfl) rfl rfl fun hZ sZ => ?_ | refine ndU 2 (by assumption) (by with_unfolding_all rfl) rfl rfl fun hZ sZ => ?_); dsimp only [List.set] at sZ) | (with_reducible first | refine iteF (by assumption) ?_ | refine iteT (by assumption) ?_ | refine iteF (by kernel_rfl) ?_ | refine iteT (by kernel_rfl) ?_))
  have e : EnvIs (E0 L (L + 1)) ckScope L [("mycmp", L + 1)] := ⟨rfl, rfl, rfl, rfl, rfl, by kernel_rfl⟩
  refine go ?_
  refine stlS (env := E0 L (L + 1)) S₂ e (by kernel_rfl) fun h₃ tk₃ S₃ sb => ?_
  repeat (first | (with_reducible refine bindU ?_; intro FF qZ hqZ) | (with_reducible refine bindH' fun qZ hqZ => ?_) | (with_reducible first | refine wpAny_holding ?_ | refine stopA ?_ | refine stopBf ?_ | refine stopEf ?_ | refine stopRn ?_ | refine stopNs ?_ | refine stopGq ?_ | refine stopBC ?_ | refine stopSt ?_ | refine stopM ?_ | refine stopT ?_ | refine stopS ?_ | refine stopK ?_ | refine ndF ?_ | refine wpAny_standAt ?_ | refine X.x_at ?_) | (with_reducible refine attH fun eZ => ?_) | (with_reducible first | refine nd_pure ?_ | refine nd_rule ?_ | refine nd_point ?_ | refine nd_ask ?_) | ((refine' (?_ : Sc _ _) (fun xZ => by k_node; (repeat (first | (with_reducible first | refine stopI ?_ | refine stopJ ?_ | refine stop1 ?_ | refine stop2 ?_ | refine stop3 ?_ | refine stop4 ?_ | refine stop5 ?_ | refine stop6 ?_ | refine stopH ?_ | refine stop7 ?_ | refine stop9 ?_ | refine stop8 ?_ | refine stopA ?_ | refine stopBf ?_ | refine stopEf ?_ | refine stopRn ?_ | refine stopNs ?_ | refine stopGq ?_ | refine stopBC ?_ | refine stopSt ?_ | refine stopM ?_ | refine stopT ?_ | refine stopS ?_ | refine stopK ?_) | k_node)); with_reducible first | exact go xZ.1 | exact xZ.1) ?_); exact fun _ x => x) | (with_reducible refine (by assumption : ∀ a s, _ → _) _ _ ?_) | (with_reducible first | refine Looks.here (by assumption) ?_ | refine wpAny_onRaise ?_ | refine lL 0 ?_ | refine lL 1 ?_ | refine lL 2 ?_) | ((with_reducible first | refine ndU 0 (by assumption) (by with_unfolding_all rfl) rfl rfl fun hZ sZ => ?_ | refine ndU 1 (by assumption) (by with_unfolding_all rfl) rfl rfl fun hZ sZ => ?_ | refine ndU 2 (by assumption) (by with_unfolding_all rfl) rfl rfl fun hZ sZ => ?_); dsimp only [List.set] at sZ) | (with_reducible first | refine iteF (by assumption) ?_ | refine iteT (by assumption) ?_ | refine iteF (by kernel_rfl) ?_ | refine iteT (by kernel_rfl) ?_))
  refine go (nsgL (v := .ref C) S₃ (by kernel_rfl) (by kernel_rfl) ?_)
  repeat (first | (with_reducible refine bindU ?_; intro FF qZ hqZ) | (with_reducible refine bindH' fun qZ hqZ => ?_) | (with_reducible first | refine wpAny_holding ?_ | refine stopA ?_ | refine stopBf ?_ | refine stopEf ?_ | refine stopRn ?_ | refine stopNs ?_ | refine stopGq ?_ | refine stopBC ?_ | refine stopSt ?_ | refine stopM ?_ | refine stopT ?_ | refine stopS ?_ | refine stopK ?_ | refine ndF ?_ | refine wpAny_standAt ?_ | refine X.x_at ?_) | (with_reducible refine attH fun eZ => ?_) | (with_reducible first | refine nd_pure ?_ | refine nd_rule ?_ | refine nd_point ?_ | refine nd_ask ?_) | ((refine' (?_ : Sc _ _) (fun xZ => by k_node; (repeat (first | (with_reducible first | refine stopI ?_ | refine stopJ ?_ | refine stop1 ?_ | refine stop2 ?_ | refine stop3 ?_ | refine stop4 ?_ | refine stop5 ?_ | refine stop6 ?_ | refine stopH ?_ | refine stop7 ?_ | refine stop9 ?_ | refine stop8 ?_ | refine stopA ?_ | refine stopBf ?_ | refine stopEf ?_ | refine stopRn ?_ | refine stopNs ?_ | refine stopGq ?_ | refine stopBC ?_ | refine stopSt ?_ | refine stopM ?_ | refine stopT ?_ | refine stopS ?_ | refine stopK ?_) | k_node)); with_reducible first | exact go xZ.1 | exact xZ.1) ?_); exact fun _ x => x) | (with_reducible refine (by assumption : ∀ a s, _ → _) _ _ ?_) | (with_reducible first | refine Looks.here (by assumption) ?_ | refine wpAny_onRaise ?_ | refine lL 0 ?_ | refine lL 1 ?_ | refine lL 2 ?_) | ((with_reducible first | refine ndU 0 (by assumption) (by with_unfolding_all rfl) rfl rfl fun hZ sZ => ?_ | refine ndU 1 (by assumption) (by with_unfolding_all rfl) rfl rfl fun hZ sZ => ?_ | refine ndU 2 (by assumption) (by with_unfolding_all rfl) rfl rfl fun hZ sZ => ?_); dsimp only [List.set] at sZ) | (with_reducible first | refine iteF (by assumption) ?_ | refine iteT (by assumption) ?_ | refine iteF (by kernel_rfl) ?_ | refine iteT (by kernel_rfl) ?_))
  refine hQ _ _ (k C p ps h₃ tk₃ (fun b o hb e => S₃.keep b o (kk b o hb e)) (S₃.lit 0 rfl) (x.but nL sb) fun a ha => ?_)
  by_cases z : a = 63
  · exact .inr z
  · left
    cases q : h.get? a with
    | none => rfl
    | some o =>
      have z2 := nw a ha
      rw [kk a o z q] at z2
      cases z2
end
end Mine
end
section -- KI
open PySem PySem.W PyProof.Rows PySem.Spec PySem.Calls PySem.SeqAt
set_option Elab.async false
set_option maxRecDepth 100000
set_option maxHeartbeats 4000000
set_option pp.maxSteps 1500
set_option linter.unusedVariables false
namespace Mine
noncomputable def KP.fn0 (p : KP) : Obj := kFn 2 "__init__" [] p.d0 p.m0 p.c0 p.v0
noncomputable def KP.fn1 (p : KP) : Obj := kFn 3 "__lt__" [("mycmp", p.cm)] p.d1 p.m1 p.c1 p.v1
noncomputable def KK (p : KP) (C : Addr) : Frag := [(C, p.cls C), (p.D, p.dict), (p.MD, p.mem C), (p.F0, p.fn0), (p.F1, p.fn1)]
structure KNe (p : KP) (C : Addr) : Prop where
  dc : p.D ≠ C
  mc : p.MD ≠ C
  md : p.MD ≠ p.D
  f0c : p.F0 ≠ C
  f0d : p.F0 ≠ p.D
  f0m : p.F0 ≠ p.MD
  f1c : p.F1 ≠ C
  f1d : p.F1 ≠ p.D
  f1m : p.F1 ≠ p.MD
  f10 : p.F1 ≠ p.F0
theorem ne_of_objs {h : Heap} {a b : Addr} {x y : Obj} (ha : h.get? a = some x) (hb : h.get? b = some y) (n : x ≠ y) : a ≠ b := fun z => by subst z; rw [ha] at hb; exact n (Option.some.inj hb)
theorem KC.ne {h : Heap} {p : KP} {C f : Addr} (x : KC h p C f) : KNe p C where
  dc := ne_of_objs x.d x.c fun z => by have := congrArg Obj.data z; unfold KP.dict KP.cls at this; cases this
  mc := ne_of_objs x.m x.c fun z => by have := congrArg Obj.data z; unfold KP.mem KP.cls at this; cases this
  md := ne_of_objs x.m x.d fun z => by have := congrArg Obj.data z; unfold KP.mem KP.dict at this; cases this
  f0c := ne_of_objs x.f0 x.c fun z => by have := congrArg Obj.data z; unfold kFn KP.cls at this; cases this
  f0d := ne_of_objs x.f0 x.d fun z => by have := congrArg Obj.data z; unfold kFn KP.dict at this; cases this
  f0m := ne_of_objs x.f0 x.m fun z => by have := congrArg Obj.data z; unfold kFn KP.mem at this; cases this
  f1c := ne_of_objs x.f1 x.c fun z => by have := congrArg Obj.data z; unfold kFn KP.cls at this; cases this
  f1d := ne_of_objs x.f1 x.d fun z => by have := congrArg Obj.data z; unfold kFn KP.dict at this; cases this
  f1m := ne_of_objs x.f1 x.m fun z => by have := congrArg Obj.data z; unfold kFn KP.mem at this; cases this
  f10 := ne_of_objs x.f1 x.f0 fun z => by
    have := congrArg Obj.data z
    unfold kFn at this
    have := congrArg (fun d => match d with | .func fd => fd.name | _ => Str.ofString "") this
    exact absurd (show Str.ofString "__lt__" = Str.ofString "__init__" from this) (by decide)
theorem KC.inK {h : Heap} {p : KP} {C f : Addr} (x : KC h p C f) : (KK p C).In h := by
  intro a o e
  unfold KK at e
  simp only [List.lookup_cons] at e
  split at e
  · rename_i q; rw [beq_iff_eq.mp q]; cases e; exact x.c
  split at e
  · rename_i q; rw [beq_iff_eq.mp q]; cases e; exact x.d
  split at e
  · rename_i q; rw [beq_iff_eq.mp q]; cases e; exact x.m
  split at e
  · rename_i q; rw [beq_iff_eq.mp q]; cases e; exact x.f0
  split at e
  · rename_i q; rw [beq_iff_eq.mp q]; cases e; exact x.f1
  cases e
section
variable {p : KP} {C : Addr}
theorem bf {a b : Addr} (n : a ≠ b) : (a == b) = false := by simpa using n
theorem lkC : (KK p C).lookup C = some (p.cls C) := by simp [KK, List.lookup_cons]
theorem lkD (n : KNe p C) : (KK p C).lookup p.D = some p.dict := by simp [KK, List.lookup_cons, bf n.dc]
theorem lkM (n : KNe p C) : (KK p C).lookup p.MD = some (p.mem C) := by simp [KK, List.lookup_cons, bf n.mc, bf n.md]
theorem lk0 (n : KNe p C) : (KK p C).lookup p.F0 = some p.fn0 := by simp [KK, List.lookup_cons, bf n.f0c, bf n.f0d, bf n.f0m]
theorem lk1 (n : KNe p C) : (KK p C).lookup p.F1 = some p.fn1 := by simp [KK, List.lookup_cons, bf n.f1c, bf n.f1d, bf n.f1m, bf n.f10]
theorem kown (n : KNe p C) {x : Str} : ownIn (KK p C) x (.ref C) = lookIn x p.dict := by
  unfold ownIn
  simp only [lkC]
  show nsIn (KK p C) p.D x = _
  unfold nsIn
  rw [lkD n]; rfl
theorem kfind (n : KNe p C) {x : Str} {v : Value} (e : lookIn x p.dict = some (some v)) : findIn (KK p C) (.ref C) x = some (some v) := by
  unfold findIn
  simp only [lkC]
  show alongIn (KK p C) x [.ref C, .type "object"] = _
  unfold alongIn
  rw [kown n, e]
theorem kfindO (n : KNe p C) {x : Str} {r : Option Value} (e : lookIn x p.dict = some none) (q : (match fastBuiltinOwn "object" x with | some v => some v | none => none) = r) : findIn (KK p C) (.ref C) x = some r := by
  unfold findIn
  simp only [lkC]
  show alongIn (KK p C) x [.ref C, .type "object"] = _
  unfold alongIn
  rw [kown n, e]
  show alongIn (KK p C) x [.type "object"] = _
  have o : ownIn (KK p C) x (.type "object") = some (fastBuiltinOwn "object" x) := rfl
  unfold alongIn
  rw [← q, o]
  cases fastBuiltinOwn "object" x <;> rfl
theorem ktyC : typeIn (KK p C) (.ref C) = some (.type "type") := by show ((KK p C).lookup C).map (·.cls) = _; rw [lkC]; rfl
theorem kty0 (n : KNe p C) : typeIn (KK p C) (.ref p.F0) = some (.type "function") := by show ((KK p C).lookup p.F0).map (·.cls) = _; rw [lk0 n]; rfl
theorem kty1 (n : KNe p C) : typeIn (KK p C) (.ref p.F1) = some (.type "function") := by show ((KK p C).lookup p.F1).map (·.cls) = _; rw [lk1 n]; rfl
theorem ktyM (n : KNe p C) : typeIn (KK p C) (.ref p.MD) = some (.type "member_descriptor") := by show ((KK p C).lookup p.MD).map (·.cls) = _; rw [lkM n]; rfl
theorem kcls : clsIn (KK p C) C = some { name := "K", bases := [.type "object"], mro := [.ref C, .type "object"], ns := p.D, qualname := "cmp_to_key.<locals>.K", hasDict := false, slotNames := ["obj"] } := by unfold clsIn; rw [lkC]; rfl
theorem kmakes : makesIn (KK p C) C = true := by
  unfold makesIn
  simp only [lkC]
  have h1 : specialIn (KK p C) (.ref C) "__call__" = some (some (.builtin "type.__call__")) := by unfold specialIn; rw [ktyC]; kernel_rfl
  have h2 : instIn (KK p C) (.ref C) (.type "type") = some true := by unfold instIn; rw [ktyC]; kernel_rfl
  unfold KP.cls
  simp only [h1, h2]
  simp
theorem kinit (n : KNe p C) : findIn (KK p C) (.ref C) "__init__" = some (some (.ref p.F0)) := kfind n (by kernel_rfl)
theorem klt (n : KNe p C) : findIn (KK p C) (.ref C) "__lt__" = some (some (.ref p.F1)) := kfind n (by kernel_rfl)
theorem kobj (n : KNe p C) : findIn (KK p C) (.ref C) "obj" = some (some (.ref p.MD)) := kfind n (by kernel_rfl)
theorem ksetattr (n : KNe p C) : findIn (KK p C) (.ref C) "__setattr__" = some (some (.builtin "object.__setattr__")) := kfindO n (by kernel_rfl) (by kernel_rfl)
theorem kgetattribute (n : KNe p C) : findIn (KK p C) (.ref C) "__getattribute__" = some (some (.builtin "object.__getattribute__")) := kfindO n (by kernel_rfl) (by kernel_rfl)
theorem kgetattr (n : KNe p C) : findIn (KK p C) (.ref C) "__getattr__" = some none := kfindO n (by kernel_rfl) (by kernel_rfl)
theorem kplain : plainOver (KK p C) C = true := by unfold plainOver; rw [kcls]; kernel_rfl
theorem kget (n : KNe p C) : specialIn (KK p C) (.ref p.MD) "__get__" = some (some (.builtin "member_descriptor.__get__")) := by unfold specialIn; rw [ktyM n]; kernel_rfl
theorem kset (n : KNe p C) : specialIn (KK p C) (.ref p.MD) "__set__" = some (some (.builtin "member_descriptor.__set__")) := by unfold specialIn; rw [ktyM n]; kernel_rfl
theorem ktakes (n : KNe p C) : takesIn (KK p C) (.ref p.MD) = some true := by unfold takesIn; rw [kset n]
theorem ktaker (n : KNe p C) : takerIn (KK p C) C "obj" = some (some (.ref p.MD)) := by
  unfold takerIn
  rw [kobj n]
  show (takesIn (KK p C) (.ref p.MD)).map _ = _
  rw [ktakes n]; rfl
theorem kslot (n : KNe p C) : slotIn (KK p C) p.MD C = some 0 := by
  unfold slotIn
  have : recIn (KK p C) p.MD "member_descriptor" = some [.str "obj" p.tm, .ref C, .builtin "proto.slot", .builtin "proto.slot#set", rawInt 0] := by unfold recIn; rw [lkM n]; rfl
  rw [this, kcls]
  simp [rawInt]
end
end Mine
end
section -- KI2
open PySem PySem.W PyProof.Rows PySem.Spec PySem.Calls PySem.SeqAt
set_option Elab.async false
set_option maxRecDepth 100000
set_option maxHeartbeats 4000000
set_option pp.maxSteps 1500
set_option linter.unusedVariables false
namespace Mine
noncomputable def kInst (C dx : Addr) (v : Value) : Obj := ⟨.ref C, some dx, .plain, #[some v]⟩
section
variable {w : World} {A : Around} {E : Value → Shared → Prop} {s : Shared} {h : Heap} {tk : Nat} {p : KP} {C f : Addr}
theorem mkK {v : Value} {n : Nat} {Q : Value → Shared → Prop} (G : Gr w h) (R : Rm (n + 2) A) (x : KC h p C f)
    (k : ∀ a dx h' tk', Kp h h' → h.get? a = none → h.get? dx = none → h'.get? a = some (kInst C dx v) → h'.get? dx = some emptyDict → Q (.ref a) (at_ s h' tk')) :
    wpAny (model PG w) A (call (.ref C) [v]) Q E (at_ s h tk) := by
  have ne := x.ne
  have X := x.inK
  refine wpAny_call (make_core (rest := [v]) (kw := []) (h := h) (g := s.gens) (d := s.drawn) (t := tk) (os := s.os) (makes_of X kmakes) (looks_findIn X (kinit ne)) (fun self => bind_fn X self (kty0 ne)) (.inl rfl) ?_)
  have kp1 : Kp h ((h.push emptyDict).push (instObj C h.objs.size)) := (kp_push h _).trans (kp_push _ _)
  have gi : ((h.push emptyDict).push (instObj C h.objs.size)).get? (h.objs.size + 1) = some (instObj C h.objs.size) := by heap_get
  have gd : ((h.push emptyDict).push (instObj C h.objs.size)).get? h.objs.size = some emptyDict := kp_push _ _ _ _ (Heap.get?_push_size _ rfl)
  have nx : h.get? (h.objs.size + 1) = none := Heap.get?_none_of_le (Nat.le_succ _)
  have nd : h.get? h.objs.size = none := none_size h
  have sz : ((h.push emptyDict).push (instObj C h.objs.size)).objs.size = h.objs.size + 2 := by simp [Heap.size_push]
  generalize (h.push emptyDict).push (instObj C h.objs.size) = h₁ at kp1 gi gd sz
  generalize hxa : h.objs.size + 1 = xa at gi nx
  have x₁ := x.keeps kp1
  have G₁ := G.keeps kp1
  have gf : h₁.get? p.F0 = some p.fn0 := x₁.f0
  refine codeAny_call_def (s := at_ s h₁ tk) (fd := fnX "__init__" ("cmp_to_key.<locals>.K." ++ "__init__") (dPar kBody[2]?) (dBody kBody[2]?) (dScope kBody[2]?) [] .none .none p.d0 p.m0 none (.ref p.c0) p.v0) (body := dBody kBody[2]?) (binds := [("self", .ref xa), ("obj", v)]) ?_ gf rfl G₁.nolimit (codS.rec x₁.i0) rfl (BindsTo.of_eq (by kernel_rfl)) (show ∀ x ∈ (dScope kBody[2]?).names, x.2 ≠ .cell by decide +kernel) ?_ ?_ (by kernel_rfl) (by kernel_rfl) (by kernel_rfl)
  · have := R.depth
    show A.depth + 1 < _
    omega
  · intro y hy
    simp only [List.mem_cons, List.not_mem_nil, or_false] at hy
    rcases hy with rfl | rfl <;> kernel_rfl
  intro h₂ hns hk₂
  have kp2 : Kp h₁ h₂ := hk₂
  generalize hL : (at_ s h₁ tk).heap.objs.size = L at hns
  have hL : h₁.objs.size = L := hL
  generalize henv : callEnv _ L p.F0 = env
  have e : EnvIs env (dScope kBody[2]?) L [] := by subst henv; exact ⟨rfl, rfl, rfl, rfl, rfl, by kernel_rfl⟩
  have S : St h₁ L [("obj", v), ("self", .ref xa)] [] h₂ := ⟨kp2, hns, by rw [← hL]; exact none_size _, fun _ hp => (nomatch hp), fun _ hp => (nomatch hp), List.nodup_nil⟩
  refine wpAny_execs_cons (plainObj_wpAny_Assign_Attribute (ldl (v := v) S e (by kernel_rfl) (by kernel_rfl) (ldl (v := .ref xa) S e (by kernel_rfl) (by kernel_rfl) ?_)))
  have Fr' : Fr h L h₂ (fun y => ([("obj", v), ("self", Value.ref xa)] : List (Str × Value)).lookup y) := ⟨hns, kp1.trans kp2, by rw [← hL, sz]; omega⟩
  have N' : News h L h₂ [(xa, instObj C h.objs.size), (h.objs.size, emptyDict)] := by
    intro q hq
    simp only [List.mem_cons, List.not_mem_nil, or_false] at hq
    rcases hq with rfl | rfl
    · exact ⟨kp2 _ _ gi, by show xa ≠ L; omega, nx⟩
    · exact ⟨kp2 _ _ gd, by show h.objs.size ≠ L; omega, nd⟩
  refine set_slot (s := at_ s h₂ _) (news' := [(xa, kInst C h.objs.size v), (h.objs.size, emptyDict)]) Fr' X N' (InstAt.of_news N' (.head _) (.tail _ (.head _))) (ksetattr ne) kplain (ktaker ne) (ktyM ne) (kslot ne) (by decide) rfl rfl (.head fun q hq => ?_) fun h₃ F₃ N₃ => ?_
  · rw [List.mem_singleton.mp hq]; show h.objs.size ≠ xa; omega
  refine wpAny_pure ?_
  refine ⟨rfl, ?_⟩
  refine k xa h.objs.size h₃ _ F₃.keep nx nd (N₃ _ (.head _)).1 (N₃ _ (.tail _ (.head _))).1
end
end Mine
end
section -- KI3
open PySem PySem.W PyProof.Rows PySem.Spec PySem.Calls PySem.SeqAt
set_option Elab.async false
set_option maxRecDepth 100000
set_option maxHeartbeats 4000000
set_option pp.maxSteps 1500
set_option linter.unusedVariables false
namespace Mine
section
variable {w : World} {A : Around} {E : Value → Shared → Prop} {s : Shared} {h : Heap} {tk : Nat} {p : KP} {C f : Addr} {env : Env}
theorem callW_o {pos : Pos} {x : Expr} {rest : List Expr} {oc : Value} {od : Option Addr} {fd : FuncData} {sl : Array (Option Value)} {Q : Value → Shared → Prop} (q : (x :: rest).all plainE = true) (h₀ : Heap) (hf : h₀.get? f = some ⟨oc, od, .func fd, sl⟩)
    (k : wpAny (model PG w) A (spliced (backTo pos (starEach (x :: rest) env))) (fun vs s₁ => s₁.heap.get? f = some ⟨oc, od, .func fd, sl⟩ ∧ wpAny (model PG w) A (call (.ref f) vs) Q E s₁) E s) :
    wpAny (model PG w) A (callWith pos (.ref f) [] (backTo pos (starEach (x :: rest) env)) []) Q E s := by
  have lk : List.lookup f [(f, (⟨oc, od, .func fd, sl⟩ : Obj))] = some ⟨oc, od, .func fd, sl⟩ := by simp [List.lookup]
  have inn : ∀ {h' : Heap}, h'.get? f = some ⟨oc, od, .func fd, sl⟩ → Frag.In [(f, (⟨oc, od, .func fd, sl⟩ : Obj))] h' := fun {h'} e a o z => by
    by_cases ha : a = f
    · subst ha; rw [lk] at z; cases z; exact e
    · have : (a == f) = false := by simpa using ha
      simp [List.lookup, this] at z
  have hk : keepIn [(f, (⟨oc, od, .func fd, sl⟩ : Obj))] (.ref f) = true := by
    unfold keepIn
    simp only [lk]
  refine callWith_K (inn hf) hk (wpAny_mono k (fun vs s₁ y => ⟨inn y.1, y.2⟩) fun _ _ y => y) ?_ (back_plain pos _ ?_)
  · have e1 := starEach_plain (env := env) (x :: rest) q
    rw [List.all_cons, Bool.and_eq_true] at q
    rw [e1, starEach_plain (env := env) rest q.2]; rfl
  · rw [List.all_cons, Bool.and_eq_true] at q; exact q.2
theorem sp_att {x n : Str} {p₁ p₂ pos : Pos} {rest : List Expr} {Q : List Value → Shared → Prop} (k : wpAny (model PG w) A (eval (.Attribute (.Name x p₁) n p₂) env) (fun v s₁ => wpAny (model PG w) A (spliced (backTo pos (starEach rest env))) (fun vs s₂ => Q (v :: vs) s₂) E s₁) E s) :
    wpAny (model PG w) A (spliced (backTo pos (starEach (.Attribute (.Name x p₁) n p₂ :: rest) env))) Q E s := spliced_cons k
theorem kread {a dx : Addr} {v : Value} {b : Bool} {Q : Value → Shared → Prop} (x : KC h p C f) (i : h.get? a = some (kInst C dx v)) (d : h.get? dx = some emptyDict) (hv : handedIn v = true) (k : ∀ tk', Q v (at_ s h tk')) :
    wpAny (model PG w) A (getAttr (.ref a) "obj" b) Q E (at_ s h tk) := by
  have ne := x.ne
  have I : InstAt h a (kInst C dx v) C (some emptyDict) := ⟨i, rfl, rfl, d⟩
  exact get_bind (s := at_ s h tk) x.inK I (kgetattribute ne) (findObj_data (by rw [kcls]; rfl) (kobj ne) (kget ne) (ktakes ne)) (kgetattr ne) (wpAny_call (slot_get (s := { at_ s h tk with toks := (at_ s h tk).toks + 1 }) x.inK I (kslot ne) rfl (handed_on hv (k _))))
theorem ltK {a₁ a₂ d₁ d₂ : Addr} {v₁ v₂ : Value} {r : Int} {n : Nat} {oc : Value} {od : Option Addr} {fd : FuncData} {sl : Array (Option Value)} {Q : Value → Shared → Prop} (G : Gr w h) (R : Rm (n + 1) A) (x : KC h p C f) (i₁ : h.get? a₁ = some (kInst C d₁ v₁)) (e₁ : h.get? d₁ = some emptyDict) (i₂ : h.get? a₂ = some (kInst C d₂ v₂)) (e₂ : h.get? d₂ = some emptyDict)
    (hv₁ : handedIn v₁ = true) (hv₂ : handedIn v₂ = true) (hf : h.get? f = some ⟨oc, od, .func fd, sl⟩)
    (hc : ∀ A₁ h₁ tk₁ (Q₁ : Value → Shared → Prop) (E₁ : Value → Shared → Prop), Kp h h₁ → Rm n A₁ → (∀ t h₂ tk₂, Kp h₁ h₂ → Q₁ (.int r t) (at_ s h₂ tk₂)) → wpAny (model PG w) A₁ (call (.ref f) [v₁, v₂]) Q₁ E₁ (at_ s h₁ tk₁))
    (k : ∀ h' tk', Kp h h' → Q (.bool (decide (r < 0))) (at_ s h' tk')) :
    wpAny (model PG w) A (call (.ref p.F1) [.ref a₁, .ref a₂]) Q E (at_ s h tk) := by
  have gf : h.get? p.F1 = some p.fn1 := x.f1
  refine wpAny_call (codeAny_call_def (s := at_ s h tk) (fd := fnX "__lt__" ("cmp_to_key.<locals>.K." ++ "__lt__") (dPar kBody[3]?) (dBody kBody[3]?) (dScope kBody[3]?) [("mycmp", p.cm)] .none .none p.d1 p.m1 none (.ref p.c1) p.v1) (body := dBody kBody[3]?) (binds := [("self", .ref a₁), ("other", .ref a₂)]) ?_ gf rfl G.nolimit (codS.rec x.i1) rfl (BindsTo.of_eq (by kernel_rfl)) (show ∀ x ∈ (dScope kBody[3]?).names, x.2 ≠ .cell by decide +kernel) ?_ ?_ (by kernel_rfl) (by kernel_rfl) (by kernel_rfl))
  · have := R.depth
    show A.depth < _
    omega
  · intro y hy
    simp only [List.mem_cons, List.not_mem_nil, or_false] at hy
    rcases hy with rfl | rfl <;> kernel_rfl
  intro h₂ hns hk₂
  have kp2 : Kp h h₂ := hk₂
  generalize hL : (at_ s h tk).heap.objs.size = L at hns
  have hL : h.objs.size = L := hL
  generalize henv : callEnv _ L p.F1 = env
  have e : EnvIs env (dScope kBody[3]?) L [("mycmp", p.cm)] := by subst henv; exact ⟨rfl, rfl, rfl, rfl, rfl, by kernel_rfl⟩
  have S : St h L [("other", .ref a₂), ("self", .ref a₁)] [] h₂ := ⟨kp2, hns, by rw [← hL]; exact none_size _, fun _ hp => (nomatch hp), fun _ hp => (nomatch hp), List.nodup_nil⟩
  have R' : Rm n (A.deeper env) := R.deeper
  refine wpAny_execs_cons (wpAny_Return_some (wpAny_Compare1 (wpAny_Call_NameR (ldf (v := .ref f) e (by kernel_rfl) (by kernel_rfl) (x.cl.keeps kp2) (callW_o (f := f) (by kernel_rfl) h₂ (kp2 _ _ hf)
    (sp_att (Attribute_name (ldl (v := .ref a₁) S e (by kernel_rfl) (by kernel_rfl) (kread (x.keeps kp2) (kp2 _ _ i₁) (kp2 _ _ e₁) hv₁ fun tk₃ =>
      (sp_att (Attribute_name (ldl (v := .ref a₂) S e (by kernel_rfl) (by kernel_rfl) (kread (x.keeps kp2) (kp2 _ _ i₂) (kp2 _ _ e₂) hv₂ fun tk₄ => sp_nil ⟨kp2 _ _ hf, hc _ _ _ _ _ kp2 R' fun t h₃ tk₅ k₃ => cint fun t' tk₆ => ?_⟩)))))))))))))
  exact lt_int (k _ _ (kp2.trans k₃))
end
end Mine
end
section -- Stab
open PySem PySem.W PyProof.Rows PySem.Spec PySem.Calls PySem.SeqAt
set_option Elab.async false
set_option maxRecDepth 100000
set_option maxHeartbeats 1000000
namespace Mine
noncomputable def gd {α : Type} (N : Nat) (lt : Nat → Nat → Bool) : KasT α → (α → Prop) → Prop
  | .ret a, P => P a
  | .ask i j k, P => i < N ∧ j < N ∧ gd N lt (k (lt i j)) P
theorem gd_bind {α β : Type} {N : Nat} {lt : Nat → Nat → Bool} {f : α → KasT β} {P : β → Prop} : ∀ (t : KasT α), gd N lt t (fun a => gd N lt (f a) P) → gd N lt (t.bind f) P
  | .ret _, h => h
  | .ask i j k, h => ⟨h.1, h.2.1, gd_bind (k (lt i j)) h.2.2⟩
theorem gd_mono {α : Type} {N : Nat} {lt : Nat → Nat → Bool} {P P' : α → Prop} (hp : ∀ a, P a → P' a) : ∀ (t : KasT α), gd N lt t P → gd N lt t P'
  | .ret a, h => hp a h
  | .ask i j k, h => ⟨h.1, h.2.1, gd_mono hp (k (lt i j)) h.2.2⟩
structure Wk (lt : Nat → Nat → Bool) : Prop where
  as : ∀ {a b}, lt a b = true → lt b a = false
  nt : ∀ {a b c}, lt a b = false → lt b c = false → lt a c = false
noncomputable def Tl (lt : Nat → Nat → Bool) (a b : Nat) : Prop := lt a b = true ∨ (lt b a = false ∧ a < b)
section
variable {lt : Nat → Nat → Bool} {N : Nat} {p : Array Nat}
theorem Wk.irr (W : Wk lt) (a : Nat) : lt a a = false := by
  cases h : lt a a with
  | false => rfl
  | true => rw [W.as h] at h; cases h
theorem Wk.ll (W : Wk lt) {a b c : Nat} (h : lt a b = true) (q : lt c b = false) : lt a c = true := by
  cases e : lt a c with
  | true => rfl
  | false => rw [W.nt e q] at h; cases h
theorem Wk.rr (W : Wk lt) {a b c : Nat} (h : lt a b = true) (q : lt a c = false) : lt c b = true := by
  cases e : lt c b with
  | true => rfl
  | false => rw [W.nt q e] at h; cases h
theorem Wk.tr (W : Wk lt) {a b c : Nat} (h : lt a b = true) (q : lt b c = true) : lt a c = true := W.ll h (W.as q)
theorem Tl.le (W : Wk lt) {a b : Nat} (h : Tl lt a b) : lt b a = false := h.elim W.as (·.1)
theorem getD_of {q r : Array Nat} {i j : Nat} (h : q[i]? = r[j]?) : q.getD i 0 = r.getD j 0 := by
  rw [Array.getD_eq_getD_getElem?, Array.getD_eq_getD_getElem?, h]
theorem rev_at {i j : Nat} (hj : j ≤ p.size) (k : Nat) : (kas_rev p i j).getD k 0 = if i ≤ k ∧ k < j then p.getD (i + j - 1 - k) 0 else p.getD k 0 := by
  have e := getElem?_mirror_all (i := i) hj k
  by_cases h : i ≤ k ∧ k < j
  · rw [if_pos h] at e ⊢; exact getD_of e
  · rw [if_neg h] at e ⊢; exact getD_of e
theorem bub_at {k l : Nat} (hk : k < p.size) (hl : l ≤ k) (j : Nat) : (bubble p k (k - l)).getD j 0 = if j = l then p.getD k 0 else if l < j ∧ j ≤ k then p.getD (j - 1) 0 else p.getD j 0 := by
  have e := getElem?_bubble hk (k - l) (by omega) j
  have e1 : k - (k - l) = l := by omega
  rw [e1] at e
  by_cases h : j = l
  · rw [if_pos h] at e ⊢; exact getD_of e
  · rw [if_neg h] at e ⊢
    by_cases h' : l < j ∧ j ≤ k
    · rw [if_pos h'] at e ⊢; exact getD_of e
    · rw [if_neg h'] at e ⊢; exact getD_of e
structure Ok (N m : Nat) (p : Array Nat) : Prop where
  size : p.size = N
  perm : p.Perm (List.range N).toArray
  idn : ∀ k, m ≤ k → k < N → p.getD k 0 = k
  sm : ∀ k, k < m → p.getD k 0 < m
noncomputable def So (lt : Nat → Nat → Bool) (m : Nat) (p : Array Nat) : Prop := ∀ i j, i < j → j < m → Tl lt (p.getD i 0) (p.getD j 0)
noncomputable def Ds (lt : Nat → Nat → Bool) (m : Nat) (p : Array Nat) : Prop := ∀ i j, i < j → j < m → Tl lt (p.getD j 0) (p.getD i 0)
theorem Ok.rev {m i j : Nat} (o : Ok N m p) (hm : m ≤ N) (hj : j ≤ m) : Ok N m (kas_rev p i j) := by
  have hz : j ≤ p.size := by rw [o.size]; omega
  refine ⟨(mirror_size _ _ _ _).trans o.size, (mirror_perm _ _ _ _).trans o.perm, fun k h1 h2 => ?_, fun k h => ?_⟩
  · rw [rev_at hz, if_neg (by omega)]; exact o.idn k h1 h2
  · rw [rev_at hz]
    by_cases q : i ≤ k ∧ k < j
    · rw [if_pos q]; exact o.sm _ (by omega)
    · rw [if_neg q]; exact o.sm _ h
theorem Ok.succ {m : Nat} (o : Ok N m p) (hm : m < N) : Ok N (m + 1) p := by
  refine ⟨o.size, o.perm, fun k h1 h2 => o.idn k (Nat.le_of_succ_le h1) h2, fun k h => ?_⟩
  rcases Nat.lt_succ_iff_lt_or_eq.mp h with q | q
  · exact Nat.lt_succ_of_lt (o.sm k q)
  · rw [q, o.idn m (Nat.le_refl _) hm]; exact Nat.lt_succ_self m
theorem lts {j n : Nat} (h : j < n + 1) : j < n ∨ j = n := Nat.lt_succ_iff_lt_or_eq.mp h
theorem asc_gd (W : Wk lt) {P : Nat → Prop} : ∀ (f n : Nat), 1 ≤ n → n + f ≤ N → Ok N n p → So lt n p →
    (∀ m, n ≤ m → m ≤ n + f → Ok N m p → So lt m p → (m = n + f ∨ lt m (p.getD (m - 1) 0) = true) → P m) → gd N lt (kas_asc p f n) P
  | 0, n, _, _, o, so, k => k n (Nat.le_refl _) (Nat.le_refl _) o so (.inl rfl)
  | f + 1, 0, h1, _, _, _, _ => absurd h1 (Nat.not_succ_le_zero 0)
  | f + 1, n + 1, h1, hf, o, so, k => by
    have hN : n + 1 < N := Nat.lt_of_lt_of_le (Nat.lt_add_of_pos_right (Nat.succ_pos f)) hf
    have e := o.idn (n + 1) (Nat.le_refl _) hN
    have hs := o.sm n (Nat.lt_succ_self n)
    refine ⟨by rw [e]; exact hN, Nat.lt_trans hs hN, ?_⟩
    rw [e]
    show gd N lt (if lt (n + 1) (p.getD n 0) = true then _ else _) P
    cases c : lt (n + 1) (p.getD n 0) with
    | true => exact k (n + 1) (Nat.le_refl _) (Nat.le_add_right _ _) o so (.inr c)
    | false =>
      simp only [Bool.false_eq_true, if_false]
      have ef : n + 1 + 1 + f = n + 1 + (f + 1) := by rw [Nat.add_assoc (n + 1), Nat.add_comm 1 f]
      refine asc_gd W f (n + 1 + 1) (Nat.succ_pos _) (by rw [ef]; exact hf) (o.succ hN) (fun i j hij hj => ?_) fun m m1 m2 om sm q => k m (Nat.le_of_succ_le m1) (by rw [← ef]; exact m2) om sm (q.imp (fun z => z.trans ef) id)
      rcases lts hj with hjn | rfl
      · exact so i j hij hjn
      · rw [e]
        refine .inr ⟨?_, o.sm i hij⟩
        rcases lts hij with hi | rfl
        · exact W.nt c ((so i n hi (Nat.lt_succ_self n)).le W)
        · exact c
structure Dd (lt : Nat → Nat → Bool) (N n q c : Nat) (p : Array Nat) : Prop where
  ok : Ok N n p
  cq : c + q + 1 = n
  nN : n ≤ N
  pre : Ds lt c p
  low : ∀ i j, i < c → c ≤ j → j < n → lt (p.getD j 0) (p.getD i 0) = true
  seg : ∀ i j, c ≤ i → i < n → c ≤ j → j < n → lt (p.getD i 0) (p.getD j 0) = false
  idn : ∀ i, c ≤ i → i < n → p.getD i 0 = i
theorem Dd.rev {n q c : Nat} (d : Dd lt N n q c p) : Ds lt n (kas_rev p c n) := by
  have hz : n ≤ p.size := by rw [d.ok.size]; exact d.nN
  intro i j hij hj
  have mir : ∀ x, c ≤ x → x < n → c ≤ c + n - 1 - x ∧ c + n - 1 - x < n := fun x h1 h2 => by omega
  rw [rev_at hz, rev_at hz]
  by_cases h1 : c ≤ i
  · have hin := Nat.lt_trans hij hj
    have h2 := Nat.le_trans h1 (Nat.le_of_lt hij)
    rw [if_pos ⟨h2, hj⟩, if_pos ⟨h1, hin⟩]
    have mi := mir i h1 hin
    have mj := mir j h2 hj
    refine .inr ⟨d.seg _ _ mi.1 mi.2 mj.1 mj.2, ?_⟩
    rw [d.idn _ mj.1 mj.2, d.idn _ mi.1 mi.2]
    omega
  · by_cases h2 : c ≤ j
    · rw [if_pos ⟨h2, hj⟩, if_neg fun z => h1 z.1]
      have mj := mir j h2 hj
      exact .inl (d.low _ _ (Nat.lt_of_not_le h1) mj.1 mj.2)
    · rw [if_neg fun z => h2 z.1, if_neg fun z => h1 z.1]
      exact d.pre i j hij (Nat.lt_of_not_le h2)
theorem Dd.flat {n c : Nat} (d : Dd lt N n 0 c p) : Ds lt n p := by
  intro i j hij hj
  have e : c + 1 = n := d.cq
  subst e
  rcases lts hj with h2 | rfl
  · exact d.pre i j hij h2
  · exact .inl (d.low i j hij (Nat.le_refl _) hj)
theorem Dd.least {n q c : Nat} (W : Wk lt) (d : Dd lt N n q c p) {x : Nat} (h : lt x (p.getD (n - 1) 0) = true) : ∀ i, i < n → lt x (p.getD i 0) = true := by
  intro i hi
  have e := d.cq
  subst e
  have l1 : c ≤ c + q := Nat.le_add_right _ _
  have h : lt x (p.getD (c + q) 0) = true := h
  by_cases h1 : c ≤ i
  · exact W.ll h (d.seg _ _ h1 hi l1 (Nat.lt_succ_self _))
  · exact W.tr h (d.low _ _ (Nat.lt_of_not_le h1) l1 (Nat.lt_succ_self _))
theorem Dd.first {n : Nat} (o : Ok N n p) (hn : n < N) (ds : Ds lt n p) (W : Wk lt) (l : ∀ i, i < n → lt n (p.getD i 0) = true) : Dd lt N (n + 1) 0 n p := by
  have e := o.idn n (Nat.le_refl _) hn
  refine ⟨o.succ hn, rfl, hn, ds, fun i j hi hj hj' => ?_, fun i j hi hi' hj hj' => ?_, fun i hi hi' => ?_⟩
  · have z : j = n := Nat.le_antisymm (Nat.le_of_lt_succ hj') hj
    rw [z, e]; exact l i hi
  · have z : j = n := Nat.le_antisymm (Nat.le_of_lt_succ hj') hj
    have z' : i = n := Nat.le_antisymm (Nat.le_of_lt_succ hi') hi
    rw [z, z']; exact W.irr _
  · have z' : i = n := Nat.le_antisymm (Nat.le_of_lt_succ hi') hi
    rw [z']; exact e
theorem desc_gd (W : Wk lt) {P : Array Nat × Nat × Nat → Prop} : ∀ (f : Nat) (p : Array Nat) (c q : Nat), c + q + 1 + f ≤ N → Dd lt N (c + q + 1) q c p →
    (∀ p' n' q' c', Dd lt N n' q' c' p' → P (p', n', q')) → gd N lt (kas_desc f p (c + q + 1) q) P
  | 0, p, c, q, _, d, k => k p _ q c d
  | f + 1, p, c, q, hf, d, k => by
    have hN : c + q + 1 < N := Nat.lt_of_lt_of_le (Nat.lt_add_of_pos_right (Nat.succ_pos f)) hf
    have ef : c + q + 1 + 1 + f = c + q + 1 + (f + 1) := by rw [Nat.add_assoc (c + q + 1), Nat.add_comm 1 f]
    have e := d.ok.idn (c + q + 1) (Nat.le_refl _) hN
    have hs := d.ok.sm (c + q) (Nat.lt_succ_self _)
    refine ⟨by rw [e]; exact hN, Nat.lt_trans hs hN, ?_⟩
    rw [e]
    show gd N lt (if lt (c + q + 1) (p.getD (c + q) 0) = true then _ else _) P
    cases ca : lt (c + q + 1) (p.getD (c + q) 0) with
    | true =>
      simp only [if_true]
      have l := d.least W ca
      have hc : c + q + 1 - (q + 1) = c := by rw [Nat.add_assoc]; exact Nat.add_sub_cancel _ _
      rw [hc]
      by_cases hq0 : q > 0
      · rw [if_pos hq0]
        have hz : c + q + 1 ≤ p.size := by rw [d.ok.size]; exact d.nN
        refine desc_gd W f _ (c + q + 1) 0 (by rw [Nat.add_zero, ef]; exact hf) (Dd.first (d.ok.rev d.nN (Nat.le_refl _)) hN d.rev W fun i hi => ?_) k
        rw [rev_at hz]
        by_cases z : c ≤ i ∧ i < c + q + 1
        · rw [if_pos z]; exact l _ (by have := z.1; omega)
        · rw [if_neg z]; exact l _ hi
      · rw [if_neg hq0]
        have : q = 0 := Nat.eq_zero_of_not_pos hq0
        subst this
        exact desc_gd W f _ (c + 0 + 1) 0 (by rw [Nat.add_zero, ef]; exact hf) (Dd.first d.ok hN d.flat W l) k
    | false =>
      simp only [Bool.false_eq_true, if_false]
      refine ⟨Nat.lt_trans hs hN, hN, ?_⟩
      show gd N lt (if lt (p.getD (c + q) 0) (c + q + 1) = true then _ else _) P
      cases c2 : lt (p.getD (c + q) 0) (c + q + 1) with
      | true => simp only [if_true]; exact k p _ q c d
      | false =>
        simp only [Bool.false_eq_true, if_false]
        have lc : c ≤ c + q := Nat.le_add_right _ _
        refine desc_gd W f _ c (q + 1) (by rw [← Nat.add_assoc c q 1, ef]; exact hf) ⟨d.ok.succ hN, rfl, hN, d.pre, fun i j hi hj hj' => ?_, fun i j hi hi' hj hj' => ?_, fun i hi hi' => ?_⟩ k
        · rcases lts hj' with hjn | rfl
          · exact d.low i j hi hj hjn
          · show lt (p.getD (c + q + 1) 0) (p.getD i 0) = true
            rw [e]
            exact W.rr (d.low i (c + q) hi lc (Nat.lt_succ_self _)) c2
        · rcases lts hi' with hin | rfl
          · rcases lts hj' with hjn | rfl
            · exact d.seg i j hi hin hj hjn
            · show lt (p.getD i 0) (p.getD (c + q + 1) 0) = false
              rw [e]
              exact W.nt (d.seg i (c + q) hi hin lc (Nat.lt_succ_self _)) c2
          · show lt (p.getD (c + q + 1) 0) (p.getD j 0) = false
            rw [e]
            rcases lts hj' with hjn | rfl
            · exact W.nt ca (d.seg (c + q) j lc (Nat.lt_succ_self _) hj hjn)
            · show lt (c + q + 1) (p.getD (c + q + 1) 0) = false
              rw [e]; exact W.irr _
        · rcases lts hi' with hin | rfl
          · exact d.idn i hi hin
          · exact e
theorem Ds.rev {n : Nat} (ds : Ds lt n p) (hn : n ≤ p.size) : So lt n (kas_rev p 0 n) := by
  intro i j hij hj
  rw [rev_at hn, rev_at hn, if_pos ⟨Nat.zero_le _, Nat.lt_trans hij hj⟩, if_pos ⟨Nat.zero_le _, hj⟩]
  exact ds _ _ (by omega) (by omega)
theorem tail3_gd (W : Wk lt) {P : Nat × Array Nat → Prop} {n : Nat} (h1 : 1 ≤ n) (hn : n ≤ N) (o : Ok N n p) (ds : Ds lt n p) (k : ∀ m p', 1 ≤ m → m ≤ N → Ok N m p' → So lt m p' → P (m, p')) : gd N lt (kas_tail3 n N p) P := by
  unfold kas_tail3
  have en : n + (N - n) = N := Nat.add_sub_cancel' hn
  refine gd_bind _ (asc_gd W _ n h1 (Nat.le_of_eq en) (o.rev hn (Nat.le_refl _)) (ds.rev (by rw [o.size]; exact hn)) fun m m1 m2 om sm _ => k m _ (Nat.le_trans h1 m1) (by rw [en] at m2; exact m2) om sm)
theorem descPart_gd (W : Wk lt) {P : Nat × Array Nat → Prop} {n : Nat} (hn : n < N) (o : Ok N n p) (ds : Ds lt n p) (l : ∀ i, i < n → lt n (p.getD i 0) = true) (k : ∀ m p', 1 ≤ m → m ≤ N → Ok N m p' → So lt m p' → P (m, p')) : gd N lt (kas_descPart n N p) P := by
  unfold kas_descPart
  refine gd_bind _ (desc_gd W _ p n 0 (Nat.le_of_eq (Nat.add_sub_cancel' hn)) (Dd.first o hn ds W l) fun p' n' q' c' d => ?_)
  have e := d.cq
  have h1 : 1 ≤ n' := by rw [← e]; exact Nat.succ_pos _
  have hc : n' - (q' + 1) = c' := by rw [← e, Nat.add_assoc]; exact Nat.add_sub_cancel _ _
  dsimp only
  rw [hc]
  by_cases hq : q' > 0
  · rw [if_pos hq]
    exact tail3_gd W h1 d.nN (d.ok.rev d.nN (Nat.le_refl _)) d.rev k
  · rw [if_neg hq]
    have : q' = 0 := Nat.eq_zero_of_not_pos hq
    subst this
    exact tail3_gd W h1 d.nN d.ok d.flat k
theorem lt_one {α : Prop} {i j : Nat} (hij : i < j) (hj : j < 1) : α := absurd (Nat.lt_of_lt_of_le hij (Nat.le_of_lt_succ hj)) (Nat.not_lt_zero i)
theorem count_gd (W : Wk lt) {P : Nat × Array Nat → Prop} (hN : 1 ≤ N) (o : Ok N 1 p) (k : ∀ m p', 1 ≤ m → m ≤ N → Ok N m p' → So lt m p' → P (m, p')) : gd N lt (kas_count N p) P := by
  unfold kas_count
  have en : 1 + (N - 1) = N := Nat.add_sub_cancel' hN
  refine gd_bind _ (asc_gd W _ 1 (Nat.le_refl _) (Nat.le_of_eq en) o (fun i j hij hj => lt_one hij hj) fun n n1 n2 on sn q => ?_)
  rw [en] at n2 q
  by_cases e1 : (n == N) = true
  · rw [if_pos e1]; exact k n p n1 n2 on sn
  · rw [if_neg e1]
    have ne : n ≠ N := fun z => e1 (by rw [z]; exact beq_self_eq_true _)
    have hlt : n < N := Nat.lt_of_le_of_ne n2 ne
    have nl : n - 1 < n := Nat.sub_lt n1 Nat.one_pos
    have c : lt n (p.getD (n - 1) 0) = true := q.resolve_left ne
    by_cases e2 : n > 1
    · rw [if_pos e2]
      refine ⟨Nat.lt_trans (on.sm 0 n1) hlt, Nat.lt_trans (on.sm _ nl) hlt, ?_⟩
      cases c2 : lt (p.getD 0 0) (p.getD (n - 1) 0) with
      | true => simp only [if_true]; exact k n p n1 n2 on sn
      | false =>
        simp only [Bool.false_eq_true, if_false]
        have le : ∀ i j, i ≤ j → j < n → lt (p.getD j 0) (p.getD i 0) = false := fun i j hij hj => by
          rcases Nat.lt_or_eq_of_le hij with z | z
          · exact (sn i j z hj).le W
          · rw [z]; exact W.irr _
        have al : ∀ i, i < n → lt n (p.getD i 0) = true := fun i hi =>
          W.ll c (W.nt (le 0 i (Nat.zero_le _) hi) c2)
        have hz : n ≤ p.size := by rw [on.size]; exact n2
        refine descPart_gd W hlt (on.rev n2 (Nat.le_refl _)) (fun i j hij hj => ?_) (fun i hi => ?_) k
        · rw [rev_at hz, rev_at hz, if_pos ⟨Nat.zero_le _, hj⟩, if_pos ⟨Nat.zero_le _, Nat.lt_trans hij hj⟩]
          have m : 0 + n - 1 - j < 0 + n - 1 - i ∧ 0 + n - 1 - i < n := by omega
          exact sn _ _ m.1 m.2
        · rw [rev_at hz, if_pos ⟨Nat.zero_le _, hi⟩]
          exact al _ (by omega)
    · rw [if_neg e2]
      have : n = 1 := Nat.le_antisymm (Nat.le_of_not_lt e2) n1
      subst this
      refine descPart_gd W hlt on (fun i j hij hj => lt_one hij hj) (fun i hi => ?_) k
      have : i = 0 := Nat.lt_one_iff.mp hi
      subst this
      exact c
theorem place_gd (W : Wk lt) {P : Nat → Prop} {k : Nat} (o : Ok N k p) (hk : k < N) (so : So lt k p) (fin : ∀ l, l ≤ k → (∀ i, i < l → lt k (p.getD i 0) = false) → (∀ i, l ≤ i → i < k → lt k (p.getD i 0) = true) → P l) :
    ∀ (f l r : Nat), l ≤ r → r ≤ k → r - l ≤ f → (∀ i, i < l → lt k (p.getD i 0) = false) → (∀ i, r ≤ i → i < k → lt k (p.getD i 0) = true) → gd N lt (kas_place p k f l r) P
  | 0, l, r, h1, h2, h3, a, b => by
    have e : l = r := Nat.le_antisymm h1 (Nat.sub_eq_zero_iff_le.mp (Nat.le_zero.mp h3))
    subst e
    exact fin l h2 a b
  | f + 1, l, r, h1, h2, h3, a, b => by
    unfold kas_place
    by_cases hlr : l ≥ r
    · rw [if_pos hlr]
      have e : l = r := Nat.le_antisymm h1 hlr
      subst e
      exact fin l h2 a b
    · rw [if_neg hlr]
      have e := o.idn k (Nat.le_refl _) hk
      generalize hm : (l + r) / 2 = m
      have mm : (l ≤ m ∧ m < r) ∧ m - l ≤ f ∧ r - (m + 1) ≤ f := by omega
      have mk := Nat.lt_of_lt_of_le mm.1.2 h2
      refine ⟨by rw [e]; exact hk, Nat.lt_trans (o.sm m mk) hk, ?_⟩
      rw [e]
      cases c : lt k (p.getD m 0) with
      | true =>
        simp only [if_true]
        refine place_gd W o hk so fin f l m mm.1.1 (Nat.le_of_lt mk) mm.2.1 a fun i hi hik => ?_
        rcases Nat.lt_or_eq_of_le hi with z | rfl
        · exact W.ll c ((so m i z hik).le W)
        · exact c
      | false =>
        simp only [Bool.false_eq_true, if_false]
        refine place_gd W o hk so fin f (m + 1) r mm.1.2 h2 mm.2.2 (fun i hi => ?_) b
        rcases lts hi with z | rfl
        · exact W.nt c ((so i m z mk).le W)
        · exact c
theorem bin_gd (W : Wk lt) {P : Array Nat → Prop} (fin : ∀ p', Ok N N p' → So lt N p' → P p') : ∀ (f : Nat) (p : Array Nat) (k : Nat), k + f = N → Ok N k p → So lt k p → gd N lt (kas_bin f p k) P
  | 0, p, k, h, o, so => by
    have h : k = N := h
    subst h
    exact fin p o so
  | f + 1, p, k, h, o, so => by
    unfold kas_bin
    have hk : k < N := by rw [← h]; exact Nat.lt_add_of_pos_right (Nat.succ_pos f)
    refine gd_bind _ (place_gd W o hk so (fun l hl a b => ?_) k 0 k (Nat.zero_le _) (Nat.le_refl _) (Nat.le_refl _) (fun i hi => absurd hi (Nat.not_lt_zero i)) (fun i hi hi' => absurd hi' (Nat.not_lt_of_le hi)))
    have hz : k < p.size := by rw [o.size]; exact hk
    have e := o.idn k (Nat.le_refl _) hk
    refine bin_gd W fin f _ (k + 1) (by rw [← h, Nat.add_assoc, Nat.add_comm 1 f]) ⟨(bubble_size _ _ _).trans o.size, (bubble_perm _ _ _).trans o.perm, fun j kj h2 => ?_, fun j hj => ?_⟩ fun i j hij hj => ?_
    · have kj : k < j := kj
      rw [bub_at hz hl, if_neg (Nat.ne_of_gt (Nat.lt_of_le_of_lt hl kj)), if_neg fun z => Nat.not_le_of_gt kj z.2]
      exact o.idn j (Nat.le_of_lt kj) h2
    · have jk := Nat.le_of_lt_succ hj
      rw [bub_at hz hl]
      by_cases q1 : j = l
      · rw [if_pos q1, e]; exact Nat.lt_succ_self k
      · rw [if_neg q1]
        by_cases q2 : l < j
        · rw [if_pos ⟨q2, jk⟩]
          exact Nat.lt_succ_of_lt (o.sm (j - 1) (Nat.lt_of_lt_of_le (Nat.sub_lt (Nat.lt_of_le_of_lt (Nat.zero_le l) q2) Nat.one_pos) jk))
        · rw [if_neg fun z => q2 z.1]
          exact Nat.lt_succ_of_lt (o.sm j (Nat.lt_of_lt_of_le (Nat.lt_of_le_of_ne (Nat.le_of_not_lt q2) q1) hl))
    · have jk := Nat.le_of_lt_succ hj
      have pj : 0 < j := Nat.lt_of_le_of_lt (Nat.zero_le i) hij
      have j1k : j - 1 < k := Nat.lt_of_lt_of_le (Nat.sub_lt pj Nat.one_pos) jk
      rw [bub_at hz hl, bub_at hz hl]
      by_cases i1 : i = l
      · have lj : l < j := i1 ▸ hij
        rw [if_pos i1, if_neg (Nat.ne_of_gt lj), if_pos ⟨lj, jk⟩, e]
        exact .inl (b _ (Nat.le_sub_one_of_lt lj) j1k)
      · rw [if_neg i1]
        by_cases i2 : l < i
        · have lj := Nat.lt_trans i2 hij
          rw [if_pos ⟨i2, Nat.le_trans (Nat.le_of_lt hij) jk⟩, if_neg (Nat.ne_of_gt lj), if_pos ⟨lj, jk⟩]
          exact so _ _ (by omega) j1k
        · have il : i < l := Nat.lt_of_le_of_ne (Nat.le_of_not_lt i2) i1
          rw [if_neg fun z => i2 z.1]
          by_cases j1 : j = l
          · rw [if_pos j1, e]
            exact .inr ⟨a i il, o.sm i (Nat.lt_of_lt_of_le il hl)⟩
          · rw [if_neg j1]
            by_cases j2 : l < j
            · rw [if_pos ⟨j2, jk⟩]; exact so _ _ (Nat.lt_of_lt_of_le il (Nat.le_sub_one_of_lt j2)) j1k
            · rw [if_neg fun z => j2 z.1]; exact so _ _ hij (Nat.lt_of_lt_of_le (Nat.lt_of_le_of_ne (Nat.le_of_not_lt j2) j1) hl)
theorem stab (W : Wk lt) (hN : 1 ≤ N) : gd N lt (kas_sort N) fun p => p.toList.Perm (List.range N) ∧ p.toList.Pairwise (Tl lt) := by
  have fin : ∀ p', Ok N N p' → So lt N p' → p'.toList.Perm (List.range N) ∧ p'.toList.Pairwise (Tl lt) := fun p' o so => by
    refine ⟨by simpa using Array.perm_iff_toList_perm.mp o.perm, List.pairwise_iff_getElem.mpr fun i j hi hj hij => ?_⟩
    rw [Array.length_toList] at hi hj
    have := so i j hij (by rw [← o.size]; exact hj)
    simp only [Array.getD, hi, hj, dif_pos] at this
    simpa using this
  unfold kas_sort
  have o1 : Ok N 1 (List.toArray (List.range N)) := by
    refine ⟨by simp, Array.Perm.refl _, fun k _ h2 => ?_, fun k h => ?_⟩
    · rw [Array.getD_eq_getD_getElem?, List.getElem?_toArray, List.getElem?_range h2]; rfl
    · have : k = 0 := by omega
      subst this
      have : 0 < N := by omega
      rw [Array.getD_eq_getD_getElem?, List.getElem?_toArray, List.getElem?_range this]
      exact Nat.one_pos
  refine gd_bind _ (count_gd W hN o1 fun m p' m1 m2 o so => ?_)
  dsimp only
  by_cases h : m < N
  · rw [if_pos h]
    have e : max m 1 = m := by omega
    rw [e]
    exact bin_gd W fin _ p' m (by omega) o so
  · rw [if_neg h]
    have : m = N := by omega
    subst this
    exact fin p' o so
end
end Mine
end
section -- SortO
open PySem PySem.W PyProof.Rows PySem.Spec PySem.Calls PySem.SeqAt
set_option Elab.async false
set_option maxRecDepth 100000
set_option maxHeartbeats 1000000
set_option pp.maxSteps 3000
namespace Mine
theorem gd_kas {α : Type} {N : Nat} {lt : Nat → Nat → Bool} {cmp : Nat → Nat → (Bool → Shared → Prop) → Shared → Prop} {Inv : Shared → Prop} {P : α → Prop} {Q : α → Shared → Prop}
    (turn : ∀ i j, i < N → j < N → ∀ s (C : Bool → Shared → Prop), Inv s → (∀ s', Inv s' → C (lt i j) s') → cmp i j C s) (k : ∀ a s', P a → Inv s' → Q a s') :
    ∀ (t : KasT α) (s : Shared), gd N lt t P → Inv s → t.kasWp cmp Q s
  | .ret a, s, g, hs => k a s g hs
  | .ask i j kk, s, g, hs => turn i j g.1 g.2.1 s _ hs fun s' hs' => gd_kas turn k (kk (lt i j)) s' g.2.2 hs'
section
variable {w : World} {A : Around} {E : Value → Shared → Prop} {s : Shared} {h h' : Heap} {tk : Nat} {env : Env} {sc : Scope} {L : Addr} {cs : List (Str × Addr)} {h₀ : Heap} {loc : List (Str × Value)} {own : List (Addr × Sort_)}
theorem allNews_size {p : Addr × Obj} (hp : p ∈ allNews h L) : p.1 < h.objs.size := Heap.lt_size (allNews_mem.mp hp).2
theorem sortO {l : Addr} {vs : List Value} {lt : Nat → Nat → Bool} {Q : Value → Shared → Prop} (W : Wk lt) (S : St h₀ L loc own h) (hl : Is h l (lst vs)) (h2 : 2 ≤ vs.length) (h64 : vs.length < 64)
    (hT : ∀ v ∈ vs, ∃ a o, v = .ref a ∧ a ≠ L ∧ h.get? a = some o ∧ o.cls = .type "list")
    (turn : ∀ i j, i < vs.length → j < vs.length → ∀ h' tk' (Q' : Bool → Shared → Prop), KL L (fun x => loc.lookup x) h h' → (∀ h'' tk'', Kp h' h'' → Q' (lt i j) (at_ s h'' tk'')) →
      wpAny (model PG w) A.in1.in1 (keyLt' oneType' (vs.getD i .none) (vs.getD j .none)) Q' (fun _ _ => False) (at_ s h' tk'))
    (k : ∀ D h' tk' (p : List Nat), h.get? D = none → D ≠ L → KL L (fun x => loc.lookup x) h h' → Is h' D (lst (p.map fun i => vs.getD i .none)) → p.Perm (List.range vs.length) → p.Pairwise (Tl lt) → Q (.ref D) (at_ s h' tk')) :
    wpAny (model PG w) A (call (.builtin "sorted") [.ref l]) Q E (at_ s h tk) := by
  have Fx : Fr noH L h (fun x => loc.lookup x) := ⟨S.ns, fun b o e => (by rw [emptyHeap_none] at e; cases e), Nat.zero_le _⟩
  have Nx : News noH L h (allNews h L) := fun p hp => by
    obtain ⟨b, o⟩ := p
    obtain ⟨q1, q2⟩ := allNews_mem.mp hp
    exact ⟨q2, q1, emptyHeap_none _⟩
  have kl : ∀ {h' : Heap} {x : Addr × Obj}, Fr noH L h' (fun x => loc.lookup x) → News noH L h' (x :: allNews h L) → KL L (fun x => loc.lookup x) h h' := fun F' N' =>
    ⟨fun b o hne e => (N' (b, o) (.tail _ (allNews_mem.mpr ⟨hne, e⟩))).1, F'.ns⟩
  refine kat_sorted (s := at_ s h tk) Fx Nx hl.list h2 h64 fun D e1 h₁ F₁ N₁ hD => ?_
  refine kas_kind (T := .type "list") h2 (fun v hv => ?_) (by decide) (by decide) ?_
  · obtain ⟨a, o, rfl, hne, e, hc⟩ := hT v hv
    have e' := (kl F₁ N₁).keep a o hne e
    show Looks _ h₁ (typeOf (.ref a)) _
    rw [← hc]
    exact (Looks.ld e').andThen .now
  · refine gd_kas (N := vs.length) (lt := lt) (Inv := fun s' => ∃ h' tk', s' = at_ s h' tk' ∧ Fr noH L h' (fun x => loc.lookup x) ∧ News noH L h' ((D, seqObj "list" #[] e1) :: allNews h L))
      (fun i j hi hj s' C => ?_) (fun a s' => ?_) _ _ (stab W (by omega)) ⟨h₁, tk, rfl, F₁, N₁⟩
    · rintro ⟨h', tk', rfl, F', N'⟩ hC
      refine turn i j hi hj h' tk' C (kl F' N') fun h'' tk'' kp => hC _ ⟨h'', tk'', rfl, ⟨F'.ns.keeps kp, fun b o e => (by rw [emptyHeap_none] at e; cases e), Nat.zero_le _⟩, fun p hp => ⟨kp _ _ (N' p hp).1, (N' p hp).2⟩⟩
    · rintro ⟨pp, pw⟩ ⟨h', tk', rfl, F', N'⟩
      refine KasFin.intro F' N' (.head fun p hp => Nat.ne_of_lt (hD p hp)) fun h'' c F'' N'' => ?_
      have dn := N'' _ (.head _)
      refine k D h'' tk' a.toList ?_ dn.2.1 (kl F'' N'') ⟨_, dn.1, c, rfl⟩ pp pw
      cases q : h.get? D with
      | none => rfl
      | some o => exact absurd (hD (D, o) (allNews_mem.mpr ⟨dn.2.1, q⟩)) (Nat.lt_irrefl _)
end
end Mine
end
section -- SortC
open PySem PySem.W PyProof.Rows PySem.Spec PySem.Calls PySem.SeqAt
set_option Elab.async false
set_option maxRecDepth 100000
set_option maxHeartbeats 1000000
set_option pp.maxSteps 3000
namespace Mine
noncomputable def KeysIn (C : Addr) (ex : List (Addr × Obj)) (ks vs : List Value) : Prop :=
  ks.length = vs.length ∧ ∀ (i : Nat) (v : Value), vs[i]? = some v → ∃ a d, ks[i]? = some (.ref a) ∧ (a, kInst C d v) ∈ ex ∧ (d, emptyDict) ∈ ex
theorem KeysIn.snoc {C : Addr} {ex : List (Addr × Obj)} {ks vs : List Value} (x : KeysIn C ex ks vs) (a d : Addr) (v : Value) : KeysIn C ((a, kInst C d v) :: (d, emptyDict) :: ex) (ks ++ [.ref a]) (vs ++ [v]) := by
  refine ⟨by rw [List.length_append, List.length_append, x.1]; rfl, fun i u hu => ?_⟩
  rcases snoc_get hu with hu | ⟨z, hu⟩
  · obtain ⟨b, e, q1, q2, q3⟩ := x.2 i u hu
    exact ⟨b, e, by rw [List.getElem?_append_left (by rw [x.1]; exact (List.getElem?_eq_some_iff.mp hu).1)]; exact q1, .tail _ (.tail _ q2), .tail _ (.tail _ q3)⟩
  · rw [z, ← hu, ← x.1]
    exact ⟨a, d, by rw [List.getElem?_append_right (Nat.le_refl _), Nat.sub_self]; rfl, .head _, .tail _ (.head _)⟩
section
variable {w : World} {A : Around} {E : Value → Shared → Prop} {s : Shared} {h : Heap} {tk : Nat} {L : Addr} {h₀ : Heap} {loc : List (Str × Value)} {own : List (Addr × Sort_)} {p : KP} {C f kS D : Addr} {e1 : Nat}
noncomputable abbrev KNews (h : Heap) (L kS D : Addr) (e1 : Nat) (ex : List (Addr × Obj)) (ks : List Value) (e : Nat) : List (Addr × Obj) := (kS, seqObj "list" ks.toArray e) :: (D, seqObj "list" #[] e1) :: (ex ++ allNews h L)
theorem kn_kl {h' : Heap} {ex : List (Addr × Obj)} {ks : List Value} {e : Nat} (F' : Fr noH L h' (fun x => loc.lookup x)) (N' : News noH L h' (KNews h L kS D e1 ex ks e)) : KL L (fun x => loc.lookup x) h h' :=
  ⟨fun b o hne q => (N' (b, o) (.tail _ (.tail _ (List.mem_append_right _ (allNews_mem.mpr ⟨hne, q⟩))))).1, F'.ns⟩
theorem fr_keeps {h' h'' : Heap} (F' : Fr noH L h' (fun x => loc.lookup x)) (kp : Kp h' h'') : Fr noH L h'' (fun x => loc.lookup x) := ⟨F'.ns.keeps kp, fun b o e => (by rw [emptyHeap_none] at e; cases e), Nat.zero_le _⟩
theorem ns_keeps {h' h'' : Heap} {l : List (Addr × Obj)} (N' : News noH L h' l) (kp : Kp h' h'') : News noH L h'' l := fun p hp => ⟨kp _ _ (N' p hp).1, (N' p hp).2⟩
theorem keysC {n : Nat} {Fin : List Value → Nat → Shared → Prop} (S : St h₀ L loc own h) (G : Gr w h₀) (R : Rm (n + 2) A) (x : KC h p C f) (nL : L ∉ p.all C) (lo : ∀ q ∈ allNews h L, q.1 ≠ kS) (hDk : D ≠ kS) :
    ∀ (r ks vs : List Value) (ex : List (Addr × Obj)) (e : Nat) (h' : Heap) (tk' : Nat), KeysIn C ex ks vs → (∀ q ∈ ex, q.1 ≠ kS ∧ q.1 ≠ D) → Fr noH L h' (fun x => loc.lookup x) → News noH L h' (KNews h L kS D e1 ex ks e) →
    (∀ ks' ex' e' h'' tk'', KeysIn C ex' ks' (vs ++ r) → (∀ q ∈ ex', q.1 ≠ kS ∧ q.1 ≠ D) → Fr noH L h'' (fun x => loc.lookup x) → News noH L h'' (KNews h L kS D e1 ex' ks' e') → Fin ks' e' (at_ s h'' tk'')) →
    KatKeys PG w A noH L (fun x => loc.lookup x) kS (.ref C) Fin r ks e (at_ s h' tk')
  | [], ks, vs, ex, e, h', tk', ki, hex, F', N', fin => KatKeys.nil (fin ks ex e h' tk' (by rw [List.append_nil]; exact ki) hex F' N')
  | v :: r, ks, vs, ex, e, h', tk', ki, hex, F', N', fin => by
    have kl := kn_kl F' N'
    have G' : Gr w h' := G.keeps (S.kl kl).keep
    refine KatKeys.cons (mkK G' R (x.but nL kl.keep) fun a d h₁ tk₁ kp na nd ia id => ?_)
    have hkS : h'.get? kS = some (seqObj "list" ks.toArray e) := (N' _ (.head _)).1
    have hD : h'.get? D = some (seqObj "list" #[] e1) := (N' _ (.tail _ (.head _))).1
    have ne : ∀ b o c, h'.get? b = some o → h'.get? c = none → c ≠ b := fun b o c q r z => by rw [z, q] at r; cases r
    obtain ⟨oL, _, _, hL, _⟩ := F'.ns
    have F₁ := fr_keeps F' kp
    have N₁ : News noH L h₁ (KNews h L kS D e1 ((a, kInst C d v) :: (d, emptyDict) :: ex) ks e) := fun q hq => by
      rcases List.mem_cons.mp hq with rfl | hq
      · exact ns_keeps N' kp _ (.head _)
      rcases List.mem_cons.mp hq with rfl | hq
      · exact ns_keeps N' kp _ (.tail _ (.head _))
      rcases List.mem_cons.mp hq with rfl | hq
      · exact ⟨ia, ne L _ a hL na, emptyHeap_none _⟩
      rcases List.mem_cons.mp hq with rfl | hq
      · exact ⟨id, ne L _ d hL nd, emptyHeap_none _⟩
      · exact ns_keeps N' kp _ (.tail _ (.tail _ hq))
    have hex₁ : ∀ q ∈ (a, kInst C d v) :: (d, emptyDict) :: ex, q.1 ≠ kS ∧ q.1 ≠ D := fun q hq => by
      rcases List.mem_cons.mp hq with rfl | hq
      · exact ⟨ne _ _ a hkS na, ne _ _ a hD na⟩
      rcases List.mem_cons.mp hq with rfl | hq
      · exact ⟨ne _ _ d hkS nd, ne _ _ d hD nd⟩
      · exact hex q hq
    refine KatBack.intro F₁ N₁ (.head fun q hq => ?_) fun h₂ c F₂ N₂ => ?_
    · rcases List.mem_cons.mp hq with rfl | hq
      · exact hDk
      rcases List.mem_append.mp hq with hq | hq
      · exact (hex₁ q hq).1
      · exact lo q hq
    · exact keysC S G R x nL lo hDk r (ks ++ [.ref a]) (vs ++ [v]) _ c h₂ tk₁ (ki.snoc a d v) hex₁ F₂ N₂ fun ks' ex' e' h'' tk'' a1 a2 a3 a4 => fin ks' ex' e' h'' tk'' (by rw [List.append_assoc] at a1; exact a1) a2 a3 a4
theorem ltInst {a b : Addr} {ox : Obj} {od : Option Obj} {Q : Bool → Shared → Prop} {A : Around} (hu : A.units < cLine) (x : KC h p C f) (I : InstAt h a ox C od) (k : wpAny (model PG w) A (call (.ref p.F1) [.ref a, .ref b]) (PySem.W.BoolBack Q) E (at_ s h tk)) :
    wpAny (model PG w) A (keyLt' oneType' (.ref a) (.ref b)) Q E (at_ s h tk) := by
  rw [keyLt'_oneType, oneLt'_eq]
  simp only [if_true]
  refine wpAny_bind (wpAny_cRoomFor hu ?_)
  refine wpAny_bind (ifBound_K (s := at_ s h tk) x.inK I (klt x.ne) ?_ (wpAny_mono k (fun v s' hv => ?_) fun _ _ e => e))
  · unfold isFn
    rw [kty1 x.ne]; rfl
  cases v <;> first | exact hv.elim | skip
  exact wpAny_truthy_bool hv
theorem sortC {n : Nat} {l : Addr} {vs : List Value} {r : Nat → Nat → Int} {oc : Value} {od : Option Addr} {fd : FuncData} {sl : Array (Option Value)} {Q : Value → Shared → Prop} (W : Wk fun i j => decide (r i j < 0)) (S : St h₀ L loc own h) (G : Gr w h₀) (R : Rm (n + 3) A) (x : KC h p C f) (nL : L ∉ p.all C) (hl : Is h l (lst vs)) (h2 : 2 ≤ vs.length) (h64 : vs.length < 64)
    (hv : ∀ v ∈ vs, handedIn v = true) (hf : h.get? f = some ⟨oc, od, .func fd, sl⟩) (fL : f ≠ L)
    (hc : ∀ i j, i < vs.length → j < vs.length → ∀ (A₁ : Around) h₁ tk₁ (Q₁ E₁ : Value → Shared → Prop), KL L (fun x => loc.lookup x) h h₁ → Rm n A₁ → (∀ t h₂ tk₂, Kp h₁ h₂ → Q₁ (.int (r i j) t) (at_ s h₂ tk₂)) →
      wpAny (model PG w) A₁ (call (.ref f) [vs.getD i .none, vs.getD j .none]) Q₁ E₁ (at_ s h₁ tk₁))
    (k : ∀ D h' tk' (p : List Nat), h.get? D = none → D ≠ L → KL L (fun x => loc.lookup x) h h' → Is h' D (lst (p.map fun i => vs.getD i .none)) → p.Perm (List.range vs.length) → p.Pairwise (Tl fun i j => decide (r i j < 0)) → Q (.ref D) (at_ s h' tk')) :
    wpAny (model PG w) A (call (.builtin "sorted") [.ref l] [(Str.ofString "key", .ref C)]) Q E (at_ s h tk) := by
  have Fx : Fr noH L h (fun x => loc.lookup x) := ⟨S.ns, fun b o e => (by rw [emptyHeap_none] at e; cases e), Nat.zero_le _⟩
  have Nx : News noH L h (allNews h L) := fun p hp => by
    obtain ⟨b, o⟩ := p
    obtain ⟨q1, q2⟩ := allNews_mem.mp hp
    exact ⟨q2, q1, emptyHeap_none _⟩
  have R2 : Rm (n + 2) A.in1.in1 := R.in2
  refine kat_sortedK (s := at_ s h tk) (b := false) (f := .ref C) Fx Nx hl.list h2 h64 (ksk_s1 _ _) (fun x => ksk_l1 _ _) (fun x => ksk_t1 _ _) fun D kS e1 h₁ F₁ N₁ hDk hlo => ?_
  have lo : ∀ q ∈ allNews h L, q.1 ≠ kS := fun q hq => Nat.ne_of_lt (Nat.lt_trans (hlo q hq) hDk)
  refine keysC (n := n) (D := D) (e1 := e1) S G R2 x nL lo (Nat.ne_of_lt hDk) vs [] [] [] 0 h₁ tk ⟨rfl, fun i v q => by simp at q⟩ (fun q hq => by simp at hq) F₁ N₁ fun ks ex e h₂ tk₂ ki hex F₂ N₂ => ?_
  rw [List.nil_append] at ki
  have hl2 : 2 ≤ ks.length := by rw [ki.1]; exact h2
  have ins : ∀ {h' : Heap} {i : Nat}, i < vs.length → News noH L h' (KNews h L kS D e1 ex ks e) → ∃ a d, ks.getD i .none = .ref a ∧ h'.get? a = some (kInst C d (vs.getD i .none)) ∧ h'.get? d = some emptyDict := fun {h' i} hi N' => by
    obtain ⟨a, d, q1, q2, q3⟩ := ki.2 i _ (List.getElem?_eq_getElem hi)
    refine ⟨a, d, by rw [List.getD_eq_getElem?_getD, q1]; rfl, ?_, ?_⟩
    · rw [List.getD_eq_getElem?_getD, List.getElem?_eq_getElem hi]
      exact (N' _ (.tail _ (.tail _ (List.mem_append_left _ q2)))).1
    · exact (N' _ (.tail _ (.tail _ (List.mem_append_left _ q3)))).1
  refine kas_kind (T := .ref C) hl2 (fun v hv => ?_) rfl (by simp) ?_
  · obtain ⟨i, hi⟩ := List.getElem?_of_mem hv
    have hi' : i < vs.length := by
      obtain ⟨z, _⟩ := List.getElem?_eq_some_iff.mp hi
      rw [← ki.1]; exact z
    obtain ⟨a, d, q1, q2, q3⟩ := ins hi' N₂
    rw [List.getD_eq_getElem?_getD, hi] at q1
    have q1 : v = .ref a := q1
    subst q1
    exact (Looks.ld q2).andThen .now
  · refine gd_kas (N := vs.length) (lt := fun i j => decide (r i j < 0)) (Inv := fun s' => ∃ h' tk', s' = at_ s h' tk' ∧ Fr noH L h' (fun x => loc.lookup x) ∧ News noH L h' (KNews h L kS D e1 ex ks e))
      (fun i j hi hj s' Cc => ?_) (fun a s' => ?_) _ _ (stab W (by omega)) ⟨h₂, tk₂, rfl, F₂, N₂⟩
    · rintro ⟨h', tk', rfl, F', N'⟩ hC
      have kl := kn_kl F' N'
      have G' : Gr w h' := G.keeps (S.kl kl).keep
      have x' := x.but nL kl.keep
      obtain ⟨a₁, d₁, q1, q2, q3⟩ := ins hi N'
      obtain ⟨a₂, d₂, r1, r2, r3⟩ := ins hj N'
      have z1 := hv (vs.getD i .none) (by rw [List.getD_eq_getElem?_getD, List.getElem?_eq_getElem hi]; exact List.getElem_mem hi)
      have z2 := hv (vs.getD j .none) (by rw [List.getD_eq_getElem?_getD, List.getElem?_eq_getElem hj]; exact List.getElem_mem hj)
      show wpAny (model PG w) A.in1.in1 (keyLt' oneType' (ks.getD i .none) (ks.getD j .none)) Cc _ (at_ s h' tk')
      rw [q1, r1]
      refine ltInst (x := x') (od := some emptyDict) (by have := R2.units; omega) ⟨q2, rfl, rfl, q3⟩ ?_
      refine ltK (n := n + 1) G' R2 x' q2 q3 r2 r3 z1 z2 (kl.keep _ _ fL hf) (fun A₁ h₃ tk₃ Q₁ E₁ kp RR hQ₁ => ?_) fun h₃ tk₃ kp => hC _ ⟨h₃, tk₃, rfl, fr_keeps F' kp, ns_keeps N' kp⟩
      exact hc i j hi hj A₁ h₃ tk₃ Q₁ E₁ ⟨fun b o hb e => kp _ _ (kl.keep b o hb e), F'.ns.keeps kp⟩ (RR.le (Nat.le_succ _)) hQ₁
    · rintro ⟨pp, pw⟩ ⟨h', tk', rfl, F', N'⟩
      refine KatFin.intro F' N' (.head fun q hq => ?_) fun h'' c F'' N'' => KasFin.intro F'' N'' (.tail (Nat.ne_of_gt hDk) (.head fun q hq => ?_)) fun h3 c3 F3 N3 => ?_
      · rcases List.mem_cons.mp hq with rfl | hq
        · exact Nat.ne_of_lt hDk
        rcases List.mem_append.mp hq with hq | hq
        · exact (hex q hq).1
        · exact lo q hq
      · rcases List.mem_append.mp hq with hq | hq
        · exact (hex q hq).2
        · exact Nat.ne_of_lt (hlo q hq)
      · have dn := N3 _ (.tail _ (.head _))
        refine k D h3 tk' a.toList ?_ dn.2.1 ⟨fun b o hne q => (N3 (b, o) (.tail _ (.tail _ (List.mem_append_right _ (allNews_mem.mpr ⟨hne, q⟩))))).1, F3.ns⟩ ⟨_, dn.1, c3, rfl⟩ pp pw
        cases q : h.get? D with
        | none => rfl
        | some o => exact absurd (hlo (D, o) (allNews_mem.mpr ⟨dn.2.1, q⟩)) (Nat.lt_irrefl _)
end
end Mine
end
section -- Pl1
open PySem PySem.W PyProof.Rows PySem.Spec PySem.Calls
set_option Elab.async false
set_option maxRecDepth 100000
namespace Mine
theorem ltS_iff (a b : Str) : ltS a b = true ↔ a.cps.toList < b.cps.toList := by simp [ltS]
theorem ltS_irrefl (a : Str) : ltS a a = false := by
  cases h : ltS a a with
  | false => rfl
  | true => exact absurd ((ltS_iff a a).mp h) (List.lt_irrefl _)
theorem ltS_trans {a b c : Str} (h : ltS a b = true) (h' : ltS b c = true) : ltS a c = true := (ltS_iff a c).mpr (List.lt_trans ((ltS_iff a b).mp h) ((ltS_iff b c).mp h'))
theorem ltS_tri {a b : Str} (h : ltS a b = false) (h' : ltS b a = false) : a = b := by
  apply sle_antisymm
  · have : ¬ b.cps.toList < a.cps.toList := fun q => by rw [(ltS_iff b a).mpr q] at h'; cases h'
    exact List.not_lt.mp this
  · have : ¬ a.cps.toList < b.cps.toList := fun q => by rw [(ltS_iff a b).mpr q] at h; cases h
    exact List.not_lt.mp this
theorem sameS_iff (a b : Str) : sameS a b = true ↔ b = a := by
  unfold sameS
  constructor
  · intro h; exact str_ext (by simpa using h)
  · intro h; subst h; simp
theorem ltS_ne {a b : Str} (h : ltS a b = true) : a ≠ b := fun q => by subst q; rw [ltS_irrefl] at h; cases h
theorem lt_of_sle_ne {a b : Str} (h : sle a b) (ne : a ≠ b) : ltS a b = true := by
  cases q : ltS a b with
  | true => rfl
  | false =>
    cases q' : ltS b a with
    | true =>
      have := (ltS_iff b a).mp q'
      exact absurd this (List.not_lt.mpr h)
    | false => exact absurd (ltS_tri q q') ne
noncomputable def Up (l : List Str) : Prop := l.Pairwise fun a b => ltS a b = true
theorem SW_up (m : Int) : Up (SW m) := by
  have h1 := SW_sorted m
  have h2 := SW_nodup m
  exact (List.Pairwise.and h1 h2).imp fun {a b} q => lt_of_sle_ne q.1 q.2
theorem dropW {e : Str} {es : List Str} (h : Up (e :: es)) : es.dropWhile (sameS e) = es := by
  cases es with
  | nil => rfl
  | cons a r =>
    have := (List.pairwise_cons.mp h).1 a (.head _)
    rw [List.dropWhile_cons, if_neg]
    intro q
    exact ltS_ne this ((sameS_iff e a).mp q).symm
noncomputable def notIn (bs : List Str) (x : Str) : Bool := !(bs.any (· == x))
theorem notIn_iff (bs : List Str) (x : Str) : notIn bs x = true ↔ x ∉ bs := by
  unfold notIn
  simp [List.any_eq_true]
  constructor
  · intro h q; exact h x q rfl
  · intro h y q z; subst z; exact h q
theorem filt_all {p : Str → Bool} {l : List Str} (h : ∀ x ∈ l, p x = true) : l.filter p = l := List.filter_eq_self.mpr h
theorem sld_up : ∀ (n : Nat) (es as : List Str), es.length + as.length ≤ n → Up es → Up as → sld es as = (es.filter (notIn as), as.filter (notIn es)) := by
  intro n
  induction n with
  | zero =>
    intro es as h _ _
    have h1 : es = [] := List.length_eq_zero_iff.mp (by omega)
    have h2 : as = [] := List.length_eq_zero_iff.mp (by omega)
    subst h1 h2; rfl
  | succ n ih =>
    intro es as h he ha
    cases es with
    | nil =>
      rw [sld_nil_left]
      rw [filt_all fun x _ => (notIn_iff [] x).mpr (by simp)]
      rfl
    | cons e es =>
      cases as with
      | nil =>
        rw [sld_nil_right]
        rw [filt_all fun x _ => (notIn_iff [] x).mpr (by simp)]
        rfl
      | cons a as =>
        simp only [List.length_cons] at h
        have he' := (List.pairwise_cons.mp he)
        have ha' := (List.pairwise_cons.mp ha)
        rw [sld_cons, dropW he, dropW ha]
        by_cases c1 : ltS e a = true
        · rw [if_pos c1, ih es (a :: as) (by simp only [List.length_cons]; omega) he'.2 ha]
          have ne : notIn (a :: as) e = true := (notIn_iff _ _).mpr fun q => by
            rcases List.mem_cons.mp q with z | z
            · exact ltS_ne c1 z
            · exact ltS_ne (ltS_trans c1 (ha'.1 e z)) rfl
          rw [List.filter_cons_of_pos ne]
          refine Prod.ext rfl ?_
          refine List.filter_congr fun x hx => ?_
          have hne : x ≠ e := fun z => by
            subst z
            exact absurd hx ((notIn_iff _ _).mp ne)
          rw [Bool.eq_iff_iff, notIn_iff, notIn_iff, List.mem_cons]
          exact ⟨fun q z => z.elim hne q, fun q z => q (.inr z)⟩
        · rw [if_neg c1]
          by_cases c2 : ltS a e = true
          · rw [if_pos c2, ih (e :: es) as (by simp only [List.length_cons]; omega) he ha'.2]
            have ne : notIn (e :: es) a = true := (notIn_iff _ _).mpr fun q => by
              rcases List.mem_cons.mp q with z | z
              · exact ltS_ne c2 z
              · exact ltS_ne (ltS_trans c2 (he'.1 a z)) rfl
            rw [List.filter_cons_of_pos ne]
            refine Prod.ext ?_ rfl
            refine List.filter_congr fun x hx => ?_
            have hne : x ≠ a := fun z => by
              subst z
              exact absurd hx ((notIn_iff _ _).mp ne)
            rw [Bool.eq_iff_iff, notIn_iff, notIn_iff, List.mem_cons]
            exact ⟨fun q z => z.elim hne q, fun q z => q (.inr z)⟩
          · rw [if_neg c2]
            have ea : e = a := ltS_tri (by simpa using c1) (by simpa using c2)
            subst ea
            rw [ih es as (by omega) he'.2 ha'.2]
            have n1 : ¬ notIn (e :: as) e = true := fun q => (notIn_iff _ _).mp q (.head _)
            have n2 : ¬ notIn (e :: es) e = true := fun q => (notIn_iff _ _).mp q (.head _)
            rw [List.filter_cons_of_neg n1, List.filter_cons_of_neg n2]
            refine Prod.ext ?_ ?_
            · refine List.filter_congr fun x hx => ?_
              have hne : x ≠ e := fun z => by subst z; exact ltS_ne (he'.1 x hx) rfl
              rw [Bool.eq_iff_iff, notIn_iff, notIn_iff, List.mem_cons]
              exact ⟨fun q z => z.elim hne q, fun q z => q (.inr z)⟩
            · refine List.filter_congr fun x hx => ?_
              have hne : x ≠ e := fun z => by subst z; exact ltS_ne (ha'.1 x hx) rfl
              rw [Bool.eq_iff_iff, notIn_iff, notIn_iff, List.mem_cons]
              exact ⟨fun q z => z.elim hne q, fun q z => q (.inr z)⟩
theorem copies_one (p : Str → Bool) (xs : List Str) : copies p (fun _ => 1) xs = xs.filter p := by
  unfold copies
  generalize xs.filter p = l
  induction l with
  | nil => rfl
  | cons a l ih => rw [List.flatMap_cons]; simp at ih ⊢
theorem only_false (one two : List Str) : only one two false = one.filter (notIn two) := by
  unfold only
  simp only [Bool.false_and, Bool.false_eq_true, if_false]
  exact copies_one _ _
theorem fact_one (m m' : Int) : sld (SW m) (SW m') = (only (SW m) (SW m') false, only (SW m') (SW m) false) := by
  rw [only_false, only_false]
  exact sld_up _ _ _ (Nat.le_refl _) (SW_up m) (SW_up m')
end Mine
end
section -- Pl2
open PySem PySem.W PyProof.Rows PySem.Spec PySem.Calls
set_option Elab.async false
set_option maxRecDepth 100000
namespace Mine
noncomputable def dbl (l : List Str) : List Str := l.flatMap fun x => [x, x]
theorem dbl_cons (a : Str) (l : List Str) : dbl (a :: l) = a :: a :: dbl l := rfl
theorem dbl_mem {x : Str} {l : List Str} : x ∈ dbl l ↔ x ∈ l := by
  unfold dbl
  rw [List.mem_flatMap]
  constructor
  · rintro ⟨y, hy, q⟩
    have : x = y := by simpa using q
    subst this; exact hy
  · intro h; exact ⟨x, h, by simp⟩
theorem dbl_perm (l : List Str) : (dbl l).Perm (l ++ l) := by
  induction l with
  | nil => exact .nil
  | cons a l ih =>
    rw [dbl_cons, List.cons_append]
    refine .cons _ ?_
    exact (ih.cons a).trans (List.perm_middle (a := a) (l₁ := l) (l₂ := l)).symm
theorem dbl_sorted {l : List Str} (h : Up l) : (dbl l).Pairwise sle := by
  induction l with
  | nil => exact .nil
  | cons a l ih =>
    have h' := List.pairwise_cons.mp h
    have le : ∀ x ∈ dbl l, sle a x := fun x hx => List.le_of_lt ((ltS_iff a x).mp (h'.1 x (dbl_mem.mp hx)))
    rw [dbl_cons]
    refine .cons (fun x hx => ?_) (.cons le (ih h'.2))
    rcases List.mem_cons.mp hx with rfl | hx
    · exact sle_refl _
    · exact le x hx
theorem dropD {e : Str} {es : List Str} (h : Up (e :: es)) : (e :: dbl es).dropWhile (sameS e) = dbl es := by
  rw [List.dropWhile_cons, if_pos ((sameS_iff e e).mpr rfl)]
  cases es with
  | nil => rfl
  | cons a r =>
    have := (List.pairwise_cons.mp h).1 a (.head _)
    rw [dbl_cons, List.dropWhile_cons, if_neg]
    intro q
    exact ltS_ne this ((sameS_iff e a).mp q).symm
noncomputable def cnt (as : List Str) (y : Str) : Nat := if lastLt as y then 2 else 1
theorem lastLt_cons {e : Str} {es : List Str} {y : Str} (h : ltS e y = true) : lastLt (e :: es) y = lastLt es y := by
  cases es with
  | nil =>
    show decide (e.cps.toList < y.cps.toList) = true
    exact h
  | cons x r => rfl
theorem lastLt_false : ∀ {as : List Str} {a e : Str}, Up (a :: as) → ltS e a = true ∨ e = a → lastLt (a :: as) e = false
  | [], a, e, _, h => by
    show ltS a e = false
    rcases h with h | rfl
    · cases q : ltS a e with
      | false => rfl
      | true => exact absurd rfl (ltS_ne (ltS_trans h q))
    · exact ltS_irrefl _
  | b :: r, a, e, u, h => by
    have u' := List.pairwise_cons.mp u
    have eb : ltS e b = true := by
      rcases h with h | rfl
      · exact ltS_trans h (u'.1 b (.head _))
      · exact u'.1 b (.head _)
    have : lastLt (a :: b :: r) e = lastLt (b :: r) e := rfl
    rw [this]
    exact lastLt_false u'.2 (.inl eb)
theorem copies_congr {p p' : Str → Bool} {m m' : Str → Nat} {l : List Str} (h : ∀ x ∈ l, p x = p' x ∧ m x = m' x) : copies p m l = copies p' m' l := by
  unfold copies
  rw [List.filter_congr fun x hx => (h x hx).1]
  induction l with
  | nil => rfl
  | cons a l ih =>
    by_cases q : p' a = true
    · rw [List.filter_cons_of_pos q, List.flatMap_cons, List.flatMap_cons, (h a (.head _)).2, ih fun x hx => h x (.tail _ hx)]
    · rw [List.filter_cons_of_neg q, ih fun x hx => h x (.tail _ hx)]
theorem copies_cons_pos {p : Str → Bool} {m : Str → Nat} {a : Str} {l : List Str} (h : p a = true) : copies p m (a :: l) = List.replicate (m a) a ++ copies p m l := by
  unfold copies; rw [List.filter_cons_of_pos h, List.flatMap_cons]
theorem copies_cons_neg {p : Str → Bool} {m : Str → Nat} {a : Str} {l : List Str} (h : ¬ p a = true) : copies p m (a :: l) = copies p m l := by
  unfold copies; rw [List.filter_cons_of_neg h]
theorem copies_dbl (es : List Str) : copies (notIn []) (cnt []) es = dbl es := by
  unfold copies dbl
  rw [filt_all fun x _ => (notIn_iff [] x).mpr (by simp)]
  rfl
theorem sld_dbl : ∀ (n : Nat) (es as : List Str), es.length + as.length ≤ n → Up es → Up as → sld (dbl es) (dbl as) = (copies (notIn as) (cnt as) es, copies (notIn es) (cnt es) as) := by
  intro n
  induction n with
  | zero =>
    intro es as h _ _
    have h1 : es = [] := List.length_eq_zero_iff.mp (by omega)
    have h2 : as = [] := List.length_eq_zero_iff.mp (by omega)
    subst h1 h2; rfl
  | succ n ih =>
    intro es as h he ha
    cases es with
    | nil =>
      rw [show dbl [] = [] from rfl, sld_nil_left, copies_dbl]; rfl
    | cons e es =>
      cases as with
      | nil => rw [show dbl [] = [] from rfl, sld_nil_right, copies_dbl]; rfl
      | cons a as =>
        simp only [List.length_cons] at h
        have he' := (List.pairwise_cons.mp he)
        have ha' := (List.pairwise_cons.mp ha)
        rw [dbl_cons, dbl_cons, sld_cons, dropD he, dropD ha]
        by_cases c1 : ltS e a = true
        · have r := ih es (a :: as) (by simp only [List.length_cons]; omega) he'.2 ha
          rw [dbl_cons] at r
          rw [if_pos c1, r]
          have ne : notIn (a :: as) e = true := (notIn_iff _ _).mpr fun q => by
            rcases List.mem_cons.mp q with z | z
            · exact ltS_ne c1 z
            · exact ltS_ne (ltS_trans c1 (ha'.1 e z)) rfl
          have ce : cnt (a :: as) e = 1 := by unfold cnt; rw [lastLt_false ha (.inl c1)]; rfl
          rw [copies_cons_pos ne, ce]
          refine Prod.ext rfl ?_
          refine copies_congr fun x hx => ?_
          have hlt : ltS e x = true := by
            rcases List.mem_cons.mp hx with rfl | z
            · exact c1
            · exact ltS_trans c1 (ha'.1 x z)
          refine ⟨?_, by unfold cnt; rw [lastLt_cons hlt]⟩
          rw [Bool.eq_iff_iff, notIn_iff, notIn_iff, List.mem_cons]
          exact ⟨fun q z => z.elim (ltS_ne hlt).symm q, fun q z => q (.inr z)⟩
        · rw [if_neg c1]
          by_cases c2 : ltS a e = true
          · have r := ih (e :: es) as (by simp only [List.length_cons]; omega) he ha'.2
            rw [dbl_cons] at r
            rw [if_pos c2, r]
            have ne : notIn (e :: es) a = true := (notIn_iff _ _).mpr fun q => by
              rcases List.mem_cons.mp q with z | z
              · exact ltS_ne c2 z
              · exact ltS_ne (ltS_trans c2 (he'.1 a z)) rfl
            have ce : cnt (e :: es) a = 1 := by unfold cnt; rw [lastLt_false he (.inl c2)]; rfl
            rw [copies_cons_pos (l := as) ne, ce]
            refine Prod.ext ?_ rfl
            refine copies_congr fun x hx => ?_
            have hlt : ltS a x = true := by
              rcases List.mem_cons.mp hx with rfl | z
              · exact c2
              · exact ltS_trans c2 (he'.1 x z)
            refine ⟨?_, by unfold cnt; rw [lastLt_cons hlt]⟩
            rw [Bool.eq_iff_iff, notIn_iff, notIn_iff, List.mem_cons]
            exact ⟨fun q z => z.elim (ltS_ne hlt).symm q, fun q z => q (.inr z)⟩
          · rw [if_neg c2]
            have ea : e = a := ltS_tri (by simpa using c1) (by simpa using c2)
            subst ea
            rw [ih es as (by omega) he'.2 ha'.2]
            have n1 : ¬ notIn (e :: as) e = true := fun q => (notIn_iff _ _).mp q (.head _)
            have n2 : ¬ notIn (e :: es) e = true := fun q => (notIn_iff _ _).mp q (.head _)
            rw [copies_cons_neg n1, copies_cons_neg n2]
            refine Prod.ext ?_ ?_
            · refine copies_congr fun x hx => ?_
              have hlt := he'.1 x hx
              refine ⟨?_, by unfold cnt; rw [lastLt_cons hlt]⟩
              rw [Bool.eq_iff_iff, notIn_iff, notIn_iff, List.mem_cons]
              exact ⟨fun q z => z.elim (ltS_ne hlt).symm q, fun q z => q (.inr z)⟩
            · refine copies_congr fun x hx => ?_
              have hlt := ha'.1 x hx
              refine ⟨?_, by unfold cnt; rw [lastLt_cons hlt]⟩
              rw [Bool.eq_iff_iff, notIn_iff, notIn_iff, List.mem_cons]
              exact ⟨fun q z => z.elim (ltS_ne hlt).symm q, fun q z => q (.inr z)⟩
theorem only_true (one two : List Str) : only one two true = copies (notIn two) (cnt two) one := by
  unfold only cnt
  simp only [Bool.true_and]
  rfl
theorem fact_two (m m' : Int) (d d' : List Str) (h1 : d.Perm (SW m ++ SW m)) (h2 : sortedS d = true) (h3 : d'.Perm (SW m' ++ SW m')) (h4 : sortedS d' = true) : sld d d' = (only (SW m) (SW m') true, only (SW m') (SW m) true) := by
  have e1 : d = dbl (SW m) := sorted_uniq (h1.trans (dbl_perm _).symm) (sorted_pairwise h2) (dbl_sorted (SW_up m))
  have e2 : d' = dbl (SW m') := sorted_uniq (h3.trans (dbl_perm _).symm) (sorted_pairwise h4) (dbl_sorted (SW_up m'))
  rw [e1, e2, only_true, only_true]
  exact sld_dbl _ _ _ (Nat.le_refl _) (SW_up m) (SW_up m')
end Mine
end
section -- Pl3
open PySem PySem.W PyProof.Rows PySem.Spec PySem.Calls
set_option Elab.async false
set_option maxRecDepth 100000
namespace Mine
noncomputable def stepD (ss : List Str) (d : Str × Str) : List Str :=
  if (d.1.cps.toList == (Str.ofString "+").cps.toList) = true then ss ++ [d.2] else ss.filter fun y => y.cps.toList != d.2.cps.toList
theorem doneR_step {d : Str × Str} {ss ss' t : List Str} (h : doneR d.1 d.2 ss ss') (p : ss.Perm t) (s : ss.Pairwise sle) : ss'.Perm (stepD t d) ∧ ss'.Pairwise sle := by
  unfold doneR at h
  unfold stepD
  split at h
  · rename_i q
    rw [if_pos q]
    exact ⟨h.1.trans (p.append_right _), sorted_pairwise h.2⟩
  · rename_i q
    rw [if_neg q, h]
    exact ⟨p.filter _, s.sublist List.filter_sublist⟩
theorem doneAll_fold {ds : List (Str × Str)} {ss ss' : List Str} (h : DoneAll ds ss ss') (s : ss.Pairwise sle) : ss'.Perm (ds.foldl stepD ss) ∧ ss'.Pairwise sle := by
  induction h with
  | nil => exact ⟨.refl _, s⟩
  | snoc _ q ih =>
    obtain ⟨p1, p2⟩ := ih s
    rw [List.foldl_append]
    exact doneR_step q p1 p2
theorem fold_minus : ∀ (xs ss : List Str), (xs.map fun x => ((Str.ofString "-"), x)).foldl stepD ss = ss.filter fun y => notIn xs y
  | [], ss => by rw [filt_all fun x _ => (notIn_iff [] x).mpr (by simp)]; rfl
  | x :: r, ss => by
    rw [List.map_cons, List.foldl_cons, fold_minus r]
    have e : stepD ss ((Str.ofString "-"), x) = ss.filter fun y => y.cps.toList != x.cps.toList := by
      unfold stepD
      exact if_neg (show ¬ ((Str.ofString "-").cps.toList == (Str.ofString "+").cps.toList) = true by decide)
    rw [e, List.filter_filter]
    refine List.filter_congr fun y _ => ?_
    rw [Bool.eq_iff_iff, Bool.and_eq_true, notIn_iff, notIn_iff, List.mem_cons, not_or]
    constructor
    · rintro ⟨h1, h2⟩
      exact ⟨fun z => by subst z; simp at h2, h1⟩
    · rintro ⟨h1, h2⟩
      refine ⟨h2, ?_⟩
      rw [bne_iff_ne]
      exact fun z => h1 (str_ext z)
theorem fold_plus : ∀ (xs ss : List Str), (xs.map fun x => ((Str.ofString "+"), x)).foldl stepD ss = ss ++ xs
  | [], ss => by simp
  | x :: r, ss => by
    rw [List.map_cons, List.foldl_cons, fold_plus r]
    have e : stepD ss ((Str.ofString "+"), x) = ss ++ [x] := by
      unfold stepD
      exact if_pos (show ((Str.ofString "+").cps.toList == (Str.ofString "+").cps.toList) = true by decide)
    rw [e, List.append_assoc]; rfl
theorem fact_done (m m' : Int) (ss' : List Str) (h : DoneAll (deeds m m') (SW m) ss') : ss' = SW m' := by
  obtain ⟨p, s⟩ := doneAll_fold h (SW_sorted m)
  unfold deeds lostM at p
  rw [List.foldl_append, fold_minus, fold_plus, only_false, only_false] at p
  refine sorted_uniq (p.trans ?_) s (SW_sorted m')
  refine (List.perm_ext_iff_of_nodup ?_ (SW_nodup m')).mpr fun x => ?_
  · rw [List.nodup_append]
    refine ⟨(SW_nodup m).sublist List.filter_sublist, (SW_nodup m').sublist List.filter_sublist, fun a ha b hb e => ?_⟩
    subst e
    exact (notIn_iff _ _).mp (List.mem_filter.mp hb).2 (List.mem_filter.mp ha).1
  · rw [List.mem_append, List.mem_filter, List.mem_filter, notIn_iff, notIn_iff, List.mem_filter, notIn_iff]
    constructor
    · rintro (⟨h1, h2⟩ | ⟨h1, _⟩)
      · exact Classical.not_not.mp fun q => h2 ⟨h1, q⟩
      · exact h1
    · intro hx
      by_cases q : x ∈ SW m
      · exact .inl ⟨q, fun z => z.2 hx⟩
      · exact .inr ⟨hx, q⟩
end Mine
end
section -- Pl4
open PySem PySem.W PyProof.Rows PySem.Spec PySem.Calls
set_option Elab.async false
set_option maxRecDepth 100000
namespace Mine
theorem sameS_beq (x : Str) : sameS x = fun y => y == x := by
  funext y
  rw [Bool.eq_iff_iff, sameS_iff, beq_iff_eq]
theorem any_same (x : Str) (l : List Str) : l.any (sameS x) = true ↔ x ∈ l := by
  rw [sameS_beq, List.any_eq_true]
  constructor
  · rintro ⟨y, hy, q⟩
    have : y = x := by simpa using q
    subst this; exact hy
  · intro h; exact ⟨x, h, by simp⟩
theorem erase_same (x : Str) (l : List Str) : l.eraseIdx (l.findIdx (sameS x)) = l.erase x := by
  rw [sameS_beq]
  induction l with
  | nil => rfl
  | cons a l ih =>
    rw [List.findIdx_cons, List.erase_cons]
    by_cases h : (a == x) = true
    · rw [h]; simp
    · have h' : (a == x) = false := by simpa using h
      rw [h']
      simp [ih]
noncomputable def Ms : List Str → List Str → List Str
  | [], _ => []
  | x :: r, act => if x ∈ act then Ms r (act.erase x) else x :: Ms r act
noncomputable def Ov : List Str → List Str → List Str
  | [], act => act
  | x :: r, act => Ov r (act.erase x)
theorem uld_eq : ∀ (r act mis : List Str), uldF r act mis = (mis ++ Ms r act, Ov r act)
  | [], act, mis => by simp [uldF, Ms, Ov]
  | x :: r, act, mis => by
    unfold uldF Ms Ov
    rw [erase_same]
    by_cases h : x ∈ act
    · rw [if_pos ((any_same x act).mpr h), if_pos h, uld_eq r]
    · rw [if_neg (fun q => h ((any_same x act).mp q)), if_neg h, uld_eq r, List.erase_of_not_mem h, List.append_assoc]; rfl
theorem Ms_count (x : Str) : ∀ (r act : List Str), (Ms r act).count x = r.count x - act.count x
  | [], act => by simp [Ms]
  | y :: r, act => by
    unfold Ms
    by_cases h : y ∈ act
    · rw [if_pos h, Ms_count x r, List.count_erase, List.count_cons]
      have : 1 ≤ act.count y := List.count_pos_iff.mpr h
      by_cases q : (y == x) = true
      · have e : y = x := by simpa using q
        subst e
        simp; omega
      · have q' : (y == x) = false := by simpa using q
        simp [q']
    · rw [if_neg h, List.count_cons, List.count_cons, Ms_count x r]
      by_cases q : (y == x) = true
      · have e : y = x := by simpa using q
        subst e
        have : act.count y = 0 := List.count_eq_zero.mpr h
        simp [this]
      · have q' : (y == x) = false := by simpa using q
        simp [q']
theorem Ov_count (x : Str) : ∀ (r act : List Str), (Ov r act).count x = act.count x - r.count x
  | [], act => by simp [Ov]
  | y :: r, act => by
    unfold Ov
    rw [Ov_count x r, List.count_erase, List.count_cons]
    by_cases q : (y == x) = true
    · have e : y = x := by simpa using q
      subst e
      simp; omega
    · have q' : (y == x) = false := by simpa using q
      simp [q']
noncomputable def ix (l : List Str) (x : Str) : Nat := l.findIdx (sameS x)
theorem ix_left {l : List Str} {x y : Str} (h : x ∈ l) : ix (l ++ [y]) x = ix l x := by
  unfold ix
  rw [List.findIdx_append, if_pos]
  exact List.findIdx_lt_length_of_exists ⟨x, h, (sameS_iff x x).mpr rfl⟩
theorem ix_lt {l : List Str} {x : Str} (h : x ∈ l) : ix l x < l.length := List.findIdx_lt_length_of_exists ⟨x, h, (sameS_iff x x).mpr rfl⟩
theorem ix_new {l : List Str} {x : Str} (h : x ∉ l) : ix (l ++ [x]) x = l.length := by
  unfold ix
  rw [List.findIdx_append]
  have e : l.findIdx (sameS x) = l.length := List.findIdx_eq_length.mpr fun y hy => by
    cases q : sameS x y with
    | false => rfl
    | true => rw [(sameS_iff x y).mp q] at hy; exact absurd hy h
  rw [e, if_neg (Nat.lt_irrefl _)]
  simp [List.findIdx_cons, (sameS_iff x x).mpr rfl]
theorem Ms_sub : ∀ {r act : List Str} {x : Str}, x ∈ Ms r act → x ∈ r
  | [], _, x, h => by simp [Ms] at h
  | y :: r, act, x, h => by
    unfold Ms at h
    split at h
    · exact .tail _ (Ms_sub h)
    · rcases List.mem_cons.mp h with rfl | h
      · exact .head _
      · exact .tail _ (Ms_sub h)
theorem Ms_order : ∀ (r act : List Str), (∀ x, r.count x - act.count x ≤ 1) → (Ms r act).Pairwise fun x y => ix r.reverse y ≤ ix r.reverse x
  | [], _, _ => .nil
  | y :: r, act, h => by
    have lift : ∀ {l : List Str}, (∀ x ∈ l, x ∈ r) → l.Pairwise (fun x z => ix r.reverse z ≤ ix r.reverse x) → l.Pairwise fun x z => ix (y :: r).reverse z ≤ ix (y :: r).reverse x := by
      intro l hl hp
      rw [List.reverse_cons]
      refine List.Pairwise.imp_of_mem (fun {a b} ha hb q => ?_) hp
      rw [ix_left (List.mem_reverse.mpr (hl a ha)), ix_left (List.mem_reverse.mpr (hl b hb))]; exact q
    unfold Ms
    by_cases hy : y ∈ act
    · rw [if_pos hy]
      refine lift (fun x hx => Ms_sub hx) (Ms_order r _ fun x => ?_)
      have := h x
      rw [List.count_cons] at this
      rw [List.count_erase]
      have h1 : 1 ≤ act.count y := List.count_pos_iff.mpr hy
      by_cases q : (y == x) = true
      · have e : y = x := by simpa using q
        subst e
        simp at this ⊢; omega
      · have q' : (y == x) = false := by simpa using q
        simp [q'] at this ⊢; exact this
    · rw [if_neg hy]
      have hr : y ∉ r := fun q => by
        have := h y
        rw [List.count_cons_self, List.count_eq_zero.mpr hy] at this
        have h1 : 1 ≤ r.count y := List.count_pos_iff.mpr q
        omega
      refine .cons (fun x hx => ?_) (lift (fun x hx => Ms_sub hx) (Ms_order r act fun x => ?_))
      · rw [List.reverse_cons, ix_left (List.mem_reverse.mpr (Ms_sub hx)), ix_new (fun q => hr (List.mem_reverse.mp q))]
        exact Nat.le_of_lt (ix_lt (List.mem_reverse.mpr (Ms_sub hx)))
      · have := h x
        rw [List.count_cons] at this
        omega
end Mine
end
section -- Pl5
open PySem PySem.W PyProof.Rows PySem.Spec PySem.Calls
set_option Elab.async false
set_option maxRecDepth 100000
namespace Mine
noncomputable def Dv : List Str → List Str → List Str
  | [], _ => []
  | y :: act, r => if y ∈ r then Dv act (r.erase y) else y :: Dv act r
theorem Dv_perm : ∀ {act r r' : List Str}, r.Perm r' → Dv act r = Dv act r'
  | [], _, _, _ => rfl
  | y :: act, r, r', p => by
    unfold Dv
    by_cases h : y ∈ r
    · rw [if_pos h, if_pos (p.mem_iff.mp h), Dv_perm (p.erase y)]
    · rw [if_neg h, if_neg (fun q => h (p.mem_iff.mpr q)), Dv_perm p]
theorem Dv_nil : ∀ act : List Str, Dv act [] = act
  | [] => rfl
  | y :: act => by unfold Dv; rw [if_neg (by simp), Dv_nil act]
theorem Dv_cons : ∀ (act r : List Str) (x : Str), Dv act (x :: r) = Dv (act.erase x) r
  | [], r, x => rfl
  | y :: act, r, x => by
    by_cases e : y = x
    · subst e
      rw [List.erase_cons_head]
      conv => lhs; unfold Dv
      rw [if_pos (.head _), List.erase_cons_head]
    · have q : (y == x) = false := by simpa using e
      rw [List.erase_cons_tail (by simpa using e)]
      unfold Dv
      by_cases h : y ∈ r
      · rw [if_pos (.tail _ h), if_pos h, ← Dv_cons act (r.erase y) x]
        have e2 : (x :: r).erase y = x :: r.erase y := List.erase_cons_tail (by simpa using fun z : x = y => e z.symm)
        rw [e2]
      · rw [if_neg (fun z => (List.mem_cons.mp z).elim e h), if_neg h, Dv_cons act r x]
theorem Ov_eq : ∀ (r act : List Str), Ov r act = Dv act r
  | [], act => (Dv_nil act).symm
  | x :: r, act => by
    unfold Ov
    rw [Ov_eq r, Dv_cons]
theorem Dv_sub : ∀ {act r : List Str} {x : Str}, x ∈ Dv act r → x ∈ act
  | [], _, x, h => by simp [Dv] at h
  | y :: act, r, x, h => by
    unfold Dv at h
    split at h
    · exact .tail _ (Dv_sub h)
    · rcases List.mem_cons.mp h with rfl | h
      · exact .head _
      · exact .tail _ (Dv_sub h)
theorem Dv_order : ∀ (act r : List Str), (∀ x, act.count x - r.count x ≤ 1) → (Dv act r).Pairwise fun x y => ix act.reverse y ≤ ix act.reverse x
  | [], _, _ => .nil
  | y :: act, r, h => by
    have lift : ∀ {l : List Str}, (∀ x ∈ l, x ∈ act) → l.Pairwise (fun x z => ix act.reverse z ≤ ix act.reverse x) → l.Pairwise fun x z => ix (y :: act).reverse z ≤ ix (y :: act).reverse x := by
      intro l hl hp
      rw [List.reverse_cons]
      refine List.Pairwise.imp_of_mem (fun {a b} ha hb q => ?_) hp
      rw [ix_left (List.mem_reverse.mpr (hl a ha)), ix_left (List.mem_reverse.mpr (hl b hb))]; exact q
    unfold Dv
    by_cases hy : y ∈ r
    · rw [if_pos hy]
      refine lift (fun x hx => Dv_sub hx) (Dv_order act _ fun x => ?_)
      have := h x
      rw [List.count_cons] at this
      rw [List.count_erase]
      have h1 : 1 ≤ r.count y := List.count_pos_iff.mpr hy
      by_cases q : (y == x) = true
      · have e : y = x := by simpa using q
        subst e
        simp at this ⊢; omega
      · have q' : (y == x) = false := by simpa using q
        simp [q'] at this ⊢; exact this
    · rw [if_neg hy]
      have hr : y ∉ act := fun q => by
        have := h y
        rw [List.count_cons_self, List.count_eq_zero.mpr hy] at this
        have h1 : 1 ≤ act.count y := List.count_pos_iff.mpr q
        omega
      refine .cons (fun x hx => ?_) (lift (fun x hx => Dv_sub hx) (Dv_order act r fun x => ?_))
      · rw [List.reverse_cons, ix_left (List.mem_reverse.mpr (Dv_sub hx)), ix_new (fun q => hr (List.mem_reverse.mp q))]
        exact Nat.le_of_lt (ix_lt (List.mem_reverse.mpr (Dv_sub hx)))
      · have := h x
        rw [List.count_cons] at this
        omega
end Mine
end
section -- Pl6
open PySem PySem.W PyProof.Rows PySem.Spec PySem.Calls
set_option Elab.async false
set_option maxRecDepth 100000
namespace Mine
theorem SW_count (m : Int) (x : Str) : (SW m).count x = if x ∈ SW m then 1 else 0 := by
  by_cases h : x ∈ SW m
  · rw [if_pos h, (SW_nodup m).count, if_pos h]
  · rw [if_neg h, List.count_eq_zero.mpr h]
theorem lost_nodup (m m' : Int) : (lostM m m').Nodup := by
  unfold lostM; rw [only_false]; exact (SW_nodup m).sublist List.filter_sublist
theorem lost_mem (m m' : Int) (x : Str) : x ∈ lostM m m' ↔ x ∈ SW m ∧ x ∉ SW m' := by
  unfold lostM; rw [only_false, List.mem_filter, notIn_iff]
theorem lost_count (m m' : Int) (x : Str) : (lostM m m').count x = (SW m).count x - (SW m').count x := by
  rw [(lost_nodup m m').count, SW_count, SW_count]
  by_cases h1 : x ∈ SW m <;> by_cases h2 : x ∈ SW m' <;> simp [lost_mem, h1, h2]
theorem gt_count (ms : List Int) (x : Str) : ∀ i, (gv ms i).count x + (SW (ms.getD 0 0)).count x = (tkn ms i).count x + (SW (ms.getD i 0)).count x
  | 0 => by simp [gv, tkn]
  | i + 1 => by
    have ih := gt_count ms x i
    unfold gv tkn
    rw [List.count_append, List.count_append, lost_count, lost_count]
    omega
theorem uniq_key {key : Str → Nat} : ∀ {a b : List Str}, a.Perm b → a.Pairwise (fun x y => key y ≤ key x) → b.Pairwise (fun x y => key y ≤ key x) → (∀ x ∈ a, ∀ y ∈ a, key x = key y → x = y) → a = b
  | [], b, p, _, _, _ => p.nil_eq
  | x :: r, b, p, ha, hb, inj => by
    cases b with
    | nil => exact absurd p.length_eq (by simp)
    | cons y t =>
      have hx : x ∈ y :: t := p.mem_iff.mp (.head _)
      have hy : y ∈ x :: r := p.mem_iff.mpr (.head _)
      have e : x = y := by
        rcases List.mem_cons.mp hx with h | h
        · exact h
        · rcases List.mem_cons.mp hy with h' | h'
          · exact h'.symm
          · exact inj x (.head _) y hy (Nat.le_antisymm ((List.pairwise_cons.mp hb).1 x h) ((List.pairwise_cons.mp ha).1 y h'))
      subst e
      rw [uniq_key (List.Perm.cons_inv p) (List.pairwise_cons.mp ha).2 (List.pairwise_cons.mp hb).2 fun u hu v hv => inj u (.tail _ hu) v (.tail _ hv)]
theorem ix_inj {l : List Str} {x y : Str} (hx : x ∈ l) (h : ix l x = ix l y) (hy : y ∈ l) : x = y := by
  have lx := ix_lt hx
  have ly := ix_lt hy
  have e1 : sameS x (l[ix l x]'lx) = true := List.findIdx_getElem (w := lx)
  have e2 : sameS y (l[ix l y]'ly) = true := List.findIdx_getElem (w := ly)
  have e3 : l[ix l x]'lx = l[ix l y]'ly := by congr 1
  rw [← (sameS_iff x _).mp e1, ← (sameS_iff y _).mp e2, e3]
theorem fact_left (ms : List Int) (n : Nat) (out : List Str) (hp : out.Perm (lostM (ms.getD n 0) (ms.getD 0 0))) (hs : out.Pairwise (fun x y => -((gv ms n).findIdx (sameS x) : Int) ≤ -((gv ms n).findIdx (sameS y) : Int))) :
    out = (uldF (gv ms n).reverse (tkn ms n) []).1 := by
  rw [uld_eq, List.nil_append]
  have cnt1 : ∀ x, (Ms (gv ms n).reverse (tkn ms n)).count x = (lostM (ms.getD n 0) (ms.getD 0 0)).count x := fun x => by
    rw [Ms_count, List.count_reverse, lost_count]
    have := gt_count ms x n
    omega
  have pm : (Ms (gv ms n).reverse (tkn ms n)).Perm (lostM (ms.getD n 0) (ms.getD 0 0)) := List.perm_iff_count.mpr cnt1
  have od := Ms_order (gv ms n).reverse (tkn ms n) fun x => by
    rw [← Ms_count, cnt1, (lost_nodup _ _).count]; split <;> omega
  rw [List.reverse_reverse] at od
  refine uniq_key (key := ix (gv ms n)) (hp.trans pm.symm) (hs.imp fun {a b} q => ?_) od fun x hx y hy q => ?_
  · unfold ix; omega
  · have mem : ∀ z ∈ out, z ∈ gv ms n := fun z hz => List.mem_reverse.mp (Ms_sub (pm.symm.mem_iff.mp (hp.mem_iff.mp hz)))
    exact ix_inj (mem x hx) q (mem y hy)
theorem fact_over (ms : List Int) (n : Nat) (out : List Str) (hp : out.Perm (lostM (ms.getD 0 0) (ms.getD n 0))) (hs : out.Pairwise (fun x y => -((tkn ms n).reverse.findIdx (sameS x) : Int) ≤ -((tkn ms n).reverse.findIdx (sameS y) : Int))) :
    out = (uldF (gv ms n).reverse (tkn ms n) []).2 := by
  rw [uld_eq]
  show out = Ov (gv ms n).reverse (tkn ms n)
  have cnt1 : ∀ x, (Ov (gv ms n).reverse (tkn ms n)).count x = (lostM (ms.getD 0 0) (ms.getD n 0)).count x := fun x => by
    rw [Ov_count, List.count_reverse, lost_count]
    have := gt_count ms x n
    omega
  have pm : (Ov (gv ms n).reverse (tkn ms n)).Perm (lostM (ms.getD 0 0) (ms.getD n 0)) := List.perm_iff_count.mpr cnt1
  have od := Dv_order (tkn ms n) (gv ms n).reverse fun x => by
    rw [← Ov_count, cnt1, (lost_nodup _ _).count]; split <;> omega
  rw [← Ov_eq] at od
  refine uniq_key (key := ix (tkn ms n).reverse) (hp.trans pm.symm) (hs.imp fun {a b} q => ?_) od fun x hx y hy q => ?_
  · unfold ix; omega
  · have mem : ∀ z ∈ out, z ∈ (tkn ms n).reverse := fun z hz => by
      have := pm.symm.mem_iff.mp (hp.mem_iff.mp hz)
      rw [Ov_eq] at this
      exact List.mem_reverse.mpr (Dv_sub this)
    exact ix_inj (mem x hx) q (mem y hy)
theorem facts (ms : List Int) : Facts ms where
  one := fact_one
  two := fact_two
  done := fact_done
  inG := fun x hx => by
    rw [any_same]
    have c := gt_count ms x (ms.length - 1)
    have l := (lost_mem _ _ x).mp hx
    rw [SW_count, SW_count, if_neg l.2, if_pos l.1] at c
    exact List.count_pos_iff.mp (by omega)
  inT := fun x hx => by
    rw [any_same, List.mem_reverse]
    have c := gt_count ms x (ms.length - 1)
    have l := (lost_mem _ _ x).mp hx
    rw [SW_count, SW_count, if_pos l.1, if_neg l.2] at c
    exact List.count_pos_iff.mp (by omega)
  left := fact_left ms _
  over := fact_over ms _
end Mine
end
section -- Pl7
open PySem PySem.W PyProof.Rows PySem.Spec PySem.Calls
set_option Elab.async false
set_option maxRecDepth 100000
set_option maxHeartbeats 1000000
namespace Mine
theorem bitAnd_nat (m n : Nat) : Builtin.bitAnd (m : Int) (n : Int) = ((m &&& n : Nat) : Int) := by
  rfl
theorem mask_iff (m b : Nat) : (m &&& b == b) = true ↔ ∀ i, b.testBit i = true → m.testBit i = true := by
  rw [beq_iff_eq]
  constructor
  · intro h i hb
    have : (m &&& b).testBit i = b.testBit i := by rw [h]
    rw [Nat.testBit_and, hb] at this
    simpa using this
  · intro h
    apply Nat.eq_of_testBit_eq
    intro i
    rw [Nat.testBit_and]
    cases q : b.testBit i with
    | false => simp
    | true => simp [h i q]
theorem tb_pow (k i : Nat) : (2 ^ k).testBit i = decide (k = i) := Nat.testBit_two_pow ..
theorem mask1 (m k : Nat) : (m &&& 2 ^ k == 2 ^ k) = m.testBit k := by
  rw [Bool.eq_iff_iff, mask_iff]
  constructor
  · intro h; exact h k (by rw [tb_pow]; simp)
  · intro h i hi
    rw [tb_pow] at hi
    have : k = i := by simpa using hi
    rw [← this]; exact h
end Mine
namespace Mine
theorem mask2 (m j k b : Nat) (e : b = 2 ^ j ||| 2 ^ k) : (m &&& b == b) = (m.testBit j && m.testBit k) := by
  rw [Bool.eq_iff_iff, mask_iff, e]
  constructor
  · intro h
    rw [Bool.and_eq_true]
    exact ⟨h j (by rw [Nat.testBit_or, tb_pow, tb_pow]; simp), h k (by rw [Nat.testBit_or, tb_pow, tb_pow]; simp)⟩
  · intro h i hi
    rw [Bool.and_eq_true] at h
    rw [Nat.testBit_or, tb_pow, tb_pow, Bool.or_eq_true] at hi
    rcases hi with hi | hi
    · have : j = i := by simpa using hi
      rw [← this]; exact h.1
    · have : k = i := by simpa using hi
      rw [← this]; exact h.2
theorem nat_fmod2 (n : Nat) : (((n : Int).fmod 2) == 1) = decide (n % 2 = 1) := by
  rw [Int.fmod_eq_emod_of_nonneg _ (by decide), Bool.eq_iff_iff, beq_iff_eq, decide_eq_true_iff]
  omega
theorem bit_fdiv (m k : Nat) : bitOn (m : Int) k = m.testBit k := by
  unfold bitOn
  have e1 : ((m : Int).fdiv (2 ^ k)) = ((m / 2 ^ k : Nat) : Int) := by
    rw [Int.fdiv_eq_ediv_of_nonneg _ (Int.le_of_lt (Int.pow_pos (by decide)))]
    norm_cast
  rw [e1, nat_fmod2, Nat.testBit_eq_decide_div_mod_eq]
end Mine
end
section -- T1
open PySem PySem.W PyProof.Rows PySem.Spec PySem.Calls
set_option Elab.async false
set_option maxRecDepth 100000
namespace Mine
variable {w : World} {A : Around} {E : Value → Shared → Prop} {s : Shared} {h : Heap} {tk : Nat}
theorem ct_ifmt {n : Nat} {mode : Int} {t : Tok} {Q : Value → Shared → Prop} (G : Gr w h) (R : Rm (n + 1) A)
    (k : ∀ t' h' tk', Kp h h' → Q (.int (Builtin.bitAnd mode 61440) t') (at_ s h' tk')) :
    wpAny (model PG w) A (call (.ref 21) [.int mode t]) Q E (at_ s h tk) := by
  refine enter (binds := [("mode", .int mode t)]) G R rfl rfl rfl rfl (by decide) (locs rfl) rfl rfl rfl rfl ?_
  intro env L h₁ tk₁ Qf Ef hQ e S G₁ R₁
  dsimp only at e S ⊢
  refine wpAny_execs_cons (wpAny_Return_some (wpAny_BinOp ?_))
  refine ldl S e rfl rfl ?_
  refine wpAny_Constant_int ?_
  refine and_int ?_
  exact hQ _ _ (k _ _ _ S.keep)
end Mine
end
section -- Fm
open PySem PySem.W PyProof.Rows PySem.Spec PySem.Calls
set_option Elab.async false
set_option maxRecDepth 100000
set_option maxHeartbeats 1000000
set_option pp.maxSteps 3000
namespace Mine
variable {w : World} {A : Around} {E : Value → Shared → Prop} {s : Shared} {h : Heap} {tk : Nat}
noncomputable def tabs : List (List (Int × Str)) :=
  [[(40960, "l"), (49152, "s"), (32768, "-"), (24576, "b"), (16384, "d"), (8192, "c"), (4096, "p")], [(256, "r")], [(128, "w")], [(2112, "s"), (2048, "S"), (64, "x")],
   [(32, "r")], [(16, "w")], [(1032, "s"), (1024, "S"), (8, "x")], [(4, "r")], [(2, "w")], [(513, "t"), (512, "T"), (1, "x")]]
noncomputable def hitB (i : Nat) (mode b : Int) : Bool := if i = 0 then Builtin.bitAnd mode 61440 == b else Builtin.bitAnd mode b == b
noncomputable def pick (i : Nat) (mode : Int) : List (Int × Str) → Str
  | [] => if i = 0 then "?" else "-"
  | p :: r => if hitB i mode p.1 then p.2 else pick i mode r
noncomputable def sgn (mode : Int) (i : Nat) : Str := pick i mode (tabs.getD i [])
noncomputable def signs (mode : Int) (i : Nat) : List Str := (List.range i).map (sgn mode)
noncomputable def sig (mode : Int) : Str := Txt.join "" (signs mode 10)
theorem pick_drop {i : Nat} {mode : Int} : ∀ (ps : List (Int × Str)) (j : Nat), (∀ k p, k < j → ps[k]? = some p → hitB i mode p.1 = false) → pick i mode (ps.drop j) = pick i mode ps
  | _, 0, _ => rfl
  | [], _ + 1, _ => rfl
  | p :: r, j + 1, h => by
    have h0 := h 0 p (Nat.succ_pos _) rfl
    show pick i mode (r.drop j) = pick i mode (p :: r)
    rw [pick_drop r j fun k q hk hq => h (k + 1) q (Nat.succ_lt_succ hk) hq]
    simp [pick, h0]
noncomputable def TabAt (h : Heap) (a : Addr) (ps : List (Int × Str)) : Prop :=
  ∃ refs : List Addr, h.IsTuple a (refs.map Value.ref).toArray ∧ refs.length = ps.length ∧ ∀ (j : Nat) (p : Int × Str), ps[j]? = some p → ∃ b tb tc, refs[j]? = some b ∧ h.IsTuple b #[.int p.1 tb, .str p.2 tc]
theorem TabAt.keeps {h h' : Heap} {a : Addr} {ps : List (Int × Str)} (x : TabAt h a ps) (k : Kp h h') : TabAt h' a ps := by
  obtain ⟨refs, ⟨o, ho, r⟩, hl, hp⟩ := x
  refine ⟨refs, ⟨o, k _ _ ho, r⟩, hl, fun j p hj => ?_⟩
  obtain ⟨b, tb, tc, hb, o', ho', r'⟩ := hp j p hj
  exact ⟨b, tb, tc, hb, o', k _ _ ho', r'⟩
noncomputable def tabAddrs : List Addr := [29, 31, 33, 37, 39, 41, 45, 47, 49, 53]
theorem Gr.table (G : Gr w h) : h.IsTuple 54 (tabAddrs.map Value.ref).toArray := ⟨_, G.k 54 _ rfl, rfl, _, rfl⟩
theorem Gr.tab (G : Gr w h) : ∀ i, i < 10 → TabAt h (tabAddrs.getD i 0) (tabs.getD i []) := by
  have one : ∀ a b ps, (∃ o, h.get? a = some o ∧ o.cls = .type "tuple" ∧ ∃ n, o.data = .seq #[.ref b] n) → (∃ x c tb tc, ps = [(x, c)] ∧ h.IsTuple b #[.int x tb, .str c tc]) → TabAt h a ps := by
    rintro a b ps ha ⟨x, c, tb, tc, rfl, hb⟩
    refine ⟨[b], ha, rfl, fun j p hj => ?_⟩
    match j with
    | 0 => cases hj; exact ⟨b, tb, tc, rfl, hb⟩
    | _ + 1 => cases hj
  have three : ∀ a b c d ps, (∃ o, h.get? a = some o ∧ o.cls = .type "tuple" ∧ ∃ n, o.data = .seq #[.ref b, .ref c, .ref d] n) →
      (∃ x1 c1 x2 c2 x3 c3 t1 u1 t2 u2 t3 u3, ps = [(x1, c1), (x2, c2), (x3, c3)] ∧ h.IsTuple b #[.int x1 t1, .str c1 u1] ∧ h.IsTuple c #[.int x2 t2, .str c2 u2] ∧ h.IsTuple d #[.int x3 t3, .str c3 u3]) → TabAt h a ps := by
    rintro a b c d ps ha ⟨x1, c1, x2, c2, x3, c3, t1, u1, t2, u2, t3, u3, rfl, h1, h2, h3⟩
    refine ⟨[b, c, d], ha, rfl, fun j p hj => ?_⟩
    match j with
    | 0 => cases hj; exact ⟨b, t1, u1, rfl, h1⟩
    | 1 => cases hj; exact ⟨c, t2, u2, rfl, h2⟩
    | 2 => cases hj; exact ⟨d, t3, u3, rfl, h3⟩
    | _ + 3 => cases hj
  have pr : ∀ b x c tb tc, h.get? b = some { cls := Value.type "tuple", data := Data.seq #[.int x tb, .str c tc] } → h.IsTuple b #[.int x tb, .str c tc] := fun b x c tb tc e => ⟨_, e, rfl, _, rfl⟩
  intro i hi
  match i with
  | 0 =>
    refine ⟨[22, 23, 24, 25, 26, 27, 28], ⟨_, G.k 29 _ rfl, rfl, _, rfl⟩, rfl, fun j p hj => ?_⟩
    match j with
    | 0 => cases hj; exact ⟨22, _, _, rfl, pr _ _ _ _ _ (G.k 22 _ rfl)⟩
    | 1 => cases hj; exact ⟨23, _, _, rfl, pr _ _ _ _ _ (G.k 23 _ rfl)⟩
    | 2 => cases hj; exact ⟨24, _, _, rfl, pr _ _ _ _ _ (G.k 24 _ rfl)⟩
    | 3 => cases hj; exact ⟨25, _, _, rfl, pr _ _ _ _ _ (G.k 25 _ rfl)⟩
    | 4 => cases hj; exact ⟨26, _, _, rfl, pr _ _ _ _ _ (G.k 26 _ rfl)⟩
    | 5 => cases hj; exact ⟨27, _, _, rfl, pr _ _ _ _ _ (G.k 27 _ rfl)⟩
    | 6 => cases hj; exact ⟨28, _, _, rfl, pr _ _ _ _ _ (G.k 28 _ rfl)⟩
    | _ + 7 => cases hj
  | 1 => exact one 31 30 _ ⟨_, G.k 31 _ rfl, rfl, _, rfl⟩ ⟨_, _, _, _, rfl, pr _ _ _ _ _ (G.k 30 _ rfl)⟩
  | 2 => exact one 33 32 _ ⟨_, G.k 33 _ rfl, rfl, _, rfl⟩ ⟨_, _, _, _, rfl, pr _ _ _ _ _ (G.k 32 _ rfl)⟩
  | 3 => exact three 37 34 35 36 _ ⟨_, G.k 37 _ rfl, rfl, _, rfl⟩ ⟨_, _, _, _, _, _, _, _, _, _, _, _, rfl, pr _ _ _ _ _ (G.k 34 _ rfl), pr _ _ _ _ _ (G.k 35 _ rfl), pr _ _ _ _ _ (G.k 36 _ rfl)⟩
  | 4 => exact one 39 38 _ ⟨_, G.k 39 _ rfl, rfl, _, rfl⟩ ⟨_, _, _, _, rfl, pr _ _ _ _ _ (G.k 38 _ rfl)⟩
  | 5 => exact one 41 40 _ ⟨_, G.k 41 _ rfl, rfl, _, rfl⟩ ⟨_, _, _, _, rfl, pr _ _ _ _ _ (G.k 40 _ rfl)⟩
  | 6 => exact three 45 42 43 44 _ ⟨_, G.k 45 _ rfl, rfl, _, rfl⟩ ⟨_, _, _, _, _, _, _, _, _, _, _, _, rfl, pr _ _ _ _ _ (G.k 42 _ rfl), pr _ _ _ _ _ (G.k 43 _ rfl), pr _ _ _ _ _ (G.k 44 _ rfl)⟩
  | 7 => exact one 47 46 _ ⟨_, G.k 47 _ rfl, rfl, _, rfl⟩ ⟨_, _, _, _, rfl, pr _ _ _ _ _ (G.k 46 _ rfl)⟩
  | 8 => exact one 49 48 _ ⟨_, G.k 49 _ rfl, rfl, _, rfl⟩ ⟨_, _, _, _, rfl, pr _ _ _ _ _ (G.k 48 _ rfl)⟩
  | 9 => exact three 53 50 51 52 _ ⟨_, G.k 53 _ rfl, rfl, _, rfl⟩ ⟨_, _, _, _, _, _, _, _, _, _, _, _, rfl, pr _ _ _ _ _ (G.k 50 _ rfl), pr _ _ _ _ _ (G.k 51 _ rfl), pr _ _ _ _ _ (G.k 52 _ rfl)⟩
  | _ + 10 => omega
theorem signs_succ (mode : Int) (i : Nat) : signs mode (i + 1) = signs mode i ++ [sgn mode i] := by
  unfold signs; rw [List.range_succ, List.map_append]; rfl
theorem signs_length (mode : Int) (i : Nat) : (signs mode i).length = i := by simp [signs]
theorem sgn_found {mode : Int} {i j : Nat} {pr : Int × Str} (hj : (tabs.getD i [])[j]? = some pr) (hno : ∀ k' (pr : Int × Str), k' < j → (tabs.getD i [])[k']? = some pr → hitB i mode pr.1 = false) (hh : hitB i mode pr.1 = true) : sgn mode i = pr.2 := by
  unfold sgn
  rw [← pick_drop _ j hno]
  obtain ⟨hl, e⟩ := List.getElem?_eq_some_iff.mp hj
  rw [List.drop_eq_getElem_cons hl, e]
  simp [pick, hh]
theorem sgn_none {mode : Int} {i : Nat} (hno : ∀ k' (pr : Int × Str), k' < (tabs.getD i []).length → (tabs.getD i [])[k']? = some pr → hitB i mode pr.1 = false) : sgn mode i = if i = 0 then "?" else "-" := by
  unfold sgn
  rw [← pick_drop _ _ hno, List.drop_length]
  unfold pick
  split <;> rfl
theorem pick_len {i : Nat} {mode : Int} : ∀ (ps : List (Int × Str)), (∀ p ∈ ps, p.2.length = 1) → (pick i mode ps).length = 1
  | [], _ => by unfold pick; split <;> decide
  | p :: r, h => by
    unfold pick
    split
    · exact h p (.head _)
    · exact pick_len r fun q hq => h q (.tail _ hq)
theorem sgn_len (mode : Int) (i : Nat) : (sgn mode i).length = 1 := by
  refine pick_len _ ?_
  by_cases h : i < 10
  · have : ∀ i : Fin 10, ∀ p ∈ tabs.getD i.1 [], p.2.length = 1 := by decide
    exact this ⟨i, h⟩
  · have : tabs.getD i [] = [] := by rw [List.getD_eq_getElem?_getD, List.getElem?_eq_none (by show 10 ≤ i; omega)]; rfl
    rw [this]; intro p hp; cases hp
theorem signs_sum (mode : Int) : ∀ i, ((signs mode i).map (·.length)).sum = i
  | 0 => rfl
  | i + 1 => by rw [signs_succ, List.map_append, List.sum_append, signs_sum mode i]; simp [sgn_len]
noncomputable def fmJ (mode : Int) (t : Tok) (p : Addr) (i : Nat) (loc : List (Str × Value)) (own : List (Addr × Sort_)) : Prop :=
  has loc "mode" (.int mode t) ∧ has loc "perm" (.ref p) ∧ ∃ vs, own = [(p, lst vs)] ∧ StrsAre vs (signs mode i)
theorem ct_filemode {n : Nat} {mode : Int} {t : Tok} {Q : Value → Shared → Prop} (G : Gr w h) (R : Rm (n + 2) A) (hA : A.handled = none)
    (k : ∀ t' h' tk', Kp h h' → Q (.str (sig mode) t') (at_ s h' tk')) :
    wpAny (model PG w) A (call (.ref 61) [.int mode t]) Q E (at_ s h tk) := by
  refine enter (binds := [("mode", .int mode t)]) G R rfl rfl rfl rfl (by decide) (locs rfl) rfl rfl rfl rfl ?_
  intro env L h₁ tk₁ Qf Ef hQ e S G₁ R₁
  dsimp only at e S ⊢
  have hA' : (A.deeper env).handled = none := hA
  refine wpAny_execs_cons (wpAny_Assign_Name (List_ (spliced_nil (newL (by decide) fun p h₂ hp₂ k₂ l₂ => ?_))))
  refine stl (S.more k₂ hp₂ l₂) e rfl fun h₃ tk₃ S₃ => ?_
  refine wpAny_execs_cons (wpAny_For (wpAny_Call_NameR ?_))
  have G₃ := G.keeps S₃.keep
  refine ldb (.type "enumerate") G₃ e rfl rfl rfl (by decide) ?_
  refine PyProof.Rows.callWith_type1 (spliced_cons (ldg G₃ e rfl (v := .ref 54) rfl (spliced_nil ?_)))
  refine enumT G₃.table fun I J h₄ nI nJ hIJ k₄ he hit => ?_
  refine wpAny_pyIter_enum (s := at_ s h₄ tk₃) he ?_
  have hJ54 : 54 ≠ J := fun z => by
    obtain ⟨o, q, _⟩ := G₃.table
    rw [← z, q] at nJ; cases nJ
  have hI54 : I ≠ 54 := fun z => by
    obtain ⟨o, q, _⟩ := G₃.table
    rw [z, q] at nI; cases nI
  have W := WalksT.enumerateD (draws_tup (prog := PG) (w := w) (A := (A.deeper env).in1) hA J 54 hJ54 (tabAddrs.map Value.ref).toArray) I hIJ (by simp [hIJ, hI54]) (by simp)
  have S₄ : St h L (aset "perm" (.ref p) [("mode", .int mode t)]) ([(p, lst [])] ++ (anyAt [I, J] ++ [])) h₄ :=
    St.addAny (own := [(p, lst [])]) S₃ k₄ (by simp [nI, nJ]) (by
      intro b hb
      rcases List.mem_cons.mp hb with rfl | hb
      · exact ⟨_, he⟩
      · rw [List.mem_singleton.mp hb]; obtain ⟨o, q, _⟩ := hit; exact ⟨o, q⟩) (by simp [hIJ])
  have ex2 : ∀ (P Q : Prop) (h' : Heap) (_ : ∃ o, h'.get? I = some o) (_ : ∃ o, h'.get? J = some o), ∀ b ∈ [I, J], ∃ o, h'.get? b = some o := by
    intro P Q h' x y b hb
    rcases List.mem_cons.mp hb with rfl | hb
    · exact x
    · rw [List.mem_singleton.mp hb]; exact y
  refine codeAny_mono (for_walksT (R := fun r s' => ∃ h' tk' loc vs, r = .ok .next ∧ s' = at_ s h' tk' ∧ St h L loc [(p, lst vs)] h' ∧ has loc "perm" (.ref p) ∧ StrsAre vs (signs mode 10)) W [] (fmJ mode t p) ?_ ?_ ?_ ?_ ?_ S₄ ⟨⟨_, he⟩, hit, ?_⟩ ?_) ?_
  · rintro i h' ⟨⟨_, a⟩, ⟨o, b, _⟩, _⟩
    exact ex2 True True h' ⟨_, a⟩ ⟨o, b⟩
  · rintro i T h' ⟨⟨_, a⟩, ⟨⟨o, b, _⟩, _⟩, _⟩
    exact ex2 True True h' ⟨_, a⟩ ⟨o, b⟩
  · intro b hb
    simp only [List.mem_cons, List.not_mem_nil, or_false] at hb
    rcases hb with rfl | rfl | rfl
    · exact .inl (.head _)
    · exact .inl (.tail _ (.head _))
    · obtain ⟨o, q, _⟩ := G.table
      exact .inr (.inl ⟨o, q⟩)
  · rintro i T vals loc own h' tk' fz' Qb E' hi ⟨ti, x, hx, rfl⟩ hT ⟨hm, hp, vs, rfl, hv⟩ S' hnext hcont hbrk hret
    have hi10 : i < 10 := hi
    refine assign2 hA' hT S' e rfl rfl fun h₅ tk₅ S₅ => ?_
    have hxa : x = .ref (tabAddrs.getD i 0) := by
      obtain ⟨a, ha, rfl⟩ := refs_at hx
      rw [List.getD_eq_getElem?_getD, ha]; rfl
    subst hxa
    obtain ⟨refs, hta, hlen, hpairs⟩ := G.tab i hi10
    refine wpAny_execs_cons (wpAny_For (ldl S₅ e rfl asl_self ?_))
    refine iterT (let ⟨o, q, r⟩ := hta; ⟨o, S₅.keep _ _ q, r⟩) fun I₂ h₆ nI₂ k₆ hit₂ => ?_
    have hne₂ : tabAddrs.getD i 0 ≠ I₂ := fun z => by
      obtain ⟨o, q, _⟩ := hta
      have := S₅.keep _ _ q
      rw [z, nI₂] at this; cases this
    have W₂ := Walks.tuple (prog := PG) (w := w) hA' I₂ (tabAddrs.getD i 0) hne₂ (refs.map Value.ref).toArray
    have S₆ := St.addAny (own := [(p, lst vs)]) (fz := fz' ++ []) (wr := [I₂]) S₅ k₆ (by simp [nI₂]) (by
      intro b hb
      rw [List.mem_singleton.mp hb]; obtain ⟨o, q, _⟩ := hit₂; exact ⟨o, q⟩) (by simp)
    refine codeAny_mono (for_walks (R := fun r s' => ∃ loc' vs' h' tk', r = .ok .next ∧ s' = at_ s h' tk' ∧ fmJ mode t p (i + 1) loc' [(p, lst vs')] ∧ St h L loc' ([(p, lst vs')] ++ (fz' ++ [])) h') W₂ (fz' ++ [])
      (fun j loc own => has loc "mode" (.int mode t) ∧ has loc "perm" (.ref p) ∧ has loc "index" (.int i ti) ∧ own = [(p, lst vs)] ∧ ∀ k' (pr : Int × Str), k' < j → (tabs.getD i [])[k']? = some pr → hitB i mode pr.1 = false)
      ?_ ?_ ?_ ?_ ?_ S₆ ⟨hit₂, ?_⟩ ?_) ?_
    · rintro j v s' Q' E'' hP ⟨hs, _⟩ q
      obtain ⟨b, _, rfl⟩ := refs_at hP
      exact letGo_tupiter hs q
    · rintro j h' ⟨⟨o, q, _⟩, _⟩ b hb
      rw [List.mem_singleton.mp hb]; exact ⟨o, q⟩
    · intro b hb
      simp only [List.mem_cons, List.not_mem_nil, or_false] at hb
      rcases hb with rfl | rfl
      · exact .inl (.head _)
      · obtain ⟨o, q, _⟩ := hta
        exact .inr (.inl ⟨o, q⟩)
    · rintro j v loc₂ own₂ h₇ tk₇ fz₂ Qb₂ E₂ hj hv₂ ⟨hm₂, hp₂', hi₂, rfl, hno⟩ S₇ hnext₂ hcont₂ hbrk₂ hret₂
      have hjl : j < (tabs.getD i []).length := by rw [← hlen]; simpa using hj
      obtain ⟨b, tb, tc, hb, hbt⟩ := hpairs j _ (List.getElem?_eq_getElem hjl)
      generalize hpr : (tabs.getD i [])[j] = pr at hbt
      have hpr' : (tabs.getD i [])[j]? = some pr := by rw [List.getElem?_eq_getElem hjl, hpr]
      have hvb : v = .ref b := by
        obtain ⟨b', hb', rfl⟩ := refs_at hv₂
        rw [hb] at hb'; cases hb'; rfl
      subst hvb
      have G₇ := G.keeps S₇.keep
      refine assign2 hA' (let ⟨o, q, r⟩ := hbt; ⟨o, S₇.keep _ _ q, r⟩) S₇ e rfl rfl fun h₈ tk₈ S₈ => ?_
      have G₈ := G.keeps S₈.keep
      refine wpAny_execs_cons (wpAny_If (wpAny_isTrue_Compare1 (ldl S₈ e rfl (asl (asl hi₂ (by decide)) (by decide)) (cint fun t₈ tk₈' => PyProof.Rows.eq_int (wpAny_truthy_bool ?_)))))
      have found : ∀ {px pa pc pe py pb : Pos} h₉ tk₉ (Q' : Flow → Shared → Prop) (E' : Value → Shared → Prop), (pa.endLine == pc.line) = true → hitB i mode pr.1 = true →
          St h L (aset "char" (.str pr.2 tc) (aset "bit" (.int pr.1 tb) loc₂)) ([(p, lst vs)] ++ (fz₂ ++ (fz' ++ []))) h₉ → (∀ s', Qb₂ .brk s' → Q' .brk s') →
          wpAny (model PG w) (A.deeper env) (execs [.Expr (.Call (.Attribute (.Name "perm" px) "append" pa) [.Name "char" py] [] pc) pe, .Break pb] env) Q' E' (at_ s h₉ tk₉) := by
        intro px pa pc pe py pb h₉ tk₉ Q' E' hln hh S₉ hq
        refine wpAny_execs_cons (stmt_append S₉ e rfl (asl (asl hp₂' (by decide)) (by decide)) 0 rfl ?_ (.str pr.2 tc) (fun Q'' q => ldl S₉ e rfl asl_self (q _)) (fun h₁₀ tk₁₀ S₁₀ => ?_) rfl hln rfl)
        · rw [strs_len hv, signs_length]; omega
        · refine wpAny_execs_cons (wpAny_Break (hq _ (hbrk₂ _ ?_)))
          refine ⟨aset "char" (.str pr.2 tc) (aset "bit" (.int pr.1 tb) loc₂), vs ++ [.str pr.2 tc], _, _, rfl, rfl, ⟨asl (asl hm₂ (by decide)) (by decide), asl (asl hp₂' (by decide)) (by decide), _, rfl, ?_⟩, ?_⟩
          · rw [signs_succ, sgn_found hpr' hno hh]; exact strs_snoc hv _ _
          · exact S₁₀.drop _ (List.Sublist.cons_cons _ (List.sublist_append_right _ _))
      have onwards : ∀ h₉ tk₉, hitB i mode pr.1 = false → St h L (aset "char" (.str pr.2 tc) (aset "bit" (.int pr.1 tb) loc₂)) ([(p, lst vs)] ++ (fz₂ ++ (fz' ++ []))) h₉ → Qb₂ .next (at_ s h₉ tk₉) := by
        intro h₉ tk₉ hh S₉
        refine hnext₂ _ [(p, lst vs)] _ _ ⟨asl (asl hm₂ (by decide)) (by decide), asl (asl hp₂' (by decide)) (by decide), asl (asl hi₂ (by decide)) (by decide), rfl, fun k' pr' hk' hp' => ?_⟩ S₉
        by_cases hkj : k' < j
        · exact hno k' pr' hkj hp'
        · have : k' = j := by omega
          subst this
          rw [hpr'] at hp'; cases hp'; exact hh
      by_cases hi0 : i = 0
      · subst hi0
        rw [if_pos (by decide)]
        refine wpAny_execs_cons (wpAny_If (wpAny_isTrue_Compare1 (wpAny_Call_NameR (ldg G₈ e rfl (v := .ref 21) rfl ?_))))
        refine callWith_K G₈.k rfl (spliced_cons (ldl S₈ e rfl (asl (asl hm₂ (by decide)) (by decide)) (spliced_nil ⟨G₈.k, ?_⟩)))
        refine ct_ifmt G₈ R₁ fun t₉ h₉ tk₉ k₉ => ?_
        have S₉ := S₈.pure k₉
        refine ldl S₉ e rfl (asl asl_self (by decide)) (PyProof.Rows.eq_int (wpAny_truthy_bool ?_))
        by_cases hh : hitB 0 mode pr.1 = true
        · have hh' : (Builtin.bitAnd mode 61440 == pr.1) = true := hh
          rw [if_pos hh']
          exact found _ _ _ _ rfl hh S₉ fun _ q => q
        · have hh' : ¬ (Builtin.bitAnd mode 61440 == pr.1) = true := hh
          rw [if_neg hh']
          exact wpAny_execs_nil (wpAny_execs_nil (wpAny_execs_nil (onwards _ _ (by simpa using hh) S₉)))
      · have hi0' : ¬ ((i : Int) == 0) = true := by simpa using hi0
        rw [if_neg hi0']
        refine wpAny_execs_cons (wpAny_If (wpAny_isTrue_Compare1 (wpAny_BinOp (ldl S₈ e rfl (asl (asl hm₂ (by decide)) (by decide)) (ldl S₈ e rfl (asl asl_self (by decide)) (andI fun t₉ tk₉ => ?_))))))
        refine ldl S₈ e rfl (asl asl_self (by decide)) (PyProof.Rows.eq_int (wpAny_truthy_bool ?_))
        have hb : hitB i mode pr.1 = (Builtin.bitAnd mode pr.1 == pr.1) := by unfold hitB; rw [if_neg hi0]
        by_cases hh : hitB i mode pr.1 = true
        · rw [← hb, if_pos hh]
          exact found _ _ _ _ rfl hh S₈ fun _ q => q
        · rw [← hb, if_neg hh]
          exact wpAny_execs_nil (wpAny_execs_nil (wpAny_execs_nil (onwards _ _ (by simpa using hh) S₈)))
    · rintro loc₂ own₂ h₇ tk₇ Qb₂ E₂ ⟨hm₂, hp₂', hi₂, rfl, hno⟩ S₇ hq
      have hsz : vs.length ≤ 1000000 := by rw [strs_len hv, signs_length]; omega
      have hno' : ∀ k' (pr : Int × Str), k' < (tabs.getD i []).length → (tabs.getD i [])[k']? = some pr → hitB i mode pr.1 = false := fun k' pr hk' => hno k' pr (by rw [← hlen] at hk'; simpa using hk')
      have fin : ∀ (c : Str) tc h₈ tk₈, sgn mode i = c → St h L loc₂ ([(p, lst (vs ++ [.str c tc]))] ++ (fz' ++ [])) h₈ → Qb₂ .next (at_ s h₈ tk₈) := by
        intro c tc h₈ tk₈ hc S₈
        refine hq _ _ ⟨loc₂, vs ++ [.str c tc], _, _, rfl, rfl, ⟨hm₂, hp₂', _, rfl, ?_⟩, S₈⟩
        rw [signs_succ, hc]; exact strs_snoc hv _ _
      refine wpAny_execs_cons (wpAny_If (wpAny_isTrue_Compare1 (ldl S₇ e rfl hi₂ (cint fun t₈ tk₈ => PyProof.Rows.eq_int (wpAny_truthy_bool ?_)))))
      by_cases hi0 : i = 0
      · subst hi0
        rw [if_pos (by decide)]
        refine wpAny_execs_cons (stmt_append S₇ e rfl hp₂' 0 rfl hsz (.str "?" tk₈) (fun Q'' q => Calls.Constant_str (q _)) fun h₉ tk₉ S₉ => ?_)
        exact wpAny_execs_nil (wpAny_execs_nil (fin _ _ _ _ (sgn_none hno') S₉))
      · have hi0' : ¬ ((i : Int) == 0) = true := by simpa using hi0
        rw [if_neg hi0']
        refine wpAny_execs_cons (stmt_append S₇ e rfl hp₂' 0 rfl hsz (.str "-" tk₈) (fun Q'' q => Calls.Constant_str (q _)) fun h₉ tk₉ S₉ => ?_)
        exact wpAny_execs_nil (wpAny_execs_nil (fin _ _ _ _ (by rw [sgn_none hno', if_neg hi0]) S₉))
    · obtain ⟨o, q, r⟩ := hta
      exact ⟨o, k₆ _ _ (S₅.keep _ _ q), r⟩
    · exact ⟨asl (asl hm (by decide)) (by decide), asl (asl hp (by decide)) (by decide), asl asl_self (by decide), rfl, fun k' _ hk' => absurd hk' (Nat.not_lt_zero _)⟩
    · rintro r s' ⟨loc', vs', h₇, tk₇, rfl, rfl, hj', S₇⟩
      exact wpAny_execs_nil (hnext _ _ _ _ hj' S₇)
  · rintro loc own h₇ tk₇ Qb E' ⟨hm, hp, vs, rfl, hv⟩ S₇ hq
    exact wpAny_execs_nil (hq _ _ ⟨_, _, loc, vs, rfl, rfl, S₇, hp, hv⟩)
  · obtain ⟨o, q, r⟩ := G₃.table
    exact ⟨o, k₄ _ _ q, r⟩
  · exact ⟨rfl, rfl, [], rfl, .nil⟩
  · rintro r s' ⟨h₇, tk₇, loc, vs, rfl, rfl, S₇, hp, hv⟩
    dsimp only
    with_reducible refine wpAny_execs_cons (wpAny_Return_some ?_)
    with_reducible refine meth1 F.plainAttrs_str F.slot_str_join F.type_str_join base_const ?_ ?_ ?_
    · rfl
    · rfl
    with_reducible refine cstr fun t₈ tk₈ => ⟨typeIs_str _ _ _, fun _ q => (nomatch q), ?_⟩
    refine ldl S₇ e rfl hp ?_
    refine join_list (S₇.at 0 rfl).list (by simpa using hv) ?_ fun t₉ k₉ => ?_
    · rw [signs_sum, signs_length]; decide
    · exact hQ _ _ (k _ _ _ S₇.keep)
end Mine
end
section -- Lsig
open PySem PySem.W PyProof.Rows PySem.Spec PySem.Calls
set_option Elab.async false
set_option maxRecDepth 100000
set_option maxHeartbeats 1000000
set_option pp.maxSteps 3000
namespace Mine
variable {w : World} {A : Around} {E : Value → Shared → Prop} {s : Shared} {h : Heap} {tk : Nat}
noncomputable def tyC (q : Int) : Str := if q = 10 then "l" else if q = 12 then "s" else if q = 8 then "-" else if q = 6 then "b" else if q = 4 then "d" else if q = 2 then "c" else if q = 1 then "p" else "?"
noncomputable def kcs : List (Int × Str) := [(2, "s"), (1, "s"), (0, "t")]
noncomputable def three (mode k : Int) : Int := (mode.fdiv (8 ^ k.toNat)).fmod 8
noncomputable def lastS (mode k : Int) (c : Str) : Str := if (three mode k).fmod 2 == 1 then c else Txt.upper c
noncomputable def pieceR (mode k : Int) : Str := if decide (3 < three mode k) then "r" else "-"
noncomputable def pieceW (mode k : Int) : Str := if ((three mode k).fdiv 2).fmod 2 == 1 then "w" else "-"
noncomputable def pieceX (mode k : Int) (c : Str) : Str := if ((mode.fdiv 512).fdiv (2 ^ k.toNat)).fmod 2 == 1 then lastS mode k c else if (three mode k).fmod 2 == 1 then "x" else "-"
noncomputable def pref (mode : Int) : Nat → Str
  | 0 => tyC (mode.fdiv 4096)
  | i + 1 => ((pref mode i ++ pieceR mode (kcs.getD i (0, "")).1) ++ pieceW mode (kcs.getD i (0, "")).1) ++ pieceX mode (kcs.getD i (0, "")).1 (kcs.getD i (0, "")).2
theorem tyC_len (q : Int) : (tyC q).length = 1 := by unfold tyC; repeat' split <;> try decide
theorem pieceR_len (m k : Int) : (pieceR m k).length = 1 := by unfold pieceR; split <;> decide
theorem pieceW_len (m k : Int) : (pieceW m k).length = 1 := by unfold pieceW; split <;> decide
theorem pieceX_len (m k : Int) {c : Str} (hc : c = "s" ∨ c = "t" ∨ c = "") : (pieceX m k c).length ≤ 1 := by
  have h1 : (Txt.upper c).length ≤ 1 ∧ c.length ≤ 1 := by rcases hc with rfl | rfl | rfl <;> decide +kernel
  unfold pieceX lastS
  (repeat' split) <;> first | exact h1.1 | exact h1.2 | decide
theorem kcs_c (i : Nat) : (kcs.getD i (0, "")).2 = "s" ∨ (kcs.getD i (0, "")).2 = "t" ∨ (kcs.getD i (0, "")).2 = "" := by
  match i with
  | 0 => exact .inl rfl
  | 1 => exact .inl rfl
  | 2 => exact .inr (.inl rfl)
  | _ + 3 => exact .inr (.inr rfl)
theorem pref_len (m : Int) : ∀ i, (pref m i).length ≤ 1 + 3 * i
  | 0 => by show (tyC _).length ≤ _; rw [tyC_len]; decide
  | i + 1 => by
    show (((pref m i ++ pieceR m _) ++ pieceW m _) ++ pieceX m _ _).length ≤ _
    rw [Str.length_append, Str.length_append, Str.length_append, pieceR_len, pieceW_len]
    have := pref_len m i
    have := pieceX_len m (kcs.getD i (0, "")).1 (kcs_c i)
    omega
theorem ty_dict (q : Int) (t0 t1 t2 t3 t4 t5 t6 t7 : Tok) : ∃ t', (valueAt (merged [] [((10 : Int), Value.str "l" t0), (12, .str "s" t1), (8, .str "-" t2), (6, .str "b" t3), (4, .str "d" t4), (2, .str "c" t5), (1, .str "p" t6)]) q).getD (.str "?" t7) = .str (tyC q) t' := by
  have e : merged [] [((10 : Int), Value.str "l" t0), (12, .str "s" t1), (8, .str "-" t2), (6, .str "b" t3), (4, .str "d" t4), (2, .str "c" t5), (1, .str "p" t6)] = [((10 : Int), Value.str "l" t0), (12, .str "s" t1), (8, .str "-" t2), (6, .str "b" t3), (4, .str "d" t4), (2, .str "c" t5), (1, .str "p" t6)] := rfl
  rw [e]
  unfold tyC
  by_cases h1 : q = 10
  · subst h1; exact ⟨_, rfl⟩
  by_cases h2 : q = 12
  · subst h2; exact ⟨_, rfl⟩
  by_cases h3 : q = 8
  · subst h3; exact ⟨_, rfl⟩
  by_cases h4 : q = 6
  · subst h4; exact ⟨_, rfl⟩
  by_cases h5 : q = 4
  · subst h5; exact ⟨_, rfl⟩
  by_cases h6 : q = 2
  · subst h6; exact ⟨_, rfl⟩
  by_cases h7 : q = 1
  · subst h7; exact ⟨_, rfl⟩
  rw [if_neg h1, if_neg h2, if_neg h3, if_neg h4, if_neg h5, if_neg h6, if_neg h7]
  refine ⟨t7, ?_⟩
  have : valueAt [((10 : Int), Value.str "l" t0), (12, .str "s" t1), (8, .str "-" t2), (6, .str "b" t3), (4, .str "d" t4), (2, .str "c" t5), (1, .str "p" t6)] q = none := by
    unfold valueAt
    rw [List.find?_eq_none.mpr]
    · rfl
    · intro x hx
      simp only [List.mem_cons, List.not_mem_nil, or_false] at hx
      rcases hx with rfl | rfl | rfl | rfl | rfl | rfl | rfl <;> simp <;> omega
  rw [this]; rfl
theorem ct_signs {n : Nat} {mode : Int} {t : Tok} {Q : Value → Shared → Prop} (G : Gr w h) (R : Rm (n + 1) A) (hA : A.handled = none)
    (k : ∀ t' h' tk', Kp h h' → Q (.str (pref mode 3) t') (at_ s h' tk')) :
    wpAny (model PG w) A (call (.ref 115) [.int mode t]) Q E (at_ s h tk) := by
  refine enter (binds := [("mode", .int mode t)]) G R rfl rfl rfl rfl (by decide) (locs rfl) rfl rfl rfl rfl ?_
  intro env L h₁ tk₁ Qf Ef hQ e S G₁ R₁
  dsimp only at e S ⊢
  have hA' : (A.deeper env).handled = none := hA
  with_reducible refine wpAny_execs_cons (wpAny_Assign_Name ?_ rfl)
  with_reducible refine wpAny_Call_method (T := "dict") (id := "dict.get") ?_ ?_ ?_ F.plainAttrs_dict F.slot_dict_get F.type_dict_get ?_
  · rfl
  · rfl
  · rfl
  with_reducible refine dictI ?_ ?_ ?_ ?_ ?_
  · rfl
  · rfl
  · exact List.cons_ne_nil _ _
  · exact (by decide : 7 ≤ 15)
  with_reducible refine pairs_is fun t0 u0 k0 => pairs_is fun t1 u1 k1 => pairs_is fun t2 u2 k2 => pairs_is fun t3 u3 k3 => pairs_is fun t4 u4 k4 => pairs_is fun t5 u5 k5 => pairs_is fun t6 u6 k6 => pairs_nil ?_
  refine ⟨[((10 : Int), Value.str "l" u0), (12, .str "s" u1), (8, .str "-" u2), (6, .str "b" u3), (4, .str "d" u4), (2, .str "c" u5), (1, .str "p" u6)], k6, rfl, by simp [Carries, intKind, Value.isInt], fun d h₂ tk₂ nd ld k₂ hd => ⟨hd.typeIs.1, hd.typeIs.2, ?_⟩⟩
  have S₂ := S.pure k₂
  have hdne : (d == sysModules) = false := by
    have := G₁.size
    refine beq_eq_false_iff_ne.mpr fun z => ?_
    have z' : d = 1 := z
    rw [z'] at ld
    omega
  with_reducible refine get2I hd hdne ?_ (wpAny_BinOp (lo0 S₂ e (cint fun t7 k7 => fdivI ?_ ?_ fun t8 k8 => cstr fun t9 k9 => ?_)))
  · rfl
  · decide
  · decide
  refine ⟨_, t8, h₂, k9, rfl, rfl, hd, fun tk₃ => ?_⟩
  obtain ⟨tt, htt⟩ := ty_dict (mode.fdiv 4096) u0 u1 u2 u3 u4 u5 u6 t9
  rw [htt]
  with_reducible refine slo S₂ e fun h₃ tk₃ S₃ => ?_
  dsimp only
  have G₃ := G.keeps S₃.keep
  with_reducible refine wpAny_execs_cons (wpAny_For (List_ (sp_list ?_)) ?_)
  · with_reducible refine List_ (sp_int fun a0 b0 => sp_str fun c0 d0 => sp_nil (newL ?_ fun l0 h₄ n0 k₄ i0 => sp_list ?_))
    · exact (by decide : 2 ≤ 1000000)
    with_reducible refine List_ (sp_int fun a1 b1 => sp_str fun c1 d1 => sp_nil (newL ?_ fun l1 h₅ n1 k₅ i1 => sp_list ?_))
    · exact (by decide : 2 ≤ 1000000)
    with_reducible refine List_ (sp_int fun a2 b2 => sp_str fun c2 d2 => sp_nil (newL ?_ fun l2 h₆ n2 k₆ i2 => sp_nil ?_))
    · exact (by decide : 2 ≤ 1000000)
    with_reducible refine newL ?_ fun D h₇ nD k₇ iD => iterL iD.list fun I h₈ nI k₈ hI => ?_
    · exact (by decide : 3 ≤ 1000000)
    have S₄ := S₃.more k₄ n0 i0
    have S₅ := S₄.more k₅ n1 i1
    have S₆ := S₅.more k₆ n2 i2
    have S₇ := S₆.more k₇ nD iD
    have hDI : D ≠ I := fun z => by
      obtain ⟨o, q, _⟩ := iD
      rw [z, nI] at q; cases q
    have S₇' : St h L (aset "text" (.str (tyC (mode.fdiv 4096)) tt) [("mode", .int mode t)]) ([(l2, lst [.int 0 a2, .str "t" c2]), (l1, lst [.int 1 a1, .str "s" c1]), (l0, lst [.int 2 a0, .str "s" c0])] ++ frz h₇ [D]) h₇ := by
      refine St.perm (own := (D, fun o => h₇.get? D = some o) :: [(l2, lst [.int 0 a2, .str "t" c2]), (l1, lst [.int 1 a1, .str "s" c1]), (l0, lst [.int 2 a0, .str "s" c0])]) ?_ List.perm_append_comm
      refine S₇.retell rfl fun p hp => ?_
      rcases List.mem_cons.mp hp with rfl | hp
      · obtain ⟨o, q, _⟩ := iD; exact ⟨o, q, q⟩
      · exact S₇.owns p (.tail _ hp)
    have S₈ := St.addAny (wr := [I]) S₇' k₈ (by simp [nI]) (by
      intro b hb
      rw [List.mem_singleton.mp hb]; obtain ⟨o, q, _⟩ := hI; exact ⟨o, q⟩) (by simp)
    have W₈ := Walks.list (prog := PG) (w := w) hA' I D hDI [Value.ref l0, .ref l1, .ref l2].toArray
    refine codeAny_mono (for_walks (s := s) (R := fun r s' => ∃ h' tk' loc' tt', r = .ok .next ∧ s' = at_ s h' tk' ∧ Kp h h' ∧ St h L loc' [] h' ∧ has loc' "text" (.str (pref mode 3) tt')) W₈ (frz h₇ [D])
      (fun i loc own => own = [(l2, lst [.int 0 a2, .str "t" c2]), (l1, lst [.int 1 a1, .str "s" c1]), (l0, lst [.int 2 a0, .str "s" c0])] ∧ has loc "mode" (.int mode t) ∧ ∃ tt, has loc "text" (.str (pref mode i) tt))
      ?_ ?_ ?_ ?_ ?_ S₈ ⟨hI, ?_⟩ ?_) ?_
    · rintro i v s' Q' E' hP ⟨hs, _⟩ q
      obtain ⟨b, _, rfl⟩ := refs_at (l := [l0, l1, l2]) hP
      exact letGo_listiter hs q
    · rintro i h' ⟨⟨o, q, _⟩, _⟩ b hb
      rw [List.mem_singleton.mp hb]; exact ⟨o, q⟩
    · intro b hb
      simp only [List.mem_cons, List.not_mem_nil, or_false] at hb
      rcases hb with rfl | rfl
      · exact .inl (.head _)
      · obtain ⟨o, q, _⟩ := iD
        exact .inr (.inr ⟨h₇, .head _, o, q, trivial⟩)
    · rintro i v loc own h₉ tk₉ fz' Qb E' hi hv ⟨rfl, hm, tt', ht⟩ S₉ hnext hcont hbrk hret
      have hi3 : i < 3 := hi
      obtain ⟨a, kk, cc, ta, tc, rfl, hIs, hkc, hkk0, hkk2, hcc⟩ : ∃ a kk cc ta tc, v = .ref a ∧ Is h₉ a (lst [.int kk ta, .str cc tc]) ∧ kcs.getD i (0, "") = (kk, cc) ∧ 0 ≤ kk ∧ kk ≤ 2 ∧ (cc = "s" ∨ cc = "t") := by
        obtain ⟨a, ha, rfl⟩ := refs_at (l := [l0, l1, l2]) hv
        match i, hi3 with
        | 0, _ => cases ha; exact ⟨l0, 2, "s", a0, c0, rfl, S₉.at 2 rfl, rfl, by decide, by decide, .inl rfl⟩
        | 1, _ => cases ha; exact ⟨l1, 1, "s", a1, c1, rfl, S₉.at 1 rfl, rfl, by decide, by decide, .inl rfl⟩
        | 2, _ => cases ha; exact ⟨l2, 0, "t", a2, c2, rfl, S₉.at 0 rfl, rfl, by decide, by decide, .inr rfl⟩
      with_reducible refine assign2L hA' hIs.list S₉ e fun h₁₀ tk₁₀ S₁₀ => ?_
      have hk₁₀ := asl (x := "more") (v := .str cc tc) (asl_self (x := "k") (v := .int kk ta) (loc := loc)) (by decide)
      have hm₁₀ := asl (x := "more") (v := .str cc tc) (asl (x := "k") (v := .int kk ta) hm (by decide)) (by decide)
      have ht₁₀ := asl (x := "more") (v := .str cc tc) (asl (x := "k") (v := .int kk ta) ht (by decide)) (by decide)
      have hkn : kk.toNat ≤ 2 := by omega
      with_reducible refine wpAny_execs_cons (wpAny_Assign_Name ?_ rfl)
      with_reducible refine wpAny_BinOp (wpAny_BinOp (lo S₁₀ e hm₁₀ (wpAny_BinOp (cint fun t1 k1 => lo S₁₀ e hk₁₀ (powI ?_ ?_ ?_ fun t2 k2 => ?_)))))
      · exact hkk0
      · omega
      · decide
      with_reducible refine fdivI ?_ ?_ fun t3 k3 => cint fun t4 k4 => fmodI ?_ fun t5 k5 => ?_
      · exact Int.ne_of_gt (Int.pow_pos (by decide))
      · rw [Int.natAbs_pow]
        exact Nat.lt_of_le_of_lt (Nat.pow_le_pow_right (by decide) hkn) (by decide)
      · decide
      with_reducible refine slo S₁₀ e fun h₁₁ tk₁₁ S₁₁ => ?_
      dsimp only
      have hth₁₁ := asl_self (x := "three") (v := .int (three mode kk) t5) (loc := aset "more" (.str cc tc) (aset "k" (.int kk ta) loc))
      have hmo₁₁ := asl (x := "three") (v := .int (three mode kk) t5) (asl_self (x := "more") (v := .str cc tc) (loc := aset "k" (.int kk ta) loc)) (by decide)
      have hk₁₁ := asl (x := "three") (v := .int (three mode kk) t5) hk₁₀ (by decide)
      have hm₁₁ := asl (x := "three") (v := .int (three mode kk) t5) hm₁₀ (by decide)
      have ht₁₁ := asl (x := "three") (v := .int (three mode kk) t5) ht₁₀ (by decide)
      have S₁₁ : St h L (aset "three" (.int (three mode kk) t5) (aset "more" (.str cc tc) (aset "k" (.int kk ta) loc))) _ h₁₁ := S₁₁
      generalize aset "three" (.int (three mode kk) t5) (aset "more" (.str cc tc) (aset "k" (.int kk ta) loc)) = loc₁₁ at S₁₁ hth₁₁ hmo₁₁ hk₁₁ hm₁₁ ht₁₁
      have up : ∃ cu : Str, Txt.upper cc = cu ∧ Builtin.Str.tooLong (Txt.upper cc).length = false ∧ cu.length = 1 := by
        rcases hcc with rfl | rfl
        · exact ⟨"S", by decide +kernel, by decide +kernel, by decide⟩
        · exact ⟨"T", by decide +kernel, by decide +kernel, by decide⟩
      have cl : cc.length = 1 := by rcases hcc with rfl | rfl <;> decide
      obtain ⟨cu, hcu, hfit, cul⟩ := up
      with_reducible refine wpAny_execs_cons (wpAny_Assign_Name ?_ rfl)
      with_reducible refine wpAny_IfExp (wpAny_isTrue_Compare1 (wpAny_BinOp (lo S₁₁ e hth₁₁ (cint fun t6 k6 => fmodI ?_ fun t7 k7 => cint fun t8 k8 => eqI (wpAny_truthy_bool ?_)))) rfl)
      · decide
      with_reducible refine join_str (x₁ := cc) (x₂ := Txt.upper cc) (h := h₁₁) (fun _ Q' q => lo S₁₁ e hmo₁₁ (q _ _)) (fun _ Q' q => meth0 F.plainAttrs_str F.slot_str_upper F.type_str_upper base_name ?_ (lo S₁₁ e hmo₁₁ ⟨typeIs_str _ _ _, fun _ q => (nomatch q), upperS hfit q⟩)) fun t9 k9 => ?_
      · rfl
      with_reducible refine slo S₁₁ e fun h₁₂ tk₁₂ S₁₂ => ?_
      dsimp only
      have hth₁₂ := asl (x := "last") (v := .str (lastS mode kk cc) t9) hth₁₁ (by decide)
      have hl₁₂ := asl_self (x := "last") (v := .str (lastS mode kk cc) t9) (loc := loc₁₁)
      have hk₁₂ := asl (x := "last") (v := .str (lastS mode kk cc) t9) hk₁₁ (by decide)
      have hm₁₂ := asl (x := "last") (v := .str (lastS mode kk cc) t9) hm₁₁ (by decide)
      have ht₁₂ := asl (x := "last") (v := .str (lastS mode kk cc) t9) ht₁₁ (by decide)
      have S₁₂ : St h L (aset "last" (.str (lastS mode kk cc) t9) loc₁₁) _ h₁₂ := S₁₂
      generalize aset "last" (.str (lastS mode kk cc) t9) loc₁₁ = loc₁₂ at S₁₂ hth₁₂ hl₁₂ hk₁₂ hm₁₂ ht₁₂
      with_reducible refine wpAny_execs_cons (wpAny_Assign_Name ?_ rfl)
      with_reducible refine wpAny_BinOp (wpAny_BinOp (lo S₁₂ e ht₁₂ (wpAny_IfExp (wpAny_isTrue_Compare1 (lo S₁₂ e hth₁₂ (cint fun t10 k10 => gtI (wpAny_truthy_bool ?_))) rfl))))
      with_reducible refine join_str (x₁ := "r") (x₂ := "-") (h := h₁₂) (fun _ Q' q => cstr q) (fun _ Q' q => cstr q) fun t11 k11 => addS ?_ fun t12 k12 => ?_
      · have := pref_len mode i
        have := pieceR_len mode kk
        unfold pieceR at this
        omega
      with_reducible refine wpAny_IfExp (wpAny_isTrue_Compare1 (wpAny_BinOp (wpAny_BinOp (lo S₁₂ e hth₁₂ (cint fun t13 k13 => fdivI ?_ ?_ fun t14 k14 => cint fun t15 k15 => fmodI ?_ fun t16 k16 => cint fun t17 k17 => eqI (wpAny_truthy_bool ?_))))) rfl)
      · decide
      · decide
      · decide
      with_reducible refine join_str (x₁ := "w") (x₂ := "-") (h := h₁₂) (fun _ Q' q => cstr q) (fun _ Q' q => cstr q) fun t18 k18 => addS ?_ fun t19 k19 => ?_
      · have := pref_len mode i
        have := pieceR_len mode kk
        have := pieceW_len mode kk
        unfold pieceR pieceW at *
        rw [Str.length_append]
        omega
      with_reducible refine slo S₁₂ e fun h₁₃ tk₁₃ S₁₃ => ?_
      dsimp only
      have S₁₃ : St h L (aset "text" (.str (pref mode i ++ pieceR mode kk ++ pieceW mode kk) t19) loc₁₂) _ h₁₃ := S₁₃
      have hth₁₃ := asl (x := "text") (v := .str (pref mode i ++ pieceR mode kk ++ pieceW mode kk) t19) hth₁₂ (by decide)
      have hl₁₃ := asl (x := "text") (v := .str (pref mode i ++ pieceR mode kk ++ pieceW mode kk) t19) hl₁₂ (by decide)
      have hk₁₃ := asl (x := "text") (v := .str (pref mode i ++ pieceR mode kk ++ pieceW mode kk) t19) hk₁₂ (by decide)
      have hm₁₃ := asl (x := "text") (v := .str (pref mode i ++ pieceR mode kk ++ pieceW mode kk) t19) hm₁₂ (by decide)
      have ht₁₃ := asl_self (x := "text") (v := .str (pref mode i ++ pieceR mode kk ++ pieceW mode kk) t19) (loc := loc₁₂)
      generalize aset "text" (.str (pref mode i ++ pieceR mode kk ++ pieceW mode kk) t19) loc₁₂ = loc₁₃ at S₁₃ hth₁₃ hl₁₃ hk₁₃ hm₁₃ ht₁₃
      with_reducible refine wpAny_execs_cons (wpAny_Assign_Name ?_ rfl)
      with_reducible refine wpAny_BinOp (lo S₁₃ e ht₁₃ (wpAny_IfExp (wpAny_isTrue_Compare1 (wpAny_BinOp (wpAny_BinOp (wpAny_BinOp (lo S₁₃ e hm₁₃ (cint fun t20 k20 => fdivI ?_ ?_ fun t21 k21 => ?_))))) rfl)))
      · decide
      · decide
      with_reducible refine wpAny_BinOp (cint fun t22 k22 => lo S₁₃ e hk₁₃ (powI ?_ ?_ ?_ fun t23 k23 => fdivI ?_ ?_ fun t24 k24 => cint fun t25 k25 => fmodI ?_ fun t26 k26 => cint fun t27 k27 => eqI (wpAny_truthy_bool ?_)))
      · exact hkk0
      · omega
      · decide
      · exact Int.ne_of_gt (Int.pow_pos (by decide))
      · rw [Int.natAbs_pow]
        exact Nat.lt_of_le_of_lt (Nat.pow_le_pow_right (by decide) hkn) (by decide)
      · decide
      with_reducible refine join_str (x₁ := lastS mode kk cc) (x₂ := if (three mode kk).fmod 2 == 1 then "x" else "-") (h := h₁₃) (fun _ Q' q => lo S₁₃ e hl₁₃ (q _ _)) (fun _ Q' q => wpAny_IfExp (wpAny_isTrue_Compare1 (wpAny_BinOp (lo S₁₃ e hth₁₃ (cint fun t28 k28 => fmodI ?_ fun t29 k29 => cint fun t30 k30 => eqI (wpAny_truthy_bool
        (join_str (x₁ := "x") (x₂ := "-") (h := h₁₃) (fun _ Q' q => cstr q) (fun _ Q' q => cstr q) q))))) rfl)) fun t31 k31 => addS ?_ fun t32 k32 => ?_
      · decide
      · have := pref_len mode i
        have := pieceR_len mode kk
        have := pieceW_len mode kk
        have h3 := pieceX_len mode kk (c := cc) (by rcases hcc with q | q; exact .inl q; exact .inr (.inl q))
        unfold pieceX at h3
        rw [Str.length_append, Str.length_append]
        omega
      with_reducible refine slo S₁₃ e fun h₁₄ tk₁₄ S₁₄ => ?_
      dsimp only
      refine wpAny_execs_nil (hnext _ _ _ _ ⟨rfl, asl hm₁₃ (by decide), t32, ?_⟩ S₁₄)
      have e1 : pref mode (i + 1) = ((pref mode i ++ pieceR mode kk) ++ pieceW mode kk) ++ pieceX mode kk cc := by
        show ((pref mode i ++ pieceR mode (kcs.getD i (0, "")).1) ++ pieceW mode (kcs.getD i (0, "")).1) ++ pieceX mode (kcs.getD i (0, "")).1 (kcs.getD i (0, "")).2 = _
        rw [hkc]
      rw [e1]
      exact asl_self
    · rintro loc own h₉ tk₉ Qb E' ⟨rfl, hm, tt', ht⟩ S₉ hq
      exact wpAny_execs_nil (hq _ _ ⟨_, _, loc, tt', rfl, rfl, S₉.keep, S₉.drop _ (List.nil_sublist _), ht⟩)
    · exact (iD.keeps k₈).list
    · exact ⟨rfl, rfl, tt, rfl⟩
    · rintro r s' ⟨h₉, tk₉, loc', tt', rfl, rfl, k₉, S₉, ht⟩
      dsimp only
      with_reducible refine wpAny_execs_cons (wpAny_Return_some (lo S₉ e ht ?_))
      exact hQ _ _ (k _ _ _ k₉)
  · intro _; rfl
end Mine
end
section -- Pl8
open PySem PySem.W PyProof.Rows PySem.Spec PySem.Calls
set_option Elab.async false
set_option maxRecDepth 100000
set_option maxHeartbeats 1000000
namespace Mine
theorem hit_nat (i m b : Nat) (hi : i ≠ 0) : hitB i (m : Int) (b : Int) = (m &&& b == b) := by
  unfold hitB
  rw [if_neg hi, bitAnd_nat, Bool.eq_iff_iff, beq_iff_eq, beq_iff_eq]
  exact Int.ofNat_inj
theorem sg_one (i m b : Nat) (c : Str) (hi : i ≠ 0) : pick i (m : Int) [((b : Int), c)] = if (m &&& b == b) then c else "-" := by
  unfold pick pick
  rw [hit_nat i m b hi, if_neg hi]
theorem three_nat (m k : Nat) : three (m : Int) (k : Int) = ((m / 8 ^ k % 8 : Nat) : Int) := by
  unfold three
  have e1 : ((m : Int).fdiv (8 ^ (k : Int).toNat)) = ((m / 8 ^ k : Nat) : Int) := by
    rw [Int.fdiv_eq_ediv_of_nonneg _ (Int.le_of_lt (Int.pow_pos (by decide))), Int.toNat_natCast]
    norm_cast
  rw [e1, Int.fmod_eq_emod_of_nonneg _ (by decide)]
  norm_cast
theorem tb_div (m k : Nat) : m.testBit k = decide (m / 2 ^ k % 2 = 1) := Nat.testBit_eq_decide_div_mod_eq
end Mine
namespace Mine
theorem tb_not (m b : Nat) : (m &&& b == b) = (m &&& b == b) := rfl
theorem qR (q : Nat) : q / 4 % 2 = 1 ↔ (3 : Int) < ((q % 8 : Nat) : Int) := by omega
theorem qW (q : Nat) : q / 2 % 2 = 1 ↔ q % 8 / 2 % 2 = 1 := by omega
theorem qX (q : Nat) : q % 2 = 1 ↔ q % 8 % 2 = 1 := by rw [Nat.mod_mod_of_dvd q (⟨4, rfl⟩ : 2 ∣ 8)]
theorem p8 (k : Nat) : 2 ^ (3 * k) = 8 ^ k := Nat.pow_mul 2 3 k
theorem p84 (k : Nat) : 2 ^ (3 * k + 2) = 8 ^ k * 4 := (Nat.pow_add 2 (3 * k) 2).trans (congrArg (· * 4) (p8 k))
theorem p82 (k : Nat) : 2 ^ (3 * k + 1) = 8 ^ k * 2 := (Nat.pow_add 2 (3 * k) 1).trans (congrArg (· * 2) (p8 k))
theorem p9 (k : Nat) : 2 ^ (9 + k) = 512 * 2 ^ k := Nat.pow_add 2 9 k
theorem sR (i m b k : Nat) (hi : i ≠ 0) (hb : b = 2 ^ (3 * k + 2)) (hk : k ≤ 2) : pick i (m : Int) [((b : Int), "r")] = pieceR (m : Int) (k : Int) := by
  subst hb
  rw [sg_one i m _ "r" hi, mask1, tb_div]
  unfold pieceR
  rw [three_nat]
  have : decide (m / 2 ^ (3 * k + 2) % 2 = 1) = decide (3 < ((m / 8 ^ k % 8 : Nat) : Int)) := by
    rw [decide_eq_decide, p84, ← Nat.div_div_eq_div_mul]; exact qR _
  rw [this]
theorem sW (i m b k : Nat) (hi : i ≠ 0) (hb : b = 2 ^ (3 * k + 1)) (hk : k ≤ 2) : pick i (m : Int) [((b : Int), "w")] = pieceW (m : Int) (k : Int) := by
  subst hb
  rw [sg_one i m _ "w" hi, mask1, tb_div]
  unfold pieceW
  rw [three_nat]
  have e1 : (((m / 8 ^ k % 8 : Nat) : Int).fdiv 2) = ((m / 8 ^ k % 8 / 2 : Nat) : Int) := by
    rw [Int.fdiv_eq_ediv_of_nonneg _ (by decide)]; norm_cast
  rw [e1, nat_fmod2]
  have : decide (m / 2 ^ (3 * k + 1) % 2 = 1) = decide (m / 8 ^ k % 8 / 2 % 2 = 1) := by
    rw [decide_eq_decide, p82, ← Nat.div_div_eq_div_mul]; exact qW _
  rw [this]
theorem sX (i m b1 b2 b3 k : Nat) (c d : Str) (hi : i ≠ 0) (h3 : b3 = 2 ^ (3 * k)) (h2 : b2 = 2 ^ (9 + k)) (h1 : b1 = 2 ^ (3 * k) ||| 2 ^ (9 + k)) (hk : k ≤ 2) (hd : d = Txt.upper c) :
    pick i (m : Int) [((b1 : Int), c), ((b2 : Int), d), ((b3 : Int), "x")] = pieceX (m : Int) (k : Int) c := by
  subst h3 h2 hd
  unfold pick pick pick pick
  rw [hit_nat i m b1 hi, hit_nat i m _ hi, hit_nat i m _ hi, mask2 m _ _ b1 h1, mask1, mask1, if_neg hi]
  unfold pieceX lastS
  rw [three_nat, nat_fmod2]
  have e1 : (((m : Int).fdiv 512).fdiv (2 ^ (k : Int).toNat)) = ((m / 512 / 2 ^ k : Nat) : Int) := by
    rw [Int.toNat_natCast, Int.fdiv_eq_ediv_of_nonneg (m : Int) (show (0 : Int) ≤ 512 by decide), Int.fdiv_eq_ediv_of_nonneg _ (show (0 : Int) ≤ 2 ^ k from Int.le_of_lt (Int.pow_pos (by decide)))]
    norm_cast
  rw [e1, nat_fmod2, tb_div, tb_div]
  have a1 : decide (m / 2 ^ (3 * k) % 2 = 1) = decide (m / 8 ^ k % 8 % 2 = 1) := by
    rw [decide_eq_decide, p8]; exact qX _
  have a2 : decide (m / 2 ^ (9 + k) % 2 = 1) = decide (m / 512 / 2 ^ k % 2 = 1) := by
    rw [p9, ← Nat.div_div_eq_div_mul]
  rw [a1, a2]
  cases decide (m / 8 ^ k % 8 % 2 = 1) <;> cases decide (m / 512 / 2 ^ k % 2 = 1) <;> rfl
end Mine
end
section -- Pl9
open PySem PySem.W PyProof.Rows PySem.Spec PySem.Calls
set_option Elab.async false
set_option maxRecDepth 100000
set_option maxHeartbeats 1000000
namespace Mine
theorem hi_mask (m : Nat) (hm : m < 65536) : m &&& 61440 = m / 4096 * 4096 := by
  have e : m / 4096 * 4096 = (m >>> 12) <<< 12 := by rw [Nat.shiftRight_eq_div_pow, Nat.shiftLeft_eq]
  have e15 : (61440 : Nat) = 15 <<< 12 := by decide
  rw [e, e15]
  apply Nat.eq_of_testBit_eq
  intro i
  rw [Nat.testBit_and, Nat.testBit_shiftLeft, Nat.testBit_shiftLeft, Nat.testBit_shiftRight]
  by_cases h12 : 12 ≤ i
  · have e2 : 12 + (i - 12) = i := by omega
    rw [e2]
    by_cases h16 : i < 16
    · have : ∀ j < 4, Nat.testBit 15 j = true := by decide
      rw [this (i - 12) (by omega)]
      simp [h12]
    · have : m.testBit i = false := Nat.testBit_lt_two_pow (Nat.lt_of_lt_of_le hm (show (65536 : Nat) ≤ 2 ^ i from Nat.pow_le_pow_right (n := 2) (by decide) (show 16 ≤ i by omega)))
      simp [this]
  · simp [h12]
end Mine
namespace Mine
theorem ty_sgn (m : Nat) (hm : m < 65536) : sgn (m : Int) 0 = tyC ((m : Int).fdiv 4096) := by
  have e1 : ((m : Int).fdiv 4096) = ((m / 4096 : Nat) : Int) := by
    rw [Int.fdiv_eq_ediv_of_nonneg _ (by decide)]; norm_cast
  have hq : m / 4096 < 16 := by omega
  have e2 : ∀ b : Int, hitB 0 (m : Int) b = (((m / 4096 * 4096 : Nat) : Int) == b) := fun b => by
    unfold hitB
    rw [if_pos rfl, show (61440 : Int) = ((61440 : Nat) : Int) from rfl, bitAnd_nat, hi_mask m hm]
  unfold sgn
  rw [e1]
  show pick 0 (m : Int) [(40960, "l"), (49152, "s"), (32768, "-"), (24576, "b"), (16384, "d"), (8192, "c"), (4096, "p")] = _
  unfold pick pick pick pick pick pick pick pick
  simp only [e2]
  generalize m / 4096 = q at hq
  have : ∀ q < 16, (if (((q * 4096 : Nat) : Int) == 40960) = true then ("l" : Str) else if (((q * 4096 : Nat) : Int) == 49152) = true then "s" else if (((q * 4096 : Nat) : Int) == 32768) = true then "-" else if (((q * 4096 : Nat) : Int) == 24576) = true then "b" else if (((q * 4096 : Nat) : Int) == 16384) = true then "d" else if (((q * 4096 : Nat) : Int) == 8192) = true then "c" else if (((q * 4096 : Nat) : Int) == 4096) = true then "p" else if 0 = 0 then "?" else "-") = tyC (q : Int) := by decide
  exact this q hq
theorem cat_list (a b : Str) : (a ++ b).cps.toList = a.cps.toList ++ b.cps.toList := by
  show (a.cps ++ b.cps).toList = _
  exact Array.toList_append
theorem emp_list : (Str.ofString "").cps.toList = [] := by decide
theorem sig_pref (m : Nat) (hm : m < 65536) : sig (m : Int) = pref (m : Int) 3 := by
  have h0 := ty_sgn m hm
  have h1 : sgn (m : Int) 1 = pieceR (m : Int) 2 := sR 1 m 256 2 (by decide) (by decide) (by decide)
  have h2 : sgn (m : Int) 2 = pieceW (m : Int) 2 := sW 2 m 128 2 (by decide) (by decide) (by decide)
  have h3 : sgn (m : Int) 3 = pieceX (m : Int) 2 "s" := sX 3 m 2112 2048 64 2 "s" "S" (by decide) (by decide) (by decide) (by decide) (by decide) (by decide +kernel)
  have h4 : sgn (m : Int) 4 = pieceR (m : Int) 1 := sR 4 m 32 1 (by decide) (by decide) (by decide)
  have h5 : sgn (m : Int) 5 = pieceW (m : Int) 1 := sW 5 m 16 1 (by decide) (by decide) (by decide)
  have h6 : sgn (m : Int) 6 = pieceX (m : Int) 1 "s" := sX 6 m 1032 1024 8 1 "s" "S" (by decide) (by decide) (by decide) (by decide) (by decide) (by decide +kernel)
  have h7 : sgn (m : Int) 7 = pieceR (m : Int) 0 := sR 7 m 4 0 (by decide) (by decide) (by decide)
  have h8 : sgn (m : Int) 8 = pieceW (m : Int) 0 := sW 8 m 2 0 (by decide) (by decide) (by decide)
  have h9 : sgn (m : Int) 9 = pieceX (m : Int) 0 "t" := sX 9 m 513 512 1 0 "t" "T" (by decide) (by decide) (by decide) (by decide) (by decide) (by decide +kernel)
  unfold sig Txt.join
  rw [StrLaws.glued_eq_join]
  show Str.join "" [sgn (m : Int) 0, sgn (m : Int) 1, sgn (m : Int) 2, sgn (m : Int) 3, sgn (m : Int) 4, sgn (m : Int) 5, sgn (m : Int) 6, sgn (m : Int) 7, sgn (m : Int) 8, sgn (m : Int) 9] = _
  rw [h0, h1, h2, h3, h4, h5, h6, h7, h8, h9]
  show _ = ((((((((tyC ((m : Int).fdiv 4096) ++ pieceR m 2) ++ pieceW m 2) ++ pieceX m 2 "s") ++ pieceR m 1) ++ pieceW m 1) ++ pieceX m 1 "s") ++ pieceR m 0) ++ pieceW m 0) ++ pieceX m 0 "t"
  refine str_ext ?_
  simp only [Str.join, cat_list, emp_list, List.append_assoc, List.nil_append]
end Mine
end
section -- Pl10
open PySem PySem.W PyProof.Rows PySem.Spec PySem.Calls
set_option Elab.async false
set_option maxRecDepth 100000
set_option maxHeartbeats 1000000
namespace Mine
noncomputable def cR (b : Bool) : Nat := if b then 114 else 45
noncomputable def cW (b : Bool) : Nat := if b then 119 else 45
noncomputable def cX (x s : Bool) (c d : Nat) : Nat := if x && s then c else if s then d else if x then 120 else 45
noncomputable def grp (who : Str) (r w x s : Bool) (c : Str) : List Str := (if r then [who ++ " r"] else []) ++ (if w then [who ++ " w"] else []) ++ (if x then [who ++ " x"] else []) ++ (if s then [who ++ " " ++ c] else [])
theorem grp0 (c0 a1 a2 a3 a4 a5 a6 : Nat) (r w x s : Bool) : rw1 ⟨#[c0, cR r, cW w, cX x s 115 83, a1, a2, a3, a4, a5, a6]⟩ 0 ++ rw2 ⟨#[c0, cR r, cW w, cX x s 115 83, a1, a2, a3, a4, a5, a6]⟩ 0 ++ rw3 ⟨#[c0, cR r, cW w, cX x s 115 83, a1, a2, a3, a4, a5, a6]⟩ 0 = grp "user" r w x s "s" := by
  cases r <;> cases w <;> cases x <;> cases s <;> kernel_rfl
theorem grp1 (c0 a1 a2 a3 a4 a5 a6 : Nat) (r w x s : Bool) : rw1 ⟨#[c0, a1, a2, a3, cR r, cW w, cX x s 115 83, a4, a5, a6]⟩ 1 ++ rw2 ⟨#[c0, a1, a2, a3, cR r, cW w, cX x s 115 83, a4, a5, a6]⟩ 1 ++ rw3 ⟨#[c0, a1, a2, a3, cR r, cW w, cX x s 115 83, a4, a5, a6]⟩ 1 = grp "group" r w x s "s" := by
  cases r <;> cases w <;> cases x <;> cases s <;> kernel_rfl
theorem grp2 (c0 a1 a2 a3 a4 a5 a6 : Nat) (r w x s : Bool) : rw1 ⟨#[c0, a1, a2, a3, a4, a5, a6, cR r, cW w, cX x s 116 84]⟩ 2 ++ rw2 ⟨#[c0, a1, a2, a3, a4, a5, a6, cR r, cW w, cX x s 116 84]⟩ 2 ++ rw3 ⟨#[c0, a1, a2, a3, a4, a5, a6, cR r, cW w, cX x s 116 84]⟩ 2 = grp "others" r w x s "t" := by
  cases r <;> cases w <;> cases x <;> cases s <;> kernel_rfl
noncomputable def ten (c0 : Nat) (b : Nat → Bool) : Str := ⟨#[c0, cR (b 8), cW (b 7), cX (b 6) (b 11) 115 83, cR (b 5), cW (b 4), cX (b 3) (b 10) 115 83, cR (b 2), cW (b 1), cX (b 0) (b 9) 116 84]⟩
theorem read_ten (c0 : Nat) (b : Nat → Bool) : readL (ten c0 b) 3 = grp "user" (b 8) (b 7) (b 6) (b 11) "s" ++ grp "group" (b 5) (b 4) (b 3) (b 10) "s" ++ grp "others" (b 2) (b 1) (b 0) (b 9) "t" := by
  unfold readL readL readL readL
  rw [List.nil_append]
  have h0 := grp0 c0 (cR (b 5)) (cW (b 4)) (cX (b 3) (b 10) 115 83) (cR (b 2)) (cW (b 1)) (cX (b 0) (b 9) 116 84) (b 8) (b 7) (b 6) (b 11)
  have h1 := grp1 c0 (cR (b 8)) (cW (b 7)) (cX (b 6) (b 11) 115 83) (cR (b 2)) (cW (b 1)) (cX (b 0) (b 9) 116 84) (b 5) (b 4) (b 3) (b 10)
  have h2 := grp2 c0 (cR (b 8)) (cW (b 7)) (cX (b 6) (b 11) 115 83) (cR (b 5)) (cW (b 4)) (cX (b 3) (b 10) 115 83) (b 2) (b 1) (b 0) (b 9)
  unfold ten
  have g : ∀ a b c d e f g' h' i' : List Str, ((((((((a ++ b) ++ c) ++ d) ++ e) ++ f) ++ g') ++ h') ++ i') = ((a ++ b ++ c) ++ (d ++ e ++ f)) ++ (g' ++ h' ++ i') := by
    intros; simp only [List.append_assoc]
  rw [g, h0, h1, h2]
end Mine
end
section -- Pl11
open PySem PySem.W PyProof.Rows PySem.Spec PySem.Calls
set_option Elab.async false
set_option maxRecDepth 100000
set_option maxHeartbeats 1000000
namespace Mine
theorem one_r (i m b k : Nat) (hi : i ≠ 0) (hb : b = 2 ^ k) : pick i (m : Int) [((b : Int), "r")] = ⟨#[cR (m.testBit k)]⟩ := by
  subst hb
  rw [sg_one i m _ "r" hi, mask1]
  cases m.testBit k <;> rfl
theorem one_w (i m b k : Nat) (hi : i ≠ 0) (hb : b = 2 ^ k) : pick i (m : Int) [((b : Int), "w")] = ⟨#[cW (m.testBit k)]⟩ := by
  subst hb
  rw [sg_one i m _ "w" hi, mask1]
  cases m.testBit k <;> rfl
theorem one_x (i m b1 b2 b3 j k c d : Nat) (hi : i ≠ 0) (h3 : b3 = 2 ^ j) (h2 : b2 = 2 ^ k) (h1 : b1 = 2 ^ j ||| 2 ^ k) :
    pick i (m : Int) [((b1 : Int), ⟨#[c]⟩), ((b2 : Int), ⟨#[d]⟩), ((b3 : Int), "x")] = ⟨#[cX (m.testBit j) (m.testBit k) c d]⟩ := by
  subst h3 h2
  unfold pick pick pick pick
  rw [hit_nat i m b1 hi, hit_nat i m _ hi, hit_nat i m _ hi, mask2 m j k b1 h1, mask1, mask1, if_neg hi]
  cases m.testBit j <;> cases m.testBit k <;> rfl
noncomputable def tyN (q : Int) : Nat := (tyC q).cps.getD 0 0
theorem tyN_mem : ∀ q < 16, tyC (Int.ofNat q) = ⟨#[tyN (Int.ofNat q)]⟩ ∧ tyN (Int.ofNat q) ∈ [108, 115, 45, 98, 100, 99, 112, 63] := by decide +kernel
theorem sig_ten (m : Nat) (hm : m < 65536) : ∃ c0 ∈ [108, 115, 45, 98, 100, 99, 112, 63], sig (m : Int) = ten c0 m.testBit := by
  have e1 : ((m : Int).fdiv 4096) = Int.ofNat (m / 4096) := by
    rw [Int.fdiv_eq_ediv_of_nonneg _ (by decide)]; norm_cast
  have h0 := ty_sgn m hm
  have hq := tyN_mem (m / 4096) (by omega)
  rw [e1, hq.1] at h0
  refine ⟨_, hq.2, ?_⟩
  have h1 : sgn (m : Int) 1 = _ := one_r 1 m 256 8 (by decide) (by decide)
  have h2 : sgn (m : Int) 2 = _ := one_w 2 m 128 7 (by decide) (by decide)
  have h3 : sgn (m : Int) 3 = _ := one_x 3 m 2112 2048 64 6 11 115 83 (by decide) (by decide) (by decide) (by decide)
  have h4 : sgn (m : Int) 4 = _ := one_r 4 m 32 5 (by decide) (by decide)
  have h5 : sgn (m : Int) 5 = _ := one_w 5 m 16 4 (by decide) (by decide)
  have h6 : sgn (m : Int) 6 = _ := one_x 6 m 1032 1024 8 3 10 115 83 (by decide) (by decide) (by decide) (by decide)
  have h7 : sgn (m : Int) 7 = _ := one_r 7 m 4 2 (by decide) (by decide)
  have h8 : sgn (m : Int) 8 = _ := one_w 8 m 2 1 (by decide) (by decide)
  have h9 : sgn (m : Int) 9 = _ := one_x 9 m 513 512 1 0 9 116 84 (by decide) (by decide) (by decide) (by decide)
  unfold sig Txt.join
  rw [StrLaws.glued_eq_join]
  show Str.join "" [sgn (m : Int) 0, sgn (m : Int) 1, sgn (m : Int) 2, sgn (m : Int) 3, sgn (m : Int) 4, sgn (m : Int) 5, sgn (m : Int) 6, sgn (m : Int) 7, sgn (m : Int) 8, sgn (m : Int) 9] = _
  rw [h0, h1, h2, h3, h4, h5, h6, h7, h8, h9]
  refine str_ext ?_
  simp only [Str.join, cat_list, emp_list, List.append_assoc, List.nil_append]
  rfl
theorem grp_filter (f : Str → Bool) (who c : Str) (r w x s : Bool) (hr : f (who ++ " r") = r) (hw : f (who ++ " w") = w) (hx : f (who ++ " x") = x) (hs : f (who ++ " " ++ c) = s) :
    grp who r w x s c = [who ++ " r", who ++ " w", who ++ " x", who ++ " " ++ c].filter f := by
  unfold grp
  cases r <;> cases w <;> cases x <;> cases s <;> simp [List.filter, hr, hw, hx, hs]
theorem onW_bit (m k : Nat) (x : Str) (h : words.idxOf x = k) : onW (m : Int) x = m.testBit k := by
  unfold onW; rw [h]; exact bit_fdiv m k
theorem read_sig (m : Nat) (hm : m < 65536) : (readL (sig (m : Int)) 3).Perm (words.filter (onW (m : Int))) := by
  obtain ⟨c0, _, e⟩ := sig_ten m hm
  rw [e, read_ten]
  rw [grp_filter (onW (m : Int)) "user" "s" _ _ _ _ (onW_bit m 8 _ (by decide +kernel)) (onW_bit m 7 _ (by decide +kernel)) (onW_bit m 6 _ (by decide +kernel)) (onW_bit m 11 _ (by decide +kernel)),
    grp_filter (onW (m : Int)) "group" "s" _ _ _ _ (onW_bit m 5 _ (by decide +kernel)) (onW_bit m 4 _ (by decide +kernel)) (onW_bit m 3 _ (by decide +kernel)) (onW_bit m 10 _ (by decide +kernel)),
    grp_filter (onW (m : Int)) "others" "t" _ _ _ _ (onW_bit m 2 _ (by decide +kernel)) (onW_bit m 1 _ (by decide +kernel)) (onW_bit m 0 _ (by decide +kernel)) (onW_bit m 9 _ (by decide +kernel)),
    ← List.filter_append, ← List.filter_append]
  exact List.Perm.filter _ (by decide +kernel)
theorem sig_size (m : Nat) (hm : m < 65536) : (sig (m : Int)).cps.size = 10 := by
  obtain ⟨c0, _, e⟩ := sig_ten m hm
  rw [e]; rfl
noncomputable def lets : List Nat := [108, 115, 45, 98, 100, 99, 112, 63, 114, 119, 83, 120, 116, 84]
theorem sig_lets (m : Nat) (hm : m < 65536) : ∀ c ∈ (sig (m : Int)).cps.toList, c ∈ lets := by
  obtain ⟨c0, h0, e⟩ := sig_ten m hm
  have hR : ∀ b, cR b ∈ lets := by decide
  have hW : ∀ b, cW b ∈ lets := by decide
  have hX : ∀ x s, cX x s 115 83 ∈ lets := by decide
  have hT : ∀ x s, cX x s 116 84 ∈ lets := by decide
  have hc : c0 ∈ lets := (by decide : ∀ c ∈ [108, 115, 45, 98, 100, 99, 112, 63], c ∈ lets) c0 h0
  rw [e]
  intro c hm'
  have hm'' : c ∈ [c0, cR (m.testBit 8), cW (m.testBit 7), cX (m.testBit 6) (m.testBit 11) 115 83, cR (m.testBit 5), cW (m.testBit 4), cX (m.testBit 3) (m.testBit 10) 115 83, cR (m.testBit 2), cW (m.testBit 1), cX (m.testBit 0) (m.testBit 9) 116 84] := hm'
  simp only [List.mem_cons, List.not_mem_nil, or_false] at hm''
  rcases hm'' with rfl | rfl | rfl | rfl | rfl | rfl | rfl | rfl | rfl | rfl
  · exact hc
  · exact hR _
  · exact hW _
  · exact hX _ _
  · exact hR _
  · exact hW _
  · exact hX _ _
  · exact hR _
  · exact hW _
  · exact hT _ _
theorem sig_ascii (m : Nat) (hm : m < 65536) : (sig (m : Int)).cps.all (· < 128) = true := by
  have h := sig_lets m hm
  have l : ∀ c ∈ lets, c < 128 := by decide
  rw [Array.all_eq_true_iff_forall_mem]
  intro x hx
  simpa using l x (h x (Array.mem_toList_iff.mpr hx))
theorem sig_low (m : Nat) (hm : m < 65536) : ∀ c ∈ (sig (m : Int)).cps.toList, Builtin.Str.tooLong (Txt.lower ⟨#[c]⟩).length = false ∧ (Txt.lower ⟨#[c]⟩).length ≤ 1000 := by
  have l : ∀ c ∈ lets, Builtin.Str.tooLong (Txt.lower ⟨#[c]⟩).length = false ∧ (Txt.lower ⟨#[c]⟩).length ≤ 1000 := by decide +kernel
  exact fun c hc => l c (sig_lets m hm c hc)
end Mine
end
section -- Lset
open PySem PySem.W PyProof.Rows PySem.Spec PySem.Calls
set_option Elab.async false
set_option maxRecDepth 100000
set_option maxHeartbeats 1000000
set_option pp.maxSteps 3000
namespace Mine
variable {w : World} {A : Around} {E : Value → Shared → Prop} {s : Shared} {h : Heap} {tk : Nat}
theorem ct_set {n : Nat} {mode : Int} {t : Tok} {Q : Value → Shared → Prop} (G : Gr w h) (R : Rm (n + 1) A) (hA : A.handled = none)
    (k : ∀ D vs h' tk', h.get? D = none → Kp h h' → Is h' D (lst vs) → StrsAre vs (SW mode) → Q (.ref D) (at_ s h' tk')) :
    wpAny (model PG w) A (call (.ref 108) [.int mode t]) Q E (at_ s h tk) := by
  refine enterC (binds := [("mode", .int mode t)]) G R rfl rfl rfl rfl rfl (by decide) rfl rfl rfl rfl ?_
  intro env L h₁ tk₁ Qf Ef hQ e S G₁ R₁
  dsimp only at e S ⊢
  have hA' : (A.deeper env).handled = none := hA
  have S : St h L [] [(L + 2, cll none), (L + 1, cll (some (.int mode t)))] h₁ := S
  replace e : EnvIs env _ L [("words", L + 2), ("mode", L + 1)] := e
  with_reducible refine wpAny_execs_cons (wpAny_Assign_Name ?_ rfl)
  with_reducible refine List_ ?_
  with_reducible refine sp_str fun t0 k0 => sp_str fun t1 k1 => sp_str fun t2 k2 => sp_str fun t3 k3 => sp_str fun t4 k4 => sp_str fun t5 k5 => sp_str fun t6 k6 => sp_str fun t7 k7 => sp_str fun t8 k8 => sp_str fun t9 k9 => sp_str fun t10 k10 => sp_str fun t11 k11 => sp_nil ?_
  with_reducible refine newL ?_ fun D h₂ hD k₂ lD => ?_
  · exact (by decide : 12 ≤ 1000000)
  generalize hvs : [Value.str (Str.ofString "others x") t0, Value.str (Str.ofString "others w") t1, Value.str (Str.ofString "others r") t2, Value.str (Str.ofString "group x") t3, Value.str (Str.ofString "group w") t4, Value.str (Str.ofString "group r") t5, Value.str (Str.ofString "user x") t6, Value.str (Str.ofString "user w") t7, Value.str (Str.ofString "user r") t8, Value.str (Str.ofString "others t") t9, Value.str (Str.ofString "group s") t10, Value.str (Str.ofString "user s") t11] = wv at lD
  have hw : StrsAre wv words := by
    rw [← hvs]
    exact .cons _ _ (.cons _ _ (.cons _ _ (.cons _ _ (.cons _ _ (.cons _ _ (.cons _ _ (.cons _ _ (.cons _ _ (.cons _ _ (.cons _ _ (.cons _ _ .nil)))))))))))
  clear hvs
  have S₂ := S.more k₂ hD lD
  with_reducible refine sce (c := L + 2) (v₀ := none) S₂ e 1 fun h₃ S₃ => ?_
  dsimp only
  with_reducible refine wpAny_execs_cons (wpAny_Return_some (wpAny_Call_NameR ?_))
  have S₃ : St h L [] [(D, lst wv), (L + 2, cll (some (.ref D))), (L + 1, cll (some (.int mode t)))] h₃ := S₃
  have G₃ := G.keeps S₃.keep
  with_reducible refine bl (.builtin "sorted") G₃ e (callW_b ?_ (sp_comp ?_))
  · rfl
  with_reducible refine comp_head (cl := [("words", L + 2), ("mode", L + 1)]) e ?_ ?_ ?_ ?_ ?_
  · rfl
  · rfl
  · decide
  · with_reducible refine wpAny_Call_NameR (bl (.type "range") G₃ e (callW_t ?_ (sp_int fun tr kr => sp_nil ?_)))
    · rfl
    with_reducible refine range1 fun r h₄ tk₄ nr k₄ hr => ?_
    with_reducible refine iterR hr ?_ ?_ ?_ fun I h₅ nI k₅ hI => ?_
    · decide
    · decide
    · decide
    have W₅ := walksR (w := w) hA' I 0 12
    refine comp_go W₅ e rfl (h₁ := h₄) k₅ ?_ ?_ ?_ ?_ hI ?_ (fun i ys objs => objs = [] ∧ StrsAre ys (((List.range i).filter (bitOn mode)).map fun k => words.getD k "")) ?_ ?_ ?_
    · simpa using nI
    · simp
    · intro i h' q b hb
      rw [List.mem_singleton.mp hb]; exact ⟨_, q⟩
    · intro b hb; exact .inl hb
    · decide
    · intro C; exact ⟨rfl, .nil⟩
    · rintro cenv C D₂ i v ys objs loc h₆ tk₆ fz Y N E' hi ⟨ti, rfl⟩ ⟨rfl, hys⟩ eC S₆ hY hN
      with_reducible refine wpAny_assign_Name (slo S₆ eC fun h₇ tk₇ S₇ => ?_)
      have hm₇ : Is h₇ (L + 1) (cll (some (.int mode t))) := ((S₃.at 2 rfl).keeps k₄).keeps S₇.keep
      have hw₇ : Is h₇ (L + 2) (cll (some (.ref D))) := ((S₃.at 1 rfl).keeps k₄).keeps S₇.keep
      have hD₇ : Is h₇ D (lst wv) := ((S₃.at 0 rfl).keeps k₄).keeps S₇.keep
      have hi12 : i < 12 := hi
      with_reducible refine wpAny_tests_one (wpAny_isTrue_Compare1 (wpAny_BinOp (wpAny_BinOp (ceI eC hm₇ (wpAny_BinOp (cint fun t2 k2 => lo S₇ eC asl_self (powI ?_ ?_ ?_ fun t3 k3 => fdivI ?_ ?_ fun t4 k4 => cint fun t5 k5 => fmodI ?_ fun t6 k6 => cint fun t7 k7 => eqI (wpAny_truthy_bool ?_)))))) ) rfl)
      · omega
      · omega
      · decide
      · exact Int.ne_of_gt (Int.pow_pos (by decide))
      · have : (0 + (i : Int)).toNat = i := by omega
        rw [this, Int.natAbs_pow]
        exact Nat.lt_of_le_of_lt (Nat.pow_le_pow_right (by decide) (show i ≤ 12 by omega)) (by decide)
      · decide
      have hpow : (2 : Int) ^ (0 + (i : Int)).toNat = 2 ^ i := by
        have : (0 + (i : Int)).toNat = i := by omega
        rw [this]
      rw [hpow]
      have hb : ((mode.fdiv (2 ^ i)).fmod 2 == 1) = bitOn mode i := rfl
      rw [hb]
      have step : ((List.range (i + 1)).filter (bitOn mode)).map (fun k => words.getD k "") = ((List.range i).filter (bitOn mode)).map (fun k => words.getD k "") ++ (if bitOn mode i then [words.getD i ""] else []) := by
        rw [List.range_succ, List.filter_append, List.map_append]
        congr 1
        by_cases q : bitOn mode i = true <;> simp [q]
      by_cases q : bitOn mode i = true
      · rw [if_pos q]
        obtain ⟨tw, hwi⟩ : ∃ tw, wv[i]? = some (.str (words.getD i "") tw) := by
          refine strs_at hw ?_
          have : ∀ j : Fin 12, words[j.1]? = some (words.getD j.1 "") := by decide
          exact this ⟨i, hi12⟩
        have hidx : (0 + (i : Int)).toNat = i := by omega
        with_reducible refine Subscript_ (ceI eC hw₇ (lo S₇ eC asl_self (sub_list (v := .str (words.getD i "") tw) hD₇.list ?_ ?_ ?_ ?_ ?_)))
        · omega
        · omega
        · rw [hidx]; exact hwi
        · refine hY _ [] _ _ _ ⟨rfl, ?_⟩ S₇
          rw [step, if_pos q]
          exact strs_snoc hys _ _
        · rfl
      · rw [if_neg q]
        refine hN [] _ _ _ ⟨rfl, ?_⟩ S₇
        rw [step, if_neg q, List.append_nil]
        exact hys
    · rintro D₂ ys objs h₆ tk₆ ⟨rfl, hys⟩ hlen nD₂ k₆ lD₂ _ _
      dsimp only
      with_reducible refine sp_nil (sortedT lD₂.list hys ?_ fun D₃ out ss' h₇ nD₃ k₇ lD₃ hout hperm hsort => ?_)
      · omega
      have key : ss' = SW mode := SW_of_sorted hsort (by rw [words_filter]; exact hperm)
      subst key
      have kk : Kp h h₇ := ((S₃.keep.trans k₄).trans k₆).trans k₇
      refine hQ _ _ (k D₃ out _ _ ?_ kk lD₃ hout)
      exact none_of_kp ((S₃.keep.trans k₄).trans k₆) nD₃
  · intro _; rfl
end Mine
end
section -- Law0
open PySem PySem.W PyProof.Rows PySem.Spec PySem.Calls PySem.SeqAt
set_option Elab.async false
set_option maxRecDepth 100000
set_option maxHeartbeats 1000000
set_option pp.maxSteps 3000
set_option linter.unusedVariables false
namespace Mine
noncomputable def lawBody : List Stmt := dBody PG.main.body[38]?
noncomputable def lawScope : Scope := dScope PG.main.body[38]?
noncomputable def lawS (i : Nat) : Stmt := lawBody.getD i (.Pass ⟨0, 0, 0, 0⟩)
noncomputable def lawCs (L : Addr) : List (Str × Addr) := [("due", L + 5), ("things", L + 4), ("sets", L + 3), ("read", L + 2), ("modes", L + 1)]
theorem law_len : lawBody.length = 8 := by kernel_rfl
theorem law_cs (L : Addr) : cellsFrom (L + 1) lawScope.names [] = lawCs L := by kernel_rfl
noncomputable abbrev lw (L : Addr) (p1 p2 p3 : Array Value) (c5 c4 c3 c2 c1 : Option Value) : List (Addr × Sort_) :=
  [(127, fun o => o = tabObj p1), (63, fun o => o = tabObj p2), (132, fun o => o = tabObj p3), (L + 5, cll c5), (L + 4, cll c4), (L + 3, cll c3), (L + 2, cll c2), (L + 1, cll c1)]
noncomputable def modesI (ns : List Int) : List Int := (ns.take 2 ++ [35309, 1005, 33261, 17407] ++ (ns.drop 2).take 2).map fun x => Int.fmod x 65536
theorem modesI_len (ns : List Int) : 4 ≤ (modesI ns).length ∧ (modesI ns).length ≤ 8 := by
  unfold modesI
  simp only [List.length_map, List.length_append, List.length_take, List.length_cons, List.length_nil]
  omega
theorem modesI_nat (ns : List Int) : ∀ m ∈ modesI ns, ∃ n : Nat, m = (n : Int) ∧ n < 65536 := by
  intro m hm
  unfold modesI at hm
  obtain ⟨x, _, rfl⟩ := List.mem_map.mp hm
  rw [Int.fmod_eq_emod_of_nonneg _ (by decide)]
  refine ⟨(x % 65536).toNat, ?_, ?_⟩
  · have := Int.emod_nonneg x (show (65536 : Int) ≠ 0 by decide)
    omega
  · have := Int.emod_lt_of_pos x (show (0 : Int) < 65536 by decide)
    omega
section
variable {h₀ h h' : Heap} {L : Addr} {loc : List (Str × Value)} {own own' : List (Addr × Sort_)}
theorem St.rebase (S : St h₀ L loc own h) : St (hideAll h (L :: own.map (·.1))) L loc own h := by
  refine ⟨hid_kp _ _, S.ns, ?_, S.owns, fun p hp => ⟨?_, (S.fresh p hp).2⟩, S.apart⟩
  · exact hideAll_none _ (by simp)
  · exact hideAll_none _ (.tail _ (List.mem_map_of_mem hp))
theorem St.rebase_kp (S : St h₀ L loc own h) : Kp h₀ (hideAll h (L :: own.map (·.1))) := fun b o e => by
  refine hideAll_get _ (S.keep b o e) fun hm => ?_
  rcases List.mem_cons.mp hm with z | hm
  · rw [z, S.new] at e; cases e
  · obtain ⟨p, hp, z⟩ := List.mem_map.mp hm
    have := (S.fresh p hp).1
    rw [z, e] at this; cases this
end
end Mine
end
section -- LawC
open PySem PySem.W PyProof.Rows PySem.Spec PySem.Calls PySem.SeqAt
set_option Elab.async false
set_option maxRecDepth 100000
set_option maxHeartbeats 1000000
set_option pp.maxSteps 3000
set_option linter.unusedVariables false
namespace Mine
section
variable {w : World} {A : Around} {E : Value → Shared → Prop} {s : Shared} {h : Heap} {tk : Nat} {env : Env} {sc : Scope} {L : Addr} {cs : List (Str × Addr)} {h₀ : Heap} {loc : List (Str × Value)} {own : List (Addr × Sort_)}
noncomputable def RowsN (h h' : Heap) (l : Addr) (n : Nat) (U : Nat → List Value → Prop) : Prop :=
  h.get? l = none ∧ ∃ refs : List Addr, Is h' l (lst (refs.map Value.ref)) ∧ refs.length = n ∧ ∀ i, i < n → ∃ a vs, refs[i]? = some a ∧ h.get? a = none ∧ Is h' a (lst vs) ∧ U i vs
noncomputable def RowsU (h : Heap) (l : Addr) (n : Nat) (U : Nat → List Value → Prop) : Prop :=
  ∃ refs : List Addr, Is h l (lst (refs.map Value.ref)) ∧ refs.length = n ∧ ∀ i, i < n → ∃ a vs, refs[i]? = some a ∧ Is h a (lst vs) ∧ U i vs
theorem RowsU.keeps {h h' : Heap} {l : Addr} {n : Nat} {U : Nat → List Value → Prop} (x : RowsU h l n U) (k : Kp h h') : RowsU h' l n U :=
  let ⟨r, a, b, c⟩ := x; ⟨r, a.keeps k, b, fun i hi => let ⟨p, q, u, v, z⟩ := c i hi; ⟨p, q, u, v.keeps k, z⟩⟩
theorem Is.hid {h : Heap} {a : Addr} {P : Sort_} {l : List Addr} (x : Is h a P) (n : a ∉ l) : Is (hideAll h l) a P := let ⟨o, e, p⟩ := x; ⟨o, hideAll_get _ e n, p⟩
theorem St.notin (S : St h₀ L loc own h) {a : Addr} (e : h.get? a = none) : a ∉ L :: own.map (·.1) := fun hm => by
  rcases List.mem_cons.mp hm with z | hm
  · obtain ⟨o, _, _, q, _⟩ := S.ns
    rw [← z, e] at q; cases q
  · obtain ⟨p, hp, z⟩ := List.mem_map.mp hm
    obtain ⟨o, q, _⟩ := S.owns p hp
    rw [z, e] at q; cases q
theorem RowsN.base {h' : Heap} {l : Addr} {n : Nat} {U : Nat → List Value → Prop} (x : RowsN h h' l n U) (S : St h₀ L loc own h) : RowsU (hideAll h' (L :: own.map (·.1))) l n U :=
  let ⟨z, r, a, b, c⟩ := x; ⟨r, a.hid (S.notin z), b, fun i hi => let ⟨p, q, u, y, v, z⟩ := c i hi; ⟨p, q, u, v.hid (S.notin y), z⟩⟩
noncomputable abbrev rowObjs (qs : List (Addr × List Value)) : List (Addr × Sort_) := qs.map fun q => (q.1, lst q.2)
theorem rows_snoc {qs : List (Addr × List Value)} {i : Nat} {U : Nat → List Value → Prop} {a : Addr} {us : List Value} (hl : qs.length = i) (hq : ∀ (j : Nat) q, qs.reverse[j]? = some q → U j q.2) (hu : U i us) : ∀ (j : Nat) q, ((a, us) :: qs).reverse[j]? = some q → U j q.2 := by
  intro j q hj
  rw [List.reverse_cons] at hj
  rcases snoc_get hj with hj | ⟨e, hj⟩
  · exact hq j q hj
  · rw [e, List.length_reverse, hl, ← hj]; exact hu
theorem rows_done {h h' : Heap} {D : Addr} {n : Nat} {U : Nat → List Value → Prop} {qs : List (Addr × List Value)} (hl : qs.length = n) (hq : ∀ (j : Nat) q, qs.reverse[j]? = some q → U j q.2) (nD : h.get? D = none) (lD : Is h' D (lst (qs.reverse.map fun q => Value.ref q.1)))
    (ho : ∀ p ∈ rowObjs qs, Is h' p.1 p.2 ∧ h.get? p.1 = none) : RowsN h h' D n U := by
  refine ⟨nD, qs.reverse.map (·.1), by rw [List.map_map]; exact lD, by rw [List.length_map, List.length_reverse, hl], fun i hi => ?_⟩
  have hi' : i < qs.reverse.length := by rw [List.length_reverse, hl]; exact hi
  have e := List.getElem?_eq_getElem hi'
  have hm : qs.reverse[i] ∈ qs := List.mem_reverse.mp (List.getElem_mem hi')
  obtain ⟨z1, z2⟩ := ho (qs.reverse[i].1, lst qs.reverse[i].2) (List.mem_map_of_mem (f := fun q : Addr × List Value => (q.1, lst q.2)) hm)
  exact ⟨qs.reverse[i].1, qs.reverse[i].2, by rw [List.getElem?_map, e]; rfl, z2, z1, hq i _ e⟩
theorem comp_rows {elt iter : Expr} {x : Str} {px pos : Pos} {scope : Scope} {cl : List (Str × Addr)} {Q : Value → Shared → Prop} {I : Addr} {fp wr : List Addr} {n : Nat} {P : Nat → Value → Prop} {Sx : Nat → Heap → Prop}
    (W : Walks PG w A I fp wr n P Sx) (e : EnvIs env sc L cs) (hk : scope.kind = .function) {h₁ h₂ : Heap} {tk₂ : Nat} (k₁₂ : Kp h₁ h₂) (hwr : ∀ b ∈ wr, h₁.get? b = none) (nd : wr.Nodup)
    (hex : ∀ i h, Sx i h → ∀ b ∈ wr, ∃ o, h.get? b = some o) (hfp : ∀ b ∈ fp, b ∈ wr ∨ ∃ o, h₁.get? b = some o) (hs : Sx 0 h₂) (hn : n ≤ 1000000)
    (U : Nat → List Value → Prop) (hcell : ∀ C, cellSorts C scope = []) (hx : (relabelS scope sc).names.lookup x = some .local)
    (turn : ∀ cenv C i v loc own h tk (Y : Value → Shared → Prop) (E' : Value → Shared → Prop), i < n → P i v → EnvIs cenv (relabelS scope sc) C (cellsFrom (C + 1) scope.names cl) → St h₁ C loc own h → loc.lookup x = some v →
      (∀ a us h' tk', h.get? a = none → Kp h h' → Is h' a (lst us) → U i us → Y (.ref a) (at_ s h' tk')) → wpAny (model PG w) A (eval elt cenv) Y E' (at_ s h tk))
    (done : ∀ D h' tk', Kp h₁ h' → RowsN h₁ h' D n U → Q (.ref D) (at_ s h' tk')) :
    wpAny (model PG w) A (newList []) (fun acc s₃ => wpAny (model PG w) A (newFunctionEnv scope env.globals cl [] env.qual none .none (some env)) (fun cenv s₄ =>
      codeAny (model PG w) A (.compStart (.ListComp elt [⟨.Name x px, iter, [], 0⟩] scope pos) 0 (.ref I) acc { cenv with scope := relabel scope env }) (compPost (model PG w) A E none Q acc cenv.locals) s₄) E s₃) E (at_ s h₂ tk₂) := by
  refine comp_goC W e hk k₁₂ hwr nd hex hfp hs hn (fun _ i ys objs => ∃ qs : List (Addr × List Value), objs = rowObjs qs ∧ ys = qs.reverse.map (fun q => Value.ref q.1) ∧ qs.length = i ∧ ∀ (j : Nat) q, qs.reverse[j]? = some q → U j q.2)
    (fun C => ⟨[], hcell C, rfl, rfl, fun j q hq => by simp at hq⟩) ?_ ?_
  · rintro cenv C D i v ys objs loc h tk fz Y N E' hi hP ⟨qs, rfl, rfl, hl, hq⟩ eC S hY hN
    refine wpAny_assign_Name (stl S eC hx fun h₃ tk₃ S₃ => ?_)
    refine wpAny_tests_nil ?_
    rw [if_pos rfl]
    refine turn cenv C i v _ _ h₃ tk₃ Y E' hi hP eC S₃ asl_self fun a us h' tk' na kp la hu => ?_
    have S₄ := S₃.more kp na la
    refine hY (.ref a) (rowObjs ((a, us) :: qs)) _ h' tk' ⟨(a, us) :: qs, rfl, by simp, by simp [hl], rows_snoc hl hq hu⟩ (S₄.perm (List.Perm.swap _ _ _))
  · rintro C D ys objs h' tk' ⟨qs, rfl, rfl, hl, hq⟩ _ nD kp lD ho _
    exact done D h' tk' kp (rows_done hl hq (none_of_kp k₁₂ nD) lD ho)
theorem comp_rowsC {elt iter : Expr} {x : Str} {px pos : Pos} {scope : Scope} {cl : List (Str × Addr)} {Q : Value → Shared → Prop} {I : Addr} {fp wr : List Addr} {n : Nat} {P : Nat → Value → Prop} {Sx : Nat → Heap → Prop}
    (W : Walks PG w A I fp wr n P Sx) (e : EnvIs env sc L cs) (hk : scope.kind = .function) {h₁ h₂ : Heap} {tk₂ : Nat} (k₁₂ : Kp h₁ h₂) (hwr : ∀ b ∈ wr, h₁.get? b = none) (nd : wr.Nodup)
    (hex : ∀ i h, Sx i h → ∀ b ∈ wr, ∃ o, h.get? b = some o) (hfp : ∀ b ∈ fp, b ∈ wr ∨ ∃ o, h₁.get? b = some o) (hs : Sx 0 h₂) (hn : n ≤ 1000000)
    (U : Nat → List Value → Prop) (hcell : ∀ C, cellSorts C scope = [(C + 1, cll none)]) (hx : (relabelS scope sc).names.lookup x = some .cell) (hc : ∀ C, (cellsFrom (C + 1) scope.names cl).lookup x = some (C + 1))
    (turn : ∀ cenv C i v loc own h tk (Y : Value → Shared → Prop) (E' : Value → Shared → Prop), i < n → P i v → EnvIs cenv (relabelS scope sc) C (cellsFrom (C + 1) scope.names cl) → St h₁ C loc own h → Is h (C + 1) (cll (some v)) →
      (∀ a us h' tk', h.get? a = none → Kp h h' → Is h' a (lst us) → U i us → Y (.ref a) (at_ s h' tk')) → wpAny (model PG w) A (eval elt cenv) Y E' (at_ s h tk))
    (done : ∀ D h' tk', Kp h₁ h' → RowsN h₁ h' D n U → Q (.ref D) (at_ s h' tk')) :
    wpAny (model PG w) A (newList []) (fun acc s₃ => wpAny (model PG w) A (newFunctionEnv scope env.globals cl [] env.qual none .none (some env)) (fun cenv s₄ =>
      codeAny (model PG w) A (.compStart (.ListComp elt [⟨.Name x px, iter, [], 0⟩] scope pos) 0 (.ref I) acc { cenv with scope := relabel scope env }) (compPost (model PG w) A E none Q acc cenv.locals) s₄) E s₃) E (at_ s h₂ tk₂) := by
  refine comp_goC W e hk k₁₂ hwr nd hex hfp hs hn (fun C i ys objs => ∃ (qs : List (Addr × List Value)) (v : Option Value), objs = (C + 1, cll v) :: rowObjs qs ∧ ys = qs.reverse.map (fun q => Value.ref q.1) ∧ qs.length = i ∧ ∀ (j : Nat) q, qs.reverse[j]? = some q → U j q.2)
    (fun C => ⟨[], none, hcell C, rfl, rfl, fun j q hq => by simp at hq⟩) ?_ ?_
  · rintro cenv C D i v ys objs loc h tk fz Y N E' hi hP ⟨qs, v₀, rfl, rfl, hl, hq⟩ eC S hY hN
    refine wpAny_assign_Name (stc S eC hx (hc C) 1 rfl fun h₃ S₃ => ?_)
    refine wpAny_tests_nil ?_
    rw [if_pos rfl]
    refine turn cenv C i v _ _ h₃ tk Y E' hi hP eC S₃ (S₃.at 1 rfl) fun a us h' tk' na kp la hu => ?_
    have S₄ := S₃.more kp na la
    have S₄ : St h₁ C loc ((a, lst us) :: (D, lst (qs.reverse.map fun q => Value.ref q.1)) :: (C + 1, cll (some v)) :: (rowObjs qs ++ fz)) h' := S₄
    refine hY (.ref a) ((C + 1, cll (some v)) :: rowObjs ((a, us) :: qs)) _ h' tk' ⟨(a, us) :: qs, some v, rfl, by simp, by simp [hl], rows_snoc hl hq hu⟩ (S₄.perm ?_)
    exact (List.Perm.cons _ (List.Perm.swap _ _ _)).trans (List.Perm.swap _ _ _)
  · rintro C D ys objs h' tk' ⟨qs, v₀, rfl, rfl, hl, hq⟩ _ nD kp lD ho _
    exact done D h' tk' kp (rows_done hl hq (none_of_kp k₁₂ nD) lD fun p hp => ho p (.tail _ hp))
theorem comp_rowsU {elt iter : Expr} {x y : Str} {px py pos spos : Pos} {scope : Scope} {cl : List (Str × Addr)} {Q : Flow → Shared → Prop}
    (S : St h₀ L loc own h) (e : EnvIs env sc L cs) (hk : scope.kind = .function) (hcl : closL cs scope.names [] = some cl) (hnames : ∀ y ∈ scope.names, y.2 = .local → scope.names.lookup y.1 = some .local) (hy : sc.names.lookup y = some .local)
    (hsw : swapsWith (.ListComp elt [⟨.Name x px, iter, [], 0⟩] scope pos) (some (.Name y py)) spos.line env = pure true)
    (hcell : ∀ C, cellSorts C scope = [(C + 1, cll none)]) (hx : (relabelS scope sc).names.lookup x = some .cell) (hc : ∀ C, (cellsFrom (C + 1) scope.names cl).lookup x = some (C + 1))
    (k : wpAny (model PG w) A (eval iter env) (fun xv s₁ => wpAny (model PG w) A (pyIter xv) (fun it s₂ => ∃ I fp wr n P Sx h₁ h₂ tk₂ U, it = .ref I ∧ s₂ = at_ s h₂ tk₂ ∧ Walks PG w A I fp wr n P Sx ∧ Kp h h₁ ∧ Kp h₁ h₂ ∧ (∀ b ∈ wr, h₁.get? b = none) ∧ wr.Nodup ∧
      (∀ i h, Sx i h → ∀ b ∈ wr, ∃ o, h.get? b = some o) ∧ (∀ b ∈ fp, b ∈ wr ∨ ∃ o, h₁.get? b = some o) ∧ Sx 0 h₂ ∧ n ≤ 1000000 ∧
      (∀ cenv C i v loc own h tk (Y : Value → Shared → Prop) (E' : Value → Shared → Prop), i < n → P i v → EnvIs cenv (relabelS scope sc) C (cellsFrom (C + 1) scope.names cl) → St h₁ C loc own h → Is h (C + 1) (cll (some v)) →
        (∀ a us h' tk', h.get? a = none → Kp h h' → Is h' a (lst us) → U i us → Y (.ref a) (at_ s h' tk')) → wpAny (model PG w) A (eval elt cenv) Y E' (at_ s h tk)) ∧
      (∀ D base' h' tk', Kp h₀ base' → St base' L (aset y (.ref D) loc) own h' → RowsU base' D n U → Q .next (at_ s h' tk'))) E s₁) E (at_ s h tk))
    (hs : ∀ x, foldedSetIterable iter env x = pure x := by intro _; rfl) :
    wpAny (model PG w) A (exec (.Assign [.Name y py] (.ListComp elt [⟨.Name x px, iter, [], 0⟩] scope pos) spos) env) Q E (at_ s h tk) := by
  rw [exec_Assign_Name_used _ _ _ _ hsw]
  refine wpAny_bind (wpAny_standAt (wpAny_bind ?_))
  show wpAny _ A (do let _ ← comprehension (.ListComp elt [⟨.Name x px, iter, [], 0⟩] scope pos) scope env _ (newList []) false (eval iter env) (some (assign (.Name y py) env))) _ _ (at_ s h tk)
  refine wpAny_bind (wpAny_mono (wpAny_comprehension_free (use := some (assign (.Name y py) env)) (Q := fun _ s' => Q .next s') rfl hs (closure_of e hcl) hk hnames
    (wpAny_mono k (fun xv s₁ h₁ => wpAny_mono h₁ (fun it s₂ h₂ => ?_) fun _ _ e => e) fun _ _ e => e)) (fun _ s' hq => wpAny_pure (wpAny_pure hq)) fun _ _ e => e)
  obtain ⟨I, fp, wr, n, P, Sx, h₁, h₂, tk₂, U, rfl, rfl, W, k₀₁, k₁₂, hwr, nd, hex, hfp, hs0, hn, turn, fin⟩ := h₂
  refine comp_goR (RR := fun acc C => compPost (model PG w) A E (some (assign (.Name y py) env)) (fun _ s' => Q .next s') acc C) W e hk k₁₂ hwr nd hex hfp hs0 hn (fun C i ys objs => ∃ (qs : List (Addr × List Value)) (v : Option Value), objs = (C + 1, cll v) :: rowObjs qs ∧ ys = qs.reverse.map (fun q => Value.ref q.1) ∧ qs.length = i ∧ ∀ (j : Nat) q, qs.reverse[j]? = some q → U j q.2)
    (fun C => ⟨[], none, hcell C, rfl, rfl, fun j q hq => by simp at hq⟩) ?_ ?_
  · rintro cenv C D i v ys objs loc h tk fz Y N E' hi hP ⟨qs, v₀, rfl, rfl, hl, hq⟩ eC S hY hN
    refine wpAny_assign_Name (stc S eC hx (hc C) 1 rfl fun h₃ S₃ => ?_)
    refine wpAny_tests_nil ?_
    rw [if_pos rfl]
    refine turn cenv C i v _ _ h₃ tk Y E' hi hP eC S₃ (S₃.at 1 rfl) fun a us h' tk' na kp la hu => ?_
    have S₄ := S₃.more kp na la
    have S₄ : St h₁ C loc ((a, lst us) :: (D, lst (qs.reverse.map fun q => Value.ref q.1)) :: (C + 1, cll (some v)) :: (rowObjs qs ++ fz)) h' := S₄
    refine hY (.ref a) ((C + 1, cll (some v)) :: rowObjs ((a, us) :: qs)) _ h' tk' ⟨(a, us) :: qs, some v, rfl, by simp, by simp [hl], rows_snoc hl hq hu⟩ (S₄.perm ?_)
    exact (List.Perm.cons _ (List.Perm.swap _ _ _)).trans (List.Perm.swap _ _ _)
  · rintro C D ys objs locC h' tk' ⟨qs, v₀, rfl, rfl, hl, hq⟩ hlen nD SC
    have kp : Kp h h' := k₀₁.trans SC.keep
    have nC : h.get? C = none := none_of_kp k₀₁ SC.new
    have hCh : Is h' C (fun _ => True) := let ⟨o, _, _, q, _⟩ := SC.ns; ⟨o, q, trivial⟩
    have hrows : RowsN h h' D n U := by
      refine rows_done hl hq (none_of_kp (k₀₁.trans k₁₂) nD) (SC.owns _ (.head _)) fun p hp => ?_
      exact ⟨SC.owns p (.tail _ (.tail _ hp)), none_of_kp k₀₁ (SC.fresh p (.tail _ (.tail _ hp))).1⟩
    have Sm := S.more kp nC hCh
    have S₁ := Sm.rebase
    have kb := Sm.rebase_kp
    have notC : ∀ p ∈ (D, lst (qs.reverse.map fun q => Value.ref q.1)) :: (C + 1, cll v₀) :: rowObjs qs, p.1 ≠ C := fun p hp => (SC.fresh p hp).2
    have hrb : RowsU (hideAll h' (L :: ((C, fun _ => True) :: own).map (·.1))) D n U := by
      obtain ⟨z, r, a, b, c⟩ := hrows
      have off : ∀ {a : Addr}, h.get? a = none → a ≠ C → a ∉ L :: ((C, fun _ => True) :: own).map (·.1) := fun {a} z ne hm => by
        rcases List.mem_cons.mp hm with q | hm
        · exact S.notin z (q ▸ .head _)
        rcases List.mem_cons.mp hm with q | hm
        · exact ne q
        · exact S.notin z (.tail _ hm)
      refine ⟨r, a.hid (off z (notC _ (.head _))), b, fun i hi => ?_⟩
      obtain ⟨p, q, u, y', v, z'⟩ := c i hi
      refine ⟨p, q, u, v.hid (off y' fun zz => ?_), z'⟩
      subst zz
      obtain ⟨_, ⟨es, ep, q1, q2, _⟩⟩ := SC.ns
      obtain ⟨o2, q3, m2, rfl⟩ := v
      have e1 := q1.symm.trans q3
      have e2 := congrArg (fun o : Option Obj => o.map (·.data)) e1
      simp only [Option.map_some, q2, Option.some.injEq] at e2
      cases e2
    generalize hideAll h' (L :: ((C, fun _ => True) :: own).map (·.1)) = base' at S₁ kb hrb
    show wpAny _ A (assign (.Name y py) env (.ref D)) _ _ _
    refine wpAny_assign_Name (stlS S₁ e hy fun h₃ tk₃ S₂ sb => ?_)
    have neLC : C ≠ L := (S₁.fresh (C, _) (.head _)).2
    have ns₃ : h₃.Ns C (fun x => locC.lookup x) := let ⟨o, es, ep, q, r⟩ := SC.ns; ⟨o, es, ep, sb C o neLC q, r⟩
    refine ⟨_, ns₃, fun h₄ hs₄ => ?_⟩
    have S₃ : St base' L (aset y (.ref D) loc) ([] ++ (anyAt [C] ++ own)) h₃ := S₂
    exact fin D base' h₄ tk₃ kb (St.gone S₃ fun b o hb q => (hs₄.2 b fun z => hb (by rw [z]; exact List.mem_singleton.mpr rfl)).trans q) hrb
theorem comp_vals {elt iter : Expr} {x : Str} {px pos : Pos} {scope : Scope} {cl : List (Str × Addr)} {Q : Value → Shared → Prop} {I : Addr} {fp wr : List Addr} {n : Nat} {P : Nat → Value → Prop} {Sx : Nat → Heap → Prop}
    (W : Walks PG w A I fp wr n P Sx) (e : EnvIs env sc L cs) (hk : scope.kind = .function) {h₁ h₂ : Heap} {tk₂ : Nat} (k₁₂ : Kp h₁ h₂) (hwr : ∀ b ∈ wr, h₁.get? b = none) (nd : wr.Nodup)
    (hex : ∀ i h, Sx i h → ∀ b ∈ wr, ∃ o, h.get? b = some o) (hfp : ∀ b ∈ fp, b ∈ wr ∨ ∃ o, h₁.get? b = some o) (hs : Sx 0 h₂) (hn : n ≤ 1000000)
    (V : Nat → Value → Prop) (hcell : ∀ C, cellSorts C scope = []) (hx : (relabelS scope sc).names.lookup x = some .local)
    (turn : ∀ cenv C i v loc own h tk (Y : Value → Shared → Prop) (E' : Value → Shared → Prop), i < n → P i v → EnvIs cenv (relabelS scope sc) C (cellsFrom (C + 1) scope.names cl) → St h₁ C loc own h → loc.lookup x = some v →
      (∀ y h' tk', Kp h h' → V i y → Y y (at_ s h' tk')) → wpAny (model PG w) A (eval elt cenv) Y E' (at_ s h tk))
    (done : ∀ D ys h' tk', Kp h₁ h' → h₁.get? D = none → Is h' D (lst ys) → ys.length = n → (∀ (j : Nat) y, ys[j]? = some y → V j y) → Q (.ref D) (at_ s h' tk')) :
    wpAny (model PG w) A (newList []) (fun acc s₃ => wpAny (model PG w) A (newFunctionEnv scope env.globals cl [] env.qual none .none (some env)) (fun cenv s₄ =>
      codeAny (model PG w) A (.compStart (.ListComp elt [⟨.Name x px, iter, [], 0⟩] scope pos) 0 (.ref I) acc { cenv with scope := relabel scope env }) (compPost (model PG w) A E none Q acc cenv.locals) s₄) E s₃) E (at_ s h₂ tk₂) := by
  refine comp_goC W e hk k₁₂ hwr nd hex hfp hs hn (fun _ i ys objs => objs = [] ∧ ys.length = i ∧ ∀ (j : Nat) y, ys[j]? = some y → V j y)
    (fun C => ⟨hcell C, rfl, fun j q hq => by simp at hq⟩) ?_ ?_
  · rintro cenv C D i v ys objs loc h tk fz Y N E' hi hP ⟨rfl, hl, hq⟩ eC S hY hN
    refine wpAny_assign_Name (stl S eC hx fun h₃ tk₃ S₃ => ?_)
    refine wpAny_tests_nil ?_
    rw [if_pos rfl]
    refine turn cenv C i v _ _ h₃ tk₃ Y E' hi hP eC S₃ asl_self fun y h' tk' kp hv => ?_
    refine hY y [] _ h' tk' ⟨rfl, by simp [hl], fun j z hz => ?_⟩ (S₃.pure kp)
    rcases snoc_get hz with hz | ⟨e, hz⟩
    · exact hq j z hz
    · rw [e, hl, ← hz]; exact hv
  · rintro C D ys objs h' tk' ⟨rfl, hl, hq⟩ _ nD kp lD _ _
    exact done D ys h' tk' kp (none_of_kp k₁₂ nD) lD hl hq
end
end Mine
end
section -- LawS0
open PySem PySem.W PyProof.Rows PySem.Spec PySem.Calls PySem.SeqAt
set_option Elab.async false
set_option maxRecDepth 100000
set_option maxHeartbeats 1000000
set_option pp.maxSteps 3000
set_option linter.unusedVariables false
namespace Mine
theorem ints_len {vs : List Value} {ns : List Int} (h : IntsAre vs ns) : vs.length = ns.length := by
  induction h with
  | nil => rfl
  | cons a b _ ih => simp [ih]
theorem ints_take {vs : List Value} {ns : List Int} (h : IntsAre vs ns) : ∀ k, IntsAre (vs.take k) (ns.take k) := by
  induction h with
  | nil => intro k; simp; exact .nil
  | cons a b _ ih =>
    intro k
    cases k with
    | zero => exact .nil
    | succ k => exact .cons a b (ih k)
theorem ints_drop {vs : List Value} {ns : List Int} (h : IntsAre vs ns) : ∀ k, IntsAre (vs.drop k) (ns.drop k) := by
  induction h with
  | nil => intro k; simp; exact .nil
  | cons a b h ih =>
    intro k
    cases k with
    | zero => exact .cons a b h
    | succ k => exact ih k
theorem ints_append {vs us : List Value} {ns ms : List Int} (h : IntsAre vs ns) (h' : IntsAre us ms) : IntsAre (vs ++ us) (ns ++ ms) := by
  induction h with
  | nil => exact h'
  | cons a b _ ih => exact .cons a b ih
theorem ints_get {vs : List Value} {ns : List Int} (h : IntsAre vs ns) : ∀ {i : Nat} {v : Value}, vs[i]? = some v → ∃ y t, ns[i]? = some y ∧ v = .int y t := by
  induction h with
  | nil => intro i v e; simp at e
  | cons a b _ ih =>
    intro i v e
    cases i with
    | zero => cases e; exact ⟨a, b, rfl, rfl⟩
    | succ i => exact ih e
theorem ints_of : ∀ (ys : List Value) (ns : List Int), ys.length = ns.length → (∀ (j : Nat) y, ys[j]? = some y → ∃ t, y = .int (ns.getD j 0) t) → IntsAre ys ns
  | [], [], _, _ => .nil
  | [], _ :: _, h, _ => nomatch h
  | _ :: _, [], h, _ => nomatch h
  | y :: ys, n :: ns, h, hv => by
    obtain ⟨t, e⟩ := hv 0 y rfl
    have e : y = .int n t := e
    subst e
    exact .cons n t (ints_of ys ns (Nat.succ.inj h) fun j z hz => hv (j + 1) z hz)
theorem pick24 (vs : List Value) : (slicePick vs.toArray (some 2) (some 4) none).toList = (vs.drop 2).take 2 := by
  have h := slicePick_plain vs.toArray (some ((2 : Nat) : Int)) (some ((4 : Nat) : Int))
  simp only [Option.elim, clipAt_nat] at h
  have h' : slicePick vs.toArray (some 2) (some 4) none = _ := h
  rw [h']
  simp only [List.size_toArray]
  match vs with
  | [] => simp
  | [_] => simp
  | [_, _] => simp
  | [_, _, _] => simp
  | a :: b :: c :: d :: r =>
    have e1 : min 4 (a :: b :: c :: d :: r).length = 4 := by simp only [List.length_cons]; omega
    have e2 : min 2 (a :: b :: c :: d :: r).length = 2 := by simp only [List.length_cons]; omega
    rw [e1, e2]
theorem pick02 (vs : List Value) : (slicePick vs.toArray none (some 2) none).toList = vs.take 2 := by
  have h : slicePick vs.toArray none (some 2) none = _ := slicePick_upto' vs.toArray 2
  rw [h]
section
variable {w : World} {A : Around} {E : Value → Shared → Prop} {s : Shared} {h : Heap} {tk : Nat} {env : Env} {L : Addr} {base : Heap} {loc : List (Str × Value)}
theorem slcLI {value : Expr} {lower upper : Option Expr} {p pos : Pos} {Q : Value → Shared → Prop}
    (k : wpAny (model PG w) A (eval value env) (fun o s₁ => wpAny (model PG w) A (evalPart lower env) (fun vl s₂ => wpAny (model PG w) A (evalPart upper env) (fun vu s₃ =>
      ∃ l vs lo hi h' tk', o = .ref l ∧ s₃ = at_ s h' tk' ∧ h'.IsList l (List.toArray vs) ∧ vs.length ≤ 1000000 ∧ IsPart vl lo ∧ IsPart vu hi ∧
        ∀ D h'', h'.get? D = none → Kp h' h'' → Is h'' D (lst (slicePick vs.toArray lo hi none).toList) → Q (.ref D) (at_ s h'' tk')) E s₂) E s₁) E (at_ s h tk))
    (ht : ∀ o r, letTemporaryGo value o r = pure () := by intro _ _; rfl) :
    wpAny (model PG w) A (eval (.Subscript value (.Slice lower upper none p) pos) env) Q E (at_ s h tk) := by
  refine wpAny_Subscript_list_slice (wpAny_mono k (fun o s₁ y => wpAny_mono y (fun vl s₂ z => wpAny_mono z (fun vu s₃ q => ?_) fun _ _ e => e) fun _ _ e => e) fun _ _ e => e) ht
  obtain ⟨l, vs, lo, hi, h', tk', rfl, rfl, hl, hn, pl, pu, hq⟩ := q
  refine ⟨l, vs.toArray, lo, hi, rfl, hl, by rw [List.size_toArray, sizeLine_eq]; omega, pl, pu, hq _ _ ?_ ((kp_push _ _).trans (kp_push _ _)) ?_⟩
  · exact Heap.get?_none_of_le (Nat.le_succ _)
  · have z := Heap.get?_push_size (h'.push { cls := .type "slice", data := .fields #[vl, vu, .none] }) (o := { cls := .type "list", data := .seq (slicePick vs.toArray lo hi none) }) rfl
    rw [Heap.size_push] at z
    exact ⟨_, z, 0, by rw [Array.toArray_toList]⟩
theorem isList_keeps {h h' : Heap} {a : Addr} {xs : Array Value} (x : h.IsList a xs) (k : Kp h h') : h'.IsList a xs := x.at fun o e => k _ _ e
theorem swaps_cell {sc : Scope} {cs : List (Str × Addr)} {elt : Expr} {g : List Comprehension} {scope : Scope} {pos p : Pos} {t : Str} {line : Nat} (e : EnvIs env sc L cs) (hk : sc.names.lookup t = some .cell) : swapsWith (.ListComp elt g scope pos) (some (.Name t p)) line env = pure false := by
  unfold swapsWith
  dsimp only
  rw [e.kind hk]
  have : (some NameKind.cell == some NameKind.local) = false := by decide
  rw [this]
  simp
theorem law_s0 {sc : Addr} {vs : List Value} {ns : List Int} {n : Nat} {Q : Flow → Shared → Prop} (S : St base L loc (lw L #[] #[] #[] none none none none none) h) (hsc : has loc "script" (.ref sc)) (hl : base.IsList sc vs.toArray) (hI : IntsAre vs ns) (hlen : ns.length ≤ 63)
    (hA : A.handled = none) (R : Rm n A) (e : EnvIs env lawScope L (lawCs L))
    (k : ∀ base' D mv h' tk', Kp base base' → St base' L loc (lw L #[] #[] #[] none none none none (some (.ref D))) h' → Is base' D (lst mv) → IntsAre mv (modesI ns) → Q .next (at_ s h' tk')) :
    wpAny (model PG w) A (exec (lawS 0) env) Q E (at_ s h tk) := by
  have vl := ints_len hI
  with_unfolding_all refine wpAny_Assign_Name ?_ (swaps_cell e rfl)
  refine comp_head (cl := []) e rfl rfl (by decide) ?_ (by intro _; rfl)
  refine wpAny_BinOp (wpAny_BinOp (slcLI (lo S e hsc (pt_none (pt_some (cint fun t1 k1 => ⟨sc, vs, none, some 2, h, k1, rfl, rfl, isList_keeps hl S.keep, by omega, .none, .int _ _, fun D₁ h₁ nD₁ k₁ lD₁ => ?_⟩))))))
  rw [pick02] at lD₁
  refine List_ (sp_int fun t2 k2 => sp_int fun t3 k3 => sp_int fun t4 k4 => sp_int fun t5 k5 => sp_nil (newL (by decide : 4 ≤ 1000000) fun D₂ h₂ nD₂ k₂ lD₂ => ?_))
  refine addL (lD₁.keeps k₂) lD₂ (by simp only [List.length_take, List.length_cons, List.length_nil]; omega) fun D₃ h₃ nD₃ k₃ lD₃ => ?_
  have S₃ := ((S.pure k₁).pure k₂).pure k₃
  refine slcLI (lo S₃ e hsc (pt_some (cint fun t6 k6 => pt_some (cint fun t7 k7 => ⟨sc, vs, some 2, some 4, h₃, k7, rfl, rfl, isList_keeps hl S₃.keep, by omega, .int _ _, .int _ _, fun D₄ h₄ nD₄ k₄ lD₄ => ?_⟩))))
  rw [pick24] at lD₄
  refine addL (lD₃.keeps k₄) lD₄ (by simp only [List.length_append, List.length_take, List.length_drop, List.length_cons, List.length_nil]; omega) fun D₅ h₅ nD₅ k₅ lD₅ => ?_
  have S₅ := (S₃.pure k₄).pure k₅
  have hsrc : IntsAre (vs.take 2 ++ [.int 35309 t2, .int 1005 t3, .int 33261 t4, .int 17407 t5] ++ (vs.drop 2).take 2) (ns.take 2 ++ [35309, 1005, 33261, 17407] ++ (ns.drop 2).take 2) :=
    ints_append (ints_append (ints_take hI 2) (.cons _ _ (.cons _ _ (.cons _ _ (.cons _ _ .nil))))) (ints_take (ints_drop hI 2) 2)
  have hsl := ints_len hsrc
  have hml := modesI_len ns
  have hmm : (modesI ns).length = (ns.take 2 ++ [35309, 1005, 33261, 17407] ++ (ns.drop 2).take 2).length := by unfold modesI; rw [List.length_map]
  generalize hxs : (ns.take 2 ++ [35309, 1005, 33261, 17407] ++ (ns.drop 2).take 2) = xs at hsrc hsl hmm
  generalize hus : (vs.take 2 ++ [.int 35309 t2, .int 1005 t3, .int 33261 t4, .int 17407 t5] ++ (vs.drop 2).take 2) = us at hsrc hsl lD₅
  have hmx : modesI ns = xs.map fun x => Int.fmod x 65536 := by rw [← hxs]; rfl
  refine iterL lD₅.list fun I h₆ nI k₆ hI₆ => ?_
  have hDI : D₅ ≠ I := fun z => by
    obtain ⟨o, q, _⟩ := lD₅
    rw [z, nI] at q; cases q
  refine comp_vals (Walks.list (prog := PG) (w := w) hA I D₅ hDI us.toArray) e rfl (h₁ := h₅) k₆ (fun b hb => by rw [List.mem_singleton.mp hb]; exact nI) (by simp) ?_ ?_ ⟨hI₆, (lD₅.keeps k₆).list⟩ (by rw [List.size_toArray]; omega)
    (fun i y => ∃ t, y = .int ((modesI ns).getD i 0) t) (fun C => rfl) rfl ?_ ?_
  · rintro i h' ⟨⟨o, q, _⟩, _⟩ b hb; rw [List.mem_singleton.mp hb]; exact ⟨o, q⟩
  · intro b hb
    simp only [List.mem_cons, List.not_mem_nil, or_false] at hb
    rcases hb with rfl | rfl
    · exact .inl (.head _)
    · obtain ⟨o, q, _⟩ := lD₅
      exact .inr ⟨o, q⟩
  · intro cenv C i v locC ownC h₇ tk₇ Y E' hi hv eC SC hx hY
    obtain ⟨x, tx, hxi, rfl⟩ := ints_get hsrc (by simpa using hv)
    refine wpAny_BinOp (lo SC eC hx (wpAny_BinOp (cint fun t8 k8 => cint fun t9 k9 => powI (by decide) (by decide) (by decide) fun t10 k10 => fmodI (by decide) fun t11 k11 => ?_)))
    refine hY _ _ _ Kp.rfl ⟨t11, ?_⟩
    rw [hmx, List.getD_eq_getElem?_getD, List.getElem?_map, hxi]
    rfl
  · intro D ys h₇ tk₇ kp nD lD hyl hys
    have S₇ := (S₅.pure kp).rebase
    have kb := (S₅.pure kp).rebase_kp
    have lDb : Is _ D (lst ys) := lD.hid (S₅.notin nD)
    refine sce (c := L + 1) (v₀ := none) S₇ e 7 fun h₈ S₈ => ?_
    refine k _ D ys h₈ tk₇ kb S₈ lDb (ints_of ys _ (by rw [hyl, List.size_toArray, hmm]; exact hsl) hys)
end
end Mine
end
section -- LawS1
open PySem PySem.W PyProof.Rows PySem.Spec PySem.Calls PySem.SeqAt
set_option Elab.async false
set_option maxRecDepth 100000
set_option maxHeartbeats 1000000
set_option pp.maxSteps 3000
set_option linter.unusedVariables false
namespace Mine
section
variable {w : World} {A : Around} {E : Value → Shared → Prop} {s : Shared} {h : Heap} {tk : Nat} {env : Env} {L : Addr} {base : Heap} {loc : List (Str × Value)}
theorem RowsU.rowsAt {h : Heap} {l : Addr} {ms : List Int} (x : RowsU h l ms.length fun i vs => StrsAre vs (SW (ms.getD i 0))) : RowsAt h l ms := by
  obtain ⟨r, a, b, c⟩ := x
  refine ⟨r, a, b, fun i m hm => ?_⟩
  obtain ⟨hi, q⟩ := List.getElem?_eq_some_iff.mp hm
  obtain ⟨p, vs, u, v, z⟩ := c i hi
  have e : ms.getD i 0 = m := by rw [List.getD_eq_getElem?_getD, hm]; rfl
  rw [e] at z
  exact ⟨p, vs, u, v, z⟩
theorem swaps2 {sc : Scope} {cs : List (Str × Addr)} {x y : Str} {px py tp p2 q1 q2 : Pos} {k k2 : Nat} {a b : Expr} {ga gb : List Comprehension} {sa sb : Scope} (e : EnvIs env sc L cs) (h1 : sc.names.lookup x = some .cell) (h2 : sc.names.lookup y = some .cell) :
    swappedStores [.Tuple [.Name x px, .Name y py] k tp] (.Tuple [.ListComp a ga sa q1, .ListComp b gb sb q2] k2 p2) env = pure none := by
  have c : (some NameKind.cell == some NameKind.local) = false := by decide
  unfold swappedStores
  dsimp only
  simp only [List.filterMap_cons, List.filterMap_nil, e.kind h1, e.kind h2, c, Bool.false_and, Bool.false_eq_true, if_false]
  simp
theorem walksL (hA : A.handled = none) {h : Heap} {l : Addr} {vs : List Value} (hl : Is h l (lst vs)) {Q : Value → Shared → Prop}
    (k : ∀ I h₁ (hne : l ≠ I), Kp h h₁ → Walks PG w A I [I, l] [I] vs.toArray.size (fun i v => vs.toArray[i]? = some v) (fun (i : Nat) (h : Heap) => h.IsListIter I l i ∧ h.IsList l vs.toArray) → (∀ b ∈ [I], h.get? b = none) →
      (∀ (i : Nat) (h' : Heap), (h'.IsListIter I l i ∧ h'.IsList l vs.toArray) → ∀ b ∈ [I], ∃ o, h'.get? b = some o) → (∀ b ∈ [I, l], b ∈ [I] ∨ ∃ o, h.get? b = some o) → (h₁.IsListIter I l 0 ∧ h₁.IsList l vs.toArray) → Q (.ref I) (at_ s h₁ tk)) :
    wpAny (model PG w) A (pyIter (.ref l)) Q E (at_ s h tk) := by
  refine iterL hl.list fun I h₁ nI k₁ hI => ?_
  have hne : l ≠ I := fun z => by
    obtain ⟨o, q, _⟩ := hl
    rw [z, nI] at q; cases q
  refine k I h₁ hne k₁ (Walks.list (prog := PG) (w := w) hA I l hne vs.toArray) (fun b hb => by rw [List.mem_singleton.mp hb]; exact nI) ?_ ?_ ⟨hI, (hl.keeps k₁).list⟩
  · rintro i h' ⟨⟨o, q, _⟩, _⟩ b hb; rw [List.mem_singleton.mp hb]; exact ⟨o, q⟩
  · intro b hb
    simp only [List.mem_cons, List.not_mem_nil, or_false] at hb
    rcases hb with rfl | rfl
    · exact .inl (.head _)
    · obtain ⟨o, q, _⟩ := hl
      exact .inr ⟨o, q⟩
theorem ints_at {vs : List Value} {ns : List Int} (h : IntsAre vs ns) {i : Nat} {v : Value} (e : vs.toArray[i]? = some v) : ∃ t, v = .int (ns.getD i 0) t ∧ ns[i]? = some (ns.getD i 0) := by
  obtain ⟨y, t, a, b⟩ := ints_get h (i := i) (by simpa using e)
  have z : ns.getD i 0 = y := by rw [List.getD_eq_getElem?_getD, a]; rfl
  exact ⟨t, by rw [z]; exact b, by rw [z]; exact a⟩
theorem law_s1 {D : Addr} {mv : List Value} {ms : List Int} {n : Nat} {Q : Flow → Shared → Prop} (S : St base L loc (lw L #[] #[] #[] none none none none (some (.ref D))) h) (hD : Is base D (lst mv)) (hI : IntsAre mv ms) (hlen : ms.length ≤ 8) (hms : ∀ m ∈ ms, ∃ n : Nat, m = (n : Int) ∧ n < 65536)
    (G : Gr w base) (hA : A.handled = none) (R : Rm (n + 2) A) (e : EnvIs env lawScope L (lawCs L))
    (k : ∀ base' rd st h' tk', Kp base base' → St base' L loc (lw L #[] #[] #[] none none (some (.ref st)) (some (.ref rd)) (some (.ref D))) h' → RowsAt base' rd ms → RowsAt base' st ms → Q .next (at_ s h' tk')) :
    wpAny (model PG w) A (exec (lawS 1) env) Q E (at_ s h tk) := by
  have vl := ints_len hI
  have hDh : Is h D (lst mv) := hD.keeps S.keep
  have hc1 : Is h (L + 1) (cll (some (.ref D))) := S.at 7 rfl
  have R1 : Rm (n + 1) A := R.le (Nat.le_succ _)
  with_unfolding_all refine Assign_Tuple (Tuple_ (sp_comp ?_)) ?_ (swaps2 e rfl rfl)
  rotate_left
  · rfl
  refine comp_head (cl := []) e rfl rfl (by decide) (ceI e hc1 (walksL hA hDh fun I h₁ hne k₁ W w1 w2 w3 w4 => ?_)) (by intro _; rfl)
  refine comp_rows W e rfl k₁ w1 (by simp) w2 w3 w4 (by rw [List.size_toArray]; omega) (fun i vs => StrsAre vs (SW (ms.getD i 0))) (fun C => rfl) rfl ?_ ?_
  · intro cenv C i v locC ownC h₂ tk₂ Y E' hi hv eC SC hx hY
    obtain ⟨tv, rfl, hmi⟩ := ints_at hI hv
    obtain ⟨m, em, hm⟩ := hms _ (List.mem_of_getElem? hmi)
    have GC : Gr w h₂ := G.keeps (S.keep.trans SC.keep)
    refine wpAny_Call_NameR (gl (.ref 103) GC eC (callW_f rfl rfl (sp_call (wpAny_Call_NameR (gl (.ref 61) GC eC (callW_f rfl rfl (sp_name (lo SC eC hx (sp_nil ⟨GC, ?_⟩))) h₂ GC)))) h₂ GC))
    refine ct_filemode GC R hA fun t₃ h₃ tk₃ k₃ => sp_nil ⟨GC.keeps k₃, ?_⟩
    rw [em]
    refine ct_read (GC.keeps k₃) R1 hA (sig_size m hm) (sig_ascii m hm) (sig_low m hm) fun D' us ss' h₄ tk₄ nD' k₄ lD' hus hperm hsort => ?_
    refine hY D' us h₄ tk₄ (none_of_kp k₃ nD') (k₃.trans k₄) lD' ?_
    have key : ss' = SW (m : Int) := SW_of_sorted hsort (hperm.trans (read_sig m hm))
    show StrsAre us (SW (ms.getD i 0))
    rw [em, ← key]; exact hus
  · intro rd h₂ tk₂ k₂ hrd
    have S₂ := (S.pure k₂).rebase
    have kb := (S.pure k₂).rebase_kp
    have hrd := hrd.base S
    generalize hb : hideAll h₂ (L :: (lw L #[] #[] #[] none none none none (some (.ref D))).map (·.1)) = base₂ at S₂ kb hrd
    have hDh₂ : Is h₂ D (lst mv) := hDh.keeps k₂
    have hc2 : Is h₂ (L + 1) (cll (some (.ref D))) := S₂.at 7 rfl
    refine sp_comp (comp_head (cl := []) e rfl rfl (by decide) (ceI e hc2 (walksL hA hDh₂ fun I h₃ hne k₃ W w1 w2 w3 w4 => ?_)) (by intro _; rfl))
    refine comp_rows W e rfl k₃ w1 (by simp) w2 w3 w4 (by rw [List.size_toArray]; omega) (fun i vs => StrsAre vs (SW (ms.getD i 0))) (fun C => rfl) rfl ?_ ?_
    · intro cenv C i v locC ownC h₄ tk₄ Y E' hi hv eC SC hx hY
      obtain ⟨tv, rfl, hmi⟩ := ints_at hI hv
      have GC : Gr w h₄ := G.keeps ((kb.trans S₂.keep).trans SC.keep)
      refine wpAny_Call_NameR (gl (.ref 108) GC eC (callW_f rfl rfl (sp_name (lo SC eC hx (sp_nil ⟨GC, ?_⟩))) h₄ GC))
      exact ct_set GC R1 hA fun D' us h₅ tk₅ nD' k₅ lD' hus => hY D' us h₅ tk₅ nD' k₅ lD' hus
    · intro st h₄ tk₄ k₄ hst
      have S₄ := (S₂.pure k₄).rebase
      have kb₄ := (S₂.pure k₄).rebase_kp
      have hst := hst.base S₂
      generalize hb₄ : hideAll h₄ (L :: (lw L #[] #[] #[] none none none none (some (.ref D))).map (·.1)) = base₄ at S₄ kb₄ hst
      have hrd₄ := hrd.keeps kb₄
      refine sp_nil (newT (by decide : 2 ≤ 1000000) fun T h₅ nT k₅ lT => ?_)
      obtain ⟨oT, qT, cT, nT', dT⟩ := lT
      refine wpAny_assign_Tuple (s := at_ s h₅ tk₄) hA ⟨oT, qT, cT, nT', dT⟩ rfl rfl fun h₆ hx₆ => ?_
      have S₆ := (S₄.pure k₅).pure (kp_ext hx₆)
      refine wpAny_assignInOrder_more (wpAny_assign_Name (sce (s := s) (tk := tk₄) (c := L + 2) (v₀ := none) S₆ e 6 fun h₇ S₇ => ?_))
      refine wpAny_assignInOrder_more (wpAny_assign_Name (sce (c := L + 3) (v₀ := none) S₇ e 5 fun h₈ S₈ => wpAny_assignInOrder_none ?_))
      have el : mv.toArray.size = ms.length := by rw [List.size_toArray, vl]
      rw [el] at hst hrd₄
      exact k base₄ rd st h₈ tk₄ (kb.trans kb₄) S₈ hrd₄.rowsAt hst.rowsAt
end
end Mine
end
section -- LawS2
open PySem PySem.W PyProof.Rows PySem.Spec PySem.Calls PySem.SeqAt
set_option Elab.async false
set_option maxRecDepth 100000
set_option maxHeartbeats 1000000
set_option pp.maxSteps 3000
set_option linter.unusedVariables false
namespace Mine
section
variable {w : World} {A : Around} {E : Value → Shared → Prop} {s : Shared} {h h' : Heap} {tk : Nat} {env : Env} {L : Addr} {base : Heap} {loc : List (Str × Value)} {own : List (Addr × Sort_)}
theorem St.kx1 {a : Addr} {P P' : Sort_} (S : St base L loc ((a, P) :: own) h) (k : Kx [L] [a] h h') (ha : Is h' a P') : St base L loc ((a, P') :: own) h' := by
  obtain ⟨oL, es, ep, hL, hLd, hLr⟩ := S.ns
  have fa := S.fresh (a, P) (.head _)
  have ap := S.apart
  rw [List.map_cons, List.nodup_cons] at ap
  refine ⟨fun b o e => k.1 b o (fun z => ?_) (fun z => ?_) (S.keep b o e), ?_, S.new, fun p hp => ?_, fun p hp => ?_, S.apart⟩
  · rw [List.mem_singleton.mp z, S.new] at e; cases e
  · have z' := List.mem_singleton.mp z
    rw [z', fa.1] at e; cases e
  · obtain ⟨sl, e⟩ := k.2 L (.head _) oL hL
    exact ⟨_, es, ep, e, hLd, hLr⟩
  · rcases List.mem_cons.mp hp with rfl | hp'
    · exact ha
    · obtain ⟨o, q, r⟩ := S.owns p (.tail _ hp')
      refine ⟨o, k.1 _ _ (fun z => (S.fresh p (.tail _ hp')).2 (List.mem_singleton.mp z)) (fun z => ap.1 ?_) q, r⟩
      have z' : p.1 = a := List.mem_singleton.mp z
      show a ∈ own.map (·.1)
      rw [← z']
      exact List.mem_map_of_mem hp'
  · rcases List.mem_cons.mp hp with rfl | hp'
    · exact fa
    · exact S.fresh p (.tail _ hp')
theorem St.hid_base (S : St base L loc own h) {l : List Addr} (hl : ∀ b ∈ l, b = L ∨ b ∈ own.map (·.1)) {g : Heap} (kg : Kp base g) : Kp base (hideAll g l) := fun b o e => by
  refine hideAll_get _ (kg b o e) fun hm => ?_
  rcases hl b hm with z | hm
  · rw [z, S.new] at e; cases e
  · obtain ⟨p, hp, z⟩ := List.mem_map.mp hm
    have := (S.fresh p hp).1
    rw [z, e] at this; cases this
theorem law_s2 {rd st : Addr} {ms : List Int} {n : Nat} {c5 c4 c1 : Option Value} {p2 p3 : Array Value} {Q : Flow → Shared → Prop} (FX : Facts ms) (S : St base L loc (lw L #[] p2 p3 c5 c4 (some (.ref st)) (some (.ref rd)) c1) h) (hlen : 1 ≤ ms.length ∧ ms.length ≤ 8)
    (hrd : RowsAt base rd ms) (hst : RowsAt base st ms)
    (G : Gr w base) (hA : A.handled = none) (R : Rm (n + 4) A) (e : EnvIs env lawScope L (lawCs L)) (F : Fk A env L [] (slots []))
    (k : ∀ ps h' tk', St base L loc (lw L ps p2 p3 c5 c4 (some (.ref st)) (some (.ref rd)) c1) h' → Q .next (at_ s h' tk')) :
    wpAny (model PG w) A (exec (lawS 2) env) Q E (at_ s h tk) := by
  have hG := G.keeps S.keep
  with_unfolding_all refine wpAny_If (wpAny_isTrue_Not (wpAny_isTrue_value (wpAny_Call_NameR (gl (.ref 130) hG e (callW_f rfl rfl (sp_name (ce S e 6 (sp_name (ce S e 5 (sp_nil ⟨hG, ?_⟩))))) h hG))) ?_))
  rotate_left
  · rfl
  have S' : St base L loc (lw L #[] p2 p3 c5 c4 (some (.ref st)) (some (.ref rd)) c1 ++ slots []) h := by
    have : lw L #[] p2 p3 c5 c4 (some (.ref st)) (some (.ref rd)) c1 ++ slots [] = lw L #[] p2 p3 c5 c4 (some (.ref st)) (some (.ref rd)) c1 := List.append_nil _
    rw [this]; exact S
  obtain ⟨frs, O, ek⟩ := Ou.of S' F (fun p hp => nomatch hp)
  have ek : frs.map (·.1) = [L] := ek
  have kb : Kp base (hideAll (hideAll h [L]) [127]) := S.hid_base (by simp) (S.hid_base (by simp) S.keep)
  obtain ⟨_, h127, rfl⟩ := S.at 0 rfl
  have n127 : (127 : Addr) ≠ L := (S.fresh (127, _) (.head _)).2
  refine ct_steps FX O (by rw [ek]; exact G.keeps kb) R hA h127 (by rw [ek]; simpa using n127) (by rw [ek]; exact hrd.keeps kb) (by rw [ek]; exact hst.keeps kb) (by omega) (by omega) fun h₁ tk₁ kx hps => ?_
  obtain ⟨ps, hps⟩ := hps
  rw [ek] at kx
  have S₁ := S.kx1 kx (P' := fun o => o = tabObj ps) ⟨_, hps, rfl⟩
  refine wpAny_truthy_bool ?_
  simp only [Bool.not_true, Bool.false_eq_true, if_false]
  exact wpAny_execs_nil (k ps h₁ tk₁ S₁)
end
end Mine
end
section -- LawS34
open PySem PySem.W PyProof.Rows PySem.Spec PySem.Calls PySem.SeqAt
set_option Elab.async false
set_option maxRecDepth 100000
set_option maxHeartbeats 1000000
set_option pp.maxSteps 3000
set_option linter.unusedVariables false
namespace Mine
section
variable {w : World} {A : Around} {E : Value → Shared → Prop} {s : Shared} {h h' : Heap} {tk : Nat} {env : Env} {L : Addr} {base : Heap} {loc : List (Str × Value)} {own : List (Addr × Sort_)}
noncomputable def rowU (ms : List Int) (i : Nat) (us : List Value) : Prop := ∃ t1 t2 t3, us = [.int ((SW (ms.getD i 0)).length) t1, .str (sig (ms.getD i 0)) t2, .int (i : Int) t3]
theorem walksN (hA : A.handled = none) {h : Heap} {n : Nat} {t : Tok} (hn : n ≤ 1000) {Q : Value → Shared → Prop}
    (k : ∀ I h₀ h₁ tk', Kp h h₀ → Kp h₀ h₁ → Walks PG w A I [I] [I] n (fun i v => ∃ t, v = .int (0 + i) t) (fun i h => IsRangeIter h I (0 + (i : Nat)) ((n : Int) - (i : Nat)) 1) → (∀ b ∈ [I], h₀.get? b = none) →
      (∀ (i : Nat) (h' : Heap), IsRangeIter h' I (0 + (i : Nat)) ((n : Int) - (i : Nat)) 1 → ∀ b ∈ [I], ∃ o, h'.get? b = some o) → IsRangeIter h₁ I (0 + ((0 : Nat) : Int)) ((n : Int) - ((0 : Nat) : Int)) 1 → Q (.ref I) (at_ s h₁ tk')) :
    wpAny (model PG w) A (call (.type "range") [.int n t]) (fun v s' => wpAny (model PG w) A (pyIter v) Q E s') E (at_ s h tk) := by
  refine range1 fun r h₀ tk' nr k₀ hr => iterR hr (by decide) (by omega) (by omega) fun I h₁ nI k₁ hI => ?_
  refine k I h₀ h₁ tk' k₀ k₁ (walksR (w := w) hA I 0 n) (fun b hb => by rw [List.mem_singleton.mp hb]; exact nI) ?_ (by simpa using hI)
  intro i h' q b hb
  rw [List.mem_singleton.mp hb]; exact ⟨_, q⟩
theorem law_s3 {D rs : Addr} {mv : List Value} {ms : List Int} {n : Nat} {c5 c4 c3 : Option Value} {p1 p2 p3 : Array Value} {Q : Flow → Shared → Prop} (S : St base L loc (lw L p1 p2 p3 c5 c4 c3 (some (.ref rs)) (some (.ref D))) h) (hD : Is base D (lst mv)) (hI : IntsAre mv ms) (hlen : ms.length ≤ 8) (hms : ∀ m ∈ ms, ∃ n : Nat, m = (n : Int) ∧ n < 65536)
    (hrs : RowsAt base rs ms) (G : Gr w base) (hA : A.handled = none) (R : Rm (n + 2) A) (e : EnvIs env lawScope L (lawCs L))
    (k : ∀ base' T h' tk', Kp base base' → St base' L loc (lw L p1 p2 p3 c5 (some (.ref T)) c3 (some (.ref rs)) (some (.ref D))) h' → RowsU base' T ms.length (rowU ms) → Q .next (at_ s h' tk')) :
    wpAny (model PG w) A (exec (lawS 3) env) Q E (at_ s h tk) := by
  have vl := ints_len hI
  have hG := G.keeps S.keep
  have hDh : Is h D (lst mv) := hD.keeps S.keep
  have hc1 : Is h (L + 1) (cll (some (.ref D))) := S.at 7 rfl
  have hcs : Is h (L + 2) (cll (some (.ref rs))) := S.at 6 rfl
  have R1 : Rm (n + 1) A := R.le (Nat.le_succ _)
  with_unfolding_all refine wpAny_Assign_Name ?_ (swaps_cell e rfl)
  refine comp_head (cl := [("read", L + 2), ("modes", L + 1)]) e rfl rfl (by decide) ?_ (by intro _; rfl)
  refine wpAny_Call_NameR (bl (.type "range") hG e (callW_t rfl (sp_call (wpAny_Call_NameR (bl (.builtin "len") hG e (callW_b rfl (sp_name (ceI e hc1 (sp_nil (lenL hDh (by omega) fun t1 k1 => sp_nil ?_)))))))))) 
  refine walksN hA (by omega) fun I h₁ h₂ tk₂ k₁ k₂ W w1 w2 w4 => ?_
  refine comp_rows W e rfl k₂ w1 (by simp) w2 (fun b hb => .inl hb) w4 (by omega) (rowU ms) (fun C => rfl) rfl ?_ ?_
  · rintro cenv C i v locC ownC h₃ tk₃ Y E' hi ⟨tv, rfl⟩ eC SC hx hY
    have hi' : i < ms.length := by omega
    have kc : Kp base h₃ := (S.keep.trans k₁).trans SC.keep
    have kh : Kp h h₃ := k₁.trans SC.keep
    have GC : Gr w h₃ := G.keeps kc
    have i0 : (0 + (i : Int)).toNat = i := by omega
    obtain ⟨vs', a, us, q1, q2, q3, q4, q5⟩ := hrs.at hi'
    have lw1 := SW_length (ms.getD i 0)
    have lus := strs_len q5
    have hmi : ms[i]? = some (ms.getD i 0) := by rw [List.getD_eq_getElem?_getD, List.getElem?_eq_getElem hi']; rfl
    obtain ⟨m, em, hm⟩ := hms _ (List.mem_of_getElem? hmi)
    obtain ⟨u, hu⟩ : ∃ u, mv[i]? = some u := ⟨_, List.getElem?_eq_getElem (by omega)⟩
    obtain ⟨y, tm, hy, rfl⟩ := ints_get hI hu
    rw [hmi] at hy
    cases hy
    refine List_ (sp_call (wpAny_Call_NameR (bl (.builtin "len") GC eC (callW_b rfl (sp_sub (Subscript_ (ceI eC (hcs.keeps kh) (lo SC eC hx (sub_list (v := .ref a) (q1.keeps kc).list (by omega) (by omega) (by rw [i0]; exact q3) (sp_nil (lenL (q4.keeps kc) (by omega) fun t4 k4 => ?_)) ?_)))))))))
    rotate_left
    · rfl
    refine sp_call (wpAny_Call_NameR (gl (.ref 61) GC eC (callW_f rfl rfl (sp_sub (Subscript_ (ceI eC (hc1.keeps kh) (lo SC eC hx (sub_list (v := .int (ms.getD i 0) tm) (hD.keeps kc).list (by omega) (by omega) (by rw [i0]; exact hu) (sp_nil ⟨GC, ?_⟩) ?_))))) h₃ GC)))
    rotate_left
    · rfl
    refine ct_filemode GC R hA fun t5 h₄ tk₄ k₄ => ?_
    refine sp_name (lo (SC.pure k₄) eC hx (sp_nil (newL (by decide : 3 ≤ 1000000) fun a' h₅ na' k₅ la' => ?_)))
    refine hY a' _ h₅ _ (none_of_kp k₄ na') (k₄.trans k₅) la' ⟨t4, t5, tv, ?_⟩
    rw [lus, Int.zero_add]
  · intro T h₃ tk₃ k₃ hT
    have hT' : RowsN h h₃ T mv.length (rowU ms) := ⟨none_of_kp k₁ hT.1, let ⟨r, a, b, c⟩ := hT.2; ⟨r, a, b, fun i hi => let ⟨p, q, u, z, v, y⟩ := c i hi; ⟨p, q, u, none_of_kp k₁ z, v, y⟩⟩⟩
    rw [vl] at hT'
    have S₃ := (S.pure (k₁.trans k₃)).rebase
    have kb := (S.pure (k₁.trans k₃)).rebase_kp
    have hTb := hT'.base S
    refine sce (c := L + 4) (v₀ := c4) S₃ e 4 fun h₄ S₄ => ?_
    exact k _ T h₄ tk₃ kb S₄ hTb
theorem law_s4 {D rs : Addr} {mv : List Value} {ms : List Int} {n : Nat} {c5 c4 c2 : Option Value} {p1 p2 p3 : Array Value} {Q : Flow → Shared → Prop} (S : St base L loc (lw L p1 p2 p3 c5 c4 (some (.ref rs)) c2 (some (.ref D))) h) (hD : Is base D (lst mv)) (hI : IntsAre mv ms) (hlen : ms.length ≤ 8) (hms : ∀ m ∈ ms, ∃ n : Nat, m = (n : Int) ∧ n < 65536)
    (hrs : RowsAt base rs ms) (G : Gr w base) (hA : A.handled = none) (R : Rm (n + 2) A) (e : EnvIs env lawScope L (lawCs L))
    (k : ∀ base' T h' tk', Kp base base' → St base' L loc (lw L p1 p2 p3 (some (.ref T)) c4 (some (.ref rs)) c2 (some (.ref D))) h' → RowsU base' T ms.length (rowU ms) → Q .next (at_ s h' tk')) :
    wpAny (model PG w) A (exec (lawS 4) env) Q E (at_ s h tk) := by
  have vl := ints_len hI
  have hG := G.keeps S.keep
  have hDh : Is h D (lst mv) := hD.keeps S.keep
  have hc1 : Is h (L + 1) (cll (some (.ref D))) := S.at 7 rfl
  have hcs : Is h (L + 3) (cll (some (.ref rs))) := S.at 5 rfl
  have R1 : Rm (n + 1) A := R.le (Nat.le_succ _)
  with_unfolding_all refine wpAny_Assign_Name ?_ (swaps_cell e rfl)
  refine comp_head (cl := [("sets", L + 3), ("modes", L + 1)]) e rfl rfl (by decide) ?_ (by intro _; rfl)
  refine wpAny_Call_NameR (bl (.type "range") hG e (callW_t rfl (sp_call (wpAny_Call_NameR (bl (.builtin "len") hG e (callW_b rfl (sp_name (ceI e hc1 (sp_nil (lenL hDh (by omega) fun t1 k1 => sp_nil ?_)))))))))) 
  refine walksN hA (by omega) fun I h₁ h₂ tk₂ k₁ k₂ W w1 w2 w4 => ?_
  refine comp_rows W e rfl k₂ w1 (by simp) w2 (fun b hb => .inl hb) w4 (by omega) (rowU ms) (fun C => rfl) rfl ?_ ?_
  · rintro cenv C i v locC ownC h₃ tk₃ Y E' hi ⟨tv, rfl⟩ eC SC hx hY
    have hi' : i < ms.length := by omega
    have kc : Kp base h₃ := (S.keep.trans k₁).trans SC.keep
    have kh : Kp h h₃ := k₁.trans SC.keep
    have GC : Gr w h₃ := G.keeps kc
    have i0 : (0 + (i : Int)).toNat = i := by omega
    obtain ⟨vs', a, us, q1, q2, q3, q4, q5⟩ := hrs.at hi'
    have lw1 := SW_length (ms.getD i 0)
    have lus := strs_len q5
    have hmi : ms[i]? = some (ms.getD i 0) := by rw [List.getD_eq_getElem?_getD, List.getElem?_eq_getElem hi']; rfl
    obtain ⟨m, em, hm⟩ := hms _ (List.mem_of_getElem? hmi)
    obtain ⟨u, hu⟩ : ∃ u, mv[i]? = some u := ⟨_, List.getElem?_eq_getElem (by omega)⟩
    obtain ⟨y, tm, hy, rfl⟩ := ints_get hI hu
    rw [hmi] at hy
    cases hy
    refine List_ (sp_call (wpAny_Call_NameR (bl (.builtin "len") GC eC (callW_b rfl (sp_sub (Subscript_ (ceI eC (hcs.keeps kh) (lo SC eC hx (sub_list (v := .ref a) (q1.keeps kc).list (by omega) (by omega) (by rw [i0]; exact q3) (sp_nil (lenL (q4.keeps kc) (by omega) fun t4 k4 => ?_)) ?_)))))))))
    rotate_left
    · rfl
    refine sp_call (wpAny_Call_NameR (gl (.ref 115) GC eC (callW_f rfl rfl (sp_sub (Subscript_ (ceI eC (hc1.keeps kh) (lo SC eC hx (sub_list (v := .int (ms.getD i 0) tm) (hD.keeps kc).list (by omega) (by omega) (by rw [i0]; exact hu) (sp_nil ⟨GC, ?_⟩) ?_))))) h₃ GC)))
    rotate_left
    · rfl
    refine ct_signs GC R1 hA fun t5 h₄ tk₄ k₄ => ?_
    refine sp_name (lo (SC.pure k₄) eC hx (sp_nil (newL (by decide : 3 ≤ 1000000) fun a' h₅ na' k₅ la' => ?_)))
    refine hY a' _ h₅ _ (none_of_kp k₄ na') (k₄.trans k₅) la' ⟨t4, t5, tv, ?_⟩
    rw [lus, Int.zero_add, em, sig_pref m hm]
  · intro T h₃ tk₃ k₃ hT
    have hT' : RowsN h h₃ T mv.length (rowU ms) := ⟨none_of_kp k₁ hT.1, let ⟨r, a, b, c⟩ := hT.2; ⟨r, a, b, fun i hi => let ⟨p, q, u, z, v, y⟩ := c i hi; ⟨p, q, u, none_of_kp k₁ z, v, y⟩⟩⟩
    rw [vl] at hT'
    have S₃ := (S.pure (k₁.trans k₃)).rebase
    have kb := (S.pure (k₁.trans k₃)).rebase_kp
    have hTb := hT'.base S
    refine sce (c := L + 5) (v₀ := c5) S₃ e 3 fun h₄ S₄ => ?_
    exact k _ T h₄ tk₃ kb S₄ hTb
end
end Mine
end
section -- LawS5
open PySem PySem.W PyProof.Rows PySem.Spec PySem.Calls PySem.SeqAt
set_option Elab.async false
set_option maxRecDepth 100000
set_option maxHeartbeats 1000000
set_option pp.maxSteps 3000
set_option linter.unusedVariables false
namespace Mine
noncomputable def prM (ms : List Int) (i : Nat) : Int × Str := ((SW (ms.getD i 0)).length, sig (ms.getD i 0))
section
variable {w : World} {A : Around} {E : Value → Shared → Prop} {s : Shared} {h h' : Heap} {tk : Nat} {env : Env} {L : Addr} {base : Heap} {loc : List (Str × Value)} {own : List (Addr × Sort_)}
theorem swaps_used {sc : Scope} {cs : List (Str × Addr)} {elt : Expr} {g : List Comprehension} {scope : Scope} {pos p : Pos} {t : Str} {line : Nat} (e : EnvIs env sc L cs) (hk : sc.names.lookup t = some .local) (hl : (p.line == pos.line) = true) (hn : (scope.names.any fun (n, k) => n == t && (k == .local || k == .cell)) = false) :
    swapsWith (.ListComp elt g scope pos) (some (.Name t p)) line env = pure true := by
  unfold swapsWith
  dsimp only
  have hb : (env.blockKind == .function) = true := by
    unfold Env.blockKind
    rw [e.scope, e.fn]
    rfl
  have c : (some NameKind.local == some NameKind.local) = true := by decide
  rw [e.kind hk, hb, c]
  have hp : (p.line == (Expr.ListComp elt g scope pos).pos.line) = true := hl
  rw [hp, hn]
  rfl
noncomputable def turnU (ms : List Int) (i : Nat) (us : List Value) : Prop := us.length = ms.length ∧ ∀ (j : Nat) y, us[j]? = some y → ∃ t, y = .int (cmp3 (prM ms i) (prM ms j)) t
theorem row_of {h : Heap} {refs : List Addr} {n : Nat} {U : Nat → List Value → Prop} (c : ∀ i, i < n → ∃ a vs, refs[i]? = some a ∧ Is h a (lst vs) ∧ U i vs) {i : Nat} {v : Value} (hi : i < n) (hv : (refs.map Value.ref).toArray[i]? = some v) : ∃ a vs, v = .ref a ∧ Is h a (lst vs) ∧ U i vs := by
  obtain ⟨a, q, e⟩ := refs_at hv
  obtain ⟨b, vs, q', l, u⟩ := c i hi
  rw [q'] at q
  cases q
  exact ⟨_, vs, e, l, u⟩
theorem law_s5 {T : Addr} {ms : List Int} {n : Nat} {c5 c3 c2 c1 : Option Value} {p1 p2 p3 : Array Value} {Q : Flow → Shared → Prop} (S : St base L loc (lw L p1 p2 p3 c5 (some (.ref T)) c3 c2 c1) h) (hT : RowsU base T ms.length (rowU ms)) (hlen : ms.length ≤ 8)
    (G : Gr w base) (hA : A.handled = none) (R : Rm (n + 2) A) (e : EnvIs env lawScope L (lawCs L))
    (k : ∀ base' U' h' tk', Kp base base' → St base' L (aset "turns" (.ref U') loc) (lw L p1 p2 p3 c5 (some (.ref T)) c3 c2 c1) h' → RowsU base' U' ms.length (turnU ms) → Q .next (at_ s h' tk')) :
    wpAny (model PG w) A (exec (lawS 5) env) Q E (at_ s h tk) := by
  obtain ⟨refs, lT, lr, rows⟩ := hT
  have hc4 : Is h (L + 4) (cll (some (.ref T))) := S.at 4 rfl
  have sz : (refs.map Value.ref).toArray.size = ms.length := by rw [List.size_toArray, List.length_map, lr]
  with_unfolding_all refine comp_rowsU (cl := [("things", L + 4)]) S e rfl rfl (by decide) rfl (swaps_used e rfl rfl rfl) (fun C => rfl) rfl (fun C => rfl) ?_ (by intro _; rfl)
  refine ceI e hc4 (walksL hA (lT.keeps S.keep) fun I h₁ hne k₁ W w1 w2 w3 w4 => ⟨I, _, _, _, _, _, h, h₁, _, turnU ms, rfl, rfl, W, Kp.rfl, k₁, w1, by simp, w2, w3, w4, by rw [sz]; omega, ?_, fun D base' h' tk' kb S' hD => k base' D h' tk' kb S' (by rw [sz] at hD; exact hD)⟩)
  intro cenv C i v locC ownC h₃ tk₃ Y E' hi hv eC SC hone hY
  rw [sz] at hi
  have k₃ : Kp base h₃ := S.keep.trans SC.keep
  obtain ⟨a, ua, rfl, la, t1, t2, t3, rfl⟩ := row_of rows hi hv
  refine comp_head (cl := [("one", C + 1)]) eC rfl rfl (by decide) (ceI eC (hc4.keeps SC.keep) (walksL hA (lT.keeps k₃) fun I' h₄ hne' k₄ W' w1' w2' w3' w4' => ?_)) (by intro _; rfl)
  refine comp_vals W' eC rfl k₄ w1' (by simp) w2' w3' w4' (by rw [sz]; omega) (fun j y => ∃ t, y = .int (cmp3 (prM ms i) (prM ms j)) t) (fun C => rfl) rfl ?_ ?_
  · intro cenv' C' j v' loc' own' h₅ tk₅ Y' E'' hj hv' eC' SC' hx' hY'
    rw [sz] at hj
    obtain ⟨b, ub, rfl, lb, u1, u2, u3, rfl⟩ := row_of rows hj hv'
    have k₅ : Kp base h₅ := k₃.trans SC'.keep
    have GC : Gr w h₅ := G.keeps k₅
    refine wpAny_Call_NameR (gl (.ref 98) GC eC' (callW_f rfl rfl (sp_sub (slcL (ceI eC' (hone.keeps SC'.keep) (pt_none (pt_some (cint fun x1 y1 => ⟨a, _, none, some 2, h₅, y1, rfl, rfl, la.keeps k₅, (by decide : 3 ≤ 1000000), .none, .int _ _, fun D₁ h₆ n₁ k₆ l₁ => ?_⟩)))))) h₅ GC))
    rw [pick02] at l₁
    refine sp_sub (slcL (lo (SC'.pure k₆) eC' hx' (pt_none (pt_some (cint fun x2 y2 => ⟨b, _, none, some 2, h₆, y2, rfl, rfl, lb.keeps (k₅.trans k₆), (by decide : 3 ≤ 1000000), .none, .int _ _, fun D₂ h₇ n₂ k₇ l₂ => sp_nil ⟨GC.keeps (k₆.trans k₇), ?_⟩⟩)))))
    rw [pick02] at l₂
    refine ct_cmp (a := prM ms i) (b := prM ms j) (GC.keeps (k₆.trans k₇)) R (l₁.keeps k₇) l₂ fun t' h₈ tk₈ k₈ => hY' _ h₈ tk₈ ((k₆.trans k₇).trans k₈) ⟨t', rfl⟩
  · intro D ys h₅ tk₅ kp nD lD hyl hys
    exact hY D ys h₅ tk₅ nD kp lD ⟨by rw [hyl, sz], hys⟩
end
end Mine
end
section -- LawS6
open PySem PySem.W PyProof.Rows PySem.Spec PySem.Calls PySem.SeqAt
set_option Elab.async false
set_option maxRecDepth 100000
set_option maxHeartbeats 1000000
set_option pp.maxSteps 3000
set_option linter.unusedVariables false
namespace Mine
theorem prLt_as {a b : Int × Str} (h : prLt a b = true) : prLt b a = false := by
  unfold prLt at h ⊢
  by_cases e : a.1 = b.1
  · rw [if_pos e] at h
    rw [if_pos e.symm]
    have h' := of_decide_eq_true h
    exact decide_eq_false (List.lt_asymm h')
  · rw [if_neg e] at h
    rw [if_neg (fun z => e z.symm)]
    have h' := of_decide_eq_true h
    exact decide_eq_false (by omega)
theorem prLt_nt {a b c : Int × Str} (h : prLt a b = false) (q : prLt b c = false) : prLt a c = false := by
  unfold prLt at h q ⊢
  by_cases e : a.1 = b.1
  · rw [if_pos e] at h
    have h' := of_decide_eq_false h
    by_cases e2 : b.1 = c.1
    · rw [if_pos e2] at q
      rw [if_pos (e.trans e2)]
      have q' := of_decide_eq_false q
      refine decide_eq_false fun z => ?_
      rw [List.not_lt] at h' q'
      exact absurd z (List.not_lt.mpr (List.le_trans q' h'))
    · rw [if_neg e2] at q
      rw [if_neg (by rw [e]; exact e2)]
      have q' := of_decide_eq_false q
      exact decide_eq_false (by rw [e]; exact q')
  · rw [if_neg e] at h
    have h' := of_decide_eq_false h
    by_cases e2 : b.1 = c.1
    · rw [if_neg (by rw [← e2]; exact e)]
      exact decide_eq_false (by rw [← e2]; exact h')
    · rw [if_neg e2] at q
      have q' := of_decide_eq_false q
      rw [if_neg (by omega)]
      exact decide_eq_false (by omega)
theorem cmp3_lt (a b : Int × Str) : decide (cmp3 a b < 0) = prLt a b := by
  unfold cmp3
  cases h : prLt a b with
  | true => rw [prLt_as h]; rfl
  | false => cases prLt b a <;> rfl
theorem prM_wk (ms : List Int) : Wk fun i j => decide (cmp3 (prM ms i) (prM ms j) < 0) where
  as := fun {a b} h => by
    rw [cmp3_lt] at h ⊢
    exact prLt_as h
  nt := fun {a b c} h q => by
    rw [cmp3_lt] at h q ⊢
    exact prLt_nt h q
section
variable {w : World} {A : Around} {E : Value → Shared → Prop} {s : Shared} {h h' : Heap} {tk : Nat} {env : Env} {L : Addr} {base : Heap} {loc : List (Str × Value)} {own : List (Addr × Sort_)}
theorem law_s6 {T : Addr} {refs : List Addr} {ms : List Int} {n : Nat} {c5 c3 c2 c1 : Option Value} {p1 : Array Value} {Q : Flow → Shared → Prop} (S : St base L loc (lw L p1 #[] #[] c5 (some (.ref T)) c3 c2 c1) h) (lT : Is base T (lst (refs.map Value.ref))) (lr : refs.length = ms.length)
    (rows : ∀ i, i < ms.length → ∃ a vs, refs[i]? = some a ∧ Is base a (lst vs) ∧ rowU ms i vs) (hlen : 2 ≤ ms.length ∧ ms.length ≤ 8) (hsys : ∃ o, base.get? sysModules = some o)
    (G : Gr w base) (hA : A.handled = none) (R : Rm (n + 6) A) (hd : A.depth ≤ 408) (hu : A.units ≤ 60) (e : EnvIs env lawScope L (lawCs L)) (hcode : env.code = .ref 134)
    (k : ∀ base' D (q : List Nat) p2 p3 h' tk', Kp base base' → St base' L (aset "row" (.ref D) loc) (lw L p1 p2 p3 c5 (some (.ref T)) c3 c2 c1) h' → Is base' D (lst (q.map fun i => (refs.map Value.ref).getD i .none)) → q.Perm (List.range ms.length) →
      q.Pairwise (Tl fun i j => decide (cmp3 (prM ms i) (prM ms j) < 0)) → Q .next (at_ s h' tk')) :
    wpAny (model PG w) A (exec (lawS 6) env) Q E (at_ s h tk) := by
  have hG := G.keeps S.keep
  have lv : (refs.map Value.ref).length = ms.length := by rw [List.length_map, lr]
  with_unfolding_all refine wpAny_Assign_Name (wpAny_Call_Name_kw (bl (.builtin "sorted") hG e (callWith_kw (sp_name (ceI e (S.at 4 rfl) (sp_nil (kws_cons ?_))))))) rfl
  refine wpAny_Call_NameR (gl (.ref 68) hG e (callW_f rfl rfl (sp_lam ?_) h hG))
  refine mkLam (c := 134) (P := 132) (ps := #[]) (clos := []) S e hcode hG rfl (by decide) (by decide) 2 rfl trivial rfl rfl rfl fun f c₁ ctv₁ pm₁ h₁ tk₁ S₁ kk₁ => sp_nil ⟨G.keeps S₁.keep, ?_⟩
  obtain ⟨_, h63, rfl⟩ := S₁.at 3 rfl
  obtain ⟨oL, es, ep, hL, hLd, hLr⟩ := id S₁.ns
  have n63 : (63 : Addr) ≠ L := (S₁.fresh (63, _) (.tail _ (.tail _ (.tail _ (.head _))))).2
  refine ct_ctk (n := n) (G.keeps (S₁.hid_base (by simp) S₁.keep)) (R.le (by omega)) hA hd hu h63 (let ⟨o, q⟩ := hsys; ⟨o, S₁.keep _ _ q⟩) fun C p ps h₂ tk₂ kc h63' x nw => ?_
  have S₂ := S₁.upd 3 rfl (h' := h₂) (P' := fun o => o = tabObj ps) (fun b o hb q => kc b o hb q) ⟨_, h63', rfl⟩
  refine kws_nil ?_
  show wpAny _ _ (call (.builtin "sorted") [.ref T] [(Str.ofString "key", .ref C)]) _ _ _
  have nL : L ∉ p.all C := fun hm => by
    rcases nw L hm with q | q
    · rw [q] at hL; cases hL
    · exact n63 q.symm
  obtain ⟨_, of, rfl⟩ := S₂.at 0 rfl
  have fL : f ≠ L := (S₂.fresh (f, _) (.head _)).2
  refine sortC (n := n + 3) (r := fun i j => cmp3 (prM ms i) (prM ms j)) (prM_wk ms) S₂ G R x nL (lT.keeps S₂.keep) (by rw [lv]; exact hlen.1) (by rw [lv]; omega) (fun v hv => by
    obtain ⟨a, _, rfl⟩ := List.mem_map.mp hv; rfl) of fL (fun i j hi hj A₁ h₃ tk₃ Q₁ E₁ kl RR hQ₁ => ?_) (fun D h₃ tk₃ q nD hDL kl lD qp qw => ?_)
  · have S₃ := S₂.kl kl
    have G₃ := G.keeps S₃.keep
    rw [lv] at hi hj
    obtain ⟨a, ua, qa, la, t1, t2, t3, rfl⟩ := rows i hi
    obtain ⟨b, ub, qb, lb, u1, u2, u3, rfl⟩ := rows j hj
    have ea : (refs.map Value.ref).getD i .none = .ref a := by rw [List.getD_eq_getElem?_getD, List.getElem?_map, qa]; rfl
    have eb : (refs.map Value.ref).getD j .none = .ref b := by rw [List.getD_eq_getElem?_getD, List.getElem?_map, qb]; rfl
    rw [ea, eb]
    refine enterL (binds := [("one", .ref a), ("two", .ref b)]) G₃ RR (kl.keep _ _ fL of) (codS.rec (S₃.at 1 rfl)) rfl (by decide) (locs rfl) rfl fun env' L' h₄ tk₄ Ef e' S₄ G₄ R₄ => ?_
    have k₄ : Kp base h₄ := S₃.keep.trans S₄.keep
    refine wpAny_Call_NameR (gl (.ref 98) G₄ e' (callW_f rfl rfl (sp_sub (slcL (lo0 (v := .ref a) S₄ e' (pt_none (pt_some (cint fun x1 y1 => ⟨a, _, none, some 2, h₄, y1, rfl, rfl, la.keeps k₄, (by decide : 3 ≤ 1000000), .none, .int _ _, fun D₁ h₆ n₁ k₆ l₁ => ?_⟩)))))) h₄ G₄))
    rw [pick02] at l₁
    refine sp_sub (slcL (lo0 (v := .ref b) (S₄.pure k₆) e' (pt_none (pt_some (cint fun x2 y2 => ⟨b, _, none, some 2, h₆, y2, rfl, rfl, lb.keeps (k₄.trans k₆), (by decide : 3 ≤ 1000000), .none, .int _ _, fun D₂ h₇ n₂ k₇ l₂ => sp_nil ⟨G₄.keeps (k₆.trans k₇), ?_⟩⟩)))))
    rw [pick02] at l₂
    refine ct_cmp (a := prM ms i) (b := prM ms j) (G₄.keeps (k₆.trans k₇)) R₄ (l₁.keeps k₇) l₂ fun t' h₈ tk₈ k₈ => hQ₁ _ _ _ (((S₄.keep.trans k₆).trans k₇).trans k₈)
  · have S₃ := S₂.kl kl
    have S₃ := S₃.drop (lw L p1 ps _ c5 (some (.ref T)) c3 c2 c1) (.cons _ (.cons _ (List.Sublist.refl _)))
    have off : D ∉ L :: (lw L p1 ps (#[] ++ #[rawInt 171, rawInt 0, .ref c₁]) c5 (some (.ref T)) c3 c2 c1).map (·.1) := fun hm => by
      refine S₂.notin nD ?_
      rcases List.mem_cons.mp hm with z | hm
      · exact z ▸ .head _
      · exact .tail _ (.tail _ (.tail _ hm))
    have S₄ := S₃.rebase
    have kb := S₃.rebase_kp
    have lDb := lD.hid (l := L :: (lw L p1 ps _ c5 (some (.ref T)) c3 c2 c1).map (·.1)) off
    rw [lv] at qp
    refine slo S₄ e fun h₅ tk₅ S₅ => ?_
    exact k _ D q ps _ h₅ tk₅ kb S₅ lDb qp qw
end
end Mine
end
section -- LawS7
open PySem PySem.W PyProof.Rows PySem.Spec PySem.Calls PySem.SeqAt
set_option Elab.async false
set_option maxRecDepth 100000
set_option maxHeartbeats 1000000
set_option pp.maxSteps 3000
set_option linter.unusedVariables false
namespace Mine
theorem perm_uniq {R : Nat → Nat → Prop} (as : ∀ a b, R a b → R b a → False) : ∀ {a b : List Nat}, a.Perm b → a.Pairwise R → b.Pairwise R → a = b
  | [], b, p, _, _ => by rw [List.nil_perm.mp p]
  | x :: a, [], p, _, _ => by have := p.length_eq; simp at this
  | x :: a, y :: b, p, ha, hb => by
    have e : x = y := by
      by_cases e : x = y
      · exact e
      · exfalso
        have hx : x ∈ b := by
          rcases List.mem_cons.mp (p.mem_iff.mp (.head _)) with z | z
          · exact absurd z e
          · exact z
        have hy : y ∈ a := by
          rcases List.mem_cons.mp (p.mem_iff.mpr (.head _)) with z | z
          · exact absurd z.symm e
          · exact z
        exact as x y ((List.pairwise_cons.mp ha).1 y hy) ((List.pairwise_cons.mp hb).1 x hx)
    subst e
    rw [perm_uniq as (List.Perm.cons_inv p) (List.pairwise_cons.mp ha).2 (List.pairwise_cons.mp hb).2]
theorem tl_as {lt : Nat → Nat → Bool} (W : Wk lt) (a b : Nat) (h : Tl lt a b) (q : Tl lt b a) : False := by
  rcases h with h | ⟨h, h'⟩
  · rcases q with q | ⟨q, _⟩
    · rw [W.as h] at q; cases q
    · rw [h] at q; cases q
  · rcases q with q | ⟨_, q'⟩
    · rw [q] at h; cases h
    · omega
noncomputable def lt3 (ms : List Int) (i j : Nat) : Bool := if prM ms i = prM ms j then decide (i < j) else prLt (prM ms i) (prM ms j)
theorem prLt_tot {a b : Int × Str} (h : prLt a b = false) (q : prLt b a = false) : a = b := by
  unfold prLt at h q
  by_cases e : a.1 = b.1
  · rw [if_pos e] at h
    rw [if_pos e.symm] at q
    have h' := of_decide_eq_false h
    have q' := of_decide_eq_false q
    exact Prod.ext e (str_ext (List.le_antisymm (List.not_lt.mp q') (List.not_lt.mp h')))
  · rw [if_neg e] at h
    rw [if_neg (fun z => e z.symm)] at q
    have h' := of_decide_eq_false h
    have q' := of_decide_eq_false q
    exact absurd (by omega) e
theorem prLt_irr (a : Int × Str) : prLt a a = false := by
  cases h : prLt a a with
  | false => rfl
  | true => rw [prLt_as h] at h; cases h
theorem lt3_wk (ms : List Int) : Wk (lt3 ms) where
  as := fun {a b} h => by
    unfold lt3 at h ⊢
    by_cases e : prM ms a = prM ms b
    · rw [if_pos e] at h
      rw [if_pos e.symm]
      have := of_decide_eq_true h
      exact decide_eq_false (by omega)
    · rw [if_neg e] at h
      rw [if_neg (fun z => e z.symm)]
      exact prLt_as h
  nt := fun {a b c} h q => by
    unfold lt3 at h q ⊢
    by_cases e : prM ms a = prM ms b
    · rw [if_pos e] at h
      have h' := of_decide_eq_false h
      by_cases e2 : prM ms b = prM ms c
      · rw [if_pos e2] at q
        have q' := of_decide_eq_false q
        rw [if_pos (e.trans e2)]
        exact decide_eq_false (by omega)
      · rw [if_neg e2] at q
        rw [if_neg (by rw [e]; exact e2), e]
        exact q
    · rw [if_neg e] at h
      by_cases e2 : prM ms b = prM ms c
      · rw [if_neg (by rw [← e2]; exact e), ← e2]
        exact h
      · rw [if_neg e2] at q
        by_cases e3 : prM ms a = prM ms c
        · rw [← e3] at q
          exact absurd (prLt_tot h q) e
        · rw [if_neg e3]
          exact prLt_nt h q
theorem tl_31 (ms : List Int) {i j : Nat} (h : Tl (lt3 ms) i j) : Tl (fun i j => decide (cmp3 (prM ms i) (prM ms j) < 0)) i j := by
  unfold Tl at h ⊢
  simp only [cmp3_lt]
  unfold lt3 at h
  by_cases e : prM ms i = prM ms j
  · rw [if_pos e, if_pos e.symm] at h
    right
    refine ⟨by rw [e]; exact prLt_irr _, ?_⟩
    rcases h with h | h
    · exact of_decide_eq_true h
    · exact h.2
  · rw [if_neg e, if_neg (fun z => e z.symm)] at h
    exact h
noncomputable def trE (ms : List Int) (i j : Nat) (k : Nat) : Bool := if k = 0 then (prM ms i).1 == (prM ms j).1 else if k = 1 then (prM ms i).2 == (prM ms j).2 else (i : Int) == (j : Int)
noncomputable def trC (ms : List Int) (i j : Nat) (k : Nat) : Bool := if k = 0 then decide ((prM ms i).1 < (prM ms j).1) else if k = 1 then decide ((prM ms i).2.cps.toList < (prM ms j).2.cps.toList) else decide ((i : Int) < (j : Int))
theorem lex3 (ms : List Int) (i j : Nat) : lexB (trE ms i j) (trC ms i j) false 3 0 = lt3 ms i j := by
  unfold lexB lexB lexB lexB lt3 trE trC prLt
  by_cases h1 : (prM ms i).1 = (prM ms j).1
  · by_cases h2 : (prM ms i).2 = (prM ms j).2
    · have e : prM ms i = prM ms j := Prod.ext h1 h2
      by_cases h3 : i = j
      · subst h3; simp
      · simp [e]
        intro hlt
        omega
    · have e : ¬ prM ms i = prM ms j := fun z => h2 (by rw [z])
      have : ((prM ms i).2 == (prM ms j).2) = false := by simpa using h2
      simp [e, h1, this]
  · have e : ¬ prM ms i = prM ms j := fun z => h1 (by rw [z])
    have : ((prM ms i).1 == (prM ms j).1) = false := by simpa using h1
    simp [e, h1, this]
section
variable {w : World} {A : Around} {E : Value → Shared → Prop} {s : Shared} {h h' : Heap} {tk : Nat} {env : Env} {L : Addr} {base : Heap} {loc : List (Str × Value)} {own : List (Addr × Sort_)}
theorem ltList {a b : Addr} {vs us : List Value} {e c : Nat → Bool} {Q : Bool → Shared → Prop} (ha : Is h a (lst vs)) (hb : Is h b (lst us)) (hu : A.units < cLine)
    (he : ∀ (A' : Around) j v u, vs[j]? = some v → us[j]? = some u → EqAt A' (at_ s h tk) v u (e j)) (hc : ∀ (A' : Around) j v u, vs[j]? = some v → us[j]? = some u → e j = false → RcB .Lt A' (at_ s h tk) v u (c j))
    (k : Q (lexB e c (vs.length < us.length) (min vs.length us.length) 0) (at_ s h tk)) : wpAny (model PG w) A (keyLt' oneType' (.ref a) (.ref b)) Q E (at_ s h tk) := by
  obtain ⟨_, ea, na, rfl⟩ := id ha
  obtain ⟨_, eb, nb, rfl⟩ := id hb
  rw [keyLt'_oneType, oneLt'_eq]
  simp only [if_true]
  refine wpAny_bind (wpAny_cRoomFor hu ?_)
  refine wpAny_bind (wpAny_callSpecialIfBound?_slot (T := "list") ha.list.typeIs F.slot_list_lt (call_meets (s := at_ s h tk) F.slot_list_lt ⟨_, ea, rfl⟩ F.entry_list_lt (F.args_list_lt_2 _ _) (list_ltAt a b vs.toArray us.toArray na nb none none #[] #[] e c)
    ⟨ea, eb, fun j h1 h2 => he _ j _ _ (by simp) (by simp), fun j h1 h2 => hc _ j _ _ (by simp) (by simp), ?_⟩))
  refine wpAny_truthy_bool ?_
  simpa using k
end
end Mine
end
section -- LawS8
open PySem PySem.W PyProof.Rows PySem.Spec PySem.Calls PySem.SeqAt
set_option Elab.async false
set_option maxRecDepth 100000
set_option maxHeartbeats 1000000
set_option pp.maxSteps 3000
set_option linter.unusedVariables false
namespace Mine
section
variable {w : World} {A : Around} {E : Value → Shared → Prop} {s : Shared} {h h' : Heap} {tk : Nat} {env : Env} {L : Addr} {base : Heap} {loc : List (Str × Value)} {own : List (Addr × Sort_)}
theorem eqAt_row {s : Shared} {a b : Addr} {vs us : List Value} {ms : List Int} {i : Nat} (ha : Is s.heap a (lst vs)) (hb : Is s.heap b (lst us)) (hv : rowU ms i vs) (hu' : rowU ms i us) (hu : A.units < cLine) : EqAt A s (.ref a) (.ref b) true := by
  obtain ⟨t1, t2, t3, rfl⟩ := hv
  obtain ⟨u1, u2, u3, rfl⟩ := hu'
  refine eqAt_lists ha hb rfl hu fun j v u hv hu' => ?_
  match j, hv, hu' with
  | 0, hv, hu' => cases hv; cases hu'; exact eqAt_int _ _ _
  | 1, hv, hu' => cases hv; cases hu'; exact eqAt_str _ _ _
  | 2, hv, hu' => cases hv; cases hu'; exact eqAt_int _ _ _
  | j + 3, hv, hu' => cases hv
theorem eqAt_turn {s : Shared} {a b : Addr} {vs us : List Value} {ms : List Int} {i : Nat} (ha : Is s.heap a (lst vs)) (hb : Is s.heap b (lst us)) (hv : turnU ms i vs) (hu' : turnU ms i us) (hu : A.units < cLine) : EqAt A s (.ref a) (.ref b) true := by
  refine eqAt_lists ha hb (hv.1.trans hu'.1.symm) hu fun j v u q r => ?_
  obtain ⟨t, rfl⟩ := hv.2 j v q
  obtain ⟨t', rfl⟩ := hu'.2 j u r
  exact eqAt_int _ _ _
theorem cmp3_gt {a b : Int × Str} (h : prLt b a = true) : cmp3 a b = 1 := by
  unfold cmp3; rw [h, prLt_as h]; rfl
theorem cmp3_ltv {a b : Int × Str} (h : prLt b a = false) (q : prLt a b = true) : cmp3 a b = -1 := by
  unfold cmp3; rw [h, q]; rfl
theorem cmp3_eqv {a b : Int × Str} (h : prLt b a = false) (q : prLt a b = false) : cmp3 a b = 0 := by
  unfold cmp3; rw [h, q]; rfl
theorem law_s7 {U TT RR : Addr} {refs refs2 : List Addr} {ms : List Int} {q : List Nat} {n : Nat} {c4 c3 c2 c1 : Option Value} {p1 p2 p3 : Array Value} {Q : Flow → Shared → Prop} (S : St base L loc (lw L p1 p2 p3 (some (.ref U)) c4 c3 c2 c1) h)
    (lr : refs.length = ms.length) (rows : ∀ i, i < ms.length → ∃ a vs, refs[i]? = some a ∧ Is base a (lst vs) ∧ rowU ms i vs)
    (lU : Is base U (lst (refs2.map Value.ref))) (lr2 : refs2.length = ms.length) (rows2 : ∀ i, i < ms.length → ∃ a vs, refs2[i]? = some a ∧ Is base a (lst vs) ∧ rowU ms i vs)
    (hturns : has loc "turns" (.ref TT)) (hrow : has loc "row" (.ref RR)) (hTT : RowsU base TT ms.length (turnU ms)) (lRR : Is base RR (lst (q.map fun i => (refs.map Value.ref).getD i .none))) (qp : q.Perm (List.range ms.length)) (qw : q.Pairwise (Tl fun i j => decide (cmp3 (prM ms i) (prM ms j) < 0)))
    (hlen : 2 ≤ ms.length ∧ ms.length ≤ 8) (G : Gr w base) (hA : A.handled = none) (R : Rm (n + 6) A) (e : EnvIs env lawScope L (lawCs L))
    (k : ∀ h' tk', St base L loc (lw L p1 p2 p3 (some (.ref U)) c4 c3 c2 c1) h' → Q (.ret (.bool true)) (at_ s h' tk')) :
    wpAny (model PG w) A (exec (lawS 7) env) Q E (at_ s h tk) := by
  have hun := R.units
  have hc5 : Is h (L + 5) (cll (some (.ref U))) := S.at 3 rfl
  have sz : (refs2.map Value.ref).toArray.size = ms.length := by rw [List.size_toArray, List.length_map, lr2]
  have lv2 : (refs2.map Value.ref).length = ms.length := by rw [List.length_map, lr2]
  with_unfolding_all refine wpAny_Return_some (wpAny_Compare1 (List_ (sp_name (lo S e hturns (sp_name (lo S e hrow (sp_nil (newL (by decide : 2 ≤ 1000000) fun E₁ h₁ nE₁ k₁ lE₁ => List_ (sp_comp ?_)))))))))
  have S₁ := S.pure k₁
  refine comp_head (cl := [("due", L + 5)]) e rfl rfl (by decide) (ceI e (hc5.keeps k₁) (walksL hA (lU.keeps S₁.keep) fun I h₂ hne k₂ W w1 w2 w3 w4 => ?_)) (by intro _; rfl)
  refine comp_rowsC W e rfl k₂ w1 (by simp) w2 w3 w4 (by rw [sz]; omega) (turnU ms) (fun C => rfl) rfl (fun C => rfl) ?_ ?_
  · intro cenv C i v locC ownC h₃ tk₃ Y E' hi hv eC SC hone hY
    rw [sz] at hi
    have k₃ : Kp base h₃ := S₁.keep.trans SC.keep
    obtain ⟨a, ua, rfl, la, t1, t2, t3, rfl⟩ := row_of rows2 hi hv
    refine comp_head (cl := [("one", C + 1)]) eC rfl rfl (by decide) (ceI eC ((hc5.keeps k₁).keeps SC.keep) (walksL hA (lU.keeps k₃) fun I' h₄ hne' k₄ W' w1' w2' w3' w4' => ?_)) (by intro _; rfl)
    refine comp_vals W' eC rfl k₄ w1' (by simp) w2' w3' w4' (by rw [sz]; omega) (fun j y => ∃ t, y = .int (cmp3 (prM ms i) (prM ms j)) t) (fun C => rfl) rfl ?_ ?_
    · intro cenv' C' j v' loc' own' h₅ tk₅ Y' E'' hj hv' eC' SC' hx' hY'
      rw [sz] at hj
      obtain ⟨b, ub, rfl, lb, u1, u2, u3, rfl⟩ := row_of rows2 hj hv'
      have k₅ : Kp base h₅ := k₃.trans SC'.keep
      have hu5 : A.units < cLine := by omega
      refine wpAny_IfExp (wpAny_isTrue_Compare1 (slcL (ceI eC' (hone.keeps SC'.keep) (pt_none (pt_some (cint fun x1 y1 => ⟨a, _, none, some 2, h₅, y1, rfl, rfl, la.keeps k₅, (by decide : 3 ≤ 1000000), .none, .int _ _, fun D₁ h₆ n₁ k₆ l₁ => ?_⟩))))) rfl)
      rw [pick02] at l₁
      refine slcL (lo (SC'.pure k₆) eC' hx' (pt_none (pt_some (cint fun x2 y2 => ⟨b, _, none, some 2, h₆, y2, rfl, rfl, lb.keeps (k₅.trans k₆), (by decide : 3 ≤ 1000000), .none, .int _ _, fun D₂ h₇ n₂ k₇ l₂ => ?_⟩))))
      rw [pick02] at l₂
      refine gtPR (a := prM ms i) (b := prM ms j) (l₁.keeps k₇) l₂ hu5 (wpAny_truthy_bool ?_)
      have k₅₇ := k₆.trans k₇
      cases g1 : prLt (prM ms j) (prM ms i) with
      | true =>
        rw [if_pos rfl]
        exact cint fun t' tk' => hY' _ h₇ tk' k₅₇ ⟨t', by rw [cmp3_gt g1]⟩
      | false =>
        rw [if_neg (by simp)]
        refine wpAny_IfExp (wpAny_isTrue_Compare1 (slcL (ceI eC' (hone.keeps (SC'.keep.trans k₅₇)) (pt_none (pt_some (cint fun x3 y3 => ⟨a, _, none, some 2, h₇, y3, rfl, rfl, la.keeps (k₅.trans k₅₇), (by decide : 3 ≤ 1000000), .none, .int _ _, fun D₃ h₈ n₃ k₈ l₃ => ?_⟩))))) rfl)
        rw [pick02] at l₃
        refine slcL (lo (SC'.pure (k₅₇.trans k₈)) eC' hx' (pt_none (pt_some (cint fun x4 y4 => ⟨b, _, none, some 2, h₈, y4, rfl, rfl, lb.keeps ((k₅.trans k₅₇).trans k₈), (by decide : 3 ≤ 1000000), .none, .int _ _, fun D₄ h₉ n₄ k₉ l₄ => ?_⟩))))
        rw [pick02] at l₄
        refine ltPR (a := prM ms i) (b := prM ms j) (l₃.keeps k₉) l₄ hu5 (wpAny_truthy_bool ?_)
        have k₅₉ := (k₅₇.trans k₈).trans k₉
        cases g2 : prLt (prM ms i) (prM ms j) with
        | true =>
          rw [if_pos rfl]
          exact wpAny_UnaryOp (cint fun t' tk' => negI fun t'' tk'' => hY' _ h₉ tk'' k₅₉ ⟨t'', by rw [cmp3_ltv g1 g2]⟩)
        | false =>
          rw [if_neg (by simp)]
          exact cint fun t' tk' => hY' _ h₉ tk' k₅₉ ⟨t', by rw [cmp3_eqv g1 g2]⟩
    · intro D ys h₅ tk₅ kp nD lD hyl hys
      exact hY D ys h₅ tk₅ nD kp lD ⟨by rw [hyl, sz], hys⟩
  · intro T2 h₂ tk₂ k₂ hT2
    rw [sz] at hT2
    have S₂ := S₁.pure k₂
    have G₂ := G.keeps S₂.keep
    refine sp_call (wpAny_Call_NameR (bl (.builtin "sorted") G₂ e (callW_b rfl (sp_name (ceI e ((hc5.keeps k₁).keeps k₂) (sp_nil ?_))))))
    have offL : ∀ a ∈ refs2, a ≠ L := fun a ha z => by
      obtain ⟨i, hi⟩ := List.getElem?_of_mem ha
      obtain ⟨lt, _⟩ := List.getElem?_eq_some_iff.mp hi
      obtain ⟨b, vs, q1, ⟨o, q2, _⟩, _⟩ := rows2 i (by rw [← lr2]; exact lt)
      rw [hi] at q1; cases q1
      rw [z, S.new] at q2; cases q2
    refine sortO (lt3_wk ms) S₂ (lU.keeps S₂.keep) (by rw [lv2]; exact hlen.1) (by rw [lv2]; omega) (fun v hv => ?_) (fun i j hi hj h₃ tk₃ Q' kl hQ' => ?_) (fun D h₃ tk₃ q' nD hDL kl lD qp' qw' => ?_)
    · obtain ⟨a, ha, rfl⟩ := List.mem_map.mp hv
      obtain ⟨i, hi⟩ := List.getElem?_of_mem ha
      obtain ⟨lt, _⟩ := List.getElem?_eq_some_iff.mp hi
      obtain ⟨b, vs, q1, ⟨o, q2, n', rfl⟩, _⟩ := rows2 i (by rw [← lr2]; exact lt)
      rw [hi] at q1; cases q1
      exact ⟨a, _, rfl, offL a ha, S₂.keep _ _ q2, rfl⟩
    · rw [lv2] at hi hj
      have S₃ := S₂.kl kl
      obtain ⟨a, ua, qa, la, t1, t2, t3, rfl⟩ := rows2 i hi
      obtain ⟨b, ub, qb, lb, u1, u2, u3, rfl⟩ := rows2 j hj
      have ea : (refs2.map Value.ref).getD i .none = .ref a := by rw [List.getD_eq_getElem?_getD, List.getElem?_map, qa]; rfl
      have eb : (refs2.map Value.ref).getD j .none = .ref b := by rw [List.getD_eq_getElem?_getD, List.getElem?_map, qb]; rfl
      rw [ea, eb]
      refine ltList (e := trE ms i j) (c := trC ms i j) (la.keeps S₃.keep) (lb.keeps S₃.keep) (by show A.units + 1 + 1 < cLine; omega) (fun A' j' v u hv hu => ?_) (fun A' j' v u hv hu _ => ?_) ?_
      · match j', hv, hu with
        | 0, hv, hu => cases hv; cases hu; exact EqAt.int_int _ _ _ _
        | 1, hv, hu => cases hv; cases hu; exact EqAt.str_str _ _ _ _
        | 2, hv, hu => cases hv; cases hu; exact EqAt.int_int _ _ _ _
        | j' + 3, hv, hu => cases hv
      · match j', hv, hu with
        | 0, hv, hu => cases hv; cases hu; exact RcB.lt_int _ _ _ _
        | 1, hv, hu => cases hv; cases hu; exact RcB.lt_str _ _ _ _
        | 2, hv, hu => cases hv; cases hu; exact RcB.lt_int _ _ _ _
        | j' + 3, hv, hu => cases hv
      · have := lex3 ms i j
        show Q' (lexB (trE ms i j) (trC ms i j) (decide (3 < 3)) 3 0) _
        have e3 : decide (3 < 3) = false := by decide
        rw [e3, this]
        exact hQ' h₃ tk₃ Kp.rfl
    · have S₃ := S₂.kl kl
      rw [lv2] at qp'
      have eq : q = q' := perm_uniq (tl_as (prM_wk ms)) (qp.trans qp'.symm) qw (qw'.imp fun z => tl_31 ms z)
      subst eq
      refine sp_nil (newL (by decide : 2 ≤ 1000000) fun E₂ h₄ nE₂ k₄ lE₂ => ?_)
      have k₃₄ : ∀ {a : Addr} {P : Sort_}, a ≠ L → Is h₂ a P → Is h₄ a P := fun {a P} ne x => (kl.is x ne).keeps k₄
      have offB : ∀ {a : Addr} {P : Sort_}, Is base a P → a ≠ L := fun {a P} x z => by
        obtain ⟨o, q2, _⟩ := x
        rw [z, S.new] at q2; cases q2
      have offN : ∀ {a : Addr}, h₁.get? a = none → a ≠ L := fun {a} x z => S₁.notin x (z ▸ .head _)
      have offE : ∀ {a : Addr}, h.get? a = none → a ≠ L := fun {a} x z => S.notin x (z ▸ .head _)
      have S₄ := S₃.pure k₄
      refine eqLL (k₃₄ (offE nE₁) (lE₁.keeps k₂)) lE₂ rfl (by omega) (fun j v u hv hu => ?_) (k h₄ _ S₄)
      match j, hv, hu with
      | 0, hv, hu =>
        cases hv; cases hu
        obtain ⟨r1, l1, n1, f1⟩ := hTT
        obtain ⟨z2, r2, l2, n2, f2⟩ := hT2
        refine eqAt_lists (l1.keeps S₄.keep) (k₃₄ (offN z2) l2) (by rw [List.length_map, List.length_map, n1, n2]) (by show A.units + 1 < cLine; omega) fun i v u hv hu => ?_
        obtain ⟨hi, _⟩ := List.getElem?_eq_some_iff.mp hv
        rw [List.length_map, n1] at hi
        obtain ⟨a, va, e1, i1, y1⟩ := f1 i hi
        obtain ⟨b, vb, e2, z3, i2, y2⟩ := f2 i hi
        rw [List.getElem?_map, e1] at hv
        rw [List.getElem?_map, e2] at hu
        cases hv; cases hu
        exact eqAt_turn (i1.keeps S₄.keep) (k₃₄ (offN z3) i2) y1 y2 (by show A.units + 1 + 1 < cLine; omega)
      | 1, hv, hu =>
        cases hv; cases hu
        refine eqAt_lists (lRR.keeps S₄.keep) (lD.keeps k₄) (by rw [List.length_map, List.length_map]) (by show A.units + 1 < cLine; omega) fun i v u hv hu => ?_
        rw [List.getElem?_map] at hv hu
        cases hqi : q[i]? with
        | none => rw [hqi] at hv; cases hv
        | some m =>
          rw [hqi] at hv hu
          have hm : m < ms.length := List.mem_range.mp (qp.mem_iff.mp (List.mem_of_getElem? hqi))
          obtain ⟨a, va, e1, i1, y1⟩ := rows m hm
          obtain ⟨b, vb, e2, i2, y2⟩ := rows2 m hm
          have ea : (refs.map Value.ref).getD m .none = .ref a := by rw [List.getD_eq_getElem?_getD, List.getElem?_map, e1]; rfl
          have eb : (refs2.map Value.ref).getD m .none = .ref b := by rw [List.getD_eq_getElem?_getD, List.getElem?_map, e2]; rfl
          rw [Option.map_some, ea] at hv
          rw [Option.map_some, eb] at hu
          cases hv; cases hu
          exact eqAt_row (i1.keeps S₄.keep) (i2.keeps S₄.keep) y1 y2 (by show A.units + 1 + 1 < cLine; omega)
      | j + 2, hv, hu => cases hv
end
end Mine
end
section -- LawF
open PySem PySem.W PyProof.Rows PySem.Spec PySem.Calls PySem.SeqAt
set_option Elab.async false
set_option maxRecDepth 100000
set_option maxHeartbeats 4000000
set_option pp.maxSteps 3000
set_option linter.unusedVariables false
namespace Mine
noncomputable def hid3 (h : Heap) : Heap := hideAll (hideAll (hideAll h [132]) [63]) [127]
section
variable {w : World} {A : Around} {E : Value → Shared → Prop} {s : Shared} {h h' : Heap} {tk : Nat}
theorem ct_law {sc : Addr} {vs : List Value} {ns : List Int} {n : Nat} {Q : Value → Shared → Prop} (O : Ou A h [] []) (G : Gr w (hid3 h)) (R : Rm (n + 7) A) (hA : A.handled = none) (hd : A.depth ≤ 407) (hu : A.units ≤ 57)
    (h127 : h.get? 127 = some (tabObj #[])) (h63 : h.get? 63 = some (tabObj #[])) (h132 : h.get? 132 = some (tabObj #[])) (hsys : ∃ o, (hid3 h).get? sysModules = some o)
    (hl : (hid3 h).IsList sc vs.toArray) (hI : IntsAre vs ns) (hlen : ns.length ≤ 63)
    (k : ∀ p1 p2 p3 h' tk', Kp (hid3 h) h' → h'.get? 127 = some (tabObj p1) → h'.get? 63 = some (tabObj p2) → h'.get? 132 = some (tabObj p3) → Q (.bool true) (at_ s h' tk')) :
    wpAny (model PG w) A (call (.ref 135) [.ref sc]) Q E (at_ s h tk) := by
  have kp3 : Kp (hid3 h) h := ((hid_kp _ _).trans (hid_kp _ _)).trans (hid_kp _ _)
  refine enterCX (binds := [("script", .ref sc)]) (body := [lawS 0, lawS 1, lawS 2, lawS 3, lawS 4, lawS 5, lawS 6, lawS 7]) O (G.keeps kp3) R rfl (by kernel_rfl) rfl rfl rfl (by decide) rfl rfl rfl rfl ?_
  intro env L h₁ tk₁ Qf Ef hQ e hcode F S R₁
  dsimp only at S
  have hA' : (A.deeper env).handled = none := hA
  have hcode : env.code = .ref 134 := hcode
  replace e : EnvIs env lawScope L (lawCs L) := e
  have S : St h L [("script", .ref sc)] [(L + 5, cll none), (L + 4, cll none), (L + 3, cll none), (L + 2, cll none), (L + 1, cll none)] h₁ := S
  have S := S.take1 (P := fun o => o = tabObj #[]) (a := 132) ⟨_, h132, rfl⟩
  have S := S.take1 (P := fun o => o = tabObj #[]) (a := 63) ⟨_, hideAll_get _ h63 (by decide), rfl⟩
  have S := S.take1 (P := fun o => o = tabObj #[]) (a := 127) ⟨_, hideAll_get _ (hideAll_get _ h127 (by decide)) (by decide), rfl⟩
  have S : St (hid3 h) L [("script", .ref sc)] (lw L #[] #[] #[] none none none none none) h₁ := S
  have ml := modesI_len ns
  have hms := modesI_nat ns
  have hd' : (A.deeper env).depth ≤ 408 := by show A.depth + 1 ≤ 408; omega
  have hu' : (A.deeper env).units ≤ 60 := by show A.units + 3 ≤ 60; omega
  refine wpAny_execs_cons (law_s0 S rfl hl hI hlen hA' R₁ e fun b₁ D mv h₂ tk₂ kb₁ S₂ lD hmv => ?_)
  dsimp only
  refine wpAny_execs_cons (law_s1 (n := n) S₂ lD hmv ml.2 hms (G.keeps kb₁) hA' (R₁.le (by omega)) e fun b₂ rd st h₃ tk₃ kb₂ S₃ hrd hst => ?_)
  dsimp only
  have kb02 := kb₁.trans kb₂
  refine wpAny_execs_cons (law_s2 (n := n) (facts _) S₃ ⟨by omega, ml.2⟩ hrd hst (G.keeps kb02) hA' (R₁.le (by omega)) e F fun ps h₄ tk₄ S₄ => ?_)
  dsimp only
  refine wpAny_execs_cons (law_s3 (n := n) S₄ (lD.keeps kb₂) hmv ml.2 hms hrd (G.keeps kb02) hA' (R₁.le (by omega)) e fun b₃ T h₅ tk₅ kb₃ S₅ hT => ?_)
  dsimp only
  have kb03 := kb02.trans kb₃
  refine wpAny_execs_cons (law_s4 (n := n) S₅ ((lD.keeps kb₂).keeps kb₃) hmv ml.2 hms (hst.keeps kb₃) (G.keeps kb03) hA' (R₁.le (by omega)) e fun b₄ U h₆ tk₆ kb₄ S₆ hU => ?_)
  dsimp only
  have kb04 := kb03.trans kb₄
  refine wpAny_execs_cons (law_s5 (n := n) S₆ (hT.keeps kb₄) ml.2 (G.keeps kb04) hA' (R₁.le (by omega)) e fun b₅ TT h₇ tk₇ kb₅ S₇ hTT => ?_)
  dsimp only
  have kb05 := kb04.trans kb₅
  obtain ⟨refs, lT, lr, rows⟩ := (hT.keeps kb₄).keeps kb₅
  refine wpAny_execs_cons (law_s6 S₇ lT lr rows ⟨by omega, ml.2⟩ (let ⟨o, q⟩ := hsys; ⟨o, kb05 _ _ q⟩) (G.keeps kb05) hA' R₁ hd' hu' e hcode fun b₆ RR q p2 p3 h₈ tk₈ kb₆ S₈ lRR qp qw => ?_)
  dsimp only
  have kb06 := kb05.trans kb₆
  obtain ⟨refs2, lU, lr2, rows2⟩ := (hU.keeps kb₅).keeps kb₆
  refine wpAny_execs_cons (law_s7 S₈ lr (fun i hi => let ⟨a, vs, x, y, z⟩ := rows i hi; ⟨a, vs, x, y.keeps kb₆, z⟩) lU lr2 rows2 (asl (x := "row") asl_self (by decide)) asl_self (hTT.keeps kb₆) lRR qp qw ⟨by omega, ml.2⟩ (G.keeps kb06) hA' R₁ e fun h₉ tk₉ S₉ => ?_)
  dsimp only
  obtain ⟨_, z1, rfl⟩ := S₉.at 0 rfl
  obtain ⟨_, z2, rfl⟩ := S₉.at 1 rfl
  obtain ⟨_, z3, rfl⟩ := S₉.at 2 rfl
  exact hQ _ _ (k _ _ _ h₉ tk₉ (kb06.trans S₉.keep) z1 z2 z3)
end
end Mine
end
section -- LawJ
open PySem PySem.W PyProof.Rows PySem.Spec PySem.Calls PySem.SeqAt
set_option Elab.async false
set_option maxRecDepth 100000
set_option maxHeartbeats 4000000
set_option pp.maxSteps 3000
set_option linter.unusedVariables false
namespace Mine
theorem hid3_get {h : Heap} {a : Addr} {o : Obj} (e : h.get? a = some o) (n1 : a ≠ 132) (n2 : a ≠ 63) (n3 : a ≠ 127) : (hid3 h).get? a = some o :=
  hideAll_get _ (hideAll_get _ (hideAll_get _ e (by simpa using n1)) (by simpa using n2)) (by simpa using n3)
theorem hid3_ns {h : Heap} {a : Addr} {m : Str → Option Value} (x : h.Ns a m) (n1 : a ≠ 132) (n2 : a ≠ 63) (n3 : a ≠ 127) : (hid3 h).Ns a m :=
  let ⟨o, es, ep, e, r⟩ := x; ⟨o, es, ep, hid3_get e n1 n2 n3, r⟩
theorem codeTab {w : World} {h : Heap} {c P : Addr} (X : (KF w.params).In h) (e : codeHdIn (KF w.params) c P = true) : isCodeTable h P := by
  obtain ⟨o, vs, file, tf, flags, tg, inF, text, tt, a1, a2, a3, a4, _⟩ := codeHd_of_K X e
  exact ⟨c, o, vs, a1, a2, a3, a4⟩
theorem finish {w : World} {s₁ : Shared} {mg mb : Str → Option Value} {loose : List Str} {mean : ExcName → Option Value} {cl : Str → Option Addr} {p : Program} {fa sc : Addr} {vs : List Value} {ns : List Int} {c : ClaimW} {args : List WData}
    (T : Top p loose mean mg mb s₁.heap) (hp : importsNone p = true) (KX : (KF w.params).In s₁.heap) (KT : ∀ P ∈ [127, 63, 132], s₁.heap.get? P = some (tabObj #[])) (hmg : mg "law" = some (.ref fa)) (hl : s₁.heap.IsList sc vs.toArray) (hI : IntsAre vs ns) (hlen : ¬ (63 : Int) < (ns.length : Int)) (hg : s₁.gens = #[])
    (hr : ∀ cls, c.raises args cls = false) (hpost : c.post args (.bool true) args = true) :
    wpAny (model PG w) callerA (call (.ref fa) [.ref sc]) (fun v s' => GoodWG c cl mean args s₁ (.ok (.ret v)) s') (fun e s' => GoodWG c cl mean args s₁ (.error e) s') s₁ := by
  have e1 : mg "law" = some (.ref 135) := mg_of KX T.g (by kernel_rfl)
  rw [hmg] at e1
  cases e1
  have nt : ∀ P ∈ [127, 63, 132], (KF w.params).lookup P = none := by
    intro P hP
    simp only [List.mem_cons, List.not_mem_nil, or_false] at hP
    rcases hP with rfl | rfl | rfl <;> rfl
  have G : Gr w (hid3 s₁.heap) := by
    refine ⟨fun a o e => ?_, ⟨mb, hid3_ns T.b (by decide) (by decide) (by decide), T.builtins⟩, ?_⟩
    · refine hid3_get (KX a o e) (fun z => ?_) (fun z => ?_) (fun z => ?_)
      · rw [z, nt 132 (by simp)] at e; cases e
      · rw [z, nt 63 (by simp)] at e; cases e
      · rw [z, nt 127 (by simp)] at e; cases e
    · obtain ⟨bm, ob, q1, q2, q3, q4, q5, q6⟩ := T.bmain
      have e4 : mg "__builtins__" = some (.ref 4) := mg_of KX T.g (by kernel_rfl)
      rw [q1] at e4
      cases e4
      exact ⟨ob, hid3_get q3 (by decide) (by decide) (by decide), q4, q5, q6⟩
  have hsys : ∃ o, (hid3 s₁.heap).get? sysModules = some o := by
    obtain ⟨mm, ⟨o, es, ep, e, _⟩, _⟩ := (T.seer hp).mods
    exact ⟨o, hid3_get e (by decide) (by decide) (by decide)⟩
  have lsc : (hid3 s₁.heap).IsList sc vs.toArray := by
    obtain ⟨o, e, hc, n, hd⟩ := hl
    have ne : ∀ P ∈ [127, 63, 132], sc ≠ P := fun P hP z => by
      rw [z, KT P hP] at e
      cases e
      cases hc
    exact ⟨o, hid3_get e (ne _ (by simp)) (ne _ (by simp)) (ne _ (by simp)), hc, n, hd⟩
  have O : Ou callerA s₁.heap [] [] := ⟨rfl, fun _ h => (nomatch h), fun _ h => (nomatch h), fun _ h => (nomatch h), List.nodup_nil⟩
  have R : Rm (0 + 7) callerA := ⟨by decide, by decide +kernel⟩
  refine ct_law (s := s₁) (h := s₁.heap) (tk := s₁.toks) O G R rfl (by decide) (by decide) (KT 127 (by simp)) (KT 63 (by simp)) (KT 132 (by simp)) hsys lsc hI (by omega) fun p1 p2 p3 h' tk' kp t1 t2 t3 => ?_
  refine ⟨.inl ⟨_, _, [], rfl, hr, ReadsW.bool true, hpost, fun _ => ⟨List.nodup_nil, fun _ hm => (nomatch hm)⟩⟩, ⟨fun b o e => ?_, fun b o e => ?_⟩, rfl, .of_eq hg⟩
  · have tab : ∀ P c' ps, s₁.heap.get? P = some (tabObj #[]) → codeHdIn (KF w.params) c' P = true → h'.get? P = some (tabObj ps) → b = P → asItWas s₁.heap h' b o := fun P c' ps z1 z2 z3 z4 => by
      subst z4
      rw [z1] at e
      cases e
      refine .inr (.inl ⟨codeTab KX z2, rfl, #[], ps, rfl, ?_⟩)
      rw [z3, Array.empty_append]
    by_cases b1 : b = 127
    · exact tab 127 129 p1 (KT 127 (by simp)) rfl t1 b1
    by_cases b2 : b = 63
    · exact tab 63 67 p2 (KT 63 (by simp)) rfl t2 b2
    by_cases b3 : b = 132
    · exact tab 132 134 p3 (KT 132 (by simp)) rfl t3 b3
    exact .inl (kp _ _ (hid3_get e b3 b2 b1))
  · by_cases b1 : b = 127
    · exact ⟨_, by rw [b1]; exact t1⟩
    by_cases b2 : b = 63
    · exact ⟨_, by rw [b2]; exact t2⟩
    by_cases b3 : b = 132
    · exact ⟨_, by rw [b3]; exact t3⟩
    exact ⟨o, kp _ _ (hid3_get e b3 b2 b1)⟩
end Mine
end
open PySem PySem.W PyProof.Rows
set_option Elab.async false
set_option maxRecDepth 100000
set_option pp.maxSteps 300
set_option pp.deepTerms false
set_option maxRecDepth 100000 in
set_option maxHeartbeats 8000000 in
theorem PySem.Challenge.cw_oc0122_01_holds : PySem.Challenge.rw_oc0122_01.Holds := by
  refine Mine.hd ?_
  intro w s₀ s₁ mg mb G Y fa o pm cd doc dV kV ho hd hcd hD hmg hg args vals as hpre hlay hrd hwl hlo
  have KX := km_in_of Y
  have KT := km_tabs_of Y
  refine Ground.open G ?_
  intro T B D TE TW
  wrow_args hpre hlay hrd hwl hlo
  skip
  all_goals exact Mine.finish T (by first | decide +kernel | kernel_rfl) KX KT hmg (by assumption) (by assumption) (by assumption) hg (fun _ => rfl) (by first | rfl | wrow_post)
