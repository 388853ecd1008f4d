import PyProof.Rows.All
import Wide.All
import OpenK.AllK
import Wide.FinOn
import PySem.Challenge.RW_ik0042_02
set_option Elab.async false
set_option autoImplicit false
set_option linter.all false
set_option compiler.extract_closed false
set_option maxHeartbeats 1000000

namespace Mine
open PySem PySem.W PyProof.Rows
theorem hide {p : Prop} (h : (p → False) → False) : p := Classical.byContradiction h

noncomputable def er : Value → Value
  | .int i _ => .int i 0
  | .float b _ => .float b 0
  | .str s _ => .str s 0
  | .bytes b _ => .bytes b 0
  | v => v
noncomputable abbrev vI (i : Int) : Value := .int i 0

@[simp] theorem er_none : er .none = .none := rfl
@[simp] theorem er_bool (b : Bool) : er (.bool b) = .bool b := rfl
@[simp] theorem er_int (i : Int) (t : Tok) : er (.int i t) = .int i 0 := rfl
@[simp] theorem er_ref (a : Addr) : er (.ref a) = .ref a := rfl
@[simp] theorem er_type (n : String) : er (.type n) = .type n := rfl
@[simp] theorem er_builtin (n : String) : er (.builtin n) = .builtin n := rfl
theorem er_eq_none {v : Value} (h : er v = .none) : v = .none := by cases v <;> simp [er] at h ⊢
theorem er_eq_bool {v : Value} {b : Bool} (h : er v = .bool b) : v = .bool b := by cases v <;> simp [er] at h ⊢; exact h
theorem er_eq_ref {v : Value} {a : Addr} (h : er v = .ref a) : v = .ref a := by cases v <;> simp [er] at h ⊢; exact h
theorem er_eq_int {v : Value} {i : Int} (h : er v = .int i 0) : ∃ t, v = .int i t := by cases v <;> simp [er] at h ⊢; exact h
theorem er_eq_type {v : Value} {n : String} (h : er v = .type n) : v = .type n := by cases v <;> simp [er] at h ⊢; exact h
theorem er_eq_builtin {v : Value} {n : String} (h : er v = .builtin n) : v = .builtin n := by cases v <;> simp [er] at h ⊢; exact h

inductive AO where
  | list (xs : List Value)
  | tup (xs : List Value)
  | dict (kvs : List (Int × Value)) (ep : Nat)
  | set (ks : List Int)
  | ns (fs : List (PySem.Str × Value))
  | inst (C : Addr) (d : Option Addr) (sl : List (Option Value))
  | flds (cls : Value) (vs : List Value)
  | exc (cls : Value) (tb : Value)
  | tb (fl : Value)
  | gen (i : Nat) (y : GenState)
  | loc (ls : List (PySem.Str × Value))
noncomputable def AO.isGen : AO → Bool
  | .gen .. => true
  | _ => false

structure Cfg where
  prog : Program
  w : World
  h₀ : Heap
  os : OsState

noncomputable def DictIs (C : Cfg) (es : Array DictEntry) (kvs : List (Int × Value)) : Prop :=
  KeysOf (intKind C.prog C.w) es ∧ (kvs.map (·.1)).Nodup ∧ ∃ raw, Pairs (intKind C.prog C.w) es.toList raw ∧ raw.map (fun kv => (kv.1, er kv.2)) = kvs

noncomputable def OR (C : Cfg) (o : Obj) : AO → Prop
  | .list xs => o.cls = .type "list" ∧ (o.dict = none ∧ o.slots = #[]) ∧ ∃ vs n, o.data = .seq vs n ∧ vs.toList.map er = xs
  | .tup xs => o.cls = .type "tuple" ∧ (o.dict = none ∧ o.slots = #[]) ∧ ∃ vs n, o.data = .seq vs n ∧ vs.toList.map er = xs
  | .dict kvs ep => o.ExactDict ∧ ∃ es, o.data = .dict es ep ∧ DictIs C es kvs
  | .set ks => o.ExactSet ∧ ∃ es ep t, o.data = .set es ep t ∧ ElemsOf (intKind C.prog C.w) es.toList ∧ (∀ k, decide (k ∈ ks) = true ↔ ∃ e ∈ es.toList, (intKind C.prog C.w).is k e.2 = true) ∧ es.size < scanBound ∧ t.fits es.size = true ∧ es.size ≤ ks.length
  | .ns fs => ∃ es n, o.data = .dict es n ∧ StrKeys es ∧ UniqKeys es ∧ ∀ y, (nsFind es y).map er = fs.lookup y
  | .inst K d sl => o.cls = .ref K ∧ o.dict = d ∧ o.data = .plain ∧ o.slots.toList.map (Option.map er) = sl
  | .flds cls vs => o.cls = cls ∧ (o.dict = none ∧ o.slots = #[]) ∧ ∃ ws, o.data = .fields ws ∧ ws.toList.map er = vs
  | .exc cls tb => o.cls = cls ∧ ∃ ws a0, o.data = .fields ws ∧ ws[0]? = some a0 ∧ ws[1]? = some tb
  | .tb fl => ∃ ws, o.data = .fields ws ∧ ws[3]? = some fl
  | .gen i _ => o.cls = .type "generator" ∧ o.slots = #[] ∧ ∃ nm qn, o.data = .fields #[.int i 0, nm, qn]
  | .loc ls => ∃ es ep, o.data = .dict es ep ∧ StrKeys es ∧ ∀ x v, (x, v) ∈ ls → (nsFind es x).map er = some v

noncomputable abbrev AH := List (Addr × AO)
noncomputable abbrev Lo := List (PySem.Str × Value)

noncomputable def AH.keys (H : AH) : List Addr := H.map (·.1)
noncomputable def AH.put (H : AH) (a : Addr) (o : AO) : AH := H.map fun p => if p.1 = a then (a, o) else p

theorem AH.keys_put (H : AH) (a : Addr) (o : AO) : (H.put a o).keys = H.keys := by
  simp only [AH.keys, AH.put, List.map_map]
  refine List.map_congr_left fun p _ => ?_
  simp only [Function.comp]
  split
  · rename_i h; exact h.symm
  · rfl

noncomputable def GensOK (gens : Array GenState) (H : AH) : Prop := (∀ a i y, (a, AO.gen i y) ∈ H → gens[i]? = some y) ∧ ∀ a a' i y y', (a, AO.gen i y) ∈ H → (a', AO.gen i y') ∈ H → a = a'
theorem GensOK.of {gens : Array GenState} {H H' : AH} (h : GensOK gens H) (hp : ∀ p ∈ H', p ∈ H ∨ p.2.isGen = false) : GensOK gens H' :=
  have in' : ∀ a i y, (a, AO.gen i y) ∈ H' → (a, AO.gen i y) ∈ H := fun a i y hm => (hp _ hm).elim id fun e => by cases e
  ⟨fun a i y hm => h.1 a i y (in' a i y hm), fun a a' i y y' h1 h2 => h.2 a a' i y y' (in' _ _ _ h1) (in' _ _ _ h2)⟩

structure Fx where
  env : Env
  W : List Addr

noncomputable def Own (fx : Fx) (x : PySem.Str) : Prop := fx.env.kindOf x = some .local ∨ (fx.env.kindOf x = some .cell ∧ ∀ c, fx.env.cells.lookup x = some c → c ∈ fx.W)

noncomputable def VarAt (env : Env) (h : Heap) (x : PySem.Str) (v : Value) : Prop :=
  (env.kindOf x = some .local ∧ ∃ mr r, h.Ns env.locals mr ∧ mr x = some r ∧ er r = v) ∨
  ((env.kindOf x = some .cell ∨ env.kindOf x = some .free) ∧ ∃ c r, env.cells.lookup x = some c ∧ h.IsCell c (some r) ∧ er r = v)

noncomputable def frameAddrs (A : Around) : List Addr := (A.frames.getD []).filterMap (·.frame)

structure St (C : Cfg) (A : Around) (fx : Fx) (m : Lo) (H : AH) (s : Shared) : Prop where
  base : ∀ b o, C.h₀.get? b = some o → s.heap.get? b = some o
  cells : ∀ p ∈ H, ∃ o, s.heap.get? p.1 = some o ∧ OR C o p.2
  low : (∃ o, C.h₀.get? mainGlobals = some o) ∧ ∃ o, C.h₀.get? sysModules = some o
  above : ∀ b, (b ∈ H.keys ∨ b ∈ fx.W) → C.h₀.get? b = none
  nodup : H.keys.Nodup
  apart : ∀ b ∈ fx.W, b ∉ H.keys
  kind : fx.env.scope.kind = .function
  glob : fx.env.globals = mainGlobals ∧ fx.env.builtins = builtinsNs
  locW : fx.env.locals ∈ fx.W
  wlt : ∀ b ∈ fx.W, ∃ o, s.heap.get? b = some o
  loc : ∃ mr, s.heap.Ns fx.env.locals mr
  cellW : ∀ x, fx.env.kindOf x = some .cell → ∃ c, fx.env.cells.lookup x = some c
  cellA : ∀ x c, fx.env.cells.lookup x = some c → (∃ r, s.heap.IsCell c r) ∧ c ∉ H.keys ∧ C.h₀.get? c = none ∧ c ≠ fx.env.locals
  cellI : ∀ x y c, fx.env.cells.lookup x = some c → fx.env.cells.lookup y = some c → x = y
  vars : ∀ x v, (x, v) ∈ m → VarAt fx.env s.heap x v
  frs : ∃ l, A.frames = some l ∧ s.heap.FunFrames C.h₀ l
  frA : ∀ b ∈ frameAddrs A, b ∉ H.keys
  gens : AllBare s.gens
  os : s.os = C.os
  gst : GensOK s.gens H

structure Ext (A : Around) (fx : Fx) (H : AH) (s : Shared) (H' : AH) (s' : Shared) : Prop where
  fresh : ∀ b ∈ H'.keys, b ∈ H.keys ∨ s.heap.get? b = none
  hid : ∀ b o, s.heap.get? b = some o → b ∉ H.keys → b ∉ fx.W → ∃ sl, s'.heap.get? b = some { o with slots := sl } ∧ (b ∉ frameAddrs A → sl = o.slots)
  wapart : ∀ b ∈ fx.W, b ∉ H'.keys

theorem Ext.refl' {C : Cfg} {A : Around} {fx : Fx} {m : Lo} {H : AH} {s : Shared} (S : St C A fx m H s) : Ext A fx H s H s :=
  ⟨fun _ h => .inl h, fun _ o e _ _ => ⟨o.slots, e, fun _ => rfl⟩, S.apart⟩

theorem Ext.trans {A : Around} {fx : Fx} {H H' H'' : AH} {s s' s'' : Shared} (x : Ext A fx H s H' s') (y : Ext A fx H' s' H'' s'') : Ext A fx H s H'' s'' := by
  have nk : ∀ b o, s.heap.get? b = some o → b ∉ H.keys → b ∉ H'.keys := fun b o e hk hm => by
    rcases x.fresh b hm with h | h
    · exact hk h
    · rw [e] at h; cases h
  refine ⟨fun b hb => ?_, fun b o e hk hw => ?_, y.wapart⟩
  · rcases y.fresh b hb with h | h
    · exact x.fresh b h
    · by_cases hk : b ∈ H.keys
      · exact .inl hk
      · refine .inr ?_
        cases q : s.heap.get? b with
        | none => rfl
        | some o =>
          refine hide fun z1 => ?_
          obtain ⟨sl, e1, _⟩ := x.hid b o q hk fun hw => y.wapart b hw hb
          refine z1 ?_
          rw [e1] at h; cases h
  · refine hide fun z2 => ?_
    obtain ⟨sl, e1, h1⟩ := x.hid b o e hk hw
    obtain ⟨sl', e2, h2⟩ := y.hid b _ e1 (nk b o e hk) hw
    refine z2 ?_
    refine ⟨sl', e2, fun hf => ?_⟩
    rw [h2 hf, ← h1 hf]

inductive Po {α : Type} (C : Cfg) (A : Around) (fx : Fx) (H : AH) (s : Shared) (Q : α → Lo → AH → Prop) (v : α) (s' : Shared) : Prop
  | mk (m' : Lo) (H' : AH) (S : St C A fx m' H' s') (E : Ext A fx H s H' s') (q : Q v m' H')
theorem Po.to {α β : Type} {C : Cfg} {A : Around} {fx : Fx} {H : AH} {s s' : Shared} {Q : α → Lo → AH → Prop} {Q' : β → Lo → AH → Prop} {v : α} {w : β} (h : Po C A fx H s Q v s') (k : ∀ m' H', Q v m' H' → Q' w m' H') : Po C A fx H s Q' w s' := by
  cases h with | mk m' H' S E q => exact ⟨m', H', S, E, k _ _ q⟩
theorem Po.after {α : Type} {C : Cfg} {A : Around} {fx : Fx} {H H₁ : AH} {s s₁ s' : Shared} {Q : α → Lo → AH → Prop} {v : α} (E : Ext A fx H s H₁ s₁) (h : Po C A fx H₁ s₁ Q v s') : Po C A fx H s Q v s' := by
  cases h with | mk m' H' S E' q => exact ⟨m', H', S, E.trans E', q⟩
noncomputable def AW {α : Type} (C : Cfg) (A : Around) (fx : Fx) (t : Sem α) (m : Lo) (H : AH) (Q : α → Lo → AH → Prop) (X : Value → Lo → AH → Prop) : Prop :=
  ∀ s, St C A fx m H s → wpAny (model C.prog C.w) A t (Po C A fx H s Q) (Po C A fx H s X) s

noncomputable abbrev noX : Value → Lo → AH → Prop := fun _ _ _ => False

section
variable {α β : Type} {C : Cfg} {A : Around} {fx : Fx} {m : Lo} {H : AH} {X : Value → Lo → AH → Prop}

theorem aw_pure {a : α} {Q : α → Lo → AH → Prop} (h : Q a m H) : AW C A fx (pure a) m H Q X :=
  fun s S => wpAny_pure ⟨m, H, S, Ext.refl' S, h⟩
theorem aw_throw {e : Value} {Q : α → Lo → AH → Prop} (h : X e m H) : AW C A fx (throw e : Sem α) m H Q X :=
  fun s S => wpAny_throw ⟨m, H, S, Ext.refl' S, h⟩
theorem aw_bind {t : Sem α} {f : α → Sem β} {Q : β → Lo → AH → Prop} (h : AW C A fx t m H (fun a m' H' => AW C A fx (f a) m' H' Q X) X) : AW C A fx (t >>= f) m H Q X := fun s S =>
  wpAny_bind (wpAny_mono (h s S) (fun a s' h' => by cases h' with | mk m' H' S' E' q => exact wpAny_mono (q s' S') (fun _ _ => .after E') fun _ _ => .after E') fun _ _ h' => h')
theorem aw_mono {t : Sem α} {Q Q' : α → Lo → AH → Prop} {X' : Value → Lo → AH → Prop} (h : AW C A fx t m H Q X) (hQ : ∀ a m' H', Q a m' H' → Q' a m' H') (hX : ∀ e m' H', X e m' H' → X' e m' H') : AW C A fx t m H Q' X' :=
  fun s S => wpAny_mono (h s S) (fun _ _ h' => h'.to (hQ _)) fun _ _ h' => h'.to (hX _)
theorem aw_attempt {t : Sem α} {Q : Except Value α → Lo → AH → Prop} (h : AW C A fx t m H (fun a => Q (.ok a)) (fun e => Q (.error e))) : AW C A fx t.attempt m H Q X :=
  fun s S => wpAny_attempt (wpAny_mono (h s S) (fun _ _ h' => h'.to fun _ _ q => q) fun _ _ h' => h'.to fun _ _ q => q)
theorem aw_holding {vs : List Value} {t : Sem α} {Q : α → Lo → AH → Prop} (h : AW C A fx t m H Q X) : AW C A fx (holding vs t) m H Q X :=
  fun s S => wpAny_holding (h s S)
theorem aw_rule {tag : String} {Q : Unit → Lo → AH → Prop} (h : Q () m H) : AW C A fx (rule tag) m H Q X := fun s S => wpAny_rule ⟨m, H, S, Ext.refl' S, h⟩
theorem aw_standAt {pos : Pos} {Q : Unit → Lo → AH → Prop} (h : Q () m H) : AW C A fx (standAt pos) m H Q X := fun s S => wpAny_standAt ⟨m, H, S, Ext.refl' S, h⟩
theorem aw_point {Q : Unit → Lo → AH → Prop} (h : Q () m H) : AW C A fx point m H Q X := fun s S => wpAny_point ⟨m, H, S, Ext.refl' S, h⟩
theorem aw_of_eq {t t' : Sem α} {Q : α → Lo → AH → Prop} (e : t = t') (h : AW C A fx t' m H Q X) : AW C A fx t m H Q X := e ▸ h
theorem aw_look {t : Sem α} {Q : α → Lo → AH → Prop} (a : α) (ht : ∀ s, St C A fx m H s → ∀ Q' E', Q' a s → wpAny (model C.prog C.w) A t Q' E' s) (h : Q a m H) : AW C A fx t m H Q X :=
  fun s S => ht s S _ _ ⟨m, H, S, Ext.refl' S, h⟩
end
end Mine

namespace Mine
open PySem PySem.W PyProof.Rows

theorem mem_keys {H : AH} {p : Addr × AO} (h : p ∈ H) : p.1 ∈ H.keys := List.mem_map_of_mem h

noncomputable def KeptS (A : Around) (o : Obj) (b : Addr) (h' : Heap) : Prop := ∃ sl, h'.get? b = some { o with slots := sl } ∧ (b ∉ frameAddrs A → sl = o.slots)
theorem KeptS.of_keep {A : Around} {o : Obj} {b : Addr} {h' : Heap} (e : h'.get? b = some o) : KeptS A o b h' := ⟨o.slots, e, fun _ => rfl⟩

theorem ns_kept {h h' : Heap} {a : Addr} {mr : PySem.Str → Option Value} (hn : h.Ns a mr) (hk : ∀ o, h.get? a = some o → ∃ sl, h'.get? a = some { o with slots := sl }) : h'.Ns a mr := by
  refine hide fun z3 => ?_
  obtain ⟨o, es, ep, ho, hd, r⟩ := hn
  obtain ⟨sl, e⟩ := hk o ho
  refine z3 ?_
  exact ⟨_, es, ep, e, hd, r⟩
theorem cell_kept {h h' : Heap} {c : Addr} {v : Option Value} (hc : h.IsCell c v) (hk : ∀ o, h.get? c = some o → ∃ sl, h'.get? c = some { o with slots := sl }) : h'.IsCell c v := by
  refine hide fun z4 => ?_
  obtain ⟨o, ho, hd⟩ := hc
  obtain ⟨sl, e⟩ := hk o ho
  refine z4 ?_
  exact ⟨_, e, hd⟩

section
variable {C : Cfg} {A : Around} {fx : Fx} {m : Lo} {H H' : AH} {s s' : Shared}

theorem none_of_le {h : Heap} {b : Addr} (hb : h.objs.size ≤ b) : h.get? b = none := by
  cases q : h.get? b with
  | none => rfl
  | some o => exact absurd (Heap.lt_size q) (Nat.not_lt.mpr hb)
theorem St.above' (S : St C A fx m H s) {b : Addr} (h : b ∈ H.keys ∨ b ∈ fx.W) : C.h₀.get? b = none := S.above b h
theorem St.base_none (S : St C A fx m H s) {b : Addr} (h : s.heap.get? b = none) : C.h₀.get? b = none := by
  cases q : C.h₀.get? b with
  | none => rfl
  | some o => rw [S.base b o q] at h; cases h
theorem St.low_lt (S : St C A fx m H s) {h : Heap} (hk : ∀ b o, C.h₀.get? b = some o → h.get? b = some o) : sysModules < h.objs.size := by
  refine hide fun z5 => ?_
  obtain ⟨_, o, ho⟩ := S.low
  refine z5 ?_
  exact Heap.lt_size (hk _ _ ho)
theorem St.key_lt (S : St C A fx m H s) {b : Addr} (h : b ∈ H.keys) : b < s.heap.objs.size := by
  refine hide fun z6 => ?_
  obtain ⟨p, hp, rfl⟩ := List.mem_map.mp h
  obtain ⟨o, ho, _⟩ := S.cells p hp
  refine z6 ?_
  exact Heap.lt_size ho
theorem St.get (S : St C A fx m H s) {a : Addr} {ao : AO} (h : (a, ao) ∈ H) : ∃ o, s.heap.get? a = some o ∧ OR C o ao := S.cells _ h

theorem vars_kept {env : Env} {h h' : Heap} {x : PySem.Str} {v : Value} (hv : VarAt env h x v)
    (hl : ∀ o, h.get? env.locals = some o → ∃ sl, h'.get? env.locals = some { o with slots := sl })
    (hc : ∀ c, env.cells.lookup x = some c → ∀ o, h.get? c = some o → ∃ sl, h'.get? c = some { o with slots := sl }) : VarAt env h' x v := by
  rcases hv with ⟨k, mr, r, hn, e1, e2⟩ | ⟨k, c, r, e1, e2, e3⟩
  · exact .inl ⟨k, mr, r, ns_kept hn hl, e1, e2⟩
  · exact .inr ⟨k, c, r, e1, cell_kept e2 (hc c e1), e3⟩

theorem St.upd (S : St C A fx m H s)
    (hk : ∀ b o, s.heap.get? b = some o → b ∉ H.keys → KeptS A o b s'.heap)
    (hc : ∀ p ∈ H', ∃ o, s'.heap.get? p.1 = some o ∧ OR C o p.2) (hf : ∀ b ∈ H'.keys, b ∈ H.keys ∨ s.heap.get? b = none) (hn : H'.keys.Nodup)
    (hg : AllBare s'.gens) (hos : s'.os = s.os) (hgs : GensOK s'.gens H') : St C A fx m H' s' ∧ Ext A fx H s H' s' := by
  have nk : ∀ b o, s.heap.get? b = some o → b ∉ H.keys → b ∉ H'.keys := fun b o e hh hm => by
    rcases hf b hm with h | h
    · exact hh h
    · rw [e] at h; cases h
  have locK : ∀ o, s.heap.get? fx.env.locals = some o → ∃ sl, s'.heap.get? fx.env.locals = some { o with slots := sl } := fun o e => by
    refine hide fun z7 => ?_
    obtain ⟨sl, e', _⟩ := hk _ _ e (S.apart _ S.locW)
    refine z7 ?_
    exact ⟨sl, e'⟩
  have cellK : ∀ x c, fx.env.cells.lookup x = some c → ∀ o, s.heap.get? c = some o → ∃ sl, s'.heap.get? c = some { o with slots := sl } := fun x c e o ho => by
    refine hide fun z8 => ?_
    obtain ⟨sl, e', _⟩ := hk _ _ ho (S.cellA x c e).2.1
    refine z8 ?_
    exact ⟨sl, e'⟩
  have wa : ∀ b ∈ fx.W, b ∉ H'.keys := fun b hb => by
    obtain ⟨o, e⟩ := S.wlt b hb
    exact nk b o e (S.apart b hb)
  refine ⟨⟨fun b o e => ?_, hc, S.low, fun b hb => ?_, hn, wa, S.kind, S.glob, S.locW, fun b hb => ?_, ?_, S.cellW, fun x c e => ?_, S.cellI, fun x v hv => ?_, ?_, fun b hb => ?_, hg, hos.trans S.os, hgs⟩,
    ⟨hf, fun b o e h1 _ => hk b o e h1, wa⟩⟩
  · have h1 : b ∉ H.keys := fun hm => by rw [S.above' (.inl hm)] at e; cases e
    have h2 : b ∉ frameAddrs A := fun hm => by
      refine hide fun z9 => ?_
      obtain ⟨l, hl, hF⟩ := S.frs
      refine z9 ?_
      unfold frameAddrs at hm
      rw [hl] at hm
      rw [(hF.mem hm).1] at e
      cases e
    refine hide fun z10 => ?_
    obtain ⟨sl, e', hs⟩ := hk b o (S.base b o e) h1
    refine z10 ?_
    rw [e', hs h2]
  · rcases hb with hb | hb
    · rcases hf b hb with h | h
      · exact S.above b (.inl h)
      · exact S.base_none h
    · exact S.above b (.inr hb)
  · refine hide fun z11 => ?_
    obtain ⟨o, e⟩ := S.wlt b hb
    obtain ⟨sl, e', _⟩ := hk b o e (S.apart b hb)
    refine z11 ?_
    exact ⟨_, e'⟩
  · obtain ⟨mr, hm⟩ := S.loc
    exact ⟨mr, ns_kept hm locK⟩
  · refine hide fun z12 => ?_
    obtain ⟨⟨r, hr⟩, h1, h2, h3⟩ := S.cellA x c e
    obtain ⟨o, ho, _⟩ := id hr
    refine z12 ?_
    exact ⟨⟨r, cell_kept hr (cellK x c e)⟩, nk c o ho h1, h2, h3⟩
  · exact vars_kept (S.vars x v hv) locK (cellK x)
  · refine hide fun z13 => ?_
    obtain ⟨l, hl, hF⟩ := S.frs
    refine z13 ?_
    refine ⟨l, hl, ?_⟩
    clear hc hf hn nk wa
    have hA : ∀ b ∈ l.filterMap (·.frame), b ∉ H.keys := fun b hb => S.frA b (by unfold frameAddrs; rw [hl]; exact hb)
    clear hl
    induction l with
    | nil => trivial
    | cons env rest ih =>
      refine hide fun z14 => ?_
      obtain ⟨h1, ⟨L, o, hL, hb, ho, hd⟩, hr⟩ := hF
      refine z14 ?_
      have hLk : L ∉ H.keys := hA L (by simp [hL])
      refine hide fun z15 => ?_
      obtain ⟨sl, e', _⟩ := hk L o ho hLk
      refine z15 ?_
      refine ⟨h1, ⟨L, _, hL, hb, e', fun vs => hd vs⟩, ih hr fun b hb => hA b ?_⟩
      rw [List.filterMap_cons, hL]
      exact List.mem_cons_of_mem _ hb
  · have h1 := S.frA b hb
    refine hide fun z16 => ?_
    obtain ⟨l, hl, hF⟩ := S.frs
    refine z16 ?_
    have hb' := hb
    unfold frameAddrs at hb'
    rw [hl] at hb'
    refine hide fun z17 => ?_
    obtain ⟨_, o, ho, _⟩ := hF.mem hb'
    refine z17 ?_
    exact nk b o ho h1

theorem St.keeps (S : St C A fx m H s) (hk : ∀ b o, s.heap.get? b = some o → s'.heap.get? b = some o) (hg : s'.gens = s.gens := by rfl) (hos : s'.os = s.os := by rfl) :
    St C A fx m H s' ∧ Ext A fx H s H s' :=
  S.upd (fun b o e _ => .of_keep (hk b o e)) (fun p hp => let ⟨o, h1, h2⟩ := S.cells p hp; ⟨o, hk _ _ h1, h2⟩) (fun _ h => .inl h) S.nodup (hg ▸ S.gens) hos (hg ▸ S.gst)
theorem St.toks (S : St C A fx m H s) (t : Nat) : St C A fx m H { s with toks := t } ∧ Ext A fx H s H { s with toks := t } := S.keeps fun _ _ e => e

theorem St.new (S : St C A fx m H s) {a : Addr} {o : Obj} {ao : AO} (ha : s.heap.get? a = none) (hk : ∀ b o, s.heap.get? b = some o → s'.heap.get? b = some o)
    (ho : s'.heap.get? a = some o) (hr : OR C o ao) (hg : s'.gens = s.gens := by rfl) (hos : s'.os = s.os := by rfl) (hao : ao.isGen = false := by rfl) : St C A fx m ((a, ao) :: H) s' ∧ Ext A fx H s ((a, ao) :: H) s' := by
  have hna : a ∉ H.keys := fun hm => by
    refine hide fun z18 => ?_
    obtain ⟨p, hp, rfl⟩ := List.mem_map.mp hm
    obtain ⟨o, ho, _⟩ := S.cells p hp
    refine z18 ?_
    rw [ho] at ha; cases ha
  refine S.upd (fun b o e _ => .of_keep (hk b o e)) (fun p hp => ?_) (fun b hb => ?_) ?_ (hg ▸ S.gens) hos (hg ▸ S.gst.of fun p hp => (List.mem_cons.mp hp).elim (fun e => .inr (e ▸ hao)) .inl)
  · rcases List.mem_cons.mp hp with rfl | hp
    · exact ⟨o, ho, hr⟩
    · refine hide fun z19 => ?_
      obtain ⟨o', h1, h2⟩ := S.cells p hp
      refine z19 ?_
      exact ⟨o', hk _ _ h1, h2⟩
  · rcases List.mem_cons.mp hb with rfl | hb
    · exact .inr ha
    · exact .inl hb
  · exact List.nodup_cons.mpr ⟨hna, S.nodup⟩
theorem St.push (S : St C A fx m H s) {o : Obj} {ao : AO} (hr : OR C o ao) (hf : o.isFreed = false := by rfl) (hao : ao.isGen = false := by rfl) :
    St C A fx m ((s.heap.objs.size, ao) :: H) { s with heap := s.heap.push o } ∧ Ext A fx H s ((s.heap.objs.size, ao) :: H) { s with heap := s.heap.push o } :=
  S.new (none_of_le (Nat.le_refl _)) (fun b o' e => Heap.get?_push_of_some _ e) (Heap.get?_push_size _ hf) hr rfl rfl hao

theorem mem_put {H : AH} {a : Addr} {o : AO} {p : Addr × AO} (hp : p ∈ H.put a o) : (p = (a, o)) ∨ (p.1 ≠ a ∧ p ∈ H) := by
  refine hide fun z20 => ?_
  obtain ⟨q, hq, rfl⟩ := List.mem_map.mp hp
  refine z20 ?_
  by_cases h : q.1 = a
  · rw [if_pos h]; exact .inl rfl
  · rw [if_neg h]; exact .inr ⟨h, hq⟩
theorem put_mem {H : AH} {a : Addr} {o o' : AO} (h : (a, o') ∈ H) : (a, o) ∈ H.put a o := by
  refine List.mem_map.mpr ⟨(a, o'), h, ?_⟩
  rw [if_pos rfl]
theorem St.write (S : St C A fx m H s) {a : Addr} {o' : Obj} {ao ao' : AO} (ha : (a, ao) ∈ H) (hs : Heap.SameBut a s.heap s'.heap) (ho : s'.heap.get? a = some o') (hr : OR C o' ao')
    (hg : s'.gens = s.gens := by rfl) (hos : s'.os = s.os := by rfl) (hao : ao'.isGen = false := by rfl) : St C A fx m (H.put a ao') s' ∧ Ext A fx H s (H.put a ao') s' := by
  refine S.upd (fun b o e hb => .of_keep ((hs.2 b fun q => hb (q ▸ mem_keys ha)).trans e)) (fun p hp => ?_) (fun b hb => .inl (by rw [AH.keys_put] at hb; exact hb)) (by rw [AH.keys_put]; exact S.nodup) (hg ▸ S.gens) hos (hg ▸ S.gst.of fun p hp => (mem_put hp).elim (fun e => .inr (e ▸ hao)) fun h => .inl h.2)
  rcases mem_put hp with rfl | ⟨h1, h2⟩
  · exact ⟨o', ho, hr⟩
  · refine hide fun z21 => ?_
    obtain ⟨o, e1, e2⟩ := S.cells p h2
    refine z21 ?_
    exact ⟨o, (hs.2 _ h1).trans e1, e2⟩

theorem St.sub (S : St C A fx m H s) (hp : ∀ p ∈ H', p ∈ H) (hn : H'.keys.Nodup) : St C A fx m H' s ∧ Ext A fx H s H' s :=
  S.upd (fun b o e _ => .of_keep e) (fun p h => S.cells p (hp p h)) (fun b hb => by obtain ⟨p, h, rfl⟩ := List.mem_map.mp hb; exact .inl (mem_keys (hp p h))) hn S.gens rfl (S.gst.of fun p h => .inl (hp p h))
end

section
variable {α : Type} {C : Cfg} {A : Around} {fx : Fx} {m m' : Lo} {H H' : AH} {X : Value → Lo → AH → Prop}

theorem St.lo {s : Shared} (S : St C A fx m H s) (hm : ∀ x v, (x, v) ∈ m' → (x, v) ∈ m) : St C A fx m' H s := { S with vars := fun x v h => S.vars x v (hm x v h) }
theorem aw_forget {t : Sem α} {Q : α → Lo → AH → Prop} (h : AW C A fx t m H (fun a m' H' => ∃ H'' : AH, H''.Sublist H' ∧ Q a m' H'') X) : AW C A fx t m H Q X := by
  intro s S
  refine wpAny_mono (h s S) (fun a s' h' => ?_) fun _ _ h' => h'
  refine hide fun z22 => ?_
  obtain ⟨m₁, H₁, S₁, E₁, H₂, hs, q⟩ := h'
  obtain ⟨S₂, E₂⟩ := S₁.sub (H' := H₂) (fun p hp => hs.subset hp) (S₁.nodup.sublist (hs.map _))
  refine z22 ?_
  exact ⟨m₁, H₂, S₂, E₁.trans E₂, q⟩
theorem aw_nodup {t : Sem α} {Q : α → Lo → AH → Prop} (h : H.keys.Nodup → AW C A fx t m H Q X) : AW C A fx t m H Q X := fun s S => h S.nodup s S
end
end Mine

namespace Mine
open PySem PySem.W PyProof.Rows
open Sem (wp)

noncomputable def Lo.put (m : Lo) (x : PySem.Str) (v : Value) : Lo := (x, v) :: m.filter fun p => !(p.1 == x)
theorem lookup_mem {m : Lo} {x : PySem.Str} {v : Value} (h : m.lookup x = some v) : (x, v) ∈ m := by
  induction m with
  | nil => cases h
  | cons p r ih =>
    obtain ⟨y, w⟩ := p
    rw [List.lookup_cons] at h
    split at h
    · rename_i e; rw [eq_of_beq e]; cases h; exact .head _
    · exact .tail _ (ih h)
noncomputable def erF : Flow → Flow
  | .ret v => .ret (er v)
  | f => f

section
variable {α : Type} {C : Cfg} {A : Around} {fx : Fx} {m m' : Lo} {H H' : AH} {X : Value → Lo → AH → Prop}

noncomputable abbrev EV (C : Cfg) (A : Around) (fx : Fx) (e : PySem.Expr) (m : Lo) (H : AH) (Q : Value → Lo → AH → Prop) (X : Value → Lo → AH → Prop) : Prop := AW C A fx (eval e fx.env) m H (fun v => Q (er v)) X
noncomputable abbrev IT (C : Cfg) (A : Around) (fx : Fx) (e : PySem.Expr) (m : Lo) (H : AH) (Q : Bool → Lo → AH → Prop) (X : Value → Lo → AH → Prop) : Prop := AW C A fx (isTrue e fx.env (eval e fx.env)) m H Q X
noncomputable abbrev EX (C : Cfg) (A : Around) (fx : Fx) (st : Stmt) (m : Lo) (H : AH) (Q : Flow → Lo → AH → Prop) (X : Value → Lo → AH → Prop) : Prop := AW C A fx (exec st fx.env) m H (fun f => Q (erF f)) X
noncomputable abbrev EXS (C : Cfg) (A : Around) (fx : Fx) (st : List Stmt) (m : Lo) (H : AH) (Q : Flow → Lo → AH → Prop) (X : Value → Lo → AH → Prop) : Prop := AW C A fx (execs st fx.env) m H (fun f => Q (erF f)) X
noncomputable def BO (C : Cfg) (A : Around) (fx : Fx) (op : Operator) (x y : Value) (m : Lo) (H : AH) (Q : Value → Lo → AH → Prop) (X : Value → Lo → AH → Prop) : Prop := ∀ a b, er a = x → er b = y → AW C A fx (binaryOp op a b) m H (fun v => Q (er v)) X
noncomputable def IO (C : Cfg) (A : Around) (fx : Fx) (op : Operator) (x y : Value) (m : Lo) (H : AH) (Q : Value → Lo → AH → Prop) (X : Value → Lo → AH → Prop) : Prop := ∀ a b, er a = x → er b = y → AW C A fx (inplaceOp op a b) m H (fun v => Q (er v)) X
noncomputable def CO (C : Cfg) (A : Around) (fx : Fx) (op : CmpOp) (x y : Value) (m : Lo) (H : AH) (Q : Value → Lo → AH → Prop) (X : Value → Lo → AH → Prop) : Prop := ∀ a b, er a = x → er b = y → AW C A fx (compareOp op a b) m H (fun v => Q (er v)) X
noncomputable def TR (C : Cfg) (A : Around) (fx : Fx) (x : Value) (m : Lo) (H : AH) (Q : Bool → Lo → AH → Prop) (X : Value → Lo → AH → Prop) : Prop := ∀ a, er a = x → AW C A fx (truthy a) m H Q X
noncomputable def GA (C : Cfg) (A : Around) (fx : Fx) (x : Value) (n : PySem.Str) (m : Lo) (H : AH) (Q : Value → Lo → AH → Prop) (X : Value → Lo → AH → Prop) : Prop := ∀ a, er a = x → AW C A fx (getAttr a n true) m H (fun v => Q (er v)) X
noncomputable def SA (C : Cfg) (A : Around) (fx : Fx) (x : Value) (n : PySem.Str) (y : Value) (m : Lo) (H : AH) (Q : Lo → AH → Prop) (X : Value → Lo → AH → Prop) : Prop := ∀ a b, er a = x → er b = y → AW C A fx (setAttr a n b) m H (fun _ => Q) X
noncomputable def SI (C : Cfg) (A : Around) (fx : Fx) (x i y : Value) (m : Lo) (H : AH) (Q : Lo → AH → Prop) (X : Value → Lo → AH → Prop) : Prop := ∀ a b c, er a = x → er b = i → er c = y → AW C A fx (setItem a b c) m H (fun _ => Q) X
noncomputable def CALL (C : Cfg) (A : Around) (fx : Fx) (f : Value) (xs : List Value) (m : Lo) (H : AH) (Q : Value → Lo → AH → Prop) (X : Value → Lo → AH → Prop) : Prop := ∀ g vs, er g = f → vs.map er = xs → AW C A fx (call g vs) m H (fun v => Q (er v)) X

theorem aw_operate {vs : List Value} {t : Sem Value} {Q : Value → Lo → AH → Prop} (h : AW C A fx t m H Q X) : AW C A fx (operate vs t) m H Q X :=
  fun s S Γ p hΓ => by rw [Sem.wp_operate]; exact h s S Γ p hΓ
theorem aw_release {vs ks : List Value} {Q : Unit → Lo → AH → Prop} (h : Q () m H) : AW C A fx (release vs ks) m H Q X :=
  fun s S Γ p hΓ => by rw [Sem.wp_release]; exact ⟨m, H, S, Ext.refl' S, h⟩
theorem aw_keep {vs : List Value} {t : Sem α} {Q : α → Lo → AH → Prop} (h : AW C A fx t m H Q X) : AW C A fx (t.keep vs) m H Q X :=
  fun s S Γ p hΓ => by rw [Sem.wp_keep]; exact h s S Γ p hΓ
theorem aw_bindName {x : PySem.Str} {v : Value} {Q : Unit → Lo → AH → Prop} (h : AW C A fx (storeName fx.env x v) m H Q X) : AW C A fx (bindName fx.env x v) m H Q X :=
  fun s S => wpAny_bindName (h s S)
theorem aw_fresh {Q : Tok → Lo → AH → Prop} (h : ∀ t, Q t m H) : AW C A fx fresh m H Q X := fun s S Γ p hΓ => ⟨m, H, (S.toks _).1, (S.toks _).2, h _⟩
theorem aw_mkInt {i : Int} {Q : Value → Lo → AH → Prop} (h : ∀ t, Q (.int i t) m H) : AW C A fx (mkInt i) m H Q X := aw_bind (aw_fresh fun t => aw_pure (h t))
theorem aw_mkText {x : PySem.Str} {Q : Value → Lo → AH → Prop} (h : ∀ t, Q (.str x t) m H) : AW C A fx (mkText x) m H Q X := aw_bind (aw_fresh fun t => aw_pure (h t))
theorem exs_nil {Q : Flow → Lo → AH → Prop} (h : Q .next m H) : EXS C A fx [] m H Q X := aw_pure h
theorem exs_cons {st : Stmt} {r : List Stmt} {Q : Flow → Lo → AH → Prop} (h : EX C A fx st m H (fun f m' H' => match f with | .next => EXS C A fx r m' H' Q X | f => Q f m' H') X) : EXS C A fx (st :: r) m H Q X := by
  show AW C A fx (exec st fx.env >>= _) m H _ X
  refine aw_bind (aw_mono h (fun f m' H' hf => ?_) fun _ _ _ x => x)
  cases f with
  | next => exact hf
  | brk => exact aw_pure hf
  | cont => exact aw_pure hf
  | ret v => exact aw_pure hf

theorem aw_load {x : PySem.Str} {v : Value} {Q : Value → Lo → AH → Prop} (hv : m.lookup x = some v) (h : ∀ r, er r = v → Q r m H) (hn : (x == ("__classdict__" : PySem.Str)) = false := by decide) : AW C A fx (loadName fx.env x) m H Q X := by
  intro s S
  rcases S.vars x v (lookup_mem hv) with ⟨k, mr, r, n, e1, e2⟩ | ⟨k, c, r, e1, e2, e3⟩
  · exact wpAny_loadName_local S.kind k n e1 ⟨m, H, S, Ext.refl' S, h r e2⟩
  · rcases k with k | k
    · exact wpAny_loadName_cell S.kind k e1 e2 ⟨m, H, S, Ext.refl' S, h r e3⟩
    · exact wpAny_loadName_free S.kind k e1 e2 ⟨m, H, S, Ext.refl' S, h r e3⟩ hn
theorem ev_var {x : PySem.Str} {pos : Pos} {v : Value} {Q : Value → Lo → AH → Prop} (hv : m.lookup x = some v) (h : Q v m H) (hn : (x == ("__classdict__" : PySem.Str)) = false := by decide) (hd : (x == ("__debug__" : PySem.Str)) = false := by decide) :
    EV C A fx (.Name x pos) m H Q X := by
  show AW C A fx (eval _ fx.env) m H _ X
  rw [eval_Name _ _ _ hd]
  exact aw_bind (aw_standAt (aw_load hv (fun r e => by rw [e]; exact h) hn))

structure Top (C : Cfg) (K : Frag) : Prop where
  X : K.In C.h₀
  g : ∃ mg, C.h₀.Ns mainGlobals mg
  b : ∃ mb, C.h₀.Ns builtinsNs mb ∧ ∀ x : PySem.Str, x ≠ "__name__" → mb x = bootBuiltins x
  nolimit : C.h₀.NoLimit
  read : ∃ p loose mg mb, TopRead p loose mg mb C.h₀

theorem ev_glob {K : Frag} {x : PySem.Str} {pos : Pos} {v : Value} {Q : Value → Lo → AH → Prop} (T : Top C K) (e : nsIn K mainGlobals x = some (some v)) (hk : fx.env.kindOf x = some .globalImplicit) (h : Q (er v) m H)
    (hd : (x == ("__debug__" : PySem.Str)) = false := by decide) : EV C A fx (.Name x pos) m H Q X := by
  intro s S
  obtain ⟨mg, hg⟩ := T.g
  rw [eval_Name _ _ _ hd]
  refine wpAny_bind (wpAny_standAt ?_)
  have hg' := hg.keeps S.base
  have hx : mg x = some v := mg_of (T.X.keeps S.base) hg' e
  unfold loadName
  simp only [Env.blockKind, S.kind, hk, ScopeKind.isAnnotationScope, Bool.false_and, Bool.false_eq_true, if_false]
  exact PySem.Calls.loadGlobal_global (S.glob.1 ▸ hg') hx ⟨m, H, S, Ext.refl' S, h⟩
theorem ev_builtin {K : Frag} {x : PySem.Str} {pos : Pos} {v : Value} {Q : Value → Lo → AH → Prop} (T : Top C K) (e : nsIn K mainGlobals x = some none) (hk : fx.env.kindOf x = some .globalImplicit) (hv : bootBuiltins x = some v) (hn : x ≠ "__name__") (h : Q (er v) m H)
    (hd : (x == ("__debug__" : PySem.Str)) = false := by decide) : EV C A fx (.Name x pos) m H Q X := by
  intro s S
  refine hide fun z23 => ?_
  obtain ⟨mg, hg⟩ := T.g
  obtain ⟨mb, hb, hb'⟩ := T.b
  refine z23 ?_
  rw [eval_Name _ _ _ hd]
  refine wpAny_bind (wpAny_standAt ?_)
  have hg' := hg.keeps S.base
  have hx : mg x = none := mg_none_of (T.X.keeps S.base) hg' e
  unfold loadName
  simp only [Env.blockKind, S.kind, hk, ScopeKind.isAnnotationScope, Bool.false_and, Bool.false_eq_true, if_false]
  exact PySem.Calls.loadGlobal_builtin (S.glob.1 ▸ hg') hx (S.glob.2 ▸ hb.keeps S.base) ((hb' x hn).trans hv) ⟨m, H, S, Ext.refl' S, h⟩

theorem put_cases {m : Lo} {x y : PySem.Str} {v w : Value} (h : (y, w) ∈ m.put x v) : (y = x ∧ w = v) ∨ (y ≠ x ∧ (y, w) ∈ m) := by
  rcases List.mem_cons.mp h with e | h
  · cases e; exact .inl ⟨rfl, rfl⟩
  · obtain ⟨h1, h2⟩ := List.mem_filter.mp h
    refine .inr ⟨fun e => ?_, h1⟩
    subst e
    simp at h2

theorem St.putW {s s' : Shared} {c : Addr} {m' : Lo} (S : St C A fx m H s) (hc : c ∈ fx.W) (hs : Heap.SameBut c s.heap s'.heap) (hthere : ∃ o, s'.heap.get? c = some o) (hex : ∀ o, s.heap.get? c = some o → (∀ vs, o.data ≠ .fields vs) → ∃ o', s'.heap.get? c = some o' ∧ (∀ vs, o'.data ≠ .fields vs))
    (hloc : ∃ mr, s'.heap.Ns fx.env.locals mr) (hcell : ∀ x c', fx.env.cells.lookup x = some c' → ∃ r, s'.heap.IsCell c' r) (hv : ∀ x v, (x, v) ∈ m' → VarAt fx.env s'.heap x v)
    (hg : s'.gens = s.gens := by rfl) (hos : s'.os = s.os := by rfl) : St C A fx m' H s' ∧ Ext A fx H s H s' := by
  have hck : c ∉ H.keys := S.apart c hc
  have hcb := S.above' (.inr hc)
  refine ⟨⟨fun b o e => (hs.2 b (fun q => by rw [q, hcb] at e; cases e)).trans (S.base b o e), fun p hp => ?_, S.low, S.above, S.nodup, S.apart, S.kind, S.glob, S.locW, fun b hb => ?_, hloc, S.cellW, fun x c' e => ?_, S.cellI, hv, ?_, S.frA, hg ▸ S.gens, hos.trans S.os, hg ▸ S.gst⟩,
    ⟨fun b hb => .inl hb, fun b o e h1 h2 => ⟨o.slots, (hs.2 b fun q => h2 (q ▸ hc)).trans e, fun _ => rfl⟩, S.apart⟩⟩
  · refine hide fun z24 => ?_
    obtain ⟨o, h1, h2⟩ := S.cells p hp
    refine z24 ?_
    exact ⟨o, (hs.2 _ fun q => hck (q ▸ mem_keys hp)).trans h1, h2⟩
  · obtain ⟨o, e⟩ := S.wlt b hb
    by_cases q : b = c
    · subst q; exact hthere
    · exact ⟨o, (hs.2 b q).trans e⟩
  · refine hide fun z25 => ?_
    obtain ⟨_, h1, h2, h3⟩ := S.cellA x c' e
    refine z25 ?_
    exact ⟨hcell x c' e, h1, h2, h3⟩
  · refine hide fun z26 => ?_
    obtain ⟨l, hl, hF⟩ := S.frs
    refine z26 ?_
    refine ⟨l, hl, ?_⟩
    clear hl
    induction l with
    | nil => trivial
    | cons env rest ih =>
      refine hide fun z27 => ?_
      obtain ⟨h1, ⟨L, o, hL, hb, ho, hd⟩, hr⟩ := hF
      refine z27 ?_
      by_cases q : L = c
      · subst q
        refine hide fun z28 => ?_
        obtain ⟨o', e1, e2⟩ := hex o ho hd
        refine z28 ?_
        exact ⟨h1, ⟨L, o', hL, hb, e1, e2⟩, ih hr⟩
      · exact ⟨h1, ⟨L, o, hL, hb, (hs.2 L q).trans ho, hd⟩, ih hr⟩

theorem aw_store {x : PySem.Str} {v : Value} {Q : Unit → Lo → AH → Prop} (hk : Own fx x) (h : Q () (m.put x (er v)) H) : AW C A fx (storeName fx.env x v) m H Q X := by
  intro s S
  rcases hk with hk | ⟨hk, hkW⟩
  · obtain ⟨mr, hm⟩ := S.loc
    refine wpAny_storeName_local hk hm (fun h' hn hs => ?_) (by rw [S.kind]; rfl)
    have hcell : ∀ y c, fx.env.cells.lookup y = some c → ∀ r, s.heap.IsCell c r → h'.IsCell c r := fun y c e r hr => hr.sameBut hs (S.cellA y c e).2.2.2
    have hv' : ∀ y w, (y, w) ∈ m.put x (er v) → VarAt fx.env h' y w := by
      intro y w hw
      rcases put_cases hw with ⟨rfl, rfl⟩ | ⟨hne, hw⟩
      · exact .inl ⟨hk, _, v, hn, by rw [if_pos rfl], rfl⟩
      · rcases S.vars y w hw with ⟨k, mr', r, n, e1, e2⟩ | ⟨k, c, r, e1, e2, e3⟩
        · refine .inl ⟨k, _, r, hn, ?_, e2⟩
          rw [if_neg hne]
          refine hide fun z29 => ?_
          obtain ⟨o, es, ep, a1, a2, a3, a4⟩ := n
          obtain ⟨o', es', ep', b1, b2, b3, b4⟩ := hm
          refine z29 ?_
          rw [a1] at b1; cases b1
          rw [a2] at b2; cases b2
          rw [← b4, a4]; exact e1
        · exact .inr ⟨k, c, r, e1, hcell y c e1 _ e2, e3⟩
    obtain ⟨S', E⟩ := S.putW (s' := { s with heap := h', toks := s.toks + 1 }) (m' := m.put x (er v)) S.locW hs (let ⟨o, _, _, e, _⟩ := hn; ⟨o, e⟩) (fun o ho hd => by
        obtain ⟨o', es, ep, e1, e2, _⟩ := hn; exact ⟨o', e1, fun vs q => by rw [e2] at q; cases q⟩) ⟨_, hn⟩ (fun y c e => let ⟨⟨r, hr⟩, _⟩ := S.cellA y c e; ⟨r, hcell y c e r hr⟩) hv'
    exact ⟨_, H, S', E, h⟩
  · obtain ⟨c, hc⟩ := S.cellW x hk
    have hcW := hkW c hc
    refine hide fun z30 => ?_
    obtain ⟨⟨r₀, hr₀⟩, c1, c2, c3⟩ := S.cellA x c hc
    refine z30 ?_
    refine wpAny_storeName_cell S.kind hk hc hr₀ fun h' hv hs => ?_
    have hloc : ∀ mr, s.heap.Ns fx.env.locals mr → h'.Ns fx.env.locals mr := fun mr hm => hm.sameBut hs (Ne.symm c3)
    have other : ∀ y c', fx.env.cells.lookup y = some c' → y ≠ x → c' ≠ c := fun y c' e hne q => hne (S.cellI y x c' e (q ▸ hc))
    have hcell : ∀ y c', fx.env.cells.lookup y = some c' → ∃ r, h'.IsCell c' r := by
      intro y c' e
      by_cases q : y = x
      · subst q; rw [hc] at e; cases e; exact ⟨_, hv⟩
      · refine hide fun z31 => ?_
        obtain ⟨⟨r, hr⟩, _⟩ := S.cellA y c' e
        refine z31 ?_
        exact ⟨r, hr.sameBut hs (other y c' e q)⟩
    have hv' : ∀ y w, (y, w) ∈ m.put x (er v) → VarAt fx.env h' y w := by
      intro y w hw
      rcases put_cases hw with ⟨rfl, rfl⟩ | ⟨hne, hw⟩
      · exact .inr ⟨.inl hk, c, v, hc, hv, rfl⟩
      · rcases S.vars y w hw with ⟨k, mr', r, n, e1, e2⟩ | ⟨k, c', r, e1, e2, e3⟩
        · exact .inl ⟨k, mr', r, hloc _ n, e1, e2⟩
        · exact .inr ⟨k, c', r, e1, e2.sameBut hs (other y c' e1 hne), e3⟩
    obtain ⟨S', E⟩ := S.putW (s' := { s with heap := h' }) (m' := m.put x (er v)) hcW hs (let ⟨o, e, _⟩ := hv; ⟨o, e⟩) (fun o ho hd => by
        obtain ⟨o', e1, e2⟩ := hv; exact ⟨o', e1, fun vs q => by rw [e2] at q; cases q⟩) (let ⟨mr, hm⟩ := S.loc; ⟨mr, hloc mr hm⟩) hcell hv'
    exact ⟨_, H, S', E, h⟩
end
end Mine

namespace Mine
open PySem PySem.W PyProof.Rows
open Sem (wp)

section
variable {α : Type} {C : Cfg} {A : Around} {fx : Fx} {m m' : Lo} {H H' : AH} {X : Value → Lo → AH → Prop}

theorem aw_tk {t : Sem α} {Q : α → Lo → AH → Prop} (a : Tok → α)
    (ht : ∀ s, St C A fx m H s → ∀ Q' E', (∀ k k', Q' (a k) { s with toks := k' }) → wpAny (model C.prog C.w) A t Q' E' s) (h : ∀ k, Q (a k) m H) : AW C A fx t m H Q X :=
  fun s S => ht s S _ _ fun k k' => ⟨m, H, (S.toks k').1, (S.toks k').2, h k⟩

theorem ev_int {i : Int} {k : Nat} {pos : Pos} {Q : Value → Lo → AH → Prop} (h : Q (vI i) m H) : EV C A fx (.Constant (.int i) k pos) m H Q X := aw_mkInt fun _ => h
theorem ev_str {x : PySem.Str} {k : Nat} {pos : Pos} {Q : Value → Lo → AH → Prop} (h : Q (.str x 0) m H) : EV C A fx (.Constant (.str x) k pos) m H Q X := aw_mkText fun _ => h
theorem ev_none {k : Nat} {pos : Pos} {Q : Value → Lo → AH → Prop} (h : Q .none m H) : EV C A fx (.Constant .none k pos) m H Q X := aw_pure h
theorem ev_bool {b : Bool} {k : Nat} {pos : Pos} {Q : Value → Lo → AH → Prop} (h : Q (.bool b) m H) : EV C A fx (.Constant (.bool b) k pos) m H Q X := aw_pure h

theorem ev_bin {l r : PySem.Expr} {op : Operator} {pos : Pos} {Q : Value → Lo → AH → Prop} (h : EV C A fx l m H (fun x m₁ H₁ => EV C A fx r m₁ H₁ (fun y m₂ H₂ => BO C A fx op x y m₂ H₂ Q X) X) X) : EV C A fx (.BinOp l op r pos) m H Q X := by
  show AW C A fx (eval _ _) m H _ X
  rw [eval_BinOp]
  exact aw_bind (aw_mono h (fun a _ _ h₁ => aw_bind (aw_holding (aw_mono h₁ (fun b _ _ h₂ => aw_bind (aw_standAt (aw_operate (h₂ a b rfl rfl)))) fun _ _ _ x => x))) fun _ _ _ x => x)
theorem ev_cmp {l r : PySem.Expr} {op : CmpOp} {pos : Pos} {Q : Value → Lo → AH → Prop} (h : EV C A fx l m H (fun x m₁ H₁ => EV C A fx r m₁ H₁ (fun y m₂ H₂ => CO C A fx op x y m₂ H₂ Q X) X) X)
    (hm : behindInMarks op r = false := by with_unfolding_all rfl) : EV C A fx (.Compare l [op] [r] pos) m H Q X := by
  show AW C A fx (eval _ _) m H _ X
  rw [eval_Compare1, markedBehindIn_of_false hm]
  exact aw_bind (aw_mono h (fun a _ _ h₁ => aw_bind (aw_holding (aw_mono h₁ (fun b _ _ h₂ => aw_bind (aw_standAt (aw_operate (h₂ a b rfl rfl)))) fun _ _ _ x => x))) fun _ _ _ x => x)
theorem it_cmp {l r : PySem.Expr} {op : CmpOp} {pos : Pos} {Q : Bool → Lo → AH → Prop} (h : EV C A fx l m H (fun x m₁ H₁ => EV C A fx r m₁ H₁ (fun y m₂ H₂ => CO C A fx op x y m₂ H₂ (fun z m₃ H₃ => TR C A fx z m₃ H₃ Q X) X) X) X)
    (hm : behindInMarks op r = false := by with_unfolding_all rfl) : IT C A fx (.Compare l [op] [r] pos) m H Q X := by
  show AW C A fx (isTrue _ _ _) m H _ X
  rw [isTrue_Compare1, markedBehindIn_of_false hm]
  exact aw_bind (aw_mono h (fun a _ _ h₁ => aw_bind (aw_holding (aw_mono h₁ (fun b _ _ h₂ => aw_bind (aw_standAt (aw_bind (aw_operate (aw_mono (h₂ a b rfl rfl) (fun c _ _ h₃ => aw_holding (h₃ c rfl)) fun _ _ _ x => x))))) fun _ _ _ x => x))) fun _ _ _ x => x)
theorem it_not {e : PySem.Expr} {pos : Pos} {Q : Bool → Lo → AH → Prop} (h : IT C A fx e m H (fun b => Q (!b)) X) : IT C A fx (.UnaryOp .Not e pos) m H Q X := by
  show AW C A fx (isTrue _ _ _) m H _ X
  rw [arm_isTrue_UnaryOp]
  exact aw_bind (aw_mono h (fun _ _ _ q => aw_pure q) fun _ _ _ x => x)
noncomputable def plainTest : PySem.Expr → Bool
  | .UnaryOp .Not .. | .BoolOp .. | .IfExp .. | .Compare .. => false
  | _ => true
theorem isTrue_plain {e : PySem.Expr} {env : Env} {t : Sem Value} (hp : plainTest e = true) : isTrue e env t = (do let v ← t; standAt e.pos; holding [v] (truthy v)) := by
  cases e <;> first | rfl | (rename_i op _ _; cases op <;> first | rfl | cases hp) | cases hp
theorem it_val {e : PySem.Expr} {Q : Bool → Lo → AH → Prop} (h : EV C A fx e m H (fun x m₁ H₁ => TR C A fx x m₁ H₁ Q X) X) (hp : plainTest e = true := by rfl) : IT C A fx e m H Q X := by
  show AW C A fx (isTrue _ _ _) m H _ X
  rw [isTrue_plain hp]
  exact aw_bind (aw_mono h (fun a _ _ h₁ => aw_bind (aw_standAt (aw_holding (h₁ a rfl)))) fun _ _ _ x => x)
theorem it_and_nil {pos : Pos} {Q : Bool → Lo → AH → Prop} (h : Q true m H) : IT C A fx (.BoolOp .And [] pos) m H Q X := aw_pure (a := true) h
theorem it_or_nil {pos : Pos} {Q : Bool → Lo → AH → Prop} (h : Q false m H) : IT C A fx (.BoolOp .Or [] pos) m H Q X := aw_pure (a := false) h
theorem it_and {e : PySem.Expr} {r : List PySem.Expr} {pos : Pos} {Q : Bool → Lo → AH → Prop} (h : IT C A fx e m H (fun b m₁ H₁ => if b = true then IT C A fx (.BoolOp .And r pos) m₁ H₁ Q X else Q false m₁ H₁) X) : IT C A fx (.BoolOp .And (e :: r) pos) m H Q X := by
  show AW C A fx (allTrue .And (e :: r) fx.env) m H _ X
  rw [arm_allTrue_cons]
  refine aw_bind (aw_mono h (fun b m₁ H₁ hb => ?_) fun _ _ _ x => x)
  cases b with
  | true => exact hb
  | false => exact aw_pure (by simpa using hb)
theorem it_or {e : PySem.Expr} {r : List PySem.Expr} {pos : Pos} {Q : Bool → Lo → AH → Prop} (h : IT C A fx e m H (fun b m₁ H₁ => if b = true then Q true m₁ H₁ else IT C A fx (.BoolOp .Or r pos) m₁ H₁ Q X) X) : IT C A fx (.BoolOp .Or (e :: r) pos) m H Q X := by
  show AW C A fx (allTrue .Or (e :: r) fx.env) m H _ X
  rw [arm_allTrue_cons]
  refine aw_bind (aw_mono h (fun b m₁ H₁ hb => ?_) fun _ _ _ x => x)
  cases b with
  | true => exact aw_pure (by simpa using hb)
  | false => exact (by simpa using hb : IT C A fx (.BoolOp .Or r pos) m₁ H₁ Q X)
theorem ev_bool1 {op : BoolOp} {e : PySem.Expr} {pos : Pos} {Q : Value → Lo → AH → Prop} (h : EV C A fx e m H Q X) : EV C A fx (.BoolOp op [e] pos) m H Q X := h
theorem ev_and {e e' : PySem.Expr} {r : List PySem.Expr} {pos : Pos} {Q : Value → Lo → AH → Prop}
    (h : EV C A fx e m H (fun x m₁ H₁ => TR C A fx x m₁ H₁ (fun b m₂ H₂ => if b = true then EV C A fx (.BoolOp .And (e' :: r) pos) m₂ H₂ Q X else Q x m₂ H₂) X) X) : EV C A fx (.BoolOp .And (e :: e' :: r) pos) m H Q X := by
  show AW C A fx (eval e fx.env >>= _) m H _ X
  refine aw_bind (aw_mono h (fun a m₁ H₁ h₁ => aw_bind (aw_standAt (aw_bind (aw_holding (aw_mono (h₁ a rfl) (fun b m₂ H₂ h₂ => ?_) fun _ _ _ x => x))))) fun _ _ _ x => x)
  cases b with
  | true => exact (by simpa using h₂ : EV C A fx (.BoolOp .And (e' :: r) pos) m₂ H₂ Q X)
  | false => exact aw_pure (by simpa using h₂)
theorem ev_or {e e' : PySem.Expr} {r : List PySem.Expr} {pos : Pos} {Q : Value → Lo → AH → Prop}
    (h : EV C A fx e m H (fun x m₁ H₁ => TR C A fx x m₁ H₁ (fun b m₂ H₂ => if b = true then Q x m₂ H₂ else EV C A fx (.BoolOp .Or (e' :: r) pos) m₂ H₂ Q X) X) X) : EV C A fx (.BoolOp .Or (e :: e' :: r) pos) m H Q X := by
  show AW C A fx (eval e fx.env >>= _) m H _ X
  refine aw_bind (aw_mono h (fun a m₁ H₁ h₁ => aw_bind (aw_standAt (aw_bind (aw_holding (aw_mono (h₁ a rfl) (fun b m₂ H₂ h₂ => ?_) fun _ _ _ x => x))))) fun _ _ _ x => x)
  cases b with
  | true => exact aw_pure (by simpa using h₂)
  | false => exact (by simpa using h₂ : EV C A fx (.BoolOp .Or (e' :: r) pos) m₂ H₂ Q X)
theorem ev_ifexp {t b o : PySem.Expr} {pos : Pos} {Q : Value → Lo → AH → Prop} (h : IT C A fx t m H (fun c m₁ H₁ => if c = true then EV C A fx b m₁ H₁ Q X else EV C A fx o m₁ H₁ Q X) X) : EV C A fx (.IfExp t b o pos) m H Q X := by
  show AW C A fx (eval _ _) m H _ X
  rw [arm_eval_IfExp]
  refine aw_bind (aw_mono h (fun c m₁ H₁ hc => ?_) fun _ _ _ x => x)
  cases c <;> simpa using hc
theorem ev_named {x : PySem.Str} {px pos : Pos} {e : PySem.Expr} {Q : Value → Lo → AH → Prop} (hk : Own fx x) (h : EV C A fx e m H (fun v m₁ H₁ => Q v (m₁.put x v) H₁) X) : EV C A fx (.NamedExpr (.Name x px) e pos) m H Q X := by
  show AW C A fx (eval _ _) m H _ X
  rw [arm_eval_NamedExpr]
  refine aw_bind (aw_mono h (fun a m₁ H₁ h₁ => aw_bind (aw_holding ?_)) fun _ _ _ x => x)
  rw [arm_assign_Name]
  exact aw_bind (aw_standAt (aw_bindName (aw_store hk (aw_pure h₁))))

section
variable {i j : Int} {Q : Value → Lo → AH → Prop}
theorem bo_add (h : Q (vI (i + j)) m H) : BO C A fx .Add (vI i) (vI j) m H Q X := fun a b ha hb => by
  obtain ⟨t, rfl⟩ := er_eq_int ha; obtain ⟨u, rfl⟩ := er_eq_int hb
  exact aw_tk (fun k => .int (i + j) k) (fun s S Q' E' q => add_int (q _ _)) fun _ => h
theorem bo_sub (h : Q (vI (i - j)) m H) : BO C A fx .Sub (vI i) (vI j) m H Q X := fun a b ha hb => by
  obtain ⟨t, rfl⟩ := er_eq_int ha; obtain ⟨u, rfl⟩ := er_eq_int hb
  exact aw_tk (fun k => .int (i - j) k) (fun s S Q' E' q => sub_int (q _ _)) fun _ => h
theorem bo_mul (hm : IntMulOk i j) (h : Q (vI (i * j)) m H) : BO C A fx .Mult (vI i) (vI j) m H Q X := fun a b ha hb => by
  obtain ⟨t, rfl⟩ := er_eq_int ha; obtain ⟨u, rfl⟩ := er_eq_int hb
  exact aw_tk (fun k => .int (i * j) k) (fun s S Q' E' q => mul_int (hm := hm) (q _ _)) fun _ => h
theorem bo_fdiv (hj : j ≠ 0) (hp : Builtin.divisionGoesByPylong i j = false) (h : Q (vI (i.fdiv j)) m H) : BO C A fx .FloorDiv (vI i) (vI j) m H Q X := fun a b ha hb => by
  obtain ⟨t, rfl⟩ := er_eq_int ha; obtain ⟨u, rfl⟩ := er_eq_int hb
  exact aw_tk (fun k => .int (i.fdiv j) k) (fun s S Q' E' q => floordiv_int hj (q _ _) (.inl hp)) fun _ => h
theorem bo_mod (hj : j ≠ 0) (h : Q (vI (i.fmod j)) m H) : BO C A fx .Mod (vI i) (vI j) m H Q X := fun a b ha hb => by
  obtain ⟨t, rfl⟩ := er_eq_int ha; obtain ⟨u, rfl⟩ := er_eq_int hb
  exact aw_tk (fun k => .int (i.fmod j) k) (fun s S Q' E' q => mod_int' hj (q _ _)) fun _ => h
theorem bo_pow (hj : 0 ≤ j) (hsz : (Builtin.Int.intBits i : Int) * j ≤ 2 ^ 27) (h : Q (vI (i ^ j.toNat)) m H) : BO C A fx .Pow (vI i) (vI j) m H Q X := fun a b ha hb => by
  obtain ⟨t, rfl⟩ := er_eq_int ha; obtain ⟨u, rfl⟩ := er_eq_int hb
  exact aw_tk (fun k => .int (i ^ j.toNat) k) (fun s S Q' E' q => pow_int hj hsz (q _ _)) fun _ => h
theorem io_add (h : Q (vI (i + j)) m H) : IO C A fx .Add (vI i) (vI j) m H Q X := fun a b ha hb => by
  obtain ⟨t, rfl⟩ := er_eq_int ha; obtain ⟨u, rfl⟩ := er_eq_int hb
  exact aw_tk (fun k => .int (i + j) k) (fun s S Q' E' q => iadd_int (q _ _)) fun _ => h
theorem io_sub (h : Q (vI (i - j)) m H) : IO C A fx .Sub (vI i) (vI j) m H Q X := fun a b ha hb => by
  obtain ⟨t, rfl⟩ := er_eq_int ha; obtain ⟨u, rfl⟩ := er_eq_int hb
  exact aw_tk (fun k => .int (i - j) k) (fun s S Q' E' q => isub_int (q _ _)) fun _ => h
theorem co_eq (h : Q (.bool (i == j)) m H) : CO C A fx .Eq (vI i) (vI j) m H Q X := fun a b ha hb => by
  obtain ⟨t, rfl⟩ := er_eq_int ha; obtain ⟨u, rfl⟩ := er_eq_int hb
  exact aw_tk (fun _ => .bool (i == j)) (fun s S Q' E' q => eq_int (q 0 s.toks)) fun _ => h
theorem co_ne (h : Q (.bool (i != j)) m H) : CO C A fx .NotEq (vI i) (vI j) m H Q X := fun a b ha hb => by
  obtain ⟨t, rfl⟩ := er_eq_int ha; obtain ⟨u, rfl⟩ := er_eq_int hb
  exact aw_tk (fun _ => .bool (i != j)) (fun s S Q' E' q => ne_int (q 0 s.toks)) fun _ => h
theorem co_lt (h : Q (.bool (decide (i < j))) m H) : CO C A fx .Lt (vI i) (vI j) m H Q X := fun a b ha hb => by
  obtain ⟨t, rfl⟩ := er_eq_int ha; obtain ⟨u, rfl⟩ := er_eq_int hb
  exact aw_tk (fun _ => .bool (decide (i < j))) (fun s S Q' E' q => lt_int (q 0 s.toks)) fun _ => h
theorem co_is_none {x : Value} (hx : ∀ id, x ≠ .builtin id) (h : Q (.bool (decide (x = .none))) m H) : CO C A fx .Is x .none m H Q X := fun a b ha hb => by
  obtain rfl := er_eq_none hb
  have e : isSame a .none = pure (decide (x = .none)) := by
    subst ha
    cases a <;> first | rfl | exact absurd rfl (hx _)
  show AW C A fx (isSame a .none >>= _) m H _ X
  rw [e]
  exact aw_bind (aw_pure (aw_pure h))
theorem co_isnot_none {x : Value} (hx : ∀ id, x ≠ .builtin id) (h : Q (.bool (!decide (x = .none))) m H) : CO C A fx .IsNot x .none m H Q X := fun a b ha hb => by
  obtain rfl := er_eq_none hb
  have e : isSame a .none = pure (decide (x = .none)) := by
    subst ha
    cases a <;> first | rfl | exact absurd rfl (hx _)
  show AW C A fx (isSame a .none >>= _) m H _ X
  rw [e]
  exact aw_bind (aw_pure (aw_pure h))
theorem co_is_bool {b c : Bool} (h : Q (.bool (b == c)) m H) : CO C A fx .Is (.bool b) (.bool c) m H Q X := fun a a' ha hb => by
  obtain rfl := er_eq_bool ha; obtain rfl := er_eq_bool hb
  have e : isSame (.bool b) (.bool c) = pure (b == c) := by cases b <;> cases c <;> rfl
  show AW C A fx (isSame _ _ >>= _) m H _ X
  rw [e]
  exact aw_bind (aw_pure (aw_pure h))
theorem co_is_reftype {r : Addr} {n : String} (h : Q (.bool false) m H) : CO C A fx .Is (.ref r) (.type n) m H Q X := fun a a' ha hb => by
  obtain rfl := er_eq_ref ha; obtain rfl := er_eq_type hb
  have e : isSame (.ref r) (.type n) = pure false := rfl
  show AW C A fx (isSame _ _ >>= _) m H _ X
  rw [e]
  exact aw_bind (aw_pure (aw_pure h))
end

theorem tr_none {Q : Bool → Lo → AH → Prop} (h : Q false m H) : TR C A fx .none m H Q X := fun a ha => by obtain rfl := er_eq_none ha; exact aw_look false (fun s S Q' E' q => truthy_none q) h
theorem tr_bool {b : Bool} {Q : Bool → Lo → AH → Prop} (h : Q b m H) : TR C A fx (.bool b) m H Q X := fun a ha => by obtain rfl := er_eq_bool ha; exact aw_look b (fun s S Q' E' q => wpAny_truthy_bool q) h
theorem St.isList {s : Shared} {l : Addr} {xs : List Value} (S : St C A fx m H s) (h : (l, AO.list xs) ∈ H) : ∃ vs : Array Value, s.heap.IsList l vs ∧ vs.toList.map er = xs := by
  refine hide fun z32 => ?_
  obtain ⟨o, ho, h1, h2, vs, n, h3, h4⟩ := S.get h
  refine z32 ?_
  exact ⟨vs, ⟨o, ho, h1, n, h3⟩, h4⟩
theorem or_list {o : Obj} {xs : List Value} (h : OR C o (.list xs)) : ∃ vs n, o = { cls := .type "list", dict := none, data := .seq vs n, slots := #[] } ∧ vs.toList.map er = xs := by
  refine hide fun z33 => ?_
  obtain ⟨h1, ⟨h2, h2'⟩, vs, n, h3, h4⟩ := h
  obtain ⟨oc, od, odd, osl⟩ := o
  refine z33 ?_
  dsimp only at h1 h2 h2' h3
  subst h1 h2 h2' h3
  exact ⟨vs, n, rfl, h4⟩
theorem or_tup {o : Obj} {xs : List Value} (h : OR C o (.tup xs)) : ∃ vs n, o = { cls := .type "tuple", dict := none, data := .seq vs n, slots := #[] } ∧ vs.toList.map er = xs := by
  refine hide fun z34 => ?_
  obtain ⟨h1, ⟨h2, h2'⟩, vs, n, h3, h4⟩ := h
  obtain ⟨oc, od, odd, osl⟩ := o
  refine z34 ?_
  dsimp only at h1 h2 h2' h3
  subst h1 h2 h2' h3
  exact ⟨vs, n, rfl, h4⟩
theorem St.isL {s : Shared} {l : Addr} {xs : List Value} (S : St C A fx m H s) (h : (l, AO.list xs) ∈ H) : ∃ vs n, IsL s.heap l vs n ∧ vs.toList.map er = xs := by
  refine hide fun z35 => ?_
  obtain ⟨o, ho, hr⟩ := S.get h
  obtain ⟨vs, n, rfl, h4⟩ := or_list hr
  refine z35 ?_
  exact ⟨vs, n, ho, h4⟩
theorem St.isT {s : Shared} {l : Addr} {xs : List Value} (S : St C A fx m H s) (h : (l, AO.tup xs) ∈ H) : ∃ vs n, s.heap.get? l = some { cls := .type "tuple", dict := none, data := .seq vs n, slots := #[] } ∧ vs.toList.map er = xs := by
  refine hide fun z36 => ?_
  obtain ⟨o, ho, hr⟩ := S.get h
  obtain ⟨vs, n, rfl, h4⟩ := or_tup hr
  refine z36 ?_
  exact ⟨vs, n, ho, h4⟩
theorem St.isTup {s : Shared} {l : Addr} {xs : List Value} (S : St C A fx m H s) (h : (l, AO.tup xs) ∈ H) : ∃ vs : Array Value, IsTup s.heap l vs ∧ vs.toList.map er = xs := by
  refine hide fun z37 => ?_
  obtain ⟨o, ho, h1, h2, vs, n, h3, h4⟩ := S.get h
  refine z37 ?_
  exact ⟨vs, ⟨o, ho, h1, n, h3⟩, h4⟩
theorem St.dictAt {s : Shared} {d : Addr} {kvs : List (Int × Value)} {ep : Nat} (S : St C A fx m H s) (h : (d, AO.dict kvs ep) ∈ H) :
    ∃ raw, s.heap.DictAt (intKind C.prog C.w) d raw ep ∧ raw.map (fun kv => (kv.1, er kv.2)) = kvs := by
  refine hide fun z38 => ?_
  obtain ⟨o, ho, h1, es, h2, h3, h4, raw, h5, h6⟩ := S.get h
  refine z38 ?_
  refine ⟨raw, ⟨o, es, ho, h1, h2, h3, h5, ?_⟩, h6⟩
  rw [← h6, List.map_map] at h4
  exact h4
theorem St.notMods {s : Shared} {d : Addr} (S : St C A fx m H s) (h : d ∈ H.keys) : (d == sysModules) = false := by
  exact beq_eq_false_iff_ne.mpr (fun q => by refine hide fun z39 => ?_; obtain ⟨_, o, ho⟩ := S.low; refine z39 ?_; rw [q] at h; rw [S.above _ (.inl h)] at ho; cases ho)
theorem size_of_er {vs : Array Value} {xs : List Value} (h : vs.toList.map er = xs) : vs.size = xs.length := by rw [← h]; simp
end
end Mine

namespace Mine
open PySem PySem.W PyProof.Rows
open Sem (wp)

section
variable {α : Type} {C : Cfg} {A : Around} {fx : Fx} {m m' : Lo} {H H' : AH} {X : Value → Lo → AH → Prop} {K : Frag}

theorem aw_letTemp {e : PySem.Expr} {o r : Value} {Q : Unit → Lo → AH → Prop} (h : Q () m H) : AW C A fx (letTemporaryGo e o r) m H Q X := fun s S => wpAny_letTemporaryGo ⟨m, H, S, Ext.refl' S, h⟩
theorem ev_attr {e : PySem.Expr} {n : PySem.Str} {pos : Pos} {Q : Value → Lo → AH → Prop} (h : EV C A fx e m H (fun x m₁ H₁ => GA C A fx x n m₁ H₁ Q X) X) (hb : attributeBase e n fx.env (eval e fx.env) = eval e fx.env := by rfl) :
    EV C A fx (.Attribute e n pos) m H Q X := by
  show AW C A fx (eval _ _) m H _ X
  rw [arm_eval_Attribute, hb]
  exact aw_bind (aw_mono h (fun a _ _ h₁ => aw_bind (aw_standAt (aw_bind (aw_holding (aw_mono (h₁ a rfl) (fun r _ _ h₂ => aw_bind (aw_letTemp (aw_pure h₂))) fun _ _ _ x => x))))) fun _ _ _ x => x)

noncomputable def SUB (C : Cfg) (A : Around) (fx : Fx) (value slice : PySem.Expr) (x i : Value) (m : Lo) (H : AH) (Q : Value → Lo → AH → Prop) (X : Value → Lo → AH → Prop) : Prop := ∀ a b, er a = x → er b = i → AW C A fx (subscriptTail value slice a b) m H (fun v => Q (er v)) X
theorem ev_sub {e i : PySem.Expr} {pos : Pos} {Q : Value → Lo → AH → Prop} (h : EV C A fx e m H (fun x m₁ H₁ => EV C A fx i m₁ H₁ (fun y m₂ H₂ => SUB C A fx e i x y m₂ H₂ Q X) X) X) : EV C A fx (.Subscript e i pos) m H Q X := by
  show AW C A fx (eval _ _) m H _ X
  rw [eval_Subscript]
  refine aw_bind (aw_mono h (fun o _ _ h₁ => aw_bind (aw_holding (aw_mono h₁ (fun i _ _ h₂ => aw_bind (aw_standAt (h₂ o i rfl rfl))) fun _ _ _ x => x))) fun _ _ _ x => x)
theorem er_get {vs : Array Value} {xs : List Value} {k : Nat} {v : Value} (h : vs.toList.map er = xs) (hx : xs[k]? = some v) : ∃ r, vs[k]? = some r ∧ er r = v := by
  subst h
  rw [List.getElem?_map] at hx
  refine hide fun z40 => ?_
  obtain ⟨r, h1, h2⟩ := Option.map_eq_some_iff.mp hx
  refine z40 ?_
  exact ⟨r, by rw [← Array.getElem?_toList]; exact h1, h2⟩
theorem sub_list {e i : PySem.Expr} {l : Addr} {xs : List Value} {k : Int} {v : Value} {Q : Value → Lo → AH → Prop} (hl : (l, AO.list xs) ∈ H) (h0 : 0 ≤ k) (hf : k < 2 ^ 63) (hx : xs[k.toNat]? = some v) (h : Q v m H)
    (hs : ∀ t, subscripted i false (.ref l) (.int k t) = operate [.ref l, .int k t] (getItem (.ref l) (.int k t)) := by intro _; rfl) : SUB C A fx e i (.ref l) (vI k) m H Q X := fun a b ha hb => by
  obtain rfl := er_eq_ref ha; obtain ⟨t, rfl⟩ := er_eq_int hb
  intro s S
  refine hide fun z41 => ?_
  obtain ⟨vs, h1, h2⟩ := S.isList hl
  obtain ⟨r, e1, e2⟩ := er_get h2 hx
  refine z41 ?_
  exact tail_any h1.typeIs slot_list_getitem.lookup (wpAny_getItem_list h1 h0 hf e1 ⟨m, H, S, Ext.refl' S, by show Q (er _) m H; rw [e2]; exact h⟩) (hs t)
theorem sub_list_last {e i : PySem.Expr} {l : Addr} {xs : List Value} {v : Value} {Q : Value → Lo → AH → Prop} (hl : (l, AO.list (xs ++ [v])) ∈ H) (h : Q v m H)
    (hs : ∀ t, subscripted i false (.ref l) (.int (-1) t) = operate [.ref l, .int (-1) t] (getItem (.ref l) (.int (-1) t)) := by intro _; rfl) : SUB C A fx e i (.ref l) (vI (-1)) m H Q X := fun a b ha hb => by
  obtain rfl := er_eq_ref ha; obtain ⟨t, rfl⟩ := er_eq_int hb
  intro s S
  refine hide fun z42 => ?_
  obtain ⟨vs, h1, h2⟩ := S.isList hl
  refine z42 ?_
  have hsz := size_of_er h2
  rw [List.length_append, List.length_singleton] at hsz
  refine hide fun z43 => ?_
  obtain ⟨r, e1, e2⟩ := er_get (k := xs.length) (v := v) h2 (by simp)
  refine z43 ?_
  refine tail_any h1.typeIs slot_list_getitem.lookup (wpAny_getItem_list_neg h1 (by decide) (by omega) (by decide) ?_ ⟨m, H, S, Ext.refl' S, by show Q (er _) m H; rw [e2]; exact h⟩) (hs t)
  have : ((-1 : Int) + vs.size).toNat = xs.length := by omega
  rw [this]; exact e1
noncomputable def dval (kvs : List (Int × Value)) (k : Int) : Option Value := (kvs.find? fun kv => kv.1 = k).map (·.2)
theorem valueAt_er {raw : List (Int × Value)} {kvs : List (Int × Value)} (h : raw.map (fun kv => (kv.1, er kv.2)) = kvs) (k : Int) : (valueAt raw k).map er = dval kvs k := by
  subst h
  unfold valueAt dval
  induction raw with
  | nil => rfl
  | cons kv r ih =>
    simp only [List.map_cons, List.find?_cons]
    by_cases hk : kv.1 = k
    · simp [hk]
    · simpa [hk] using ih
theorem intMap_of {h : Heap} {d : Addr} {raw : List (Int × Value)} {ep : Nat} (x : h.DictAt (intKind C.prog C.w) d raw ep) : h.IntMap d (fun k => valueAt raw k) := by
  refine hide fun z44 => ?_
  obtain ⟨o, es, ho, hc, hd, hk, hp, hn⟩ := x
  refine z44 ?_
  refine ⟨o, es, ep, ho, hc.1, hd, fun e he => ?_, fun k => ?_⟩
  · refine hide fun z45 => ?_
    obtain ⟨k, h1, h2⟩ := hk e he
    obtain ⟨t, h3⟩ := Value.isInt_shape h1
    refine z45 ?_
    exact ⟨k, t, h3, h2⟩
  · have := hp.find k
    unfold findBy
    rw [← Array.find?_toList]
    exact this
theorem sub_dict {e i : PySem.Expr} {d : Addr} {kvs : List (Int × Value)} {ep : Nat} {k : Int} {v : Value} {Q : Value → Lo → AH → Prop} (hd : (d, AO.dict kvs ep) ∈ H) (hv : dval kvs k = some v) (h : Q v m H)
    (hs : ∀ t, subscripted i false (.ref d) (.int k t) = operate [.ref d, .int k t] (getItem (.ref d) (.int k t)) := by intro _; rfl) : SUB C A fx e i (.ref d) (vI k) m H Q X := fun a b ha hb => by
  obtain rfl := er_eq_ref ha; obtain ⟨t, rfl⟩ := er_eq_int hb
  intro s S
  refine hide fun z46 => ?_
  obtain ⟨raw, h1, h2⟩ := S.dictAt hd
  refine z46 ?_
  have e1 := valueAt_er h2 k
  rw [hv] at e1
  refine hide fun z47 => ?_
  obtain ⟨r, e2, e3⟩ := Option.map_eq_some_iff.mp e1
  refine z47 ?_
  refine tail_any h1.dictOf.typeIs slot_dict_getitem.lookup (wpAny_getItem_intMap (intMap_of h1) e2 ⟨m, H, (S.toks _).1, (S.toks _).2, by show Q (er _) m H; rw [e3]; exact h⟩) (hs t)

theorem slicePick_map (vs : Array Value) (f : Value → Value) (lo hi st : Option Int) : (slicePick vs lo hi st).toList.map f = (slicePick (vs.map f) lo hi st).toList := by
  unfold slicePick
  simp only [Array.size_map]
  have key : ∀ (l : List Nat), (l.filterMap (vs[·]?)).map f = l.filterMap ((vs.map f)[·]?) := by
    intro l
    induction l with
    | nil => rfl
    | cons x r ih =>
      simp only [List.filterMap_cons, Array.getElem?_map]
      cases vs[x]? with
      | none => simpa using ih
      | some y => simp [ih]
  simp [key]
noncomputable def pickL (xs : List Value) (lo hi st : Option Int) : List Value := (slicePick xs.toArray lo hi st).toList
noncomputable def EP (C : Cfg) (A : Around) (fx : Fx) (e : Option PySem.Expr) (m : Lo) (H : AH) (Q : Value → Lo → AH → Prop) (X : Value → Lo → AH → Prop) : Prop := AW C A fx (valueOrNone (evalOpt e fx.env)) m H (fun v => Q (er v)) X
theorem ep_none {Q : Value → Lo → AH → Prop} (h : Q .none m H) : EP C A fx none m H Q X := aw_pure h
theorem ep_some {e : PySem.Expr} {Q : Value → Lo → AH → Prop} (h : EV C A fx e m H Q X) : EP C A fx (some e) m H Q X := h
noncomputable def partV : Option Int → Value
  | none => .none
  | some i => vI i
theorem isPart_of {v : Value} {k : Option Int} (h : er v = partV k) : IsPart v k := by
  cases k with
  | none => rw [er_eq_none h]; exact .none
  | some i => obtain ⟨t, rfl⟩ := er_eq_int h; exact .int i t
theorem aw_new {T : String} {d : Data} {ao : AO} {Q : Value → Lo → AH → Prop} (hr : OR C { cls := .type T, data := d } ao) (hf : ({ cls := .type T, data := d } : Obj).isFreed = false) (hz : sizeOk d) (h : ∀ a, a ∉ H.keys → Q (.ref a) m ((a, ao) :: H)) (hao : ao.isGen = false := by rfl) :
    AW C A fx (newObj (.type T) d) m H Q X := fun s S => by
  obtain ⟨S', E⟩ := S.push hr hf hao
  exact wpAny_newObj_type ⟨m, _, S', E, h _ fun hm => Nat.lt_irrefl _ (S.key_lt hm)⟩ hz
theorem aw_newList {vs : List Value} {Q : Value → Lo → AH → Prop} (hz : vs.length ≤ 1000000) (h : ∀ a, a ∉ H.keys → Q (.ref a) m ((a, AO.list (vs.map er)) :: H)) : AW C A fx (newList vs) m H Q X :=
  aw_new (ao := .list (vs.map er)) ⟨rfl, ⟨rfl, rfl⟩, _, _, rfl, by simp⟩ rfl (by show vs.toArray.size ≤ sizeLine; rw [sizeLine_eq, List.size_toArray]; omega) h
theorem aw_newTuple {vs : List Value} {Q : Value → Lo → AH → Prop} (hz : vs.length ≤ 1000000) (h : ∀ a, a ∉ H.keys → Q (.ref a) m ((a, AO.tup (vs.map er)) :: H)) : AW C A fx (newTuple vs) m H Q X :=
  aw_new (ao := .tup (vs.map er)) ⟨rfl, ⟨rfl, rfl⟩, _, _, rfl, by simp⟩ rfl (by show vs.toArray.size ≤ sizeLine; rw [sizeLine_eq, List.size_toArray]; omega) h
theorem aw_newFields {T : String} {vs : List Value} {Q : Value → Lo → AH → Prop} (hz : vs.length ≤ 1000000) (h : ∀ a, a ∉ H.keys → Q (.ref a) m ((a, AO.flds (.type T) (vs.map er)) :: H)) : AW C A fx (newFields T vs) m H Q X :=
  aw_new (ao := .flds (.type T) (vs.map er)) ⟨rfl, ⟨rfl, rfl⟩, _, rfl, by simp⟩ rfl (by show vs.toArray.size ≤ sizeLine + 2; rw [sizeLine_eq, List.size_toArray]; omega) h

theorem ev_subslice {e : PySem.Expr} {lo hi st : Option PySem.Expr} {p pos : Pos} {Q : Value → Lo → AH → Prop}
    (h : EV C A fx e m H (fun x m₁ H₁ => EP C A fx lo m₁ H₁ (fun l m₂ H₂ => EP C A fx hi m₂ H₂ (fun u m₃ H₃ => EP C A fx st m₃ H₃ (fun k m₄ H₄ =>
      ∃ r xs l' u' k', x = .ref r ∧ (r, AO.list xs) ∈ H₄ ∧ l = partV l' ∧ u = partV u' ∧ k = partV k' ∧ k' ≠ some 0 ∧ xs.length ≤ 1000000 ∧ ∀ a, a ∉ H₄.keys → Q (.ref a) m₄ ((a, AO.list (pickL xs l' u' k')) :: H₄)) X) X) X) X)
    (hs : ∀ x i, ∃ ops, subscripted (.Slice lo hi st p) false x i = operate ops (getItem x i) := by intro _ _; exact ⟨_, rfl⟩) :
    EV C A fx (.Subscript e (.Slice lo hi st p) pos) m H Q X := by
  show AW C A fx (eval _ _) m H _ X
  rw [eval_Subscript]
  refine aw_bind (aw_mono h (fun o m₁ H₁ h₁ => aw_bind (aw_holding ?_)) fun _ _ _ x => x)
  rw [arm_eval_Slice]
  refine aw_bind (aw_mono h₁ (fun l m₂ H₂ h₂ => aw_bind (aw_holding (aw_mono h₂ (fun u m₃ H₃ h₃ => aw_bind (aw_holding (aw_mono h₃ (fun k m₄ H₄ h₄ => ?_) fun _ _ _ x => x))) fun _ _ _ x => x))) fun _ _ _ x => x)
  refine hide fun z48 => ?_
  obtain ⟨r, xs, l', u', k', e0, e1, e2, e3, e4, e5, e6, hq⟩ := h₄
  refine z48 ?_
  obtain rfl := er_eq_ref e0
  refine aw_newFields (by simp) fun a ha => aw_bind (aw_standAt ?_)
  obtain ⟨ops, hops⟩ := hs (.ref r) (.ref a)
  refine aw_forget ?_
  intro s S
  refine hide fun z49 => ?_
  obtain ⟨vs, h1, h2⟩ := S.isList (List.mem_cons_of_mem _ e1)
  obtain ⟨o, ho, c1, c2, ws, c3, c4⟩ := S.get (List.mem_cons_self)
  obtain ⟨l₁, ws⟩ : ∃ l, ws = l.toArray := ⟨ws.toList, rfl⟩
  refine z49 ?_
  subst ws
  obtain ⟨a1, a2, a3, e1', f1, f2, f3⟩ : ∃ a1 a2 a3, l₁ = [a1, a2, a3] ∧ er a1 = er l ∧ er a2 = er u ∧ er a3 = er k := by
    rcases l₁ with _ | ⟨a1, _ | ⟨a2, _ | ⟨a3, _ | ⟨a4, l₁⟩⟩⟩⟩
    · simp at c4
    · simp at c4
    · simp at c4
    · simp at c4; exact ⟨a1, a2, a3, rfl, c4.1, c4.2.1, c4.2.2⟩
    · simp at c4
  subst e1'
  have hsl : s.heap.IsSliceOf a a1 a2 a3 := ⟨o, ho, c1, c3⟩
  refine tail_any h1.typeIs slot_list_getitem.lookup (wpAny_getItem_list_slice h1 hsl (isPart_of (f1.trans e2)) (isPart_of (f2.trans e3)) (isPart_of (f3.trans e4)) e5 ?_ (by rw [size_of_er h2, sizeLine_eq]; omega)) hops
  obtain ⟨S₂, E₂⟩ := S.push (o := { cls := .type "list", data := .seq (slicePick vs l' u' k') }) (ao := .list (pickL xs l' u' k')) ⟨rfl, ⟨rfl, rfl⟩, _, _, rfl, by
    rw [slicePick_map]; unfold pickL; rw [← h2]; exact congrArg (fun q => (slicePick q l' u' k').toList) (Array.toList_inj.mp (by simp))⟩
  refine ⟨m₄, _, S₂, E₂, _, List.Sublist.cons_cons _ (List.Sublist.cons _ (List.Sublist.refl _)), hq _ fun hm => ?_⟩
  exact Nat.lt_irrefl _ (S.key_lt (List.mem_cons_of_mem _ hm))
end
end Mine

namespace Mine
open PySem PySem.W PyProof.Rows
open Sem (wp)

section
variable {α : Type} {C : Cfg} {A : Around} {fx : Fx} {m m' : Lo} {H H' : AH} {X : Value → Lo → AH → Prop} {K : Frag}

noncomputable abbrev EVS (C : Cfg) (A : Around) (fx : Fx) (es : List PySem.Expr) (pos : Pos) (m : Lo) (H : AH) (Q : List Value → Lo → AH → Prop) (X : Value → Lo → AH → Prop) : Prop :=
  AW C A fx (spliced (backTo pos (starEach es fx.env))) m H (fun vs => Q (vs.map er)) X
theorem evs_nil {pos : Pos} {Q : List Value → Lo → AH → Prop} (h : Q [] m H) : EVS C A fx [] pos m H Q X := aw_pure h
theorem evs_cons {e : PySem.Expr} {r : List PySem.Expr} {pos : Pos} {Q : List Value → Lo → AH → Prop} (h : EV C A fx e m H (fun v m₁ H₁ => EVS C A fx r pos m₁ H₁ (fun vs => Q (v :: vs)) X) X)
    (hs : starEach (e :: r) fx.env = (false, eval e fx.env) :: starEach r fx.env := by rfl) : EVS C A fx (e :: r) pos m H Q X := by
  show AW C A fx (spliced (backTo pos (starEach (e :: r) fx.env))) m H _ X
  rw [hs]
  show AW C A fx (spliced ((false, eval e fx.env) :: backTo pos (starEach r fx.env))) m H _ X
  rw [spliced]
  refine aw_bind (aw_mono h (fun v _ _ h₁ => ?_) fun _ _ _ x => x)
  simp only [Bool.false_eq_true, if_false]
  exact aw_bind (aw_pure (aw_bind (aw_holding (aw_mono h₁ (fun vs _ _ h₂ => aw_pure h₂) fun _ _ _ x => x))))

noncomputable def COLL (C : Cfg) (A : Around) (fx : Fx) (x : Value) (m : Lo) (H : AH) (Q : List Value → Lo → AH → Prop) (X : Value → Lo → AH → Prop) : Prop :=
  ∀ a, er a = x → AW C A fx (notIterableAtAll a) m H (fun b m₁ H₁ => b = false ∧ AW C A fx (collect a) m₁ H₁ (fun vs => Q (vs.map er)) X) X
theorem notIter_look {s : Shared} {a : Value} {T id : String} {M : Model} {Q' : Bool → Shared → Prop} {E' : Value → Shared → Prop} (hT : s.TypeIs a T) (hl : typeLookup (.type T) "__iter__" = pure (some (.builtin id))) (q : Q' false s) : wpAny M A (notIterableAtAll a) Q' E' s := by
  unfold notIterableAtAll
  refine wpAny_bind (wpAny_specialOf hT hl ?_)
  exact wpAny_pure q
theorem coll_list {l : Addr} {xs : List Value} {Q : List Value → Lo → AH → Prop} (hl : (l, AO.list xs) ∈ H) (hz : xs.length ≤ 1000000) (h : Q xs m H) : COLL C A fx (.ref l) m H Q X := fun a ha => by
  obtain rfl := er_eq_ref ha
  refine aw_look false (fun s S Q' E' q => ?_) ⟨rfl, ?_⟩
  · refine hide fun z50 => ?_
    obtain ⟨vs, h1, h2⟩ := S.isList hl
    refine z50 ?_
    exact notIter_look h1.typeIs slot_list_iter.lookup q
  · intro s S
    refine hide fun z51 => ?_
    obtain ⟨vs, ⟨o, ho, hc, n, hd⟩, h2⟩ := S.isList hl
    refine z51 ?_
    exact wpAny_collect_seq l (.inl rfl) ho hc hd (fun h' hk => ⟨m, H, (S.keeps (s' := { s with heap := h' }) hk).1, (S.keeps (s' := { s with heap := h' }) hk).2, by show Q (vs.toList.map er) m H; rw [h2]; exact h⟩) (by rw [size_of_er h2, sizeLine_eq]; omega)
theorem coll_tup {l : Addr} {xs : List Value} {Q : List Value → Lo → AH → Prop} (hl : (l, AO.tup xs) ∈ H) (hz : xs.length ≤ 1000000) (h : Q xs m H) : COLL C A fx (.ref l) m H Q X := fun a ha => by
  obtain rfl := er_eq_ref ha
  refine aw_look false (fun s S Q' E' q => ?_) ⟨rfl, ?_⟩
  · refine hide fun z52 => ?_
    obtain ⟨vs, h1, h2⟩ := S.isTup hl
    refine z52 ?_
    exact notIter_look h1.typeIs slot_tuple_iter.lookup q
  · intro s S
    refine hide fun z53 => ?_
    obtain ⟨vs, ⟨o, ho, hc, n, hd⟩, h2⟩ := S.isTup hl
    refine z53 ?_
    exact wpAny_collect_seq l (.inr rfl) ho hc hd (fun h' hk => ⟨m, H, (S.keeps (s' := { s with heap := h' }) hk).1, (S.keeps (s' := { s with heap := h' }) hk).2, by show Q (vs.toList.map er) m H; rw [h2]; exact h⟩) (by rw [size_of_er h2, sizeLine_eq]; omega)
theorem evs_star {e : PySem.Expr} {p : Pos} {r : List PySem.Expr} {pos : Pos} {Q : List Value → Lo → AH → Prop}
    (h : EV C A fx e m H (fun v m₁ H₁ => COLL C A fx v m₁ H₁ (fun xs m₂ H₂ => EVS C A fx r pos m₂ H₂ (fun vs => Q (xs ++ vs)) X) X) X) : EVS C A fx (.Starred e p :: r) pos m H Q X := by
  show AW C A fx (spliced ((true, do let v ← eval e fx.env; standAt pos; pure v) :: backTo pos (starEach r fx.env))) m H _ X
  rw [spliced]
  refine aw_bind (aw_bind (aw_mono h (fun v m₁ H₁ h₁ => ?_) fun _ _ _ x => x))
  refine aw_bind (aw_standAt ?_)
  refine aw_pure ?_
  simp only [if_true]
  refine aw_bind (aw_mono (h₁ v rfl) (fun b m₂ H₂ hb => ?_) fun _ _ _ x => x)
  obtain ⟨rfl, hb⟩ := hb
  simp only [Bool.false_eq_true, if_false]
  refine aw_bind (aw_mono hb (fun xs m₃ H₃ h₃ => aw_bind (aw_holding (aw_mono h₃ (fun vs _ _ h₄ => aw_pure ?_) fun _ _ _ x => x))) fun _ _ _ x => x)
  rw [List.map_append]; exact h₄

noncomputable def EVA (C : Cfg) (A : Around) (fx : Fx) (es : List PySem.Expr) (pos : Pos) (m : Lo) (H : AH) (Q : List Value → Lo → AH → Prop) (X : Value → Lo → AH → Prop) : Prop :=
  ∀ g, AW C A fx (evalArgs g true (backTo pos (starEach es fx.env)) []) m H (fun a m₁ H₁ => a.kw = [] ∧ Q (a.pos.map er) m₁ H₁) X
noncomputable def loneStar : List PySem.Expr → Bool
  | [.Starred ..] => true
  | _ => false
theorem star_cons (e : PySem.Expr) (r : List PySem.Expr) (env : Env) : ∃ s, starEach (e :: r) env = (loneStar [e], s) :: starEach r env := by cases e <;> exact ⟨_, rfl⟩
theorem evalArgs_plain (g : Value) (pos : Pos) (l : List (Bool × Sem Value)) (hl : ∀ s, l ≠ [(true, s)]) : evalArgs g true (backTo pos l) [] = (do
      let pos ← spliced (backTo pos l)
      holding (pos ++ []) (do let kw := ([] : List PySem.Str).zip (← evalAll []); return ⟨← pure pos, kw⟩)) := by
  rcases l with _ | ⟨⟨_ | _, s⟩, _ | ⟨y, r⟩⟩
  · rfl
  · rfl
  · rfl
  · exact absurd rfl (hl s)
  · rfl
theorem eva_plain {es : List PySem.Expr} {pos : Pos} {Q : List Value → Lo → AH → Prop} (h : EVS C A fx es pos m H Q X) (hl : loneStar es = false := by rfl) : EVA C A fx es pos m H Q X := by
  intro g
  show AW C A fx (evalArgs g true (backTo pos (starEach es fx.env)) []) m H _ X
  rw [evalArgs_plain g pos _ (by
    intro s hs
    rcases es with _ | ⟨e, r⟩
    · cases hs
    · obtain ⟨s', h'⟩ := star_cons e r fx.env
      rw [h'] at hs
      injection hs with h1 h2
      injection h1 with h1 _
      rcases r with _ | ⟨e', r⟩
      · rw [h1] at hl; cases hl
      · obtain ⟨s'', h''⟩ := star_cons e' r fx.env
        rw [h''] at h2; cases h2)]
  refine aw_bind (aw_mono h (fun vs m₁ H₁ h₁ => aw_holding ?_) fun _ _ _ x => x)
  exact aw_bind (aw_pure (aw_bind (aw_pure (aw_pure ⟨rfl, h₁⟩))))
theorem eva_lone {e : PySem.Expr} {p pos : Pos} {Q : List Value → Lo → AH → Prop} (h : EV C A fx e m H (fun v m₁ H₁ => COLL C A fx v m₁ H₁ Q X) X) : EVA C A fx [.Starred e p] pos m H Q X := by
  intro g
  show AW C A fx (evalArgs g true [(true, do let v ← eval e fx.env; standAt pos; pure v)] []) m H _ X
  unfold evalArgs
  refine aw_bind (aw_bind (aw_mono h (fun v m₁ H₁ h₁ => ?_) fun _ _ _ x => x))
  refine aw_bind (aw_standAt ?_)
  refine aw_pure ?_
  refine aw_bind (aw_pure ?_)
  refine aw_holding ?_
  refine aw_bind (aw_pure ?_)
  refine aw_bind (aw_bind (aw_mono (h₁ v rfl) (fun b m₂ H₂ hb => ?_) fun _ _ _ x => x))
  obtain ⟨rfl, hb⟩ := hb
  simp only [Bool.false_eq_true, if_false]
  refine aw_holding (aw_mono hb (fun vs _ _ h₂ => ?_) fun _ _ _ x => x)
  exact aw_pure ⟨rfl, h₂⟩

noncomputable def KP (C : Cfg) (A : Around) (fx : Fx) (f : Value) (m : Lo) (H : AH) : Prop := ∀ g, er g = f → ∀ s, St C A fx m H s → ∀ (Q' : Keeper → Shared → Prop) E', (∀ k, Q' k s) → wpAny (model C.prog C.w) A (keeperOf g) Q' E' s
theorem kp_builtin {id : String} : KP C A fx (.builtin id) m H := fun g hg s S Q' E' q => by obtain rfl := er_eq_builtin hg; exact wpAny_pure (q _)
theorem kp_type {n : String} : KP C A fx (.type n) m H := fun g hg s S Q' E' q => by obtain rfl := er_eq_type hg; exact wpAny_pure (q _)
theorem kp_fn {f : Addr} {o : Obj} {fd : FuncData} (ho : C.h₀.get? f = some o) (hd : o.data = .func fd) : KP C A fx (.ref f) m H := fun g hg s S Q' E' q => by
  obtain rfl := er_eq_ref hg
  refine wpAny_bind (wpAny_load (S.base _ _ ho) ?_)
  rw [hd]; exact wpAny_pure (q _)
theorem kp_cls {f : Addr} {o : Obj} {cd : ClassData} (ho : C.h₀.get? f = some o) (hd : o.data = .cls cd) (hX : K.In C.h₀) (hs : specialIn K (.ref f) "__call__" = some (some (.builtin "type.__call__"))) : KP C A fx (.ref f) m H := fun g hg s S Q' E' q => by
  obtain rfl := er_eq_ref hg
  refine wpAny_bind (wpAny_load (S.base _ _ ho) ?_)
  rw [hd]
  refine wpAny_bind ((looks_specialIn (hX.keeps S.base) hs).here (wpAny_pure (q _)))
theorem kp_method {f : Addr} {g : Addr} {vs : List Value} {o : Obj} {fd : FuncData} (hf : (f, AO.flds (.type "method") (.ref g :: vs)) ∈ H) (ho : C.h₀.get? g = some o) (hd : o.data = .func fd) : KP C A fx (.ref f) m H := fun g' hg s S Q' E' q => by
  obtain rfl := er_eq_ref hg
  refine hide fun z54 => ?_
  obtain ⟨o', ho', c1, c2, ws, c3, c4⟩ := S.get hf
  obtain ⟨l, rfl⟩ : ∃ l, ws = List.toArray l := ⟨ws.toList, rfl⟩
  refine z54 ?_
  cases l with
  | nil => simp at c4
  | cons a l =>
    simp only [List.map_cons, List.cons.injEq] at c4
    obtain rfl := er_eq_ref c4.1
    refine wpAny_bind (wpAny_load ho' ?_)
    rw [c3]
    dsimp only
    rw [c1]
    rw [if_neg (by simp)]
    show wpAny _ _ (load g >>= _) _ _ _
    refine wpAny_bind (wpAny_load (S.base _ _ ho) ?_)
    rw [hd]
    exact wpAny_pure (q _)
theorem kp_bmethod {f : Addr} {T : String} {vs : List Value} (hf : (f, AO.flds (.type T) vs) ∈ H) (hT : T = "builtin_function_or_method" ∨ T = "method-wrapper") : KP C A fx (.ref f) m H := fun g' hg s S Q' E' q => by
  obtain rfl := er_eq_ref hg
  refine hide fun z55 => ?_
  obtain ⟨o', ho', c1, c2, ws, c3, c4⟩ := S.get hf
  refine z55 ?_
  refine wpAny_bind (wpAny_load ho' ?_)
  rw [c3]
  dsimp only
  rw [c1]
  rcases hT with rfl | rfl
  · rw [if_pos (by decide)]
    exact wpAny_pure (q _)
  · rw [if_pos (by decide)]
    exact wpAny_pure (q _)

noncomputable def CW (C : Cfg) (A : Around) (fx : Fx) (f : Value) (first : List Value) (es : List PySem.Expr) (pos : Pos) (m : Lo) (H : AH) (Q : Value → Lo → AH → Prop) (X : Value → Lo → AH → Prop) : Prop :=
  ∀ pos' g vs, er g = f → vs.map er = first → AW C A fx (callWith pos' g vs (backTo pos (starEach es fx.env)) []) m H (fun v => Q (er v)) X
theorem cw {f : Value} {first : List Value} {es : List PySem.Expr} {pos : Pos} {Q : Value → Lo → AH → Prop}
    (h : EVA C A fx es pos m H (fun xs m₁ H₁ => KP C A fx f m₁ H₁ ∧ CALL C A fx f (first ++ xs) m₁ H₁ Q X) X) : CW C A fx f first es pos m H Q X := by
  intro pos' g vs hg hvs
  unfold callWith
  refine aw_bind (aw_holding (aw_mono (h g) (fun a m₁ H₁ h₁ => aw_bind (aw_standAt ?_)) fun _ _ _ x => x))
  refine hide fun z56 => ?_
  obtain ⟨pl, kw⟩ := a
  obtain ⟨hkw, kp, hc⟩ := h₁
  refine z56 ?_
  dsimp only at hkw hc
  subst hkw
  have hc' := hc g (vs ++ pl) hg (by rw [List.map_append, hvs])
  have tail : ∀ {t : Sem Value}, AW C A fx t m₁ H₁ (fun v => Q (er v)) X → AW C A fx (t >>= fun r => holding [r] point >>= fun _ => pure r) m₁ H₁ (fun v => Q (er v)) X :=
    fun ht => aw_bind (aw_mono ht (fun r _ _ hr => aw_bind (aw_holding (aw_point (aw_pure hr)))) fun _ _ _ x => x)
  dsimp only
  refine aw_bind (m := m₁) (Q := _) (fun s S => kp g hg s S _ _ fun k => ⟨m₁, H₁, S, Ext.refl' S, ?_⟩)
  cases k <;> cases ((backTo pos (starEach es fx.env)).any fun x => x.1) <;> simp only [List.any_nil, Bool.or_false] <;>
    first
    | exact tail (by unfold callMarked; exact aw_keep hc')
    | exact tail hc'
    | exact tail (aw_operate hc')
    | (split <;> first | exact tail hc' | exact tail (by unfold callMarked; exact aw_keep hc'))
theorem ev_call {f : PySem.Expr} {es : List PySem.Expr} {pos : Pos} {Q : Value → Lo → AH → Prop} (h : EV C A fx f m H (fun x m₁ H₁ => CW C A fx x [] es pos m₁ H₁ Q X) X)
    (hc : eval (.Call f es [] pos) fx.env = (eval f fx.env >>= fun g => callWith pos g [] (backTo pos (starEach es fx.env)) (backToKw pos (keywordEach [] fx.env))) := by rfl) : EV C A fx (.Call f es [] pos) m H Q X := by
  show AW C A fx (eval _ _) m H _ X
  rw [hc]
  exact aw_bind (aw_mono h (fun g _ _ h₁ => h₁ pos g [] rfl rfl) fun _ _ _ x => x)

noncomputable def GM (C : Cfg) (A : Around) (fx : Fx) (x : Value) (n : PySem.Str) (m : Lo) (H : AH) (Q : Value → List Value → Lo → AH → Prop) (X : Value → Lo → AH → Prop) : Prop :=
  ∀ a pl, er a = x → AW C A fx (getMethod a n pl) m H (fun p => Q (er p.1) (p.2.map er)) X
theorem ev_mcall {o : PySem.Expr} {n : PySem.Str} {es : List PySem.Expr} {ap pos : Pos} {Q : Value → Lo → AH → Prop}
    (h : EV C A fx o m H (fun x m₁ H₁ => GM C A fx x n m₁ H₁ (fun f first m₂ H₂ => CW C A fx f first es pos m₂ H₂ Q X) X) X)
    (hb : attributeBase o n fx.env (eval o fx.env) = eval o fx.env := by rfl) (hf : methodCallForm (es.length + 0) (backTo pos (starEach es fx.env)) (backToKw pos (keywordEach [] fx.env)) = true := by rfl) (hl : (ap.endLine == pos.line) = true := by rfl) :
    EV C A fx (.Call (.Attribute o n ap) es [] pos) m H Q X := by
  show AW C A fx (eval _ _) m H _ X
  rw [arm_eval_Call, hb]
  refine aw_bind (aw_mono h (fun a m₁ H₁ h₁ => aw_bind (aw_standAt ?_)) fun _ _ _ x => x)
  unfold methodCall
  rw [show (es.length + ([] : List PySem.Keyword).length) = es.length + 0 from rfl, hf]
  unfold calleeOf methodCallPos
  rw [if_pos rfl]
  simp only [hl, Bool.not_true, Bool.false_or, if_true]
  refine aw_bind (aw_holding (aw_mono (h₁ a _ rfl) (fun p m₂ H₂ h₂ => ?_) fun _ _ _ x => x))
  exact aw_bind (aw_pure (h₂ pos p.1 p.2 rfl rfl))
theorem ev_mstar {o : PySem.Expr} {n : PySem.Str} {es : List PySem.Expr} {ap pos : Pos} {Q : Value → Lo → AH → Prop}
    (h : EV C A fx o m H (fun x m₁ H₁ => GA C A fx x n m₁ H₁ (fun f m₂ H₂ => CW C A fx f [] es pos m₂ H₂ Q X) X) X)
    (hb : attributeBase o n fx.env (eval o fx.env) = eval o fx.env := by rfl) (hf : methodCallForm (es.length + 0) (backTo pos (starEach es fx.env)) (backToKw pos (keywordEach [] fx.env)) = false := by rfl) :
    EV C A fx (.Call (.Attribute o n ap) es [] pos) m H Q X := by
  show AW C A fx (eval _ _) m H _ X
  rw [arm_eval_Call, hb]
  refine aw_bind (aw_mono h (fun a m₁ H₁ h₁ => aw_bind (aw_standAt ?_)) fun _ _ _ x => x)
  unfold methodCall
  rw [show (es.length + ([] : List PySem.Keyword).length) = es.length + 0 from rfl, hf]
  unfold calleeOf methodCallPos
  simp only [Bool.false_eq_true, if_false, Bool.not_false, Bool.true_or, if_true]
  refine aw_bind (aw_holding (aw_bind (aw_mono (h₁ a rfl) (fun f m₂ H₂ h₂ => aw_pure ?_) fun _ _ _ x => x)))
  exact aw_bind (aw_pure (h₂ pos f [] rfl rfl))
end
end Mine

namespace Mine
open PySem PySem.W PyProof.Rows
open Sem (wp)

section
variable {α : Type} {C : Cfg} {A A' : Around} {fx fx' : Fx} {m m' : Lo} {H H' : AH} {X : Value → Lo → AH → Prop} {K : Frag} {s s' : Shared}

theorem St.inA (S : St C A fx m H s) (e : A'.frames = A.frames) : St C A' fx m H s := { S with frs := e ▸ S.frs, frA := fun b hb => S.frA b (by unfold frameAddrs at hb ⊢; rw [← e]; exact hb) }
theorem Ext.inA (E : Ext A fx H s H' s') (e : A'.frames = A.frames) : Ext A' fx H s H' s' :=
  ⟨E.fresh, fun b o h1 h2 h3 => let ⟨sl, a, c⟩ := E.hid b o h1 h2 h3; ⟨sl, a, fun h => c (by unfold frameAddrs at h ⊢; rw [← e]; exact h)⟩, E.wapart⟩
theorem bindL_get {k : PySem.Str → Option NameKind} : ∀ {binds : List (PySem.Str × Value)} {m : PySem.Str → Option Value} {n : PySem.Str} {v : Value}, (binds.map (·.1)).Nodup → (n, v) ∈ binds → k n = some .local → bindL k binds m n = some v
  | (n', v') :: r, m, n, v, hn, hm, hk => by
    obtain ⟨h1, h2⟩ := List.nodup_cons.mp hn
    have keep : ∀ (r : List (PySem.Str × Value)) (m : PySem.Str → Option Value), n ∉ r.map (·.1) → bindL k r m n = m n := by
      intro r
      induction r with
      | nil => intro m _; rfl
      | cons p r ih =>
        intro m hp
        obtain ⟨a, b⟩ := p
        rw [List.map_cons, List.mem_cons, not_or] at hp
        unfold bindL
        rw [ih _ hp.2]
        split
        · exact if_neg hp.1
        · rfl
    unfold bindL
    rcases List.mem_cons.mp hm with e | hm
    · cases e
      rw [keep r _ h1, if_pos hk]
      exact if_pos rfl
    · exact bindL_get h2 hm hk
theorem bindC_get {k : PySem.Str → Option NameKind} : ∀ {binds : List (PySem.Str × Value)} {m : PySem.Str → Option Value} {n : PySem.Str} {v : Value}, (binds.map (·.1)).Nodup → (n, v) ∈ binds → k n = some .cell → bindC k binds m n = some v
  | (n', v') :: r, m, n, v, hn, hm, hk => by
    obtain ⟨h1, h2⟩ := List.nodup_cons.mp hn
    have keep : ∀ (r : List (PySem.Str × Value)) (m : PySem.Str → Option Value), n ∉ r.map (·.1) → bindC k r m n = m n := by
      intro r
      induction r with
      | nil => intro m _; rfl
      | cons p r ih =>
        intro m hp
        obtain ⟨a, b⟩ := p
        rw [List.map_cons, List.mem_cons, not_or] at hp
        unfold bindC
        rw [ih _ hp.2]
        split
        · rfl
        · exact if_neg hp.1
    unfold bindC
    rcases List.mem_cons.mp hm with e | hm
    · cases e
      rw [keep r _ h1, if_neg (by rw [hk]; decide)]
      exact if_pos rfl
    · exact bindC_get h2 hm hk
theorem cellsFrom_acc : ∀ (names : List (PySem.Str × NameKind)) (n : Nat) (acc : List (PySem.Str × Addr)) (x : PySem.Str), (acc.lookup x).isSome = true ∨ (x, NameKind.cell) ∈ names → ((cellsFrom n names acc).lookup x).isSome = true
  | [], _, _, _, h => by
    rcases h with h | h
    · exact h
    · cases h
  | (y, k) :: r, n, acc, x, h => by
    unfold cellsFrom
    by_cases hk : (k == NameKind.cell) = true
    · rw [if_pos hk]
      refine cellsFrom_acc r _ _ x ?_
      by_cases hxy : x = y
      · subst hxy; left; simp
      · have hb : (x == y) = false := beq_eq_false_iff_ne.mpr hxy
        rcases h with h | h
        · left; rw [List.lookup_cons, hb]; exact h
        · rcases List.mem_cons.mp h with e | h
          · cases e; exact absurd rfl hxy
          · exact .inr h
    · rw [if_neg hk]
      refine cellsFrom_acc r _ _ x ?_
      rcases h with h | h
      · exact .inl h
      · rcases List.mem_cons.mp h with e | h
        · cases e; exact absurd rfl hk
        · exact .inr h
theorem cellsFrom_some {names : List (PySem.Str × NameKind)} {n : Nat} {x : PySem.Str} (h : names.lookup x = some .cell) : ∃ c, (cellsFrom n names []).lookup x = some c :=
  Option.isSome_iff_exists.mp (cellsFrom_acc names n [] x (.inr (mem_of_lookup h)))

noncomputable def erB (binds : List (PySem.Str × Value)) : Lo := binds.map fun b => (b.1, er b.2)

structure FxIs (fx : Fx) (fd : FuncData) (f : Addr) : Prop where
  scope : fx.env.scope = fd.scope
  code : fx.env.code = fd.code
  func : fx.env.func = some f
  frame : fx.env.frame = some fx.env.locals
  qual : fx.env.qual = fd.qualname ++ ".<locals>."
  W : ∀ x c, fx.env.cells.lookup x = some c → c ∈ fx.W
theorem FxIs.kindOf {fd : FuncData} {f : Addr} (h : FxIs fx fd f) (x : PySem.Str) : fx.env.kindOf x = fd.scope.names.lookup x := by unfold Env.kindOf; rw [h.scope]

noncomputable def retV : Flow → Value
  | .ret v => v
  | _ => .none
theorem retV_er {f : Flow} : retV (erF f) = er (retV f) := by cases f <;> rfl

structure BindOk (fd : FuncData) (binds : List (PySem.Str × Value)) : Prop where
  kinds : ∀ x ∈ binds, fd.scope.names.lookup x.1 = some .local ∨ fd.scope.names.lookup x.1 = some .cell
  nodup : (binds.map (·.1)).Nodup

theorem St.enter {fd : FuncData} {f : Addr} {binds : List (PySem.Str × Value)} {env : Env} (S : St C A fx m H s) (hb : BindOk fd binds) (hk : fd.scope.kind = .function) (hg : fd.globals = mainGlobals) (hbi : fd.builtins = builtinsNs)
    (he : env = newEnv fd.scope s.heap.objs.size fd.globals (cellsFrom (s.heap.objs.size + 1) fd.scope.names []) (fd.qualname ++ ".<locals>.") (some f) fd.code none fd.builtins)
    (x : InCallC s env.locals (bindL env.kindOf binds fun _ => none) env.cells (bindC env.kindOf binds fun _ => none) s') :
    let fx' : Fx := ⟨env, env.locals :: env.cells.filterMap fun p => env.cells.lookup p.1⟩
    St C (A.deeper env) fx' (erB binds) H s' ∧ FxIs fx' fd f ∧ ∀ b ∈ fx'.W, s.heap.objs.size ≤ b := by
  intro fx'
  have hL : env.locals = s.heap.objs.size := by rw [he]; rfl
  have hkd : ∀ y, env.kindOf y = fd.scope.names.lookup y := fun y => by rw [he]; rfl
  have hcs : env.cells = cellsFrom (s.heap.objs.size + 1) fd.scope.names [] := by rw [he]; rfl
  have keep := x.toInCall.keep
  refine hide fun z57 => ?_
  obtain ⟨h', tk, hs', _⟩ := x.done
  refine z57 ?_
  have hW : ∀ b ∈ fx'.W, s.heap.objs.size ≤ b := fun b hb => by
    rcases List.mem_cons.mp hb with rfl | hb
    · exact x.toInCall.fresh
    · refine hide fun z58 => ?_
      obtain ⟨p, hp, e⟩ := List.mem_filterMap.mp hb
      refine z58 ?_
      exact Nat.le_of_lt (Nat.lt_of_le_of_lt x.toInCall.fresh (x.above p.1 b (mem_of_lookup e)))
  have lt : ∀ b ∈ H.keys, b < s.heap.objs.size := fun b hb => S.key_lt hb
  have apart : ∀ b ∈ fx'.W, b ∉ H.keys := fun b hb hm => Nat.lt_irrefl _ (Nat.lt_of_lt_of_le (lt b hm) (hW b hb))
  have none' : ∀ b, s.heap.objs.size ≤ b → C.h₀.get? b = none := fun b hb => S.base_none (none_of_le hb)
  have hcell : ∀ y c, env.cells.lookup y = some c → c ∈ fx'.W := fun y c e => List.mem_cons_of_mem _ (List.mem_filterMap.mpr ⟨_, mem_of_lookup e, e⟩)
  refine ⟨⟨fun b o e => keep b o (S.base b o e), fun p hp => let ⟨o, h1, h2⟩ := S.cells p hp; ⟨o, keep _ _ h1, h2⟩, S.low, fun b hb => ?_, S.nodup, apart, (congrArg (fun e : Env => e.scope.kind) he).trans hk, ⟨(congrArg Env.globals he).trans hg, (congrArg Env.builtins he).trans hbi⟩, List.mem_cons_self,
    fun b hb => ?_, ⟨_, x.toInCall.ns⟩, fun y hy => ?_, fun y c e => ?_, fun y z c e1 e2 => name_of_addr x.apart (mem_of_lookup e1) (mem_of_lookup e2), fun y v hv => ?_, ?_, fun b hb => ?_, ?_, ?_, ?_⟩, ⟨congrArg Env.scope he, congrArg Env.code he, congrArg Env.func he, (congrArg Env.frame he).trans (congrArg some hL.symm), congrArg Env.qual he, hcell⟩, hW⟩
  · rcases hb with hb | hb
    · exact S.above b (.inl hb)
    · exact none' b (hW b hb)
  · rcases List.mem_cons.mp hb with rfl | hb
    · obtain ⟨o, _, _, e, _⟩ := x.toInCall.ns; exact ⟨o, e⟩
    · refine hide fun z59 => ?_
      obtain ⟨p, hp, e⟩ := List.mem_filterMap.mp hb
      obtain ⟨o, e, _⟩ := x.cell _ _ e
      refine z59 ?_
      exact ⟨o, e⟩
  · rw [hkd] at hy
    obtain ⟨c, hc⟩ := cellsFrom_some (n := s.heap.objs.size + 1) hy
    exact ⟨c, by rw [hcs]; exact hc⟩
  · exact ⟨⟨_, x.cell y c e⟩, apart c (hcell y c e), none' c (hW c (hcell y c e)), Nat.ne_of_gt (x.above y c (mem_of_lookup e))⟩
  · refine hide fun z60 => ?_
    obtain ⟨p, hp, e⟩ := List.mem_map.mp hv
    refine z60 ?_
    cases e
    rcases hb.kinds p hp with h | h
    · exact .inl ⟨(hkd _).trans h, _, _, x.toInCall.ns, bindL_get hb.nodup hp ((hkd _).trans h), rfl⟩
    · obtain ⟨c, hc⟩ := cellsFrom_some (n := s.heap.objs.size + 1) h
      rw [← hcs] at hc
      exact .inr ⟨.inl ((hkd _).trans h), c, p.2, hc, by have := x.cell _ _ hc; rwa [bindC_get hb.nodup hp ((hkd _).trans h)] at this, rfl⟩
  · refine hide fun z61 => ?_
    obtain ⟨l, hl, hF⟩ := S.frs
    refine z61 ?_
    exact ⟨env :: l, Around.frames_deeper hl, Heap.FunFrames.cons (by rw [show env.scope.kind = .function from (congrArg (fun e : Env => e.scope.kind) he).trans hk]; decide) (by rw [hL]; exact congrArg Env.frame he) x.toInCall.ns (none' _ (hW _ List.mem_cons_self))
      (hF.of_keeps fun b o h1 h2 => ⟨o, keep b o h1, rfl⟩)⟩
  · refine hide fun z62 => ?_
    obtain ⟨l, hl, hF⟩ := S.frs
    refine z62 ?_
    unfold frameAddrs at hb
    rw [Around.frames_deeper hl] at hb
    have hfr : env.frame = some env.locals := by rw [hL]; exact congrArg Env.frame he
    rw [Option.getD_some, List.filterMap_cons, hfr] at hb
    rcases List.mem_cons.mp hb with rfl | hb
    · exact apart _ List.mem_cons_self
    · exact S.frA b (by unfold frameAddrs; rw [hl]; exact hb)
  · rw [hs']; exact S.gens
  · rw [hs']; exact S.os
  · rw [hs']; exact S.gst

theorem St.leave {m'' : Lo} {H'' : AH} {s'' : Shared} {env : Env} {fx' : Fx} (S : St C A fx m H s) (keep : ∀ b o, s.heap.get? b = some o → s'.heap.get? b = some o) (hW : ∀ b ∈ fx'.W, s.heap.objs.size ≤ b)
    (hf : ∃ L ∈ fx'.W, env.frame = some L) (S'' : St C (A.deeper env) fx' m'' H'' s'') (E : Ext (A.deeper env) fx' H s' H'' s'') : St C A fx m H'' s'' ∧ Ext A fx H s H'' s'' := by
  refine hide fun z63 => ?_
  obtain ⟨L, hL, hfL⟩ := hf
  refine z63 ?_
  refine S.upd (fun b o e hn => ?_) S''.cells (fun b hb => ?_) S''.nodup S''.gens (S''.os.trans S.os.symm) S''.gst
  · have hlt := Heap.lt_size e
    have hbW : b ∉ fx'.W := fun h => Nat.lt_irrefl _ (Nat.lt_of_lt_of_le hlt (hW b h))
    refine hide fun z64 => ?_
    obtain ⟨sl, e', hs⟩ := E.hid b o (keep b o e) hn hbW
    refine z64 ?_
    refine ⟨sl, e', fun hA => hs fun hm => ?_⟩
    refine hide fun z65 => ?_
    obtain ⟨l, hl, _⟩ := S.frs
    refine z65 ?_
    unfold frameAddrs at hm hA
    rw [Around.frames_deeper hl, Option.getD_some, List.filterMap_cons, hfL] at hm
    rw [hl] at hA
    rcases List.mem_cons.mp hm with rfl | hm
    · exact hbW hL
    · exact hA hm
  · rcases E.fresh b hb with h | h
    · exact .inl h
    · refine .inr ?_
      cases q : s.heap.get? b with
      | none => rfl
      | some o => rw [keep b o q] at h; cases h

structure FnAt (C : Cfg) (f : Addr) (fd : FuncData) (body : List Stmt) : Prop where
  obj : ∃ o, C.h₀.get? f = some o ∧ o.data = .func fd
  body : fd.body = .stmts body
  clo : fd.closure = []
  glob : fd.globals = mainGlobals
  blt : fd.builtins = builtinsNs
  code : C.h₀.CodeRec fd.code fd.qualname
  limit : C.h₀.NoLimit
  co : fd.scope.isCoroutine = false
  gen : fd.scope.isGenerator = false
  kind : fd.scope.kind = .function

noncomputable def callR (C : Cfg) (A : Around) (fx : Fx) (H : AH) (s : Shared) (Q : Value → Lo → AH → Prop) (X : Value → Lo → AH → Prop) : Result → Shared → Prop := fun r s' => match r with
  | .ok (.ret v) => Po C A fx H s (fun v => Q (er v)) v s'
  | .ok _ => False
  | .error e => Po C A fx H s X e s'
noncomputable def CALLC (C : Cfg) (A : Around) (fx : Fx) (f : Value) (xs : List Value) (m : Lo) (H : AH) (Q : Value → Lo → AH → Prop) (X : Value → Lo → AH → Prop) : Prop := ∀ g vs, er g = f → vs.map er = xs → ∀ s, St C A fx m H s →
  codeAny (model C.prog C.w) A (.call g ⟨vs, []⟩) (callR C A fx H s Q X) s
theorem CALLC.call {f : Value} {xs : List Value} {Q : Value → Lo → AH → Prop} (h : CALLC C A fx f xs m H Q X) : CALL C A fx f xs m H Q X := fun g vs hg hvs s S => wpAny_call (h g vs hg hvs s S)
theorem call_fn {f : Addr} {fd : FuncData} {body : List Stmt} {xs : List Value} {Q : Value → Lo → AH → Prop} (F : FnAt C f fd body) (room : A.depth < recursionLimit)
    (h : ∀ vs, vs.map er = xs → AW C A.in1 fx (bindArgs fd ⟨vs, []⟩) m H (fun binds m₁ H₁ => BindOk fd binds ∧ ∃ X' : Fx → Value → Lo → AH → Prop, (∀ fx', FxIs fx' fd f → EXS C (A.deeper fx'.env) fx' body (erB binds) H₁ (fun fl _ H₂ => Q (retV fl) m₁ H₂) (X' fx')) ∧
      (∀ fx', FxIs fx' fd f → ∀ e m₂ H₂, X' fx' e m₂ H₂ → AW C (A.deeper fx'.env) fx' (leaving fx'.env e) m₂ H₂ (fun _ _ H₃ => X e m₁ H₃) (fun e' _ H₃ => X e' m₁ H₃))) X) :
    CALLC C A fx (.ref f) xs m H Q X := by
  intro g vs hg hvs
  obtain rfl := er_eq_ref hg
  intro s S
  refine hide fun z66 => ?_
  obtain ⟨o, ho, hd⟩ := F.obj
  refine z66 ?_
  refine codeAny_call_function room (S.base _ _ ho) hd F.co F.gen F.body ?_ ?_
  · refine hide fun z67 => ?_
    obtain ⟨c, oc, ws, t, h1, h2, h3, h4⟩ := F.code
    refine z67 ?_
    exact ⟨c, oc, ws, t, h1, S.base _ _ h2, h3, h4⟩
  refine wpAny_mono (h vs hvs s (S.inA rfl)) (fun binds s₁ h₁ => ?_) (fun e s₁ h₁ => ?_)
  · refine hide fun z68 => ?_
    obtain ⟨m₁, H₁, S₁, E₁, hb, X', hbody, hX⟩ := h₁
    refine z68 ?_
    have S₁ := S₁.inA (A' := A) rfl
    have E₁ := E₁.inA (A' := A) rfl
    rw [F.clo]
    refine wpAny_newFunctionEnv_cells F.kind (fun x hx => ?_) fun env he s' x => ?_
    · rcases hb.kinds x hx with h | h
      · exact .inl h
      · obtain ⟨c, hc⟩ := cellsFrom_some (n := s₁.heap.objs.size + 1) h
        exact .inr ⟨h, by rw [hc]; rfl⟩
    refine hide fun z69 => ?_
    obtain ⟨S₂, I, hW⟩ := S₁.enter hb F.kind F.glob F.blt he x
    refine z69 ?_
    have keep := x.toInCall.keep
    have hfr : ∃ L ∈ (⟨env, env.locals :: env.cells.filterMap fun p => env.cells.lookup p.1⟩ : Fx).W, env.frame = some L := ⟨_, List.mem_cons_self, I.frame⟩
    refine ⟨F.limit.keeps fun b o e => S₂.base b o e, codeAny_func (wpAny_mono (hbody _ I s' S₂) (fun fl s₃ h₃ => ?_) fun e s₃ h₃ => ?_)⟩
    · refine hide fun z70 => ?_
      obtain ⟨m₃, H₃, S₃, E₃, q⟩ := h₃
      obtain ⟨S₄, E₄⟩ := S₁.leave keep hW hfr S₃ E₃
      refine z70 ?_
      have q : Q (retV (erF fl)) m₁ H₃ := q
      rw [retV_er] at q
      cases fl <;> exact ⟨m₁, H₃, S₄, E₁.trans E₄, q⟩
    · refine hide fun z71 => ?_
      obtain ⟨m₃, H₃, S₃, E₃, q⟩ := h₃
      refine z71 ?_
      refine wpAny_mono (hX _ I e m₃ H₃ q s₃ S₃) (fun _ s₄ h₄ => ?_) fun e' s₄ h₄ => ?_
      · refine hide fun z72 => ?_
        obtain ⟨m₄, H₄, S₄, E₄, q⟩ := h₄
        obtain ⟨S₅, E₅⟩ := S₁.leave keep hW hfr S₄ (E₃.trans E₄)
        refine z72 ?_
        exact ⟨m₁, H₄, S₅, E₁.trans E₅, q⟩
      · refine hide fun z73 => ?_
        obtain ⟨m₄, H₄, S₄, E₄, q⟩ := h₄
        obtain ⟨S₅, E₅⟩ := S₁.leave keep hW hfr S₄ (E₃.trans E₄)
        refine z73 ?_
        exact ⟨m₁, H₄, S₅, E₁.trans E₅, q⟩
  · refine hide fun z74 => ?_
    obtain ⟨m₁, H₁, S₁, E₁, q⟩ := h₁
    refine z74 ?_
    exact ⟨m₁, H₁, S₁.inA rfl, E₁.inA rfl, q⟩
theorem aw_binds {fd : FuncData} {vs : List Value} {binds : List (PySem.Str × Value)} {Q : List (PySem.Str × Value) → Lo → AH → Prop} (e : bindArgs fd ⟨vs, []⟩ = pure binds) (h : Q binds m H) : AW C A fx (bindArgs fd ⟨vs, []⟩) m H Q X := by
  rw [e]; exact aw_pure h
end
end Mine

namespace Mine
open PySem PySem.W PyProof.Rows
open Sem (wp)

section
variable {α : Type} {C : Cfg} {A A' : Around} {fx fx' : Fx} {m m' m₁ : Lo} {H H' H₁ : AH} {X : Value → Lo → AH → Prop} {K : Frag} {s s' s₁ : Shared} {Q : Flow → Lo → AH → Prop}

structure Off (C : Cfg) (A : Around) (fx : Fx) (I : Addr) : Prop where
  base : C.h₀.get? I = none
  W : I ∉ fx.W
  cell : ∀ x c, fx.env.cells.lookup x = some c → c ≠ I
  frame : I ∉ frameAddrs A
theorem Off.of {I : Addr} (S₁ : St C A fx m₁ H₁ s₁) (hI : s₁.heap.get? I = none) : Off C A fx I := by
  have ne : ∀ b o, s₁.heap.get? b = some o → b ≠ I := fun b o e q => by rw [q, hI] at e; cases e
  refine ⟨S₁.base_none hI, fun hb => let ⟨o, e⟩ := S₁.wlt I hb; ne I o e rfl, fun x c e => let ⟨⟨r, o, ho, _⟩, _⟩ := S₁.cellA x c e; ne c o ho, fun hb => ?_⟩
  refine hide fun z75 => ?_
  obtain ⟨l, hl, hF⟩ := S₁.frs
  refine z75 ?_
  unfold frameAddrs at hb
  rw [hl] at hb
  refine hide fun z76 => ?_
  obtain ⟨_, o', ho', _⟩ := hF.mem hb
  refine z76 ?_
  exact ne _ o' ho' rfl
theorem lt_down {i n : Nat} (h : i < n) : n - (i + 1) < n - i := Nat.sub_lt_sub_left h (Nat.lt_succ_self i)
theorem St.aside {I : Addr} (S : St C A fx m H s) (F : Off C A fx I) (hI : ∀ o, s₁.heap.get? I = some o → I ∈ H₁.keys ∨ I ∈ fx.W) (E : Ext A fx H₁ s₁ H s) (hIH : I ∉ H.keys)
    (hk : ∀ b o, b ≠ I → s.heap.get? b = some o → s'.heap.get? b = some o) (hg : s'.gens = s.gens := by rfl) (hos : s'.os = s.os := by rfl) : St C A fx m H s' ∧ Ext A fx H₁ s₁ H s' := by
  have neW : ∀ b ∈ fx.W, b ≠ I := fun b hb q => F.W (q ▸ hb)
  have neL := neW _ S.locW
  refine ⟨⟨fun b o e => hk b o (fun q => by rw [q, F.base] at e; cases e) (S.base b o e), fun p hp => ?_, S.low, S.above, S.nodup, S.apart, S.kind, S.glob, S.locW, fun b hb => ?_, ?_, S.cellW, fun x c e => ?_, S.cellI, fun x v hv => ?_, ?_, S.frA, hg ▸ S.gens, hos.trans S.os, hg ▸ S.gst⟩,
    ⟨E.fresh, fun b o e h1 h2 => ?_, E.wapart⟩⟩
  · refine hide fun z77 => ?_
    obtain ⟨o, h1, h2⟩ := S.cells p hp
    refine z77 ?_
    exact ⟨o, hk _ _ (fun q => hIH (q ▸ mem_keys hp)) h1, h2⟩
  · obtain ⟨o, e⟩ := S.wlt b hb
    exact ⟨o, hk b o (neW b hb) e⟩
  · obtain ⟨mr, hm⟩ := S.loc
    exact ⟨mr, ns_kept hm fun o e => ⟨o.slots, hk _ _ neL e⟩⟩
  · refine hide fun z78 => ?_
    obtain ⟨⟨r, hr⟩, h1, h2, h3⟩ := S.cellA x c e
    refine z78 ?_
    exact ⟨⟨r, cell_kept hr fun o e' => ⟨o.slots, hk _ _ (F.cell x c e) e'⟩⟩, h1, h2, h3⟩
  · exact vars_kept (S.vars x v hv) (fun o e => ⟨o.slots, hk _ _ neL e⟩) fun c e o e' => ⟨o.slots, hk _ _ (F.cell x c e) e'⟩
  · refine hide fun z79 => ?_
    obtain ⟨l, hl, hF⟩ := S.frs
    refine z79 ?_
    have hfr := F.frame
    unfold frameAddrs at hfr
    rw [hl, Option.getD_some] at hfr
    refine ⟨l, hl, ?_⟩
    clear hl
    induction l with
    | nil => trivial
    | cons env rest ih =>
      refine hide fun z80 => ?_
      obtain ⟨h1, ⟨L, o, hL, hb, ho, hd⟩, hr⟩ := hF
      refine z80 ?_
      rw [List.filterMap_cons, hL] at hfr
      exact ⟨h1, ⟨L, o, hL, hb, hk _ _ (fun q => hfr (q ▸ List.mem_cons_self)) ho, hd⟩, ih hr fun h => hfr (List.mem_cons_of_mem _ h)⟩
  · refine hide fun z81 => ?_
    obtain ⟨sl, e', hs⟩ := E.hid b o e h1 h2
    refine z81 ?_
    exact ⟨sl, hk b _ (fun q => by subst q; rcases hI o e with h | h <;> contradiction) e', hs⟩
theorem St.adopt {I : Addr} {o : Obj} {ao : AO} (S : St C A fx m H s) (F : Off C A fx I) (hI : s₁.heap.get? I = none) (E : Ext A fx H₁ s₁ H s) (hIH : I ∉ H.keys) (hm : sysModules < I) (ho : s.heap.get? I = some o) (hr : OR C o ao) (hao : ao.isGen = false := by rfl) :
    St C A fx m ((I, ao) :: H) s ∧ Ext A fx H₁ s₁ ((I, ao) :: H) s := by
  have neW : ∀ b ∈ fx.W, b ≠ I := fun b hb q => F.W (q ▸ hb)
  have cons : ∀ b, b ≠ I → b ∉ H.keys → b ∉ AH.keys ((I, ao) :: H) := fun b h1 h2 h => (List.mem_cons.mp h).elim h1 h2
  refine ⟨{ S with cells := fun p hp => ?_, above := fun b hb => ?_, nodup := List.nodup_cons.mpr ⟨hIH, S.nodup⟩, apart := fun b hb => cons b (neW b hb) (S.apart b hb), cellA := fun x c e => ?_, frA := fun b hb => cons b (fun q => F.frame (q ▸ hb)) (S.frA b hb), gst := S.gst.of fun p hp => (List.mem_cons.mp hp).elim (fun e => .inr (e ▸ hao)) .inl },
    ⟨fun b hb => ?_, E.hid, fun b hb => cons b (neW b hb) (E.wapart b hb)⟩⟩
  · rcases List.mem_cons.mp hp with rfl | hp
    · exact ⟨o, ho, hr⟩
    · exact S.cells p hp
  · rcases hb with hb | hb
    · rcases List.mem_cons.mp hb with rfl | hb
      · exact F.base
      · exact S.above b (.inl hb)
    · exact S.above b (.inr hb)
  · refine hide fun z82 => ?_
    obtain ⟨h1, h2, h3⟩ := S.cellA x c e
    refine z82 ?_
    exact ⟨h1, cons c (F.cell x c e) h2, h3⟩
  · rcases List.mem_cons.mp hb with rfl | hb
    · exact .inr hI
    · exact E.fresh b hb
theorem Ext.kept {I : Addr} {o : Obj} (E : Ext A fx H s H' s') (S : St C A fx m H s) (ho : s.heap.get? I = some o) (h1 : I ∉ H.keys) (h2 : I ∉ fx.W) (h3 : I ∉ frameAddrs A) : s'.heap.get? I = some o ∧ I ∉ H'.keys := by
  refine hide fun z83 => ?_
  obtain ⟨sl, e, hs⟩ := E.hid I o ho h1 h2
  refine z83 ?_
  rw [hs h3] at e
  refine ⟨e, fun hm => ?_⟩
  rcases E.fresh I hm with h | h
  · exact h1 h
  · rw [ho] at h; cases h
theorem none_notKey {I : Addr} (S₁ : St C A fx m₁ H₁ s₁) (hI : s₁.heap.get? I = none) : I ∉ H₁.keys := fun hm => by obtain ⟨p, hp, e⟩ := List.mem_map.mp hm; obtain ⟨o, ho, _⟩ := S₁.cells p hp; rw [e, hI] at ho; cases ho

theorem ex_pass {pos : Pos} (h : Q .next m H) : EX C A fx (.Pass pos) m H Q X := aw_bind (aw_standAt (aw_pure h))
theorem ex_break {pos : Pos} (h : Q .brk m H) : EX C A fx (.Break pos) m H Q X := aw_bind (aw_standAt (aw_pure h))
theorem ex_continue {pos : Pos} (h : Q .cont m H) : EX C A fx (.Continue pos) m H Q X := aw_bind (aw_standAt (aw_pure h))
theorem ex_return {e : PySem.Expr} {pos : Pos} (h : EV C A fx e m H (fun v => Q (.ret v)) X) : EX C A fx (.Return (some e) pos) m H Q X := by
  show AW C A fx (exec _ _) m H _ X
  rw [arm_exec_Return]
  exact aw_bind (aw_standAt (aw_bind (aw_mono h (fun v _ _ h₁ => aw_pure h₁) fun _ _ _ x => x)))
theorem ex_if {t : PySem.Expr} {b o : List Stmt} {pos : Pos} (h : IT C A fx t m H (fun c m₁ H₁ => if c = true then EXS C A fx b m₁ H₁ Q X else EXS C A fx o m₁ H₁ Q X) X) : EX C A fx (.If t b o pos) m H Q X := by
  show AW C A fx (exec _ _) m H _ X
  rw [arm_exec_If]
  refine aw_bind (aw_standAt (aw_bind (aw_mono h (fun c m₁ H₁ hc => ?_) fun _ _ _ x => x)))
  cases c <;> simpa using hc
theorem ex_expr {e : PySem.Expr} {pos : Pos} (h : EV C A fx e m H (fun _ m₁ H₁ => Q .next m₁ H₁) X) (hs : swapsWith e none pos.line fx.env = pure false := by rfl) : EX C A fx (.Expr e pos) m H Q X := by
  intro s S
  have hi : interactive fx.env = false := by unfold interactive; rw [S.kind]; rfl
  rw [arm_exec_Expr, hi, hs]
  refine wpAny_bind (wpAny_standAt ?_)
  rw [if_neg (by decide)]
  refine wpAny_bind (wpAny_pure ?_)
  rw [if_neg (by decide)]
  refine wpAny_bind (wpAny_mono (h s S) (fun v s₁ h₁ => ?_) fun _ _ x => x)
  exact wpAny_dropValue (h₁.to fun _ _ q => q)

noncomputable def ASG (C : Cfg) (A : Around) (fx : Fx) (t : PySem.Expr) (v : Value) (m : Lo) (H : AH) (Q : Lo → AH → Prop) (X : Value → Lo → AH → Prop) : Prop := ∀ a, er a = v → AW C A fx (assign t fx.env a) m H (fun _ => Q) X
theorem asg_name {x : PySem.Str} {pos : Pos} {v : Value} {Q : Lo → AH → Prop} (hk : Own fx x) (h : Q (m.put x v) H) : ASG C A fx (.Name x pos) v m H Q X := fun a ha => by
  rw [arm_assign_Name]
  exact aw_bind (aw_standAt (aw_bindName (aw_store hk (by rw [ha]; exact h))))
theorem asg_attr {o : PySem.Expr} {n : PySem.Str} {pos : Pos} {v : Value} {Q : Lo → AH → Prop} (h : EV C A fx o m H (fun x m₁ H₁ => SA C A fx x n v m₁ H₁ Q X) X) : ASG C A fx (.Attribute o n pos) v m H Q X := fun a ha => by
  rw [arm_assign_Attribute]
  exact aw_bind (aw_holding (aw_mono h (fun x m₁ H₁ h₁ => aw_bind (aw_standAt (aw_bind (aw_holding (aw_mono (h₁ x a rfl ha) (fun _ _ _ h₂ => aw_release h₂) fun _ _ _ x => x))))) fun _ _ _ x => x))
theorem asg_sub {o i : PySem.Expr} {pos : Pos} {v : Value} {Q : Lo → AH → Prop} (h : EV C A fx o m H (fun x m₁ H₁ => EV C A fx i m₁ H₁ (fun y m₂ H₂ => SI C A fx x y v m₂ H₂ Q X) X) X) : ASG C A fx (.Subscript o i pos) v m H Q X := fun a ha => by
  rw [arm_assign_Subscript]
  exact aw_bind (aw_holding (aw_mono h (fun x m₁ H₁ h₁ => aw_bind (aw_holding (aw_mono h₁ (fun y m₂ H₂ h₂ => aw_bind (aw_standAt (aw_bind (aw_holding (aw_mono (h₂ x y a rfl rfl ha) (fun _ _ _ h₃ => aw_release h₃) fun _ _ _ x => x))))) fun _ _ _ x => x))) fun _ _ _ x => x))
noncomputable def ASGS (C : Cfg) (A : Around) (fx : Fx) (ts : List PySem.Expr) (v : Value) (m : Lo) (H : AH) (Q : Lo → AH → Prop) (X : Value → Lo → AH → Prop) : Prop := ∀ a, er a = v → AW C A fx (assignAll a ((assignEach ts fx.env).map (·.2))) m H (fun _ => Q) X
theorem asgs_one {t : PySem.Expr} {v : Value} {Q : Lo → AH → Prop} (h : ASG C A fx t v m H Q X) (he : assignEach [t] fx.env = [(false, assign t fx.env)] := by rfl) : ASGS C A fx [t] v m H Q X := fun a ha => by rw [he]; exact h a ha
theorem asgs_two {t u : PySem.Expr} {v : Value} {Q : Lo → AH → Prop} (h : ASG C A fx t v m H (fun m₁ H₁ => ASG C A fx u v m₁ H₁ Q X) X) (he : assignEach [t, u] fx.env = [(false, assign t fx.env), (false, assign u fx.env)] := by rfl) : ASGS C A fx [t, u] v m H Q X := fun a ha => by
  rw [he]
  exact aw_bind (aw_holding (aw_mono (h a ha) (fun _ _ _ h₁ => h₁ a ha) fun _ _ _ x => x))
theorem ex_assign {ts : List PySem.Expr} {e : PySem.Expr} {pos : Pos} (h : EV C A fx e m H (fun v m₁ H₁ => ASGS C A fx ts v m₁ H₁ (Q .next) X) X)
    (hs : swapsWithSole ts e pos.line fx.env = pure false := by rfl) (hw : swappedStores ts e fx.env = pure none := by rfl) : EX C A fx (.Assign ts e pos) m H Q X := by
  show AW C A fx (exec _ _) m H _ X
  rw [arm_exec_Assign, hs]
  refine aw_bind (aw_standAt (aw_bind (aw_pure ?_)))
  rw [if_neg (by decide)]
  refine aw_bind (aw_mono h (fun v m₁ H₁ h₁ => ?_) fun _ _ _ x => x)
  rw [hw]
  refine aw_bind (aw_pure ?_)
  exact aw_bind (aw_mono (h₁ v rfl) (fun _ _ _ h₂ => aw_pure h₂) fun _ _ _ x => x)
theorem ex_aug_name {x : PySem.Str} {np pos : Pos} {op : Operator} {e : PySem.Expr} {v : Value} (hv : m.lookup x = some v) (hk : Own fx x)
    (h : EV C A fx e m H (fun y m₁ H₁ => IO C A fx op v y m₁ H₁ (fun z m₂ H₂ => Q .next (m₂.put x z) H₂) X) X) (hn : (x == ("__classdict__" : PySem.Str)) = false := by decide) : EX C A fx (.AugAssign (.Name x np) op e pos) m H Q X := by
  show AW C A fx (exec _ _) m H _ X
  rw [arm_exec_AugAssign]
  refine aw_bind (aw_standAt (aw_bind (aw_load hv (fun r hr => ?_) hn)))
  refine aw_bind (aw_holding (aw_mono h (fun y m₁ H₁ h₁ => ?_) fun _ _ _ x => x))
  refine aw_bind (aw_standAt (aw_bind (aw_operate (aw_mono (h₁ r y hr rfl) (fun z m₂ H₂ h₂ => ?_) fun _ _ _ x => x))))
  exact aw_bind (aw_standAt (aw_bind (aw_bindName (aw_store hk (aw_pure h₂)))))
theorem ex_aug_attr {o : PySem.Expr} {n : PySem.Str} {tp pos : Pos} {op : Operator} {e : PySem.Expr}
    (h : EV C A fx o m H (fun x m₁ H₁ => GA C A fx x n m₁ H₁ (fun v m₂ H₂ => EV C A fx e m₂ H₂ (fun y m₃ H₃ => IO C A fx op v y m₃ H₃ (fun z m₄ H₄ => SA C A fx x n z m₄ H₄ (Q .next) X) X) X) X) X) : EX C A fx (.AugAssign (.Attribute o n tp) op e pos) m H Q X := by
  show AW C A fx (exec _ _) m H _ X
  rw [arm_exec_AugAssign_2]
  refine aw_bind (aw_standAt (aw_bind (aw_mono h (fun x m₁ H₁ h₁ => ?_) fun _ _ _ x => x)))
  refine aw_bind (aw_holding (aw_bind (aw_standAt (aw_bind (aw_mono (h₁ x rfl) (fun v m₂ H₂ h₂ => ?_) fun _ _ _ x => x)))))
  refine aw_bind (aw_holding (aw_mono h₂ (fun y m₃ H₃ h₃ => ?_) fun _ _ _ x => x))
  refine aw_bind (aw_standAt (aw_operate (aw_mono (h₃ v y rfl rfl) (fun z m₄ H₄ h₄ => ?_) fun _ _ _ x => x)))
  exact aw_bind (aw_standAt (aw_bind (aw_holding (aw_mono (h₄ x z rfl rfl) (fun _ _ _ h₅ => aw_bind (aw_release (aw_pure h₅))) fun _ _ _ x => x))))

noncomputable def ownTup : List String := ["enumerate", "zip", "dict_itemiterator", "dict_reverseitemiterator", "odict_iterator", "itertools.zip_longest", "itertools.pairwise"]
theorem letOwned_plain {prog : Program} {w : World} {A : Around} {E : Value → Shared → Prop} {s : Shared} {t : PySem.Expr} {I : Addr} {v : Value} {o : Obj} {n : String} {Q : Unit → Shared → Prop} (ho : s.heap.get? I = some o) (hc : o.cls = .type n) (hn : ownTup.contains n = false) (h : Q () s) :
    wpAny (model prog w) A (letOwnedTupleGo t (.ref I) v) Q E s := by
  have body : wpAny (model prog w) A (do
      let (.ref r, .ref a) := ((Value.ref I, v) : Value × Value) | return
      let o ← load r
      match o.cls, o.data with
      | .type n, .fields vs => if ownTup.contains n && vs[0]? == some (rawInt a) then rule "for.unpacks-the-owned-tuple"; updateField r 0 .none
      | _, _ => pure () : Sem Unit) Q E s := by
    cases v with
    | ref a =>
      refine wpAny_bind (wpAny_load ho ?_)
      rw [hc]
      cases o.data with
      | fields vs =>
        dsimp only
        rw [hn, Bool.false_and]
        exact wpAny_pure h
      | _ => exact wpAny_pure h
    | _ => exact wpAny_pure h
  unfold letOwnedTupleGo
  split
  · exact body
  · exact body
  · exact wpAny_pure h
structure Itr (C : Cfg) (A : Around) (I : Addr) (vals : List Value) (P : AH → Prop) (Pos : Nat → Heap → Prop) : Prop where
  keep : ∀ i h h', Pos i h → (∀ o, h.get? I = some o → h'.get? I = some o) → Pos i h'
  there : ∀ i h, Pos i h → ∃ o n, h.get? I = some o ∧ o.cls = .type n ∧ ownTup.contains n = false
  item : ∀ i v fx m H s (Q : Option Value → Shared → Prop) (E : Value → Shared → Prop), vals[i]? = some v → P H → St C A fx m H s → I ∉ H.keys → Pos i s.heap →
    (∀ r h' tk, er r = v → Pos (i + 1) h' → (∀ b o, b ≠ I → s.heap.get? b = some o → h'.get? b = some o) → Q (some r) { s with heap := h', toks := tk }) → wpAny (model C.prog C.w) A (pyNext (.ref I)) Q E s
  done : ∀ fx m H s (Q : Option Value → Shared → Prop) (E : Value → Shared → Prop), P H → St C A fx m H s → I ∉ H.keys → Pos vals.length s.heap →
    (∀ h' tk, (∀ b o, b ≠ I → s.heap.get? b = some o → h'.get? b = some o) → Q none { s with heap := h', toks := tk }) → wpAny (model C.prog C.w) A (pyNext (.ref I)) Q E s
  self : ∀ i (s : Shared) (Q : Value → Shared → Prop) (E : Value → Shared → Prop), Pos i s.heap → Q (.ref I) s → wpAny (model C.prog C.w) A (pyIter (.ref I)) Q E s
noncomputable def ITR (C : Cfg) (A : Around) (fx : Fx) (x : Value) (m : Lo) (H : AH) (vals : List Value) (P : AH → Prop) : Prop :=
  ∀ a, er a = x → ∀ s (Q : Value → Shared → Prop) (E : Value → Shared → Prop), St C A fx m H s →
    (∀ I h' tk Pos, Itr C A I vals P Pos → s.heap.get? I = none → sysModules < I → Pos 0 h' → (∀ b o, s.heap.get? b = some o → h'.get? b = some o) → Q (.ref I) { s with heap := h', toks := tk }) → wpAny (model C.prog C.w) A (pyIter a) Q E s

noncomputable def loopPost (Q : Flow → Lo → AH → Prop) (J : Lo → AH → Prop) : Flow → Lo → AH → Prop := fun f m H => match f with
  | .next | .cont => J m H
  | .brk => Q .next m H
  | .ret v => Q (.ret v) m H

theorem ex_for {t iter : PySem.Expr} {body orelse : List Stmt} {pos : Pos} (hA : A.handled = none)
    (h : EV C A fx iter m H (fun x m₁ H₁ => ∃ vals P, ITR C A fx x m₁ H₁ vals P ∧ ∃ J : Nat → Lo → AH → Prop, J 0 m₁ H₁ ∧ (∀ i m H, J i m H → P H) ∧
      (∀ i v m H, vals[i]? = some v → J i m H → ASG C A fx t v m H (fun m₂ H₂ => EXS C A fx body m₂ H₂ (loopPost Q (J (i + 1))) noX) noX) ∧
      (∀ m H, J vals.length m H → EXS C A fx orelse m H Q noX)) X)
    (hf : ∀ x, foldedSetIterable iter fx.env x = pure x := by intro _; rfl) (ht : ∀ I v, letOwnedTupleGo t I v = pure () := by intro _ _; rfl) : EX C A fx (.For t iter body orelse pos) m H Q X := by
  show AW C A fx (exec _ _) m H _ X
  rw [arm_exec_For]
  refine aw_bind (aw_standAt (aw_bind (aw_mono h (fun x m₁ H₁ h₁ => ?_) fun _ _ _ x => x)))
  rw [hf]
  refine aw_bind (aw_pure (aw_bind (aw_standAt ?_)))
  intro s₁ S₁
  refine hide fun z84 => ?_
  obtain ⟨vals, P, hI, J, j0, jP, turn, done⟩ := h₁
  refine z84 ?_
  refine wpAny_bind (wpAny_holding (hI x rfl s₁ _ _ S₁ fun I h₂ tk Pos it hnew hsm p0 hk => ?_))
  obtain ⟨S₂, E₂⟩ := S₁.keeps (s' := { s₁ with heap := h₂, toks := tk }) hk
  have FI := Off.of S₁ hnew
  have hIH₁ : I ∉ H₁.keys := none_notKey S₁ hnew
  have hnew' : ∀ o, s₁.heap.get? I = some o → I ∈ H₁.keys ∨ I ∈ fx.W := fun o e => by rw [hnew] at e; cases e
  refine wpAny_runOwn (codeAny_forLoop_any (fun n s => ∃ i m H, n = vals.length + 1 - i ∧ i ≤ vals.length ∧ St C A fx m H s ∧ Ext A fx H₁ s₁ H s ∧ I ∉ H.keys ∧ Pos i s.heap ∧ J i m H) ?_ (vals.length + 1)
    ⟨0, m₁, H₁, rfl, Nat.zero_le _, S₂, E₂, hIH₁, p0, j0⟩)
  intro n s hY2
  refine hide fun z85 => ?_
  obtain ⟨i, m, H, rfl, hi, S, E, hIH, pi, ji⟩ := hY2
  refine z85 ?_
  have hmark : (A.mark none) = A := by refine hide fun z86 => ?_; obtain ⟨_, _, _, _, _⟩ := A; refine z86 ?_; rfl
  cases q : vals[i]? with
  | none =>
    have hi' : i = vals.length := Nat.le_antisymm hi (List.getElem?_eq_none_iff.mp q)
    subst hi'
    refine it.done fx m H s _ _ (jP _ _ _ ji) S hIH pi fun h' tk' hk' => ?_
    obtain ⟨S', E'⟩ := S.aside FI hnew' E hIH (s' := { s with heap := h', toks := tk' }) hk'
    refine wpAny_mono (done m H ji _ S') (fun f s₃ h₃ => ?_) fun _ _ h₃ => ?_
    · refine hide fun z87 => ?_
      obtain ⟨m₃, H₃, S₃, E₃, q₃⟩ := h₃
      refine z87 ?_
      exact ⟨m₃, H₃, S₃, E'.trans E₃, q₃⟩
    · obtain ⟨_, _, _, _, z⟩ := h₃; exact z.elim
  | some v =>
    have hlt : i < vals.length := (List.getElem?_eq_some_iff.mp q).1
    refine it.item i v fx m H s _ _ q (jP _ _ _ ji) S hIH pi fun r h' tk' hr p1 hk' => ?_
    obtain ⟨S', E'⟩ := S.aside FI hnew' E hIH (s' := { s with heap := h', toks := tk' }) hk'
    refine wpAny_mono (?_ : wpAny _ _ (letOwnedTupleGo t (.ref I) r) (fun _ s₂ => s₂ = { s with heap := h', toks := tk' }) (fun _ _ => False) _) (fun _ s₂ e => ?_) fun _ _ z => z.elim
    · rw [ht]; exact wpAny_pure rfl
    subst e
    have stay : ∀ {m₄ H₄ s₄}, St C A fx m₄ H₄ s₄ → Ext A fx H { s with heap := h', toks := tk' } H₄ s₄ → I ∉ H₄.keys ∧ Pos (i + 1) s₄.heap := fun S₄ E₄ => by
      refine hide fun z88 => ?_
      obtain ⟨o, _, ho, _⟩ := it.there _ _ p1
      obtain ⟨e1, e2⟩ := E₄.kept S' ho hIH FI.W FI.frame
      refine z88 ?_
      exact ⟨e2, it.keep _ _ _ p1 fun o' ho' => by rw [ho] at ho'; cases ho'; exact e1⟩
    refine wpAny_mono (turn i v m H q ji r hr _ S') (fun _ s₃ h₃ => ?_) fun _ _ h₃ => ?_
    · refine hide fun z89 => ?_
      obtain ⟨m₃, H₃, S₃, E₃, q₃⟩ := h₃
      refine z89 ?_
      refine wpAny_mono (q₃ s₃ S₃) (fun f s₄ h₄ => ?_) fun _ _ h₄ => ?_
      · refine hide fun z90 => ?_
        obtain ⟨m₄, H₄, S₄, E₄, q₄⟩ := h₄
        obtain ⟨k1, k2⟩ := stay S₄ (E₃.trans E₄)
        refine z90 ?_
        have EE := E'.trans (E₃.trans E₄)
        cases f with
        | next => exact ⟨_, lt_down (Nat.lt_succ_of_lt hlt), i + 1, m₄, H₄, rfl, hlt, S₄, EE, k1, k2, q₄⟩
        | cont => exact ⟨_, lt_down (Nat.lt_succ_of_lt hlt), i + 1, m₄, H₄, rfl, hlt, S₄, EE, k1, k2, q₄⟩
        | brk => exact ⟨m₄, H₄, S₄, EE, q₄⟩
        | ret v => exact ⟨m₄, H₄, S₄, EE, q₄⟩
      · obtain ⟨_, _, _, _, z⟩ := h₄; exact z.elim
    · obtain ⟨_, _, _, _, z⟩ := h₃; exact z.elim

theorem ex_while {t : PySem.Expr} {body orelse : List Stmt} {pos : Pos} (I : Nat → Lo → AH → Prop) (n : Nat) (h0 : I n m H)
    (turn : ∀ n m H, I n m H → IT C A fx t m H (fun b m₁ H₁ => if b = true then EXS C A fx body m₁ H₁ (loopPost Q (fun m₂ H₂ => ∃ k, k < n ∧ I k m₂ H₂)) noX else EXS C A fx orelse m₁ H₁ Q noX) noX) : EX C A fx (.While t body orelse pos) m H Q X := by
  show AW C A fx (exec _ _) m H _ X
  rw [arm_exec_While]
  refine aw_bind (aw_standAt ?_)
  intro s₁ S₁
  refine wpAny_runOwn (codeAny_whileLoop (Po C A fx H s₁ I) ?_ n ⟨m, H, S₁, Ext.refl' S₁, h0⟩)
  intro n s hY2
  refine hide fun z91 => ?_
  obtain ⟨m', H', S, E, hI⟩ := hY2
  refine z91 ?_
  refine wpAny_mono (turn n m' H' hI s S) (fun b s₂ h₂ => ?_) fun _ _ h₂ => ?_
  · refine hide fun z92 => ?_
    obtain ⟨m₂, H₂, S₂, E₂, q₂⟩ := h₂
    refine z92 ?_
    cases b with
    | true =>
      rw [if_pos rfl] at q₂ ⊢
      refine wpAny_mono (q₂ s₂ S₂) (fun f s₃ h₃ => ?_) fun _ _ h₃ => ?_
      · refine hide fun z93 => ?_
        obtain ⟨m₃, H₃, S₃, E₃, q₃⟩ := h₃
        refine z93 ?_
        have EE := E.trans (E₂.trans E₃)
        cases f with
        | next => obtain ⟨k, hk, q⟩ := q₃; exact ⟨k, hk, m₃, H₃, S₃, EE, q⟩
        | cont => obtain ⟨k, hk, q⟩ := q₃; exact ⟨k, hk, m₃, H₃, S₃, EE, q⟩
        | brk => exact ⟨m₃, H₃, S₃, EE, q₃⟩
        | ret v => exact ⟨m₃, H₃, S₃, EE, q₃⟩
      · obtain ⟨_, _, _, _, z⟩ := h₃; exact z.elim
    | false =>
      rw [if_neg (by decide)] at q₂ ⊢
      refine wpAny_mono (q₂ s₂ S₂) (fun f s₃ h₃ => ?_) fun _ _ h₃ => ?_
      · refine hide fun z94 => ?_
        obtain ⟨m₃, H₃, S₃, E₃, q₃⟩ := h₃
        refine z94 ?_
        exact ⟨m₃, H₃, S₃, E.trans (E₂.trans E₃), q₃⟩
      · obtain ⟨_, _, _, _, z⟩ := h₃; exact z.elim
  · obtain ⟨_, _, _, _, z⟩ := h₂; exact z.elim
end
end Mine

namespace Mine
open PySem PySem.W PyProof.Rows
open Sem (wp)

section
variable {α : Type} {C : Cfg} {A A' : Around} {fx fx' : Fx} {m m' m₁ : Lo} {H H' H₁ : AH} {X : Value → Lo → AH → Prop} {K : Frag} {s s' s₁ : Shared}

theorem itr_list {l : Addr} {xs : List Value} (hA : A.handled = none) (hl : (l, AO.list xs) ∈ H) : ITR C A fx (.ref l) m H xs (fun H => (l, AO.list xs) ∈ H) := fun a ha s Q E S q => by
  obtain rfl := er_eq_ref ha
  refine hide fun z95 => ?_
  obtain ⟨vs, h1, h2⟩ := S.isList hl
  refine z95 ?_
  refine wpAny_pyIter_list h1 (q s.heap.objs.size _ s.toks (fun i h => h.IsListIter s.heap.objs.size l i) ⟨?_, ?_, ?_, ?_, ?_⟩ (none_of_le (Nat.le_refl _)) (S.low_lt S.base) ⟨_, Heap.get?_push_size _ rfl, rfl, rfl⟩ fun b o e => Heap.get?_push_of_some _ e)
  · rintro i h h' ⟨o, ho, r⟩ k; exact ⟨o, k o ho, r⟩
  · rintro i h ⟨o, ho, hc, _⟩; exact ⟨o, _, ho, hc, by decide⟩
  · intro i v fx m H s Q E hv hP S hI hp q
    refine hide fun z96 => ?_
    obtain ⟨vs, h1, h2⟩ := S.isList hP
    obtain ⟨r, e1, e2⟩ := er_get h2 hv
    refine z96 ?_
    exact wpAny_pyNext_list_item hp h1 e1 fun h' hit hs => q r h' s.toks e2 hit fun b o hb e => (hs.2 b hb).trans e
  · intro fx m H s Q E hP S hI hp q
    refine hide fun z97 => ?_
    obtain ⟨vs, h1, h2⟩ := S.isList hP
    refine z97 ?_
    refine wpAny_pyNext_list_end hA hp h1 (Array.getElem?_eq_none_iff.mpr (by have := size_of_er h2; omega)) fun h' hs => q h' s.toks fun b o hb e => hs b o hb e
  · intro i s Q E hp q; exact wpAny_pyIter_listiter hp q
theorem itr_tup {l : Addr} {xs : List Value} (hA : A.handled = none) (hl : (l, AO.tup xs) ∈ H) : ITR C A fx (.ref l) m H xs (fun H => (l, AO.tup xs) ∈ H) := fun a ha s Q E S q => by
  obtain rfl := er_eq_ref ha
  refine hide fun z98 => ?_
  obtain ⟨vs, ⟨o, ho, hc, n, hd⟩, h2⟩ := S.isTup hl
  refine z98 ?_
  refine wpAny_pyIter_tuple ⟨o, ho, hc, n, hd⟩ (q s.heap.objs.size _ s.toks (fun i h => h.IsTupleIter s.heap.objs.size l i) ⟨?_, ?_, ?_, ?_, ?_⟩ (none_of_le (Nat.le_refl _)) (S.low_lt S.base) ⟨_, Heap.get?_push_size _ rfl, rfl, rfl⟩ fun b o e => Heap.get?_push_of_some _ e)
  · rintro i h h' ⟨o, ho, r⟩ k; exact ⟨o, k o ho, r⟩
  · rintro i h ⟨o, ho, hc, _⟩; exact ⟨o, _, ho, hc, by decide⟩
  · intro i v fx m H s Q E hv hP S hI hp q
    refine hide fun z99 => ?_
    obtain ⟨vs, ⟨o, ho, hc, n, hd⟩, h2⟩ := S.isTup hP
    obtain ⟨r, e1, e2⟩ := er_get h2 hv
    refine z99 ?_
    exact wpAny_pyNext_tuple_item hp ⟨o, ho, hc, n, hd⟩ e1 fun h' hit hs => q r h' s.toks e2 hit fun b o hb e => (hs.2 b hb).trans e
  · intro fx m H s Q E hP S hI hp q
    refine hide fun z100 => ?_
    obtain ⟨vs, ⟨o, ho, hc, n, hd⟩, h2⟩ := S.isTup hP
    refine z100 ?_
    refine wpAny_pyNext_tuple_end hA hp ⟨o, ho, hc, n, hd⟩ (Array.getElem?_eq_none_iff.mpr (by have := size_of_er h2; omega)) fun h' hs => q h' s.toks fun b o hb e => hs b o hb e
  · intro i s Q E hp q; exact wpAny_pyIter_tupleiter hp q
theorem er_key {k : Int} {key : Value} (h : (intKind C.prog C.w).is k key = true) : er key = vI k := by
  obtain ⟨t, rfl⟩ := Value.isInt_shape h; rfl
theorem raw_get {raw : List (Int × Value)} {kvs : List (Int × Value)} {i : Nat} {k : Int} {v : Value} (h : raw.map (fun kv => (kv.1, er kv.2)) = kvs) (hx : kvs[i]? = some (k, v)) : ∃ r, raw[i]? = some (k, r) ∧ er r = v := by
  subst h
  rw [List.getElem?_map] at hx
  refine hide fun z101 => ?_
  obtain ⟨⟨k', r⟩, h1, h2⟩ := Option.map_eq_some_iff.mp hx
  refine z101 ?_
  cases h2
  exact ⟨r, h1, rfl⟩
theorem raw_len {raw : List (Int × Value)} {kvs : List (Int × Value)} (h : raw.map (fun kv => (kv.1, er kv.2)) = kvs) : raw.length = kvs.length := by rw [← h, List.length_map]
theorem itr_keys {d : Addr} {kvs : List (Int × Value)} {ep : Nat} (hA : A.handled = none) (hd : (d, AO.dict kvs ep) ∈ H) : ITR C A fx (.ref d) m H (kvs.map fun kv => vI kv.1) (fun H => (d, AO.dict kvs ep) ∈ H) := fun a ha s Q E S q => by
  obtain rfl := er_eq_ref ha
  refine hide fun z102 => ?_
  obtain ⟨raw, h1, h2⟩ := S.dictAt hd
  refine z102 ?_
  refine wpAny_pyIter_dict (S.notMods (mem_keys hd)) h1 (q s.heap.objs.size _ s.toks (fun i h => h.IsKeyIter s.heap.objs.size d i kvs.length ep) ⟨?_, ?_, ?_, ?_, ?_⟩ (none_of_le (Nat.le_refl _)) (S.low_lt S.base) ⟨_, Heap.get?_push_size _ rfl, rfl, by rw [raw_len h2]; rfl⟩ fun b o e => Heap.get?_push_of_some _ e)
  · rintro i h h' ⟨o, ho, r⟩ k; exact ⟨o, k o ho, r⟩
  · rintro i h ⟨o, ho, hc, _⟩; exact ⟨o, _, ho, hc, by decide⟩
  · intro i v fx m H s Q E hv hP S hI hp q
    refine hide fun z103 => ?_
    obtain ⟨raw, h1, h2⟩ := S.dictAt hP
    refine z103 ?_
    rw [List.getElem?_map] at hv
    refine hide fun z104 => ?_
    obtain ⟨⟨k, v'⟩, e1, rfl⟩ := Option.map_eq_some_iff.mp hv
    obtain ⟨r, e2, e3⟩ := raw_get h2 e1
    refine z104 ?_
    rw [← raw_len h2] at hp
    exact wpAny_pyNext_dict_item hp h1 e2 fun key h' hk hit hs => q key h' s.toks (er_key hk) (raw_len h2 ▸ hit) fun b o hb e => (hs.2 b hb).trans e
  · intro fx m H s Q E hP S hI hp q
    refine hide fun z105 => ?_
    obtain ⟨raw, h1, h2⟩ := S.dictAt hP
    refine z105 ?_
    rw [List.length_map, ← raw_len h2] at hp
    refine wpAny_pyNext_dict_end hA hp h1 (List.getElem?_eq_none_iff.mpr (Nat.le_refl _)) fun h' hs => q h' s.toks fun b o hb e => hs b o hb e
  · intro i s Q E hp q; exact wpAny_pyIter_keyiter hp q
theorem itr_vals {d v : Addr} {kvs : List (Int × Value)} {ep : Nat} (hA : A.handled = none) (hv : (v, AO.flds (.type "dict_values") [.ref d]) ∈ H) (hd : (d, AO.dict kvs ep) ∈ H) : ITR C A fx (.ref v) m H (kvs.map (·.2)) (fun H => (d, AO.dict kvs ep) ∈ H) := fun a ha s Q E S q => by
  obtain rfl := er_eq_ref ha
  refine hide fun z106 => ?_
  obtain ⟨raw, h1, h2⟩ := S.dictAt hd
  obtain ⟨o, ho, c1, c2, ws, c3, c4⟩ := S.get hv
  refine z106 ?_
  have hview : s.heap.IsValuesView v d := by
    obtain ⟨l, rfl⟩ : ∃ l, ws = List.toArray l := ⟨ws.toList, rfl⟩
    rcases l with _ | ⟨a, _ | ⟨b, l⟩⟩ <;> simp at c4
    obtain rfl := er_eq_ref c4
    exact ⟨o, ho, c1, c3⟩
  refine wpAny_pyIter_values hview h1 (q s.heap.objs.size _ s.toks (fun i h => h.IsValIter s.heap.objs.size d i kvs.length ep) ⟨?_, ?_, ?_, ?_, ?_⟩ (none_of_le (Nat.le_refl _)) (S.low_lt S.base) ⟨_, Heap.get?_push_size _ rfl, rfl, by rw [raw_len h2]; rfl⟩ fun b o e => Heap.get?_push_of_some _ e)
  · rintro i h h' ⟨o, ho, r⟩ k; exact ⟨o, k o ho, r⟩
  · rintro i h ⟨o, ho, hc, _⟩; exact ⟨o, _, ho, hc, by decide⟩
  · intro i v fx m H s Q E hv hP S hI hp q
    refine hide fun z107 => ?_
    obtain ⟨raw, h1, h2⟩ := S.dictAt hP
    refine z107 ?_
    rw [List.getElem?_map] at hv
    refine hide fun z108 => ?_
    obtain ⟨⟨k, v'⟩, e1, rfl⟩ := Option.map_eq_some_iff.mp hv
    obtain ⟨r, e2, e3⟩ := raw_get h2 e1
    refine z108 ?_
    rw [← raw_len h2] at hp
    exact wpAny_pyNext_values_item hp h1 e2 fun h' hit hs => q r h' s.toks e3 (raw_len h2 ▸ hit) fun b o hb e => (hs.2 b hb).trans e
  · intro fx m H s Q E hP S hI hp q
    refine hide fun z109 => ?_
    obtain ⟨raw, h1, h2⟩ := S.dictAt hP
    refine z109 ?_
    rw [List.length_map, ← raw_len h2] at hp
    refine wpAny_pyNext_values_end hA hp h1 (List.getElem?_eq_none_iff.mpr (Nat.le_refl _)) fun h' hs => q h' s.toks fun b o hb e => hs b o hb e
  · intro i s Q E hp q; exact wpAny_pyIter_valiter hp q
noncomputable def rngV (n : Nat) : List Value := (List.range n).map fun (j : Nat) => vI (j : Int)
theorem rng_small {n : Nat} (hn : n < 2 ^ 31) : Builtin.Range.small 0 n 1 = true ∧ Builtin.Range.rangeSize 0 n 1 = n := by
  have h2 : Builtin.Range.rangeSize 0 n 1 = n := by
    unfold Builtin.Range.rangeSize
    simp
    try omega
  refine ⟨?_, h2⟩
  unfold Builtin.Range.small Builtin.Range.rangeFitsLong
  rw [h2]
  simp
  omega
theorem itr_range {r : Addr} {n : Nat} (hA : A.handled = none) (hn : n < 2 ^ 31) (hr : (r, AO.flds (.type "range") [vI 0, vI n, vI 1]) ∈ H) : ITR C A fx (.ref r) m H (rngV n) (fun _ => True) := fun a ha s Q E S q => by
  obtain rfl := er_eq_ref ha
  refine hide fun z110 => ?_
  obtain ⟨o, ho, c1, ⟨c2, c2'⟩, ws, c3, c4⟩ := S.get hr
  obtain ⟨hs, hz⟩ := rng_small hn
  refine z110 ?_
  have hview : ∃ t u v, IsRange s.heap r 0 n 1 t u v := by
    obtain ⟨l, rfl⟩ : ∃ l, ws = List.toArray l := ⟨ws.toList, rfl⟩
    rcases l with _ | ⟨a, _ | ⟨b, _ | ⟨c, _ | ⟨d, l⟩⟩⟩⟩ <;> simp at c4
    refine hide fun z111 => ?_
    obtain ⟨t, rfl⟩ := er_eq_int c4.1
    obtain ⟨u, rfl⟩ := er_eq_int c4.2.1
    obtain ⟨v, rfl⟩ := er_eq_int c4.2.2
    refine z111 ?_
    refine ⟨t, u, v, ?_⟩
    refine hide fun z112 => ?_
    obtain ⟨oc, od, odd, osl⟩ := o
    refine z112 ?_
    dsimp only at c1 c2 c2' c3
    subst c1 c2 c2' c3
    exact ho
  refine hide fun z113 => ?_
  obtain ⟨t, u, v, hr'⟩ := hview
  refine z113 ?_
  refine wpAny_pyIter_range hr' hs (q s.heap.objs.size _ s.toks (fun i h => IsRangeIter h s.heap.objs.size i (n - i) 1) ⟨?_, ?_, ?_, ?_, ?_⟩ (none_of_le (Nat.le_refl _)) (S.low_lt S.base) ?_ fun b o e => Heap.get?_push_of_some _ e)
  · rintro i h h' ho k; exact k _ ho
  · rintro i h ho; exact ⟨_, _, ho, rfl, by decide⟩
  · intro i v fx m H s Q E hv hP S hI hp q
    unfold rngV at hv
    rw [List.getElem?_map] at hv
    refine hide fun z114 => ?_
    obtain ⟨j, e1, rfl⟩ := Option.map_eq_some_iff.mp hv
    obtain ⟨h1, h2⟩ := List.getElem?_eq_some_iff.mp e1
    refine z114 ?_
    rw [List.length_range] at h1
    rw [List.getElem_range] at h2
    subst h2
    refine wpAny_pyNext_range_item hp (by omega) fun h' hit hs => q _ h' _ rfl ?_ fun b o hb e => (hs.2 b hb).trans e
    rw [Int.natCast_add, show ((n : Int) - ((i : Int) + (1 : Nat))) = n - i - 1 from by omega]; exact hit
  · intro fx m H s Q E hP S hI hp q
    have : (rngV n).length = n := by unfold rngV; simp
    rw [this] at hp
    exact wpAny_pyNext_range_end hA hp (by omega) fun h' hs => q h' s.toks fun b o hb e => hs b o hb e
  · intro i s Q E hp q; exact wpAny_pyIter_rangeiter hp q
  · rw [hz]
    have := Heap.get?_push_size s.heap (o := { cls := .type "range_iterator", data := .fields #[rawInt 0, rawInt n, rawInt 1] }) rfl
    rw [show ((n : Int) - ((0 : Nat) : Int)) = n from by omega]
    exact this
end
end Mine

namespace Mine
open PySem PySem.W PyProof.Rows
open Sem (wp)

section
variable {α : Type} {C : Cfg} {A A' : Around} {fx fx' : Fx} {m m' m₁ : Lo} {H H' H₁ : AH} {X : Value → Lo → AH → Prop} {K : Frag} {s s' s₁ : Shared}

noncomputable def closL (cells : List (PySem.Str × Addr)) : List (PySem.Str × NameKind) → List (PySem.Str × Addr) → List (PySem.Str × Addr)
  | [], acc => acc
  | (n, k) :: r, acc => closL cells r (if k == .free then (n, (cells.lookup n).getD 0) :: acc else acc)
theorem closL_mem {cells : List (PySem.Str × Addr)} : ∀ {names : List (PySem.Str × NameKind)} {acc : List (PySem.Str × Addr)} {x : PySem.Str} {c : Addr}, (x, c) ∈ closL cells names acc → (x, c) ∈ acc ∨ ((x, NameKind.free) ∈ names ∧ c = (cells.lookup x).getD 0)
  | [], _, _, _, h => .inl h
  | (n, k) :: r, acc, x, c, h => by
    unfold closL at h
    rcases closL_mem h with h | ⟨h1, h2⟩
    · split at h
      · rename_i hk
        rcases List.mem_cons.mp h with e | h
        · cases e; exact .inr ⟨by rw [beq_iff_eq.mp hk]; exact List.mem_cons_self, rfl⟩
        · exact .inl h
      · exact .inl h
    · exact .inr ⟨List.mem_cons_of_mem _ h1, h2⟩
theorem closL_some {cells : List (PySem.Str × Addr)} : ∀ {names : List (PySem.Str × NameKind)} {acc : List (PySem.Str × Addr)} {x : PySem.Str}, (acc.lookup x).isSome = true ∨ (x, NameKind.free) ∈ names → ((closL cells names acc).lookup x).isSome = true
  | [], _, _, h => by
    rcases h with h | h
    · exact h
    · cases h
  | (n, k) :: r, acc, x, h => by
    unfold closL
    refine closL_some ?_
    by_cases hxy : x = n
    · subst hxy
      by_cases hk : (k == NameKind.free) = true
      · rw [if_pos hk]; left; simp
      · rw [if_neg hk]
        rcases h with h | h
        · exact .inl h
        · rcases List.mem_cons.mp h with e | h
          · cases e; exact absurd rfl hk
          · exact .inr h
    · have hb : (x == n) = false := beq_eq_false_iff_ne.mpr hxy
      rcases h with h | h
      · left
        split
        · rw [List.lookup_cons, hb]; exact h
        · exact h
      · rcases List.mem_cons.mp h with e | h
        · cases e; exact absurd rfl hxy
        · exact .inr h
theorem closureFor_eq {env : Env} {scope : Scope} (h : ∀ x, (x, NameKind.free) ∈ scope.names → ∃ c, env.cells.lookup x = some c) : closureFor scope env = pure (closL env.cells scope.names []) := by
  have key : ∀ (names : List (PySem.Str × NameKind)) (acc : List (PySem.Str × Addr)), (∀ x, (x, NameKind.free) ∈ names → ∃ c, env.cells.lookup x = some c) →
      (forIn names acc fun (x : PySem.Str × NameKind) (cs : List (PySem.Str × Addr)) => if (x.2 == NameKind.free) = true then (do let c ← cellOf env x.1; pure (ForInStep.yield ((x.1, c) :: cs))) else pure (ForInStep.yield cs)) = (pure (closL env.cells names acc) : Sem _) := by
    intro names
    induction names with
    | nil => intro acc _; rw [List.forIn_nil]; rfl
    | cons p r ih =>
      intro acc hp
      obtain ⟨n, k⟩ := p
      rw [List.forIn_cons]
      unfold closL
      by_cases hk : (k == NameKind.free) = true
      · obtain ⟨c, hc⟩ := hp n (by rw [beq_iff_eq.mp hk]; exact List.mem_cons_self)
        have hcell : cellOf env n = pure c := by unfold cellOf; rw [hc]
        simp only [hk, if_true, hcell, hc, Option.getD_some]
        exact ih _ fun x hx => hp x (List.mem_cons_of_mem _ hx)
      · simp only [hk, Bool.false_eq_true, if_false]
        show (forIn r acc _ : Sem _) = _
        exact ih _ fun x hx => hp x (List.mem_cons_of_mem _ hx)
  have := key scope.names [] h
  unfold closureFor
  exact congrArg (fun t => t >>= fun cs => pure cs) this
theorem cellsFrom_inj : ∀ {names : List (PySem.Str × NameKind)} {n : Nat} {acc : List (PySem.Str × Addr)}, (∀ x c, (x, c) ∈ acc → c < n) → (∀ x y c, (x, c) ∈ acc → (y, c) ∈ acc → x = y) → ∀ x y c, (x, c) ∈ cellsFrom n names acc → (y, c) ∈ cellsFrom n names acc → x = y
  | [], _, _, _, h, x, y, c, h1, h2 => h x y c h1 h2
  | (z, k) :: r, n, acc, hlt, h, x, y, c, h1, h2 => by
    unfold cellsFrom at h1 h2
    split at h1
    · rename_i hk
      rw [if_pos hk] at h2
      refine cellsFrom_inj (fun a b hm => ?_) (fun a b d e1 e2 => ?_) x y c h1 h2
      · rcases List.mem_cons.mp hm with e | hm
        · cases e; exact Nat.lt_succ_self _
        · exact Nat.lt_succ_of_lt (hlt a b hm)
      · rcases List.mem_cons.mp e1 with e | e1 <;> rcases List.mem_cons.mp e2 with e' | e2
        · cases e; cases e'; rfl
        · cases e; exact absurd (hlt b n e2) (Nat.lt_irrefl _)
        · cases e'; exact absurd (hlt a n e1) (Nat.lt_irrefl _)
        · exact h a b d e1 e2
    · rename_i hk
      rw [if_neg hk] at h2
      exact cellsFrom_inj hlt h x y c h1 h2
theorem pushCells_cell : ∀ {names : List (PySem.Str × NameKind)} {h : Heap} {acc : List (PySem.Str × Addr)} {x : PySem.Str} {c : Addr}, (x, c) ∈ cellsFrom h.objs.size names acc → (x, c) ∈ acc ∨ (h.objs.size ≤ c ∧ (pushCells h names).IsCell c none)
  | [], _, _, _, _, h => .inl h
  | (y, k) :: r, h, acc, x, c, hm => by
    unfold cellsFrom at hm
    unfold pushCells
    split at hm
    · rename_i hk
      rw [if_pos hk]
      rw [← Heap.size_push h { cls := .type "cell", data := .cell none }] at hm
      rcases pushCells_cell hm with hm | ⟨h1, h2⟩
      · rcases List.mem_cons.mp hm with e | hm
        · cases e
          refine .inr ⟨Nat.le_refl _, _, pushCells_keeps _ _ _ _ (Heap.get?_push_size _ rfl), rfl⟩
        · exact .inl hm
      · rw [Heap.size_push] at h1
        exact .inr ⟨Nat.le_of_succ_le h1, h2⟩
    · rename_i hk
      rw [if_neg hk]
      exact pushCells_cell hm

noncomputable def relS (scope outer : Scope) : Scope := { scope with names := scope.names.map fun (n, k) => if (k == .free && outer.kind == .function && outer.names.lookup n == some .cell) then (n, .cell) else (n, k) }
structure CompFx (fx : Fx) (scope : Scope) (fx' : Fx) : Prop where
  sc : fx'.env.scope = relS scope fx.env.scope
  own : ∀ x, fx'.env.kindOf x = some .local → Own fx' x
  cell : ∀ x, (x, NameKind.cell) ∈ scope.names → ∀ c, fx'.env.cells.lookup x = some c → (x, NameKind.free) ∉ scope.names → c ∈ fx'.W
  frame : fx'.env.frame = fx.env.frame
  code : fx'.env.code = fx.env.code
theorem CompFx.kindOf {scope : Scope} (h : CompFx fx scope fx') (x : PySem.Str) : fx'.env.kindOf x = (relS scope fx.env.scope).names.lookup x := by unfold Env.kindOf; rw [h.sc]

theorem St.comp {scope : Scope} {cenv : Env} {mf : Lo} (S : St C A fx m H s) (hk : scope.kind = .function) (hfree : ∀ x, (x, NameKind.free) ∈ scope.names → fx.env.kindOf x = some .cell)
    (hcell : ∀ x, (relS scope fx.env.scope).names.lookup x = some .cell → (x, NameKind.free) ∈ scope.names ∨ (x, NameKind.cell) ∈ scope.names)
    (hmf : ∀ x v, (x, v) ∈ mf → (x, v) ∈ m ∧ (x, NameKind.free) ∈ scope.names ∧ (x, NameKind.cell) ∉ scope.names ∧ (relS scope fx.env.scope).names.lookup x = some .cell)
    (hc : cenv = { scope := relabel scope fx.env, locals := s.heap.objs.size, globals := fx.env.globals, cells := cellsFrom (s.heap.objs.size + 1) scope.names (closL fx.env.cells scope.names []), qual := fx.env.qual, func := none, code := fx.env.code, frame := fx.env.frame, builtins := fx.env.builtins })
    (hs : s' = { s with heap := pushCells (s.heap.push { cls := .type "dict", data := .dict #[] }) scope.names }) :
    let fx' : Fx := ⟨cenv, s.heap.objs.size :: (cenv.cells.filterMap fun p => cenv.cells.lookup p.1).filter fun c => decide (s.heap.objs.size ≤ c)⟩
    St C A fx' mf H s' ∧ CompFx fx scope fx' ∧ (∀ b ∈ fx'.W, s.heap.objs.size ≤ b) ∧ ∀ x c, fx'.env.cells.lookup x = some c → fx.env.cells.lookup x = some c ∨ s.heap.objs.size ≤ c := by
  intro fx'
  have keep : ∀ b o, s.heap.get? b = some o → s'.heap.get? b = some o := fun b o e => by rw [hs]; exact pushCells_keeps _ _ _ _ (Heap.get?_push_of_some _ e)
  have hsz : (s.heap.push { cls := .type "dict", data := .dict #[] }).objs.size = s.heap.objs.size + 1 := Heap.size_push ..
  have hL : cenv.locals = s.heap.objs.size := by rw [hc]
  have hcs : cenv.cells = cellsFrom (s.heap.objs.size + 1) scope.names (closL fx.env.cells scope.names []) := by rw [hc]
  have hkd : ∀ x, cenv.kindOf x = (relS scope fx.env.scope).names.lookup x := fun x => by rw [hc]; rfl
  have freeC : ∀ x, (x, NameKind.free) ∈ scope.names → ∃ c, fx.env.cells.lookup x = some c := fun x hx => S.cellW x (hfree x hx)
  have clos : ∀ x c, (x, c) ∈ closL fx.env.cells scope.names [] → fx.env.cells.lookup x = some c := fun x c h => by
    rcases closL_mem h with h | ⟨h1, h2⟩
    · cases h
    · obtain ⟨c', hc'⟩ := freeC x h1
      rw [hc'] at h2 ⊢; rw [h2]; rfl
  have lt : ∀ x c, fx.env.cells.lookup x = some c → c < s.heap.objs.size := fun x c h => let ⟨⟨r, o, ho, _⟩, _⟩ := S.cellA x c h; Heap.lt_size ho
  have two : ∀ x c, cenv.cells.lookup x = some c → fx.env.cells.lookup x = some c ∨ (s.heap.objs.size + 1 ≤ c ∧ s'.heap.IsCell c none) := fun x c h => by
    have h := mem_of_lookup h
    rw [hcs, ← hsz] at h
    rcases pushCells_cell h with h | ⟨h1, h2⟩
    · exact .inl (clos x c h)
    · refine .inr ⟨hsz ▸ h1, by rw [hs]; exact h2⟩
  have hW : ∀ b ∈ fx'.W, s.heap.objs.size ≤ b := fun b hb => by
    rcases List.mem_cons.mp hb with rfl | hb
    · exact Nat.le_refl _
    · exact of_decide_eq_true (List.mem_filter.mp hb).2
  have apart : ∀ b ∈ fx'.W, b ∉ H.keys := fun b hb hm => Nat.lt_irrefl _ (Nat.lt_of_lt_of_le (S.key_lt hm) (hW b hb))
  have none' : ∀ b, s.heap.objs.size ≤ b → C.h₀.get? b = none := fun b hb => S.base_none (none_of_le hb)
  have hns : s'.heap.Ns s.heap.objs.size (fun _ => none) := by
    rw [hs]
    exact (Heap.Ns.new s.heap (.type "dict")).keeps (pushCells_keeps _ _)
  have inW : ∀ x c, cenv.cells.lookup x = some c → s.heap.objs.size ≤ c → c ∈ fx'.W := fun x c e hle =>
    List.mem_cons_of_mem _ (List.mem_filter.mpr ⟨List.mem_filterMap.mpr ⟨_, mem_of_lookup e, e⟩, decide_eq_true hle⟩)
  refine ⟨⟨fun b o e => keep b o (S.base b o e), fun p hp => let ⟨o, h1, h2⟩ := S.cells p hp; ⟨o, keep _ _ h1, h2⟩, S.low, fun b hb => ?_, S.nodup, apart, (congrArg (fun e : Env => e.scope.kind) hc).trans hk, ⟨(congrArg Env.globals hc).trans S.glob.1, (congrArg Env.builtins hc).trans S.glob.2⟩, by rw [show fx'.env.locals = s.heap.objs.size from hL]; exact List.mem_cons_self,
    fun b hb => ?_, ⟨_, by rw [show fx'.env.locals = s.heap.objs.size from hL]; exact hns⟩, fun y hy => ?_, fun y c e => ?_, fun y z c e1 e2 => ?_, fun y v hv => ?_, ?_, S.frA, ?_, ?_, ?_⟩, ⟨(congrArg Env.scope hc), fun x hx => .inl hx, fun x hx c hl hx' => ?_, by show cenv.frame = _; rw [hc], by show cenv.code = _; rw [hc]⟩, hW, fun x c e => (two x c e).imp id fun h => Nat.le_of_succ_le h.1⟩
  · rcases hb with hb | hb
    · exact S.above b (.inl hb)
    · exact none' b (hW b hb)
  · rcases List.mem_cons.mp hb with rfl | hb
    · obtain ⟨o, _, _, e, _⟩ := hns; exact ⟨o, e⟩
    · refine hide fun z115 => ?_
      obtain ⟨p, hp, e⟩ := List.mem_filterMap.mp (List.mem_filter.mp hb).1
      refine z115 ?_
      rcases two _ _ e with h | ⟨_, o, ho, _⟩
      · exact absurd (lt _ _ h) (Nat.not_lt.mpr (hW b (List.mem_cons_of_mem _ hb)))
      · exact ⟨o, ho⟩
  · have hy : cenv.kindOf y = some .cell := hy
    rw [hkd] at hy
    show ∃ c, cenv.cells.lookup y = some c
    rw [hcs]
    refine Option.isSome_iff_exists.mp (cellsFrom_acc _ _ _ _ ?_)
    rcases hcell y hy with h | h
    · exact .inl (closL_some (.inr h))
    · exact .inr h
  · rcases two y c e with h | ⟨h1, h2⟩
    · refine hide fun z116 => ?_
      obtain ⟨⟨r, hr⟩, h2, h3, h4⟩ := S.cellA y c h
      refine z116 ?_
      exact ⟨⟨r, hr.keeps keep⟩, h2, h3, by rw [show fx'.env.locals = s.heap.objs.size from hL]; exact Nat.ne_of_lt (lt _ _ h)⟩
    · have hle : s.heap.objs.size ≤ c := Nat.le_of_succ_le h1
      exact ⟨⟨_, h2⟩, apart c (inW y c e hle), none' c hle, by rw [show fx'.env.locals = s.heap.objs.size from hL]; exact Nat.ne_of_gt h1⟩
  · have e1 := mem_of_lookup e1
    have e2 := mem_of_lookup e2
    rw [show fx'.env.cells = _ from hcs] at e1 e2
    exact cellsFrom_inj (fun x c h => Nat.lt_succ_of_lt (lt x c (clos x c h))) (fun x y c h1 h2 => S.cellI x y c (clos x c h1) (clos y c h2)) y z c e1 e2
  · refine hide fun z117 => ?_
    obtain ⟨h1, h2, h3, h4⟩ := hmf y v hv
    obtain ⟨c, hc'⟩ := freeC y h2
    refine z117 ?_
    have hl : cenv.cells.lookup y = some c := by
      obtain ⟨c₁, hc₁⟩ : ∃ c₁, cenv.cells.lookup y = some c₁ := by
        rw [hcs]
        exact Option.isSome_iff_exists.mp (cellsFrom_acc _ _ _ _ (.inl (closL_some (.inr h2))))
      rcases two y c₁ hc₁ with h | ⟨h5, h6⟩
      · rw [hc'] at h; cases h; exact hc₁
      · exfalso
        have hm := mem_of_lookup hc₁
        rw [hcs] at hm
        have own : ∀ {names : List (PySem.Str × NameKind)} {n : Nat} {acc : List (PySem.Str × Addr)} {x : PySem.Str} {c : Addr}, (x, c) ∈ cellsFrom n names acc → (x, c) ∈ acc ∨ (x, NameKind.cell) ∈ names := by
          intro names
          induction names with
          | nil => intro _ _ _ _ h; exact .inl h
          | cons p r ih =>
            intro n acc x c h
            obtain ⟨z, k⟩ := p
            unfold cellsFrom at h
            split at h
            · rename_i hk
              rcases ih h with h | h
              · rcases List.mem_cons.mp h with e | h
                · cases e; exact .inr (by rw [beq_iff_eq.mp hk]; exact List.mem_cons_self)
                · exact .inl h
              · exact .inr (List.mem_cons_of_mem _ h)
            · rcases ih h with h | h
              · exact .inl h
              · exact .inr (List.mem_cons_of_mem _ h)
        rcases own hm with h | h
        · exact absurd (lt _ _ (clos y c₁ h)) (Nat.not_lt.mpr (Nat.le_of_succ_le h5))
        · exact h3 h
    rcases S.vars y v h1 with ⟨k, _⟩ | ⟨k, c', r, e1, e2, e3⟩
    · rw [hfree y h2] at k; cases k
    · rw [hc'] at e1; cases e1
      exact .inr ⟨.inl ((hkd y).trans h4), c, r, hl, e2.keeps keep, e3⟩
  · refine hide fun z118 => ?_
    obtain ⟨l, hl, hF⟩ := S.frs
    refine z118 ?_
    exact ⟨l, hl, hF.of_keeps fun b o h1 h2 => ⟨o, keep b o h1, rfl⟩⟩
  · rw [hs]; exact S.gens
  · rw [hs]; exact S.os
  · rw [hs]; exact S.gst
  · have hm := mem_of_lookup hl
    rw [show fx'.env.cells = _ from hcs, ← hsz] at hm
    rcases pushCells_cell hm with h | ⟨h1, _⟩
    · rcases closL_mem h with h | ⟨h, _⟩
      · cases h
      · exact absurd h hx'
    · rw [hsz] at h1
      exact inW x c hl (Nat.le_of_succ_le h1)
end
end Mine

namespace Mine
open PySem PySem.W PyProof.Rows
open Sem (wp)

section
variable {α : Type} {C : Cfg} {A A' : Around} {fx fx' : Fx} {m m' m₁ : Lo} {H H' H₁ : AH} {X : Value → Lo → AH → Prop} {K : Frag} {s s' s₁ : Shared}

theorem Ext.newer {I : Addr} (E : Ext A fx H₁ s₁ H s) (h : s.heap.get? I = none) : ∀ o, s₁.heap.get? I = some o → I ∈ H₁.keys ∨ I ∈ fx.W := fun o e => by
  by_cases h1 : I ∈ H₁.keys
  · exact .inl h1
  · by_cases h2 : I ∈ fx.W
    · exact .inr h2
    · refine hide fun z119 => ?_
      obtain ⟨sl, e', _⟩ := E.hid I o e h1 h2
      refine z119 ?_
      rw [h] at e'; cases e'

noncomputable def TST (C : Cfg) (A : Around) (fx : Fx) : List PySem.Expr → Lo → AH → (Bool → Lo → AH → Prop) → (Value → Lo → AH → Prop) → Prop
  | [], m, H, Q, _ => Q true m H
  | c :: r, m, H, Q, X => IT C A fx c m H (fun b m₁ H₁ => if b = true then TST C A fx r m₁ H₁ Q X else Q false m₁ H₁) X
theorem tests_false {ifs : List PySem.Expr} {env : Env} : (forIn ifs false fun c r => if r = true then do let ok ← isTrue c env (eval c env); pure (ForInStep.yield ok) else pure (ForInStep.yield r)) = (pure false : Sem Bool) := by
  induction ifs with
  | nil => rw [List.forIn_nil]
  | cons c r ih => rw [List.forIn_cons]; simp only [Bool.false_eq_true, if_false]; exact ih
theorem aw_tests {ifs : List PySem.Expr} {Q : Bool → Lo → AH → Prop} (h : TST C A fx ifs m H Q X) :
    AW C A fx (forIn ifs true fun c r => if r = true then do let ok ← isTrue c fx.env (eval c fx.env); pure (ForInStep.yield ok) else pure (ForInStep.yield r)) m H Q X := by
  induction ifs generalizing m H with
  | nil => rw [List.forIn_nil]; exact aw_pure h
  | cons c r ih =>
    rw [List.forIn_cons]
    simp only [if_true]
    refine aw_bind (aw_bind (aw_mono h (fun b m₁ H₁ hb => aw_pure ?_) fun _ _ _ x => x))
    cases b with
    | true => exact ih (by simpa using hb)
    | false => dsimp only; rw [tests_false]; exact aw_pure (by simpa using hb)

noncomputable def EMIT (C : Cfg) (A : Around) (fx : Fx) (e : PySem.Expr) (m : Lo) (H : AH) (acc : AO) (Q : Lo → AH → AO → Prop) : Prop := match e with
  | .ListComp elt _ _ _ => EV C A fx elt m H (fun v m₁ H₁ => ∃ ys, acc = .list ys ∧ ys.length ≤ 1000000 ∧ Q m₁ H₁ (.list (ys ++ [v]))) noX
  | .DictComp k v _ _ _ => EV C A fx k m H (fun kv m₁ H₁ => EV C A fx v m₁ H₁ (fun vv m₂ H₂ => ∃ i kvs ep, kv = vI i ∧ acc = .dict kvs ep ∧ kvs.length ≤ 1000000 ∧ ∀ ep', Q m₂ H₂ (.dict (stored kvs i vv) ep')) noX) noX
  | _ => False
noncomputable def GENS (C : Cfg) (A : Around) (fx : Fx) (e : PySem.Expr) : List Comprehension → Lo → AH → AO → (Lo → AH → AO → Prop) → Prop
  | [], m, H, acc, post => EMIT C A fx e m H acc post
  | g :: gs, m, H, acc, post => EV C A fx g.iter m H (fun x m₁ H₁ => ∃ vals P, ITR C A fx x m₁ H₁ vals P ∧ ∃ J : Nat → Lo → AH → AO → Prop, J 0 m₁ H₁ acc ∧ (∀ i m H acc, J i m H acc → P H) ∧
      (∀ i v m H acc, vals[i]? = some v → J i m H acc → ASG C A fx g.target v m H (fun m₂ H₂ => TST C A fx g.ifs m₂ H₂ (fun ok m₃ H₃ => if ok = true then GENS C A fx e gs m₃ H₃ acc (J (i + 1)) else J (i + 1) m₃ H₃ acc) noX) noX) ∧
      (∀ m H acc, J vals.length m H acc → post m H acc)) noX
structure GOK (g : Comprehension) : Prop where
  async : g.is_async = 0
  folded : ∀ env x, foldedSetIterable g.iter env x = pure x
  owned : ∀ I v : Value, (I, v) = (I, v)
noncomputable def CS (C : Cfg) (A : Around) (fx : Fx) (H₁ : AH) (s₁ : Shared) (D : Addr) (ZK : Addr → Obj → Prop) (s : Shared) (m : Lo) (H : AH) (acc : AO) : Prop :=
  (St C A fx m H s ∧ Ext A fx H₁ s₁ H s ∧ D ∉ H.keys ∧ ∃ o, s.heap.get? D = some o ∧ OR C o acc ∧ acc.isGen = false) ∧ ∀ Z o, ZK Z o → s.heap.get? Z = some o ∧ Z ∉ H.keys
structure ZOk (A : Around) (fx : Fx) (D : Addr) (ZK : Addr → Obj → Prop) : Prop where
  W : ∀ Z o, ZK Z o → Z ∉ fx.W
  frame : ∀ Z o, ZK Z o → Z ∉ frameAddrs A
  ne : ∀ Z o, ZK Z o → Z ≠ D
theorem zkept {ZK : Addr → Obj → Prop} {D : Addr} (hZ : ZOk A fx D ZK) (S : St C A fx m H s) (E : Ext A fx H s H' s') (h : ∀ Z o, ZK Z o → s.heap.get? Z = some o ∧ Z ∉ H.keys) : ∀ Z o, ZK Z o → s'.heap.get? Z = some o ∧ Z ∉ H'.keys :=
  fun Z o hz => let ⟨a, b⟩ := h Z o hz; E.kept S a b (hZ.W Z o hz) (hZ.frame Z o hz)
theorem stored_er {raw : List (Int × Value)} {kvs : List (Int × Value)} (h : raw.map (fun kv => (kv.1, er kv.2)) = kvs) (k : Int) (v : Value) : (stored raw k v).map (fun kv => (kv.1, er kv.2)) = stored kvs k (er v) := by
  subst h
  unfold stored
  have e : (raw.any fun kv => decide (kv.1 = k)) = ((raw.map fun kv => (kv.1, er kv.2)).any fun kv => decide (kv.1 = k)) := by rw [List.any_map]; rfl
  rw [e]
  split
  · rw [List.map_map, List.map_map]
    refine List.map_congr_left fun kv _ => ?_
    simp only [Function.comp]
    split <;> rfl
  · rw [List.map_append]; rfl
theorem or_dict {h : Heap} {d : Addr} {raw kvs : List (Int × Value)} (x : h.DictOf (intKind C.prog C.w) d raw) (e : raw.map (fun kv => (kv.1, er kv.2)) = kvs) : ∃ o ep, h.get? d = some o ∧ OR C o (.dict kvs ep) := by
  refine hide fun z120 => ?_
  obtain ⟨o, es, ep, ho, hc, hd, hk, hp, hn⟩ := x
  refine z120 ?_
  refine ⟨o, ep, ho, hc, es, hd, hk, ?_, raw, hp, e⟩
  subst e
  rw [List.map_map]; exact hn
theorem dict_of {h : Heap} {d : Addr} {o : Obj} {kvs : List (Int × Value)} {ep : Nat} (ho : h.get? d = some o) (hr : OR C o (.dict kvs ep)) : ∃ raw, h.DictOf (intKind C.prog C.w) d raw ∧ raw.map (fun kv => (kv.1, er kv.2)) = kvs := by
  refine hide fun z121 => ?_
  obtain ⟨h1, es, h2, h3, h4, raw, h5, h6⟩ := hr
  refine z121 ?_
  refine ⟨raw, ⟨o, es, ep, ho, h1, h2, h3, h5, ?_⟩, h6⟩
  rw [← h6, List.map_map] at h4
  exact h4

noncomputable def emitOf (e : PySem.Expr) (D : Addr) (env : Env) : Sem Unit := match e with
  | .ListComp elt _ _ _ => do let _ ← call (.builtin "list.append") [.ref D, ← eval elt env]
  | .DictComp k v _ _ _ => do
      let kv ← eval k env
      let vv ← holding [kv] (eval v env)
      standAt { k.pos with endLine := v.pos.endLine, endCol := v.pos.endCol }
      holding [kv, vv] (dictSet D kv vv)
  | _ => pure ()
noncomputable def tailOf (e : PySem.Expr) (d : Nat) (D : Addr) (env : Env) (k : Sem Fin) : List Comprehension → Sem Fin
  | [] => do emitOf e D env; k
  | g :: _ => do
    let x ← eval g.iter env
    standAt g.iter.pos
    let x ← foldedSetIterable g.iter env x
    let it ← holding [x] (pyIter x)
    let _ ← runOwn (.compStart e d it (.ref D) env) env
    k

theorem turn_eq {e : PySem.Expr} {d : Nat} {I : Value} {D : Addr} {env : Env} {g : Comprehension} {gs : List Comprehension} (he : (∃ a b c f, e = .ListComp a b c f) ∨ ∃ a b c f x, e = .DictComp a b c f x) (hd : (clausesOf e).drop d = g :: gs) (hg : g.is_async = 0) (hgs : ∀ g ∈ gs, g.is_async = 0) :
    compTurn e d I (.ref D) env = (do
      standAt g.iter.pos
      match ← pyNext I with
      | none => pure (.done .next)
      | some v =>
        letOwnedTupleGo g.target I v
        assign g.target env v
        let ok ← forIn g.ifs true fun c r => if r = true then do let ok ← isTrue c env (eval c env); pure (ForInStep.yield ok) else pure (ForInStep.yield r)
        if ok = true then tailOf e (d + 1) D env (again (.compLoop e d I (.ref D) env)) gs else again (.compLoop e d I (.ref D) env)) := by
  have h0 : (clausesOf e)[d]? = some g := by
    have := congrArg List.head? hd
    rw [List.head?_drop] at this
    exact this
  have h1 : (clausesOf e)[d + 1]? = gs.head? := by
    have := congrArg List.tail hd
    rw [List.tail_drop] at this
    have := congrArg List.head? this
    rw [List.head?_drop] at this
    exact this
  rcases he with ⟨a, b, c, f, rfl⟩ | ⟨a, b, c, f, x, rfl⟩
  · unfold compTurn
    dsimp only [clausesOf] at h0 h1 ⊢
    rw [h0, h1]
    have ha : (g.is_async != 0) = false := by rw [hg]; rfl
    simp only [ha, Bool.false_eq_true, if_false]
    congr 1; funext _
    congr 1; funext r
    cases r with
    | none => rfl
    | some v =>
      dsimp only
      congr 1; funext _
      congr 1; funext _
      congr 1; funext ok
      cases ok with
      | false => rfl
      | true =>
        cases gs with
        | nil => rfl
        | cons g' r =>
          have ha' : (g'.is_async != 0) = false := by rw [hgs g' List.mem_cons_self]; rfl
          simp only [List.head?_cons, ha', Bool.false_eq_true, if_false, if_true]
          rfl
  · unfold compTurn
    dsimp only [clausesOf] at h0 h1 ⊢
    rw [h0, h1]
    have ha : (g.is_async != 0) = false := by rw [hg]; rfl
    simp only [ha, Bool.false_eq_true, if_false]
    congr 1; funext _
    congr 1; funext r
    cases r with
    | none => rfl
    | some v =>
      dsimp only
      congr 1; funext _
      congr 1; funext _
      congr 1; funext ok
      cases ok with
      | false => rfl
      | true =>
        cases gs with
        | nil => rfl
        | cons g' r =>
          have ha' : (g'.is_async != 0) = false := by rw [hgs g' List.mem_cons_self]; rfl
          simp only [List.head?_cons, ha', Bool.false_eq_true, if_false, if_true]
          rfl

theorem emit_run {e : PySem.Expr} {D : Addr} {ZK : Addr → Obj → Prop} (hZ : ZOk A fx D ZK) {acc : AO} {post : Lo → AH → AO → Prop} (he : (∃ a b c f, e = .ListComp a b c f) ∨ ∃ a b c f x, e = .DictComp a b c f x) (F : Off C A fx D) (hD : s₁.heap.get? D = none)
    (h : EMIT C A fx e m H acc post) (cs : CS C A fx H₁ s₁ D ZK s m H acc) : wpAny (model C.prog C.w) A (emitOf e D fx.env) (fun _ s' => ∃ m' H' acc', CS C A fx H₁ s₁ D ZK s' m' H' acc' ∧ post m' H' acc') (fun _ _ => False) s := by
  refine hide fun z122 => ?_
  obtain ⟨⟨S, E, hDH, o, ho, hr, _⟩, hz₀⟩ := cs
  refine z122 ?_
  have hD' : ∀ o, s₁.heap.get? D = some o → D ∈ H₁.keys ∨ D ∈ fx.W := fun o e => by rw [hD] at e; cases e
  rcases he with ⟨elt, b, c, f, rfl⟩ | ⟨k, v, c, f, x, rfl⟩
  · refine wpAny_bind (wpAny_mono (h s S) (fun y s₂ h₂ => ?_) fun _ _ h₂ => ?_)
    · refine hide fun z123 => ?_
      obtain ⟨m₂, H₂, S₂, E₂, ys, rfl, hz, q⟩ := h₂
      obtain ⟨ho₂, hDH₂⟩ := E₂.kept S ho hDH F.W F.frame
      obtain ⟨vs, n, rfl, h4⟩ := or_list hr
      refine z123 ?_
      refine wpAny_bind (wpAny_list_append_plain (items := vs) ⟨n, ho₂⟩ (fun h' hl hs => wpAny_pure ?_) (by rw [size_of_er h4, sizeLine_eq]; omega))
      have EE := E.trans E₂
      refine hide fun z124 => ?_
      obtain ⟨S₃, E₃⟩ := S₂.aside F hD' EE hDH₂ (s' := { s₂ with heap := h' }) fun b o hb e => (hs.2 b hb).trans e
      obtain ⟨n', ho'⟩ := hl
      refine z124 ?_
      refine ⟨m₂, H₂, _, ⟨⟨S₃, E₃, hDH₂, _, ho', ?_, rfl⟩, fun Z o hz => let ⟨a, b⟩ := zkept hZ S E₂ hz₀ Z o hz; ⟨(hs.2 Z (hZ.ne Z o hz)).trans a, b⟩⟩, q⟩
      exact ⟨rfl, ⟨rfl, rfl⟩, _, _, rfl, by rw [Array.toList_push, List.map_append, h4]; rfl⟩
    · obtain ⟨_, _, _, _, z⟩ := h₂; exact z
  · refine wpAny_bind (wpAny_mono (h s S) (fun kv s₂ h₂ => ?_) fun _ _ h₂ => ?_)
    · refine hide fun z125 => ?_
      obtain ⟨m₂, H₂, S₂, E₂, hv⟩ := h₂
      refine z125 ?_
      refine wpAny_bind (wpAny_holding (wpAny_mono (hv s₂ S₂) (fun vv s₃ h₃ => ?_) fun _ _ h₃ => ?_))
      · refine hide fun z126 => ?_
        obtain ⟨m₃, H₃, S₃, E₃, i, kvs, ep, hk, rfl, hz, q⟩ := h₃
        obtain ⟨t, rfl⟩ := er_eq_int hk
        refine z126 ?_
        have EE := E.trans (E₂.trans E₃)
        refine hide fun z127 => ?_
        obtain ⟨ho₃, hDH₃⟩ := (E₂.trans E₃).kept S ho hDH F.W F.frame
        obtain ⟨raw, hd, hraw⟩ := dict_of ho₃ hr
        refine z127 ?_
        refine wpAny_bind (wpAny_standAt (wpAny_holding ?_))
        refine wpAny_dictSet_pairs (knd := intKind C.prog C.w) (k := i) (by simp [intKind, Value.isInt]) hd (fun h' hd' hs => ?_) (by rw [raw_len hraw, sizeLine_eq]; omega)
        refine hide fun z128 => ?_
        obtain ⟨S₄, E₄⟩ := S₃.aside F hD' EE hDH₃ (s' := { s₃ with heap := h', toks := s₃.toks + 1 }) fun b o hb e => (hs.2 b hb).trans e
        obtain ⟨o', ep', ho', hr'⟩ := or_dict hd' (stored_er hraw i vv)
        refine z128 ?_
        exact ⟨m₃, H₃, _, ⟨⟨S₄, E₄, hDH₃, o', ho', hr', rfl⟩, fun Z o hz => let ⟨a, b⟩ := zkept hZ S (E₂.trans E₃) hz₀ Z o hz; ⟨(hs.2 Z (hZ.ne Z o hz)).trans a, b⟩⟩, q ep'⟩
      · obtain ⟨_, _, _, _, z⟩ := h₃; exact z
    · obtain ⟨_, _, _, _, z⟩ := h₂; exact z
end
end Mine

namespace Mine
open PySem PySem.W PyProof.Rows
open Sem (wp)

section
variable {α : Type} {C : Cfg} {A A' : Around} {fx fx' : Fx} {m m' m₁ : Lo} {H H' H₁ : AH} {X : Value → Lo → AH → Prop} {K : Frag} {s s' s₁ : Shared}

noncomputable abbrev IsComp (e : PySem.Expr) : Prop := (∃ a b c f, e = .ListComp a b c f) ∨ ∃ a b c f x, e = .DictComp a b c f x

theorem loop_entry {e : PySem.Expr} {d : Nat} {it acc : Value} {env : Env} {R : Result → Shared → Prop} {M : Model} (he : IsComp e) (I : Nat → Shared → Prop)
    (turn : ∀ n s, I n s → wpAny (model C.prog C.w) A (compTurn e d it acc env) (fun fin s' => match fin with
      | .done f => R (.ok f) s'
      | .again c' => c' = .compLoop e d it acc env ∧ ∃ m, m < n ∧ I m s') (fun _ _ => False) s) (n : Nat) (h : I n s) : codeAny (model C.prog C.w) A (.compLoop e d it acc env) R s := by
  rcases he with ⟨a, b, c, f, rfl⟩ | ⟨a, b, c, f, x, rfl⟩
  · refine codeAny_loop' rfl I (fun n s hI => ?_) n h
    show wpAny _ A ((compTurn _ d it acc env).onRaise (fun x => do noteFrame x env; theTreesLotGoes x)) _ _ s
    refine wpAny_onRaise (wpAny_mono (turn n s hI) (fun fin s' hf => ?_) fun _ _ z => z.elim)
    cases fin with
    | done f => exact hf
    | again c' => exact .inl hf
  · refine codeAny_loop' rfl I (fun n s hI => ?_) n h
    show wpAny _ A ((compTurn _ d it acc env).onRaise (fun x => do noteFrame x env; theTreesLotGoes x)) _ _ s
    refine wpAny_onRaise (wpAny_mono (turn n s hI) (fun fin s' hf => ?_) fun _ _ z => z.elim)
    cases fin with
    | done f => exact hf
    | again c' => exact .inl hf
theorem start_entry {e : PySem.Expr} {d : Nat} {it acc : Value} {env : Env} {R : Result → Shared → Prop} (he : IsComp e) {g : Comprehension} (hg : (clausesOf e)[d]? = some g) (ha : g.is_async = 0)
    (self : ∀ (Q : Value → Shared → Prop) (E : Value → Shared → Prop), Q it s → wpAny (model C.prog C.w) A (pyIter it) Q E s)
    (h : codeAny (model C.prog C.w) A (.compLoop e d it acc env) R s) : codeAny (model C.prog C.w) A (.compStart e d it acc env) R s := by
  have key : wpAny (model C.prog C.w) A (compStart e d it acc env) (fun fin s' => match fin with
      | .done f => R (.ok f) s'
      | .again c' => c'.quiet = true ∧ codeAny (model C.prog C.w) A c' R s') (fun _ _ => False) s := by
    have hq : (Code.compLoop e d it acc env).quiet = true := by rcases he with ⟨a, b, c, f, rfl⟩ | ⟨a, b, c, f, x, rfl⟩ <;> rfl
    unfold compStart
    rw [hg]
    have ha' : (g.is_async != 0) = false := by rw [ha]; rfl
    simp only [Option.elim_some, ha', Bool.false_eq_true, if_false]
    refine wpAny_bind (wpAny_askSetting (wpAny_ite ?_))
    split
    · exact wpAny_pure ⟨hq, h⟩
    · refine wpAny_bind (wpAny_rule (wpAny_bind (wpAny_standAt (wpAny_bind (self _ _ (wpAny_pure ⟨hq, h⟩))))))
  rcases he with ⟨a, b, c, f, rfl⟩ | ⟨a, b, c, f, x, rfl⟩
  · refine codeAny_of_tree ?_
    show wpAny _ A ((compStart _ d it acc env).onRaise (fun x => do noteFrame x env; standAt theWindowsPlace)) _ _ s
    exact wpAny_onRaise (wpAny_mono key (fun fin s' hf => by cases fin <;> exact hf) fun _ _ z => z.elim)
  · refine codeAny_of_tree ?_
    show wpAny _ A ((compStart _ d it acc env).onRaise (fun x => do noteFrame x env; standAt theWindowsPlace)) _ _ s
    exact wpAny_onRaise (wpAny_mono key (fun fin s' hf => by cases fin <;> exact hf) fun _ _ z => z.elim)

noncomputable def RUNS (C : Cfg) (A : Around) (fx : Fx) (H₁ : AH) (s₁ : Shared) (D : Addr) (e : PySem.Expr) (d : Nat) (gs : List Comprehension) : Prop :=
  ∀ (ZK : Addr → Obj → Prop), ZOk A fx D ZK → ∀ m H acc post s (k : Sem Fin) (QF : Fin → Shared → Prop), GENS C A fx e gs m H acc post → CS C A fx H₁ s₁ D ZK s m H acc →
    (∀ s' m' H' acc', CS C A fx H₁ s₁ D ZK s' m' H' acc' → post m' H' acc' → wpAny (model C.prog C.w) A k QF (fun _ _ => False) s') → wpAny (model C.prog C.w) A (tailOf e d D fx.env k gs) QF (fun _ _ => False) s

theorem comp_code {e : PySem.Expr} {d : Nat} {g : Comprehension} {gs : List Comprehension} {D I : Addr} {vals : List Value} {P : AH → Prop} {Pos : Nat → Heap → Prop} {ZK : Addr → Obj → Prop} {J : Nat → Lo → AH → AO → Prop} {acc : AO} (he : IsComp e)
    (hd : (clausesOf e).drop d = g :: gs) (hg : GOK g) (hgs : ∀ g ∈ gs, g.is_async = 0) (F : Off C A fx D) (hD : s₁.heap.get? D = none) (hZ : ZOk A fx D ZK)
    (it : Itr C A I vals P Pos) (FI : Off C A fx I) (hI : ∀ o, s₁.heap.get? I = some o → I ∈ H₁.keys ∨ I ∈ fx.W) (hID : I ≠ D) (hIZ : ∀ Z o, ZK Z o → Z ≠ I)
    (ih : RUNS C A fx H₁ s₁ D e (d + 1) gs) (jP : ∀ i m H acc, J i m H acc → P H)
    (turn : ∀ i v m H acc, vals[i]? = some v → J i m H acc → ASG C A fx g.target v m H (fun m₂ H₂ => TST C A fx g.ifs m₂ H₂ (fun ok m₃ H₃ => if ok = true then GENS C A fx e gs m₃ H₃ acc (J (i + 1)) else J (i + 1) m₃ H₃ acc) noX) noX)
    (cs : CS C A fx H₁ s₁ D ZK s m H acc) (hIH : I ∉ H.keys) (p0 : Pos 0 s.heap) (j0 : J 0 m H acc) :
    codeAny (model C.prog C.w) A (.compStart e d (.ref I) (.ref D) fx.env) (fun r s' => r = .ok .next ∧ ∃ m H acc, CS C A fx H₁ s₁ D ZK s' m H acc ∧ J vals.length m H acc) s := by
  have hg0 : (clausesOf e)[d]? = some g := by
    have := congrArg List.head? hd
    rw [List.head?_drop] at this
    exact this
  refine start_entry he hg0 hg.async (fun Q E q => it.self 0 s Q E p0 q) ?_
  refine loop_entry (M := model C.prog C.w) he (fun n s => ∃ i m H acc, n = vals.length + 1 - i ∧ i ≤ vals.length ∧ CS C A fx H₁ s₁ D ZK s m H acc ∧ I ∉ H.keys ∧ Pos i s.heap ∧ J i m H acc) ?_ (vals.length + 1)
    ⟨0, m, H, acc, rfl, Nat.zero_le _, cs, hIH, p0, j0⟩
  intro n s hY2
  refine hide fun z129 => ?_
  obtain ⟨i, m, H, acc, rfl, hi, ⟨⟨S, E, hDH, o, ho, hr⟩, hz⟩, hIH, pi, ji⟩ := hY2
  refine z129 ?_
  rw [turn_eq he hd hg.async hgs]
  have move : ∀ h' tk, (∀ b o, b ≠ I → s.heap.get? b = some o → h'.get? b = some o) → CS C A fx H₁ s₁ D ZK { s with heap := h', toks := tk } m H acc := fun h' tk hk' => by
    obtain ⟨S', E'⟩ := S.aside FI hI E hIH (s' := { s with heap := h', toks := tk }) hk'
    exact ⟨⟨S', E', hDH, o, hk' _ _ (Ne.symm hID) ho, hr⟩, fun Z o hz' => ⟨hk' _ _ (hIZ Z o hz') (hz Z o hz').1, (hz Z o hz').2⟩⟩
  refine wpAny_bind (wpAny_standAt (wpAny_bind ?_))
  cases q : vals[i]? with
  | none =>
    have hi' : i = vals.length := Nat.le_antisymm hi (List.getElem?_eq_none_iff.mp q)
    subst hi'
    refine it.done fx m H s _ _ (jP _ _ _ _ ji) S hIH pi fun h' tk' hk' => ?_
    exact wpAny_pure ⟨rfl, m, H, acc, move h' tk' hk', ji⟩
  | some v =>
    have hlt : i < vals.length := (List.getElem?_eq_some_iff.mp q).1
    refine it.item i v fx m H s _ _ q (jP _ _ _ _ ji) S hIH pi fun r h' tk' hr' p1 hk' => ?_
    refine hide fun z130 => ?_
    obtain ⟨⟨S', E', hDH', o', ho', hro'⟩, hz'⟩ := move h' tk' hk'
    refine z130 ?_
    dsimp only
    refine hide fun z131 => ?_
    obtain ⟨oI, nI, hoI, hcI, hnI⟩ := it.there _ _ p1
    refine z131 ?_
    refine wpAny_bind (letOwned_plain hoI hcI hnI (wpAny_bind ?_))
    let ZK' : Addr → Obj → Prop := fun Z o => ZK Z o ∨ (Z = I ∧ o = oI)
    have hZ' : ZOk A fx D ZK' := ⟨fun Z o h => h.elim (hZ.W Z o) fun h => h.1 ▸ FI.W, fun Z o h => h.elim (hZ.frame Z o) fun h => h.1 ▸ FI.frame, fun Z o h => h.elim (hZ.ne Z o) fun h => h.1 ▸ hID⟩
    have z₀ : ∀ Z o, ZK' Z o → ({ s with heap := h', toks := tk' } : Shared).heap.get? Z = some o ∧ Z ∉ H.keys := fun Z o h => h.elim (hz' Z o) fun h => by obtain ⟨rfl, rfl⟩ := h; exact ⟨hoI, hIH⟩
    have back : ∀ {s₃ m₃ H₃ acc₃}, CS C A fx H₁ s₁ D ZK' s₃ m₃ H₃ acc₃ → J (i + 1) m₃ H₃ acc₃ → ∃ n', n' < vals.length + 1 - i ∧ ∃ i m H acc, n' = vals.length + 1 - i ∧ i ≤ vals.length ∧ CS C A fx H₁ s₁ D ZK s₃ m H acc ∧ I ∉ H.keys ∧ Pos i s₃.heap ∧ J i m H acc := fun {s₃ m₃ H₃ acc₃} c j =>
      ⟨_, lt_down (Nat.lt_succ_of_lt hlt), i + 1, m₃, H₃, acc₃, rfl, hlt, ⟨c.1, fun Z o h => c.2 Z o (.inl h)⟩, (c.2 I oI (.inr ⟨rfl, rfl⟩)).2, it.keep _ _ _ p1 fun o'' ho'' => by rw [hoI] at ho''; cases ho''; exact (c.2 I oI (.inr ⟨rfl, rfl⟩)).1, j⟩
    refine wpAny_mono (turn i v m H acc q ji r hr' _ S') (fun _ s₂ h₂ => ?_) fun _ _ h₂ => ?_
    · refine hide fun z132 => ?_
      obtain ⟨m₂, H₂, S₂, E₂, q₂⟩ := h₂
      refine z132 ?_
      refine wpAny_bind (wpAny_mono (aw_tests q₂ s₂ S₂) (fun ok s₃ h₃ => ?_) fun _ _ h₃ => ?_)
      · refine hide fun z133 => ?_
        obtain ⟨m₃, H₃, S₃, E₃, q₃⟩ := h₃
        refine z133 ?_
        have EE := E₂.trans E₃
        obtain ⟨hoD, hDH₃⟩ := EE.kept S' ho' hDH' F.W F.frame
        have c₃ : CS C A fx H₁ s₁ D ZK' s₃ m₃ H₃ acc := ⟨⟨S₃, E'.trans EE, hDH₃, o', hoD, hro'⟩, zkept hZ' S' EE z₀⟩
        cases ok with
        | false =>
          simp only [Bool.false_eq_true, if_false] at q₃ ⊢
          exact wpAny_pure ⟨rfl, back c₃ q₃⟩
        | true =>
          simp only [if_true] at q₃ ⊢
          exact ih ZK' hZ' m₃ H₃ acc _ s₃ _ _ q₃ c₃ fun s' m' H' acc' c' j' => wpAny_pure ⟨rfl, back c' j'⟩
      · obtain ⟨_, _, _, _, z⟩ := h₃; exact z
    · obtain ⟨_, _, _, _, z⟩ := h₂; exact z

theorem gens_run {e : PySem.Expr} {D : Addr} (he : IsComp e) (F : Off C A fx D) (hD : s₁.heap.get? D = none) : ∀ (gs : List Comprehension) (d : Nat), (clausesOf e).drop d = gs → (∀ g ∈ gs, GOK g) → RUNS C A fx H₁ s₁ D e d gs
  | [], d, hd, hall => fun ZK hZ m H acc post s k QF hG cs hk =>
    wpAny_bind (wpAny_mono (emit_run hZ he F hD hG cs) (fun _ s' ⟨m', H', acc', c', p'⟩ => hk s' m' H' acc' c' p') fun _ _ z => z)
  | g :: gs, d, hd, hall => fun ZK hZ m H acc post s k QF hG cs hk => by
    have hd' : (clausesOf e).drop (d + 1) = gs := by
      have := congrArg List.tail hd
      rw [List.tail_drop] at this
      exact this
    have ih := gens_run he F hD gs (d + 1) hd' fun g' h' => hall g' (List.mem_cons_of_mem _ h')
    have hg := hall g List.mem_cons_self
    refine hide fun z134 => ?_
    obtain ⟨⟨S, E, hDH, o, ho, hr⟩, hz⟩ := cs
    refine z134 ?_
    unfold tailOf
    refine wpAny_bind (wpAny_mono (hG s S) (fun x s₂ h₂ => ?_) fun _ _ h₂ => ?_)
    · refine hide fun z135 => ?_
      obtain ⟨m₂, H₂, S₂, E₂, vals, P, hI, J, j0, jP, turn, done⟩ := h₂
      obtain ⟨hoD, hDH₂⟩ := E₂.kept S ho hDH F.W F.frame
      refine z135 ?_
      have hz₂ := zkept hZ S E₂ hz
      refine wpAny_bind (wpAny_standAt ?_)
      rw [hg.folded]
      refine wpAny_bind (wpAny_pure (wpAny_bind (wpAny_holding (hI x rfl s₂ _ _ S₂ fun I h₃ tk Pos it hnew hsm p0 hk₃ => ?_))))
      obtain ⟨S₃, E₃⟩ := S₂.keeps (s' := { s₂ with heap := h₃, toks := tk }) hk₃
      have EE := (E.trans E₂).trans E₃
      refine wpAny_bind (wpAny_runOwn (codeAny_mono (comp_code he hd hg (fun g' h' => (hall g' (List.mem_cons_of_mem _ h')).async) F hD hZ it (Off.of S₂ hnew) ((E.trans E₂).newer hnew) (fun q => by rw [q, hoD] at hnew; cases hnew)
        (fun Z o h q => by rw [← q, (hz₂ Z o h).1] at hnew; cases hnew) ih jP turn ⟨⟨S₃, EE, hDH₂, o, hk₃ _ _ hoD, hr⟩, fun Z o h => ⟨hk₃ _ _ (hz₂ Z o h).1, (hz₂ Z o h).2⟩⟩ (none_notKey S₂ hnew) p0 j0) fun r s' hr' => ?_))
      refine hide fun z136 => ?_
      obtain ⟨rfl, m', H', acc', c', j'⟩ := hr'
      refine z136 ?_
      exact hk s' m' H' acc' c' (done m' H' acc' j')
    · obtain ⟨_, _, _, _, z⟩ := h₂; exact z
end
end Mine

namespace Mine
open PySem PySem.W PyProof.Rows
open Sem (wp)

section
variable {α : Type} {C : Cfg} {A A' : Around} {fx fx' : Fx} {m m' m₁ : Lo} {H H' H₁ : AH} {X : Value → Lo → AH → Prop} {K : Frag} {s s' s₁ : Shared}

noncomputable def distinctB : List (PySem.Str × NameKind) → Bool
  | [] => true
  | p :: r => !(r.any fun q => q.1 == p.1) && distinctB r
theorem distinct_of {l : List (PySem.Str × NameKind)} (h : distinctB l = true) : (l.map (·.1)).Nodup := by
  induction l with
  | nil => exact List.nodup_nil
  | cons p r ih =>
    unfold distinctB at h
    simp only [Bool.and_eq_true, Bool.not_eq_true', List.any_eq_false, beq_iff_eq] at h
    refine List.nodup_cons.mpr ⟨fun hm => ?_, ih h.2⟩
    refine hide fun z137 => ?_
    obtain ⟨q, hq, e⟩ := List.mem_map.mp hm
    refine z137 ?_
    exact h.1 q hq e
noncomputable def scOkB (scope outer : Scope) : Bool := scope.kind == .function && outer.kind == .function && distinctB scope.names && scope.names.all fun p => p.2 != .free || outer.names.lookup p.1 == some .cell
noncomputable def freeLo (scope : Scope) (m : Lo) : Lo := m.filter fun p => scope.names.lookup p.1 == some .free
theorem mem_lookup {l : List (PySem.Str × NameKind)} {x : PySem.Str} {k : NameKind} (hn : (l.map (·.1)).Nodup) (h : (x, k) ∈ l) : l.lookup x = some k := by
  induction l with
  | nil => cases h
  | cons p r ih =>
    refine hide fun z138 => ?_
    obtain ⟨y, j⟩ := p
    obtain ⟨h1, h2⟩ := List.nodup_cons.mp hn
    refine z138 ?_
    rcases List.mem_cons.mp h with e | h
    · cases e; simp
    · have hne : (x == y) = false := beq_eq_false_iff_ne.mpr fun e => h1 (e ▸ List.mem_map_of_mem (f := (·.1)) h)
      rw [List.lookup_cons, hne]; exact ih h2 h
structure ScOk (scope outer : Scope) : Prop where
  kind : scope.kind = .function
  okind : outer.kind = .function
  nodup : (scope.names.map (·.1)).Nodup
  free : ∀ x, (x, NameKind.free) ∈ scope.names → outer.names.lookup x = some .cell
theorem ScOk.of {scope outer : Scope} (h : scOkB scope outer = true) : ScOk scope outer := by
  unfold scOkB at h
  simp only [Bool.and_eq_true, beq_iff_eq, List.all_eq_true, Bool.or_eq_true, bne_iff_ne, ne_eq] at h
  refine hide fun z139 => ?_
  obtain ⟨⟨⟨h1, h2⟩, h3⟩, h4⟩ := h
  refine z139 ?_
  exact ⟨h1, h2, distinct_of h3, fun x hx => (h4 _ hx).resolve_left fun n => n rfl⟩
theorem rel_lookup {outer : Scope} : ∀ {l : List (PySem.Str × NameKind)} {x : PySem.Str},
    (l.map fun (n, k) => if (k == NameKind.free && outer.kind == .function && outer.names.lookup n == some .cell) then (n, NameKind.cell) else (n, k)).lookup x = (l.lookup x).map fun k => if (k == NameKind.free && outer.kind == .function && outer.names.lookup x == some .cell) then NameKind.cell else k
  | [], _ => rfl
  | (n, k) :: r, x => by
    rw [List.map_cons]
    have e1 : ∀ (b : Bool), ((if b = true then (n, NameKind.cell) else (n, k)) : PySem.Str × NameKind) = (n, if b = true then NameKind.cell else k) := fun b => by cases b <;> rfl
    dsimp only
    rw [e1, List.lookup_cons, List.lookup_cons]
    cases hx : x == n with
    | true => rw [beq_iff_eq.mp hx]; rfl
    | false => exact rel_lookup
theorem freeLo_ok {scope outer : Scope} (h : ScOk scope outer) {x : PySem.Str} {v : Value} (hm : (x, v) ∈ freeLo scope m) : (x, v) ∈ m ∧ (x, NameKind.free) ∈ scope.names ∧ (x, NameKind.cell) ∉ scope.names ∧ (relS scope outer).names.lookup x = some .cell := by
  obtain ⟨h1, h2⟩ := List.mem_filter.mp hm
  have h3 := beq_iff_eq.mp h2
  refine ⟨h1, mem_of_lookup h3, fun h4 => ?_, ?_⟩
  · have := mem_lookup h.nodup h4
    rw [h3] at this; cases this
  · unfold relS
    rw [rel_lookup, h3]
    simp [h.okind, h.free x (mem_of_lookup h3)]
theorem rel_cell {scope outer : Scope} {x : PySem.Str} (h : (relS scope outer).names.lookup x = some .cell) : (x, NameKind.free) ∈ scope.names ∨ (x, NameKind.cell) ∈ scope.names := by
  unfold relS at h
  rw [rel_lookup] at h
  refine hide fun z140 => ?_
  obtain ⟨k, h1, h2⟩ := Option.map_eq_some_iff.mp h
  refine z140 ?_
  have h1 := mem_of_lookup h1
  split at h2
  · rename_i hc
    simp only [Bool.and_eq_true, beq_iff_eq] at hc
    rw [hc.1.1] at h1
    exact .inl h1
  · rw [h2] at h1; exact .inr h1

theorem comp_newEnv {M : Model} {scope : Scope} {globals : Addr} {cl : List (PySem.Str × Addr)} {qual : PySem.Str} {env : Env} {E : Value → Shared → Prop} {Q : Env → Shared → Prop}
    (h : Q { scope := scope, locals := s.heap.objs.size, globals := globals, cells := cellsFrom (s.heap.objs.size + 1) scope.names cl, qual := qual, func := none, code := env.code, frame := env.frame, builtins := env.builtins } { s with heap := pushCells (s.heap.push { cls := .type "dict", data := .dict #[] }) scope.names }) :
    wpAny M A (newFunctionEnv scope globals cl [] qual none .none (some env)) Q E s := by
  simp only [newFunctionEnv, Option.isSome_some, if_true]
  refine wpAny_bind (wpAny_alloc ?_)
  refine wpAny_bind (wpAny_layCells _ (fun name kind cells => by cases hkc : kind == NameKind.cell <;> simp [hkc]) _ _ _ _ ?_)
  rw [show ({ s with heap := s.heap.push { cls := .type "dict", data := .dict #[] } } : Shared).heap.objs.size = s.heap.objs.size + 1 from Heap.size_push ..]
  refine wpAny_bind ?_
  rw [List.forIn_nil]
  exact wpAny_pure (wpAny_pure h)

theorem Off.comp {D : Addr} (S₁ : St C A fx m₁ H₁ s₁) (hD : s₁.heap.get? D = none) (hlt : D < s.heap.objs.size) (hW : ∀ b ∈ fx'.W, s.heap.objs.size ≤ b)
    (hC : ∀ x c, fx'.env.cells.lookup x = some c → fx.env.cells.lookup x = some c ∨ s.heap.objs.size ≤ c) : Off C A fx' D := by
  have F := Off.of S₁ hD
  refine ⟨F.base, fun h => Nat.lt_irrefl _ (Nat.lt_of_lt_of_le hlt (hW D h)), fun x c e => ?_, F.frame⟩
  rcases hC x c e with h | h
  · exact F.cell x c h
  · exact fun q => Nat.lt_irrefl _ (Nat.lt_of_lt_of_le hlt (q ▸ h))

noncomputable def CEND (C : Cfg) (A : Around) (fx : Fx) (use : Option (Value → Sem Unit)) (a : Addr) (m : Lo) (H : AH) (Q : Value → Lo → AH → Prop) (X : Value → Lo → AH → Prop) : Prop := match use with
  | none => Q (.ref a) m H
  | some u => AW C A fx (u (.ref a)) m H (fun _ => Q .none) noX

theorem aw_comp {e : PySem.Expr} {g : Comprehension} {gs : List Comprehension} {scope outer : Scope} {pos : Pos} {newAcc first : Sem Value} {o₀ : Obj} {acc₀ : AO} {use : Option (Value → Sem Unit)} {Q : Value → Lo → AH → Prop} (he : IsComp e) (hcl : clausesOf e = g :: gs)
    (hok : ∀ g' ∈ g :: gs, GOK g') (hsc : fx.env.scope = outer) (hb : scOkB scope outer = true) (hr₀ : OR C o₀ acc₀) (hf₀ : o₀.isFreed = false)
    (hnew : ∀ (s : Shared) (Q : Value → Shared → Prop) (E : Value → Shared → Prop), Q (.ref s.heap.objs.size) { s with heap := s.heap.push o₀ } → wpAny (model C.prog C.w) A newAcc Q E s)
    (h : AW C A fx first m H (fun x m₁ H₁ => ∃ vals P, ITR C A fx (er x) m₁ H₁ vals P ∧ ∃ J : Nat → Lo → AH → AO → Prop, J 0 (freeLo scope m₁) H₁ acc₀ ∧ (∀ i m H acc, J i m H acc → P H) ∧
      (∀ fx', CompFx fx scope fx' → fx'.env.scope = relS scope outer → ∀ i v m H acc, vals[i]? = some v → J i m H acc →
        ASG C A fx' g.target v m H (fun m₂ H₂ => TST C A fx' g.ifs m₂ H₂ (fun ok m₃ H₃ => if ok = true then GENS C A fx' e gs m₃ H₃ acc (J (i + 1)) else J (i + 1) m₃ H₃ acc) noX) noX) ∧
      (∀ m₂ H₂ acc, J vals.length m₂ H₂ acc → ∀ a, a ∉ H₂.keys → CEND C A fx use a m₁ ((a, acc) :: H₂) Q X)) X) (hacc : acc₀.isGen = false := by rfl) :
    AW C A fx (comprehension e scope fx.env pos newAcc false first use) m H Q X := by
  have SO := ScOk.of hb
  intro s S
  have hfree : ∀ x, (x, NameKind.free) ∈ scope.names → fx.env.kindOf x = some .cell := fun x hx => by unfold Env.kindOf; rw [hsc]; exact SO.free x hx
  have hg := hok g List.mem_cons_self
  refine wpAny_comprehension_free hcl (fun x => hg.folded _ x) (closureFor_eq fun x hx => S.cellW x (hfree x hx)) SO.kind (fun x hx hk => ?_) ?_
  · obtain ⟨n, k⟩ := x
    dsimp only at hk ⊢
    subst hk
    exact mem_lookup SO.nodup hx
  refine wpAny_mono (h s S) (fun x s₁ h₁ => ?_) fun _ _ x => x
  refine hide fun z141 => ?_
  obtain ⟨m₁, H₁, S₁, E₁, vals, P, hI, J, j0, jP, turn, done⟩ := h₁
  refine z141 ?_
  refine hI x rfl s₁ _ _ S₁ fun I h₂ tk Pos it hnewI hsm p0 hk₂ => ?_
  obtain ⟨S₂, E₂⟩ := S₁.keeps (s' := { s₁ with heap := h₂, toks := tk }) hk₂
  refine hnew _ _ _ ?_
  refine hide fun z142 => ?_
  obtain ⟨oI, _, hoI, _⟩ := it.there _ _ p0
  refine z142 ?_
  have hoI : h₂.get? I = some oI := hoI
  have hID : I ≠ h₂.objs.size := fun q => Nat.lt_irrefl _ (q ▸ Heap.lt_size hoI)
  have hpush : ∀ b o, h₂.get? b = some o → (h₂.push o₀).get? b = some o := fun b o e => Heap.get?_push_of_some _ e
  obtain ⟨S₃, E₃⟩ := S₂.keeps (s' := { s₁ with heap := h₂.push o₀, toks := tk }) hpush
  have hszD : (h₂.push o₀).objs.size = h₂.objs.size + 1 := Heap.size_push ..
  have hD₁ : s₁.heap.get? h₂.objs.size = none := by
    cases q : s₁.heap.get? h₂.objs.size with
    | none => rfl
    | some o => exact absurd (Heap.lt_size (hk₂ _ _ q)) (Nat.lt_irrefl _)
  have hoD : (h₂.push o₀).get? h₂.objs.size = some o₀ := Heap.get?_push_size _ hf₀
  refine comp_newEnv ?_
  obtain ⟨S₄, CF, hW, hC⟩ := S₃.comp (scope := scope) (mf := freeLo scope m₁) SO.kind hfree (fun x hx => by rw [hsc] at hx; exact rel_cell hx) (fun x v hv => by rw [hsc]; exact freeLo_ok SO hv) rfl rfl
  generalize hfx : (⟨({ scope := relabel scope fx.env, locals := (h₂.push o₀).objs.size, globals := fx.env.globals, cells := cellsFrom ((h₂.push o₀).objs.size + 1) scope.names (closL fx.env.cells scope.names []), qual := fx.env.qual, func := none, code := fx.env.code, frame := fx.env.frame, builtins := fx.env.builtins } : Env), _⟩ : Fx) = fx' at S₄ CF hW hC
  have hloc : fx'.env.locals = (h₂.push o₀).objs.size := by rw [← hfx]
  have henv : ({ scope := relabel scope fx.env, locals := (h₂.push o₀).objs.size, globals := fx.env.globals, cells := cellsFrom ((h₂.push o₀).objs.size + 1) scope.names (closL fx.env.cells scope.names []), qual := fx.env.qual, func := none, code := fx.env.code, frame := fx.env.frame, builtins := fx.env.builtins } : Env) = fx'.env := by rw [← hfx]
  have k4 : ∀ b o, (h₂.push o₀).get? b = some o → (pushCells ((h₂.push o₀).push { cls := .type "dict", data := .dict #[] }) scope.names).get? b = some o := fun b o e => pushCells_keeps _ _ _ _ (Heap.get?_push_of_some _ e)
  have FD : Off C A fx' h₂.objs.size := Off.comp S₁ hD₁ (by rw [hszD]; exact Nat.lt_succ_self _) hW hC
  have FI : Off C A fx' I := Off.comp S₁ hnewI (by rw [hszD]; exact Nat.lt_succ_of_lt (Heap.lt_size hoI)) hW hC
  have E₄ : Ext A fx' H₁ s₁ H₁ { s₁ with heap := pushCells ((h₂.push o₀).push { cls := .type "dict", data := .dict #[] }) scope.names, toks := tk } :=
    ⟨fun b hb => .inl hb, fun b o e _ _ => ⟨o.slots, k4 b o (hpush b o (hk₂ b o e)), fun _ => rfl⟩, S₄.apart⟩
  have hDH : h₂.objs.size ∉ H₁.keys := none_notKey S₁ hD₁
  have hrun := comp_code (s₁ := s₁) (D := h₂.objs.size) (ZK := fun _ _ => False) (J := J) (acc := acc₀) he (d := 0) (by rw [hcl]; rfl) hg (fun g' h' => (hok g' (List.mem_cons_of_mem _ h')).async) FD hD₁ ⟨fun _ _ h => h.elim, fun _ _ h => h.elim, fun _ _ h => h.elim⟩ it FI (fun o e => by rw [hnewI] at e; cases e) hID (fun _ _ h => h.elim)
    (gens_run (H₁ := H₁) he FD hD₁ gs 1 (by rw [hcl]; rfl) fun g' h' => hok g' (List.mem_cons_of_mem _ h')) jP (turn fx' CF (by rw [CF.sc, hsc])) ⟨⟨S₄, E₄, hDH, o₀, k4 _ _ hoD, hr₀, hacc⟩, fun _ _ h => h.elim⟩ (none_notKey S₁ hnewI)
    (it.keep _ _ _ p0 fun o e => k4 _ _ (hpush _ _ e)) j0
  dsimp only
  rw [henv]
  refine codeAny_mono hrun fun r s' hr => ?_
  refine hide fun z143 => ?_
  obtain ⟨rfl, m', H', acc', ⟨⟨S', E', hDH', oD, hoD', hrD, hgD⟩, _⟩, jn⟩ := hr
  refine z143 ?_
  have hk₁ : ∀ b o, s₁.heap.get? b = some o → b < (h₂.push o₀).objs.size := fun b o e => by rw [hszD]; exact Nat.lt_succ_of_lt (Heap.lt_size (hk₂ b o e))
  obtain ⟨S₅, E₅⟩ := S₁.upd (H' := H') (s' := s') (fun b o e hn => E'.hid b o e hn fun hm => Nat.lt_irrefl _ (Nat.lt_of_lt_of_le (hk₁ b o e) (hW b hm))) S'.cells
    E'.fresh S'.nodup S'.gens (S'.os.trans S₁.os.symm) S'.gst
  have hsmD : sysModules < h₂.objs.size := S₂.low_lt S₂.base
  obtain ⟨S₆, E₆⟩ := S₅.adopt (Off.of S₁ hD₁) hD₁ E₅ hDH' hsmD hoD' hrD hgD
  have hL₁ : s₁.heap.get? (h₂.push o₀).objs.size = none := by
    cases q : s₁.heap.get? (h₂.push o₀).objs.size with
    | none => rfl
    | some o => exact absurd (hk₁ _ _ q) (Nat.lt_irrefl _)
  have FL := Off.of S₁ hL₁
  have hLW : (h₂.push o₀).objs.size ∈ fx'.W := hloc ▸ S'.locW
  have hLH : (h₂.push o₀).objs.size ∉ AH.keys ((h₂.objs.size, acc') :: H') := fun hm => by
    rcases List.mem_cons.mp hm with e | hm
    · rw [hszD] at e; exact absurd e (Nat.succ_ne_self _)
    · exact S'.apart _ hLW hm
  obtain ⟨mr, hns⟩ := S'.loc
  rw [hloc] at hns
  have hend := done m' H' acc' jn h₂.objs.size hDH'
  cases use with
  | none =>
    refine ⟨mr, hns, fun h' hs' => ?_⟩
    obtain ⟨S₇, E₇⟩ := S₆.aside FL (fun o e => by rw [hL₁] at e; cases e) E₆ hLH (s' := { s' with heap := h' }) fun b o hb e => (hs'.2 b hb).trans e
    exact ⟨m₁, _, S₇, E₁.trans E₇, hend⟩
  | some u =>
    refine wpAny_mono (hend s' S₆) (fun _ s'' h'' => ?_) fun _ _ h'' => ?_
    · refine hide fun z144 => ?_
      obtain ⟨m₈, H₈, S₈, E₈, q₈⟩ := h''
      obtain ⟨oL, es, ep, hoL, rest⟩ := hns
      obtain ⟨hoL', hLH₈⟩ := E₈.kept S₆ hoL hLH FL.W FL.frame
      refine z144 ?_
      refine ⟨mr, ⟨oL, es, ep, hoL', rest⟩, fun h' hs' => ?_⟩
      obtain ⟨S₉, E₉⟩ := S₈.aside FL (fun o e => by rw [hL₁] at e; cases e) (E₆.trans E₈) hLH₈ (s' := { s'' with heap := h' }) fun b o hb e => (hs'.2 b hb).trans e
      exact ⟨m₈, H₈, S₉, E₁.trans E₉, q₈⟩
    · obtain ⟨_, _, _, _, z⟩ := h''; exact z.elim
end
end Mine

namespace Mine
open PySem PySem.W PyProof.Rows
open Sem (wp)

section
variable {α : Type} {C : Cfg} {A A' : Around} {fx fx' : Fx} {m m' m₁ : Lo} {H H' H₁ : AH} {X : Value → Lo → AH → Prop} {K : Frag} {s s' s₁ : Shared}

theorem acc_list : OR C { cls := .type "list", data := .seq ([] : List Value).toArray } (.list []) := ⟨rfl, ⟨rfl, rfl⟩, _, _, rfl, rfl⟩
theorem acc_dict : OR C { cls := .type "dict", data := .dict #[] } (.dict [] 0) := ⟨⟨rfl, rfl, rfl⟩, _, rfl, fun e he => by simp at he, List.nodup_nil, [], Pairs.nil, rfl⟩
theorem mk_list {M : Model} (s : Shared) (Q : Value → Shared → Prop) (E : Value → Shared → Prop) (h : Q (.ref s.heap.objs.size) { s with heap := s.heap.push { cls := .type "list", data := .seq ([] : List Value).toArray } }) : wpAny M A (newList []) Q E s :=
  wpAny_newObj_type h
noncomputable def TURNS (C : Cfg) (A : Around) (fx : Fx) (e : PySem.Expr) (scope outer : Scope) (g : Comprehension) (gs : List Comprehension) (x : Value) (acc₀ : AO) (m₁ : Lo) (H₁ : AH) (fin : AH → AO → Addr → Prop) : Prop :=
  ∃ vals P, ITR C A fx x m₁ H₁ vals P ∧ ∃ J : Nat → Lo → AH → AO → Prop, J 0 (freeLo scope m₁) H₁ acc₀ ∧ (∀ i m H acc, J i m H acc → P H) ∧
      (∀ fx', CompFx fx scope fx' → fx'.env.scope = relS scope outer → ∀ i v m H acc, vals[i]? = some v → J i m H acc →
        ASG C A fx' g.target v m H (fun m₂ H₂ => TST C A fx' g.ifs m₂ H₂ (fun ok m₃ H₃ => if ok = true then GENS C A fx' e gs m₃ H₃ acc (J (i + 1)) else J (i + 1) m₃ H₃ acc) noX) noX) ∧
      (∀ m₂ H₂ acc, J vals.length m₂ H₂ acc → ∀ a, a ∉ H₂.keys → fin H₂ acc a)

theorem firstIter_eq (g : Comprehension) (gs : List Comprehension) (env : Env) : firstIter (g :: gs) env = eval g.iter env := by cases g; rfl

theorem ev_listcomp {elt : PySem.Expr} {g : Comprehension} {gs : List Comprehension} {scope outer : Scope} {pos : Pos} {Q : Value → Lo → AH → Prop} (hsc : fx.env.scope = outer)
    (h : EV C A fx g.iter m H (fun x m₁ H₁ => TURNS C A fx (.ListComp elt (g :: gs) scope pos) scope outer g gs x (.list []) m₁ H₁ (fun H₂ acc a => Q (.ref a) m₁ ((a, acc) :: H₂))) X)
    (hok : ∀ g' ∈ g :: gs, GOK g') (hb : scOkB scope outer = true := by rfl) : EV C A fx (.ListComp elt (g :: gs) scope pos) m H Q X := by
  show AW C A fx (eval _ _) m H _ X
  have hf : firstAsync (g :: gs) = false := by
    refine hide fun z145 => ?_
    obtain ⟨a, b, c, d⟩ := g
    refine z145 ?_
    have := (hok _ List.mem_cons_self).async
    dsimp only at this
    subst this
    rfl
  rw [eval_ListComp, hf, firstIter_eq]
  exact aw_comp (use := none) (Q := fun v => Q (er v)) (.inl ⟨_, _, _, _, rfl⟩) rfl hok hsc hb acc_list rfl mk_list h
theorem ex_listcomp {x : PySem.Str} {px spos : Pos} {elt : PySem.Expr} {g : Comprehension} {gs : List Comprehension} {scope outer : Scope} {pos : Pos} {Q : Flow → Lo → AH → Prop} (hsc : fx.env.scope = outer) (hx : Own fx x)
    (hs : swapsWith (.ListComp elt (g :: gs) scope pos) (some (.Name x px)) spos.line fx.env = pure true)
    (h : EV C A fx g.iter m H (fun x' m₁ H₁ => TURNS C A fx (.ListComp elt (g :: gs) scope pos) scope outer g gs x' (.list []) m₁ H₁ (fun H₂ acc a => Q .next (m₁.put x (.ref a)) ((a, acc) :: H₂))) X)
    (hok : ∀ g' ∈ g :: gs, GOK g') (hb : scOkB scope outer = true := by rfl) : EX C A fx (.Assign [.Name x px] (.ListComp elt (g :: gs) scope pos) spos) m H Q X := by
  show AW C A fx (exec _ _) m H _ X
  have hf : firstAsync (g :: gs) = false := by
    refine hide fun z146 => ?_
    obtain ⟨a, b, c, d⟩ := g
    refine z146 ?_
    have := (hok _ List.mem_cons_self).async
    dsimp only at this
    subst this
    rfl
  rw [exec_Assign_Name_used _ _ _ _ hs]
  refine aw_bind (aw_standAt ?_)
  show AW C A fx ((do let _ ← comprehension (.ListComp elt (g :: gs) scope pos) scope fx.env (firstIterPos (g :: gs) pos) (newList []) (firstAsync (g :: gs)) (firstIter (g :: gs) fx.env) (some (assign (.Name x px) fx.env))) >>= fun _ => pure Flow.next) m H _ X
  rw [hf, firstIter_eq]
  have h' : AW C A fx (eval g.iter fx.env) m H (fun v' m₁ H₁ => TURNS C A fx (.ListComp elt (g :: gs) scope pos) scope outer g gs (er v') (.list []) m₁ H₁ (fun H₂ acc a => Q .next (m₁.put x (.ref a)) ((a, acc) :: H₂))) X := h
  refine aw_bind (aw_bind (aw_mono (aw_comp (use := some (assign (.Name x px) fx.env)) (Q := fun _ m₁ H₁ => Q .next m₁ H₁) (.inl ⟨_, _, _, _, rfl⟩) rfl hok hsc hb acc_list rfl mk_list (aw_mono h' (fun x m₁ H₁ h₁ => ?_) fun _ _ _ x => x)) (fun _ _ _ q => aw_pure (aw_pure q)) fun _ _ _ x => x))
  refine hide fun z147 => ?_
  obtain ⟨vals, P, h1, J, h2, h3, h4, h5⟩ := h₁
  refine z147 ?_
  refine ⟨vals, P, h1, J, h2, h3, h4, fun m₂ H₂ acc j a ha => ?_⟩
  exact asg_name hx (h5 m₂ H₂ acc j a ha) _ rfl
theorem swaps_eq {value : PySem.Expr} {x : PySem.Str} {px : Pos} {line : Nat} {scope sc : Scope} {b : Bool} (hv : (∃ a g p, value = .ListComp a g scope p) ∨ ∃ a c g p, value = .DictComp a c g scope p) (hsc : fx.env.scope = sc)
    (hb : (sc.kind == .function && sc.names.lookup x == some .local && px.line == value.pos.line && !(scope.names.any fun (n, k) => n == x && (k == .local || k == .cell))) = b) (hbk : fx.env.blockKind = fx.env.scope.kind) :
    swapsWith value (some (.Name x px)) line fx.env = pure b := by
  subst hb
  rcases hv with ⟨a, g, p, rfl⟩ | ⟨a, c, g, p, rfl⟩
  · unfold swapsWith
    simp only [hbk, Env.kindOf, hsc]
  · unfold swapsWith
    simp only [hbk, Env.kindOf, hsc]
end
end Mine

namespace Mine
open PySem PySem.W PyProof.Rows
open Sem (wp)

section
variable {α : Type} {C : Cfg} {A A' : Around} {fx fx' : Fx} {m m' m₁ : Lo} {H H' H₁ : AH} {X : Value → Lo → AH → Prop} {K : Frag} {s s' s₁ : Shared} {Q : Value → Lo → AH → Prop}

theorem er1 {vs : List Value} {x : Value} (h : vs.map er = [x]) : ∃ a, vs = [a] ∧ er a = x := by
  rcases vs with _ | ⟨a, _ | ⟨b, r⟩⟩ <;> simp at h
  exact ⟨a, rfl, h⟩
theorem er2 {vs : List Value} {x y : Value} (h : vs.map er = [x, y]) : ∃ a b, vs = [a, b] ∧ er a = x ∧ er b = y := by
  rcases vs with _ | ⟨a, _ | ⟨b, _ | ⟨c, r⟩⟩⟩ <;> simp at h
  exact ⟨a, b, rfl, h.1, h.2⟩
theorem er3 {vs : List Value} {x y z : Value} (h : vs.map er = [x, y, z]) : ∃ a b c, vs = [a, b, c] ∧ er a = x ∧ er b = y ∧ er c = z := by
  rcases vs with _ | ⟨a, _ | ⟨b, _ | ⟨c, _ | ⟨d, r⟩⟩⟩⟩ <;> simp at h
  exact ⟨a, b, c, rfl, h.1, h.2.1, h.2.2⟩

theorem gm_list {l : Addr} {xs : List Value} {n : PySem.Str} {id : String} {Q : Value → List Value → Lo → AH → Prop} (hl : (l, AO.list xs) ∈ H) (slot : Slot "list" n id) (hty : typeOf (.builtin id) = pure (.type "method_descriptor")) (h : Q (.builtin id) [.ref l] m H) :
    GM C A fx (.ref l) n m H Q X := fun a pl ha => by
  obtain rfl := er_eq_ref ha
  intro s S
  refine hide fun z148 => ?_
  obtain ⟨vs, k, h1, h2⟩ := S.isL hl
  refine z148 ?_
  exact getMethod_builtin (T := "list") ⟨_, h1, rfl⟩ PySem.F.plainAttrs_list slot hty (fun b e => by cases e; exact ⟨_, h1, rfl⟩) ⟨m, H, S, Ext.refl' S, h⟩
theorem gm_dict {d : Addr} {kvs : List (Int × Value)} {ep : Nat} {n : PySem.Str} {id : String} {Q : Value → List Value → Lo → AH → Prop} (hd : (d, AO.dict kvs ep) ∈ H) (slot : Slot "dict" n id) (hty : typeOf (.builtin id) = pure (.type "method_descriptor")) (h : Q (.builtin id) [.ref d] m H) :
    GM C A fx (.ref d) n m H Q X := fun a pl ha => by
  obtain rfl := er_eq_ref ha
  intro s S
  refine hide fun z149 => ?_
  obtain ⟨o, ho, hx, _⟩ := S.get hd
  refine z149 ?_
  exact getMethod_builtin (T := "dict") ⟨o, ho, hx.1⟩ PySem.F.plainAttrs_dict slot hty (fun b e => by cases e; exact ⟨o, ho, hx.2.1⟩) ⟨m, H, S, Ext.refl' S, h⟩
theorem gm_set {d : Addr} {xs : List Int} {n : PySem.Str} {id : String} {Q : Value → List Value → Lo → AH → Prop} (hd : (d, AO.set xs) ∈ H) (slot : Slot "set" n id) (hty : typeOf (.builtin id) = pure (.type "method_descriptor")) (h : Q (.builtin id) [.ref d] m H) :
    GM C A fx (.ref d) n m H Q X := fun a pl ha => by
  obtain rfl := er_eq_ref ha
  intro s S
  refine hide fun z150 => ?_
  obtain ⟨o, ho, hx', _⟩ := S.get hd
  refine z150 ?_
  exact getMethod_builtin (T := "set") ⟨o, ho, hx'.1⟩ PySem.F.plainAttrs_set slot hty (fun b e => by cases e; exact ⟨o, ho, hx'.2.1⟩) ⟨m, H, S, Ext.refl' S, h⟩

theorem write_list {l : Addr} {vs : Array Value} {n : Nat} {xs : List Value} (S : St C A fx m H s) (hl : (l, AO.list xs) ∈ H) (h1 : IsL s.heap l vs n) (f : Array Value → Array Value) {ys : List Value} (hy : (f vs).toList.map er = ys) (tk : Nat) :
    St C A fx m (H.put l (.list ys)) { s with heap := s.heap.update l (Obj.mapSeq f), toks := tk } ∧ Ext A fx H s (H.put l (.list ys)) { s with heap := s.heap.update l (Obj.mapSeq f), toks := tk } :=
  S.write hl (Heap.SameBut.update ..) (h1.update f) ⟨rfl, ⟨rfl, rfl⟩, _, _, rfl, hy⟩
theorem call_append {l : Addr} {xs : List Value} {x : Value} (hl : (l, AO.list xs) ∈ H) (hz : xs.length ≤ 1000000) (h : Q .none m (H.put l (.list (xs ++ [x])))) : CALL C A fx (.builtin "list.append") [.ref l, x] m H Q X := fun g vs hg hvs => by
  obtain rfl := er_eq_builtin hg
  refine hide fun z151 => ?_
  obtain ⟨a, b, rfl, ha, hb⟩ := er2 hvs
  refine z151 ?_
  obtain rfl := er_eq_ref ha
  intro s S
  refine hide fun z152 => ?_
  obtain ⟨vs, n, h1, h2⟩ := S.isL hl
  refine z152 ?_
  refine call_meets PySem.F.slot_list_append ⟨_, h1, rfl⟩ PySem.F.entry_list_append (PySem.F.args_list_append_2 _ _) (list_append l vs n b (by rw [size_of_er h2, sizeLine_eq]; omega)) ⟨h1, ?_⟩
  obtain ⟨S', E'⟩ := write_list S hl h1 (·.push b) (ys := xs ++ [x]) (by rw [Array.toList_push, List.map_append, h2]; simp [hb]) s.toks
  exact ⟨m, _, S', E', h⟩
theorem call_clear {l : Addr} {xs : List Value} (hl : (l, AO.list xs) ∈ H) (hz : xs.length ≤ 1000000) (h : Q .none m (H.put l (.list []))) : CALL C A fx (.builtin "list.clear") [.ref l] m H Q X := fun g vs hg hvs => by
  obtain rfl := er_eq_builtin hg
  refine hide fun z153 => ?_
  obtain ⟨a, rfl, ha⟩ := er1 hvs
  refine z153 ?_
  obtain rfl := er_eq_ref ha
  intro s S
  refine hide fun z154 => ?_
  obtain ⟨vs, n, h1, h2⟩ := S.isL hl
  refine z154 ?_
  refine call_meets PySem.F.slot_list_clear ⟨_, h1, rfl⟩ PySem.F.entry_list_clear (PySem.F.args_list_clear_1 _) (AutoSeq1.list_clear_list_0 l vs n (by rw [size_of_er h2, sizeLine_eq]; omega)) ⟨h1, ?_⟩
  obtain ⟨S', E'⟩ := write_list S hl h1 (fun _ => #[]) (ys := []) rfl s.toks
  exact ⟨m, _, S', E', h⟩
theorem call_pop {l : Addr} {xs : List Value} {x : Value} (hl : (l, AO.list (xs ++ [x])) ∈ H) (hz : xs.length < 1000000) (h : Q x m (H.put l (.list xs))) : CALL C A fx (.builtin "list.pop") [.ref l] m H Q X := fun g vs hg hvs => by
  obtain rfl := er_eq_builtin hg
  refine hide fun z155 => ?_
  obtain ⟨a, rfl, ha⟩ := er1 hvs
  refine z155 ?_
  obtain rfl := er_eq_ref ha
  intro s S
  refine hide fun z156 => ?_
  obtain ⟨vs, n, h1, h2⟩ := S.isL hl
  refine z156 ?_
  have hsz := size_of_er h2
  rw [List.length_append, List.length_singleton] at hsz
  refine hide fun z157 => ?_
  obtain ⟨r, e1, e2⟩ := er_get (k := xs.length) (v := x) h2 (by simp)
  refine z157 ?_
  refine call_meets PySem.F.slot_list_pop ⟨_, h1, rfl⟩ PySem.F.entry_list_pop (PySem.F.args_list_pop_1 _) (MeetsSeq.list_pop_last l vs n r (by rw [hsz]; exact e1) (by rw [hsz, sizeLine_eq]; omega)) ⟨h1, ?_⟩
  obtain ⟨S', E'⟩ := write_list S hl h1 (fun xs => xs.eraseIdxIfInBounds (vs.size - 1)) (ys := xs) (by
    obtain ⟨l', rfl⟩ : ∃ l', vs = List.toArray l' := ⟨vs.toList, rfl⟩
    simp only [List.eraseIdxIfInBounds_toArray, List.size_toArray] at hsz ⊢
    have h2' : l'.map er = xs ++ [x] := h2
    rw [List.eraseIdx_length_sub_one, List.map_dropLast, h2', List.dropLast_concat]) s.toks
  exact ⟨m, _, S', E', by show Q (er r) m _; rw [e2]; exact h⟩
theorem call_extend_tup {l b : Addr} {xs ys : List Value} (hl : (l, AO.list xs) ∈ H) (hb : (b, AO.tup ys) ∈ H) (hz : xs.length + ys.length ≤ 1000000) (h : Q .none m (H.put l (.list (xs ++ ys)))) : CALL C A fx (.builtin "list.extend") [.ref l, .ref b] m H Q X := fun g vs hg hvs => by
  obtain rfl := er_eq_builtin hg
  refine hide fun z158 => ?_
  obtain ⟨a, a', rfl, ha, ha'⟩ := er2 hvs
  refine z158 ?_
  obtain rfl := er_eq_ref ha
  obtain rfl := er_eq_ref ha'
  intro s S
  refine hide fun z159 => ?_
  obtain ⟨vs, n, h1, h2⟩ := S.isL hl
  obtain ⟨vs', n', h3, h4⟩ := S.isT hb
  refine z159 ?_
  refine call_meets PySem.F.slot_list_extend ⟨_, h1, rfl⟩ PySem.F.entry_list_extend (PySem.F.args_list_extend_2 _ _) (AutoSeq1.list_extend_list_tuple_0 l vs n b vs' n' ?_ (by rw [size_of_er h2, sizeLine_eq]; omega) (by rw [size_of_er h2, size_of_er h4, sizeLine_eq]; omega)) ⟨h1, h3, ?_⟩
  · have e : Builtin.List.listTooLong (vs.size + vs'.size) = false := by
      unfold Builtin.List.listTooLong
      rw [size_of_er h2, size_of_er h4, sizeLine_eq]
      simp; omega
    rw [e]; simp
  · obtain ⟨S', E'⟩ := write_list S hl h1 (fun x => x ++ vs') (ys := xs ++ ys) (by simp [h2, h4]) s.toks
    exact ⟨m, _, S', E', h⟩
theorem bo_cat {l b : Addr} {xs ys : List Value} (hl : (l, AO.list xs) ∈ H) (hb : (b, AO.list ys) ∈ H) (hz : xs.length + ys.length ≤ 1000000) (h : ∀ a, a ∉ H.keys → Q (.ref a) m ((a, .list (xs ++ ys)) :: H)) : BO C A fx .Add (.ref l) (.ref b) m H Q X := fun a a' ha ha' => by
  obtain rfl := er_eq_ref ha
  obtain rfl := er_eq_ref ha'
  intro s S
  refine hide fun z160 => ?_
  obtain ⟨vs, n, h1, h2⟩ := S.isL hl
  obtain ⟨vs', n', h3, h4⟩ := S.isL hb
  obtain ⟨S', E'⟩ := S.push (o := { cls := .type "list", data := .seq (vs ++ vs') }) (ao := .list (xs ++ ys)) ⟨rfl, ⟨rfl, rfl⟩, _, _, rfl, by simp [h2, h4]⟩
  refine z160 ?_
  exact PySem.P.add_list h1 h3 ⟨m, _, S', E', h _ fun hm => Nat.lt_irrefl _ (S.key_lt hm)⟩ (by rw [size_of_er h2, size_of_er h4, sizeLine_eq]; omega)

theorem ev_list {es : List PySem.Expr} {pos : Pos} (h : EVS C A fx es pos m H (fun vs m₁ H₁ => vs.length ≤ 1000000 ∧ ∀ a, a ∉ H₁.keys → Q (.ref a) m₁ ((a, .list vs) :: H₁)) X) : EV C A fx (.List es pos) m H Q X := by
  show AW C A fx (eval _ _) m H _ X
  rw [arm_eval_List]
  exact aw_bind (aw_standAt (aw_bind (aw_mono h (fun vs m₁ H₁ h₁ => aw_newList (by simpa using h₁.1) h₁.2) fun _ _ _ x => x)))
theorem ev_tuple {es : List PySem.Expr} {x1 : _} {pos : Pos} (h : EVS C A fx es pos m H (fun vs m₁ H₁ => vs.length ≤ 1000000 ∧ ∀ a, a ∉ H₁.keys → Q (.ref a) m₁ ((a, .tup vs) :: H₁)) X) : EV C A fx (.Tuple es x1 pos) m H Q X := by
  show AW C A fx (eval _ _) m H _ X
  rw [arm_eval_Tuple]
  exact aw_bind (aw_standAt (aw_bind (aw_mono h (fun vs m₁ H₁ h₁ => aw_newTuple (by simpa using h₁.1) h₁.2) fun _ _ _ x => x)))
theorem ev_dict0 {pos : Pos} (h : ∀ a, a ∉ H.keys → Q (.ref a) m ((a, .dict [] 0) :: H)) (he : eval (.Dict [] [] pos) fx.env = (standAt pos >>= fun _ => dictDisplay []) := by rfl) : EV C A fx (.Dict [] [] pos) m H Q X := by
  show AW C A fx (eval _ _) m H _ X
  rw [he]
  refine aw_bind (aw_standAt ?_)
  unfold dictDisplay
  exact aw_new (ao := .dict [] 0) acc_dict rfl (by show _ ≤ _; simp) h

theorem intKey {k : Int} {t : Tok} : (intKind C.prog C.w).is k (.int k t) = true := by simp [intKind, Value.isInt]
theorem call_get {d : Addr} {kvs : List (Int × Value)} {ep : Nat} {k : Int} (hd : (d, AO.dict kvs ep) ∈ H) (h : Q ((dval kvs k).getD .none) m H) : CALL C A fx (.builtin "dict.get") [.ref d, vI k] m H Q X := fun g vs hg hvs => by
  obtain rfl := er_eq_builtin hg
  refine hide fun z161 => ?_
  obtain ⟨a, b, rfl, ha, hb⟩ := er2 hvs
  refine z161 ?_
  obtain rfl := er_eq_ref ha
  obtain ⟨t, rfl⟩ := er_eq_int hb
  intro s S
  refine hide fun z162 => ?_
  obtain ⟨raw, h1, h2⟩ := S.dictAt hd
  refine z162 ?_
  refine call_meetsIn PySem.F.slot_dict_get h1.dictOf.typeIs PySem.F.entry_dict_get (PySem.F.args_dict_get_2 _ _) (meets_dict_get (intKind C.prog C.w) d intKey (S.notMods (mem_keys hd))) ⟨_, h1.dictOf.mapOf, ?_⟩
  refine ⟨m, H, (S.toks _).1, (S.toks _).2, ?_⟩
  show Q (er _) m H
  have : er ((valueAt raw k).getD .none) = (dval kvs k).getD .none := by
    rw [← valueAt_er h2 k]
    cases valueAt raw k <;> rfl
  rw [this]; exact h
theorem si_dict {d : Addr} {kvs : List (Int × Value)} {ep : Nat} {k : Int} {v : Value} {Q : Lo → AH → Prop} (hd : (d, AO.dict kvs ep) ∈ H) (hz : kvs.length ≤ 1000000) (h : ∀ ep', Q m (H.put d (.dict (stored kvs k v) ep'))) : SI C A fx (.ref d) (vI k) v m H Q X := fun a b c ha hb hc => by
  obtain rfl := er_eq_ref ha
  obtain ⟨t, rfl⟩ := er_eq_int hb
  intro s S
  refine hide fun z163 => ?_
  obtain ⟨raw, h1, h2⟩ := S.dictAt hd
  refine z163 ?_
  refine wpAny_setItem_pairs (knd := intKind C.prog C.w) intKey h1.dictOf (fun h' hd' hs => ?_) (by rw [raw_len h2, sizeLine_eq]; omega)
  refine hide fun z164 => ?_
  obtain ⟨o', ep', ho', hr'⟩ := or_dict hd' (stored_er h2 k c)
  refine z164 ?_
  rw [hc] at hr'
  obtain ⟨S', E'⟩ := S.write (s' := { s with heap := h', toks := s.toks + 1 }) hd hs ho' hr'
  exact ⟨m, _, S', E', h ep'⟩
end
end Mine

namespace Mine
open PySem PySem.W PyProof.Rows
open Sem (wp)

section
variable {α : Type} {C : Cfg} {A A' : Around} {fx fx' : Fx} {m m' m₁ : Lo} {H H' H₁ : AH} {X : Value → Lo → AH → Prop} {K : Frag} {s s' s₁ : Shared} {Q : Value → Lo → AH → Prop}

noncomputable abbrev iv (ns : List Int) : List Value := ns.map vI
theorem intsAre_er : ∀ {vs : List Value} {ns : List Int}, vs.map er = iv ns → IntsAre vs ns
  | [], [], _ => .nil
  | [], _ :: _, h => by simp at h
  | _ :: _, [], h => by simp at h
  | v :: r, n :: ns, h => by
    simp only [List.map_cons, List.cons.injEq] at h
    obtain ⟨t, rfl⟩ := er_eq_int h.1
    exact .cons n t (intsAre_er h.2)
theorem er_intsAre : ∀ {vs : List Value} {ns : List Int}, IntsAre vs ns → vs.map er = iv ns
  | _, _, .nil => rfl
  | _, _, .cons n t h => by rw [List.map_cons, er_intsAre h]; rfl
theorem St.ints {l : Addr} {ns : List Int} (S : St C A fx m H s) (h : (l, AO.list (iv ns)) ∈ H) : ∃ vs : List Value, s.heap.IsList l vs.toArray ∧ IntsAre vs ns := by
  refine hide fun z165 => ?_
  obtain ⟨vs, h1, h2⟩ := S.isList h
  refine z165 ?_
  exact ⟨vs.toList, by simpa using h1, intsAre_er h2⟩
theorem St.kept {tk : Nat} {h' : Heap} (S : St C A fx m H s) (hk : ∀ b o, s.heap.get? b = some o → h'.get? b = some o) : St C A fx m H { s with heap := h', toks := tk } ∧ Ext A fx H s H { s with heap := h', toks := tk } := S.keeps hk

theorem call_len_l {l : Addr} {xs : List Value} (hl : (l, AO.list xs) ∈ H) (hz : xs.length ≤ 1000000) (h : Q (vI xs.length) m H) : CALL C A fx (.builtin "len") [.ref l] m H Q X := fun g vs hg hvs => by
  obtain rfl := er_eq_builtin hg
  refine hide fun z166 => ?_
  obtain ⟨a, rfl, ha⟩ := er1 hvs
  refine z166 ?_
  obtain rfl := er_eq_ref ha
  intro s S
  refine hide fun z167 => ?_
  obtain ⟨vs, h1, h2⟩ := S.isList hl
  refine z167 ?_
  refine PySem.Calls.call_len_list h1 (by rw [size_of_er h2]; omega) ⟨m, H, (S.toks _).1, (S.toks _).2, ?_⟩
  show Q (vI _) m H
  rw [size_of_er h2]; exact h
theorem call_len_t {l : Addr} {xs : List Value} (hl : (l, AO.tup xs) ∈ H) (hz : xs.length ≤ 1000000) (h : Q (vI xs.length) m H) : CALL C A fx (.builtin "len") [.ref l] m H Q X := fun g vs hg hvs => by
  obtain rfl := er_eq_builtin hg
  refine hide fun z168 => ?_
  obtain ⟨a, rfl, ha⟩ := er1 hvs
  refine z168 ?_
  obtain rfl := er_eq_ref ha
  intro s S
  refine hide fun z169 => ?_
  obtain ⟨vs, n, h1, h2⟩ := S.isT hl
  refine z169 ?_
  refine PySem.P.len_tuple h1 (by rw [size_of_er h2]; omega) ⟨m, H, (S.toks _).1, (S.toks _).2, ?_⟩
  show Q (vI _) m H
  rw [size_of_er h2]; exact h
theorem call_range {n : Int} (h : ∀ a, a ∉ H.keys → Q (.ref a) m ((a, .flds (.type "range") [vI 0, vI n, vI 1]) :: H)) : CALL C A fx (.type "range") [vI n] m H Q X := fun g vs hg hvs => by
  obtain rfl := er_eq_type hg
  refine hide fun z170 => ?_
  obtain ⟨a, rfl, ha⟩ := er1 hvs
  obtain ⟨t, rfl⟩ := er_eq_int ha
  refine z170 ?_
  intro s S
  obtain ⟨S', E'⟩ := S.push (o := { cls := .type "range", data := .fields #[.int 0 s.toks, .int n t, .int 1 (s.toks + 1)] }) (ao := .flds (.type "range") [vI 0, vI n, vI 1]) ⟨rfl, ⟨rfl, rfl⟩, _, rfl, rfl⟩
  have S₂ := S'.toks (s.toks + 1 + 1)
  exact call_range_1 ⟨m, _, S₂.1, E'.trans S₂.2, h _ fun hm => Nat.lt_irrefl _ (S.key_lt hm)⟩
theorem call_sum {l : Addr} {ns : List Int} (hA : A.handled = none) (hl : (l, AO.list (iv ns)) ∈ H) (h : Q (vI ns.sum) m H) : CALL C A fx (.builtin "sum") [.ref l] m H Q X := fun g vs hg hvs => by
  obtain rfl := er_eq_builtin hg
  refine hide fun z171 => ?_
  obtain ⟨a, rfl, ha⟩ := er1 hvs
  refine z171 ?_
  obtain rfl := er_eq_ref ha
  intro s S
  refine hide fun z172 => ?_
  obtain ⟨vs, h1, h2⟩ := S.ints hl
  obtain ⟨xs, e⟩ := h2.allInts.items
  refine z172 ?_
  rw [e] at h1
  have hn : xs.toList.map (·.1) = ns := by rw [← nums_intItems, ← e]; exact h2.numsOf
  refine sum_intListG hA h1 fun h' tk t' hk => ⟨m, H, (S.kept hk).1, (S.kept hk).2, ?_⟩
  show Q (vI _) m H
  rw [preSum_eq, hn, List.take_of_length_le (by rw [← hn]; simp)]
  exact h
theorem call_max {l : Addr} {ns : List Int} (hA : A.handled = none) (hl : (l, AO.list (iv ns)) ∈ H) (hne : 0 < ns.length) (h : ∀ M, M ∈ ns → (∀ a, a ∈ ns → a ≤ M) → Q (vI M) m H) : CALL C A fx (.builtin "max") [.ref l] m H Q X := fun g vs hg hvs => by
  obtain rfl := er_eq_builtin hg
  refine hide fun z173 => ?_
  obtain ⟨a, rfl, ha⟩ := er1 hvs
  refine z173 ?_
  obtain rfl := er_eq_ref ha
  intro s S
  refine hide fun z174 => ?_
  obtain ⟨vs, h1, h2⟩ := S.ints hl
  obtain ⟨xs, e⟩ := h2.allInts.items
  refine z174 ?_
  rw [e] at h1
  have hn : xs.toList.map (·.1) = ns := by rw [← nums_intItems, ← e]; exact h2.numsOf
  have hsz : xs.size = ns.length := by rw [← hn]; simp
  refine max_intList hA h1 (by omega) fun v h' tk hv hk => ?_
  refine hide fun z175 => ?_
  obtain ⟨t, rfl⟩ := intItems_at hv
  obtain ⟨h3, h4⟩ := argBest_gt (numAt xs) (xs.size - 1)
  refine z175 ?_
  refine ⟨m, H, (S.kept hk).1, (S.kept hk).2, h _ ?_ fun a ha => ?_⟩
  · rw [numAt_eq, hn]; exact PySem.getD_mem (by omega)
  · refine hide fun z176 => ?_
    obtain ⟨j, hj, rfl⟩ := mem_getD ha
    refine z176 ?_
    have := h4 j (by omega)
    rwa [numAt_eq xs j, hn] at this
theorem sorted_push {l : Addr} {vs : List Value} {out : Array Value} {ns' : List Int} (S : St C A fx m H s) (a1 : IntsAre out.toList ns') : St C A fx m ((s.heap.objs.size + 1, .list (iv ns')) :: H) { s with heap := sortedAll s.heap vs out } ∧
    Ext A fx H s ((s.heap.objs.size + 1, .list (iv ns')) :: H) { s with heap := sortedAll s.heap vs out } ∧ s.heap.objs.size + 1 ∉ H.keys := by
  obtain ⟨e, he⟩ := sortedAll_at s.heap vs out
  have hn := none_of_le (h := s.heap) (b := s.heap.objs.size + 1) (Nat.le_succ _)
  obtain ⟨S', E'⟩ := S.new (s' := { s with heap := sortedAll s.heap vs out }) (ao := .list (iv ns')) hn (fun b o e => sortedAll_old e) he ⟨rfl, ⟨rfl, rfl⟩, _, _, rfl, er_intsAre a1⟩
  exact ⟨S', E', fun hm => Nat.lt_irrefl _ (Nat.lt_of_succ_lt (S.key_lt hm))⟩
theorem call_sorted {l : Addr} {ns : List Int} (hl : (l, AO.list (iv ns)) ∈ H) (h64 : ns.length < 64) (h : ∀ a ns', a ∉ H.keys → ns'.Perm ns → ns'.Pairwise (· ≤ ·) → Q (.ref a) m ((a, .list (iv ns')) :: H)) : CALL C A fx (.builtin "sorted") [.ref l] m H Q X := fun g vs hg hvs => by
  obtain rfl := er_eq_builtin hg
  refine hide fun z177 => ?_
  obtain ⟨a, rfl, ha⟩ := er1 hvs
  refine z177 ?_
  obtain rfl := er_eq_ref ha
  intro s S
  refine hide fun z178 => ?_
  obtain ⟨vs, h1, h2⟩ := S.ints hl
  refine z178 ?_
  refine sorted_ints h1 h2 (by rw [h2.length]; exact h64) fun out ns' a1 a2 a3 => ?_
  refine hide fun z179 => ?_
  obtain ⟨S', E', hn⟩ := sorted_push (l := l) (vs := vs) S a1
  refine z179 ?_
  exact ⟨m, _, S', E', h _ ns' hn a2 a3⟩
theorem call_tuple {l : Addr} {xs : List Value} (hl : (l, AO.list xs) ∈ H) (hz : xs.length ≤ 1000000) (h : ∀ a, a ∉ H.keys → Q (.ref a) m ((a, .tup xs) :: H)) : CALL C A fx (.type "tuple") [.ref l] m H Q X := fun g vs hg hvs => by
  obtain rfl := er_eq_type hg
  refine hide fun z180 => ?_
  obtain ⟨a, rfl, ha⟩ := er1 hvs
  refine z180 ?_
  obtain rfl := er_eq_ref ha
  intro s S
  refine hide fun z181 => ?_
  obtain ⟨vs, h1, h2⟩ := S.isList hl
  refine z181 ?_
  refine call_tuple_list h1 (fun h' hk => ?_) (by rw [size_of_er h2, sizeLine_eq]; omega)
  refine hide fun z182 => ?_
  obtain ⟨S', E'⟩ := S.kept (tk := s.toks) hk
  obtain ⟨S₂, E₂⟩ := S'.push (o := { cls := .type "tuple", data := .seq vs }) (ao := .tup xs) ⟨rfl, ⟨rfl, rfl⟩, _, _, rfl, h2⟩
  refine z182 ?_
  exact ⟨m, _, S₂, E'.trans E₂, h _ fun hm => Nat.lt_irrefl _ (S'.key_lt hm)⟩
theorem call_isinstance_tup {l : Addr} {xs : List Value} (hl : (l, AO.tup xs) ∈ H) (h : Q (.bool true) m H) : CALL C A fx (.builtin "isinstance") [.ref l, .type "tuple"] m H Q X := fun g vs hg hvs => by
  obtain rfl := er_eq_builtin hg
  refine hide fun z183 => ?_
  obtain ⟨a, b, rfl, ha, hb⟩ := er2 hvs
  refine z183 ?_
  obtain rfl := er_eq_ref ha
  obtain rfl := er_eq_type hb
  intro s S
  refine hide fun z184 => ?_
  obtain ⟨vs, n, h1, h2⟩ := S.isT hl
  refine z184 ?_
  exact IsiPair.tuple_tuple h1 rfl ⟨m, H, S, Ext.refl' S, h⟩

theorem tr_list' {l : Addr} {xs : List Value} {Q : Bool → Lo → AH → Prop} (hl : (l, AO.list xs) ∈ H) (hz : xs.length ≤ 1000000) (h : Q (!xs.isEmpty) m H) : TR C A fx (.ref l) m H Q X := fun a ha => by
  obtain rfl := er_eq_ref ha
  intro s S
  refine hide fun z185 => ?_
  obtain ⟨vs, h1, h2⟩ := S.isList hl
  refine z185 ?_
  refine wpAny_truthy_list h1 (by rw [size_of_er h2]; omega) ⟨m, H, (S.toks _).1, (S.toks _).2, ?_⟩
  have : vs.isEmpty = xs.isEmpty := by rw [← h2]; obtain ⟨l⟩ := vs; cases l <;> rfl
  rw [this]; exact h
theorem meets_bool_list (l : Addr) (items : Array Value) (hz : (items.size : Int) < 2 ^ 63) : Meets (Builtin.«bool.__new__» ⟨[.type "bool", .ref l], []⟩) (fun _ R s => s.heap.IsList l items ∧ R (.ok (.ret (.bool (!items.isEmpty)))) { s with toks := s.toks + 1 + 1 }) :=
  Meets.of_wp fun prog w A R s hs => by
    refine hide fun z186 => ?_
    obtain ⟨hp, g, d, tk, os⟩ := s
    obtain ⟨h1, hs⟩ := hs
    refine z186 ?_
    have f1 := PySem.F.conv_sub_bool
    have key : ∀ (A' : Around) (Q : Bool → Shared → Prop) E, Q (!items.isEmpty) ⟨hp, g, d, tk + 1 + 1, os⟩ → wpAny (model prog w) A' (truthy (.ref l)) Q E ⟨hp, g, d, tk, os⟩ := fun A' Q E q => wpAny_truthy_list h1 hz q
    repeat (any_goals (first | assumption | with_reducible apply key | wp_step))
    all_goals first | exact ⟨_, rfl, hs⟩ | skip
theorem call_bool_l {l : Addr} {xs : List Value} (hl : (l, AO.list xs) ∈ H) (hz : xs.length ≤ 1000000) (h : Q (.bool (!xs.isEmpty)) m H) : CALL C A fx (.type "bool") [.ref l] m H Q X := fun g vs hg hvs => by
  obtain rfl := er_eq_type hg
  refine hide fun z187 => ?_
  obtain ⟨a, rfl, ha⟩ := er1 hvs
  refine z187 ?_
  obtain rfl := er_eq_ref ha
  intro s S
  refine hide fun z188 => ?_
  obtain ⟨vs, h1, h2⟩ := S.isList hl
  refine z188 ?_
  refine call_bool_1 (meets_bool_list l vs (by rw [size_of_er h2]; omega)) ⟨h1, PySem.typeIs_bool _ _, m, H, (S.toks _).1, (S.toks _).2, ?_⟩
  have : vs.isEmpty = xs.isEmpty := by rw [← h2]; obtain ⟨l⟩ := vs; cases l <;> rfl
  show Q (.bool _) m H
  rw [this]; exact h

theorem co_in_list {l : Addr} {ns : List Int} {k : Int} (hl : (l, AO.list (iv ns)) ∈ H) (h : Q (.bool (decide (k ∈ ns))) m H) : CO C A fx .In (vI k) (.ref l) m H Q X := fun a b ha hb => by
  obtain ⟨t, rfl⟩ := er_eq_int ha
  obtain rfl := er_eq_ref hb
  intro s S
  refine hide fun z189 => ?_
  obtain ⟨vs, h1, h2⟩ := S.ints hl
  refine z189 ?_
  refine in_list_ints h1 h2 ⟨m, H, S, Ext.refl' S, ?_⟩
  show Q (.bool _) m H
  rw [show (ns.any (· == k)) = decide (k ∈ ns) from by rw [Bool.eq_iff_iff]; simp]
  exact h
theorem co_notin_list {l : Addr} {ns : List Int} {k : Int} (hl : (l, AO.list (iv ns)) ∈ H) (h : Q (.bool (!decide (k ∈ ns))) m H) : CO C A fx .NotIn (vI k) (.ref l) m H Q X := fun a b ha hb => by
  obtain ⟨t, rfl⟩ := er_eq_int ha
  obtain rfl := er_eq_ref hb
  intro s S
  refine hide fun z190 => ?_
  obtain ⟨vs, h1, h2⟩ := S.ints hl
  refine z190 ?_
  refine notin_list_ints h1 h2 ⟨m, H, S, Ext.refl' S, ?_⟩
  show Q (.bool _) m H
  rw [show (ns.any (· == k)) = decide (k ∈ ns) from by rw [Bool.eq_iff_iff]; simp]
  exact h
theorem dval_isSome {kvs : List (Int × Value)} {k : Int} : (dval kvs k).isSome = decide (k ∈ kvs.map (·.1)) := by
  unfold dval
  induction kvs with
  | nil => rfl
  | cons kv r ih =>
    rw [List.find?_cons]
    by_cases h : kv.1 = k
    · simp [h]
    · rw [decide_eq_false h]
      simp only [Bool.false_eq_true, if_false, ih, List.map_cons, List.mem_cons]
      rw [Bool.eq_iff_iff]
      simp [Ne.symm h, eq_comm]
theorem co_in_dict {d : Addr} {kvs : List (Int × Value)} {ep : Nat} {k : Int} (hd : (d, AO.dict kvs ep) ∈ H) (h : Q (.bool (decide (k ∈ kvs.map (·.1)))) m H) : CO C A fx .In (vI k) (.ref d) m H Q X := fun a b ha hb => by
  obtain ⟨t, rfl⟩ := er_eq_int ha
  obtain rfl := er_eq_ref hb
  intro s S
  refine hide fun z191 => ?_
  obtain ⟨raw, h1, h2⟩ := S.dictAt hd
  refine z191 ?_
  refine wpAny_in_of (knd := intKind C.prog C.w) intKey (S.notMods (mem_keys hd)) h1.dictOf.mapOf ⟨m, H, (S.toks _).1, (S.toks _).2, ?_⟩
  show Q (.bool _) m H
  have : (valueAt raw k).isSome = decide (k ∈ kvs.map (·.1)) := by rw [← dval_isSome, ← valueAt_er h2 k, Option.isSome_map]
  rw [this]; exact h
theorem co_eq_ints {l b : Addr} {ns ms : List Int} (hu : A.units + 64 < cLine) (hl : (l, AO.list (iv ns)) ∈ H) (hb : (b, AO.list (iv ms)) ∈ H) (h : Q (.bool (decide (ns = ms))) m H) : CO C A fx .Eq (.ref l) (.ref b) m H Q X := fun a a' ha ha' => by
  obtain rfl := er_eq_ref ha
  obtain rfl := er_eq_ref ha'
  intro s S
  refine hide fun z192 => ?_
  obtain ⟨vs, h1, h2⟩ := S.ints hl
  obtain ⟨us, h3, h4⟩ := S.ints hb
  refine z192 ?_
  exact eq_intsK h1 h2 h3 h4 hu ⟨m, H, S, Ext.refl' S, h⟩
theorem co_ne_ints {l b : Addr} {ns ms : List Int} (hu : A.units + 64 < cLine) (hl : (l, AO.list (iv ns)) ∈ H) (hb : (b, AO.list (iv ms)) ∈ H) (h : Q (.bool (!decide (ns = ms))) m H) : CO C A fx .NotEq (.ref l) (.ref b) m H Q X := fun a a' ha ha' => by
  obtain rfl := er_eq_ref ha
  obtain rfl := er_eq_ref ha'
  intro s S
  refine hide fun z193 => ?_
  obtain ⟨vs, h1, h2⟩ := S.ints hl
  obtain ⟨us, h3, h4⟩ := S.ints hb
  refine z193 ?_
  exact ne_intsK h1 h2 h3 h4 hu ⟨m, H, S, Ext.refl' S, h⟩
end
end Mine

namespace Mine
open PySem PySem.W PyProof.Rows
open Sem (wp)

section
variable {α : Type} {C : Cfg} {A A' : Around} {fx fx' : Fx} {m m' m₁ : Lo} {H H' H₁ : AH} {X : Value → Lo → AH → Prop} {K : Frag} {s s' s₁ : Shared} {Q : Value → Lo → AH → Prop}
variable {x dx cl f p : Addr} {fs : List (PySem.Str × Value)} {sl : List (Option Value)} {n : PySem.Str} {v : Value}

theorem St.inst (S : St C A fx m H s) (hx : (x, AO.inst cl (some dx) sl) ∈ H) (hd : (dx, AO.ns fs) ∈ H) : ∃ ox od, InstAt s.heap x ox cl (some od) ∧ ox.dict = some dx ∧ ox.slots.toList.map (Option.map er) = sl ∧ s.heap.get? dx = some od ∧ OR C od (.ns fs) := by
  refine hide fun z194 => ?_
  obtain ⟨ox, h1, c1, c2, c3, c4⟩ := S.get hx
  obtain ⟨od, h2, r⟩ := S.get hd
  refine z194 ?_
  refine ⟨ox, od, ⟨h1, c1, ?_, ?_⟩, c2, c4, h2, r⟩
  · unfold notCls; rw [c3]
  · rw [c2]; exact h2
theorem lookIn_of {od : Obj} (r : OR C od (.ns fs)) (y : PySem.Str) : ∃ q, PySem.W.lookIn y od = some q ∧ q.map er = fs.lookup y := by
  refine hide fun z195 => ?_
  obtain ⟨es, k, h1, h2, _, h3⟩ := r
  refine z195 ?_
  have := h3 y
  unfold nsFind findBy at this
  unfold PySem.W.lookIn
  rw [h1]
  dsimp only
  rw [← Array.find?_toList] at this
  cases q : es.toList.find? (fun e => e.key.isStr y) with
  | some e =>
    rw [q] at this
    exact ⟨some e.val, rfl, this⟩
  | none =>
    rw [q] at this
    have hr : es.toList.any (fun e => e.refKey) = false := by
      rw [List.any_eq_false]
      intro e he
      refine hide fun z196 => ?_
      obtain ⟨nm, t, hk⟩ := h2 e (by simpa using he)
      refine z196 ?_
      unfold DictEntry.refKey
      rw [hk]; simp
    dsimp only
    rw [hr]
    exact ⟨none, rfl, this⟩

noncomputable def plainIn (K : Frag) (cl : Addr) (n : PySem.Str) : Bool := (clsIn K cl).any (·.hasDict) && findIn K (.ref cl) n == some none && findIn K (.ref cl) "__getattribute__" == some (some (.builtin "object.__getattribute__"))
theorem ga_dict {T : Top C K} (hK : plainIn K cl n = true) (hx : (x, AO.inst cl (some dx) sl) ∈ H) (hd : (dx, AO.ns fs) ∈ H) (hv : fs.lookup n = some v) (hh : handedIn v = true) (h : Q v m H) : GA C A fx (.ref x) n m H Q X := fun a ha => by
  obtain rfl := er_eq_ref ha
  intro s S
  refine hide fun z197 => ?_
  obtain ⟨ox, od, I, h2, h3, h4, h5⟩ := S.inst hx hd
  refine z197 ?_
  unfold plainIn at hK
  simp only [Bool.and_eq_true, beq_iff_eq] at hK
  refine hide fun z198 => ?_
  obtain ⟨⟨k1, k2⟩, k3⟩ := hK
  obtain ⟨cd, hcd, hcd'⟩ := any_some k1
  obtain ⟨q, e1, e2⟩ := lookIn_of h5 n
  refine z198 ?_
  rw [hv] at e2
  refine hide fun z199 => ?_
  obtain ⟨r, rfl, e3⟩ := Option.map_eq_some_iff.mp e2
  refine z199 ?_
  have hf : findObj K cl (some od) n = some (.value r) := by
    unfold findObj
    rw [hcd, Option.bind_some, k2, Option.bind_some]
    unfold PySem.W.ownOf
    simp only [hcd', if_true, e1, Option.bind_some]
  refine get_value (T.X.keeps S.base) I k3 hf ?_ ⟨m, H, (S.toks _).1, (S.toks _).2, ?_⟩
  · subst e3
    cases r <;> first | exact hh | rfl
  · show Q (er r) m H
    rw [e3]; exact h
noncomputable def methIn (K : Frag) (cl : Addr) (n : PySem.Str) (f : Addr) : Bool := findIn K (.ref cl) "__getattribute__" == some (some (.builtin "object.__getattribute__")) && findIn K (.ref cl) "__getattr__" == some none &&
  findIn K (.ref cl) n == some (some (.ref f)) && typeIn K (.ref f) == some (.type "function")
theorem gm_own {Q : Value → List Value → Lo → AH → Prop} {T : Top C K} (hK : methIn K cl n f = true) (hx : (x, AO.inst cl (some dx) sl) ∈ H) (hd : (dx, AO.ns fs) ∈ H) (hv : fs.lookup n = none) (h : Q (.ref f) [.ref x] m H) : GM C A fx (.ref x) n m H Q X := fun a pl ha => by
  obtain rfl := er_eq_ref ha
  intro s S
  refine hide fun z200 => ?_
  obtain ⟨ox, od, I, h2, h3, h4, h5⟩ := S.inst hx hd
  refine z200 ?_
  unfold methIn at hK
  simp only [Bool.and_eq_true, beq_iff_eq] at hK
  refine hide fun z201 => ?_
  obtain ⟨⟨⟨k1, k2⟩, k3⟩, k4⟩ := hK
  obtain ⟨q, e1, e2⟩ := lookIn_of h5 n
  refine z201 ?_
  rw [hv] at e2
  have e3 := Option.map_eq_none_iff.mp e2
  subst e3
  exact method_fn (T.X.keeps S.base) I k1 k2 k3 k4 (show (PySem.W.lookIn n od).map (·.isSome) = some false by rw [e1]; rfl) ⟨m, H, S, Ext.refl' S, h⟩
noncomputable def bindIn (K : Frag) (cl : Addr) (n : PySem.Str) (f : Addr) : Bool := (clsIn K cl).isSome && specialIn K (.ref f) "__get__" == some (some (.builtin "function.__get__")) && takesIn K (.ref f) == some false && !copiedNames.contains n
theorem ga_method {T : Top C K} (hK : methIn K cl n f = true) (hB : bindIn K cl n f = true) (hx : (x, AO.inst cl (some dx) sl) ∈ H) (hd : (dx, AO.ns fs) ∈ H) (hv : fs.lookup n = none) (h : ∀ a, a ∉ H.keys → Q (.ref a) m ((a, .flds (.type "method") [.ref f, .ref x]) :: H)) : GA C A fx (.ref x) n m H Q X := fun a ha => by
  obtain rfl := er_eq_ref ha
  intro s S
  refine hide fun z202 => ?_
  obtain ⟨ox, od, I, h2, h3, h4, h5⟩ := S.inst hx hd
  refine z202 ?_
  unfold methIn at hK
  simp only [Bool.and_eq_true, beq_iff_eq] at hK
  refine hide fun z203 => ?_
  obtain ⟨⟨⟨k1, k2⟩, k3⟩, k4⟩ := hK
  refine z203 ?_
  unfold bindIn at hB
  simp only [Bool.and_eq_true, beq_iff_eq, Bool.not_eq_true'] at hB
  refine hide fun z204 => ?_
  obtain ⟨⟨⟨b1, b2⟩, b3⟩, b4⟩ := hB
  obtain ⟨cd, hcd⟩ := Option.isSome_iff_exists.mp b1
  obtain ⟨q, e1, e2⟩ := lookIn_of h5 n
  refine z204 ?_
  rw [hv] at e2
  have e3 := Option.map_eq_none_iff.mp e2
  subst e3
  have hf : findObj K cl (some od) n = some (.bind (.builtin "function.__get__") (.ref f)) := by
    unfold findObj
    rw [hcd, Option.bind_some, k3, Option.bind_some]
    dsimp only
    rw [b2, Option.bind_some]
    dsimp only
    rw [b3, Option.bind_some]
    dsimp only
    have ho : PySem.W.ownOf cd (some od) n = some none := by
      unfold PySem.W.ownOf
      cases cd.hasDict
      · rfl
      · exact e1
    rw [ho, b4]
    rfl
  refine get_bind (T.X.keeps S.base) I k1 hf k2 (wpAny_call (fn_get (s := { s with toks := s.toks + 1 }) (T.X.keeps S.base) k4 ?_))
  obtain ⟨S', E'⟩ := S.push (o := methodObj (.ref f) (.ref x)) (ao := .flds (.type "method") [.ref f, .ref x]) ⟨rfl, ⟨rfl, rfl⟩, _, rfl, rfl⟩
  have S₂ := S'.toks (s.toks + 1)
  exact handed_on rfl ⟨m, _, S₂.1, E'.trans S₂.2, h _ fun hm => Nat.lt_irrefl _ (S.key_lt hm)⟩
theorem call_method {xs : List Value} {a : Addr} (ha : (a, AO.flds (.type "method") [.ref f, .ref x]) ∈ H) (h : CALLC C A fx (.ref f) (.ref x :: xs) m H Q X) : CALLC C A fx (.ref a) xs m H Q X := fun g vs hg hvs s S => by
  obtain rfl := er_eq_ref hg
  refine hide fun z205 => ?_
  obtain ⟨o, ho, c1, ⟨c2, c2'⟩, ws, c3, c4⟩ := S.get ha
  refine z205 ?_
  have hm : s.heap.get? a = some (methodObj (.ref f) (.ref x)) := by
    refine hide fun z206 => ?_
    obtain ⟨l, rfl⟩ : ∃ l, ws = List.toArray l := ⟨ws.toList, rfl⟩
    obtain ⟨a1, a2, e, e1, e2⟩ := er2 c4
    refine z206 ?_
    obtain rfl := er_eq_ref e1
    obtain rfl := er_eq_ref e2
    refine hide fun z207 => ?_
    obtain ⟨oc, od, odd, osl⟩ := o
    refine z207 ?_
    dsimp only at c1 c2 c2' c3
    subst c1 c2 c2' c3
    rw [ho]
    simp only at e
    rw [e]
  exact method_call hm (h (.ref f) (.ref x :: vs) rfl (by rw [List.map_cons, hvs]; rfl) s S)

noncomputable def slotGet (K : Frag) (cl : Addr) (n : PySem.Str) (p i : Nat) : Bool := (clsIn K cl).isSome && findIn K (.ref cl) n == some (some (.ref p)) && specialIn K (.ref p) "__get__" == some (some (.builtin "member_descriptor.__get__")) &&
  takesIn K (.ref p) == some true && slotIn K p cl == some i && findIn K (.ref cl) "__getattribute__" == some (some (.builtin "object.__getattribute__")) && findIn K (.ref cl) "__getattr__" == some none
theorem ga_slot {T : Top C K} {i : Nat} (hK : slotGet K cl n p i = true) (hx : (x, AO.inst cl (some dx) sl) ∈ H) (hd : (dx, AO.ns fs) ∈ H) (hv : sl[i]? = some (some v)) (hh : handedIn v = true) (h : Q v m H) : GA C A fx (.ref x) n m H Q X := fun a ha => by
  obtain rfl := er_eq_ref ha
  intro s S
  refine hide fun z208 => ?_
  obtain ⟨ox, od, I, h2, h3, h4, h5⟩ := S.inst hx hd
  refine z208 ?_
  unfold slotGet at hK
  simp only [Bool.and_eq_true, beq_iff_eq] at hK
  refine hide fun z209 => ?_
  obtain ⟨⟨⟨⟨⟨⟨k0, k1⟩, k2⟩, k3⟩, k4⟩, k5⟩, k6⟩ := hK
  obtain ⟨cd, hcd⟩ := Option.isSome_iff_exists.mp k0
  refine z209 ?_
  have hf : findObj K cl (some od) n = some (.bind (.builtin "member_descriptor.__get__") (.ref p)) := by
    unfold findObj
    rw [hcd, Option.bind_some, k1, Option.bind_some]
    dsimp only
    rw [k2, Option.bind_some]
    dsimp only
    rw [k3, Option.bind_some]
  subst h3
  rw [List.getElem?_map] at hv
  refine hide fun z210 => ?_
  obtain ⟨r, e1, e2⟩ := Option.map_eq_some_iff.mp hv
  obtain ⟨r', rfl, e3⟩ := Option.map_eq_some_iff.mp e2
  refine z210 ?_
  refine get_bind (T.X.keeps S.base) I k5 hf k6 (wpAny_call (slot_get (s := { s with toks := s.toks + 1 }) (v := r') (T.X.keeps S.base) I k4 (by rw [← Array.getElem?_toList, e1]; rfl) ?_))
  refine handed_on ?_ ⟨m, _, (S.toks _).1, (S.toks _).2, ?_⟩
  · subst e3
    cases r' <;> first | exact hh | rfl
  · show Q (er r') m H
    rw [e3]; exact h
end
end Mine

namespace Mine
open PySem PySem.W PyProof.Rows Builtin Builtin.ObjectAttr
open Sem (wp)

section
variable {α : Type} {C : Cfg} {A A' : Around} {fx fx' : Fx} {m m' m₁ : Lo} {H H' H₁ : AH} {X : Value → Lo → AH → Prop} {K : Frag} {s s' s₁ : Shared}
variable {x dx cl f p : Addr} {fs : List (PySem.Str × Value)} {sl : List (Option Value)} {n : PySem.Str} {v : Value}

noncomputable def nsPut (fs : List (PySem.Str × Value)) (n : PySem.Str) (v : Value) : List (PySem.Str × Value) := (n, v) :: fs.filter fun q => !(q.1 == n)
theorem nsPut_lookup (fs : List (PySem.Str × Value)) (n : PySem.Str) (v : Value) (y : PySem.Str) : (nsPut fs n v).lookup y = if y = n then some v else fs.lookup y := by
  unfold nsPut
  rw [List.lookup_cons]
  by_cases h : y = n
  · subst h; simp
  · rw [if_neg h, beq_eq_false_iff_ne.mpr h]
    dsimp only
    induction fs with
    | nil => rfl
    | cons q r ih =>
      obtain ⟨k, w⟩ := q
      rw [List.filter_cons]
      by_cases hk : k = n
      · subst hk
        simp only [beq_self_eq_true, Bool.not_true, Bool.false_eq_true, if_false]
        rw [ih, List.lookup_cons, beq_eq_false_iff_ne.mpr h]
      · have : (!(k == n)) = true := by simp [hk]
        rw [if_pos this, List.lookup_cons, List.lookup_cons, ih]
theorem or_ns {h : Heap} {a : Addr} {mm : PySem.Str → Option Value} (x : h.Ns1 a mm) (e : ∀ y, (mm y).map er = fs.lookup y) : ∃ o, h.get? a = some o ∧ OR C o (.ns fs) := by
  refine hide fun z211 => ?_
  obtain ⟨o, es, ep, h1, h2, h3, h4, h5⟩ := x
  refine z211 ?_
  exact ⟨o, h1, es, ep, h2, h3, h4, fun y => by rw [h5]; exact e y⟩
theorem ns_or {h : Heap} {a : Addr} {o : Obj} (ho : h.get? a = some o) (r : OR C o (.ns fs)) : ∃ mm, h.Ns1 a mm ∧ ∀ y, (mm y).map er = fs.lookup y := by
  refine hide fun z212 => ?_
  obtain ⟨es, k, h1, h2, h3, h4⟩ := r
  refine z212 ?_
  exact ⟨fun y => nsFind es y, ⟨o, es, k, ho, h1, h2, h3, fun _ => rfl⟩, h4⟩
theorem within_or {mm : PySem.Str → Option Value} (e : ∀ y, (mm y).map er = fs.lookup y) : Within mm (fs.map (·.1)) := fun y hy => by
  have h1 : fs.lookup y ≠ none := fun q => hy (Option.map_eq_none_iff.mp ((e y).trans q))
  obtain ⟨v, hv⟩ := Option.ne_none_iff_exists'.mp h1
  exact List.mem_map_of_mem (f := (·.1)) (lookup_mem hv)

noncomputable def storeIn (K : Frag) (cl : Addr) (n : PySem.Str) : Bool := (clsIn K cl).any (·.hasDict) && plainOver K cl && takerIn K cl n == some none && findIn K (.ref cl) "__setattr__" == some (some (.builtin "object.__setattr__"))
theorem sa_dict {Q : Lo → AH → Prop} {T : Top C K} (hK : storeIn K cl n = true) (hx : (x, AO.inst cl (some dx) sl) ∈ H) (hd : (dx, AO.ns fs) ∈ H) (hz : fs.length ≤ 1000) (h : Q m (H.put dx (.ns (nsPut fs n v)))) : SA C A fx (.ref x) n v m H Q X := fun a b ha hb => by
  obtain rfl := er_eq_ref ha
  intro s S
  refine hide fun z213 => ?_
  obtain ⟨ox, od, I, h2, h3, h4, h5⟩ := S.inst hx hd
  refine z213 ?_
  have KX := T.X.keeps S.base
  unfold storeIn at hK
  simp only [Bool.and_eq_true, beq_iff_eq] at hK
  refine hide fun z214 => ?_
  obtain ⟨⟨⟨k1, k2⟩, k3⟩, k4⟩ := hK
  obtain ⟨cd, hcd, hcd'⟩ := any_some k1
  refine z214 ?_
  refine set_plain KX I k4 (osa_open (s := { s with toks := s.toks + 1 }) KX I k2 k3 fun b' => ?_)
  have hx' := I.at_
  have hcl := I.cls
  refine hide fun z215 => ?_
  obtain ⟨oc, odi, oda, osl⟩ := ox
  refine z215 ?_
  dsimp only at hcl h2
  subst hcl h2
  dsimp only
  unfold storeInOwnDict
  refine wpAny_bind (wpAny_pure (wpAny_bind (wpAny_bind (wpAny_loadPart hx' (wpAny_bind (looks_clsIn KX hcd _ _ _ _ (fun _ _ e => e) ?_))))))
  rw [hcd']
  refine wpAny_pure (a := some dx) (wpAny_bind (wpAny_pure ?_))
  refine hide fun z216 => ?_
  obtain ⟨mm, e1, e2⟩ := ns_or h4 h5
  refine z216 ?_
  refine wpAny_bind (wpAny_nsSet1 (s := { s with toks := s.toks + 1 }) e1 fun h' hn hs => ?_)
  have e3 : ∀ y, ((fun y => if y = n then some b else mm y) y).map er = (nsPut fs n v).lookup y := fun y => by
    rw [nsPut_lookup]
    by_cases hy : y = n
    · simp [hy, hb]
    · simp only [hy, if_false]; exact e2 y
  refine hide fun z217 => ?_
  obtain ⟨o', es, ep, ho', hd', hcount⟩ := hn.count (within_or e3)
  refine z217 ?_
  refine wpAny_bind (wpAny_lookBehind ho' (by rw [hd']; exact pastItsLine_dict (Nat.le_trans hcount (by
    unfold nsPut
    rw [List.length_map, List.length_cons, sizeLine_eq]
    have := List.length_filter_le (fun q : PySem.Str × Value => !(q.1 == n)) fs
    omega))) ?_)
  refine hide fun z218 => ?_
  obtain ⟨o'', ho'', hr''⟩ := or_ns (C := C) hn e3
  obtain ⟨S', E'⟩ := S.write (s' := { s with heap := h', toks := s.toks + 1 + 1 }) hd hs ho'' hr''
  refine z218 ?_
  exact wpAny_pure ⟨m, _, S', E', h⟩

noncomputable def slotPut (K : Frag) (cl : Addr) (n : PySem.Str) (p i : Nat) : Bool := plainOver K cl && takerIn K cl n == some (some (.ref p)) && typeIn K (.ref p) == some (.type "member_descriptor") && slotIn K p cl == some i && findIn K (.ref cl) "__setattr__" == some (some (.builtin "object.__setattr__"))
noncomputable def slSet (sl : List (Option Value)) (i : Nat) (v : Value) : List (Option Value) := (sl ++ List.replicate (i + 1 - sl.length) none).set i (some v)
noncomputable def others (h : Heap) (x L : Addr) : List (Addr × Obj) := (List.range h.objs.size).filterMap fun b => if b = x ∨ b = L then none else (h.get? b).map fun o => (b, o)
theorem mem_others {h : Heap} {x L b : Addr} {o : Obj} : (b, o) ∈ others h x L ↔ b ≠ x ∧ b ≠ L ∧ h.get? b = some o := by
  unfold others
  rw [List.mem_filterMap]
  constructor
  · intro hY0
    refine hide fun z219 => ?_
    obtain ⟨c, hc, e⟩ := hY0
    refine z219 ?_
    split at e
    · cases e
    · rename_i hn
      refine hide fun z220 => ?_
      obtain ⟨o', h1, h2⟩ := Option.map_eq_some_iff.mp e
      refine z220 ?_
      cases h2
      exact ⟨fun q => hn (.inl q), fun q => hn (.inr q), h1⟩
  · intro hY0
    refine hide fun z221 => ?_
    obtain ⟨h1, h2, h3⟩ := hY0
    refine z221 ?_
    refine ⟨b, List.mem_range.mpr (Heap.lt_size h3), ?_⟩
    rw [if_neg (by rintro (q | q) <;> contradiction), h3]; rfl
noncomputable def noHeap : Heap := { objs := #[] }
theorem noHeap_get (b : Addr) : noHeap.get? b = none := none_of_le (Nat.zero_le _)
theorem St.writeL {a : Addr} {o' : Obj} {ao ao' : AO} {mr : PySem.Str → Option Value} (S : St C A fx m H s) (ha : (a, ao) ∈ H) (hL : ∀ mr, s.heap.Ns fx.env.locals mr → s'.heap.Ns fx.env.locals mr) (hk : ∀ b o, b ≠ a → b ≠ fx.env.locals → s.heap.get? b = some o → s'.heap.get? b = some o)
    (ho : s'.heap.get? a = some o') (hr : OR C o' ao') (hg : s'.gens = s.gens := by rfl) (hos : s'.os = s.os := by rfl) (hao : ao'.isGen = false := by rfl) : St C A fx m (H.put a ao') s' ∧ Ext A fx H s (H.put a ao') s' := by
  have hb : C.h₀.get? a = none := S.above a (.inl (mem_keys ha))
  have hLb : C.h₀.get? fx.env.locals = none := S.above _ (.inr S.locW)
  have haW : ∀ b ∈ fx.W, b ≠ a := fun b h q => S.apart b h (q ▸ mem_keys ha)
  have haC : ∀ y c, fx.env.cells.lookup y = some c → c ≠ a ∧ c ≠ fx.env.locals := fun y c e => let ⟨_, h1, _, h2⟩ := S.cellA y c e; ⟨fun q => h1 (q ▸ mem_keys ha), h2⟩
  have hkeys : (H.put a ao').keys = H.keys := AH.keys_put ..
  have cell : ∀ y c r, fx.env.cells.lookup y = some c → s.heap.IsCell c r → s'.heap.IsCell c r := fun y c r e hr => let ⟨o, h1, h2⟩ := hr; ⟨o, hk c o (haC y c e).1 (haC y c e).2 h1, h2⟩
  have vars : ∀ y v, VarAt fx.env s.heap y v → VarAt fx.env s'.heap y v := fun y v hv => by
    rcases hv with ⟨k, mr, r, hn, e1, e2⟩ | ⟨k, c, r, e1, e2, e3⟩
    · exact .inl ⟨k, mr, r, hL mr hn, e1, e2⟩
    · exact .inr ⟨k, c, r, e1, cell y c _ e1 e2, e3⟩
  refine ⟨⟨fun b o e => hk b o (fun q => by rw [q, hb] at e; cases e) (fun q => by rw [q, hLb] at e; cases e) (S.base b o e), fun q hq => ?_, S.low, fun b h => by rw [hkeys] at h; exact S.above b h, by rw [hkeys]; exact S.nodup,
    fun b h => by rw [hkeys]; exact S.apart b h, S.kind, S.glob, S.locW, fun b h => ?_, let ⟨mr, hm⟩ := S.loc; ⟨mr, hL mr hm⟩, S.cellW, fun y c e => ?_, S.cellI, fun y v hv => vars y v (S.vars y v hv), ?_, fun b h => by rw [hkeys]; exact S.frA b h, hg ▸ S.gens, hos.trans S.os, hg ▸ S.gst.of fun p hp => (mem_put hp).elim (fun e => .inr (e ▸ hao)) fun h => .inl h.2⟩,
    ⟨fun b h => .inl (by rw [hkeys] at h; exact h), fun b o e h1 h2 => ⟨o.slots, hk b o (fun q => h1 (q ▸ mem_keys ha)) (fun q => h2 (q ▸ S.locW)) e, fun _ => rfl⟩, fun b h => by rw [hkeys]; exact S.apart b h⟩⟩
  · rcases mem_put hq with rfl | ⟨h1, h2⟩
    · exact ⟨o', ho, hr⟩
    · refine hide fun z222 => ?_
      obtain ⟨o, e1, e2⟩ := S.cells q h2
      refine z222 ?_
      exact ⟨o, hk _ o h1 (fun z => S.apart _ S.locW (z ▸ mem_keys h2)) e1, e2⟩
  · by_cases q : b = fx.env.locals
    · subst q
      refine hide fun z223 => ?_
      obtain ⟨mr, hm⟩ := S.loc
      obtain ⟨o, _, _, e, _⟩ := hL mr hm
      refine z223 ?_
      exact ⟨o, e⟩
    · obtain ⟨o, e⟩ := S.wlt b h
      exact ⟨o, hk b o (haW b h) q e⟩
  · refine hide fun z224 => ?_
    obtain ⟨⟨r, hr⟩, h1, h2, h3⟩ := S.cellA y c e
    refine z224 ?_
    exact ⟨⟨r, cell y c r e hr⟩, by rw [hkeys]; exact h1, h2, h3⟩
  · refine hide fun z225 => ?_
    obtain ⟨l, hl, hF⟩ := S.frs
    refine z225 ?_
    have hfa : ∀ b ∈ l.filterMap (·.frame), b ≠ a := fun b hb q => S.frA b (by unfold frameAddrs; rw [hl]; exact hb) (q ▸ mem_keys ha)
    refine ⟨l, hl, ?_⟩
    clear hl
    induction l with
    | nil => trivial
    | cons env rest ih =>
      refine hide fun z226 => ?_
      obtain ⟨h1, ⟨L, o, hL', hb', ho', hd⟩, hr⟩ := hF
      refine z226 ?_
      rw [List.filterMap_cons, hL'] at hfa
      refine ⟨h1, ?_, ih hr fun b h => hfa b (List.mem_cons_of_mem _ h)⟩
      by_cases q : L = fx.env.locals
      · subst q
        refine hide fun z227 => ?_
        obtain ⟨mr, hm⟩ := S.loc
        obtain ⟨o₂, es, ep, e, d, _⟩ := hL mr hm
        refine z227 ?_
        exact ⟨_, o₂, hL', hb', e, fun vs z => by rw [d] at z; cases z⟩
      · exact ⟨L, o, hL', hb', hk L o (hfa L List.mem_cons_self) q ho', hd⟩

theorem sa_slot {Q : Lo → AH → Prop} {T : Top C K} {i : Nat} (hK : slotPut K cl n p i = true) (hi : i < 1000) (hx : (x, AO.inst cl (some dx) sl) ∈ H) (hd : (dx, AO.ns fs) ∈ H) (h : Q m (H.put x (.inst cl (some dx) (slSet sl i v)))) : SA C A fx (.ref x) n v m H Q X := fun a b ha hb => by
  obtain rfl := er_eq_ref ha
  intro s S
  refine hide fun z228 => ?_
  obtain ⟨ox, od, I, h2, h3, h4, h5⟩ := S.inst hx hd
  refine z228 ?_
  have KX := T.X.keeps S.base
  unfold slotPut at hK
  simp only [Bool.and_eq_true, beq_iff_eq] at hK
  refine hide fun z229 => ?_
  obtain ⟨⟨⟨⟨k1, k2⟩, k3⟩, k4⟩, k5⟩ := hK
  obtain ⟨mr, hn⟩ := S.loc
  obtain ⟨oL, esL, epL, hoL, hrL⟩ := id hn
  refine z229 ?_
  have hxL : x ≠ fx.env.locals := fun q => S.apart _ S.locW (q ▸ mem_keys hx)
  refine hide fun z230 => ?_
  obtain ⟨ox', h1', c1, c2, c3, c4⟩ := S.get hx
  refine z230 ?_
  have hox : ox' = ox := by have := I.at_; rw [h1'] at this; exact Option.some.inj this
  subst hox
  have hfree : ∀ sl', ({ ox' with slots := sl' } : Obj).isFreed = false := fun sl' => by
    refine hide fun z231 => ?_
    obtain ⟨oc, odi, oda, osl⟩ := ox'
    refine z231 ?_
    dsimp only at c3
    subst c3
    rfl
  refine set_plain KX I k5 (osa_descr (s := { s with toks := s.toks + 1 }) KF.slot_mset KX I k1 k2 k3 ?_)
  refine slot_set (h₀ := noHeap) (L := fx.env.locals) (m := mr) (pre := []) (post := others s.heap x fx.env.locals) (s := { s with toks := s.toks + 1 }) ⟨hn, (fun b o e => by rw [noHeap_get] at e; cases e), Nat.zero_le _⟩ (fun q hq => ?_) KX I k4 hi (fun q hq => by cases hq) (fun q hq => ?_) rfl (hfree _) fun h' F' N' => ?_
  · rcases List.mem_cons.mp hq with rfl | hq
    · exact ⟨h1', hxL, noHeap_get _⟩
    · refine hide fun z232 => ?_
      obtain ⟨b, o⟩ := q
      obtain ⟨e1, e2, e3⟩ := mem_others.mp hq
      refine z232 ?_
      exact ⟨e3, e2, noHeap_get _⟩
  · obtain ⟨b, o⟩ := q
    exact (mem_others.mp hq).1
  · have hLoc : ∀ mr', s.heap.Ns fx.env.locals mr' → h'.Ns fx.env.locals mr' := fun mr' hn' => by
      have : mr' = mr := by
        funext y
        refine hide fun z233 => ?_
        obtain ⟨o₁, es₁, ep₁, a1, a2, a3, a4⟩ := hn
        obtain ⟨o₂, es₂, ep₂, b1, b2, b3, b4⟩ := hn'
        refine z233 ?_
        rw [a1] at b1; cases b1
        rw [a2] at b2; cases b2
        rw [← a4, ← b4]
      rw [this]; exact F'.ns
    have hkeep : ∀ b o, b ≠ x → b ≠ fx.env.locals → s.heap.get? b = some o → h'.get? b = some o := fun b o hb1 hb2 e => (N' (b, o) (List.mem_cons_of_mem _ (mem_others.mpr ⟨hb1, hb2, e⟩))).1
    have hat := (N' _ List.mem_cons_self).1
    have hor : OR C { ox' with slots := (ox'.slots ++ Array.replicate (i + 1 - ox'.slots.size) none).setIfInBounds i (some b) } (.inst cl (some dx) (slSet sl i v)) := by
      refine ⟨c1, c2, c3, ?_⟩
      unfold slSet
      rw [← c4]
      simp only [Array.toList_setIfInBounds, Array.toList_append, Array.toList_replicate, List.map_set, List.map_append, List.map_replicate, Option.map_some, Option.map_none, List.length_map, Array.length_toList, hb]
    obtain ⟨S', E'⟩ := S.writeL (mr := mr) (s' := { s with heap := h', toks := s.toks + 1 }) hx hLoc hkeep hat hor
    exact ⟨m, _, S', E', h⟩
end
end Mine

namespace Mine
open PySem PySem.W PyProof.Rows
open Sem (wp)

structure Room (A : Around) (n : Nat) : Prop where
  depth : A.depth + 4 * n ≤ 900
  units : A.units + 20 * n ≤ 9000
  hand : A.handled = none
theorem le_N {n k N : Nat} (h : n ≤ k) (e : Nat.ble k N = true) : n ≤ N := Nat.le_trans h (Nat.le_of_ble_eq_true e)
theorem lt_N {n k N : Nat} (h : n ≤ k) (e : Nat.ble (k + 1) N = true) : n < N := Nat.le_trans (Nat.succ_le_succ h) (Nat.le_of_ble_eq_true e)
theorem ton_n {y : Int} {n : Nat} (h : 0 ≤ y ∧ y < (n : Int)) : y.toNat < n := by omega
theorem ton_N {y : Int} {n k N : Nat} (h : 0 ≤ y ∧ y < (n : Int)) (hn : n ≤ k) (e : Nat.ble k N = true) : y.toNat ≤ N := Nat.le_trans (Nat.le_of_lt (ton_n h)) (le_N hn e)
theorem int_N {y N : Int} {n k : Nat} (h : 0 ≤ y ∧ y < (n : Int)) (hn : n ≤ k) (e : decide ((k : Int) ≤ N) = true) : y ≤ N := Int.le_trans (Int.le_of_lt h.2) (Int.le_trans (Int.ofNat_le.mpr hn) (of_decide_eq_true e))
theorem cast_beq {a b : Nat} : ((a : Int) == (b : Int)) = decide (a = b) := by rw [Bool.eq_iff_iff]; simp; omega
theorem up_N {a c n k m : Nat} (h : a + c * (n + 1) ≤ m) (hk : Nat.ble k c = true) : a + k + c * n ≤ m := by
  refine Nat.le_trans ?_ h
  rw [Nat.mul_succ, Nat.add_assoc, Nat.add_comm k]
  exact Nat.add_le_add_left (Nat.add_le_add_left (Nat.le_of_ble_eq_true hk) _) _
theorem plus_lt {a c k m N : Nat} (h : a + c ≤ m) (e : Nat.ble (m + k + 1) N = true) : a + k < N :=
  Nat.lt_of_lt_of_le (Nat.lt_succ_of_le (Nat.add_le_add_right (Nat.le_trans (Nat.le_add_right a c) h) k)) (Nat.le_of_ble_eq_true e)
theorem Room.deeper {A : Around} {n : Nat} {env : Env} (r : Room A (n + 1)) : Room (A.deeper env) n := ⟨up_N r.depth rfl, up_N r.units rfl, r.hand⟩
theorem Room.less {A : Around} {n k : Nat} (r : Room A n) (h : k ≤ n) : Room A k := ⟨Nat.le_trans (Nat.add_le_add_left (Nat.mul_le_mul_left 4 h) _) r.depth, Nat.le_trans (Nat.add_le_add_left (Nat.mul_le_mul_left 20 h) _) r.units, r.hand⟩
theorem Room.lim {A : Around} {n : Nat} (r : Room A n) : A.depth < recursionLimit := plus_lt (k := 0) (N := 1000) r.depth rfl
theorem Room.eqs {A : Around} {n : Nat} (r : Room A n) : A.units + 64 < cLine := plus_lt (N := 9900) r.units rfl
structure Near (A A' : Around) : Prop where
  frames : A'.frames = A.frames
  hand : A'.handled = A.handled
  depth : A'.depth ≤ A.depth + 3
  units : A'.units ≤ A.units + 12
theorem Room.near {A A' : Around} {n : Nat} (r : Room A (n + 1)) (h : Near A A') : Room A' n := ⟨Nat.le_trans (Nat.add_le_add_right h.depth _) (up_N r.depth rfl), Nat.le_trans (Nat.add_le_add_right h.units _) (up_N r.units rfl), h.hand.trans r.hand⟩

section
variable {α : Type} {C : Cfg} {A A' : Around} {fx fx' : Fx} {m m' m₁ : Lo} {H H' H₁ : AH} {X : Value → Lo → AH → Prop} {K : Frag} {s s' s₁ : Shared} {Q : Value → Lo → AH → Prop}
variable {x dx cl f p : Addr} {fs : List (PySem.Str × Value)} {sl : List (Option Value)} {n : PySem.Str} {v : Value} {xs : List Value}

theorem under_make (A : Around) (cl : Addr) (vs : List Value) : Near A (A.under (.builtin "type.__call__" ⟨.ref cl :: vs, []⟩)) := by
  refine ⟨rfl, rfl, ?_, ?_⟩
  · show A.depth + 1 ≤ _; omega
  · show A.units + (Code.builtin "type.__call__" ⟨.ref cl :: vs, []⟩).cUnits ≤ _
    have : (Code.builtin "type.__call__" ⟨.ref cl :: vs, []⟩).cUnits ≤ 12 := by first | decide | (show (1 : Nat) ≤ 12; decide) | (show (2 : Nat) ≤ 12; decide) | (show (3 : Nat) ≤ 12; decide)
    omega
theorem call_make {T : Top C K} (hm : makesIn K cl = true) (hi : findIn K (.ref cl) "__init__" = some (some (.ref f))) (hf : typeIn K (.ref f) = some (.type "function"))
    (h : ∀ A' x dx, Near A A' → x ∉ H.keys → dx ∉ H.keys → x ≠ dx → CALLC C A' fx (.ref f) (.ref x :: xs) m ((x, .inst cl (some dx) []) :: (dx, .ns []) :: H) (fun v m' H' => v = .none ∧ Q (.ref x) m' H') X) : CALLC C A fx (.ref cl) xs m H Q X := fun g vs hg hvs s S => by
  obtain rfl := er_eq_ref hg
  have KX := T.X.keeps S.base
  refine hide fun z234 => ?_
  obtain ⟨hh, g, d, t, os⟩ := s
  refine z234 ?_
  refine make_core (makes_of KX hm) (looks_findIn KX hi) (fun self => bind_fn KX self hf) (.inl rfl) ?_
  refine hide fun z235 => ?_
  obtain ⟨S₁, E₁⟩ := S.push (o := emptyDict) (ao := .ns []) ⟨#[], 0, rfl, fun e he => by simp at he, List.Pairwise.nil, fun y => rfl⟩
  obtain ⟨S₂, E₂⟩ := S₁.push (o := instObj cl hh.objs.size) (ao := .inst cl (some hh.objs.size) []) ⟨rfl, rfl, rfl, rfl⟩
  refine z235 ?_
  have hsz : (hh.push emptyDict).objs.size = hh.objs.size + 1 := Heap.size_push ..
  dsimp only at S₂ E₂
  rw [hsz] at S₂ E₂
  have hN := under_make A cl vs
  have hk : ∀ b, hh.objs.size ≤ b → b ∉ H.keys := fun b hb hm => Nat.lt_irrefl _ (Nat.lt_of_lt_of_le (S.key_lt hm) hb)
  refine codeAny_mono (h _ (hh.objs.size + 1) hh.objs.size hN (hk _ (Nat.le_succ _)) (hk _ (Nat.le_refl _)) (Nat.succ_ne_self _) (.ref f) (.ref (hh.objs.size + 1) :: vs) rfl (by rw [List.map_cons, hvs]; rfl) _ (S₂.inA hN.frames)) fun r s' hr => ?_
  cases r with
  | error e =>
    refine hide fun z236 => ?_
    obtain ⟨m', H', S', E', q⟩ := hr
    refine z236 ?_
    exact ⟨m', H', S'.inA hN.frames.symm, (E₁.trans E₂).trans (E'.inA hN.frames.symm), q⟩
  | ok fl =>
    cases fl with
    | ret v =>
      refine hide fun z237 => ?_
      obtain ⟨m', H', S', E', q1, q2⟩ := hr
      refine z237 ?_
      exact ⟨er_eq_none q1, m', H', S'.inA hN.frames.symm, (E₁.trans E₂).trans (E'.inA hN.frames.symm), q2⟩
    | next => exact hr
    | brk => exact hr
    | cont => exact hr
theorem kp_class {o : Obj} {cd : ClassData} (T : Top C K) (ho : K.lookup cl = some o) (hd : o.data = .cls cd) (hs : specialIn K (.ref cl) "__call__" = some (some (.builtin "type.__call__"))) : KP C A fx (.ref cl) m H := kp_cls (T.X cl o ho) hd T.X hs
end
end Mine

namespace Mine
open PySem PySem.W PyProof.Rows
open Sem (wp)

section
variable {α : Type} {C : Cfg} {A A' : Around} {fx fx' : Fx} {m m' m₁ : Lo} {H H' H₁ : AH} {X : Value → Lo → AH → Prop} {K : Frag} {s s' s₁ : Shared}

noncomputable def seqQ (C : Cfg) (A : Around) (fx : Fx) (r : List Stmt) (Q : Flow → Lo → AH → Prop) (X : Value → Lo → AH → Prop) : Flow → Lo → AH → Prop := fun f m H => match f with
  | .next => EXS C A fx r m H Q X
  | f => Q f m H
theorem seq_next {r : List Stmt} {Q : Flow → Lo → AH → Prop} (h : EXS C A fx r m H Q X) : seqQ C A fx r Q X .next m H := h
theorem seq_ret {r : List Stmt} {Q : Flow → Lo → AH → Prop} {v : Value} (h : Q (.ret v) m H) : seqQ C A fx r Q X (.ret v) m H := h
theorem seq_brk {r : List Stmt} {Q : Flow → Lo → AH → Prop} (h : Q .brk m H) : seqQ C A fx r Q X .brk m H := h
theorem seq_cont {r : List Stmt} {Q : Flow → Lo → AH → Prop} (h : Q .cont m H) : seqQ C A fx r Q X .cont m H := h
theorem exs_seq {st : Stmt} {r : List Stmt} {Q : Flow → Lo → AH → Prop} (h : EX C A fx st m H (seqQ C A fx r Q X) X) : EXS C A fx (st :: r) m H Q X :=
  exs_cons (aw_mono h (fun f _ _ q => by revert q; generalize erF f = f'; intro q; cases f' <;> exact q) fun _ _ _ x => x)
theorem loop_next {Q : Flow → Lo → AH → Prop} {J : Lo → AH → Prop} (h : J m H) : loopPost Q J .next m H := h
theorem loop_cont {Q : Flow → Lo → AH → Prop} {J : Lo → AH → Prop} (h : J m H) : loopPost Q J .cont m H := h
theorem loop_brk {Q : Flow → Lo → AH → Prop} {J : Lo → AH → Prop} (h : Q .next m H) : loopPost Q J .brk m H := h
theorem loop_ret {Q : Flow → Lo → AH → Prop} {J : Lo → AH → Prop} {v : Value} (h : Q (.ret v) m H) : loopPost Q J (.ret v) m H := h
theorem if_yes {p q : Prop} (h : p) : (if true = true then p else q) := by rw [if_pos rfl]; exact h
theorem if_no {p q : Prop} (h : q) : (if false = true then p else q) := by rw [if_neg (by decide)]; exact h
theorem if_dec {b : Bool} {p q : Prop} (h1 : b = true → p) (h2 : b = false → q) : (if b = true then p else q) := by cases b with | true => exact if_yes (h1 rfl) | false => exact if_no (h2 rfl)

noncomputable def stor (k : Option NameKind) : Bool := match k with | some .local => true | some .cell => true | _ => false
structure Sc (fx : Fx) (sc : Scope) (os : List (PySem.Str × NameKind)) : Prop where
  scope : fx.env.scope = sc
  own : ∀ x, stor (os.lookup x) = true → Own fx x
theorem FxIs.sc {fd : FuncData} {f : Addr} (h : FxIs fx fd f) : Sc fx fd.scope fd.scope.names := ⟨h.scope, fun x hx => by
  cases q : fd.scope.names.lookup x with
  | none => rw [q] at hx; cases hx
  | some k =>
    rw [q] at hx
    cases k <;> first | exact .inl ((h.kindOf x).trans q) | exact .inr ⟨(h.kindOf x).trans q, h.W x⟩ | cases hx⟩
theorem CompFx.toSc {scope outer : Scope} (h : CompFx fx scope fx') (hs : fx.env.scope = outer) (SO : ScOk scope outer) : Sc fx' (relS scope outer) scope.names := ⟨by rw [h.sc, hs], fun x hx => by
  have hk := h.kindOf x
  rw [hs] at hk
  unfold relS at hk
  rw [rel_lookup] at hk
  cases q : scope.names.lookup x with
  | none => rw [q] at hx; cases hx
  | some k =>
    rw [q] at hx hk
    cases k with
    | «local» => exact .inl hk
    | cell => exact .inr ⟨hk, fun c hc => h.cell x (mem_of_lookup q) c hc fun hf => by have := mem_lookup SO.nodup hf; rw [q] at this; cases this⟩
    | _ => cases hx⟩
theorem Sc.kind {sc : Scope} {os : List (PySem.Str × NameKind)} (Z : Sc fx sc os) {x : PySem.Str} {k : NameKind} (h : sc.names.lookup x = some k) : fx.env.kindOf x = some k := by unfold Env.kindOf; rw [Z.scope]; exact h
theorem ev_gl {sc : Scope} {os : List (PySem.Str × NameKind)} {x : PySem.Str} {pos : Pos} {v : Value} {Q : Value → Lo → AH → Prop} (T : Top C K) (Z : Sc fx sc os) (e : nsIn K mainGlobals x = some (some v)) (hk : sc.names.lookup x = some .globalImplicit) (h : Q (er v) m H)
    (hd : (x == ("__debug__" : PySem.Str)) = false := by decide) : EV C A fx (.Name x pos) m H Q X := ev_glob T e (Z.kind hk) h hd
theorem ev_bi {sc : Scope} {os : List (PySem.Str × NameKind)} {x : PySem.Str} {pos : Pos} {v : Value} {Q : Value → Lo → AH → Prop} (T : Top C K) (Z : Sc fx sc os) (e : nsIn K mainGlobals x = some none) (hk : sc.names.lookup x = some .globalImplicit) (hv : bootBuiltins x = some v) (hn : x ≠ "__name__") (h : Q (er v) m H)
    (hd : (x == ("__debug__" : PySem.Str)) = false := by decide) : EV C A fx (.Name x pos) m H Q X := ev_builtin T e (Z.kind hk) hv hn h hd
theorem asg_nm {sc : Scope} {os : List (PySem.Str × NameKind)} {x : PySem.Str} {pos : Pos} {v : Value} {Q : Lo → AH → Prop} (Z : Sc fx sc os) (hk : stor (os.lookup x) = true) (h : Q (m.put x v) H) : ASG C A fx (.Name x pos) v m H Q X := asg_name (Z.own x hk) h
theorem ev_walrus {sc : Scope} {os : List (PySem.Str × NameKind)} {x : PySem.Str} {px pos : Pos} {e : PySem.Expr} {Q : Value → Lo → AH → Prop} (Z : Sc fx sc os) (hk : stor (os.lookup x) = true) (h : EV C A fx e m H (fun v m₁ H₁ => Q v (m₁.put x v) H₁) X) : EV C A fx (.NamedExpr (.Name x px) e pos) m H Q X := ev_named (Z.own x hk) h
theorem ex_aug_nm {sc : Scope} {os : List (PySem.Str × NameKind)} {x : PySem.Str} {np pos : Pos} {op : Operator} {e : PySem.Expr} {v : Value} {Q : Flow → Lo → AH → Prop} (Z : Sc fx sc os) (hv : m.lookup x = some v) (hk : stor (os.lookup x) = true)
    (h : EV C A fx e m H (fun y m₁ H₁ => IO C A fx op v y m₁ H₁ (fun z m₂ H₂ => Q .next (m₂.put x z) H₂) X) X) (hn : (x == ("__classdict__" : PySem.Str)) = false := by decide) : EX C A fx (.AugAssign (.Name x np) op e pos) m H Q X := ex_aug_name hv (Z.own x hk) h hn

theorem fnAt {T : Top C K} {f : Addr} {oc : Value} {od : Option Addr} {osl : Array (Option Value)} {name qual : PySem.Str} {params : Arguments} {body : List Stmt} {scope : Scope} {dV kV doc pm cdv ct : Value} {an : Option Addr}
    (ho : K.lookup f = some ⟨oc, od, .func (fnOf name qual params body scope dV kV doc pm an cdv ct), osl⟩) (hcode : codeIn K cdv qual = true)
    (hco : scope.isCoroutine = false) (hgen : scope.isGenerator = false) (hk : scope.kind = .function) : FnAt C f (fnOf name qual params body scope dV kV doc pm an cdv ct) body :=
  ⟨⟨_, T.X f _ ho, rfl⟩, rfl, rfl, rfl, rfl, codeRec_of T.X hcode, T.nolimit, hco, hgen, hk⟩
noncomputable def namesB (scope : Scope) (names : List PySem.Str) : Bool := (names.all fun b => stor (scope.names.lookup b)) && distinctB (names.map fun b => (b, NameKind.local))
theorem bindOk_of {fd : FuncData} {binds : List (PySem.Str × Value)} (h : namesB fd.scope (binds.map (·.1)) = true) : BindOk fd binds := by
  unfold namesB at h
  simp only [Bool.and_eq_true, List.all_eq_true] at h
  refine ⟨fun x hx => ?_, ?_⟩
  · have := h.1 x.1 (List.mem_map_of_mem hx)
    cases q : fd.scope.names.lookup x.1 with
    | none => rw [q] at this; cases this
    | some k => rw [q] at this; cases k <;> first | exact .inl rfl | exact .inr rfl | cases this
  · have := distinct_of h.2
    rw [List.map_map] at this
    rw [List.map_map] at this
    exact this
section
variable {f : Addr} {name qual : PySem.Str} {params : Arguments} {body : List Stmt} {scope : Scope} {dV kV doc pm cdv ct : Value} {an : Option Addr} {n : Nat} {Q : Value → Lo → AH → Prop}
theorem call1 (R : Room A (n + 1)) (F : FnAt C f (fnOf name qual params body scope dV kV doc pm an cdv ct) body) {x : Value} (n1 : PySem.Str)
    (hb : ∀ a, bindArgs (fnOf name qual params body scope dV kV doc pm an cdv ct) ⟨[a], []⟩ = pure [(n1, a)]) (hB : namesB scope [n1] = true)
    (h : ∀ A' fx', Room A' n → Sc fx' scope scope.names → EXS C A' fx' body [(n1, x)] H (fun fl _ H₂ => Q (retV fl) m H₂) noX) : CALLC C A fx (.ref f) [x] m H Q X :=
  call_fn F R.lim fun vs hvs => by
    refine hide fun z238 => ?_
    obtain ⟨a, rfl, ha⟩ := er1 hvs
    refine z238 ?_
    refine aw_binds (hb a) ⟨bindOk_of hB, fun _ => noX, fun fx' I => ?_, fun _ _ _ _ _ z => z.elim⟩
    subst ha; exact h _ fx' R.deeper I.sc
theorem call2 (R : Room A (n + 1)) (F : FnAt C f (fnOf name qual params body scope dV kV doc pm an cdv ct) body) {x y : Value} (n1 n2 : PySem.Str)
    (hb : ∀ a b, bindArgs (fnOf name qual params body scope dV kV doc pm an cdv ct) ⟨[a, b], []⟩ = pure [(n1, a), (n2, b)]) (hB : namesB scope [n1, n2] = true)
    (h : ∀ A' fx', Room A' n → Sc fx' scope scope.names → EXS C A' fx' body [(n1, x), (n2, y)] H (fun fl _ H₂ => Q (retV fl) m H₂) noX) : CALLC C A fx (.ref f) [x, y] m H Q X :=
  call_fn F R.lim fun vs hvs => by
    refine hide fun z239 => ?_
    obtain ⟨a, b, rfl, ha, hb'⟩ := er2 hvs
    refine z239 ?_
    refine aw_binds (hb a b) ⟨bindOk_of hB, fun _ => noX, fun fx' I => ?_, fun _ _ _ _ _ z => z.elim⟩
    subst ha hb'; exact h _ fx' R.deeper I.sc
theorem call3 (R : Room A (n + 1)) (F : FnAt C f (fnOf name qual params body scope dV kV doc pm an cdv ct) body) {x y z : Value} (n1 n2 n3 : PySem.Str)
    (hb : ∀ a b c, bindArgs (fnOf name qual params body scope dV kV doc pm an cdv ct) ⟨[a, b, c], []⟩ = pure [(n1, a), (n2, b), (n3, c)]) (hB : namesB scope [n1, n2, n3] = true)
    (h : ∀ A' fx', Room A' n → Sc fx' scope scope.names → EXS C A' fx' body [(n1, x), (n2, y), (n3, z)] H (fun fl _ H₂ => Q (retV fl) m H₂) noX) : CALLC C A fx (.ref f) [x, y, z] m H Q X :=
  call_fn F R.lim fun vs hvs => by
    refine hide fun z240 => ?_
    obtain ⟨a, b, c, rfl, ha, hb', hc⟩ := er3 hvs
    refine z240 ?_
    refine aw_binds (hb a b c) ⟨bindOk_of hB, fun _ => noX, fun fx' I => ?_, fun _ _ _ _ _ z => z.elim⟩
    subst ha hb' hc; exact h _ fx' R.deeper I.sc
end
end
end Mine

namespace Mine
open PySem PySem.W PyProof.Rows
open Sem (wp)

section
variable {α : Type} {C : Cfg} {A A' : Around} {fx fx' : Fx} {m m' m₁ : Lo} {H H' H₁ R : AH} {X : Value → Lo → AH → Prop} {K : Frag} {s s' s₁ : Shared} {e : Addr} {cls fl : Value}

structure Here (A : Around) (fx : Fx) : Prop where
  frame : fx.env.frame = some fx.env.locals
  top : ∀ l, A.frames = some l → ∃ o, l = fx.env :: o
theorem Here.of {fd : FuncData} {f : Addr} (I : FxIs fx fd f) : Here (A.deeper fx.env) fx := ⟨I.frame, fun l h => by
  have h : A.frames.map _ = some l := h
  refine hide fun z241 => ?_
  obtain ⟨o, _, rfl⟩ := Option.map_eq_some_iff.mp h
  refine z241 ?_
  exact ⟨o, rfl⟩⟩

noncomputable def ExnT (e : Addr) (cls fl : Value) (R H : AH) : Prop := ∃ T, H = (e, .exc cls (.ref T)) :: (T, .tb fl) :: R
noncomputable def Exn (L : Addr) (e : Addr) (cls : Value) (R H : AH) : Prop := H = (e, .exc cls .none) :: R ∨ ExnT e cls .none R H ∨ ExnT e cls (rawInt L) R H

noncomputable def hidden (A : Around) (top : List Addr) : List Addr := top ++ frameAddrs A

theorem exn_frames (S : St C A fx m H s) (top : List Addr) : ∃ l, A.frames = some l ∧ s.heap.FunFrames (hideAll s.heap (hidden A top)) l := by
  refine hide fun z242 => ?_
  obtain ⟨l, hl, hF⟩ := S.frs
  refine z242 ?_
  refine ⟨l, hl, ?_⟩
  have : ∀ {l : List Env}, s.heap.FunFrames C.h₀ l → (∀ env ∈ l, ∀ a, env.frame = some a → a ∈ hidden A top) → s.heap.FunFrames (hideAll s.heap (hidden A top)) l := by
    intro l
    induction l with
    | nil => intro _ _; trivial
    | cons env r ih =>
      intro hY0 hin
      refine hide fun z243 => ?_
      obtain ⟨h1, ⟨L, o, hL, hb, ho, hd⟩, hr⟩ := hY0
      refine z243 ?_
      exact ⟨h1, ⟨L, o, hL, hideAll_none _ (hin env List.mem_cons_self L hL), ho, hd⟩, ih hr fun e h => hin e (List.mem_cons_of_mem _ h)⟩
  refine this hF fun env h a ha => ?_
  refine List.mem_append_right _ ?_
  unfold frameAddrs
  rw [hl]
  exact List.mem_filterMap.mpr ⟨env, h, ha⟩

theorem exn_put {h' : Heap} {a0 : Value} {l : List Env} {top : List Addr} (hl : A.frames = some l) (S : St C A fx m H s) (he : e ∈ top) (hH : ∃ H₀ : AH, H = H₀ ++ R ∧ H₀.keys = top)
    (k1 : (hideAll s.heap (hidden A top)).StaysIn h') (k2 : h'.FunFrames (hideAll s.heap (hidden A top)) l) (k3 : h'.TracedAtW (hideAll s.heap (hidden A top)) e cls a0 fl)
    (k4 : ∀ b o, s.heap.get? b = some o → (∀ vs, o.data ≠ .fields vs) → ∃ sl, h'.get? b = some { o with slots := sl }) :
    ∃ H', ExnT e cls fl R H' ∧ St C A fx m H' { s with heap := h' } ∧ Ext A fx H s H' { s with heap := h' } := by
  refine hide fun z244 => ?_
  obtain ⟨H₀, rfl, hk⟩ := hH
  obtain ⟨oe, vs, T, oT, ts, he1, ⟨hc, h0⟩, hd, h1, hnT, hTe, hT, hdT, h3⟩ := k3
  refine z244 ?_
  have hnd := S.nodup
  have hkeys : (H₀ ++ R).keys = top ++ R.keys := by unfold AH.keys at hk ⊢; rw [List.map_append, hk]
  rw [hkeys] at hnd
  have hndp := List.nodup_append.mp hnd
  have hR : ∀ b ∈ R.keys, b ∉ hidden A top := fun b hb hm => by
    rcases List.mem_append.mp hm with h | h
    · exact hndp.2.2 b h b hb rfl
    · exact S.frA b h (by rw [hkeys]; exact List.mem_append_right _ hb)
  have keep : ∀ b o, s.heap.get? b = some o → b ∉ hidden A top → h'.get? b = some o := fun b o e hn => k1 b o (hideAll_get _ e hn)
  have hTR : T ∉ R.keys := fun hm => by
    refine hide fun z245 => ?_
    obtain ⟨p, hp, rfl⟩ := List.mem_map.mp hm
    obtain ⟨o, ho, _⟩ := S.cells p (List.mem_append_right _ hp)
    refine z245 ?_
    rw [hideAll_get _ ho (hR _ (mem_keys hp))] at hnT
    cases hnT
  have heR : e ∉ R.keys := fun hm => hndp.2.2 e he e hm rfl
  refine ⟨_, ⟨T, rfl⟩, S.upd (fun b o hb hn => ?_) (fun p hp => ?_) (fun b hb => ?_) ?_ S.gens rfl (S.gst.of fun p hp => (List.mem_cons.mp hp).elim (fun e => .inr (e ▸ rfl)) fun hp => (List.mem_cons.mp hp).elim (fun e => .inr (e ▸ rfl)) fun hp => .inl (List.mem_append_right _ hp))⟩
  · rw [hkeys, List.mem_append, not_or] at hn
    by_cases hf : b ∈ frameAddrs A
    · have hf' := hf
      unfold frameAddrs at hf'
      refine hide fun z246 => ?_
      obtain ⟨l', hl', hF⟩ := S.frs
      refine z246 ?_
      rw [hl'] at hf'
      refine hide fun z247 => ?_
      obtain ⟨_, o', ho', hd'⟩ := hF.mem hf'
      refine z247 ?_
      rw [hb] at ho'; cases ho'
      obtain ⟨sl, q⟩ := k4 b o hb hd'
      exact ⟨sl, q, fun hq => absurd hf hq⟩
    · exact .of_keep (keep b o hb fun hm => (List.mem_append.mp hm).elim hn.1 hf)
  · rcases List.mem_cons.mp hp with rfl | hp
    · exact ⟨oe, he1, hc, vs, a0, hd, h0, h1⟩
    · rcases List.mem_cons.mp hp with rfl | hp
      · exact ⟨oT, hT, ts, hdT, h3⟩
      · refine hide fun z248 => ?_
        obtain ⟨o, h1, h2⟩ := S.cells p (List.mem_append_right _ hp)
        refine z248 ?_
        exact ⟨o, keep _ _ h1 (hR _ (mem_keys hp)), h2⟩
  · rcases List.mem_cons.mp hb with rfl | hb
    · exact .inl (by rw [hkeys]; exact List.mem_append_left _ he)
    · rcases List.mem_cons.mp hb with rfl | hb
      · by_cases hm : b ∈ top
        · exact .inl (by rw [hkeys]; exact List.mem_append_left _ hm)
        · refine .inr ?_
          cases q : s.heap.get? b with
          | none => rfl
          | some o =>
            exfalso
            have hf : b ∈ frameAddrs A := by
              by_cases hf : b ∈ frameAddrs A
              · exact hf
              · have z := hideAll_get (hidden A top) q fun hh => (List.mem_append.mp hh).elim hm hf
                rw [hnT] at z; cases z
            unfold frameAddrs at hf
            rw [hl] at hf
            refine hide fun z249 => ?_
            obtain ⟨_, o', ho', hd'⟩ := k2.mem hf
            refine z249 ?_
            rw [hT] at ho'; cases ho'
            exact hd' _ hdT
      · exact .inl (by rw [hkeys]; exact List.mem_append_right _ hb)
  · refine List.nodup_cons.mpr ⟨fun hm => ?_, List.nodup_cons.mpr ⟨hTR, hndp.2.1⟩⟩
    rcases List.mem_cons.mp hm with q | hm
    · exact hTe q.symm
    · exact heR hm

theorem exn_there {T : Addr} (S : St C A fx m ((e, .exc cls (.ref T)) :: (T, .tb fl) :: R) s) : ∃ a0, s.heap.TracedAtW (hideAll s.heap (hidden A [e, T])) e cls a0 fl := by
  refine hide fun z250 => ?_
  obtain ⟨oe, h1, hc, ws, a0, hd, h0, h2⟩ := S.get List.mem_cons_self
  obtain ⟨oT, h3, ts, h4, h5⟩ := S.get (List.mem_cons_of_mem _ List.mem_cons_self)
  refine z250 ?_
  refine ⟨a0, oe, ws, T, oT, ts, h1, ⟨hc, h0⟩, hd, h2, hideAll_none _ (List.mem_append_left _ (by simp)), ?_, h3, h4, h5⟩
  have := S.nodup
  intro q
  subst q
  exact (List.nodup_cons.mp this).1 List.mem_cons_self
theorem exn_stays {as : List Addr} : (hideAll s.heap as).StaysIn s.heap := fun b o q => of_hideAll _ q

theorem aw_note {Q : Unit → Lo → AH → Prop} (hh : Here A fx) (hX : Exn fx.env.locals e cls R H) (h : ∀ H', ExnT e cls (rawInt fx.env.locals) R H' → Q () m H') : AW C A fx (noteFrame (.ref e) fx.env) m H Q X := by
  rcases hX with rfl | ⟨T, rfl⟩ | ⟨T, rfl⟩ <;> intro s S
  · refine hide fun z251 => ?_
    obtain ⟨oe, h1, hc, ws, a0, hd, h0, h2⟩ := S.get List.mem_cons_self
    obtain ⟨l, hl, hF⟩ := exn_frames S [e]
    obtain ⟨o, rfl⟩ := hh.top l hl
    refine z251 ?_
    unfold noteFrame
    simp only [hh.frame]
    refine wpAny_bind (wpAny_field h1 hd h2 ?_)
    rw [if_neg (by decide)]
    refine wpAny_entryW hl hF hh.frame h1 exn_stays (hideAll_none _ (List.mem_append_left _ (by simp))) hd (Array.getElem?_eq_some_iff.mp h2).1 h0 fun h' hN => ?_
    refine hide fun z252 => ?_
    obtain ⟨k1, k2, k3, k4⟩ := hN
    refine z252 ?_
    rw [hc] at k3
    refine hide fun z253 => ?_
    obtain ⟨H', x1, x2, x3⟩ := exn_put (top := [e]) hl S (by simp) ⟨[_], rfl, rfl⟩ k1 k2 k3 k4
    refine z253 ?_
    exact ⟨m, H', x2, x3, h H' x1⟩
  · refine hide fun z254 => ?_
    obtain ⟨a0, hT⟩ := exn_there S
    obtain ⟨l, hl, hF⟩ := exn_frames S [e, T]
    obtain ⟨o, rfl⟩ := hh.top l hl
    refine z254 ?_
    refine wpAny_noteFrame_onW hl hF hh.frame hT exn_stays (hideAll_none _ (List.mem_append_left _ (by simp))) fun h' hN => ?_
    refine hide fun z255 => ?_
    obtain ⟨k1, k2, k3, k4⟩ := hN
    obtain ⟨H', x1, x2, x3⟩ := exn_put (top := [e, T]) hl S (by simp) ⟨[_, _], rfl, rfl⟩ k1 k2 k3 k4
    refine z255 ?_
    exact ⟨m, H', x2, x3, h H' x1⟩
  · obtain ⟨a0, hT⟩ := exn_there S
    exact wpAny_noteFrame_againW hh.frame hT ⟨m, _, S, Ext.refl' S, h _ ⟨T, rfl⟩⟩

theorem aw_flight {Q : Unit → Lo → AH → Prop} (hX : ExnT e cls fl R H) (h : ∀ H', ExnT e cls .none R H' → Q () m H') : AW C A fx (setFlight (.ref e) none) m H Q X := by
  obtain ⟨T, rfl⟩ := hX
  intro s S
  refine hide fun z256 => ?_
  obtain ⟨a0, hT⟩ := exn_there S
  obtain ⟨l, hl, hF⟩ := exn_frames S [e, T]
  refine z256 ?_
  refine wpAny_setFlight_noneW exn_stays hF hT fun h' k1 k2 k3 k4 => ?_
  refine hide fun z257 => ?_
  obtain ⟨H', x1, x2, x3⟩ := exn_put (top := [e, T]) hl S (by simp) ⟨[_, _], rfl, rfl⟩ k1 k2 k3 fun b o q n => ⟨o.slots, k4 b o q n⟩
  refine z257 ?_
  exact ⟨m, H', x2, x3, h H' x1⟩

theorem aw_leaving {Q : Unit → Lo → AH → Prop} (hh : Here A fx) (hX : Exn fx.env.locals e cls R H) (h : ∀ H', ExnT e cls .none R H' → Q () m H') : AW C A fx (leaving fx.env (.ref e)) m H Q X :=
  aw_bind (aw_note hh hX fun H' h' => aw_flight h' h)

theorem aw_back {Q : Unit → Lo → AH → Prop} (hh : Here A fx) (hX : ExnT e cls fl R H) (h : ∀ H', ExnT e cls (rawInt fx.env.locals) R H' → Q () m H') :
    AW C A fx (do
      if (← field (.ref e) 1) == .none then unsupported "frame.own-activation:exception-without-traceback"
      setFlight (.ref e) fx.env.frame) m H Q X := by
  obtain ⟨T, rfl⟩ := hX
  intro s S
  refine hide fun z258 => ?_
  obtain ⟨oe, h1, hc, ws, a0, hd, h0, h2⟩ := S.get List.mem_cons_self
  obtain ⟨oT, h3, ts, h4, h5⟩ := S.get (List.mem_cons_of_mem _ List.mem_cons_self)
  refine z258 ?_
  have hTe : T ≠ e := fun q => by
    have := S.nodup
    subst q
    exact (List.nodup_cons.mp this).1 List.mem_cons_self
  refine wpAny_bind (wpAny_field h1 hd h2 ?_)
  rw [if_neg (by simp)]
  unfold setFlight
  refine wpAny_bind (wpAny_field h1 hd h2 ?_)
  rw [if_pos (show (Value.ref T != Value.none) = true from by simp)]
  refine wpAny_setField h3 h4 (Array.getElem?_eq_some_iff.mp h5).1 ?_
  rw [hh.frame]
  have other : ∀ b, b ≠ T → (s.heap.update T (Obj.mapFields (·.setIfInBounds 3 (Option.elim (some fx.env.locals) Value.none fun f => rawInt f)))).get? b = s.heap.get? b := fun b hb => Heap.get?_update_other _ _ (Ne.symm hb)
  refine hide fun z259 => ?_
  obtain ⟨l, hl, hF⟩ := exn_frames S [e, T]
  refine z259 ?_
  obtain ⟨H', x1, x2, x3⟩ := exn_put (fl := rawInt fx.env.locals) (cls := cls) (a0 := a0) (h' := s.heap.update T (Obj.mapFields (·.setIfInBounds 3 (Option.elim (some fx.env.locals) Value.none fun f => rawInt f)))) hl S (e := e) (top := [e, T]) (by simp) ⟨[_, _], rfl, rfl⟩ (fun b o q => (other b fun z => by
      have y := hideAll_none (hidden A [e, T]) (h := s.heap) (b := T) (List.mem_append_left _ (by simp))
      rw [z, y] at q; cases q).trans (of_hideAll _ q))
    (hF.of_keeps fun b o q n => ⟨o, (other b fun z => by rw [z, h3] at q; cases q; exact n _ h4).trans q, rfl⟩)
    ⟨oe, ws, T, _, _, (other e (Ne.symm hTe)).trans h1, ⟨hc, h0⟩, hd, h2, hideAll_none _ (List.mem_append_left _ (by simp)), hTe, Heap.get?_update_self _ h3 (Obj.isFreed_of_fields (Obj.data_mapFields h4 _)), Obj.data_mapFields h4 _, by
      rw [Array.getElem?_setIfInBounds_self, if_pos (Array.getElem?_eq_some_iff.mp h5).1]; rfl⟩
    (fun b o q n => ⟨o.slots, (other b fun z => by rw [z, h3] at q; cases q; exact n _ h4).trans q⟩)
  exact ⟨m, H', x2, x3, h H' x1⟩
end
end Mine

namespace Mine
open PySem PySem.W PyProof.Rows
open Sem (wp)

section
variable {α : Type} {C : Cfg} {A A' : Around} {fx fx' : Fx} {m m' m₁ : Lo} {H H' H₁ R : AH} {X : Value → Lo → AH → Prop} {K : Frag} {s s' s₁ : Shared} {e : Addr} {cls fl : Value} {Q : Flow → Lo → AH → Prop}

noncomputable def HB (C : Cfg) (A : Around) (fx : Fx) (e : Addr) (hs : List ExceptHandler) (m : Lo) (H : AH) (Q : Flow → Lo → AH → Prop) (X : Value → Lo → AH → Prop) : Prop := AW C A fx (handleBy (.ref e) fx.env hs) m H (fun f => Q (erF f)) X
noncomputable def tryQ (C : Cfg) (A : Around) (fx : Fx) (o : List Stmt) (Q : Flow → Lo → AH → Prop) (X : Value → Lo → AH → Prop) : Flow → Lo → AH → Prop := seqQ C A fx o Q X
noncomputable def tryX (C : Cfg) (A : Around) (fx : Fx) (hs : List ExceptHandler) (Q : Flow → Lo → AH → Prop) (X : Value → Lo → AH → Prop) : Value → Lo → AH → Prop := fun v m H =>
  ∃ e cls R, v = .ref e ∧ Exn fx.env.locals e cls R H ∧ ∀ H', ExnT e cls .none R H' → HB C A fx e hs m H' Q X
theorem ex_try {body orelse : List Stmt} {h₀ : ExceptHandler} {hs : List ExceptHandler} {pos : Pos} (hh : Here A fx) (h : EXS C A fx body m H (tryQ C A fx orelse Q X) (tryX C A fx (h₀ :: hs) Q X)) : EX C A fx (.Try body (h₀ :: hs) orelse [] pos) m H Q X := by
  intro s S
  refine wpAny_Try_except (wpAny_mono (h s S) (fun f s₁ h₁ => ?_) fun v s₁ h₁ => ?_)
  · refine hide fun z260 => ?_
    obtain ⟨m₁, H₁, S₁, E₁, q⟩ := h₁
    refine z260 ?_
    cases f with
    | next =>
      refine wpAny_mono ((q : EXS C A fx orelse m₁ H₁ Q X) s₁ S₁) (fun f s₂ h₂ => ?_) fun v s₂ h₂ => ?_ <;> (obtain ⟨m₂, H₂, S₂, E₂, q⟩ := h₂; exact ⟨m₂, H₂, S₂, E₁.trans E₂, q⟩)
    | brk => exact ⟨m₁, H₁, S₁, E₁, q⟩
    | cont => exact ⟨m₁, H₁, S₁, E₁, q⟩
    | ret v => exact ⟨m₁, H₁, S₁, E₁, q⟩
  · refine hide fun z261 => ?_
    obtain ⟨m₁, H₁, S₁, E₁, e, cls, R, rfl, hx, hb⟩ := h₁
    refine z261 ?_
    have step : AW C A fx (noteFrame (.ref e) fx.env) m₁ H₁ (fun _ m₂ H₂ => AW C A fx (setFlight (.ref e) none) m₂ H₂ (fun _ m₃ H₃ => HB C A fx e (h₀ :: hs) m₃ H₃ Q X) X) X := aw_note hh hx fun H' h' => aw_flight h' hb
    refine wpAny_mono (step s₁ S₁) (fun _ s₂ h₂ => ?_) fun v s₂ h₂ => ?_
    · refine hide fun z262 => ?_
      obtain ⟨m₂, H₂, S₂, E₂, q₂⟩ := h₂
      refine z262 ?_
      refine wpAny_mono (q₂ s₂ S₂) (fun _ s₃ h₃ => ?_) fun v s₃ h₃ => ?_
      · refine hide fun z263 => ?_
        obtain ⟨m₃, H₃, S₃, E₃, q₃⟩ := h₃
        refine z263 ?_
        refine wpAny_mono (q₃ s₃ S₃) (fun f s₄ h₄ => ?_) fun v s₄ h₄ => ?_ <;> (obtain ⟨m₄, H₄, S₄, E₄, q⟩ := h₄; exact ⟨m₄, H₄, S₄, E₁.trans (E₂.trans (E₃.trans E₄)), q⟩)
      · refine hide fun z264 => ?_
        obtain ⟨m₃, H₃, S₃, E₃, q₃⟩ := h₃
        refine z264 ?_
        exact ⟨m₃, H₃, S₃, E₁.trans (E₂.trans E₃), q₃⟩
    · refine hide fun z265 => ?_
      obtain ⟨m₂, H₂, S₂, E₂, q₂⟩ := h₂
      refine z265 ?_
      exact ⟨m₂, H₂, S₂, E₁.trans E₂, q₂⟩

theorem hb_builtin {Xn T : String} {t : PySem.Expr} {b₀ : Stmt} {suite : List Stmt} {pos : Pos} {rest : List ExceptHandler}
    (hX : ExnT e (.type Xn) .none R H) (hev : ∀ Q' : Value → Lo → AH → Prop, Q' (.type T) m H → EV C (A.mark (some (.ref e))) fx t m H Q' noX)
    (h : ∀ H', ExnT e (.type Xn) .none R H' → EXS C (A.mark (some (.ref e))) fx (b₀ :: suite) m H' Q noX)
    (hexc : isSubtype (.type T) (.type "BaseException") = pure true) (hnt : isSubtype (.type ((Manifest.find? T).elim "type" fun x => x.metatype)) (.type "tuple") = pure false)
    (hsub : isSubtype (.type Xn) (.type T) = pure true) : HB C A fx e (.ExceptHandler (some t) none (b₀ :: suite) pos :: rest) m H Q X := by
  intro s S
  have SM : St C (A.mark (some (.ref e))) fx m H s := S.inA rfl
  refine wpAny_handleBy_builtin hexc hnt hsub (wpAny_mono (hev (fun v m' H' => v = .type T ∧ m' = m ∧ H' = H) ⟨rfl, rfl, rfl⟩ s SM) (fun c s₁ h₁ => ?_) fun v s₁ h₁ => ?_)
  · refine hide fun z266 => ?_
    obtain ⟨m₁, H₁, S₁, E₁, q1, rfl, rfl⟩ := h₁
    refine z266 ?_
    refine ⟨er_eq_type q1, ?_, ?_⟩
    · refine hide fun z267 => ?_
      obtain ⟨T', rfl⟩ := hX
      obtain ⟨oe, h1, hc, _⟩ := S₁.get List.mem_cons_self
      refine z267 ?_
      exact ⟨oe, h1, hc⟩
    · rw [if_pos rfl]
      refine wpAny_mono (aw_flight (A := A.mark (some (.ref e))) (Q := fun _ m₂ H₂ => EXS C (A.mark (some (.ref e))) fx (b₀ :: suite) m₂ H₂ Q noX) (X := noX) hX h s₁ S₁) (fun _ s₂ h₂ => ?_) fun v s₂ h₂ => ?_
      · refine hide fun z268 => ?_
        obtain ⟨m₂, H₂, S₂, E₂, q₂⟩ := h₂
        refine z268 ?_
        refine wpAny_mono (q₂ s₂ S₂) (fun f s₃ h₃ => ?_) fun v s₃ h₃ => ?_
        · refine hide fun z269 => ?_
          obtain ⟨m₃, H₃, S₃, E₃, q₃⟩ := h₃
          refine z269 ?_
          exact ⟨m₃, H₃, S₃.inA rfl, (E₁.trans (E₂.trans E₃)).inA rfl, q₃⟩
        · obtain ⟨_, _, _, _, z⟩ := h₃; exact z.elim
      · obtain ⟨_, _, _, _, z⟩ := h₂; exact z.elim
  · obtain ⟨_, _, _, _, z⟩ := h₁; exact z.elim

structure ExcC (C : Cfg) (c : Addr) (B newId initId : String) (bmB : List Value) : Prop where
  facts : ExcBaseFacts B newId initId bmB
  obj : ∃ bm N nm q bs hdct sn sub ab col dd k0 k1 k2 k3 k5 mN, C.h₀.get? c = some (excClassObj nm q c N bs bm hdct sn sub ab col dd k0 k1 k2 k3 k5 newId) ∧ C.h₀.Ns N mN ∧ mN "__init__" = none ∧ OwnTail C.h₀ bmB bm
theorem excC {T : Top C K} {c : Addr} {x : PySem.Str} {B newId initId : String} {bmB : List Value} (e : nsIn K mainGlobals x = some (some (.ref c))) (q : excIn K c bmB newId = true) (F : ExcBaseFacts B newId initId bmB) : ExcC C c B newId initId bmB := by
  refine hide fun z270 => ?_
  obtain ⟨p, loose, mg, mb, hT⟩ := T.read
  refine z270 ?_
  exact ⟨F, (own_of_in T.X hT e q).obj⟩

theorem hb_own {c : Addr} {B newId initId : String} {bmB : List Value} (F : ExcC C c B newId initId bmB) {t : PySem.Expr} {b₀ : Stmt} {suite : List Stmt} {pos : Pos} {rest : List ExceptHandler}
    (hX : ExnT e (.ref c) .none R H) (hev : ∀ Q' : Value → Lo → AH → Prop, Q' (.ref c) m H → EV C (A.mark (some (.ref e))) fx t m H Q' noX)
    (h : ∀ H', ExnT e (.ref c) .none R H' → EXS C (A.mark (some (.ref e))) fx (b₀ :: suite) m H' Q noX) : HB C A fx e (.ExceptHandler (some t) none (b₀ :: suite) pos :: rest) m H Q X := by
  intro s S
  have SM : St C (A.mark (some (.ref e))) fx m H s := S.inA rfl
  refine wpAny_handleBy_cons (codeAny_handlers_test (wpAny_mono (hev (fun v m' H' => v = .ref c ∧ m' = m ∧ H' = H) ⟨rfl, rfl, rfl⟩ s SM) (fun c' s₁ h₁ => ?_) fun v s₁ h₁ => ?_)) (by intro q; cases q)
  · refine hide fun z271 => ?_
    obtain ⟨m₁, H₁, S₁, E₁, q1, rfl, rfl⟩ := h₁
    refine z271 ?_
    obtain rfl := er_eq_ref q1
    refine hide fun z272 => ?_
    obtain ⟨bm, N, nm, q, bs, hdct, sn, sub, ab, col, dd, k0, k1, k2, k3, k5, mN, hC, hN, hni, TL⟩ := F.obj
    obtain ⟨oe, h1, hc⟩ : ∃ oe, s₁.heap.get? e = some oe ∧ oe.cls = .ref c := by
      obtain ⟨T', rfl⟩ := hX
      obtain ⟨oe, h1, hc, _⟩ := S₁.get List.mem_cons_self
      exact ⟨oe, h1, hc⟩
    obtain ⟨hp, g, d, tk, os⟩ := s₁
    refine z272 ?_
    refine wpAny_excMatches_sub_self (S₁.base _ _ hC) h1 hc (TL.hasType F.facts.hasBase) (codeAny_handlers_suite ?_)
    refine wpAny_mono (aw_flight (A := A.mark (some (.ref e))) (Q := fun _ m₂ H₂ => EXS C (A.mark (some (.ref e))) fx (b₀ :: suite) m₂ H₂ Q noX) (X := noX) hX h _ S₁) (fun _ s₂ h₂ => ?_) fun v s₂ h₂ => ?_
    · refine hide fun z273 => ?_
      obtain ⟨m₂, H₂, S₂, E₂, q₂⟩ := h₂
      refine z273 ?_
      refine wpAny_mono (q₂ s₂ S₂) (fun f s₃ h₃ => ?_) fun v s₃ h₃ => ?_
      · refine hide fun z274 => ?_
        obtain ⟨m₃, H₃, S₃, E₃, q₃⟩ := h₃
        refine z274 ?_
        exact ⟨m₃, H₃, S₃.inA rfl, (E₁.trans (E₂.trans E₃)).inA rfl, q₃⟩
      · obtain ⟨_, _, _, _, z⟩ := h₃; exact z.elim
    · obtain ⟨_, _, _, _, z⟩ := h₂; exact z.elim
  · obtain ⟨_, _, _, _, z⟩ := h₁; exact z.elim

theorem ex_raise_own {c : Addr} {B newId initId : String} {bmB : List Value} (F : ExcC C c B newId initId bmB) (hA : A.handled = none) {x : PySem.Str} {np cpos pos : Pos} {args : List PySem.Expr}
    (hev : EV C A fx (.Name x np) m H (fun v m₁ H₁ => v = .ref c ∧ EVA C A fx args cpos m₁ H₁ (fun vs m₂ H₂ => vs.length ≤ 1000000 ∧ ∀ e, e ∉ H₂.keys → X (.ref e) m₂ ((e, .exc (.ref c) .none) :: H₂)) X) X)
    (hplain : (backTo cpos (starEach args fx.env)).any (·.1) = false := by rfl) : EX C A fx (.Raise (some (.Call (.Name x np) args [] cpos)) none pos) m H Q X := by
  intro s S
  refine hide fun z275 => ?_
  obtain ⟨bm, N, nm, q, bs, hdct, sn, sub, ab, col, dd, k0, k1, k2, k3, k5, mN, hC, hN, hni, TL⟩ := F.obj
  refine z275 ?_
  refine wpAny_Raise_call_subT (C := c) (nm := nm) (q := q) (N := N) (bs := bs) (bm := bm) (hdct := hdct) (sn := sn) (sub := sub) (ab := ab) (col := col) (dd := dd) (k0 := k0) (k1 := k1) (k2 := k2) (k3 := k3) (k5 := k5)
    F.facts (mN := mN) (TL.hasType F.facts.hasBase) hA hplain hni (wpAny_mono (hev s S) (fun v s₁ h₁ => ?_) fun v s₁ h₁ => h₁)
  refine hide fun z276 => ?_
  obtain ⟨m₁, H₁, S₁, E₁, q1, h₁⟩ := h₁
  refine z276 ?_
  refine ⟨er_eq_ref q1, wpAny_mono (h₁ (.ref c) s₁ S₁) (fun a s₂ h₂ => ?_) fun v s₂ h₂ => ?_⟩
  · refine hide fun z277 => ?_
    obtain ⟨m₂, H₂, S₂, E₂, hkw, hlen, hX⟩ := h₂
    refine z277 ?_
    rw [List.length_map] at hlen
    refine ⟨hkw, by rw [sizeLine_eq]; omega, S₂.base _ _ hC, hN.keeps S₂.base, TL.keeps S₂.base, fun h' e hm => ?_⟩
    refine hide fun z278 => ?_
    obtain ⟨t, he, htn, ht⟩ := hm.there
    obtain ⟨S₃, E₃⟩ := S₂.new (s' := { s₂ with heap := h' }) (ao := .exc (.ref c) .none) hm.new hm.keeps he ⟨rfl, _, _, rfl, rfl, rfl⟩
    refine z278 ?_
    exact ⟨m₂, _, S₃, E₁.trans (E₂.trans E₃), hX e fun hk => by
      refine hide fun z279 => ?_
      obtain ⟨p, hp, rfl⟩ := List.mem_map.mp hk
      obtain ⟨o, ho, _⟩ := S₂.cells p hp
      refine z279 ?_
      rw [hm.new] at ho; cases ho⟩
  · refine hide fun z280 => ?_
    obtain ⟨m₂, H₂, S₂, E₂, q⟩ := h₂
    refine z280 ?_
    exact ⟨m₂, H₂, S₂, E₁.trans E₂, q⟩
end
end Mine

namespace Mine
set_option maxRecDepth 100000
open PySem PySem.W PyProof.Rows
open Sem (wp)
theorem lk_list_contains : typeLookup (.type "list") "__contains__" = pure (some (.builtin "list.__contains__")) := by rw [typeLookup_type, builtinLookup_eq_fast]; kernel_rfl
theorem lk_li_next : typeLookup (.type "list_iterator") "__next__" = pure (some (.builtin "list_iterator.__next__")) := by rw [typeLookup_type, builtinLookup_eq_fast]; kernel_rfl
theorem ty_list_contains : typeOf (.builtin "list.__contains__") = pure (.type "wrapper_descriptor") := by
  simp only [typeOf, builtinType]
  rw [show withoutEnding? "list.__contains__" "#opaque" = none by decide +kernel, show withoutEnding? "list.__contains__" "#data" = none by decide +kernel, show builtinKind "list.__contains__" = some .slot by decide +kernel]
  rfl
theorem ty_li_next : typeOf (.builtin "list_iterator.__next__") = pure (.type "wrapper_descriptor") := by
  simp only [typeOf, builtinType]
  rw [show withoutEnding? "list_iterator.__next__" "#opaque" = none by decide +kernel, show withoutEnding? "list_iterator.__next__" "#data" = none by decide +kernel, show builtinKind "list_iterator.__next__" = some .slot by decide +kernel]
  rfl
theorem slot_wd_get : Slot "wrapper_descriptor" "__get__" "wrapper_descriptor.__get__" :=
  Slot.of (owner := "wrapper_descriptor") (n := "__get__") (by rw [typeLookup_type, builtinLookup_eq_fast]; kernel_rfl) (by decide +kernel) (by decide +kernel) (by decide +kernel) (.inl (by decide +kernel)) (by rw [isSubtype_type]; kernel_rfl)
theorem entry_wd_get : entryFor table "wrapper_descriptor.__get__" = some Builtin.«wrapper_descriptor.__get__» := entryFor_of_fast (by kernel_rfl)
theorem slot_li_ga : Slot "list_iterator" "__getattribute__" "object.__getattribute__" :=
  Slot.of (owner := "object") (n := "__getattribute__") (by rw [typeLookup_type, builtinLookup_eq_fast]; kernel_rfl) (by decide +kernel) (by decide +kernel) (by decide +kernel) (.inl (by decide +kernel)) (by rw [isSubtype_type]; kernel_rfl)
theorem entry_obj_ga : entryFor table "object.__getattribute__" = some Builtin.«object.__getattribute__» := entryFor_of_fast (by kernel_rfl)
theorem args_obj_ga (a b : Value) : argsOk "object.__getattribute__" ⟨[a, b], []⟩ := by unfold argsOk; kernel_rfl
theorem args_wd_get (a b c : Value) : argsOk "wrapper_descriptor.__get__" ⟨[a, b, c], []⟩ := by unfold argsOk; kernel_rfl
theorem owner_lc : (".".intercalate ("list.__contains__".cutAt '.').dropLast) = "list" := by decide +kernel
theorem sub_lc : isSubtype (.type "list") (.type (".".intercalate ("list.__contains__".cutAt '.').dropLast)) = pure true := by rw [owner_lc, isSubtype_type]; kernel_rfl
theorem owner_ln : (".".intercalate ("list_iterator.__next__".cutAt '.').dropLast) = "list_iterator" := by decide +kernel
theorem sub_ln : isSubtype (.type "list_iterator") (.type (".".intercalate ("list_iterator.__next__".cutAt '.').dropLast)) = pure true := by rw [owner_ln, isSubtype_type]; kernel_rfl
theorem lk_wd_set : typeLookup (.type "wrapper_descriptor") "__set__" = pure none := by rw [typeLookup_type, builtinLookup_eq_fast]; kernel_rfl
theorem lk_wd_del : typeLookup (.type "wrapper_descriptor") "__delete__" = pure none := by rw [typeLookup_type, builtinLookup_eq_fast]; kernel_rfl

section
variable {prog : Program} {w : World} {A : Around} {E : Value → Shared → Prop} {h : Heap} {g : Array GenState} {d : Drawn} {t : Nat} {os : OsState} {a : Addr} {o : Obj}
noncomputable def wrapObj (id : String) (a : Addr) : Obj := { cls := .type "method-wrapper", data := .fields #[.builtin id, .ref a] }
theorem cont_get {R : Result → Shared → Prop} (hx : h.get? a = some o) (hc : o.cls = .type "list") (hq : R (.ok (.ret (.ref h.objs.size))) ⟨h.push (wrapObj "list.__contains__" a), g, d, t, os⟩) :
    codeAny (model prog w) A (.call (.builtin "wrapper_descriptor.__get__") ⟨[.builtin "list.__contains__", .ref a, .type "list"], []⟩) R ⟨h, g, d, t, os⟩ := by
  have hT : (⟨h, g, d, t, os⟩ : Shared).TypeIs (.ref a) "list" := ⟨_, hx, hc⟩
  have hT5 : (⟨h, g, d, t, os⟩ : Shared).TypeIs (.builtin "list.__contains__") "wrapper_descriptor" := ty_list_contains
  have f8 := sub_lc
  refine codeAny_call_builtin slot_wd_get.plain entry_wd_get (slot_wd_get.check _ _ _ _ _ _ _ _ hT5 (args_wd_get _ _ _) ?_)
  unfold Builtin.«wrapper_descriptor.__get__»
  repeat (any_goals (first | assumption | wp_step))
theorem cont_entry {tk : Tok} {Q : Fin → Shared → Prop} (hx : h.get? a = some o) (hc : o.cls = .type "list") (hd : o.dict = none) (hdat : ∃ vs n, o.data = .seq vs n) (hq : Q (.done (.ret (.ref h.objs.size))) ⟨h.push (wrapObj "list.__contains__" a), g, d, t, os⟩) :
    wpAny (model prog w) A (Builtin.«object.__getattribute__» ⟨[.ref a, .str "__contains__" tk], []⟩) Q E ⟨h, g, d, t, os⟩ := by
  have hT : (⟨h, g, d, t, os⟩ : Shared).TypeIs (.ref a) "list" := ⟨_, hx, hc⟩
  have hT5 : (⟨h, g, d, t, os⟩ : Shared).TypeIs (.builtin "list.__contains__") "wrapper_descriptor" := ty_list_contains
  refine hide fun z281 => ?_
  obtain ⟨vs, n, hdat⟩ := hdat
  obtain ⟨oc, od, odd, osl⟩ := o
  refine z281 ?_
  dsimp only at hc hd hdat
  subst hc hd hdat
  have f4 := lk_list_contains
  have f5 := ty_list_contains
  have f6 := slot_wd_get.lookup
  have f7 := lk_wd_set
  have f8 := lk_wd_del
  repeat (any_goals (first | assumption | wp_step))
  refine cont_get hx rfl ?_
  repeat (any_goals (first | assumption | wp_step))
theorem cont_by {tk : Tok} {Q : Value → Shared → Prop} (hx : h.get? a = some o) (hc : o.cls = .type "list") (hd : o.dict = none) (hdat : ∃ vs n, o.data = .seq vs n) (hq : Q (.ref h.objs.size) ⟨h.push (wrapObj "list.__contains__" a), g, d, t, os⟩) :
    wpAny (model prog w) A (getAttrBy (.ref a) (.str "__contains__" tk) true true) Q E ⟨h, g, d, t, os⟩ := by
  have hT : (⟨h, g, d, t, os⟩ : Shared).TypeIs (.ref a) "list" := ⟨_, hx, hc⟩
  have f2 := F.slot_list_getattribute.lookup
  have f3 := F.slot_list_getattribute.bind (.ref a)
  unfold getAttrBy
  repeat (any_goals (first | assumption | wp_step))
  refine codeAny_call_builtin F.slot_list_getattribute.plain F.entry_list_ga (F.slot_list_getattribute.check _ _ _ _ _ _ _ _ (show (⟨h, g, d, t, os⟩ : Shared).TypeIs (.ref a) "list" from ⟨_, hx, hc⟩) (F.args_list_getattribute_2 _ _) (cont_entry hx hc hd hdat ?_))
  repeat (any_goals (first | assumption | wp_step))
theorem cont_attr {Q : Value → Shared → Prop} (hx : h.get? a = some o) (hc : o.cls = .type "list") (hd : o.dict = none) (hdat : ∃ vs n, o.data = .seq vs n) (hq : Q (.ref h.objs.size) ⟨h.push (wrapObj "list.__contains__" a), g, d, t + 1, os⟩) :
    wpAny (model prog w) A (getAttr (.ref a) "__contains__" true) Q E ⟨h, g, d, t, os⟩ := by
  unfold getAttr
  repeat (any_goals (first | assumption | with_reducible apply cont_by hx hc hd hdat | wp_step))

theorem next_get {R : Result → Shared → Prop} (hx : h.get? a = some o) (hc : o.cls = .type "list_iterator") (hq : R (.ok (.ret (.ref h.objs.size))) ⟨h.push (wrapObj "list_iterator.__next__" a), g, d, t, os⟩) :
    codeAny (model prog w) A (.call (.builtin "wrapper_descriptor.__get__") ⟨[.builtin "list_iterator.__next__", .ref a, .type "list_iterator"], []⟩) R ⟨h, g, d, t, os⟩ := by
  have hT : (⟨h, g, d, t, os⟩ : Shared).TypeIs (.ref a) "list_iterator" := ⟨_, hx, hc⟩
  have hT5 : (⟨h, g, d, t, os⟩ : Shared).TypeIs (.builtin "list_iterator.__next__") "wrapper_descriptor" := ty_li_next
  have f8 := sub_ln
  refine codeAny_call_builtin slot_wd_get.plain entry_wd_get (slot_wd_get.check _ _ _ _ _ _ _ _ hT5 (args_wd_get _ _ _) ?_)
  unfold Builtin.«wrapper_descriptor.__get__»
  repeat (any_goals (first | assumption | wp_step))
theorem next_entry {tk : Tok} {Q : Fin → Shared → Prop} (hx : h.get? a = some o) (hc : o.cls = .type "list_iterator") (hd : o.dict = none) (hdat : ∃ vs, o.data = .fields vs) (hq : Q (.done (.ret (.ref h.objs.size))) ⟨h.push (wrapObj "list_iterator.__next__" a), g, d, t, os⟩) :
    wpAny (model prog w) A (Builtin.«object.__getattribute__» ⟨[.ref a, .str "__next__" tk], []⟩) Q E ⟨h, g, d, t, os⟩ := by
  have hT : (⟨h, g, d, t, os⟩ : Shared).TypeIs (.ref a) "list_iterator" := ⟨_, hx, hc⟩
  have hT5 : (⟨h, g, d, t, os⟩ : Shared).TypeIs (.builtin "list_iterator.__next__") "wrapper_descriptor" := ty_li_next
  refine hide fun z282 => ?_
  obtain ⟨vs, hdat⟩ := hdat
  obtain ⟨oc, od, odd, osl⟩ := o
  refine z282 ?_
  dsimp only at hc hd hdat
  subst hc hd hdat
  have f4 := lk_li_next
  have f5 := ty_li_next
  have f6 := slot_wd_get.lookup
  have f7 := lk_wd_set
  have f8 := lk_wd_del
  repeat (any_goals (first | assumption | wp_step))
  refine next_get hx rfl ?_
  repeat (any_goals (first | assumption | wp_step))
theorem next_by {tk : Tok} {Q : Value → Shared → Prop} (hx : h.get? a = some o) (hc : o.cls = .type "list_iterator") (hd : o.dict = none) (hdat : ∃ vs, o.data = .fields vs) (hq : Q (.ref h.objs.size) ⟨h.push (wrapObj "list_iterator.__next__" a), g, d, t, os⟩) :
    wpAny (model prog w) A (getAttrBy (.ref a) (.str "__next__" tk) true true) Q E ⟨h, g, d, t, os⟩ := by
  have hT : (⟨h, g, d, t, os⟩ : Shared).TypeIs (.ref a) "list_iterator" := ⟨_, hx, hc⟩
  have f2 := slot_li_ga.lookup
  have f3 := slot_li_ga.bind (.ref a)
  unfold getAttrBy
  repeat (any_goals (first | assumption | wp_step))
  refine codeAny_call_builtin slot_li_ga.plain entry_obj_ga (slot_li_ga.check _ _ _ _ _ _ _ _ (show (⟨h, g, d, t, os⟩ : Shared).TypeIs (.ref a) "list_iterator" from ⟨_, hx, hc⟩) (args_obj_ga _ _) (next_entry hx hc hd hdat ?_))
  repeat (any_goals (first | assumption | wp_step))
theorem next_attr {Q : Value → Shared → Prop} (hx : h.get? a = some o) (hc : o.cls = .type "list_iterator") (hd : o.dict = none) (hdat : ∃ vs, o.data = .fields vs) (hq : Q (.ref h.objs.size) ⟨h.push (wrapObj "list_iterator.__next__" a), g, d, t + 1, os⟩) :
    wpAny (model prog w) A (getAttr (.ref a) "__next__" true) Q E ⟨h, g, d, t, os⟩ := by
  unfold getAttr
  repeat (any_goals (first | assumption | with_reducible apply next_by hx hc hd hdat | wp_step))
end
end Mine

namespace Mine
open PySem PySem.W PyProof.Rows
open Sem (wp)
open PySem.SeqAt

section
variable {α : Type} {C : Cfg} {A A' : Around} {fx fx' : Fx} {m m' m₁ : Lo} {H H' H₁ R : AH} {X : Value → Lo → AH → Prop} {K : Frag} {s s' s₁ : Shared} {e : Addr} {Q : Value → Lo → AH → Prop}
variable {I l w : Addr} {xs : List Value} {i : Nat} {v : Value}

theorem none_new (S : St C A fx m H s) {a : Addr} (h : s.heap.get? a = none) : a ∉ H.keys := fun hk => by
  refine hide fun z283 => ?_
  obtain ⟨p, hp, rfl⟩ := List.mem_map.mp hk
  obtain ⟨o, ho, _⟩ := S.cells p hp
  refine z283 ?_
  rw [h] at ho; cases ho
theorem flds2 {cls a b : Value} (S : St C A fx m H s) (h : (I, AO.flds cls [a, b]) ∈ H) : ∃ o r q, s.heap.get? I = some o ∧ o.cls = cls ∧ o.dict = none ∧ o.slots = #[] ∧ o.data = .fields #[r, q] ∧ er r = a ∧ er q = b := by
  refine hide fun z284 => ?_
  obtain ⟨o, ho, hc, ⟨h1, h2⟩, ws, hd, hw⟩ := S.get h
  obtain ⟨ls, rfl⟩ : ∃ ls, ws = List.toArray ls := ⟨ws.toList, rfl⟩
  obtain ⟨r, q, e, e1, e2⟩ := er2 hw
  refine z284 ?_
  simp only at e
  subst e
  exact ⟨o, r, q, ho, hc, h1, h2, hd, e1, e2⟩
theorem write2 {cls a b : Value} (S : St C A fx m H s) (h : (I, AO.flds cls [a, b]) ∈ H) {o : Obj} {r q : Value} (ho : s.heap.get? I = some o) (hc : o.cls = cls) (h1 : o.dict = none) (h2 : o.slots = #[]) (hd : o.data = .fields #[r, q]) (f : Array Value → Array Value) {a' b' : Value}
    (hf : (f #[r, q]).toList.map er = [a', b']) : St C A fx m (H.put I (.flds cls [a', b'])) { s with heap := s.heap.update I (Obj.mapFields f) } ∧ Ext A fx H s (H.put I (.flds cls [a', b'])) { s with heap := s.heap.update I (Obj.mapFields f) } := by
  refine hide fun z285 => ?_
  obtain ⟨oc, od, odd, osl⟩ := o
  refine z285 ?_
  dsimp only at hc h1 h2 hd
  subst hc h1 h2 hd
  exact S.write h (Heap.SameBut.update ..) (Heap.get?_update_self _ ho rfl) ⟨rfl, ⟨rfl, rfl⟩, _, rfl, hf⟩

theorem stop_new {Q : α → Lo → AH → Prop} (hA : A.handled = none) (h : ∀ e, e ∉ H.keys → X (.ref e) m ((e, .exc (.type "StopIteration") .none) :: H)) : AW C A fx (do raiseNew (← newExc (.type "StopIteration") [])) m H Q X := by
  intro s S
  refine wpAny_bind ?_
  simp only [newExc, newTuple]
  refine wpAny_bind (wpAny_newObj_type ?_ (by size_fits))
  refine wpAny_bind (m := firstArgMember _ _) (wpAny_of_eq (a := Value.none) (by first | rfl | (simp only [firstArgMember]; rfl)) ?_)
  refine wpAny_newObj_type ?_ (by size_fits)
  obtain ⟨S₁, E₁⟩ := S.keeps (s' := { s with heap := s.heap.push { cls := .type "tuple", data := .seq #[] } }) (fun b o e => Heap.get?_push_of_some _ e)
  have hn : s.heap.get? (s.heap.push { cls := .type "tuple", data := .seq #[] }).objs.size = none := none_of_le (by rw [Heap.size_push]; exact Nat.le_succ _)
  obtain ⟨S₂, E₂⟩ := S₁.push (o := { cls := .type "StopIteration", data := .fields (#[.ref s.heap.objs.size, .none, .none, .none, .bool false, .none] ++ ownMembersOf (.type "StopIteration") []) }) (ao := .exc (.type "StopIteration") .none) ⟨rfl, #[.ref s.heap.objs.size, .none, .none, .none, .bool false, .none] ++ ownMembersOf (.type "StopIteration") [], .ref s.heap.objs.size, rfl, by rw [Array.getElem?_append_left (by simp)]; rfl, by rw [Array.getElem?_append_left (by simp)]; rfl⟩
  refine wpAny_raiseNew_none hA ⟨m, _, S₂, E₁.trans E₂, h _ (none_new S hn)⟩

theorem li_item {Q : Fin → Lo → AH → Prop} (hI : (I, AO.flds (.type "list_iterator") [.ref l, vI i]) ∈ H) (hl : (l, AO.list xs) ∈ H) (hx : xs[i]? = some v) (h : ∀ r, er r = v → Q (.done (.ret r)) m (H.put I (.flds (.type "list_iterator") [.ref l, vI (i + 1 : Nat)]))) :
    AW C A fx (Builtin.«list_iterator.__next__» ⟨[.ref I], []⟩) m H Q X := by
  intro s S
  refine hide fun z286 => ?_
  obtain ⟨o, r, q, ho, hc, h1, h2, hd, er1, er2⟩ := flds2 S hI
  refine z286 ?_
  obtain rfl := er_eq_ref er1
  refine hide fun z287 => ?_
  obtain ⟨t, rfl⟩ := er_eq_int er2
  obtain ⟨vs, ⟨ol, hol, hlc, nl, hdl⟩, hvs⟩ := S.isList hl
  obtain ⟨r, e1, e2⟩ := er_get hvs hx
  refine z287 ?_
  show wpAny _ _ (field (.ref I) 0 >>= _) _ _ s
  refine wpAny_bind (wpAny_field ho hd (x := .ref l) rfl ?_)
  show wpAny _ _ (if (Value.ref l == Value.none) = true then _ else _) _ _ s
  rw [if_neg (show ¬ ((Value.ref l == Value.none) = true) from Bool.false_ne_true)]
  show wpAny _ _ (field (.ref I) 1 >>= _) _ _ s
  refine wpAny_bind (wpAny_field ho hd (x := .int i t) rfl ?_)
  show wpAny _ _ (seqItems? (.ref l) >>= _) _ _ s
  refine wpAny_bind (wpAny_seqItems hol hdl ?_)
  simp only [Int.toNat_natCast, e1]
  obtain ⟨S', E'⟩ := write2 S hI ho hc h1 h2 hd (·.setIfInBounds 1 (rawInt ((i : Int) + 1))) (a' := .ref l) (b' := vI (i + 1 : Nat)) (by simp [rawInt])
  exact wpAny_bind (wpAny_setField ho hd (by simp) (wpAny_pure ⟨m, _, S', E', h r e2⟩))
theorem li_end {Q : Fin → Lo → AH → Prop} (hA : A.handled = none) (hI : (I, AO.flds (.type "list_iterator") [.ref l, vI i]) ∈ H) (hl : (l, AO.list xs) ∈ H) (hx : xs[i]? = none)
    (h : ∀ e, e ∉ H.keys → X (.ref e) m ((e, .exc (.type "StopIteration") .none) :: H.put I (.flds (.type "list_iterator") [.none, vI i]))) : AW C A fx (Builtin.«list_iterator.__next__» ⟨[.ref I], []⟩) m H Q X := by
  intro s S
  refine hide fun z288 => ?_
  obtain ⟨o, r, q, ho, hc, h1, h2, hd, er1, er2⟩ := flds2 S hI
  refine z288 ?_
  obtain rfl := er_eq_ref er1
  refine hide fun z289 => ?_
  obtain ⟨t, rfl⟩ := er_eq_int er2
  obtain ⟨vs, ⟨ol, hol, hlc, nl, hdl⟩, hvs⟩ := S.isList hl
  refine z289 ?_
  have e1 : vs[i]? = none := by
    have hsz := size_of_er hvs
    have := List.getElem?_eq_none_iff.mp hx
    exact Array.getElem?_eq_none_iff.mpr (by omega)
  show wpAny _ _ (field (.ref I) 0 >>= _) _ _ s
  refine wpAny_bind (wpAny_field ho hd (x := .ref l) rfl ?_)
  show wpAny _ _ (if (Value.ref l == Value.none) = true then _ else _) _ _ s
  rw [if_neg (show ¬ ((Value.ref l == Value.none) = true) from Bool.false_ne_true)]
  show wpAny _ _ (field (.ref I) 1 >>= _) _ _ s
  refine wpAny_bind (wpAny_field ho hd (x := .int i t) rfl ?_)
  show wpAny _ _ (seqItems? (.ref l) >>= _) _ _ s
  refine wpAny_bind (wpAny_seqItems hol hdl ?_)
  simp only [Int.toNat_natCast, e1]
  obtain ⟨S', E'⟩ := write2 S hI ho hc h1 h2 hd (·.setIfInBounds 0 .none) (a' := .none) (b' := vI i) (by simp)
  refine wpAny_bind (wpAny_rule (wpAny_bind (wpAny_setField ho hd (by simp) ?_)))
  refine wpAny_mono (stop_new (α := PySem.Fin) (Q := Q) (X := X) hA (fun e he => h e (by rwa [AH.keys_put] at he)) _ S') (fun _ s₂ h₂ => ?_) fun v s₂ h₂ => ?_ <;> (obtain ⟨m₂, H₂, S₂, E₂, q⟩ := h₂; exact ⟨m₂, H₂, S₂, E'.trans E₂, q⟩)

theorem call_wrap {id : String} {b : Builtin} (hw : (w, AO.flds (.type "method-wrapper") [.builtin id, .ref I]) ∈ H) (hc : ∀ vs : List Value, vs.map er = xs → checkBoundCall id ⟨.ref I :: vs, []⟩ = pure ()) (hp : plainId id = true) (hb : entryFor table id = some b)
    (h : ∀ vs s, vs.map er = xs → St C A fx m H s → wpAny (model C.prog C.w) A.in1 (b ⟨.ref I :: vs, []⟩) (fun fin s' => match fin with
      | .done f => callR C A fx H s Q X (.ok f) s'
      | .again c' => c'.quiet = true ∧ codeAny (model C.prog C.w) A c' (callR C A fx H s Q X) s') (fun e s' => callR C A fx H s Q X (.error e) s') s) : CALLC C A fx (.ref w) xs m H Q X := by
  intro g vs hg hvs s S
  obtain rfl := er_eq_ref hg
  refine hide fun z290 => ?_
  obtain ⟨o, r, q, ho, hc', h1, h2, hd, e1, e2⟩ := flds2 S hw
  refine z290 ?_
  obtain rfl := er_eq_builtin e1
  obtain rfl := er_eq_ref e2
  have hchk := hc vs hvs
  have hfin := h vs s hvs S
  show codeAny _ _ _ (callR C A fx H s Q X) s
  refine codeAny_of_tree ?_
  show wpAny _ _ (callAny (.ref w) _) _ _ _
  unfold callAny
  refine wpAny_bind (wpAny_load ho ?_)
  rw [hd]
  dsimp only
  rw [hc', if_pos (by decide)]
  refine wpAny_ite_split (fun _ => ?_) (fun z => absurd rfl z)
  refine wpAny_bind (wpAny_of_eq hchk ?_)
  refine wpAny_pure ⟨plainId_quiet hp _, codeAny_builtin hb ?_⟩
  rw [Around.under_plainId hp]
  exact hfin
theorem aw_callR {t : Sem Fin} {A' : Around} (hfr : A'.frames = A.frames) (S : St C A fx m H s) (h : AW C A' fx t m H (fun fin m' H' => ∃ r, fin = .done (.ret r) ∧ Q (er r) m' H') X) :
    wpAny (model C.prog C.w) A' t (fun fin s' => match fin with
      | .done f => callR C A fx H s Q X (.ok f) s'
      | .again c' => c'.quiet = true ∧ codeAny (model C.prog C.w) A c' (callR C A fx H s Q X) s') (fun e s' => callR C A fx H s Q X (.error e) s') s := by
  refine wpAny_mono (h s (S.inA hfr)) (fun fin s' h' => ?_) fun v s' h' => ?_
  · refine hide fun z291 => ?_
    obtain ⟨m', H', S', E', r, rfl, q⟩ := h'
    refine z291 ?_
    exact ⟨m', H', S'.inA hfr.symm, E'.inA hfr.symm, q⟩
  · refine hide fun z292 => ?_
    obtain ⟨m', H', S', E', q⟩ := h'
    refine z292 ?_
    exact ⟨m', H', S'.inA hfr.symm, E'.inA hfr.symm, q⟩

theorem chk_next (I : Addr) : checkBoundCall "list_iterator.__next__" ⟨[.ref I], []⟩ = pure () := by kernel_rfl
theorem chk_contains (l : Addr) (x : Value) : checkBoundCall "list.__contains__" ⟨[.ref l, x], []⟩ = pure () := by kernel_rfl
theorem er0 {vs : List Value} (h : vs.map er = []) : vs = [] := List.map_eq_nil_iff.mp h
theorem call_wnext (hw : (w, AO.flds (.type "method-wrapper") [.builtin "list_iterator.__next__", .ref I]) ∈ H) (hI : (I, AO.flds (.type "list_iterator") [.ref l, vI i]) ∈ H) (hl : (l, AO.list xs) ∈ H) (hx : xs[i]? = some v)
    (h : Q v m (H.put I (.flds (.type "list_iterator") [.ref l, vI (i + 1 : Nat)]))) : CALLC C A fx (.ref w) [] m H Q X :=
  call_wrap hw (fun vs hvs => by obtain rfl := er0 hvs; exact chk_next I) slot_listiter_next.plain entry_listiter_next fun vs s hvs S => by
    obtain rfl := er0 hvs
    exact aw_callR rfl S (li_item hI hl hx fun r hr => ⟨r, rfl, by rw [hr]; exact h⟩)
theorem call_wnext_end (hA : A.handled = none) (hw : (w, AO.flds (.type "method-wrapper") [.builtin "list_iterator.__next__", .ref I]) ∈ H) (hI : (I, AO.flds (.type "list_iterator") [.ref l, vI i]) ∈ H) (hl : (l, AO.list xs) ∈ H) (hx : xs[i]? = none)
    (h : ∀ e, e ∉ H.keys → X (.ref e) m ((e, .exc (.type "StopIteration") .none) :: H.put I (.flds (.type "list_iterator") [.none, vI i]))) : CALLC C A fx (.ref w) [] m H Q X :=
  call_wrap hw (fun vs hvs => by obtain rfl := er0 hvs; exact chk_next I) slot_listiter_next.plain entry_listiter_next fun vs s hvs S => by
    obtain rfl := er0 hvs
    exact aw_callR rfl S (li_end hA hI hl hx h)

theorem call_iter_l (hl : (l, AO.list xs) ∈ H) (h : ∀ I, I ∉ H.keys → Q (.ref I) m ((I, .flds (.type "list_iterator") [.ref l, vI 0]) :: H)) : CALL C A fx (.builtin "iter") [.ref l] m H Q X := fun g vs hg hvs => by
  obtain rfl := er_eq_builtin hg
  refine hide fun z293 => ?_
  obtain ⟨a, rfl, ha⟩ := er1 hvs
  refine z293 ?_
  obtain rfl := er_eq_ref ha
  intro s S
  refine hide fun z294 => ?_
  obtain ⟨vs, h1, h2⟩ := S.isList hl
  refine z294 ?_
  refine PySem.Calls.call_function_entry (by decide +kernel) (by decide +kernel) kdk_entry_iter (kdk_args_iter _) ?_
  unfold Builtin.«iter»
  refine wpAny_bind (m := someArgs "iter" 1 2 _) (wpAny_of_eq (a := [Value.ref l]) (by first | rfl | kernel_rfl!) ?_)
  show wpAny _ _ (pyIter (.ref l) >>= _) _ _ _
  refine wpAny_bind (wpAny_pyIter_list h1 ?_)
  obtain ⟨S', E'⟩ := S.push (o := { cls := .type "list_iterator", data := .fields #[.ref l, .int 0 0] }) (ao := .flds (.type "list_iterator") [.ref l, vI 0]) ⟨rfl, ⟨rfl, rfl⟩, _, rfl, rfl⟩
  exact wpAny_pure ⟨_, rfl, m, _, S', E', h _ (none_new S (none_of_le (Nat.le_refl _)))⟩
theorem next_core (hI : (I, AO.flds (.type "list_iterator") [.ref l, vI i]) ∈ H) (h : AW C A.in1.in1 fx (Builtin.«list_iterator.__next__» ⟨[.ref I], []⟩) m H (fun fin m' H' => ∃ r, fin = .done (.ret r) ∧ Q (er r) m' H') X) : CALL C A fx (.builtin "next") [.ref I] m H Q X := fun g vs hg hvs => by
  obtain rfl := er_eq_builtin hg
  refine hide fun z295 => ?_
  obtain ⟨a, rfl, ha⟩ := er1 hvs
  refine z295 ?_
  obtain rfl := er_eq_ref ha
  intro s S
  refine hide fun z296 => ?_
  obtain ⟨o, r, q, ho, hc, h1, h2, hd, er1, er2⟩ := flds2 S hI
  refine z296 ?_
  have hT : s.TypeIs (.ref I) "list_iterator" := ⟨o, ho, hc⟩
  refine PySem.Calls.call_function_entry (by decide +kernel) (by decide +kernel) kdk_entry_next (kdk_args_next _) ?_
  unfold Builtin.«next»
  refine wpAny_bind (m := someArgs "next" 1 2 _) (wpAny_of_eq (a := [Value.ref I]) (by first | rfl | kernel_rfl!) ?_)
  dsimp only
  refine wpAny_bind (wpAny_specialOf (name := Str.ofString "__next__") hT slot_listiter_next.lookup ?_)
  refine wpAny_ite_split (fun hab => absurd hab (by decide)) (fun _ => ?_)
  refine wpAny_bind (wpAny_callSpecial?_slot (name := Str.ofString "__next__") hT slot_listiter_next (wpAny_call_entry slot_listiter_next hT entry_listiter_next ?_ (args_listiter_next _)))
  refine wpAny_mono (h s (S.inA rfl)) (fun fin s' h' => ?_) fun v s' h' => ?_
  · refine hide fun z297 => ?_
    obtain ⟨m', H', S', E', r, rfl, q⟩ := h'
    refine z297 ?_
    exact ⟨r, rfl, wpAny_pure ⟨_, rfl, m', H', S'.inA rfl, E'.inA rfl, q⟩⟩
  · refine hide fun z298 => ?_
    obtain ⟨m', H', S', E', q⟩ := h'
    refine z298 ?_
    exact ⟨m', H', S'.inA rfl, E'.inA rfl, q⟩
theorem call_next (hI : (I, AO.flds (.type "list_iterator") [.ref l, vI i]) ∈ H) (hl : (l, AO.list xs) ∈ H) (hx : xs[i]? = some v) (h : Q v m (H.put I (.flds (.type "list_iterator") [.ref l, vI (i + 1 : Nat)]))) : CALL C A fx (.builtin "next") [.ref I] m H Q X :=
  next_core hI (li_item hI hl hx fun r hr => ⟨r, rfl, by rw [hr]; exact h⟩)
theorem call_next_end (hA : A.handled = none) (hI : (I, AO.flds (.type "list_iterator") [.ref l, vI i]) ∈ H) (hl : (l, AO.list xs) ∈ H) (hx : xs[i]? = none)
    (h : ∀ e, e ∉ H.keys → X (.ref e) m ((e, .exc (.type "StopIteration") .none) :: H.put I (.flds (.type "list_iterator") [.none, vI i]))) : CALL C A fx (.builtin "next") [.ref I] m H Q X :=
  next_core hI (li_end hA hI hl hx h)

theorem ga_wnext {a b : Value} (hI : (I, AO.flds (.type "list_iterator") [a, b]) ∈ H) (h : ∀ w, w ∉ H.keys → Q (.ref w) m ((w, .flds (.type "method-wrapper") [.builtin "list_iterator.__next__", .ref I]) :: H)) : GA C A fx (.ref I) "__next__" m H Q X := fun x hx => by
  obtain rfl := er_eq_ref hx
  intro s S
  refine hide fun z299 => ?_
  obtain ⟨o, r, q, ho, hc, h1, h2, hd, _, _⟩ := flds2 S hI
  obtain ⟨S', E'⟩ := S.push (o := wrapObj "list_iterator.__next__" I) (ao := .flds (.type "method-wrapper") [.builtin "list_iterator.__next__", .ref I]) ⟨rfl, ⟨rfl, rfl⟩, _, rfl, rfl⟩
  obtain ⟨hp, g, d, tk, os⟩ := s
  refine z299 ?_
  have S₂ := S'.toks (tk + 1)
  exact next_attr ho hc h1 ⟨_, hd⟩ ⟨m, _, S₂.1, E'.trans S₂.2, h _ (none_new S (none_of_le (Nat.le_refl _)))⟩
theorem ga_wcontains (hl : (l, AO.list xs) ∈ H) (h : ∀ w, w ∉ H.keys → Q (.ref w) m ((w, .flds (.type "method-wrapper") [.builtin "list.__contains__", .ref l]) :: H)) : GA C A fx (.ref l) "__contains__" m H Q X := fun x hx => by
  obtain rfl := er_eq_ref hx
  intro s S
  refine hide fun z300 => ?_
  obtain ⟨o, ho, hc, ⟨h1, h2⟩, vs, n, hd, hv⟩ := S.get hl
  obtain ⟨S', E'⟩ := S.push (o := wrapObj "list.__contains__" l) (ao := .flds (.type "method-wrapper") [.builtin "list.__contains__", .ref l]) ⟨rfl, ⟨rfl, rfl⟩, _, rfl, rfl⟩
  obtain ⟨hp, g, d, tk, os⟩ := s
  refine z300 ?_
  have S₂ := S'.toks (tk + 1)
  exact cont_attr ho hc h1 ⟨_, _, hd⟩ ⟨m, _, S₂.1, E'.trans S₂.2, h _ (none_new S (none_of_le (Nat.le_refl _)))⟩

noncomputable def EQV (C : Cfg) (H : AH) (x y : Value) (b : Bool) : Prop := ∀ A fx m s, St C A fx m H s → A.units + 64 < cLine → ∀ a a', er a = x → er a' = y → EqAt A s a a' b
theorem EQV.int (i j : Int) : EQV C H (vI i) (vI j) (i == j) := fun A fx m s S _ a a' ha ha' => by
  refine hide fun z301 => ?_
  obtain ⟨t, rfl⟩ := er_eq_int ha
  obtain ⟨u, rfl⟩ := er_eq_int ha'
  refine z301 ?_
  exact EqAt.int_int i t j u
theorem call_wcontains {e : Value → Bool} {ys : List Value} {x : Value} (hA : A.units + 70 < cLine) (hw : (w, AO.flds (.type "method-wrapper") [.builtin "list.__contains__", .ref l]) ∈ H) (hl : (l, AO.list ys) ∈ H) (he : ∀ y ∈ ys, EQV C H y x (e y)) (h : Q (.bool (ys.any e)) m H) :
    CALLC C A fx (.ref w) [x] m H Q X :=
  call_wrap hw (fun vs hvs => by obtain ⟨a, rfl, _⟩ := er1 hvs; exact chk_contains l a) PySem.F.slot_list_contains.plain PySem.F.entry_list_contains fun vs s hvs S => by
    refine hide fun z302 => ?_
    obtain ⟨a, rfl, ha⟩ := er1 hvs
    obtain ⟨o, ho, hc, ⟨h1, h2⟩, us, n, hd, hu⟩ := S.get hl
    obtain ⟨oc, od, odd, osl⟩ := o
    refine z302 ?_
    dsimp only at hc h1 h2 hd
    subst hc h1 h2 hd
    refine (list_containsAt l us n none #[] a (fun r => e (er r))) C.prog C.w A (callR C A fx H s Q X) s ⟨ho, fun r hr => ?_, m, H, S, Ext.refl' S, ?_⟩
    · exact he (er r) (by rw [← hu]; exact List.mem_map_of_mem (by simpa using hr)) A.in1 fx m s (S.inA rfl) (by show A.units + _ + 64 < cLine; omega) r a rfl ha
    · show Q (.bool _) m H
      have : us.any (fun r => e (er r)) = ys.any e := by rw [← hu, List.any_map, ← Array.any_toList]; rfl
      rw [this]; exact h
end
end Mine

namespace Mine
open PySem PySem.W PyProof.Rows
open Sem (wp)

section
variable {α : Type} {C : Cfg} {A A' : Around} {fx fx' : Fx} {m m' m₁ : Lo} {H H' H₁ R : AH} {X : Value → Lo → AH → Prop} {K : Frag} {s s' s₁ : Shared} {e : Addr} {Q : Value → Lo → AH → Prop}
variable {x dx cl f D : Addr} {fs : List (PySem.Str × Value)} {sl : List (Option Value)} {xs : List Value}

noncomputable def ownIn (K : Frag) (cl : Addr) (n : PySem.Str) (f : Addr) : Bool := findIn K (.ref cl) n == some (some (.ref f)) && typeIn K (.ref f) == some (.type "function")

theorem aw_iter_own {T : Top C K} {g : Value} (hi : ownIn K cl "__iter__" f = true) (hn : findIn K (.ref cl) "__next__" = some (some g)) (hx : (x, AO.inst cl (some dx) sl) ∈ H) (hd : (dx, AO.ns fs) ∈ H)
    (h : CALL C A fx (.ref f) [.ref x] m H (fun v m' H' => v = .ref x ∧ (∃ sl', (x, AO.inst cl (some dx) sl') ∈ H') ∧ (∃ fs', (dx, AO.ns fs') ∈ H') ∧ Q (.ref x) m' H') X) : AW C A fx (pyIter (.ref x)) m H (fun v => Q (er v)) X := by
  intro s S
  refine hide fun z303 => ?_
  obtain ⟨ox, od, I, h2, h3, h4, h5⟩ := S.inst hx hd
  refine z303 ?_
  unfold ownIn at hi
  simp only [Bool.and_eq_true, beq_iff_eq] at hi
  obtain ⟨k1, k2⟩ := hi
  have KX := T.X.keeps S.base
  have key : wpAny (model C.prog C.w) A (call (.ref f) [.ref x]) (fun v s' => v = .ref x ∧ wpAny (model C.prog C.w) A (specialOf v "__next__") (fun r s₂ => match r with
      | none => False
      | some _ => Po C A fx H s (fun v => Q (er v)) v s₂)
      (Po C A fx H s X) s') (Po C A fx H s X) s := by
    refine wpAny_mono (h (.ref f) [.ref x] rfl rfl s S) (fun v s' h' => ?_) fun _ _ z => z
    refine hide fun z304 => ?_
    obtain ⟨m', H', S', E', q1, ⟨sl', hx'⟩, ⟨fs', hd'⟩, q⟩ := h'
    refine z304 ?_
    obtain rfl := er_eq_ref q1
    refine hide fun z305 => ?_
    obtain ⟨ox', od', I', _⟩ := S'.inst hx' hd'
    refine z305 ?_
    exact ⟨rfl, wpAny_bind (I'.type.here ((looks_findIn (T.X.keeps S'.base) hn).here ⟨m', H', S', E', q⟩))⟩
  have one : ∀ refuse : Sem Value, wpAny (model C.prog C.w) A (callSpecialIfBoundUnlessNone? (.ref x) "__iter__" refuse) (fun r s' => ∃ v, r = some v ∧ v = .ref x ∧ wpAny (model C.prog C.w) A (specialOf v "__next__") (fun r s₂ => match r with
      | none => False
      | some _ => Po C A fx H s (fun v => Q (er v)) v s₂)
      (Po C A fx H s X) s') (Po C A fx H s X) s := by
    intro refuse
    simp only [callSpecialIfBoundUnlessNone?, bindSpecialIfBound?]
    refine wpAny_holding (wpAny_bind (wpAny_bind (wpAny_bind (I.type.here ((looks_findIn KX k1).here ?_)))))
    refine wpAny_bind (wpAny_askSetting (wpAny_ite ?_))
    have fin : wpAny (model C.prog C.w) A (if (Value.ref f == Value.none) = true then (refuse >>= fun v => pure (some v)) else (call (.ref f) [.ref x] >>= fun v => pure (some v)))
      (fun r s' => ∃ v, r = some v ∧ v = .ref x ∧ wpAny (model C.prog C.w) A (specialOf v "__next__") (fun r s₂ => match r with
      | none => False
      | some _ => Po C A fx H s (fun v => Q (er v)) v s₂)
      (Po C A fx H s X) s') (Po C A fx H s X) s := by
      rw [if_neg (show ¬ ((Value.ref f == Value.none) = true) from Bool.false_ne_true)]
      exact wpAny_bind (wpAny_mono key (fun v s' h' => wpAny_pure ⟨v, rfl, h'⟩) fun _ _ z => z)
    split
    · exact wpAny_bind ((bind_fn KX _ k2).here (wpAny_pure (by exact fin)))
    · exact wpAny_tryCatch (wpAny_bind ((bind_fn KX _ k2).here (wpAny_pure (by exact fin))))
  unfold pyIter
  refine wpAny_bind (wpAny_bind (I.type.here ((looks_findIn KX k1).here ?_)))
  show wpAny _ _ (callSpecialIfBoundUnlessNone? (.ref x) "__iter__" _ >>= _) _ _ s
  refine wpAny_bind (wpAny_mono (one _) (fun r s' hr => ?_) fun _ _ z => z)
  refine hide fun z306 => ?_
  obtain ⟨v, rfl, rfl, hv⟩ := hr
  refine z306 ?_
  refine wpAny_bind (wpAny_mono hv (fun r s₂ h₂ => ?_) fun _ _ z => z)
  cases r with
  | none => exact h₂.elim
  | some g => exact wpAny_pure h₂

theorem isSub_stop : isSubtype (.type "StopIteration") (.type "StopIteration") = pure true := isSubtype_stop
theorem aw_next_own {T : Top C K} {Qs : Value → Lo → AH → Prop} {Qn : Lo → AH → Prop} (hn : ownIn K cl "__next__" f = true) (hx : (x, AO.inst cl (some dx) sl) ∈ H) (hd : (dx, AO.ns fs) ∈ H)
    (h : CALL C A fx (.ref f) [.ref x] m H Qs (fun v m' H' => ∃ e R fl, v = .ref e ∧ ExnT e (.type "StopIteration") fl R H' ∧ Qn m' R)) : AW C A fx (pyNext (.ref x)) m H (fun r m' H' => match r with | some v => Qs (er v) m' H' | none => Qn m' H') X := by
  intro s S
  refine hide fun z307 => ?_
  obtain ⟨ox, od, I, h2, h3, h4, h5⟩ := S.inst hx hd
  refine z307 ?_
  unfold ownIn at hn
  simp only [Bool.and_eq_true, beq_iff_eq] at hn
  obtain ⟨k1, k2⟩ := hn
  unfold pyNext
  refine wpAny_bind (wpAny_attempt (special_fn (name := "__next__") (args := []) (T.X.keeps S.base) I k1 k2 (wpAny_mono (h (.ref f) [.ref x] rfl rfl s S) (fun v s' h' => ?_) fun v s' h' => ?_)))
  · refine hide fun z308 => ?_
    obtain ⟨m', H', S', E', q⟩ := h'
    refine z308 ?_
    exact wpAny_pure ⟨m', H', S', E', q⟩
  · refine hide fun z309 => ?_
    obtain ⟨m', H', S', E', e, R, fl, rfl, ⟨T', rfl⟩, q⟩ := h'
    obtain ⟨oe, h1, hc, _⟩ := S'.get List.mem_cons_self
    refine z309 ?_
    have hT : s'.TypeIs (.ref e) "StopIteration" := ⟨oe, h1, hc⟩
    refine wpAny_bind (wpAny_isInstance hT isSub_stop ?_)
    rw [if_pos rfl]
    obtain ⟨S₂, E₂⟩ := S'.sub (H' := R) (fun p hp => List.mem_cons_of_mem _ (List.mem_cons_of_mem _ hp)) (List.nodup_cons.mp (List.nodup_cons.mp S'.nodup).2).2
    exact wpAny_pure ⟨m', R, S₂, E'.trans E₂, q⟩

noncomputable def updR (C : Cfg) (A : Around) (fx : Fx) (H : AH) (s : Shared) (Fi : Lo → AH → Prop) (X : Value → Lo → AH → Prop) (res : Value) : Result → Shared → Prop := fun r s' => match r with
  | .ok (.ret v) => v = res ∧ Po C A fx H s (fun _ : Unit => Fi) () s'
  | .ok _ => False
  | .error e => Po C A fx H s X e s'
theorem ext_loop {res : Value} {Fi : Lo → AH → Prop} {H₀ : AH} {s₀ : Shared} (J : Nat → Lo → AH → Prop)
    (turn : ∀ n m H, J n m H → AW C A.in1 fx (pyNext (.ref x)) m H (fun r m' H' => match r with
      | none => Fi m' H'
      | some v => ∃ acc k, k < n ∧ (D, AO.list acc) ∈ H' ∧ acc.length < 1000000 ∧ J k m' (H'.put D (.list (acc ++ [er v])))) X) :
    ∀ n m H s, J n m H → St C A fx m H s → Ext A fx H₀ s₀ H s → codeAny (model C.prog C.w) A (.builtin "list.extend.loop" ⟨[.ref D, .ref x, res], []⟩) (updR C A fx H₀ s₀ Fi X res) s := by
  intro n
  induction n using Nat.strongRecOn with
  | ind n ih =>
    intro m H s hJ S E
    refine codeAny_builtin F.entry_extend_loop ?_
    rw [Around.under_plainId F.plain_extend_loop _]
    show wpAny _ A.in1 (pyNext (.ref x) >>= _) _ _ s
    refine wpAny_bind (wpAny_mono (turn n m H hJ s (S.inA rfl)) (fun r s₁ h₁ => ?_) fun v s₁ h₁ => ?_)
    · refine hide fun z310 => ?_
      obtain ⟨m₁, H₁, S₁, E₁, q⟩ := h₁
      refine z310 ?_
      cases r with
      | none => exact wpAny_pure ⟨rfl, m₁, H₁, S₁.inA rfl, E.trans (E₁.inA rfl), q⟩
      | some v =>
        refine hide fun z311 => ?_
        obtain ⟨acc, k, hk, hD, hz, q⟩ := q
        obtain ⟨vs, c, h1, h2⟩ := S₁.isL hD
        refine z311 ?_
        have hsz := size_of_er h2
        obtain ⟨S₂, E₂⟩ := write_list S₁ hD h1 (·.push v) (ys := acc ++ [er v]) (by rw [Array.toList_push, List.map_append, h2]; rfl) s₁.toks
        show wpAny _ A.in1 (updateSeq D (·.push v) >>= _) _ _ _
        refine wpAny_bind (wpAny_updateSeq h1 rfl (wpAny_pure ⟨plainId_quiet F.plain_extend_loop _, ?_⟩) (by rw [hsz, sizeLine_eq]; omega) (by rw [Array.size_push, hsz, sizeLine_eq]; omega))
        exact ih k hk m₁ _ _ q (S₂.inA rfl) (E.trans ((E₁.trans E₂).inA rfl))
    · refine hide fun z312 => ?_
      obtain ⟨m₁, H₁, S₁, E₁, q⟩ := h₁
      refine z312 ?_
      exact ⟨m₁, H₁, S₁.inA rfl, E.trans (E₁.inA rfl), q⟩

noncomputable def noLen (K : Frag) (cl : Addr) : Bool := findIn K (.ref cl) "__len__" == some none && findIn K (.ref cl) "__length_hint__" == some none
theorem call_list_own {T : Top C K} {g : Value} (J : Addr → Nat → Lo → AH → Prop) (n : Nat) (hi : ownIn K cl "__iter__" f = true) (hn : findIn K (.ref cl) "__next__" = some (some g)) (hl : noLen K cl = true) (hx : (x, AO.inst cl (some dx) sl) ∈ H) (hd : (dx, AO.ns fs) ∈ H)
    (h0 : ∀ D, D ∉ H.keys → CALL C A.in1.in1 fx (.ref f) [.ref x] m ((D, .list []) :: H) (fun v m' H' => v = .ref x ∧ (∃ sl', (x, AO.inst cl (some dx) sl') ∈ H') ∧ (∃ fs', (dx, AO.ns fs') ∈ H') ∧ (D, .list []) ∈ H' ∧ J D n m' (H'.put D (.list []))) X)
    (turn : ∀ D, D ∉ H.keys → ∀ n m H, J D n m H → AW C A.in1.in1 fx (pyNext (.ref x)) m H (fun r m' H' => match r with
      | none => Q (.ref D) m' H'
      | some v => ∃ acc k, k < n ∧ (D, AO.list acc) ∈ H' ∧ acc.length < 1000000 ∧ J D k m' (H'.put D (.list (acc ++ [er v])))) X) : CALL C A fx (.type "list") [.ref x] m H Q X := fun g' vs hg hvs => by
  obtain rfl := er_eq_type hg
  refine hide fun z313 => ?_
  obtain ⟨a, rfl, ha⟩ := er1 hvs
  refine z313 ?_
  obtain rfl := er_eq_ref ha
  intro s S
  have hD : s.heap.objs.size ∉ H.keys := none_new S (none_of_le (Nat.le_refl _))
  obtain ⟨S₁, E₁⟩ := S.push (o := { cls := .type "list", data := .seq #[] }) (ao := .list []) ⟨rfl, ⟨rfl, rfl⟩, _, _, rfl, rfl⟩
  unfold noLen at hl
  simp only [Bool.and_eq_true, beq_iff_eq] at hl
  obtain ⟨l1, l2⟩ := hl
  generalize hDe : s.heap.objs.size = D at *
  refine callType_codes (Q₁ := fun obj s₁ => obj = .ref D ∧ s₁ = { s with heap := s.heap.push { cls := .type "list", data := .seq #[] } }) F.called_list (F.typeCall_list_1 _) F.entry_list_init
    (code_list_new _ ⟨by rw [hDe], rfl⟩) fun obj s₁ h₁ => ?_
  refine hide fun z314 => ?_
  obtain ⟨rfl, rfl⟩ := h₁
  obtain ⟨vs₀, c₀, g1, g2⟩ := S₁.isL List.mem_cons_self
  refine z314 ?_
  refine ⟨⟨_, g1, rfl⟩, F.args_list_init_2 _ _, ?_⟩
  show wpAny _ A.in1.in1 (do let old ← Builtin.List.listItems (.ref D); Builtin.List.listUpdate (.ref D) (fun _ => #[]); letGo old.toList.reverse; Builtin.List.listExtendWith (.ref D) (.ref x) .none) _ _ _
  have hsz₀ := size_of_er g2
  refine wpAny_bind ?_
  unfold Builtin.List.listItems
  refine wpAny_bind (wpAny_seqItems g1 rfl (wpAny_pure ?_))
  show wpAny _ A.in1.in1 (updateSeq D (fun _ => #[]) >>= fun _ => letGo vs₀.toList.reverse >>= fun _ => Builtin.List.listExtendWith (.ref D) (.ref x) .none) _ _ _
  refine wpAny_bind (wpAny_updateSeq g1 rfl ?_ (by rw [hsz₀, sizeLine_eq]; simp) (by rw [sizeLine_eq]; simp))
  obtain ⟨S₂, E₂⟩ := write_list S₁ List.mem_cons_self g1 (fun _ => #[]) (ys := []) rfl s.toks
  have hput : AH.put ((D, AO.list []) :: H) D (.list []) = (D, .list []) :: H := by
    unfold AH.put
    rw [List.map_cons, if_pos rfl]
    congr 1
    rw [List.map_congr_left (g := id), List.map_id]
    intro p hp
    exact if_neg fun q => hD (by rw [← q]; exact mem_keys hp)
  rw [hput] at S₂ E₂
  refine wpAny_bind (wpAny_letGo ?_)
  unfold Builtin.List.listExtendWith
  have hxD : x ≠ D := fun q => hD (q ▸ mem_keys hx)
  refine hide fun z315 => ?_
  obtain ⟨ox, od, I, _⟩ := S₂.inst (List.mem_cons_of_mem _ hx) (List.mem_cons_of_mem _ hd)
  refine z315 ?_
  refine wpAny_bind (I.type.here ?_)
  have h1 : Builtin.List.listSameRef (.ref D) (.ref x) = false := by simp [Builtin.List.listSameRef, Ne.symm hxD]
  rw [if_neg (by rw [h1]; simp)]
  have E₁₂ := E₁.trans E₂
  refine wpAny_bind (wpAny_mono (aw_iter_own (T := T) (A := A.in1.in1) (Q := fun y m' H' => y = .ref x ∧ (∃ sl', (x, AO.inst cl (some dx) sl') ∈ H') ∧ (∃ fs', (dx, AO.ns fs') ∈ H') ∧ (D, AO.list []) ∈ H' ∧ J D n m' (H'.put D (.list []))) hi hn (List.mem_cons_of_mem _ hx) (List.mem_cons_of_mem _ hd)
    (fun g vs hg hvs => aw_mono (h0 D hD g vs hg hvs) (fun v m' H' q => ⟨q.1, q.2.1, q.2.2.1, rfl, q.2.1, q.2.2⟩) fun _ _ _ q => q) _ (S₂.inA rfl)) (fun it s₃ h₃ => ?_) fun v s₃ h₃ => ?_)
  rotate_left
  · refine hide fun z316 => ?_
    obtain ⟨m₃, H₃, S₃, E₃, q⟩ := h₃
    refine z316 ?_
    exact ⟨m₃, H₃, S₃.inA rfl, E₁₂.trans (E₃.inA rfl), q⟩
  refine hide fun z317 => ?_
  obtain ⟨m₃, H₃, S₃, E₃, hit, ⟨sl', hx'⟩, ⟨fs', hd'⟩, hD', hJ⟩ := h₃
  refine z317 ?_
  obtain rfl := er_eq_ref hit
  refine wpAny_bind (wpAny_holding ?_)
  unfold Builtin.List.listLengthHint
  have KX₃ := T.X.keeps S₃.base
  refine hide fun z318 => ?_
  obtain ⟨ox₃, od₃, I₃, _⟩ := S₃.inst hx' hd'
  refine z318 ?_
  refine wpAny_bind (wpAny_bind (I₃.type.here ((looks_findIn KX₃ l1).here ?_)))
  refine wpAny_bind (wpAny_bind (I₃.type.here ((looks_findIn KX₃ l2).here ?_)))
  refine wpAny_pure ?_
  show wpAny _ A.in1.in1 (rule "list.extend.makes-room" >>= fun _ => Builtin.List.listTouch (.ref D) >>= fun _ =>
    again (.builtin "list.extend.loop" ⟨[.ref D, .ref x, .none], []⟩)) _ _ _
  refine wpAny_bind (wpAny_rule ?_)
  refine wpAny_bind ?_
  show wpAny _ _ (updateSeq D (·.push .none) >>= fun _ => updateSeq D (·.pop)) _ _ _
  refine hide fun z319 => ?_
  obtain ⟨vs₃, c₃, r1, r2⟩ := S₃.isL hD'
  refine z319 ?_
  have hvs₃ : vs₃ = #[] := by
    obtain ⟨ls, rfl⟩ : ∃ ls, vs₃ = List.toArray ls := ⟨vs₃.toList, rfl⟩
    have := List.map_eq_nil_iff.mp r2
    simp only at this
    rw [this]
  subst hvs₃
  refine wpAny_bind (wpAny_updateSeq r1 rfl ?_ (by rw [sizeLine_eq]; simp) (by rw [sizeLine_eq]; simp))
  have hS₂ := Heap.get?_update_self (Obj.mapSeq (·.push Value.none)) r1 rfl
  refine wpAny_updateSeq hS₂ rfl ?_ (by rw [sizeLine_eq]; simp) (by rw [sizeLine_eq]; simp)
  obtain ⟨S₄, E₄⟩ := S₃.write (s' := { s₃ with heap := (s₃.heap.update D (Obj.mapSeq (·.push Value.none))).update D (Obj.mapSeq (·.pop)) }) hD' (Heap.SameBut.trans (Heap.SameBut.update ..) (Heap.SameBut.update ..)) (Heap.get?_update_self (Obj.mapSeq (·.pop)) hS₂ rfl) (ao' := .list []) ⟨rfl, ⟨rfl, rfl⟩, _, _, rfl, rfl⟩
  refine wpAny_pure ⟨plainId_quiet F.plain_extend_loop _, ?_⟩
  have S₄' : St C A.in1 fx m₃ _ _ := S₄.inA rfl
  have E₄' : Ext A.in1 fx H s _ _ := (E₁₂.trans ((E₃.trans E₄).inA rfl)).inA rfl
  refine codeAny_mono (ext_loop (A := A.in1) (D := D) (x := x) (Fi := Q (.ref D)) (J D) (turn D hD) n m₃ _ _ hJ S₄' E₄') fun r s' hr => ?_
  cases r with
  | error e =>
    refine hide fun z320 => ?_
    obtain ⟨m', H', S', E', q⟩ := hr
    refine z320 ?_
    exact ⟨m', H', S'.inA rfl, E'.inA rfl, q⟩
  | ok fl =>
    cases fl with
    | ret v =>
      refine hide fun z321 => ?_
      obtain ⟨rfl, m', H', S', E', q⟩ := hr
      refine z321 ?_
      exact ⟨rfl, m', H', S'.inA rfl, E'.inA rfl, q⟩
    | next => exact hr
    | brk => exact hr
    | cont => exact hr
end
end Mine

namespace Mine
open PySem PySem.W PyProof.Rows
open Sem (wp)

section
variable {α : Type} {C : Cfg} {A A' : Around} {fx fx' : Fx} {m m' m₁ : Lo} {H H' H₁ R : AH} {X : Value → Lo → AH → Prop} {K : Frag} {s s' s₁ : Shared} {e : Addr}

noncomputable def passX (L : Addr) (X : Value → Lo → AH → Prop) : Value → Lo → AH → Prop := fun v m H => ∃ e cls R, v = .ref e ∧ Exn L e cls R H ∧ ∀ H', ExnT e cls (rawInt L) R H' → X (.ref e) m H'
theorem passX_back (hh : Here A fx) {v : Value} (S₁ : St C A fx m₁ H₁ s₁) (S : St C A fx m H s) (E : Ext A fx H₁ s₁ H s) (h : passX fx.env.locals X v m H) :
    notedBy (model C.prog C.w) A fx.env (cameBackBy (model C.prog C.w) A fx.env (Po C A fx H₁ s₁ X)) v s := by
  refine hide fun z322 => ?_
  obtain ⟨e, cls, R, rfl, hx, hX⟩ := h
  refine z322 ?_
  unfold notedBy
  refine wpAny_mono (aw_note (X := fun _ _ _ => False) (Q := fun _ m' H' => m' = m ∧ ExnT e cls (rawInt fx.env.locals) R H') hh hx (fun H' h' => ⟨rfl, h'⟩) s S) (fun _ s₂ h₂ => ?_) fun v s₂ h₂ => ?_
  · refine hide fun z323 => ?_
    obtain ⟨m₂, H₂, S₂, E₂, rfl, q⟩ := h₂
    refine z323 ?_
    unfold cameBackBy
    refine wpAny_mono (aw_back (X := fun _ _ _ => False) (Q := fun _ m' H' => m' = m₂ ∧ ExnT e cls (rawInt fx.env.locals) R H') hh q (fun H' h' => ⟨rfl, h'⟩) s₂ S₂) (fun _ s₃ h₃ => ?_) fun v s₃ h₃ => ?_
    · refine hide fun z324 => ?_
      obtain ⟨m₃, H₃, S₃, E₃, rfl, q⟩ := h₃
      refine z324 ?_
      exact ⟨m₃, H₃, S₃, E.trans (E₂.trans E₃), hX H₃ q⟩
    · obtain ⟨_, _, _, _, z⟩ := h₃; exact z.elim
  · obtain ⟨_, _, _, _, z⟩ := h₂; exact z.elim

theorem ex_whileX {Q : Flow → Lo → AH → Prop} {t : PySem.Expr} {body orelse : List Stmt} {pos : Pos} (hh : Here A fx) (I : Nat → Lo → AH → Prop) (n : Nat) (h0 : I n m H)
    (turn : ∀ n m H, I n m H → IT C A fx t m H (fun b m₁ H₁ => if b = true then EXS C A fx body m₁ H₁ (loopPost Q (fun m₂ H₂ => ∃ k, k < n ∧ I k m₂ H₂)) (passX fx.env.locals X) else EXS C A fx orelse m₁ H₁ Q (passX fx.env.locals X)) (passX fx.env.locals X)) : EX C A fx (.While t body orelse pos) m H Q X := by
  show AW C A fx (exec _ _) m H _ X
  rw [arm_exec_While]
  refine aw_bind (aw_standAt ?_)
  intro s₁ S₁
  refine wpAny_runOwn (codeAny_whileLoop (Po C A fx H s₁ I) ?_ n ⟨m, H, S₁, Ext.refl' S₁, h0⟩)
  intro n s hY2
  refine hide fun z325 => ?_
  obtain ⟨m', H', S, E, hI⟩ := hY2
  refine z325 ?_
  refine wpAny_mono (turn n m' H' hI s S) (fun b s₂ h₂ => ?_) fun _ _ h₂ => ?_
  · refine hide fun z326 => ?_
    obtain ⟨m₂, H₂, S₂, E₂, q₂⟩ := h₂
    refine z326 ?_
    cases b with
    | true =>
      rw [if_pos rfl] at q₂ ⊢
      refine wpAny_mono (q₂ s₂ S₂) (fun f s₃ h₃ => ?_) fun _ _ h₃ => ?_
      · refine hide fun z327 => ?_
        obtain ⟨m₃, H₃, S₃, E₃, q₃⟩ := h₃
        refine z327 ?_
        have EE := E.trans (E₂.trans E₃)
        cases f with
        | next => obtain ⟨k, hk, q⟩ := q₃; exact ⟨k, hk, m₃, H₃, S₃, EE, q⟩
        | cont => obtain ⟨k, hk, q⟩ := q₃; exact ⟨k, hk, m₃, H₃, S₃, EE, q⟩
        | brk => exact ⟨m₃, H₃, S₃, EE, q₃⟩
        | ret v => exact ⟨m₃, H₃, S₃, EE, q₃⟩
      · refine hide fun z328 => ?_
        obtain ⟨m₃, H₃, S₃, E₃, q₃⟩ := h₃
        refine z328 ?_
        exact passX_back hh S₁ S₃ (E.trans (E₂.trans E₃)) q₃
    | false =>
      rw [if_neg (by decide)] at q₂ ⊢
      refine wpAny_mono (q₂ s₂ S₂) (fun f s₃ h₃ => ?_) fun _ _ h₃ => ?_
      · refine hide fun z329 => ?_
        obtain ⟨m₃, H₃, S₃, E₃, q₃⟩ := h₃
        refine z329 ?_
        exact ⟨m₃, H₃, S₃, E.trans (E₂.trans E₃), q₃⟩
      · refine hide fun z330 => ?_
        obtain ⟨m₃, H₃, S₃, E₃, q₃⟩ := h₃
        refine z330 ?_
        exact passX_back hh S₁ S₃ (E.trans (E₂.trans E₃)) q₃
  · refine hide fun z331 => ?_
    obtain ⟨m₂, H₂, S₂, E₂, q₂⟩ := h₂
    refine z331 ?_
    exact passX_back hh S₁ S₂ (E.trans E₂) q₂

noncomputable def leaveX (L : Addr) (X : Value → Lo → AH → Prop) (m₁ : Lo) : Value → Lo → AH → Prop := fun v _ H => ∃ e cls R, v = .ref e ∧ Exn L e cls R H ∧ ∀ H', ExnT e cls .none R H' → X (.ref e) m₁ H'
section
variable {f : Addr} {name qual : PySem.Str} {params : Arguments} {body : List Stmt} {scope : Scope} {dV kV doc pm cdv ct : Value} {an : Option Addr} {n : Nat} {Q : Value → Lo → AH → Prop}
theorem callX {fd : FuncData} {xs : List Value} (R : Room A (n + 1)) (F : FnAt C f fd body)
    (hb : ∀ vs, vs.map er = xs → AW C A.in1 fx (bindArgs fd ⟨vs, []⟩) m H (fun binds m₁ H₁ => BindOk fd binds ∧ ∀ A' fx', Room A' n → Here A' fx' → Sc fx' fd.scope fd.scope.names → EXS C A' fx' body (erB binds) H₁ (fun fl _ H₂ => Q (retV fl) m₁ H₂) (leaveX fx'.env.locals X m₁)) X) :
    CALLC C A fx (.ref f) xs m H Q X :=
  call_fn F R.lim fun vs hvs => aw_mono (hb vs hvs) (fun binds m₁ H₁ ⟨h1, h2⟩ => ⟨h1, fun fx' => leaveX fx'.env.locals X m₁, fun fx' I => h2 _ fx' R.deeper (Here.of I) I.sc, fun fx' I e m₂ H₂ hx => by
    refine hide fun z332 => ?_
    obtain ⟨e, cls, R, rfl, hx, hX⟩ := hx
    refine z332 ?_
    exact aw_leaving (Here.of I) hx hX⟩) fun _ _ _ q => q
theorem aw_newTup {vs : List Value} {Q : Value → Lo → AH → Prop} (hz : vs.length ≤ 1000000) (h : ∀ t, t ∉ H.keys → Q (.ref t) m ((t, .tup (vs.map er)) :: H)) : AW C A fx (newTuple vs) m H Q X := by
  intro s S
  refine wpAny_newObj_type ?_ (by show vs.toArray.size ≤ sizeLine; rw [List.size_toArray, sizeLine_eq]; omega)
  obtain ⟨S', E'⟩ := S.push (o := { cls := .type "tuple", data := .seq vs.toArray }) (ao := .tup (vs.map er)) ⟨rfl, ⟨rfl, rfl⟩, _, _, rfl, rfl⟩
  exact ⟨m, _, S', E', h _ (none_new S (none_of_le (Nat.le_refl _)))⟩

theorem call1x (R : Room A (n + 1)) (F : FnAt C f (fnOf name qual params body scope dV kV doc pm an cdv ct) body) {x : Value} (n1 : PySem.Str)
    (hb : ∀ a, bindArgs (fnOf name qual params body scope dV kV doc pm an cdv ct) ⟨[a], []⟩ = pure [(n1, a)]) (hB : namesB scope [n1] = true)
    (h : ∀ A' fx', Room A' n → Here A' fx' → Sc fx' scope scope.names → EXS C A' fx' body [(n1, x)] H (fun fl _ H₂ => Q (retV fl) m H₂) (leaveX fx'.env.locals X m)) : CALLC C A fx (.ref f) [x] m H Q X :=
  callX R F fun vs hvs => by
    refine hide fun z333 => ?_
    obtain ⟨a, rfl, ha⟩ := er1 hvs
    refine z333 ?_
    subst ha
    exact aw_binds (hb a) ⟨bindOk_of hB, h⟩
theorem call2x (R : Room A (n + 1)) (F : FnAt C f (fnOf name qual params body scope dV kV doc pm an cdv ct) body) {x y : Value} (n1 n2 : PySem.Str)
    (hb : ∀ a b, bindArgs (fnOf name qual params body scope dV kV doc pm an cdv ct) ⟨[a, b], []⟩ = pure [(n1, a), (n2, b)]) (hB : namesB scope [n1, n2] = true)
    (h : ∀ A' fx', Room A' n → Here A' fx' → Sc fx' scope scope.names → EXS C A' fx' body [(n1, x), (n2, y)] H (fun fl _ H₂ => Q (retV fl) m H₂) (leaveX fx'.env.locals X m)) : CALLC C A fx (.ref f) [x, y] m H Q X :=
  callX R F fun vs hvs => by
    refine hide fun z334 => ?_
    obtain ⟨a, b, rfl, ha, hb'⟩ := er2 hvs
    refine z334 ?_
    subst ha hb'
    exact aw_binds (hb a b) ⟨bindOk_of hB, h⟩
theorem callV1 (R : Room A (n + 1)) (F : FnAt C f (fnOf name qual params body scope dV kV doc pm an cdv ct) body) {x : Value} {rest : List Value} (n1 n2 : PySem.Str)
    (hb : ∀ a r, bindArgs (fnOf name qual params body scope dV kV doc pm an cdv ct) ⟨a :: r, []⟩ = (newTuple r >>= fun t => pure [(n1, a), (n2, t)])) (hB : namesB scope [n1, n2] = true) (hz : rest.length ≤ 1000000)
    (h : ∀ A' fx' t, t ∉ H.keys → Room A' n → Here A' fx' → Sc fx' scope scope.names → EXS C A' fx' body [(n1, x), (n2, .ref t)] ((t, .tup rest) :: H) (fun fl _ H₂ => Q (retV fl) m H₂) (leaveX fx'.env.locals X m)) : CALLC C A fx (.ref f) (x :: rest) m H Q X :=
  callX R F fun vs hvs => by
    rcases vs with _ | ⟨a, r⟩
    · cases hvs
    · obtain ⟨rfl, rfl⟩ := List.cons.inj hvs
      rw [hb]
      exact aw_bind (aw_newTup (by simpa using hz) fun t ht => aw_pure ⟨bindOk_of hB, fun A' fx' r1 r2 r3 => h A' fx' t ht r1 r2 r3⟩)
theorem callV2 (R : Room A (n + 1)) (F : FnAt C f (fnOf name qual params body scope dV kV doc pm an cdv ct) body) {x y : Value} {rest : List Value} (n1 n2 n3 : PySem.Str)
    (hb : ∀ a b r, bindArgs (fnOf name qual params body scope dV kV doc pm an cdv ct) ⟨a :: b :: r, []⟩ = (newTuple r >>= fun t => pure [(n1, a), (n2, b), (n3, t)])) (hB : namesB scope [n1, n2, n3] = true) (hz : rest.length ≤ 1000000)
    (h : ∀ A' fx' t, t ∉ H.keys → Room A' n → Here A' fx' → Sc fx' scope scope.names → EXS C A' fx' body [(n1, x), (n2, y), (n3, .ref t)] ((t, .tup rest) :: H) (fun fl _ H₂ => Q (retV fl) m H₂) (leaveX fx'.env.locals X m)) : CALLC C A fx (.ref f) (x :: y :: rest) m H Q X :=
  callX R F fun vs hvs => by
    rcases vs with _ | ⟨a, _ | ⟨b, r⟩⟩
    · cases hvs
    · cases hvs
    · simp only [List.map_cons, List.cons.injEq] at hvs
      refine hide fun z335 => ?_
      obtain ⟨rfl, rfl, rfl⟩ := hvs
      refine z335 ?_
      rw [hb]
      exact aw_bind (aw_newTup (by simpa using hz) fun t ht => aw_pure ⟨bindOk_of hB, fun A' fx' r1 r2 r3 => h A' fx' t ht r1 r2 r3⟩)
theorem callD {fd : FuncData} {xs : List Value} {T : Addr} {o : Obj} {items : Array Value} {c : Nat} (R : Room A (n + 1)) (F : FnAt C f fd body) (hd : fd.defaults = .ref T) (TT : Top C K) (ho : K.lookup T = some o) (hs : o.data = .seq items c) (binds : List Value → List (PySem.Str × Value))
    (hb : ∀ vs, vs.map er = xs → ∃ k, bindArgs fd ⟨vs, []⟩ = (seqItems? fd.defaults >>= k) ∧ k (some items) = pure (binds vs)) {bs : List (PySem.Str × Value)} (hB : ∀ vs, vs.map er = xs → BindOk fd (binds vs) ∧ erB (binds vs) = bs)
    (h : ∀ A' fx', Room A' n → Here A' fx' → Sc fx' fd.scope fd.scope.names → EXS C A' fx' body bs H (fun fl _ H₂ => Q (retV fl) m H₂) (leaveX fx'.env.locals X m)) : CALLC C A fx (.ref f) xs m H Q X :=
  callX R F fun vs hvs => by
    refine hide fun z336 => ?_
    obtain ⟨k, h1, h2⟩ := hb vs hvs
    obtain ⟨b1, b2⟩ := hB vs hvs
    refine z336 ?_
    intro s S
    exact (BindsTo.of_defaults hd (S.base _ _ (TT.X T o ho)) hs h1 h2) _ _ _ _ ⟨m, H, S, Ext.refl' S, b1, by rw [b2]; exact h⟩
end
end
end Mine

namespace Mine
open PySem PySem.W PyProof.Rows
open Sem (wp)

theorem Room.eq2 {A : Around} {n : Nat} (r : Room A n) : A.units + 100 < cLine := plus_lt (N := 9900) r.units rfl
theorem Room.in2 {A : Around} {n : Nat} (r : Room A (n + 1)) : Room A.in1.in1 n := ⟨up_N (k := 0) r.depth rfl, up_N (k := 2) r.units rfl, r.hand⟩

noncomputable def Wk (H H' : AH) : Prop := (∀ p ∈ H', p ∈ H) ∧ (H.keys.Nodup → H'.keys.Nodup)
noncomputable def WkL (m m' : Lo) : Prop := ∀ x v, (x, v) ∈ m' → (x, v) ∈ m
theorem Wk.refl {H : AH} : Wk H H := ⟨fun _ h => h, id⟩
theorem WkL.refl {m : Lo} : WkL m m := fun _ _ h => h
theorem Wk.trans {H H' H'' : AH} (a : Wk H H') (b : Wk H' H'') : Wk H H'' := ⟨fun p h => a.1 p (b.1 p h), fun h => b.2 (a.2 h)⟩
theorem Wk.sub {H H' : AH} (h : H'.Sublist H) : Wk H H' := ⟨fun p hp => h.subset hp, fun hn => hn.sublist (h.map _)⟩
theorem Wk.perm {H H' : AH} (h : H.Perm H') : Wk H H' := ⟨fun p hp => h.mem_iff.mpr hp, (h.map _).nodup_iff.mp⟩
theorem Wk.cons {H H' : AH} {p : Addr × AO} (a : Wk H H') : Wk (p :: H) H' := ⟨fun q h => List.mem_cons_of_mem _ (a.1 q h), fun h => a.2 (List.nodup_cons.mp h).2⟩
theorem Wk.keep {H H' : AH} {p : Addr × AO} (a : Wk H H') : Wk (p :: H) (p :: H') := by
  refine ⟨fun q h => ?_, fun h => ?_⟩
  · rcases List.mem_cons.mp h with rfl | h
    · exact List.mem_cons_self
    · exact List.mem_cons_of_mem _ (a.1 q h)
  · have := List.nodup_cons.mp h
    refine List.nodup_cons.mpr ⟨fun hm => this.1 ?_, a.2 this.2⟩
    refine hide fun z337 => ?_
    obtain ⟨q, hq, e⟩ := List.mem_map.mp hm
    refine z337 ?_
    rw [← e]
    exact mem_keys (a.1 q hq)
theorem Wk.swap {H : AH} {p q : Addr × AO} : Wk (p :: q :: H) (q :: p :: H) := Wk.perm (List.Perm.swap ..)
theorem WkL.cons {m m' : Lo} {p : PySem.Str × Value} (a : WkL m m') : WkL (p :: m) m' := fun x v h => List.mem_cons_of_mem _ (a x v h)

section
variable {α : Type} {C : Cfg} {A A' : Around} {fx fx' : Fx} {m m' m₁ : Lo} {H H' H₁ R : AH} {X : Value → Lo → AH → Prop} {K : Frag} {s s' s₁ : Shared} {e : Addr}
theorem St.wk (S : St C A fx m H s) (h : Wk H H') : St C A fx m H' s ∧ Ext A fx H s H' s := S.sub h.1 (h.2 S.nodup)
theorem aw_wk {t : Sem α} {Q : α → Lo → AH → Prop} (hm : WkL m m') (hH : Wk H H') (h : AW C A fx t m' H' Q X) : AW C A fx t m H Q X := by
  intro s S
  obtain ⟨S', E⟩ := (S.lo hm).wk hH
  refine wpAny_mono (h s S') (fun a s' h' => ?_) (fun e s' h' => ?_) <;> (obtain ⟨m₁, H₁, S₁, E₁, q⟩ := h'; exact ⟨m₁, H₁, S₁, E.trans E₁, q⟩)
theorem aw_wkp {t : Sem α} {Q : α → Lo → AH → Prop} (h : AW C A fx t m H (fun a m' H' => ∃ m'' H'', WkL m' m'' ∧ Wk H' H'' ∧ Q a m'' H'') (fun a m' H' => ∃ m'' H'', WkL m' m'' ∧ Wk H' H'' ∧ X a m'' H'')) : AW C A fx t m H Q X := by
  intro s S
  refine wpAny_mono (h s S) (fun a s' h' => ?_) (fun e s' h' => ?_) <;>
    (obtain ⟨m₁, H₁, S₁, E₁, m₂, H₂, hm, hH, q⟩ := h'; obtain ⟨S₂, E₂⟩ := (S₁.lo hm).wk hH; exact ⟨m₂, H₂, S₂, E₁.trans E₂, q⟩)
theorem callc_wkp {f : Value} {xs : List Value} {Q : Value → Lo → AH → Prop} (h : CALLC C A fx f xs m H (fun a m' H' => ∃ H'', Wk H' H'' ∧ Q a m' H'') (fun a m' H' => ∃ H'', Wk H' H'' ∧ X a m' H'')) : CALLC C A fx f xs m H Q X := fun g vs hg hvs s S =>
  codeAny_mono (h g vs hg hvs s S) fun r s' hr => by
    rcases r with e | (v | _ | _ | _)
    · obtain ⟨m₁, H₁, S₁, E₁, H₂, hH, q⟩ := hr; obtain ⟨S₂, E₂⟩ := S₁.wk hH; exact ⟨m₁, H₂, S₂, E₁.trans E₂, q⟩
    all_goals first | exact hr | (obtain ⟨m₁, H₁, S₁, E₁, H₂, hH, q⟩ := hr; obtain ⟨S₂, E₂⟩ := S₁.wk hH; exact ⟨m₁, H₂, S₂, E₁.trans E₂, q⟩)
theorem callc_wk {f : Value} {xs : List Value} {Q : Value → Lo → AH → Prop} (hH : Wk H H') (h : CALLC C A fx f xs m H' Q X) : CALLC C A fx f xs m H Q X := fun g vs hg hvs s S => by
  obtain ⟨S', E⟩ := S.wk hH
  exact codeAny_mono (h g vs hg hvs s S') fun r s' hr => by
    rcases r with e | (v | _ | _ | _)
    · obtain ⟨m₁, H₁, S₁, E₁, q⟩ := hr; exact ⟨m₁, H₁, S₁, E.trans E₁, q⟩
    all_goals first | exact hr | (obtain ⟨m₁, H₁, S₁, E₁, q⟩ := hr; exact ⟨m₁, H₁, S₁, E.trans E₁, q⟩)
theorem EQV.wk {x y : Value} {b : Bool} (h : EQV C H x y b) (hs : Wk H' H) : EQV C H' x y b := fun A fx m s S => h A fx m s (S.wk hs).1
theorem callc_nodup {f : Value} {xs : List Value} {Q : Value → Lo → AH → Prop} (h : H.keys.Nodup → CALLC C A fx f xs m H Q X) : CALLC C A fx f xs m H Q X := fun g vs hg hvs s S => h S.nodup g vs hg hvs s S

theorem ev_gl2 {sc : Scope} {os : List (PySem.Str × NameKind)} {x : PySem.Str} {pos : Pos} {v v' : Value} {Q : Value → Lo → AH → Prop} (T : Top C K) (Z : Sc fx sc os) (e : nsIn K mainGlobals x = some (some v)) (hk : sc.names.lookup x = some .globalImplicit) (he : er v = v') (h : Q v' m H)
    (hd : (x == ("__debug__" : PySem.Str)) = false := by decide) : EV C A fx (.Name x pos) m H Q X := ev_gl T Z e hk (he ▸ h) hd
theorem ev_bi2 {sc : Scope} {os : List (PySem.Str × NameKind)} {x : PySem.Str} {pos : Pos} {v v' : Value} {Q : Value → Lo → AH → Prop} (T : Top C K) (Z : Sc fx sc os) (e : nsIn K mainGlobals x = some none) (hk : sc.names.lookup x = some .globalImplicit) (hv : bootBuiltins x = some v) (hn : x ≠ "__name__") (he : er v = v') (h : Q v' m H)
    (hd : (x == ("__debug__" : PySem.Str)) = false := by decide) : EV C A fx (.Name x pos) m H Q X := ev_bi T Z e hk hv hn (he ▸ h) hd
theorem cw0 {f : Value} {es : List PySem.Expr} {pos : Pos} {Q : Value → Lo → AH → Prop} (h : EVA C A fx es pos m H (fun xs m₁ H₁ => KP C A fx f m₁ H₁ ∧ CALL C A fx f xs m₁ H₁ Q X) X) : CW C A fx f [] es pos m H Q X := cw h
theorem cw1 {f a : Value} {es : List PySem.Expr} {pos : Pos} {Q : Value → Lo → AH → Prop} (h : EVA C A fx es pos m H (fun xs m₁ H₁ => KP C A fx f m₁ H₁ ∧ CALL C A fx f (a :: xs) m₁ H₁ Q X) X) : CW C A fx f [a] es pos m H Q X := cw h
theorem Wk.put {H H' : AH} {a : Addr} {o : AO} (h : Wk H H') : Wk (H.put a o) (H'.put a o) := by
  refine ⟨fun p hp => ?_, fun hn => ?_⟩
  · refine hide fun z338 => ?_
    obtain ⟨q, hq, rfl⟩ := List.mem_map.mp hp
    refine z338 ?_
    exact List.mem_map.mpr ⟨q, h.1 q hq, rfl⟩
  · rw [AH.keys_put] at hn ⊢
    exact h.2 hn
theorem put_cons {H : AH} {a b : Addr} {o o' : AO} : AH.put ((b, o) :: H) a o' = (if b = a then (a, o') else (b, o)) :: AH.put H a o' := by
  unfold AH.put
  rw [List.map_cons]
theorem keys_cons {H : AH} {b : Addr} {o : AO} : AH.keys ((b, o) :: H) = b :: H.keys := rfl
theorem co_is_ref_none {r : Addr} {Q : Value → Lo → AH → Prop} (h : Q (.bool false) m H) : CO C A fx .Is (.ref r) .none m H Q X := co_is_none (fun _ q => nomatch q) (by simpa using h)
theorem co_is_none_none {Q : Value → Lo → AH → Prop} (h : Q (.bool true) m H) : CO C A fx .Is .none .none m H Q X := co_is_none (fun _ q => nomatch q) (by simpa using h)
theorem co_isnot_none_none {Q : Value → Lo → AH → Prop} (h : Q (.bool false) m H) : CO C A fx .IsNot .none .none m H Q X := co_isnot_none (fun _ q => nomatch q) (by simpa using h)
theorem put_head {a : Addr} {o o' : AO} (h : a ∉ H.keys) : AH.put ((a, o) :: H) a o' = (a, o') :: H := by
  unfold AH.put
  rw [List.map_cons, if_pos rfl]
  congr 1
  rw [List.map_congr_left (g := id), List.map_id]
  intro p hp
  exact if_neg fun q => h (by rw [← q]; exact mem_keys hp)
theorem put_none {a : Addr} {o' : AO} (h : a ∉ H.keys) : AH.put H a o' = H := by
  unfold AH.put
  rw [List.map_congr_left (g := id), List.map_id]
  intro p hp
  exact if_neg fun q => h (by rw [← q]; exact mem_keys hp)
end
end Mine

namespace Mine
open PySem PySem.W PyProof.Rows
open Sem (wp)

section
variable {α : Type} {C : Cfg} {A A' : Around} {fx fx' : Fx} {m m' m₁ : Lo} {H H' H₁ R : AH} {X : Value → Lo → AH → Prop} {K : Frag} {s s' s₁ : Shared} {Q : Value → Lo → AH → Prop}
variable {d : Addr} {ks : List Int} {k : Int}

theorem St.setOf (S : St C A fx m H s) (hd : (d, AO.set ks) ∈ H) : ∃ n, n ≤ ks.length ∧ s.heap.SetOf (intKind C.prog C.w) d (fun k => decide (k ∈ ks)) n := by
  refine hide fun z339 => ?_
  obtain ⟨o, ho, hx, es, ep, t, h1, h2, h3, h4, h5, h6⟩ := S.get hd
  refine z339 ?_
  exact ⟨es.size, h6, o, es, ep, t, ho, hx, h1, h2, h3, h4, h5, rfl⟩
theorem or_set {h : Heap} {n : Nat} (hS : h.SetOf (intKind C.prog C.w) d (fun k => decide (k ∈ ks)) n) (hn : n ≤ ks.length) : ∃ o, h.get? d = some o ∧ OR C o (.set ks) := by
  refine hide fun z340 => ?_
  obtain ⟨o, es, ep, t, ho, hx, h1, h2, h3, h4, h5, h6⟩ := hS
  refine z340 ?_
  exact ⟨o, ho, hx, es, ep, t, h1, h2, h3, h4, h5, by omega⟩
theorem call_set0 (h : ∀ a, a ∉ H.keys → Q (.ref a) m ((a, .set []) :: H)) : CALL C A fx (.type "set") [] m H Q X := fun g vs hg hvs => by
  obtain rfl := er_eq_type hg
  obtain rfl := er0 hvs
  intro s S
  refine call_set_0 fun led => ?_
  obtain ⟨S', E'⟩ := S.push (o := { cls := .type "set", dict := none, data := .set #[] 0 (.fresh 0 0 led) }) (ao := .set []) ⟨⟨rfl, rfl, rfl⟩, #[], 0, _, rfl, (fun e he => by simp at he), (fun k => by simp), (by decide), by rfl, Nat.le_refl _⟩
  exact ⟨m, _, S', E', h _ (none_new S (none_of_le (Nat.le_refl _)))⟩
theorem call_setadd (hd : (d, AO.set ks) ∈ H) (hz : ks.length < 4000) (h : Q .none m (H.put d (.set (k :: ks)))) : CALL C A fx (.builtin "set.add") [.ref d, vI k] m H Q X := fun g vs hg hvs => by
  obtain rfl := er_eq_builtin hg
  refine hide fun z341 => ?_
  obtain ⟨a, b, rfl, ha, hb⟩ := er2 hvs
  refine z341 ?_
  obtain rfl := er_eq_ref ha
  obtain ⟨t, rfl⟩ := er_eq_int hb
  intro s S
  refine hide fun z342 => ?_
  obtain ⟨n, hn, hS⟩ := S.setOf hd
  refine z342 ?_
  refine call_set_add (k := k) intKey rfl hS (by show n + 1 < 4096; omega) fun h' hs hS' => ?_
  have hS'' : h'.SetOf (intKind C.prog C.w) d (fun j => decide (j ∈ k :: ks)) (if decide (k ∈ ks) then n else n + 1) := by
    have e : (fun k' => decide (k' ∈ ks) || decide (k' = k)) = fun j => decide (j ∈ k :: ks) := by
      funext j
      rw [Bool.eq_iff_iff]
      simp [or_comm]
    rw [← e]; exact hS'
  obtain ⟨o', ho', hr'⟩ := or_set hS'' (by rw [List.length_cons]; split <;> omega)
  obtain ⟨S', E'⟩ := S.write (s' := { s with heap := h', toks := s.toks + 1 }) hd hs ho' hr'
  exact ⟨m, _, S', E', h⟩
theorem co_in_set (hd : (d, AO.set ks) ∈ H) (h : Q (.bool (decide (k ∈ ks))) m H) : CO C A fx .In (vI k) (.ref d) m H Q X := fun a b ha hb => by
  obtain ⟨t, rfl⟩ := er_eq_int ha
  obtain rfl := er_eq_ref hb
  intro s S
  refine hide fun z343 => ?_
  obtain ⟨n, hn, hS⟩ := S.setOf hd
  refine z343 ?_
  exact wpAny_inSet_of (knd := intKind C.prog C.w) intKey rfl hS ⟨m, H, (S.toks _).1, (S.toks _).2, h⟩

noncomputable def DI (C : Cfg) (A : Around) (fx : Fx) (x i : Value) (m : Lo) (H : AH) (Q : Lo → AH → Prop) (X : Value → Lo → AH → Prop) : Prop := ∀ a b, er a = x → er b = i → AW C A fx (delItem a b) m H (fun _ => Q) X
theorem di_dict {kvs : List (Int × Value)} {ep : Nat} {Q : Lo → AH → Prop} (hd : (d, AO.dict kvs ep) ∈ H) (hk : (dval kvs k).isSome = true) (hz : kvs.length ≤ 1000000) (h : ∀ ep', Q m (H.put d (.dict (kvs.filter fun p => decide (p.1 ≠ k)) ep'))) : DI C A fx (.ref d) (vI k) m H Q X := fun a b ha hb => by
  obtain rfl := er_eq_ref ha
  obtain ⟨t, rfl⟩ := er_eq_int hb
  intro s S
  refine hide fun z344 => ?_
  obtain ⟨raw, h1, h2⟩ := S.dictAt hd
  refine z344 ?_
  have hD := h1.dictOf
  unfold delItem
  try with_reducible refine wpAny_holding ?_
  refine wpAny_bind (wpAny_sequenceKey hD.typeIs (by decide) ?_)
  refine wpAny_bind (wpAny_callSpecial?_slot (name := Str.ofString "__delitem__") hD.typeIs PySem.F.slot_dict_delitem
    (call_meetsIn PySem.F.slot_dict_delitem hD.typeIs PySem.F.entry_dict_delitem (PySem.F.args_dict_delitem_2 _ _) (meets_dict_delitem_pairs (intKind C.prog C.w) d (k := k) intKey) ⟨raw, hD, by rw [raw_len h2, sizeLine_eq]; omega, by rw [← valueAt_er h2 k, Option.isSome_map] at hk; exact hk, fun h' hd' hs => ?_⟩))
  refine hide fun z345 => ?_
  obtain ⟨o', ep', ho', hr'⟩ := or_dict hd' (kvs := kvs.filter fun p => decide (p.1 ≠ k)) (by
    subst h2
    unfold without
    rw [List.filter_map]
    rfl)
  obtain ⟨S', E'⟩ := S.write (s' := { s with heap := h', toks := s.toks + 1 }) hd hs ho' hr'
  refine z345 ?_
  exact wpAny_pure ⟨m, _, S', E', h ep'⟩
end
end Mine

namespace Mine
open PySem PySem.W PyProof.Rows
open Sem (wp)

section
variable {α : Type} {C : Cfg} {A A' : Around} {fx fx' : Fx} {m m' m₁ : Lo} {H H' H₁ R : AH} {X : Value → Lo → AH → Prop} {K : Frag} {s s' s₁ : Shared}
variable {d v : Addr} {kvs : List (Int × Value)} {ep : Nat}

theorem call_values {Q : Value → Lo → AH → Prop} (hd : (d, AO.dict kvs ep) ∈ H) (h : ∀ v, v ∉ H.keys → Q (.ref v) m ((v, .flds (.type "dict_values") [.ref d]) :: H)) : CALL C A fx (.builtin "dict.values") [.ref d] m H Q X := fun g vs hg hvs => by
  obtain rfl := er_eq_builtin hg
  refine hide fun z346 => ?_
  obtain ⟨a, rfl, ha⟩ := er1 hvs
  refine z346 ?_
  obtain rfl := er_eq_ref ha
  intro s S
  refine hide fun z347 => ?_
  obtain ⟨raw, h1, h2⟩ := S.dictAt hd
  obtain ⟨S', E'⟩ := S.push (o := { cls := .type "dict_values", data := .fields #[.ref d] }) (ao := .flds (.type "dict_values") [.ref d]) ⟨rfl, ⟨rfl, rfl⟩, _, rfl, rfl⟩
  refine z347 ?_
  exact call_meetsIn PySem.F.slot_dict_values h1.dictOf.typeIs PySem.F.entry_dict_values (PySem.F.args_dict_values_1 _) (meets_dict_values (intKind C.prog C.w) d (S.notMods (mem_keys hd))) ⟨⟨_, h1.dictOf⟩, m, _, S', E', h _ (none_new S (none_of_le (Nat.le_refl _)))⟩
end
end Mine

namespace Mine
open PySem PySem.W PyProof.Rows
open Sem (wp)

section
variable {α : Type} {C : Cfg} {A A' : Around} {fx fx' : Fx} {m m' m₁ : Lo} {H H' H₁ R : AH} {X : Value → Lo → AH → Prop} {K : Frag} {s s' s₁ : Shared}
variable {t : Addr} {x y : Value}

theorem aw_unpackItems {xs : List Value} {n : Nat} {Q : List Value → Lo → AH → Prop} (hA : A.handled = none) (ht : (t, AO.tup xs) ∈ H) (hn : xs.length = n) (h : ∀ vs, vs.map er = xs → Q vs m H) : AW C A fx (unpackItems (.ref t) n none) m H Q X := by
  intro s S
  refine hide fun z348 => ?_
  obtain ⟨vs, h1, h2⟩ := S.isTup ht
  refine z348 ?_
  have hsz := size_of_er h2
  subst hn
  rw [← hsz]
  refine wpAny_unpackItems_tuple hA h1 fun h' hk => ?_
  obtain ⟨S', E'⟩ := S.keeps (s' := { s with heap := h' }) (fun b o e => hk b o (fun q => by have := Heap.lt_size e; rw [q] at this; exact Nat.lt_irrefl _ this) e)
  exact ⟨m, H, S', E', h _ h2⟩
theorem asg_tup2 {a b : PySem.Expr} {x1 : _} {pos : Pos} {Q : Lo → AH → Prop} (hA : A.handled = none) (ht : (t, AO.tup [x, y]) ∈ H) (h : ASG C A fx a x m H (fun m₁ H₁ => ASG C A fx b y m₁ H₁ Q X) X)
    (he : assignEach [a, b] fx.env = [(false, assign a fx.env), (false, assign b fx.env)] := by rfl) : ASG C A fx (.Tuple [a, b] x1 pos) (.ref t) m H Q X := fun v hv => by
  obtain rfl := er_eq_ref hv
  rw [arm_assign_Tuple, he]
  refine aw_bind (aw_standAt ?_)
  unfold unpack
  refine aw_bind (aw_holding (aw_unpackItems (n := 2) hA ht rfl fun vs hvs => ?_))
  refine hide fun z349 => ?_
  obtain ⟨p, q, rfl, hp, hq⟩ := er2 hvs
  refine z349 ?_
  show AW C A fx (assignInOrder [assign a fx.env, assign b fx.env] [p, q]) m H _ X
  unfold assignInOrder
  refine aw_bind (aw_holding (aw_mono (h p hp) (fun _ m₁ H₁ h₁ => ?_) fun _ _ _ z => z))
  unfold assignInOrder
  refine aw_bind (aw_holding (aw_mono (h₁ q hq) (fun _ m₂ H₂ h₂ => ?_) fun _ _ _ z => z))
  unfold assignInOrder
  exact aw_pure h₂
end
end Mine

namespace Mine
open PySem PySem.W PyProof.Rows
open Sem (wp)

structure NI where
  node : Int
  ia : Addr
  id : Addr
  la : Addr
  np : Int
  su : List Int
noncomputable def NI.cells (NC : Addr) (r : NI) : AH := [(r.ia, .inst NC (some r.id) [some (vI r.node), some (vI r.np), some (.ref r.la)]), (r.id, .ns []), (r.la, .list (iv r.su))]
structure SS where
  sa : Addr
  sd : Addr
  nd : Addr
  fs : List (PySem.Str × Value)
  ep : Nat
  recs : List NI
  rdy : Option (Addr × List Int)
  po : Int
  nf : Int
noncomputable def SS.rv (σ : SS) : Value := match σ.rdy with | none => .none | some p => .ref p.1
noncomputable def SS.rc (σ : SS) : AH := match σ.rdy with | none => [] | some p => [(p.1, .list (iv p.2))]
noncomputable def SS.kvs (σ : SS) : List (Int × Value) := σ.recs.map fun r => (r.node, .ref r.ia)
noncomputable def RC (NC : Addr) (recs : List NI) : AH := recs.flatMap (NI.cells NC)
noncomputable def SC (NC TC : Addr) (σ : SS) : AH := (σ.sa, .inst TC (some σ.sd) []) :: (σ.sd, .ns σ.fs) :: (σ.nd, .dict σ.kvs σ.ep) :: (σ.rc ++ RC NC σ.recs)
noncomputable def SS.look (σ : SS) (y : PySem.Str) : Option Value :=
  if y = "_node2info" then some (.ref σ.nd) else if y = "_ready_nodes" then some σ.rv else if y = "_npassedout" then some (vI σ.po) else if y = "_nfinished" then some (vI σ.nf) else none
structure SS.Ok (σ : SS) : Prop where
  fs : ∀ y, σ.fs.lookup y = σ.look y
  len : σ.fs.length ≤ 100
  nodes : (σ.recs.map (·.node)).Nodup
noncomputable def SS.g (σ : SS) : List (Int × Int × List Int) := σ.recs.map fun r => (r.node, r.np, r.su)

theorem put_append {H H' : AH} {a : Addr} {o : AO} : AH.put (H ++ H') a o = AH.put H a o ++ AH.put H' a o := by
  unfold AH.put; rw [List.map_append]
theorem keys_append {H H' : AH} : AH.keys (H ++ H') = H.keys ++ H'.keys := by unfold AH.keys; rw [List.map_append]
theorem mem_rc {NC : Addr} {recs : List NI} {r : NI} {p : Addr × AO} (hr : r ∈ recs) (hp : p ∈ r.cells NC) : p ∈ RC NC recs := List.mem_flatMap.mpr ⟨r, hr, hp⟩
theorem mem_sc {NC TC : Addr} {σ : SS} {p : Addr × AO} (hp : p ∈ RC NC σ.recs) : p ∈ SC NC TC σ := List.mem_cons_of_mem _ (List.mem_cons_of_mem _ (List.mem_cons_of_mem _ (List.mem_append_right _ hp)))
noncomputable def updR' (recs : List NI) (k : Int) (f : NI → NI) : List NI := recs.map fun q => if q.node = k then f q else q
theorem updR'_none {recs : List NI} {k : Int} {f : NI → NI} (h : k ∉ recs.map (·.node)) : updR' recs k f = recs := by
  unfold updR'
  rw [List.map_congr_left (g := id), List.map_id]
  intro q hq
  exact if_neg fun e => h (by rw [← e]; exact List.mem_map_of_mem hq)
theorem put_rc {NC : Addr} {a : Addr} {o' : AO} {f : NI → NI} {r : NI} (ha : a ∈ AH.keys (r.cells NC)) (hf : AH.put (r.cells NC) a o' = (f r).cells NC) : ∀ {recs : List NI}, r ∈ recs → (AH.keys (RC NC recs)).Nodup → (recs.map (·.node)).Nodup → AH.put (RC NC recs) a o' = RC NC (updR' recs r.node f)
  | [], hr, _, _ => by cases hr
  | q :: rest, hr, hn, hd => by
    have e : RC NC (q :: rest) = q.cells NC ++ RC NC rest := by unfold RC; rw [List.flatMap_cons]
    have e2 : RC NC (updR' (q :: rest) r.node f) = (if q.node = r.node then f q else q).cells NC ++ RC NC (updR' rest r.node f) := by unfold RC updR'; rw [List.map_cons, List.flatMap_cons]
    rw [e] at hn
    rw [keys_append] at hn
    have hna := List.nodup_append.mp hn
    rw [List.map_cons, List.nodup_cons] at hd
    rw [e, e2, put_append]
    rcases List.mem_cons.mp hr with rfl | hr
    · rw [if_pos rfl, hf, updR'_none hd.1, put_none fun hm => hna.2.2 a ha a hm rfl]
    · have hk : a ∈ AH.keys (RC NC rest) := by
        refine hide fun z350 => ?_
        obtain ⟨p, hp, rfl⟩ := List.mem_map.mp ha
        refine z350 ?_
        exact mem_keys (mem_rc hr hp)
      rw [if_neg fun e => hd.1 (by rw [e]; exact List.mem_map_of_mem hr), put_none fun hm => hna.2.2 a hm a hk rfl, put_rc ha hf hr hna.2.1 hd.2]

theorem sc_keys {NC TC : Addr} {σ : SS} {R : AH} : AH.keys (SC NC TC σ ++ R) = σ.sa :: σ.sd :: σ.nd :: (σ.rc.keys ++ (RC NC σ.recs).keys ++ R.keys) := by
  unfold SC
  rw [keys_append, keys_cons, keys_cons, keys_cons, keys_append]
  rfl
theorem put_rec {NC TC : Addr} {σ : SS} {R : AH} {a : Addr} {o' : AO} {f : NI → NI} {r : NI} (hn : (AH.keys (SC NC TC σ ++ R)).Nodup) (ok : σ.Ok) (hr : r ∈ σ.recs) (ha : a ∈ AH.keys (r.cells NC)) (hf : AH.put (r.cells NC) a o' = (f r).cells NC)
    (hia : ∀ q, (f q).ia = q.ia ∧ (f q).node = q.node) : AH.put (SC NC TC σ ++ R) a o' = SC NC TC { σ with recs := updR' σ.recs r.node f } ++ R := by
  have hk : a ∈ AH.keys (RC NC σ.recs) := by
    refine hide fun z351 => ?_
    obtain ⟨p, hp, rfl⟩ := List.mem_map.mp ha
    refine z351 ?_
    exact mem_keys (mem_rc hr hp)
  have hkvs : SS.kvs { σ with recs := updR' σ.recs r.node f } = σ.kvs := by
    unfold SS.kvs updR'
    rw [List.map_map]
    refine List.map_congr_left fun q _ => ?_
    simp only [Function.comp]
    split
    · rw [(hia q).1, (hia q).2]
    · rfl
  rw [sc_keys] at hn
  simp only [List.nodup_cons, List.mem_cons, List.mem_append, not_or] at hn
  refine hide fun z352 => ?_
  obtain ⟨⟨_, _, ⟨_, n1⟩, _⟩, ⟨_, ⟨_, n2⟩, _⟩, ⟨⟨_, n3⟩, _⟩, n4⟩ := hn
  refine z352 ?_
  have hna := List.nodup_append.mp n4
  have hnb := List.nodup_append.mp hna.1
  have h1 : a ∉ R.keys := fun hm => hna.2.2 a (List.mem_append_right _ hk) a hm rfl
  have h2 : a ∉ σ.rc.keys := fun hm => hnb.2.2 a hm a hk rfl
  rw [put_append, put_none h1]
  congr 1
  show AH.put ((σ.sa, _) :: (σ.sd, _) :: (σ.nd, _) :: (σ.rc ++ RC NC σ.recs)) a o' = (σ.sa, _) :: (σ.sd, _) :: (σ.nd, AO.dict (SS.kvs { σ with recs := updR' σ.recs r.node f }) σ.ep) :: (SS.rc { σ with recs := updR' σ.recs r.node f } ++ RC NC (updR' σ.recs r.node f))
  have q1 : ¬ σ.sa = a := fun e => n1 (by rw [e]; exact hk)
  have q2 : ¬ σ.sd = a := fun e => n2 (by rw [e]; exact hk)
  have q3 : ¬ σ.nd = a := fun e => n3 (by rw [e]; exact hk)
  rw [hkvs, put_cons, put_cons, put_cons, if_neg q1, if_neg q2, if_neg q3, put_append, put_none h2, put_rc ha hf hr hnb.2.1 ok.nodes]
  rfl
theorem Ok_upd {σ : SS} {k : Int} {f : NI → NI} (ok : σ.Ok) (hf : ∀ q, (f q).node = q.node) : SS.Ok { σ with recs := updR' σ.recs k f } := by
  refine ⟨ok.fs, ok.len, ?_⟩
  have : (updR' σ.recs k f).map (·.node) = σ.recs.map (·.node) := by
    unfold updR'
    rw [List.map_map]
    refine List.map_congr_left fun q _ => ?_
    simp only [Function.comp]
    split
    · exact hf q
    · rfl
  show ((updR' σ.recs k f).map (·.node)).Nodup
  rw [this]; exact ok.nodes
theorem cells_ne {NC : Addr} {r : NI} (hn : (AH.keys (r.cells NC)).Nodup) : r.ia ≠ r.id ∧ r.ia ≠ r.la ∧ r.id ≠ r.la := by
  simp only [NI.cells, AH.keys, List.map_cons, List.map_nil, List.nodup_cons, List.mem_cons, not_or] at hn
  exact ⟨hn.1.1, hn.1.2.1, hn.2.1.1⟩
theorem rec_nodup {NC TC : Addr} {σ : SS} {R : AH} {r : NI} (hn : (AH.keys (SC NC TC σ ++ R)).Nodup) (hr : r ∈ σ.recs) : (AH.keys (r.cells NC)).Nodup := by
  rw [sc_keys] at hn
  simp only [List.nodup_cons] at hn
  have h1 := (List.nodup_append.mp (List.nodup_append.mp hn.2.2.2).1).2.1
  refine hide fun z353 => ?_
  obtain ⟨l1, l2, e⟩ := List.append_of_mem hr
  refine z353 ?_
  unfold RC at h1
  rw [e, List.flatMap_append, List.flatMap_cons, keys_append, keys_append] at h1
  exact (List.nodup_append.mp (List.nodup_append.mp h1).2.1).1
end Mine

namespace Mine
open PySem PySem.W PyProof.Rows
open Sem (wp)

section
variable {C : Cfg} {A : Around} {fx : Fx} {m : Lo} {H : AH} {X : Value → Lo → AH → Prop} {Q : Value → Lo → AH → Prop}
theorem call_get_some {d : Addr} {kvs : List (Int × Value)} {ep : Nat} {k : Int} {v : Value} (hd : (d, AO.dict kvs ep) ∈ H) (hv : dval kvs k = some v) (h : Q v m H) : CALL C A fx (.builtin "dict.get") [.ref d, vI k] m H Q X := call_get hd (by rw [hv]; exact h)
theorem call_get_none {d : Addr} {kvs : List (Int × Value)} {ep : Nat} {k : Int} (hd : (d, AO.dict kvs ep) ∈ H) (hv : dval kvs k = none) (h : Q .none m H) : CALL C A fx (.builtin "dict.get") [.ref d, vI k] m H Q X := call_get hd (by rw [hv]; exact h)
end

noncomputable abbrev G := List (Int × Int × List Int)
noncomputable def gEns (g : G) (k : Int) : G := if k ∈ g.map (·.1) then g else g ++ [(k, 0, [])]
noncomputable def gUpd (g : G) (k : Int) (f : Int × List Int → Int × List Int) : G := g.map fun p => if p.1 = k then (p.1, f p.2) else p
theorem g_nodes {σ : SS} : σ.g.map (·.1) = σ.recs.map (·.node) := by unfold SS.g; rw [List.map_map]; rfl
theorem kvs_nodes {σ : SS} : σ.kvs.map (·.1) = σ.recs.map (·.node) := by unfold SS.kvs; rw [List.map_map]; rfl
theorem dval_mem {kvs : List (Int × Value)} {k : Int} {v : Value} (hn : (kvs.map (·.1)).Nodup) (h : (k, v) ∈ kvs) : dval kvs k = some v := by
  unfold dval
  induction kvs with
  | nil => cases h
  | cons p r ih =>
    rw [List.map_cons, List.nodup_cons] at hn
    rw [List.find?_cons]
    by_cases hp : p.1 = k
    · rcases List.mem_cons.mp h with e | h
      · rw [← e]; simp
      · exact absurd (by rw [hp]; exact List.mem_map_of_mem h) hn.1
    · rw [decide_eq_false hp]
      rcases List.mem_cons.mp h with e | h
      · rw [← e] at hp; exact absurd rfl hp
      · exact ih hn.2 h
theorem dval_not {kvs : List (Int × Value)} {k : Int} (h : k ∉ kvs.map (·.1)) : dval kvs k = none := by
  cases q : dval kvs k with
  | none => rfl
  | some v =>
    have := dval_isSome (kvs := kvs) (k := k)
    rw [q, decide_eq_false h] at this
    cases this
theorem stored_not {kvs : List (Int × Value)} {k : Int} {v : Value} (h : k ∉ kvs.map (·.1)) : stored kvs k v = kvs ++ [(k, v)] := by
  unfold stored
  rw [if_neg]
  intro hm
  rw [List.any_eq_true] at hm
  refine hide fun z354 => ?_
  obtain ⟨p, hp, e⟩ := hm
  refine z354 ?_
  exact h (by rw [← of_decide_eq_true e]; exact List.mem_map_of_mem hp)
theorem dval_rec {σ : SS} {r : NI} (ok : σ.Ok) (hr : r ∈ σ.recs) : dval σ.kvs r.node = some (.ref r.ia) :=
  dval_mem (by rw [kvs_nodes]; exact ok.nodes) (List.mem_map.mpr ⟨r, hr, rfl⟩)
theorem rec_of {σ : SS} {k : Int} (h : k ∈ σ.recs.map (·.node)) : ∃ r ∈ σ.recs, r.node = k := by
  refine hide fun z355 => ?_
  obtain ⟨r, hr, e⟩ := List.mem_map.mp h
  refine z355 ?_
  exact ⟨r, hr, e⟩
structure SS.Same (σ σ' : SS) : Prop where
  sa : σ'.sa = σ.sa
  sd : σ'.sd = σ.sd
  nd : σ'.nd = σ.nd
  rdy : σ'.rdy = σ.rdy
  po : σ'.po = σ.po
  nf : σ'.nf = σ.nf
theorem SS.Same.refl {σ : SS} : SS.Same σ σ := ⟨rfl, rfl, rfl, rfl, rfl, rfl⟩
theorem SS.Same.trans {σ σ' σ'' : SS} (a : SS.Same σ σ') (b : SS.Same σ' σ'') : SS.Same σ σ'' := ⟨b.sa.trans a.sa, b.sd.trans a.sd, b.nd.trans a.nd, b.rdy.trans a.rdy, b.po.trans a.po, b.nf.trans a.nf⟩
noncomputable def SS.more (σ : SS) (r : NI) (ep : Nat) : SS := { σ with recs := σ.recs ++ [r], ep := ep }
theorem more_ok {σ : SS} {r : NI} {ep : Nat} (ok : σ.Ok) (h : r.node ∉ σ.recs.map (·.node)) : (σ.more r ep).Ok := by
  refine ⟨ok.fs, ok.len, ?_⟩
  show ((σ.recs ++ [r]).map (·.node)).Nodup
  rw [List.map_append, List.nodup_append]
  exact ⟨ok.nodes, by simp, fun a ha b hb e => by simp at hb; subst hb; exact h (e ▸ ha)⟩
theorem more_g {σ : SS} {k : Int} {ia id la ep : Nat} (h : k ∉ σ.recs.map (·.node)) : (σ.more ⟨k, ia, id, la, 0, []⟩ ep).g = gEns σ.g k := by
  unfold gEns
  rw [g_nodes, if_neg h]
  unfold SS.g SS.more
  rw [List.map_append]
  rfl
theorem g_upd {σ : SS} {k : Int} {f : NI → NI} {F : Int × List Int → Int × List Int} (h : ∀ q, (f q).node = q.node ∧ ((f q).np, (f q).su) = F (q.np, q.su)) : SS.g { σ with recs := updR' σ.recs k f } = gUpd σ.g k F := by
  unfold SS.g gUpd updR'
  rw [List.map_map, List.map_map]
  refine List.map_congr_left fun q _ => ?_
  simp only [Function.comp]
  by_cases e : q.node = k
  · rw [if_pos e, if_pos e, (h q).1, ← (h q).2]
  · rw [if_neg e, if_neg e]
theorem nsPut_len {fs : List (PySem.Str × Value)} {n : PySem.Str} {v w : Value} (h : fs.lookup n = some w) : (nsPut fs n v).length ≤ fs.length := by
  unfold nsPut
  rw [List.length_cons]
  have : ∀ {l : List (PySem.Str × Value)}, l.lookup n = some w → (l.filter fun q => !(q.1 == n)).length + 1 ≤ l.length := by
    intro l
    induction l with
    | nil => intro h; cases h
    | cons p r ih =>
      obtain ⟨k, x⟩ := p
      intro h
      rw [List.lookup_cons] at h
      rw [List.filter_cons]
      by_cases hk : k = n
      · subst hk
        simp only [beq_self_eq_true, Bool.not_true, Bool.false_eq_true, if_false, List.length_cons]
        have := List.length_filter_le (fun q : PySem.Str × Value => !(q.1 == k)) r
        omega
      · have e1 : (n == k) = false := beq_eq_false_iff_ne.mpr (Ne.symm hk)
        rw [e1] at h
        have e2 : (!(k == n)) = true := by simp [hk]
        rw [if_pos e2, List.length_cons, List.length_cons]
        have := ih h
        omega
  exact this h
theorem wk_more {NC TC : Addr} {σ : SS} {R : AH} {r : NI} {ep : Nat} : Wk (r.cells NC ++ ((σ.sa, .inst TC (some σ.sd) []) :: (σ.sd, .ns σ.fs) :: (σ.nd, .dict (σ.kvs ++ [(r.node, .ref r.ia)]) ep) :: (σ.rc ++ RC NC σ.recs)) ++ R) (SC NC TC (σ.more r ep) ++ R) := by
  refine Wk.perm ?_
  have e : SC NC TC (σ.more r ep) = (σ.sa, .inst TC (some σ.sd) []) :: (σ.sd, .ns σ.fs) :: (σ.nd, .dict (σ.kvs ++ [(r.node, .ref r.ia)]) ep) :: (σ.rc ++ RC NC σ.recs) ++ r.cells NC := by
    unfold SC SS.more RC SS.kvs
    rw [List.map_append, List.flatMap_append]
    simp [SS.rc]
  rw [e]
  exact List.Perm.append_right _ List.perm_append_comm
theorem put_nd {NC TC : Addr} {σ : SS} {R : AH} {kvs : List (Int × Value)} {ep : Nat} (hn : (AH.keys (SC NC TC σ ++ R)).Nodup) :
    AH.put (SC NC TC σ ++ R) σ.nd (.dict kvs ep) = ((σ.sa, .inst TC (some σ.sd) []) :: (σ.sd, .ns σ.fs) :: (σ.nd, .dict kvs ep) :: (σ.rc ++ RC NC σ.recs)) ++ R := by
  rw [sc_keys] at hn
  simp only [List.nodup_cons, List.mem_cons, List.mem_append, not_or] at hn
  refine hide fun z356 => ?_
  obtain ⟨⟨_, n1, _⟩, ⟨n2, _⟩, ⟨⟨n3, n4⟩, n5⟩, _⟩ := hn
  refine z356 ?_
  rw [put_append, put_none n5]
  unfold SC
  rw [put_cons, put_cons, put_cons, if_neg n1, if_neg n2, if_pos rfl, put_append, put_none n3, put_none n4]
theorem put_sd {NC TC : Addr} {σ : SS} {R : AH} {fs : List (PySem.Str × Value)} (hn : (AH.keys (SC NC TC σ ++ R)).Nodup) :
    AH.put (SC NC TC σ ++ R) σ.sd (.ns fs) = ((σ.sa, .inst TC (some σ.sd) []) :: (σ.sd, .ns fs) :: (σ.nd, .dict σ.kvs σ.ep) :: (σ.rc ++ RC NC σ.recs)) ++ R := by
  rw [sc_keys] at hn
  simp only [List.nodup_cons, List.mem_cons, List.mem_append, not_or] at hn
  refine hide fun z357 => ?_
  obtain ⟨⟨n1, _, _⟩, ⟨n2, ⟨n3, n4⟩, n5⟩, _⟩ := hn
  refine z357 ?_
  rw [put_append, put_none n5]
  unfold SC
  rw [put_cons, put_cons, put_cons, if_neg n1, if_pos rfl, if_neg (Ne.symm n2), put_append, put_none n3, put_none n4]
theorem up3 {p a b c : Addr × AO} {H : AH} (h : p ∈ H) : p ∈ a :: b :: c :: H := List.mem_cons_of_mem _ (List.mem_cons_of_mem _ (List.mem_cons_of_mem _ h))
theorem up1 {p a : Addr × AO} {H : AH} (h : p ∈ H) : p ∈ a :: H := List.mem_cons_of_mem _ h
theorem up2 {p a b : Addr × AO} {H : AH} (h : p ∈ H) : p ∈ a :: b :: H := List.mem_cons_of_mem _ (List.mem_cons_of_mem _ h)
theorem sc_sa {NC TC : Addr} {σ : SS} {R : AH} : (σ.sa, AO.inst TC (some σ.sd) []) ∈ SC NC TC σ ++ R := List.mem_cons_self
theorem sc_sd {NC TC : Addr} {σ : SS} {R : AH} : (σ.sd, AO.ns σ.fs) ∈ SC NC TC σ ++ R := List.mem_cons_of_mem _ List.mem_cons_self
theorem sc_nd {NC TC : Addr} {σ : SS} {R : AH} : (σ.nd, AO.dict σ.kvs σ.ep) ∈ SC NC TC σ ++ R := List.mem_cons_of_mem _ (List.mem_cons_of_mem _ List.mem_cons_self)
end Mine

namespace Mine
open PySem PySem.W PyProof.Rows
open Sem (wp)

section
variable {C : Cfg} {A : Around} {fx : Fx} {m m' : Lo} {H H' : AH} {X : Value → Lo → AH → Prop}
theorem exs_wk {st : List Stmt} {Q : Flow → Lo → AH → Prop} (hm : WkL m m') (hH : Wk H H') (h : EXS C A fx st m' H' Q X) : EXS C A fx st m H Q X := aw_wk hm hH h
theorem ex_wk {st : Stmt} {Q : Flow → Lo → AH → Prop} (hm : WkL m m') (hH : Wk H H') (h : EX C A fx st m' H' Q X) : EX C A fx st m H Q X := aw_wk hm hH h
theorem it_wk {e : PySem.Expr} {Q : Bool → Lo → AH → Prop} (hm : WkL m m') (hH : Wk H H') (h : IT C A fx e m' H' Q X) : IT C A fx e m H Q X := aw_wk hm hH h
theorem asg_wk {e : PySem.Expr} {v : Value} {Q : Lo → AH → Prop} (hm : WkL m m') (hH : Wk H H') (h : ASG C A fx e v m' H' Q X) : ASG C A fx e v m H Q X := fun a ha => aw_wk hm hH (h a ha)
theorem asgs_wk {e : List PySem.Expr} {v : Value} {Q : Lo → AH → Prop} (hm : WkL m m') (hH : Wk H H') (h : ASGS C A fx e v m' H' Q X) : ASGS C A fx e v m H Q X := fun a ha => aw_wk hm hH (h a ha)
end

theorem kp_fnK {C : Cfg} {A : Around} {fx : Fx} {m : Lo} {H : AH} {K : Frag} {f : Addr} {o : Obj} {fd : FuncData} (T : Top C K) (ho : K.lookup f = some o) (hd : o.data = .func fd) : KP C A fx (.ref f) m H := kp_fn (T.X f o ho) hd
theorem SS.Ok.none {σ : SS} (ok : σ.Ok) {y : PySem.Str} (h : (y = "_node2info" ∨ y = "_ready_nodes" ∨ y = "_npassedout" ∨ y = "_nfinished") → False) : σ.fs.lookup y = none := by
  rw [ok.fs]
  unfold SS.look
  rw [if_neg fun e => h (.inl e), if_neg fun e => h (.inr (.inl e)), if_neg fun e => h (.inr (.inr (.inl e))), if_neg fun e => h (.inr (.inr (.inr e)))]
theorem rec_mem {NC TC : Addr} {σ : SS} {R : AH} {r : NI} {p : Addr × AO} (hr : r ∈ σ.recs) (hp : p ∈ r.cells NC) : p ∈ SC NC TC σ ++ R := List.mem_append_left _ (mem_sc (mem_rc hr hp))
theorem rec_ia {NC TC : Addr} {σ : SS} {R : AH} {r : NI} (hr : r ∈ σ.recs) : (r.ia, AO.inst NC (some r.id) [some (vI r.node), some (vI r.np), some (.ref r.la)]) ∈ SC NC TC σ ++ R := rec_mem hr List.mem_cons_self
theorem rec_id {NC TC : Addr} {σ : SS} {R : AH} {r : NI} (hr : r ∈ σ.recs) : (r.id, AO.ns []) ∈ SC NC TC σ ++ R := rec_mem hr (List.mem_cons_of_mem _ List.mem_cons_self)
theorem rec_la {NC TC : Addr} {σ : SS} {R : AH} {r : NI} (hr : r ∈ σ.recs) : (r.la, AO.list (iv r.su)) ∈ SC NC TC σ ++ R := rec_mem hr (List.mem_cons_of_mem _ (List.mem_cons_of_mem _ List.mem_cons_self))

theorem put_npf {NC TC : Addr} {σ : SS} {R : AH} {r : NI} (f : Int → Int) (hn : (AH.keys (SC NC TC σ ++ R)).Nodup) (ok : σ.Ok) (hr : r ∈ σ.recs) :
    AH.put (SC NC TC σ ++ R) r.ia (.inst NC (some r.id) [some (vI r.node), some (vI (f r.np)), some (.ref r.la)]) = SC NC TC { σ with recs := updR' σ.recs r.node fun q => { q with np := f q.np } } ++ R := by
  refine hide fun z358 => ?_
  obtain ⟨h1, h2, h3⟩ := cells_ne (rec_nodup hn hr)
  refine z358 ?_
  refine put_rec hn ok hr List.mem_cons_self ?_ fun q => ⟨rfl, rfl⟩
  simp only [NI.cells, put_cons, if_pos rfl, if_neg (Ne.symm h1), if_neg (Ne.symm h2)]
  rfl
theorem put_suf {NC TC : Addr} {σ : SS} {R : AH} {r : NI} (f : List Int → List Int) (hn : (AH.keys (SC NC TC σ ++ R)).Nodup) (ok : σ.Ok) (hr : r ∈ σ.recs) :
    AH.put (SC NC TC σ ++ R) r.la (.list (iv (f r.su))) = SC NC TC { σ with recs := updR' σ.recs r.node fun q => { q with su := f q.su } } ++ R := by
  refine hide fun z359 => ?_
  obtain ⟨h1, h2, h3⟩ := cells_ne (rec_nodup hn hr)
  refine z359 ?_
  refine put_rec hn ok hr (List.mem_cons_of_mem _ (List.mem_cons_of_mem _ List.mem_cons_self)) ?_ fun q => ⟨rfl, rfl⟩
  simp only [NI.cells, put_cons, if_pos rfl, if_neg h2, if_neg h3]
  rfl
theorem exs_nodup {C : Cfg} {A : Around} {fx : Fx} {m : Lo} {H : AH} {X : Value → Lo → AH → Prop} {st : List Stmt} {Q : Flow → Lo → AH → Prop} (h : H.keys.Nodup → EXS C A fx st m H Q X) : EXS C A fx st m H Q X := aw_nodup h

theorem WkL.all {m m' : Lo} (h : m'.foldr (fun p q => p ∈ m ∧ q) True) : WkL m m' := fun x v hm => by
  induction m' with
  | nil => cases hm
  | cons p r ih =>
    rcases List.mem_cons.mp hm with e | hm
    · rw [e]; exact h.1
    · exact ih h.2 hm

noncomputable def gSu (g : G) (p k : Int) : G := gUpd g p fun x => (x.1, x.2 ++ [k])
noncomputable def gNp (g : G) (k v : Int) : G := gUpd g k fun x => (x.1 + v, x.2)
noncomputable def gPred (k : Int) (g : G) (p : Int) : G := gSu (gEns g p) p k
noncomputable def gAdd (g : G) (k : Int) (ps : List Int) : G := ps.foldl (gPred k) (gNp (gEns g k) k ps.length)
structure Bd (g : G) (b : Nat) : Prop where
  len : g.length ≤ b
  su : ∀ p ∈ g, p.2.2.length ≤ b
theorem Bd.mono {g : G} {b c : Nat} (h : Bd g b) (hbc : b ≤ c) : Bd g c := ⟨Nat.le_trans h.len hbc, fun p hp => Nat.le_trans (h.su p hp) hbc⟩
theorem Bd.ens {g : G} {b : Nat} {k : Int} (h : Bd g b) : Bd (gEns g k) (b + 1) := by
  unfold gEns
  split
  · exact h.mono (Nat.le_succ _)
  · refine ⟨by rw [List.length_append]; have := h.len; simp; omega, fun p hp => ?_⟩
    rcases List.mem_append.mp hp with hp | hp
    · exact Nat.le_trans (h.su p hp) (Nat.le_succ _)
    · rw [List.mem_singleton.mp hp]; exact Nat.zero_le _
theorem Bd.sux {g : G} {b : Nat} {p k : Int} (h : Bd g b) : Bd (gSu g p k) (b + 1) := by
  unfold gSu gUpd
  refine ⟨by rw [List.length_map]; have := h.len; omega, fun q hq => ?_⟩
  refine hide fun z360 => ?_
  obtain ⟨r, hr, rfl⟩ := List.mem_map.mp hq
  refine z360 ?_
  have := h.su r hr
  split
  · show (r.2.2 ++ [k]).length ≤ _
    rw [List.length_append]; simp; omega
  · omega
theorem Bd.np {g : G} {b : Nat} {k v : Int} (h : Bd g b) : Bd (gNp g k v) b := by
  unfold gNp gUpd
  refine ⟨by rw [List.length_map]; exact h.len, fun q hq => ?_⟩
  refine hide fun z361 => ?_
  obtain ⟨r, hr, rfl⟩ := List.mem_map.mp hq
  refine z361 ?_
  have := h.su r hr
  split <;> exact this
theorem Bd.pred {g : G} {b : Nat} {p k : Int} (h : Bd g b) : Bd (gPred k g p) (b + 2) := h.ens.sux
theorem Bd.fold {k : Int} : ∀ (ps : List Int) {g : G} {b : Nat}, Bd g b → Bd (ps.foldl (gPred k) g) (b + 2 * ps.length)
  | [], _, _, h => h
  | p :: r, g, b, h => by
    have := Bd.fold (k := k) r (h.pred (p := p) (k := k))
    rw [List.length_cons]
    exact this.mono (by omega)
theorem Bd.add {g : G} {b : Nat} {k : Int} {ps : List Int} (h : Bd g b) : Bd (gAdd g k ps) (b + 1 + 2 * ps.length) := Bd.fold ps h.ens.np
theorem recs_len {σ : SS} : σ.recs.length = σ.g.length := by unfold SS.g; rw [List.length_map]
theorem recs_su {σ : SS} {b : Nat} (h : Bd σ.g b) {r : NI} (hr : r ∈ σ.recs) : r.su.length ≤ b := h.su (r.node, r.np, r.su) (List.mem_map.mpr ⟨r, hr, rfl⟩)
theorem iv_append (xs ys : List Int) : iv (xs ++ ys) = iv xs ++ iv ys := List.map_append
theorem iv_get {xs : List Int} {i : Nat} {v : Value} (h : (iv xs)[i]? = some v) : ∃ p, xs[i]? = some p ∧ v = vI p := by
  unfold iv at h
  rw [List.getElem?_map] at h
  refine hide fun z362 => ?_
  obtain ⟨p, h1, h2⟩ := Option.map_eq_some_iff.mp h
  refine z362 ?_
  exact ⟨p, h1, h2.symm⟩
theorem fold_take {α β : Type} (f : β → α → β) (b : β) {xs : List α} {i : Nat} {x : α} (h : xs[i]? = some x) : (xs.take (i + 1)).foldl f b = f ((xs.take i).foldl f b) x := by
  rw [List.take_add_one, h, List.foldl_append]; rfl
theorem upd_mem {recs : List NI} {k : Int} {f : NI → NI} {r : NI} (hr : r ∈ recs) (e : r.node = k) : f r ∈ updR' recs k f := List.mem_map.mpr ⟨r, hr, if_pos e⟩
noncomputable def gBuild (kl : List (Int × List Int)) : G := kl.foldl (fun g p => gAdd g p.1 p.2) []
theorem Bd.build : ∀ (kl : List (Int × List Int)) {g : G} {b : Nat}, Bd g b → Bd (kl.foldl (fun g p => gAdd g p.1 p.2) g) (b + (kl.map fun p => 1 + 2 * p.2.length).sum)
  | [], _, _, h => h
  | p :: r, g, b, h => by
    have := Bd.build r (h.add (k := p.1) (ps := p.2))
    rw [List.map_cons, List.sum_cons]
    exact this.mono (by omega)
theorem kp_methK {C : Cfg} {A : Around} {fx : Fx} {m : Lo} {H : AH} {K : Frag} {f g : Addr} {vs : List Value} {o : Obj} {fd : FuncData} (T : Top C K) (hf : (f, AO.flds (.type "method") (.ref g :: vs)) ∈ H) (ho : K.lookup g = some o) (hd : o.data = .func fd) : KP C A fx (.ref f) m H := kp_method hf (T.X g o ho) hd
end Mine

namespace Mine
open PySem PySem.W PyProof.Rows
open Sem (wp)

theorem put_ra {NC TC : Addr} {σ : SS} {R : AH} {ra : Addr} {l l' : List Int} (hn : (AH.keys (SC NC TC σ ++ R)).Nodup) (hr : σ.rdy = some (ra, l)) :
    AH.put (SC NC TC σ ++ R) ra (.list (iv l')) = SC NC TC { σ with rdy := some (ra, l') } ++ R := by
  have hrc : σ.rc = [(ra, .list (iv l))] := by unfold SS.rc; rw [hr]
  rw [sc_keys, hrc] at hn
  simp only [AH.keys, List.map_cons, List.map_nil, List.nodup_cons, List.mem_cons, List.mem_append, not_or, List.not_mem_nil, false_or, List.cons_append, List.nil_append] at hn
  refine hide fun z363 => ?_
  obtain ⟨⟨_, _, n1, _⟩, ⟨_, n2, _⟩, ⟨n3, _⟩, ⟨n4, n5⟩, _⟩ := hn
  refine z363 ?_
  rw [put_append, put_none n5]
  congr 1
  unfold SC
  rw [hrc, put_cons, put_cons, put_cons, if_neg n1, if_neg n2, if_neg n3, put_append, put_none n4, put_cons, if_pos rfl]
  rfl
theorem sc_ra {NC TC : Addr} {σ : SS} {R : AH} {ra : Addr} {l : List Int} (hr : σ.rdy = some (ra, l)) : (ra, AO.list (iv l)) ∈ SC NC TC σ ++ R := by
  refine List.mem_append_left _ (List.mem_cons_of_mem _ (List.mem_cons_of_mem _ (List.mem_cons_of_mem _ (List.mem_append_left _ ?_))))
  unfold SS.rc
  rw [hr]
  exact List.mem_singleton.mpr rfl
theorem Ok_rdy {σ : SS} {ra : Addr} {l l' : List Int} (ok : σ.Ok) (hr : σ.rdy = some (ra, l)) : SS.Ok { σ with rdy := some (ra, l') } := by
  refine ⟨fun y => ?_, ok.len, ok.nodes⟩
  have := ok.fs y
  show σ.fs.lookup y = _
  rw [this]
  unfold SS.look SS.rv
  rw [hr]
theorem put_fs {NC TC : Addr} {σ : SS} {R : AH} {fs : List (PySem.Str × Value)} (hn : (AH.keys (SC NC TC σ ++ R)).Nodup) : AH.put (SC NC TC σ ++ R) σ.sd (.ns fs) = SC NC TC { σ with fs := fs } ++ R := put_sd hn
theorem Ok_po {σ : SS} {v : Int} (ok : σ.Ok) : SS.Ok { σ with fs := nsPut σ.fs "_npassedout" (vI v), po := v } := by
  refine ⟨fun y => ?_, Nat.le_trans (nsPut_len (w := vI σ.po) (by rw [ok.fs]; rfl)) ok.len, ok.nodes⟩
  rw [nsPut_lookup, ok.fs]
  unfold SS.look
  by_cases h : y = "_npassedout"
  · subst h; rfl
  · rw [if_neg h, if_neg h, if_neg h]; rfl
theorem Ok_nf {σ : SS} {v : Int} (ok : σ.Ok) : SS.Ok { σ with fs := nsPut σ.fs "_nfinished" (vI v), nf := v } := by
  refine ⟨fun y => ?_, Nat.le_trans (nsPut_len (w := vI σ.nf) (by rw [ok.fs]; rfl)) ok.len, ok.nodes⟩
  rw [nsPut_lookup, ok.fs]
  unfold SS.look
  by_cases h : y = "_nfinished"
  · subst h; rfl
  · rw [if_neg h, if_neg h, if_neg h]; rfl
noncomputable def gSet (v : Int) (g : G) (x : Int) : G := gUpd g x fun y => (v, y.2)
theorem upd_nodes {g : G} {k : Int} {f : Int × List Int → Int × List Int} : (gUpd g k f).map (·.1) = g.map (·.1) := by
  unfold gUpd
  rw [List.map_map]
  refine List.map_congr_left fun p _ => ?_
  simp only [Function.comp]
  split <;> rfl
theorem set_nodes {v : Int} : ∀ {rs : List Int} {g : G}, (rs.foldl (gSet v) g).map (·.1) = g.map (·.1)
  | [], _ => rfl
  | x :: r, g => by rw [List.foldl_cons, set_nodes]; exact upd_nodes
section
variable {C : Cfg} {A : Around} {fx : Fx} {m : Lo} {R : AH} {X : Value → Lo → AH → Prop} {st : List Stmt} {Q : Flow → Lo → AH → Prop} {NC TC : Addr} {σ : SS} {r : NI}
theorem exs_np (f : Int → Int) {v : Value} (ok : σ.Ok) (hr : r ∈ σ.recs) (hv : v = vI (f r.np)) (h : EXS C A fx st m (SC NC TC { σ with recs := updR' σ.recs r.node fun q => { q with np := f q.np } } ++ R) Q X) :
    EXS C A fx st m (AH.put (SC NC TC σ ++ R) r.ia (.inst NC (some r.id) (slSet [some (vI r.node), some (vI r.np), some (.ref r.la)] 1 v))) Q X := exs_nodup fun hn => by
  rw [AH.keys_put] at hn
  rw [hv, show slSet [some (vI r.node), some (vI r.np), some (Value.ref r.la)] 1 (vI (f r.np)) = [some (vI r.node), some (vI (f r.np)), some (Value.ref r.la)] from rfl, put_npf f hn ok hr]
  exact h
theorem exs_ra {ra : Addr} {l l' : List Int} {xs : List Value} (hr : σ.rdy = some (ra, l)) (hv : xs = iv l') (h : EXS C A fx st m (SC NC TC { σ with rdy := some (ra, l') } ++ R) Q X) :
    EXS C A fx st m (AH.put (SC NC TC σ ++ R) ra (.list xs)) Q X := exs_nodup fun hn => by
  rw [AH.keys_put] at hn
  rw [hv, put_ra hn hr]
  exact h
theorem exs_fs {fs : List (PySem.Str × Value)} (h : EXS C A fx st m (SC NC TC { σ with fs := fs } ++ R) Q X) : EXS C A fx st m (AH.put (SC NC TC σ ++ R) σ.sd (.ns fs)) Q X := exs_nodup fun hn => by
  rw [AH.keys_put] at hn
  rw [put_fs hn]
  exact h
end
theorem g_np {σ : SS} {k : Int} {f : Int → Int} : SS.g { σ with recs := updR' σ.recs k fun q => { q with np := f q.np } } = gUpd σ.g k fun x => (f x.1, x.2) := g_upd fun _ => ⟨rfl, rfl⟩
end Mine

namespace Mine
open PySem PySem.W PyProof.Rows
open Sem (wp)

noncomputable def gAt (g : G) (k : Int) : Option (Int × List Int) := (g.find? fun p => p.1 = k).map (·.2)
theorem gAt_mem {g : G} {k : Int} {x : Int × List Int} (hn : (g.map (·.1)).Nodup) (h : (k, x) ∈ g) : gAt g k = some x := by
  unfold gAt
  induction g with
  | nil => cases h
  | cons p r ih =>
    rw [List.map_cons, List.nodup_cons] at hn
    rw [List.find?_cons]
    by_cases hp : p.1 = k
    · rcases List.mem_cons.mp h with e | h
      · rw [← e]; simp
      · exact absurd (by rw [hp]; exact List.mem_map_of_mem h) hn.1
    · rw [decide_eq_false hp]
      rcases List.mem_cons.mp h with e | h
      · rw [← e] at hp; exact absurd rfl hp
      · exact ih hn.2 h
theorem mem_gAt {g : G} {k : Int} {x : Int × List Int} (h : gAt g k = some x) : (k, x) ∈ g := by
  unfold gAt at h
  refine hide fun z364 => ?_
  obtain ⟨p, h1, h2⟩ := Option.map_eq_some_iff.mp h
  refine z364 ?_
  have h3 := List.find?_some h1
  have h4 := List.mem_of_find?_eq_some h1
  rw [← of_decide_eq_true h3, ← h2]
  exact h4
theorem rec_gAt {σ : SS} {r : NI} (ok : σ.Ok) (hr : r ∈ σ.recs) : gAt σ.g r.node = some (r.np, r.su) :=
  gAt_mem (by rw [g_nodes]; exact ok.nodes) (List.mem_map.mpr ⟨r, hr, rfl⟩)
theorem gAt_upd {g : G} {k j : Int} {f : Int × List Int → Int × List Int} : gAt (gUpd g k f) j = (gAt g j).map fun x => if j = k then f x else x := by
  unfold gAt gUpd
  induction g with
  | nil => rfl
  | cons p r ih =>
    rw [List.map_cons, List.find?_cons, List.find?_cons]
    by_cases hj : p.1 = j
    · have e1 : (if p.1 = k then (p.1, f p.2) else p).1 = j := by split <;> exact hj
      rw [decide_eq_true e1, decide_eq_true hj]
      simp only [Option.map_some]
      congr 1
      by_cases hk : p.1 = k
      · rw [if_pos hk, if_pos (hj ▸ hk)]
      · rw [if_neg hk, if_neg (fun e => hk (hj.trans e))]
    · have e1 : ¬ (if p.1 = k then (p.1, f p.2) else p).1 = j := by split <;> exact hj
      rw [decide_eq_false e1, decide_eq_false hj]
      exact ih
noncomputable def gDec (st : G × List Int) (s : Int) : G × List Int :=
  let g' := gUpd st.1 s fun x => (x.1 - 1, x.2)
  (g', if (gAt g' s).map (·.1) = some 0 then st.2 ++ [s] else st.2)
noncomputable def gDone1 (st : G × List Int) (x : Int) : G × List Int := (((gAt st.1 x).map (·.2)).getD []).foldl gDec (gSet (-2) st.1 x, st.2)
noncomputable def gDone (st : G × List Int) (xs : List Int) : G × List Int := xs.foldl gDone1 st
theorem dec_nodes {st : G × List Int} {s : Int} : (gDec st s).1.map (·.1) = st.1.map (·.1) := upd_nodes (g := st.1) (k := s) (f := fun x => (x.1 - 1, x.2))
theorem decs_nodes : ∀ {su : List Int} {st : G × List Int}, (su.foldl gDec st).1.map (·.1) = st.1.map (·.1)
  | [], _ => rfl
  | s :: r, st => by rw [List.foldl_cons, decs_nodes, dec_nodes]
theorem done1_nodes {st : G × List Int} {x : Int} : (gDone1 st x).1.map (·.1) = st.1.map (·.1) := by
  unfold gDone1
  rw [decs_nodes]
  exact upd_nodes (g := st.1) (k := x) (f := fun y => (-2, y.2))
theorem done_nodes : ∀ {xs : List Int} {st : G × List Int}, (xs.foldl gDone1 st).1.map (·.1) = st.1.map (·.1)
  | [], _ => rfl
  | s :: r, st => by rw [List.foldl_cons, done_nodes, done1_nodes]
theorem dec_su {st : G × List Int} {s j : Int} : (gAt (gDec st s).1 j).map (·.2) = (gAt st.1 j).map (·.2) := by
  show (gAt (gUpd st.1 s fun x => (x.1 - 1, x.2)) j).map (·.2) = _
  rw [gAt_upd, Option.map_map]
  congr 1
  funext x
  simp only [Function.comp]
  split <;> rfl
theorem decs_su {j : Int} : ∀ {su : List Int} {st : G × List Int}, (gAt (su.foldl gDec st).1 j).map (·.2) = (gAt st.1 j).map (·.2)
  | [], _ => rfl
  | s :: r, st => by rw [List.foldl_cons, decs_su, dec_su]
theorem set_su {g : G} {v x j : Int} : (gAt (gSet v g x) j).map (·.2) = (gAt g j).map (·.2) := by
  unfold gSet
  rw [gAt_upd, Option.map_map]
  congr 1
  funext y
  simp only [Function.comp]
  split <;> rfl
theorem done1_su {st : G × List Int} {x j : Int} : (gAt (gDone1 st x).1 j).map (·.2) = (gAt st.1 j).map (·.2) := by
  unfold gDone1
  rw [decs_su]
  exact set_su
theorem done_su {j : Int} : ∀ {xs : List Int} {st : G × List Int}, (gAt (xs.foldl gDone1 st).1 j).map (·.2) = (gAt st.1 j).map (·.2)
  | [], _ => rfl
  | s :: r, st => by rw [List.foldl_cons, done_su, done1_su]
theorem decs_len : ∀ {su : List Int} {st : G × List Int}, (su.foldl gDec st).2.length ≤ st.2.length + su.length
  | [], _ => Nat.le_refl _
  | s :: r, st => by
    rw [List.foldl_cons]
    refine Nat.le_trans decs_len ?_
    have : (gDec st s).2.length ≤ st.2.length + 1 := by
      unfold gDec
      dsimp only
      split
      · rw [List.length_append]; exact Nat.le_refl _
      · omega
    rw [List.length_cons]
    omega
theorem done_len {b : Nat} (st : G × List Int) (h : ∀ j, (((gAt st.1 j).map (·.2)).getD []).length ≤ b) : ∀ (xs : List Int), (gDone st xs).2.length ≤ st.2.length + xs.length * b := by
  intro xs
  induction xs generalizing st with
  | nil => show st.2.length ≤ _; omega
  | cons x r ih =>
    have h1 : ∀ j, (((gAt (gDone1 st x).1 j).map (·.2)).getD []).length ≤ b := fun j => by rw [done1_su]; exact h j
    have h2 := ih (gDone1 st x) h1
    have h3 : (gDone1 st x).2.length ≤ st.2.length + b := by
      unfold gDone1
      refine Nat.le_trans decs_len ?_
      have := h x
      show st.2.length + _ ≤ _
      omega
    rw [List.length_cons, Nat.succ_mul]
    show (gDone (gDone1 st x) r).2.length ≤ _
    omega
end Mine

namespace Mine
open PySem PySem.W PyProof.Rows
open Sem (wp)

section
variable {C : Cfg} {A : Around} {fx : Fx} {m m' : Lo} {H H' : AH} {X : Value → Lo → AH → Prop}
theorem ev_joined1 {e : PySem.Expr} {pos : Pos} {Q : Value → Lo → AH → Prop} (h : EV C A fx e m H Q X) : EV C A fx (.JoinedStr [e] pos) m H Q X := h
end

noncomputable def gSuc (g : G) (k : Int) : List Int := ((gAt g k).map (·.2)).getD []
structure Fin' (g : G) (F : List Int) : Prop where
  all : ∀ k ∈ g.map (·.1), k ∈ F
  sub : ∀ k ∈ F, k ∈ g.map (·.1)
  nodup : F.Nodup
  succ : ∀ i k, F[i]? = some k → ∀ s ∈ gSuc g k, s ∈ F.take i
noncomputable def Chain' (g : G) : List Int → Prop
  | [] => True
  | [_] => True
  | a :: b :: r => b ∈ gSuc g a ∧ Chain' g (b :: r)
noncomputable def Ring (g : G) (v : List Int) : Prop := ∃ a r, v = a :: r ++ [a] ∧ Chain' g v
end Mine

namespace Mine
open PySem PySem.W PyProof.Rows
open Sem (wp)

structure FR where
  node : Int
  w : Addr
  I : Addr
  la : Addr
  idx : Nat
noncomputable def FR.cells (f : FR) : AH := [(f.w, .flds (.type "method-wrapper") [.builtin "list_iterator.__next__", .ref f.I]), (f.I, .flds (.type "list_iterator") [.ref f.la, vI f.idx])]
noncomputable def Tak (g : G) (fin : List Int) : Option Int → List FR → Prop
  | _, [] => True
  | c, f :: r => (∀ q s, q < f.idx → (gSuc g f.node)[q]? = some s → s ∈ fin ∨ (q + 1 = f.idx ∧ c = some s)) ∧ (∀ s, c = some s → s ∈ gSuc g f.node) ∧ Tak g fin (some f.node) r
theorem Tak.push {g : G} {fin : List Int} {k : Int} {fr : List FR} {w I la : Addr} (h : Tak g fin (some k) fr) : Tak g fin none (⟨k, w, I, la, 0⟩ :: fr) :=
  ⟨fun q s hq => absurd hq (Nat.not_lt_zero _), fun s e => (by cases e), h⟩
theorem Tak.take {g : G} {fin : List Int} {s : Int} {f : FR} {r : List FR} (h : Tak g fin none (f :: r)) (hs : (gSuc g f.node)[f.idx]? = some s) : Tak g fin (some s) ({ f with idx := f.idx + 1 } :: r) := by
  refine ⟨fun q s' hq hs' => ?_, fun s' e => ?_, h.2.2⟩
  · have hq' : q < f.idx + 1 := hq
    rcases Nat.lt_or_eq_of_le (Nat.le_of_lt_succ hq') with hq'' | rfl
    · rcases h.1 q s' hq'' hs' with h1 | ⟨_, h2⟩
      · exact .inl h1
      · cases h2
    · have e : (gSuc g f.node)[f.idx]? = some s' := hs'
      rw [hs] at e
      exact .inr ⟨rfl, e⟩
  · cases e
    exact List.mem_of_getElem? hs
theorem Tak.mono {g : G} {fin fin' : List Int} (hf : ∀ x ∈ fin, x ∈ fin') : ∀ {c : Option Int} {fr : List FR}, Tak g fin c fr → Tak g fin' c fr
  | _, [], _ => trivial
  | _, f :: r, h => ⟨fun q s hq hs => (h.1 q s hq hs).imp (hf s) id, h.2.1, Tak.mono hf h.2.2⟩
theorem Tak.done {g : G} {fin : List Int} {k : Int} (hk : k ∈ fin) : ∀ {fr : List FR}, Tak g fin (some k) fr → Tak g fin none fr
  | [], _ => trivial
  | f :: r, h => ⟨fun q s hq hs => .inl ((h.1 q s hq hs).elim id fun e => (by cases e.2; exact hk)), fun s e => (by cases e), h.2.2⟩
theorem Tak.pop {g : G} {fin : List Int} {f : FR} {r : List FR} (h : Tak g fin none (f :: r)) : Tak g (fin ++ [f.node]) none r :=
  Tak.done (List.mem_append_right _ (List.mem_singleton.mpr rfl)) (Tak.mono (fun x hx => List.mem_append_left _ hx) h.2.2)
theorem Tak.all {g : G} {fin : List Int} {f : FR} {r : List FR} (h : Tak g fin none (f :: r)) (hi : (gSuc g f.node)[f.idx]? = none) : ∀ s ∈ gSuc g f.node, s ∈ fin := fun s hs => by
  obtain ⟨q, hq⟩ := List.getElem?_of_mem hs
  have h1 := (List.getElem?_eq_some_iff.mp hq).1
  have h2 := List.getElem?_eq_none_iff.mp hi
  rcases h.1 q s (by omega) hq with h3 | ⟨_, h3⟩
  · exact h3
  · cases h3
theorem chain_snoc {g : G} {x y : Int} (hy : y ∈ gSuc g x) : ∀ {l : List Int}, Chain' g (l ++ [x]) → Chain' g (l ++ [x] ++ [y])
  | [], _ => ⟨hy, trivial⟩
  | [a], h => ⟨h.1, hy, trivial⟩
  | a :: b :: r, h => ⟨h.1, chain_snoc hy (l := b :: r) h.2⟩
theorem Tak.chain {g : G} {fin : List Int} {f : FR} {b : List FR} : ∀ {a : List FR} {c : Int}, Tak g fin (some c) (a ++ f :: b) → Chain' g (f.node :: (a.map (·.node)).reverse ++ [c])
  | [], c, h => ⟨h.2.1 c rfl, trivial⟩
  | f0 :: a, c, h => by
    have h1 := Tak.chain (a := a) h.2.2
    rw [List.map_cons, List.reverse_cons]
    exact chain_snoc (h.2.1 c rfl) (l := f.node :: (a.map (·.node)).reverse) h1
theorem Tak.ring {g : G} {fin : List Int} {a b : List FR} {f : FR} (h : Tak g fin (some f.node) (a ++ f :: b)) : Ring g (f.node :: (a.map (·.node)).reverse ++ [f.node]) := ⟨f.node, _, rfl, Tak.chain h⟩
end Mine

namespace Mine
open PySem PySem.W PyProof.Rows
open Sem (wp)

noncomputable def left (g : G) (seen : List Int) : Nat := ((g.filter fun p => decide (p.1 ∉ seen)).map fun p => p.2.2.length + 1).sum
noncomputable def Msr (g : G) (seen : List Int) (fr : List FR) : Nat := (fr.map fun f => (gSuc g f.node).length - f.idx).sum + left g seen
theorem left_mono {seen : List Int} {k : Int} : ∀ {g : G}, left g (k :: seen) ≤ left g seen
  | [] => Nat.le_refl _
  | p :: r => by
    have ih := left_mono (seen := seen) (k := k) (g := r)
    unfold left at ih ⊢
    rw [List.filter_cons, List.filter_cons]
    by_cases h : p.1 ∈ seen
    · rw [if_neg (by simp [h]), if_neg (by simp [h])]
      exact ih
    · rw [if_pos (c := decide (p.1 ∉ seen) = true) (by simp [h])]
      split
      · rw [List.map_cons, List.map_cons, List.sum_cons, List.sum_cons]; omega
      · rw [List.map_cons, List.sum_cons]; omega
theorem left_push {seen : List Int} {k : Int} {x : Int × List Int} (hk : k ∉ seen) : ∀ {g : G}, (k, x) ∈ g → left g (k :: seen) + x.2.length + 1 ≤ left g seen
  | [], h => by cases h
  | p :: r, h => by
    unfold left
    rw [List.filter_cons, List.filter_cons]
    by_cases hp : p.1 = k
    · rw [if_neg (by simp [hp]), if_pos (by rw [hp]; simp [hk]), List.map_cons, List.sum_cons]
      have hm := left_mono (seen := seen) (k := k) (g := r)
      unfold left at hm
      rcases List.mem_cons.mp h with e | h
      · rw [← e]; dsimp only; omega
      · have ih := left_push hk h
        unfold left at ih
        omega
    · rcases List.mem_cons.mp h with e | h
      · rw [← e] at hp; exact absurd rfl hp
      · have ih := left_push hk h
        unfold left at ih
        by_cases hs : p.1 ∈ seen
        · rw [if_neg (by simp [hs]), if_neg (by simp [hs])]
          exact ih
        · rw [if_pos (by simp [hs, hp]), if_pos (by simp [hs]), List.map_cons, List.map_cons, List.sum_cons, List.sum_cons]
          omega
theorem gSuc_mem {g : G} {k : Int} (hn : (g.map (·.1)).Nodup) (hk : k ∈ g.map (·.1)) : ∃ v, (k, v, gSuc g k) ∈ g := by
  refine hide fun z365 => ?_
  obtain ⟨⟨k', v, su⟩, hp, rfl⟩ := List.mem_map.mp hk
  refine z365 ?_
  refine ⟨v, ?_⟩
  unfold gSuc
  rw [gAt_mem hn hp]
  exact hp
theorem Msr.push {g : G} {seen : List Int} {fr : List FR} {k : Int} {w I la : Addr} (hn : (g.map (·.1)).Nodup) (hk : k ∈ g.map (·.1)) (hs : k ∉ seen) : Msr g (k :: seen) (⟨k, w, I, la, 0⟩ :: fr) + 1 ≤ Msr g seen fr := by
  obtain ⟨v, hv⟩ := gSuc_mem hn hk
  have := left_push hs hv
  unfold Msr
  rw [List.map_cons, List.sum_cons]
  dsimp only at this ⊢
  omega
theorem Msr.take {g : G} {seen : List Int} {fr : List FR} {f : FR} (hi : f.idx < (gSuc g f.node).length) : Msr g seen ({ f with idx := f.idx + 1 } :: fr) + 1 ≤ Msr g seen (f :: fr) := by
  unfold Msr
  rw [List.map_cons, List.map_cons, List.sum_cons, List.sum_cons]
  dsimp only
  omega
theorem Msr.pop {g : G} {seen : List Int} {fr : List FR} {f : FR} : Msr g seen fr ≤ Msr g seen (f :: fr) := by
  unfold Msr
  rw [List.map_cons, List.sum_cons]
  omega
end Mine

namespace Mine
open PySem PySem.W PyProof.Rows
open Sem (wp)

noncomputable def place : List FR → List (Int × Value)
  | [] => []
  | f :: r => place r ++ [(f.node, vI (r.length : Nat))]
theorem place_keys : ∀ {fr : List FR}, (place fr).map (·.1) = (fr.map (·.node)).reverse
  | [] => rfl
  | f :: r => by
    show (place r ++ [(f.node, vI (r.length : Nat))]).map (fun p : Int × Value => p.1) = _
    rw [List.map_append, place_keys (fr := r)]
    simp
theorem place_mem {k : Int} {fr : List FR} : k ∈ (place fr).map (·.1) ↔ k ∈ fr.map (·.node) := by rw [place_keys, List.mem_reverse]
theorem place_len {fr : List FR} : (place fr).length = fr.length := by
  have := congrArg List.length (place_keys (fr := fr))
  simpa using this
theorem place_at {f : FR} {b : List FR} : ∀ {a : List FR}, (f.node, vI (b.length : Nat)) ∈ place (a ++ f :: b)
  | [] => List.mem_append_right _ (List.mem_singleton.mpr rfl)
  | g :: a => List.mem_append_left _ (place_at (a := a))
theorem place_push {f : FR} {r : List FR} (h : f.node ∉ r.map (·.node)) : stored (place r) f.node (vI (r.length : Nat)) = place (f :: r) := stored_not (fun hm => h (place_mem.mp hm))
theorem place_pop {f : FR} {r : List FR} (h : f.node ∉ r.map (·.node)) : (place (f :: r)).filter (fun p => decide (p.1 ≠ f.node)) = place r := by
  show (place r ++ [(f.node, vI (r.length : Nat))]).filter (fun p => decide (p.1 ≠ f.node)) = _
  rw [List.filter_append]
  have h1 : (place r).filter (fun p => decide (p.1 ≠ f.node)) = place r := by
    rw [List.filter_eq_self]
    intro p hp
    exact decide_eq_true fun e => h (place_mem.mp (by rw [← e]; exact List.mem_map_of_mem hp))
  rw [h1]
  simp
end Mine

namespace Mine
open PySem PySem.W PyProof.Rows
open Sem (wp)

structure DFS (g : G) (seen fin : List Int) (fr : List FR) (cur : Option Int) : Prop where
  mem : ∀ k, k ∈ seen ↔ k ∈ fin ∨ k ∈ fr.map (·.node)
  dis : ∀ k ∈ fin, k ∉ fr.map (·.node)
  finN : fin.Nodup
  stN : (fr.map (·.node)).Nodup
  inG : ∀ k ∈ seen, k ∈ g.map (·.1)
  succ : ∀ i k, fin[i]? = some k → ∀ s ∈ gSuc g k, s ∈ fin.take i
  tak : Tak g fin cur fr
theorem DFS.init {g : G} : DFS g [] [] [] none := ⟨fun k => (by simp), fun k h => (by cases h), List.nodup_nil, List.nodup_nil, fun k h => (by cases h), fun i k h => (by simp at h), trivial⟩
theorem DFS.push {g : G} {seen fin : List Int} {fr : List FR} {k : Int} {w I la : Addr} (h : DFS g seen fin fr (some k)) (hk : k ∉ seen) (hg : k ∈ g.map (·.1)) : DFS g (k :: seen) fin (⟨k, w, I, la, 0⟩ :: fr) none := by
  have h1 : k ∉ fr.map (·.node) := fun hm => hk ((h.mem k).mpr (.inr hm))
  have h2 : k ∉ fin := fun hm => hk ((h.mem k).mpr (.inl hm))
  refine ⟨fun j => ?_, fun j hj hm => ?_, h.finN, List.nodup_cons.mpr ⟨h1, h.stN⟩, fun j hj => ?_, h.succ, h.tak.push⟩
  · rw [List.mem_cons, h.mem j, List.map_cons, List.mem_cons]
    constructor
    · rintro (e | e | e)
      · exact .inr (.inl e)
      · exact .inl e
      · exact .inr (.inr e)
    · rintro (e | e | e)
      · exact .inr (.inl e)
      · exact .inl e
      · exact .inr (.inr e)
  · rcases List.mem_cons.mp hm with e | hm
    · have e : j = k := e
      exact h2 (by rw [← e]; exact hj)
    · exact h.dis j hj hm
  · rcases List.mem_cons.mp hj with rfl | hj
    · exact hg
    · exact h.inG j hj
theorem DFS.take {g : G} {seen fin : List Int} {s : Int} {f : FR} {r : List FR} (h : DFS g seen fin (f :: r) none) (hs : (gSuc g f.node)[f.idx]? = some s) : DFS g seen fin ({ f with idx := f.idx + 1 } :: r) (some s) :=
  ⟨h.mem, h.dis, h.finN, h.stN, h.inG, h.succ, h.tak.take hs⟩
theorem DFS.done {g : G} {seen fin : List Int} {fr : List FR} {k : Int} (h : DFS g seen fin fr (some k)) (hk : k ∈ fin) : DFS g seen fin fr none := ⟨h.mem, h.dis, h.finN, h.stN, h.inG, h.succ, h.tak.done hk⟩
theorem DFS.pop {g : G} {seen fin : List Int} {f : FR} {r : List FR} (h : DFS g seen fin (f :: r) none) (hi : (gSuc g f.node)[f.idx]? = none) : DFS g seen (fin ++ [f.node]) r none := by
  have hst := List.nodup_cons.mp h.stN
  have hf : f.node ∉ fin := fun hm => h.dis _ hm List.mem_cons_self
  refine ⟨fun k => ?_, fun k hk hm => ?_, ?_, hst.2, h.inG, fun i k hik s hs => ?_, h.tak.pop⟩
  · rw [h.mem k, List.map_cons, List.mem_cons, List.mem_append, List.mem_singleton, or_assoc]
  · rcases List.mem_append.mp hk with hk | hk
    · exact h.dis k hk (List.mem_cons_of_mem _ hm)
    · rw [List.mem_singleton.mp hk] at hm; exact hst.1 hm
  · rw [List.nodup_append]
    exact ⟨h.finN, by simp, fun a ha b hb e => hf (by rw [← List.mem_singleton.mp hb, ← e]; exact ha)⟩
  · rcases Nat.lt_or_ge i fin.length with hlt | hge
    · rw [List.getElem?_append_left hlt] at hik
      rw [List.take_append_of_le_length (Nat.le_of_lt hlt)]
      exact h.succ i k hik s hs
    · rw [List.getElem?_append_right hge] at hik
      have hi0 : i = fin.length := by
        have := (List.getElem?_eq_some_iff.mp hik).1
        simp at this; exact Nat.le_antisymm (Nat.le_of_sub_eq_zero this) hge
      subst hi0
      simp at hik
      subst hik
      rw [List.take_append_of_le_length (Nat.le_refl _), List.take_length]
      exact h.tak.all hi s hs
theorem DFS.fin {g : G} {seen fin : List Int} (h : DFS g seen fin [] none) (ha : ∀ k ∈ g.map (·.1), k ∈ seen) : Fin' g fin :=
  ⟨fun k hk => ((h.mem k).mp (ha k hk)).elim id fun z => (by cases z), fun k hk => h.inG k ((h.mem k).mpr (.inl hk)), h.finN, h.succ⟩
end Mine

namespace Mine
open PySem PySem.W PyProof.Rows
open Sem (wp)

structure DA where
  sk : Addr
  ik : Addr
  se : Addr
  d : Addr
noncomputable def FC (fr : List FR) : AH := fr.flatMap FR.cells
noncomputable def DC (a : DA) (ep : Nat) (seen : List Int) (fr : List FR) (R : AH) : AH :=
  (a.sk, .list (iv (fr.map (·.node)).reverse)) :: (a.ik, .list (fr.map fun f => Value.ref f.w).reverse) :: (a.se, .set seen) :: (a.d, .dict (place fr) ep) :: (FC fr ++ R)
theorem dc_sk {a : DA} {ep : Nat} {seen : List Int} {fr : List FR} {R : AH} : (a.sk, AO.list (iv (fr.map (·.node)).reverse)) ∈ DC a ep seen fr R := List.mem_cons_self
theorem dc_ik {a : DA} {ep : Nat} {seen : List Int} {fr : List FR} {R : AH} : (a.ik, AO.list (fr.map fun f => Value.ref f.w).reverse) ∈ DC a ep seen fr R := List.mem_cons_of_mem _ List.mem_cons_self
theorem dc_se {a : DA} {ep : Nat} {seen : List Int} {fr : List FR} {R : AH} : (a.se, AO.set seen) ∈ DC a ep seen fr R := List.mem_cons_of_mem _ (List.mem_cons_of_mem _ List.mem_cons_self)
theorem dc_d {a : DA} {ep : Nat} {seen : List Int} {fr : List FR} {R : AH} : (a.d, AO.dict (place fr) ep) ∈ DC a ep seen fr R := List.mem_cons_of_mem _ (List.mem_cons_of_mem _ (List.mem_cons_of_mem _ List.mem_cons_self))
theorem dc_R {a : DA} {ep : Nat} {seen : List Int} {fr : List FR} {R : AH} {p : Addr × AO} (h : p ∈ R) : p ∈ DC a ep seen fr R := List.mem_cons_of_mem _ (List.mem_cons_of_mem _ (List.mem_cons_of_mem _ (List.mem_cons_of_mem _ (List.mem_append_right _ h))))
theorem dc_f {a : DA} {ep : Nat} {seen : List Int} {fr : List FR} {R : AH} {p : Addr × AO} (h : p ∈ FC fr) : p ∈ DC a ep seen fr R := List.mem_cons_of_mem _ (List.mem_cons_of_mem _ (List.mem_cons_of_mem _ (List.mem_cons_of_mem _ (List.mem_append_left _ h))))
noncomputable def un (g : G) (seen : List Int) : Nat := (g.filter fun p => decide (p.1 ∉ seen)).length
theorem un_mono {seen : List Int} {k : Int} : ∀ {g : G}, un g (k :: seen) ≤ un g seen
  | [] => Nat.le_refl _
  | p :: r => by
    have ih := un_mono (seen := seen) (k := k) (g := r)
    unfold un at ih ⊢
    rw [List.filter_cons, List.filter_cons]
    by_cases h : p.1 ∈ seen
    · rw [if_neg (by simp [h]), if_neg (by simp [h])]
      exact ih
    · rw [if_pos (c := decide (p.1 ∉ seen) = true) (by simp [h])]
      split
      · rw [List.length_cons, List.length_cons]; omega
      · rw [List.length_cons]; omega
theorem un_push {seen : List Int} {k : Int} (hk : k ∉ seen) : ∀ {g : G}, k ∈ g.map (·.1) → un g (k :: seen) + 1 ≤ un g seen
  | [], h => by cases h
  | p :: r, h => by
    unfold un
    rw [List.filter_cons, List.filter_cons]
    by_cases hp : p.1 = k
    · rw [if_neg (by simp [hp]), if_pos (by rw [hp]; simp [hk]), List.length_cons]
      have hm := un_mono (seen := seen) (k := k) (g := r)
      unfold un at hm
      omega
    · rw [List.map_cons, List.mem_cons] at h
      have ih := un_push hk (h.resolve_left fun e => hp e.symm)
      unfold un at ih
      by_cases hs : p.1 ∈ seen
      · rw [if_neg (by simp [hs]), if_neg (by simp [hs])]
        exact ih
      · rw [if_pos (by simp [hs, hp]), if_pos (by simp [hs]), List.length_cons, List.length_cons]
        omega
theorem un_nil {g : G} : un g [] = g.length := by unfold un; simp
end Mine

namespace Mine
open PySem PySem.W PyProof.Rows
open Sem (wp)

section
variable {C : Cfg} {A : Around} {fx : Fx} {m m' : Lo} {H H' : AH} {X : Value → Lo → AH → Prop}
theorem pick_from {xs : List Value} (a : Nat) : pickL xs (some (a : Int)) none none = xs.drop a := by
  unfold pickL; rw [slicePick_from']
theorem pick_upto {xs : List Value} (b : Nat) : pickL xs none (some (b : Int)) none = xs.take b := by
  unfold pickL; rw [slicePick_upto']

theorem ev_neg {i : Int} {k : Nat} {pos pos' : Pos} {Q : Value → Lo → AH → Prop} (h : Q (vI (-i)) m H) : EV C A fx (.UnaryOp .USub (.Constant (.int i) k pos) pos') m H Q X := fun s S =>
  UnaryOp_ (wpAny_Constant_int (neg_int ⟨m, H, (S.toks _).1, (S.toks _).2, h⟩))

theorem boot_stop : bootBuiltins "StopIteration" = some (.type "StopIteration") := by decide +kernel
theorem ex_del1 {o i : PySem.Expr} {p pos : Pos} {Q : Flow → Lo → AH → Prop} (h : EV C A fx o m H (fun x m₁ H₁ => EV C A fx i m₁ H₁ (fun y m₂ H₂ => DI C A fx x y m₂ H₂ (Q .next) X) X) X) : EX C A fx (.Delete [.Subscript o i p] pos) m H Q X := by
  show AW C A fx (exec _ _) m H _ X
  rw [arm_exec_Delete, arm_deleteEach_cons, arm_deleteEach_nil]
  refine aw_bind (aw_standAt (aw_bind (aw_bind ?_)))
  have e : delete (.Subscript o i p) fx.env = (do
      let ov ← eval o fx.env
      let iv ← holding [ov] (eval i fx.env)
      standAt p
      holding [ov, iv] (delItem ov iv)
      release [ov, iv] []) := rfl
  rw [e]
  exact aw_bind (aw_mono h (fun x _ _ h₁ => aw_bind (aw_holding (aw_mono h₁ (fun y _ _ h₂ => aw_bind (aw_standAt (aw_bind (aw_holding (aw_mono (h₂ x y rfl rfl) (fun _ _ _ h₃ => aw_release (aw_pure (aw_pure h₃))) fun _ _ _ x => x))))) fun _ _ _ x => x))) fun _ _ _ x => x)

theorem put_fresh {x : PySem.Str} {v : Value} (h : (m.any fun p => p.1 == x) = false) : m.put x v = (x, v) :: m := by
  unfold Lo.put
  congr 1
  rw [List.filter_eq_self]
  intro p hp
  have := List.any_eq_false.mp h p hp
  simpa using this
theorem asg_nmF {sc : Scope} {os : List (PySem.Str × NameKind)} {x : PySem.Str} {pos : Pos} {v : Value} {Q : Lo → AH → Prop} (Z : Sc fx sc os) (hk : stor (os.lookup x) = true) (hx : (m.any fun p => p.1 == x) = false) (h : Q ((x, v) :: m) H) : ASG C A fx (.Name x pos) v m H Q X :=
  asg_nm Z hk (by rw [put_fresh hx]; exact h)

noncomputable def midQ (P : Lo → AH → Prop) (Q : Flow → Lo → AH → Prop) : Flow → Lo → AH → Prop := fun f m H => match f with
  | .next => P m H
  | f => Q f m H
theorem mid_next {P : Lo → AH → Prop} {Q : Flow → Lo → AH → Prop} (h : P m H) : midQ P Q .next m H := h
theorem mid_ret {P : Lo → AH → Prop} {Q : Flow → Lo → AH → Prop} {v : Value} (h : Q (.ret v) m H) : midQ P Q (.ret v) m H := h
theorem exs_mid {st : Stmt} {r : List Stmt} {Q : Flow → Lo → AH → Prop} (P : Lo → AH → Prop) (h : EX C A fx st m H (midQ P Q) X) (hr : ∀ m H, P m H → EXS C A fx r m H Q X) : EXS C A fx (st :: r) m H Q X :=
  exs_cons (aw_mono h (fun f m H q => by revert q; generalize erF f = f'; intro q; cases f' <;> first | exact hr m H q | exact q) fun _ _ _ x => x)
theorem try_next {o : List Stmt} {Q : Flow → Lo → AH → Prop} (h : EXS C A fx o m H Q X) : tryQ C A fx o Q X .next m H := h
theorem try_ret {o : List Stmt} {Q : Flow → Lo → AH → Prop} {v : Value} (h : Q (.ret v) m H) : tryQ C A fx o Q X (.ret v) m H := h
theorem try_brk {o : List Stmt} {Q : Flow → Lo → AH → Prop} (h : Q .brk m H) : tryQ C A fx o Q X .brk m H := h
end

theorem put_mid {X Y : AH} {a : Addr} {o o' : AO} (hn : (AH.keys (X ++ (a, o') :: Y)).Nodup) : AH.put (X ++ (a, o') :: Y) a o = X ++ (a, o) :: Y := by
  rw [keys_append, keys_cons, List.nodup_append] at hn
  refine hide fun z366 => ?_
  obtain ⟨_, h2, h3⟩ := hn
  refine z366 ?_
  have h4 : a ∉ X.keys := fun h => h3 a h a List.mem_cons_self rfl
  rw [put_append, put_none h4, put_head (List.nodup_cons.mp h2).1]
theorem dc_take {a : DA} {ep : Nat} {seen : List Int} {f : FR} {r : List FR} {R : AH} (hn : (AH.keys (DC a ep seen (f :: r) R)).Nodup) :
    AH.put (DC a ep seen (f :: r) R) f.I (.flds (.type "list_iterator") [.ref f.la, vI (f.idx + 1 : Nat)]) = DC a ep seen ({ f with idx := f.idx + 1 } :: r) R :=
  put_mid (X := [_, _, _, _, _]) (Y := FC r ++ R) hn
noncomputable def PC (a : DA) (ep : Nat) (seen : List Int) (st : List Value) (it : List Value) (pl : List (Int × Value)) (R : AH) : AH :=
  (a.sk, .list st) :: (a.ik, .list it) :: (a.se, .set seen) :: (a.d, .dict pl ep) :: R
theorem dc_end {a : DA} {ep : Nat} {seen : List Int} {f : FR} {r : List FR} {R : AH} {o : AO} (hn : (AH.keys (DC a ep seen (f :: r) R)).Nodup) :
    Wk (AH.put (DC a ep seen (f :: r) R) f.I o) (PC a ep seen (iv (r.map (·.node)).reverse ++ [vI f.node]) ((r.map fun f => Value.ref f.w).reverse ++ [.ref f.w]) (place (f :: r)) (FC r ++ R)) := by
  have e : AH.put (DC a ep seen (f :: r) R) f.I o = _ := put_mid (X := [_, _, _, _, _]) (Y := FC r ++ R) hn
  rw [e]
  have e1 : iv (((f :: r).map (·.node)).reverse) = iv (r.map (·.node)).reverse ++ [vI f.node] := by
    rw [List.map_cons, List.reverse_cons, iv_append]; rfl
  have e2 : ((f :: r).map fun f => Value.ref f.w).reverse = (r.map fun f => Value.ref f.w).reverse ++ [.ref f.w] := by
    rw [List.map_cons, List.reverse_cons]
  rw [← e1, ← e2]
  exact Wk.keep (Wk.keep (Wk.keep (Wk.keep (Wk.cons (Wk.cons Wk.refl)))))
theorem pc_sk {a : DA} {ep : Nat} {seen : List Int} {st it st' : List Value} {pl : List (Int × Value)} {R : AH} (hn : (AH.keys (PC a ep seen st it pl R)).Nodup) : AH.put (PC a ep seen st it pl R) a.sk (.list st') = PC a ep seen st' it pl R :=
  put_mid (X := []) (Y := _ :: _ :: _ :: R) hn
theorem pc_ik {a : DA} {ep : Nat} {seen : List Int} {st it it' : List Value} {pl : List (Int × Value)} {R : AH} (hn : (AH.keys (PC a ep seen st it pl R)).Nodup) : AH.put (PC a ep seen st it pl R) a.ik (.list it') = PC a ep seen st it' pl R :=
  put_mid (X := [_]) (Y := _ :: _ :: R) hn
theorem pc_se {a : DA} {ep : Nat} {seen seen' : List Int} {st it : List Value} {pl : List (Int × Value)} {R : AH} (hn : (AH.keys (PC a ep seen st it pl R)).Nodup) : AH.put (PC a ep seen st it pl R) a.se (.set seen') = PC a ep seen' st it pl R :=
  put_mid (X := [_, _]) (Y := _ :: R) hn
theorem pc_d {a : DA} {ep ep' : Nat} {seen : List Int} {st it : List Value} {pl pl' : List (Int × Value)} {R : AH} (hn : (AH.keys (PC a ep seen st it pl R)).Nodup) : AH.put (PC a ep seen st it pl R) a.d (.dict pl' ep') = PC a ep' seen st it pl' R :=
  put_mid (X := [_, _, _]) (Y := R) hn
theorem pc_msk {a : DA} {ep : Nat} {seen : List Int} {st it : List Value} {pl : List (Int × Value)} {R : AH} : (a.sk, AO.list st) ∈ PC a ep seen st it pl R := List.mem_cons_self
theorem pc_mik {a : DA} {ep : Nat} {seen : List Int} {st it : List Value} {pl : List (Int × Value)} {R : AH} : (a.ik, AO.list it) ∈ PC a ep seen st it pl R := List.mem_cons_of_mem _ List.mem_cons_self
theorem pc_mse {a : DA} {ep : Nat} {seen : List Int} {st it : List Value} {pl : List (Int × Value)} {R : AH} : (a.se, AO.set seen) ∈ PC a ep seen st it pl R := List.mem_cons_of_mem _ (List.mem_cons_of_mem _ List.mem_cons_self)
theorem pc_md {a : DA} {ep : Nat} {seen : List Int} {st it : List Value} {pl : List (Int × Value)} {R : AH} : (a.d, AO.dict pl ep) ∈ PC a ep seen st it pl R := List.mem_cons_of_mem _ (List.mem_cons_of_mem _ (List.mem_cons_of_mem _ List.mem_cons_self))
theorem pc_R {a : DA} {ep : Nat} {seen : List Int} {st it : List Value} {pl : List (Int × Value)} {R : AH} {p : Addr × AO} (h : p ∈ R) : p ∈ PC a ep seen st it pl R := List.mem_cons_of_mem _ (List.mem_cons_of_mem _ (List.mem_cons_of_mem _ (List.mem_cons_of_mem _ h)))
theorem dc_pc {a : DA} {ep : Nat} {seen : List Int} {fr : List FR} {R : AH} : DC a ep seen fr R = PC a ep seen (iv (fr.map (·.node)).reverse) ((fr.map fun f => Value.ref f.w).reverse) (place fr) (FC fr ++ R) := rfl

structure SR (g : G) (i : Nat) (seen fin : List Int) (fr : List FR) (cur : Option Int) : Prop where
  dfs : DFS g seen fin fr cur
  len : fr.length + fin.length = seen.length
  un : seen.length + un g seen ≤ g.length
  pre : ∀ p ∈ (g.map (·.1)).take i, p ∈ seen
section
variable {g : G} {i : Nat} {seen fin : List Int} {fr r : List FR} {f : FR} {k s : Int} {w I la : Addr} {cur : Option Int}
theorem SR.small (h : SR g i seen fin fr cur) : fr.length ≤ g.length ∧ seen.length ≤ g.length := by have := h.len; have := h.un; omega
theorem SR.push (h : SR g i seen fin fr (some k)) (hk : k ∉ seen) (hg : k ∈ g.map (·.1)) : SR g i (k :: seen) fin (⟨k, w, I, la, 0⟩ :: fr) none :=
  ⟨h.dfs.push hk hg, by have := h.len; simp only [List.length_cons]; omega, by have := un_push hk hg; have := h.un; rw [List.length_cons]; omega, fun p hp => List.mem_cons_of_mem _ (h.pre p hp)⟩
theorem SR.take (h : SR g i seen fin (f :: r) none) (hs : (gSuc g f.node)[f.idx]? = some s) : SR g i seen fin ({ f with idx := f.idx + 1 } :: r) (some s) := ⟨h.dfs.take hs, h.len, h.un, h.pre⟩
theorem SR.pop (h : SR g i seen fin (f :: r) none) (hi : (gSuc g f.node)[f.idx]? = none) : SR g i seen (fin ++ [f.node]) r none :=
  ⟨h.dfs.pop hi, by have := h.len; rw [List.length_cons] at this; rw [List.length_append, List.length_singleton]; omega, h.un, h.pre⟩
theorem SR.known (h : SR g i seen fin fr (some k)) (hk : k ∈ seen) (hf : k ∉ fr.map (·.node)) : SR g i seen fin fr none := ⟨h.dfs.done (((h.dfs.mem k).mp hk).resolve_right hf), h.len, h.un, h.pre⟩
theorem SR.enter (h : SR g i seen fin [] none) : SR g i seen fin [] (some k) := ⟨⟨h.dfs.mem, h.dfs.dis, h.dfs.finN, h.dfs.stN, h.dfs.inG, h.dfs.succ, trivial⟩, h.len, h.un, h.pre⟩
theorem SR.next (h : SR g i seen fin fr cur) (hk : (g.map (·.1))[i]? = some k) (hs : k ∈ seen) : SR g (i + 1) seen fin fr cur :=
  ⟨h.dfs, h.len, h.un, fun p hp => by
    rw [List.take_add_one, hk] at hp
    rcases List.mem_append.mp hp with hp | hp
    · exact h.pre p hp
    · rw [List.mem_singleton.mp hp]; exact hs⟩
end
theorem fr_split {k : Int} : ∀ {fr : List FR}, k ∈ fr.map (·.node) → ∃ a f b, fr = a ++ f :: b ∧ f.node = k
  | [], h => by cases h
  | f :: r, h => by
    by_cases e : f.node = k
    · exact ⟨[], f, r, rfl, e⟩
    · rw [List.map_cons, List.mem_cons] at h
      refine hide fun z367 => ?_
      obtain ⟨a, f', b, rfl, e'⟩ := fr_split (h.resolve_left fun q => e q.symm)
      refine z367 ?_
      exact ⟨f :: a, f', b, rfl, e'⟩
theorem place_dval {a b : List FR} {f : FR} (hn : ((a ++ f :: b).map (·.node)).Nodup) : dval (place (a ++ f :: b)) f.node = some (vI (b.length : Nat)) :=
  dval_mem (by rw [place_keys]; exact (List.reverse_perm _).symm.nodup hn) place_at
theorem ring_drop {a b : List FR} {f : FR} : (((a ++ f :: b).map (·.node)).reverse).drop b.length = f.node :: (a.map (·.node)).reverse := by
  rw [List.map_append, List.map_cons, List.reverse_append, List.reverse_cons, List.append_assoc, List.drop_append_of_le_length (by simp)]
  rw [List.drop_of_length_le (by simp)]
  rfl
end Mine

namespace Mine
open PySem PySem.W PyProof.Rows
open Sem (wp)

section
variable {α : Type} {C : Cfg} {A A' : Around} {fx fx' : Fx} {m m' m₁ : Lo} {H H' H₁ : AH} {X : Value → Lo → AH → Prop} {K : Frag} {s s' s₁ : Shared}

theorem tst_nil {Q : Bool → Lo → AH → Prop} (h : Q true m H) : TST C A fx [] m H Q X := h
theorem tst_cons {c : PySem.Expr} {r : List PySem.Expr} {Q : Bool → Lo → AH → Prop} (h : IT C A fx c m H (fun b m₁ H₁ => if b = true then TST C A fx r m₁ H₁ Q X else Q false m₁ H₁) X) : TST C A fx (c :: r) m H Q X := h
theorem gok1 {g : Comprehension} (h : GOK g) : ∀ g' ∈ [g], GOK g' := fun g' h' => by rw [List.mem_singleton.mp h']; exact h
noncomputable abbrev WkF (G : AH → AO → Addr → Prop) : AH → AO → Addr → Prop := fun H₂ acc a => ∃ H', Wk H₂ H' ∧ G H' acc a
theorem ev_listcompW {elt : PySem.Expr} {g : Comprehension} {gs : List Comprehension} {scope outer : Scope} {pos : Pos} {Q : Value → Lo → AH → Prop} (hsc : fx.env.scope = outer)
    (h : EV C A fx g.iter m H (fun x m₁ H₁ => TURNS C A fx (.ListComp elt (g :: gs) scope pos) scope outer g gs x (.list []) m₁ H₁ (WkF fun H₂ acc a => Q (.ref a) m₁ ((a, acc) :: H₂))) X)
    (hok : ∀ g' ∈ g :: gs, GOK g') (hb : scOkB scope outer = true) : EV C A fx (.ListComp elt (g :: gs) scope pos) m H Q X := by
  refine aw_wkp ?_
  refine ev_listcomp (Q := fun v m' H' => ∃ m'' H'', WkL m' m'' ∧ Wk H' H'' ∧ Q v m'' H'') hsc (aw_mono h (fun v m₁ H₁ h₁ => ?_) fun v m' H' x => ⟨m', H', WkL.refl, Wk.refl, x⟩) hok hb
  refine hide fun z368 => ?_
  obtain ⟨vals, P, h1, J, h2, h3, h4, h5⟩ := h₁
  refine z368 ?_
  refine ⟨vals, P, h1, J, h2, h3, h4, fun m₂ H₂ acc hj a ha => ?_⟩
  refine hide fun z369 => ?_
  obtain ⟨H', hW, q⟩ := h5 m₂ H₂ acc hj a ha
  refine z369 ?_
  exact ⟨_, _, WkL.refl, Wk.keep hW, q⟩
theorem bk_of {sc : Scope} (hsc : fx.env.scope = sc) (hk : sc.kind = .function) : fx.env.blockKind = fx.env.scope.kind := by
  unfold Env.blockKind; rw [hsc, hk]; rfl
theorem ex_listcompW {x : PySem.Str} {px spos : Pos} {elt : PySem.Expr} {g : Comprehension} {gs : List Comprehension} {scope outer : Scope} {os : List (PySem.Str × NameKind)} {pos : Pos} {Q : Flow → Lo → AH → Prop} (Z : Sc fx outer os) (hx : stor (os.lookup x) = true)
    (hs : (outer.kind == .function && outer.names.lookup x == some .local && px.line == (PySem.Expr.ListComp elt (g :: gs) scope pos).pos.line && !(scope.names.any fun (n, k) => n == x && (k == .local || k == .cell))) = true) (hl : spos.line = spos.line)
    (h : EV C A fx g.iter m H (fun x' m₁ H₁ => TURNS C A fx (.ListComp elt (g :: gs) scope pos) scope outer g gs x' (.list []) m₁ H₁ (WkF fun H₂ acc a => Q .next (m₁.put x (.ref a)) ((a, acc) :: H₂))) X)
    (hok : ∀ g' ∈ g :: gs, GOK g') (hb : scOkB scope outer = true) : EX C A fx (.Assign [.Name x px] (.ListComp elt (g :: gs) scope pos) spos) m H Q X := by
  refine aw_wkp ?_
  refine ex_listcomp (Q := fun f m' H' => ∃ m'' H'', WkL m' m'' ∧ Wk H' H'' ∧ Q f m'' H'') Z.scope (Z.own x hx) (swaps_eq (.inl ⟨_, _, _, rfl⟩) Z.scope hs (bk_of Z.scope (ScOk.of hb).okind)) (aw_mono h (fun v m₁ H₁ h₁ => ?_) fun v m' H' x => ⟨m', H', WkL.refl, Wk.refl, x⟩) hok hb
  refine hide fun z370 => ?_
  obtain ⟨vals, P, h1, J, h2, h3, h4, h5⟩ := h₁
  refine z370 ?_
  refine ⟨vals, P, h1, J, h2, h3, h4, fun m₂ H₂ acc hj a ha => ?_⟩
  refine hide fun z371 => ?_
  obtain ⟨H', hW, q⟩ := h5 m₂ H₂ acc hj a ha
  refine z371 ?_
  exact ⟨_, _, WkL.refl, Wk.keep hW, q⟩
theorem filter_take {α β : Type} {xs : List α} {i : Nat} {v : α} (h : xs[i]? = some v) (p : α → Bool) (f : α → β) : ((xs.take (i + 1)).filter p).map f = ((xs.take i).filter p).map f ++ (if p v = true then [f v] else []) := by
  rw [List.take_add_one, h, List.filter_append, List.map_append]
  congr 1
  show ((([v] : List α).filter p).map f) = _
  rw [List.filter_cons]
  split <;> rfl
theorem tst_mono {Q Q' : Bool → Lo → AH → Prop} (hq : ∀ b m H, Q b m H → Q' b m H) : ∀ {ifs : List PySem.Expr} {m : Lo} {H : AH}, TST C A fx ifs m H Q X → TST C A fx ifs m H Q' X
  | [], m, H, h => hq _ _ _ h
  | c :: r, m, H, h => by
    refine aw_mono h (fun b m₁ H₁ hb => ?_) fun _ _ _ z => z
    cases b with
    | true => exact if_yes (tst_mono hq (by simpa using hb))
    | false => exact if_no (hq _ _ _ (by simpa using hb))
theorem gens_lc {elt : PySem.Expr} {gs : List Comprehension} {scope : Scope} {pos : Pos} {ys : List Value} {post : Lo → AH → AO → Prop} (h : EV C A fx elt m H (fun v m₁ H₁ => ys.length ≤ 1000000 ∧ post m₁ H₁ (.list (ys ++ [v]))) noX) :
    GENS C A fx (.ListComp elt gs scope pos) [] m H (.list ys) post := by
  unfold GENS EMIT
  exact aw_mono h (fun v m₁ H₁ q => ⟨ys, rfl, q⟩) fun _ _ _ z => z
theorem turns_lc {elt : PySem.Expr} {g : Comprehension} {scope outer : Scope} {pos : Pos} {x : Value} {β : Type} {us : List β} {tv : β → Value} {P : AH → Prop} {G : AH → AO → Addr → Prop} (hb : scOkB scope outer = true)
    (hI : ITR C A fx x m₁ H₁ (us.map tv) P) (hP : ∀ H, Wk H H₁ → P H) (hz : us.length ≤ 1000000) (p : β → Bool) (f : β → Value)
    (turn : ∀ fx', Sc fx' (relS scope outer) scope.names → ∀ v ∈ us, ASG C A fx' g.target (tv v) (freeLo scope m₁) H₁ (fun m₂ H₂ => TST C A fx' g.ifs m₂ H₂ (fun ok m₃ H₃ => ok = p v ∧
      if ok = true then EV C A fx' elt m₃ H₃ (fun y m₄ H₄ => y = f v ∧ WkL m₄ (freeLo scope m₁) ∧ Wk H₄ H₁) noX else WkL m₃ (freeLo scope m₁) ∧ Wk H₃ H₁) noX) noX)
    (fin : ∀ a, a ∉ H₁.keys → G H₁ (.list ((us.filter p).map f)) a) (hsc : fx.env.scope = outer) :
    TURNS C A fx (.ListComp elt [g] scope pos) scope outer g [] x (.list []) m₁ H₁ (WkF G) := by
  refine ⟨us.map tv, P, hI, fun i m H acc => acc = .list (((us.take i).filter p).map f) ∧ WkL m (freeLo scope m₁) ∧ Wk H H₁, ⟨by simp, WkL.refl, Wk.refl⟩, fun i m H acc h => hP H h.2.2, ?_, ?_⟩
  · intro fx' hc hsc' i v' m H acc hv' hY9
    refine hide fun z372 => ?_
    obtain ⟨rfl, hm, hH⟩ := hY9
    refine z372 ?_
    rw [List.getElem?_map] at hv'
    refine hide fun z373 => ?_
    obtain ⟨v, hv, rfl⟩ := Option.map_eq_some_iff.mp hv'
    refine z373 ?_
    refine asg_wk hm hH ?_
    have hlt := (List.getElem?_eq_some_iff.mp hv).1
    have Z' := hc.toSc hsc (ScOk.of hb)
    intro a ha
    refine aw_mono (turn fx' Z' v (List.mem_of_getElem? hv) a ha) (fun _ m₂ H₂ h₂ => ?_) fun _ _ _ z => z
    refine tst_mono ?_ h₂
    rintro ok m₃ H₃ ⟨hok, ht⟩
    cases ok with
    | true =>
      refine if_yes ?_
      rw [if_pos rfl] at ht
      refine gens_lc (aw_mono ht (fun y m₄ H₄ h₄ => ?_) fun _ _ _ z => z)
      refine hide fun z374 => ?_
      obtain ⟨hy, hm₄, hH₄⟩ := h₄
      refine z374 ?_
      refine ⟨?_, ?_, hm₄, hH₄⟩
      · have := List.length_filter_le p (us.take i)
        rw [List.length_take] at this
        rw [List.length_map]; exact Nat.le_trans this (Nat.le_trans (Nat.min_le_right _ _) hz)
      · rw [filter_take hv p f, hy, ← hok, if_pos rfl]
    | false =>
      rw [if_neg (by decide)] at ht
      obtain ⟨hm₃, hH₃⟩ := ht
      refine if_no ⟨?_, hm₃, hH₃⟩
      rw [filter_take hv p f, ← hok, if_neg (by decide), List.append_nil]
  · intro m₂ H₂ acc hY3 a ha
    refine hide fun z375 => ?_
    obtain ⟨rfl, hm, hH⟩ := hY3
    refine z375 ?_
    rw [List.length_map, List.take_length]
    refine ⟨H₁, hH, fin a fun hk => ha ?_⟩
    refine hide fun z376 => ?_
    obtain ⟨q, hq, e⟩ := List.mem_map.mp hk
    refine z376 ?_
    rw [← e]
    exact mem_keys (hH.1 _ hq)
theorem map_take {α β : Type} {xs : List α} {i : Nat} {v : α} (h : xs[i]? = some v) (f : α → β) : (xs.take (i + 1)).map f = (xs.take i).map f ++ [f v] := by
  rw [List.take_add_one, h, List.map_append]; rfl
theorem take_fresh {α β : Type} {xs : List α} {i : Nat} {v : α} (h : xs[i]? = some v) (f : α → β) (hn : (xs.map f).Nodup) : f v ∉ (xs.take i).map f := by
  have e : xs.map f = (xs.take (i + 1)).map f ++ (xs.drop (i + 1)).map f := by rw [← List.map_append, List.take_append_drop]
  rw [e, map_take h f, List.nodup_append] at hn
  have := (List.nodup_append.mp hn.1).2.2
  exact fun hm => this _ hm _ (List.mem_singleton.mpr rfl) rfl
noncomputable def LC (ls : List (Addr × List Int)) : AH := ls.map fun p => (p.1, AO.list (iv p.2))
theorem LC_append (a b : List (Addr × List Int)) : LC (a ++ b) = LC a ++ LC b := List.map_append
noncomputable def kvL (kl : List (Int × Addr × List Int)) : List (Int × Value) := kl.map fun p => (p.1, Value.ref p.2.1)
end
end Mine

namespace Mine
set_option maxRecDepth 100000
open PySem PySem.W PyProof.Rows
open Sem (wp)

section
variable {α : Type} {C : Cfg} {A A' : Around} {fx fx' : Fx} {m m' m₁ : Lo} {H H' H₁ : AH} {X : Value → Lo → AH → Prop} {K : Frag} {s s' s₁ : Shared} {Q : Value → Lo → AH → Prop}

theorem seq_list_iadd : seqSlot? (.type "list") (dunderI "add") = pure (some (.builtin "list.__iadd__")) := PySem.seqSlot_of PySem.F.slot_list_iadd.lookup (by decide +kernel)
theorem fills_list_iadd : fillsInplaceSlot (.type "list") "add" (Operator.Add == .Add) = pure false := by
  unfold fillsInplaceSlot
  show (typeLookup (.type "list") (dunderI "add") >>= fun fi => pure (fi.isSome && !isSeqSlot fi)) = pure false
  rw [PySem.F.slot_list_iadd.lookup]
  have : isSeqSlot (some (.builtin "list.__iadd__")) = true := by decide +kernel
  show (pure ((some (Value.builtin "list.__iadd__")).isSome && !isSeqSlot (some (.builtin "list.__iadd__"))) : Sem Bool) = _
  rw [this]; rfl
theorem io_cat {l b : Addr} {xs ys : List Value} (hl : (l, AO.list xs) ∈ H) (hb : (b, AO.list ys) ∈ H) (hz : xs.length + ys.length ≤ 1000000) (h : Q (.ref l) m (H.put l (.list (xs ++ ys)))) : IO C A fx .Add (.ref l) (.ref b) m H Q X := fun a a' ha ha' => by
  obtain rfl := er_eq_ref ha
  obtain rfl := er_eq_ref ha'
  intro s S
  refine hide fun z377 => ?_
  obtain ⟨vs, n, h1, h2⟩ := S.isL hl
  obtain ⟨vs', n', h3, h4⟩ := S.isL hb
  refine z377 ?_
  have t1 : s.TypeIs (.ref l) "list" := ⟨_, h1, rfl⟩
  have t2 : s.TypeIs (.ref b) "list" := ⟨_, h3, rfl⟩
  unfold inplaceOp
  refine wpAny_holding ?_
  refine wpAny_bind (wpAny_typeOf t1 (wpAny_bind (wpAny_of_eq fills_list_iadd ?_)))
  show wpAny _ A (if false = true then _ else _) _ _ s
  rw [if_neg Bool.false_ne_true]
  refine wpAny_bind (wpAny_binaryOp1_none (nm := "add") t1 t2 noFill_list_add ?_)
  refine wpAny_bind (wpAny_of_eq seq_list_iadd ?_)
  refine wpAny_bind (wpAny_rule ?_)
  refine call_meets PySem.F.slot_list_iadd t1 PySem.F.entry_list_iadd (PySem.F.args_list_iadd_2 _ _) (AutoSeq1.list___iadd___list_list_0 l vs n b vs' n' ?_ (by rw [size_of_er h2, sizeLine_eq]; omega) (by rw [size_of_er h2, size_of_er h4, sizeLine_eq]; omega)) ⟨h1, h3, ?_⟩
  · have e : Builtin.List.listTooLong (vs.size + vs'.size) = false := by
      unfold Builtin.List.listTooLong
      rw [size_of_er h2, size_of_er h4, sizeLine_eq]
      simp; omega
    rw [e]; simp
  · obtain ⟨S', E'⟩ := write_list S hl h1 (fun x => x ++ vs') (ys := xs ++ ys) (by simp [h2, h4]) s.toks
    exact ⟨m, _, S', E', h⟩

noncomputable def DAT (C : Cfg) (H : AH) (v : Value) (d : PyData) : Prop := ∀ A fx m s, St C A fx m H s → ∀ a, er a = v → ∃ as, Reads s.heap a d as
theorem co_ne_dat {x y : Value} {d d' : PyData} (hu : A.units + 64 < cLine) (hx : DAT C H x d) (hy : DAT C H y d') (h1 : PySem.SeqAt.shaped d = true) (h2 : PySem.SeqAt.shaped d' = true) (h : Q (.bool (!PyData.eqv d d')) m H) : CO C A fx .NotEq x y m H Q X := fun a b ha hb => by
  intro s S
  refine hide fun z378 => ?_
  obtain ⟨as, ra⟩ := hx A fx m s S a ha
  obtain ⟨bs, rb⟩ := hy A fx m s S b hb
  refine z378 ?_
  exact ne_dataH ra rb h1 h2 hu ⟨m, H, S, Ext.refl' S, h⟩
noncomputable def DL (H : AH) (d : Addr) (kl : List (Int × Addr × List Int)) : Prop := (∃ ep, (d, AO.dict (kvL kl) ep) ∈ H) ∧ ∀ p ∈ kl, (p.2.1, AO.list (iv p.2.2)) ∈ H
theorem DL.wk {d : Addr} {kl : List (Int × Addr × List Int)} (h : DL H d kl) (hs : Wk H' H) : DL H' d kl := ⟨let ⟨ep, h1⟩ := h.1; ⟨ep, hs.1 _ h1⟩, fun p hp => hs.1 _ (h.2 p hp)⟩
theorem DL.here {d : Addr} {ep : Nat} {kl : List (Int × Addr × List Int)} : DL ((d, .dict (kvL kl) ep) :: (LC (kl.map (·.2)) ++ H)) d kl :=
  ⟨⟨ep, List.mem_cons_self⟩, fun p hp => List.mem_cons_of_mem _ (List.mem_append_left _ (List.mem_map.mpr ⟨p.2, List.mem_map.mpr ⟨p, hp, rfl⟩, rfl⟩))⟩
theorem kvL_keys {kl : List (Int × Addr × List Int)} : (kvL kl).map (·.1) = kl.map (·.1) := by unfold kvL; rw [List.map_map]; rfl
theorem dval_kvL {kl : List (Int × Addr × List Int)} {p : Int × Addr × List Int} (hn : (kl.map (·.1)).Nodup) (hp : p ∈ kl) : dval (kvL kl) p.1 = some (.ref p.2.1) :=
  dval_mem (by rw [kvL_keys]; exact hn) (List.mem_map.mpr ⟨p, hp, rfl⟩)
end
end Mine

namespace Mine

noncomputable def cnt (D : List Int) (g : G) (k : Int) : Nat := (g.map fun p => if p.1 ∈ D then 0 else p.2.2.count k).sum
noncomputable def nodes (g : G) : List Int := g.map (·.1)
structure WG (g : G) : Prop where
  nd : (nodes g).Nodup
  cl : ∀ x ∈ nodes g, ∀ k ∈ gSuc g x, k ∈ nodes g
  np : ∀ p ∈ g, p.2.1 = (cnt [] g p.1 : Nat)

theorem gSuc_of {g : G} {k v : Int} {su : List Int} (hn : (nodes g).Nodup) (h : (k, v, su) ∈ g) : gSuc g k = su := by
  unfold gSuc; rw [gAt_mem hn h]; rfl
theorem gSuc_none {g : G} {k : Int} (h : k ∉ nodes g) : gSuc g k = [] := by
  unfold gSuc
  cases e : gAt g k with
  | none => rfl
  | some x => exact absurd (List.mem_map_of_mem (f := (·.1)) (mem_gAt e)) h
theorem gSuc_node {g : G} {k s : Int} (h : s ∈ gSuc g k) : k ∈ nodes g := by
  by_cases hk : k ∈ nodes g
  · exact hk
  · rw [gSuc_none hk] at h; cases h
theorem node_mem {g : G} {k : Int} (hn : (nodes g).Nodup) (h : k ∈ nodes g) : ∃ v, (k, v, gSuc g k) ∈ g := gSuc_mem hn h
theorem cnt_zero {D : List Int} {g : G} {k : Int} (hn : (nodes g).Nodup) : cnt D g k = 0 ↔ ∀ x, k ∈ gSuc g x → x ∈ D := by
  unfold cnt
  rw [List.sum_eq_zero_iff_forall_eq_nat]
  constructor
  · intro h x hx
    obtain ⟨v, hv⟩ := node_mem hn (gSuc_node hx)
    have := h _ (List.mem_map.mpr ⟨_, hv, rfl⟩)
    by_cases hd : x ∈ D
    · exact hd
    · rw [if_neg hd] at this
      exact absurd hx (List.count_eq_zero.mp this)
  · intro h n hm
    refine hide fun z379 => ?_
    obtain ⟨⟨x, v, su⟩, hp, rfl⟩ := List.mem_map.mp hm
    refine z379 ?_
    dsimp only
    by_cases hd : x ∈ D
    · rw [if_pos hd]
    · rw [if_neg hd, List.count_eq_zero]
      exact fun hk => hd (h x (by rw [gSuc_of hn hp]; exact hk))
theorem cnt_done {D : List Int} {x k : Int} (hD : x ∉ D) : ∀ {g : G}, (nodes g).Nodup → x ∈ nodes g → cnt D g k = cnt (D ++ [x]) g k + (gSuc g x).count k
  | [], _, h => by cases h
  | (y, v, su) :: r, hn, h => by
    have hn' := List.nodup_cons.mp hn
    have e0 : ∀ E : List Int, cnt E ((y, v, su) :: r) k = (if y ∈ E then 0 else su.count k) + cnt E r k := fun E => by
      unfold cnt; rw [List.map_cons, List.sum_cons]
    rw [e0, e0]
    by_cases hy : y = x
    · subst hy
      rw [if_neg hD, if_pos (List.mem_append_right _ (List.mem_singleton.mpr rfl)), gSuc_of hn List.mem_cons_self]
      have : cnt (D ++ [y]) r k = cnt D r k := by
        unfold cnt
        congr 1
        refine List.map_congr_left fun p hp => ?_
        have hne : p.1 ≠ y := fun e => hn'.1 (by rw [← e]; exact List.mem_map_of_mem (f := (·.1)) hp)
        have hiff : p.1 ∈ D ++ [y] ↔ p.1 ∈ D := by rw [List.mem_append, List.mem_singleton]; exact ⟨fun h => h.resolve_right hne, .inl⟩
        by_cases hd : p.1 ∈ D
        · rw [if_pos hd, if_pos (hiff.mpr hd)]
        · rw [if_neg hd, if_neg fun h => hd (hiff.mp h)]
      omega
    · have hx : x ∈ nodes r := (List.mem_cons.mp h).resolve_left fun e => hy e.symm
      have ih := cnt_done (k := k) hD hn'.2 hx
      have es : gSuc ((y, v, su) :: r) x = gSuc r x := by
        unfold gSuc gAt
        rw [List.find?_cons]
        simp [hy]
      rw [es, ih]
      have hiff : y ∈ D ++ [x] ↔ y ∈ D := by rw [List.mem_append, List.mem_singleton]; exact ⟨fun h => h.resolve_right hy, .inl⟩
      by_cases hd : y ∈ D
      · rw [if_pos hd, if_pos (hiff.mpr hd)]; omega
      · rw [if_neg hd, if_neg fun h => hd (hiff.mp h)]; omega

noncomputable def gWith (g : G) (f : Int → Int) : G := g.map fun p => (p.1, f p.1, p.2.2)
theorem with_nodes {g : G} {f : Int → Int} : nodes (gWith g f) = nodes g := by
  unfold nodes gWith; rw [List.map_map]; rfl
theorem with_at {g : G} {f : Int → Int} {k : Int} : gAt (gWith g f) k = (gAt g k).map fun x => (f k, x.2) := by
  unfold gAt gWith
  induction g with
  | nil => rfl
  | cons p r ih =>
    rw [List.map_cons, List.find?_cons, List.find?_cons]
    by_cases h : p.1 = k
    · subst h; simp
    · rw [decide_eq_false h]
      exact ih
theorem with_suc {g : G} {f : Int → Int} {k : Int} : gSuc (gWith g f) k = gSuc g k := by
  unfold gSuc; rw [with_at, Option.map_map]; rfl
theorem with_upd {g : G} {f : Int → Int} {k : Int} (h : Int → Int) : gUpd (gWith g f) k (fun x => (h x.1, x.2)) = gWith g (fun j => if j = k then h (f j) else f j) := by
  unfold gUpd gWith
  rw [List.map_map]
  refine List.map_congr_left fun p _ => ?_
  simp only [Function.comp]
  by_cases e : p.1 = k
  · rw [if_pos e, if_pos e]
  · rw [if_neg e, if_neg e]
theorem with_congr {g : G} {f f' : Int → Int} (h : ∀ k ∈ nodes g, f k = f' k) : gWith g f = gWith g f' := by
  unfold gWith
  exact List.map_congr_left fun p hp => by rw [h p.1 (List.mem_map_of_mem (f := (·.1)) hp)]
theorem with_set {g : G} {v : Int} : ∀ {rs : List Int} {f : Int → Int}, rs.foldl (gSet v) (gWith g f) = gWith g (fun k => if k ∈ rs then v else f k)
  | [], f => by simp
  | r :: rs, f => by
    rw [List.foldl_cons]
    unfold gSet
    rw [with_upd (fun _ => v)]
    have := with_set (g := g) (v := v) (rs := rs) (f := fun j => if j = r then v else f j)
    unfold gSet at this
    rw [this]
    refine with_congr fun k _ => ?_
    by_cases h1 : k ∈ rs
    · simp [h1]
    · by_cases h2 : k = r
      · subst h2; simp
      · simp [h1, h2]

noncomputable def SelfSup (g : G) (S : List Int) : Prop := ∀ k ∈ S, ∃ x ∈ S, k ∈ gSuc g x
noncomputable def stF (g : G) (D O : List Int) (k : Int) : Int := if k ∈ D then -2 else if k ∈ O then -1 else (cnt D g k : Nat)
structure Rnd (g₀ : G) (D O L : List Int) (g : G) : Prop where
  eq : g = gWith g₀ (stF g₀ D O)
  sub : ∀ k ∈ D, k ∈ O
  inG : ∀ k ∈ O, k ∈ nodes g₀
  cl : ∀ k ∈ O, ∀ x, k ∈ gSuc g₀ x → x ∈ D
  rd : ∀ k, k ∈ L ↔ k ∈ nodes g₀ ∧ k ∉ O ∧ cnt D g₀ k = 0
  nd : L.Nodup
  no : ∀ S, SelfSup g₀ S → ∀ k ∈ O, k ∉ S
noncomputable def gFree (g : G) : List Int := (g.filter fun p => decide (p.2.1 = 0)).map (·.1)
theorem WG.with {g : G} (W : WG g) : g = gWith g (fun k => (cnt [] g k : Nat)) := by
  have h := W.np
  unfold gWith
  have : ∀ l : G, (∀ p ∈ l, p.2.1 = (cnt [] g p.1 : Nat)) → l = l.map fun p => (p.1, ((cnt [] g p.1 : Nat) : Int), p.2.2) := by
    intro l
    induction l with
    | nil => intro _; rfl
    | cons p r ih =>
      intro hp
      rw [List.map_cons, ← ih fun q hq => hp q (List.mem_cons_of_mem _ hq), ← hp p List.mem_cons_self]
  exact this g h
theorem gFree_mem {g : G} (W : WG g) {k : Int} : k ∈ gFree g ↔ k ∈ nodes g ∧ cnt [] g k = 0 := by
  unfold gFree
  constructor
  · intro h
    refine hide fun z380 => ?_
    obtain ⟨p, hp, rfl⟩ := List.mem_map.mp h
    obtain ⟨h1, h2⟩ := List.mem_filter.mp hp
    refine z380 ?_
    refine ⟨List.mem_map_of_mem (f := (·.1)) h1, ?_⟩
    have := of_decide_eq_true h2
    rw [W.np p h1] at this
    omega
  · rintro ⟨h1, h2⟩
    refine hide fun z381 => ?_
    obtain ⟨p, hp, rfl⟩ := List.mem_map.mp h1
    refine z381 ?_
    refine List.mem_map.mpr ⟨p, List.mem_filter.mpr ⟨hp, decide_eq_true ?_⟩, rfl⟩
    rw [W.np p hp, h2]; rfl
theorem gFree_nd {g : G} (W : WG g) : (gFree g).Nodup := W.nd.sublist (List.Sublist.map _ List.filter_sublist)
theorem Rnd.init {g : G} (W : WG g) : Rnd g [] [] (gFree g) g := by
  refine ⟨?_, fun k h => (by cases h), fun k h => (by cases h), fun k h => (by cases h), fun k => ?_, gFree_nd W, fun S _ k h => (by cases h)⟩
  · rw [show stF g [] [] = fun k => ((cnt [] g k : Nat) : Int) from funext fun k => by unfold stF; simp]
    exact W.with
  · rw [gFree_mem W]; simp
theorem Rnd.get {g₀ g : G} {D O L : List Int} (W : WG g₀) (h : Rnd g₀ D O L g) : Rnd g₀ D (O ++ L) [] (L.foldl (gSet (-1)) g) := by
  have hL := fun k => (h.rd k).mp
  refine ⟨?_, fun k hk => List.mem_append_left _ (h.sub k hk), fun k hk => ?_, fun k hk x hx => ?_, fun k => ⟨fun z => (by cases z), fun ⟨h1, h2, h3⟩ => ?_⟩, List.nodup_nil, fun S hS k hk => ?_⟩
  · rw [h.eq, with_set]
    refine with_congr fun k _ => ?_
    unfold stF
    by_cases hd : k ∈ D
    · have : k ∉ L := fun hk => (hL k hk).2.1 (h.sub k hd)
      simp [hd, this]
    · by_cases hk : k ∈ L
      · simp [hd, hk]
      · simp [hd, hk]
  · rcases List.mem_append.mp hk with hk | hk
    · exact h.inG k hk
    · exact (hL k hk).1
  · rcases List.mem_append.mp hk with hk | hk
    · exact h.cl k hk x hx
    · exact (cnt_zero W.nd).mp (hL k hk).2.2 x hx
  · rw [List.mem_append, not_or] at h2
    exact absurd ((h.rd k).mpr ⟨h1, h2.1, h3⟩) h2.2
  · rcases List.mem_append.mp hk with hk | hk
    · exact h.no S hS k hk
    · intro hs
      refine hide fun z382 => ?_
      obtain ⟨x, hx, hkx⟩ := hS k hs
      refine z382 ?_
      exact h.no S hS x (h.sub x ((cnt_zero W.nd).mp (hL k hk).2.2 x hkx)) hx
theorem decs_with {g₀ : G} {D O : List Int} {x : Int} (W : WG g₀) (hsub : ∀ k ∈ D, k ∈ O) (hO : ∀ k ∈ O, ∀ y, k ∈ gSuc g₀ y → y ∈ D) (hx : x ∉ D) (hxO : x ∈ O) (hxn : x ∈ nodes g₀) :
    ∀ (rest pr L : List Int), gSuc g₀ x = pr ++ rest → L.Nodup → (∀ k, k ∈ L ↔ k ∈ nodes g₀ ∧ k ∉ O ∧ cnt D g₀ k = pr.count k) →
    ∃ L', rest.foldl gDec (gWith g₀ (fun k => if k ∈ D ++ [x] then -2 else if k ∈ O then -1 else (cnt D g₀ k : Int) - (pr.count k : Int)), L) = (gWith g₀ (fun k => if k ∈ D ++ [x] then -2 else if k ∈ O then -1 else (cnt D g₀ k : Int) - ((gSuc g₀ x).count k : Int)), L') ∧
      L'.Nodup ∧ (∀ k, k ∈ L' ↔ k ∈ nodes g₀ ∧ k ∉ O ∧ cnt D g₀ k = (gSuc g₀ x).count k)
  | [], pr, L, e, hn, hL => by
    rw [List.append_nil] at e
    exact ⟨L, by rw [e]; rfl, hn, by rw [e]; exact hL⟩
  | s :: rest, pr, L, e, hn, hL => by
    have hs : s ∈ gSuc g₀ x := by rw [e]; exact List.mem_append_right _ List.mem_cons_self
    have hsO : s ∉ O := fun h => hx (hO s h x hs)
    have hsx : s ∉ D ++ [x] := fun h => by
      rcases List.mem_append.mp h with h | h
      · exact hsO (hsub s h)
      · exact hsO (by rw [List.mem_singleton.mp h]; exact hxO)
    have hsn : s ∈ nodes g₀ := W.cl x hxn s hs
    have hge : pr.count s + 1 ≤ cnt D g₀ s := by
      rw [cnt_done (k := s) hx W.nd hxn, e, List.count_append, List.count_cons_self]
      omega
    have e' : gSuc g₀ x = (pr ++ [s]) ++ rest := by rw [e, List.append_assoc]; rfl
    have hc : ∀ k, (pr ++ [s]).count k = pr.count k + if k = s then 1 else 0 := fun k => by
      rw [List.count_append, List.count_singleton]
      by_cases h : k = s
      · simp [h]
      · have : ¬ s = k := fun q => h q.symm
        simp [h, this]
    rw [List.foldl_cons]
    have hd : gDec (gWith g₀ (fun k => if k ∈ D ++ [x] then -2 else if k ∈ O then -1 else (cnt D g₀ k : Int) - (pr.count k : Int)), L) s =
        (gWith g₀ (fun k => if k ∈ D ++ [x] then -2 else if k ∈ O then -1 else (cnt D g₀ k : Int) - ((pr ++ [s]).count k : Int)), if cnt D g₀ s = pr.count s + 1 then L ++ [s] else L) := by
      unfold gDec
      dsimp only
      rw [with_upd (fun v => v - 1)]
      have hw : gWith g₀ (fun j => if j = s then (if j ∈ D ++ [x] then (-2 : Int) else if j ∈ O then -1 else (cnt D g₀ j : Int) - (pr.count j : Int)) - 1 else if j ∈ D ++ [x] then -2 else if j ∈ O then -1 else (cnt D g₀ j : Int) - (pr.count j : Int)) =
          gWith g₀ (fun k => if k ∈ D ++ [x] then -2 else if k ∈ O then -1 else (cnt D g₀ k : Int) - ((pr ++ [s]).count k : Int)) := by
        refine with_congr fun k _ => ?_
        rw [hc k]
        by_cases h : k = s
        · subst h
          rw [if_pos rfl, if_neg hsx, if_neg hsO, if_neg hsx, if_neg hsO, if_pos rfl]
          push_cast; omega
        · rw [if_neg h, if_neg h]; simp
      rw [hw, with_at]
      obtain ⟨v, hv⟩ := node_mem W.nd hsn
      rw [gAt_mem W.nd hv]
      simp only [Option.map_some, if_neg hsx, if_neg hsO, hc s, if_pos, Option.some.injEq]
      congr 1
      by_cases hz : cnt D g₀ s = pr.count s + 1
      · rw [if_pos hz, if_pos (by rw [hz]; push_cast; omega)]
      · rw [if_neg hz, if_neg (by push_cast; omega)]
    rw [hd]
    refine decs_with W hsub hO hx hxO hxn rest (pr ++ [s]) _ e' ?_ ?_
    · by_cases hz : cnt D g₀ s = pr.count s + 1
      · rw [if_pos hz, List.nodup_append]
        refine ⟨hn, by simp, fun a ha b hb => ?_⟩
        rw [List.mem_singleton.mp hb]
        intro q
        subst q
        have := ((hL a).mp ha).2.2
        omega
      · rw [if_neg hz]; exact hn
    · intro k
      rw [hc k]
      by_cases h : k = s
      · subst h
        rw [if_pos rfl]
        by_cases hz : cnt D g₀ k = pr.count k + 1
        · rw [if_pos hz]
          exact ⟨fun _ => ⟨hsn, hsO, hz⟩, fun _ => List.mem_append_right _ (List.mem_singleton.mpr rfl)⟩
        · rw [if_neg hz, hL k]
          exact ⟨fun z => by have := z.2.2; omega, fun z => absurd z.2.2 hz⟩
      · rw [if_neg h]
        show _ ↔ k ∈ nodes g₀ ∧ ¬k ∈ O ∧ cnt D g₀ k = List.count k pr
        rw [← hL k]
        by_cases hz : cnt D g₀ s = pr.count s + 1
        · rw [if_pos hz, List.mem_append, List.mem_singleton]
          exact ⟨fun z => z.resolve_right h, .inl⟩
        · rw [if_neg hz]
theorem Rnd.done1 {g₀ g : G} {D O L : List Int} {x : Int} (W : WG g₀) (h : Rnd g₀ D O L g) (hx : x ∉ D) (hxO : x ∈ O) : Rnd g₀ (D ++ [x]) O (gDone1 (g, L) x).2 (gDone1 (g, L) x).1 := by
  have hxn := h.inG x hxO
  have e1 : gDone1 (g, L) x = (gSuc g₀ x).foldl gDec (gWith g₀ (fun k => if k ∈ D ++ [x] then -2 else if k ∈ O then -1 else (cnt D g₀ k : Int) - (([] : List Int).count k : Int)), L) := by
    unfold gDone1
    rw [h.eq]
    show (gSuc (gWith g₀ (stF g₀ D O)) x).foldl gDec _ = _
    rw [with_suc]
    congr 2
    unfold gSet
    dsimp only
    rw [with_upd (fun _ => -2)]
    refine with_congr fun k _ => ?_
    unfold stF
    by_cases hk : k = x
    · subst hk; simp
    · have hiff : k ∈ D ++ [x] ↔ k ∈ D := by rw [List.mem_append, List.mem_singleton]; exact ⟨fun h => h.resolve_right hk, .inl⟩
      simp only [if_neg hk, hiff]
      simp
  obtain ⟨L', h1, h2, h3⟩ := decs_with W h.sub h.cl hx hxO hxn (gSuc g₀ x) [] L rfl h.nd (fun k => by rw [h.rd k]; simp)
  rw [e1, h1]
  have hcd := fun k => cnt_done (k := k) hx W.nd hxn
  refine ⟨?heq, fun k hk => ?_, h.inG, fun k hk y hy => List.mem_append_left _ (h.cl k hk y hy), fun k => ?_, h2, h.no⟩
  case heq =>
    dsimp only
    refine with_congr fun k _ => ?_
    unfold stF
    rw [hcd k]
    split
    · rfl
    · split
      · rfl
      · push_cast; omega
  · rcases List.mem_append.mp hk with hk | hk
    · exact h.sub k hk
    · rw [List.mem_singleton.mp hk]; exact hxO
  · rw [h3 k]
    have := hcd k
    constructor
    · rintro ⟨a, b, c⟩; exact ⟨a, b, by omega⟩
    · rintro ⟨a, b, c⟩; exact ⟨a, b, by omega⟩
theorem Rnd.done {g₀ : G} {O : List Int} (W : WG g₀) : ∀ (xs : List Int) {g : G} {D L : List Int}, Rnd g₀ D O L g → xs.Nodup → (∀ x ∈ xs, x ∈ O ∧ x ∉ D) → Rnd g₀ (D ++ xs) O (gDone (g, L) xs).2 (gDone (g, L) xs).1
  | [], g, D, L, h, _, _ => by rw [List.append_nil]; exact h
  | x :: r, g, D, L, h, hn, hx => by
    have hn' := List.nodup_cons.mp hn
    have h1 := h.done1 W (hx x List.mem_cons_self).2 (hx x List.mem_cons_self).1
    have h2 := Rnd.done W r h1 hn'.2 (fun y hy => ⟨(hx y (List.mem_cons_of_mem _ hy)).1, fun hm => by
      rcases List.mem_append.mp hm with hm | hm
      · exact (hx y (List.mem_cons_of_mem _ hy)).2 hm
      · rw [List.mem_singleton.mp hm] at hy; exact hn'.1 hy⟩)
    rw [List.append_assoc] at h2
    exact h2
theorem Rnd.out {g₀ g : G} {O D L : List Int} (W : WG g₀) (h : Rnd g₀ D O L g) {xs : List Int} (hn : xs.Nodup) (hx : ∀ x ∈ xs, x ∈ O ∧ x ∉ D) (i : Nat) (x : Int) (hi : xs[i]? = some x) :
    ∃ su, gAt (gDone (g, L) (xs.take i)).1 x = some (-1, su) := by
  have h1 := Rnd.done W (xs.take i) h (hn.sublist (List.take_sublist _ _)) (fun y hy => hx y (List.mem_of_mem_take hy))
  have hxm := List.mem_of_getElem? hi
  have hnt : x ∉ xs.take i := by have := take_fresh hi id (by rw [List.map_id]; exact hn); rwa [List.map_id] at this
  obtain ⟨v, hv⟩ := node_mem W.nd (h.inG x (hx x hxm).1)
  rw [h1.eq, with_at, gAt_mem W.nd hv]
  refine ⟨gSuc g₀ x, ?_⟩
  have hxD : x ∉ D ++ xs.take i := fun hm => (List.mem_append.mp hm).elim (hx x hxm).2 hnt
  show some (stF g₀ (D ++ xs.take i) O x, _) = _
  unfold stF
  rw [if_neg hxD, if_pos (hx x hxm).1]
theorem Rnd.round {g₀ g : G} {D L : List Int} (W : WG g₀) (h : Rnd g₀ D D L g) :
    (∀ i x, L[i]? = some x → ∃ su, gAt (gDone (L.foldl (gSet (-1)) g, []) (L.take i)).1 x = some (-1, su)) ∧
    Rnd g₀ (D ++ L) (D ++ L) (gDone (L.foldl (gSet (-1)) g, []) L).2 (gDone (L.foldl (gSet (-1)) g, []) L).1 := by
  have h1 := h.get W
  have hx : ∀ x ∈ L, x ∈ D ++ L ∧ x ∉ D := fun x hx => ⟨List.mem_append_right _ hx, ((h.rd x).mp hx).2.1⟩
  exact ⟨h1.out W h.nd hx, h1.done W L h.nd hx⟩
end Mine

namespace Mine

theorem at_append {g h : G} {k : Int} : gAt (g ++ h) k = (gAt g k).or (gAt h k) := by
  unfold gAt
  rw [List.find?_append]
  cases List.find? (fun p => decide (p.1 = k)) g <;> rfl
theorem at_some {g : G} {k : Int} (hn : (nodes g).Nodup) (h : k ∈ nodes g) : ∃ v, gAt g k = some (v, gSuc g k) := by
  obtain ⟨v, hv⟩ := node_mem hn h
  exact ⟨v, gAt_mem hn hv⟩
theorem ens_nodes {g : G} {k j : Int} : j ∈ nodes (gEns g k) ↔ j ∈ nodes g ∨ j = k := by
  unfold gEns
  by_cases h : k ∈ g.map (·.1)
  · rw [if_pos h]
    exact ⟨.inl, fun z => z.elim id fun e => by rw [e]; exact h⟩
  · rw [if_neg h]
    unfold nodes
    rw [List.map_append, List.mem_append]
    simp
theorem ens_nd {g : G} {k : Int} (hn : (nodes g).Nodup) : (nodes (gEns g k)).Nodup := by
  unfold gEns
  by_cases h : k ∈ g.map (·.1)
  · rw [if_pos h]; exact hn
  · rw [if_neg h]
    unfold nodes
    rw [List.map_append, List.nodup_append]
    refine ⟨hn, by simp, fun a ha b hb e => h ?_⟩
    rw [List.mem_singleton.mp hb] at e
    exact (show a = k from e) ▸ ha
theorem ens_suc {g : G} {k x : Int} : gSuc (gEns g k) x = gSuc g x := by
  unfold gEns
  by_cases h : k ∈ g.map (·.1)
  · rw [if_pos h]
  · rw [if_neg h]
    unfold gSuc
    rw [at_append]
    cases e : gAt g x with
    | some y => rfl
    | none =>
      by_cases hx : k = x
      · subst hx; simp [gAt]
      · simp [gAt, hx]
theorem ens_cnt {g : G} {k j : Int} : cnt [] (gEns g k) j = cnt [] g j := by
  unfold gEns
  by_cases h : k ∈ g.map (·.1)
  · rw [if_pos h]
  · rw [if_neg h]
    unfold cnt
    rw [List.map_append, List.sum_append]
    simp
theorem upd_cnt {g : G} {k j v : Int} : cnt [] (gNp g k v) j = cnt [] g j := by
  unfold cnt gNp gUpd
  rw [List.map_map]
  congr 1
  refine List.map_congr_left fun p _ => ?_
  simp only [Function.comp]
  split <;> rfl
theorem np_suc {g : G} {k x v : Int} : gSuc (gNp g k v) x = gSuc g x := by
  unfold gSuc gNp
  rw [gAt_upd, Option.map_map]
  congr 2
  funext y
  simp only [Function.comp]
  split <;> rfl
theorem su_cnt {p k j : Int} : ∀ {g : G}, (nodes g).Nodup → p ∈ nodes g → cnt [] (gSu g p k) j = cnt [] g j + if j = k then 1 else 0
  | [], _, h => by cases h
  | (y, v, su) :: r, hn, h => by
    have hn' := List.nodup_cons.mp hn
    have e0 : ∀ (su : List Int) (r : G), cnt [] ((y, v, su) :: r) j = su.count j + cnt [] r j := fun su r => by
      unfold cnt; rw [List.map_cons, List.sum_cons]; simp
    by_cases hy : y = p
    · have e1 : gSu ((y, v, su) :: r) p k = (y, v, su ++ [k]) :: r := by
        unfold gSu gUpd
        rw [List.map_cons, if_pos hy]
        congr 1
        rw [List.map_congr_left (g := id), List.map_id]
        intro q hq
        exact if_neg fun e => hn'.1 (by rw [hy, ← e]; exact List.mem_map_of_mem (f := (·.1)) hq)
      rw [e1, e0, e0, List.count_append, List.count_singleton]
      by_cases h : j = k
      · simp [h]; omega
      · have : ¬ k = j := fun q => h q.symm
        simp [h, this]
    · have e1 : gSu ((y, v, su) :: r) p k = (y, v, su) :: gSu r p k := by
        unfold gSu gUpd
        rw [List.map_cons, if_neg hy]
      have hp : p ∈ nodes r := (List.mem_cons.mp h).resolve_left fun e => hy e.symm
      rw [e1, e0, e0, su_cnt hn'.2 hp]
      omega
theorem su_suc {g : G} {p k x : Int} (hp : p ∈ nodes g) (hn : (nodes g).Nodup) : gSuc (gSu g p k) x = if x = p then gSuc g p ++ [k] else gSuc g x := by
  unfold gSuc gSu
  rw [gAt_upd, Option.map_map]
  by_cases h : x = p
  · subst h
    obtain ⟨v, hv⟩ := at_some hn hp
    rw [hv, if_pos rfl]
    simp
  · rw [if_neg h]
    congr 2
    funext y
    simp [h]
structure PB (g : G) (k : Int) (rem : Nat) : Prop where
  nd : (nodes g).Nodup
  cl : ∀ x ∈ nodes g, ∀ k ∈ gSuc g x, k ∈ nodes g
  np : ∀ p ∈ g, p.2.1 = (cnt [] g p.1 : Nat) + (if p.1 = k then (rem : Int) else 0)
theorem PB.start {g : G} {k : Int} {n : Nat} (W : WG g) : PB (gNp (gEns g k) k n) k n ∧ k ∈ nodes (gNp (gEns g k) k n) := by
  have hnn : nodes (gNp (gEns g k) k n) = nodes (gEns g k) := upd_nodes
  refine ⟨⟨by rw [hnn]; exact ens_nd W.nd, fun x hx j hj => ?_, fun p hp => ?_⟩, by rw [hnn, ens_nodes]; exact .inr rfl⟩
  · rw [np_suc, ens_suc] at hj
    rw [hnn, ens_nodes]
    exact .inl (W.cl x (gSuc_node hj) j hj)
  · rw [upd_cnt, ens_cnt]
    unfold gNp gUpd at hp
    refine hide fun z383 => ?_
    obtain ⟨q, hq, rfl⟩ := List.mem_map.mp hp
    refine z383 ?_
    have hq' : q.2.1 = (cnt [] g q.1 : Nat) := by
      unfold gEns at hq
      by_cases h : k ∈ g.map (·.1)
      · rw [if_pos h] at hq; exact W.np q hq
      · rw [if_neg h] at hq
        rcases List.mem_append.mp hq with hq | hq
        · exact W.np q hq
        · rw [List.mem_singleton.mp hq]
          have : cnt [] g k = 0 := (cnt_zero W.nd).mpr fun x hx => absurd (W.cl x (gSuc_node hx) k hx) h
          show (0 : Int) = _
          rw [this]; rfl
    by_cases e : q.1 = k
    · rw [if_pos e]
      dsimp only
      rw [if_pos e, hq']
    · rw [if_neg e, if_neg e, hq', Int.add_zero]
theorem PB.pred {g : G} {k p : Int} {n : Nat} (h : PB g k (n + 1)) (hk : k ∈ nodes g) : PB (gPred k g p) k n ∧ k ∈ nodes (gPred k g p) := by
  unfold gPred
  have hp : p ∈ nodes (gEns g p) := ens_nodes.mpr (.inr rfl)
  have hn := ens_nd (k := p) h.nd
  have hnn : nodes (gSu (gEns g p) p k) = nodes (gEns g p) := upd_nodes
  have hkn : k ∈ nodes (gSu (gEns g p) p k) := by rw [hnn, ens_nodes]; exact .inl hk
  refine ⟨⟨by rw [hnn]; exact hn, fun x hx j hj => ?_, fun q hq => ?_⟩, hkn⟩
  · rw [su_suc hp hn] at hj
    have old : ∀ y, j ∈ gSuc (gEns g p) y → j ∈ nodes (gSu (gEns g p) p k) := fun y hy => by
      rw [ens_suc] at hy
      rw [hnn, ens_nodes]
      exact .inl (h.cl y (gSuc_node hy) j hy)
    split at hj
    · rcases List.mem_append.mp hj with hj | hj
      · exact old p hj
      · rw [List.mem_singleton.mp hj]; exact hkn
    · exact old x hj
  · rw [su_cnt hn hp, ens_cnt]
    unfold gSu gUpd at hq
    refine hide fun z384 => ?_
    obtain ⟨r, hr, rfl⟩ := List.mem_map.mp hq
    refine z384 ?_
    have hr' : r.2.1 = (cnt [] g r.1 : Nat) + (if r.1 = k then ((n + 1 : Nat) : Int) else 0) := by
      unfold gEns at hr
      by_cases hpg : p ∈ g.map (·.1)
      · rw [if_pos hpg] at hr; exact h.np r hr
      · rw [if_neg hpg] at hr
        rcases List.mem_append.mp hr with hr | hr
        · exact h.np r hr
        · rw [List.mem_singleton.mp hr]
          have h0 : cnt [] g p = 0 := (cnt_zero h.nd).mpr fun x hx => absurd (h.cl x (gSuc_node hx) p hx) hpg
          have hne : p ≠ k := fun e => hpg (e ▸ hk)
          show (0 : Int) = _
          rw [h0, if_neg hne]; rfl
    have e1 : (if r.1 = p then (r.1, (r.2.1, r.2.2 ++ [k])) else r).1 = r.1 := by split <;> rfl
    have e2 : (if r.1 = p then (r.1, (r.2.1, r.2.2 ++ [k])) else r).2.1 = r.2.1 := by split <;> rfl
    show (if r.1 = p then (r.1, (r.2.1, r.2.2 ++ [k])) else r).2.1 = _
    rw [e2, hr']
    show _ = ((cnt [] g (if r.1 = p then (r.1, (r.2.1, r.2.2 ++ [k])) else r).1 + if (if r.1 = p then (r.1, (r.2.1, r.2.2 ++ [k])) else r).1 = k then 1 else 0 : Nat) : Int) + if (if r.1 = p then (r.1, (r.2.1, r.2.2 ++ [k])) else r).1 = k then (n : Int) else 0
    rw [e1]
    by_cases e : r.1 = k
    · rw [if_pos e, if_pos e, if_pos e]; push_cast; omega
    · rw [if_neg e, if_neg e, if_neg e]; push_cast; omega
theorem PB.all {k : Int} : ∀ (ps : List Int) {g : G}, PB g k ps.length → k ∈ nodes g → WG (ps.foldl (gPred k) g)
  | [], g, h, _ => ⟨h.nd, h.cl, fun p hp => by have := h.np p hp; rw [this]; split <;> simp⟩
  | p :: r, g, h, hk => by
    obtain ⟨h1, h2⟩ := h.pred (p := p) hk
    exact PB.all r h1 h2
theorem WG.add {g : G} {k : Int} {ps : List Int} (W : WG g) : WG (gAdd g k ps) := PB.all ps (PB.start W).1 (PB.start W).2
theorem WG.nil : WG [] := ⟨List.nodup_nil, fun x h => (by cases h), fun p h => (by cases h)⟩
theorem pred_edge {g : G} {k p j x : Int} (hn : (nodes g).Nodup) : j ∈ gSuc (gPred k g p) x ↔ j ∈ gSuc g x ∨ (j = k ∧ x = p) := by
  unfold gPred
  rw [su_suc (ens_nodes.mpr (.inr rfl)) (ens_nd hn), ens_suc, ens_suc]
  by_cases h : x = p
  · subst h
    rw [if_pos rfl, List.mem_append, List.mem_singleton]
    simp
  · rw [if_neg h]; simp [h]
theorem pred_nodes {g : G} {k p j : Int} : j ∈ nodes (gPred k g p) ↔ j ∈ nodes g ∨ j = p := by
  unfold gPred
  rw [show nodes (gSu (gEns g p) p k) = nodes (gEns g p) from upd_nodes, ens_nodes]
theorem pred_nd {g : G} {k p : Int} (hn : (nodes g).Nodup) : (nodes (gPred k g p)).Nodup := by
  unfold gPred
  rw [show nodes (gSu (gEns g p) p k) = nodes (gEns g p) from upd_nodes]
  exact ens_nd hn
theorem preds_edge {k j x : Int} : ∀ {ps : List Int} {g : G}, (nodes g).Nodup → (j ∈ gSuc (ps.foldl (gPred k) g) x ↔ j ∈ gSuc g x ∨ (j = k ∧ x ∈ ps))
  | [], g, hn => by simp
  | p :: r, g, hn => by
    rw [List.foldl_cons, preds_edge (pred_nd hn), pred_edge hn, List.mem_cons]
    constructor
    · rintro ((h | ⟨h, h'⟩) | ⟨h, h'⟩)
      · exact .inl h
      · exact .inr ⟨h, .inl h'⟩
      · exact .inr ⟨h, .inr h'⟩
    · rintro (h | ⟨h, h' | h'⟩)
      · exact .inl (.inl h)
      · exact .inl (.inr ⟨h, h'⟩)
      · exact .inr ⟨h, h'⟩
theorem preds_nodes {k j : Int} : ∀ {ps : List Int} {g : G}, j ∈ nodes (ps.foldl (gPred k) g) ↔ j ∈ nodes g ∨ j ∈ ps
  | [], g => by simp
  | p :: r, g => by
    rw [List.foldl_cons, preds_nodes, pred_nodes, List.mem_cons, or_assoc]
theorem add_edge {g : G} {k j x : Int} {ps : List Int} (hn : (nodes g).Nodup) : j ∈ gSuc (gAdd g k ps) x ↔ j ∈ gSuc g x ∨ (j = k ∧ x ∈ ps) := by
  unfold gAdd
  have hnn : nodes (gNp (gEns g k) k ps.length) = nodes (gEns g k) := upd_nodes
  rw [preds_edge (by rw [hnn]; exact ens_nd hn), np_suc, ens_suc]
theorem add_nodes {g : G} {k j : Int} {ps : List Int} : j ∈ nodes (gAdd g k ps) ↔ j ∈ nodes g ∨ j = k ∨ j ∈ ps := by
  unfold gAdd
  rw [preds_nodes, show nodes (gNp (gEns g k) k ps.length) = nodes (gEns g k) from upd_nodes, ens_nodes, or_assoc]
theorem build_from : ∀ (kl : List (Int × List Int)) {g : G}, WG g → WG (kl.foldl (fun g p => gAdd g p.1 p.2) g) ∧
    (∀ j x, j ∈ gSuc (kl.foldl (fun g p => gAdd g p.1 p.2) g) x ↔ j ∈ gSuc g x ∨ ∃ p ∈ kl, j = p.1 ∧ x ∈ p.2) ∧
    (∀ j, j ∈ nodes (kl.foldl (fun g p => gAdd g p.1 p.2) g) ↔ j ∈ nodes g ∨ ∃ p ∈ kl, j = p.1 ∨ j ∈ p.2)
  | [], g, W => ⟨W, fun j x => by simp, fun j => by simp⟩
  | q :: r, g, W => by
    refine hide fun z385 => ?_
    obtain ⟨h1, h2, h3⟩ := build_from r (W.add (k := q.1) (ps := q.2))
    refine z385 ?_
    rw [List.foldl_cons]
    refine ⟨h1, fun j x => ?_, fun j => ?_⟩
    · rw [h2, add_edge W.nd]
      simp only [List.mem_cons]
      constructor
      · rintro ((h | h) | ⟨p, hp, h⟩)
        · exact .inl h
        · exact .inr ⟨q, .inl rfl, h⟩
        · exact .inr ⟨p, .inr hp, h⟩
      · rintro (h | ⟨p, rfl | hp, h⟩)
        · exact .inl (.inl h)
        · exact .inl (.inr h)
        · exact .inr ⟨p, hp, h⟩
    · rw [h3, add_nodes]
      simp only [List.mem_cons]
      constructor
      · rintro ((h | h) | ⟨p, hp, h⟩)
        · exact .inl h
        · exact .inr ⟨q, .inl rfl, h⟩
        · exact .inr ⟨p, .inr hp, h⟩
      · rintro (h | ⟨p, rfl | hp, h⟩)
        · exact .inl (.inl h)
        · exact .inl (.inr h)
        · exact .inr ⟨p, hp, h⟩
theorem build_W (kl : List (Int × List Int)) : WG (gBuild kl) := (build_from kl WG.nil).1
theorem fin_no {g : G} {F : List Int} (h : Fin' g F) (hn : (nodes g).Nodup) {S : List Int} (hS : SelfSup g S) : ∀ k, k ∉ S := by
  have key : ∀ (n i : Nat) (k : Int), F.length ≤ i + n → F[i]? = some k → k ∉ S := by
    intro n
    induction n with
    | zero => intro i k hle hi; have := (List.getElem?_eq_some_iff.mp hi).1; omega
    | succ n ih =>
      intro i k hle hi hk
      refine hide fun z386 => ?_
      obtain ⟨x, hx, hkx⟩ := hS k hk
      obtain ⟨j, hj⟩ := List.getElem?_of_mem (h.all x (gSuc_node hkx))
      refine z386 ?_
      have := h.succ j x hj k hkx
      obtain ⟨i', hi'⟩ := List.getElem?_of_mem this
      have hlt := (List.getElem?_eq_some_iff.mp hi').1
      rw [List.length_take] at hlt
      rw [List.getElem?_take_of_lt (Nat.lt_of_lt_of_le hlt (Nat.min_le_left _ _))] at hi'
      have he : i' = i := by
        have h1 := (List.getElem?_eq_some_iff.mp hi')
        have h2 := (List.getElem?_eq_some_iff.mp hi)
        refine hide fun z387 => ?_
        obtain ⟨l1, e1⟩ := h1
        obtain ⟨l2, e2⟩ := h2
        refine z387 ?_
        exact (List.getElem_inj h.nodup).mp (e1.trans e2.symm)
      exact ih j x (Nat.le_trans hle (by rw [← he, Nat.add_succ, ← Nat.succ_add]; exact Nat.add_le_add_right (Nat.lt_of_lt_of_le hlt (Nat.min_le_left _ _)) n)) hj hx
  intro k hk
  refine hide fun z388 => ?_
  obtain ⟨x, hx, hkx⟩ := hS k hk
  obtain ⟨j, hj⟩ := List.getElem?_of_mem (h.all x (gSuc_node hkx))
  refine z388 ?_
  exact key F.length j x (Nat.le_add_left _ _) hj hx
theorem chain_pred {g : G} : ∀ {v : List Int}, Chain' g v → ∀ k ∈ v.tail, ∃ x ∈ v, k ∈ gSuc g x
  | [], _, k, h => by cases h
  | [a], _, k, h => by cases h
  | a :: b :: r, hc, k, h => by
    rcases List.mem_cons.mp h with rfl | h
    · exact ⟨a, List.mem_cons_self, hc.1⟩
    · refine hide fun z389 => ?_
      obtain ⟨x, hx, hk⟩ := chain_pred hc.2 k h
      refine z389 ?_
      exact ⟨x, List.mem_cons_of_mem _ hx, hk⟩
theorem ring_sup {g : G} {v : List Int} (h : Ring g v) : SelfSup g v ∧ v ≠ [] := by
  refine hide fun z390 => ?_
  obtain ⟨a, r, rfl, hc⟩ := h
  refine z390 ?_
  refine ⟨fun k hk => ?_, by simp⟩
  refine chain_pred hc k ?_
  rcases List.mem_cons.mp (List.cons_append ▸ hk : k ∈ a :: (r ++ [a])) with rfl | hk
  · exact List.mem_append_right _ (List.mem_singleton.mpr rfl)
  · exact hk

theorem nodup_all {as bs : List Int} (hn : as.Nodup) (hs : ∀ x ∈ as, x ∈ bs) (hl : bs.length ≤ as.length) : ∀ x ∈ bs, x ∈ as := by
  induction as generalizing bs with
  | nil => intro x hx; cases bs with | nil => cases hx | cons b r => simp at hl
  | cons a r ih =>
    intro x hx
    have hn' := List.nodup_cons.mp hn
    have ha := hs a List.mem_cons_self
    by_cases e : x = a
    · rw [e]; exact List.mem_cons_self
    · refine List.mem_cons_of_mem _ (ih (bs := bs.erase a) hn'.2 (fun y hy => ?_) ?_ x ((List.mem_erase_of_ne e).mpr hx))
      · have hya : y ≠ a := fun q => hn'.1 (q ▸ hy)
        exact (List.mem_erase_of_ne hya).mpr (hs y (List.mem_cons_of_mem _ hy))
      · rw [List.length_erase_of_mem ha]
        rw [List.length_cons] at hl
        omega
structure Left (g : G) (D : List Int) : Prop where
  inG : ∀ k ∈ D, k ∈ nodes g
  no : ∀ S, SelfSup g S → ∀ k ∈ D, k ∉ S
  up : ∀ k ∈ nodes g, k ∉ D → ∃ x, x ∈ nodes g ∧ x ∉ D ∧ k ∈ gSuc g x
theorem Rnd.left {g₀ g : G} {D L : List Int} (W : WG g₀) (h : Rnd g₀ D D L g) (hD : D.Nodup) (he : L = [] ∨ (nodes g₀).length ≤ D.length) : Left g₀ D := by
  refine ⟨h.inG, h.no, fun k hk hkD => ?_⟩
  rcases he with rfl | he
  · have : cnt D g₀ k ≠ 0 := fun hz => by
      have := (h.rd k).mpr ⟨hk, hkD, hz⟩
      cases this
    rw [Ne, cnt_zero W.nd] at this
    simp only [Classical.not_forall] at this
    refine hide fun z391 => ?_
    obtain ⟨x, hx, hxD⟩ := this
    refine z391 ?_
    exact ⟨x, gSuc_node hx, hxD, hx⟩
  · exact absurd (nodup_all hD h.inG he k hk) hkD
theorem Left.sup {g : G} {D : List Int} (h : Left g D) : SelfSup g ((nodes g).filter fun k => decide (k ∉ D)) := fun k hk => by
  refine hide fun z392 => ?_
  obtain ⟨h1, h2⟩ := List.mem_filter.mp hk
  obtain ⟨x, hx, hxD, hkx⟩ := h.up k h1 (of_decide_eq_true h2)
  refine z392 ?_
  exact ⟨x, List.mem_filter.mpr ⟨hx, decide_eq_true hxD⟩, hkx⟩
theorem Left.of_fin {g : G} {D F : List Int} (h : Left g D) (hn : (nodes g).Nodup) (hF : Fin' g F) : ∀ k ∈ nodes g, k ∈ D := fun k hk => by
  by_cases hd : k ∈ D
  · exact hd
  · exact absurd (List.mem_filter.mpr ⟨hk, decide_eq_true hd⟩) (fin_no hF hn h.sup k)
theorem Left.of_ring {g : G} {D v : List Int} (h : Left g D) (hv : Ring g v) : ∃ k ∈ nodes g, k ∉ D := by
  refine hide fun z393 => ?_
  obtain ⟨h1, h2⟩ := ring_sup hv
  obtain ⟨k, hk⟩ := List.exists_mem_of_ne_nil _ h2
  obtain ⟨x, hx, hkx⟩ := h1 k hk
  refine z393 ?_
  exact ⟨x, gSuc_node hkx, fun hd => h.no v h1 x hd hx⟩
theorem rnd_nodup {D L : List Int} {g₀ g : G} (h : Rnd g₀ D D L g) (hD : D.Nodup) : (D ++ L).Nodup := by
  rw [List.nodup_append]
  refine ⟨hD, h.nd, fun a ha b hb e => ?_⟩
  subst e
  exact ((h.rd a).mp hb).2.1 ha
end Mine

namespace Mine
open PySem PySem.W PyProof.Rows

noncomputable def Tab (kl : List (Int × Addr × List Int)) (ks : List Int) (f : Int → List Int) : Prop := kl.map (fun p => (p.1, p.2.2)) = ks.map (fun y => (y, f y))
theorem Tab.keys {kl : List (Int × Addr × List Int)} {ks : List Int} {f : Int → List Int} (h : Tab kl ks f) : kl.map (·.1) = ks := by
  have := congrArg (List.map (·.1)) h
  rw [List.map_map, List.map_map] at this
  rw [show ks = ks.map id from (List.map_id _).symm]
  exact this
theorem Tab.at {kl : List (Int × Addr × List Int)} {ks : List Int} {f : Int → List Int} (h : Tab kl ks f) {y : Int} (hy : y ∈ ks) : ∃ l, (y, l, f y) ∈ kl := by
  have : (y, f y) ∈ kl.map (fun p => (p.1, p.2.2)) := by rw [h]; exact List.mem_map.mpr ⟨y, hy, rfl⟩
  refine hide fun z394 => ?_
  obtain ⟨⟨k, l, r⟩, hp, e⟩ := List.mem_map.mp this
  obtain ⟨e1, e2⟩ := Prod.mk.inj e
  refine z394 ?_
  dsimp only at e1 e2
  subst e1 e2
  exact ⟨l, hp⟩
theorem Tab.len {kl : List (Int × Addr × List Int)} {ks : List Int} {f : Int → List Int} (h : Tab kl ks f) : kl.length = ks.length := by
  have := congrArg List.length h
  rwa [List.length_map, List.length_map] at this
theorem Tab.congr {kl : List (Int × Addr × List Int)} {ks : List Int} {f f' : Int → List Int} (h : Tab kl ks f) (hf : ∀ y ∈ ks, f y = f' y) : Tab kl ks f' := by
  unfold Tab at h ⊢
  rw [h]
  exact List.map_congr_left fun y hy => by rw [hf y hy]
theorem DL.row {H : AH} {d : Addr} {kl : List (Int × Addr × List Int)} {ks : List Int} {f : Int → List Int} (h : DL H d kl) (t : Tab kl ks f) (hn : ks.Nodup) {y : Int} (hy : y ∈ ks) : ∃ l, dval (kvL kl) y = some (.ref l) ∧ (l, AO.list (iv (f y))) ∈ H := by
  obtain ⟨l, hl⟩ := t.at hy
  exact ⟨l, dval_kvL (p := (y, l, f y)) (by rw [t.keys]; exact hn) hl, h.2 _ hl⟩
theorem DL.keyVals {kl : List (Int × Addr × List Int)} {ks : List Int} {f : Int → List Int} (t : Tab kl ks f) : (kvL kl).map (fun kv => vI kv.1) = iv ks := by
  unfold kvL iv
  rw [List.map_map, ← t.keys, List.map_map]
  rfl
section
variable {C : Cfg} {A : Around} {fx : Fx} {m : Lo} {H : AH} {X : Value → Lo → AH → Prop}
theorem itr_tab {d : Addr} {kl : List (Int × Addr × List Int)} {ep : Nat} {ks : List Int} {f : Int → List Int} (hA : A.handled = none) (h : (d, AO.dict (kvL kl) ep) ∈ H) (t : Tab kl ks f) : ITR C A fx (.ref d) m H (iv ks) (fun H => (d, AO.dict (kvL kl) ep) ∈ H) := by
  have := itr_keys (C := C) (fx := fx) (m := m) hA h
  rw [DL.keyVals t] at this
  exact this
theorem sub_dl {e i : PySem.Expr} {d : Addr} {kl : List (Int × Addr × List Int)} {ks : List Int} {f : Int → List Int} {y : Int} {Q : Value → Lo → AH → Prop} (h : DL H d kl) (t : Tab kl ks f) (hn : ks.Nodup) (hy : y ∈ ks) (hQ : ∀ l, (l, AO.list (iv (f y))) ∈ H → Q (.ref l) m H)
    (hs : ∀ t, subscripted i false (.ref d) (.int y t) = operate [.ref d, .int y t] (getItem (.ref d) (.int y t)) := by intro _; rfl) : SUB C A fx e i (.ref d) (vI y) m H Q X := by
  refine hide fun z395 => ?_
  obtain ⟨l, h1, h2⟩ := h.row t hn hy
  obtain ⟨ep, h3⟩ := h.1
  refine z395 ?_
  exact sub_dict h3 h1 (hQ l h2) hs
end
end Mine

namespace Mine
open PySem PySem.W PyProof.Rows
open Sem (wp)

section
variable {α : Type} {C : Cfg} {A A' : Around} {fx fx' : Fx} {m m' m₁ : Lo} {H H' H₁ : AH} {X : Value → Lo → AH → Prop} {K : Frag} {s s' s₁ : Shared}

theorem bits_small {k : Nat} (h : k < 2 ^ 60) : Builtin.Int.intBits (k : Int) ≤ 64 := by
  unfold Builtin.Int.intBits
  split
  · omega
  · rename_i hk
    have hk' : k ≠ 0 := fun e => hk (by rw [e]; rfl)
    have : (k : Int).natAbs.log2 < 60 := (Nat.log2_lt (by simpa using hk')).mpr (by simpa using h)
    omega
theorem bits_small' {k : Int} (h0 : 0 ≤ k) (h : k < 2 ^ 60) : Builtin.Int.intBits k ≤ 64 := by
  obtain ⟨n, rfl⟩ := Int.eq_ofNat_of_zero_le h0
  exact bits_small (by omega)
theorem si_nodup {x i y : Value} {Q : Lo → AH → Prop} {X : Value → Lo → AH → Prop} (h : H.keys.Nodup → SI C A fx x i y m H Q X) : SI C A fx x i y m H Q X := fun a b c ha hb hc s S => h S.nodup a b c ha hb hc s S
theorem put_at1 {p : Addr × AO} {Y : AH} {a : Addr} {o o' : AO} (hn : (AH.keys (p :: (a, o') :: Y)).Nodup) : AH.put (p :: (a, o') :: Y) a o = p :: (a, o) :: Y := put_mid (X := [p]) hn
theorem wk_row {a : Addr} {o : AO} {p : Addr × AO} {L H : AH} : Wk ((a, o) :: p :: (L ++ H)) (p :: ((L ++ [(a, o)]) ++ H)) := by
  refine Wk.swap.trans (Wk.keep (Wk.perm ?_))
  rw [List.append_assoc]
  exact (List.perm_middle (l₁ := L)).symm
theorem rngV_iv (n : Nat) : rngV n = ((List.range n).map fun i : Nat => (i : Int)).map vI := by
  unfold rngV; rw [List.map_map]; rfl
noncomputable def upto (n : Nat) : List Int := (List.range n).map fun i : Nat => (i : Int)
theorem upto_mem {n : Nat} {x : Int} : x ∈ upto n ↔ 0 ≤ x ∧ x < n := by
  unfold upto
  rw [List.mem_map]
  constructor
  · intro hY0
    refine hide fun z396 => ?_
    obtain ⟨i, hi, rfl⟩ := hY0
    refine z396 ?_
    rw [List.mem_range] at hi
    omega
  · rintro ⟨h1, h2⟩
    exact ⟨x.toNat, List.mem_range.mpr (by omega), by omega⟩
theorem upto_len {n : Nat} : (upto n).length = n := by unfold upto; rw [List.length_map, List.length_range]
theorem upto_nd {n : Nat} : (upto n).Nodup := by
  unfold upto
  exact List.Pairwise.map _ (fun a b h e => h (by omega)) List.nodup_range
theorem itr_upto {r : Addr} {n : Nat} (hA : A.handled = none) (hn : n < 2 ^ 31) (hr : (r, AO.flds (.type "range") [vI 0, vI n, vI 1]) ∈ H) : ITR C A fx (.ref r) m H ((upto n).map vI) (fun _ => True) := by
  have := itr_range (C := C) (fx := fx) (m := m) hA hn hr
  rw [rngV_iv] at this
  exact this
end
end Mine

namespace Mine
open PySem PySem.W PyProof.Rows

noncomputable def bitOf (mask y : Int) : Bool := (mask.fdiv (2 ^ y.toNat)).fmod 2 == 1
theorem rising_eq : ∀ {as bs : List Int}, as.Pairwise (· ≤ ·) → bs.Pairwise (· ≤ ·) → (∀ x, as.count x = bs.count x) → as = bs
  | [], [], _, _, _ => rfl
  | [], b :: r, _, _, h => by have := h b; simp at this
  | a :: r, [], _, _, h => by have := h a; simp at this
  | a :: r, b :: q, h1, h2, h => by
    have h1' := List.pairwise_cons.mp h1
    have h2' := List.pairwise_cons.mp h2
    have hab : a = b := by
      have ha : a ∈ b :: q := List.count_pos_iff.mp (by rw [← h a]; simp)
      have hb : b ∈ a :: r := List.count_pos_iff.mp (by rw [h b]; simp)
      rcases List.mem_cons.mp ha with e | ha
      · exact e
      · rcases List.mem_cons.mp hb with e | hb
        · exact e.symm
        · exact Int.le_antisymm (h1'.1 b hb) (h2'.1 a ha)
    subst hab
    congr 1
    refine rising_eq h1'.2 h2'.2 fun x => ?_
    have := h x
    rw [List.count_cons, List.count_cons] at this
    omega
theorem nd_len {as bs : List Int} (hn : as.Nodup) (hs : ∀ x ∈ as, x ∈ bs) : as.length ≤ bs.length := by
  rcases Nat.lt_or_ge bs.length as.length with h | h
  · have hall := nodup_all (as := as.take bs.length) (bs := bs) (hn.sublist (List.take_sublist _ _)) (fun x hx => hs x (List.mem_of_mem_take hx)) (by rw [List.length_take]; omega)
    have hx := List.getElem?_eq_getElem h
    have h1 := take_fresh hx id (by rw [List.map_id]; exact hn)
    rw [List.map_id] at h1
    exact absurd (hall _ (hs _ (List.getElem_mem h))) h1
  · exact h
end Mine

namespace Mine
open PySem PySem.W PyProof.Rows

theorem bd_with {g : G} {f : Int → Int} {b : Nat} (h : Bd g b) : Bd (gWith g f) b := by
  unfold gWith
  refine ⟨by rw [List.length_map]; exact h.len, fun p hp => ?_⟩
  refine hide fun z397 => ?_
  obtain ⟨q, hq, rfl⟩ := List.mem_map.mp hp
  refine z397 ?_
  exact h.su q hq
theorem clo_of {g₀ g : G} (W : WG g₀) (hn : nodes g = nodes g₀) (hs : ∀ k, gSuc g k = gSuc g₀ k) : ∀ k x, gAt g k = some x → ∀ s ∈ x.2, s ∈ g.map (·.1) := fun k x hx s hsx => by
  have hk : k ∈ nodes g₀ := by rw [← hn]; exact List.mem_map_of_mem (f := (·.1)) (mem_gAt hx)
  show s ∈ nodes g
  rw [hn]
  refine W.cl k hk s ?_
  rw [← hs]
  unfold gSuc
  rw [hx]; exact hsx
section
variable {C : Cfg} {A : Around} {fx : Fx} {m : Lo} {H : AH} {X : Value → Lo → AH → Prop}
theorem gm_wk {x : Value} {n : PySem.Str} {H' : AH} {Q : Value → List Value → Lo → AH → Prop} (hH : Wk H H') (h : GM C A fx x n m H' Q X) : GM C A fx x n m H Q X := fun a pl ha => aw_wk WkL.refl hH (h a pl ha)
theorem sw_eq {sc : Scope} {ts : List PySem.Expr} {e : PySem.Expr} (hsc : fx.env.scope = sc) : swappedStores ts e fx.env = swappedStores ts e { fx.env with scope := sc } := by subst hsc; rfl
end
theorem wk_mid {p : Addr × AO} {S H : AH} : Wk (p :: (S ++ H)) (S ++ p :: H) := Wk.perm (List.perm_middle (l₁ := S)).symm
end Mine

namespace Mine

section
variable {ks : List Int} {f : Int → List Int} {A B : List Int}
end
end Mine

namespace Mine
open PySem PySem.W PyProof.Rows
open Sem (wp)

noncomputable def BL (C : Cfg) (l : Addr) (xs : List Value) : Prop := ∃ vs : Array Value, C.h₀.IsList l vs ∧ vs.toList.map er = xs
section
variable {α : Type} {C : Cfg} {A A' : Around} {fx fx' : Fx} {m m' m₁ : Lo} {H H' H₁ : AH} {X : Value → Lo → AH → Prop} {K : Frag} {s s' s₁ : Shared}
theorem BL.list {l : Addr} {xs : List Value} (h : BL C l xs) (S : St C A fx m H s) : ∃ vs : Array Value, s.heap.IsList l vs ∧ vs.toList.map er = xs := by
  refine hide fun z398 => ?_
  obtain ⟨vs, ⟨o, ho, hc, n, hd⟩, e⟩ := h
  refine z398 ?_
  exact ⟨vs, ⟨o, S.base _ _ ho, hc, n, hd⟩, e⟩
theorem itr_base {l : Addr} {xs : List Value} (hA : A.handled = none) (hl : BL C l xs) : ITR C A fx (.ref l) m H xs (fun _ => True) := fun a ha s Q E S q => by
  obtain rfl := er_eq_ref ha
  refine hide fun z399 => ?_
  obtain ⟨vs, h1, h2⟩ := hl.list S
  refine z399 ?_
  refine wpAny_pyIter_list h1 (q s.heap.objs.size _ s.toks (fun i h => h.IsListIter s.heap.objs.size l i) ⟨?_, ?_, ?_, ?_, ?_⟩ (none_of_le (Nat.le_refl _)) (S.low_lt S.base) ⟨_, Heap.get?_push_size _ rfl, rfl, rfl⟩ fun b o e => Heap.get?_push_of_some _ e)
  · rintro i h h' ⟨o, ho, r⟩ k; exact ⟨o, k o ho, r⟩
  · rintro i h ⟨o, ho, hc, _⟩; exact ⟨o, _, ho, hc, by decide⟩
  · intro i v fx m H s Q E hv hP S hI hp q
    refine hide fun z400 => ?_
    obtain ⟨vs, h1, h2⟩ := hl.list S
    obtain ⟨r, e1, e2⟩ := er_get h2 hv
    refine z400 ?_
    exact wpAny_pyNext_list_item hp h1 e1 fun h' hit hs => q r h' s.toks e2 hit fun b o hb e => (hs.2 b hb).trans e
  · intro fx m H s Q E hP S hI hp q
    refine hide fun z401 => ?_
    obtain ⟨vs, h1, h2⟩ := hl.list S
    refine z401 ?_
    refine wpAny_pyNext_list_end hA hp h1 (Array.getElem?_eq_none_iff.mpr (by have := size_of_er h2; omega)) fun h' hs => q h' s.toks fun b o hb e => hs b o hb e
  · intro i s Q E hp q; exact wpAny_pyIter_listiter hp q
theorem ev_subslice_b {r : Addr} {xs : List Value} (hb : BL C r xs) {e : PySem.Expr} {lo hi st : Option PySem.Expr} {p pos : Pos} {Q : Value → Lo → AH → Prop}
    (h : EV C A fx e m H (fun x m₁ H₁ => EP C A fx lo m₁ H₁ (fun l m₂ H₂ => EP C A fx hi m₂ H₂ (fun u m₃ H₃ => EP C A fx st m₃ H₃ (fun k m₄ H₄ =>
      ∃ l' u' k', x = .ref r ∧ l = partV l' ∧ u = partV u' ∧ k = partV k' ∧ k' ≠ some 0 ∧ xs.length ≤ 1000000 ∧ ∀ a, a ∉ H₄.keys → Q (.ref a) m₄ ((a, AO.list (pickL xs l' u' k')) :: H₄)) X) X) X) X)
    (hs : ∀ x i, ∃ ops, subscripted (.Slice lo hi st p) false x i = operate ops (getItem x i)) :
    EV C A fx (.Subscript e (.Slice lo hi st p) pos) m H Q X := by
  show AW C A fx (eval _ _) m H _ X
  rw [eval_Subscript]
  refine aw_bind (aw_mono h (fun o m₁ H₁ h₁ => aw_bind (aw_holding ?_)) fun _ _ _ x => x)
  rw [arm_eval_Slice]
  refine aw_bind (aw_mono h₁ (fun l m₂ H₂ h₂ => aw_bind (aw_holding (aw_mono h₂ (fun u m₃ H₃ h₃ => aw_bind (aw_holding (aw_mono h₃ (fun k m₄ H₄ h₄ => ?_) fun _ _ _ x => x))) fun _ _ _ x => x))) fun _ _ _ x => x)
  refine hide fun z402 => ?_
  obtain ⟨l', u', k', e0, e2, e3, e4, e5, e6, hq⟩ := h₄
  refine z402 ?_
  obtain rfl := er_eq_ref e0
  refine aw_newFields (by simp) fun a ha => aw_bind (aw_standAt ?_)
  obtain ⟨ops, hops⟩ := hs (.ref r) (.ref a)
  refine aw_forget ?_
  intro s S
  refine hide fun z403 => ?_
  obtain ⟨vs, h1, h2⟩ := hb.list S
  obtain ⟨o, ho, c1, c2, ws, c3, c4⟩ := S.get (List.mem_cons_self)
  obtain ⟨l₁, ws⟩ : ∃ l, ws = l.toArray := ⟨ws.toList, rfl⟩
  refine z403 ?_
  subst ws
  obtain ⟨a1, a2, a3, e1', f1, f2, f3⟩ : ∃ a1 a2 a3, l₁ = [a1, a2, a3] ∧ er a1 = er l ∧ er a2 = er u ∧ er a3 = er k := by
    rcases l₁ with _ | ⟨a1, _ | ⟨a2, _ | ⟨a3, _ | ⟨a4, l₁⟩⟩⟩⟩
    · simp at c4
    · simp at c4
    · simp at c4
    · simp at c4; exact ⟨a1, a2, a3, rfl, c4.1, c4.2.1, c4.2.2⟩
    · simp at c4
  subst e1'
  have hsl : s.heap.IsSliceOf a a1 a2 a3 := ⟨o, ho, c1, c3⟩
  refine tail_any h1.typeIs slot_list_getitem.lookup (wpAny_getItem_list_slice h1 hsl (isPart_of (f1.trans e2)) (isPart_of (f2.trans e3)) (isPart_of (f3.trans e4)) e5 ?_ (by rw [size_of_er h2, sizeLine_eq]; omega)) hops
  obtain ⟨S₂, E₂⟩ := S.push (o := { cls := .type "list", data := .seq (slicePick vs l' u' k') }) (ao := .list (pickL xs l' u' k')) ⟨rfl, ⟨rfl, rfl⟩, _, _, rfl, by
    rw [slicePick_map]; unfold pickL; rw [← h2]; exact congrArg (fun q => (slicePick q l' u' k').toList) (Array.toList_inj.mp (by simp))⟩
  refine ⟨m₄, _, S₂, E₂, _, List.Sublist.cons_cons _ (List.Sublist.cons _ (List.Sublist.refl _)), hq _ fun hm => ?_⟩
  exact Nat.lt_irrefl _ (S.key_lt (List.mem_cons_of_mem _ hm))

theorem BL.nm {l : Addr} {ns : List Int} (h : BL C l (iv ns)) : ∃ l' ns', l' = l ∧ ns' = ns := ⟨_, _, rfl, rfl⟩
theorem pick_len {xs : List Value} {a b : Int} (ha : 0 ≤ a) (hb : 0 ≤ b) : (pickL xs (some a) (some b) none).length ≤ b.toNat - a.toNat := by
  unfold pickL
  rw [kms_pick_eq]
  show (kms_pick xs (some a) (some b)).length ≤ _
  unfold kms_pick kms_lo kms_hi
  dsimp only
  rw [if_neg (Int.not_lt.mpr ha), if_neg (Int.not_lt.mpr hb), List.length_take, List.length_drop]
  refine Nat.le_trans (Nat.min_le_left _ _) ?_
  rcases Nat.le_total a.toNat xs.length with h | h
  · rw [Nat.min_eq_left h]; exact Nat.sub_le_sub_right (Nat.min_le_left _ _) _
  · rw [Nat.min_eq_right h, Nat.sub_eq_zero_of_le (Nat.min_le_right _ _)]; exact Nat.zero_le _
theorem enter_top {prog : Program} {w : World} {fd : FuncData} {f : Addr} {binds : List (PySem.Str × Value)} {env : Env} (low : (∃ o, s.heap.get? mainGlobals = some o) ∧ ∃ o, s.heap.get? sysModules = some o) (hA : A.frames = some []) (hgens : AllBare s.gens)
    (hb : BindOk fd binds) (hk : fd.scope.kind = .function) (hg : fd.globals = mainGlobals) (hbi : fd.builtins = builtinsNs)
    (he : env = newEnv fd.scope s.heap.objs.size fd.globals (cellsFrom (s.heap.objs.size + 1) fd.scope.names []) (fd.qualname ++ ".<locals>.") (some f) fd.code none fd.builtins)
    (x : InCallC s env.locals (bindL env.kindOf binds fun _ => none) env.cells (bindC env.kindOf binds fun _ => none) s') :
    let fx' : Fx := ⟨env, env.locals :: env.cells.filterMap fun p => env.cells.lookup p.1⟩
    St ⟨prog, w, s.heap, s.os⟩ (A.deeper env) fx' (erB binds) [] s' ∧ FxIs fx' fd f := by
  intro fx'
  have hL : env.locals = s.heap.objs.size := by rw [he]; rfl
  have hkd : ∀ y, env.kindOf y = fd.scope.names.lookup y := fun y => by rw [he]; rfl
  have hcs : env.cells = cellsFrom (s.heap.objs.size + 1) fd.scope.names [] := by rw [he]; rfl
  have keep := x.toInCall.keep
  refine hide fun z404 => ?_
  obtain ⟨h', tk, hs', _⟩ := x.done
  refine z404 ?_
  have hW : ∀ b ∈ fx'.W, s.heap.objs.size ≤ b := fun b hb => by
    rcases List.mem_cons.mp hb with rfl | hb
    · exact x.toInCall.fresh
    · refine hide fun z405 => ?_
      obtain ⟨p, hp, e⟩ := List.mem_filterMap.mp hb
      refine z405 ?_
      exact Nat.le_of_lt (Nat.lt_of_le_of_lt x.toInCall.fresh (x.above p.1 b (mem_of_lookup e)))
  have none' : ∀ b, s.heap.objs.size ≤ b → s.heap.get? b = none := fun b hb => none_of_le hb
  have hcell : ∀ y c, env.cells.lookup y = some c → c ∈ fx'.W := fun y c e => List.mem_cons_of_mem _ (List.mem_filterMap.mpr ⟨_, mem_of_lookup e, e⟩)
  refine ⟨⟨fun b o e => keep b o e, fun p hp => (by cases hp), low, fun b hb => ?_, List.nodup_nil, fun b _ h => (by cases h), (congrArg (fun e : Env => e.scope.kind) he).trans hk, ⟨(congrArg Env.globals he).trans hg, (congrArg Env.builtins he).trans hbi⟩, List.mem_cons_self,
    fun b hb => ?_, ⟨_, x.toInCall.ns⟩, fun y hy => ?_, fun y c e => ?_, fun y z c e1 e2 => name_of_addr x.apart (mem_of_lookup e1) (mem_of_lookup e2), fun y v hv => ?_, ?_, fun b _ h => (by cases h), ?_, ?_, ⟨fun _ _ _ h => (by cases h), fun _ _ _ _ _ h => (by cases h)⟩⟩, ⟨congrArg Env.scope he, congrArg Env.code he, congrArg Env.func he, (congrArg Env.frame he).trans (congrArg some hL.symm), congrArg Env.qual he, hcell⟩⟩
  · rcases hb with hb | hb
    · cases hb
    · exact none' b (hW b hb)
  · rcases List.mem_cons.mp hb with rfl | hb
    · obtain ⟨o, _, _, e, _⟩ := x.toInCall.ns; exact ⟨o, e⟩
    · refine hide fun z406 => ?_
      obtain ⟨p, hp, e⟩ := List.mem_filterMap.mp hb
      obtain ⟨o, e, _⟩ := x.cell _ _ e
      refine z406 ?_
      exact ⟨o, e⟩
  · rw [hkd] at hy
    obtain ⟨c, hc⟩ := cellsFrom_some (n := s.heap.objs.size + 1) hy
    exact ⟨c, by rw [hcs]; exact hc⟩
  · exact ⟨⟨_, x.cell y c e⟩, fun h => (by cases h), none' c (hW c (hcell y c e)), Nat.ne_of_gt (x.above y c (mem_of_lookup e))⟩
  · refine hide fun z407 => ?_
    obtain ⟨p, hp, e⟩ := List.mem_map.mp hv
    refine z407 ?_
    cases e
    rcases hb.kinds p hp with h | h
    · exact .inl ⟨(hkd _).trans h, _, _, x.toInCall.ns, bindL_get hb.nodup hp ((hkd _).trans h), rfl⟩
    · obtain ⟨c, hc⟩ := cellsFrom_some (n := s.heap.objs.size + 1) h
      rw [← hcs] at hc
      exact .inr ⟨.inl ((hkd _).trans h), c, p.2, hc, by have := x.cell _ _ hc; rwa [bindC_get hb.nodup hp ((hkd _).trans h)] at this, rfl⟩
  · exact ⟨env :: [], Around.frames_deeper hA, Heap.FunFrames.cons (by rw [show env.scope.kind = .function from (congrArg (fun e : Env => e.scope.kind) he).trans hk]; decide) (by rw [hL]; exact congrArg Env.frame he) x.toInCall.ns (none' _ (hW _ List.mem_cons_self)) trivial⟩
  · rw [hs']; exact hgens
  · rw [hs']
theorem call_top {prog : Program} {w : World} {f : Addr} {fd : FuncData} {body : List Stmt} {vs : List Value} {binds : List (PySem.Str × Value)} {R : Value → Prop} (F : FnAt ⟨prog, w, s.heap, s.os⟩ f fd body) (room : A.depth < recursionLimit)
    (low : (∃ o, s.heap.get? mainGlobals = some o) ∧ ∃ o, s.heap.get? sysModules = some o) (hA : A.frames = some []) (hgens : AllBare s.gens) (hbind : bindArgs fd ⟨vs, []⟩ = pure binds) (hb : BindOk fd binds)
    (h : ∀ fx', FxIs fx' fd f → EXS ⟨prog, w, s.heap, s.os⟩ (A.deeper fx'.env) fx' body (erB binds) [] (fun fl _ _ => R (retV fl)) noX) :
    codeAny (model prog w) A (.call (.ref f) ⟨vs, []⟩) (fun r s' => ∃ v, r = .ok (.ret v) ∧ R (er v) ∧ (∀ b o, s.heap.get? b = some o → s'.heap.get? b = some o) ∧ s'.os = s.os ∧ AllBare s'.gens) s := by
  refine hide fun z408 => ?_
  obtain ⟨o, ho, hd⟩ := F.obj
  refine z408 ?_
  refine codeAny_call_function room ho hd F.co F.gen F.body ?_ ?_
  · refine hide fun z409 => ?_
    obtain ⟨c, oc, ws, t, h1, h2, h3, h4⟩ := F.code
    refine z409 ?_
    exact ⟨c, oc, ws, t, h1, h2, h3, h4⟩
  rw [hbind]
  refine wpAny_pure ?_
  rw [F.clo]
  refine wpAny_newFunctionEnv_cells F.kind (fun x hx => ?_) fun env he s' x => ?_
  · rcases hb.kinds x hx with h | h
    · exact .inl h
    · obtain ⟨c, hc⟩ := cellsFrom_some (n := s.heap.objs.size + 1) h
      exact .inr ⟨h, by rw [hc]; rfl⟩
  obtain ⟨S₂, I⟩ := enter_top (prog := prog) (w := w) (A := A) low hA hgens hb F.kind F.glob F.blt he x
  refine ⟨F.limit.keeps fun b o e => S₂.base b o e, codeAny_func (wpAny_mono (h _ I s' S₂) (fun fl s₃ h₃ => ?_) fun e s₃ h₃ => ?_)⟩
  · refine hide fun z410 => ?_
    obtain ⟨m₃, H₃, S₃, E₃, q⟩ := h₃
    refine z410 ?_
    have q : R (retV (erF fl)) := q
    rw [retV_er] at q
    cases fl <;> exact ⟨_, rfl, q, fun b o e => S₃.base b o e, S₃.os, S₃.gens⟩
  · refine hide fun z411 => ?_
    obtain ⟨_, _, _, _, z⟩ := h₃
    refine z411 ?_
    exact z.elim
end
end Mine

namespace Mine
set_option maxRecDepth 100000
open PySem PySem.W PyProof.Rows
open Sem (wp)
section
variable {α : Type} {C : Cfg} {A A' : Around} {fx fx' : Fx} {m m' m₁ : Lo} {H H' H₁ : AH} {X : Value → Lo → AH → Prop} {K : Frag} {s s' s₁ : Shared} {Q : Value → Lo → AH → Prop}
theorem if_nt {p q : Prop} (h : q) : (if (!true) = true then p else q) := h
end
end Mine

namespace Mine
set_option maxRecDepth 100000
open PySem PySem.W PyProof.Rows

section
variable {ks : List Int} {f : Int → List Int} {c : List (Int × Nat)} {y : Int}
end
section
variable {ks : List Int} {f : Int → List Int} {c : List (Int × Nat)} {y : Int}
variable {D : List Int}
end
end Mine

namespace Mine
set_option maxRecDepth 100000
open PySem PySem.W PyProof.Rows
open Sem (wp)
section
variable {α : Type} {C : Cfg} {A A' : Around} {fx fx' : Fx} {m m' m₁ : Lo} {H H' H₁ : AH} {X : Value → Lo → AH → Prop} {K : Frag} {s s' s₁ : Shared}
theorem si_wk {x i y : Value} {Q : Lo → AH → Prop} (hm : WkL m m') (hH : Wk H H') (h : SI C A fx x i y m' H' Q X) : SI C A fx x i y m H Q X := fun a b c ha hb hc => aw_wk hm hH (h a b c ha hb hc)
theorem si_row {d a : Addr} {ep : Nat} {kl : List (Int × Addr × List Int)} {y : Int} {xs : List Int} {Q : Lo → AH → Prop} (hW : Wk H ((a, .list (iv xs)) :: (d, .dict (kvL kl) ep) :: (LC (kl.map (·.2)) ++ H'))) (hz : kl.length ≤ 1000000) (hf : y ∉ kl.map (·.1))
    (h : ∀ ep', Q m ((d, .dict (kvL (kl ++ [(y, a, xs)])) ep') :: (LC ((kl ++ [(y, a, xs)]).map (·.2)) ++ H'))) : SI C A fx (.ref d) (vI y) (.ref a) m H Q X := by
  refine si_wk WkL.refl hW (si_nodup fun hnd => ?_)
  intro a1 b1 c1 e1 e2 e3
  refine aw_wkp (aw_mono (si_dict (d := d) (kvs := kvL kl) (ep := ep) (Q := fun m' H'' => ∃ ep', m' = m ∧ H'' = AH.put ((a, .list (iv xs)) :: (d, .dict (kvL kl) ep) :: (LC (kl.map (·.2)) ++ H')) d (.dict (stored (kvL kl) y (.ref a)) ep')) (X := X) (up1 List.mem_cons_self) (by unfold kvL; rw [List.length_map]; exact hz) (fun ep' => ⟨ep', rfl, rfl⟩) a1 b1 c1 e1 e2 e3) ?_ fun e m' H'' hx => ⟨_, _, WkL.refl, Wk.refl, hx⟩)
  intro _ m' H'' hY3
  refine hide fun z412 => ?_
  obtain ⟨ep', rfl, rfl⟩ := hY3
  refine z412 ?_
  have hst : stored (kvL kl) y (.ref a) = kvL (kl ++ [(y, a, xs)]) := by
    rw [stored_not (by rw [kvL_keys]; exact hf)]
    unfold kvL
    rw [List.map_append]; rfl
  rw [hst, put_at1 hnd]
  refine ⟨_, _, WkL.refl, ?_, h ep'⟩
  rw [List.map_append, LC_append]
  exact wk_row
theorem nodup_map_inj {α β : Type} {f : α → β} : ∀ {l : List α} {x y : α}, (l.map f).Nodup → x ∈ l → y ∈ l → f x = f y → x = y
  | [], _, _, _, h, _, _ => by cases h
  | a :: r, x, y, hn, hx, hy, e => by
    rw [List.map_cons, List.nodup_cons] at hn
    rcases List.mem_cons.mp hx with h1 | h1 <;> rcases List.mem_cons.mp hy with h2 | h2
    · rw [h1, h2]
    · exact absurd (List.mem_map.mpr ⟨y, h2, by rw [← e, h1]⟩) hn.1
    · exact absurd (List.mem_map.mpr ⟨x, h1, by rw [e, h2]⟩) hn.1
    · exact nodup_map_inj hn.2 h1 h2 e
noncomputable def updK (kl : List (Int × Addr × List Int)) (l : Addr) (xs : List Int) : List (Int × Addr × List Int) := kl.map fun p => if p.2.1 = l then (p.1, l, xs) else p
theorem updK_kv {kl : List (Int × Addr × List Int)} {l : Addr} {xs : List Int} : kvL (updK kl l xs) = kvL kl := by
  unfold kvL updK
  rw [List.map_map]
  refine List.map_congr_left fun p _ => ?_
  simp only [Function.comp]
  split
  · rename_i h; rw [h]
  · rfl
theorem put_LC {l : Addr} {xs : List Int} : ∀ {kl : List (Int × Addr × List Int)}, AH.put (LC (kl.map (·.2))) l (.list (iv xs)) = LC ((updK kl l xs).map (·.2))
  | [] => rfl
  | p :: r => by
    have ih := put_LC (l := l) (xs := xs) (kl := r)
    unfold AH.put LC updK at ih ⊢
    simp only [List.map_cons, List.cons.injEq]
    refine ⟨?_, ih⟩
    by_cases h : p.2.1 = l <;> simp [h]
theorem LC_keys {ls : List (Addr × List Int)} : AH.keys (LC ls) = ls.map (·.1) := by
  unfold AH.keys LC; rw [List.map_map]; rfl
theorem put_dl {d l : Addr} {ep : Nat} {kl : List (Int × Addr × List Int)} {y : Int} {xs zs : List Int} (hn : (AH.keys ((d, .dict (kvL kl) ep) :: (LC (kl.map (·.2)) ++ H))).Nodup) (hp : (y, l, zs) ∈ kl) :
    AH.put ((d, .dict (kvL kl) ep) :: (LC (kl.map (·.2)) ++ H)) l (.list (iv xs)) = (d, .dict (kvL (updK kl l xs)) ep) :: (LC ((updK kl l xs).map (·.2)) ++ H) := by
  rw [keys_cons, keys_append, List.nodup_cons] at hn
  have hl : l ∈ AH.keys (LC (kl.map (·.2))) := by
    rw [LC_keys, List.map_map]; exact List.mem_map.mpr ⟨_, hp, rfl⟩
  have hd : d ≠ l := fun e => hn.1 (e ▸ List.mem_append_left _ hl)
  have hH : l ∉ H.keys := fun h => (List.nodup_append.mp hn.2).2.2 l hl l h rfl
  rw [put_cons, if_neg hd, put_append, put_none hH, put_LC, updK_kv]
theorem updK_tab {d l : Addr} {ep : Nat} {kl : List (Int × Addr × List Int)} {ks : List Int} {f : Int → List Int} {y : Int} {xs zs : List Int} (hn : (AH.keys ((d, .dict (kvL kl) ep) :: (LC (kl.map (·.2)) ++ H))).Nodup) (hp : (y, l, zs) ∈ kl) (ht : Tab kl ks f) (hk : ks.Nodup) :
    Tab (updK kl l xs) ks (fun z => if z = y then xs else f z) := by
  rw [keys_cons, keys_append, List.nodup_cons] at hn
  have hl := (List.nodup_append.mp hn.2).1
  rw [LC_keys, List.map_map] at hl
  have hkk : (kl.map (·.1)).Nodup := by rw [ht.keys]; exact hk
  unfold Tab at ht ⊢
  have h1 : (updK kl l xs).map (fun p => (p.1, p.2.2)) = (kl.map fun p => (p.1, p.2.2)).map fun q => (q.1, if q.1 = y then xs else q.2) := by
    unfold updK
    rw [List.map_map, List.map_map]
    refine List.map_congr_left fun p hpk => ?_
    simp only [Function.comp]
    have h2 : p.2.1 = l ↔ p.1 = y := by
      constructor
      · intro e
        have := nodup_map_inj hl hpk hp e
        rw [this]
      · intro e
        have := nodup_map_inj hkk hpk hp e
        rw [this]
    by_cases e : p.2.1 = l
    · rw [if_pos e, if_pos (h2.mp e)]
    · rw [if_neg e, if_neg fun e2 => e (h2.mpr e2)]
  rw [h1, ht, List.map_map]
  rfl
theorem sub_dl' {e i : PySem.Expr} {d : Addr} {kl : List (Int × Addr × List Int)} {ks : List Int} {f : Int → List Int} {y : Int} {Q : Value → Lo → AH → Prop} (h : DL H d kl) (t : Tab kl ks f) (hn : ks.Nodup) (hy : y ∈ ks) (hQ : ∀ l, (y, l, f y) ∈ kl → (l, AO.list (iv (f y))) ∈ H → Q (.ref l) m H)
    (hs : ∀ t, subscripted i false (.ref d) (.int y t) = operate [.ref d, .int y t] (getItem (.ref d) (.int y t)) := by intro _; rfl) : SUB C A fx e i (.ref d) (vI y) m H Q X := by
  refine hide fun z413 => ?_
  obtain ⟨l, hl⟩ := t.at hy
  obtain ⟨ep, h3⟩ := h.1
  refine z413 ?_
  exact sub_dict h3 (dval_kvL (by rw [t.keys]; exact hn) hl) (hQ l hl (h.2 _ hl)) hs
end
end Mine

namespace Mine
set_option maxRecDepth 100000
open PySem PySem.W PyProof.Rows
open Sem (wp)
end Mine

namespace Mine
set_option maxRecDepth 100000
open PySem PySem.W PyProof.Rows
open Sem (wp)
end Mine

namespace Mine
set_option maxRecDepth 100000
open PySem PySem.W PyProof.Rows
open Sem (wp)
section
variable {α : Type} {C : Cfg} {A A' : Around} {fx fx' : Fx} {m m' m₁ : Lo} {H H' H₁ : AH} {X : Value → Lo → AH → Prop} {K : Frag} {s s' s₁ : Shared}
end
end Mine

namespace Mine
set_option maxRecDepth 100000
open PySem PySem.W PyProof.Rows

section
variable {ahead : Int → List Int} {ks : List Int} {first last : Int → Int}
end
end Mine

namespace Mine
set_option maxRecDepth 100000
open PySem PySem.W PyProof.Rows

end Mine

namespace Mine
set_option maxRecDepth 100000
open PySem PySem.W PyProof.Rows

section
variable {ks : List Int} {f : Int → List Int} {g : Int → Int} {B : List Int} {μ : Int}
noncomputable def srt (l : List Int) : List Int := l.mergeSort fun a b => decide (a ≤ b)
theorem srt_perm {l : List Int} : (srt l).Perm l := List.mergeSort_perm _ _
theorem srt_le {l : List Int} : (srt l).Pairwise (· ≤ ·) := by
  have := List.pairwise_mergeSort (le := fun a b : Int => decide (a ≤ b)) (fun a b c => by simp only [decide_eq_true_eq]; exact Int.le_trans) (fun a b => by simp only [Bool.or_eq_true, decide_eq_true_eq]; exact Int.le_total a b) l
  exact this.imp fun h => of_decide_eq_true h
end
end Mine

namespace Mine
set_option maxRecDepth 100000
open PySem PySem.W PyProof.Rows PySem.SeqAt
open AutoSeq1 (wpAny_loadPart')
open MeetsSeq MeetsSeq2 MeetsSeq3
noncomputable def evalC {α : Type} (lt : Nat → Nat → Bool) (n : Nat) : KasT α → Option α
  | .ret a => some a
  | .ask i j k => if i < n ∧ j < n ∧ i ≠ j then evalC lt n (k (lt i j)) else none
theorem evalC_congr {α : Type} {lt lt' : Nat → Nat → Bool} {n : Nat} (h : ∀ i j, i < n → j < n → i ≠ j → lt i j = lt' i j) : ∀ t : KasT α, evalC lt n t = evalC lt' n t
  | .ret a => rfl
  | .ask i j k => by
    unfold evalC
    by_cases h1 : i < n ∧ j < n ∧ i ≠ j
    · rw [if_pos h1, if_pos h1, h i j h1.1 h1.2.1 h1.2.2]
      exact evalC_congr h (k _)
    · rw [if_neg h1, if_neg h1]
theorem kasWp_eval {α : Type} {cmp : Nat → Nat → (Bool → Shared → Prop) → Shared → Prop} {lt : Nat → Nat → Bool} {n : Nat} {Inv : Shared → Prop}
    (hc : ∀ s i j, Inv s → i < n → j < n → i ≠ j → ∀ Q : Bool → Shared → Prop, (∀ s', Inv s' → Q (lt i j) s') → cmp i j Q s) : ∀ (t : KasT α) {a : α} {G : α → Shared → Prop} {s : Shared}, evalC lt n t = some a → Inv s → (∀ s', Inv s' → G a s') → t.kasWp cmp G s
  | .ret a, b, G, s, e, hs, h => by
    obtain rfl := Option.some.inj e
    exact h s hs
  | .ask i j k, b, G, s, e, hs, h => by
    unfold evalC at e
    by_cases h1 : i < n ∧ j < n ∧ i ≠ j
    · rw [if_pos h1] at e
      exact hc s i j hs h1.1 h1.2.1 h1.2.2 _ fun s' hs' => kasWp_eval hc (k (lt i j)) e hs' h
    · rw [if_neg h1] at e; cases e
noncomputable def chk (l : List Nat) : Bool := match evalC (fun i j => decide (l.getD i 0 < l.getD j 0)) l.length (kas_sort l.length) with
  | some p => p.toList.all (· < l.length) && (p.toList.map fun i => l.getD i 0) == List.range l.length
  | none => false
noncomputable def tups (n : Nat) : Nat → List (List Nat)
  | 0 => [[]]
  | k + 1 => (tups n k).flatMap fun l => ((List.range n).filter fun a => !l.contains a).map fun a => a :: l
theorem chk2 : (tups 2 2).all chk = true := by decide +kernel
theorem chk3 : (tups 3 3).all chk = true := by decide +kernel
theorem chk4 : (tups 4 4).all chk = true := by decide +kernel
theorem chk5 : (tups 5 5).all chk = true := by decide +kernel
theorem mem_tups {n : Nat} : ∀ {l : List Nat}, (∀ x ∈ l, x < n) → l.Nodup → l ∈ tups n l.length
  | [], _, _ => List.mem_singleton.mpr rfl
  | a :: r, h, hn => by
    rw [List.nodup_cons] at hn
    refine List.mem_flatMap.mpr ⟨r, mem_tups (fun x hx => h x (List.mem_cons_of_mem _ hx)) hn.2, List.mem_map.mpr ⟨a, List.mem_filter.mpr ⟨List.mem_range.mpr (h a List.mem_cons_self), ?_⟩, rfl⟩⟩
    simpa using hn.1
theorem kas_table {l : List Nat} (h2 : 2 ≤ l.length) (h5 : l.length ≤ 5) (hb : ∀ x ∈ l, x < l.length) (hn : l.Nodup) :
    ∃ p : Array Nat, evalC (fun i j => decide (l.getD i 0 < l.getD j 0)) l.length (kas_sort l.length) = some p ∧ (∀ i ∈ p.toList, i < l.length) ∧ p.toList.map (fun i => l.getD i 0) = List.range l.length := by
  have hm := mem_tups hb hn
  have hc : chk l = true := by
    obtain e | e | e | e := (by decide : ∀ n, n ≤ 5 → 2 ≤ n → n = 2 ∨ n = 3 ∨ n = 4 ∨ n = 5) _ h5 h2
    all_goals rw [e] at hm
    · exact List.all_eq_true.mp chk2 l hm
    · exact List.all_eq_true.mp chk3 l hm
    · exact List.all_eq_true.mp chk4 l hm
    · exact List.all_eq_true.mp chk5 l hm
  unfold chk at hc
  split at hc
  · rename_i p hp
    rw [Bool.and_eq_true, List.all_eq_true, beq_iff_eq] at hc
    exact ⟨p, hp, fun i hi => by simpa using hc.1 i hi, hc.2⟩
  · cases hc
theorem filter_growN {p q : Nat → Bool} {z : Nat} : ∀ {l : List Nat}, (∀ x ∈ l, p x = true → q x = true) → z ∈ l → p z = false → q z = true → (l.filter p).length + 1 ≤ (l.filter q).length
  | [], _, hz, _, _ => by cases hz
  | a :: r, h, hz, h1, h2 => by
    have hr : ∀ x ∈ r, p x = true → q x = true := fun x hx => h x (List.mem_cons_of_mem _ hx)
    have hle : ∀ l : List Nat, (∀ x ∈ l, p x = true → q x = true) → (l.filter p).length ≤ (l.filter q).length := by
      intro l
      induction l with
      | nil => intro _; exact Nat.le_refl _
      | cons b s ih =>
        intro hs
        have := ih fun x hx => hs x (List.mem_cons_of_mem _ hx)
        rw [List.filter_cons, List.filter_cons]
        by_cases hp : p b = true
        · rw [if_pos hp, if_pos (hs b List.mem_cons_self hp)]; simpa using this
        · rw [if_neg hp]
          split
          · rw [List.length_cons]; omega
          · exact this
    rw [List.filter_cons, List.filter_cons]
    rcases List.mem_cons.mp hz with rfl | hz
    · rw [if_neg (by simp [h1]), if_pos h2, List.length_cons]
      exact Nat.succ_le_succ (hle r hr)
    · have ih := filter_growN hr hz h1 h2
      by_cases hp : p a = true
      · rw [if_pos hp, if_pos (h a List.mem_cons_self hp), List.length_cons, List.length_cons]; omega
      · rw [if_neg hp]
        split
        · rw [List.length_cons]; omega
        · exact ih
theorem sort5 {n : Nat} (h2 : 2 ≤ n) (h5 : n ≤ 5) {lt : Nat → Nat → Bool} (irr : ∀ i, lt i i = false) (tr : ∀ i j k, i < n → j < n → k < n → lt i j = true → lt j k = true → lt i k = true) (tot : ∀ i j, i < n → j < n → i ≠ j → lt i j = true ∨ lt j i = true) :
    ∃ p : Array Nat, evalC lt n (kas_sort n) = some p ∧ p.toList.Perm (List.range n) ∧ p.toList.Pairwise fun i j => lt i j = true := by
  obtain ⟨ρ, hρ⟩ : ∃ ρ : Nat → Nat, ρ = fun i => ((List.range n).filter fun j => lt j i).length := ⟨_, rfl⟩
  have hlt : ∀ i j, i < n → j < n → lt i j = true → ρ i < ρ j := fun i j hi hj h => by
    rw [hρ]
    refine filter_growN (z := i) (fun x hx hp => ?_) (List.mem_range.mpr hi) (irr i) h
    exact tr x i j (List.mem_range.mp hx) hi hj hp h
  have hbd : ∀ i, i < n → ρ i < n := fun i hi => by
    have := filter_growN (p := fun j => lt j i) (q := fun _ => true) (l := List.range n) (z := i) (fun _ _ _ => rfl) (List.mem_range.mpr hi) (irr i) rfl
    have h3 := List.length_filter_le (fun _ => true) (List.range n)
    rw [List.length_range] at h3
    rw [hρ]
    show ((List.range n).filter fun j => lt j i).length < n
    omega
  have hinj : ∀ i j, i < n → j < n → ρ i = ρ j → i = j := fun i j hi hj e => Classical.byContradiction fun hne => by
    rcases tot i j hi hj hne with h | h
    · have := hlt i j hi hj h; omega
    · have := hlt j i hj hi h; omega
  have hiff : ∀ i j, i < n → j < n → i ≠ j → lt i j = decide (ρ i < ρ j) := fun i j hi hj hne => by
    rw [Bool.eq_iff_iff, decide_eq_true_eq]
    refine ⟨hlt i j hi hj, fun h => ?_⟩
    rcases tot i j hi hj hne with h' | h'
    · exact h'
    · have := hlt j i hj hi h'; omega
  have hget : ∀ i, i < n → ((List.range n).map ρ).getD i 0 = ρ i := fun i hi => by simp [hi]
  have hlen : ((List.range n).map ρ).length = n := by rw [List.length_map, List.length_range]
  have hnd : ((List.range n).map ρ).Nodup := by
    rw [List.nodup_iff_pairwise_ne, List.pairwise_map]
    refine (List.nodup_iff_pairwise_ne.mp List.nodup_range).imp_of_mem fun {a b} ha hb hab e => hab (hinj a b (List.mem_range.mp ha) (List.mem_range.mp hb) e)
  obtain ⟨p, e, hp1, hp2⟩ := kas_table (l := (List.range n).map ρ) (by omega) (by omega) (fun x hx => by
    refine hide fun z414 => ?_
    obtain ⟨i, hi, rfl⟩ := List.mem_map.mp hx
    refine z414 ?_
    rw [hlen]; exact hbd i (List.mem_range.mp hi)) hnd
  rw [hlen] at e hp1 hp2
  have hmap : p.toList.map ρ = List.range n := by
    rw [← hp2]
    exact List.map_congr_left fun i hi => (hget i (hp1 i hi)).symm
  refine ⟨p, ?_, ?_, ?_⟩
  · rw [← e]
    exact evalC_congr (fun i j hi hj hne => by rw [hiff i j hi hj hne, hget i hi, hget j hj]) _
  · have hpn : p.toList.Nodup := by
      have : (p.toList.map ρ).Nodup := by rw [hmap]; exact List.nodup_range
      exact List.Pairwise.of_map ρ (fun a b h e => h (by rw [e])) this
    refine (List.perm_ext_iff_of_nodup hpn List.nodup_range).mpr fun a => ⟨fun ha => List.mem_range.mpr (hp1 a ha), fun ha => ?_⟩
    have h1 : ρ a ∈ p.toList.map ρ := by rw [hmap]; exact List.mem_range.mpr (hbd a (List.mem_range.mp ha))
    refine hide fun z415 => ?_
    obtain ⟨j, hj, ej⟩ := List.mem_map.mp h1
    refine z415 ?_
    rw [← hinj j a (hp1 j hj) (List.mem_range.mp ha) ej]; exact hj
  · have h1 : (p.toList.map ρ).Pairwise (· < ·) := by rw [hmap]; exact List.pairwise_lt_range
    rw [List.pairwise_map] at h1
    refine h1.imp_of_mem fun {a b} ha hb hab => ?_
    rw [hiff a b (hp1 a ha) (hp1 b hb) (fun e => by rw [e] at hab; omega)]
    exact decide_eq_true hab
end Mine

namespace Mine
set_option maxRecDepth 100000
open PySem PySem.W PyProof.Rows
open Sem (wp)
section
variable {prog : Program} {w : World} {A : Around} {E : Value → Shared → Prop} {s : Shared} {a : Addr} {vs : List Value}
theorem list_sort_k {n : Nat} {P : PySem.Fin → Shared → Prop} {κ : SortKind} {lt : Nat → Nat → Bool} {p : Array Nat} (ho : s.heap.get? a = some (seqObj "list" vs.toArray n)) (h2 : 2 ≤ vs.length) (h64 : vs.length < 64)
    (kind : ∀ s', (∀ b o, b ≠ a → s.heap.get? b = some o → s'.heap.get? b = some o) → s'.gens = s.gens → s'.os = s.os → ∀ Q' : SortKind → Shared → Prop, Q' κ s' → wpAny (model prog w) A (keyKind' vs.toArray) Q' E s')
    (cmp : ∀ s' i j, (∀ b o, b ≠ a → s.heap.get? b = some o → s'.heap.get? b = some o) → s'.gens = s.gens → s'.os = s.os → i < vs.length → j < vs.length → i ≠ j → ∀ Q' : Bool → Shared → Prop, (∀ tk, Q' (lt i j) { s' with toks := tk }) →
      wpAny (model prog w) A (keyLt' κ (vs.getD i Value.none) (vs.getD j Value.none)) Q' (fun _ _ => False) s')
    (ev : evalC lt vs.length (kas_sort vs.length) = some p)
    (h : ∀ tk, P (.done (.ret .none)) { s with heap := sortedHeap s.heap a vs (p.toList.map fun i => vs.getD i Value.none).toArray, toks := tk }) :
    wpAny (model prog w) A (Builtin.«list.sort» ⟨[.ref a], []⟩) P E s := by
  have ha : a < s.heap.objs.size := Heap.lt_size ho
  obtain ⟨e1, ho1⟩ : ∃ e1, (s.heap.update a (Obj.mapSeq fun _ => (#[] : Array Value))).get? a = some (seqObj "list" #[] e1) := ⟨_, get?_update_seq ho fun _ => #[]⟩
  have ho6 : (((s.heap.update a (Obj.mapSeq fun _ => (#[] : Array Value))).push (seqObj "tuple" vs.toArray 0)).push (seqObj "list" #[] 0)).get? a = some (seqObj "list" #[] e1) := Heap.get?_push_of_some _ (Heap.get?_push_of_some _ ho1)
  have hk : ∀ b o, b ≠ a → s.heap.get? b = some o → (((s.heap.update a (Obj.mapSeq fun _ => (#[] : Array Value))).push (seqObj "tuple" vs.toArray 0)).push (seqObj "list" #[] 0)).get? b = some o := fun b o hb e => by
    refine Heap.get?_push_of_some _ (Heap.get?_push_of_some _ ?_)
    rw [Heap.get?_update_ne _ _ _ _ hb]; exact e
  rw [list_sort_plain]
  refine wpAny_bind (listItems_at ho rfl ?_)
  refine wpAny_bind (listUpdate_at ho rfl ?_ (by rw [List.size_toArray, sizeLine_eq]; omega) (Nat.zero_le _))
  refine wpAny_bind (seqEpoch_at ho1 rfl ?_)
  refine wpAny_bind (wpAny_newTuple ?_ (by show vs.length ≤ _; rw [sizeLine_eq]; omega))
  refine wpAny_bind (wpAny_newList ?_ (Nat.zero_le _))
  refine wpAny_holding ?_
  show wpAny (model prog w) A _ P E { s with heap := ((s.heap.update a (Obj.mapSeq fun _ => (#[] : Array Value))).push (seqObj "tuple" vs.toArray 0)).push (seqObj "list" #[] 0) }
  dsimp only
  have hn2 : ¬ vs.toArray.size < 2 := by rw [List.size_toArray]; omega
  rw [if_neg hn2, if_neg hn2]
  refine wpAny_bind (kind { s with heap := ((s.heap.update a (Obj.mapSeq fun _ => (#[] : Array Value))).push (seqObj "tuple" vs.toArray 0)).push (seqObj "list" #[] 0) } hk rfl rfl _ ?_)
  have est : SortSt.mk' κ (vs.toArray.zip vs.toArray) #[] 7 none = kas_st κ (pairsOf vs) (List.toArray (List.range vs.length)) := by
    have e := kas_range (pairsOf vs)
    rw [pairsOf_size] at e
    show SortSt.mk' κ (pairsOf vs) #[] 7 none = SortSt.mk' κ ((List.toArray (List.range vs.length)).map (kas_item (pairsOf vs))) #[] 7 none
    rw [e]
  obtain ⟨h3, hh3⟩ : ∃ h3 : Heap, h3 = ((s.heap.update a (Obj.mapSeq fun _ => (#[] : Array Value))).push (seqObj "tuple" vs.toArray 0)).push (seqObj "list" #[] 0) := ⟨_, rfl⟩
  rw [← hh3] at ho6 hk ⊢
  have ask : (kas_sort vs.length).kasWp (kas_cmp prog w A κ (pairsOf vs)) (fun p' s' => p' = p ∧ ∃ tk, s' = { s with heap := h3, toks := tk }) { s with heap := h3 } := by
    rw [← kas_ask_eq]
    refine kasWp_eval (Inv := fun s' => ∃ tk, s' = { s with heap := h3, toks := tk }) (fun s' i j hs' hi hj hne Q hq => ?_) _ ev ⟨s.toks, rfl⟩ fun s' hs' => ⟨rfl, hs'⟩
    obtain ⟨tk, rfl⟩ := hs'
    exact cmp { s with heap := h3, toks := tk } i j hk rfl rfl hi hj hne _ fun tk' => hq _ ⟨tk', rfl⟩
  have run := kas_runs (E := E) (Q := fun _ st' s' => ∃ p' : Array Nat, p'.size = vs.length ∧ arrOf st' = p'.map (kas_item (pairsOf vs)) ∧ failedOf st' = none ∧ (p' = p ∧ ∃ tk, s' = { s with heap := h3, toks := tk }))
    h2 h64 (fun p' st' s' a1 a2 a3 a4 => ⟨p', a1, a2, a3, a4⟩) ask
  rw [← est] at run
  refine wpAny_bind (wpAny_mono run ?_ fun _ _ e => e)
  intro hY0 s' hY2
  refine hide fun z416 => ?_
  obtain ⟨⟨⟩, st'⟩ := hY0
  obtain ⟨p', hp, har, hf, rfl, tk, rfl⟩ := hY2
  refine z416 ?_
  dsimp only
  have hout : (arrOf st').map (·.2) = List.toArray (p'.toList.map fun i => vs.getD i Value.none) := by
    apply Array.toList_inj.mp
    rw [har, Array.map_map, Array.toList_map]
    exact List.map_congr_left fun i _ => by show (kas_item (pairsOf vs) i).2 = _; rw [kas_item_eq]
  have hsz : (List.toArray (p'.toList.map fun i => vs.getD i Value.none)).size = vs.length := by rw [List.size_toArray, List.length_map, Array.length_toList, hp]
  rw [hout]
  refine wpAny_bind (seqEpoch_at ho6 rfl ?_)
  refine wpAny_bind (listUpdate_at ho6 rfl ?_ (Nat.zero_le _) (Nat.le_trans (Nat.le_of_eq hsz) (by rw [sizeLine_eq]; omega)))
  rw [hf]
  simp only [bne_self_eq_false, Bool.false_eq_true, if_false]
  refine wpAny_pure ?_
  have := h tk
  unfold sortedHeap at this
  rw [hh3]
  exact this
theorem list_sort_1 {n : Nat} {P : PySem.Fin → Shared → Prop} (ho : s.heap.get? a = some (seqObj "list" vs.toArray n)) (h2 : vs.length < 2)
    (h : P (.done (.ret .none)) { s with heap := sortedHeap s.heap a vs vs.toArray }) : wpAny (model prog w) A (Builtin.«list.sort» ⟨[.ref a], []⟩) P E s := by
  obtain ⟨e1, ho1⟩ : ∃ e1, (s.heap.update a (Obj.mapSeq fun _ => (#[] : Array Value))).get? a = some (seqObj "list" #[] e1) := ⟨_, get?_update_seq ho fun _ => #[]⟩
  have ho6 : (((s.heap.update a (Obj.mapSeq fun _ => (#[] : Array Value))).push (seqObj "tuple" vs.toArray 0)).push (seqObj "list" #[] 0)).get? a = some (seqObj "list" #[] e1) := Heap.get?_push_of_some _ (Heap.get?_push_of_some _ ho1)
  rw [list_sort_plain]
  refine wpAny_bind (listItems_at ho rfl ?_)
  refine wpAny_bind (listUpdate_at ho rfl ?_ (by rw [List.size_toArray, sizeLine_eq]; omega) (Nat.zero_le _))
  refine wpAny_bind (seqEpoch_at ho1 rfl ?_)
  refine wpAny_bind (wpAny_newTuple ?_ (by show vs.length ≤ _; rw [sizeLine_eq]; omega))
  refine wpAny_bind (wpAny_newList ?_ (Nat.zero_le _))
  refine wpAny_holding ?_
  show wpAny (model prog w) A _ P E { s with heap := ((s.heap.update a (Obj.mapSeq fun _ => (#[] : Array Value))).push (seqObj "tuple" vs.toArray 0)).push (seqObj "list" #[] 0) }
  dsimp only
  have hn2 : vs.toArray.size < 2 := by rw [List.size_toArray]; exact h2
  rw [if_pos hn2, if_pos hn2]
  refine wpAny_bind (wpAny_pure ?_)
  rw [StateT.run_pure]
  refine wpAny_bind (wpAny_pure ?_)
  dsimp only
  have hout : (arrOf (SortSt.mk' general' (vs.toArray.zip vs.toArray) #[] 7 none)).map (·.2) = vs.toArray := by
    show ((vs.toArray.zip vs.toArray)).map (·.2) = _
    rw [List.zip_toArray, List.map_toArray]
    congr 1
    rw [List.map_snd_zip (Nat.le_refl _)]
  rw [hout]
  refine wpAny_bind (seqEpoch_at ho6 rfl ?_)
  refine wpAny_bind (listUpdate_at ho6 rfl ?_ (Nat.zero_le _) (by rw [List.size_toArray, sizeLine_eq]; omega))
  simp only [bne_self_eq_false, Bool.false_eq_true, if_false]
  exact wpAny_pure h
end
section
variable {α : Type} {C : Cfg} {A A' : Around} {fx fx' : Fx} {m m' m₁ : Lo} {H H' H₁ : AH} {X : Value → Lo → AH → Prop} {K : Frag} {s s' s₁ : Shared} {Q : Value → Lo → AH → Prop}
theorem call_sorted_k {l : Addr} {xs : List Value} {κ : SortKind} {lt : Nat → Nat → Bool} (hl : (l, AO.list xs) ∈ H) (h5 : xs.length ≤ 5)
    (irr : ∀ i, lt i i = false) (tr : ∀ i j k, i < xs.length → j < xs.length → k < xs.length → lt i j = true → lt j k = true → lt i k = true) (tot : ∀ i j, i < xs.length → j < xs.length → i ≠ j → lt i j = true ∨ lt j i = true)
    (kind : ∀ (A' : Around) (E : Value → Shared → Prop) (s' : Shared) (vs : List Value), A'.units ≤ A.units + 2 → St C A fx m H s' → vs.map er = xs → 2 ≤ vs.length → ∀ Q' : SortKind → Shared → Prop, Q' κ s' → wpAny (model C.prog C.w) A' (keyKind' vs.toArray) Q' E s')
    (cmp : ∀ (A' : Around) (s' : Shared) (vs : List Value) i j, A'.units ≤ A.units + 2 → St C A fx m H s' → vs.map er = xs → i < xs.length → j < xs.length → i ≠ j → ∀ Q' : Bool → Shared → Prop, (∀ tk, Q' (lt i j) { s' with toks := tk }) →
      wpAny (model C.prog C.w) A' (keyLt' κ (vs.getD i Value.none) (vs.getD j Value.none)) Q' (fun _ _ => False) s')
    (h : ∀ (a : Addr) (p : List Nat), a ∉ H.keys → p.Perm (List.range xs.length) → p.Pairwise (fun i j => lt i j = true) → Q (.ref a) m ((a, .list (p.map fun i => xs.getD i Value.none)) :: H)) : CALL C A fx (.builtin "sorted") [.ref l] m H Q X := fun g vs hg hvs => by
  obtain rfl := er_eq_builtin hg
  refine hide fun z417 => ?_
  obtain ⟨a, rfl, ha⟩ := er1 hvs
  refine z417 ?_
  obtain rfl := er_eq_ref ha
  intro s S
  refine hide fun z418 => ?_
  obtain ⟨vs, ⟨o, ho, hc, n, hd⟩, h2⟩ := S.isList hl
  refine z418 ?_
  have hlen : vs.toList.length = xs.length := by rw [← h2, List.length_map]
  have hsz : vs.size = xs.length := by rw [← hlen, Array.length_toList]
  refine Calls.call_function_entry kind_sorted plain_sorted entry_sorted (args_sorted1 _) ?_
  unfold Builtin.«sorted»
  refine wpAny_bind (m := checkCount "sorted" 1 1 _) (wpAny_pure ?_)
  refine wpAny_bind (wpAny_collect_seq l (.inl rfl) ho hc hd (fun h' hk => ?_) (by rw [sizeLine_eq]; omega))
  refine wpAny_bind (wpAny_newList ?_ (by rw [sizeLine_eq]; omega))
  have ho' : (h'.push (seqObj "list" vs.toList.toArray 0)).get? h'.objs.size = some (seqObj "list" vs.toList.toArray 0) := Heap.get?_push_size _ rfl
  obtain ⟨S', E'⟩ := S.keeps (s' := { s with heap := h' }) hk
  have hn : h'.get? h'.objs.size = none := none_of_le (Nat.le_refl _)
  have keepP : ∀ b o, h'.get? b = some o → (h'.push (seqObj "list" vs.toList.toArray 0)).get? b = some o := fun b o e => by
    rw [Heap.get?_push_ne _ _ _ (Nat.ne_of_lt (Heap.lt_size e))]; exact e
  have hSt : ∀ s'' : Shared, (∀ b o, b ≠ h'.objs.size → (h'.push (seqObj "list" vs.toList.toArray 0)).get? b = some o → s''.heap.get? b = some o) → s''.gens = s.gens → s''.os = s.os → St C A fx m H s'' := fun s'' k1 k2 k3 =>
    (S'.keeps (s' := s'') (fun b o e => k1 b o (fun eb => by rw [eb, hn] at e; cases e) (keepP b o e)) k2 k3).1
  have done : ∀ (tk : Nat) (p : List Nat) (out : Array Value), p.Perm (List.range xs.length) → p.Pairwise (fun i j => lt i j = true) → out.toList.map er = p.map (fun i => xs.getD i Value.none) →
      Po C A fx H s (fun v => Q (er v)) (.ref h'.objs.size) { s with heap := sortedHeap (h'.push (seqObj "list" vs.toList.toArray 0)) h'.objs.size vs.toList out, toks := tk } := fun tk p out hp hpw hout => by
    obtain ⟨e, he⟩ := sortedHeap_at (out := out) ho'
    obtain ⟨S₂, E₂⟩ := S'.new (s' := { s with heap := sortedHeap (h'.push (seqObj "list" vs.toList.toArray 0)) h'.objs.size vs.toList out, toks := tk }) (ao := .list (p.map fun i => xs.getD i Value.none)) hn (fun b o eb => by
      have hlt := Heap.lt_size eb
      have h1 : b < (h'.push (seqObj "list" vs.toList.toArray 0)).objs.size := by rw [size_push']; exact Nat.lt_succ_of_lt hlt
      have h3 := sortedHeap_old (h := h'.push (seqObj "list" vs.toList.toArray 0)) (vs := vs.toList) (out := out) (Nat.ne_of_lt hlt) h1
      rw [h3]; exact keepP b o eb) he ⟨rfl, ⟨rfl, rfl⟩, _, _, rfl, hout⟩
    exact ⟨m, _, S₂, E'.trans E₂, h _ p (fun hm => Nat.lt_irrefl _ (S'.key_lt hm)) hp hpw⟩
  have hget : ∀ i, er (vs.toList.getD i Value.none) = xs.getD i Value.none := fun i => by
    rw [← h2]
    simp only [List.getD_eq_getElem?_getD, List.getElem?_map]
    cases vs.toList[i]? <;> rfl
  by_cases hn2 : vs.toList.length < 2
  · refine wpAny_bind (wpAny_holding (wpAny_call_entry slot_list_sort ⟨_, ho', rfl⟩ entry_list_sort (list_sort_1 ho' hn2 ⟨_, rfl, ?_⟩) (args_list_sort _)))
    refine wpAny_pure ⟨_, rfl, ?_⟩
    refine done s.toks (List.range xs.length) _ (List.Perm.refl _) ?_ ?_
    · match hx : xs.length with
      | 0 => exact List.Pairwise.nil
      | 1 => exact List.pairwise_singleton _ _
      | k + 2 => omega
    · show vs.toList.map er = _
      rw [h2]
      refine List.ext_getElem (by simp) fun i h1 h3 => ?_
      simp [h1]
  · refine hide fun z419 => ?_
    obtain ⟨p, ev, hp, hpw⟩ := sort5 (n := xs.length) (by omega) h5 irr tr tot
    refine z419 ?_
    refine wpAny_bind (wpAny_holding (wpAny_call_entry slot_list_sort ⟨_, ho', rfl⟩ entry_list_sort (list_sort_k (κ := κ) (lt := lt) (p := p) ho' (by omega) (by omega) (fun s'' k1 k2 k3 Q' hq => kind _ _ s'' vs.toList ?hu1 (hSt s'' k1 k2 k3) h2 (by omega) Q' hq)
      (fun s'' i j k1 k2 k3 hi hj hne Q' hq => cmp _ s'' vs.toList i j ?hu2 (hSt s'' k1 k2 k3) h2 (by omega) (by omega) hne Q' hq) (by rw [hlen]; exact ev) fun tk => ⟨_, rfl, ?_⟩) (args_list_sort _)))
    case hu1 => show A.units + 1 + 1 ≤ A.units + 2; omega
    case hu2 => show A.units + 1 + 1 ≤ A.units + 2; omega
    refine wpAny_pure ⟨_, rfl, ?_⟩
    refine done tk p.toList _ hp hpw ?_
    rw [List.map_map]
    exact List.map_congr_left fun i _ => hget i
theorem getD_mem' {α : Type} {l : List α} {i : Nat} {d : α} (h : i < l.length) : l.getD i d ∈ l := by
  rw [List.getD_eq_getElem?_getD, List.getElem?_eq_getElem h]; exact List.getElem_mem h
end
end Mine

namespace Mine
set_option maxRecDepth 100000
open PySem PySem.W PyProof.Rows
open Sem (wp)
theorem pylong2 (t : Int) : ∀ k : Nat, k ≤ 8000 → Builtin.divisionGoesByPylong t (2 ^ k) = false := by
  intro k hk
  have e : (2 ^ k : Int).natAbs = 2 ^ k := by
    rw [Int.natAbs_pow]; rfl
  unfold Builtin.divisionGoesByPylong
  simp only [Bool.and_eq_false_iff]
  left
  refine decide_eq_false ?_
  have h0 : ((2 ^ k : Int) == 0) = false := by
    have := Int.pow_pos (n := 2) (m := k) (by decide)
    simp; omega
  rw [h0, e, Nat.log2_two_pow]
  simp
  exact Nat.div_le_of_le_mul (le_N hk rfl)
theorem pylong4 (t : Int) {k : Nat} (hk : k ≤ 4000) : Builtin.divisionGoesByPylong t (4 ^ k) = false := by
  have e : (4 : Int) ^ k = 2 ^ (2 * k) := by rw [Int.pow_mul]; rfl
  rw [e]
  exact pylong2 t _ (by omega)
theorem int_pow_ne (k : Nat) : (2 : Int) ^ k ≠ 0 := by
  have := Int.pow_pos (n := 2) (m := k) (by decide); omega
theorem int_pow4_ne (k : Nat) : (4 : Int) ^ k ≠ 0 := by
  have := Int.pow_pos (n := 4) (m := k) (by decide); omega
theorem pylongS (t : Int) {k : Nat} (hk : k ≤ 5) : Builtin.divisionGoesByPylong t (k : Int) = false := by
  have h : ∀ k : Fin 6, ((if ((k.val : Int)) == 0 then 0 else (k.val : Int).natAbs.log2 / 30 + 1) : Nat) ≤ 300 := by decide
  have := h ⟨k, by omega⟩
  unfold Builtin.divisionGoesByPylong
  simp only [Bool.and_eq_false_iff]
  left
  exact decide_eq_false (Nat.not_lt.mpr this)
section
variable {C : Cfg} {A : Around} {fx : Fx} {m : Lo} {H : AH} {X : Value → Lo → AH → Prop} {Q : Value → Lo → AH → Prop}
theorem bo_pow4 {j : Int} (h0 : 0 ≤ j) (hj : j ≤ 8000) (h : Q (vI (4 ^ j.toNat)) m H) : BO C A fx .Pow (vI 4) (vI j) m H Q X := by
  refine bo_pow h0 ?_ h
  have : Builtin.Int.intBits 4 = 3 := by decide
  rw [this]; omega
end
end Mine

namespace Mine
set_option maxRecDepth 100000
open PySem PySem.W PyProof.Rows
open Sem (wp)
section
variable {ks xs : List Int} {f : Int → List Int} {bs : List (List Int)}
end
end Mine

namespace Mine
set_option maxRecDepth 100000
open PySem PySem.W PyProof.Rows
open Sem (wp)
end Mine

namespace Mine
set_option maxRecDepth 100000
open PySem PySem.W PyProof.Rows
open Sem (wp)
section
variable {α : Type} {C : Cfg} {A A' : Around} {fx fx' : Fx} {m m' m₁ : Lo} {H H' H₁ : AH} {X : Value → Lo → AH → Prop} {K : Frag} {s s' s₁ : Shared}
theorem srt_uniq {l K : List Int} (hp : K.Perm l) (hl : K.Pairwise (· ≤ ·)) : K = srt l := rising_eq hl srt_le fun x => by rw [hp.count_eq, srt_perm.count_eq]
end
theorem build_take {l : List (Int × List Int)} {i : Nat} {p : Int × List Int} (h : l[i]? = some p) : gBuild (l.take (i + 1)) = gAdd (gBuild (l.take i)) p.1 p.2 := by
  unfold gBuild
  exact fold_take (fun g p => gAdd g p.1 p.2) [] h
end Mine

namespace Mine
open PySem PySem.W PyProof.Rows
open Sem (wp)

noncomputable def SG (M : Model) (A : Around) (T : End → Shared → Prop) (c : Code) (t : Sem Fin) (fs : List Frame) (s : Shared) : Prop :=
  ∀ Γ p, Γ.code = c → Γ.Woken A → ∃ e s', Runs M Γ p t fs s e s' ∧ T e s'
noncomputable def Go (M : Model) (A : Around) (T : End → Shared → Prop) (y : GenState) (r : Resume) (s : Shared) : Prop := match y with
  | .fresh c => r = .send .none ∧ SG M A T c (M.den c) [] s
  | .suspended k _ c _ fs _ => SG M A T c (k r) fs s
  | _ => False

section
variable {M : Model} {A : Around} {T T' : End → Shared → Prop} {c : Code} {fs : List Frame} {s : Shared}
theorem SG.mono {t : Sem Fin} (h : SG M A T c t fs s) (hT : ∀ e s', T e s' → T' e s') : SG M A T' c t fs s := fun Γ p hc hΓ =>
  let ⟨e, s', hr, he⟩ := h Γ p hc hΓ; ⟨e, s', hr, hT e s' he⟩
theorem sg_wrap {α : Type} {t : Sem α} {K : α → Sem Fin} {H : Value → Sem Fin} {gd lv} (h : wpAny M (A.over c fs) t (fun a s' => SG M A T c (K a) fs s') (fun x s' => SG M A T c (H x) fs s') s) : SG M A T c (t.wrap K H gd lv) fs s := by
  rintro Γ p rfl hΓ
  exact runs_wrap_of_wp K H gd lv t (h (Γ.over fs) p (hΓ.over fs)) (fun a p' s' h' => h' Γ p' rfl hΓ) (fun x p' s' h' => h' Γ p' rfl hΓ)
theorem sg_call {c' : Code} {hd g l} {k : Result → Sem Fin} (h : ∀ p, SG M A T c' (M.den c') (.ret k hd g l c p [] :: fs) s) : SG M A T c (.call c' hd g l k) fs s := by
  rintro Γ p rfl hΓ
  refine hide fun z420 => ?_
  obtain ⟨e, s', hr, he⟩ := h p (Γ.goto c') p rfl (hΓ.goto c')
  refine z420 ?_
  exact ⟨e, s', runs_call_seg hr, he⟩
theorem sg_leaf {k hd g l c₁ p₁ kp} (r : Result) (h : SG M A T c₁ (k r) fs s) : SG M A T c (leafOf r) (.ret k hd g l c₁ p₁ kp :: fs) s := by
  rintro Γ p rfl hΓ
  refine hide fun z421 => ?_
  obtain ⟨e, s', hr, he⟩ := h (Γ.goto c₁) p₁ rfl (hΓ.goto c₁)
  refine z421 ?_
  exact ⟨e, s', Runs.pop r hr, he⟩
theorem sg_again {c' : Code} (hq : c'.quiet = true) (h : SG M A T c' (M.den c') fs s) : SG M A T c (.pure (.again c')) fs s := by
  rintro Γ p rfl hΓ
  refine hide fun z422 => ?_
  obtain ⟨e, s', hr, he⟩ := h (Γ.goto c') p rfl (hΓ.goto c')
  refine z422 ?_
  exact ⟨e, s', Runs.head (c₁ := c') (fun _ _ x => .again hq x) hr, he⟩
theorem sg_end (r : Result) (h : T (.ret r) s) : SG M A T c (leafOf r) [] s := by
  rintro Γ p rfl _
  exact ⟨.ret r, s, Runs.leaf r, h⟩
theorem sg_yield {v g l} {k : Resume → Sem Fin} (hfs : splitAtGen fs = none) (h : ∀ p, T (.susp v g l k c p fs) s) : SG M A T c (.yield v g l k) fs s := by
  rintro Γ p rfl _
  exact ⟨_, s, Runs.yield' fs hfs, h p⟩

theorem wpAny_resume_go {α : Type} {E : Value → Shared → Prop} {g : Nat} {y : GenState} {r : Resume} {l : List Value} {k : GenResult → Sem α} {Q : α → Shared → Prop} (hg : s.gens[g]? = some y) (hgo : Go M A T y r (s.setGen g .running))
    (hT : ∀ e s₁, T e s₁ → e.quiet = true ∧ wpAny M A (k e.result) Q E (s₁.setGen g e.genState)) : wpAny M A (.resume g r l k) Q E s := by
  intro Γ p hΓ
  rw [Sem.wp_resume]
  have hB : ∀ c, (Γ.wake c p).Woken A := fun c => hΓ.wake c p
  cases y with
  | fresh c =>
    refine hide fun z423 => ?_
    obtain ⟨rfl, hs⟩ := hgo
    obtain ⟨e₁, s₁, hr, he⟩ := hs (Γ.wake c p) p rfl (hB c)
    refine z423 ?_
    exact ⟨_, _, by unfold Wakes; rw [hg]; exact ⟨e₁, s₁, hr, (hT e₁ s₁ he).1, rfl, rfl⟩, (hT e₁ s₁ he).2 Γ p hΓ⟩
  | suspended k₀ l₀ c₀ p₀ fs₀ cl =>
    refine hide fun z424 => ?_
    obtain ⟨e₁, s₁, hr, he⟩ := hgo (Γ.wake c₀ p) p₀ rfl (hB c₀)
    refine z424 ?_
    exact ⟨_, _, by unfold Wakes; rw [hg]; exact ⟨e₁, s₁, hr, (hT e₁ s₁ he).1, rfl, rfl⟩, (hT e₁ s₁ he).2 Γ p hΓ⟩
  | running => exact hgo.elim
  | finished => exact hgo.elim
end

noncomputable def TG (C : Cfg) (A : Around) (fx : Fx) (H : AH) (s : Shared) (Y : Value → GenState → Lo → AH → Prop) (N : Lo → AH → Prop) (X : Value → Lo → AH → Prop) : End → Shared → Prop :=
  Po C (A.deeper fx.env) fx H s fun e m' H' => match e with
    | .ret (.ok (.ret v)) => v = .none ∧ N m' H'
    | .ret (.ok _) => False
    | .ret (.error x) => X x m' H'
    | .susp v g l k c p fs => g = false ∧ fs.any Frame.guarded = false ∧ Y (er v) (.suspended k l c p fs false) m' H'
noncomputable def GX (C : Cfg) (A : Around) (fx : Fx) (c : Code) (t : Sem Fin) (fs : List Frame) (m : Lo) (H : AH) (Y : Value → GenState → Lo → AH → Prop) (N : Lo → AH → Prop) (X : Value → Lo → AH → Prop) : Prop :=
  ∀ s, St C (A.deeper fx.env) fx m H s → SG (model C.prog C.w) A (TG C A fx H s Y N X) c t fs s
noncomputable def Fr (A : Around) (fx : Fx) (c : Code) (fs : List Frame) : Prop := (A.over c fs).frames = (A.deeper fx.env).frames

section
variable {C : Cfg} {A : Around} {fx : Fx} {c : Code} {fs : List Frame} {m m' : Lo} {H H' : AH} {Y : Value → GenState → Lo → AH → Prop} {N : Lo → AH → Prop} {X : Value → Lo → AH → Prop}
theorem TG.up {s s' : Shared} {e : End} {s₁ : Shared} (E : Ext (A.deeper fx.env) fx H s H' s') (h : TG C A fx H' s' Y N X e s₁) : TG C A fx H s Y N X e s₁ :=
  let ⟨m', H', S', E', q⟩ := h; ⟨m', H', S', E.trans E', q⟩
theorem gx_wrap {α : Type} {t : Sem α} {K : α → Sem Fin} {Hd : Value → Sem Fin} {gd lv} (hf : Fr A fx c fs)
    (h : AW C (A.over c fs) fx t m H (fun a m' H' => GX C A fx c (K a) fs m' H' Y N X) (fun x m' H' => GX C A fx c (Hd x) fs m' H' Y N X)) : GX C A fx c (t.wrap K Hd gd lv) fs m H Y N X := by
  intro s S
  refine sg_wrap (wpAny_mono (h s (S.inA hf)) (fun a s' h' => ?_) fun x s' h' => ?_)
  · refine hide fun z425 => ?_
    obtain ⟨m', H', S', E', q⟩ := h'
    refine z425 ?_
    exact (q s' (S'.inA hf.symm)).mono fun e s₁ => TG.up (E'.inA hf.symm)
  · refine hide fun z426 => ?_
    obtain ⟨m', H', S', E', q⟩ := h'
    refine z426 ?_
    exact (q s' (S'.inA hf.symm)).mono fun e s₁ => TG.up (E'.inA hf.symm)
theorem gx_call {c' : Code} {hd g l} {k : Result → Sem Fin} (h : ∀ p, GX C A fx c' ((model C.prog C.w).den c') (.ret k hd g l c p [] :: fs) m H Y N X) : GX C A fx c (.call c' hd g l k) fs m H Y N X := fun s S => sg_call fun p => h p s S
theorem gx_ret {k hd g l c₁ p₁ kp} {f : Flow} (h : GX C A fx c₁ (k (.ok f)) fs m H Y N X) : GX C A fx c (.pure (.done f)) (.ret k hd g l c₁ p₁ kp :: fs) m H Y N X := fun s S => sg_leaf (.ok f) (h s S)
theorem gx_again {c' : Code} (hq : c'.quiet = true) (h : GX C A fx c' ((model C.prog C.w).den c') fs m H Y N X) : GX C A fx c (.pure (.again c')) fs m H Y N X := fun s S => sg_again hq (h s S)
theorem gx_end (h : N m H) : GX C A fx c (.pure (.done (.ret .none))) [] m H Y N X := fun s S => sg_end (.ok (.ret .none)) ⟨m, H, S, Ext.refl' S, rfl, h⟩
theorem gx_left {x : Value} (h : X x m H) : GX C A fx c (.raise x) [] m H Y N X := fun s S => sg_end (.error x) ⟨m, H, S, Ext.refl' S, h⟩
theorem gx_yield {v l} {k : Resume → Sem Fin} (hfs : splitAtGen fs = none) (hg : fs.any Frame.guarded = false) (h : ∀ p, Y (er v) (.suspended k l c p fs false) m H) : GX C A fx c (.yield v false l k) fs m H Y N X :=
  fun s S => sg_yield hfs fun p => ⟨m, H, S, Ext.refl' S, rfl, hg, h p⟩
theorem gx_wk (hm : ∀ x v, (x, v) ∈ m' → (x, v) ∈ m) (hw : Wk H H') {t : Sem Fin} (h : GX C A fx c t fs m' H' Y N X) : GX C A fx c t fs m H Y N X := fun s S => by
  obtain ⟨S', E'⟩ := S.wk hw
  exact (h s (S'.lo hm)).mono fun e s₁ => TG.up E'
end
end Mine

namespace Mine
open PySem PySem.W PyProof.Rows
open Sem (wp)

section
variable {C : Cfg} {A : Around} {fx : Fx} {c : Code} {fs : List Frame} {m m' : Lo} {H H' : AH} {Y : Value → GenState → Lo → AH → Prop} {N : Lo → AH → Prop} {X : Value → Lo → AH → Prop}
variable {K : Flow → Sem Fin} {Hd : Value → Sem Fin} {gd : Bool → Bool} {lv : List Value → List Value}

theorem fr_func {body : List Stmt} : Fr A fx (.func body fx.env) [] := rfl
theorem fr_in {c' : Code} {k hd g l p kp} (h : Fr A fx c fs) (hc : c'.isFrame = false) : Fr A fx c' (.ret k hd g l c p kp :: fs) := by
  unfold Fr Around.over at h ⊢
  rw [← h]
  simp only [List.map_cons, Frame.where_, envsOf_cons, pushEnvs_eq, Option.map_map]
  have e : c'.envs = [] := by simp [Code.envs, hc]
  rw [e]
  congr 1
  funext x
  simp [Function.comp]

theorem gx_at {p' : Pos} {k : Unit → Sem Fin} (hf : Fr A fx c fs) (h : GX C A fx c (k ()) fs m H Y N X) : GX C A fx c (.at p' k) fs m H Y N X :=
  gx_wrap (t := standAt p') (K := k) (Hd := .raise) (gd := id) (lv := id) hf (aw_standAt h)
theorem gx_point {l : List Value} {k : Unit → Sem Fin} (hf : Fr A fx c fs) (h : GX C A fx c (k ()) fs m H Y N X) : GX C A fx c (.point l k) fs m H Y N X :=
  gx_wrap (t := point) (K := k) (Hd := .raise) (gd := id) (lv := fun _ => l) hf (aw_point h)
theorem gx_step {α : Type} {t : Sem α} {Kα : α → Sem Fin} {Hd : Value → Sem Fin} {gd lv} (hf : Fr A fx c fs)
    (h : AW C (A.over c fs) fx t m H (fun a m' H' => GX C A fx c (Kα a) fs m' H' Y N X) noX) : GX C A fx c (t.wrap Kα Hd gd lv) fs m H Y N X :=
  gx_wrap hf (aw_mono h (fun _ _ _ q => q) fun _ _ _ z => z.elim)

theorem gx_cons {st : Stmt} {rest : List Stmt} (h : GX C A fx c ((exec st fx.env).wrap (fun f => match f with | .next => (execs rest fx.env).wrap K Hd gd lv | f => K f) Hd gd lv) fs m H Y N X) : GX C A fx c ((execs (st :: rest) fx.env).wrap K Hd gd lv) fs m H Y N X := by
  rw [execs_cons_wrap]; exact h
theorem gx_ex {st : Stmt} (hf : Fr A fx c fs) (h : EX C (A.over c fs) fx st m H (fun f m' H' => f = .next ∧ GX C A fx c (K .next) fs m' H' Y N X) (fun x m' H' => GX C A fx c (Hd x) fs m' H' Y N X)) : GX C A fx c ((exec st fx.env).wrap K Hd gd lv) fs m H Y N X :=
  gx_wrap hf (aw_mono h (fun f m' H' q => by
    obtain ⟨e, q⟩ := q
    cases f with
    | next => exact q
    | _ => cases e) fun _ _ _ z => z)

theorem gx_func {body : List Stmt} (h : GX C A fx (.func body fx.env) ((execs body fx.env).wrap (fun f => .pure (.done (.ret (retV f)))) (fun e => (leaving fx.env e).wrap (fun _ => .raise e) .raise id id) id id) [] m H Y N X) :
    GX C A fx (.func body fx.env) ((model C.prog C.w).den (.func body fx.env)) [] m H Y N X := by
  show GX C A fx (.func body fx.env) (.point [] fun _ => ((execs body fx.env).onRaise (leaving fx.env)) >>= _) [] m H Y N X
  refine gx_point fr_func ?_
  rw [Sem.onRaise_eq_wrap, Sem.bind_eq_wrap', Sem.wrap_wrap]
  rw [Sem.wrap_congr (execs body fx.env) _ _ (K' := fun f => .pure (.done (.ret (retV f)))) (H' := fun e => (leaving fx.env e).wrap (fun _ => .raise e) .raise id id) (fun f => by cases f <;> rfl) (fun e => by rw [Sem.bind_eq_wrap, Sem.wrap_wrap]; rfl)]
  exact h

noncomputable def whRet (env : Env) (K : Flow → Sem Fin) (Hd : Value → Sem Fin) (gd : Bool → Bool) (lv : List Value → List Value) : Result → Sem Fin := fun r =>
  ((match r with | .ok f => (.pure f : Sem Flow) | .error e => .raise e).onRaise fun (x : Value) => do
    if (← field x 1) == Value.none then unsupported "frame.own-activation:exception-without-traceback"
    setFlight x env.frame).wrap K Hd gd lv
noncomputable def whErr (env : Env) : Value → Sem Fin := fun e => (do noteFrame e env; theTreesLotGoes e : Sem Unit).wrap (fun _ => .raise e) .raise id id
noncomputable def whBody (c : Code) : Flow → Sem Fin := fun f => match f with
  | .next | .cont => .pure (.again c)
  | .brk => .pure (.done .next)
  | .ret v => .pure (.done (.ret v))
theorem gx_while {test : PySem.Expr} {body orelse : List Stmt} {pos : Pos} (hf : Fr A fx c fs) (h : ∀ p, GX C A fx (.whileLoop test body orelse fx.env) ((model C.prog C.w).den (.whileLoop test body orelse fx.env)) (.ret (whRet fx.env K Hd gd lv) none (gd false) (lv []) c p [] :: fs) m H Y N X) :
    GX C A fx c ((exec (.While test body orelse pos) fx.env).wrap K Hd gd lv) fs m H Y N X := gx_at hf (gx_call h)
theorem gx_whileLoop {test : PySem.Expr} {body : List Stmt} (hf : Fr A fx (.whileLoop test body [] fx.env) fs)
    (h : IT C (A.over (.whileLoop test body [] fx.env) fs) fx test m H (fun b m' H' => if b = true then
        GX C A fx (.whileLoop test body [] fx.env) ((execs body fx.env).wrap (whBody (.whileLoop test body [] fx.env)) (whErr fx.env) id id) fs m' H' Y N X
      else GX C A fx (.whileLoop test body [] fx.env) (.pure (.done .next)) fs m' H' Y N X) noX) : GX C A fx (.whileLoop test body [] fx.env) ((model C.prog C.w).den (.whileLoop test body [] fx.env)) fs m H Y N X := by
  show GX C A fx _ ((whileTurn test body [] fx.env).onRaise (fun x => do noteFrame x fx.env; theTreesLotGoes x)) fs m H Y N X
  unfold whileTurn
  rw [Sem.onRaise_eq_wrap, Sem.bind_eq_wrap', Sem.wrap_wrap]
  refine gx_step hf (aw_mono h (fun b m' H' hb => ?_) fun _ _ _ z => z)
  cases b with
  | true =>
    rw [if_pos rfl] at hb
    show GX C A fx _ (Sem.wrap _ _ _ _ (if true = true then _ else _)) fs m' H' Y N X
    rw [if_pos rfl, Sem.bind_eq_wrap', Sem.wrap_wrap]
    rw [Sem.wrap_congr (execs body fx.env) _ _ (K' := whBody (.whileLoop test body [] fx.env)) (H' := whErr fx.env) (fun f => by cases f <;> rfl)
      (fun e => by first | exact Sem.bind_eq_wrap _ _ | (show (do noteFrame e fx.env; theTreesLotGoes e : Sem Unit).bind (fun _ => .raise e) = _; rw [Sem.bind_eq_wrap]; rfl))]
    exact hb
  | false =>
    rw [if_neg Bool.false_ne_true] at hb
    exact hb
end
end Mine

namespace Mine
open PySem PySem.W PyProof.Rows
open Sem (wp)

section
variable {α : Type} {C : Cfg} {A : Around} {fx : Fx} {m m' : Lo} {H H' : AH} {X : Value → Lo → AH → Prop} {s s' : Shared}
variable {I t : Addr} {xs : List Value} {i : Nat} {v : Value}
noncomputable abbrev tuIt (t : Value) (i : Nat) : AO := .flds (.type "tuple_iterator") [t, vI i]

theorem St.tupAt (S : St C A fx m H s) (h : (t, AO.tup xs) ∈ H) : ∃ o vs n, s.heap.get? t = some o ∧ o.cls = .type "tuple" ∧ o.data = .seq vs n ∧ vs.toList.map er = xs := by
  refine hide fun z427 => ?_
  obtain ⟨o, ho, hc, _, vs, n, hd, hv⟩ := S.get h
  refine z427 ?_
  exact ⟨o, vs, n, ho, hc, hd, hv⟩

theorem aw_iter_tup (ht : (t, AO.tup xs) ∈ H) {Q : Value → Lo → AH → Prop} (h : ∀ I, I ∉ H.keys → Q (.ref I) m ((I, tuIt (.ref t) 0) :: H)) : AW C A fx (pyIter (.ref t)) m H Q X := by
  intro s S
  refine hide fun z428 => ?_
  obtain ⟨o, vs, n, ho, hc, hd, hv⟩ := S.tupAt ht
  refine z428 ?_
  refine wpAny_pyIter_tuple ⟨o, ho, hc, n, hd⟩ ?_
  obtain ⟨S', E'⟩ := S.push (o := { cls := .type "tuple_iterator", data := .fields #[.ref t, .int 0 0] }) (ao := tuIt (.ref t) 0) ⟨rfl, ⟨rfl, rfl⟩, _, rfl, rfl⟩
  exact ⟨m, _, S', E', h _ (none_new S (none_of_le (Nat.le_refl _)))⟩

theorem ti_item (hI : (I, tuIt (.ref t) i) ∈ H) (ht : (t, AO.tup xs) ∈ H) (hx : xs[i]? = some v) {Q : Option Value → Lo → AH → Prop} (h : ∀ r, er r = v → Q (some r) m (H.put I (tuIt (.ref t) (i + 1)))) :
    AW C A fx (callSpecial? (.ref I) "__next__") m H Q X := by
  intro s S
  refine hide fun z429 => ?_
  obtain ⟨o, r, q, ho, hc, h1, h2, hd, er1, er2⟩ := flds2 S hI
  refine z429 ?_
  obtain rfl := er_eq_ref er1
  refine hide fun z430 => ?_
  obtain ⟨tk, rfl⟩ := er_eq_int er2
  obtain ⟨ol, vs, nl, hol, hlc, hdl, hvs⟩ := S.tupAt ht
  obtain ⟨r, e1, e2⟩ := er_get hvs hx
  refine z430 ?_
  refine wpAny_callSpecial?_slot (name := Str.ofString "__next__") (show s.TypeIs (.ref I) "tuple_iterator" from ⟨o, ho, hc⟩) PySem.F.slot_tuple_iterator_next
    (wpAny_call_entry PySem.F.slot_tuple_iterator_next (show s.TypeIs (.ref I) "tuple_iterator" from ⟨o, ho, hc⟩) PySem.F.entry_tuple_iterator_next ?_ (PySem.F.args_tuple_iterator_next_1 _))
  show wpAny _ _ (field (.ref I) 0 >>= _) _ _ s
  refine wpAny_bind (wpAny_field ho hd (x := .ref t) rfl ?_)
  show wpAny _ _ (if (Value.ref t == Value.none) = true then _ else _) _ _ s
  rw [if_neg (show ¬ ((Value.ref t == Value.none) = true) from Bool.false_ne_true)]
  show wpAny _ _ (field (.ref I) 1 >>= _) _ _ s
  refine wpAny_bind (wpAny_field ho hd (x := .int i tk) rfl ?_)
  show wpAny _ _ (seqItems? (.ref t) >>= _) _ _ s
  refine wpAny_bind (wpAny_seqItems hol hdl ?_)
  simp only [Int.toNat_natCast, e1]
  obtain ⟨S', E'⟩ := write2 S hI ho hc h1 h2 hd (·.setIfInBounds 1 (rawInt ((i : Int) + 1))) (a' := .ref t) (b' := vI (i + 1 : Nat)) (by simp [rawInt])
  exact wpAny_bind (wpAny_setField ho hd (by simp) (wpAny_pure ⟨r, rfl, m, _, S', E', h r e2⟩))

noncomputable abbrev stopF (T : Value) : AO := .flds (.type "StopIteration") [T, .none, .none, .none, .bool false, .none]
theorem stop_newF {Q : α → Lo → AH → Prop} (hA : A.handled = none) (h : ∀ e T, e ∉ H.keys → X (.ref e) m ((e, stopF T) :: H)) : AW C A fx (do raiseNew (← newExc (.type "StopIteration") [])) m H Q X := by
  intro s S
  refine wpAny_bind ?_
  simp only [newExc, newTuple]
  refine wpAny_bind (wpAny_newObj_type ?_ (by size_fits))
  refine wpAny_bind (m := firstArgMember _ _) (wpAny_of_eq (a := Value.none) (by first | rfl | (simp only [firstArgMember]; rfl)) ?_)
  refine wpAny_newObj_type ?_ (by size_fits)
  obtain ⟨S₁, E₁⟩ := S.keeps (s' := { s with heap := s.heap.push { cls := .type "tuple", data := .seq #[] } }) (fun b o e => Heap.get?_push_of_some _ e)
  have hn : s.heap.get? (s.heap.push { cls := .type "tuple", data := .seq #[] }).objs.size = none := none_of_le (by rw [Heap.size_push]; exact Nat.le_succ _)
  obtain ⟨S₂, E₂⟩ := S₁.push (o := { cls := .type "StopIteration", data := .fields (#[.ref s.heap.objs.size, .none, .none, .none, .bool false, .none] ++ ownMembersOf (.type "StopIteration") []) }) (ao := stopF (.ref s.heap.objs.size)) ⟨rfl, ⟨rfl, rfl⟩, _, rfl, rfl⟩
  refine wpAny_raiseNew_none hA ⟨m, _, S₂, E₁.trans E₂, h _ _ (none_new S hn)⟩

theorem ti_end (hA : A.handled = none) (hI : (I, tuIt (.ref t) i) ∈ H) (ht : (t, AO.tup xs) ∈ H) (hx : xs[i]? = none) {Q : Option Value → Lo → AH → Prop}
    (h : ∀ e T, e ∉ H.keys → X (.ref e) m ((e, stopF T) :: H.put I (tuIt .none i))) : AW C A fx (callSpecial? (.ref I) "__next__") m H Q X := by
  intro s S
  refine hide fun z431 => ?_
  obtain ⟨o, r, q, ho, hc, h1, h2, hd, er1, er2⟩ := flds2 S hI
  refine z431 ?_
  obtain rfl := er_eq_ref er1
  refine hide fun z432 => ?_
  obtain ⟨tk, rfl⟩ := er_eq_int er2
  obtain ⟨ol, vs, nl, hol, hlc, hdl, hvs⟩ := S.tupAt ht
  refine z432 ?_
  have e1 : vs[i]? = none := by
    have hsz := size_of_er hvs
    have := List.getElem?_eq_none_iff.mp hx
    exact Array.getElem?_eq_none_iff.mpr (by rw [hsz]; exact this)
  refine wpAny_callSpecial?_slot (name := Str.ofString "__next__") (show s.TypeIs (.ref I) "tuple_iterator" from ⟨o, ho, hc⟩) PySem.F.slot_tuple_iterator_next
    (wpAny_call_entry PySem.F.slot_tuple_iterator_next (show s.TypeIs (.ref I) "tuple_iterator" from ⟨o, ho, hc⟩) PySem.F.entry_tuple_iterator_next ?_ (PySem.F.args_tuple_iterator_next_1 _))
  show wpAny _ _ (field (.ref I) 0 >>= _) _ _ s
  refine wpAny_bind (wpAny_field ho hd (x := .ref t) rfl ?_)
  show wpAny _ _ (if (Value.ref t == Value.none) = true then _ else _) _ _ s
  rw [if_neg (show ¬ ((Value.ref t == Value.none) = true) from Bool.false_ne_true)]
  show wpAny _ _ (field (.ref I) 1 >>= _) _ _ s
  refine wpAny_bind (wpAny_field ho hd (x := .int i tk) rfl ?_)
  show wpAny _ _ (seqItems? (.ref t) >>= _) _ _ s
  refine wpAny_bind (wpAny_seqItems hol hdl ?_)
  simp only [Int.toNat_natCast, e1]
  obtain ⟨S', E'⟩ := write2 S hI ho hc h1 h2 hd (·.setIfInBounds 0 .none) (a' := .none) (b' := vI i) (by simp)
  refine wpAny_bind (wpAny_rule (wpAny_bind (wpAny_setField ho hd (by simp) ?_)))
  refine wpAny_mono (stop_newF (α := PySem.Fin) (A := A.in1) (Q := fun _ _ _ => False) (X := X) hA (fun e T he => h e T (by rwa [AH.keys_put] at he)) _ (S'.inA rfl)) (fun _ s₂ h₂ => ?_) fun v s₂ h₂ => ?_
  · obtain ⟨_, _, _, _, z⟩ := h₂; exact z.elim
  · obtain ⟨m₂, H₂, S₂, E₂, q⟩ := h₂; exact ⟨m₂, H₂, S₂.inA rfl, E'.trans (E₂.inA rfl), q⟩

noncomputable abbrev yfCode (it : Value) : Code := .builtin "proto.yield_from" ⟨[it, .bool false, .none], []⟩
theorem entry_yf : entryFor table "proto.yield_from" = some Builtin.«proto.yield_from» := entryFor_of_fast (by kernel_rfl)
theorem noclose : typeLookup (.type "tuple_iterator") "close" = pure none := by rw [typeLookup_type, builtinLookup_eq_fast]; kernel_rfl
theorem yf_quiet (it : Value) : (yfCode it).quiet = true := Code.quiet_builtin _ (by decide +kernel)
theorem den_builtin {prog : Program} {w : World} {id : String} {args : Args} {b : Builtin} (hb : entryFor table id = some b) : (model prog w).den (.builtin id args) = b args := by
  show (match entryFor table id with | some b => b args | none => unsupported ((withoutEnding? id "#data").getD id)) = _
  rw [hb]
theorem den_yf {C : Cfg} {it : Value} : (model C.prog C.w).den (yfCode it) = Builtin.«proto.yield_from» ⟨[it, .bool false, .none], []⟩ := den_builtin entry_yf

variable {A' : Around} {c : Code} {fs : List Frame} {Y : Value → GenState → Lo → AH → Prop} {N : Lo → AH → Prop}
theorem gx_bind {β : Type} {t : Sem β} {k : β → Sem Fin} (hf : Fr A fx c fs) (h : AW C (A.over c fs) fx t m H (fun a m' H' => GX C A fx c (k a) fs m' H' Y N X) noX) : GX C A fx c (t >>= k) fs m H Y N X := by
  rw [Sem.bind_eq_wrap']; exact gx_step hf h
noncomputable def YK (I : Addr) (kY : Resume → Sem Fin) : Prop := ∀ (C : Cfg) (A : Around) (fx : Fx) (c : Code) (fs : List Frame) (m : Lo) (H : AH) (Y : Value → GenState → Lo → AH → Prop) (N : Lo → AH → Prop) (X : Value → Lo → AH → Prop) (a b : Value),
  Fr A fx c fs → (I, AO.flds (.type "tuple_iterator") [a, b]) ∈ H → GX C A fx (yfCode (.ref I)) ((model C.prog C.w).den (yfCode (.ref I))) fs m H Y N X → GX C A fx c (kY (.send .none)) fs m H Y N X
theorem aw_slept {a b : Value} {more : Bool} {Q : Unit → Lo → AH → Prop} (hI : (I, AO.flds (.type "tuple_iterator") [a, b]) ∈ H) (h : Q () m H) : AW C A fx (Builtin.Generator.sleptOver (.ref I) more) m H Q X := by
  intro s S
  refine hide fun z433 => ?_
  obtain ⟨o, r, q, ho, hc, h1, h2, hd, _, _⟩ := flds2 S hI
  refine z433 ?_
  unfold Builtin.Generator.sleptOver
  refine wpAny_bind (wpAny_load ho ?_)
  rw [hc]
  exact wpAny_pure ⟨m, H, S, Ext.refl' S, h⟩
theorem aw_typeOf {cls : Value} {vs : List Value} {Q : Value → Lo → AH → Prop} (hI : (I, AO.flds cls vs) ∈ H) (h : Q cls m H) : AW C A fx (typeOf (.ref I)) m H Q X := by
  intro s S
  refine hide fun z434 => ?_
  obtain ⟨o, ho, hc, _⟩ := S.get hI
  refine z434 ?_
  subst hc
  exact wpAny_typeOf_ref ho ⟨m, H, S, Ext.refl' S, h⟩
theorem aw_field {cls x : Value} {vs : List Value} {i : Nat} {Q : Value → Lo → AH → Prop} (hI : (I, AO.flds cls vs) ∈ H) (hx : vs[i]? = some x) (h : ∀ r, er r = x → Q r m H) : AW C A fx (field (.ref I) i) m H Q X := by
  intro s S
  refine hide fun z435 => ?_
  obtain ⟨o, ho, _, _, ws, hd, hw⟩ := S.get hI
  obtain ⟨r, e1, e2⟩ := er_get hw hx
  refine z435 ?_
  exact wpAny_field ho hd e1 ⟨m, H, S, Ext.refl' S, h r e2⟩
theorem gx_yf_item (hf : Fr A fx (yfCode (.ref I)) fs) (hfs : splitAtGen fs = none) (hgf : fs.any Frame.guarded = false) (hI : (I, tuIt (.ref t) i) ∈ H) (ht : (t, AO.tup xs) ∈ H) (hx : xs[i]? = some v)
    (h : ∀ kY l p, YK I kY → Y v (.suspended kY l (yfCode (.ref I)) p fs false) m (H.put I (tuIt (.ref t) (i + 1)))) : GX C A fx (yfCode (.ref I)) ((model C.prog C.w).den (yfCode (.ref I))) fs m H Y N X := by
  rw [den_yf]
  unfold Builtin.«proto.yield_from»
  refine gx_bind hf (aw_pure ?_)
  refine gx_bind hf (aw_attempt (aw_holding ?_))
  dsimp only
  rw [if_neg (by decide), if_pos (by decide)]
  refine aw_bind (aw_rule (aw_bind (ti_item hI ht hx fun r hr => ?_)))
  refine aw_pure ?_
  subst hr
  have hI' : (I, tuIt (.ref t) (i + 1)) ∈ H.put I (tuIt (.ref t) (i + 1)) := put_mem hI
  refine gx_bind hf (aw_typeOf hI' ?_)
  refine gx_bind hf (aw_of_eq noclose (aw_pure ?_))
  refine gx_bind hf (aw_pure ?_)
  refine gx_bind hf (aw_slept hI' ?_)
  refine gx_yield hfs hgf fun p => h _ _ p ?_
  intro C A fx c fs m H Y N X a b hf hI h
  refine gx_bind hf (aw_pure ?_)
  refine gx_bind hf (aw_slept hI ?_)
  refine gx_bind hf (aw_pure ?_)
  exact gx_again (yf_quiet _) h
theorem typeOf_stop : typeOf (.type "StopIteration") = pure (.type "type") := by unfold typeOf; kernel_rfl
theorem gx_yf_end (hf : Fr A fx (yfCode (.ref I)) fs) (hh : (A.over (yfCode (.ref I)) fs).handled = none) (hI : (I, tuIt (.ref t) i) ∈ H) (ht : (t, AO.tup xs) ∈ H) (hx : xs[i]? = none)
    (h : ∀ H', Wk H' (H.put I (tuIt .none i)) → GX C A fx (yfCode (.ref I)) (.pure (.done (.ret .none))) fs m H' Y N X) : GX C A fx (yfCode (.ref I)) ((model C.prog C.w).den (yfCode (.ref I))) fs m H Y N X := by
  rw [den_yf]
  unfold Builtin.«proto.yield_from»
  refine gx_bind hf (aw_pure ?_)
  refine gx_bind hf (aw_attempt (aw_holding ?_))
  dsimp only
  rw [if_neg (by decide), if_pos (by decide)]
  refine aw_bind (aw_rule (aw_bind (ti_end hh hI ht hx fun e T he => ?_)))
  refine gx_bind hf ?_
  unfold Builtin.Generator.endsTheTurnAsAValue Builtin.Generator.isStopAndMetaclass
  refine aw_bind (aw_bind (aw_typeOf List.mem_cons_self (aw_bind (aw_of_eq isSub_stop (aw_pure (aw_bind (aw_of_eq typeOf_stop (aw_pure (aw_pure ?_)))))))))
  refine aw_pure ?_
  rw [if_pos rfl, if_neg (by decide)]
  refine gx_bind hf (aw_rule ?_)
  refine gx_bind hf (aw_field List.mem_cons_self (i := 5) (x := .none) rfl fun r hr => ?_)
  rw [er_eq_none hr]
  exact h _ (Wk.cons Wk.refl)
end
end Mine

namespace Mine
open PySem PySem.W PyProof.Rows
open Sem (wp)

section
variable {C : Cfg} {A : Around} {fx : Fx} {c : Code} {fs : List Frame} {m m' : Lo} {H H' : AH} {Y : Value → GenState → Lo → AH → Prop} {N : Lo → AH → Prop} {X : Value → Lo → AH → Prop}
variable {K : Flow → Sem Fin} {Hd : Value → Sem Fin} {gd : Bool → Bool} {lv : List Value → List Value}

theorem gx_bindW {α β : Type} {t : Sem α} {f : α → Sem β} {Kb : β → Sem Fin} (hf : Fr A fx c fs) (h : AW C (A.over c fs) fx t m H (fun a m' H' => GX C A fx c ((f a).wrap Kb Hd gd lv) fs m' H' Y N X) noX) : GX C A fx c ((t >>= f).wrap Kb Hd gd lv) fs m H Y N X := by
  rw [Sem.bind_eq_wrap', Sem.wrap_wrap]
  exact gx_step hf h

noncomputable def yfRet (K' : Value → Sem Fin) (Hd : Value → Sem Fin) (gd : Bool → Bool) (lv : List Value → List Value) : Result → Sem Fin := fun r =>
  ((match r with | .ok f => (.pure f : Sem Flow) | .error e => .raise e) >>= fun f => match f with | .ret v => (pure v : Sem Value) | _ => unsupported "internal:call-without-return-value").wrap K' Hd gd lv
noncomputable def yfDrop (ye : PySem.Expr) (yp ep : Pos) (K : Flow → Sem Fin) (Hd : Value → Sem Fin) (gd : Bool → Bool) (lv : List Value → List Value) : Value → Sem Fin := fun v => (dropValue (.YieldFrom ye yp) ep v).wrap K Hd gd lv

theorem eval_YieldFrom (ye : PySem.Expr) (yp : Pos) (env : Env) : eval (.YieldFrom ye yp) env = (do let v ← eval ye env; standAt yp; yieldFrom env v) := by
  first | rfl | (unfold eval; rfl) | simp only [eval]
theorem gx_yieldFrom {ye : PySem.Expr} {yp ep : Pos} (hi : interactive fx.env = false) (hf : Fr A fx c fs)
    (he : EV C (A.over c fs) fx ye m H (fun v m' H' => ∃ t xs, v = .ref t ∧ (t, AO.tup xs) ∈ H' ∧ ∀ I, I ∉ H'.keys → ∀ p, GX C A fx (yfCode (.ref I)) ((model C.prog C.w).den (yfCode (.ref I)))
      (.ret (yfRet (yfDrop ye yp ep K Hd gd lv) Hd gd lv) none (gd false) (lv []) c p [] :: fs) m' ((I, tuIt (.ref t) 0) :: H') Y N X) noX) :
    GX C A fx c ((exec (.Expr (.YieldFrom ye yp) ep) fx.env).wrap K Hd gd lv) fs m H Y N X := by
  rw [exec_Expr fx.env _ ep hi rfl, eval_YieldFrom]
  refine gx_bindW hf (aw_standAt ?_)
  show GX C A fx c (Sem.wrap K Hd gd lv ((eval ye fx.env >>= fun v => standAt yp >>= fun _ => yieldFrom fx.env v) >>= fun v => dropValue (.YieldFrom ye yp) ep v)) fs m H Y N X
  rw [Sem.bind_eq_wrap', Sem.wrap_wrap]
  show GX C A fx c (Sem.wrap (yfDrop ye yp ep K Hd gd lv) Hd gd lv (eval ye fx.env >>= fun v => standAt yp >>= fun _ => yieldFrom fx.env v)) fs m H Y N X
  refine gx_bindW hf (aw_mono he (fun v m' H' q => ?_) fun _ _ _ z => z)
  refine hide fun z436 => ?_
  obtain ⟨t, xs, hv, ht, q⟩ := q
  refine z436 ?_
  obtain rfl := er_eq_ref hv
  refine gx_bindW hf (aw_standAt ?_)
  unfold yieldFrom
  refine gx_bindW hf (fun s S => ?_)
  refine hide fun z437 => ?_
  obtain ⟨o, vs, n, ho, hc, hd, hvs⟩ := S.tupAt ht
  refine z437 ?_
  refine wpAny_typeOf_ref ho ⟨m', H', S, Ext.refl' S, ?_⟩
  rw [hc]
  dsimp only
  rw [if_neg (by decide)]
  refine gx_bindW hf (aw_holding (aw_iter_tup ht fun I hI => ?_))
  exact gx_call fun p => q I hI p
theorem gx_yfRet {ye : PySem.Expr} {yp ep : Pos} {c' : Code} {g l p kp hd} (h : GX C A fx c (K .next) fs m H Y N X) : GX C A fx c' (.pure (.done (.ret .none))) (.ret (yfRet (yfDrop ye yp ep K Hd gd lv) Hd gd lv) hd g l c p kp :: fs) m H Y N X :=
  gx_ret h
end
end Mine

namespace Mine
open PySem PySem.W PyProof.Rows
open Sem (wp)

structure GEnv (env : Env) (L : Addr) : Prop where
  loc : env.locals = L
  kind : env.scope.kind = .function
  glob : env.globals = mainGlobals
  blt : env.builtins = builtinsNs
  cells : env.cells = []
  frame : env.frame = some L
  nocell : ∀ x, env.kindOf x ≠ some .cell

theorem gens_set {gens : Array GenState} {i : Nat} {y : GenState} (h : AllBare gens) (hy : y.bare = true) : AllBare (gens.setIfInBounds i y) := fun z hz => by
  refine hide fun z438 => ?_
  obtain ⟨j, hj, rfl⟩ := Array.mem_iff_getElem.mp hz
  refine z438 ?_
  have hj' : j < gens.size := by rwa [Array.size_setIfInBounds] at hj
  rw [Array.getElem_setIfInBounds hj']
  split
  · exact hy
  · exact h _ (Array.getElem_mem hj')
theorem gens_ok {gens : Array GenState} {H : AH} {g : Addr} {i : Nat} {y y' : GenState} {R : AH} (h : GensOK gens H) (hg : (g, AO.gen i y) ∈ H) (hR : ∀ p ∈ R, p ∈ H ∨ p.2.isGen = false) (hn : g ∉ R.keys) : GensOK (gens.setIfInBounds i y') ((g, .gen i y') :: R) := by
  have hi : i < gens.size := (Array.getElem?_eq_some_iff.mp (h.1 g i y hg)).1
  have inR : ∀ a j z, (a, AO.gen j z) ∈ R → (a, AO.gen j z) ∈ H ∧ j ≠ i := fun a j z hm => by
    have h1 : (a, AO.gen j z) ∈ H := (hR _ hm).elim id fun e => by cases e
    refine ⟨h1, fun e => ?_⟩
    subst e
    exact hn (h.2 _ _ _ _ _ hg h1 ▸ mem_keys hm)
  refine ⟨fun a j z hm => ?_, fun a a' j z z' h1 h2 => ?_⟩
  · rcases List.mem_cons.mp hm with e | hm
    · cases e
      rw [Array.getElem?_setIfInBounds_self, if_pos hi]
    · obtain ⟨h1, h2⟩ := inR a j z hm
      rw [Array.getElem?_setIfInBounds_ne (Ne.symm h2)]
      exact h.1 a j z h1
  · rcases List.mem_cons.mp h1 with e | h1 <;> rcases List.mem_cons.mp h2 with e' | h2
    · cases e; cases e'; rfl
    · cases e; exact absurd rfl (inR _ _ _ h2).2
    · cases e'; exact absurd rfl (inR _ _ _ h1).2
    · exact h.2 _ _ _ _ _ (inR _ _ _ h1).1 (inR _ _ _ h2).1

section
variable {α : Type} {C : Cfg} {A : Around} {fx : Fx} {m m' mg : Lo} {H H' R R' : AH} {X : Value → Lo → AH → Prop} {Q : Value → Lo → AH → Prop} {s s' s₁ : Shared} {env : Env} {g L : Addr} {i : Nat} {y y' : GenState} {ls : Lo}

theorem St.wake (S : St C A fx m ((g, .gen i y) :: (L, .loc ls) :: R) s) (G : GEnv env L) (hmg : ∀ x v, (x, v) ∈ mg → (x, v) ∈ ls ∧ env.kindOf x = some .local) :
    St C (A.deeper env) ⟨env, [L]⟩ mg ((g, .gen i .running) :: R) (s.setGen i .running) := by
  have hnd := S.nodup
  simp only [keys_cons, List.nodup_cons, List.mem_cons, not_or] at hnd
  refine hide fun z439 => ?_
  obtain ⟨⟨n1, n2⟩, n3, n4⟩ := hnd
  obtain ⟨o, ho, es, ep, hd, hs, hl⟩ := S.get (List.mem_cons_of_mem _ List.mem_cons_self)
  refine z439 ?_
  have hNs : s.heap.Ns L (nsFind es) := ⟨o, es, ep, ho, hd, hs, fun _ => rfl⟩
  have hLb : C.h₀.get? L = none := S.above L (.inl (by simp [keys_cons]))
  refine ⟨S.base, fun p hp => ?_, S.low, fun b hb => ?_, ?_, fun b hb => ?_, G.kind, ⟨G.glob, G.blt⟩, by rw [show (Fx.mk env [L]).env.locals = L from G.loc]; exact List.mem_cons_self, fun b hb => ?_, ⟨nsFind es, by rw [show (Fx.mk env [L]).env.locals = L from G.loc]; exact hNs⟩, fun x hx => absurd hx (G.nocell x),
    fun x c e => ?_, fun x z c e => ?_, fun x v hv => ?_, ?_, fun b hb => ?_, gens_set S.gens rfl, S.os, ?_⟩
  · rcases List.mem_cons.mp hp with rfl | hp
    · refine hide fun z440 => ?_
      obtain ⟨o', h1, h2⟩ := S.get List.mem_cons_self
      refine z440 ?_
      exact ⟨o', h1, h2⟩
    · exact S.cells p (List.mem_cons_of_mem _ (List.mem_cons_of_mem _ hp))
  · rcases hb with hb | hb
    · refine S.above b (.inl ?_)
      simp only [keys_cons, List.mem_cons] at hb ⊢
      exact hb.elim .inl fun h => .inr (.inr h)
    · rw [List.mem_singleton.mp hb]; exact hLb
  · simp only [keys_cons, List.nodup_cons]; exact ⟨n2, n4⟩
  · rw [List.mem_singleton.mp hb]
    simp only [keys_cons, List.mem_cons, not_or]; exact ⟨Ne.symm n1, n3⟩
  · rw [List.mem_singleton.mp hb]; exact ⟨o, ho⟩
  · rw [show (Fx.mk env [L]).env.cells = [] from G.cells] at e; cases e
  · rw [show (Fx.mk env [L]).env.cells = [] from G.cells] at e; cases e
  · obtain ⟨h1, h2⟩ := hmg x v hv
    have h3 := hl x v h1
    refine hide fun z441 => ?_
    obtain ⟨r, e1, e2⟩ := Option.map_eq_some_iff.mp h3
    refine z441 ?_
    exact .inl ⟨h2, nsFind es, r, by rw [show (Fx.mk env [L]).env.locals = L from G.loc]; exact hNs, e1, e2⟩
  · refine hide fun z442 => ?_
    obtain ⟨l, hl', hF⟩ := S.frs
    refine z442 ?_
    exact ⟨env :: l, Around.frames_deeper hl', Heap.FunFrames.cons (by rw [G.kind]; decide) G.frame hNs hLb hF⟩
  · refine hide fun z443 => ?_
    obtain ⟨l, hl', hF⟩ := S.frs
    refine z443 ?_
    have hb' := hb
    unfold frameAddrs at hb'
    rw [Around.frames_deeper hl', Option.getD_some, List.filterMap_cons, G.frame] at hb'
    simp only [keys_cons, List.mem_cons, not_or]
    rcases List.mem_cons.mp hb' with rfl | hb'
    · exact ⟨Ne.symm n1, n3⟩
    · have := S.frA b (by unfold frameAddrs; rw [hl']; exact hb')
      simp only [keys_cons, List.mem_cons, not_or] at this
      exact ⟨this.1, this.2.2⟩
  · exact gens_ok S.gst List.mem_cons_self (fun p hp => .inl (List.mem_cons_of_mem _ (List.mem_cons_of_mem _ hp))) n2

theorem St.sleep (S : St C A fx m ((g, .gen i y) :: (L, .loc ls) :: R) s) (G : GEnv env L) (S₁ : St C (A.deeper env) ⟨env, [L]⟩ m' ((g, .gen i .running) :: R') s₁)
    (E₁ : Ext (A.deeper env) ⟨env, [L]⟩ ((g, .gen i .running) :: R) (s.setGen i .running) ((g, .gen i .running) :: R') s₁) (hy : y'.bare = true) :
    St C A fx m ((g, .gen i y') :: (L, .loc m') :: R') (s₁.setGen i y') ∧ Ext A fx ((g, .gen i y) :: (L, .loc ls) :: R) s ((g, .gen i y') :: (L, .loc m') :: R') (s₁.setGen i y') := by
  have hnd := S.nodup
  simp only [keys_cons, List.nodup_cons, List.mem_cons, not_or] at hnd
  refine hide fun z444 => ?_
  obtain ⟨⟨n1, n2⟩, n3, n4⟩ := hnd
  refine z444 ?_
  have hnd' := S₁.nodup
  simp only [keys_cons, List.nodup_cons] at hnd'
  obtain ⟨k1, k2⟩ := hnd'
  have hLR : L ∉ AH.keys ((g, AO.gen i .running) :: R') := S₁.apart L List.mem_cons_self
  simp only [keys_cons, List.mem_cons, not_or] at hLR
  have hA : ∀ b, b ∈ frameAddrs (A.deeper env) → b = L ∨ b ∈ frameAddrs A := fun b hb => by
    refine hide fun z445 => ?_
    obtain ⟨l, hl', _⟩ := S.frs
    refine z445 ?_
    unfold frameAddrs at hb ⊢
    rw [Around.frames_deeper hl', Option.getD_some, List.filterMap_cons, G.frame] at hb
    rw [hl']
    exact List.mem_cons.mp hb
  refine S.upd (fun b o e hn => ?_) (fun p hp => ?_) (fun b hb => ?_) ?_ (gens_set S₁.gens hy) (S₁.os.trans S.os.symm) ?_
  · simp only [keys_cons, List.mem_cons, not_or] at hn
    obtain ⟨sl, e', hs⟩ := E₁.hid b o e (by simp only [keys_cons, List.mem_cons, not_or]; exact ⟨hn.1, hn.2.2⟩) (by rw [List.mem_singleton]; exact hn.2.1)
    exact ⟨sl, e', fun hb => hs fun hm => (hA b hm).elim hn.2.1 hb⟩
  · rcases List.mem_cons.mp hp with rfl | hp
    · refine hide fun z446 => ?_
      obtain ⟨o', h1, h2⟩ := S₁.get List.mem_cons_self
      refine z446 ?_
      exact ⟨o', h1, h2⟩
    · rcases List.mem_cons.mp hp with rfl | hp
      · obtain ⟨mr, hm⟩ := S₁.loc
        rw [show (Fx.mk env [L]).env.locals = L from G.loc] at hm
        refine hide fun z447 => ?_
        obtain ⟨o, es, ep, ho, hd, hs, hf⟩ := id hm
        refine z447 ?_
        refine ⟨o, ho, es, ep, hd, hs, fun x v hv => ?_⟩
        rcases S₁.vars x v hv with ⟨_, mr', r, hn, e1, e2⟩ | ⟨_, c, _, e, _⟩
        · rw [show (Fx.mk env [L]).env.locals = L from G.loc] at hn
          refine hide fun z448 => ?_
          obtain ⟨o', es', ep', ho', hd', hs', hf'⟩ := hn
          refine z448 ?_
          rw [ho] at ho'; cases ho'
          rw [hd] at hd'; cases hd'
          rw [hf', e1, Option.map_some, e2]
        · rw [show (Fx.mk env [L]).env.cells = [] from G.cells] at e; cases e
      · exact S₁.cells p (List.mem_cons_of_mem _ hp)
  · simp only [keys_cons, List.mem_cons] at hb ⊢
    rcases hb with rfl | rfl | hb
    · exact .inl (.inl rfl)
    · exact .inl (.inr (.inl rfl))
    · rcases E₁.fresh b (by simp only [keys_cons, List.mem_cons]; exact .inr hb) with h | h
      · simp only [keys_cons, List.mem_cons] at h
        exact .inl (h.elim .inl fun h => .inr (.inr h))
      · exact .inr h
  · simp only [keys_cons, List.nodup_cons, List.mem_cons, not_or]
    exact ⟨⟨n1, k1⟩, hLR.2, k2⟩
  · exact (gens_ok S₁.gst List.mem_cons_self (R := (L, .loc m') :: R') (fun p hp => by
      rcases List.mem_cons.mp hp with rfl | hp
      · exact .inr rfl
      · exact .inl (List.mem_cons_of_mem _ hp)) (by simp only [keys_cons, List.mem_cons, not_or]; exact ⟨n1, k1⟩))
end
end Mine

namespace Mine
open PySem PySem.W PyProof.Rows
open Sem (wp)

noncomputable def GoX (C : Cfg) (A : Around) (fx : Fx) (y : GenState) (m : Lo) (H : AH) (Y : Value → GenState → Lo → AH → Prop) (N : Lo → AH → Prop) (X : Value → Lo → AH → Prop) : Prop := match y with
  | .fresh c => GX C A fx c ((model C.prog C.w).den c) [] m H Y N X
  | .suspended k _ c _ fs _ => GX C A fx c (k (.send .none)) fs m H Y N X
  | _ => False
noncomputable def NotStop (C : Cfg) (R : AH) (v : Value) : Prop := ∀ (A : Around) (fx : Fx) (m : Lo) (H : AH) (Q : Bool → Lo → AH → Prop) (X : Value → Lo → AH → Prop), (∀ p ∈ R, p ∈ H) → Q false m H → AW C A fx (isInstance v (.type "StopIteration")) m H Q X

section
variable {C : Cfg} {A : Around} {fx : Fx} {m m' mg : Lo} {H H' R R' : AH} {s s' s₁ : Shared} {env : Env} {g L : Addr} {i : Nat} {y y' : GenState} {ls : Lo}
noncomputable def gY (g : Addr) (i : Nat) (L : Addr) (Q : Value → AH → Prop) : Value → GenState → Lo → AH → Prop := fun v y' m' H' => ∃ R', Wk H' ((g, .gen i .running) :: R') ∧ Q v ((g, .gen i y') :: (L, .loc m') :: R')
noncomputable def gN (g : Addr) (i : Nat) (Q : AH → Prop) : Lo → AH → Prop := fun _ H' => ∃ R', Wk H' ((g, .gen i .running) :: R') ∧ Q R'
noncomputable def gX (C : Cfg) (g : Addr) (i : Nat) (X : Value → AH → Prop) : Value → Lo → AH → Prop := fun v _ H' => ∃ R', Wk H' ((g, .gen i .running) :: R') ∧ NotStop C R' v ∧ X v R'

theorem aw_genLeft {α : Type} {v : Value} {X : Value → Lo → AH → Prop} {Q : α → Lo → AH → Prop} (hg : (g, AO.gen i y) ∈ H) (hns : NotStop C R v) (hR : ∀ p ∈ R, p ∈ H) (h : X v m H) : AW C A fx (Builtin.Generator.genLeft (.ref g) v) m H Q X := by
  unfold Builtin.Generator.genLeft
  refine aw_bind (aw_look false (fun s S Q' E' hq => ?_) ?_)
  · refine hide fun z449 => ?_
    obtain ⟨o, ho, hc, hsl, nm, qn, hd⟩ := S.get hg
    refine z449 ?_
    unfold Builtin.Generator.madeByALambda
    refine wpAny_bind (wpAny_load ho ?_)
    rw [hc, hd]
    exact wpAny_pure hq
  refine aw_bind (hns A fx m H _ _ hR ?_)
  rw [if_neg (by decide)]
  unfold Builtin.Generator.genEscaped
  refine aw_bind (hns A fx m H _ _ hR ?_)
  rw [if_pos (by decide)]
  exact aw_throw h

theorem stop_newK {α β : Type} {k : α → Sem β} {X : Value → Lo → AH → Prop} {Q : β → Lo → AH → Prop} (hA : A.handled = none) (h : ∀ e, e ∉ H.keys → X (.ref e) m ((e, .exc (.type "StopIteration") .none) :: H)) : AW C A fx (newExc (.type "StopIteration") [] >>= fun e => (raiseNew e : Sem α) >>= k) m H Q X := by
  intro s S
  refine wpAny_bind ?_
  simp only [newExc, newTuple]
  refine wpAny_bind (wpAny_newObj_type ?_ (by size_fits))
  refine wpAny_bind (m := firstArgMember _ _) (wpAny_of_eq (a := Value.none) (by first | rfl | (simp only [firstArgMember]; rfl)) ?_)
  refine wpAny_newObj_type ?_ (by size_fits)
  obtain ⟨S₁, E₁⟩ := S.keeps (s' := { s with heap := s.heap.push { cls := .type "tuple", data := .seq #[] } }) (fun b o e => Heap.get?_push_of_some _ e)
  have hn : s.heap.get? (s.heap.push { cls := .type "tuple", data := .seq #[] }).objs.size = none := none_of_le (by rw [Heap.size_push]; exact Nat.le_succ _)
  obtain ⟨S₂, E₂⟩ := S₁.push (o := { cls := .type "StopIteration", data := .fields (#[.ref s.heap.objs.size, .none, .none, .none, .bool false, .none] ++ ownMembersOf (.type "StopIteration") []) }) (ao := .exc (.type "StopIteration") .none) ⟨rfl, #[.ref s.heap.objs.size, .none, .none, .none, .bool false, .none] ++ ownMembersOf (.type "StopIteration") [], .ref s.heap.objs.size, rfl, rfl, rfl⟩
  exact wpAny_bind (wpAny_raiseNew_none hA ⟨m, _, S₂, E₁.trans E₂, h _ (none_new S hn)⟩)

theorem aw_gen_wake {Q : Value → AH → Prop} {N : AH → Prop} {XX : Value → AH → Prop} (G : GEnv env L) (hh : A.handled = none) (hl : C.h₀.NoLimit) (hd : A.depth < recursionLimit) (hmg : ∀ x v, (x, v) ∈ mg → (x, v) ∈ ls ∧ env.kindOf x = some .local)
    (hgo : GoX C A ⟨env, [L]⟩ y mg ((g, .gen i .running) :: R) (gY g i L Q) (gN g i N) (gX C g i XX)) :
    AW C A fx (Builtin.Generator.genWake (.ref g) (.send .none)) m ((g, .gen i y) :: (L, .loc ls) :: R) (fun fin m' H' => m' = m ∧ ∃ r, fin = .done (.ret r) ∧ Q (er r) H')
      (fun v m' H' => m' = m ∧ ((∃ e R', N R' ∧ v = .ref e ∧ H' = (e, .exc (.type "StopIteration") .none) :: R') ∨ ∃ R', NotStop C R' v ∧ XX v R' ∧ H' = R')) := by
  intro s S
  have hgs := S.gst.1 g i y List.mem_cons_self
  refine hide fun z450 => ?_
  obtain ⟨o, ho, hc, hsl, nm, qn, hdt⟩ := S.get List.mem_cons_self
  refine z450 ?_
  have SW := S.wake G hmg
  unfold Builtin.Generator.genWake
  refine wpAny_bind (wpAny_holding (wpAny_genNumber ⟨o, nm, qn, ho, hc, hdt, hsl⟩ (wpAny_bind (wpAny_genState hgs ?_))))
  have main : wpAny (model C.prog C.w) A (.resume i (.send .none) [] fun x => (Sem.pure x >>= fun r => match r with
      | .yielded v => ret v
      | .returned v => do
        if v == .none then raiseNew (← newExc (.type "StopIteration") [])
        rule "generator.return-value"; throw (← newExc (.type "StopIteration") [v])
      | .raised e => do
        if let .throw _ := (Resume.send .none) then
          if y.status == GenStatus.fresh then rule "generator.throw.into-fresh"; throw e
        Builtin.Generator.genLeft (.ref g) e
      | .running => do rule "generator.already-executing"; raiseError "ValueError" "generator already executing"
      | .justStarted => do rule "generator.send-to-fresh"; raiseError "TypeError" "can't send non-None value to a just-started generator"
      | .finished =>
        match (Resume.send .none) with
        | .send _ => do raiseNew (← newExc (.type "StopIteration") [])
        | .throw e => throw e : Sem PySem.Fin)) (Po C A fx ((g, .gen i y) :: (L, .loc ls) :: R) s fun v m' H' => m' = m ∧ ∃ r, v = .done (.ret r) ∧ Q (er r) H')
      (Po C A fx ((g, .gen i y) :: (L, .loc ls) :: R) s fun e m' H' => m' = m ∧ ((∃ e' R', N R' ∧ e = .ref e' ∧ H' = (e', .exc (.type "StopIteration") .none) :: R') ∨ ∃ R', NotStop C R' e ∧ XX e R' ∧ H' = R')) s := by
    refine wpAny_resume_go (T := TG C A ⟨env, [L]⟩ ((g, .gen i .running) :: R) (s.setGen i .running) (gY g i L Q) (gN g i N) (gX C g i XX)) hgs ?_ fun e s₁ he => ?_
    · cases y with
      | fresh c => exact ⟨rfl, hgo _ SW⟩
      | suspended k l c p fs cl => exact hgo _ SW
      | running => exact hgo.elim
      | finished => exact hgo.elim
    · refine hide fun z451 => ?_
      obtain ⟨m₁, H₁, S₁, E₁, q⟩ := he
      refine z451 ?_
      cases e with
      | susp v gd l k c p fs =>
        refine hide fun z452 => ?_
        obtain ⟨rfl, hgf, R', hW, hq⟩ := q
        obtain ⟨S₂, E₂⟩ := S₁.wk hW
        refine z452 ?_
        have hgs' : (End.susp v false l k c p fs).genState = .suspended k l c p fs false := by simp [End.genState, hgf]
        refine ⟨by simp [End.quiet, hgf], ?_⟩
        rw [hgs']
        obtain ⟨S₃, E₃⟩ := S.sleep (y' := .suspended k l c p fs false) G S₂ (E₁.trans E₂) rfl
        exact wpAny_pure ⟨m, _, S₃, E₃, rfl, v, rfl, hq⟩
      | ret r =>
        refine ⟨rfl, ?_⟩
        rcases r with x | f
        · refine hide fun z453 => ?_
          obtain ⟨R', hW, hns, hq⟩ := q
          obtain ⟨S₂, E₂⟩ := S₁.wk hW
          obtain ⟨S₃, E₃⟩ := S.sleep (y' := .finished) G S₂ (E₁.trans E₂) rfl
          refine z453 ?_
          refine wpAny_mono (aw_genLeft (α := PySem.Fin) (X := fun v m' H => m' = m ∧ v = x ∧ H = (g, .gen i .finished) :: (L, .loc m₁) :: R') (Q := fun _ _ _ => False) List.mem_cons_self hns (fun p hp => List.mem_cons_of_mem _ (List.mem_cons_of_mem _ hp)) ⟨rfl, rfl, rfl⟩ _ S₃) (fun _ s₄ h₄ => ?_) fun w s₄ h₄ => ?_
          · obtain ⟨_, _, _, _, z⟩ := h₄; exact z.elim
          · refine hide fun z454 => ?_
            obtain ⟨m₄, H₄, S₄, E₄, rfl, rfl, rfl⟩ := h₄
            obtain ⟨S₅, E₅⟩ := S₄.wk (H' := R') (Wk.cons (Wk.cons Wk.refl))
            refine z454 ?_
            exact ⟨_, _, S₅, E₃.trans (E₄.trans E₅), rfl, .inr ⟨R', hns, hq, rfl⟩⟩
        · cases f with
          | ret v =>
            refine hide fun z455 => ?_
            obtain ⟨rfl, R', hW, hq⟩ := q
            obtain ⟨S₂, E₂⟩ := S₁.wk hW
            obtain ⟨S₃, E₃⟩ := S.sleep (y' := .finished) G S₂ (E₁.trans E₂) rfl
            obtain ⟨S₄, E₄⟩ := S₃.wk (H' := R') (Wk.cons (Wk.cons Wk.refl))
            refine z455 ?_
            refine wpAny_mono (stop_newK (α := Unit) (X := fun v m' H => m' = m ∧ ∃ e, v = .ref e ∧ H = (e, .exc (.type "StopIteration") .none) :: R') (Q := fun _ _ _ => False) hh (fun e _ => ⟨rfl, e, rfl, rfl⟩) _ S₄) (fun _ s₅ h₅ => ?_) fun w s₅ h₅ => ?_
            · obtain ⟨_, _, _, _, z⟩ := h₅; exact z.elim
            · refine hide fun z456 => ?_
              obtain ⟨m₅, H₅, S₅, E₅, rfl, e, rfl, rfl⟩ := h₅
              refine z456 ?_
              exact ⟨_, _, S₅, E₃.trans (E₄.trans E₅), rfl, .inl ⟨e, R', hq, rfl, rfl⟩⟩
          | _ => exact q.elim
  cases y with
  | fresh c => exact wpAny_bind (wpAny_roomToWake (hl.keeps S.base) hd main)
  | suspended k l c p fs cl => exact wpAny_bind (wpAny_roomToWake (hl.keeps S.base) hd main)
  | running => exact hgo.elim
  | finished => exact hgo.elim
end
end Mine

namespace Mine
open PySem PySem.W PyProof.Rows
open Sem (wp)

structure FnAtG (C : Cfg) (f : Addr) (fd : FuncData) (body : List Stmt) : Prop where
  obj : ∃ o, C.h₀.get? f = some o ∧ o.data = .func fd
  body : fd.body = .stmts body
  clo : fd.closure = []
  glob : fd.globals = mainGlobals
  blt : fd.builtins = builtinsNs
  code : C.h₀.CodeRec fd.code fd.qualname
  limit : C.h₀.NoLimit
  co : fd.scope.isCoroutine = false
  gen : fd.scope.isGenerator = true
  kind : fd.scope.kind = .function
theorem fnAtG {C : Cfg} {K : Frag} {T : Top C K} {f : Addr} {oc : Value} {od : Option Addr} {osl : Array (Option Value)} {name qual : PySem.Str} {params : Arguments} {body : List Stmt} {scope : Scope} {dV kV doc pm cdv ct : Value} {an : Option Addr}
    (ho : K.lookup f = some ⟨oc, od, .func (fnOf name qual params body scope dV kV doc pm an cdv ct), osl⟩) (hcode : codeIn K cdv qual = true)
    (hco : scope.isCoroutine = false) (hgen : scope.isGenerator = true) (hk : scope.kind = .function) : FnAtG C f (fnOf name qual params body scope dV kV doc pm an cdv ct) body :=
  ⟨⟨_, T.X f _ ho, rfl⟩, rfl, rfl, rfl, rfl, codeRec_of T.X hcode, T.nolimit, hco, hgen, hk⟩

noncomputable def noCells (names : List (PySem.Str × NameKind)) : Bool := names.all fun p => !(p.2 == NameKind.cell)
theorem cellsFrom_none : ∀ (names : List (PySem.Str × NameKind)) (n : Nat) (acc : List (PySem.Str × Addr)), noCells names = true → cellsFrom n names acc = acc
  | [], _, _, _ => rfl
  | (x, k) :: r, n, acc, h => by
    unfold noCells at h
    rw [List.all_cons, Bool.and_eq_true] at h
    unfold cellsFrom
    rw [if_neg (by simpa using h.1)]
    exact cellsFrom_none r n acc h.2
theorem noCells_get {names : List (PySem.Str × NameKind)} (h : noCells names = true) {x : PySem.Str} (hx : names.lookup x = some .cell) : False := by
  have := List.all_eq_true.mp h _ (mem_of_lookup hx)
  simp at this

section
variable {C : Cfg} {A A' : Around} {fx : Fx} {m m' : Lo} {H H' R : AH} {X : Value → Lo → AH → Prop} {Q : Value → Lo → AH → Prop} {s s' : Shared} {g L f : Addr} {i n : Nat} {y : GenState}

theorem St.newGen (S : St C A fx m H s) (hg : s.heap.get? g = none) {o : Obj} (hk : ∀ b o, s.heap.get? b = some o → s'.heap.get? b = some o) (ho : s'.heap.get? g = some o) (hr : OR C o (.gen s.gens.size y)) (hy : y.bare = true)
    (hgs : s'.gens = s.gens.push y) (hos : s'.os = s.os) : St C A fx m ((g, .gen s.gens.size y) :: H) s' ∧ Ext A fx H s ((g, .gen s.gens.size y) :: H) s' := by
  have hn := none_new S hg
  refine S.upd (fun b o e _ => .of_keep (hk b o e)) (fun p hp => ?_) (fun b hb => ?_) ?_ (hgs ▸ S.gens.push hy) hos ?_
  · rcases List.mem_cons.mp hp with rfl | hp
    · exact ⟨o, ho, hr⟩
    · refine hide fun z457 => ?_
      obtain ⟨o', h1, h2⟩ := S.cells p hp
      refine z457 ?_
      exact ⟨o', hk _ _ h1, h2⟩
  · rcases List.mem_cons.mp hb with rfl | hb
    · exact .inr hg
    · exact .inl hb
  · exact List.nodup_cons.mpr ⟨hn, S.nodup⟩
  · rw [hgs]
    have old : ∀ a j z, (a, AO.gen j z) ∈ H → (s.gens.push y)[j]? = some z ∧ j ≠ s.gens.size := fun a j z hm => by
      have h1 := S.gst.1 a j z hm
      have h2 := (Array.getElem?_eq_some_iff.mp h1).1
      exact ⟨by rw [Array.getElem?_push_lt h2]; rw [Array.getElem?_eq_getElem h2] at h1; exact h1, Nat.ne_of_lt h2⟩
    refine ⟨fun a j z hm => ?_, fun a a' j z z' h1 h2 => ?_⟩
    · rcases List.mem_cons.mp hm with e | hm
      · cases e; exact Array.getElem?_push_size
      · exact (old a j z hm).1
    · rcases List.mem_cons.mp h1 with e | h1 <;> rcases List.mem_cons.mp h2 with e' | h2
      · cases e; cases e'; rfl
      · cases e; exact absurd rfl (old _ _ _ h2).2
      · cases e'; exact absurd rfl (old _ _ _ h1).2
      · exact S.gst.2 _ _ _ _ _ h1 h2

theorem callG1 {fd : FuncData} {body : List Stmt} (R : Room A (n + 1)) (F : FnAtG C f fd body) {x : Value} (n1 : PySem.Str) (hb : ∀ a, bindArgs fd ⟨[a], []⟩ = pure [(n1, a)]) (hB : fd.scope.names.lookup n1 = some .local) (hc : noCells fd.scope.names = true)
    (h : ∀ env g L i, GEnv env L → env.scope = fd.scope → g ∉ AH.keys ((L, .loc [(n1, x)]) :: H) → L ∉ H.keys → Q (.ref g) m ((g, .gen i (.fresh (.func body env))) :: (L, .loc [(n1, x)]) :: H)) : CALLC C A fx (.ref f) [x] m H Q X := by
  intro gv vs hgv hvs
  obtain rfl := er_eq_ref hgv
  refine hide fun z458 => ?_
  obtain ⟨a, rfl, ha⟩ := er1 hvs
  refine z458 ?_
  intro s S
  refine hide fun z459 => ?_
  obtain ⟨o, ho, hd⟩ := F.obj
  refine z459 ?_
  refine codeAny_call_generator R.lim (S.base _ _ ho) hd F.co F.gen F.body ?_ ?_
  · refine hide fun z460 => ?_
    obtain ⟨c, oc, ws, t, h1, h2, h3, h4⟩ := F.code
    refine z460 ?_
    exact ⟨c, oc, ws, t, h1, S.base _ _ h2, h3, h4⟩
  rw [hb a]
  refine wpAny_pure ?_
  rw [F.clo]
  refine wpAny_newFunctionEnv_cells F.kind (fun x hx => ?_) fun env he s' xx => ?_
  · rcases List.mem_singleton.mp hx with rfl
    exact .inl hB
  have hL : env.locals = s.heap.objs.size := by rw [he]; rfl
  have hcs : env.cells = [] := by rw [he]; exact cellsFrom_none _ _ _ hc
  have hkd : ∀ y, env.kindOf y = fd.scope.names.lookup y := fun y => by rw [he]; rfl
  have keep := xx.toInCall.keep
  refine hide fun z461 => ?_
  obtain ⟨h', tk, hs', _⟩ := xx.done
  obtain ⟨oL, es, ep, hoL, hdL, hsk, hfind⟩ := xx.toInCall.ns
  refine z461 ?_
  have hnL : s.heap.get? env.locals = none := none_of_le (by rw [hL]; exact Nat.le_refl _)
  obtain ⟨S₁, E₁⟩ := S.new (s' := s') (a := env.locals) (ao := .loc [(n1, x)]) hnL keep hoL ⟨es, ep, hdL, hsk, fun z v hz => by
    rcases List.mem_singleton.mp hz with e
    cases e
    rw [hfind, bindL_get (by simp) List.mem_cons_self ((hkd n1).trans hB), Option.map_some, ha]⟩ (by rw [hs']) (by rw [hs'])
  have hng : s'.heap.get? s'.heap.objs.size = none := none_of_le (Nat.le_refl _)
  obtain ⟨S₂, E₂⟩ := S₁.newGen (y := .fresh (.func body env)) (s' := { s' with gens := s'.gens.push (.fresh (.func body env)), toks := s'.toks + 1 + 1, heap := s'.heap.push { cls := .type "generator", data := .fields #[.int s'.gens.size 0, .str fd.name s'.toks, .str fd.qualname (s'.toks + 1)] } })
    hng (fun b o e => Heap.get?_push_of_some _ e) (Heap.get?_push_size _ rfl) ⟨rfl, rfl, _, _, rfl⟩ rfl rfl rfl
  exact ⟨F.limit.keeps fun b o e => S₁.base b o e, m, _, S₂, E₁.trans E₂, h env _ _ _ ⟨rfl, (congrArg (fun e : Env => e.scope.kind) he).trans F.kind, (congrArg Env.globals he).trans F.glob, (congrArg Env.builtins he).trans F.blt, hcs, (congrArg Env.frame he).trans (congrArg some hL.symm), fun z hz => noCells_get hc ((hkd z).symm.trans hz)⟩
    (congrArg Env.scope he) (none_new S₁ hng) (none_new S hnL)⟩

theorem call_iter_g (hg : (g, AO.gen i y) ∈ H) (h : Q (.ref g) m H) : CALL C A fx (.builtin "iter") [.ref g] m H Q X := fun gv vs hgv hvs => by
  obtain rfl := er_eq_builtin hgv
  refine hide fun z462 => ?_
  obtain ⟨a, rfl, ha⟩ := er1 hvs
  refine z462 ?_
  obtain rfl := er_eq_ref ha
  intro s S
  refine hide fun z463 => ?_
  obtain ⟨o, ho, hc, hsl, nm, qn, hdt⟩ := S.get hg
  refine z463 ?_
  refine PySem.Calls.call_function_entry (by decide +kernel) (by decide +kernel) kdk_entry_iter (kdk_args_iter _) ?_
  unfold Builtin.«iter»
  refine wpAny_bind (m := someArgs "iter" 1 2 _) (wpAny_of_eq (a := [Value.ref g]) (by first | rfl | kernel_rfl!) ?_)
  show wpAny _ _ (pyIter (.ref g) >>= _) _ _ _
  exact wpAny_bind (wpAny_pyIter_gen ⟨o, nm, qn, ho, hc, hdt, hsl⟩ (wpAny_pure ⟨_, rfl, m, _, S, Ext.refl' S, h⟩))
theorem call_next_g (hg : (g, AO.gen i y) ∈ H) (h : AW C A.in1.in1 fx (Builtin.Generator.genWake (.ref g) (.send .none)) m H (fun fin m' H' => ∃ r, fin = .done (.ret r) ∧ Q (er r) m' H') X) : CALL C A fx (.builtin "next") [.ref g] m H Q X := fun gv vs hgv hvs => by
  obtain rfl := er_eq_builtin hgv
  refine hide fun z464 => ?_
  obtain ⟨a, rfl, ha⟩ := er1 hvs
  refine z464 ?_
  obtain rfl := er_eq_ref ha
  intro s S
  refine hide fun z465 => ?_
  obtain ⟨o, ho, hc, hsl, nm, qn, hdt⟩ := S.get hg
  refine z465 ?_
  have hT : s.TypeIs (.ref g) "generator" := ⟨o, ho, hc⟩
  refine PySem.Calls.call_function_entry (by decide +kernel) (by decide +kernel) kdk_entry_next (kdk_args_next _) ?_
  unfold Builtin.«next»
  refine wpAny_bind (m := someArgs "next" 1 2 _) (wpAny_of_eq (a := [Value.ref g]) (by first | rfl | kernel_rfl!) ?_)
  dsimp only
  refine wpAny_bind (wpAny_specialOf (name := Str.ofString "__next__") hT slot_gen_next.lookup ?_)
  refine wpAny_ite_split (fun hab => absurd hab (by decide)) (fun _ => ?_)
  refine wpAny_bind (wpAny_callSpecial?_slot (name := Str.ofString "__next__") hT slot_gen_next (wpAny_call_entry slot_gen_next hT entry_gen_next ?_ (args_gen_next _)))
  refine wpAny_mono (h s (S.inA rfl)) (fun fin s' h' => ?_) fun v s' h' => ?_
  · refine hide fun z466 => ?_
    obtain ⟨m', H', S', E', r, rfl, q⟩ := h'
    refine z466 ?_
    exact ⟨r, rfl, wpAny_pure ⟨_, rfl, m', H', S'.inA rfl, E'.inA rfl, q⟩⟩
  · refine hide fun z467 => ?_
    obtain ⟨m', H', S', E', q⟩ := h'
    refine z467 ?_
    exact ⟨m', H', S'.inA rfl, E'.inA rfl, q⟩

theorem room_over {c : Code} {fs : List Frame} (R : Room A (n + 1)) (hw : frameCount (fs.map Frame.where_) + c.weight ≤ 4) (hu : unitsOf (fs.map Frame.where_) + c.cUnits ≤ 20) (hm : (marksOver fs (none, none)).1 = none) : Room (A.over c fs) n := by
  refine ⟨?_, ?_, ?_⟩
  · have := R.depth
    show A.depth + frameCount (fs.map Frame.where_) + c.weight + 4 * n ≤ 900
    omega
  · have := R.units
    show A.units + unitsOf (fs.map Frame.where_) + c.cUnits + 20 * n ≤ 9000
    omega
  · show (marksOver fs (A.handled, A.handled)).1 = none
    rw [R.hand]; exact hm
theorem GEnv.here {env : Env} {c : Code} {fs : List Frame} (G : GEnv env L) (hf : Fr A ⟨env, [L]⟩ c fs) : Here (A.over c fs) ⟨env, [L]⟩ := ⟨by rw [show (Fx.mk env [L]).env.frame = some L from G.frame, show (Fx.mk env [L]).env.locals = L from G.loc], fun l h => by
  rw [hf] at h
  have h : A.frames.map _ = some l := h
  refine hide fun z468 => ?_
  obtain ⟨o, _, rfl⟩ := Option.map_eq_some_iff.mp h
  refine z468 ?_
  exact ⟨o, rfl⟩⟩
theorem GEnv.sc {env : Env} {sc : Scope} (G : GEnv env L) (hs : env.scope = sc) : Sc ⟨env, [L]⟩ sc sc.names := ⟨hs, fun x hx => by
  cases q : sc.names.lookup x with
  | none => rw [q] at hx; cases hx
  | some k =>
    rw [q] at hx
    have hk : (Fx.mk env [L]).env.kindOf x = some k := by unfold Env.kindOf; rw [show (Fx.mk env [L]).env.scope = sc from hs]; exact q
    cases k <;> first | exact .inl hk | exact absurd hk (G.nocell x) | cases hx⟩
end
end Mine

namespace Mine
open PySem PySem.W PyProof.Rows
open Sem (wp)

structure SoB where
  sP : Stmt
  test : PySem.Expr
  s1 : Stmt
  ye : PySem.Expr
  yp : Pos
  ep : Pos
  s3 : Stmt
  wp : Pos
noncomputable def SoB.wb (b : SoB) : List Stmt := [b.s1, .Expr (.YieldFrom b.ye b.yp) b.ep, b.s3]
noncomputable def SoB.body (b : SoB) : List Stmt := [b.sP, .While b.test b.wb [] b.wp]
noncomputable def soKF : Flow → Sem PySem.Fin := fun f => .pure (.done (.ret (retV f)))
noncomputable def soHF (env : Env) : Value → Sem PySem.Fin := fun e => (leaving env e).wrap (fun _ => .raise e) .raise id id
noncomputable def soK2 (env : Env) : Flow → Sem PySem.Fin := fun f => match f with
  | .next => (execs [] env).wrap soKF (soHF env) id id
  | f => soKF f
noncomputable def soW (b : SoB) (env : Env) : Code := .whileLoop b.test b.wb [] env
noncomputable def soK1 (b : SoB) (env : Env) : Flow → Sem PySem.Fin := fun f => match f with
  | .next => (execs [b.s3] env).wrap (whBody (soW b env)) (whErr env) id id
  | f => whBody (soW b env) f
noncomputable def frF (b : SoB) (env : Env) (p : Pos) : Frame := .ret (whRet env (soK2 env) (soHF env) id id) none false [] (.func b.body env) p []
noncomputable def frY (b : SoB) (env : Env) (p : Pos) : Frame := .ret (yfRet (yfDrop b.ye b.yp b.ep (soK1 b env) (whErr env) id id) (whErr env) id id) none false [] (soW b env) p []

section
variable {C : Cfg} {A : Around} {fx : Fx} {b : SoB} {m m' : Lo} {H H' : AH} {Y : Value → GenState → Lo → AH → Prop} {N : Lo → AH → Prop} {X : Value → Lo → AH → Prop} {p p' : Pos} {it : Value} {n : Nat}
theorem fr_so1 : Fr A fx (soW b fx.env) [frF b fx.env p] := fr_in fr_func rfl
theorem fr_so2 : Fr A fx (yfCode it) [frY b fx.env p', frF b fx.env p] := fr_in fr_so1 rfl
theorem room_so0 {body : List Stmt} (R : Room A (n + 1)) : Room (A.over (.func body fx.env) []) n := room_over R (Nat.le_of_ble_eq_true rfl) (Nat.le_of_ble_eq_true rfl) rfl
theorem room_so1 (R : Room A (n + 1)) : Room (A.over (soW b fx.env) [frF b fx.env p]) n := room_over R (Nat.le_of_ble_eq_true rfl) (Nat.le_of_ble_eq_true rfl) rfl

theorem so_start (h : EX C (A.over (.func b.body fx.env) []) fx b.sP m H (fun f m' H' => f = .next ∧ ∀ p, GX C A fx (soW b fx.env) ((model C.prog C.w).den (soW b fx.env)) [frF b fx.env p] m' H' Y N X)
    (fun x m' H' => AW C (A.over (.func b.body fx.env) []) fx (leaving fx.env x) m' H' (fun _ m'' H'' => X x m'' H'') noX)) : GX C A fx (.func b.body fx.env) ((model C.prog C.w).den (.func b.body fx.env)) [] m H Y N X := by
  refine gx_func ?_
  unfold SoB.body
  refine gx_cons (gx_ex fr_func (aw_mono h (fun f m' H' q => ⟨q.1, ?_⟩) fun x m' H' q => ?_))
  · exact gx_cons (gx_while fr_func fun p => q.2 p)
  · exact gx_step fr_func (aw_mono q (fun _ m'' H'' z => gx_left z) fun _ _ _ z => z)
theorem so_loop (h : IT C (A.over (soW b fx.env) [frF b fx.env p]) fx b.test m H (fun t m' H' => if t = true then
      EX C (A.over (soW b fx.env) [frF b fx.env p]) fx b.s1 m' H' (fun f m'' H'' => f = .next ∧ EV C (A.over (soW b fx.env) [frF b fx.env p]) fx b.ye m'' H'' (fun v m₃ H₃ => ∃ t xs, v = .ref t ∧ (t, AO.tup xs) ∈ H₃ ∧ ∀ I, I ∉ H₃.keys → ∀ p',
        GX C A fx (yfCode (.ref I)) ((model C.prog C.w).den (yfCode (.ref I))) [frY b fx.env p', frF b fx.env p] m₃ ((I, tuIt (.ref t) 0) :: H₃) Y N X) noX) noX
      else N m' H') noX) (hi : interactive fx.env = false) : GX C A fx (soW b fx.env) ((model C.prog C.w).den (soW b fx.env)) [frF b fx.env p] m H Y N X := by
  refine gx_whileLoop fr_so1 (aw_mono h (fun t m' H' q => ?_) fun _ _ _ z => z)
  cases t with
  | true =>
    rw [if_pos rfl] at q ⊢
    unfold SoB.wb
    refine gx_cons (gx_ex fr_so1 (aw_mono q (fun f m'' H'' q => ⟨q.1, ?_⟩) fun _ _ _ z => z.elim))
    exact gx_cons (gx_yieldFrom hi fr_so1 q.2)
  | false =>
    rw [if_neg (by decide)] at q ⊢
    exact gx_ret (gx_end q)
theorem so_back (h : EX C (A.over (soW b fx.env) [frF b fx.env p]) fx b.s3 m H (fun f m' H' => f = .next ∧ GX C A fx (soW b fx.env) ((model C.prog C.w).den (soW b fx.env)) [frF b fx.env p] m' H' Y N X) noX) :
    GX C A fx (yfCode it) (.pure (.done (.ret .none))) [frY b fx.env p', frF b fx.env p] m H Y N X := by
  refine gx_yfRet (K := soK1 b fx.env) (Hd := whErr fx.env) (gd := id) (lv := id) ?_
  refine gx_cons (gx_ex fr_so1 (aw_mono h (fun f m'' H'' q => ⟨q.1, ?_⟩) fun _ _ _ z => z.elim))
  exact gx_again rfl q.2
end
end Mine

namespace Mine
open PySem PySem.W PyProof.Rows

noncomputable def rndN (g : G) : Nat → List Int × List Int × G
  | 0 => ([], gFree g, g)
  | k + 1 => ((rndN g k).1 ++ (rndN g k).2.1, (gDone ((rndN g k).2.1.foldl (gSet (-1)) (rndN g k).2.2, []) (rndN g k).2.1).2, (gDone ((rndN g k).2.1.foldl (gSet (-1)) (rndN g k).2.2, []) (rndN g k).2.1).1)
noncomputable def orderG (g : G) : List Int := (rndN g ((nodes g).length + 1)).1
section
variable {g : G} {k j : Nat}
theorem rndN_rnd (W : WG g) : ∀ k, Rnd g (rndN g k).1 (rndN g k).1 (rndN g k).2.1 (rndN g k).2.2
  | 0 => Rnd.init W
  | k + 1 => ((rndN_rnd W k).round W).2
theorem rndN_nd (W : WG g) : ∀ k, (rndN g k).1.Nodup
  | 0 => List.nodup_nil
  | k + 1 => rnd_nodup (rndN_rnd W k) (rndN_nd W k)
theorem rndN_stop1 (h : (rndN g k).2.1 = []) : (rndN g (k + 1)).1 = (rndN g k).1 ∧ (rndN g (k + 1)).2.1 = [] := by
  constructor
  · show (rndN g k).1 ++ (rndN g k).2.1 = _
    rw [h, List.append_nil]
  · show (gDone (_, []) (rndN g k).2.1).2 = []
    rw [h]; rfl
theorem rndN_stop (h : (rndN g k).2.1 = []) : ∀ d, (rndN g (k + d)).1 = (rndN g k).1 ∧ (rndN g (k + d)).2.1 = []
  | 0 => ⟨rfl, h⟩
  | d + 1 => by
    refine hide fun z469 => ?_
    obtain ⟨h1, h2⟩ := rndN_stop h d
    obtain ⟨h3, h4⟩ := rndN_stop1 h2
    refine z469 ?_
    exact ⟨h3.trans h1, h4⟩
theorem rndN_long : ∀ k, (rndN g k).2.1 ≠ [] → k ≤ (rndN g k).1.length
  | 0, _ => Nat.zero_le _
  | k + 1, h => by
    have hk : (rndN g k).2.1 ≠ [] := fun e => h (rndN_stop1 e).2
    have h1 := rndN_long k hk
    have h2 := List.length_pos_iff.mpr hk
    show k + 1 ≤ ((rndN g k).1 ++ (rndN g k).2.1).length
    rw [List.length_append]
    exact Nat.add_le_add h1 h2
theorem rndN_len (W : WG g) (k : Nat) : (rndN g k).1.length ≤ (nodes g).length := nd_len (rndN_nd W k) (rndN_rnd W k).inG
theorem rndN_lt (W : WG g) (h : (rndN g k).2.1 ≠ []) : k < (nodes g).length := by
  have h1 := rndN_long k h
  have h2 := List.length_pos_iff.mpr h
  have h3 : ((rndN g k).1 ++ (rndN g k).2.1).length ≤ (nodes g).length := rndN_len W (k + 1)
  rw [List.length_append] at h3
  exact Nat.lt_of_lt_of_le (Nat.lt_of_le_of_lt h1 (Nat.lt_add_of_pos_right h2)) h3
theorem rndN_pre (k : Nat) : ∀ d, (rndN g k).1 <+: (rndN g (k + d)).1
  | 0 => List.prefix_refl _
  | d + 1 => (rndN_pre k d).trans (List.prefix_append _ _)
theorem order_last (W : WG g) : (rndN g ((nodes g).length + 1)).2.1 = [] := by
  by_cases h : (rndN g ((nodes g).length + 1)).2.1 = []
  · exact h
  · exact absurd (rndN_lt W h) (Nat.not_lt.mpr (Nat.le_succ _))
theorem order_end (W : WG g) (h : (rndN g k).2.1 = []) : orderG g = (rndN g k).1 := by
  unfold orderG
  rcases Nat.le_total k ((nodes g).length + 1) with hk | hk
  · have := (rndN_stop h ((nodes g).length + 1 - k)).1
    rw [Nat.add_sub_cancel' hk] at this
    exact this
  · have := (rndN_stop (order_last W) (k - ((nodes g).length + 1))).1
    rw [Nat.add_sub_cancel' hk] at this
    exact this.symm
theorem order_pre (W : WG g) (k : Nat) : (rndN g k).1 <+: orderG g := by
  by_cases h : (rndN g k).2.1 = []
  · rw [order_end W h]; exact List.prefix_refl _
  · have := rndN_pre (g := g) k ((nodes g).length + 1 - k)
    rw [Nat.add_sub_cancel' (Nat.le_succ_of_le (Nat.le_of_lt (rndN_lt W h)))] at this
    exact this
theorem order_get (W : WG g) {v : Int} (h : (rndN g k).2.1[j]? = some v) : (orderG g)[(rndN g k).1.length + j]? = some v := by
  obtain ⟨r, hr⟩ := order_pre W (k + 1)
  have hr : (rndN g k).1 ++ (rndN g k).2.1 ++ r = orderG g := hr
  have hj := (List.getElem?_eq_some_iff.mp h).1
  rw [← hr, List.append_assoc, List.getElem?_append_right (Nat.le_add_right _ _), Nat.add_sub_cancel_left, List.getElem?_append_left hj]
  exact h
theorem order_none (W : WG g) (h : (rndN g k).2.1 = []) : (orderG g)[(rndN g k).1.length]? = none := by
  rw [order_end W h]; exact List.getElem?_eq_none (Nat.le_refl _)
theorem order_len (W : WG g) : (orderG g).length ≤ (nodes g).length := rndN_len W _
end
theorem wk_gen1 {S R : AH} {a b c : Addr × AO} : Wk (a :: (S ++ b :: c :: R)) (c :: ((a :: b :: S) ++ R)) :=
  Wk.perm (((List.perm_middle.trans (List.perm_middle.cons b)).cons a).trans (((List.Perm.swap c b _).cons a).trans (List.Perm.swap c a _)))
theorem perm_gen2 {S R : AH} {a b c : Addr × AO} : (c :: ((a :: b :: S) ++ R)).Perm (a :: b :: (S ++ c :: R)) :=
  (List.Perm.swap a c _).trans (((List.Perm.swap b c _).trans (List.perm_middle.symm.cons b)).cons a)
theorem wk_gen2 {S R : AH} {a b c : Addr × AO} : Wk (c :: ((a :: b :: S) ++ R)) (a :: b :: (S ++ c :: R)) := Wk.perm perm_gen2
theorem wk_gen3 {S R : AH} {a b c : Addr × AO} : Wk (a :: b :: (S ++ c :: R)) (c :: ((a :: b :: S) ++ R)) := Wk.perm perm_gen2.symm
end Mine

namespace Mine
open PySem PySem.W PyProof.Rows
open Sem (wp)

section
variable {C : Cfg} {A : Around} {fx : Fx} {m m' : Lo} {H H' R : AH} {X : Value → Lo → AH → Prop} {K : Frag} {x dx cl f : Addr} {fs : List (PySem.Str × Value)} {sl : List (Option Value)}
theorem aw_next_ownX {T : Top C K} {Qs : Value → Lo → AH → Prop} {Qn : Lo → AH → Prop} (hn : ownIn K cl "__next__" f = true) (hx : (x, AO.inst cl (some dx) sl) ∈ H) (hd : (dx, AO.ns fs) ∈ H)
    (h : CALL C A fx (.ref f) [.ref x] m H Qs (fun v m' H' => (∃ e R fl, v = .ref e ∧ ExnT e (.type "StopIteration") fl R H' ∧ Qn m' R) ∨ ∃ e c fl R, v = .ref e ∧ ExnT e (.ref c) fl R H' ∧ mroIn K c (.type "StopIteration") = some false ∧ X v m' H')) :
    AW C A fx (pyNext (.ref x)) m H (fun r m' H' => match r with | some v => Qs (er v) m' H' | none => Qn m' H') X := by
  intro s S
  refine hide fun z470 => ?_
  obtain ⟨ox, od, I, h2, h3, h4, h5⟩ := S.inst hx hd
  refine z470 ?_
  unfold ownIn at hn
  simp only [Bool.and_eq_true, beq_iff_eq] at hn
  obtain ⟨k1, k2⟩ := hn
  unfold pyNext
  refine wpAny_bind (wpAny_attempt (special_fn (name := "__next__") (args := []) (T.X.keeps S.base) I k1 k2 (wpAny_mono (h (.ref f) [.ref x] rfl rfl s S) (fun v s' h' => ?_) fun v s' h' => ?_)))
  · refine hide fun z471 => ?_
    obtain ⟨m', H', S', E', q⟩ := h'
    refine z471 ?_
    exact wpAny_pure ⟨m', H', S', E', q⟩
  · obtain ⟨m', H', S', E', ⟨e, R, fl, rfl, ⟨T', rfl⟩, q⟩ | ⟨e, c, fl, R, rfl, ⟨T', rfl⟩, hm, q⟩⟩ := h'
    · refine hide fun z472 => ?_
      obtain ⟨oe, h1, hc, _⟩ := S'.get List.mem_cons_self
      refine z472 ?_
      have hT : s'.TypeIs (.ref e) "StopIteration" := ⟨oe, h1, hc⟩
      refine wpAny_bind (wpAny_isInstance hT isSub_stop ?_)
      rw [if_pos rfl]
      obtain ⟨S₂, E₂⟩ := S'.sub (H' := R) (fun p hp => List.mem_cons_of_mem _ (List.mem_cons_of_mem _ hp)) (List.nodup_cons.mp (List.nodup_cons.mp S'.nodup).2).2
      exact wpAny_pure ⟨m', R, S₂, E'.trans E₂, q⟩
    · refine hide fun z473 => ?_
      obtain ⟨oe, h1, hc, _⟩ := S'.get List.mem_cons_self
      refine z473 ?_
      refine wpAny_bind ?_
      simp only [isInstance]
      refine wpAny_bind (wpAny_typeOf_ref h1 ?_)
      rw [hc]
      refine (looks_mroIn (T.X.keeps S'.base) hm).here ?_
      rw [if_neg (by decide)]
      exact wpAny_throw ⟨m', _, S', E', q⟩
theorem aw_nodupQ {α : Type} {t : Sem α} {Q : α → Lo → AH → Prop} (h : AW C A fx t m H (fun a m' H' => H'.keys.Nodup → Q a m' H') X) : AW C A fx t m H Q X := fun s S =>
  wpAny_mono (h s S) (fun a s' h' => let ⟨m', H', S', E', q⟩ := h'; ⟨m', H', S', E', q S'.nodup⟩) fun _ _ z => z
theorem perm_list {D X₁ X₂ W G L : Addr × AO} {Z R : AH} : (D :: X₁ :: X₂ :: W :: G :: L :: (Z ++ R)).Perm (G :: L :: (Z ++ (X₁ :: X₂ :: D :: W :: R))) := by
  have h1 : (Z ++ ([X₁, X₂, D, W] ++ R)).Perm ([X₁, X₂, D, W] ++ (Z ++ R)) := List.perm_append_comm_assoc ..
  have h2 : ([G, L] ++ ([X₁, X₂, D, W] ++ (Z ++ R))).Perm ([X₁, X₂, D, W] ++ ([G, L] ++ (Z ++ R))) := List.perm_append_comm_assoc ..
  have h3 : ([X₁, X₂, D, W] ++ ([G, L] ++ (Z ++ R))).Perm (D :: X₁ :: X₂ :: W :: G :: L :: (Z ++ R)) := (List.perm_middle (l₁ := [X₁, X₂]) (l₂ := [W] ++ ([G, L] ++ (Z ++ R))) (a := D))
  exact (((h1.cons L).cons G).trans (h2.trans h3)).symm
theorem put_HG {a b c d : Addr × AO} {Z B : AH} {D : Addr} {o o' : AO} (hn : (AH.keys (a :: b :: (Z ++ (c :: d :: (D, o) :: B)))).Nodup) : AH.put (a :: b :: (Z ++ (c :: d :: (D, o) :: B))) D o' = a :: b :: (Z ++ (c :: d :: (D, o') :: B)) := by
  have e : ∀ o : AO, a :: b :: (Z ++ (c :: d :: (D, o) :: B)) = (a :: b :: (Z ++ [c, d])) ++ (D, o) :: B := fun o => by simp
  rw [e] at hn ⊢
  rw [put_mid hn, e]
end
end Mine

namespace Mine
set_option maxRecDepth 100000
open PySem PySem.W PyProof.Rows
open Sem (wp)

noncomputable abbrev PT := List (Addr × Int × Int)
noncomputable def refsP (ts : PT) : List Value := ts.map fun q => .ref q.1
noncomputable def PPC (ts : PT) : AH := ts.map fun q => (q.1, AO.tup [vI q.2.1, vI q.2.2])
noncomputable abbrev lexLt (a b : Int × Int) : Prop := a.1 < b.1 ∨ (a.1 = b.1 ∧ a.2 < b.2)
theorem refsP_len {ts : PT} : (refsP ts).length = ts.length := by unfold refsP; rw [List.length_map]

section
variable {α : Type} {C : Cfg} {A A' : Around} {fx fx' : Fx} {m m' m₁ : Lo} {H H' H₁ : AH} {X : Value → Lo → AH → Prop} {K : Frag} {s s' : Shared} {Q : Value → Lo → AH → Prop}
theorem turns_lcp {elt : PySem.Expr} {g : Comprehension} {scope outer : Scope} {pos : Pos} {x : Value} {β : Type} {us : List β} {tv : β → Value} {P : AH → Prop} {G : AH → AO → Addr → Prop} (hb : scOkB scope outer = true) (hif : g.ifs = [])
    (hI : ITR C A fx x m₁ H₁ (us.map tv) P) (hP : ∀ H, Wk H H₁ → P H) (hz : us.length ≤ 1000000) (f : β → Int × Int)
    (turn : ∀ fx', Sc fx' (relS scope outer) scope.names → ∀ v ∈ us, ∀ H₂, Wk H₂ H₁ → ASG C A fx' g.target (tv v) (freeLo scope m₁) H₂ (fun m₂ H₂' => 
      EV C A fx' elt m₂ H₂' (fun y m₄ H₄ => ∃ a, y = .ref a ∧ WkL m₄ (freeLo scope m₁) ∧ Wk H₄ ((a, .tup [vI (f v).1, vI (f v).2]) :: H₂)) noX) noX)
    (fin : ∀ a cs, a ∉ AH.keys (PPC cs ++ H₁) → cs.map (·.2) = us.map f → G (PPC cs ++ H₁) (.list (refsP cs)) a) (hsc : fx.env.scope = outer) :
    TURNS C A fx (.ListComp elt [g] scope pos) scope outer g [] x (.list []) m₁ H₁ (WkF G) := by
  refine ⟨us.map tv, P, hI, fun i m H acc => (∃ ls, acc = .list (refsP ls) ∧ ls.map (·.2) = (us.take i).map f ∧ Wk H (PPC ls ++ H₁)) ∧ WkL m (freeLo scope m₁), ⟨⟨[], rfl, by simp, Wk.refl⟩, WkL.refl⟩, fun i m H acc ⟨⟨kl, _, _, h⟩, _⟩ => hP H (h.trans (Wk.sub (List.sublist_append_right _ _))), ?_, ?_⟩
  · intro fx' hc hsc' i v' m H acc hv' hY9
    refine hide fun z474 => ?_
    obtain ⟨⟨ls, rfl, hkl, hH⟩, hm⟩ := hY9
    refine z474 ?_
    rw [List.getElem?_map] at hv'
    refine hide fun z475 => ?_
    obtain ⟨v, hv, rfl⟩ := Option.map_eq_some_iff.mp hv'
    refine z475 ?_
    refine asg_wk hm hH ?_
    have hlt := (List.getElem?_eq_some_iff.mp hv).1
    have Z' := hc.toSc hsc (ScOk.of hb)
    intro a ha
    refine aw_mono (turn fx' Z' v (List.mem_of_getElem? hv) _ (Wk.sub (List.sublist_append_right _ _)) a ha) (fun _ m₂ H₂ h₂ => ?_) fun _ _ _ z => z
    rw [hif]
    refine tst_nil (if_yes (gens_lc (aw_mono h₂ (fun y m₄ H₄ h₄ => ?_) fun _ _ _ z => z)))
    refine hide fun z476 => ?_
    obtain ⟨l, hy, hm₄, hH₄⟩ := h₄
    refine z476 ?_
    have hlen : ls.length ≤ 1000000 := by
      have := congrArg List.length hkl
      rw [List.length_map, List.length_map, List.length_take] at this
      exact Nat.le_trans (Nat.le_of_eq this) (Nat.le_trans (Nat.min_le_right _ _) hz)
    refine ⟨by rw [refsP_len]; exact hlen, ⟨ls ++ [(l, f v)], by unfold refsP; rw [List.map_append, hy]; rfl, by rw [List.map_append, hkl, map_take hv f]; rfl, ?_⟩, hm₄⟩
    unfold PPC at hH₄ ⊢
    rw [List.map_append]
    refine hH₄.trans (Wk.perm ?_)
    rw [List.append_assoc]
    exact (List.perm_middle (l₁ := ls.map fun q => (q.1, AO.tup [vI q.2.1, vI q.2.2]))).symm
  · intro m₂ H₂ acc hY3 a ha
    refine hide fun z477 => ?_
    obtain ⟨⟨ls, rfl, hkl, hH⟩, hm⟩ := hY3
    refine z477 ?_
    rw [List.length_map, List.take_length] at hkl
    refine ⟨_, hH, fin a ls (fun hk => ha ?_) hkl⟩
    refine hide fun z478 => ?_
    obtain ⟨q, hq, e⟩ := List.mem_map.mp hk
    refine z478 ?_
    rw [← e]
    exact mem_keys (hH.1 _ hq)

theorem lt_pair {A : Around} {E : Value → Shared → Prop} {Q : Bool → Shared → Prop} {x y : Addr} {a b : Int × Int} (S : St C A' fx m H s) (hx : (x, AO.tup [vI a.1, vI a.2]) ∈ H) (hy : (y, AO.tup [vI b.1, vI b.2]) ∈ H) (hne : a.2 ≠ b.2) (h : ∀ tk, Q (decide (lexLt a b)) { s with toks := tk }) :
    wpAny (model C.prog C.w) A (keyLt' (tuples' true) (.ref x) (.ref y)) Q E s := by
  refine hide fun z479 => ?_
  obtain ⟨ox, xs, nx, hox, hcx, hdx, hxs⟩ := S.tupAt hx
  obtain ⟨oy, ys, ny, hoy, hcy, hdy, hys⟩ := S.tupAt hy
  obtain ⟨lx, rfl⟩ : ∃ ls, xs = List.toArray ls := ⟨xs.toList, rfl⟩
  obtain ⟨ly, rfl⟩ : ∃ ls, ys = List.toArray ls := ⟨ys.toList, rfl⟩
  obtain ⟨v1, v2, e1, e2, e3⟩ := er2 hxs
  obtain ⟨w1, w2, e4, e5, e6⟩ := er2 hys
  refine z479 ?_
  simp only at e1 e4
  subst e1 e4
  refine hide fun z480 => ?_
  obtain ⟨t1, rfl⟩ := er_eq_int e2
  obtain ⟨t2, rfl⟩ := er_eq_int e3
  obtain ⟨u1, rfl⟩ := er_eq_int e5
  obtain ⟨u2, rfl⟩ := er_eq_int e6
  refine z480 ?_
  have h0 := h s.toks
  refine kat_lt hox hdx hoy hdy (kat_cons (wpAny_eqBool_int (kat_go (fun he => kat_yes (kat_cons (wpAny_eqBool_int (kat_go (fun he2 => absurd (by simpa using he2) hne) fun he2 => kat_no ?_)))) fun he => kat_no ?_)))
  · show wpAny _ _ (oneLt' false _ _) _ _ _
    have e1 : a.1 = b.1 := by simpa using he
    have e : decide (a.2 < b.2) = decide (lexLt a b) := by
      rw [decide_eq_decide]; exact ⟨fun z => .inr ⟨e1, z⟩, fun z => z.elim (fun z => absurd e1 (Int.ne_of_lt z)) And.right⟩
    refine kat_one _ _ (lt_int ?_)
    show Q _ _
    rw [e]; exact h0
  · show wpAny _ _ (oneLt' true _ _) _ _ _
    have e1 : a.1 ≠ b.1 := by simpa using he
    have e : decide (a.1 < b.1) = decide (lexLt a b) := by
      rw [decide_eq_decide]; exact ⟨.inl, fun z => z.elim id fun z => absurd z.1 e1⟩
    exact oneLt_int (by rw [e]; exact h0)
theorem kat_tups (S : St C A' fx m H s) : ∀ (us : PT) (vs : List Value), vs.map er = refsP us → (∀ p ∈ us, (p.1, AO.tup [vI p.2.1, vI p.2.2]) ∈ H) → ∃ fs, KatTups s.heap vs fs ∧ fs.length = us.length ∧ ∀ v ∈ fs, ∃ i t, v = Value.int i t
  | [], vs, hv, _ => by
    obtain rfl : vs = [] := List.map_eq_nil_iff.mp hv
    exact ⟨[], KatTups.nil, rfl, fun v hv => by cases hv⟩
  | p :: us, vs, hv, hm => by
    cases vs with
    | nil => cases hv
    | cons v vs =>
      unfold refsP at hv
      rw [List.map_cons, List.map_cons, List.cons.injEq] at hv
      obtain ⟨e1, e2⟩ := hv
      obtain rfl := er_eq_ref e1
      refine hide fun z481 => ?_
      obtain ⟨o, xs, n, ho, hc, hd, hxs⟩ := S.tupAt (hm p List.mem_cons_self)
      obtain ⟨w, f1, f2⟩ := er_get (k := 0) (v := vI p.2.1) hxs rfl
      obtain ⟨t, rfl⟩ := er_eq_int f2
      obtain ⟨fs, g1, g2, g3⟩ := kat_tups S us vs e2 fun q hq => hm q (List.mem_cons_of_mem _ hq)
      refine z481 ?_
      refine ⟨.int p.2.1 t :: fs, KatTups.cons ho hc hd f1 g1, by rw [List.length_cons, List.length_cons, g2], fun v hv => ?_⟩
      rcases List.mem_cons.mp hv with rfl | hv
      · exact ⟨_, _, rfl⟩
      · exact g3 v hv
theorem call_sorted_tt {l : Addr} {ts : PT} (hl : (l, AO.list (refsP ts)) ∈ H) (hm : ∀ p ∈ ts, (p.1, AO.tup [vI p.2.1, vI p.2.2]) ∈ H) (h5 : ts.length ≤ 5) (hd : (ts.map fun p => p.2.2).Nodup)
    (h : ∀ (a : Addr) (ts' : PT), a ∉ H.keys → ts'.Perm ts → ts'.Pairwise (fun p q => lexLt p.2 q.2) → Q (.ref a) m ((a, .list (refsP ts')) :: H)) : CALL C A fx (.builtin "sorted") [.ref l] m H Q X := by
  have hlen : (refsP ts).length = ts.length := refsP_len
  have hgd : ∀ i, i < ts.length → (refsP ts).getD i Value.none = .ref (ts.getD i (0, 0, 0)).1 := fun i hi => by unfold refsP; simp [hi]
  have hdis : ∀ i j, i < ts.length → j < ts.length → i ≠ j → (ts.getD i (0, 0, 0)).2.2 ≠ (ts.getD j (0, 0, 0)).2.2 := fun i j hi hj hne' e => by
    have h1 := List.nodup_iff_pairwise_ne.mp hd
    rw [List.pairwise_map, List.pairwise_iff_getElem] at h1
    have gi : ts.getD i (0, 0, 0) = ts[i] := by simp [hi]
    have gj : ts.getD j (0, 0, 0) = ts[j] := by simp [hj]
    rw [gi, gj] at e
    rcases Nat.lt_or_gt_of_ne hne' with hlt | hlt
    · exact h1 i j hi hj hlt e
    · exact h1 j i hj hi hlt e.symm
  have hval : ∀ {s' : Shared} {vs : List Value}, vs.map er = refsP ts → ∀ i, i < ts.length → vs.getD i Value.none = .ref (ts.getD i (0, 0, 0)).1 := fun {s' vs} hvs i hi => by
    have h1 : er (vs.getD i Value.none) = (refsP ts).getD i Value.none := by
      rw [← hvs]
      simp only [List.getD_eq_getElem?_getD, List.getElem?_map]
      cases vs[i]? <;> rfl
    rw [hgd i hi] at h1
    exact er_eq_ref h1
  refine call_sorted_k (κ := tuples' true) (lt := fun i j => decide (lexLt (ts.getD i (0, 0, 0)).2 (ts.getD j (0, 0, 0)).2)) hl (by rw [hlen]; exact h5) (fun i => ?_) (fun i j k _ _ _ h1 h2 => ?_) (fun i j hi hj hne' => ?_) (fun A' E s' vs hu' S hvs h2 Q' hq => ?_) (fun A' s' vs i j hu' S hvs hi hj hne' Q' hq => ?_) fun a p ha hp hpw => ?_
  · refine decide_eq_false ?_
    rintro (z | ⟨_, z⟩) <;> exact Int.lt_irrefl _ z
  · rw [decide_eq_true_eq] at h1 h2 ⊢
    unfold lexLt at h1 h2 ⊢
    omega
  · rw [hlen] at hi hj
    have := hdis i j hi hj hne'
    simp only [decide_eq_true_eq]
    unfold lexLt
    omega
  · refine hide fun z482 => ?_
    obtain ⟨fs, g1, g2, g3⟩ := kat_tups S ts vs hvs hm
    refine z482 ?_
    have hl2 : vs.length = ts.length := by have := congrArg List.length hvs; rwa [List.length_map, hlen] at this
    refine kat_kind (T := .type "int") g1 (by rw [g2, ← hl2]; exact Nat.lt_of_lt_of_le (by decide) h2) (fun v hv => ?_) (by decide) hq
    refine hide fun z483 => ?_
    obtain ⟨i, t, rfl⟩ := g3 v hv
    refine z483 ?_
    exact fun A' Q' E s' k q => wpAny_pure q
  · rw [hlen] at hi hj
    rw [hval (s' := s') hvs i hi, hval (s' := s') hvs j hj]
    exact lt_pair S (hm _ (getD_mem' hi)) (hm _ (getD_mem' hj)) (hdis i j hi hj hne') hq
  · have hp2 : p.Perm (List.range ts.length) := by rw [← hlen]; exact hp
    have hin : ∀ i ∈ p, i < ts.length := fun i hi => List.mem_range.mp (hp2.mem_iff.mp hi)
    have e1 : p.map (fun i => (refsP ts).getD i Value.none) = refsP (p.map fun i => ts.getD i (0, 0, 0)) := by
      unfold refsP
      rw [List.map_map]
      exact List.map_congr_left fun i hi => hgd i (hin i hi)
    rw [e1]
    refine h a _ ha ?_ ?_
    · have h1 := hp2.map fun i => ts.getD i (0, 0, 0)
      have e2 : (List.range ts.length).map (fun i => ts.getD i (0, 0, 0)) = ts := by
        refine List.ext_getElem (by simp) fun i h1 h2 => ?_
        simp [h2]
      rw [e2] at h1
      exact h1
    · rw [List.pairwise_map]
      exact hpw.imp fun h => of_decide_eq_true h
end
end Mine

namespace Mine
open PySem PySem.W PyProof.Rows
open Sem (wp)
section
variable {C : Cfg} {A : Around} {fx : Fx} {m : Lo} {H : AH} {X : Value → Lo → AH → Prop} {Q : Value → Lo → AH → Prop}
theorem call_index {l : Addr} {ns : List Int} {k : Int} (hl : (l, AO.list (iv ns)) ∈ H) (hk : k ∈ ns) (hz : ns.length ≤ 1000) (h : Q (vI (ns.idxOf k : Nat)) m H) : CALL C A fx (.builtin "list.index") [.ref l, vI k] m H Q X := fun g vs hg hvs => by
  obtain rfl := er_eq_builtin hg
  refine hide fun z484 => ?_
  obtain ⟨a, a', rfl, ha, ha'⟩ := er2 hvs
  refine z484 ?_
  obtain rfl := er_eq_ref ha
  obtain ⟨t, rfl⟩ := er_eq_int ha'
  intro s S
  refine hide fun z485 => ?_
  obtain ⟨vs, h1, hi⟩ := S.ints hl
  obtain ⟨⟨cls, dd, data, sl⟩, ho, hc, n, hd⟩ := id h1
  refine z485 ?_
  simp only at hc hd
  subst hc hd
  have hlen := hi.length
  have hj : ns.idxOf k < ns.length := List.idxOf_lt_length_iff.mpr hk
  refine call_meets PySem.F.slot_list_index ⟨_, ho, rfl⟩ PySem.F.entry_list_index (PySem.F.args_list_index_2 _ _)
    (PySem.SeqAt.list_indexAt l vs.toArray n dd sl (.int k t) (isInt k) (ns.idxOf k) (by simpa [hlen] using hj) (by omega) ?_ ?_) ⟨ho, fun y hy => (eq_isInt k t hi y (by simpa using hy)).at _ _, m, H, (S.toks _).1, (S.toks _).2, h⟩
  · show isInt k vs[ns.idxOf k] = true
    rw [isInt_at k hi _ (by simpa using hlen ▸ hj) hj]
    simpa using List.getElem_idxOf hj
  · intro j hjs hlt
    show isInt k vs[j] = false
    rw [isInt_at k hi j (by simpa using hjs) (by omega)]
    exact ne_of_lt_idxOf hlt _
end
end Mine

namespace Mine
open PySem PySem.W PyProof.Rows

noncomputable def freeO (row : List Int) (f : Int → List Int) (O : List Int) : List Int := row.filter fun y => !decide (y ∈ O) && decide (((f y).filter fun x => !decide (x ∈ O)) = [])
noncomputable def mxS (O : List Int) (M x : Int) : Int := max M ((O.idxOf x : Nat) : Int)
noncomputable def lastK (O xs : List Int) : Int := xs.foldl (mxS O) (-1)
noncomputable def keyO (row : List Int) (f : Int → List Int) (O : List Int) (y : Int) : Int × Int := (lastK O (f y), (row.idxOf y : Nat))
noncomputable def StepTo (row : List Int) (f : Int → List Int) (O E : List Int) : Prop := E.Perm (freeO row f O) ∧ E.Pairwise fun a b => lexLt (keyO row f O a) (keyO row f O b)
noncomputable def OrdN (row : List Int) (f : Int → List Int) : Nat → List Int → Prop
  | 0, O => O = []
  | i + 1, O' => ∃ O E, OrdN row f i O ∧ StepTo row f O E ∧ O' = O ++ E
section
variable {row O xs : List Int} {f : Int → List Int} {y : Int}
theorem freeO_iff : y ∈ freeO row f O ↔ y ∈ row ∧ y ∉ O ∧ ∀ x ∈ f y, x ∈ O := by
  unfold freeO
  rw [List.mem_filter, Bool.and_eq_true, Bool.not_eq_true', decide_eq_false_iff_not, decide_eq_true_eq, List.filter_eq_nil_iff]
  refine and_congr Iff.rfl (and_congr Iff.rfl ⟨fun h x hx => ?_, fun h x hx => ?_⟩)
  · have := h x hx
    simpa using this
  · have := h x hx
    simpa using this
theorem freeO_mem (h : y ∈ freeO row f O) : y ∈ row ∧ ∀ x ∈ f y, x ∈ O := ⟨(freeO_iff.mp h).1, (freeO_iff.mp h).2.2⟩
theorem lastK_go : ∀ (xs : List Int) (M : Int), (xs.foldl (mxS O) M = M ∨ ∃ x ∈ xs, xs.foldl (mxS O) M = (O.idxOf x : Nat)) ∧ M ≤ xs.foldl (mxS O) M ∧ ∀ x ∈ xs, ((O.idxOf x : Nat) : Int) ≤ xs.foldl (mxS O) M
  | [], M => ⟨.inl rfl, Int.le_refl _, fun _ h => by cases h⟩
  | x :: r, M => by
    refine hide fun z486 => ?_
    obtain ⟨h1, h2, h3⟩ := lastK_go r (mxS O M x)
    refine z486 ?_
    have e : mxS O M x = max M ((O.idxOf x : Nat) : Int) := rfl
    rw [List.foldl_cons]
    refine ⟨?_, by omega, fun z hz => ?_⟩
    · rcases h1 with h1 | ⟨z, hz, h1⟩
      · rw [h1, e]
        rcases Int.le_total M ((O.idxOf x : Nat) : Int) with h | h
        · exact .inr ⟨x, List.mem_cons_self, Int.max_eq_right h⟩
        · exact .inl (Int.max_eq_left h)
      · exact .inr ⟨z, List.mem_cons_of_mem _ hz, h1⟩
    · rcases List.mem_cons.mp hz with rfl | hz
      · omega
      · exact h3 z hz
theorem lastK_max {M : Int} (h1 : M ∈ (-1 : Int) :: xs.map fun x => ((O.idxOf x : Nat) : Int)) (h2 : ∀ a ∈ (-1 : Int) :: xs.map fun x => ((O.idxOf x : Nat) : Int), a ≤ M) : M = lastK O xs := by
  refine hide fun z487 => ?_
  obtain ⟨g1, g2, g3⟩ := lastK_go (O := O) xs (-1)
  refine z487 ?_
  refine Int.le_antisymm ?_ ?_
  · rcases List.mem_cons.mp h1 with rfl | h1
    · exact g2
    · refine hide fun z488 => ?_
      obtain ⟨x, hx, rfl⟩ := List.mem_map.mp h1
      refine z488 ?_
      exact g3 x hx
  · unfold lastK
    rcases g1 with g1 | ⟨x, hx, g1⟩
    · rw [g1]; exact h2 _ List.mem_cons_self
    · rw [g1]; exact h2 _ (List.mem_cons_of_mem _ (List.mem_map.mpr ⟨x, hx, rfl⟩))
end
end Mine

namespace Mine
open PySem PySem.W PyProof.Rows
section
variable {C : Cfg} {A : Around} {fx : Fx} {m m' : Lo} {H H' : AH} {X : Value → Lo → AH → Prop} {Q : Value → Lo → AH → Prop}
theorem io_wk {op : Operator} {x y : Value} (hm : WkL m m') (hH : Wk H H') (h : IO C A fx op x y m' H' Q X) : IO C A fx op x y m H Q X := fun a b ha hb => aw_wk hm hH (h a b ha hb)
theorem idx_get {row : List Int} {y : Int} (h : y ∈ row) : row[row.idxOf y]? = some y := by
  have h1 := List.idxOf_lt_length_iff.mpr h
  rw [List.getElem?_eq_getElem h1, List.getElem_idxOf h1]
theorem idx_inj {row : List Int} {x y : Int} (hx : x ∈ row) (hy : y ∈ row) (e : row.idxOf x = row.idxOf y) : x = y := by
  have h1 := idx_get hx
  rw [e, idx_get hy] at h1
  exact (Option.some.inj h1).symm
theorem freeO_nd {row O : List Int} {f : Int → List Int} (h : row.Nodup) : (freeO row f O).Nodup := h.sublist List.filter_sublist
theorem keys_nd {row O : List Int} {f : Int → List Int} {cs : PT} (h : row.Nodup) (hc : cs.map (·.2) = (freeO row f O).map (keyO row f O)) : (cs.map fun p => p.2.2).Nodup := by
  have e : (cs.map fun p => p.2.2) = (freeO row f O).map fun y => ((row.idxOf y : Nat) : Int) := by
    have := congrArg (List.map Prod.snd) hc
    rw [List.map_map, List.map_map] at this
    exact this
  rw [e]
  have hn := List.nodup_iff_pairwise_ne.mp (freeO_nd (f := f) (O := O) h)
  rw [List.nodup_iff_pairwise_ne, List.pairwise_map]
  refine hn.imp_of_mem fun ha hb hne e2 => hne (idx_inj (freeO_mem ha).1 (freeO_mem hb).1 (by omega))
theorem step_of {row O : List Int} {f : Int → List Int} {cs ts : PT} (hc : cs.map (·.2) = (freeO row f O).map (keyO row f O)) (hp : ts.Perm cs) (hpw : ts.Pairwise fun p q => lexLt p.2 q.2) :
    StepTo row f O (ts.map fun p => row.getD p.2.2.toNat 0) := by
  have hg : ∀ y ∈ freeO row f O, row.getD (keyO row f O y).2.toNat 0 = y := fun y hy => by
    have := idx_get (freeO_mem hy).1
    show row.getD (((row.idxOf y : Nat) : Int)).toNat 0 = y
    rw [Int.toNat_natCast, List.getD_eq_getElem?_getD, this]; rfl
  have hk : ∀ p ∈ ts, ∃ y ∈ freeO row f O, p.2 = keyO row f O y := fun p hpm => by
    have h1 : p.2 ∈ cs.map (·.2) := List.mem_map_of_mem (hp.mem_iff.mp hpm)
    rw [hc] at h1
    refine hide fun z489 => ?_
    obtain ⟨y, hy, e⟩ := List.mem_map.mp h1
    refine z489 ?_
    exact ⟨y, hy, e.symm⟩
  constructor
  · have h1 := hp.map fun p => row.getD p.2.2.toNat 0
    have e : (cs.map fun p => row.getD p.2.2.toNat 0) = freeO row f O := by
      have h2 := congrArg (List.map fun k : Int × Int => row.getD k.2.toNat 0) hc
      rw [List.map_map, List.map_map] at h2
      refine Eq.trans h2 ?_
      exact (List.map_congr_left (g := id) fun y hy => hg y hy).trans (List.map_id _)
    rw [e] at h1
    exact h1
  · rw [List.pairwise_map]
    refine hpw.imp_of_mem fun {p q} hpm hqm hl => ?_
    refine hide fun z490 => ?_
    obtain ⟨y, hy, e1⟩ := hk p hpm
    obtain ⟨z, hz, e2⟩ := hk q hqm
    refine z490 ?_
    rw [e1, e2] at hl ⊢
    rw [hg y hy, hg z hz]
    exact hl
end
end Mine

namespace Mine
open PySem PySem.W PyProof.Rows

noncomputable def bldL (row : List Int) (f : Int → List Int) : List (Int × List Int) := (row.map fun y => (y, ([] : List Int))) ++ row.map fun y => (y, f y)
noncomputable def bldG (row : List Int) (f : Int → List Int) : G := gBuild (bldL row f)
noncomputable def wgt (l : List (Int × List Int)) : Nat := (l.map fun p => 1 + 2 * p.2.length).sum
theorem wgt_take : ∀ (l : List (Int × List Int)) (i : Nat), wgt (l.take i) ≤ wgt l
  | [], i => by rw [List.take_nil]; exact Nat.le_refl _
  | p :: r, 0 => Nat.zero_le _
  | p :: r, i + 1 => by
    have := wgt_take r i
    unfold wgt at this ⊢
    rw [List.take_succ_cons, List.map_cons, List.map_cons, List.sum_cons, List.sum_cons]
    exact Nat.add_le_add_left this _
theorem wgt_le {b : Nat} : ∀ (l : List (Int × List Int)), (∀ p ∈ l, p.2.length ≤ b) → wgt l ≤ l.length * (1 + 2 * b)
  | [], _ => Nat.zero_le _
  | p :: r, h => by
    have h1 := wgt_le r fun q hq => h q (List.mem_cons_of_mem _ hq)
    have h2 := h p List.mem_cons_self
    unfold wgt at h1 ⊢
    have e : (r.length + 1) * (1 + 2 * b) = r.length * (1 + 2 * b) + (1 + 2 * b) := by rw [Nat.add_mul, Nat.one_mul]
    rw [List.map_cons, List.sum_cons, List.length_cons, e]
    omega
theorem bld_bd {row : List Int} {f : Int → List Int} (hr : row.length ≤ 5) (hf : ∀ y ∈ row, (f y).length ≤ 6) (i : Nat) : Bd (gBuild ((bldL row f).take i)) 100 := by
  refine (Bd.build ((bldL row f).take i) (b := 0) ⟨Nat.le_refl _, fun p hp => by cases hp⟩).mono ?_
  rw [Nat.zero_add]
  refine Nat.le_trans (wgt_take (bldL row f) i) ?_
  have e : wgt (bldL row f) = wgt (row.map fun y => (y, ([] : List Int))) + wgt (row.map fun y => (y, f y)) := by unfold wgt bldL; rw [List.map_append, List.sum_append]
  have h1 := wgt_le (b := 0) (row.map fun y => (y, ([] : List Int))) fun p hp => by obtain ⟨y, _, rfl⟩ := List.mem_map.mp hp; exact Nat.le_refl _
  have h2 := wgt_le (b := 6) (row.map fun y => (y, f y)) fun p hp => by obtain ⟨y, hy, rfl⟩ := List.mem_map.mp hp; exact hf y hy
  rw [List.length_map] at h1 h2
  rw [e]
  omega
theorem bld_bdG {row : List Int} {f : Int → List Int} (hr : row.length ≤ 5) (hf : ∀ y ∈ row, (f y).length ≤ 6) : Bd (bldG row f) 100 := by
  have := bld_bd hr hf (bldL row f).length
  rwa [List.take_length] at this
end Mine

namespace Mine
open PySem PySem.W PyProof.Rows

section
variable {g : G} {k x : Int} {row : List Int} {f : Int → List Int}
theorem ens_list_in (h : k ∈ nodes g) : nodes (gEns g k) = nodes g := by unfold gEns; rw [if_pos (show k ∈ g.map (·.1) from h)]
theorem ens_list_out (h : k ∉ nodes g) : nodes (gEns g k) = nodes g ++ [k] := by
  unfold gEns
  rw [if_neg (show k ∉ g.map (·.1) from h)]
  unfold nodes
  rw [List.map_append]; rfl
theorem pred_list {p : Int} (h : p ∈ nodes g) : nodes (gPred k g p) = nodes g := by
  unfold gPred
  rw [show nodes (gSu (gEns g p) p k) = nodes (gEns g p) from upd_nodes, ens_list_in h]
theorem preds_list : ∀ {ps : List Int} {g : G}, (∀ p ∈ ps, p ∈ nodes g) → nodes (ps.foldl (gPred k) g) = nodes g
  | [], _, _ => rfl
  | p :: r, g, h => by
    have hp := pred_list (k := k) (h p List.mem_cons_self)
    rw [List.foldl_cons, preds_list fun q hq => by rw [hp]; exact h q (List.mem_cons_of_mem _ hq), hp]
theorem add_list {ps : List Int} (h : ∀ p ∈ ps, p ∈ nodes (gEns g k)) : nodes (gAdd g k ps) = nodes (gEns g k) := by
  unfold gAdd
  have hnn : nodes (gNp (gEns g k) k ps.length) = nodes (gEns g k) := upd_nodes
  rw [preds_list fun p hp => by rw [hnn]; exact h p hp, hnn]
noncomputable abbrev addP (g : G) (p : Int × List Int) : G := gAdd g p.1 p.2
theorem first_list : ∀ (row : List Int) (g : G), row.Nodup → (∀ y ∈ row, y ∉ nodes g) → nodes ((row.map fun y => (y, ([] : List Int))).foldl addP g) = nodes g ++ row
  | [], g, _, _ => by simp
  | y :: r, g, hn, hd => by
    obtain ⟨h1, h2⟩ := List.nodup_cons.mp hn
    have e : nodes (addP g (y, [])) = nodes g ++ [y] := (add_list fun p hp => by cases hp).trans (ens_list_out (hd y List.mem_cons_self))
    rw [List.map_cons, List.foldl_cons, first_list r _ h2 fun z hz => by
      rw [e, List.mem_append, List.mem_singleton, not_or]
      exact ⟨hd z (List.mem_cons_of_mem _ hz), fun q => h1 (q ▸ hz)⟩, e, List.append_assoc]
    rfl
theorem second_list : ∀ (l : List (Int × List Int)) (g : G), (∀ p ∈ l, p.1 ∈ nodes g ∧ ∀ x ∈ p.2, x ∈ nodes g) → nodes (l.foldl addP g) = nodes g
  | [], _, _ => rfl
  | p :: r, g, h => by
    obtain ⟨h1, h2⟩ := h p List.mem_cons_self
    have e : nodes (addP g p) = nodes g := (add_list fun q hq => by rw [ens_list_in h1]; exact h2 q hq).trans (ens_list_in h1)
    rw [List.foldl_cons, second_list r _ fun q hq => by rw [e]; exact h q (List.mem_cons_of_mem _ hq), e]
theorem bld_nodes (hn : row.Nodup) (hcl : ∀ y ∈ row, ∀ x ∈ f y, x ∈ row) : nodes (bldG row f) = row := by
  unfold bldG gBuild bldL
  rw [List.foldl_append]
  have e := first_list row [] hn fun y _ h => by cases h
  have e : nodes ((row.map fun y => (y, ([] : List Int))).foldl addP []) = row := e
  refine (second_list _ _ fun p hp => ?_).trans e
  refine hide fun z491 => ?_
  obtain ⟨y, hy, rfl⟩ := List.mem_map.mp hp
  refine z491 ?_
  rw [e]
  exact ⟨hy, hcl y hy⟩

theorem pred_suc {p : Int} (hn : (nodes g).Nodup) : gSuc (gPred k g p) x = gSuc g x ++ List.replicate (if x = p then 1 else 0) k := by
  unfold gPred
  rw [su_suc (ens_nodes.mpr (.inr rfl)) (ens_nd hn), ens_suc, ens_suc]
  by_cases h : x = p
  · subst h; rw [if_pos rfl, if_pos rfl]; rfl
  · rw [if_neg h, if_neg h]; simp
theorem preds_suc : ∀ {ps : List Int} {g : G}, (nodes g).Nodup → gSuc (ps.foldl (gPred k) g) x = gSuc g x ++ List.replicate (ps.count x) k
  | [], g, hn => by simp
  | p :: r, g, hn => by
    rw [List.foldl_cons, preds_suc (pred_nd hn), pred_suc hn, List.append_assoc, List.replicate_append_replicate, List.count_cons]
    congr 2
    by_cases h : x = p
    · subst h; simp; omega
    · have h' : ¬ p = x := fun q => h q.symm
      simp [h, h']
theorem add_suc {ps : List Int} (hn : (nodes g).Nodup) : gSuc (gAdd g k ps) x = gSuc g x ++ List.replicate (ps.count x) k := by
  unfold gAdd
  have hnn : nodes (gNp (gEns g k) k ps.length) = nodes (gEns g k) := upd_nodes
  rw [preds_suc (by rw [hnn]; exact ens_nd hn), np_suc, ens_suc]
theorem adds_suc : ∀ (l : List (Int × List Int)) (g : G), WG g → gSuc (l.foldl addP g) x = gSuc g x ++ l.flatMap fun p => List.replicate (p.2.count x) p.1
  | [], g, _ => by simp
  | p :: r, g, W => by
    rw [List.foldl_cons, adds_suc r _ W.add, add_suc W.nd, List.append_assoc]; rfl
theorem bld_suc : gSuc (bldG row f) x = row.flatMap fun y => List.replicate ((f y).count x) y := by
  unfold bldG gBuild
  have h := adds_suc (x := x) (bldL row f) [] WG.nil
  refine h.trans ?_
  show [] ++ _ = _
  rw [List.nil_append]
  unfold bldL
  rw [List.flatMap_append, List.flatMap_map, List.flatMap_map]
  have e : (row.flatMap fun y => List.replicate ((([] : List Int)).count x) y) = [] := by
    rw [List.flatMap_eq_nil_iff]; intro y _; simp
  exact (congrArg (· ++ _) e).trans (List.nil_append _)
theorem bld_W : WG (bldG row f) := build_W _
theorem bld_edge {y : Int} : y ∈ gSuc (bldG row f) x ↔ y ∈ row ∧ x ∈ f y := by
  rw [bld_suc, List.mem_flatMap]
  constructor
  · intro hY0
    refine hide fun z492 => ?_
    obtain ⟨z, hz, h⟩ := hY0
    refine z492 ?_
    obtain ⟨h1, rfl⟩ := List.mem_replicate.mp h
    exact ⟨hz, List.count_pos_iff.mp (Nat.pos_of_ne_zero h1)⟩
  · rintro ⟨h1, h2⟩
    exact ⟨y, h1, List.mem_replicate.mpr ⟨Nat.ne_of_gt (List.count_pos_iff.mpr h2), rfl⟩⟩
theorem row_idx (hn : row.Nodup) : row.Pairwise fun a b => row.idxOf a < row.idxOf b := by
  rw [List.pairwise_iff_getElem]
  intro i j hi hj hij
  rw [hn.idxOf_getElem i hi, hn.idxOf_getElem j hj]
  exact hij
theorem suc_idx (hn : row.Nodup) : (gSuc (bldG row f) x).Pairwise fun a b => row.idxOf a ≤ row.idxOf b := by
  rw [bld_suc, List.pairwise_flatMap]
  refine ⟨fun a _ => ?_, (row_idx hn).imp fun h => ?_⟩
  · exact List.pairwise_replicate.mpr (.inr (Nat.le_refl _))
  · rename_i a b
    intro u hu v hv
    rw [(List.mem_replicate.mp hu).2, (List.mem_replicate.mp hv).2]
    exact Nat.le_of_lt h
theorem decs_sub : ∀ (su : List Int) (st : G × List Int), ∃ new, (su.foldl gDec st).2 = st.2 ++ new ∧ new.Sublist su
  | [], st => ⟨[], by simp, List.Sublist.refl _⟩
  | s :: r, st => by
    refine hide fun z493 => ?_
    obtain ⟨new, h1, h2⟩ := decs_sub r (gDec st s)
    refine z493 ?_
    rw [List.foldl_cons, h1]
    have e : (gDec st s).2 = st.2 ++ [s] ∨ (gDec st s).2 = st.2 := by
      unfold gDec
      dsimp only
      split
      · exact .inl rfl
      · exact .inr rfl
    rcases e with e | e
    · exact ⟨s :: new, by rw [e, List.append_assoc]; rfl, h2.cons_cons s⟩
    · exact ⟨new, by rw [e], h2.cons s⟩
end
end Mine

namespace Mine
open PySem PySem.W PyProof.Rows

section
variable {row : List Int} {f : Int → List Int} {D O L xs : List Int} {g : G} {x y : Int}
noncomputable def Kd (row : List Int) (f : Int → List Int) (D L : List Int) : Prop := L.Pairwise fun a b => lexLt (keyO row f D a) (keyO row f D b)
theorem rd_needs (h : Rnd (bldG row f) D O L g) (hnd : (nodes (bldG row f)).Nodup) (hy : y ∈ L) (hyr : y ∈ row) : ∀ x ∈ f y, x ∈ D := fun x hx =>
  (cnt_zero hnd).mp ((h.rd y).mp hy).2.2 x (bld_edge.mpr ⟨hyr, hx⟩)
theorem lastK_lt {M : Int} (h : ∀ x ∈ xs, ((D.idxOf x : Nat) : Int) < M) (h0 : -1 < M) : lastK D xs < M := by
  refine hide fun z494 => ?_
  obtain ⟨h1, _, _⟩ := lastK_go (O := D) xs (-1)
  refine z494 ?_
  unfold lastK
  rcases h1 with h1 | ⟨x, hx, h1⟩
  · rw [h1]; exact h0
  · rw [h1]; exact h x hx
theorem lastK_ge (h : x ∈ xs) : ((D.idxOf x : Nat) : Int) ≤ lastK D xs := (lastK_go (O := D) xs (-1)).2.2 x h
theorem lastK_congr {D' : List Int} (h : ∀ x ∈ xs, D.idxOf x = D'.idxOf x) : lastK D xs = lastK D' xs := by
  unfold lastK
  have : ∀ (xs : List Int) (M : Int), (∀ x ∈ xs, D.idxOf x = D'.idxOf x) → xs.foldl (mxS D) M = xs.foldl (mxS D') M := by
    intro xs
    induction xs with
    | nil => intro M _; rfl
    | cons x r ih =>
      intro M h
      rw [List.foldl_cons, List.foldl_cons, show mxS D M x = mxS D' M x from by unfold mxS; rw [h x List.mem_cons_self]]
      exact ih _ fun z hz => h z (List.mem_cons_of_mem _ hz)
  exact this xs _ h
theorem idx_app_in {E : List Int} (h : x ∈ D) : (D ++ E).idxOf x = D.idxOf x := by rw [List.idxOf_append, if_pos h]
theorem idx_app_last (h : x ∉ D) : (D ++ [x]).idxOf x = D.length := by
  rw [List.idxOf_append, if_neg h]; simp
theorem key_app {E : List Int} (h : ∀ x ∈ f y, x ∈ D) : keyO row f (D ++ E) y = keyO row f D y := by
  unfold keyO
  rw [lastK_congr fun x hx => idx_app_in (h x hx)]
theorem done1_kd (hn : row.Nodup) (hnl : nodes (bldG row f) = row) (h : Rnd (bldG row f) D O L g) (hx : x ∉ D) (hxO : x ∈ O) (hk : Kd row f D L) : Kd row f (D ++ [x]) (gDone1 (g, L) x).2 := by
  have hnd : (nodes (bldG row f)).Nodup := by rw [hnl]; exact hn
  have h1 := h.done1 bld_W hx hxO
  have hLr : ∀ y ∈ (gDone1 (g, L) x).2, y ∈ row := fun y hy => by have := ((h1.rd y).mp hy).1; rwa [hnl] at this
  have hL0 : ∀ y ∈ L, y ∈ row := fun y hy => by have := ((h.rd y).mp hy).1; rwa [hnl] at this
  refine hide fun z495 => ?_
  obtain ⟨new, e, hs⟩ := decs_sub (((gAt g x).map (·.2)).getD []) (gSet (-2) g x, L)
  refine z495 ?_
  have e : (gDone1 (g, L) x).2 = L ++ new := e
  have hsu : ((gAt g x).map (·.2)).getD [] = gSuc (bldG row f) x := by
    show gSuc g x = _
    rw [h.eq, with_suc]
  rw [hsu] at hs
  have hnd1 := h1.nd
  rw [e] at hnd1 hLr ⊢
  have hneed : ∀ y ∈ L ++ new, ∀ z ∈ f y, z ∈ D ++ [x] := fun y hy => rd_needs h1 hnd (e ▸ hy) (hLr y hy)
  have hnew : ∀ y ∈ new, lastK (D ++ [x]) (f y) = (D.length : Int) := fun y hy => by
    have hyx : x ∈ f y := (bld_edge.mp (hs.subset hy)).2
    refine Int.le_antisymm (Int.lt_add_one_iff.mp (lastK_lt (fun z hz => ?_) (by omega))) ?_
    · rcases List.mem_append.mp (hneed y (List.mem_append_right _ hy) z hz) with hz | hz
      · rw [idx_app_in hz]
        have := List.idxOf_lt_length_iff.mpr hz
        omega
      · rw [List.mem_singleton.mp hz, idx_app_last hx]; omega
    · have := lastK_ge (D := D ++ [x]) hyx
      rwa [idx_app_last hx] at this
  unfold Kd
  rw [List.pairwise_append]
  refine ⟨?_, ?_, fun a ha b hb => .inl ?_⟩
  · refine List.Pairwise.imp_of_mem (fun {a b} ha hb hl => ?_) hk
    rw [key_app (rd_needs h hnd ha (hL0 a ha)), key_app (rd_needs h hnd hb (hL0 b hb))]
    exact hl
  · have h2 := (suc_idx (f := f) (x := x) hn).sublist hs
    have h3 := List.nodup_iff_pairwise_ne.mp (List.nodup_append.mp hnd1).2.1
    refine List.Pairwise.imp_of_mem (fun {a b} ha hb hl => ?_) (h2.and h3)
    refine .inr ⟨?_, ?_⟩
    · show lastK _ _ = lastK _ _
      rw [hnew a ha, hnew b hb]
    · show ((row.idxOf a : Nat) : Int) < (row.idxOf b : Nat)
      have hne : row.idxOf a ≠ row.idxOf b := fun q => hl.2 (idx_inj (hLr a (List.mem_append_right _ ha)) (hLr b (List.mem_append_right _ hb)) q)
      have := hl.1
      omega
  · show lastK (D ++ [x]) (f a) < lastK (D ++ [x]) (f b)
    rw [hnew b hb]
    refine lastK_lt (fun z hz => ?_) (by omega)
    have hzD := rd_needs h hnd ha (hL0 a ha) z hz
    rw [idx_app_in hzD]
    have := List.idxOf_lt_length_iff.mpr hzD
    omega
theorem done_kd (hn : row.Nodup) (hnl : nodes (bldG row f) = row) : ∀ (xs : List Int) {g : G} {D L : List Int}, Rnd (bldG row f) D O L g → xs.Nodup → (∀ x ∈ xs, x ∈ O ∧ x ∉ D) → Kd row f D L → Kd row f (D ++ xs) (gDone (g, L) xs).2
  | [], g, D, L, h, _, _, hk => by rw [List.append_nil]; exact hk
  | x :: r, g, D, L, h, hnx, hx, hk => by
    have hn' := List.nodup_cons.mp hnx
    have h1 := h.done1 bld_W (hx x List.mem_cons_self).2 (hx x List.mem_cons_self).1
    have k1 := done1_kd hn hnl h (hx x List.mem_cons_self).2 (hx x List.mem_cons_self).1 hk
    have h2 := done_kd hn hnl r h1 hn'.2 (fun y hy => ⟨(hx y (List.mem_cons_of_mem _ hy)).1, fun hm => by
      rcases List.mem_append.mp hm with hm | hm
      · exact (hx y (List.mem_cons_of_mem _ hy)).2 hm
      · rw [List.mem_singleton.mp hm] at hy; exact hn'.1 hy⟩) k1
    rw [List.append_assoc] at h2
    exact h2
theorem free_kd (hn : row.Nodup) (hnl : nodes (bldG row f) = row) : Kd row f [] (gFree (bldG row f)) := by
  have hnd : (nodes (bldG row f)).Nodup := by rw [hnl]; exact hn
  have hs : (gFree (bldG row f)).Sublist row := by
    have : (gFree (bldG row f)).Sublist (nodes (bldG row f)) := (List.filter_sublist).map _
    rwa [hnl] at this
  have h0 := Rnd.init (bld_W (row := row) (f := f))
  refine List.Pairwise.imp_of_mem (fun {a b} ha hb hl => .inr ⟨?_, ?_⟩) ((row_idx hn).sublist hs)
  · have hz : ∀ y ∈ gFree (bldG row f), f y = [] := fun y hy => by
      refine List.eq_nil_iff_forall_not_mem.mpr fun z hz => ?_
      cases rd_needs h0 hnd hy (hs.subset hy) z hz
    show lastK [] (f a) = lastK [] (f b)
    rw [hz a ha, hz b hb]
  · show ((row.idxOf a : Nat) : Int) < (row.idxOf b : Nat)
    omega
end
end Mine

namespace Mine
open PySem PySem.W PyProof.Rows
open Sem (wp)

section
variable {C : Cfg} {A : Around} {fx : Fx} {m : Lo} {H : AH} {X : Value → Lo → AH → Prop} {Q : Value → Lo → AH → Prop} {I t : Addr} {xs : List Value} {i : Nat} {v : Value}
theorem call_iter_t (ht : (t, AO.tup xs) ∈ H) (h : ∀ I, I ∉ H.keys → Q (.ref I) m ((I, tuIt (.ref t) 0) :: H)) : CALL C A fx (.builtin "iter") [.ref t] m H Q X := fun g vs hg hvs => by
  obtain rfl := er_eq_builtin hg
  refine hide fun z496 => ?_
  obtain ⟨a, rfl, ha⟩ := er1 hvs
  refine z496 ?_
  obtain rfl := er_eq_ref ha
  intro s S
  refine PySem.Calls.call_function_entry (by decide +kernel) (by decide +kernel) kdk_entry_iter (kdk_args_iter _) ?_
  unfold Builtin.«iter»
  refine wpAny_bind (m := someArgs "iter" 1 2 _) (wpAny_of_eq (a := [Value.ref t]) (by first | rfl | kernel_rfl!) ?_)
  show wpAny _ _ (pyIter (.ref t) >>= _) _ _ _
  refine wpAny_bind (wpAny_mono (aw_iter_tup (X := X) (Q := fun v m' H' => m' = m ∧ ∃ I, I ∉ H.keys ∧ v = .ref I ∧ H' = (I, tuIt (.ref t) 0) :: H) ht (fun I hI => ⟨rfl, I, hI, rfl, rfl⟩) s (S.inA rfl)) (fun v s' h' => ?_) fun _ _ z => ?_)
  rotate_left
  · refine hide fun z497 => ?_
    obtain ⟨m', H', S', E', q⟩ := z
    refine z497 ?_
    exact ⟨m', H', S'.inA rfl, E'.inA rfl, q⟩
  refine hide fun z498 => ?_
  obtain ⟨m', H', S', E', rfl, I, hI, rfl, rfl⟩ := h'
  refine z498 ?_
  exact wpAny_pure ⟨_, rfl, _, _, S'.inA rfl, E'.inA rfl, h I hI⟩
theorem next_coreT (hI : (I, tuIt (.ref t) i) ∈ H) (h : AW C A.in1 fx (callSpecial? (.ref I) "__next__") m H (fun r m' H' => ∃ w, r = some w ∧ Q (er w) m' H') X) : CALL C A fx (.builtin "next") [.ref I] m H Q X := fun g vs hg hvs => by
  obtain rfl := er_eq_builtin hg
  refine hide fun z499 => ?_
  obtain ⟨a, rfl, ha⟩ := er1 hvs
  refine z499 ?_
  obtain rfl := er_eq_ref ha
  intro s S
  refine hide fun z500 => ?_
  obtain ⟨o, r, q, ho, hc, h1, h2, hd, er1, er2⟩ := flds2 S hI
  refine z500 ?_
  have hT : s.TypeIs (.ref I) "tuple_iterator" := ⟨o, ho, hc⟩
  refine PySem.Calls.call_function_entry (by decide +kernel) (by decide +kernel) kdk_entry_next (kdk_args_next _) ?_
  unfold Builtin.«next»
  refine wpAny_bind (m := someArgs "next" 1 2 _) (wpAny_of_eq (a := [Value.ref I]) (by first | rfl | kernel_rfl!) ?_)
  dsimp only
  refine wpAny_bind (wpAny_specialOf (name := Str.ofString "__next__") hT PySem.F.slot_tuple_iterator_next.lookup ?_)
  refine wpAny_ite_split (fun hab => absurd hab (by decide)) (fun _ => ?_)
  refine wpAny_bind (wpAny_mono (h s (S.inA rfl)) (fun r s' h' => ?_) fun v s' h' => ?_)
  · refine hide fun z501 => ?_
    obtain ⟨m', H', S', E', w, rfl, q⟩ := h'
    refine z501 ?_
    exact wpAny_pure ⟨_, rfl, m', H', S'.inA rfl, E'.inA rfl, q⟩
  · refine hide fun z502 => ?_
    obtain ⟨m', H', S', E', q⟩ := h'
    refine z502 ?_
    exact ⟨m', H', S'.inA rfl, E'.inA rfl, q⟩
theorem call_next_t (hI : (I, tuIt (.ref t) i) ∈ H) (ht : (t, AO.tup xs) ∈ H) (hx : xs[i]? = some v) (h : Q v m (H.put I (tuIt (.ref t) (i + 1)))) : CALL C A fx (.builtin "next") [.ref I] m H Q X :=
  next_coreT hI (ti_item hI ht hx fun r hr => ⟨r, rfl, by rw [hr]; exact h⟩)
end

noncomputable def rndH (g : G) (held : List Int) : Nat → (List Int × List Int) × (List Int × G)
  | 0 => (([], []), (gFree g, g))
  | k + 1 => (((rndH g held k).1.1 ++ (rndH g held k).2.1.filter fun x => decide (x ∉ held), (rndH g held k).1.2 ++ (rndH g held k).2.1),
      ((gDone ((rndH g held k).2.1.foldl (gSet (-1)) (rndH g held k).2.2, []) ((rndH g held k).2.1.filter fun x => decide (x ∉ held))).2, (gDone ((rndH g held k).2.1.foldl (gSet (-1)) (rndH g held k).2.2, []) ((rndH g held k).2.1.filter fun x => decide (x ∉ held))).1))
theorem rndH_xs {g g' : G} {D O L held : List Int} (h : Rnd g D O L g') : (L.filter fun x => decide (x ∉ held)).Nodup ∧ ∀ x ∈ L.filter fun x => decide (x ∉ held), x ∈ O ++ L ∧ x ∉ D :=
  ⟨h.nd.sublist List.filter_sublist, fun x hx => by
    have hL := (List.mem_filter.mp hx).1
    exact ⟨List.mem_append_right _ hL, fun hD => ((h.rd x).mp hL).2.1 (h.sub x hD)⟩⟩
theorem rndH_rnd {g : G} {held : List Int} (W : WG g) : ∀ k, Rnd g (rndH g held k).1.1 (rndH g held k).1.2 (rndH g held k).2.1 (rndH g held k).2.2
  | 0 => Rnd.init W
  | k + 1 => by
    have h := rndH_rnd (held := held) W k
    obtain ⟨h1, h2⟩ := rndH_xs (held := held) h
    exact Rnd.done W _ (h.get W) h1 h2
theorem rndH_kd {row : List Int} {f : Int → List Int} {held : List Int} (hn : row.Nodup) (hnl : nodes (bldG row f) = row) : ∀ k, Kd row f (rndH (bldG row f) held k).1.1 (rndH (bldG row f) held k).2.1
  | 0 => free_kd hn hnl
  | k + 1 => by
    have h := rndH_rnd (held := held) (bld_W (row := row) (f := f)) k
    obtain ⟨h1, h2⟩ := rndH_xs (held := held) h
    exact done_kd hn hnl _ (h.get bld_W) h1 h2 List.Pairwise.nil
theorem rndH_nil (g : G) : ∀ k, (rndH g [] k).1.1 = (rndN g k).1 ∧ (rndH g [] k).1.2 = (rndN g k).1 ∧ (rndH g [] k).2 = (rndN g k).2
  | 0 => ⟨rfl, rfl, rfl⟩
  | k + 1 => by
    refine hide fun z503 => ?_
    obtain ⟨h1, h2, h3⟩ := rndH_nil g k
    refine z503 ?_
    have e : ((rndH g [] k).2.1.filter fun x => decide (x ∉ ([] : List Int))) = (rndN g k).2.1 := by
      rw [h3]; exact List.filter_eq_self.mpr fun x _ => by simp
    refine ⟨?_, ?_, ?_⟩
    · show (rndH g [] k).1.1 ++ _ = _; rw [e, h1]; rfl
    · show (rndH g [] k).1.2 ++ (rndH g [] k).2.1 = _; rw [h2, h3]; rfl
    · show ((gDone _ _).2, (gDone _ _).1) = _
      rw [e, h3]; rfl
end Mine

namespace Mine
open PySem PySem.W PyProof.Rows
open Sem (wp)
section
variable {C : Cfg} {A : Around} {fx : Fx} {m : Lo} {H : AH} {X : Value → Lo → AH → Prop} {Q : Value → Lo → AH → Prop} {I t e : Addr} {xs : List Value} {i : Nat} {v T : Value} {s : Shared}
theorem St.exc (S : St C A fx m ((e, stopF T) :: H) s) : St C A fx m ((e, .exc (.type "StopIteration") .none) :: H) s ∧ Ext A fx ((e, stopF T) :: H) s ((e, .exc (.type "StopIteration") .none) :: H) s := by
  refine S.upd (fun b o e _ => .of_keep e) (fun p hp => ?_) (fun b hb => .inl hb) S.nodup S.gens rfl (S.gst.of fun p hp => ?_)
  · rcases List.mem_cons.mp hp with rfl | hp
    · refine hide fun z504 => ?_
      obtain ⟨o, ho, hc, _, ws, hd, hw⟩ := S.get List.mem_cons_self
      obtain ⟨a, e1, _⟩ := er_get (k := 0) hw rfl
      obtain ⟨b, e2, e3⟩ := er_get (k := 1) hw rfl
      refine z504 ?_
      exact ⟨o, ho, hc, ws, a, hd, e1, by rw [e2, er_eq_none e3]⟩
    · exact S.cells p (List.mem_cons_of_mem _ hp)
  · rcases List.mem_cons.mp hp with rfl | hp
    · exact .inr rfl
    · exact .inl (List.mem_cons_of_mem _ hp)
theorem call_next_end_t (hA : A.handled = none) (hI : (I, tuIt (.ref t) i) ∈ H) (ht : (t, AO.tup xs) ∈ H) (hx : xs[i]? = none)
    (h : ∀ e, e ∉ H.keys → X (.ref e) m ((e, .exc (.type "StopIteration") .none) :: H.put I (tuIt .none i))) : CALL C A fx (.builtin "next") [.ref I] m H Q X := by
  refine next_coreT hI fun s S => ?_
  refine wpAny_mono (ti_end (A := A.in1) (X := fun v m' H' => m' = m ∧ ∃ e T, e ∉ H.keys ∧ v = .ref e ∧ H' = (e, stopF T) :: H.put I (tuIt .none i)) (Q := fun _ _ _ => False) hA hI ht hx (fun e T he => ⟨rfl, e, T, he, rfl, rfl⟩) s S) (fun _ s' h' => ?_) fun v s' h' => ?_
  · obtain ⟨_, _, _, _, z⟩ := h'; exact z.elim
  · refine hide fun z505 => ?_
    obtain ⟨m', H', S', E', rfl, e, T, he, rfl, rfl⟩ := h'
    obtain ⟨S₂, E₂⟩ := S'.exc
    refine z505 ?_
    exact ⟨_, _, S₂, E'.trans E₂, h e he⟩
end
end Mine

namespace Mine
open PySem PySem.W PyProof.Rows
open Sem (wp)
section
variable {C : Cfg} {A : Around} {fx : Fx} {m : Lo} {H : AH} {X : Value → Lo → AH → Prop}
variable {f : Addr} {name qual : PySem.Str} {params : Arguments} {body : List Stmt} {scope : Scope} {dV kV doc pm cdv ct : Value} {an : Option Addr} {n : Nat} {Q : Value → Lo → AH → Prop}
theorem call3x (R : Room A (n + 1)) (F : FnAt C f (fnOf name qual params body scope dV kV doc pm an cdv ct) body) {x y z : Value} (n1 n2 n3 : PySem.Str)
    (hb : ∀ a b c, bindArgs (fnOf name qual params body scope dV kV doc pm an cdv ct) ⟨[a, b, c], []⟩ = pure [(n1, a), (n2, b), (n3, c)]) (hB : namesB scope [n1, n2, n3] = true)
    (h : ∀ A' fx', Room A' n → Here A' fx' → Sc fx' scope scope.names → EXS C A' fx' body [(n1, x), (n2, y), (n3, z)] H (fun fl _ H₂ => Q (retV fl) m H₂) (leaveX fx'.env.locals X m)) : CALLC C A fx (.ref f) [x, y, z] m H Q X :=
  callX R F fun vs hvs => by
    refine hide fun z506 => ?_
    obtain ⟨a, b, c, rfl, ha, hb', hc⟩ := er3 hvs
    refine z506 ?_
    subst ha hb' hc
    exact aw_binds (hb a b c) ⟨bindOk_of hB, h⟩
theorem wk_ext {S R : AH} {a b : Addr × AO} : Wk (S ++ a :: b :: R) (b :: a :: (S ++ R)) := Wk.perm ((List.perm_middle.trans (List.perm_middle.cons a)).trans (List.Perm.swap b a _))
theorem wk_back2 {S R : AH} {a b : Addr × AO} : Wk (b :: a :: (S ++ R)) (S ++ b :: a :: R) := Wk.perm ((List.perm_middle.trans (List.perm_middle.cons b)).symm)
theorem call_ext {fx : Fx} {l b : Addr} {xs ys : List Value} {S R : AH} (hz : xs.length + ys.length ≤ 1000000) (h : Q .none m (S ++ (l, .list (xs ++ ys)) :: (b, .tup ys) :: R)) : CALL C A fx (.builtin "list.extend") [.ref l, .ref b] m (S ++ (b, .tup ys) :: (l, .list xs) :: R) Q X := fun g vs hg hvs =>
  aw_wk WkL.refl wk_ext (aw_nodup fun hnd => aw_wkp (aw_mono ((call_extend_tup (Q := fun v m' H' => v = .none ∧ m' = m ∧ H' = (l, .list (xs ++ ys)) :: (b, .tup ys) :: (S ++ R)) (X := X) List.mem_cons_self (List.mem_cons_of_mem _ List.mem_cons_self) hz ⟨rfl, rfl, put_head (List.nodup_cons.mp hnd).1⟩) g vs hg hvs)
    (fun v m' H' q => by refine hide fun z507 => ?_; obtain ⟨q1, rfl, rfl⟩ := q; refine z507 ?_; exact ⟨_, _, WkL.refl, wk_back2, by rw [q1]; exact h⟩) fun v m' H' z => ⟨_, _, WkL.refl, Wk.refl, z⟩))
theorem ex_post {fx : Fx} {st : Stmt} {QF : Flow → Lo → AH → Prop} (P : Lo → AH → Prop) (h1 : EX C A fx st m H (fun f m' H' => f = .next ∧ P m' H') X) (h2 : ∀ m' H', P m' H' → QF .next m' H') : EX C A fx st m H QF X :=
  aw_mono h1 (fun f m' H' q => by rw [q.1]; exact h2 m' H' q.2) fun _ _ _ z => z
theorem rndH_ond {g : G} {held : List Int} (W : WG g) : ∀ k, (rndH g held k).1.2.Nodup
  | 0 => List.nodup_nil
  | k + 1 => by
    have h := rndH_rnd (held := held) W k
    refine List.nodup_append.mpr ⟨rndH_ond W k, h.nd, fun a ha b hb e => ?_⟩
    subst e
    exact ((h.rd a).mp hb).2.1 ha
end
end Mine

namespace Mine
open PySem PySem.W PyProof.Rows

theorem lex_asym {a b : Int × Int} (h : lexLt a b) : ¬ lexLt b a := by
  unfold lexLt at *
  omega
theorem pw_uniq {α : Type} {R : α → α → Prop} (as : ∀ a b, R a b → ¬ R b a) : ∀ {l l' : List α}, l.Perm l' → l.Pairwise R → l'.Pairwise R → l = l'
  | [], l', hp, _, _ => (List.Perm.nil_eq hp)
  | a :: r, [], hp, _, _ => absurd hp.length_eq (by simp)
  | a :: r, b :: q, hp, h1, h2 => by
    refine hide fun z508 => ?_
    obtain ⟨h3, h4⟩ := List.pairwise_cons.mp h1
    obtain ⟨h5, h6⟩ := List.pairwise_cons.mp h2
    refine z508 ?_
    have e : a = b := by
      rcases List.mem_cons.mp (hp.mem_iff.mp List.mem_cons_self) with e | ha
      · exact e
      · rcases List.mem_cons.mp (hp.mem_iff.mpr List.mem_cons_self) with e | hb
        · exact e.symm
        · exact absurd (h3 b hb) (as _ _ (h5 a ha))
    subst e
    rw [pw_uniq as (List.perm_cons a |>.mp hp) h4 h6]
section
variable {row O E E' : List Int} {f : Int → List Int} {k : Nat}
theorem step_uniq (h : StepTo row f O E) (h' : StepTo row f O E') : E = E' := pw_uniq (fun _ _ => lex_asym) (h.1.trans h'.1.symm) h.2 h'.2
theorem ord_uniq : ∀ {k : Nat} {O O' : List Int}, OrdN row f k O → OrdN row f k O' → O = O'
  | 0, O, O', h, h' => by
    have h : O = [] := h
    have h' : O' = [] := h'
    rw [h, h']
  | k + 1, O, O', ⟨P, E, h1, h2, e⟩, ⟨P', E', h1', h2', e'⟩ => by
    obtain rfl := ord_uniq h1 h1'
    obtain rfl := step_uniq h2 h2'
    rw [e, e']
end
end Mine

namespace Mine
open PySem PySem.W PyProof.Rows

section
variable {D : List Int} {p : Int → Bool} {x y : Int} {xs ys : List Int}
theorem idx_filter_lt : ∀ {D : List Int}, x ∈ D → y ∈ D → p x = true → p y = true → ((D.filter p).idxOf x < (D.filter p).idxOf y ↔ D.idxOf x < D.idxOf y)
  | [], h, _, _, _ => by cases h
  | a :: r, hx, hy, px, py => by
    by_cases pa : p a = true
    · rw [List.filter_cons_of_pos pa, List.idxOf_cons, List.idxOf_cons, List.idxOf_cons, List.idxOf_cons]
      by_cases ex : a = x
      · subst ex
        by_cases ey : a = y
        · subst ey; simp
        · simp [beq_eq_false_iff_ne.mpr ey]
      · by_cases ey : a = y
        · subst ey; simp [beq_eq_false_iff_ne.mpr ex]
        · have hx' : x ∈ r := (List.mem_cons.mp hx).resolve_left fun q => ex q.symm
          have hy' : y ∈ r := (List.mem_cons.mp hy).resolve_left fun q => ey q.symm
          have ih := idx_filter_lt hx' hy' px py
          simp only [beq_eq_false_iff_ne.mpr ex, beq_eq_false_iff_ne.mpr ey, cond_false]
          omega
    · have ex : a ≠ x := fun q => pa (q ▸ px)
      have ey : a ≠ y := fun q => pa (q ▸ py)
      have hx' : x ∈ r := (List.mem_cons.mp hx).resolve_left fun q => ex q.symm
      have hy' : y ∈ r := (List.mem_cons.mp hy).resolve_left fun q => ey q.symm
      have ih := idx_filter_lt hx' hy' px py
      rw [List.filter_cons_of_neg pa, List.idxOf_cons, List.idxOf_cons]
      simp only [beq_eq_false_iff_ne.mpr ex, beq_eq_false_iff_ne.mpr ey, cond_false]
      omega
theorem lastK_lt_iff : lastK D xs < lastK D ys ↔ ∃ y ∈ ys, ∀ x ∈ xs, D.idxOf x < D.idxOf y := by
  constructor
  · intro h
    refine hide fun z509 => ?_
    obtain ⟨h1, h2, _⟩ := lastK_go (O := D) ys (-1)
    obtain ⟨_, g2, g3⟩ := lastK_go (O := D) xs (-1)
    refine z509 ?_
    unfold lastK at h
    rcases h1 with h1 | ⟨y, hy, h1⟩
    · rw [h1] at h; exact absurd g2 (Int.not_le.mpr h)
    · refine ⟨y, hy, fun x hx => ?_⟩
      have := g3 x hx
      rw [h1] at h
      omega
  · intro hY0
    refine hide fun z510 => ?_
    obtain ⟨y, hy, h⟩ := hY0
    refine z510 ?_
    have := lastK_ge (D := D) hy
    refine Int.lt_of_lt_of_le (lastK_lt (fun x hx => ?_) (by omega)) this
    have := h x hx
    omega
theorem lastK_filter (hx : ∀ x ∈ xs, x ∈ D ∧ p x = true) (hy : ∀ y ∈ ys, y ∈ D ∧ p y = true) : lastK (D.filter p) xs < lastK (D.filter p) ys ↔ lastK D xs < lastK D ys := by
  rw [lastK_lt_iff, lastK_lt_iff]
  refine ⟨fun ⟨y, h, h2⟩ => ⟨y, h, fun x hx' => ?_⟩, fun ⟨y, h, h2⟩ => ⟨y, h, fun x hx' => ?_⟩⟩
  · exact (idx_filter_lt (hx x hx').1 (hy y h).1 (hx x hx').2 (hy y h).2).mp (h2 x hx')
  · exact (idx_filter_lt (hx x hx').1 (hy y h).1 (hx x hx').2 (hy y h).2).mpr (h2 x hx')
end
end Mine

namespace Mine
open PySem PySem.W PyProof.Rows

section
variable {row O E D : List Int} {f : Int → List Int} {p : Int → Bool} {y a b : Int}
theorem key_part (ha : a ∈ row) (hb : b ∈ row) (pa : p a = true) (pb : p b = true) (ga : ∀ x ∈ f a, x ∈ D ∧ p x = true) (gb : ∀ x ∈ f b, x ∈ D ∧ p x = true) :
    lexLt (keyO (row.filter p) f (D.filter p) a) (keyO (row.filter p) f (D.filter p) b) ↔ lexLt (keyO row f D a) (keyO row f D b) := by
  have h1 := lastK_filter (D := D) (p := p) ga gb
  have h2 := lastK_filter (D := D) (p := p) gb ga
  have h3 := idx_filter_lt (D := row) ha hb pa pb
  unfold lexLt keyO
  dsimp only
  omega
theorem freeO_part (hp : ∀ y ∈ row, p y = true → ∀ x ∈ f y, p x = true) : freeO (row.filter p) f (O.filter p) = (freeO row f O).filter p := by
  unfold freeO
  rw [List.filter_filter, List.filter_filter]
  refine List.filter_congr fun y hy => ?_
  by_cases py : p y = true
  · have e1 : decide (y ∈ O.filter p) = decide (y ∈ O) := by rw [decide_eq_decide, List.mem_filter]; simp [py]
    have e2 : ((f y).filter fun x => !decide (x ∈ O.filter p)) = (f y).filter fun x => !decide (x ∈ O) := List.filter_congr fun x hx => by
      have : decide (x ∈ O.filter p) = decide (x ∈ O) := by rw [decide_eq_decide, List.mem_filter]; simp [hp y hy py x hx]
      rw [this]
    rw [e1, e2, py]; simp
  · have py : p y = false := by simpa using py
    rw [py]; simp
theorem step_part (hp : ∀ y ∈ row, p y = true → ∀ x ∈ f y, p x = true) (h : StepTo row f O E) : StepTo (row.filter p) f (O.filter p) (E.filter p) := by
  refine ⟨by rw [freeO_part hp]; exact h.1.filter p, ?_⟩
  refine List.Pairwise.imp_of_mem (fun {a b} ha hb hl => ?_) (h.2.sublist List.filter_sublist)
  refine hide fun z511 => ?_
  obtain ⟨ha1, pa⟩ := List.mem_filter.mp ha
  obtain ⟨hb1, pb⟩ := List.mem_filter.mp hb
  obtain ⟨ra, na⟩ := freeO_mem (h.1.mem_iff.mp ha1)
  obtain ⟨rb, nb⟩ := freeO_mem (h.1.mem_iff.mp hb1)
  refine z511 ?_
  exact (key_part ra rb pa pb (fun x hx => ⟨na x hx, hp a ra pa x hx⟩) fun x hx => ⟨nb x hx, hp b rb pb x hx⟩).mpr hl
theorem ord_part (hp : ∀ y ∈ row, p y = true → ∀ x ∈ f y, p x = true) : ∀ {k : Nat} {O : List Int}, OrdN row f k O → OrdN (row.filter p) f k (O.filter p)
  | 0, O, h => by
    have h : O = [] := h
    rw [h]; rfl
  | k + 1, O, ⟨P, E, h1, h2, e⟩ => ⟨_, _, ord_part hp h1, step_part hp h2, by rw [e, List.filter_append]⟩
end
end Mine

namespace Mine
open PySem PySem.W PyProof.Rows

section
variable {row O O' E : List Int} {f : Int → List Int} {k : Nat}
theorem step_mem (h : StepTo row f O E) {y : Int} (hy : y ∈ E) : y ∈ row ∧ y ∉ O := by
  have := freeO_iff.mp (h.1.mem_iff.mp hy)
  exact ⟨this.1, this.2.1⟩
theorem ord_nd (hn : row.Nodup) : ∀ {k : Nat} {O : List Int}, OrdN row f k O → O.Nodup ∧ ∀ y ∈ O, y ∈ row
  | 0, O, h => by
    have h : O = [] := h
    subst h; exact ⟨List.nodup_nil, fun _ h => by cases h⟩
  | k + 1, O, ⟨P, E, h1, h2, e⟩ => by
    obtain ⟨g1, g2⟩ := ord_nd hn h1
    subst e
    refine ⟨List.nodup_append.mpr ⟨g1, h2.1.nodup_iff.mpr (freeO_nd hn), fun a ha b hb q => (step_mem h2 hb).2 (q ▸ ha)⟩, fun y hy => ?_⟩
    exact (List.mem_append.mp hy).elim (g2 y) fun h => (step_mem h2 h).1
theorem ord_still (h : freeO row f O = []) (h1 : OrdN row f k O) : ∀ (d : Nat), OrdN row f (k + d) O
  | 0 => h1
  | d + 1 => ⟨O, [], ord_still h h1 d, ⟨by rw [h], List.Pairwise.nil⟩, (List.append_nil _).symm⟩
theorem ord_long : ∀ {k : Nat} {O : List Int}, OrdN row f k O → freeO row f O = [] ∨ k ≤ O.length
  | 0, O, _ => .inr (Nat.zero_le _)
  | k + 1, O, ⟨P, E, h1, h2, e⟩ => by
    subst e
    by_cases hE : E = []
    · left
      subst hE
      rw [List.append_nil]
      exact List.Perm.nil_eq h2.1 |>.symm
    · rcases ord_long h1 with h | h
      · exact absurd (List.Perm.eq_nil (h ▸ h2.1)) hE
      · right
        rw [List.length_append]
        exact Nat.add_le_add h (List.length_pos_iff.mpr hE)
theorem ord_full (hn : row.Nodup) (h : OrdN row f row.length O) : freeO row f O = [] := by
  rcases ord_long h with h1 | h1
  · exact h1
  · obtain ⟨g1, g2⟩ := ord_nd hn h
    refine List.eq_nil_iff_forall_not_mem.mpr fun y hy => ?_
    refine hide fun z512 => ?_
    obtain ⟨h2, h3, _⟩ := freeO_iff.mp hy
    refine z512 ?_
    exact h3 (nodup_all g1 g2 h1 y h2)
theorem ord_all (hn : row.Nodup) (h : OrdN row f row.length O) (hk : row.length ≤ k) : OrdN row f k O := by
  have := ord_still (ord_full hn h) h (k - row.length)
  rwa [Nat.add_sub_cancel' hk] at this
end
end Mine

namespace Mine
open PySem PySem.W PyProof.Rows

section
variable {row held : List Int} {f : Int → List Int} {p : Int → Bool}
theorem head_step {D O L : List Int} {g : G} (hn : row.Nodup) (hnl : nodes (bldG row f) = row) (hph : ∀ y ∈ row, p y = true → y ∉ held) (hp : ∀ y ∈ row, p y = true → ∀ x ∈ f y, p x = true)
    (hpc : ∀ y ∈ row, y ∉ held → (∀ x ∈ f y, p x = true) → p y = true) (h : Rnd (bldG row f) D O L g) (hk : Kd row f D L) (hD : ∀ y ∈ D, p y = true) (hO : ∀ y ∈ O, y ∉ held → y ∈ D) :
    StepTo (row.filter p) f D (L.filter fun x => decide (x ∉ held)) := by
  have hnd : (nodes (bldG row f)).Nodup := by rw [hnl]; exact hn
  have hLr : ∀ y ∈ L, y ∈ row := fun y hy => by have := ((h.rd y).mp hy).1; rwa [hnl] at this
  have eD : D.filter p = D := List.filter_eq_self.mpr hD
  have hLp : ∀ y ∈ L.filter (fun x => decide (x ∉ held)), y ∈ row ∧ p y = true ∧ ∀ x ∈ f y, x ∈ D ∧ p x = true := fun y hy => by
    obtain ⟨h1, h2⟩ := List.mem_filter.mp hy
    have h3 := rd_needs h hnd h1 (hLr y h1)
    have h4 : ∀ x ∈ f y, x ∈ D ∧ p x = true := fun x hx => ⟨h3 x hx, hD x (h3 x hx)⟩
    exact ⟨hLr y h1, hpc y (hLr y h1) (of_decide_eq_true h2) fun x hx => (h4 x hx).2, h4⟩
  constructor
  · have n1 : (L.filter fun x => decide (x ∉ held)).Nodup := h.nd.sublist List.filter_sublist
    have n2 : (freeO (row.filter p) f D).Nodup := freeO_nd (hn.sublist List.filter_sublist)
    refine (List.perm_ext_iff_of_nodup n1 n2).mpr fun y => ?_
    rw [freeO_iff, List.mem_filter]
    constructor
    · intro hy
      refine hide fun z513 => ?_
      obtain ⟨h1, h2, h3⟩ := hLp y (List.mem_filter.mpr hy)
      refine z513 ?_
      exact ⟨List.mem_filter.mpr ⟨h1, h2⟩, fun hyD => ((h.rd y).mp hy.1).2.1 (h.sub y hyD), fun x hx => (h3 x hx).1⟩
    · intro hY0
      refine hide fun z514 => ?_
      obtain ⟨h1, h2, h3⟩ := hY0
      refine z514 ?_
      obtain ⟨h1, h4⟩ := List.mem_filter.mp h1
      have hnh := hph y h1 h4
      refine ⟨(h.rd y).mpr ⟨by rw [hnl]; exact h1, fun hyO => h2 (hO y hyO hnh), (cnt_zero hnd).mpr fun x hx => h3 x (bld_edge.mp hx).2⟩, decide_eq_true hnh⟩
  · refine List.Pairwise.imp_of_mem (fun {a b} ha hb hl => ?_) (List.Pairwise.sublist List.filter_sublist hk)
    refine hide fun z515 => ?_
    obtain ⟨ra, pa, ga⟩ := hLp a ha
    obtain ⟨rb, pb, gb⟩ := hLp b hb
    refine z515 ?_
    have := (key_part ra rb pa pb ga gb).mpr hl
    rwa [eD] at this
end
end Mine

namespace Mine
open PySem PySem.W PyProof.Rows
section
variable {row held : List Int} {f : Int → List Int} {p : Int → Bool}
theorem head_rounds (hn : row.Nodup) (hnl : nodes (bldG row f) = row) (hph : ∀ y ∈ row, p y = true → y ∉ held) (hp : ∀ y ∈ row, p y = true → ∀ x ∈ f y, p x = true)
    (hpc : ∀ y ∈ row, y ∉ held → (∀ x ∈ f y, p x = true) → p y = true) : ∀ k, OrdN (row.filter p) f k (rndH (bldG row f) held k).1.1 ∧ (∀ y ∈ (rndH (bldG row f) held k).1.1, p y = true ∧ y ∉ held) ∧ ∀ y ∈ (rndH (bldG row f) held k).1.2, y ∉ held → y ∈ (rndH (bldG row f) held k).1.1
  | 0 => ⟨rfl, fun y h => (by cases (show y ∈ ([] : List Int) from h)), fun y h => (by cases (show y ∈ ([] : List Int) from h))⟩
  | k + 1 => by
    refine hide fun z516 => ?_
    obtain ⟨h1, h2, h3⟩ := head_rounds hn hnl hph hp hpc k
    refine z516 ?_
    have hr := rndH_rnd (held := held) (bld_W (row := row) (f := f)) k
    have hs := head_step hn hnl hph hp hpc hr (rndH_kd hn hnl k) (fun y hy => (h2 y hy).1) h3
    refine ⟨⟨_, _, h1, hs, rfl⟩, fun y hy => ?_, fun y hy hyh => ?_⟩
    · rcases List.mem_append.mp hy with hy | hy
      · exact h2 y hy
      · have h4 := (step_mem hs hy).1
        obtain ⟨h5, h6⟩ := List.mem_filter.mp h4
        exact ⟨h6, hph y h5 h6⟩
    · rcases List.mem_append.mp hy with hy | hy
      · exact List.mem_append_left _ (h3 y hy hyh)
      · exact List.mem_append_right _ (List.mem_filter.mpr ⟨hy, decide_eq_true hyh⟩)
end
end Mine

namespace Mine
open PySem PySem.W PyProof.Rows

noncomputable def tlNew (ks : List Int) (f : Int → List Int) (t : List Int) : List Int := ks.filter fun y => !decide (y ∈ t) && !decide (((f y).filter fun x => decide (x ∈ t)) = [])
noncomputable def tlN (ks : List Int) (f : Int → List Int) (held : List Int) : Nat → List Int
  | 0 => held
  | i + 1 => tlN ks f held i ++ tlNew ks f (tlN ks f held i)
section
variable {ks held t : List Int} {f : Int → List Int} {i : Nat} {y : Int}
theorem tlNew_iff : y ∈ tlNew ks f t ↔ y ∈ ks ∧ y ∉ t ∧ ∃ x ∈ f y, x ∈ t := by
  unfold tlNew
  rw [List.mem_filter, Bool.and_eq_true, Bool.not_eq_true', decide_eq_false_iff_not, Bool.not_eq_true', decide_eq_false_iff_not, List.filter_eq_nil_iff]
  refine and_congr Iff.rfl (and_congr Iff.rfl ⟨fun h => ?_, fun ⟨x, hx, hxt⟩ h => h x hx (decide_eq_true hxt)⟩)
  refine Classical.byContradiction fun hc => h fun x hx => ?_
  rw [decide_eq_true_eq]
  exact fun hxt => hc ⟨x, hx, hxt⟩
theorem tl_still (h : tlNew ks f (tlN ks f held i) = []) : ∀ d, tlN ks f held (i + d) = tlN ks f held i
  | 0 => rfl
  | d + 1 => by
    show tlN ks f held (i + d) ++ tlNew ks f (tlN ks f held (i + d)) = _
    rw [tl_still h d, h, List.append_nil]
theorem tl_long (hk : ks.Nodup) : ∀ i, tlNew ks f (tlN ks f held i) = [] ∨ i + 1 ≤ (ks.filter fun y => decide (y ∈ tlN ks f held (i + 1))).length
  | 0 => by
    by_cases h : tlNew ks f (tlN ks f held 0) = []
    · exact .inl h
    · obtain ⟨y, hy⟩ := List.exists_mem_of_ne_nil _ h
      exact .inr (List.length_pos_iff.mpr (List.ne_nil_of_mem (List.mem_filter.mpr ⟨(tlNew_iff.mp hy).1, decide_eq_true (List.mem_append_right _ hy)⟩)))
  | i + 1 => by
    by_cases h : tlNew ks f (tlN ks f held (i + 1)) = []
    · exact .inl h
    · right
      have h0 : tlNew ks f (tlN ks f held i) ≠ [] := fun e => h (by
        have := tl_still e 1
        rw [this]; exact e)
      have ih := (tl_long hk i).resolve_left h0
      refine hide fun z517 => ?_
      obtain ⟨y, hy⟩ := List.exists_mem_of_ne_nil _ h
      obtain ⟨g1, g2, _⟩ := tlNew_iff.mp hy
      refine z517 ?_
      have hn1 : (ks.filter fun y => decide (y ∈ tlN ks f held (i + 1))).Nodup := hk.sublist List.filter_sublist
      have hsub : ∀ z ∈ y :: (ks.filter fun y => decide (y ∈ tlN ks f held (i + 1))), z ∈ ks.filter fun y => decide (y ∈ tlN ks f held (i + 1 + 1)) := fun z hz => by
        rcases List.mem_cons.mp hz with rfl | hz
        · exact List.mem_filter.mpr ⟨g1, decide_eq_true (List.mem_append_right _ hy)⟩
        · obtain ⟨z1, z2⟩ := List.mem_filter.mp hz
          exact List.mem_filter.mpr ⟨z1, decide_eq_true (List.mem_append_left _ (of_decide_eq_true z2))⟩
      have hn2 : (y :: ks.filter fun y => decide (y ∈ tlN ks f held (i + 1))).Nodup := List.nodup_cons.mpr ⟨fun hm => g2 (of_decide_eq_true (List.mem_filter.mp hm).2), hn1⟩
      have := nd_len hn2 hsub
      rw [List.length_cons] at this
      omega
theorem tl_full (hk : ks.Nodup) : tlNew ks f (tlN ks f held ks.length) = [] := by
  rcases tl_long (f := f) (held := held) hk ks.length with h | h
  · exact h
  · exact absurd (Nat.le_trans h (List.length_filter_le _ _)) (Nat.not_succ_le_self _)
theorem tl_held (hy : y ∈ held) : ∀ i, y ∈ tlN ks f held i
  | 0 => hy
  | i + 1 => List.mem_append_left _ (tl_held hy i)
end
end Mine

namespace Mine
open PySem PySem.W PyProof.Rows
section
variable {ks held : List Int} {f : Int → List Int} {y : Int}
noncomputable def hdP (ks : List Int) (f : Int → List Int) (held : List Int) (y : Int) : Bool := decide (y ∉ tlN ks f held ks.length)
theorem hd_held (h : hdP ks f held y = true) : y ∉ held := fun hh => of_decide_eq_true h (tl_held hh _)
theorem hd_needs (hk : ks.Nodup) (hy : y ∈ ks) (h : hdP ks f held y = true) : ∀ x ∈ f y, hdP ks f held x = true := fun x hx => by
  refine decide_eq_true fun hxt => ?_
  have : y ∈ tlNew ks f (tlN ks f held ks.length) := tlNew_iff.mpr ⟨hy, of_decide_eq_true h, x, hx, hxt⟩
  rw [tl_full hk] at this
  cases this
theorem tl_mono : ∀ {i : Nat} (d : Nat), y ∈ tlN ks f held i → y ∈ tlN ks f held (i + d)
  | _, 0, h => h
  | i, d + 1, h => List.mem_append_left _ (tl_mono d h)
theorem tl_in : ∀ {i : Nat} {y : Int}, i ≤ ks.length → y ∈ tlN ks f held i → y ∈ held ∨ ∃ x ∈ f y, x ∈ tlN ks f held ks.length
  | 0, y, _, h => .inl h
  | i + 1, y, hi, h => by
    rcases List.mem_append.mp h with h | h
    · exact tl_in (Nat.le_of_succ_le hi) h
    · refine hide fun z518 => ?_
      obtain ⟨_, _, x, hx, h⟩ := tlNew_iff.mp h
      refine z518 ?_
      refine .inr ⟨x, hx, ?_⟩
      have := tl_mono (ks.length - i) h
      rwa [Nat.add_sub_cancel' (Nat.le_of_succ_le hi)] at this
theorem hd_closed (hh : y ∉ held) (h : ∀ x ∈ f y, hdP ks f held x = true) : hdP ks f held y = true := decide_eq_true fun hy => by
  rcases tl_in (Nat.le_refl _) hy with h1 | ⟨x, hx, h1⟩
  · exact hh h1
  · exact of_decide_eq_true (h x hx) h1
end
end Mine

namespace Mine
open PySem PySem.W PyProof.Rows
section
variable {row O : List Int} {f : Int → List Int}
theorem order_eq (hn : row.Nodup) (hcl : ∀ y ∈ row, ∀ x ∈ f y, x ∈ row) (h : OrdN row f row.length O) : orderG (bldG row f) = O := by
  have hnl := bld_nodes hn hcl
  have e : row.filter (fun _ => true) = row := List.filter_eq_self.mpr fun _ _ => rfl
  have h1 := (head_rounds (held := []) (p := fun _ => true) hn hnl (fun _ _ _ h => by cases h) (fun _ _ _ _ _ => rfl) (fun _ _ _ _ => rfl) (row.length + 1)).1
  rw [e, (rndH_nil _ _).1] at h1
  have h2 := ord_uniq (ord_all hn h (Nat.le_succ _)) h1
  unfold orderG
  rw [hnl]
  exact h2.symm
end
end Mine

namespace Mine
open PySem PySem.W PyProof.Rows

section
variable {g : G} {held : List Int} {k : Nat}
theorem rndH_filter : ∀ k, (rndH g held k).1.2.filter (fun x => decide (x ∉ held)) = (rndH g held k).1.1
  | 0 => rfl
  | k + 1 => by
    show ((rndH g held k).1.2 ++ (rndH g held k).2.1).filter _ = (rndH g held k).1.1 ++ _
    rw [List.filter_append, rndH_filter k]
theorem rndH_stop1 (h : (rndH g held k).2.1 = []) : (rndH g held (k + 1)).2.1 = [] := by
  show (gDone (_, []) ((rndH g held k).2.1.filter _)).2 = []
  rw [h]; rfl
theorem rndH_long : ∀ k, (rndH g held k).2.1 ≠ [] → k ≤ (rndH g held k).1.2.length
  | 0, _ => Nat.zero_le _
  | k + 1, h => by
    have hk : (rndH g held k).2.1 ≠ [] := fun e => h (rndH_stop1 e)
    have h1 := rndH_long k hk
    have h2 := List.length_pos_iff.mpr hk
    show k + 1 ≤ ((rndH g held k).1.2 ++ (rndH g held k).2.1).length
    rw [List.length_append]
    exact Nat.add_le_add h1 h2
theorem rndH_end (W : WG g) (hk : (nodes g).length ≤ k) : (rndH g held k).2.1 = [] := by
  by_cases h : (rndH g held k).2.1 = []
  · exact h
  · have h1 := rndH_long k h
    have h2 := List.length_pos_iff.mpr h
    have h3 : ((rndH g held k).1.2 ++ (rndH g held k).2.1).length ≤ (nodes g).length := nd_len (rndH_ond W (k + 1)) (rndH_rnd (held := held) W (k + 1)).inG
    rw [List.length_append] at h3
    omega
end
section
variable {row held O P : List Int} {f : Int → List Int} {k : Nat}
noncomputable def waitsF (row held : List Int) (f : Int → List Int) (P : List Int) : List Int := row.filter fun y => decide (y ∈ held) && decide (((f y).filter fun x => !decide (x ∈ P)) = [])
theorem waits_iff {y : Int} : y ∈ waitsF row held f P ↔ y ∈ row ∧ y ∈ held ∧ ∀ x ∈ f y, x ∈ P := by
  unfold waitsF
  rw [List.mem_filter, Bool.and_eq_true, decide_eq_true_eq, decide_eq_true_eq, List.filter_eq_nil_iff]
  refine and_congr Iff.rfl (and_congr Iff.rfl ⟨fun h x hx => ?_, fun h x hx => ?_⟩)
  · have := h x hx
    simpa using this
  · have := h x hx
    simpa using this
theorem given_waits (hn : row.Nodup) (hnl : nodes (bldG row f) = row) (hP : P = (rndH (bldG row f) held row.length).1.1) :
    ((rndH (bldG row f) held row.length).1.2.filter fun x => decide (x ∉ P)).Perm (waitsF row held f P) := by
  have W := bld_W (row := row) (f := f)
  have hr := rndH_rnd (held := held) W row.length
  have hL := rndH_end (held := held) (k := row.length) W (by rw [hnl]; exact Nat.le_refl _)
  have hf := rndH_filter (g := bldG row f) (held := held) row.length
  have hond := rndH_ond (held := held) W row.length
  rw [← hP] at hr hf
  generalize (rndH (bldG row f) held row.length).1.2 = O at *
  rw [hL] at hr
  refine (List.perm_ext_iff_of_nodup (hond.sublist List.filter_sublist) (hn.sublist List.filter_sublist)).mpr fun y => ?_
  refine Iff.trans ?_ waits_iff.symm
  rw [List.mem_filter, decide_eq_true_eq]
  constructor
  · rintro ⟨h1, h2⟩
    have hyr : y ∈ row := by have := hr.inG y h1; rwa [hnl] at this
    refine ⟨hyr, ?_, fun x hx => hr.cl y h1 x (bld_edge.mpr ⟨hyr, hx⟩)⟩
    refine Classical.byContradiction fun h3 => h2 ?_
    rw [← hf]
    exact List.mem_filter.mpr ⟨h1, decide_eq_true h3⟩
  · intro hY0
    refine hide fun z519 => ?_
    obtain ⟨h1, h2, h3⟩ := hY0
    refine z519 ?_
    refine ⟨?_, fun h4 => ?_⟩
    · refine Classical.byContradiction fun h4 => ?_
      have := (hr.rd y).mpr ⟨by rw [hnl]; exact h1, h4, (cnt_zero W.nd).mpr fun x hx => h3 x (bld_edge.mp hx).2⟩
      cases this
    · rw [← hf] at h4
      exact of_decide_eq_true (List.mem_filter.mp h4).2 h2
theorem given_active (hn : row.Nodup) (hnl : nodes (bldG row f) = row) (hP : P = (rndH (bldG row f) held row.length).1.1) :
    (decide ((rndH (bldG row f) held row.length).1.1.length < (rndH (bldG row f) held row.length).1.2.length) || !(rndH (bldG row f) held row.length).2.1.isEmpty) = !decide (waitsF row held f P = []) := by
  have hp := given_waits hn hnl hP
  have hL := rndH_end (held := held) (k := row.length) (bld_W (row := row) (f := f)) (by rw [hnl]; exact Nat.le_refl _)
  have hf := rndH_filter (g := bldG row f) (held := held) row.length
  rw [hL]
  rw [← hP] at hf ⊢
  generalize (rndH (bldG row f) held row.length).1.2 = O at *
  rw [List.isEmpty_nil, Bool.not_true, Bool.or_false]
  have e : waitsF row held f P = [] ↔ ¬ P.length < O.length := by
    have e0 : P.length < O.length ↔ ∃ x ∈ O, ¬ decide (x ∉ held) = true := by rw [← hf]; exact List.length_filter_lt_length_iff_exists
    rw [e0]
    constructor
    · intro h ⟨x, hx, hx2⟩
      have : x ∈ O.filter fun x => decide (x ∉ P) := List.mem_filter.mpr ⟨hx, decide_eq_true fun h3 => hx2 (by rw [← hf] at h3; exact (List.mem_filter.mp h3).2)⟩
      rw [hp.mem_iff, h] at this
      cases this
    · intro h
      refine List.eq_nil_iff_forall_not_mem.mpr fun y hy => h ?_
      have h1 := hp.mem_iff.mpr hy
      obtain ⟨h2, h3⟩ := List.mem_filter.mp h1
      refine ⟨y, h2, fun h4 => of_decide_eq_true h3 ?_⟩
      rw [← hf]
      exact List.mem_filter.mpr ⟨h2, h4⟩
  by_cases h : P.length < O.length
  · rw [decide_eq_true h, decide_eq_false fun q => (e.mp q) h]; rfl
  · rw [decide_eq_false h, decide_eq_true (e.mpr h)]; rfl

theorem order_left (hn : row.Nodup) (hcl : ∀ y ∈ row, ∀ x ∈ f y, x ∈ row) (h : OrdN row f row.length O) : Left (bldG row f) O := by
  have W := bld_W (row := row) (f := f)
  have e := order_eq hn hcl h
  have h1 := rndN_rnd W ((nodes (bldG row f)).length + 1)
  have h2 := (h1.left W (rndN_nd W _) (.inl (order_last W)))
  exact e ▸ h2
theorem order_fin {F : List Int} (hn : row.Nodup) (hcl : ∀ y ∈ row, ∀ x ∈ f y, x ∈ row) (h : OrdN row f row.length O) (hF : Fin' (bldG row f) F) : O.length = row.length := by
  have h1 := (order_left hn hcl h).of_fin bld_W.nd hF
  rw [bld_nodes hn hcl] at h1
  have h2 := ord_nd hn h
  exact Nat.le_antisymm (nd_len h2.1 h2.2) (nd_len hn h1)
theorem order_ring {v : List Int} (hn : row.Nodup) (hcl : ∀ y ∈ row, ∀ x ∈ f y, x ∈ row) (h : OrdN row f row.length O) (hv : Ring (bldG row f) v) : O.length ≠ row.length := fun e => by
  refine hide fun z520 => ?_
  obtain ⟨k, hk, hkO⟩ := (order_left hn hcl h).of_ring hv
  refine z520 ?_
  rw [bld_nodes hn hcl] at hk
  have h2 := ord_nd hn h
  exact hkO (nodup_all h2.1 h2.2 (Nat.le_of_eq e.symm) k hk)

section
variable {ks W : List Int}
theorem head_same (hk : ks.Nodup) (hn : row.Nodup) (hrk : ∀ y ∈ row, y ∈ ks) (hW : OrdN row f row.length W) (hP : OrdN (row.filter (hdP ks f held)) f (row.filter (hdP ks f held)).length P) :
    W.filter (hdP ks f held) = P := by
  have h1 := ord_part (p := hdP ks f held) (fun y hy h => hd_needs hk (hrk y hy) h) hW
  exact ord_uniq h1 (ord_all (hn.sublist List.filter_sublist) hP (List.length_filter_le _ _))
theorem head_given (hk : ks.Nodup) (hn : row.Nodup) (hnl : nodes (bldG row f) = row) (hrk : ∀ y ∈ row, y ∈ ks) (hP : OrdN (row.filter (hdP ks f held)) f (row.filter (hdP ks f held)).length P) :
    P = (rndH (bldG row f) held row.length).1.1 := by
  have h1 := (head_rounds (held := held) (p := hdP ks f held) hn hnl (fun y _ h => hd_held h) (fun y hy h => hd_needs hk (hrk y hy) h) (fun y _ h1 h2 => hd_closed h1 h2) row.length).1
  exact ord_uniq (ord_all (hn.sublist List.filter_sublist) hP (List.length_filter_le _ _)) h1
end
end
end Mine

namespace Mine
set_option maxRecDepth 100000
open PySem PySem.W PyProof.Rows
noncomputable def nthS : List Stmt → Nat → Stmt
  | s :: _, 0 => s
  | _ :: r, n + 1 => nthS r n
  | [], _ => .Pass ⟨0, 0, 0, 0⟩
noncomputable def subS : Stmt → List Stmt
  | .ClassDef _ _ _ b .. => b
  | _ => []
noncomputable def argsS : Stmt → Arguments
  | .FunctionDef _ a .. => a
  | _ => default
noncomputable def bodyS : Stmt → FuncBody
  | .FunctionDef _ _ b .. => .stmts b
  | _ => default
noncomputable def scopeS : Stmt → Scope
  | .FunctionDef _ _ _ _ _ _ s .. => s
  | _ => default
@[reducible] noncomputable def k02a0 : Arguments := (show {x // x = argsS (nthS (subS (nthS PySem.Challenge.pw_ik0042_02.main.body 3)) 1)} from (by refine ⟨?x, ?h⟩; (case h => conv => rhs; whnf))).val
@[reducible] noncomputable def k02b0 : FuncBody := (show {x // x = bodyS (nthS (subS (nthS PySem.Challenge.pw_ik0042_02.main.body 3)) 1)} from (by refine ⟨?x, ?h⟩; (case h => conv => rhs; whnf))).val
@[reducible] noncomputable def k02s0 : Scope := (show {x // x = scopeS (nthS (subS (nthS PySem.Challenge.pw_ik0042_02.main.body 3)) 1)} from (by refine ⟨?x, ?h⟩; (case h => conv => rhs; whnf))).val
@[reducible] noncomputable def k02a1 : Arguments := (show {x // x = argsS (nthS (subS (nthS PySem.Challenge.pw_ik0042_02.main.body 5)) 0)} from (by refine ⟨?x, ?h⟩; (case h => conv => rhs; whnf))).val
@[reducible] noncomputable def k02b1 : FuncBody := (show {x // x = bodyS (nthS (subS (nthS PySem.Challenge.pw_ik0042_02.main.body 5)) 0)} from (by refine ⟨?x, ?h⟩; (case h => conv => rhs; whnf))).val
@[reducible] noncomputable def k02s1 : Scope := (show {x // x = scopeS (nthS (subS (nthS PySem.Challenge.pw_ik0042_02.main.body 5)) 0)} from (by refine ⟨?x, ?h⟩; (case h => conv => rhs; whnf))).val
@[reducible] noncomputable def k02a2 : Arguments := (show {x // x = argsS (nthS (subS (nthS PySem.Challenge.pw_ik0042_02.main.body 5)) 1)} from (by refine ⟨?x, ?h⟩; (case h => conv => rhs; whnf))).val
@[reducible] noncomputable def k02b2 : FuncBody := (show {x // x = bodyS (nthS (subS (nthS PySem.Challenge.pw_ik0042_02.main.body 5)) 1)} from (by refine ⟨?x, ?h⟩; (case h => conv => rhs; whnf))).val
@[reducible] noncomputable def k02s2 : Scope := (show {x // x = scopeS (nthS (subS (nthS PySem.Challenge.pw_ik0042_02.main.body 5)) 1)} from (by refine ⟨?x, ?h⟩; (case h => conv => rhs; whnf))).val
@[reducible] noncomputable def k02a3 : Arguments := (show {x // x = argsS (nthS (subS (nthS PySem.Challenge.pw_ik0042_02.main.body 5)) 2)} from (by refine ⟨?x, ?h⟩; (case h => conv => rhs; whnf))).val
@[reducible] noncomputable def k02b3 : FuncBody := (show {x // x = bodyS (nthS (subS (nthS PySem.Challenge.pw_ik0042_02.main.body 5)) 2)} from (by refine ⟨?x, ?h⟩; (case h => conv => rhs; whnf))).val
@[reducible] noncomputable def k02s3 : Scope := (show {x // x = scopeS (nthS (subS (nthS PySem.Challenge.pw_ik0042_02.main.body 5)) 2)} from (by refine ⟨?x, ?h⟩; (case h => conv => rhs; whnf))).val
@[reducible] noncomputable def k02a4 : Arguments := (show {x // x = argsS (nthS (subS (nthS PySem.Challenge.pw_ik0042_02.main.body 5)) 3)} from (by refine ⟨?x, ?h⟩; (case h => conv => rhs; whnf))).val
@[reducible] noncomputable def k02b4 : FuncBody := (show {x // x = bodyS (nthS (subS (nthS PySem.Challenge.pw_ik0042_02.main.body 5)) 3)} from (by refine ⟨?x, ?h⟩; (case h => conv => rhs; whnf))).val
@[reducible] noncomputable def k02s4 : Scope := (show {x // x = scopeS (nthS (subS (nthS PySem.Challenge.pw_ik0042_02.main.body 5)) 3)} from (by refine ⟨?x, ?h⟩; (case h => conv => rhs; whnf))).val
@[reducible] noncomputable def k02a5 : Arguments := (show {x // x = argsS (nthS (subS (nthS PySem.Challenge.pw_ik0042_02.main.body 5)) 4)} from (by refine ⟨?x, ?h⟩; (case h => conv => rhs; whnf))).val
@[reducible] noncomputable def k02b5 : FuncBody := (show {x // x = bodyS (nthS (subS (nthS PySem.Challenge.pw_ik0042_02.main.body 5)) 4)} from (by refine ⟨?x, ?h⟩; (case h => conv => rhs; whnf))).val
@[reducible] noncomputable def k02s5 : Scope := (show {x // x = scopeS (nthS (subS (nthS PySem.Challenge.pw_ik0042_02.main.body 5)) 4)} from (by refine ⟨?x, ?h⟩; (case h => conv => rhs; whnf))).val
@[reducible] noncomputable def k02a6 : Arguments := (show {x // x = argsS (nthS (subS (nthS PySem.Challenge.pw_ik0042_02.main.body 5)) 5)} from (by refine ⟨?x, ?h⟩; (case h => conv => rhs; whnf))).val
@[reducible] noncomputable def k02b6 : FuncBody := (show {x // x = bodyS (nthS (subS (nthS PySem.Challenge.pw_ik0042_02.main.body 5)) 5)} from (by refine ⟨?x, ?h⟩; (case h => conv => rhs; whnf))).val
@[reducible] noncomputable def k02s6 : Scope := (show {x // x = scopeS (nthS (subS (nthS PySem.Challenge.pw_ik0042_02.main.body 5)) 5)} from (by refine ⟨?x, ?h⟩; (case h => conv => rhs; whnf))).val
@[reducible] noncomputable def k02a7 : Arguments := (show {x // x = argsS (nthS (subS (nthS PySem.Challenge.pw_ik0042_02.main.body 5)) 6)} from (by refine ⟨?x, ?h⟩; (case h => conv => rhs; whnf))).val
@[reducible] noncomputable def k02b7 : FuncBody := (show {x // x = bodyS (nthS (subS (nthS PySem.Challenge.pw_ik0042_02.main.body 5)) 6)} from (by refine ⟨?x, ?h⟩; (case h => conv => rhs; whnf))).val
@[reducible] noncomputable def k02s7 : Scope := (show {x // x = scopeS (nthS (subS (nthS PySem.Challenge.pw_ik0042_02.main.body 5)) 6)} from (by refine ⟨?x, ?h⟩; (case h => conv => rhs; whnf))).val
@[reducible] noncomputable def k02a8 : Arguments := (show {x // x = argsS (nthS (subS (nthS PySem.Challenge.pw_ik0042_02.main.body 5)) 7)} from (by refine ⟨?x, ?h⟩; (case h => conv => rhs; whnf))).val
@[reducible] noncomputable def k02b8 : FuncBody := (show {x // x = bodyS (nthS (subS (nthS PySem.Challenge.pw_ik0042_02.main.body 5)) 7)} from (by refine ⟨?x, ?h⟩; (case h => conv => rhs; whnf))).val
@[reducible] noncomputable def k02s8 : Scope := (show {x // x = scopeS (nthS (subS (nthS PySem.Challenge.pw_ik0042_02.main.body 5)) 7)} from (by refine ⟨?x, ?h⟩; (case h => conv => rhs; whnf))).val
@[reducible] noncomputable def k02a9 : Arguments := (show {x // x = argsS (nthS (subS (nthS PySem.Challenge.pw_ik0042_02.main.body 5)) 8)} from (by refine ⟨?x, ?h⟩; (case h => conv => rhs; whnf))).val
@[reducible] noncomputable def k02b9 : FuncBody := (show {x // x = bodyS (nthS (subS (nthS PySem.Challenge.pw_ik0042_02.main.body 5)) 8)} from (by refine ⟨?x, ?h⟩; (case h => conv => rhs; whnf))).val
@[reducible] noncomputable def k02s9 : Scope := (show {x // x = scopeS (nthS (subS (nthS PySem.Challenge.pw_ik0042_02.main.body 5)) 8)} from (by refine ⟨?x, ?h⟩; (case h => conv => rhs; whnf))).val
@[reducible] noncomputable def k02a10 : Arguments := (show {x // x = argsS (nthS (subS (nthS PySem.Challenge.pw_ik0042_02.main.body 5)) 9)} from (by refine ⟨?x, ?h⟩; (case h => conv => rhs; whnf))).val
@[reducible] noncomputable def k02b10 : FuncBody := (show {x // x = bodyS (nthS (subS (nthS PySem.Challenge.pw_ik0042_02.main.body 5)) 9)} from (by refine ⟨?x, ?h⟩; (case h => conv => rhs; whnf))).val
@[reducible] noncomputable def k02s10 : Scope := (show {x // x = scopeS (nthS (subS (nthS PySem.Challenge.pw_ik0042_02.main.body 5)) 9)} from (by refine ⟨?x, ?h⟩; (case h => conv => rhs; whnf))).val
@[reducible] noncomputable def k02a11 : Arguments := (show {x // x = argsS (nthS (subS (nthS PySem.Challenge.pw_ik0042_02.main.body 7)) 1)} from (by refine ⟨?x, ?h⟩; (case h => conv => rhs; whnf))).val
@[reducible] noncomputable def k02b11 : FuncBody := (show {x // x = bodyS (nthS (subS (nthS PySem.Challenge.pw_ik0042_02.main.body 7)) 1)} from (by refine ⟨?x, ?h⟩; (case h => conv => rhs; whnf))).val
@[reducible] noncomputable def k02s11 : Scope := (show {x // x = scopeS (nthS (subS (nthS PySem.Challenge.pw_ik0042_02.main.body 7)) 1)} from (by refine ⟨?x, ?h⟩; (case h => conv => rhs; whnf))).val
@[reducible] noncomputable def k02a12 : Arguments := (show {x // x = argsS (nthS (subS (nthS PySem.Challenge.pw_ik0042_02.main.body 7)) 2)} from (by refine ⟨?x, ?h⟩; (case h => conv => rhs; whnf))).val
@[reducible] noncomputable def k02b12 : FuncBody := (show {x // x = bodyS (nthS (subS (nthS PySem.Challenge.pw_ik0042_02.main.body 7)) 2)} from (by refine ⟨?x, ?h⟩; (case h => conv => rhs; whnf))).val
@[reducible] noncomputable def k02s12 : Scope := (show {x // x = scopeS (nthS (subS (nthS PySem.Challenge.pw_ik0042_02.main.body 7)) 2)} from (by refine ⟨?x, ?h⟩; (case h => conv => rhs; whnf))).val
@[reducible] noncomputable def k02a13 : Arguments := (show {x // x = argsS (nthS (subS (nthS PySem.Challenge.pw_ik0042_02.main.body 7)) 3)} from (by refine ⟨?x, ?h⟩; (case h => conv => rhs; whnf))).val
@[reducible] noncomputable def k02b13 : FuncBody := (show {x // x = bodyS (nthS (subS (nthS PySem.Challenge.pw_ik0042_02.main.body 7)) 3)} from (by refine ⟨?x, ?h⟩; (case h => conv => rhs; whnf))).val
@[reducible] noncomputable def k02s13 : Scope := (show {x // x = scopeS (nthS (subS (nthS PySem.Challenge.pw_ik0042_02.main.body 7)) 3)} from (by refine ⟨?x, ?h⟩; (case h => conv => rhs; whnf))).val
@[reducible] noncomputable def k02a14 : Arguments := (show {x // x = argsS (nthS PySem.Challenge.pw_ik0042_02.main.body 9)} from (by refine ⟨?x, ?h⟩; (case h => conv => rhs; whnf))).val
@[reducible] noncomputable def k02b14 : FuncBody := (show {x // x = bodyS (nthS PySem.Challenge.pw_ik0042_02.main.body 9)} from (by refine ⟨?x, ?h⟩; (case h => conv => rhs; whnf))).val
@[reducible] noncomputable def k02s14 : Scope := (show {x // x = scopeS (nthS PySem.Challenge.pw_ik0042_02.main.body 9)} from (by refine ⟨?x, ?h⟩; (case h => conv => rhs; whnf))).val
@[reducible] noncomputable def k02a15 : Arguments := (show {x // x = argsS (nthS PySem.Challenge.pw_ik0042_02.main.body 11)} from (by refine ⟨?x, ?h⟩; (case h => conv => rhs; whnf))).val
@[reducible] noncomputable def k02b15 : FuncBody := (show {x // x = bodyS (nthS PySem.Challenge.pw_ik0042_02.main.body 11)} from (by refine ⟨?x, ?h⟩; (case h => conv => rhs; whnf))).val
@[reducible] noncomputable def k02s15 : Scope := (show {x // x = scopeS (nthS PySem.Challenge.pw_ik0042_02.main.body 11)} from (by refine ⟨?x, ?h⟩; (case h => conv => rhs; whnf))).val
@[reducible] noncomputable def k02a16 : Arguments := (show {x // x = argsS (nthS PySem.Challenge.pw_ik0042_02.main.body 12)} from (by refine ⟨?x, ?h⟩; (case h => conv => rhs; whnf))).val
@[reducible] noncomputable def k02b16 : FuncBody := (show {x // x = bodyS (nthS PySem.Challenge.pw_ik0042_02.main.body 12)} from (by refine ⟨?x, ?h⟩; (case h => conv => rhs; whnf))).val
@[reducible] noncomputable def k02s16 : Scope := (show {x // x = scopeS (nthS PySem.Challenge.pw_ik0042_02.main.body 12)} from (by refine ⟨?x, ?h⟩; (case h => conv => rhs; whnf))).val
@[reducible] noncomputable def k02a17 : Arguments := (show {x // x = argsS (nthS PySem.Challenge.pw_ik0042_02.main.body 13)} from (by refine ⟨?x, ?h⟩; (case h => conv => rhs; whnf))).val
@[reducible] noncomputable def k02b17 : FuncBody := (show {x // x = bodyS (nthS PySem.Challenge.pw_ik0042_02.main.body 13)} from (by refine ⟨?x, ?h⟩; (case h => conv => rhs; whnf))).val
@[reducible] noncomputable def k02s17 : Scope := (show {x // x = scopeS (nthS PySem.Challenge.pw_ik0042_02.main.body 13)} from (by refine ⟨?x, ?h⟩; (case h => conv => rhs; whnf))).val
@[reducible] noncomputable def k02a18 : Arguments := (show {x // x = argsS (nthS PySem.Challenge.pw_ik0042_02.main.body 14)} from (by refine ⟨?x, ?h⟩; (case h => conv => rhs; whnf))).val
@[reducible] noncomputable def k02b18 : FuncBody := (show {x // x = bodyS (nthS PySem.Challenge.pw_ik0042_02.main.body 14)} from (by refine ⟨?x, ?h⟩; (case h => conv => rhs; whnf))).val
@[reducible] noncomputable def k02s18 : Scope := (show {x // x = scopeS (nthS PySem.Challenge.pw_ik0042_02.main.body 14)} from (by refine ⟨?x, ?h⟩; (case h => conv => rhs; whnf))).val
@[reducible] noncomputable def k02a19 : Arguments := (show {x // x = argsS (nthS PySem.Challenge.pw_ik0042_02.main.body 15)} from (by refine ⟨?x, ?h⟩; (case h => conv => rhs; whnf))).val
@[reducible] noncomputable def k02b19 : FuncBody := (show {x // x = bodyS (nthS PySem.Challenge.pw_ik0042_02.main.body 15)} from (by refine ⟨?x, ?h⟩; (case h => conv => rhs; whnf))).val
@[reducible] noncomputable def k02s19 : Scope := (show {x // x = scopeS (nthS PySem.Challenge.pw_ik0042_02.main.body 15)} from (by refine ⟨?x, ?h⟩; (case h => conv => rhs; whnf))).val
@[reducible] noncomputable def k02a20 : Arguments := (show {x // x = argsS (nthS PySem.Challenge.pw_ik0042_02.main.body 16)} from (by refine ⟨?x, ?h⟩; (case h => conv => rhs; whnf))).val
@[reducible] noncomputable def k02b20 : FuncBody := (show {x // x = bodyS (nthS PySem.Challenge.pw_ik0042_02.main.body 16)} from (by refine ⟨?x, ?h⟩; (case h => conv => rhs; whnf))).val
@[reducible] noncomputable def k02s20 : Scope := (show {x // x = scopeS (nthS PySem.Challenge.pw_ik0042_02.main.body 16)} from (by refine ⟨?x, ?h⟩; (case h => conv => rhs; whnf))).val
@[reducible] noncomputable def k02a21 : Arguments := (show {x // x = argsS (nthS PySem.Challenge.pw_ik0042_02.main.body 17)} from (by refine ⟨?x, ?h⟩; (case h => conv => rhs; whnf))).val
@[reducible] noncomputable def k02b21 : FuncBody := (show {x // x = bodyS (nthS PySem.Challenge.pw_ik0042_02.main.body 17)} from (by refine ⟨?x, ?h⟩; (case h => conv => rhs; whnf))).val
@[reducible] noncomputable def k02s21 : Scope := (show {x // x = scopeS (nthS PySem.Challenge.pw_ik0042_02.main.body 17)} from (by refine ⟨?x, ?h⟩; (case h => conv => rhs; whnf))).val
set_option maxHeartbeats 4000000 in
noncomputable def K02 (P : Params) : Frag :=
(nat_lit 2, { cls := .none, data := .dict #[] }) ::
(nat_lit 3, { cls := .type "dict", data := .dict #[{ hash := PyData.keyHash P (.ofString "__name__"), key := .str (.ofString "__name__") 165, val := .str (.ofString "law_ik0042_02") 432 }, { hash := PyData.keyHash P (.ofString "__doc__"), key := .str (.ofString "__doc__") 166, val := .none }, { hash := PyData.keyHash P (.ofString "__package__"), key := .str (.ofString "__package__") 167, val := .none }, { hash := PyData.keyHash P (.ofString "__loader__"), key := .str (.ofString "__loader__") 168, val := .builtin "__main__.__loader__#opaque" }, { hash := PyData.keyHash P (.ofString "__spec__"), key := .str (.ofString "__spec__") 169, val := .none }, { hash := PyData.keyHash P (.ofString "__annotations__"), key := .str (.ofString "__annotations__") 170, val := .ref 6 }, { hash := PyData.keyHash P (.ofString "__builtins__"), key := .str (.ofString "__builtins__") 171, val := .ref 4 }, { hash := PyData.keyHash P (.ofString "__file__"), key := .str (.ofString "__file__") 173, val := .str (.ofString "/claim/cut.py") 172 }, { hash := PyData.keyHash P (.ofString "__cached__"), key := .str (.ofString "__cached__") 174, val := .none }, { hash := PyData.keyHash P (.ofString "_NODE_OUT"), key := .str (.ofString "_NODE_OUT") 191, val := .int (-1) 190 }, { hash := PyData.keyHash P (.ofString "_NODE_DONE"), key := .str (.ofString "_NODE_DONE") 194, val := .int (-2) 193 }, { hash := PyData.keyHash P (.ofString "_NodeInfo"), key := .str (.ofString "_NodeInfo") 231, val := .ref 33 }, { hash := PyData.keyHash P (.ofString "CycleError"), key := .str (.ofString "CycleError") 249, val := .ref 48 }, { hash := PyData.keyHash P (.ofString "TopologicalSorter"), key := .str (.ofString "TopologicalSorter") 369, val := .ref 130 }, { hash := PyData.keyHash P (.ofString "filterfalse"), key := .str (.ofString "filterfalse") 421, val := .ref 167 }, { hash := PyData.keyHash P (.ofString "_filter"), key := .str (.ofString "_filter") 431, val := .ref 178 }, { hash := PyData.keyHash P (.ofString "_law_needs"), key := .str (.ofString "_law_needs") 439, val := .ref 183 }, { hash := PyData.keyHash P (.ofString "_law_tail"), key := .str (.ofString "_law_tail") 445, val := .ref 188 }, { hash := PyData.keyHash P (.ofString "_law_order"), key := .str (.ofString "_law_order") 451, val := .ref 193 }, { hash := PyData.keyHash P (.ofString "_law_sorter"), key := .str (.ofString "_law_sorter") 461, val := .ref 200 }, { hash := PyData.keyHash P (.ofString "_law_static"), key := .str (.ofString "_law_static") 469, val := .ref 207 }, { hash := PyData.keyHash P (.ofString "_law_given"), key := .str (.ofString "_law_given") 481, val := .ref 214 }, { hash := PyData.keyHash P (.ofString "law"), key := .str (.ofString "law") 487, val := .ref 219 }] 23 }) ::
(nat_lit 22, { cls := .type "tuple", data := .seq #[.str (.ofString "node") 207, .str (.ofString "npredecessors") 208, .str (.ofString "successors") 209] }) ::
(nat_lit 23, { cls := .type "tuple", data := .seq #[] }) ::
(nat_lit 25, { cls := .type "tuple", data := .seq #[.str (.ofString "self") 214, .str (.ofString "node") 215] }) ::
(nat_lit 26, { cls := .type "tuple", data := .seq #[] }) ::
(nat_lit 28, { cls := .type "code", data := .fields #[.str (.ofString "__init__") 211, .str (.ofString "_NodeInfo.__init__") 212, .str (.ofString "/claim/cut.py") 213, .int 7 0, .int 2 0, .int 0 0, .int 0 0, .int 3 0, .ref 23, .bool true, .int 181 0, .ref 24, .none, .ref 25, .ref 26, .ref 27, .int 216 0, .int 7 0, .str (.ofString "/claim/cut.py") 217] }) ::
(nat_lit 29, { cls := .type "function", data := .func { name := .ofString "__init__", qualname := .ofString "_NodeInfo.__init__", params := k02a0, body := k02b0, scope := k02s0, globals := 3, closure := [], defaults := .none, kwdefaults := .none, pyModule := .str (.ofString "cpy313.graphlib") 187, code := .ref 28 } }) ::
(nat_lit 30, { cls := .type "tuple", data := .seq #[.str (.ofString "node") 219, .str (.ofString "npredecessors") 220, .str (.ofString "successors") 221] }) ::
(nat_lit 32, { cls := .type "dict", data := .dict #[{ hash := PyData.keyHash P (.ofString "__module__"), key := .str (.ofString "__module__") 202, val := .str (.ofString "cpy313.graphlib") 187 }, { hash := PyData.keyHash P (.ofString "__firstlineno__"), key := .str (.ofString "__firstlineno__") 206, val := .int 4 205 }, { hash := PyData.keyHash P (.ofString "__slots__"), key := .str (.ofString "__slots__") 210, val := .ref 22 }, { hash := PyData.keyHash P (.ofString "__init__"), key := .str (.ofString "__init__") 218, val := .ref 29 }, { hash := PyData.keyHash P (.ofString "__static_attributes__"), key := .str (.ofString "__static_attributes__") 222, val := .ref 30 }, { hash := PyData.keyHash P (.ofString "node"), key := .str (.ofString "node") 224, val := .ref 34 }, { hash := PyData.keyHash P (.ofString "npredecessors"), key := .str (.ofString "npredecessors") 226, val := .ref 35 }, { hash := PyData.keyHash P (.ofString "successors"), key := .str (.ofString "successors") 228, val := .ref 36 }, { hash := PyData.keyHash P (.ofString "__doc__"), key := .str (.ofString "__doc__") 229, val := .none }] 5 }) ::
(nat_lit 33, { cls := .type "type", data := .cls { name := .ofString "_NodeInfo", bases := [.type "object"], mro := [.ref 33, .type "object"], ns := 32, qualname := .ofString "_NodeInfo", hasDict := false, slotNames := [.ofString "node", .ofString "npredecessors", .ofString "successors"] }, slots := #[none, none, some (.str (.ofString "_NodeInfo") 195), some (.str (.ofString "_NodeInfo") 203), some (.builtin "object.__new__"), some (.bool false)] }) ::
(nat_lit 34, { cls := .type "member_descriptor", data := .fields #[.str (.ofString "node") 223, .ref 33, .builtin "proto.slot", .builtin "proto.slot#set", .int 2 0] }) ::
(nat_lit 35, { cls := .type "member_descriptor", data := .fields #[.str (.ofString "npredecessors") 225, .ref 33, .builtin "proto.slot", .builtin "proto.slot#set", .int 1 0] }) ::
(nat_lit 36, { cls := .type "member_descriptor", data := .fields #[.str (.ofString "successors") 227, .ref 33, .builtin "proto.slot", .builtin "proto.slot#set", .int 0 0] }) ::
(nat_lit 39, { cls := .type "tuple", data := .seq #[.type "ValueError"] }) ::
(nat_lit 46, { cls := .type "tuple", data := .seq #[] }) ::
(nat_lit 47, { cls := .type "dict", data := .dict #[{ hash := PyData.keyHash P (.ofString "__module__"), key := .str (.ofString "__module__") 239, val := .str (.ofString "cpy313.graphlib") 187 }, { hash := PyData.keyHash P (.ofString "__firstlineno__"), key := .str (.ofString "__firstlineno__") 243, val := .int 11 242 }, { hash := PyData.keyHash P (.ofString "__static_attributes__"), key := .str (.ofString "__static_attributes__") 244, val := .ref 46 }, { hash := PyData.keyHash P (.ofString "__weakref__"), key := .str (.ofString "__weakref__") 246, val := .ref 49 }, { hash := PyData.keyHash P (.ofString "__doc__"), key := .str (.ofString "__doc__") 247, val := .none }] 3 }) ::
(nat_lit 48, { cls := .type "type", data := .cls { name := .ofString "CycleError", bases := [.type "ValueError"], mro := [.ref 48, .type "ValueError", .type "Exception", .type "BaseException", .type "object"], ns := 47, qualname := .ofString "CycleError" }, slots := #[some (.ref 39), none, some (.str (.ofString "CycleError") 232), some (.str (.ofString "CycleError") 240), some (.builtin "ValueError.__new__"), some (.bool true)] }) ::
(nat_lit 49, { cls := .type "getset_descriptor", data := .fields #[.str (.ofString "__weakref__") 245, .ref 48, .builtin "ExceptionGroup.__weakref__", .none] }) ::
(nat_lit 59, { cls := .type "tuple", data := .seq #[.none] }) ::
(nat_lit 60, { cls := .type "tuple", data := .seq #[] }) ::
(nat_lit 62, { cls := .type "tuple", data := .seq #[.str (.ofString "self") 265, .str (.ofString "graph") 266, .str (.ofString "node") 267, .str (.ofString "predecessors") 268] }) ::
(nat_lit 63, { cls := .type "tuple", data := .seq #[] }) ::
(nat_lit 65, { cls := .type "code", data := .fields #[.str (.ofString "__init__") 262, .str (.ofString "TopologicalSorter.__init__") 263, .str (.ofString "/claim/cut.py") 264, .int 15 0, .int 2 0, .int 0 0, .int 0 0, .int 3 0, .ref 60, .bool true, .int 181 0, .ref 61, .none, .ref 62, .ref 63, .ref 64, .int 269 0, .int 15 0, .str (.ofString "/claim/cut.py") 270] }) ::
(nat_lit 66, { cls := .type "function", data := .func { name := .ofString "__init__", qualname := .ofString "TopologicalSorter.__init__", params := k02a1, body := k02b1, scope := k02s1, globals := 3, closure := [], defaults := .ref 59, kwdefaults := .none, pyModule := .str (.ofString "cpy313.graphlib") 187, code := .ref 65 } }) ::
(nat_lit 67, { cls := .type "tuple", data := .seq #[] }) ::
(nat_lit 69, { cls := .type "tuple", data := .seq #[.str (.ofString "self") 275, .str (.ofString "node") 276, .str (.ofString "result") 277] }) ::
(nat_lit 70, { cls := .type "tuple", data := .seq #[] }) ::
(nat_lit 72, { cls := .type "code", data := .fields #[.str (.ofString "_get_nodeinfo") 272, .str (.ofString "TopologicalSorter._get_nodeinfo") 273, .str (.ofString "/claim/cut.py") 274, .int 24 0, .int 2 0, .int 0 0, .int 0 0, .int 3 0, .ref 67, .bool true, .int 181 0, .ref 68, .none, .ref 69, .ref 70, .ref 71, .int 278 0, .int 24 0, .str (.ofString "/claim/cut.py") 279] }) ::
(nat_lit 73, { cls := .type "function", data := .func { name := .ofString "_get_nodeinfo", qualname := .ofString "TopologicalSorter._get_nodeinfo", params := k02a2, body := k02b2, scope := k02s2, globals := 3, closure := [], defaults := .none, kwdefaults := .none, pyModule := .str (.ofString "cpy313.graphlib") 187, code := .ref 72 } }) ::
(nat_lit 74, { cls := .type "tuple", data := .seq #[] }) ::
(nat_lit 76, { cls := .type "tuple", data := .seq #[.str (.ofString "self") 284, .str (.ofString "node") 285, .str (.ofString "predecessors") 286, .str (.ofString "nodeinfo") 287, .str (.ofString "pred") 288, .str (.ofString "pred_info") 289] }) ::
(nat_lit 77, { cls := .type "tuple", data := .seq #[] }) ::
(nat_lit 79, { cls := .type "code", data := .fields #[.str (.ofString "add") 281, .str (.ofString "TopologicalSorter.add") 282, .str (.ofString "/claim/cut.py") 283, .int 29 0, .int 2 0, .int 0 0, .int 0 0, .int 7 0, .ref 74, .bool true, .int 181 0, .ref 75, .none, .ref 76, .ref 77, .ref 78, .int 290 0, .int 29 0, .str (.ofString "/claim/cut.py") 291] }) ::
(nat_lit 80, { cls := .type "function", data := .func { name := .ofString "add", qualname := .ofString "TopologicalSorter.add", params := k02a3, body := k02b3, scope := k02s3, globals := 3, closure := [], defaults := .none, kwdefaults := .none, pyModule := .str (.ofString "cpy313.graphlib") 187, code := .ref 79 } }) ::
(nat_lit 81, { cls := .type "tuple", data := .seq #[] }) ::
(nat_lit 84, { cls := .type "code", data := .fields #[.str (.ofString "prepare") 293, .str (.ofString "TopologicalSorter.prepare") 294, .str (.ofString "/claim/cut.py") 295, .int 38 0, .int 1 0, .int 0 0, .int 0 0, .int 3 0, .ref 81, .bool true, .int 181 0, .ref 82, .none, .none, .none, .ref 83, .int 296 0, .int 38 0, .str (.ofString "/claim/cut.py") 297] }) ::
(nat_lit 85, { cls := .type "function", data := .func { name := .ofString "prepare", qualname := .ofString "TopologicalSorter.prepare", params := k02a4, body := k02b4, scope := k02s4, globals := 3, closure := [], defaults := .none, kwdefaults := .none, pyModule := .str (.ofString "cpy313.graphlib") 187, code := .ref 84 } }) ::
(nat_lit 86, { cls := .type "tuple", data := .seq #[] }) ::
(nat_lit 88, { cls := .type "tuple", data := .seq #[.str (.ofString "self") 302, .str (.ofString "result") 303, .str (.ofString "n2i") 304, .str (.ofString "node") 305] }) ::
(nat_lit 89, { cls := .type "tuple", data := .seq #[] }) ::
(nat_lit 91, { cls := .type "code", data := .fields #[.str (.ofString "get_ready") 299, .str (.ofString "TopologicalSorter.get_ready") 300, .str (.ofString "/claim/cut.py") 301, .int 46 0, .int 1 0, .int 0 0, .int 0 0, .int 3 0, .ref 86, .bool true, .int 181 0, .ref 87, .none, .ref 88, .ref 89, .ref 90, .int 306 0, .int 46 0, .str (.ofString "/claim/cut.py") 307] }) ::
(nat_lit 92, { cls := .type "function", data := .func { name := .ofString "get_ready", qualname := .ofString "TopologicalSorter.get_ready", params := k02a5, body := k02b5, scope := k02s5, globals := 3, closure := [], defaults := .none, kwdefaults := .none, pyModule := .str (.ofString "cpy313.graphlib") 187, code := .ref 91 } }) ::
(nat_lit 93, { cls := .type "tuple", data := .seq #[] }) ::
(nat_lit 95, { cls := .type "tuple", data := .seq #[.str (.ofString "self") 312] }) ::
(nat_lit 96, { cls := .type "tuple", data := .seq #[] }) ::
(nat_lit 98, { cls := .type "code", data := .fields #[.str (.ofString "is_active") 309, .str (.ofString "TopologicalSorter.is_active") 310, .str (.ofString "/claim/cut.py") 311, .int 57 0, .int 1 0, .int 0 0, .int 0 0, .int 3 0, .ref 93, .bool true, .int 181 0, .ref 94, .none, .ref 95, .ref 96, .ref 97, .int 313 0, .int 57 0, .str (.ofString "/claim/cut.py") 314] }) ::
(nat_lit 99, { cls := .type "function", data := .func { name := .ofString "is_active", qualname := .ofString "TopologicalSorter.is_active", params := k02a6, body := k02b6, scope := k02s6, globals := 3, closure := [], defaults := .none, kwdefaults := .none, pyModule := .str (.ofString "cpy313.graphlib") 187, code := .ref 98 } }) ::
(nat_lit 100, { cls := .type "tuple", data := .seq #[] }) ::
(nat_lit 102, { cls := .type "tuple", data := .seq #[.str (.ofString "self") 319] }) ::
(nat_lit 103, { cls := .type "tuple", data := .seq #[] }) ::
(nat_lit 105, { cls := .type "code", data := .fields #[.str (.ofString "__bool__") 316, .str (.ofString "TopologicalSorter.__bool__") 317, .str (.ofString "/claim/cut.py") 318, .int 62 0, .int 1 0, .int 0 0, .int 0 0, .int 3 0, .ref 100, .bool true, .int 181 0, .ref 101, .none, .ref 102, .ref 103, .ref 104, .int 320 0, .int 62 0, .str (.ofString "/claim/cut.py") 321] }) ::
(nat_lit 106, { cls := .type "function", data := .func { name := .ofString "__bool__", qualname := .ofString "TopologicalSorter.__bool__", params := k02a7, body := k02b7, scope := k02s7, globals := 3, closure := [], defaults := .none, kwdefaults := .none, pyModule := .str (.ofString "cpy313.graphlib") 187, code := .ref 105 } }) ::
(nat_lit 107, { cls := .type "tuple", data := .seq #[] }) ::
(nat_lit 109, { cls := .type "tuple", data := .seq #[.str (.ofString "self") 326, .str (.ofString "nodes") 327, .str (.ofString "n2i") 328, .str (.ofString "node") 329, .str (.ofString "nodeinfo") 330, .str (.ofString "stat") 331, .str (.ofString "successor") 332, .str (.ofString "successor_info") 333] }) ::
(nat_lit 110, { cls := .type "tuple", data := .seq #[] }) ::
(nat_lit 112, { cls := .type "code", data := .fields #[.str (.ofString "done") 323, .str (.ofString "TopologicalSorter.done") 324, .str (.ofString "/claim/cut.py") 325, .int 65 0, .int 1 0, .int 0 0, .int 0 0, .int 7 0, .ref 107, .bool true, .int 181 0, .ref 108, .none, .ref 109, .ref 110, .ref 111, .int 334 0, .int 65 0, .str (.ofString "/claim/cut.py") 335] }) ::
(nat_lit 113, { cls := .type "function", data := .func { name := .ofString "done", qualname := .ofString "TopologicalSorter.done", params := k02a8, body := k02b8, scope := k02s8, globals := 3, closure := [], defaults := .none, kwdefaults := .none, pyModule := .str (.ofString "cpy313.graphlib") 187, code := .ref 112 } }) ::
(nat_lit 114, { cls := .type "tuple", data := .seq #[] }) ::
(nat_lit 116, { cls := .type "tuple", data := .seq #[.str (.ofString "self") 340, .str (.ofString "n2i") 341, .str (.ofString "stack") 342, .str (.ofString "itstack") 343, .str (.ofString "seen") 344, .str (.ofString "node2stacki") 345, .str (.ofString "node") 346] }) ::
(nat_lit 117, { cls := .type "tuple", data := .seq #[] }) ::
(nat_lit 119, { cls := .type "code", data := .fields #[.str (.ofString "_find_cycle") 337, .str (.ofString "TopologicalSorter._find_cycle") 338, .str (.ofString "/claim/cut.py") 339, .int 88 0, .int 1 0, .int 0 0, .int 0 0, .int 3 0, .ref 114, .bool true, .int 181 0, .ref 115, .none, .ref 116, .ref 117, .ref 118, .int 347 0, .int 88 0, .str (.ofString "/claim/cut.py") 348] }) ::
(nat_lit 120, { cls := .type "function", data := .func { name := .ofString "_find_cycle", qualname := .ofString "TopologicalSorter._find_cycle", params := k02a9, body := k02b9, scope := k02s9, globals := 3, closure := [], defaults := .none, kwdefaults := .none, pyModule := .str (.ofString "cpy313.graphlib") 187, code := .ref 119 } }) ::
(nat_lit 121, { cls := .type "tuple", data := .seq #[] }) ::
(nat_lit 123, { cls := .type "tuple", data := .seq #[.str (.ofString "self") 353, .str (.ofString "node_group") 354] }) ::
(nat_lit 124, { cls := .type "tuple", data := .seq #[] }) ::
(nat_lit 126, { cls := .type "code", data := .fields #[.str (.ofString "static_order") 350, .str (.ofString "TopologicalSorter.static_order") 351, .str (.ofString "/claim/cut.py") 352, .int 117 0, .int 1 0, .int 0 0, .int 0 0, .int 35 0, .ref 121, .bool true, .int 181 0, .ref 122, .none, .ref 123, .ref 124, .ref 125, .int 355 0, .int 117 0, .str (.ofString "/claim/cut.py") 356] }) ::
(nat_lit 127, { cls := .type "function", data := .func { name := .ofString "static_order", qualname := .ofString "TopologicalSorter.static_order", params := k02a10, body := k02b10, scope := k02s10, globals := 3, closure := [], defaults := .none, kwdefaults := .none, pyModule := .str (.ofString "cpy313.graphlib") 187, code := .ref 126 } }) ::
(nat_lit 128, { cls := .type "tuple", data := .seq #[.str (.ofString "_nfinished") 358, .str (.ofString "_node2info") 359, .str (.ofString "_npassedout") 360, .str (.ofString "_ready_nodes") 361] }) ::
(nat_lit 129, { cls := .type "dict", data := .dict #[{ hash := PyData.keyHash P (.ofString "__module__"), key := .str (.ofString "__module__") 257, val := .str (.ofString "cpy313.graphlib") 187 }, { hash := PyData.keyHash P (.ofString "__firstlineno__"), key := .str (.ofString "__firstlineno__") 261, val := .int 13 260 }, { hash := PyData.keyHash P (.ofString "__init__"), key := .str (.ofString "__init__") 271, val := .ref 66 }, { hash := PyData.keyHash P (.ofString "_get_nodeinfo"), key := .str (.ofString "_get_nodeinfo") 280, val := .ref 73 }, { hash := PyData.keyHash P (.ofString "add"), key := .str (.ofString "add") 292, val := .ref 80 }, { hash := PyData.keyHash P (.ofString "prepare"), key := .str (.ofString "prepare") 298, val := .ref 85 }, { hash := PyData.keyHash P (.ofString "get_ready"), key := .str (.ofString "get_ready") 308, val := .ref 92 }, { hash := PyData.keyHash P (.ofString "is_active"), key := .str (.ofString "is_active") 315, val := .ref 99 }, { hash := PyData.keyHash P (.ofString "__bool__"), key := .str (.ofString "__bool__") 322, val := .ref 106 }, { hash := PyData.keyHash P (.ofString "done"), key := .str (.ofString "done") 336, val := .ref 113 }, { hash := PyData.keyHash P (.ofString "_find_cycle"), key := .str (.ofString "_find_cycle") 349, val := .ref 120 }, { hash := PyData.keyHash P (.ofString "static_order"), key := .str (.ofString "static_order") 357, val := .ref 127 }, { hash := PyData.keyHash P (.ofString "__static_attributes__"), key := .str (.ofString "__static_attributes__") 362, val := .ref 128 }, { hash := PyData.keyHash P (.ofString "__dict__"), key := .str (.ofString "__dict__") 364, val := .ref 131 }, { hash := PyData.keyHash P (.ofString "__weakref__"), key := .str (.ofString "__weakref__") 366, val := .ref 132 }, { hash := PyData.keyHash P (.ofString "__doc__"), key := .str (.ofString "__doc__") 367, val := .none }] 4 }) ::
(nat_lit 130, { cls := .type "type", data := .cls { name := .ofString "TopologicalSorter", bases := [.type "object"], mro := [.ref 130, .type "object"], ns := 129, qualname := .ofString "TopologicalSorter" }, slots := #[none, none, some (.str (.ofString "TopologicalSorter") 250), some (.str (.ofString "TopologicalSorter") 258), some (.builtin "object.__new__"), some (.bool true)] }) ::
(nat_lit 131, { cls := .type "getset_descriptor", data := .fields #[.str (.ofString "__dict__") 363, .ref 130, .builtin "function.__dict__", .builtin "function.__dict__#set"] }) ::
(nat_lit 132, { cls := .type "getset_descriptor", data := .fields #[.str (.ofString "__weakref__") 365, .ref 130, .builtin "ExceptionGroup.__weakref__", .none] }) ::
(nat_lit 142, { cls := .type "tuple", data := .seq #[.str (.ofString "_it") 384, .str (.ofString "_func") 385] }) ::
(nat_lit 143, { cls := .type "tuple", data := .seq #[] }) ::
(nat_lit 145, { cls := .type "tuple", data := .seq #[.str (.ofString "self") 390, .str (.ofString "function") 391, .str (.ofString "iterable") 392] }) ::
(nat_lit 146, { cls := .type "tuple", data := .seq #[] }) ::
(nat_lit 148, { cls := .type "code", data := .fields #[.str (.ofString "__init__") 387, .str (.ofString "filterfalse.__init__") 388, .str (.ofString "/claim/cut.py") 389, .int 127 0, .int 3 0, .int 3 0, .int 0 0, .int 3 0, .ref 143, .bool true, .int 181 0, .ref 144, .none, .ref 145, .ref 146, .ref 147, .int 393 0, .int 127 0, .str (.ofString "/claim/cut.py") 394] }) ::
(nat_lit 149, { cls := .type "function", data := .func { name := .ofString "__init__", qualname := .ofString "filterfalse.__init__", params := k02a11, body := k02b11, scope := k02s11, globals := 3, closure := [], defaults := .none, kwdefaults := .none, pyModule := .str (.ofString "itertools") 370, code := .ref 148 } }) ::
(nat_lit 150, { cls := .type "tuple", data := .seq #[] }) ::
(nat_lit 152, { cls := .type "tuple", data := .seq #[.str (.ofString "self") 399] }) ::
(nat_lit 153, { cls := .type "tuple", data := .seq #[] }) ::
(nat_lit 155, { cls := .type "code", data := .fields #[.str (.ofString "__iter__") 396, .str (.ofString "filterfalse.__iter__") 397, .str (.ofString "/claim/cut.py") 398, .int 131 0, .int 1 0, .int 0 0, .int 0 0, .int 3 0, .ref 150, .bool true, .int 181 0, .ref 151, .none, .ref 152, .ref 153, .ref 154, .int 400 0, .int 131 0, .str (.ofString "/claim/cut.py") 401] }) ::
(nat_lit 156, { cls := .type "function", data := .func { name := .ofString "__iter__", qualname := .ofString "filterfalse.__iter__", params := k02a12, body := k02b12, scope := k02s12, globals := 3, closure := [], defaults := .none, kwdefaults := .none, pyModule := .str (.ofString "itertools") 370, code := .ref 155 } }) ::
(nat_lit 157, { cls := .type "tuple", data := .seq #[] }) ::
(nat_lit 159, { cls := .type "tuple", data := .seq #[.str (.ofString "self") 406, .str (.ofString "func") 407, .str (.ofString "item") 408] }) ::
(nat_lit 160, { cls := .type "tuple", data := .seq #[] }) ::
(nat_lit 162, { cls := .type "code", data := .fields #[.str (.ofString "__next__") 403, .str (.ofString "filterfalse.__next__") 404, .str (.ofString "/claim/cut.py") 405, .int 134 0, .int 1 0, .int 0 0, .int 0 0, .int 3 0, .ref 157, .bool true, .int 181 0, .ref 158, .none, .ref 159, .ref 160, .ref 161, .int 409 0, .int 134 0, .str (.ofString "/claim/cut.py") 410] }) ::
(nat_lit 163, { cls := .type "function", data := .func { name := .ofString "__next__", qualname := .ofString "filterfalse.__next__", params := k02a13, body := k02b13, scope := k02s13, globals := 3, closure := [], defaults := .none, kwdefaults := .none, pyModule := .str (.ofString "itertools") 370, code := .ref 162 } }) ::
(nat_lit 164, { cls := .type "tuple", data := .seq #[.str (.ofString "_func") 412, .str (.ofString "_it") 413] }) ::
(nat_lit 166, { cls := .type "dict", data := .dict #[{ hash := PyData.keyHash P (.ofString "__module__"), key := .str (.ofString "__module__") 379, val := .str (.ofString "itertools") 370 }, { hash := PyData.keyHash P (.ofString "__firstlineno__"), key := .str (.ofString "__firstlineno__") 383, val := .int 124 382 }, { hash := PyData.keyHash P (.ofString "__slots__"), key := .str (.ofString "__slots__") 386, val := .ref 142 }, { hash := PyData.keyHash P (.ofString "__init__"), key := .str (.ofString "__init__") 395, val := .ref 149 }, { hash := PyData.keyHash P (.ofString "__iter__"), key := .str (.ofString "__iter__") 402, val := .ref 156 }, { hash := PyData.keyHash P (.ofString "__next__"), key := .str (.ofString "__next__") 411, val := .ref 163 }, { hash := PyData.keyHash P (.ofString "__static_attributes__"), key := .str (.ofString "__static_attributes__") 414, val := .ref 164 }, { hash := PyData.keyHash P (.ofString "_func"), key := .str (.ofString "_func") 416, val := .ref 168 }, { hash := PyData.keyHash P (.ofString "_it"), key := .str (.ofString "_it") 418, val := .ref 169 }, { hash := PyData.keyHash P (.ofString "__doc__"), key := .str (.ofString "__doc__") 419, val := .none }] 4 }) ::
(nat_lit 167, { cls := .type "type", data := .cls { name := .ofString "filterfalse", bases := [.type "object"], mro := [.ref 167, .type "object"], ns := 166, qualname := .ofString "filterfalse", hasDict := false, slotNames := [.ofString "_func", .ofString "_it"] }, slots := #[none, none, some (.str (.ofString "filterfalse") 372), some (.str (.ofString "filterfalse") 380), some (.builtin "object.__new__"), some (.bool false)] }) ::
(nat_lit 168, { cls := .type "member_descriptor", data := .fields #[.str (.ofString "_func") 415, .ref 167, .builtin "proto.slot", .builtin "proto.slot#set", .int 1 0] }) ::
(nat_lit 169, { cls := .type "member_descriptor", data := .fields #[.str (.ofString "_it") 417, .ref 167, .builtin "proto.slot", .builtin "proto.slot#set", .int 0 0] }) ::
(nat_lit 172, { cls := .type "tuple", data := .seq #[] }) ::
(nat_lit 174, { cls := .type "tuple", data := .seq #[.str (.ofString "flist") 427, .str (.ofString "skip") 428] }) ::
(nat_lit 175, { cls := .type "tuple", data := .seq #[] }) ::
(nat_lit 177, { cls := .type "code", data := .fields #[.str (.ofString "_filter") 424, .str (.ofString "_filter") 425, .str (.ofString "/claim/cut.py") 426, .int 144 0, .int 2 0, .int 0 0, .int 0 0, .int 3 0, .ref 172, .bool true, .int 181 0, .ref 173, .none, .ref 174, .ref 175, .ref 176, .int 429 0, .int 144 0, .str (.ofString "/claim/cut.py") 430] }) ::
(nat_lit 178, { cls := .type "function", data := .func { name := .ofString "_filter", qualname := .ofString "_filter", params := k02a14, body := k02b14, scope := k02s14, globals := 3, closure := [], defaults := .none, kwdefaults := .none, pyModule := .str (.ofString "cpy313.filecmp") 422, code := .ref 177 } }) ::
(nat_lit 179, { cls := .type "tuple", data := .seq #[] }) ::
(nat_lit 182, { cls := .type "code", data := .fields #[.str (.ofString "_law_needs") 434, .str (.ofString "_law_needs") 435, .str (.ofString "/claim/cut.py") 436, .int 147 0, .int 2 0, .int 0 0, .int 0 0, .int 3 0, .ref 179, .bool true, .int 181 0, .ref 180, .none, .none, .none, .ref 181, .int 437 0, .int 147 0, .str (.ofString "/claim/cut.py") 438] }) ::
(nat_lit 183, { cls := .type "function", data := .func { name := .ofString "_law_needs", qualname := .ofString "_law_needs", params := k02a15, body := k02b15, scope := k02s15, globals := 3, closure := [], defaults := .none, kwdefaults := .none, pyModule := .str (.ofString "law_ik0042_02") 432, code := .ref 182 } }) ::
(nat_lit 184, { cls := .type "tuple", data := .seq #[] }) ::
(nat_lit 187, { cls := .type "code", data := .fields #[.str (.ofString "_law_tail") 440, .str (.ofString "_law_tail") 441, .str (.ofString "/claim/cut.py") 442, .int 155 0, .int 2 0, .int 0 0, .int 0 0, .int 3 0, .ref 184, .bool true, .int 181 0, .ref 185, .none, .none, .none, .ref 186, .int 443 0, .int 155 0, .str (.ofString "/claim/cut.py") 444] }) ::
(nat_lit 188, { cls := .type "function", data := .func { name := .ofString "_law_tail", qualname := .ofString "_law_tail", params := k02a16, body := k02b16, scope := k02s16, globals := 3, closure := [], defaults := .none, kwdefaults := .none, pyModule := .str (.ofString "law_ik0042_02") 432, code := .ref 187 } }) ::
(nat_lit 189, { cls := .type "tuple", data := .seq #[] }) ::
(nat_lit 192, { cls := .type "code", data := .fields #[.str (.ofString "_law_order") 446, .str (.ofString "_law_order") 447, .str (.ofString "/claim/cut.py") 448, .int 160 0, .int 2 0, .int 0 0, .int 0 0, .int 3 0, .ref 189, .bool true, .int 181 0, .ref 190, .none, .none, .none, .ref 191, .int 449 0, .int 160 0, .str (.ofString "/claim/cut.py") 450] }) ::
(nat_lit 193, { cls := .type "function", data := .func { name := .ofString "_law_order", qualname := .ofString "_law_order", params := k02a17, body := k02b17, scope := k02s17, globals := 3, closure := [], defaults := .none, kwdefaults := .none, pyModule := .str (.ofString "law_ik0042_02") 432, code := .ref 192 } }) ::
(nat_lit 194, { cls := .type "tuple", data := .seq #[] }) ::
(nat_lit 196, { cls := .type "tuple", data := .seq #[.str (.ofString "row") 455, .str (.ofString "needs") 456, .str (.ofString "sorter") 457, .str (.ofString "y") 458] }) ::
(nat_lit 197, { cls := .type "tuple", data := .seq #[] }) ::
(nat_lit 199, { cls := .type "code", data := .fields #[.str (.ofString "_law_sorter") 452, .str (.ofString "_law_sorter") 453, .str (.ofString "/claim/cut.py") 454, .int 167 0, .int 2 0, .int 0 0, .int 0 0, .int 3 0, .ref 194, .bool true, .int 181 0, .ref 195, .none, .ref 196, .ref 197, .ref 198, .int 459 0, .int 167 0, .str (.ofString "/claim/cut.py") 460] }) ::
(nat_lit 200, { cls := .type "function", data := .func { name := .ofString "_law_sorter", qualname := .ofString "_law_sorter", params := k02a18, body := k02b18, scope := k02s18, globals := 3, closure := [], defaults := .none, kwdefaults := .none, pyModule := .str (.ofString "law_ik0042_02") 432, code := .ref 199 } }) ::
(nat_lit 201, { cls := .type "tuple", data := .seq #[] }) ::
(nat_lit 203, { cls := .type "tuple", data := .seq #[.str (.ofString "sorter") 465, .str (.ofString "skip") 466] }) ::
(nat_lit 204, { cls := .type "tuple", data := .seq #[] }) ::
(nat_lit 206, { cls := .type "code", data := .fields #[.str (.ofString "_law_static") 462, .str (.ofString "_law_static") 463, .str (.ofString "/claim/cut.py") 464, .int 174 0, .int 2 0, .int 0 0, .int 0 0, .int 3 0, .ref 201, .bool true, .int 181 0, .ref 202, .none, .ref 203, .ref 204, .ref 205, .int 467 0, .int 174 0, .str (.ofString "/claim/cut.py") 468] }) ::
(nat_lit 207, { cls := .type "function", data := .func { name := .ofString "_law_static", qualname := .ofString "_law_static", params := k02a19, body := k02b19, scope := k02s19, globals := 3, closure := [], defaults := .none, kwdefaults := .none, pyModule := .str (.ofString "law_ik0042_02") 432, code := .ref 206 } }) ::
(nat_lit 208, { cls := .type "tuple", data := .seq #[] }) ::
(nat_lit 210, { cls := .type "tuple", data := .seq #[.str (.ofString "sorter") 473, .str (.ofString "held") 474, .str (.ofString "size") 475, .str (.ofString "given") 476, .str (.ofString "turn") 477, .str (.ofString "ready") 478] }) ::
(nat_lit 211, { cls := .type "tuple", data := .seq #[] }) ::
(nat_lit 213, { cls := .type "code", data := .fields #[.str (.ofString "_law_given") 470, .str (.ofString "_law_given") 471, .str (.ofString "/claim/cut.py") 472, .int 179 0, .int 3 0, .int 0 0, .int 0 0, .int 3 0, .ref 208, .bool true, .int 181 0, .ref 209, .none, .ref 210, .ref 211, .ref 212, .int 479 0, .int 179 0, .str (.ofString "/claim/cut.py") 480] }) ::
(nat_lit 214, { cls := .type "function", data := .func { name := .ofString "_law_given", qualname := .ofString "_law_given", params := k02a20, body := k02b20, scope := k02s20, globals := 3, closure := [], defaults := .none, kwdefaults := .none, pyModule := .str (.ofString "law_ik0042_02") 432, code := .ref 213 } }) ::
(nat_lit 215, { cls := .type "tuple", data := .seq #[] }) ::
(nat_lit 218, { cls := .type "code", data := .fields #[.str (.ofString "law") 482, .str (.ofString "law") 483, .str (.ofString "/claim/cut.py") 484, .int 190 0, .int 1 0, .int 0 0, .int 0 0, .int 3 0, .ref 215, .bool true, .int 181 0, .ref 216, .none, .none, .none, .ref 217, .int 485 0, .int 190 0, .str (.ofString "/claim/cut.py") 486] }) ::
(nat_lit 219, { cls := .type "function", data := .func { name := .ofString "law", qualname := .ofString "law", params := k02a21, body := k02b21, scope := k02s21, globals := 3, closure := [], defaults := .none, kwdefaults := .none, pyModule := .str (.ofString "law_ik0042_02") 432, code := .ref 218 } }) :: []
noncomputable def asK02 : List Addr := nat_lit 2 :: nat_lit 3 :: nat_lit 22 :: nat_lit 23 :: nat_lit 25 :: nat_lit 26 :: nat_lit 28 :: nat_lit 29 :: nat_lit 30 :: nat_lit 32 :: nat_lit 33 :: nat_lit 34 :: nat_lit 35 :: nat_lit 36 :: nat_lit 39 :: nat_lit 46 :: nat_lit 47 :: nat_lit 48 :: nat_lit 49 :: nat_lit 59 :: nat_lit 60 :: nat_lit 62 :: nat_lit 63 :: nat_lit 65 :: nat_lit 66 :: nat_lit 67 :: nat_lit 69 :: nat_lit 70 :: nat_lit 72 :: nat_lit 73 :: nat_lit 74 :: nat_lit 76 :: nat_lit 77 :: nat_lit 79 :: nat_lit 80 :: nat_lit 81 :: nat_lit 84 :: nat_lit 85 :: nat_lit 86 :: nat_lit 88 :: nat_lit 89 :: nat_lit 91 :: nat_lit 92 :: nat_lit 93 :: nat_lit 95 :: nat_lit 96 :: nat_lit 98 :: nat_lit 99 :: nat_lit 100 :: nat_lit 102 :: nat_lit 103 :: nat_lit 105 :: nat_lit 106 :: nat_lit 107 :: nat_lit 109 :: nat_lit 110 :: nat_lit 112 :: nat_lit 113 :: nat_lit 114 :: nat_lit 116 :: nat_lit 117 :: nat_lit 119 :: nat_lit 120 :: nat_lit 121 :: nat_lit 123 :: nat_lit 124 :: nat_lit 126 :: nat_lit 127 :: nat_lit 128 :: nat_lit 129 :: nat_lit 130 :: nat_lit 131 :: nat_lit 132 :: nat_lit 142 :: nat_lit 143 :: nat_lit 145 :: nat_lit 146 :: nat_lit 148 :: nat_lit 149 :: nat_lit 150 :: nat_lit 152 :: nat_lit 153 :: nat_lit 155 :: nat_lit 156 :: nat_lit 157 :: nat_lit 159 :: nat_lit 160 :: nat_lit 162 :: nat_lit 163 :: nat_lit 164 :: nat_lit 166 :: nat_lit 167 :: nat_lit 168 :: nat_lit 169 :: nat_lit 172 :: nat_lit 174 :: nat_lit 175 :: nat_lit 177 :: nat_lit 178 :: nat_lit 179 :: nat_lit 182 :: nat_lit 183 :: nat_lit 184 :: nat_lit 187 :: nat_lit 188 :: nat_lit 189 :: nat_lit 192 :: nat_lit 193 :: nat_lit 194 :: nat_lit 196 :: nat_lit 197 :: nat_lit 199 :: nat_lit 200 :: nat_lit 201 :: nat_lit 203 :: nat_lit 204 :: nat_lit 206 :: nat_lit 207 :: nat_lit 208 :: nat_lit 210 :: nat_lit 211 :: nat_lit 213 :: nat_lit 214 :: nat_lit 215 :: nat_lit 218 :: nat_lit 219 :: []
end Mine

namespace Mine
set_option maxRecDepth 100000
open PySem PySem.W PyProof.Rows
open Sem (wp)
theorem fill_02 : PySem.Challenge.rw_ik0042_02 = PySem.Challenge.rw_ik0042_02 ∧ K02 = K02 := by
  k_fill
  exact ⟨rfl, rfl⟩
local macro_rules | `(tactic| walk_at $z:str) => do
  let some c := [
   ("mem", "afirst a| aassumption n5,1 ~B n2,2 a| aexact iList.mem_cons_self n6,2 ~B n2,2 a| a( arefine iList.mem_cons_of_mem a_ n10,1 ~S n1,2 n9,2 n8,2 a; awalk_at qmem n12,2 n1,3 ~R ~B n2,2 n1,3 n0,2"),
   ("fn", "a( a( acase sho ~H ak_is n16,1 ~K a; a( acase shcode ~H ak_is n16,1 ~K a; a( acase shco ~C a; a( acase shgen ~C a; a( acase shk ~C a; a( acase sb1 ~H aintros n1,0 n18,2 a; arfl n17,1 n1,3 n4,1 n3,1 n13,4 ~B a) n7,3 a; a( acase sb2 ~C n1,13 ~R"),
   ("gok", "afirst a| aexact igok1 a⟨ irfl ~N ~N n1,5 a⟩ n19,3 n1,1 n9,2 n6,2 ~B n2,2 a| aexact igok2 a⟨ irfl ~N ~N n1,5 a⟩ n19,3 a⟨ irfl ~N ~N n1,5 a⟩ n19,3 n1,2 n9,2 n6,2 ~B n2,2 n1,2 n0,2"),
   ("sw", "afirst a| arfl n17,1 ~B n2,2 a| aexact iswaps_eq a( sline a:= a0 n23,1 a) n22,5 ~L a. sinl n27,2 a⟨ a_ n10,1 a, a_ n10,1 a, a_ n10,1 a, irfl n1,7 a⟩ n19,3 n1,1 n9,2 a) n24,3 ~L iSc.scope ~D n1,1 n9,2 a) n24,3 irfl ~L ibk_of ~L iSc.scope ~D n1,1 n9,2 a) n24,3 irfl n1,2 n9,2 a) n24,3 n1,5 n9,2 n6,2 ~B n2,2 a| aexact iswaps_eq a( sline a:= a0 n23,1 a) n22,5 ~L a. sinr n27,2 a⟨ a_ n10,1 a, a_ n10,1 a, a_ n10,1 a, a_ n10,1 a, irfl n1,9 a⟩ n19,3 n1,1 n9,2 a) n24,3 ~L iSc.scope ~D n1,1 n9,2 a) n24,3 irfl ~L ibk_of ~L iSc.scope ~D n1,1 n9,2 a) n24,3 irfl n1,2 n9,2 a) n24,3 n1,5 n9,2 n6,2 ~B n2,2 n1,3 n0,2"),
   ("er", "afirst a| aexact ier_builtin a_ n10,1 n1,1 n9,2 n6,2 ~B n2,2 a| aexact ier_type a_ n10,1 n1,1 n9,2 n6,2 ~B n2,2 a| aexact ier_ref a_ n10,1 n1,1 n9,2 n6,2 ~B n2,2 a| aexact ier_int a_ n10,1 a_ n10,1 n1,2 n9,2 n6,2 ~B n2,2 a| aexact ier_none n6,2 ~B n2,2 a| aexact ier_bool a_ n10,1 n1,1 n9,2 n6,2 ~B n2,2 n1,6 n0,2"),
   ("ex", "afirst a| ~J iexs_seq ~M iexs_nil ~M iseq_next ~M iseq_ret ~M iseq_brk ~M iseq_cont ~M iloop_next ~M iloop_cont ~M iloop_brk ~M iloop_ret ~M iif_yes ~M iif_no ~M iif_nt ~M iif_nf ~M iex_return ~M iex_return0 ~M iex_pass ~M iex_break ~M iex_continue ~M iex_if ~G iex_expr ~I ~Q iex_listcompW ~D a? shx ~O shs n11,2 irfl a? sh ~O shok ~O shb n11,2 n1,7 n9,2 n30,2 ~F shx ~C ~P shs ~C ~P shok ~H awalk_at qgok n12,2 ~K ~P shb ~C n1,9 ~E ~Q iex_dictcompW ~D a? shx ~O shs n11,2 irfl a? sh ~O shok ~O shb n11,2 n1,7 n9,2 n30,2 ~F shx ~C ~P shs ~C ~P shok ~H awalk_at qgok n12,2 ~K ~P shb ~C n1,9 ~E ~Q iev_listcompW ~L iSc.scope ~D n1,1 n9,2 a) n24,3 a? sh ~O shok ~O shb n11,2 n1,4 n9,2 n30,2 ~F shok ~H awalk_at qgok n12,2 ~K ~P shb ~C n1,5 ~E ~Q iev_dictcompW ~L iSc.scope ~D n1,1 n9,2 a) n24,3 a? sh ~O shok ~O shb n11,2 n1,4 n9,2 n30,2 ~F shok ~H awalk_at qgok n12,2 ~K ~P shb ~C n1,5 ~E ~J itst_nil ~M itst_cons ~G iex_assign a? sh ~O shs ~O shw n11,2 n1,3 n9,2 n8,2 ~F shs ~H awalk_at qsw n12,2 ~K ~P shw ~C n1,5 ~E a( a( ~J iasgs_one ~I a( a( ~J iasgs_two ~I ~J iasg_attr ~M iasg_sub ~G iasg_nmF ~D a? shk ~O shx ~O sh n11,2 n1,4 n9,2 n8,2 ~F shk ~C ~P shx ~C n1,5 ~E a( a( ~J iasg_nm ~D a? shk ~O sh n11,2 n1,3 n9,2 n8,2 ~F shk ~C n1,3 ~E ~Q iex_aug_nm ~D a? shv ~O shk ~O sh ~O shn n11,2 n1,5 n9,2 n30,2 ~F shv ~C ~P shk ~C ~P shn ~H adecide n1,0 n32,1 n31,2 ~K n1,7 ~E ~J iex_aug_attr ~S n1,1 n9,2 n8,2 ~B n29,2 ~B n2,2 a| ~Q iev_var a? shv ~O sh ~O shn ~O shd n11,2 n1,4 n9,2 n30,2 ~F shv ~C ~P shn ~H adecide n1,0 n32,1 n31,2 ~K ~P shd ~H adecide n1,0 n32,1 n31,2 ~K n1,7 ~E ~Q iev_gl2 ~D ~D a? se ~O shk ~O she ~O sh ~O shd n11,2 n1,7 n9,2 n30,2 ~F se ~H ak_is n16,1 ~K ~P shk ~C ~P she ~H awalk_at qer n12,2 ~K ~P shd ~H adecide n1,0 n32,1 n31,2 ~K n1,9 ~E ~Q iev_bi2 ~D ~D a? se ~O shk ~O shv ~O shn ~O she ~O sh ~O shd n11,2 n1,9 n9,2 n30,2 ~F se ~H ak_is n16,1 ~K ~P shk ~C ~P shv ~H afirst a| aboot_fast n33,1 ~B n2,2 a| aexact iboot_stop n6,2 ~B n2,2 n1,2 n0,2 ~K ~P shn ~H adecide n1,0 n32,1 n31,2 ~K ~P she ~H awalk_at qer n12,2 ~K ~P shd ~H adecide n1,0 n32,1 n31,2 ~K n1,13 ~E ~J a⟨ ikp_builtin a, ~S n1,3 a⟩ n19,3 n8,2 ~B n29,2 ~B n2,2 a| ~J a⟨ ikp_type a, ~S n1,3 a⟩ n19,3 n8,2 ~B n29,2 ~B n2,2 a| ~J iev_int ~M iev_none ~M iev_bool ~M iev_list ~M iev_tuple ~G iev_dict0 ~I ~J iev_bin ~G iev_cmp a? sh ~O shm n11,2 n1,2 n9,2 n8,2 ~F shm ~H awith_unfolding_all arfl n17,1 ~B n34,2 ~K n1,3 ~E ~J iev_ifexp ~M iev_and ~M iev_or ~M iev_bool1 ~G iev_attr ~I a( a( ~J iev_call ~I a( a( ~J iev_mcall a? sh ~O shb ~O shf ~O shl n11,2 n1,4 n9,2 n8,2 ~F shb ~C ~P shf ~C ~P shl ~C n1,7 ~E a( a( ~J iev_mstar a? sh ~O shb ~O shf n11,2 n1,3 n9,2 n8,2 ~F shb ~C ~P shf ~C n1,5 ~E ~Q iev_subslice_b ~D a? sh ~O shss n11,2 n1,3 n9,2 n30,2 ~F shss ~H a( aintro a_ n10,1 a_ n10,1 n1,2 n35,2 a; aexact a⟨ a_ n10,1 a, irfl n1,3 a⟩ n19,3 n6,2 n1,3 ~R ~K n1,3 ~E ~Q iev_subslice a? sh ~O shss n11,2 n1,2 n9,2 n30,2 ~F shss ~H a( aintro a_ n10,1 a_ n10,1 n1,2 n35,2 a; aexact a⟨ a_ n10,1 a, irfl n1,3 a⟩ n19,3 n6,2 n1,3 ~R ~K n1,3 ~E ~J iep_some ~M iep_none ~M iev_sub ~G iev_walrus ~D a? shk ~O sh n11,2 n1,3 n9,2 n8,2 ~F shk ~C n1,3 ~E ~J iit_and_nil ~M iit_or_nil ~M iit_and ~M iit_or ~M iit_not ~G iit_cmp a? sh ~O shm n11,2 n1,2 n9,2 n8,2 ~F shm ~H awith_unfolding_all arfl n17,1 ~B n34,2 ~K n1,3 ~E a( a( ~J iit_val ~I ~J itr_bool ~M itr_none ~M ibo_add ~M ibo_sub ~M iio_add ~M iio_sub ~M ico_eq ~M ico_ne ~M ico_lt ~M ico_gt ~M ico_ge ~M ico_is_bool ~M ico_is_ref_none ~M ico_isnot_ref_none ~M ico_is_none_none ~M ico_isnot_none_none ~M ico_is_reftype ~M ico_isnot_bool ~M ievs_nil ~M ievs_star ~G ievs_cons ~I ~J icw0 ~M icw1 ~M ieva_lone ~G ieva_plain ~I ~J iev_neg ~M iev_joined1 ~M iev_str ~M iex_del1 ~M imid_next ~M imid_ret ~M imid_brk ~M imid_cont ~M itry_next ~M itry_ret ~M itry_brk ~M itry_cont ~S n1,1 n9,2 n8,2 ~B n29,2 ~B n2,2 n1,107 n0,2"),
   ("for", "a( a( arefine' iex_for ~L iRoom.hand ~D n1,1 n9,2 a) n24,3 a? sh ~O shf ~O sht n11,2 n1,4 n9,2 n30,2 ~B a) n7,3 a; a( acase shf ~H aintro a_ n10,1 n1,1 n35,2 a; arfl n17,1 n1,3 n4,1 n3,1 n13,4 ~B a) n7,3 a; a( acase sht ~H aintro a_ n10,1 a_ n10,1 n1,2 n35,2 a; arfl n17,1 n1,3 n4,1 n3,1 n13,4 ~B a) n7,3 n1,5 ~R"),
   ("kpf", "a( a( arefine' a⟨ ikp_fnK ~D a? sho ~O shd n11,2 n1,3 n9,2 a, ~S n1,3 a⟩ n19,3 n30,2 ~B a) n7,3 a; a( acase sho ~H ak_is n16,1 ~K a; a( acase shd ~C n1,5 ~R"),
   ("kpc", "a( a( arefine' a⟨ ikp_class ~D a? sho ~O shd ~O shs n11,2 n1,4 n9,2 a, ~S n1,3 a⟩ n19,3 n30,2 ~B a) n7,3 a; a( acase sho ~H ak_is n16,1 ~K a; a( acase shd ~C a; a( acase shs ~H ak_is n16,1 ~K n1,7 ~R"),
   ("wkl", "a( arefine iWkL.all ~S n1,1 n9,2 n8,2 a; a( arepeat a( arefine a⟨ ~S a, ~S n1,3 a⟩ n19,3 n8,2 a; awalk_at qmem n12,2 n1,3 ~R ~B n36,2 ~B a) n7,3 a; aexact itrivial n6,2 n1,5 ~R"),
   ("wk", "a( arepeat a( afirst a| aexact iWk.refl n6,2 ~B n2,2 a| arefine iWk.cons ~S n1,1 n9,2 n8,2 ~B n2,2 n1,2 n0,2 ~B a) n7,3 ~B n36,2 ~B a) n7,3"),
   ("pick", "a( arefine iif_dec ~L afun shb0 n1,1 n1,0 a=> ~S n21,4 n20,2 a) n24,3 ~L afun shb0 n1,1 n1,0 a=> ~S n21,4 n20,2 a) n24,3 n1,2 n9,2 n8,2 a; a( afocus a( a( arepeat awalk_at qex n12,2 ~B n36,2 ~B a) n7,3 a; a( arefine a⟨ shb0.symm a, iif_yes ~S n1,1 n9,2 n1,3 a⟩ n19,3 n8,2 ~B a) n7,3 a; a( arepeat awalk_at qex n12,2 ~B n36,2 ~B a) n7,3 a; a( aexact a⟨ irfl a, ~L aby awalk_at qwkl n12,2 ~B n28,2 a) n24,3 a, ~L aby awalk_at qwk n12,2 ~B n28,2 a) n24,3 n1,5 a⟩ n19,3 n6,2 ~B a) n7,3 n1,7 ~R ~B n37,2 ~B a) n7,3 a; a( afocus a( a( arepeat awalk_at qex n12,2 ~B n36,2 ~B a) n7,3 a; a( aexact a⟨ shb0.symm a, iif_no a⟨ ~L aby awalk_at qwkl n12,2 ~B n28,2 a) n24,3 a, ~L aby awalk_at qwk n12,2 ~B n28,2 a) n24,3 n1,3 a⟩ n19,3 n1,1 n9,2 n1,3 a⟩ n19,3 n6,2 ~B a) n7,3 n1,3 ~R ~B n37,2 ~B a) n7,3 n1,5 ~R"),
   ("le", "afirst a| a( arefine ile_N ~D ~S n1,2 n9,2 n8,2 a; arfl n17,1 n1,3 ~E a( arefine ilt_N ~D ~S n1,2 n9,2 n8,2 a; arfl n17,1 n1,3 ~E a( arefine iton_N ~D ~D ~S n1,3 n9,2 n8,2 a; arfl n17,1 n1,3 ~E aexact iton_n ~D n1,1 n9,2 n6,2 ~B n2,2 a| a( arefine iint_N ~D ~D ~S n1,3 n9,2 n8,2 a; arfl n17,1 n1,3 ~E a( arefine iint_L ~D ~D ~S n1,3 n9,2 n8,2 a; arfl n17,1 n1,3 ~E aomega n1,0 n32,1 n38,2 ~B n2,2 n1,7 n0,2")].lookup z.getString | Lean.Macro.throwUnsupported
  let c := ["a? a_ n11,2", "n4,1 n3,1 a) n7,3", "a( a( awith_reducible arefine'", "n1,0 a( acase", "n11,2 a?", "a, afun a_ n10,1 a_ n10,1 n1,2 n1,0 a=> irfl n21,4 n20,2", "a? a_ ~A", "a( i[anonymous] n26,1 n25,2", "~B n13,4 ~B a) n7,3", "awith_reducible arefine", "a? sh n11,2 a? shs n11,2 n1,2 n9,2 n8,2 ~F shs ~C n1,3 ~E", "n15,1 n1,0 n14,2 n1,1 a=>", "a? a_ n11,2 n1,1 n9,2 n8,2 ~B n29,2 ~B n2,2 a| a( a( awith_reducible arefine", "~B n29,2 ~B a) n7,3 a; a( acase", "n4,1 n3,1 a) n7,3 ~B n2,2 a|", "a( i[anonymous] n26,1 n25,2 aby aassumption n5,1 ~B n28,2 a) n24,3", "n15,1 n1,0 n14,2 n1,1 a=> arfl n17,1 ~B n13,4 ~B a) n7,3", "n1,1 n4,1 n3,1", "n11,2 n1,1 n9,2 n8,2 n1,1 n4,1 n3,1 n29,2 n1,1 n4,1 n3,1 n2,2 a| awith_reducible arefine"].foldl (fun (c, i) (b : String) => (c.replace ("~" ++ (Char.ofNat i).toString) b, i - 1)) (c, 83)
  let ks := ("Lean.Parser.Tactic.first null group Lean.Parser.Tactic.tacticSeq Lean.Parser.Tactic.tacticSeq1Indented Lean.Parser.Tactic.assumption Lean.Parser.Tactic.exact Lean.Parser.Tactic.paren Lean.Parser.Tactic.refine Lean.Parser.Term.app Lean.Parser.Term.hole Lean.Parser.Term.syntheticHole PyProof.Rows.tacticWalk_at_ Lean.Parser.Tactic.case Lean.Parser.Tactic.caseArg Lean.binderIdent PySem.W.tacticK_is Lean.Parser.Tactic.tacticRfl Lean.Parser.Tactic.intros Lean.Parser.Term.anonymousCtor Lean.Parser.Term.fun Lean.Parser.Term.basicFun Lean.Parser.Term.namedArgument num Lean.Parser.Term.paren Lean.Parser.Term.hygienicLParen hygieneInfo Lean.Parser.Term.dotIdent Lean.Parser.Term.byTactic Lean.Parser.Tactic.withReducible Lean.Parser.Tactic.refine' Lean.Parser.Tactic.decide Lean.Parser.Tactic.optConfig PyProof.Rows.tacticBoot_fast Lean.Parser.Tactic.withUnfoldingAll Lean.Parser.Tactic.intro Lean.Parser.Tactic.tacticRepeat_ Lean.Parser.Tactic.focus Lean.Parser.Tactic.omega".splitOn " ").toArray.map (·.toName)
  let st ← (c.1.splitOn " ").foldlM (init := (#[] : Array Lean.Syntax)) fun st w => do
    let r := (w.drop 1).toString
    let n := if r.front = '[' then .anonymous else r.toName
    if w.front = 'a' then return st.push (Lean.mkAtom r)
    if w.front = 'i' then return st.push (Lean.mkIdent n)
    if w.front = 's' then return st.push (Lean.mkIdent (← Lean.Macro.addMacroScope n))
    if w.front = 'q' then return st.push (Lean.Syntax.mkStrLit r)
    let p := r.splitOn ","
    let k := st.size - (p.getD 1 "").toNat!
    return (st.extract 0 k).push (Lean.mkNode (ks.getD (p.headD "").toNat! .anonymous) (st.extract k st.size))
  return st.back!
section
variable {C : Cfg} {A : Around} {fx : Fx} {m : Lo} {H R : AH} {X : Value → Lo → AH → Prop} {Q : Value → Lo → AH → Prop} {n : Nat}
noncomputable abbrev liIt (l : Value) (i : Nat) : AO := .flds (.type "list_iterator") [l, vI i]
theorem ff_init {x dx w l : Addr} {xs : List Value} (T : Top C (K02 C.w.params)) (hR : Room A (n + 1)) (hl : (l, AO.list xs) ∈ R)
    (h : ∀ I, I ∉ AH.keys ((x, .inst 167 (some dx) []) :: (dx, .ns []) :: R) → Q .none m ((I, liIt (.ref l) 0) :: (x, .inst 167 (some dx) [some (.ref w), some (.ref I)]) :: (dx, .ns []) :: R)) :
    CALLC C A fx (.ref 149) [.ref x, .ref w, .ref l] m ((x, .inst 167 (some dx) []) :: (dx, .ns []) :: R) Q X := by
  refine callc_nodup fun hnd => ?_
  refine hide fun z521 => ?_
  obtain ⟨n1, n2, n3⟩ : x ≠ dx ∧ x ∉ R.keys ∧ dx ∉ R.keys := by
    simp only [keys_cons, List.nodup_cons, List.mem_cons, not_or] at hnd
    exact ⟨hnd.1.1, hnd.1.2, hnd.2.1⟩
  refine z521 ?_
  refine' call3 hR (fnAt (T := T) ?ho ?hcode ?hco ?hgen ?hk) "self" "function" "iterable" ?b1 ?b2 ?body
  walk_at "fn"
  intro A' fx' hR' Z
  repeat walk_at "ex"
  refine call_iter_l (List.mem_cons_of_mem _ (List.mem_cons_of_mem _ hl)) fun I hI => ?_
  have hI' := hI
  simp only [keys_cons, List.mem_cons, not_or] at hI'
  refine hide fun z522 => ?_
  obtain ⟨i1, i2, i3⟩ := hI'
  refine z522 ?_
  repeat walk_at "ex"
  refine sa_slot (T := T) (p := 169) (i := 1) (by kernel_rfl) (by decide) (List.mem_cons_of_mem _ List.mem_cons_self) (List.mem_cons_of_mem _ (List.mem_cons_of_mem _ List.mem_cons_self)) ?_
  rw [put_cons, if_neg i1, put_head (by simp only [keys_cons, List.mem_cons, not_or]; exact ⟨n1, n2⟩)]
  repeat walk_at "ex"
  refine sa_slot (T := T) (p := 168) (i := 0) (by kernel_rfl) (by decide) (List.mem_cons_of_mem _ List.mem_cons_self) (List.mem_cons_of_mem _ (List.mem_cons_of_mem _ List.mem_cons_self)) ?_
  rw [put_cons, if_neg i1, put_head (by simp only [keys_cons, List.mem_cons, not_or]; exact ⟨n1, n2⟩)]
  repeat walk_at "ex"
  exact h I hI
theorem ff_iter {x : Addr} (T : Top C (K02 C.w.params)) (hR : Room A (n + 1)) (h : Q (.ref x) m H) : CALLC C A fx (.ref 156) [.ref x] m H Q X := by
  refine' call1 hR (fnAt (T := T) ?ho ?hcode ?hco ?hgen ?hk) "self" ?b1 ?b2 ?body
  walk_at "fn"
  intro A' fx' hR' Z
  repeat walk_at "ex"
  exact h

theorem ff_next {x dx w l sk I : Addr} {xs ys : List Value} {e : Value → Value → Bool} {i : Nat} (T : Top C (K02 C.w.params)) (hR : Room A (n + 1)) (hl : (l, AO.list xs) ∈ R) (hw : (w, AO.flds (.type "method-wrapper") [.builtin "list.__contains__", .ref sk]) ∈ R) (hs : (sk, AO.list ys) ∈ R)
    (he : ∀ y ∈ ys, ∀ u ∈ xs, EQV C R y u (e y u)) (hi : i ≤ xs.length)
    (h1 : ∀ k v H', i ≤ k → xs[k]? = some v → (ys.any fun y => e y v) = false → (∀ j u, i ≤ j → j < k → xs[j]? = some u → (ys.any fun y => e y u) = true) → Wk H' ((I, liIt (.ref l) (k + 1)) :: (x, .inst 167 (some dx) [some (.ref w), some (.ref I)]) :: (dx, .ns []) :: R) → Q v m H')
    (h2 : ∀ ev H' R', (∀ j u, i ≤ j → xs[j]? = some u → (ys.any fun y => e y u) = true) → ExnT ev (.type "StopIteration") .none R' H' → Wk R' ((x, .inst 167 (some dx) [some (.ref w), some (.ref I)]) :: (dx, .ns []) :: R) → X (.ref ev) m H') :
    CALLC C A fx (.ref 163) [.ref x] m ((I, liIt (.ref l) i) :: (x, .inst 167 (some dx) [some (.ref w), some (.ref I)]) :: (dx, .ns []) :: R) Q X := by
  refine callc_nodup fun hnd => ?_
  refine hide fun z523 => ?_
  obtain ⟨i1, i2, i3, n1, n2, n3⟩ : I ≠ x ∧ I ≠ dx ∧ I ∉ R.keys ∧ x ≠ dx ∧ x ∉ R.keys ∧ dx ∉ R.keys := by
    simp only [keys_cons, List.nodup_cons, List.mem_cons, not_or] at hnd
    exact ⟨hnd.1.1, hnd.1.2.1, hnd.1.2.2, hnd.2.1.1, hnd.2.1.2, hnd.2.2.1⟩
  refine z523 ?_
  refine' call1x hR (fnAt (T := T) ?ho ?hcode ?hco ?hgen ?hk) "self" ?b1 ?b2 ?body
  walk_at "fn"
  intro A' fx' hR' hh Z
  repeat walk_at "ex"
  refine ga_slot (T := T) (p := 168) (i := 0) (by kernel_rfl) (List.mem_cons_of_mem _ List.mem_cons_self) (List.mem_cons_of_mem _ (List.mem_cons_of_mem _ List.mem_cons_self)) rfl rfl ?_
  repeat walk_at "ex"
  refine ex_whileX hh (fun k m' H' => ∃ i', i ≤ i' ∧ i' ≤ xs.length ∧ k = xs.length - i' ∧ (∀ j u, i ≤ j → j < i' → xs[j]? = some u → (ys.any fun y => e y u) = true) ∧
    WkL m' [("func", .ref w), ("self", .ref x)] ∧ Wk H' ((I, liIt (.ref l) i') :: (x, .inst 167 (some dx) [some (.ref w), some (.ref I)]) :: (dx, .ns []) :: R)) (xs.length - i) ⟨i, Nat.le_refl _, hi, rfl, fun j u a b => by omega, WkL.refl, Wk.refl⟩ ?_
  intro k m' H' hY3
  refine hide fun z524 => ?_
  obtain ⟨i', hi1, hi2, rfl, hsk, hm, hH⟩ := hY3
  refine z524 ?_
  refine aw_wk hm hH ?_
  repeat walk_at "ex"
  refine ga_slot (T := T) (p := 169) (i := 1) (by kernel_rfl) (List.mem_cons_of_mem _ List.mem_cons_self) (List.mem_cons_of_mem _ (List.mem_cons_of_mem _ List.mem_cons_self)) rfl rfl ?_
  repeat walk_at "ex"
  have hmem : ∀ {p : Addr × AO} {a b c : Addr × AO}, p ∈ R → p ∈ a :: b :: c :: R := fun h => List.mem_cons_of_mem _ (List.mem_cons_of_mem _ (List.mem_cons_of_mem _ h))
  cases hx : xs[i']? with
  | none =>
    refine call_next_end hR'.hand List.mem_cons_self (hmem hl) hx fun ev hev => ?_
    rw [put_head (by simp only [keys_cons, List.mem_cons, not_or]; exact ⟨i1, i2, i3⟩)]
    refine ⟨ev, _, _, rfl, .inl rfl, fun H₁ hT => ⟨ev, _, _, rfl, .inr (.inr hT), fun H₂ hT' => h2 ev H₂ _ (fun j u hj hu => ?_) hT' (Wk.cons Wk.refl)⟩⟩
    have hlt := (List.getElem?_eq_some_iff.mp hu).1
    have := List.getElem?_eq_none_iff.mp hx
    exact hsk j u hj (Nat.lt_of_lt_of_le hlt this) hu
  | some v =>
    have hlt := (List.getElem?_eq_some_iff.mp hx).1
    refine call_next List.mem_cons_self (hmem hl) hx ?_
    rw [put_head (by simp only [keys_cons, List.mem_cons, not_or]; exact ⟨i1, i2, i3⟩)]
    repeat walk_at "ex"
    refine ⟨kp_bmethod (hmem hw) (.inr rfl), (call_wcontains (by have := hR'.eq2; walk_at "le") (e := fun y => e y v) (hmem hw) (hmem hs) (fun y hy => (he y hy v (List.mem_of_getElem? hx)).wk (Wk.cons (Wk.cons (Wk.cons Wk.refl)))) ?_).call⟩
    repeat walk_at "ex"
    refine if_dec (fun hb => ?_) (fun hb => ?_)
    · repeat walk_at "ex"
      exact h1 i' v _ hi1 hx (by simpa using hb) hsk Wk.refl
    · repeat walk_at "ex"
      refine ⟨xs.length - (i' + 1), lt_down hlt, i' + 1, Nat.le_succ_of_le hi1, hlt, rfl, fun j u hj1 hj2 hu => ?_, WkL.cons WkL.refl, Wk.refl⟩
      by_cases hj : j < i'
      · exact hsk j u hj1 hj hu
      · have : j = i' := Nat.le_antisymm (Nat.le_of_lt_succ hj2) (Nat.not_lt.mp hj)
        subst this
        rw [hx] at hu
        cases hu
        simpa using hb
end

section
variable {C : Cfg} {A : Around} {fx : Fx} {m : Lo} {H R : AH} {X : Value → Lo → AH → Prop} {Q : Value → Lo → AH → Prop} {n : Nat}
theorem take_step {β : Type} {xs : List β} {keep : β → Bool} : ∀ (k i : Nat) (v : β), i ≤ k → xs[k]? = some v → keep v = true → (∀ j u, i ≤ j → j < k → xs[j]? = some u → keep u = false) → (xs.take (k + 1)).filter keep = (xs.take i).filter keep ++ [v]
  | k, i, v, hik, hk, hv, hsk => by
    have h1 : xs.take (k + 1) = xs.take k ++ [v] := by
      rw [List.take_add_one, hk]; rfl
    rw [h1, List.filter_append]
    have h2 : (xs.take k).filter keep = (xs.take i).filter keep := by
      have : xs.take k = xs.take i ++ (xs.drop i).take (k - i) := by
        rw [← List.take_append_drop i (xs.take k), List.take_take, Nat.min_eq_left hik, List.drop_take]
      rw [this, List.filter_append]
      have h3 : ((xs.drop i).take (k - i)).filter keep = [] := by
        rw [List.filter_eq_nil_iff]
        intro u hu
        refine hide fun z525 => ?_
        obtain ⟨j, hj, e⟩ := List.getElem_of_mem hu
        refine z525 ?_
        have hj' : j < k - i := by
          rw [List.length_take] at hj; exact Nat.lt_of_lt_of_le hj (Nat.min_le_left _ _)
        have := hsk (i + j) u (Nat.le_add_right i j) (Nat.add_lt_of_lt_sub' hj') (by
          rw [← List.getElem?_drop, ← List.getElem?_take_of_lt hj', List.getElem?_eq_getElem hj, e])
        simp [this]
      rw [h3, List.append_nil]
    rw [h2]
    simp [hv]
theorem take_end {β : Type} {xs : List β} {keep : β → Bool} (i : Nat) (hsk : ∀ j u, i ≤ j → xs[j]? = some u → keep u = false) : xs.filter keep = (xs.take i).filter keep := by
  rw [← List.take_append_drop i xs, List.filter_append, List.take_append_drop]
  have : (xs.drop i).filter keep = [] := by
    rw [List.filter_eq_nil_iff]
    intro u hu
    refine hide fun z526 => ?_
    obtain ⟨j, hj, e⟩ := List.getElem_of_mem hu
    refine z526 ?_
    have := hsk (i + j) u (Nat.le_add_right i j) (by rw [← List.getElem?_drop, List.getElem?_eq_getElem hj, e])
    simp [this]
  rw [this, List.append_nil]
theorem filter_ok {l sk : Addr} {xs ys : List Value} (e : Value → Value → Bool) (T : Top C (K02 C.w.params)) (hR : Room A (n + 3)) (hl : (l, AO.list xs) ∈ H) (hs : (sk, AO.list ys) ∈ H) (hz : xs.length < 1000000)
    (he : ∀ y ∈ ys, ∀ u ∈ xs, EQV C H y u (e y u)) (h : ∀ D, D ∉ H.keys → Q (.ref D) m ((D, .list (xs.filter fun u => !(ys.any fun y => e y u))) :: H)) : CALLC C A fx (.ref 178) [.ref l, .ref sk] m H Q X := by
  refine callc_wkp ?_
  refine' call2 hR (fnAt (T := T) ?ho ?hcode ?hco ?hgen ?hk) "flist" "skip" ?b1 ?b2 ?body
  walk_at "fn"
  intro A' fx' hR' Z
  repeat walk_at "ex"
  refine ga_wcontains hs fun w hw => ?_
  repeat walk_at "ex"
  refine' ⟨kp_class T ?ho' ?hd' ?hs', ?_⟩
  case ho' => k_is
  case hd' => rfl
  case hs' => k_is
  refine (call_make (T := T) (f := 149) ?hm' ?hi' ?hf' ?_).call
  case hm' => k_is
  case hi' => k_is
  case hf' => k_is
  intro A₂ x dx hN hx hdx hne
  refine ff_init T (hR'.near hN) (List.mem_cons_of_mem _ hl) fun I hI => ⟨rfl, ?_⟩
  repeat walk_at "ex"
  simp only [keys_cons, List.mem_cons, not_or] at hx hdx hI
  refine call_list_own (T := T) (f := 156) (g := .ref 163) (sl := [some (.ref w), some (.ref I)]) (fs := []) (fun D k m' H' => ∃ i, i ≤ xs.length ∧ k = xs.length - i ∧ m' = ([("flist", .ref l), ("skip", .ref sk)] : Lo) ∧
    Wk H' ((I, liIt (.ref l) i) :: (x, .inst 167 (some dx) [some (.ref w), some (.ref I)]) :: (dx, .ns []) :: (D, .list ((xs.take i).filter fun u => !(ys.any fun y => e y u))) :: (w, .flds (.type "method-wrapper") [.builtin "list.__contains__", .ref sk]) :: H)) xs.length ?hi ?hn ?hl (List.mem_cons_of_mem _ List.mem_cons_self) (List.mem_cons_of_mem _ (List.mem_cons_of_mem _ List.mem_cons_self)) ?h0 ?turn
  case hi => kernel_rfl
  case hn => k_is
  case hl => kernel_rfl
  case h0 =>
    intro D hD
    refine (ff_iter T (hR'.in2) ?_).call
    refine ⟨rfl, ⟨_, List.mem_cons_of_mem _ (List.mem_cons_of_mem _ List.mem_cons_self)⟩, ⟨_, List.mem_cons_of_mem _ (List.mem_cons_of_mem _ (List.mem_cons_of_mem _ List.mem_cons_self))⟩, List.mem_cons_self, 0, Nat.zero_le _, rfl, rfl, ?_⟩
    rw [put_head hD]
    exact Wk.swap.trans (Wk.keep (Wk.swap.trans (Wk.keep Wk.swap)))
  case turn =>
    intro D hD k m' H' hJ
    refine hide fun z527 => ?_
    obtain ⟨i, hi, rfl, rfl, hW⟩ := hJ
    refine z527 ?_
    refine aw_wk WkL.refl hW ?_
    simp only [keys_cons, List.mem_cons, not_or] at hD
    refine aw_mono (Q := fun r m' H' => match r with
      | some v => ∃ acc k, k < xs.length - i ∧ (D, AO.list acc) ∈ H' ∧ acc.length < 1000000 ∧ ∃ i, i ≤ xs.length ∧ k = xs.length - i ∧ m' = ([("flist", .ref l), ("skip", .ref sk)] : Lo) ∧
        Wk (H'.put D (.list (acc ++ [er v]))) ((I, liIt (.ref l) i) :: (x, .inst 167 (some dx) [some (.ref w), some (.ref I)]) :: (dx, .ns []) :: (D, .list ((xs.take i).filter fun u => !(ys.any fun y => e y u))) :: (w, .flds (.type "method-wrapper") [.builtin "list.__contains__", .ref sk]) :: H)
      | none => ∃ H'', Wk H' H'' ∧ Q (.ref D) m H'') ?_ (fun r m' H' q => by cases r <;> exact q) fun _ _ _ z => z
    refine aw_next_own (T := T) (Qs := fun v m' H' => ∃ acc k, k < xs.length - i ∧ (D, AO.list acc) ∈ H' ∧ acc.length < 1000000 ∧ ∃ i, i ≤ xs.length ∧ k = xs.length - i ∧ m' = ([("flist", .ref l), ("skip", .ref sk)] : Lo) ∧
        Wk (H'.put D (.list (acc ++ [v]))) ((I, liIt (.ref l) i) :: (x, .inst 167 (some dx) [some (.ref w), some (.ref I)]) :: (dx, .ns []) :: (D, .list ((xs.take i).filter fun u => !(ys.any fun y => e y u))) :: (w, .flds (.type "method-wrapper") [.builtin "list.__contains__", .ref sk]) :: H))
      (Qn := fun m' H' => ∃ H'', Wk H' H'' ∧ Q (.ref D) m H'') (f := 163) (sl := [some (.ref w), some (.ref I)]) (fs := []) ?hn (List.mem_cons_of_mem _ List.mem_cons_self) (List.mem_cons_of_mem _ (List.mem_cons_of_mem _ List.mem_cons_self)) ?_
    case hn => kernel_rfl
    refine (ff_next (e := e) T (hR'.in2) (List.mem_cons_of_mem _ (List.mem_cons_of_mem _ hl)) (List.mem_cons_of_mem _ List.mem_cons_self) (List.mem_cons_of_mem _ (List.mem_cons_of_mem _ hs)) (fun y hy u hu => (he y hy u hu).wk (Wk.cons (Wk.cons Wk.refl))) hi ?_ ?_).call
    · intro k v H'' hik hk hkeep hsk hW''
      have hlt := (List.getElem?_eq_some_iff.mp hk).1
      refine hide fun z528 => ?_
      obtain ⟨d1, d2, d3, d4, d5⟩ := hD
      refine z528 ?_
      refine ⟨_, xs.length - (k + 1), Nat.sub_lt_sub_left (Nat.lt_of_le_of_lt hik hlt) (Nat.lt_succ_of_le hik), hW''.1 _ (List.mem_cons_of_mem _ (List.mem_cons_of_mem _ (List.mem_cons_of_mem _ List.mem_cons_self))), ?_, k + 1, hlt, rfl, rfl, ?_⟩
      · have h1 := List.length_filter_le (fun u => !(ys.any fun y => e y u)) (xs.take i)
        rw [List.length_take] at h1
        exact Nat.lt_of_le_of_lt (Nat.le_trans h1 (Nat.min_le_right _ _)) hz
      · have hp := hW''.put (a := D) (o := .list ((xs.take (k + 1)).filter fun u => !(ys.any fun y => e y u)))
        rw [put_cons, put_cons, put_cons, put_cons, put_cons, if_neg (Ne.symm d1), if_neg (Ne.symm d2), if_neg (Ne.symm d3), if_pos rfl, if_neg (Ne.symm d4), put_none d5] at hp
        rw [← take_step k i v hik hk (by simp [hkeep]) fun j u a b c => by simp [hsk j u a b c]]
        exact hp
    · intro ev H'' R' hsk hT hW''
      refine ⟨ev, R', _, rfl, hT, _, hW''.trans (Wk.cons (Wk.cons (Wk.keep (Wk.cons Wk.refl)))), ?_⟩
      rw [← take_end i fun j u a c => by simp [hsk j u a c]]
      exact h D hD.2.2.2.2
end

section
variable {C : Cfg} {A : Around} {fx : Fx} {m : Lo} {H R : AH} {X : Value → Lo → AH → Prop} {Q : Value → Lo → AH → Prop} {n : Nat} {σ : SS}
noncomputable abbrev SCX (σ : SS) : AH := SC 33 130 σ
theorem nodeInit {x dx : Addr} {k : Int} (T : Top C (K02 C.w.params)) (hR : Room A (n + 1))
    (h : ∀ l, l ∉ AH.keys ((x, .inst 33 (some dx) []) :: (dx, .ns []) :: H) → Q .none m ((l, .list []) :: (x, .inst 33 (some dx) [some (vI k), some (vI 0), some (.ref l)]) :: (dx, .ns []) :: H)) :
    CALLC C A fx (.ref 29) [.ref x, vI k] m ((x, .inst 33 (some dx) []) :: (dx, .ns []) :: H) Q X := by
  refine callc_nodup fun hnd => ?_
  refine hide fun z529 => ?_
  obtain ⟨n1, n2, n3⟩ : x ≠ dx ∧ x ∉ H.keys ∧ dx ∉ H.keys := by
    simp only [keys_cons, List.nodup_cons, List.mem_cons, not_or] at hnd
    exact ⟨hnd.1.1, hnd.1.2, hnd.2.1⟩
  refine z529 ?_
  have hx' : x ∉ AH.keys ((dx, AO.ns []) :: H) := by simp only [keys_cons, List.mem_cons, not_or]; exact ⟨n1, n2⟩
  refine' call2 hR (fnAt (T := T) ?ho ?hcode ?hco ?hgen ?hk) "self" "node" ?b1 ?b2 ?body
  walk_at "fn"
  intro A' fx' hR' Z
  repeat walk_at "ex"
  refine sa_slot (T := T) (p := 34) (i := 0) (by kernel_rfl) (by decide) List.mem_cons_self (List.mem_cons_of_mem _ List.mem_cons_self) ?_
  rw [put_head hx']
  repeat walk_at "ex"
  refine sa_slot (T := T) (p := 35) (i := 1) (by kernel_rfl) (by decide) List.mem_cons_self (List.mem_cons_of_mem _ List.mem_cons_self) ?_
  rw [put_head hx']
  repeat walk_at "ex"
  refine ⟨by decide, fun l hl => ?_⟩
  have hl' := hl
  simp only [keys_cons, List.mem_cons, not_or] at hl'
  repeat walk_at "ex"
  refine sa_slot (T := T) (p := 36) (i := 2) (by kernel_rfl) (by decide) (List.mem_cons_of_mem _ List.mem_cons_self) (List.mem_cons_of_mem _ (List.mem_cons_of_mem _ List.mem_cons_self)) ?_
  rw [put_cons, if_neg hl'.1, put_head hx']
  repeat walk_at "ex"
  exact h l hl
end

section
variable {C : Cfg} {A : Around} {fx : Fx} {m : Lo} {H R : AH} {X : Value → Lo → AH → Prop} {Q : Value → Lo → AH → Prop} {n : Nat} {σ : SS}
theorem getInfo {k : Int} (T : Top C (K02 C.w.params)) (hR : Room A (n + 3)) (ok : σ.Ok) (hz : σ.recs.length ≤ 100000)
    (h : ∀ σ' r, σ'.Ok → SS.Same σ σ' → σ'.g = gEns σ.g k → r ∈ σ'.recs → r.node = k → Q (.ref r.ia) m (SCX σ' ++ R)) : CALLC C A fx (.ref 73) [.ref σ.sa, vI k] m (SCX σ ++ R) Q X := by
  refine callc_nodup fun hnd => ?_
  refine callc_wkp ?_
  refine' call2 hR (fnAt (T := T) ?ho ?hcode ?hco ?hgen ?hk) "self" "node" ?b1 ?b2 ?body
  walk_at "fn"
  intro A' fx' hR' Z
  have l1 : σ.fs.lookup ("_node2info" : PySem.Str) = some (Value.ref σ.nd) := ok.fs _
  repeat walk_at "ex"
  refine ga_dict (T := T) (by kernel_rfl) sc_sa sc_sd l1 rfl ?_
  repeat walk_at "ex"
  refine gm_dict sc_nd PySem.F.slot_dict_get PySem.F.type_dict_get ?_
  repeat walk_at "ex"
  by_cases hk : k ∈ σ.recs.map (·.node)
  · refine hide fun z530 => ?_
    obtain ⟨r, hr, rfl⟩ := rec_of hk
    refine z530 ?_
    refine call_get_some sc_nd (dval_rec ok hr) ?_
    repeat walk_at "ex"
    exact ⟨_, Wk.refl, h σ r ok SS.Same.refl (by unfold gEns; rw [g_nodes, if_pos hk]) hr rfl⟩
  · refine call_get_none sc_nd (dval_not (by rw [kvs_nodes]; exact hk)) ?_
    repeat walk_at "ex"
    refine' ⟨kp_class T ?ho' ?hd' ?hs', ?_⟩
    case ho' => k_is
    case hd' => rfl
    case hs' => k_is
    refine (call_make (T := T) (f := 29) ?hm' ?hi' ?hf' ?_).call
    case hm' => k_is
    case hi' => k_is
    case hf' => k_is
    intro A₂ x dx hN hx hdx hne
    refine nodeInit T (hR'.near hN) fun l hl => ⟨rfl, ?_⟩
    repeat walk_at "ex"
    refine ga_dict (T := T) (by kernel_rfl) (up3 sc_sa) (up3 sc_sd) l1 rfl ?_
    repeat walk_at "ex"
    refine si_dict (up3 sc_nd) (by unfold SS.kvs; rw [List.length_map]; walk_at "le") fun ep' => ?_
    simp only [keys_cons, List.mem_cons, not_or] at hl
    have hndk : σ.nd ∈ AH.keys (SCX σ ++ R) := mem_keys sc_nd
    rw [put_cons, put_cons, put_cons, if_neg (fun e => hl.2.2 (by rw [e]; exact hndk)), if_neg (fun e => hx (by rw [e]; exact hndk)), if_neg (fun e => hdx (by rw [e]; exact hndk)), put_nd hnd, stored_not (by rw [kvs_nodes]; exact hk)]
    repeat walk_at "ex"
    exact ⟨_, (Wk.swap.trans (Wk.keep Wk.swap)).trans (wk_more (r := ⟨k, x, dx, l, 0, []⟩)), h (σ.more ⟨k, x, dx, l, 0, []⟩ ep') ⟨k, x, dx, l, 0, []⟩ (more_ok ok hk) ⟨rfl, rfl, rfl, rfl, rfl, rfl⟩ (more_g hk) (List.mem_append_right _ (List.mem_singleton.mpr rfl)) rfl⟩
end

section
variable {C : Cfg} {A : Around} {fx : Fx} {m : Lo} {H R : AH} {X : Value → Lo → AH → Prop} {Q : Value → Lo → AH → Prop} {n : Nat} {σ : SS}
theorem add_ok {k : Int} {ps : List Int} {b : Nat} (T : Top C (K02 C.w.params)) (hR : Room A (n + 4)) (ok : σ.Ok) (hrdy : σ.rdy = none) (hb : Bd σ.g b) (hz : b + 2 * ps.length ≤ 90000)
    (h : ∀ σ', σ'.Ok → SS.Same σ σ' → σ'.g = gAdd σ.g k ps → Q .none m (SCX σ' ++ R)) : CALLC C A fx (.ref 80) (.ref σ.sa :: vI k :: iv ps) m (SCX σ ++ R) Q X := by
  refine callc_wkp ?_
  refine' callV2 hR (fnAt (T := T) ?ho ?hcode ?hco ?hgen ?hk) "self" "node" "predecessors" ?b1 ?b2 ?hz ?body
  case ho => k_is
  case hcode => k_is
  case hco => rfl
  case hgen => rfl
  case hk => rfl
  case b1 => intro a c r; cases r <;> rfl
  case b2 => rfl
  case hz => rw [List.length_map]; walk_at "le"
  intro A' fx' t ht hR' hh Z
  have l1 : σ.fs.lookup ("_ready_nodes" : PySem.Str) = some Value.none := by rw [ok.fs]; show some σ.rv = _; unfold SS.rv; rw [hrdy]
  refine exs_wk WkL.refl (Wk.perm (List.perm_middle (l₁ := SCX σ) (l₂ := R)).symm) ?_
  repeat walk_at "ex"
  refine ga_dict (T := T) (by kernel_rfl) sc_sa sc_sd l1 rfl ?_
  repeat walk_at "ex"
  refine gm_own (T := T) (f := 73) (by kernel_rfl) sc_sa sc_sd (ok.none (by rintro (e | e | e | e) <;> exact absurd e (by decide))) ?_
  repeat walk_at "ex"
  refine' ⟨kp_fnK T ?ho ?hd, ?_⟩
  case ho => k_is
  case hd => rfl
  refine (getInfo T hR' ok (by have := hb.len; rw [recs_len]; walk_at "le") fun σ₁ r ok₁ sm₁ hg₁ hr₁ hn₁ => ?_).call
  repeat walk_at "ex"
  refine ga_slot (T := T) (p := 35) (i := 1) (by kernel_rfl) (rec_ia hr₁) (rec_id hr₁) rfl rfl ?_
  repeat walk_at "ex"
  refine call_len_t (List.mem_append_right _ List.mem_cons_self) (by rw [List.length_map]; walk_at "le") ?_
  repeat walk_at "ex"
  refine sa_slot (T := T) (p := 35) (i := 1) (by kernel_rfl) (by decide) (rec_ia hr₁) (rec_id hr₁) ?_
  refine seq_next (exs_nodup fun hnd => ?_)
  rw [AH.keys_put] at hnd
  rw [show slSet [some (vI r.node), some (vI r.np), some (Value.ref r.la)] 1 (vI (r.np + ((iv ps).length : Int))) = [some (vI r.node), some (vI ((fun x => x + (ps.length : Int)) r.np)), some (Value.ref r.la)] from by rw [List.length_map]; rfl, put_npf (fun x => x + (ps.length : Int)) hnd ok₁ hr₁]
  generalize hσ₂ : ({ σ₁ with recs := updR' σ₁.recs r.node fun q => { q with np := (fun x => x + (ps.length : Int)) q.np } } : SS) = σ₂
  have ok₂ : σ₂.Ok := hσ₂ ▸ Ok_upd ok₁ fun _ => rfl
  have sm₂ : SS.Same σ σ₂ := sm₁.trans (hσ₂ ▸ ⟨rfl, rfl, rfl, rfl, rfl, rfl⟩)
  have hg₂ : σ₂.g = gNp (gEns σ.g k) k ps.length := by
    have e := g_upd (σ := σ₁) (k := r.node) (f := fun q => { q with np := (fun x => x + (ps.length : Int)) q.np }) (F := fun x => (x.1 + (ps.length : Int), x.2)) fun q => ⟨rfl, rfl⟩
    rw [hσ₂, hg₁, hn₁] at e
    exact e
  clear hσ₂
  repeat walk_at "ex"
  walk_at "for"
  repeat walk_at "ex"
  refine ⟨iv ps, _, itr_tup hR'.hand (List.mem_append_right _ List.mem_cons_self), fun i m' H' => ∃ σ', σ'.Ok ∧ SS.Same σ σ' ∧ σ'.g = (ps.take i).foldl (gPred k) (gNp (gEns σ.g k) k ps.length) ∧
    WkL m' [("self", .ref σ.sa), ("node", vI k)] ∧ Wk H' (SCX σ' ++ (t, .tup (iv ps)) :: R), ⟨σ₂, ok₂, sm₂, hg₂, ?_, Wk.refl⟩, ?_, ?_, ?_⟩
  · walk_at "wkl"
  · intro i m' H' hY3
    refine hide fun z531 => ?_
    obtain ⟨σ', _, _, _, _, hW⟩ := hY3
    refine z531 ?_
    exact hW.1 _ (List.mem_append_right _ List.mem_cons_self)
  · intro i v m' H' hv hY5
    refine hide fun z532 => ?_
    obtain ⟨σ', ok', sm', hg', hm, hW⟩ := hY5
    refine z532 ?_
    refine hide fun z533 => ?_
    obtain ⟨p, hp, rfl⟩ := iv_get hv
    refine z533 ?_
    rw [← sm'.sa] at hm
    refine asg_wk hm hW ?_
    repeat walk_at "ex"
    refine gm_own (T := T) (f := 73) (by kernel_rfl) sc_sa sc_sd (ok'.none (by rintro (e | e | e | e) <;> exact absurd e (by decide))) ?_
    repeat walk_at "ex"
    walk_at "kpf"
    have hlt := (List.getElem?_eq_some_iff.mp hp).1
    have hb' : Bd σ'.g (b + 1 + 2 * i) := by
      rw [hg']
      have := Bd.fold (k := k) (ps.take i) (Bd.np (k := k) (v := ps.length) (hb.ens (k := k)))
      rw [List.length_take, Nat.min_eq_left (Nat.le_of_lt hlt)] at this
      exact this
    refine (getInfo T hR' ok' (by have := hb'.len; rw [recs_len]; walk_at "le") fun σ₃ r₃ ok₃ sm₃ hg₃ hr₃ hn₃ => ?_).call
    repeat walk_at "ex"
    refine ga_slot (T := T) (p := 36) (i := 2) (by kernel_rfl) (rec_ia hr₃) (rec_id hr₃) rfl rfl ?_
    repeat walk_at "ex"
    refine gm_list (rec_la hr₃) PySem.F.slot_list_append PySem.F.type_list_append ?_
    repeat walk_at "ex"
    have hb₃ : Bd σ₃.g (b + 1 + 2 * i + 1) := by rw [hg₃]; exact hb'.ens
    refine call_append (rec_la hr₃) (by have := recs_su hb₃ hr₃; rw [List.length_map]; walk_at "le") ?_
    refine seq_next (exs_nodup fun hnd₃ => ?_)
    rw [AH.keys_put] at hnd₃
    rw [show iv r₃.su ++ [vI k] = iv ((fun l => l ++ [k]) r₃.su) from by show _ = iv (r₃.su ++ [k]); rw [iv_append]; rfl, put_suf (fun l => l ++ [k]) hnd₃ ok₃ hr₃]
    obtain ⟨σ₄, hσ₄⟩ : ∃ σ₄ : SS, σ₄ = { σ₃ with recs := updR' σ₃.recs r₃.node fun q => { q with su := (fun l => l ++ [k]) q.su } } := ⟨_, rfl⟩
    rw [← hσ₄]
    repeat walk_at "ex"
    refine ⟨σ₄, hσ₄ ▸ Ok_upd ok₃ fun _ => rfl, sm'.trans (sm₃.trans (hσ₄ ▸ ⟨rfl, rfl, rfl, rfl, rfl, rfl⟩)), ?_, ?_, Wk.refl⟩
    · have e := g_upd (σ := σ₃) (k := r₃.node) (f := fun q => { q with su := (fun l => l ++ [k]) q.su }) (F := fun x => (x.1, x.2 ++ [k])) fun q => ⟨rfl, rfl⟩
      rw [← hσ₄, hg₃, hn₃] at e
      rw [fold_take _ _ hp, ← hg']
      exact e
    · rw [← sm'.sa]
      walk_at "wkl"
  · intro m' H' hY2
    refine hide fun z534 => ?_
    obtain ⟨σ', ok', sm', hg', hm, hW⟩ := hY2
    refine z534 ?_
    rw [List.length_map, List.take_length] at hg'
    repeat walk_at "ex"
    exact ⟨_, hW.trans (Wk.sub (List.Sublist.append_left (List.sublist_cons_self _ _) _)), h σ' ok' sm' hg'⟩
end

section
variable {C : Cfg} {A : Around} {fx : Fx} {m : Lo} {H R : AH} {X : Value → Lo → AH → Prop} {Q : Value → Lo → AH → Prop} {n : Nat}
noncomputable def fs0 (nd : Addr) : List (PySem.Str × Value) := nsPut (nsPut (nsPut (nsPut [] "_node2info" (.ref nd)) "_ready_nodes" .none) "_npassedout" (vI 0)) "_nfinished" (vI 0)
noncomputable def ss0 (sa sd nd : Addr) : SS := ⟨sa, sd, nd, fs0 nd, 0, [], none, 0, 0⟩
theorem ss0_ok {sa sd nd : Addr} : (ss0 sa sd nd).Ok := by
  refine ⟨fun y => ?_, Nat.le_trans (Nat.le_of_eq rfl) (show 4 ≤ 100 by decide), List.nodup_nil⟩
  show (fs0 nd).lookup y = _
  unfold fs0 SS.look
  rw [nsPut_lookup, nsPut_lookup, nsPut_lookup, nsPut_lookup]
  by_cases h1 : y = "_nfinished"
  · subst h1; rfl
  · by_cases h2 : y = "_npassedout"
    · subst h2; rfl
    · by_cases h3 : y = "_ready_nodes"
      · subst h3; rfl
      · by_cases h4 : y = "_node2info"
        · subst h4; rfl
        · simp only [if_neg h1, if_neg h2, if_neg h3, if_neg h4]; rfl
theorem init0 {x dx : Addr} (T : Top C (K02 C.w.params)) (hR : Room A (n + 1))
    (h : ∀ nd, Q .none m (SCX (ss0 x dx nd) ++ R)) : CALLC C A fx (.ref 66) [.ref x] m ((x, .inst 130 (some dx) []) :: (dx, .ns []) :: R) Q X := by
  refine callc_nodup fun hnd => ?_
  refine callc_wkp ?_
  refine' callD (bs := [("self", .ref x), ("graph", .none)]) hR (fnAt (T := T) ?ho ?hcode ?hco ?hgen ?hk) ?hd T ?hoT ?hs ?binds ?hb ?hB ?h
  case ho => k_is
  case hcode => k_is
  case hco => rfl
  case hgen => rfl
  case hk => rfl
  case hd => rfl
  case hoT => k_is
  case hs => rfl
  case binds => exact fun vs => [("self", vs.headD .none), ("graph", .none)]
  case hb =>
    intro vs hvs
    refine hide fun z535 => ?_
    obtain ⟨a, rfl, ha⟩ := er1 hvs
    refine z535 ?_
    exact ⟨_, rfl, rfl⟩
  case hB =>
    intro vs hvs
    refine hide fun z536 => ?_
    obtain ⟨a, rfl, ha⟩ := er1 hvs
    refine z536 ?_
    exact ⟨bindOk_of rfl, by show [(_, er a), (_, er .none)] = _; rw [ha]; rfl⟩
  intro A' fx' hR' hh Z
  refine hide fun z537 => ?_
  obtain ⟨n1, n2, n3⟩ : x ≠ dx ∧ x ∉ R.keys ∧ dx ∉ R.keys := by
    simp only [keys_cons, List.nodup_cons, List.mem_cons, not_or] at hnd
    exact ⟨hnd.1.1, hnd.1.2, hnd.2.1⟩
  refine z537 ?_
  repeat walk_at "ex"
  intro nd hnd'
  simp only [keys_cons, List.mem_cons, not_or] at hnd'
  repeat walk_at "ex"
  refine' sa_dict (T := T) (by kernel_rfl) (up1 List.mem_cons_self) (up2 List.mem_cons_self) ?hz ?_
  case hz => exact Nat.le_of_ble_eq_true rfl
  rw [put_cons, put_cons, if_neg hnd'.2.1, if_neg n1, put_head n3]
  repeat walk_at "ex"
  refine' sa_dict (T := T) (by kernel_rfl) (up1 List.mem_cons_self) (up2 List.mem_cons_self) ?hz ?_
  case hz => exact Nat.le_of_ble_eq_true rfl
  rw [put_cons, put_cons, if_neg hnd'.2.1, if_neg n1, put_head n3]
  repeat walk_at "ex"
  refine' sa_dict (T := T) (by kernel_rfl) (up1 List.mem_cons_self) (up2 List.mem_cons_self) ?hz ?_
  case hz => exact Nat.le_of_ble_eq_true rfl
  rw [put_cons, put_cons, if_neg hnd'.2.1, if_neg n1, put_head n3]
  repeat walk_at "ex"
  refine' sa_dict (T := T) (by kernel_rfl) (up1 List.mem_cons_self) (up2 List.mem_cons_self) ?hz ?_
  case hz => exact Nat.le_of_ble_eq_true rfl
  rw [put_cons, put_cons, if_neg hnd'.2.1, if_neg n1, put_head n3]
  repeat walk_at "ex"
  exact ⟨_, Wk.swap.trans (Wk.keep Wk.swap), h nd⟩
end

section
variable {C : Cfg} {A : Around} {fx : Fx} {m : Lo} {H R : AH} {X : Value → Lo → AH → Prop} {Q : Value → Lo → AH → Prop} {n : Nat} {σ : SS}
theorem ready_ok {ra : Addr} {rs : List Int} {b : Nat} (T : Top C (K02 C.w.params)) (hR : Room A (n + 4)) (ok : σ.Ok) (hrdy : σ.rdy = some (ra, rs)) (hz : rs.length ≤ 10000) (hin : ∀ x ∈ rs, x ∈ σ.g.map (·.1))
    (h : ∀ σ' t, σ'.Ok → σ'.sa = σ.sa → σ'.rdy = some (ra, []) → σ'.po = σ.po + rs.length → σ'.nf = σ.nf → σ'.g = rs.foldl (gSet (-1)) σ.g → Q (.ref t) m (SCX σ' ++ (t, .tup (iv rs)) :: R)) :
    CALLC C A fx (.ref 92) [.ref σ.sa] m (SCX σ ++ R) Q X := by
  refine callc_wkp ?_
  refine' call1 hR (fnAt (T := T) ?ho ?hcode ?hco ?hgen ?hk) "self" ?b1 ?b2 ?body
  walk_at "fn"
  intro A' fx' hR' Z
  have hrv : σ.rv = .ref ra := by unfold SS.rv; rw [hrdy]
  have l1 : σ.fs.lookup ("_ready_nodes" : PySem.Str) = some (Value.ref ra) := by rw [ok.fs]; show some σ.rv = _; rw [hrv]
  have l2 : σ.fs.lookup ("_node2info" : PySem.Str) = some (Value.ref σ.nd) := ok.fs _
  have hlen : (iv rs).length ≤ 1000000 := by rw [List.length_map]; walk_at "le"
  repeat walk_at "ex"
  refine ga_dict (T := T) (by kernel_rfl) sc_sa sc_sd l1 rfl ?_
  repeat walk_at "ex"
  refine ga_dict (T := T) (by kernel_rfl) sc_sa sc_sd l1 rfl ?_
  repeat walk_at "ex"
  refine call_tuple (sc_ra hrdy) hlen fun t ht => ?_
  repeat walk_at "ex"
  refine ga_dict (T := T) (by kernel_rfl) (up1 sc_sa) (up1 sc_sd) l2 rfl ?_
  repeat walk_at "ex"
  refine ex_wk WkL.refl (Wk.perm (List.perm_middle (l₁ := SCX σ) (l₂ := R)).symm) ?_
  walk_at "for"
  repeat walk_at "ex"
  refine ⟨iv rs, _, itr_tup hR'.hand (List.mem_append_right _ List.mem_cons_self), fun i m' H' => ∃ σ', σ'.Ok ∧ σ'.sa = σ.sa ∧ σ'.sd = σ.sd ∧ σ'.nd = σ.nd ∧ σ'.rdy = some (ra, rs) ∧ σ'.po = σ.po ∧ σ'.nf = σ.nf ∧ σ'.g = (rs.take i).foldl (gSet (-1)) σ.g ∧
    WkL m' [("n2i", .ref σ.nd), ("result", .ref t), ("self", .ref σ.sa)] ∧ Wk H' (SCX σ' ++ (t, .tup (iv rs)) :: R), ⟨σ, ok, rfl, rfl, rfl, hrdy, rfl, rfl, rfl, ?_, Wk.refl⟩, ?_, ?_, ?_⟩
  · walk_at "wkl"
  · intro i m' H' hY3
    refine hide fun z538 => ?_
    obtain ⟨σ', _, _, _, _, _, _, _, _, _, hW⟩ := hY3
    refine z538 ?_
    exact hW.1 _ (List.mem_append_right _ List.mem_cons_self)
  · intro i v m' H' hv hY5
    refine hide fun z539 => ?_
    obtain ⟨σ', ok', hsa, hsd, hnd, hrd, hpo, hnf, hg', hm, hW⟩ := hY5
    refine z539 ?_
    refine hide fun z540 => ?_
    obtain ⟨x, hx, rfl⟩ := iv_get hv
    refine z540 ?_
    rw [← hnd] at hm
    refine asg_wk hm hW ?_
    repeat walk_at "ex"
    have hxn : x ∈ σ'.recs.map (·.node) := by
      rw [← g_nodes, hg', set_nodes]
      exact hin x (List.mem_of_getElem? hx)
    refine hide fun z541 => ?_
    obtain ⟨r, hr, rfl⟩ := rec_of hxn
    refine z541 ?_
    refine sub_dict sc_nd (dval_rec ok' hr) ?_
    repeat walk_at "ex"
    refine sa_slot (T := T) (p := 35) (i := 1) (by kernel_rfl) (by decide) (rec_ia hr) (rec_id hr) ?_
    refine seq_next (exs_np (fun _ => -1) ok' hr rfl ?_)
    repeat walk_at "ex"
    refine ⟨{ σ' with recs := updR' σ'.recs r.node fun q => { q with np := (fun _ => -1) q.np } }, Ok_upd ok' fun _ => rfl, hsa, hsd, hnd, hrd, hpo, hnf, ?_, ?_, Wk.refl⟩
    · rw [fold_take _ _ hx, ← hg']
      exact g_np (f := fun _ => -1)
    · rw [← hnd]
      walk_at "wkl"
  · intro m' H' hY2
    refine hide fun z542 => ?_
    obtain ⟨σ', ok', hsa, hsd, hnd, hrd, hpo, hnf, hg', hm, hW⟩ := hY2
    refine z542 ?_
    rw [List.length_map, List.take_length] at hg'
    rw [← hsa] at hm
    have hrv' : σ'.rv = .ref ra := by unfold SS.rv; rw [hrd]
    have l1' : σ'.fs.lookup ("_ready_nodes" : PySem.Str) = some (Value.ref ra) := by rw [ok'.fs]; show some σ'.rv = _; rw [hrv']
    refine exs_wk hm hW ?_
    repeat walk_at "ex"
    refine ga_dict (T := T) (by kernel_rfl) sc_sa sc_sd l1' rfl ?_
    repeat walk_at "ex"
    refine gm_list (sc_ra hrd) PySem.F.slot_list_clear PySem.F.type_list_clear ?_
    repeat walk_at "ex"
    refine call_clear (sc_ra hrd) hlen ?_
    refine seq_next (exs_ra (l' := []) hrd rfl ?_)
    repeat walk_at "ex"
    refine ga_dict (T := T) (by kernel_rfl) sc_sa sc_sd (v := vI σ'.po) (ok'.fs _) rfl ?_
    repeat walk_at "ex"
    refine call_len_t (List.mem_append_right _ List.mem_cons_self) hlen ?_
    repeat walk_at "ex"
    refine sa_dict (T := T) (by kernel_rfl) sc_sa sc_sd (Nat.le_trans ok'.len (by decide)) ?_
    refine seq_next (exs_fs ?_)
    repeat walk_at "ex"
    refine ⟨_, Wk.refl, ?_⟩
    exact h { σ' with rdy := some (ra, []), fs := nsPut σ'.fs "_npassedout" (vI (σ'.po + ((iv rs).length : Int))), po := σ'.po + ((iv rs).length : Int) } t (Ok_po (Ok_rdy ok' hrd)) hsa rfl (by show σ'.po + ((iv rs).length : Int) = _; rw [hpo, List.length_map]) hnf hg'
end

section
variable {C : Cfg} {A : Around} {fx : Fx} {m : Lo} {H R : AH} {X : Value → Lo → AH → Prop} {Q : Value → Lo → AH → Prop} {n : Nat} {σ : SS}
theorem active_ok {ra : Addr} {rs : List Int} (T : Top C (K02 C.w.params)) (hR : Room A (n + 4)) (ok : σ.Ok) (hrdy : σ.rdy = some (ra, rs)) (hz : rs.length ≤ 10000)
    (h : Q (.bool (decide (σ.nf < σ.po) || !rs.isEmpty)) m (SCX σ ++ R)) :
    CALLC C A fx (.ref 99) [.ref σ.sa] m (SCX σ ++ R) Q X := by
  refine' call1 hR (fnAt (T := T) ?ho ?hcode ?hco ?hgen ?hk) "self" ?b1 ?b2 ?body
  walk_at "fn"
  intro A' fx' hR' Z
  have hrv : σ.rv = .ref ra := by unfold SS.rv; rw [hrdy]
  have l1 : σ.fs.lookup ("_ready_nodes" : PySem.Str) = some (Value.ref ra) := by rw [ok.fs]; show some σ.rv = _; rw [hrv]
  have hlen : (iv rs).length ≤ 1000000 := by rw [List.length_map]; walk_at "le"
  repeat walk_at "ex"
  refine ga_dict (T := T) (by kernel_rfl) sc_sa sc_sd l1 rfl ?_
  repeat walk_at "ex"
  refine ga_dict (T := T) (by kernel_rfl) sc_sa sc_sd (v := vI σ.nf) (ok.fs _) rfl ?_
  repeat walk_at "ex"
  refine ga_dict (T := T) (by kernel_rfl) sc_sa sc_sd (v := vI σ.po) (ok.fs _) rfl ?_
  repeat walk_at "ex"
  refine if_dec (fun hb => ?_) (fun hb => ?_)
  · repeat walk_at "ex"
    rw [hb] at h ⊢
    exact h
  · repeat walk_at "ex"
    refine ga_dict (T := T) (by kernel_rfl) sc_sa sc_sd l1 rfl ?_
    repeat walk_at "ex"
    refine call_bool_l (sc_ra hrdy) hlen ?_
    repeat walk_at "ex"
    rw [hb, Bool.false_or] at h
    rw [List.isEmpty_map]
    exact h
end

section
variable {C : Cfg} {A : Around} {fx : Fx} {m : Lo} {H R : AH} {X : Value → Lo → AH → Prop} {Q : Value → Lo → AH → Prop} {n : Nat} {σ : SS}
theorem gDec_eq (st : G × List Int) (s : Int) : gDec st s = (gUpd st.1 s fun x => (x.1 - 1, x.2), if (gAt (gUpd st.1 s fun x => (x.1 - 1, x.2)) s).map (·.1) = some 0 then st.2 ++ [s] else st.2) := rfl
theorem la_upd {recs : List NI} {k : Int} {f : Int → Int} {la : Addr} {su : List Int} (h : ∃ r ∈ recs, r.la = la ∧ r.su = su) : ∃ r ∈ updR' recs k (fun q => { q with np := f q.np }), r.la = la ∧ r.su = su := by
  refine hide fun z543 => ?_
  obtain ⟨r, hr, h1, h2⟩ := h
  refine z543 ?_
  refine ⟨_, List.mem_map.mpr ⟨r, hr, rfl⟩, ?_, ?_⟩ <;> (split <;> assumption)
theorem done_ok {ra : Addr} {rs xs : List Int} {b : Nat} (T : Top C (K02 C.w.params)) (hR : Room A (n + 4)) (ok : σ.Ok) (hrdy : σ.rdy = some (ra, rs)) (hb : Bd σ.g b) (hz : rs.length + xs.length * b ≤ 100000) (hz2 : xs.length ≤ 10000)
    (hout : ∀ i x, xs[i]? = some x → ∃ su, gAt (gDone (σ.g, rs) (xs.take i)).1 x = some (-1, su)) (hcl : ∀ k x, gAt σ.g k = some x → ∀ s ∈ x.2, s ∈ σ.g.map (·.1))
    (h : ∀ σ', σ'.Ok → σ'.sa = σ.sa → σ'.rdy = some (ra, (gDone (σ.g, rs) xs).2) → σ'.po = σ.po → σ'.nf = σ.nf + xs.length → σ'.g = (gDone (σ.g, rs) xs).1 → Q .none m (SCX σ' ++ R)) :
    CALLC C A fx (.ref 113) (.ref σ.sa :: iv xs) m (SCX σ ++ R) Q X := by
  refine callc_wkp ?_
  refine' callV1 hR (fnAt (T := T) ?ho ?hcode ?hco ?hgen ?hk) "self" "nodes" ?b1 ?b2 ?hz ?body
  case ho => k_is
  case hcode => k_is
  case hco => rfl
  case hgen => rfl
  case hk => rfl
  case b1 => intro a r; cases r <;> rfl
  case b2 => rfl
  case hz => rw [List.length_map]; walk_at "le"
  intro A' fx' t ht hR' hh Z
  have hrv : σ.rv = .ref ra := by unfold SS.rv; rw [hrdy]
  have l1 : σ.fs.lookup ("_ready_nodes" : PySem.Str) = some (Value.ref ra) := by rw [ok.fs]; show some σ.rv = _; rw [hrv]
  have l2 : σ.fs.lookup ("_node2info" : PySem.Str) = some (Value.ref σ.nd) := ok.fs _
  refine exs_wk WkL.refl (Wk.perm (List.perm_middle (l₁ := SCX σ) (l₂ := R)).symm) ?_
  repeat walk_at "ex"
  refine ga_dict (T := T) (by kernel_rfl) sc_sa sc_sd l1 rfl ?_
  repeat walk_at "ex"
  refine ga_dict (T := T) (by kernel_rfl) sc_sa sc_sd l2 rfl ?_
  repeat walk_at "ex"
  walk_at "for"
  repeat walk_at "ex"
  refine ⟨iv xs, _, itr_tup hR'.hand (List.mem_append_right _ List.mem_cons_self), fun i m' H' => ∃ σ', σ'.Ok ∧ σ'.sa = σ.sa ∧ σ'.nd = σ.nd ∧ σ'.rdy = some (ra, (gDone (σ.g, rs) (xs.take i)).2) ∧ σ'.po = σ.po ∧ σ'.nf = σ.nf + i ∧ σ'.g = (gDone (σ.g, rs) (xs.take i)).1 ∧
    WkL m' [("n2i", .ref σ.nd), ("self", .ref σ.sa)] ∧ Wk H' (SCX σ' ++ (t, .tup (iv xs)) :: R), ⟨σ, ok, rfl, rfl, hrdy, rfl, (by simp), rfl, ?_, Wk.refl⟩, ?_, ?_, ?_⟩
  · walk_at "wkl"
  · intro i m' H' hY3
    refine hide fun z544 => ?_
    obtain ⟨σ', _, _, _, _, _, _, _, _, hW⟩ := hY3
    refine z544 ?_
    exact hW.1 _ (List.mem_append_right _ List.mem_cons_self)
  · intro i v m' H' hv hY5
    refine hide fun z545 => ?_
    obtain ⟨σ', ok', hsa, hnd, hrd, hpo, hnf, hg', hm, hW⟩ := hY5
    refine z545 ?_
    refine hide fun z546 => ?_
    obtain ⟨x, hx, rfl⟩ := iv_get hv
    refine z546 ?_
    rw [← hnd, ← hsa] at hm
    refine asg_wk hm hW ?_
    obtain ⟨su, hat⟩ := hout i x hx
    rw [← hg'] at hat
    have hxn : x ∈ σ'.recs.map (·.node) := by
      rw [← g_nodes]
      exact List.mem_map_of_mem (f := (·.1)) (mem_gAt hat)
    refine hide fun z547 => ?_
    obtain ⟨r, hr, rfl⟩ := rec_of hxn
    refine z547 ?_
    rw [rec_gAt ok' hr] at hat
    obtain ⟨hnp, rfl⟩ := Prod.mk.inj (Option.some.inj hat)
    repeat walk_at "ex"
    refine gm_dict sc_nd PySem.F.slot_dict_get PySem.F.type_dict_get ?_
    repeat walk_at "ex"
    refine call_get_some sc_nd (dval_rec ok' hr) ?_
    repeat walk_at "ex"
    refine ga_slot (T := T) (p := 35) (i := 1) (by kernel_rfl) (rec_ia hr) (rec_id hr) rfl rfl ?_
    repeat walk_at "ex"
    refine if_dec (fun hb => absurd hb (by rw [hnp]; decide)) (fun _ => ?_)
    repeat walk_at "ex"
    refine sa_slot (T := T) (p := 35) (i := 1) (by kernel_rfl) (by decide) (rec_ia hr) (rec_id hr) ?_
    refine seq_next (exs_np (fun _ => -2) ok' hr rfl ?_)
    obtain ⟨σ₁, hσ₁⟩ : ∃ σ₁ : SS, σ₁ = { σ' with recs := updR' σ'.recs r.node fun q => { q with np := (fun _ => (-2 : Int)) q.np } } := ⟨_, rfl⟩
    obtain ⟨r₁, hr₁, e1, e2, e3, e4⟩ : ∃ r₁ ∈ σ₁.recs, r₁.ia = r.ia ∧ r₁.id = r.id ∧ r₁.la = r.la ∧ r₁.su = r.su := ⟨{ r with np := -2 }, by rw [hσ₁]; exact upd_mem (f := fun q : NI => { q with np := (fun _ => (-2 : Int)) q.np }) hr rfl, rfl, rfl, rfl, rfl⟩
    have ok₁ : σ₁.Ok := hσ₁ ▸ Ok_upd ok' fun _ => rfl
    have hg₁ : σ₁.g = gSet (-2) σ'.g r.node := hσ₁ ▸ g_np (f := fun _ => -2)
    have q1 : σ₁.sa = σ'.sa ∧ σ₁.nd = σ'.nd ∧ σ₁.rdy = σ'.rdy ∧ σ₁.po = σ'.po ∧ σ₁.nf = σ'.nf := by rw [hσ₁]; exact ⟨rfl, rfl, rfl, rfl, rfl⟩
    rw [← hσ₁, ← e1]
    clear hσ₁
    refine hide fun z548 => ?_
    obtain ⟨q1, q2, q3, q4, q5⟩ := q1
    refine z548 ?_
    have hdone : gDone (σ.g, rs) (xs.take (i + 1)) = r.su.foldl gDec (σ₁.g, (gDone (σ.g, rs) (xs.take i)).2) := by
      unfold gDone
      rw [fold_take _ _ hx]
      show gDone1 (gDone (σ.g, rs) (xs.take i)) r.node = _
      unfold gDone1
      rw [← hg', rec_gAt ok' hr, hg₁]
      rfl
    have hsn : ∀ s ∈ r.su, s ∈ σ.g.map (·.1) := by
      have z := done_su (j := r.node) (xs := xs.take i) (st := (σ.g, rs))
      rw [show (xs.take i).foldl gDone1 (σ.g, rs) = gDone (σ.g, rs) (xs.take i) from rfl, ← hg', rec_gAt ok' hr] at z
      cases w : gAt σ.g r.node with
      | none => rw [w] at z; cases z
      | some y =>
        rw [w] at z
        have : r.su = y.2 := Option.some.inj z
        rw [this]
        exact hcl _ _ w
    have hn₁ : σ₁.g.map (·.1) = σ.g.map (·.1) := by
      rw [hg₁, hg']
      exact (upd_nodes (g := (gDone (σ.g, rs) (xs.take i)).1) (k := r.node) (f := fun y => (-2, y.2))).trans (done_nodes (xs := xs.take i) (st := (σ.g, rs)))
    have hLl : (gDone (σ.g, rs) (xs.take i)).2.length + r.su.length ≤ 200000 := by
      have hlt := (List.getElem?_eq_some_iff.mp hx).1
      have w1 := done_len (b := b) (σ.g, rs) (fun j => by
        cases w : gAt σ.g j with
        | none => exact Nat.zero_le _
        | some y => exact hb.su _ (mem_gAt w)) (xs.take i)
      rw [List.length_take, Nat.min_eq_left (Nat.le_of_lt hlt)] at w1
      have w2 : r.su.length ≤ b := by
        have z := done_su (j := r.node) (xs := xs.take i) (st := (σ.g, rs))
        rw [show (xs.take i).foldl gDone1 (σ.g, rs) = gDone (σ.g, rs) (xs.take i) from rfl, ← hg', rec_gAt ok' hr] at z
        cases w : gAt σ.g r.node with
        | none => rw [w] at z; cases z
        | some y =>
          rw [w] at z
          rw [show r.su = y.2 from Option.some.inj z]
          exact hb.su _ (mem_gAt w)
      have w3 : (i + 1) * b ≤ xs.length * b := Nat.mul_le_mul_right _ hlt
      have w4 : (gDone (σ.g, rs) (xs.take i)).2.length ≤ rs.length + i * b := w1
      rw [Nat.succ_mul] at w3
      omega
    generalize hL : (gDone (σ.g, rs) (xs.take i)).2 = L at *
    repeat walk_at "ex"
    walk_at "for"
    repeat walk_at "ex"
    refine ga_slot (T := T) (p := 36) (i := 2) (by kernel_rfl) (rec_ia hr₁) (rec_id hr₁) rfl rfl ?_
    refine ⟨iv r₁.su, _, itr_list hR'.hand (rec_la hr₁), fun j m' H' => ∃ σ₂, σ₂.Ok ∧ σ₂.sa = σ'.sa ∧ σ₂.nd = σ'.nd ∧ σ₂.rdy = some (ra, ((r.su.take j).foldl gDec (σ₁.g, L)).2) ∧ σ₂.po = σ'.po ∧ σ₂.nf = σ'.nf ∧ σ₂.g = ((r.su.take j).foldl gDec (σ₁.g, L)).1 ∧
      (∃ r₂ ∈ σ₂.recs, r₂.la = r₁.la ∧ r₂.su = r₁.su) ∧ WkL m' [("n2i", .ref σ'.nd), ("self", .ref σ'.sa)] ∧ Wk H' (SCX σ₂ ++ (t, .tup (iv xs)) :: R), ⟨σ₁, ok₁, q1, q2, q3.trans hrd, q4, q5, rfl, ⟨r₁, hr₁, rfl, rfl⟩, ?_, Wk.refl⟩, ?_, ?_, ?_⟩
    · walk_at "wkl"
    · intro j m' H' hY3
      refine hide fun z549 => ?_
      obtain ⟨σ₂, _, _, _, _, _, _, _, ⟨r₂, hr₂, z1, z2⟩, _, hW⟩ := hY3
      refine z549 ?_
      rw [← z1, ← z2]
      exact hW.1 _ (rec_la hr₂)
    · intro j w m' H' hw hY5
      refine hide fun z550 => ?_
      obtain ⟨σ₂, ok₂, hsa₂, hnd₂, hrd₂, hpo₂, hnf₂, hg₂, hla₂, hm, hW⟩ := hY5
      refine z550 ?_
      refine hide fun z551 => ?_
      obtain ⟨s, hs, rfl⟩ := iv_get hw
      refine z551 ?_
      rw [e4] at hs
      rw [← hnd₂, ← hsa₂] at hm
      refine asg_wk hm hW ?_
      repeat walk_at "ex"
      have hsr : s ∈ σ₂.recs.map (·.node) := by
        rw [← g_nodes, hg₂]
        exact (decs_nodes (su := r.su.take j) (st := (σ₁.g, L))).symm ▸ (hn₁.symm ▸ hsn s (List.mem_of_getElem? hs))
      refine hide fun z552 => ?_
      obtain ⟨p, hp, rfl⟩ := rec_of hsr
      refine z552 ?_
      refine sub_dict sc_nd (dval_rec ok₂ hp) ?_
      repeat walk_at "ex"
      refine ga_slot (T := T) (p := 35) (i := 1) (by kernel_rfl) (rec_ia hp) (rec_id hp) rfl rfl ?_
      repeat walk_at "ex"
      refine sa_slot (T := T) (p := 35) (i := 1) (by kernel_rfl) (by decide) (rec_ia hp) (rec_id hp) ?_
      refine seq_next (exs_np (fun v => v - 1) ok₂ hp rfl ?_)
      obtain ⟨σ₃, hσ₃⟩ : ∃ σ₃ : SS, σ₃ = { σ₂ with recs := updR' σ₂.recs p.node fun q => { q with np := (fun v => v - 1) q.np } } := ⟨_, rfl⟩
      obtain ⟨p₃, hp₃, f1, f2, f3⟩ : ∃ p₃ ∈ σ₃.recs, p₃.ia = p.ia ∧ p₃.np = p.np - 1 ∧ p₃.node = p.node := ⟨{ p with np := p.np - 1 }, by rw [hσ₃]; exact upd_mem (f := fun q : NI => { q with np := (fun v => v - 1) q.np }) hp rfl, rfl, rfl, rfl⟩
      have ok₃ : σ₃.Ok := hσ₃ ▸ Ok_upd ok₂ fun _ => rfl
      have hg₃ : σ₃.g = gUpd σ₂.g p.node fun x => (x.1 - 1, x.2) := hσ₃ ▸ g_np (f := fun v => v - 1)
      have hla₃ : ∃ r₂ ∈ σ₃.recs, r₂.la = r₁.la ∧ r₂.su = r₁.su := by rw [hσ₃]; exact la_upd (k := p.node) (f := fun v => v - 1) hla₂
      have w1 : σ₃.sa = σ₂.sa ∧ σ₃.nd = σ₂.nd ∧ σ₃.rdy = σ₂.rdy ∧ σ₃.po = σ₂.po ∧ σ₃.nf = σ₂.nf := by rw [hσ₃]; exact ⟨rfl, rfl, rfl, rfl, rfl⟩
      rw [← hσ₃, ← f1]
      clear hσ₃
      refine hide fun z553 => ?_
      obtain ⟨w1, w2, w3, w4, w5⟩ := w1
      refine z553 ?_
      have hat₃ : (gAt σ₃.g p.node).map (·.1) = some (p.np - 1) := by rw [← f3, rec_gAt ok₃ hp₃, f2]; rfl
      have hdec : (r.su.take (j + 1)).foldl gDec (σ₁.g, L) = (σ₃.g, if p.np - 1 = 0 then ((r.su.take j).foldl gDec (σ₁.g, L)).2 ++ [p.node] else ((r.su.take j).foldl gDec (σ₁.g, L)).2) := by
        rw [fold_take _ _ hs, gDec_eq, ← hg₂, ← hg₃, hat₃]
        simp only [Option.some.injEq]
      repeat walk_at "ex"
      refine ga_slot (T := T) (p := 35) (i := 1) (by kernel_rfl) (rec_ia hp₃) (rec_id hp₃) rfl rfl ?_
      repeat walk_at "ex"
      have hrd₃ : σ₃.rdy = some (ra, ((r.su.take j).foldl gDec (σ₁.g, L)).2) := w3.trans hrd₂
      have hrv₃ : σ₃.rv = .ref ra := by unfold SS.rv; rw [hrd₃]
      have l1₃ : σ₃.fs.lookup ("_ready_nodes" : PySem.Str) = some (Value.ref ra) := by rw [ok₃.fs]; show some σ₃.rv = _; rw [hrv₃]
      refine if_dec (fun hb0 => ?_) (fun hb0 => ?_)
      · have h0 : p.np - 1 = 0 := by rw [f2] at hb0; simpa using hb0
        rw [if_pos h0] at hdec
        repeat walk_at "ex"
        rw [← w1]
        refine ga_dict (T := T) (by kernel_rfl) sc_sa sc_sd l1₃ rfl ?_
        repeat walk_at "ex"
        refine gm_list (sc_ra hrd₃) PySem.F.slot_list_append PySem.F.type_list_append ?_
        repeat walk_at "ex"
        have hjl := (List.getElem?_eq_some_iff.mp hs).1
        have hdl := decs_len (su := r.su.take j) (st := (σ₁.g, L))
        rw [List.length_take] at hdl
        refine call_append (sc_ra hrd₃) (by rw [List.length_map]; have hdl' : (List.foldl gDec (σ₁.g, L) (List.take j r.su)).2.length ≤ L.length + min j r.su.length := hdl; omega) ?_
        refine seq_next (exs_ra (l' := ((r.su.take j).foldl gDec (σ₁.g, L)).2 ++ [p.node]) hrd₃ (by rw [iv_append]; rfl) ?_)
        repeat walk_at "ex"
        exact ⟨_, Ok_rdy ok₃ hrd₃, w1.trans hsa₂, w2.trans hnd₂, by rw [hdec], w4.trans hpo₂, w5.trans hnf₂, by rw [hdec]; rfl, hla₃, by rw [← hnd₂, ← hsa₂, ← w1]; walk_at "wkl", Wk.refl⟩
      · have h0 : ¬ p.np - 1 = 0 := by rw [f2] at hb0; simpa using hb0
        rw [if_neg h0] at hdec
        repeat walk_at "ex"
        exact ⟨σ₃, ok₃, w1.trans hsa₂, w2.trans hnd₂, by rw [hdec]; exact hrd₃, w4.trans hpo₂, w5.trans hnf₂, by rw [hdec], hla₃, by rw [← hnd₂, ← hsa₂]; walk_at "wkl", Wk.refl⟩
    · intro m' H' hY2
      refine hide fun z554 => ?_
      obtain ⟨σ₂, ok₂, hsa₂, hnd₂, hrd₂, hpo₂, hnf₂, hg₂, hla₂, hm, hW⟩ := hY2
      refine z554 ?_
      rw [List.length_map, e4, List.take_length] at hrd₂ hg₂
      rw [← hsa₂] at hm
      refine exs_wk hm hW ?_
      repeat walk_at "ex"
      refine ga_dict (T := T) (by kernel_rfl) sc_sa sc_sd (v := vI σ₂.nf) (ok₂.fs _) rfl ?_
      repeat walk_at "ex"
      refine sa_dict (T := T) (by kernel_rfl) sc_sa sc_sd (Nat.le_trans ok₂.len (by decide)) ?_
      refine seq_next (exs_fs ?_)
      repeat walk_at "ex"
      refine ⟨{ σ₂ with fs := nsPut σ₂.fs "_nfinished" (vI (σ₂.nf + 1)), nf := σ₂.nf + 1 }, Ok_nf ok₂, hsa₂.trans hsa, hnd₂.trans hnd, ?_, hpo₂.trans hpo, ?_, ?_, ?_, Wk.refl⟩
      · rw [hdone]; exact hrd₂
      · show σ₂.nf + 1 = _
        rw [hnf₂, hnf]; push_cast; omega
      · rw [hdone]; exact hg₂
      · rw [← hnd, ← hsa, ← hsa₂]
        walk_at "wkl"
  · intro m' H' hY2
    refine hide fun z555 => ?_
    obtain ⟨σ', ok', hsa, hnd, hrd, hpo, hnf, hg', hm, hW⟩ := hY2
    refine z555 ?_
    rw [List.length_map] at hnf hrd hg'
    rw [List.take_length] at hrd hg'
    repeat walk_at "ex"
    exact ⟨_, hW.trans (Wk.sub (List.Sublist.append_left (List.sublist_cons_self _ _) _)), h σ' ok' hsa hrd hpo hnf hg'⟩
end

section
variable {C : Cfg} {A : Around} {fx : Fx} {m : Lo} {H R : AH} {X : Value → Lo → AH → Prop} {Q : Value → Lo → AH → Prop} {n : Nat} {σ : SS}
noncomputable def FrOk (σ : SS) (fr : List FR) : Prop := ∀ f ∈ fr, ∃ r ∈ σ.recs, r.node = f.node ∧ r.la = f.la
theorem gSuc_rec {r : NI} (ok : σ.Ok) (hr : r ∈ σ.recs) : gSuc σ.g r.node = r.su := by unfold gSuc; rw [rec_gAt ok hr]; rfl
theorem cycle_ok (T : Top C (K02 C.w.params)) (hR : Room A (n + 4)) (ok : σ.Ok) (hgl : σ.g.length ≤ 1000) (hcl : ∀ k x, gAt σ.g k = some x → ∀ s ∈ x.2, s ∈ σ.g.map (·.1))
    (h1 : ∀ F, Fin' σ.g F → Q .none m (SCX σ ++ R)) (h2 : ∀ v t, t ∉ AH.keys (SCX σ ++ R) → Ring σ.g v → v.length ≤ 2000 → Q (.ref t) m ((t, .list (iv v)) :: (SCX σ ++ R))) :
    CALLC C A fx (.ref 120) [.ref σ.sa] m (SCX σ ++ R) Q X := by
  refine callc_wkp ?_
  refine' call1x hR (fnAt (T := T) ?ho ?hcode ?hco ?hgen ?hk) "self" ?b1 ?b2 ?body
  walk_at "fn"
  intro A' fx' hR' hh Z
  have l2 : σ.fs.lookup ("_node2info" : PySem.Str) = some (Value.ref σ.nd) := ok.fs _
  repeat walk_at "ex"
  refine ga_dict (T := T) (by kernel_rfl) sc_sa sc_sd l2 rfl ?_
  repeat walk_at "ex"
  refine ⟨by decide, fun sk hsk => ?_⟩
  repeat walk_at "ex"
  refine ⟨by decide, fun ik hik => ?_⟩
  repeat walk_at "ex"
  refine call_set0 fun se hse => ?_
  repeat walk_at "ex"
  intro d hd
  repeat walk_at "ex"
  refine ex_wk (H' := DC ⟨sk, ik, se, d⟩ 0 [] [] (SCX σ ++ R)) WkL.refl (Wk.perm ?hperm) ?_
  case hperm => exact (List.reverse_perm [(sk, _), (ik, _), (se, _), (d, _)]).append_right _
  have hnil : SR σ.g 0 [] [] [] none := ⟨DFS.init, rfl, by rw [un_nil]; simp, by simp⟩
  have hdrop : ∀ {ep seen}, Wk (DC ⟨sk, ik, se, d⟩ ep seen [] (SCX σ ++ R)) (SCX σ ++ R) := Wk.cons (Wk.cons (Wk.cons (Wk.cons Wk.refl)))
  have hdrop2 : ∀ {ep seen fr}, Wk (DC ⟨sk, ik, se, d⟩ ep seen fr (SCX σ ++ R)) (SCX σ ++ R) := Wk.cons (Wk.cons (Wk.cons (Wk.cons (Wk.sub (List.sublist_append_right _ _)))))
  generalize hDA : (⟨sk, ik, se, d⟩ : DA) = a at *
  obtain ⟨e1, e2, e3, e4⟩ : sk = a.sk ∧ ik = a.ik ∧ se = a.se ∧ d = a.d := by rw [← hDA]; exact ⟨rfl, rfl, rfl, rfl⟩
  subst e1 e2 e3 e4
  walk_at "for"
  repeat walk_at "ex"
  refine ⟨_, _, itr_keys hR'.hand (dc_R sc_nd), fun i m' H' => ∃ seen fin ep, SR σ.g i seen fin [] none ∧
    WkL m' [("node2stacki", .ref a.d), ("seen", .ref a.se), ("itstack", .ref a.ik), ("stack", .ref a.sk), ("n2i", .ref σ.nd)] ∧ Wk H' (DC a ep seen [] (SCX σ ++ R)), ⟨[], [], 0, hnil, ?_, Wk.refl⟩, ?_, ?_, ?_⟩
  · walk_at "wkl"
  · intro i m' H' hY3
    refine hide fun z556 => ?_
    obtain ⟨seen, fin, ep, _, _, hW⟩ := hY3
    refine z556 ?_
    exact hW.1 _ (dc_R sc_nd)
  · intro i v m' H' hv hY5
    refine hide fun z557 => ?_
    obtain ⟨seen, fin, ep, hS, hm, hW⟩ := hY5
    refine z557 ?_
    rw [List.getElem?_map] at hv
    refine hide fun z558 => ?_
    obtain ⟨kv, hkv, rfl⟩ := Option.map_eq_some_iff.mp hv
    refine z558 ?_
    have hk0 : (σ.g.map (·.1))[i]? = some kv.1 := by
      rw [show σ.g.map (·.1) = σ.kvs.map (·.1) from by rw [kvs_nodes, g_nodes], List.getElem?_map, hkv]; rfl
    generalize kv.1 = k0 at *
    refine asg_wk hm hW ?_
    repeat walk_at "ex"
    refine co_in_set dc_se ?_
    repeat walk_at "ex"
    refine if_dec (fun hb0 => ?_) (fun hb0 => ?_)
    · repeat walk_at "ex"
      exact ⟨seen, fin, ep, hS.next hk0 (of_decide_eq_true hb0), WkL.cons (by walk_at "wkl"), Wk.refl⟩
    · repeat walk_at "ex"
      refine ex_while (fun N m' H' => ∃ seen fin fr ep k, Msr σ.g seen fr ≤ N ∧ SR σ.g i seen fin fr (some k) ∧ k ∈ σ.g.map (·.1) ∧ (k0 ∈ seen ∨ k = k0) ∧ FrOk σ fr ∧
        WkL m' [("node", vI k), ("node2stacki", .ref a.d), ("seen", .ref a.se), ("itstack", .ref a.ik), ("stack", .ref a.sk), ("n2i", .ref σ.nd)] ∧ Wk H' (DC a ep seen fr (SCX σ ++ R)))
        (Msr σ.g seen []) ⟨seen, fin, [], ep, k0, Nat.le_refl _, hS.enter, List.mem_of_getElem? hk0, .inr rfl, (fun f h => by cases h), WkL.refl, Wk.refl⟩ ?_
      clear hW hm hS hb0
      intro N m' H' hY3
      refine hide fun z559 => ?_
      obtain ⟨seen, fin, fr, ep, k, hN, hS, hkg, hks, hfr, hm, hW⟩ := hY3
      refine z559 ?_
      refine it_wk hm hW (aw_nodup fun hnd0 => it_val (ev_bool (tr_bool (if_yes ?_))) rfl)
      refine exs_mid (fun m' H' => ∃ seen fin fr ep, Msr σ.g seen fr ≤ N ∧ SR σ.g i seen fin fr none ∧ k0 ∈ seen ∧ FrOk σ fr ∧
        WkL m' [("node2stacki", .ref a.d), ("seen", .ref a.se), ("itstack", .ref a.ik), ("stack", .ref a.sk), ("n2i", .ref σ.nd)] ∧ Wk H' (DC a ep seen fr (SCX σ ++ R))) ?_ ?_
      · repeat walk_at "ex"
        refine co_in_set dc_se ?_
        repeat walk_at "ex"
        refine if_dec (fun hb1 => ?_) (fun hb1 => ?_)
        · have hk1 := of_decide_eq_true hb1
          repeat walk_at "ex"
          refine co_in_dict dc_d ?_
          repeat walk_at "ex"
          refine if_dec (fun hb2 => ?_) (fun hb2 => ?_)
          · refine hide fun z560 => ?_
            obtain ⟨fa, f, fb, rfl, rfl⟩ := fr_split (place_mem.mp (of_decide_eq_true hb2))
            refine z560 ?_
            repeat walk_at "ex"
            refine sub_dict dc_d (place_dval hS.dfs.stN) ?_
            repeat walk_at "ex"
            refine ⟨a.sk, _, some (fb.length : Int), none, none, rfl, dc_sk, rfl, rfl, rfl, by decide, ?_, fun t ht => ?_⟩
            · have := hS.small.1; rw [List.length_map, List.length_reverse, List.length_map]; walk_at "le"
            rw [pick_from]
            repeat walk_at "ex"
            refine ⟨Nat.le_of_ble_eq_true rfl, fun u hu => ?_⟩
            refine bo_cat (up1 List.mem_cons_self) List.mem_cons_self ?_ fun v hv => ?_
            · have := hS.small.1; rw [List.length_drop, List.length_map, List.length_reverse, List.length_map]; simp only [List.length_singleton]; omega
            repeat walk_at "ex"
            have he : List.drop fb.length (iv (List.map (fun x => x.node) (fa ++ f :: fb)).reverse) ++ [vI f.node] = iv (f.node :: (fa.map (·.node)).reverse ++ [f.node]) := by
              show List.drop _ (List.map vI _) ++ _ = _
              rw [← List.map_drop, ring_drop, iv_append]; rfl
            rw [he]
            refine ⟨_, Wk.keep (Wk.cons (Wk.cons hdrop2)), h2 _ v ?_ (Tak.ring hS.dfs.tak) ?_⟩
            rotate_left
            · have := hS.small.1; simp only [List.length_append, List.length_cons, List.length_reverse, List.length_map, List.length_nil] at this ⊢; walk_at "le"
            intro hm'
            refine hv (List.mem_cons_of_mem _ (List.mem_cons_of_mem _ ?_))
            refine hide fun z561 => ?_
            obtain ⟨q, hq, hqe⟩ := List.mem_map.mp hm'
            refine z561 ?_
            rw [← hqe]
            exact mem_keys (hdrop2.1 _ hq)
          · repeat walk_at "ex"
            refine ⟨seen, fin, fr, ep, hN, hS.known hk1 (fun hm' => absurd (decide_eq_true (place_mem.mpr hm')) (by rw [hb2]; decide)), hks.elim id fun e => e ▸ hk1, hfr, WkL.cons WkL.refl, Wk.refl⟩
        · have hk1 : k ∉ seen := of_decide_eq_false hb1
          have hkn : k ∉ fr.map (·.node) := fun hm' => hk1 ((hS.dfs.mem k).mpr (.inr hm'))
          obtain ⟨q, hq, rfl⟩ := rec_of (show k ∈ σ.recs.map (·.node) by rw [← g_nodes]; exact hkg)
          have hn1 : (AH.keys (PC a ep seen (iv (fr.map (·.node)).reverse) ((fr.map fun f => Value.ref f.w).reverse) (place fr) (FC fr ++ (SCX σ ++ R)))).Nodup := hnd0
          have hsm := hS.small
          rw [dc_pc]
          repeat walk_at "ex"
          refine gm_set pc_mse PySem.F.slot_set_add PySem.F.type_set_add ?_
          repeat walk_at "ex"
          refine call_setadd pc_mse (by walk_at "le") ?_
          rw [pc_se hn1]
          repeat walk_at "ex"
          refine gm_list pc_mik PySem.F.slot_list_append PySem.F.type_list_append ?_
          repeat walk_at "ex"
          refine sub_dict (pc_R (List.mem_append_right _ sc_nd)) (dval_rec ok hq) ?_
          repeat walk_at "ex"
          refine ga_slot (T := T) (p := 36) (i := 2) (by kernel_rfl) (pc_R (List.mem_append_right _ (rec_ia hq))) (pc_R (List.mem_append_right _ (rec_id hq))) rfl rfl ?_
          repeat walk_at "ex"
          refine call_iter_l (pc_R (List.mem_append_right _ (rec_la hq))) fun I hI => ?_
          repeat walk_at "ex"
          refine ga_wnext List.mem_cons_self fun w hw => ?_
          repeat walk_at "ex"
          simp only [keys_cons, List.mem_cons, not_or] at hw
          refine call_append (up2 pc_mik) ?hz1 ?_
          case hz1 => rw [List.length_reverse, List.length_map]; walk_at "le"
          have hn2 : (AH.keys (PC a ep (q.node :: seen) (iv (fr.map (·.node)).reverse) ((fr.map fun f => Value.ref f.w).reverse) (place fr) (FC fr ++ (SCX σ ++ R)))).Nodup := hnd0
          have hIk : I ≠ a.sk ∧ I ≠ a.ik ∧ I ≠ a.se ∧ I ≠ a.d := by
            unfold PC at hI
            simp only [keys_cons, List.mem_cons, not_or] at hI
            exact ⟨hI.1, hI.2.1, hI.2.2.1, hI.2.2.2.1⟩
          have hwk : w ≠ a.sk ∧ w ≠ a.ik ∧ w ≠ a.se ∧ w ≠ a.d := by
            have hw2 := hw.2
            unfold PC at hw2
            simp only [keys_cons, List.mem_cons, not_or] at hw2
            exact ⟨hw2.1, hw2.2.1, hw2.2.2.1, hw2.2.2.2.1⟩
          rw [put_cons, if_neg hwk.2.1, put_cons, if_neg hIk.2.1, pc_ik hn2]
          repeat walk_at "ex"
          refine call_len_l (up2 pc_msk) ?hz2 ?_
          case hz2 => rw [List.length_map, List.length_reverse, List.length_map]; walk_at "le"
          repeat walk_at "ex"
          refine si_dict (up2 pc_md) ?hz3 fun ep' => ?_
          case hz3 => rw [place_len]; walk_at "le"
          have hn3 : (AH.keys (PC a ep (q.node :: seen) (iv (fr.map (·.node)).reverse) ((fr.map fun f => Value.ref f.w).reverse ++ [.ref w]) (place fr) (FC fr ++ (SCX σ ++ R)))).Nodup := hnd0
          have est : stored (place fr) q.node (vI ((iv (fr.map (·.node)).reverse).length : Nat)) = place (⟨q.node, w, I, q.la, 0⟩ :: fr) := by
            rw [List.length_map, List.length_reverse, List.length_map]
            exact place_push (f := ⟨q.node, w, I, q.la, 0⟩) hkn
          rw [put_cons, if_neg hwk.2.2.2, put_cons, if_neg hIk.2.2.2, pc_d hn3, est]
          repeat walk_at "ex"
          refine gm_list (up2 pc_msk) PySem.F.slot_list_append PySem.F.type_list_append ?_
          repeat walk_at "ex"
          refine call_append (up2 pc_msk) ?hz4 ?_
          case hz4 => rw [List.length_map, List.length_reverse, List.length_map]; walk_at "le"
          have hn4 : (AH.keys (PC a ep' (q.node :: seen) (iv (fr.map (·.node)).reverse) ((fr.map fun f => Value.ref f.w).reverse ++ [.ref w]) (place (⟨q.node, w, I, q.la, 0⟩ :: fr)) (FC fr ++ (SCX σ ++ R)))).Nodup := hnd0
          rw [put_cons, if_neg hwk.1, put_cons, if_neg hIk.1, pc_sk hn4]
          repeat walk_at "ex"
          refine ⟨q.node :: seen, fin, ⟨q.node, w, I, q.la, 0⟩ :: fr, ep', ?_, hS.push hk1 hkg, ?_, ?_, WkL.cons WkL.refl, ?_⟩
          · have := Msr.push (g := σ.g) (fr := fr) (w := w) (I := I) (la := q.la) (by rw [g_nodes]; exact ok.nodes) hkg hk1; omega
          · exact hks.elim (fun h => List.mem_cons_of_mem _ h) fun h => h ▸ List.mem_cons_self
          · intro f' hf'
            rcases List.mem_cons.mp hf' with rfl | hf'
            · exact ⟨q, hq, rfl, rfl⟩
            · exact hfr f' hf'
          · rw [dc_pc, List.map_cons, List.map_cons, List.reverse_cons, List.reverse_cons, iv_append]
            exact Wk.perm (List.perm_append_comm (l₁ := [_, _]) (l₂ := [_, _, _, _]) |>.append_right (FC fr ++ (SCX σ ++ R)))
      · intro m' H' hY2
        refine hide fun z562 => ?_
        obtain ⟨seen, fin, fr, ep, hN, hS, hks, hfr, hm, hW⟩ := hY2
        refine z562 ?_
        refine exs_wk hm hW ?_
        repeat walk_at "ex"
        refine ex_while (fun N2 m' H' => ∃ seen fin fr ep, fr.length = N2 ∧ Msr σ.g seen fr ≤ N ∧ SR σ.g i seen fin fr none ∧ k0 ∈ seen ∧ FrOk σ fr ∧
          WkL m' [("node2stacki", .ref a.d), ("seen", .ref a.se), ("itstack", .ref a.ik), ("stack", .ref a.sk), ("n2i", .ref σ.nd)] ∧ Wk H' (DC a ep seen fr (SCX σ ++ R)))
          fr.length ⟨seen, fin, fr, ep, rfl, hN, hS, hks, hfr, WkL.refl, Wk.refl⟩ ?_
        clear hW hm hS hks hfr hN
        intro N2 m' H' hY3
        refine hide fun z563 => ?_
        obtain ⟨seen, fin, fr, ep, rfl, hN, hS, hks, hfr, hm, hW⟩ := hY3
        refine z563 ?_
        refine it_wk hm hW (aw_nodup fun hnd => ?_)
        repeat walk_at "ex"
        refine tr_list' dc_sk ?_ ?_
        · have := hS.small.1; rw [List.length_map, List.length_reverse, List.length_map]; walk_at "le"
        refine if_dec (fun hb1 => ?_) (fun hb1 => ?_)
        · refine hide fun z564 => ?_
          obtain ⟨f, r, rfl⟩ : ∃ f r, fr = f :: r := by
            cases fr with
            | nil => cases hb1
            | cons f r => exact ⟨f, r, rfl⟩
          refine z564 ?_
          repeat walk_at "ex"
          refine ex_try hh ?_
          repeat walk_at "ex"
          have eik : ((f :: r).map fun f => Value.ref f.w).reverse = (r.map fun f => Value.ref f.w).reverse ++ [.ref f.w] := by rw [List.map_cons, List.reverse_cons]
          have hik' : (a.ik, AO.list ((r.map fun f => Value.ref f.w).reverse ++ [.ref f.w])) ∈ DC a ep seen (f :: r) (SCX σ ++ R) := by rw [← eik]; exact dc_ik
          refine hide fun z565 => ?_
          obtain ⟨q, hq, hqn, hql⟩ := hfr f List.mem_cons_self
          refine z565 ?_
          have hla : (f.la, AO.list (iv (gSuc σ.g f.node))) ∈ DC a ep seen (f :: r) (SCX σ ++ R) := by
            rw [← hqn, gSuc_rec ok hq, ← hql]; exact dc_R (rec_la hq)
          have hfw : (f.w, AO.flds (.type "method-wrapper") [.builtin "list_iterator.__next__", .ref f.I]) ∈ DC a ep seen (f :: r) (SCX σ ++ R) := dc_f (List.mem_cons_self)
          have hfI : (f.I, AO.flds (.type "list_iterator") [.ref f.la, vI f.idx]) ∈ DC a ep seen (f :: r) (SCX σ ++ R) := dc_f (List.mem_cons_of_mem _ List.mem_cons_self)
          refine sub_list_last hik' ?_
          repeat walk_at "ex"
          cases hx : (gSuc σ.g f.node)[f.idx]? with
          | some s =>
            refine ⟨kp_bmethod hfw (.inr rfl), (call_wnext hfw hfI hla (v := vI s) (by rw [List.getElem?_map, hx]; rfl) ?_).call⟩
            rw [dc_take hnd]
            repeat walk_at "ex"
            have hlt := (List.getElem?_eq_some_iff.mp hx).1
            refine ⟨N - 1, ?_, seen, fin, { f with idx := f.idx + 1 } :: r, ep, s, ?_, hS.take hx, ?_, .inl hks, ?_, WkL.refl, Wk.refl⟩
            · have := Msr.take (g := σ.g) (seen := seen) (fr := r) hlt; omega
            · have := Msr.take (g := σ.g) (seen := seen) (fr := r) hlt; omega
            · refine hcl f.node (q.np, q.su) (by rw [← hqn]; exact rec_gAt ok hq) s ?_
              rw [← gSuc_rec ok hq, hqn]
              exact List.mem_of_getElem? hx
            · intro f' hf'
              rcases List.mem_cons.mp hf' with rfl | hf'
              · exact hfr f List.mem_cons_self
              · exact hfr f' (List.mem_cons_of_mem _ hf')
          | none =>
            refine ⟨kp_bmethod hfw (.inr rfl), (call_wnext_end hR'.hand hfw hfI hla (by rw [List.getElem?_map, hx]; rfl) fun e he => ?_).call⟩
            refine ⟨e, .type "StopIteration", _, rfl, .inl rfl, fun H₁ hT => ?_⟩
            refine' hb_builtin (T := "StopIteration") hT (fun Q' hQ' => ?hev) (fun H₂ hT₂ => ?hsuite) ?hexc ?hnt ?hsub
            case hexc => rw [isSubtype_type]; kernel_rfl
            case hnt => rw [isSubtype_type]; kernel_rfl
            case hsub => exact isSub_stop
            case hev =>
              repeat walk_at "ex"
              exact hQ'
            obtain ⟨Tt, rfl⟩ := hT₂
            have eiv : iv (((f :: r).map (·.node)).reverse) = iv (r.map (·.node)).reverse ++ [vI f.node] := by
              rw [List.map_cons, List.reverse_cons, iv_append]; rfl
            refine exs_wk WkL.refl (Wk.cons (Wk.cons (dc_end hnd))) (exs_nodup fun hn2 => ?_)
            repeat walk_at "ex"
            refine gm_list pc_msk PySem.F.slot_list_pop PySem.F.type_list_pop ?_
            repeat walk_at "ex"
            refine call_pop pc_msk ?hz1 ?_
            case hz1 => have := hS.small.1; rw [List.length_cons] at this; rw [List.length_map, List.length_reverse, List.length_map]; walk_at "le"
            rw [pc_sk hn2]
            refine di_dict (pc_md) (by rw [dval_isSome]; exact decide_eq_true (place_mem.mpr List.mem_cons_self)) ?hz2 fun ep' => ?_
            case hz2 => have := hS.small.1; rw [place_len]; walk_at "le"
            have hn3 : (AH.keys (PC a ep seen (iv (r.map (·.node)).reverse) ((r.map fun f => Value.ref f.w).reverse ++ [.ref f.w]) (place (f :: r)) (FC r ++ (SCX σ ++ R)))).Nodup := hn2
            rw [pc_d hn3, place_pop (List.nodup_cons.mp hS.dfs.stN).1]
            repeat walk_at "ex"
            refine gm_list pc_mik PySem.F.slot_list_pop PySem.F.type_list_pop ?_
            repeat walk_at "ex"
            refine call_pop pc_mik ?hz3 ?_
            case hz3 => have := hS.small.1; rw [List.length_cons] at this; rw [List.length_reverse, List.length_map]; walk_at "le"
            have hn4 : (AH.keys (PC a ep' seen (iv (r.map (·.node)).reverse) ((r.map fun f => Value.ref f.w).reverse ++ [.ref f.w]) (place r) (FC r ++ (SCX σ ++ R)))).Nodup := hn2
            rw [pc_ik hn4]
            repeat walk_at "ex"
            exact ⟨r.length, Nat.lt_succ_self _, seen, fin ++ [f.node], r, ep', rfl, Nat.le_trans Msr.pop hN, hS.pop hx, hks, fun f' hf' => hfr f' (List.mem_cons_of_mem _ hf'), WkL.refl, Wk.refl⟩
        · obtain rfl : fr = [] := by
            cases fr with
            | nil => rfl
            | cons f r => rw [List.map_cons, List.reverse_cons, iv_append] at hb1; simp at hb1
          repeat walk_at "ex"
          exact ⟨seen, fin, ep, hS.next hk0 hks, WkL.refl, Wk.refl⟩
  · intro m' H' hY2
    refine hide fun z566 => ?_
    obtain ⟨seen, fin, ep, hS, hm, hW⟩ := hY2
    refine z566 ?_
    repeat walk_at "ex"
    refine ⟨_, hW.trans hdrop, h1 fin (hS.dfs.fin fun k hk => hS.pre k ?_)⟩
    rw [List.length_map, show σ.kvs.length = (σ.g.map (·.1)).length from by unfold SS.kvs SS.g; simp, List.take_length]
    exact hk
end

section
variable {C : Cfg} {A : Around} {fx : Fx} {m : Lo} {H R : AH} {X : Value → Lo → AH → Prop} {Q : Value → Lo → AH → Prop} {n : Nat} {σ : SS}
theorem prepare_ok (T : Top C (K02 C.w.params)) (hR : Room A (n + 6)) (ok : σ.Ok) (hrdy : σ.rdy = none) (hz : σ.g.length ≤ 1000) (hcl : ∀ k x, gAt σ.g k = some x → ∀ s ∈ x.2, s ∈ σ.g.map (·.1))
    (h1 : ∀ σ' F ra, σ'.Ok → σ'.sa = σ.sa → σ'.rdy = some (ra, gFree σ.g) → σ'.po = σ.po → σ'.nf = σ.nf → σ'.g = σ.g → Fin' σ.g F → Q .none m (SCX σ' ++ R))
    (h2 : ∀ σ' v ra e H', σ'.Ok → σ'.sa = σ.sa → σ'.rdy = some (ra, gFree σ.g) → σ'.po = σ.po → σ'.nf = σ.nf → σ'.g = σ.g → Ring σ.g v → ExnT e (.ref 48) .none (SCX σ' ++ R) H' → X (.ref e) m H') :
    CALLC C A fx (.ref 85) [.ref σ.sa] m (SCX σ ++ R) Q X := by
  refine callc_wkp ?_
  refine' call1x hR (fnAt (T := T) ?ho ?hcode ?hco ?hgen ?hk) "self" ?b1 ?b2 ?body
  walk_at "fn"
  intro A' fx' hR' hh Z
  have l1 : σ.fs.lookup ("_ready_nodes" : PySem.Str) = some Value.none := by rw [ok.fs]; show some σ.rv = _; unfold SS.rv; rw [hrdy]
  have l2 : σ.fs.lookup ("_node2info" : PySem.Str) = some (Value.ref σ.nd) := ok.fs _
  have hgl : σ.recs.length ≤ 1000 := by rw [recs_len]; exact hz
  repeat walk_at "ex"
  refine ga_dict (T := T) (by kernel_rfl) sc_sa sc_sd l1 rfl ?_
  repeat walk_at "ex"
  refine ga_dict (T := T) (by kernel_rfl) sc_sa sc_sd l2 rfl ?_
  repeat walk_at "ex"
  refine gm_dict sc_nd PySem.F.slot_dict_values PySem.F.type_dict_values ?_
  repeat walk_at "ex"
  refine call_values sc_nd fun v hv => ?_
  repeat walk_at "ex"
  have hI : ITR C A' fx' (.ref v) [("self", .ref σ.sa)] ((v, .flds (.type "dict_values") [.ref σ.nd]) :: (SCX σ ++ R)) (σ.recs.map fun r => Value.ref r.ia) (fun H => (σ.nd, AO.dict σ.kvs σ.ep) ∈ H) := by
    have := itr_vals (C := C) (A := A') (fx := fx') (m := [("self", .ref σ.sa)]) (H := (v, .flds (.type "dict_values") [.ref σ.nd]) :: (SCX σ ++ R)) hR'.hand List.mem_cons_self (up1 sc_nd)
    unfold SS.kvs at this
    rw [List.map_map] at this
    exact this
  refine' turns_lc ?hb' hI (fun H hW => hW.1 _ (up1 sc_nd)) (by walk_at "le") (fun r => decide (r.np = 0)) (fun r => vI r.node) ?turn ?fin Z.scope
  case hb' => rfl
  case turn =>
    intro fx2 Z2 r hr
    repeat walk_at "ex"
    refine ga_slot (T := T) (p := 35) (i := 1) (by kernel_rfl) (up1 (rec_ia hr)) (up1 (rec_id hr)) rfl rfl ?_
    repeat walk_at "ex"
    refine if_dec (fun hb0 => ?_) (fun hb0 => ?_)
    · repeat walk_at "ex"
      refine ⟨hb0.symm, if_yes ?_⟩
      repeat walk_at "ex"
      refine ga_slot (T := T) (p := 34) (i := 0) (by kernel_rfl) (up1 (rec_ia hr)) (up1 (rec_id hr)) rfl rfl ?_
      exact ⟨rfl, by walk_at "wkl", Wk.refl⟩
    · repeat walk_at "ex"
      exact ⟨hb0.symm, if_no ⟨by walk_at "wkl", Wk.refl⟩⟩
  case fin =>
    intro a ha
    have ha' := ha
    simp only [keys_cons, List.mem_cons, not_or] at ha'
    have hsd : σ.sd ∈ AH.keys (SCX σ ++ R) := mem_keys sc_sd
    repeat walk_at "ex"
    refine sa_dict (T := T) (by kernel_rfl) (up2 sc_sa) (up2 sc_sd) (Nat.le_trans ok.len (by decide)) ?_
    refine seq_next (exs_nodup fun hnd => ?_)
    rw [AH.keys_put, keys_cons, keys_cons, List.nodup_cons, List.nodup_cons] at hnd
    rw [put_cons, if_neg (fun e => ha'.2 (by rw [e]; exact hsd)), put_cons, if_neg (fun e => hv (by rw [e]; exact hsd)), put_fs hnd.2.2]
    have egf : (σ.recs.filter fun r => decide (r.np = 0)).map (fun r => vI r.node) = iv (gFree σ.g) := by
      unfold gFree SS.g
      rw [List.filter_map, List.map_map]
      show _ = List.map vI _
      rw [List.map_map]
      rfl
    rw [egf]
    obtain ⟨σ', hσ'⟩ : ∃ σ' : SS, σ' = { σ with fs := nsPut σ.fs "_ready_nodes" (.ref a), rdy := some (a, gFree σ.g) } := ⟨_, rfl⟩
    have hrc : σ.rc = [] := by unfold SS.rc; rw [hrdy]
    have hW : Wk ((a, AO.list (iv (gFree σ.g))) :: (v, AO.flds (Value.type "dict_values") [.ref σ.nd]) :: (SCX { σ with fs := nsPut σ.fs "_ready_nodes" (.ref a) } ++ R)) (SCX σ' ++ R) := by
      refine (Wk.keep (Wk.cons Wk.refl)).trans (Wk.perm ?_)
      rw [hσ']
      show List.Perm ((a, AO.list (iv (gFree σ.g))) :: (((σ.sa, _) :: (σ.sd, _) :: (σ.nd, _) :: (σ.rc ++ RC 33 σ.recs)) ++ R)) (((σ.sa, _) :: (σ.sd, _) :: (σ.nd, _) :: ([(a, AO.list (iv (gFree σ.g)))] ++ RC 33 σ.recs)) ++ R)
      rw [hrc]
      exact (List.perm_middle (l₁ := [(σ.sa, _), (σ.sd, _), (σ.nd, _)])).symm
    have ok' : σ'.Ok := by
      rw [hσ']
      refine ⟨fun y => ?_, Nat.le_trans (nsPut_len (w := σ.rv) (by rw [ok.fs]; rfl)) ok.len, ok.nodes⟩
      rw [nsPut_lookup, ok.fs]
      unfold SS.look
      by_cases h : y = "_ready_nodes"
      · subst h; rfl
      · rw [if_neg h, if_neg h, if_neg h]
    obtain ⟨q1, q2, q3, q4, q5, q6⟩ : σ'.sa = σ.sa ∧ σ'.rdy = some (a, gFree σ.g) ∧ σ'.po = σ.po ∧ σ'.nf = σ.nf ∧ σ'.g = σ.g ∧ σ'.sd = σ.sd := by rw [hσ']; exact ⟨rfl, rfl, rfl, rfl, rfl, rfl⟩
    clear hσ'
    refine exs_wk WkL.refl hW ?_
    rw [← q1]
    repeat walk_at "ex"
    refine gm_own (T := T) (f := 120) (by kernel_rfl) sc_sa sc_sd (ok'.none (by rintro (e | e | e | e) <;> exact absurd e (by decide))) ?_
    repeat walk_at "ex"
    walk_at "kpf"
    refine (cycle_ok T hR' ok' (by rw [q5]; exact hz) (by rw [q5]; exact hcl) (fun F hF => ?_) fun v t ht hv hvl => ?_).call
    · repeat walk_at "ex"
      exact ⟨_, Wk.refl, h1 σ' F a ok' q1 q2 q3 q4 q5 (q5 ▸ hF)⟩
    · repeat walk_at "ex"
      refine tr_list' List.mem_cons_self (by rw [List.length_map]; walk_at "le") ?_
      have hne : (!(iv v).isEmpty) = true := by
        refine hide fun z567 => ?_
        obtain ⟨a, r, rfl, _⟩ := hv
        refine z567 ?_
        rfl
      rw [hne]
      repeat walk_at "ex"
      refine ex_raise_own (excC (T := T) (c := 48) (x := "CycleError") ?he ?hq PySem.F.excBase_ValueError) hR'.hand ?hev ?hplain
      case he => k_is
      case hq => kernel_rfl
      case hplain => rfl
      repeat walk_at "ex"
      refine ⟨rfl, ?_⟩
      repeat walk_at "ex"
      refine ⟨Nat.le_of_ble_eq_true rfl, fun e he => ⟨e, .ref 48, _, rfl, .inl rfl, fun H' hT => ?_⟩⟩
      obtain ⟨T', rfl⟩ := hT
      exact ⟨(e, _) :: (T', _) :: (SCX σ' ++ R), Wk.keep (Wk.keep (Wk.cons Wk.refl)), h2 σ' v a e _ ok' q1 q2 q3 q4 q5 (q5 ▸ hv) ⟨T', rfl⟩⟩
end

section
variable {C : Cfg} {A : Around} {fx : Fx} {m : Lo} {H R : AH} {X : Value → Lo → AH → Prop} {Q : Value → Lo → AH → Prop} {n : Nat}
noncomputable def eqI : Value → Value → Bool
  | .int i _, .int j _ => i == j
  | _, _ => false
theorem filter_iv (xs ys : List Int) : ((iv xs).filter fun u => !((iv ys).any fun y => eqI y u)) = iv (xs.filter fun x => decide (x ∉ ys)) := by
  have h : ∀ x : Int, ((iv ys).any fun y => eqI y (vI x)) = decide (x ∈ ys) := by
    intro x
    rw [Bool.eq_iff_iff]
    simp only [List.any_eq_true, decide_eq_true_eq]
    constructor
    · intro hY0
      refine hide fun z568 => ?_
      obtain ⟨v, hv, he⟩ := hY0
      refine z568 ?_
      refine hide fun z569 => ?_
      obtain ⟨y, hy, rfl⟩ := List.mem_map.mp hv
      refine z569 ?_
      have : y = x := by simpa [eqI] using he
      exact this ▸ hy
    · exact fun hx => ⟨vI x, List.mem_map.mpr ⟨x, hx, rfl⟩, by simp [eqI]⟩
  unfold iv
  rw [List.filter_map]
  congr 1
  refine List.filter_congr fun x _ => ?_
  simp only [Function.comp]
  have := h x
  unfold iv at this
  rw [this]
  simp
theorem filter_ints {l sk : Addr} {xs ys : List Int} (T : Top C (K02 C.w.params)) (hR : Room A (n + 3)) (hl : (l, AO.list (iv xs)) ∈ H) (hs : (sk, AO.list (iv ys)) ∈ H) (hz : xs.length < 1000000)
    (h : ∀ D, D ∉ H.keys → Q (.ref D) m ((D, .list (iv (xs.filter fun x => decide (x ∉ ys)))) :: H)) : CALLC C A fx (.ref 178) [.ref l, .ref sk] m H Q X := by
  refine filter_ok eqI T hR hl hs (by rw [List.length_map]; exact hz) (fun y hy u hu => ?_) fun D hD => ?_
  · refine hide fun z570 => ?_
    obtain ⟨i, _, rfl⟩ := List.mem_map.mp hy
    obtain ⟨j, _, rfl⟩ := List.mem_map.mp hu
    refine z570 ?_
    exact EQV.int i j
  · rw [filter_iv]; exact h D hD
end

noncomputable def soB : SoB := match (match k02b10 with | .stmts b => b | _ => []) with
  | [sP, .While test [s1, .Expr (.YieldFrom ye yp) ep, s3] [] wp] => ⟨sP, test, s1, ye, yp, ep, s3, wp⟩
  | _ => ⟨.Pass default, .Name "" default, .Pass default, .Name "" default, default, default, .Pass default, default⟩
noncomputable abbrev loS (x : Addr) : Lo := [("self", .ref x)]
noncomputable abbrev loG (tp x : Addr) : Lo := [("node_group", .ref tp), ("self", .ref x)]
section
variable {C : Cfg} {A : Around} {fx : Fx} {m : Lo} {H R : AH} {X : Value → Lo → AH → Prop} {Q : Value → Lo → AH → Prop} {n : Nat} {σ : SS} {env : Env} {g L : Addr} {ii k : Nat} {G : G} {p : Pos} {ra : Addr}
noncomputable def GSt (env : Env) (x : Addr) (G : Mine.G) (i : Nat) (y : GenState) (ls : Lo) (Z : AH) : Prop :=
  (i = 0 ∧ y = .fresh (.func soB.body env) ∧ ls = loS x ∧ ∃ σ, SS.Ok σ ∧ σ.sa = x ∧ σ.rdy = none ∧ σ.po = σ.nf ∧ σ.g = G ∧ Z = SCX σ) ∨
  (∃ σ ra k j tp it F, SS.Ok σ ∧ σ.sa = x ∧ σ.rdy = some (ra, []) ∧ σ.po = σ.nf + (rndN G k).2.1.length ∧ σ.g = (rndN G k).2.1.foldl (gSet (-1)) (rndN G k).2.2 ∧ Fin' G F ∧ 0 < j ∧ j ≤ (rndN G k).2.1.length ∧ i = (rndN G k).1.length + j ∧
    (∃ kY l p p1 p2, YK it kY ∧ y = .suspended kY l (yfCode (.ref it)) p [frY soB env p1, frF soB env p2] false) ∧ ls = loG tp x ∧ Z = (it, tuIt (.ref tp) j) :: (tp, .tup (iv (rndN G k).2.1)) :: SCX σ)
theorem so_turn {QY : Value → AH → Prop} {QN : AH → Prop} {XX : Value → Lo → AH → Prop} {F : List Int} (T : Top C (K02 C.w.params)) (hR : Room A (n + 6)) (GE : GEnv env L) (hs : env.scope = k02s10) (W : WG G) (hnl : (nodes G).length ≤ 10000) (ok : σ.Ok) (hrdy : σ.rdy = some (ra, (rndN G k).2.1)) (hg : σ.g = (rndN G k).2.2) (hpo : σ.po = σ.nf) (hF : Fin' G F)
    (hY : ∀ v y' ls' Z', (rndN G k).2.1[0]? = some v → GSt env σ.sa G ((rndN G k).1.length + 1) y' ls' Z' → QY (vI v) ((g, .gen ii y') :: (L, .loc ls') :: (Z' ++ R)))
    (hN : (rndN G k).2.1 = [] → QN R) : GX C A ⟨env, [L]⟩ (soW soB env) ((model C.prog C.w).den (soW soB env)) [frF soB env p] (loS σ.sa) (SCX σ ++ (g, .gen ii .running) :: R) (gY g ii L QY) (gN g ii QN) XX := by
  have hi : interactive (Fx.mk env [L]).env = false := by show interactive env = false; unfold interactive; rw [GE.kind]; rfl
  have hR1 : Room (A.over (soW soB env) [frF soB env p]) (n + 5) := room_so1 (fx := ⟨env, [L]⟩) hR
  have Z : Sc ⟨env, [L]⟩ k02s10 (k02s10).names := GE.sc hs
  have hL := (rndN_rnd W k)
  have hlen : (rndN G k).2.1.length ≤ 10000 := Nat.le_trans (nd_len hL.nd fun x hx => ((hL.rd x).mp hx).1) hnl
  refine so_loop (fx := ⟨env, [L]⟩) ?_ hi
  generalize hA1 : A.over (soW soB env) [frF soB env p] = A1 at hR1 ⊢
  conv => arg 4; whnf
  repeat walk_at "ex"
  refine gm_own (T := T) (f := 99) (by kernel_rfl) sc_sa sc_sd (ok.none (by rintro (e | e | e | e) <;> exact absurd e (by decide))) ?_
  repeat walk_at "ex"
  walk_at "kpf"
  refine (active_ok (n := n + 1) T hR1 ok hrdy hlen ?_).call
  repeat walk_at "ex"
  rw [hpo, show decide (σ.nf < σ.nf) = false from decide_eq_false (Int.lt_irrefl _), Bool.false_or]
  refine if_dec (fun hb => ?_) (fun hb => ?_)
  · have hne : (rndN G k).2.1 ≠ [] := fun e => by rw [e] at hb; cases hb
    obtain ⟨v, hv⟩ : ∃ v, (rndN G k).2.1[0]? = some v := by
      cases e : (rndN G k).2.1 with
      | nil => exact absurd e hne
      | cons v r => exact ⟨v, rfl⟩
    conv => arg 4; whnf
    repeat walk_at "ex"
    refine gm_own (T := T) (f := 92) (by kernel_rfl) sc_sa sc_sd (ok.none (by rintro (e | e | e | e) <;> exact absurd e (by decide))) ?_
    repeat walk_at "ex"
    walk_at "kpf"
    refine (ready_ok (n := n + 1) (b := 0) T hR1 ok hrdy hlen (fun x hx => by have := ((hL.rd x).mp hx).1; rw [hg, hL.eq]; show x ∈ nodes (gWith G _); rw [with_nodes]; exact this) fun σ' tp ok' hs' hr' hpo' hnf' hg' => ?_).call
    repeat walk_at "ex"
    refine ⟨rfl, ?_⟩
    conv => arg 4; whnf
    repeat walk_at "ex"
    refine ⟨tp, _, rfl, List.mem_append_right _ List.mem_cons_self, fun I hI p' => ?_⟩
    refine gx_yf_item (v := vI v) (i := 0) (fr_so2 (fx := ⟨env, [L]⟩)) rfl rfl List.mem_cons_self (List.mem_cons_of_mem _ (List.mem_append_right _ List.mem_cons_self)) (by unfold iv; rw [List.getElem?_map, hv]; rfl) fun kY l p'' hk => ?_
    rw [put_head hI]
    refine ⟨_, wk_gen1, ?_⟩
    have := hY v (.suspended kY l (yfCode (.ref I)) p'' [frY soB env p', frF soB env p] false) (loG tp σ.sa) ((I, tuIt (.ref tp) 1) :: (tp, .tup (iv (rndN G k).2.1)) :: SCX σ') hv
      (.inr ⟨σ', ra, k, 1, tp, I, F, ok', hs', hr', by rw [hpo', hnf', hpo], by rw [hg', hg], hF, Nat.one_pos, List.length_pos_iff.mpr hne, rfl, ⟨kY, l, p'', p', p, hk, rfl⟩, rfl, rfl⟩)
    exact this
  · have he : (rndN G k).2.1 = [] := by
      cases e : (rndN G k).2.1 with
      | nil => rfl
      | cons v r => rw [e] at hb; cases hb
    exact ⟨R, Wk.sub (List.sublist_append_right _ _), hN he⟩
theorem not_stop {e c : Addr} {tb : Value} {K : Frag} (T : Top C K) (hm : mroIn K c (.type "StopIteration") = some false) (he : (e, AO.exc (.ref c) tb) ∈ R) : NotStop C R (.ref e) := fun A fx m H Q X hR h s S => by
  refine hide fun z571 => ?_
  obtain ⟨o, ho, hc, _⟩ := S.get (hR _ he)
  refine z571 ?_
  simp only [isInstance]
  refine wpAny_bind (wpAny_typeOf_ref ho ?_)
  rw [hc]
  exact (looks_mroIn (T.X.keeps S.base) hm).here ⟨m, H, S, Ext.refl' S, h⟩
theorem gx_nodup {c : Code} {t : Sem PySem.Fin} {fs : List Frame} {Y : Value → GenState → Lo → AH → Prop} {N : Lo → AH → Prop} {X : Value → Lo → AH → Prop} (h : H.keys.Nodup → GX C A fx c t fs m H Y N X) : GX C A fx c t fs m H Y N X := fun s S => h S.nodup s S
theorem so_go {QY : Value → AH → Prop} {QN : AH → Prop} {XX : Value → AH → Prop} {x : Addr} {i : Nat} {y : GenState} {ls : Lo} {Z : AH} (T : Top C (K02 C.w.params)) (hR : Room A (n + 8)) (GE : GEnv env L) (hs : env.scope = k02s10) (W : WG G) (hb : Bd G 100) (hst : GSt env x G i y ls Z)
    (hY : ∀ v y' ls' Z', (orderG G)[i]? = some v → (∃ F, Fin' G F) → GSt env x G (i + 1) y' ls' Z' → QY (vI v) ((g, .gen ii y') :: (L, .loc ls') :: (Z' ++ R)))
    (hN : (orderG G)[i]? = none → (∃ F, Fin' G F) → QN R) (hX : i = 0 → ∀ v e t, Ring G v → XX (.ref e) ((e, .exc (.ref 48) (.ref t)) :: (t, .tb .none) :: R)) :
    GoX C A ⟨env, [L]⟩ y ls ((g, .gen ii .running) :: (Z ++ R)) (gY g ii L QY) (gN g ii QN) (gX C g ii XX) := by
  have hnl : (nodes G).length ≤ 100 := by unfold nodes; rw [List.length_map]; exact hb.len
  rcases hst with ⟨rfl, rfl, rfl, σ, ok, hsa, hrdy, hpo, hg, rfl⟩ | ⟨σ, ra, k, j, tp, it, F, ok, hsa, hrdy, hpo, hg, hF, hj0, hj, rfl, ⟨kY, l, p, p1, p2, hk, rfl⟩, rfl, rfl⟩
  · subst hsa
    show GX C A ⟨env, [L]⟩ (.func soB.body env) _ [] (loS σ.sa) _ _ _ _
    refine gx_wk (m' := loS σ.sa) (fun _ _ h => h) wk_mid (so_start (fx := ⟨env, [L]⟩) ?_)
    have hR1 : Room (A.over (.func soB.body env) []) (n + 7) := room_so0 (fx := ⟨env, [L]⟩) hR
    have hh : Here (A.over (.func soB.body env) []) ⟨env, [L]⟩ := GE.here fr_func
    have Z : Sc ⟨env, [L]⟩ k02s10 (k02s10).names := GE.sc hs
    generalize hA1 : A.over (.func soB.body env) [] = A1 at hR1 hh ⊢
    conv => arg 4; whnf
    repeat walk_at "ex"
    refine gm_own (T := T) (f := 85) (by kernel_rfl) sc_sa sc_sd (ok.none (by rintro (e | e | e | e) <;> exact absurd e (by decide))) ?_
    repeat walk_at "ex"
    walk_at "kpf"
    refine (prepare_ok (n := n + 1) T hR1 ok hrdy (by rw [hg]; exact le_N hb.len rfl) (by rw [hg]; exact clo_of W rfl fun _ => rfl) (fun σ' F ra ok' q1 q2 q3 q4 q5 hF => ?_) fun σ' v ra e H' ok' q1 q2 q3 q4 q5 hv hT => ?_).call
    · repeat walk_at "ex"
      refine ⟨rfl, fun p => ?_⟩
      rw [hg] at q2 q5 hF
      show GX C A ⟨env, [L]⟩ (soW soB env) _ [frF soB env p] _ _ _ _ _
      rw [← q1]
      refine so_turn (n := n + 2) (k := 0) (F := F) T hR GE hs W (le_N hnl rfl) ok' q2 q5 (by rw [q3, q4, hpo]) hF (fun v y' ls' Z' hv hst => ?_) fun he => ?_
      · have h0 := order_get W hv
        rw [q1] at hst
        exact hY v y' ls' Z' h0 ⟨F, hF⟩ hst
      · exact hN (order_none W he) ⟨F, hF⟩
    · rw [hg] at hv
      obtain ⟨t, rfl⟩ := hT
      refine aw_leaving hh (.inr (.inl ⟨t, rfl⟩)) fun H'' hT'' => ?_
      obtain ⟨t', rfl⟩ := hT''
      refine ⟨(e, .exc (.ref 48) (.ref t')) :: (t', .tb .none) :: R, ?_, not_stop T (by kernel_rfl) List.mem_cons_self, hX rfl v e t' hv⟩
      exact (Wk.keep (Wk.keep (Wk.sub (List.sublist_append_right _ _)))).trans ((Wk.keep Wk.swap).trans Wk.swap)
  · subst hsa
    show GX C A ⟨env, [L]⟩ (yfCode (.ref it)) (kY (.send .none)) [frY soB env p1, frF soB env p2] (loG tp σ.sa) _ _ _ _
    refine hk _ _ _ _ _ _ _ _ _ _ (.ref tp) (vI j) (fr_so2 (fx := ⟨env, [L]⟩)) (List.mem_cons_of_mem _ List.mem_cons_self) ?_
    refine gx_wk (m' := loG tp σ.sa) (fun _ _ h => h) wk_gen2 (gx_nodup fun hnd => ?_)
    have hit := (List.nodup_cons.mp hnd).1
    cases hjv : (rndN G k).2.1[j]? with
    | some v =>
      refine gx_yf_item (v := vI v) (i := j) (fr_so2 (fx := ⟨env, [L]⟩)) rfl rfl List.mem_cons_self (List.mem_cons_of_mem _ List.mem_cons_self) (by unfold iv; rw [List.getElem?_map, hjv]; rfl) fun kY' l' p'' hk' => ?_
      rw [put_head hit]
      refine ⟨_, wk_gen3, ?_⟩
      exact hY v (.suspended kY' l' (yfCode (.ref it)) p'' [frY soB env p1, frF soB env p2] false) (loG tp σ.sa) ((it, tuIt (.ref tp) (j + 1)) :: (tp, .tup (iv (rndN G k).2.1)) :: SCX σ) (order_get W hjv) ⟨F, hF⟩
        (.inr ⟨σ, ra, k, j + 1, tp, it, F, ok, rfl, hrdy, hpo, hg, hF, Nat.succ_pos _, (List.getElem?_eq_some_iff.mp hjv).1, rfl, ⟨kY', l', p'', p1, p2, hk', rfl⟩, rfl, rfl⟩)
    | none =>
      have hjl : j = (rndN G k).2.1.length := Nat.le_antisymm hj (List.getElem?_eq_none_iff.mp hjv)
      have hR2 : Room (A.over (yfCode (.ref it)) [frY soB env p1, frF soB env p2]) (n + 7) := room_over hR (Nat.le_of_ble_eq_true rfl) (Nat.le_of_ble_eq_true rfl) rfl
      refine gx_yf_end (i := j) (fr_so2 (fx := ⟨env, [L]⟩)) hR2.hand List.mem_cons_self (List.mem_cons_of_mem _ List.mem_cons_self) (by unfold iv; rw [List.getElem?_map, hjv]; rfl) fun H' hW => ?_
      rw [put_head hit] at hW
      refine gx_wk (m' := loG tp σ.sa) (fun _ _ h => h) (hW.trans ((Wk.cons Wk.refl).trans wk_mid)) (so_back (fx := ⟨env, [L]⟩) ?_)
      have hR1 : Room (A.over (soW soB env) [frF soB env p2]) (n + 7) := room_so1 (fx := ⟨env, [L]⟩) hR
      have Z : Sc ⟨env, [L]⟩ k02s10 (k02s10).names := GE.sc hs
      have hL := rndN_rnd W k
      have hlen : (rndN G k).2.1.length ≤ 100 := Nat.le_trans (nd_len hL.nd fun x hx => ((hL.rd x).mp hx).1) hnl
      obtain ⟨hout, hr'⟩ := hL.round W
      have hw2 : σ.g = gWith G (stF G (rndN G k).1 ((rndN G k).1 ++ (rndN G k).2.1)) := by rw [hg]; exact (hL.get W).eq
      generalize hA1 : A.over (soW soB env) [frF soB env p2] = A1 at hR1 ⊢
      conv => arg 4; whnf
      repeat walk_at "ex"
      refine ga_method (T := T) (f := 113) (by kernel_rfl) (by kernel_rfl) sc_sa sc_sd (ok.none (by rintro (e | e | e | e) <;> exact absurd e (by decide))) fun a ha => ?_
      repeat walk_at "ex"
      refine coll_tup (up1 (List.mem_append_right _ List.mem_cons_self)) (by rw [List.length_map]; walk_at "le") ?_
      refine' ⟨kp_methK T List.mem_cons_self ?ho2 ?hd2, (call_method List.mem_cons_self (callc_wk (H' := SCX σ ++ ((a, .flds (.type "method") [.ref 113, .ref σ.sa]) :: (tp, .tup (iv (rndN G k).2.1)) :: (g, .gen ii .running) :: R)) wk_mid
        (done_ok (n := n + 3) (b := 100) T hR1 ok hrdy ?hb3 ?hz3 ?hz4 (by rw [hg]; exact hout) ?hcl3 fun σ' ok' hs' hr' hpo' hnf' hg' => ?_))).call⟩
      case ho2 => k_is
      case hd2 => rfl
      case hb3 => rw [hw2]; exact bd_with hb
      case hz3 => exact Nat.le_trans (Nat.add_le_add_left (Nat.mul_le_mul_right 100 hlen) 0) (Nat.le_of_ble_eq_true rfl)
      case hz4 => walk_at "le"
      case hcl3 => exact clo_of W (by rw [hw2]; exact with_nodes) (fun k => by rw [hw2]; exact with_suc)
      repeat walk_at "ex"
      refine ⟨rfl, ?_⟩
      refine gx_wk (m' := loS σ'.sa) (by rw [hs']; walk_at "wkl") (Wk.sub (List.Sublist.append_left ((List.sublist_cons_self _ _).trans (List.sublist_cons_self _ _)) _)) ?_
      refine so_turn (n := n + 2) (k := k + 1) (F := F) T hR GE hs W (le_N hnl rfl) ok' (by rw [hr', hg]; rfl) (by rw [hg', hg]; rfl) (by rw [hpo', hnf', hpo]) hF (fun v y' ls' Z' hv hst => ?_) fun he => ?_
      · have h0 := order_get W hv
        rw [hs'] at hst
        have e1 : (rndN G (k + 1)).1.length = (rndN G k).1.length + j := by
          show ((rndN G k).1 ++ (rndN G k).2.1).length = _
          rw [List.length_append, hjl]
        rw [e1] at h0 hst
        exact hY v y' ls' Z' h0 ⟨F, hF⟩ hst
      · have h0 := order_none W he
        have e1 : (rndN G (k + 1)).1.length = (rndN G k).1.length + j := by
          show ((rndN G k).1 ++ (rndN G k).2.1).length = _
          rw [List.length_append, hjl]
        rw [e1] at h0
        exact hN h0 ⟨F, hF⟩
end

section
variable {C : Cfg} {A : Around} {fx : Fx} {m : Lo} {H R : AH} {X : Value → Lo → AH → Prop} {Q : Value → Lo → AH → Prop} {n : Nat} {env : Env} {g L : Addr} {ii i : Nat} {G : G} {y : GenState} {ls : Lo} {Z : AH} {x₀ : Addr}
theorem gst_lo (hs : env.scope = k02s10) (hst : GSt env x₀ G i y ls Z) : ∀ x v, (x, v) ∈ ls → (x, v) ∈ ls ∧ env.kindOf x = some .local := fun x v h => by
  refine ⟨h, ?_⟩
  unfold Env.kindOf
  rw [hs]
  rcases hst with ⟨_, _, rfl, _⟩ | ⟨σ, ra, k, j, tp, it, F, _, _, _, _, _, _, _, _, _, _, rfl, _⟩
  · rcases List.mem_singleton.mp h with e
    cases e; rfl
  · rcases List.mem_cons.mp h with e | h
    · cases e; rfl
    · rcases List.mem_singleton.mp h with e
      cases e; rfl
theorem gen_next (T : Top C (K02 C.w.params)) (hR : Room A (n + 9)) (GE : GEnv env L) (hs : env.scope = k02s10) (W : WG G) (hb : Bd G 100) (hst : GSt env x₀ G i y ls Z)
    (h1 : ∀ v y' ls' Z', (orderG G)[i]? = some v → (∃ F, Fin' G F) → GSt env x₀ G (i + 1) y' ls' Z' → Q (vI v) m ((g, .gen ii y') :: (L, .loc ls') :: (Z' ++ R)))
    (h2 : (orderG G)[i]? = none → (∃ F, Fin' G F) → ∀ e, X (.ref e) m ((e, .exc (.type "StopIteration") .none) :: R))
    (h3 : ∀ v e t, Ring G v → X (.ref e) m ((e, .exc (.ref 48) (.ref t)) :: (t, .tb .none) :: R)) :
    CALL C A fx (.builtin "next") [.ref g] m ((g, .gen ii y) :: (L, .loc ls) :: (Z ++ R)) Q X := by
  have hR2 : Room A.in1.in1 (n + 8) := hR.in2
  refine call_next_g List.mem_cons_self (aw_mono (aw_gen_wake (Q := fun v H' => ∃ v0 y' ls' Z', v = vI v0 ∧ (orderG G)[i]? = some v0 ∧ (∃ F, Fin' G F) ∧ GSt env x₀ G (i + 1) y' ls' Z' ∧ H' = (g, .gen ii y') :: (L, .loc ls') :: (Z' ++ R))
    (N := fun R' => (orderG G)[i]? = none ∧ (∃ F, Fin' G F) ∧ R' = R) (XX := fun v R' => ∃ rg e t, Ring G rg ∧ v = .ref e ∧ R' = (e, .exc (.ref 48) (.ref t)) :: (t, .tb .none) :: R) GE hR2.hand T.nolimit hR2.lim (gst_lo hs hst)
    (so_go T hR2 GE hs W hb hst (fun v y' ls' Z' a b c => ⟨v, y', ls', Z', rfl, a, b, c, rfl⟩) (fun a b => ⟨a, b, rfl⟩) fun _ v e t hv => ⟨v, e, t, hv, rfl, rfl⟩)) (fun fin m' H' q => ?_) fun v m' H' q => ?_)
  · refine hide fun z572 => ?_
    obtain ⟨rfl, r, rfl, v0, y', ls', Z', hr, a, b, c, rfl⟩ := q
    refine z572 ?_
    exact ⟨r, rfl, by rw [hr]; exact h1 v0 y' ls' Z' a b c⟩
  · obtain ⟨rfl, ⟨e, R', ⟨a, b, rfl⟩, rfl, rfl⟩ | ⟨R', _, ⟨rg, e, t, hv, rfl, rfl⟩, rfl⟩⟩ := q
    · exact h2 a b e
    · exact h3 rg e t hv
theorem ff_initG {x dx w : Addr} (T : Top C (K02 C.w.params)) (hR : Room A (n + 1)) (hg : (g, AO.gen ii y) ∈ R)
    (h : Q .none m ((x, .inst 167 (some dx) [some (.ref w), some (.ref g)]) :: (dx, .ns []) :: R)) :
    CALLC C A fx (.ref 149) [.ref x, .ref w, .ref g] m ((x, .inst 167 (some dx) []) :: (dx, .ns []) :: R) Q X := by
  refine callc_nodup fun hnd => ?_
  refine hide fun z573 => ?_
  obtain ⟨n1, n2, n3⟩ : x ≠ dx ∧ x ∉ R.keys ∧ dx ∉ R.keys := by
    simp only [keys_cons, List.nodup_cons, List.mem_cons, not_or] at hnd
    exact ⟨hnd.1.1, hnd.1.2, hnd.2.1⟩
  refine z573 ?_
  refine' call3 hR (fnAt (T := T) ?ho ?hcode ?hco ?hgen ?hk) "self" "function" "iterable" ?b1 ?b2 ?body
  walk_at "fn"
  intro A' fx' hR' Z
  repeat walk_at "ex"
  refine call_iter_g (List.mem_cons_of_mem _ (List.mem_cons_of_mem _ hg)) ?_
  repeat walk_at "ex"
  refine sa_slot (T := T) (p := 169) (i := 1) (by kernel_rfl) (by decide) List.mem_cons_self (List.mem_cons_of_mem _ List.mem_cons_self) ?_
  rw [put_head (by simp only [keys_cons, List.mem_cons, not_or]; exact ⟨n1, n2⟩)]
  repeat walk_at "ex"
  refine sa_slot (T := T) (p := 168) (i := 0) (by kernel_rfl) (by decide) List.mem_cons_self (List.mem_cons_of_mem _ List.mem_cons_self) ?_
  rw [put_head (by simp only [keys_cons, List.mem_cons, not_or]; exact ⟨n1, n2⟩)]
  repeat walk_at "ex"
  exact h
theorem anyI (ys : List Int) (v : Int) : ((iv ys).any fun y => eqI y (vI v)) = decide (v ∈ ys) := by
  have := filter_iv [v] ys
  rw [Bool.eq_iff_iff]
  simp only [List.any_eq_true, decide_eq_true_eq]
  constructor
  · intro hY0
    refine hide fun z574 => ?_
    obtain ⟨u, hu, he⟩ := hY0
    refine z574 ?_
    refine hide fun z575 => ?_
    obtain ⟨z, hz, rfl⟩ := List.mem_map.mp hu
    refine z575 ?_
    have : z = v := by simpa [eqI] using he
    exact this ▸ hz
  · exact fun hx => ⟨vI v, List.mem_map.mpr ⟨v, hx, rfl⟩, by simp [eqI]⟩
noncomputable abbrev HG (g L x dx w : Addr) (ii : Nat) (y : GenState) (ls : Lo) (Z R : AH) : AH := (g, .gen ii y) :: (L, .loc ls) :: (Z ++ ((x, .inst 167 (some dx) [some (.ref w), some (.ref g)]) :: (dx, .ns []) :: R))
theorem ff_nextG {x dx w sk : Addr} {ys : List Int} (T : Top C (K02 C.w.params)) (hR : Room A (n + 12)) (GE : GEnv env L) (hs : env.scope = k02s10) (W : WG G) (hb : Bd G 100) (hw : (w, AO.flds (.type "method-wrapper") [.builtin "list.__contains__", .ref sk]) ∈ R) (hsk : (sk, AO.list (iv ys)) ∈ R)
    (hi : i ≤ (orderG G).length) (hst : GSt env x₀ G i y ls Z)
    (h1 : ∀ k v y' ls' Z' H', i ≤ k → (orderG G)[k]? = some v → v ∉ ys → (∀ j u, i ≤ j → j < k → (orderG G)[j]? = some u → u ∈ ys) → (∃ F, Fin' G F) → GSt env x₀ G (k + 1) y' ls' Z' → Wk H' (HG g L x dx w ii y' ls' Z' R) → Q (vI v) m H')
    (h2 : ∀ ev H' R', (∀ j u, i ≤ j → (orderG G)[j]? = some u → u ∈ ys) → (∃ F, Fin' G F) → ExnT ev (.type "StopIteration") .none R' H' → Wk R' ((x, .inst 167 (some dx) [some (.ref w), some (.ref g)]) :: (dx, .ns []) :: R) → X (.ref ev) m H')
    (h3 : ∀ rg ev H' R', Ring G rg → ExnT ev (.ref 48) .none R' H' → Wk R' ((x, .inst 167 (some dx) [some (.ref w), some (.ref g)]) :: (dx, .ns []) :: R) → X (.ref ev) m H') :
    CALLC C A fx (.ref 163) [.ref x] m (HG g L x dx w ii y ls Z R) Q X := by
  refine' call1x hR (fnAt (T := T) ?ho ?hcode ?hco ?hgen ?hk) "self" ?b1 ?b2 ?body
  walk_at "fn"
  intro A' fx' hR' hh Z
  repeat walk_at "ex"
  refine ga_slot (T := T) (p := 168) (i := 0) (by kernel_rfl) (up1 (up1 (List.mem_append_right _ List.mem_cons_self))) (up1 (up1 (List.mem_append_right _ (up1 List.mem_cons_self)))) rfl rfl ?_
  repeat walk_at "ex"
  refine ex_whileX hh (fun k m' H' => ∃ i' y' ls' Z', i ≤ i' ∧ i' ≤ (orderG G).length ∧ k = (orderG G).length - i' ∧ (∀ j u, i ≤ j → j < i' → (orderG G)[j]? = some u → u ∈ ys) ∧ GSt env x₀ G i' y' ls' Z' ∧
    WkL m' [("func", .ref w), ("self", .ref x)] ∧ Wk H' (HG g L x dx w ii y' ls' Z' R)) ((orderG G).length - i) ⟨i, _, _, _, Nat.le_refl _, hi, rfl, fun j u a b => absurd b (Nat.not_lt.mpr a), hst, WkL.refl, Wk.refl⟩ ?_
  intro k m' H' hY3
  refine hide fun z576 => ?_
  obtain ⟨i', y', ls', Z', hi1, hi2, rfl, hskp, hst', hm, hH⟩ := hY3
  refine z576 ?_
  refine aw_wk hm hH ?_
  repeat walk_at "ex"
  refine ga_slot (T := T) (p := 169) (i := 1) (by kernel_rfl) (up1 (up1 (List.mem_append_right _ List.mem_cons_self))) (up1 (up1 (List.mem_append_right _ (up1 List.mem_cons_self)))) rfl rfl ?_
  repeat walk_at "ex"
  refine gen_next (n := n + 2) T hR' GE hs W hb hst' (fun v y'' ls'' Z'' hv hF hst'' => ?_) (fun hv hF ev => ?_) fun rg ev t hrg => ?_
  · have hlt := (List.getElem?_eq_some_iff.mp hv).1
    have hmem : ∀ {p : Addr × AO}, p ∈ R → p ∈ HG g L x dx w ii y'' ls'' Z'' R := fun h => up1 (up1 (List.mem_append_right _ (up1 (up1 h))))
    repeat walk_at "ex"
    refine ⟨kp_bmethod (hmem hw) (.inr rfl), (call_wcontains (by have := hR'.eq2; walk_at "le") (e := fun y => eqI y (vI v)) (hmem hw) (hmem hsk) (fun y hy => ?_) ?_).call⟩
    · refine hide fun z577 => ?_
      obtain ⟨z, _, rfl⟩ := List.mem_map.mp hy
      refine z577 ?_
      exact EQV.int z v
    rw [anyI]
    repeat walk_at "ex"
    refine if_dec (fun hb => ?_) (fun hb => ?_)
    · repeat walk_at "ex"
      exact h1 i' v y'' ls'' Z'' _ hi1 hv (by simpa using hb) hskp hF hst'' Wk.refl
    · repeat walk_at "ex"
      refine ⟨(orderG G).length - (i' + 1), lt_down hlt, i' + 1, y'', ls'', Z'', Nat.le_succ_of_le hi1, hlt, rfl, fun j u hj1 hj2 hu => ?_, hst'', WkL.cons WkL.refl, Wk.refl⟩
      by_cases hj : j < i'
      · exact hskp j u hj1 hj hu
      · have : j = i' := Nat.le_antisymm (Nat.le_of_lt_succ hj2) (Nat.not_lt.mp hj)
        subst this
        rw [hv] at hu
        cases hu
        simpa using hb
  · refine ⟨ev, _, _, rfl, .inl rfl, fun H₁ hT => ⟨ev, _, _, rfl, .inr (.inr hT), fun H₂ hT' => h2 ev H₂ _ (fun j u hj hu => ?_) hF hT' Wk.refl⟩⟩
    have hlt := (List.getElem?_eq_some_iff.mp hu).1
    have := List.getElem?_eq_none_iff.mp hv
    exact hskp j u hj (Nat.lt_of_lt_of_le hlt this) hu
  · exact ⟨ev, _, _, rfl, .inr (.inl ⟨t, rfl⟩), fun H₁ hT => ⟨ev, _, _, rfl, .inr (.inr hT), fun H₂ hT' => h3 rg ev H₂ _ hrg hT' Wk.refl⟩⟩
theorem filter_okG {sk : Addr} {ys : List Int} (T : Top C (K02 C.w.params)) (hR : Room A (n + 14)) (GE : GEnv env L) (hs : env.scope = k02s10) (W : WG G) (hb : Bd G 100) (hst : GSt env x₀ G 0 y ls Z) (hsk : (sk, AO.list (iv ys)) ∈ R)
    (h : (∃ F, Fin' G F) → ∀ D, D ∉ R.keys → Q (.ref D) m ((D, .list (iv ((orderG G).filter fun x => decide (x ∉ ys)))) :: R))
    (h3 : ∀ rg ev H' R', Ring G rg → ExnT ev (.ref 48) .none R' H' → Wk R' R → X (.ref ev) m H') :
    CALLC C A fx (.ref 178) [.ref g, .ref sk] m ((g, .gen ii y) :: (L, .loc ls) :: (Z ++ R)) Q X := by
  have hol : (orderG G).length ≤ 100 := Nat.le_trans (order_len W) (by unfold nodes; rw [List.length_map]; exact hb.len)
  refine callc_wkp ?_
  refine' call2x hR (fnAt (T := T) ?ho ?hcode ?hco ?hgen ?hk) "flist" "skip" ?b1 ?b2 ?body
  walk_at "fn"
  intro A' fx' hR' hh Z0
  repeat walk_at "ex"
  refine ga_wcontains (up2 (List.mem_append_right _ hsk)) fun w hw => ?_
  repeat walk_at "ex"
  refine' ⟨kp_class T ?ho' ?hd' ?hs', ?_⟩
  case ho' => k_is
  case hd' => rfl
  case hs' => k_is
  refine (call_make (T := T) (f := 149) ?hm' ?hi' ?hf' ?_).call
  case hm' => k_is
  case hi' => k_is
  case hf' => k_is
  intro A₂ x dx hN hx hdx hne
  refine ff_initG (n := n + 11) T (hR'.near hN) (up1 List.mem_cons_self) ⟨rfl, ?_⟩
  repeat walk_at "ex"
  simp only [keys_cons, List.mem_cons, not_or] at hx hdx
  refine call_list_own (T := T) (f := 156) (g := .ref 163) (sl := [some (.ref w), some (.ref g)]) (fs := []) (fun D k m' H' => ∃ i y' ls' Z', i ≤ (orderG G).length ∧ k = (orderG G).length - i ∧ m' = ([("flist", .ref g), ("skip", .ref sk)] : Lo) ∧ GSt env x₀ G i y' ls' Z' ∧
    Wk H' (HG g L x dx w ii y' ls' Z' ((D, .list (iv (((orderG G).take i).filter fun x => decide (x ∉ ys)))) :: (w, .flds (.type "method-wrapper") [.builtin "list.__contains__", .ref sk]) :: R))) (orderG G).length ?hi ?hn ?hl List.mem_cons_self (up1 List.mem_cons_self) ?h0 ?turn
  case hi => kernel_rfl
  case hn => k_is
  case hl => kernel_rfl
  case h0 =>
    intro D hD
    refine (ff_iter T (hR'.in2) ?_).call
    refine ⟨rfl, ⟨_, up1 List.mem_cons_self⟩, ⟨_, up2 List.mem_cons_self⟩, List.mem_cons_self, 0, y, ls, Z, Nat.zero_le _, rfl, rfl, hst, ?_⟩
    rw [put_head hD]
    exact Wk.perm perm_list
  case turn =>
    intro D hD k m' H' hJ
    refine hide fun z578 => ?_
    obtain ⟨i, y', ls', Z', hi, rfl, rfl, hst', hW⟩ := hJ
    refine z578 ?_
    refine aw_wk WkL.refl hW (aw_nodupQ ?_)
    simp only [keys_cons, List.mem_cons, not_or] at hD
    refine aw_mono (Q := fun r m' H' => match r with
      | some v => H'.keys.Nodup → ∃ acc k, k < (orderG G).length - i ∧ (D, AO.list acc) ∈ H' ∧ acc.length < 1000000 ∧ ∃ i y' ls' Z', i ≤ (orderG G).length ∧ k = (orderG G).length - i ∧ m' = ([("flist", .ref g), ("skip", .ref sk)] : Lo) ∧ GSt env x₀ G i y' ls' Z' ∧
        Wk (H'.put D (.list (acc ++ [er v]))) (HG g L x dx w ii y' ls' Z' ((D, .list (iv (((orderG G).take i).filter fun x => decide (x ∉ ys)))) :: (w, .flds (.type "method-wrapper") [.builtin "list.__contains__", .ref sk]) :: R))
      | none => ∃ H'', Wk H' H'' ∧ Q (.ref D) m H'') ?_ (fun r m' H' q => by cases r <;> (first | exact q | exact fun _ => q)) fun _ _ _ z => z
    refine aw_next_ownX (T := T) (Qs := fun v m' H' => H'.keys.Nodup → ∃ acc k, k < (orderG G).length - i ∧ (D, AO.list acc) ∈ H' ∧ acc.length < 1000000 ∧ ∃ i y' ls' Z', i ≤ (orderG G).length ∧ k = (orderG G).length - i ∧ m' = ([("flist", .ref g), ("skip", .ref sk)] : Lo) ∧ GSt env x₀ G i y' ls' Z' ∧
        Wk (H'.put D (.list (acc ++ [v]))) (HG g L x dx w ii y' ls' Z' ((D, .list (iv (((orderG G).take i).filter fun x => decide (x ∉ ys)))) :: (w, .flds (.type "method-wrapper") [.builtin "list.__contains__", .ref sk]) :: R)))
      (Qn := fun m' H' => ∃ H'', Wk H' H'' ∧ Q (.ref D) m H'') (f := 163) (sl := [some (.ref w), some (.ref g)]) (fs := []) ?hn (up2 (List.mem_append_right _ List.mem_cons_self)) (up2 (List.mem_append_right _ (up1 List.mem_cons_self))) ?_
    case hn => kernel_rfl
    refine (ff_nextG (n := n) T (hR'.in2) GE hs W hb (up1 List.mem_cons_self) (up1 (up1 hsk)) hi hst' ?_ ?_ ?_).call
    · intro k v y'' ls'' Z'' H'' hik hk hnot hskp hF hst'' hW'' hnd
      have hlt := (List.getElem?_eq_some_iff.mp hk).1
      refine ⟨_, (orderG G).length - (k + 1), Nat.sub_lt_sub_left (Nat.lt_of_le_of_lt hik hlt) (Nat.lt_succ_of_le hik), hW''.1 _ (up2 (List.mem_append_right _ (up2 List.mem_cons_self))), ?_, k + 1, y'', ls'', Z'', hlt, rfl, rfl, hst'', ?_⟩
      · rw [List.length_map]
        have h1 := List.length_filter_le (fun x => decide (x ∉ ys)) ((orderG G).take i)
        rw [List.length_take] at h1
        exact Nat.lt_of_le_of_lt (Nat.le_trans h1 (Nat.le_trans (Nat.min_le_right _ _) hol)) (by decide)
      · have hp := hW''.put (a := D) (o := .list (iv (((orderG G).take (k + 1)).filter fun x => decide (x ∉ ys))))
        rw [put_HG (hW''.2 hnd)] at hp
        have e1 : iv (((orderG G).take i).filter fun x => decide (x ∉ ys)) ++ [vI v] = iv (((orderG G).take (k + 1)).filter fun x => decide (x ∉ ys)) := by
          rw [take_step k i v hik hk (by simp [hnot]) fun j u a b c => by simp [hskp j u a b c], iv_append]; rfl
        rw [e1]
        exact hp
    · intro ev H'' R' hskp hF hT hW''
      refine .inl ⟨ev, R', .none, rfl, hT, _, hW''.trans (Wk.cons (Wk.cons (Wk.keep (Wk.cons Wk.refl)))), ?_⟩
      rw [← take_end i fun j u a c => by simp [hskp j u a c]]
      refine h hF D fun hm => hD.2.2.2.2.2 ?_
      unfold AH.keys
      rw [List.map_append]
      exact List.mem_append_right _ hm
    · intro rg ev H'' R' hrg hT hW''
      exact .inr ⟨ev, 48, .none, R', rfl, hT, by kernel_rfl, ev, _, _, rfl, .inr (.inl hT), fun H₂ hT' => ⟨H₂, Wk.refl, h3 rg ev H₂ R' hrg hT' (hW''.trans (Wk.cons (Wk.cons (Wk.cons (Wk.cons Wk.refl)))))⟩⟩
end

section
variable {C : Cfg} {A : Around} {fx : Fx} {m : Lo} {H R : AH} {X : Value → Lo → AH → Prop} {Q : Value → Lo → AH → Prop} {n : Nat} {σ : SS}
theorem static_ok {sk : Addr} {ys : List Int} (T : Top C (K02 C.w.params)) (hR : Room A (n + 16)) (ok : σ.Ok) (hrdy : σ.rdy = none) (hpo : σ.po = σ.nf) (W : WG σ.g) (hb : Bd σ.g 100) (hsk : (sk, AO.list (iv ys)) ∈ R)
    (h1 : (∃ F, Fin' σ.g F) → ∀ D, D ∉ R.keys → Q (.ref D) m ((D, .list (iv ((orderG σ.g).filter fun x => decide (x ∉ ys)))) :: R)) (h2 : (∃ v, Ring σ.g v) → Q .none m R) :
    CALLC C A fx (.ref 207) [.ref σ.sa, .ref sk] m (SCX σ ++ R) Q X := by
  refine callc_wkp ?_
  refine' call2x hR (fnAt (T := T) ?ho ?hcode ?hco ?hgen ?hk) "sorter" "skip" ?b1 ?b2 ?body
  walk_at "fn"
  intro A' fx' hR' hh Z
  repeat walk_at "ex"
  refine ex_try hh ?_
  repeat walk_at "ex"
  refine gm_own (T := T) (f := 127) (by kernel_rfl) sc_sa sc_sd (ok.none (by rintro (e | e | e | e) <;> exact absurd e (by decide))) ?_
  repeat walk_at "ex"
  walk_at "kpf"
  refine' (callG1 (n := n + 14) hR' (fnAtG (T := T) ?ho1 ?hcode1 ?hco1 ?hgen1 ?hk1) "self" ?b11 ?hB1 ?hc1 fun env g L ii GE hs hg hL => ?k1).call
  case ho1 => k_is
  case hcode1 => k_is
  case hco1 => rfl
  case hgen1 => rfl
  case hk1 => rfl
  case b11 => intros; rfl
  case hB1 => rfl
  case hc1 => rfl
  case k1 =>
    repeat walk_at "ex"
    walk_at "kpf"
    refine (filter_okG (n := n + 1) (G := σ.g) (ii := ii) T hR' GE hs W hb (.inl ⟨rfl, rfl, rfl, σ, ok, rfl, hrdy, hpo, rfl, rfl⟩) hsk (fun hF D hD => ?_) fun rg ev H' R' hrg hT hW => ?_).call
    · repeat walk_at "ex"
      exact ⟨_, Wk.refl, h1 hF D hD⟩
    · refine ⟨ev, .ref 48, _, rfl, .inr (.inl hT), fun H'' hT' => ?_⟩
      refine' hb_own (excC (T := T) (c := 48) (x := "CycleError") ?hce ?hcq PySem.F.excBase_ValueError) hT' (fun Q' hQ' => ?hev) (fun H₂ hT₂ => ?hsuite)
      case hce => k_is
      case hcq => kernel_rfl
      case hev =>
        repeat walk_at "ex"
        exact hQ'
      case hsuite =>
        obtain ⟨T', rfl⟩ := hT₂
        repeat walk_at "ex"
        exact ⟨_, (Wk.cons (Wk.cons Wk.refl)).trans hW, h2 ⟨rg, hrg⟩⟩
end

section
variable {C : Cfg} {A : Around} {fx : Fx} {m : Lo} {H R : AH} {X : Value → Lo → AH → Prop} {Q : Value → Lo → AH → Prop} {n : Nat}
noncomputable def ndBase (told y : Int) : List Int := (upto y.toNat).filter fun x => bitOf told ((y * (y - 1)).fdiv 2 + x)
noncomputable def ndRow (told y : Int) : List Int := ndBase told y ++ (ndBase told y).take (y.fmod 2).toNat
noncomputable def ndAll (told : Int) (sz : Nat) (y : Int) : List Int := if told.fmod 3 == 2 && y == (told.fdiv 1024).fmod sz then ndRow told y ++ [((told.fdiv 1024).fdiv sz).fmod sz] else ndRow told y
theorem nbase_len {told y : Int} : (ndBase told y).length ≤ y.toNat := by
  unfold ndBase; have := List.length_filter_le (fun x => bitOf told ((y * (y - 1)).fdiv 2 + x)) (upto y.toNat); rwa [upto_len] at this
theorem ndRow_len {told y : Int} : (ndRow told y).length ≤ 2 * y.toNat := by
  have := nbase_len (told := told) (y := y)
  unfold ndRow
  rw [List.length_append, List.length_take, Nat.two_mul]
  exact Nat.add_le_add this (Nat.le_trans (Nat.min_le_right _ _) this)
theorem needs_ok {told : Int} {sz : Nat} (T : Top C (K02 C.w.params)) (hR : Room A (n + 1)) (h0 : 0 < sz) (hz : sz ≤ 5)
    (h : ∀ d ep kl', d ∉ AH.keys (LC (kl'.map (·.2)) ++ H) → Tab kl' (upto sz) (ndAll told sz) → Q (.ref d) m ((d, .dict (kvL kl') ep) :: (LC (kl'.map (·.2)) ++ H))) :
    CALLC C A fx (.ref 183) [vI told, vI sz] m H Q X := by
  refine callc_wkp ?_
  refine' call2 hR (fnAt (T := T) ?ho ?hcode ?hco ?hgen ?hk) "told" "size" ?b1 ?b2 ?body
  walk_at "fn"
  intro A' fx' hR' Z
  repeat walk_at "ex"
  intro d hd
  repeat walk_at "ex"
  walk_at "for"
  repeat walk_at "ex"
  refine call_range fun r hr => ?_
  refine ⟨_, _, itr_upto hR'.hand (by omega) List.mem_cons_self, fun i m' H' => ∃ ep kl, Tab kl ((upto sz).take i) (ndRow told) ∧ WkL m' [("told", vI told), ("size", vI sz), ("needs", .ref d)] ∧ Wk H' ((d, .dict (kvL kl) ep) :: (LC (kl.map (·.2)) ++ H)),
    ⟨0, [], rfl, by walk_at "wkl", Wk.cons Wk.refl⟩, fun _ _ _ _ => trivial, ?_, ?_⟩
  · intro i v m' H' hv hY5
    refine hide fun z579 => ?_
    obtain ⟨ep, kl, ht, hm, hW⟩ := hY5
    refine z579 ?_
    rw [List.getElem?_map] at hv
    refine hide fun z580 => ?_
    obtain ⟨y, hy, rfl⟩ := Option.map_eq_some_iff.mp hv
    refine z580 ?_
    refine asg_wk hm hW ?_
    repeat walk_at "ex"
    have hyu := List.mem_of_getElem? hy
    have hy0 := upto_mem.mp hyu
    have hyn : y = (y.toNat : Int) := by omega
    have hcr : ∀ {Q : Value → Lo → AH → Prop} {fx : Fx} {m : Lo} {H : AH}, (∀ a, a ∉ H.keys → Q (.ref a) m ((a, .flds (.type "range") [vI 0, vI (y.toNat : Int), vI 1]) :: H)) → CALL C A' fx (.type "range") [vI y] m H Q noX := fun h => by rw [hyn]; exact call_range h
    refine hcr fun r2 hr2 => ?_
    refine' turns_lc (us := upto y.toNat) (tv := vI) ?hb (itr_upto hR'.hand (by omega) List.mem_cons_self) (fun H hW => trivial) (by rw [upto_len]; omega) (fun x => bitOf told ((y * (y - 1)).fdiv 2 + x)) vI ?turn ?fin Z.scope
    case hb => rfl
    case turn =>
      intro fx2 Z2 x hx
      have hx0 := upto_mem.mp hx
      repeat walk_at "ex"
      have hp : 0 ≤ y * (y - 1) ∧ y * (y - 1) ≤ 20 := by
        obtain rfl | rfl | rfl | rfl | rfl : y = 0 ∨ y = 1 ∨ y = 2 ∨ y = 3 ∨ y = 4 := by omega
        all_goals decide
      refine bo_mul (IntMulOk.of_left (bits_small' hy0.1 (by omega))) ?_
      repeat walk_at "ex"
      refine bo_fdiv (by decide) (pylong2 _ 1 (by decide)) ?_
      repeat walk_at "ex"
      have hq : 0 ≤ (y * (y - 1)).fdiv 2 ∧ (y * (y - 1)).fdiv 2 ≤ 10 := by
        generalize y * (y - 1) = z at hp
        have e := Int.fdiv_eq_ediv_of_nonneg z (b := 2) (by decide)
        omega
      refine bo_pow (by omega) ?_ ?_
      · have : Builtin.Int.intBits 2 = 2 := by decide
        rw [this]; omega
      repeat walk_at "ex"
      refine bo_fdiv (int_pow_ne _) (pylong2 _ _ (by omega)) ?_
      repeat walk_at "ex"
      refine bo_mod (by decide) ?_
      repeat walk_at "ex"
      walk_at "pick"
    case fin =>
      intro a ha
      have e : ((upto y.toNat).filter fun x => bitOf told ((y * (y - 1)).fdiv 2 + x)).map vI = iv (ndBase told y) := rfl
      rw [e]
      have hbl := nbase_len (told := told) (y := y)
      have hfr : y ∉ kl.map (·.1) := by
        rw [ht.keys]
        have := take_fresh hy id (by rw [List.map_id]; exact upto_nd)
        rwa [List.map_id] at this
      have htn : ∀ a : Addr, Tab (kl ++ [(y, a, ndRow told y)]) ((upto sz).take (i + 1)) (ndRow told) := fun a => by
        unfold Tab at ht ⊢
        rw [List.map_append, ht, map_take hy fun y => (y, ndRow told y)]; rfl
      repeat walk_at "ex"
      have hy2 : y.fmod 2 = ((y.fmod 2).toNat : Int) := by have := Int.fmod_nonneg_of_pos y (b := 2) (by decide); omega
      refine bo_mod (by decide) ?_
      repeat walk_at "ex"
      refine ⟨a, _, none, some (y.fmod 2), none, rfl, List.mem_cons_self, rfl, rfl, rfl, by decide, by rw [List.length_map]; omega, fun b hb2 => ?_⟩
      rw [hy2, pick_upto]
      have e3 : (iv (ndBase told y)).take (y.fmod 2).toNat = iv ((ndBase told y).take (y.fmod 2).toNat) := by unfold iv; rw [List.map_take]
      rw [e3]
      refine bo_cat (up1 List.mem_cons_self) List.mem_cons_self (by simp only [List.length_map, List.length_take]; omega) fun c hc => ?_
      rw [← iv_append]
      repeat walk_at "ex"
      refine si_row (H' := H) (kl := kl) (ep := ep) (xs := ndRow told y) ?_ ?_ hfr fun ep' => ?_
      · exact Wk.keep (Wk.cons (Wk.cons (Wk.cons Wk.refl)))
      · rw [ht.len, List.length_take, upto_len]; omega
      repeat walk_at "ex"
      exact ⟨ep', _, htn c, by walk_at "wkl", Wk.refl⟩
  · intro m' H' hY2
    refine hide fun z581 => ?_
    obtain ⟨ep, kl, ht, hm, hW⟩ := hY2
    refine z581 ?_
    rw [List.length_map, List.take_of_length_le (Nat.le_refl _)] at ht
    refine exs_wk hm hW (exs_nodup fun hnd => ?_)
    repeat walk_at "ex"
    refine bo_mod (by decide) ?_
    repeat walk_at "ex"
    refine if_dec (fun hb => ?_) (fun hb => ?_)
    · repeat walk_at "ex"
      refine bo_fdiv (by decide) (pylong2 _ 10 (by decide)) ?_
      repeat walk_at "ex"
      refine bo_mod (by omega) ?_
      have hsz : (0 : Int) < sz := by omega
      have hyu : (told.fdiv 1024).fmod sz ∈ upto sz := upto_mem.mpr ⟨Int.fmod_nonneg_of_pos _ hsz, Int.fmod_lt_of_pos _ hsz⟩
      refine sub_dl' DL.here ht upto_nd hyu fun l hl1 hl2 => ?_
      repeat walk_at "ex"
      refine gm_list hl2 PySem.F.slot_list_append PySem.F.type_list_append ?_
      repeat walk_at "ex"
      refine bo_fdiv (by decide) (pylong2 _ 10 (by decide)) ?_
      repeat walk_at "ex"
      refine bo_fdiv (by omega) ?_ ?_
      · exact pylongS _ hz
      repeat walk_at "ex"
      refine bo_mod (by omega) ?_
      repeat walk_at "ex"
      refine call_append hl2 ?_ ?_
      · have := ndRow_len (told := told) (y := (told.fdiv 1024).fmod sz)
        have := (upto_mem.mp hyu).2
        rw [List.length_map]; omega
      repeat walk_at "ex"
      have e1 : iv (ndRow told ((told.fdiv 1024).fmod sz)) ++ [vI (((told.fdiv 1024).fdiv sz).fmod sz)] = iv (ndRow told ((told.fdiv 1024).fmod sz) ++ [((told.fdiv 1024).fdiv sz).fmod sz]) := by rw [iv_append]; rfl
      rw [e1, put_dl hnd hl1]
      have hk2 := put_dl (xs := ndRow told ((told.fdiv 1024).fmod sz) ++ [((told.fdiv 1024).fdiv sz).fmod sz]) hnd hl1
      have hn2 : (AH.keys ((d, .dict (kvL (updK kl l (ndRow told ((told.fdiv 1024).fmod sz) ++ [((told.fdiv 1024).fdiv sz).fmod sz]))) ep) :: (LC ((updK kl l (ndRow told ((told.fdiv 1024).fmod sz) ++ [((told.fdiv 1024).fdiv sz).fmod sz])).map (·.2)) ++ H))).Nodup := by rw [← hk2, AH.keys_put]; exact hnd
      refine ⟨_, Wk.refl, h d ep _ (List.nodup_cons.mp hn2).1 ((updK_tab hnd hl1 ht upto_nd).congr fun y _ => ?_)⟩
      unfold ndAll
      rw [hb, Bool.true_and]
      by_cases hy : y = (told.fdiv 1024).fmod sz
      · rw [if_pos hy, if_pos (by simpa using hy), ← hy]
      · rw [if_neg hy, if_neg (by simpa using hy)]
    · repeat walk_at "ex"
      refine ⟨_, Wk.refl, h d ep kl (List.nodup_cons.mp hnd).1 (ht.congr fun y _ => ?_)⟩
      unfold ndAll
      rw [hb]; rfl
end

section
variable {C : Cfg} {A : Around} {fx : Fx} {m : Lo} {H R : AH} {X : Value → Lo → AH → Prop} {Q : Value → Lo → AH → Prop} {n : Nat}
theorem tail_ok {nd hl : Addr} {kl : List (Int × Addr × List Int)} {ks held : List Int} {f : Int → List Int} (T : Top C (K02 C.w.params)) (hR : Room A (n + 1)) (hd : DL H nd kl) (ht : Tab kl ks f) (hn : ks.Nodup)
    (hz : ks.length ≤ 5) (hz2 : ∀ y ∈ ks, (f y).length ≤ 1000) (hh : (hl, AO.list (iv held)) ∈ H) (hhl : held.length ≤ 5)
    (h : ∀ a, a ∉ H.keys → Q (.ref a) m ((a, .list (iv (tlN ks f held ks.length))) :: H)) :
    CALLC C A fx (.ref 188) [.ref nd, .ref hl] m H Q X := by
  refine callc_wkp ?_
  refine' call2 hR (fnAt (T := T) ?ho ?hcode ?hco ?hgen ?hk) "needs" "held" ?b1 ?b2 ?body
  walk_at "fn"
  intro A' fx' hR' Z
  obtain ⟨ep, hep⟩ := hd.1
  repeat walk_at "ex"
  refine' turns_lc (us := held) (tv := vI) ?hb1 (itr_list hR'.hand hh) (fun H hW => hW.1 _ hh) (by walk_at "le") (fun _ => true) vI ?turn1 ?fin1 Z.scope
  case hb1 => rfl
  case turn1 =>
    intro fx2 Z2 y hy
    repeat walk_at "ex"
    refine ⟨rfl, if_yes ?_⟩
    repeat walk_at "ex"
    exact ⟨rfl, by walk_at "wkl", Wk.refl⟩
  case fin1 =>
    intro ta hta
    rw [List.filter_eq_self.mpr fun _ _ => rfl]
    repeat walk_at "ex"
    walk_at "for"
    repeat walk_at "ex"
    refine ⟨_, _, itr_tab hR'.hand (up1 hep) ht, fun i m' H' => WkL m' [("needs", .ref nd), ("held", .ref hl), ("tail", .ref ta)] ∧ (tlN ks f held i).length ≤ 5 + 5 * i ∧ Wk H' ((ta, .list (iv (tlN ks f held i))) :: H), ⟨by walk_at "wkl", hhl, Wk.refl⟩, ?_, ?_, ?_⟩
    · intro i m' H' hY3
      refine hide fun z582 => ?_
      obtain ⟨_, _, hW⟩ := hY3
      refine z582 ?_
      exact hW.1 _ (up1 hep)
    · intro i v m' H' hv hY5
      refine hide fun z583 => ?_
      obtain ⟨hm, hl5, hW⟩ := hY5
      refine z583 ?_
      have hi : i < ks.length := by have := (List.getElem?_eq_some_iff.mp hv).1; rwa [List.length_map] at this
      refine asg_wk hm hW ?_
      generalize ht0 : tlN ks f held i = t at hl5
      repeat walk_at "ex"
      refine' turns_lc (us := ks) (tv := vI) ?hb2 (itr_tab hR'.hand (up1 hep) ht) (fun H hW => hW.1 _ (up1 hep)) (by walk_at "le") (fun y => !decide (y ∈ t) && !decide (((f y).filter fun x => decide (x ∈ t)) = [])) vI ?turn2 ?fin2 Z.scope
      case hb2 => rfl
      case turn2 =>
        intro fx2 Z2 y hy
        repeat walk_at "ex"
        refine co_notin_list List.mem_cons_self ?_
        repeat walk_at "ex"
        refine if_dec (fun hb => ?_) (fun hb => ?_)
        · repeat walk_at "ex"
          refine sub_dl (hd.wk (Wk.cons Wk.refl)) ht hn hy fun l hl => ?_
          refine' turns_lc (us := f y) (tv := vI) ?hb3 (itr_list hR'.hand hl) (fun H hW => hW.1 _ hl) (le_N (hz2 y hy) rfl) (fun x => decide (x ∈ t)) vI ?turn3 ?fin3 Z2.scope
          case hb3 => rfl
          case turn3 =>
            intro fx3 Z3 x hx
            repeat walk_at "ex"
            refine co_in_list List.mem_cons_self ?_
            repeat walk_at "ex"
            walk_at "pick"
          case fin3 =>
            intro a ha
            repeat walk_at "ex"
            refine ⟨by decide, fun b hb3 => ?_⟩
            refine co_ne_ints (ns := (f y).filter fun x => decide (x ∈ t)) (ms := []) hR'.eqs (up1 List.mem_cons_self) List.mem_cons_self ?_
            rw [hb, Bool.true_and]
            repeat walk_at "ex"
            walk_at "pick"
        · rw [hb, Bool.false_and]
          repeat walk_at "ex"
          exact ⟨rfl, if_no ⟨by walk_at "wkl", by walk_at "wk"⟩⟩
      case fin2 =>
        intro a ha
        have ea : (ks.filter fun y => !decide (y ∈ t) && !decide (((f y).filter fun x => decide (x ∈ t)) = [])).map vI = iv (tlNew ks f t) := rfl
        rw [ea]
        have hal : (tlNew ks f t).length ≤ 5 := Nat.le_trans (List.length_filter_le _ _) hz
        repeat walk_at "ex"
        refine io_cat (up1 List.mem_cons_self) List.mem_cons_self (by simp only [List.length_map]; omega) ?_
        have hne : a ≠ ta := by simp only [keys_cons, List.mem_cons, not_or] at ha; exact ha.1
        have es : tlN ks f held (i + 1) = t ++ tlNew ks f t := by show tlN ks f held i ++ _ = _; rw [ht0]
        rw [put_cons, if_neg hne, put_head hta, ← iv_append, ← es]
        repeat walk_at "ex"
        refine ⟨by walk_at "wkl", ?_, Wk.cons Wk.refl⟩
        rw [es, List.length_append]; omega
    · intro m' H' hY2
      refine hide fun z584 => ?_
      obtain ⟨hm, hl5, hW⟩ := hY2
      refine z584 ?_
      rw [List.length_map] at hW
      refine exs_wk hm hW (exs_nodup fun hnd => ?_)
      repeat walk_at "ex"
      exact ⟨_, Wk.refl, h ta hta⟩
end

section
variable {C : Cfg} {A : Around} {fx : Fx} {m : Lo} {H R : AH} {X : Value → Lo → AH → Prop} {Q : Value → Lo → AH → Prop} {n : Nat}
theorem order_ok {nd rw_ : Addr} {kl : List (Int × Addr × List Int)} {ks row : List Int} {f : Int → List Int} (T : Top C (K02 C.w.params)) (hR : Room A (n + 1)) (hd : DL H nd kl) (ht : Tab kl ks f) (hn : ks.Nodup)
    (hz2 : ∀ y ∈ ks, (f y).length ≤ 1000) (hrow : (rw_, AO.list (iv row)) ∈ H) (hrl : row.length ≤ 5) (hrn : row.Nodup) (hrk : ∀ y ∈ row, y ∈ ks)
    (h : ∀ a O, a ∉ H.keys → OrdN row f row.length O → Q (.ref a) m ((a, .list (iv O)) :: H)) :
    CALLC C A fx (.ref 193) [.ref rw_, .ref nd] m H Q X := by
  refine callc_wkp ?_
  refine' call2 hR (fnAt (T := T) ?ho ?hcode ?hco ?hgen ?hk) "row" "needs" ?b1 ?b2 ?body
  walk_at "fn"
  intro A' fx' hR' Z
  repeat walk_at "ex"
  refine ⟨by decide, fun o hoo => ?_⟩
  repeat walk_at "ex"
  walk_at "for"
  repeat walk_at "ex"
  refine ⟨_, _, itr_list hR'.hand (up1 hrow), fun i m' H' => ∃ O, OrdN row f i O ∧ O.length ≤ 5 * i ∧ WkL m' [("row", .ref rw_), ("needs", .ref nd), ("order", .ref o)] ∧ Wk H' ((o, .list (iv O)) :: H), ⟨[], rfl, Nat.le_refl _, by walk_at "wkl", Wk.refl⟩, ?_, ?_, ?_⟩
  · intro i m' H' hY3
    refine hide fun z585 => ?_
    obtain ⟨O, _, _, _, hW⟩ := hY3
    refine z585 ?_
    exact hW.1 _ (up1 hrow)
  · intro i v m' H' hv hY5
    refine hide fun z586 => ?_
    obtain ⟨O, hO, hO5, hm, hW⟩ := hY5
    refine z586 ?_
    have hi : i < row.length := by have := (List.getElem?_eq_some_iff.mp hv).1; rwa [List.length_map] at this
    refine asg_wk hm hW ?_
    repeat walk_at "ex"
    refine' turns_lc (us := row) (tv := vI) ?hb2 (itr_list hR'.hand (up1 hrow)) (fun H hW => hW.1 _ (up1 hrow)) (by walk_at "le") (fun y => !decide (y ∈ O) && decide (((f y).filter fun x => !decide (x ∈ O)) = [])) vI ?turn2 ?fin2 Z.scope
    case hb2 => rfl
    case turn2 =>
      intro fx2 Z2 y hy
      repeat walk_at "ex"
      refine co_notin_list List.mem_cons_self ?_
      repeat walk_at "ex"
      refine if_dec (fun hb => ?_) (fun hb => ?_)
      · repeat walk_at "ex"
        refine sub_dl (hd.wk (Wk.cons Wk.refl)) ht hn (hrk y hy) fun l hl => ?_
        refine' turns_lc (us := f y) (tv := vI) ?hb3 (itr_list hR'.hand hl) (fun H hW => hW.1 _ hl) (le_N (hz2 y (hrk y hy)) rfl) (fun x => !decide (x ∈ O)) vI ?turn3 ?fin3 Z2.scope
        case hb3 => rfl
        case turn3 =>
          intro fx3 Z3 x hx
          repeat walk_at "ex"
          refine co_notin_list List.mem_cons_self ?_
          repeat walk_at "ex"
          walk_at "pick"
        case fin3 =>
          intro a ha
          repeat walk_at "ex"
          refine ⟨by decide, fun b hb3 => ?_⟩
          refine co_eq_ints (ns := (f y).filter fun x => !decide (x ∈ O)) (ms := []) hR'.eqs (up1 List.mem_cons_self) List.mem_cons_self ?_
          rw [hb, Bool.true_and]
          repeat walk_at "ex"
          walk_at "pick"
      · rw [hb, Bool.false_and]
        repeat walk_at "ex"
        exact ⟨rfl, if_no ⟨by walk_at "wkl", by walk_at "wk"⟩⟩
    case fin2 =>
      intro fa hfa
      have ea : (row.filter fun y => !decide (y ∈ O) && decide (((f y).filter fun x => !decide (x ∈ O)) = [])).map vI = iv (freeO row f O) := rfl
      rw [ea]
      have hfl : (freeO row f O).length ≤ 5 := Nat.le_trans (List.length_filter_le _ _) hrl
      have hfr : ∀ y ∈ freeO row f O, y ∈ row ∧ ∀ x ∈ f y, x ∈ O := fun y hy => freeO_mem hy
      repeat walk_at "ex"
      have hup : ∀ {H₂ : AH}, Wk H₂ ((fa, AO.list (iv (freeO row f O))) :: (o, AO.list (iv O)) :: H) → Wk H₂ H := fun h => h.trans (Wk.cons (Wk.cons Wk.refl))
      refine' turns_lcp (us := freeO row f O) (tv := vI) ?hb4 rfl (itr_list hR'.hand List.mem_cons_self) (fun H hW => hW.1 _ List.mem_cons_self) (by walk_at "le") (keyO row f O) ?turn4 ?fin4 Z.scope
      case hb4 => rfl
      case turn4 =>
        intro fx2 Z2 y hy H₂ hW₂
        obtain ⟨hyr, hyO⟩ := hfr y hy
        have hoH : (o, AO.list (iv O)) ∈ H₂ := hW₂.1 _ (up1 List.mem_cons_self)
        repeat walk_at "ex"
        refine ⟨by decide, fun b hb => ?_⟩
        repeat walk_at "ex"
        refine sub_dl (hd.wk ((Wk.cons Wk.refl).trans (hup hW₂))) ht hn (hrk y hyr) fun l hl => ?_
        have hfl2 := hz2 y (hrk y hyr)
        refine' turns_lc (us := f y) (tv := vI) ?hb5 (itr_list hR'.hand hl) (fun H hW => hW.1 _ hl) (le_N hfl2 rfl) (fun _ => true) (fun x => vI (O.idxOf x : Nat)) ?turn5 ?fin5 Z2.scope
        case hb5 => rfl
        case turn5 =>
          intro fx3 Z3 x hx
          repeat walk_at "ex"
          refine ⟨rfl, if_yes ?_⟩
          repeat walk_at "ex"
          refine gm_list (up1 hoH) PySem.F.slot_list_index PySem.F.type_list_index ?_
          repeat walk_at "ex"
          refine call_index (up1 hoH) (hyO x hx) (by omega) ?_
          exact ⟨rfl, by walk_at "wkl", Wk.refl⟩
        case fin5 =>
          intro a ha
          rw [List.filter_eq_self.mpr fun _ _ => rfl]
          repeat walk_at "ex"
          refine bo_cat (xs := [vI (-1)]) (up1 List.mem_cons_self) List.mem_cons_self (by simp only [List.length_map, List.length_cons, List.length_nil]; omega) fun c hc => ?_
          have e1 : [vI (-1)] ++ (f y).map (fun x => vI (O.idxOf x : Nat)) = iv ((-1) :: (f y).map fun x => ((O.idxOf x : Nat) : Int)) := by unfold iv; rw [List.map_cons, List.map_map]; rfl
          rw [e1]
          repeat walk_at "ex"
          refine call_max hR'.hand List.mem_cons_self (Nat.succ_pos _) fun M hM hle => ?_
          rw [lastK_max hM hle]
          have hrw2 : (rw_, AO.list (iv row)) ∈ H₂ := (hup hW₂).1 _ hrow
          repeat walk_at "ex"
          refine gm_list (up3 hrw2) PySem.F.slot_list_index PySem.F.type_list_index ?_
          repeat walk_at "ex"
          refine call_index (up3 hrw2) hyr (by omega) ?_
          repeat walk_at "ex"
          refine ⟨Nat.le_of_ble_eq_true rfl, fun t ht => ?_⟩
          exact ⟨t, rfl, by walk_at "wkl", Wk.keep (Wk.cons (Wk.cons (Wk.cons Wk.refl)))⟩
      case fin4 =>
        intro a cs ha hcs
        have hcl : cs.length ≤ 5 := by have := congrArg List.length hcs; rw [List.length_map, List.length_map] at this; omega
        repeat walk_at "ex"
        refine call_sorted_tt List.mem_cons_self (fun p hp => up1 (List.mem_append_left _ (List.mem_map.mpr ⟨p, hp, rfl⟩))) hcl (keys_nd hrn hcs) fun a2 ts ha2 hp hpw => ?_
        have hst := step_of hcs hp hpw
        have htl : ts.length ≤ 5 := by rw [hp.length_eq]; exact hcl
        repeat walk_at "ex"
        refine' turns_lc (us := ts) (tv := fun p => Value.ref p.1) ?hb6 (itr_list hR'.hand List.mem_cons_self) (fun H hW => hW.1 _ List.mem_cons_self) (by walk_at "le") (fun _ => true) (fun p => vI (row.getD p.2.2.toNat 0)) ?turn6 ?fin6 Z.scope
        case hb6 => rfl
        case turn6 =>
          intro fx2 Z2 p hpm
          refine hide fun z587 => ?_
          obtain ⟨y, hy, ey⟩ : ∃ y ∈ freeO row f O, keyO row f O y = p.2 := by
            have h1 : p.2 ∈ cs.map (·.2) := List.mem_map_of_mem (hp.mem_iff.mp hpm)
            rw [hcs] at h1
            exact List.mem_map.mp h1
          refine z587 ?_
          have e2 : p.2.2 = (row.idxOf y : Nat) := by rw [← ey]; rfl
          have hlt := List.idxOf_lt_length_iff.mpr (hfr y hy).1
          have hget : (iv row)[p.2.2.toNat]? = some (vI (row.getD p.2.2.toNat 0)) := by
            rw [e2, Int.toNat_natCast]
            unfold iv
            rw [List.getElem?_map, List.getD_eq_getElem?_getD, idx_get (hfr y hy).1]; rfl
          dsimp only
          refine' asg_tup2 hR'.hand (up2 (List.mem_append_left _ (List.mem_map.mpr ⟨p, hp.mem_iff.mp hpm, rfl⟩))) ?ha7 ?he7
          case he7 => rfl
          repeat walk_at "ex"
          refine ⟨rfl, if_yes ?_⟩
          repeat walk_at "ex"
          refine sub_list (up2 (List.mem_append_right _ (up2 hrow))) (by rw [e2]; omega) (by rw [e2]; omega) hget ?_
          exact ⟨rfl, by walk_at "wkl", Wk.refl⟩
        case fin6 =>
          intro c hc
          rw [List.filter_eq_self.mpr fun _ _ => rfl]
          repeat walk_at "ex"
          have e3 : (ts.map fun p => vI (row.getD p.2.2.toNat 0)) = iv (ts.map fun p => row.getD p.2.2.toNat 0) := by unfold iv; rw [List.map_map]; rfl
          rw [e3]
          refine io_wk (H' := (c, .list (iv (ts.map fun p => row.getD p.2.2.toNat 0))) :: (o, .list (iv O)) :: H) WkL.refl (Wk.keep (Wk.cons (Wk.cons ((Wk.sub (List.sublist_append_right _ _)).trans (Wk.cons Wk.refl))))) ?_
          refine io_cat (up1 List.mem_cons_self) List.mem_cons_self (by simp only [List.length_map]; omega) ?_
          have hne : c ≠ o := fun q => hc (by rw [q]; simp [keys_cons, AH.keys])
          rw [put_cons, if_neg hne, put_head hoo, ← iv_append]
          repeat walk_at "ex"
          exact ⟨_, ⟨O, _, hO, hst, rfl⟩, by rw [List.length_append, List.length_map]; omega, by walk_at "wkl", Wk.cons Wk.refl⟩
  · intro m' H' hY2
    refine hide fun z588 => ?_
    obtain ⟨O, hO, hO5, hm, hW⟩ := hY2
    refine z588 ?_
    rw [List.length_map] at hO
    refine exs_wk hm hW ?_
    repeat walk_at "ex"
    exact ⟨_, Wk.refl, h o O hoo hO⟩
end

section
variable {C : Cfg} {A : Around} {fx : Fx} {m : Lo} {H R : AH} {X : Value → Lo → AH → Prop} {Q : Value → Lo → AH → Prop} {n : Nat}
theorem sorter_ok {nd rw_ : Addr} {kl : List (Int × Addr × List Int)} {ks row : List Int} {f : Int → List Int} (T : Top C (K02 C.w.params)) (hR : Room A (n + 8)) (hd : DL H nd kl) (ht : Tab kl ks f) (hn : ks.Nodup)
    (hrow : (rw_, AO.list (iv row)) ∈ H) (hrl : row.length ≤ 5) (hrk : ∀ y ∈ row, y ∈ ks) (hf : ∀ y ∈ row, (f y).length ≤ 6)
    (h : ∀ σ, SS.Ok σ → σ.rdy = none → σ.po = σ.nf → σ.g = bldG row f → Q (.ref σ.sa) m (SCX σ ++ H)) :
    CALLC C A fx (.ref 200) [.ref rw_, .ref nd] m H Q X := by
  refine callc_wkp ?_
  refine' call2 hR (fnAt (T := T) ?ho ?hcode ?hco ?hgen ?hk) "row" "needs" ?b1 ?b2 ?body
  walk_at "fn"
  intro A' fx' hR' Z
  repeat walk_at "ex"
  walk_at "kpc"
  refine (call_make (T := T) (f := 66) ?hm1 ?hi1 ?hf1 ?_).call
  case hm1 => k_is
  case hi1 => k_is
  case hf1 => k_is
  intro A₁ x1 dx1 hN1 hx1 hdx1 hne1
  refine init0 (n := n + 5) T (hR'.near hN1) fun nd1 => ⟨rfl, ?_⟩
  repeat walk_at "ex"
  walk_at "for"
  repeat walk_at "ex"
  refine ⟨_, _, itr_list hR'.hand (List.mem_append_right _ hrow), fun i m' H' => ∃ σ : SS, σ.Ok ∧ σ.sa = x1 ∧ σ.rdy = none ∧ σ.po = σ.nf ∧ σ.g = gBuild ((bldL row f).take i) ∧
    WkL m' [("sorter", .ref x1), ("row", .ref rw_), ("needs", .ref nd)] ∧ Wk H' (SCX σ ++ H), ⟨ss0 x1 dx1 nd1, ss0_ok, rfl, rfl, rfl, rfl, by walk_at "wkl", Wk.refl⟩, ?_, ?_, ?_⟩
  · intro i m' H' hY3
    refine hide fun z589 => ?_
    obtain ⟨σ, _, _, _, _, _, _, hW⟩ := hY3
    refine z589 ?_
    exact hW.1 _ (List.mem_append_right _ hrow)
  · intro i v m' H' hv hY5
    refine hide fun z590 => ?_
    obtain ⟨σ, ok, hsa, hre, hpo, hg, hm, hW⟩ := hY5
    refine z590 ?_
    rw [List.getElem?_map] at hv
    refine hide fun z591 => ?_
    obtain ⟨y, hy, rfl⟩ := Option.map_eq_some_iff.mp hv
    refine z591 ?_
    have hi : i < row.length := (List.getElem?_eq_some_iff.mp hy).1
    have hex : (bldL row f)[i]? = some (y, []) := by
      unfold bldL
      rw [List.getElem?_append_left (by rw [List.length_map]; exact hi), List.getElem?_map, hy]; rfl
    refine asg_wk hm hW ?_
    rw [← hsa]
    repeat walk_at "ex"
    refine gm_own (T := T) (f := 80) (by kernel_rfl) sc_sa sc_sd (ok.none (by rintro (e | e | e | e) <;> exact absurd e (by decide))) ?_
    repeat walk_at "ex"
    walk_at "kpf"
    refine (add_ok (n := n + 3) (k := y) (ps := []) T hR' ok hre (by rw [hg]; exact bld_bd hrl hf i) (Nat.le_of_ble_eq_true rfl) fun σ' ok' sm hg' => ?_).call
    repeat walk_at "ex"
    exact ⟨σ', ok', sm.sa, sm.rdy.trans hre, by rw [sm.po, sm.nf, hpo], by rw [hg', hg, build_take hex], by walk_at "wkl", Wk.refl⟩
  · intro m' H' hY2
    refine hide fun z592 => ?_
    obtain ⟨σ0, ok0, hsa0, hre0, hpo0, hg0, hm0, hW0⟩ := hY2
    refine z592 ?_
    rw [List.length_map] at hg0
    refine exs_wk hm0 hW0 ?_
    repeat walk_at "ex"
    walk_at "for"
    repeat walk_at "ex"
    refine ⟨_, _, itr_list hR'.hand (List.mem_append_right _ hrow), fun i m' H' => ∃ σ : SS, σ.Ok ∧ σ.sa = x1 ∧ σ.rdy = none ∧ σ.po = σ.nf ∧ σ.g = gBuild ((bldL row f).take (row.length + i)) ∧
      WkL m' [("sorter", .ref x1), ("row", .ref rw_), ("needs", .ref nd)] ∧ Wk H' (SCX σ ++ H), ⟨σ0, ok0, hsa0, hre0, hpo0, hg0, by walk_at "wkl", Wk.refl⟩, ?_, ?_, ?_⟩
    · intro i m' H' hY3
      refine hide fun z593 => ?_
      obtain ⟨σ, _, _, _, _, _, _, hW⟩ := hY3
      refine z593 ?_
      exact hW.1 _ (List.mem_append_right _ hrow)
    · intro i v m' H' hv hY5
      refine hide fun z594 => ?_
      obtain ⟨σ, ok, hsa, hre, hpo, hg, hm, hW⟩ := hY5
      refine z594 ?_
      rw [List.getElem?_map] at hv
      refine hide fun z595 => ?_
      obtain ⟨y, hy, rfl⟩ := Option.map_eq_some_iff.mp hv
      refine z595 ?_
      have hyr := List.mem_of_getElem? hy
      have hex : (bldL row f)[row.length + i]? = some (y, f y) := by
        unfold bldL
        rw [List.getElem?_append_right (by rw [List.length_map]; exact Nat.le_add_right _ _), List.length_map, Nat.add_sub_cancel_left, List.getElem?_map, hy]; rfl
      refine asg_wk hm hW ?_
      rw [← hsa]
      have hfy := hf y hyr
      repeat walk_at "ex"
      refine ga_method (T := T) (f := 80) (by kernel_rfl) (by kernel_rfl) sc_sa sc_sd (ok.none (by rintro (e | e | e | e) <;> exact absurd e (by decide))) fun a ha => ?_
      repeat walk_at "ex"
      refine sub_dl (hd.wk (Wk.cons (Wk.sub (List.sublist_append_right _ _)))) ht hn (hrk y hyr) fun l hl => ?_
      refine coll_list hl (by rw [List.length_map]; walk_at "le") ?_
      repeat walk_at "ex"
      rw [List.append_nil]
      refine' ⟨kp_methK T List.mem_cons_self ?ho2 ?hd2, (call_method List.mem_cons_self (callc_wk (H' := SCX σ ++ ((a, .flds (.type "method") [.ref 80, .ref σ.sa]) :: H)) wk_mid
        (add_ok (n := n + 3) T hR' ok hre (by rw [hg]; exact bld_bd hrl hf _) ?hz3 fun σ' ok' sm hg' => ?_))).call⟩
      case ho2 => k_is
      case hd2 => rfl
      case hz3 => exact Nat.le_trans (Nat.add_le_add_left (Nat.mul_le_mul_left 2 hfy) 100) (Nat.le_of_ble_eq_true rfl)
      repeat walk_at "ex"
      exact ⟨σ', ok', sm.sa.trans rfl, sm.rdy.trans hre, by rw [sm.po, sm.nf, hpo], by rw [hg', hg, ← Nat.add_assoc, build_take hex], by walk_at "wkl", Wk.sub (List.Sublist.append_left (List.sublist_cons_self _ _) _)⟩
    · intro m' H' hY2
      refine hide fun z596 => ?_
      obtain ⟨σ, ok, hsa, hre, hpo, hg, hm, hW⟩ := hY2
      refine z596 ?_
      have e : (bldL row f).take (row.length + (iv row).length) = bldL row f := List.take_of_length_le (by unfold bldL; rw [List.length_append, List.length_map, List.length_map, List.length_map]; exact Nat.le_refl _)
      rw [e] at hg
      refine exs_wk hm hW ?_
      rw [← hsa]
      repeat walk_at "ex"
      exact ⟨_, Wk.refl, h σ ok hre hpo hg⟩
end

section
variable {C : Cfg} {A : Around} {fx : Fx} {m : Lo} {H R : AH} {X : Value → Lo → AH → Prop} {Q : Value → Lo → AH → Prop} {n : Nat}
theorem ff_initT {x dx w l : Addr} {xs : List Value} (T : Top C (K02 C.w.params)) (hR : Room A (n + 1)) (hl : (l, AO.tup xs) ∈ R)
    (h : ∀ I, I ∉ AH.keys ((x, .inst 167 (some dx) []) :: (dx, .ns []) :: R) → Q .none m ((I, tuIt (.ref l) 0) :: (x, .inst 167 (some dx) [some (.ref w), some (.ref I)]) :: (dx, .ns []) :: R)) :
    CALLC C A fx (.ref 149) [.ref x, .ref w, .ref l] m ((x, .inst 167 (some dx) []) :: (dx, .ns []) :: R) Q X := by
  refine callc_nodup fun hnd => ?_
  refine hide fun z597 => ?_
  obtain ⟨n1, n2, n3⟩ : x ≠ dx ∧ x ∉ R.keys ∧ dx ∉ R.keys := by
    simp only [keys_cons, List.nodup_cons, List.mem_cons, not_or] at hnd
    exact ⟨hnd.1.1, hnd.1.2, hnd.2.1⟩
  refine z597 ?_
  refine' call3 hR (fnAt (T := T) ?ho ?hcode ?hco ?hgen ?hk) "self" "function" "iterable" ?b1 ?b2 ?body
  walk_at "fn"
  intro A' fx' hR' Z
  repeat walk_at "ex"
  refine call_iter_t (List.mem_cons_of_mem _ (List.mem_cons_of_mem _ hl)) fun I hI => ?_
  have hI' := hI
  simp only [keys_cons, List.mem_cons, not_or] at hI'
  refine hide fun z598 => ?_
  obtain ⟨i1, i2, i3⟩ := hI'
  refine z598 ?_
  repeat walk_at "ex"
  refine sa_slot (T := T) (p := 169) (i := 1) (by kernel_rfl) (by decide) (List.mem_cons_of_mem _ List.mem_cons_self) (List.mem_cons_of_mem _ (List.mem_cons_of_mem _ List.mem_cons_self)) ?_
  rw [put_cons, if_neg i1, put_head (by simp only [keys_cons, List.mem_cons, not_or]; exact ⟨n1, n2⟩)]
  repeat walk_at "ex"
  refine sa_slot (T := T) (p := 168) (i := 0) (by kernel_rfl) (by decide) (List.mem_cons_of_mem _ List.mem_cons_self) (List.mem_cons_of_mem _ (List.mem_cons_of_mem _ List.mem_cons_self)) ?_
  rw [put_cons, if_neg i1, put_head (by simp only [keys_cons, List.mem_cons, not_or]; exact ⟨n1, n2⟩)]
  repeat walk_at "ex"
  exact h I hI
theorem ff_nextT {x dx w l sk I : Addr} {xs ys : List Value} {e : Value → Value → Bool} {i : Nat} (T : Top C (K02 C.w.params)) (hR : Room A (n + 1)) (hl : (l, AO.tup xs) ∈ R) (hw : (w, AO.flds (.type "method-wrapper") [.builtin "list.__contains__", .ref sk]) ∈ R) (hs : (sk, AO.list ys) ∈ R)
    (he : ∀ y ∈ ys, ∀ u ∈ xs, EQV C R y u (e y u)) (hi : i ≤ xs.length)
    (h1 : ∀ k v H', i ≤ k → xs[k]? = some v → (ys.any fun y => e y v) = false → (∀ j u, i ≤ j → j < k → xs[j]? = some u → (ys.any fun y => e y u) = true) → Wk H' ((I, tuIt (.ref l) (k + 1)) :: (x, .inst 167 (some dx) [some (.ref w), some (.ref I)]) :: (dx, .ns []) :: R) → Q v m H')
    (h2 : ∀ ev H' R', (∀ j u, i ≤ j → xs[j]? = some u → (ys.any fun y => e y u) = true) → ExnT ev (.type "StopIteration") .none R' H' → Wk R' ((x, .inst 167 (some dx) [some (.ref w), some (.ref I)]) :: (dx, .ns []) :: R) → X (.ref ev) m H') :
    CALLC C A fx (.ref 163) [.ref x] m ((I, tuIt (.ref l) i) :: (x, .inst 167 (some dx) [some (.ref w), some (.ref I)]) :: (dx, .ns []) :: R) Q X := by
  refine callc_nodup fun hnd => ?_
  refine hide fun z599 => ?_
  obtain ⟨i1, i2, i3, n1, n2, n3⟩ : I ≠ x ∧ I ≠ dx ∧ I ∉ R.keys ∧ x ≠ dx ∧ x ∉ R.keys ∧ dx ∉ R.keys := by
    simp only [keys_cons, List.nodup_cons, List.mem_cons, not_or] at hnd
    exact ⟨hnd.1.1, hnd.1.2.1, hnd.1.2.2, hnd.2.1.1, hnd.2.1.2, hnd.2.2.1⟩
  refine z599 ?_
  refine' call1x hR (fnAt (T := T) ?ho ?hcode ?hco ?hgen ?hk) "self" ?b1 ?b2 ?body
  walk_at "fn"
  intro A' fx' hR' hh Z
  repeat walk_at "ex"
  refine ga_slot (T := T) (p := 168) (i := 0) (by kernel_rfl) (List.mem_cons_of_mem _ List.mem_cons_self) (List.mem_cons_of_mem _ (List.mem_cons_of_mem _ List.mem_cons_self)) rfl rfl ?_
  repeat walk_at "ex"
  refine ex_whileX hh (fun k m' H' => ∃ i', i ≤ i' ∧ i' ≤ xs.length ∧ k = xs.length - i' ∧ (∀ j u, i ≤ j → j < i' → xs[j]? = some u → (ys.any fun y => e y u) = true) ∧
    WkL m' [("func", .ref w), ("self", .ref x)] ∧ Wk H' ((I, tuIt (.ref l) i') :: (x, .inst 167 (some dx) [some (.ref w), some (.ref I)]) :: (dx, .ns []) :: R)) (xs.length - i) ⟨i, Nat.le_refl _, hi, rfl, fun j u a b => by omega, WkL.refl, Wk.refl⟩ ?_
  intro k m' H' hY3
  refine hide fun z600 => ?_
  obtain ⟨i', hi1, hi2, rfl, hsk, hm, hH⟩ := hY3
  refine z600 ?_
  refine aw_wk hm hH ?_
  repeat walk_at "ex"
  refine ga_slot (T := T) (p := 169) (i := 1) (by kernel_rfl) (List.mem_cons_of_mem _ List.mem_cons_self) (List.mem_cons_of_mem _ (List.mem_cons_of_mem _ List.mem_cons_self)) rfl rfl ?_
  repeat walk_at "ex"
  have hmem : ∀ {p : Addr × AO} {a b c : Addr × AO}, p ∈ R → p ∈ a :: b :: c :: R := fun h => List.mem_cons_of_mem _ (List.mem_cons_of_mem _ (List.mem_cons_of_mem _ h))
  cases hx : xs[i']? with
  | none =>
    refine call_next_end_t hR'.hand List.mem_cons_self (hmem hl) hx fun ev hev => ?_
    rw [put_head (by simp only [keys_cons, List.mem_cons, not_or]; exact ⟨i1, i2, i3⟩)]
    refine ⟨ev, _, _, rfl, .inl rfl, fun H₁ hT => ⟨ev, _, _, rfl, .inr (.inr hT), fun H₂ hT' => h2 ev H₂ _ (fun j u hj hu => ?_) hT' (Wk.cons Wk.refl)⟩⟩
    have hlt := (List.getElem?_eq_some_iff.mp hu).1
    have := List.getElem?_eq_none_iff.mp hx
    exact hsk j u hj (Nat.lt_of_lt_of_le hlt this) hu
  | some v =>
    have hlt := (List.getElem?_eq_some_iff.mp hx).1
    refine call_next_t List.mem_cons_self (hmem hl) hx ?_
    rw [put_head (by simp only [keys_cons, List.mem_cons, not_or]; exact ⟨i1, i2, i3⟩)]
    repeat walk_at "ex"
    refine ⟨kp_bmethod (hmem hw) (.inr rfl), (call_wcontains (by have := hR'.eq2; walk_at "le") (e := fun y => e y v) (hmem hw) (hmem hs) (fun y hy => (he y hy v (List.mem_of_getElem? hx)).wk (Wk.cons (Wk.cons (Wk.cons Wk.refl)))) ?_).call⟩
    repeat walk_at "ex"
    refine if_dec (fun hb => ?_) (fun hb => ?_)
    · repeat walk_at "ex"
      exact h1 i' v _ hi1 hx (by simpa using hb) hsk Wk.refl
    · repeat walk_at "ex"
      refine ⟨xs.length - (i' + 1), lt_down hlt, i' + 1, Nat.le_succ_of_le hi1, hlt, rfl, fun j u hj1 hj2 hu => ?_, WkL.cons WkL.refl, Wk.refl⟩
      by_cases hj : j < i'
      · exact hsk j u hj1 hj hu
      · have : j = i' := Nat.le_antisymm (Nat.le_of_lt_succ hj2) (Nat.not_lt.mp hj)
        subst this
        rw [hx] at hu
        cases hu
        simpa using hb
end
section
variable {C : Cfg} {A : Around} {fx : Fx} {m : Lo} {H R : AH} {X : Value → Lo → AH → Prop} {Q : Value → Lo → AH → Prop} {n : Nat}
theorem filter_okT {l sk : Addr} {xs ys : List Value} (e : Value → Value → Bool) (T : Top C (K02 C.w.params)) (hR : Room A (n + 3)) (hl : (l, AO.tup xs) ∈ H) (hs : (sk, AO.list ys) ∈ H) (hz : xs.length < 1000000)
    (he : ∀ y ∈ ys, ∀ u ∈ xs, EQV C H y u (e y u)) (h : ∀ D, D ∉ H.keys → Q (.ref D) m ((D, .list (xs.filter fun u => !(ys.any fun y => e y u))) :: H)) : CALLC C A fx (.ref 178) [.ref l, .ref sk] m H Q X := by
  refine callc_wkp ?_
  refine' call2 hR (fnAt (T := T) ?ho ?hcode ?hco ?hgen ?hk) "flist" "skip" ?b1 ?b2 ?body
  walk_at "fn"
  intro A' fx' hR' Z
  repeat walk_at "ex"
  refine ga_wcontains hs fun w hw => ?_
  repeat walk_at "ex"
  refine' ⟨kp_class T ?ho' ?hd' ?hs', ?_⟩
  case ho' => k_is
  case hd' => rfl
  case hs' => k_is
  refine (call_make (T := T) (f := 149) ?hm' ?hi' ?hf' ?_).call
  case hm' => k_is
  case hi' => k_is
  case hf' => k_is
  intro A₂ x dx hN hx hdx hne
  refine ff_initT T (hR'.near hN) (List.mem_cons_of_mem _ hl) fun I hI => ⟨rfl, ?_⟩
  repeat walk_at "ex"
  simp only [keys_cons, List.mem_cons, not_or] at hx hdx hI
  refine call_list_own (T := T) (f := 156) (g := .ref 163) (sl := [some (.ref w), some (.ref I)]) (fs := []) (fun D k m' H' => ∃ i, i ≤ xs.length ∧ k = xs.length - i ∧ m' = ([("flist", .ref l), ("skip", .ref sk)] : Lo) ∧
    Wk H' ((I, tuIt (.ref l) i) :: (x, .inst 167 (some dx) [some (.ref w), some (.ref I)]) :: (dx, .ns []) :: (D, .list ((xs.take i).filter fun u => !(ys.any fun y => e y u))) :: (w, .flds (.type "method-wrapper") [.builtin "list.__contains__", .ref sk]) :: H)) xs.length ?hi ?hn ?hl (List.mem_cons_of_mem _ List.mem_cons_self) (List.mem_cons_of_mem _ (List.mem_cons_of_mem _ List.mem_cons_self)) ?h0 ?turn
  case hi => kernel_rfl
  case hn => k_is
  case hl => kernel_rfl
  case h0 =>
    intro D hD
    refine (ff_iter T (hR'.in2) ?_).call
    refine ⟨rfl, ⟨_, List.mem_cons_of_mem _ (List.mem_cons_of_mem _ List.mem_cons_self)⟩, ⟨_, List.mem_cons_of_mem _ (List.mem_cons_of_mem _ (List.mem_cons_of_mem _ List.mem_cons_self))⟩, List.mem_cons_self, 0, Nat.zero_le _, rfl, rfl, ?_⟩
    rw [put_head hD]
    exact Wk.swap.trans (Wk.keep (Wk.swap.trans (Wk.keep Wk.swap)))
  case turn =>
    intro D hD k m' H' hJ
    refine hide fun z601 => ?_
    obtain ⟨i, hi, rfl, rfl, hW⟩ := hJ
    refine z601 ?_
    refine aw_wk WkL.refl hW ?_
    simp only [keys_cons, List.mem_cons, not_or] at hD
    refine aw_mono (Q := fun r m' H' => match r with
      | some v => ∃ acc k, k < xs.length - i ∧ (D, AO.list acc) ∈ H' ∧ acc.length < 1000000 ∧ ∃ i, i ≤ xs.length ∧ k = xs.length - i ∧ m' = ([("flist", .ref l), ("skip", .ref sk)] : Lo) ∧
        Wk (H'.put D (.list (acc ++ [er v]))) ((I, tuIt (.ref l) i) :: (x, .inst 167 (some dx) [some (.ref w), some (.ref I)]) :: (dx, .ns []) :: (D, .list ((xs.take i).filter fun u => !(ys.any fun y => e y u))) :: (w, .flds (.type "method-wrapper") [.builtin "list.__contains__", .ref sk]) :: H)
      | none => ∃ H'', Wk H' H'' ∧ Q (.ref D) m H'') ?_ (fun r m' H' q => by cases r <;> exact q) fun _ _ _ z => z
    refine aw_next_own (T := T) (Qs := fun v m' H' => ∃ acc k, k < xs.length - i ∧ (D, AO.list acc) ∈ H' ∧ acc.length < 1000000 ∧ ∃ i, i ≤ xs.length ∧ k = xs.length - i ∧ m' = ([("flist", .ref l), ("skip", .ref sk)] : Lo) ∧
        Wk (H'.put D (.list (acc ++ [v]))) ((I, tuIt (.ref l) i) :: (x, .inst 167 (some dx) [some (.ref w), some (.ref I)]) :: (dx, .ns []) :: (D, .list ((xs.take i).filter fun u => !(ys.any fun y => e y u))) :: (w, .flds (.type "method-wrapper") [.builtin "list.__contains__", .ref sk]) :: H))
      (Qn := fun m' H' => ∃ H'', Wk H' H'' ∧ Q (.ref D) m H'') (f := 163) (sl := [some (.ref w), some (.ref I)]) (fs := []) ?hn (List.mem_cons_of_mem _ List.mem_cons_self) (List.mem_cons_of_mem _ (List.mem_cons_of_mem _ List.mem_cons_self)) ?_
    case hn => kernel_rfl
    refine (ff_nextT (e := e) T (hR'.in2) (List.mem_cons_of_mem _ (List.mem_cons_of_mem _ hl)) (List.mem_cons_of_mem _ List.mem_cons_self) (List.mem_cons_of_mem _ (List.mem_cons_of_mem _ hs)) (fun y hy u hu => (he y hy u hu).wk (Wk.cons (Wk.cons Wk.refl))) hi ?_ ?_).call
    · intro k v H'' hik hk hkeep hsk hW''
      have hlt := (List.getElem?_eq_some_iff.mp hk).1
      refine hide fun z602 => ?_
      obtain ⟨d1, d2, d3, d4, d5⟩ := hD
      refine z602 ?_
      refine ⟨_, xs.length - (k + 1), Nat.sub_lt_sub_left (Nat.lt_of_le_of_lt hik hlt) (Nat.lt_succ_of_le hik), hW''.1 _ (List.mem_cons_of_mem _ (List.mem_cons_of_mem _ (List.mem_cons_of_mem _ List.mem_cons_self))), ?_, k + 1, hlt, rfl, rfl, ?_⟩
      · have h1 := List.length_filter_le (fun u => !(ys.any fun y => e y u)) (xs.take i)
        rw [List.length_take] at h1
        exact Nat.lt_of_le_of_lt (Nat.le_trans h1 (Nat.min_le_right _ _)) hz
      · have hp := hW''.put (a := D) (o := .list ((xs.take (k + 1)).filter fun u => !(ys.any fun y => e y u)))
        rw [put_cons, put_cons, put_cons, put_cons, put_cons, if_neg (Ne.symm d1), if_neg (Ne.symm d2), if_neg (Ne.symm d3), if_pos rfl, if_neg (Ne.symm d4), put_none d5] at hp
        rw [← take_step k i v hik hk (by simp [hkeep]) fun j u a b c => by simp [hsk j u a b c]]
        exact hp
    · intro ev H'' R' hsk hT hW''
      refine ⟨ev, R', _, rfl, hT, _, hW''.trans (Wk.cons (Wk.cons (Wk.keep (Wk.cons Wk.refl)))), ?_⟩
      rw [← take_end i fun j u a c => by simp [hsk j u a c]]
      exact h D hD.2.2.2.2
end
section
variable {C : Cfg} {A : Around} {fx : Fx} {m : Lo} {H R : AH} {X : Value → Lo → AH → Prop} {Q : Value → Lo → AH → Prop} {n : Nat}
theorem filter_intsT {l sk : Addr} {xs ys : List Int} (T : Top C (K02 C.w.params)) (hR : Room A (n + 3)) (hl : (l, AO.tup (iv xs)) ∈ H) (hs : (sk, AO.list (iv ys)) ∈ H) (hz : xs.length < 1000000)
    (h : ∀ D, D ∉ H.keys → Q (.ref D) m ((D, .list (iv (xs.filter fun x => decide (x ∉ ys)))) :: H)) : CALLC C A fx (.ref 178) [.ref l, .ref sk] m H Q X := by
  refine filter_okT eqI T hR hl hs (by rw [List.length_map]; exact hz) (fun y hy u hu => ?_) fun D hD => ?_
  · refine hide fun z603 => ?_
    obtain ⟨i, _, rfl⟩ := List.mem_map.mp hy
    obtain ⟨j, _, rfl⟩ := List.mem_map.mp hu
    refine z603 ?_
    exact EQV.int i j
  · rw [filter_iv]; exact h D hD
end

section
variable {C : Cfg} {A : Around} {fx : Fx} {m : Lo} {H R : AH} {X : Value → Lo → AH → Prop} {Q : Value → Lo → AH → Prop} {n : Nat} {σ : SS} {G : G}
theorem given_ok {hl : Addr} {held : List Int} {sz : Nat} (T : Top C (K02 C.w.params)) (hR : Room A (n + 12)) (ok : σ.Ok) (hrdy : σ.rdy = none) (hpo : σ.po = σ.nf) (hg : σ.g = G) (W : WG G) (hb : Bd G 100) (hsz : sz ≤ 5) (hh : (hl, AO.list (iv held)) ∈ R)
    (h : ∀ t gv, Q (.ref t) m ((t, .tup [.ref gv, .bool (decide ((rndH G held sz).1.1.length < (rndH G held sz).1.2.length) || !(rndH G held sz).2.1.isEmpty)]) :: (gv, .list (iv (rndH G held sz).1.2)) :: R)) :
    CALLC C A fx (.ref 214) [.ref σ.sa, .ref hl, vI sz] m (SCX σ ++ R) Q X := by
  have hnl : (nodes G).length ≤ 100 := by unfold nodes; rw [List.length_map]; exact hb.len
  refine callc_wkp ?_
  refine' call3x hR (fnAt (T := T) ?ho ?hcode ?hco ?hgen ?hk) "sorter" "held" "size" ?b1 ?b2 ?body
  walk_at "fn"
  intro A' fx' hR' hh' Z
  repeat walk_at "ex"
  refine ⟨by decide, fun gv hgv => ?_⟩
  repeat walk_at "ex"
  refine ex_post (fun m' H' => ∃ σ' ra, SS.Ok σ' ∧ σ'.sa = σ.sa ∧ σ'.rdy = some (ra, gFree G) ∧ σ'.po = σ'.nf ∧ σ'.g = G ∧ WkL m' [("sorter", .ref σ.sa), ("held", .ref hl), ("size", vI sz), ("given", .ref gv)] ∧ Wk H' (SCX σ' ++ (gv, .list []) :: R)) ?_ ?_
  · refine ex_try hh' ?_
    repeat walk_at "ex"
    refine gm_wk (H' := SCX σ ++ (gv, .list []) :: R) wk_mid ?_
    refine gm_own (T := T) (f := 85) (by kernel_rfl) sc_sa sc_sd (ok.none (by rintro (e | e | e | e) <;> exact absurd e (by decide))) ?_
    repeat walk_at "ex"
    walk_at "kpf"
    refine (prepare_ok (n := n + 5) T hR' ok hrdy (by rw [hg]; exact le_N hb.len rfl) (by rw [hg]; exact clo_of W rfl fun _ => rfl) (fun σ' F ra ok' q1 q2 q3 q4 q5 hF => ?_) fun σ' v ra e H' ok' q1 q2 q3 q4 q5 hv hT => ?_).call
    · repeat walk_at "ex"
      rw [hg] at q2 q5
      exact ⟨rfl, σ', ra, ok', q1, q2, by rw [q3, q4, hpo], q5, by walk_at "wkl", Wk.refl⟩
    · rw [hg] at q2 q5
      refine ⟨e, .ref 48, _, rfl, .inr (.inl hT), fun H'' hT' => ?_⟩
      refine' hb_own (excC (T := T) (c := 48) (x := "CycleError") ?hce ?hcq PySem.F.excBase_ValueError) hT' (fun Q' hQ' => ?hev) (fun H₂ hT₂ => ?hsuite)
      case hce => k_is
      case hcq => kernel_rfl
      case hev =>
        repeat walk_at "ex"
        exact hQ'
      case hsuite =>
        obtain ⟨T', rfl⟩ := hT₂
        repeat walk_at "ex"
        exact ⟨rfl, σ', ra, ok', q1, q2, by rw [q3, q4, hpo], q5, by walk_at "wkl", Wk.cons (Wk.cons Wk.refl)⟩
  · intro m' H' hY2
    refine hide fun z604 => ?_
    obtain ⟨σ₀, ra, ok₀, hs₀, hr₀, hpo₀, hg₀, hm₀, hW₀⟩ := hY2
    refine z604 ?_
    refine seq_next (exs_wk hm₀ hW₀ ?_)
    clear hm₀ hW₀
    repeat walk_at "ex"
    walk_at "for"
    repeat walk_at "ex"
    refine call_range fun r hr => ?_
    refine ⟨_, _, itr_upto hR'.hand (by omega) List.mem_cons_self, fun i m' H' => ∃ σ', SS.Ok σ' ∧ σ'.sa = σ.sa ∧ σ'.rdy = some (ra, (rndH G held i).2.1) ∧ σ'.po = σ₀.nf + (rndH G held i).1.2.length ∧ σ'.nf = σ₀.nf + (rndH G held i).1.1.length ∧ σ'.g = (rndH G held i).2.2 ∧
      WkL m' [("sorter", .ref σ.sa), ("held", .ref hl), ("size", vI sz), ("given", .ref gv)] ∧ Wk H' (SCX σ' ++ (gv, .list (iv (rndH G held i).1.2)) :: R),
      ⟨σ₀, ok₀, hs₀, hr₀, hpo₀.trans (Int.add_zero _).symm, (Int.add_zero _).symm, hg₀, by walk_at "wkl", Wk.cons Wk.refl⟩, fun _ _ _ _ => trivial, ?_, ?_⟩
    · intro i v m'' H'' hv hY5
      refine hide fun z605 => ?_
      obtain ⟨σ', ok', hs', hr', hpo', hnf', hg', hm', hW'⟩ := hY5
      refine z605 ?_
      have hrnd := rndH_rnd (held := held) W i
      obtain ⟨hxn, hxm⟩ := rndH_xs (held := held) hrnd
      have hOl : (rndH G held i).1.2.length ≤ 100 := Nat.le_trans (nd_len (rndH_ond W i) hrnd.inG) hnl
      generalize hst : rndH G held i = st at hOl hr' hpo' hnf' hg' hW' hrnd hxn hxm
      have hLl : st.2.1.length ≤ 100 := Nat.le_trans (nd_len hrnd.nd fun x hx => ((hrnd.rd x).mp hx).1) hnl
      refine asg_wk hm' hW' ?_
      rw [← hs']
      repeat walk_at "ex"
      refine gm_own (T := T) (f := 92) (by kernel_rfl) sc_sa sc_sd (ok'.none (by rintro (e | e | e | e) <;> exact absurd e (by decide))) ?_
      repeat walk_at "ex"
      walk_at "kpf"
      refine (ready_ok (n := n + 7) (b := 0) T hR' ok' hr' (le_N hLl rfl) (fun x hx => by have := ((hrnd.rd x).mp hx).1; rw [hg', hrnd.eq]; show x ∈ nodes (gWith G _); rw [with_nodes]; exact this) fun σ₃ t1 ok₃ hs₃ hr₃ hpo₃ hnf₃ hg₃ => ?_).call
      repeat walk_at "ex"
      refine gm_list (List.mem_append_right _ (up1 List.mem_cons_self)) PySem.F.slot_list_extend PySem.F.type_list_extend ?_
      repeat walk_at "ex"
      refine call_isinstance_tup (List.mem_append_right _ List.mem_cons_self) ?_
      repeat walk_at "ex"
      refine call_ext (by simp only [List.length_map]; omega) ?_
      rw [← iv_append, ← hs₃]
      repeat walk_at "ex"
      refine ga_method (T := T) (f := 113) (by kernel_rfl) (by kernel_rfl) sc_sa sc_sd (ok₃.none (by rintro (e | e | e | e) <;> exact absurd e (by decide))) fun a ha => ?_
      repeat walk_at "ex"
      walk_at "kpf"
      refine (filter_intsT (n := n + 8) T hR' (up1 (List.mem_append_right _ (up1 List.mem_cons_self))) (up1 (List.mem_append_right _ (up2 hh))) (Nat.lt_of_le_of_lt hLl (by decide)) fun D hD => ?_).call
      have hxl : (st.2.1.filter fun x => decide (x ∉ held)).length ≤ 100 := Nat.le_trans (List.length_filter_le _ _) hLl
      have hout := fun i x hi => Rnd.out W (hrnd.get W) hxn hxm i x hi
      have hw2 : σ₃.g = gWith G (stF G st.1.1 (st.1.2 ++ st.2.1)) := by rw [hg₃, hg']; exact (hrnd.get W).eq
      have e1 : rndH G held (i + 1) = ((st.1.1 ++ st.2.1.filter fun x => decide (x ∉ held), st.1.2 ++ st.2.1), ((gDone (st.2.1.foldl (gSet (-1)) st.2.2, []) (st.2.1.filter fun x => decide (x ∉ held))).2, (gDone (st.2.1.foldl (gSet (-1)) st.2.2, []) (st.2.1.filter fun x => decide (x ∉ held))).1)) := by rw [← hst]; rfl
      rw [← hg', ← hg₃] at hout e1
      refine coll_list List.mem_cons_self (by rw [List.length_map]; exact le_N hxl rfl) ?_
      refine' ⟨kp_methK T (up1 List.mem_cons_self) ?ho2 ?hd2, (call_method (up1 List.mem_cons_self) (callc_wk (H' := SCX σ₃ ++ ((D, .list (iv (st.2.1.filter fun x => decide (x ∉ held)))) :: (a, .flds (.type "method") [.ref 113, .ref σ₃.sa]) :: (gv, .list (iv (st.1.2 ++ st.2.1))) :: (t1, .tup (iv st.2.1)) :: R)) wk_back2
        (done_ok (n := n + 7) (b := 100) T hR' ok₃ hr₃ ?hb3 ?hz3 ?hz4 hout ?hcl3 fun σ₅ ok₅ hs₅ hr₅ hpo₅ hnf₅ hg₅ => ?_))).call⟩
      case ho2 => k_is
      case hd2 => rfl
      case hb3 => rw [hw2]; exact bd_with hb
      case hz3 => exact Nat.le_trans (Nat.add_le_add_left (Nat.mul_le_mul_right 100 hxl) 0) (Nat.le_of_ble_eq_true rfl)
      case hz4 => exact le_N hxl rfl
      case hcl3 => exact clo_of W (by rw [hw2]; exact with_nodes) (fun k => by rw [hw2]; exact with_suc)
      repeat walk_at "ex"
      dsimp only
      rw [e1]
      refine ⟨σ₅, ok₅, hs₅, hr₅, ?_, ?_, hg₅, by walk_at "wkl", ?_⟩
      · rw [hpo₅, hpo₃, hpo']
        show _ = σ₀.nf + ((st.1.2 ++ st.2.1).length : Nat)
        rw [List.length_append]; push_cast; omega
      · rw [hnf₅, hnf₃, hnf']
        show _ = σ₀.nf + ((st.1.1 ++ st.2.1.filter fun x => decide (x ∉ held)).length : Nat)
        rw [List.length_append]; push_cast; omega
      · exact Wk.sub (List.Sublist.append_left (((List.sublist_cons_self _ _).cons_cons _).trans ((List.sublist_cons_self _ _).trans (List.sublist_cons_self _ _))) _)
    · intro m'' H'' hY2
      refine hide fun z606 => ?_
      obtain ⟨σ', ok', hs', hr', hpo', hnf', hg', hm', hW'⟩ := hY2
      refine z606 ?_
      rw [List.length_map, upto_len] at hr' hpo' hnf' hg' hW'
      refine exs_wk hm' hW' ?_
      rw [← hs']
      repeat walk_at "ex"
      have hrnd := rndH_rnd (held := held) W sz
      have hLl : (rndH G held sz).2.1.length ≤ 100 := Nat.le_trans (nd_len hrnd.nd fun x hx => ((hrnd.rd x).mp hx).1) hnl
      refine gm_own (T := T) (f := 99) (by kernel_rfl) sc_sa sc_sd (ok'.none (by rintro (e | e | e | e) <;> exact absurd e (by decide))) ?_
      repeat walk_at "ex"
      walk_at "kpf"
      refine (active_ok (n := n + 7) T hR' ok' hr' (le_N hLl rfl) ?_).call
      have ed : decide (σ'.nf < σ'.po) = decide ((rndH G held sz).1.1.length < (rndH G held sz).1.2.length) := by rw [hpo', hnf', decide_eq_decide]; omega
      rw [ed]
      repeat walk_at "ex"
      refine ⟨Nat.le_of_ble_eq_true rfl, fun t ht => ?_⟩
      repeat walk_at "ex"
      exact ⟨_, Wk.keep (Wk.sub (List.sublist_append_right _ _)), h t gv⟩
end

noncomputable def stmtsF : FuncBody → List Stmt
  | .stmts b => b
  | _ => []
theorem ndBase_in {told y x : Int} (h : x ∈ ndBase told y) : 0 ≤ x ∧ x < y := by
  unfold ndBase at h
  have := upto_mem.mp (List.mem_filter.mp h).1
  omega
theorem ndRow_in {told y x : Int} (h : x ∈ ndRow told y) : 0 ≤ x ∧ x < y := by
  unfold ndRow at h
  rcases List.mem_append.mp h with h | h
  · exact ndBase_in h
  · exact ndBase_in (List.mem_of_mem_take h)
theorem ndAll_in {told : Int} {sz : Nat} {y x : Int} (h0 : 0 < sz) (hy : y ∈ upto sz) (h : x ∈ ndAll told sz y) : x ∈ upto sz := by
  have hy0 := upto_mem.mp hy
  have hr : ∀ x ∈ ndRow told y, x ∈ upto sz := fun x hx => by
    have := ndRow_in hx
    exact upto_mem.mpr (by omega)
  unfold ndAll at h
  split at h
  · rcases List.mem_append.mp h with h | h
    · exact hr x h
    · rw [List.mem_singleton.mp h]
      have hsz : (0 : Int) < sz := by omega
      exact upto_mem.mpr ⟨Int.fmod_nonneg_of_pos _ hsz, Int.fmod_lt_of_pos _ hsz⟩
  · exact hr x h
theorem ndAll_len {told : Int} {sz : Nat} {y : Int} (hz : sz ≤ 5) (hy : y ∈ upto sz) : (ndAll told sz y).length ≤ 6 := by
  have hy0 := upto_mem.mp hy
  have h1 := nbase_len (told := told) (y := y)
  have h2 : (y.fmod 2).toNat ≤ 1 := by
    have := Int.fmod_lt_of_pos y (b := 2) (by decide)
    omega
  have h3 : (ndRow told y).length ≤ 5 := by
    unfold ndRow
    rw [List.length_append, List.length_take]
    omega
  unfold ndAll
  split
  · rw [List.length_append, List.length_singleton]; omega
  · omega
noncomputable def trnF (sz : Nat) (dr : Int) : List Int := (upto sz).map fun y => (y + dr).fmod sz
section
variable {sz : Nat} {dr y : Int}
theorem trnF_len : (trnF sz dr).length = sz := by unfold trnF; rw [List.length_map, upto_len]
theorem trnF_in (h0 : 0 < sz) (h : y ∈ trnF sz dr) : y ∈ upto sz := by
  refine hide fun z607 => ?_
  obtain ⟨z, _, rfl⟩ := List.mem_map.mp h
  refine z607 ?_
  have hsz : (0 : Int) < sz := by omega
  exact upto_mem.mpr ⟨Int.fmod_nonneg_of_pos _ hsz, Int.fmod_lt_of_pos _ hsz⟩
theorem trnF_nd : (trnF sz dr).Nodup := by
  unfold trnF
  rw [List.nodup_iff_pairwise_ne, List.pairwise_map]
  refine (List.nodup_iff_pairwise_ne.mp (upto_nd (n := sz))).imp_of_mem fun {a b} ha hb hne e => hne ?_
  have ha := upto_mem.mp ha
  have hb := upto_mem.mp hb
  have hsz : (0 : Int) ≤ sz := by omega
  rw [Int.fmod_eq_emod_of_nonneg _ hsz, Int.fmod_eq_emod_of_nonneg _ hsz] at e
  have h1 := Int.emod_eq_emod_iff_emod_sub_eq_zero.mp e
  have h2 : a + dr - (b + dr) = a - b := by omega
  rw [h2] at h1
  have h3 := Int.dvd_of_emod_eq_zero h1
  obtain ⟨c, hc⟩ := h3
  obtain h | h | h : c ≤ -1 ∨ c = 0 ∨ 1 ≤ c := by omega
  · have := Int.mul_le_mul_of_nonneg_left h hsz
    omega
  · subst h; omega
  · have := Int.mul_le_mul_of_nonneg_left h hsz
    omega
theorem trnF_all (h0 : 0 < sz) (h : y ∈ upto sz) : y ∈ trnF sz dr := nodup_all trnF_nd (fun x hx => trnF_in h0 hx) (by rw [upto_len, trnF_len]; exact Nat.le_refl _) y h
end
theorem DAT.none {C : Cfg} {H : AH} : DAT C H .none .none := fun A fx m s S a ha => by
  obtain rfl := er_eq_none ha; exact ⟨_, .none⟩
theorem co_ne_none {C : Cfg} {A : Around} {fx : Fx} {m : Lo} {H : AH} {X Q : Value → Lo → AH → Prop} (hu : A.units + 64 < cLine) (h : Q (.bool false) m H) : CO C A fx .NotEq .none .none m H Q X :=
  co_ne_dat hu DAT.none DAT.none (by rfl) (by rfl) h
set_option maxHeartbeats 16000000 in
theorem law_body {C : Cfg} {A' : Around} {fx' : Fx} {l : Addr} {ns : List Int} (T' : Top C (K02 C.w.params)) (hR : Room A' 100) (hb : BL C l (iv ns)) (hlen : ns.length ≤ 63) (Z : Sc fx' k02s21 (k02s21).names) :
    EXS C A' fx' (stmtsF k02b21) [("script", .ref l)] [] (fun fl _ _ => retV fl = .bool true) noX := by
  conv => arg 4; whnf
  repeat walk_at "ex"
  refine' ex_assign ?h ?hs ?hw
  case hs => rfl
  case hw => rw [sw_eq Z.scope]; rfl
  repeat walk_at "ex"
  refine ⟨some 1, some 2, none, rfl, rfl, rfl, rfl, by decide, by rw [List.length_map]; omega, fun a₁ ha₁ => ?_⟩
  have hpk : (pickL (iv ns) (some 1) (some 2) none).length ≤ 1 := pick_len (by decide) (by decide)
  repeat walk_at "ex"
  refine call_len_l List.mem_cons_self (by walk_at "le") ?_
  repeat walk_at "ex"
  refine' turns_lc (us := ns) (tv := vI) ?hb0 (itr_base hR.hand hb) (fun _ _ => trivial) (by walk_at "le") (fun _ => true) (fun x => vI (x.fmod (10 ^ (10 : Int).toNat))) ?turn0 ?fin0 Z.scope
  case hb0 => rfl
  case turn0 =>
    intro fx2 Z2 x hx
    repeat walk_at "ex"
    refine ⟨rfl, if_yes ?_⟩
    repeat walk_at "ex"
    refine bo_pow (by decide) (by decide +kernel) ?_
    repeat walk_at "ex"
    refine bo_mod (by decide) ?_
    exact ⟨rfl, by walk_at "wkl", Wk.refl⟩
  case fin0 =>
    intro a₂ ha₂
    rw [List.filter_eq_self.mpr fun _ _ => rfl, show ns.map (fun x => vI (x.fmod (10 ^ (10 : Int).toNat))) = iv (ns.map fun x => x.fmod (10 ^ (10 : Int).toNat)) from by unfold iv; rw [List.map_map]; rfl]
    repeat walk_at "ex"
    refine call_sum hR.hand List.mem_cons_self ?_
    repeat walk_at "ex"
    refine ⟨Nat.le_of_ble_eq_true rfl, fun a₃ ha₃ => ?_⟩
    obtain ⟨sz, hsz, hsz5, hsz0⟩ : ∃ sz : Nat, (4 : Int) + ((pickL (iv ns) (some 1) (some 2) none).length : Int) = (sz : Int) ∧ sz ≤ 5 ∧ 0 < sz := ⟨4 + (pickL (iv ns) (some 1) (some 2) none).length, by push_cast; rfl, by omega, by omega⟩
    rw [hsz]
    generalize (ns.map fun x => x.fmod (10 ^ (10 : Int).toNat)).sum = dr
    refine asgs_wk (m' := []) (H' := [(a₃, .tup [vI sz, vI dr])]) (by walk_at "wkl") (Wk.keep (Wk.cons (Wk.cons Wk.refl))) ?_
    refine' asgs_one ?ha ?he
    case he => rfl
    refine' asg_tup2 hR.hand List.mem_cons_self ?ha2 ?he2
    case he2 => rfl
    clear hb hpk hsz ha₁ ha₂ ha₃ hlen
    repeat walk_at "ex"
    refine bo_mul (IntMulOk.of_left (by decide +kernel)) ?_
    repeat walk_at "ex"
    generalize (16410 : Int) + 24683 * dr = told
    refine' ex_assign ?h1 ?hs1 ?hw1
    case hs1 => rfl
    case hw1 => rw [sw_eq Z.scope]; rfl
    repeat walk_at "ex"
    walk_at "kpf"
    have hcl : ∀ y ∈ upto sz, ∀ x ∈ ndAll told sz y, x ∈ upto sz := fun y hy x hx => ndAll_in hsz0 hy hx
    have hz6 : ∀ y ∈ upto sz, (ndAll told sz y).length ≤ 6 := fun y hy => ndAll_len hsz5 hy
    refine (needs_ok (told := told) (sz := sz) T' (n := 50) (hR.less (Nat.le_of_ble_eq_true rfl)) hsz0 hsz5 fun d ep kl hdn ht => ?_).call
    generalize ndAll told sz = f at *
    refine hide fun z608 => ?_
    obtain ⟨H1, hH1, hd1⟩ : ∃ H1 : AH, H1 = (d, .dict (kvL kl) ep) :: (LC (kl.map (·.2)) ++ [(a₃, .tup [vI sz, vI dr])]) ∧ DL H1 d kl := ⟨_, rfl, DL.here⟩
    refine z608 ?_
    rw [← hH1]
    clear hH1 hdn
    repeat walk_at "ex"
    refine call_range fun r hr => ?_
    refine' turns_lc (us := upto sz) (tv := vI) ?hb1 (itr_upto hR.hand (by walk_at "le") List.mem_cons_self) (fun _ _ => trivial) (by rw [upto_len]; walk_at "le") (fun _ => true) (fun y => vI ((y + dr).fmod sz)) ?turn1 ?fin1 Z.scope
    case hb1 => rfl
    case turn1 =>
      intro fx2 Z2 y hy
      repeat walk_at "ex"
      refine ⟨rfl, if_yes ?_⟩
      repeat walk_at "ex"
      refine bo_mod (by omega) ?_
      exact ⟨rfl, by walk_at "wkl", Wk.refl⟩
    case fin1 =>
      intro rw_ hrw
      rw [List.filter_eq_self.mpr fun _ _ => rfl, show (upto sz).map (fun y => vI ((y + dr).fmod sz)) = iv (trnF sz dr) from by unfold iv trnF; rw [List.map_map]; rfl]
      have hrn : (trnF sz dr).Nodup := trnF_nd
      have hrk : ∀ y ∈ trnF sz dr, y ∈ upto sz := fun y hy => trnF_in hsz0 hy
      have hkr : ∀ y ∈ upto sz, y ∈ trnF sz dr := fun y hy => trnF_all hsz0 hy
      have hrl : (trnF sz dr).length = sz := trnF_len
      generalize trnF sz dr = row at *
      have hkz : (upto sz).length ≤ 5 := by rw [upto_len]; exact hsz5
      have hr5 : row.length ≤ 5 := by rw [hrl]; exact hsz5
      have hz2 : ∀ y ∈ upto sz, (f y).length ≤ 1000 := fun y hy => Nat.le_trans (hz6 y hy) (Nat.le_of_ble_eq_true rfl)
      have hcr : ∀ y ∈ row, ∀ x ∈ f y, x ∈ row := fun y hy x hx => hkr x (hcl y (hrk y hy) x hx)
      repeat walk_at "ex"
      refine ⟨Nat.le_of_ble_eq_true rfl, fun t1 ht1 => ?_⟩
      refine hide fun z609 => ?_
      obtain ⟨H2, hH2, hd2, hrow2⟩ : ∃ H2 : AH, H2 = (rw_, AO.list (iv row)) :: H1 ∧ DL H2 d kl ∧ (rw_, AO.list (iv row)) ∈ H2 := ⟨_, rfl, hd1.wk (Wk.cons Wk.refl), List.mem_cons_self⟩
      refine z609 ?_
      refine asgs_wk (m' := [("told", vI told), ("size", vI sz)]) (H' := (t1, .tup [.ref d, .ref rw_]) :: H2) (by walk_at "wkl") (by rw [hH2]; exact Wk.keep (Wk.keep (Wk.cons Wk.refl))) ?_
      clear hH2 ht1 hr hrw hd1
      refine' asgs_one ?ha3 ?he3
      case he3 => rfl
      refine' asg_tup2 hR.hand List.mem_cons_self ?ha4 ?he4
      case he4 => rfl
      repeat walk_at "ex"
      refine' turns_lc (us := row) (tv := vI) ?hb2 (itr_list hR.hand (up1 hrow2)) (fun H hW => hW.1 _ (up1 hrow2)) (by walk_at "le") (fun y => (((told.fdiv 1024).fdiv (4 ^ y.toNat)).fmod 4 == 1)) vI ?turn2 ?fin2 Z.scope
      case hb2 => rfl
      case turn2 =>
        intro fx2 Z2 y hy
        have hy0 := upto_mem.mp (hrk y hy)
        repeat walk_at "ex"
        refine bo_fdiv (by decide) (pylong2 _ 10 (by decide)) ?_
        repeat walk_at "ex"
        refine bo_pow4 hy0.1 (by walk_at "le") ?_
        repeat walk_at "ex"
        refine bo_fdiv (int_pow4_ne _) (pylong4 _ (by walk_at "le")) ?_
        repeat walk_at "ex"
        refine bo_mod (by decide) ?_
        repeat walk_at "ex"
        walk_at "pick"
      case fin2 =>
        intro hl hhl
        rw [show (row.filter fun y => (((told.fdiv 1024).fdiv (4 ^ y.toNat)).fmod 4 == 1)).map vI = iv (row.filter fun y => (((told.fdiv 1024).fdiv (4 ^ y.toNat)).fmod 4 == 1)) from rfl]
        have hhz : (row.filter fun y => (((told.fdiv 1024).fdiv (4 ^ y.toNat)).fmod 4 == 1)).length ≤ 5 := Nat.le_trans (List.length_filter_le _ _) hr5
        generalize (row.filter fun y => (((told.fdiv 1024).fdiv (4 ^ y.toNat)).fmod 4 == 1)) = held at hhz ⊢
        repeat walk_at "ex"
        walk_at "kpf"
        refine (tail_ok T' (n := 50) (hR.less (Nat.le_of_ble_eq_true rfl)) (hd2.wk (Wk.cons (Wk.cons Wk.refl))) ht upto_nd hkz hz2 List.mem_cons_self hhz fun tl htl => ?_).call
        obtain ⟨tail, htail⟩ : ∃ tail, tail = tlN (upto sz) f held (upto sz).length := ⟨_, rfl⟩
        rw [← htail]
        repeat walk_at "ex"
        refine' turns_lc (us := row) (tv := vI) ?hb3 (itr_list hR.hand (up3 hrow2)) (fun H hW => hW.1 _ (up3 hrow2)) (by walk_at "le") (fun y => !decide (y ∈ tail)) vI ?turn3 ?fin3 Z.scope
        case hb3 => rfl
        case turn3 =>
          intro fx2 Z2 y hy
          repeat walk_at "ex"
          refine co_notin_list List.mem_cons_self ?_
          repeat walk_at "ex"
          walk_at "pick"
        case fin3 =>
          intro ha hha
          have ehead : (row.filter fun y => !decide (y ∈ tail)) = row.filter (hdP (upto sz) f held) := List.filter_congr fun y _ => by unfold hdP; rw [← htail, decide_not]
          have etail : (fun x => decide (x ∉ tail)) = hdP (upto sz) f held := by funext x; unfold hdP; rw [htail]
          rw [show (row.filter fun y => !decide (y ∈ tail)).map vI = iv (row.filter fun y => !decide (y ∈ tail)) from rfl, ehead]
          obtain ⟨head, hhead⟩ : ∃ head, head = row.filter (hdP (upto sz) f held) := ⟨_, rfl⟩
          rw [← hhead]
          have hhn : head.Nodup := by rw [hhead]; exact hrn.sublist List.filter_sublist
          have hhr : ∀ y ∈ head, y ∈ row := fun y hy => by rw [hhead] at hy; exact (List.mem_filter.mp hy).1
          have hh5 : head.length ≤ 5 := by rw [hhead]; exact Nat.le_trans (List.length_filter_le _ _) hr5
          have hch : ∀ y ∈ head, ∀ x ∈ f y, x ∈ head := fun y hy x hx => by
            rw [hhead] at hy ⊢
            obtain ⟨h1, h2⟩ := List.mem_filter.mp hy
            exact List.mem_filter.mpr ⟨hcr y h1 x hx, hd_needs upto_nd (hrk y h1) h2 x hx⟩
          repeat walk_at "ex"
          refine' ex_assign ?h5 ?hs5 ?hw5
          case hs5 => rfl
          case hw5 => rw [sw_eq Z.scope]; rfl
          repeat walk_at "ex"
          walk_at "kpf"
          refine (order_ok T' (n := 50) (hR.less (Nat.le_of_ble_eq_true rfl)) (hd2.wk (Wk.cons (Wk.cons (Wk.cons (Wk.cons Wk.refl))))) ht upto_nd hz2 (up1 (up3 hrow2)) hr5 hrn hrk fun wa W hwa hW => ?_).call
          repeat walk_at "ex"
          walk_at "kpf"
          refine (order_ok T' (n := 50) (hR.less (Nat.le_of_ble_eq_true rfl)) (hd2.wk (Wk.cons (Wk.cons (Wk.cons (Wk.cons (Wk.cons Wk.refl)))))) ht upto_nd hz2 (up1 List.mem_cons_self) hh5 hhn (fun y hy => hrk y (hhr y hy)) fun pa P hpa hP => ?_).call
          repeat walk_at "ex"
          refine ⟨Nat.le_of_ble_eq_true rfl, fun t2 ht2 => ?_⟩
          refine hide fun z610 => ?_
          obtain ⟨H3, hH3, hd3, hrow3, hhl3, htl3, hha3, hwa3, hpa3⟩ : ∃ H3 : AH, H3 = (pa, AO.list (iv P)) :: (wa, AO.list (iv W)) :: (ha, AO.list (iv head)) :: (tl, AO.list (iv tail)) :: (hl, AO.list (iv held)) :: H2 ∧ DL H3 d kl ∧ (rw_, AO.list (iv row)) ∈ H3 ∧
              (hl, AO.list (iv held)) ∈ H3 ∧ (tl, AO.list (iv tail)) ∈ H3 ∧ (ha, AO.list (iv head)) ∈ H3 ∧ (wa, AO.list (iv W)) ∈ H3 ∧ (pa, AO.list (iv P)) ∈ H3 :=
            ⟨_, rfl, hd2.wk (Wk.cons (Wk.cons (Wk.cons (Wk.cons (Wk.cons Wk.refl))))), up2 (up3 hrow2), up1 (up3 List.mem_cons_self), up3 List.mem_cons_self, up2 List.mem_cons_self, up1 List.mem_cons_self, List.mem_cons_self⟩
          refine z610 ?_
          refine asgs_wk (m' := [("head", .ref ha), ("tail", .ref tl), ("held", .ref hl), ("row", .ref rw_), ("needs", .ref d), ("size", vI sz)]) (H' := (t2, .tup [.ref wa, .ref pa]) :: H3) (by walk_at "wkl") (by rw [hH3]; exact Wk.keep (Wk.keep (Wk.keep (Wk.keep (Wk.keep (Wk.keep (Wk.cons Wk.refl))))))) ?_
          clear hH3 ht2 hpa hwa hha htl hhl hd2 hrow2
          refine' asgs_one ?ha6 ?he6
          case he6 => rfl
          refine' asg_tup2 hR.hand List.mem_cons_self ?ha7 ?he7
          case he7 => rfl
          have hPl : P.length ≤ 5 := Nat.le_trans (nd_len (ord_nd hhn hP).1 (ord_nd hhn hP).2) hh5
          have hWl : W.length ≤ 5 := Nat.le_trans (nd_len (ord_nd hrn hW).1 (ord_nd hrn hW).2) hr5
          have hbd := bld_bdG hr5 (fun y hy => hz6 y (hrk y hy))
          have hWH : W.filter (hdP (upto sz) f held) = P := head_same upto_nd hrn hrk hW (by rw [← hhead]; exact hP)
          iterate 4 walk_at "ex"
          refine ex_post (fun m' H' => WkL m' [("part", .ref pa), ("head", .ref ha), ("tail", .ref tl), ("held", .ref hl), ("row", .ref rw_), ("needs", .ref d), ("size", vI sz)] ∧ Wk H' H3) ?_ ?_
          · repeat walk_at "ex"
            walk_at "kpf"
            refine (sorter_ok T' (n := 50) (hR.less (Nat.le_of_ble_eq_true rfl)) (hd3.wk (Wk.cons Wk.refl)) ht upto_nd (up1 hrow3) hr5 hrk (fun y hy => hz6 y (hrk y hy)) fun σ ok hre hpo hg => ?_).call
            repeat walk_at "ex"
            walk_at "kpf"
            refine (static_ok T' (n := 50) (hR.less (Nat.le_of_ble_eq_true rfl)) ok hre hpo (by rw [hg]; exact bld_W) (by rw [hg]; exact hbd) (up1 htl3) (fun hF D hD => ?_) (fun hF => ?_)).call
            · rw [hg] at hF ⊢
              obtain ⟨F, hF⟩ := hF
              rw [order_eq hrn hcr hW, etail, hWH]
              have hlen := order_fin hrn hcr hW hF
              repeat walk_at "ex"
              refine call_len_l (up2 hwa3) (by rw [List.length_map]; walk_at "le") ?_
              rw [List.length_map, hlen, hrl]
              repeat walk_at "ex"
              rw [beq_self_eq_true]
              repeat walk_at "ex"
              refine co_ne_ints hR.eqs List.mem_cons_self (up2 hpa3) ?_
              rw [decide_eq_true rfl]
              repeat walk_at "ex"
              exact ⟨rfl, by walk_at "wkl", by walk_at "wk"⟩
            · rw [hg] at hF
              obtain ⟨v, hF⟩ := hF
              have hlen := order_ring hrn hcr hW hF
              rw [hrl] at hlen
              repeat walk_at "ex"
              refine call_len_l (up1 hwa3) (by rw [List.length_map]; walk_at "le") ?_
              rw [List.length_map]
              repeat walk_at "ex"
              rw [cast_beq, decide_eq_false hlen]
              repeat walk_at "ex"
              refine co_ne_none hR.eqs ?_
              repeat walk_at "ex"
              exact ⟨rfl, by walk_at "wkl", by walk_at "wk"⟩
          rintro m' H' ⟨hm', hW'⟩
          refine seq_next (exs_wk hm' hW' ?_)
          clear hm' hW' hWH hWl hW hwa3
          walk_at "ex"
          refine ex_post (fun m' H' => WkL m' [("part", .ref pa), ("held", .ref hl), ("row", .ref rw_), ("needs", .ref d), ("size", vI sz)] ∧ Wk H' H3) ?_ ?_
          · repeat walk_at "ex"
            walk_at "kpf"
            refine (filter_ints (n := 50) T' (hR.less (Nat.le_of_ble_eq_true rfl)) hrow3 htl3 (by walk_at "le") fun D hD => ?_).call
            rw [etail, ← hhead]
            have hbh := bld_bdG (f := f) hh5 (fun y hy => hz6 y (hrk y (hhr y hy)))
            repeat walk_at "ex"
            walk_at "kpf"
            refine (sorter_ok T' (n := 50) (hR.less (Nat.le_of_ble_eq_true rfl)) (hd3.wk (Wk.cons Wk.refl)) ht upto_nd List.mem_cons_self hh5 (fun y hy => hrk y (hhr y hy)) (fun y hy => hz6 y (hrk y (hhr y hy))) fun σ ok hre hpo hg => ?_).call
            repeat walk_at "ex"
            refine ⟨by decide, fun e he => ?_⟩
            repeat walk_at "ex"
            walk_at "kpf"
            refine (callc_wk (H' := SCX σ ++ (e, .list (iv [])) :: (D, .list (iv head)) :: H3) wk_mid (static_ok T' (n := 50) (hR.less (Nat.le_of_ble_eq_true rfl)) ok hre hpo (by rw [hg]; exact bld_W) (by rw [hg]; exact hbh) List.mem_cons_self (fun hF D2 hD2 => ?_) (fun hF => ?_))).call
            · rw [hg] at hF ⊢
              obtain ⟨F, hF⟩ := hF
              rw [order_eq hhn hch hP, List.filter_eq_self.mpr fun x _ => decide_eq_true (List.not_mem_nil)]
              have hlen := order_fin hhn hch hP hF
              repeat walk_at "ex"
              refine call_len_l (up3 hpa3) (by rw [List.length_map]; walk_at "le") ?_
              repeat walk_at "ex"
              refine call_len_l (up3 hha3) (by rw [List.length_map]; walk_at "le") ?_
              rw [List.length_map, List.length_map, hlen]
              repeat walk_at "ex"
              rw [beq_self_eq_true]
              repeat walk_at "ex"
              refine co_ne_ints hR.eqs List.mem_cons_self (up3 hpa3) ?_
              rw [decide_eq_true rfl]
              repeat walk_at "ex"
              exact ⟨rfl, by walk_at "wkl", by walk_at "wk"⟩
            · rw [hg] at hF
              obtain ⟨v, hF⟩ := hF
              have hlen := order_ring hhn hch hP hF
              repeat walk_at "ex"
              refine call_len_l (up2 hpa3) (by rw [List.length_map]; walk_at "le") ?_
              repeat walk_at "ex"
              refine call_len_l (up2 hha3) (by rw [List.length_map]; walk_at "le") ?_
              rw [List.length_map, List.length_map]
              repeat walk_at "ex"
              rw [cast_beq, decide_eq_false hlen]
              repeat walk_at "ex"
              refine co_ne_none hR.eqs ?_
              repeat walk_at "ex"
              exact ⟨rfl, by walk_at "wkl", by walk_at "wk"⟩
          rintro m' H' ⟨hm', hW'⟩
          refine seq_next (exs_wk hm' hW' ?_)
          clear hm' hW'
          have hnl := bld_nodes hrn hcr
          have hPg : P = (rndH (bldG row f) held row.length).1.1 := head_given upto_nd hrn hnl hrk (by rw [← hhead]; exact hP)
          have hgw := given_waits hrn hnl hPg
          have hga := given_active hrn hnl hPg
          have hgf := rndH_filter (g := bldG row f) (held := held) row.length
          have hgl := nd_len (rndH_ond (held := held) (bld_W (row := row) (f := f)) row.length) (rndH_rnd (held := held) (bld_W (row := row) (f := f)) row.length).inG
          rw [hnl] at hgl
          rw [hrl] at hgw hga hgf hgl hPg
          rw [← hPg] at hgf
          walk_at "ex"
          refine' ex_assign ?h8 ?hs8 ?hw8
          case hs8 => rfl
          case hw8 => rw [sw_eq Z.scope]; rfl
          repeat walk_at "ex"
          walk_at "kpf"
          refine (sorter_ok T' (n := 50) (hR.less (Nat.le_of_ble_eq_true rfl)) hd3 ht upto_nd hrow3 hr5 hrk (fun y hy => hz6 y (hrk y hy)) fun σ ok hre hpo hg => ?_).call
          repeat walk_at "ex"
          walk_at "kpf"
          refine (given_ok T' (n := 50) (hR.less (Nat.le_of_ble_eq_true rfl)) ok hre hpo hg bld_W hbd hsz5 hhl3 fun t3 gv => ?_).call
          rw [hga]
          generalize (rndH (bldG row f) held sz).1.2 = O at hgw hgf hgl ⊢
          clear hga hPg hnl hP hbd ok hre hpo hg
          repeat walk_at "ex"
          refine' asg_tup2 hR.hand List.mem_cons_self ?ha10 ?he10
          case he10 => rfl
          repeat walk_at "ex"
          refine' turns_lc (us := row) (tv := vI) ?hb11 (itr_list hR.hand (up2 hrow3)) (fun H hW => hW.1 _ (up2 hrow3)) (by walk_at "le") (fun y => decide (y ∈ held) && decide (((f y).filter fun x => !decide (x ∈ P)) = [])) vI ?turn11 ?fin11 Z.scope
          case hb11 => rfl
          case turn11 =>
            intro fx2 Z2 y hy
            repeat walk_at "ex"
            refine co_in_list (up2 hhl3) ?_
            repeat walk_at "ex"
            refine if_dec (fun hb => ?_) (fun hb => ?_)
            · repeat walk_at "ex"
              refine sub_dl (hd3.wk (Wk.cons (Wk.cons Wk.refl))) ht upto_nd (hrk y hy) fun l hl => ?_
              refine' turns_lc (us := f y) (tv := vI) ?hb12 (itr_list hR.hand hl) (fun H hW => hW.1 _ hl) (le_N (hz2 y (hrk y hy)) rfl) (fun x => !decide (x ∈ P)) vI ?turn12 ?fin12 Z2.scope
              case hb12 => rfl
              case turn12 =>
                intro fx3 Z3 x hx
                repeat walk_at "ex"
                refine co_notin_list (up2 hpa3) ?_
                repeat walk_at "ex"
                walk_at "pick"
              case fin12 =>
                intro a ha
                repeat walk_at "ex"
                refine ⟨by decide, fun b hb3 => ?_⟩
                refine co_eq_ints (ns := (f y).filter fun x => !decide (x ∈ P)) (ms := []) hR.eqs (up1 List.mem_cons_self) List.mem_cons_self ?_
                rw [hb, Bool.true_and]
                repeat walk_at "ex"
                walk_at "pick"
            · rw [hb, Bool.false_and]
              repeat walk_at "ex"
              exact ⟨rfl, if_no ⟨by walk_at "wkl", by walk_at "wk"⟩⟩
          case fin11 =>
            intro wt hwt
            have ew : (row.filter fun y => decide (y ∈ held) && decide (((f y).filter fun x => !decide (x ∈ P)) = [])).map vI = iv (waitsF row held f P) := rfl
            rw [ew]
            have hw5 : (waitsF row held f P).length ≤ 5 := Nat.le_trans (List.length_filter_le _ _) hr5
            generalize waitsF row held f P = U at hgw hw5 ⊢
            repeat walk_at "ex"
            walk_at "kpf"
            refine (filter_ints (n := 50) T' (hR.less (Nat.le_of_ble_eq_true rfl)) (up2 List.mem_cons_self) (up3 hhl3) (by walk_at "le") fun D1 hD1 => ?_).call
            rw [hgf]
            repeat walk_at "ex"
            refine co_eq_ints hR.eqs List.mem_cons_self (up1 (up3 hpa3)) ?_
            rw [decide_eq_true rfl]
            repeat walk_at "ex"
            walk_at "kpf"
            refine (filter_ints (n := 50) T' (hR.less (Nat.le_of_ble_eq_true rfl)) (up3 List.mem_cons_self) (up1 (up3 hpa3)) (by walk_at "le") fun D2 hD2 => ?_).call
            repeat walk_at "ex"
            have hO6 : (O.filter fun x => decide (x ∉ P)).length ≤ 5 := by rw [hgw.length_eq]; exact hw5
            refine call_sorted List.mem_cons_self (by walk_at "le") fun a1 K1 ha1 hp1 hle1 => ?_
            rw [srt_uniq (hp1.trans hgw) hle1]
            repeat walk_at "ex"
            refine call_sorted (up3 List.mem_cons_self) (by walk_at "le") fun a2 K2 ha2 hp2 hle2 => ?_
            rw [srt_uniq hp2 hle2]
            repeat walk_at "ex"
            refine co_eq_ints hR.eqs (up1 List.mem_cons_self) List.mem_cons_self ?_
            rw [decide_eq_true rfl]
            repeat walk_at "ex"
            refine ⟨by decide, fun e he => ?_⟩
            refine co_ne_ints (ns := U) (ms := []) hR.eqs (up2 (up3 List.mem_cons_self)) List.mem_cons_self ?_
            repeat walk_at "ex"
            rw [beq_self_eq_true]
            repeat walk_at "ex"
            rfl

noncomputable def join02.tw9365793727874726591 : Nat := 0
noncomputable def join02.tw9212860483535840395 : Nat := 0
noncomputable def join02.tw2506076055971022940 : Nat := 0
noncomputable def join02.tw14101255759329934388 : Nat := 0
noncomputable def join02.tw10516966082623376243 : Nat := 0
noncomputable def join02.tw1461718780714086793 : Nat := 0
noncomputable def join02.tw3603923588869293163 : Nat := 0
noncomputable def join02.tw12225756700448727727 : Nat := 0
noncomputable def join02.tw16656214651229380609 : Nat := 0
noncomputable def join02.tw4978598581805134142 : Nat := 0
noncomputable def join02.tw8648676275687755713 : Nat := 0
noncomputable def join02.tw9794664162116396848 : Nat := 0
noncomputable def join02.tw3635408081415579321 : Nat := 0
noncomputable def join02.tw2587291533483677138 : Nat := 0
noncomputable def join02.tw4498885736710126552 : Nat := 0
noncomputable def join02.tw15842802742283951769 : Nat := 0
noncomputable def join02.tw6252014855022762330 : Nat := 0
noncomputable def join02.tw9819721606739623528 : Nat := 0
noncomputable def join02.tw6008582718416292035 : Nat := 0
noncomputable def join02.tw1421702722593911012 : Nat := 0
noncomputable def join02.tw12955391422046698298 : Nat := 0
noncomputable def join02.tw16082140721247415046 : Nat := 0
noncomputable def join02.tw16981285805222021704 : Nat := 0
noncomputable def join02.tw16894401756516933244 : Nat := 0
noncomputable def join02.tw15371365811003850932 : Nat := 0
noncomputable def join02.tw12291552147480847686 : Nat := 0
noncomputable def join02.tw13260916783649543817 : Nat := 0
noncomputable def join02.tw14134204921189676487 : Nat := 0
noncomputable def join02.tw9688360211159684990 : Nat := 0
noncomputable def join02.tw9105062395915286363 : Nat := 0
noncomputable def join02.tw2600799525261697118 : Nat := 0
noncomputable def join02.tw5557120759828768654 : Nat := 0
noncomputable def join02.tw15073144986920948183 : Nat := 0
noncomputable def join02.tw6962147598684277903 : Nat := 0
noncomputable def join02.tw11703085114695119035 : Nat := 0
noncomputable def join02.tw2151683400345483756 : Nat := 0
noncomputable def join02.tw13990711616136745779 : Nat := 0
noncomputable def join02.tw13602685798235851360 : Nat := 0
noncomputable def join02.tw15787769798711487216 : Nat := 0
noncomputable def join02.tw15857208166555316078 : Nat := 0
noncomputable def join02.tw11423526717765836225 : Nat := 0
noncomputable def join02.tw11091172837341836170 : Nat := 0
noncomputable def join02.tw13311562675530247681 : Nat := 0
noncomputable def join02.tw10115852822130627113 : Nat := 0
noncomputable def join02.tw16077850237099929083 : Nat := 0
noncomputable def join02.tw15355711940619228355 : Nat := 0
noncomputable def join02.tw4447212907478953824 : Nat := 0
noncomputable def join02.tw7421647093189675965 : Nat := 0
noncomputable def join02.tw14193931993302981538 : Nat := 0
noncomputable def join02.tw12120313310952004522 : Nat := 0
noncomputable def join02.tw3315204214861389034 : Nat := 0
noncomputable def join02.tw8749770967823328910 : Nat := 0
noncomputable def join02.tw420535275145227330 : Nat := 0
noncomputable def join02.tw8648423187857237530 : Nat := 0
noncomputable def join02.tw13146934039825841347 : Nat := 0
noncomputable def join02.tw10936095349250913648 : Nat := 0
noncomputable def join02.tw11328902346428500095 : Nat := 0
noncomputable def join02.tw32760618519538943 : Nat := 0
noncomputable def join02.tw10078123293412855104 : Nat := 0
noncomputable def join02.tw5934301336445434730 : Nat := 0
noncomputable def join02.tw14895886038258996745 : Nat := 0
noncomputable def join02.tw5298992569467135055 : Nat := 0
noncomputable def join02.tw13747033747382232098 : Nat := 0
noncomputable def join02.tw5939831764513775029 : Nat := 0
noncomputable def join02.tw6893420446001502358 : Nat := 0
noncomputable def join02.tw9519780927203810562 : Nat := 0
noncomputable def join02.tw10616494560120872817 : Nat := 0
noncomputable def join02.tw4019292686284476715 : Nat := 0
noncomputable def join02.tw10318692108749250836 : Nat := 0
noncomputable def join02.tw3062846747759253830 : Nat := 0
noncomputable def join02.tw12493932331782448988 : Nat := 0
noncomputable def join02.tw2335296035127795147 : Nat := 0
noncomputable def join02.tw4760035206704735534 : Nat := 0
noncomputable def join02.tw5828374501945952042 : Nat := 0
noncomputable def join02.tw16186011009278699126 : Nat := 0
noncomputable def join02.tw8994865649626478616 : Nat := 0
noncomputable def join02.tw10667617059668102265 : Nat := 0
noncomputable def join02.tw11573074354924144981 : Nat := 0
noncomputable def join02.tw12536060549004518237 : Nat := 0
noncomputable def join02.tw583765019622668360 : Nat := 0
noncomputable def join02.tw17832270628239874045 : Nat := 0
noncomputable def join02.tw13231721133418797510 : Nat := 0
noncomputable def join02.tw1638647424796945655 : Nat := 0
noncomputable def join02.tw8693556592126368819 : Nat := 0
noncomputable def join02.tw16027137232021143828 : Nat := 0
noncomputable def join02.tw3798014416000304860 : Nat := 0
noncomputable def join02.tw1209287530116440905 : Nat := 0
noncomputable def join02.tw10973753346800790973 : Nat := 0
noncomputable def join02.tw9367265488499186898 : Nat := 0
noncomputable def join02.tw1246122211522166535 : Nat := 0
noncomputable def join02.tw15900822389760267633 : Nat := 0
noncomputable def join02.tw7716658511198096443 : Nat := 0
noncomputable def join02.tw18184571865852724593 : Nat := 0
noncomputable def join02.tw18135466569128232340 : Nat := 0
noncomputable def join02.tw15813931698360739493 : Nat := 0
noncomputable def join02.tw5313236495004349448 : Nat := 0
noncomputable def join02.tw795337293146890366 : Nat := 0
noncomputable def join02.tw9923960213136383967 : Nat := 0
noncomputable def join02.tw3167636040937643572 : Nat := 0
noncomputable def join02.tw8247011511470216014 : Nat := 0
noncomputable def join02.tw5162977231836871411 : Nat := 0
noncomputable def join02.tw9314193487845564231 : Nat := 0
noncomputable def join02.tw5115078009031899352 : Nat := 0
noncomputable def join02.tw11181847351126807041 : Nat := 0
noncomputable def join02.tw5665554055290350025 : Nat := 0
noncomputable def join02.tw6836136754109039049 : Nat := 0
noncomputable def join02.tw18387143884480144825 : Nat := 0
noncomputable def join02.tw13989086091326110294 : Nat := 0
noncomputable def join02.tw12464554623133624918 : Nat := 0
noncomputable def join02.tw16808175590920432404 : Nat := 0
noncomputable def join02.tw9621677451738992016 : Nat := 0
noncomputable def join02.tw9726204165733016222 : Nat := 0
noncomputable def join02.tw1539991835012017311 : Nat := 0
noncomputable def join02.tw4075286485279892923 : Nat := 0
noncomputable def join02.tw4685408621293015825 : Nat := 0
noncomputable def join02.tw14995317910815119953 : Nat := 0
noncomputable def join02.tw9179257201505780449 : Nat := 0
noncomputable def join02.tw4699172968732621743 : Nat := 0
noncomputable def join02.tw8147466716923196426 : Nat := 0
noncomputable def join02.tw12003966198494158193 : Nat := 0
set_option Elab.async true in
set_option maxHeartbeats 16000000 in
theorem join02 : PySem.Challenge.rw_ik0042_02.Holds := by
  w_on; o_law; o_head (kHook K02 asK02 (fun _ => by kernel_rfl)); (case hw => w_witness2)
  intro w s₀ s₁ mg mb G Y a o pm cd doc dV kV ho hod hcr hdf hmg hgens args vals as hpre hlay hrd hwell hna
  obtain rfl := (hdf.pos.resolve_right fun h => h.1 rfl).2
  obtain rfl := (hdf.kw.resolve_right fun h => h.1 rfl).2
  have hK := kIn_of Y
  have TR := topRead_of G.T
  wrow_args hpre hlay hrd hwell hna
  rename Heap.IsList _ _ _ => hL
  rename IntsAre _ _ => hI
  rename ¬ _ < _ => h63
  have T : Top ⟨PySem.Challenge.rw_ik0042_02.row.prog, w, s₁.heap, s₁.os⟩ (K02 w.params) := ⟨hK, ⟨_, TR.g⟩, ⟨_, TR.b, TR.builtins⟩, TR.nolimit, ⟨_, _, _, _, TR⟩⟩
  refine wpAny_call (codeAny_mono (call_top (binds := ?binds) (prog := PySem.Challenge.rw_ik0042_02.row.prog) (w := w) (R := fun v => v = .bool true) ⟨⟨o, ho, hod⟩, rfl, rfl, rfl, rfl, hcr, TR.nolimit, rfl, rfl, rfl⟩ ?room ?low rfl ?gens ?hbind ?hb ?body) fun r s' hr => ?fin)
  case room => decide +kernel
  case low => exact ⟨let ⟨o, _, _, h, _⟩ := TR.g; ⟨o, h⟩, let ⟨_, ⟨o, _, _, h, _⟩, _⟩ := (G.T.seer (by decide +kernel)).mods; ⟨o, h⟩⟩
  case gens => exact .of_eq hgens
  case hbind => rfl
  case hb => exact bindOk_of rfl
  case body =>
    intro fx' I
    have Z := I.sc
    dsimp only [PySem.Calls.docDef] at Z
    have hh : Here (callerA.deeper fx'.env) fx' := Here.of I
    have hR : Room (callerA.deeper fx'.env) 100 := ⟨by show callerA.depth + 1 + 4 * 100 ≤ 900; decide +kernel, by show callerA.units + 3 + 20 * 100 ≤ 9000; decide +kernel, rfl⟩
    have hb : BL ⟨PySem.Challenge.rw_ik0042_02.row.prog, w, s₁.heap, s₁.os⟩ _ _ := ⟨_, hL, er_intsAre hI⟩
    obtain ⟨C, hC⟩ : ∃ C : Cfg, C = ⟨PySem.Challenge.rw_ik0042_02.row.prog, w, s₁.heap, s₁.os⟩ := ⟨_, rfl⟩
    have T' : Top C (K02 C.w.params) := by rw [hC]; exact T
    rw [← hC] at hb ⊢
    clear hdf hmg hod hcr hL hI T TR hK Y G ho
    clear hC I
    generalize callerA.deeper fx'.env = A' at hR hh ⊢
    refine exs_wk (m' := [("script", _)]) (H' := []) WkL.refl Wk.refl ?_
    refine hide fun z611 => ?_
    obtain ⟨l, ns, rfl, rfl⟩ := hb.nm
    refine z611 ?_
    have hlen : ns.length ≤ 63 := by have := Int.not_lt.mp h63; omega
    exact law_body (ns := ns) T' hR hb hlen Z
  case fin =>
    refine hide fun z612 => ?_
    obtain ⟨v, rfl, hv, hk, hos, hg⟩ := hr
    refine z612 ?_
    obtain rfl := er_eq_bool hv
    refine ⟨.inl ⟨_, .bool true, [], rfl, fun cls => ?_, .bool true, ?_, fun _ => ⟨List.nodup_nil, fun a h => by cases h⟩⟩, .of_keep hk, hos, hg⟩
    · rfl
    · wrow_post

end Mine

theorem PySem.Challenge.cw_ik0042_02_holds : PySem.Challenge.rw_ik0042_02.Holds :=
  Mine.join02
